import JvmDerived
import JvmDerived.Pilot.@@N@@Statement
import JvmDerived.Pilot.@@N@@Code
set_option linter.unusedVariables false
set_option linter.unusedSimpArgs false
namespace Jvm.Pilot.@@N@@
open Jvm Jvm.ClassFile Sem Op Lib Jvm.Free Jvm.Stand Jvm.LawKit Jvm.RoadKit Bundle Jvm.Pilot.@@N@@.Jvm.D
section Own
variable {p : Program} {l : Launch} {e : Env} {R : Room} {s : State} {m : MethodId} {args : Array Value} {below : List Frame} {meth : Method} {c : Code} {T : State} {locs : List Loc} {cells slots : Nat} {G : State → Outcome → Prop}
def Go (p : Program) (e : Env) (below : List Frame) (G : State → Outcome → Prop) (st : State) : Prop := ∃ s₂ o, Steps p.tables e below st s₂ ∧ s₂.status = .running ∧ Ended s₂ below o ∧ G s₂ o
theorem Go.st {A B : State} (k : ∀ t, Steps p.tables e below B t → Steps p.tables e below A t) (h : Go p e below G B) : Go p e below G A := by
  obtain ⟨s₂, o, h1, h2⟩ := h
  exact ⟨s₂, o, k _ h1, h2⟩
theorem Go.tr {A B : State} (k : Steps p.tables e below A B) (h : Go p e below G B) : Go p e below G A := by
  obtain ⟨s₂, o, h1, h2⟩ := h
  exact ⟨s₂, o, k.trans h1, h2⟩
theorem Go.retW (X : Stand p l e R s m args below meth c T locs cells slots) (hx : p.tables.exec = Jvm.exec) {t : FieldType} (hret : meth.sig.returnType = some t) {w : Value} {i : Instr} (hn : narrow t w = w)
    (hi : (i = .ireturn ∧ (t = .int ∨ t = .boolean ∨ t = .byte ∨ t = .char ∨ t = .short) ∧ ∃ z, w = .int z) ∨ (i = .lreturn ∧ t = .long ∧ ∃ z, w = .long z) ∨ (i = .dreturn ∧ t = .double ∧ ∃ z, w = .double z) ∨ (i = .freturn ∧ t = .float ∧ ∃ z, w = .float z) ∨ (i = .areturn ∧ t.isReference = true ∧ w.isRef = true))
    (hlk : meth.locks = false) {pc : Nat} {Ls : Array Slot} {rest : List Value} (hd : decode c.code pc = .ok (i, 1)) {C S : Nat} {Q : Option Value → Heap → List Loc → Prop} (hC : cells ≤ C) (hS : slots ≤ S) (q : Q (some w) T.heap locs) :
    Go p e below (fun s₂ o => ∃ v L, o = .returned v ∧ Q v s₂.heap L ∧ FrameEnd s o s₂ L C S) (T.setTop (mkF m pc Ls (w :: rest))) := by
  obtain ⟨fs, hr, hrun, hended, hW, hsame⟩ := X.leave (v := some w) (fun h => by rw [hret] at h; cases h) hlk
  exact ⟨_, _, retOut X hx hret hn hi hd hr, hrun, hended, _, _, rfl, q, ⟨_, rfl⟩, hW, hsame.mono hC hS⟩
theorem Go.retN (X : Stand p l e R s m args below meth c T locs cells slots) (hx : p.tables.exec = Jvm.exec) {t : FieldType} (hret : meth.sig.returnType = some t) (ht : t = .boolean ∨ t = .byte ∨ t = .char ∨ t = .short) (hlk : meth.locks = false) {pc : Nat} {Ls : Array Slot} {z : Int32} {rest : List Value} (hd : decode c.code pc = .ok (.ireturn, 1))
    {C S : Nat} {Q : Option Value → Heap → List Loc → Prop} (hC : cells ≤ C) (hS : slots ≤ S) (q : Q (some (.int (nar t z))) T.heap locs) :
    Go p e below (fun s₂ o => ∃ v L, o = .returned v ∧ Q v s₂.heap L ∧ FrameEnd s o s₂ L C S) (T.setTop (mkF m pc Ls (.int z :: rest))) := by
  obtain ⟨fs, hr, hrun, hended, hW, hsame⟩ := X.leave (v := some (.int (nar t z))) (fun h => by rw [hret] at h; cases h) hlk
  exact ⟨_, _, Jvm.RoadKit.retN X hx hret ht hd hr, hrun, hended, _, _, rfl, q, ⟨_, rfl⟩, hW, hsame.mono hC hS⟩
theorem Go.retI (X : Stand p l e R s m args below meth c T locs cells slots) (hx : p.tables.exec = Jvm.exec) (hret : meth.sig.returnType = some .int) (hlk : meth.locks = false) {pc : Nat} {Ls : Array Slot} {z : Int32} {rest : List Value} (hd : decode c.code pc = .ok (.ireturn, 1))
    {C S : Nat} {Q : Option Value → Heap → List Loc → Prop} (hC : cells ≤ C) (hS : slots ≤ S) (q : Q (some (.int z)) T.heap locs) :
    Go p e below (fun s₂ o => ∃ v L, o = .returned v ∧ Q v s₂.heap L ∧ FrameEnd s o s₂ L C S) (T.setTop (mkF m pc Ls (.int z :: rest))) :=
  Go.retW X hx hret rfl (Or.inl ⟨rfl, Or.inl rfl, z, rfl⟩) hlk hd hC hS q
theorem Go.retL (X : Stand p l e R s m args below meth c T locs cells slots) (hx : p.tables.exec = Jvm.exec) (hret : meth.sig.returnType = some .long) (hlk : meth.locks = false) {pc : Nat} {Ls : Array Slot} {z : Int64} {rest : List Value} (hd : decode c.code pc = .ok (.lreturn, 1))
    {C S : Nat} {Q : Option Value → Heap → List Loc → Prop} (hC : cells ≤ C) (hS : slots ≤ S) (q : Q (some (.long z)) T.heap locs) :
    Go p e below (fun s₂ o => ∃ v L, o = .returned v ∧ Q v s₂.heap L ∧ FrameEnd s o s₂ L C S) (T.setTop (mkF m pc Ls (.long z :: rest))) :=
  Go.retW X hx hret rfl (Or.inr (Or.inl ⟨rfl, rfl, z, rfl⟩)) hlk hd hC hS q
theorem Go.retA (X : Stand p l e R s m args below meth c T locs cells slots) (hx : p.tables.exec = Jvm.exec) {t : FieldType} (hret : meth.sig.returnType = some t) {w : Value} (ht : t.isReference = true) (hw : w.isRef = true) (hlk : meth.locks = false) {pc : Nat} {Ls : Array Slot} {rest : List Value} (hd : decode c.code pc = .ok (.areturn, 1))
    {C S : Nat} {Q : Option Value → Heap → List Loc → Prop} (hC : cells ≤ C) (hS : slots ≤ S) (q : Q (some w) T.heap locs) :
    Go p e below (fun s₂ o => ∃ v L, o = .returned v ∧ Q v s₂.heap L ∧ FrameEnd s o s₂ L C S) (T.setTop (mkF m pc Ls (w :: rest))) :=
  Go.retW X hx hret (by rcases ref_cases hw with rfl | ⟨a, rfl⟩ <;> cases t <;> first | rfl | cases ht) (Or.inr (Or.inr (Or.inr (Or.inr ⟨rfl, ht, hw⟩)))) hlk hd hC hS q
theorem Go.retV (X : Stand p l e R s m args below meth c T locs cells slots) (hx : p.tables.exec = Jvm.exec) (hret : meth.sig.returnType = none) (hlk : meth.locks = false) {pc : Nat} {Ls : Array Slot} (hd : decode c.code pc = .ok (.return_, 1))
    {C S : Nat} {Q : Option Value → Heap → List Loc → Prop} (hC : cells ≤ C) (hS : slots ≤ S) (q : Q none T.heap locs) :
    Go p e below (fun s₂ o => ∃ v L, o = .returned v ∧ Q v s₂.heap L ∧ FrameEnd s o s₂ L C S) (T.setTop (mkF m pc Ls [])) := by
  obtain ⟨fs, hr, hrun, hended, hW, hsame⟩ := X.leave (v := none) (fun _ => rfl) hlk
  exact ⟨_, _, X.returnOut hx hret hd hr, hrun, hended, _, _, rfl, q, ⟨_, rfl⟩, hW, hsame.mono hC hS⟩
end Own
theorem own_self {Z s : State} {a0 args : Array Value} {y : MethodName} {n : Nat} (hZ : Z.Warmed39 s.vm) (wi : (Cond.instantiable y.cls n).before a0 Z = true) (wp : (Cond.privateMethod y).before a0 Z = true) (wm : (Cond.instanceMethod y).before a0 Z = true) (hy : y.cls ≠ "java/lang/invoke/MethodHandle" ∧ y.cls ≠ "java/lang/invoke/VarHandle") : (Cond.selects y.cls y y).before args s = true := by
  have wi' : (Cond.instantiable y.cls n).before args s = true := mv hZ wi
  obtain ⟨c, k, i1, i2, -, i4, -⟩ := Cond.instantiable_spec wi'
  simp only [Bool.or_eq_false_iff] at i4
  exact selects_self_of_private i1 i2 i4.1 (Cond.privateMethod_at (mvP hZ wp (args := #[]))) (mv hZ wm) hy
section OwnAV
variable {Z : State} {h h' : Heap} {a b : Addr} {ty : FieldType} {n : Int32} {ws : List Addr} {sl : Nat} {v d : Value} {k : ClassId} {vs : List Value}
def AV (Z : State) (h : Heap) (a : Addr) (ty : FieldType) (n : Int32) : Prop := ∃ c : Cell, Arr Z h a c ty ∧ c.slots.size = n.toNatClampNeg ∧ ¬ n < 0 ∧ ∀ (i : Nat) (v : Value), c.slots[i]? = some v → fits ty v = true
theorem AV.lt (F : AV Z h a ty n) : a < h.size := by obtain ⟨c, A, -⟩ := F; exact A.lt
theorem AV.ext (F : AV Z h a ty n) (E : Ext h h') : AV Z h' a ty n := by obtain ⟨c, A, r⟩ := F; exact ⟨c, A.ext E, r⟩
theorem AV.other (F : AV Z h a ty n) (W : Wr h h' b sl v) (q : a ≠ b) : AV Z h' a ty n := by obtain ⟨c, A, r⟩ := F; exact ⟨c, A.other W q, r⟩
theorem AV.keep (F : AV Z h a ty n) (K : Keep h h' ws) (q : a ∉ ws) : AV Z h' a ty n := by obtain ⟨c, A, r⟩ := F; exact ⟨c, ⟨K.2.1 a c A.1 q, A.2⟩, r⟩
theorem AV.of (F : Arv Z h a k ty n vs d) : AV Z h a ty n := by
  obtain ⟨c, A, -, S, q, H, G⟩ := F
  refine ⟨c, A, S, q, fun i w hw => ?_⟩
  have hi := (Array.getElem?_eq_some_iff.mp hw).1
  have := H i hi
  rw [hw] at this
  rw [Option.some.inj this]; exact G i hi
theorem AV.new (A : Arr Z h a (newA k ty n) ty) (q : ¬ n < 0) (fd : fits ty (defaultValue ty) = true) : AV Z h a ty n := by
  refine ⟨_, A, sz_new _ _ _, q, fun i w hw => ?_⟩
  simp only [newA, Array.getElem?_replicate] at hw
  split at hw
  · cases hw; exact fd
  · cases hw
theorem AV.set {c : Cell} (A : Arr Z h a c ty) (S : c.slots.size = n.toNatClampNeg) (q : ¬ n < 0) (G : ∀ (i : Nat) (v : Value), c.slots[i]? = some v → fits ty v = true) (hv : fits ty v = true) (W : Wr h h' a sl v) : AV Z h' a ty n := by
  refine ⟨_, A.same W, by rw [sz_set]; exact S, q, fun i w hw => ?_⟩
  by_cases e : sl = i
  · subst e
    have hi := (Array.getElem?_eq_some_iff.mp hw).1
    simp only [Cell.setSlot, Array.size_setIfInBounds] at hi
    simp [Cell.setSlot, hi] at hw
    subst hw; exact hv
  · simp only [Cell.setSlot] at hw
    rw [Array.getElem?_setIfInBounds_ne e] at hw
    exact G i w hw
theorem AV.arv (F : AV Z h a ty n) (d : Value) : ∃ k vs, Arv Z h a k ty n vs d ∧ vs.length = n.toNatClampNeg := by
  obtain ⟨c, A, S, q, G⟩ := F
  refine ⟨c.cls, c.slots.toList, ⟨c, A, rfl, S, q, fun i hi => ?_, fun i hi => ?_⟩, by simpa using S⟩
  · simp [List.getD_eq_getElem?_getD, hi]
  · refine G i _ ?_
    simp [List.getD_eq_getElem?_getD, hi]
end OwnAV
def own_min (a b : Int32) : Int32 := if b < a then b else a
def own_pick (i : Int32) (wr wo wu : Addr) : Addr := if i = 1 then wo else if i = 0 then wr else wu
theorem own_and (x m : Int32) (h : 0 ≤ m.toInt) : ¬ (x &&& m) < 0 := by
  have h := (c_and x m h).1
  have e0 : (0 : Int32).toInt = 0 := by decide
  simp only [Int32.lt_iff_toInt_lt]
  omega
theorem own_big (x : Int32) (h0 : ¬ x < 0) (h1 : ¬ x = 0) (h2 : ¬ x = 1) : own_min x 2 = 2 := by
  unfold own_min
  have e0 : (0 : Int32).toInt = 0 := by decide
  have e1 : (1 : Int32).toInt = 1 := by decide
  have e2 : (2 : Int32).toInt = 2 := by decide
  simp only [Int32.lt_iff_toInt_lt, ← Int32.toInt_inj] at h0 h1 h2
  split
  · rfl
  · rename_i q
    rw [Int32.lt_iff_toInt_lt] at q
    exact Int32.toInt_inj.mp (by omega)
theorem d1_0 : decode jdk_29_method_69_code 0 = .ok (.iload_n 0, 1) := by decide +kernel
theorem d1_1 : decode jdk_29_method_69_code 1 = .ok (.iload_n 1, 1) := by decide +kernel
theorem d1_2 : decode jdk_29_method_69_code 2 = .ok (.if_icmp .gt 7, 3) := by decide +kernel
theorem d1_5 : decode jdk_29_method_69_code 5 = .ok (.iload_n 0, 1) := by decide +kernel
theorem d1_6 : decode jdk_29_method_69_code 6 = .ok (.goto 4, 3) := by decide +kernel
theorem d1_9 : decode jdk_29_method_69_code 9 = .ok (.iload_n 1, 1) := by decide +kernel
theorem d1_10 : decode jdk_29_method_69_code 10 = .ok (.ireturn, 1) := by decide +kernel
def Q_rm1 (Z : State) (i : Int32) (j : Int32) (h0 : Heap) (n0 : Nat) (v : Option Value) (h : Heap) (L : List Loc) : Prop := v = some (.int (own_min i j)) ∧ Fr n0 L ∧ h = h0
theorem ef_rm1 (m : MethodId) (i : Int32) (j : Int32) : entryFrame m #[(.int i), (.int j)] 2 = mkF m 0 #[.val (.int i), .val (.int j)] [] := by first | (simp [entryFrame, mkF, argsToLocals, Value.category]; done) | rfl
set_option maxRecDepth 65536 in
set_option maxHeartbeats 40000000 in
theorem rm1 (l : Launch) (Z : State) (a0 : Array Value) (hw : ∀ d ∈ tables_1, d.before a0 Z = true) (ws : List Jvm.Cond) (i : Int32) (j : Int32) (h0 : Heap) (n0 : Nat) (Z0 : n0 ≤ h0.size) :
    MetFree l (⟨"java/lang/Math", "min", "(II)I"⟩ : MethodName) (head1 (Jvm.Cond.code (⟨"java/lang/Math", "min", "(II)I"⟩ : MethodName) jdk_29_method_69_code 2 (some .int) :: ws) ({ frames := 0, cells := 0, slots := 0, locals := 0 } : Room)) (fun ag_ U_ => ag_ = #[(.int i), (.int j)] ∧ Z.Warmed39 U_.vm ∧ U_.heap = h0) (fun _ _ _ _ _ => True) (fun _ U_ o_ V_ => ∃ v_ L_, o_ = .returned v_ ∧ (Q_rm1 Z i j h0 n0) v_ V_.heap L_ ∧ FrameEnd U_ o_ V_ L_ ({ frames := 0, cells := 0, slots := 0, locals := 0 } : Room).cells ({ frames := 0, cells := 0, slots := 0, locals := 0 } : Room).slots) := by
  refine MetFree.of_bodySF (Jvm.Free.JP.mathPlain rfl (by decide +kernel)) hisR ?_
  intro p e s m args below meth c s₁ Bd hml0 hP hK
  obtain ⟨rfl, hZ, hh⟩ := hP
  have hx := Bd.exec
  have hby := Bd.bytes
  have hml : c.maxLocals = 2 := hml0
  have hown : s.vm.findClass "java/lang/Math" = some m.cls := findClass_of_methodNamed Bd.named
  have hnm := (name_of_methodNamed Bd.named Bd.method).1
  have X0 : Stand p l e ({ frames := 0, cells := 0, slots := 0, locals := 0 } : Room) s m #[(.int i), (.int j)] below meth c s₁ [] 0 0 := Stand.of_body Bd
  have e0 : s₁.heap = h0 := by rw [← hh, Bd.state]; rfl
  have N0 := Fr.nil n0
  refine Go.st (G := fun s₂ o_ => ∃ v_ L_, o_ = .returned v_ ∧ (Q_rm1 Z i j h0 n0) v_ s₂.heap L_ ∧ FrameEnd s o_ s₂ L_ ({ frames := 0, cells := 0, slots := 0, locals := 0 } : Room).cells ({ frames := 0, cells := 0, slots := 0, locals := 0 } : Room).slots) (fun t kt => castTop (ef_rm1 m i j) kt) ?_
  show Go p e below _ (s₁.setTop (mkF m 0 #[.val (.int i), .val (.int j)] []))
  refine Go.st (fun _ kt => XS.iloadN X0.here hx rfl (hb hby d1_0) rfl kt) ?_
  show Go p e below _ (s₁.setTop (mkF m 1 #[.val (.int i), .val (.int j)] [(.int i)]))
  refine Go.st (fun _ kt => XS.iloadN X0.here hx rfl (hb hby d1_1) rfl kt) ?_
  show Go p e below _ (s₁.setTop (mkF m 2 #[.val (.int i), .val (.int j)] [(.int j), (.int i)]))
  by_cases hc2_1 : j < i
  · refine Go.st (fun _ kt => XS.icmpYes X0.here hx rfl (pc0 := 2) (pc' := 9) rfl (hb hby d1_2) rfl (tlt hc2_1).2.2.1 (by decide) (by decide) kt) ?_
    show Go p e below _ (s₁.setTop (mkF m 9 #[.val (.int i), .val (.int j)] []))
    refine Go.st (fun _ kt => XS.iloadN X0.here hx rfl (hb hby d1_9) rfl kt) ?_
    show Go p e below _ (s₁.setTop (mkF m 10 #[.val (.int i), .val (.int j)] [(.int j)]))
    refine Go.retI X0 hx Bd.returns (BodyLoose.notSynchronized Bd) (hb hby d1_10) (Q := (Q_rm1 Z i j h0 n0)) (by decide) (by decide) ?_
    show (Q_rm1 Z i j h0 n0) _ s₁.heap _
    rw [e0]
    exact ⟨by simp [own_min, *], N0, rfl⟩
  · refine Go.st (fun _ kt => XS.icmpNo X0.here hx rfl (hb hby d1_2) rfl (flt hc2_1).2.2.1 kt) ?_
    show Go p e below _ (s₁.setTop (mkF m 5 #[.val (.int i), .val (.int j)] []))
    refine Go.st (fun _ kt => XS.iloadN X0.here hx rfl (hb hby d1_5) rfl kt) ?_
    show Go p e below _ (s₁.setTop (mkF m 6 #[.val (.int i), .val (.int j)] [(.int i)]))
    refine Go.st (fun _ kt => XS.goto X0.here hx rfl (pc0 := 6) (pc' := 10) rfl (hb hby d1_6) (by decide) (by decide) kt) ?_
    show Go p e below _ (s₁.setTop (mkF m 10 #[.val (.int i), .val (.int j)] [(.int i)]))
    refine Go.retI X0 hx Bd.returns (BodyLoose.notSynchronized Bd) (hb hby d1_10) (Q := (Q_rm1 Z i j h0 n0)) (by decide) (by decide) ?_
    show (Q_rm1 Z i j h0 n0) _ s₁.heap _
    rw [e0]
    exact ⟨by simp [own_min, *], N0, rfl⟩
theorem d2_0 : decode prog_12_method_8_code 0 = .ok (.iload_n 0, 1) := by decide +kernel
theorem d2_1 : decode prog_12_method_8_code 1 = .ok (.iconst 1, 1) := by decide +kernel
theorem d2_2 : decode prog_12_method_8_code 2 = .ok (.if_icmp .ne 10, 3) := by decide +kernel
theorem d2_5 : decode prog_12_method_8_code 5 = .ok (.getstatic 3, 3) := by decide +kernel
theorem d2_8 : decode prog_12_method_8_code 8 = .ok (.astore_n 1, 1) := by decide +kernel
theorem d2_9 : decode prog_12_method_8_code 9 = .ok (.goto 18, 3) := by decide +kernel
theorem d2_12 : decode prog_12_method_8_code 12 = .ok (.iload_n 0, 1) := by decide +kernel
theorem d2_13 : decode prog_12_method_8_code 13 = .ok (.ifCond .ne 10, 3) := by decide +kernel
theorem d2_16 : decode prog_12_method_8_code 16 = .ok (.getstatic 19, 3) := by decide +kernel
theorem d2_19 : decode prog_12_method_8_code 19 = .ok (.astore_n 1, 1) := by decide +kernel
theorem d2_20 : decode prog_12_method_8_code 20 = .ok (.goto 7, 3) := by decide +kernel
theorem d2_23 : decode prog_12_method_8_code 23 = .ok (.getstatic 13, 3) := by decide +kernel
theorem d2_26 : decode prog_12_method_8_code 26 = .ok (.astore_n 1, 1) := by decide +kernel
theorem d2_27 : decode prog_12_method_8_code 27 = .ok (.aload_n 1, 1) := by decide +kernel
theorem d2_28 : decode prog_12_method_8_code 28 = .ok (.areturn, 1) := by decide +kernel
theorem own_pn0 : plainName "com/example/lockward/lockward/Audit$Outcome" = true := by first | (simp [plainName, overriddenIn]; done) | decide +kernel
def Q_rm2 (Z : State) (i : Int32) (wr : Addr) (wo : Addr) (wu : Addr) (h0 : Heap) (n0 : Nat) (v : Option Value) (h : Heap) (L : List Loc) : Prop := v = some (.ref (own_pick i wr wo wu)) ∧ Fr n0 L ∧ h = h0
theorem ef_rm2 (m : MethodId) (i : Int32) : entryFrame m #[(.int i)] 2 = mkF m 0 #[.val (.int i), .unset] [] := by first | (simp [entryFrame, mkF, argsToLocals, Value.category]; done) | rfl
set_option maxRecDepth 65536 in
set_option maxHeartbeats 40000000 in
theorem rm2 (l : Launch) (Z : State) (a0 : Array Value) (hw : ∀ d ∈ tables_1, d.before a0 Z = true) (ws : List Jvm.Cond) (i : Int32) (wr : Addr) (wo : Addr) (wu : Addr) (h0 : Heap) (n0 : Nat) (Z0 : n0 ≤ h0.size) (S_wr : Sta Z h0 "com/example/lockward/lockward/Audit$Outcome" "REJECTED" "Lcom/example/lockward/lockward/Audit$Outcome;" (.ref wr)) (S_wo : Sta Z h0 "com/example/lockward/lockward/Audit$Outcome" "OK" "Lcom/example/lockward/lockward/Audit$Outcome;" (.ref wo)) (S_wu : Sta Z h0 "com/example/lockward/lockward/Audit$Outcome" "UNCERTAIN" "Lcom/example/lockward/lockward/Audit$Outcome;" (.ref wu)) :
    MetFree l (⟨"com/example/lockward/lockward/Audit$Outcome", "ofResolution", "(I)Lcom/example/lockward/lockward/Audit$Outcome;"⟩ : MethodName) (head1 (Jvm.Cond.code (⟨"com/example/lockward/lockward/Audit$Outcome", "ofResolution", "(I)Lcom/example/lockward/lockward/Audit$Outcome;"⟩ : MethodName) prog_12_method_8_code 2 (some (.object "com/example/lockward/lockward/Audit$Outcome")) :: ws) ({ frames := 0, cells := 0, slots := 0, locals := 0 } : Room)) (fun ag_ U_ => ag_ = #[(.int i)] ∧ Z.Warmed39 U_.vm ∧ U_.heap = h0) (fun _ _ _ _ _ => True) (fun _ U_ o_ V_ => ∃ v_ L_, o_ = .returned v_ ∧ (Q_rm2 Z i wr wo wu h0 n0) v_ V_.heap L_ ∧ FrameEnd U_ o_ V_ L_ ({ frames := 0, cells := 0, slots := 0, locals := 0 } : Room).cells ({ frames := 0, cells := 0, slots := 0, locals := 0 } : Room).slots) := by
  refine MetFree.of_bodySF (plainFor_of_name own_pn0) hisR ?_
  intro p e s m args below meth c s₁ Bd hml0 hP hK
  obtain ⟨rfl, hZ, hh⟩ := hP
  have hx := Bd.exec
  have hby := Bd.bytes
  have hml : c.maxLocals = 2 := hml0
  have hown : s.vm.findClass "com/example/lockward/lockward/Audit$Outcome" = some m.cls := findClass_of_methodNamed Bd.named
  have hnm := (name_of_methodNamed Bd.named Bd.method).1
  have X0 : Stand p l e ({ frames := 0, cells := 0, slots := 0, locals := 0 } : Room) s m #[(.int i)] below meth c s₁ [] 0 0 := Stand.of_body Bd
  have e0 : s₁.heap = h0 := by rw [← hh, Bd.state]; rfl
  have N0 := Fr.nil n0
  refine Go.st (G := fun s₂ o_ => ∃ v_ L_, o_ = .returned v_ ∧ (Q_rm2 Z i wr wo wu h0 n0) v_ s₂.heap L_ ∧ FrameEnd s o_ s₂ L_ ({ frames := 0, cells := 0, slots := 0, locals := 0 } : Room).cells ({ frames := 0, cells := 0, slots := 0, locals := 0 } : Room).slots) (fun t kt => castTop (ef_rm2 m i) kt) ?_
  show Go p e below _ (s₁.setTop (mkF m 0 #[.val (.int i), .unset] []))
  refine Go.st (fun _ kt => XS.iloadN X0.here hx rfl (hb hby d2_0) rfl kt) ?_
  show Go p e below _ (s₁.setTop (mkF m 1 #[.val (.int i), .unset] [(.int i)]))
  refine Go.st (fun _ kt => XS.iconst X0.here hx rfl (hb hby d2_1) kt) ?_
  show Go p e below _ (s₁.setTop (mkF m 2 #[.val (.int i), .unset] [(.int (1 : Int32)), (.int i)]))
  by_cases hc2_1 : i = (1 : Int32)
  · refine Go.st (fun _ kt => XS.icmpNo X0.here hx rfl (hb hby d2_2) rfl (teq hc2_1).2 kt) ?_
    show Go p e below _ (s₁.setTop (mkF m 5 #[.val (.int i), .unset] []))
    obtain ⟨T2, X2, e2, st2⟩ := getS2 X0 hx hZ hown (host := "") (Or.inl (hw _ (List.mem_of_getElem? (i := 20) rfl))) Via.refl e0 S_wo (g := (mkF m 5 #[.val (.int i), .unset] [])) rfl (hb hby d2_5)
    refine Go.st st2 ?_
    show Go p e below _ (T2.setTop (mkF m 8 #[.val (.int i), .unset] [(.ref wo)]))
    refine Go.st (fun _ kt => XS.astoreN X2.here hx rfl (hb hby d2_8) rfl rfl (l' := #[.val (.int i), .val (.ref wo)]) rfl kt) ?_
    show Go p e below _ (T2.setTop (mkF m 9 #[.val (.int i), .val (.ref wo)] []))
    refine Go.st (fun _ kt => XS.goto X2.here hx rfl (pc0 := 9) (pc' := 27) rfl (hb hby d2_9) (by decide) (by decide) kt) ?_
    show Go p e below _ (T2.setTop (mkF m 27 #[.val (.int i), .val (.ref wo)] []))
    refine Go.st (fun _ kt => XS.aloadN X2.here hx rfl (hb hby d2_27) rfl rfl kt) ?_
    show Go p e below _ (T2.setTop (mkF m 28 #[.val (.int i), .val (.ref wo)] [(.ref wo)]))
    refine Go.retA X2 hx Bd.returns rfl rfl (BodyLoose.notSynchronized Bd) (hb hby d2_28) (Q := (Q_rm2 Z i wr wo wu h0 n0)) (by decide) (by decide) ?_
    show (Q_rm2 Z i wr wo wu h0 n0) _ T2.heap _
    rw [e2]
    exact ⟨by simp [own_pick, *], N0, rfl⟩
  · refine Go.st (fun _ kt => XS.icmpYes X0.here hx rfl (pc0 := 2) (pc' := 12) rfl (hb hby d2_2) rfl (feq hc2_1).2 (by decide) (by decide) kt) ?_
    show Go p e below _ (s₁.setTop (mkF m 12 #[.val (.int i), .unset] []))
    refine Go.st (fun _ kt => XS.iloadN X0.here hx rfl (hb hby d2_12) rfl kt) ?_
    show Go p e below _ (s₁.setTop (mkF m 13 #[.val (.int i), .unset] [(.int i)]))
    by_cases hc13_3 : i = (0 : Int32)
    · refine Go.st (fun _ kt => XS.ifNo X0.here hx rfl (hb hby d2_13) rfl ((if0 _ _).trans (teq hc13_3).2) kt) ?_
      show Go p e below _ (s₁.setTop (mkF m 16 #[.val (.int i), .unset] []))
      obtain ⟨T4, X4, e4, st4⟩ := getS2 X0 hx hZ hown (host := "") (Or.inl (hw _ (List.mem_of_getElem? (i := 17) rfl))) Via.refl e0 S_wr (g := (mkF m 16 #[.val (.int i), .unset] [])) rfl (hb hby d2_16)
      refine Go.st st4 ?_
      show Go p e below _ (T4.setTop (mkF m 19 #[.val (.int i), .unset] [(.ref wr)]))
      refine Go.st (fun _ kt => XS.astoreN X4.here hx rfl (hb hby d2_19) rfl rfl (l' := #[.val (.int i), .val (.ref wr)]) rfl kt) ?_
      show Go p e below _ (T4.setTop (mkF m 20 #[.val (.int i), .val (.ref wr)] []))
      refine Go.st (fun _ kt => XS.goto X4.here hx rfl (pc0 := 20) (pc' := 27) rfl (hb hby d2_20) (by decide) (by decide) kt) ?_
      show Go p e below _ (T4.setTop (mkF m 27 #[.val (.int i), .val (.ref wr)] []))
      refine Go.st (fun _ kt => XS.aloadN X4.here hx rfl (hb hby d2_27) rfl rfl kt) ?_
      show Go p e below _ (T4.setTop (mkF m 28 #[.val (.int i), .val (.ref wr)] [(.ref wr)]))
      refine Go.retA X4 hx Bd.returns rfl rfl (BodyLoose.notSynchronized Bd) (hb hby d2_28) (Q := (Q_rm2 Z i wr wo wu h0 n0)) (by decide) (by decide) ?_
      show (Q_rm2 Z i wr wo wu h0 n0) _ T4.heap _
      rw [e4]
      exact ⟨by simp [own_pick, *], N0, rfl⟩
    · refine Go.st (fun _ kt => XS.ifYes X0.here hx rfl (pc0 := 13) (pc' := 23) rfl (hb hby d2_13) rfl ((if0 _ _).trans (feq hc13_3).2) (by decide) (by decide) kt) ?_
      show Go p e below _ (s₁.setTop (mkF m 23 #[.val (.int i), .unset] []))
      obtain ⟨T5, X5, e5, st5⟩ := getS2 X0 hx hZ hown (host := "") (Or.inl (hw _ (List.mem_of_getElem? (i := 18) rfl))) Via.refl e0 S_wu (g := (mkF m 23 #[.val (.int i), .unset] [])) rfl (hb hby d2_23)
      refine Go.st st5 ?_
      show Go p e below _ (T5.setTop (mkF m 26 #[.val (.int i), .unset] [(.ref wu)]))
      refine Go.st (fun _ kt => XS.astoreN X5.here hx rfl (hb hby d2_26) rfl rfl (l' := #[.val (.int i), .val (.ref wu)]) rfl kt) ?_
      show Go p e below _ (T5.setTop (mkF m 27 #[.val (.int i), .val (.ref wu)] []))
      refine Go.st (fun _ kt => XS.aloadN X5.here hx rfl (hb hby d2_27) rfl rfl kt) ?_
      show Go p e below _ (T5.setTop (mkF m 28 #[.val (.int i), .val (.ref wu)] [(.ref wu)]))
      refine Go.retA X5 hx Bd.returns rfl rfl (BodyLoose.notSynchronized Bd) (hb hby d2_28) (Q := (Q_rm2 Z i wr wo wu h0 n0)) (by decide) (by decide) ?_
      show (Q_rm2 Z i wr wo wu h0 n0) _ T5.heap _
      rw [e5]
      exact ⟨by simp [own_pick, *], N0, rfl⟩
theorem own_pd1 : parseMethodDescriptor "(II)I" = some ⟨[.int, .int], some .int⟩ := by decide +kernel
theorem own_pd2 : parseMethodDescriptor "(I)Lcom/example/lockward/lockward/Audit$Outcome;" = some ⟨[.int], some (.object "com/example/lockward/lockward/Audit$Outcome")⟩ := by decide +kernel
theorem own_pn3 : plainName "com/example/lockward/lockward/OutcomeOfResolutionPinLaw" = true := by first | (simp [plainName, overriddenIn]; done) | decide +kernel
def Q_rm0 (Z : State) (i : Int32) (j : Int32) (wr : Addr) (wo : Addr) (wu : Addr) (h0 : Heap) (n0 : Nat) (v : Option Value) (h : Heap) (L : List Loc) : Prop := v = some (.int 1) ∧ Fr n0 L
theorem ef_rm0 (m : MethodId) (i : Int32) (j : Int32) : entryFrame m #[(.int i), (.int j)] maxLocals = mkF m 0 #[.val (.int i), .val (.int j), .unset, .unset, .unset] [] := by first | (simp [entryFrame, mkF, argsToLocals, Value.category, maxLocals]; done) | rfl
set_option maxRecDepth 65536 in
set_option maxHeartbeats 40000000 in
theorem rm0 (l : Launch) (Z : State) (a0 : Array Value) (hw : ∀ d ∈ tables_1, d.before a0 Z = true) (ws : List Jvm.Cond) (i : Int32) (j : Int32) (wr : Addr) (wo : Addr) (wu : Addr) (h0 : Heap) (n0 : Nat) (Z0 : n0 ≤ h0.size) (S_wr : Sta Z h0 "com/example/lockward/lockward/Audit$Outcome" "REJECTED" "Lcom/example/lockward/lockward/Audit$Outcome;" (.ref wr)) (S_wo : Sta Z h0 "com/example/lockward/lockward/Audit$Outcome" "OK" "Lcom/example/lockward/lockward/Audit$Outcome;" (.ref wo)) (S_wu : Sta Z h0 "com/example/lockward/lockward/Audit$Outcome" "UNCERTAIN" "Lcom/example/lockward/lockward/Audit$Outcome;" (.ref wu)) (E_wr : Exa Z h0 wr "com/example/lockward/lockward/Audit$Outcome") (E_wo : Exa Z h0 wo "com/example/lockward/lockward/Audit$Outcome") (E_wu : Exa Z h0 wu "com/example/lockward/lockward/Audit$Outcome") :
    MetFree l x (head1 (Jvm.Cond.code x code maxLocals ret :: ws) room_1) (fun ag_ U_ => ag_ = #[(.int i), (.int j)] ∧ Z.Warmed39 U_.vm ∧ U_.heap = h0) (fun _ _ _ _ _ => True) (fun _ U_ o_ V_ => ∃ v_ L_, o_ = .returned v_ ∧ (Q_rm0 Z i j wr wo wu h0 n0) v_ V_.heap L_ ∧ FrameEnd U_ o_ V_ L_ room_1.cells room_1.slots) := by
  refine MetFree.of_bodySF (plainFor_of_name own_pn3) hisR ?_
  intro p e s m args below meth c s₁ Bd hml0 hP hK
  obtain ⟨rfl, hZ, hh⟩ := hP
  have hx := Bd.exec
  have hby := Bd.bytes
  have hml : c.maxLocals = 5 := hml0
  have hown : s.vm.findClass "com/example/lockward/lockward/OutcomeOfResolutionPinLaw" = some m.cls := findClass_of_methodNamed Bd.named
  have hnm := (name_of_methodNamed Bd.named Bd.method).1
  have X0 : Stand p l e room_1 s m #[(.int i), (.int j)] below meth c s₁ [] 0 0 := Stand.of_body Bd
  have e0 : s₁.heap = h0 := by rw [← hh, Bd.state]; rfl
  have N0 := Fr.nil n0
  refine Go.st (G := fun s₂ o_ => ∃ v_ L_, o_ = .returned v_ ∧ (Q_rm0 Z i j wr wo wu h0 n0) v_ s₂.heap L_ ∧ FrameEnd s o_ s₂ L_ room_1.cells room_1.slots) (fun t kt => castTop (ef_rm0 m i j) kt) ?_
  show Go p e below _ (s₁.setTop (mkF m 0 #[.val (.int i), .val (.int j), .unset, .unset, .unset] []))
  refine Go.st (fun _ kt => XS.iloadN X0.here hx rfl (hb hby at_0) rfl kt) ?_
  show Go p e below _ (s₁.setTop (mkF m 1 #[.val (.int i), .val (.int j), .unset, .unset, .unset] [(.int j)]))
  refine Go.st (fun _ kt => XS.iconst X0.here hx rfl (hb hby at_1) kt) ?_
  show Go p e below _ (s₁.setTop (mkF m 2 #[.val (.int i), .val (.int j), .unset, .unset, .unset] [(.int (1 : Int32)), (.int j)]))
  refine Go.st (fun _ kt => XS.iand X0.here hx rfl (hb hby at_2) rfl kt) ?_
  show Go p e below _ (s₁.setTop (mkF m 3 #[.val (.int i), .val (.int j), .unset, .unset, .unset] [(.int (j &&& (1 : Int32)))]))
  by_cases hc3_1 : (j &&& (1 : Int32)) = (0 : Int32)
  · refine Go.st (fun _ kt => XS.ifYes X0.here hx rfl (pc0 := 3) (pc' := 12) rfl (hb hby at_3) rfl ((if0 _ _).trans (teq hc3_1).1) (by decide) (by decide) kt) ?_
    show Go p e below _ (s₁.setTop (mkF m 12 #[.val (.int i), .val (.int j), .unset, .unset, .unset] []))
    refine Go.st (fun _ kt => XS.iloadN X0.here hx rfl (hb hby at_12) rfl kt) ?_
    show Go p e below _ (s₁.setTop (mkF m 13 #[.val (.int i), .val (.int j), .unset, .unset, .unset] [(.int i)]))
    refine Go.st (fun _ kt => X0.ldcInt hx hown (mvT hZ (hw _ (List.mem_of_getElem? (i := 19) rfl))) (g := (mkF m 13 #[.val (.int i), .val (.int j), .unset, .unset, .unset] [(.int i)])) rfl (hb hby at_13) _ kt) ?_
    show Go p e below _ (s₁.setTop (mkF m 15 #[.val (.int i), .val (.int j), .unset, .unset, .unset] [(.int (2147483647 : Int32)), (.int i)]))
    refine Go.st (fun _ kt => XS.iand X0.here hx rfl (hb hby at_15) rfl kt) ?_
    show Go p e below _ (s₁.setTop (mkF m 16 #[.val (.int i), .val (.int j), .unset, .unset, .unset] [(.int (i &&& (2147483647 : Int32)))]))
    have hna := own_and i (2147483647 : Int32) (by decide)
    generalize hacc : ((i &&& (2147483647 : Int32)) : Int32) = acc
    show Go p e below _ (s₁.setTop (mkF m 16 #[.val (.int i), .val (.int j), .unset, .unset, .unset] [(.int acc)]))
    rw [hacc] at hna
    by_cases hc16_2 : acc = (0 : Int32)
    · refine Go.st (fun _ kt => XS.istoreN X0.here hx rfl (hb hby at_16) rfl (l' := #[.val (.int i), .val (.int j), .val (.int acc), .unset, .unset]) rfl kt) ?_
      show Go p e below _ (s₁.setTop (mkF m 17 #[.val (.int i), .val (.int j), .val (.int acc), .unset, .unset] []))
      refine Go.st (fun _ kt => XS.iconst X0.here hx rfl (hb hby at_17) kt) ?_
      show Go p e below _ (s₁.setTop (mkF m 18 #[.val (.int i), .val (.int j), .val (.int acc), .unset, .unset] [(.int (3 : Int32))]))
      obtain ⟨T3, h3, k3, X3, e3, E3, A3, O3, st3⟩ := newR X0 hx hZ hown (hw _ (List.mem_of_getElem? (i := 0) rfl)) (hw _ (List.mem_of_getElem? (i := 1) rfl)) e0 (g := (mkF m 18 #[.val (.int i), .val (.int j), .val (.int acc), .unset, .unset] [(.int (3 : Int32))])) rfl (hb hby at_18) rfl (by decide) (cap := 3) (by decide) (by decide) (by decide) (by decide)
      obtain ⟨b3, g3⟩ : ∃ z, z = h0.size := ⟨_, rfl⟩
      rw [← g3] at A3 st3
      have lt_wr_b3 : wr < b3 := Nat.lt_of_lt_of_eq E_wr.lt g3.symm
      have lt_wo_b3 : wo < b3 := Nat.lt_of_lt_of_eq E_wo.lt g3.symm
      have lt_wu_b3 : wu < b3 := Nat.lt_of_lt_of_eq E_wu.lt g3.symm
      have gn_b3 : n0 ≤ b3 := Nat.le_trans Z0 (Nat.le_of_eq g3.symm)
      have Zs3 : n0 ≤ h3.size := Nat.le_trans Z0 E3.1
      refine Go.st st3 ?_
      have V3 : Arv Z h3 b3 k3 (.object "com/example/lockward/lockward/Audit$Outcome") (3 : Int32) [.null, .null, .null] .null := (Arv.new A3 (by decide)).pad (pad_rep [] .null 3)
      show Go p e below _ (T3.setTop (mkF m 21 #[.val (.int i), .val (.int j), .val (.int acc), .unset, .unset] [(.ref b3)]))
      refine Go.st (fun _ kt => XS.dup X3.here hx rfl (hb hby at_21) rfl rfl kt) ?_
      show Go p e below _ (T3.setTop (mkF m 22 #[.val (.int i), .val (.int j), .val (.int acc), .unset, .unset] [(.ref b3), (.ref b3)]))
      refine Go.st (fun _ kt => XS.iconst X3.here hx rfl (hb hby at_22) kt) ?_
      show Go p e below _ (T3.setTop (mkF m 23 #[.val (.int i), .val (.int j), .val (.int acc), .unset, .unset] [(.int (0 : Int32)), (.ref b3), (.ref b3)]))
      have f4 := (S_wr.ext E3)
      obtain ⟨T5, X5, e5, st5⟩ := getS2 X3 hx hZ hown (host := "") (Or.inl (hw _ (List.mem_of_getElem? (i := 2) rfl))) Via.refl e3 f4 (g := (mkF m 23 #[.val (.int i), .val (.int j), .val (.int acc), .unset, .unset] [(.int (0 : Int32)), (.ref b3), (.ref b3)])) rfl (hb hby at_23)
      refine Go.st st5 ?_
      show Go p e below _ (T5.setTop (mkF m 26 #[.val (.int i), .val (.int j), .val (.int acc), .unset, .unset] [(.ref wr), (.int (0 : Int32)), (.ref b3), (.ref b3)]))
      have f7 := (E_wr.ext E3)
      obtain ⟨cl6, Ar6, q6, S6, N6', H6, G6⟩ := id V3
      have hin6 : ¬ ((0 : Int32) < 0 ∨ cl6.slots.size ≤ ((0 : Int32)).toNatClampNeg) := inb_of S6 ⟨by decide, by decide⟩
      obtain ⟨T8, h8, X8, e8, W8, st8⟩ := stR X5 hx hZ e5 Ar6 (j := (0 : Int32)) hin6 rfl (Sto.ofV Ar6 q6 O3 (Ins.self f7)) (g := (mkF m 26 #[.val (.int i), .val (.int j), .val (.int acc), .unset, .unset] [(.ref wr), (.int (0 : Int32)), (.ref b3), (.ref b3)])) rfl rfl (hb hby at_26)
      refine Go.st st8 ?_
      have V8 : Arv Z h8 b3 k3 (.object "com/example/lockward/lockward/Audit$Outcome") (3 : Int32) [(.ref wr), .null, .null] .null := Arv.set Ar6 q6 S6 N6' H6 G6 rfl W8 0 rfl (Nat.le_of_ble_eq_true rfl)
      have Zs8 : n0 ≤ h8.size := Nat.le_trans Zs3 (Nat.le_of_eq W8.size.symm)
      have N8 := Fr.snoc X8 N0 gn_b3
      show Go p e below _ (T8.setTop (mkF m 27 #[.val (.int i), .val (.int j), .val (.int acc), .unset, .unset] [(.ref b3)]))
      refine Go.st (fun _ kt => XS.dup X8.here hx rfl (hb hby at_27) rfl rfl kt) ?_
      show Go p e below _ (T8.setTop (mkF m 28 #[.val (.int i), .val (.int j), .val (.int acc), .unset, .unset] [(.ref b3), (.ref b3)]))
      refine Go.st (fun _ kt => XS.iconst X8.here hx rfl (hb hby at_28) kt) ?_
      show Go p e below _ (T8.setTop (mkF m 29 #[.val (.int i), .val (.int j), .val (.int acc), .unset, .unset] [(.int (1 : Int32)), (.ref b3), (.ref b3)]))
      have f9 := ((S_wo.ext E3).wr W8)
      obtain ⟨T10, X10, e10, st10⟩ := getS2 X8 hx hZ hown (host := "") (Or.inl (hw _ (List.mem_of_getElem? (i := 6) rfl))) Via.refl e8 f9 (g := (mkF m 29 #[.val (.int i), .val (.int j), .val (.int acc), .unset, .unset] [(.int (1 : Int32)), (.ref b3), (.ref b3)])) rfl (hb hby at_29)
      refine Go.st st10 ?_
      show Go p e below _ (T10.setTop (mkF m 32 #[.val (.int i), .val (.int j), .val (.int acc), .unset, .unset] [(.ref wo), (.int (1 : Int32)), (.ref b3), (.ref b3)]))
      have f12 := ((E_wo.ext E3).wr W8)
      obtain ⟨cl11, Ar11, q11, S11, N11', H11, G11⟩ := id V8
      have hin11 : ¬ ((1 : Int32) < 0 ∨ cl11.slots.size ≤ ((1 : Int32)).toNatClampNeg) := inb_of S11 ⟨by decide, by decide⟩
      obtain ⟨T13, h13, X13, e13, W13, st13⟩ := stR X10 hx hZ e10 Ar11 (j := (1 : Int32)) hin11 rfl (Sto.ofV Ar11 q11 O3 (Ins.self f12)) (g := (mkF m 32 #[.val (.int i), .val (.int j), .val (.int acc), .unset, .unset] [(.ref wo), (.int (1 : Int32)), (.ref b3), (.ref b3)])) rfl rfl (hb hby at_32)
      refine Go.st st13 ?_
      have V13 : Arv Z h13 b3 k3 (.object "com/example/lockward/lockward/Audit$Outcome") (3 : Int32) [(.ref wr), (.ref wo), .null] .null := Arv.set Ar11 q11 S11 N11' H11 G11 rfl W13 1 rfl (Nat.le_of_ble_eq_true rfl)
      have Zs13 : n0 ≤ h13.size := Nat.le_trans Zs8 (Nat.le_of_eq W13.size.symm)
      have N13 := Fr.snoc X13 N8 gn_b3
      show Go p e below _ (T13.setTop (mkF m 33 #[.val (.int i), .val (.int j), .val (.int acc), .unset, .unset] [(.ref b3)]))
      refine Go.st (fun _ kt => XS.dup X13.here hx rfl (hb hby at_33) rfl rfl kt) ?_
      show Go p e below _ (T13.setTop (mkF m 34 #[.val (.int i), .val (.int j), .val (.int acc), .unset, .unset] [(.ref b3), (.ref b3)]))
      refine Go.st (fun _ kt => XS.iconst X13.here hx rfl (hb hby at_34) kt) ?_
      show Go p e below _ (T13.setTop (mkF m 35 #[.val (.int i), .val (.int j), .val (.int acc), .unset, .unset] [(.int (2 : Int32)), (.ref b3), (.ref b3)]))
      have f14 := (((S_wu.ext E3).wr W8).wr W13)
      obtain ⟨T15, X15, e15, st15⟩ := getS2 X13 hx hZ hown (host := "") (Or.inl (hw _ (List.mem_of_getElem? (i := 8) rfl))) Via.refl e13 f14 (g := (mkF m 35 #[.val (.int i), .val (.int j), .val (.int acc), .unset, .unset] [(.int (2 : Int32)), (.ref b3), (.ref b3)])) rfl (hb hby at_35)
      refine Go.st st15 ?_
      show Go p e below _ (T15.setTop (mkF m 38 #[.val (.int i), .val (.int j), .val (.int acc), .unset, .unset] [(.ref wu), (.int (2 : Int32)), (.ref b3), (.ref b3)]))
      have f17 := (((E_wu.ext E3).wr W8).wr W13)
      obtain ⟨cl16, Ar16, q16, S16, N16', H16, G16⟩ := id V13
      have hin16 : ¬ ((2 : Int32) < 0 ∨ cl16.slots.size ≤ ((2 : Int32)).toNatClampNeg) := inb_of S16 ⟨by decide, by decide⟩
      obtain ⟨T18, h18, X18, e18, W18, st18⟩ := stR X15 hx hZ e15 Ar16 (j := (2 : Int32)) hin16 rfl (Sto.ofV Ar16 q16 O3 (Ins.self f17)) (g := (mkF m 38 #[.val (.int i), .val (.int j), .val (.int acc), .unset, .unset] [(.ref wu), (.int (2 : Int32)), (.ref b3), (.ref b3)])) rfl rfl (hb hby at_38)
      refine Go.st st18 ?_
      have V18 : Arv Z h18 b3 k3 (.object "com/example/lockward/lockward/Audit$Outcome") (3 : Int32) [(.ref wr), (.ref wo), (.ref wu)] .null := Arv.set Ar16 q16 S16 N16' H16 G16 rfl W18 2 rfl (Nat.le_of_ble_eq_true rfl)
      have Zs18 : n0 ≤ h18.size := Nat.le_trans Zs13 (Nat.le_of_eq W18.size.symm)
      have N18 := Fr.snoc X18 N13 gn_b3
      show Go p e below _ (T18.setTop (mkF m 39 #[.val (.int i), .val (.int j), .val (.int acc), .unset, .unset] [(.ref b3)]))
      refine Go.st (fun _ kt => XS.astoreN X18.here hx rfl (hb hby at_39) rfl rfl (l' := #[.val (.int i), .val (.int j), .val (.int acc), .val (.ref b3), .unset]) rfl kt) ?_
      show Go p e below _ (T18.setTop (mkF m 40 #[.val (.int i), .val (.int j), .val (.int acc), .val (.ref b3), .unset] []))
      refine Go.st (fun _ kt => XS.aloadN X18.here hx rfl (hb hby at_40) rfl rfl kt) ?_
      show Go p e below _ (T18.setTop (mkF m 41 #[.val (.int i), .val (.int j), .val (.int acc), .val (.ref b3), .unset] [(.ref b3)]))
      refine Go.st (fun _ kt => XS.iloadN X18.here hx rfl (hb hby at_41) rfl kt) ?_
      show Go p e below _ (T18.setTop (mkF m 42 #[.val (.int i), .val (.int j), .val (.int acc), .val (.ref b3), .unset] [(.int acc), (.ref b3)]))
      refine Go.st (fun _ kt => XS.iconst X18.here hx rfl (hb hby at_42) kt) ?_
      show Go p e below _ (T18.setTop (mkF m 43 #[.val (.int i), .val (.int j), .val (.int acc), .val (.ref b3), .unset] [(.int (2 : Int32)), (.int acc), (.ref b3)]))
      obtain ⟨_, _, ⟨T19, L19, k19, n19⟩, -, X19, ⟨Lc19, hQ19, l19, y19, z19⟩, st19⟩ := Jvm.LawKit.callS X18 hx (y := (⟨"java/lang/Math", "min", "(II)I"⟩ : MethodName)) hown (mvT hZ (hw _ (List.mem_of_getElem? (i := 10) rfl))) (mvT hZ (hw _ (List.mem_of_getElem? (i := 11) rfl))) (mvT hZ (hw _ (List.mem_of_getElem? (i := 12) rfl))) (mvT hZ (hw _ (List.mem_of_getElem? (i := 13) rfl))) (by decide) (backOf (W := 1) (rm1 l Z a0 hw [] acc (2 : Int32) h18 n0 Zs18) hZ (hw _ (List.mem_of_getElem? (i := 13) rfl)) (hw _ (List.mem_of_getElem? (i := 12) rfl)) (by decide) (by decide)) (g := (mkF m 43 #[.val (.int i), .val (.int j), .val (.int acc), .val (.ref b3), .unset] [(.int (2 : Int32)), (.int acc), (.ref b3)])) rfl (by rw [hml]; rfl) (argsL := [(.int acc), (.int (2 : Int32))]) (rest := [(.ref b3)]) (lenOf own_pd1 rfl) rfl (by show 2 * 0 + _ ≤ _; exact Nat.le_of_eq rfl) (hb hby at_43) (fun _ _ => ⟨rfl, e18, (by decide : 1 + 0 ≤ _), (by decide : 3 + 0 ≤ _)⟩)
      dsimp only [Pt.U, Pt.locs, Pt.cells, Pt.slots] at X19 l19 y19 z19 st19 hQ19
      subst l19 y19 z19
      obtain ⟨rfl, N19q, e19⟩ := hQ19
      have N19 := Fr.app N18 N19q
      refine Go.st st19 ?_
      show Go p e below _ (T19.setTop (mkF m 46 #[.val (.int i), .val (.int j), .val (.int acc), .val (.ref b3), .unset] [(.int (own_min acc (2 : Int32))), (.ref b3)]))
      rw [(by rw [hc16_2]; rfl : own_min acc (2 : Int32) = (0 : Int32))]
      show Go p e below _ (T19.setTop (mkF m 46 #[.val (.int i), .val (.int j), .val (.int acc), .val (.ref b3), .unset] [(.int ((0 : Int32))), (.ref b3)]))
      show Go p e below _ (T19.setTop (mkF m 46 #[.val (.int i), .val (.int j), .val (.int acc), .val (.ref b3), .unset] [(.int (0 : Int32)), (.ref b3)]))
      obtain ⟨cl20, Ar20, -, S20, N20', H20, G20⟩ := id V18
      have hin20 := inb_of S20 (j := (0 : Int32)) ⟨by decide, by decide⟩
      have hat20 := Has.at H20 hin20 (v := (.ref wr)) rfl
      refine Go.st (fun _ kt => X19.aaload hx (j := (0 : Int32)) (v := (.ref wr)) (by rw [e19]; exact Ar20.1) (State.isArrayOf_alike hZ.alike Ar20.2.1) rfl Ar20.2.2 hin20 hat20 (g := (mkF m 46 #[.val (.int i), .val (.int j), .val (.int acc), .val (.ref b3), .unset] [(.int (0 : Int32)), (.ref b3)])) rfl rfl (hb hby at_46) _ kt) ?_
      show Go p e below _ (T19.setTop (mkF m 47 #[.val (.int i), .val (.int j), .val (.int acc), .val (.ref b3), .unset] [(.ref wr)]))
      refine Go.st (fun _ kt => XS.astore X19.here hx rfl (hb hby at_47) rfl rfl (l' := #[.val (.int i), .val (.int j), .val (.int acc), .val (.ref b3), .val (.ref wr)]) rfl kt) ?_
      show Go p e below _ (T19.setTop (mkF m 49 #[.val (.int i), .val (.int j), .val (.int acc), .val (.ref b3), .val (.ref wr)] []))
      refine Go.st (fun _ kt => XS.iloadN X19.here hx rfl (hb hby at_49) rfl kt) ?_
      show Go p e below _ (T19.setTop (mkF m 50 #[.val (.int i), .val (.int j), .val (.int acc), .val (.ref b3), .val (.ref wr)] [(.int acc)]))
      have f21 := (((f4.wr W8).wr W13).wr W18)
      have f22 := ((f9.wr W13).wr W18)
      have f23 := (f14.wr W18)
      obtain ⟨_, _, ⟨T24, L24, k24, n24⟩, -, X24, ⟨Lc24, hQ24, l24, y24, z24⟩, st24⟩ := Jvm.LawKit.callS X19 hx (y := (⟨"com/example/lockward/lockward/Audit$Outcome", "ofResolution", "(I)Lcom/example/lockward/lockward/Audit$Outcome;"⟩ : MethodName)) hown (mvT hZ (hw _ (List.mem_of_getElem? (i := 14) rfl))) (mvT hZ (hw _ (List.mem_of_getElem? (i := 15) rfl))) (mvT hZ (hw _ (List.mem_of_getElem? (i := 3) rfl))) (mvT hZ (hw _ (List.mem_of_getElem? (i := 16) rfl))) (by decide) (backOf (W := 0) (rm2 l Z a0 hw [] acc wr wo wu h18 n0 Zs18 f21 f22 f23) hZ (hw _ (List.mem_of_getElem? (i := 16) rfl)) (hw _ (List.mem_of_getElem? (i := 3) rfl)) (by decide) (by decide)) (g := (mkF m 50 #[.val (.int i), .val (.int j), .val (.int acc), .val (.ref b3), .val (.ref wr)] [(.int acc)])) rfl (by rw [hml]; rfl) (argsL := [(.int acc)]) (rest := []) (lenOf own_pd2 rfl) rfl (by show 2 * 0 + _ ≤ _; exact Nat.le_of_eq rfl) (hb hby at_50) (fun _ _ => ⟨rfl, e19, (by decide : 1 + 0 ≤ _), (by decide : 3 + 0 ≤ _)⟩)
      dsimp only [Pt.U, Pt.locs, Pt.cells, Pt.slots] at X24 l24 y24 z24 st24 hQ24
      subst l24 y24 z24
      obtain ⟨rfl, N24q, e24⟩ := hQ24
      have N24 := Fr.app N19 N24q
      refine Go.st st24 ?_
      show Go p e below _ (T24.setTop (mkF m 53 #[.val (.int i), .val (.int j), .val (.int acc), .val (.ref b3), .val (.ref wr)] [(.ref (own_pick acc wr wo wu))]))
      refine Go.st (fun _ kt => XS.aload X24.here hx rfl (hb hby at_53) rfl rfl kt) ?_
      show Go p e below _ (T24.setTop (mkF m 55 #[.val (.int i), .val (.int j), .val (.int acc), .val (.ref b3), .val (.ref wr)] [(.ref wr), (.ref (own_pick acc wr wo wu))]))
      rw [(by rw [hc16_2]; rfl : own_pick acc wr wo wu = wr)]
      show Go p e below _ (T24.setTop (mkF m 55 #[.val (.int i), .val (.int j), .val (.int acc), .val (.ref b3), .val (.ref wr)] [(.ref wr), (.ref (wr))]))
      show Go p e below _ (T24.setTop (mkF m 55 #[.val (.int i), .val (.int j), .val (.int acc), .val (.ref b3), .val (.ref wr)] [(.ref wr), (.ref wr)]))
      refine Go.st (fun _ kt => Jvm.RoadKit.acmp (g := (mkF m 55 #[.val (.int i), .val (.int j), .val (.int acc), .val (.ref b3), .val (.ref wr)] [(.ref wr), (.ref wr)])) X24 hx rfl rfl rfl (pc0 := 55) (pc' := 58) (same := true) rfl (hb hby at_55) rfl (decide_eq_true rfl) (by decide) (by decide) kt) ?_
      show Go p e below _ (T24.setTop (mkF m 58 #[.val (.int i), .val (.int j), .val (.int acc), .val (.ref b3), .val (.ref wr)] []))
      refine Go.st (fun _ kt => XS.iconst X24.here hx rfl (hb hby at_58) kt) ?_
      show Go p e below _ (T24.setTop (mkF m 59 #[.val (.int i), .val (.int j), .val (.int acc), .val (.ref b3), .val (.ref wr)] [(.int (1 : Int32))]))
      refine Go.st (fun _ kt => XS.goto X24.here hx rfl (pc0 := 59) (pc' := 63) rfl (hb hby at_59) (by decide) (by decide) kt) ?_
      show Go p e below _ (T24.setTop (mkF m 63 #[.val (.int i), .val (.int j), .val (.int acc), .val (.ref b3), .val (.ref wr)] [(.int (1 : Int32))]))
      refine Go.retN X24 hx (t := .boolean) Bd.returns (by simp) (BodyLoose.notSynchronized Bd) (hb hby at_63) (Q := (Q_rm0 Z i j wr wo wu h0 n0)) (by decide) (by decide) ?_
      show (Q_rm0 Z i j wr wo wu h0 n0) _ T24.heap _
      rw [e24]
      exact ⟨rfl, N24⟩
    · by_cases hc16_25 : acc = (1 : Int32)
      · refine Go.st (fun _ kt => XS.istoreN X0.here hx rfl (hb hby at_16) rfl (l' := #[.val (.int i), .val (.int j), .val (.int acc), .unset, .unset]) rfl kt) ?_
        show Go p e below _ (s₁.setTop (mkF m 17 #[.val (.int i), .val (.int j), .val (.int acc), .unset, .unset] []))
        refine Go.st (fun _ kt => XS.iconst X0.here hx rfl (hb hby at_17) kt) ?_
        show Go p e below _ (s₁.setTop (mkF m 18 #[.val (.int i), .val (.int j), .val (.int acc), .unset, .unset] [(.int (3 : Int32))]))
        obtain ⟨T26, h26, k26, X26, e26, E26, A26, O26, st26⟩ := newR X0 hx hZ hown (hw _ (List.mem_of_getElem? (i := 0) rfl)) (hw _ (List.mem_of_getElem? (i := 1) rfl)) e0 (g := (mkF m 18 #[.val (.int i), .val (.int j), .val (.int acc), .unset, .unset] [(.int (3 : Int32))])) rfl (hb hby at_18) rfl (by decide) (cap := 3) (by decide) (by decide) (by decide) (by decide)
        obtain ⟨b26, g26⟩ : ∃ z, z = h0.size := ⟨_, rfl⟩
        rw [← g26] at A26 st26
        have lt_wr_b26 : wr < b26 := Nat.lt_of_lt_of_eq E_wr.lt g26.symm
        have lt_wo_b26 : wo < b26 := Nat.lt_of_lt_of_eq E_wo.lt g26.symm
        have lt_wu_b26 : wu < b26 := Nat.lt_of_lt_of_eq E_wu.lt g26.symm
        have gn_b26 : n0 ≤ b26 := Nat.le_trans Z0 (Nat.le_of_eq g26.symm)
        have Zs26 : n0 ≤ h26.size := Nat.le_trans Z0 E26.1
        refine Go.st st26 ?_
        have V26 : Arv Z h26 b26 k26 (.object "com/example/lockward/lockward/Audit$Outcome") (3 : Int32) [.null, .null, .null] .null := (Arv.new A26 (by decide)).pad (pad_rep [] .null 3)
        show Go p e below _ (T26.setTop (mkF m 21 #[.val (.int i), .val (.int j), .val (.int acc), .unset, .unset] [(.ref b26)]))
        refine Go.st (fun _ kt => XS.dup X26.here hx rfl (hb hby at_21) rfl rfl kt) ?_
        show Go p e below _ (T26.setTop (mkF m 22 #[.val (.int i), .val (.int j), .val (.int acc), .unset, .unset] [(.ref b26), (.ref b26)]))
        refine Go.st (fun _ kt => XS.iconst X26.here hx rfl (hb hby at_22) kt) ?_
        show Go p e below _ (T26.setTop (mkF m 23 #[.val (.int i), .val (.int j), .val (.int acc), .unset, .unset] [(.int (0 : Int32)), (.ref b26), (.ref b26)]))
        have f27 := (S_wr.ext E26)
        obtain ⟨T28, X28, e28, st28⟩ := getS2 X26 hx hZ hown (host := "") (Or.inl (hw _ (List.mem_of_getElem? (i := 2) rfl))) Via.refl e26 f27 (g := (mkF m 23 #[.val (.int i), .val (.int j), .val (.int acc), .unset, .unset] [(.int (0 : Int32)), (.ref b26), (.ref b26)])) rfl (hb hby at_23)
        refine Go.st st28 ?_
        show Go p e below _ (T28.setTop (mkF m 26 #[.val (.int i), .val (.int j), .val (.int acc), .unset, .unset] [(.ref wr), (.int (0 : Int32)), (.ref b26), (.ref b26)]))
        have f30 := (E_wr.ext E26)
        obtain ⟨cl29, Ar29, q29, S29, N29', H29, G29⟩ := id V26
        have hin29 : ¬ ((0 : Int32) < 0 ∨ cl29.slots.size ≤ ((0 : Int32)).toNatClampNeg) := inb_of S29 ⟨by decide, by decide⟩
        obtain ⟨T31, h31, X31, e31, W31, st31⟩ := stR X28 hx hZ e28 Ar29 (j := (0 : Int32)) hin29 rfl (Sto.ofV Ar29 q29 O26 (Ins.self f30)) (g := (mkF m 26 #[.val (.int i), .val (.int j), .val (.int acc), .unset, .unset] [(.ref wr), (.int (0 : Int32)), (.ref b26), (.ref b26)])) rfl rfl (hb hby at_26)
        refine Go.st st31 ?_
        have V31 : Arv Z h31 b26 k26 (.object "com/example/lockward/lockward/Audit$Outcome") (3 : Int32) [(.ref wr), .null, .null] .null := Arv.set Ar29 q29 S29 N29' H29 G29 rfl W31 0 rfl (Nat.le_of_ble_eq_true rfl)
        have Zs31 : n0 ≤ h31.size := Nat.le_trans Zs26 (Nat.le_of_eq W31.size.symm)
        have N31 := Fr.snoc X31 N0 gn_b26
        show Go p e below _ (T31.setTop (mkF m 27 #[.val (.int i), .val (.int j), .val (.int acc), .unset, .unset] [(.ref b26)]))
        refine Go.st (fun _ kt => XS.dup X31.here hx rfl (hb hby at_27) rfl rfl kt) ?_
        show Go p e below _ (T31.setTop (mkF m 28 #[.val (.int i), .val (.int j), .val (.int acc), .unset, .unset] [(.ref b26), (.ref b26)]))
        refine Go.st (fun _ kt => XS.iconst X31.here hx rfl (hb hby at_28) kt) ?_
        show Go p e below _ (T31.setTop (mkF m 29 #[.val (.int i), .val (.int j), .val (.int acc), .unset, .unset] [(.int (1 : Int32)), (.ref b26), (.ref b26)]))
        have f32 := ((S_wo.ext E26).wr W31)
        obtain ⟨T33, X33, e33, st33⟩ := getS2 X31 hx hZ hown (host := "") (Or.inl (hw _ (List.mem_of_getElem? (i := 6) rfl))) Via.refl e31 f32 (g := (mkF m 29 #[.val (.int i), .val (.int j), .val (.int acc), .unset, .unset] [(.int (1 : Int32)), (.ref b26), (.ref b26)])) rfl (hb hby at_29)
        refine Go.st st33 ?_
        show Go p e below _ (T33.setTop (mkF m 32 #[.val (.int i), .val (.int j), .val (.int acc), .unset, .unset] [(.ref wo), (.int (1 : Int32)), (.ref b26), (.ref b26)]))
        have f35 := ((E_wo.ext E26).wr W31)
        obtain ⟨cl34, Ar34, q34, S34, N34', H34, G34⟩ := id V31
        have hin34 : ¬ ((1 : Int32) < 0 ∨ cl34.slots.size ≤ ((1 : Int32)).toNatClampNeg) := inb_of S34 ⟨by decide, by decide⟩
        obtain ⟨T36, h36, X36, e36, W36, st36⟩ := stR X33 hx hZ e33 Ar34 (j := (1 : Int32)) hin34 rfl (Sto.ofV Ar34 q34 O26 (Ins.self f35)) (g := (mkF m 32 #[.val (.int i), .val (.int j), .val (.int acc), .unset, .unset] [(.ref wo), (.int (1 : Int32)), (.ref b26), (.ref b26)])) rfl rfl (hb hby at_32)
        refine Go.st st36 ?_
        have V36 : Arv Z h36 b26 k26 (.object "com/example/lockward/lockward/Audit$Outcome") (3 : Int32) [(.ref wr), (.ref wo), .null] .null := Arv.set Ar34 q34 S34 N34' H34 G34 rfl W36 1 rfl (Nat.le_of_ble_eq_true rfl)
        have Zs36 : n0 ≤ h36.size := Nat.le_trans Zs31 (Nat.le_of_eq W36.size.symm)
        have N36 := Fr.snoc X36 N31 gn_b26
        show Go p e below _ (T36.setTop (mkF m 33 #[.val (.int i), .val (.int j), .val (.int acc), .unset, .unset] [(.ref b26)]))
        refine Go.st (fun _ kt => XS.dup X36.here hx rfl (hb hby at_33) rfl rfl kt) ?_
        show Go p e below _ (T36.setTop (mkF m 34 #[.val (.int i), .val (.int j), .val (.int acc), .unset, .unset] [(.ref b26), (.ref b26)]))
        refine Go.st (fun _ kt => XS.iconst X36.here hx rfl (hb hby at_34) kt) ?_
        show Go p e below _ (T36.setTop (mkF m 35 #[.val (.int i), .val (.int j), .val (.int acc), .unset, .unset] [(.int (2 : Int32)), (.ref b26), (.ref b26)]))
        have f37 := (((S_wu.ext E26).wr W31).wr W36)
        obtain ⟨T38, X38, e38, st38⟩ := getS2 X36 hx hZ hown (host := "") (Or.inl (hw _ (List.mem_of_getElem? (i := 8) rfl))) Via.refl e36 f37 (g := (mkF m 35 #[.val (.int i), .val (.int j), .val (.int acc), .unset, .unset] [(.int (2 : Int32)), (.ref b26), (.ref b26)])) rfl (hb hby at_35)
        refine Go.st st38 ?_
        show Go p e below _ (T38.setTop (mkF m 38 #[.val (.int i), .val (.int j), .val (.int acc), .unset, .unset] [(.ref wu), (.int (2 : Int32)), (.ref b26), (.ref b26)]))
        have f40 := (((E_wu.ext E26).wr W31).wr W36)
        obtain ⟨cl39, Ar39, q39, S39, N39', H39, G39⟩ := id V36
        have hin39 : ¬ ((2 : Int32) < 0 ∨ cl39.slots.size ≤ ((2 : Int32)).toNatClampNeg) := inb_of S39 ⟨by decide, by decide⟩
        obtain ⟨T41, h41, X41, e41, W41, st41⟩ := stR X38 hx hZ e38 Ar39 (j := (2 : Int32)) hin39 rfl (Sto.ofV Ar39 q39 O26 (Ins.self f40)) (g := (mkF m 38 #[.val (.int i), .val (.int j), .val (.int acc), .unset, .unset] [(.ref wu), (.int (2 : Int32)), (.ref b26), (.ref b26)])) rfl rfl (hb hby at_38)
        refine Go.st st41 ?_
        have V41 : Arv Z h41 b26 k26 (.object "com/example/lockward/lockward/Audit$Outcome") (3 : Int32) [(.ref wr), (.ref wo), (.ref wu)] .null := Arv.set Ar39 q39 S39 N39' H39 G39 rfl W41 2 rfl (Nat.le_of_ble_eq_true rfl)
        have Zs41 : n0 ≤ h41.size := Nat.le_trans Zs36 (Nat.le_of_eq W41.size.symm)
        have N41 := Fr.snoc X41 N36 gn_b26
        show Go p e below _ (T41.setTop (mkF m 39 #[.val (.int i), .val (.int j), .val (.int acc), .unset, .unset] [(.ref b26)]))
        refine Go.st (fun _ kt => XS.astoreN X41.here hx rfl (hb hby at_39) rfl rfl (l' := #[.val (.int i), .val (.int j), .val (.int acc), .val (.ref b26), .unset]) rfl kt) ?_
        show Go p e below _ (T41.setTop (mkF m 40 #[.val (.int i), .val (.int j), .val (.int acc), .val (.ref b26), .unset] []))
        refine Go.st (fun _ kt => XS.aloadN X41.here hx rfl (hb hby at_40) rfl rfl kt) ?_
        show Go p e below _ (T41.setTop (mkF m 41 #[.val (.int i), .val (.int j), .val (.int acc), .val (.ref b26), .unset] [(.ref b26)]))
        refine Go.st (fun _ kt => XS.iloadN X41.here hx rfl (hb hby at_41) rfl kt) ?_
        show Go p e below _ (T41.setTop (mkF m 42 #[.val (.int i), .val (.int j), .val (.int acc), .val (.ref b26), .unset] [(.int acc), (.ref b26)]))
        refine Go.st (fun _ kt => XS.iconst X41.here hx rfl (hb hby at_42) kt) ?_
        show Go p e below _ (T41.setTop (mkF m 43 #[.val (.int i), .val (.int j), .val (.int acc), .val (.ref b26), .unset] [(.int (2 : Int32)), (.int acc), (.ref b26)]))
        obtain ⟨_, _, ⟨T42, L42, k42, n42⟩, -, X42, ⟨Lc42, hQ42, l42, y42, z42⟩, st42⟩ := Jvm.LawKit.callS X41 hx (y := (⟨"java/lang/Math", "min", "(II)I"⟩ : MethodName)) hown (mvT hZ (hw _ (List.mem_of_getElem? (i := 10) rfl))) (mvT hZ (hw _ (List.mem_of_getElem? (i := 11) rfl))) (mvT hZ (hw _ (List.mem_of_getElem? (i := 12) rfl))) (mvT hZ (hw _ (List.mem_of_getElem? (i := 13) rfl))) (by decide) (backOf (W := 1) (rm1 l Z a0 hw [] acc (2 : Int32) h41 n0 Zs41) hZ (hw _ (List.mem_of_getElem? (i := 13) rfl)) (hw _ (List.mem_of_getElem? (i := 12) rfl)) (by decide) (by decide)) (g := (mkF m 43 #[.val (.int i), .val (.int j), .val (.int acc), .val (.ref b26), .unset] [(.int (2 : Int32)), (.int acc), (.ref b26)])) rfl (by rw [hml]; rfl) (argsL := [(.int acc), (.int (2 : Int32))]) (rest := [(.ref b26)]) (lenOf own_pd1 rfl) rfl (by show 2 * 0 + _ ≤ _; exact Nat.le_of_eq rfl) (hb hby at_43) (fun _ _ => ⟨rfl, e41, (by decide : 1 + 0 ≤ _), (by decide : 3 + 0 ≤ _)⟩)
        dsimp only [Pt.U, Pt.locs, Pt.cells, Pt.slots] at X42 l42 y42 z42 st42 hQ42
        subst l42 y42 z42
        obtain ⟨rfl, N42q, e42⟩ := hQ42
        have N42 := Fr.app N41 N42q
        refine Go.st st42 ?_
        show Go p e below _ (T42.setTop (mkF m 46 #[.val (.int i), .val (.int j), .val (.int acc), .val (.ref b26), .unset] [(.int (own_min acc (2 : Int32))), (.ref b26)]))
        rw [(by rw [hc16_25]; rfl : own_min acc (2 : Int32) = (1 : Int32))]
        show Go p e below _ (T42.setTop (mkF m 46 #[.val (.int i), .val (.int j), .val (.int acc), .val (.ref b26), .unset] [(.int ((1 : Int32))), (.ref b26)]))
        show Go p e below _ (T42.setTop (mkF m 46 #[.val (.int i), .val (.int j), .val (.int acc), .val (.ref b26), .unset] [(.int (1 : Int32)), (.ref b26)]))
        obtain ⟨cl43, Ar43, -, S43, N43', H43, G43⟩ := id V41
        have hin43 := inb_of S43 (j := (1 : Int32)) ⟨by decide, by decide⟩
        have hat43 := Has.at H43 hin43 (v := (.ref wo)) rfl
        refine Go.st (fun _ kt => X42.aaload hx (j := (1 : Int32)) (v := (.ref wo)) (by rw [e42]; exact Ar43.1) (State.isArrayOf_alike hZ.alike Ar43.2.1) rfl Ar43.2.2 hin43 hat43 (g := (mkF m 46 #[.val (.int i), .val (.int j), .val (.int acc), .val (.ref b26), .unset] [(.int (1 : Int32)), (.ref b26)])) rfl rfl (hb hby at_46) _ kt) ?_
        show Go p e below _ (T42.setTop (mkF m 47 #[.val (.int i), .val (.int j), .val (.int acc), .val (.ref b26), .unset] [(.ref wo)]))
        refine Go.st (fun _ kt => XS.astore X42.here hx rfl (hb hby at_47) rfl rfl (l' := #[.val (.int i), .val (.int j), .val (.int acc), .val (.ref b26), .val (.ref wo)]) rfl kt) ?_
        show Go p e below _ (T42.setTop (mkF m 49 #[.val (.int i), .val (.int j), .val (.int acc), .val (.ref b26), .val (.ref wo)] []))
        refine Go.st (fun _ kt => XS.iloadN X42.here hx rfl (hb hby at_49) rfl kt) ?_
        show Go p e below _ (T42.setTop (mkF m 50 #[.val (.int i), .val (.int j), .val (.int acc), .val (.ref b26), .val (.ref wo)] [(.int acc)]))
        have f44 := (((f27.wr W31).wr W36).wr W41)
        have f45 := ((f32.wr W36).wr W41)
        have f46 := (f37.wr W41)
        obtain ⟨_, _, ⟨T47, L47, k47, n47⟩, -, X47, ⟨Lc47, hQ47, l47, y47, z47⟩, st47⟩ := Jvm.LawKit.callS X42 hx (y := (⟨"com/example/lockward/lockward/Audit$Outcome", "ofResolution", "(I)Lcom/example/lockward/lockward/Audit$Outcome;"⟩ : MethodName)) hown (mvT hZ (hw _ (List.mem_of_getElem? (i := 14) rfl))) (mvT hZ (hw _ (List.mem_of_getElem? (i := 15) rfl))) (mvT hZ (hw _ (List.mem_of_getElem? (i := 3) rfl))) (mvT hZ (hw _ (List.mem_of_getElem? (i := 16) rfl))) (by decide) (backOf (W := 0) (rm2 l Z a0 hw [] acc wr wo wu h41 n0 Zs41 f44 f45 f46) hZ (hw _ (List.mem_of_getElem? (i := 16) rfl)) (hw _ (List.mem_of_getElem? (i := 3) rfl)) (by decide) (by decide)) (g := (mkF m 50 #[.val (.int i), .val (.int j), .val (.int acc), .val (.ref b26), .val (.ref wo)] [(.int acc)])) rfl (by rw [hml]; rfl) (argsL := [(.int acc)]) (rest := []) (lenOf own_pd2 rfl) rfl (by show 2 * 0 + _ ≤ _; exact Nat.le_of_eq rfl) (hb hby at_50) (fun _ _ => ⟨rfl, e42, (by decide : 1 + 0 ≤ _), (by decide : 3 + 0 ≤ _)⟩)
        dsimp only [Pt.U, Pt.locs, Pt.cells, Pt.slots] at X47 l47 y47 z47 st47 hQ47
        subst l47 y47 z47
        obtain ⟨rfl, N47q, e47⟩ := hQ47
        have N47 := Fr.app N42 N47q
        refine Go.st st47 ?_
        show Go p e below _ (T47.setTop (mkF m 53 #[.val (.int i), .val (.int j), .val (.int acc), .val (.ref b26), .val (.ref wo)] [(.ref (own_pick acc wr wo wu))]))
        refine Go.st (fun _ kt => XS.aload X47.here hx rfl (hb hby at_53) rfl rfl kt) ?_
        show Go p e below _ (T47.setTop (mkF m 55 #[.val (.int i), .val (.int j), .val (.int acc), .val (.ref b26), .val (.ref wo)] [(.ref wo), (.ref (own_pick acc wr wo wu))]))
        rw [(by rw [hc16_25]; rfl : own_pick acc wr wo wu = wo)]
        show Go p e below _ (T47.setTop (mkF m 55 #[.val (.int i), .val (.int j), .val (.int acc), .val (.ref b26), .val (.ref wo)] [(.ref wo), (.ref (wo))]))
        show Go p e below _ (T47.setTop (mkF m 55 #[.val (.int i), .val (.int j), .val (.int acc), .val (.ref b26), .val (.ref wo)] [(.ref wo), (.ref wo)]))
        refine Go.st (fun _ kt => Jvm.RoadKit.acmp (g := (mkF m 55 #[.val (.int i), .val (.int j), .val (.int acc), .val (.ref b26), .val (.ref wo)] [(.ref wo), (.ref wo)])) X47 hx rfl rfl rfl (pc0 := 55) (pc' := 58) (same := true) rfl (hb hby at_55) rfl (decide_eq_true rfl) (by decide) (by decide) kt) ?_
        show Go p e below _ (T47.setTop (mkF m 58 #[.val (.int i), .val (.int j), .val (.int acc), .val (.ref b26), .val (.ref wo)] []))
        refine Go.st (fun _ kt => XS.iconst X47.here hx rfl (hb hby at_58) kt) ?_
        show Go p e below _ (T47.setTop (mkF m 59 #[.val (.int i), .val (.int j), .val (.int acc), .val (.ref b26), .val (.ref wo)] [(.int (1 : Int32))]))
        refine Go.st (fun _ kt => XS.goto X47.here hx rfl (pc0 := 59) (pc' := 63) rfl (hb hby at_59) (by decide) (by decide) kt) ?_
        show Go p e below _ (T47.setTop (mkF m 63 #[.val (.int i), .val (.int j), .val (.int acc), .val (.ref b26), .val (.ref wo)] [(.int (1 : Int32))]))
        refine Go.retN X47 hx (t := .boolean) Bd.returns (by simp) (BodyLoose.notSynchronized Bd) (hb hby at_63) (Q := (Q_rm0 Z i j wr wo wu h0 n0)) (by decide) (by decide) ?_
        show (Q_rm0 Z i j wr wo wu h0 n0) _ T47.heap _
        rw [e47]
        exact ⟨rfl, N47⟩
      · refine Go.st (fun _ kt => XS.istoreN X0.here hx rfl (hb hby at_16) rfl (l' := #[.val (.int i), .val (.int j), .val (.int acc), .unset, .unset]) rfl kt) ?_
        show Go p e below _ (s₁.setTop (mkF m 17 #[.val (.int i), .val (.int j), .val (.int acc), .unset, .unset] []))
        refine Go.st (fun _ kt => XS.iconst X0.here hx rfl (hb hby at_17) kt) ?_
        show Go p e below _ (s₁.setTop (mkF m 18 #[.val (.int i), .val (.int j), .val (.int acc), .unset, .unset] [(.int (3 : Int32))]))
        obtain ⟨T48, h48, k48, X48, e48, E48, A48, O48, st48⟩ := newR X0 hx hZ hown (hw _ (List.mem_of_getElem? (i := 0) rfl)) (hw _ (List.mem_of_getElem? (i := 1) rfl)) e0 (g := (mkF m 18 #[.val (.int i), .val (.int j), .val (.int acc), .unset, .unset] [(.int (3 : Int32))])) rfl (hb hby at_18) rfl (by decide) (cap := 3) (by decide) (by decide) (by decide) (by decide)
        obtain ⟨b48, g48⟩ : ∃ z, z = h0.size := ⟨_, rfl⟩
        rw [← g48] at A48 st48
        have lt_wr_b48 : wr < b48 := Nat.lt_of_lt_of_eq E_wr.lt g48.symm
        have lt_wo_b48 : wo < b48 := Nat.lt_of_lt_of_eq E_wo.lt g48.symm
        have lt_wu_b48 : wu < b48 := Nat.lt_of_lt_of_eq E_wu.lt g48.symm
        have gn_b48 : n0 ≤ b48 := Nat.le_trans Z0 (Nat.le_of_eq g48.symm)
        have Zs48 : n0 ≤ h48.size := Nat.le_trans Z0 E48.1
        refine Go.st st48 ?_
        have V48 : Arv Z h48 b48 k48 (.object "com/example/lockward/lockward/Audit$Outcome") (3 : Int32) [.null, .null, .null] .null := (Arv.new A48 (by decide)).pad (pad_rep [] .null 3)
        show Go p e below _ (T48.setTop (mkF m 21 #[.val (.int i), .val (.int j), .val (.int acc), .unset, .unset] [(.ref b48)]))
        refine Go.st (fun _ kt => XS.dup X48.here hx rfl (hb hby at_21) rfl rfl kt) ?_
        show Go p e below _ (T48.setTop (mkF m 22 #[.val (.int i), .val (.int j), .val (.int acc), .unset, .unset] [(.ref b48), (.ref b48)]))
        refine Go.st (fun _ kt => XS.iconst X48.here hx rfl (hb hby at_22) kt) ?_
        show Go p e below _ (T48.setTop (mkF m 23 #[.val (.int i), .val (.int j), .val (.int acc), .unset, .unset] [(.int (0 : Int32)), (.ref b48), (.ref b48)]))
        have f49 := (S_wr.ext E48)
        obtain ⟨T50, X50, e50, st50⟩ := getS2 X48 hx hZ hown (host := "") (Or.inl (hw _ (List.mem_of_getElem? (i := 2) rfl))) Via.refl e48 f49 (g := (mkF m 23 #[.val (.int i), .val (.int j), .val (.int acc), .unset, .unset] [(.int (0 : Int32)), (.ref b48), (.ref b48)])) rfl (hb hby at_23)
        refine Go.st st50 ?_
        show Go p e below _ (T50.setTop (mkF m 26 #[.val (.int i), .val (.int j), .val (.int acc), .unset, .unset] [(.ref wr), (.int (0 : Int32)), (.ref b48), (.ref b48)]))
        have f52 := (E_wr.ext E48)
        obtain ⟨cl51, Ar51, q51, S51, N51', H51, G51⟩ := id V48
        have hin51 : ¬ ((0 : Int32) < 0 ∨ cl51.slots.size ≤ ((0 : Int32)).toNatClampNeg) := inb_of S51 ⟨by decide, by decide⟩
        obtain ⟨T53, h53, X53, e53, W53, st53⟩ := stR X50 hx hZ e50 Ar51 (j := (0 : Int32)) hin51 rfl (Sto.ofV Ar51 q51 O48 (Ins.self f52)) (g := (mkF m 26 #[.val (.int i), .val (.int j), .val (.int acc), .unset, .unset] [(.ref wr), (.int (0 : Int32)), (.ref b48), (.ref b48)])) rfl rfl (hb hby at_26)
        refine Go.st st53 ?_
        have V53 : Arv Z h53 b48 k48 (.object "com/example/lockward/lockward/Audit$Outcome") (3 : Int32) [(.ref wr), .null, .null] .null := Arv.set Ar51 q51 S51 N51' H51 G51 rfl W53 0 rfl (Nat.le_of_ble_eq_true rfl)
        have Zs53 : n0 ≤ h53.size := Nat.le_trans Zs48 (Nat.le_of_eq W53.size.symm)
        have N53 := Fr.snoc X53 N0 gn_b48
        show Go p e below _ (T53.setTop (mkF m 27 #[.val (.int i), .val (.int j), .val (.int acc), .unset, .unset] [(.ref b48)]))
        refine Go.st (fun _ kt => XS.dup X53.here hx rfl (hb hby at_27) rfl rfl kt) ?_
        show Go p e below _ (T53.setTop (mkF m 28 #[.val (.int i), .val (.int j), .val (.int acc), .unset, .unset] [(.ref b48), (.ref b48)]))
        refine Go.st (fun _ kt => XS.iconst X53.here hx rfl (hb hby at_28) kt) ?_
        show Go p e below _ (T53.setTop (mkF m 29 #[.val (.int i), .val (.int j), .val (.int acc), .unset, .unset] [(.int (1 : Int32)), (.ref b48), (.ref b48)]))
        have f54 := ((S_wo.ext E48).wr W53)
        obtain ⟨T55, X55, e55, st55⟩ := getS2 X53 hx hZ hown (host := "") (Or.inl (hw _ (List.mem_of_getElem? (i := 6) rfl))) Via.refl e53 f54 (g := (mkF m 29 #[.val (.int i), .val (.int j), .val (.int acc), .unset, .unset] [(.int (1 : Int32)), (.ref b48), (.ref b48)])) rfl (hb hby at_29)
        refine Go.st st55 ?_
        show Go p e below _ (T55.setTop (mkF m 32 #[.val (.int i), .val (.int j), .val (.int acc), .unset, .unset] [(.ref wo), (.int (1 : Int32)), (.ref b48), (.ref b48)]))
        have f57 := ((E_wo.ext E48).wr W53)
        obtain ⟨cl56, Ar56, q56, S56, N56', H56, G56⟩ := id V53
        have hin56 : ¬ ((1 : Int32) < 0 ∨ cl56.slots.size ≤ ((1 : Int32)).toNatClampNeg) := inb_of S56 ⟨by decide, by decide⟩
        obtain ⟨T58, h58, X58, e58, W58, st58⟩ := stR X55 hx hZ e55 Ar56 (j := (1 : Int32)) hin56 rfl (Sto.ofV Ar56 q56 O48 (Ins.self f57)) (g := (mkF m 32 #[.val (.int i), .val (.int j), .val (.int acc), .unset, .unset] [(.ref wo), (.int (1 : Int32)), (.ref b48), (.ref b48)])) rfl rfl (hb hby at_32)
        refine Go.st st58 ?_
        have V58 : Arv Z h58 b48 k48 (.object "com/example/lockward/lockward/Audit$Outcome") (3 : Int32) [(.ref wr), (.ref wo), .null] .null := Arv.set Ar56 q56 S56 N56' H56 G56 rfl W58 1 rfl (Nat.le_of_ble_eq_true rfl)
        have Zs58 : n0 ≤ h58.size := Nat.le_trans Zs53 (Nat.le_of_eq W58.size.symm)
        have N58 := Fr.snoc X58 N53 gn_b48
        show Go p e below _ (T58.setTop (mkF m 33 #[.val (.int i), .val (.int j), .val (.int acc), .unset, .unset] [(.ref b48)]))
        refine Go.st (fun _ kt => XS.dup X58.here hx rfl (hb hby at_33) rfl rfl kt) ?_
        show Go p e below _ (T58.setTop (mkF m 34 #[.val (.int i), .val (.int j), .val (.int acc), .unset, .unset] [(.ref b48), (.ref b48)]))
        refine Go.st (fun _ kt => XS.iconst X58.here hx rfl (hb hby at_34) kt) ?_
        show Go p e below _ (T58.setTop (mkF m 35 #[.val (.int i), .val (.int j), .val (.int acc), .unset, .unset] [(.int (2 : Int32)), (.ref b48), (.ref b48)]))
        have f59 := (((S_wu.ext E48).wr W53).wr W58)
        obtain ⟨T60, X60, e60, st60⟩ := getS2 X58 hx hZ hown (host := "") (Or.inl (hw _ (List.mem_of_getElem? (i := 8) rfl))) Via.refl e58 f59 (g := (mkF m 35 #[.val (.int i), .val (.int j), .val (.int acc), .unset, .unset] [(.int (2 : Int32)), (.ref b48), (.ref b48)])) rfl (hb hby at_35)
        refine Go.st st60 ?_
        show Go p e below _ (T60.setTop (mkF m 38 #[.val (.int i), .val (.int j), .val (.int acc), .unset, .unset] [(.ref wu), (.int (2 : Int32)), (.ref b48), (.ref b48)]))
        have f62 := (((E_wu.ext E48).wr W53).wr W58)
        obtain ⟨cl61, Ar61, q61, S61, N61', H61, G61⟩ := id V58
        have hin61 : ¬ ((2 : Int32) < 0 ∨ cl61.slots.size ≤ ((2 : Int32)).toNatClampNeg) := inb_of S61 ⟨by decide, by decide⟩
        obtain ⟨T63, h63, X63, e63, W63, st63⟩ := stR X60 hx hZ e60 Ar61 (j := (2 : Int32)) hin61 rfl (Sto.ofV Ar61 q61 O48 (Ins.self f62)) (g := (mkF m 38 #[.val (.int i), .val (.int j), .val (.int acc), .unset, .unset] [(.ref wu), (.int (2 : Int32)), (.ref b48), (.ref b48)])) rfl rfl (hb hby at_38)
        refine Go.st st63 ?_
        have V63 : Arv Z h63 b48 k48 (.object "com/example/lockward/lockward/Audit$Outcome") (3 : Int32) [(.ref wr), (.ref wo), (.ref wu)] .null := Arv.set Ar61 q61 S61 N61' H61 G61 rfl W63 2 rfl (Nat.le_of_ble_eq_true rfl)
        have Zs63 : n0 ≤ h63.size := Nat.le_trans Zs58 (Nat.le_of_eq W63.size.symm)
        have N63 := Fr.snoc X63 N58 gn_b48
        show Go p e below _ (T63.setTop (mkF m 39 #[.val (.int i), .val (.int j), .val (.int acc), .unset, .unset] [(.ref b48)]))
        refine Go.st (fun _ kt => XS.astoreN X63.here hx rfl (hb hby at_39) rfl rfl (l' := #[.val (.int i), .val (.int j), .val (.int acc), .val (.ref b48), .unset]) rfl kt) ?_
        show Go p e below _ (T63.setTop (mkF m 40 #[.val (.int i), .val (.int j), .val (.int acc), .val (.ref b48), .unset] []))
        refine Go.st (fun _ kt => XS.aloadN X63.here hx rfl (hb hby at_40) rfl rfl kt) ?_
        show Go p e below _ (T63.setTop (mkF m 41 #[.val (.int i), .val (.int j), .val (.int acc), .val (.ref b48), .unset] [(.ref b48)]))
        refine Go.st (fun _ kt => XS.iloadN X63.here hx rfl (hb hby at_41) rfl kt) ?_
        show Go p e below _ (T63.setTop (mkF m 42 #[.val (.int i), .val (.int j), .val (.int acc), .val (.ref b48), .unset] [(.int acc), (.ref b48)]))
        refine Go.st (fun _ kt => XS.iconst X63.here hx rfl (hb hby at_42) kt) ?_
        show Go p e below _ (T63.setTop (mkF m 43 #[.val (.int i), .val (.int j), .val (.int acc), .val (.ref b48), .unset] [(.int (2 : Int32)), (.int acc), (.ref b48)]))
        obtain ⟨_, _, ⟨T64, L64, k64, n64⟩, -, X64, ⟨Lc64, hQ64, l64, y64, z64⟩, st64⟩ := Jvm.LawKit.callS X63 hx (y := (⟨"java/lang/Math", "min", "(II)I"⟩ : MethodName)) hown (mvT hZ (hw _ (List.mem_of_getElem? (i := 10) rfl))) (mvT hZ (hw _ (List.mem_of_getElem? (i := 11) rfl))) (mvT hZ (hw _ (List.mem_of_getElem? (i := 12) rfl))) (mvT hZ (hw _ (List.mem_of_getElem? (i := 13) rfl))) (by decide) (backOf (W := 1) (rm1 l Z a0 hw [] acc (2 : Int32) h63 n0 Zs63) hZ (hw _ (List.mem_of_getElem? (i := 13) rfl)) (hw _ (List.mem_of_getElem? (i := 12) rfl)) (by decide) (by decide)) (g := (mkF m 43 #[.val (.int i), .val (.int j), .val (.int acc), .val (.ref b48), .unset] [(.int (2 : Int32)), (.int acc), (.ref b48)])) rfl (by rw [hml]; rfl) (argsL := [(.int acc), (.int (2 : Int32))]) (rest := [(.ref b48)]) (lenOf own_pd1 rfl) rfl (by show 2 * 0 + _ ≤ _; exact Nat.le_of_eq rfl) (hb hby at_43) (fun _ _ => ⟨rfl, e63, (by decide : 1 + 0 ≤ _), (by decide : 3 + 0 ≤ _)⟩)
        dsimp only [Pt.U, Pt.locs, Pt.cells, Pt.slots] at X64 l64 y64 z64 st64 hQ64
        subst l64 y64 z64
        obtain ⟨rfl, N64q, e64⟩ := hQ64
        have N64 := Fr.app N63 N64q
        refine Go.st st64 ?_
        show Go p e below _ (T64.setTop (mkF m 46 #[.val (.int i), .val (.int j), .val (.int acc), .val (.ref b48), .unset] [(.int (own_min acc (2 : Int32))), (.ref b48)]))
        rw [(own_big acc hna hc16_2 hc16_25 : own_min acc (2 : Int32) = (2 : Int32))]
        show Go p e below _ (T64.setTop (mkF m 46 #[.val (.int i), .val (.int j), .val (.int acc), .val (.ref b48), .unset] [(.int ((2 : Int32))), (.ref b48)]))
        show Go p e below _ (T64.setTop (mkF m 46 #[.val (.int i), .val (.int j), .val (.int acc), .val (.ref b48), .unset] [(.int (2 : Int32)), (.ref b48)]))
        obtain ⟨cl65, Ar65, -, S65, N65', H65, G65⟩ := id V63
        have hin65 := inb_of S65 (j := (2 : Int32)) ⟨by decide, by decide⟩
        have hat65 := Has.at H65 hin65 (v := (.ref wu)) rfl
        refine Go.st (fun _ kt => X64.aaload hx (j := (2 : Int32)) (v := (.ref wu)) (by rw [e64]; exact Ar65.1) (State.isArrayOf_alike hZ.alike Ar65.2.1) rfl Ar65.2.2 hin65 hat65 (g := (mkF m 46 #[.val (.int i), .val (.int j), .val (.int acc), .val (.ref b48), .unset] [(.int (2 : Int32)), (.ref b48)])) rfl rfl (hb hby at_46) _ kt) ?_
        show Go p e below _ (T64.setTop (mkF m 47 #[.val (.int i), .val (.int j), .val (.int acc), .val (.ref b48), .unset] [(.ref wu)]))
        refine Go.st (fun _ kt => XS.astore X64.here hx rfl (hb hby at_47) rfl rfl (l' := #[.val (.int i), .val (.int j), .val (.int acc), .val (.ref b48), .val (.ref wu)]) rfl kt) ?_
        show Go p e below _ (T64.setTop (mkF m 49 #[.val (.int i), .val (.int j), .val (.int acc), .val (.ref b48), .val (.ref wu)] []))
        refine Go.st (fun _ kt => XS.iloadN X64.here hx rfl (hb hby at_49) rfl kt) ?_
        show Go p e below _ (T64.setTop (mkF m 50 #[.val (.int i), .val (.int j), .val (.int acc), .val (.ref b48), .val (.ref wu)] [(.int acc)]))
        have f66 := (((f49.wr W53).wr W58).wr W63)
        have f67 := ((f54.wr W58).wr W63)
        have f68 := (f59.wr W63)
        obtain ⟨_, _, ⟨T69, L69, k69, n69⟩, -, X69, ⟨Lc69, hQ69, l69, y69, z69⟩, st69⟩ := Jvm.LawKit.callS X64 hx (y := (⟨"com/example/lockward/lockward/Audit$Outcome", "ofResolution", "(I)Lcom/example/lockward/lockward/Audit$Outcome;"⟩ : MethodName)) hown (mvT hZ (hw _ (List.mem_of_getElem? (i := 14) rfl))) (mvT hZ (hw _ (List.mem_of_getElem? (i := 15) rfl))) (mvT hZ (hw _ (List.mem_of_getElem? (i := 3) rfl))) (mvT hZ (hw _ (List.mem_of_getElem? (i := 16) rfl))) (by decide) (backOf (W := 0) (rm2 l Z a0 hw [] acc wr wo wu h63 n0 Zs63 f66 f67 f68) hZ (hw _ (List.mem_of_getElem? (i := 16) rfl)) (hw _ (List.mem_of_getElem? (i := 3) rfl)) (by decide) (by decide)) (g := (mkF m 50 #[.val (.int i), .val (.int j), .val (.int acc), .val (.ref b48), .val (.ref wu)] [(.int acc)])) rfl (by rw [hml]; rfl) (argsL := [(.int acc)]) (rest := []) (lenOf own_pd2 rfl) rfl (by show 2 * 0 + _ ≤ _; exact Nat.le_of_eq rfl) (hb hby at_50) (fun _ _ => ⟨rfl, e64, (by decide : 1 + 0 ≤ _), (by decide : 3 + 0 ≤ _)⟩)
        dsimp only [Pt.U, Pt.locs, Pt.cells, Pt.slots] at X69 l69 y69 z69 st69 hQ69
        subst l69 y69 z69
        obtain ⟨rfl, N69q, e69⟩ := hQ69
        have N69 := Fr.app N64 N69q
        refine Go.st st69 ?_
        show Go p e below _ (T69.setTop (mkF m 53 #[.val (.int i), .val (.int j), .val (.int acc), .val (.ref b48), .val (.ref wu)] [(.ref (own_pick acc wr wo wu))]))
        refine Go.st (fun _ kt => XS.aload X69.here hx rfl (hb hby at_53) rfl rfl kt) ?_
        show Go p e below _ (T69.setTop (mkF m 55 #[.val (.int i), .val (.int j), .val (.int acc), .val (.ref b48), .val (.ref wu)] [(.ref wu), (.ref (own_pick acc wr wo wu))]))
        rw [(by simp [own_pick, hc16_2, hc16_25] : own_pick acc wr wo wu = wu)]
        show Go p e below _ (T69.setTop (mkF m 55 #[.val (.int i), .val (.int j), .val (.int acc), .val (.ref b48), .val (.ref wu)] [(.ref wu), (.ref (wu))]))
        show Go p e below _ (T69.setTop (mkF m 55 #[.val (.int i), .val (.int j), .val (.int acc), .val (.ref b48), .val (.ref wu)] [(.ref wu), (.ref wu)]))
        refine Go.st (fun _ kt => Jvm.RoadKit.acmp (g := (mkF m 55 #[.val (.int i), .val (.int j), .val (.int acc), .val (.ref b48), .val (.ref wu)] [(.ref wu), (.ref wu)])) X69 hx rfl rfl rfl (pc0 := 55) (pc' := 58) (same := true) rfl (hb hby at_55) rfl (decide_eq_true rfl) (by decide) (by decide) kt) ?_
        show Go p e below _ (T69.setTop (mkF m 58 #[.val (.int i), .val (.int j), .val (.int acc), .val (.ref b48), .val (.ref wu)] []))
        refine Go.st (fun _ kt => XS.iconst X69.here hx rfl (hb hby at_58) kt) ?_
        show Go p e below _ (T69.setTop (mkF m 59 #[.val (.int i), .val (.int j), .val (.int acc), .val (.ref b48), .val (.ref wu)] [(.int (1 : Int32))]))
        refine Go.st (fun _ kt => XS.goto X69.here hx rfl (pc0 := 59) (pc' := 63) rfl (hb hby at_59) (by decide) (by decide) kt) ?_
        show Go p e below _ (T69.setTop (mkF m 63 #[.val (.int i), .val (.int j), .val (.int acc), .val (.ref b48), .val (.ref wu)] [(.int (1 : Int32))]))
        refine Go.retN X69 hx (t := .boolean) Bd.returns (by simp) (BodyLoose.notSynchronized Bd) (hb hby at_63) (Q := (Q_rm0 Z i j wr wo wu h0 n0)) (by decide) (by decide) ?_
        show (Q_rm0 Z i j wr wo wu h0 n0) _ T69.heap _
        rw [e69]
        exact ⟨rfl, N69⟩
  · refine Go.st (fun _ kt => XS.ifNo X0.here hx rfl (hb hby at_3) rfl ((if0 _ _).trans (feq hc3_1).1) kt) ?_
    show Go p e below _ (s₁.setTop (mkF m 6 #[.val (.int i), .val (.int j), .unset, .unset, .unset] []))
    refine Go.st (fun _ kt => XS.iloadN X0.here hx rfl (hb hby at_6) rfl kt) ?_
    show Go p e below _ (s₁.setTop (mkF m 7 #[.val (.int i), .val (.int j), .unset, .unset, .unset] [(.int i)]))
    refine Go.st (fun _ kt => XS.iconst X0.here hx rfl (hb hby at_7) kt) ?_
    show Go p e below _ (s₁.setTop (mkF m 8 #[.val (.int i), .val (.int j), .unset, .unset, .unset] [(.int (3 : Int32)), (.int i)]))
    refine Go.st (fun _ kt => XS.iand X0.here hx rfl (hb hby at_8) rfl kt) ?_
    show Go p e below _ (s₁.setTop (mkF m 9 #[.val (.int i), .val (.int j), .unset, .unset, .unset] [(.int (i &&& (3 : Int32)))]))
    refine Go.st (fun _ kt => XS.goto X0.here hx rfl (pc0 := 9) (pc' := 16) rfl (hb hby at_9) (by decide) (by decide) kt) ?_
    show Go p e below _ (s₁.setTop (mkF m 16 #[.val (.int i), .val (.int j), .unset, .unset, .unset] [(.int (i &&& (3 : Int32)))]))
    have hna := own_and i (3 : Int32) (by decide)
    generalize hacc : ((i &&& (3 : Int32)) : Int32) = acc
    show Go p e below _ (s₁.setTop (mkF m 16 #[.val (.int i), .val (.int j), .unset, .unset, .unset] [(.int acc)]))
    rw [hacc] at hna
    by_cases hc16_70 : acc = (0 : Int32)
    · refine Go.st (fun _ kt => XS.istoreN X0.here hx rfl (hb hby at_16) rfl (l' := #[.val (.int i), .val (.int j), .val (.int acc), .unset, .unset]) rfl kt) ?_
      show Go p e below _ (s₁.setTop (mkF m 17 #[.val (.int i), .val (.int j), .val (.int acc), .unset, .unset] []))
      refine Go.st (fun _ kt => XS.iconst X0.here hx rfl (hb hby at_17) kt) ?_
      show Go p e below _ (s₁.setTop (mkF m 18 #[.val (.int i), .val (.int j), .val (.int acc), .unset, .unset] [(.int (3 : Int32))]))
      obtain ⟨T71, h71, k71, X71, e71, E71, A71, O71, st71⟩ := newR X0 hx hZ hown (hw _ (List.mem_of_getElem? (i := 0) rfl)) (hw _ (List.mem_of_getElem? (i := 1) rfl)) e0 (g := (mkF m 18 #[.val (.int i), .val (.int j), .val (.int acc), .unset, .unset] [(.int (3 : Int32))])) rfl (hb hby at_18) rfl (by decide) (cap := 3) (by decide) (by decide) (by decide) (by decide)
      obtain ⟨b71, g71⟩ : ∃ z, z = h0.size := ⟨_, rfl⟩
      rw [← g71] at A71 st71
      have lt_wr_b71 : wr < b71 := Nat.lt_of_lt_of_eq E_wr.lt g71.symm
      have lt_wo_b71 : wo < b71 := Nat.lt_of_lt_of_eq E_wo.lt g71.symm
      have lt_wu_b71 : wu < b71 := Nat.lt_of_lt_of_eq E_wu.lt g71.symm
      have gn_b71 : n0 ≤ b71 := Nat.le_trans Z0 (Nat.le_of_eq g71.symm)
      have Zs71 : n0 ≤ h71.size := Nat.le_trans Z0 E71.1
      refine Go.st st71 ?_
      have V71 : Arv Z h71 b71 k71 (.object "com/example/lockward/lockward/Audit$Outcome") (3 : Int32) [.null, .null, .null] .null := (Arv.new A71 (by decide)).pad (pad_rep [] .null 3)
      show Go p e below _ (T71.setTop (mkF m 21 #[.val (.int i), .val (.int j), .val (.int acc), .unset, .unset] [(.ref b71)]))
      refine Go.st (fun _ kt => XS.dup X71.here hx rfl (hb hby at_21) rfl rfl kt) ?_
      show Go p e below _ (T71.setTop (mkF m 22 #[.val (.int i), .val (.int j), .val (.int acc), .unset, .unset] [(.ref b71), (.ref b71)]))
      refine Go.st (fun _ kt => XS.iconst X71.here hx rfl (hb hby at_22) kt) ?_
      show Go p e below _ (T71.setTop (mkF m 23 #[.val (.int i), .val (.int j), .val (.int acc), .unset, .unset] [(.int (0 : Int32)), (.ref b71), (.ref b71)]))
      have f72 := (S_wr.ext E71)
      obtain ⟨T73, X73, e73, st73⟩ := getS2 X71 hx hZ hown (host := "") (Or.inl (hw _ (List.mem_of_getElem? (i := 2) rfl))) Via.refl e71 f72 (g := (mkF m 23 #[.val (.int i), .val (.int j), .val (.int acc), .unset, .unset] [(.int (0 : Int32)), (.ref b71), (.ref b71)])) rfl (hb hby at_23)
      refine Go.st st73 ?_
      show Go p e below _ (T73.setTop (mkF m 26 #[.val (.int i), .val (.int j), .val (.int acc), .unset, .unset] [(.ref wr), (.int (0 : Int32)), (.ref b71), (.ref b71)]))
      have f75 := (E_wr.ext E71)
      obtain ⟨cl74, Ar74, q74, S74, N74', H74, G74⟩ := id V71
      have hin74 : ¬ ((0 : Int32) < 0 ∨ cl74.slots.size ≤ ((0 : Int32)).toNatClampNeg) := inb_of S74 ⟨by decide, by decide⟩
      obtain ⟨T76, h76, X76, e76, W76, st76⟩ := stR X73 hx hZ e73 Ar74 (j := (0 : Int32)) hin74 rfl (Sto.ofV Ar74 q74 O71 (Ins.self f75)) (g := (mkF m 26 #[.val (.int i), .val (.int j), .val (.int acc), .unset, .unset] [(.ref wr), (.int (0 : Int32)), (.ref b71), (.ref b71)])) rfl rfl (hb hby at_26)
      refine Go.st st76 ?_
      have V76 : Arv Z h76 b71 k71 (.object "com/example/lockward/lockward/Audit$Outcome") (3 : Int32) [(.ref wr), .null, .null] .null := Arv.set Ar74 q74 S74 N74' H74 G74 rfl W76 0 rfl (Nat.le_of_ble_eq_true rfl)
      have Zs76 : n0 ≤ h76.size := Nat.le_trans Zs71 (Nat.le_of_eq W76.size.symm)
      have N76 := Fr.snoc X76 N0 gn_b71
      show Go p e below _ (T76.setTop (mkF m 27 #[.val (.int i), .val (.int j), .val (.int acc), .unset, .unset] [(.ref b71)]))
      refine Go.st (fun _ kt => XS.dup X76.here hx rfl (hb hby at_27) rfl rfl kt) ?_
      show Go p e below _ (T76.setTop (mkF m 28 #[.val (.int i), .val (.int j), .val (.int acc), .unset, .unset] [(.ref b71), (.ref b71)]))
      refine Go.st (fun _ kt => XS.iconst X76.here hx rfl (hb hby at_28) kt) ?_
      show Go p e below _ (T76.setTop (mkF m 29 #[.val (.int i), .val (.int j), .val (.int acc), .unset, .unset] [(.int (1 : Int32)), (.ref b71), (.ref b71)]))
      have f77 := ((S_wo.ext E71).wr W76)
      obtain ⟨T78, X78, e78, st78⟩ := getS2 X76 hx hZ hown (host := "") (Or.inl (hw _ (List.mem_of_getElem? (i := 6) rfl))) Via.refl e76 f77 (g := (mkF m 29 #[.val (.int i), .val (.int j), .val (.int acc), .unset, .unset] [(.int (1 : Int32)), (.ref b71), (.ref b71)])) rfl (hb hby at_29)
      refine Go.st st78 ?_
      show Go p e below _ (T78.setTop (mkF m 32 #[.val (.int i), .val (.int j), .val (.int acc), .unset, .unset] [(.ref wo), (.int (1 : Int32)), (.ref b71), (.ref b71)]))
      have f80 := ((E_wo.ext E71).wr W76)
      obtain ⟨cl79, Ar79, q79, S79, N79', H79, G79⟩ := id V76
      have hin79 : ¬ ((1 : Int32) < 0 ∨ cl79.slots.size ≤ ((1 : Int32)).toNatClampNeg) := inb_of S79 ⟨by decide, by decide⟩
      obtain ⟨T81, h81, X81, e81, W81, st81⟩ := stR X78 hx hZ e78 Ar79 (j := (1 : Int32)) hin79 rfl (Sto.ofV Ar79 q79 O71 (Ins.self f80)) (g := (mkF m 32 #[.val (.int i), .val (.int j), .val (.int acc), .unset, .unset] [(.ref wo), (.int (1 : Int32)), (.ref b71), (.ref b71)])) rfl rfl (hb hby at_32)
      refine Go.st st81 ?_
      have V81 : Arv Z h81 b71 k71 (.object "com/example/lockward/lockward/Audit$Outcome") (3 : Int32) [(.ref wr), (.ref wo), .null] .null := Arv.set Ar79 q79 S79 N79' H79 G79 rfl W81 1 rfl (Nat.le_of_ble_eq_true rfl)
      have Zs81 : n0 ≤ h81.size := Nat.le_trans Zs76 (Nat.le_of_eq W81.size.symm)
      have N81 := Fr.snoc X81 N76 gn_b71
      show Go p e below _ (T81.setTop (mkF m 33 #[.val (.int i), .val (.int j), .val (.int acc), .unset, .unset] [(.ref b71)]))
      refine Go.st (fun _ kt => XS.dup X81.here hx rfl (hb hby at_33) rfl rfl kt) ?_
      show Go p e below _ (T81.setTop (mkF m 34 #[.val (.int i), .val (.int j), .val (.int acc), .unset, .unset] [(.ref b71), (.ref b71)]))
      refine Go.st (fun _ kt => XS.iconst X81.here hx rfl (hb hby at_34) kt) ?_
      show Go p e below _ (T81.setTop (mkF m 35 #[.val (.int i), .val (.int j), .val (.int acc), .unset, .unset] [(.int (2 : Int32)), (.ref b71), (.ref b71)]))
      have f82 := (((S_wu.ext E71).wr W76).wr W81)
      obtain ⟨T83, X83, e83, st83⟩ := getS2 X81 hx hZ hown (host := "") (Or.inl (hw _ (List.mem_of_getElem? (i := 8) rfl))) Via.refl e81 f82 (g := (mkF m 35 #[.val (.int i), .val (.int j), .val (.int acc), .unset, .unset] [(.int (2 : Int32)), (.ref b71), (.ref b71)])) rfl (hb hby at_35)
      refine Go.st st83 ?_
      show Go p e below _ (T83.setTop (mkF m 38 #[.val (.int i), .val (.int j), .val (.int acc), .unset, .unset] [(.ref wu), (.int (2 : Int32)), (.ref b71), (.ref b71)]))
      have f85 := (((E_wu.ext E71).wr W76).wr W81)
      obtain ⟨cl84, Ar84, q84, S84, N84', H84, G84⟩ := id V81
      have hin84 : ¬ ((2 : Int32) < 0 ∨ cl84.slots.size ≤ ((2 : Int32)).toNatClampNeg) := inb_of S84 ⟨by decide, by decide⟩
      obtain ⟨T86, h86, X86, e86, W86, st86⟩ := stR X83 hx hZ e83 Ar84 (j := (2 : Int32)) hin84 rfl (Sto.ofV Ar84 q84 O71 (Ins.self f85)) (g := (mkF m 38 #[.val (.int i), .val (.int j), .val (.int acc), .unset, .unset] [(.ref wu), (.int (2 : Int32)), (.ref b71), (.ref b71)])) rfl rfl (hb hby at_38)
      refine Go.st st86 ?_
      have V86 : Arv Z h86 b71 k71 (.object "com/example/lockward/lockward/Audit$Outcome") (3 : Int32) [(.ref wr), (.ref wo), (.ref wu)] .null := Arv.set Ar84 q84 S84 N84' H84 G84 rfl W86 2 rfl (Nat.le_of_ble_eq_true rfl)
      have Zs86 : n0 ≤ h86.size := Nat.le_trans Zs81 (Nat.le_of_eq W86.size.symm)
      have N86 := Fr.snoc X86 N81 gn_b71
      show Go p e below _ (T86.setTop (mkF m 39 #[.val (.int i), .val (.int j), .val (.int acc), .unset, .unset] [(.ref b71)]))
      refine Go.st (fun _ kt => XS.astoreN X86.here hx rfl (hb hby at_39) rfl rfl (l' := #[.val (.int i), .val (.int j), .val (.int acc), .val (.ref b71), .unset]) rfl kt) ?_
      show Go p e below _ (T86.setTop (mkF m 40 #[.val (.int i), .val (.int j), .val (.int acc), .val (.ref b71), .unset] []))
      refine Go.st (fun _ kt => XS.aloadN X86.here hx rfl (hb hby at_40) rfl rfl kt) ?_
      show Go p e below _ (T86.setTop (mkF m 41 #[.val (.int i), .val (.int j), .val (.int acc), .val (.ref b71), .unset] [(.ref b71)]))
      refine Go.st (fun _ kt => XS.iloadN X86.here hx rfl (hb hby at_41) rfl kt) ?_
      show Go p e below _ (T86.setTop (mkF m 42 #[.val (.int i), .val (.int j), .val (.int acc), .val (.ref b71), .unset] [(.int acc), (.ref b71)]))
      refine Go.st (fun _ kt => XS.iconst X86.here hx rfl (hb hby at_42) kt) ?_
      show Go p e below _ (T86.setTop (mkF m 43 #[.val (.int i), .val (.int j), .val (.int acc), .val (.ref b71), .unset] [(.int (2 : Int32)), (.int acc), (.ref b71)]))
      obtain ⟨_, _, ⟨T87, L87, k87, n87⟩, -, X87, ⟨Lc87, hQ87, l87, y87, z87⟩, st87⟩ := Jvm.LawKit.callS X86 hx (y := (⟨"java/lang/Math", "min", "(II)I"⟩ : MethodName)) hown (mvT hZ (hw _ (List.mem_of_getElem? (i := 10) rfl))) (mvT hZ (hw _ (List.mem_of_getElem? (i := 11) rfl))) (mvT hZ (hw _ (List.mem_of_getElem? (i := 12) rfl))) (mvT hZ (hw _ (List.mem_of_getElem? (i := 13) rfl))) (by decide) (backOf (W := 1) (rm1 l Z a0 hw [] acc (2 : Int32) h86 n0 Zs86) hZ (hw _ (List.mem_of_getElem? (i := 13) rfl)) (hw _ (List.mem_of_getElem? (i := 12) rfl)) (by decide) (by decide)) (g := (mkF m 43 #[.val (.int i), .val (.int j), .val (.int acc), .val (.ref b71), .unset] [(.int (2 : Int32)), (.int acc), (.ref b71)])) rfl (by rw [hml]; rfl) (argsL := [(.int acc), (.int (2 : Int32))]) (rest := [(.ref b71)]) (lenOf own_pd1 rfl) rfl (by show 2 * 0 + _ ≤ _; exact Nat.le_of_eq rfl) (hb hby at_43) (fun _ _ => ⟨rfl, e86, (by decide : 1 + 0 ≤ _), (by decide : 3 + 0 ≤ _)⟩)
      dsimp only [Pt.U, Pt.locs, Pt.cells, Pt.slots] at X87 l87 y87 z87 st87 hQ87
      subst l87 y87 z87
      obtain ⟨rfl, N87q, e87⟩ := hQ87
      have N87 := Fr.app N86 N87q
      refine Go.st st87 ?_
      show Go p e below _ (T87.setTop (mkF m 46 #[.val (.int i), .val (.int j), .val (.int acc), .val (.ref b71), .unset] [(.int (own_min acc (2 : Int32))), (.ref b71)]))
      rw [(by rw [hc16_70]; rfl : own_min acc (2 : Int32) = (0 : Int32))]
      show Go p e below _ (T87.setTop (mkF m 46 #[.val (.int i), .val (.int j), .val (.int acc), .val (.ref b71), .unset] [(.int ((0 : Int32))), (.ref b71)]))
      show Go p e below _ (T87.setTop (mkF m 46 #[.val (.int i), .val (.int j), .val (.int acc), .val (.ref b71), .unset] [(.int (0 : Int32)), (.ref b71)]))
      obtain ⟨cl88, Ar88, -, S88, N88', H88, G88⟩ := id V86
      have hin88 := inb_of S88 (j := (0 : Int32)) ⟨by decide, by decide⟩
      have hat88 := Has.at H88 hin88 (v := (.ref wr)) rfl
      refine Go.st (fun _ kt => X87.aaload hx (j := (0 : Int32)) (v := (.ref wr)) (by rw [e87]; exact Ar88.1) (State.isArrayOf_alike hZ.alike Ar88.2.1) rfl Ar88.2.2 hin88 hat88 (g := (mkF m 46 #[.val (.int i), .val (.int j), .val (.int acc), .val (.ref b71), .unset] [(.int (0 : Int32)), (.ref b71)])) rfl rfl (hb hby at_46) _ kt) ?_
      show Go p e below _ (T87.setTop (mkF m 47 #[.val (.int i), .val (.int j), .val (.int acc), .val (.ref b71), .unset] [(.ref wr)]))
      refine Go.st (fun _ kt => XS.astore X87.here hx rfl (hb hby at_47) rfl rfl (l' := #[.val (.int i), .val (.int j), .val (.int acc), .val (.ref b71), .val (.ref wr)]) rfl kt) ?_
      show Go p e below _ (T87.setTop (mkF m 49 #[.val (.int i), .val (.int j), .val (.int acc), .val (.ref b71), .val (.ref wr)] []))
      refine Go.st (fun _ kt => XS.iloadN X87.here hx rfl (hb hby at_49) rfl kt) ?_
      show Go p e below _ (T87.setTop (mkF m 50 #[.val (.int i), .val (.int j), .val (.int acc), .val (.ref b71), .val (.ref wr)] [(.int acc)]))
      have f89 := (((f72.wr W76).wr W81).wr W86)
      have f90 := ((f77.wr W81).wr W86)
      have f91 := (f82.wr W86)
      obtain ⟨_, _, ⟨T92, L92, k92, n92⟩, -, X92, ⟨Lc92, hQ92, l92, y92, z92⟩, st92⟩ := Jvm.LawKit.callS X87 hx (y := (⟨"com/example/lockward/lockward/Audit$Outcome", "ofResolution", "(I)Lcom/example/lockward/lockward/Audit$Outcome;"⟩ : MethodName)) hown (mvT hZ (hw _ (List.mem_of_getElem? (i := 14) rfl))) (mvT hZ (hw _ (List.mem_of_getElem? (i := 15) rfl))) (mvT hZ (hw _ (List.mem_of_getElem? (i := 3) rfl))) (mvT hZ (hw _ (List.mem_of_getElem? (i := 16) rfl))) (by decide) (backOf (W := 0) (rm2 l Z a0 hw [] acc wr wo wu h86 n0 Zs86 f89 f90 f91) hZ (hw _ (List.mem_of_getElem? (i := 16) rfl)) (hw _ (List.mem_of_getElem? (i := 3) rfl)) (by decide) (by decide)) (g := (mkF m 50 #[.val (.int i), .val (.int j), .val (.int acc), .val (.ref b71), .val (.ref wr)] [(.int acc)])) rfl (by rw [hml]; rfl) (argsL := [(.int acc)]) (rest := []) (lenOf own_pd2 rfl) rfl (by show 2 * 0 + _ ≤ _; exact Nat.le_of_eq rfl) (hb hby at_50) (fun _ _ => ⟨rfl, e87, (by decide : 1 + 0 ≤ _), (by decide : 3 + 0 ≤ _)⟩)
      dsimp only [Pt.U, Pt.locs, Pt.cells, Pt.slots] at X92 l92 y92 z92 st92 hQ92
      subst l92 y92 z92
      obtain ⟨rfl, N92q, e92⟩ := hQ92
      have N92 := Fr.app N87 N92q
      refine Go.st st92 ?_
      show Go p e below _ (T92.setTop (mkF m 53 #[.val (.int i), .val (.int j), .val (.int acc), .val (.ref b71), .val (.ref wr)] [(.ref (own_pick acc wr wo wu))]))
      refine Go.st (fun _ kt => XS.aload X92.here hx rfl (hb hby at_53) rfl rfl kt) ?_
      show Go p e below _ (T92.setTop (mkF m 55 #[.val (.int i), .val (.int j), .val (.int acc), .val (.ref b71), .val (.ref wr)] [(.ref wr), (.ref (own_pick acc wr wo wu))]))
      rw [(by rw [hc16_70]; rfl : own_pick acc wr wo wu = wr)]
      show Go p e below _ (T92.setTop (mkF m 55 #[.val (.int i), .val (.int j), .val (.int acc), .val (.ref b71), .val (.ref wr)] [(.ref wr), (.ref (wr))]))
      show Go p e below _ (T92.setTop (mkF m 55 #[.val (.int i), .val (.int j), .val (.int acc), .val (.ref b71), .val (.ref wr)] [(.ref wr), (.ref wr)]))
      refine Go.st (fun _ kt => Jvm.RoadKit.acmp (g := (mkF m 55 #[.val (.int i), .val (.int j), .val (.int acc), .val (.ref b71), .val (.ref wr)] [(.ref wr), (.ref wr)])) X92 hx rfl rfl rfl (pc0 := 55) (pc' := 58) (same := true) rfl (hb hby at_55) rfl (decide_eq_true rfl) (by decide) (by decide) kt) ?_
      show Go p e below _ (T92.setTop (mkF m 58 #[.val (.int i), .val (.int j), .val (.int acc), .val (.ref b71), .val (.ref wr)] []))
      refine Go.st (fun _ kt => XS.iconst X92.here hx rfl (hb hby at_58) kt) ?_
      show Go p e below _ (T92.setTop (mkF m 59 #[.val (.int i), .val (.int j), .val (.int acc), .val (.ref b71), .val (.ref wr)] [(.int (1 : Int32))]))
      refine Go.st (fun _ kt => XS.goto X92.here hx rfl (pc0 := 59) (pc' := 63) rfl (hb hby at_59) (by decide) (by decide) kt) ?_
      show Go p e below _ (T92.setTop (mkF m 63 #[.val (.int i), .val (.int j), .val (.int acc), .val (.ref b71), .val (.ref wr)] [(.int (1 : Int32))]))
      refine Go.retN X92 hx (t := .boolean) Bd.returns (by simp) (BodyLoose.notSynchronized Bd) (hb hby at_63) (Q := (Q_rm0 Z i j wr wo wu h0 n0)) (by decide) (by decide) ?_
      show (Q_rm0 Z i j wr wo wu h0 n0) _ T92.heap _
      rw [e92]
      exact ⟨rfl, N92⟩
    · by_cases hc16_93 : acc = (1 : Int32)
      · refine Go.st (fun _ kt => XS.istoreN X0.here hx rfl (hb hby at_16) rfl (l' := #[.val (.int i), .val (.int j), .val (.int acc), .unset, .unset]) rfl kt) ?_
        show Go p e below _ (s₁.setTop (mkF m 17 #[.val (.int i), .val (.int j), .val (.int acc), .unset, .unset] []))
        refine Go.st (fun _ kt => XS.iconst X0.here hx rfl (hb hby at_17) kt) ?_
        show Go p e below _ (s₁.setTop (mkF m 18 #[.val (.int i), .val (.int j), .val (.int acc), .unset, .unset] [(.int (3 : Int32))]))
        obtain ⟨T94, h94, k94, X94, e94, E94, A94, O94, st94⟩ := newR X0 hx hZ hown (hw _ (List.mem_of_getElem? (i := 0) rfl)) (hw _ (List.mem_of_getElem? (i := 1) rfl)) e0 (g := (mkF m 18 #[.val (.int i), .val (.int j), .val (.int acc), .unset, .unset] [(.int (3 : Int32))])) rfl (hb hby at_18) rfl (by decide) (cap := 3) (by decide) (by decide) (by decide) (by decide)
        obtain ⟨b94, g94⟩ : ∃ z, z = h0.size := ⟨_, rfl⟩
        rw [← g94] at A94 st94
        have lt_wr_b94 : wr < b94 := Nat.lt_of_lt_of_eq E_wr.lt g94.symm
        have lt_wo_b94 : wo < b94 := Nat.lt_of_lt_of_eq E_wo.lt g94.symm
        have lt_wu_b94 : wu < b94 := Nat.lt_of_lt_of_eq E_wu.lt g94.symm
        have gn_b94 : n0 ≤ b94 := Nat.le_trans Z0 (Nat.le_of_eq g94.symm)
        have Zs94 : n0 ≤ h94.size := Nat.le_trans Z0 E94.1
        refine Go.st st94 ?_
        have V94 : Arv Z h94 b94 k94 (.object "com/example/lockward/lockward/Audit$Outcome") (3 : Int32) [.null, .null, .null] .null := (Arv.new A94 (by decide)).pad (pad_rep [] .null 3)
        show Go p e below _ (T94.setTop (mkF m 21 #[.val (.int i), .val (.int j), .val (.int acc), .unset, .unset] [(.ref b94)]))
        refine Go.st (fun _ kt => XS.dup X94.here hx rfl (hb hby at_21) rfl rfl kt) ?_
        show Go p e below _ (T94.setTop (mkF m 22 #[.val (.int i), .val (.int j), .val (.int acc), .unset, .unset] [(.ref b94), (.ref b94)]))
        refine Go.st (fun _ kt => XS.iconst X94.here hx rfl (hb hby at_22) kt) ?_
        show Go p e below _ (T94.setTop (mkF m 23 #[.val (.int i), .val (.int j), .val (.int acc), .unset, .unset] [(.int (0 : Int32)), (.ref b94), (.ref b94)]))
        have f95 := (S_wr.ext E94)
        obtain ⟨T96, X96, e96, st96⟩ := getS2 X94 hx hZ hown (host := "") (Or.inl (hw _ (List.mem_of_getElem? (i := 2) rfl))) Via.refl e94 f95 (g := (mkF m 23 #[.val (.int i), .val (.int j), .val (.int acc), .unset, .unset] [(.int (0 : Int32)), (.ref b94), (.ref b94)])) rfl (hb hby at_23)
        refine Go.st st96 ?_
        show Go p e below _ (T96.setTop (mkF m 26 #[.val (.int i), .val (.int j), .val (.int acc), .unset, .unset] [(.ref wr), (.int (0 : Int32)), (.ref b94), (.ref b94)]))
        have f98 := (E_wr.ext E94)
        obtain ⟨cl97, Ar97, q97, S97, N97', H97, G97⟩ := id V94
        have hin97 : ¬ ((0 : Int32) < 0 ∨ cl97.slots.size ≤ ((0 : Int32)).toNatClampNeg) := inb_of S97 ⟨by decide, by decide⟩
        obtain ⟨T99, h99, X99, e99, W99, st99⟩ := stR X96 hx hZ e96 Ar97 (j := (0 : Int32)) hin97 rfl (Sto.ofV Ar97 q97 O94 (Ins.self f98)) (g := (mkF m 26 #[.val (.int i), .val (.int j), .val (.int acc), .unset, .unset] [(.ref wr), (.int (0 : Int32)), (.ref b94), (.ref b94)])) rfl rfl (hb hby at_26)
        refine Go.st st99 ?_
        have V99 : Arv Z h99 b94 k94 (.object "com/example/lockward/lockward/Audit$Outcome") (3 : Int32) [(.ref wr), .null, .null] .null := Arv.set Ar97 q97 S97 N97' H97 G97 rfl W99 0 rfl (Nat.le_of_ble_eq_true rfl)
        have Zs99 : n0 ≤ h99.size := Nat.le_trans Zs94 (Nat.le_of_eq W99.size.symm)
        have N99 := Fr.snoc X99 N0 gn_b94
        show Go p e below _ (T99.setTop (mkF m 27 #[.val (.int i), .val (.int j), .val (.int acc), .unset, .unset] [(.ref b94)]))
        refine Go.st (fun _ kt => XS.dup X99.here hx rfl (hb hby at_27) rfl rfl kt) ?_
        show Go p e below _ (T99.setTop (mkF m 28 #[.val (.int i), .val (.int j), .val (.int acc), .unset, .unset] [(.ref b94), (.ref b94)]))
        refine Go.st (fun _ kt => XS.iconst X99.here hx rfl (hb hby at_28) kt) ?_
        show Go p e below _ (T99.setTop (mkF m 29 #[.val (.int i), .val (.int j), .val (.int acc), .unset, .unset] [(.int (1 : Int32)), (.ref b94), (.ref b94)]))
        have f100 := ((S_wo.ext E94).wr W99)
        obtain ⟨T101, X101, e101, st101⟩ := getS2 X99 hx hZ hown (host := "") (Or.inl (hw _ (List.mem_of_getElem? (i := 6) rfl))) Via.refl e99 f100 (g := (mkF m 29 #[.val (.int i), .val (.int j), .val (.int acc), .unset, .unset] [(.int (1 : Int32)), (.ref b94), (.ref b94)])) rfl (hb hby at_29)
        refine Go.st st101 ?_
        show Go p e below _ (T101.setTop (mkF m 32 #[.val (.int i), .val (.int j), .val (.int acc), .unset, .unset] [(.ref wo), (.int (1 : Int32)), (.ref b94), (.ref b94)]))
        have f103 := ((E_wo.ext E94).wr W99)
        obtain ⟨cl102, Ar102, q102, S102, N102', H102, G102⟩ := id V99
        have hin102 : ¬ ((1 : Int32) < 0 ∨ cl102.slots.size ≤ ((1 : Int32)).toNatClampNeg) := inb_of S102 ⟨by decide, by decide⟩
        obtain ⟨T104, h104, X104, e104, W104, st104⟩ := stR X101 hx hZ e101 Ar102 (j := (1 : Int32)) hin102 rfl (Sto.ofV Ar102 q102 O94 (Ins.self f103)) (g := (mkF m 32 #[.val (.int i), .val (.int j), .val (.int acc), .unset, .unset] [(.ref wo), (.int (1 : Int32)), (.ref b94), (.ref b94)])) rfl rfl (hb hby at_32)
        refine Go.st st104 ?_
        have V104 : Arv Z h104 b94 k94 (.object "com/example/lockward/lockward/Audit$Outcome") (3 : Int32) [(.ref wr), (.ref wo), .null] .null := Arv.set Ar102 q102 S102 N102' H102 G102 rfl W104 1 rfl (Nat.le_of_ble_eq_true rfl)
        have Zs104 : n0 ≤ h104.size := Nat.le_trans Zs99 (Nat.le_of_eq W104.size.symm)
        have N104 := Fr.snoc X104 N99 gn_b94
        show Go p e below _ (T104.setTop (mkF m 33 #[.val (.int i), .val (.int j), .val (.int acc), .unset, .unset] [(.ref b94)]))
        refine Go.st (fun _ kt => XS.dup X104.here hx rfl (hb hby at_33) rfl rfl kt) ?_
        show Go p e below _ (T104.setTop (mkF m 34 #[.val (.int i), .val (.int j), .val (.int acc), .unset, .unset] [(.ref b94), (.ref b94)]))
        refine Go.st (fun _ kt => XS.iconst X104.here hx rfl (hb hby at_34) kt) ?_
        show Go p e below _ (T104.setTop (mkF m 35 #[.val (.int i), .val (.int j), .val (.int acc), .unset, .unset] [(.int (2 : Int32)), (.ref b94), (.ref b94)]))
        have f105 := (((S_wu.ext E94).wr W99).wr W104)
        obtain ⟨T106, X106, e106, st106⟩ := getS2 X104 hx hZ hown (host := "") (Or.inl (hw _ (List.mem_of_getElem? (i := 8) rfl))) Via.refl e104 f105 (g := (mkF m 35 #[.val (.int i), .val (.int j), .val (.int acc), .unset, .unset] [(.int (2 : Int32)), (.ref b94), (.ref b94)])) rfl (hb hby at_35)
        refine Go.st st106 ?_
        show Go p e below _ (T106.setTop (mkF m 38 #[.val (.int i), .val (.int j), .val (.int acc), .unset, .unset] [(.ref wu), (.int (2 : Int32)), (.ref b94), (.ref b94)]))
        have f108 := (((E_wu.ext E94).wr W99).wr W104)
        obtain ⟨cl107, Ar107, q107, S107, N107', H107, G107⟩ := id V104
        have hin107 : ¬ ((2 : Int32) < 0 ∨ cl107.slots.size ≤ ((2 : Int32)).toNatClampNeg) := inb_of S107 ⟨by decide, by decide⟩
        obtain ⟨T109, h109, X109, e109, W109, st109⟩ := stR X106 hx hZ e106 Ar107 (j := (2 : Int32)) hin107 rfl (Sto.ofV Ar107 q107 O94 (Ins.self f108)) (g := (mkF m 38 #[.val (.int i), .val (.int j), .val (.int acc), .unset, .unset] [(.ref wu), (.int (2 : Int32)), (.ref b94), (.ref b94)])) rfl rfl (hb hby at_38)
        refine Go.st st109 ?_
        have V109 : Arv Z h109 b94 k94 (.object "com/example/lockward/lockward/Audit$Outcome") (3 : Int32) [(.ref wr), (.ref wo), (.ref wu)] .null := Arv.set Ar107 q107 S107 N107' H107 G107 rfl W109 2 rfl (Nat.le_of_ble_eq_true rfl)
        have Zs109 : n0 ≤ h109.size := Nat.le_trans Zs104 (Nat.le_of_eq W109.size.symm)
        have N109 := Fr.snoc X109 N104 gn_b94
        show Go p e below _ (T109.setTop (mkF m 39 #[.val (.int i), .val (.int j), .val (.int acc), .unset, .unset] [(.ref b94)]))
        refine Go.st (fun _ kt => XS.astoreN X109.here hx rfl (hb hby at_39) rfl rfl (l' := #[.val (.int i), .val (.int j), .val (.int acc), .val (.ref b94), .unset]) rfl kt) ?_
        show Go p e below _ (T109.setTop (mkF m 40 #[.val (.int i), .val (.int j), .val (.int acc), .val (.ref b94), .unset] []))
        refine Go.st (fun _ kt => XS.aloadN X109.here hx rfl (hb hby at_40) rfl rfl kt) ?_
        show Go p e below _ (T109.setTop (mkF m 41 #[.val (.int i), .val (.int j), .val (.int acc), .val (.ref b94), .unset] [(.ref b94)]))
        refine Go.st (fun _ kt => XS.iloadN X109.here hx rfl (hb hby at_41) rfl kt) ?_
        show Go p e below _ (T109.setTop (mkF m 42 #[.val (.int i), .val (.int j), .val (.int acc), .val (.ref b94), .unset] [(.int acc), (.ref b94)]))
        refine Go.st (fun _ kt => XS.iconst X109.here hx rfl (hb hby at_42) kt) ?_
        show Go p e below _ (T109.setTop (mkF m 43 #[.val (.int i), .val (.int j), .val (.int acc), .val (.ref b94), .unset] [(.int (2 : Int32)), (.int acc), (.ref b94)]))
        obtain ⟨_, _, ⟨T110, L110, k110, n110⟩, -, X110, ⟨Lc110, hQ110, l110, y110, z110⟩, st110⟩ := Jvm.LawKit.callS X109 hx (y := (⟨"java/lang/Math", "min", "(II)I"⟩ : MethodName)) hown (mvT hZ (hw _ (List.mem_of_getElem? (i := 10) rfl))) (mvT hZ (hw _ (List.mem_of_getElem? (i := 11) rfl))) (mvT hZ (hw _ (List.mem_of_getElem? (i := 12) rfl))) (mvT hZ (hw _ (List.mem_of_getElem? (i := 13) rfl))) (by decide) (backOf (W := 1) (rm1 l Z a0 hw [] acc (2 : Int32) h109 n0 Zs109) hZ (hw _ (List.mem_of_getElem? (i := 13) rfl)) (hw _ (List.mem_of_getElem? (i := 12) rfl)) (by decide) (by decide)) (g := (mkF m 43 #[.val (.int i), .val (.int j), .val (.int acc), .val (.ref b94), .unset] [(.int (2 : Int32)), (.int acc), (.ref b94)])) rfl (by rw [hml]; rfl) (argsL := [(.int acc), (.int (2 : Int32))]) (rest := [(.ref b94)]) (lenOf own_pd1 rfl) rfl (by show 2 * 0 + _ ≤ _; exact Nat.le_of_eq rfl) (hb hby at_43) (fun _ _ => ⟨rfl, e109, (by decide : 1 + 0 ≤ _), (by decide : 3 + 0 ≤ _)⟩)
        dsimp only [Pt.U, Pt.locs, Pt.cells, Pt.slots] at X110 l110 y110 z110 st110 hQ110
        subst l110 y110 z110
        obtain ⟨rfl, N110q, e110⟩ := hQ110
        have N110 := Fr.app N109 N110q
        refine Go.st st110 ?_
        show Go p e below _ (T110.setTop (mkF m 46 #[.val (.int i), .val (.int j), .val (.int acc), .val (.ref b94), .unset] [(.int (own_min acc (2 : Int32))), (.ref b94)]))
        rw [(by rw [hc16_93]; rfl : own_min acc (2 : Int32) = (1 : Int32))]
        show Go p e below _ (T110.setTop (mkF m 46 #[.val (.int i), .val (.int j), .val (.int acc), .val (.ref b94), .unset] [(.int ((1 : Int32))), (.ref b94)]))
        show Go p e below _ (T110.setTop (mkF m 46 #[.val (.int i), .val (.int j), .val (.int acc), .val (.ref b94), .unset] [(.int (1 : Int32)), (.ref b94)]))
        obtain ⟨cl111, Ar111, -, S111, N111', H111, G111⟩ := id V109
        have hin111 := inb_of S111 (j := (1 : Int32)) ⟨by decide, by decide⟩
        have hat111 := Has.at H111 hin111 (v := (.ref wo)) rfl
        refine Go.st (fun _ kt => X110.aaload hx (j := (1 : Int32)) (v := (.ref wo)) (by rw [e110]; exact Ar111.1) (State.isArrayOf_alike hZ.alike Ar111.2.1) rfl Ar111.2.2 hin111 hat111 (g := (mkF m 46 #[.val (.int i), .val (.int j), .val (.int acc), .val (.ref b94), .unset] [(.int (1 : Int32)), (.ref b94)])) rfl rfl (hb hby at_46) _ kt) ?_
        show Go p e below _ (T110.setTop (mkF m 47 #[.val (.int i), .val (.int j), .val (.int acc), .val (.ref b94), .unset] [(.ref wo)]))
        refine Go.st (fun _ kt => XS.astore X110.here hx rfl (hb hby at_47) rfl rfl (l' := #[.val (.int i), .val (.int j), .val (.int acc), .val (.ref b94), .val (.ref wo)]) rfl kt) ?_
        show Go p e below _ (T110.setTop (mkF m 49 #[.val (.int i), .val (.int j), .val (.int acc), .val (.ref b94), .val (.ref wo)] []))
        refine Go.st (fun _ kt => XS.iloadN X110.here hx rfl (hb hby at_49) rfl kt) ?_
        show Go p e below _ (T110.setTop (mkF m 50 #[.val (.int i), .val (.int j), .val (.int acc), .val (.ref b94), .val (.ref wo)] [(.int acc)]))
        have f112 := (((f95.wr W99).wr W104).wr W109)
        have f113 := ((f100.wr W104).wr W109)
        have f114 := (f105.wr W109)
        obtain ⟨_, _, ⟨T115, L115, k115, n115⟩, -, X115, ⟨Lc115, hQ115, l115, y115, z115⟩, st115⟩ := Jvm.LawKit.callS X110 hx (y := (⟨"com/example/lockward/lockward/Audit$Outcome", "ofResolution", "(I)Lcom/example/lockward/lockward/Audit$Outcome;"⟩ : MethodName)) hown (mvT hZ (hw _ (List.mem_of_getElem? (i := 14) rfl))) (mvT hZ (hw _ (List.mem_of_getElem? (i := 15) rfl))) (mvT hZ (hw _ (List.mem_of_getElem? (i := 3) rfl))) (mvT hZ (hw _ (List.mem_of_getElem? (i := 16) rfl))) (by decide) (backOf (W := 0) (rm2 l Z a0 hw [] acc wr wo wu h109 n0 Zs109 f112 f113 f114) hZ (hw _ (List.mem_of_getElem? (i := 16) rfl)) (hw _ (List.mem_of_getElem? (i := 3) rfl)) (by decide) (by decide)) (g := (mkF m 50 #[.val (.int i), .val (.int j), .val (.int acc), .val (.ref b94), .val (.ref wo)] [(.int acc)])) rfl (by rw [hml]; rfl) (argsL := [(.int acc)]) (rest := []) (lenOf own_pd2 rfl) rfl (by show 2 * 0 + _ ≤ _; exact Nat.le_of_eq rfl) (hb hby at_50) (fun _ _ => ⟨rfl, e110, (by decide : 1 + 0 ≤ _), (by decide : 3 + 0 ≤ _)⟩)
        dsimp only [Pt.U, Pt.locs, Pt.cells, Pt.slots] at X115 l115 y115 z115 st115 hQ115
        subst l115 y115 z115
        obtain ⟨rfl, N115q, e115⟩ := hQ115
        have N115 := Fr.app N110 N115q
        refine Go.st st115 ?_
        show Go p e below _ (T115.setTop (mkF m 53 #[.val (.int i), .val (.int j), .val (.int acc), .val (.ref b94), .val (.ref wo)] [(.ref (own_pick acc wr wo wu))]))
        refine Go.st (fun _ kt => XS.aload X115.here hx rfl (hb hby at_53) rfl rfl kt) ?_
        show Go p e below _ (T115.setTop (mkF m 55 #[.val (.int i), .val (.int j), .val (.int acc), .val (.ref b94), .val (.ref wo)] [(.ref wo), (.ref (own_pick acc wr wo wu))]))
        rw [(by rw [hc16_93]; rfl : own_pick acc wr wo wu = wo)]
        show Go p e below _ (T115.setTop (mkF m 55 #[.val (.int i), .val (.int j), .val (.int acc), .val (.ref b94), .val (.ref wo)] [(.ref wo), (.ref (wo))]))
        show Go p e below _ (T115.setTop (mkF m 55 #[.val (.int i), .val (.int j), .val (.int acc), .val (.ref b94), .val (.ref wo)] [(.ref wo), (.ref wo)]))
        refine Go.st (fun _ kt => Jvm.RoadKit.acmp (g := (mkF m 55 #[.val (.int i), .val (.int j), .val (.int acc), .val (.ref b94), .val (.ref wo)] [(.ref wo), (.ref wo)])) X115 hx rfl rfl rfl (pc0 := 55) (pc' := 58) (same := true) rfl (hb hby at_55) rfl (decide_eq_true rfl) (by decide) (by decide) kt) ?_
        show Go p e below _ (T115.setTop (mkF m 58 #[.val (.int i), .val (.int j), .val (.int acc), .val (.ref b94), .val (.ref wo)] []))
        refine Go.st (fun _ kt => XS.iconst X115.here hx rfl (hb hby at_58) kt) ?_
        show Go p e below _ (T115.setTop (mkF m 59 #[.val (.int i), .val (.int j), .val (.int acc), .val (.ref b94), .val (.ref wo)] [(.int (1 : Int32))]))
        refine Go.st (fun _ kt => XS.goto X115.here hx rfl (pc0 := 59) (pc' := 63) rfl (hb hby at_59) (by decide) (by decide) kt) ?_
        show Go p e below _ (T115.setTop (mkF m 63 #[.val (.int i), .val (.int j), .val (.int acc), .val (.ref b94), .val (.ref wo)] [(.int (1 : Int32))]))
        refine Go.retN X115 hx (t := .boolean) Bd.returns (by simp) (BodyLoose.notSynchronized Bd) (hb hby at_63) (Q := (Q_rm0 Z i j wr wo wu h0 n0)) (by decide) (by decide) ?_
        show (Q_rm0 Z i j wr wo wu h0 n0) _ T115.heap _
        rw [e115]
        exact ⟨rfl, N115⟩
      · refine Go.st (fun _ kt => XS.istoreN X0.here hx rfl (hb hby at_16) rfl (l' := #[.val (.int i), .val (.int j), .val (.int acc), .unset, .unset]) rfl kt) ?_
        show Go p e below _ (s₁.setTop (mkF m 17 #[.val (.int i), .val (.int j), .val (.int acc), .unset, .unset] []))
        refine Go.st (fun _ kt => XS.iconst X0.here hx rfl (hb hby at_17) kt) ?_
        show Go p e below _ (s₁.setTop (mkF m 18 #[.val (.int i), .val (.int j), .val (.int acc), .unset, .unset] [(.int (3 : Int32))]))
        obtain ⟨T116, h116, k116, X116, e116, E116, A116, O116, st116⟩ := newR X0 hx hZ hown (hw _ (List.mem_of_getElem? (i := 0) rfl)) (hw _ (List.mem_of_getElem? (i := 1) rfl)) e0 (g := (mkF m 18 #[.val (.int i), .val (.int j), .val (.int acc), .unset, .unset] [(.int (3 : Int32))])) rfl (hb hby at_18) rfl (by decide) (cap := 3) (by decide) (by decide) (by decide) (by decide)
        obtain ⟨b116, g116⟩ : ∃ z, z = h0.size := ⟨_, rfl⟩
        rw [← g116] at A116 st116
        have lt_wr_b116 : wr < b116 := Nat.lt_of_lt_of_eq E_wr.lt g116.symm
        have lt_wo_b116 : wo < b116 := Nat.lt_of_lt_of_eq E_wo.lt g116.symm
        have lt_wu_b116 : wu < b116 := Nat.lt_of_lt_of_eq E_wu.lt g116.symm
        have gn_b116 : n0 ≤ b116 := Nat.le_trans Z0 (Nat.le_of_eq g116.symm)
        have Zs116 : n0 ≤ h116.size := Nat.le_trans Z0 E116.1
        refine Go.st st116 ?_
        have V116 : Arv Z h116 b116 k116 (.object "com/example/lockward/lockward/Audit$Outcome") (3 : Int32) [.null, .null, .null] .null := (Arv.new A116 (by decide)).pad (pad_rep [] .null 3)
        show Go p e below _ (T116.setTop (mkF m 21 #[.val (.int i), .val (.int j), .val (.int acc), .unset, .unset] [(.ref b116)]))
        refine Go.st (fun _ kt => XS.dup X116.here hx rfl (hb hby at_21) rfl rfl kt) ?_
        show Go p e below _ (T116.setTop (mkF m 22 #[.val (.int i), .val (.int j), .val (.int acc), .unset, .unset] [(.ref b116), (.ref b116)]))
        refine Go.st (fun _ kt => XS.iconst X116.here hx rfl (hb hby at_22) kt) ?_
        show Go p e below _ (T116.setTop (mkF m 23 #[.val (.int i), .val (.int j), .val (.int acc), .unset, .unset] [(.int (0 : Int32)), (.ref b116), (.ref b116)]))
        have f117 := (S_wr.ext E116)
        obtain ⟨T118, X118, e118, st118⟩ := getS2 X116 hx hZ hown (host := "") (Or.inl (hw _ (List.mem_of_getElem? (i := 2) rfl))) Via.refl e116 f117 (g := (mkF m 23 #[.val (.int i), .val (.int j), .val (.int acc), .unset, .unset] [(.int (0 : Int32)), (.ref b116), (.ref b116)])) rfl (hb hby at_23)
        refine Go.st st118 ?_
        show Go p e below _ (T118.setTop (mkF m 26 #[.val (.int i), .val (.int j), .val (.int acc), .unset, .unset] [(.ref wr), (.int (0 : Int32)), (.ref b116), (.ref b116)]))
        have f120 := (E_wr.ext E116)
        obtain ⟨cl119, Ar119, q119, S119, N119', H119, G119⟩ := id V116
        have hin119 : ¬ ((0 : Int32) < 0 ∨ cl119.slots.size ≤ ((0 : Int32)).toNatClampNeg) := inb_of S119 ⟨by decide, by decide⟩
        obtain ⟨T121, h121, X121, e121, W121, st121⟩ := stR X118 hx hZ e118 Ar119 (j := (0 : Int32)) hin119 rfl (Sto.ofV Ar119 q119 O116 (Ins.self f120)) (g := (mkF m 26 #[.val (.int i), .val (.int j), .val (.int acc), .unset, .unset] [(.ref wr), (.int (0 : Int32)), (.ref b116), (.ref b116)])) rfl rfl (hb hby at_26)
        refine Go.st st121 ?_
        have V121 : Arv Z h121 b116 k116 (.object "com/example/lockward/lockward/Audit$Outcome") (3 : Int32) [(.ref wr), .null, .null] .null := Arv.set Ar119 q119 S119 N119' H119 G119 rfl W121 0 rfl (Nat.le_of_ble_eq_true rfl)
        have Zs121 : n0 ≤ h121.size := Nat.le_trans Zs116 (Nat.le_of_eq W121.size.symm)
        have N121 := Fr.snoc X121 N0 gn_b116
        show Go p e below _ (T121.setTop (mkF m 27 #[.val (.int i), .val (.int j), .val (.int acc), .unset, .unset] [(.ref b116)]))
        refine Go.st (fun _ kt => XS.dup X121.here hx rfl (hb hby at_27) rfl rfl kt) ?_
        show Go p e below _ (T121.setTop (mkF m 28 #[.val (.int i), .val (.int j), .val (.int acc), .unset, .unset] [(.ref b116), (.ref b116)]))
        refine Go.st (fun _ kt => XS.iconst X121.here hx rfl (hb hby at_28) kt) ?_
        show Go p e below _ (T121.setTop (mkF m 29 #[.val (.int i), .val (.int j), .val (.int acc), .unset, .unset] [(.int (1 : Int32)), (.ref b116), (.ref b116)]))
        have f122 := ((S_wo.ext E116).wr W121)
        obtain ⟨T123, X123, e123, st123⟩ := getS2 X121 hx hZ hown (host := "") (Or.inl (hw _ (List.mem_of_getElem? (i := 6) rfl))) Via.refl e121 f122 (g := (mkF m 29 #[.val (.int i), .val (.int j), .val (.int acc), .unset, .unset] [(.int (1 : Int32)), (.ref b116), (.ref b116)])) rfl (hb hby at_29)
        refine Go.st st123 ?_
        show Go p e below _ (T123.setTop (mkF m 32 #[.val (.int i), .val (.int j), .val (.int acc), .unset, .unset] [(.ref wo), (.int (1 : Int32)), (.ref b116), (.ref b116)]))
        have f125 := ((E_wo.ext E116).wr W121)
        obtain ⟨cl124, Ar124, q124, S124, N124', H124, G124⟩ := id V121
        have hin124 : ¬ ((1 : Int32) < 0 ∨ cl124.slots.size ≤ ((1 : Int32)).toNatClampNeg) := inb_of S124 ⟨by decide, by decide⟩
        obtain ⟨T126, h126, X126, e126, W126, st126⟩ := stR X123 hx hZ e123 Ar124 (j := (1 : Int32)) hin124 rfl (Sto.ofV Ar124 q124 O116 (Ins.self f125)) (g := (mkF m 32 #[.val (.int i), .val (.int j), .val (.int acc), .unset, .unset] [(.ref wo), (.int (1 : Int32)), (.ref b116), (.ref b116)])) rfl rfl (hb hby at_32)
        refine Go.st st126 ?_
        have V126 : Arv Z h126 b116 k116 (.object "com/example/lockward/lockward/Audit$Outcome") (3 : Int32) [(.ref wr), (.ref wo), .null] .null := Arv.set Ar124 q124 S124 N124' H124 G124 rfl W126 1 rfl (Nat.le_of_ble_eq_true rfl)
        have Zs126 : n0 ≤ h126.size := Nat.le_trans Zs121 (Nat.le_of_eq W126.size.symm)
        have N126 := Fr.snoc X126 N121 gn_b116
        show Go p e below _ (T126.setTop (mkF m 33 #[.val (.int i), .val (.int j), .val (.int acc), .unset, .unset] [(.ref b116)]))
        refine Go.st (fun _ kt => XS.dup X126.here hx rfl (hb hby at_33) rfl rfl kt) ?_
        show Go p e below _ (T126.setTop (mkF m 34 #[.val (.int i), .val (.int j), .val (.int acc), .unset, .unset] [(.ref b116), (.ref b116)]))
        refine Go.st (fun _ kt => XS.iconst X126.here hx rfl (hb hby at_34) kt) ?_
        show Go p e below _ (T126.setTop (mkF m 35 #[.val (.int i), .val (.int j), .val (.int acc), .unset, .unset] [(.int (2 : Int32)), (.ref b116), (.ref b116)]))
        have f127 := (((S_wu.ext E116).wr W121).wr W126)
        obtain ⟨T128, X128, e128, st128⟩ := getS2 X126 hx hZ hown (host := "") (Or.inl (hw _ (List.mem_of_getElem? (i := 8) rfl))) Via.refl e126 f127 (g := (mkF m 35 #[.val (.int i), .val (.int j), .val (.int acc), .unset, .unset] [(.int (2 : Int32)), (.ref b116), (.ref b116)])) rfl (hb hby at_35)
        refine Go.st st128 ?_
        show Go p e below _ (T128.setTop (mkF m 38 #[.val (.int i), .val (.int j), .val (.int acc), .unset, .unset] [(.ref wu), (.int (2 : Int32)), (.ref b116), (.ref b116)]))
        have f130 := (((E_wu.ext E116).wr W121).wr W126)
        obtain ⟨cl129, Ar129, q129, S129, N129', H129, G129⟩ := id V126
        have hin129 : ¬ ((2 : Int32) < 0 ∨ cl129.slots.size ≤ ((2 : Int32)).toNatClampNeg) := inb_of S129 ⟨by decide, by decide⟩
        obtain ⟨T131, h131, X131, e131, W131, st131⟩ := stR X128 hx hZ e128 Ar129 (j := (2 : Int32)) hin129 rfl (Sto.ofV Ar129 q129 O116 (Ins.self f130)) (g := (mkF m 38 #[.val (.int i), .val (.int j), .val (.int acc), .unset, .unset] [(.ref wu), (.int (2 : Int32)), (.ref b116), (.ref b116)])) rfl rfl (hb hby at_38)
        refine Go.st st131 ?_
        have V131 : Arv Z h131 b116 k116 (.object "com/example/lockward/lockward/Audit$Outcome") (3 : Int32) [(.ref wr), (.ref wo), (.ref wu)] .null := Arv.set Ar129 q129 S129 N129' H129 G129 rfl W131 2 rfl (Nat.le_of_ble_eq_true rfl)
        have Zs131 : n0 ≤ h131.size := Nat.le_trans Zs126 (Nat.le_of_eq W131.size.symm)
        have N131 := Fr.snoc X131 N126 gn_b116
        show Go p e below _ (T131.setTop (mkF m 39 #[.val (.int i), .val (.int j), .val (.int acc), .unset, .unset] [(.ref b116)]))
        refine Go.st (fun _ kt => XS.astoreN X131.here hx rfl (hb hby at_39) rfl rfl (l' := #[.val (.int i), .val (.int j), .val (.int acc), .val (.ref b116), .unset]) rfl kt) ?_
        show Go p e below _ (T131.setTop (mkF m 40 #[.val (.int i), .val (.int j), .val (.int acc), .val (.ref b116), .unset] []))
        refine Go.st (fun _ kt => XS.aloadN X131.here hx rfl (hb hby at_40) rfl rfl kt) ?_
        show Go p e below _ (T131.setTop (mkF m 41 #[.val (.int i), .val (.int j), .val (.int acc), .val (.ref b116), .unset] [(.ref b116)]))
        refine Go.st (fun _ kt => XS.iloadN X131.here hx rfl (hb hby at_41) rfl kt) ?_
        show Go p e below _ (T131.setTop (mkF m 42 #[.val (.int i), .val (.int j), .val (.int acc), .val (.ref b116), .unset] [(.int acc), (.ref b116)]))
        refine Go.st (fun _ kt => XS.iconst X131.here hx rfl (hb hby at_42) kt) ?_
        show Go p e below _ (T131.setTop (mkF m 43 #[.val (.int i), .val (.int j), .val (.int acc), .val (.ref b116), .unset] [(.int (2 : Int32)), (.int acc), (.ref b116)]))
        obtain ⟨_, _, ⟨T132, L132, k132, n132⟩, -, X132, ⟨Lc132, hQ132, l132, y132, z132⟩, st132⟩ := Jvm.LawKit.callS X131 hx (y := (⟨"java/lang/Math", "min", "(II)I"⟩ : MethodName)) hown (mvT hZ (hw _ (List.mem_of_getElem? (i := 10) rfl))) (mvT hZ (hw _ (List.mem_of_getElem? (i := 11) rfl))) (mvT hZ (hw _ (List.mem_of_getElem? (i := 12) rfl))) (mvT hZ (hw _ (List.mem_of_getElem? (i := 13) rfl))) (by decide) (backOf (W := 1) (rm1 l Z a0 hw [] acc (2 : Int32) h131 n0 Zs131) hZ (hw _ (List.mem_of_getElem? (i := 13) rfl)) (hw _ (List.mem_of_getElem? (i := 12) rfl)) (by decide) (by decide)) (g := (mkF m 43 #[.val (.int i), .val (.int j), .val (.int acc), .val (.ref b116), .unset] [(.int (2 : Int32)), (.int acc), (.ref b116)])) rfl (by rw [hml]; rfl) (argsL := [(.int acc), (.int (2 : Int32))]) (rest := [(.ref b116)]) (lenOf own_pd1 rfl) rfl (by show 2 * 0 + _ ≤ _; exact Nat.le_of_eq rfl) (hb hby at_43) (fun _ _ => ⟨rfl, e131, (by decide : 1 + 0 ≤ _), (by decide : 3 + 0 ≤ _)⟩)
        dsimp only [Pt.U, Pt.locs, Pt.cells, Pt.slots] at X132 l132 y132 z132 st132 hQ132
        subst l132 y132 z132
        obtain ⟨rfl, N132q, e132⟩ := hQ132
        have N132 := Fr.app N131 N132q
        refine Go.st st132 ?_
        show Go p e below _ (T132.setTop (mkF m 46 #[.val (.int i), .val (.int j), .val (.int acc), .val (.ref b116), .unset] [(.int (own_min acc (2 : Int32))), (.ref b116)]))
        rw [(own_big acc hna hc16_70 hc16_93 : own_min acc (2 : Int32) = (2 : Int32))]
        show Go p e below _ (T132.setTop (mkF m 46 #[.val (.int i), .val (.int j), .val (.int acc), .val (.ref b116), .unset] [(.int ((2 : Int32))), (.ref b116)]))
        show Go p e below _ (T132.setTop (mkF m 46 #[.val (.int i), .val (.int j), .val (.int acc), .val (.ref b116), .unset] [(.int (2 : Int32)), (.ref b116)]))
        obtain ⟨cl133, Ar133, -, S133, N133', H133, G133⟩ := id V131
        have hin133 := inb_of S133 (j := (2 : Int32)) ⟨by decide, by decide⟩
        have hat133 := Has.at H133 hin133 (v := (.ref wu)) rfl
        refine Go.st (fun _ kt => X132.aaload hx (j := (2 : Int32)) (v := (.ref wu)) (by rw [e132]; exact Ar133.1) (State.isArrayOf_alike hZ.alike Ar133.2.1) rfl Ar133.2.2 hin133 hat133 (g := (mkF m 46 #[.val (.int i), .val (.int j), .val (.int acc), .val (.ref b116), .unset] [(.int (2 : Int32)), (.ref b116)])) rfl rfl (hb hby at_46) _ kt) ?_
        show Go p e below _ (T132.setTop (mkF m 47 #[.val (.int i), .val (.int j), .val (.int acc), .val (.ref b116), .unset] [(.ref wu)]))
        refine Go.st (fun _ kt => XS.astore X132.here hx rfl (hb hby at_47) rfl rfl (l' := #[.val (.int i), .val (.int j), .val (.int acc), .val (.ref b116), .val (.ref wu)]) rfl kt) ?_
        show Go p e below _ (T132.setTop (mkF m 49 #[.val (.int i), .val (.int j), .val (.int acc), .val (.ref b116), .val (.ref wu)] []))
        refine Go.st (fun _ kt => XS.iloadN X132.here hx rfl (hb hby at_49) rfl kt) ?_
        show Go p e below _ (T132.setTop (mkF m 50 #[.val (.int i), .val (.int j), .val (.int acc), .val (.ref b116), .val (.ref wu)] [(.int acc)]))
        have f134 := (((f117.wr W121).wr W126).wr W131)
        have f135 := ((f122.wr W126).wr W131)
        have f136 := (f127.wr W131)
        obtain ⟨_, _, ⟨T137, L137, k137, n137⟩, -, X137, ⟨Lc137, hQ137, l137, y137, z137⟩, st137⟩ := Jvm.LawKit.callS X132 hx (y := (⟨"com/example/lockward/lockward/Audit$Outcome", "ofResolution", "(I)Lcom/example/lockward/lockward/Audit$Outcome;"⟩ : MethodName)) hown (mvT hZ (hw _ (List.mem_of_getElem? (i := 14) rfl))) (mvT hZ (hw _ (List.mem_of_getElem? (i := 15) rfl))) (mvT hZ (hw _ (List.mem_of_getElem? (i := 3) rfl))) (mvT hZ (hw _ (List.mem_of_getElem? (i := 16) rfl))) (by decide) (backOf (W := 0) (rm2 l Z a0 hw [] acc wr wo wu h131 n0 Zs131 f134 f135 f136) hZ (hw _ (List.mem_of_getElem? (i := 16) rfl)) (hw _ (List.mem_of_getElem? (i := 3) rfl)) (by decide) (by decide)) (g := (mkF m 50 #[.val (.int i), .val (.int j), .val (.int acc), .val (.ref b116), .val (.ref wu)] [(.int acc)])) rfl (by rw [hml]; rfl) (argsL := [(.int acc)]) (rest := []) (lenOf own_pd2 rfl) rfl (by show 2 * 0 + _ ≤ _; exact Nat.le_of_eq rfl) (hb hby at_50) (fun _ _ => ⟨rfl, e132, (by decide : 1 + 0 ≤ _), (by decide : 3 + 0 ≤ _)⟩)
        dsimp only [Pt.U, Pt.locs, Pt.cells, Pt.slots] at X137 l137 y137 z137 st137 hQ137
        subst l137 y137 z137
        obtain ⟨rfl, N137q, e137⟩ := hQ137
        have N137 := Fr.app N132 N137q
        refine Go.st st137 ?_
        show Go p e below _ (T137.setTop (mkF m 53 #[.val (.int i), .val (.int j), .val (.int acc), .val (.ref b116), .val (.ref wu)] [(.ref (own_pick acc wr wo wu))]))
        refine Go.st (fun _ kt => XS.aload X137.here hx rfl (hb hby at_53) rfl rfl kt) ?_
        show Go p e below _ (T137.setTop (mkF m 55 #[.val (.int i), .val (.int j), .val (.int acc), .val (.ref b116), .val (.ref wu)] [(.ref wu), (.ref (own_pick acc wr wo wu))]))
        rw [(by simp [own_pick, hc16_70, hc16_93] : own_pick acc wr wo wu = wu)]
        show Go p e below _ (T137.setTop (mkF m 55 #[.val (.int i), .val (.int j), .val (.int acc), .val (.ref b116), .val (.ref wu)] [(.ref wu), (.ref (wu))]))
        show Go p e below _ (T137.setTop (mkF m 55 #[.val (.int i), .val (.int j), .val (.int acc), .val (.ref b116), .val (.ref wu)] [(.ref wu), (.ref wu)]))
        refine Go.st (fun _ kt => Jvm.RoadKit.acmp (g := (mkF m 55 #[.val (.int i), .val (.int j), .val (.int acc), .val (.ref b116), .val (.ref wu)] [(.ref wu), (.ref wu)])) X137 hx rfl rfl rfl (pc0 := 55) (pc' := 58) (same := true) rfl (hb hby at_55) rfl (decide_eq_true rfl) (by decide) (by decide) kt) ?_
        show Go p e below _ (T137.setTop (mkF m 58 #[.val (.int i), .val (.int j), .val (.int acc), .val (.ref b116), .val (.ref wu)] []))
        refine Go.st (fun _ kt => XS.iconst X137.here hx rfl (hb hby at_58) kt) ?_
        show Go p e below _ (T137.setTop (mkF m 59 #[.val (.int i), .val (.int j), .val (.int acc), .val (.ref b116), .val (.ref wu)] [(.int (1 : Int32))]))
        refine Go.st (fun _ kt => XS.goto X137.here hx rfl (pc0 := 59) (pc' := 63) rfl (hb hby at_59) (by decide) (by decide) kt) ?_
        show Go p e below _ (T137.setTop (mkF m 63 #[.val (.int i), .val (.int j), .val (.int acc), .val (.ref b116), .val (.ref wu)] [(.int (1 : Int32))]))
        refine Go.retN X137 hx (t := .boolean) Bd.returns (by simp) (BodyLoose.notSynchronized Bd) (hb hby at_63) (Q := (Q_rm0 Z i j wr wo wu h0 n0)) (by decide) (by decide) ?_
        show (Q_rm0 Z i j wr wo wu h0 n0) _ T137.heap _
        rw [e137]
        exact ⟨rfl, N137⟩
set_option maxRecDepth 65536 in
set_option maxHeartbeats 40000000 in
theorem comes_1 {Post : Tables → Env → Array Value → State → Outcome → State → Prop} (hpost : ∀ tb e args s v u, (limb_1_1.after args s (.returned v) u = true ∧ limb_1_2.after args s (.returned v) u = true ∧ True) → FrameEnd s (.returned v) u (Jvm.fieldLocs frame_1_writes args s ++ Jvm.arrayLocs frame_1_arrays args s ++ Jvm.staticLocs frame_1_statics s) 16 128 → Post tb e args s (.returned v) u) :
    ArmFor flags0 classFile x code maxLocals ret World_1 tables_1 room_1 Calls_1 rest_1 Pre_1 Post := by
  intro l hfl _ _ p e ha hc hk s m args below hf hA hF happ hP
  obtain ⟨hcalls, hrest, hpre⟩ := hP
  obtain ⟨-, -, -, hnamed, -, -, -, hat⟩ := (Spec.applies_iff hf).mp happ
  obtain ⟨hg, hn⟩ := and_e (Cond.before_iff.mp (show (Jvm.Cond.and given_1 narrow_1).before args s = true from hpre))
  obtain ⟨g1, g2⟩ := and_e hg
  obtain ⟨g3, g4⟩ := and_e g2
  obtain ⟨w0, w1, rfl⟩ : ∃ w0 w1 : Value, args = #[w0, w1] := by
    have hs : args.size = 2 := by simpa [Cond.value, given_1] using g1
    obtain ⟨L⟩ := args
    match L, hs with
    | [w0, w1], _ => exact ⟨w0, w1, rfl⟩
  have hw := fun d (hd : d ∈ tables_1) => atoms_spec (ws := Jvm.Cond.code x code maxLocals ret :: tables_1) hat d (List.mem_cons_of_mem _ hd)
  have hfit : Fit s := fun {y c} hc i hi => by
    obtain ⟨ha, rfl⟩ := Array.getElem?_eq_some_iff.mp hc
    have q := List.all_eq_true.mp ((Array.all_eq_true_iff_forall_mem.mp hF) _ (Array.getElem_mem ha)) i (List.mem_range.mpr hi)
    simpa [Array.getElem?_eq_getElem hi] using q
  obtain ⟨i0, ei0⟩ := is_v g3
  obtain rfl : w0 = (.int i0) := Option.some.inj ei0
  obtain ⟨i1, ei1⟩ := is_v g4
  obtain rfl : w1 = (.int i1) := Option.some.inj ei1
  obtain ⟨hn1, hn2⟩ := and_e hn
  obtain ⟨hn2, hn3⟩ := and_e hn2
  obtain ⟨wr, ev_wr⟩ := exa_v hn1
  have E_wr := Exa.start ev_wr hn1
  have S_wr := Sta.start ev_wr (Or.inr ⟨(hw _ (List.mem_of_getElem? (i := 3) rfl)), (hw _ (List.mem_of_getElem? (i := 4) rfl))⟩)
  obtain ⟨wo, ev_wo⟩ := exa_v hn2
  have E_wo := Exa.start ev_wo hn2
  have S_wo := Sta.start ev_wo (Or.inr ⟨(hw _ (List.mem_of_getElem? (i := 3) rfl)), (hw _ (List.mem_of_getElem? (i := 7) rfl))⟩)
  obtain ⟨wu, ev_wu⟩ := exa_v hn3
  have E_wu := Exa.start ev_wu hn3
  have S_wu := Sta.start ev_wu (Or.inr ⟨(hw _ (List.mem_of_getElem? (i := 3) rfl)), (hw _ (List.mem_of_getElem? (i := 9) rfl))⟩)
  obtain ⟨n, o, h1, h2, h3, _, L, rfl, ⟨rfl, N⟩, hq⟩ := rm0 l s _ hw tables_1 i0 i1 wr wo wu s.heap s.heap.size (Nat.le_refl _) S_wr S_wo S_wu E_wr E_wo E_wu p e ha hc hk s m _ below hf ((Spec.applies_iff_loose hf).mp happ).1 ⟨rfl, State.Warmed39.refl s, rfl⟩ trivial
  refine ⟨n, _, h1, h2, h3, hpost _ _ _ _ _ _ ⟨Cond.after_iff.mpr rfl, Cond.after_iff.mpr (eq_i res_at (Term.int_eval (1)) rfl), trivial⟩ ⟨hq.1, hq.2.1, (hq.2.2.sift fun y hy => Or.inr (N y hy)).mono (by decide) (by decide)⟩⟩
theorem main_1_1 : Claimed_1_1 := comes_1 fun _ _ _ _ _ _ h hF => ⟨h.1, hF⟩
theorem main_1_2 : Claimed_1_2 := comes_1 fun _ _ _ _ _ _ h hF => ⟨h.2.1, hF⟩
end Jvm.Pilot.@@N@@
namespace Jvm.Pilot.@@N@@
open Jvm Jvm.ClassFile Sem Op Lib Jvm.Free Jvm.Stand Jvm.Pilot.@@N@@.Jvm.D
/-! MADE BY PROGRAM (witnessworld.py) out of the Statement's table words and the real class files: 14 classes; the members and pool entries that the words name. The judged class is class 1, her method 1. -/
namespace start1
open Jvm.ClassFile
def u (s : String) : CpInfo := .utf8 (stringToUtf16 s)
/-- a pool by its gaps: so many unusable entries, then the entry; so many at the end -/
def gap : Nat → List CpInfo → List CpInfo
  | 0, r => r
  | n + 1, r => .unusable :: gap n r
def poolList (es : List (Nat × CpInfo)) (last : Nat) : List CpInfo := es.foldr (fun e r => gap e.1 (e.2 :: r)) (gap last [])
def pool (es : List (Nat × CpInfo)) (last : Nat) : Array CpInfo := ⟨poolList es last⟩
def fileOf (pool : Array CpInfo) (this : Nat) (attrs : Array Attribute := #[]) (ms : Array MethodInfo := #[]) (fl : Nat := 33) (sup : Nat := 0) (ifs : Array Nat := #[]) (fds : Array FieldInfo := #[]) : ClassFile where
  minorVersion := 0
  majorVersion := 65
  constantPool := pool
  accessFlags := fl
  thisClass := this
  superClass := sup
  interfaces := ifs
  fields := fds
  methods := ms
  attributes := attrs
def plain (name : String) (sup : Option ClassId) : Class where
  name := name
  kind := .ordinary
  loader := none
  accessFlags := 33
  super := sup
  interfaces := #[]
  cf := none
  fields := #[]
  methods := #[]
  instanceTypes := #[]
  staticTypes := #[]
  resolved := #[]
  callSites := []
  init := .initialized
  statics := none
  mirror := none

def pool0 : Array CpInfo := pool [(5, u "<init>"), (0, u "()V"), (1, .class_ 10), (1, u "java/lang/Object")] 113

def k0m0 : Method := { name := "<init>", desc := "()V", sig := { parameters := [], returnType := none }, accessFlags := 1, code := none }
/-- java/lang/Object -/
def k0 : Class := { plain "java/lang/Object" none with
  accessFlags := 33
  interfaces := #[]
  cf := some (fileOf pool0 8 #[] #[{ accessFlags := 1, nameIndex := 5, descriptorIndex := 6, attributes := #[] }] 33 0 #[] #[])
  fields := #[]
  methods := #[k0m0]
  instanceTypes := #[]
  staticTypes := #[]
  resolved := Array.replicate 124 none
  statics := none }

def pool1 : Array CpInfo := pool [(2, .class_ 4), (1, u "java/lang/Object"), (0, u "<init>"), (0, u "()V"), (0, .integer 2147483647), (0, .class_ 9), (0, u "com/example/lockward/lockward/Audit$Outcome"), (0, .fieldref 8 11), (0, .nameAndType 12 13), (0, u "REJECTED"), (0, u "Lcom/example/lockward/lockward/Audit$Outcome;"), (0, .fieldref 8 15), (0, .nameAndType 16 13), (0, u "OK"), (0, .fieldref 8 18), (0, .nameAndType 19 13), (0, u "UNCERTAIN"), (0, .methodref 21 22), (0, .class_ 23), (0, .nameAndType 24 25), (0, u "java/lang/Math"), (0, u "min"), (0, u "(II)I"), (0, .methodref 8 27), (0, .nameAndType 28 29), (0, u "ofResolution"), (0, u "(I)Lcom/example/lockward/lockward/Audit$Outcome;"), (0, .class_ 31), (0, u "com/example/lockward/lockward/OutcomeOfResolutionPinLaw"), (2, u "law"), (0, u "(II)Z")] 9

def k1m0 : Method := { name := "<init>", desc := "()V", sig := { parameters := [], returnType := none }, accessFlags := 1, code := none }
def k1c1 : Code := { maxStack := 4, maxLocals := 5, code := code, exceptionTable := #[], attributes := #[] }
def k1m1 : Method := { name := "law", desc := "(II)Z", sig := { parameters := [.int, .int], returnType := some .boolean }, accessFlags := 9, code := some k1c1 }
/-- com/example/lockward/lockward/OutcomeOfResolutionPinLaw -/
def k1 : Class := { plain "com/example/lockward/lockward/OutcomeOfResolutionPinLaw" (some 0) with
  accessFlags := 49
  interfaces := #[]
  cf := some (fileOf pool1 30 #[] #[{ accessFlags := 1, nameIndex := 5, descriptorIndex := 6, attributes := #[] }, { accessFlags := 9, nameIndex := 34, descriptorIndex := 35, attributes := #[] }] 49 2 #[] #[])
  fields := #[]
  methods := #[k1m0, k1m1]
  instanceTypes := #[]
  staticTypes := #[]
  resolved := Array.replicate 45 none
  statics := none }

def pool2 : Array CpInfo := pool [(1, .class_ 2), (0, u "java/lang/constant/Constable"), (0, .class_ 4), (0, u "java/lang/Object")] 6

/-- java/lang/constant/Constable -/
def k2 : Class := { plain "java/lang/constant/Constable" (some 0) with
  accessFlags := 1537
  interfaces := #[]
  cf := some (fileOf pool2 1 #[] #[] 1537 3 #[] #[])
  fields := #[]
  methods := #[]
  instanceTypes := #[]
  staticTypes := #[]
  resolved := Array.replicate 11 none
  statics := none }

def pool3 : Array CpInfo := pool [(1, .class_ 2), (0, u "java/lang/Comparable"), (0, .class_ 4), (0, u "java/lang/Object")] 7

/-- java/lang/Comparable -/
def k3 : Class := { plain "java/lang/Comparable" (some 0) with
  accessFlags := 1537
  interfaces := #[]
  cf := some (fileOf pool3 1 #[] #[] 1537 3 #[] #[])
  fields := #[]
  methods := #[]
  instanceTypes := #[]
  staticTypes := #[]
  resolved := Array.replicate 12 none
  statics := none }

def pool4 : Array CpInfo := pool [(1, .class_ 2), (0, u "java/io/Serializable"), (0, .class_ 4), (0, u "java/lang/Object")] 2

/-- java/io/Serializable -/
def k4 : Class := { plain "java/io/Serializable" (some 0) with
  accessFlags := 1537
  interfaces := #[]
  cf := some (fileOf pool4 1 #[] #[] 1537 3 #[] #[])
  fields := #[]
  methods := #[]
  instanceTypes := #[]
  staticTypes := #[]
  resolved := Array.replicate 7 none
  statics := none }

def pool5 : Array CpInfo := pool [(2, .class_ 4), (1, u "java/lang/Enum"), (0, u "name"), (0, u "Ljava/lang/String;"), (2, u "ordinal"), (0, u "I"), (1, .class_ 14), (1, u "java/lang/Object"), (4, u "hash"), (86, .class_ 108), (1, u "java/lang/Enum$EnumDesc"), (2, .class_ 112), (0, u "java/lang/constant/Constable"), (0, .class_ 114), (0, u "java/lang/Comparable"), (0, .class_ 116), (0, u "java/io/Serializable")] 87

/-- java/lang/Enum -/
def k5 : Class := { plain "java/lang/Enum" (some 0) with
  accessFlags := 1057
  interfaces := #[2, 3, 4]
  cf := some (fileOf pool5 2 #[.nestMembers #[106]] #[] 1057 12 #[111, 113, 115] #[{ accessFlags := 18, nameIndex := 5, descriptorIndex := 6, attributes := #[] }, { accessFlags := 18, nameIndex := 9, descriptorIndex := 10, attributes := #[] }, { accessFlags := 2, nameIndex := 19, descriptorIndex := 10, attributes := #[] }])
  fields := #[{ name := "name", type := (.object "java/lang/String"), accessFlags := 18, slot := 0, constantValue := 0 }, { name := "ordinal", type := .int, accessFlags := 18, slot := 1, constantValue := 0 }, { name := "hash", type := .int, accessFlags := 2, slot := 2, constantValue := 0 }]
  methods := #[]
  instanceTypes := #[(.object "java/lang/String"), .int, .int]
  staticTypes := #[]
  resolved := Array.replicate 204 none
  statics := none }

def pool6 : Array CpInfo := pool [(1, .class_ 2), (0, u "com/example/lockward/lockward/Audit$Outcome"), (0, .fieldref 1 4), (0, .nameAndType 5 6), (0, u "OK"), (0, u "Lcom/example/lockward/lockward/Audit$Outcome;"), (2, u "CONFIRMED"), (2, u "FAILED"), (0, .fieldref 1 14), (0, .nameAndType 15 6), (0, u "UNCERTAIN"), (2, u "ACCEPTED"), (0, .fieldref 1 20), (0, .nameAndType 21 6), (0, u "REJECTED"), (2, u "UNREACHABLE"), (2, u "REFUSED"), (2, u "HELD"), (2, u "$VALUES"), (0, u "[Lcom/example/lockward/lockward/Audit$Outcome;"), (6, .class_ 43), (1, u "java/lang/Enum"), (63, u "ofResolution"), (0, u "(I)Lcom/example/lockward/lockward/Audit$Outcome;"), (5, .class_ 115), (0, u "com/example/lockward/lockward/Audit")] 16

def k6c0 : Code := { maxStack := 2, maxLocals := 2, code := prog_12_method_8_code, exceptionTable := #[], attributes := #[] }
def k6m0 : Method := { name := "ofResolution", desc := "(I)Lcom/example/lockward/lockward/Audit$Outcome;", sig := { parameters := [.int], returnType := some (.object "com/example/lockward/lockward/Audit$Outcome") }, accessFlags := 8, code := some k6c0 }
/-- com/example/lockward/lockward/Audit$Outcome -/
def k6 : Class := { plain "com/example/lockward/lockward/Audit$Outcome" (some 5) with
  accessFlags := 16432
  interfaces := #[]
  cf := some (fileOf pool6 1 #[.nestHost 114] #[{ accessFlags := 8, nameIndex := 107, descriptorIndex := 108, attributes := #[] }] 16432 41 #[] #[{ accessFlags := 16409, nameIndex := 5, descriptorIndex := 6, attributes := #[] }, { accessFlags := 16409, nameIndex := 9, descriptorIndex := 6, attributes := #[] }, { accessFlags := 16409, nameIndex := 12, descriptorIndex := 6, attributes := #[] }, { accessFlags := 16409, nameIndex := 15, descriptorIndex := 6, attributes := #[] }, { accessFlags := 16409, nameIndex := 18, descriptorIndex := 6, attributes := #[] }, { accessFlags := 16409, nameIndex := 21, descriptorIndex := 6, attributes := #[] }, { accessFlags := 16409, nameIndex := 24, descriptorIndex := 6, attributes := #[] }, { accessFlags := 16409, nameIndex := 27, descriptorIndex := 6, attributes := #[] }, { accessFlags := 16409, nameIndex := 30, descriptorIndex := 6, attributes := #[] }, { accessFlags := 4122, nameIndex := 33, descriptorIndex := 34, attributes := #[] }])
  fields := #[{ name := "OK", type := (.object "com/example/lockward/lockward/Audit$Outcome"), accessFlags := 16409, slot := 0, constantValue := 0 }, { name := "CONFIRMED", type := (.object "com/example/lockward/lockward/Audit$Outcome"), accessFlags := 16409, slot := 1, constantValue := 0 }, { name := "FAILED", type := (.object "com/example/lockward/lockward/Audit$Outcome"), accessFlags := 16409, slot := 2, constantValue := 0 }, { name := "UNCERTAIN", type := (.object "com/example/lockward/lockward/Audit$Outcome"), accessFlags := 16409, slot := 3, constantValue := 0 }, { name := "ACCEPTED", type := (.object "com/example/lockward/lockward/Audit$Outcome"), accessFlags := 16409, slot := 4, constantValue := 0 }, { name := "REJECTED", type := (.object "com/example/lockward/lockward/Audit$Outcome"), accessFlags := 16409, slot := 5, constantValue := 0 }, { name := "UNREACHABLE", type := (.object "com/example/lockward/lockward/Audit$Outcome"), accessFlags := 16409, slot := 6, constantValue := 0 }, { name := "REFUSED", type := (.object "com/example/lockward/lockward/Audit$Outcome"), accessFlags := 16409, slot := 7, constantValue := 0 }, { name := "HELD", type := (.object "com/example/lockward/lockward/Audit$Outcome"), accessFlags := 16409, slot := 8, constantValue := 0 }, { name := "$VALUES", type := (.array (.object "com/example/lockward/lockward/Audit$Outcome")), accessFlags := 4122, slot := 9, constantValue := 0 }]
  methods := #[k6m0]
  instanceTypes := #[(.object "java/lang/String"), .int, .int]
  staticTypes := #[(.object "com/example/lockward/lockward/Audit$Outcome"), (.object "com/example/lockward/lockward/Audit$Outcome"), (.object "com/example/lockward/lockward/Audit$Outcome"), (.object "com/example/lockward/lockward/Audit$Outcome"), (.object "com/example/lockward/lockward/Audit$Outcome"), (.object "com/example/lockward/lockward/Audit$Outcome"), (.object "com/example/lockward/lockward/Audit$Outcome"), (.object "com/example/lockward/lockward/Audit$Outcome"), (.object "com/example/lockward/lockward/Audit$Outcome"), (.array (.object "com/example/lockward/lockward/Audit$Outcome"))]
  resolved := Array.replicate 132 none
  statics := some 0 }

def pool7 : Array CpInfo := pool [(1, .class_ 2), (0, u "java/lang/Math"), (1, .class_ 6), (1, u "java/lang/Object"), (0, u "<init>"), (0, u "()V"), (89, .class_ 100), (1, u "java/lang/Math$RandomNumberGeneratorHolder"), (71, u "negativeZeroFloatBits"), (0, u "J"), (2, u "negativeZeroDoubleBits"), (24, u "min"), (43, u "$assertionsDisabled"), (0, u "Z"), (88, u "(II)I"), (2, u "twoToTheDoubleScaleDown"), (0, u "D"), (4, u "twoToTheDoubleScaleUp"), (9, u "E"), (3, u "PI"), (2, u "TAU"), (2, u "DEGREES_TO_RADIANS"), (0, u "RADIANS_TO_DEGREES")] 94

def k7m0 : Method := { name := "<init>", desc := "()V", sig := { parameters := [], returnType := none }, accessFlags := 2, code := none }
def k7c1 : Code := { maxStack := 2, maxLocals := 2, code := jdk_29_method_69_code, exceptionTable := #[], attributes := #[] }
def k7m1 : Method := { name := "min", desc := "(II)I", sig := { parameters := [.int, .int], returnType := some .int }, accessFlags := 9, code := some k7c1 }
/-- java/lang/Math -/
def k7 : Class := { plain "java/lang/Math" (some 0) with
  accessFlags := 49
  interfaces := #[]
  cf := some (fileOf pool7 1 #[.nestMembers #[98]] #[{ accessFlags := 2, nameIndex := 7, descriptorIndex := 8, attributes := #[] }, { accessFlags := 9, nameIndex := 201, descriptorIndex := 335, attributes := #[] }] 49 4 #[] #[{ accessFlags := 25, nameIndex := 354, descriptorIndex := 339, attributes := #[] }, { accessFlags := 25, nameIndex := 358, descriptorIndex := 339, attributes := #[] }, { accessFlags := 25, nameIndex := 361, descriptorIndex := 339, attributes := #[] }, { accessFlags := 26, nameIndex := 364, descriptorIndex := 339, attributes := #[] }, { accessFlags := 26, nameIndex := 365, descriptorIndex := 339, attributes := #[] }, { accessFlags := 26, nameIndex := 172, descriptorIndex := 173, attributes := #[] }, { accessFlags := 26, nameIndex := 176, descriptorIndex := 173, attributes := #[] }, { accessFlags := 8, nameIndex := 344, descriptorIndex := 339, attributes := #[] }, { accessFlags := 8, nameIndex := 338, descriptorIndex := 339, attributes := #[] }, { accessFlags := 4120, nameIndex := 245, descriptorIndex := 246, attributes := #[] }])
  fields := #[{ name := "E", type := .double, accessFlags := 25, slot := 0, constantValue := 0 }, { name := "PI", type := .double, accessFlags := 25, slot := 1, constantValue := 0 }, { name := "TAU", type := .double, accessFlags := 25, slot := 2, constantValue := 0 }, { name := "DEGREES_TO_RADIANS", type := .double, accessFlags := 26, slot := 3, constantValue := 0 }, { name := "RADIANS_TO_DEGREES", type := .double, accessFlags := 26, slot := 4, constantValue := 0 }, { name := "negativeZeroFloatBits", type := .long, accessFlags := 26, slot := 5, constantValue := 0 }, { name := "negativeZeroDoubleBits", type := .long, accessFlags := 26, slot := 6, constantValue := 0 }, { name := "twoToTheDoubleScaleUp", type := .double, accessFlags := 8, slot := 7, constantValue := 0 }, { name := "twoToTheDoubleScaleDown", type := .double, accessFlags := 8, slot := 8, constantValue := 0 }, { name := "$assertionsDisabled", type := .boolean, accessFlags := 4120, slot := 9, constantValue := 0 }]
  methods := #[k7m0, k7m1]
  instanceTypes := #[]
  staticTypes := #[.double, .double, .double, .double, .double, .long, .long, .double, .double, .boolean]
  resolved := Array.replicate 460 none
  statics := none }

def pool8 : Array CpInfo := pool [(1, u "java/lang/Cloneable"), (0, .class_ 1), (0, u "java/lang/Object"), (0, .class_ 3)] 3

/-- java/lang/Cloneable -/
def k8 : Class := { plain "java/lang/Cloneable" (some 0) with
  accessFlags := 1537
  interfaces := #[]
  cf := some (fileOf pool8 2 #[] #[] 1537 4 #[] #[])
  fields := #[]
  methods := #[]
  instanceTypes := #[]
  staticTypes := #[]
  resolved := Array.replicate 8 none
  statics := none }

/-- the primitive byte -/
def k9 : Class := { plain "byte" none with kind := .primitive 'B', accessFlags := 0x411 }
/-- [B -/
def k10 : Class := { plain "[B" (some 0) with kind := .array 9 .byte, interfaces := #[8, 4], accessFlags := 1041 }

/-- the primitive int -/
def k11 : Class := { plain "int" none with kind := .primitive 'I', accessFlags := 0x411 }
/-- [I -/
def k12 : Class := { plain "[I" (some 0) with kind := .array 11 .int, interfaces := #[8, 4], accessFlags := 1041 }

/-- [Lcom/example/lockward/lockward/Audit$Outcome; -/
def k13 : Class := { plain "[Lcom/example/lockward/lockward/Audit$Outcome;" (some 0) with kind := .array 6 (.object "com/example/lockward/lockward/Audit$Outcome"), interfaces := #[8, 4], accessFlags := 1041 }

def heap : Heap := #[{ cls := 6, slots := #[.ref 2, .null, .null, .ref 3, .null, .ref 1, .null, .null, .null, .null], vm := .statics 6 },
  { cls := 6, slots := #[.null, .int 0, .int 0], vm := .none },
  { cls := 6, slots := #[.null, .int 1, .int 0], vm := .none },
  { cls := 6, slots := #[.null, .int 2, .int 0], vm := .none }]
def classes : Array Class := #[k0, k1, k2, k3, k4, k5, k6, k7, k8, k9, k10, k11, k12, k13]
def interned : List (Array UInt16 × Addr) := []
def slotsUsed : Nat := 19
def theMethod : MethodId := ⟨1, 1⟩
def args0 : Array Value := #[.int 5, .int 6]
def aboutOver (below : List Frame) : State where
  vm := { classes := classes, interned := interned.toArray }
  heap := heap
  slotsUsed := slotsUsed
  threads := #[{ frames := .invoking theMethod args0 :: below }]
def below0 : List Frame := [.native { method := ⟨0, 0⟩, args := #[] }]
def about1 : State := aboutOver below0
def p0 : Program := .bare "" "" ""
def e0 : Env := launch0.env 0 0 0
theorem w_frames : about1.frames = Frame.invoking theMethod args0 :: below0 := rfl
set_option maxRecDepth 65536 in
theorem w_args : argsFit about1.vm theMethod args0 = true := by decide +kernel
set_option maxRecDepth 65536 in
theorem w_heap : heapFits about1 = true := by decide +kernel
set_option maxRecDepth 65536 in
theorem w_runnable : about1.curStatus? = some .runnable := by decide +kernel
set_option maxRecDepth 65536 in
theorem w_alone : about1.alone = true := by decide +kernel
set_option maxRecDepth 65536 in
theorem w_named : about1.methodNamed? x = some theMethod := by decide +kernel
set_option maxRecDepth 65536 in
theorem w_hears : about1.hears theMethod below0 = true := by decide +kernel
set_option maxRecDepth 65536 in
theorem w_ripe : about1.ripe theMethod args0 below0 = true := by decide +kernel
theorem w_running : about1.status = .running := rfl
set_option maxRecDepth 65536 in
theorem w_room : about1.hasRoom e0.platform room_1 = true :=
  launch0.hasRoom_least _ room_1 (by decide +kernel) (by decide +kernel) (by decide +kernel) (by decide +kernel) (by decide +kernel) (by decide +kernel)
theorem allAtoms_all (ts : List Jvm.Cond) (a : Array Jvm.Value) (st : Jvm.State) : (allAtoms ts).before a st = ts.all (fun c => c.before a st) := by
  induction ts with
  | nil => rfl
  | cons c t ih =>
    show (Jvm.Cond.and c (allAtoms t)).before a st = _
    rw [Jvm.Cond.before_and, ih, List.all_cons]
def words1 : List Jvm.Cond := Jvm.Cond.code x code maxLocals ret :: tables_1
/-- a 'code' word, met by the world's own term for the bytes: nothing is compared byte by byte -/
theorem code_word {y : MethodName} {bytes : ByteArray} {mx : Nat} {rt : Option FieldType} {a : Array Value} {s : State} {m : MethodId} {meth : Method} {c : Code} (h1 : s.methodNamed? y = some m) (h2 : s.vm.method? m = some meth) (h3 : meth.code = some c) (h4 : c.code = bytes)
    (h5 : (c.maxLocals == mx && c.exceptionTable.isEmpty && decide (c.maxStack ≤ mostOperands) && decide (meth.sig.returnType = rt) && !meth.locks && decide (parseMethodDescriptor y.desc = some meth.sig)) = true) : (Jvm.Cond.code y bytes mx rt).before a s = true := by
  simp only [Bool.and_eq_true, beq_iff_eq, Bool.not_eq_true', decide_eq_true_eq] at h5
  obtain ⟨⟨⟨⟨⟨g1, g2⟩, g3⟩, g4⟩, g5⟩, g6⟩ := h5
  simp [Cond.before, Cond.holds, Cond.value, h1, h2, h3, h4, g1, g2, g3, g4, g5, g6]
def isCode : Jvm.Cond → Bool
  | .code _ _ _ _ => true
  | _ => false
theorem all_split {L : List Jvm.Cond} {P : Jvm.Cond → Bool} (h1 : L.all (fun c => isCode c || P c) = true) (h2 : ∀ c ∈ L.filter isCode, P c = true) : L.all P = true := by
  refine List.all_eq_true.mpr fun c hc => ?_
  have h := List.all_eq_true.mp h1 c hc
  rcases Bool.eq_false_or_eq_true (isCode c) with hi | hi
  · exact h2 c (List.mem_filter.mpr ⟨hc, hi⟩)
  · simpa [hi] using h
set_option maxRecDepth 65536 in
theorem w_c0 : (Jvm.Cond.code x code maxLocals ret).before args0 about1 = true := code_word (m := ⟨1, 1⟩) (meth := k1m1) (c := k1c1) (by decide +kernel) rfl rfl rfl (by decide +kernel)
set_option maxRecDepth 65536 in
theorem w_c1 : (Jvm.Cond.code ({ cls := "java/lang/Math", name := "min", desc := "(II)I" } : Jvm.MethodName) jdk_29_method_69_code (2 : Nat) (Option.some Jvm.ClassFile.FieldType.int)).before args0 about1 = true := code_word (m := ⟨7, 1⟩) (meth := k7m1) (c := k7c1) (by decide +kernel) rfl rfl rfl (by decide +kernel)
set_option maxRecDepth 65536 in
theorem w_c2 : (Jvm.Cond.code ({ cls := "com/example/lockward/lockward/Audit$Outcome", name := "ofResolution", desc := "(I)Lcom/example/lockward/lockward/Audit$Outcome;" } : Jvm.MethodName) prog_12_method_8_code (2 : Nat) (Option.some (Jvm.ClassFile.FieldType.object "com/example/lockward/lockward/Audit$Outcome"))).before args0 about1 = true := code_word (m := ⟨6, 0⟩) (meth := k6m0) (c := k6c0) (by decide +kernel) rfl rfl rfl (by decide +kernel)
def codes1 : List Jvm.Cond := [Jvm.Cond.code x code maxLocals ret, Jvm.Cond.code ({ cls := "java/lang/Math", name := "min", desc := "(II)I" } : Jvm.MethodName) jdk_29_method_69_code (2 : Nat) (Option.some Jvm.ClassFile.FieldType.int), Jvm.Cond.code ({ cls := "com/example/lockward/lockward/Audit$Outcome", name := "ofResolution", desc := "(I)Lcom/example/lockward/lockward/Audit$Outcome;" } : Jvm.MethodName) prog_12_method_8_code (2 : Nat) (Option.some (Jvm.ClassFile.FieldType.object "com/example/lockward/lockward/Audit$Outcome"))]
set_option maxRecDepth 65536 in
theorem codes_eq : words1.filter isCode = codes1 := rfl
theorem w_codes : ∀ c ∈ words1.filter isCode, c.before args0 about1 = true := by
  rw [codes_eq]
  intro c hc
  simp only [codes1, List.mem_cons, List.not_mem_nil, or_false] at hc
  rcases hc with rfl | rfl | rfl
  · exact w_c0
  · exact w_c1
  · exact w_c2
set_option maxRecDepth 65536 in
theorem w_t1 : words1.all (fun c => isCode c || c.before args0 about1) = true := by decide +kernel
theorem w_tables : (allAtoms (Jvm.Cond.code x code maxLocals ret :: tables_1)).before args0 about1 = true := by
  rw [allAtoms_all]
  show words1.all (fun c => c.before args0 about1) = true
  refine all_split ?_ w_codes
  rw [w_t1]
set_option maxRecDepth 65536 in
theorem w_case : (Jvm.Cond.and given_1 narrow_1).before args0 about1 = true := by decide +kernel
theorem w_applies : (headSpec (Jvm.Cond.code x code maxLocals ret :: tables_1) room_1).applies x e0.platform about1 = true :=
  (Spec.applies_iff w_frames).mpr ⟨w_running, w_runnable, w_alone, w_named, w_hears, w_ripe, w_room, w_tables⟩
theorem atStart : AtStart classFile x code maxLocals ret World_1 tables_1 room_1 Calls_1 rest_1 Pre_1 launch0 p0 e0 about1 theMethod args0 below0 :=
  ⟨lists_1, trivial, launch0.admits_env _ _ _, launch0.least_env, fairChoices_fair.cas, fairChoices_fair.clock, w_frames, w_args, w_heap, w_applies, trivial, trivial, w_case⟩
end start1
theorem witness_1 : WitnessClaimed_1 := ⟨start1.p0, start1.e0, start1.about1, start1.theMethod, start1.args0, start1.below0, start1.atStart⟩
end Jvm.Pilot.@@N@@
