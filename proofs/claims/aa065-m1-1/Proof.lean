import JvmDerived
import JvmDerived.Pilot.@@N@@Statement
import JvmDerived.Pilot.@@N@@Code
set_option linter.unusedVariables false
set_option linter.unusedSimpArgs false
namespace Jvm.Pilot.@@N@@
open Jvm Jvm.ClassFile Sem Op Lib Jvm.Free Jvm.Stand Jvm.LawKit Jvm.RoadKit Bundle Jvm.Pilot.@@N@@.Jvm.D
section Own
variable {p : Program} {l : Launch} {e : Env} {R : Room} {s : State} {m : MethodId} {args : Array Value} {below : List Frame} {meth : Method} {c : Code} {T : State} {locs : List Loc} {cells slots : Nat} {G : State → Outcome → Prop}
def Go (p : Program) (e : Env) (below : List Frame) (G : State → Outcome → Prop) (st : State) : Prop := ∃ s₂ o, Steps p.tables e below st s₂ ∧ s₂.status = .running ∧ Ended s₂ below o ∧ G s₂ o
theorem Go.st {A B : State} (k : ∀ t, Steps p.tables e below B t → Steps p.tables e below A t) (h : Go p e below G B) : Go p e below G A := by
  obtain ⟨s₂, o, h1, h2⟩ := h
  exact ⟨s₂, o, k _ h1, h2⟩
theorem Go.tr {A B : State} (k : Steps p.tables e below A B) (h : Go p e below G B) : Go p e below G A := by
  obtain ⟨s₂, o, h1, h2⟩ := h
  exact ⟨s₂, o, k.trans h1, h2⟩
theorem Go.retW (X : Stand p l e R s m args below meth c T locs cells slots) (hx : p.tables.exec = Jvm.exec) {t : FieldType} (hret : meth.sig.returnType = some t) {w : Value} {i : Instr} (hn : narrow t w = w)
    (hi : (i = .ireturn ∧ (t = .int ∨ t = .boolean ∨ t = .byte ∨ t = .char ∨ t = .short) ∧ ∃ z, w = .int z) ∨ (i = .lreturn ∧ t = .long ∧ ∃ z, w = .long z) ∨ (i = .dreturn ∧ t = .double ∧ ∃ z, w = .double z) ∨ (i = .freturn ∧ t = .float ∧ ∃ z, w = .float z) ∨ (i = .areturn ∧ t.isReference = true ∧ w.isRef = true))
    (hlk : meth.locks = false) {pc : Nat} {Ls : Array Slot} {rest : List Value} (hd : decode c.code pc = .ok (i, 1)) {C S : Nat} {Q : Option Value → Heap → List Loc → Prop} (hC : cells ≤ C) (hS : slots ≤ S) (q : Q (some w) T.heap locs) :
    Go p e below (fun s₂ o => ∃ v L, o = .returned v ∧ Q v s₂.heap L ∧ FrameEnd s o s₂ L C S) (T.setTop (mkF m pc Ls (w :: rest))) := by
  obtain ⟨fs, hr, hrun, hended, hW, hsame⟩ := X.leave (v := some w) (fun h => by rw [hret] at h; cases h) hlk
  exact ⟨_, _, retOut X hx hret hn hi hd hr, hrun, hended, _, _, rfl, q, ⟨_, rfl⟩, hW, hsame.mono hC hS⟩
theorem Go.retN (X : Stand p l e R s m args below meth c T locs cells slots) (hx : p.tables.exec = Jvm.exec) {t : FieldType} (hret : meth.sig.returnType = some t) (ht : t = .boolean ∨ t = .byte ∨ t = .char ∨ t = .short) (hlk : meth.locks = false) {pc : Nat} {Ls : Array Slot} {z : Int32} {rest : List Value} (hd : decode c.code pc = .ok (.ireturn, 1))
    {C S : Nat} {Q : Option Value → Heap → List Loc → Prop} (hC : cells ≤ C) (hS : slots ≤ S) (q : Q (some (.int (nar t z))) T.heap locs) :
    Go p e below (fun s₂ o => ∃ v L, o = .returned v ∧ Q v s₂.heap L ∧ FrameEnd s o s₂ L C S) (T.setTop (mkF m pc Ls (.int z :: rest))) := by
  obtain ⟨fs, hr, hrun, hended, hW, hsame⟩ := X.leave (v := some (.int (nar t z))) (fun h => by rw [hret] at h; cases h) hlk
  exact ⟨_, _, Jvm.RoadKit.retN X hx hret ht hd hr, hrun, hended, _, _, rfl, q, ⟨_, rfl⟩, hW, hsame.mono hC hS⟩
theorem Go.retI (X : Stand p l e R s m args below meth c T locs cells slots) (hx : p.tables.exec = Jvm.exec) (hret : meth.sig.returnType = some .int) (hlk : meth.locks = false) {pc : Nat} {Ls : Array Slot} {z : Int32} {rest : List Value} (hd : decode c.code pc = .ok (.ireturn, 1))
    {C S : Nat} {Q : Option Value → Heap → List Loc → Prop} (hC : cells ≤ C) (hS : slots ≤ S) (q : Q (some (.int z)) T.heap locs) :
    Go p e below (fun s₂ o => ∃ v L, o = .returned v ∧ Q v s₂.heap L ∧ FrameEnd s o s₂ L C S) (T.setTop (mkF m pc Ls (.int z :: rest))) :=
  Go.retW X hx hret rfl (Or.inl ⟨rfl, Or.inl rfl, z, rfl⟩) hlk hd hC hS q
theorem Go.retL (X : Stand p l e R s m args below meth c T locs cells slots) (hx : p.tables.exec = Jvm.exec) (hret : meth.sig.returnType = some .long) (hlk : meth.locks = false) {pc : Nat} {Ls : Array Slot} {z : Int64} {rest : List Value} (hd : decode c.code pc = .ok (.lreturn, 1))
    {C S : Nat} {Q : Option Value → Heap → List Loc → Prop} (hC : cells ≤ C) (hS : slots ≤ S) (q : Q (some (.long z)) T.heap locs) :
    Go p e below (fun s₂ o => ∃ v L, o = .returned v ∧ Q v s₂.heap L ∧ FrameEnd s o s₂ L C S) (T.setTop (mkF m pc Ls (.long z :: rest))) :=
  Go.retW X hx hret rfl (Or.inr (Or.inl ⟨rfl, rfl, z, rfl⟩)) hlk hd hC hS q
theorem Go.retA (X : Stand p l e R s m args below meth c T locs cells slots) (hx : p.tables.exec = Jvm.exec) {t : FieldType} (hret : meth.sig.returnType = some t) {w : Value} (ht : t.isReference = true) (hw : w.isRef = true) (hlk : meth.locks = false) {pc : Nat} {Ls : Array Slot} {rest : List Value} (hd : decode c.code pc = .ok (.areturn, 1))
    {C S : Nat} {Q : Option Value → Heap → List Loc → Prop} (hC : cells ≤ C) (hS : slots ≤ S) (q : Q (some w) T.heap locs) :
    Go p e below (fun s₂ o => ∃ v L, o = .returned v ∧ Q v s₂.heap L ∧ FrameEnd s o s₂ L C S) (T.setTop (mkF m pc Ls (w :: rest))) :=
  Go.retW X hx hret (by rcases ref_cases hw with rfl | ⟨a, rfl⟩ <;> cases t <;> first | rfl | cases ht) (Or.inr (Or.inr (Or.inr (Or.inr ⟨rfl, ht, hw⟩)))) hlk hd hC hS q
theorem Go.retV (X : Stand p l e R s m args below meth c T locs cells slots) (hx : p.tables.exec = Jvm.exec) (hret : meth.sig.returnType = none) (hlk : meth.locks = false) {pc : Nat} {Ls : Array Slot} (hd : decode c.code pc = .ok (.return_, 1))
    {C S : Nat} {Q : Option Value → Heap → List Loc → Prop} (hC : cells ≤ C) (hS : slots ≤ S) (q : Q none T.heap locs) :
    Go p e below (fun s₂ o => ∃ v L, o = .returned v ∧ Q v s₂.heap L ∧ FrameEnd s o s₂ L C S) (T.setTop (mkF m pc Ls [])) := by
  obtain ⟨fs, hr, hrun, hended, hW, hsame⟩ := X.leave (v := none) (fun _ => rfl) hlk
  exact ⟨_, _, X.returnOut hx hret hd hr, hrun, hended, _, _, rfl, q, ⟨_, rfl⟩, hW, hsame.mono hC hS⟩
end Own
theorem own_self {Z s : State} {a0 args : Array Value} {y : MethodName} {n : Nat} (hZ : Z.Warmed39 s.vm) (wi : (Cond.instantiable y.cls n).before a0 Z = true) (wp : (Cond.privateMethod y).before a0 Z = true) (wm : (Cond.instanceMethod y).before a0 Z = true) (hy : y.cls ≠ "java/lang/invoke/MethodHandle" ∧ y.cls ≠ "java/lang/invoke/VarHandle") : (Cond.selects y.cls y y).before args s = true := by
  have wi' : (Cond.instantiable y.cls n).before args s = true := mv hZ wi
  obtain ⟨c, k, i1, i2, -, i4, -⟩ := Cond.instantiable_spec wi'
  simp only [Bool.or_eq_false_iff] at i4
  exact selects_self_of_private i1 i2 i4.1 (Cond.privateMethod_at (mvP hZ wp (args := #[]))) (mv hZ wm) hy
section OwnAV
variable {Z : State} {h h' : Heap} {a b : Addr} {ty : FieldType} {n : Int32} {ws : List Addr} {sl : Nat} {v d : Value} {k : ClassId} {vs : List Value}
def AV (Z : State) (h : Heap) (a : Addr) (ty : FieldType) (n : Int32) : Prop := ∃ c : Cell, Arr Z h a c ty ∧ c.slots.size = n.toNatClampNeg ∧ ¬ n < 0 ∧ ∀ (i : Nat) (v : Value), c.slots[i]? = some v → fits ty v = true
theorem AV.lt (F : AV Z h a ty n) : a < h.size := by obtain ⟨c, A, -⟩ := F; exact A.lt
theorem AV.ext (F : AV Z h a ty n) (E : Ext h h') : AV Z h' a ty n := by obtain ⟨c, A, r⟩ := F; exact ⟨c, A.ext E, r⟩
theorem AV.other (F : AV Z h a ty n) (W : Wr h h' b sl v) (q : a ≠ b) : AV Z h' a ty n := by obtain ⟨c, A, r⟩ := F; exact ⟨c, A.other W q, r⟩
theorem AV.keep (F : AV Z h a ty n) (K : Keep h h' ws) (q : a ∉ ws) : AV Z h' a ty n := by obtain ⟨c, A, r⟩ := F; exact ⟨c, ⟨K.2.1 a c A.1 q, A.2⟩, r⟩
theorem AV.of (F : Arv Z h a k ty n vs d) : AV Z h a ty n := by
  obtain ⟨c, A, -, S, q, H, G⟩ := F
  refine ⟨c, A, S, q, fun i w hw => ?_⟩
  have hi := (Array.getElem?_eq_some_iff.mp hw).1
  have := H i hi
  rw [hw] at this
  rw [Option.some.inj this]; exact G i hi
theorem AV.new (A : Arr Z h a (newA k ty n) ty) (q : ¬ n < 0) (fd : fits ty (defaultValue ty) = true) : AV Z h a ty n := by
  refine ⟨_, A, sz_new _ _ _, q, fun i w hw => ?_⟩
  simp only [newA, Array.getElem?_replicate] at hw
  split at hw
  · cases hw; exact fd
  · cases hw
theorem AV.set {c : Cell} (A : Arr Z h a c ty) (S : c.slots.size = n.toNatClampNeg) (q : ¬ n < 0) (G : ∀ (i : Nat) (v : Value), c.slots[i]? = some v → fits ty v = true) (hv : fits ty v = true) (W : Wr h h' a sl v) : AV Z h' a ty n := by
  refine ⟨_, A.same W, by rw [sz_set]; exact S, q, fun i w hw => ?_⟩
  by_cases e : sl = i
  · subst e
    have hi := (Array.getElem?_eq_some_iff.mp hw).1
    simp only [Cell.setSlot, Array.size_setIfInBounds] at hi
    simp [Cell.setSlot, hi] at hw
    subst hw; exact hv
  · simp only [Cell.setSlot] at hw
    rw [Array.getElem?_setIfInBounds_ne e] at hw
    exact G i w hw
theorem AV.arv (F : AV Z h a ty n) (d : Value) : ∃ k vs, Arv Z h a k ty n vs d ∧ vs.length = n.toNatClampNeg := by
  obtain ⟨c, A, S, q, G⟩ := F
  refine ⟨c.cls, c.slots.toList, ⟨c, A, rfl, S, q, fun i hi => ?_, fun i hi => ?_⟩, by simpa using S⟩
  · simp [List.getD_eq_getElem?_getD, hi]
  · refine G i _ ?_
    simp [List.getD_eq_getElem?_getD, hi]
end OwnAV
theorem d5_0 : decode jdk_71_method_1_code 0 = .ok (.aload_n 0, 1) := by decide +kernel
theorem d5_1 : decode jdk_71_method_1_code 1 = .ok (.invokespecial 1, 3) := by decide +kernel
theorem d5_4 : decode jdk_71_method_1_code 4 = .ok (.return_, 1) := by decide +kernel
theorem own_pn0 : plainName "java/util/AbstractMap" = true := by first | (simp [plainName, overriddenIn]; done) | decide +kernel
def Q_rm5 (Z : State) (a : Addr) (h0 : Heap) (n0 : Nat) (v : Option Value) (h : Heap) (L : List Loc) : Prop := v = none ∧ Fr n0 L ∧ h = h0
theorem ef_rm5 (m : MethodId) (a : Addr) : entryFrame m #[(.ref a)] 1 = mkF m 0 #[.val (.ref a)] [] := by first | (simp [entryFrame, mkF, argsToLocals, Value.category]; done) | rfl
set_option maxRecDepth 65536 in
set_option maxHeartbeats 40000000 in
theorem rm5 (l : Launch) (Z : State) (a0 : Array Value) (hw : ∀ d ∈ tables_1, d.before a0 Z = true) (ws : List Jvm.Cond) (a : Addr) (h0 : Heap) (n0 : Nat) (Z0 : n0 ≤ h0.size) :
    MetFree l (⟨"java/util/AbstractMap", "<init>", "()V"⟩ : MethodName) (head1 (Jvm.Cond.code (⟨"java/util/AbstractMap", "<init>", "()V"⟩ : MethodName) jdk_71_method_1_code 1 none :: ws) ({ frames := 1, cells := 0, slots := 0, locals := 12 } : Room)) (fun ag_ U_ => ag_ = #[(.ref a)] ∧ Z.Warmed39 U_.vm ∧ U_.heap = h0) (fun _ _ _ _ _ => True) (fun _ U_ o_ V_ => ∃ v_ L_, o_ = .returned v_ ∧ (Q_rm5 Z a h0 n0) v_ V_.heap L_ ∧ FrameEnd U_ o_ V_ L_ ({ frames := 1, cells := 0, slots := 0, locals := 12 } : Room).cells ({ frames := 1, cells := 0, slots := 0, locals := 12 } : Room).slots) := by
  refine MetFree.of_bodySF (plainFor_of_name own_pn0) hisR ?_
  intro p e s m args below meth c s₁ Bd hml0 hP hK
  obtain ⟨rfl, hZ, hh⟩ := hP
  have hx := Bd.exec
  have hby := Bd.bytes
  have hml : c.maxLocals = 1 := hml0
  have hown : s.vm.findClass "java/util/AbstractMap" = some m.cls := findClass_of_methodNamed Bd.named
  have hnm := (name_of_methodNamed Bd.named Bd.method).1
  have X0 : Stand p l e ({ frames := 1, cells := 0, slots := 0, locals := 12 } : Room) s m #[(.ref a)] below meth c s₁ [] 0 0 := Stand.of_body Bd
  have e0 : s₁.heap = h0 := by rw [← hh, Bd.state]; rfl
  have N0 := Fr.nil n0
  refine Go.st (G := fun s₂ o_ => ∃ v_ L_, o_ = .returned v_ ∧ (Q_rm5 Z a h0 n0) v_ s₂.heap L_ ∧ FrameEnd s o_ s₂ L_ ({ frames := 1, cells := 0, slots := 0, locals := 12 } : Room).cells ({ frames := 1, cells := 0, slots := 0, locals := 12 } : Room).slots) (fun t kt => castTop (ef_rm5 m a) kt) ?_
  show Go p e below _ (s₁.setTop (mkF m 0 #[.val (.ref a)] []))
  refine Go.st (fun _ kt => XS.aloadN X0.here hx rfl (hb hby d5_0) rfl rfl kt) ?_
  show Go p e below _ (s₁.setTop (mkF m 1 #[.val (.ref a)] [(.ref a)]))
  obtain ⟨T1, X1, e1, st1⟩ := initO X0 hx hZ hown (hw _ (List.mem_of_getElem? (i := 27) rfl)) (hw _ (List.mem_of_getElem? (i := 7) rfl)) (hw _ (List.mem_of_getElem? (i := 8) rfl)) e0 (g := (mkF m 1 #[.val (.ref a)] [(.ref a)])) rfl (by rw [hml]; rfl) rfl (hb hby d5_1) (by decide) (W := 0) (by show 2 * 0 + _ ≤ _; exact Nat.le_of_eq rfl) (by decide)
  refine Go.st st1 ?_
  show Go p e below _ (T1.setTop (mkF m 4 #[.val (.ref a)] []))
  refine Go.retV X1 hx Bd.returns (BodyLoose.notSynchronized Bd) (hb hby d5_4) (Q := (Q_rm5 Z a h0 n0)) (by decide) (by decide) ?_
  show (Q_rm5 Z a h0 n0) _ T1.heap _
  rw [e1]
  exact ⟨rfl, N0, rfl⟩
theorem own_pd1 : parseMethodDescriptor "()V" = some ⟨[], none⟩ := by decide +kernel
theorem d4_0 : decode jdk_69_method_7_code 0 = .ok (.aload_n 0, 1) := by decide +kernel
theorem d4_1 : decode jdk_69_method_7_code 1 = .ok (.invokespecial 43, 3) := by decide +kernel
theorem d4_4 : decode jdk_69_method_7_code 4 = .ok (.aload_n 0, 1) := by decide +kernel
theorem d4_5 : decode jdk_69_method_7_code 5 = .ok (.ldc 92, 2) := by decide +kernel
theorem d4_7 : decode jdk_69_method_7_code 7 = .ok (.putfield 81, 3) := by decide +kernel
theorem d4_10 : decode jdk_69_method_7_code 10 = .ok (.return_, 1) := by decide +kernel
theorem own_pn2 : plainName "java/util/HashMap" = true := by first | (simp [plainName, overriddenIn]; done) | decide +kernel
def Q_rm4 (Z : State) (a : Addr) (u : Value) (h0 : Heap) (n0 : Nat) (v : Option Value) (h : Heap) (L : List Loc) : Prop := v = none ∧ Fr n0 L ∧ Keep h0 h [a] ∧ Fld Z h a "java/util/LinkedHashMap" "putMode" "I" (.int (0 : Int32)) ∧ Fld Z h a "java/util/LinkedHashMap" "accessOrder" "Z" (.int (0 : Int32))
theorem ef_rm4 (m : MethodId) (a : Addr) : entryFrame m #[(.ref a)] 1 = mkF m 0 #[.val (.ref a)] [] := by first | (simp [entryFrame, mkF, argsToLocals, Value.category]; done) | rfl
set_option maxRecDepth 65536 in
set_option maxHeartbeats 40000000 in
theorem rm4 (l : Launch) (Z : State) (a0 : Array Value) (hw : ∀ d ∈ tables_1, d.before a0 Z = true) (ws : List Jvm.Cond) (a : Addr) (u : Value) (h0 : Heap) (n0 : Nat) (Z0 : n0 ≤ h0.size) (E_a : Exa Z h0 a "java/util/LinkedHashMap") (F_lf : Fld Z h0 a "java/util/HashMap" "loadFactor" "F" u) (F_pm : Fld Z h0 a "java/util/LinkedHashMap" "putMode" "I" (.int (0 : Int32))) (F_ao : Fld Z h0 a "java/util/LinkedHashMap" "accessOrder" "Z" (.int (0 : Int32))) (gn_a : n0 ≤ a) :
    MetFree l (⟨"java/util/HashMap", "<init>", "()V"⟩ : MethodName) (head1 (Jvm.Cond.code (⟨"java/util/HashMap", "<init>", "()V"⟩ : MethodName) jdk_69_method_7_code 1 none :: ws) ({ frames := 2, cells := 0, slots := 0, locals := 24 } : Room)) (fun ag_ U_ => ag_ = #[(.ref a)] ∧ Z.Warmed39 U_.vm ∧ U_.heap = h0) (fun _ _ _ _ _ => True) (fun _ U_ o_ V_ => ∃ v_ L_, o_ = .returned v_ ∧ (Q_rm4 Z a u h0 n0) v_ V_.heap L_ ∧ FrameEnd U_ o_ V_ L_ ({ frames := 2, cells := 0, slots := 0, locals := 24 } : Room).cells ({ frames := 2, cells := 0, slots := 0, locals := 24 } : Room).slots) := by
  refine MetFree.of_bodySF (plainFor_of_name own_pn2) hisR ?_
  intro p e s m args below meth c s₁ Bd hml0 hP hK
  obtain ⟨rfl, hZ, hh⟩ := hP
  have hx := Bd.exec
  have hby := Bd.bytes
  have hml : c.maxLocals = 1 := hml0
  have hown : s.vm.findClass "java/util/HashMap" = some m.cls := findClass_of_methodNamed Bd.named
  have hnm := (name_of_methodNamed Bd.named Bd.method).1
  have X0 : Stand p l e ({ frames := 2, cells := 0, slots := 0, locals := 24 } : Room) s m #[(.ref a)] below meth c s₁ [] 0 0 := Stand.of_body Bd
  have e0 : s₁.heap = h0 := by rw [← hh, Bd.state]; rfl
  have N0 := Fr.nil n0
  refine Go.st (G := fun s₂ o_ => ∃ v_ L_, o_ = .returned v_ ∧ (Q_rm4 Z a u h0 n0) v_ s₂.heap L_ ∧ FrameEnd s o_ s₂ L_ ({ frames := 2, cells := 0, slots := 0, locals := 24 } : Room).cells ({ frames := 2, cells := 0, slots := 0, locals := 24 } : Room).slots) (fun t kt => castTop (ef_rm4 m a) kt) ?_
  show Go p e below _ (s₁.setTop (mkF m 0 #[.val (.ref a)] []))
  refine Go.st (fun _ kt => XS.aloadN X0.here hx rfl (hb hby d4_0) rfl rfl kt) ?_
  show Go p e below _ (s₁.setTop (mkF m 1 #[.val (.ref a)] [(.ref a)]))
  obtain ⟨_, _, ⟨T1, L1, k1, n1⟩, -, X1, ⟨Lc1, hQ1, l1, y1, z1⟩, st1⟩ := X0.specialBack hx (y := (⟨"java/util/AbstractMap", "<init>", "()V"⟩ : MethodName)) rfl hown (mvT hZ (hw _ (List.mem_of_getElem? (i := 21) rfl))) (mvT hZ (hw _ (List.mem_of_getElem? (i := 22) rfl))) (mvT hZ (hw _ (List.mem_of_getElem? (i := 26) rfl))) (by decide) (backOf (W := 0) (rm5 l Z a0 hw [] a h0 n0 Z0) hZ (hw _ (List.mem_of_getElem? (i := 26) rfl)) (hw _ (List.mem_of_getElem? (i := 25) rfl)) (by decide) (by decide)) (g := (mkF m 1 #[.val (.ref a)] [(.ref a)])) rfl (by rw [hml]; rfl) (Steps.refl _) (a := a) (argsL := []) (rest := []) (lenOf own_pd1 rfl) rfl (by show 2 * 0 + _ ≤ _; exact Nat.le_of_eq rfl) (hb hby d4_1) (fun _ _ => ⟨rfl, e0, (by decide : 0 + 0 ≤ _), (by decide : 0 + 0 ≤ _)⟩)
  dsimp only [Pt.U, Pt.locs, Pt.cells, Pt.slots] at X1 l1 y1 z1 st1 hQ1
  subst l1 y1 z1
  obtain ⟨rfl, N1q, e1⟩ := hQ1
  have N1 := Fr.app N0 N1q
  refine Go.tr st1 ?_
  show Go p e below _ (T1.setTop (mkF m 4 #[.val (.ref a)] []))
  refine Go.st (fun _ kt => XS.aloadN X1.here hx rfl (hb hby d4_4) rfl rfl kt) ?_
  show Go p e below _ (T1.setTop (mkF m 5 #[.val (.ref a)] [(.ref a)]))
  refine Go.st (fun _ kt => X1.ldcFloatC hx hown (mvT hZ (hw _ (List.mem_of_getElem? (i := 28) rfl))) (g := (mkF m 5 #[.val (.ref a)] [(.ref a)])) rfl (hb hby d4_5) _ kt) ?_
  show Go p e below _ (T1.setTop (mkF m 7 #[.val (.ref a)] [(.float (1061158912 : UInt32)), (.ref a)]))
  obtain ⟨T2, h2, X2, e2, W2, st2⟩ := putF X1 hx hZ hown (host := "") (Or.inl (hw _ (List.mem_of_getElem? (i := 29) rfl))) Via.refl e1 F_lf E_a (Or.inr ⟨(hw _ (List.mem_of_getElem? (i := 30) rfl)), rfl, hnm⟩) (hw _ (List.mem_of_getElem? (i := 10) rfl)) (ty := .float) (by decide) rfl rfl (g := (mkF m 7 #[.val (.ref a)] [(.float (1061158912 : UInt32)), (.ref a)])) rfl rfl (hb hby d4_7)
  refine Go.st st2 ?_
  have Fw2 := F_lf.same W2
  have Zs2 : n0 ≤ h2.size := Nat.le_trans Z0 (Nat.le_of_eq W2.size.symm)
  have N2 := Fr.snoc X2 N1 gn_a
  have K2 : Keep h0 h2 [a] := (Keep.refl h0 [a]).wr W2 (Or.inl (List.mem_of_getElem? (i := 0) rfl))
  show Go p e below _ (T2.setTop (mkF m 10 #[.val (.ref a)] []))
  have f3 := (F_pm.other W2 (Or.inr (slot_ne (Or.inl (hw _ (List.mem_of_getElem? (i := 32) rfl))) (Or.inr (hw _ (List.mem_of_getElem? (i := 30) rfl))) (by decide) (t := .int) (t' := .float) (by decide) (by decide))))
  have f4 := (F_ao.other W2 (Or.inr (slot_ne (Or.inr (hw _ (List.mem_of_getElem? (i := 34) rfl))) (Or.inr (hw _ (List.mem_of_getElem? (i := 30) rfl))) (by decide) (t := .boolean) (t' := .float) (by decide) (by decide))))
  refine Go.retV X2 hx Bd.returns (BodyLoose.notSynchronized Bd) (hb hby d4_10) (Q := (Q_rm4 Z a u h0 n0)) (by decide) (by decide) ?_
  show (Q_rm4 Z a u h0 n0) _ T2.heap _
  rw [e2]
  exact ⟨rfl, N2, K2, f3, f4⟩
theorem d3_0 : decode jdk_94_method_16_code 0 = .ok (.aload_n 0, 1) := by decide +kernel
theorem d3_1 : decode jdk_94_method_16_code 1 = .ok (.invokespecial 87, 3) := by decide +kernel
theorem d3_4 : decode jdk_94_method_16_code 4 = .ok (.aload_n 0, 1) := by decide +kernel
theorem d3_5 : decode jdk_94_method_16_code 5 = .ok (.iconst 0, 1) := by decide +kernel
theorem d3_6 : decode jdk_94_method_16_code 6 = .ok (.putfield 1, 3) := by decide +kernel
theorem d3_9 : decode jdk_94_method_16_code 9 = .ok (.aload_n 0, 1) := by decide +kernel
theorem d3_10 : decode jdk_94_method_16_code 10 = .ok (.iconst 0, 1) := by decide +kernel
theorem d3_11 : decode jdk_94_method_16_code 11 = .ok (.putfield 64, 3) := by decide +kernel
theorem d3_14 : decode jdk_94_method_16_code 14 = .ok (.return_, 1) := by decide +kernel
theorem own_pn3 : plainName "java/util/LinkedHashMap" = true := by first | (simp [plainName, overriddenIn]; done) | decide +kernel
def Q_rm3 (Z : State) (a : Addr) (u : Value) (h0 : Heap) (n0 : Nat) (v : Option Value) (h : Heap) (L : List Loc) : Prop := v = none ∧ Fr n0 L ∧ Keep h0 h [a]
theorem ef_rm3 (m : MethodId) (a : Addr) : entryFrame m #[(.ref a)] 1 = mkF m 0 #[.val (.ref a)] [] := by first | (simp [entryFrame, mkF, argsToLocals, Value.category]; done) | rfl
set_option maxRecDepth 65536 in
set_option maxHeartbeats 40000000 in
theorem rm3 (l : Launch) (Z : State) (a0 : Array Value) (hw : ∀ d ∈ tables_1, d.before a0 Z = true) (ws : List Jvm.Cond) (a : Addr) (u : Value) (h0 : Heap) (n0 : Nat) (Z0 : n0 ≤ h0.size) (E_a : Exa Z h0 a "java/util/LinkedHashMap") (F_lf : Fld Z h0 a "java/util/HashMap" "loadFactor" "F" u) (F_pm : Fld Z h0 a "java/util/LinkedHashMap" "putMode" "I" (.int (0 : Int32))) (F_ao : Fld Z h0 a "java/util/LinkedHashMap" "accessOrder" "Z" (.int (0 : Int32))) (gn_a : n0 ≤ a) :
    MetFree l (⟨"java/util/LinkedHashMap", "<init>", "()V"⟩ : MethodName) (head1 (Jvm.Cond.code (⟨"java/util/LinkedHashMap", "<init>", "()V"⟩ : MethodName) jdk_94_method_16_code 1 none :: ws) ({ frames := 3, cells := 0, slots := 0, locals := 36 } : Room)) (fun ag_ U_ => ag_ = #[(.ref a)] ∧ Z.Warmed39 U_.vm ∧ U_.heap = h0) (fun _ _ _ _ _ => True) (fun _ U_ o_ V_ => ∃ v_ L_, o_ = .returned v_ ∧ (Q_rm3 Z a u h0 n0) v_ V_.heap L_ ∧ FrameEnd U_ o_ V_ L_ ({ frames := 3, cells := 0, slots := 0, locals := 36 } : Room).cells ({ frames := 3, cells := 0, slots := 0, locals := 36 } : Room).slots) := by
  refine MetFree.of_bodySF (plainFor_of_name own_pn3) hisR ?_
  intro p e s m args below meth c s₁ Bd hml0 hP hK
  obtain ⟨rfl, hZ, hh⟩ := hP
  have hx := Bd.exec
  have hby := Bd.bytes
  have hml : c.maxLocals = 1 := hml0
  have hown : s.vm.findClass "java/util/LinkedHashMap" = some m.cls := findClass_of_methodNamed Bd.named
  have hnm := (name_of_methodNamed Bd.named Bd.method).1
  have X0 : Stand p l e ({ frames := 3, cells := 0, slots := 0, locals := 36 } : Room) s m #[(.ref a)] below meth c s₁ [] 0 0 := Stand.of_body Bd
  have e0 : s₁.heap = h0 := by rw [← hh, Bd.state]; rfl
  have N0 := Fr.nil n0
  refine Go.st (G := fun s₂ o_ => ∃ v_ L_, o_ = .returned v_ ∧ (Q_rm3 Z a u h0 n0) v_ s₂.heap L_ ∧ FrameEnd s o_ s₂ L_ ({ frames := 3, cells := 0, slots := 0, locals := 36 } : Room).cells ({ frames := 3, cells := 0, slots := 0, locals := 36 } : Room).slots) (fun t kt => castTop (ef_rm3 m a) kt) ?_
  show Go p e below _ (s₁.setTop (mkF m 0 #[.val (.ref a)] []))
  refine Go.st (fun _ kt => XS.aloadN X0.here hx rfl (hb hby d3_0) rfl rfl kt) ?_
  show Go p e below _ (s₁.setTop (mkF m 1 #[.val (.ref a)] [(.ref a)]))
  obtain ⟨_, _, ⟨T1, L1, k1, n1⟩, -, X1, ⟨Lc1, hQ1, l1, y1, z1⟩, st1⟩ := X0.specialBack hx (y := (⟨"java/util/HashMap", "<init>", "()V"⟩ : MethodName)) rfl hown (mvT hZ (hw _ (List.mem_of_getElem? (i := 15) rfl))) (mvT hZ (hw _ (List.mem_of_getElem? (i := 16) rfl))) (mvT hZ (hw _ (List.mem_of_getElem? (i := 20) rfl))) (by decide) (backOf (W := 0) (rm4 l Z a0 hw [] a u h0 n0 Z0 E_a F_lf F_pm F_ao gn_a) hZ (hw _ (List.mem_of_getElem? (i := 20) rfl)) (hw _ (List.mem_of_getElem? (i := 19) rfl)) (by decide) (by decide)) (g := (mkF m 1 #[.val (.ref a)] [(.ref a)])) rfl (by rw [hml]; rfl) (Steps.refl _) (a := a) (argsL := []) (rest := []) (lenOf own_pd1 rfl) rfl (by show 2 * 0 + _ ≤ _; exact Nat.le_of_eq rfl) (hb hby d3_1) (fun _ _ => ⟨rfl, e0, (by decide : 0 + 0 ≤ _), (by decide : 0 + 0 ≤ _)⟩)
  dsimp only [Pt.U, Pt.locs, Pt.cells, Pt.slots] at X1 l1 y1 z1 st1 hQ1
  subst l1 y1 z1
  obtain ⟨rfl, N1q, K1q, G1_0, G1_1⟩ := hQ1
  have Zs1 : n0 ≤ T1.heap.size := Nat.le_trans Z0 K1q.1
  have K1 : Keep h0 T1.heap [a] := (Keep.refl h0 [a]).trans K1q (allS (Or.inl (List.mem_of_getElem? (i := 0) rfl)) all0)
  have N1 := Fr.app N0 N1q
  refine Go.tr st1 ?_
  show Go p e below _ (T1.setTop (mkF m 4 #[.val (.ref a)] []))
  refine Go.st (fun _ kt => XS.aloadN X1.here hx rfl (hb hby d3_4) rfl rfl kt) ?_
  show Go p e below _ (T1.setTop (mkF m 5 #[.val (.ref a)] [(.ref a)]))
  refine Go.st (fun _ kt => XS.iconst X1.here hx rfl (hb hby d3_5) kt) ?_
  show Go p e below _ (T1.setTop (mkF m 6 #[.val (.ref a)] [(.int (0 : Int32)), (.ref a)]))
  have f2 := (E_a.keep K1q)
  obtain ⟨T3, h3, X3, e3, W3, st3⟩ := putF X1 hx hZ hown (host := "") (Or.inl (hw _ (List.mem_of_getElem? (i := 31) rfl))) Via.refl rfl G1_0 f2 (Or.inl (hw _ (List.mem_of_getElem? (i := 32) rfl))) (hw _ (List.mem_of_getElem? (i := 10) rfl)) (ty := .int) (by decide) rfl rfl (g := (mkF m 6 #[.val (.ref a)] [(.int (0 : Int32)), (.ref a)])) rfl rfl (hb hby d3_6)
  refine Go.st st3 ?_
  have Fw3 := G1_0.same W3
  have Zs3 : n0 ≤ h3.size := Nat.le_trans Zs1 (Nat.le_of_eq W3.size.symm)
  have N3 := Fr.snoc X3 N1 gn_a
  have K3 : Keep h0 h3 [a] := K1.wr W3 (Or.inl (List.mem_of_getElem? (i := 0) rfl))
  show Go p e below _ (T3.setTop (mkF m 9 #[.val (.ref a)] []))
  refine Go.st (fun _ kt => XS.aloadN X3.here hx rfl (hb hby d3_9) rfl rfl kt) ?_
  show Go p e below _ (T3.setTop (mkF m 10 #[.val (.ref a)] [(.ref a)]))
  refine Go.st (fun _ kt => XS.iconst X3.here hx rfl (hb hby d3_10) kt) ?_
  show Go p e below _ (T3.setTop (mkF m 11 #[.val (.ref a)] [(.int (0 : Int32)), (.ref a)]))
  have f4 := (f2.wr W3)
  have f5 := (G1_1.other W3 (Or.inr (slot_ne (Or.inr (hw _ (List.mem_of_getElem? (i := 34) rfl))) (Or.inl (hw _ (List.mem_of_getElem? (i := 32) rfl))) (by decide) (t := .boolean) (t' := .int) (by decide) (by decide))))
  obtain ⟨T6, h6, X6, e6, W6, st6⟩ := putFN X3 hx hZ hown (hw _ (List.mem_of_getElem? (i := 33) rfl)) Via.refl e3 f5 f4 (Or.inr ⟨(hw _ (List.mem_of_getElem? (i := 34) rfl)), rfl, hnm⟩) (hw _ (List.mem_of_getElem? (i := 10) rfl)) (ty := .boolean) (v' := (.int (0 : Int32))) (by decide) rfl (by decide) (g := (mkF m 11 #[.val (.ref a)] [(.int (0 : Int32)), (.ref a)])) rfl rfl (hb hby d3_11)
  refine Go.st st6 ?_
  have Fw6 := f5.same W6
  have Zs6 : n0 ≤ h6.size := Nat.le_trans Zs3 (Nat.le_of_eq W6.size.symm)
  have N6 := Fr.snoc X6 N3 gn_a
  have K6 : Keep h0 h6 [a] := K3.wr W6 (Or.inl (List.mem_of_getElem? (i := 0) rfl))
  show Go p e below _ (T6.setTop (mkF m 14 #[.val (.ref a)] []))
  refine Go.retV X6 hx Bd.returns (BodyLoose.notSynchronized Bd) (hb hby d3_14) (Q := (Q_rm3 Z a u h0 n0)) (by decide) (by decide) ?_
  show (Q_rm3 Z a u h0 n0) _ T6.heap _
  rw [e6]
  exact ⟨rfl, N6, K6⟩
theorem d1_0 : decode prog_49_method_1_code 0 = .ok (.aload_n 0, 1) := by decide +kernel
theorem d1_1 : decode prog_49_method_1_code 1 = .ok (.invokespecial 1, 3) := by decide +kernel
theorem d1_4 : decode prog_49_method_1_code 4 = .ok (.aload_n 0, 1) := by decide +kernel
theorem d1_5 : decode prog_49_method_1_code 5 = .ok (.new 7, 3) := by decide +kernel
theorem d1_8 : decode prog_49_method_1_code 8 = .ok (.dup, 1) := by decide +kernel
theorem d1_9 : decode prog_49_method_1_code 9 = .ok (.invokespecial 9, 3) := by decide +kernel
theorem d1_12 : decode prog_49_method_1_code 12 = .ok (.putfield 10, 3) := by decide +kernel
theorem d1_15 : decode prog_49_method_1_code 15 = .ok (.aload_n 0, 1) := by decide +kernel
theorem d1_16 : decode prog_49_method_1_code 16 = .ok (.new 7, 3) := by decide +kernel
theorem d1_19 : decode prog_49_method_1_code 19 = .ok (.dup, 1) := by decide +kernel
theorem d1_20 : decode prog_49_method_1_code 20 = .ok (.invokespecial 9, 3) := by decide +kernel
theorem d1_23 : decode prog_49_method_1_code 23 = .ok (.putfield 16, 3) := by decide +kernel
theorem d1_26 : decode prog_49_method_1_code 26 = .ok (.aload_n 0, 1) := by decide +kernel
theorem d1_27 : decode prog_49_method_1_code 27 = .ok (.new 7, 3) := by decide +kernel
theorem d1_30 : decode prog_49_method_1_code 30 = .ok (.dup, 1) := by decide +kernel
theorem d1_31 : decode prog_49_method_1_code 31 = .ok (.invokespecial 9, 3) := by decide +kernel
theorem d1_34 : decode prog_49_method_1_code 34 = .ok (.putfield 19, 3) := by decide +kernel
theorem d1_37 : decode prog_49_method_1_code 37 = .ok (.return_, 1) := by decide +kernel
theorem own_pn4 : plainName "com/example/manyhands/manyhands/crowd/Tally" = true := by first | (simp [plainName, overriddenIn]; done) | decide +kernel
def Q_rm1 (Z : State) (a : Addr) (h0 : Heap) (n0 : Nat) (v : Option Value) (h : Heap) (L : List Loc) : Prop := v = none ∧ Fr n0 L ∧ Keep h0 h [a] ∧ Fld Z h a "com/example/manyhands/manyhands/crowd/Tally" "questions" "J" (.long (0 : Int64)) ∧ Fld Z h a "com/example/manyhands/manyhands/crowd/Tally" "distinct" "J" (.long (0 : Int64))
theorem ef_rm1 (m : MethodId) (a : Addr) : entryFrame m #[(.ref a)] 1 = mkF m 0 #[.val (.ref a)] [] := by first | (simp [entryFrame, mkF, argsToLocals, Value.category]; done) | rfl
set_option maxRecDepth 65536 in
set_option maxHeartbeats 40000000 in
theorem rm1 (l : Launch) (Z : State) (a0 : Array Value) (hw : ∀ d ∈ tables_1, d.before a0 Z = true) (ws : List Jvm.Cond) (a : Addr) (h0 : Heap) (n0 : Nat) (Z0 : n0 ≤ h0.size) (E_a : Exa Z h0 a "com/example/manyhands/manyhands/crowd/Tally") (F_values : Fld Z h0 a "com/example/manyhands/manyhands/crowd/Tally" "values" "Ljava/util/Map;" .null) (F_records : Fld Z h0 a "com/example/manyhands/manyhands/crowd/Tally" "records" "Ljava/util/Map;" .null) (F_cells : Fld Z h0 a "com/example/manyhands/manyhands/crowd/Tally" "cells" "Ljava/util/Map;" .null) (F_q : Fld Z h0 a "com/example/manyhands/manyhands/crowd/Tally" "questions" "J" (.long (0 : Int64))) (F_d : Fld Z h0 a "com/example/manyhands/manyhands/crowd/Tally" "distinct" "J" (.long (0 : Int64))) (gn_a : n0 ≤ a) :
    MetFree l (⟨"com/example/manyhands/manyhands/crowd/Tally", "<init>", "()V"⟩ : MethodName) (head1 (Jvm.Cond.code (⟨"com/example/manyhands/manyhands/crowd/Tally", "<init>", "()V"⟩ : MethodName) prog_49_method_1_code 1 none :: ws) ({ frames := 4, cells := 3, slots := 36, locals := 50 } : Room)) (fun ag_ U_ => ag_ = #[(.ref a)] ∧ Z.Warmed39 U_.vm ∧ U_.heap = h0) (fun _ _ _ _ _ => True) (fun _ U_ o_ V_ => ∃ v_ L_, o_ = .returned v_ ∧ (Q_rm1 Z a h0 n0) v_ V_.heap L_ ∧ FrameEnd U_ o_ V_ L_ ({ frames := 4, cells := 3, slots := 36, locals := 50 } : Room).cells ({ frames := 4, cells := 3, slots := 36, locals := 50 } : Room).slots) := by
  refine MetFree.of_bodySF (plainFor_of_name own_pn4) hisR ?_
  intro p e s m args below meth c s₁ Bd hml0 hP hK
  obtain ⟨rfl, hZ, hh⟩ := hP
  have hx := Bd.exec
  have hby := Bd.bytes
  have hml : c.maxLocals = 1 := hml0
  have hown : s.vm.findClass "com/example/manyhands/manyhands/crowd/Tally" = some m.cls := findClass_of_methodNamed Bd.named
  have hnm := (name_of_methodNamed Bd.named Bd.method).1
  have X0 : Stand p l e ({ frames := 4, cells := 3, slots := 36, locals := 50 } : Room) s m #[(.ref a)] below meth c s₁ [] 0 0 := Stand.of_body Bd
  have e0 : s₁.heap = h0 := by rw [← hh, Bd.state]; rfl
  have N0 := Fr.nil n0
  refine Go.st (G := fun s₂ o_ => ∃ v_ L_, o_ = .returned v_ ∧ (Q_rm1 Z a h0 n0) v_ s₂.heap L_ ∧ FrameEnd s o_ s₂ L_ ({ frames := 4, cells := 3, slots := 36, locals := 50 } : Room).cells ({ frames := 4, cells := 3, slots := 36, locals := 50 } : Room).slots) (fun t kt => castTop (ef_rm1 m a) kt) ?_
  show Go p e below _ (s₁.setTop (mkF m 0 #[.val (.ref a)] []))
  refine Go.st (fun _ kt => XS.aloadN X0.here hx rfl (hb hby d1_0) rfl rfl kt) ?_
  show Go p e below _ (s₁.setTop (mkF m 1 #[.val (.ref a)] [(.ref a)]))
  obtain ⟨T1, X1, e1, st1⟩ := initO X0 hx hZ hown (hw _ (List.mem_of_getElem? (i := 6) rfl)) (hw _ (List.mem_of_getElem? (i := 7) rfl)) (hw _ (List.mem_of_getElem? (i := 8) rfl)) e0 (g := (mkF m 1 #[.val (.ref a)] [(.ref a)])) rfl (by rw [hml]; rfl) rfl (hb hby d1_1) (by decide) (W := 0) (by show 2 * 0 + _ ≤ _; exact Nat.le_of_eq rfl) (by decide)
  refine Go.st st1 ?_
  show Go p e below _ (T1.setTop (mkF m 4 #[.val (.ref a)] []))
  refine Go.st (fun _ kt => XS.aloadN X1.here hx rfl (hb hby d1_4) rfl rfl kt) ?_
  show Go p e below _ (T1.setTop (mkF m 5 #[.val (.ref a)] [(.ref a)]))
  obtain ⟨T2, h2, X2, e2, E2, A2, D2, U2, st2⟩ := newO X1 hx hZ hown (hw _ (List.mem_of_getElem? (i := 9) rfl)) (hw _ (List.mem_of_getElem? (i := 10) rfl)) (hw _ (List.mem_of_getElem? (i := 11) rfl)) e1 (g := (mkF m 5 #[.val (.ref a)] [(.ref a)])) rfl (hb hby d1_5) (by decide) (by decide)
  obtain ⟨b2, g2⟩ : ∃ z, z = h0.size := ⟨_, rfl⟩
  rw [← g2] at A2 D2 U2 st2
  have lt_a_b2 : a < b2 := Nat.lt_of_lt_of_eq E_a.lt g2.symm
  have gn_b2 : n0 ≤ b2 := Nat.le_trans Z0 (Nat.le_of_eq g2.symm)
  have Zs2 : n0 ≤ h2.size := Nat.le_trans Z0 E2.1
  have K2 : Keep h0 h2 [a] := (Keep.refl h0 [a]).ext E2
  have kn_b2 : h0.size ≤ b2 := Nat.le_trans (Keep.refl h0 [a]).1 (Nat.le_of_eq g2.symm)
  refine Go.st st2 ?_
  have F2_loadFactor : Fld Z h2 b2 "java/util/HashMap" "loadFactor" "F" (defaultValue .float) := D2 (Or.inr (hw _ (List.mem_of_getElem? (i := 30) rfl))) (ty := .float) (by decide)
  have F2_putMode : Fld Z h2 b2 "java/util/LinkedHashMap" "putMode" "I" (.int (0 : Int32)) := D2 (Or.inl (hw _ (List.mem_of_getElem? (i := 32) rfl))) (ty := .int) (by decide)
  have F2_accessOrder : Fld Z h2 b2 "java/util/LinkedHashMap" "accessOrder" "Z" (.int (0 : Int32)) := D2 (Or.inr (hw _ (List.mem_of_getElem? (i := 34) rfl))) (ty := .boolean) (by decide)
  show Go p e below _ (T2.setTop (mkF m 8 #[.val (.ref a)] [(.ref b2), (.ref a)]))
  refine Go.st (fun _ kt => XS.dup X2.here hx rfl (hb hby d1_8) rfl rfl kt) ?_
  show Go p e below _ (T2.setTop (mkF m 9 #[.val (.ref a)] [(.ref b2), (.ref b2), (.ref a)]))
  obtain ⟨_, _, ⟨T3, L3, k3, n3⟩, -, X3, ⟨Lc3, hQ3, l3, y3, z3⟩, st3⟩ := X2.specialBack hx (y := (⟨"java/util/LinkedHashMap", "<init>", "()V"⟩ : MethodName)) rfl hown (mvT hZ (hw _ (List.mem_of_getElem? (i := 12) rfl))) (mvT hZ (hw _ (List.mem_of_getElem? (i := 13) rfl))) (mvT hZ (hw _ (List.mem_of_getElem? (i := 14) rfl))) (by decide) (backOf (W := 2) (rm3 l Z a0 hw [] b2 _ h2 n0 Zs2 A2 F2_loadFactor F2_putMode F2_accessOrder gn_b2) hZ (hw _ (List.mem_of_getElem? (i := 14) rfl)) (hw _ (List.mem_of_getElem? (i := 11) rfl)) (by decide) (by decide)) (g := (mkF m 9 #[.val (.ref a)] [(.ref b2), (.ref b2), (.ref a)])) rfl (by rw [hml]; rfl) (Steps.refl _) (a := b2) (argsL := []) (rest := [(.ref b2), (.ref a)]) (lenOf own_pd1 rfl) rfl (by show 2 * 0 + _ ≤ _; exact Nat.le_of_eq rfl) (hb hby d1_9) (fun _ _ => ⟨rfl, e2, (by decide : 1 + 0 ≤ _), (by decide : 12 + 0 ≤ _)⟩)
  dsimp only [Pt.U, Pt.locs, Pt.cells, Pt.slots] at X3 l3 y3 z3 st3 hQ3
  subst l3 y3 z3
  obtain ⟨rfl, N3q, K3q⟩ := hQ3
  have Zs3 : n0 ≤ T3.heap.size := Nat.le_trans Zs2 K3q.1
  have K3 : Keep h0 T3.heap [a] := K2.trans K3q (allS (Or.inr kn_b2) all0)
  have N3 := Fr.app N0 N3q
  refine Go.tr st3 ?_
  show Go p e below _ (T3.setTop (mkF m 12 #[.val (.ref a)] [(.ref b2), (.ref a)]))
  have f4 := ((E_a.ext E2).keep K3q)
  have f5 := ((F_values.ext E2).keep K3q (ninS (Nat.ne_of_lt lt_a_b2) nin0))
  obtain ⟨T6, h6, X6, e6, W6, st6⟩ := putF X3 hx hZ hown (host := "") (Or.inl (hw _ (List.mem_of_getElem? (i := 35) rfl))) Via.refl rfl f5 f4 (Or.inr ⟨(hw _ (List.mem_of_getElem? (i := 36) rfl)), rfl, hnm⟩) (hw _ (List.mem_of_getElem? (i := 1) rfl)) (ty := (.object "java/util/Map")) (by decide) rfl rfl (g := (mkF m 12 #[.val (.ref a)] [(.ref b2), (.ref a)])) rfl rfl (hb hby d1_12)
  refine Go.st st6 ?_
  have Fw6 := f5.same W6
  have Zs6 : n0 ≤ h6.size := Nat.le_trans Zs3 (Nat.le_of_eq W6.size.symm)
  have N6 := Fr.snoc X6 N3 gn_a
  have K6 : Keep h0 h6 [a] := K3.wr W6 (Or.inl (List.mem_of_getElem? (i := 0) rfl))
  show Go p e below _ (T6.setTop (mkF m 15 #[.val (.ref a)] []))
  refine Go.st (fun _ kt => XS.aloadN X6.here hx rfl (hb hby d1_15) rfl rfl kt) ?_
  show Go p e below _ (T6.setTop (mkF m 16 #[.val (.ref a)] [(.ref a)]))
  obtain ⟨T7, h7, X7, e7, E7, A7, D7, U7, st7⟩ := newO X6 hx hZ hown (hw _ (List.mem_of_getElem? (i := 9) rfl)) (hw _ (List.mem_of_getElem? (i := 10) rfl)) (hw _ (List.mem_of_getElem? (i := 11) rfl)) e6 (g := (mkF m 16 #[.val (.ref a)] [(.ref a)])) rfl (hb hby d1_16) (by decide) (by decide)
  obtain ⟨b7, g7⟩ : ∃ z, z = h6.size := ⟨_, rfl⟩
  rw [← g7] at A7 D7 U7 st7
  have f8 := (f4.wr W6)
  have lt_a_b7 : a < b7 := Nat.lt_of_lt_of_eq f8.lt g7.symm
  have f9 := ((A2.keep K3q).wr W6)
  have lt_b2_b7 : b2 < b7 := Nat.lt_of_lt_of_eq f9.lt g7.symm
  have gn_b7 : n0 ≤ b7 := Nat.le_trans Zs6 (Nat.le_of_eq g7.symm)
  have Zs7 : n0 ≤ h7.size := Nat.le_trans Zs6 E7.1
  have K7 : Keep h0 h7 [a] := K6.ext E7
  have kn_b7 : h0.size ≤ b7 := Nat.le_trans K6.1 (Nat.le_of_eq g7.symm)
  refine Go.st st7 ?_
  have F7_loadFactor : Fld Z h7 b7 "java/util/HashMap" "loadFactor" "F" (defaultValue .float) := D7 (Or.inr (hw _ (List.mem_of_getElem? (i := 30) rfl))) (ty := .float) (by decide)
  have F7_putMode : Fld Z h7 b7 "java/util/LinkedHashMap" "putMode" "I" (.int (0 : Int32)) := D7 (Or.inl (hw _ (List.mem_of_getElem? (i := 32) rfl))) (ty := .int) (by decide)
  have F7_accessOrder : Fld Z h7 b7 "java/util/LinkedHashMap" "accessOrder" "Z" (.int (0 : Int32)) := D7 (Or.inr (hw _ (List.mem_of_getElem? (i := 34) rfl))) (ty := .boolean) (by decide)
  show Go p e below _ (T7.setTop (mkF m 19 #[.val (.ref a)] [(.ref b7), (.ref a)]))
  refine Go.st (fun _ kt => XS.dup X7.here hx rfl (hb hby d1_19) rfl rfl kt) ?_
  show Go p e below _ (T7.setTop (mkF m 20 #[.val (.ref a)] [(.ref b7), (.ref b7), (.ref a)]))
  obtain ⟨_, _, ⟨T10, L10, k10, n10⟩, -, X10, ⟨Lc10, hQ10, l10, y10, z10⟩, st10⟩ := X7.specialBack hx (y := (⟨"java/util/LinkedHashMap", "<init>", "()V"⟩ : MethodName)) rfl hown (mvT hZ (hw _ (List.mem_of_getElem? (i := 12) rfl))) (mvT hZ (hw _ (List.mem_of_getElem? (i := 13) rfl))) (mvT hZ (hw _ (List.mem_of_getElem? (i := 14) rfl))) (by decide) (backOf (W := 2) (rm3 l Z a0 hw [] b7 _ h7 n0 Zs7 A7 F7_loadFactor F7_putMode F7_accessOrder gn_b7) hZ (hw _ (List.mem_of_getElem? (i := 14) rfl)) (hw _ (List.mem_of_getElem? (i := 11) rfl)) (by decide) (by decide)) (g := (mkF m 20 #[.val (.ref a)] [(.ref b7), (.ref b7), (.ref a)])) rfl (by rw [hml]; rfl) (Steps.refl _) (a := b7) (argsL := []) (rest := [(.ref b7), (.ref a)]) (lenOf own_pd1 rfl) rfl (by show 2 * 0 + _ ≤ _; exact Nat.le_of_eq rfl) (hb hby d1_20) (fun _ _ => ⟨rfl, e7, (by decide : 2 + 0 ≤ _), (by decide : 24 + 0 ≤ _)⟩)
  dsimp only [Pt.U, Pt.locs, Pt.cells, Pt.slots] at X10 l10 y10 z10 st10 hQ10
  subst l10 y10 z10
  obtain ⟨rfl, N10q, K10q⟩ := hQ10
  have Zs10 : n0 ≤ T10.heap.size := Nat.le_trans Zs7 K10q.1
  have K10 : Keep h0 T10.heap [a] := K7.trans K10q (allS (Or.inr kn_b7) all0)
  have N10 := Fr.app N6 N10q
  refine Go.tr st10 ?_
  show Go p e below _ (T10.setTop (mkF m 23 #[.val (.ref a)] [(.ref b7), (.ref a)]))
  have f11 := ((f8.ext E7).keep K10q)
  have f12 := (((((F_records.ext E2).keep K3q (ninS (Nat.ne_of_lt lt_a_b2) nin0)).other W6 (Or.inr (slot_ne (Or.inr (hw _ (List.mem_of_getElem? (i := 38) rfl))) (Or.inr (hw _ (List.mem_of_getElem? (i := 36) rfl))) (by decide) (t := (.object "java/util/Map")) (t' := (.object "java/util/Map")) (by decide) (by decide)))).ext E7).keep K10q (ninS (Nat.ne_of_lt lt_a_b7) nin0))
  obtain ⟨T13, h13, X13, e13, W13, st13⟩ := putF X10 hx hZ hown (host := "") (Or.inl (hw _ (List.mem_of_getElem? (i := 37) rfl))) Via.refl rfl f12 f11 (Or.inr ⟨(hw _ (List.mem_of_getElem? (i := 38) rfl)), rfl, hnm⟩) (hw _ (List.mem_of_getElem? (i := 1) rfl)) (ty := (.object "java/util/Map")) (by decide) rfl rfl (g := (mkF m 23 #[.val (.ref a)] [(.ref b7), (.ref a)])) rfl rfl (hb hby d1_23)
  refine Go.st st13 ?_
  have Fw13 := f12.same W13
  have Zs13 : n0 ≤ h13.size := Nat.le_trans Zs10 (Nat.le_of_eq W13.size.symm)
  have N13 := Fr.snoc X13 N10 gn_a
  have K13 : Keep h0 h13 [a] := K10.wr W13 (Or.inl (List.mem_of_getElem? (i := 0) rfl))
  show Go p e below _ (T13.setTop (mkF m 26 #[.val (.ref a)] []))
  refine Go.st (fun _ kt => XS.aloadN X13.here hx rfl (hb hby d1_26) rfl rfl kt) ?_
  show Go p e below _ (T13.setTop (mkF m 27 #[.val (.ref a)] [(.ref a)]))
  obtain ⟨T14, h14, X14, e14, E14, A14, D14, U14, st14⟩ := newO X13 hx hZ hown (hw _ (List.mem_of_getElem? (i := 9) rfl)) (hw _ (List.mem_of_getElem? (i := 10) rfl)) (hw _ (List.mem_of_getElem? (i := 11) rfl)) e13 (g := (mkF m 27 #[.val (.ref a)] [(.ref a)])) rfl (hb hby d1_27) (by decide) (by decide)
  obtain ⟨b14, g14⟩ : ∃ z, z = h13.size := ⟨_, rfl⟩
  rw [← g14] at A14 D14 U14 st14
  have f15 := (f11.wr W13)
  have lt_a_b14 : a < b14 := Nat.lt_of_lt_of_eq f15.lt g14.symm
  have f16 := (((f9.ext E7).keep K10q).wr W13)
  have lt_b2_b14 : b2 < b14 := Nat.lt_of_lt_of_eq f16.lt g14.symm
  have f17 := ((A7.keep K10q).wr W13)
  have lt_b7_b14 : b7 < b14 := Nat.lt_of_lt_of_eq f17.lt g14.symm
  have gn_b14 : n0 ≤ b14 := Nat.le_trans Zs13 (Nat.le_of_eq g14.symm)
  have Zs14 : n0 ≤ h14.size := Nat.le_trans Zs13 E14.1
  have K14 : Keep h0 h14 [a] := K13.ext E14
  have kn_b14 : h0.size ≤ b14 := Nat.le_trans K13.1 (Nat.le_of_eq g14.symm)
  refine Go.st st14 ?_
  have F14_loadFactor : Fld Z h14 b14 "java/util/HashMap" "loadFactor" "F" (defaultValue .float) := D14 (Or.inr (hw _ (List.mem_of_getElem? (i := 30) rfl))) (ty := .float) (by decide)
  have F14_putMode : Fld Z h14 b14 "java/util/LinkedHashMap" "putMode" "I" (.int (0 : Int32)) := D14 (Or.inl (hw _ (List.mem_of_getElem? (i := 32) rfl))) (ty := .int) (by decide)
  have F14_accessOrder : Fld Z h14 b14 "java/util/LinkedHashMap" "accessOrder" "Z" (.int (0 : Int32)) := D14 (Or.inr (hw _ (List.mem_of_getElem? (i := 34) rfl))) (ty := .boolean) (by decide)
  show Go p e below _ (T14.setTop (mkF m 30 #[.val (.ref a)] [(.ref b14), (.ref a)]))
  refine Go.st (fun _ kt => XS.dup X14.here hx rfl (hb hby d1_30) rfl rfl kt) ?_
  show Go p e below _ (T14.setTop (mkF m 31 #[.val (.ref a)] [(.ref b14), (.ref b14), (.ref a)]))
  obtain ⟨_, _, ⟨T18, L18, k18, n18⟩, -, X18, ⟨Lc18, hQ18, l18, y18, z18⟩, st18⟩ := X14.specialBack hx (y := (⟨"java/util/LinkedHashMap", "<init>", "()V"⟩ : MethodName)) rfl hown (mvT hZ (hw _ (List.mem_of_getElem? (i := 12) rfl))) (mvT hZ (hw _ (List.mem_of_getElem? (i := 13) rfl))) (mvT hZ (hw _ (List.mem_of_getElem? (i := 14) rfl))) (by decide) (backOf (W := 2) (rm3 l Z a0 hw [] b14 _ h14 n0 Zs14 A14 F14_loadFactor F14_putMode F14_accessOrder gn_b14) hZ (hw _ (List.mem_of_getElem? (i := 14) rfl)) (hw _ (List.mem_of_getElem? (i := 11) rfl)) (by decide) (by decide)) (g := (mkF m 31 #[.val (.ref a)] [(.ref b14), (.ref b14), (.ref a)])) rfl (by rw [hml]; rfl) (Steps.refl _) (a := b14) (argsL := []) (rest := [(.ref b14), (.ref a)]) (lenOf own_pd1 rfl) rfl (by show 2 * 0 + _ ≤ _; exact Nat.le_of_eq rfl) (hb hby d1_31) (fun _ _ => ⟨rfl, e14, (by decide : 3 + 0 ≤ _), (by decide : 36 + 0 ≤ _)⟩)
  dsimp only [Pt.U, Pt.locs, Pt.cells, Pt.slots] at X18 l18 y18 z18 st18 hQ18
  subst l18 y18 z18
  obtain ⟨rfl, N18q, K18q⟩ := hQ18
  have Zs18 : n0 ≤ T18.heap.size := Nat.le_trans Zs14 K18q.1
  have K18 : Keep h0 T18.heap [a] := K14.trans K18q (allS (Or.inr kn_b14) all0)
  have N18 := Fr.app N13 N18q
  refine Go.tr st18 ?_
  show Go p e below _ (T18.setTop (mkF m 34 #[.val (.ref a)] [(.ref b14), (.ref a)]))
  have f19 := ((f15.ext E14).keep K18q)
  have f20 := ((((((((F_cells.ext E2).keep K3q (ninS (Nat.ne_of_lt lt_a_b2) nin0)).other W6 (Or.inr (slot_ne (Or.inr (hw _ (List.mem_of_getElem? (i := 40) rfl))) (Or.inr (hw _ (List.mem_of_getElem? (i := 36) rfl))) (by decide) (t := (.object "java/util/Map")) (t' := (.object "java/util/Map")) (by decide) (by decide)))).ext E7).keep K10q (ninS (Nat.ne_of_lt lt_a_b7) nin0)).other W13 (Or.inr (slot_ne (Or.inr (hw _ (List.mem_of_getElem? (i := 40) rfl))) (Or.inr (hw _ (List.mem_of_getElem? (i := 38) rfl))) (by decide) (t := (.object "java/util/Map")) (t' := (.object "java/util/Map")) (by decide) (by decide)))).ext E14).keep K18q (ninS (Nat.ne_of_lt lt_a_b14) nin0))
  obtain ⟨T21, h21, X21, e21, W21, st21⟩ := putF X18 hx hZ hown (host := "") (Or.inl (hw _ (List.mem_of_getElem? (i := 39) rfl))) Via.refl rfl f20 f19 (Or.inr ⟨(hw _ (List.mem_of_getElem? (i := 40) rfl)), rfl, hnm⟩) (hw _ (List.mem_of_getElem? (i := 1) rfl)) (ty := (.object "java/util/Map")) (by decide) rfl rfl (g := (mkF m 34 #[.val (.ref a)] [(.ref b14), (.ref a)])) rfl rfl (hb hby d1_34)
  refine Go.st st21 ?_
  have Fw21 := f20.same W21
  have Zs21 : n0 ≤ h21.size := Nat.le_trans Zs18 (Nat.le_of_eq W21.size.symm)
  have N21 := Fr.snoc X21 N18 gn_a
  have K21 : Keep h0 h21 [a] := K18.wr W21 (Or.inl (List.mem_of_getElem? (i := 0) rfl))
  show Go p e below _ (T21.setTop (mkF m 37 #[.val (.ref a)] []))
  have f22 := (((((((((F_q.ext E2).keep K3q (ninS (Nat.ne_of_lt lt_a_b2) nin0)).other W6 (Or.inr (slot_ne (Or.inl (hw _ (List.mem_of_getElem? (i := 47) rfl))) (Or.inr (hw _ (List.mem_of_getElem? (i := 36) rfl))) (by decide) (t := .long) (t' := (.object "java/util/Map")) (by decide) (by decide)))).ext E7).keep K10q (ninS (Nat.ne_of_lt lt_a_b7) nin0)).other W13 (Or.inr (slot_ne (Or.inl (hw _ (List.mem_of_getElem? (i := 47) rfl))) (Or.inr (hw _ (List.mem_of_getElem? (i := 38) rfl))) (by decide) (t := .long) (t' := (.object "java/util/Map")) (by decide) (by decide)))).ext E14).keep K18q (ninS (Nat.ne_of_lt lt_a_b14) nin0)).other W21 (Or.inr (slot_ne (Or.inl (hw _ (List.mem_of_getElem? (i := 47) rfl))) (Or.inr (hw _ (List.mem_of_getElem? (i := 40) rfl))) (by decide) (t := .long) (t' := (.object "java/util/Map")) (by decide) (by decide))))
  have f23 := (((((((((F_d.ext E2).keep K3q (ninS (Nat.ne_of_lt lt_a_b2) nin0)).other W6 (Or.inr (slot_ne (Or.inl (hw _ (List.mem_of_getElem? (i := 54) rfl))) (Or.inr (hw _ (List.mem_of_getElem? (i := 36) rfl))) (by decide) (t := .long) (t' := (.object "java/util/Map")) (by decide) (by decide)))).ext E7).keep K10q (ninS (Nat.ne_of_lt lt_a_b7) nin0)).other W13 (Or.inr (slot_ne (Or.inl (hw _ (List.mem_of_getElem? (i := 54) rfl))) (Or.inr (hw _ (List.mem_of_getElem? (i := 38) rfl))) (by decide) (t := .long) (t' := (.object "java/util/Map")) (by decide) (by decide)))).ext E14).keep K18q (ninS (Nat.ne_of_lt lt_a_b14) nin0)).other W21 (Or.inr (slot_ne (Or.inl (hw _ (List.mem_of_getElem? (i := 54) rfl))) (Or.inr (hw _ (List.mem_of_getElem? (i := 40) rfl))) (by decide) (t := .long) (t' := (.object "java/util/Map")) (by decide) (by decide))))
  refine Go.retV X21 hx Bd.returns (BodyLoose.notSynchronized Bd) (hb hby d1_37) (Q := (Q_rm1 Z a h0 n0)) (by decide) (by decide) ?_
  show (Q_rm1 Z a h0 n0) _ T21.heap _
  rw [e21]
  exact ⟨rfl, N21, K21, f22, f23⟩
theorem d6_0 : decode prog_49_method_3_code 0 = .ok (.aload_n 0, 1) := by decide +kernel
theorem d6_1 : decode prog_49_method_3_code 1 = .ok (.getfield 22, 3) := by decide +kernel
theorem d6_4 : decode prog_49_method_3_code 4 = .ok (.lreturn, 1) := by decide +kernel
def Q_rm6 (Z : State) (a : Addr) (x : Int64) (h0 : Heap) (n0 : Nat) (v : Option Value) (h : Heap) (L : List Loc) : Prop := v = some (.long x) ∧ Fr n0 L ∧ h = h0
theorem ef_rm6 (m : MethodId) (a : Addr) : entryFrame m #[(.ref a)] 1 = mkF m 0 #[.val (.ref a)] [] := by first | (simp [entryFrame, mkF, argsToLocals, Value.category]; done) | rfl
set_option maxRecDepth 65536 in
set_option maxHeartbeats 40000000 in
theorem rm6 (l : Launch) (Z : State) (a0 : Array Value) (hw : ∀ d ∈ tables_1, d.before a0 Z = true) (ws : List Jvm.Cond) (a : Addr) (x : Int64) (h0 : Heap) (n0 : Nat) (Z0 : n0 ≤ h0.size) (F_x : Fld Z h0 a "com/example/manyhands/manyhands/crowd/Tally" "questions" "J" (.long x)) :
    MetFree l (⟨"com/example/manyhands/manyhands/crowd/Tally", "questions", "()J"⟩ : MethodName) (head1 (Jvm.Cond.code (⟨"com/example/manyhands/manyhands/crowd/Tally", "questions", "()J"⟩ : MethodName) prog_49_method_3_code 1 (some .long) :: ws) ({ frames := 0, cells := 0, slots := 0, locals := 0 } : Room)) (fun ag_ U_ => ag_ = #[(.ref a)] ∧ Z.Warmed39 U_.vm ∧ U_.heap = h0) (fun _ _ _ _ _ => True) (fun _ U_ o_ V_ => ∃ v_ L_, o_ = .returned v_ ∧ (Q_rm6 Z a x h0 n0) v_ V_.heap L_ ∧ FrameEnd U_ o_ V_ L_ ({ frames := 0, cells := 0, slots := 0, locals := 0 } : Room).cells ({ frames := 0, cells := 0, slots := 0, locals := 0 } : Room).slots) := by
  refine MetFree.of_bodySF (plainFor_of_name own_pn4) hisR ?_
  intro p e s m args below meth c s₁ Bd hml0 hP hK
  obtain ⟨rfl, hZ, hh⟩ := hP
  have hx := Bd.exec
  have hby := Bd.bytes
  have hml : c.maxLocals = 1 := hml0
  have hown : s.vm.findClass "com/example/manyhands/manyhands/crowd/Tally" = some m.cls := findClass_of_methodNamed Bd.named
  have hnm := (name_of_methodNamed Bd.named Bd.method).1
  have X0 : Stand p l e ({ frames := 0, cells := 0, slots := 0, locals := 0 } : Room) s m #[(.ref a)] below meth c s₁ [] 0 0 := Stand.of_body Bd
  have e0 : s₁.heap = h0 := by rw [← hh, Bd.state]; rfl
  have N0 := Fr.nil n0
  refine Go.st (G := fun s₂ o_ => ∃ v_ L_, o_ = .returned v_ ∧ (Q_rm6 Z a x h0 n0) v_ s₂.heap L_ ∧ FrameEnd s o_ s₂ L_ ({ frames := 0, cells := 0, slots := 0, locals := 0 } : Room).cells ({ frames := 0, cells := 0, slots := 0, locals := 0 } : Room).slots) (fun t kt => castTop (ef_rm6 m a) kt) ?_
  show Go p e below _ (s₁.setTop (mkF m 0 #[.val (.ref a)] []))
  refine Go.st (fun _ kt => XS.aloadN X0.here hx rfl (hb hby d6_0) rfl rfl kt) ?_
  show Go p e below _ (s₁.setTop (mkF m 1 #[.val (.ref a)] [(.ref a)]))
  obtain ⟨T1, X1, e1, st1⟩ := getF X0 hx hZ hown (host := "") (Or.inl (hw _ (List.mem_of_getElem? (i := 46) rfl))) Via.refl e0 F_x (g := (mkF m 1 #[.val (.ref a)] [(.ref a)])) rfl rfl (hb hby d6_1)
  refine Go.st st1 ?_
  show Go p e below _ (T1.setTop (mkF m 4 #[.val (.ref a)] [(.long x)]))
  refine Go.retL X1 hx Bd.returns (BodyLoose.notSynchronized Bd) (hb hby d6_4) (Q := (Q_rm6 Z a x h0 n0)) (by decide) (by decide) ?_
  show (Q_rm6 Z a x h0 n0) _ T1.heap _
  rw [e1]
  exact ⟨rfl, N0, rfl⟩
theorem d7_0 : decode prog_49_method_4_code 0 = .ok (.aload_n 0, 1) := by decide +kernel
theorem d7_1 : decode prog_49_method_4_code 1 = .ok (.getfield 26, 3) := by decide +kernel
theorem d7_4 : decode prog_49_method_4_code 4 = .ok (.lreturn, 1) := by decide +kernel
def Q_rm7 (Z : State) (a : Addr) (x : Int64) (h0 : Heap) (n0 : Nat) (v : Option Value) (h : Heap) (L : List Loc) : Prop := v = some (.long x) ∧ Fr n0 L ∧ h = h0
theorem ef_rm7 (m : MethodId) (a : Addr) : entryFrame m #[(.ref a)] 1 = mkF m 0 #[.val (.ref a)] [] := by first | (simp [entryFrame, mkF, argsToLocals, Value.category]; done) | rfl
set_option maxRecDepth 65536 in
set_option maxHeartbeats 40000000 in
theorem rm7 (l : Launch) (Z : State) (a0 : Array Value) (hw : ∀ d ∈ tables_1, d.before a0 Z = true) (ws : List Jvm.Cond) (a : Addr) (x : Int64) (h0 : Heap) (n0 : Nat) (Z0 : n0 ≤ h0.size) (F_x : Fld Z h0 a "com/example/manyhands/manyhands/crowd/Tally" "distinct" "J" (.long x)) :
    MetFree l (⟨"com/example/manyhands/manyhands/crowd/Tally", "distinct", "()J"⟩ : MethodName) (head1 (Jvm.Cond.code (⟨"com/example/manyhands/manyhands/crowd/Tally", "distinct", "()J"⟩ : MethodName) prog_49_method_4_code 1 (some .long) :: ws) ({ frames := 0, cells := 0, slots := 0, locals := 0 } : Room)) (fun ag_ U_ => ag_ = #[(.ref a)] ∧ Z.Warmed39 U_.vm ∧ U_.heap = h0) (fun _ _ _ _ _ => True) (fun _ U_ o_ V_ => ∃ v_ L_, o_ = .returned v_ ∧ (Q_rm7 Z a x h0 n0) v_ V_.heap L_ ∧ FrameEnd U_ o_ V_ L_ ({ frames := 0, cells := 0, slots := 0, locals := 0 } : Room).cells ({ frames := 0, cells := 0, slots := 0, locals := 0 } : Room).slots) := by
  refine MetFree.of_bodySF (plainFor_of_name own_pn4) hisR ?_
  intro p e s m args below meth c s₁ Bd hml0 hP hK
  obtain ⟨rfl, hZ, hh⟩ := hP
  have hx := Bd.exec
  have hby := Bd.bytes
  have hml : c.maxLocals = 1 := hml0
  have hown : s.vm.findClass "com/example/manyhands/manyhands/crowd/Tally" = some m.cls := findClass_of_methodNamed Bd.named
  have hnm := (name_of_methodNamed Bd.named Bd.method).1
  have X0 : Stand p l e ({ frames := 0, cells := 0, slots := 0, locals := 0 } : Room) s m #[(.ref a)] below meth c s₁ [] 0 0 := Stand.of_body Bd
  have e0 : s₁.heap = h0 := by rw [← hh, Bd.state]; rfl
  have N0 := Fr.nil n0
  refine Go.st (G := fun s₂ o_ => ∃ v_ L_, o_ = .returned v_ ∧ (Q_rm7 Z a x h0 n0) v_ s₂.heap L_ ∧ FrameEnd s o_ s₂ L_ ({ frames := 0, cells := 0, slots := 0, locals := 0 } : Room).cells ({ frames := 0, cells := 0, slots := 0, locals := 0 } : Room).slots) (fun t kt => castTop (ef_rm7 m a) kt) ?_
  show Go p e below _ (s₁.setTop (mkF m 0 #[.val (.ref a)] []))
  refine Go.st (fun _ kt => XS.aloadN X0.here hx rfl (hb hby d7_0) rfl rfl kt) ?_
  show Go p e below _ (s₁.setTop (mkF m 1 #[.val (.ref a)] [(.ref a)]))
  obtain ⟨T1, X1, e1, st1⟩ := getF X0 hx hZ hown (host := "") (Or.inl (hw _ (List.mem_of_getElem? (i := 53) rfl))) Via.refl e0 F_x (g := (mkF m 1 #[.val (.ref a)] [(.ref a)])) rfl rfl (hb hby d7_1)
  refine Go.st st1 ?_
  show Go p e below _ (T1.setTop (mkF m 4 #[.val (.ref a)] [(.long x)]))
  refine Go.retL X1 hx Bd.returns (BodyLoose.notSynchronized Bd) (hb hby d7_4) (Q := (Q_rm7 Z a x h0 n0)) (by decide) (by decide) ?_
  show (Q_rm7 Z a x h0 n0) _ T1.heap _
  rw [e1]
  exact ⟨rfl, N0, rfl⟩
theorem d8_0 : decode prog_49_method_11_code 0 = .ok (.aload_n 0, 1) := by decide +kernel
theorem d8_1 : decode prog_49_method_11_code 1 = .ok (.dup, 1) := by decide +kernel
theorem d8_2 : decode prog_49_method_11_code 2 = .ok (.getfield 22, 3) := by decide +kernel
theorem d8_5 : decode prog_49_method_11_code 5 = .ok (.lload_n 1, 1) := by decide +kernel
theorem d8_6 : decode prog_49_method_11_code 6 = .ok (.ladd, 1) := by decide +kernel
theorem d8_7 : decode prog_49_method_11_code 7 = .ok (.putfield 22, 3) := by decide +kernel
theorem d8_10 : decode prog_49_method_11_code 10 = .ok (.aload_n 0, 1) := by decide +kernel
theorem d8_11 : decode prog_49_method_11_code 11 = .ok (.dup, 1) := by decide +kernel
theorem d8_12 : decode prog_49_method_11_code 12 = .ok (.getfield 26, 3) := by decide +kernel
theorem d8_15 : decode prog_49_method_11_code 15 = .ok (.lload_n 3, 1) := by decide +kernel
theorem d8_16 : decode prog_49_method_11_code 16 = .ok (.ladd, 1) := by decide +kernel
theorem d8_17 : decode prog_49_method_11_code 17 = .ok (.putfield 26, 3) := by decide +kernel
theorem d8_20 : decode prog_49_method_11_code 20 = .ok (.return_, 1) := by decide +kernel
def Q_rm8 (Z : State) (a : Addr) (p1 : Int64) (q1 : Int64) (x : Int64) (y : Int64) (h0 : Heap) (n0 : Nat) (v : Option Value) (h : Heap) (L : List Loc) : Prop := v = none ∧ Fr n0 L ∧ Keep h0 h [a] ∧ Fld Z h a "com/example/manyhands/manyhands/crowd/Tally" "questions" "J" (.long (x + p1)) ∧ Fld Z h a "com/example/manyhands/manyhands/crowd/Tally" "distinct" "J" (.long (y + q1))
theorem ef_rm8 (m : MethodId) (a : Addr) (p1 : Int64) (q1 : Int64) : entryFrame m #[(.ref a), (.long p1), (.long q1)] 5 = mkF m 0 #[.val (.ref a), .val (.long p1), .second, .val (.long q1), .second] [] := by first | (simp [entryFrame, mkF, argsToLocals, Value.category]; done) | rfl
set_option maxRecDepth 65536 in
set_option maxHeartbeats 40000000 in
theorem rm8 (l : Launch) (Z : State) (a0 : Array Value) (hw : ∀ d ∈ tables_1, d.before a0 Z = true) (ws : List Jvm.Cond) (a : Addr) (p1 : Int64) (q1 : Int64) (x : Int64) (y : Int64) (h0 : Heap) (n0 : Nat) (Z0 : n0 ≤ h0.size) (E_a : Exa Z h0 a "com/example/manyhands/manyhands/crowd/Tally") (F_q : Fld Z h0 a "com/example/manyhands/manyhands/crowd/Tally" "questions" "J" (.long x)) (F_d : Fld Z h0 a "com/example/manyhands/manyhands/crowd/Tally" "distinct" "J" (.long y)) (gn_a : n0 ≤ a) :
    MetFree l (⟨"com/example/manyhands/manyhands/crowd/Tally", "count", "(JJ)V"⟩ : MethodName) (head1 (Jvm.Cond.code (⟨"com/example/manyhands/manyhands/crowd/Tally", "count", "(JJ)V"⟩ : MethodName) prog_49_method_11_code 5 none :: ws) ({ frames := 0, cells := 0, slots := 0, locals := 0 } : Room)) (fun ag_ U_ => ag_ = #[(.ref a), (.long p1), (.long q1)] ∧ Z.Warmed39 U_.vm ∧ U_.heap = h0) (fun _ _ _ _ _ => True) (fun _ U_ o_ V_ => ∃ v_ L_, o_ = .returned v_ ∧ (Q_rm8 Z a p1 q1 x y h0 n0) v_ V_.heap L_ ∧ FrameEnd U_ o_ V_ L_ ({ frames := 0, cells := 0, slots := 0, locals := 0 } : Room).cells ({ frames := 0, cells := 0, slots := 0, locals := 0 } : Room).slots) := by
  refine MetFree.of_bodySF (plainFor_of_name own_pn4) hisR ?_
  intro p e s m args below meth c s₁ Bd hml0 hP hK
  obtain ⟨rfl, hZ, hh⟩ := hP
  have hx := Bd.exec
  have hby := Bd.bytes
  have hml : c.maxLocals = 5 := hml0
  have hown : s.vm.findClass "com/example/manyhands/manyhands/crowd/Tally" = some m.cls := findClass_of_methodNamed Bd.named
  have hnm := (name_of_methodNamed Bd.named Bd.method).1
  have X0 : Stand p l e ({ frames := 0, cells := 0, slots := 0, locals := 0 } : Room) s m #[(.ref a), (.long p1), (.long q1)] below meth c s₁ [] 0 0 := Stand.of_body Bd
  have e0 : s₁.heap = h0 := by rw [← hh, Bd.state]; rfl
  have N0 := Fr.nil n0
  refine Go.st (G := fun s₂ o_ => ∃ v_ L_, o_ = .returned v_ ∧ (Q_rm8 Z a p1 q1 x y h0 n0) v_ s₂.heap L_ ∧ FrameEnd s o_ s₂ L_ ({ frames := 0, cells := 0, slots := 0, locals := 0 } : Room).cells ({ frames := 0, cells := 0, slots := 0, locals := 0 } : Room).slots) (fun t kt => castTop (ef_rm8 m a p1 q1) kt) ?_
  show Go p e below _ (s₁.setTop (mkF m 0 #[.val (.ref a), .val (.long p1), .second, .val (.long q1), .second] []))
  refine Go.st (fun _ kt => XS.aloadN X0.here hx rfl (hb hby d8_0) rfl rfl kt) ?_
  show Go p e below _ (s₁.setTop (mkF m 1 #[.val (.ref a), .val (.long p1), .second, .val (.long q1), .second] [(.ref a)]))
  refine Go.st (fun _ kt => XS.dup X0.here hx rfl (hb hby d8_1) rfl rfl kt) ?_
  show Go p e below _ (s₁.setTop (mkF m 2 #[.val (.ref a), .val (.long p1), .second, .val (.long q1), .second] [(.ref a), (.ref a)]))
  obtain ⟨T1, X1, e1, st1⟩ := getF X0 hx hZ hown (host := "") (Or.inl (hw _ (List.mem_of_getElem? (i := 46) rfl))) Via.refl e0 F_q (g := (mkF m 2 #[.val (.ref a), .val (.long p1), .second, .val (.long q1), .second] [(.ref a), (.ref a)])) rfl rfl (hb hby d8_2)
  refine Go.st st1 ?_
  show Go p e below _ (T1.setTop (mkF m 5 #[.val (.ref a), .val (.long p1), .second, .val (.long q1), .second] [(.long x), (.ref a)]))
  refine Go.st (fun _ kt => XS.lloadN X1.here hx rfl (hb hby d8_5) rfl kt) ?_
  show Go p e below _ (T1.setTop (mkF m 6 #[.val (.ref a), .val (.long p1), .second, .val (.long q1), .second] [(.long p1), (.long x), (.ref a)]))
  refine Go.st (fun _ kt => XS.ladd X1.here hx rfl (hb hby d8_6) rfl kt) ?_
  show Go p e below _ (T1.setTop (mkF m 7 #[.val (.ref a), .val (.long p1), .second, .val (.long q1), .second] [(.long (x + p1)), (.ref a)]))
  obtain ⟨T2, h2, X2, e2, W2, st2⟩ := putF X1 hx hZ hown (host := "") (Or.inl (hw _ (List.mem_of_getElem? (i := 46) rfl))) Via.refl e1 F_q E_a (Or.inl (hw _ (List.mem_of_getElem? (i := 47) rfl))) (hw _ (List.mem_of_getElem? (i := 1) rfl)) (ty := .long) (by decide) rfl rfl (g := (mkF m 7 #[.val (.ref a), .val (.long p1), .second, .val (.long q1), .second] [(.long (x + p1)), (.ref a)])) rfl rfl (hb hby d8_7)
  refine Go.st st2 ?_
  have Fw2 := F_q.same W2
  have Zs2 : n0 ≤ h2.size := Nat.le_trans Z0 (Nat.le_of_eq W2.size.symm)
  have N2 := Fr.snoc X2 N0 gn_a
  have K2 : Keep h0 h2 [a] := (Keep.refl h0 [a]).wr W2 (Or.inl (List.mem_of_getElem? (i := 0) rfl))
  show Go p e below _ (T2.setTop (mkF m 10 #[.val (.ref a), .val (.long p1), .second, .val (.long q1), .second] []))
  refine Go.st (fun _ kt => XS.aloadN X2.here hx rfl (hb hby d8_10) rfl rfl kt) ?_
  show Go p e below _ (T2.setTop (mkF m 11 #[.val (.ref a), .val (.long p1), .second, .val (.long q1), .second] [(.ref a)]))
  refine Go.st (fun _ kt => XS.dup X2.here hx rfl (hb hby d8_11) rfl rfl kt) ?_
  show Go p e below _ (T2.setTop (mkF m 12 #[.val (.ref a), .val (.long p1), .second, .val (.long q1), .second] [(.ref a), (.ref a)]))
  have f3 := (F_d.other W2 (Or.inr (slot_ne (Or.inl (hw _ (List.mem_of_getElem? (i := 54) rfl))) (Or.inl (hw _ (List.mem_of_getElem? (i := 47) rfl))) (by decide) (t := .long) (t' := .long) (by decide) (by decide))))
  obtain ⟨T4, X4, e4, st4⟩ := getF X2 hx hZ hown (host := "") (Or.inl (hw _ (List.mem_of_getElem? (i := 53) rfl))) Via.refl e2 f3 (g := (mkF m 12 #[.val (.ref a), .val (.long p1), .second, .val (.long q1), .second] [(.ref a), (.ref a)])) rfl rfl (hb hby d8_12)
  refine Go.st st4 ?_
  show Go p e below _ (T4.setTop (mkF m 15 #[.val (.ref a), .val (.long p1), .second, .val (.long q1), .second] [(.long y), (.ref a)]))
  refine Go.st (fun _ kt => XS.lloadN X4.here hx rfl (hb hby d8_15) rfl kt) ?_
  show Go p e below _ (T4.setTop (mkF m 16 #[.val (.ref a), .val (.long p1), .second, .val (.long q1), .second] [(.long q1), (.long y), (.ref a)]))
  refine Go.st (fun _ kt => XS.ladd X4.here hx rfl (hb hby d8_16) rfl kt) ?_
  show Go p e below _ (T4.setTop (mkF m 17 #[.val (.ref a), .val (.long p1), .second, .val (.long q1), .second] [(.long (y + q1)), (.ref a)]))
  have f5 := (E_a.wr W2)
  obtain ⟨T6, h6, X6, e6, W6, st6⟩ := putF X4 hx hZ hown (host := "") (Or.inl (hw _ (List.mem_of_getElem? (i := 53) rfl))) Via.refl e4 f3 f5 (Or.inl (hw _ (List.mem_of_getElem? (i := 54) rfl))) (hw _ (List.mem_of_getElem? (i := 1) rfl)) (ty := .long) (by decide) rfl rfl (g := (mkF m 17 #[.val (.ref a), .val (.long p1), .second, .val (.long q1), .second] [(.long (y + q1)), (.ref a)])) rfl rfl (hb hby d8_17)
  refine Go.st st6 ?_
  have Fw6 := f3.same W6
  have Zs6 : n0 ≤ h6.size := Nat.le_trans Zs2 (Nat.le_of_eq W6.size.symm)
  have N6 := Fr.snoc X6 N2 gn_a
  have K6 : Keep h0 h6 [a] := K2.wr W6 (Or.inl (List.mem_of_getElem? (i := 0) rfl))
  show Go p e below _ (T6.setTop (mkF m 20 #[.val (.ref a), .val (.long p1), .second, .val (.long q1), .second] []))
  have f7 := (Fw2.other W6 (Or.inr (slot_ne (Or.inl (hw _ (List.mem_of_getElem? (i := 47) rfl))) (Or.inl (hw _ (List.mem_of_getElem? (i := 54) rfl))) (by decide) (t := .long) (t' := .long) (by decide) (by decide))))
  refine Go.retV X6 hx Bd.returns (BodyLoose.notSynchronized Bd) (hb hby d8_20) (Q := (Q_rm8 Z a p1 q1 x y h0 n0)) (by decide) (by decide) ?_
  show (Q_rm8 Z a p1 q1 x y h0 n0) _ T6.heap _
  rw [e6]
  exact ⟨rfl, N6, K6, f7, Fw6⟩
theorem own_pd5 : parseMethodDescriptor "()J" = some ⟨[], some .long⟩ := by decide +kernel
theorem own_pd6 : parseMethodDescriptor "(JJ)V" = some ⟨[.long, .long], none⟩ := by decide +kernel
theorem own_pn7 : plainName "com/example/manyhands/manyhands/crowd/TallyCountPinLaw" = true := by first | (simp [plainName, overriddenIn]; done) | decide +kernel
def Q_rm0 (Z : State) (i : Int64) (j : Int64) (k : Int64) (o : Int64) (h0 : Heap) (n0 : Nat) (v : Option Value) (h : Heap) (L : List Loc) : Prop := v = some (.int 1) ∧ Fr n0 L
theorem ef_rm0 (m : MethodId) (i : Int64) (j : Int64) (k : Int64) (o : Int64) : entryFrame m #[(.long i), (.long j), (.long k), (.long o)] maxLocals = mkF m 0 #[.val (.long i), .second, .val (.long j), .second, .val (.long k), .second, .val (.long o), .second, .unset, .unset, .unset, .unset, .unset, .unset, .unset, .unset] [] := by first | (simp [entryFrame, mkF, argsToLocals, Value.category, maxLocals]; done) | rfl
set_option maxRecDepth 65536 in
set_option maxHeartbeats 40000000 in
theorem rm0 (l : Launch) (Z : State) (a0 : Array Value) (hw : ∀ d ∈ tables_1, d.before a0 Z = true) (ws : List Jvm.Cond) (i : Int64) (j : Int64) (k : Int64) (o : Int64) (h0 : Heap) (n0 : Nat) (Z0 : n0 ≤ h0.size) :
    MetFree l x (head1 (Jvm.Cond.code x code maxLocals ret :: ws) room_1) (fun ag_ U_ => ag_ = #[(.long i), (.long j), (.long k), (.long o)] ∧ Z.Warmed39 U_.vm ∧ U_.heap = h0) (fun _ _ _ _ _ => True) (fun _ U_ o_ V_ => ∃ v_ L_, o_ = .returned v_ ∧ (Q_rm0 Z i j k o h0 n0) v_ V_.heap L_ ∧ FrameEnd U_ o_ V_ L_ room_1.cells room_1.slots) := by
  refine MetFree.of_bodySF (plainFor_of_name own_pn7) hisR ?_
  intro p e s m args below meth c s₁ Bd hml0 hP hK
  obtain ⟨rfl, hZ, hh⟩ := hP
  have hx := Bd.exec
  have hby := Bd.bytes
  have hml : c.maxLocals = 16 := hml0
  have hown : s.vm.findClass "com/example/manyhands/manyhands/crowd/TallyCountPinLaw" = some m.cls := findClass_of_methodNamed Bd.named
  have hnm := (name_of_methodNamed Bd.named Bd.method).1
  have X0 : Stand p l e room_1 s m #[(.long i), (.long j), (.long k), (.long o)] below meth c s₁ [] 0 0 := Stand.of_body Bd
  have e0 : s₁.heap = h0 := by rw [← hh, Bd.state]; rfl
  have N0 := Fr.nil n0
  refine Go.st (G := fun s₂ o_ => ∃ v_ L_, o_ = .returned v_ ∧ (Q_rm0 Z i j k o h0 n0) v_ s₂.heap L_ ∧ FrameEnd s o_ s₂ L_ room_1.cells room_1.slots) (fun t kt => castTop (ef_rm0 m i j k o) kt) ?_
  show Go p e below _ (s₁.setTop (mkF m 0 #[.val (.long i), .second, .val (.long j), .second, .val (.long k), .second, .val (.long o), .second, .unset, .unset, .unset, .unset, .unset, .unset, .unset, .unset] []))
  obtain ⟨T1, h1, X1, e1, E1, A1, D1, U1, st1⟩ := newO X0 hx hZ hown (hw _ (List.mem_of_getElem? (i := 0) rfl)) (hw _ (List.mem_of_getElem? (i := 1) rfl)) (hw _ (List.mem_of_getElem? (i := 2) rfl)) e0 (g := (mkF m 0 #[.val (.long i), .second, .val (.long j), .second, .val (.long k), .second, .val (.long o), .second, .unset, .unset, .unset, .unset, .unset, .unset, .unset, .unset] [])) rfl (hb hby at_0) (by decide) (by decide)
  obtain ⟨b1, g1⟩ : ∃ z, z = h0.size := ⟨_, rfl⟩
  rw [← g1] at A1 D1 U1 st1
  have gn_b1 : n0 ≤ b1 := Nat.le_trans Z0 (Nat.le_of_eq g1.symm)
  have Zs1 : n0 ≤ h1.size := Nat.le_trans Z0 E1.1
  refine Go.st st1 ?_
  have F1_values : Fld Z h1 b1 "com/example/manyhands/manyhands/crowd/Tally" "values" "Ljava/util/Map;" .null := D1 (Or.inr (hw _ (List.mem_of_getElem? (i := 36) rfl))) (ty := (.object "java/util/Map")) (by decide)
  have F1_records : Fld Z h1 b1 "com/example/manyhands/manyhands/crowd/Tally" "records" "Ljava/util/Map;" .null := D1 (Or.inr (hw _ (List.mem_of_getElem? (i := 38) rfl))) (ty := (.object "java/util/Map")) (by decide)
  have F1_cells : Fld Z h1 b1 "com/example/manyhands/manyhands/crowd/Tally" "cells" "Ljava/util/Map;" .null := D1 (Or.inr (hw _ (List.mem_of_getElem? (i := 40) rfl))) (ty := (.object "java/util/Map")) (by decide)
  have F1_questions : Fld Z h1 b1 "com/example/manyhands/manyhands/crowd/Tally" "questions" "J" (.long (0 : Int64)) := D1 (Or.inl (hw _ (List.mem_of_getElem? (i := 47) rfl))) (ty := .long) (by decide)
  have F1_distinct : Fld Z h1 b1 "com/example/manyhands/manyhands/crowd/Tally" "distinct" "J" (.long (0 : Int64)) := D1 (Or.inl (hw _ (List.mem_of_getElem? (i := 54) rfl))) (ty := .long) (by decide)
  show Go p e below _ (T1.setTop (mkF m 3 #[.val (.long i), .second, .val (.long j), .second, .val (.long k), .second, .val (.long o), .second, .unset, .unset, .unset, .unset, .unset, .unset, .unset, .unset] [(.ref b1)]))
  refine Go.st (fun _ kt => XS.dup X1.here hx rfl (hb hby at_3) rfl rfl kt) ?_
  show Go p e below _ (T1.setTop (mkF m 4 #[.val (.long i), .second, .val (.long j), .second, .val (.long k), .second, .val (.long o), .second, .unset, .unset, .unset, .unset, .unset, .unset, .unset, .unset] [(.ref b1), (.ref b1)]))
  obtain ⟨_, _, ⟨T2, L2, k2, n2⟩, -, X2, ⟨Lc2, hQ2, l2, y2, z2⟩, st2⟩ := X1.specialBack hx (y := (⟨"com/example/manyhands/manyhands/crowd/Tally", "<init>", "()V"⟩ : MethodName)) rfl hown (mvT hZ (hw _ (List.mem_of_getElem? (i := 3) rfl))) (mvT hZ (hw _ (List.mem_of_getElem? (i := 4) rfl))) (mvT hZ (hw _ (List.mem_of_getElem? (i := 5) rfl))) (by decide) (backOf (W := 1) (rm1 l Z a0 hw [] b1 h1 n0 Zs1 A1 F1_values F1_records F1_cells F1_questions F1_distinct gn_b1) hZ (hw _ (List.mem_of_getElem? (i := 5) rfl)) (hw _ (List.mem_of_getElem? (i := 2) rfl)) (by decide) (by decide)) (g := (mkF m 4 #[.val (.long i), .second, .val (.long j), .second, .val (.long k), .second, .val (.long o), .second, .unset, .unset, .unset, .unset, .unset, .unset, .unset, .unset] [(.ref b1), (.ref b1)])) rfl (by rw [hml]; rfl) (Steps.refl _) (a := b1) (argsL := []) (rest := [(.ref b1)]) (lenOf own_pd1 rfl) rfl (by show 2 * 0 + _ ≤ _; exact Nat.le_of_eq rfl) (hb hby at_4) (fun _ _ => ⟨rfl, e1, (by decide : 1 + 3 ≤ _), (by decide : 5 + 36 ≤ _)⟩)
  dsimp only [Pt.U, Pt.locs, Pt.cells, Pt.slots] at X2 l2 y2 z2 st2 hQ2
  subst l2 y2 z2
  obtain ⟨rfl, N2q, K2q, G2_0, G2_1⟩ := hQ2
  have Zs2 : n0 ≤ T2.heap.size := Nat.le_trans Zs1 K2q.1
  have N2 := Fr.app N0 N2q
  refine Go.tr st2 ?_
  show Go p e below _ (T2.setTop (mkF m 7 #[.val (.long i), .second, .val (.long j), .second, .val (.long k), .second, .val (.long o), .second, .unset, .unset, .unset, .unset, .unset, .unset, .unset, .unset] [(.ref b1)]))
  refine Go.st (fun _ kt => XS.astore X2.here hx rfl (hb hby at_7) rfl rfl (l' := #[.val (.long i), .second, .val (.long j), .second, .val (.long k), .second, .val (.long o), .second, .val (.ref b1), .unset, .unset, .unset, .unset, .unset, .unset, .unset]) rfl kt) ?_
  show Go p e below _ (T2.setTop (mkF m 9 #[.val (.long i), .second, .val (.long j), .second, .val (.long k), .second, .val (.long o), .second, .val (.ref b1), .unset, .unset, .unset, .unset, .unset, .unset, .unset] []))
  refine Go.st (fun _ kt => XS.aload X2.here hx rfl (hb hby at_9) rfl rfl kt) ?_
  show Go p e below _ (T2.setTop (mkF m 11 #[.val (.long i), .second, .val (.long j), .second, .val (.long k), .second, .val (.long o), .second, .val (.ref b1), .unset, .unset, .unset, .unset, .unset, .unset, .unset] [(.ref b1)]))
  have f4 := (A1.keep K2q)
  obtain ⟨cq3, kq3, q3a, q3b, q3c⟩ := isOf hZ rfl f4
  obtain ⟨_, _, ⟨T3, L3, k3, n3⟩, -, X3, ⟨Lc3, hQ3, l3, y3, z3⟩, st3⟩ := X2.virtualBack hx (y := (⟨"com/example/manyhands/manyhands/crowd/Tally", "questions", "()J"⟩ : MethodName)) (z := (⟨"com/example/manyhands/manyhands/crowd/Tally", "questions", "()J"⟩ : MethodName)) hown (mvT hZ (hw _ (List.mem_of_getElem? (i := 41) rfl))) (mvT hZ (hw _ (List.mem_of_getElem? (i := 42) rfl))) (notFace_of_selects (args := #[]) (mvT hZ (hw _ (List.mem_of_getElem? (i := 44) rfl)))) (mvT hZ (hw _ (List.mem_of_getElem? (i := 44) rfl))) (mvT hZ (hw _ (List.mem_of_getElem? (i := 43) rfl))) (by decide) (backOf (W := 0) (rm6 l Z a0 hw [] b1 (0 : Int64) T2.heap n0 Zs2 G2_0) hZ (hw _ (List.mem_of_getElem? (i := 45) rfl)) (hw _ (List.mem_of_getElem? (i := 2) rfl)) (by decide) (by decide)) q3a q3c (g := (mkF m 11 #[.val (.long i), .second, .val (.long j), .second, .val (.long k), .second, .val (.long o), .second, .val (.ref b1), .unset, .unset, .unset, .unset, .unset, .unset, .unset] [(.ref b1)])) rfl (by rw [hml]; rfl) (Steps.refl _) (argsL := []) (rest := []) (lenOf own_pd5 rfl) rfl (by show 2 * 0 + _ ≤ _; exact Nat.le_of_eq rfl) (hb hby at_11) (fun _ _ => ⟨rfl, rfl, (by decide : 4 + 0 ≤ _), (by decide : 41 + 0 ≤ _)⟩)
  dsimp only [Pt.U, Pt.locs, Pt.cells, Pt.slots] at X3 l3 y3 z3 st3 hQ3
  subst l3 y3 z3
  obtain ⟨rfl, N3q, e3⟩ := hQ3
  have N3 := Fr.app N2 N3q
  refine Go.tr st3 ?_
  show Go p e below _ (T3.setTop (mkF m 14 #[.val (.long i), .second, .val (.long j), .second, .val (.long k), .second, .val (.long o), .second, .val (.ref b1), .unset, .unset, .unset, .unset, .unset, .unset, .unset] [(.long (0 : Int64))]))
  refine Go.st (fun _ kt => XS.lconst X3.here hx rfl (hb hby at_14) kt) ?_
  show Go p e below _ (T3.setTop (mkF m 15 #[.val (.long i), .second, .val (.long j), .second, .val (.long k), .second, .val (.long o), .second, .val (.ref b1), .unset, .unset, .unset, .unset, .unset, .unset, .unset] [(.long (0 : Int64)), (.long (0 : Int64))]))
  refine Go.st (fun _ kt => XS.lcmp X3.here hx rfl (hb hby at_15) rfl kt) ?_
  show Go p e below _ (T3.setTop (mkF m 16 #[.val (.long i), .second, .val (.long j), .second, .val (.long k), .second, .val (.long o), .second, .val (.ref b1), .unset, .unset, .unset, .unset, .unset, .unset, .unset] [(.int (lcmpW (0 : Int64) (0 : Int64)))]))
  refine Go.st (fun _ kt => XS.ifNo X3.here hx rfl (hb hby at_16) rfl ((if0 _ _).trans (teq ((lw_eq _ _).mpr rfl)).2) kt) ?_
  show Go p e below _ (T3.setTop (mkF m 19 #[.val (.long i), .second, .val (.long j), .second, .val (.long k), .second, .val (.long o), .second, .val (.ref b1), .unset, .unset, .unset, .unset, .unset, .unset, .unset] []))
  refine Go.st (fun _ kt => XS.aload X3.here hx rfl (hb hby at_19) rfl rfl kt) ?_
  show Go p e below _ (T3.setTop (mkF m 21 #[.val (.long i), .second, .val (.long j), .second, .val (.long k), .second, .val (.long o), .second, .val (.ref b1), .unset, .unset, .unset, .unset, .unset, .unset, .unset] [(.ref b1)]))
  obtain ⟨cq5, kq5, q5a, q5b, q5c⟩ := isOf hZ e3 f4
  obtain ⟨_, _, ⟨T5, L5, k5, n5⟩, -, X5, ⟨Lc5, hQ5, l5, y5, z5⟩, st5⟩ := X3.virtualBack hx (y := (⟨"com/example/manyhands/manyhands/crowd/Tally", "distinct", "()J"⟩ : MethodName)) (z := (⟨"com/example/manyhands/manyhands/crowd/Tally", "distinct", "()J"⟩ : MethodName)) hown (mvT hZ (hw _ (List.mem_of_getElem? (i := 48) rfl))) (mvT hZ (hw _ (List.mem_of_getElem? (i := 49) rfl))) (notFace_of_selects (args := #[]) (mvT hZ (hw _ (List.mem_of_getElem? (i := 51) rfl)))) (mvT hZ (hw _ (List.mem_of_getElem? (i := 51) rfl))) (mvT hZ (hw _ (List.mem_of_getElem? (i := 50) rfl))) (by decide) (backOf (W := 0) (rm7 l Z a0 hw [] b1 (0 : Int64) T2.heap n0 Zs2 G2_1) hZ (hw _ (List.mem_of_getElem? (i := 52) rfl)) (hw _ (List.mem_of_getElem? (i := 2) rfl)) (by decide) (by decide)) q5a q5c (g := (mkF m 21 #[.val (.long i), .second, .val (.long j), .second, .val (.long k), .second, .val (.long o), .second, .val (.ref b1), .unset, .unset, .unset, .unset, .unset, .unset, .unset] [(.ref b1)])) rfl (by rw [hml]; rfl) (Steps.refl _) (argsL := []) (rest := []) (lenOf own_pd5 rfl) rfl (by show 2 * 0 + _ ≤ _; exact Nat.le_of_eq rfl) (hb hby at_21) (fun _ _ => ⟨rfl, e3, (by decide : 4 + 0 ≤ _), (by decide : 41 + 0 ≤ _)⟩)
  dsimp only [Pt.U, Pt.locs, Pt.cells, Pt.slots] at X5 l5 y5 z5 st5 hQ5
  subst l5 y5 z5
  obtain ⟨rfl, N5q, e5⟩ := hQ5
  have N5 := Fr.app N3 N5q
  refine Go.tr st5 ?_
  show Go p e below _ (T5.setTop (mkF m 24 #[.val (.long i), .second, .val (.long j), .second, .val (.long k), .second, .val (.long o), .second, .val (.ref b1), .unset, .unset, .unset, .unset, .unset, .unset, .unset] [(.long (0 : Int64))]))
  refine Go.st (fun _ kt => XS.lconst X5.here hx rfl (hb hby at_24) kt) ?_
  show Go p e below _ (T5.setTop (mkF m 25 #[.val (.long i), .second, .val (.long j), .second, .val (.long k), .second, .val (.long o), .second, .val (.ref b1), .unset, .unset, .unset, .unset, .unset, .unset, .unset] [(.long (0 : Int64)), (.long (0 : Int64))]))
  refine Go.st (fun _ kt => XS.lcmp X5.here hx rfl (hb hby at_25) rfl kt) ?_
  show Go p e below _ (T5.setTop (mkF m 26 #[.val (.long i), .second, .val (.long j), .second, .val (.long k), .second, .val (.long o), .second, .val (.ref b1), .unset, .unset, .unset, .unset, .unset, .unset, .unset] [(.int (lcmpW (0 : Int64) (0 : Int64)))]))
  refine Go.st (fun _ kt => XS.ifNo X5.here hx rfl (hb hby at_26) rfl ((if0 _ _).trans (teq ((lw_eq _ _).mpr rfl)).2) kt) ?_
  show Go p e below _ (T5.setTop (mkF m 29 #[.val (.long i), .second, .val (.long j), .second, .val (.long k), .second, .val (.long o), .second, .val (.ref b1), .unset, .unset, .unset, .unset, .unset, .unset, .unset] []))
  refine Go.st (fun _ kt => XS.iconst X5.here hx rfl (hb hby at_29) kt) ?_
  show Go p e below _ (T5.setTop (mkF m 30 #[.val (.long i), .second, .val (.long j), .second, .val (.long k), .second, .val (.long o), .second, .val (.ref b1), .unset, .unset, .unset, .unset, .unset, .unset, .unset] [(.int (1 : Int32))]))
  refine Go.st (fun _ kt => XS.goto X5.here hx rfl (pc0 := 30) (pc' := 34) rfl (hb hby at_30) (by decide) (by decide) kt) ?_
  show Go p e below _ (T5.setTop (mkF m 34 #[.val (.long i), .second, .val (.long j), .second, .val (.long k), .second, .val (.long o), .second, .val (.ref b1), .unset, .unset, .unset, .unset, .unset, .unset, .unset] [(.int (1 : Int32))]))
  refine Go.st (fun _ kt => XS.istore X5.here hx rfl (hb hby at_34) rfl (l' := #[.val (.long i), .second, .val (.long j), .second, .val (.long k), .second, .val (.long o), .second, .val (.ref b1), .val (.int (1 : Int32)), .unset, .unset, .unset, .unset, .unset, .unset]) rfl kt) ?_
  show Go p e below _ (T5.setTop (mkF m 36 #[.val (.long i), .second, .val (.long j), .second, .val (.long k), .second, .val (.long o), .second, .val (.ref b1), .val (.int (1 : Int32)), .unset, .unset, .unset, .unset, .unset, .unset] []))
  refine Go.st (fun _ kt => XS.aload X5.here hx rfl (hb hby at_36) rfl rfl kt) ?_
  show Go p e below _ (T5.setTop (mkF m 38 #[.val (.long i), .second, .val (.long j), .second, .val (.long k), .second, .val (.long o), .second, .val (.ref b1), .val (.int (1 : Int32)), .unset, .unset, .unset, .unset, .unset, .unset] [(.ref b1)]))
  refine Go.st (fun _ kt => XS.lloadN X5.here hx rfl (hb hby at_38) rfl kt) ?_
  show Go p e below _ (T5.setTop (mkF m 39 #[.val (.long i), .second, .val (.long j), .second, .val (.long k), .second, .val (.long o), .second, .val (.ref b1), .val (.int (1 : Int32)), .unset, .unset, .unset, .unset, .unset, .unset] [(.long i), (.ref b1)]))
  refine Go.st (fun _ kt => XS.lloadN X5.here hx rfl (hb hby at_39) rfl kt) ?_
  show Go p e below _ (T5.setTop (mkF m 40 #[.val (.long i), .second, .val (.long j), .second, .val (.long k), .second, .val (.long o), .second, .val (.ref b1), .val (.int (1 : Int32)), .unset, .unset, .unset, .unset, .unset, .unset] [(.long j), (.long i), (.ref b1)]))
  obtain ⟨cq6, kq6, q6a, q6b, q6c⟩ := isOf hZ e5 f4
  obtain ⟨_, _, ⟨T6, L6, k6, n6⟩, -, X6, ⟨Lc6, hQ6, l6, y6, z6⟩, st6⟩ := X5.virtualBack hx (y := (⟨"com/example/manyhands/manyhands/crowd/Tally", "count", "(JJ)V"⟩ : MethodName)) (z := (⟨"com/example/manyhands/manyhands/crowd/Tally", "count", "(JJ)V"⟩ : MethodName)) hown (mvT hZ (hw _ (List.mem_of_getElem? (i := 55) rfl))) (mvT hZ (hw _ (List.mem_of_getElem? (i := 56) rfl))) (notFace_of_selects (args := #[]) (mvT hZ (hw _ (List.mem_of_getElem? (i := 58) rfl)))) (mvT hZ (hw _ (List.mem_of_getElem? (i := 58) rfl))) (mvT hZ (hw _ (List.mem_of_getElem? (i := 57) rfl))) (by decide) (backOf (W := 0) (rm8 l Z a0 hw [] b1 i j (0 : Int64) (0 : Int64) T2.heap n0 Zs2 f4 G2_0 G2_1 gn_b1) hZ (hw _ (List.mem_of_getElem? (i := 59) rfl)) (hw _ (List.mem_of_getElem? (i := 2) rfl)) (by decide) (by decide)) q6a q6c (g := (mkF m 40 #[.val (.long i), .second, .val (.long j), .second, .val (.long k), .second, .val (.long o), .second, .val (.ref b1), .val (.int (1 : Int32)), .unset, .unset, .unset, .unset, .unset, .unset] [(.long j), (.long i), (.ref b1)])) rfl (by rw [hml]; rfl) (Steps.refl _) (argsL := [(.long i), (.long j)]) (rest := []) (lenOf own_pd6 rfl) rfl (by show 2 * 0 + _ ≤ _; exact Nat.le_of_eq rfl) (hb hby at_40) (fun _ _ => ⟨rfl, e5, (by decide : 4 + 0 ≤ _), (by decide : 41 + 0 ≤ _)⟩)
  dsimp only [Pt.U, Pt.locs, Pt.cells, Pt.slots] at X6 l6 y6 z6 st6 hQ6
  subst l6 y6 z6
  obtain ⟨rfl, N6q, K6q, G6_0, G6_1⟩ := hQ6
  have Zs6 : n0 ≤ T6.heap.size := Nat.le_trans Zs2 K6q.1
  have N6 := Fr.app N5 N6q
  refine Go.tr st6 ?_
  show Go p e below _ (T6.setTop (mkF m 43 #[.val (.long i), .second, .val (.long j), .second, .val (.long k), .second, .val (.long o), .second, .val (.ref b1), .val (.int (1 : Int32)), .unset, .unset, .unset, .unset, .unset, .unset] []))
  refine Go.st (fun _ kt => XS.aload X6.here hx rfl (hb hby at_43) rfl rfl kt) ?_
  show Go p e below _ (T6.setTop (mkF m 45 #[.val (.long i), .second, .val (.long j), .second, .val (.long k), .second, .val (.long o), .second, .val (.ref b1), .val (.int (1 : Int32)), .unset, .unset, .unset, .unset, .unset, .unset] [(.ref b1)]))
  have f8 := (f4.keep K6q)
  obtain ⟨cq7, kq7, q7a, q7b, q7c⟩ := isOf hZ rfl f8
  obtain ⟨_, _, ⟨T7, L7, k7, n7⟩, -, X7, ⟨Lc7, hQ7, l7, y7, z7⟩, st7⟩ := X6.virtualBack hx (y := (⟨"com/example/manyhands/manyhands/crowd/Tally", "questions", "()J"⟩ : MethodName)) (z := (⟨"com/example/manyhands/manyhands/crowd/Tally", "questions", "()J"⟩ : MethodName)) hown (mvT hZ (hw _ (List.mem_of_getElem? (i := 41) rfl))) (mvT hZ (hw _ (List.mem_of_getElem? (i := 42) rfl))) (notFace_of_selects (args := #[]) (mvT hZ (hw _ (List.mem_of_getElem? (i := 44) rfl)))) (mvT hZ (hw _ (List.mem_of_getElem? (i := 44) rfl))) (mvT hZ (hw _ (List.mem_of_getElem? (i := 43) rfl))) (by decide) (backOf (W := 0) (rm6 l Z a0 hw [] b1 ((0 : Int64) + i) T6.heap n0 Zs6 G6_0) hZ (hw _ (List.mem_of_getElem? (i := 45) rfl)) (hw _ (List.mem_of_getElem? (i := 2) rfl)) (by decide) (by decide)) q7a q7c (g := (mkF m 45 #[.val (.long i), .second, .val (.long j), .second, .val (.long k), .second, .val (.long o), .second, .val (.ref b1), .val (.int (1 : Int32)), .unset, .unset, .unset, .unset, .unset, .unset] [(.ref b1)])) rfl (by rw [hml]; rfl) (Steps.refl _) (argsL := []) (rest := []) (lenOf own_pd5 rfl) rfl (by show 2 * 0 + _ ≤ _; exact Nat.le_of_eq rfl) (hb hby at_45) (fun _ _ => ⟨rfl, rfl, (by decide : 4 + 0 ≤ _), (by decide : 41 + 0 ≤ _)⟩)
  dsimp only [Pt.U, Pt.locs, Pt.cells, Pt.slots] at X7 l7 y7 z7 st7 hQ7
  subst l7 y7 z7
  obtain ⟨rfl, N7q, e7⟩ := hQ7
  have N7 := Fr.app N6 N7q
  refine Go.tr st7 ?_
  show Go p e below _ (T7.setTop (mkF m 48 #[.val (.long i), .second, .val (.long j), .second, .val (.long k), .second, .val (.long o), .second, .val (.ref b1), .val (.int (1 : Int32)), .unset, .unset, .unset, .unset, .unset, .unset] [(.long ((0 : Int64) + i))]))
  refine Go.st (fun _ kt => XS.lloadN X7.here hx rfl (hb hby at_48) rfl kt) ?_
  show Go p e below _ (T7.setTop (mkF m 49 #[.val (.long i), .second, .val (.long j), .second, .val (.long k), .second, .val (.long o), .second, .val (.ref b1), .val (.int (1 : Int32)), .unset, .unset, .unset, .unset, .unset, .unset] [(.long i), (.long ((0 : Int64) + i))]))
  refine Go.st (fun _ kt => XS.lcmp X7.here hx rfl (hb hby at_49) rfl kt) ?_
  show Go p e below _ (T7.setTop (mkF m 50 #[.val (.long i), .second, .val (.long j), .second, .val (.long k), .second, .val (.long o), .second, .val (.ref b1), .val (.int (1 : Int32)), .unset, .unset, .unset, .unset, .unset, .unset] [(.int (lcmpW ((0 : Int64) + i) i))]))
  refine Go.st (fun _ kt => XS.ifNo X7.here hx rfl (hb hby at_50) rfl ((if0 _ _).trans (teq ((lw_eq _ _).mpr (Int64.zero_add _))).2) kt) ?_
  show Go p e below _ (T7.setTop (mkF m 53 #[.val (.long i), .second, .val (.long j), .second, .val (.long k), .second, .val (.long o), .second, .val (.ref b1), .val (.int (1 : Int32)), .unset, .unset, .unset, .unset, .unset, .unset] []))
  refine Go.st (fun _ kt => XS.aload X7.here hx rfl (hb hby at_53) rfl rfl kt) ?_
  show Go p e below _ (T7.setTop (mkF m 55 #[.val (.long i), .second, .val (.long j), .second, .val (.long k), .second, .val (.long o), .second, .val (.ref b1), .val (.int (1 : Int32)), .unset, .unset, .unset, .unset, .unset, .unset] [(.ref b1)]))
  obtain ⟨cq9, kq9, q9a, q9b, q9c⟩ := isOf hZ e7 f8
  obtain ⟨_, _, ⟨T9, L9, k9, n9⟩, -, X9, ⟨Lc9, hQ9, l9, y9, z9⟩, st9⟩ := X7.virtualBack hx (y := (⟨"com/example/manyhands/manyhands/crowd/Tally", "distinct", "()J"⟩ : MethodName)) (z := (⟨"com/example/manyhands/manyhands/crowd/Tally", "distinct", "()J"⟩ : MethodName)) hown (mvT hZ (hw _ (List.mem_of_getElem? (i := 48) rfl))) (mvT hZ (hw _ (List.mem_of_getElem? (i := 49) rfl))) (notFace_of_selects (args := #[]) (mvT hZ (hw _ (List.mem_of_getElem? (i := 51) rfl)))) (mvT hZ (hw _ (List.mem_of_getElem? (i := 51) rfl))) (mvT hZ (hw _ (List.mem_of_getElem? (i := 50) rfl))) (by decide) (backOf (W := 0) (rm7 l Z a0 hw [] b1 ((0 : Int64) + j) T6.heap n0 Zs6 G6_1) hZ (hw _ (List.mem_of_getElem? (i := 52) rfl)) (hw _ (List.mem_of_getElem? (i := 2) rfl)) (by decide) (by decide)) q9a q9c (g := (mkF m 55 #[.val (.long i), .second, .val (.long j), .second, .val (.long k), .second, .val (.long o), .second, .val (.ref b1), .val (.int (1 : Int32)), .unset, .unset, .unset, .unset, .unset, .unset] [(.ref b1)])) rfl (by rw [hml]; rfl) (Steps.refl _) (argsL := []) (rest := []) (lenOf own_pd5 rfl) rfl (by show 2 * 0 + _ ≤ _; exact Nat.le_of_eq rfl) (hb hby at_55) (fun _ _ => ⟨rfl, e7, (by decide : 4 + 0 ≤ _), (by decide : 41 + 0 ≤ _)⟩)
  dsimp only [Pt.U, Pt.locs, Pt.cells, Pt.slots] at X9 l9 y9 z9 st9 hQ9
  subst l9 y9 z9
  obtain ⟨rfl, N9q, e9⟩ := hQ9
  have N9 := Fr.app N7 N9q
  refine Go.tr st9 ?_
  show Go p e below _ (T9.setTop (mkF m 58 #[.val (.long i), .second, .val (.long j), .second, .val (.long k), .second, .val (.long o), .second, .val (.ref b1), .val (.int (1 : Int32)), .unset, .unset, .unset, .unset, .unset, .unset] [(.long ((0 : Int64) + j))]))
  refine Go.st (fun _ kt => XS.lloadN X9.here hx rfl (hb hby at_58) rfl kt) ?_
  show Go p e below _ (T9.setTop (mkF m 59 #[.val (.long i), .second, .val (.long j), .second, .val (.long k), .second, .val (.long o), .second, .val (.ref b1), .val (.int (1 : Int32)), .unset, .unset, .unset, .unset, .unset, .unset] [(.long j), (.long ((0 : Int64) + j))]))
  refine Go.st (fun _ kt => XS.lcmp X9.here hx rfl (hb hby at_59) rfl kt) ?_
  show Go p e below _ (T9.setTop (mkF m 60 #[.val (.long i), .second, .val (.long j), .second, .val (.long k), .second, .val (.long o), .second, .val (.ref b1), .val (.int (1 : Int32)), .unset, .unset, .unset, .unset, .unset, .unset] [(.int (lcmpW ((0 : Int64) + j) j))]))
  refine Go.st (fun _ kt => XS.ifNo X9.here hx rfl (hb hby at_60) rfl ((if0 _ _).trans (teq ((lw_eq _ _).mpr (Int64.zero_add _))).2) kt) ?_
  show Go p e below _ (T9.setTop (mkF m 63 #[.val (.long i), .second, .val (.long j), .second, .val (.long k), .second, .val (.long o), .second, .val (.ref b1), .val (.int (1 : Int32)), .unset, .unset, .unset, .unset, .unset, .unset] []))
  refine Go.st (fun _ kt => XS.iconst X9.here hx rfl (hb hby at_63) kt) ?_
  show Go p e below _ (T9.setTop (mkF m 64 #[.val (.long i), .second, .val (.long j), .second, .val (.long k), .second, .val (.long o), .second, .val (.ref b1), .val (.int (1 : Int32)), .unset, .unset, .unset, .unset, .unset, .unset] [(.int (1 : Int32))]))
  refine Go.st (fun _ kt => XS.goto X9.here hx rfl (pc0 := 64) (pc' := 68) rfl (hb hby at_64) (by decide) (by decide) kt) ?_
  show Go p e below _ (T9.setTop (mkF m 68 #[.val (.long i), .second, .val (.long j), .second, .val (.long k), .second, .val (.long o), .second, .val (.ref b1), .val (.int (1 : Int32)), .unset, .unset, .unset, .unset, .unset, .unset] [(.int (1 : Int32))]))
  refine Go.st (fun _ kt => XS.istore X9.here hx rfl (hb hby at_68) rfl (l' := #[.val (.long i), .second, .val (.long j), .second, .val (.long k), .second, .val (.long o), .second, .val (.ref b1), .val (.int (1 : Int32)), .val (.int (1 : Int32)), .unset, .unset, .unset, .unset, .unset]) rfl kt) ?_
  show Go p e below _ (T9.setTop (mkF m 70 #[.val (.long i), .second, .val (.long j), .second, .val (.long k), .second, .val (.long o), .second, .val (.ref b1), .val (.int (1 : Int32)), .val (.int (1 : Int32)), .unset, .unset, .unset, .unset, .unset] []))
  refine Go.st (fun _ kt => XS.aload X9.here hx rfl (hb hby at_70) rfl rfl kt) ?_
  show Go p e below _ (T9.setTop (mkF m 72 #[.val (.long i), .second, .val (.long j), .second, .val (.long k), .second, .val (.long o), .second, .val (.ref b1), .val (.int (1 : Int32)), .val (.int (1 : Int32)), .unset, .unset, .unset, .unset, .unset] [(.ref b1)]))
  refine Go.st (fun _ kt => XS.lload X9.here hx rfl (hb hby at_72) rfl kt) ?_
  show Go p e below _ (T9.setTop (mkF m 74 #[.val (.long i), .second, .val (.long j), .second, .val (.long k), .second, .val (.long o), .second, .val (.ref b1), .val (.int (1 : Int32)), .val (.int (1 : Int32)), .unset, .unset, .unset, .unset, .unset] [(.long k), (.ref b1)]))
  refine Go.st (fun _ kt => XS.lload X9.here hx rfl (hb hby at_74) rfl kt) ?_
  show Go p e below _ (T9.setTop (mkF m 76 #[.val (.long i), .second, .val (.long j), .second, .val (.long k), .second, .val (.long o), .second, .val (.ref b1), .val (.int (1 : Int32)), .val (.int (1 : Int32)), .unset, .unset, .unset, .unset, .unset] [(.long o), (.long k), (.ref b1)]))
  obtain ⟨cq10, kq10, q10a, q10b, q10c⟩ := isOf hZ e9 f8
  obtain ⟨_, _, ⟨T10, L10, k10, n10⟩, -, X10, ⟨Lc10, hQ10, l10, y10, z10⟩, st10⟩ := X9.virtualBack hx (y := (⟨"com/example/manyhands/manyhands/crowd/Tally", "count", "(JJ)V"⟩ : MethodName)) (z := (⟨"com/example/manyhands/manyhands/crowd/Tally", "count", "(JJ)V"⟩ : MethodName)) hown (mvT hZ (hw _ (List.mem_of_getElem? (i := 55) rfl))) (mvT hZ (hw _ (List.mem_of_getElem? (i := 56) rfl))) (notFace_of_selects (args := #[]) (mvT hZ (hw _ (List.mem_of_getElem? (i := 58) rfl)))) (mvT hZ (hw _ (List.mem_of_getElem? (i := 58) rfl))) (mvT hZ (hw _ (List.mem_of_getElem? (i := 57) rfl))) (by decide) (backOf (W := 0) (rm8 l Z a0 hw [] b1 k o ((0 : Int64) + i) ((0 : Int64) + j) T6.heap n0 Zs6 f8 G6_0 G6_1 gn_b1) hZ (hw _ (List.mem_of_getElem? (i := 59) rfl)) (hw _ (List.mem_of_getElem? (i := 2) rfl)) (by decide) (by decide)) q10a q10c (g := (mkF m 76 #[.val (.long i), .second, .val (.long j), .second, .val (.long k), .second, .val (.long o), .second, .val (.ref b1), .val (.int (1 : Int32)), .val (.int (1 : Int32)), .unset, .unset, .unset, .unset, .unset] [(.long o), (.long k), (.ref b1)])) rfl (by rw [hml]; rfl) (Steps.refl _) (argsL := [(.long k), (.long o)]) (rest := []) (lenOf own_pd6 rfl) rfl (by show 2 * 0 + _ ≤ _; exact Nat.le_of_eq rfl) (hb hby at_76) (fun _ _ => ⟨rfl, e9, (by decide : 4 + 0 ≤ _), (by decide : 41 + 0 ≤ _)⟩)
  dsimp only [Pt.U, Pt.locs, Pt.cells, Pt.slots] at X10 l10 y10 z10 st10 hQ10
  subst l10 y10 z10
  obtain ⟨rfl, N10q, K10q, G10_0, G10_1⟩ := hQ10
  have Zs10 : n0 ≤ T10.heap.size := Nat.le_trans Zs6 K10q.1
  have N10 := Fr.app N9 N10q
  refine Go.tr st10 ?_
  show Go p e below _ (T10.setTop (mkF m 79 #[.val (.long i), .second, .val (.long j), .second, .val (.long k), .second, .val (.long o), .second, .val (.ref b1), .val (.int (1 : Int32)), .val (.int (1 : Int32)), .unset, .unset, .unset, .unset, .unset] []))
  refine Go.st (fun _ kt => XS.lloadN X10.here hx rfl (hb hby at_79) rfl kt) ?_
  show Go p e below _ (T10.setTop (mkF m 80 #[.val (.long i), .second, .val (.long j), .second, .val (.long k), .second, .val (.long o), .second, .val (.ref b1), .val (.int (1 : Int32)), .val (.int (1 : Int32)), .unset, .unset, .unset, .unset, .unset] [(.long i)]))
  refine Go.st (fun _ kt => XS.lload X10.here hx rfl (hb hby at_80) rfl kt) ?_
  show Go p e below _ (T10.setTop (mkF m 82 #[.val (.long i), .second, .val (.long j), .second, .val (.long k), .second, .val (.long o), .second, .val (.ref b1), .val (.int (1 : Int32)), .val (.int (1 : Int32)), .unset, .unset, .unset, .unset, .unset] [(.long k), (.long i)]))
  refine Go.st (fun _ kt => XS.ladd X10.here hx rfl (hb hby at_82) rfl kt) ?_
  show Go p e below _ (T10.setTop (mkF m 83 #[.val (.long i), .second, .val (.long j), .second, .val (.long k), .second, .val (.long o), .second, .val (.ref b1), .val (.int (1 : Int32)), .val (.int (1 : Int32)), .unset, .unset, .unset, .unset, .unset] [(.long (i + k))]))
  refine Go.st (fun _ kt => XS.lstore X10.here hx rfl (hb hby at_83) rfl (l' := #[.val (.long i), .second, .val (.long j), .second, .val (.long k), .second, .val (.long o), .second, .val (.ref b1), .val (.int (1 : Int32)), .val (.int (1 : Int32)), .val (.long (i + k)), .second, .unset, .unset, .unset]) rfl kt) ?_
  show Go p e below _ (T10.setTop (mkF m 85 #[.val (.long i), .second, .val (.long j), .second, .val (.long k), .second, .val (.long o), .second, .val (.ref b1), .val (.int (1 : Int32)), .val (.int (1 : Int32)), .val (.long (i + k)), .second, .unset, .unset, .unset] []))
  refine Go.st (fun _ kt => XS.lloadN X10.here hx rfl (hb hby at_85) rfl kt) ?_
  show Go p e below _ (T10.setTop (mkF m 86 #[.val (.long i), .second, .val (.long j), .second, .val (.long k), .second, .val (.long o), .second, .val (.ref b1), .val (.int (1 : Int32)), .val (.int (1 : Int32)), .val (.long (i + k)), .second, .unset, .unset, .unset] [(.long j)]))
  refine Go.st (fun _ kt => XS.lload X10.here hx rfl (hb hby at_86) rfl kt) ?_
  show Go p e below _ (T10.setTop (mkF m 88 #[.val (.long i), .second, .val (.long j), .second, .val (.long k), .second, .val (.long o), .second, .val (.ref b1), .val (.int (1 : Int32)), .val (.int (1 : Int32)), .val (.long (i + k)), .second, .unset, .unset, .unset] [(.long o), (.long j)]))
  refine Go.st (fun _ kt => XS.ladd X10.here hx rfl (hb hby at_88) rfl kt) ?_
  show Go p e below _ (T10.setTop (mkF m 89 #[.val (.long i), .second, .val (.long j), .second, .val (.long k), .second, .val (.long o), .second, .val (.ref b1), .val (.int (1 : Int32)), .val (.int (1 : Int32)), .val (.long (i + k)), .second, .unset, .unset, .unset] [(.long (j + o))]))
  refine Go.st (fun _ kt => XS.lstore X10.here hx rfl (hb hby at_89) rfl (l' := #[.val (.long i), .second, .val (.long j), .second, .val (.long k), .second, .val (.long o), .second, .val (.ref b1), .val (.int (1 : Int32)), .val (.int (1 : Int32)), .val (.long (i + k)), .second, .val (.long (j + o)), .second, .unset]) rfl kt) ?_
  show Go p e below _ (T10.setTop (mkF m 91 #[.val (.long i), .second, .val (.long j), .second, .val (.long k), .second, .val (.long o), .second, .val (.ref b1), .val (.int (1 : Int32)), .val (.int (1 : Int32)), .val (.long (i + k)), .second, .val (.long (j + o)), .second, .unset] []))
  refine Go.st (fun _ kt => XS.aload X10.here hx rfl (hb hby at_91) rfl rfl kt) ?_
  show Go p e below _ (T10.setTop (mkF m 93 #[.val (.long i), .second, .val (.long j), .second, .val (.long k), .second, .val (.long o), .second, .val (.ref b1), .val (.int (1 : Int32)), .val (.int (1 : Int32)), .val (.long (i + k)), .second, .val (.long (j + o)), .second, .unset] [(.ref b1)]))
  have f12 := (f8.keep K10q)
  obtain ⟨cq11, kq11, q11a, q11b, q11c⟩ := isOf hZ rfl f12
  obtain ⟨_, _, ⟨T11, L11, k11, n11⟩, -, X11, ⟨Lc11, hQ11, l11, y11, z11⟩, st11⟩ := X10.virtualBack hx (y := (⟨"com/example/manyhands/manyhands/crowd/Tally", "questions", "()J"⟩ : MethodName)) (z := (⟨"com/example/manyhands/manyhands/crowd/Tally", "questions", "()J"⟩ : MethodName)) hown (mvT hZ (hw _ (List.mem_of_getElem? (i := 41) rfl))) (mvT hZ (hw _ (List.mem_of_getElem? (i := 42) rfl))) (notFace_of_selects (args := #[]) (mvT hZ (hw _ (List.mem_of_getElem? (i := 44) rfl)))) (mvT hZ (hw _ (List.mem_of_getElem? (i := 44) rfl))) (mvT hZ (hw _ (List.mem_of_getElem? (i := 43) rfl))) (by decide) (backOf (W := 0) (rm6 l Z a0 hw [] b1 (((0 : Int64) + i) + k) T10.heap n0 Zs10 G10_0) hZ (hw _ (List.mem_of_getElem? (i := 45) rfl)) (hw _ (List.mem_of_getElem? (i := 2) rfl)) (by decide) (by decide)) q11a q11c (g := (mkF m 93 #[.val (.long i), .second, .val (.long j), .second, .val (.long k), .second, .val (.long o), .second, .val (.ref b1), .val (.int (1 : Int32)), .val (.int (1 : Int32)), .val (.long (i + k)), .second, .val (.long (j + o)), .second, .unset] [(.ref b1)])) rfl (by rw [hml]; rfl) (Steps.refl _) (argsL := []) (rest := []) (lenOf own_pd5 rfl) rfl (by show 2 * 0 + _ ≤ _; exact Nat.le_of_eq rfl) (hb hby at_93) (fun _ _ => ⟨rfl, rfl, (by decide : 4 + 0 ≤ _), (by decide : 41 + 0 ≤ _)⟩)
  dsimp only [Pt.U, Pt.locs, Pt.cells, Pt.slots] at X11 l11 y11 z11 st11 hQ11
  subst l11 y11 z11
  obtain ⟨rfl, N11q, e11⟩ := hQ11
  have N11 := Fr.app N10 N11q
  refine Go.tr st11 ?_
  show Go p e below _ (T11.setTop (mkF m 96 #[.val (.long i), .second, .val (.long j), .second, .val (.long k), .second, .val (.long o), .second, .val (.ref b1), .val (.int (1 : Int32)), .val (.int (1 : Int32)), .val (.long (i + k)), .second, .val (.long (j + o)), .second, .unset] [(.long (((0 : Int64) + i) + k))]))
  refine Go.st (fun _ kt => XS.lload X11.here hx rfl (hb hby at_96) rfl kt) ?_
  show Go p e below _ (T11.setTop (mkF m 98 #[.val (.long i), .second, .val (.long j), .second, .val (.long k), .second, .val (.long o), .second, .val (.ref b1), .val (.int (1 : Int32)), .val (.int (1 : Int32)), .val (.long (i + k)), .second, .val (.long (j + o)), .second, .unset] [(.long (i + k)), (.long (((0 : Int64) + i) + k))]))
  refine Go.st (fun _ kt => XS.lcmp X11.here hx rfl (hb hby at_98) rfl kt) ?_
  show Go p e below _ (T11.setTop (mkF m 99 #[.val (.long i), .second, .val (.long j), .second, .val (.long k), .second, .val (.long o), .second, .val (.ref b1), .val (.int (1 : Int32)), .val (.int (1 : Int32)), .val (.long (i + k)), .second, .val (.long (j + o)), .second, .unset] [(.int (lcmpW (((0 : Int64) + i) + k) (i + k)))]))
  refine Go.st (fun _ kt => XS.ifNo X11.here hx rfl (hb hby at_99) rfl ((if0 _ _).trans (teq ((lw_eq _ _).mpr (by rw [Int64.zero_add]))).2) kt) ?_
  show Go p e below _ (T11.setTop (mkF m 102 #[.val (.long i), .second, .val (.long j), .second, .val (.long k), .second, .val (.long o), .second, .val (.ref b1), .val (.int (1 : Int32)), .val (.int (1 : Int32)), .val (.long (i + k)), .second, .val (.long (j + o)), .second, .unset] []))
  refine Go.st (fun _ kt => XS.aload X11.here hx rfl (hb hby at_102) rfl rfl kt) ?_
  show Go p e below _ (T11.setTop (mkF m 104 #[.val (.long i), .second, .val (.long j), .second, .val (.long k), .second, .val (.long o), .second, .val (.ref b1), .val (.int (1 : Int32)), .val (.int (1 : Int32)), .val (.long (i + k)), .second, .val (.long (j + o)), .second, .unset] [(.ref b1)]))
  obtain ⟨cq13, kq13, q13a, q13b, q13c⟩ := isOf hZ e11 f12
  obtain ⟨_, _, ⟨T13, L13, k13, n13⟩, -, X13, ⟨Lc13, hQ13, l13, y13, z13⟩, st13⟩ := X11.virtualBack hx (y := (⟨"com/example/manyhands/manyhands/crowd/Tally", "distinct", "()J"⟩ : MethodName)) (z := (⟨"com/example/manyhands/manyhands/crowd/Tally", "distinct", "()J"⟩ : MethodName)) hown (mvT hZ (hw _ (List.mem_of_getElem? (i := 48) rfl))) (mvT hZ (hw _ (List.mem_of_getElem? (i := 49) rfl))) (notFace_of_selects (args := #[]) (mvT hZ (hw _ (List.mem_of_getElem? (i := 51) rfl)))) (mvT hZ (hw _ (List.mem_of_getElem? (i := 51) rfl))) (mvT hZ (hw _ (List.mem_of_getElem? (i := 50) rfl))) (by decide) (backOf (W := 0) (rm7 l Z a0 hw [] b1 (((0 : Int64) + j) + o) T10.heap n0 Zs10 G10_1) hZ (hw _ (List.mem_of_getElem? (i := 52) rfl)) (hw _ (List.mem_of_getElem? (i := 2) rfl)) (by decide) (by decide)) q13a q13c (g := (mkF m 104 #[.val (.long i), .second, .val (.long j), .second, .val (.long k), .second, .val (.long o), .second, .val (.ref b1), .val (.int (1 : Int32)), .val (.int (1 : Int32)), .val (.long (i + k)), .second, .val (.long (j + o)), .second, .unset] [(.ref b1)])) rfl (by rw [hml]; rfl) (Steps.refl _) (argsL := []) (rest := []) (lenOf own_pd5 rfl) rfl (by show 2 * 0 + _ ≤ _; exact Nat.le_of_eq rfl) (hb hby at_104) (fun _ _ => ⟨rfl, e11, (by decide : 4 + 0 ≤ _), (by decide : 41 + 0 ≤ _)⟩)
  dsimp only [Pt.U, Pt.locs, Pt.cells, Pt.slots] at X13 l13 y13 z13 st13 hQ13
  subst l13 y13 z13
  obtain ⟨rfl, N13q, e13⟩ := hQ13
  have N13 := Fr.app N11 N13q
  refine Go.tr st13 ?_
  show Go p e below _ (T13.setTop (mkF m 107 #[.val (.long i), .second, .val (.long j), .second, .val (.long k), .second, .val (.long o), .second, .val (.ref b1), .val (.int (1 : Int32)), .val (.int (1 : Int32)), .val (.long (i + k)), .second, .val (.long (j + o)), .second, .unset] [(.long (((0 : Int64) + j) + o))]))
  refine Go.st (fun _ kt => XS.lload X13.here hx rfl (hb hby at_107) rfl kt) ?_
  show Go p e below _ (T13.setTop (mkF m 109 #[.val (.long i), .second, .val (.long j), .second, .val (.long k), .second, .val (.long o), .second, .val (.ref b1), .val (.int (1 : Int32)), .val (.int (1 : Int32)), .val (.long (i + k)), .second, .val (.long (j + o)), .second, .unset] [(.long (j + o)), (.long (((0 : Int64) + j) + o))]))
  refine Go.st (fun _ kt => XS.lcmp X13.here hx rfl (hb hby at_109) rfl kt) ?_
  show Go p e below _ (T13.setTop (mkF m 110 #[.val (.long i), .second, .val (.long j), .second, .val (.long k), .second, .val (.long o), .second, .val (.ref b1), .val (.int (1 : Int32)), .val (.int (1 : Int32)), .val (.long (i + k)), .second, .val (.long (j + o)), .second, .unset] [(.int (lcmpW (((0 : Int64) + j) + o) (j + o)))]))
  refine Go.st (fun _ kt => XS.ifNo X13.here hx rfl (hb hby at_110) rfl ((if0 _ _).trans (teq ((lw_eq _ _).mpr (by rw [Int64.zero_add]))).2) kt) ?_
  show Go p e below _ (T13.setTop (mkF m 113 #[.val (.long i), .second, .val (.long j), .second, .val (.long k), .second, .val (.long o), .second, .val (.ref b1), .val (.int (1 : Int32)), .val (.int (1 : Int32)), .val (.long (i + k)), .second, .val (.long (j + o)), .second, .unset] []))
  refine Go.st (fun _ kt => XS.iconst X13.here hx rfl (hb hby at_113) kt) ?_
  show Go p e below _ (T13.setTop (mkF m 114 #[.val (.long i), .second, .val (.long j), .second, .val (.long k), .second, .val (.long o), .second, .val (.ref b1), .val (.int (1 : Int32)), .val (.int (1 : Int32)), .val (.long (i + k)), .second, .val (.long (j + o)), .second, .unset] [(.int (1 : Int32))]))
  refine Go.st (fun _ kt => XS.goto X13.here hx rfl (pc0 := 114) (pc' := 118) rfl (hb hby at_114) (by decide) (by decide) kt) ?_
  show Go p e below _ (T13.setTop (mkF m 118 #[.val (.long i), .second, .val (.long j), .second, .val (.long k), .second, .val (.long o), .second, .val (.ref b1), .val (.int (1 : Int32)), .val (.int (1 : Int32)), .val (.long (i + k)), .second, .val (.long (j + o)), .second, .unset] [(.int (1 : Int32))]))
  refine Go.st (fun _ kt => XS.istore X13.here hx rfl (hb hby at_118) rfl (l' := #[.val (.long i), .second, .val (.long j), .second, .val (.long k), .second, .val (.long o), .second, .val (.ref b1), .val (.int (1 : Int32)), .val (.int (1 : Int32)), .val (.long (i + k)), .second, .val (.long (j + o)), .second, .val (.int (1 : Int32))]) rfl kt) ?_
  show Go p e below _ (T13.setTop (mkF m 120 #[.val (.long i), .second, .val (.long j), .second, .val (.long k), .second, .val (.long o), .second, .val (.ref b1), .val (.int (1 : Int32)), .val (.int (1 : Int32)), .val (.long (i + k)), .second, .val (.long (j + o)), .second, .val (.int (1 : Int32))] []))
  refine Go.st (fun _ kt => XS.iload X13.here hx rfl (hb hby at_120) rfl kt) ?_
  show Go p e below _ (T13.setTop (mkF m 122 #[.val (.long i), .second, .val (.long j), .second, .val (.long k), .second, .val (.long o), .second, .val (.ref b1), .val (.int (1 : Int32)), .val (.int (1 : Int32)), .val (.long (i + k)), .second, .val (.long (j + o)), .second, .val (.int (1 : Int32))] [(.int (1 : Int32))]))
  refine Go.st (fun _ kt => XS.ifNo X13.here hx rfl (hb hby at_122) rfl ((if0 _ _).trans (feq (by decide : ¬ ((1 : Int32) = (0 : Int32)))).1) kt) ?_
  show Go p e below _ (T13.setTop (mkF m 125 #[.val (.long i), .second, .val (.long j), .second, .val (.long k), .second, .val (.long o), .second, .val (.ref b1), .val (.int (1 : Int32)), .val (.int (1 : Int32)), .val (.long (i + k)), .second, .val (.long (j + o)), .second, .val (.int (1 : Int32))] []))
  refine Go.st (fun _ kt => XS.iload X13.here hx rfl (hb hby at_125) rfl kt) ?_
  show Go p e below _ (T13.setTop (mkF m 127 #[.val (.long i), .second, .val (.long j), .second, .val (.long k), .second, .val (.long o), .second, .val (.ref b1), .val (.int (1 : Int32)), .val (.int (1 : Int32)), .val (.long (i + k)), .second, .val (.long (j + o)), .second, .val (.int (1 : Int32))] [(.int (1 : Int32))]))
  refine Go.st (fun _ kt => XS.ifNo X13.here hx rfl (hb hby at_127) rfl ((if0 _ _).trans (feq (by decide : ¬ ((1 : Int32) = (0 : Int32)))).1) kt) ?_
  show Go p e below _ (T13.setTop (mkF m 130 #[.val (.long i), .second, .val (.long j), .second, .val (.long k), .second, .val (.long o), .second, .val (.ref b1), .val (.int (1 : Int32)), .val (.int (1 : Int32)), .val (.long (i + k)), .second, .val (.long (j + o)), .second, .val (.int (1 : Int32))] []))
  refine Go.st (fun _ kt => XS.iload X13.here hx rfl (hb hby at_130) rfl kt) ?_
  show Go p e below _ (T13.setTop (mkF m 132 #[.val (.long i), .second, .val (.long j), .second, .val (.long k), .second, .val (.long o), .second, .val (.ref b1), .val (.int (1 : Int32)), .val (.int (1 : Int32)), .val (.long (i + k)), .second, .val (.long (j + o)), .second, .val (.int (1 : Int32))] [(.int (1 : Int32))]))
  refine Go.st (fun _ kt => XS.ifNo X13.here hx rfl (hb hby at_132) rfl ((if0 _ _).trans (feq (by decide : ¬ ((1 : Int32) = (0 : Int32)))).1) kt) ?_
  show Go p e below _ (T13.setTop (mkF m 135 #[.val (.long i), .second, .val (.long j), .second, .val (.long k), .second, .val (.long o), .second, .val (.ref b1), .val (.int (1 : Int32)), .val (.int (1 : Int32)), .val (.long (i + k)), .second, .val (.long (j + o)), .second, .val (.int (1 : Int32))] []))
  refine Go.st (fun _ kt => XS.iconst X13.here hx rfl (hb hby at_135) kt) ?_
  show Go p e below _ (T13.setTop (mkF m 136 #[.val (.long i), .second, .val (.long j), .second, .val (.long k), .second, .val (.long o), .second, .val (.ref b1), .val (.int (1 : Int32)), .val (.int (1 : Int32)), .val (.long (i + k)), .second, .val (.long (j + o)), .second, .val (.int (1 : Int32))] [(.int (1 : Int32))]))
  refine Go.st (fun _ kt => XS.goto X13.here hx rfl (pc0 := 136) (pc' := 140) rfl (hb hby at_136) (by decide) (by decide) kt) ?_
  show Go p e below _ (T13.setTop (mkF m 140 #[.val (.long i), .second, .val (.long j), .second, .val (.long k), .second, .val (.long o), .second, .val (.ref b1), .val (.int (1 : Int32)), .val (.int (1 : Int32)), .val (.long (i + k)), .second, .val (.long (j + o)), .second, .val (.int (1 : Int32))] [(.int (1 : Int32))]))
  refine Go.retN X13 hx (t := .boolean) Bd.returns (by simp) (BodyLoose.notSynchronized Bd) (hb hby at_140) (Q := (Q_rm0 Z i j k o h0 n0)) (by decide) (by decide) ?_
  show (Q_rm0 Z i j k o h0 n0) _ T13.heap _
  rw [e13]
  exact ⟨rfl, N13⟩
set_option maxRecDepth 65536 in
set_option maxHeartbeats 40000000 in
theorem comes_1 {Post : Tables → Env → Array Value → State → Outcome → State → Prop} (hpost : ∀ tb e args s v u, (limb_1_1.after args s (.returned v) u = true ∧ limb_1_2.after args s (.returned v) u = true ∧ True) → FrameEnd s (.returned v) u (Jvm.fieldLocs frame_1_writes args s ++ Jvm.arrayLocs frame_1_arrays args s ++ Jvm.staticLocs frame_1_statics s) 16 192 → Post tb e args s (.returned v) u) :
    ArmFor flags0 classFile x code maxLocals ret World_1 tables_1 room_1 Calls_1 rest_1 Pre_1 Post := by
  intro l hfl _ _ p e ha hc hk s m args below hf hA hF happ hP
  obtain ⟨hcalls, hrest, hpre⟩ := hP
  obtain ⟨-, -, -, hnamed, -, -, -, hat⟩ := (Spec.applies_iff hf).mp happ
  obtain ⟨hg, hn⟩ := and_e (Cond.before_iff.mp (show (Jvm.Cond.and given_1 narrow_1).before args s = true from hpre))
  obtain ⟨g1, g2⟩ := and_e hg
  obtain ⟨g3, g4⟩ := and_e g2
  obtain ⟨g5, g6⟩ := and_e g4
  obtain ⟨g7, g8⟩ := and_e g6
  obtain ⟨w0, w1, w2, w3, rfl⟩ : ∃ w0 w1 w2 w3 : Value, args = #[w0, w1, w2, w3] := by
    have hs : args.size = 4 := by simpa [Cond.value, given_1] using g1
    obtain ⟨L⟩ := args
    match L, hs with
    | [w0, w1, w2, w3], _ => exact ⟨w0, w1, w2, w3, rfl⟩
  have hw := fun d (hd : d ∈ tables_1) => atoms_spec (ws := Jvm.Cond.code x code maxLocals ret :: tables_1) hat d (List.mem_cons_of_mem _ hd)
  have hfit : Fit s := fun {y c} hc i hi => by
    obtain ⟨ha, rfl⟩ := Array.getElem?_eq_some_iff.mp hc
    have q := List.all_eq_true.mp ((Array.all_eq_true_iff_forall_mem.mp hF) _ (Array.getElem_mem ha)) i (List.mem_range.mpr hi)
    simpa [Array.getElem?_eq_getElem hi] using q
  obtain ⟨i0, ei0⟩ := isL_v g3
  obtain rfl : w0 = (.long i0) := Option.some.inj ei0
  obtain ⟨i1, ei1⟩ := isL_v g5
  obtain rfl : w1 = (.long i1) := Option.some.inj ei1
  obtain ⟨i2, ei2⟩ := isL_v g7
  obtain rfl : w2 = (.long i2) := Option.some.inj ei2
  obtain ⟨i3, ei3⟩ := isL_v g8
  obtain rfl : w3 = (.long i3) := Option.some.inj ei3
  obtain ⟨n, o, h1, h2, h3, _, L, rfl, ⟨rfl, N⟩, hq⟩ := rm0 l s _ hw tables_1 i0 i1 i2 i3 s.heap s.heap.size (Nat.le_refl _) p e ha hc hk s m _ below hf ((Spec.applies_iff_loose hf).mp happ).1 ⟨rfl, State.Warmed39.refl s, rfl⟩ trivial
  refine ⟨n, _, h1, h2, h3, hpost _ _ _ _ _ _ ⟨Cond.after_iff.mpr rfl, Cond.after_iff.mpr (eq_i res_at (Term.int_eval (1)) rfl), trivial⟩ ⟨hq.1, hq.2.1, (hq.2.2.sift fun y hy => Or.inr (N y hy)).mono (by decide) (by decide)⟩⟩
theorem main_1_1 : Claimed_1_1 := comes_1 fun _ _ _ _ _ _ h hF => ⟨h.1, hF⟩
theorem main_1_2 : Claimed_1_2 := comes_1 fun _ _ _ _ _ _ h hF => ⟨h.2.1, hF⟩
end Jvm.Pilot.@@N@@
namespace Jvm.Pilot.@@N@@
open Jvm Jvm.ClassFile Sem Op Lib Jvm.Free Jvm.Stand Jvm.Pilot.@@N@@.Jvm.D
/-! MADE BY PROGRAM (witnessworld.py) out of the Statement's table words and the real class files: 14 classes; the members and pool entries that the words name. The judged class is class 1, her method 1. -/
namespace start1
open Jvm.ClassFile
def u (s : String) : CpInfo := .utf8 (stringToUtf16 s)
/-- a pool by its gaps: so many unusable entries, then the entry; so many at the end -/
def gap : Nat → List CpInfo → List CpInfo
  | 0, r => r
  | n + 1, r => .unusable :: gap n r
def poolList (es : List (Nat × CpInfo)) (last : Nat) : List CpInfo := es.foldr (fun e r => gap e.1 (e.2 :: r)) (gap last [])
def pool (es : List (Nat × CpInfo)) (last : Nat) : Array CpInfo := ⟨poolList es last⟩
def fileOf (pool : Array CpInfo) (this : Nat) (attrs : Array Attribute := #[]) (ms : Array MethodInfo := #[]) (fl : Nat := 33) (sup : Nat := 0) (ifs : Array Nat := #[]) (fds : Array FieldInfo := #[]) : ClassFile where
  minorVersion := 0
  majorVersion := 65
  constantPool := pool
  accessFlags := fl
  thisClass := this
  superClass := sup
  interfaces := ifs
  fields := fds
  methods := ms
  attributes := attrs
def plain (name : String) (sup : Option ClassId) : Class where
  name := name
  kind := .ordinary
  loader := none
  accessFlags := 33
  super := sup
  interfaces := #[]
  cf := none
  fields := #[]
  methods := #[]
  instanceTypes := #[]
  staticTypes := #[]
  resolved := #[]
  callSites := []
  init := .initialized
  statics := none
  mirror := none

def pool0 : Array CpInfo := pool [(5, u "<init>"), (0, u "()V"), (1, .class_ 10), (1, u "java/lang/Object")] 113

def k0c0 : Code := { maxStack := 0, maxLocals := 1, code := object_method_1_code, exceptionTable := #[], attributes := #[] }
def k0m0 : Method := { name := "<init>", desc := "()V", sig := { parameters := [], returnType := none }, accessFlags := 1, code := some k0c0 }
/-- java/lang/Object -/
def k0 : Class := { plain "java/lang/Object" none with
  accessFlags := 33
  interfaces := #[]
  cf := some (fileOf pool0 8 #[] #[{ accessFlags := 1, nameIndex := 5, descriptorIndex := 6, attributes := #[] }] 33 0 #[] #[])
  fields := #[]
  methods := #[k0m0]
  instanceTypes := #[]
  staticTypes := #[]
  resolved := Array.replicate 124 none
  statics := none }

def pool1 : Array CpInfo := pool [(2, .class_ 4), (0, .nameAndType 5 6), (0, u "java/lang/Object"), (0, u "<init>"), (0, u "()V"), (0, .class_ 8), (0, u "com/example/manyhands/manyhands/crowd/Tally"), (0, .methodref 7 3), (0, .methodref 7 11), (0, .nameAndType 12 13), (0, u "questions"), (0, u "()J"), (0, .methodref 7 15), (0, .nameAndType 16 13), (0, u "distinct"), (0, .methodref 7 18), (0, .nameAndType 19 20), (0, u "count"), (0, u "(JJ)V"), (0, .class_ 22), (0, u "com/example/manyhands/manyhands/crowd/TallyCountPinLaw"), (2, u "law"), (0, u "(JJJJ)Z")] 3

def k1m0 : Method := { name := "<init>", desc := "()V", sig := { parameters := [], returnType := none }, accessFlags := 1, code := none }
def k1c1 : Code := { maxStack := 5, maxLocals := 16, code := code, exceptionTable := #[], attributes := #[] }
def k1m1 : Method := { name := "law", desc := "(JJJJ)Z", sig := { parameters := [.long, .long, .long, .long], returnType := some .boolean }, accessFlags := 9, code := some k1c1 }
/-- com/example/manyhands/manyhands/crowd/TallyCountPinLaw -/
def k1 : Class := { plain "com/example/manyhands/manyhands/crowd/TallyCountPinLaw" (some 0) with
  accessFlags := 49
  interfaces := #[]
  cf := some (fileOf pool1 21 #[] #[{ accessFlags := 1, nameIndex := 5, descriptorIndex := 6, attributes := #[] }, { accessFlags := 9, nameIndex := 25, descriptorIndex := 26, attributes := #[] }] 49 2 #[] #[])
  fields := #[]
  methods := #[k1m0, k1m1]
  instanceTypes := #[]
  staticTypes := #[]
  resolved := Array.replicate 30 none
  statics := none }

def pool2 : Array CpInfo := pool [(1, .methodref 2 3), (0, .class_ 4), (0, .nameAndType 5 6), (0, u "java/lang/Object"), (0, u "<init>"), (0, u "()V"), (0, .class_ 8), (0, u "java/util/LinkedHashMap"), (0, .methodref 7 3), (0, .fieldref 11 12), (0, .class_ 13), (0, .nameAndType 14 15), (0, u "com/example/manyhands/manyhands/crowd/Tally"), (0, u "values"), (0, u "Ljava/util/Map;"), (0, .fieldref 11 17), (0, .nameAndType 18 15), (0, u "records"), (0, .fieldref 11 20), (0, .nameAndType 21 15), (0, u "cells"), (0, .fieldref 11 23), (0, .nameAndType 24 25), (0, u "questions"), (0, u "J"), (0, .fieldref 11 27), (0, .nameAndType 28 25), (0, u "distinct"), (38, u "(JJ)V"), (0, u "()J"), (10, u "count"), (6, .class_ 87), (0, u "com/example/manyhands/manyhands/crowd/Tally$Cell")] 29

def k2c0 : Code := { maxStack := 3, maxLocals := 1, code := prog_49_method_1_code, exceptionTable := #[], attributes := #[] }
def k2m0 : Method := { name := "<init>", desc := "()V", sig := { parameters := [], returnType := none }, accessFlags := 1, code := some k2c0 }
def k2c1 : Code := { maxStack := 2, maxLocals := 1, code := prog_49_method_3_code, exceptionTable := #[], attributes := #[] }
def k2m1 : Method := { name := "questions", desc := "()J", sig := { parameters := [], returnType := some .long }, accessFlags := 1, code := some k2c1 }
def k2c2 : Code := { maxStack := 2, maxLocals := 1, code := prog_49_method_4_code, exceptionTable := #[], attributes := #[] }
def k2m2 : Method := { name := "distinct", desc := "()J", sig := { parameters := [], returnType := some .long }, accessFlags := 1, code := some k2c2 }
def k2c3 : Code := { maxStack := 5, maxLocals := 5, code := prog_49_method_11_code, exceptionTable := #[], attributes := #[] }
def k2m3 : Method := { name := "count", desc := "(JJ)V", sig := { parameters := [.long, .long], returnType := none }, accessFlags := 0, code := some k2c3 }
/-- com/example/manyhands/manyhands/crowd/Tally -/
def k2 : Class := { plain "com/example/manyhands/manyhands/crowd/Tally" (some 0) with
  accessFlags := 49
  interfaces := #[]
  cf := some (fileOf pool2 11 #[.nestMembers #[86]] #[{ accessFlags := 1, nameIndex := 5, descriptorIndex := 6, attributes := #[] }, { accessFlags := 1, nameIndex := 24, descriptorIndex := 68, attributes := #[] }, { accessFlags := 1, nameIndex := 28, descriptorIndex := 68, attributes := #[] }, { accessFlags := 0, nameIndex := 79, descriptorIndex := 67, attributes := #[] }] 49 2 #[] #[{ accessFlags := 2, nameIndex := 24, descriptorIndex := 25, attributes := #[] }, { accessFlags := 2, nameIndex := 28, descriptorIndex := 25, attributes := #[] }, { accessFlags := 18, nameIndex := 14, descriptorIndex := 15, attributes := #[] }, { accessFlags := 18, nameIndex := 18, descriptorIndex := 15, attributes := #[] }, { accessFlags := 18, nameIndex := 21, descriptorIndex := 15, attributes := #[] }])
  fields := #[{ name := "questions", type := .long, accessFlags := 2, slot := 0, constantValue := 0 }, { name := "distinct", type := .long, accessFlags := 2, slot := 1, constantValue := 0 }, { name := "values", type := (.object "java/util/Map"), accessFlags := 18, slot := 2, constantValue := 0 }, { name := "records", type := (.object "java/util/Map"), accessFlags := 18, slot := 3, constantValue := 0 }, { name := "cells", type := (.object "java/util/Map"), accessFlags := 18, slot := 4, constantValue := 0 }]
  methods := #[k2m0, k2m1, k2m2, k2m3]
  instanceTypes := #[.long, .long, (.object "java/util/Map"), (.object "java/util/Map"), (.object "java/util/Map")]
  staticTypes := #[]
  resolved := Array.replicate 117 none
  statics := none }

def pool3 : Array CpInfo := pool [(2, .class_ 4), (1, u "java/util/Map"), (31, .class_ 37), (0, u "java/util/Map$Entry"), (55, .class_ 94), (0, u "java/lang/Object")] 168

/-- java/util/Map -/
def k3 : Class := { plain "java/util/Map" (some 0) with
  accessFlags := 1537
  interfaces := #[]
  cf := some (fileOf pool3 2 #[.nestMembers #[36]] #[] 1537 93 #[] #[])
  fields := #[]
  methods := #[]
  instanceTypes := #[]
  staticTypes := #[]
  resolved := Array.replicate 263 none
  statics := none }

def pool4 : Array CpInfo := pool [(1, .methodref 2 3), (0, .class_ 4), (0, .nameAndType 5 6), (0, u "java/lang/Object"), (0, u "<init>"), (0, u "()V"), (1, .class_ 10), (1, u "java/util/AbstractMap"), (42, .class_ 54), (0, u "java/util/Map"), (9, u "keySet"), (0, u "Ljava/util/Set;"), (0, .class_ 67), (0, u "java/util/AbstractMap$1"), (5, u "values"), (0, u "Ljava/util/Collection;"), (0, .class_ 76), (0, u "java/util/AbstractMap$2"), (104, .class_ 182), (0, u "java/util/AbstractMap$ViewCollection"), (0, .class_ 184), (0, u "java/util/AbstractMap$SimpleImmutableEntry"), (0, .class_ 186), (0, u "java/util/AbstractMap$SimpleEntry"), (0, .class_ 188), (0, u "java/util/AbstractMap$2$1"), (0, .class_ 190), (0, u "java/util/AbstractMap$1$1")] 5

def k4c0 : Code := { maxStack := 1, maxLocals := 1, code := jdk_71_method_1_code, exceptionTable := #[], attributes := #[] }
def k4m0 : Method := { name := "<init>", desc := "()V", sig := { parameters := [], returnType := none }, accessFlags := 4, code := some k4c0 }
/-- java/util/AbstractMap -/
def k4 : Class := { plain "java/util/AbstractMap" (some 0) with
  accessFlags := 1057
  interfaces := #[3]
  cf := some (fileOf pool4 8 #[.nestMembers #[181, 183, 185, 75, 187, 66, 189]] #[{ accessFlags := 4, nameIndex := 5, descriptorIndex := 6, attributes := #[] }] 1057 2 #[53] #[{ accessFlags := 128, nameIndex := 64, descriptorIndex := 65, attributes := #[] }, { accessFlags := 128, nameIndex := 73, descriptorIndex := 74, attributes := #[] }])
  fields := #[{ name := "keySet", type := (.object "java/util/Set"), accessFlags := 128, slot := 0, constantValue := 0 }, { name := "values", type := (.object "java/util/Collection"), accessFlags := 128, slot := 1, constantValue := 0 }]
  methods := #[k4m0]
  instanceTypes := #[(.object "java/util/Set"), (.object "java/util/Collection")]
  staticTypes := #[]
  resolved := Array.replicate 196 none
  statics := none }

def pool5 : Array CpInfo := pool [(1, .class_ 2), (0, u "java/lang/Cloneable"), (0, .class_ 4), (0, u "java/lang/Object")] 2

/-- java/lang/Cloneable -/
def k5 : Class := { plain "java/lang/Cloneable" (some 0) with
  accessFlags := 1537
  interfaces := #[]
  cf := some (fileOf pool5 1 #[] #[] 1537 3 #[] #[])
  fields := #[]
  methods := #[]
  instanceTypes := #[]
  staticTypes := #[]
  resolved := Array.replicate 7 none
  statics := none }

def pool6 : Array CpInfo := pool [(1, .class_ 2), (0, u "java/io/Serializable"), (0, .class_ 4), (0, u "java/lang/Object")] 2

/-- java/io/Serializable -/
def k6 : Class := { plain "java/io/Serializable" (some 0) with
  accessFlags := 1537
  interfaces := #[]
  cf := some (fileOf pool6 1 #[] #[] 1537 3 #[] #[])
  fields := #[]
  methods := #[]
  instanceTypes := #[]
  staticTypes := #[]
  resolved := Array.replicate 7 none
  statics := none }

def pool7 : Array CpInfo := pool [(40, .class_ 41), (0, u "java/util/HashMap"), (1, .methodref 44 45), (0, .class_ 46), (0, .nameAndType 47 48), (0, u "java/util/AbstractMap"), (0, u "<init>"), (0, u "()V"), (32, .fieldref 40 82), (0, .nameAndType 83 84), (0, u "loadFactor"), (0, u "F"), (5, u "threshold"), (0, u "I"), (0, .float 1061158912), (8, .class_ 103), (1, u "java/util/Map"), (0, u "size"), (2, u "table"), (0, u "[Ljava/util/HashMap$Node;"), (14, u "entrySet"), (39, .class_ 165), (1, u "java/util/HashMap$Node"), (14, .class_ 181), (0, u "java/util/HashMap$TreeNode"), (22, u "modCount"), (37, u "Ljava/util/Set;"), (0, .class_ 244), (0, u "java/util/HashMap$KeySet"), (18, .class_ 264), (0, u "java/util/HashMap$Values"), (3, .class_ 269), (0, u "java/util/HashMap$EntrySet"), (76, .class_ 348), (1, u "java/util/HashMap$UnsafeHolder"), (43, .class_ 393), (0, u "java/lang/Cloneable"), (0, .class_ 395), (0, u "java/io/Serializable"), (0, u "serialVersionUID"), (0, u "J"), (3, u "DEFAULT_INITIAL_CAPACITY"), (1, u "MAXIMUM_CAPACITY"), (0, u "DEFAULT_LOAD_FACTOR"), (0, u "TREEIFY_THRESHOLD"), (1, u "UNTREEIFY_THRESHOLD"), (1, u "MIN_TREEIFY_CAPACITY"), (186, .class_ 597), (0, u "java/util/HashMap$EntrySpliterator"), (0, .class_ 599), (0, u "java/util/HashMap$ValueSpliterator"), (0, .class_ 601), (0, u "java/util/HashMap$KeySpliterator"), (0, .class_ 603), (0, u "java/util/HashMap$HashMapSpliterator"), (0, .class_ 605), (0, u "java/util/HashMap$EntryIterator"), (0, .class_ 607), (0, u "java/util/HashMap$ValueIterator"), (0, .class_ 609), (0, u "java/util/HashMap$KeyIterator"), (0, .class_ 611), (0, u "java/util/HashMap$HashIterator")] 17

def k7c0 : Code := { maxStack := 2, maxLocals := 1, code := jdk_69_method_7_code, exceptionTable := #[], attributes := #[] }
def k7m0 : Method := { name := "<init>", desc := "()V", sig := { parameters := [], returnType := none }, accessFlags := 1, code := some k7c0 }
/-- java/util/HashMap -/
def k7 : Class := { plain "java/util/HashMap" (some 4) with
  accessFlags := 33
  interfaces := #[3, 5, 6]
  cf := some (fileOf pool7 40 #[.nestMembers #[180, 596, 598, 600, 602, 604, 606, 608, 610, 346, 268, 263, 243, 163]] #[{ accessFlags := 1, nameIndex := 47, descriptorIndex := 48, attributes := #[] }] 33 44 #[101, 392, 394] #[{ accessFlags := 26, nameIndex := 396, descriptorIndex := 397, attributes := #[] }, { accessFlags := 24, nameIndex := 401, descriptorIndex := 91, attributes := #[] }, { accessFlags := 24, nameIndex := 403, descriptorIndex := 91, attributes := #[] }, { accessFlags := 24, nameIndex := 404, descriptorIndex := 84, attributes := #[] }, { accessFlags := 24, nameIndex := 405, descriptorIndex := 91, attributes := #[] }, { accessFlags := 24, nameIndex := 407, descriptorIndex := 91, attributes := #[] }, { accessFlags := 24, nameIndex := 409, descriptorIndex := 91, attributes := #[] }, { accessFlags := 128, nameIndex := 107, descriptorIndex := 108, attributes := #[] }, { accessFlags := 128, nameIndex := 123, descriptorIndex := 242, attributes := #[] }, { accessFlags := 128, nameIndex := 104, descriptorIndex := 91, attributes := #[] }, { accessFlags := 128, nameIndex := 204, descriptorIndex := 91, attributes := #[] }, { accessFlags := 0, nameIndex := 90, descriptorIndex := 91, attributes := #[] }, { accessFlags := 16, nameIndex := 83, descriptorIndex := 84, attributes := #[] }])
  fields := #[{ name := "serialVersionUID", type := .long, accessFlags := 26, slot := 0, constantValue := 0 }, { name := "DEFAULT_INITIAL_CAPACITY", type := .int, accessFlags := 24, slot := 1, constantValue := 0 }, { name := "MAXIMUM_CAPACITY", type := .int, accessFlags := 24, slot := 2, constantValue := 0 }, { name := "DEFAULT_LOAD_FACTOR", type := .float, accessFlags := 24, slot := 3, constantValue := 0 }, { name := "TREEIFY_THRESHOLD", type := .int, accessFlags := 24, slot := 4, constantValue := 0 }, { name := "UNTREEIFY_THRESHOLD", type := .int, accessFlags := 24, slot := 5, constantValue := 0 }, { name := "MIN_TREEIFY_CAPACITY", type := .int, accessFlags := 24, slot := 6, constantValue := 0 }, { name := "table", type := (.array (.object "java/util/HashMap$Node")), accessFlags := 128, slot := 2, constantValue := 0 }, { name := "entrySet", type := (.object "java/util/Set"), accessFlags := 128, slot := 3, constantValue := 0 }, { name := "size", type := .int, accessFlags := 128, slot := 4, constantValue := 0 }, { name := "modCount", type := .int, accessFlags := 128, slot := 5, constantValue := 0 }, { name := "threshold", type := .int, accessFlags := 0, slot := 6, constantValue := 0 }, { name := "loadFactor", type := .float, accessFlags := 16, slot := 7, constantValue := 0 }]
  methods := #[k7m0]
  instanceTypes := #[(.object "java/util/Set"), (.object "java/util/Collection"), (.array (.object "java/util/HashMap$Node")), (.object "java/util/Set"), .int, .int, .int, .float]
  staticTypes := #[.long, .int, .int, .float, .int, .int, .int]
  resolved := Array.replicate 629 none
  statics := none }

def pool8 : Array CpInfo := pool [(2, .class_ 4), (1, u "java/util/SequencedMap"), (38, .class_ 44), (0, u "java/util/SequencedMap$1SeqKeySet"), (3, .class_ 49), (0, u "java/util/SequencedMap$1SeqValues"), (1, .class_ 52), (0, u "java/util/SequencedMap$1SeqEntrySet"), (1, .class_ 55), (0, u "java/lang/Object"), (0, .class_ 57), (0, u "java/util/Map")] 48

/-- java/util/SequencedMap -/
def k8 : Class := { plain "java/util/SequencedMap" (some 0) with
  accessFlags := 1537
  interfaces := #[3]
  cf := some (fileOf pool8 2 #[.nestMembers #[51, 48, 43]] #[] 1537 54 #[56] #[])
  fields := #[]
  methods := #[]
  instanceTypes := #[]
  staticTypes := #[]
  resolved := Array.replicate 106 none
  statics := none }

def pool9 : Array CpInfo := pool [(1, .fieldref 2 3), (0, .class_ 4), (0, .nameAndType 5 6), (0, u "java/util/LinkedHashMap"), (0, u "putMode"), (0, u "I"), (2, u "head"), (0, u "Ljava/util/LinkedHashMap$Entry;"), (2, u "tail"), (1, .class_ 17), (1, u "java/util/LinkedHashMap$Entry"), (5, .class_ 25), (1, u "java/util/HashMap"), (1, u "()V"), (2, u "<init>"), (33, .fieldref 2 65), (0, .nameAndType 66 67), (0, u "accessOrder"), (0, u "Z"), (19, .methodref 23 88), (0, .nameAndType 30 27), (32, .class_ 122), (0, u "java/util/LinkedHashMap$LinkedKeySet"), (20, .class_ 144), (0, u "java/util/LinkedHashMap$LinkedValues"), (9, .class_ 155), (0, u "java/util/LinkedHashMap$LinkedEntrySet"), (44, .class_ 201), (0, u "java/util/LinkedHashMap$ReversedLinkedHashMapView"), (3, .class_ 206), (0, u "java/util/SequencedMap"), (0, u "serialVersionUID"), (0, u "J"), (5, u "PUT_NORM"), (1, u "PUT_FIRST"), (1, u "PUT_LAST"), (143, .class_ 363), (0, u "java/util/LinkedHashMap$LinkedEntryIterator"), (0, .class_ 365), (0, u "java/util/LinkedHashMap$LinkedValueIterator"), (0, .class_ 367), (0, u "java/util/LinkedHashMap$LinkedKeyIterator"), (0, .class_ 369), (0, u "java/util/LinkedHashMap$LinkedHashIterator")] 16

def k9c0 : Code := { maxStack := 2, maxLocals := 1, code := jdk_94_method_16_code, exceptionTable := #[], attributes := #[] }
def k9m0 : Method := { name := "<init>", desc := "()V", sig := { parameters := [], returnType := none }, accessFlags := 1, code := some k9c0 }
/-- java/util/LinkedHashMap -/
def k9 : Class := { plain "java/util/LinkedHashMap" (some 7) with
  accessFlags := 33
  interfaces := #[8]
  cf := some (fileOf pool9 2 #[.nestMembers #[200, 362, 364, 366, 368, 154, 143, 121, 15]] #[{ accessFlags := 1, nameIndex := 30, descriptorIndex := 27, attributes := #[] }] 33 23 #[205] #[{ accessFlags := 26, nameIndex := 207, descriptorIndex := 208, attributes := #[] }, { accessFlags := 128, nameIndex := 9, descriptorIndex := 10, attributes := #[] }, { accessFlags := 128, nameIndex := 13, descriptorIndex := 10, attributes := #[] }, { accessFlags := 16, nameIndex := 66, descriptorIndex := 67, attributes := #[] }, { accessFlags := 24, nameIndex := 214, descriptorIndex := 6, attributes := #[] }, { accessFlags := 24, nameIndex := 216, descriptorIndex := 6, attributes := #[] }, { accessFlags := 24, nameIndex := 218, descriptorIndex := 6, attributes := #[] }, { accessFlags := 128, nameIndex := 5, descriptorIndex := 6, attributes := #[] }])
  fields := #[{ name := "serialVersionUID", type := .long, accessFlags := 26, slot := 0, constantValue := 0 }, { name := "head", type := (.object "java/util/LinkedHashMap$Entry"), accessFlags := 128, slot := 8, constantValue := 0 }, { name := "tail", type := (.object "java/util/LinkedHashMap$Entry"), accessFlags := 128, slot := 9, constantValue := 0 }, { name := "accessOrder", type := .boolean, accessFlags := 16, slot := 10, constantValue := 0 }, { name := "PUT_NORM", type := .int, accessFlags := 24, slot := 1, constantValue := 0 }, { name := "PUT_FIRST", type := .int, accessFlags := 24, slot := 2, constantValue := 0 }, { name := "PUT_LAST", type := .int, accessFlags := 24, slot := 3, constantValue := 0 }, { name := "putMode", type := .int, accessFlags := 128, slot := 11, constantValue := 0 }]
  methods := #[k9m0]
  instanceTypes := #[(.object "java/util/Set"), (.object "java/util/Collection"), (.array (.object "java/util/HashMap$Node")), (.object "java/util/Set"), .int, .int, .int, .float, (.object "java/util/LinkedHashMap$Entry"), (.object "java/util/LinkedHashMap$Entry"), .boolean, .int]
  staticTypes := #[.long, .int, .int, .int]
  resolved := Array.replicate 386 none
  statics := none }

/-- the primitive byte -/
def k10 : Class := { plain "byte" none with kind := .primitive 'B', accessFlags := 0x411 }
/-- [B -/
def k11 : Class := { plain "[B" (some 0) with kind := .array 10 .byte, interfaces := #[5, 6], accessFlags := 1041 }

/-- the primitive int -/
def k12 : Class := { plain "int" none with kind := .primitive 'I', accessFlags := 0x411 }
/-- [I -/
def k13 : Class := { plain "[I" (some 0) with kind := .array 12 .int, interfaces := #[5, 6], accessFlags := 1041 }

def heap : Heap := #[]
def classes : Array Class := #[k0, k1, k2, k3, k4, k5, k6, k7, k8, k9, k10, k11, k12, k13]
def interned : List (Array UInt16 × Addr) := []
def slotsUsed : Nat := 0
def theMethod : MethodId := ⟨1, 1⟩
def args0 : Array Value := #[.long 5, .long 6, .long 7, .long 8]
def aboutOver (below : List Frame) : State where
  vm := { classes := classes, interned := interned.toArray }
  heap := heap
  slotsUsed := slotsUsed
  threads := #[{ frames := .invoking theMethod args0 :: below }]
def below0 : List Frame := [.native { method := ⟨0, 0⟩, args := #[] }]
def about1 : State := aboutOver below0
def p0 : Program := .bare "" "" ""
def e0 : Env := launch0.env 0 0 0
theorem w_frames : about1.frames = Frame.invoking theMethod args0 :: below0 := rfl
set_option maxRecDepth 65536 in
theorem w_args : argsFit about1.vm theMethod args0 = true := by decide +kernel
set_option maxRecDepth 65536 in
theorem w_heap : heapFits about1 = true := by decide +kernel
set_option maxRecDepth 65536 in
theorem w_runnable : about1.curStatus? = some .runnable := by decide +kernel
set_option maxRecDepth 65536 in
theorem w_alone : about1.alone = true := by decide +kernel
set_option maxRecDepth 65536 in
theorem w_named : about1.methodNamed? x = some theMethod := by decide +kernel
set_option maxRecDepth 65536 in
theorem w_hears : about1.hears theMethod below0 = true := by decide +kernel
set_option maxRecDepth 65536 in
theorem w_ripe : about1.ripe theMethod args0 below0 = true := by decide +kernel
theorem w_running : about1.status = .running := rfl
set_option maxRecDepth 65536 in
theorem w_room : about1.hasRoom e0.platform room_1 = true :=
  launch0.hasRoom_least _ room_1 (by decide +kernel) (by decide +kernel) (by decide +kernel) (by decide +kernel) (by decide +kernel) (by decide +kernel)
theorem allAtoms_all (ts : List Jvm.Cond) (a : Array Jvm.Value) (st : Jvm.State) : (allAtoms ts).before a st = ts.all (fun c => c.before a st) := by
  induction ts with
  | nil => rfl
  | cons c t ih =>
    show (Jvm.Cond.and c (allAtoms t)).before a st = _
    rw [Jvm.Cond.before_and, ih, List.all_cons]
def words1 : List Jvm.Cond := Jvm.Cond.code x code maxLocals ret :: tables_1
/-- a 'code' word, met by the world's own term for the bytes: nothing is compared byte by byte -/
theorem code_word {y : MethodName} {bytes : ByteArray} {mx : Nat} {rt : Option FieldType} {a : Array Value} {s : State} {m : MethodId} {meth : Method} {c : Code} (h1 : s.methodNamed? y = some m) (h2 : s.vm.method? m = some meth) (h3 : meth.code = some c) (h4 : c.code = bytes)
    (h5 : (c.maxLocals == mx && c.exceptionTable.isEmpty && decide (c.maxStack ≤ mostOperands) && decide (meth.sig.returnType = rt) && !meth.locks && decide (parseMethodDescriptor y.desc = some meth.sig)) = true) : (Jvm.Cond.code y bytes mx rt).before a s = true := by
  simp only [Bool.and_eq_true, beq_iff_eq, Bool.not_eq_true', decide_eq_true_eq] at h5
  obtain ⟨⟨⟨⟨⟨g1, g2⟩, g3⟩, g4⟩, g5⟩, g6⟩ := h5
  simp [Cond.before, Cond.holds, Cond.value, h1, h2, h3, h4, g1, g2, g3, g4, g5, g6]
def isCode : Jvm.Cond → Bool
  | .code _ _ _ _ => true
  | _ => false
theorem all_split {L : List Jvm.Cond} {P : Jvm.Cond → Bool} (h1 : L.all (fun c => isCode c || P c) = true) (h2 : ∀ c ∈ L.filter isCode, P c = true) : L.all P = true := by
  refine List.all_eq_true.mpr fun c hc => ?_
  have h := List.all_eq_true.mp h1 c hc
  rcases Bool.eq_false_or_eq_true (isCode c) with hi | hi
  · exact h2 c (List.mem_filter.mpr ⟨hc, hi⟩)
  · simpa [hi] using h
set_option maxRecDepth 65536 in
theorem w_c0 : (Jvm.Cond.code x code maxLocals ret).before args0 about1 = true := code_word (m := ⟨1, 1⟩) (meth := k1m1) (c := k1c1) (by decide +kernel) rfl rfl rfl (by decide +kernel)
set_option maxRecDepth 65536 in
theorem w_c1 : (Jvm.Cond.code ({ cls := "com/example/manyhands/manyhands/crowd/Tally", name := "<init>", desc := "()V" } : Jvm.MethodName) prog_49_method_1_code (1 : Nat) (Option.none : Option Jvm.ClassFile.FieldType)).before args0 about1 = true := code_word (m := ⟨2, 0⟩) (meth := k2m0) (c := k2c0) (by decide +kernel) rfl rfl rfl (by decide +kernel)
set_option maxRecDepth 65536 in
theorem w_c2 : (Jvm.Cond.code ({ cls := "java/lang/Object", name := "<init>", desc := "()V" } : Jvm.MethodName) object_method_1_code (1 : Nat) (Option.none : Option Jvm.ClassFile.FieldType)).before args0 about1 = true := code_word (m := ⟨0, 0⟩) (meth := k0m0) (c := k0c0) (by decide +kernel) rfl rfl rfl (by decide +kernel)
set_option maxRecDepth 65536 in
theorem w_c3 : (Jvm.Cond.code ({ cls := "java/util/LinkedHashMap", name := "<init>", desc := "()V" } : Jvm.MethodName) jdk_94_method_16_code (1 : Nat) (Option.none : Option Jvm.ClassFile.FieldType)).before args0 about1 = true := code_word (m := ⟨9, 0⟩) (meth := k9m0) (c := k9c0) (by decide +kernel) rfl rfl rfl (by decide +kernel)
set_option maxRecDepth 65536 in
theorem w_c4 : (Jvm.Cond.code ({ cls := "java/util/HashMap", name := "<init>", desc := "()V" } : Jvm.MethodName) jdk_69_method_7_code (1 : Nat) (Option.none : Option Jvm.ClassFile.FieldType)).before args0 about1 = true := code_word (m := ⟨7, 0⟩) (meth := k7m0) (c := k7c0) (by decide +kernel) rfl rfl rfl (by decide +kernel)
set_option maxRecDepth 65536 in
theorem w_c5 : (Jvm.Cond.code ({ cls := "java/util/AbstractMap", name := "<init>", desc := "()V" } : Jvm.MethodName) jdk_71_method_1_code (1 : Nat) (Option.none : Option Jvm.ClassFile.FieldType)).before args0 about1 = true := code_word (m := ⟨4, 0⟩) (meth := k4m0) (c := k4c0) (by decide +kernel) rfl rfl rfl (by decide +kernel)
set_option maxRecDepth 65536 in
theorem w_c6 : (Jvm.Cond.code ({ cls := "com/example/manyhands/manyhands/crowd/Tally", name := "questions", desc := "()J" } : Jvm.MethodName) prog_49_method_3_code (1 : Nat) (Option.some Jvm.ClassFile.FieldType.long)).before args0 about1 = true := code_word (m := ⟨2, 1⟩) (meth := k2m1) (c := k2c1) (by decide +kernel) rfl rfl rfl (by decide +kernel)
set_option maxRecDepth 65536 in
theorem w_c7 : (Jvm.Cond.code ({ cls := "com/example/manyhands/manyhands/crowd/Tally", name := "distinct", desc := "()J" } : Jvm.MethodName) prog_49_method_4_code (1 : Nat) (Option.some Jvm.ClassFile.FieldType.long)).before args0 about1 = true := code_word (m := ⟨2, 2⟩) (meth := k2m2) (c := k2c2) (by decide +kernel) rfl rfl rfl (by decide +kernel)
set_option maxRecDepth 65536 in
theorem w_c8 : (Jvm.Cond.code ({ cls := "com/example/manyhands/manyhands/crowd/Tally", name := "count", desc := "(JJ)V" } : Jvm.MethodName) prog_49_method_11_code (5 : Nat) (Option.none : Option Jvm.ClassFile.FieldType)).before args0 about1 = true := code_word (m := ⟨2, 3⟩) (meth := k2m3) (c := k2c3) (by decide +kernel) rfl rfl rfl (by decide +kernel)
def codes1 : List Jvm.Cond := [Jvm.Cond.code x code maxLocals ret, Jvm.Cond.code ({ cls := "com/example/manyhands/manyhands/crowd/Tally", name := "<init>", desc := "()V" } : Jvm.MethodName) prog_49_method_1_code (1 : Nat) (Option.none : Option Jvm.ClassFile.FieldType), Jvm.Cond.code ({ cls := "java/lang/Object", name := "<init>", desc := "()V" } : Jvm.MethodName) object_method_1_code (1 : Nat) (Option.none : Option Jvm.ClassFile.FieldType), Jvm.Cond.code ({ cls := "java/util/LinkedHashMap", name := "<init>", desc := "()V" } : Jvm.MethodName) jdk_94_method_16_code (1 : Nat) (Option.none : Option Jvm.ClassFile.FieldType), Jvm.Cond.code ({ cls := "java/util/HashMap", name := "<init>", desc := "()V" } : Jvm.MethodName) jdk_69_method_7_code (1 : Nat) (Option.none : Option Jvm.ClassFile.FieldType), Jvm.Cond.code ({ cls := "java/util/AbstractMap", name := "<init>", desc := "()V" } : Jvm.MethodName) jdk_71_method_1_code (1 : Nat) (Option.none : Option Jvm.ClassFile.FieldType), Jvm.Cond.code ({ cls := "com/example/manyhands/manyhands/crowd/Tally", name := "questions", desc := "()J" } : Jvm.MethodName) prog_49_method_3_code (1 : Nat) (Option.some Jvm.ClassFile.FieldType.long), Jvm.Cond.code ({ cls := "com/example/manyhands/manyhands/crowd/Tally", name := "distinct", desc := "()J" } : Jvm.MethodName) prog_49_method_4_code (1 : Nat) (Option.some Jvm.ClassFile.FieldType.long), Jvm.Cond.code ({ cls := "com/example/manyhands/manyhands/crowd/Tally", name := "count", desc := "(JJ)V" } : Jvm.MethodName) prog_49_method_11_code (5 : Nat) (Option.none : Option Jvm.ClassFile.FieldType)]
set_option maxRecDepth 65536 in
theorem codes_eq : words1.filter isCode = codes1 := rfl
theorem w_codes : ∀ c ∈ words1.filter isCode, c.before args0 about1 = true := by
  rw [codes_eq]
  intro c hc
  simp only [codes1, List.mem_cons, List.not_mem_nil, or_false] at hc
  rcases hc with rfl | rfl | rfl | rfl | rfl | rfl | rfl | rfl | rfl
  · exact w_c0
  · exact w_c1
  · exact w_c2
  · exact w_c3
  · exact w_c4
  · exact w_c5
  · exact w_c6
  · exact w_c7
  · exact w_c8
set_option maxRecDepth 65536 in
theorem w_t1 : (words1.take 24).all (fun c => isCode c || c.before args0 about1) = true := by decide +kernel
set_option maxRecDepth 65536 in
theorem w_t2 : ((words1.drop 24).take 24).all (fun c => isCode c || c.before args0 about1) = true := by decide +kernel
set_option maxRecDepth 65536 in
theorem w_t3 : ((words1.drop 24).drop 24).all (fun c => isCode c || c.before args0 about1) = true := by decide +kernel
theorem w_tables : (allAtoms (Jvm.Cond.code x code maxLocals ret :: tables_1)).before args0 about1 = true := by
  rw [allAtoms_all]
  show words1.all (fun c => c.before args0 about1) = true
  refine all_split ?_ w_codes
  rw [← List.take_append_drop 24 words1, List.all_append, w_t1, ← List.take_append_drop 24 (words1.drop 24), List.all_append, w_t2, w_t3]
  rfl
set_option maxRecDepth 65536 in
theorem w_case : (Jvm.Cond.and given_1 narrow_1).before args0 about1 = true := by decide +kernel
theorem w_applies : (headSpec (Jvm.Cond.code x code maxLocals ret :: tables_1) room_1).applies x e0.platform about1 = true :=
  (Spec.applies_iff w_frames).mpr ⟨w_running, w_runnable, w_alone, w_named, w_hears, w_ripe, w_room, w_tables⟩
theorem atStart : AtStart classFile x code maxLocals ret World_1 tables_1 room_1 Calls_1 rest_1 Pre_1 launch0 p0 e0 about1 theMethod args0 below0 :=
  ⟨lists_1, trivial, launch0.admits_env _ _ _, launch0.least_env, fairChoices_fair.cas, fairChoices_fair.clock, w_frames, w_args, w_heap, w_applies, trivial, trivial, w_case⟩
end start1
theorem witness_1 : WitnessClaimed_1 := ⟨start1.p0, start1.e0, start1.about1, start1.theMethod, start1.args0, start1.below0, start1.atStart⟩
end Jvm.Pilot.@@N@@
