import JvmDerived
import JvmDerived.Pilot.@@N@@Statement
import JvmDerived.Pilot.@@N@@Code
set_option linter.unusedVariables false
set_option linter.unusedSimpArgs false
namespace Jvm.Pilot.@@N@@
open Jvm Jvm.ClassFile Sem Op Lib Jvm.Free Jvm.Stand Jvm.LawKit Jvm.RoadKit Bundle Jvm.Pilot.@@N@@.Jvm.D
section Own
variable {p : Program} {l : Launch} {e : Env} {R : Room} {s : State} {m : MethodId} {args : Array Value} {below : List Frame} {meth : Method} {c : Code} {T : State} {locs : List Loc} {cells slots : Nat} {G : State → Outcome → Prop}
def Go (p : Program) (e : Env) (below : List Frame) (G : State → Outcome → Prop) (st : State) : Prop := ∃ s₂ o, Steps p.tables e below st s₂ ∧ s₂.status = .running ∧ Ended s₂ below o ∧ G s₂ o
theorem Go.st {A B : State} (k : ∀ t, Steps p.tables e below B t → Steps p.tables e below A t) (h : Go p e below G B) : Go p e below G A := by
  obtain ⟨s₂, o, h1, h2⟩ := h
  exact ⟨s₂, o, k _ h1, h2⟩
theorem Go.tr {A B : State} (k : Steps p.tables e below A B) (h : Go p e below G B) : Go p e below G A := by
  obtain ⟨s₂, o, h1, h2⟩ := h
  exact ⟨s₂, o, k.trans h1, h2⟩
theorem Go.retW (X : Stand p l e R s m args below meth c T locs cells slots) (hx : p.tables.exec = Jvm.exec) {t : FieldType} (hret : meth.sig.returnType = some t) {w : Value} {i : Instr} (hn : narrow t w = w)
    (hi : (i = .ireturn ∧ (t = .int ∨ t = .boolean ∨ t = .byte ∨ t = .char ∨ t = .short) ∧ ∃ z, w = .int z) ∨ (i = .lreturn ∧ t = .long ∧ ∃ z, w = .long z) ∨ (i = .dreturn ∧ t = .double ∧ ∃ z, w = .double z) ∨ (i = .freturn ∧ t = .float ∧ ∃ z, w = .float z) ∨ (i = .areturn ∧ t.isReference = true ∧ w.isRef = true))
    (hlk : meth.locks = false) {pc : Nat} {Ls : Array Slot} {rest : List Value} (hd : decode c.code pc = .ok (i, 1)) {C S : Nat} {Q : Option Value → Heap → List Loc → Prop} (hC : cells ≤ C) (hS : slots ≤ S) (q : Q (some w) T.heap locs) :
    Go p e below (fun s₂ o => ∃ v L, o = .returned v ∧ Q v s₂.heap L ∧ FrameEnd s o s₂ L C S) (T.setTop (mkF m pc Ls (w :: rest))) := by
  obtain ⟨fs, hr, hrun, hended, hW, hsame⟩ := X.leave (v := some w) (fun h => by rw [hret] at h; cases h) hlk
  exact ⟨_, _, retOut X hx hret hn hi hd hr, hrun, hended, _, _, rfl, q, ⟨_, rfl⟩, hW, hsame.mono hC hS⟩
theorem Go.retN (X : Stand p l e R s m args below meth c T locs cells slots) (hx : p.tables.exec = Jvm.exec) {t : FieldType} (hret : meth.sig.returnType = some t) (ht : t = .boolean ∨ t = .byte ∨ t = .char ∨ t = .short) (hlk : meth.locks = false) {pc : Nat} {Ls : Array Slot} {z : Int32} {rest : List Value} (hd : decode c.code pc = .ok (.ireturn, 1))
    {C S : Nat} {Q : Option Value → Heap → List Loc → Prop} (hC : cells ≤ C) (hS : slots ≤ S) (q : Q (some (.int (nar t z))) T.heap locs) :
    Go p e below (fun s₂ o => ∃ v L, o = .returned v ∧ Q v s₂.heap L ∧ FrameEnd s o s₂ L C S) (T.setTop (mkF m pc Ls (.int z :: rest))) := by
  obtain ⟨fs, hr, hrun, hended, hW, hsame⟩ := X.leave (v := some (.int (nar t z))) (fun h => by rw [hret] at h; cases h) hlk
  exact ⟨_, _, Jvm.RoadKit.retN X hx hret ht hd hr, hrun, hended, _, _, rfl, q, ⟨_, rfl⟩, hW, hsame.mono hC hS⟩
theorem Go.retI (X : Stand p l e R s m args below meth c T locs cells slots) (hx : p.tables.exec = Jvm.exec) (hret : meth.sig.returnType = some .int) (hlk : meth.locks = false) {pc : Nat} {Ls : Array Slot} {z : Int32} {rest : List Value} (hd : decode c.code pc = .ok (.ireturn, 1))
    {C S : Nat} {Q : Option Value → Heap → List Loc → Prop} (hC : cells ≤ C) (hS : slots ≤ S) (q : Q (some (.int z)) T.heap locs) :
    Go p e below (fun s₂ o => ∃ v L, o = .returned v ∧ Q v s₂.heap L ∧ FrameEnd s o s₂ L C S) (T.setTop (mkF m pc Ls (.int z :: rest))) :=
  Go.retW X hx hret rfl (Or.inl ⟨rfl, Or.inl rfl, z, rfl⟩) hlk hd hC hS q
theorem Go.retL (X : Stand p l e R s m args below meth c T locs cells slots) (hx : p.tables.exec = Jvm.exec) (hret : meth.sig.returnType = some .long) (hlk : meth.locks = false) {pc : Nat} {Ls : Array Slot} {z : Int64} {rest : List Value} (hd : decode c.code pc = .ok (.lreturn, 1))
    {C S : Nat} {Q : Option Value → Heap → List Loc → Prop} (hC : cells ≤ C) (hS : slots ≤ S) (q : Q (some (.long z)) T.heap locs) :
    Go p e below (fun s₂ o => ∃ v L, o = .returned v ∧ Q v s₂.heap L ∧ FrameEnd s o s₂ L C S) (T.setTop (mkF m pc Ls (.long z :: rest))) :=
  Go.retW X hx hret rfl (Or.inr (Or.inl ⟨rfl, rfl, z, rfl⟩)) hlk hd hC hS q
theorem Go.retA (X : Stand p l e R s m args below meth c T locs cells slots) (hx : p.tables.exec = Jvm.exec) {t : FieldType} (hret : meth.sig.returnType = some t) {w : Value} (ht : t.isReference = true) (hw : w.isRef = true) (hlk : meth.locks = false) {pc : Nat} {Ls : Array Slot} {rest : List Value} (hd : decode c.code pc = .ok (.areturn, 1))
    {C S : Nat} {Q : Option Value → Heap → List Loc → Prop} (hC : cells ≤ C) (hS : slots ≤ S) (q : Q (some w) T.heap locs) :
    Go p e below (fun s₂ o => ∃ v L, o = .returned v ∧ Q v s₂.heap L ∧ FrameEnd s o s₂ L C S) (T.setTop (mkF m pc Ls (w :: rest))) :=
  Go.retW X hx hret (by rcases ref_cases hw with rfl | ⟨a, rfl⟩ <;> cases t <;> first | rfl | cases ht) (Or.inr (Or.inr (Or.inr (Or.inr ⟨rfl, ht, hw⟩)))) hlk hd hC hS q
theorem Go.retV (X : Stand p l e R s m args below meth c T locs cells slots) (hx : p.tables.exec = Jvm.exec) (hret : meth.sig.returnType = none) (hlk : meth.locks = false) {pc : Nat} {Ls : Array Slot} (hd : decode c.code pc = .ok (.return_, 1))
    {C S : Nat} {Q : Option Value → Heap → List Loc → Prop} (hC : cells ≤ C) (hS : slots ≤ S) (q : Q none T.heap locs) :
    Go p e below (fun s₂ o => ∃ v L, o = .returned v ∧ Q v s₂.heap L ∧ FrameEnd s o s₂ L C S) (T.setTop (mkF m pc Ls [])) := by
  obtain ⟨fs, hr, hrun, hended, hW, hsame⟩ := X.leave (v := none) (fun _ => rfl) hlk
  exact ⟨_, _, X.returnOut hx hret hd hr, hrun, hended, _, _, rfl, q, ⟨_, rfl⟩, hW, hsame.mono hC hS⟩
end Own
theorem own_self {Z s : State} {a0 args : Array Value} {y : MethodName} {n : Nat} (hZ : Z.Warmed39 s.vm) (wi : (Cond.instantiable y.cls n).before a0 Z = true) (wp : (Cond.privateMethod y).before a0 Z = true) (wm : (Cond.instanceMethod y).before a0 Z = true) (hy : y.cls ≠ "java/lang/invoke/MethodHandle" ∧ y.cls ≠ "java/lang/invoke/VarHandle") : (Cond.selects y.cls y y).before args s = true := by
  have wi' : (Cond.instantiable y.cls n).before args s = true := mv hZ wi
  obtain ⟨c, k, i1, i2, -, i4, -⟩ := Cond.instantiable_spec wi'
  simp only [Bool.or_eq_false_iff] at i4
  exact selects_self_of_private i1 i2 i4.1 (Cond.privateMethod_at (mvP hZ wp (args := #[]))) (mv hZ wm) hy
section OwnAV
variable {Z : State} {h h' : Heap} {a b : Addr} {ty : FieldType} {n : Int32} {ws : List Addr} {sl : Nat} {v d : Value} {k : ClassId} {vs : List Value}
def AV (Z : State) (h : Heap) (a : Addr) (ty : FieldType) (n : Int32) : Prop := ∃ c : Cell, Arr Z h a c ty ∧ c.slots.size = n.toNatClampNeg ∧ ¬ n < 0 ∧ ∀ (i : Nat) (v : Value), c.slots[i]? = some v → fits ty v = true
theorem AV.lt (F : AV Z h a ty n) : a < h.size := by obtain ⟨c, A, -⟩ := F; exact A.lt
theorem AV.ext (F : AV Z h a ty n) (E : Ext h h') : AV Z h' a ty n := by obtain ⟨c, A, r⟩ := F; exact ⟨c, A.ext E, r⟩
theorem AV.other (F : AV Z h a ty n) (W : Wr h h' b sl v) (q : a ≠ b) : AV Z h' a ty n := by obtain ⟨c, A, r⟩ := F; exact ⟨c, A.other W q, r⟩
theorem AV.keep (F : AV Z h a ty n) (K : Keep h h' ws) (q : a ∉ ws) : AV Z h' a ty n := by obtain ⟨c, A, r⟩ := F; exact ⟨c, ⟨K.2.1 a c A.1 q, A.2⟩, r⟩
theorem AV.of (F : Arv Z h a k ty n vs d) : AV Z h a ty n := by
  obtain ⟨c, A, -, S, q, H, G⟩ := F
  refine ⟨c, A, S, q, fun i w hw => ?_⟩
  have hi := (Array.getElem?_eq_some_iff.mp hw).1
  have := H i hi
  rw [hw] at this
  rw [Option.some.inj this]; exact G i hi
theorem AV.new (A : Arr Z h a (newA k ty n) ty) (q : ¬ n < 0) (fd : fits ty (defaultValue ty) = true) : AV Z h a ty n := by
  refine ⟨_, A, sz_new _ _ _, q, fun i w hw => ?_⟩
  simp only [newA, Array.getElem?_replicate] at hw
  split at hw
  · cases hw; exact fd
  · cases hw
theorem AV.set {c : Cell} (A : Arr Z h a c ty) (S : c.slots.size = n.toNatClampNeg) (q : ¬ n < 0) (G : ∀ (i : Nat) (v : Value), c.slots[i]? = some v → fits ty v = true) (hv : fits ty v = true) (W : Wr h h' a sl v) : AV Z h' a ty n := by
  refine ⟨_, A.same W, by rw [sz_set]; exact S, q, fun i w hw => ?_⟩
  by_cases e : sl = i
  · subst e
    have hi := (Array.getElem?_eq_some_iff.mp hw).1
    simp only [Cell.setSlot, Array.size_setIfInBounds] at hi
    simp [Cell.setSlot, hi] at hw
    subst hw; exact hv
  · simp only [Cell.setSlot] at hw
    rw [Array.getElem?_setIfInBounds_ne e] at hw
    exact G i w hw
theorem AV.arv (F : AV Z h a ty n) (d : Value) : ∃ k vs, Arv Z h a k ty n vs d ∧ vs.length = n.toNatClampNeg := by
  obtain ⟨c, A, S, q, G⟩ := F
  refine ⟨c.cls, c.slots.toList, ⟨c, A, rfl, S, q, fun i hi => ?_, fun i hi => ?_⟩, by simpa using S⟩
  · simp [List.getD_eq_getElem?_getD, hi]
  · refine G i _ ?_
    simp [List.getD_eq_getElem?_getD, hi]
end OwnAV
theorem own_lr (x : Int32) (d : Int64) (hd : 1 ≤ d.toInt) : 1 ≤ (((x &&& (2147483647 : Int32)).toInt64 - ((x &&& (2147483647 : Int32)).toInt64 / d) * d) + (1 : Int64)).toInt ∧ (((x &&& (2147483647 : Int32)).toInt64 - ((x &&& (2147483647 : Int32)).toInt64 / d) * d) + (1 : Int64)).toInt ≤ d.toInt := by
  have h0 := (c_and x 2147483647 (by decide)).1
  generalize x &&& (2147483647 : Int32) = y at h0 ⊢
  have h1 : y.toInt64.toInt = y.toInt := Int32.toInt_toInt64 y
  have h2 := (c_lrem y.toInt64 d d.toInt rfl).1 (by omega)
  generalize y.toInt64 - (y.toInt64 / d) * d = z at h2 ⊢
  have h3 := Int.emod_nonneg y.toInt64.toInt (b := d.toInt) (by omega)
  have h4 := Int.emod_lt_of_pos y.toInt64.toInt (b := d.toInt) (by omega)
  have h5 := d.toInt_lt
  have e1 : (1 : Int64).toInt = 1 := by decide
  have h6 : (z + 1).toInt = z.toInt + 1 := by
    rw [Int64.toInt_add, e1, Int.bmod_eq_of_le (by omega) (by omega)]
  omega
theorem own_dv (y : Int64) (h1 : 1 ≤ y.toInt) (h2 : y.toInt ≤ 2147483639) : ((2147483639 : Int64) / y).toInt = 2147483639 / y.toInt ∧ 1 ≤ ((2147483639 : Int64) / y).toInt := by
  have e : (2147483639 : Int64).toInt = 2147483639 := by decide
  have hm : y ≠ -1 := fun q => by rw [q] at h1; revert h1; decide
  have h3 := (c_ldiv 2147483639 y y.toInt rfl hm).1 (by omega)
  rw [e] at h3
  refine ⟨h3, ?_⟩
  rw [h3]
  exact (Int.le_ediv_iff_mul_le (by omega)).mpr (by omega)
theorem own_nz (y : Int64) (h : 1 ≤ y.toInt) : y ≠ 0 := fun q => by rw [q] at h; revert h; decide
theorem own_ml (b c : Int64) (h1 : 1 ≤ c.toInt) (h2 : c.toInt ≤ 2147483639) (h3 : 1 ≤ b.toInt) (h4 : b.toInt ≤ ((2147483639 : Int64) / c).toInt) : 1 ≤ (b * c).toInt ∧ (b * c).toInt ≤ 2147483639 := by
  rw [(own_dv c h1 h2).1] at h4
  have h5 : b.toInt * c.toInt ≤ 2147483639 := Int.mul_le_of_le_ediv (by omega) h4
  have h6 : 1 ≤ b.toInt * c.toInt := by
    have := Int.mul_le_mul h3 h1 (by omega) (by omega : (0 : Int) ≤ b.toInt)
    omega
  have h7 : (b * c).toInt = b.toInt * c.toInt := by
    rw [Int64.toInt_mul, Int.bmod_eq_of_le (by omega) (by omega)]
  omega
theorem d1_0 : decode prog_87_method_2_code 0 = .ok (.aload_n 0, 1) := by decide +kernel
theorem d1_1 : decode prog_87_method_2_code 1 = .ok (.arraylength, 1) := by decide +kernel
theorem d1_2 : decode prog_87_method_2_code 2 = .ok (.newarray .int, 2) := by decide +kernel
theorem d1_4 : decode prog_87_method_2_code 4 = .ok (.astore_n 1, 1) := by decide +kernel
theorem d1_5 : decode prog_87_method_2_code 5 = .ok (.iconst 1, 1) := by decide +kernel
theorem d1_6 : decode prog_87_method_2_code 6 = .ok (.istore_n 2, 1) := by decide +kernel
theorem d1_7 : decode prog_87_method_2_code 7 = .ok (.aload_n 0, 1) := by decide +kernel
theorem d1_8 : decode prog_87_method_2_code 8 = .ok (.arraylength, 1) := by decide +kernel
theorem d1_9 : decode prog_87_method_2_code 9 = .ok (.iconst 1, 1) := by decide +kernel
theorem d1_10 : decode prog_87_method_2_code 10 = .ok (.isub, 1) := by decide +kernel
theorem d1_11 : decode prog_87_method_2_code 11 = .ok (.istore_n 3, 1) := by decide +kernel
theorem d1_12 : decode prog_87_method_2_code 12 = .ok (.iload_n 3, 1) := by decide +kernel
theorem d1_13 : decode prog_87_method_2_code 13 = .ok (.ifCond .lt 19, 3) := by decide +kernel
theorem d1_32 : decode prog_87_method_2_code 32 = .ok (.aload_n 1, 1) := by decide +kernel
theorem d1_33 : decode prog_87_method_2_code 33 = .ok (.areturn, 1) := by decide +kernel
theorem own_pn0 : plainName "com/example/tributary/tributary/model/CostTable" = true := by first | (simp [plainName, overriddenIn]; done) | decide +kernel
def Q_rm1_0 (Z : State) (a : Addr) (k0 : ClassId) (h0 : Heap) (n0 : Nat) (v : Option Value) (h : Heap) (L : List Loc) : Prop := ∃ b kb, v = some (.ref b) ∧ Fr n0 L ∧ Keep h0 h [] ∧ h0.size ≤ b ∧ Arv Z h b kb .int (0 : Int32) [] (.int (0 : Int32))
theorem ef_rm1_0 (m : MethodId) (a : Addr) : entryFrame m #[(.ref a)] 4 = mkF m 0 #[.val (.ref a), .unset, .unset, .unset] [] := by first | (simp [entryFrame, mkF, argsToLocals, Value.category]; done) | rfl
set_option maxRecDepth 65536 in
set_option maxHeartbeats 40000000 in
theorem rm1_0 (l : Launch) (Z : State) (a0 : Array Value) (hw : ∀ d ∈ tables_1, d.before a0 Z = true) (ws : List Jvm.Cond) (a : Addr) (k0 : ClassId) (h0 : Heap) (n0 : Nat) (Z0 : n0 ≤ h0.size) (V_a : Arv Z h0 a k0 .int (0 : Int32) [] (.int (0 : Int32))) :
    MetFree l (⟨"com/example/tributary/tributary/model/CostTable", "strides", "([I)[I"⟩ : MethodName) (head1 (Jvm.Cond.code (⟨"com/example/tributary/tributary/model/CostTable", "strides", "([I)[I"⟩ : MethodName) prog_87_method_2_code 4 (some (.array .int)) :: ws) ({ frames := 0, cells := 1, slots := 0, locals := 0 } : Room)) (fun ag_ U_ => ag_ = #[(.ref a)] ∧ Z.Warmed39 U_.vm ∧ U_.heap = h0) (fun _ _ _ _ _ => True) (fun _ U_ o_ V_ => ∃ v_ L_, o_ = .returned v_ ∧ (Q_rm1_0 Z a k0 h0 n0) v_ V_.heap L_ ∧ FrameEnd U_ o_ V_ L_ ({ frames := 0, cells := 1, slots := 0, locals := 0 } : Room).cells ({ frames := 0, cells := 1, slots := 0, locals := 0 } : Room).slots) := by
  refine MetFree.of_bodySF (plainFor_of_name own_pn0) hisR ?_
  intro p e s m args below meth c s₁ Bd hml0 hP hK
  obtain ⟨rfl, hZ, hh⟩ := hP
  have hx := Bd.exec
  have hby := Bd.bytes
  have hml : c.maxLocals = 4 := hml0
  have hown : s.vm.findClass "com/example/tributary/tributary/model/CostTable" = some m.cls := findClass_of_methodNamed Bd.named
  have hnm := (name_of_methodNamed Bd.named Bd.method).1
  have X0 : Stand p l e ({ frames := 0, cells := 1, slots := 0, locals := 0 } : Room) s m #[(.ref a)] below meth c s₁ [] 0 0 := Stand.of_body Bd
  have e0 : s₁.heap = h0 := by rw [← hh, Bd.state]; rfl
  have N0 := Fr.nil n0
  refine Go.st (G := fun s₂ o_ => ∃ v_ L_, o_ = .returned v_ ∧ (Q_rm1_0 Z a k0 h0 n0) v_ s₂.heap L_ ∧ FrameEnd s o_ s₂ L_ ({ frames := 0, cells := 1, slots := 0, locals := 0 } : Room).cells ({ frames := 0, cells := 1, slots := 0, locals := 0 } : Room).slots) (fun t kt => castTop (ef_rm1_0 m a) kt) ?_
  show Go p e below _ (s₁.setTop (mkF m 0 #[.val (.ref a), .unset, .unset, .unset] []))
  refine Go.st (fun _ kt => XS.aloadN X0.here hx rfl (hb hby d1_0) rfl rfl kt) ?_
  show Go p e below _ (s₁.setTop (mkF m 1 #[.val (.ref a), .unset, .unset, .unset] [(.ref a)]))
  obtain ⟨cl1, Ar1, -, S1, N1', -, -⟩ := id V_a
  refine Go.st (fun _ kt => X0.arraylength hx (by rw [e0]; exact Ar1.1) (State.isArrayOf_alike hZ.alike Ar1.2.1) (g := (mkF m 1 #[.val (.ref a), .unset, .unset, .unset] [(.ref a)])) rfl rfl (hb hby d1_1) _ kt) ?_
  rw [len_of S1 N1']
  show Go p e below _ (s₁.setTop (mkF m 2 #[.val (.ref a), .unset, .unset, .unset] [(.int (0 : Int32))]))
  obtain ⟨T2, h2, k2, X2, e2, E2, A2, Y2, st2⟩ := newPE X0 hx hZ (hw _ (List.mem_of_getElem? (i := 2) rfl)) e0 (g := (mkF m 2 #[.val (.ref a), .unset, .unset, .unset] [(.int (0 : Int32))])) rfl (hb hby d1_2) rfl (by decide) (cap := 0) (by decide) (by decide) (by decide) (by decide) (ad := "[I") (by decide)
  obtain ⟨b2, g2⟩ : ∃ z, z = h0.size := ⟨_, rfl⟩
  rw [← g2] at A2 Y2 st2
  have lt_a_b2 : a < b2 := Nat.lt_of_lt_of_eq V_a.lt g2.symm
  have gn_b2 : n0 ≤ b2 := Nat.le_trans Z0 (Nat.le_of_eq g2.symm)
  have Zs2 : n0 ≤ h2.size := Nat.le_trans Z0 E2.1
  have K2 : Keep h0 h2 [] := (Keep.refl h0 []).ext E2
  have kn_b2 : h0.size ≤ b2 := Nat.le_trans (Keep.refl h0 []).1 (Nat.le_of_eq g2.symm)
  refine Go.st st2 ?_
  have V2 := Arv.new A2 (by decide)
  show Go p e below _ (T2.setTop (mkF m 4 #[.val (.ref a), .unset, .unset, .unset] [(.ref b2)]))
  refine Go.st (fun _ kt => XS.astoreN X2.here hx rfl (hb hby d1_4) rfl rfl (l' := #[.val (.ref a), .val (.ref b2), .unset, .unset]) rfl kt) ?_
  show Go p e below _ (T2.setTop (mkF m 5 #[.val (.ref a), .val (.ref b2), .unset, .unset] []))
  refine Go.st (fun _ kt => XS.iconst X2.here hx rfl (hb hby d1_5) kt) ?_
  show Go p e below _ (T2.setTop (mkF m 6 #[.val (.ref a), .val (.ref b2), .unset, .unset] [(.int (1 : Int32))]))
  refine Go.st (fun _ kt => XS.istoreN X2.here hx rfl (hb hby d1_6) rfl (l' := #[.val (.ref a), .val (.ref b2), .val (.int (1 : Int32)), .unset]) rfl kt) ?_
  show Go p e below _ (T2.setTop (mkF m 7 #[.val (.ref a), .val (.ref b2), .val (.int (1 : Int32)), .unset] []))
  refine Go.st (fun _ kt => XS.aloadN X2.here hx rfl (hb hby d1_7) rfl rfl kt) ?_
  show Go p e below _ (T2.setTop (mkF m 8 #[.val (.ref a), .val (.ref b2), .val (.int (1 : Int32)), .unset] [(.ref a)]))
  have f4 := (V_a.ext E2)
  obtain ⟨cl3, Ar3, -, S3, N3', -, -⟩ := id f4
  refine Go.st (fun _ kt => X2.arraylength hx (by rw [e2]; exact Ar3.1) (State.isArrayOf_alike hZ.alike Ar3.2.1) (g := (mkF m 8 #[.val (.ref a), .val (.ref b2), .val (.int (1 : Int32)), .unset] [(.ref a)])) rfl rfl (hb hby d1_8) _ kt) ?_
  rw [len_of S3 N3']
  show Go p e below _ (T2.setTop (mkF m 9 #[.val (.ref a), .val (.ref b2), .val (.int (1 : Int32)), .unset] [(.int (0 : Int32))]))
  refine Go.st (fun _ kt => XS.iconst X2.here hx rfl (hb hby d1_9) kt) ?_
  show Go p e below _ (T2.setTop (mkF m 10 #[.val (.ref a), .val (.ref b2), .val (.int (1 : Int32)), .unset] [(.int (1 : Int32)), (.int (0 : Int32))]))
  refine Go.st (fun _ kt => XS.isub X2.here hx rfl (hb hby d1_10) rfl kt) ?_
  show Go p e below _ (T2.setTop (mkF m 11 #[.val (.ref a), .val (.ref b2), .val (.int (1 : Int32)), .unset] [(.int (-1 : Int32))]))
  refine Go.st (fun _ kt => XS.istoreN X2.here hx rfl (hb hby d1_11) rfl (l' := #[.val (.ref a), .val (.ref b2), .val (.int (1 : Int32)), .val (.int (-1 : Int32))]) rfl kt) ?_
  show Go p e below _ (T2.setTop (mkF m 12 #[.val (.ref a), .val (.ref b2), .val (.int (1 : Int32)), .val (.int (-1 : Int32))] []))
  refine Go.st (fun _ kt => XS.iloadN X2.here hx rfl (hb hby d1_12) rfl kt) ?_
  show Go p e below _ (T2.setTop (mkF m 13 #[.val (.ref a), .val (.ref b2), .val (.int (1 : Int32)), .val (.int (-1 : Int32))] [(.int (-1 : Int32))]))
  refine Go.st (fun _ kt => XS.ifYes X2.here hx rfl (pc0 := 13) (pc' := 32) rfl (hb hby d1_13) rfl ((if0 _ _).trans (tlt (by decide : (-1 : Int32) < (0 : Int32))).1) (by decide) (by decide) kt) ?_
  show Go p e below _ (T2.setTop (mkF m 32 #[.val (.ref a), .val (.ref b2), .val (.int (1 : Int32)), .val (.int (-1 : Int32))] []))
  refine Go.st (fun _ kt => XS.aloadN X2.here hx rfl (hb hby d1_32) rfl rfl kt) ?_
  show Go p e below _ (T2.setTop (mkF m 33 #[.val (.ref a), .val (.ref b2), .val (.int (1 : Int32)), .val (.int (-1 : Int32))] [(.ref b2)]))
  refine Go.retA X2 hx Bd.returns rfl rfl (BodyLoose.notSynchronized Bd) (hb hby d1_33) (Q := (Q_rm1_0 Z a k0 h0 n0)) (by decide) (by decide) ?_
  show (Q_rm1_0 Z a k0 h0 n0) _ T2.heap _
  rw [e2]
  exact ⟨b2, k2, rfl, N0, K2, kn_b2, V2⟩
theorem d1_16 : decode prog_87_method_2_code 16 = .ok (.aload_n 1, 1) := by decide +kernel
theorem d1_17 : decode prog_87_method_2_code 17 = .ok (.iload_n 3, 1) := by decide +kernel
theorem d1_18 : decode prog_87_method_2_code 18 = .ok (.iload_n 2, 1) := by decide +kernel
theorem d1_19 : decode prog_87_method_2_code 19 = .ok (.iastore, 1) := by decide +kernel
theorem d1_20 : decode prog_87_method_2_code 20 = .ok (.iload_n 2, 1) := by decide +kernel
theorem d1_21 : decode prog_87_method_2_code 21 = .ok (.aload_n 0, 1) := by decide +kernel
theorem d1_22 : decode prog_87_method_2_code 22 = .ok (.iload_n 3, 1) := by decide +kernel
theorem d1_23 : decode prog_87_method_2_code 23 = .ok (.iaload, 1) := by decide +kernel
theorem d1_24 : decode prog_87_method_2_code 24 = .ok (.imul, 1) := by decide +kernel
theorem d1_25 : decode prog_87_method_2_code 25 = .ok (.istore_n 2, 1) := by decide +kernel
theorem d1_26 : decode prog_87_method_2_code 26 = .ok (.iinc 3 (-1), 3) := by decide +kernel
theorem d1_29 : decode prog_87_method_2_code 29 = .ok (.goto (-17), 3) := by decide +kernel
def Q_rm1_1 (Z : State) (a : Addr) (k0 : ClassId) (x0 : Int32) (h0 : Heap) (n0 : Nat) (v : Option Value) (h : Heap) (L : List Loc) : Prop := ∃ b kb, v = some (.ref b) ∧ Fr n0 L ∧ Keep h0 h [] ∧ h0.size ≤ b ∧ Arv Z h b kb .int (1 : Int32) [(.int (1 : Int32))] (.int (0 : Int32))
theorem ef_rm1_1 (m : MethodId) (a : Addr) : entryFrame m #[(.ref a)] 4 = mkF m 0 #[.val (.ref a), .unset, .unset, .unset] [] := by first | (simp [entryFrame, mkF, argsToLocals, Value.category]; done) | rfl
set_option maxRecDepth 65536 in
set_option maxHeartbeats 40000000 in
theorem rm1_1 (l : Launch) (Z : State) (a0 : Array Value) (hw : ∀ d ∈ tables_1, d.before a0 Z = true) (ws : List Jvm.Cond) (a : Addr) (k0 : ClassId) (x0 : Int32) (h0 : Heap) (n0 : Nat) (Z0 : n0 ≤ h0.size) (V_a : Arv Z h0 a k0 .int (1 : Int32) [(.int x0)] (.int (0 : Int32))) :
    MetFree l (⟨"com/example/tributary/tributary/model/CostTable", "strides", "([I)[I"⟩ : MethodName) (head1 (Jvm.Cond.code (⟨"com/example/tributary/tributary/model/CostTable", "strides", "([I)[I"⟩ : MethodName) prog_87_method_2_code 4 (some (.array .int)) :: ws) ({ frames := 0, cells := 1, slots := 1, locals := 0 } : Room)) (fun ag_ U_ => ag_ = #[(.ref a)] ∧ Z.Warmed39 U_.vm ∧ U_.heap = h0) (fun _ _ _ _ _ => True) (fun _ U_ o_ V_ => ∃ v_ L_, o_ = .returned v_ ∧ (Q_rm1_1 Z a k0 x0 h0 n0) v_ V_.heap L_ ∧ FrameEnd U_ o_ V_ L_ ({ frames := 0, cells := 1, slots := 1, locals := 0 } : Room).cells ({ frames := 0, cells := 1, slots := 1, locals := 0 } : Room).slots) := by
  refine MetFree.of_bodySF (plainFor_of_name own_pn0) hisR ?_
  intro p e s m args below meth c s₁ Bd hml0 hP hK
  obtain ⟨rfl, hZ, hh⟩ := hP
  have hx := Bd.exec
  have hby := Bd.bytes
  have hml : c.maxLocals = 4 := hml0
  have hown : s.vm.findClass "com/example/tributary/tributary/model/CostTable" = some m.cls := findClass_of_methodNamed Bd.named
  have hnm := (name_of_methodNamed Bd.named Bd.method).1
  have X0 : Stand p l e ({ frames := 0, cells := 1, slots := 1, locals := 0 } : Room) s m #[(.ref a)] below meth c s₁ [] 0 0 := Stand.of_body Bd
  have e0 : s₁.heap = h0 := by rw [← hh, Bd.state]; rfl
  have N0 := Fr.nil n0
  refine Go.st (G := fun s₂ o_ => ∃ v_ L_, o_ = .returned v_ ∧ (Q_rm1_1 Z a k0 x0 h0 n0) v_ s₂.heap L_ ∧ FrameEnd s o_ s₂ L_ ({ frames := 0, cells := 1, slots := 1, locals := 0 } : Room).cells ({ frames := 0, cells := 1, slots := 1, locals := 0 } : Room).slots) (fun t kt => castTop (ef_rm1_1 m a) kt) ?_
  show Go p e below _ (s₁.setTop (mkF m 0 #[.val (.ref a), .unset, .unset, .unset] []))
  refine Go.st (fun _ kt => XS.aloadN X0.here hx rfl (hb hby d1_0) rfl rfl kt) ?_
  show Go p e below _ (s₁.setTop (mkF m 1 #[.val (.ref a), .unset, .unset, .unset] [(.ref a)]))
  obtain ⟨cl1, Ar1, -, S1, N1', -, -⟩ := id V_a
  refine Go.st (fun _ kt => X0.arraylength hx (by rw [e0]; exact Ar1.1) (State.isArrayOf_alike hZ.alike Ar1.2.1) (g := (mkF m 1 #[.val (.ref a), .unset, .unset, .unset] [(.ref a)])) rfl rfl (hb hby d1_1) _ kt) ?_
  rw [len_of S1 N1']
  show Go p e below _ (s₁.setTop (mkF m 2 #[.val (.ref a), .unset, .unset, .unset] [(.int (1 : Int32))]))
  obtain ⟨T2, h2, k2, X2, e2, E2, A2, Y2, st2⟩ := newPE X0 hx hZ (hw _ (List.mem_of_getElem? (i := 2) rfl)) e0 (g := (mkF m 2 #[.val (.ref a), .unset, .unset, .unset] [(.int (1 : Int32))])) rfl (hb hby d1_2) rfl (by decide) (cap := 1) (by decide) (by decide) (by decide) (by decide) (ad := "[I") (by decide)
  obtain ⟨b2, g2⟩ : ∃ z, z = h0.size := ⟨_, rfl⟩
  rw [← g2] at A2 Y2 st2
  have lt_a_b2 : a < b2 := Nat.lt_of_lt_of_eq V_a.lt g2.symm
  have gn_b2 : n0 ≤ b2 := Nat.le_trans Z0 (Nat.le_of_eq g2.symm)
  have Zs2 : n0 ≤ h2.size := Nat.le_trans Z0 E2.1
  have K2 : Keep h0 h2 [] := (Keep.refl h0 []).ext E2
  have kn_b2 : h0.size ≤ b2 := Nat.le_trans (Keep.refl h0 []).1 (Nat.le_of_eq g2.symm)
  refine Go.st st2 ?_
  have V2 : Arv Z h2 b2 k2 .int (1 : Int32) [(.int (0 : Int32))] (.int (0 : Int32)) := (Arv.new A2 (by decide)).pad (pad_rep [] (.int (0 : Int32)) 1)
  show Go p e below _ (T2.setTop (mkF m 4 #[.val (.ref a), .unset, .unset, .unset] [(.ref b2)]))
  refine Go.st (fun _ kt => XS.astoreN X2.here hx rfl (hb hby d1_4) rfl rfl (l' := #[.val (.ref a), .val (.ref b2), .unset, .unset]) rfl kt) ?_
  show Go p e below _ (T2.setTop (mkF m 5 #[.val (.ref a), .val (.ref b2), .unset, .unset] []))
  refine Go.st (fun _ kt => XS.iconst X2.here hx rfl (hb hby d1_5) kt) ?_
  show Go p e below _ (T2.setTop (mkF m 6 #[.val (.ref a), .val (.ref b2), .unset, .unset] [(.int (1 : Int32))]))
  refine Go.st (fun _ kt => XS.istoreN X2.here hx rfl (hb hby d1_6) rfl (l' := #[.val (.ref a), .val (.ref b2), .val (.int (1 : Int32)), .unset]) rfl kt) ?_
  show Go p e below _ (T2.setTop (mkF m 7 #[.val (.ref a), .val (.ref b2), .val (.int (1 : Int32)), .unset] []))
  refine Go.st (fun _ kt => XS.aloadN X2.here hx rfl (hb hby d1_7) rfl rfl kt) ?_
  show Go p e below _ (T2.setTop (mkF m 8 #[.val (.ref a), .val (.ref b2), .val (.int (1 : Int32)), .unset] [(.ref a)]))
  have f4 := (V_a.ext E2)
  obtain ⟨cl3, Ar3, -, S3, N3', -, -⟩ := id f4
  refine Go.st (fun _ kt => X2.arraylength hx (by rw [e2]; exact Ar3.1) (State.isArrayOf_alike hZ.alike Ar3.2.1) (g := (mkF m 8 #[.val (.ref a), .val (.ref b2), .val (.int (1 : Int32)), .unset] [(.ref a)])) rfl rfl (hb hby d1_8) _ kt) ?_
  rw [len_of S3 N3']
  show Go p e below _ (T2.setTop (mkF m 9 #[.val (.ref a), .val (.ref b2), .val (.int (1 : Int32)), .unset] [(.int (1 : Int32))]))
  refine Go.st (fun _ kt => XS.iconst X2.here hx rfl (hb hby d1_9) kt) ?_
  show Go p e below _ (T2.setTop (mkF m 10 #[.val (.ref a), .val (.ref b2), .val (.int (1 : Int32)), .unset] [(.int (1 : Int32)), (.int (1 : Int32))]))
  refine Go.st (fun _ kt => XS.isub X2.here hx rfl (hb hby d1_10) rfl kt) ?_
  show Go p e below _ (T2.setTop (mkF m 11 #[.val (.ref a), .val (.ref b2), .val (.int (1 : Int32)), .unset] [(.int (0 : Int32))]))
  refine Go.st (fun _ kt => XS.istoreN X2.here hx rfl (hb hby d1_11) rfl (l' := #[.val (.ref a), .val (.ref b2), .val (.int (1 : Int32)), .val (.int (0 : Int32))]) rfl kt) ?_
  show Go p e below _ (T2.setTop (mkF m 12 #[.val (.ref a), .val (.ref b2), .val (.int (1 : Int32)), .val (.int (0 : Int32))] []))
  refine Go.st (fun _ kt => XS.iloadN X2.here hx rfl (hb hby d1_12) rfl kt) ?_
  show Go p e below _ (T2.setTop (mkF m 13 #[.val (.ref a), .val (.ref b2), .val (.int (1 : Int32)), .val (.int (0 : Int32))] [(.int (0 : Int32))]))
  refine Go.st (fun _ kt => XS.ifNo X2.here hx rfl (hb hby d1_13) rfl ((if0 _ _).trans (flt (by decide : ¬ ((0 : Int32) < (0 : Int32)))).1) kt) ?_
  show Go p e below _ (T2.setTop (mkF m 16 #[.val (.ref a), .val (.ref b2), .val (.int (1 : Int32)), .val (.int (0 : Int32))] []))
  refine Go.st (fun _ kt => XS.aloadN X2.here hx rfl (hb hby d1_16) rfl rfl kt) ?_
  show Go p e below _ (T2.setTop (mkF m 17 #[.val (.ref a), .val (.ref b2), .val (.int (1 : Int32)), .val (.int (0 : Int32))] [(.ref b2)]))
  refine Go.st (fun _ kt => XS.iloadN X2.here hx rfl (hb hby d1_17) rfl kt) ?_
  show Go p e below _ (T2.setTop (mkF m 18 #[.val (.ref a), .val (.ref b2), .val (.int (1 : Int32)), .val (.int (0 : Int32))] [(.int (0 : Int32)), (.ref b2)]))
  refine Go.st (fun _ kt => XS.iloadN X2.here hx rfl (hb hby d1_18) rfl kt) ?_
  show Go p e below _ (T2.setTop (mkF m 19 #[.val (.ref a), .val (.ref b2), .val (.int (1 : Int32)), .val (.int (0 : Int32))] [(.int (1 : Int32)), (.int (0 : Int32)), (.ref b2)]))
  obtain ⟨cl5, Ar5, q5, S5, N5', H5, G5⟩ := id V2
  have hin5 : ¬ ((0 : Int32) < 0 ∨ cl5.slots.size ≤ ((0 : Int32)).toNatClampNeg) := inb_of S5 ⟨by decide, by decide⟩
  obtain ⟨T6, h6, X6, e6, W6, st6⟩ := stI X2 hx hZ e2 Ar5 (j := (0 : Int32)) hin5 (g := (mkF m 19 #[.val (.ref a), .val (.ref b2), .val (.int (1 : Int32)), .val (.int (0 : Int32))] [(.int (1 : Int32)), (.int (0 : Int32)), (.ref b2)])) rfl rfl (hb hby d1_19)
  refine Go.st st6 ?_
  have V6 : Arv Z h6 b2 k2 .int (1 : Int32) [(.int (1 : Int32))] (.int (0 : Int32)) := Arv.set Ar5 q5 S5 N5' H5 G5 rfl W6 0 rfl (Nat.le_of_ble_eq_true rfl)
  have Zs6 : n0 ≤ h6.size := Nat.le_trans Zs2 (Nat.le_of_eq W6.size.symm)
  have N6 := Fr.snoc X6 N0 gn_b2
  have K6 : Keep h0 h6 [] := K2.wr W6 (Or.inr kn_b2)
  show Go p e below _ (T6.setTop (mkF m 20 #[.val (.ref a), .val (.ref b2), .val (.int (1 : Int32)), .val (.int (0 : Int32))] []))
  refine Go.st (fun _ kt => XS.iloadN X6.here hx rfl (hb hby d1_20) rfl kt) ?_
  show Go p e below _ (T6.setTop (mkF m 21 #[.val (.ref a), .val (.ref b2), .val (.int (1 : Int32)), .val (.int (0 : Int32))] [(.int (1 : Int32))]))
  refine Go.st (fun _ kt => XS.aloadN X6.here hx rfl (hb hby d1_21) rfl rfl kt) ?_
  show Go p e below _ (T6.setTop (mkF m 22 #[.val (.ref a), .val (.ref b2), .val (.int (1 : Int32)), .val (.int (0 : Int32))] [(.ref a), (.int (1 : Int32))]))
  refine Go.st (fun _ kt => XS.iloadN X6.here hx rfl (hb hby d1_22) rfl kt) ?_
  show Go p e below _ (T6.setTop (mkF m 23 #[.val (.ref a), .val (.ref b2), .val (.int (1 : Int32)), .val (.int (0 : Int32))] [(.int (0 : Int32)), (.ref a), (.int (1 : Int32))]))
  have f7 := (f4.other W6 (Nat.ne_of_lt lt_a_b2))
  obtain ⟨cl8, Ar8, -, S8, N8', H8, G8⟩ := id f7
  have hin8 := inb_of S8 (j := (0 : Int32)) ⟨by decide, by decide⟩
  have hat8 := Has.at H8 hin8 (v := (.int x0)) rfl
  refine Go.st (fun _ kt => X6.iaload hx (j := (0 : Int32)) (v := (.int x0)) (by rw [e6]; exact Ar8.1) (State.isArrayOf_alike hZ.alike Ar8.2.1) Ar8.2.2 hin8 hat8 (g := (mkF m 23 #[.val (.ref a), .val (.ref b2), .val (.int (1 : Int32)), .val (.int (0 : Int32))] [(.int (0 : Int32)), (.ref a), (.int (1 : Int32))])) rfl rfl (hb hby d1_23) _ kt) ?_
  show Go p e below _ (T6.setTop (mkF m 24 #[.val (.ref a), .val (.ref b2), .val (.int (1 : Int32)), .val (.int (0 : Int32))] [(.int x0), (.int (1 : Int32))]))
  refine Go.st (fun _ kt => XS.imul X6.here hx rfl (hb hby d1_24) rfl kt) ?_
  show Go p e below _ (T6.setTop (mkF m 25 #[.val (.ref a), .val (.ref b2), .val (.int (1 : Int32)), .val (.int (0 : Int32))] [(.int ((1 : Int32) * x0))]))
  refine Go.st (fun _ kt => XS.istoreN X6.here hx rfl (hb hby d1_25) rfl (l' := #[.val (.ref a), .val (.ref b2), .val (.int ((1 : Int32) * x0)), .val (.int (0 : Int32))]) rfl kt) ?_
  show Go p e below _ (T6.setTop (mkF m 26 #[.val (.ref a), .val (.ref b2), .val (.int ((1 : Int32) * x0)), .val (.int (0 : Int32))] []))
  refine Go.st (fun _ kt => XS.iinc X6.here hx rfl (hb hby d1_26) rfl (l' := #[.val (.ref a), .val (.ref b2), .val (.int ((1 : Int32) * x0)), .val (.int (-1 : Int32))]) rfl kt) ?_
  show Go p e below _ (T6.setTop (mkF m 29 #[.val (.ref a), .val (.ref b2), .val (.int ((1 : Int32) * x0)), .val (.int (-1 : Int32))] []))
  refine Go.st (fun _ kt => XS.goto X6.here hx rfl (pc0 := 29) (pc' := 12) rfl (hb hby d1_29) (by decide) (by decide) kt) ?_
  show Go p e below _ (T6.setTop (mkF m 12 #[.val (.ref a), .val (.ref b2), .val (.int ((1 : Int32) * x0)), .val (.int (-1 : Int32))] []))
  refine Go.st (fun _ kt => XS.iloadN X6.here hx rfl (hb hby d1_12) rfl kt) ?_
  show Go p e below _ (T6.setTop (mkF m 13 #[.val (.ref a), .val (.ref b2), .val (.int ((1 : Int32) * x0)), .val (.int (-1 : Int32))] [(.int (-1 : Int32))]))
  refine Go.st (fun _ kt => XS.ifYes X6.here hx rfl (pc0 := 13) (pc' := 32) rfl (hb hby d1_13) rfl ((if0 _ _).trans (tlt (by decide : (-1 : Int32) < (0 : Int32))).1) (by decide) (by decide) kt) ?_
  show Go p e below _ (T6.setTop (mkF m 32 #[.val (.ref a), .val (.ref b2), .val (.int ((1 : Int32) * x0)), .val (.int (-1 : Int32))] []))
  refine Go.st (fun _ kt => XS.aloadN X6.here hx rfl (hb hby d1_32) rfl rfl kt) ?_
  show Go p e below _ (T6.setTop (mkF m 33 #[.val (.ref a), .val (.ref b2), .val (.int ((1 : Int32) * x0)), .val (.int (-1 : Int32))] [(.ref b2)]))
  refine Go.retA X6 hx Bd.returns rfl rfl (BodyLoose.notSynchronized Bd) (hb hby d1_33) (Q := (Q_rm1_1 Z a k0 x0 h0 n0)) (by decide) (by decide) ?_
  show (Q_rm1_1 Z a k0 x0 h0 n0) _ T6.heap _
  rw [e6]
  exact ⟨b2, k2, rfl, N6, K6, kn_b2, V6⟩
def Q_rm1_2 (Z : State) (a : Addr) (k0 : ClassId) (x0 : Int32) (x1 : Int32) (h0 : Heap) (n0 : Nat) (v : Option Value) (h : Heap) (L : List Loc) : Prop := ∃ b kb, v = some (.ref b) ∧ Fr n0 L ∧ Keep h0 h [] ∧ h0.size ≤ b ∧ Arv Z h b kb .int (2 : Int32) [(.int ((1 : Int32) * x1)), (.int (1 : Int32))] (.int (0 : Int32))
theorem ef_rm1_2 (m : MethodId) (a : Addr) : entryFrame m #[(.ref a)] 4 = mkF m 0 #[.val (.ref a), .unset, .unset, .unset] [] := by first | (simp [entryFrame, mkF, argsToLocals, Value.category]; done) | rfl
set_option maxRecDepth 65536 in
set_option maxHeartbeats 40000000 in
theorem rm1_2 (l : Launch) (Z : State) (a0 : Array Value) (hw : ∀ d ∈ tables_1, d.before a0 Z = true) (ws : List Jvm.Cond) (a : Addr) (k0 : ClassId) (x0 : Int32) (x1 : Int32) (h0 : Heap) (n0 : Nat) (Z0 : n0 ≤ h0.size) (V_a : Arv Z h0 a k0 .int (2 : Int32) [(.int x0), (.int x1)] (.int (0 : Int32))) :
    MetFree l (⟨"com/example/tributary/tributary/model/CostTable", "strides", "([I)[I"⟩ : MethodName) (head1 (Jvm.Cond.code (⟨"com/example/tributary/tributary/model/CostTable", "strides", "([I)[I"⟩ : MethodName) prog_87_method_2_code 4 (some (.array .int)) :: ws) ({ frames := 0, cells := 1, slots := 2, locals := 0 } : Room)) (fun ag_ U_ => ag_ = #[(.ref a)] ∧ Z.Warmed39 U_.vm ∧ U_.heap = h0) (fun _ _ _ _ _ => True) (fun _ U_ o_ V_ => ∃ v_ L_, o_ = .returned v_ ∧ (Q_rm1_2 Z a k0 x0 x1 h0 n0) v_ V_.heap L_ ∧ FrameEnd U_ o_ V_ L_ ({ frames := 0, cells := 1, slots := 2, locals := 0 } : Room).cells ({ frames := 0, cells := 1, slots := 2, locals := 0 } : Room).slots) := by
  refine MetFree.of_bodySF (plainFor_of_name own_pn0) hisR ?_
  intro p e s m args below meth c s₁ Bd hml0 hP hK
  obtain ⟨rfl, hZ, hh⟩ := hP
  have hx := Bd.exec
  have hby := Bd.bytes
  have hml : c.maxLocals = 4 := hml0
  have hown : s.vm.findClass "com/example/tributary/tributary/model/CostTable" = some m.cls := findClass_of_methodNamed Bd.named
  have hnm := (name_of_methodNamed Bd.named Bd.method).1
  have X0 : Stand p l e ({ frames := 0, cells := 1, slots := 2, locals := 0 } : Room) s m #[(.ref a)] below meth c s₁ [] 0 0 := Stand.of_body Bd
  have e0 : s₁.heap = h0 := by rw [← hh, Bd.state]; rfl
  have N0 := Fr.nil n0
  refine Go.st (G := fun s₂ o_ => ∃ v_ L_, o_ = .returned v_ ∧ (Q_rm1_2 Z a k0 x0 x1 h0 n0) v_ s₂.heap L_ ∧ FrameEnd s o_ s₂ L_ ({ frames := 0, cells := 1, slots := 2, locals := 0 } : Room).cells ({ frames := 0, cells := 1, slots := 2, locals := 0 } : Room).slots) (fun t kt => castTop (ef_rm1_2 m a) kt) ?_
  show Go p e below _ (s₁.setTop (mkF m 0 #[.val (.ref a), .unset, .unset, .unset] []))
  refine Go.st (fun _ kt => XS.aloadN X0.here hx rfl (hb hby d1_0) rfl rfl kt) ?_
  show Go p e below _ (s₁.setTop (mkF m 1 #[.val (.ref a), .unset, .unset, .unset] [(.ref a)]))
  obtain ⟨cl1, Ar1, -, S1, N1', -, -⟩ := id V_a
  refine Go.st (fun _ kt => X0.arraylength hx (by rw [e0]; exact Ar1.1) (State.isArrayOf_alike hZ.alike Ar1.2.1) (g := (mkF m 1 #[.val (.ref a), .unset, .unset, .unset] [(.ref a)])) rfl rfl (hb hby d1_1) _ kt) ?_
  rw [len_of S1 N1']
  show Go p e below _ (s₁.setTop (mkF m 2 #[.val (.ref a), .unset, .unset, .unset] [(.int (2 : Int32))]))
  obtain ⟨T2, h2, k2, X2, e2, E2, A2, Y2, st2⟩ := newPE X0 hx hZ (hw _ (List.mem_of_getElem? (i := 2) rfl)) e0 (g := (mkF m 2 #[.val (.ref a), .unset, .unset, .unset] [(.int (2 : Int32))])) rfl (hb hby d1_2) rfl (by decide) (cap := 2) (by decide) (by decide) (by decide) (by decide) (ad := "[I") (by decide)
  obtain ⟨b2, g2⟩ : ∃ z, z = h0.size := ⟨_, rfl⟩
  rw [← g2] at A2 Y2 st2
  have lt_a_b2 : a < b2 := Nat.lt_of_lt_of_eq V_a.lt g2.symm
  have gn_b2 : n0 ≤ b2 := Nat.le_trans Z0 (Nat.le_of_eq g2.symm)
  have Zs2 : n0 ≤ h2.size := Nat.le_trans Z0 E2.1
  have K2 : Keep h0 h2 [] := (Keep.refl h0 []).ext E2
  have kn_b2 : h0.size ≤ b2 := Nat.le_trans (Keep.refl h0 []).1 (Nat.le_of_eq g2.symm)
  refine Go.st st2 ?_
  have V2 : Arv Z h2 b2 k2 .int (2 : Int32) [(.int (0 : Int32)), (.int (0 : Int32))] (.int (0 : Int32)) := (Arv.new A2 (by decide)).pad (pad_rep [] (.int (0 : Int32)) 2)
  show Go p e below _ (T2.setTop (mkF m 4 #[.val (.ref a), .unset, .unset, .unset] [(.ref b2)]))
  refine Go.st (fun _ kt => XS.astoreN X2.here hx rfl (hb hby d1_4) rfl rfl (l' := #[.val (.ref a), .val (.ref b2), .unset, .unset]) rfl kt) ?_
  show Go p e below _ (T2.setTop (mkF m 5 #[.val (.ref a), .val (.ref b2), .unset, .unset] []))
  refine Go.st (fun _ kt => XS.iconst X2.here hx rfl (hb hby d1_5) kt) ?_
  show Go p e below _ (T2.setTop (mkF m 6 #[.val (.ref a), .val (.ref b2), .unset, .unset] [(.int (1 : Int32))]))
  refine Go.st (fun _ kt => XS.istoreN X2.here hx rfl (hb hby d1_6) rfl (l' := #[.val (.ref a), .val (.ref b2), .val (.int (1 : Int32)), .unset]) rfl kt) ?_
  show Go p e below _ (T2.setTop (mkF m 7 #[.val (.ref a), .val (.ref b2), .val (.int (1 : Int32)), .unset] []))
  refine Go.st (fun _ kt => XS.aloadN X2.here hx rfl (hb hby d1_7) rfl rfl kt) ?_
  show Go p e below _ (T2.setTop (mkF m 8 #[.val (.ref a), .val (.ref b2), .val (.int (1 : Int32)), .unset] [(.ref a)]))
  have f4 := (V_a.ext E2)
  obtain ⟨cl3, Ar3, -, S3, N3', -, -⟩ := id f4
  refine Go.st (fun _ kt => X2.arraylength hx (by rw [e2]; exact Ar3.1) (State.isArrayOf_alike hZ.alike Ar3.2.1) (g := (mkF m 8 #[.val (.ref a), .val (.ref b2), .val (.int (1 : Int32)), .unset] [(.ref a)])) rfl rfl (hb hby d1_8) _ kt) ?_
  rw [len_of S3 N3']
  show Go p e below _ (T2.setTop (mkF m 9 #[.val (.ref a), .val (.ref b2), .val (.int (1 : Int32)), .unset] [(.int (2 : Int32))]))
  refine Go.st (fun _ kt => XS.iconst X2.here hx rfl (hb hby d1_9) kt) ?_
  show Go p e below _ (T2.setTop (mkF m 10 #[.val (.ref a), .val (.ref b2), .val (.int (1 : Int32)), .unset] [(.int (1 : Int32)), (.int (2 : Int32))]))
  refine Go.st (fun _ kt => XS.isub X2.here hx rfl (hb hby d1_10) rfl kt) ?_
  show Go p e below _ (T2.setTop (mkF m 11 #[.val (.ref a), .val (.ref b2), .val (.int (1 : Int32)), .unset] [(.int (1 : Int32))]))
  refine Go.st (fun _ kt => XS.istoreN X2.here hx rfl (hb hby d1_11) rfl (l' := #[.val (.ref a), .val (.ref b2), .val (.int (1 : Int32)), .val (.int (1 : Int32))]) rfl kt) ?_
  show Go p e below _ (T2.setTop (mkF m 12 #[.val (.ref a), .val (.ref b2), .val (.int (1 : Int32)), .val (.int (1 : Int32))] []))
  refine Go.st (fun _ kt => XS.iloadN X2.here hx rfl (hb hby d1_12) rfl kt) ?_
  show Go p e below _ (T2.setTop (mkF m 13 #[.val (.ref a), .val (.ref b2), .val (.int (1 : Int32)), .val (.int (1 : Int32))] [(.int (1 : Int32))]))
  refine Go.st (fun _ kt => XS.ifNo X2.here hx rfl (hb hby d1_13) rfl ((if0 _ _).trans (flt (by decide : ¬ ((1 : Int32) < (0 : Int32)))).1) kt) ?_
  show Go p e below _ (T2.setTop (mkF m 16 #[.val (.ref a), .val (.ref b2), .val (.int (1 : Int32)), .val (.int (1 : Int32))] []))
  refine Go.st (fun _ kt => XS.aloadN X2.here hx rfl (hb hby d1_16) rfl rfl kt) ?_
  show Go p e below _ (T2.setTop (mkF m 17 #[.val (.ref a), .val (.ref b2), .val (.int (1 : Int32)), .val (.int (1 : Int32))] [(.ref b2)]))
  refine Go.st (fun _ kt => XS.iloadN X2.here hx rfl (hb hby d1_17) rfl kt) ?_
  show Go p e below _ (T2.setTop (mkF m 18 #[.val (.ref a), .val (.ref b2), .val (.int (1 : Int32)), .val (.int (1 : Int32))] [(.int (1 : Int32)), (.ref b2)]))
  refine Go.st (fun _ kt => XS.iloadN X2.here hx rfl (hb hby d1_18) rfl kt) ?_
  show Go p e below _ (T2.setTop (mkF m 19 #[.val (.ref a), .val (.ref b2), .val (.int (1 : Int32)), .val (.int (1 : Int32))] [(.int (1 : Int32)), (.int (1 : Int32)), (.ref b2)]))
  obtain ⟨cl5, Ar5, q5, S5, N5', H5, G5⟩ := id V2
  have hin5 : ¬ ((1 : Int32) < 0 ∨ cl5.slots.size ≤ ((1 : Int32)).toNatClampNeg) := inb_of S5 ⟨by decide, by decide⟩
  obtain ⟨T6, h6, X6, e6, W6, st6⟩ := stI X2 hx hZ e2 Ar5 (j := (1 : Int32)) hin5 (g := (mkF m 19 #[.val (.ref a), .val (.ref b2), .val (.int (1 : Int32)), .val (.int (1 : Int32))] [(.int (1 : Int32)), (.int (1 : Int32)), (.ref b2)])) rfl rfl (hb hby d1_19)
  refine Go.st st6 ?_
  have V6 : Arv Z h6 b2 k2 .int (2 : Int32) [(.int (0 : Int32)), (.int (1 : Int32))] (.int (0 : Int32)) := Arv.set Ar5 q5 S5 N5' H5 G5 rfl W6 1 rfl (Nat.le_of_ble_eq_true rfl)
  have Zs6 : n0 ≤ h6.size := Nat.le_trans Zs2 (Nat.le_of_eq W6.size.symm)
  have N6 := Fr.snoc X6 N0 gn_b2
  have K6 : Keep h0 h6 [] := K2.wr W6 (Or.inr kn_b2)
  show Go p e below _ (T6.setTop (mkF m 20 #[.val (.ref a), .val (.ref b2), .val (.int (1 : Int32)), .val (.int (1 : Int32))] []))
  refine Go.st (fun _ kt => XS.iloadN X6.here hx rfl (hb hby d1_20) rfl kt) ?_
  show Go p e below _ (T6.setTop (mkF m 21 #[.val (.ref a), .val (.ref b2), .val (.int (1 : Int32)), .val (.int (1 : Int32))] [(.int (1 : Int32))]))
  refine Go.st (fun _ kt => XS.aloadN X6.here hx rfl (hb hby d1_21) rfl rfl kt) ?_
  show Go p e below _ (T6.setTop (mkF m 22 #[.val (.ref a), .val (.ref b2), .val (.int (1 : Int32)), .val (.int (1 : Int32))] [(.ref a), (.int (1 : Int32))]))
  refine Go.st (fun _ kt => XS.iloadN X6.here hx rfl (hb hby d1_22) rfl kt) ?_
  show Go p e below _ (T6.setTop (mkF m 23 #[.val (.ref a), .val (.ref b2), .val (.int (1 : Int32)), .val (.int (1 : Int32))] [(.int (1 : Int32)), (.ref a), (.int (1 : Int32))]))
  have f7 := (f4.other W6 (Nat.ne_of_lt lt_a_b2))
  obtain ⟨cl8, Ar8, -, S8, N8', H8, G8⟩ := id f7
  have hin8 := inb_of S8 (j := (1 : Int32)) ⟨by decide, by decide⟩
  have hat8 := Has.at H8 hin8 (v := (.int x1)) rfl
  refine Go.st (fun _ kt => X6.iaload hx (j := (1 : Int32)) (v := (.int x1)) (by rw [e6]; exact Ar8.1) (State.isArrayOf_alike hZ.alike Ar8.2.1) Ar8.2.2 hin8 hat8 (g := (mkF m 23 #[.val (.ref a), .val (.ref b2), .val (.int (1 : Int32)), .val (.int (1 : Int32))] [(.int (1 : Int32)), (.ref a), (.int (1 : Int32))])) rfl rfl (hb hby d1_23) _ kt) ?_
  show Go p e below _ (T6.setTop (mkF m 24 #[.val (.ref a), .val (.ref b2), .val (.int (1 : Int32)), .val (.int (1 : Int32))] [(.int x1), (.int (1 : Int32))]))
  refine Go.st (fun _ kt => XS.imul X6.here hx rfl (hb hby d1_24) rfl kt) ?_
  show Go p e below _ (T6.setTop (mkF m 25 #[.val (.ref a), .val (.ref b2), .val (.int (1 : Int32)), .val (.int (1 : Int32))] [(.int ((1 : Int32) * x1))]))
  refine Go.st (fun _ kt => XS.istoreN X6.here hx rfl (hb hby d1_25) rfl (l' := #[.val (.ref a), .val (.ref b2), .val (.int ((1 : Int32) * x1)), .val (.int (1 : Int32))]) rfl kt) ?_
  show Go p e below _ (T6.setTop (mkF m 26 #[.val (.ref a), .val (.ref b2), .val (.int ((1 : Int32) * x1)), .val (.int (1 : Int32))] []))
  refine Go.st (fun _ kt => XS.iinc X6.here hx rfl (hb hby d1_26) rfl (l' := #[.val (.ref a), .val (.ref b2), .val (.int ((1 : Int32) * x1)), .val (.int (0 : Int32))]) rfl kt) ?_
  show Go p e below _ (T6.setTop (mkF m 29 #[.val (.ref a), .val (.ref b2), .val (.int ((1 : Int32) * x1)), .val (.int (0 : Int32))] []))
  refine Go.st (fun _ kt => XS.goto X6.here hx rfl (pc0 := 29) (pc' := 12) rfl (hb hby d1_29) (by decide) (by decide) kt) ?_
  show Go p e below _ (T6.setTop (mkF m 12 #[.val (.ref a), .val (.ref b2), .val (.int ((1 : Int32) * x1)), .val (.int (0 : Int32))] []))
  refine Go.st (fun _ kt => XS.iloadN X6.here hx rfl (hb hby d1_12) rfl kt) ?_
  show Go p e below _ (T6.setTop (mkF m 13 #[.val (.ref a), .val (.ref b2), .val (.int ((1 : Int32) * x1)), .val (.int (0 : Int32))] [(.int (0 : Int32))]))
  refine Go.st (fun _ kt => XS.ifNo X6.here hx rfl (hb hby d1_13) rfl ((if0 _ _).trans (flt (by decide : ¬ ((0 : Int32) < (0 : Int32)))).1) kt) ?_
  show Go p e below _ (T6.setTop (mkF m 16 #[.val (.ref a), .val (.ref b2), .val (.int ((1 : Int32) * x1)), .val (.int (0 : Int32))] []))
  refine Go.st (fun _ kt => XS.aloadN X6.here hx rfl (hb hby d1_16) rfl rfl kt) ?_
  show Go p e below _ (T6.setTop (mkF m 17 #[.val (.ref a), .val (.ref b2), .val (.int ((1 : Int32) * x1)), .val (.int (0 : Int32))] [(.ref b2)]))
  refine Go.st (fun _ kt => XS.iloadN X6.here hx rfl (hb hby d1_17) rfl kt) ?_
  show Go p e below _ (T6.setTop (mkF m 18 #[.val (.ref a), .val (.ref b2), .val (.int ((1 : Int32) * x1)), .val (.int (0 : Int32))] [(.int (0 : Int32)), (.ref b2)]))
  refine Go.st (fun _ kt => XS.iloadN X6.here hx rfl (hb hby d1_18) rfl kt) ?_
  show Go p e below _ (T6.setTop (mkF m 19 #[.val (.ref a), .val (.ref b2), .val (.int ((1 : Int32) * x1)), .val (.int (0 : Int32))] [(.int ((1 : Int32) * x1)), (.int (0 : Int32)), (.ref b2)]))
  obtain ⟨cl9, Ar9, q9, S9, N9', H9, G9⟩ := id V6
  have hin9 : ¬ ((0 : Int32) < 0 ∨ cl9.slots.size ≤ ((0 : Int32)).toNatClampNeg) := inb_of S9 ⟨by decide, by decide⟩
  obtain ⟨T10, h10, X10, e10, W10, st10⟩ := stI X6 hx hZ e6 Ar9 (j := (0 : Int32)) hin9 (g := (mkF m 19 #[.val (.ref a), .val (.ref b2), .val (.int ((1 : Int32) * x1)), .val (.int (0 : Int32))] [(.int ((1 : Int32) * x1)), (.int (0 : Int32)), (.ref b2)])) rfl rfl (hb hby d1_19)
  refine Go.st st10 ?_
  have V10 : Arv Z h10 b2 k2 .int (2 : Int32) [(.int ((1 : Int32) * x1)), (.int (1 : Int32))] (.int (0 : Int32)) := Arv.set Ar9 q9 S9 N9' H9 G9 rfl W10 0 rfl (Nat.le_of_ble_eq_true rfl)
  have Zs10 : n0 ≤ h10.size := Nat.le_trans Zs6 (Nat.le_of_eq W10.size.symm)
  have N10 := Fr.snoc X10 N6 gn_b2
  have K10 : Keep h0 h10 [] := K6.wr W10 (Or.inr kn_b2)
  show Go p e below _ (T10.setTop (mkF m 20 #[.val (.ref a), .val (.ref b2), .val (.int ((1 : Int32) * x1)), .val (.int (0 : Int32))] []))
  refine Go.st (fun _ kt => XS.iloadN X10.here hx rfl (hb hby d1_20) rfl kt) ?_
  show Go p e below _ (T10.setTop (mkF m 21 #[.val (.ref a), .val (.ref b2), .val (.int ((1 : Int32) * x1)), .val (.int (0 : Int32))] [(.int ((1 : Int32) * x1))]))
  refine Go.st (fun _ kt => XS.aloadN X10.here hx rfl (hb hby d1_21) rfl rfl kt) ?_
  show Go p e below _ (T10.setTop (mkF m 22 #[.val (.ref a), .val (.ref b2), .val (.int ((1 : Int32) * x1)), .val (.int (0 : Int32))] [(.ref a), (.int ((1 : Int32) * x1))]))
  refine Go.st (fun _ kt => XS.iloadN X10.here hx rfl (hb hby d1_22) rfl kt) ?_
  show Go p e below _ (T10.setTop (mkF m 23 #[.val (.ref a), .val (.ref b2), .val (.int ((1 : Int32) * x1)), .val (.int (0 : Int32))] [(.int (0 : Int32)), (.ref a), (.int ((1 : Int32) * x1))]))
  have f11 := (f7.other W10 (Nat.ne_of_lt lt_a_b2))
  obtain ⟨cl12, Ar12, -, S12, N12', H12, G12⟩ := id f11
  have hin12 := inb_of S12 (j := (0 : Int32)) ⟨by decide, by decide⟩
  have hat12 := Has.at H12 hin12 (v := (.int x0)) rfl
  refine Go.st (fun _ kt => X10.iaload hx (j := (0 : Int32)) (v := (.int x0)) (by rw [e10]; exact Ar12.1) (State.isArrayOf_alike hZ.alike Ar12.2.1) Ar12.2.2 hin12 hat12 (g := (mkF m 23 #[.val (.ref a), .val (.ref b2), .val (.int ((1 : Int32) * x1)), .val (.int (0 : Int32))] [(.int (0 : Int32)), (.ref a), (.int ((1 : Int32) * x1))])) rfl rfl (hb hby d1_23) _ kt) ?_
  show Go p e below _ (T10.setTop (mkF m 24 #[.val (.ref a), .val (.ref b2), .val (.int ((1 : Int32) * x1)), .val (.int (0 : Int32))] [(.int x0), (.int ((1 : Int32) * x1))]))
  refine Go.st (fun _ kt => XS.imul X10.here hx rfl (hb hby d1_24) rfl kt) ?_
  show Go p e below _ (T10.setTop (mkF m 25 #[.val (.ref a), .val (.ref b2), .val (.int ((1 : Int32) * x1)), .val (.int (0 : Int32))] [(.int (((1 : Int32) * x1) * x0))]))
  refine Go.st (fun _ kt => XS.istoreN X10.here hx rfl (hb hby d1_25) rfl (l' := #[.val (.ref a), .val (.ref b2), .val (.int (((1 : Int32) * x1) * x0)), .val (.int (0 : Int32))]) rfl kt) ?_
  show Go p e below _ (T10.setTop (mkF m 26 #[.val (.ref a), .val (.ref b2), .val (.int (((1 : Int32) * x1) * x0)), .val (.int (0 : Int32))] []))
  refine Go.st (fun _ kt => XS.iinc X10.here hx rfl (hb hby d1_26) rfl (l' := #[.val (.ref a), .val (.ref b2), .val (.int (((1 : Int32) * x1) * x0)), .val (.int (-1 : Int32))]) rfl kt) ?_
  show Go p e below _ (T10.setTop (mkF m 29 #[.val (.ref a), .val (.ref b2), .val (.int (((1 : Int32) * x1) * x0)), .val (.int (-1 : Int32))] []))
  refine Go.st (fun _ kt => XS.goto X10.here hx rfl (pc0 := 29) (pc' := 12) rfl (hb hby d1_29) (by decide) (by decide) kt) ?_
  show Go p e below _ (T10.setTop (mkF m 12 #[.val (.ref a), .val (.ref b2), .val (.int (((1 : Int32) * x1) * x0)), .val (.int (-1 : Int32))] []))
  refine Go.st (fun _ kt => XS.iloadN X10.here hx rfl (hb hby d1_12) rfl kt) ?_
  show Go p e below _ (T10.setTop (mkF m 13 #[.val (.ref a), .val (.ref b2), .val (.int (((1 : Int32) * x1) * x0)), .val (.int (-1 : Int32))] [(.int (-1 : Int32))]))
  refine Go.st (fun _ kt => XS.ifYes X10.here hx rfl (pc0 := 13) (pc' := 32) rfl (hb hby d1_13) rfl ((if0 _ _).trans (tlt (by decide : (-1 : Int32) < (0 : Int32))).1) (by decide) (by decide) kt) ?_
  show Go p e below _ (T10.setTop (mkF m 32 #[.val (.ref a), .val (.ref b2), .val (.int (((1 : Int32) * x1) * x0)), .val (.int (-1 : Int32))] []))
  refine Go.st (fun _ kt => XS.aloadN X10.here hx rfl (hb hby d1_32) rfl rfl kt) ?_
  show Go p e below _ (T10.setTop (mkF m 33 #[.val (.ref a), .val (.ref b2), .val (.int (((1 : Int32) * x1) * x0)), .val (.int (-1 : Int32))] [(.ref b2)]))
  refine Go.retA X10 hx Bd.returns rfl rfl (BodyLoose.notSynchronized Bd) (hb hby d1_33) (Q := (Q_rm1_2 Z a k0 x0 x1 h0 n0)) (by decide) (by decide) ?_
  show (Q_rm1_2 Z a k0 x0 x1 h0 n0) _ T10.heap _
  rw [e10]
  exact ⟨b2, k2, rfl, N10, K10, kn_b2, V10⟩
def Q_rm1_3 (Z : State) (a : Addr) (k0 : ClassId) (x0 : Int32) (x1 : Int32) (x2 : Int32) (h0 : Heap) (n0 : Nat) (v : Option Value) (h : Heap) (L : List Loc) : Prop := ∃ b kb, v = some (.ref b) ∧ Fr n0 L ∧ Keep h0 h [] ∧ h0.size ≤ b ∧ Arv Z h b kb .int (3 : Int32) [(.int (((1 : Int32) * x2) * x1)), (.int ((1 : Int32) * x2)), (.int (1 : Int32))] (.int (0 : Int32))
theorem ef_rm1_3 (m : MethodId) (a : Addr) : entryFrame m #[(.ref a)] 4 = mkF m 0 #[.val (.ref a), .unset, .unset, .unset] [] := by first | (simp [entryFrame, mkF, argsToLocals, Value.category]; done) | rfl
set_option maxRecDepth 65536 in
set_option maxHeartbeats 40000000 in
theorem rm1_3 (l : Launch) (Z : State) (a0 : Array Value) (hw : ∀ d ∈ tables_1, d.before a0 Z = true) (ws : List Jvm.Cond) (a : Addr) (k0 : ClassId) (x0 : Int32) (x1 : Int32) (x2 : Int32) (h0 : Heap) (n0 : Nat) (Z0 : n0 ≤ h0.size) (V_a : Arv Z h0 a k0 .int (3 : Int32) [(.int x0), (.int x1), (.int x2)] (.int (0 : Int32))) :
    MetFree l (⟨"com/example/tributary/tributary/model/CostTable", "strides", "([I)[I"⟩ : MethodName) (head1 (Jvm.Cond.code (⟨"com/example/tributary/tributary/model/CostTable", "strides", "([I)[I"⟩ : MethodName) prog_87_method_2_code 4 (some (.array .int)) :: ws) ({ frames := 0, cells := 1, slots := 3, locals := 0 } : Room)) (fun ag_ U_ => ag_ = #[(.ref a)] ∧ Z.Warmed39 U_.vm ∧ U_.heap = h0) (fun _ _ _ _ _ => True) (fun _ U_ o_ V_ => ∃ v_ L_, o_ = .returned v_ ∧ (Q_rm1_3 Z a k0 x0 x1 x2 h0 n0) v_ V_.heap L_ ∧ FrameEnd U_ o_ V_ L_ ({ frames := 0, cells := 1, slots := 3, locals := 0 } : Room).cells ({ frames := 0, cells := 1, slots := 3, locals := 0 } : Room).slots) := by
  refine MetFree.of_bodySF (plainFor_of_name own_pn0) hisR ?_
  intro p e s m args below meth c s₁ Bd hml0 hP hK
  obtain ⟨rfl, hZ, hh⟩ := hP
  have hx := Bd.exec
  have hby := Bd.bytes
  have hml : c.maxLocals = 4 := hml0
  have hown : s.vm.findClass "com/example/tributary/tributary/model/CostTable" = some m.cls := findClass_of_methodNamed Bd.named
  have hnm := (name_of_methodNamed Bd.named Bd.method).1
  have X0 : Stand p l e ({ frames := 0, cells := 1, slots := 3, locals := 0 } : Room) s m #[(.ref a)] below meth c s₁ [] 0 0 := Stand.of_body Bd
  have e0 : s₁.heap = h0 := by rw [← hh, Bd.state]; rfl
  have N0 := Fr.nil n0
  refine Go.st (G := fun s₂ o_ => ∃ v_ L_, o_ = .returned v_ ∧ (Q_rm1_3 Z a k0 x0 x1 x2 h0 n0) v_ s₂.heap L_ ∧ FrameEnd s o_ s₂ L_ ({ frames := 0, cells := 1, slots := 3, locals := 0 } : Room).cells ({ frames := 0, cells := 1, slots := 3, locals := 0 } : Room).slots) (fun t kt => castTop (ef_rm1_3 m a) kt) ?_
  show Go p e below _ (s₁.setTop (mkF m 0 #[.val (.ref a), .unset, .unset, .unset] []))
  refine Go.st (fun _ kt => XS.aloadN X0.here hx rfl (hb hby d1_0) rfl rfl kt) ?_
  show Go p e below _ (s₁.setTop (mkF m 1 #[.val (.ref a), .unset, .unset, .unset] [(.ref a)]))
  obtain ⟨cl1, Ar1, -, S1, N1', -, -⟩ := id V_a
  refine Go.st (fun _ kt => X0.arraylength hx (by rw [e0]; exact Ar1.1) (State.isArrayOf_alike hZ.alike Ar1.2.1) (g := (mkF m 1 #[.val (.ref a), .unset, .unset, .unset] [(.ref a)])) rfl rfl (hb hby d1_1) _ kt) ?_
  rw [len_of S1 N1']
  show Go p e below _ (s₁.setTop (mkF m 2 #[.val (.ref a), .unset, .unset, .unset] [(.int (3 : Int32))]))
  obtain ⟨T2, h2, k2, X2, e2, E2, A2, Y2, st2⟩ := newPE X0 hx hZ (hw _ (List.mem_of_getElem? (i := 2) rfl)) e0 (g := (mkF m 2 #[.val (.ref a), .unset, .unset, .unset] [(.int (3 : Int32))])) rfl (hb hby d1_2) rfl (by decide) (cap := 3) (by decide) (by decide) (by decide) (by decide) (ad := "[I") (by decide)
  obtain ⟨b2, g2⟩ : ∃ z, z = h0.size := ⟨_, rfl⟩
  rw [← g2] at A2 Y2 st2
  have lt_a_b2 : a < b2 := Nat.lt_of_lt_of_eq V_a.lt g2.symm
  have gn_b2 : n0 ≤ b2 := Nat.le_trans Z0 (Nat.le_of_eq g2.symm)
  have Zs2 : n0 ≤ h2.size := Nat.le_trans Z0 E2.1
  have K2 : Keep h0 h2 [] := (Keep.refl h0 []).ext E2
  have kn_b2 : h0.size ≤ b2 := Nat.le_trans (Keep.refl h0 []).1 (Nat.le_of_eq g2.symm)
  refine Go.st st2 ?_
  have V2 : Arv Z h2 b2 k2 .int (3 : Int32) [(.int (0 : Int32)), (.int (0 : Int32)), (.int (0 : Int32))] (.int (0 : Int32)) := (Arv.new A2 (by decide)).pad (pad_rep [] (.int (0 : Int32)) 3)
  show Go p e below _ (T2.setTop (mkF m 4 #[.val (.ref a), .unset, .unset, .unset] [(.ref b2)]))
  refine Go.st (fun _ kt => XS.astoreN X2.here hx rfl (hb hby d1_4) rfl rfl (l' := #[.val (.ref a), .val (.ref b2), .unset, .unset]) rfl kt) ?_
  show Go p e below _ (T2.setTop (mkF m 5 #[.val (.ref a), .val (.ref b2), .unset, .unset] []))
  refine Go.st (fun _ kt => XS.iconst X2.here hx rfl (hb hby d1_5) kt) ?_
  show Go p e below _ (T2.setTop (mkF m 6 #[.val (.ref a), .val (.ref b2), .unset, .unset] [(.int (1 : Int32))]))
  refine Go.st (fun _ kt => XS.istoreN X2.here hx rfl (hb hby d1_6) rfl (l' := #[.val (.ref a), .val (.ref b2), .val (.int (1 : Int32)), .unset]) rfl kt) ?_
  show Go p e below _ (T2.setTop (mkF m 7 #[.val (.ref a), .val (.ref b2), .val (.int (1 : Int32)), .unset] []))
  refine Go.st (fun _ kt => XS.aloadN X2.here hx rfl (hb hby d1_7) rfl rfl kt) ?_
  show Go p e below _ (T2.setTop (mkF m 8 #[.val (.ref a), .val (.ref b2), .val (.int (1 : Int32)), .unset] [(.ref a)]))
  have f4 := (V_a.ext E2)
  obtain ⟨cl3, Ar3, -, S3, N3', -, -⟩ := id f4
  refine Go.st (fun _ kt => X2.arraylength hx (by rw [e2]; exact Ar3.1) (State.isArrayOf_alike hZ.alike Ar3.2.1) (g := (mkF m 8 #[.val (.ref a), .val (.ref b2), .val (.int (1 : Int32)), .unset] [(.ref a)])) rfl rfl (hb hby d1_8) _ kt) ?_
  rw [len_of S3 N3']
  show Go p e below _ (T2.setTop (mkF m 9 #[.val (.ref a), .val (.ref b2), .val (.int (1 : Int32)), .unset] [(.int (3 : Int32))]))
  refine Go.st (fun _ kt => XS.iconst X2.here hx rfl (hb hby d1_9) kt) ?_
  show Go p e below _ (T2.setTop (mkF m 10 #[.val (.ref a), .val (.ref b2), .val (.int (1 : Int32)), .unset] [(.int (1 : Int32)), (.int (3 : Int32))]))
  refine Go.st (fun _ kt => XS.isub X2.here hx rfl (hb hby d1_10) rfl kt) ?_
  show Go p e below _ (T2.setTop (mkF m 11 #[.val (.ref a), .val (.ref b2), .val (.int (1 : Int32)), .unset] [(.int (2 : Int32))]))
  refine Go.st (fun _ kt => XS.istoreN X2.here hx rfl (hb hby d1_11) rfl (l' := #[.val (.ref a), .val (.ref b2), .val (.int (1 : Int32)), .val (.int (2 : Int32))]) rfl kt) ?_
  show Go p e below _ (T2.setTop (mkF m 12 #[.val (.ref a), .val (.ref b2), .val (.int (1 : Int32)), .val (.int (2 : Int32))] []))
  refine Go.st (fun _ kt => XS.iloadN X2.here hx rfl (hb hby d1_12) rfl kt) ?_
  show Go p e below _ (T2.setTop (mkF m 13 #[.val (.ref a), .val (.ref b2), .val (.int (1 : Int32)), .val (.int (2 : Int32))] [(.int (2 : Int32))]))
  refine Go.st (fun _ kt => XS.ifNo X2.here hx rfl (hb hby d1_13) rfl ((if0 _ _).trans (flt (by decide : ¬ ((2 : Int32) < (0 : Int32)))).1) kt) ?_
  show Go p e below _ (T2.setTop (mkF m 16 #[.val (.ref a), .val (.ref b2), .val (.int (1 : Int32)), .val (.int (2 : Int32))] []))
  refine Go.st (fun _ kt => XS.aloadN X2.here hx rfl (hb hby d1_16) rfl rfl kt) ?_
  show Go p e below _ (T2.setTop (mkF m 17 #[.val (.ref a), .val (.ref b2), .val (.int (1 : Int32)), .val (.int (2 : Int32))] [(.ref b2)]))
  refine Go.st (fun _ kt => XS.iloadN X2.here hx rfl (hb hby d1_17) rfl kt) ?_
  show Go p e below _ (T2.setTop (mkF m 18 #[.val (.ref a), .val (.ref b2), .val (.int (1 : Int32)), .val (.int (2 : Int32))] [(.int (2 : Int32)), (.ref b2)]))
  refine Go.st (fun _ kt => XS.iloadN X2.here hx rfl (hb hby d1_18) rfl kt) ?_
  show Go p e below _ (T2.setTop (mkF m 19 #[.val (.ref a), .val (.ref b2), .val (.int (1 : Int32)), .val (.int (2 : Int32))] [(.int (1 : Int32)), (.int (2 : Int32)), (.ref b2)]))
  obtain ⟨cl5, Ar5, q5, S5, N5', H5, G5⟩ := id V2
  have hin5 : ¬ ((2 : Int32) < 0 ∨ cl5.slots.size ≤ ((2 : Int32)).toNatClampNeg) := inb_of S5 ⟨by decide, by decide⟩
  obtain ⟨T6, h6, X6, e6, W6, st6⟩ := stI X2 hx hZ e2 Ar5 (j := (2 : Int32)) hin5 (g := (mkF m 19 #[.val (.ref a), .val (.ref b2), .val (.int (1 : Int32)), .val (.int (2 : Int32))] [(.int (1 : Int32)), (.int (2 : Int32)), (.ref b2)])) rfl rfl (hb hby d1_19)
  refine Go.st st6 ?_
  have V6 : Arv Z h6 b2 k2 .int (3 : Int32) [(.int (0 : Int32)), (.int (0 : Int32)), (.int (1 : Int32))] (.int (0 : Int32)) := Arv.set Ar5 q5 S5 N5' H5 G5 rfl W6 2 rfl (Nat.le_of_ble_eq_true rfl)
  have Zs6 : n0 ≤ h6.size := Nat.le_trans Zs2 (Nat.le_of_eq W6.size.symm)
  have N6 := Fr.snoc X6 N0 gn_b2
  have K6 : Keep h0 h6 [] := K2.wr W6 (Or.inr kn_b2)
  show Go p e below _ (T6.setTop (mkF m 20 #[.val (.ref a), .val (.ref b2), .val (.int (1 : Int32)), .val (.int (2 : Int32))] []))
  refine Go.st (fun _ kt => XS.iloadN X6.here hx rfl (hb hby d1_20) rfl kt) ?_
  show Go p e below _ (T6.setTop (mkF m 21 #[.val (.ref a), .val (.ref b2), .val (.int (1 : Int32)), .val (.int (2 : Int32))] [(.int (1 : Int32))]))
  refine Go.st (fun _ kt => XS.aloadN X6.here hx rfl (hb hby d1_21) rfl rfl kt) ?_
  show Go p e below _ (T6.setTop (mkF m 22 #[.val (.ref a), .val (.ref b2), .val (.int (1 : Int32)), .val (.int (2 : Int32))] [(.ref a), (.int (1 : Int32))]))
  refine Go.st (fun _ kt => XS.iloadN X6.here hx rfl (hb hby d1_22) rfl kt) ?_
  show Go p e below _ (T6.setTop (mkF m 23 #[.val (.ref a), .val (.ref b2), .val (.int (1 : Int32)), .val (.int (2 : Int32))] [(.int (2 : Int32)), (.ref a), (.int (1 : Int32))]))
  have f7 := (f4.other W6 (Nat.ne_of_lt lt_a_b2))
  obtain ⟨cl8, Ar8, -, S8, N8', H8, G8⟩ := id f7
  have hin8 := inb_of S8 (j := (2 : Int32)) ⟨by decide, by decide⟩
  have hat8 := Has.at H8 hin8 (v := (.int x2)) rfl
  refine Go.st (fun _ kt => X6.iaload hx (j := (2 : Int32)) (v := (.int x2)) (by rw [e6]; exact Ar8.1) (State.isArrayOf_alike hZ.alike Ar8.2.1) Ar8.2.2 hin8 hat8 (g := (mkF m 23 #[.val (.ref a), .val (.ref b2), .val (.int (1 : Int32)), .val (.int (2 : Int32))] [(.int (2 : Int32)), (.ref a), (.int (1 : Int32))])) rfl rfl (hb hby d1_23) _ kt) ?_
  show Go p e below _ (T6.setTop (mkF m 24 #[.val (.ref a), .val (.ref b2), .val (.int (1 : Int32)), .val (.int (2 : Int32))] [(.int x2), (.int (1 : Int32))]))
  refine Go.st (fun _ kt => XS.imul X6.here hx rfl (hb hby d1_24) rfl kt) ?_
  show Go p e below _ (T6.setTop (mkF m 25 #[.val (.ref a), .val (.ref b2), .val (.int (1 : Int32)), .val (.int (2 : Int32))] [(.int ((1 : Int32) * x2))]))
  refine Go.st (fun _ kt => XS.istoreN X6.here hx rfl (hb hby d1_25) rfl (l' := #[.val (.ref a), .val (.ref b2), .val (.int ((1 : Int32) * x2)), .val (.int (2 : Int32))]) rfl kt) ?_
  show Go p e below _ (T6.setTop (mkF m 26 #[.val (.ref a), .val (.ref b2), .val (.int ((1 : Int32) * x2)), .val (.int (2 : Int32))] []))
  refine Go.st (fun _ kt => XS.iinc X6.here hx rfl (hb hby d1_26) rfl (l' := #[.val (.ref a), .val (.ref b2), .val (.int ((1 : Int32) * x2)), .val (.int (1 : Int32))]) rfl kt) ?_
  show Go p e below _ (T6.setTop (mkF m 29 #[.val (.ref a), .val (.ref b2), .val (.int ((1 : Int32) * x2)), .val (.int (1 : Int32))] []))
  refine Go.st (fun _ kt => XS.goto X6.here hx rfl (pc0 := 29) (pc' := 12) rfl (hb hby d1_29) (by decide) (by decide) kt) ?_
  show Go p e below _ (T6.setTop (mkF m 12 #[.val (.ref a), .val (.ref b2), .val (.int ((1 : Int32) * x2)), .val (.int (1 : Int32))] []))
  refine Go.st (fun _ kt => XS.iloadN X6.here hx rfl (hb hby d1_12) rfl kt) ?_
  show Go p e below _ (T6.setTop (mkF m 13 #[.val (.ref a), .val (.ref b2), .val (.int ((1 : Int32) * x2)), .val (.int (1 : Int32))] [(.int (1 : Int32))]))
  refine Go.st (fun _ kt => XS.ifNo X6.here hx rfl (hb hby d1_13) rfl ((if0 _ _).trans (flt (by decide : ¬ ((1 : Int32) < (0 : Int32)))).1) kt) ?_
  show Go p e below _ (T6.setTop (mkF m 16 #[.val (.ref a), .val (.ref b2), .val (.int ((1 : Int32) * x2)), .val (.int (1 : Int32))] []))
  refine Go.st (fun _ kt => XS.aloadN X6.here hx rfl (hb hby d1_16) rfl rfl kt) ?_
  show Go p e below _ (T6.setTop (mkF m 17 #[.val (.ref a), .val (.ref b2), .val (.int ((1 : Int32) * x2)), .val (.int (1 : Int32))] [(.ref b2)]))
  refine Go.st (fun _ kt => XS.iloadN X6.here hx rfl (hb hby d1_17) rfl kt) ?_
  show Go p e below _ (T6.setTop (mkF m 18 #[.val (.ref a), .val (.ref b2), .val (.int ((1 : Int32) * x2)), .val (.int (1 : Int32))] [(.int (1 : Int32)), (.ref b2)]))
  refine Go.st (fun _ kt => XS.iloadN X6.here hx rfl (hb hby d1_18) rfl kt) ?_
  show Go p e below _ (T6.setTop (mkF m 19 #[.val (.ref a), .val (.ref b2), .val (.int ((1 : Int32) * x2)), .val (.int (1 : Int32))] [(.int ((1 : Int32) * x2)), (.int (1 : Int32)), (.ref b2)]))
  obtain ⟨cl9, Ar9, q9, S9, N9', H9, G9⟩ := id V6
  have hin9 : ¬ ((1 : Int32) < 0 ∨ cl9.slots.size ≤ ((1 : Int32)).toNatClampNeg) := inb_of S9 ⟨by decide, by decide⟩
  obtain ⟨T10, h10, X10, e10, W10, st10⟩ := stI X6 hx hZ e6 Ar9 (j := (1 : Int32)) hin9 (g := (mkF m 19 #[.val (.ref a), .val (.ref b2), .val (.int ((1 : Int32) * x2)), .val (.int (1 : Int32))] [(.int ((1 : Int32) * x2)), (.int (1 : Int32)), (.ref b2)])) rfl rfl (hb hby d1_19)
  refine Go.st st10 ?_
  have V10 : Arv Z h10 b2 k2 .int (3 : Int32) [(.int (0 : Int32)), (.int ((1 : Int32) * x2)), (.int (1 : Int32))] (.int (0 : Int32)) := Arv.set Ar9 q9 S9 N9' H9 G9 rfl W10 1 rfl (Nat.le_of_ble_eq_true rfl)
  have Zs10 : n0 ≤ h10.size := Nat.le_trans Zs6 (Nat.le_of_eq W10.size.symm)
  have N10 := Fr.snoc X10 N6 gn_b2
  have K10 : Keep h0 h10 [] := K6.wr W10 (Or.inr kn_b2)
  show Go p e below _ (T10.setTop (mkF m 20 #[.val (.ref a), .val (.ref b2), .val (.int ((1 : Int32) * x2)), .val (.int (1 : Int32))] []))
  refine Go.st (fun _ kt => XS.iloadN X10.here hx rfl (hb hby d1_20) rfl kt) ?_
  show Go p e below _ (T10.setTop (mkF m 21 #[.val (.ref a), .val (.ref b2), .val (.int ((1 : Int32) * x2)), .val (.int (1 : Int32))] [(.int ((1 : Int32) * x2))]))
  refine Go.st (fun _ kt => XS.aloadN X10.here hx rfl (hb hby d1_21) rfl rfl kt) ?_
  show Go p e below _ (T10.setTop (mkF m 22 #[.val (.ref a), .val (.ref b2), .val (.int ((1 : Int32) * x2)), .val (.int (1 : Int32))] [(.ref a), (.int ((1 : Int32) * x2))]))
  refine Go.st (fun _ kt => XS.iloadN X10.here hx rfl (hb hby d1_22) rfl kt) ?_
  show Go p e below _ (T10.setTop (mkF m 23 #[.val (.ref a), .val (.ref b2), .val (.int ((1 : Int32) * x2)), .val (.int (1 : Int32))] [(.int (1 : Int32)), (.ref a), (.int ((1 : Int32) * x2))]))
  have f11 := (f7.other W10 (Nat.ne_of_lt lt_a_b2))
  obtain ⟨cl12, Ar12, -, S12, N12', H12, G12⟩ := id f11
  have hin12 := inb_of S12 (j := (1 : Int32)) ⟨by decide, by decide⟩
  have hat12 := Has.at H12 hin12 (v := (.int x1)) rfl
  refine Go.st (fun _ kt => X10.iaload hx (j := (1 : Int32)) (v := (.int x1)) (by rw [e10]; exact Ar12.1) (State.isArrayOf_alike hZ.alike Ar12.2.1) Ar12.2.2 hin12 hat12 (g := (mkF m 23 #[.val (.ref a), .val (.ref b2), .val (.int ((1 : Int32) * x2)), .val (.int (1 : Int32))] [(.int (1 : Int32)), (.ref a), (.int ((1 : Int32) * x2))])) rfl rfl (hb hby d1_23) _ kt) ?_
  show Go p e below _ (T10.setTop (mkF m 24 #[.val (.ref a), .val (.ref b2), .val (.int ((1 : Int32) * x2)), .val (.int (1 : Int32))] [(.int x1), (.int ((1 : Int32) * x2))]))
  refine Go.st (fun _ kt => XS.imul X10.here hx rfl (hb hby d1_24) rfl kt) ?_
  show Go p e below _ (T10.setTop (mkF m 25 #[.val (.ref a), .val (.ref b2), .val (.int ((1 : Int32) * x2)), .val (.int (1 : Int32))] [(.int (((1 : Int32) * x2) * x1))]))
  refine Go.st (fun _ kt => XS.istoreN X10.here hx rfl (hb hby d1_25) rfl (l' := #[.val (.ref a), .val (.ref b2), .val (.int (((1 : Int32) * x2) * x1)), .val (.int (1 : Int32))]) rfl kt) ?_
  show Go p e below _ (T10.setTop (mkF m 26 #[.val (.ref a), .val (.ref b2), .val (.int (((1 : Int32) * x2) * x1)), .val (.int (1 : Int32))] []))
  refine Go.st (fun _ kt => XS.iinc X10.here hx rfl (hb hby d1_26) rfl (l' := #[.val (.ref a), .val (.ref b2), .val (.int (((1 : Int32) * x2) * x1)), .val (.int (0 : Int32))]) rfl kt) ?_
  show Go p e below _ (T10.setTop (mkF m 29 #[.val (.ref a), .val (.ref b2), .val (.int (((1 : Int32) * x2) * x1)), .val (.int (0 : Int32))] []))
  refine Go.st (fun _ kt => XS.goto X10.here hx rfl (pc0 := 29) (pc' := 12) rfl (hb hby d1_29) (by decide) (by decide) kt) ?_
  show Go p e below _ (T10.setTop (mkF m 12 #[.val (.ref a), .val (.ref b2), .val (.int (((1 : Int32) * x2) * x1)), .val (.int (0 : Int32))] []))
  refine Go.st (fun _ kt => XS.iloadN X10.here hx rfl (hb hby d1_12) rfl kt) ?_
  show Go p e below _ (T10.setTop (mkF m 13 #[.val (.ref a), .val (.ref b2), .val (.int (((1 : Int32) * x2) * x1)), .val (.int (0 : Int32))] [(.int (0 : Int32))]))
  refine Go.st (fun _ kt => XS.ifNo X10.here hx rfl (hb hby d1_13) rfl ((if0 _ _).trans (flt (by decide : ¬ ((0 : Int32) < (0 : Int32)))).1) kt) ?_
  show Go p e below _ (T10.setTop (mkF m 16 #[.val (.ref a), .val (.ref b2), .val (.int (((1 : Int32) * x2) * x1)), .val (.int (0 : Int32))] []))
  refine Go.st (fun _ kt => XS.aloadN X10.here hx rfl (hb hby d1_16) rfl rfl kt) ?_
  show Go p e below _ (T10.setTop (mkF m 17 #[.val (.ref a), .val (.ref b2), .val (.int (((1 : Int32) * x2) * x1)), .val (.int (0 : Int32))] [(.ref b2)]))
  refine Go.st (fun _ kt => XS.iloadN X10.here hx rfl (hb hby d1_17) rfl kt) ?_
  show Go p e below _ (T10.setTop (mkF m 18 #[.val (.ref a), .val (.ref b2), .val (.int (((1 : Int32) * x2) * x1)), .val (.int (0 : Int32))] [(.int (0 : Int32)), (.ref b2)]))
  refine Go.st (fun _ kt => XS.iloadN X10.here hx rfl (hb hby d1_18) rfl kt) ?_
  show Go p e below _ (T10.setTop (mkF m 19 #[.val (.ref a), .val (.ref b2), .val (.int (((1 : Int32) * x2) * x1)), .val (.int (0 : Int32))] [(.int (((1 : Int32) * x2) * x1)), (.int (0 : Int32)), (.ref b2)]))
  obtain ⟨cl13, Ar13, q13, S13, N13', H13, G13⟩ := id V10
  have hin13 : ¬ ((0 : Int32) < 0 ∨ cl13.slots.size ≤ ((0 : Int32)).toNatClampNeg) := inb_of S13 ⟨by decide, by decide⟩
  obtain ⟨T14, h14, X14, e14, W14, st14⟩ := stI X10 hx hZ e10 Ar13 (j := (0 : Int32)) hin13 (g := (mkF m 19 #[.val (.ref a), .val (.ref b2), .val (.int (((1 : Int32) * x2) * x1)), .val (.int (0 : Int32))] [(.int (((1 : Int32) * x2) * x1)), (.int (0 : Int32)), (.ref b2)])) rfl rfl (hb hby d1_19)
  refine Go.st st14 ?_
  have V14 : Arv Z h14 b2 k2 .int (3 : Int32) [(.int (((1 : Int32) * x2) * x1)), (.int ((1 : Int32) * x2)), (.int (1 : Int32))] (.int (0 : Int32)) := Arv.set Ar13 q13 S13 N13' H13 G13 rfl W14 0 rfl (Nat.le_of_ble_eq_true rfl)
  have Zs14 : n0 ≤ h14.size := Nat.le_trans Zs10 (Nat.le_of_eq W14.size.symm)
  have N14 := Fr.snoc X14 N10 gn_b2
  have K14 : Keep h0 h14 [] := K10.wr W14 (Or.inr kn_b2)
  show Go p e below _ (T14.setTop (mkF m 20 #[.val (.ref a), .val (.ref b2), .val (.int (((1 : Int32) * x2) * x1)), .val (.int (0 : Int32))] []))
  refine Go.st (fun _ kt => XS.iloadN X14.here hx rfl (hb hby d1_20) rfl kt) ?_
  show Go p e below _ (T14.setTop (mkF m 21 #[.val (.ref a), .val (.ref b2), .val (.int (((1 : Int32) * x2) * x1)), .val (.int (0 : Int32))] [(.int (((1 : Int32) * x2) * x1))]))
  refine Go.st (fun _ kt => XS.aloadN X14.here hx rfl (hb hby d1_21) rfl rfl kt) ?_
  show Go p e below _ (T14.setTop (mkF m 22 #[.val (.ref a), .val (.ref b2), .val (.int (((1 : Int32) * x2) * x1)), .val (.int (0 : Int32))] [(.ref a), (.int (((1 : Int32) * x2) * x1))]))
  refine Go.st (fun _ kt => XS.iloadN X14.here hx rfl (hb hby d1_22) rfl kt) ?_
  show Go p e below _ (T14.setTop (mkF m 23 #[.val (.ref a), .val (.ref b2), .val (.int (((1 : Int32) * x2) * x1)), .val (.int (0 : Int32))] [(.int (0 : Int32)), (.ref a), (.int (((1 : Int32) * x2) * x1))]))
  have f15 := (f11.other W14 (Nat.ne_of_lt lt_a_b2))
  obtain ⟨cl16, Ar16, -, S16, N16', H16, G16⟩ := id f15
  have hin16 := inb_of S16 (j := (0 : Int32)) ⟨by decide, by decide⟩
  have hat16 := Has.at H16 hin16 (v := (.int x0)) rfl
  refine Go.st (fun _ kt => X14.iaload hx (j := (0 : Int32)) (v := (.int x0)) (by rw [e14]; exact Ar16.1) (State.isArrayOf_alike hZ.alike Ar16.2.1) Ar16.2.2 hin16 hat16 (g := (mkF m 23 #[.val (.ref a), .val (.ref b2), .val (.int (((1 : Int32) * x2) * x1)), .val (.int (0 : Int32))] [(.int (0 : Int32)), (.ref a), (.int (((1 : Int32) * x2) * x1))])) rfl rfl (hb hby d1_23) _ kt) ?_
  show Go p e below _ (T14.setTop (mkF m 24 #[.val (.ref a), .val (.ref b2), .val (.int (((1 : Int32) * x2) * x1)), .val (.int (0 : Int32))] [(.int x0), (.int (((1 : Int32) * x2) * x1))]))
  refine Go.st (fun _ kt => XS.imul X14.here hx rfl (hb hby d1_24) rfl kt) ?_
  show Go p e below _ (T14.setTop (mkF m 25 #[.val (.ref a), .val (.ref b2), .val (.int (((1 : Int32) * x2) * x1)), .val (.int (0 : Int32))] [(.int ((((1 : Int32) * x2) * x1) * x0))]))
  refine Go.st (fun _ kt => XS.istoreN X14.here hx rfl (hb hby d1_25) rfl (l' := #[.val (.ref a), .val (.ref b2), .val (.int ((((1 : Int32) * x2) * x1) * x0)), .val (.int (0 : Int32))]) rfl kt) ?_
  show Go p e below _ (T14.setTop (mkF m 26 #[.val (.ref a), .val (.ref b2), .val (.int ((((1 : Int32) * x2) * x1) * x0)), .val (.int (0 : Int32))] []))
  refine Go.st (fun _ kt => XS.iinc X14.here hx rfl (hb hby d1_26) rfl (l' := #[.val (.ref a), .val (.ref b2), .val (.int ((((1 : Int32) * x2) * x1) * x0)), .val (.int (-1 : Int32))]) rfl kt) ?_
  show Go p e below _ (T14.setTop (mkF m 29 #[.val (.ref a), .val (.ref b2), .val (.int ((((1 : Int32) * x2) * x1) * x0)), .val (.int (-1 : Int32))] []))
  refine Go.st (fun _ kt => XS.goto X14.here hx rfl (pc0 := 29) (pc' := 12) rfl (hb hby d1_29) (by decide) (by decide) kt) ?_
  show Go p e below _ (T14.setTop (mkF m 12 #[.val (.ref a), .val (.ref b2), .val (.int ((((1 : Int32) * x2) * x1) * x0)), .val (.int (-1 : Int32))] []))
  refine Go.st (fun _ kt => XS.iloadN X14.here hx rfl (hb hby d1_12) rfl kt) ?_
  show Go p e below _ (T14.setTop (mkF m 13 #[.val (.ref a), .val (.ref b2), .val (.int ((((1 : Int32) * x2) * x1) * x0)), .val (.int (-1 : Int32))] [(.int (-1 : Int32))]))
  refine Go.st (fun _ kt => XS.ifYes X14.here hx rfl (pc0 := 13) (pc' := 32) rfl (hb hby d1_13) rfl ((if0 _ _).trans (tlt (by decide : (-1 : Int32) < (0 : Int32))).1) (by decide) (by decide) kt) ?_
  show Go p e below _ (T14.setTop (mkF m 32 #[.val (.ref a), .val (.ref b2), .val (.int ((((1 : Int32) * x2) * x1) * x0)), .val (.int (-1 : Int32))] []))
  refine Go.st (fun _ kt => XS.aloadN X14.here hx rfl (hb hby d1_32) rfl rfl kt) ?_
  show Go p e below _ (T14.setTop (mkF m 33 #[.val (.ref a), .val (.ref b2), .val (.int ((((1 : Int32) * x2) * x1) * x0)), .val (.int (-1 : Int32))] [(.ref b2)]))
  refine Go.retA X14 hx Bd.returns rfl rfl (BodyLoose.notSynchronized Bd) (hb hby d1_33) (Q := (Q_rm1_3 Z a k0 x0 x1 x2 h0 n0)) (by decide) (by decide) ?_
  show (Q_rm1_3 Z a k0 x0 x1 x2 h0 n0) _ T14.heap _
  rw [e14]
  exact ⟨b2, k2, rfl, N14, K14, kn_b2, V14⟩
theorem own_pd1 : parseMethodDescriptor "([I)[I" = some ⟨[(.array .int)], some (.array .int)⟩ := by decide +kernel
theorem own_pn2 : plainName "com/example/tributary/tributary/model/CostTableStridesPinLaw" = true := by first | (simp [plainName, overriddenIn]; done) | decide +kernel
def Q_rm0 (Z : State) (i : Int32) (j : Int32) (k : Int32) (h0 : Heap) (n0 : Nat) (v : Option Value) (h : Heap) (L : List Loc) : Prop := v = some (.int 1) ∧ Fr n0 L
theorem ef_rm0 (m : MethodId) (i : Int32) (j : Int32) (k : Int32) : entryFrame m #[(.int i), (.int j), (.int k)] maxLocals = mkF m 0 #[.val (.int i), .val (.int j), .val (.int k), .unset, .unset, .unset, .unset, .unset, .unset, .unset, .unset, .unset, .unset, .unset, .unset, .unset, .unset, .unset, .unset, .unset, .unset, .unset, .unset, .unset, .unset, .unset, .unset, .unset] [] := by first | (simp [entryFrame, mkF, argsToLocals, Value.category, maxLocals]; done) | rfl
set_option maxRecDepth 65536 in
set_option maxHeartbeats 40000000 in
theorem rm0 (l : Launch) (Z : State) (a0 : Array Value) (hw : ∀ d ∈ tables_1, d.before a0 Z = true) (ws : List Jvm.Cond) (i : Int32) (j : Int32) (k : Int32) (h0 : Heap) (n0 : Nat) (Z0 : n0 ≤ h0.size) :
    MetFree l x (head1 (Jvm.Cond.code x code maxLocals ret :: ws) room_1) (fun ag_ U_ => ag_ = #[(.int i), (.int j), (.int k)] ∧ Z.Warmed39 U_.vm ∧ U_.heap = h0) (fun _ _ _ _ _ => True) (fun _ U_ o_ V_ => ∃ v_ L_, o_ = .returned v_ ∧ (Q_rm0 Z i j k h0 n0) v_ V_.heap L_ ∧ FrameEnd U_ o_ V_ L_ room_1.cells room_1.slots) := by
  refine MetFree.of_bodySF (plainFor_of_name own_pn2) hisR ?_
  intro p e s m args below meth c s₁ Bd hml0 hP hK
  obtain ⟨rfl, hZ, hh⟩ := hP
  have hx := Bd.exec
  have hby := Bd.bytes
  have hml : c.maxLocals = 28 := hml0
  have hown : s.vm.findClass "com/example/tributary/tributary/model/CostTableStridesPinLaw" = some m.cls := findClass_of_methodNamed Bd.named
  have hnm := (name_of_methodNamed Bd.named Bd.method).1
  have X0 : Stand p l e room_1 s m #[(.int i), (.int j), (.int k)] below meth c s₁ [] 0 0 := Stand.of_body Bd
  have e0 : s₁.heap = h0 := by rw [← hh, Bd.state]; rfl
  have N0 := Fr.nil n0
  refine Go.st (G := fun s₂ o_ => ∃ v_ L_, o_ = .returned v_ ∧ (Q_rm0 Z i j k h0 n0) v_ s₂.heap L_ ∧ FrameEnd s o_ s₂ L_ room_1.cells room_1.slots) (fun t kt => castTop (ef_rm0 m i j k) kt) ?_
  show Go p e below _ (s₁.setTop (mkF m 0 #[.val (.int i), .val (.int j), .val (.int k), .unset, .unset, .unset, .unset, .unset, .unset, .unset, .unset, .unset, .unset, .unset, .unset, .unset, .unset, .unset, .unset, .unset, .unset, .unset, .unset, .unset, .unset, .unset, .unset, .unset] []))
  refine Go.st (fun _ kt => X0.ldc2Long hx hown (mvT hZ (hw _ (List.mem_of_getElem? (i := 0) rfl))) (g := (mkF m 0 #[.val (.int i), .val (.int j), .val (.int k), .unset, .unset, .unset, .unset, .unset, .unset, .unset, .unset, .unset, .unset, .unset, .unset, .unset, .unset, .unset, .unset, .unset, .unset, .unset, .unset, .unset, .unset, .unset, .unset, .unset] [])) rfl (hb hby at_0) _ kt) ?_
  show Go p e below _ (s₁.setTop (mkF m 3 #[.val (.int i), .val (.int j), .val (.int k), .unset, .unset, .unset, .unset, .unset, .unset, .unset, .unset, .unset, .unset, .unset, .unset, .unset, .unset, .unset, .unset, .unset, .unset, .unset, .unset, .unset, .unset, .unset, .unset, .unset] [(.long (2147483639 : Int64))]))
  refine Go.st (fun _ kt => XS.lstoreN X0.here hx rfl (hb hby at_3) rfl (l' := #[.val (.int i), .val (.int j), .val (.int k), .val (.long (2147483639 : Int64)), .second, .unset, .unset, .unset, .unset, .unset, .unset, .unset, .unset, .unset, .unset, .unset, .unset, .unset, .unset, .unset, .unset, .unset, .unset, .unset, .unset, .unset, .unset, .unset]) rfl kt) ?_
  show Go p e below _ (s₁.setTop (mkF m 4 #[.val (.int i), .val (.int j), .val (.int k), .val (.long (2147483639 : Int64)), .second, .unset, .unset, .unset, .unset, .unset, .unset, .unset, .unset, .unset, .unset, .unset, .unset, .unset, .unset, .unset, .unset, .unset, .unset, .unset, .unset, .unset, .unset, .unset] []))
  refine Go.st (fun _ kt => XS.iloadN X0.here hx rfl (hb hby at_4) rfl kt) ?_
  show Go p e below _ (s₁.setTop (mkF m 5 #[.val (.int i), .val (.int j), .val (.int k), .val (.long (2147483639 : Int64)), .second, .unset, .unset, .unset, .unset, .unset, .unset, .unset, .unset, .unset, .unset, .unset, .unset, .unset, .unset, .unset, .unset, .unset, .unset, .unset, .unset, .unset, .unset, .unset] [(.int i)]))
  refine Go.st (fun _ kt => X0.ldcInt hx hown (mvT hZ (hw _ (List.mem_of_getElem? (i := 1) rfl))) (g := (mkF m 5 #[.val (.int i), .val (.int j), .val (.int k), .val (.long (2147483639 : Int64)), .second, .unset, .unset, .unset, .unset, .unset, .unset, .unset, .unset, .unset, .unset, .unset, .unset, .unset, .unset, .unset, .unset, .unset, .unset, .unset, .unset, .unset, .unset, .unset] [(.int i)])) rfl (hb hby at_5) _ kt) ?_
  show Go p e below _ (s₁.setTop (mkF m 7 #[.val (.int i), .val (.int j), .val (.int k), .val (.long (2147483639 : Int64)), .second, .unset, .unset, .unset, .unset, .unset, .unset, .unset, .unset, .unset, .unset, .unset, .unset, .unset, .unset, .unset, .unset, .unset, .unset, .unset, .unset, .unset, .unset, .unset] [(.int (2147483647 : Int32)), (.int i)]))
  refine Go.st (fun _ kt => XS.iand X0.here hx rfl (hb hby at_7) rfl kt) ?_
  show Go p e below _ (s₁.setTop (mkF m 8 #[.val (.int i), .val (.int j), .val (.int k), .val (.long (2147483639 : Int64)), .second, .unset, .unset, .unset, .unset, .unset, .unset, .unset, .unset, .unset, .unset, .unset, .unset, .unset, .unset, .unset, .unset, .unset, .unset, .unset, .unset, .unset, .unset, .unset] [(.int (i &&& (2147483647 : Int32)))]))
  refine Go.st (fun _ kt => XS.i2l X0.here hx rfl (hb hby at_8) rfl kt) ?_
  show Go p e below _ (s₁.setTop (mkF m 9 #[.val (.int i), .val (.int j), .val (.int k), .val (.long (2147483639 : Int64)), .second, .unset, .unset, .unset, .unset, .unset, .unset, .unset, .unset, .unset, .unset, .unset, .unset, .unset, .unset, .unset, .unset, .unset, .unset, .unset, .unset, .unset, .unset, .unset] [(.long ((i &&& (2147483647 : Int32)).toInt64))]))
  refine Go.st (fun _ kt => XS.lloadN X0.here hx rfl (hb hby at_9) rfl kt) ?_
  show Go p e below _ (s₁.setTop (mkF m 10 #[.val (.int i), .val (.int j), .val (.int k), .val (.long (2147483639 : Int64)), .second, .unset, .unset, .unset, .unset, .unset, .unset, .unset, .unset, .unset, .unset, .unset, .unset, .unset, .unset, .unset, .unset, .unset, .unset, .unset, .unset, .unset, .unset, .unset] [(.long (2147483639 : Int64)), (.long ((i &&& (2147483647 : Int32)).toInt64))]))
  refine Go.st (fun _ kt => XS.lrem X0.here hx rfl (hb hby at_10) rfl (by decide) kt) ?_
  show Go p e below _ (s₁.setTop (mkF m 11 #[.val (.int i), .val (.int j), .val (.int k), .val (.long (2147483639 : Int64)), .second, .unset, .unset, .unset, .unset, .unset, .unset, .unset, .unset, .unset, .unset, .unset, .unset, .unset, .unset, .unset, .unset, .unset, .unset, .unset, .unset, .unset, .unset, .unset] [(.long (((i &&& (2147483647 : Int32)).toInt64) - (((i &&& (2147483647 : Int32)).toInt64) / (2147483639 : Int64)) * (2147483639 : Int64)))]))
  refine Go.st (fun _ kt => XS.lconst X0.here hx rfl (hb hby at_11) kt) ?_
  show Go p e below _ (s₁.setTop (mkF m 12 #[.val (.int i), .val (.int j), .val (.int k), .val (.long (2147483639 : Int64)), .second, .unset, .unset, .unset, .unset, .unset, .unset, .unset, .unset, .unset, .unset, .unset, .unset, .unset, .unset, .unset, .unset, .unset, .unset, .unset, .unset, .unset, .unset, .unset] [(.long (1 : Int64)), (.long (((i &&& (2147483647 : Int32)).toInt64) - (((i &&& (2147483647 : Int32)).toInt64) / (2147483639 : Int64)) * (2147483639 : Int64)))]))
  refine Go.st (fun _ kt => XS.ladd X0.here hx rfl (hb hby at_12) rfl kt) ?_
  show Go p e below _ (s₁.setTop (mkF m 13 #[.val (.int i), .val (.int j), .val (.int k), .val (.long (2147483639 : Int64)), .second, .unset, .unset, .unset, .unset, .unset, .unset, .unset, .unset, .unset, .unset, .unset, .unset, .unset, .unset, .unset, .unset, .unset, .unset, .unset, .unset, .unset, .unset, .unset] [(.long ((((i &&& (2147483647 : Int32)).toInt64) - (((i &&& (2147483647 : Int32)).toInt64) / (2147483639 : Int64)) * (2147483639 : Int64)) + (1 : Int64)))]))
  generalize hcl : (((((i &&& (2147483647 : Int32)).toInt64) - (((i &&& (2147483647 : Int32)).toInt64) / (2147483639 : Int64)) * (2147483639 : Int64)) + (1 : Int64)) : Int64) = cl
  show Go p e below _ (s₁.setTop (mkF m 13 #[.val (.int i), .val (.int j), .val (.int k), .val (.long (2147483639 : Int64)), .second, .unset, .unset, .unset, .unset, .unset, .unset, .unset, .unset, .unset, .unset, .unset, .unset, .unset, .unset, .unset, .unset, .unset, .unset, .unset, .unset, .unset, .unset, .unset] [(.long cl)]))
  have hC := own_lr i 2147483639 (by decide)
  rw [hcl] at hC
  have hD := own_dv cl hC.1 hC.2
  refine Go.st (fun _ kt => XS.lstore X0.here hx rfl (hb hby at_13) rfl (l' := #[.val (.int i), .val (.int j), .val (.int k), .val (.long (2147483639 : Int64)), .second, .val (.long cl), .second, .unset, .unset, .unset, .unset, .unset, .unset, .unset, .unset, .unset, .unset, .unset, .unset, .unset, .unset, .unset, .unset, .unset, .unset, .unset, .unset, .unset]) rfl kt) ?_
  show Go p e below _ (s₁.setTop (mkF m 15 #[.val (.int i), .val (.int j), .val (.int k), .val (.long (2147483639 : Int64)), .second, .val (.long cl), .second, .unset, .unset, .unset, .unset, .unset, .unset, .unset, .unset, .unset, .unset, .unset, .unset, .unset, .unset, .unset, .unset, .unset, .unset, .unset, .unset, .unset] []))
  refine Go.st (fun _ kt => XS.iloadN X0.here hx rfl (hb hby at_15) rfl kt) ?_
  show Go p e below _ (s₁.setTop (mkF m 16 #[.val (.int i), .val (.int j), .val (.int k), .val (.long (2147483639 : Int64)), .second, .val (.long cl), .second, .unset, .unset, .unset, .unset, .unset, .unset, .unset, .unset, .unset, .unset, .unset, .unset, .unset, .unset, .unset, .unset, .unset, .unset, .unset, .unset, .unset] [(.int j)]))
  refine Go.st (fun _ kt => X0.ldcInt hx hown (mvT hZ (hw _ (List.mem_of_getElem? (i := 1) rfl))) (g := (mkF m 16 #[.val (.int i), .val (.int j), .val (.int k), .val (.long (2147483639 : Int64)), .second, .val (.long cl), .second, .unset, .unset, .unset, .unset, .unset, .unset, .unset, .unset, .unset, .unset, .unset, .unset, .unset, .unset, .unset, .unset, .unset, .unset, .unset, .unset, .unset] [(.int j)])) rfl (hb hby at_16) _ kt) ?_
  show Go p e below _ (s₁.setTop (mkF m 18 #[.val (.int i), .val (.int j), .val (.int k), .val (.long (2147483639 : Int64)), .second, .val (.long cl), .second, .unset, .unset, .unset, .unset, .unset, .unset, .unset, .unset, .unset, .unset, .unset, .unset, .unset, .unset, .unset, .unset, .unset, .unset, .unset, .unset, .unset] [(.int (2147483647 : Int32)), (.int j)]))
  refine Go.st (fun _ kt => XS.iand X0.here hx rfl (hb hby at_18) rfl kt) ?_
  show Go p e below _ (s₁.setTop (mkF m 19 #[.val (.int i), .val (.int j), .val (.int k), .val (.long (2147483639 : Int64)), .second, .val (.long cl), .second, .unset, .unset, .unset, .unset, .unset, .unset, .unset, .unset, .unset, .unset, .unset, .unset, .unset, .unset, .unset, .unset, .unset, .unset, .unset, .unset, .unset] [(.int (j &&& (2147483647 : Int32)))]))
  refine Go.st (fun _ kt => XS.i2l X0.here hx rfl (hb hby at_19) rfl kt) ?_
  show Go p e below _ (s₁.setTop (mkF m 20 #[.val (.int i), .val (.int j), .val (.int k), .val (.long (2147483639 : Int64)), .second, .val (.long cl), .second, .unset, .unset, .unset, .unset, .unset, .unset, .unset, .unset, .unset, .unset, .unset, .unset, .unset, .unset, .unset, .unset, .unset, .unset, .unset, .unset, .unset] [(.long ((j &&& (2147483647 : Int32)).toInt64))]))
  refine Go.st (fun _ kt => XS.lloadN X0.here hx rfl (hb hby at_20) rfl kt) ?_
  show Go p e below _ (s₁.setTop (mkF m 21 #[.val (.int i), .val (.int j), .val (.int k), .val (.long (2147483639 : Int64)), .second, .val (.long cl), .second, .unset, .unset, .unset, .unset, .unset, .unset, .unset, .unset, .unset, .unset, .unset, .unset, .unset, .unset, .unset, .unset, .unset, .unset, .unset, .unset, .unset] [(.long (2147483639 : Int64)), (.long ((j &&& (2147483647 : Int32)).toInt64))]))
  refine Go.st (fun _ kt => XS.lload X0.here hx rfl (hb hby at_21) rfl kt) ?_
  show Go p e below _ (s₁.setTop (mkF m 23 #[.val (.int i), .val (.int j), .val (.int k), .val (.long (2147483639 : Int64)), .second, .val (.long cl), .second, .unset, .unset, .unset, .unset, .unset, .unset, .unset, .unset, .unset, .unset, .unset, .unset, .unset, .unset, .unset, .unset, .unset, .unset, .unset, .unset, .unset] [(.long cl), (.long (2147483639 : Int64)), (.long ((j &&& (2147483647 : Int32)).toInt64))]))
  refine Go.st (fun _ kt => XS.ldiv X0.here hx rfl (hb hby at_23) rfl (own_nz cl hC.1) kt) ?_
  show Go p e below _ (s₁.setTop (mkF m 24 #[.val (.int i), .val (.int j), .val (.int k), .val (.long (2147483639 : Int64)), .second, .val (.long cl), .second, .unset, .unset, .unset, .unset, .unset, .unset, .unset, .unset, .unset, .unset, .unset, .unset, .unset, .unset, .unset, .unset, .unset, .unset, .unset, .unset, .unset] [(.long ((2147483639 : Int64) / cl)), (.long ((j &&& (2147483647 : Int32)).toInt64))]))
  refine Go.st (fun _ kt => XS.lrem X0.here hx rfl (hb hby at_24) rfl (own_nz _ hD.2) kt) ?_
  show Go p e below _ (s₁.setTop (mkF m 25 #[.val (.int i), .val (.int j), .val (.int k), .val (.long (2147483639 : Int64)), .second, .val (.long cl), .second, .unset, .unset, .unset, .unset, .unset, .unset, .unset, .unset, .unset, .unset, .unset, .unset, .unset, .unset, .unset, .unset, .unset, .unset, .unset, .unset, .unset] [(.long (((j &&& (2147483647 : Int32)).toInt64) - (((j &&& (2147483647 : Int32)).toInt64) / ((2147483639 : Int64) / cl)) * ((2147483639 : Int64) / cl)))]))
  refine Go.st (fun _ kt => XS.lconst X0.here hx rfl (hb hby at_25) kt) ?_
  show Go p e below _ (s₁.setTop (mkF m 26 #[.val (.int i), .val (.int j), .val (.int k), .val (.long (2147483639 : Int64)), .second, .val (.long cl), .second, .unset, .unset, .unset, .unset, .unset, .unset, .unset, .unset, .unset, .unset, .unset, .unset, .unset, .unset, .unset, .unset, .unset, .unset, .unset, .unset, .unset] [(.long (1 : Int64)), (.long (((j &&& (2147483647 : Int32)).toInt64) - (((j &&& (2147483647 : Int32)).toInt64) / ((2147483639 : Int64) / cl)) * ((2147483639 : Int64) / cl)))]))
  refine Go.st (fun _ kt => XS.ladd X0.here hx rfl (hb hby at_26) rfl kt) ?_
  show Go p e below _ (s₁.setTop (mkF m 27 #[.val (.int i), .val (.int j), .val (.int k), .val (.long (2147483639 : Int64)), .second, .val (.long cl), .second, .unset, .unset, .unset, .unset, .unset, .unset, .unset, .unset, .unset, .unset, .unset, .unset, .unset, .unset, .unset, .unset, .unset, .unset, .unset, .unset, .unset] [(.long ((((j &&& (2147483647 : Int32)).toInt64) - (((j &&& (2147483647 : Int32)).toInt64) / ((2147483639 : Int64) / cl)) * ((2147483639 : Int64) / cl)) + (1 : Int64)))]))
  generalize hbl : (((((j &&& (2147483647 : Int32)).toInt64) - (((j &&& (2147483647 : Int32)).toInt64) / ((2147483639 : Int64) / cl)) * ((2147483639 : Int64) / cl)) + (1 : Int64)) : Int64) = bl
  show Go p e below _ (s₁.setTop (mkF m 27 #[.val (.int i), .val (.int j), .val (.int k), .val (.long (2147483639 : Int64)), .second, .val (.long cl), .second, .unset, .unset, .unset, .unset, .unset, .unset, .unset, .unset, .unset, .unset, .unset, .unset, .unset, .unset, .unset, .unset, .unset, .unset, .unset, .unset, .unset] [(.long bl)]))
  have hB := own_lr j (2147483639 / cl) hD.2
  rw [hbl] at hB
  have hM := own_ml bl cl hC.1 hC.2 hB.1 hB.2
  have hE := own_dv (bl * cl) hM.1 hM.2
  refine Go.st (fun _ kt => XS.lstore X0.here hx rfl (hb hby at_27) rfl (l' := #[.val (.int i), .val (.int j), .val (.int k), .val (.long (2147483639 : Int64)), .second, .val (.long cl), .second, .val (.long bl), .second, .unset, .unset, .unset, .unset, .unset, .unset, .unset, .unset, .unset, .unset, .unset, .unset, .unset, .unset, .unset, .unset, .unset, .unset, .unset]) rfl kt) ?_
  show Go p e below _ (s₁.setTop (mkF m 29 #[.val (.int i), .val (.int j), .val (.int k), .val (.long (2147483639 : Int64)), .second, .val (.long cl), .second, .val (.long bl), .second, .unset, .unset, .unset, .unset, .unset, .unset, .unset, .unset, .unset, .unset, .unset, .unset, .unset, .unset, .unset, .unset, .unset, .unset, .unset] []))
  refine Go.st (fun _ kt => XS.iloadN X0.here hx rfl (hb hby at_29) rfl kt) ?_
  show Go p e below _ (s₁.setTop (mkF m 30 #[.val (.int i), .val (.int j), .val (.int k), .val (.long (2147483639 : Int64)), .second, .val (.long cl), .second, .val (.long bl), .second, .unset, .unset, .unset, .unset, .unset, .unset, .unset, .unset, .unset, .unset, .unset, .unset, .unset, .unset, .unset, .unset, .unset, .unset, .unset] [(.int k)]))
  refine Go.st (fun _ kt => X0.ldcInt hx hown (mvT hZ (hw _ (List.mem_of_getElem? (i := 1) rfl))) (g := (mkF m 30 #[.val (.int i), .val (.int j), .val (.int k), .val (.long (2147483639 : Int64)), .second, .val (.long cl), .second, .val (.long bl), .second, .unset, .unset, .unset, .unset, .unset, .unset, .unset, .unset, .unset, .unset, .unset, .unset, .unset, .unset, .unset, .unset, .unset, .unset, .unset] [(.int k)])) rfl (hb hby at_30) _ kt) ?_
  show Go p e below _ (s₁.setTop (mkF m 32 #[.val (.int i), .val (.int j), .val (.int k), .val (.long (2147483639 : Int64)), .second, .val (.long cl), .second, .val (.long bl), .second, .unset, .unset, .unset, .unset, .unset, .unset, .unset, .unset, .unset, .unset, .unset, .unset, .unset, .unset, .unset, .unset, .unset, .unset, .unset] [(.int (2147483647 : Int32)), (.int k)]))
  refine Go.st (fun _ kt => XS.iand X0.here hx rfl (hb hby at_32) rfl kt) ?_
  show Go p e below _ (s₁.setTop (mkF m 33 #[.val (.int i), .val (.int j), .val (.int k), .val (.long (2147483639 : Int64)), .second, .val (.long cl), .second, .val (.long bl), .second, .unset, .unset, .unset, .unset, .unset, .unset, .unset, .unset, .unset, .unset, .unset, .unset, .unset, .unset, .unset, .unset, .unset, .unset, .unset] [(.int (k &&& (2147483647 : Int32)))]))
  refine Go.st (fun _ kt => XS.i2l X0.here hx rfl (hb hby at_33) rfl kt) ?_
  show Go p e below _ (s₁.setTop (mkF m 34 #[.val (.int i), .val (.int j), .val (.int k), .val (.long (2147483639 : Int64)), .second, .val (.long cl), .second, .val (.long bl), .second, .unset, .unset, .unset, .unset, .unset, .unset, .unset, .unset, .unset, .unset, .unset, .unset, .unset, .unset, .unset, .unset, .unset, .unset, .unset] [(.long ((k &&& (2147483647 : Int32)).toInt64))]))
  refine Go.st (fun _ kt => XS.lloadN X0.here hx rfl (hb hby at_34) rfl kt) ?_
  show Go p e below _ (s₁.setTop (mkF m 35 #[.val (.int i), .val (.int j), .val (.int k), .val (.long (2147483639 : Int64)), .second, .val (.long cl), .second, .val (.long bl), .second, .unset, .unset, .unset, .unset, .unset, .unset, .unset, .unset, .unset, .unset, .unset, .unset, .unset, .unset, .unset, .unset, .unset, .unset, .unset] [(.long (2147483639 : Int64)), (.long ((k &&& (2147483647 : Int32)).toInt64))]))
  refine Go.st (fun _ kt => XS.lload X0.here hx rfl (hb hby at_35) rfl kt) ?_
  show Go p e below _ (s₁.setTop (mkF m 37 #[.val (.int i), .val (.int j), .val (.int k), .val (.long (2147483639 : Int64)), .second, .val (.long cl), .second, .val (.long bl), .second, .unset, .unset, .unset, .unset, .unset, .unset, .unset, .unset, .unset, .unset, .unset, .unset, .unset, .unset, .unset, .unset, .unset, .unset, .unset] [(.long bl), (.long (2147483639 : Int64)), (.long ((k &&& (2147483647 : Int32)).toInt64))]))
  refine Go.st (fun _ kt => XS.lload X0.here hx rfl (hb hby at_37) rfl kt) ?_
  show Go p e below _ (s₁.setTop (mkF m 39 #[.val (.int i), .val (.int j), .val (.int k), .val (.long (2147483639 : Int64)), .second, .val (.long cl), .second, .val (.long bl), .second, .unset, .unset, .unset, .unset, .unset, .unset, .unset, .unset, .unset, .unset, .unset, .unset, .unset, .unset, .unset, .unset, .unset, .unset, .unset] [(.long cl), (.long bl), (.long (2147483639 : Int64)), (.long ((k &&& (2147483647 : Int32)).toInt64))]))
  refine Go.st (fun _ kt => XS.lmul X0.here hx rfl (hb hby at_39) rfl kt) ?_
  show Go p e below _ (s₁.setTop (mkF m 40 #[.val (.int i), .val (.int j), .val (.int k), .val (.long (2147483639 : Int64)), .second, .val (.long cl), .second, .val (.long bl), .second, .unset, .unset, .unset, .unset, .unset, .unset, .unset, .unset, .unset, .unset, .unset, .unset, .unset, .unset, .unset, .unset, .unset, .unset, .unset] [(.long (bl * cl)), (.long (2147483639 : Int64)), (.long ((k &&& (2147483647 : Int32)).toInt64))]))
  refine Go.st (fun _ kt => XS.ldiv X0.here hx rfl (hb hby at_40) rfl (own_nz _ hM.1) kt) ?_
  show Go p e below _ (s₁.setTop (mkF m 41 #[.val (.int i), .val (.int j), .val (.int k), .val (.long (2147483639 : Int64)), .second, .val (.long cl), .second, .val (.long bl), .second, .unset, .unset, .unset, .unset, .unset, .unset, .unset, .unset, .unset, .unset, .unset, .unset, .unset, .unset, .unset, .unset, .unset, .unset, .unset] [(.long ((2147483639 : Int64) / (bl * cl))), (.long ((k &&& (2147483647 : Int32)).toInt64))]))
  refine Go.st (fun _ kt => XS.lrem X0.here hx rfl (hb hby at_41) rfl (own_nz _ hE.2) kt) ?_
  show Go p e below _ (s₁.setTop (mkF m 42 #[.val (.int i), .val (.int j), .val (.int k), .val (.long (2147483639 : Int64)), .second, .val (.long cl), .second, .val (.long bl), .second, .unset, .unset, .unset, .unset, .unset, .unset, .unset, .unset, .unset, .unset, .unset, .unset, .unset, .unset, .unset, .unset, .unset, .unset, .unset] [(.long (((k &&& (2147483647 : Int32)).toInt64) - (((k &&& (2147483647 : Int32)).toInt64) / ((2147483639 : Int64) / (bl * cl))) * ((2147483639 : Int64) / (bl * cl))))]))
  refine Go.st (fun _ kt => XS.lconst X0.here hx rfl (hb hby at_42) kt) ?_
  show Go p e below _ (s₁.setTop (mkF m 43 #[.val (.int i), .val (.int j), .val (.int k), .val (.long (2147483639 : Int64)), .second, .val (.long cl), .second, .val (.long bl), .second, .unset, .unset, .unset, .unset, .unset, .unset, .unset, .unset, .unset, .unset, .unset, .unset, .unset, .unset, .unset, .unset, .unset, .unset, .unset] [(.long (1 : Int64)), (.long (((k &&& (2147483647 : Int32)).toInt64) - (((k &&& (2147483647 : Int32)).toInt64) / ((2147483639 : Int64) / (bl * cl))) * ((2147483639 : Int64) / (bl * cl))))]))
  refine Go.st (fun _ kt => XS.ladd X0.here hx rfl (hb hby at_43) rfl kt) ?_
  show Go p e below _ (s₁.setTop (mkF m 44 #[.val (.int i), .val (.int j), .val (.int k), .val (.long (2147483639 : Int64)), .second, .val (.long cl), .second, .val (.long bl), .second, .unset, .unset, .unset, .unset, .unset, .unset, .unset, .unset, .unset, .unset, .unset, .unset, .unset, .unset, .unset, .unset, .unset, .unset, .unset] [(.long ((((k &&& (2147483647 : Int32)).toInt64) - (((k &&& (2147483647 : Int32)).toInt64) / ((2147483639 : Int64) / (bl * cl))) * ((2147483639 : Int64) / (bl * cl))) + (1 : Int64)))]))
  generalize hal : (((((k &&& (2147483647 : Int32)).toInt64) - (((k &&& (2147483647 : Int32)).toInt64) / ((2147483639 : Int64) / (bl * cl))) * ((2147483639 : Int64) / (bl * cl))) + (1 : Int64)) : Int64) = al
  show Go p e below _ (s₁.setTop (mkF m 44 #[.val (.int i), .val (.int j), .val (.int k), .val (.long (2147483639 : Int64)), .second, .val (.long cl), .second, .val (.long bl), .second, .unset, .unset, .unset, .unset, .unset, .unset, .unset, .unset, .unset, .unset, .unset, .unset, .unset, .unset, .unset, .unset, .unset, .unset, .unset] [(.long al)]))
  refine Go.st (fun _ kt => XS.lstore X0.here hx rfl (hb hby at_44) rfl (l' := #[.val (.int i), .val (.int j), .val (.int k), .val (.long (2147483639 : Int64)), .second, .val (.long cl), .second, .val (.long bl), .second, .val (.long al), .second, .unset, .unset, .unset, .unset, .unset, .unset, .unset, .unset, .unset, .unset, .unset, .unset, .unset, .unset, .unset, .unset, .unset]) rfl kt) ?_
  show Go p e below _ (s₁.setTop (mkF m 46 #[.val (.int i), .val (.int j), .val (.int k), .val (.long (2147483639 : Int64)), .second, .val (.long cl), .second, .val (.long bl), .second, .val (.long al), .second, .unset, .unset, .unset, .unset, .unset, .unset, .unset, .unset, .unset, .unset, .unset, .unset, .unset, .unset, .unset, .unset, .unset] []))
  refine Go.st (fun _ kt => XS.lload X0.here hx rfl (hb hby at_46) rfl kt) ?_
  show Go p e below _ (s₁.setTop (mkF m 48 #[.val (.int i), .val (.int j), .val (.int k), .val (.long (2147483639 : Int64)), .second, .val (.long cl), .second, .val (.long bl), .second, .val (.long al), .second, .unset, .unset, .unset, .unset, .unset, .unset, .unset, .unset, .unset, .unset, .unset, .unset, .unset, .unset, .unset, .unset, .unset] [(.long al)]))
  refine Go.st (fun _ kt => XS.l2i X0.here hx rfl (hb hby at_48) rfl kt) ?_
  show Go p e below _ (s₁.setTop (mkF m 49 #[.val (.int i), .val (.int j), .val (.int k), .val (.long (2147483639 : Int64)), .second, .val (.long cl), .second, .val (.long bl), .second, .val (.long al), .second, .unset, .unset, .unset, .unset, .unset, .unset, .unset, .unset, .unset, .unset, .unset, .unset, .unset, .unset, .unset, .unset, .unset] [(.int (al.toInt32))]))
  refine Go.st (fun _ kt => XS.istore X0.here hx rfl (hb hby at_49) rfl (l' := #[.val (.int i), .val (.int j), .val (.int k), .val (.long (2147483639 : Int64)), .second, .val (.long cl), .second, .val (.long bl), .second, .val (.long al), .second, .val (.int (al.toInt32)), .unset, .unset, .unset, .unset, .unset, .unset, .unset, .unset, .unset, .unset, .unset, .unset, .unset, .unset, .unset, .unset]) rfl kt) ?_
  show Go p e below _ (s₁.setTop (mkF m 51 #[.val (.int i), .val (.int j), .val (.int k), .val (.long (2147483639 : Int64)), .second, .val (.long cl), .second, .val (.long bl), .second, .val (.long al), .second, .val (.int (al.toInt32)), .unset, .unset, .unset, .unset, .unset, .unset, .unset, .unset, .unset, .unset, .unset, .unset, .unset, .unset, .unset, .unset] []))
  refine Go.st (fun _ kt => XS.lload X0.here hx rfl (hb hby at_51) rfl kt) ?_
  show Go p e below _ (s₁.setTop (mkF m 53 #[.val (.int i), .val (.int j), .val (.int k), .val (.long (2147483639 : Int64)), .second, .val (.long cl), .second, .val (.long bl), .second, .val (.long al), .second, .val (.int (al.toInt32)), .unset, .unset, .unset, .unset, .unset, .unset, .unset, .unset, .unset, .unset, .unset, .unset, .unset, .unset, .unset, .unset] [(.long bl)]))
  refine Go.st (fun _ kt => XS.l2i X0.here hx rfl (hb hby at_53) rfl kt) ?_
  show Go p e below _ (s₁.setTop (mkF m 54 #[.val (.int i), .val (.int j), .val (.int k), .val (.long (2147483639 : Int64)), .second, .val (.long cl), .second, .val (.long bl), .second, .val (.long al), .second, .val (.int (al.toInt32)), .unset, .unset, .unset, .unset, .unset, .unset, .unset, .unset, .unset, .unset, .unset, .unset, .unset, .unset, .unset, .unset] [(.int (bl.toInt32))]))
  refine Go.st (fun _ kt => XS.istore X0.here hx rfl (hb hby at_54) rfl (l' := #[.val (.int i), .val (.int j), .val (.int k), .val (.long (2147483639 : Int64)), .second, .val (.long cl), .second, .val (.long bl), .second, .val (.long al), .second, .val (.int (al.toInt32)), .val (.int (bl.toInt32)), .unset, .unset, .unset, .unset, .unset, .unset, .unset, .unset, .unset, .unset, .unset, .unset, .unset, .unset, .unset]) rfl kt) ?_
  show Go p e below _ (s₁.setTop (mkF m 56 #[.val (.int i), .val (.int j), .val (.int k), .val (.long (2147483639 : Int64)), .second, .val (.long cl), .second, .val (.long bl), .second, .val (.long al), .second, .val (.int (al.toInt32)), .val (.int (bl.toInt32)), .unset, .unset, .unset, .unset, .unset, .unset, .unset, .unset, .unset, .unset, .unset, .unset, .unset, .unset, .unset] []))
  refine Go.st (fun _ kt => XS.lload X0.here hx rfl (hb hby at_56) rfl kt) ?_
  show Go p e below _ (s₁.setTop (mkF m 58 #[.val (.int i), .val (.int j), .val (.int k), .val (.long (2147483639 : Int64)), .second, .val (.long cl), .second, .val (.long bl), .second, .val (.long al), .second, .val (.int (al.toInt32)), .val (.int (bl.toInt32)), .unset, .unset, .unset, .unset, .unset, .unset, .unset, .unset, .unset, .unset, .unset, .unset, .unset, .unset, .unset] [(.long cl)]))
  refine Go.st (fun _ kt => XS.l2i X0.here hx rfl (hb hby at_58) rfl kt) ?_
  show Go p e below _ (s₁.setTop (mkF m 59 #[.val (.int i), .val (.int j), .val (.int k), .val (.long (2147483639 : Int64)), .second, .val (.long cl), .second, .val (.long bl), .second, .val (.long al), .second, .val (.int (al.toInt32)), .val (.int (bl.toInt32)), .unset, .unset, .unset, .unset, .unset, .unset, .unset, .unset, .unset, .unset, .unset, .unset, .unset, .unset, .unset] [(.int (cl.toInt32))]))
  refine Go.st (fun _ kt => XS.istore X0.here hx rfl (hb hby at_59) rfl (l' := #[.val (.int i), .val (.int j), .val (.int k), .val (.long (2147483639 : Int64)), .second, .val (.long cl), .second, .val (.long bl), .second, .val (.long al), .second, .val (.int (al.toInt32)), .val (.int (bl.toInt32)), .val (.int (cl.toInt32)), .unset, .unset, .unset, .unset, .unset, .unset, .unset, .unset, .unset, .unset, .unset, .unset, .unset, .unset]) rfl kt) ?_
  show Go p e below _ (s₁.setTop (mkF m 61 #[.val (.int i), .val (.int j), .val (.int k), .val (.long (2147483639 : Int64)), .second, .val (.long cl), .second, .val (.long bl), .second, .val (.long al), .second, .val (.int (al.toInt32)), .val (.int (bl.toInt32)), .val (.int (cl.toInt32)), .unset, .unset, .unset, .unset, .unset, .unset, .unset, .unset, .unset, .unset, .unset, .unset, .unset, .unset] []))
  refine Go.st (fun _ kt => XS.lload X0.here hx rfl (hb hby at_61) rfl kt) ?_
  show Go p e below _ (s₁.setTop (mkF m 63 #[.val (.int i), .val (.int j), .val (.int k), .val (.long (2147483639 : Int64)), .second, .val (.long cl), .second, .val (.long bl), .second, .val (.long al), .second, .val (.int (al.toInt32)), .val (.int (bl.toInt32)), .val (.int (cl.toInt32)), .unset, .unset, .unset, .unset, .unset, .unset, .unset, .unset, .unset, .unset, .unset, .unset, .unset, .unset] [(.long bl)]))
  refine Go.st (fun _ kt => XS.lload X0.here hx rfl (hb hby at_63) rfl kt) ?_
  show Go p e below _ (s₁.setTop (mkF m 65 #[.val (.int i), .val (.int j), .val (.int k), .val (.long (2147483639 : Int64)), .second, .val (.long cl), .second, .val (.long bl), .second, .val (.long al), .second, .val (.int (al.toInt32)), .val (.int (bl.toInt32)), .val (.int (cl.toInt32)), .unset, .unset, .unset, .unset, .unset, .unset, .unset, .unset, .unset, .unset, .unset, .unset, .unset, .unset] [(.long cl), (.long bl)]))
  refine Go.st (fun _ kt => XS.lmul X0.here hx rfl (hb hby at_65) rfl kt) ?_
  show Go p e below _ (s₁.setTop (mkF m 66 #[.val (.int i), .val (.int j), .val (.int k), .val (.long (2147483639 : Int64)), .second, .val (.long cl), .second, .val (.long bl), .second, .val (.long al), .second, .val (.int (al.toInt32)), .val (.int (bl.toInt32)), .val (.int (cl.toInt32)), .unset, .unset, .unset, .unset, .unset, .unset, .unset, .unset, .unset, .unset, .unset, .unset, .unset, .unset] [(.long (bl * cl))]))
  refine Go.st (fun _ kt => XS.l2i X0.here hx rfl (hb hby at_66) rfl kt) ?_
  show Go p e below _ (s₁.setTop (mkF m 67 #[.val (.int i), .val (.int j), .val (.int k), .val (.long (2147483639 : Int64)), .second, .val (.long cl), .second, .val (.long bl), .second, .val (.long al), .second, .val (.int (al.toInt32)), .val (.int (bl.toInt32)), .val (.int (cl.toInt32)), .unset, .unset, .unset, .unset, .unset, .unset, .unset, .unset, .unset, .unset, .unset, .unset, .unset, .unset] [(.int ((bl * cl).toInt32))]))
  refine Go.st (fun _ kt => XS.istore X0.here hx rfl (hb hby at_67) rfl (l' := #[.val (.int i), .val (.int j), .val (.int k), .val (.long (2147483639 : Int64)), .second, .val (.long cl), .second, .val (.long bl), .second, .val (.long al), .second, .val (.int (al.toInt32)), .val (.int (bl.toInt32)), .val (.int (cl.toInt32)), .val (.int ((bl * cl).toInt32)), .unset, .unset, .unset, .unset, .unset, .unset, .unset, .unset, .unset, .unset, .unset, .unset, .unset]) rfl kt) ?_
  show Go p e below _ (s₁.setTop (mkF m 69 #[.val (.int i), .val (.int j), .val (.int k), .val (.long (2147483639 : Int64)), .second, .val (.long cl), .second, .val (.long bl), .second, .val (.long al), .second, .val (.int (al.toInt32)), .val (.int (bl.toInt32)), .val (.int (cl.toInt32)), .val (.int ((bl * cl).toInt32)), .unset, .unset, .unset, .unset, .unset, .unset, .unset, .unset, .unset, .unset, .unset, .unset, .unset] []))
  refine Go.st (fun _ kt => XS.iconst X0.here hx rfl (hb hby at_69) kt) ?_
  show Go p e below _ (s₁.setTop (mkF m 70 #[.val (.int i), .val (.int j), .val (.int k), .val (.long (2147483639 : Int64)), .second, .val (.long cl), .second, .val (.long bl), .second, .val (.long al), .second, .val (.int (al.toInt32)), .val (.int (bl.toInt32)), .val (.int (cl.toInt32)), .val (.int ((bl * cl).toInt32)), .unset, .unset, .unset, .unset, .unset, .unset, .unset, .unset, .unset, .unset, .unset, .unset, .unset] [(.int (0 : Int32))]))
  obtain ⟨T1, h1, k1, X1, e1, E1, A1, Y1, st1⟩ := newPE X0 hx hZ (hw _ (List.mem_of_getElem? (i := 2) rfl)) e0 (g := (mkF m 70 #[.val (.int i), .val (.int j), .val (.int k), .val (.long (2147483639 : Int64)), .second, .val (.long cl), .second, .val (.long bl), .second, .val (.long al), .second, .val (.int (al.toInt32)), .val (.int (bl.toInt32)), .val (.int (cl.toInt32)), .val (.int ((bl * cl).toInt32)), .unset, .unset, .unset, .unset, .unset, .unset, .unset, .unset, .unset, .unset, .unset, .unset, .unset] [(.int (0 : Int32))])) rfl (hb hby at_70) rfl (by decide) (cap := 0) (by decide) (by decide) (by decide) (by decide) (ad := "[I") (by decide)
  obtain ⟨b1, g1⟩ : ∃ z, z = h0.size := ⟨_, rfl⟩
  rw [← g1] at A1 Y1 st1
  have gn_b1 : n0 ≤ b1 := Nat.le_trans Z0 (Nat.le_of_eq g1.symm)
  have Zs1 : n0 ≤ h1.size := Nat.le_trans Z0 E1.1
  refine Go.st st1 ?_
  have V1 := Arv.new A1 (by decide)
  show Go p e below _ (T1.setTop (mkF m 72 #[.val (.int i), .val (.int j), .val (.int k), .val (.long (2147483639 : Int64)), .second, .val (.long cl), .second, .val (.long bl), .second, .val (.long al), .second, .val (.int (al.toInt32)), .val (.int (bl.toInt32)), .val (.int (cl.toInt32)), .val (.int ((bl * cl).toInt32)), .unset, .unset, .unset, .unset, .unset, .unset, .unset, .unset, .unset, .unset, .unset, .unset, .unset] [(.ref b1)]))
  refine Go.st (fun _ kt => XS.astore X1.here hx rfl (hb hby at_72) rfl rfl (l' := #[.val (.int i), .val (.int j), .val (.int k), .val (.long (2147483639 : Int64)), .second, .val (.long cl), .second, .val (.long bl), .second, .val (.long al), .second, .val (.int (al.toInt32)), .val (.int (bl.toInt32)), .val (.int (cl.toInt32)), .val (.int ((bl * cl).toInt32)), .val (.ref b1), .unset, .unset, .unset, .unset, .unset, .unset, .unset, .unset, .unset, .unset, .unset, .unset]) rfl kt) ?_
  show Go p e below _ (T1.setTop (mkF m 74 #[.val (.int i), .val (.int j), .val (.int k), .val (.long (2147483639 : Int64)), .second, .val (.long cl), .second, .val (.long bl), .second, .val (.long al), .second, .val (.int (al.toInt32)), .val (.int (bl.toInt32)), .val (.int (cl.toInt32)), .val (.int ((bl * cl).toInt32)), .val (.ref b1), .unset, .unset, .unset, .unset, .unset, .unset, .unset, .unset, .unset, .unset, .unset, .unset] []))
  refine Go.st (fun _ kt => XS.iconst X1.here hx rfl (hb hby at_74) kt) ?_
  show Go p e below _ (T1.setTop (mkF m 75 #[.val (.int i), .val (.int j), .val (.int k), .val (.long (2147483639 : Int64)), .second, .val (.long cl), .second, .val (.long bl), .second, .val (.long al), .second, .val (.int (al.toInt32)), .val (.int (bl.toInt32)), .val (.int (cl.toInt32)), .val (.int ((bl * cl).toInt32)), .val (.ref b1), .unset, .unset, .unset, .unset, .unset, .unset, .unset, .unset, .unset, .unset, .unset, .unset] [(.int (1 : Int32))]))
  obtain ⟨T2, h2, k2, X2, e2, E2, A2, Y2, st2⟩ := newPE X1 hx hZ (hw _ (List.mem_of_getElem? (i := 2) rfl)) e1 (g := (mkF m 75 #[.val (.int i), .val (.int j), .val (.int k), .val (.long (2147483639 : Int64)), .second, .val (.long cl), .second, .val (.long bl), .second, .val (.long al), .second, .val (.int (al.toInt32)), .val (.int (bl.toInt32)), .val (.int (cl.toInt32)), .val (.int ((bl * cl).toInt32)), .val (.ref b1), .unset, .unset, .unset, .unset, .unset, .unset, .unset, .unset, .unset, .unset, .unset, .unset] [(.int (1 : Int32))])) rfl (hb hby at_75) rfl (by decide) (cap := 1) (by decide) (by decide) (by decide) (by decide) (ad := "[I") (by decide)
  obtain ⟨b2, g2⟩ : ∃ z, z = h1.size := ⟨_, rfl⟩
  rw [← g2] at A2 Y2 st2
  have lt_b1_b2 : b1 < b2 := Nat.lt_of_lt_of_eq Y1.lt g2.symm
  have gn_b2 : n0 ≤ b2 := Nat.le_trans Zs1 (Nat.le_of_eq g2.symm)
  have Zs2 : n0 ≤ h2.size := Nat.le_trans Zs1 E2.1
  refine Go.st st2 ?_
  have V2 : Arv Z h2 b2 k2 .int (1 : Int32) [(.int (0 : Int32))] (.int (0 : Int32)) := (Arv.new A2 (by decide)).pad (pad_rep [] (.int (0 : Int32)) 1)
  show Go p e below _ (T2.setTop (mkF m 77 #[.val (.int i), .val (.int j), .val (.int k), .val (.long (2147483639 : Int64)), .second, .val (.long cl), .second, .val (.long bl), .second, .val (.long al), .second, .val (.int (al.toInt32)), .val (.int (bl.toInt32)), .val (.int (cl.toInt32)), .val (.int ((bl * cl).toInt32)), .val (.ref b1), .unset, .unset, .unset, .unset, .unset, .unset, .unset, .unset, .unset, .unset, .unset, .unset] [(.ref b2)]))
  refine Go.st (fun _ kt => XS.dup X2.here hx rfl (hb hby at_77) rfl rfl kt) ?_
  show Go p e below _ (T2.setTop (mkF m 78 #[.val (.int i), .val (.int j), .val (.int k), .val (.long (2147483639 : Int64)), .second, .val (.long cl), .second, .val (.long bl), .second, .val (.long al), .second, .val (.int (al.toInt32)), .val (.int (bl.toInt32)), .val (.int (cl.toInt32)), .val (.int ((bl * cl).toInt32)), .val (.ref b1), .unset, .unset, .unset, .unset, .unset, .unset, .unset, .unset, .unset, .unset, .unset, .unset] [(.ref b2), (.ref b2)]))
  refine Go.st (fun _ kt => XS.iconst X2.here hx rfl (hb hby at_78) kt) ?_
  show Go p e below _ (T2.setTop (mkF m 79 #[.val (.int i), .val (.int j), .val (.int k), .val (.long (2147483639 : Int64)), .second, .val (.long cl), .second, .val (.long bl), .second, .val (.long al), .second, .val (.int (al.toInt32)), .val (.int (bl.toInt32)), .val (.int (cl.toInt32)), .val (.int ((bl * cl).toInt32)), .val (.ref b1), .unset, .unset, .unset, .unset, .unset, .unset, .unset, .unset, .unset, .unset, .unset, .unset] [(.int (0 : Int32)), (.ref b2), (.ref b2)]))
  refine Go.st (fun _ kt => XS.iload X2.here hx rfl (hb hby at_79) rfl kt) ?_
  show Go p e below _ (T2.setTop (mkF m 81 #[.val (.int i), .val (.int j), .val (.int k), .val (.long (2147483639 : Int64)), .second, .val (.long cl), .second, .val (.long bl), .second, .val (.long al), .second, .val (.int (al.toInt32)), .val (.int (bl.toInt32)), .val (.int (cl.toInt32)), .val (.int ((bl * cl).toInt32)), .val (.ref b1), .unset, .unset, .unset, .unset, .unset, .unset, .unset, .unset, .unset, .unset, .unset, .unset] [(.int (cl.toInt32)), (.int (0 : Int32)), (.ref b2), (.ref b2)]))
  obtain ⟨cl3, Ar3, q3, S3, N3', H3, G3⟩ := id V2
  have hin3 : ¬ ((0 : Int32) < 0 ∨ cl3.slots.size ≤ ((0 : Int32)).toNatClampNeg) := inb_of S3 ⟨by decide, by decide⟩
  obtain ⟨T4, h4, X4, e4, W4, st4⟩ := stI X2 hx hZ e2 Ar3 (j := (0 : Int32)) hin3 (g := (mkF m 81 #[.val (.int i), .val (.int j), .val (.int k), .val (.long (2147483639 : Int64)), .second, .val (.long cl), .second, .val (.long bl), .second, .val (.long al), .second, .val (.int (al.toInt32)), .val (.int (bl.toInt32)), .val (.int (cl.toInt32)), .val (.int ((bl * cl).toInt32)), .val (.ref b1), .unset, .unset, .unset, .unset, .unset, .unset, .unset, .unset, .unset, .unset, .unset, .unset] [(.int (cl.toInt32)), (.int (0 : Int32)), (.ref b2), (.ref b2)])) rfl rfl (hb hby at_81)
  refine Go.st st4 ?_
  have V4 : Arv Z h4 b2 k2 .int (1 : Int32) [(.int (cl.toInt32))] (.int (0 : Int32)) := Arv.set Ar3 q3 S3 N3' H3 G3 rfl W4 0 rfl (Nat.le_of_ble_eq_true rfl)
  have Zs4 : n0 ≤ h4.size := Nat.le_trans Zs2 (Nat.le_of_eq W4.size.symm)
  have N4 := Fr.snoc X4 N0 gn_b2
  show Go p e below _ (T4.setTop (mkF m 82 #[.val (.int i), .val (.int j), .val (.int k), .val (.long (2147483639 : Int64)), .second, .val (.long cl), .second, .val (.long bl), .second, .val (.long al), .second, .val (.int (al.toInt32)), .val (.int (bl.toInt32)), .val (.int (cl.toInt32)), .val (.int ((bl * cl).toInt32)), .val (.ref b1), .unset, .unset, .unset, .unset, .unset, .unset, .unset, .unset, .unset, .unset, .unset, .unset] [(.ref b2)]))
  refine Go.st (fun _ kt => XS.astore X4.here hx rfl (hb hby at_82) rfl rfl (l' := #[.val (.int i), .val (.int j), .val (.int k), .val (.long (2147483639 : Int64)), .second, .val (.long cl), .second, .val (.long bl), .second, .val (.long al), .second, .val (.int (al.toInt32)), .val (.int (bl.toInt32)), .val (.int (cl.toInt32)), .val (.int ((bl * cl).toInt32)), .val (.ref b1), .val (.ref b2), .unset, .unset, .unset, .unset, .unset, .unset, .unset, .unset, .unset, .unset, .unset]) rfl kt) ?_
  show Go p e below _ (T4.setTop (mkF m 84 #[.val (.int i), .val (.int j), .val (.int k), .val (.long (2147483639 : Int64)), .second, .val (.long cl), .second, .val (.long bl), .second, .val (.long al), .second, .val (.int (al.toInt32)), .val (.int (bl.toInt32)), .val (.int (cl.toInt32)), .val (.int ((bl * cl).toInt32)), .val (.ref b1), .val (.ref b2), .unset, .unset, .unset, .unset, .unset, .unset, .unset, .unset, .unset, .unset, .unset] []))
  refine Go.st (fun _ kt => XS.iconst X4.here hx rfl (hb hby at_84) kt) ?_
  show Go p e below _ (T4.setTop (mkF m 85 #[.val (.int i), .val (.int j), .val (.int k), .val (.long (2147483639 : Int64)), .second, .val (.long cl), .second, .val (.long bl), .second, .val (.long al), .second, .val (.int (al.toInt32)), .val (.int (bl.toInt32)), .val (.int (cl.toInt32)), .val (.int ((bl * cl).toInt32)), .val (.ref b1), .val (.ref b2), .unset, .unset, .unset, .unset, .unset, .unset, .unset, .unset, .unset, .unset, .unset] [(.int (2 : Int32))]))
  obtain ⟨T5, h5, k5, X5, e5, E5, A5, Y5, st5⟩ := newPE X4 hx hZ (hw _ (List.mem_of_getElem? (i := 2) rfl)) e4 (g := (mkF m 85 #[.val (.int i), .val (.int j), .val (.int k), .val (.long (2147483639 : Int64)), .second, .val (.long cl), .second, .val (.long bl), .second, .val (.long al), .second, .val (.int (al.toInt32)), .val (.int (bl.toInt32)), .val (.int (cl.toInt32)), .val (.int ((bl * cl).toInt32)), .val (.ref b1), .val (.ref b2), .unset, .unset, .unset, .unset, .unset, .unset, .unset, .unset, .unset, .unset, .unset] [(.int (2 : Int32))])) rfl (hb hby at_85) rfl (by decide) (cap := 2) (by decide) (by decide) (by decide) (by decide) (ad := "[I") (by decide)
  obtain ⟨b5, g5⟩ : ∃ z, z = h4.size := ⟨_, rfl⟩
  rw [← g5] at A5 Y5 st5
  have f6 := ((Y1.ext E2).wr W4)
  have lt_b1_b5 : b1 < b5 := Nat.lt_of_lt_of_eq f6.lt g5.symm
  have f7 := (Y2.wr W4)
  have lt_b2_b5 : b2 < b5 := Nat.lt_of_lt_of_eq f7.lt g5.symm
  have gn_b5 : n0 ≤ b5 := Nat.le_trans Zs4 (Nat.le_of_eq g5.symm)
  have Zs5 : n0 ≤ h5.size := Nat.le_trans Zs4 E5.1
  refine Go.st st5 ?_
  have V5 : Arv Z h5 b5 k5 .int (2 : Int32) [(.int (0 : Int32)), (.int (0 : Int32))] (.int (0 : Int32)) := (Arv.new A5 (by decide)).pad (pad_rep [] (.int (0 : Int32)) 2)
  show Go p e below _ (T5.setTop (mkF m 87 #[.val (.int i), .val (.int j), .val (.int k), .val (.long (2147483639 : Int64)), .second, .val (.long cl), .second, .val (.long bl), .second, .val (.long al), .second, .val (.int (al.toInt32)), .val (.int (bl.toInt32)), .val (.int (cl.toInt32)), .val (.int ((bl * cl).toInt32)), .val (.ref b1), .val (.ref b2), .unset, .unset, .unset, .unset, .unset, .unset, .unset, .unset, .unset, .unset, .unset] [(.ref b5)]))
  refine Go.st (fun _ kt => XS.dup X5.here hx rfl (hb hby at_87) rfl rfl kt) ?_
  show Go p e below _ (T5.setTop (mkF m 88 #[.val (.int i), .val (.int j), .val (.int k), .val (.long (2147483639 : Int64)), .second, .val (.long cl), .second, .val (.long bl), .second, .val (.long al), .second, .val (.int (al.toInt32)), .val (.int (bl.toInt32)), .val (.int (cl.toInt32)), .val (.int ((bl * cl).toInt32)), .val (.ref b1), .val (.ref b2), .unset, .unset, .unset, .unset, .unset, .unset, .unset, .unset, .unset, .unset, .unset] [(.ref b5), (.ref b5)]))
  refine Go.st (fun _ kt => XS.iconst X5.here hx rfl (hb hby at_88) kt) ?_
  show Go p e below _ (T5.setTop (mkF m 89 #[.val (.int i), .val (.int j), .val (.int k), .val (.long (2147483639 : Int64)), .second, .val (.long cl), .second, .val (.long bl), .second, .val (.long al), .second, .val (.int (al.toInt32)), .val (.int (bl.toInt32)), .val (.int (cl.toInt32)), .val (.int ((bl * cl).toInt32)), .val (.ref b1), .val (.ref b2), .unset, .unset, .unset, .unset, .unset, .unset, .unset, .unset, .unset, .unset, .unset] [(.int (0 : Int32)), (.ref b5), (.ref b5)]))
  refine Go.st (fun _ kt => XS.iload X5.here hx rfl (hb hby at_89) rfl kt) ?_
  show Go p e below _ (T5.setTop (mkF m 91 #[.val (.int i), .val (.int j), .val (.int k), .val (.long (2147483639 : Int64)), .second, .val (.long cl), .second, .val (.long bl), .second, .val (.long al), .second, .val (.int (al.toInt32)), .val (.int (bl.toInt32)), .val (.int (cl.toInt32)), .val (.int ((bl * cl).toInt32)), .val (.ref b1), .val (.ref b2), .unset, .unset, .unset, .unset, .unset, .unset, .unset, .unset, .unset, .unset, .unset] [(.int (bl.toInt32)), (.int (0 : Int32)), (.ref b5), (.ref b5)]))
  obtain ⟨cl8, Ar8, q8, S8, N8', H8, G8⟩ := id V5
  have hin8 : ¬ ((0 : Int32) < 0 ∨ cl8.slots.size ≤ ((0 : Int32)).toNatClampNeg) := inb_of S8 ⟨by decide, by decide⟩
  obtain ⟨T9, h9, X9, e9, W9, st9⟩ := stI X5 hx hZ e5 Ar8 (j := (0 : Int32)) hin8 (g := (mkF m 91 #[.val (.int i), .val (.int j), .val (.int k), .val (.long (2147483639 : Int64)), .second, .val (.long cl), .second, .val (.long bl), .second, .val (.long al), .second, .val (.int (al.toInt32)), .val (.int (bl.toInt32)), .val (.int (cl.toInt32)), .val (.int ((bl * cl).toInt32)), .val (.ref b1), .val (.ref b2), .unset, .unset, .unset, .unset, .unset, .unset, .unset, .unset, .unset, .unset, .unset] [(.int (bl.toInt32)), (.int (0 : Int32)), (.ref b5), (.ref b5)])) rfl rfl (hb hby at_91)
  refine Go.st st9 ?_
  have V9 : Arv Z h9 b5 k5 .int (2 : Int32) [(.int (bl.toInt32)), (.int (0 : Int32))] (.int (0 : Int32)) := Arv.set Ar8 q8 S8 N8' H8 G8 rfl W9 0 rfl (Nat.le_of_ble_eq_true rfl)
  have Zs9 : n0 ≤ h9.size := Nat.le_trans Zs5 (Nat.le_of_eq W9.size.symm)
  have N9 := Fr.snoc X9 N4 gn_b5
  show Go p e below _ (T9.setTop (mkF m 92 #[.val (.int i), .val (.int j), .val (.int k), .val (.long (2147483639 : Int64)), .second, .val (.long cl), .second, .val (.long bl), .second, .val (.long al), .second, .val (.int (al.toInt32)), .val (.int (bl.toInt32)), .val (.int (cl.toInt32)), .val (.int ((bl * cl).toInt32)), .val (.ref b1), .val (.ref b2), .unset, .unset, .unset, .unset, .unset, .unset, .unset, .unset, .unset, .unset, .unset] [(.ref b5)]))
  refine Go.st (fun _ kt => XS.dup X9.here hx rfl (hb hby at_92) rfl rfl kt) ?_
  show Go p e below _ (T9.setTop (mkF m 93 #[.val (.int i), .val (.int j), .val (.int k), .val (.long (2147483639 : Int64)), .second, .val (.long cl), .second, .val (.long bl), .second, .val (.long al), .second, .val (.int (al.toInt32)), .val (.int (bl.toInt32)), .val (.int (cl.toInt32)), .val (.int ((bl * cl).toInt32)), .val (.ref b1), .val (.ref b2), .unset, .unset, .unset, .unset, .unset, .unset, .unset, .unset, .unset, .unset, .unset] [(.ref b5), (.ref b5)]))
  refine Go.st (fun _ kt => XS.iconst X9.here hx rfl (hb hby at_93) kt) ?_
  show Go p e below _ (T9.setTop (mkF m 94 #[.val (.int i), .val (.int j), .val (.int k), .val (.long (2147483639 : Int64)), .second, .val (.long cl), .second, .val (.long bl), .second, .val (.long al), .second, .val (.int (al.toInt32)), .val (.int (bl.toInt32)), .val (.int (cl.toInt32)), .val (.int ((bl * cl).toInt32)), .val (.ref b1), .val (.ref b2), .unset, .unset, .unset, .unset, .unset, .unset, .unset, .unset, .unset, .unset, .unset] [(.int (1 : Int32)), (.ref b5), (.ref b5)]))
  refine Go.st (fun _ kt => XS.iload X9.here hx rfl (hb hby at_94) rfl kt) ?_
  show Go p e below _ (T9.setTop (mkF m 96 #[.val (.int i), .val (.int j), .val (.int k), .val (.long (2147483639 : Int64)), .second, .val (.long cl), .second, .val (.long bl), .second, .val (.long al), .second, .val (.int (al.toInt32)), .val (.int (bl.toInt32)), .val (.int (cl.toInt32)), .val (.int ((bl * cl).toInt32)), .val (.ref b1), .val (.ref b2), .unset, .unset, .unset, .unset, .unset, .unset, .unset, .unset, .unset, .unset, .unset] [(.int (cl.toInt32)), (.int (1 : Int32)), (.ref b5), (.ref b5)]))
  obtain ⟨cl10, Ar10, q10, S10, N10', H10, G10⟩ := id V9
  have hin10 : ¬ ((1 : Int32) < 0 ∨ cl10.slots.size ≤ ((1 : Int32)).toNatClampNeg) := inb_of S10 ⟨by decide, by decide⟩
  obtain ⟨T11, h11, X11, e11, W11, st11⟩ := stI X9 hx hZ e9 Ar10 (j := (1 : Int32)) hin10 (g := (mkF m 96 #[.val (.int i), .val (.int j), .val (.int k), .val (.long (2147483639 : Int64)), .second, .val (.long cl), .second, .val (.long bl), .second, .val (.long al), .second, .val (.int (al.toInt32)), .val (.int (bl.toInt32)), .val (.int (cl.toInt32)), .val (.int ((bl * cl).toInt32)), .val (.ref b1), .val (.ref b2), .unset, .unset, .unset, .unset, .unset, .unset, .unset, .unset, .unset, .unset, .unset] [(.int (cl.toInt32)), (.int (1 : Int32)), (.ref b5), (.ref b5)])) rfl rfl (hb hby at_96)
  refine Go.st st11 ?_
  have V11 : Arv Z h11 b5 k5 .int (2 : Int32) [(.int (bl.toInt32)), (.int (cl.toInt32))] (.int (0 : Int32)) := Arv.set Ar10 q10 S10 N10' H10 G10 rfl W11 1 rfl (Nat.le_of_ble_eq_true rfl)
  have Zs11 : n0 ≤ h11.size := Nat.le_trans Zs9 (Nat.le_of_eq W11.size.symm)
  have N11 := Fr.snoc X11 N9 gn_b5
  show Go p e below _ (T11.setTop (mkF m 97 #[.val (.int i), .val (.int j), .val (.int k), .val (.long (2147483639 : Int64)), .second, .val (.long cl), .second, .val (.long bl), .second, .val (.long al), .second, .val (.int (al.toInt32)), .val (.int (bl.toInt32)), .val (.int (cl.toInt32)), .val (.int ((bl * cl).toInt32)), .val (.ref b1), .val (.ref b2), .unset, .unset, .unset, .unset, .unset, .unset, .unset, .unset, .unset, .unset, .unset] [(.ref b5)]))
  refine Go.st (fun _ kt => XS.astore X11.here hx rfl (hb hby at_97) rfl rfl (l' := #[.val (.int i), .val (.int j), .val (.int k), .val (.long (2147483639 : Int64)), .second, .val (.long cl), .second, .val (.long bl), .second, .val (.long al), .second, .val (.int (al.toInt32)), .val (.int (bl.toInt32)), .val (.int (cl.toInt32)), .val (.int ((bl * cl).toInt32)), .val (.ref b1), .val (.ref b2), .val (.ref b5), .unset, .unset, .unset, .unset, .unset, .unset, .unset, .unset, .unset, .unset]) rfl kt) ?_
  show Go p e below _ (T11.setTop (mkF m 99 #[.val (.int i), .val (.int j), .val (.int k), .val (.long (2147483639 : Int64)), .second, .val (.long cl), .second, .val (.long bl), .second, .val (.long al), .second, .val (.int (al.toInt32)), .val (.int (bl.toInt32)), .val (.int (cl.toInt32)), .val (.int ((bl * cl).toInt32)), .val (.ref b1), .val (.ref b2), .val (.ref b5), .unset, .unset, .unset, .unset, .unset, .unset, .unset, .unset, .unset, .unset] []))
  refine Go.st (fun _ kt => XS.iconst X11.here hx rfl (hb hby at_99) kt) ?_
  show Go p e below _ (T11.setTop (mkF m 100 #[.val (.int i), .val (.int j), .val (.int k), .val (.long (2147483639 : Int64)), .second, .val (.long cl), .second, .val (.long bl), .second, .val (.long al), .second, .val (.int (al.toInt32)), .val (.int (bl.toInt32)), .val (.int (cl.toInt32)), .val (.int ((bl * cl).toInt32)), .val (.ref b1), .val (.ref b2), .val (.ref b5), .unset, .unset, .unset, .unset, .unset, .unset, .unset, .unset, .unset, .unset] [(.int (3 : Int32))]))
  obtain ⟨T12, h12, k12, X12, e12, E12, A12, Y12, st12⟩ := newPE X11 hx hZ (hw _ (List.mem_of_getElem? (i := 2) rfl)) e11 (g := (mkF m 100 #[.val (.int i), .val (.int j), .val (.int k), .val (.long (2147483639 : Int64)), .second, .val (.long cl), .second, .val (.long bl), .second, .val (.long al), .second, .val (.int (al.toInt32)), .val (.int (bl.toInt32)), .val (.int (cl.toInt32)), .val (.int ((bl * cl).toInt32)), .val (.ref b1), .val (.ref b2), .val (.ref b5), .unset, .unset, .unset, .unset, .unset, .unset, .unset, .unset, .unset, .unset] [(.int (3 : Int32))])) rfl (hb hby at_100) rfl (by decide) (cap := 3) (by decide) (by decide) (by decide) (by decide) (ad := "[I") (by decide)
  obtain ⟨b12, g12⟩ : ∃ z, z = h11.size := ⟨_, rfl⟩
  rw [← g12] at A12 Y12 st12
  have f13 := (((f6.ext E5).wr W9).wr W11)
  have lt_b1_b12 : b1 < b12 := Nat.lt_of_lt_of_eq f13.lt g12.symm
  have f14 := (((f7.ext E5).wr W9).wr W11)
  have lt_b2_b12 : b2 < b12 := Nat.lt_of_lt_of_eq f14.lt g12.symm
  have f15 := ((Y5.wr W9).wr W11)
  have lt_b5_b12 : b5 < b12 := Nat.lt_of_lt_of_eq f15.lt g12.symm
  have gn_b12 : n0 ≤ b12 := Nat.le_trans Zs11 (Nat.le_of_eq g12.symm)
  have Zs12 : n0 ≤ h12.size := Nat.le_trans Zs11 E12.1
  refine Go.st st12 ?_
  have V12 : Arv Z h12 b12 k12 .int (3 : Int32) [(.int (0 : Int32)), (.int (0 : Int32)), (.int (0 : Int32))] (.int (0 : Int32)) := (Arv.new A12 (by decide)).pad (pad_rep [] (.int (0 : Int32)) 3)
  show Go p e below _ (T12.setTop (mkF m 102 #[.val (.int i), .val (.int j), .val (.int k), .val (.long (2147483639 : Int64)), .second, .val (.long cl), .second, .val (.long bl), .second, .val (.long al), .second, .val (.int (al.toInt32)), .val (.int (bl.toInt32)), .val (.int (cl.toInt32)), .val (.int ((bl * cl).toInt32)), .val (.ref b1), .val (.ref b2), .val (.ref b5), .unset, .unset, .unset, .unset, .unset, .unset, .unset, .unset, .unset, .unset] [(.ref b12)]))
  refine Go.st (fun _ kt => XS.dup X12.here hx rfl (hb hby at_102) rfl rfl kt) ?_
  show Go p e below _ (T12.setTop (mkF m 103 #[.val (.int i), .val (.int j), .val (.int k), .val (.long (2147483639 : Int64)), .second, .val (.long cl), .second, .val (.long bl), .second, .val (.long al), .second, .val (.int (al.toInt32)), .val (.int (bl.toInt32)), .val (.int (cl.toInt32)), .val (.int ((bl * cl).toInt32)), .val (.ref b1), .val (.ref b2), .val (.ref b5), .unset, .unset, .unset, .unset, .unset, .unset, .unset, .unset, .unset, .unset] [(.ref b12), (.ref b12)]))
  refine Go.st (fun _ kt => XS.iconst X12.here hx rfl (hb hby at_103) kt) ?_
  show Go p e below _ (T12.setTop (mkF m 104 #[.val (.int i), .val (.int j), .val (.int k), .val (.long (2147483639 : Int64)), .second, .val (.long cl), .second, .val (.long bl), .second, .val (.long al), .second, .val (.int (al.toInt32)), .val (.int (bl.toInt32)), .val (.int (cl.toInt32)), .val (.int ((bl * cl).toInt32)), .val (.ref b1), .val (.ref b2), .val (.ref b5), .unset, .unset, .unset, .unset, .unset, .unset, .unset, .unset, .unset, .unset] [(.int (0 : Int32)), (.ref b12), (.ref b12)]))
  refine Go.st (fun _ kt => XS.iload X12.here hx rfl (hb hby at_104) rfl kt) ?_
  show Go p e below _ (T12.setTop (mkF m 106 #[.val (.int i), .val (.int j), .val (.int k), .val (.long (2147483639 : Int64)), .second, .val (.long cl), .second, .val (.long bl), .second, .val (.long al), .second, .val (.int (al.toInt32)), .val (.int (bl.toInt32)), .val (.int (cl.toInt32)), .val (.int ((bl * cl).toInt32)), .val (.ref b1), .val (.ref b2), .val (.ref b5), .unset, .unset, .unset, .unset, .unset, .unset, .unset, .unset, .unset, .unset] [(.int (al.toInt32)), (.int (0 : Int32)), (.ref b12), (.ref b12)]))
  obtain ⟨cl16, Ar16, q16, S16, N16', H16, G16⟩ := id V12
  have hin16 : ¬ ((0 : Int32) < 0 ∨ cl16.slots.size ≤ ((0 : Int32)).toNatClampNeg) := inb_of S16 ⟨by decide, by decide⟩
  obtain ⟨T17, h17, X17, e17, W17, st17⟩ := stI X12 hx hZ e12 Ar16 (j := (0 : Int32)) hin16 (g := (mkF m 106 #[.val (.int i), .val (.int j), .val (.int k), .val (.long (2147483639 : Int64)), .second, .val (.long cl), .second, .val (.long bl), .second, .val (.long al), .second, .val (.int (al.toInt32)), .val (.int (bl.toInt32)), .val (.int (cl.toInt32)), .val (.int ((bl * cl).toInt32)), .val (.ref b1), .val (.ref b2), .val (.ref b5), .unset, .unset, .unset, .unset, .unset, .unset, .unset, .unset, .unset, .unset] [(.int (al.toInt32)), (.int (0 : Int32)), (.ref b12), (.ref b12)])) rfl rfl (hb hby at_106)
  refine Go.st st17 ?_
  have V17 : Arv Z h17 b12 k12 .int (3 : Int32) [(.int (al.toInt32)), (.int (0 : Int32)), (.int (0 : Int32))] (.int (0 : Int32)) := Arv.set Ar16 q16 S16 N16' H16 G16 rfl W17 0 rfl (Nat.le_of_ble_eq_true rfl)
  have Zs17 : n0 ≤ h17.size := Nat.le_trans Zs12 (Nat.le_of_eq W17.size.symm)
  have N17 := Fr.snoc X17 N11 gn_b12
  show Go p e below _ (T17.setTop (mkF m 107 #[.val (.int i), .val (.int j), .val (.int k), .val (.long (2147483639 : Int64)), .second, .val (.long cl), .second, .val (.long bl), .second, .val (.long al), .second, .val (.int (al.toInt32)), .val (.int (bl.toInt32)), .val (.int (cl.toInt32)), .val (.int ((bl * cl).toInt32)), .val (.ref b1), .val (.ref b2), .val (.ref b5), .unset, .unset, .unset, .unset, .unset, .unset, .unset, .unset, .unset, .unset] [(.ref b12)]))
  refine Go.st (fun _ kt => XS.dup X17.here hx rfl (hb hby at_107) rfl rfl kt) ?_
  show Go p e below _ (T17.setTop (mkF m 108 #[.val (.int i), .val (.int j), .val (.int k), .val (.long (2147483639 : Int64)), .second, .val (.long cl), .second, .val (.long bl), .second, .val (.long al), .second, .val (.int (al.toInt32)), .val (.int (bl.toInt32)), .val (.int (cl.toInt32)), .val (.int ((bl * cl).toInt32)), .val (.ref b1), .val (.ref b2), .val (.ref b5), .unset, .unset, .unset, .unset, .unset, .unset, .unset, .unset, .unset, .unset] [(.ref b12), (.ref b12)]))
  refine Go.st (fun _ kt => XS.iconst X17.here hx rfl (hb hby at_108) kt) ?_
  show Go p e below _ (T17.setTop (mkF m 109 #[.val (.int i), .val (.int j), .val (.int k), .val (.long (2147483639 : Int64)), .second, .val (.long cl), .second, .val (.long bl), .second, .val (.long al), .second, .val (.int (al.toInt32)), .val (.int (bl.toInt32)), .val (.int (cl.toInt32)), .val (.int ((bl * cl).toInt32)), .val (.ref b1), .val (.ref b2), .val (.ref b5), .unset, .unset, .unset, .unset, .unset, .unset, .unset, .unset, .unset, .unset] [(.int (1 : Int32)), (.ref b12), (.ref b12)]))
  refine Go.st (fun _ kt => XS.iload X17.here hx rfl (hb hby at_109) rfl kt) ?_
  show Go p e below _ (T17.setTop (mkF m 111 #[.val (.int i), .val (.int j), .val (.int k), .val (.long (2147483639 : Int64)), .second, .val (.long cl), .second, .val (.long bl), .second, .val (.long al), .second, .val (.int (al.toInt32)), .val (.int (bl.toInt32)), .val (.int (cl.toInt32)), .val (.int ((bl * cl).toInt32)), .val (.ref b1), .val (.ref b2), .val (.ref b5), .unset, .unset, .unset, .unset, .unset, .unset, .unset, .unset, .unset, .unset] [(.int (bl.toInt32)), (.int (1 : Int32)), (.ref b12), (.ref b12)]))
  obtain ⟨cl18, Ar18, q18, S18, N18', H18, G18⟩ := id V17
  have hin18 : ¬ ((1 : Int32) < 0 ∨ cl18.slots.size ≤ ((1 : Int32)).toNatClampNeg) := inb_of S18 ⟨by decide, by decide⟩
  obtain ⟨T19, h19, X19, e19, W19, st19⟩ := stI X17 hx hZ e17 Ar18 (j := (1 : Int32)) hin18 (g := (mkF m 111 #[.val (.int i), .val (.int j), .val (.int k), .val (.long (2147483639 : Int64)), .second, .val (.long cl), .second, .val (.long bl), .second, .val (.long al), .second, .val (.int (al.toInt32)), .val (.int (bl.toInt32)), .val (.int (cl.toInt32)), .val (.int ((bl * cl).toInt32)), .val (.ref b1), .val (.ref b2), .val (.ref b5), .unset, .unset, .unset, .unset, .unset, .unset, .unset, .unset, .unset, .unset] [(.int (bl.toInt32)), (.int (1 : Int32)), (.ref b12), (.ref b12)])) rfl rfl (hb hby at_111)
  refine Go.st st19 ?_
  have V19 : Arv Z h19 b12 k12 .int (3 : Int32) [(.int (al.toInt32)), (.int (bl.toInt32)), (.int (0 : Int32))] (.int (0 : Int32)) := Arv.set Ar18 q18 S18 N18' H18 G18 rfl W19 1 rfl (Nat.le_of_ble_eq_true rfl)
  have Zs19 : n0 ≤ h19.size := Nat.le_trans Zs17 (Nat.le_of_eq W19.size.symm)
  have N19 := Fr.snoc X19 N17 gn_b12
  show Go p e below _ (T19.setTop (mkF m 112 #[.val (.int i), .val (.int j), .val (.int k), .val (.long (2147483639 : Int64)), .second, .val (.long cl), .second, .val (.long bl), .second, .val (.long al), .second, .val (.int (al.toInt32)), .val (.int (bl.toInt32)), .val (.int (cl.toInt32)), .val (.int ((bl * cl).toInt32)), .val (.ref b1), .val (.ref b2), .val (.ref b5), .unset, .unset, .unset, .unset, .unset, .unset, .unset, .unset, .unset, .unset] [(.ref b12)]))
  refine Go.st (fun _ kt => XS.dup X19.here hx rfl (hb hby at_112) rfl rfl kt) ?_
  show Go p e below _ (T19.setTop (mkF m 113 #[.val (.int i), .val (.int j), .val (.int k), .val (.long (2147483639 : Int64)), .second, .val (.long cl), .second, .val (.long bl), .second, .val (.long al), .second, .val (.int (al.toInt32)), .val (.int (bl.toInt32)), .val (.int (cl.toInt32)), .val (.int ((bl * cl).toInt32)), .val (.ref b1), .val (.ref b2), .val (.ref b5), .unset, .unset, .unset, .unset, .unset, .unset, .unset, .unset, .unset, .unset] [(.ref b12), (.ref b12)]))
  refine Go.st (fun _ kt => XS.iconst X19.here hx rfl (hb hby at_113) kt) ?_
  show Go p e below _ (T19.setTop (mkF m 114 #[.val (.int i), .val (.int j), .val (.int k), .val (.long (2147483639 : Int64)), .second, .val (.long cl), .second, .val (.long bl), .second, .val (.long al), .second, .val (.int (al.toInt32)), .val (.int (bl.toInt32)), .val (.int (cl.toInt32)), .val (.int ((bl * cl).toInt32)), .val (.ref b1), .val (.ref b2), .val (.ref b5), .unset, .unset, .unset, .unset, .unset, .unset, .unset, .unset, .unset, .unset] [(.int (2 : Int32)), (.ref b12), (.ref b12)]))
  refine Go.st (fun _ kt => XS.iload X19.here hx rfl (hb hby at_114) rfl kt) ?_
  show Go p e below _ (T19.setTop (mkF m 116 #[.val (.int i), .val (.int j), .val (.int k), .val (.long (2147483639 : Int64)), .second, .val (.long cl), .second, .val (.long bl), .second, .val (.long al), .second, .val (.int (al.toInt32)), .val (.int (bl.toInt32)), .val (.int (cl.toInt32)), .val (.int ((bl * cl).toInt32)), .val (.ref b1), .val (.ref b2), .val (.ref b5), .unset, .unset, .unset, .unset, .unset, .unset, .unset, .unset, .unset, .unset] [(.int (cl.toInt32)), (.int (2 : Int32)), (.ref b12), (.ref b12)]))
  obtain ⟨cl20, Ar20, q20, S20, N20', H20, G20⟩ := id V19
  have hin20 : ¬ ((2 : Int32) < 0 ∨ cl20.slots.size ≤ ((2 : Int32)).toNatClampNeg) := inb_of S20 ⟨by decide, by decide⟩
  obtain ⟨T21, h21, X21, e21, W21, st21⟩ := stI X19 hx hZ e19 Ar20 (j := (2 : Int32)) hin20 (g := (mkF m 116 #[.val (.int i), .val (.int j), .val (.int k), .val (.long (2147483639 : Int64)), .second, .val (.long cl), .second, .val (.long bl), .second, .val (.long al), .second, .val (.int (al.toInt32)), .val (.int (bl.toInt32)), .val (.int (cl.toInt32)), .val (.int ((bl * cl).toInt32)), .val (.ref b1), .val (.ref b2), .val (.ref b5), .unset, .unset, .unset, .unset, .unset, .unset, .unset, .unset, .unset, .unset] [(.int (cl.toInt32)), (.int (2 : Int32)), (.ref b12), (.ref b12)])) rfl rfl (hb hby at_116)
  refine Go.st st21 ?_
  have V21 : Arv Z h21 b12 k12 .int (3 : Int32) [(.int (al.toInt32)), (.int (bl.toInt32)), (.int (cl.toInt32))] (.int (0 : Int32)) := Arv.set Ar20 q20 S20 N20' H20 G20 rfl W21 2 rfl (Nat.le_of_ble_eq_true rfl)
  have Zs21 : n0 ≤ h21.size := Nat.le_trans Zs19 (Nat.le_of_eq W21.size.symm)
  have N21 := Fr.snoc X21 N19 gn_b12
  show Go p e below _ (T21.setTop (mkF m 117 #[.val (.int i), .val (.int j), .val (.int k), .val (.long (2147483639 : Int64)), .second, .val (.long cl), .second, .val (.long bl), .second, .val (.long al), .second, .val (.int (al.toInt32)), .val (.int (bl.toInt32)), .val (.int (cl.toInt32)), .val (.int ((bl * cl).toInt32)), .val (.ref b1), .val (.ref b2), .val (.ref b5), .unset, .unset, .unset, .unset, .unset, .unset, .unset, .unset, .unset, .unset] [(.ref b12)]))
  refine Go.st (fun _ kt => XS.astore X21.here hx rfl (hb hby at_117) rfl rfl (l' := #[.val (.int i), .val (.int j), .val (.int k), .val (.long (2147483639 : Int64)), .second, .val (.long cl), .second, .val (.long bl), .second, .val (.long al), .second, .val (.int (al.toInt32)), .val (.int (bl.toInt32)), .val (.int (cl.toInt32)), .val (.int ((bl * cl).toInt32)), .val (.ref b1), .val (.ref b2), .val (.ref b5), .val (.ref b12), .unset, .unset, .unset, .unset, .unset, .unset, .unset, .unset, .unset]) rfl kt) ?_
  show Go p e below _ (T21.setTop (mkF m 119 #[.val (.int i), .val (.int j), .val (.int k), .val (.long (2147483639 : Int64)), .second, .val (.long cl), .second, .val (.long bl), .second, .val (.long al), .second, .val (.int (al.toInt32)), .val (.int (bl.toInt32)), .val (.int (cl.toInt32)), .val (.int ((bl * cl).toInt32)), .val (.ref b1), .val (.ref b2), .val (.ref b5), .val (.ref b12), .unset, .unset, .unset, .unset, .unset, .unset, .unset, .unset, .unset] []))
  refine Go.st (fun _ kt => XS.aload X21.here hx rfl (hb hby at_119) rfl rfl kt) ?_
  show Go p e below _ (T21.setTop (mkF m 121 #[.val (.int i), .val (.int j), .val (.int k), .val (.long (2147483639 : Int64)), .second, .val (.long cl), .second, .val (.long bl), .second, .val (.long al), .second, .val (.int (al.toInt32)), .val (.int (bl.toInt32)), .val (.int (cl.toInt32)), .val (.int ((bl * cl).toInt32)), .val (.ref b1), .val (.ref b2), .val (.ref b5), .val (.ref b12), .unset, .unset, .unset, .unset, .unset, .unset, .unset, .unset, .unset] [(.ref b1)]))
  have f22 := (((((((((V1.ext E2).other W4 (Nat.ne_of_lt lt_b1_b2)).ext E5).other W9 (Nat.ne_of_lt lt_b1_b5)).other W11 (Nat.ne_of_lt lt_b1_b5)).ext E12).other W17 (Nat.ne_of_lt lt_b1_b12)).other W19 (Nat.ne_of_lt lt_b1_b12)).other W21 (Nat.ne_of_lt lt_b1_b12))
  obtain ⟨_, _, ⟨T23, L23, k23, n23⟩, -, X23, ⟨Lc23, hQ23, l23, y23, z23⟩, st23⟩ := Jvm.LawKit.callS X21 hx (y := (⟨"com/example/tributary/tributary/model/CostTable", "strides", "([I)[I"⟩ : MethodName)) hown (mvT hZ (hw _ (List.mem_of_getElem? (i := 3) rfl))) (mvT hZ (hw _ (List.mem_of_getElem? (i := 4) rfl))) (mvT hZ (hw _ (List.mem_of_getElem? (i := 5) rfl))) (mvT hZ (hw _ (List.mem_of_getElem? (i := 6) rfl))) (by decide) (backOf (W := 0) (rm1_0 l Z a0 hw [] b1 k1  h21 n0 Zs21 f22) hZ (hw _ (List.mem_of_getElem? (i := 6) rfl)) (hw _ (List.mem_of_getElem? (i := 5) rfl)) (by decide) (by decide)) (g := (mkF m 121 #[.val (.int i), .val (.int j), .val (.int k), .val (.long (2147483639 : Int64)), .second, .val (.long cl), .second, .val (.long bl), .second, .val (.long al), .second, .val (.int (al.toInt32)), .val (.int (bl.toInt32)), .val (.int (cl.toInt32)), .val (.int ((bl * cl).toInt32)), .val (.ref b1), .val (.ref b2), .val (.ref b5), .val (.ref b12), .unset, .unset, .unset, .unset, .unset, .unset, .unset, .unset, .unset] [(.ref b1)])) rfl (by rw [hml]; rfl) (argsL := [(.ref b1)]) (rest := []) (lenOf own_pd1 rfl) rfl (by show 2 * 0 + _ ≤ _; exact Nat.le_of_eq rfl) (hb hby at_121) (fun _ _ => ⟨rfl, e21, (by decide : 4 + 1 ≤ _), (by decide : 6 + 0 ≤ _)⟩)
  dsimp only [Pt.U, Pt.locs, Pt.cells, Pt.slots] at X23 l23 y23 z23 st23 hQ23
  subst l23 y23 z23
  obtain ⟨r23, kk23, rfl, N23q, K23q, hs23, G23_0⟩ := hQ23
  have f24 := ((((f13.ext E12).wr W17).wr W19).wr W21)
  have lt_b1_r23 : b1 < r23 := Nat.lt_of_lt_of_le f24.lt hs23
  have f25 := ((((f14.ext E12).wr W17).wr W19).wr W21)
  have lt_b2_r23 : b2 < r23 := Nat.lt_of_lt_of_le f25.lt hs23
  have f26 := ((((f15.ext E12).wr W17).wr W19).wr W21)
  have lt_b5_r23 : b5 < r23 := Nat.lt_of_lt_of_le f26.lt hs23
  have f27 := (((Y12.wr W17).wr W19).wr W21)
  have lt_b12_r23 : b12 < r23 := Nat.lt_of_lt_of_le f27.lt hs23
  have gn_r23 : n0 ≤ r23 := Nat.le_trans Zs21 hs23
  have Zs23 : n0 ≤ T23.heap.size := Nat.le_trans Zs21 K23q.1
  have N23 := Fr.app N21 N23q
  refine Go.st st23 ?_
  show Go p e below _ (T23.setTop (mkF m 124 #[.val (.int i), .val (.int j), .val (.int k), .val (.long (2147483639 : Int64)), .second, .val (.long cl), .second, .val (.long bl), .second, .val (.long al), .second, .val (.int (al.toInt32)), .val (.int (bl.toInt32)), .val (.int (cl.toInt32)), .val (.int ((bl * cl).toInt32)), .val (.ref b1), .val (.ref b2), .val (.ref b5), .val (.ref b12), .unset, .unset, .unset, .unset, .unset, .unset, .unset, .unset, .unset] [(.ref r23)]))
  refine Go.st (fun _ kt => XS.astore X23.here hx rfl (hb hby at_124) rfl rfl (l' := #[.val (.int i), .val (.int j), .val (.int k), .val (.long (2147483639 : Int64)), .second, .val (.long cl), .second, .val (.long bl), .second, .val (.long al), .second, .val (.int (al.toInt32)), .val (.int (bl.toInt32)), .val (.int (cl.toInt32)), .val (.int ((bl * cl).toInt32)), .val (.ref b1), .val (.ref b2), .val (.ref b5), .val (.ref b12), .val (.ref r23), .unset, .unset, .unset, .unset, .unset, .unset, .unset, .unset]) rfl kt) ?_
  show Go p e below _ (T23.setTop (mkF m 126 #[.val (.int i), .val (.int j), .val (.int k), .val (.long (2147483639 : Int64)), .second, .val (.long cl), .second, .val (.long bl), .second, .val (.long al), .second, .val (.int (al.toInt32)), .val (.int (bl.toInt32)), .val (.int (cl.toInt32)), .val (.int ((bl * cl).toInt32)), .val (.ref b1), .val (.ref b2), .val (.ref b5), .val (.ref b12), .val (.ref r23), .unset, .unset, .unset, .unset, .unset, .unset, .unset, .unset] []))
  refine Go.st (fun _ kt => XS.aload X23.here hx rfl (hb hby at_126) rfl rfl kt) ?_
  show Go p e below _ (T23.setTop (mkF m 128 #[.val (.int i), .val (.int j), .val (.int k), .val (.long (2147483639 : Int64)), .second, .val (.long cl), .second, .val (.long bl), .second, .val (.long al), .second, .val (.int (al.toInt32)), .val (.int (bl.toInt32)), .val (.int (cl.toInt32)), .val (.int ((bl * cl).toInt32)), .val (.ref b1), .val (.ref b2), .val (.ref b5), .val (.ref b12), .val (.ref r23), .unset, .unset, .unset, .unset, .unset, .unset, .unset, .unset] [(.ref b2)]))
  have f28 := ((((((((V4.ext E5).other W9 (Nat.ne_of_lt lt_b2_b5)).other W11 (Nat.ne_of_lt lt_b2_b5)).ext E12).other W17 (Nat.ne_of_lt lt_b2_b12)).other W19 (Nat.ne_of_lt lt_b2_b12)).other W21 (Nat.ne_of_lt lt_b2_b12)).keep K23q nin0)
  obtain ⟨_, _, ⟨T29, L29, k29, n29⟩, -, X29, ⟨Lc29, hQ29, l29, y29, z29⟩, st29⟩ := Jvm.LawKit.callS X23 hx (y := (⟨"com/example/tributary/tributary/model/CostTable", "strides", "([I)[I"⟩ : MethodName)) hown (mvT hZ (hw _ (List.mem_of_getElem? (i := 3) rfl))) (mvT hZ (hw _ (List.mem_of_getElem? (i := 4) rfl))) (mvT hZ (hw _ (List.mem_of_getElem? (i := 5) rfl))) (mvT hZ (hw _ (List.mem_of_getElem? (i := 6) rfl))) (by decide) (backOf (W := 0) (rm1_1 l Z a0 hw [] b2 k2 (cl.toInt32) T23.heap n0 Zs23 f28) hZ (hw _ (List.mem_of_getElem? (i := 6) rfl)) (hw _ (List.mem_of_getElem? (i := 5) rfl)) (by decide) (by decide)) (g := (mkF m 128 #[.val (.int i), .val (.int j), .val (.int k), .val (.long (2147483639 : Int64)), .second, .val (.long cl), .second, .val (.long bl), .second, .val (.long al), .second, .val (.int (al.toInt32)), .val (.int (bl.toInt32)), .val (.int (cl.toInt32)), .val (.int ((bl * cl).toInt32)), .val (.ref b1), .val (.ref b2), .val (.ref b5), .val (.ref b12), .val (.ref r23), .unset, .unset, .unset, .unset, .unset, .unset, .unset, .unset] [(.ref b2)])) rfl (by rw [hml]; rfl) (argsL := [(.ref b2)]) (rest := []) (lenOf own_pd1 rfl) rfl (by show 2 * 0 + _ ≤ _; exact Nat.le_of_eq rfl) (hb hby at_128) (fun _ _ => ⟨rfl, rfl, (by decide : 5 + 1 ≤ _), (by decide : 6 + 1 ≤ _)⟩)
  dsimp only [Pt.U, Pt.locs, Pt.cells, Pt.slots] at X29 l29 y29 z29 st29 hQ29
  subst l29 y29 z29
  obtain ⟨r29, kk29, rfl, N29q, K29q, hs29, G29_0⟩ := hQ29
  have f30 := (f24.keep K23q)
  have lt_b1_r29 : b1 < r29 := Nat.lt_of_lt_of_le f30.lt hs29
  have f31 := (f25.keep K23q)
  have lt_b2_r29 : b2 < r29 := Nat.lt_of_lt_of_le f31.lt hs29
  have f32 := (f26.keep K23q)
  have lt_b5_r29 : b5 < r29 := Nat.lt_of_lt_of_le f32.lt hs29
  have f33 := (f27.keep K23q)
  have lt_b12_r29 : b12 < r29 := Nat.lt_of_lt_of_le f33.lt hs29
  have lt_r23_r29 : r23 < r29 := Nat.lt_of_lt_of_le G23_0.lt hs29
  have gn_r29 : n0 ≤ r29 := Nat.le_trans Zs23 hs29
  have Zs29 : n0 ≤ T29.heap.size := Nat.le_trans Zs23 K29q.1
  have N29 := Fr.app N23 N29q
  refine Go.st st29 ?_
  show Go p e below _ (T29.setTop (mkF m 131 #[.val (.int i), .val (.int j), .val (.int k), .val (.long (2147483639 : Int64)), .second, .val (.long cl), .second, .val (.long bl), .second, .val (.long al), .second, .val (.int (al.toInt32)), .val (.int (bl.toInt32)), .val (.int (cl.toInt32)), .val (.int ((bl * cl).toInt32)), .val (.ref b1), .val (.ref b2), .val (.ref b5), .val (.ref b12), .val (.ref r23), .unset, .unset, .unset, .unset, .unset, .unset, .unset, .unset] [(.ref r29)]))
  refine Go.st (fun _ kt => XS.astore X29.here hx rfl (hb hby at_131) rfl rfl (l' := #[.val (.int i), .val (.int j), .val (.int k), .val (.long (2147483639 : Int64)), .second, .val (.long cl), .second, .val (.long bl), .second, .val (.long al), .second, .val (.int (al.toInt32)), .val (.int (bl.toInt32)), .val (.int (cl.toInt32)), .val (.int ((bl * cl).toInt32)), .val (.ref b1), .val (.ref b2), .val (.ref b5), .val (.ref b12), .val (.ref r23), .val (.ref r29), .unset, .unset, .unset, .unset, .unset, .unset, .unset]) rfl kt) ?_
  show Go p e below _ (T29.setTop (mkF m 133 #[.val (.int i), .val (.int j), .val (.int k), .val (.long (2147483639 : Int64)), .second, .val (.long cl), .second, .val (.long bl), .second, .val (.long al), .second, .val (.int (al.toInt32)), .val (.int (bl.toInt32)), .val (.int (cl.toInt32)), .val (.int ((bl * cl).toInt32)), .val (.ref b1), .val (.ref b2), .val (.ref b5), .val (.ref b12), .val (.ref r23), .val (.ref r29), .unset, .unset, .unset, .unset, .unset, .unset, .unset] []))
  refine Go.st (fun _ kt => XS.aload X29.here hx rfl (hb hby at_133) rfl rfl kt) ?_
  show Go p e below _ (T29.setTop (mkF m 135 #[.val (.int i), .val (.int j), .val (.int k), .val (.long (2147483639 : Int64)), .second, .val (.long cl), .second, .val (.long bl), .second, .val (.long al), .second, .val (.int (al.toInt32)), .val (.int (bl.toInt32)), .val (.int (cl.toInt32)), .val (.int ((bl * cl).toInt32)), .val (.ref b1), .val (.ref b2), .val (.ref b5), .val (.ref b12), .val (.ref r23), .val (.ref r29), .unset, .unset, .unset, .unset, .unset, .unset, .unset] [(.ref b5)]))
  have f34 := ((((((V11.ext E12).other W17 (Nat.ne_of_lt lt_b5_b12)).other W19 (Nat.ne_of_lt lt_b5_b12)).other W21 (Nat.ne_of_lt lt_b5_b12)).keep K23q nin0).keep K29q nin0)
  obtain ⟨_, _, ⟨T35, L35, k35, n35⟩, -, X35, ⟨Lc35, hQ35, l35, y35, z35⟩, st35⟩ := Jvm.LawKit.callS X29 hx (y := (⟨"com/example/tributary/tributary/model/CostTable", "strides", "([I)[I"⟩ : MethodName)) hown (mvT hZ (hw _ (List.mem_of_getElem? (i := 3) rfl))) (mvT hZ (hw _ (List.mem_of_getElem? (i := 4) rfl))) (mvT hZ (hw _ (List.mem_of_getElem? (i := 5) rfl))) (mvT hZ (hw _ (List.mem_of_getElem? (i := 6) rfl))) (by decide) (backOf (W := 0) (rm1_2 l Z a0 hw [] b5 k5 (bl.toInt32) (cl.toInt32) T29.heap n0 Zs29 f34) hZ (hw _ (List.mem_of_getElem? (i := 6) rfl)) (hw _ (List.mem_of_getElem? (i := 5) rfl)) (by decide) (by decide)) (g := (mkF m 135 #[.val (.int i), .val (.int j), .val (.int k), .val (.long (2147483639 : Int64)), .second, .val (.long cl), .second, .val (.long bl), .second, .val (.long al), .second, .val (.int (al.toInt32)), .val (.int (bl.toInt32)), .val (.int (cl.toInt32)), .val (.int ((bl * cl).toInt32)), .val (.ref b1), .val (.ref b2), .val (.ref b5), .val (.ref b12), .val (.ref r23), .val (.ref r29), .unset, .unset, .unset, .unset, .unset, .unset, .unset] [(.ref b5)])) rfl (by rw [hml]; rfl) (argsL := [(.ref b5)]) (rest := []) (lenOf own_pd1 rfl) rfl (by show 2 * 0 + _ ≤ _; exact Nat.le_of_eq rfl) (hb hby at_135) (fun _ _ => ⟨rfl, rfl, (by decide : 6 + 1 ≤ _), (by decide : 7 + 2 ≤ _)⟩)
  dsimp only [Pt.U, Pt.locs, Pt.cells, Pt.slots] at X35 l35 y35 z35 st35 hQ35
  subst l35 y35 z35
  obtain ⟨r35, kk35, rfl, N35q, K35q, hs35, G35_0⟩ := hQ35
  have f36 := (f30.keep K29q)
  have lt_b1_r35 : b1 < r35 := Nat.lt_of_lt_of_le f36.lt hs35
  have f37 := (f31.keep K29q)
  have lt_b2_r35 : b2 < r35 := Nat.lt_of_lt_of_le f37.lt hs35
  have f38 := (f32.keep K29q)
  have lt_b5_r35 : b5 < r35 := Nat.lt_of_lt_of_le f38.lt hs35
  have f39 := (f33.keep K29q)
  have lt_b12_r35 : b12 < r35 := Nat.lt_of_lt_of_le f39.lt hs35
  have f40 := (G23_0.keep K29q nin0)
  have lt_r23_r35 : r23 < r35 := Nat.lt_of_lt_of_le f40.lt hs35
  have lt_r29_r35 : r29 < r35 := Nat.lt_of_lt_of_le G29_0.lt hs35
  have gn_r35 : n0 ≤ r35 := Nat.le_trans Zs29 hs35
  have Zs35 : n0 ≤ T35.heap.size := Nat.le_trans Zs29 K35q.1
  have N35 := Fr.app N29 N35q
  refine Go.st st35 ?_
  show Go p e below _ (T35.setTop (mkF m 138 #[.val (.int i), .val (.int j), .val (.int k), .val (.long (2147483639 : Int64)), .second, .val (.long cl), .second, .val (.long bl), .second, .val (.long al), .second, .val (.int (al.toInt32)), .val (.int (bl.toInt32)), .val (.int (cl.toInt32)), .val (.int ((bl * cl).toInt32)), .val (.ref b1), .val (.ref b2), .val (.ref b5), .val (.ref b12), .val (.ref r23), .val (.ref r29), .unset, .unset, .unset, .unset, .unset, .unset, .unset] [(.ref r35)]))
  refine Go.st (fun _ kt => XS.astore X35.here hx rfl (hb hby at_138) rfl rfl (l' := #[.val (.int i), .val (.int j), .val (.int k), .val (.long (2147483639 : Int64)), .second, .val (.long cl), .second, .val (.long bl), .second, .val (.long al), .second, .val (.int (al.toInt32)), .val (.int (bl.toInt32)), .val (.int (cl.toInt32)), .val (.int ((bl * cl).toInt32)), .val (.ref b1), .val (.ref b2), .val (.ref b5), .val (.ref b12), .val (.ref r23), .val (.ref r29), .val (.ref r35), .unset, .unset, .unset, .unset, .unset, .unset]) rfl kt) ?_
  show Go p e below _ (T35.setTop (mkF m 140 #[.val (.int i), .val (.int j), .val (.int k), .val (.long (2147483639 : Int64)), .second, .val (.long cl), .second, .val (.long bl), .second, .val (.long al), .second, .val (.int (al.toInt32)), .val (.int (bl.toInt32)), .val (.int (cl.toInt32)), .val (.int ((bl * cl).toInt32)), .val (.ref b1), .val (.ref b2), .val (.ref b5), .val (.ref b12), .val (.ref r23), .val (.ref r29), .val (.ref r35), .unset, .unset, .unset, .unset, .unset, .unset] []))
  refine Go.st (fun _ kt => XS.aload X35.here hx rfl (hb hby at_140) rfl rfl kt) ?_
  show Go p e below _ (T35.setTop (mkF m 142 #[.val (.int i), .val (.int j), .val (.int k), .val (.long (2147483639 : Int64)), .second, .val (.long cl), .second, .val (.long bl), .second, .val (.long al), .second, .val (.int (al.toInt32)), .val (.int (bl.toInt32)), .val (.int (cl.toInt32)), .val (.int ((bl * cl).toInt32)), .val (.ref b1), .val (.ref b2), .val (.ref b5), .val (.ref b12), .val (.ref r23), .val (.ref r29), .val (.ref r35), .unset, .unset, .unset, .unset, .unset, .unset] [(.ref b12)]))
  have f41 := (((V21.keep K23q nin0).keep K29q nin0).keep K35q nin0)
  obtain ⟨_, _, ⟨T42, L42, k42, n42⟩, -, X42, ⟨Lc42, hQ42, l42, y42, z42⟩, st42⟩ := Jvm.LawKit.callS X35 hx (y := (⟨"com/example/tributary/tributary/model/CostTable", "strides", "([I)[I"⟩ : MethodName)) hown (mvT hZ (hw _ (List.mem_of_getElem? (i := 3) rfl))) (mvT hZ (hw _ (List.mem_of_getElem? (i := 4) rfl))) (mvT hZ (hw _ (List.mem_of_getElem? (i := 5) rfl))) (mvT hZ (hw _ (List.mem_of_getElem? (i := 6) rfl))) (by decide) (backOf (W := 0) (rm1_3 l Z a0 hw [] b12 k12 (al.toInt32) (bl.toInt32) (cl.toInt32) T35.heap n0 Zs35 f41) hZ (hw _ (List.mem_of_getElem? (i := 6) rfl)) (hw _ (List.mem_of_getElem? (i := 5) rfl)) (by decide) (by decide)) (g := (mkF m 142 #[.val (.int i), .val (.int j), .val (.int k), .val (.long (2147483639 : Int64)), .second, .val (.long cl), .second, .val (.long bl), .second, .val (.long al), .second, .val (.int (al.toInt32)), .val (.int (bl.toInt32)), .val (.int (cl.toInt32)), .val (.int ((bl * cl).toInt32)), .val (.ref b1), .val (.ref b2), .val (.ref b5), .val (.ref b12), .val (.ref r23), .val (.ref r29), .val (.ref r35), .unset, .unset, .unset, .unset, .unset, .unset] [(.ref b12)])) rfl (by rw [hml]; rfl) (argsL := [(.ref b12)]) (rest := []) (lenOf own_pd1 rfl) rfl (by show 2 * 0 + _ ≤ _; exact Nat.le_of_eq rfl) (hb hby at_142) (fun _ _ => ⟨rfl, rfl, (by decide : 7 + 1 ≤ _), (by decide : 9 + 3 ≤ _)⟩)
  dsimp only [Pt.U, Pt.locs, Pt.cells, Pt.slots] at X42 l42 y42 z42 st42 hQ42
  subst l42 y42 z42
  obtain ⟨r42, kk42, rfl, N42q, K42q, hs42, G42_0⟩ := hQ42
  have f43 := (f36.keep K35q)
  have lt_b1_r42 : b1 < r42 := Nat.lt_of_lt_of_le f43.lt hs42
  have f44 := (f37.keep K35q)
  have lt_b2_r42 : b2 < r42 := Nat.lt_of_lt_of_le f44.lt hs42
  have f45 := (f38.keep K35q)
  have lt_b5_r42 : b5 < r42 := Nat.lt_of_lt_of_le f45.lt hs42
  have f46 := (f39.keep K35q)
  have lt_b12_r42 : b12 < r42 := Nat.lt_of_lt_of_le f46.lt hs42
  have f47 := (f40.keep K35q nin0)
  have lt_r23_r42 : r23 < r42 := Nat.lt_of_lt_of_le f47.lt hs42
  have f48 := (G29_0.keep K35q nin0)
  have lt_r29_r42 : r29 < r42 := Nat.lt_of_lt_of_le f48.lt hs42
  have lt_r35_r42 : r35 < r42 := Nat.lt_of_lt_of_le G35_0.lt hs42
  have gn_r42 : n0 ≤ r42 := Nat.le_trans Zs35 hs42
  have Zs42 : n0 ≤ T42.heap.size := Nat.le_trans Zs35 K42q.1
  have N42 := Fr.app N35 N42q
  refine Go.st st42 ?_
  show Go p e below _ (T42.setTop (mkF m 145 #[.val (.int i), .val (.int j), .val (.int k), .val (.long (2147483639 : Int64)), .second, .val (.long cl), .second, .val (.long bl), .second, .val (.long al), .second, .val (.int (al.toInt32)), .val (.int (bl.toInt32)), .val (.int (cl.toInt32)), .val (.int ((bl * cl).toInt32)), .val (.ref b1), .val (.ref b2), .val (.ref b5), .val (.ref b12), .val (.ref r23), .val (.ref r29), .val (.ref r35), .unset, .unset, .unset, .unset, .unset, .unset] [(.ref r42)]))
  refine Go.st (fun _ kt => XS.astore X42.here hx rfl (hb hby at_145) rfl rfl (l' := #[.val (.int i), .val (.int j), .val (.int k), .val (.long (2147483639 : Int64)), .second, .val (.long cl), .second, .val (.long bl), .second, .val (.long al), .second, .val (.int (al.toInt32)), .val (.int (bl.toInt32)), .val (.int (cl.toInt32)), .val (.int ((bl * cl).toInt32)), .val (.ref b1), .val (.ref b2), .val (.ref b5), .val (.ref b12), .val (.ref r23), .val (.ref r29), .val (.ref r35), .val (.ref r42), .unset, .unset, .unset, .unset, .unset]) rfl kt) ?_
  show Go p e below _ (T42.setTop (mkF m 147 #[.val (.int i), .val (.int j), .val (.int k), .val (.long (2147483639 : Int64)), .second, .val (.long cl), .second, .val (.long bl), .second, .val (.long al), .second, .val (.int (al.toInt32)), .val (.int (bl.toInt32)), .val (.int (cl.toInt32)), .val (.int ((bl * cl).toInt32)), .val (.ref b1), .val (.ref b2), .val (.ref b5), .val (.ref b12), .val (.ref r23), .val (.ref r29), .val (.ref r35), .val (.ref r42), .unset, .unset, .unset, .unset, .unset] []))
  refine Go.st (fun _ kt => XS.aload X42.here hx rfl (hb hby at_147) rfl rfl kt) ?_
  show Go p e below _ (T42.setTop (mkF m 149 #[.val (.int i), .val (.int j), .val (.int k), .val (.long (2147483639 : Int64)), .second, .val (.long cl), .second, .val (.long bl), .second, .val (.long al), .second, .val (.int (al.toInt32)), .val (.int (bl.toInt32)), .val (.int (cl.toInt32)), .val (.int ((bl * cl).toInt32)), .val (.ref b1), .val (.ref b2), .val (.ref b5), .val (.ref b12), .val (.ref r23), .val (.ref r29), .val (.ref r35), .val (.ref r42), .unset, .unset, .unset, .unset, .unset] [(.ref r23)]))
  have f50 := (f47.keep K42q nin0)
  obtain ⟨cl49, Ar49, -, S49, N49', -, -⟩ := id f50
  refine Go.st (fun _ kt => X42.arraylength hx Ar49.1 (State.isArrayOf_alike hZ.alike Ar49.2.1) (g := (mkF m 149 #[.val (.int i), .val (.int j), .val (.int k), .val (.long (2147483639 : Int64)), .second, .val (.long cl), .second, .val (.long bl), .second, .val (.long al), .second, .val (.int (al.toInt32)), .val (.int (bl.toInt32)), .val (.int (cl.toInt32)), .val (.int ((bl * cl).toInt32)), .val (.ref b1), .val (.ref b2), .val (.ref b5), .val (.ref b12), .val (.ref r23), .val (.ref r29), .val (.ref r35), .val (.ref r42), .unset, .unset, .unset, .unset, .unset] [(.ref r23)])) rfl rfl (hb hby at_149) _ kt) ?_
  rw [len_of S49 N49']
  show Go p e below _ (T42.setTop (mkF m 150 #[.val (.int i), .val (.int j), .val (.int k), .val (.long (2147483639 : Int64)), .second, .val (.long cl), .second, .val (.long bl), .second, .val (.long al), .second, .val (.int (al.toInt32)), .val (.int (bl.toInt32)), .val (.int (cl.toInt32)), .val (.int ((bl * cl).toInt32)), .val (.ref b1), .val (.ref b2), .val (.ref b5), .val (.ref b12), .val (.ref r23), .val (.ref r29), .val (.ref r35), .val (.ref r42), .unset, .unset, .unset, .unset, .unset] [(.int (0 : Int32))]))
  refine Go.st (fun _ kt => XS.ifNo X42.here hx rfl (hb hby at_150) rfl ((if0 _ _).trans (teq (by decide : (0 : Int32) = (0 : Int32))).2) kt) ?_
  show Go p e below _ (T42.setTop (mkF m 153 #[.val (.int i), .val (.int j), .val (.int k), .val (.long (2147483639 : Int64)), .second, .val (.long cl), .second, .val (.long bl), .second, .val (.long al), .second, .val (.int (al.toInt32)), .val (.int (bl.toInt32)), .val (.int (cl.toInt32)), .val (.int ((bl * cl).toInt32)), .val (.ref b1), .val (.ref b2), .val (.ref b5), .val (.ref b12), .val (.ref r23), .val (.ref r29), .val (.ref r35), .val (.ref r42), .unset, .unset, .unset, .unset, .unset] []))
  refine Go.st (fun _ kt => XS.iconst X42.here hx rfl (hb hby at_153) kt) ?_
  show Go p e below _ (T42.setTop (mkF m 154 #[.val (.int i), .val (.int j), .val (.int k), .val (.long (2147483639 : Int64)), .second, .val (.long cl), .second, .val (.long bl), .second, .val (.long al), .second, .val (.int (al.toInt32)), .val (.int (bl.toInt32)), .val (.int (cl.toInt32)), .val (.int ((bl * cl).toInt32)), .val (.ref b1), .val (.ref b2), .val (.ref b5), .val (.ref b12), .val (.ref r23), .val (.ref r29), .val (.ref r35), .val (.ref r42), .unset, .unset, .unset, .unset, .unset] [(.int (1 : Int32))]))
  refine Go.st (fun _ kt => XS.goto X42.here hx rfl (pc0 := 154) (pc' := 158) rfl (hb hby at_154) (by decide) (by decide) kt) ?_
  show Go p e below _ (T42.setTop (mkF m 158 #[.val (.int i), .val (.int j), .val (.int k), .val (.long (2147483639 : Int64)), .second, .val (.long cl), .second, .val (.long bl), .second, .val (.long al), .second, .val (.int (al.toInt32)), .val (.int (bl.toInt32)), .val (.int (cl.toInt32)), .val (.int ((bl * cl).toInt32)), .val (.ref b1), .val (.ref b2), .val (.ref b5), .val (.ref b12), .val (.ref r23), .val (.ref r29), .val (.ref r35), .val (.ref r42), .unset, .unset, .unset, .unset, .unset] [(.int (1 : Int32))]))
  refine Go.st (fun _ kt => XS.istore X42.here hx rfl (hb hby at_158) rfl (l' := #[.val (.int i), .val (.int j), .val (.int k), .val (.long (2147483639 : Int64)), .second, .val (.long cl), .second, .val (.long bl), .second, .val (.long al), .second, .val (.int (al.toInt32)), .val (.int (bl.toInt32)), .val (.int (cl.toInt32)), .val (.int ((bl * cl).toInt32)), .val (.ref b1), .val (.ref b2), .val (.ref b5), .val (.ref b12), .val (.ref r23), .val (.ref r29), .val (.ref r35), .val (.ref r42), .val (.int (1 : Int32)), .unset, .unset, .unset, .unset]) rfl kt) ?_
  show Go p e below _ (T42.setTop (mkF m 160 #[.val (.int i), .val (.int j), .val (.int k), .val (.long (2147483639 : Int64)), .second, .val (.long cl), .second, .val (.long bl), .second, .val (.long al), .second, .val (.int (al.toInt32)), .val (.int (bl.toInt32)), .val (.int (cl.toInt32)), .val (.int ((bl * cl).toInt32)), .val (.ref b1), .val (.ref b2), .val (.ref b5), .val (.ref b12), .val (.ref r23), .val (.ref r29), .val (.ref r35), .val (.ref r42), .val (.int (1 : Int32)), .unset, .unset, .unset, .unset] []))
  refine Go.st (fun _ kt => XS.aload X42.here hx rfl (hb hby at_160) rfl rfl kt) ?_
  show Go p e below _ (T42.setTop (mkF m 162 #[.val (.int i), .val (.int j), .val (.int k), .val (.long (2147483639 : Int64)), .second, .val (.long cl), .second, .val (.long bl), .second, .val (.long al), .second, .val (.int (al.toInt32)), .val (.int (bl.toInt32)), .val (.int (cl.toInt32)), .val (.int ((bl * cl).toInt32)), .val (.ref b1), .val (.ref b2), .val (.ref b5), .val (.ref b12), .val (.ref r23), .val (.ref r29), .val (.ref r35), .val (.ref r42), .val (.int (1 : Int32)), .unset, .unset, .unset, .unset] [(.ref r29)]))
  have f52 := (f48.keep K42q nin0)
  obtain ⟨cl51, Ar51, -, S51, N51', -, -⟩ := id f52
  refine Go.st (fun _ kt => X42.arraylength hx Ar51.1 (State.isArrayOf_alike hZ.alike Ar51.2.1) (g := (mkF m 162 #[.val (.int i), .val (.int j), .val (.int k), .val (.long (2147483639 : Int64)), .second, .val (.long cl), .second, .val (.long bl), .second, .val (.long al), .second, .val (.int (al.toInt32)), .val (.int (bl.toInt32)), .val (.int (cl.toInt32)), .val (.int ((bl * cl).toInt32)), .val (.ref b1), .val (.ref b2), .val (.ref b5), .val (.ref b12), .val (.ref r23), .val (.ref r29), .val (.ref r35), .val (.ref r42), .val (.int (1 : Int32)), .unset, .unset, .unset, .unset] [(.ref r29)])) rfl rfl (hb hby at_162) _ kt) ?_
  rw [len_of S51 N51']
  show Go p e below _ (T42.setTop (mkF m 163 #[.val (.int i), .val (.int j), .val (.int k), .val (.long (2147483639 : Int64)), .second, .val (.long cl), .second, .val (.long bl), .second, .val (.long al), .second, .val (.int (al.toInt32)), .val (.int (bl.toInt32)), .val (.int (cl.toInt32)), .val (.int ((bl * cl).toInt32)), .val (.ref b1), .val (.ref b2), .val (.ref b5), .val (.ref b12), .val (.ref r23), .val (.ref r29), .val (.ref r35), .val (.ref r42), .val (.int (1 : Int32)), .unset, .unset, .unset, .unset] [(.int (1 : Int32))]))
  refine Go.st (fun _ kt => XS.iconst X42.here hx rfl (hb hby at_163) kt) ?_
  show Go p e below _ (T42.setTop (mkF m 164 #[.val (.int i), .val (.int j), .val (.int k), .val (.long (2147483639 : Int64)), .second, .val (.long cl), .second, .val (.long bl), .second, .val (.long al), .second, .val (.int (al.toInt32)), .val (.int (bl.toInt32)), .val (.int (cl.toInt32)), .val (.int ((bl * cl).toInt32)), .val (.ref b1), .val (.ref b2), .val (.ref b5), .val (.ref b12), .val (.ref r23), .val (.ref r29), .val (.ref r35), .val (.ref r42), .val (.int (1 : Int32)), .unset, .unset, .unset, .unset] [(.int (1 : Int32)), (.int (1 : Int32))]))
  refine Go.st (fun _ kt => XS.icmpNo X42.here hx rfl (hb hby at_164) rfl (teq (by decide : (1 : Int32) = (1 : Int32))).2 kt) ?_
  show Go p e below _ (T42.setTop (mkF m 167 #[.val (.int i), .val (.int j), .val (.int k), .val (.long (2147483639 : Int64)), .second, .val (.long cl), .second, .val (.long bl), .second, .val (.long al), .second, .val (.int (al.toInt32)), .val (.int (bl.toInt32)), .val (.int (cl.toInt32)), .val (.int ((bl * cl).toInt32)), .val (.ref b1), .val (.ref b2), .val (.ref b5), .val (.ref b12), .val (.ref r23), .val (.ref r29), .val (.ref r35), .val (.ref r42), .val (.int (1 : Int32)), .unset, .unset, .unset, .unset] []))
  refine Go.st (fun _ kt => XS.aload X42.here hx rfl (hb hby at_167) rfl rfl kt) ?_
  show Go p e below _ (T42.setTop (mkF m 169 #[.val (.int i), .val (.int j), .val (.int k), .val (.long (2147483639 : Int64)), .second, .val (.long cl), .second, .val (.long bl), .second, .val (.long al), .second, .val (.int (al.toInt32)), .val (.int (bl.toInt32)), .val (.int (cl.toInt32)), .val (.int ((bl * cl).toInt32)), .val (.ref b1), .val (.ref b2), .val (.ref b5), .val (.ref b12), .val (.ref r23), .val (.ref r29), .val (.ref r35), .val (.ref r42), .val (.int (1 : Int32)), .unset, .unset, .unset, .unset] [(.ref r29)]))
  refine Go.st (fun _ kt => XS.iconst X42.here hx rfl (hb hby at_169) kt) ?_
  show Go p e below _ (T42.setTop (mkF m 170 #[.val (.int i), .val (.int j), .val (.int k), .val (.long (2147483639 : Int64)), .second, .val (.long cl), .second, .val (.long bl), .second, .val (.long al), .second, .val (.int (al.toInt32)), .val (.int (bl.toInt32)), .val (.int (cl.toInt32)), .val (.int ((bl * cl).toInt32)), .val (.ref b1), .val (.ref b2), .val (.ref b5), .val (.ref b12), .val (.ref r23), .val (.ref r29), .val (.ref r35), .val (.ref r42), .val (.int (1 : Int32)), .unset, .unset, .unset, .unset] [(.int (0 : Int32)), (.ref r29)]))
  obtain ⟨cl53, Ar53, -, S53, N53', H53, G53⟩ := id f52
  have hin53 := inb_of S53 (j := (0 : Int32)) ⟨by decide, by decide⟩
  have hat53 := Has.at H53 hin53 (v := (.int (1 : Int32))) rfl
  refine Go.st (fun _ kt => X42.iaload hx (j := (0 : Int32)) (v := (.int (1 : Int32))) Ar53.1 (State.isArrayOf_alike hZ.alike Ar53.2.1) Ar53.2.2 hin53 hat53 (g := (mkF m 170 #[.val (.int i), .val (.int j), .val (.int k), .val (.long (2147483639 : Int64)), .second, .val (.long cl), .second, .val (.long bl), .second, .val (.long al), .second, .val (.int (al.toInt32)), .val (.int (bl.toInt32)), .val (.int (cl.toInt32)), .val (.int ((bl * cl).toInt32)), .val (.ref b1), .val (.ref b2), .val (.ref b5), .val (.ref b12), .val (.ref r23), .val (.ref r29), .val (.ref r35), .val (.ref r42), .val (.int (1 : Int32)), .unset, .unset, .unset, .unset] [(.int (0 : Int32)), (.ref r29)])) rfl rfl (hb hby at_170) _ kt) ?_
  show Go p e below _ (T42.setTop (mkF m 171 #[.val (.int i), .val (.int j), .val (.int k), .val (.long (2147483639 : Int64)), .second, .val (.long cl), .second, .val (.long bl), .second, .val (.long al), .second, .val (.int (al.toInt32)), .val (.int (bl.toInt32)), .val (.int (cl.toInt32)), .val (.int ((bl * cl).toInt32)), .val (.ref b1), .val (.ref b2), .val (.ref b5), .val (.ref b12), .val (.ref r23), .val (.ref r29), .val (.ref r35), .val (.ref r42), .val (.int (1 : Int32)), .unset, .unset, .unset, .unset] [(.int (1 : Int32))]))
  refine Go.st (fun _ kt => XS.iconst X42.here hx rfl (hb hby at_171) kt) ?_
  show Go p e below _ (T42.setTop (mkF m 172 #[.val (.int i), .val (.int j), .val (.int k), .val (.long (2147483639 : Int64)), .second, .val (.long cl), .second, .val (.long bl), .second, .val (.long al), .second, .val (.int (al.toInt32)), .val (.int (bl.toInt32)), .val (.int (cl.toInt32)), .val (.int ((bl * cl).toInt32)), .val (.ref b1), .val (.ref b2), .val (.ref b5), .val (.ref b12), .val (.ref r23), .val (.ref r29), .val (.ref r35), .val (.ref r42), .val (.int (1 : Int32)), .unset, .unset, .unset, .unset] [(.int (1 : Int32)), (.int (1 : Int32))]))
  refine Go.st (fun _ kt => XS.icmpNo X42.here hx rfl (hb hby at_172) rfl (teq (by decide : (1 : Int32) = (1 : Int32))).2 kt) ?_
  show Go p e below _ (T42.setTop (mkF m 175 #[.val (.int i), .val (.int j), .val (.int k), .val (.long (2147483639 : Int64)), .second, .val (.long cl), .second, .val (.long bl), .second, .val (.long al), .second, .val (.int (al.toInt32)), .val (.int (bl.toInt32)), .val (.int (cl.toInt32)), .val (.int ((bl * cl).toInt32)), .val (.ref b1), .val (.ref b2), .val (.ref b5), .val (.ref b12), .val (.ref r23), .val (.ref r29), .val (.ref r35), .val (.ref r42), .val (.int (1 : Int32)), .unset, .unset, .unset, .unset] []))
  refine Go.st (fun _ kt => XS.iconst X42.here hx rfl (hb hby at_175) kt) ?_
  show Go p e below _ (T42.setTop (mkF m 176 #[.val (.int i), .val (.int j), .val (.int k), .val (.long (2147483639 : Int64)), .second, .val (.long cl), .second, .val (.long bl), .second, .val (.long al), .second, .val (.int (al.toInt32)), .val (.int (bl.toInt32)), .val (.int (cl.toInt32)), .val (.int ((bl * cl).toInt32)), .val (.ref b1), .val (.ref b2), .val (.ref b5), .val (.ref b12), .val (.ref r23), .val (.ref r29), .val (.ref r35), .val (.ref r42), .val (.int (1 : Int32)), .unset, .unset, .unset, .unset] [(.int (1 : Int32))]))
  refine Go.st (fun _ kt => XS.goto X42.here hx rfl (pc0 := 176) (pc' := 180) rfl (hb hby at_176) (by decide) (by decide) kt) ?_
  show Go p e below _ (T42.setTop (mkF m 180 #[.val (.int i), .val (.int j), .val (.int k), .val (.long (2147483639 : Int64)), .second, .val (.long cl), .second, .val (.long bl), .second, .val (.long al), .second, .val (.int (al.toInt32)), .val (.int (bl.toInt32)), .val (.int (cl.toInt32)), .val (.int ((bl * cl).toInt32)), .val (.ref b1), .val (.ref b2), .val (.ref b5), .val (.ref b12), .val (.ref r23), .val (.ref r29), .val (.ref r35), .val (.ref r42), .val (.int (1 : Int32)), .unset, .unset, .unset, .unset] [(.int (1 : Int32))]))
  refine Go.st (fun _ kt => XS.istore X42.here hx rfl (hb hby at_180) rfl (l' := #[.val (.int i), .val (.int j), .val (.int k), .val (.long (2147483639 : Int64)), .second, .val (.long cl), .second, .val (.long bl), .second, .val (.long al), .second, .val (.int (al.toInt32)), .val (.int (bl.toInt32)), .val (.int (cl.toInt32)), .val (.int ((bl * cl).toInt32)), .val (.ref b1), .val (.ref b2), .val (.ref b5), .val (.ref b12), .val (.ref r23), .val (.ref r29), .val (.ref r35), .val (.ref r42), .val (.int (1 : Int32)), .val (.int (1 : Int32)), .unset, .unset, .unset]) rfl kt) ?_
  show Go p e below _ (T42.setTop (mkF m 182 #[.val (.int i), .val (.int j), .val (.int k), .val (.long (2147483639 : Int64)), .second, .val (.long cl), .second, .val (.long bl), .second, .val (.long al), .second, .val (.int (al.toInt32)), .val (.int (bl.toInt32)), .val (.int (cl.toInt32)), .val (.int ((bl * cl).toInt32)), .val (.ref b1), .val (.ref b2), .val (.ref b5), .val (.ref b12), .val (.ref r23), .val (.ref r29), .val (.ref r35), .val (.ref r42), .val (.int (1 : Int32)), .val (.int (1 : Int32)), .unset, .unset, .unset] []))
  refine Go.st (fun _ kt => XS.aload X42.here hx rfl (hb hby at_182) rfl rfl kt) ?_
  show Go p e below _ (T42.setTop (mkF m 184 #[.val (.int i), .val (.int j), .val (.int k), .val (.long (2147483639 : Int64)), .second, .val (.long cl), .second, .val (.long bl), .second, .val (.long al), .second, .val (.int (al.toInt32)), .val (.int (bl.toInt32)), .val (.int (cl.toInt32)), .val (.int ((bl * cl).toInt32)), .val (.ref b1), .val (.ref b2), .val (.ref b5), .val (.ref b12), .val (.ref r23), .val (.ref r29), .val (.ref r35), .val (.ref r42), .val (.int (1 : Int32)), .val (.int (1 : Int32)), .unset, .unset, .unset] [(.ref r35)]))
  have f55 := (G35_0.keep K42q nin0)
  obtain ⟨cl54, Ar54, -, S54, N54', -, -⟩ := id f55
  refine Go.st (fun _ kt => X42.arraylength hx Ar54.1 (State.isArrayOf_alike hZ.alike Ar54.2.1) (g := (mkF m 184 #[.val (.int i), .val (.int j), .val (.int k), .val (.long (2147483639 : Int64)), .second, .val (.long cl), .second, .val (.long bl), .second, .val (.long al), .second, .val (.int (al.toInt32)), .val (.int (bl.toInt32)), .val (.int (cl.toInt32)), .val (.int ((bl * cl).toInt32)), .val (.ref b1), .val (.ref b2), .val (.ref b5), .val (.ref b12), .val (.ref r23), .val (.ref r29), .val (.ref r35), .val (.ref r42), .val (.int (1 : Int32)), .val (.int (1 : Int32)), .unset, .unset, .unset] [(.ref r35)])) rfl rfl (hb hby at_184) _ kt) ?_
  rw [len_of S54 N54']
  show Go p e below _ (T42.setTop (mkF m 185 #[.val (.int i), .val (.int j), .val (.int k), .val (.long (2147483639 : Int64)), .second, .val (.long cl), .second, .val (.long bl), .second, .val (.long al), .second, .val (.int (al.toInt32)), .val (.int (bl.toInt32)), .val (.int (cl.toInt32)), .val (.int ((bl * cl).toInt32)), .val (.ref b1), .val (.ref b2), .val (.ref b5), .val (.ref b12), .val (.ref r23), .val (.ref r29), .val (.ref r35), .val (.ref r42), .val (.int (1 : Int32)), .val (.int (1 : Int32)), .unset, .unset, .unset] [(.int (2 : Int32))]))
  refine Go.st (fun _ kt => XS.iconst X42.here hx rfl (hb hby at_185) kt) ?_
  show Go p e below _ (T42.setTop (mkF m 186 #[.val (.int i), .val (.int j), .val (.int k), .val (.long (2147483639 : Int64)), .second, .val (.long cl), .second, .val (.long bl), .second, .val (.long al), .second, .val (.int (al.toInt32)), .val (.int (bl.toInt32)), .val (.int (cl.toInt32)), .val (.int ((bl * cl).toInt32)), .val (.ref b1), .val (.ref b2), .val (.ref b5), .val (.ref b12), .val (.ref r23), .val (.ref r29), .val (.ref r35), .val (.ref r42), .val (.int (1 : Int32)), .val (.int (1 : Int32)), .unset, .unset, .unset] [(.int (2 : Int32)), (.int (2 : Int32))]))
  refine Go.st (fun _ kt => XS.icmpNo X42.here hx rfl (hb hby at_186) rfl (teq (by decide : (2 : Int32) = (2 : Int32))).2 kt) ?_
  show Go p e below _ (T42.setTop (mkF m 189 #[.val (.int i), .val (.int j), .val (.int k), .val (.long (2147483639 : Int64)), .second, .val (.long cl), .second, .val (.long bl), .second, .val (.long al), .second, .val (.int (al.toInt32)), .val (.int (bl.toInt32)), .val (.int (cl.toInt32)), .val (.int ((bl * cl).toInt32)), .val (.ref b1), .val (.ref b2), .val (.ref b5), .val (.ref b12), .val (.ref r23), .val (.ref r29), .val (.ref r35), .val (.ref r42), .val (.int (1 : Int32)), .val (.int (1 : Int32)), .unset, .unset, .unset] []))
  refine Go.st (fun _ kt => XS.aload X42.here hx rfl (hb hby at_189) rfl rfl kt) ?_
  show Go p e below _ (T42.setTop (mkF m 191 #[.val (.int i), .val (.int j), .val (.int k), .val (.long (2147483639 : Int64)), .second, .val (.long cl), .second, .val (.long bl), .second, .val (.long al), .second, .val (.int (al.toInt32)), .val (.int (bl.toInt32)), .val (.int (cl.toInt32)), .val (.int ((bl * cl).toInt32)), .val (.ref b1), .val (.ref b2), .val (.ref b5), .val (.ref b12), .val (.ref r23), .val (.ref r29), .val (.ref r35), .val (.ref r42), .val (.int (1 : Int32)), .val (.int (1 : Int32)), .unset, .unset, .unset] [(.ref r35)]))
  refine Go.st (fun _ kt => XS.iconst X42.here hx rfl (hb hby at_191) kt) ?_
  show Go p e below _ (T42.setTop (mkF m 192 #[.val (.int i), .val (.int j), .val (.int k), .val (.long (2147483639 : Int64)), .second, .val (.long cl), .second, .val (.long bl), .second, .val (.long al), .second, .val (.int (al.toInt32)), .val (.int (bl.toInt32)), .val (.int (cl.toInt32)), .val (.int ((bl * cl).toInt32)), .val (.ref b1), .val (.ref b2), .val (.ref b5), .val (.ref b12), .val (.ref r23), .val (.ref r29), .val (.ref r35), .val (.ref r42), .val (.int (1 : Int32)), .val (.int (1 : Int32)), .unset, .unset, .unset] [(.int (0 : Int32)), (.ref r35)]))
  obtain ⟨cl56, Ar56, -, S56, N56', H56, G56⟩ := id f55
  have hin56 := inb_of S56 (j := (0 : Int32)) ⟨by decide, by decide⟩
  have hat56 := Has.at H56 hin56 (v := (.int ((1 : Int32) * (cl.toInt32)))) rfl
  refine Go.st (fun _ kt => X42.iaload hx (j := (0 : Int32)) (v := (.int ((1 : Int32) * (cl.toInt32)))) Ar56.1 (State.isArrayOf_alike hZ.alike Ar56.2.1) Ar56.2.2 hin56 hat56 (g := (mkF m 192 #[.val (.int i), .val (.int j), .val (.int k), .val (.long (2147483639 : Int64)), .second, .val (.long cl), .second, .val (.long bl), .second, .val (.long al), .second, .val (.int (al.toInt32)), .val (.int (bl.toInt32)), .val (.int (cl.toInt32)), .val (.int ((bl * cl).toInt32)), .val (.ref b1), .val (.ref b2), .val (.ref b5), .val (.ref b12), .val (.ref r23), .val (.ref r29), .val (.ref r35), .val (.ref r42), .val (.int (1 : Int32)), .val (.int (1 : Int32)), .unset, .unset, .unset] [(.int (0 : Int32)), (.ref r35)])) rfl rfl (hb hby at_192) _ kt) ?_
  show Go p e below _ (T42.setTop (mkF m 193 #[.val (.int i), .val (.int j), .val (.int k), .val (.long (2147483639 : Int64)), .second, .val (.long cl), .second, .val (.long bl), .second, .val (.long al), .second, .val (.int (al.toInt32)), .val (.int (bl.toInt32)), .val (.int (cl.toInt32)), .val (.int ((bl * cl).toInt32)), .val (.ref b1), .val (.ref b2), .val (.ref b5), .val (.ref b12), .val (.ref r23), .val (.ref r29), .val (.ref r35), .val (.ref r42), .val (.int (1 : Int32)), .val (.int (1 : Int32)), .unset, .unset, .unset] [(.int ((1 : Int32) * (cl.toInt32)))]))
  refine Go.st (fun _ kt => XS.iload X42.here hx rfl (hb hby at_193) rfl kt) ?_
  show Go p e below _ (T42.setTop (mkF m 195 #[.val (.int i), .val (.int j), .val (.int k), .val (.long (2147483639 : Int64)), .second, .val (.long cl), .second, .val (.long bl), .second, .val (.long al), .second, .val (.int (al.toInt32)), .val (.int (bl.toInt32)), .val (.int (cl.toInt32)), .val (.int ((bl * cl).toInt32)), .val (.ref b1), .val (.ref b2), .val (.ref b5), .val (.ref b12), .val (.ref r23), .val (.ref r29), .val (.ref r35), .val (.ref r42), .val (.int (1 : Int32)), .val (.int (1 : Int32)), .unset, .unset, .unset] [(.int (cl.toInt32)), (.int ((1 : Int32) * (cl.toInt32)))]))
  refine Go.st (fun _ kt => XS.icmpNo X42.here hx rfl (hb hby at_195) rfl (teq (Int32.one_mul _)).2 kt) ?_
  show Go p e below _ (T42.setTop (mkF m 198 #[.val (.int i), .val (.int j), .val (.int k), .val (.long (2147483639 : Int64)), .second, .val (.long cl), .second, .val (.long bl), .second, .val (.long al), .second, .val (.int (al.toInt32)), .val (.int (bl.toInt32)), .val (.int (cl.toInt32)), .val (.int ((bl * cl).toInt32)), .val (.ref b1), .val (.ref b2), .val (.ref b5), .val (.ref b12), .val (.ref r23), .val (.ref r29), .val (.ref r35), .val (.ref r42), .val (.int (1 : Int32)), .val (.int (1 : Int32)), .unset, .unset, .unset] []))
  refine Go.st (fun _ kt => XS.aload X42.here hx rfl (hb hby at_198) rfl rfl kt) ?_
  show Go p e below _ (T42.setTop (mkF m 200 #[.val (.int i), .val (.int j), .val (.int k), .val (.long (2147483639 : Int64)), .second, .val (.long cl), .second, .val (.long bl), .second, .val (.long al), .second, .val (.int (al.toInt32)), .val (.int (bl.toInt32)), .val (.int (cl.toInt32)), .val (.int ((bl * cl).toInt32)), .val (.ref b1), .val (.ref b2), .val (.ref b5), .val (.ref b12), .val (.ref r23), .val (.ref r29), .val (.ref r35), .val (.ref r42), .val (.int (1 : Int32)), .val (.int (1 : Int32)), .unset, .unset, .unset] [(.ref r35)]))
  refine Go.st (fun _ kt => XS.iconst X42.here hx rfl (hb hby at_200) kt) ?_
  show Go p e below _ (T42.setTop (mkF m 201 #[.val (.int i), .val (.int j), .val (.int k), .val (.long (2147483639 : Int64)), .second, .val (.long cl), .second, .val (.long bl), .second, .val (.long al), .second, .val (.int (al.toInt32)), .val (.int (bl.toInt32)), .val (.int (cl.toInt32)), .val (.int ((bl * cl).toInt32)), .val (.ref b1), .val (.ref b2), .val (.ref b5), .val (.ref b12), .val (.ref r23), .val (.ref r29), .val (.ref r35), .val (.ref r42), .val (.int (1 : Int32)), .val (.int (1 : Int32)), .unset, .unset, .unset] [(.int (1 : Int32)), (.ref r35)]))
  obtain ⟨cl57, Ar57, -, S57, N57', H57, G57⟩ := id f55
  have hin57 := inb_of S57 (j := (1 : Int32)) ⟨by decide, by decide⟩
  have hat57 := Has.at H57 hin57 (v := (.int (1 : Int32))) rfl
  refine Go.st (fun _ kt => X42.iaload hx (j := (1 : Int32)) (v := (.int (1 : Int32))) Ar57.1 (State.isArrayOf_alike hZ.alike Ar57.2.1) Ar57.2.2 hin57 hat57 (g := (mkF m 201 #[.val (.int i), .val (.int j), .val (.int k), .val (.long (2147483639 : Int64)), .second, .val (.long cl), .second, .val (.long bl), .second, .val (.long al), .second, .val (.int (al.toInt32)), .val (.int (bl.toInt32)), .val (.int (cl.toInt32)), .val (.int ((bl * cl).toInt32)), .val (.ref b1), .val (.ref b2), .val (.ref b5), .val (.ref b12), .val (.ref r23), .val (.ref r29), .val (.ref r35), .val (.ref r42), .val (.int (1 : Int32)), .val (.int (1 : Int32)), .unset, .unset, .unset] [(.int (1 : Int32)), (.ref r35)])) rfl rfl (hb hby at_201) _ kt) ?_
  show Go p e below _ (T42.setTop (mkF m 202 #[.val (.int i), .val (.int j), .val (.int k), .val (.long (2147483639 : Int64)), .second, .val (.long cl), .second, .val (.long bl), .second, .val (.long al), .second, .val (.int (al.toInt32)), .val (.int (bl.toInt32)), .val (.int (cl.toInt32)), .val (.int ((bl * cl).toInt32)), .val (.ref b1), .val (.ref b2), .val (.ref b5), .val (.ref b12), .val (.ref r23), .val (.ref r29), .val (.ref r35), .val (.ref r42), .val (.int (1 : Int32)), .val (.int (1 : Int32)), .unset, .unset, .unset] [(.int (1 : Int32))]))
  refine Go.st (fun _ kt => XS.iconst X42.here hx rfl (hb hby at_202) kt) ?_
  show Go p e below _ (T42.setTop (mkF m 203 #[.val (.int i), .val (.int j), .val (.int k), .val (.long (2147483639 : Int64)), .second, .val (.long cl), .second, .val (.long bl), .second, .val (.long al), .second, .val (.int (al.toInt32)), .val (.int (bl.toInt32)), .val (.int (cl.toInt32)), .val (.int ((bl * cl).toInt32)), .val (.ref b1), .val (.ref b2), .val (.ref b5), .val (.ref b12), .val (.ref r23), .val (.ref r29), .val (.ref r35), .val (.ref r42), .val (.int (1 : Int32)), .val (.int (1 : Int32)), .unset, .unset, .unset] [(.int (1 : Int32)), (.int (1 : Int32))]))
  refine Go.st (fun _ kt => XS.icmpNo X42.here hx rfl (hb hby at_203) rfl (teq (by decide : (1 : Int32) = (1 : Int32))).2 kt) ?_
  show Go p e below _ (T42.setTop (mkF m 206 #[.val (.int i), .val (.int j), .val (.int k), .val (.long (2147483639 : Int64)), .second, .val (.long cl), .second, .val (.long bl), .second, .val (.long al), .second, .val (.int (al.toInt32)), .val (.int (bl.toInt32)), .val (.int (cl.toInt32)), .val (.int ((bl * cl).toInt32)), .val (.ref b1), .val (.ref b2), .val (.ref b5), .val (.ref b12), .val (.ref r23), .val (.ref r29), .val (.ref r35), .val (.ref r42), .val (.int (1 : Int32)), .val (.int (1 : Int32)), .unset, .unset, .unset] []))
  refine Go.st (fun _ kt => XS.iconst X42.here hx rfl (hb hby at_206) kt) ?_
  show Go p e below _ (T42.setTop (mkF m 207 #[.val (.int i), .val (.int j), .val (.int k), .val (.long (2147483639 : Int64)), .second, .val (.long cl), .second, .val (.long bl), .second, .val (.long al), .second, .val (.int (al.toInt32)), .val (.int (bl.toInt32)), .val (.int (cl.toInt32)), .val (.int ((bl * cl).toInt32)), .val (.ref b1), .val (.ref b2), .val (.ref b5), .val (.ref b12), .val (.ref r23), .val (.ref r29), .val (.ref r35), .val (.ref r42), .val (.int (1 : Int32)), .val (.int (1 : Int32)), .unset, .unset, .unset] [(.int (1 : Int32))]))
  refine Go.st (fun _ kt => XS.goto X42.here hx rfl (pc0 := 207) (pc' := 211) rfl (hb hby at_207) (by decide) (by decide) kt) ?_
  show Go p e below _ (T42.setTop (mkF m 211 #[.val (.int i), .val (.int j), .val (.int k), .val (.long (2147483639 : Int64)), .second, .val (.long cl), .second, .val (.long bl), .second, .val (.long al), .second, .val (.int (al.toInt32)), .val (.int (bl.toInt32)), .val (.int (cl.toInt32)), .val (.int ((bl * cl).toInt32)), .val (.ref b1), .val (.ref b2), .val (.ref b5), .val (.ref b12), .val (.ref r23), .val (.ref r29), .val (.ref r35), .val (.ref r42), .val (.int (1 : Int32)), .val (.int (1 : Int32)), .unset, .unset, .unset] [(.int (1 : Int32))]))
  refine Go.st (fun _ kt => XS.istore X42.here hx rfl (hb hby at_211) rfl (l' := #[.val (.int i), .val (.int j), .val (.int k), .val (.long (2147483639 : Int64)), .second, .val (.long cl), .second, .val (.long bl), .second, .val (.long al), .second, .val (.int (al.toInt32)), .val (.int (bl.toInt32)), .val (.int (cl.toInt32)), .val (.int ((bl * cl).toInt32)), .val (.ref b1), .val (.ref b2), .val (.ref b5), .val (.ref b12), .val (.ref r23), .val (.ref r29), .val (.ref r35), .val (.ref r42), .val (.int (1 : Int32)), .val (.int (1 : Int32)), .val (.int (1 : Int32)), .unset, .unset]) rfl kt) ?_
  show Go p e below _ (T42.setTop (mkF m 213 #[.val (.int i), .val (.int j), .val (.int k), .val (.long (2147483639 : Int64)), .second, .val (.long cl), .second, .val (.long bl), .second, .val (.long al), .second, .val (.int (al.toInt32)), .val (.int (bl.toInt32)), .val (.int (cl.toInt32)), .val (.int ((bl * cl).toInt32)), .val (.ref b1), .val (.ref b2), .val (.ref b5), .val (.ref b12), .val (.ref r23), .val (.ref r29), .val (.ref r35), .val (.ref r42), .val (.int (1 : Int32)), .val (.int (1 : Int32)), .val (.int (1 : Int32)), .unset, .unset] []))
  refine Go.st (fun _ kt => XS.aload X42.here hx rfl (hb hby at_213) rfl rfl kt) ?_
  show Go p e below _ (T42.setTop (mkF m 215 #[.val (.int i), .val (.int j), .val (.int k), .val (.long (2147483639 : Int64)), .second, .val (.long cl), .second, .val (.long bl), .second, .val (.long al), .second, .val (.int (al.toInt32)), .val (.int (bl.toInt32)), .val (.int (cl.toInt32)), .val (.int ((bl * cl).toInt32)), .val (.ref b1), .val (.ref b2), .val (.ref b5), .val (.ref b12), .val (.ref r23), .val (.ref r29), .val (.ref r35), .val (.ref r42), .val (.int (1 : Int32)), .val (.int (1 : Int32)), .val (.int (1 : Int32)), .unset, .unset] [(.ref r42)]))
  obtain ⟨cl58, Ar58, -, S58, N58', -, -⟩ := id G42_0
  refine Go.st (fun _ kt => X42.arraylength hx Ar58.1 (State.isArrayOf_alike hZ.alike Ar58.2.1) (g := (mkF m 215 #[.val (.int i), .val (.int j), .val (.int k), .val (.long (2147483639 : Int64)), .second, .val (.long cl), .second, .val (.long bl), .second, .val (.long al), .second, .val (.int (al.toInt32)), .val (.int (bl.toInt32)), .val (.int (cl.toInt32)), .val (.int ((bl * cl).toInt32)), .val (.ref b1), .val (.ref b2), .val (.ref b5), .val (.ref b12), .val (.ref r23), .val (.ref r29), .val (.ref r35), .val (.ref r42), .val (.int (1 : Int32)), .val (.int (1 : Int32)), .val (.int (1 : Int32)), .unset, .unset] [(.ref r42)])) rfl rfl (hb hby at_215) _ kt) ?_
  rw [len_of S58 N58']
  show Go p e below _ (T42.setTop (mkF m 216 #[.val (.int i), .val (.int j), .val (.int k), .val (.long (2147483639 : Int64)), .second, .val (.long cl), .second, .val (.long bl), .second, .val (.long al), .second, .val (.int (al.toInt32)), .val (.int (bl.toInt32)), .val (.int (cl.toInt32)), .val (.int ((bl * cl).toInt32)), .val (.ref b1), .val (.ref b2), .val (.ref b5), .val (.ref b12), .val (.ref r23), .val (.ref r29), .val (.ref r35), .val (.ref r42), .val (.int (1 : Int32)), .val (.int (1 : Int32)), .val (.int (1 : Int32)), .unset, .unset] [(.int (3 : Int32))]))
  refine Go.st (fun _ kt => XS.iconst X42.here hx rfl (hb hby at_216) kt) ?_
  show Go p e below _ (T42.setTop (mkF m 217 #[.val (.int i), .val (.int j), .val (.int k), .val (.long (2147483639 : Int64)), .second, .val (.long cl), .second, .val (.long bl), .second, .val (.long al), .second, .val (.int (al.toInt32)), .val (.int (bl.toInt32)), .val (.int (cl.toInt32)), .val (.int ((bl * cl).toInt32)), .val (.ref b1), .val (.ref b2), .val (.ref b5), .val (.ref b12), .val (.ref r23), .val (.ref r29), .val (.ref r35), .val (.ref r42), .val (.int (1 : Int32)), .val (.int (1 : Int32)), .val (.int (1 : Int32)), .unset, .unset] [(.int (3 : Int32)), (.int (3 : Int32))]))
  refine Go.st (fun _ kt => XS.icmpNo X42.here hx rfl (hb hby at_217) rfl (teq (by decide : (3 : Int32) = (3 : Int32))).2 kt) ?_
  show Go p e below _ (T42.setTop (mkF m 220 #[.val (.int i), .val (.int j), .val (.int k), .val (.long (2147483639 : Int64)), .second, .val (.long cl), .second, .val (.long bl), .second, .val (.long al), .second, .val (.int (al.toInt32)), .val (.int (bl.toInt32)), .val (.int (cl.toInt32)), .val (.int ((bl * cl).toInt32)), .val (.ref b1), .val (.ref b2), .val (.ref b5), .val (.ref b12), .val (.ref r23), .val (.ref r29), .val (.ref r35), .val (.ref r42), .val (.int (1 : Int32)), .val (.int (1 : Int32)), .val (.int (1 : Int32)), .unset, .unset] []))
  refine Go.st (fun _ kt => XS.aload X42.here hx rfl (hb hby at_220) rfl rfl kt) ?_
  show Go p e below _ (T42.setTop (mkF m 222 #[.val (.int i), .val (.int j), .val (.int k), .val (.long (2147483639 : Int64)), .second, .val (.long cl), .second, .val (.long bl), .second, .val (.long al), .second, .val (.int (al.toInt32)), .val (.int (bl.toInt32)), .val (.int (cl.toInt32)), .val (.int ((bl * cl).toInt32)), .val (.ref b1), .val (.ref b2), .val (.ref b5), .val (.ref b12), .val (.ref r23), .val (.ref r29), .val (.ref r35), .val (.ref r42), .val (.int (1 : Int32)), .val (.int (1 : Int32)), .val (.int (1 : Int32)), .unset, .unset] [(.ref r42)]))
  refine Go.st (fun _ kt => XS.iconst X42.here hx rfl (hb hby at_222) kt) ?_
  show Go p e below _ (T42.setTop (mkF m 223 #[.val (.int i), .val (.int j), .val (.int k), .val (.long (2147483639 : Int64)), .second, .val (.long cl), .second, .val (.long bl), .second, .val (.long al), .second, .val (.int (al.toInt32)), .val (.int (bl.toInt32)), .val (.int (cl.toInt32)), .val (.int ((bl * cl).toInt32)), .val (.ref b1), .val (.ref b2), .val (.ref b5), .val (.ref b12), .val (.ref r23), .val (.ref r29), .val (.ref r35), .val (.ref r42), .val (.int (1 : Int32)), .val (.int (1 : Int32)), .val (.int (1 : Int32)), .unset, .unset] [(.int (0 : Int32)), (.ref r42)]))
  obtain ⟨cl59, Ar59, -, S59, N59', H59, G59⟩ := id G42_0
  have hin59 := inb_of S59 (j := (0 : Int32)) ⟨by decide, by decide⟩
  have hat59 := Has.at H59 hin59 (v := (.int (((1 : Int32) * (cl.toInt32)) * (bl.toInt32)))) rfl
  refine Go.st (fun _ kt => X42.iaload hx (j := (0 : Int32)) (v := (.int (((1 : Int32) * (cl.toInt32)) * (bl.toInt32)))) Ar59.1 (State.isArrayOf_alike hZ.alike Ar59.2.1) Ar59.2.2 hin59 hat59 (g := (mkF m 223 #[.val (.int i), .val (.int j), .val (.int k), .val (.long (2147483639 : Int64)), .second, .val (.long cl), .second, .val (.long bl), .second, .val (.long al), .second, .val (.int (al.toInt32)), .val (.int (bl.toInt32)), .val (.int (cl.toInt32)), .val (.int ((bl * cl).toInt32)), .val (.ref b1), .val (.ref b2), .val (.ref b5), .val (.ref b12), .val (.ref r23), .val (.ref r29), .val (.ref r35), .val (.ref r42), .val (.int (1 : Int32)), .val (.int (1 : Int32)), .val (.int (1 : Int32)), .unset, .unset] [(.int (0 : Int32)), (.ref r42)])) rfl rfl (hb hby at_223) _ kt) ?_
  show Go p e below _ (T42.setTop (mkF m 224 #[.val (.int i), .val (.int j), .val (.int k), .val (.long (2147483639 : Int64)), .second, .val (.long cl), .second, .val (.long bl), .second, .val (.long al), .second, .val (.int (al.toInt32)), .val (.int (bl.toInt32)), .val (.int (cl.toInt32)), .val (.int ((bl * cl).toInt32)), .val (.ref b1), .val (.ref b2), .val (.ref b5), .val (.ref b12), .val (.ref r23), .val (.ref r29), .val (.ref r35), .val (.ref r42), .val (.int (1 : Int32)), .val (.int (1 : Int32)), .val (.int (1 : Int32)), .unset, .unset] [(.int (((1 : Int32) * (cl.toInt32)) * (bl.toInt32)))]))
  refine Go.st (fun _ kt => XS.iload X42.here hx rfl (hb hby at_224) rfl kt) ?_
  show Go p e below _ (T42.setTop (mkF m 226 #[.val (.int i), .val (.int j), .val (.int k), .val (.long (2147483639 : Int64)), .second, .val (.long cl), .second, .val (.long bl), .second, .val (.long al), .second, .val (.int (al.toInt32)), .val (.int (bl.toInt32)), .val (.int (cl.toInt32)), .val (.int ((bl * cl).toInt32)), .val (.ref b1), .val (.ref b2), .val (.ref b5), .val (.ref b12), .val (.ref r23), .val (.ref r29), .val (.ref r35), .val (.ref r42), .val (.int (1 : Int32)), .val (.int (1 : Int32)), .val (.int (1 : Int32)), .unset, .unset] [(.int ((bl * cl).toInt32)), (.int (((1 : Int32) * (cl.toInt32)) * (bl.toInt32)))]))
  refine Go.st (fun _ kt => XS.icmpNo X42.here hx rfl (hb hby at_226) rfl (teq (by rw [Int32.one_mul, Int64.toInt32_mul, Int32.mul_comm])).2 kt) ?_
  show Go p e below _ (T42.setTop (mkF m 229 #[.val (.int i), .val (.int j), .val (.int k), .val (.long (2147483639 : Int64)), .second, .val (.long cl), .second, .val (.long bl), .second, .val (.long al), .second, .val (.int (al.toInt32)), .val (.int (bl.toInt32)), .val (.int (cl.toInt32)), .val (.int ((bl * cl).toInt32)), .val (.ref b1), .val (.ref b2), .val (.ref b5), .val (.ref b12), .val (.ref r23), .val (.ref r29), .val (.ref r35), .val (.ref r42), .val (.int (1 : Int32)), .val (.int (1 : Int32)), .val (.int (1 : Int32)), .unset, .unset] []))
  refine Go.st (fun _ kt => XS.aload X42.here hx rfl (hb hby at_229) rfl rfl kt) ?_
  show Go p e below _ (T42.setTop (mkF m 231 #[.val (.int i), .val (.int j), .val (.int k), .val (.long (2147483639 : Int64)), .second, .val (.long cl), .second, .val (.long bl), .second, .val (.long al), .second, .val (.int (al.toInt32)), .val (.int (bl.toInt32)), .val (.int (cl.toInt32)), .val (.int ((bl * cl).toInt32)), .val (.ref b1), .val (.ref b2), .val (.ref b5), .val (.ref b12), .val (.ref r23), .val (.ref r29), .val (.ref r35), .val (.ref r42), .val (.int (1 : Int32)), .val (.int (1 : Int32)), .val (.int (1 : Int32)), .unset, .unset] [(.ref r42)]))
  refine Go.st (fun _ kt => XS.iconst X42.here hx rfl (hb hby at_231) kt) ?_
  show Go p e below _ (T42.setTop (mkF m 232 #[.val (.int i), .val (.int j), .val (.int k), .val (.long (2147483639 : Int64)), .second, .val (.long cl), .second, .val (.long bl), .second, .val (.long al), .second, .val (.int (al.toInt32)), .val (.int (bl.toInt32)), .val (.int (cl.toInt32)), .val (.int ((bl * cl).toInt32)), .val (.ref b1), .val (.ref b2), .val (.ref b5), .val (.ref b12), .val (.ref r23), .val (.ref r29), .val (.ref r35), .val (.ref r42), .val (.int (1 : Int32)), .val (.int (1 : Int32)), .val (.int (1 : Int32)), .unset, .unset] [(.int (1 : Int32)), (.ref r42)]))
  obtain ⟨cl60, Ar60, -, S60, N60', H60, G60⟩ := id G42_0
  have hin60 := inb_of S60 (j := (1 : Int32)) ⟨by decide, by decide⟩
  have hat60 := Has.at H60 hin60 (v := (.int ((1 : Int32) * (cl.toInt32)))) rfl
  refine Go.st (fun _ kt => X42.iaload hx (j := (1 : Int32)) (v := (.int ((1 : Int32) * (cl.toInt32)))) Ar60.1 (State.isArrayOf_alike hZ.alike Ar60.2.1) Ar60.2.2 hin60 hat60 (g := (mkF m 232 #[.val (.int i), .val (.int j), .val (.int k), .val (.long (2147483639 : Int64)), .second, .val (.long cl), .second, .val (.long bl), .second, .val (.long al), .second, .val (.int (al.toInt32)), .val (.int (bl.toInt32)), .val (.int (cl.toInt32)), .val (.int ((bl * cl).toInt32)), .val (.ref b1), .val (.ref b2), .val (.ref b5), .val (.ref b12), .val (.ref r23), .val (.ref r29), .val (.ref r35), .val (.ref r42), .val (.int (1 : Int32)), .val (.int (1 : Int32)), .val (.int (1 : Int32)), .unset, .unset] [(.int (1 : Int32)), (.ref r42)])) rfl rfl (hb hby at_232) _ kt) ?_
  show Go p e below _ (T42.setTop (mkF m 233 #[.val (.int i), .val (.int j), .val (.int k), .val (.long (2147483639 : Int64)), .second, .val (.long cl), .second, .val (.long bl), .second, .val (.long al), .second, .val (.int (al.toInt32)), .val (.int (bl.toInt32)), .val (.int (cl.toInt32)), .val (.int ((bl * cl).toInt32)), .val (.ref b1), .val (.ref b2), .val (.ref b5), .val (.ref b12), .val (.ref r23), .val (.ref r29), .val (.ref r35), .val (.ref r42), .val (.int (1 : Int32)), .val (.int (1 : Int32)), .val (.int (1 : Int32)), .unset, .unset] [(.int ((1 : Int32) * (cl.toInt32)))]))
  refine Go.st (fun _ kt => XS.iload X42.here hx rfl (hb hby at_233) rfl kt) ?_
  show Go p e below _ (T42.setTop (mkF m 235 #[.val (.int i), .val (.int j), .val (.int k), .val (.long (2147483639 : Int64)), .second, .val (.long cl), .second, .val (.long bl), .second, .val (.long al), .second, .val (.int (al.toInt32)), .val (.int (bl.toInt32)), .val (.int (cl.toInt32)), .val (.int ((bl * cl).toInt32)), .val (.ref b1), .val (.ref b2), .val (.ref b5), .val (.ref b12), .val (.ref r23), .val (.ref r29), .val (.ref r35), .val (.ref r42), .val (.int (1 : Int32)), .val (.int (1 : Int32)), .val (.int (1 : Int32)), .unset, .unset] [(.int (cl.toInt32)), (.int ((1 : Int32) * (cl.toInt32)))]))
  refine Go.st (fun _ kt => XS.icmpNo X42.here hx rfl (hb hby at_235) rfl (teq (Int32.one_mul _)).2 kt) ?_
  show Go p e below _ (T42.setTop (mkF m 238 #[.val (.int i), .val (.int j), .val (.int k), .val (.long (2147483639 : Int64)), .second, .val (.long cl), .second, .val (.long bl), .second, .val (.long al), .second, .val (.int (al.toInt32)), .val (.int (bl.toInt32)), .val (.int (cl.toInt32)), .val (.int ((bl * cl).toInt32)), .val (.ref b1), .val (.ref b2), .val (.ref b5), .val (.ref b12), .val (.ref r23), .val (.ref r29), .val (.ref r35), .val (.ref r42), .val (.int (1 : Int32)), .val (.int (1 : Int32)), .val (.int (1 : Int32)), .unset, .unset] []))
  refine Go.st (fun _ kt => XS.aload X42.here hx rfl (hb hby at_238) rfl rfl kt) ?_
  show Go p e below _ (T42.setTop (mkF m 240 #[.val (.int i), .val (.int j), .val (.int k), .val (.long (2147483639 : Int64)), .second, .val (.long cl), .second, .val (.long bl), .second, .val (.long al), .second, .val (.int (al.toInt32)), .val (.int (bl.toInt32)), .val (.int (cl.toInt32)), .val (.int ((bl * cl).toInt32)), .val (.ref b1), .val (.ref b2), .val (.ref b5), .val (.ref b12), .val (.ref r23), .val (.ref r29), .val (.ref r35), .val (.ref r42), .val (.int (1 : Int32)), .val (.int (1 : Int32)), .val (.int (1 : Int32)), .unset, .unset] [(.ref r42)]))
  refine Go.st (fun _ kt => XS.iconst X42.here hx rfl (hb hby at_240) kt) ?_
  show Go p e below _ (T42.setTop (mkF m 241 #[.val (.int i), .val (.int j), .val (.int k), .val (.long (2147483639 : Int64)), .second, .val (.long cl), .second, .val (.long bl), .second, .val (.long al), .second, .val (.int (al.toInt32)), .val (.int (bl.toInt32)), .val (.int (cl.toInt32)), .val (.int ((bl * cl).toInt32)), .val (.ref b1), .val (.ref b2), .val (.ref b5), .val (.ref b12), .val (.ref r23), .val (.ref r29), .val (.ref r35), .val (.ref r42), .val (.int (1 : Int32)), .val (.int (1 : Int32)), .val (.int (1 : Int32)), .unset, .unset] [(.int (2 : Int32)), (.ref r42)]))
  obtain ⟨cl61, Ar61, -, S61, N61', H61, G61⟩ := id G42_0
  have hin61 := inb_of S61 (j := (2 : Int32)) ⟨by decide, by decide⟩
  have hat61 := Has.at H61 hin61 (v := (.int (1 : Int32))) rfl
  refine Go.st (fun _ kt => X42.iaload hx (j := (2 : Int32)) (v := (.int (1 : Int32))) Ar61.1 (State.isArrayOf_alike hZ.alike Ar61.2.1) Ar61.2.2 hin61 hat61 (g := (mkF m 241 #[.val (.int i), .val (.int j), .val (.int k), .val (.long (2147483639 : Int64)), .second, .val (.long cl), .second, .val (.long bl), .second, .val (.long al), .second, .val (.int (al.toInt32)), .val (.int (bl.toInt32)), .val (.int (cl.toInt32)), .val (.int ((bl * cl).toInt32)), .val (.ref b1), .val (.ref b2), .val (.ref b5), .val (.ref b12), .val (.ref r23), .val (.ref r29), .val (.ref r35), .val (.ref r42), .val (.int (1 : Int32)), .val (.int (1 : Int32)), .val (.int (1 : Int32)), .unset, .unset] [(.int (2 : Int32)), (.ref r42)])) rfl rfl (hb hby at_241) _ kt) ?_
  show Go p e below _ (T42.setTop (mkF m 242 #[.val (.int i), .val (.int j), .val (.int k), .val (.long (2147483639 : Int64)), .second, .val (.long cl), .second, .val (.long bl), .second, .val (.long al), .second, .val (.int (al.toInt32)), .val (.int (bl.toInt32)), .val (.int (cl.toInt32)), .val (.int ((bl * cl).toInt32)), .val (.ref b1), .val (.ref b2), .val (.ref b5), .val (.ref b12), .val (.ref r23), .val (.ref r29), .val (.ref r35), .val (.ref r42), .val (.int (1 : Int32)), .val (.int (1 : Int32)), .val (.int (1 : Int32)), .unset, .unset] [(.int (1 : Int32))]))
  refine Go.st (fun _ kt => XS.iconst X42.here hx rfl (hb hby at_242) kt) ?_
  show Go p e below _ (T42.setTop (mkF m 243 #[.val (.int i), .val (.int j), .val (.int k), .val (.long (2147483639 : Int64)), .second, .val (.long cl), .second, .val (.long bl), .second, .val (.long al), .second, .val (.int (al.toInt32)), .val (.int (bl.toInt32)), .val (.int (cl.toInt32)), .val (.int ((bl * cl).toInt32)), .val (.ref b1), .val (.ref b2), .val (.ref b5), .val (.ref b12), .val (.ref r23), .val (.ref r29), .val (.ref r35), .val (.ref r42), .val (.int (1 : Int32)), .val (.int (1 : Int32)), .val (.int (1 : Int32)), .unset, .unset] [(.int (1 : Int32)), (.int (1 : Int32))]))
  refine Go.st (fun _ kt => XS.icmpNo X42.here hx rfl (hb hby at_243) rfl (teq (by decide : (1 : Int32) = (1 : Int32))).2 kt) ?_
  show Go p e below _ (T42.setTop (mkF m 246 #[.val (.int i), .val (.int j), .val (.int k), .val (.long (2147483639 : Int64)), .second, .val (.long cl), .second, .val (.long bl), .second, .val (.long al), .second, .val (.int (al.toInt32)), .val (.int (bl.toInt32)), .val (.int (cl.toInt32)), .val (.int ((bl * cl).toInt32)), .val (.ref b1), .val (.ref b2), .val (.ref b5), .val (.ref b12), .val (.ref r23), .val (.ref r29), .val (.ref r35), .val (.ref r42), .val (.int (1 : Int32)), .val (.int (1 : Int32)), .val (.int (1 : Int32)), .unset, .unset] []))
  refine Go.st (fun _ kt => XS.iconst X42.here hx rfl (hb hby at_246) kt) ?_
  show Go p e below _ (T42.setTop (mkF m 247 #[.val (.int i), .val (.int j), .val (.int k), .val (.long (2147483639 : Int64)), .second, .val (.long cl), .second, .val (.long bl), .second, .val (.long al), .second, .val (.int (al.toInt32)), .val (.int (bl.toInt32)), .val (.int (cl.toInt32)), .val (.int ((bl * cl).toInt32)), .val (.ref b1), .val (.ref b2), .val (.ref b5), .val (.ref b12), .val (.ref r23), .val (.ref r29), .val (.ref r35), .val (.ref r42), .val (.int (1 : Int32)), .val (.int (1 : Int32)), .val (.int (1 : Int32)), .unset, .unset] [(.int (1 : Int32))]))
  refine Go.st (fun _ kt => XS.goto X42.here hx rfl (pc0 := 247) (pc' := 251) rfl (hb hby at_247) (by decide) (by decide) kt) ?_
  show Go p e below _ (T42.setTop (mkF m 251 #[.val (.int i), .val (.int j), .val (.int k), .val (.long (2147483639 : Int64)), .second, .val (.long cl), .second, .val (.long bl), .second, .val (.long al), .second, .val (.int (al.toInt32)), .val (.int (bl.toInt32)), .val (.int (cl.toInt32)), .val (.int ((bl * cl).toInt32)), .val (.ref b1), .val (.ref b2), .val (.ref b5), .val (.ref b12), .val (.ref r23), .val (.ref r29), .val (.ref r35), .val (.ref r42), .val (.int (1 : Int32)), .val (.int (1 : Int32)), .val (.int (1 : Int32)), .unset, .unset] [(.int (1 : Int32))]))
  refine Go.st (fun _ kt => XS.istore X42.here hx rfl (hb hby at_251) rfl (l' := #[.val (.int i), .val (.int j), .val (.int k), .val (.long (2147483639 : Int64)), .second, .val (.long cl), .second, .val (.long bl), .second, .val (.long al), .second, .val (.int (al.toInt32)), .val (.int (bl.toInt32)), .val (.int (cl.toInt32)), .val (.int ((bl * cl).toInt32)), .val (.ref b1), .val (.ref b2), .val (.ref b5), .val (.ref b12), .val (.ref r23), .val (.ref r29), .val (.ref r35), .val (.ref r42), .val (.int (1 : Int32)), .val (.int (1 : Int32)), .val (.int (1 : Int32)), .val (.int (1 : Int32)), .unset]) rfl kt) ?_
  show Go p e below _ (T42.setTop (mkF m 253 #[.val (.int i), .val (.int j), .val (.int k), .val (.long (2147483639 : Int64)), .second, .val (.long cl), .second, .val (.long bl), .second, .val (.long al), .second, .val (.int (al.toInt32)), .val (.int (bl.toInt32)), .val (.int (cl.toInt32)), .val (.int ((bl * cl).toInt32)), .val (.ref b1), .val (.ref b2), .val (.ref b5), .val (.ref b12), .val (.ref r23), .val (.ref r29), .val (.ref r35), .val (.ref r42), .val (.int (1 : Int32)), .val (.int (1 : Int32)), .val (.int (1 : Int32)), .val (.int (1 : Int32)), .unset] []))
  refine Go.st (fun _ kt => XS.aload X42.here hx rfl (hb hby at_253) rfl rfl kt) ?_
  show Go p e below _ (T42.setTop (mkF m 255 #[.val (.int i), .val (.int j), .val (.int k), .val (.long (2147483639 : Int64)), .second, .val (.long cl), .second, .val (.long bl), .second, .val (.long al), .second, .val (.int (al.toInt32)), .val (.int (bl.toInt32)), .val (.int (cl.toInt32)), .val (.int ((bl * cl).toInt32)), .val (.ref b1), .val (.ref b2), .val (.ref b5), .val (.ref b12), .val (.ref r23), .val (.ref r29), .val (.ref r35), .val (.ref r42), .val (.int (1 : Int32)), .val (.int (1 : Int32)), .val (.int (1 : Int32)), .val (.int (1 : Int32)), .unset] [(.ref b2)]))
  refine Go.st (fun _ kt => XS.iconst X42.here hx rfl (hb hby at_255) kt) ?_
  show Go p e below _ (T42.setTop (mkF m 256 #[.val (.int i), .val (.int j), .val (.int k), .val (.long (2147483639 : Int64)), .second, .val (.long cl), .second, .val (.long bl), .second, .val (.long al), .second, .val (.int (al.toInt32)), .val (.int (bl.toInt32)), .val (.int (cl.toInt32)), .val (.int ((bl * cl).toInt32)), .val (.ref b1), .val (.ref b2), .val (.ref b5), .val (.ref b12), .val (.ref r23), .val (.ref r29), .val (.ref r35), .val (.ref r42), .val (.int (1 : Int32)), .val (.int (1 : Int32)), .val (.int (1 : Int32)), .val (.int (1 : Int32)), .unset] [(.int (0 : Int32)), (.ref b2)]))
  have f62 := (((f28.keep K29q nin0).keep K35q nin0).keep K42q nin0)
  obtain ⟨cl63, Ar63, -, S63, N63', H63, G63⟩ := id f62
  have hin63 := inb_of S63 (j := (0 : Int32)) ⟨by decide, by decide⟩
  have hat63 := Has.at H63 hin63 (v := (.int (cl.toInt32))) rfl
  refine Go.st (fun _ kt => X42.iaload hx (j := (0 : Int32)) (v := (.int (cl.toInt32))) Ar63.1 (State.isArrayOf_alike hZ.alike Ar63.2.1) Ar63.2.2 hin63 hat63 (g := (mkF m 256 #[.val (.int i), .val (.int j), .val (.int k), .val (.long (2147483639 : Int64)), .second, .val (.long cl), .second, .val (.long bl), .second, .val (.long al), .second, .val (.int (al.toInt32)), .val (.int (bl.toInt32)), .val (.int (cl.toInt32)), .val (.int ((bl * cl).toInt32)), .val (.ref b1), .val (.ref b2), .val (.ref b5), .val (.ref b12), .val (.ref r23), .val (.ref r29), .val (.ref r35), .val (.ref r42), .val (.int (1 : Int32)), .val (.int (1 : Int32)), .val (.int (1 : Int32)), .val (.int (1 : Int32)), .unset] [(.int (0 : Int32)), (.ref b2)])) rfl rfl (hb hby at_256) _ kt) ?_
  show Go p e below _ (T42.setTop (mkF m 257 #[.val (.int i), .val (.int j), .val (.int k), .val (.long (2147483639 : Int64)), .second, .val (.long cl), .second, .val (.long bl), .second, .val (.long al), .second, .val (.int (al.toInt32)), .val (.int (bl.toInt32)), .val (.int (cl.toInt32)), .val (.int ((bl * cl).toInt32)), .val (.ref b1), .val (.ref b2), .val (.ref b5), .val (.ref b12), .val (.ref r23), .val (.ref r29), .val (.ref r35), .val (.ref r42), .val (.int (1 : Int32)), .val (.int (1 : Int32)), .val (.int (1 : Int32)), .val (.int (1 : Int32)), .unset] [(.int (cl.toInt32))]))
  refine Go.st (fun _ kt => XS.iload X42.here hx rfl (hb hby at_257) rfl kt) ?_
  show Go p e below _ (T42.setTop (mkF m 259 #[.val (.int i), .val (.int j), .val (.int k), .val (.long (2147483639 : Int64)), .second, .val (.long cl), .second, .val (.long bl), .second, .val (.long al), .second, .val (.int (al.toInt32)), .val (.int (bl.toInt32)), .val (.int (cl.toInt32)), .val (.int ((bl * cl).toInt32)), .val (.ref b1), .val (.ref b2), .val (.ref b5), .val (.ref b12), .val (.ref r23), .val (.ref r29), .val (.ref r35), .val (.ref r42), .val (.int (1 : Int32)), .val (.int (1 : Int32)), .val (.int (1 : Int32)), .val (.int (1 : Int32)), .unset] [(.int (cl.toInt32)), (.int (cl.toInt32))]))
  refine Go.st (fun _ kt => XS.icmpNo X42.here hx rfl (hb hby at_259) rfl (teq (rfl : (cl.toInt32) = (cl.toInt32))).2 kt) ?_
  show Go p e below _ (T42.setTop (mkF m 262 #[.val (.int i), .val (.int j), .val (.int k), .val (.long (2147483639 : Int64)), .second, .val (.long cl), .second, .val (.long bl), .second, .val (.long al), .second, .val (.int (al.toInt32)), .val (.int (bl.toInt32)), .val (.int (cl.toInt32)), .val (.int ((bl * cl).toInt32)), .val (.ref b1), .val (.ref b2), .val (.ref b5), .val (.ref b12), .val (.ref r23), .val (.ref r29), .val (.ref r35), .val (.ref r42), .val (.int (1 : Int32)), .val (.int (1 : Int32)), .val (.int (1 : Int32)), .val (.int (1 : Int32)), .unset] []))
  refine Go.st (fun _ kt => XS.aload X42.here hx rfl (hb hby at_262) rfl rfl kt) ?_
  show Go p e below _ (T42.setTop (mkF m 264 #[.val (.int i), .val (.int j), .val (.int k), .val (.long (2147483639 : Int64)), .second, .val (.long cl), .second, .val (.long bl), .second, .val (.long al), .second, .val (.int (al.toInt32)), .val (.int (bl.toInt32)), .val (.int (cl.toInt32)), .val (.int ((bl * cl).toInt32)), .val (.ref b1), .val (.ref b2), .val (.ref b5), .val (.ref b12), .val (.ref r23), .val (.ref r29), .val (.ref r35), .val (.ref r42), .val (.int (1 : Int32)), .val (.int (1 : Int32)), .val (.int (1 : Int32)), .val (.int (1 : Int32)), .unset] [(.ref b5)]))
  refine Go.st (fun _ kt => XS.iconst X42.here hx rfl (hb hby at_264) kt) ?_
  show Go p e below _ (T42.setTop (mkF m 265 #[.val (.int i), .val (.int j), .val (.int k), .val (.long (2147483639 : Int64)), .second, .val (.long cl), .second, .val (.long bl), .second, .val (.long al), .second, .val (.int (al.toInt32)), .val (.int (bl.toInt32)), .val (.int (cl.toInt32)), .val (.int ((bl * cl).toInt32)), .val (.ref b1), .val (.ref b2), .val (.ref b5), .val (.ref b12), .val (.ref r23), .val (.ref r29), .val (.ref r35), .val (.ref r42), .val (.int (1 : Int32)), .val (.int (1 : Int32)), .val (.int (1 : Int32)), .val (.int (1 : Int32)), .unset] [(.int (0 : Int32)), (.ref b5)]))
  have f64 := ((f34.keep K35q nin0).keep K42q nin0)
  obtain ⟨cl65, Ar65, -, S65, N65', H65, G65⟩ := id f64
  have hin65 := inb_of S65 (j := (0 : Int32)) ⟨by decide, by decide⟩
  have hat65 := Has.at H65 hin65 (v := (.int (bl.toInt32))) rfl
  refine Go.st (fun _ kt => X42.iaload hx (j := (0 : Int32)) (v := (.int (bl.toInt32))) Ar65.1 (State.isArrayOf_alike hZ.alike Ar65.2.1) Ar65.2.2 hin65 hat65 (g := (mkF m 265 #[.val (.int i), .val (.int j), .val (.int k), .val (.long (2147483639 : Int64)), .second, .val (.long cl), .second, .val (.long bl), .second, .val (.long al), .second, .val (.int (al.toInt32)), .val (.int (bl.toInt32)), .val (.int (cl.toInt32)), .val (.int ((bl * cl).toInt32)), .val (.ref b1), .val (.ref b2), .val (.ref b5), .val (.ref b12), .val (.ref r23), .val (.ref r29), .val (.ref r35), .val (.ref r42), .val (.int (1 : Int32)), .val (.int (1 : Int32)), .val (.int (1 : Int32)), .val (.int (1 : Int32)), .unset] [(.int (0 : Int32)), (.ref b5)])) rfl rfl (hb hby at_265) _ kt) ?_
  show Go p e below _ (T42.setTop (mkF m 266 #[.val (.int i), .val (.int j), .val (.int k), .val (.long (2147483639 : Int64)), .second, .val (.long cl), .second, .val (.long bl), .second, .val (.long al), .second, .val (.int (al.toInt32)), .val (.int (bl.toInt32)), .val (.int (cl.toInt32)), .val (.int ((bl * cl).toInt32)), .val (.ref b1), .val (.ref b2), .val (.ref b5), .val (.ref b12), .val (.ref r23), .val (.ref r29), .val (.ref r35), .val (.ref r42), .val (.int (1 : Int32)), .val (.int (1 : Int32)), .val (.int (1 : Int32)), .val (.int (1 : Int32)), .unset] [(.int (bl.toInt32))]))
  refine Go.st (fun _ kt => XS.iload X42.here hx rfl (hb hby at_266) rfl kt) ?_
  show Go p e below _ (T42.setTop (mkF m 268 #[.val (.int i), .val (.int j), .val (.int k), .val (.long (2147483639 : Int64)), .second, .val (.long cl), .second, .val (.long bl), .second, .val (.long al), .second, .val (.int (al.toInt32)), .val (.int (bl.toInt32)), .val (.int (cl.toInt32)), .val (.int ((bl * cl).toInt32)), .val (.ref b1), .val (.ref b2), .val (.ref b5), .val (.ref b12), .val (.ref r23), .val (.ref r29), .val (.ref r35), .val (.ref r42), .val (.int (1 : Int32)), .val (.int (1 : Int32)), .val (.int (1 : Int32)), .val (.int (1 : Int32)), .unset] [(.int (bl.toInt32)), (.int (bl.toInt32))]))
  refine Go.st (fun _ kt => XS.icmpNo X42.here hx rfl (hb hby at_268) rfl (teq (rfl : (bl.toInt32) = (bl.toInt32))).2 kt) ?_
  show Go p e below _ (T42.setTop (mkF m 271 #[.val (.int i), .val (.int j), .val (.int k), .val (.long (2147483639 : Int64)), .second, .val (.long cl), .second, .val (.long bl), .second, .val (.long al), .second, .val (.int (al.toInt32)), .val (.int (bl.toInt32)), .val (.int (cl.toInt32)), .val (.int ((bl * cl).toInt32)), .val (.ref b1), .val (.ref b2), .val (.ref b5), .val (.ref b12), .val (.ref r23), .val (.ref r29), .val (.ref r35), .val (.ref r42), .val (.int (1 : Int32)), .val (.int (1 : Int32)), .val (.int (1 : Int32)), .val (.int (1 : Int32)), .unset] []))
  refine Go.st (fun _ kt => XS.aload X42.here hx rfl (hb hby at_271) rfl rfl kt) ?_
  show Go p e below _ (T42.setTop (mkF m 273 #[.val (.int i), .val (.int j), .val (.int k), .val (.long (2147483639 : Int64)), .second, .val (.long cl), .second, .val (.long bl), .second, .val (.long al), .second, .val (.int (al.toInt32)), .val (.int (bl.toInt32)), .val (.int (cl.toInt32)), .val (.int ((bl * cl).toInt32)), .val (.ref b1), .val (.ref b2), .val (.ref b5), .val (.ref b12), .val (.ref r23), .val (.ref r29), .val (.ref r35), .val (.ref r42), .val (.int (1 : Int32)), .val (.int (1 : Int32)), .val (.int (1 : Int32)), .val (.int (1 : Int32)), .unset] [(.ref b5)]))
  refine Go.st (fun _ kt => XS.iconst X42.here hx rfl (hb hby at_273) kt) ?_
  show Go p e below _ (T42.setTop (mkF m 274 #[.val (.int i), .val (.int j), .val (.int k), .val (.long (2147483639 : Int64)), .second, .val (.long cl), .second, .val (.long bl), .second, .val (.long al), .second, .val (.int (al.toInt32)), .val (.int (bl.toInt32)), .val (.int (cl.toInt32)), .val (.int ((bl * cl).toInt32)), .val (.ref b1), .val (.ref b2), .val (.ref b5), .val (.ref b12), .val (.ref r23), .val (.ref r29), .val (.ref r35), .val (.ref r42), .val (.int (1 : Int32)), .val (.int (1 : Int32)), .val (.int (1 : Int32)), .val (.int (1 : Int32)), .unset] [(.int (1 : Int32)), (.ref b5)]))
  obtain ⟨cl66, Ar66, -, S66, N66', H66, G66⟩ := id f64
  have hin66 := inb_of S66 (j := (1 : Int32)) ⟨by decide, by decide⟩
  have hat66 := Has.at H66 hin66 (v := (.int (cl.toInt32))) rfl
  refine Go.st (fun _ kt => X42.iaload hx (j := (1 : Int32)) (v := (.int (cl.toInt32))) Ar66.1 (State.isArrayOf_alike hZ.alike Ar66.2.1) Ar66.2.2 hin66 hat66 (g := (mkF m 274 #[.val (.int i), .val (.int j), .val (.int k), .val (.long (2147483639 : Int64)), .second, .val (.long cl), .second, .val (.long bl), .second, .val (.long al), .second, .val (.int (al.toInt32)), .val (.int (bl.toInt32)), .val (.int (cl.toInt32)), .val (.int ((bl * cl).toInt32)), .val (.ref b1), .val (.ref b2), .val (.ref b5), .val (.ref b12), .val (.ref r23), .val (.ref r29), .val (.ref r35), .val (.ref r42), .val (.int (1 : Int32)), .val (.int (1 : Int32)), .val (.int (1 : Int32)), .val (.int (1 : Int32)), .unset] [(.int (1 : Int32)), (.ref b5)])) rfl rfl (hb hby at_274) _ kt) ?_
  show Go p e below _ (T42.setTop (mkF m 275 #[.val (.int i), .val (.int j), .val (.int k), .val (.long (2147483639 : Int64)), .second, .val (.long cl), .second, .val (.long bl), .second, .val (.long al), .second, .val (.int (al.toInt32)), .val (.int (bl.toInt32)), .val (.int (cl.toInt32)), .val (.int ((bl * cl).toInt32)), .val (.ref b1), .val (.ref b2), .val (.ref b5), .val (.ref b12), .val (.ref r23), .val (.ref r29), .val (.ref r35), .val (.ref r42), .val (.int (1 : Int32)), .val (.int (1 : Int32)), .val (.int (1 : Int32)), .val (.int (1 : Int32)), .unset] [(.int (cl.toInt32))]))
  refine Go.st (fun _ kt => XS.iload X42.here hx rfl (hb hby at_275) rfl kt) ?_
  show Go p e below _ (T42.setTop (mkF m 277 #[.val (.int i), .val (.int j), .val (.int k), .val (.long (2147483639 : Int64)), .second, .val (.long cl), .second, .val (.long bl), .second, .val (.long al), .second, .val (.int (al.toInt32)), .val (.int (bl.toInt32)), .val (.int (cl.toInt32)), .val (.int ((bl * cl).toInt32)), .val (.ref b1), .val (.ref b2), .val (.ref b5), .val (.ref b12), .val (.ref r23), .val (.ref r29), .val (.ref r35), .val (.ref r42), .val (.int (1 : Int32)), .val (.int (1 : Int32)), .val (.int (1 : Int32)), .val (.int (1 : Int32)), .unset] [(.int (cl.toInt32)), (.int (cl.toInt32))]))
  refine Go.st (fun _ kt => XS.icmpNo X42.here hx rfl (hb hby at_277) rfl (teq (rfl : (cl.toInt32) = (cl.toInt32))).2 kt) ?_
  show Go p e below _ (T42.setTop (mkF m 280 #[.val (.int i), .val (.int j), .val (.int k), .val (.long (2147483639 : Int64)), .second, .val (.long cl), .second, .val (.long bl), .second, .val (.long al), .second, .val (.int (al.toInt32)), .val (.int (bl.toInt32)), .val (.int (cl.toInt32)), .val (.int ((bl * cl).toInt32)), .val (.ref b1), .val (.ref b2), .val (.ref b5), .val (.ref b12), .val (.ref r23), .val (.ref r29), .val (.ref r35), .val (.ref r42), .val (.int (1 : Int32)), .val (.int (1 : Int32)), .val (.int (1 : Int32)), .val (.int (1 : Int32)), .unset] []))
  refine Go.st (fun _ kt => XS.aload X42.here hx rfl (hb hby at_280) rfl rfl kt) ?_
  show Go p e below _ (T42.setTop (mkF m 282 #[.val (.int i), .val (.int j), .val (.int k), .val (.long (2147483639 : Int64)), .second, .val (.long cl), .second, .val (.long bl), .second, .val (.long al), .second, .val (.int (al.toInt32)), .val (.int (bl.toInt32)), .val (.int (cl.toInt32)), .val (.int ((bl * cl).toInt32)), .val (.ref b1), .val (.ref b2), .val (.ref b5), .val (.ref b12), .val (.ref r23), .val (.ref r29), .val (.ref r35), .val (.ref r42), .val (.int (1 : Int32)), .val (.int (1 : Int32)), .val (.int (1 : Int32)), .val (.int (1 : Int32)), .unset] [(.ref b12)]))
  refine Go.st (fun _ kt => XS.iconst X42.here hx rfl (hb hby at_282) kt) ?_
  show Go p e below _ (T42.setTop (mkF m 283 #[.val (.int i), .val (.int j), .val (.int k), .val (.long (2147483639 : Int64)), .second, .val (.long cl), .second, .val (.long bl), .second, .val (.long al), .second, .val (.int (al.toInt32)), .val (.int (bl.toInt32)), .val (.int (cl.toInt32)), .val (.int ((bl * cl).toInt32)), .val (.ref b1), .val (.ref b2), .val (.ref b5), .val (.ref b12), .val (.ref r23), .val (.ref r29), .val (.ref r35), .val (.ref r42), .val (.int (1 : Int32)), .val (.int (1 : Int32)), .val (.int (1 : Int32)), .val (.int (1 : Int32)), .unset] [(.int (0 : Int32)), (.ref b12)]))
  have f67 := (f41.keep K42q nin0)
  obtain ⟨cl68, Ar68, -, S68, N68', H68, G68⟩ := id f67
  have hin68 := inb_of S68 (j := (0 : Int32)) ⟨by decide, by decide⟩
  have hat68 := Has.at H68 hin68 (v := (.int (al.toInt32))) rfl
  refine Go.st (fun _ kt => X42.iaload hx (j := (0 : Int32)) (v := (.int (al.toInt32))) Ar68.1 (State.isArrayOf_alike hZ.alike Ar68.2.1) Ar68.2.2 hin68 hat68 (g := (mkF m 283 #[.val (.int i), .val (.int j), .val (.int k), .val (.long (2147483639 : Int64)), .second, .val (.long cl), .second, .val (.long bl), .second, .val (.long al), .second, .val (.int (al.toInt32)), .val (.int (bl.toInt32)), .val (.int (cl.toInt32)), .val (.int ((bl * cl).toInt32)), .val (.ref b1), .val (.ref b2), .val (.ref b5), .val (.ref b12), .val (.ref r23), .val (.ref r29), .val (.ref r35), .val (.ref r42), .val (.int (1 : Int32)), .val (.int (1 : Int32)), .val (.int (1 : Int32)), .val (.int (1 : Int32)), .unset] [(.int (0 : Int32)), (.ref b12)])) rfl rfl (hb hby at_283) _ kt) ?_
  show Go p e below _ (T42.setTop (mkF m 284 #[.val (.int i), .val (.int j), .val (.int k), .val (.long (2147483639 : Int64)), .second, .val (.long cl), .second, .val (.long bl), .second, .val (.long al), .second, .val (.int (al.toInt32)), .val (.int (bl.toInt32)), .val (.int (cl.toInt32)), .val (.int ((bl * cl).toInt32)), .val (.ref b1), .val (.ref b2), .val (.ref b5), .val (.ref b12), .val (.ref r23), .val (.ref r29), .val (.ref r35), .val (.ref r42), .val (.int (1 : Int32)), .val (.int (1 : Int32)), .val (.int (1 : Int32)), .val (.int (1 : Int32)), .unset] [(.int (al.toInt32))]))
  refine Go.st (fun _ kt => XS.iload X42.here hx rfl (hb hby at_284) rfl kt) ?_
  show Go p e below _ (T42.setTop (mkF m 286 #[.val (.int i), .val (.int j), .val (.int k), .val (.long (2147483639 : Int64)), .second, .val (.long cl), .second, .val (.long bl), .second, .val (.long al), .second, .val (.int (al.toInt32)), .val (.int (bl.toInt32)), .val (.int (cl.toInt32)), .val (.int ((bl * cl).toInt32)), .val (.ref b1), .val (.ref b2), .val (.ref b5), .val (.ref b12), .val (.ref r23), .val (.ref r29), .val (.ref r35), .val (.ref r42), .val (.int (1 : Int32)), .val (.int (1 : Int32)), .val (.int (1 : Int32)), .val (.int (1 : Int32)), .unset] [(.int (al.toInt32)), (.int (al.toInt32))]))
  refine Go.st (fun _ kt => XS.icmpNo X42.here hx rfl (hb hby at_286) rfl (teq (rfl : (al.toInt32) = (al.toInt32))).2 kt) ?_
  show Go p e below _ (T42.setTop (mkF m 289 #[.val (.int i), .val (.int j), .val (.int k), .val (.long (2147483639 : Int64)), .second, .val (.long cl), .second, .val (.long bl), .second, .val (.long al), .second, .val (.int (al.toInt32)), .val (.int (bl.toInt32)), .val (.int (cl.toInt32)), .val (.int ((bl * cl).toInt32)), .val (.ref b1), .val (.ref b2), .val (.ref b5), .val (.ref b12), .val (.ref r23), .val (.ref r29), .val (.ref r35), .val (.ref r42), .val (.int (1 : Int32)), .val (.int (1 : Int32)), .val (.int (1 : Int32)), .val (.int (1 : Int32)), .unset] []))
  refine Go.st (fun _ kt => XS.aload X42.here hx rfl (hb hby at_289) rfl rfl kt) ?_
  show Go p e below _ (T42.setTop (mkF m 291 #[.val (.int i), .val (.int j), .val (.int k), .val (.long (2147483639 : Int64)), .second, .val (.long cl), .second, .val (.long bl), .second, .val (.long al), .second, .val (.int (al.toInt32)), .val (.int (bl.toInt32)), .val (.int (cl.toInt32)), .val (.int ((bl * cl).toInt32)), .val (.ref b1), .val (.ref b2), .val (.ref b5), .val (.ref b12), .val (.ref r23), .val (.ref r29), .val (.ref r35), .val (.ref r42), .val (.int (1 : Int32)), .val (.int (1 : Int32)), .val (.int (1 : Int32)), .val (.int (1 : Int32)), .unset] [(.ref b12)]))
  refine Go.st (fun _ kt => XS.iconst X42.here hx rfl (hb hby at_291) kt) ?_
  show Go p e below _ (T42.setTop (mkF m 292 #[.val (.int i), .val (.int j), .val (.int k), .val (.long (2147483639 : Int64)), .second, .val (.long cl), .second, .val (.long bl), .second, .val (.long al), .second, .val (.int (al.toInt32)), .val (.int (bl.toInt32)), .val (.int (cl.toInt32)), .val (.int ((bl * cl).toInt32)), .val (.ref b1), .val (.ref b2), .val (.ref b5), .val (.ref b12), .val (.ref r23), .val (.ref r29), .val (.ref r35), .val (.ref r42), .val (.int (1 : Int32)), .val (.int (1 : Int32)), .val (.int (1 : Int32)), .val (.int (1 : Int32)), .unset] [(.int (1 : Int32)), (.ref b12)]))
  obtain ⟨cl69, Ar69, -, S69, N69', H69, G69⟩ := id f67
  have hin69 := inb_of S69 (j := (1 : Int32)) ⟨by decide, by decide⟩
  have hat69 := Has.at H69 hin69 (v := (.int (bl.toInt32))) rfl
  refine Go.st (fun _ kt => X42.iaload hx (j := (1 : Int32)) (v := (.int (bl.toInt32))) Ar69.1 (State.isArrayOf_alike hZ.alike Ar69.2.1) Ar69.2.2 hin69 hat69 (g := (mkF m 292 #[.val (.int i), .val (.int j), .val (.int k), .val (.long (2147483639 : Int64)), .second, .val (.long cl), .second, .val (.long bl), .second, .val (.long al), .second, .val (.int (al.toInt32)), .val (.int (bl.toInt32)), .val (.int (cl.toInt32)), .val (.int ((bl * cl).toInt32)), .val (.ref b1), .val (.ref b2), .val (.ref b5), .val (.ref b12), .val (.ref r23), .val (.ref r29), .val (.ref r35), .val (.ref r42), .val (.int (1 : Int32)), .val (.int (1 : Int32)), .val (.int (1 : Int32)), .val (.int (1 : Int32)), .unset] [(.int (1 : Int32)), (.ref b12)])) rfl rfl (hb hby at_292) _ kt) ?_
  show Go p e below _ (T42.setTop (mkF m 293 #[.val (.int i), .val (.int j), .val (.int k), .val (.long (2147483639 : Int64)), .second, .val (.long cl), .second, .val (.long bl), .second, .val (.long al), .second, .val (.int (al.toInt32)), .val (.int (bl.toInt32)), .val (.int (cl.toInt32)), .val (.int ((bl * cl).toInt32)), .val (.ref b1), .val (.ref b2), .val (.ref b5), .val (.ref b12), .val (.ref r23), .val (.ref r29), .val (.ref r35), .val (.ref r42), .val (.int (1 : Int32)), .val (.int (1 : Int32)), .val (.int (1 : Int32)), .val (.int (1 : Int32)), .unset] [(.int (bl.toInt32))]))
  refine Go.st (fun _ kt => XS.iload X42.here hx rfl (hb hby at_293) rfl kt) ?_
  show Go p e below _ (T42.setTop (mkF m 295 #[.val (.int i), .val (.int j), .val (.int k), .val (.long (2147483639 : Int64)), .second, .val (.long cl), .second, .val (.long bl), .second, .val (.long al), .second, .val (.int (al.toInt32)), .val (.int (bl.toInt32)), .val (.int (cl.toInt32)), .val (.int ((bl * cl).toInt32)), .val (.ref b1), .val (.ref b2), .val (.ref b5), .val (.ref b12), .val (.ref r23), .val (.ref r29), .val (.ref r35), .val (.ref r42), .val (.int (1 : Int32)), .val (.int (1 : Int32)), .val (.int (1 : Int32)), .val (.int (1 : Int32)), .unset] [(.int (bl.toInt32)), (.int (bl.toInt32))]))
  refine Go.st (fun _ kt => XS.icmpNo X42.here hx rfl (hb hby at_295) rfl (teq (rfl : (bl.toInt32) = (bl.toInt32))).2 kt) ?_
  show Go p e below _ (T42.setTop (mkF m 298 #[.val (.int i), .val (.int j), .val (.int k), .val (.long (2147483639 : Int64)), .second, .val (.long cl), .second, .val (.long bl), .second, .val (.long al), .second, .val (.int (al.toInt32)), .val (.int (bl.toInt32)), .val (.int (cl.toInt32)), .val (.int ((bl * cl).toInt32)), .val (.ref b1), .val (.ref b2), .val (.ref b5), .val (.ref b12), .val (.ref r23), .val (.ref r29), .val (.ref r35), .val (.ref r42), .val (.int (1 : Int32)), .val (.int (1 : Int32)), .val (.int (1 : Int32)), .val (.int (1 : Int32)), .unset] []))
  refine Go.st (fun _ kt => XS.aload X42.here hx rfl (hb hby at_298) rfl rfl kt) ?_
  show Go p e below _ (T42.setTop (mkF m 300 #[.val (.int i), .val (.int j), .val (.int k), .val (.long (2147483639 : Int64)), .second, .val (.long cl), .second, .val (.long bl), .second, .val (.long al), .second, .val (.int (al.toInt32)), .val (.int (bl.toInt32)), .val (.int (cl.toInt32)), .val (.int ((bl * cl).toInt32)), .val (.ref b1), .val (.ref b2), .val (.ref b5), .val (.ref b12), .val (.ref r23), .val (.ref r29), .val (.ref r35), .val (.ref r42), .val (.int (1 : Int32)), .val (.int (1 : Int32)), .val (.int (1 : Int32)), .val (.int (1 : Int32)), .unset] [(.ref b12)]))
  refine Go.st (fun _ kt => XS.iconst X42.here hx rfl (hb hby at_300) kt) ?_
  show Go p e below _ (T42.setTop (mkF m 301 #[.val (.int i), .val (.int j), .val (.int k), .val (.long (2147483639 : Int64)), .second, .val (.long cl), .second, .val (.long bl), .second, .val (.long al), .second, .val (.int (al.toInt32)), .val (.int (bl.toInt32)), .val (.int (cl.toInt32)), .val (.int ((bl * cl).toInt32)), .val (.ref b1), .val (.ref b2), .val (.ref b5), .val (.ref b12), .val (.ref r23), .val (.ref r29), .val (.ref r35), .val (.ref r42), .val (.int (1 : Int32)), .val (.int (1 : Int32)), .val (.int (1 : Int32)), .val (.int (1 : Int32)), .unset] [(.int (2 : Int32)), (.ref b12)]))
  obtain ⟨cl70, Ar70, -, S70, N70', H70, G70⟩ := id f67
  have hin70 := inb_of S70 (j := (2 : Int32)) ⟨by decide, by decide⟩
  have hat70 := Has.at H70 hin70 (v := (.int (cl.toInt32))) rfl
  refine Go.st (fun _ kt => X42.iaload hx (j := (2 : Int32)) (v := (.int (cl.toInt32))) Ar70.1 (State.isArrayOf_alike hZ.alike Ar70.2.1) Ar70.2.2 hin70 hat70 (g := (mkF m 301 #[.val (.int i), .val (.int j), .val (.int k), .val (.long (2147483639 : Int64)), .second, .val (.long cl), .second, .val (.long bl), .second, .val (.long al), .second, .val (.int (al.toInt32)), .val (.int (bl.toInt32)), .val (.int (cl.toInt32)), .val (.int ((bl * cl).toInt32)), .val (.ref b1), .val (.ref b2), .val (.ref b5), .val (.ref b12), .val (.ref r23), .val (.ref r29), .val (.ref r35), .val (.ref r42), .val (.int (1 : Int32)), .val (.int (1 : Int32)), .val (.int (1 : Int32)), .val (.int (1 : Int32)), .unset] [(.int (2 : Int32)), (.ref b12)])) rfl rfl (hb hby at_301) _ kt) ?_
  show Go p e below _ (T42.setTop (mkF m 302 #[.val (.int i), .val (.int j), .val (.int k), .val (.long (2147483639 : Int64)), .second, .val (.long cl), .second, .val (.long bl), .second, .val (.long al), .second, .val (.int (al.toInt32)), .val (.int (bl.toInt32)), .val (.int (cl.toInt32)), .val (.int ((bl * cl).toInt32)), .val (.ref b1), .val (.ref b2), .val (.ref b5), .val (.ref b12), .val (.ref r23), .val (.ref r29), .val (.ref r35), .val (.ref r42), .val (.int (1 : Int32)), .val (.int (1 : Int32)), .val (.int (1 : Int32)), .val (.int (1 : Int32)), .unset] [(.int (cl.toInt32))]))
  refine Go.st (fun _ kt => XS.iload X42.here hx rfl (hb hby at_302) rfl kt) ?_
  show Go p e below _ (T42.setTop (mkF m 304 #[.val (.int i), .val (.int j), .val (.int k), .val (.long (2147483639 : Int64)), .second, .val (.long cl), .second, .val (.long bl), .second, .val (.long al), .second, .val (.int (al.toInt32)), .val (.int (bl.toInt32)), .val (.int (cl.toInt32)), .val (.int ((bl * cl).toInt32)), .val (.ref b1), .val (.ref b2), .val (.ref b5), .val (.ref b12), .val (.ref r23), .val (.ref r29), .val (.ref r35), .val (.ref r42), .val (.int (1 : Int32)), .val (.int (1 : Int32)), .val (.int (1 : Int32)), .val (.int (1 : Int32)), .unset] [(.int (cl.toInt32)), (.int (cl.toInt32))]))
  refine Go.st (fun _ kt => XS.icmpNo X42.here hx rfl (hb hby at_304) rfl (teq (rfl : (cl.toInt32) = (cl.toInt32))).2 kt) ?_
  show Go p e below _ (T42.setTop (mkF m 307 #[.val (.int i), .val (.int j), .val (.int k), .val (.long (2147483639 : Int64)), .second, .val (.long cl), .second, .val (.long bl), .second, .val (.long al), .second, .val (.int (al.toInt32)), .val (.int (bl.toInt32)), .val (.int (cl.toInt32)), .val (.int ((bl * cl).toInt32)), .val (.ref b1), .val (.ref b2), .val (.ref b5), .val (.ref b12), .val (.ref r23), .val (.ref r29), .val (.ref r35), .val (.ref r42), .val (.int (1 : Int32)), .val (.int (1 : Int32)), .val (.int (1 : Int32)), .val (.int (1 : Int32)), .unset] []))
  refine Go.st (fun _ kt => XS.iconst X42.here hx rfl (hb hby at_307) kt) ?_
  show Go p e below _ (T42.setTop (mkF m 308 #[.val (.int i), .val (.int j), .val (.int k), .val (.long (2147483639 : Int64)), .second, .val (.long cl), .second, .val (.long bl), .second, .val (.long al), .second, .val (.int (al.toInt32)), .val (.int (bl.toInt32)), .val (.int (cl.toInt32)), .val (.int ((bl * cl).toInt32)), .val (.ref b1), .val (.ref b2), .val (.ref b5), .val (.ref b12), .val (.ref r23), .val (.ref r29), .val (.ref r35), .val (.ref r42), .val (.int (1 : Int32)), .val (.int (1 : Int32)), .val (.int (1 : Int32)), .val (.int (1 : Int32)), .unset] [(.int (1 : Int32))]))
  refine Go.st (fun _ kt => XS.goto X42.here hx rfl (pc0 := 308) (pc' := 312) rfl (hb hby at_308) (by decide) (by decide) kt) ?_
  show Go p e below _ (T42.setTop (mkF m 312 #[.val (.int i), .val (.int j), .val (.int k), .val (.long (2147483639 : Int64)), .second, .val (.long cl), .second, .val (.long bl), .second, .val (.long al), .second, .val (.int (al.toInt32)), .val (.int (bl.toInt32)), .val (.int (cl.toInt32)), .val (.int ((bl * cl).toInt32)), .val (.ref b1), .val (.ref b2), .val (.ref b5), .val (.ref b12), .val (.ref r23), .val (.ref r29), .val (.ref r35), .val (.ref r42), .val (.int (1 : Int32)), .val (.int (1 : Int32)), .val (.int (1 : Int32)), .val (.int (1 : Int32)), .unset] [(.int (1 : Int32))]))
  refine Go.st (fun _ kt => XS.istore X42.here hx rfl (hb hby at_312) rfl (l' := #[.val (.int i), .val (.int j), .val (.int k), .val (.long (2147483639 : Int64)), .second, .val (.long cl), .second, .val (.long bl), .second, .val (.long al), .second, .val (.int (al.toInt32)), .val (.int (bl.toInt32)), .val (.int (cl.toInt32)), .val (.int ((bl * cl).toInt32)), .val (.ref b1), .val (.ref b2), .val (.ref b5), .val (.ref b12), .val (.ref r23), .val (.ref r29), .val (.ref r35), .val (.ref r42), .val (.int (1 : Int32)), .val (.int (1 : Int32)), .val (.int (1 : Int32)), .val (.int (1 : Int32)), .val (.int (1 : Int32))]) rfl kt) ?_
  show Go p e below _ (T42.setTop (mkF m 314 #[.val (.int i), .val (.int j), .val (.int k), .val (.long (2147483639 : Int64)), .second, .val (.long cl), .second, .val (.long bl), .second, .val (.long al), .second, .val (.int (al.toInt32)), .val (.int (bl.toInt32)), .val (.int (cl.toInt32)), .val (.int ((bl * cl).toInt32)), .val (.ref b1), .val (.ref b2), .val (.ref b5), .val (.ref b12), .val (.ref r23), .val (.ref r29), .val (.ref r35), .val (.ref r42), .val (.int (1 : Int32)), .val (.int (1 : Int32)), .val (.int (1 : Int32)), .val (.int (1 : Int32)), .val (.int (1 : Int32))] []))
  refine Go.st (fun _ kt => XS.iload X42.here hx rfl (hb hby at_314) rfl kt) ?_
  show Go p e below _ (T42.setTop (mkF m 316 #[.val (.int i), .val (.int j), .val (.int k), .val (.long (2147483639 : Int64)), .second, .val (.long cl), .second, .val (.long bl), .second, .val (.long al), .second, .val (.int (al.toInt32)), .val (.int (bl.toInt32)), .val (.int (cl.toInt32)), .val (.int ((bl * cl).toInt32)), .val (.ref b1), .val (.ref b2), .val (.ref b5), .val (.ref b12), .val (.ref r23), .val (.ref r29), .val (.ref r35), .val (.ref r42), .val (.int (1 : Int32)), .val (.int (1 : Int32)), .val (.int (1 : Int32)), .val (.int (1 : Int32)), .val (.int (1 : Int32))] [(.int (1 : Int32))]))
  refine Go.st (fun _ kt => XS.ifNo X42.here hx rfl (hb hby at_316) rfl ((if0 _ _).trans (feq (by decide : ¬ ((1 : Int32) = (0 : Int32)))).1) kt) ?_
  show Go p e below _ (T42.setTop (mkF m 319 #[.val (.int i), .val (.int j), .val (.int k), .val (.long (2147483639 : Int64)), .second, .val (.long cl), .second, .val (.long bl), .second, .val (.long al), .second, .val (.int (al.toInt32)), .val (.int (bl.toInt32)), .val (.int (cl.toInt32)), .val (.int ((bl * cl).toInt32)), .val (.ref b1), .val (.ref b2), .val (.ref b5), .val (.ref b12), .val (.ref r23), .val (.ref r29), .val (.ref r35), .val (.ref r42), .val (.int (1 : Int32)), .val (.int (1 : Int32)), .val (.int (1 : Int32)), .val (.int (1 : Int32)), .val (.int (1 : Int32))] []))
  refine Go.st (fun _ kt => XS.iload X42.here hx rfl (hb hby at_319) rfl kt) ?_
  show Go p e below _ (T42.setTop (mkF m 321 #[.val (.int i), .val (.int j), .val (.int k), .val (.long (2147483639 : Int64)), .second, .val (.long cl), .second, .val (.long bl), .second, .val (.long al), .second, .val (.int (al.toInt32)), .val (.int (bl.toInt32)), .val (.int (cl.toInt32)), .val (.int ((bl * cl).toInt32)), .val (.ref b1), .val (.ref b2), .val (.ref b5), .val (.ref b12), .val (.ref r23), .val (.ref r29), .val (.ref r35), .val (.ref r42), .val (.int (1 : Int32)), .val (.int (1 : Int32)), .val (.int (1 : Int32)), .val (.int (1 : Int32)), .val (.int (1 : Int32))] [(.int (1 : Int32))]))
  refine Go.st (fun _ kt => XS.ifNo X42.here hx rfl (hb hby at_321) rfl ((if0 _ _).trans (feq (by decide : ¬ ((1 : Int32) = (0 : Int32)))).1) kt) ?_
  show Go p e below _ (T42.setTop (mkF m 324 #[.val (.int i), .val (.int j), .val (.int k), .val (.long (2147483639 : Int64)), .second, .val (.long cl), .second, .val (.long bl), .second, .val (.long al), .second, .val (.int (al.toInt32)), .val (.int (bl.toInt32)), .val (.int (cl.toInt32)), .val (.int ((bl * cl).toInt32)), .val (.ref b1), .val (.ref b2), .val (.ref b5), .val (.ref b12), .val (.ref r23), .val (.ref r29), .val (.ref r35), .val (.ref r42), .val (.int (1 : Int32)), .val (.int (1 : Int32)), .val (.int (1 : Int32)), .val (.int (1 : Int32)), .val (.int (1 : Int32))] []))
  refine Go.st (fun _ kt => XS.iload X42.here hx rfl (hb hby at_324) rfl kt) ?_
  show Go p e below _ (T42.setTop (mkF m 326 #[.val (.int i), .val (.int j), .val (.int k), .val (.long (2147483639 : Int64)), .second, .val (.long cl), .second, .val (.long bl), .second, .val (.long al), .second, .val (.int (al.toInt32)), .val (.int (bl.toInt32)), .val (.int (cl.toInt32)), .val (.int ((bl * cl).toInt32)), .val (.ref b1), .val (.ref b2), .val (.ref b5), .val (.ref b12), .val (.ref r23), .val (.ref r29), .val (.ref r35), .val (.ref r42), .val (.int (1 : Int32)), .val (.int (1 : Int32)), .val (.int (1 : Int32)), .val (.int (1 : Int32)), .val (.int (1 : Int32))] [(.int (1 : Int32))]))
  refine Go.st (fun _ kt => XS.ifNo X42.here hx rfl (hb hby at_326) rfl ((if0 _ _).trans (feq (by decide : ¬ ((1 : Int32) = (0 : Int32)))).1) kt) ?_
  show Go p e below _ (T42.setTop (mkF m 329 #[.val (.int i), .val (.int j), .val (.int k), .val (.long (2147483639 : Int64)), .second, .val (.long cl), .second, .val (.long bl), .second, .val (.long al), .second, .val (.int (al.toInt32)), .val (.int (bl.toInt32)), .val (.int (cl.toInt32)), .val (.int ((bl * cl).toInt32)), .val (.ref b1), .val (.ref b2), .val (.ref b5), .val (.ref b12), .val (.ref r23), .val (.ref r29), .val (.ref r35), .val (.ref r42), .val (.int (1 : Int32)), .val (.int (1 : Int32)), .val (.int (1 : Int32)), .val (.int (1 : Int32)), .val (.int (1 : Int32))] []))
  refine Go.st (fun _ kt => XS.iload X42.here hx rfl (hb hby at_329) rfl kt) ?_
  show Go p e below _ (T42.setTop (mkF m 331 #[.val (.int i), .val (.int j), .val (.int k), .val (.long (2147483639 : Int64)), .second, .val (.long cl), .second, .val (.long bl), .second, .val (.long al), .second, .val (.int (al.toInt32)), .val (.int (bl.toInt32)), .val (.int (cl.toInt32)), .val (.int ((bl * cl).toInt32)), .val (.ref b1), .val (.ref b2), .val (.ref b5), .val (.ref b12), .val (.ref r23), .val (.ref r29), .val (.ref r35), .val (.ref r42), .val (.int (1 : Int32)), .val (.int (1 : Int32)), .val (.int (1 : Int32)), .val (.int (1 : Int32)), .val (.int (1 : Int32))] [(.int (1 : Int32))]))
  refine Go.st (fun _ kt => XS.ifNo X42.here hx rfl (hb hby at_331) rfl ((if0 _ _).trans (feq (by decide : ¬ ((1 : Int32) = (0 : Int32)))).1) kt) ?_
  show Go p e below _ (T42.setTop (mkF m 334 #[.val (.int i), .val (.int j), .val (.int k), .val (.long (2147483639 : Int64)), .second, .val (.long cl), .second, .val (.long bl), .second, .val (.long al), .second, .val (.int (al.toInt32)), .val (.int (bl.toInt32)), .val (.int (cl.toInt32)), .val (.int ((bl * cl).toInt32)), .val (.ref b1), .val (.ref b2), .val (.ref b5), .val (.ref b12), .val (.ref r23), .val (.ref r29), .val (.ref r35), .val (.ref r42), .val (.int (1 : Int32)), .val (.int (1 : Int32)), .val (.int (1 : Int32)), .val (.int (1 : Int32)), .val (.int (1 : Int32))] []))
  refine Go.st (fun _ kt => XS.iload X42.here hx rfl (hb hby at_334) rfl kt) ?_
  show Go p e below _ (T42.setTop (mkF m 336 #[.val (.int i), .val (.int j), .val (.int k), .val (.long (2147483639 : Int64)), .second, .val (.long cl), .second, .val (.long bl), .second, .val (.long al), .second, .val (.int (al.toInt32)), .val (.int (bl.toInt32)), .val (.int (cl.toInt32)), .val (.int ((bl * cl).toInt32)), .val (.ref b1), .val (.ref b2), .val (.ref b5), .val (.ref b12), .val (.ref r23), .val (.ref r29), .val (.ref r35), .val (.ref r42), .val (.int (1 : Int32)), .val (.int (1 : Int32)), .val (.int (1 : Int32)), .val (.int (1 : Int32)), .val (.int (1 : Int32))] [(.int (1 : Int32))]))
  refine Go.st (fun _ kt => XS.ifNo X42.here hx rfl (hb hby at_336) rfl ((if0 _ _).trans (feq (by decide : ¬ ((1 : Int32) = (0 : Int32)))).1) kt) ?_
  show Go p e below _ (T42.setTop (mkF m 339 #[.val (.int i), .val (.int j), .val (.int k), .val (.long (2147483639 : Int64)), .second, .val (.long cl), .second, .val (.long bl), .second, .val (.long al), .second, .val (.int (al.toInt32)), .val (.int (bl.toInt32)), .val (.int (cl.toInt32)), .val (.int ((bl * cl).toInt32)), .val (.ref b1), .val (.ref b2), .val (.ref b5), .val (.ref b12), .val (.ref r23), .val (.ref r29), .val (.ref r35), .val (.ref r42), .val (.int (1 : Int32)), .val (.int (1 : Int32)), .val (.int (1 : Int32)), .val (.int (1 : Int32)), .val (.int (1 : Int32))] []))
  refine Go.st (fun _ kt => XS.iconst X42.here hx rfl (hb hby at_339) kt) ?_
  show Go p e below _ (T42.setTop (mkF m 340 #[.val (.int i), .val (.int j), .val (.int k), .val (.long (2147483639 : Int64)), .second, .val (.long cl), .second, .val (.long bl), .second, .val (.long al), .second, .val (.int (al.toInt32)), .val (.int (bl.toInt32)), .val (.int (cl.toInt32)), .val (.int ((bl * cl).toInt32)), .val (.ref b1), .val (.ref b2), .val (.ref b5), .val (.ref b12), .val (.ref r23), .val (.ref r29), .val (.ref r35), .val (.ref r42), .val (.int (1 : Int32)), .val (.int (1 : Int32)), .val (.int (1 : Int32)), .val (.int (1 : Int32)), .val (.int (1 : Int32))] [(.int (1 : Int32))]))
  refine Go.st (fun _ kt => XS.goto X42.here hx rfl (pc0 := 340) (pc' := 344) rfl (hb hby at_340) (by decide) (by decide) kt) ?_
  show Go p e below _ (T42.setTop (mkF m 344 #[.val (.int i), .val (.int j), .val (.int k), .val (.long (2147483639 : Int64)), .second, .val (.long cl), .second, .val (.long bl), .second, .val (.long al), .second, .val (.int (al.toInt32)), .val (.int (bl.toInt32)), .val (.int (cl.toInt32)), .val (.int ((bl * cl).toInt32)), .val (.ref b1), .val (.ref b2), .val (.ref b5), .val (.ref b12), .val (.ref r23), .val (.ref r29), .val (.ref r35), .val (.ref r42), .val (.int (1 : Int32)), .val (.int (1 : Int32)), .val (.int (1 : Int32)), .val (.int (1 : Int32)), .val (.int (1 : Int32))] [(.int (1 : Int32))]))
  refine Go.retN X42 hx (t := .boolean) Bd.returns (by simp) (BodyLoose.notSynchronized Bd) (hb hby at_344) (Q := (Q_rm0 Z i j k h0 n0)) (by decide) (by decide) ?_
  show (Q_rm0 Z i j k h0 n0) _ T42.heap _
  exact ⟨rfl, N42⟩
set_option maxRecDepth 65536 in
set_option maxHeartbeats 40000000 in
theorem comes_1 {Post : Tables → Env → Array Value → State → Outcome → State → Prop} (hpost : ∀ tb e args s v u, (limb_1_1.after args s (.returned v) u = true ∧ limb_1_2.after args s (.returned v) u = true ∧ True) → FrameEnd s (.returned v) u (Jvm.fieldLocs frame_1_writes args s ++ Jvm.arrayLocs frame_1_arrays args s ++ Jvm.staticLocs frame_1_statics s) 24 128 → Post tb e args s (.returned v) u) :
    ArmFor flags0 classFile x code maxLocals ret World_1 tables_1 room_1 Calls_1 rest_1 Pre_1 Post := by
  intro l hfl _ _ p e ha hc hk s m args below hf hA hF happ hP
  obtain ⟨hcalls, hrest, hpre⟩ := hP
  obtain ⟨-, -, -, hnamed, -, -, -, hat⟩ := (Spec.applies_iff hf).mp happ
  obtain ⟨hg, hn⟩ := and_e (Cond.before_iff.mp (show (Jvm.Cond.and given_1 narrow_1).before args s = true from hpre))
  obtain ⟨g1, g2⟩ := and_e hg
  obtain ⟨g3, g4⟩ := and_e g2
  obtain ⟨g5, g6⟩ := and_e g4
  obtain ⟨w0, w1, w2, rfl⟩ : ∃ w0 w1 w2 : Value, args = #[w0, w1, w2] := by
    have hs : args.size = 3 := by simpa [Cond.value, given_1] using g1
    obtain ⟨L⟩ := args
    match L, hs with
    | [w0, w1, w2], _ => exact ⟨w0, w1, w2, rfl⟩
  have hw := fun d (hd : d ∈ tables_1) => atoms_spec (ws := Jvm.Cond.code x code maxLocals ret :: tables_1) hat d (List.mem_cons_of_mem _ hd)
  have hfit : Fit s := fun {y c} hc i hi => by
    obtain ⟨ha, rfl⟩ := Array.getElem?_eq_some_iff.mp hc
    have q := List.all_eq_true.mp ((Array.all_eq_true_iff_forall_mem.mp hF) _ (Array.getElem_mem ha)) i (List.mem_range.mpr hi)
    simpa [Array.getElem?_eq_getElem hi] using q
  obtain ⟨i0, ei0⟩ := is_v g3
  obtain rfl : w0 = (.int i0) := Option.some.inj ei0
  obtain ⟨i1, ei1⟩ := is_v g5
  obtain rfl : w1 = (.int i1) := Option.some.inj ei1
  obtain ⟨i2, ei2⟩ := is_v g6
  obtain rfl : w2 = (.int i2) := Option.some.inj ei2
  obtain ⟨n, o, h1, h2, h3, _, L, rfl, ⟨rfl, N⟩, hq⟩ := rm0 l s _ hw tables_1 i0 i1 i2 s.heap s.heap.size (Nat.le_refl _) p e ha hc hk s m _ below hf ((Spec.applies_iff_loose hf).mp happ).1 ⟨rfl, State.Warmed39.refl s, rfl⟩ trivial
  refine ⟨n, _, h1, h2, h3, hpost _ _ _ _ _ _ ⟨Cond.after_iff.mpr rfl, Cond.after_iff.mpr (eq_i res_at (Term.int_eval (1)) rfl), trivial⟩ ⟨hq.1, hq.2.1, (hq.2.2.sift fun y hy => Or.inr (N y hy)).mono (by decide) (by decide)⟩⟩
theorem main_1_1 : Claimed_1_1 := comes_1 fun _ _ _ _ _ _ h hF => ⟨h.1, hF⟩
theorem main_1_2 : Claimed_1_2 := comes_1 fun _ _ _ _ _ _ h hF => ⟨h.2.1, hF⟩
end Jvm.Pilot.@@N@@
namespace Jvm.Pilot.@@N@@
open Jvm Jvm.ClassFile Sem Op Lib Jvm.Free Jvm.Stand Jvm.Pilot.@@N@@.Jvm.D
/-! MADE BY PROGRAM (witnessworld.py) out of the Statement's table words and the real class files: 9 classes; the members and pool entries that the words name. The judged class is class 1, her method 1. -/
namespace start1
open Jvm.ClassFile
def u (s : String) : CpInfo := .utf8 (stringToUtf16 s)
/-- a pool by its gaps: so many unusable entries, then the entry; so many at the end -/
def gap : Nat → List CpInfo → List CpInfo
  | 0, r => r
  | n + 1, r => .unusable :: gap n r
def poolList (es : List (Nat × CpInfo)) (last : Nat) : List CpInfo := es.foldr (fun e r => gap e.1 (e.2 :: r)) (gap last [])
def pool (es : List (Nat × CpInfo)) (last : Nat) : Array CpInfo := ⟨poolList es last⟩
def fileOf (pool : Array CpInfo) (this : Nat) (attrs : Array Attribute := #[]) (ms : Array MethodInfo := #[]) (fl : Nat := 33) (sup : Nat := 0) (ifs : Array Nat := #[]) (fds : Array FieldInfo := #[]) : ClassFile where
  minorVersion := 0
  majorVersion := 65
  constantPool := pool
  accessFlags := fl
  thisClass := this
  superClass := sup
  interfaces := ifs
  fields := fds
  methods := ms
  attributes := attrs
def plain (name : String) (sup : Option ClassId) : Class where
  name := name
  kind := .ordinary
  loader := none
  accessFlags := 33
  super := sup
  interfaces := #[]
  cf := none
  fields := #[]
  methods := #[]
  instanceTypes := #[]
  staticTypes := #[]
  resolved := #[]
  callSites := []
  init := .initialized
  statics := none
  mirror := none

def pool0 : Array CpInfo := pool [(5, u "<init>"), (0, u "()V"), (1, .class_ 10), (1, u "java/lang/Object")] 113

def k0m0 : Method := { name := "<init>", desc := "()V", sig := { parameters := [], returnType := none }, accessFlags := 1, code := none }
/-- java/lang/Object -/
def k0 : Class := { plain "java/lang/Object" none with
  accessFlags := 33
  interfaces := #[]
  cf := some (fileOf pool0 8 #[] #[{ accessFlags := 1, nameIndex := 5, descriptorIndex := 6, attributes := #[] }] 33 0 #[] #[])
  fields := #[]
  methods := #[k0m0]
  instanceTypes := #[]
  staticTypes := #[]
  resolved := Array.replicate 124 none
  statics := none }

def pool1 : Array CpInfo := pool [(2, .class_ 4), (1, u "java/lang/Object"), (0, u "<init>"), (0, u "()V"), (0, .long 2147483639), (1, .integer 2147483647), (0, .methodref 11 12), (0, .class_ 13), (0, .nameAndType 14 15), (0, u "com/example/tributary/tributary/model/CostTable"), (0, u "strides"), (0, u "([I)[I"), (0, .class_ 17), (0, u "com/example/tributary/tributary/model/CostTableStridesPinLaw"), (2, u "law"), (0, u "(III)Z")] 5

def k1m0 : Method := { name := "<init>", desc := "()V", sig := { parameters := [], returnType := none }, accessFlags := 1, code := none }
def k1c1 : Code := { maxStack := 8, maxLocals := 28, code := code, exceptionTable := #[], attributes := #[] }
def k1m1 : Method := { name := "law", desc := "(III)Z", sig := { parameters := [.int, .int, .int], returnType := some .boolean }, accessFlags := 9, code := some k1c1 }
/-- com/example/tributary/tributary/model/CostTableStridesPinLaw -/
def k1 : Class := { plain "com/example/tributary/tributary/model/CostTableStridesPinLaw" (some 0) with
  accessFlags := 49
  interfaces := #[]
  cf := some (fileOf pool1 16 #[] #[{ accessFlags := 1, nameIndex := 5, descriptorIndex := 6, attributes := #[] }, { accessFlags := 9, nameIndex := 20, descriptorIndex := 21, attributes := #[] }] 49 2 #[] #[])
  fields := #[]
  methods := #[k1m0, k1m1]
  instanceTypes := #[]
  staticTypes := #[]
  resolved := Array.replicate 27 none
  statics := none }

def pool2 : Array CpInfo := pool [(4, .class_ 6), (1, u "java/lang/Object"), (21, .class_ 30), (1, u "com/example/tributary/tributary/model/CostTable"), (8, u "[I"), (4, u "variables"), (2, u "sizes"), (2, u "strides"), (0, u "([I)[I"), (4, u "costs"), (0, u "[D"), (24, u "MAX_ENTRIES"), (0, u "J")] 40

def k2c0 : Code := { maxStack := 3, maxLocals := 4, code := prog_87_method_2_code, exceptionTable := #[], attributes := #[] }
def k2m0 : Method := { name := "strides", desc := "([I)[I", sig := { parameters := [(.array .int)], returnType := some (.array .int) }, accessFlags := 9, code := some k2c0 }
/-- com/example/tributary/tributary/model/CostTable -/
def k2 : Class := { plain "com/example/tributary/tributary/model/CostTable" (some 0) with
  accessFlags := 49
  interfaces := #[]
  cf := some (fileOf pool2 28 #[] #[{ accessFlags := 9, nameIndex := 50, descriptorIndex := 51, attributes := #[] }] 49 4 #[] #[{ accessFlags := 25, nameIndex := 82, descriptorIndex := 83, attributes := #[] }, { accessFlags := 18, nameIndex := 44, descriptorIndex := 39, attributes := #[] }, { accessFlags := 18, nameIndex := 47, descriptorIndex := 39, attributes := #[] }, { accessFlags := 18, nameIndex := 50, descriptorIndex := 39, attributes := #[] }, { accessFlags := 18, nameIndex := 56, descriptorIndex := 57, attributes := #[] }])
  fields := #[{ name := "MAX_ENTRIES", type := .long, accessFlags := 25, slot := 0, constantValue := 0 }, { name := "variables", type := (.array .int), accessFlags := 18, slot := 0, constantValue := 0 }, { name := "sizes", type := (.array .int), accessFlags := 18, slot := 1, constantValue := 0 }, { name := "strides", type := (.array .int), accessFlags := 18, slot := 2, constantValue := 0 }, { name := "costs", type := (.array .double), accessFlags := 18, slot := 3, constantValue := 0 }]
  methods := #[k2m0]
  instanceTypes := #[(.array .int), (.array .int), (.array .int), (.array .double)]
  staticTypes := #[.long]
  resolved := Array.replicate 124 none
  statics := none }

def pool3 : Array CpInfo := pool [(1, u "java/lang/Cloneable"), (0, .class_ 1), (0, u "java/lang/Object"), (0, .class_ 3)] 3

/-- java/lang/Cloneable -/
def k3 : Class := { plain "java/lang/Cloneable" (some 0) with
  accessFlags := 1537
  interfaces := #[]
  cf := some (fileOf pool3 2 #[] #[] 1537 4 #[] #[])
  fields := #[]
  methods := #[]
  instanceTypes := #[]
  staticTypes := #[]
  resolved := Array.replicate 8 none
  statics := none }

def pool4 : Array CpInfo := pool [(1, u "java/io/Serializable"), (0, .class_ 1), (0, u "java/lang/Object"), (0, .class_ 3)] 3

/-- java/io/Serializable -/
def k4 : Class := { plain "java/io/Serializable" (some 0) with
  accessFlags := 1537
  interfaces := #[]
  cf := some (fileOf pool4 2 #[] #[] 1537 4 #[] #[])
  fields := #[]
  methods := #[]
  instanceTypes := #[]
  staticTypes := #[]
  resolved := Array.replicate 8 none
  statics := none }

/-- the primitive byte -/
def k5 : Class := { plain "byte" none with kind := .primitive 'B', accessFlags := 0x411 }
/-- [B -/
def k6 : Class := { plain "[B" (some 0) with kind := .array 5 .byte, interfaces := #[3, 4], accessFlags := 1041 }

/-- the primitive int -/
def k7 : Class := { plain "int" none with kind := .primitive 'I', accessFlags := 0x411 }
/-- [I -/
def k8 : Class := { plain "[I" (some 0) with kind := .array 7 .int, interfaces := #[3, 4], accessFlags := 1041 }

def heap : Heap := #[]
def classes : Array Class := #[k0, k1, k2, k3, k4, k5, k6, k7, k8]
def interned : List (Array UInt16 × Addr) := []
def slotsUsed : Nat := 0
def theMethod : MethodId := ⟨1, 1⟩
def args0 : Array Value := #[.int 5, .int 6, .int 7]
def aboutOver (below : List Frame) : State where
  vm := { classes := classes, interned := interned.toArray }
  heap := heap
  slotsUsed := slotsUsed
  threads := #[{ frames := .invoking theMethod args0 :: below }]
def below0 : List Frame := [.native { method := ⟨0, 0⟩, args := #[] }]
def about1 : State := aboutOver below0
def p0 : Program := .bare "" "" ""
def e0 : Env := launch0.env 0 0 0
theorem w_frames : about1.frames = Frame.invoking theMethod args0 :: below0 := rfl
set_option maxRecDepth 65536 in
theorem w_args : argsFit about1.vm theMethod args0 = true := by decide +kernel
set_option maxRecDepth 65536 in
theorem w_heap : heapFits about1 = true := by decide +kernel
set_option maxRecDepth 65536 in
theorem w_runnable : about1.curStatus? = some .runnable := by decide +kernel
set_option maxRecDepth 65536 in
theorem w_alone : about1.alone = true := by decide +kernel
set_option maxRecDepth 65536 in
theorem w_named : about1.methodNamed? x = some theMethod := by decide +kernel
set_option maxRecDepth 65536 in
theorem w_hears : about1.hears theMethod below0 = true := by decide +kernel
set_option maxRecDepth 65536 in
theorem w_ripe : about1.ripe theMethod args0 below0 = true := by decide +kernel
theorem w_running : about1.status = .running := rfl
set_option maxRecDepth 65536 in
theorem w_room : about1.hasRoom e0.platform room_1 = true :=
  launch0.hasRoom_least _ room_1 (by decide +kernel) (by decide +kernel) (by decide +kernel) (by decide +kernel) (by decide +kernel) (by decide +kernel)
theorem allAtoms_all (ts : List Jvm.Cond) (a : Array Jvm.Value) (st : Jvm.State) : (allAtoms ts).before a st = ts.all (fun c => c.before a st) := by
  induction ts with
  | nil => rfl
  | cons c t ih =>
    show (Jvm.Cond.and c (allAtoms t)).before a st = _
    rw [Jvm.Cond.before_and, ih, List.all_cons]
def words1 : List Jvm.Cond := Jvm.Cond.code x code maxLocals ret :: tables_1
/-- a 'code' word, met by the world's own term for the bytes: nothing is compared byte by byte -/
theorem code_word {y : MethodName} {bytes : ByteArray} {mx : Nat} {rt : Option FieldType} {a : Array Value} {s : State} {m : MethodId} {meth : Method} {c : Code} (h1 : s.methodNamed? y = some m) (h2 : s.vm.method? m = some meth) (h3 : meth.code = some c) (h4 : c.code = bytes)
    (h5 : (c.maxLocals == mx && c.exceptionTable.isEmpty && decide (c.maxStack ≤ mostOperands) && decide (meth.sig.returnType = rt) && !meth.locks && decide (parseMethodDescriptor y.desc = some meth.sig)) = true) : (Jvm.Cond.code y bytes mx rt).before a s = true := by
  simp only [Bool.and_eq_true, beq_iff_eq, Bool.not_eq_true', decide_eq_true_eq] at h5
  obtain ⟨⟨⟨⟨⟨g1, g2⟩, g3⟩, g4⟩, g5⟩, g6⟩ := h5
  simp [Cond.before, Cond.holds, Cond.value, h1, h2, h3, h4, g1, g2, g3, g4, g5, g6]
def isCode : Jvm.Cond → Bool
  | .code _ _ _ _ => true
  | _ => false
theorem all_split {L : List Jvm.Cond} {P : Jvm.Cond → Bool} (h1 : L.all (fun c => isCode c || P c) = true) (h2 : ∀ c ∈ L.filter isCode, P c = true) : L.all P = true := by
  refine List.all_eq_true.mpr fun c hc => ?_
  have h := List.all_eq_true.mp h1 c hc
  rcases Bool.eq_false_or_eq_true (isCode c) with hi | hi
  · exact h2 c (List.mem_filter.mpr ⟨hc, hi⟩)
  · simpa [hi] using h
set_option maxRecDepth 65536 in
theorem w_c0 : (Jvm.Cond.code x code maxLocals ret).before args0 about1 = true := code_word (m := ⟨1, 1⟩) (meth := k1m1) (c := k1c1) (by decide +kernel) rfl rfl rfl (by decide +kernel)
set_option maxRecDepth 65536 in
theorem w_c1 : (Jvm.Cond.code ({ cls := "com/example/tributary/tributary/model/CostTable", name := "strides", desc := "([I)[I" } : Jvm.MethodName) prog_87_method_2_code (4 : Nat) (Option.some (Jvm.ClassFile.FieldType.array Jvm.ClassFile.FieldType.int))).before args0 about1 = true := code_word (m := ⟨2, 0⟩) (meth := k2m0) (c := k2c0) (by decide +kernel) rfl rfl rfl (by decide +kernel)
def codes1 : List Jvm.Cond := [Jvm.Cond.code x code maxLocals ret, Jvm.Cond.code ({ cls := "com/example/tributary/tributary/model/CostTable", name := "strides", desc := "([I)[I" } : Jvm.MethodName) prog_87_method_2_code (4 : Nat) (Option.some (Jvm.ClassFile.FieldType.array Jvm.ClassFile.FieldType.int))]
set_option maxRecDepth 65536 in
theorem codes_eq : words1.filter isCode = codes1 := rfl
theorem w_codes : ∀ c ∈ words1.filter isCode, c.before args0 about1 = true := by
  rw [codes_eq]
  intro c hc
  simp only [codes1, List.mem_cons, List.not_mem_nil, or_false] at hc
  rcases hc with rfl | rfl
  · exact w_c0
  · exact w_c1
set_option maxRecDepth 65536 in
theorem w_t1 : words1.all (fun c => isCode c || c.before args0 about1) = true := by decide +kernel
theorem w_tables : (allAtoms (Jvm.Cond.code x code maxLocals ret :: tables_1)).before args0 about1 = true := by
  rw [allAtoms_all]
  show words1.all (fun c => c.before args0 about1) = true
  refine all_split ?_ w_codes
  rw [w_t1]
set_option maxRecDepth 65536 in
theorem w_case : (Jvm.Cond.and given_1 narrow_1).before args0 about1 = true := by decide +kernel
theorem w_applies : (headSpec (Jvm.Cond.code x code maxLocals ret :: tables_1) room_1).applies x e0.platform about1 = true :=
  (Spec.applies_iff w_frames).mpr ⟨w_running, w_runnable, w_alone, w_named, w_hears, w_ripe, w_room, w_tables⟩
theorem atStart : AtStart classFile x code maxLocals ret World_1 tables_1 room_1 Calls_1 rest_1 Pre_1 launch0 p0 e0 about1 theMethod args0 below0 :=
  ⟨lists_1, trivial, launch0.admits_env _ _ _, launch0.least_env, fairChoices_fair.cas, fairChoices_fair.clock, w_frames, w_args, w_heap, w_applies, trivial, trivial, w_case⟩
end start1
theorem witness_1 : WitnessClaimed_1 := ⟨start1.p0, start1.e0, start1.about1, start1.theMethod, start1.args0, start1.below0, start1.atStart⟩
end Jvm.Pilot.@@N@@
