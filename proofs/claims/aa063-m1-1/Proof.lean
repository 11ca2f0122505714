import JvmDerived
import JvmDerived.Pilot.@@N@@Statement
import JvmDerived.Pilot.@@N@@Code
set_option linter.unusedVariables false
set_option linter.unusedSimpArgs false
namespace Jvm.Pilot.@@N@@
open Jvm Jvm.ClassFile Sem Op Lib Jvm.Free Jvm.Stand Jvm.LawKit Jvm.RoadKit Bundle Jvm.Pilot.@@N@@.Jvm.D
section Own
variable {p : Program} {l : Launch} {e : Env} {R : Room} {s : State} {m : MethodId} {args : Array Value} {below : List Frame} {meth : Method} {c : Code} {T : State} {locs : List Loc} {cells slots : Nat} {G : State → Outcome → Prop}
def Go (p : Program) (e : Env) (below : List Frame) (G : State → Outcome → Prop) (st : State) : Prop := ∃ s₂ o, Steps p.tables e below st s₂ ∧ s₂.status = .running ∧ Ended s₂ below o ∧ G s₂ o
theorem Go.st {A B : State} (k : ∀ t, Steps p.tables e below B t → Steps p.tables e below A t) (h : Go p e below G B) : Go p e below G A := by
  obtain ⟨s₂, o, h1, h2⟩ := h
  exact ⟨s₂, o, k _ h1, h2⟩
theorem Go.tr {A B : State} (k : Steps p.tables e below A B) (h : Go p e below G B) : Go p e below G A := by
  obtain ⟨s₂, o, h1, h2⟩ := h
  exact ⟨s₂, o, k.trans h1, h2⟩
theorem Go.retW (X : Stand p l e R s m args below meth c T locs cells slots) (hx : p.tables.exec = Jvm.exec) {t : FieldType} (hret : meth.sig.returnType = some t) {w : Value} {i : Instr} (hn : narrow t w = w)
    (hi : (i = .ireturn ∧ (t = .int ∨ t = .boolean ∨ t = .byte ∨ t = .char ∨ t = .short) ∧ ∃ z, w = .int z) ∨ (i = .lreturn ∧ t = .long ∧ ∃ z, w = .long z) ∨ (i = .dreturn ∧ t = .double ∧ ∃ z, w = .double z) ∨ (i = .freturn ∧ t = .float ∧ ∃ z, w = .float z) ∨ (i = .areturn ∧ t.isReference = true ∧ w.isRef = true))
    (hlk : meth.locks = false) {pc : Nat} {Ls : Array Slot} {rest : List Value} (hd : decode c.code pc = .ok (i, 1)) {C S : Nat} {Q : Option Value → Heap → List Loc → Prop} (hC : cells ≤ C) (hS : slots ≤ S) (q : Q (some w) T.heap locs) :
    Go p e below (fun s₂ o => ∃ v L, o = .returned v ∧ Q v s₂.heap L ∧ FrameEnd s o s₂ L C S) (T.setTop (mkF m pc Ls (w :: rest))) := by
  obtain ⟨fs, hr, hrun, hended, hW, hsame⟩ := X.leave (v := some w) (fun h => by rw [hret] at h; cases h) hlk
  exact ⟨_, _, retOut X hx hret hn hi hd hr, hrun, hended, _, _, rfl, q, ⟨_, rfl⟩, hW, hsame.mono hC hS⟩
theorem Go.retN (X : Stand p l e R s m args below meth c T locs cells slots) (hx : p.tables.exec = Jvm.exec) {t : FieldType} (hret : meth.sig.returnType = some t) (ht : t = .boolean ∨ t = .byte ∨ t = .char ∨ t = .short) (hlk : meth.locks = false) {pc : Nat} {Ls : Array Slot} {z : Int32} {rest : List Value} (hd : decode c.code pc = .ok (.ireturn, 1))
    {C S : Nat} {Q : Option Value → Heap → List Loc → Prop} (hC : cells ≤ C) (hS : slots ≤ S) (q : Q (some (.int (nar t z))) T.heap locs) :
    Go p e below (fun s₂ o => ∃ v L, o = .returned v ∧ Q v s₂.heap L ∧ FrameEnd s o s₂ L C S) (T.setTop (mkF m pc Ls (.int z :: rest))) := by
  obtain ⟨fs, hr, hrun, hended, hW, hsame⟩ := X.leave (v := some (.int (nar t z))) (fun h => by rw [hret] at h; cases h) hlk
  exact ⟨_, _, Jvm.RoadKit.retN X hx hret ht hd hr, hrun, hended, _, _, rfl, q, ⟨_, rfl⟩, hW, hsame.mono hC hS⟩
theorem Go.retI (X : Stand p l e R s m args below meth c T locs cells slots) (hx : p.tables.exec = Jvm.exec) (hret : meth.sig.returnType = some .int) (hlk : meth.locks = false) {pc : Nat} {Ls : Array Slot} {z : Int32} {rest : List Value} (hd : decode c.code pc = .ok (.ireturn, 1))
    {C S : Nat} {Q : Option Value → Heap → List Loc → Prop} (hC : cells ≤ C) (hS : slots ≤ S) (q : Q (some (.int z)) T.heap locs) :
    Go p e below (fun s₂ o => ∃ v L, o = .returned v ∧ Q v s₂.heap L ∧ FrameEnd s o s₂ L C S) (T.setTop (mkF m pc Ls (.int z :: rest))) :=
  Go.retW X hx hret rfl (Or.inl ⟨rfl, Or.inl rfl, z, rfl⟩) hlk hd hC hS q
theorem Go.retL (X : Stand p l e R s m args below meth c T locs cells slots) (hx : p.tables.exec = Jvm.exec) (hret : meth.sig.returnType = some .long) (hlk : meth.locks = false) {pc : Nat} {Ls : Array Slot} {z : Int64} {rest : List Value} (hd : decode c.code pc = .ok (.lreturn, 1))
    {C S : Nat} {Q : Option Value → Heap → List Loc → Prop} (hC : cells ≤ C) (hS : slots ≤ S) (q : Q (some (.long z)) T.heap locs) :
    Go p e below (fun s₂ o => ∃ v L, o = .returned v ∧ Q v s₂.heap L ∧ FrameEnd s o s₂ L C S) (T.setTop (mkF m pc Ls (.long z :: rest))) :=
  Go.retW X hx hret rfl (Or.inr (Or.inl ⟨rfl, rfl, z, rfl⟩)) hlk hd hC hS q
theorem Go.retA (X : Stand p l e R s m args below meth c T locs cells slots) (hx : p.tables.exec = Jvm.exec) {t : FieldType} (hret : meth.sig.returnType = some t) {w : Value} (ht : t.isReference = true) (hw : w.isRef = true) (hlk : meth.locks = false) {pc : Nat} {Ls : Array Slot} {rest : List Value} (hd : decode c.code pc = .ok (.areturn, 1))
    {C S : Nat} {Q : Option Value → Heap → List Loc → Prop} (hC : cells ≤ C) (hS : slots ≤ S) (q : Q (some w) T.heap locs) :
    Go p e below (fun s₂ o => ∃ v L, o = .returned v ∧ Q v s₂.heap L ∧ FrameEnd s o s₂ L C S) (T.setTop (mkF m pc Ls (w :: rest))) :=
  Go.retW X hx hret (by rcases ref_cases hw with rfl | ⟨a, rfl⟩ <;> cases t <;> first | rfl | cases ht) (Or.inr (Or.inr (Or.inr (Or.inr ⟨rfl, ht, hw⟩)))) hlk hd hC hS q
theorem Go.retV (X : Stand p l e R s m args below meth c T locs cells slots) (hx : p.tables.exec = Jvm.exec) (hret : meth.sig.returnType = none) (hlk : meth.locks = false) {pc : Nat} {Ls : Array Slot} (hd : decode c.code pc = .ok (.return_, 1))
    {C S : Nat} {Q : Option Value → Heap → List Loc → Prop} (hC : cells ≤ C) (hS : slots ≤ S) (q : Q none T.heap locs) :
    Go p e below (fun s₂ o => ∃ v L, o = .returned v ∧ Q v s₂.heap L ∧ FrameEnd s o s₂ L C S) (T.setTop (mkF m pc Ls [])) := by
  obtain ⟨fs, hr, hrun, hended, hW, hsame⟩ := X.leave (v := none) (fun _ => rfl) hlk
  exact ⟨_, _, X.returnOut hx hret hd hr, hrun, hended, _, _, rfl, q, ⟨_, rfl⟩, hW, hsame.mono hC hS⟩
end Own
theorem own_self {Z s : State} {a0 args : Array Value} {y : MethodName} {n : Nat} (hZ : Z.Warmed39 s.vm) (wi : (Cond.instantiable y.cls n).before a0 Z = true) (wp : (Cond.privateMethod y).before a0 Z = true) (wm : (Cond.instanceMethod y).before a0 Z = true) (hy : y.cls ≠ "java/lang/invoke/MethodHandle" ∧ y.cls ≠ "java/lang/invoke/VarHandle") : (Cond.selects y.cls y y).before args s = true := by
  have wi' : (Cond.instantiable y.cls n).before args s = true := mv hZ wi
  obtain ⟨c, k, i1, i2, -, i4, -⟩ := Cond.instantiable_spec wi'
  simp only [Bool.or_eq_false_iff] at i4
  exact selects_self_of_private i1 i2 i4.1 (Cond.privateMethod_at (mvP hZ wp (args := #[]))) (mv hZ wm) hy
section OwnAV
variable {Z : State} {h h' : Heap} {a b : Addr} {ty : FieldType} {n : Int32} {ws : List Addr} {sl : Nat} {v d : Value} {k : ClassId} {vs : List Value}
def AV (Z : State) (h : Heap) (a : Addr) (ty : FieldType) (n : Int32) : Prop := ∃ c : Cell, Arr Z h a c ty ∧ c.slots.size = n.toNatClampNeg ∧ ¬ n < 0 ∧ ∀ (i : Nat) (v : Value), c.slots[i]? = some v → fits ty v = true
theorem AV.lt (F : AV Z h a ty n) : a < h.size := by obtain ⟨c, A, -⟩ := F; exact A.lt
theorem AV.ext (F : AV Z h a ty n) (E : Ext h h') : AV Z h' a ty n := by obtain ⟨c, A, r⟩ := F; exact ⟨c, A.ext E, r⟩
theorem AV.other (F : AV Z h a ty n) (W : Wr h h' b sl v) (q : a ≠ b) : AV Z h' a ty n := by obtain ⟨c, A, r⟩ := F; exact ⟨c, A.other W q, r⟩
theorem AV.keep (F : AV Z h a ty n) (K : Keep h h' ws) (q : a ∉ ws) : AV Z h' a ty n := by obtain ⟨c, A, r⟩ := F; exact ⟨c, ⟨K.2.1 a c A.1 q, A.2⟩, r⟩
theorem AV.of (F : Arv Z h a k ty n vs d) : AV Z h a ty n := by
  obtain ⟨c, A, -, S, q, H, G⟩ := F
  refine ⟨c, A, S, q, fun i w hw => ?_⟩
  have hi := (Array.getElem?_eq_some_iff.mp hw).1
  have := H i hi
  rw [hw] at this
  rw [Option.some.inj this]; exact G i hi
theorem AV.new (A : Arr Z h a (newA k ty n) ty) (q : ¬ n < 0) (fd : fits ty (defaultValue ty) = true) : AV Z h a ty n := by
  refine ⟨_, A, sz_new _ _ _, q, fun i w hw => ?_⟩
  simp only [newA, Array.getElem?_replicate] at hw
  split at hw
  · cases hw; exact fd
  · cases hw
theorem AV.set {c : Cell} (A : Arr Z h a c ty) (S : c.slots.size = n.toNatClampNeg) (q : ¬ n < 0) (G : ∀ (i : Nat) (v : Value), c.slots[i]? = some v → fits ty v = true) (hv : fits ty v = true) (W : Wr h h' a sl v) : AV Z h' a ty n := by
  refine ⟨_, A.same W, by rw [sz_set]; exact S, q, fun i w hw => ?_⟩
  by_cases e : sl = i
  · subst e
    have hi := (Array.getElem?_eq_some_iff.mp hw).1
    simp only [Cell.setSlot, Array.size_setIfInBounds] at hi
    simp [Cell.setSlot, hi] at hw
    subst hw; exact hv
  · simp only [Cell.setSlot] at hw
    rw [Array.getElem?_setIfInBounds_ne e] at hw
    exact G i w hw
theorem AV.arv (F : AV Z h a ty n) (d : Value) : ∃ k vs, Arv Z h a k ty n vs d ∧ vs.length = n.toNatClampNeg := by
  obtain ⟨c, A, S, q, G⟩ := F
  refine ⟨c.cls, c.slots.toList, ⟨c, A, rfl, S, q, fun i hi => ?_, fun i hi => ?_⟩, by simpa using S⟩
  · simp [List.getD_eq_getElem?_getD, hi]
  · refine G i _ ?_
    simp [List.getD_eq_getElem?_getD, hi]
end OwnAV
open Jvm.Free.Fl in
def own_cell (pp k bb ii : Int32) : UInt64 := if bb = 0 then FP.dadd (FP.i2d pp) (FP.i2d k) else if k = ii then (9218868437227405312 : UInt64) else FP.dadd (FP.i2d pp) (FP.i2d k)
open Jvm.Free.Fl in
theorem own_sum (pp k : Int32) : NoNaN64 (FP.dadd (FP.i2d pp) (FP.i2d k)) := dadd_out (i2d_fin pp).noNaN (i2d_fin k)
open Jvm.Free.Fl in
theorem own_nn (pp k bb ii : Int32) : NoNaN64 (own_cell pp k bb ii) := by
  unfold own_cell
  split
  · exact own_sum pp k
  · split
    · unfold NoNaN64; decide
    · exact own_sum pp k
theorem own_z : (0 : Int32).toInt = 0 := by decide
theorem own_e6 (x : Int32) : ((x &&& (2147483647 : Int32)) % (6 : Int32)) = 0 ∨ ((x &&& (2147483647 : Int32)) % (6 : Int32)) = 1 ∨ ((x &&& (2147483647 : Int32)) % (6 : Int32)) = 2 ∨ ((x &&& (2147483647 : Int32)) % (6 : Int32)) = 3 ∨ ((x &&& (2147483647 : Int32)) % (6 : Int32)) = 4 ∨ ((x &&& (2147483647 : Int32)) % (6 : Int32)) = 5 := by
  have h1 := (c_and x 2147483647 (by decide)).1
  generalize x &&& (2147483647 : Int32) = y at h1 ⊢
  have h3 := (c_iremV y 6).1 h1 (by decide)
  generalize y % (6 : Int32) = a at h3 ⊢
  have e6 : (6 : Int32).toInt = 6 := by decide
  have e1 : (1 : Int32).toInt = 1 := by decide
  have e2 : (2 : Int32).toInt = 2 := by decide
  have e3 : (3 : Int32).toInt = 3 := by decide
  have e4 : (4 : Int32).toInt = 4 := by decide
  have e5 : (5 : Int32).toInt = 5 := by decide
  simp only [← Int32.toInt_inj, own_z]
  omega
def own_E (e : Int32) : Prop := e = 0 ∨ e = 1 ∨ e = 2 ∨ e = 3 ∨ e = 4 ∨ e = 5
theorem own_idx {e : Int32} (h : own_E e) : ((0 : Int32) + ((e / (3 : Int32)) * (3 : Int32))) + ((e % (3 : Int32)) * (1 : Int32)) = e := by
  rcases h with rfl | rfl | rfl | rfl | rfl | rfl <;> decide
theorem own_in6 {e : Int32} (h : own_E e) : ¬ e < 0 ∧ e < 6 := by
  rcases h with rfl | rfl | rfl | rfl | rfl | rfl <;> decide
theorem own_at6 {e : Int32} (h : own_E e) (pp bb ii : Int32) : ([(.double (own_cell pp (0 : Int32) bb ii)), (.double (own_cell pp (1 : Int32) bb ii)), (.double (own_cell pp (2 : Int32) bb ii)), (.double (own_cell pp (3 : Int32) bb ii)), (.double (own_cell pp (4 : Int32) bb ii)), (.double (own_cell pp (5 : Int32) bb ii))] : List Value).getD e.toNatClampNeg (.double (0 : UInt64)) = .double (own_cell pp e bb ii) := by
  rcases h with rfl | rfl | rfl | rfl | rfl | rfl <;> rfl
theorem own_v0 (x : Int32) : (x &&& (3 : Int32)) = 0 ∨ (x &&& (3 : Int32)) = 1 ∨ (x &&& (3 : Int32)) = 2 ∨ (x &&& (3 : Int32)) = 3 := by
  have h := c_and x 3 (by decide)
  have e1 : (1 : Int32).toInt = 1 := by decide
  have e2 : (2 : Int32).toInt = 2 := by decide
  have e3 : (3 : Int32).toInt = 3 := by decide
  simp only [← Int32.toInt_inj, own_z]
  omega
theorem own_v1 (x : Int32) : ((x &&& (2147483647 : Int32)) % (3 : Int32)) = 0 ∨ ((x &&& (2147483647 : Int32)) % (3 : Int32)) = 1 ∨ ((x &&& (2147483647 : Int32)) % (3 : Int32)) = 2 := by
  have h1 := (c_and x 2147483647 (by decide)).1
  generalize x &&& (2147483647 : Int32) = y at h1 ⊢
  have h3 := (c_iremV y 3).1 h1 (by decide)
  generalize y % (3 : Int32) = a at h3 ⊢
  have e1 : (1 : Int32).toInt = 1 := by decide
  have e2 : (2 : Int32).toInt = 2 := by decide
  have e3 : (3 : Int32).toInt = 3 := by decide
  simp only [← Int32.toInt_inj, own_z]
  omega
def own_W (a b : Int32) : Prop := (¬ a < 0 ∧ a < 4) ∧ (¬ b < 0 ∧ b < 4) ∧ ¬ a = b ∧ (∀ x y : Value, (([(.int (0 : Int32)), (.int (0 : Int32)), (.int (0 : Int32)), (.int (0 : Int32))].set a.toNatClampNeg x).set b.toNatClampNeg y).getD a.toNatClampNeg (.int (0 : Int32)) = x ∧ (([(.int (0 : Int32)), (.int (0 : Int32)), (.int (0 : Int32)), (.int (0 : Int32))].set a.toNatClampNeg x).set b.toNatClampNeg y).getD b.toNatClampNeg (.int (0 : Int32)) = y) ∧ a.toNatClampNeg < 4 ∧ b.toNatClampNeg < 4
theorem own_vars (x : Int32) : own_W (x &&& (3 : Int32)) (((((x &&& (3 : Int32)) + (1 : Int32)) + (((x.toUInt32 >>> ((2 : Int32) &&& 31).toUInt32).toInt32 &&& (2147483647 : Int32)) % (3 : Int32)))) &&& (3 : Int32)) := by
  have h0 := own_v0 x
  have h1 := own_v1 ((x.toUInt32 >>> ((2 : Int32) &&& 31).toUInt32).toInt32)
  generalize ((x.toUInt32 >>> ((2 : Int32) &&& 31).toUInt32).toInt32 &&& (2147483647 : Int32)) % (3 : Int32) = b at h1 ⊢
  generalize x &&& (3 : Int32) = a at h0 ⊢
  rcases h0 with rfl | rfl | rfl | rfl <;> rcases h1 with rfl | rfl | rfl <;> exact ⟨by decide, by decide, by decide, fun _ _ => ⟨rfl, rfl⟩, by decide, by decide⟩
theorem d1_0 : decode method_2_code 0 = .ok (.iload_n 2, 1) := by decide +kernel
theorem d1_1 : decode method_2_code 1 = .ok (.ifCond .eq 12, 3) := by decide +kernel
theorem d1_4 : decode method_2_code 4 = .ok (.iload_n 1, 1) := by decide +kernel
theorem d1_5 : decode method_2_code 5 = .ok (.iload_n 3, 1) := by decide +kernel
theorem d1_6 : decode method_2_code 6 = .ok (.if_icmp .ne 7, 3) := by decide +kernel
theorem d1_9 : decode method_2_code 9 = .ok (.ldc2_w 9, 3) := by decide +kernel
theorem d1_12 : decode method_2_code 12 = .ok (.dreturn, 1) := by decide +kernel
theorem d1_13 : decode method_2_code 13 = .ok (.iload_n 0, 1) := by decide +kernel
theorem d1_14 : decode method_2_code 14 = .ok (.i2d, 1) := by decide +kernel
theorem d1_15 : decode method_2_code 15 = .ok (.iload_n 1, 1) := by decide +kernel
theorem d1_16 : decode method_2_code 16 = .ok (.i2d, 1) := by decide +kernel
theorem d1_17 : decode method_2_code 17 = .ok (.dadd, 1) := by decide +kernel
theorem d1_18 : decode method_2_code 18 = .ok (.dreturn, 1) := by decide +kernel
theorem own_pn0 : plainName "com/example/tributary/tributary/model/CostTableCostPinLaw" = true := by first | (simp [plainName, overriddenIn]; done) | decide +kernel
def Q_rm1 (Z : State) (pp : Int32) (kk : Int32) (bb : Int32) (ii : Int32) (h0 : Heap) (n0 : Nat) (v : Option Value) (h : Heap) (L : List Loc) : Prop := v = some (.double (own_cell pp kk bb ii)) ∧ Fr n0 L ∧ h = h0
theorem ef_rm1 (m : MethodId) (pp : Int32) (kk : Int32) (bb : Int32) (ii : Int32) : entryFrame m #[(.int pp), (.int kk), (.int bb), (.int ii)] 4 = mkF m 0 #[.val (.int pp), .val (.int kk), .val (.int bb), .val (.int ii)] [] := by first | (simp [entryFrame, mkF, argsToLocals, Value.category]; done) | rfl
set_option maxRecDepth 65536 in
set_option maxHeartbeats 40000000 in
theorem rm1 (l : Launch) (Z : State) (a0 : Array Value) (hw : ∀ d ∈ tables_1, d.before a0 Z = true) (ws : List Jvm.Cond) (pp : Int32) (kk : Int32) (bb : Int32) (ii : Int32) (h0 : Heap) (n0 : Nat) (Z0 : n0 ≤ h0.size) :
    MetFree l (⟨"com/example/tributary/tributary/model/CostTableCostPinLaw", "cell", "(IIZI)D"⟩ : MethodName) (head1 (Jvm.Cond.code (⟨"com/example/tributary/tributary/model/CostTableCostPinLaw", "cell", "(IIZI)D"⟩ : MethodName) method_2_code 4 (some .double) :: ws) ({ frames := 0, cells := 0, slots := 0, locals := 0 } : Room)) (fun ag_ U_ => ag_ = #[(.int pp), (.int kk), (.int bb), (.int ii)] ∧ Z.Warmed39 U_.vm ∧ U_.heap = h0) (fun _ _ _ _ _ => True) (fun _ U_ o_ V_ => ∃ v_ L_, o_ = .returned v_ ∧ (Q_rm1 Z pp kk bb ii h0 n0) v_ V_.heap L_ ∧ FrameEnd U_ o_ V_ L_ ({ frames := 0, cells := 0, slots := 0, locals := 0 } : Room).cells ({ frames := 0, cells := 0, slots := 0, locals := 0 } : Room).slots) := by
  refine MetFree.of_bodySF (plainFor_of_name own_pn0) hisR ?_
  intro p e s m args below meth c s₁ Bd hml0 hP hK
  obtain ⟨rfl, hZ, hh⟩ := hP
  have hx := Bd.exec
  have hby := Bd.bytes
  have hml : c.maxLocals = 4 := hml0
  have hown : s.vm.findClass "com/example/tributary/tributary/model/CostTableCostPinLaw" = some m.cls := findClass_of_methodNamed Bd.named
  have hnm := (name_of_methodNamed Bd.named Bd.method).1
  have X0 : Stand p l e ({ frames := 0, cells := 0, slots := 0, locals := 0 } : Room) s m #[(.int pp), (.int kk), (.int bb), (.int ii)] below meth c s₁ [] 0 0 := Stand.of_body Bd
  have e0 : s₁.heap = h0 := by rw [← hh, Bd.state]; rfl
  have N0 := Fr.nil n0
  refine Go.st (G := fun s₂ o_ => ∃ v_ L_, o_ = .returned v_ ∧ (Q_rm1 Z pp kk bb ii h0 n0) v_ s₂.heap L_ ∧ FrameEnd s o_ s₂ L_ ({ frames := 0, cells := 0, slots := 0, locals := 0 } : Room).cells ({ frames := 0, cells := 0, slots := 0, locals := 0 } : Room).slots) (fun t kt => castTop (ef_rm1 m pp kk bb ii) kt) ?_
  show Go p e below _ (s₁.setTop (mkF m 0 #[.val (.int pp), .val (.int kk), .val (.int bb), .val (.int ii)] []))
  refine Go.st (fun _ kt => XS.iloadN X0.here hx rfl (hb hby d1_0) rfl kt) ?_
  show Go p e below _ (s₁.setTop (mkF m 1 #[.val (.int pp), .val (.int kk), .val (.int bb), .val (.int ii)] [(.int bb)]))
  by_cases hc1_1 : bb = (0 : Int32)
  · refine Go.st (fun _ kt => XS.ifYes X0.here hx rfl (pc0 := 1) (pc' := 13) rfl (hb hby d1_1) rfl ((if0 _ _).trans (teq hc1_1).1) (by decide) (by decide) kt) ?_
    show Go p e below _ (s₁.setTop (mkF m 13 #[.val (.int pp), .val (.int kk), .val (.int bb), .val (.int ii)] []))
    refine Go.st (fun _ kt => XS.iloadN X0.here hx rfl (hb hby d1_13) rfl kt) ?_
    show Go p e below _ (s₁.setTop (mkF m 14 #[.val (.int pp), .val (.int kk), .val (.int bb), .val (.int ii)] [(.int pp)]))
    refine Go.st (fun _ kt => XS.i2dS X0.here hx rfl (hb hby d1_14) rfl rfl kt) ?_
    show Go p e below _ (s₁.setTop (mkF m 15 #[.val (.int pp), .val (.int kk), .val (.int bb), .val (.int ii)] [(.double (FP.i2d pp))]))
    refine Go.st (fun _ kt => XS.iloadN X0.here hx rfl (hb hby d1_15) rfl kt) ?_
    show Go p e below _ (s₁.setTop (mkF m 16 #[.val (.int pp), .val (.int kk), .val (.int bb), .val (.int ii)] [(.int kk), (.double (FP.i2d pp))]))
    refine Go.st (fun _ kt => XS.i2dS X0.here hx rfl (hb hby d1_16) rfl rfl kt) ?_
    show Go p e below _ (s₁.setTop (mkF m 17 #[.val (.int pp), .val (.int kk), .val (.int bb), .val (.int ii)] [(.double (FP.i2d kk)), (.double (FP.i2d pp))]))
    refine Go.st (fun _ kt => XS.daddS X0.here hx rfl (hb hby d1_17) rfl (own_sum pp kk) rfl kt) ?_
    show Go p e below _ (s₁.setTop (mkF m 18 #[.val (.int pp), .val (.int kk), .val (.int bb), .val (.int ii)] [(.double (FP.dadd (FP.i2d pp) (FP.i2d kk)))]))
    refine Go.retW X0 hx Bd.returns rfl (Or.inr (Or.inr (Or.inl ⟨rfl, rfl, _, rfl⟩))) (BodyLoose.notSynchronized Bd) (hb hby d1_18) (Q := (Q_rm1 Z pp kk bb ii h0 n0)) (by decide) (by decide) ?_
    show (Q_rm1 Z pp kk bb ii h0 n0) _ s₁.heap _
    rw [e0]
    exact ⟨by simp [own_cell, hc1_1], N0, rfl⟩
  · refine Go.st (fun _ kt => XS.ifNo X0.here hx rfl (hb hby d1_1) rfl ((if0 _ _).trans (feq hc1_1).1) kt) ?_
    show Go p e below _ (s₁.setTop (mkF m 4 #[.val (.int pp), .val (.int kk), .val (.int bb), .val (.int ii)] []))
    refine Go.st (fun _ kt => XS.iloadN X0.here hx rfl (hb hby d1_4) rfl kt) ?_
    show Go p e below _ (s₁.setTop (mkF m 5 #[.val (.int pp), .val (.int kk), .val (.int bb), .val (.int ii)] [(.int kk)]))
    refine Go.st (fun _ kt => XS.iloadN X0.here hx rfl (hb hby d1_5) rfl kt) ?_
    show Go p e below _ (s₁.setTop (mkF m 6 #[.val (.int pp), .val (.int kk), .val (.int bb), .val (.int ii)] [(.int ii), (.int kk)]))
    by_cases hc6_2 : kk = ii
    · refine Go.st (fun _ kt => XS.icmpNo X0.here hx rfl (hb hby d1_6) rfl (teq hc6_2).2 kt) ?_
      show Go p e below _ (s₁.setTop (mkF m 9 #[.val (.int pp), .val (.int kk), .val (.int bb), .val (.int ii)] []))
      refine Go.st (fun _ kt => X0.ldc2DoubleC hx hown (mvT hZ (hw _ (List.mem_of_getElem? (i := 50) rfl))) (g := (mkF m 9 #[.val (.int pp), .val (.int kk), .val (.int bb), .val (.int ii)] [])) rfl (hb hby d1_9) _ kt) ?_
      show Go p e below _ (s₁.setTop (mkF m 12 #[.val (.int pp), .val (.int kk), .val (.int bb), .val (.int ii)] [(.double (9218868437227405312 : UInt64))]))
      refine Go.retW X0 hx Bd.returns rfl (Or.inr (Or.inr (Or.inl ⟨rfl, rfl, _, rfl⟩))) (BodyLoose.notSynchronized Bd) (hb hby d1_12) (Q := (Q_rm1 Z pp kk bb ii h0 n0)) (by decide) (by decide) ?_
      show (Q_rm1 Z pp kk bb ii h0 n0) _ s₁.heap _
      rw [e0]
      exact ⟨by simp [own_cell, hc1_1, hc6_2], N0, rfl⟩
    · refine Go.st (fun _ kt => XS.icmpYes X0.here hx rfl (pc0 := 6) (pc' := 13) rfl (hb hby d1_6) rfl (feq hc6_2).2 (by decide) (by decide) kt) ?_
      show Go p e below _ (s₁.setTop (mkF m 13 #[.val (.int pp), .val (.int kk), .val (.int bb), .val (.int ii)] []))
      refine Go.st (fun _ kt => XS.iloadN X0.here hx rfl (hb hby d1_13) rfl kt) ?_
      show Go p e below _ (s₁.setTop (mkF m 14 #[.val (.int pp), .val (.int kk), .val (.int bb), .val (.int ii)] [(.int pp)]))
      refine Go.st (fun _ kt => XS.i2dS X0.here hx rfl (hb hby d1_14) rfl rfl kt) ?_
      show Go p e below _ (s₁.setTop (mkF m 15 #[.val (.int pp), .val (.int kk), .val (.int bb), .val (.int ii)] [(.double (FP.i2d pp))]))
      refine Go.st (fun _ kt => XS.iloadN X0.here hx rfl (hb hby d1_15) rfl kt) ?_
      show Go p e below _ (s₁.setTop (mkF m 16 #[.val (.int pp), .val (.int kk), .val (.int bb), .val (.int ii)] [(.int kk), (.double (FP.i2d pp))]))
      refine Go.st (fun _ kt => XS.i2dS X0.here hx rfl (hb hby d1_16) rfl rfl kt) ?_
      show Go p e below _ (s₁.setTop (mkF m 17 #[.val (.int pp), .val (.int kk), .val (.int bb), .val (.int ii)] [(.double (FP.i2d kk)), (.double (FP.i2d pp))]))
      refine Go.st (fun _ kt => XS.daddS X0.here hx rfl (hb hby d1_17) rfl (own_sum pp kk) rfl kt) ?_
      show Go p e below _ (s₁.setTop (mkF m 18 #[.val (.int pp), .val (.int kk), .val (.int bb), .val (.int ii)] [(.double (FP.dadd (FP.i2d pp) (FP.i2d kk)))]))
      refine Go.retW X0 hx Bd.returns rfl (Or.inr (Or.inr (Or.inl ⟨rfl, rfl, _, rfl⟩))) (BodyLoose.notSynchronized Bd) (hb hby d1_18) (Q := (Q_rm1 Z pp kk bb ii h0 n0)) (by decide) (by decide) ?_
      show (Q_rm1 Z pp kk bb ii h0 n0) _ s₁.heap _
      rw [e0]
      exact ⟨by simp [own_cell, hc1_1, hc6_2], N0, rfl⟩
theorem d4_0 : decode prog_87_method_3_code 0 = .ok (.lconst 1, 1) := by decide +kernel
theorem d4_1 : decode prog_87_method_3_code 1 = .ok (.lstore_n 1, 1) := by decide +kernel
theorem d4_2 : decode prog_87_method_3_code 2 = .ok (.aload_n 0, 1) := by decide +kernel
theorem d4_3 : decode prog_87_method_3_code 3 = .ok (.astore_n 3, 1) := by decide +kernel
theorem d4_4 : decode prog_87_method_3_code 4 = .ok (.aload_n 3, 1) := by decide +kernel
theorem d4_5 : decode prog_87_method_3_code 5 = .ok (.arraylength, 1) := by decide +kernel
theorem d4_6 : decode prog_87_method_3_code 6 = .ok (.istore 4, 2) := by decide +kernel
theorem d4_8 : decode prog_87_method_3_code 8 = .ok (.iconst 0, 1) := by decide +kernel
theorem d4_9 : decode prog_87_method_3_code 9 = .ok (.istore 5, 2) := by decide +kernel
theorem d4_11 : decode prog_87_method_3_code 11 = .ok (.iload 5, 2) := by decide +kernel
theorem d4_13 : decode prog_87_method_3_code 13 = .ok (.iload 4, 2) := by decide +kernel
theorem d4_15 : decode prog_87_method_3_code 15 = .ok (.if_icmp .ge 57, 3) := by decide +kernel
theorem d4_18 : decode prog_87_method_3_code 18 = .ok (.aload_n 3, 1) := by decide +kernel
theorem d4_19 : decode prog_87_method_3_code 19 = .ok (.iload 5, 2) := by decide +kernel
theorem d4_21 : decode prog_87_method_3_code 21 = .ok (.iaload, 1) := by decide +kernel
theorem d4_22 : decode prog_87_method_3_code 22 = .ok (.istore 6, 2) := by decide +kernel
theorem d4_24 : decode prog_87_method_3_code 24 = .ok (.iload 6, 2) := by decide +kernel
theorem d4_26 : decode prog_87_method_3_code 26 = .ok (.ifCond .gt 18, 3) := by decide +kernel
theorem d4_44 : decode prog_87_method_3_code 44 = .ok (.lload_n 1, 1) := by decide +kernel
theorem d4_45 : decode prog_87_method_3_code 45 = .ok (.ldc2_w 63, 3) := by decide +kernel
theorem d4_48 : decode prog_87_method_3_code 48 = .ok (.iload 6, 2) := by decide +kernel
theorem d4_50 : decode prog_87_method_3_code 50 = .ok (.i2l, 1) := by decide +kernel
theorem d4_51 : decode prog_87_method_3_code 51 = .ok (.ldiv, 1) := by decide +kernel
theorem d4_52 : decode prog_87_method_3_code 52 = .ok (.lcmp, 1) := by decide +kernel
theorem d4_53 : decode prog_87_method_3_code 53 = .ok (.ifCond .le 7, 3) := by decide +kernel
theorem d4_60 : decode prog_87_method_3_code 60 = .ok (.lload_n 1, 1) := by decide +kernel
theorem d4_61 : decode prog_87_method_3_code 61 = .ok (.iload 6, 2) := by decide +kernel
theorem d4_63 : decode prog_87_method_3_code 63 = .ok (.i2l, 1) := by decide +kernel
theorem d4_64 : decode prog_87_method_3_code 64 = .ok (.lmul, 1) := by decide +kernel
theorem d4_65 : decode prog_87_method_3_code 65 = .ok (.lstore_n 1, 1) := by decide +kernel
theorem d4_66 : decode prog_87_method_3_code 66 = .ok (.iinc 5 1, 3) := by decide +kernel
theorem d4_69 : decode prog_87_method_3_code 69 = .ok (.goto (-58), 3) := by decide +kernel
theorem d4_72 : decode prog_87_method_3_code 72 = .ok (.lload_n 1, 1) := by decide +kernel
theorem d4_73 : decode prog_87_method_3_code 73 = .ok (.lreturn, 1) := by decide +kernel
theorem own_pn1 : plainName "com/example/tributary/tributary/model/CostTable" = true := by first | (simp [plainName, overriddenIn]; done) | decide +kernel
def Q_rm4 (Z : State) (a : Addr) (k0 : ClassId) (h0 : Heap) (n0 : Nat) (v : Option Value) (h : Heap) (L : List Loc) : Prop := v = some (.long (6 : Int64)) ∧ Fr n0 L ∧ h = h0
theorem ef_rm4 (m : MethodId) (a : Addr) : entryFrame m #[(.ref a)] 7 = mkF m 0 #[.val (.ref a), .unset, .unset, .unset, .unset, .unset, .unset] [] := by first | (simp [entryFrame, mkF, argsToLocals, Value.category]; done) | rfl
set_option maxRecDepth 65536 in
set_option maxHeartbeats 40000000 in
theorem rm4 (l : Launch) (Z : State) (a0 : Array Value) (hw : ∀ d ∈ tables_1, d.before a0 Z = true) (ws : List Jvm.Cond) (a : Addr) (k0 : ClassId) (h0 : Heap) (n0 : Nat) (Z0 : n0 ≤ h0.size) (V_a : Arv Z h0 a k0 .int (2 : Int32) [(.int (2 : Int32)), (.int (3 : Int32))] (.int (0 : Int32))) :
    MetFree l (⟨"com/example/tributary/tributary/model/CostTable", "entries", "([I)J"⟩ : MethodName) (head1 (Jvm.Cond.code (⟨"com/example/tributary/tributary/model/CostTable", "entries", "([I)J"⟩ : MethodName) prog_87_method_3_code 7 (some .long) :: ws) ({ frames := 0, cells := 0, slots := 0, locals := 0 } : Room)) (fun ag_ U_ => ag_ = #[(.ref a)] ∧ Z.Warmed39 U_.vm ∧ U_.heap = h0) (fun _ _ _ _ _ => True) (fun _ U_ o_ V_ => ∃ v_ L_, o_ = .returned v_ ∧ (Q_rm4 Z a k0 h0 n0) v_ V_.heap L_ ∧ FrameEnd U_ o_ V_ L_ ({ frames := 0, cells := 0, slots := 0, locals := 0 } : Room).cells ({ frames := 0, cells := 0, slots := 0, locals := 0 } : Room).slots) := by
  refine MetFree.of_bodySF (plainFor_of_name own_pn1) hisR ?_
  intro p e s m args below meth c s₁ Bd hml0 hP hK
  obtain ⟨rfl, hZ, hh⟩ := hP
  have hx := Bd.exec
  have hby := Bd.bytes
  have hml : c.maxLocals = 7 := hml0
  have hown : s.vm.findClass "com/example/tributary/tributary/model/CostTable" = some m.cls := findClass_of_methodNamed Bd.named
  have hnm := (name_of_methodNamed Bd.named Bd.method).1
  have X0 : Stand p l e ({ frames := 0, cells := 0, slots := 0, locals := 0 } : Room) s m #[(.ref a)] below meth c s₁ [] 0 0 := Stand.of_body Bd
  have e0 : s₁.heap = h0 := by rw [← hh, Bd.state]; rfl
  have N0 := Fr.nil n0
  refine Go.st (G := fun s₂ o_ => ∃ v_ L_, o_ = .returned v_ ∧ (Q_rm4 Z a k0 h0 n0) v_ s₂.heap L_ ∧ FrameEnd s o_ s₂ L_ ({ frames := 0, cells := 0, slots := 0, locals := 0 } : Room).cells ({ frames := 0, cells := 0, slots := 0, locals := 0 } : Room).slots) (fun t kt => castTop (ef_rm4 m a) kt) ?_
  show Go p e below _ (s₁.setTop (mkF m 0 #[.val (.ref a), .unset, .unset, .unset, .unset, .unset, .unset] []))
  refine Go.st (fun _ kt => XS.lconst X0.here hx rfl (hb hby d4_0) kt) ?_
  show Go p e below _ (s₁.setTop (mkF m 1 #[.val (.ref a), .unset, .unset, .unset, .unset, .unset, .unset] [(.long (1 : Int64))]))
  refine Go.st (fun _ kt => XS.lstoreN X0.here hx rfl (hb hby d4_1) rfl (l' := #[.val (.ref a), .val (.long (1 : Int64)), .second, .unset, .unset, .unset, .unset]) rfl kt) ?_
  show Go p e below _ (s₁.setTop (mkF m 2 #[.val (.ref a), .val (.long (1 : Int64)), .second, .unset, .unset, .unset, .unset] []))
  refine Go.st (fun _ kt => XS.aloadN X0.here hx rfl (hb hby d4_2) rfl rfl kt) ?_
  show Go p e below _ (s₁.setTop (mkF m 3 #[.val (.ref a), .val (.long (1 : Int64)), .second, .unset, .unset, .unset, .unset] [(.ref a)]))
  refine Go.st (fun _ kt => XS.astoreN X0.here hx rfl (hb hby d4_3) rfl rfl (l' := #[.val (.ref a), .val (.long (1 : Int64)), .second, .val (.ref a), .unset, .unset, .unset]) rfl kt) ?_
  show Go p e below _ (s₁.setTop (mkF m 4 #[.val (.ref a), .val (.long (1 : Int64)), .second, .val (.ref a), .unset, .unset, .unset] []))
  refine Go.st (fun _ kt => XS.aloadN X0.here hx rfl (hb hby d4_4) rfl rfl kt) ?_
  show Go p e below _ (s₁.setTop (mkF m 5 #[.val (.ref a), .val (.long (1 : Int64)), .second, .val (.ref a), .unset, .unset, .unset] [(.ref a)]))
  obtain ⟨cl1, Ar1, -, S1, N1', -, -⟩ := id V_a
  refine Go.st (fun _ kt => X0.arraylength hx (by rw [e0]; exact Ar1.1) (State.isArrayOf_alike hZ.alike Ar1.2.1) (g := (mkF m 5 #[.val (.ref a), .val (.long (1 : Int64)), .second, .val (.ref a), .unset, .unset, .unset] [(.ref a)])) rfl rfl (hb hby d4_5) _ kt) ?_
  rw [len_of S1 N1']
  show Go p e below _ (s₁.setTop (mkF m 6 #[.val (.ref a), .val (.long (1 : Int64)), .second, .val (.ref a), .unset, .unset, .unset] [(.int (2 : Int32))]))
  refine Go.st (fun _ kt => XS.istore X0.here hx rfl (hb hby d4_6) rfl (l' := #[.val (.ref a), .val (.long (1 : Int64)), .second, .val (.ref a), .val (.int (2 : Int32)), .unset, .unset]) rfl kt) ?_
  show Go p e below _ (s₁.setTop (mkF m 8 #[.val (.ref a), .val (.long (1 : Int64)), .second, .val (.ref a), .val (.int (2 : Int32)), .unset, .unset] []))
  refine Go.st (fun _ kt => XS.iconst X0.here hx rfl (hb hby d4_8) kt) ?_
  show Go p e below _ (s₁.setTop (mkF m 9 #[.val (.ref a), .val (.long (1 : Int64)), .second, .val (.ref a), .val (.int (2 : Int32)), .unset, .unset] [(.int (0 : Int32))]))
  refine Go.st (fun _ kt => XS.istore X0.here hx rfl (hb hby d4_9) rfl (l' := #[.val (.ref a), .val (.long (1 : Int64)), .second, .val (.ref a), .val (.int (2 : Int32)), .val (.int (0 : Int32)), .unset]) rfl kt) ?_
  show Go p e below _ (s₁.setTop (mkF m 11 #[.val (.ref a), .val (.long (1 : Int64)), .second, .val (.ref a), .val (.int (2 : Int32)), .val (.int (0 : Int32)), .unset] []))
  refine Go.st (fun _ kt => XS.iload X0.here hx rfl (hb hby d4_11) rfl kt) ?_
  show Go p e below _ (s₁.setTop (mkF m 13 #[.val (.ref a), .val (.long (1 : Int64)), .second, .val (.ref a), .val (.int (2 : Int32)), .val (.int (0 : Int32)), .unset] [(.int (0 : Int32))]))
  refine Go.st (fun _ kt => XS.iload X0.here hx rfl (hb hby d4_13) rfl kt) ?_
  show Go p e below _ (s₁.setTop (mkF m 15 #[.val (.ref a), .val (.long (1 : Int64)), .second, .val (.ref a), .val (.int (2 : Int32)), .val (.int (0 : Int32)), .unset] [(.int (2 : Int32)), (.int (0 : Int32))]))
  refine Go.st (fun _ kt => XS.icmpNo X0.here hx rfl (hb hby d4_15) rfl (tlt (by decide : (0 : Int32) < (2 : Int32))).2.1 kt) ?_
  show Go p e below _ (s₁.setTop (mkF m 18 #[.val (.ref a), .val (.long (1 : Int64)), .second, .val (.ref a), .val (.int (2 : Int32)), .val (.int (0 : Int32)), .unset] []))
  refine Go.st (fun _ kt => XS.aloadN X0.here hx rfl (hb hby d4_18) rfl rfl kt) ?_
  show Go p e below _ (s₁.setTop (mkF m 19 #[.val (.ref a), .val (.long (1 : Int64)), .second, .val (.ref a), .val (.int (2 : Int32)), .val (.int (0 : Int32)), .unset] [(.ref a)]))
  refine Go.st (fun _ kt => XS.iload X0.here hx rfl (hb hby d4_19) rfl kt) ?_
  show Go p e below _ (s₁.setTop (mkF m 21 #[.val (.ref a), .val (.long (1 : Int64)), .second, .val (.ref a), .val (.int (2 : Int32)), .val (.int (0 : Int32)), .unset] [(.int (0 : Int32)), (.ref a)]))
  obtain ⟨cl2, Ar2, -, S2, N2', H2, G2⟩ := id V_a
  have hin2 := inb_of S2 (j := (0 : Int32)) ⟨by decide, by decide⟩
  have hat2 := Has.at H2 hin2 (v := (.int (2 : Int32))) rfl
  refine Go.st (fun _ kt => X0.iaload hx (j := (0 : Int32)) (v := (.int (2 : Int32))) (by rw [e0]; exact Ar2.1) (State.isArrayOf_alike hZ.alike Ar2.2.1) Ar2.2.2 hin2 hat2 (g := (mkF m 21 #[.val (.ref a), .val (.long (1 : Int64)), .second, .val (.ref a), .val (.int (2 : Int32)), .val (.int (0 : Int32)), .unset] [(.int (0 : Int32)), (.ref a)])) rfl rfl (hb hby d4_21) _ kt) ?_
  show Go p e below _ (s₁.setTop (mkF m 22 #[.val (.ref a), .val (.long (1 : Int64)), .second, .val (.ref a), .val (.int (2 : Int32)), .val (.int (0 : Int32)), .unset] [(.int (2 : Int32))]))
  refine Go.st (fun _ kt => XS.istore X0.here hx rfl (hb hby d4_22) rfl (l' := #[.val (.ref a), .val (.long (1 : Int64)), .second, .val (.ref a), .val (.int (2 : Int32)), .val (.int (0 : Int32)), .val (.int (2 : Int32))]) rfl kt) ?_
  show Go p e below _ (s₁.setTop (mkF m 24 #[.val (.ref a), .val (.long (1 : Int64)), .second, .val (.ref a), .val (.int (2 : Int32)), .val (.int (0 : Int32)), .val (.int (2 : Int32))] []))
  refine Go.st (fun _ kt => XS.iload X0.here hx rfl (hb hby d4_24) rfl kt) ?_
  show Go p e below _ (s₁.setTop (mkF m 26 #[.val (.ref a), .val (.long (1 : Int64)), .second, .val (.ref a), .val (.int (2 : Int32)), .val (.int (0 : Int32)), .val (.int (2 : Int32))] [(.int (2 : Int32))]))
  refine Go.st (fun _ kt => XS.ifYes X0.here hx rfl (pc0 := 26) (pc' := 44) rfl (hb hby d4_26) rfl ((if0 _ _).trans (tlt (by decide : (0 : Int32) < (2 : Int32))).2.2.1) (by decide) (by decide) kt) ?_
  show Go p e below _ (s₁.setTop (mkF m 44 #[.val (.ref a), .val (.long (1 : Int64)), .second, .val (.ref a), .val (.int (2 : Int32)), .val (.int (0 : Int32)), .val (.int (2 : Int32))] []))
  refine Go.st (fun _ kt => XS.lloadN X0.here hx rfl (hb hby d4_44) rfl kt) ?_
  show Go p e below _ (s₁.setTop (mkF m 45 #[.val (.ref a), .val (.long (1 : Int64)), .second, .val (.ref a), .val (.int (2 : Int32)), .val (.int (0 : Int32)), .val (.int (2 : Int32))] [(.long (1 : Int64))]))
  refine Go.st (fun _ kt => X0.ldc2Long hx hown (mvT hZ (hw _ (List.mem_of_getElem? (i := 19) rfl))) (g := (mkF m 45 #[.val (.ref a), .val (.long (1 : Int64)), .second, .val (.ref a), .val (.int (2 : Int32)), .val (.int (0 : Int32)), .val (.int (2 : Int32))] [(.long (1 : Int64))])) rfl (hb hby d4_45) _ kt) ?_
  show Go p e below _ (s₁.setTop (mkF m 48 #[.val (.ref a), .val (.long (1 : Int64)), .second, .val (.ref a), .val (.int (2 : Int32)), .val (.int (0 : Int32)), .val (.int (2 : Int32))] [(.long (9223372036854775807 : Int64)), (.long (1 : Int64))]))
  refine Go.st (fun _ kt => XS.iload X0.here hx rfl (hb hby d4_48) rfl kt) ?_
  show Go p e below _ (s₁.setTop (mkF m 50 #[.val (.ref a), .val (.long (1 : Int64)), .second, .val (.ref a), .val (.int (2 : Int32)), .val (.int (0 : Int32)), .val (.int (2 : Int32))] [(.int (2 : Int32)), (.long (9223372036854775807 : Int64)), (.long (1 : Int64))]))
  refine Go.st (fun _ kt => XS.i2l X0.here hx rfl (hb hby d4_50) rfl kt) ?_
  show Go p e below _ (s₁.setTop (mkF m 51 #[.val (.ref a), .val (.long (1 : Int64)), .second, .val (.ref a), .val (.int (2 : Int32)), .val (.int (0 : Int32)), .val (.int (2 : Int32))] [(.long (2 : Int64)), (.long (9223372036854775807 : Int64)), (.long (1 : Int64))]))
  refine Go.st (fun _ kt => XS.ldiv X0.here hx rfl (hb hby d4_51) rfl (by decide) kt) ?_
  show Go p e below _ (s₁.setTop (mkF m 52 #[.val (.ref a), .val (.long (1 : Int64)), .second, .val (.ref a), .val (.int (2 : Int32)), .val (.int (0 : Int32)), .val (.int (2 : Int32))] [(.long ((9223372036854775807 : Int64) / (2 : Int64))), (.long (1 : Int64))]))
  refine Go.st (fun _ kt => XS.lcmp X0.here hx rfl (hb hby d4_52) rfl kt) ?_
  show Go p e below _ (s₁.setTop (mkF m 53 #[.val (.ref a), .val (.long (1 : Int64)), .second, .val (.ref a), .val (.int (2 : Int32)), .val (.int (0 : Int32)), .val (.int (2 : Int32))] [(.int (lcmpW (1 : Int64) ((9223372036854775807 : Int64) / (2 : Int64))))]))
  refine Go.st (fun _ kt => XS.ifYes X0.here hx rfl (pc0 := 53) (pc' := 60) rfl (hb hby d4_53) rfl ((if0 _ _).trans (flt (by decide)).2.2.2) (by decide) (by decide) kt) ?_
  show Go p e below _ (s₁.setTop (mkF m 60 #[.val (.ref a), .val (.long (1 : Int64)), .second, .val (.ref a), .val (.int (2 : Int32)), .val (.int (0 : Int32)), .val (.int (2 : Int32))] []))
  refine Go.st (fun _ kt => XS.lloadN X0.here hx rfl (hb hby d4_60) rfl kt) ?_
  show Go p e below _ (s₁.setTop (mkF m 61 #[.val (.ref a), .val (.long (1 : Int64)), .second, .val (.ref a), .val (.int (2 : Int32)), .val (.int (0 : Int32)), .val (.int (2 : Int32))] [(.long (1 : Int64))]))
  refine Go.st (fun _ kt => XS.iload X0.here hx rfl (hb hby d4_61) rfl kt) ?_
  show Go p e below _ (s₁.setTop (mkF m 63 #[.val (.ref a), .val (.long (1 : Int64)), .second, .val (.ref a), .val (.int (2 : Int32)), .val (.int (0 : Int32)), .val (.int (2 : Int32))] [(.int (2 : Int32)), (.long (1 : Int64))]))
  refine Go.st (fun _ kt => XS.i2l X0.here hx rfl (hb hby d4_63) rfl kt) ?_
  show Go p e below _ (s₁.setTop (mkF m 64 #[.val (.ref a), .val (.long (1 : Int64)), .second, .val (.ref a), .val (.int (2 : Int32)), .val (.int (0 : Int32)), .val (.int (2 : Int32))] [(.long (2 : Int64)), (.long (1 : Int64))]))
  refine Go.st (fun _ kt => XS.lmul X0.here hx rfl (hb hby d4_64) rfl kt) ?_
  show Go p e below _ (s₁.setTop (mkF m 65 #[.val (.ref a), .val (.long (1 : Int64)), .second, .val (.ref a), .val (.int (2 : Int32)), .val (.int (0 : Int32)), .val (.int (2 : Int32))] [(.long (2 : Int64))]))
  refine Go.st (fun _ kt => XS.lstoreN X0.here hx rfl (hb hby d4_65) rfl (l' := #[.val (.ref a), .val (.long (2 : Int64)), .second, .val (.ref a), .val (.int (2 : Int32)), .val (.int (0 : Int32)), .val (.int (2 : Int32))]) rfl kt) ?_
  show Go p e below _ (s₁.setTop (mkF m 66 #[.val (.ref a), .val (.long (2 : Int64)), .second, .val (.ref a), .val (.int (2 : Int32)), .val (.int (0 : Int32)), .val (.int (2 : Int32))] []))
  refine Go.st (fun _ kt => XS.iinc X0.here hx rfl (hb hby d4_66) rfl (l' := #[.val (.ref a), .val (.long (2 : Int64)), .second, .val (.ref a), .val (.int (2 : Int32)), .val (.int (1 : Int32)), .val (.int (2 : Int32))]) rfl kt) ?_
  show Go p e below _ (s₁.setTop (mkF m 69 #[.val (.ref a), .val (.long (2 : Int64)), .second, .val (.ref a), .val (.int (2 : Int32)), .val (.int (1 : Int32)), .val (.int (2 : Int32))] []))
  refine Go.st (fun _ kt => XS.goto X0.here hx rfl (pc0 := 69) (pc' := 11) rfl (hb hby d4_69) (by decide) (by decide) kt) ?_
  show Go p e below _ (s₁.setTop (mkF m 11 #[.val (.ref a), .val (.long (2 : Int64)), .second, .val (.ref a), .val (.int (2 : Int32)), .val (.int (1 : Int32)), .val (.int (2 : Int32))] []))
  refine Go.st (fun _ kt => XS.iload X0.here hx rfl (hb hby d4_11) rfl kt) ?_
  show Go p e below _ (s₁.setTop (mkF m 13 #[.val (.ref a), .val (.long (2 : Int64)), .second, .val (.ref a), .val (.int (2 : Int32)), .val (.int (1 : Int32)), .val (.int (2 : Int32))] [(.int (1 : Int32))]))
  refine Go.st (fun _ kt => XS.iload X0.here hx rfl (hb hby d4_13) rfl kt) ?_
  show Go p e below _ (s₁.setTop (mkF m 15 #[.val (.ref a), .val (.long (2 : Int64)), .second, .val (.ref a), .val (.int (2 : Int32)), .val (.int (1 : Int32)), .val (.int (2 : Int32))] [(.int (2 : Int32)), (.int (1 : Int32))]))
  refine Go.st (fun _ kt => XS.icmpNo X0.here hx rfl (hb hby d4_15) rfl (tlt (by decide : (1 : Int32) < (2 : Int32))).2.1 kt) ?_
  show Go p e below _ (s₁.setTop (mkF m 18 #[.val (.ref a), .val (.long (2 : Int64)), .second, .val (.ref a), .val (.int (2 : Int32)), .val (.int (1 : Int32)), .val (.int (2 : Int32))] []))
  refine Go.st (fun _ kt => XS.aloadN X0.here hx rfl (hb hby d4_18) rfl rfl kt) ?_
  show Go p e below _ (s₁.setTop (mkF m 19 #[.val (.ref a), .val (.long (2 : Int64)), .second, .val (.ref a), .val (.int (2 : Int32)), .val (.int (1 : Int32)), .val (.int (2 : Int32))] [(.ref a)]))
  refine Go.st (fun _ kt => XS.iload X0.here hx rfl (hb hby d4_19) rfl kt) ?_
  show Go p e below _ (s₁.setTop (mkF m 21 #[.val (.ref a), .val (.long (2 : Int64)), .second, .val (.ref a), .val (.int (2 : Int32)), .val (.int (1 : Int32)), .val (.int (2 : Int32))] [(.int (1 : Int32)), (.ref a)]))
  obtain ⟨cl3, Ar3, -, S3, N3', H3, G3⟩ := id V_a
  have hin3 := inb_of S3 (j := (1 : Int32)) ⟨by decide, by decide⟩
  have hat3 := Has.at H3 hin3 (v := (.int (3 : Int32))) rfl
  refine Go.st (fun _ kt => X0.iaload hx (j := (1 : Int32)) (v := (.int (3 : Int32))) (by rw [e0]; exact Ar3.1) (State.isArrayOf_alike hZ.alike Ar3.2.1) Ar3.2.2 hin3 hat3 (g := (mkF m 21 #[.val (.ref a), .val (.long (2 : Int64)), .second, .val (.ref a), .val (.int (2 : Int32)), .val (.int (1 : Int32)), .val (.int (2 : Int32))] [(.int (1 : Int32)), (.ref a)])) rfl rfl (hb hby d4_21) _ kt) ?_
  show Go p e below _ (s₁.setTop (mkF m 22 #[.val (.ref a), .val (.long (2 : Int64)), .second, .val (.ref a), .val (.int (2 : Int32)), .val (.int (1 : Int32)), .val (.int (2 : Int32))] [(.int (3 : Int32))]))
  refine Go.st (fun _ kt => XS.istore X0.here hx rfl (hb hby d4_22) rfl (l' := #[.val (.ref a), .val (.long (2 : Int64)), .second, .val (.ref a), .val (.int (2 : Int32)), .val (.int (1 : Int32)), .val (.int (3 : Int32))]) rfl kt) ?_
  show Go p e below _ (s₁.setTop (mkF m 24 #[.val (.ref a), .val (.long (2 : Int64)), .second, .val (.ref a), .val (.int (2 : Int32)), .val (.int (1 : Int32)), .val (.int (3 : Int32))] []))
  refine Go.st (fun _ kt => XS.iload X0.here hx rfl (hb hby d4_24) rfl kt) ?_
  show Go p e below _ (s₁.setTop (mkF m 26 #[.val (.ref a), .val (.long (2 : Int64)), .second, .val (.ref a), .val (.int (2 : Int32)), .val (.int (1 : Int32)), .val (.int (3 : Int32))] [(.int (3 : Int32))]))
  refine Go.st (fun _ kt => XS.ifYes X0.here hx rfl (pc0 := 26) (pc' := 44) rfl (hb hby d4_26) rfl ((if0 _ _).trans (tlt (by decide : (0 : Int32) < (3 : Int32))).2.2.1) (by decide) (by decide) kt) ?_
  show Go p e below _ (s₁.setTop (mkF m 44 #[.val (.ref a), .val (.long (2 : Int64)), .second, .val (.ref a), .val (.int (2 : Int32)), .val (.int (1 : Int32)), .val (.int (3 : Int32))] []))
  refine Go.st (fun _ kt => XS.lloadN X0.here hx rfl (hb hby d4_44) rfl kt) ?_
  show Go p e below _ (s₁.setTop (mkF m 45 #[.val (.ref a), .val (.long (2 : Int64)), .second, .val (.ref a), .val (.int (2 : Int32)), .val (.int (1 : Int32)), .val (.int (3 : Int32))] [(.long (2 : Int64))]))
  refine Go.st (fun _ kt => X0.ldc2Long hx hown (mvT hZ (hw _ (List.mem_of_getElem? (i := 19) rfl))) (g := (mkF m 45 #[.val (.ref a), .val (.long (2 : Int64)), .second, .val (.ref a), .val (.int (2 : Int32)), .val (.int (1 : Int32)), .val (.int (3 : Int32))] [(.long (2 : Int64))])) rfl (hb hby d4_45) _ kt) ?_
  show Go p e below _ (s₁.setTop (mkF m 48 #[.val (.ref a), .val (.long (2 : Int64)), .second, .val (.ref a), .val (.int (2 : Int32)), .val (.int (1 : Int32)), .val (.int (3 : Int32))] [(.long (9223372036854775807 : Int64)), (.long (2 : Int64))]))
  refine Go.st (fun _ kt => XS.iload X0.here hx rfl (hb hby d4_48) rfl kt) ?_
  show Go p e below _ (s₁.setTop (mkF m 50 #[.val (.ref a), .val (.long (2 : Int64)), .second, .val (.ref a), .val (.int (2 : Int32)), .val (.int (1 : Int32)), .val (.int (3 : Int32))] [(.int (3 : Int32)), (.long (9223372036854775807 : Int64)), (.long (2 : Int64))]))
  refine Go.st (fun _ kt => XS.i2l X0.here hx rfl (hb hby d4_50) rfl kt) ?_
  show Go p e below _ (s₁.setTop (mkF m 51 #[.val (.ref a), .val (.long (2 : Int64)), .second, .val (.ref a), .val (.int (2 : Int32)), .val (.int (1 : Int32)), .val (.int (3 : Int32))] [(.long (3 : Int64)), (.long (9223372036854775807 : Int64)), (.long (2 : Int64))]))
  refine Go.st (fun _ kt => XS.ldiv X0.here hx rfl (hb hby d4_51) rfl (by decide) kt) ?_
  show Go p e below _ (s₁.setTop (mkF m 52 #[.val (.ref a), .val (.long (2 : Int64)), .second, .val (.ref a), .val (.int (2 : Int32)), .val (.int (1 : Int32)), .val (.int (3 : Int32))] [(.long ((9223372036854775807 : Int64) / (3 : Int64))), (.long (2 : Int64))]))
  refine Go.st (fun _ kt => XS.lcmp X0.here hx rfl (hb hby d4_52) rfl kt) ?_
  show Go p e below _ (s₁.setTop (mkF m 53 #[.val (.ref a), .val (.long (2 : Int64)), .second, .val (.ref a), .val (.int (2 : Int32)), .val (.int (1 : Int32)), .val (.int (3 : Int32))] [(.int (lcmpW (2 : Int64) ((9223372036854775807 : Int64) / (3 : Int64))))]))
  refine Go.st (fun _ kt => XS.ifYes X0.here hx rfl (pc0 := 53) (pc' := 60) rfl (hb hby d4_53) rfl ((if0 _ _).trans (flt (by decide)).2.2.2) (by decide) (by decide) kt) ?_
  show Go p e below _ (s₁.setTop (mkF m 60 #[.val (.ref a), .val (.long (2 : Int64)), .second, .val (.ref a), .val (.int (2 : Int32)), .val (.int (1 : Int32)), .val (.int (3 : Int32))] []))
  refine Go.st (fun _ kt => XS.lloadN X0.here hx rfl (hb hby d4_60) rfl kt) ?_
  show Go p e below _ (s₁.setTop (mkF m 61 #[.val (.ref a), .val (.long (2 : Int64)), .second, .val (.ref a), .val (.int (2 : Int32)), .val (.int (1 : Int32)), .val (.int (3 : Int32))] [(.long (2 : Int64))]))
  refine Go.st (fun _ kt => XS.iload X0.here hx rfl (hb hby d4_61) rfl kt) ?_
  show Go p e below _ (s₁.setTop (mkF m 63 #[.val (.ref a), .val (.long (2 : Int64)), .second, .val (.ref a), .val (.int (2 : Int32)), .val (.int (1 : Int32)), .val (.int (3 : Int32))] [(.int (3 : Int32)), (.long (2 : Int64))]))
  refine Go.st (fun _ kt => XS.i2l X0.here hx rfl (hb hby d4_63) rfl kt) ?_
  show Go p e below _ (s₁.setTop (mkF m 64 #[.val (.ref a), .val (.long (2 : Int64)), .second, .val (.ref a), .val (.int (2 : Int32)), .val (.int (1 : Int32)), .val (.int (3 : Int32))] [(.long (3 : Int64)), (.long (2 : Int64))]))
  refine Go.st (fun _ kt => XS.lmul X0.here hx rfl (hb hby d4_64) rfl kt) ?_
  show Go p e below _ (s₁.setTop (mkF m 65 #[.val (.ref a), .val (.long (2 : Int64)), .second, .val (.ref a), .val (.int (2 : Int32)), .val (.int (1 : Int32)), .val (.int (3 : Int32))] [(.long (6 : Int64))]))
  refine Go.st (fun _ kt => XS.lstoreN X0.here hx rfl (hb hby d4_65) rfl (l' := #[.val (.ref a), .val (.long (6 : Int64)), .second, .val (.ref a), .val (.int (2 : Int32)), .val (.int (1 : Int32)), .val (.int (3 : Int32))]) rfl kt) ?_
  show Go p e below _ (s₁.setTop (mkF m 66 #[.val (.ref a), .val (.long (6 : Int64)), .second, .val (.ref a), .val (.int (2 : Int32)), .val (.int (1 : Int32)), .val (.int (3 : Int32))] []))
  refine Go.st (fun _ kt => XS.iinc X0.here hx rfl (hb hby d4_66) rfl (l' := #[.val (.ref a), .val (.long (6 : Int64)), .second, .val (.ref a), .val (.int (2 : Int32)), .val (.int (2 : Int32)), .val (.int (3 : Int32))]) rfl kt) ?_
  show Go p e below _ (s₁.setTop (mkF m 69 #[.val (.ref a), .val (.long (6 : Int64)), .second, .val (.ref a), .val (.int (2 : Int32)), .val (.int (2 : Int32)), .val (.int (3 : Int32))] []))
  refine Go.st (fun _ kt => XS.goto X0.here hx rfl (pc0 := 69) (pc' := 11) rfl (hb hby d4_69) (by decide) (by decide) kt) ?_
  show Go p e below _ (s₁.setTop (mkF m 11 #[.val (.ref a), .val (.long (6 : Int64)), .second, .val (.ref a), .val (.int (2 : Int32)), .val (.int (2 : Int32)), .val (.int (3 : Int32))] []))
  refine Go.st (fun _ kt => XS.iload X0.here hx rfl (hb hby d4_11) rfl kt) ?_
  show Go p e below _ (s₁.setTop (mkF m 13 #[.val (.ref a), .val (.long (6 : Int64)), .second, .val (.ref a), .val (.int (2 : Int32)), .val (.int (2 : Int32)), .val (.int (3 : Int32))] [(.int (2 : Int32))]))
  refine Go.st (fun _ kt => XS.iload X0.here hx rfl (hb hby d4_13) rfl kt) ?_
  show Go p e below _ (s₁.setTop (mkF m 15 #[.val (.ref a), .val (.long (6 : Int64)), .second, .val (.ref a), .val (.int (2 : Int32)), .val (.int (2 : Int32)), .val (.int (3 : Int32))] [(.int (2 : Int32)), (.int (2 : Int32))]))
  refine Go.st (fun _ kt => XS.icmpYes X0.here hx rfl (pc0 := 15) (pc' := 72) rfl (hb hby d4_15) rfl (flt (by decide : ¬ ((2 : Int32) < (2 : Int32)))).2.1 (by decide) (by decide) kt) ?_
  show Go p e below _ (s₁.setTop (mkF m 72 #[.val (.ref a), .val (.long (6 : Int64)), .second, .val (.ref a), .val (.int (2 : Int32)), .val (.int (2 : Int32)), .val (.int (3 : Int32))] []))
  refine Go.st (fun _ kt => XS.lloadN X0.here hx rfl (hb hby d4_72) rfl kt) ?_
  show Go p e below _ (s₁.setTop (mkF m 73 #[.val (.ref a), .val (.long (6 : Int64)), .second, .val (.ref a), .val (.int (2 : Int32)), .val (.int (2 : Int32)), .val (.int (3 : Int32))] [(.long (6 : Int64))]))
  refine Go.retL X0 hx Bd.returns (BodyLoose.notSynchronized Bd) (hb hby d4_73) (Q := (Q_rm4 Z a k0 h0 n0)) (by decide) (by decide) ?_
  show (Q_rm4 Z a k0 h0 n0) _ s₁.heap _
  rw [e0]
  exact ⟨rfl, N0, rfl⟩
theorem d5_0 : decode prog_87_method_2_code 0 = .ok (.aload_n 0, 1) := by decide +kernel
theorem d5_1 : decode prog_87_method_2_code 1 = .ok (.arraylength, 1) := by decide +kernel
theorem d5_2 : decode prog_87_method_2_code 2 = .ok (.newarray .int, 2) := by decide +kernel
theorem d5_4 : decode prog_87_method_2_code 4 = .ok (.astore_n 1, 1) := by decide +kernel
theorem d5_5 : decode prog_87_method_2_code 5 = .ok (.iconst 1, 1) := by decide +kernel
theorem d5_6 : decode prog_87_method_2_code 6 = .ok (.istore_n 2, 1) := by decide +kernel
theorem d5_7 : decode prog_87_method_2_code 7 = .ok (.aload_n 0, 1) := by decide +kernel
theorem d5_8 : decode prog_87_method_2_code 8 = .ok (.arraylength, 1) := by decide +kernel
theorem d5_9 : decode prog_87_method_2_code 9 = .ok (.iconst 1, 1) := by decide +kernel
theorem d5_10 : decode prog_87_method_2_code 10 = .ok (.isub, 1) := by decide +kernel
theorem d5_11 : decode prog_87_method_2_code 11 = .ok (.istore_n 3, 1) := by decide +kernel
theorem d5_12 : decode prog_87_method_2_code 12 = .ok (.iload_n 3, 1) := by decide +kernel
theorem d5_13 : decode prog_87_method_2_code 13 = .ok (.ifCond .lt 19, 3) := by decide +kernel
theorem d5_16 : decode prog_87_method_2_code 16 = .ok (.aload_n 1, 1) := by decide +kernel
theorem d5_17 : decode prog_87_method_2_code 17 = .ok (.iload_n 3, 1) := by decide +kernel
theorem d5_18 : decode prog_87_method_2_code 18 = .ok (.iload_n 2, 1) := by decide +kernel
theorem d5_19 : decode prog_87_method_2_code 19 = .ok (.iastore, 1) := by decide +kernel
theorem d5_20 : decode prog_87_method_2_code 20 = .ok (.iload_n 2, 1) := by decide +kernel
theorem d5_21 : decode prog_87_method_2_code 21 = .ok (.aload_n 0, 1) := by decide +kernel
theorem d5_22 : decode prog_87_method_2_code 22 = .ok (.iload_n 3, 1) := by decide +kernel
theorem d5_23 : decode prog_87_method_2_code 23 = .ok (.iaload, 1) := by decide +kernel
theorem d5_24 : decode prog_87_method_2_code 24 = .ok (.imul, 1) := by decide +kernel
theorem d5_25 : decode prog_87_method_2_code 25 = .ok (.istore_n 2, 1) := by decide +kernel
theorem d5_26 : decode prog_87_method_2_code 26 = .ok (.iinc 3 (-1), 3) := by decide +kernel
theorem d5_29 : decode prog_87_method_2_code 29 = .ok (.goto (-17), 3) := by decide +kernel
theorem d5_32 : decode prog_87_method_2_code 32 = .ok (.aload_n 1, 1) := by decide +kernel
theorem d5_33 : decode prog_87_method_2_code 33 = .ok (.areturn, 1) := by decide +kernel
def Q_rm5 (Z : State) (a : Addr) (k0 : ClassId) (h0 : Heap) (n0 : Nat) (v : Option Value) (h : Heap) (L : List Loc) : Prop := ∃ b kb, v = some (.ref b) ∧ Fr n0 L ∧ Keep h0 h [] ∧ h0.size ≤ b ∧ Arv Z h b kb .int (2 : Int32) [(.int (3 : Int32)), (.int (1 : Int32))] (.int (0 : Int32))
theorem ef_rm5 (m : MethodId) (a : Addr) : entryFrame m #[(.ref a)] 4 = mkF m 0 #[.val (.ref a), .unset, .unset, .unset] [] := by first | (simp [entryFrame, mkF, argsToLocals, Value.category]; done) | rfl
set_option maxRecDepth 65536 in
set_option maxHeartbeats 40000000 in
theorem rm5 (l : Launch) (Z : State) (a0 : Array Value) (hw : ∀ d ∈ tables_1, d.before a0 Z = true) (ws : List Jvm.Cond) (a : Addr) (k0 : ClassId) (h0 : Heap) (n0 : Nat) (Z0 : n0 ≤ h0.size) (V_a : Arv Z h0 a k0 .int (2 : Int32) [(.int (2 : Int32)), (.int (3 : Int32))] (.int (0 : Int32))) :
    MetFree l (⟨"com/example/tributary/tributary/model/CostTable", "strides", "([I)[I"⟩ : MethodName) (head1 (Jvm.Cond.code (⟨"com/example/tributary/tributary/model/CostTable", "strides", "([I)[I"⟩ : MethodName) prog_87_method_2_code 4 (some (.array .int)) :: ws) ({ frames := 0, cells := 1, slots := 2, locals := 0 } : Room)) (fun ag_ U_ => ag_ = #[(.ref a)] ∧ Z.Warmed39 U_.vm ∧ U_.heap = h0) (fun _ _ _ _ _ => True) (fun _ U_ o_ V_ => ∃ v_ L_, o_ = .returned v_ ∧ (Q_rm5 Z a k0 h0 n0) v_ V_.heap L_ ∧ FrameEnd U_ o_ V_ L_ ({ frames := 0, cells := 1, slots := 2, locals := 0 } : Room).cells ({ frames := 0, cells := 1, slots := 2, locals := 0 } : Room).slots) := by
  refine MetFree.of_bodySF (plainFor_of_name own_pn1) hisR ?_
  intro p e s m args below meth c s₁ Bd hml0 hP hK
  obtain ⟨rfl, hZ, hh⟩ := hP
  have hx := Bd.exec
  have hby := Bd.bytes
  have hml : c.maxLocals = 4 := hml0
  have hown : s.vm.findClass "com/example/tributary/tributary/model/CostTable" = some m.cls := findClass_of_methodNamed Bd.named
  have hnm := (name_of_methodNamed Bd.named Bd.method).1
  have X0 : Stand p l e ({ frames := 0, cells := 1, slots := 2, locals := 0 } : Room) s m #[(.ref a)] below meth c s₁ [] 0 0 := Stand.of_body Bd
  have e0 : s₁.heap = h0 := by rw [← hh, Bd.state]; rfl
  have N0 := Fr.nil n0
  refine Go.st (G := fun s₂ o_ => ∃ v_ L_, o_ = .returned v_ ∧ (Q_rm5 Z a k0 h0 n0) v_ s₂.heap L_ ∧ FrameEnd s o_ s₂ L_ ({ frames := 0, cells := 1, slots := 2, locals := 0 } : Room).cells ({ frames := 0, cells := 1, slots := 2, locals := 0 } : Room).slots) (fun t kt => castTop (ef_rm5 m a) kt) ?_
  show Go p e below _ (s₁.setTop (mkF m 0 #[.val (.ref a), .unset, .unset, .unset] []))
  refine Go.st (fun _ kt => XS.aloadN X0.here hx rfl (hb hby d5_0) rfl rfl kt) ?_
  show Go p e below _ (s₁.setTop (mkF m 1 #[.val (.ref a), .unset, .unset, .unset] [(.ref a)]))
  obtain ⟨cl1, Ar1, -, S1, N1', -, -⟩ := id V_a
  refine Go.st (fun _ kt => X0.arraylength hx (by rw [e0]; exact Ar1.1) (State.isArrayOf_alike hZ.alike Ar1.2.1) (g := (mkF m 1 #[.val (.ref a), .unset, .unset, .unset] [(.ref a)])) rfl rfl (hb hby d5_1) _ kt) ?_
  rw [len_of S1 N1']
  show Go p e below _ (s₁.setTop (mkF m 2 #[.val (.ref a), .unset, .unset, .unset] [(.int (2 : Int32))]))
  obtain ⟨T2, h2, k2, X2, e2, E2, A2, Y2, st2⟩ := newPE X0 hx hZ (hw _ (List.mem_of_getElem? (i := 6) rfl)) e0 (g := (mkF m 2 #[.val (.ref a), .unset, .unset, .unset] [(.int (2 : Int32))])) rfl (hb hby d5_2) rfl (by decide) (cap := 2) (by decide) (by decide) (by decide) (by decide) (ad := "[I") (by decide)
  obtain ⟨b2, g2⟩ : ∃ z, z = h0.size := ⟨_, rfl⟩
  rw [← g2] at A2 Y2 st2
  have lt_a_b2 : a < b2 := Nat.lt_of_lt_of_eq V_a.lt g2.symm
  have gn_b2 : n0 ≤ b2 := Nat.le_trans Z0 (Nat.le_of_eq g2.symm)
  have Zs2 : n0 ≤ h2.size := Nat.le_trans Z0 E2.1
  have K2 : Keep h0 h2 [] := (Keep.refl h0 []).ext E2
  have kn_b2 : h0.size ≤ b2 := Nat.le_trans (Keep.refl h0 []).1 (Nat.le_of_eq g2.symm)
  refine Go.st st2 ?_
  have V2 : Arv Z h2 b2 k2 .int (2 : Int32) [(.int (0 : Int32)), (.int (0 : Int32))] (.int (0 : Int32)) := (Arv.new A2 (by decide)).pad (pad_rep [] (.int (0 : Int32)) 2)
  show Go p e below _ (T2.setTop (mkF m 4 #[.val (.ref a), .unset, .unset, .unset] [(.ref b2)]))
  refine Go.st (fun _ kt => XS.astoreN X2.here hx rfl (hb hby d5_4) rfl rfl (l' := #[.val (.ref a), .val (.ref b2), .unset, .unset]) rfl kt) ?_
  show Go p e below _ (T2.setTop (mkF m 5 #[.val (.ref a), .val (.ref b2), .unset, .unset] []))
  refine Go.st (fun _ kt => XS.iconst X2.here hx rfl (hb hby d5_5) kt) ?_
  show Go p e below _ (T2.setTop (mkF m 6 #[.val (.ref a), .val (.ref b2), .unset, .unset] [(.int (1 : Int32))]))
  refine Go.st (fun _ kt => XS.istoreN X2.here hx rfl (hb hby d5_6) rfl (l' := #[.val (.ref a), .val (.ref b2), .val (.int (1 : Int32)), .unset]) rfl kt) ?_
  show Go p e below _ (T2.setTop (mkF m 7 #[.val (.ref a), .val (.ref b2), .val (.int (1 : Int32)), .unset] []))
  refine Go.st (fun _ kt => XS.aloadN X2.here hx rfl (hb hby d5_7) rfl rfl kt) ?_
  show Go p e below _ (T2.setTop (mkF m 8 #[.val (.ref a), .val (.ref b2), .val (.int (1 : Int32)), .unset] [(.ref a)]))
  have f4 := (V_a.ext E2)
  obtain ⟨cl3, Ar3, -, S3, N3', -, -⟩ := id f4
  refine Go.st (fun _ kt => X2.arraylength hx (by rw [e2]; exact Ar3.1) (State.isArrayOf_alike hZ.alike Ar3.2.1) (g := (mkF m 8 #[.val (.ref a), .val (.ref b2), .val (.int (1 : Int32)), .unset] [(.ref a)])) rfl rfl (hb hby d5_8) _ kt) ?_
  rw [len_of S3 N3']
  show Go p e below _ (T2.setTop (mkF m 9 #[.val (.ref a), .val (.ref b2), .val (.int (1 : Int32)), .unset] [(.int (2 : Int32))]))
  refine Go.st (fun _ kt => XS.iconst X2.here hx rfl (hb hby d5_9) kt) ?_
  show Go p e below _ (T2.setTop (mkF m 10 #[.val (.ref a), .val (.ref b2), .val (.int (1 : Int32)), .unset] [(.int (1 : Int32)), (.int (2 : Int32))]))
  refine Go.st (fun _ kt => XS.isub X2.here hx rfl (hb hby d5_10) rfl kt) ?_
  show Go p e below _ (T2.setTop (mkF m 11 #[.val (.ref a), .val (.ref b2), .val (.int (1 : Int32)), .unset] [(.int (1 : Int32))]))
  refine Go.st (fun _ kt => XS.istoreN X2.here hx rfl (hb hby d5_11) rfl (l' := #[.val (.ref a), .val (.ref b2), .val (.int (1 : Int32)), .val (.int (1 : Int32))]) rfl kt) ?_
  show Go p e below _ (T2.setTop (mkF m 12 #[.val (.ref a), .val (.ref b2), .val (.int (1 : Int32)), .val (.int (1 : Int32))] []))
  refine Go.st (fun _ kt => XS.iloadN X2.here hx rfl (hb hby d5_12) rfl kt) ?_
  show Go p e below _ (T2.setTop (mkF m 13 #[.val (.ref a), .val (.ref b2), .val (.int (1 : Int32)), .val (.int (1 : Int32))] [(.int (1 : Int32))]))
  refine Go.st (fun _ kt => XS.ifNo X2.here hx rfl (hb hby d5_13) rfl ((if0 _ _).trans (flt (by decide : ¬ ((1 : Int32) < (0 : Int32)))).1) kt) ?_
  show Go p e below _ (T2.setTop (mkF m 16 #[.val (.ref a), .val (.ref b2), .val (.int (1 : Int32)), .val (.int (1 : Int32))] []))
  refine Go.st (fun _ kt => XS.aloadN X2.here hx rfl (hb hby d5_16) rfl rfl kt) ?_
  show Go p e below _ (T2.setTop (mkF m 17 #[.val (.ref a), .val (.ref b2), .val (.int (1 : Int32)), .val (.int (1 : Int32))] [(.ref b2)]))
  refine Go.st (fun _ kt => XS.iloadN X2.here hx rfl (hb hby d5_17) rfl kt) ?_
  show Go p e below _ (T2.setTop (mkF m 18 #[.val (.ref a), .val (.ref b2), .val (.int (1 : Int32)), .val (.int (1 : Int32))] [(.int (1 : Int32)), (.ref b2)]))
  refine Go.st (fun _ kt => XS.iloadN X2.here hx rfl (hb hby d5_18) rfl kt) ?_
  show Go p e below _ (T2.setTop (mkF m 19 #[.val (.ref a), .val (.ref b2), .val (.int (1 : Int32)), .val (.int (1 : Int32))] [(.int (1 : Int32)), (.int (1 : Int32)), (.ref b2)]))
  obtain ⟨cl5, Ar5, q5, S5, N5', H5, G5⟩ := id V2
  have hin5 : ¬ ((1 : Int32) < 0 ∨ cl5.slots.size ≤ ((1 : Int32)).toNatClampNeg) := inb_of S5 ⟨by decide, by decide⟩
  obtain ⟨T6, h6, X6, e6, W6, st6⟩ := stI X2 hx hZ e2 Ar5 (j := (1 : Int32)) hin5 (g := (mkF m 19 #[.val (.ref a), .val (.ref b2), .val (.int (1 : Int32)), .val (.int (1 : Int32))] [(.int (1 : Int32)), (.int (1 : Int32)), (.ref b2)])) rfl rfl (hb hby d5_19)
  refine Go.st st6 ?_
  have V6 : Arv Z h6 b2 k2 .int (2 : Int32) [(.int (0 : Int32)), (.int (1 : Int32))] (.int (0 : Int32)) := Arv.set Ar5 q5 S5 N5' H5 G5 rfl W6 1 rfl (Nat.le_of_ble_eq_true rfl)
  have Zs6 : n0 ≤ h6.size := Nat.le_trans Zs2 (Nat.le_of_eq W6.size.symm)
  have N6 := Fr.snoc X6 N0 gn_b2
  have K6 : Keep h0 h6 [] := K2.wr W6 (Or.inr kn_b2)
  show Go p e below _ (T6.setTop (mkF m 20 #[.val (.ref a), .val (.ref b2), .val (.int (1 : Int32)), .val (.int (1 : Int32))] []))
  refine Go.st (fun _ kt => XS.iloadN X6.here hx rfl (hb hby d5_20) rfl kt) ?_
  show Go p e below _ (T6.setTop (mkF m 21 #[.val (.ref a), .val (.ref b2), .val (.int (1 : Int32)), .val (.int (1 : Int32))] [(.int (1 : Int32))]))
  refine Go.st (fun _ kt => XS.aloadN X6.here hx rfl (hb hby d5_21) rfl rfl kt) ?_
  show Go p e below _ (T6.setTop (mkF m 22 #[.val (.ref a), .val (.ref b2), .val (.int (1 : Int32)), .val (.int (1 : Int32))] [(.ref a), (.int (1 : Int32))]))
  refine Go.st (fun _ kt => XS.iloadN X6.here hx rfl (hb hby d5_22) rfl kt) ?_
  show Go p e below _ (T6.setTop (mkF m 23 #[.val (.ref a), .val (.ref b2), .val (.int (1 : Int32)), .val (.int (1 : Int32))] [(.int (1 : Int32)), (.ref a), (.int (1 : Int32))]))
  have f7 := (f4.other W6 (Nat.ne_of_lt lt_a_b2))
  obtain ⟨cl8, Ar8, -, S8, N8', H8, G8⟩ := id f7
  have hin8 := inb_of S8 (j := (1 : Int32)) ⟨by decide, by decide⟩
  have hat8 := Has.at H8 hin8 (v := (.int (3 : Int32))) rfl
  refine Go.st (fun _ kt => X6.iaload hx (j := (1 : Int32)) (v := (.int (3 : Int32))) (by rw [e6]; exact Ar8.1) (State.isArrayOf_alike hZ.alike Ar8.2.1) Ar8.2.2 hin8 hat8 (g := (mkF m 23 #[.val (.ref a), .val (.ref b2), .val (.int (1 : Int32)), .val (.int (1 : Int32))] [(.int (1 : Int32)), (.ref a), (.int (1 : Int32))])) rfl rfl (hb hby d5_23) _ kt) ?_
  show Go p e below _ (T6.setTop (mkF m 24 #[.val (.ref a), .val (.ref b2), .val (.int (1 : Int32)), .val (.int (1 : Int32))] [(.int (3 : Int32)), (.int (1 : Int32))]))
  refine Go.st (fun _ kt => XS.imul X6.here hx rfl (hb hby d5_24) rfl kt) ?_
  show Go p e below _ (T6.setTop (mkF m 25 #[.val (.ref a), .val (.ref b2), .val (.int (1 : Int32)), .val (.int (1 : Int32))] [(.int (3 : Int32))]))
  refine Go.st (fun _ kt => XS.istoreN X6.here hx rfl (hb hby d5_25) rfl (l' := #[.val (.ref a), .val (.ref b2), .val (.int (3 : Int32)), .val (.int (1 : Int32))]) rfl kt) ?_
  show Go p e below _ (T6.setTop (mkF m 26 #[.val (.ref a), .val (.ref b2), .val (.int (3 : Int32)), .val (.int (1 : Int32))] []))
  refine Go.st (fun _ kt => XS.iinc X6.here hx rfl (hb hby d5_26) rfl (l' := #[.val (.ref a), .val (.ref b2), .val (.int (3 : Int32)), .val (.int (0 : Int32))]) rfl kt) ?_
  show Go p e below _ (T6.setTop (mkF m 29 #[.val (.ref a), .val (.ref b2), .val (.int (3 : Int32)), .val (.int (0 : Int32))] []))
  refine Go.st (fun _ kt => XS.goto X6.here hx rfl (pc0 := 29) (pc' := 12) rfl (hb hby d5_29) (by decide) (by decide) kt) ?_
  show Go p e below _ (T6.setTop (mkF m 12 #[.val (.ref a), .val (.ref b2), .val (.int (3 : Int32)), .val (.int (0 : Int32))] []))
  refine Go.st (fun _ kt => XS.iloadN X6.here hx rfl (hb hby d5_12) rfl kt) ?_
  show Go p e below _ (T6.setTop (mkF m 13 #[.val (.ref a), .val (.ref b2), .val (.int (3 : Int32)), .val (.int (0 : Int32))] [(.int (0 : Int32))]))
  refine Go.st (fun _ kt => XS.ifNo X6.here hx rfl (hb hby d5_13) rfl ((if0 _ _).trans (flt (by decide : ¬ ((0 : Int32) < (0 : Int32)))).1) kt) ?_
  show Go p e below _ (T6.setTop (mkF m 16 #[.val (.ref a), .val (.ref b2), .val (.int (3 : Int32)), .val (.int (0 : Int32))] []))
  refine Go.st (fun _ kt => XS.aloadN X6.here hx rfl (hb hby d5_16) rfl rfl kt) ?_
  show Go p e below _ (T6.setTop (mkF m 17 #[.val (.ref a), .val (.ref b2), .val (.int (3 : Int32)), .val (.int (0 : Int32))] [(.ref b2)]))
  refine Go.st (fun _ kt => XS.iloadN X6.here hx rfl (hb hby d5_17) rfl kt) ?_
  show Go p e below _ (T6.setTop (mkF m 18 #[.val (.ref a), .val (.ref b2), .val (.int (3 : Int32)), .val (.int (0 : Int32))] [(.int (0 : Int32)), (.ref b2)]))
  refine Go.st (fun _ kt => XS.iloadN X6.here hx rfl (hb hby d5_18) rfl kt) ?_
  show Go p e below _ (T6.setTop (mkF m 19 #[.val (.ref a), .val (.ref b2), .val (.int (3 : Int32)), .val (.int (0 : Int32))] [(.int (3 : Int32)), (.int (0 : Int32)), (.ref b2)]))
  obtain ⟨cl9, Ar9, q9, S9, N9', H9, G9⟩ := id V6
  have hin9 : ¬ ((0 : Int32) < 0 ∨ cl9.slots.size ≤ ((0 : Int32)).toNatClampNeg) := inb_of S9 ⟨by decide, by decide⟩
  obtain ⟨T10, h10, X10, e10, W10, st10⟩ := stI X6 hx hZ e6 Ar9 (j := (0 : Int32)) hin9 (g := (mkF m 19 #[.val (.ref a), .val (.ref b2), .val (.int (3 : Int32)), .val (.int (0 : Int32))] [(.int (3 : Int32)), (.int (0 : Int32)), (.ref b2)])) rfl rfl (hb hby d5_19)
  refine Go.st st10 ?_
  have V10 : Arv Z h10 b2 k2 .int (2 : Int32) [(.int (3 : Int32)), (.int (1 : Int32))] (.int (0 : Int32)) := Arv.set Ar9 q9 S9 N9' H9 G9 rfl W10 0 rfl (Nat.le_of_ble_eq_true rfl)
  have Zs10 : n0 ≤ h10.size := Nat.le_trans Zs6 (Nat.le_of_eq W10.size.symm)
  have N10 := Fr.snoc X10 N6 gn_b2
  have K10 : Keep h0 h10 [] := K6.wr W10 (Or.inr kn_b2)
  show Go p e below _ (T10.setTop (mkF m 20 #[.val (.ref a), .val (.ref b2), .val (.int (3 : Int32)), .val (.int (0 : Int32))] []))
  refine Go.st (fun _ kt => XS.iloadN X10.here hx rfl (hb hby d5_20) rfl kt) ?_
  show Go p e below _ (T10.setTop (mkF m 21 #[.val (.ref a), .val (.ref b2), .val (.int (3 : Int32)), .val (.int (0 : Int32))] [(.int (3 : Int32))]))
  refine Go.st (fun _ kt => XS.aloadN X10.here hx rfl (hb hby d5_21) rfl rfl kt) ?_
  show Go p e below _ (T10.setTop (mkF m 22 #[.val (.ref a), .val (.ref b2), .val (.int (3 : Int32)), .val (.int (0 : Int32))] [(.ref a), (.int (3 : Int32))]))
  refine Go.st (fun _ kt => XS.iloadN X10.here hx rfl (hb hby d5_22) rfl kt) ?_
  show Go p e below _ (T10.setTop (mkF m 23 #[.val (.ref a), .val (.ref b2), .val (.int (3 : Int32)), .val (.int (0 : Int32))] [(.int (0 : Int32)), (.ref a), (.int (3 : Int32))]))
  have f11 := (f7.other W10 (Nat.ne_of_lt lt_a_b2))
  obtain ⟨cl12, Ar12, -, S12, N12', H12, G12⟩ := id f11
  have hin12 := inb_of S12 (j := (0 : Int32)) ⟨by decide, by decide⟩
  have hat12 := Has.at H12 hin12 (v := (.int (2 : Int32))) rfl
  refine Go.st (fun _ kt => X10.iaload hx (j := (0 : Int32)) (v := (.int (2 : Int32))) (by rw [e10]; exact Ar12.1) (State.isArrayOf_alike hZ.alike Ar12.2.1) Ar12.2.2 hin12 hat12 (g := (mkF m 23 #[.val (.ref a), .val (.ref b2), .val (.int (3 : Int32)), .val (.int (0 : Int32))] [(.int (0 : Int32)), (.ref a), (.int (3 : Int32))])) rfl rfl (hb hby d5_23) _ kt) ?_
  show Go p e below _ (T10.setTop (mkF m 24 #[.val (.ref a), .val (.ref b2), .val (.int (3 : Int32)), .val (.int (0 : Int32))] [(.int (2 : Int32)), (.int (3 : Int32))]))
  refine Go.st (fun _ kt => XS.imul X10.here hx rfl (hb hby d5_24) rfl kt) ?_
  show Go p e below _ (T10.setTop (mkF m 25 #[.val (.ref a), .val (.ref b2), .val (.int (3 : Int32)), .val (.int (0 : Int32))] [(.int (6 : Int32))]))
  refine Go.st (fun _ kt => XS.istoreN X10.here hx rfl (hb hby d5_25) rfl (l' := #[.val (.ref a), .val (.ref b2), .val (.int (6 : Int32)), .val (.int (0 : Int32))]) rfl kt) ?_
  show Go p e below _ (T10.setTop (mkF m 26 #[.val (.ref a), .val (.ref b2), .val (.int (6 : Int32)), .val (.int (0 : Int32))] []))
  refine Go.st (fun _ kt => XS.iinc X10.here hx rfl (hb hby d5_26) rfl (l' := #[.val (.ref a), .val (.ref b2), .val (.int (6 : Int32)), .val (.int (-1 : Int32))]) rfl kt) ?_
  show Go p e below _ (T10.setTop (mkF m 29 #[.val (.ref a), .val (.ref b2), .val (.int (6 : Int32)), .val (.int (-1 : Int32))] []))
  refine Go.st (fun _ kt => XS.goto X10.here hx rfl (pc0 := 29) (pc' := 12) rfl (hb hby d5_29) (by decide) (by decide) kt) ?_
  show Go p e below _ (T10.setTop (mkF m 12 #[.val (.ref a), .val (.ref b2), .val (.int (6 : Int32)), .val (.int (-1 : Int32))] []))
  refine Go.st (fun _ kt => XS.iloadN X10.here hx rfl (hb hby d5_12) rfl kt) ?_
  show Go p e below _ (T10.setTop (mkF m 13 #[.val (.ref a), .val (.ref b2), .val (.int (6 : Int32)), .val (.int (-1 : Int32))] [(.int (-1 : Int32))]))
  refine Go.st (fun _ kt => XS.ifYes X10.here hx rfl (pc0 := 13) (pc' := 32) rfl (hb hby d5_13) rfl ((if0 _ _).trans (tlt (by decide : (-1 : Int32) < (0 : Int32))).1) (by decide) (by decide) kt) ?_
  show Go p e below _ (T10.setTop (mkF m 32 #[.val (.ref a), .val (.ref b2), .val (.int (6 : Int32)), .val (.int (-1 : Int32))] []))
  refine Go.st (fun _ kt => XS.aloadN X10.here hx rfl (hb hby d5_32) rfl rfl kt) ?_
  show Go p e below _ (T10.setTop (mkF m 33 #[.val (.ref a), .val (.ref b2), .val (.int (6 : Int32)), .val (.int (-1 : Int32))] [(.ref b2)]))
  refine Go.retA X10 hx Bd.returns rfl rfl (BodyLoose.notSynchronized Bd) (hb hby d5_33) (Q := (Q_rm5 Z a k0 h0 n0)) (by decide) (by decide) ?_
  show (Q_rm5 Z a k0 h0 n0) _ T10.heap _
  rw [e10]
  exact ⟨b2, k2, rfl, N10, K10, kn_b2, V10⟩
theorem own_pd2 : parseMethodDescriptor "([I)J" = some ⟨[(.array .int)], some .long⟩ := by decide +kernel
theorem own_pd3 : parseMethodDescriptor "([I)[I" = some ⟨[(.array .int)], some (.array .int)⟩ := by decide +kernel
theorem d2_0 : decode prog_87_method_1_code 0 = .ok (.aload_n 0, 1) := by decide +kernel
theorem d2_1 : decode prog_87_method_1_code 1 = .ok (.invokespecial 3, 3) := by decide +kernel
theorem d2_4 : decode prog_87_method_1_code 4 = .ok (.aload_n 1, 1) := by decide +kernel
theorem d2_5 : decode prog_87_method_1_code 5 = .ok (.arraylength, 1) := by decide +kernel
theorem d2_6 : decode prog_87_method_1_code 6 = .ok (.aload_n 2, 1) := by decide +kernel
theorem d2_7 : decode prog_87_method_1_code 7 = .ok (.arraylength, 1) := by decide +kernel
theorem d2_8 : decode prog_87_method_1_code 8 = .ok (.if_icmp .eq 20, 3) := by decide +kernel
theorem d2_28 : decode prog_87_method_1_code 28 = .ok (.iconst 1, 1) := by decide +kernel
theorem d2_29 : decode prog_87_method_1_code 29 = .ok (.istore 4, 2) := by decide +kernel
theorem d2_31 : decode prog_87_method_1_code 31 = .ok (.iload 4, 2) := by decide +kernel
theorem d2_33 : decode prog_87_method_1_code 33 = .ok (.aload_n 1, 1) := by decide +kernel
theorem d2_34 : decode prog_87_method_1_code 34 = .ok (.arraylength, 1) := by decide +kernel
theorem d2_35 : decode prog_87_method_1_code 35 = .ok (.if_icmp .ge 53, 3) := by decide +kernel
theorem d2_38 : decode prog_87_method_1_code 38 = .ok (.iconst 0, 1) := by decide +kernel
theorem d2_39 : decode prog_87_method_1_code 39 = .ok (.istore 5, 2) := by decide +kernel
theorem d2_41 : decode prog_87_method_1_code 41 = .ok (.iload 5, 2) := by decide +kernel
theorem d2_43 : decode prog_87_method_1_code 43 = .ok (.iload 4, 2) := by decide +kernel
theorem d2_45 : decode prog_87_method_1_code 45 = .ok (.if_icmp .ge 37, 3) := by decide +kernel
theorem d2_48 : decode prog_87_method_1_code 48 = .ok (.aload_n 1, 1) := by decide +kernel
theorem d2_49 : decode prog_87_method_1_code 49 = .ok (.iload 5, 2) := by decide +kernel
theorem d2_51 : decode prog_87_method_1_code 51 = .ok (.iaload, 1) := by decide +kernel
theorem d2_52 : decode prog_87_method_1_code 52 = .ok (.aload_n 1, 1) := by decide +kernel
theorem d2_53 : decode prog_87_method_1_code 53 = .ok (.iload 4, 2) := by decide +kernel
theorem d2_55 : decode prog_87_method_1_code 55 = .ok (.iaload, 1) := by decide +kernel
theorem d2_56 : decode prog_87_method_1_code 56 = .ok (.if_icmp .ne 20, 3) := by decide +kernel
theorem d2_76 : decode prog_87_method_1_code 76 = .ok (.iinc 5 1, 3) := by decide +kernel
theorem d2_79 : decode prog_87_method_1_code 79 = .ok (.goto (-38), 3) := by decide +kernel
theorem d2_82 : decode prog_87_method_1_code 82 = .ok (.iinc 4 1, 3) := by decide +kernel
theorem d2_85 : decode prog_87_method_1_code 85 = .ok (.goto (-54), 3) := by decide +kernel
theorem d2_88 : decode prog_87_method_1_code 88 = .ok (.aload_n 2, 1) := by decide +kernel
theorem d2_89 : decode prog_87_method_1_code 89 = .ok (.invokestatic 27, 3) := by decide +kernel
theorem d2_92 : decode prog_87_method_1_code 92 = .ok (.aload_n 3, 1) := by decide +kernel
theorem d2_93 : decode prog_87_method_1_code 93 = .ok (.arraylength, 1) := by decide +kernel
theorem d2_94 : decode prog_87_method_1_code 94 = .ok (.i2l, 1) := by decide +kernel
theorem d2_95 : decode prog_87_method_1_code 95 = .ok (.lcmp, 1) := by decide +kernel
theorem d2_96 : decode prog_87_method_1_code 96 = .ok (.ifCond .eq 22, 3) := by decide +kernel
theorem d2_118 : decode prog_87_method_1_code 118 = .ok (.aload_n 0, 1) := by decide +kernel
theorem d2_119 : decode prog_87_method_1_code 119 = .ok (.aload_n 1, 1) := by decide +kernel
theorem d2_120 : decode prog_87_method_1_code 120 = .ok (.invokevirtual 36, 3) := by decide +kernel
theorem d2_123 : decode prog_87_method_1_code 123 = .ok (.checkcast 37, 3) := by decide +kernel
theorem d2_126 : decode prog_87_method_1_code 126 = .ok (.putfield 42, 3) := by decide +kernel
theorem d2_129 : decode prog_87_method_1_code 129 = .ok (.aload_n 0, 1) := by decide +kernel
theorem d2_130 : decode prog_87_method_1_code 130 = .ok (.aload_n 2, 1) := by decide +kernel
theorem d2_131 : decode prog_87_method_1_code 131 = .ok (.invokevirtual 36, 3) := by decide +kernel
theorem d2_134 : decode prog_87_method_1_code 134 = .ok (.checkcast 37, 3) := by decide +kernel
theorem d2_137 : decode prog_87_method_1_code 137 = .ok (.putfield 45, 3) := by decide +kernel
theorem d2_140 : decode prog_87_method_1_code 140 = .ok (.aload_n 0, 1) := by decide +kernel
theorem d2_141 : decode prog_87_method_1_code 141 = .ok (.aload_n 2, 1) := by decide +kernel
theorem d2_142 : decode prog_87_method_1_code 142 = .ok (.invokestatic 48, 3) := by decide +kernel
theorem d2_145 : decode prog_87_method_1_code 145 = .ok (.putfield 52, 3) := by decide +kernel
theorem d2_148 : decode prog_87_method_1_code 148 = .ok (.aload_n 0, 1) := by decide +kernel
theorem d2_149 : decode prog_87_method_1_code 149 = .ok (.aload_n 3, 1) := by decide +kernel
theorem d2_150 : decode prog_87_method_1_code 150 = .ok (.putfield 54, 3) := by decide +kernel
theorem d2_153 : decode prog_87_method_1_code 153 = .ok (.return_, 1) := by decide +kernel
def Q_rm2 (Z : State) (a : Addr) (av : Addr) (az : Addr) (ac : Addr) (kv : ClassId) (ks : ClassId) (kc : ClassId) (y0 : Int32) (y1 : Int32) (vc : List Value) (h0 : Heap) (n0 : Nat) (v : Option Value) (h : Heap) (L : List Loc) : Prop := ∃ bv kbv br kbr, v = none ∧ Fr n0 L ∧ Keep h0 h [a] ∧ h0.size ≤ bv ∧ h0.size ≤ br ∧ Fld Z h a "com/example/tributary/tributary/model/CostTable" "variables" "[I" (.ref bv) ∧ Fld Z h a "com/example/tributary/tributary/model/CostTable" "strides" "[I" (.ref br) ∧ Fld Z h a "com/example/tributary/tributary/model/CostTable" "costs" "[D" (.ref ac) ∧ Arv Z h bv kbv .int (2 : Int32) [(.int y0), (.int y1)] (.int (0 : Int32)) ∧ Arv Z h br kbr .int (2 : Int32) [(.int (3 : Int32)), (.int (1 : Int32))] (.int (0 : Int32))
theorem ef_rm2 (m : MethodId) (a : Addr) (av : Addr) (az : Addr) (ac : Addr) : entryFrame m #[(.ref a), (.ref av), (.ref az), (.ref ac)] 6 = mkF m 0 #[.val (.ref a), .val (.ref av), .val (.ref az), .val (.ref ac), .unset, .unset] [] := by first | (simp [entryFrame, mkF, argsToLocals, Value.category]; done) | rfl
set_option maxRecDepth 65536 in
set_option maxHeartbeats 40000000 in
theorem rm2 (l : Launch) (Z : State) (a0 : Array Value) (hw : ∀ d ∈ tables_1, d.before a0 Z = true) (ws : List Jvm.Cond) (a : Addr) (av : Addr) (az : Addr) (ac : Addr) (kv : ClassId) (ks : ClassId) (kc : ClassId) (y0 : Int32) (y1 : Int32) (vc : List Value) (h0 : Heap) (n0 : Nat) (Z0 : n0 ≤ h0.size) (E_a : Exa Z h0 a "com/example/tributary/tributary/model/CostTable") (F_variables : Fld Z h0 a "com/example/tributary/tributary/model/CostTable" "variables" "[I" .null) (F_sizes : Fld Z h0 a "com/example/tributary/tributary/model/CostTable" "sizes" "[I" .null) (F_strides : Fld Z h0 a "com/example/tributary/tributary/model/CostTable" "strides" "[I" .null) (F_costs : Fld Z h0 a "com/example/tributary/tributary/model/CostTable" "costs" "[D" .null) (V_v : Arv Z h0 av kv .int (2 : Int32) [(.int y0), (.int y1)] (.int (0 : Int32))) (V_s : Arv Z h0 az ks .int (2 : Int32) [(.int (2 : Int32)), (.int (3 : Int32))] (.int (0 : Int32))) (V_c : Arv Z h0 ac kc .double (6 : Int32) vc (.double (0 : UInt64))) (E_v : Exa Z h0 av "[I") (E_s : Exa Z h0 az "[I") (gn_a : n0 ≤ a) (hva : ¬ av = a) (hsa : ¬ az = a) (hca : ¬ ac = a) (hd01 : ¬ y0 = y1) :
    MetFree l (⟨"com/example/tributary/tributary/model/CostTable", "<init>", "([I[I[D)V"⟩ : MethodName) (head1 (Jvm.Cond.code (⟨"com/example/tributary/tributary/model/CostTable", "<init>", "([I[I[D)V"⟩ : MethodName) prog_87_method_1_code 6 none :: ws) ({ frames := 1, cells := 3, slots := 6, locals := 18 } : Room)) (fun ag_ U_ => ag_ = #[(.ref a), (.ref av), (.ref az), (.ref ac)] ∧ Z.Warmed39 U_.vm ∧ U_.heap = h0) (fun _ _ _ _ _ => True) (fun _ U_ o_ V_ => ∃ v_ L_, o_ = .returned v_ ∧ (Q_rm2 Z a av az ac kv ks kc y0 y1 vc h0 n0) v_ V_.heap L_ ∧ FrameEnd U_ o_ V_ L_ ({ frames := 1, cells := 3, slots := 6, locals := 18 } : Room).cells ({ frames := 1, cells := 3, slots := 6, locals := 18 } : Room).slots) := by
  refine MetFree.of_bodySF (plainFor_of_name own_pn1) hisR ?_
  intro p e s m args below meth c s₁ Bd hml0 hP hK
  obtain ⟨rfl, hZ, hh⟩ := hP
  have hx := Bd.exec
  have hby := Bd.bytes
  have hml : c.maxLocals = 6 := hml0
  have hown : s.vm.findClass "com/example/tributary/tributary/model/CostTable" = some m.cls := findClass_of_methodNamed Bd.named
  have hnm := (name_of_methodNamed Bd.named Bd.method).1
  have X0 : Stand p l e ({ frames := 1, cells := 3, slots := 6, locals := 18 } : Room) s m #[(.ref a), (.ref av), (.ref az), (.ref ac)] below meth c s₁ [] 0 0 := Stand.of_body Bd
  have e0 : s₁.heap = h0 := by rw [← hh, Bd.state]; rfl
  have N0 := Fr.nil n0
  refine Go.st (G := fun s₂ o_ => ∃ v_ L_, o_ = .returned v_ ∧ (Q_rm2 Z a av az ac kv ks kc y0 y1 vc h0 n0) v_ s₂.heap L_ ∧ FrameEnd s o_ s₂ L_ ({ frames := 1, cells := 3, slots := 6, locals := 18 } : Room).cells ({ frames := 1, cells := 3, slots := 6, locals := 18 } : Room).slots) (fun t kt => castTop (ef_rm2 m a av az ac) kt) ?_
  show Go p e below _ (s₁.setTop (mkF m 0 #[.val (.ref a), .val (.ref av), .val (.ref az), .val (.ref ac), .unset, .unset] []))
  refine Go.st (fun _ kt => XS.aloadN X0.here hx rfl (hb hby d2_0) rfl rfl kt) ?_
  show Go p e below _ (s₁.setTop (mkF m 1 #[.val (.ref a), .val (.ref av), .val (.ref az), .val (.ref ac), .unset, .unset] [(.ref a)]))
  obtain ⟨T1, X1, e1, st1⟩ := initO X0 hx hZ hown (hw _ (List.mem_of_getElem? (i := 13) rfl)) (hw _ (List.mem_of_getElem? (i := 14) rfl)) (hw _ (List.mem_of_getElem? (i := 15) rfl)) e0 (g := (mkF m 1 #[.val (.ref a), .val (.ref av), .val (.ref az), .val (.ref ac), .unset, .unset] [(.ref a)])) rfl (by rw [hml]; rfl) rfl (hb hby d2_1) (by decide) (W := 0) (by show 2 * 0 + _ ≤ _; exact Nat.le_of_eq rfl) (by decide)
  refine Go.st st1 ?_
  show Go p e below _ (T1.setTop (mkF m 4 #[.val (.ref a), .val (.ref av), .val (.ref az), .val (.ref ac), .unset, .unset] []))
  refine Go.st (fun _ kt => XS.aloadN X1.here hx rfl (hb hby d2_4) rfl rfl kt) ?_
  show Go p e below _ (T1.setTop (mkF m 5 #[.val (.ref a), .val (.ref av), .val (.ref az), .val (.ref ac), .unset, .unset] [(.ref av)]))
  obtain ⟨cl2, Ar2, -, S2, N2', -, -⟩ := id V_v
  refine Go.st (fun _ kt => X1.arraylength hx (by rw [e1]; exact Ar2.1) (State.isArrayOf_alike hZ.alike Ar2.2.1) (g := (mkF m 5 #[.val (.ref a), .val (.ref av), .val (.ref az), .val (.ref ac), .unset, .unset] [(.ref av)])) rfl rfl (hb hby d2_5) _ kt) ?_
  rw [len_of S2 N2']
  show Go p e below _ (T1.setTop (mkF m 6 #[.val (.ref a), .val (.ref av), .val (.ref az), .val (.ref ac), .unset, .unset] [(.int (2 : Int32))]))
  refine Go.st (fun _ kt => XS.aloadN X1.here hx rfl (hb hby d2_6) rfl rfl kt) ?_
  show Go p e below _ (T1.setTop (mkF m 7 #[.val (.ref a), .val (.ref av), .val (.ref az), .val (.ref ac), .unset, .unset] [(.ref az), (.int (2 : Int32))]))
  obtain ⟨cl3, Ar3, -, S3, N3', -, -⟩ := id V_s
  refine Go.st (fun _ kt => X1.arraylength hx (by rw [e1]; exact Ar3.1) (State.isArrayOf_alike hZ.alike Ar3.2.1) (g := (mkF m 7 #[.val (.ref a), .val (.ref av), .val (.ref az), .val (.ref ac), .unset, .unset] [(.ref az), (.int (2 : Int32))])) rfl rfl (hb hby d2_7) _ kt) ?_
  rw [len_of S3 N3']
  show Go p e below _ (T1.setTop (mkF m 8 #[.val (.ref a), .val (.ref av), .val (.ref az), .val (.ref ac), .unset, .unset] [(.int (2 : Int32)), (.int (2 : Int32))]))
  refine Go.st (fun _ kt => XS.icmpYes X1.here hx rfl (pc0 := 8) (pc' := 28) rfl (hb hby d2_8) rfl (teq (by decide : (2 : Int32) = (2 : Int32))).1 (by decide) (by decide) kt) ?_
  show Go p e below _ (T1.setTop (mkF m 28 #[.val (.ref a), .val (.ref av), .val (.ref az), .val (.ref ac), .unset, .unset] []))
  refine Go.st (fun _ kt => XS.iconst X1.here hx rfl (hb hby d2_28) kt) ?_
  show Go p e below _ (T1.setTop (mkF m 29 #[.val (.ref a), .val (.ref av), .val (.ref az), .val (.ref ac), .unset, .unset] [(.int (1 : Int32))]))
  refine Go.st (fun _ kt => XS.istore X1.here hx rfl (hb hby d2_29) rfl (l' := #[.val (.ref a), .val (.ref av), .val (.ref az), .val (.ref ac), .val (.int (1 : Int32)), .unset]) rfl kt) ?_
  show Go p e below _ (T1.setTop (mkF m 31 #[.val (.ref a), .val (.ref av), .val (.ref az), .val (.ref ac), .val (.int (1 : Int32)), .unset] []))
  refine Go.st (fun _ kt => XS.iload X1.here hx rfl (hb hby d2_31) rfl kt) ?_
  show Go p e below _ (T1.setTop (mkF m 33 #[.val (.ref a), .val (.ref av), .val (.ref az), .val (.ref ac), .val (.int (1 : Int32)), .unset] [(.int (1 : Int32))]))
  refine Go.st (fun _ kt => XS.aloadN X1.here hx rfl (hb hby d2_33) rfl rfl kt) ?_
  show Go p e below _ (T1.setTop (mkF m 34 #[.val (.ref a), .val (.ref av), .val (.ref az), .val (.ref ac), .val (.int (1 : Int32)), .unset] [(.ref av), (.int (1 : Int32))]))
  obtain ⟨cl4, Ar4, -, S4, N4', -, -⟩ := id V_v
  refine Go.st (fun _ kt => X1.arraylength hx (by rw [e1]; exact Ar4.1) (State.isArrayOf_alike hZ.alike Ar4.2.1) (g := (mkF m 34 #[.val (.ref a), .val (.ref av), .val (.ref az), .val (.ref ac), .val (.int (1 : Int32)), .unset] [(.ref av), (.int (1 : Int32))])) rfl rfl (hb hby d2_34) _ kt) ?_
  rw [len_of S4 N4']
  show Go p e below _ (T1.setTop (mkF m 35 #[.val (.ref a), .val (.ref av), .val (.ref az), .val (.ref ac), .val (.int (1 : Int32)), .unset] [(.int (2 : Int32)), (.int (1 : Int32))]))
  refine Go.st (fun _ kt => XS.icmpNo X1.here hx rfl (hb hby d2_35) rfl (tlt (by decide : (1 : Int32) < (2 : Int32))).2.1 kt) ?_
  show Go p e below _ (T1.setTop (mkF m 38 #[.val (.ref a), .val (.ref av), .val (.ref az), .val (.ref ac), .val (.int (1 : Int32)), .unset] []))
  refine Go.st (fun _ kt => XS.iconst X1.here hx rfl (hb hby d2_38) kt) ?_
  show Go p e below _ (T1.setTop (mkF m 39 #[.val (.ref a), .val (.ref av), .val (.ref az), .val (.ref ac), .val (.int (1 : Int32)), .unset] [(.int (0 : Int32))]))
  refine Go.st (fun _ kt => XS.istore X1.here hx rfl (hb hby d2_39) rfl (l' := #[.val (.ref a), .val (.ref av), .val (.ref az), .val (.ref ac), .val (.int (1 : Int32)), .val (.int (0 : Int32))]) rfl kt) ?_
  show Go p e below _ (T1.setTop (mkF m 41 #[.val (.ref a), .val (.ref av), .val (.ref az), .val (.ref ac), .val (.int (1 : Int32)), .val (.int (0 : Int32))] []))
  refine Go.st (fun _ kt => XS.iload X1.here hx rfl (hb hby d2_41) rfl kt) ?_
  show Go p e below _ (T1.setTop (mkF m 43 #[.val (.ref a), .val (.ref av), .val (.ref az), .val (.ref ac), .val (.int (1 : Int32)), .val (.int (0 : Int32))] [(.int (0 : Int32))]))
  refine Go.st (fun _ kt => XS.iload X1.here hx rfl (hb hby d2_43) rfl kt) ?_
  show Go p e below _ (T1.setTop (mkF m 45 #[.val (.ref a), .val (.ref av), .val (.ref az), .val (.ref ac), .val (.int (1 : Int32)), .val (.int (0 : Int32))] [(.int (1 : Int32)), (.int (0 : Int32))]))
  refine Go.st (fun _ kt => XS.icmpNo X1.here hx rfl (hb hby d2_45) rfl (tlt (by decide : (0 : Int32) < (1 : Int32))).2.1 kt) ?_
  show Go p e below _ (T1.setTop (mkF m 48 #[.val (.ref a), .val (.ref av), .val (.ref az), .val (.ref ac), .val (.int (1 : Int32)), .val (.int (0 : Int32))] []))
  refine Go.st (fun _ kt => XS.aloadN X1.here hx rfl (hb hby d2_48) rfl rfl kt) ?_
  show Go p e below _ (T1.setTop (mkF m 49 #[.val (.ref a), .val (.ref av), .val (.ref az), .val (.ref ac), .val (.int (1 : Int32)), .val (.int (0 : Int32))] [(.ref av)]))
  refine Go.st (fun _ kt => XS.iload X1.here hx rfl (hb hby d2_49) rfl kt) ?_
  show Go p e below _ (T1.setTop (mkF m 51 #[.val (.ref a), .val (.ref av), .val (.ref az), .val (.ref ac), .val (.int (1 : Int32)), .val (.int (0 : Int32))] [(.int (0 : Int32)), (.ref av)]))
  obtain ⟨cl5, Ar5, -, S5, N5', H5, G5⟩ := id V_v
  have hin5 := inb_of S5 (j := (0 : Int32)) ⟨by decide, by decide⟩
  have hat5 := Has.at H5 hin5 (v := (.int y0)) rfl
  refine Go.st (fun _ kt => X1.iaload hx (j := (0 : Int32)) (v := (.int y0)) (by rw [e1]; exact Ar5.1) (State.isArrayOf_alike hZ.alike Ar5.2.1) Ar5.2.2 hin5 hat5 (g := (mkF m 51 #[.val (.ref a), .val (.ref av), .val (.ref az), .val (.ref ac), .val (.int (1 : Int32)), .val (.int (0 : Int32))] [(.int (0 : Int32)), (.ref av)])) rfl rfl (hb hby d2_51) _ kt) ?_
  show Go p e below _ (T1.setTop (mkF m 52 #[.val (.ref a), .val (.ref av), .val (.ref az), .val (.ref ac), .val (.int (1 : Int32)), .val (.int (0 : Int32))] [(.int y0)]))
  refine Go.st (fun _ kt => XS.aloadN X1.here hx rfl (hb hby d2_52) rfl rfl kt) ?_
  show Go p e below _ (T1.setTop (mkF m 53 #[.val (.ref a), .val (.ref av), .val (.ref az), .val (.ref ac), .val (.int (1 : Int32)), .val (.int (0 : Int32))] [(.ref av), (.int y0)]))
  refine Go.st (fun _ kt => XS.iload X1.here hx rfl (hb hby d2_53) rfl kt) ?_
  show Go p e below _ (T1.setTop (mkF m 55 #[.val (.ref a), .val (.ref av), .val (.ref az), .val (.ref ac), .val (.int (1 : Int32)), .val (.int (0 : Int32))] [(.int (1 : Int32)), (.ref av), (.int y0)]))
  obtain ⟨cl6, Ar6, -, S6, N6', H6, G6⟩ := id V_v
  have hin6 := inb_of S6 (j := (1 : Int32)) ⟨by decide, by decide⟩
  have hat6 := Has.at H6 hin6 (v := (.int y1)) rfl
  refine Go.st (fun _ kt => X1.iaload hx (j := (1 : Int32)) (v := (.int y1)) (by rw [e1]; exact Ar6.1) (State.isArrayOf_alike hZ.alike Ar6.2.1) Ar6.2.2 hin6 hat6 (g := (mkF m 55 #[.val (.ref a), .val (.ref av), .val (.ref az), .val (.ref ac), .val (.int (1 : Int32)), .val (.int (0 : Int32))] [(.int (1 : Int32)), (.ref av), (.int y0)])) rfl rfl (hb hby d2_55) _ kt) ?_
  show Go p e below _ (T1.setTop (mkF m 56 #[.val (.ref a), .val (.ref av), .val (.ref az), .val (.ref ac), .val (.int (1 : Int32)), .val (.int (0 : Int32))] [(.int y1), (.int y0)]))
  refine Go.st (fun _ kt => XS.icmpYes X1.here hx rfl (pc0 := 56) (pc' := 76) rfl (hb hby d2_56) rfl (feq hd01).2 (by decide) (by decide) kt) ?_
  show Go p e below _ (T1.setTop (mkF m 76 #[.val (.ref a), .val (.ref av), .val (.ref az), .val (.ref ac), .val (.int (1 : Int32)), .val (.int (0 : Int32))] []))
  refine Go.st (fun _ kt => XS.iinc X1.here hx rfl (hb hby d2_76) rfl (l' := #[.val (.ref a), .val (.ref av), .val (.ref az), .val (.ref ac), .val (.int (1 : Int32)), .val (.int (1 : Int32))]) rfl kt) ?_
  show Go p e below _ (T1.setTop (mkF m 79 #[.val (.ref a), .val (.ref av), .val (.ref az), .val (.ref ac), .val (.int (1 : Int32)), .val (.int (1 : Int32))] []))
  refine Go.st (fun _ kt => XS.goto X1.here hx rfl (pc0 := 79) (pc' := 41) rfl (hb hby d2_79) (by decide) (by decide) kt) ?_
  show Go p e below _ (T1.setTop (mkF m 41 #[.val (.ref a), .val (.ref av), .val (.ref az), .val (.ref ac), .val (.int (1 : Int32)), .val (.int (1 : Int32))] []))
  refine Go.st (fun _ kt => XS.iload X1.here hx rfl (hb hby d2_41) rfl kt) ?_
  show Go p e below _ (T1.setTop (mkF m 43 #[.val (.ref a), .val (.ref av), .val (.ref az), .val (.ref ac), .val (.int (1 : Int32)), .val (.int (1 : Int32))] [(.int (1 : Int32))]))
  refine Go.st (fun _ kt => XS.iload X1.here hx rfl (hb hby d2_43) rfl kt) ?_
  show Go p e below _ (T1.setTop (mkF m 45 #[.val (.ref a), .val (.ref av), .val (.ref az), .val (.ref ac), .val (.int (1 : Int32)), .val (.int (1 : Int32))] [(.int (1 : Int32)), (.int (1 : Int32))]))
  refine Go.st (fun _ kt => XS.icmpYes X1.here hx rfl (pc0 := 45) (pc' := 82) rfl (hb hby d2_45) rfl (flt (by decide : ¬ ((1 : Int32) < (1 : Int32)))).2.1 (by decide) (by decide) kt) ?_
  show Go p e below _ (T1.setTop (mkF m 82 #[.val (.ref a), .val (.ref av), .val (.ref az), .val (.ref ac), .val (.int (1 : Int32)), .val (.int (1 : Int32))] []))
  refine Go.st (fun _ kt => XS.iinc X1.here hx rfl (hb hby d2_82) rfl (l' := #[.val (.ref a), .val (.ref av), .val (.ref az), .val (.ref ac), .val (.int (2 : Int32)), .val (.int (1 : Int32))]) rfl kt) ?_
  show Go p e below _ (T1.setTop (mkF m 85 #[.val (.ref a), .val (.ref av), .val (.ref az), .val (.ref ac), .val (.int (2 : Int32)), .val (.int (1 : Int32))] []))
  refine Go.st (fun _ kt => XS.goto X1.here hx rfl (pc0 := 85) (pc' := 31) rfl (hb hby d2_85) (by decide) (by decide) kt) ?_
  show Go p e below _ (T1.setTop (mkF m 31 #[.val (.ref a), .val (.ref av), .val (.ref az), .val (.ref ac), .val (.int (2 : Int32)), .val (.int (1 : Int32))] []))
  refine Go.st (fun _ kt => XS.iload X1.here hx rfl (hb hby d2_31) rfl kt) ?_
  show Go p e below _ (T1.setTop (mkF m 33 #[.val (.ref a), .val (.ref av), .val (.ref az), .val (.ref ac), .val (.int (2 : Int32)), .val (.int (1 : Int32))] [(.int (2 : Int32))]))
  refine Go.st (fun _ kt => XS.aloadN X1.here hx rfl (hb hby d2_33) rfl rfl kt) ?_
  show Go p e below _ (T1.setTop (mkF m 34 #[.val (.ref a), .val (.ref av), .val (.ref az), .val (.ref ac), .val (.int (2 : Int32)), .val (.int (1 : Int32))] [(.ref av), (.int (2 : Int32))]))
  obtain ⟨cl7, Ar7, -, S7, N7', -, -⟩ := id V_v
  refine Go.st (fun _ kt => X1.arraylength hx (by rw [e1]; exact Ar7.1) (State.isArrayOf_alike hZ.alike Ar7.2.1) (g := (mkF m 34 #[.val (.ref a), .val (.ref av), .val (.ref az), .val (.ref ac), .val (.int (2 : Int32)), .val (.int (1 : Int32))] [(.ref av), (.int (2 : Int32))])) rfl rfl (hb hby d2_34) _ kt) ?_
  rw [len_of S7 N7']
  show Go p e below _ (T1.setTop (mkF m 35 #[.val (.ref a), .val (.ref av), .val (.ref az), .val (.ref ac), .val (.int (2 : Int32)), .val (.int (1 : Int32))] [(.int (2 : Int32)), (.int (2 : Int32))]))
  refine Go.st (fun _ kt => XS.icmpYes X1.here hx rfl (pc0 := 35) (pc' := 88) rfl (hb hby d2_35) rfl (flt (by decide : ¬ ((2 : Int32) < (2 : Int32)))).2.1 (by decide) (by decide) kt) ?_
  show Go p e below _ (T1.setTop (mkF m 88 #[.val (.ref a), .val (.ref av), .val (.ref az), .val (.ref ac), .val (.int (2 : Int32)), .val (.int (1 : Int32))] []))
  refine Go.st (fun _ kt => XS.aloadN X1.here hx rfl (hb hby d2_88) rfl rfl kt) ?_
  show Go p e below _ (T1.setTop (mkF m 89 #[.val (.ref a), .val (.ref av), .val (.ref az), .val (.ref ac), .val (.int (2 : Int32)), .val (.int (1 : Int32))] [(.ref az)]))
  obtain ⟨_, _, ⟨T8, L8, k8, n8⟩, -, X8, ⟨Lc8, hQ8, l8, y8, z8⟩, st8⟩ := Jvm.LawKit.callS X1 hx (y := (⟨"com/example/tributary/tributary/model/CostTable", "entries", "([I)J"⟩ : MethodName)) hown (mvT hZ (hw _ (List.mem_of_getElem? (i := 16) rfl))) (mvT hZ (hw _ (List.mem_of_getElem? (i := 17) rfl))) (mvT hZ (hw _ (List.mem_of_getElem? (i := 9) rfl))) (mvT hZ (hw _ (List.mem_of_getElem? (i := 18) rfl))) (by decide) (backOf (W := 0) (rm4 l Z a0 hw [] az ks h0 n0 Z0 V_s) hZ (hw _ (List.mem_of_getElem? (i := 18) rfl)) (hw _ (List.mem_of_getElem? (i := 9) rfl)) (by decide) (by decide)) (g := (mkF m 89 #[.val (.ref a), .val (.ref av), .val (.ref az), .val (.ref ac), .val (.int (2 : Int32)), .val (.int (1 : Int32))] [(.ref az)])) rfl (by rw [hml]; rfl) (argsL := [(.ref az)]) (rest := []) (lenOf own_pd2 rfl) rfl (by show 2 * 0 + _ ≤ _; exact Nat.le_of_eq rfl) (hb hby d2_89) (fun _ _ => ⟨rfl, e1, (by decide : 0 + 0 ≤ _), (by decide : 0 + 0 ≤ _)⟩)
  dsimp only [Pt.U, Pt.locs, Pt.cells, Pt.slots] at X8 l8 y8 z8 st8 hQ8
  subst l8 y8 z8
  obtain ⟨rfl, N8q, e8⟩ := hQ8
  have N8 := Fr.app N0 N8q
  refine Go.st st8 ?_
  show Go p e below _ (T8.setTop (mkF m 92 #[.val (.ref a), .val (.ref av), .val (.ref az), .val (.ref ac), .val (.int (2 : Int32)), .val (.int (1 : Int32))] [(.long (6 : Int64))]))
  refine Go.st (fun _ kt => XS.aloadN X8.here hx rfl (hb hby d2_92) rfl rfl kt) ?_
  show Go p e below _ (T8.setTop (mkF m 93 #[.val (.ref a), .val (.ref av), .val (.ref az), .val (.ref ac), .val (.int (2 : Int32)), .val (.int (1 : Int32))] [(.ref ac), (.long (6 : Int64))]))
  obtain ⟨cl9, Ar9, -, S9, N9', -, -⟩ := id V_c
  refine Go.st (fun _ kt => X8.arraylength hx (by rw [e8]; exact Ar9.1) (State.isArrayOf_alike hZ.alike Ar9.2.1) (g := (mkF m 93 #[.val (.ref a), .val (.ref av), .val (.ref az), .val (.ref ac), .val (.int (2 : Int32)), .val (.int (1 : Int32))] [(.ref ac), (.long (6 : Int64))])) rfl rfl (hb hby d2_93) _ kt) ?_
  rw [len_of S9 N9']
  show Go p e below _ (T8.setTop (mkF m 94 #[.val (.ref a), .val (.ref av), .val (.ref az), .val (.ref ac), .val (.int (2 : Int32)), .val (.int (1 : Int32))] [(.int (6 : Int32)), (.long (6 : Int64))]))
  refine Go.st (fun _ kt => XS.i2l X8.here hx rfl (hb hby d2_94) rfl kt) ?_
  show Go p e below _ (T8.setTop (mkF m 95 #[.val (.ref a), .val (.ref av), .val (.ref az), .val (.ref ac), .val (.int (2 : Int32)), .val (.int (1 : Int32))] [(.long (6 : Int64)), (.long (6 : Int64))]))
  refine Go.st (fun _ kt => XS.lcmp X8.here hx rfl (hb hby d2_95) rfl kt) ?_
  show Go p e below _ (T8.setTop (mkF m 96 #[.val (.ref a), .val (.ref av), .val (.ref az), .val (.ref ac), .val (.int (2 : Int32)), .val (.int (1 : Int32))] [(.int (lcmpW (6 : Int64) (6 : Int64)))]))
  refine Go.st (fun _ kt => XS.ifYes X8.here hx rfl (pc0 := 96) (pc' := 118) rfl (hb hby d2_96) rfl ((if0 _ _).trans (teq ((lw_eq _ _).mpr rfl)).1) (by decide) (by decide) kt) ?_
  show Go p e below _ (T8.setTop (mkF m 118 #[.val (.ref a), .val (.ref av), .val (.ref az), .val (.ref ac), .val (.int (2 : Int32)), .val (.int (1 : Int32))] []))
  refine Go.st (fun _ kt => XS.aloadN X8.here hx rfl (hb hby d2_118) rfl rfl kt) ?_
  show Go p e below _ (T8.setTop (mkF m 119 #[.val (.ref a), .val (.ref av), .val (.ref az), .val (.ref ac), .val (.int (2 : Int32)), .val (.int (1 : Int32))] [(.ref a)]))
  refine Go.st (fun _ kt => XS.aloadN X8.here hx rfl (hb hby d2_119) rfl rfl kt) ?_
  show Go p e below _ (T8.setTop (mkF m 120 #[.val (.ref a), .val (.ref av), .val (.ref az), .val (.ref ac), .val (.int (2 : Int32)), .val (.int (1 : Int32))] [(.ref av), (.ref a)]))
  obtain ⟨T10, h10, X10, e10, E10, V10, Y10, st10⟩ := cloneH X8 hx hZ hown (hw _ (List.mem_of_getElem? (i := 20) rfl)) (hw _ (List.mem_of_getElem? (i := 21) rfl)) (hw _ (List.mem_of_getElem? (i := 25) rfl)) (hw _ (List.mem_of_getElem? (i := 23) rfl)) (hw _ (List.mem_of_getElem? (i := 24) rfl)) (hw _ (List.mem_of_getElem? (i := 26) rfl)) e8 V_v.arh E_v (g := (mkF m 120 #[.val (.ref a), .val (.ref av), .val (.ref az), .val (.ref ac), .val (.int (2 : Int32)), .val (.int (1 : Int32))] [(.ref av), (.ref a)])) rfl (by rw [hml]; rfl) rfl (hb hby d2_120) (by decide) (W := 1) (cap := 2) (by show 2 * 0 + _ ≤ _; exact Nat.le_of_eq rfl) (by decide) (by decide) (by decide) (by decide)
  obtain ⟨b10, g10⟩ : ∃ z, z = h0.size := ⟨_, rfl⟩
  rw [← g10] at V10 Y10 st10
  have lt_a_b10 : a < b10 := Nat.lt_of_lt_of_eq E_a.lt g10.symm
  have lt_av_b10 : av < b10 := Nat.lt_of_lt_of_eq V_v.lt g10.symm
  have lt_az_b10 : az < b10 := Nat.lt_of_lt_of_eq V_s.lt g10.symm
  have lt_ac_b10 : ac < b10 := Nat.lt_of_lt_of_eq V_c.lt g10.symm
  have gn_b10 : n0 ≤ b10 := Nat.le_trans Z0 (Nat.le_of_eq g10.symm)
  have Zs10 : n0 ≤ h10.size := Nat.le_trans Z0 E10.1
  have K10 : Keep h0 h10 [a] := (Keep.refl h0 [a]).ext E10
  have kn_b10 : h0.size ≤ b10 := Nat.le_trans (Keep.refl h0 [a]).1 (Nat.le_of_eq g10.symm)
  refine Go.st st10 ?_
  have Vc10 : Arv Z h10 b10 kv .int (2 : Int32) [(.int y0), (.int y1)] (.int (0 : Int32)) := V10
  show Go p e below _ (T10.setTop (mkF m 123 #[.val (.ref a), .val (.ref av), .val (.ref az), .val (.ref ac), .val (.int (2 : Int32)), .val (.int (1 : Int32))] [(.ref b10), (.ref a)]))
  obtain ⟨T11, X11, e11, st11⟩ := castY X10 hx hZ hown (hw _ (List.mem_of_getElem? (i := 27) rfl)) e10 (Ins.self Y10) (g := (mkF m 123 #[.val (.ref a), .val (.ref av), .val (.ref az), .val (.ref ac), .val (.int (2 : Int32)), .val (.int (1 : Int32))] [(.ref b10), (.ref a)])) rfl rfl (hb hby d2_123)
  refine Go.st st11 ?_
  show Go p e below _ (T11.setTop (mkF m 126 #[.val (.ref a), .val (.ref av), .val (.ref az), .val (.ref ac), .val (.int (2 : Int32)), .val (.int (1 : Int32))] [(.ref b10), (.ref a)]))
  have f12 := (E_a.ext E10)
  have f13 := (F_variables.ext E10)
  obtain ⟨T14, h14, X14, e14, W14, st14⟩ := putF X11 hx hZ hown (host := "") (Or.inl (hw _ (List.mem_of_getElem? (i := 29) rfl))) Via.refl e11 f13 f12 (Or.inr ⟨(hw _ (List.mem_of_getElem? (i := 30) rfl)), rfl, hnm⟩) (hw _ (List.mem_of_getElem? (i := 8) rfl)) (ty := (.array .int)) (by decide) rfl rfl (g := (mkF m 126 #[.val (.ref a), .val (.ref av), .val (.ref az), .val (.ref ac), .val (.int (2 : Int32)), .val (.int (1 : Int32))] [(.ref b10), (.ref a)])) rfl rfl (hb hby d2_126)
  refine Go.st st14 ?_
  have Fw14 := f13.same W14
  have Zs14 : n0 ≤ h14.size := Nat.le_trans Zs10 (Nat.le_of_eq W14.size.symm)
  have N14 := Fr.snoc X14 N8 gn_a
  have K14 : Keep h0 h14 [a] := K10.wr W14 (Or.inl (List.mem_of_getElem? (i := 0) rfl))
  show Go p e below _ (T14.setTop (mkF m 129 #[.val (.ref a), .val (.ref av), .val (.ref az), .val (.ref ac), .val (.int (2 : Int32)), .val (.int (1 : Int32))] []))
  refine Go.st (fun _ kt => XS.aloadN X14.here hx rfl (hb hby d2_129) rfl rfl kt) ?_
  show Go p e below _ (T14.setTop (mkF m 130 #[.val (.ref a), .val (.ref av), .val (.ref az), .val (.ref ac), .val (.int (2 : Int32)), .val (.int (1 : Int32))] [(.ref a)]))
  refine Go.st (fun _ kt => XS.aloadN X14.here hx rfl (hb hby d2_130) rfl rfl kt) ?_
  show Go p e below _ (T14.setTop (mkF m 131 #[.val (.ref a), .val (.ref av), .val (.ref az), .val (.ref ac), .val (.int (2 : Int32)), .val (.int (1 : Int32))] [(.ref az), (.ref a)]))
  have f15 := ((V_s.ext E10).other W14 hsa)
  have f16 := ((E_s.ext E10).wr W14)
  obtain ⟨T17, h17, X17, e17, E17, V17, Y17, st17⟩ := cloneH X14 hx hZ hown (hw _ (List.mem_of_getElem? (i := 20) rfl)) (hw _ (List.mem_of_getElem? (i := 21) rfl)) (hw _ (List.mem_of_getElem? (i := 25) rfl)) (hw _ (List.mem_of_getElem? (i := 23) rfl)) (hw _ (List.mem_of_getElem? (i := 24) rfl)) (hw _ (List.mem_of_getElem? (i := 26) rfl)) e14 f15.arh f16 (g := (mkF m 131 #[.val (.ref a), .val (.ref av), .val (.ref az), .val (.ref ac), .val (.int (2 : Int32)), .val (.int (1 : Int32))] [(.ref az), (.ref a)])) rfl (by rw [hml]; rfl) rfl (hb hby d2_131) (by decide) (W := 1) (cap := 2) (by show 2 * 0 + _ ≤ _; exact Nat.le_of_eq rfl) (by decide) (by decide) (by decide) (by decide)
  obtain ⟨b17, g17⟩ : ∃ z, z = h14.size := ⟨_, rfl⟩
  rw [← g17] at V17 Y17 st17
  have f18 := (f12.wr W14)
  have lt_a_b17 : a < b17 := Nat.lt_of_lt_of_eq f18.lt g17.symm
  have f19 := ((V_v.ext E10).other W14 hva)
  have lt_av_b17 : av < b17 := Nat.lt_of_lt_of_eq f19.lt g17.symm
  have lt_az_b17 : az < b17 := Nat.lt_of_lt_of_eq f15.lt g17.symm
  have f20 := ((V_c.ext E10).other W14 hca)
  have lt_ac_b17 : ac < b17 := Nat.lt_of_lt_of_eq f20.lt g17.symm
  have f21 := (Vc10.other W14 (Nat.ne_of_gt lt_a_b10))
  have lt_b10_b17 : b10 < b17 := Nat.lt_of_lt_of_eq f21.lt g17.symm
  have gn_b17 : n0 ≤ b17 := Nat.le_trans Zs14 (Nat.le_of_eq g17.symm)
  have Zs17 : n0 ≤ h17.size := Nat.le_trans Zs14 E17.1
  have K17 : Keep h0 h17 [a] := K14.ext E17
  have kn_b17 : h0.size ≤ b17 := Nat.le_trans K14.1 (Nat.le_of_eq g17.symm)
  refine Go.st st17 ?_
  have Vc17 : Arv Z h17 b17 ks .int (2 : Int32) [(.int (2 : Int32)), (.int (3 : Int32))] (.int (0 : Int32)) := V17
  show Go p e below _ (T17.setTop (mkF m 134 #[.val (.ref a), .val (.ref av), .val (.ref az), .val (.ref ac), .val (.int (2 : Int32)), .val (.int (1 : Int32))] [(.ref b17), (.ref a)]))
  obtain ⟨T22, X22, e22, st22⟩ := castY X17 hx hZ hown (hw _ (List.mem_of_getElem? (i := 27) rfl)) e17 (Ins.self Y17) (g := (mkF m 134 #[.val (.ref a), .val (.ref av), .val (.ref az), .val (.ref ac), .val (.int (2 : Int32)), .val (.int (1 : Int32))] [(.ref b17), (.ref a)])) rfl rfl (hb hby d2_134)
  refine Go.st st22 ?_
  show Go p e below _ (T22.setTop (mkF m 137 #[.val (.ref a), .val (.ref av), .val (.ref az), .val (.ref ac), .val (.int (2 : Int32)), .val (.int (1 : Int32))] [(.ref b17), (.ref a)]))
  have f23 := (f18.ext E17)
  have f24 := (((F_sizes.ext E10).other W14 (Or.inr (slot_ne (Or.inr (hw _ (List.mem_of_getElem? (i := 32) rfl))) (Or.inr (hw _ (List.mem_of_getElem? (i := 30) rfl))) (by decide) (t := (.array .int)) (t' := (.array .int)) (by decide) (by decide)))).ext E17)
  obtain ⟨T25, h25, X25, e25, W25, st25⟩ := putF X22 hx hZ hown (host := "") (Or.inl (hw _ (List.mem_of_getElem? (i := 31) rfl))) Via.refl e22 f24 f23 (Or.inr ⟨(hw _ (List.mem_of_getElem? (i := 32) rfl)), rfl, hnm⟩) (hw _ (List.mem_of_getElem? (i := 8) rfl)) (ty := (.array .int)) (by decide) rfl rfl (g := (mkF m 137 #[.val (.ref a), .val (.ref av), .val (.ref az), .val (.ref ac), .val (.int (2 : Int32)), .val (.int (1 : Int32))] [(.ref b17), (.ref a)])) rfl rfl (hb hby d2_137)
  refine Go.st st25 ?_
  have Fw25 := f24.same W25
  have Zs25 : n0 ≤ h25.size := Nat.le_trans Zs17 (Nat.le_of_eq W25.size.symm)
  have N25 := Fr.snoc X25 N14 gn_a
  have K25 : Keep h0 h25 [a] := K17.wr W25 (Or.inl (List.mem_of_getElem? (i := 0) rfl))
  show Go p e below _ (T25.setTop (mkF m 140 #[.val (.ref a), .val (.ref av), .val (.ref az), .val (.ref ac), .val (.int (2 : Int32)), .val (.int (1 : Int32))] []))
  refine Go.st (fun _ kt => XS.aloadN X25.here hx rfl (hb hby d2_140) rfl rfl kt) ?_
  show Go p e below _ (T25.setTop (mkF m 141 #[.val (.ref a), .val (.ref av), .val (.ref az), .val (.ref ac), .val (.int (2 : Int32)), .val (.int (1 : Int32))] [(.ref a)]))
  refine Go.st (fun _ kt => XS.aloadN X25.here hx rfl (hb hby d2_141) rfl rfl kt) ?_
  show Go p e below _ (T25.setTop (mkF m 142 #[.val (.ref a), .val (.ref av), .val (.ref az), .val (.ref ac), .val (.int (2 : Int32)), .val (.int (1 : Int32))] [(.ref az), (.ref a)]))
  have f26 := ((f15.ext E17).other W25 hsa)
  obtain ⟨_, _, ⟨T27, L27, k27, n27⟩, -, X27, ⟨Lc27, hQ27, l27, y27, z27⟩, st27⟩ := Jvm.LawKit.callS X25 hx (y := (⟨"com/example/tributary/tributary/model/CostTable", "strides", "([I)[I"⟩ : MethodName)) hown (mvT hZ (hw _ (List.mem_of_getElem? (i := 33) rfl))) (mvT hZ (hw _ (List.mem_of_getElem? (i := 34) rfl))) (mvT hZ (hw _ (List.mem_of_getElem? (i := 9) rfl))) (mvT hZ (hw _ (List.mem_of_getElem? (i := 35) rfl))) (by decide) (backOf (W := 1) (rm5 l Z a0 hw [] az ks h25 n0 Zs25 f26) hZ (hw _ (List.mem_of_getElem? (i := 35) rfl)) (hw _ (List.mem_of_getElem? (i := 9) rfl)) (by decide) (by decide)) (g := (mkF m 142 #[.val (.ref a), .val (.ref av), .val (.ref az), .val (.ref ac), .val (.int (2 : Int32)), .val (.int (1 : Int32))] [(.ref az), (.ref a)])) rfl (by rw [hml]; rfl) (argsL := [(.ref az)]) (rest := [(.ref a)]) (lenOf own_pd3 rfl) rfl (by show 2 * 0 + _ ≤ _; exact Nat.le_of_eq rfl) (hb hby d2_142) (fun _ _ => ⟨rfl, e25, (by decide : 2 + 1 ≤ _), (by decide : 4 + 2 ≤ _)⟩)
  dsimp only [Pt.U, Pt.locs, Pt.cells, Pt.slots] at X27 l27 y27 z27 st27 hQ27
  subst l27 y27 z27
  obtain ⟨r27, kk27, rfl, N27q, K27q, hs27, G27_0⟩ := hQ27
  have f28 := (f23.wr W25)
  have lt_a_r27 : a < r27 := Nat.lt_of_lt_of_le f28.lt hs27
  have f29 := ((f19.ext E17).other W25 hva)
  have lt_av_r27 : av < r27 := Nat.lt_of_lt_of_le f29.lt hs27
  have lt_az_r27 : az < r27 := Nat.lt_of_lt_of_le f26.lt hs27
  have f30 := ((f20.ext E17).other W25 hca)
  have lt_ac_r27 : ac < r27 := Nat.lt_of_lt_of_le f30.lt hs27
  have f31 := ((f21.ext E17).other W25 (Nat.ne_of_gt lt_a_b10))
  have lt_b10_r27 : b10 < r27 := Nat.lt_of_lt_of_le f31.lt hs27
  have f32 := (Vc17.other W25 (Nat.ne_of_gt lt_a_b17))
  have lt_b17_r27 : b17 < r27 := Nat.lt_of_lt_of_le f32.lt hs27
  have gn_r27 : n0 ≤ r27 := Nat.le_trans Zs25 hs27
  have kn_r27 : h0.size ≤ r27 := Nat.le_trans K25.1 hs27
  have Zs27 : n0 ≤ T27.heap.size := Nat.le_trans Zs25 K27q.1
  have K27 : Keep h0 T27.heap [a] := K25.trans K27q all0
  have N27 := Fr.app N25 N27q
  refine Go.st st27 ?_
  show Go p e below _ (T27.setTop (mkF m 145 #[.val (.ref a), .val (.ref av), .val (.ref az), .val (.ref ac), .val (.int (2 : Int32)), .val (.int (1 : Int32))] [(.ref r27), (.ref a)]))
  have f33 := (f28.keep K27q)
  have f34 := (((((F_strides.ext E10).other W14 (Or.inr (slot_ne (Or.inr (hw _ (List.mem_of_getElem? (i := 37) rfl))) (Or.inr (hw _ (List.mem_of_getElem? (i := 30) rfl))) (by decide) (t := (.array .int)) (t' := (.array .int)) (by decide) (by decide)))).ext E17).other W25 (Or.inr (slot_ne (Or.inr (hw _ (List.mem_of_getElem? (i := 37) rfl))) (Or.inr (hw _ (List.mem_of_getElem? (i := 32) rfl))) (by decide) (t := (.array .int)) (t' := (.array .int)) (by decide) (by decide)))).keep K27q nin0)
  obtain ⟨T35, h35, X35, e35, W35, st35⟩ := putF X27 hx hZ hown (host := "") (Or.inl (hw _ (List.mem_of_getElem? (i := 36) rfl))) Via.refl rfl f34 f33 (Or.inr ⟨(hw _ (List.mem_of_getElem? (i := 37) rfl)), rfl, hnm⟩) (hw _ (List.mem_of_getElem? (i := 8) rfl)) (ty := (.array .int)) (by decide) rfl rfl (g := (mkF m 145 #[.val (.ref a), .val (.ref av), .val (.ref az), .val (.ref ac), .val (.int (2 : Int32)), .val (.int (1 : Int32))] [(.ref r27), (.ref a)])) rfl rfl (hb hby d2_145)
  refine Go.st st35 ?_
  have Fw35 := f34.same W35
  have Zs35 : n0 ≤ h35.size := Nat.le_trans Zs27 (Nat.le_of_eq W35.size.symm)
  have N35 := Fr.snoc X35 N27 gn_a
  have K35 : Keep h0 h35 [a] := K27.wr W35 (Or.inl (List.mem_of_getElem? (i := 0) rfl))
  show Go p e below _ (T35.setTop (mkF m 148 #[.val (.ref a), .val (.ref av), .val (.ref az), .val (.ref ac), .val (.int (2 : Int32)), .val (.int (1 : Int32))] []))
  refine Go.st (fun _ kt => XS.aloadN X35.here hx rfl (hb hby d2_148) rfl rfl kt) ?_
  show Go p e below _ (T35.setTop (mkF m 149 #[.val (.ref a), .val (.ref av), .val (.ref az), .val (.ref ac), .val (.int (2 : Int32)), .val (.int (1 : Int32))] [(.ref a)]))
  refine Go.st (fun _ kt => XS.aloadN X35.here hx rfl (hb hby d2_149) rfl rfl kt) ?_
  show Go p e below _ (T35.setTop (mkF m 150 #[.val (.ref a), .val (.ref av), .val (.ref az), .val (.ref ac), .val (.int (2 : Int32)), .val (.int (1 : Int32))] [(.ref ac), (.ref a)]))
  have f36 := (f33.wr W35)
  have f37 := ((((((F_costs.ext E10).other W14 (Or.inr (slot_ne (Or.inr (hw _ (List.mem_of_getElem? (i := 39) rfl))) (Or.inr (hw _ (List.mem_of_getElem? (i := 30) rfl))) (by decide) (t := (.array .double)) (t' := (.array .int)) (by decide) (by decide)))).ext E17).other W25 (Or.inr (slot_ne (Or.inr (hw _ (List.mem_of_getElem? (i := 39) rfl))) (Or.inr (hw _ (List.mem_of_getElem? (i := 32) rfl))) (by decide) (t := (.array .double)) (t' := (.array .int)) (by decide) (by decide)))).keep K27q nin0).other W35 (Or.inr (slot_ne (Or.inr (hw _ (List.mem_of_getElem? (i := 39) rfl))) (Or.inr (hw _ (List.mem_of_getElem? (i := 37) rfl))) (by decide) (t := (.array .double)) (t' := (.array .int)) (by decide) (by decide))))
  obtain ⟨T38, h38, X38, e38, W38, st38⟩ := putF X35 hx hZ hown (host := "") (Or.inl (hw _ (List.mem_of_getElem? (i := 38) rfl))) Via.refl e35 f37 f36 (Or.inr ⟨(hw _ (List.mem_of_getElem? (i := 39) rfl)), rfl, hnm⟩) (hw _ (List.mem_of_getElem? (i := 8) rfl)) (ty := (.array .double)) (by decide) rfl rfl (g := (mkF m 150 #[.val (.ref a), .val (.ref av), .val (.ref az), .val (.ref ac), .val (.int (2 : Int32)), .val (.int (1 : Int32))] [(.ref ac), (.ref a)])) rfl rfl (hb hby d2_150)
  refine Go.st st38 ?_
  have Fw38 := f37.same W38
  have Zs38 : n0 ≤ h38.size := Nat.le_trans Zs35 (Nat.le_of_eq W38.size.symm)
  have N38 := Fr.snoc X38 N35 gn_a
  have K38 : Keep h0 h38 [a] := K35.wr W38 (Or.inl (List.mem_of_getElem? (i := 0) rfl))
  show Go p e below _ (T38.setTop (mkF m 153 #[.val (.ref a), .val (.ref av), .val (.ref az), .val (.ref ac), .val (.int (2 : Int32)), .val (.int (1 : Int32))] []))
  have f39 := (((((Fw14.ext E17).other W25 (Or.inr (slot_ne (Or.inr (hw _ (List.mem_of_getElem? (i := 30) rfl))) (Or.inr (hw _ (List.mem_of_getElem? (i := 32) rfl))) (by decide) (t := (.array .int)) (t' := (.array .int)) (by decide) (by decide)))).keep K27q nin0).other W35 (Or.inr (slot_ne (Or.inr (hw _ (List.mem_of_getElem? (i := 30) rfl))) (Or.inr (hw _ (List.mem_of_getElem? (i := 37) rfl))) (by decide) (t := (.array .int)) (t' := (.array .int)) (by decide) (by decide)))).other W38 (Or.inr (slot_ne (Or.inr (hw _ (List.mem_of_getElem? (i := 30) rfl))) (Or.inr (hw _ (List.mem_of_getElem? (i := 39) rfl))) (by decide) (t := (.array .int)) (t' := (.array .double)) (by decide) (by decide))))
  have f40 := (Fw35.other W38 (Or.inr (slot_ne (Or.inr (hw _ (List.mem_of_getElem? (i := 37) rfl))) (Or.inr (hw _ (List.mem_of_getElem? (i := 39) rfl))) (by decide) (t := (.array .int)) (t' := (.array .double)) (by decide) (by decide))))
  have f41 := (((f31.keep K27q nin0).other W35 (Nat.ne_of_gt lt_a_b10)).other W38 (Nat.ne_of_gt lt_a_b10))
  have f42 := ((G27_0.other W35 (Nat.ne_of_gt lt_a_r27)).other W38 (Nat.ne_of_gt lt_a_r27))
  refine Go.retV X38 hx Bd.returns (BodyLoose.notSynchronized Bd) (hb hby d2_153) (Q := (Q_rm2 Z a av az ac kv ks kc y0 y1 vc h0 n0)) (by decide) (by decide) ?_
  show (Q_rm2 Z a av az ac kv ks kc y0 y1 vc h0 n0) _ T38.heap _
  rw [e38]
  exact ⟨b10, kv, r27, kk27, rfl, N38, K38, kn_b10, kn_r27, f39, f40, Fw38, f41, f42⟩
theorem d6_0 : decode prog_87_method_11_code 0 = .ok (.aload_n 0, 1) := by decide +kernel
theorem d6_1 : decode prog_87_method_11_code 1 = .ok (.getfield 54, 3) := by decide +kernel
theorem d6_4 : decode prog_87_method_11_code 4 = .ok (.iload_n 1, 1) := by decide +kernel
theorem d6_5 : decode prog_87_method_11_code 5 = .ok (.daload, 1) := by decide +kernel
theorem d6_6 : decode prog_87_method_11_code 6 = .ok (.dreturn, 1) := by decide +kernel
def Q_rm6 (Z : State) (a : Addr) (ee : Int32) (ac : Addr) (kc : ClassId) (vc : List Value) (xx : UInt64) (h0 : Heap) (n0 : Nat) (v : Option Value) (h : Heap) (L : List Loc) : Prop := v = some (.double xx) ∧ Fr n0 L ∧ h = h0
theorem ef_rm6 (m : MethodId) (a : Addr) (ee : Int32) : entryFrame m #[(.ref a), (.int ee)] 2 = mkF m 0 #[.val (.ref a), .val (.int ee)] [] := by first | (simp [entryFrame, mkF, argsToLocals, Value.category]; done) | rfl
set_option maxRecDepth 65536 in
set_option maxHeartbeats 40000000 in
theorem rm6 (l : Launch) (Z : State) (a0 : Array Value) (hw : ∀ d ∈ tables_1, d.before a0 Z = true) (ws : List Jvm.Cond) (a : Addr) (ee : Int32) (ac : Addr) (kc : ClassId) (vc : List Value) (xx : UInt64) (h0 : Heap) (n0 : Nat) (Z0 : n0 ≤ h0.size) (F_c : Fld Z h0 a "com/example/tributary/tributary/model/CostTable" "costs" "[D" (.ref ac)) (V_c : Arv Z h0 ac kc .double (6 : Int32) vc (.double (0 : UInt64))) (hin : ¬ ee < 0 ∧ ee < (6 : Int32)) (hat : vc.getD ee.toNatClampNeg (.double (0 : UInt64)) = .double xx) :
    MetFree l (⟨"com/example/tributary/tributary/model/CostTable", "cost", "(I)D"⟩ : MethodName) (head1 (Jvm.Cond.code (⟨"com/example/tributary/tributary/model/CostTable", "cost", "(I)D"⟩ : MethodName) prog_87_method_11_code 2 (some .double) :: ws) ({ frames := 0, cells := 0, slots := 0, locals := 0 } : Room)) (fun ag_ U_ => ag_ = #[(.ref a), (.int ee)] ∧ Z.Warmed39 U_.vm ∧ U_.heap = h0) (fun _ _ _ _ _ => True) (fun _ U_ o_ V_ => ∃ v_ L_, o_ = .returned v_ ∧ (Q_rm6 Z a ee ac kc vc xx h0 n0) v_ V_.heap L_ ∧ FrameEnd U_ o_ V_ L_ ({ frames := 0, cells := 0, slots := 0, locals := 0 } : Room).cells ({ frames := 0, cells := 0, slots := 0, locals := 0 } : Room).slots) := by
  refine MetFree.of_bodySF (plainFor_of_name own_pn1) hisR ?_
  intro p e s m args below meth c s₁ Bd hml0 hP hK
  obtain ⟨rfl, hZ, hh⟩ := hP
  have hx := Bd.exec
  have hby := Bd.bytes
  have hml : c.maxLocals = 2 := hml0
  have hown : s.vm.findClass "com/example/tributary/tributary/model/CostTable" = some m.cls := findClass_of_methodNamed Bd.named
  have hnm := (name_of_methodNamed Bd.named Bd.method).1
  have X0 : Stand p l e ({ frames := 0, cells := 0, slots := 0, locals := 0 } : Room) s m #[(.ref a), (.int ee)] below meth c s₁ [] 0 0 := Stand.of_body Bd
  have e0 : s₁.heap = h0 := by rw [← hh, Bd.state]; rfl
  have N0 := Fr.nil n0
  refine Go.st (G := fun s₂ o_ => ∃ v_ L_, o_ = .returned v_ ∧ (Q_rm6 Z a ee ac kc vc xx h0 n0) v_ s₂.heap L_ ∧ FrameEnd s o_ s₂ L_ ({ frames := 0, cells := 0, slots := 0, locals := 0 } : Room).cells ({ frames := 0, cells := 0, slots := 0, locals := 0 } : Room).slots) (fun t kt => castTop (ef_rm6 m a ee) kt) ?_
  show Go p e below _ (s₁.setTop (mkF m 0 #[.val (.ref a), .val (.int ee)] []))
  refine Go.st (fun _ kt => XS.aloadN X0.here hx rfl (hb hby d6_0) rfl rfl kt) ?_
  show Go p e below _ (s₁.setTop (mkF m 1 #[.val (.ref a), .val (.int ee)] [(.ref a)]))
  obtain ⟨T1, X1, e1, st1⟩ := getF X0 hx hZ hown (host := "") (Or.inl (hw _ (List.mem_of_getElem? (i := 38) rfl))) Via.refl e0 F_c (g := (mkF m 1 #[.val (.ref a), .val (.int ee)] [(.ref a)])) rfl rfl (hb hby d6_1)
  refine Go.st st1 ?_
  show Go p e below _ (T1.setTop (mkF m 4 #[.val (.ref a), .val (.int ee)] [(.ref ac)]))
  refine Go.st (fun _ kt => XS.iloadN X1.here hx rfl (hb hby d6_4) rfl kt) ?_
  show Go p e below _ (T1.setTop (mkF m 5 #[.val (.ref a), .val (.int ee)] [(.int ee), (.ref ac)]))
  obtain ⟨cl2, Ar2, -, S2, N2', H2, G2⟩ := id V_c
  have hin2 := inb_of S2 (j := ee) hin
  have hat2 := Has.at H2 hin2 (v := (.double xx)) hat
  refine Go.st (fun _ kt => X1.daload hx (j := ee) (v := (.double xx)) (by rw [e1]; exact Ar2.1) (State.isArrayOf_alike hZ.alike Ar2.2.1) Ar2.2.2 hin2 hat2 (g := (mkF m 5 #[.val (.ref a), .val (.int ee)] [(.int ee), (.ref ac)])) rfl rfl (hb hby d6_5) _ kt) ?_
  show Go p e below _ (T1.setTop (mkF m 6 #[.val (.ref a), .val (.int ee)] [(.double xx)]))
  refine Go.retW X1 hx Bd.returns rfl (Or.inr (Or.inr (Or.inl ⟨rfl, rfl, _, rfl⟩))) (BodyLoose.notSynchronized Bd) (hb hby d6_6) (Q := (Q_rm6 Z a ee ac kc vc xx h0 n0)) (by decide) (by decide) ?_
  show (Q_rm6 Z a ee ac kc vc xx h0 n0) _ T1.heap _
  rw [e1]
  exact ⟨rfl, N0, rfl⟩
theorem d7_0 : decode prog_87_method_12_code 0 = .ok (.iconst 0, 1) := by decide +kernel
theorem d7_1 : decode prog_87_method_12_code 1 = .ok (.istore_n 2, 1) := by decide +kernel
theorem d7_2 : decode prog_87_method_12_code 2 = .ok (.iconst 0, 1) := by decide +kernel
theorem d7_3 : decode prog_87_method_12_code 3 = .ok (.istore_n 3, 1) := by decide +kernel
theorem d7_4 : decode prog_87_method_12_code 4 = .ok (.iload_n 3, 1) := by decide +kernel
theorem d7_5 : decode prog_87_method_12_code 5 = .ok (.aload_n 0, 1) := by decide +kernel
theorem d7_6 : decode prog_87_method_12_code 6 = .ok (.getfield 42, 3) := by decide +kernel
theorem d7_9 : decode prog_87_method_12_code 9 = .ok (.arraylength, 1) := by decide +kernel
theorem d7_10 : decode prog_87_method_12_code 10 = .ok (.if_icmp .ge 27, 3) := by decide +kernel
theorem d7_13 : decode prog_87_method_12_code 13 = .ok (.iload_n 2, 1) := by decide +kernel
theorem d7_14 : decode prog_87_method_12_code 14 = .ok (.aload_n 1, 1) := by decide +kernel
theorem d7_15 : decode prog_87_method_12_code 15 = .ok (.aload_n 0, 1) := by decide +kernel
theorem d7_16 : decode prog_87_method_12_code 16 = .ok (.getfield 42, 3) := by decide +kernel
theorem d7_19 : decode prog_87_method_12_code 19 = .ok (.iload_n 3, 1) := by decide +kernel
theorem d7_20 : decode prog_87_method_12_code 20 = .ok (.iaload, 1) := by decide +kernel
theorem d7_21 : decode prog_87_method_12_code 21 = .ok (.iaload, 1) := by decide +kernel
theorem d7_22 : decode prog_87_method_12_code 22 = .ok (.aload_n 0, 1) := by decide +kernel
theorem d7_23 : decode prog_87_method_12_code 23 = .ok (.getfield 52, 3) := by decide +kernel
theorem d7_26 : decode prog_87_method_12_code 26 = .ok (.iload_n 3, 1) := by decide +kernel
theorem d7_27 : decode prog_87_method_12_code 27 = .ok (.iaload, 1) := by decide +kernel
theorem d7_28 : decode prog_87_method_12_code 28 = .ok (.imul, 1) := by decide +kernel
theorem d7_29 : decode prog_87_method_12_code 29 = .ok (.iadd, 1) := by decide +kernel
theorem d7_30 : decode prog_87_method_12_code 30 = .ok (.istore_n 2, 1) := by decide +kernel
theorem d7_31 : decode prog_87_method_12_code 31 = .ok (.iinc 3 1, 3) := by decide +kernel
theorem d7_34 : decode prog_87_method_12_code 34 = .ok (.goto (-30), 3) := by decide +kernel
theorem d7_37 : decode prog_87_method_12_code 37 = .ok (.aload_n 0, 1) := by decide +kernel
theorem d7_38 : decode prog_87_method_12_code 38 = .ok (.getfield 54, 3) := by decide +kernel
theorem d7_41 : decode prog_87_method_12_code 41 = .ok (.iload_n 2, 1) := by decide +kernel
theorem d7_42 : decode prog_87_method_12_code 42 = .ok (.daload, 1) := by decide +kernel
theorem d7_43 : decode prog_87_method_12_code 43 = .ok (.dreturn, 1) := by decide +kernel
def Q_rm7 (Z : State) (a : Addr) (aa : Addr) (bv : Addr) (kbv : ClassId) (br : Addr) (kbr : ClassId) (ac : Addr) (kc : ClassId) (ka : ClassId) (vc : List Value) (va : List Value) (y0 : Int32) (y1 : Int32) (x0 : Int32) (x1 : Int32) (ee : Int32) (xx : UInt64) (h0 : Heap) (n0 : Nat) (v : Option Value) (h : Heap) (L : List Loc) : Prop := v = some (.double xx) ∧ Fr n0 L ∧ h = h0
theorem ef_rm7 (m : MethodId) (a : Addr) (aa : Addr) : entryFrame m #[(.ref a), (.ref aa)] 4 = mkF m 0 #[.val (.ref a), .val (.ref aa), .unset, .unset] [] := by first | (simp [entryFrame, mkF, argsToLocals, Value.category]; done) | rfl
set_option maxRecDepth 65536 in
set_option maxHeartbeats 40000000 in
theorem rm7 (l : Launch) (Z : State) (a0 : Array Value) (hw : ∀ d ∈ tables_1, d.before a0 Z = true) (ws : List Jvm.Cond) (a : Addr) (aa : Addr) (bv : Addr) (kbv : ClassId) (br : Addr) (kbr : ClassId) (ac : Addr) (kc : ClassId) (ka : ClassId) (vc : List Value) (va : List Value) (y0 : Int32) (y1 : Int32) (x0 : Int32) (x1 : Int32) (ee : Int32) (xx : UInt64) (h0 : Heap) (n0 : Nat) (Z0 : n0 ≤ h0.size) (F_v : Fld Z h0 a "com/example/tributary/tributary/model/CostTable" "variables" "[I" (.ref bv)) (F_s : Fld Z h0 a "com/example/tributary/tributary/model/CostTable" "strides" "[I" (.ref br)) (F_c : Fld Z h0 a "com/example/tributary/tributary/model/CostTable" "costs" "[D" (.ref ac)) (V_v : Arv Z h0 bv kbv .int (2 : Int32) [(.int y0), (.int y1)] (.int (0 : Int32))) (V_s : Arv Z h0 br kbr .int (2 : Int32) [(.int (3 : Int32)), (.int (1 : Int32))] (.int (0 : Int32))) (V_c : Arv Z h0 ac kc .double (6 : Int32) vc (.double (0 : UInt64))) (V_a : Arv Z h0 aa ka .int (4 : Int32) va (.int (0 : Int32))) (hi0 : ¬ y0 < 0 ∧ y0 < (4 : Int32)) (hi1 : ¬ y1 < 0 ∧ y1 < (4 : Int32)) (ha0 : va.getD y0.toNatClampNeg (.int (0 : Int32)) = .int x0) (ha1 : va.getD y1.toNatClampNeg (.int (0 : Int32)) = .int x1) (hee : (((0 : Int32) + (x0 * (3 : Int32))) + (x1 * (1 : Int32))) = ee) (hin : ¬ ee < 0 ∧ ee < (6 : Int32)) (hat : vc.getD ee.toNatClampNeg (.double (0 : UInt64)) = .double xx) :
    MetFree l (⟨"com/example/tributary/tributary/model/CostTable", "cost", "([I)D"⟩ : MethodName) (head1 (Jvm.Cond.code (⟨"com/example/tributary/tributary/model/CostTable", "cost", "([I)D"⟩ : MethodName) prog_87_method_12_code 4 (some .double) :: ws) ({ frames := 0, cells := 0, slots := 0, locals := 0 } : Room)) (fun ag_ U_ => ag_ = #[(.ref a), (.ref aa)] ∧ Z.Warmed39 U_.vm ∧ U_.heap = h0) (fun _ _ _ _ _ => True) (fun _ U_ o_ V_ => ∃ v_ L_, o_ = .returned v_ ∧ (Q_rm7 Z a aa bv kbv br kbr ac kc ka vc va y0 y1 x0 x1 ee xx h0 n0) v_ V_.heap L_ ∧ FrameEnd U_ o_ V_ L_ ({ frames := 0, cells := 0, slots := 0, locals := 0 } : Room).cells ({ frames := 0, cells := 0, slots := 0, locals := 0 } : Room).slots) := by
  refine MetFree.of_bodySF (plainFor_of_name own_pn1) hisR ?_
  intro p e s m args below meth c s₁ Bd hml0 hP hK
  obtain ⟨rfl, hZ, hh⟩ := hP
  have hx := Bd.exec
  have hby := Bd.bytes
  have hml : c.maxLocals = 4 := hml0
  have hown : s.vm.findClass "com/example/tributary/tributary/model/CostTable" = some m.cls := findClass_of_methodNamed Bd.named
  have hnm := (name_of_methodNamed Bd.named Bd.method).1
  have X0 : Stand p l e ({ frames := 0, cells := 0, slots := 0, locals := 0 } : Room) s m #[(.ref a), (.ref aa)] below meth c s₁ [] 0 0 := Stand.of_body Bd
  have e0 : s₁.heap = h0 := by rw [← hh, Bd.state]; rfl
  have N0 := Fr.nil n0
  refine Go.st (G := fun s₂ o_ => ∃ v_ L_, o_ = .returned v_ ∧ (Q_rm7 Z a aa bv kbv br kbr ac kc ka vc va y0 y1 x0 x1 ee xx h0 n0) v_ s₂.heap L_ ∧ FrameEnd s o_ s₂ L_ ({ frames := 0, cells := 0, slots := 0, locals := 0 } : Room).cells ({ frames := 0, cells := 0, slots := 0, locals := 0 } : Room).slots) (fun t kt => castTop (ef_rm7 m a aa) kt) ?_
  show Go p e below _ (s₁.setTop (mkF m 0 #[.val (.ref a), .val (.ref aa), .unset, .unset] []))
  refine Go.st (fun _ kt => XS.iconst X0.here hx rfl (hb hby d7_0) kt) ?_
  show Go p e below _ (s₁.setTop (mkF m 1 #[.val (.ref a), .val (.ref aa), .unset, .unset] [(.int (0 : Int32))]))
  refine Go.st (fun _ kt => XS.istoreN X0.here hx rfl (hb hby d7_1) rfl (l' := #[.val (.ref a), .val (.ref aa), .val (.int (0 : Int32)), .unset]) rfl kt) ?_
  show Go p e below _ (s₁.setTop (mkF m 2 #[.val (.ref a), .val (.ref aa), .val (.int (0 : Int32)), .unset] []))
  refine Go.st (fun _ kt => XS.iconst X0.here hx rfl (hb hby d7_2) kt) ?_
  show Go p e below _ (s₁.setTop (mkF m 3 #[.val (.ref a), .val (.ref aa), .val (.int (0 : Int32)), .unset] [(.int (0 : Int32))]))
  refine Go.st (fun _ kt => XS.istoreN X0.here hx rfl (hb hby d7_3) rfl (l' := #[.val (.ref a), .val (.ref aa), .val (.int (0 : Int32)), .val (.int (0 : Int32))]) rfl kt) ?_
  show Go p e below _ (s₁.setTop (mkF m 4 #[.val (.ref a), .val (.ref aa), .val (.int (0 : Int32)), .val (.int (0 : Int32))] []))
  refine Go.st (fun _ kt => XS.iloadN X0.here hx rfl (hb hby d7_4) rfl kt) ?_
  show Go p e below _ (s₁.setTop (mkF m 5 #[.val (.ref a), .val (.ref aa), .val (.int (0 : Int32)), .val (.int (0 : Int32))] [(.int (0 : Int32))]))
  refine Go.st (fun _ kt => XS.aloadN X0.here hx rfl (hb hby d7_5) rfl rfl kt) ?_
  show Go p e below _ (s₁.setTop (mkF m 6 #[.val (.ref a), .val (.ref aa), .val (.int (0 : Int32)), .val (.int (0 : Int32))] [(.ref a), (.int (0 : Int32))]))
  obtain ⟨T1, X1, e1, st1⟩ := getF X0 hx hZ hown (host := "") (Or.inl (hw _ (List.mem_of_getElem? (i := 29) rfl))) Via.refl e0 F_v (g := (mkF m 6 #[.val (.ref a), .val (.ref aa), .val (.int (0 : Int32)), .val (.int (0 : Int32))] [(.ref a), (.int (0 : Int32))])) rfl rfl (hb hby d7_6)
  refine Go.st st1 ?_
  show Go p e below _ (T1.setTop (mkF m 9 #[.val (.ref a), .val (.ref aa), .val (.int (0 : Int32)), .val (.int (0 : Int32))] [(.ref bv), (.int (0 : Int32))]))
  obtain ⟨cl2, Ar2, -, S2, N2', -, -⟩ := id V_v
  refine Go.st (fun _ kt => X1.arraylength hx (by rw [e1]; exact Ar2.1) (State.isArrayOf_alike hZ.alike Ar2.2.1) (g := (mkF m 9 #[.val (.ref a), .val (.ref aa), .val (.int (0 : Int32)), .val (.int (0 : Int32))] [(.ref bv), (.int (0 : Int32))])) rfl rfl (hb hby d7_9) _ kt) ?_
  rw [len_of S2 N2']
  show Go p e below _ (T1.setTop (mkF m 10 #[.val (.ref a), .val (.ref aa), .val (.int (0 : Int32)), .val (.int (0 : Int32))] [(.int (2 : Int32)), (.int (0 : Int32))]))
  refine Go.st (fun _ kt => XS.icmpNo X1.here hx rfl (hb hby d7_10) rfl (tlt (by decide : (0 : Int32) < (2 : Int32))).2.1 kt) ?_
  show Go p e below _ (T1.setTop (mkF m 13 #[.val (.ref a), .val (.ref aa), .val (.int (0 : Int32)), .val (.int (0 : Int32))] []))
  refine Go.st (fun _ kt => XS.iloadN X1.here hx rfl (hb hby d7_13) rfl kt) ?_
  show Go p e below _ (T1.setTop (mkF m 14 #[.val (.ref a), .val (.ref aa), .val (.int (0 : Int32)), .val (.int (0 : Int32))] [(.int (0 : Int32))]))
  refine Go.st (fun _ kt => XS.aloadN X1.here hx rfl (hb hby d7_14) rfl rfl kt) ?_
  show Go p e below _ (T1.setTop (mkF m 15 #[.val (.ref a), .val (.ref aa), .val (.int (0 : Int32)), .val (.int (0 : Int32))] [(.ref aa), (.int (0 : Int32))]))
  refine Go.st (fun _ kt => XS.aloadN X1.here hx rfl (hb hby d7_15) rfl rfl kt) ?_
  show Go p e below _ (T1.setTop (mkF m 16 #[.val (.ref a), .val (.ref aa), .val (.int (0 : Int32)), .val (.int (0 : Int32))] [(.ref a), (.ref aa), (.int (0 : Int32))]))
  obtain ⟨T3, X3, e3, st3⟩ := getF X1 hx hZ hown (host := "") (Or.inl (hw _ (List.mem_of_getElem? (i := 29) rfl))) Via.refl e1 F_v (g := (mkF m 16 #[.val (.ref a), .val (.ref aa), .val (.int (0 : Int32)), .val (.int (0 : Int32))] [(.ref a), (.ref aa), (.int (0 : Int32))])) rfl rfl (hb hby d7_16)
  refine Go.st st3 ?_
  show Go p e below _ (T3.setTop (mkF m 19 #[.val (.ref a), .val (.ref aa), .val (.int (0 : Int32)), .val (.int (0 : Int32))] [(.ref bv), (.ref aa), (.int (0 : Int32))]))
  refine Go.st (fun _ kt => XS.iloadN X3.here hx rfl (hb hby d7_19) rfl kt) ?_
  show Go p e below _ (T3.setTop (mkF m 20 #[.val (.ref a), .val (.ref aa), .val (.int (0 : Int32)), .val (.int (0 : Int32))] [(.int (0 : Int32)), (.ref bv), (.ref aa), (.int (0 : Int32))]))
  obtain ⟨cl4, Ar4, -, S4, N4', H4, G4⟩ := id V_v
  have hin4 := inb_of S4 (j := (0 : Int32)) ⟨by decide, by decide⟩
  have hat4 := Has.at H4 hin4 (v := (.int y0)) rfl
  refine Go.st (fun _ kt => X3.iaload hx (j := (0 : Int32)) (v := (.int y0)) (by rw [e3]; exact Ar4.1) (State.isArrayOf_alike hZ.alike Ar4.2.1) Ar4.2.2 hin4 hat4 (g := (mkF m 20 #[.val (.ref a), .val (.ref aa), .val (.int (0 : Int32)), .val (.int (0 : Int32))] [(.int (0 : Int32)), (.ref bv), (.ref aa), (.int (0 : Int32))])) rfl rfl (hb hby d7_20) _ kt) ?_
  show Go p e below _ (T3.setTop (mkF m 21 #[.val (.ref a), .val (.ref aa), .val (.int (0 : Int32)), .val (.int (0 : Int32))] [(.int y0), (.ref aa), (.int (0 : Int32))]))
  obtain ⟨cl5, Ar5, -, S5, N5', H5, G5⟩ := id V_a
  have hin5 := inb_of S5 (j := y0) hi0
  have hat5 := Has.at H5 hin5 (v := (.int x0)) ha0
  refine Go.st (fun _ kt => X3.iaload hx (j := y0) (v := (.int x0)) (by rw [e3]; exact Ar5.1) (State.isArrayOf_alike hZ.alike Ar5.2.1) Ar5.2.2 hin5 hat5 (g := (mkF m 21 #[.val (.ref a), .val (.ref aa), .val (.int (0 : Int32)), .val (.int (0 : Int32))] [(.int y0), (.ref aa), (.int (0 : Int32))])) rfl rfl (hb hby d7_21) _ kt) ?_
  show Go p e below _ (T3.setTop (mkF m 22 #[.val (.ref a), .val (.ref aa), .val (.int (0 : Int32)), .val (.int (0 : Int32))] [(.int x0), (.int (0 : Int32))]))
  refine Go.st (fun _ kt => XS.aloadN X3.here hx rfl (hb hby d7_22) rfl rfl kt) ?_
  show Go p e below _ (T3.setTop (mkF m 23 #[.val (.ref a), .val (.ref aa), .val (.int (0 : Int32)), .val (.int (0 : Int32))] [(.ref a), (.int x0), (.int (0 : Int32))]))
  obtain ⟨T6, X6, e6, st6⟩ := getF X3 hx hZ hown (host := "") (Or.inl (hw _ (List.mem_of_getElem? (i := 36) rfl))) Via.refl e3 F_s (g := (mkF m 23 #[.val (.ref a), .val (.ref aa), .val (.int (0 : Int32)), .val (.int (0 : Int32))] [(.ref a), (.int x0), (.int (0 : Int32))])) rfl rfl (hb hby d7_23)
  refine Go.st st6 ?_
  show Go p e below _ (T6.setTop (mkF m 26 #[.val (.ref a), .val (.ref aa), .val (.int (0 : Int32)), .val (.int (0 : Int32))] [(.ref br), (.int x0), (.int (0 : Int32))]))
  refine Go.st (fun _ kt => XS.iloadN X6.here hx rfl (hb hby d7_26) rfl kt) ?_
  show Go p e below _ (T6.setTop (mkF m 27 #[.val (.ref a), .val (.ref aa), .val (.int (0 : Int32)), .val (.int (0 : Int32))] [(.int (0 : Int32)), (.ref br), (.int x0), (.int (0 : Int32))]))
  obtain ⟨cl7, Ar7, -, S7, N7', H7, G7⟩ := id V_s
  have hin7 := inb_of S7 (j := (0 : Int32)) ⟨by decide, by decide⟩
  have hat7 := Has.at H7 hin7 (v := (.int (3 : Int32))) rfl
  refine Go.st (fun _ kt => X6.iaload hx (j := (0 : Int32)) (v := (.int (3 : Int32))) (by rw [e6]; exact Ar7.1) (State.isArrayOf_alike hZ.alike Ar7.2.1) Ar7.2.2 hin7 hat7 (g := (mkF m 27 #[.val (.ref a), .val (.ref aa), .val (.int (0 : Int32)), .val (.int (0 : Int32))] [(.int (0 : Int32)), (.ref br), (.int x0), (.int (0 : Int32))])) rfl rfl (hb hby d7_27) _ kt) ?_
  show Go p e below _ (T6.setTop (mkF m 28 #[.val (.ref a), .val (.ref aa), .val (.int (0 : Int32)), .val (.int (0 : Int32))] [(.int (3 : Int32)), (.int x0), (.int (0 : Int32))]))
  refine Go.st (fun _ kt => XS.imul X6.here hx rfl (hb hby d7_28) rfl kt) ?_
  show Go p e below _ (T6.setTop (mkF m 29 #[.val (.ref a), .val (.ref aa), .val (.int (0 : Int32)), .val (.int (0 : Int32))] [(.int (x0 * (3 : Int32))), (.int (0 : Int32))]))
  refine Go.st (fun _ kt => XS.iadd X6.here hx rfl (hb hby d7_29) rfl kt) ?_
  show Go p e below _ (T6.setTop (mkF m 30 #[.val (.ref a), .val (.ref aa), .val (.int (0 : Int32)), .val (.int (0 : Int32))] [(.int ((0 : Int32) + (x0 * (3 : Int32))))]))
  refine Go.st (fun _ kt => XS.istoreN X6.here hx rfl (hb hby d7_30) rfl (l' := #[.val (.ref a), .val (.ref aa), .val (.int ((0 : Int32) + (x0 * (3 : Int32)))), .val (.int (0 : Int32))]) rfl kt) ?_
  show Go p e below _ (T6.setTop (mkF m 31 #[.val (.ref a), .val (.ref aa), .val (.int ((0 : Int32) + (x0 * (3 : Int32)))), .val (.int (0 : Int32))] []))
  refine Go.st (fun _ kt => XS.iinc X6.here hx rfl (hb hby d7_31) rfl (l' := #[.val (.ref a), .val (.ref aa), .val (.int ((0 : Int32) + (x0 * (3 : Int32)))), .val (.int (1 : Int32))]) rfl kt) ?_
  show Go p e below _ (T6.setTop (mkF m 34 #[.val (.ref a), .val (.ref aa), .val (.int ((0 : Int32) + (x0 * (3 : Int32)))), .val (.int (1 : Int32))] []))
  refine Go.st (fun _ kt => XS.goto X6.here hx rfl (pc0 := 34) (pc' := 4) rfl (hb hby d7_34) (by decide) (by decide) kt) ?_
  show Go p e below _ (T6.setTop (mkF m 4 #[.val (.ref a), .val (.ref aa), .val (.int ((0 : Int32) + (x0 * (3 : Int32)))), .val (.int (1 : Int32))] []))
  refine Go.st (fun _ kt => XS.iloadN X6.here hx rfl (hb hby d7_4) rfl kt) ?_
  show Go p e below _ (T6.setTop (mkF m 5 #[.val (.ref a), .val (.ref aa), .val (.int ((0 : Int32) + (x0 * (3 : Int32)))), .val (.int (1 : Int32))] [(.int (1 : Int32))]))
  refine Go.st (fun _ kt => XS.aloadN X6.here hx rfl (hb hby d7_5) rfl rfl kt) ?_
  show Go p e below _ (T6.setTop (mkF m 6 #[.val (.ref a), .val (.ref aa), .val (.int ((0 : Int32) + (x0 * (3 : Int32)))), .val (.int (1 : Int32))] [(.ref a), (.int (1 : Int32))]))
  obtain ⟨T8, X8, e8, st8⟩ := getF X6 hx hZ hown (host := "") (Or.inl (hw _ (List.mem_of_getElem? (i := 29) rfl))) Via.refl e6 F_v (g := (mkF m 6 #[.val (.ref a), .val (.ref aa), .val (.int ((0 : Int32) + (x0 * (3 : Int32)))), .val (.int (1 : Int32))] [(.ref a), (.int (1 : Int32))])) rfl rfl (hb hby d7_6)
  refine Go.st st8 ?_
  show Go p e below _ (T8.setTop (mkF m 9 #[.val (.ref a), .val (.ref aa), .val (.int ((0 : Int32) + (x0 * (3 : Int32)))), .val (.int (1 : Int32))] [(.ref bv), (.int (1 : Int32))]))
  obtain ⟨cl9, Ar9, -, S9, N9', -, -⟩ := id V_v
  refine Go.st (fun _ kt => X8.arraylength hx (by rw [e8]; exact Ar9.1) (State.isArrayOf_alike hZ.alike Ar9.2.1) (g := (mkF m 9 #[.val (.ref a), .val (.ref aa), .val (.int ((0 : Int32) + (x0 * (3 : Int32)))), .val (.int (1 : Int32))] [(.ref bv), (.int (1 : Int32))])) rfl rfl (hb hby d7_9) _ kt) ?_
  rw [len_of S9 N9']
  show Go p e below _ (T8.setTop (mkF m 10 #[.val (.ref a), .val (.ref aa), .val (.int ((0 : Int32) + (x0 * (3 : Int32)))), .val (.int (1 : Int32))] [(.int (2 : Int32)), (.int (1 : Int32))]))
  refine Go.st (fun _ kt => XS.icmpNo X8.here hx rfl (hb hby d7_10) rfl (tlt (by decide : (1 : Int32) < (2 : Int32))).2.1 kt) ?_
  show Go p e below _ (T8.setTop (mkF m 13 #[.val (.ref a), .val (.ref aa), .val (.int ((0 : Int32) + (x0 * (3 : Int32)))), .val (.int (1 : Int32))] []))
  refine Go.st (fun _ kt => XS.iloadN X8.here hx rfl (hb hby d7_13) rfl kt) ?_
  show Go p e below _ (T8.setTop (mkF m 14 #[.val (.ref a), .val (.ref aa), .val (.int ((0 : Int32) + (x0 * (3 : Int32)))), .val (.int (1 : Int32))] [(.int ((0 : Int32) + (x0 * (3 : Int32))))]))
  refine Go.st (fun _ kt => XS.aloadN X8.here hx rfl (hb hby d7_14) rfl rfl kt) ?_
  show Go p e below _ (T8.setTop (mkF m 15 #[.val (.ref a), .val (.ref aa), .val (.int ((0 : Int32) + (x0 * (3 : Int32)))), .val (.int (1 : Int32))] [(.ref aa), (.int ((0 : Int32) + (x0 * (3 : Int32))))]))
  refine Go.st (fun _ kt => XS.aloadN X8.here hx rfl (hb hby d7_15) rfl rfl kt) ?_
  show Go p e below _ (T8.setTop (mkF m 16 #[.val (.ref a), .val (.ref aa), .val (.int ((0 : Int32) + (x0 * (3 : Int32)))), .val (.int (1 : Int32))] [(.ref a), (.ref aa), (.int ((0 : Int32) + (x0 * (3 : Int32))))]))
  obtain ⟨T10, X10, e10, st10⟩ := getF X8 hx hZ hown (host := "") (Or.inl (hw _ (List.mem_of_getElem? (i := 29) rfl))) Via.refl e8 F_v (g := (mkF m 16 #[.val (.ref a), .val (.ref aa), .val (.int ((0 : Int32) + (x0 * (3 : Int32)))), .val (.int (1 : Int32))] [(.ref a), (.ref aa), (.int ((0 : Int32) + (x0 * (3 : Int32))))])) rfl rfl (hb hby d7_16)
  refine Go.st st10 ?_
  show Go p e below _ (T10.setTop (mkF m 19 #[.val (.ref a), .val (.ref aa), .val (.int ((0 : Int32) + (x0 * (3 : Int32)))), .val (.int (1 : Int32))] [(.ref bv), (.ref aa), (.int ((0 : Int32) + (x0 * (3 : Int32))))]))
  refine Go.st (fun _ kt => XS.iloadN X10.here hx rfl (hb hby d7_19) rfl kt) ?_
  show Go p e below _ (T10.setTop (mkF m 20 #[.val (.ref a), .val (.ref aa), .val (.int ((0 : Int32) + (x0 * (3 : Int32)))), .val (.int (1 : Int32))] [(.int (1 : Int32)), (.ref bv), (.ref aa), (.int ((0 : Int32) + (x0 * (3 : Int32))))]))
  obtain ⟨cl11, Ar11, -, S11, N11', H11, G11⟩ := id V_v
  have hin11 := inb_of S11 (j := (1 : Int32)) ⟨by decide, by decide⟩
  have hat11 := Has.at H11 hin11 (v := (.int y1)) rfl
  refine Go.st (fun _ kt => X10.iaload hx (j := (1 : Int32)) (v := (.int y1)) (by rw [e10]; exact Ar11.1) (State.isArrayOf_alike hZ.alike Ar11.2.1) Ar11.2.2 hin11 hat11 (g := (mkF m 20 #[.val (.ref a), .val (.ref aa), .val (.int ((0 : Int32) + (x0 * (3 : Int32)))), .val (.int (1 : Int32))] [(.int (1 : Int32)), (.ref bv), (.ref aa), (.int ((0 : Int32) + (x0 * (3 : Int32))))])) rfl rfl (hb hby d7_20) _ kt) ?_
  show Go p e below _ (T10.setTop (mkF m 21 #[.val (.ref a), .val (.ref aa), .val (.int ((0 : Int32) + (x0 * (3 : Int32)))), .val (.int (1 : Int32))] [(.int y1), (.ref aa), (.int ((0 : Int32) + (x0 * (3 : Int32))))]))
  obtain ⟨cl12, Ar12, -, S12, N12', H12, G12⟩ := id V_a
  have hin12 := inb_of S12 (j := y1) hi1
  have hat12 := Has.at H12 hin12 (v := (.int x1)) ha1
  refine Go.st (fun _ kt => X10.iaload hx (j := y1) (v := (.int x1)) (by rw [e10]; exact Ar12.1) (State.isArrayOf_alike hZ.alike Ar12.2.1) Ar12.2.2 hin12 hat12 (g := (mkF m 21 #[.val (.ref a), .val (.ref aa), .val (.int ((0 : Int32) + (x0 * (3 : Int32)))), .val (.int (1 : Int32))] [(.int y1), (.ref aa), (.int ((0 : Int32) + (x0 * (3 : Int32))))])) rfl rfl (hb hby d7_21) _ kt) ?_
  show Go p e below _ (T10.setTop (mkF m 22 #[.val (.ref a), .val (.ref aa), .val (.int ((0 : Int32) + (x0 * (3 : Int32)))), .val (.int (1 : Int32))] [(.int x1), (.int ((0 : Int32) + (x0 * (3 : Int32))))]))
  refine Go.st (fun _ kt => XS.aloadN X10.here hx rfl (hb hby d7_22) rfl rfl kt) ?_
  show Go p e below _ (T10.setTop (mkF m 23 #[.val (.ref a), .val (.ref aa), .val (.int ((0 : Int32) + (x0 * (3 : Int32)))), .val (.int (1 : Int32))] [(.ref a), (.int x1), (.int ((0 : Int32) + (x0 * (3 : Int32))))]))
  obtain ⟨T13, X13, e13, st13⟩ := getF X10 hx hZ hown (host := "") (Or.inl (hw _ (List.mem_of_getElem? (i := 36) rfl))) Via.refl e10 F_s (g := (mkF m 23 #[.val (.ref a), .val (.ref aa), .val (.int ((0 : Int32) + (x0 * (3 : Int32)))), .val (.int (1 : Int32))] [(.ref a), (.int x1), (.int ((0 : Int32) + (x0 * (3 : Int32))))])) rfl rfl (hb hby d7_23)
  refine Go.st st13 ?_
  show Go p e below _ (T13.setTop (mkF m 26 #[.val (.ref a), .val (.ref aa), .val (.int ((0 : Int32) + (x0 * (3 : Int32)))), .val (.int (1 : Int32))] [(.ref br), (.int x1), (.int ((0 : Int32) + (x0 * (3 : Int32))))]))
  refine Go.st (fun _ kt => XS.iloadN X13.here hx rfl (hb hby d7_26) rfl kt) ?_
  show Go p e below _ (T13.setTop (mkF m 27 #[.val (.ref a), .val (.ref aa), .val (.int ((0 : Int32) + (x0 * (3 : Int32)))), .val (.int (1 : Int32))] [(.int (1 : Int32)), (.ref br), (.int x1), (.int ((0 : Int32) + (x0 * (3 : Int32))))]))
  obtain ⟨cl14, Ar14, -, S14, N14', H14, G14⟩ := id V_s
  have hin14 := inb_of S14 (j := (1 : Int32)) ⟨by decide, by decide⟩
  have hat14 := Has.at H14 hin14 (v := (.int (1 : Int32))) rfl
  refine Go.st (fun _ kt => X13.iaload hx (j := (1 : Int32)) (v := (.int (1 : Int32))) (by rw [e13]; exact Ar14.1) (State.isArrayOf_alike hZ.alike Ar14.2.1) Ar14.2.2 hin14 hat14 (g := (mkF m 27 #[.val (.ref a), .val (.ref aa), .val (.int ((0 : Int32) + (x0 * (3 : Int32)))), .val (.int (1 : Int32))] [(.int (1 : Int32)), (.ref br), (.int x1), (.int ((0 : Int32) + (x0 * (3 : Int32))))])) rfl rfl (hb hby d7_27) _ kt) ?_
  show Go p e below _ (T13.setTop (mkF m 28 #[.val (.ref a), .val (.ref aa), .val (.int ((0 : Int32) + (x0 * (3 : Int32)))), .val (.int (1 : Int32))] [(.int (1 : Int32)), (.int x1), (.int ((0 : Int32) + (x0 * (3 : Int32))))]))
  refine Go.st (fun _ kt => XS.imul X13.here hx rfl (hb hby d7_28) rfl kt) ?_
  show Go p e below _ (T13.setTop (mkF m 29 #[.val (.ref a), .val (.ref aa), .val (.int ((0 : Int32) + (x0 * (3 : Int32)))), .val (.int (1 : Int32))] [(.int (x1 * (1 : Int32))), (.int ((0 : Int32) + (x0 * (3 : Int32))))]))
  refine Go.st (fun _ kt => XS.iadd X13.here hx rfl (hb hby d7_29) rfl kt) ?_
  show Go p e below _ (T13.setTop (mkF m 30 #[.val (.ref a), .val (.ref aa), .val (.int ((0 : Int32) + (x0 * (3 : Int32)))), .val (.int (1 : Int32))] [(.int (((0 : Int32) + (x0 * (3 : Int32))) + (x1 * (1 : Int32))))]))
  refine Go.st (fun _ kt => XS.istoreN X13.here hx rfl (hb hby d7_30) rfl (l' := #[.val (.ref a), .val (.ref aa), .val (.int (((0 : Int32) + (x0 * (3 : Int32))) + (x1 * (1 : Int32)))), .val (.int (1 : Int32))]) rfl kt) ?_
  show Go p e below _ (T13.setTop (mkF m 31 #[.val (.ref a), .val (.ref aa), .val (.int (((0 : Int32) + (x0 * (3 : Int32))) + (x1 * (1 : Int32)))), .val (.int (1 : Int32))] []))
  refine Go.st (fun _ kt => XS.iinc X13.here hx rfl (hb hby d7_31) rfl (l' := #[.val (.ref a), .val (.ref aa), .val (.int (((0 : Int32) + (x0 * (3 : Int32))) + (x1 * (1 : Int32)))), .val (.int (2 : Int32))]) rfl kt) ?_
  show Go p e below _ (T13.setTop (mkF m 34 #[.val (.ref a), .val (.ref aa), .val (.int (((0 : Int32) + (x0 * (3 : Int32))) + (x1 * (1 : Int32)))), .val (.int (2 : Int32))] []))
  refine Go.st (fun _ kt => XS.goto X13.here hx rfl (pc0 := 34) (pc' := 4) rfl (hb hby d7_34) (by decide) (by decide) kt) ?_
  show Go p e below _ (T13.setTop (mkF m 4 #[.val (.ref a), .val (.ref aa), .val (.int (((0 : Int32) + (x0 * (3 : Int32))) + (x1 * (1 : Int32)))), .val (.int (2 : Int32))] []))
  refine Go.st (fun _ kt => XS.iloadN X13.here hx rfl (hb hby d7_4) rfl kt) ?_
  show Go p e below _ (T13.setTop (mkF m 5 #[.val (.ref a), .val (.ref aa), .val (.int (((0 : Int32) + (x0 * (3 : Int32))) + (x1 * (1 : Int32)))), .val (.int (2 : Int32))] [(.int (2 : Int32))]))
  refine Go.st (fun _ kt => XS.aloadN X13.here hx rfl (hb hby d7_5) rfl rfl kt) ?_
  show Go p e below _ (T13.setTop (mkF m 6 #[.val (.ref a), .val (.ref aa), .val (.int (((0 : Int32) + (x0 * (3 : Int32))) + (x1 * (1 : Int32)))), .val (.int (2 : Int32))] [(.ref a), (.int (2 : Int32))]))
  obtain ⟨T15, X15, e15, st15⟩ := getF X13 hx hZ hown (host := "") (Or.inl (hw _ (List.mem_of_getElem? (i := 29) rfl))) Via.refl e13 F_v (g := (mkF m 6 #[.val (.ref a), .val (.ref aa), .val (.int (((0 : Int32) + (x0 * (3 : Int32))) + (x1 * (1 : Int32)))), .val (.int (2 : Int32))] [(.ref a), (.int (2 : Int32))])) rfl rfl (hb hby d7_6)
  refine Go.st st15 ?_
  show Go p e below _ (T15.setTop (mkF m 9 #[.val (.ref a), .val (.ref aa), .val (.int (((0 : Int32) + (x0 * (3 : Int32))) + (x1 * (1 : Int32)))), .val (.int (2 : Int32))] [(.ref bv), (.int (2 : Int32))]))
  obtain ⟨cl16, Ar16, -, S16, N16', -, -⟩ := id V_v
  refine Go.st (fun _ kt => X15.arraylength hx (by rw [e15]; exact Ar16.1) (State.isArrayOf_alike hZ.alike Ar16.2.1) (g := (mkF m 9 #[.val (.ref a), .val (.ref aa), .val (.int (((0 : Int32) + (x0 * (3 : Int32))) + (x1 * (1 : Int32)))), .val (.int (2 : Int32))] [(.ref bv), (.int (2 : Int32))])) rfl rfl (hb hby d7_9) _ kt) ?_
  rw [len_of S16 N16']
  show Go p e below _ (T15.setTop (mkF m 10 #[.val (.ref a), .val (.ref aa), .val (.int (((0 : Int32) + (x0 * (3 : Int32))) + (x1 * (1 : Int32)))), .val (.int (2 : Int32))] [(.int (2 : Int32)), (.int (2 : Int32))]))
  refine Go.st (fun _ kt => XS.icmpYes X15.here hx rfl (pc0 := 10) (pc' := 37) rfl (hb hby d7_10) rfl (flt (by decide : ¬ ((2 : Int32) < (2 : Int32)))).2.1 (by decide) (by decide) kt) ?_
  show Go p e below _ (T15.setTop (mkF m 37 #[.val (.ref a), .val (.ref aa), .val (.int (((0 : Int32) + (x0 * (3 : Int32))) + (x1 * (1 : Int32)))), .val (.int (2 : Int32))] []))
  refine Go.st (fun _ kt => XS.aloadN X15.here hx rfl (hb hby d7_37) rfl rfl kt) ?_
  show Go p e below _ (T15.setTop (mkF m 38 #[.val (.ref a), .val (.ref aa), .val (.int (((0 : Int32) + (x0 * (3 : Int32))) + (x1 * (1 : Int32)))), .val (.int (2 : Int32))] [(.ref a)]))
  obtain ⟨T17, X17, e17, st17⟩ := getF X15 hx hZ hown (host := "") (Or.inl (hw _ (List.mem_of_getElem? (i := 38) rfl))) Via.refl e15 F_c (g := (mkF m 38 #[.val (.ref a), .val (.ref aa), .val (.int (((0 : Int32) + (x0 * (3 : Int32))) + (x1 * (1 : Int32)))), .val (.int (2 : Int32))] [(.ref a)])) rfl rfl (hb hby d7_38)
  refine Go.st st17 ?_
  show Go p e below _ (T17.setTop (mkF m 41 #[.val (.ref a), .val (.ref aa), .val (.int (((0 : Int32) + (x0 * (3 : Int32))) + (x1 * (1 : Int32)))), .val (.int (2 : Int32))] [(.ref ac)]))
  refine Go.st (fun _ kt => XS.iloadN X17.here hx rfl (hb hby d7_41) rfl kt) ?_
  show Go p e below _ (T17.setTop (mkF m 42 #[.val (.ref a), .val (.ref aa), .val (.int (((0 : Int32) + (x0 * (3 : Int32))) + (x1 * (1 : Int32)))), .val (.int (2 : Int32))] [(.int (((0 : Int32) + (x0 * (3 : Int32))) + (x1 * (1 : Int32)))), (.ref ac)]))
  rw [(hee : ((0 : Int32) + (x0 * (3 : Int32))) + (x1 * (1 : Int32)) = ee)]
  show Go p e below _ (T17.setTop (mkF m 42 #[.val (.ref a), .val (.ref aa), .val (.int (ee)), .val (.int (2 : Int32))] [(.int (ee)), (.ref ac)]))
  show Go p e below _ (T17.setTop (mkF m 42 #[.val (.ref a), .val (.ref aa), .val (.int ee), .val (.int (2 : Int32))] [(.int ee), (.ref ac)]))
  obtain ⟨cl18, Ar18, -, S18, N18', H18, G18⟩ := id V_c
  have hin18 := inb_of S18 (j := ee) hin
  have hat18 := Has.at H18 hin18 (v := (.double xx)) hat
  refine Go.st (fun _ kt => X17.daload hx (j := ee) (v := (.double xx)) (by rw [e17]; exact Ar18.1) (State.isArrayOf_alike hZ.alike Ar18.2.1) Ar18.2.2 hin18 hat18 (g := (mkF m 42 #[.val (.ref a), .val (.ref aa), .val (.int ee), .val (.int (2 : Int32))] [(.int ee), (.ref ac)])) rfl rfl (hb hby d7_42) _ kt) ?_
  show Go p e below _ (T17.setTop (mkF m 43 #[.val (.ref a), .val (.ref aa), .val (.int ee), .val (.int (2 : Int32))] [(.double xx)]))
  refine Go.retW X17 hx Bd.returns rfl (Or.inr (Or.inr (Or.inl ⟨rfl, rfl, _, rfl⟩))) (BodyLoose.notSynchronized Bd) (hb hby d7_43) (Q := (Q_rm7 Z a aa bv kbv br kbr ac kc ka vc va y0 y1 x0 x1 ee xx h0 n0)) (by decide) (by decide) ?_
  show (Q_rm7 Z a aa bv kbv br kbr ac kc ka vc va y0 y1 x0 x1 ee xx h0 n0) _ T17.heap _
  rw [e17]
  exact ⟨rfl, N0, rfl⟩
theorem own_pd4 : parseMethodDescriptor "(IIZI)D" = some ⟨[.int, .int, .boolean, .int], some .double⟩ := by decide +kernel
theorem own_pd5 : parseMethodDescriptor "([I[I[D)V" = some ⟨[(.array .int), (.array .int), (.array .double)], none⟩ := by decide +kernel
theorem own_pd6 : parseMethodDescriptor "(I)D" = some ⟨[.int], some .double⟩ := by decide +kernel
theorem own_pd7 : parseMethodDescriptor "([I)D" = some ⟨[(.array .int)], some .double⟩ := by decide +kernel
def Q_rm0 (Z : State) (pp : Int32) (en : Int32) (ia : Int32) (vr : Int32) (h0 : Heap) (n0 : Nat) (v : Option Value) (h : Heap) (L : List Loc) : Prop := v = some (.int 1) ∧ Fr n0 L
theorem ef_rm0 (m : MethodId) (pp : Int32) (en : Int32) (ia : Int32) (vr : Int32) : entryFrame m #[(.int pp), (.int en), (.int ia), (.int vr)] maxLocals = mkF m 0 #[.val (.int pp), .val (.int en), .val (.int ia), .val (.int vr), .unset, .unset, .unset, .unset, .unset, .unset, .unset, .unset, .unset, .unset, .unset, .unset, .unset, .unset] [] := by first | (simp [entryFrame, mkF, argsToLocals, Value.category, maxLocals]; done) | rfl
set_option maxRecDepth 65536 in
set_option maxHeartbeats 40000000 in
theorem rm0 (l : Launch) (Z : State) (a0 : Array Value) (hw : ∀ d ∈ tables_1, d.before a0 Z = true) (ws : List Jvm.Cond) (pp : Int32) (en : Int32) (ia : Int32) (vr : Int32) (h0 : Heap) (n0 : Nat) (Z0 : n0 ≤ h0.size) :
    MetFree l x (head1 (Jvm.Cond.code x code maxLocals ret :: ws) room_1) (fun ag_ U_ => ag_ = #[(.int pp), (.int en), (.int ia), (.int vr)] ∧ Z.Warmed39 U_.vm ∧ U_.heap = h0) (fun _ _ _ _ _ => True) (fun _ U_ o_ V_ => ∃ v_ L_, o_ = .returned v_ ∧ (Q_rm0 Z pp en ia vr h0 n0) v_ V_.heap L_ ∧ FrameEnd U_ o_ V_ L_ room_1.cells room_1.slots) := by
  refine MetFree.of_bodySF (plainFor_of_name own_pn0) hisR ?_
  intro p e s m args below meth c s₁ Bd hml0 hP hK
  obtain ⟨rfl, hZ, hh⟩ := hP
  have hx := Bd.exec
  have hby := Bd.bytes
  have hml : c.maxLocals = 18 := hml0
  have hown : s.vm.findClass "com/example/tributary/tributary/model/CostTableCostPinLaw" = some m.cls := findClass_of_methodNamed Bd.named
  have hnm := (name_of_methodNamed Bd.named Bd.method).1
  have X0 : Stand p l e room_1 s m #[(.int pp), (.int en), (.int ia), (.int vr)] below meth c s₁ [] 0 0 := Stand.of_body Bd
  have e0 : s₁.heap = h0 := by rw [← hh, Bd.state]; rfl
  have N0 := Fr.nil n0
  refine Go.st (G := fun s₂ o_ => ∃ v_ L_, o_ = .returned v_ ∧ (Q_rm0 Z pp en ia vr h0 n0) v_ s₂.heap L_ ∧ FrameEnd s o_ s₂ L_ room_1.cells room_1.slots) (fun t kt => castTop (ef_rm0 m pp en ia vr) kt) ?_
  have hW := own_vars vr
  show Go p e below _ (s₁.setTop (mkF m 0 #[.val (.int pp), .val (.int en), .val (.int ia), .val (.int vr), .unset, .unset, .unset, .unset, .unset, .unset, .unset, .unset, .unset, .unset, .unset, .unset, .unset, .unset] []))
  refine Go.st (fun _ kt => XS.iloadN X0.here hx rfl (hb hby at_0) rfl kt) ?_
  show Go p e below _ (s₁.setTop (mkF m 1 #[.val (.int pp), .val (.int en), .val (.int ia), .val (.int vr), .unset, .unset, .unset, .unset, .unset, .unset, .unset, .unset, .unset, .unset, .unset, .unset, .unset, .unset] [(.int en)]))
  refine Go.st (fun _ kt => X0.ldcInt hx hown (mvT hZ (hw _ (List.mem_of_getElem? (i := 0) rfl))) (g := (mkF m 1 #[.val (.int pp), .val (.int en), .val (.int ia), .val (.int vr), .unset, .unset, .unset, .unset, .unset, .unset, .unset, .unset, .unset, .unset, .unset, .unset, .unset, .unset] [(.int en)])) rfl (hb hby at_1) _ kt) ?_
  show Go p e below _ (s₁.setTop (mkF m 3 #[.val (.int pp), .val (.int en), .val (.int ia), .val (.int vr), .unset, .unset, .unset, .unset, .unset, .unset, .unset, .unset, .unset, .unset, .unset, .unset, .unset, .unset] [(.int (2147483647 : Int32)), (.int en)]))
  refine Go.st (fun _ kt => XS.iand X0.here hx rfl (hb hby at_3) rfl kt) ?_
  show Go p e below _ (s₁.setTop (mkF m 4 #[.val (.int pp), .val (.int en), .val (.int ia), .val (.int vr), .unset, .unset, .unset, .unset, .unset, .unset, .unset, .unset, .unset, .unset, .unset, .unset, .unset, .unset] [(.int (en &&& (2147483647 : Int32)))]))
  refine Go.st (fun _ kt => XS.bipush X0.here hx rfl (hb hby at_4) kt) ?_
  show Go p e below _ (s₁.setTop (mkF m 6 #[.val (.int pp), .val (.int en), .val (.int ia), .val (.int vr), .unset, .unset, .unset, .unset, .unset, .unset, .unset, .unset, .unset, .unset, .unset, .unset, .unset, .unset] [(.int (6 : Int32)), (.int (en &&& (2147483647 : Int32)))]))
  refine Go.st (fun _ kt => iremM X0 hx rfl (hb hby at_6) rfl (by decide) kt) ?_
  show Go p e below _ (s₁.setTop (mkF m 7 #[.val (.int pp), .val (.int en), .val (.int ia), .val (.int vr), .unset, .unset, .unset, .unset, .unset, .unset, .unset, .unset, .unset, .unset, .unset, .unset, .unset, .unset] [(.int ((en &&& (2147483647 : Int32)) % (6 : Int32)))]))
  generalize hee : (((en &&& (2147483647 : Int32)) % (6 : Int32)) : Int32) = ee
  show Go p e below _ (s₁.setTop (mkF m 7 #[.val (.int pp), .val (.int en), .val (.int ia), .val (.int vr), .unset, .unset, .unset, .unset, .unset, .unset, .unset, .unset, .unset, .unset, .unset, .unset, .unset, .unset] [(.int ee)]))
  have hE : own_E ee := by have q := own_e6 en; rw [hee] at q; exact q
  refine Go.st (fun _ kt => XS.istore X0.here hx rfl (hb hby at_7) rfl (l' := #[.val (.int pp), .val (.int en), .val (.int ia), .val (.int vr), .val (.int ee), .unset, .unset, .unset, .unset, .unset, .unset, .unset, .unset, .unset, .unset, .unset, .unset, .unset]) rfl kt) ?_
  show Go p e below _ (s₁.setTop (mkF m 9 #[.val (.int pp), .val (.int en), .val (.int ia), .val (.int vr), .val (.int ee), .unset, .unset, .unset, .unset, .unset, .unset, .unset, .unset, .unset, .unset, .unset, .unset, .unset] []))
  refine Go.st (fun _ kt => XS.iloadN X0.here hx rfl (hb hby at_9) rfl kt) ?_
  show Go p e below _ (s₁.setTop (mkF m 10 #[.val (.int pp), .val (.int en), .val (.int ia), .val (.int vr), .val (.int ee), .unset, .unset, .unset, .unset, .unset, .unset, .unset, .unset, .unset, .unset, .unset, .unset, .unset] [(.int ia)]))
  refine Go.st (fun _ kt => XS.iconst X0.here hx rfl (hb hby at_10) kt) ?_
  show Go p e below _ (s₁.setTop (mkF m 11 #[.val (.int pp), .val (.int en), .val (.int ia), .val (.int vr), .val (.int ee), .unset, .unset, .unset, .unset, .unset, .unset, .unset, .unset, .unset, .unset, .unset, .unset, .unset] [(.int (1 : Int32)), (.int ia)]))
  refine Go.st (fun _ kt => XS.iand X0.here hx rfl (hb hby at_11) rfl kt) ?_
  show Go p e below _ (s₁.setTop (mkF m 12 #[.val (.int pp), .val (.int en), .val (.int ia), .val (.int vr), .val (.int ee), .unset, .unset, .unset, .unset, .unset, .unset, .unset, .unset, .unset, .unset, .unset, .unset, .unset] [(.int (ia &&& (1 : Int32)))]))
  by_cases hc12_1 : (ia &&& (1 : Int32)) = (0 : Int32)
  · refine Go.st (fun _ kt => XS.ifYes X0.here hx rfl (pc0 := 12) (pc' := 19) rfl (hb hby at_12) rfl ((if0 _ _).trans (teq hc12_1).1) (by decide) (by decide) kt) ?_
    show Go p e below _ (s₁.setTop (mkF m 19 #[.val (.int pp), .val (.int en), .val (.int ia), .val (.int vr), .val (.int ee), .unset, .unset, .unset, .unset, .unset, .unset, .unset, .unset, .unset, .unset, .unset, .unset, .unset] []))
    refine Go.st (fun _ kt => XS.iconst X0.here hx rfl (hb hby at_19) kt) ?_
    show Go p e below _ (s₁.setTop (mkF m 20 #[.val (.int pp), .val (.int en), .val (.int ia), .val (.int vr), .val (.int ee), .unset, .unset, .unset, .unset, .unset, .unset, .unset, .unset, .unset, .unset, .unset, .unset, .unset] [(.int (0 : Int32))]))
    refine Go.st (fun _ kt => XS.istore X0.here hx rfl (hb hby at_20) rfl (l' := #[.val (.int pp), .val (.int en), .val (.int ia), .val (.int vr), .val (.int ee), .val (.int (0 : Int32)), .unset, .unset, .unset, .unset, .unset, .unset, .unset, .unset, .unset, .unset, .unset, .unset]) rfl kt) ?_
    show Go p e below _ (s₁.setTop (mkF m 22 #[.val (.int pp), .val (.int en), .val (.int ia), .val (.int vr), .val (.int ee), .val (.int (0 : Int32)), .unset, .unset, .unset, .unset, .unset, .unset, .unset, .unset, .unset, .unset, .unset, .unset] []))
    refine Go.st (fun _ kt => XS.iloadN X0.here hx rfl (hb hby at_22) rfl kt) ?_
    show Go p e below _ (s₁.setTop (mkF m 23 #[.val (.int pp), .val (.int en), .val (.int ia), .val (.int vr), .val (.int ee), .val (.int (0 : Int32)), .unset, .unset, .unset, .unset, .unset, .unset, .unset, .unset, .unset, .unset, .unset, .unset] [(.int ia)]))
    refine Go.st (fun _ kt => XS.iconst X0.here hx rfl (hb hby at_23) kt) ?_
    show Go p e below _ (s₁.setTop (mkF m 24 #[.val (.int pp), .val (.int en), .val (.int ia), .val (.int vr), .val (.int ee), .val (.int (0 : Int32)), .unset, .unset, .unset, .unset, .unset, .unset, .unset, .unset, .unset, .unset, .unset, .unset] [(.int (1 : Int32)), (.int ia)]))
    refine Go.st (fun _ kt => XS.iushr X0.here hx rfl (hb hby at_24) rfl kt) ?_
    show Go p e below _ (s₁.setTop (mkF m 25 #[.val (.int pp), .val (.int en), .val (.int ia), .val (.int vr), .val (.int ee), .val (.int (0 : Int32)), .unset, .unset, .unset, .unset, .unset, .unset, .unset, .unset, .unset, .unset, .unset, .unset] [(.int ((ia.toUInt32 >>> ((1 : Int32) &&& 31).toUInt32).toInt32))]))
    refine Go.st (fun _ kt => X0.ldcInt hx hown (mvT hZ (hw _ (List.mem_of_getElem? (i := 0) rfl))) (g := (mkF m 25 #[.val (.int pp), .val (.int en), .val (.int ia), .val (.int vr), .val (.int ee), .val (.int (0 : Int32)), .unset, .unset, .unset, .unset, .unset, .unset, .unset, .unset, .unset, .unset, .unset, .unset] [(.int ((ia.toUInt32 >>> ((1 : Int32) &&& 31).toUInt32).toInt32))])) rfl (hb hby at_25) _ kt) ?_
    show Go p e below _ (s₁.setTop (mkF m 27 #[.val (.int pp), .val (.int en), .val (.int ia), .val (.int vr), .val (.int ee), .val (.int (0 : Int32)), .unset, .unset, .unset, .unset, .unset, .unset, .unset, .unset, .unset, .unset, .unset, .unset] [(.int (2147483647 : Int32)), (.int ((ia.toUInt32 >>> ((1 : Int32) &&& 31).toUInt32).toInt32))]))
    refine Go.st (fun _ kt => XS.iand X0.here hx rfl (hb hby at_27) rfl kt) ?_
    show Go p e below _ (s₁.setTop (mkF m 28 #[.val (.int pp), .val (.int en), .val (.int ia), .val (.int vr), .val (.int ee), .val (.int (0 : Int32)), .unset, .unset, .unset, .unset, .unset, .unset, .unset, .unset, .unset, .unset, .unset, .unset] [(.int (((ia.toUInt32 >>> ((1 : Int32) &&& 31).toUInt32).toInt32) &&& (2147483647 : Int32)))]))
    refine Go.st (fun _ kt => XS.bipush X0.here hx rfl (hb hby at_28) kt) ?_
    show Go p e below _ (s₁.setTop (mkF m 30 #[.val (.int pp), .val (.int en), .val (.int ia), .val (.int vr), .val (.int ee), .val (.int (0 : Int32)), .unset, .unset, .unset, .unset, .unset, .unset, .unset, .unset, .unset, .unset, .unset, .unset] [(.int (6 : Int32)), (.int (((ia.toUInt32 >>> ((1 : Int32) &&& 31).toUInt32).toInt32) &&& (2147483647 : Int32)))]))
    refine Go.st (fun _ kt => iremM X0 hx rfl (hb hby at_30) rfl (by decide) kt) ?_
    show Go p e below _ (s₁.setTop (mkF m 31 #[.val (.int pp), .val (.int en), .val (.int ia), .val (.int vr), .val (.int ee), .val (.int (0 : Int32)), .unset, .unset, .unset, .unset, .unset, .unset, .unset, .unset, .unset, .unset, .unset, .unset] [(.int ((((ia.toUInt32 >>> ((1 : Int32) &&& 31).toUInt32).toInt32) &&& (2147483647 : Int32)) % (6 : Int32)))]))
    generalize hii : (((((ia.toUInt32 >>> ((1 : Int32) &&& 31).toUInt32).toInt32) &&& (2147483647 : Int32)) % (6 : Int32)) : Int32) = ii
    show Go p e below _ (s₁.setTop (mkF m 31 #[.val (.int pp), .val (.int en), .val (.int ia), .val (.int vr), .val (.int ee), .val (.int (0 : Int32)), .unset, .unset, .unset, .unset, .unset, .unset, .unset, .unset, .unset, .unset, .unset, .unset] [(.int ii)]))
    refine Go.st (fun _ kt => XS.istore X0.here hx rfl (hb hby at_31) rfl (l' := #[.val (.int pp), .val (.int en), .val (.int ia), .val (.int vr), .val (.int ee), .val (.int (0 : Int32)), .val (.int ii), .unset, .unset, .unset, .unset, .unset, .unset, .unset, .unset, .unset, .unset, .unset]) rfl kt) ?_
    show Go p e below _ (s₁.setTop (mkF m 33 #[.val (.int pp), .val (.int en), .val (.int ia), .val (.int vr), .val (.int ee), .val (.int (0 : Int32)), .val (.int ii), .unset, .unset, .unset, .unset, .unset, .unset, .unset, .unset, .unset, .unset, .unset] []))
    refine Go.st (fun _ kt => XS.iloadN X0.here hx rfl (hb hby at_33) rfl kt) ?_
    show Go p e below _ (s₁.setTop (mkF m 34 #[.val (.int pp), .val (.int en), .val (.int ia), .val (.int vr), .val (.int ee), .val (.int (0 : Int32)), .val (.int ii), .unset, .unset, .unset, .unset, .unset, .unset, .unset, .unset, .unset, .unset, .unset] [(.int vr)]))
    refine Go.st (fun _ kt => XS.iconst X0.here hx rfl (hb hby at_34) kt) ?_
    show Go p e below _ (s₁.setTop (mkF m 35 #[.val (.int pp), .val (.int en), .val (.int ia), .val (.int vr), .val (.int ee), .val (.int (0 : Int32)), .val (.int ii), .unset, .unset, .unset, .unset, .unset, .unset, .unset, .unset, .unset, .unset, .unset] [(.int (3 : Int32)), (.int vr)]))
    refine Go.st (fun _ kt => XS.iand X0.here hx rfl (hb hby at_35) rfl kt) ?_
    show Go p e below _ (s₁.setTop (mkF m 36 #[.val (.int pp), .val (.int en), .val (.int ia), .val (.int vr), .val (.int ee), .val (.int (0 : Int32)), .val (.int ii), .unset, .unset, .unset, .unset, .unset, .unset, .unset, .unset, .unset, .unset, .unset] [(.int (vr &&& (3 : Int32)))]))
    generalize hv0 : ((vr &&& (3 : Int32)) : Int32) = v0
    show Go p e below _ (s₁.setTop (mkF m 36 #[.val (.int pp), .val (.int en), .val (.int ia), .val (.int vr), .val (.int ee), .val (.int (0 : Int32)), .val (.int ii), .unset, .unset, .unset, .unset, .unset, .unset, .unset, .unset, .unset, .unset, .unset] [(.int v0)]))
    rw [hv0] at hW
    refine Go.st (fun _ kt => XS.istore X0.here hx rfl (hb hby at_36) rfl (l' := #[.val (.int pp), .val (.int en), .val (.int ia), .val (.int vr), .val (.int ee), .val (.int (0 : Int32)), .val (.int ii), .val (.int v0), .unset, .unset, .unset, .unset, .unset, .unset, .unset, .unset, .unset, .unset]) rfl kt) ?_
    show Go p e below _ (s₁.setTop (mkF m 38 #[.val (.int pp), .val (.int en), .val (.int ia), .val (.int vr), .val (.int ee), .val (.int (0 : Int32)), .val (.int ii), .val (.int v0), .unset, .unset, .unset, .unset, .unset, .unset, .unset, .unset, .unset, .unset] []))
    refine Go.st (fun _ kt => XS.iload X0.here hx rfl (hb hby at_38) rfl kt) ?_
    show Go p e below _ (s₁.setTop (mkF m 40 #[.val (.int pp), .val (.int en), .val (.int ia), .val (.int vr), .val (.int ee), .val (.int (0 : Int32)), .val (.int ii), .val (.int v0), .unset, .unset, .unset, .unset, .unset, .unset, .unset, .unset, .unset, .unset] [(.int v0)]))
    refine Go.st (fun _ kt => XS.iconst X0.here hx rfl (hb hby at_40) kt) ?_
    show Go p e below _ (s₁.setTop (mkF m 41 #[.val (.int pp), .val (.int en), .val (.int ia), .val (.int vr), .val (.int ee), .val (.int (0 : Int32)), .val (.int ii), .val (.int v0), .unset, .unset, .unset, .unset, .unset, .unset, .unset, .unset, .unset, .unset] [(.int (1 : Int32)), (.int v0)]))
    refine Go.st (fun _ kt => XS.iadd X0.here hx rfl (hb hby at_41) rfl kt) ?_
    show Go p e below _ (s₁.setTop (mkF m 42 #[.val (.int pp), .val (.int en), .val (.int ia), .val (.int vr), .val (.int ee), .val (.int (0 : Int32)), .val (.int ii), .val (.int v0), .unset, .unset, .unset, .unset, .unset, .unset, .unset, .unset, .unset, .unset] [(.int (v0 + (1 : Int32)))]))
    refine Go.st (fun _ kt => XS.iloadN X0.here hx rfl (hb hby at_42) rfl kt) ?_
    show Go p e below _ (s₁.setTop (mkF m 43 #[.val (.int pp), .val (.int en), .val (.int ia), .val (.int vr), .val (.int ee), .val (.int (0 : Int32)), .val (.int ii), .val (.int v0), .unset, .unset, .unset, .unset, .unset, .unset, .unset, .unset, .unset, .unset] [(.int vr), (.int (v0 + (1 : Int32)))]))
    refine Go.st (fun _ kt => XS.iconst X0.here hx rfl (hb hby at_43) kt) ?_
    show Go p e below _ (s₁.setTop (mkF m 44 #[.val (.int pp), .val (.int en), .val (.int ia), .val (.int vr), .val (.int ee), .val (.int (0 : Int32)), .val (.int ii), .val (.int v0), .unset, .unset, .unset, .unset, .unset, .unset, .unset, .unset, .unset, .unset] [(.int (2 : Int32)), (.int vr), (.int (v0 + (1 : Int32)))]))
    refine Go.st (fun _ kt => XS.iushr X0.here hx rfl (hb hby at_44) rfl kt) ?_
    show Go p e below _ (s₁.setTop (mkF m 45 #[.val (.int pp), .val (.int en), .val (.int ia), .val (.int vr), .val (.int ee), .val (.int (0 : Int32)), .val (.int ii), .val (.int v0), .unset, .unset, .unset, .unset, .unset, .unset, .unset, .unset, .unset, .unset] [(.int ((vr.toUInt32 >>> ((2 : Int32) &&& 31).toUInt32).toInt32)), (.int (v0 + (1 : Int32)))]))
    refine Go.st (fun _ kt => X0.ldcInt hx hown (mvT hZ (hw _ (List.mem_of_getElem? (i := 0) rfl))) (g := (mkF m 45 #[.val (.int pp), .val (.int en), .val (.int ia), .val (.int vr), .val (.int ee), .val (.int (0 : Int32)), .val (.int ii), .val (.int v0), .unset, .unset, .unset, .unset, .unset, .unset, .unset, .unset, .unset, .unset] [(.int ((vr.toUInt32 >>> ((2 : Int32) &&& 31).toUInt32).toInt32)), (.int (v0 + (1 : Int32)))])) rfl (hb hby at_45) _ kt) ?_
    show Go p e below _ (s₁.setTop (mkF m 47 #[.val (.int pp), .val (.int en), .val (.int ia), .val (.int vr), .val (.int ee), .val (.int (0 : Int32)), .val (.int ii), .val (.int v0), .unset, .unset, .unset, .unset, .unset, .unset, .unset, .unset, .unset, .unset] [(.int (2147483647 : Int32)), (.int ((vr.toUInt32 >>> ((2 : Int32) &&& 31).toUInt32).toInt32)), (.int (v0 + (1 : Int32)))]))
    refine Go.st (fun _ kt => XS.iand X0.here hx rfl (hb hby at_47) rfl kt) ?_
    show Go p e below _ (s₁.setTop (mkF m 48 #[.val (.int pp), .val (.int en), .val (.int ia), .val (.int vr), .val (.int ee), .val (.int (0 : Int32)), .val (.int ii), .val (.int v0), .unset, .unset, .unset, .unset, .unset, .unset, .unset, .unset, .unset, .unset] [(.int (((vr.toUInt32 >>> ((2 : Int32) &&& 31).toUInt32).toInt32) &&& (2147483647 : Int32))), (.int (v0 + (1 : Int32)))]))
    refine Go.st (fun _ kt => XS.iconst X0.here hx rfl (hb hby at_48) kt) ?_
    show Go p e below _ (s₁.setTop (mkF m 49 #[.val (.int pp), .val (.int en), .val (.int ia), .val (.int vr), .val (.int ee), .val (.int (0 : Int32)), .val (.int ii), .val (.int v0), .unset, .unset, .unset, .unset, .unset, .unset, .unset, .unset, .unset, .unset] [(.int (3 : Int32)), (.int (((vr.toUInt32 >>> ((2 : Int32) &&& 31).toUInt32).toInt32) &&& (2147483647 : Int32))), (.int (v0 + (1 : Int32)))]))
    refine Go.st (fun _ kt => iremM X0 hx rfl (hb hby at_49) rfl (by decide) kt) ?_
    show Go p e below _ (s₁.setTop (mkF m 50 #[.val (.int pp), .val (.int en), .val (.int ia), .val (.int vr), .val (.int ee), .val (.int (0 : Int32)), .val (.int ii), .val (.int v0), .unset, .unset, .unset, .unset, .unset, .unset, .unset, .unset, .unset, .unset] [(.int ((((vr.toUInt32 >>> ((2 : Int32) &&& 31).toUInt32).toInt32) &&& (2147483647 : Int32)) % (3 : Int32))), (.int (v0 + (1 : Int32)))]))
    refine Go.st (fun _ kt => XS.iadd X0.here hx rfl (hb hby at_50) rfl kt) ?_
    show Go p e below _ (s₁.setTop (mkF m 51 #[.val (.int pp), .val (.int en), .val (.int ia), .val (.int vr), .val (.int ee), .val (.int (0 : Int32)), .val (.int ii), .val (.int v0), .unset, .unset, .unset, .unset, .unset, .unset, .unset, .unset, .unset, .unset] [(.int ((v0 + (1 : Int32)) + ((((vr.toUInt32 >>> ((2 : Int32) &&& 31).toUInt32).toInt32) &&& (2147483647 : Int32)) % (3 : Int32))))]))
    refine Go.st (fun _ kt => XS.iconst X0.here hx rfl (hb hby at_51) kt) ?_
    show Go p e below _ (s₁.setTop (mkF m 52 #[.val (.int pp), .val (.int en), .val (.int ia), .val (.int vr), .val (.int ee), .val (.int (0 : Int32)), .val (.int ii), .val (.int v0), .unset, .unset, .unset, .unset, .unset, .unset, .unset, .unset, .unset, .unset] [(.int (3 : Int32)), (.int ((v0 + (1 : Int32)) + ((((vr.toUInt32 >>> ((2 : Int32) &&& 31).toUInt32).toInt32) &&& (2147483647 : Int32)) % (3 : Int32))))]))
    refine Go.st (fun _ kt => XS.iand X0.here hx rfl (hb hby at_52) rfl kt) ?_
    show Go p e below _ (s₁.setTop (mkF m 53 #[.val (.int pp), .val (.int en), .val (.int ia), .val (.int vr), .val (.int ee), .val (.int (0 : Int32)), .val (.int ii), .val (.int v0), .unset, .unset, .unset, .unset, .unset, .unset, .unset, .unset, .unset, .unset] [(.int (((v0 + (1 : Int32)) + ((((vr.toUInt32 >>> ((2 : Int32) &&& 31).toUInt32).toInt32) &&& (2147483647 : Int32)) % (3 : Int32))) &&& (3 : Int32)))]))
    generalize hv1 : ((((v0 + (1 : Int32)) + ((((vr.toUInt32 >>> ((2 : Int32) &&& 31).toUInt32).toInt32) &&& (2147483647 : Int32)) % (3 : Int32))) &&& (3 : Int32)) : Int32) = v1
    show Go p e below _ (s₁.setTop (mkF m 53 #[.val (.int pp), .val (.int en), .val (.int ia), .val (.int vr), .val (.int ee), .val (.int (0 : Int32)), .val (.int ii), .val (.int v0), .unset, .unset, .unset, .unset, .unset, .unset, .unset, .unset, .unset, .unset] [(.int v1)]))
    rw [hv1] at hW
    refine Go.st (fun _ kt => XS.istore X0.here hx rfl (hb hby at_53) rfl (l' := #[.val (.int pp), .val (.int en), .val (.int ia), .val (.int vr), .val (.int ee), .val (.int (0 : Int32)), .val (.int ii), .val (.int v0), .val (.int v1), .unset, .unset, .unset, .unset, .unset, .unset, .unset, .unset, .unset]) rfl kt) ?_
    show Go p e below _ (s₁.setTop (mkF m 55 #[.val (.int pp), .val (.int en), .val (.int ia), .val (.int vr), .val (.int ee), .val (.int (0 : Int32)), .val (.int ii), .val (.int v0), .val (.int v1), .unset, .unset, .unset, .unset, .unset, .unset, .unset, .unset, .unset] []))
    refine Go.st (fun _ kt => XS.bipush X0.here hx rfl (hb hby at_55) kt) ?_
    show Go p e below _ (s₁.setTop (mkF m 57 #[.val (.int pp), .val (.int en), .val (.int ia), .val (.int vr), .val (.int ee), .val (.int (0 : Int32)), .val (.int ii), .val (.int v0), .val (.int v1), .unset, .unset, .unset, .unset, .unset, .unset, .unset, .unset, .unset] [(.int (6 : Int32))]))
    obtain ⟨T2, h2, k2, X2, e2, E2, A2, Y2, st2⟩ := newPE X0 hx hZ (hw _ (List.mem_of_getElem? (i := 1) rfl)) e0 (g := (mkF m 57 #[.val (.int pp), .val (.int en), .val (.int ia), .val (.int vr), .val (.int ee), .val (.int (0 : Int32)), .val (.int ii), .val (.int v0), .val (.int v1), .unset, .unset, .unset, .unset, .unset, .unset, .unset, .unset, .unset] [(.int (6 : Int32))])) rfl (hb hby at_57) rfl (by decide) (cap := 6) (by decide) (by decide) (by decide) (by decide) (ad := "[D") (by decide)
    obtain ⟨b2, g2⟩ : ∃ z, z = h0.size := ⟨_, rfl⟩
    rw [← g2] at A2 Y2 st2
    have gn_b2 : n0 ≤ b2 := Nat.le_trans Z0 (Nat.le_of_eq g2.symm)
    have Zs2 : n0 ≤ h2.size := Nat.le_trans Z0 E2.1
    refine Go.st st2 ?_
    have V2 : Arv Z h2 b2 k2 .double (6 : Int32) [(.double (0 : UInt64)), (.double (0 : UInt64)), (.double (0 : UInt64)), (.double (0 : UInt64)), (.double (0 : UInt64)), (.double (0 : UInt64))] (.double (0 : UInt64)) := (Arv.new A2 (by decide)).pad (pad_rep [] (.double (0 : UInt64)) 6)
    show Go p e below _ (T2.setTop (mkF m 59 #[.val (.int pp), .val (.int en), .val (.int ia), .val (.int vr), .val (.int ee), .val (.int (0 : Int32)), .val (.int ii), .val (.int v0), .val (.int v1), .unset, .unset, .unset, .unset, .unset, .unset, .unset, .unset, .unset] [(.ref b2)]))
    refine Go.st (fun _ kt => XS.astore X2.here hx rfl (hb hby at_59) rfl rfl (l' := #[.val (.int pp), .val (.int en), .val (.int ia), .val (.int vr), .val (.int ee), .val (.int (0 : Int32)), .val (.int ii), .val (.int v0), .val (.int v1), .val (.ref b2), .unset, .unset, .unset, .unset, .unset, .unset, .unset, .unset]) rfl kt) ?_
    show Go p e below _ (T2.setTop (mkF m 61 #[.val (.int pp), .val (.int en), .val (.int ia), .val (.int vr), .val (.int ee), .val (.int (0 : Int32)), .val (.int ii), .val (.int v0), .val (.int v1), .val (.ref b2), .unset, .unset, .unset, .unset, .unset, .unset, .unset, .unset] []))
    refine Go.st (fun _ kt => XS.aload X2.here hx rfl (hb hby at_61) rfl rfl kt) ?_
    show Go p e below _ (T2.setTop (mkF m 63 #[.val (.int pp), .val (.int en), .val (.int ia), .val (.int vr), .val (.int ee), .val (.int (0 : Int32)), .val (.int ii), .val (.int v0), .val (.int v1), .val (.ref b2), .unset, .unset, .unset, .unset, .unset, .unset, .unset, .unset] [(.ref b2)]))
    refine Go.st (fun _ kt => XS.iconst X2.here hx rfl (hb hby at_63) kt) ?_
    show Go p e below _ (T2.setTop (mkF m 64 #[.val (.int pp), .val (.int en), .val (.int ia), .val (.int vr), .val (.int ee), .val (.int (0 : Int32)), .val (.int ii), .val (.int v0), .val (.int v1), .val (.ref b2), .unset, .unset, .unset, .unset, .unset, .unset, .unset, .unset] [(.int (0 : Int32)), (.ref b2)]))
    refine Go.st (fun _ kt => XS.iloadN X2.here hx rfl (hb hby at_64) rfl kt) ?_
    show Go p e below _ (T2.setTop (mkF m 65 #[.val (.int pp), .val (.int en), .val (.int ia), .val (.int vr), .val (.int ee), .val (.int (0 : Int32)), .val (.int ii), .val (.int v0), .val (.int v1), .val (.ref b2), .unset, .unset, .unset, .unset, .unset, .unset, .unset, .unset] [(.int pp), (.int (0 : Int32)), (.ref b2)]))
    refine Go.st (fun _ kt => XS.iconst X2.here hx rfl (hb hby at_65) kt) ?_
    show Go p e below _ (T2.setTop (mkF m 66 #[.val (.int pp), .val (.int en), .val (.int ia), .val (.int vr), .val (.int ee), .val (.int (0 : Int32)), .val (.int ii), .val (.int v0), .val (.int v1), .val (.ref b2), .unset, .unset, .unset, .unset, .unset, .unset, .unset, .unset] [(.int (0 : Int32)), (.int pp), (.int (0 : Int32)), (.ref b2)]))
    refine Go.st (fun _ kt => XS.iload X2.here hx rfl (hb hby at_66) rfl kt) ?_
    show Go p e below _ (T2.setTop (mkF m 68 #[.val (.int pp), .val (.int en), .val (.int ia), .val (.int vr), .val (.int ee), .val (.int (0 : Int32)), .val (.int ii), .val (.int v0), .val (.int v1), .val (.ref b2), .unset, .unset, .unset, .unset, .unset, .unset, .unset, .unset] [(.int (0 : Int32)), (.int (0 : Int32)), (.int pp), (.int (0 : Int32)), (.ref b2)]))
    refine Go.st (fun _ kt => XS.iload X2.here hx rfl (hb hby at_68) rfl kt) ?_
    show Go p e below _ (T2.setTop (mkF m 70 #[.val (.int pp), .val (.int en), .val (.int ia), .val (.int vr), .val (.int ee), .val (.int (0 : Int32)), .val (.int ii), .val (.int v0), .val (.int v1), .val (.ref b2), .unset, .unset, .unset, .unset, .unset, .unset, .unset, .unset] [(.int ii), (.int (0 : Int32)), (.int (0 : Int32)), (.int pp), (.int (0 : Int32)), (.ref b2)]))
    obtain ⟨_, _, ⟨T3, L3, k3, n3⟩, -, X3, ⟨Lc3, hQ3, l3, y3, z3⟩, st3⟩ := Jvm.LawKit.callS X2 hx (y := (⟨"com/example/tributary/tributary/model/CostTableCostPinLaw", "cell", "(IIZI)D"⟩ : MethodName)) hown (mvT hZ (hw _ (List.mem_of_getElem? (i := 2) rfl))) (mvT hZ (hw _ (List.mem_of_getElem? (i := 3) rfl))) (mvT hZ (hw _ (List.mem_of_getElem? (i := 4) rfl))) (mvT hZ (hw _ (List.mem_of_getElem? (i := 5) rfl))) (by decide) (backOf (W := 2) (rm1 l Z a0 hw [] pp (0 : Int32) (0 : Int32) ii h2 n0 Zs2) hZ (hw _ (List.mem_of_getElem? (i := 5) rfl)) (hw _ (List.mem_of_getElem? (i := 4) rfl)) (by decide) (by decide)) (g := (mkF m 70 #[.val (.int pp), .val (.int en), .val (.int ia), .val (.int vr), .val (.int ee), .val (.int (0 : Int32)), .val (.int ii), .val (.int v0), .val (.int v1), .val (.ref b2), .unset, .unset, .unset, .unset, .unset, .unset, .unset, .unset] [(.int ii), (.int (0 : Int32)), (.int (0 : Int32)), (.int pp), (.int (0 : Int32)), (.ref b2)])) rfl (by rw [hml]; rfl) (argsL := [(.int pp), (.int (0 : Int32)), (.int (0 : Int32)), (.int ii)]) (rest := [(.int (0 : Int32)), (.ref b2)]) (lenOf own_pd4 rfl) rfl (by show 2 * 0 + _ ≤ _; exact Nat.le_of_eq rfl) (hb hby at_70) (fun _ _ => ⟨rfl, e2, (by decide : 1 + 0 ≤ _), (by decide : 6 + 0 ≤ _)⟩)
    dsimp only [Pt.U, Pt.locs, Pt.cells, Pt.slots] at X3 l3 y3 z3 st3 hQ3
    subst l3 y3 z3
    obtain ⟨rfl, N3q, e3⟩ := hQ3
    have N3 := Fr.app N0 N3q
    refine Go.st st3 ?_
    show Go p e below _ (T3.setTop (mkF m 73 #[.val (.int pp), .val (.int en), .val (.int ia), .val (.int vr), .val (.int ee), .val (.int (0 : Int32)), .val (.int ii), .val (.int v0), .val (.int v1), .val (.ref b2), .unset, .unset, .unset, .unset, .unset, .unset, .unset, .unset] [(.double (own_cell pp (0 : Int32) (0 : Int32) ii)), (.int (0 : Int32)), (.ref b2)]))
    obtain ⟨cl4, Ar4, q4, S4, N4', H4, G4⟩ := id V2
    have hin4 : ¬ ((0 : Int32) < 0 ∨ cl4.slots.size ≤ ((0 : Int32)).toNatClampNeg) := inb_of S4 ⟨by decide, by decide⟩
    obtain ⟨T5, h5, X5, e5, W5, st5⟩ := stD X3 hx hZ e3 Ar4 (j := (0 : Int32)) hin4 (g := (mkF m 73 #[.val (.int pp), .val (.int en), .val (.int ia), .val (.int vr), .val (.int ee), .val (.int (0 : Int32)), .val (.int ii), .val (.int v0), .val (.int v1), .val (.ref b2), .unset, .unset, .unset, .unset, .unset, .unset, .unset, .unset] [(.double (own_cell pp (0 : Int32) (0 : Int32) ii)), (.int (0 : Int32)), (.ref b2)])) rfl rfl (hb hby at_73)
    refine Go.st st5 ?_
    have V5 : Arv Z h5 b2 k2 .double (6 : Int32) [(.double (own_cell pp (0 : Int32) (0 : Int32) ii)), (.double (0 : UInt64)), (.double (0 : UInt64)), (.double (0 : UInt64)), (.double (0 : UInt64)), (.double (0 : UInt64))] (.double (0 : UInt64)) := Arv.set Ar4 q4 S4 N4' H4 G4 rfl W5 0 rfl (Nat.le_of_ble_eq_true rfl)
    have Zs5 : n0 ≤ h5.size := Nat.le_trans Zs2 (Nat.le_of_eq W5.size.symm)
    have N5 := Fr.snoc X5 N3 gn_b2
    show Go p e below _ (T5.setTop (mkF m 74 #[.val (.int pp), .val (.int en), .val (.int ia), .val (.int vr), .val (.int ee), .val (.int (0 : Int32)), .val (.int ii), .val (.int v0), .val (.int v1), .val (.ref b2), .unset, .unset, .unset, .unset, .unset, .unset, .unset, .unset] []))
    refine Go.st (fun _ kt => XS.aload X5.here hx rfl (hb hby at_74) rfl rfl kt) ?_
    show Go p e below _ (T5.setTop (mkF m 76 #[.val (.int pp), .val (.int en), .val (.int ia), .val (.int vr), .val (.int ee), .val (.int (0 : Int32)), .val (.int ii), .val (.int v0), .val (.int v1), .val (.ref b2), .unset, .unset, .unset, .unset, .unset, .unset, .unset, .unset] [(.ref b2)]))
    refine Go.st (fun _ kt => XS.iconst X5.here hx rfl (hb hby at_76) kt) ?_
    show Go p e below _ (T5.setTop (mkF m 77 #[.val (.int pp), .val (.int en), .val (.int ia), .val (.int vr), .val (.int ee), .val (.int (0 : Int32)), .val (.int ii), .val (.int v0), .val (.int v1), .val (.ref b2), .unset, .unset, .unset, .unset, .unset, .unset, .unset, .unset] [(.int (1 : Int32)), (.ref b2)]))
    refine Go.st (fun _ kt => XS.iloadN X5.here hx rfl (hb hby at_77) rfl kt) ?_
    show Go p e below _ (T5.setTop (mkF m 78 #[.val (.int pp), .val (.int en), .val (.int ia), .val (.int vr), .val (.int ee), .val (.int (0 : Int32)), .val (.int ii), .val (.int v0), .val (.int v1), .val (.ref b2), .unset, .unset, .unset, .unset, .unset, .unset, .unset, .unset] [(.int pp), (.int (1 : Int32)), (.ref b2)]))
    refine Go.st (fun _ kt => XS.iconst X5.here hx rfl (hb hby at_78) kt) ?_
    show Go p e below _ (T5.setTop (mkF m 79 #[.val (.int pp), .val (.int en), .val (.int ia), .val (.int vr), .val (.int ee), .val (.int (0 : Int32)), .val (.int ii), .val (.int v0), .val (.int v1), .val (.ref b2), .unset, .unset, .unset, .unset, .unset, .unset, .unset, .unset] [(.int (1 : Int32)), (.int pp), (.int (1 : Int32)), (.ref b2)]))
    refine Go.st (fun _ kt => XS.iload X5.here hx rfl (hb hby at_79) rfl kt) ?_
    show Go p e below _ (T5.setTop (mkF m 81 #[.val (.int pp), .val (.int en), .val (.int ia), .val (.int vr), .val (.int ee), .val (.int (0 : Int32)), .val (.int ii), .val (.int v0), .val (.int v1), .val (.ref b2), .unset, .unset, .unset, .unset, .unset, .unset, .unset, .unset] [(.int (0 : Int32)), (.int (1 : Int32)), (.int pp), (.int (1 : Int32)), (.ref b2)]))
    refine Go.st (fun _ kt => XS.iload X5.here hx rfl (hb hby at_81) rfl kt) ?_
    show Go p e below _ (T5.setTop (mkF m 83 #[.val (.int pp), .val (.int en), .val (.int ia), .val (.int vr), .val (.int ee), .val (.int (0 : Int32)), .val (.int ii), .val (.int v0), .val (.int v1), .val (.ref b2), .unset, .unset, .unset, .unset, .unset, .unset, .unset, .unset] [(.int ii), (.int (0 : Int32)), (.int (1 : Int32)), (.int pp), (.int (1 : Int32)), (.ref b2)]))
    obtain ⟨_, _, ⟨T6, L6, k6, n6⟩, -, X6, ⟨Lc6, hQ6, l6, y6, z6⟩, st6⟩ := Jvm.LawKit.callS X5 hx (y := (⟨"com/example/tributary/tributary/model/CostTableCostPinLaw", "cell", "(IIZI)D"⟩ : MethodName)) hown (mvT hZ (hw _ (List.mem_of_getElem? (i := 2) rfl))) (mvT hZ (hw _ (List.mem_of_getElem? (i := 3) rfl))) (mvT hZ (hw _ (List.mem_of_getElem? (i := 4) rfl))) (mvT hZ (hw _ (List.mem_of_getElem? (i := 5) rfl))) (by decide) (backOf (W := 2) (rm1 l Z a0 hw [] pp (1 : Int32) (0 : Int32) ii h5 n0 Zs5) hZ (hw _ (List.mem_of_getElem? (i := 5) rfl)) (hw _ (List.mem_of_getElem? (i := 4) rfl)) (by decide) (by decide)) (g := (mkF m 83 #[.val (.int pp), .val (.int en), .val (.int ia), .val (.int vr), .val (.int ee), .val (.int (0 : Int32)), .val (.int ii), .val (.int v0), .val (.int v1), .val (.ref b2), .unset, .unset, .unset, .unset, .unset, .unset, .unset, .unset] [(.int ii), (.int (0 : Int32)), (.int (1 : Int32)), (.int pp), (.int (1 : Int32)), (.ref b2)])) rfl (by rw [hml]; rfl) (argsL := [(.int pp), (.int (1 : Int32)), (.int (0 : Int32)), (.int ii)]) (rest := [(.int (1 : Int32)), (.ref b2)]) (lenOf own_pd4 rfl) rfl (by show 2 * 0 + _ ≤ _; exact Nat.le_of_eq rfl) (hb hby at_83) (fun _ _ => ⟨rfl, e5, (by decide : 1 + 0 ≤ _), (by decide : 6 + 0 ≤ _)⟩)
    dsimp only [Pt.U, Pt.locs, Pt.cells, Pt.slots] at X6 l6 y6 z6 st6 hQ6
    subst l6 y6 z6
    obtain ⟨rfl, N6q, e6⟩ := hQ6
    have N6 := Fr.app N5 N6q
    refine Go.st st6 ?_
    show Go p e below _ (T6.setTop (mkF m 86 #[.val (.int pp), .val (.int en), .val (.int ia), .val (.int vr), .val (.int ee), .val (.int (0 : Int32)), .val (.int ii), .val (.int v0), .val (.int v1), .val (.ref b2), .unset, .unset, .unset, .unset, .unset, .unset, .unset, .unset] [(.double (own_cell pp (1 : Int32) (0 : Int32) ii)), (.int (1 : Int32)), (.ref b2)]))
    obtain ⟨cl7, Ar7, q7, S7, N7', H7, G7⟩ := id V5
    have hin7 : ¬ ((1 : Int32) < 0 ∨ cl7.slots.size ≤ ((1 : Int32)).toNatClampNeg) := inb_of S7 ⟨by decide, by decide⟩
    obtain ⟨T8, h8, X8, e8, W8, st8⟩ := stD X6 hx hZ e6 Ar7 (j := (1 : Int32)) hin7 (g := (mkF m 86 #[.val (.int pp), .val (.int en), .val (.int ia), .val (.int vr), .val (.int ee), .val (.int (0 : Int32)), .val (.int ii), .val (.int v0), .val (.int v1), .val (.ref b2), .unset, .unset, .unset, .unset, .unset, .unset, .unset, .unset] [(.double (own_cell pp (1 : Int32) (0 : Int32) ii)), (.int (1 : Int32)), (.ref b2)])) rfl rfl (hb hby at_86)
    refine Go.st st8 ?_
    have V8 : Arv Z h8 b2 k2 .double (6 : Int32) [(.double (own_cell pp (0 : Int32) (0 : Int32) ii)), (.double (own_cell pp (1 : Int32) (0 : Int32) ii)), (.double (0 : UInt64)), (.double (0 : UInt64)), (.double (0 : UInt64)), (.double (0 : UInt64))] (.double (0 : UInt64)) := Arv.set Ar7 q7 S7 N7' H7 G7 rfl W8 1 rfl (Nat.le_of_ble_eq_true rfl)
    have Zs8 : n0 ≤ h8.size := Nat.le_trans Zs5 (Nat.le_of_eq W8.size.symm)
    have N8 := Fr.snoc X8 N6 gn_b2
    show Go p e below _ (T8.setTop (mkF m 87 #[.val (.int pp), .val (.int en), .val (.int ia), .val (.int vr), .val (.int ee), .val (.int (0 : Int32)), .val (.int ii), .val (.int v0), .val (.int v1), .val (.ref b2), .unset, .unset, .unset, .unset, .unset, .unset, .unset, .unset] []))
    refine Go.st (fun _ kt => XS.aload X8.here hx rfl (hb hby at_87) rfl rfl kt) ?_
    show Go p e below _ (T8.setTop (mkF m 89 #[.val (.int pp), .val (.int en), .val (.int ia), .val (.int vr), .val (.int ee), .val (.int (0 : Int32)), .val (.int ii), .val (.int v0), .val (.int v1), .val (.ref b2), .unset, .unset, .unset, .unset, .unset, .unset, .unset, .unset] [(.ref b2)]))
    refine Go.st (fun _ kt => XS.iconst X8.here hx rfl (hb hby at_89) kt) ?_
    show Go p e below _ (T8.setTop (mkF m 90 #[.val (.int pp), .val (.int en), .val (.int ia), .val (.int vr), .val (.int ee), .val (.int (0 : Int32)), .val (.int ii), .val (.int v0), .val (.int v1), .val (.ref b2), .unset, .unset, .unset, .unset, .unset, .unset, .unset, .unset] [(.int (2 : Int32)), (.ref b2)]))
    refine Go.st (fun _ kt => XS.iloadN X8.here hx rfl (hb hby at_90) rfl kt) ?_
    show Go p e below _ (T8.setTop (mkF m 91 #[.val (.int pp), .val (.int en), .val (.int ia), .val (.int vr), .val (.int ee), .val (.int (0 : Int32)), .val (.int ii), .val (.int v0), .val (.int v1), .val (.ref b2), .unset, .unset, .unset, .unset, .unset, .unset, .unset, .unset] [(.int pp), (.int (2 : Int32)), (.ref b2)]))
    refine Go.st (fun _ kt => XS.iconst X8.here hx rfl (hb hby at_91) kt) ?_
    show Go p e below _ (T8.setTop (mkF m 92 #[.val (.int pp), .val (.int en), .val (.int ia), .val (.int vr), .val (.int ee), .val (.int (0 : Int32)), .val (.int ii), .val (.int v0), .val (.int v1), .val (.ref b2), .unset, .unset, .unset, .unset, .unset, .unset, .unset, .unset] [(.int (2 : Int32)), (.int pp), (.int (2 : Int32)), (.ref b2)]))
    refine Go.st (fun _ kt => XS.iload X8.here hx rfl (hb hby at_92) rfl kt) ?_
    show Go p e below _ (T8.setTop (mkF m 94 #[.val (.int pp), .val (.int en), .val (.int ia), .val (.int vr), .val (.int ee), .val (.int (0 : Int32)), .val (.int ii), .val (.int v0), .val (.int v1), .val (.ref b2), .unset, .unset, .unset, .unset, .unset, .unset, .unset, .unset] [(.int (0 : Int32)), (.int (2 : Int32)), (.int pp), (.int (2 : Int32)), (.ref b2)]))
    refine Go.st (fun _ kt => XS.iload X8.here hx rfl (hb hby at_94) rfl kt) ?_
    show Go p e below _ (T8.setTop (mkF m 96 #[.val (.int pp), .val (.int en), .val (.int ia), .val (.int vr), .val (.int ee), .val (.int (0 : Int32)), .val (.int ii), .val (.int v0), .val (.int v1), .val (.ref b2), .unset, .unset, .unset, .unset, .unset, .unset, .unset, .unset] [(.int ii), (.int (0 : Int32)), (.int (2 : Int32)), (.int pp), (.int (2 : Int32)), (.ref b2)]))
    obtain ⟨_, _, ⟨T9, L9, k9, n9⟩, -, X9, ⟨Lc9, hQ9, l9, y9, z9⟩, st9⟩ := Jvm.LawKit.callS X8 hx (y := (⟨"com/example/tributary/tributary/model/CostTableCostPinLaw", "cell", "(IIZI)D"⟩ : MethodName)) hown (mvT hZ (hw _ (List.mem_of_getElem? (i := 2) rfl))) (mvT hZ (hw _ (List.mem_of_getElem? (i := 3) rfl))) (mvT hZ (hw _ (List.mem_of_getElem? (i := 4) rfl))) (mvT hZ (hw _ (List.mem_of_getElem? (i := 5) rfl))) (by decide) (backOf (W := 2) (rm1 l Z a0 hw [] pp (2 : Int32) (0 : Int32) ii h8 n0 Zs8) hZ (hw _ (List.mem_of_getElem? (i := 5) rfl)) (hw _ (List.mem_of_getElem? (i := 4) rfl)) (by decide) (by decide)) (g := (mkF m 96 #[.val (.int pp), .val (.int en), .val (.int ia), .val (.int vr), .val (.int ee), .val (.int (0 : Int32)), .val (.int ii), .val (.int v0), .val (.int v1), .val (.ref b2), .unset, .unset, .unset, .unset, .unset, .unset, .unset, .unset] [(.int ii), (.int (0 : Int32)), (.int (2 : Int32)), (.int pp), (.int (2 : Int32)), (.ref b2)])) rfl (by rw [hml]; rfl) (argsL := [(.int pp), (.int (2 : Int32)), (.int (0 : Int32)), (.int ii)]) (rest := [(.int (2 : Int32)), (.ref b2)]) (lenOf own_pd4 rfl) rfl (by show 2 * 0 + _ ≤ _; exact Nat.le_of_eq rfl) (hb hby at_96) (fun _ _ => ⟨rfl, e8, (by decide : 1 + 0 ≤ _), (by decide : 6 + 0 ≤ _)⟩)
    dsimp only [Pt.U, Pt.locs, Pt.cells, Pt.slots] at X9 l9 y9 z9 st9 hQ9
    subst l9 y9 z9
    obtain ⟨rfl, N9q, e9⟩ := hQ9
    have N9 := Fr.app N8 N9q
    refine Go.st st9 ?_
    show Go p e below _ (T9.setTop (mkF m 99 #[.val (.int pp), .val (.int en), .val (.int ia), .val (.int vr), .val (.int ee), .val (.int (0 : Int32)), .val (.int ii), .val (.int v0), .val (.int v1), .val (.ref b2), .unset, .unset, .unset, .unset, .unset, .unset, .unset, .unset] [(.double (own_cell pp (2 : Int32) (0 : Int32) ii)), (.int (2 : Int32)), (.ref b2)]))
    obtain ⟨cl10, Ar10, q10, S10, N10', H10, G10⟩ := id V8
    have hin10 : ¬ ((2 : Int32) < 0 ∨ cl10.slots.size ≤ ((2 : Int32)).toNatClampNeg) := inb_of S10 ⟨by decide, by decide⟩
    obtain ⟨T11, h11, X11, e11, W11, st11⟩ := stD X9 hx hZ e9 Ar10 (j := (2 : Int32)) hin10 (g := (mkF m 99 #[.val (.int pp), .val (.int en), .val (.int ia), .val (.int vr), .val (.int ee), .val (.int (0 : Int32)), .val (.int ii), .val (.int v0), .val (.int v1), .val (.ref b2), .unset, .unset, .unset, .unset, .unset, .unset, .unset, .unset] [(.double (own_cell pp (2 : Int32) (0 : Int32) ii)), (.int (2 : Int32)), (.ref b2)])) rfl rfl (hb hby at_99)
    refine Go.st st11 ?_
    have V11 : Arv Z h11 b2 k2 .double (6 : Int32) [(.double (own_cell pp (0 : Int32) (0 : Int32) ii)), (.double (own_cell pp (1 : Int32) (0 : Int32) ii)), (.double (own_cell pp (2 : Int32) (0 : Int32) ii)), (.double (0 : UInt64)), (.double (0 : UInt64)), (.double (0 : UInt64))] (.double (0 : UInt64)) := Arv.set Ar10 q10 S10 N10' H10 G10 rfl W11 2 rfl (Nat.le_of_ble_eq_true rfl)
    have Zs11 : n0 ≤ h11.size := Nat.le_trans Zs8 (Nat.le_of_eq W11.size.symm)
    have N11 := Fr.snoc X11 N9 gn_b2
    show Go p e below _ (T11.setTop (mkF m 100 #[.val (.int pp), .val (.int en), .val (.int ia), .val (.int vr), .val (.int ee), .val (.int (0 : Int32)), .val (.int ii), .val (.int v0), .val (.int v1), .val (.ref b2), .unset, .unset, .unset, .unset, .unset, .unset, .unset, .unset] []))
    refine Go.st (fun _ kt => XS.aload X11.here hx rfl (hb hby at_100) rfl rfl kt) ?_
    show Go p e below _ (T11.setTop (mkF m 102 #[.val (.int pp), .val (.int en), .val (.int ia), .val (.int vr), .val (.int ee), .val (.int (0 : Int32)), .val (.int ii), .val (.int v0), .val (.int v1), .val (.ref b2), .unset, .unset, .unset, .unset, .unset, .unset, .unset, .unset] [(.ref b2)]))
    refine Go.st (fun _ kt => XS.iconst X11.here hx rfl (hb hby at_102) kt) ?_
    show Go p e below _ (T11.setTop (mkF m 103 #[.val (.int pp), .val (.int en), .val (.int ia), .val (.int vr), .val (.int ee), .val (.int (0 : Int32)), .val (.int ii), .val (.int v0), .val (.int v1), .val (.ref b2), .unset, .unset, .unset, .unset, .unset, .unset, .unset, .unset] [(.int (3 : Int32)), (.ref b2)]))
    refine Go.st (fun _ kt => XS.iloadN X11.here hx rfl (hb hby at_103) rfl kt) ?_
    show Go p e below _ (T11.setTop (mkF m 104 #[.val (.int pp), .val (.int en), .val (.int ia), .val (.int vr), .val (.int ee), .val (.int (0 : Int32)), .val (.int ii), .val (.int v0), .val (.int v1), .val (.ref b2), .unset, .unset, .unset, .unset, .unset, .unset, .unset, .unset] [(.int pp), (.int (3 : Int32)), (.ref b2)]))
    refine Go.st (fun _ kt => XS.iconst X11.here hx rfl (hb hby at_104) kt) ?_
    show Go p e below _ (T11.setTop (mkF m 105 #[.val (.int pp), .val (.int en), .val (.int ia), .val (.int vr), .val (.int ee), .val (.int (0 : Int32)), .val (.int ii), .val (.int v0), .val (.int v1), .val (.ref b2), .unset, .unset, .unset, .unset, .unset, .unset, .unset, .unset] [(.int (3 : Int32)), (.int pp), (.int (3 : Int32)), (.ref b2)]))
    refine Go.st (fun _ kt => XS.iload X11.here hx rfl (hb hby at_105) rfl kt) ?_
    show Go p e below _ (T11.setTop (mkF m 107 #[.val (.int pp), .val (.int en), .val (.int ia), .val (.int vr), .val (.int ee), .val (.int (0 : Int32)), .val (.int ii), .val (.int v0), .val (.int v1), .val (.ref b2), .unset, .unset, .unset, .unset, .unset, .unset, .unset, .unset] [(.int (0 : Int32)), (.int (3 : Int32)), (.int pp), (.int (3 : Int32)), (.ref b2)]))
    refine Go.st (fun _ kt => XS.iload X11.here hx rfl (hb hby at_107) rfl kt) ?_
    show Go p e below _ (T11.setTop (mkF m 109 #[.val (.int pp), .val (.int en), .val (.int ia), .val (.int vr), .val (.int ee), .val (.int (0 : Int32)), .val (.int ii), .val (.int v0), .val (.int v1), .val (.ref b2), .unset, .unset, .unset, .unset, .unset, .unset, .unset, .unset] [(.int ii), (.int (0 : Int32)), (.int (3 : Int32)), (.int pp), (.int (3 : Int32)), (.ref b2)]))
    obtain ⟨_, _, ⟨T12, L12, k12, n12⟩, -, X12, ⟨Lc12, hQ12, l12, y12, z12⟩, st12⟩ := Jvm.LawKit.callS X11 hx (y := (⟨"com/example/tributary/tributary/model/CostTableCostPinLaw", "cell", "(IIZI)D"⟩ : MethodName)) hown (mvT hZ (hw _ (List.mem_of_getElem? (i := 2) rfl))) (mvT hZ (hw _ (List.mem_of_getElem? (i := 3) rfl))) (mvT hZ (hw _ (List.mem_of_getElem? (i := 4) rfl))) (mvT hZ (hw _ (List.mem_of_getElem? (i := 5) rfl))) (by decide) (backOf (W := 2) (rm1 l Z a0 hw [] pp (3 : Int32) (0 : Int32) ii h11 n0 Zs11) hZ (hw _ (List.mem_of_getElem? (i := 5) rfl)) (hw _ (List.mem_of_getElem? (i := 4) rfl)) (by decide) (by decide)) (g := (mkF m 109 #[.val (.int pp), .val (.int en), .val (.int ia), .val (.int vr), .val (.int ee), .val (.int (0 : Int32)), .val (.int ii), .val (.int v0), .val (.int v1), .val (.ref b2), .unset, .unset, .unset, .unset, .unset, .unset, .unset, .unset] [(.int ii), (.int (0 : Int32)), (.int (3 : Int32)), (.int pp), (.int (3 : Int32)), (.ref b2)])) rfl (by rw [hml]; rfl) (argsL := [(.int pp), (.int (3 : Int32)), (.int (0 : Int32)), (.int ii)]) (rest := [(.int (3 : Int32)), (.ref b2)]) (lenOf own_pd4 rfl) rfl (by show 2 * 0 + _ ≤ _; exact Nat.le_of_eq rfl) (hb hby at_109) (fun _ _ => ⟨rfl, e11, (by decide : 1 + 0 ≤ _), (by decide : 6 + 0 ≤ _)⟩)
    dsimp only [Pt.U, Pt.locs, Pt.cells, Pt.slots] at X12 l12 y12 z12 st12 hQ12
    subst l12 y12 z12
    obtain ⟨rfl, N12q, e12⟩ := hQ12
    have N12 := Fr.app N11 N12q
    refine Go.st st12 ?_
    show Go p e below _ (T12.setTop (mkF m 112 #[.val (.int pp), .val (.int en), .val (.int ia), .val (.int vr), .val (.int ee), .val (.int (0 : Int32)), .val (.int ii), .val (.int v0), .val (.int v1), .val (.ref b2), .unset, .unset, .unset, .unset, .unset, .unset, .unset, .unset] [(.double (own_cell pp (3 : Int32) (0 : Int32) ii)), (.int (3 : Int32)), (.ref b2)]))
    obtain ⟨cl13, Ar13, q13, S13, N13', H13, G13⟩ := id V11
    have hin13 : ¬ ((3 : Int32) < 0 ∨ cl13.slots.size ≤ ((3 : Int32)).toNatClampNeg) := inb_of S13 ⟨by decide, by decide⟩
    obtain ⟨T14, h14, X14, e14, W14, st14⟩ := stD X12 hx hZ e12 Ar13 (j := (3 : Int32)) hin13 (g := (mkF m 112 #[.val (.int pp), .val (.int en), .val (.int ia), .val (.int vr), .val (.int ee), .val (.int (0 : Int32)), .val (.int ii), .val (.int v0), .val (.int v1), .val (.ref b2), .unset, .unset, .unset, .unset, .unset, .unset, .unset, .unset] [(.double (own_cell pp (3 : Int32) (0 : Int32) ii)), (.int (3 : Int32)), (.ref b2)])) rfl rfl (hb hby at_112)
    refine Go.st st14 ?_
    have V14 : Arv Z h14 b2 k2 .double (6 : Int32) [(.double (own_cell pp (0 : Int32) (0 : Int32) ii)), (.double (own_cell pp (1 : Int32) (0 : Int32) ii)), (.double (own_cell pp (2 : Int32) (0 : Int32) ii)), (.double (own_cell pp (3 : Int32) (0 : Int32) ii)), (.double (0 : UInt64)), (.double (0 : UInt64))] (.double (0 : UInt64)) := Arv.set Ar13 q13 S13 N13' H13 G13 rfl W14 3 rfl (Nat.le_of_ble_eq_true rfl)
    have Zs14 : n0 ≤ h14.size := Nat.le_trans Zs11 (Nat.le_of_eq W14.size.symm)
    have N14 := Fr.snoc X14 N12 gn_b2
    show Go p e below _ (T14.setTop (mkF m 113 #[.val (.int pp), .val (.int en), .val (.int ia), .val (.int vr), .val (.int ee), .val (.int (0 : Int32)), .val (.int ii), .val (.int v0), .val (.int v1), .val (.ref b2), .unset, .unset, .unset, .unset, .unset, .unset, .unset, .unset] []))
    refine Go.st (fun _ kt => XS.aload X14.here hx rfl (hb hby at_113) rfl rfl kt) ?_
    show Go p e below _ (T14.setTop (mkF m 115 #[.val (.int pp), .val (.int en), .val (.int ia), .val (.int vr), .val (.int ee), .val (.int (0 : Int32)), .val (.int ii), .val (.int v0), .val (.int v1), .val (.ref b2), .unset, .unset, .unset, .unset, .unset, .unset, .unset, .unset] [(.ref b2)]))
    refine Go.st (fun _ kt => XS.iconst X14.here hx rfl (hb hby at_115) kt) ?_
    show Go p e below _ (T14.setTop (mkF m 116 #[.val (.int pp), .val (.int en), .val (.int ia), .val (.int vr), .val (.int ee), .val (.int (0 : Int32)), .val (.int ii), .val (.int v0), .val (.int v1), .val (.ref b2), .unset, .unset, .unset, .unset, .unset, .unset, .unset, .unset] [(.int (4 : Int32)), (.ref b2)]))
    refine Go.st (fun _ kt => XS.iloadN X14.here hx rfl (hb hby at_116) rfl kt) ?_
    show Go p e below _ (T14.setTop (mkF m 117 #[.val (.int pp), .val (.int en), .val (.int ia), .val (.int vr), .val (.int ee), .val (.int (0 : Int32)), .val (.int ii), .val (.int v0), .val (.int v1), .val (.ref b2), .unset, .unset, .unset, .unset, .unset, .unset, .unset, .unset] [(.int pp), (.int (4 : Int32)), (.ref b2)]))
    refine Go.st (fun _ kt => XS.iconst X14.here hx rfl (hb hby at_117) kt) ?_
    show Go p e below _ (T14.setTop (mkF m 118 #[.val (.int pp), .val (.int en), .val (.int ia), .val (.int vr), .val (.int ee), .val (.int (0 : Int32)), .val (.int ii), .val (.int v0), .val (.int v1), .val (.ref b2), .unset, .unset, .unset, .unset, .unset, .unset, .unset, .unset] [(.int (4 : Int32)), (.int pp), (.int (4 : Int32)), (.ref b2)]))
    refine Go.st (fun _ kt => XS.iload X14.here hx rfl (hb hby at_118) rfl kt) ?_
    show Go p e below _ (T14.setTop (mkF m 120 #[.val (.int pp), .val (.int en), .val (.int ia), .val (.int vr), .val (.int ee), .val (.int (0 : Int32)), .val (.int ii), .val (.int v0), .val (.int v1), .val (.ref b2), .unset, .unset, .unset, .unset, .unset, .unset, .unset, .unset] [(.int (0 : Int32)), (.int (4 : Int32)), (.int pp), (.int (4 : Int32)), (.ref b2)]))
    refine Go.st (fun _ kt => XS.iload X14.here hx rfl (hb hby at_120) rfl kt) ?_
    show Go p e below _ (T14.setTop (mkF m 122 #[.val (.int pp), .val (.int en), .val (.int ia), .val (.int vr), .val (.int ee), .val (.int (0 : Int32)), .val (.int ii), .val (.int v0), .val (.int v1), .val (.ref b2), .unset, .unset, .unset, .unset, .unset, .unset, .unset, .unset] [(.int ii), (.int (0 : Int32)), (.int (4 : Int32)), (.int pp), (.int (4 : Int32)), (.ref b2)]))
    obtain ⟨_, _, ⟨T15, L15, k15, n15⟩, -, X15, ⟨Lc15, hQ15, l15, y15, z15⟩, st15⟩ := Jvm.LawKit.callS X14 hx (y := (⟨"com/example/tributary/tributary/model/CostTableCostPinLaw", "cell", "(IIZI)D"⟩ : MethodName)) hown (mvT hZ (hw _ (List.mem_of_getElem? (i := 2) rfl))) (mvT hZ (hw _ (List.mem_of_getElem? (i := 3) rfl))) (mvT hZ (hw _ (List.mem_of_getElem? (i := 4) rfl))) (mvT hZ (hw _ (List.mem_of_getElem? (i := 5) rfl))) (by decide) (backOf (W := 2) (rm1 l Z a0 hw [] pp (4 : Int32) (0 : Int32) ii h14 n0 Zs14) hZ (hw _ (List.mem_of_getElem? (i := 5) rfl)) (hw _ (List.mem_of_getElem? (i := 4) rfl)) (by decide) (by decide)) (g := (mkF m 122 #[.val (.int pp), .val (.int en), .val (.int ia), .val (.int vr), .val (.int ee), .val (.int (0 : Int32)), .val (.int ii), .val (.int v0), .val (.int v1), .val (.ref b2), .unset, .unset, .unset, .unset, .unset, .unset, .unset, .unset] [(.int ii), (.int (0 : Int32)), (.int (4 : Int32)), (.int pp), (.int (4 : Int32)), (.ref b2)])) rfl (by rw [hml]; rfl) (argsL := [(.int pp), (.int (4 : Int32)), (.int (0 : Int32)), (.int ii)]) (rest := [(.int (4 : Int32)), (.ref b2)]) (lenOf own_pd4 rfl) rfl (by show 2 * 0 + _ ≤ _; exact Nat.le_of_eq rfl) (hb hby at_122) (fun _ _ => ⟨rfl, e14, (by decide : 1 + 0 ≤ _), (by decide : 6 + 0 ≤ _)⟩)
    dsimp only [Pt.U, Pt.locs, Pt.cells, Pt.slots] at X15 l15 y15 z15 st15 hQ15
    subst l15 y15 z15
    obtain ⟨rfl, N15q, e15⟩ := hQ15
    have N15 := Fr.app N14 N15q
    refine Go.st st15 ?_
    show Go p e below _ (T15.setTop (mkF m 125 #[.val (.int pp), .val (.int en), .val (.int ia), .val (.int vr), .val (.int ee), .val (.int (0 : Int32)), .val (.int ii), .val (.int v0), .val (.int v1), .val (.ref b2), .unset, .unset, .unset, .unset, .unset, .unset, .unset, .unset] [(.double (own_cell pp (4 : Int32) (0 : Int32) ii)), (.int (4 : Int32)), (.ref b2)]))
    obtain ⟨cl16, Ar16, q16, S16, N16', H16, G16⟩ := id V14
    have hin16 : ¬ ((4 : Int32) < 0 ∨ cl16.slots.size ≤ ((4 : Int32)).toNatClampNeg) := inb_of S16 ⟨by decide, by decide⟩
    obtain ⟨T17, h17, X17, e17, W17, st17⟩ := stD X15 hx hZ e15 Ar16 (j := (4 : Int32)) hin16 (g := (mkF m 125 #[.val (.int pp), .val (.int en), .val (.int ia), .val (.int vr), .val (.int ee), .val (.int (0 : Int32)), .val (.int ii), .val (.int v0), .val (.int v1), .val (.ref b2), .unset, .unset, .unset, .unset, .unset, .unset, .unset, .unset] [(.double (own_cell pp (4 : Int32) (0 : Int32) ii)), (.int (4 : Int32)), (.ref b2)])) rfl rfl (hb hby at_125)
    refine Go.st st17 ?_
    have V17 : Arv Z h17 b2 k2 .double (6 : Int32) [(.double (own_cell pp (0 : Int32) (0 : Int32) ii)), (.double (own_cell pp (1 : Int32) (0 : Int32) ii)), (.double (own_cell pp (2 : Int32) (0 : Int32) ii)), (.double (own_cell pp (3 : Int32) (0 : Int32) ii)), (.double (own_cell pp (4 : Int32) (0 : Int32) ii)), (.double (0 : UInt64))] (.double (0 : UInt64)) := Arv.set Ar16 q16 S16 N16' H16 G16 rfl W17 4 rfl (Nat.le_of_ble_eq_true rfl)
    have Zs17 : n0 ≤ h17.size := Nat.le_trans Zs14 (Nat.le_of_eq W17.size.symm)
    have N17 := Fr.snoc X17 N15 gn_b2
    show Go p e below _ (T17.setTop (mkF m 126 #[.val (.int pp), .val (.int en), .val (.int ia), .val (.int vr), .val (.int ee), .val (.int (0 : Int32)), .val (.int ii), .val (.int v0), .val (.int v1), .val (.ref b2), .unset, .unset, .unset, .unset, .unset, .unset, .unset, .unset] []))
    refine Go.st (fun _ kt => XS.aload X17.here hx rfl (hb hby at_126) rfl rfl kt) ?_
    show Go p e below _ (T17.setTop (mkF m 128 #[.val (.int pp), .val (.int en), .val (.int ia), .val (.int vr), .val (.int ee), .val (.int (0 : Int32)), .val (.int ii), .val (.int v0), .val (.int v1), .val (.ref b2), .unset, .unset, .unset, .unset, .unset, .unset, .unset, .unset] [(.ref b2)]))
    refine Go.st (fun _ kt => XS.iconst X17.here hx rfl (hb hby at_128) kt) ?_
    show Go p e below _ (T17.setTop (mkF m 129 #[.val (.int pp), .val (.int en), .val (.int ia), .val (.int vr), .val (.int ee), .val (.int (0 : Int32)), .val (.int ii), .val (.int v0), .val (.int v1), .val (.ref b2), .unset, .unset, .unset, .unset, .unset, .unset, .unset, .unset] [(.int (5 : Int32)), (.ref b2)]))
    refine Go.st (fun _ kt => XS.iloadN X17.here hx rfl (hb hby at_129) rfl kt) ?_
    show Go p e below _ (T17.setTop (mkF m 130 #[.val (.int pp), .val (.int en), .val (.int ia), .val (.int vr), .val (.int ee), .val (.int (0 : Int32)), .val (.int ii), .val (.int v0), .val (.int v1), .val (.ref b2), .unset, .unset, .unset, .unset, .unset, .unset, .unset, .unset] [(.int pp), (.int (5 : Int32)), (.ref b2)]))
    refine Go.st (fun _ kt => XS.iconst X17.here hx rfl (hb hby at_130) kt) ?_
    show Go p e below _ (T17.setTop (mkF m 131 #[.val (.int pp), .val (.int en), .val (.int ia), .val (.int vr), .val (.int ee), .val (.int (0 : Int32)), .val (.int ii), .val (.int v0), .val (.int v1), .val (.ref b2), .unset, .unset, .unset, .unset, .unset, .unset, .unset, .unset] [(.int (5 : Int32)), (.int pp), (.int (5 : Int32)), (.ref b2)]))
    refine Go.st (fun _ kt => XS.iload X17.here hx rfl (hb hby at_131) rfl kt) ?_
    show Go p e below _ (T17.setTop (mkF m 133 #[.val (.int pp), .val (.int en), .val (.int ia), .val (.int vr), .val (.int ee), .val (.int (0 : Int32)), .val (.int ii), .val (.int v0), .val (.int v1), .val (.ref b2), .unset, .unset, .unset, .unset, .unset, .unset, .unset, .unset] [(.int (0 : Int32)), (.int (5 : Int32)), (.int pp), (.int (5 : Int32)), (.ref b2)]))
    refine Go.st (fun _ kt => XS.iload X17.here hx rfl (hb hby at_133) rfl kt) ?_
    show Go p e below _ (T17.setTop (mkF m 135 #[.val (.int pp), .val (.int en), .val (.int ia), .val (.int vr), .val (.int ee), .val (.int (0 : Int32)), .val (.int ii), .val (.int v0), .val (.int v1), .val (.ref b2), .unset, .unset, .unset, .unset, .unset, .unset, .unset, .unset] [(.int ii), (.int (0 : Int32)), (.int (5 : Int32)), (.int pp), (.int (5 : Int32)), (.ref b2)]))
    obtain ⟨_, _, ⟨T18, L18, k18, n18⟩, -, X18, ⟨Lc18, hQ18, l18, y18, z18⟩, st18⟩ := Jvm.LawKit.callS X17 hx (y := (⟨"com/example/tributary/tributary/model/CostTableCostPinLaw", "cell", "(IIZI)D"⟩ : MethodName)) hown (mvT hZ (hw _ (List.mem_of_getElem? (i := 2) rfl))) (mvT hZ (hw _ (List.mem_of_getElem? (i := 3) rfl))) (mvT hZ (hw _ (List.mem_of_getElem? (i := 4) rfl))) (mvT hZ (hw _ (List.mem_of_getElem? (i := 5) rfl))) (by decide) (backOf (W := 2) (rm1 l Z a0 hw [] pp (5 : Int32) (0 : Int32) ii h17 n0 Zs17) hZ (hw _ (List.mem_of_getElem? (i := 5) rfl)) (hw _ (List.mem_of_getElem? (i := 4) rfl)) (by decide) (by decide)) (g := (mkF m 135 #[.val (.int pp), .val (.int en), .val (.int ia), .val (.int vr), .val (.int ee), .val (.int (0 : Int32)), .val (.int ii), .val (.int v0), .val (.int v1), .val (.ref b2), .unset, .unset, .unset, .unset, .unset, .unset, .unset, .unset] [(.int ii), (.int (0 : Int32)), (.int (5 : Int32)), (.int pp), (.int (5 : Int32)), (.ref b2)])) rfl (by rw [hml]; rfl) (argsL := [(.int pp), (.int (5 : Int32)), (.int (0 : Int32)), (.int ii)]) (rest := [(.int (5 : Int32)), (.ref b2)]) (lenOf own_pd4 rfl) rfl (by show 2 * 0 + _ ≤ _; exact Nat.le_of_eq rfl) (hb hby at_135) (fun _ _ => ⟨rfl, e17, (by decide : 1 + 0 ≤ _), (by decide : 6 + 0 ≤ _)⟩)
    dsimp only [Pt.U, Pt.locs, Pt.cells, Pt.slots] at X18 l18 y18 z18 st18 hQ18
    subst l18 y18 z18
    obtain ⟨rfl, N18q, e18⟩ := hQ18
    have N18 := Fr.app N17 N18q
    refine Go.st st18 ?_
    show Go p e below _ (T18.setTop (mkF m 138 #[.val (.int pp), .val (.int en), .val (.int ia), .val (.int vr), .val (.int ee), .val (.int (0 : Int32)), .val (.int ii), .val (.int v0), .val (.int v1), .val (.ref b2), .unset, .unset, .unset, .unset, .unset, .unset, .unset, .unset] [(.double (own_cell pp (5 : Int32) (0 : Int32) ii)), (.int (5 : Int32)), (.ref b2)]))
    obtain ⟨cl19, Ar19, q19, S19, N19', H19, G19⟩ := id V17
    have hin19 : ¬ ((5 : Int32) < 0 ∨ cl19.slots.size ≤ ((5 : Int32)).toNatClampNeg) := inb_of S19 ⟨by decide, by decide⟩
    obtain ⟨T20, h20, X20, e20, W20, st20⟩ := stD X18 hx hZ e18 Ar19 (j := (5 : Int32)) hin19 (g := (mkF m 138 #[.val (.int pp), .val (.int en), .val (.int ia), .val (.int vr), .val (.int ee), .val (.int (0 : Int32)), .val (.int ii), .val (.int v0), .val (.int v1), .val (.ref b2), .unset, .unset, .unset, .unset, .unset, .unset, .unset, .unset] [(.double (own_cell pp (5 : Int32) (0 : Int32) ii)), (.int (5 : Int32)), (.ref b2)])) rfl rfl (hb hby at_138)
    refine Go.st st20 ?_
    have V20 : Arv Z h20 b2 k2 .double (6 : Int32) [(.double (own_cell pp (0 : Int32) (0 : Int32) ii)), (.double (own_cell pp (1 : Int32) (0 : Int32) ii)), (.double (own_cell pp (2 : Int32) (0 : Int32) ii)), (.double (own_cell pp (3 : Int32) (0 : Int32) ii)), (.double (own_cell pp (4 : Int32) (0 : Int32) ii)), (.double (own_cell pp (5 : Int32) (0 : Int32) ii))] (.double (0 : UInt64)) := Arv.set Ar19 q19 S19 N19' H19 G19 rfl W20 5 rfl (Nat.le_of_ble_eq_true rfl)
    have Zs20 : n0 ≤ h20.size := Nat.le_trans Zs17 (Nat.le_of_eq W20.size.symm)
    have N20 := Fr.snoc X20 N18 gn_b2
    show Go p e below _ (T20.setTop (mkF m 139 #[.val (.int pp), .val (.int en), .val (.int ia), .val (.int vr), .val (.int ee), .val (.int (0 : Int32)), .val (.int ii), .val (.int v0), .val (.int v1), .val (.ref b2), .unset, .unset, .unset, .unset, .unset, .unset, .unset, .unset] []))
    refine Go.st (fun _ kt => XS.iconst X20.here hx rfl (hb hby at_139) kt) ?_
    show Go p e below _ (T20.setTop (mkF m 140 #[.val (.int pp), .val (.int en), .val (.int ia), .val (.int vr), .val (.int ee), .val (.int (0 : Int32)), .val (.int ii), .val (.int v0), .val (.int v1), .val (.ref b2), .unset, .unset, .unset, .unset, .unset, .unset, .unset, .unset] [(.int (2 : Int32))]))
    obtain ⟨T21, h21, k21, X21, e21, E21, A21, Y21, st21⟩ := newPE X20 hx hZ (hw _ (List.mem_of_getElem? (i := 6) rfl)) e20 (g := (mkF m 140 #[.val (.int pp), .val (.int en), .val (.int ia), .val (.int vr), .val (.int ee), .val (.int (0 : Int32)), .val (.int ii), .val (.int v0), .val (.int v1), .val (.ref b2), .unset, .unset, .unset, .unset, .unset, .unset, .unset, .unset] [(.int (2 : Int32))])) rfl (hb hby at_140) rfl (by decide) (cap := 2) (by decide) (by decide) (by decide) (by decide) (ad := "[I") (by decide)
    obtain ⟨b21, g21⟩ : ∃ z, z = h20.size := ⟨_, rfl⟩
    rw [← g21] at A21 Y21 st21
    have f22 := ((((((Y2.wr W5).wr W8).wr W11).wr W14).wr W17).wr W20)
    have lt_b2_b21 : b2 < b21 := Nat.lt_of_lt_of_eq f22.lt g21.symm
    have gn_b21 : n0 ≤ b21 := Nat.le_trans Zs20 (Nat.le_of_eq g21.symm)
    have Zs21 : n0 ≤ h21.size := Nat.le_trans Zs20 E21.1
    refine Go.st st21 ?_
    have V21 : Arv Z h21 b21 k21 .int (2 : Int32) [(.int (0 : Int32)), (.int (0 : Int32))] (.int (0 : Int32)) := (Arv.new A21 (by decide)).pad (pad_rep [] (.int (0 : Int32)) 2)
    show Go p e below _ (T21.setTop (mkF m 142 #[.val (.int pp), .val (.int en), .val (.int ia), .val (.int vr), .val (.int ee), .val (.int (0 : Int32)), .val (.int ii), .val (.int v0), .val (.int v1), .val (.ref b2), .unset, .unset, .unset, .unset, .unset, .unset, .unset, .unset] [(.ref b21)]))
    refine Go.st (fun _ kt => XS.astore X21.here hx rfl (hb hby at_142) rfl rfl (l' := #[.val (.int pp), .val (.int en), .val (.int ia), .val (.int vr), .val (.int ee), .val (.int (0 : Int32)), .val (.int ii), .val (.int v0), .val (.int v1), .val (.ref b2), .val (.ref b21), .unset, .unset, .unset, .unset, .unset, .unset, .unset]) rfl kt) ?_
    show Go p e below _ (T21.setTop (mkF m 144 #[.val (.int pp), .val (.int en), .val (.int ia), .val (.int vr), .val (.int ee), .val (.int (0 : Int32)), .val (.int ii), .val (.int v0), .val (.int v1), .val (.ref b2), .val (.ref b21), .unset, .unset, .unset, .unset, .unset, .unset, .unset] []))
    refine Go.st (fun _ kt => XS.aload X21.here hx rfl (hb hby at_144) rfl rfl kt) ?_
    show Go p e below _ (T21.setTop (mkF m 146 #[.val (.int pp), .val (.int en), .val (.int ia), .val (.int vr), .val (.int ee), .val (.int (0 : Int32)), .val (.int ii), .val (.int v0), .val (.int v1), .val (.ref b2), .val (.ref b21), .unset, .unset, .unset, .unset, .unset, .unset, .unset] [(.ref b21)]))
    refine Go.st (fun _ kt => XS.iconst X21.here hx rfl (hb hby at_146) kt) ?_
    show Go p e below _ (T21.setTop (mkF m 147 #[.val (.int pp), .val (.int en), .val (.int ia), .val (.int vr), .val (.int ee), .val (.int (0 : Int32)), .val (.int ii), .val (.int v0), .val (.int v1), .val (.ref b2), .val (.ref b21), .unset, .unset, .unset, .unset, .unset, .unset, .unset] [(.int (0 : Int32)), (.ref b21)]))
    refine Go.st (fun _ kt => XS.iload X21.here hx rfl (hb hby at_147) rfl kt) ?_
    show Go p e below _ (T21.setTop (mkF m 149 #[.val (.int pp), .val (.int en), .val (.int ia), .val (.int vr), .val (.int ee), .val (.int (0 : Int32)), .val (.int ii), .val (.int v0), .val (.int v1), .val (.ref b2), .val (.ref b21), .unset, .unset, .unset, .unset, .unset, .unset, .unset] [(.int v0), (.int (0 : Int32)), (.ref b21)]))
    obtain ⟨cl23, Ar23, q23, S23, N23', H23, G23⟩ := id V21
    have hin23 : ¬ ((0 : Int32) < 0 ∨ cl23.slots.size ≤ ((0 : Int32)).toNatClampNeg) := inb_of S23 ⟨by decide, by decide⟩
    obtain ⟨T24, h24, X24, e24, W24, st24⟩ := stI X21 hx hZ e21 Ar23 (j := (0 : Int32)) hin23 (g := (mkF m 149 #[.val (.int pp), .val (.int en), .val (.int ia), .val (.int vr), .val (.int ee), .val (.int (0 : Int32)), .val (.int ii), .val (.int v0), .val (.int v1), .val (.ref b2), .val (.ref b21), .unset, .unset, .unset, .unset, .unset, .unset, .unset] [(.int v0), (.int (0 : Int32)), (.ref b21)])) rfl rfl (hb hby at_149)
    refine Go.st st24 ?_
    have V24 : Arv Z h24 b21 k21 .int (2 : Int32) [(.int v0), (.int (0 : Int32))] (.int (0 : Int32)) := Arv.set Ar23 q23 S23 N23' H23 G23 rfl W24 0 rfl (Nat.le_of_ble_eq_true rfl)
    have Zs24 : n0 ≤ h24.size := Nat.le_trans Zs21 (Nat.le_of_eq W24.size.symm)
    have N24 := Fr.snoc X24 N20 gn_b21
    show Go p e below _ (T24.setTop (mkF m 150 #[.val (.int pp), .val (.int en), .val (.int ia), .val (.int vr), .val (.int ee), .val (.int (0 : Int32)), .val (.int ii), .val (.int v0), .val (.int v1), .val (.ref b2), .val (.ref b21), .unset, .unset, .unset, .unset, .unset, .unset, .unset] []))
    refine Go.st (fun _ kt => XS.aload X24.here hx rfl (hb hby at_150) rfl rfl kt) ?_
    show Go p e below _ (T24.setTop (mkF m 152 #[.val (.int pp), .val (.int en), .val (.int ia), .val (.int vr), .val (.int ee), .val (.int (0 : Int32)), .val (.int ii), .val (.int v0), .val (.int v1), .val (.ref b2), .val (.ref b21), .unset, .unset, .unset, .unset, .unset, .unset, .unset] [(.ref b21)]))
    refine Go.st (fun _ kt => XS.iconst X24.here hx rfl (hb hby at_152) kt) ?_
    show Go p e below _ (T24.setTop (mkF m 153 #[.val (.int pp), .val (.int en), .val (.int ia), .val (.int vr), .val (.int ee), .val (.int (0 : Int32)), .val (.int ii), .val (.int v0), .val (.int v1), .val (.ref b2), .val (.ref b21), .unset, .unset, .unset, .unset, .unset, .unset, .unset] [(.int (1 : Int32)), (.ref b21)]))
    refine Go.st (fun _ kt => XS.iload X24.here hx rfl (hb hby at_153) rfl kt) ?_
    show Go p e below _ (T24.setTop (mkF m 155 #[.val (.int pp), .val (.int en), .val (.int ia), .val (.int vr), .val (.int ee), .val (.int (0 : Int32)), .val (.int ii), .val (.int v0), .val (.int v1), .val (.ref b2), .val (.ref b21), .unset, .unset, .unset, .unset, .unset, .unset, .unset] [(.int v1), (.int (1 : Int32)), (.ref b21)]))
    obtain ⟨cl25, Ar25, q25, S25, N25', H25, G25⟩ := id V24
    have hin25 : ¬ ((1 : Int32) < 0 ∨ cl25.slots.size ≤ ((1 : Int32)).toNatClampNeg) := inb_of S25 ⟨by decide, by decide⟩
    obtain ⟨T26, h26, X26, e26, W26, st26⟩ := stI X24 hx hZ e24 Ar25 (j := (1 : Int32)) hin25 (g := (mkF m 155 #[.val (.int pp), .val (.int en), .val (.int ia), .val (.int vr), .val (.int ee), .val (.int (0 : Int32)), .val (.int ii), .val (.int v0), .val (.int v1), .val (.ref b2), .val (.ref b21), .unset, .unset, .unset, .unset, .unset, .unset, .unset] [(.int v1), (.int (1 : Int32)), (.ref b21)])) rfl rfl (hb hby at_155)
    refine Go.st st26 ?_
    have V26 : Arv Z h26 b21 k21 .int (2 : Int32) [(.int v0), (.int v1)] (.int (0 : Int32)) := Arv.set Ar25 q25 S25 N25' H25 G25 rfl W26 1 rfl (Nat.le_of_ble_eq_true rfl)
    have Zs26 : n0 ≤ h26.size := Nat.le_trans Zs24 (Nat.le_of_eq W26.size.symm)
    have N26 := Fr.snoc X26 N24 gn_b21
    show Go p e below _ (T26.setTop (mkF m 156 #[.val (.int pp), .val (.int en), .val (.int ia), .val (.int vr), .val (.int ee), .val (.int (0 : Int32)), .val (.int ii), .val (.int v0), .val (.int v1), .val (.ref b2), .val (.ref b21), .unset, .unset, .unset, .unset, .unset, .unset, .unset] []))
    refine Go.st (fun _ kt => XS.iconst X26.here hx rfl (hb hby at_156) kt) ?_
    show Go p e below _ (T26.setTop (mkF m 157 #[.val (.int pp), .val (.int en), .val (.int ia), .val (.int vr), .val (.int ee), .val (.int (0 : Int32)), .val (.int ii), .val (.int v0), .val (.int v1), .val (.ref b2), .val (.ref b21), .unset, .unset, .unset, .unset, .unset, .unset, .unset] [(.int (2 : Int32))]))
    obtain ⟨T27, h27, k27, X27, e27, E27, A27, Y27, st27⟩ := newPE X26 hx hZ (hw _ (List.mem_of_getElem? (i := 6) rfl)) e26 (g := (mkF m 157 #[.val (.int pp), .val (.int en), .val (.int ia), .val (.int vr), .val (.int ee), .val (.int (0 : Int32)), .val (.int ii), .val (.int v0), .val (.int v1), .val (.ref b2), .val (.ref b21), .unset, .unset, .unset, .unset, .unset, .unset, .unset] [(.int (2 : Int32))])) rfl (hb hby at_157) rfl (by decide) (cap := 2) (by decide) (by decide) (by decide) (by decide) (ad := "[I") (by decide)
    obtain ⟨b27, g27⟩ : ∃ z, z = h26.size := ⟨_, rfl⟩
    rw [← g27] at A27 Y27 st27
    have f28 := (((f22.ext E21).wr W24).wr W26)
    have lt_b2_b27 : b2 < b27 := Nat.lt_of_lt_of_eq f28.lt g27.symm
    have f29 := ((Y21.wr W24).wr W26)
    have lt_b21_b27 : b21 < b27 := Nat.lt_of_lt_of_eq f29.lt g27.symm
    have gn_b27 : n0 ≤ b27 := Nat.le_trans Zs26 (Nat.le_of_eq g27.symm)
    have Zs27 : n0 ≤ h27.size := Nat.le_trans Zs26 E27.1
    refine Go.st st27 ?_
    have V27 : Arv Z h27 b27 k27 .int (2 : Int32) [(.int (0 : Int32)), (.int (0 : Int32))] (.int (0 : Int32)) := (Arv.new A27 (by decide)).pad (pad_rep [] (.int (0 : Int32)) 2)
    show Go p e below _ (T27.setTop (mkF m 159 #[.val (.int pp), .val (.int en), .val (.int ia), .val (.int vr), .val (.int ee), .val (.int (0 : Int32)), .val (.int ii), .val (.int v0), .val (.int v1), .val (.ref b2), .val (.ref b21), .unset, .unset, .unset, .unset, .unset, .unset, .unset] [(.ref b27)]))
    refine Go.st (fun _ kt => XS.astore X27.here hx rfl (hb hby at_159) rfl rfl (l' := #[.val (.int pp), .val (.int en), .val (.int ia), .val (.int vr), .val (.int ee), .val (.int (0 : Int32)), .val (.int ii), .val (.int v0), .val (.int v1), .val (.ref b2), .val (.ref b21), .val (.ref b27), .unset, .unset, .unset, .unset, .unset, .unset]) rfl kt) ?_
    show Go p e below _ (T27.setTop (mkF m 161 #[.val (.int pp), .val (.int en), .val (.int ia), .val (.int vr), .val (.int ee), .val (.int (0 : Int32)), .val (.int ii), .val (.int v0), .val (.int v1), .val (.ref b2), .val (.ref b21), .val (.ref b27), .unset, .unset, .unset, .unset, .unset, .unset] []))
    refine Go.st (fun _ kt => XS.aload X27.here hx rfl (hb hby at_161) rfl rfl kt) ?_
    show Go p e below _ (T27.setTop (mkF m 163 #[.val (.int pp), .val (.int en), .val (.int ia), .val (.int vr), .val (.int ee), .val (.int (0 : Int32)), .val (.int ii), .val (.int v0), .val (.int v1), .val (.ref b2), .val (.ref b21), .val (.ref b27), .unset, .unset, .unset, .unset, .unset, .unset] [(.ref b27)]))
    refine Go.st (fun _ kt => XS.iconst X27.here hx rfl (hb hby at_163) kt) ?_
    show Go p e below _ (T27.setTop (mkF m 164 #[.val (.int pp), .val (.int en), .val (.int ia), .val (.int vr), .val (.int ee), .val (.int (0 : Int32)), .val (.int ii), .val (.int v0), .val (.int v1), .val (.ref b2), .val (.ref b21), .val (.ref b27), .unset, .unset, .unset, .unset, .unset, .unset] [(.int (0 : Int32)), (.ref b27)]))
    refine Go.st (fun _ kt => XS.iconst X27.here hx rfl (hb hby at_164) kt) ?_
    show Go p e below _ (T27.setTop (mkF m 165 #[.val (.int pp), .val (.int en), .val (.int ia), .val (.int vr), .val (.int ee), .val (.int (0 : Int32)), .val (.int ii), .val (.int v0), .val (.int v1), .val (.ref b2), .val (.ref b21), .val (.ref b27), .unset, .unset, .unset, .unset, .unset, .unset] [(.int (2 : Int32)), (.int (0 : Int32)), (.ref b27)]))
    obtain ⟨cl30, Ar30, q30, S30, N30', H30, G30⟩ := id V27
    have hin30 : ¬ ((0 : Int32) < 0 ∨ cl30.slots.size ≤ ((0 : Int32)).toNatClampNeg) := inb_of S30 ⟨by decide, by decide⟩
    obtain ⟨T31, h31, X31, e31, W31, st31⟩ := stI X27 hx hZ e27 Ar30 (j := (0 : Int32)) hin30 (g := (mkF m 165 #[.val (.int pp), .val (.int en), .val (.int ia), .val (.int vr), .val (.int ee), .val (.int (0 : Int32)), .val (.int ii), .val (.int v0), .val (.int v1), .val (.ref b2), .val (.ref b21), .val (.ref b27), .unset, .unset, .unset, .unset, .unset, .unset] [(.int (2 : Int32)), (.int (0 : Int32)), (.ref b27)])) rfl rfl (hb hby at_165)
    refine Go.st st31 ?_
    have V31 : Arv Z h31 b27 k27 .int (2 : Int32) [(.int (2 : Int32)), (.int (0 : Int32))] (.int (0 : Int32)) := Arv.set Ar30 q30 S30 N30' H30 G30 rfl W31 0 rfl (Nat.le_of_ble_eq_true rfl)
    have Zs31 : n0 ≤ h31.size := Nat.le_trans Zs27 (Nat.le_of_eq W31.size.symm)
    have N31 := Fr.snoc X31 N26 gn_b27
    show Go p e below _ (T31.setTop (mkF m 166 #[.val (.int pp), .val (.int en), .val (.int ia), .val (.int vr), .val (.int ee), .val (.int (0 : Int32)), .val (.int ii), .val (.int v0), .val (.int v1), .val (.ref b2), .val (.ref b21), .val (.ref b27), .unset, .unset, .unset, .unset, .unset, .unset] []))
    refine Go.st (fun _ kt => XS.aload X31.here hx rfl (hb hby at_166) rfl rfl kt) ?_
    show Go p e below _ (T31.setTop (mkF m 168 #[.val (.int pp), .val (.int en), .val (.int ia), .val (.int vr), .val (.int ee), .val (.int (0 : Int32)), .val (.int ii), .val (.int v0), .val (.int v1), .val (.ref b2), .val (.ref b21), .val (.ref b27), .unset, .unset, .unset, .unset, .unset, .unset] [(.ref b27)]))
    refine Go.st (fun _ kt => XS.iconst X31.here hx rfl (hb hby at_168) kt) ?_
    show Go p e below _ (T31.setTop (mkF m 169 #[.val (.int pp), .val (.int en), .val (.int ia), .val (.int vr), .val (.int ee), .val (.int (0 : Int32)), .val (.int ii), .val (.int v0), .val (.int v1), .val (.ref b2), .val (.ref b21), .val (.ref b27), .unset, .unset, .unset, .unset, .unset, .unset] [(.int (1 : Int32)), (.ref b27)]))
    refine Go.st (fun _ kt => XS.iconst X31.here hx rfl (hb hby at_169) kt) ?_
    show Go p e below _ (T31.setTop (mkF m 170 #[.val (.int pp), .val (.int en), .val (.int ia), .val (.int vr), .val (.int ee), .val (.int (0 : Int32)), .val (.int ii), .val (.int v0), .val (.int v1), .val (.ref b2), .val (.ref b21), .val (.ref b27), .unset, .unset, .unset, .unset, .unset, .unset] [(.int (3 : Int32)), (.int (1 : Int32)), (.ref b27)]))
    obtain ⟨cl32, Ar32, q32, S32, N32', H32, G32⟩ := id V31
    have hin32 : ¬ ((1 : Int32) < 0 ∨ cl32.slots.size ≤ ((1 : Int32)).toNatClampNeg) := inb_of S32 ⟨by decide, by decide⟩
    obtain ⟨T33, h33, X33, e33, W33, st33⟩ := stI X31 hx hZ e31 Ar32 (j := (1 : Int32)) hin32 (g := (mkF m 170 #[.val (.int pp), .val (.int en), .val (.int ia), .val (.int vr), .val (.int ee), .val (.int (0 : Int32)), .val (.int ii), .val (.int v0), .val (.int v1), .val (.ref b2), .val (.ref b21), .val (.ref b27), .unset, .unset, .unset, .unset, .unset, .unset] [(.int (3 : Int32)), (.int (1 : Int32)), (.ref b27)])) rfl rfl (hb hby at_170)
    refine Go.st st33 ?_
    have V33 : Arv Z h33 b27 k27 .int (2 : Int32) [(.int (2 : Int32)), (.int (3 : Int32))] (.int (0 : Int32)) := Arv.set Ar32 q32 S32 N32' H32 G32 rfl W33 1 rfl (Nat.le_of_ble_eq_true rfl)
    have Zs33 : n0 ≤ h33.size := Nat.le_trans Zs31 (Nat.le_of_eq W33.size.symm)
    have N33 := Fr.snoc X33 N31 gn_b27
    show Go p e below _ (T33.setTop (mkF m 171 #[.val (.int pp), .val (.int en), .val (.int ia), .val (.int vr), .val (.int ee), .val (.int (0 : Int32)), .val (.int ii), .val (.int v0), .val (.int v1), .val (.ref b2), .val (.ref b21), .val (.ref b27), .unset, .unset, .unset, .unset, .unset, .unset] []))
    obtain ⟨T34, h34, X34, e34, E34, A34, D34, U34, st34⟩ := newO X33 hx hZ hown (hw _ (List.mem_of_getElem? (i := 7) rfl)) (hw _ (List.mem_of_getElem? (i := 8) rfl)) (hw _ (List.mem_of_getElem? (i := 9) rfl)) e33 (g := (mkF m 171 #[.val (.int pp), .val (.int en), .val (.int ia), .val (.int vr), .val (.int ee), .val (.int (0 : Int32)), .val (.int ii), .val (.int v0), .val (.int v1), .val (.ref b2), .val (.ref b21), .val (.ref b27), .unset, .unset, .unset, .unset, .unset, .unset] [])) rfl (hb hby at_171) (by decide) (by decide)
    obtain ⟨b34, g34⟩ : ∃ z, z = h33.size := ⟨_, rfl⟩
    rw [← g34] at A34 D34 U34 st34
    have f35 := (((f28.ext E27).wr W31).wr W33)
    have lt_b2_b34 : b2 < b34 := Nat.lt_of_lt_of_eq f35.lt g34.symm
    have f36 := (((f29.ext E27).wr W31).wr W33)
    have lt_b21_b34 : b21 < b34 := Nat.lt_of_lt_of_eq f36.lt g34.symm
    have f37 := ((Y27.wr W31).wr W33)
    have lt_b27_b34 : b27 < b34 := Nat.lt_of_lt_of_eq f37.lt g34.symm
    have gn_b34 : n0 ≤ b34 := Nat.le_trans Zs33 (Nat.le_of_eq g34.symm)
    have Zs34 : n0 ≤ h34.size := Nat.le_trans Zs33 E34.1
    refine Go.st st34 ?_
    have F34_variables : Fld Z h34 b34 "com/example/tributary/tributary/model/CostTable" "variables" "[I" .null := D34 (Or.inr (hw _ (List.mem_of_getElem? (i := 30) rfl))) (ty := (.array .int)) (by decide)
    have F34_sizes : Fld Z h34 b34 "com/example/tributary/tributary/model/CostTable" "sizes" "[I" .null := D34 (Or.inr (hw _ (List.mem_of_getElem? (i := 32) rfl))) (ty := (.array .int)) (by decide)
    have F34_strides : Fld Z h34 b34 "com/example/tributary/tributary/model/CostTable" "strides" "[I" .null := D34 (Or.inr (hw _ (List.mem_of_getElem? (i := 37) rfl))) (ty := (.array .int)) (by decide)
    have F34_costs : Fld Z h34 b34 "com/example/tributary/tributary/model/CostTable" "costs" "[D" .null := D34 (Or.inr (hw _ (List.mem_of_getElem? (i := 39) rfl))) (ty := (.array .double)) (by decide)
    show Go p e below _ (T34.setTop (mkF m 174 #[.val (.int pp), .val (.int en), .val (.int ia), .val (.int vr), .val (.int ee), .val (.int (0 : Int32)), .val (.int ii), .val (.int v0), .val (.int v1), .val (.ref b2), .val (.ref b21), .val (.ref b27), .unset, .unset, .unset, .unset, .unset, .unset] [(.ref b34)]))
    refine Go.st (fun _ kt => XS.dup X34.here hx rfl (hb hby at_174) rfl rfl kt) ?_
    show Go p e below _ (T34.setTop (mkF m 175 #[.val (.int pp), .val (.int en), .val (.int ia), .val (.int vr), .val (.int ee), .val (.int (0 : Int32)), .val (.int ii), .val (.int v0), .val (.int v1), .val (.ref b2), .val (.ref b21), .val (.ref b27), .unset, .unset, .unset, .unset, .unset, .unset] [(.ref b34), (.ref b34)]))
    refine Go.st (fun _ kt => XS.aload X34.here hx rfl (hb hby at_175) rfl rfl kt) ?_
    show Go p e below _ (T34.setTop (mkF m 177 #[.val (.int pp), .val (.int en), .val (.int ia), .val (.int vr), .val (.int ee), .val (.int (0 : Int32)), .val (.int ii), .val (.int v0), .val (.int v1), .val (.ref b2), .val (.ref b21), .val (.ref b27), .unset, .unset, .unset, .unset, .unset, .unset] [(.ref b21), (.ref b34), (.ref b34)]))
    refine Go.st (fun _ kt => XS.aload X34.here hx rfl (hb hby at_177) rfl rfl kt) ?_
    show Go p e below _ (T34.setTop (mkF m 179 #[.val (.int pp), .val (.int en), .val (.int ia), .val (.int vr), .val (.int ee), .val (.int (0 : Int32)), .val (.int ii), .val (.int v0), .val (.int v1), .val (.ref b2), .val (.ref b21), .val (.ref b27), .unset, .unset, .unset, .unset, .unset, .unset] [(.ref b27), (.ref b21), (.ref b34), (.ref b34)]))
    refine Go.st (fun _ kt => XS.aload X34.here hx rfl (hb hby at_179) rfl rfl kt) ?_
    show Go p e below _ (T34.setTop (mkF m 181 #[.val (.int pp), .val (.int en), .val (.int ia), .val (.int vr), .val (.int ee), .val (.int (0 : Int32)), .val (.int ii), .val (.int v0), .val (.int v1), .val (.ref b2), .val (.ref b21), .val (.ref b27), .unset, .unset, .unset, .unset, .unset, .unset] [(.ref b2), (.ref b27), (.ref b21), (.ref b34), (.ref b34)]))
    have f38 := ((((V26.ext E27).other W31 (Nat.ne_of_lt lt_b21_b27)).other W33 (Nat.ne_of_lt lt_b21_b27)).ext E34)
    have f39 := (V33.ext E34)
    have f40 := (((((((V20.ext E21).other W24 (Nat.ne_of_lt lt_b2_b21)).other W26 (Nat.ne_of_lt lt_b2_b21)).ext E27).other W31 (Nat.ne_of_lt lt_b2_b27)).other W33 (Nat.ne_of_lt lt_b2_b27)).ext E34)
    have f41 := (f36.ext E34)
    have f42 := (f37.ext E34)
    obtain ⟨_, _, ⟨T43, L43, k43, n43⟩, -, X43, ⟨Lc43, hQ43, l43, y43, z43⟩, st43⟩ := X34.specialBack hx (y := (⟨"com/example/tributary/tributary/model/CostTable", "<init>", "([I[I[D)V"⟩ : MethodName)) rfl hown (mvT hZ (hw _ (List.mem_of_getElem? (i := 10) rfl))) (mvT hZ (hw _ (List.mem_of_getElem? (i := 11) rfl))) (mvT hZ (hw _ (List.mem_of_getElem? (i := 12) rfl))) (by decide) (backOf (W := 1) (rm2 l Z a0 hw [] b34 b21 b27 b2 k21 k27 k2 v0 v1 [(.double (own_cell pp (0 : Int32) (0 : Int32) ii)), (.double (own_cell pp (1 : Int32) (0 : Int32) ii)), (.double (own_cell pp (2 : Int32) (0 : Int32) ii)), (.double (own_cell pp (3 : Int32) (0 : Int32) ii)), (.double (own_cell pp (4 : Int32) (0 : Int32) ii)), (.double (own_cell pp (5 : Int32) (0 : Int32) ii))] h34 n0 Zs34 A34 F34_variables F34_sizes F34_strides F34_costs f38 f39 f40 f41 f42 gn_b34 (Nat.ne_of_lt lt_b21_b34) (Nat.ne_of_lt lt_b27_b34) (Nat.ne_of_lt lt_b2_b34) hW.2.2.1) hZ (hw _ (List.mem_of_getElem? (i := 12) rfl)) (hw _ (List.mem_of_getElem? (i := 9) rfl)) (by decide) (by decide)) (g := (mkF m 181 #[.val (.int pp), .val (.int en), .val (.int ia), .val (.int vr), .val (.int ee), .val (.int (0 : Int32)), .val (.int ii), .val (.int v0), .val (.int v1), .val (.ref b2), .val (.ref b21), .val (.ref b27), .unset, .unset, .unset, .unset, .unset, .unset] [(.ref b2), (.ref b27), (.ref b21), (.ref b34), (.ref b34)])) rfl (by rw [hml]; rfl) (Steps.refl _) (a := b34) (argsL := [(.ref b21), (.ref b27), (.ref b2)]) (rest := [(.ref b34)]) (lenOf own_pd5 rfl) rfl (by show 2 * 0 + _ ≤ _; exact Nat.le_of_eq rfl) (hb hby at_181) (fun _ _ => ⟨rfl, e34, (by decide : 4 + 3 ≤ _), (by decide : 14 + 6 ≤ _)⟩)
    dsimp only [Pt.U, Pt.locs, Pt.cells, Pt.slots] at X43 l43 y43 z43 st43 hQ43
    subst l43 y43 z43
    obtain ⟨bv43, kv43, br43, kr43, rfl, N43q, K43q, hs43, ht43, G43_0, G43_1, G43_2, G43_3, G43_4⟩ := hQ43
    have f44 := (f35.ext E34)
    have lt_b2_bv43 : b2 < bv43 := Nat.lt_of_lt_of_le f44.lt hs43
    have lt_b21_bv43 : b21 < bv43 := Nat.lt_of_lt_of_le f41.lt hs43
    have lt_b27_bv43 : b27 < bv43 := Nat.lt_of_lt_of_le f42.lt hs43
    have lt_b34_bv43 : b34 < bv43 := Nat.lt_of_lt_of_le A34.lt hs43
    have gn_bv43 : n0 ≤ bv43 := Nat.le_trans Zs34 hs43
    have lt_b2_br43 : b2 < br43 := Nat.lt_of_lt_of_le f44.lt ht43
    have lt_b21_br43 : b21 < br43 := Nat.lt_of_lt_of_le f41.lt ht43
    have lt_b27_br43 : b27 < br43 := Nat.lt_of_lt_of_le f42.lt ht43
    have lt_b34_br43 : b34 < br43 := Nat.lt_of_lt_of_le A34.lt ht43
    have gn_br43 : n0 ≤ br43 := Nat.le_trans Zs34 ht43
    have Zs43 : n0 ≤ T43.heap.size := Nat.le_trans Zs34 K43q.1
    have N43 := Fr.app N33 N43q
    refine Go.tr st43 ?_
    show Go p e below _ (T43.setTop (mkF m 184 #[.val (.int pp), .val (.int en), .val (.int ia), .val (.int vr), .val (.int ee), .val (.int (0 : Int32)), .val (.int ii), .val (.int v0), .val (.int v1), .val (.ref b2), .val (.ref b21), .val (.ref b27), .unset, .unset, .unset, .unset, .unset, .unset] [(.ref b34)]))
    refine Go.st (fun _ kt => XS.astore X43.here hx rfl (hb hby at_184) rfl rfl (l' := #[.val (.int pp), .val (.int en), .val (.int ia), .val (.int vr), .val (.int ee), .val (.int (0 : Int32)), .val (.int ii), .val (.int v0), .val (.int v1), .val (.ref b2), .val (.ref b21), .val (.ref b27), .val (.ref b34), .unset, .unset, .unset, .unset, .unset]) rfl kt) ?_
    show Go p e below _ (T43.setTop (mkF m 186 #[.val (.int pp), .val (.int en), .val (.int ia), .val (.int vr), .val (.int ee), .val (.int (0 : Int32)), .val (.int ii), .val (.int v0), .val (.int v1), .val (.ref b2), .val (.ref b21), .val (.ref b27), .val (.ref b34), .unset, .unset, .unset, .unset, .unset] []))
    refine Go.st (fun _ kt => XS.iloadN X43.here hx rfl (hb hby at_186) rfl kt) ?_
    show Go p e below _ (T43.setTop (mkF m 187 #[.val (.int pp), .val (.int en), .val (.int ia), .val (.int vr), .val (.int ee), .val (.int (0 : Int32)), .val (.int ii), .val (.int v0), .val (.int v1), .val (.ref b2), .val (.ref b21), .val (.ref b27), .val (.ref b34), .unset, .unset, .unset, .unset, .unset] [(.int pp)]))
    refine Go.st (fun _ kt => XS.iload X43.here hx rfl (hb hby at_187) rfl kt) ?_
    show Go p e below _ (T43.setTop (mkF m 189 #[.val (.int pp), .val (.int en), .val (.int ia), .val (.int vr), .val (.int ee), .val (.int (0 : Int32)), .val (.int ii), .val (.int v0), .val (.int v1), .val (.ref b2), .val (.ref b21), .val (.ref b27), .val (.ref b34), .unset, .unset, .unset, .unset, .unset] [(.int ee), (.int pp)]))
    refine Go.st (fun _ kt => XS.iload X43.here hx rfl (hb hby at_189) rfl kt) ?_
    show Go p e below _ (T43.setTop (mkF m 191 #[.val (.int pp), .val (.int en), .val (.int ia), .val (.int vr), .val (.int ee), .val (.int (0 : Int32)), .val (.int ii), .val (.int v0), .val (.int v1), .val (.ref b2), .val (.ref b21), .val (.ref b27), .val (.ref b34), .unset, .unset, .unset, .unset, .unset] [(.int (0 : Int32)), (.int ee), (.int pp)]))
    refine Go.st (fun _ kt => XS.iload X43.here hx rfl (hb hby at_191) rfl kt) ?_
    show Go p e below _ (T43.setTop (mkF m 193 #[.val (.int pp), .val (.int en), .val (.int ia), .val (.int vr), .val (.int ee), .val (.int (0 : Int32)), .val (.int ii), .val (.int v0), .val (.int v1), .val (.ref b2), .val (.ref b21), .val (.ref b27), .val (.ref b34), .unset, .unset, .unset, .unset, .unset] [(.int ii), (.int (0 : Int32)), (.int ee), (.int pp)]))
    obtain ⟨_, _, ⟨T45, L45, k45, n45⟩, -, X45, ⟨Lc45, hQ45, l45, y45, z45⟩, st45⟩ := Jvm.LawKit.callS X43 hx (y := (⟨"com/example/tributary/tributary/model/CostTableCostPinLaw", "cell", "(IIZI)D"⟩ : MethodName)) hown (mvT hZ (hw _ (List.mem_of_getElem? (i := 2) rfl))) (mvT hZ (hw _ (List.mem_of_getElem? (i := 3) rfl))) (mvT hZ (hw _ (List.mem_of_getElem? (i := 4) rfl))) (mvT hZ (hw _ (List.mem_of_getElem? (i := 5) rfl))) (by decide) (backOf (W := 0) (rm1 l Z a0 hw [] pp ee (0 : Int32) ii T43.heap n0 Zs43) hZ (hw _ (List.mem_of_getElem? (i := 5) rfl)) (hw _ (List.mem_of_getElem? (i := 4) rfl)) (by decide) (by decide)) (g := (mkF m 193 #[.val (.int pp), .val (.int en), .val (.int ia), .val (.int vr), .val (.int ee), .val (.int (0 : Int32)), .val (.int ii), .val (.int v0), .val (.int v1), .val (.ref b2), .val (.ref b21), .val (.ref b27), .val (.ref b34), .unset, .unset, .unset, .unset, .unset] [(.int ii), (.int (0 : Int32)), (.int ee), (.int pp)])) rfl (by rw [hml]; rfl) (argsL := [(.int pp), (.int ee), (.int (0 : Int32)), (.int ii)]) (rest := []) (lenOf own_pd4 rfl) rfl (by show 2 * 0 + _ ≤ _; exact Nat.le_of_eq rfl) (hb hby at_193) (fun _ _ => ⟨rfl, rfl, (by decide : 7 + 0 ≤ _), (by decide : 20 + 0 ≤ _)⟩)
    dsimp only [Pt.U, Pt.locs, Pt.cells, Pt.slots] at X45 l45 y45 z45 st45 hQ45
    subst l45 y45 z45
    obtain ⟨rfl, N45q, e45⟩ := hQ45
    have N45 := Fr.app N43 N45q
    refine Go.st st45 ?_
    show Go p e below _ (T45.setTop (mkF m 196 #[.val (.int pp), .val (.int en), .val (.int ia), .val (.int vr), .val (.int ee), .val (.int (0 : Int32)), .val (.int ii), .val (.int v0), .val (.int v1), .val (.ref b2), .val (.ref b21), .val (.ref b27), .val (.ref b34), .unset, .unset, .unset, .unset, .unset] [(.double (own_cell pp ee (0 : Int32) ii))]))
    refine Go.st (fun _ kt => XS.dstore X45.here hx rfl (hb hby at_196) rfl (l' := #[.val (.int pp), .val (.int en), .val (.int ia), .val (.int vr), .val (.int ee), .val (.int (0 : Int32)), .val (.int ii), .val (.int v0), .val (.int v1), .val (.ref b2), .val (.ref b21), .val (.ref b27), .val (.ref b34), .val (.double (own_cell pp ee (0 : Int32) ii)), .second, .unset, .unset, .unset]) rfl kt) ?_
    show Go p e below _ (T45.setTop (mkF m 198 #[.val (.int pp), .val (.int en), .val (.int ia), .val (.int vr), .val (.int ee), .val (.int (0 : Int32)), .val (.int ii), .val (.int v0), .val (.int v1), .val (.ref b2), .val (.ref b21), .val (.ref b27), .val (.ref b34), .val (.double (own_cell pp ee (0 : Int32) ii)), .second, .unset, .unset, .unset] []))
    refine Go.st (fun _ kt => XS.iconst X45.here hx rfl (hb hby at_198) kt) ?_
    show Go p e below _ (T45.setTop (mkF m 199 #[.val (.int pp), .val (.int en), .val (.int ia), .val (.int vr), .val (.int ee), .val (.int (0 : Int32)), .val (.int ii), .val (.int v0), .val (.int v1), .val (.ref b2), .val (.ref b21), .val (.ref b27), .val (.ref b34), .val (.double (own_cell pp ee (0 : Int32) ii)), .second, .unset, .unset, .unset] [(.int (4 : Int32))]))
    obtain ⟨T46, h46, k46, X46, e46, E46, A46, Y46, st46⟩ := newPE X45 hx hZ (hw _ (List.mem_of_getElem? (i := 6) rfl)) e45 (g := (mkF m 199 #[.val (.int pp), .val (.int en), .val (.int ia), .val (.int vr), .val (.int ee), .val (.int (0 : Int32)), .val (.int ii), .val (.int v0), .val (.int v1), .val (.ref b2), .val (.ref b21), .val (.ref b27), .val (.ref b34), .val (.double (own_cell pp ee (0 : Int32) ii)), .second, .unset, .unset, .unset] [(.int (4 : Int32))])) rfl (hb hby at_199) rfl (by decide) (cap := 4) (by decide) (by decide) (by decide) (by decide) (ad := "[I") (by decide)
    obtain ⟨b46, g46⟩ : ∃ z, z = T43.heap.size := ⟨_, rfl⟩
    rw [← g46] at A46 Y46 st46
    have f47 := (f44.keep K43q)
    have lt_b2_b46 : b2 < b46 := Nat.lt_of_lt_of_eq f47.lt g46.symm
    have f48 := (f41.keep K43q)
    have lt_b21_b46 : b21 < b46 := Nat.lt_of_lt_of_eq f48.lt g46.symm
    have f49 := (f42.keep K43q)
    have lt_b27_b46 : b27 < b46 := Nat.lt_of_lt_of_eq f49.lt g46.symm
    have f50 := (A34.keep K43q)
    have lt_b34_b46 : b34 < b46 := Nat.lt_of_lt_of_eq f50.lt g46.symm
    have lt_bv43_b46 : bv43 < b46 := Nat.lt_of_lt_of_eq G43_3.lt g46.symm
    have lt_br43_b46 : br43 < b46 := Nat.lt_of_lt_of_eq G43_4.lt g46.symm
    have gn_b46 : n0 ≤ b46 := Nat.le_trans Zs43 (Nat.le_of_eq g46.symm)
    have Zs46 : n0 ≤ h46.size := Nat.le_trans Zs43 E46.1
    refine Go.st st46 ?_
    have V46 : Arv Z h46 b46 k46 .int (4 : Int32) [(.int (0 : Int32)), (.int (0 : Int32)), (.int (0 : Int32)), (.int (0 : Int32))] (.int (0 : Int32)) := (Arv.new A46 (by decide)).pad (pad_rep [] (.int (0 : Int32)) 4)
    show Go p e below _ (T46.setTop (mkF m 201 #[.val (.int pp), .val (.int en), .val (.int ia), .val (.int vr), .val (.int ee), .val (.int (0 : Int32)), .val (.int ii), .val (.int v0), .val (.int v1), .val (.ref b2), .val (.ref b21), .val (.ref b27), .val (.ref b34), .val (.double (own_cell pp ee (0 : Int32) ii)), .second, .unset, .unset, .unset] [(.ref b46)]))
    refine Go.st (fun _ kt => XS.astore X46.here hx rfl (hb hby at_201) rfl rfl (l' := #[.val (.int pp), .val (.int en), .val (.int ia), .val (.int vr), .val (.int ee), .val (.int (0 : Int32)), .val (.int ii), .val (.int v0), .val (.int v1), .val (.ref b2), .val (.ref b21), .val (.ref b27), .val (.ref b34), .val (.double (own_cell pp ee (0 : Int32) ii)), .second, .val (.ref b46), .unset, .unset]) rfl kt) ?_
    show Go p e below _ (T46.setTop (mkF m 203 #[.val (.int pp), .val (.int en), .val (.int ia), .val (.int vr), .val (.int ee), .val (.int (0 : Int32)), .val (.int ii), .val (.int v0), .val (.int v1), .val (.ref b2), .val (.ref b21), .val (.ref b27), .val (.ref b34), .val (.double (own_cell pp ee (0 : Int32) ii)), .second, .val (.ref b46), .unset, .unset] []))
    refine Go.st (fun _ kt => XS.aload X46.here hx rfl (hb hby at_203) rfl rfl kt) ?_
    show Go p e below _ (T46.setTop (mkF m 205 #[.val (.int pp), .val (.int en), .val (.int ia), .val (.int vr), .val (.int ee), .val (.int (0 : Int32)), .val (.int ii), .val (.int v0), .val (.int v1), .val (.ref b2), .val (.ref b21), .val (.ref b27), .val (.ref b34), .val (.double (own_cell pp ee (0 : Int32) ii)), .second, .val (.ref b46), .unset, .unset] [(.ref b46)]))
    refine Go.st (fun _ kt => XS.iload X46.here hx rfl (hb hby at_205) rfl kt) ?_
    show Go p e below _ (T46.setTop (mkF m 207 #[.val (.int pp), .val (.int en), .val (.int ia), .val (.int vr), .val (.int ee), .val (.int (0 : Int32)), .val (.int ii), .val (.int v0), .val (.int v1), .val (.ref b2), .val (.ref b21), .val (.ref b27), .val (.ref b34), .val (.double (own_cell pp ee (0 : Int32) ii)), .second, .val (.ref b46), .unset, .unset] [(.int v0), (.ref b46)]))
    refine Go.st (fun _ kt => XS.iload X46.here hx rfl (hb hby at_207) rfl kt) ?_
    show Go p e below _ (T46.setTop (mkF m 209 #[.val (.int pp), .val (.int en), .val (.int ia), .val (.int vr), .val (.int ee), .val (.int (0 : Int32)), .val (.int ii), .val (.int v0), .val (.int v1), .val (.ref b2), .val (.ref b21), .val (.ref b27), .val (.ref b34), .val (.double (own_cell pp ee (0 : Int32) ii)), .second, .val (.ref b46), .unset, .unset] [(.int ee), (.int v0), (.ref b46)]))
    refine Go.st (fun _ kt => XS.iconst X46.here hx rfl (hb hby at_209) kt) ?_
    show Go p e below _ (T46.setTop (mkF m 210 #[.val (.int pp), .val (.int en), .val (.int ia), .val (.int vr), .val (.int ee), .val (.int (0 : Int32)), .val (.int ii), .val (.int v0), .val (.int v1), .val (.ref b2), .val (.ref b21), .val (.ref b27), .val (.ref b34), .val (.double (own_cell pp ee (0 : Int32) ii)), .second, .val (.ref b46), .unset, .unset] [(.int (3 : Int32)), (.int ee), (.int v0), (.ref b46)]))
    refine Go.st (fun _ kt => XS.idiv X46.here hx rfl (hb hby at_210) rfl (by decide) kt) ?_
    show Go p e below _ (T46.setTop (mkF m 211 #[.val (.int pp), .val (.int en), .val (.int ia), .val (.int vr), .val (.int ee), .val (.int (0 : Int32)), .val (.int ii), .val (.int v0), .val (.int v1), .val (.ref b2), .val (.ref b21), .val (.ref b27), .val (.ref b34), .val (.double (own_cell pp ee (0 : Int32) ii)), .second, .val (.ref b46), .unset, .unset] [(.int (ee / (3 : Int32))), (.int v0), (.ref b46)]))
    obtain ⟨cl51, Ar51, q51, S51, N51', H51, G51⟩ := id V46
    have hin51 : ¬ (v0 < 0 ∨ cl51.slots.size ≤ (v0).toNatClampNeg) := inb_of S51 hW.1
    obtain ⟨T52, h52, X52, e52, W52, st52⟩ := stI X46 hx hZ e46 Ar51 (j := v0) hin51 (g := (mkF m 211 #[.val (.int pp), .val (.int en), .val (.int ia), .val (.int vr), .val (.int ee), .val (.int (0 : Int32)), .val (.int ii), .val (.int v0), .val (.int v1), .val (.ref b2), .val (.ref b21), .val (.ref b27), .val (.ref b34), .val (.double (own_cell pp ee (0 : Int32) ii)), .second, .val (.ref b46), .unset, .unset] [(.int (ee / (3 : Int32))), (.int v0), (.ref b46)])) rfl rfl (hb hby at_211)
    refine Go.st st52 ?_
    have V52 : Arv Z h52 b46 k46 .int (4 : Int32) ([(.int (0 : Int32)), (.int (0 : Int32)), (.int (0 : Int32)), (.int (0 : Int32))].set v0.toNatClampNeg (.int (ee / (3 : Int32)))) (.int (0 : Int32)) := Arv.set Ar51 q51 S51 N51' H51 G51 rfl W52 _ rfl hW.2.2.2.2.1
    have Zs52 : n0 ≤ h52.size := Nat.le_trans Zs46 (Nat.le_of_eq W52.size.symm)
    have N52 := Fr.snoc X52 N45 gn_b46
    show Go p e below _ (T52.setTop (mkF m 212 #[.val (.int pp), .val (.int en), .val (.int ia), .val (.int vr), .val (.int ee), .val (.int (0 : Int32)), .val (.int ii), .val (.int v0), .val (.int v1), .val (.ref b2), .val (.ref b21), .val (.ref b27), .val (.ref b34), .val (.double (own_cell pp ee (0 : Int32) ii)), .second, .val (.ref b46), .unset, .unset] []))
    refine Go.st (fun _ kt => XS.aload X52.here hx rfl (hb hby at_212) rfl rfl kt) ?_
    show Go p e below _ (T52.setTop (mkF m 214 #[.val (.int pp), .val (.int en), .val (.int ia), .val (.int vr), .val (.int ee), .val (.int (0 : Int32)), .val (.int ii), .val (.int v0), .val (.int v1), .val (.ref b2), .val (.ref b21), .val (.ref b27), .val (.ref b34), .val (.double (own_cell pp ee (0 : Int32) ii)), .second, .val (.ref b46), .unset, .unset] [(.ref b46)]))
    refine Go.st (fun _ kt => XS.iload X52.here hx rfl (hb hby at_214) rfl kt) ?_
    show Go p e below _ (T52.setTop (mkF m 216 #[.val (.int pp), .val (.int en), .val (.int ia), .val (.int vr), .val (.int ee), .val (.int (0 : Int32)), .val (.int ii), .val (.int v0), .val (.int v1), .val (.ref b2), .val (.ref b21), .val (.ref b27), .val (.ref b34), .val (.double (own_cell pp ee (0 : Int32) ii)), .second, .val (.ref b46), .unset, .unset] [(.int v1), (.ref b46)]))
    refine Go.st (fun _ kt => XS.iload X52.here hx rfl (hb hby at_216) rfl kt) ?_
    show Go p e below _ (T52.setTop (mkF m 218 #[.val (.int pp), .val (.int en), .val (.int ia), .val (.int vr), .val (.int ee), .val (.int (0 : Int32)), .val (.int ii), .val (.int v0), .val (.int v1), .val (.ref b2), .val (.ref b21), .val (.ref b27), .val (.ref b34), .val (.double (own_cell pp ee (0 : Int32) ii)), .second, .val (.ref b46), .unset, .unset] [(.int ee), (.int v1), (.ref b46)]))
    refine Go.st (fun _ kt => XS.iconst X52.here hx rfl (hb hby at_218) kt) ?_
    show Go p e below _ (T52.setTop (mkF m 219 #[.val (.int pp), .val (.int en), .val (.int ia), .val (.int vr), .val (.int ee), .val (.int (0 : Int32)), .val (.int ii), .val (.int v0), .val (.int v1), .val (.ref b2), .val (.ref b21), .val (.ref b27), .val (.ref b34), .val (.double (own_cell pp ee (0 : Int32) ii)), .second, .val (.ref b46), .unset, .unset] [(.int (3 : Int32)), (.int ee), (.int v1), (.ref b46)]))
    refine Go.st (fun _ kt => iremM X52 hx rfl (hb hby at_219) rfl (by decide) kt) ?_
    show Go p e below _ (T52.setTop (mkF m 220 #[.val (.int pp), .val (.int en), .val (.int ia), .val (.int vr), .val (.int ee), .val (.int (0 : Int32)), .val (.int ii), .val (.int v0), .val (.int v1), .val (.ref b2), .val (.ref b21), .val (.ref b27), .val (.ref b34), .val (.double (own_cell pp ee (0 : Int32) ii)), .second, .val (.ref b46), .unset, .unset] [(.int (ee % (3 : Int32))), (.int v1), (.ref b46)]))
    obtain ⟨cl53, Ar53, q53, S53, N53', H53, G53⟩ := id V52
    have hin53 : ¬ (v1 < 0 ∨ cl53.slots.size ≤ (v1).toNatClampNeg) := inb_of S53 hW.2.1
    obtain ⟨T54, h54, X54, e54, W54, st54⟩ := stI X52 hx hZ e52 Ar53 (j := v1) hin53 (g := (mkF m 220 #[.val (.int pp), .val (.int en), .val (.int ia), .val (.int vr), .val (.int ee), .val (.int (0 : Int32)), .val (.int ii), .val (.int v0), .val (.int v1), .val (.ref b2), .val (.ref b21), .val (.ref b27), .val (.ref b34), .val (.double (own_cell pp ee (0 : Int32) ii)), .second, .val (.ref b46), .unset, .unset] [(.int (ee % (3 : Int32))), (.int v1), (.ref b46)])) rfl rfl (hb hby at_220)
    refine Go.st st54 ?_
    have V54 : Arv Z h54 b46 k46 .int (4 : Int32) (([(.int (0 : Int32)), (.int (0 : Int32)), (.int (0 : Int32)), (.int (0 : Int32))].set v0.toNatClampNeg (.int (ee / (3 : Int32)))).set v1.toNatClampNeg (.int (ee % (3 : Int32)))) (.int (0 : Int32)) := Arv.set Ar53 q53 S53 N53' H53 G53 rfl W54 _ rfl (by rw [List.length_set]; exact hW.2.2.2.2.2)
    have Zs54 : n0 ≤ h54.size := Nat.le_trans Zs52 (Nat.le_of_eq W54.size.symm)
    have N54 := Fr.snoc X54 N52 gn_b46
    show Go p e below _ (T54.setTop (mkF m 221 #[.val (.int pp), .val (.int en), .val (.int ia), .val (.int vr), .val (.int ee), .val (.int (0 : Int32)), .val (.int ii), .val (.int v0), .val (.int v1), .val (.ref b2), .val (.ref b21), .val (.ref b27), .val (.ref b34), .val (.double (own_cell pp ee (0 : Int32) ii)), .second, .val (.ref b46), .unset, .unset] []))
    refine Go.st (fun _ kt => XS.aload X54.here hx rfl (hb hby at_221) rfl rfl kt) ?_
    show Go p e below _ (T54.setTop (mkF m 223 #[.val (.int pp), .val (.int en), .val (.int ia), .val (.int vr), .val (.int ee), .val (.int (0 : Int32)), .val (.int ii), .val (.int v0), .val (.int v1), .val (.ref b2), .val (.ref b21), .val (.ref b27), .val (.ref b34), .val (.double (own_cell pp ee (0 : Int32) ii)), .second, .val (.ref b46), .unset, .unset] [(.ref b34)]))
    refine Go.st (fun _ kt => XS.iload X54.here hx rfl (hb hby at_223) rfl kt) ?_
    show Go p e below _ (T54.setTop (mkF m 225 #[.val (.int pp), .val (.int en), .val (.int ia), .val (.int vr), .val (.int ee), .val (.int (0 : Int32)), .val (.int ii), .val (.int v0), .val (.int v1), .val (.ref b2), .val (.ref b21), .val (.ref b27), .val (.ref b34), .val (.double (own_cell pp ee (0 : Int32) ii)), .second, .val (.ref b46), .unset, .unset] [(.int ee), (.ref b34)]))
    have f55 := (((G43_2.ext E46).other W52 (Or.inl (Nat.ne_of_lt lt_b34_b46))).other W54 (Or.inl (Nat.ne_of_lt lt_b34_b46)))
    have f56 := ((((f40.keep K43q (ninS (Nat.ne_of_lt lt_b2_b34) nin0)).ext E46).other W52 (Nat.ne_of_lt lt_b2_b46)).other W54 (Nat.ne_of_lt lt_b2_b46))
    have f58 := (((f50.ext E46).wr W52).wr W54)
    obtain ⟨cq57, kq57, q57a, q57b, q57c⟩ := isOf hZ e54 f58
    obtain ⟨_, _, ⟨T57, L57, k57, n57⟩, -, X57, ⟨Lc57, hQ57, l57, y57, z57⟩, st57⟩ := X54.virtualBack hx (y := (⟨"com/example/tributary/tributary/model/CostTable", "cost", "(I)D"⟩ : MethodName)) (z := (⟨"com/example/tributary/tributary/model/CostTable", "cost", "(I)D"⟩ : MethodName)) hown (mvT hZ (hw _ (List.mem_of_getElem? (i := 40) rfl))) (mvT hZ (hw _ (List.mem_of_getElem? (i := 41) rfl))) (notFace_of_selects (args := #[]) (mvT hZ (hw _ (List.mem_of_getElem? (i := 43) rfl)))) (mvT hZ (hw _ (List.mem_of_getElem? (i := 43) rfl))) (mvT hZ (hw _ (List.mem_of_getElem? (i := 42) rfl))) (by decide) (backOf (W := 0) (rm6 l Z a0 hw [] b34 ee b2 k2 [(.double (own_cell pp (0 : Int32) (0 : Int32) ii)), (.double (own_cell pp (1 : Int32) (0 : Int32) ii)), (.double (own_cell pp (2 : Int32) (0 : Int32) ii)), (.double (own_cell pp (3 : Int32) (0 : Int32) ii)), (.double (own_cell pp (4 : Int32) (0 : Int32) ii)), (.double (own_cell pp (5 : Int32) (0 : Int32) ii))] (own_cell pp ee (0 : Int32) ii) h54 n0 Zs54 f55 f56 (own_in6 hE) (own_at6 hE pp (0 : Int32) ii)) hZ (hw _ (List.mem_of_getElem? (i := 44) rfl)) (hw _ (List.mem_of_getElem? (i := 9) rfl)) (by decide) (by decide)) q57a q57c (g := (mkF m 225 #[.val (.int pp), .val (.int en), .val (.int ia), .val (.int vr), .val (.int ee), .val (.int (0 : Int32)), .val (.int ii), .val (.int v0), .val (.int v1), .val (.ref b2), .val (.ref b21), .val (.ref b27), .val (.ref b34), .val (.double (own_cell pp ee (0 : Int32) ii)), .second, .val (.ref b46), .unset, .unset] [(.int ee), (.ref b34)])) rfl (by rw [hml]; rfl) (Steps.refl _) (argsL := [(.int ee)]) (rest := []) (lenOf own_pd6 rfl) rfl (by show 2 * 0 + _ ≤ _; exact Nat.le_of_eq rfl) (hb hby at_225) (fun _ _ => ⟨rfl, e54, (by decide : 8 + 0 ≤ _), (by decide : 24 + 0 ≤ _)⟩)
    dsimp only [Pt.U, Pt.locs, Pt.cells, Pt.slots] at X57 l57 y57 z57 st57 hQ57
    subst l57 y57 z57
    obtain ⟨rfl, N57q, e57⟩ := hQ57
    have N57 := Fr.app N54 N57q
    refine Go.tr st57 ?_
    show Go p e below _ (T57.setTop (mkF m 228 #[.val (.int pp), .val (.int en), .val (.int ia), .val (.int vr), .val (.int ee), .val (.int (0 : Int32)), .val (.int ii), .val (.int v0), .val (.int v1), .val (.ref b2), .val (.ref b21), .val (.ref b27), .val (.ref b34), .val (.double (own_cell pp ee (0 : Int32) ii)), .second, .val (.ref b46), .unset, .unset] [(.double (own_cell pp ee (0 : Int32) ii))]))
    refine Go.st (fun _ kt => XS.dstore X57.here hx rfl (hb hby at_228) rfl (l' := #[.val (.int pp), .val (.int en), .val (.int ia), .val (.int vr), .val (.int ee), .val (.int (0 : Int32)), .val (.int ii), .val (.int v0), .val (.int v1), .val (.ref b2), .val (.ref b21), .val (.ref b27), .val (.ref b34), .val (.double (own_cell pp ee (0 : Int32) ii)), .second, .val (.ref b46), .val (.double (own_cell pp ee (0 : Int32) ii)), .second]) rfl kt) ?_
    show Go p e below _ (T57.setTop (mkF m 230 #[.val (.int pp), .val (.int en), .val (.int ia), .val (.int vr), .val (.int ee), .val (.int (0 : Int32)), .val (.int ii), .val (.int v0), .val (.int v1), .val (.ref b2), .val (.ref b21), .val (.ref b27), .val (.ref b34), .val (.double (own_cell pp ee (0 : Int32) ii)), .second, .val (.ref b46), .val (.double (own_cell pp ee (0 : Int32) ii)), .second] []))
    refine Go.st (fun _ kt => XS.dload X57.here hx rfl (hb hby at_230) rfl kt) ?_
    show Go p e below _ (T57.setTop (mkF m 232 #[.val (.int pp), .val (.int en), .val (.int ia), .val (.int vr), .val (.int ee), .val (.int (0 : Int32)), .val (.int ii), .val (.int v0), .val (.int v1), .val (.ref b2), .val (.ref b21), .val (.ref b27), .val (.ref b34), .val (.double (own_cell pp ee (0 : Int32) ii)), .second, .val (.ref b46), .val (.double (own_cell pp ee (0 : Int32) ii)), .second] [(.double (own_cell pp ee (0 : Int32) ii))]))
    refine Go.st (fun _ kt => XS.dload X57.here hx rfl (hb hby at_232) rfl kt) ?_
    show Go p e below _ (T57.setTop (mkF m 234 #[.val (.int pp), .val (.int en), .val (.int ia), .val (.int vr), .val (.int ee), .val (.int (0 : Int32)), .val (.int ii), .val (.int v0), .val (.int v1), .val (.ref b2), .val (.ref b21), .val (.ref b27), .val (.ref b34), .val (.double (own_cell pp ee (0 : Int32) ii)), .second, .val (.ref b46), .val (.double (own_cell pp ee (0 : Int32) ii)), .second] [(.double (own_cell pp ee (0 : Int32) ii)), (.double (own_cell pp ee (0 : Int32) ii))]))
    refine Go.st (fun _ kt => XS.dcmpS X57.here hx rfl (hb hby at_234) rfl (dcmpV_self (own_nn pp ee (0 : Int32) ii) .l) kt) ?_
    show Go p e below _ (T57.setTop (mkF m 235 #[.val (.int pp), .val (.int en), .val (.int ia), .val (.int vr), .val (.int ee), .val (.int (0 : Int32)), .val (.int ii), .val (.int v0), .val (.int v1), .val (.ref b2), .val (.ref b21), .val (.ref b27), .val (.ref b34), .val (.double (own_cell pp ee (0 : Int32) ii)), .second, .val (.ref b46), .val (.double (own_cell pp ee (0 : Int32) ii)), .second] [(.int (0 : Int32))]))
    refine Go.st (fun _ kt => XS.ifNo X57.here hx rfl (hb hby at_235) rfl ((if0 _ _).trans (teq (by decide : (0 : Int32) = (0 : Int32))).2) kt) ?_
    show Go p e below _ (T57.setTop (mkF m 238 #[.val (.int pp), .val (.int en), .val (.int ia), .val (.int vr), .val (.int ee), .val (.int (0 : Int32)), .val (.int ii), .val (.int v0), .val (.int v1), .val (.ref b2), .val (.ref b21), .val (.ref b27), .val (.ref b34), .val (.double (own_cell pp ee (0 : Int32) ii)), .second, .val (.ref b46), .val (.double (own_cell pp ee (0 : Int32) ii)), .second] []))
    refine Go.st (fun _ kt => XS.aload X57.here hx rfl (hb hby at_238) rfl rfl kt) ?_
    show Go p e below _ (T57.setTop (mkF m 240 #[.val (.int pp), .val (.int en), .val (.int ia), .val (.int vr), .val (.int ee), .val (.int (0 : Int32)), .val (.int ii), .val (.int v0), .val (.int v1), .val (.ref b2), .val (.ref b21), .val (.ref b27), .val (.ref b34), .val (.double (own_cell pp ee (0 : Int32) ii)), .second, .val (.ref b46), .val (.double (own_cell pp ee (0 : Int32) ii)), .second] [(.ref b34)]))
    refine Go.st (fun _ kt => XS.aload X57.here hx rfl (hb hby at_240) rfl rfl kt) ?_
    show Go p e below _ (T57.setTop (mkF m 242 #[.val (.int pp), .val (.int en), .val (.int ia), .val (.int vr), .val (.int ee), .val (.int (0 : Int32)), .val (.int ii), .val (.int v0), .val (.int v1), .val (.ref b2), .val (.ref b21), .val (.ref b27), .val (.ref b34), .val (.double (own_cell pp ee (0 : Int32) ii)), .second, .val (.ref b46), .val (.double (own_cell pp ee (0 : Int32) ii)), .second] [(.ref b46), (.ref b34)]))
    have f59 := (((G43_0.ext E46).other W52 (Or.inl (Nat.ne_of_lt lt_b34_b46))).other W54 (Or.inl (Nat.ne_of_lt lt_b34_b46)))
    have f60 := (((G43_1.ext E46).other W52 (Or.inl (Nat.ne_of_lt lt_b34_b46))).other W54 (Or.inl (Nat.ne_of_lt lt_b34_b46)))
    have f61 := (((G43_3.ext E46).other W52 (Nat.ne_of_lt lt_bv43_b46)).other W54 (Nat.ne_of_lt lt_bv43_b46))
    have f62 := (((G43_4.ext E46).other W52 (Nat.ne_of_lt lt_br43_b46)).other W54 (Nat.ne_of_lt lt_br43_b46))
    obtain ⟨cq63, kq63, q63a, q63b, q63c⟩ := isOf hZ e57 f58
    obtain ⟨_, _, ⟨T63, L63, k63, n63⟩, -, X63, ⟨Lc63, hQ63, l63, y63, z63⟩, st63⟩ := X57.virtualBack hx (y := (⟨"com/example/tributary/tributary/model/CostTable", "cost", "([I)D"⟩ : MethodName)) (z := (⟨"com/example/tributary/tributary/model/CostTable", "cost", "([I)D"⟩ : MethodName)) hown (mvT hZ (hw _ (List.mem_of_getElem? (i := 45) rfl))) (mvT hZ (hw _ (List.mem_of_getElem? (i := 46) rfl))) (notFace_of_selects (args := #[]) (mvT hZ (hw _ (List.mem_of_getElem? (i := 48) rfl)))) (mvT hZ (hw _ (List.mem_of_getElem? (i := 48) rfl))) (mvT hZ (hw _ (List.mem_of_getElem? (i := 47) rfl))) (by decide) (backOf (W := 0) (rm7 l Z a0 hw [] b34 b46 bv43 kv43 br43 kr43 b2 k2 k46 [(.double (own_cell pp (0 : Int32) (0 : Int32) ii)), (.double (own_cell pp (1 : Int32) (0 : Int32) ii)), (.double (own_cell pp (2 : Int32) (0 : Int32) ii)), (.double (own_cell pp (3 : Int32) (0 : Int32) ii)), (.double (own_cell pp (4 : Int32) (0 : Int32) ii)), (.double (own_cell pp (5 : Int32) (0 : Int32) ii))] (([(.int (0 : Int32)), (.int (0 : Int32)), (.int (0 : Int32)), (.int (0 : Int32))].set v0.toNatClampNeg (.int (ee / (3 : Int32)))).set v1.toNatClampNeg (.int (ee % (3 : Int32)))) v0 v1 (ee / (3 : Int32)) (ee % (3 : Int32)) ee (own_cell pp ee (0 : Int32) ii) h54 n0 Zs54 f59 f60 f55 f61 f62 f56 V54 hW.1 hW.2.1 (hW.2.2.2.1 _ _).1 (hW.2.2.2.1 _ _).2 (own_idx hE) (own_in6 hE) (own_at6 hE pp (0 : Int32) ii)) hZ (hw _ (List.mem_of_getElem? (i := 49) rfl)) (hw _ (List.mem_of_getElem? (i := 9) rfl)) (by decide) (by decide)) q63a q63c (g := (mkF m 242 #[.val (.int pp), .val (.int en), .val (.int ia), .val (.int vr), .val (.int ee), .val (.int (0 : Int32)), .val (.int ii), .val (.int v0), .val (.int v1), .val (.ref b2), .val (.ref b21), .val (.ref b27), .val (.ref b34), .val (.double (own_cell pp ee (0 : Int32) ii)), .second, .val (.ref b46), .val (.double (own_cell pp ee (0 : Int32) ii)), .second] [(.ref b46), (.ref b34)])) rfl (by rw [hml]; rfl) (Steps.refl _) (argsL := [(.ref b46)]) (rest := []) (lenOf own_pd7 rfl) rfl (by show 2 * 0 + _ ≤ _; exact Nat.le_of_eq rfl) (hb hby at_242) (fun _ _ => ⟨rfl, e57, (by decide : 8 + 0 ≤ _), (by decide : 24 + 0 ≤ _)⟩)
    dsimp only [Pt.U, Pt.locs, Pt.cells, Pt.slots] at X63 l63 y63 z63 st63 hQ63
    subst l63 y63 z63
    obtain ⟨rfl, N63q, e63⟩ := hQ63
    have N63 := Fr.app N57 N63q
    refine Go.tr st63 ?_
    show Go p e below _ (T63.setTop (mkF m 245 #[.val (.int pp), .val (.int en), .val (.int ia), .val (.int vr), .val (.int ee), .val (.int (0 : Int32)), .val (.int ii), .val (.int v0), .val (.int v1), .val (.ref b2), .val (.ref b21), .val (.ref b27), .val (.ref b34), .val (.double (own_cell pp ee (0 : Int32) ii)), .second, .val (.ref b46), .val (.double (own_cell pp ee (0 : Int32) ii)), .second] [(.double (own_cell pp ee (0 : Int32) ii))]))
    refine Go.st (fun _ kt => XS.dload X63.here hx rfl (hb hby at_245) rfl kt) ?_
    show Go p e below _ (T63.setTop (mkF m 247 #[.val (.int pp), .val (.int en), .val (.int ia), .val (.int vr), .val (.int ee), .val (.int (0 : Int32)), .val (.int ii), .val (.int v0), .val (.int v1), .val (.ref b2), .val (.ref b21), .val (.ref b27), .val (.ref b34), .val (.double (own_cell pp ee (0 : Int32) ii)), .second, .val (.ref b46), .val (.double (own_cell pp ee (0 : Int32) ii)), .second] [(.double (own_cell pp ee (0 : Int32) ii)), (.double (own_cell pp ee (0 : Int32) ii))]))
    refine Go.st (fun _ kt => XS.dcmpS X63.here hx rfl (hb hby at_247) rfl (dcmpV_self (own_nn pp ee (0 : Int32) ii) .l) kt) ?_
    show Go p e below _ (T63.setTop (mkF m 248 #[.val (.int pp), .val (.int en), .val (.int ia), .val (.int vr), .val (.int ee), .val (.int (0 : Int32)), .val (.int ii), .val (.int v0), .val (.int v1), .val (.ref b2), .val (.ref b21), .val (.ref b27), .val (.ref b34), .val (.double (own_cell pp ee (0 : Int32) ii)), .second, .val (.ref b46), .val (.double (own_cell pp ee (0 : Int32) ii)), .second] [(.int (0 : Int32))]))
    refine Go.st (fun _ kt => XS.ifNo X63.here hx rfl (hb hby at_248) rfl ((if0 _ _).trans (teq (by decide : (0 : Int32) = (0 : Int32))).2) kt) ?_
    show Go p e below _ (T63.setTop (mkF m 251 #[.val (.int pp), .val (.int en), .val (.int ia), .val (.int vr), .val (.int ee), .val (.int (0 : Int32)), .val (.int ii), .val (.int v0), .val (.int v1), .val (.ref b2), .val (.ref b21), .val (.ref b27), .val (.ref b34), .val (.double (own_cell pp ee (0 : Int32) ii)), .second, .val (.ref b46), .val (.double (own_cell pp ee (0 : Int32) ii)), .second] []))
    refine Go.st (fun _ kt => XS.iconst X63.here hx rfl (hb hby at_251) kt) ?_
    show Go p e below _ (T63.setTop (mkF m 252 #[.val (.int pp), .val (.int en), .val (.int ia), .val (.int vr), .val (.int ee), .val (.int (0 : Int32)), .val (.int ii), .val (.int v0), .val (.int v1), .val (.ref b2), .val (.ref b21), .val (.ref b27), .val (.ref b34), .val (.double (own_cell pp ee (0 : Int32) ii)), .second, .val (.ref b46), .val (.double (own_cell pp ee (0 : Int32) ii)), .second] [(.int (1 : Int32))]))
    refine Go.st (fun _ kt => XS.goto X63.here hx rfl (pc0 := 252) (pc' := 256) rfl (hb hby at_252) (by decide) (by decide) kt) ?_
    show Go p e below _ (T63.setTop (mkF m 256 #[.val (.int pp), .val (.int en), .val (.int ia), .val (.int vr), .val (.int ee), .val (.int (0 : Int32)), .val (.int ii), .val (.int v0), .val (.int v1), .val (.ref b2), .val (.ref b21), .val (.ref b27), .val (.ref b34), .val (.double (own_cell pp ee (0 : Int32) ii)), .second, .val (.ref b46), .val (.double (own_cell pp ee (0 : Int32) ii)), .second] [(.int (1 : Int32))]))
    refine Go.retN X63 hx (t := .boolean) Bd.returns (by simp) (BodyLoose.notSynchronized Bd) (hb hby at_256) (Q := (Q_rm0 Z pp en ia vr h0 n0)) (by decide) (by decide) ?_
    show (Q_rm0 Z pp en ia vr h0 n0) _ T63.heap _
    rw [e63]
    exact ⟨rfl, N63⟩
  · refine Go.st (fun _ kt => XS.ifNo X0.here hx rfl (hb hby at_12) rfl ((if0 _ _).trans (feq hc12_1).1) kt) ?_
    show Go p e below _ (s₁.setTop (mkF m 15 #[.val (.int pp), .val (.int en), .val (.int ia), .val (.int vr), .val (.int ee), .unset, .unset, .unset, .unset, .unset, .unset, .unset, .unset, .unset, .unset, .unset, .unset, .unset] []))
    refine Go.st (fun _ kt => XS.iconst X0.here hx rfl (hb hby at_15) kt) ?_
    show Go p e below _ (s₁.setTop (mkF m 16 #[.val (.int pp), .val (.int en), .val (.int ia), .val (.int vr), .val (.int ee), .unset, .unset, .unset, .unset, .unset, .unset, .unset, .unset, .unset, .unset, .unset, .unset, .unset] [(.int (1 : Int32))]))
    refine Go.st (fun _ kt => XS.goto X0.here hx rfl (pc0 := 16) (pc' := 20) rfl (hb hby at_16) (by decide) (by decide) kt) ?_
    show Go p e below _ (s₁.setTop (mkF m 20 #[.val (.int pp), .val (.int en), .val (.int ia), .val (.int vr), .val (.int ee), .unset, .unset, .unset, .unset, .unset, .unset, .unset, .unset, .unset, .unset, .unset, .unset, .unset] [(.int (1 : Int32))]))
    refine Go.st (fun _ kt => XS.istore X0.here hx rfl (hb hby at_20) rfl (l' := #[.val (.int pp), .val (.int en), .val (.int ia), .val (.int vr), .val (.int ee), .val (.int (1 : Int32)), .unset, .unset, .unset, .unset, .unset, .unset, .unset, .unset, .unset, .unset, .unset, .unset]) rfl kt) ?_
    show Go p e below _ (s₁.setTop (mkF m 22 #[.val (.int pp), .val (.int en), .val (.int ia), .val (.int vr), .val (.int ee), .val (.int (1 : Int32)), .unset, .unset, .unset, .unset, .unset, .unset, .unset, .unset, .unset, .unset, .unset, .unset] []))
    refine Go.st (fun _ kt => XS.iloadN X0.here hx rfl (hb hby at_22) rfl kt) ?_
    show Go p e below _ (s₁.setTop (mkF m 23 #[.val (.int pp), .val (.int en), .val (.int ia), .val (.int vr), .val (.int ee), .val (.int (1 : Int32)), .unset, .unset, .unset, .unset, .unset, .unset, .unset, .unset, .unset, .unset, .unset, .unset] [(.int ia)]))
    refine Go.st (fun _ kt => XS.iconst X0.here hx rfl (hb hby at_23) kt) ?_
    show Go p e below _ (s₁.setTop (mkF m 24 #[.val (.int pp), .val (.int en), .val (.int ia), .val (.int vr), .val (.int ee), .val (.int (1 : Int32)), .unset, .unset, .unset, .unset, .unset, .unset, .unset, .unset, .unset, .unset, .unset, .unset] [(.int (1 : Int32)), (.int ia)]))
    refine Go.st (fun _ kt => XS.iushr X0.here hx rfl (hb hby at_24) rfl kt) ?_
    show Go p e below _ (s₁.setTop (mkF m 25 #[.val (.int pp), .val (.int en), .val (.int ia), .val (.int vr), .val (.int ee), .val (.int (1 : Int32)), .unset, .unset, .unset, .unset, .unset, .unset, .unset, .unset, .unset, .unset, .unset, .unset] [(.int ((ia.toUInt32 >>> ((1 : Int32) &&& 31).toUInt32).toInt32))]))
    refine Go.st (fun _ kt => X0.ldcInt hx hown (mvT hZ (hw _ (List.mem_of_getElem? (i := 0) rfl))) (g := (mkF m 25 #[.val (.int pp), .val (.int en), .val (.int ia), .val (.int vr), .val (.int ee), .val (.int (1 : Int32)), .unset, .unset, .unset, .unset, .unset, .unset, .unset, .unset, .unset, .unset, .unset, .unset] [(.int ((ia.toUInt32 >>> ((1 : Int32) &&& 31).toUInt32).toInt32))])) rfl (hb hby at_25) _ kt) ?_
    show Go p e below _ (s₁.setTop (mkF m 27 #[.val (.int pp), .val (.int en), .val (.int ia), .val (.int vr), .val (.int ee), .val (.int (1 : Int32)), .unset, .unset, .unset, .unset, .unset, .unset, .unset, .unset, .unset, .unset, .unset, .unset] [(.int (2147483647 : Int32)), (.int ((ia.toUInt32 >>> ((1 : Int32) &&& 31).toUInt32).toInt32))]))
    refine Go.st (fun _ kt => XS.iand X0.here hx rfl (hb hby at_27) rfl kt) ?_
    show Go p e below _ (s₁.setTop (mkF m 28 #[.val (.int pp), .val (.int en), .val (.int ia), .val (.int vr), .val (.int ee), .val (.int (1 : Int32)), .unset, .unset, .unset, .unset, .unset, .unset, .unset, .unset, .unset, .unset, .unset, .unset] [(.int (((ia.toUInt32 >>> ((1 : Int32) &&& 31).toUInt32).toInt32) &&& (2147483647 : Int32)))]))
    refine Go.st (fun _ kt => XS.bipush X0.here hx rfl (hb hby at_28) kt) ?_
    show Go p e below _ (s₁.setTop (mkF m 30 #[.val (.int pp), .val (.int en), .val (.int ia), .val (.int vr), .val (.int ee), .val (.int (1 : Int32)), .unset, .unset, .unset, .unset, .unset, .unset, .unset, .unset, .unset, .unset, .unset, .unset] [(.int (6 : Int32)), (.int (((ia.toUInt32 >>> ((1 : Int32) &&& 31).toUInt32).toInt32) &&& (2147483647 : Int32)))]))
    refine Go.st (fun _ kt => iremM X0 hx rfl (hb hby at_30) rfl (by decide) kt) ?_
    show Go p e below _ (s₁.setTop (mkF m 31 #[.val (.int pp), .val (.int en), .val (.int ia), .val (.int vr), .val (.int ee), .val (.int (1 : Int32)), .unset, .unset, .unset, .unset, .unset, .unset, .unset, .unset, .unset, .unset, .unset, .unset] [(.int ((((ia.toUInt32 >>> ((1 : Int32) &&& 31).toUInt32).toInt32) &&& (2147483647 : Int32)) % (6 : Int32)))]))
    generalize hii : (((((ia.toUInt32 >>> ((1 : Int32) &&& 31).toUInt32).toInt32) &&& (2147483647 : Int32)) % (6 : Int32)) : Int32) = ii
    show Go p e below _ (s₁.setTop (mkF m 31 #[.val (.int pp), .val (.int en), .val (.int ia), .val (.int vr), .val (.int ee), .val (.int (1 : Int32)), .unset, .unset, .unset, .unset, .unset, .unset, .unset, .unset, .unset, .unset, .unset, .unset] [(.int ii)]))
    refine Go.st (fun _ kt => XS.istore X0.here hx rfl (hb hby at_31) rfl (l' := #[.val (.int pp), .val (.int en), .val (.int ia), .val (.int vr), .val (.int ee), .val (.int (1 : Int32)), .val (.int ii), .unset, .unset, .unset, .unset, .unset, .unset, .unset, .unset, .unset, .unset, .unset]) rfl kt) ?_
    show Go p e below _ (s₁.setTop (mkF m 33 #[.val (.int pp), .val (.int en), .val (.int ia), .val (.int vr), .val (.int ee), .val (.int (1 : Int32)), .val (.int ii), .unset, .unset, .unset, .unset, .unset, .unset, .unset, .unset, .unset, .unset, .unset] []))
    refine Go.st (fun _ kt => XS.iloadN X0.here hx rfl (hb hby at_33) rfl kt) ?_
    show Go p e below _ (s₁.setTop (mkF m 34 #[.val (.int pp), .val (.int en), .val (.int ia), .val (.int vr), .val (.int ee), .val (.int (1 : Int32)), .val (.int ii), .unset, .unset, .unset, .unset, .unset, .unset, .unset, .unset, .unset, .unset, .unset] [(.int vr)]))
    refine Go.st (fun _ kt => XS.iconst X0.here hx rfl (hb hby at_34) kt) ?_
    show Go p e below _ (s₁.setTop (mkF m 35 #[.val (.int pp), .val (.int en), .val (.int ia), .val (.int vr), .val (.int ee), .val (.int (1 : Int32)), .val (.int ii), .unset, .unset, .unset, .unset, .unset, .unset, .unset, .unset, .unset, .unset, .unset] [(.int (3 : Int32)), (.int vr)]))
    refine Go.st (fun _ kt => XS.iand X0.here hx rfl (hb hby at_35) rfl kt) ?_
    show Go p e below _ (s₁.setTop (mkF m 36 #[.val (.int pp), .val (.int en), .val (.int ia), .val (.int vr), .val (.int ee), .val (.int (1 : Int32)), .val (.int ii), .unset, .unset, .unset, .unset, .unset, .unset, .unset, .unset, .unset, .unset, .unset] [(.int (vr &&& (3 : Int32)))]))
    generalize hv0 : ((vr &&& (3 : Int32)) : Int32) = v0
    show Go p e below _ (s₁.setTop (mkF m 36 #[.val (.int pp), .val (.int en), .val (.int ia), .val (.int vr), .val (.int ee), .val (.int (1 : Int32)), .val (.int ii), .unset, .unset, .unset, .unset, .unset, .unset, .unset, .unset, .unset, .unset, .unset] [(.int v0)]))
    rw [hv0] at hW
    refine Go.st (fun _ kt => XS.istore X0.here hx rfl (hb hby at_36) rfl (l' := #[.val (.int pp), .val (.int en), .val (.int ia), .val (.int vr), .val (.int ee), .val (.int (1 : Int32)), .val (.int ii), .val (.int v0), .unset, .unset, .unset, .unset, .unset, .unset, .unset, .unset, .unset, .unset]) rfl kt) ?_
    show Go p e below _ (s₁.setTop (mkF m 38 #[.val (.int pp), .val (.int en), .val (.int ia), .val (.int vr), .val (.int ee), .val (.int (1 : Int32)), .val (.int ii), .val (.int v0), .unset, .unset, .unset, .unset, .unset, .unset, .unset, .unset, .unset, .unset] []))
    refine Go.st (fun _ kt => XS.iload X0.here hx rfl (hb hby at_38) rfl kt) ?_
    show Go p e below _ (s₁.setTop (mkF m 40 #[.val (.int pp), .val (.int en), .val (.int ia), .val (.int vr), .val (.int ee), .val (.int (1 : Int32)), .val (.int ii), .val (.int v0), .unset, .unset, .unset, .unset, .unset, .unset, .unset, .unset, .unset, .unset] [(.int v0)]))
    refine Go.st (fun _ kt => XS.iconst X0.here hx rfl (hb hby at_40) kt) ?_
    show Go p e below _ (s₁.setTop (mkF m 41 #[.val (.int pp), .val (.int en), .val (.int ia), .val (.int vr), .val (.int ee), .val (.int (1 : Int32)), .val (.int ii), .val (.int v0), .unset, .unset, .unset, .unset, .unset, .unset, .unset, .unset, .unset, .unset] [(.int (1 : Int32)), (.int v0)]))
    refine Go.st (fun _ kt => XS.iadd X0.here hx rfl (hb hby at_41) rfl kt) ?_
    show Go p e below _ (s₁.setTop (mkF m 42 #[.val (.int pp), .val (.int en), .val (.int ia), .val (.int vr), .val (.int ee), .val (.int (1 : Int32)), .val (.int ii), .val (.int v0), .unset, .unset, .unset, .unset, .unset, .unset, .unset, .unset, .unset, .unset] [(.int (v0 + (1 : Int32)))]))
    refine Go.st (fun _ kt => XS.iloadN X0.here hx rfl (hb hby at_42) rfl kt) ?_
    show Go p e below _ (s₁.setTop (mkF m 43 #[.val (.int pp), .val (.int en), .val (.int ia), .val (.int vr), .val (.int ee), .val (.int (1 : Int32)), .val (.int ii), .val (.int v0), .unset, .unset, .unset, .unset, .unset, .unset, .unset, .unset, .unset, .unset] [(.int vr), (.int (v0 + (1 : Int32)))]))
    refine Go.st (fun _ kt => XS.iconst X0.here hx rfl (hb hby at_43) kt) ?_
    show Go p e below _ (s₁.setTop (mkF m 44 #[.val (.int pp), .val (.int en), .val (.int ia), .val (.int vr), .val (.int ee), .val (.int (1 : Int32)), .val (.int ii), .val (.int v0), .unset, .unset, .unset, .unset, .unset, .unset, .unset, .unset, .unset, .unset] [(.int (2 : Int32)), (.int vr), (.int (v0 + (1 : Int32)))]))
    refine Go.st (fun _ kt => XS.iushr X0.here hx rfl (hb hby at_44) rfl kt) ?_
    show Go p e below _ (s₁.setTop (mkF m 45 #[.val (.int pp), .val (.int en), .val (.int ia), .val (.int vr), .val (.int ee), .val (.int (1 : Int32)), .val (.int ii), .val (.int v0), .unset, .unset, .unset, .unset, .unset, .unset, .unset, .unset, .unset, .unset] [(.int ((vr.toUInt32 >>> ((2 : Int32) &&& 31).toUInt32).toInt32)), (.int (v0 + (1 : Int32)))]))
    refine Go.st (fun _ kt => X0.ldcInt hx hown (mvT hZ (hw _ (List.mem_of_getElem? (i := 0) rfl))) (g := (mkF m 45 #[.val (.int pp), .val (.int en), .val (.int ia), .val (.int vr), .val (.int ee), .val (.int (1 : Int32)), .val (.int ii), .val (.int v0), .unset, .unset, .unset, .unset, .unset, .unset, .unset, .unset, .unset, .unset] [(.int ((vr.toUInt32 >>> ((2 : Int32) &&& 31).toUInt32).toInt32)), (.int (v0 + (1 : Int32)))])) rfl (hb hby at_45) _ kt) ?_
    show Go p e below _ (s₁.setTop (mkF m 47 #[.val (.int pp), .val (.int en), .val (.int ia), .val (.int vr), .val (.int ee), .val (.int (1 : Int32)), .val (.int ii), .val (.int v0), .unset, .unset, .unset, .unset, .unset, .unset, .unset, .unset, .unset, .unset] [(.int (2147483647 : Int32)), (.int ((vr.toUInt32 >>> ((2 : Int32) &&& 31).toUInt32).toInt32)), (.int (v0 + (1 : Int32)))]))
    refine Go.st (fun _ kt => XS.iand X0.here hx rfl (hb hby at_47) rfl kt) ?_
    show Go p e below _ (s₁.setTop (mkF m 48 #[.val (.int pp), .val (.int en), .val (.int ia), .val (.int vr), .val (.int ee), .val (.int (1 : Int32)), .val (.int ii), .val (.int v0), .unset, .unset, .unset, .unset, .unset, .unset, .unset, .unset, .unset, .unset] [(.int (((vr.toUInt32 >>> ((2 : Int32) &&& 31).toUInt32).toInt32) &&& (2147483647 : Int32))), (.int (v0 + (1 : Int32)))]))
    refine Go.st (fun _ kt => XS.iconst X0.here hx rfl (hb hby at_48) kt) ?_
    show Go p e below _ (s₁.setTop (mkF m 49 #[.val (.int pp), .val (.int en), .val (.int ia), .val (.int vr), .val (.int ee), .val (.int (1 : Int32)), .val (.int ii), .val (.int v0), .unset, .unset, .unset, .unset, .unset, .unset, .unset, .unset, .unset, .unset] [(.int (3 : Int32)), (.int (((vr.toUInt32 >>> ((2 : Int32) &&& 31).toUInt32).toInt32) &&& (2147483647 : Int32))), (.int (v0 + (1 : Int32)))]))
    refine Go.st (fun _ kt => iremM X0 hx rfl (hb hby at_49) rfl (by decide) kt) ?_
    show Go p e below _ (s₁.setTop (mkF m 50 #[.val (.int pp), .val (.int en), .val (.int ia), .val (.int vr), .val (.int ee), .val (.int (1 : Int32)), .val (.int ii), .val (.int v0), .unset, .unset, .unset, .unset, .unset, .unset, .unset, .unset, .unset, .unset] [(.int ((((vr.toUInt32 >>> ((2 : Int32) &&& 31).toUInt32).toInt32) &&& (2147483647 : Int32)) % (3 : Int32))), (.int (v0 + (1 : Int32)))]))
    refine Go.st (fun _ kt => XS.iadd X0.here hx rfl (hb hby at_50) rfl kt) ?_
    show Go p e below _ (s₁.setTop (mkF m 51 #[.val (.int pp), .val (.int en), .val (.int ia), .val (.int vr), .val (.int ee), .val (.int (1 : Int32)), .val (.int ii), .val (.int v0), .unset, .unset, .unset, .unset, .unset, .unset, .unset, .unset, .unset, .unset] [(.int ((v0 + (1 : Int32)) + ((((vr.toUInt32 >>> ((2 : Int32) &&& 31).toUInt32).toInt32) &&& (2147483647 : Int32)) % (3 : Int32))))]))
    refine Go.st (fun _ kt => XS.iconst X0.here hx rfl (hb hby at_51) kt) ?_
    show Go p e below _ (s₁.setTop (mkF m 52 #[.val (.int pp), .val (.int en), .val (.int ia), .val (.int vr), .val (.int ee), .val (.int (1 : Int32)), .val (.int ii), .val (.int v0), .unset, .unset, .unset, .unset, .unset, .unset, .unset, .unset, .unset, .unset] [(.int (3 : Int32)), (.int ((v0 + (1 : Int32)) + ((((vr.toUInt32 >>> ((2 : Int32) &&& 31).toUInt32).toInt32) &&& (2147483647 : Int32)) % (3 : Int32))))]))
    refine Go.st (fun _ kt => XS.iand X0.here hx rfl (hb hby at_52) rfl kt) ?_
    show Go p e below _ (s₁.setTop (mkF m 53 #[.val (.int pp), .val (.int en), .val (.int ia), .val (.int vr), .val (.int ee), .val (.int (1 : Int32)), .val (.int ii), .val (.int v0), .unset, .unset, .unset, .unset, .unset, .unset, .unset, .unset, .unset, .unset] [(.int (((v0 + (1 : Int32)) + ((((vr.toUInt32 >>> ((2 : Int32) &&& 31).toUInt32).toInt32) &&& (2147483647 : Int32)) % (3 : Int32))) &&& (3 : Int32)))]))
    generalize hv1 : ((((v0 + (1 : Int32)) + ((((vr.toUInt32 >>> ((2 : Int32) &&& 31).toUInt32).toInt32) &&& (2147483647 : Int32)) % (3 : Int32))) &&& (3 : Int32)) : Int32) = v1
    show Go p e below _ (s₁.setTop (mkF m 53 #[.val (.int pp), .val (.int en), .val (.int ia), .val (.int vr), .val (.int ee), .val (.int (1 : Int32)), .val (.int ii), .val (.int v0), .unset, .unset, .unset, .unset, .unset, .unset, .unset, .unset, .unset, .unset] [(.int v1)]))
    rw [hv1] at hW
    refine Go.st (fun _ kt => XS.istore X0.here hx rfl (hb hby at_53) rfl (l' := #[.val (.int pp), .val (.int en), .val (.int ia), .val (.int vr), .val (.int ee), .val (.int (1 : Int32)), .val (.int ii), .val (.int v0), .val (.int v1), .unset, .unset, .unset, .unset, .unset, .unset, .unset, .unset, .unset]) rfl kt) ?_
    show Go p e below _ (s₁.setTop (mkF m 55 #[.val (.int pp), .val (.int en), .val (.int ia), .val (.int vr), .val (.int ee), .val (.int (1 : Int32)), .val (.int ii), .val (.int v0), .val (.int v1), .unset, .unset, .unset, .unset, .unset, .unset, .unset, .unset, .unset] []))
    refine Go.st (fun _ kt => XS.bipush X0.here hx rfl (hb hby at_55) kt) ?_
    show Go p e below _ (s₁.setTop (mkF m 57 #[.val (.int pp), .val (.int en), .val (.int ia), .val (.int vr), .val (.int ee), .val (.int (1 : Int32)), .val (.int ii), .val (.int v0), .val (.int v1), .unset, .unset, .unset, .unset, .unset, .unset, .unset, .unset, .unset] [(.int (6 : Int32))]))
    obtain ⟨T64, h64, k64, X64, e64, E64, A64, Y64, st64⟩ := newPE X0 hx hZ (hw _ (List.mem_of_getElem? (i := 1) rfl)) e0 (g := (mkF m 57 #[.val (.int pp), .val (.int en), .val (.int ia), .val (.int vr), .val (.int ee), .val (.int (1 : Int32)), .val (.int ii), .val (.int v0), .val (.int v1), .unset, .unset, .unset, .unset, .unset, .unset, .unset, .unset, .unset] [(.int (6 : Int32))])) rfl (hb hby at_57) rfl (by decide) (cap := 6) (by decide) (by decide) (by decide) (by decide) (ad := "[D") (by decide)
    obtain ⟨b64, g64⟩ : ∃ z, z = h0.size := ⟨_, rfl⟩
    rw [← g64] at A64 Y64 st64
    have gn_b64 : n0 ≤ b64 := Nat.le_trans Z0 (Nat.le_of_eq g64.symm)
    have Zs64 : n0 ≤ h64.size := Nat.le_trans Z0 E64.1
    refine Go.st st64 ?_
    have V64 : Arv Z h64 b64 k64 .double (6 : Int32) [(.double (0 : UInt64)), (.double (0 : UInt64)), (.double (0 : UInt64)), (.double (0 : UInt64)), (.double (0 : UInt64)), (.double (0 : UInt64))] (.double (0 : UInt64)) := (Arv.new A64 (by decide)).pad (pad_rep [] (.double (0 : UInt64)) 6)
    show Go p e below _ (T64.setTop (mkF m 59 #[.val (.int pp), .val (.int en), .val (.int ia), .val (.int vr), .val (.int ee), .val (.int (1 : Int32)), .val (.int ii), .val (.int v0), .val (.int v1), .unset, .unset, .unset, .unset, .unset, .unset, .unset, .unset, .unset] [(.ref b64)]))
    refine Go.st (fun _ kt => XS.astore X64.here hx rfl (hb hby at_59) rfl rfl (l' := #[.val (.int pp), .val (.int en), .val (.int ia), .val (.int vr), .val (.int ee), .val (.int (1 : Int32)), .val (.int ii), .val (.int v0), .val (.int v1), .val (.ref b64), .unset, .unset, .unset, .unset, .unset, .unset, .unset, .unset]) rfl kt) ?_
    show Go p e below _ (T64.setTop (mkF m 61 #[.val (.int pp), .val (.int en), .val (.int ia), .val (.int vr), .val (.int ee), .val (.int (1 : Int32)), .val (.int ii), .val (.int v0), .val (.int v1), .val (.ref b64), .unset, .unset, .unset, .unset, .unset, .unset, .unset, .unset] []))
    refine Go.st (fun _ kt => XS.aload X64.here hx rfl (hb hby at_61) rfl rfl kt) ?_
    show Go p e below _ (T64.setTop (mkF m 63 #[.val (.int pp), .val (.int en), .val (.int ia), .val (.int vr), .val (.int ee), .val (.int (1 : Int32)), .val (.int ii), .val (.int v0), .val (.int v1), .val (.ref b64), .unset, .unset, .unset, .unset, .unset, .unset, .unset, .unset] [(.ref b64)]))
    refine Go.st (fun _ kt => XS.iconst X64.here hx rfl (hb hby at_63) kt) ?_
    show Go p e below _ (T64.setTop (mkF m 64 #[.val (.int pp), .val (.int en), .val (.int ia), .val (.int vr), .val (.int ee), .val (.int (1 : Int32)), .val (.int ii), .val (.int v0), .val (.int v1), .val (.ref b64), .unset, .unset, .unset, .unset, .unset, .unset, .unset, .unset] [(.int (0 : Int32)), (.ref b64)]))
    refine Go.st (fun _ kt => XS.iloadN X64.here hx rfl (hb hby at_64) rfl kt) ?_
    show Go p e below _ (T64.setTop (mkF m 65 #[.val (.int pp), .val (.int en), .val (.int ia), .val (.int vr), .val (.int ee), .val (.int (1 : Int32)), .val (.int ii), .val (.int v0), .val (.int v1), .val (.ref b64), .unset, .unset, .unset, .unset, .unset, .unset, .unset, .unset] [(.int pp), (.int (0 : Int32)), (.ref b64)]))
    refine Go.st (fun _ kt => XS.iconst X64.here hx rfl (hb hby at_65) kt) ?_
    show Go p e below _ (T64.setTop (mkF m 66 #[.val (.int pp), .val (.int en), .val (.int ia), .val (.int vr), .val (.int ee), .val (.int (1 : Int32)), .val (.int ii), .val (.int v0), .val (.int v1), .val (.ref b64), .unset, .unset, .unset, .unset, .unset, .unset, .unset, .unset] [(.int (0 : Int32)), (.int pp), (.int (0 : Int32)), (.ref b64)]))
    refine Go.st (fun _ kt => XS.iload X64.here hx rfl (hb hby at_66) rfl kt) ?_
    show Go p e below _ (T64.setTop (mkF m 68 #[.val (.int pp), .val (.int en), .val (.int ia), .val (.int vr), .val (.int ee), .val (.int (1 : Int32)), .val (.int ii), .val (.int v0), .val (.int v1), .val (.ref b64), .unset, .unset, .unset, .unset, .unset, .unset, .unset, .unset] [(.int (1 : Int32)), (.int (0 : Int32)), (.int pp), (.int (0 : Int32)), (.ref b64)]))
    refine Go.st (fun _ kt => XS.iload X64.here hx rfl (hb hby at_68) rfl kt) ?_
    show Go p e below _ (T64.setTop (mkF m 70 #[.val (.int pp), .val (.int en), .val (.int ia), .val (.int vr), .val (.int ee), .val (.int (1 : Int32)), .val (.int ii), .val (.int v0), .val (.int v1), .val (.ref b64), .unset, .unset, .unset, .unset, .unset, .unset, .unset, .unset] [(.int ii), (.int (1 : Int32)), (.int (0 : Int32)), (.int pp), (.int (0 : Int32)), (.ref b64)]))
    obtain ⟨_, _, ⟨T65, L65, k65, n65⟩, -, X65, ⟨Lc65, hQ65, l65, y65, z65⟩, st65⟩ := Jvm.LawKit.callS X64 hx (y := (⟨"com/example/tributary/tributary/model/CostTableCostPinLaw", "cell", "(IIZI)D"⟩ : MethodName)) hown (mvT hZ (hw _ (List.mem_of_getElem? (i := 2) rfl))) (mvT hZ (hw _ (List.mem_of_getElem? (i := 3) rfl))) (mvT hZ (hw _ (List.mem_of_getElem? (i := 4) rfl))) (mvT hZ (hw _ (List.mem_of_getElem? (i := 5) rfl))) (by decide) (backOf (W := 2) (rm1 l Z a0 hw [] pp (0 : Int32) (1 : Int32) ii h64 n0 Zs64) hZ (hw _ (List.mem_of_getElem? (i := 5) rfl)) (hw _ (List.mem_of_getElem? (i := 4) rfl)) (by decide) (by decide)) (g := (mkF m 70 #[.val (.int pp), .val (.int en), .val (.int ia), .val (.int vr), .val (.int ee), .val (.int (1 : Int32)), .val (.int ii), .val (.int v0), .val (.int v1), .val (.ref b64), .unset, .unset, .unset, .unset, .unset, .unset, .unset, .unset] [(.int ii), (.int (1 : Int32)), (.int (0 : Int32)), (.int pp), (.int (0 : Int32)), (.ref b64)])) rfl (by rw [hml]; rfl) (argsL := [(.int pp), (.int (0 : Int32)), (.int (1 : Int32)), (.int ii)]) (rest := [(.int (0 : Int32)), (.ref b64)]) (lenOf own_pd4 rfl) rfl (by show 2 * 0 + _ ≤ _; exact Nat.le_of_eq rfl) (hb hby at_70) (fun _ _ => ⟨rfl, e64, (by decide : 1 + 0 ≤ _), (by decide : 6 + 0 ≤ _)⟩)
    dsimp only [Pt.U, Pt.locs, Pt.cells, Pt.slots] at X65 l65 y65 z65 st65 hQ65
    subst l65 y65 z65
    obtain ⟨rfl, N65q, e65⟩ := hQ65
    have N65 := Fr.app N0 N65q
    refine Go.st st65 ?_
    show Go p e below _ (T65.setTop (mkF m 73 #[.val (.int pp), .val (.int en), .val (.int ia), .val (.int vr), .val (.int ee), .val (.int (1 : Int32)), .val (.int ii), .val (.int v0), .val (.int v1), .val (.ref b64), .unset, .unset, .unset, .unset, .unset, .unset, .unset, .unset] [(.double (own_cell pp (0 : Int32) (1 : Int32) ii)), (.int (0 : Int32)), (.ref b64)]))
    obtain ⟨cl66, Ar66, q66, S66, N66', H66, G66⟩ := id V64
    have hin66 : ¬ ((0 : Int32) < 0 ∨ cl66.slots.size ≤ ((0 : Int32)).toNatClampNeg) := inb_of S66 ⟨by decide, by decide⟩
    obtain ⟨T67, h67, X67, e67, W67, st67⟩ := stD X65 hx hZ e65 Ar66 (j := (0 : Int32)) hin66 (g := (mkF m 73 #[.val (.int pp), .val (.int en), .val (.int ia), .val (.int vr), .val (.int ee), .val (.int (1 : Int32)), .val (.int ii), .val (.int v0), .val (.int v1), .val (.ref b64), .unset, .unset, .unset, .unset, .unset, .unset, .unset, .unset] [(.double (own_cell pp (0 : Int32) (1 : Int32) ii)), (.int (0 : Int32)), (.ref b64)])) rfl rfl (hb hby at_73)
    refine Go.st st67 ?_
    have V67 : Arv Z h67 b64 k64 .double (6 : Int32) [(.double (own_cell pp (0 : Int32) (1 : Int32) ii)), (.double (0 : UInt64)), (.double (0 : UInt64)), (.double (0 : UInt64)), (.double (0 : UInt64)), (.double (0 : UInt64))] (.double (0 : UInt64)) := Arv.set Ar66 q66 S66 N66' H66 G66 rfl W67 0 rfl (Nat.le_of_ble_eq_true rfl)
    have Zs67 : n0 ≤ h67.size := Nat.le_trans Zs64 (Nat.le_of_eq W67.size.symm)
    have N67 := Fr.snoc X67 N65 gn_b64
    show Go p e below _ (T67.setTop (mkF m 74 #[.val (.int pp), .val (.int en), .val (.int ia), .val (.int vr), .val (.int ee), .val (.int (1 : Int32)), .val (.int ii), .val (.int v0), .val (.int v1), .val (.ref b64), .unset, .unset, .unset, .unset, .unset, .unset, .unset, .unset] []))
    refine Go.st (fun _ kt => XS.aload X67.here hx rfl (hb hby at_74) rfl rfl kt) ?_
    show Go p e below _ (T67.setTop (mkF m 76 #[.val (.int pp), .val (.int en), .val (.int ia), .val (.int vr), .val (.int ee), .val (.int (1 : Int32)), .val (.int ii), .val (.int v0), .val (.int v1), .val (.ref b64), .unset, .unset, .unset, .unset, .unset, .unset, .unset, .unset] [(.ref b64)]))
    refine Go.st (fun _ kt => XS.iconst X67.here hx rfl (hb hby at_76) kt) ?_
    show Go p e below _ (T67.setTop (mkF m 77 #[.val (.int pp), .val (.int en), .val (.int ia), .val (.int vr), .val (.int ee), .val (.int (1 : Int32)), .val (.int ii), .val (.int v0), .val (.int v1), .val (.ref b64), .unset, .unset, .unset, .unset, .unset, .unset, .unset, .unset] [(.int (1 : Int32)), (.ref b64)]))
    refine Go.st (fun _ kt => XS.iloadN X67.here hx rfl (hb hby at_77) rfl kt) ?_
    show Go p e below _ (T67.setTop (mkF m 78 #[.val (.int pp), .val (.int en), .val (.int ia), .val (.int vr), .val (.int ee), .val (.int (1 : Int32)), .val (.int ii), .val (.int v0), .val (.int v1), .val (.ref b64), .unset, .unset, .unset, .unset, .unset, .unset, .unset, .unset] [(.int pp), (.int (1 : Int32)), (.ref b64)]))
    refine Go.st (fun _ kt => XS.iconst X67.here hx rfl (hb hby at_78) kt) ?_
    show Go p e below _ (T67.setTop (mkF m 79 #[.val (.int pp), .val (.int en), .val (.int ia), .val (.int vr), .val (.int ee), .val (.int (1 : Int32)), .val (.int ii), .val (.int v0), .val (.int v1), .val (.ref b64), .unset, .unset, .unset, .unset, .unset, .unset, .unset, .unset] [(.int (1 : Int32)), (.int pp), (.int (1 : Int32)), (.ref b64)]))
    refine Go.st (fun _ kt => XS.iload X67.here hx rfl (hb hby at_79) rfl kt) ?_
    show Go p e below _ (T67.setTop (mkF m 81 #[.val (.int pp), .val (.int en), .val (.int ia), .val (.int vr), .val (.int ee), .val (.int (1 : Int32)), .val (.int ii), .val (.int v0), .val (.int v1), .val (.ref b64), .unset, .unset, .unset, .unset, .unset, .unset, .unset, .unset] [(.int (1 : Int32)), (.int (1 : Int32)), (.int pp), (.int (1 : Int32)), (.ref b64)]))
    refine Go.st (fun _ kt => XS.iload X67.here hx rfl (hb hby at_81) rfl kt) ?_
    show Go p e below _ (T67.setTop (mkF m 83 #[.val (.int pp), .val (.int en), .val (.int ia), .val (.int vr), .val (.int ee), .val (.int (1 : Int32)), .val (.int ii), .val (.int v0), .val (.int v1), .val (.ref b64), .unset, .unset, .unset, .unset, .unset, .unset, .unset, .unset] [(.int ii), (.int (1 : Int32)), (.int (1 : Int32)), (.int pp), (.int (1 : Int32)), (.ref b64)]))
    obtain ⟨_, _, ⟨T68, L68, k68, n68⟩, -, X68, ⟨Lc68, hQ68, l68, y68, z68⟩, st68⟩ := Jvm.LawKit.callS X67 hx (y := (⟨"com/example/tributary/tributary/model/CostTableCostPinLaw", "cell", "(IIZI)D"⟩ : MethodName)) hown (mvT hZ (hw _ (List.mem_of_getElem? (i := 2) rfl))) (mvT hZ (hw _ (List.mem_of_getElem? (i := 3) rfl))) (mvT hZ (hw _ (List.mem_of_getElem? (i := 4) rfl))) (mvT hZ (hw _ (List.mem_of_getElem? (i := 5) rfl))) (by decide) (backOf (W := 2) (rm1 l Z a0 hw [] pp (1 : Int32) (1 : Int32) ii h67 n0 Zs67) hZ (hw _ (List.mem_of_getElem? (i := 5) rfl)) (hw _ (List.mem_of_getElem? (i := 4) rfl)) (by decide) (by decide)) (g := (mkF m 83 #[.val (.int pp), .val (.int en), .val (.int ia), .val (.int vr), .val (.int ee), .val (.int (1 : Int32)), .val (.int ii), .val (.int v0), .val (.int v1), .val (.ref b64), .unset, .unset, .unset, .unset, .unset, .unset, .unset, .unset] [(.int ii), (.int (1 : Int32)), (.int (1 : Int32)), (.int pp), (.int (1 : Int32)), (.ref b64)])) rfl (by rw [hml]; rfl) (argsL := [(.int pp), (.int (1 : Int32)), (.int (1 : Int32)), (.int ii)]) (rest := [(.int (1 : Int32)), (.ref b64)]) (lenOf own_pd4 rfl) rfl (by show 2 * 0 + _ ≤ _; exact Nat.le_of_eq rfl) (hb hby at_83) (fun _ _ => ⟨rfl, e67, (by decide : 1 + 0 ≤ _), (by decide : 6 + 0 ≤ _)⟩)
    dsimp only [Pt.U, Pt.locs, Pt.cells, Pt.slots] at X68 l68 y68 z68 st68 hQ68
    subst l68 y68 z68
    obtain ⟨rfl, N68q, e68⟩ := hQ68
    have N68 := Fr.app N67 N68q
    refine Go.st st68 ?_
    show Go p e below _ (T68.setTop (mkF m 86 #[.val (.int pp), .val (.int en), .val (.int ia), .val (.int vr), .val (.int ee), .val (.int (1 : Int32)), .val (.int ii), .val (.int v0), .val (.int v1), .val (.ref b64), .unset, .unset, .unset, .unset, .unset, .unset, .unset, .unset] [(.double (own_cell pp (1 : Int32) (1 : Int32) ii)), (.int (1 : Int32)), (.ref b64)]))
    obtain ⟨cl69, Ar69, q69, S69, N69', H69, G69⟩ := id V67
    have hin69 : ¬ ((1 : Int32) < 0 ∨ cl69.slots.size ≤ ((1 : Int32)).toNatClampNeg) := inb_of S69 ⟨by decide, by decide⟩
    obtain ⟨T70, h70, X70, e70, W70, st70⟩ := stD X68 hx hZ e68 Ar69 (j := (1 : Int32)) hin69 (g := (mkF m 86 #[.val (.int pp), .val (.int en), .val (.int ia), .val (.int vr), .val (.int ee), .val (.int (1 : Int32)), .val (.int ii), .val (.int v0), .val (.int v1), .val (.ref b64), .unset, .unset, .unset, .unset, .unset, .unset, .unset, .unset] [(.double (own_cell pp (1 : Int32) (1 : Int32) ii)), (.int (1 : Int32)), (.ref b64)])) rfl rfl (hb hby at_86)
    refine Go.st st70 ?_
    have V70 : Arv Z h70 b64 k64 .double (6 : Int32) [(.double (own_cell pp (0 : Int32) (1 : Int32) ii)), (.double (own_cell pp (1 : Int32) (1 : Int32) ii)), (.double (0 : UInt64)), (.double (0 : UInt64)), (.double (0 : UInt64)), (.double (0 : UInt64))] (.double (0 : UInt64)) := Arv.set Ar69 q69 S69 N69' H69 G69 rfl W70 1 rfl (Nat.le_of_ble_eq_true rfl)
    have Zs70 : n0 ≤ h70.size := Nat.le_trans Zs67 (Nat.le_of_eq W70.size.symm)
    have N70 := Fr.snoc X70 N68 gn_b64
    show Go p e below _ (T70.setTop (mkF m 87 #[.val (.int pp), .val (.int en), .val (.int ia), .val (.int vr), .val (.int ee), .val (.int (1 : Int32)), .val (.int ii), .val (.int v0), .val (.int v1), .val (.ref b64), .unset, .unset, .unset, .unset, .unset, .unset, .unset, .unset] []))
    refine Go.st (fun _ kt => XS.aload X70.here hx rfl (hb hby at_87) rfl rfl kt) ?_
    show Go p e below _ (T70.setTop (mkF m 89 #[.val (.int pp), .val (.int en), .val (.int ia), .val (.int vr), .val (.int ee), .val (.int (1 : Int32)), .val (.int ii), .val (.int v0), .val (.int v1), .val (.ref b64), .unset, .unset, .unset, .unset, .unset, .unset, .unset, .unset] [(.ref b64)]))
    refine Go.st (fun _ kt => XS.iconst X70.here hx rfl (hb hby at_89) kt) ?_
    show Go p e below _ (T70.setTop (mkF m 90 #[.val (.int pp), .val (.int en), .val (.int ia), .val (.int vr), .val (.int ee), .val (.int (1 : Int32)), .val (.int ii), .val (.int v0), .val (.int v1), .val (.ref b64), .unset, .unset, .unset, .unset, .unset, .unset, .unset, .unset] [(.int (2 : Int32)), (.ref b64)]))
    refine Go.st (fun _ kt => XS.iloadN X70.here hx rfl (hb hby at_90) rfl kt) ?_
    show Go p e below _ (T70.setTop (mkF m 91 #[.val (.int pp), .val (.int en), .val (.int ia), .val (.int vr), .val (.int ee), .val (.int (1 : Int32)), .val (.int ii), .val (.int v0), .val (.int v1), .val (.ref b64), .unset, .unset, .unset, .unset, .unset, .unset, .unset, .unset] [(.int pp), (.int (2 : Int32)), (.ref b64)]))
    refine Go.st (fun _ kt => XS.iconst X70.here hx rfl (hb hby at_91) kt) ?_
    show Go p e below _ (T70.setTop (mkF m 92 #[.val (.int pp), .val (.int en), .val (.int ia), .val (.int vr), .val (.int ee), .val (.int (1 : Int32)), .val (.int ii), .val (.int v0), .val (.int v1), .val (.ref b64), .unset, .unset, .unset, .unset, .unset, .unset, .unset, .unset] [(.int (2 : Int32)), (.int pp), (.int (2 : Int32)), (.ref b64)]))
    refine Go.st (fun _ kt => XS.iload X70.here hx rfl (hb hby at_92) rfl kt) ?_
    show Go p e below _ (T70.setTop (mkF m 94 #[.val (.int pp), .val (.int en), .val (.int ia), .val (.int vr), .val (.int ee), .val (.int (1 : Int32)), .val (.int ii), .val (.int v0), .val (.int v1), .val (.ref b64), .unset, .unset, .unset, .unset, .unset, .unset, .unset, .unset] [(.int (1 : Int32)), (.int (2 : Int32)), (.int pp), (.int (2 : Int32)), (.ref b64)]))
    refine Go.st (fun _ kt => XS.iload X70.here hx rfl (hb hby at_94) rfl kt) ?_
    show Go p e below _ (T70.setTop (mkF m 96 #[.val (.int pp), .val (.int en), .val (.int ia), .val (.int vr), .val (.int ee), .val (.int (1 : Int32)), .val (.int ii), .val (.int v0), .val (.int v1), .val (.ref b64), .unset, .unset, .unset, .unset, .unset, .unset, .unset, .unset] [(.int ii), (.int (1 : Int32)), (.int (2 : Int32)), (.int pp), (.int (2 : Int32)), (.ref b64)]))
    obtain ⟨_, _, ⟨T71, L71, k71, n71⟩, -, X71, ⟨Lc71, hQ71, l71, y71, z71⟩, st71⟩ := Jvm.LawKit.callS X70 hx (y := (⟨"com/example/tributary/tributary/model/CostTableCostPinLaw", "cell", "(IIZI)D"⟩ : MethodName)) hown (mvT hZ (hw _ (List.mem_of_getElem? (i := 2) rfl))) (mvT hZ (hw _ (List.mem_of_getElem? (i := 3) rfl))) (mvT hZ (hw _ (List.mem_of_getElem? (i := 4) rfl))) (mvT hZ (hw _ (List.mem_of_getElem? (i := 5) rfl))) (by decide) (backOf (W := 2) (rm1 l Z a0 hw [] pp (2 : Int32) (1 : Int32) ii h70 n0 Zs70) hZ (hw _ (List.mem_of_getElem? (i := 5) rfl)) (hw _ (List.mem_of_getElem? (i := 4) rfl)) (by decide) (by decide)) (g := (mkF m 96 #[.val (.int pp), .val (.int en), .val (.int ia), .val (.int vr), .val (.int ee), .val (.int (1 : Int32)), .val (.int ii), .val (.int v0), .val (.int v1), .val (.ref b64), .unset, .unset, .unset, .unset, .unset, .unset, .unset, .unset] [(.int ii), (.int (1 : Int32)), (.int (2 : Int32)), (.int pp), (.int (2 : Int32)), (.ref b64)])) rfl (by rw [hml]; rfl) (argsL := [(.int pp), (.int (2 : Int32)), (.int (1 : Int32)), (.int ii)]) (rest := [(.int (2 : Int32)), (.ref b64)]) (lenOf own_pd4 rfl) rfl (by show 2 * 0 + _ ≤ _; exact Nat.le_of_eq rfl) (hb hby at_96) (fun _ _ => ⟨rfl, e70, (by decide : 1 + 0 ≤ _), (by decide : 6 + 0 ≤ _)⟩)
    dsimp only [Pt.U, Pt.locs, Pt.cells, Pt.slots] at X71 l71 y71 z71 st71 hQ71
    subst l71 y71 z71
    obtain ⟨rfl, N71q, e71⟩ := hQ71
    have N71 := Fr.app N70 N71q
    refine Go.st st71 ?_
    show Go p e below _ (T71.setTop (mkF m 99 #[.val (.int pp), .val (.int en), .val (.int ia), .val (.int vr), .val (.int ee), .val (.int (1 : Int32)), .val (.int ii), .val (.int v0), .val (.int v1), .val (.ref b64), .unset, .unset, .unset, .unset, .unset, .unset, .unset, .unset] [(.double (own_cell pp (2 : Int32) (1 : Int32) ii)), (.int (2 : Int32)), (.ref b64)]))
    obtain ⟨cl72, Ar72, q72, S72, N72', H72, G72⟩ := id V70
    have hin72 : ¬ ((2 : Int32) < 0 ∨ cl72.slots.size ≤ ((2 : Int32)).toNatClampNeg) := inb_of S72 ⟨by decide, by decide⟩
    obtain ⟨T73, h73, X73, e73, W73, st73⟩ := stD X71 hx hZ e71 Ar72 (j := (2 : Int32)) hin72 (g := (mkF m 99 #[.val (.int pp), .val (.int en), .val (.int ia), .val (.int vr), .val (.int ee), .val (.int (1 : Int32)), .val (.int ii), .val (.int v0), .val (.int v1), .val (.ref b64), .unset, .unset, .unset, .unset, .unset, .unset, .unset, .unset] [(.double (own_cell pp (2 : Int32) (1 : Int32) ii)), (.int (2 : Int32)), (.ref b64)])) rfl rfl (hb hby at_99)
    refine Go.st st73 ?_
    have V73 : Arv Z h73 b64 k64 .double (6 : Int32) [(.double (own_cell pp (0 : Int32) (1 : Int32) ii)), (.double (own_cell pp (1 : Int32) (1 : Int32) ii)), (.double (own_cell pp (2 : Int32) (1 : Int32) ii)), (.double (0 : UInt64)), (.double (0 : UInt64)), (.double (0 : UInt64))] (.double (0 : UInt64)) := Arv.set Ar72 q72 S72 N72' H72 G72 rfl W73 2 rfl (Nat.le_of_ble_eq_true rfl)
    have Zs73 : n0 ≤ h73.size := Nat.le_trans Zs70 (Nat.le_of_eq W73.size.symm)
    have N73 := Fr.snoc X73 N71 gn_b64
    show Go p e below _ (T73.setTop (mkF m 100 #[.val (.int pp), .val (.int en), .val (.int ia), .val (.int vr), .val (.int ee), .val (.int (1 : Int32)), .val (.int ii), .val (.int v0), .val (.int v1), .val (.ref b64), .unset, .unset, .unset, .unset, .unset, .unset, .unset, .unset] []))
    refine Go.st (fun _ kt => XS.aload X73.here hx rfl (hb hby at_100) rfl rfl kt) ?_
    show Go p e below _ (T73.setTop (mkF m 102 #[.val (.int pp), .val (.int en), .val (.int ia), .val (.int vr), .val (.int ee), .val (.int (1 : Int32)), .val (.int ii), .val (.int v0), .val (.int v1), .val (.ref b64), .unset, .unset, .unset, .unset, .unset, .unset, .unset, .unset] [(.ref b64)]))
    refine Go.st (fun _ kt => XS.iconst X73.here hx rfl (hb hby at_102) kt) ?_
    show Go p e below _ (T73.setTop (mkF m 103 #[.val (.int pp), .val (.int en), .val (.int ia), .val (.int vr), .val (.int ee), .val (.int (1 : Int32)), .val (.int ii), .val (.int v0), .val (.int v1), .val (.ref b64), .unset, .unset, .unset, .unset, .unset, .unset, .unset, .unset] [(.int (3 : Int32)), (.ref b64)]))
    refine Go.st (fun _ kt => XS.iloadN X73.here hx rfl (hb hby at_103) rfl kt) ?_
    show Go p e below _ (T73.setTop (mkF m 104 #[.val (.int pp), .val (.int en), .val (.int ia), .val (.int vr), .val (.int ee), .val (.int (1 : Int32)), .val (.int ii), .val (.int v0), .val (.int v1), .val (.ref b64), .unset, .unset, .unset, .unset, .unset, .unset, .unset, .unset] [(.int pp), (.int (3 : Int32)), (.ref b64)]))
    refine Go.st (fun _ kt => XS.iconst X73.here hx rfl (hb hby at_104) kt) ?_
    show Go p e below _ (T73.setTop (mkF m 105 #[.val (.int pp), .val (.int en), .val (.int ia), .val (.int vr), .val (.int ee), .val (.int (1 : Int32)), .val (.int ii), .val (.int v0), .val (.int v1), .val (.ref b64), .unset, .unset, .unset, .unset, .unset, .unset, .unset, .unset] [(.int (3 : Int32)), (.int pp), (.int (3 : Int32)), (.ref b64)]))
    refine Go.st (fun _ kt => XS.iload X73.here hx rfl (hb hby at_105) rfl kt) ?_
    show Go p e below _ (T73.setTop (mkF m 107 #[.val (.int pp), .val (.int en), .val (.int ia), .val (.int vr), .val (.int ee), .val (.int (1 : Int32)), .val (.int ii), .val (.int v0), .val (.int v1), .val (.ref b64), .unset, .unset, .unset, .unset, .unset, .unset, .unset, .unset] [(.int (1 : Int32)), (.int (3 : Int32)), (.int pp), (.int (3 : Int32)), (.ref b64)]))
    refine Go.st (fun _ kt => XS.iload X73.here hx rfl (hb hby at_107) rfl kt) ?_
    show Go p e below _ (T73.setTop (mkF m 109 #[.val (.int pp), .val (.int en), .val (.int ia), .val (.int vr), .val (.int ee), .val (.int (1 : Int32)), .val (.int ii), .val (.int v0), .val (.int v1), .val (.ref b64), .unset, .unset, .unset, .unset, .unset, .unset, .unset, .unset] [(.int ii), (.int (1 : Int32)), (.int (3 : Int32)), (.int pp), (.int (3 : Int32)), (.ref b64)]))
    obtain ⟨_, _, ⟨T74, L74, k74, n74⟩, -, X74, ⟨Lc74, hQ74, l74, y74, z74⟩, st74⟩ := Jvm.LawKit.callS X73 hx (y := (⟨"com/example/tributary/tributary/model/CostTableCostPinLaw", "cell", "(IIZI)D"⟩ : MethodName)) hown (mvT hZ (hw _ (List.mem_of_getElem? (i := 2) rfl))) (mvT hZ (hw _ (List.mem_of_getElem? (i := 3) rfl))) (mvT hZ (hw _ (List.mem_of_getElem? (i := 4) rfl))) (mvT hZ (hw _ (List.mem_of_getElem? (i := 5) rfl))) (by decide) (backOf (W := 2) (rm1 l Z a0 hw [] pp (3 : Int32) (1 : Int32) ii h73 n0 Zs73) hZ (hw _ (List.mem_of_getElem? (i := 5) rfl)) (hw _ (List.mem_of_getElem? (i := 4) rfl)) (by decide) (by decide)) (g := (mkF m 109 #[.val (.int pp), .val (.int en), .val (.int ia), .val (.int vr), .val (.int ee), .val (.int (1 : Int32)), .val (.int ii), .val (.int v0), .val (.int v1), .val (.ref b64), .unset, .unset, .unset, .unset, .unset, .unset, .unset, .unset] [(.int ii), (.int (1 : Int32)), (.int (3 : Int32)), (.int pp), (.int (3 : Int32)), (.ref b64)])) rfl (by rw [hml]; rfl) (argsL := [(.int pp), (.int (3 : Int32)), (.int (1 : Int32)), (.int ii)]) (rest := [(.int (3 : Int32)), (.ref b64)]) (lenOf own_pd4 rfl) rfl (by show 2 * 0 + _ ≤ _; exact Nat.le_of_eq rfl) (hb hby at_109) (fun _ _ => ⟨rfl, e73, (by decide : 1 + 0 ≤ _), (by decide : 6 + 0 ≤ _)⟩)
    dsimp only [Pt.U, Pt.locs, Pt.cells, Pt.slots] at X74 l74 y74 z74 st74 hQ74
    subst l74 y74 z74
    obtain ⟨rfl, N74q, e74⟩ := hQ74
    have N74 := Fr.app N73 N74q
    refine Go.st st74 ?_
    show Go p e below _ (T74.setTop (mkF m 112 #[.val (.int pp), .val (.int en), .val (.int ia), .val (.int vr), .val (.int ee), .val (.int (1 : Int32)), .val (.int ii), .val (.int v0), .val (.int v1), .val (.ref b64), .unset, .unset, .unset, .unset, .unset, .unset, .unset, .unset] [(.double (own_cell pp (3 : Int32) (1 : Int32) ii)), (.int (3 : Int32)), (.ref b64)]))
    obtain ⟨cl75, Ar75, q75, S75, N75', H75, G75⟩ := id V73
    have hin75 : ¬ ((3 : Int32) < 0 ∨ cl75.slots.size ≤ ((3 : Int32)).toNatClampNeg) := inb_of S75 ⟨by decide, by decide⟩
    obtain ⟨T76, h76, X76, e76, W76, st76⟩ := stD X74 hx hZ e74 Ar75 (j := (3 : Int32)) hin75 (g := (mkF m 112 #[.val (.int pp), .val (.int en), .val (.int ia), .val (.int vr), .val (.int ee), .val (.int (1 : Int32)), .val (.int ii), .val (.int v0), .val (.int v1), .val (.ref b64), .unset, .unset, .unset, .unset, .unset, .unset, .unset, .unset] [(.double (own_cell pp (3 : Int32) (1 : Int32) ii)), (.int (3 : Int32)), (.ref b64)])) rfl rfl (hb hby at_112)
    refine Go.st st76 ?_
    have V76 : Arv Z h76 b64 k64 .double (6 : Int32) [(.double (own_cell pp (0 : Int32) (1 : Int32) ii)), (.double (own_cell pp (1 : Int32) (1 : Int32) ii)), (.double (own_cell pp (2 : Int32) (1 : Int32) ii)), (.double (own_cell pp (3 : Int32) (1 : Int32) ii)), (.double (0 : UInt64)), (.double (0 : UInt64))] (.double (0 : UInt64)) := Arv.set Ar75 q75 S75 N75' H75 G75 rfl W76 3 rfl (Nat.le_of_ble_eq_true rfl)
    have Zs76 : n0 ≤ h76.size := Nat.le_trans Zs73 (Nat.le_of_eq W76.size.symm)
    have N76 := Fr.snoc X76 N74 gn_b64
    show Go p e below _ (T76.setTop (mkF m 113 #[.val (.int pp), .val (.int en), .val (.int ia), .val (.int vr), .val (.int ee), .val (.int (1 : Int32)), .val (.int ii), .val (.int v0), .val (.int v1), .val (.ref b64), .unset, .unset, .unset, .unset, .unset, .unset, .unset, .unset] []))
    refine Go.st (fun _ kt => XS.aload X76.here hx rfl (hb hby at_113) rfl rfl kt) ?_
    show Go p e below _ (T76.setTop (mkF m 115 #[.val (.int pp), .val (.int en), .val (.int ia), .val (.int vr), .val (.int ee), .val (.int (1 : Int32)), .val (.int ii), .val (.int v0), .val (.int v1), .val (.ref b64), .unset, .unset, .unset, .unset, .unset, .unset, .unset, .unset] [(.ref b64)]))
    refine Go.st (fun _ kt => XS.iconst X76.here hx rfl (hb hby at_115) kt) ?_
    show Go p e below _ (T76.setTop (mkF m 116 #[.val (.int pp), .val (.int en), .val (.int ia), .val (.int vr), .val (.int ee), .val (.int (1 : Int32)), .val (.int ii), .val (.int v0), .val (.int v1), .val (.ref b64), .unset, .unset, .unset, .unset, .unset, .unset, .unset, .unset] [(.int (4 : Int32)), (.ref b64)]))
    refine Go.st (fun _ kt => XS.iloadN X76.here hx rfl (hb hby at_116) rfl kt) ?_
    show Go p e below _ (T76.setTop (mkF m 117 #[.val (.int pp), .val (.int en), .val (.int ia), .val (.int vr), .val (.int ee), .val (.int (1 : Int32)), .val (.int ii), .val (.int v0), .val (.int v1), .val (.ref b64), .unset, .unset, .unset, .unset, .unset, .unset, .unset, .unset] [(.int pp), (.int (4 : Int32)), (.ref b64)]))
    refine Go.st (fun _ kt => XS.iconst X76.here hx rfl (hb hby at_117) kt) ?_
    show Go p e below _ (T76.setTop (mkF m 118 #[.val (.int pp), .val (.int en), .val (.int ia), .val (.int vr), .val (.int ee), .val (.int (1 : Int32)), .val (.int ii), .val (.int v0), .val (.int v1), .val (.ref b64), .unset, .unset, .unset, .unset, .unset, .unset, .unset, .unset] [(.int (4 : Int32)), (.int pp), (.int (4 : Int32)), (.ref b64)]))
    refine Go.st (fun _ kt => XS.iload X76.here hx rfl (hb hby at_118) rfl kt) ?_
    show Go p e below _ (T76.setTop (mkF m 120 #[.val (.int pp), .val (.int en), .val (.int ia), .val (.int vr), .val (.int ee), .val (.int (1 : Int32)), .val (.int ii), .val (.int v0), .val (.int v1), .val (.ref b64), .unset, .unset, .unset, .unset, .unset, .unset, .unset, .unset] [(.int (1 : Int32)), (.int (4 : Int32)), (.int pp), (.int (4 : Int32)), (.ref b64)]))
    refine Go.st (fun _ kt => XS.iload X76.here hx rfl (hb hby at_120) rfl kt) ?_
    show Go p e below _ (T76.setTop (mkF m 122 #[.val (.int pp), .val (.int en), .val (.int ia), .val (.int vr), .val (.int ee), .val (.int (1 : Int32)), .val (.int ii), .val (.int v0), .val (.int v1), .val (.ref b64), .unset, .unset, .unset, .unset, .unset, .unset, .unset, .unset] [(.int ii), (.int (1 : Int32)), (.int (4 : Int32)), (.int pp), (.int (4 : Int32)), (.ref b64)]))
    obtain ⟨_, _, ⟨T77, L77, k77, n77⟩, -, X77, ⟨Lc77, hQ77, l77, y77, z77⟩, st77⟩ := Jvm.LawKit.callS X76 hx (y := (⟨"com/example/tributary/tributary/model/CostTableCostPinLaw", "cell", "(IIZI)D"⟩ : MethodName)) hown (mvT hZ (hw _ (List.mem_of_getElem? (i := 2) rfl))) (mvT hZ (hw _ (List.mem_of_getElem? (i := 3) rfl))) (mvT hZ (hw _ (List.mem_of_getElem? (i := 4) rfl))) (mvT hZ (hw _ (List.mem_of_getElem? (i := 5) rfl))) (by decide) (backOf (W := 2) (rm1 l Z a0 hw [] pp (4 : Int32) (1 : Int32) ii h76 n0 Zs76) hZ (hw _ (List.mem_of_getElem? (i := 5) rfl)) (hw _ (List.mem_of_getElem? (i := 4) rfl)) (by decide) (by decide)) (g := (mkF m 122 #[.val (.int pp), .val (.int en), .val (.int ia), .val (.int vr), .val (.int ee), .val (.int (1 : Int32)), .val (.int ii), .val (.int v0), .val (.int v1), .val (.ref b64), .unset, .unset, .unset, .unset, .unset, .unset, .unset, .unset] [(.int ii), (.int (1 : Int32)), (.int (4 : Int32)), (.int pp), (.int (4 : Int32)), (.ref b64)])) rfl (by rw [hml]; rfl) (argsL := [(.int pp), (.int (4 : Int32)), (.int (1 : Int32)), (.int ii)]) (rest := [(.int (4 : Int32)), (.ref b64)]) (lenOf own_pd4 rfl) rfl (by show 2 * 0 + _ ≤ _; exact Nat.le_of_eq rfl) (hb hby at_122) (fun _ _ => ⟨rfl, e76, (by decide : 1 + 0 ≤ _), (by decide : 6 + 0 ≤ _)⟩)
    dsimp only [Pt.U, Pt.locs, Pt.cells, Pt.slots] at X77 l77 y77 z77 st77 hQ77
    subst l77 y77 z77
    obtain ⟨rfl, N77q, e77⟩ := hQ77
    have N77 := Fr.app N76 N77q
    refine Go.st st77 ?_
    show Go p e below _ (T77.setTop (mkF m 125 #[.val (.int pp), .val (.int en), .val (.int ia), .val (.int vr), .val (.int ee), .val (.int (1 : Int32)), .val (.int ii), .val (.int v0), .val (.int v1), .val (.ref b64), .unset, .unset, .unset, .unset, .unset, .unset, .unset, .unset] [(.double (own_cell pp (4 : Int32) (1 : Int32) ii)), (.int (4 : Int32)), (.ref b64)]))
    obtain ⟨cl78, Ar78, q78, S78, N78', H78, G78⟩ := id V76
    have hin78 : ¬ ((4 : Int32) < 0 ∨ cl78.slots.size ≤ ((4 : Int32)).toNatClampNeg) := inb_of S78 ⟨by decide, by decide⟩
    obtain ⟨T79, h79, X79, e79, W79, st79⟩ := stD X77 hx hZ e77 Ar78 (j := (4 : Int32)) hin78 (g := (mkF m 125 #[.val (.int pp), .val (.int en), .val (.int ia), .val (.int vr), .val (.int ee), .val (.int (1 : Int32)), .val (.int ii), .val (.int v0), .val (.int v1), .val (.ref b64), .unset, .unset, .unset, .unset, .unset, .unset, .unset, .unset] [(.double (own_cell pp (4 : Int32) (1 : Int32) ii)), (.int (4 : Int32)), (.ref b64)])) rfl rfl (hb hby at_125)
    refine Go.st st79 ?_
    have V79 : Arv Z h79 b64 k64 .double (6 : Int32) [(.double (own_cell pp (0 : Int32) (1 : Int32) ii)), (.double (own_cell pp (1 : Int32) (1 : Int32) ii)), (.double (own_cell pp (2 : Int32) (1 : Int32) ii)), (.double (own_cell pp (3 : Int32) (1 : Int32) ii)), (.double (own_cell pp (4 : Int32) (1 : Int32) ii)), (.double (0 : UInt64))] (.double (0 : UInt64)) := Arv.set Ar78 q78 S78 N78' H78 G78 rfl W79 4 rfl (Nat.le_of_ble_eq_true rfl)
    have Zs79 : n0 ≤ h79.size := Nat.le_trans Zs76 (Nat.le_of_eq W79.size.symm)
    have N79 := Fr.snoc X79 N77 gn_b64
    show Go p e below _ (T79.setTop (mkF m 126 #[.val (.int pp), .val (.int en), .val (.int ia), .val (.int vr), .val (.int ee), .val (.int (1 : Int32)), .val (.int ii), .val (.int v0), .val (.int v1), .val (.ref b64), .unset, .unset, .unset, .unset, .unset, .unset, .unset, .unset] []))
    refine Go.st (fun _ kt => XS.aload X79.here hx rfl (hb hby at_126) rfl rfl kt) ?_
    show Go p e below _ (T79.setTop (mkF m 128 #[.val (.int pp), .val (.int en), .val (.int ia), .val (.int vr), .val (.int ee), .val (.int (1 : Int32)), .val (.int ii), .val (.int v0), .val (.int v1), .val (.ref b64), .unset, .unset, .unset, .unset, .unset, .unset, .unset, .unset] [(.ref b64)]))
    refine Go.st (fun _ kt => XS.iconst X79.here hx rfl (hb hby at_128) kt) ?_
    show Go p e below _ (T79.setTop (mkF m 129 #[.val (.int pp), .val (.int en), .val (.int ia), .val (.int vr), .val (.int ee), .val (.int (1 : Int32)), .val (.int ii), .val (.int v0), .val (.int v1), .val (.ref b64), .unset, .unset, .unset, .unset, .unset, .unset, .unset, .unset] [(.int (5 : Int32)), (.ref b64)]))
    refine Go.st (fun _ kt => XS.iloadN X79.here hx rfl (hb hby at_129) rfl kt) ?_
    show Go p e below _ (T79.setTop (mkF m 130 #[.val (.int pp), .val (.int en), .val (.int ia), .val (.int vr), .val (.int ee), .val (.int (1 : Int32)), .val (.int ii), .val (.int v0), .val (.int v1), .val (.ref b64), .unset, .unset, .unset, .unset, .unset, .unset, .unset, .unset] [(.int pp), (.int (5 : Int32)), (.ref b64)]))
    refine Go.st (fun _ kt => XS.iconst X79.here hx rfl (hb hby at_130) kt) ?_
    show Go p e below _ (T79.setTop (mkF m 131 #[.val (.int pp), .val (.int en), .val (.int ia), .val (.int vr), .val (.int ee), .val (.int (1 : Int32)), .val (.int ii), .val (.int v0), .val (.int v1), .val (.ref b64), .unset, .unset, .unset, .unset, .unset, .unset, .unset, .unset] [(.int (5 : Int32)), (.int pp), (.int (5 : Int32)), (.ref b64)]))
    refine Go.st (fun _ kt => XS.iload X79.here hx rfl (hb hby at_131) rfl kt) ?_
    show Go p e below _ (T79.setTop (mkF m 133 #[.val (.int pp), .val (.int en), .val (.int ia), .val (.int vr), .val (.int ee), .val (.int (1 : Int32)), .val (.int ii), .val (.int v0), .val (.int v1), .val (.ref b64), .unset, .unset, .unset, .unset, .unset, .unset, .unset, .unset] [(.int (1 : Int32)), (.int (5 : Int32)), (.int pp), (.int (5 : Int32)), (.ref b64)]))
    refine Go.st (fun _ kt => XS.iload X79.here hx rfl (hb hby at_133) rfl kt) ?_
    show Go p e below _ (T79.setTop (mkF m 135 #[.val (.int pp), .val (.int en), .val (.int ia), .val (.int vr), .val (.int ee), .val (.int (1 : Int32)), .val (.int ii), .val (.int v0), .val (.int v1), .val (.ref b64), .unset, .unset, .unset, .unset, .unset, .unset, .unset, .unset] [(.int ii), (.int (1 : Int32)), (.int (5 : Int32)), (.int pp), (.int (5 : Int32)), (.ref b64)]))
    obtain ⟨_, _, ⟨T80, L80, k80, n80⟩, -, X80, ⟨Lc80, hQ80, l80, y80, z80⟩, st80⟩ := Jvm.LawKit.callS X79 hx (y := (⟨"com/example/tributary/tributary/model/CostTableCostPinLaw", "cell", "(IIZI)D"⟩ : MethodName)) hown (mvT hZ (hw _ (List.mem_of_getElem? (i := 2) rfl))) (mvT hZ (hw _ (List.mem_of_getElem? (i := 3) rfl))) (mvT hZ (hw _ (List.mem_of_getElem? (i := 4) rfl))) (mvT hZ (hw _ (List.mem_of_getElem? (i := 5) rfl))) (by decide) (backOf (W := 2) (rm1 l Z a0 hw [] pp (5 : Int32) (1 : Int32) ii h79 n0 Zs79) hZ (hw _ (List.mem_of_getElem? (i := 5) rfl)) (hw _ (List.mem_of_getElem? (i := 4) rfl)) (by decide) (by decide)) (g := (mkF m 135 #[.val (.int pp), .val (.int en), .val (.int ia), .val (.int vr), .val (.int ee), .val (.int (1 : Int32)), .val (.int ii), .val (.int v0), .val (.int v1), .val (.ref b64), .unset, .unset, .unset, .unset, .unset, .unset, .unset, .unset] [(.int ii), (.int (1 : Int32)), (.int (5 : Int32)), (.int pp), (.int (5 : Int32)), (.ref b64)])) rfl (by rw [hml]; rfl) (argsL := [(.int pp), (.int (5 : Int32)), (.int (1 : Int32)), (.int ii)]) (rest := [(.int (5 : Int32)), (.ref b64)]) (lenOf own_pd4 rfl) rfl (by show 2 * 0 + _ ≤ _; exact Nat.le_of_eq rfl) (hb hby at_135) (fun _ _ => ⟨rfl, e79, (by decide : 1 + 0 ≤ _), (by decide : 6 + 0 ≤ _)⟩)
    dsimp only [Pt.U, Pt.locs, Pt.cells, Pt.slots] at X80 l80 y80 z80 st80 hQ80
    subst l80 y80 z80
    obtain ⟨rfl, N80q, e80⟩ := hQ80
    have N80 := Fr.app N79 N80q
    refine Go.st st80 ?_
    show Go p e below _ (T80.setTop (mkF m 138 #[.val (.int pp), .val (.int en), .val (.int ia), .val (.int vr), .val (.int ee), .val (.int (1 : Int32)), .val (.int ii), .val (.int v0), .val (.int v1), .val (.ref b64), .unset, .unset, .unset, .unset, .unset, .unset, .unset, .unset] [(.double (own_cell pp (5 : Int32) (1 : Int32) ii)), (.int (5 : Int32)), (.ref b64)]))
    obtain ⟨cl81, Ar81, q81, S81, N81', H81, G81⟩ := id V79
    have hin81 : ¬ ((5 : Int32) < 0 ∨ cl81.slots.size ≤ ((5 : Int32)).toNatClampNeg) := inb_of S81 ⟨by decide, by decide⟩
    obtain ⟨T82, h82, X82, e82, W82, st82⟩ := stD X80 hx hZ e80 Ar81 (j := (5 : Int32)) hin81 (g := (mkF m 138 #[.val (.int pp), .val (.int en), .val (.int ia), .val (.int vr), .val (.int ee), .val (.int (1 : Int32)), .val (.int ii), .val (.int v0), .val (.int v1), .val (.ref b64), .unset, .unset, .unset, .unset, .unset, .unset, .unset, .unset] [(.double (own_cell pp (5 : Int32) (1 : Int32) ii)), (.int (5 : Int32)), (.ref b64)])) rfl rfl (hb hby at_138)
    refine Go.st st82 ?_
    have V82 : Arv Z h82 b64 k64 .double (6 : Int32) [(.double (own_cell pp (0 : Int32) (1 : Int32) ii)), (.double (own_cell pp (1 : Int32) (1 : Int32) ii)), (.double (own_cell pp (2 : Int32) (1 : Int32) ii)), (.double (own_cell pp (3 : Int32) (1 : Int32) ii)), (.double (own_cell pp (4 : Int32) (1 : Int32) ii)), (.double (own_cell pp (5 : Int32) (1 : Int32) ii))] (.double (0 : UInt64)) := Arv.set Ar81 q81 S81 N81' H81 G81 rfl W82 5 rfl (Nat.le_of_ble_eq_true rfl)
    have Zs82 : n0 ≤ h82.size := Nat.le_trans Zs79 (Nat.le_of_eq W82.size.symm)
    have N82 := Fr.snoc X82 N80 gn_b64
    show Go p e below _ (T82.setTop (mkF m 139 #[.val (.int pp), .val (.int en), .val (.int ia), .val (.int vr), .val (.int ee), .val (.int (1 : Int32)), .val (.int ii), .val (.int v0), .val (.int v1), .val (.ref b64), .unset, .unset, .unset, .unset, .unset, .unset, .unset, .unset] []))
    refine Go.st (fun _ kt => XS.iconst X82.here hx rfl (hb hby at_139) kt) ?_
    show Go p e below _ (T82.setTop (mkF m 140 #[.val (.int pp), .val (.int en), .val (.int ia), .val (.int vr), .val (.int ee), .val (.int (1 : Int32)), .val (.int ii), .val (.int v0), .val (.int v1), .val (.ref b64), .unset, .unset, .unset, .unset, .unset, .unset, .unset, .unset] [(.int (2 : Int32))]))
    obtain ⟨T83, h83, k83, X83, e83, E83, A83, Y83, st83⟩ := newPE X82 hx hZ (hw _ (List.mem_of_getElem? (i := 6) rfl)) e82 (g := (mkF m 140 #[.val (.int pp), .val (.int en), .val (.int ia), .val (.int vr), .val (.int ee), .val (.int (1 : Int32)), .val (.int ii), .val (.int v0), .val (.int v1), .val (.ref b64), .unset, .unset, .unset, .unset, .unset, .unset, .unset, .unset] [(.int (2 : Int32))])) rfl (hb hby at_140) rfl (by decide) (cap := 2) (by decide) (by decide) (by decide) (by decide) (ad := "[I") (by decide)
    obtain ⟨b83, g83⟩ : ∃ z, z = h82.size := ⟨_, rfl⟩
    rw [← g83] at A83 Y83 st83
    have f84 := ((((((Y64.wr W67).wr W70).wr W73).wr W76).wr W79).wr W82)
    have lt_b64_b83 : b64 < b83 := Nat.lt_of_lt_of_eq f84.lt g83.symm
    have gn_b83 : n0 ≤ b83 := Nat.le_trans Zs82 (Nat.le_of_eq g83.symm)
    have Zs83 : n0 ≤ h83.size := Nat.le_trans Zs82 E83.1
    refine Go.st st83 ?_
    have V83 : Arv Z h83 b83 k83 .int (2 : Int32) [(.int (0 : Int32)), (.int (0 : Int32))] (.int (0 : Int32)) := (Arv.new A83 (by decide)).pad (pad_rep [] (.int (0 : Int32)) 2)
    show Go p e below _ (T83.setTop (mkF m 142 #[.val (.int pp), .val (.int en), .val (.int ia), .val (.int vr), .val (.int ee), .val (.int (1 : Int32)), .val (.int ii), .val (.int v0), .val (.int v1), .val (.ref b64), .unset, .unset, .unset, .unset, .unset, .unset, .unset, .unset] [(.ref b83)]))
    refine Go.st (fun _ kt => XS.astore X83.here hx rfl (hb hby at_142) rfl rfl (l' := #[.val (.int pp), .val (.int en), .val (.int ia), .val (.int vr), .val (.int ee), .val (.int (1 : Int32)), .val (.int ii), .val (.int v0), .val (.int v1), .val (.ref b64), .val (.ref b83), .unset, .unset, .unset, .unset, .unset, .unset, .unset]) rfl kt) ?_
    show Go p e below _ (T83.setTop (mkF m 144 #[.val (.int pp), .val (.int en), .val (.int ia), .val (.int vr), .val (.int ee), .val (.int (1 : Int32)), .val (.int ii), .val (.int v0), .val (.int v1), .val (.ref b64), .val (.ref b83), .unset, .unset, .unset, .unset, .unset, .unset, .unset] []))
    refine Go.st (fun _ kt => XS.aload X83.here hx rfl (hb hby at_144) rfl rfl kt) ?_
    show Go p e below _ (T83.setTop (mkF m 146 #[.val (.int pp), .val (.int en), .val (.int ia), .val (.int vr), .val (.int ee), .val (.int (1 : Int32)), .val (.int ii), .val (.int v0), .val (.int v1), .val (.ref b64), .val (.ref b83), .unset, .unset, .unset, .unset, .unset, .unset, .unset] [(.ref b83)]))
    refine Go.st (fun _ kt => XS.iconst X83.here hx rfl (hb hby at_146) kt) ?_
    show Go p e below _ (T83.setTop (mkF m 147 #[.val (.int pp), .val (.int en), .val (.int ia), .val (.int vr), .val (.int ee), .val (.int (1 : Int32)), .val (.int ii), .val (.int v0), .val (.int v1), .val (.ref b64), .val (.ref b83), .unset, .unset, .unset, .unset, .unset, .unset, .unset] [(.int (0 : Int32)), (.ref b83)]))
    refine Go.st (fun _ kt => XS.iload X83.here hx rfl (hb hby at_147) rfl kt) ?_
    show Go p e below _ (T83.setTop (mkF m 149 #[.val (.int pp), .val (.int en), .val (.int ia), .val (.int vr), .val (.int ee), .val (.int (1 : Int32)), .val (.int ii), .val (.int v0), .val (.int v1), .val (.ref b64), .val (.ref b83), .unset, .unset, .unset, .unset, .unset, .unset, .unset] [(.int v0), (.int (0 : Int32)), (.ref b83)]))
    obtain ⟨cl85, Ar85, q85, S85, N85', H85, G85⟩ := id V83
    have hin85 : ¬ ((0 : Int32) < 0 ∨ cl85.slots.size ≤ ((0 : Int32)).toNatClampNeg) := inb_of S85 ⟨by decide, by decide⟩
    obtain ⟨T86, h86, X86, e86, W86, st86⟩ := stI X83 hx hZ e83 Ar85 (j := (0 : Int32)) hin85 (g := (mkF m 149 #[.val (.int pp), .val (.int en), .val (.int ia), .val (.int vr), .val (.int ee), .val (.int (1 : Int32)), .val (.int ii), .val (.int v0), .val (.int v1), .val (.ref b64), .val (.ref b83), .unset, .unset, .unset, .unset, .unset, .unset, .unset] [(.int v0), (.int (0 : Int32)), (.ref b83)])) rfl rfl (hb hby at_149)
    refine Go.st st86 ?_
    have V86 : Arv Z h86 b83 k83 .int (2 : Int32) [(.int v0), (.int (0 : Int32))] (.int (0 : Int32)) := Arv.set Ar85 q85 S85 N85' H85 G85 rfl W86 0 rfl (Nat.le_of_ble_eq_true rfl)
    have Zs86 : n0 ≤ h86.size := Nat.le_trans Zs83 (Nat.le_of_eq W86.size.symm)
    have N86 := Fr.snoc X86 N82 gn_b83
    show Go p e below _ (T86.setTop (mkF m 150 #[.val (.int pp), .val (.int en), .val (.int ia), .val (.int vr), .val (.int ee), .val (.int (1 : Int32)), .val (.int ii), .val (.int v0), .val (.int v1), .val (.ref b64), .val (.ref b83), .unset, .unset, .unset, .unset, .unset, .unset, .unset] []))
    refine Go.st (fun _ kt => XS.aload X86.here hx rfl (hb hby at_150) rfl rfl kt) ?_
    show Go p e below _ (T86.setTop (mkF m 152 #[.val (.int pp), .val (.int en), .val (.int ia), .val (.int vr), .val (.int ee), .val (.int (1 : Int32)), .val (.int ii), .val (.int v0), .val (.int v1), .val (.ref b64), .val (.ref b83), .unset, .unset, .unset, .unset, .unset, .unset, .unset] [(.ref b83)]))
    refine Go.st (fun _ kt => XS.iconst X86.here hx rfl (hb hby at_152) kt) ?_
    show Go p e below _ (T86.setTop (mkF m 153 #[.val (.int pp), .val (.int en), .val (.int ia), .val (.int vr), .val (.int ee), .val (.int (1 : Int32)), .val (.int ii), .val (.int v0), .val (.int v1), .val (.ref b64), .val (.ref b83), .unset, .unset, .unset, .unset, .unset, .unset, .unset] [(.int (1 : Int32)), (.ref b83)]))
    refine Go.st (fun _ kt => XS.iload X86.here hx rfl (hb hby at_153) rfl kt) ?_
    show Go p e below _ (T86.setTop (mkF m 155 #[.val (.int pp), .val (.int en), .val (.int ia), .val (.int vr), .val (.int ee), .val (.int (1 : Int32)), .val (.int ii), .val (.int v0), .val (.int v1), .val (.ref b64), .val (.ref b83), .unset, .unset, .unset, .unset, .unset, .unset, .unset] [(.int v1), (.int (1 : Int32)), (.ref b83)]))
    obtain ⟨cl87, Ar87, q87, S87, N87', H87, G87⟩ := id V86
    have hin87 : ¬ ((1 : Int32) < 0 ∨ cl87.slots.size ≤ ((1 : Int32)).toNatClampNeg) := inb_of S87 ⟨by decide, by decide⟩
    obtain ⟨T88, h88, X88, e88, W88, st88⟩ := stI X86 hx hZ e86 Ar87 (j := (1 : Int32)) hin87 (g := (mkF m 155 #[.val (.int pp), .val (.int en), .val (.int ia), .val (.int vr), .val (.int ee), .val (.int (1 : Int32)), .val (.int ii), .val (.int v0), .val (.int v1), .val (.ref b64), .val (.ref b83), .unset, .unset, .unset, .unset, .unset, .unset, .unset] [(.int v1), (.int (1 : Int32)), (.ref b83)])) rfl rfl (hb hby at_155)
    refine Go.st st88 ?_
    have V88 : Arv Z h88 b83 k83 .int (2 : Int32) [(.int v0), (.int v1)] (.int (0 : Int32)) := Arv.set Ar87 q87 S87 N87' H87 G87 rfl W88 1 rfl (Nat.le_of_ble_eq_true rfl)
    have Zs88 : n0 ≤ h88.size := Nat.le_trans Zs86 (Nat.le_of_eq W88.size.symm)
    have N88 := Fr.snoc X88 N86 gn_b83
    show Go p e below _ (T88.setTop (mkF m 156 #[.val (.int pp), .val (.int en), .val (.int ia), .val (.int vr), .val (.int ee), .val (.int (1 : Int32)), .val (.int ii), .val (.int v0), .val (.int v1), .val (.ref b64), .val (.ref b83), .unset, .unset, .unset, .unset, .unset, .unset, .unset] []))
    refine Go.st (fun _ kt => XS.iconst X88.here hx rfl (hb hby at_156) kt) ?_
    show Go p e below _ (T88.setTop (mkF m 157 #[.val (.int pp), .val (.int en), .val (.int ia), .val (.int vr), .val (.int ee), .val (.int (1 : Int32)), .val (.int ii), .val (.int v0), .val (.int v1), .val (.ref b64), .val (.ref b83), .unset, .unset, .unset, .unset, .unset, .unset, .unset] [(.int (2 : Int32))]))
    obtain ⟨T89, h89, k89, X89, e89, E89, A89, Y89, st89⟩ := newPE X88 hx hZ (hw _ (List.mem_of_getElem? (i := 6) rfl)) e88 (g := (mkF m 157 #[.val (.int pp), .val (.int en), .val (.int ia), .val (.int vr), .val (.int ee), .val (.int (1 : Int32)), .val (.int ii), .val (.int v0), .val (.int v1), .val (.ref b64), .val (.ref b83), .unset, .unset, .unset, .unset, .unset, .unset, .unset] [(.int (2 : Int32))])) rfl (hb hby at_157) rfl (by decide) (cap := 2) (by decide) (by decide) (by decide) (by decide) (ad := "[I") (by decide)
    obtain ⟨b89, g89⟩ : ∃ z, z = h88.size := ⟨_, rfl⟩
    rw [← g89] at A89 Y89 st89
    have f90 := (((f84.ext E83).wr W86).wr W88)
    have lt_b64_b89 : b64 < b89 := Nat.lt_of_lt_of_eq f90.lt g89.symm
    have f91 := ((Y83.wr W86).wr W88)
    have lt_b83_b89 : b83 < b89 := Nat.lt_of_lt_of_eq f91.lt g89.symm
    have gn_b89 : n0 ≤ b89 := Nat.le_trans Zs88 (Nat.le_of_eq g89.symm)
    have Zs89 : n0 ≤ h89.size := Nat.le_trans Zs88 E89.1
    refine Go.st st89 ?_
    have V89 : Arv Z h89 b89 k89 .int (2 : Int32) [(.int (0 : Int32)), (.int (0 : Int32))] (.int (0 : Int32)) := (Arv.new A89 (by decide)).pad (pad_rep [] (.int (0 : Int32)) 2)
    show Go p e below _ (T89.setTop (mkF m 159 #[.val (.int pp), .val (.int en), .val (.int ia), .val (.int vr), .val (.int ee), .val (.int (1 : Int32)), .val (.int ii), .val (.int v0), .val (.int v1), .val (.ref b64), .val (.ref b83), .unset, .unset, .unset, .unset, .unset, .unset, .unset] [(.ref b89)]))
    refine Go.st (fun _ kt => XS.astore X89.here hx rfl (hb hby at_159) rfl rfl (l' := #[.val (.int pp), .val (.int en), .val (.int ia), .val (.int vr), .val (.int ee), .val (.int (1 : Int32)), .val (.int ii), .val (.int v0), .val (.int v1), .val (.ref b64), .val (.ref b83), .val (.ref b89), .unset, .unset, .unset, .unset, .unset, .unset]) rfl kt) ?_
    show Go p e below _ (T89.setTop (mkF m 161 #[.val (.int pp), .val (.int en), .val (.int ia), .val (.int vr), .val (.int ee), .val (.int (1 : Int32)), .val (.int ii), .val (.int v0), .val (.int v1), .val (.ref b64), .val (.ref b83), .val (.ref b89), .unset, .unset, .unset, .unset, .unset, .unset] []))
    refine Go.st (fun _ kt => XS.aload X89.here hx rfl (hb hby at_161) rfl rfl kt) ?_
    show Go p e below _ (T89.setTop (mkF m 163 #[.val (.int pp), .val (.int en), .val (.int ia), .val (.int vr), .val (.int ee), .val (.int (1 : Int32)), .val (.int ii), .val (.int v0), .val (.int v1), .val (.ref b64), .val (.ref b83), .val (.ref b89), .unset, .unset, .unset, .unset, .unset, .unset] [(.ref b89)]))
    refine Go.st (fun _ kt => XS.iconst X89.here hx rfl (hb hby at_163) kt) ?_
    show Go p e below _ (T89.setTop (mkF m 164 #[.val (.int pp), .val (.int en), .val (.int ia), .val (.int vr), .val (.int ee), .val (.int (1 : Int32)), .val (.int ii), .val (.int v0), .val (.int v1), .val (.ref b64), .val (.ref b83), .val (.ref b89), .unset, .unset, .unset, .unset, .unset, .unset] [(.int (0 : Int32)), (.ref b89)]))
    refine Go.st (fun _ kt => XS.iconst X89.here hx rfl (hb hby at_164) kt) ?_
    show Go p e below _ (T89.setTop (mkF m 165 #[.val (.int pp), .val (.int en), .val (.int ia), .val (.int vr), .val (.int ee), .val (.int (1 : Int32)), .val (.int ii), .val (.int v0), .val (.int v1), .val (.ref b64), .val (.ref b83), .val (.ref b89), .unset, .unset, .unset, .unset, .unset, .unset] [(.int (2 : Int32)), (.int (0 : Int32)), (.ref b89)]))
    obtain ⟨cl92, Ar92, q92, S92, N92', H92, G92⟩ := id V89
    have hin92 : ¬ ((0 : Int32) < 0 ∨ cl92.slots.size ≤ ((0 : Int32)).toNatClampNeg) := inb_of S92 ⟨by decide, by decide⟩
    obtain ⟨T93, h93, X93, e93, W93, st93⟩ := stI X89 hx hZ e89 Ar92 (j := (0 : Int32)) hin92 (g := (mkF m 165 #[.val (.int pp), .val (.int en), .val (.int ia), .val (.int vr), .val (.int ee), .val (.int (1 : Int32)), .val (.int ii), .val (.int v0), .val (.int v1), .val (.ref b64), .val (.ref b83), .val (.ref b89), .unset, .unset, .unset, .unset, .unset, .unset] [(.int (2 : Int32)), (.int (0 : Int32)), (.ref b89)])) rfl rfl (hb hby at_165)
    refine Go.st st93 ?_
    have V93 : Arv Z h93 b89 k89 .int (2 : Int32) [(.int (2 : Int32)), (.int (0 : Int32))] (.int (0 : Int32)) := Arv.set Ar92 q92 S92 N92' H92 G92 rfl W93 0 rfl (Nat.le_of_ble_eq_true rfl)
    have Zs93 : n0 ≤ h93.size := Nat.le_trans Zs89 (Nat.le_of_eq W93.size.symm)
    have N93 := Fr.snoc X93 N88 gn_b89
    show Go p e below _ (T93.setTop (mkF m 166 #[.val (.int pp), .val (.int en), .val (.int ia), .val (.int vr), .val (.int ee), .val (.int (1 : Int32)), .val (.int ii), .val (.int v0), .val (.int v1), .val (.ref b64), .val (.ref b83), .val (.ref b89), .unset, .unset, .unset, .unset, .unset, .unset] []))
    refine Go.st (fun _ kt => XS.aload X93.here hx rfl (hb hby at_166) rfl rfl kt) ?_
    show Go p e below _ (T93.setTop (mkF m 168 #[.val (.int pp), .val (.int en), .val (.int ia), .val (.int vr), .val (.int ee), .val (.int (1 : Int32)), .val (.int ii), .val (.int v0), .val (.int v1), .val (.ref b64), .val (.ref b83), .val (.ref b89), .unset, .unset, .unset, .unset, .unset, .unset] [(.ref b89)]))
    refine Go.st (fun _ kt => XS.iconst X93.here hx rfl (hb hby at_168) kt) ?_
    show Go p e below _ (T93.setTop (mkF m 169 #[.val (.int pp), .val (.int en), .val (.int ia), .val (.int vr), .val (.int ee), .val (.int (1 : Int32)), .val (.int ii), .val (.int v0), .val (.int v1), .val (.ref b64), .val (.ref b83), .val (.ref b89), .unset, .unset, .unset, .unset, .unset, .unset] [(.int (1 : Int32)), (.ref b89)]))
    refine Go.st (fun _ kt => XS.iconst X93.here hx rfl (hb hby at_169) kt) ?_
    show Go p e below _ (T93.setTop (mkF m 170 #[.val (.int pp), .val (.int en), .val (.int ia), .val (.int vr), .val (.int ee), .val (.int (1 : Int32)), .val (.int ii), .val (.int v0), .val (.int v1), .val (.ref b64), .val (.ref b83), .val (.ref b89), .unset, .unset, .unset, .unset, .unset, .unset] [(.int (3 : Int32)), (.int (1 : Int32)), (.ref b89)]))
    obtain ⟨cl94, Ar94, q94, S94, N94', H94, G94⟩ := id V93
    have hin94 : ¬ ((1 : Int32) < 0 ∨ cl94.slots.size ≤ ((1 : Int32)).toNatClampNeg) := inb_of S94 ⟨by decide, by decide⟩
    obtain ⟨T95, h95, X95, e95, W95, st95⟩ := stI X93 hx hZ e93 Ar94 (j := (1 : Int32)) hin94 (g := (mkF m 170 #[.val (.int pp), .val (.int en), .val (.int ia), .val (.int vr), .val (.int ee), .val (.int (1 : Int32)), .val (.int ii), .val (.int v0), .val (.int v1), .val (.ref b64), .val (.ref b83), .val (.ref b89), .unset, .unset, .unset, .unset, .unset, .unset] [(.int (3 : Int32)), (.int (1 : Int32)), (.ref b89)])) rfl rfl (hb hby at_170)
    refine Go.st st95 ?_
    have V95 : Arv Z h95 b89 k89 .int (2 : Int32) [(.int (2 : Int32)), (.int (3 : Int32))] (.int (0 : Int32)) := Arv.set Ar94 q94 S94 N94' H94 G94 rfl W95 1 rfl (Nat.le_of_ble_eq_true rfl)
    have Zs95 : n0 ≤ h95.size := Nat.le_trans Zs93 (Nat.le_of_eq W95.size.symm)
    have N95 := Fr.snoc X95 N93 gn_b89
    show Go p e below _ (T95.setTop (mkF m 171 #[.val (.int pp), .val (.int en), .val (.int ia), .val (.int vr), .val (.int ee), .val (.int (1 : Int32)), .val (.int ii), .val (.int v0), .val (.int v1), .val (.ref b64), .val (.ref b83), .val (.ref b89), .unset, .unset, .unset, .unset, .unset, .unset] []))
    obtain ⟨T96, h96, X96, e96, E96, A96, D96, U96, st96⟩ := newO X95 hx hZ hown (hw _ (List.mem_of_getElem? (i := 7) rfl)) (hw _ (List.mem_of_getElem? (i := 8) rfl)) (hw _ (List.mem_of_getElem? (i := 9) rfl)) e95 (g := (mkF m 171 #[.val (.int pp), .val (.int en), .val (.int ia), .val (.int vr), .val (.int ee), .val (.int (1 : Int32)), .val (.int ii), .val (.int v0), .val (.int v1), .val (.ref b64), .val (.ref b83), .val (.ref b89), .unset, .unset, .unset, .unset, .unset, .unset] [])) rfl (hb hby at_171) (by decide) (by decide)
    obtain ⟨b96, g96⟩ : ∃ z, z = h95.size := ⟨_, rfl⟩
    rw [← g96] at A96 D96 U96 st96
    have f97 := (((f90.ext E89).wr W93).wr W95)
    have lt_b64_b96 : b64 < b96 := Nat.lt_of_lt_of_eq f97.lt g96.symm
    have f98 := (((f91.ext E89).wr W93).wr W95)
    have lt_b83_b96 : b83 < b96 := Nat.lt_of_lt_of_eq f98.lt g96.symm
    have f99 := ((Y89.wr W93).wr W95)
    have lt_b89_b96 : b89 < b96 := Nat.lt_of_lt_of_eq f99.lt g96.symm
    have gn_b96 : n0 ≤ b96 := Nat.le_trans Zs95 (Nat.le_of_eq g96.symm)
    have Zs96 : n0 ≤ h96.size := Nat.le_trans Zs95 E96.1
    refine Go.st st96 ?_
    have F96_variables : Fld Z h96 b96 "com/example/tributary/tributary/model/CostTable" "variables" "[I" .null := D96 (Or.inr (hw _ (List.mem_of_getElem? (i := 30) rfl))) (ty := (.array .int)) (by decide)
    have F96_sizes : Fld Z h96 b96 "com/example/tributary/tributary/model/CostTable" "sizes" "[I" .null := D96 (Or.inr (hw _ (List.mem_of_getElem? (i := 32) rfl))) (ty := (.array .int)) (by decide)
    have F96_strides : Fld Z h96 b96 "com/example/tributary/tributary/model/CostTable" "strides" "[I" .null := D96 (Or.inr (hw _ (List.mem_of_getElem? (i := 37) rfl))) (ty := (.array .int)) (by decide)
    have F96_costs : Fld Z h96 b96 "com/example/tributary/tributary/model/CostTable" "costs" "[D" .null := D96 (Or.inr (hw _ (List.mem_of_getElem? (i := 39) rfl))) (ty := (.array .double)) (by decide)
    show Go p e below _ (T96.setTop (mkF m 174 #[.val (.int pp), .val (.int en), .val (.int ia), .val (.int vr), .val (.int ee), .val (.int (1 : Int32)), .val (.int ii), .val (.int v0), .val (.int v1), .val (.ref b64), .val (.ref b83), .val (.ref b89), .unset, .unset, .unset, .unset, .unset, .unset] [(.ref b96)]))
    refine Go.st (fun _ kt => XS.dup X96.here hx rfl (hb hby at_174) rfl rfl kt) ?_
    show Go p e below _ (T96.setTop (mkF m 175 #[.val (.int pp), .val (.int en), .val (.int ia), .val (.int vr), .val (.int ee), .val (.int (1 : Int32)), .val (.int ii), .val (.int v0), .val (.int v1), .val (.ref b64), .val (.ref b83), .val (.ref b89), .unset, .unset, .unset, .unset, .unset, .unset] [(.ref b96), (.ref b96)]))
    refine Go.st (fun _ kt => XS.aload X96.here hx rfl (hb hby at_175) rfl rfl kt) ?_
    show Go p e below _ (T96.setTop (mkF m 177 #[.val (.int pp), .val (.int en), .val (.int ia), .val (.int vr), .val (.int ee), .val (.int (1 : Int32)), .val (.int ii), .val (.int v0), .val (.int v1), .val (.ref b64), .val (.ref b83), .val (.ref b89), .unset, .unset, .unset, .unset, .unset, .unset] [(.ref b83), (.ref b96), (.ref b96)]))
    refine Go.st (fun _ kt => XS.aload X96.here hx rfl (hb hby at_177) rfl rfl kt) ?_
    show Go p e below _ (T96.setTop (mkF m 179 #[.val (.int pp), .val (.int en), .val (.int ia), .val (.int vr), .val (.int ee), .val (.int (1 : Int32)), .val (.int ii), .val (.int v0), .val (.int v1), .val (.ref b64), .val (.ref b83), .val (.ref b89), .unset, .unset, .unset, .unset, .unset, .unset] [(.ref b89), (.ref b83), (.ref b96), (.ref b96)]))
    refine Go.st (fun _ kt => XS.aload X96.here hx rfl (hb hby at_179) rfl rfl kt) ?_
    show Go p e below _ (T96.setTop (mkF m 181 #[.val (.int pp), .val (.int en), .val (.int ia), .val (.int vr), .val (.int ee), .val (.int (1 : Int32)), .val (.int ii), .val (.int v0), .val (.int v1), .val (.ref b64), .val (.ref b83), .val (.ref b89), .unset, .unset, .unset, .unset, .unset, .unset] [(.ref b64), (.ref b89), (.ref b83), (.ref b96), (.ref b96)]))
    have f100 := ((((V88.ext E89).other W93 (Nat.ne_of_lt lt_b83_b89)).other W95 (Nat.ne_of_lt lt_b83_b89)).ext E96)
    have f101 := (V95.ext E96)
    have f102 := (((((((V82.ext E83).other W86 (Nat.ne_of_lt lt_b64_b83)).other W88 (Nat.ne_of_lt lt_b64_b83)).ext E89).other W93 (Nat.ne_of_lt lt_b64_b89)).other W95 (Nat.ne_of_lt lt_b64_b89)).ext E96)
    have f103 := (f98.ext E96)
    have f104 := (f99.ext E96)
    obtain ⟨_, _, ⟨T105, L105, k105, n105⟩, -, X105, ⟨Lc105, hQ105, l105, y105, z105⟩, st105⟩ := X96.specialBack hx (y := (⟨"com/example/tributary/tributary/model/CostTable", "<init>", "([I[I[D)V"⟩ : MethodName)) rfl hown (mvT hZ (hw _ (List.mem_of_getElem? (i := 10) rfl))) (mvT hZ (hw _ (List.mem_of_getElem? (i := 11) rfl))) (mvT hZ (hw _ (List.mem_of_getElem? (i := 12) rfl))) (by decide) (backOf (W := 1) (rm2 l Z a0 hw [] b96 b83 b89 b64 k83 k89 k64 v0 v1 [(.double (own_cell pp (0 : Int32) (1 : Int32) ii)), (.double (own_cell pp (1 : Int32) (1 : Int32) ii)), (.double (own_cell pp (2 : Int32) (1 : Int32) ii)), (.double (own_cell pp (3 : Int32) (1 : Int32) ii)), (.double (own_cell pp (4 : Int32) (1 : Int32) ii)), (.double (own_cell pp (5 : Int32) (1 : Int32) ii))] h96 n0 Zs96 A96 F96_variables F96_sizes F96_strides F96_costs f100 f101 f102 f103 f104 gn_b96 (Nat.ne_of_lt lt_b83_b96) (Nat.ne_of_lt lt_b89_b96) (Nat.ne_of_lt lt_b64_b96) hW.2.2.1) hZ (hw _ (List.mem_of_getElem? (i := 12) rfl)) (hw _ (List.mem_of_getElem? (i := 9) rfl)) (by decide) (by decide)) (g := (mkF m 181 #[.val (.int pp), .val (.int en), .val (.int ia), .val (.int vr), .val (.int ee), .val (.int (1 : Int32)), .val (.int ii), .val (.int v0), .val (.int v1), .val (.ref b64), .val (.ref b83), .val (.ref b89), .unset, .unset, .unset, .unset, .unset, .unset] [(.ref b64), (.ref b89), (.ref b83), (.ref b96), (.ref b96)])) rfl (by rw [hml]; rfl) (Steps.refl _) (a := b96) (argsL := [(.ref b83), (.ref b89), (.ref b64)]) (rest := [(.ref b96)]) (lenOf own_pd5 rfl) rfl (by show 2 * 0 + _ ≤ _; exact Nat.le_of_eq rfl) (hb hby at_181) (fun _ _ => ⟨rfl, e96, (by decide : 4 + 3 ≤ _), (by decide : 14 + 6 ≤ _)⟩)
    dsimp only [Pt.U, Pt.locs, Pt.cells, Pt.slots] at X105 l105 y105 z105 st105 hQ105
    subst l105 y105 z105
    obtain ⟨bv105, kv105, br105, kr105, rfl, N105q, K105q, hs105, ht105, G105_0, G105_1, G105_2, G105_3, G105_4⟩ := hQ105
    have f106 := (f97.ext E96)
    have lt_b64_bv105 : b64 < bv105 := Nat.lt_of_lt_of_le f106.lt hs105
    have lt_b83_bv105 : b83 < bv105 := Nat.lt_of_lt_of_le f103.lt hs105
    have lt_b89_bv105 : b89 < bv105 := Nat.lt_of_lt_of_le f104.lt hs105
    have lt_b96_bv105 : b96 < bv105 := Nat.lt_of_lt_of_le A96.lt hs105
    have gn_bv105 : n0 ≤ bv105 := Nat.le_trans Zs96 hs105
    have lt_b64_br105 : b64 < br105 := Nat.lt_of_lt_of_le f106.lt ht105
    have lt_b83_br105 : b83 < br105 := Nat.lt_of_lt_of_le f103.lt ht105
    have lt_b89_br105 : b89 < br105 := Nat.lt_of_lt_of_le f104.lt ht105
    have lt_b96_br105 : b96 < br105 := Nat.lt_of_lt_of_le A96.lt ht105
    have gn_br105 : n0 ≤ br105 := Nat.le_trans Zs96 ht105
    have Zs105 : n0 ≤ T105.heap.size := Nat.le_trans Zs96 K105q.1
    have N105 := Fr.app N95 N105q
    refine Go.tr st105 ?_
    show Go p e below _ (T105.setTop (mkF m 184 #[.val (.int pp), .val (.int en), .val (.int ia), .val (.int vr), .val (.int ee), .val (.int (1 : Int32)), .val (.int ii), .val (.int v0), .val (.int v1), .val (.ref b64), .val (.ref b83), .val (.ref b89), .unset, .unset, .unset, .unset, .unset, .unset] [(.ref b96)]))
    refine Go.st (fun _ kt => XS.astore X105.here hx rfl (hb hby at_184) rfl rfl (l' := #[.val (.int pp), .val (.int en), .val (.int ia), .val (.int vr), .val (.int ee), .val (.int (1 : Int32)), .val (.int ii), .val (.int v0), .val (.int v1), .val (.ref b64), .val (.ref b83), .val (.ref b89), .val (.ref b96), .unset, .unset, .unset, .unset, .unset]) rfl kt) ?_
    show Go p e below _ (T105.setTop (mkF m 186 #[.val (.int pp), .val (.int en), .val (.int ia), .val (.int vr), .val (.int ee), .val (.int (1 : Int32)), .val (.int ii), .val (.int v0), .val (.int v1), .val (.ref b64), .val (.ref b83), .val (.ref b89), .val (.ref b96), .unset, .unset, .unset, .unset, .unset] []))
    refine Go.st (fun _ kt => XS.iloadN X105.here hx rfl (hb hby at_186) rfl kt) ?_
    show Go p e below _ (T105.setTop (mkF m 187 #[.val (.int pp), .val (.int en), .val (.int ia), .val (.int vr), .val (.int ee), .val (.int (1 : Int32)), .val (.int ii), .val (.int v0), .val (.int v1), .val (.ref b64), .val (.ref b83), .val (.ref b89), .val (.ref b96), .unset, .unset, .unset, .unset, .unset] [(.int pp)]))
    refine Go.st (fun _ kt => XS.iload X105.here hx rfl (hb hby at_187) rfl kt) ?_
    show Go p e below _ (T105.setTop (mkF m 189 #[.val (.int pp), .val (.int en), .val (.int ia), .val (.int vr), .val (.int ee), .val (.int (1 : Int32)), .val (.int ii), .val (.int v0), .val (.int v1), .val (.ref b64), .val (.ref b83), .val (.ref b89), .val (.ref b96), .unset, .unset, .unset, .unset, .unset] [(.int ee), (.int pp)]))
    refine Go.st (fun _ kt => XS.iload X105.here hx rfl (hb hby at_189) rfl kt) ?_
    show Go p e below _ (T105.setTop (mkF m 191 #[.val (.int pp), .val (.int en), .val (.int ia), .val (.int vr), .val (.int ee), .val (.int (1 : Int32)), .val (.int ii), .val (.int v0), .val (.int v1), .val (.ref b64), .val (.ref b83), .val (.ref b89), .val (.ref b96), .unset, .unset, .unset, .unset, .unset] [(.int (1 : Int32)), (.int ee), (.int pp)]))
    refine Go.st (fun _ kt => XS.iload X105.here hx rfl (hb hby at_191) rfl kt) ?_
    show Go p e below _ (T105.setTop (mkF m 193 #[.val (.int pp), .val (.int en), .val (.int ia), .val (.int vr), .val (.int ee), .val (.int (1 : Int32)), .val (.int ii), .val (.int v0), .val (.int v1), .val (.ref b64), .val (.ref b83), .val (.ref b89), .val (.ref b96), .unset, .unset, .unset, .unset, .unset] [(.int ii), (.int (1 : Int32)), (.int ee), (.int pp)]))
    obtain ⟨_, _, ⟨T107, L107, k107, n107⟩, -, X107, ⟨Lc107, hQ107, l107, y107, z107⟩, st107⟩ := Jvm.LawKit.callS X105 hx (y := (⟨"com/example/tributary/tributary/model/CostTableCostPinLaw", "cell", "(IIZI)D"⟩ : MethodName)) hown (mvT hZ (hw _ (List.mem_of_getElem? (i := 2) rfl))) (mvT hZ (hw _ (List.mem_of_getElem? (i := 3) rfl))) (mvT hZ (hw _ (List.mem_of_getElem? (i := 4) rfl))) (mvT hZ (hw _ (List.mem_of_getElem? (i := 5) rfl))) (by decide) (backOf (W := 0) (rm1 l Z a0 hw [] pp ee (1 : Int32) ii T105.heap n0 Zs105) hZ (hw _ (List.mem_of_getElem? (i := 5) rfl)) (hw _ (List.mem_of_getElem? (i := 4) rfl)) (by decide) (by decide)) (g := (mkF m 193 #[.val (.int pp), .val (.int en), .val (.int ia), .val (.int vr), .val (.int ee), .val (.int (1 : Int32)), .val (.int ii), .val (.int v0), .val (.int v1), .val (.ref b64), .val (.ref b83), .val (.ref b89), .val (.ref b96), .unset, .unset, .unset, .unset, .unset] [(.int ii), (.int (1 : Int32)), (.int ee), (.int pp)])) rfl (by rw [hml]; rfl) (argsL := [(.int pp), (.int ee), (.int (1 : Int32)), (.int ii)]) (rest := []) (lenOf own_pd4 rfl) rfl (by show 2 * 0 + _ ≤ _; exact Nat.le_of_eq rfl) (hb hby at_193) (fun _ _ => ⟨rfl, rfl, (by decide : 7 + 0 ≤ _), (by decide : 20 + 0 ≤ _)⟩)
    dsimp only [Pt.U, Pt.locs, Pt.cells, Pt.slots] at X107 l107 y107 z107 st107 hQ107
    subst l107 y107 z107
    obtain ⟨rfl, N107q, e107⟩ := hQ107
    have N107 := Fr.app N105 N107q
    refine Go.st st107 ?_
    show Go p e below _ (T107.setTop (mkF m 196 #[.val (.int pp), .val (.int en), .val (.int ia), .val (.int vr), .val (.int ee), .val (.int (1 : Int32)), .val (.int ii), .val (.int v0), .val (.int v1), .val (.ref b64), .val (.ref b83), .val (.ref b89), .val (.ref b96), .unset, .unset, .unset, .unset, .unset] [(.double (own_cell pp ee (1 : Int32) ii))]))
    refine Go.st (fun _ kt => XS.dstore X107.here hx rfl (hb hby at_196) rfl (l' := #[.val (.int pp), .val (.int en), .val (.int ia), .val (.int vr), .val (.int ee), .val (.int (1 : Int32)), .val (.int ii), .val (.int v0), .val (.int v1), .val (.ref b64), .val (.ref b83), .val (.ref b89), .val (.ref b96), .val (.double (own_cell pp ee (1 : Int32) ii)), .second, .unset, .unset, .unset]) rfl kt) ?_
    show Go p e below _ (T107.setTop (mkF m 198 #[.val (.int pp), .val (.int en), .val (.int ia), .val (.int vr), .val (.int ee), .val (.int (1 : Int32)), .val (.int ii), .val (.int v0), .val (.int v1), .val (.ref b64), .val (.ref b83), .val (.ref b89), .val (.ref b96), .val (.double (own_cell pp ee (1 : Int32) ii)), .second, .unset, .unset, .unset] []))
    refine Go.st (fun _ kt => XS.iconst X107.here hx rfl (hb hby at_198) kt) ?_
    show Go p e below _ (T107.setTop (mkF m 199 #[.val (.int pp), .val (.int en), .val (.int ia), .val (.int vr), .val (.int ee), .val (.int (1 : Int32)), .val (.int ii), .val (.int v0), .val (.int v1), .val (.ref b64), .val (.ref b83), .val (.ref b89), .val (.ref b96), .val (.double (own_cell pp ee (1 : Int32) ii)), .second, .unset, .unset, .unset] [(.int (4 : Int32))]))
    obtain ⟨T108, h108, k108, X108, e108, E108, A108, Y108, st108⟩ := newPE X107 hx hZ (hw _ (List.mem_of_getElem? (i := 6) rfl)) e107 (g := (mkF m 199 #[.val (.int pp), .val (.int en), .val (.int ia), .val (.int vr), .val (.int ee), .val (.int (1 : Int32)), .val (.int ii), .val (.int v0), .val (.int v1), .val (.ref b64), .val (.ref b83), .val (.ref b89), .val (.ref b96), .val (.double (own_cell pp ee (1 : Int32) ii)), .second, .unset, .unset, .unset] [(.int (4 : Int32))])) rfl (hb hby at_199) rfl (by decide) (cap := 4) (by decide) (by decide) (by decide) (by decide) (ad := "[I") (by decide)
    obtain ⟨b108, g108⟩ : ∃ z, z = T105.heap.size := ⟨_, rfl⟩
    rw [← g108] at A108 Y108 st108
    have f109 := (f106.keep K105q)
    have lt_b64_b108 : b64 < b108 := Nat.lt_of_lt_of_eq f109.lt g108.symm
    have f110 := (f103.keep K105q)
    have lt_b83_b108 : b83 < b108 := Nat.lt_of_lt_of_eq f110.lt g108.symm
    have f111 := (f104.keep K105q)
    have lt_b89_b108 : b89 < b108 := Nat.lt_of_lt_of_eq f111.lt g108.symm
    have f112 := (A96.keep K105q)
    have lt_b96_b108 : b96 < b108 := Nat.lt_of_lt_of_eq f112.lt g108.symm
    have lt_bv105_b108 : bv105 < b108 := Nat.lt_of_lt_of_eq G105_3.lt g108.symm
    have lt_br105_b108 : br105 < b108 := Nat.lt_of_lt_of_eq G105_4.lt g108.symm
    have gn_b108 : n0 ≤ b108 := Nat.le_trans Zs105 (Nat.le_of_eq g108.symm)
    have Zs108 : n0 ≤ h108.size := Nat.le_trans Zs105 E108.1
    refine Go.st st108 ?_
    have V108 : Arv Z h108 b108 k108 .int (4 : Int32) [(.int (0 : Int32)), (.int (0 : Int32)), (.int (0 : Int32)), (.int (0 : Int32))] (.int (0 : Int32)) := (Arv.new A108 (by decide)).pad (pad_rep [] (.int (0 : Int32)) 4)
    show Go p e below _ (T108.setTop (mkF m 201 #[.val (.int pp), .val (.int en), .val (.int ia), .val (.int vr), .val (.int ee), .val (.int (1 : Int32)), .val (.int ii), .val (.int v0), .val (.int v1), .val (.ref b64), .val (.ref b83), .val (.ref b89), .val (.ref b96), .val (.double (own_cell pp ee (1 : Int32) ii)), .second, .unset, .unset, .unset] [(.ref b108)]))
    refine Go.st (fun _ kt => XS.astore X108.here hx rfl (hb hby at_201) rfl rfl (l' := #[.val (.int pp), .val (.int en), .val (.int ia), .val (.int vr), .val (.int ee), .val (.int (1 : Int32)), .val (.int ii), .val (.int v0), .val (.int v1), .val (.ref b64), .val (.ref b83), .val (.ref b89), .val (.ref b96), .val (.double (own_cell pp ee (1 : Int32) ii)), .second, .val (.ref b108), .unset, .unset]) rfl kt) ?_
    show Go p e below _ (T108.setTop (mkF m 203 #[.val (.int pp), .val (.int en), .val (.int ia), .val (.int vr), .val (.int ee), .val (.int (1 : Int32)), .val (.int ii), .val (.int v0), .val (.int v1), .val (.ref b64), .val (.ref b83), .val (.ref b89), .val (.ref b96), .val (.double (own_cell pp ee (1 : Int32) ii)), .second, .val (.ref b108), .unset, .unset] []))
    refine Go.st (fun _ kt => XS.aload X108.here hx rfl (hb hby at_203) rfl rfl kt) ?_
    show Go p e below _ (T108.setTop (mkF m 205 #[.val (.int pp), .val (.int en), .val (.int ia), .val (.int vr), .val (.int ee), .val (.int (1 : Int32)), .val (.int ii), .val (.int v0), .val (.int v1), .val (.ref b64), .val (.ref b83), .val (.ref b89), .val (.ref b96), .val (.double (own_cell pp ee (1 : Int32) ii)), .second, .val (.ref b108), .unset, .unset] [(.ref b108)]))
    refine Go.st (fun _ kt => XS.iload X108.here hx rfl (hb hby at_205) rfl kt) ?_
    show Go p e below _ (T108.setTop (mkF m 207 #[.val (.int pp), .val (.int en), .val (.int ia), .val (.int vr), .val (.int ee), .val (.int (1 : Int32)), .val (.int ii), .val (.int v0), .val (.int v1), .val (.ref b64), .val (.ref b83), .val (.ref b89), .val (.ref b96), .val (.double (own_cell pp ee (1 : Int32) ii)), .second, .val (.ref b108), .unset, .unset] [(.int v0), (.ref b108)]))
    refine Go.st (fun _ kt => XS.iload X108.here hx rfl (hb hby at_207) rfl kt) ?_
    show Go p e below _ (T108.setTop (mkF m 209 #[.val (.int pp), .val (.int en), .val (.int ia), .val (.int vr), .val (.int ee), .val (.int (1 : Int32)), .val (.int ii), .val (.int v0), .val (.int v1), .val (.ref b64), .val (.ref b83), .val (.ref b89), .val (.ref b96), .val (.double (own_cell pp ee (1 : Int32) ii)), .second, .val (.ref b108), .unset, .unset] [(.int ee), (.int v0), (.ref b108)]))
    refine Go.st (fun _ kt => XS.iconst X108.here hx rfl (hb hby at_209) kt) ?_
    show Go p e below _ (T108.setTop (mkF m 210 #[.val (.int pp), .val (.int en), .val (.int ia), .val (.int vr), .val (.int ee), .val (.int (1 : Int32)), .val (.int ii), .val (.int v0), .val (.int v1), .val (.ref b64), .val (.ref b83), .val (.ref b89), .val (.ref b96), .val (.double (own_cell pp ee (1 : Int32) ii)), .second, .val (.ref b108), .unset, .unset] [(.int (3 : Int32)), (.int ee), (.int v0), (.ref b108)]))
    refine Go.st (fun _ kt => XS.idiv X108.here hx rfl (hb hby at_210) rfl (by decide) kt) ?_
    show Go p e below _ (T108.setTop (mkF m 211 #[.val (.int pp), .val (.int en), .val (.int ia), .val (.int vr), .val (.int ee), .val (.int (1 : Int32)), .val (.int ii), .val (.int v0), .val (.int v1), .val (.ref b64), .val (.ref b83), .val (.ref b89), .val (.ref b96), .val (.double (own_cell pp ee (1 : Int32) ii)), .second, .val (.ref b108), .unset, .unset] [(.int (ee / (3 : Int32))), (.int v0), (.ref b108)]))
    obtain ⟨cl113, Ar113, q113, S113, N113', H113, G113⟩ := id V108
    have hin113 : ¬ (v0 < 0 ∨ cl113.slots.size ≤ (v0).toNatClampNeg) := inb_of S113 hW.1
    obtain ⟨T114, h114, X114, e114, W114, st114⟩ := stI X108 hx hZ e108 Ar113 (j := v0) hin113 (g := (mkF m 211 #[.val (.int pp), .val (.int en), .val (.int ia), .val (.int vr), .val (.int ee), .val (.int (1 : Int32)), .val (.int ii), .val (.int v0), .val (.int v1), .val (.ref b64), .val (.ref b83), .val (.ref b89), .val (.ref b96), .val (.double (own_cell pp ee (1 : Int32) ii)), .second, .val (.ref b108), .unset, .unset] [(.int (ee / (3 : Int32))), (.int v0), (.ref b108)])) rfl rfl (hb hby at_211)
    refine Go.st st114 ?_
    have V114 : Arv Z h114 b108 k108 .int (4 : Int32) ([(.int (0 : Int32)), (.int (0 : Int32)), (.int (0 : Int32)), (.int (0 : Int32))].set v0.toNatClampNeg (.int (ee / (3 : Int32)))) (.int (0 : Int32)) := Arv.set Ar113 q113 S113 N113' H113 G113 rfl W114 _ rfl hW.2.2.2.2.1
    have Zs114 : n0 ≤ h114.size := Nat.le_trans Zs108 (Nat.le_of_eq W114.size.symm)
    have N114 := Fr.snoc X114 N107 gn_b108
    show Go p e below _ (T114.setTop (mkF m 212 #[.val (.int pp), .val (.int en), .val (.int ia), .val (.int vr), .val (.int ee), .val (.int (1 : Int32)), .val (.int ii), .val (.int v0), .val (.int v1), .val (.ref b64), .val (.ref b83), .val (.ref b89), .val (.ref b96), .val (.double (own_cell pp ee (1 : Int32) ii)), .second, .val (.ref b108), .unset, .unset] []))
    refine Go.st (fun _ kt => XS.aload X114.here hx rfl (hb hby at_212) rfl rfl kt) ?_
    show Go p e below _ (T114.setTop (mkF m 214 #[.val (.int pp), .val (.int en), .val (.int ia), .val (.int vr), .val (.int ee), .val (.int (1 : Int32)), .val (.int ii), .val (.int v0), .val (.int v1), .val (.ref b64), .val (.ref b83), .val (.ref b89), .val (.ref b96), .val (.double (own_cell pp ee (1 : Int32) ii)), .second, .val (.ref b108), .unset, .unset] [(.ref b108)]))
    refine Go.st (fun _ kt => XS.iload X114.here hx rfl (hb hby at_214) rfl kt) ?_
    show Go p e below _ (T114.setTop (mkF m 216 #[.val (.int pp), .val (.int en), .val (.int ia), .val (.int vr), .val (.int ee), .val (.int (1 : Int32)), .val (.int ii), .val (.int v0), .val (.int v1), .val (.ref b64), .val (.ref b83), .val (.ref b89), .val (.ref b96), .val (.double (own_cell pp ee (1 : Int32) ii)), .second, .val (.ref b108), .unset, .unset] [(.int v1), (.ref b108)]))
    refine Go.st (fun _ kt => XS.iload X114.here hx rfl (hb hby at_216) rfl kt) ?_
    show Go p e below _ (T114.setTop (mkF m 218 #[.val (.int pp), .val (.int en), .val (.int ia), .val (.int vr), .val (.int ee), .val (.int (1 : Int32)), .val (.int ii), .val (.int v0), .val (.int v1), .val (.ref b64), .val (.ref b83), .val (.ref b89), .val (.ref b96), .val (.double (own_cell pp ee (1 : Int32) ii)), .second, .val (.ref b108), .unset, .unset] [(.int ee), (.int v1), (.ref b108)]))
    refine Go.st (fun _ kt => XS.iconst X114.here hx rfl (hb hby at_218) kt) ?_
    show Go p e below _ (T114.setTop (mkF m 219 #[.val (.int pp), .val (.int en), .val (.int ia), .val (.int vr), .val (.int ee), .val (.int (1 : Int32)), .val (.int ii), .val (.int v0), .val (.int v1), .val (.ref b64), .val (.ref b83), .val (.ref b89), .val (.ref b96), .val (.double (own_cell pp ee (1 : Int32) ii)), .second, .val (.ref b108), .unset, .unset] [(.int (3 : Int32)), (.int ee), (.int v1), (.ref b108)]))
    refine Go.st (fun _ kt => iremM X114 hx rfl (hb hby at_219) rfl (by decide) kt) ?_
    show Go p e below _ (T114.setTop (mkF m 220 #[.val (.int pp), .val (.int en), .val (.int ia), .val (.int vr), .val (.int ee), .val (.int (1 : Int32)), .val (.int ii), .val (.int v0), .val (.int v1), .val (.ref b64), .val (.ref b83), .val (.ref b89), .val (.ref b96), .val (.double (own_cell pp ee (1 : Int32) ii)), .second, .val (.ref b108), .unset, .unset] [(.int (ee % (3 : Int32))), (.int v1), (.ref b108)]))
    obtain ⟨cl115, Ar115, q115, S115, N115', H115, G115⟩ := id V114
    have hin115 : ¬ (v1 < 0 ∨ cl115.slots.size ≤ (v1).toNatClampNeg) := inb_of S115 hW.2.1
    obtain ⟨T116, h116, X116, e116, W116, st116⟩ := stI X114 hx hZ e114 Ar115 (j := v1) hin115 (g := (mkF m 220 #[.val (.int pp), .val (.int en), .val (.int ia), .val (.int vr), .val (.int ee), .val (.int (1 : Int32)), .val (.int ii), .val (.int v0), .val (.int v1), .val (.ref b64), .val (.ref b83), .val (.ref b89), .val (.ref b96), .val (.double (own_cell pp ee (1 : Int32) ii)), .second, .val (.ref b108), .unset, .unset] [(.int (ee % (3 : Int32))), (.int v1), (.ref b108)])) rfl rfl (hb hby at_220)
    refine Go.st st116 ?_
    have V116 : Arv Z h116 b108 k108 .int (4 : Int32) (([(.int (0 : Int32)), (.int (0 : Int32)), (.int (0 : Int32)), (.int (0 : Int32))].set v0.toNatClampNeg (.int (ee / (3 : Int32)))).set v1.toNatClampNeg (.int (ee % (3 : Int32)))) (.int (0 : Int32)) := Arv.set Ar115 q115 S115 N115' H115 G115 rfl W116 _ rfl (by rw [List.length_set]; exact hW.2.2.2.2.2)
    have Zs116 : n0 ≤ h116.size := Nat.le_trans Zs114 (Nat.le_of_eq W116.size.symm)
    have N116 := Fr.snoc X116 N114 gn_b108
    show Go p e below _ (T116.setTop (mkF m 221 #[.val (.int pp), .val (.int en), .val (.int ia), .val (.int vr), .val (.int ee), .val (.int (1 : Int32)), .val (.int ii), .val (.int v0), .val (.int v1), .val (.ref b64), .val (.ref b83), .val (.ref b89), .val (.ref b96), .val (.double (own_cell pp ee (1 : Int32) ii)), .second, .val (.ref b108), .unset, .unset] []))
    refine Go.st (fun _ kt => XS.aload X116.here hx rfl (hb hby at_221) rfl rfl kt) ?_
    show Go p e below _ (T116.setTop (mkF m 223 #[.val (.int pp), .val (.int en), .val (.int ia), .val (.int vr), .val (.int ee), .val (.int (1 : Int32)), .val (.int ii), .val (.int v0), .val (.int v1), .val (.ref b64), .val (.ref b83), .val (.ref b89), .val (.ref b96), .val (.double (own_cell pp ee (1 : Int32) ii)), .second, .val (.ref b108), .unset, .unset] [(.ref b96)]))
    refine Go.st (fun _ kt => XS.iload X116.here hx rfl (hb hby at_223) rfl kt) ?_
    show Go p e below _ (T116.setTop (mkF m 225 #[.val (.int pp), .val (.int en), .val (.int ia), .val (.int vr), .val (.int ee), .val (.int (1 : Int32)), .val (.int ii), .val (.int v0), .val (.int v1), .val (.ref b64), .val (.ref b83), .val (.ref b89), .val (.ref b96), .val (.double (own_cell pp ee (1 : Int32) ii)), .second, .val (.ref b108), .unset, .unset] [(.int ee), (.ref b96)]))
    have f117 := (((G105_2.ext E108).other W114 (Or.inl (Nat.ne_of_lt lt_b96_b108))).other W116 (Or.inl (Nat.ne_of_lt lt_b96_b108)))
    have f118 := ((((f102.keep K105q (ninS (Nat.ne_of_lt lt_b64_b96) nin0)).ext E108).other W114 (Nat.ne_of_lt lt_b64_b108)).other W116 (Nat.ne_of_lt lt_b64_b108))
    have f120 := (((f112.ext E108).wr W114).wr W116)
    obtain ⟨cq119, kq119, q119a, q119b, q119c⟩ := isOf hZ e116 f120
    obtain ⟨_, _, ⟨T119, L119, k119, n119⟩, -, X119, ⟨Lc119, hQ119, l119, y119, z119⟩, st119⟩ := X116.virtualBack hx (y := (⟨"com/example/tributary/tributary/model/CostTable", "cost", "(I)D"⟩ : MethodName)) (z := (⟨"com/example/tributary/tributary/model/CostTable", "cost", "(I)D"⟩ : MethodName)) hown (mvT hZ (hw _ (List.mem_of_getElem? (i := 40) rfl))) (mvT hZ (hw _ (List.mem_of_getElem? (i := 41) rfl))) (notFace_of_selects (args := #[]) (mvT hZ (hw _ (List.mem_of_getElem? (i := 43) rfl)))) (mvT hZ (hw _ (List.mem_of_getElem? (i := 43) rfl))) (mvT hZ (hw _ (List.mem_of_getElem? (i := 42) rfl))) (by decide) (backOf (W := 0) (rm6 l Z a0 hw [] b96 ee b64 k64 [(.double (own_cell pp (0 : Int32) (1 : Int32) ii)), (.double (own_cell pp (1 : Int32) (1 : Int32) ii)), (.double (own_cell pp (2 : Int32) (1 : Int32) ii)), (.double (own_cell pp (3 : Int32) (1 : Int32) ii)), (.double (own_cell pp (4 : Int32) (1 : Int32) ii)), (.double (own_cell pp (5 : Int32) (1 : Int32) ii))] (own_cell pp ee (1 : Int32) ii) h116 n0 Zs116 f117 f118 (own_in6 hE) (own_at6 hE pp (1 : Int32) ii)) hZ (hw _ (List.mem_of_getElem? (i := 44) rfl)) (hw _ (List.mem_of_getElem? (i := 9) rfl)) (by decide) (by decide)) q119a q119c (g := (mkF m 225 #[.val (.int pp), .val (.int en), .val (.int ia), .val (.int vr), .val (.int ee), .val (.int (1 : Int32)), .val (.int ii), .val (.int v0), .val (.int v1), .val (.ref b64), .val (.ref b83), .val (.ref b89), .val (.ref b96), .val (.double (own_cell pp ee (1 : Int32) ii)), .second, .val (.ref b108), .unset, .unset] [(.int ee), (.ref b96)])) rfl (by rw [hml]; rfl) (Steps.refl _) (argsL := [(.int ee)]) (rest := []) (lenOf own_pd6 rfl) rfl (by show 2 * 0 + _ ≤ _; exact Nat.le_of_eq rfl) (hb hby at_225) (fun _ _ => ⟨rfl, e116, (by decide : 8 + 0 ≤ _), (by decide : 24 + 0 ≤ _)⟩)
    dsimp only [Pt.U, Pt.locs, Pt.cells, Pt.slots] at X119 l119 y119 z119 st119 hQ119
    subst l119 y119 z119
    obtain ⟨rfl, N119q, e119⟩ := hQ119
    have N119 := Fr.app N116 N119q
    refine Go.tr st119 ?_
    show Go p e below _ (T119.setTop (mkF m 228 #[.val (.int pp), .val (.int en), .val (.int ia), .val (.int vr), .val (.int ee), .val (.int (1 : Int32)), .val (.int ii), .val (.int v0), .val (.int v1), .val (.ref b64), .val (.ref b83), .val (.ref b89), .val (.ref b96), .val (.double (own_cell pp ee (1 : Int32) ii)), .second, .val (.ref b108), .unset, .unset] [(.double (own_cell pp ee (1 : Int32) ii))]))
    refine Go.st (fun _ kt => XS.dstore X119.here hx rfl (hb hby at_228) rfl (l' := #[.val (.int pp), .val (.int en), .val (.int ia), .val (.int vr), .val (.int ee), .val (.int (1 : Int32)), .val (.int ii), .val (.int v0), .val (.int v1), .val (.ref b64), .val (.ref b83), .val (.ref b89), .val (.ref b96), .val (.double (own_cell pp ee (1 : Int32) ii)), .second, .val (.ref b108), .val (.double (own_cell pp ee (1 : Int32) ii)), .second]) rfl kt) ?_
    show Go p e below _ (T119.setTop (mkF m 230 #[.val (.int pp), .val (.int en), .val (.int ia), .val (.int vr), .val (.int ee), .val (.int (1 : Int32)), .val (.int ii), .val (.int v0), .val (.int v1), .val (.ref b64), .val (.ref b83), .val (.ref b89), .val (.ref b96), .val (.double (own_cell pp ee (1 : Int32) ii)), .second, .val (.ref b108), .val (.double (own_cell pp ee (1 : Int32) ii)), .second] []))
    refine Go.st (fun _ kt => XS.dload X119.here hx rfl (hb hby at_230) rfl kt) ?_
    show Go p e below _ (T119.setTop (mkF m 232 #[.val (.int pp), .val (.int en), .val (.int ia), .val (.int vr), .val (.int ee), .val (.int (1 : Int32)), .val (.int ii), .val (.int v0), .val (.int v1), .val (.ref b64), .val (.ref b83), .val (.ref b89), .val (.ref b96), .val (.double (own_cell pp ee (1 : Int32) ii)), .second, .val (.ref b108), .val (.double (own_cell pp ee (1 : Int32) ii)), .second] [(.double (own_cell pp ee (1 : Int32) ii))]))
    refine Go.st (fun _ kt => XS.dload X119.here hx rfl (hb hby at_232) rfl kt) ?_
    show Go p e below _ (T119.setTop (mkF m 234 #[.val (.int pp), .val (.int en), .val (.int ia), .val (.int vr), .val (.int ee), .val (.int (1 : Int32)), .val (.int ii), .val (.int v0), .val (.int v1), .val (.ref b64), .val (.ref b83), .val (.ref b89), .val (.ref b96), .val (.double (own_cell pp ee (1 : Int32) ii)), .second, .val (.ref b108), .val (.double (own_cell pp ee (1 : Int32) ii)), .second] [(.double (own_cell pp ee (1 : Int32) ii)), (.double (own_cell pp ee (1 : Int32) ii))]))
    refine Go.st (fun _ kt => XS.dcmpS X119.here hx rfl (hb hby at_234) rfl (dcmpV_self (own_nn pp ee (1 : Int32) ii) .l) kt) ?_
    show Go p e below _ (T119.setTop (mkF m 235 #[.val (.int pp), .val (.int en), .val (.int ia), .val (.int vr), .val (.int ee), .val (.int (1 : Int32)), .val (.int ii), .val (.int v0), .val (.int v1), .val (.ref b64), .val (.ref b83), .val (.ref b89), .val (.ref b96), .val (.double (own_cell pp ee (1 : Int32) ii)), .second, .val (.ref b108), .val (.double (own_cell pp ee (1 : Int32) ii)), .second] [(.int (0 : Int32))]))
    refine Go.st (fun _ kt => XS.ifNo X119.here hx rfl (hb hby at_235) rfl ((if0 _ _).trans (teq (by decide : (0 : Int32) = (0 : Int32))).2) kt) ?_
    show Go p e below _ (T119.setTop (mkF m 238 #[.val (.int pp), .val (.int en), .val (.int ia), .val (.int vr), .val (.int ee), .val (.int (1 : Int32)), .val (.int ii), .val (.int v0), .val (.int v1), .val (.ref b64), .val (.ref b83), .val (.ref b89), .val (.ref b96), .val (.double (own_cell pp ee (1 : Int32) ii)), .second, .val (.ref b108), .val (.double (own_cell pp ee (1 : Int32) ii)), .second] []))
    refine Go.st (fun _ kt => XS.aload X119.here hx rfl (hb hby at_238) rfl rfl kt) ?_
    show Go p e below _ (T119.setTop (mkF m 240 #[.val (.int pp), .val (.int en), .val (.int ia), .val (.int vr), .val (.int ee), .val (.int (1 : Int32)), .val (.int ii), .val (.int v0), .val (.int v1), .val (.ref b64), .val (.ref b83), .val (.ref b89), .val (.ref b96), .val (.double (own_cell pp ee (1 : Int32) ii)), .second, .val (.ref b108), .val (.double (own_cell pp ee (1 : Int32) ii)), .second] [(.ref b96)]))
    refine Go.st (fun _ kt => XS.aload X119.here hx rfl (hb hby at_240) rfl rfl kt) ?_
    show Go p e below _ (T119.setTop (mkF m 242 #[.val (.int pp), .val (.int en), .val (.int ia), .val (.int vr), .val (.int ee), .val (.int (1 : Int32)), .val (.int ii), .val (.int v0), .val (.int v1), .val (.ref b64), .val (.ref b83), .val (.ref b89), .val (.ref b96), .val (.double (own_cell pp ee (1 : Int32) ii)), .second, .val (.ref b108), .val (.double (own_cell pp ee (1 : Int32) ii)), .second] [(.ref b108), (.ref b96)]))
    have f121 := (((G105_0.ext E108).other W114 (Or.inl (Nat.ne_of_lt lt_b96_b108))).other W116 (Or.inl (Nat.ne_of_lt lt_b96_b108)))
    have f122 := (((G105_1.ext E108).other W114 (Or.inl (Nat.ne_of_lt lt_b96_b108))).other W116 (Or.inl (Nat.ne_of_lt lt_b96_b108)))
    have f123 := (((G105_3.ext E108).other W114 (Nat.ne_of_lt lt_bv105_b108)).other W116 (Nat.ne_of_lt lt_bv105_b108))
    have f124 := (((G105_4.ext E108).other W114 (Nat.ne_of_lt lt_br105_b108)).other W116 (Nat.ne_of_lt lt_br105_b108))
    obtain ⟨cq125, kq125, q125a, q125b, q125c⟩ := isOf hZ e119 f120
    obtain ⟨_, _, ⟨T125, L125, k125, n125⟩, -, X125, ⟨Lc125, hQ125, l125, y125, z125⟩, st125⟩ := X119.virtualBack hx (y := (⟨"com/example/tributary/tributary/model/CostTable", "cost", "([I)D"⟩ : MethodName)) (z := (⟨"com/example/tributary/tributary/model/CostTable", "cost", "([I)D"⟩ : MethodName)) hown (mvT hZ (hw _ (List.mem_of_getElem? (i := 45) rfl))) (mvT hZ (hw _ (List.mem_of_getElem? (i := 46) rfl))) (notFace_of_selects (args := #[]) (mvT hZ (hw _ (List.mem_of_getElem? (i := 48) rfl)))) (mvT hZ (hw _ (List.mem_of_getElem? (i := 48) rfl))) (mvT hZ (hw _ (List.mem_of_getElem? (i := 47) rfl))) (by decide) (backOf (W := 0) (rm7 l Z a0 hw [] b96 b108 bv105 kv105 br105 kr105 b64 k64 k108 [(.double (own_cell pp (0 : Int32) (1 : Int32) ii)), (.double (own_cell pp (1 : Int32) (1 : Int32) ii)), (.double (own_cell pp (2 : Int32) (1 : Int32) ii)), (.double (own_cell pp (3 : Int32) (1 : Int32) ii)), (.double (own_cell pp (4 : Int32) (1 : Int32) ii)), (.double (own_cell pp (5 : Int32) (1 : Int32) ii))] (([(.int (0 : Int32)), (.int (0 : Int32)), (.int (0 : Int32)), (.int (0 : Int32))].set v0.toNatClampNeg (.int (ee / (3 : Int32)))).set v1.toNatClampNeg (.int (ee % (3 : Int32)))) v0 v1 (ee / (3 : Int32)) (ee % (3 : Int32)) ee (own_cell pp ee (1 : Int32) ii) h116 n0 Zs116 f121 f122 f117 f123 f124 f118 V116 hW.1 hW.2.1 (hW.2.2.2.1 _ _).1 (hW.2.2.2.1 _ _).2 (own_idx hE) (own_in6 hE) (own_at6 hE pp (1 : Int32) ii)) hZ (hw _ (List.mem_of_getElem? (i := 49) rfl)) (hw _ (List.mem_of_getElem? (i := 9) rfl)) (by decide) (by decide)) q125a q125c (g := (mkF m 242 #[.val (.int pp), .val (.int en), .val (.int ia), .val (.int vr), .val (.int ee), .val (.int (1 : Int32)), .val (.int ii), .val (.int v0), .val (.int v1), .val (.ref b64), .val (.ref b83), .val (.ref b89), .val (.ref b96), .val (.double (own_cell pp ee (1 : Int32) ii)), .second, .val (.ref b108), .val (.double (own_cell pp ee (1 : Int32) ii)), .second] [(.ref b108), (.ref b96)])) rfl (by rw [hml]; rfl) (Steps.refl _) (argsL := [(.ref b108)]) (rest := []) (lenOf own_pd7 rfl) rfl (by show 2 * 0 + _ ≤ _; exact Nat.le_of_eq rfl) (hb hby at_242) (fun _ _ => ⟨rfl, e119, (by decide : 8 + 0 ≤ _), (by decide : 24 + 0 ≤ _)⟩)
    dsimp only [Pt.U, Pt.locs, Pt.cells, Pt.slots] at X125 l125 y125 z125 st125 hQ125
    subst l125 y125 z125
    obtain ⟨rfl, N125q, e125⟩ := hQ125
    have N125 := Fr.app N119 N125q
    refine Go.tr st125 ?_
    show Go p e below _ (T125.setTop (mkF m 245 #[.val (.int pp), .val (.int en), .val (.int ia), .val (.int vr), .val (.int ee), .val (.int (1 : Int32)), .val (.int ii), .val (.int v0), .val (.int v1), .val (.ref b64), .val (.ref b83), .val (.ref b89), .val (.ref b96), .val (.double (own_cell pp ee (1 : Int32) ii)), .second, .val (.ref b108), .val (.double (own_cell pp ee (1 : Int32) ii)), .second] [(.double (own_cell pp ee (1 : Int32) ii))]))
    refine Go.st (fun _ kt => XS.dload X125.here hx rfl (hb hby at_245) rfl kt) ?_
    show Go p e below _ (T125.setTop (mkF m 247 #[.val (.int pp), .val (.int en), .val (.int ia), .val (.int vr), .val (.int ee), .val (.int (1 : Int32)), .val (.int ii), .val (.int v0), .val (.int v1), .val (.ref b64), .val (.ref b83), .val (.ref b89), .val (.ref b96), .val (.double (own_cell pp ee (1 : Int32) ii)), .second, .val (.ref b108), .val (.double (own_cell pp ee (1 : Int32) ii)), .second] [(.double (own_cell pp ee (1 : Int32) ii)), (.double (own_cell pp ee (1 : Int32) ii))]))
    refine Go.st (fun _ kt => XS.dcmpS X125.here hx rfl (hb hby at_247) rfl (dcmpV_self (own_nn pp ee (1 : Int32) ii) .l) kt) ?_
    show Go p e below _ (T125.setTop (mkF m 248 #[.val (.int pp), .val (.int en), .val (.int ia), .val (.int vr), .val (.int ee), .val (.int (1 : Int32)), .val (.int ii), .val (.int v0), .val (.int v1), .val (.ref b64), .val (.ref b83), .val (.ref b89), .val (.ref b96), .val (.double (own_cell pp ee (1 : Int32) ii)), .second, .val (.ref b108), .val (.double (own_cell pp ee (1 : Int32) ii)), .second] [(.int (0 : Int32))]))
    refine Go.st (fun _ kt => XS.ifNo X125.here hx rfl (hb hby at_248) rfl ((if0 _ _).trans (teq (by decide : (0 : Int32) = (0 : Int32))).2) kt) ?_
    show Go p e below _ (T125.setTop (mkF m 251 #[.val (.int pp), .val (.int en), .val (.int ia), .val (.int vr), .val (.int ee), .val (.int (1 : Int32)), .val (.int ii), .val (.int v0), .val (.int v1), .val (.ref b64), .val (.ref b83), .val (.ref b89), .val (.ref b96), .val (.double (own_cell pp ee (1 : Int32) ii)), .second, .val (.ref b108), .val (.double (own_cell pp ee (1 : Int32) ii)), .second] []))
    refine Go.st (fun _ kt => XS.iconst X125.here hx rfl (hb hby at_251) kt) ?_
    show Go p e below _ (T125.setTop (mkF m 252 #[.val (.int pp), .val (.int en), .val (.int ia), .val (.int vr), .val (.int ee), .val (.int (1 : Int32)), .val (.int ii), .val (.int v0), .val (.int v1), .val (.ref b64), .val (.ref b83), .val (.ref b89), .val (.ref b96), .val (.double (own_cell pp ee (1 : Int32) ii)), .second, .val (.ref b108), .val (.double (own_cell pp ee (1 : Int32) ii)), .second] [(.int (1 : Int32))]))
    refine Go.st (fun _ kt => XS.goto X125.here hx rfl (pc0 := 252) (pc' := 256) rfl (hb hby at_252) (by decide) (by decide) kt) ?_
    show Go p e below _ (T125.setTop (mkF m 256 #[.val (.int pp), .val (.int en), .val (.int ia), .val (.int vr), .val (.int ee), .val (.int (1 : Int32)), .val (.int ii), .val (.int v0), .val (.int v1), .val (.ref b64), .val (.ref b83), .val (.ref b89), .val (.ref b96), .val (.double (own_cell pp ee (1 : Int32) ii)), .second, .val (.ref b108), .val (.double (own_cell pp ee (1 : Int32) ii)), .second] [(.int (1 : Int32))]))
    refine Go.retN X125 hx (t := .boolean) Bd.returns (by simp) (BodyLoose.notSynchronized Bd) (hb hby at_256) (Q := (Q_rm0 Z pp en ia vr h0 n0)) (by decide) (by decide) ?_
    show (Q_rm0 Z pp en ia vr h0 n0) _ T125.heap _
    rw [e125]
    exact ⟨rfl, N125⟩
set_option maxRecDepth 65536 in
set_option maxHeartbeats 40000000 in
theorem comes_1 {Post : Tables → Env → Array Value → State → Outcome → State → Prop} (hpost : ∀ tb e args s v u, (limb_1_1.after args s (.returned v) u = true ∧ limb_1_2.after args s (.returned v) u = true ∧ True) → FrameEnd s (.returned v) u (Jvm.fieldLocs frame_1_writes args s ++ Jvm.arrayLocs frame_1_arrays args s ++ Jvm.staticLocs frame_1_statics s) 24 128 → Post tb e args s (.returned v) u) :
    ArmFor flags0 classFile x code maxLocals ret World_1 tables_1 room_1 Calls_1 rest_1 Pre_1 Post := by
  intro l hfl _ _ p e ha hc hk s m args below hf hA hF happ hP
  obtain ⟨hcalls, hrest, hpre⟩ := hP
  obtain ⟨-, -, -, hnamed, -, -, -, hat⟩ := (Spec.applies_iff hf).mp happ
  obtain ⟨hg, hn⟩ := and_e (Cond.before_iff.mp (show (Jvm.Cond.and given_1 narrow_1).before args s = true from hpre))
  obtain ⟨g1, g2⟩ := and_e hg
  obtain ⟨g3, g4⟩ := and_e g2
  obtain ⟨g5, g6⟩ := and_e g4
  obtain ⟨g7, g8⟩ := and_e g6
  obtain ⟨w0, w1, w2, w3, rfl⟩ : ∃ w0 w1 w2 w3 : Value, args = #[w0, w1, w2, w3] := by
    have hs : args.size = 4 := by simpa [Cond.value, given_1] using g1
    obtain ⟨L⟩ := args
    match L, hs with
    | [w0, w1, w2, w3], _ => exact ⟨w0, w1, w2, w3, rfl⟩
  have hw := fun d (hd : d ∈ tables_1) => atoms_spec (ws := Jvm.Cond.code x code maxLocals ret :: tables_1) hat d (List.mem_cons_of_mem _ hd)
  have hfit : Fit s := fun {y c} hc i hi => by
    obtain ⟨ha, rfl⟩ := Array.getElem?_eq_some_iff.mp hc
    have q := List.all_eq_true.mp ((Array.all_eq_true_iff_forall_mem.mp hF) _ (Array.getElem_mem ha)) i (List.mem_range.mpr hi)
    simpa [Array.getElem?_eq_getElem hi] using q
  obtain ⟨i0, ei0⟩ := is_v g3
  obtain rfl : w0 = (.int i0) := Option.some.inj ei0
  obtain ⟨i1, ei1⟩ := is_v g5
  obtain rfl : w1 = (.int i1) := Option.some.inj ei1
  obtain ⟨i2, ei2⟩ := is_v g7
  obtain rfl : w2 = (.int i2) := Option.some.inj ei2
  obtain ⟨i3, ei3⟩ := is_v g8
  obtain rfl : w3 = (.int i3) := Option.some.inj ei3
  obtain ⟨n, o, h1, h2, h3, _, L, rfl, ⟨rfl, N⟩, hq⟩ := rm0 l s _ hw tables_1 i0 i1 i2 i3 s.heap s.heap.size (Nat.le_refl _) p e ha hc hk s m _ below hf ((Spec.applies_iff_loose hf).mp happ).1 ⟨rfl, State.Warmed39.refl s, rfl⟩ trivial
  refine ⟨n, _, h1, h2, h3, hpost _ _ _ _ _ _ ⟨Cond.after_iff.mpr rfl, Cond.after_iff.mpr (eq_i res_at (Term.int_eval (1)) rfl), trivial⟩ ⟨hq.1, hq.2.1, (hq.2.2.sift fun y hy => Or.inr (N y hy)).mono (by decide) (by decide)⟩⟩
theorem main_1_1 : Claimed_1_1 := comes_1 fun _ _ _ _ _ _ h hF => ⟨h.1, hF⟩
theorem main_1_2 : Claimed_1_2 := comes_1 fun _ _ _ _ _ _ h hF => ⟨h.2.1, hF⟩
end Jvm.Pilot.@@N@@
namespace Jvm.Pilot.@@N@@
open Jvm Jvm.ClassFile Sem Op Lib Jvm.Free Jvm.Stand Jvm.Pilot.@@N@@.Jvm.D
/-! MADE BY PROGRAM (witnessworld.py) out of the Statement's table words and the real class files: 11 classes; the members and pool entries that the words name. The judged class is class 1, her method 2. -/
namespace start1
open Jvm.ClassFile
def u (s : String) : CpInfo := .utf8 (stringToUtf16 s)
/-- a pool by its gaps: so many unusable entries, then the entry; so many at the end -/
def gap : Nat → List CpInfo → List CpInfo
  | 0, r => r
  | n + 1, r => .unusable :: gap n r
def poolList (es : List (Nat × CpInfo)) (last : Nat) : List CpInfo := es.foldr (fun e r => gap e.1 (e.2 :: r)) (gap last [])
def pool (es : List (Nat × CpInfo)) (last : Nat) : Array CpInfo := ⟨poolList es last⟩
def fileOf (pool : Array CpInfo) (this : Nat) (attrs : Array Attribute := #[]) (ms : Array MethodInfo := #[]) (fl : Nat := 33) (sup : Nat := 0) (ifs : Array Nat := #[]) (fds : Array FieldInfo := #[]) : ClassFile where
  minorVersion := 0
  majorVersion := 65
  constantPool := pool
  accessFlags := fl
  thisClass := this
  superClass := sup
  interfaces := ifs
  fields := fds
  methods := ms
  attributes := attrs
def plain (name : String) (sup : Option ClassId) : Class where
  name := name
  kind := .ordinary
  loader := none
  accessFlags := 33
  super := sup
  interfaces := #[]
  cf := none
  fields := #[]
  methods := #[]
  instanceTypes := #[]
  staticTypes := #[]
  resolved := #[]
  callSites := []
  init := .initialized
  statics := none
  mirror := none

def pool0 : Array CpInfo := pool [(5, u "<init>"), (0, u "()V"), (1, .class_ 10), (1, u "java/lang/Object"), (85, u "clone"), (0, u "()Ljava/lang/Object;")] 26

def k0c0 : Code := { maxStack := 0, maxLocals := 1, code := object_method_1_code, exceptionTable := #[], attributes := #[] }
def k0m0 : Method := { name := "<init>", desc := "()V", sig := { parameters := [], returnType := none }, accessFlags := 1, code := some k0c0 }
def k0m1 : Method := { name := "clone", desc := "()Ljava/lang/Object;", sig := { parameters := [], returnType := some (.object "java/lang/Object") }, accessFlags := 260, code := none }
/-- java/lang/Object -/
def k0 : Class := { plain "java/lang/Object" none with
  accessFlags := 33
  interfaces := #[]
  cf := some (fileOf pool0 8 #[] #[{ accessFlags := 1, nameIndex := 5, descriptorIndex := 6, attributes := #[] }, { accessFlags := 260, nameIndex := 96, descriptorIndex := 97, attributes := #[] }] 33 0 #[] #[])
  fields := #[]
  methods := #[k0m0, k0m1]
  instanceTypes := #[]
  staticTypes := #[]
  resolved := Array.replicate 124 none
  statics := none }

def pool1 : Array CpInfo := pool [(2, .class_ 4), (1, u "java/lang/Object"), (0, u "<init>"), (0, u "()V"), (2, .double 9218868437227405312), (1, .integer 2147483647), (0, .methodref 13 14), (0, .class_ 15), (0, .nameAndType 16 17), (0, u "com/example/tributary/tributary/model/CostTableCostPinLaw"), (0, u "cell"), (0, u "(IIZI)D"), (0, .class_ 19), (0, u "com/example/tributary/tributary/model/CostTable"), (0, .methodref 18 21), (0, .nameAndType 5 22), (0, u "([I[I[D)V"), (0, .methodref 18 24), (0, .nameAndType 25 26), (0, u "cost"), (0, u "(I)D"), (0, .methodref 18 28), (0, .nameAndType 25 29), (0, u "([I)D"), (3, u "law"), (0, u "(IIII)Z")] 6

def k1m0 : Method := { name := "<init>", desc := "()V", sig := { parameters := [], returnType := none }, accessFlags := 1, code := none }
def k1c1 : Code := { maxStack := 4, maxLocals := 4, code := method_2_code, exceptionTable := #[], attributes := #[] }
def k1m1 : Method := { name := "cell", desc := "(IIZI)D", sig := { parameters := [.int, .int, .boolean, .int], returnType := some .double }, accessFlags := 10, code := some k1c1 }
def k1c2 : Code := { maxStack := 6, maxLocals := 18, code := code, exceptionTable := #[], attributes := #[] }
def k1m2 : Method := { name := "law", desc := "(IIII)Z", sig := { parameters := [.int, .int, .int, .int], returnType := some .boolean }, accessFlags := 9, code := some k1c2 }
/-- com/example/tributary/tributary/model/CostTableCostPinLaw -/
def k1 : Class := { plain "com/example/tributary/tributary/model/CostTableCostPinLaw" (some 0) with
  accessFlags := 49
  interfaces := #[]
  cf := some (fileOf pool1 13 #[] #[{ accessFlags := 1, nameIndex := 5, descriptorIndex := 6, attributes := #[] }, { accessFlags := 10, nameIndex := 16, descriptorIndex := 17, attributes := #[] }, { accessFlags := 9, nameIndex := 33, descriptorIndex := 34, attributes := #[] }] 49 2 #[] #[])
  fields := #[]
  methods := #[k1m0, k1m1, k1m2]
  instanceTypes := #[]
  staticTypes := #[]
  resolved := Array.replicate 41 none
  statics := none }

def pool2 : Array CpInfo := pool [(3, .methodref 4 5), (0, .class_ 6), (0, .nameAndType 7 8), (0, u "java/lang/Object"), (0, u "<init>"), (0, u "()V"), (18, .methodref 28 29), (0, .class_ 30), (0, .nameAndType 31 32), (0, u "com/example/tributary/tributary/model/CostTable"), (0, u "entries"), (0, u "([I)J"), (3, .methodref 37 38), (0, .class_ 39), (0, .nameAndType 40 41), (0, u "[I"), (0, u "clone"), (0, u "()Ljava/lang/Object;"), (0, .fieldref 28 43), (0, .nameAndType 44 39), (0, u "variables"), (0, .fieldref 28 46), (0, .nameAndType 47 39), (0, u "sizes"), (0, .methodref 28 49), (0, .nameAndType 50 51), (0, u "strides"), (0, u "([I)[I"), (0, .fieldref 28 53), (0, .nameAndType 50 39), (0, .fieldref 28 55), (0, .nameAndType 56 57), (0, u "costs"), (0, u "[D"), (5, .long 9223372036854775807), (18, u "MAX_ENTRIES"), (0, u "J"), (1, u "([I[I[D)V"), (12, u "cost"), (0, u "(I)D"), (0, u "([I)D")] 23

def k2c0 : Code := { maxStack := 4, maxLocals := 6, code := prog_87_method_1_code, exceptionTable := #[], attributes := #[] }
def k2m0 : Method := { name := "<init>", desc := "([I[I[D)V", sig := { parameters := [(.array .int), (.array .int), (.array .double)], returnType := none }, accessFlags := 1, code := some k2c0 }
def k2c1 : Code := { maxStack := 3, maxLocals := 4, code := prog_87_method_2_code, exceptionTable := #[], attributes := #[] }
def k2m1 : Method := { name := "strides", desc := "([I)[I", sig := { parameters := [(.array .int)], returnType := some (.array .int) }, accessFlags := 9, code := some k2c1 }
def k2c2 : Code := { maxStack := 6, maxLocals := 7, code := prog_87_method_3_code, exceptionTable := #[], attributes := #[] }
def k2m2 : Method := { name := "entries", desc := "([I)J", sig := { parameters := [(.array .int)], returnType := some .long }, accessFlags := 9, code := some k2c2 }
def k2c3 : Code := { maxStack := 2, maxLocals := 2, code := prog_87_method_11_code, exceptionTable := #[], attributes := #[] }
def k2m3 : Method := { name := "cost", desc := "(I)D", sig := { parameters := [.int], returnType := some .double }, accessFlags := 1, code := some k2c3 }
def k2c4 : Code := { maxStack := 4, maxLocals := 4, code := prog_87_method_12_code, exceptionTable := #[], attributes := #[] }
def k2m4 : Method := { name := "cost", desc := "([I)D", sig := { parameters := [(.array .int)], returnType := some .double }, accessFlags := 1, code := some k2c4 }
/-- com/example/tributary/tributary/model/CostTable -/
def k2 : Class := { plain "com/example/tributary/tributary/model/CostTable" (some 0) with
  accessFlags := 49
  interfaces := #[]
  cf := some (fileOf pool2 28 #[] #[{ accessFlags := 1, nameIndex := 7, descriptorIndex := 85, attributes := #[] }, { accessFlags := 9, nameIndex := 50, descriptorIndex := 51, attributes := #[] }, { accessFlags := 9, nameIndex := 31, descriptorIndex := 32, attributes := #[] }, { accessFlags := 1, nameIndex := 98, descriptorIndex := 99, attributes := #[] }, { accessFlags := 1, nameIndex := 98, descriptorIndex := 100, attributes := #[] }] 49 4 #[] #[{ accessFlags := 25, nameIndex := 82, descriptorIndex := 83, attributes := #[] }, { accessFlags := 18, nameIndex := 44, descriptorIndex := 39, attributes := #[] }, { accessFlags := 18, nameIndex := 47, descriptorIndex := 39, attributes := #[] }, { accessFlags := 18, nameIndex := 50, descriptorIndex := 39, attributes := #[] }, { accessFlags := 18, nameIndex := 56, descriptorIndex := 57, attributes := #[] }])
  fields := #[{ name := "MAX_ENTRIES", type := .long, accessFlags := 25, slot := 0, constantValue := 0 }, { name := "variables", type := (.array .int), accessFlags := 18, slot := 0, constantValue := 0 }, { name := "sizes", type := (.array .int), accessFlags := 18, slot := 1, constantValue := 0 }, { name := "strides", type := (.array .int), accessFlags := 18, slot := 2, constantValue := 0 }, { name := "costs", type := (.array .double), accessFlags := 18, slot := 3, constantValue := 0 }]
  methods := #[k2m0, k2m1, k2m2, k2m3, k2m4]
  instanceTypes := #[(.array .int), (.array .int), (.array .int), (.array .double)]
  staticTypes := #[.long]
  resolved := Array.replicate 124 none
  statics := none }

def pool3 : Array CpInfo := pool [(1, .class_ 2), (0, u "java/lang/Cloneable"), (0, .class_ 4), (0, u "java/lang/Object")] 2

/-- java/lang/Cloneable -/
def k3 : Class := { plain "java/lang/Cloneable" (some 0) with
  accessFlags := 1537
  interfaces := #[]
  cf := some (fileOf pool3 1 #[] #[] 1537 3 #[] #[])
  fields := #[]
  methods := #[]
  instanceTypes := #[]
  staticTypes := #[]
  resolved := Array.replicate 7 none
  statics := none }

def pool4 : Array CpInfo := pool [(1, u "java/io/Serializable"), (0, .class_ 1), (0, u "java/lang/Object"), (0, .class_ 3)] 3

/-- java/io/Serializable -/
def k4 : Class := { plain "java/io/Serializable" (some 0) with
  accessFlags := 1537
  interfaces := #[]
  cf := some (fileOf pool4 2 #[] #[] 1537 4 #[] #[])
  fields := #[]
  methods := #[]
  instanceTypes := #[]
  staticTypes := #[]
  resolved := Array.replicate 8 none
  statics := none }

/-- the primitive byte -/
def k5 : Class := { plain "byte" none with kind := .primitive 'B', accessFlags := 0x411 }
/-- [B -/
def k6 : Class := { plain "[B" (some 0) with kind := .array 5 .byte, interfaces := #[3, 4], accessFlags := 1041 }

/-- the primitive double -/
def k7 : Class := { plain "double" none with kind := .primitive 'D', accessFlags := 0x411 }
/-- [D -/
def k8 : Class := { plain "[D" (some 0) with kind := .array 7 .double, interfaces := #[3, 4], accessFlags := 1041 }

/-- the primitive int -/
def k9 : Class := { plain "int" none with kind := .primitive 'I', accessFlags := 0x411 }
/-- [I -/
def k10 : Class := { plain "[I" (some 0) with kind := .array 9 .int, interfaces := #[3, 4], accessFlags := 1041 }

def heap : Heap := #[]
def classes : Array Class := #[k0, k1, k2, k3, k4, k5, k6, k7, k8, k9, k10]
def interned : List (Array UInt16 × Addr) := []
def slotsUsed : Nat := 0
def theMethod : MethodId := ⟨1, 2⟩
def args0 : Array Value := #[.int 5, .int 6, .int 7, .int 8]
def aboutOver (below : List Frame) : State where
  vm := { classes := classes, interned := interned.toArray }
  heap := heap
  slotsUsed := slotsUsed
  threads := #[{ frames := .invoking theMethod args0 :: below }]
def below0 : List Frame := [.native { method := ⟨0, 0⟩, args := #[] }]
def about1 : State := aboutOver below0
def p0 : Program := .bare "" "" ""
def e0 : Env := launch0.env 0 0 0
theorem w_frames : about1.frames = Frame.invoking theMethod args0 :: below0 := rfl
set_option maxRecDepth 65536 in
theorem w_args : argsFit about1.vm theMethod args0 = true := by decide +kernel
set_option maxRecDepth 65536 in
theorem w_heap : heapFits about1 = true := by decide +kernel
set_option maxRecDepth 65536 in
theorem w_runnable : about1.curStatus? = some .runnable := by decide +kernel
set_option maxRecDepth 65536 in
theorem w_alone : about1.alone = true := by decide +kernel
set_option maxRecDepth 65536 in
theorem w_named : about1.methodNamed? x = some theMethod := by decide +kernel
set_option maxRecDepth 65536 in
theorem w_hears : about1.hears theMethod below0 = true := by decide +kernel
set_option maxRecDepth 65536 in
theorem w_ripe : about1.ripe theMethod args0 below0 = true := by decide +kernel
theorem w_running : about1.status = .running := rfl
set_option maxRecDepth 65536 in
theorem w_room : about1.hasRoom e0.platform room_1 = true :=
  launch0.hasRoom_least _ room_1 (by decide +kernel) (by decide +kernel) (by decide +kernel) (by decide +kernel) (by decide +kernel) (by decide +kernel)
theorem allAtoms_all (ts : List Jvm.Cond) (a : Array Jvm.Value) (st : Jvm.State) : (allAtoms ts).before a st = ts.all (fun c => c.before a st) := by
  induction ts with
  | nil => rfl
  | cons c t ih =>
    show (Jvm.Cond.and c (allAtoms t)).before a st = _
    rw [Jvm.Cond.before_and, ih, List.all_cons]
def words1 : List Jvm.Cond := Jvm.Cond.code x code maxLocals ret :: tables_1
/-- a 'code' word, met by the world's own term for the bytes: nothing is compared byte by byte -/
theorem code_word {y : MethodName} {bytes : ByteArray} {mx : Nat} {rt : Option FieldType} {a : Array Value} {s : State} {m : MethodId} {meth : Method} {c : Code} (h1 : s.methodNamed? y = some m) (h2 : s.vm.method? m = some meth) (h3 : meth.code = some c) (h4 : c.code = bytes)
    (h5 : (c.maxLocals == mx && c.exceptionTable.isEmpty && decide (c.maxStack ≤ mostOperands) && decide (meth.sig.returnType = rt) && !meth.locks && decide (parseMethodDescriptor y.desc = some meth.sig)) = true) : (Jvm.Cond.code y bytes mx rt).before a s = true := by
  simp only [Bool.and_eq_true, beq_iff_eq, Bool.not_eq_true', decide_eq_true_eq] at h5
  obtain ⟨⟨⟨⟨⟨g1, g2⟩, g3⟩, g4⟩, g5⟩, g6⟩ := h5
  simp [Cond.before, Cond.holds, Cond.value, h1, h2, h3, h4, g1, g2, g3, g4, g5, g6]
def isCode : Jvm.Cond → Bool
  | .code _ _ _ _ => true
  | _ => false
theorem all_split {L : List Jvm.Cond} {P : Jvm.Cond → Bool} (h1 : L.all (fun c => isCode c || P c) = true) (h2 : ∀ c ∈ L.filter isCode, P c = true) : L.all P = true := by
  refine List.all_eq_true.mpr fun c hc => ?_
  have h := List.all_eq_true.mp h1 c hc
  rcases Bool.eq_false_or_eq_true (isCode c) with hi | hi
  · exact h2 c (List.mem_filter.mpr ⟨hc, hi⟩)
  · simpa [hi] using h
set_option maxRecDepth 65536 in
theorem w_c0 : (Jvm.Cond.code x code maxLocals ret).before args0 about1 = true := code_word (m := ⟨1, 2⟩) (meth := k1m2) (c := k1c2) (by decide +kernel) rfl rfl rfl (by decide +kernel)
set_option maxRecDepth 65536 in
theorem w_c1 : (Jvm.Cond.code ({ cls := "com/example/tributary/tributary/model/CostTableCostPinLaw", name := "cell", desc := "(IIZI)D" } : Jvm.MethodName) method_2_code (4 : Nat) (Option.some Jvm.ClassFile.FieldType.double)).before args0 about1 = true := code_word (m := ⟨1, 1⟩) (meth := k1m1) (c := k1c1) (by decide +kernel) rfl rfl rfl (by decide +kernel)
set_option maxRecDepth 65536 in
theorem w_c2 : (Jvm.Cond.code ({ cls := "com/example/tributary/tributary/model/CostTable", name := "<init>", desc := "([I[I[D)V" } : Jvm.MethodName) prog_87_method_1_code (6 : Nat) (Option.none : Option Jvm.ClassFile.FieldType)).before args0 about1 = true := code_word (m := ⟨2, 0⟩) (meth := k2m0) (c := k2c0) (by decide +kernel) rfl rfl rfl (by decide +kernel)
set_option maxRecDepth 65536 in
theorem w_c3 : (Jvm.Cond.code ({ cls := "java/lang/Object", name := "<init>", desc := "()V" } : Jvm.MethodName) object_method_1_code (1 : Nat) (Option.none : Option Jvm.ClassFile.FieldType)).before args0 about1 = true := code_word (m := ⟨0, 0⟩) (meth := k0m0) (c := k0c0) (by decide +kernel) rfl rfl rfl (by decide +kernel)
set_option maxRecDepth 65536 in
theorem w_c4 : (Jvm.Cond.code ({ cls := "com/example/tributary/tributary/model/CostTable", name := "entries", desc := "([I)J" } : Jvm.MethodName) prog_87_method_3_code (7 : Nat) (Option.some Jvm.ClassFile.FieldType.long)).before args0 about1 = true := code_word (m := ⟨2, 2⟩) (meth := k2m2) (c := k2c2) (by decide +kernel) rfl rfl rfl (by decide +kernel)
set_option maxRecDepth 65536 in
theorem w_c5 : (Jvm.Cond.code ({ cls := "com/example/tributary/tributary/model/CostTable", name := "strides", desc := "([I)[I" } : Jvm.MethodName) prog_87_method_2_code (4 : Nat) (Option.some (Jvm.ClassFile.FieldType.array Jvm.ClassFile.FieldType.int))).before args0 about1 = true := code_word (m := ⟨2, 1⟩) (meth := k2m1) (c := k2c1) (by decide +kernel) rfl rfl rfl (by decide +kernel)
set_option maxRecDepth 65536 in
theorem w_c6 : (Jvm.Cond.code ({ cls := "com/example/tributary/tributary/model/CostTable", name := "cost", desc := "(I)D" } : Jvm.MethodName) prog_87_method_11_code (2 : Nat) (Option.some Jvm.ClassFile.FieldType.double)).before args0 about1 = true := code_word (m := ⟨2, 3⟩) (meth := k2m3) (c := k2c3) (by decide +kernel) rfl rfl rfl (by decide +kernel)
set_option maxRecDepth 65536 in
theorem w_c7 : (Jvm.Cond.code ({ cls := "com/example/tributary/tributary/model/CostTable", name := "cost", desc := "([I)D" } : Jvm.MethodName) prog_87_method_12_code (4 : Nat) (Option.some Jvm.ClassFile.FieldType.double)).before args0 about1 = true := code_word (m := ⟨2, 4⟩) (meth := k2m4) (c := k2c4) (by decide +kernel) rfl rfl rfl (by decide +kernel)
def codes1 : List Jvm.Cond := [Jvm.Cond.code x code maxLocals ret, Jvm.Cond.code ({ cls := "com/example/tributary/tributary/model/CostTableCostPinLaw", name := "cell", desc := "(IIZI)D" } : Jvm.MethodName) method_2_code (4 : Nat) (Option.some Jvm.ClassFile.FieldType.double), Jvm.Cond.code ({ cls := "com/example/tributary/tributary/model/CostTable", name := "<init>", desc := "([I[I[D)V" } : Jvm.MethodName) prog_87_method_1_code (6 : Nat) (Option.none : Option Jvm.ClassFile.FieldType), Jvm.Cond.code ({ cls := "java/lang/Object", name := "<init>", desc := "()V" } : Jvm.MethodName) object_method_1_code (1 : Nat) (Option.none : Option Jvm.ClassFile.FieldType), Jvm.Cond.code ({ cls := "com/example/tributary/tributary/model/CostTable", name := "entries", desc := "([I)J" } : Jvm.MethodName) prog_87_method_3_code (7 : Nat) (Option.some Jvm.ClassFile.FieldType.long), Jvm.Cond.code ({ cls := "com/example/tributary/tributary/model/CostTable", name := "strides", desc := "([I)[I" } : Jvm.MethodName) prog_87_method_2_code (4 : Nat) (Option.some (Jvm.ClassFile.FieldType.array Jvm.ClassFile.FieldType.int)), Jvm.Cond.code ({ cls := "com/example/tributary/tributary/model/CostTable", name := "cost", desc := "(I)D" } : Jvm.MethodName) prog_87_method_11_code (2 : Nat) (Option.some Jvm.ClassFile.FieldType.double), Jvm.Cond.code ({ cls := "com/example/tributary/tributary/model/CostTable", name := "cost", desc := "([I)D" } : Jvm.MethodName) prog_87_method_12_code (4 : Nat) (Option.some Jvm.ClassFile.FieldType.double)]
set_option maxRecDepth 65536 in
theorem codes_eq : words1.filter isCode = codes1 := rfl
theorem w_codes : ∀ c ∈ words1.filter isCode, c.before args0 about1 = true := by
  rw [codes_eq]
  intro c hc
  simp only [codes1, List.mem_cons, List.not_mem_nil, or_false] at hc
  rcases hc with rfl | rfl | rfl | rfl | rfl | rfl | rfl | rfl
  · exact w_c0
  · exact w_c1
  · exact w_c2
  · exact w_c3
  · exact w_c4
  · exact w_c5
  · exact w_c6
  · exact w_c7
set_option maxRecDepth 65536 in
theorem w_t1 : (words1.take 24).all (fun c => isCode c || c.before args0 about1) = true := by decide +kernel
set_option maxRecDepth 65536 in
theorem w_t2 : ((words1.drop 24).take 24).all (fun c => isCode c || c.before args0 about1) = true := by decide +kernel
set_option maxRecDepth 65536 in
theorem w_t3 : ((words1.drop 24).drop 24).all (fun c => isCode c || c.before args0 about1) = true := by decide +kernel
theorem w_tables : (allAtoms (Jvm.Cond.code x code maxLocals ret :: tables_1)).before args0 about1 = true := by
  rw [allAtoms_all]
  show words1.all (fun c => c.before args0 about1) = true
  refine all_split ?_ w_codes
  rw [← List.take_append_drop 24 words1, List.all_append, w_t1, ← List.take_append_drop 24 (words1.drop 24), List.all_append, w_t2, w_t3]
  rfl
set_option maxRecDepth 65536 in
theorem w_case : (Jvm.Cond.and given_1 narrow_1).before args0 about1 = true := by decide +kernel
theorem w_applies : (headSpec (Jvm.Cond.code x code maxLocals ret :: tables_1) room_1).applies x e0.platform about1 = true :=
  (Spec.applies_iff w_frames).mpr ⟨w_running, w_runnable, w_alone, w_named, w_hears, w_ripe, w_room, w_tables⟩
theorem atStart : AtStart classFile x code maxLocals ret World_1 tables_1 room_1 Calls_1 rest_1 Pre_1 launch0 p0 e0 about1 theMethod args0 below0 :=
  ⟨lists_1, trivial, launch0.admits_env _ _ _, launch0.least_env, fairChoices_fair.cas, fairChoices_fair.clock, w_frames, w_args, w_heap, w_applies, trivial, trivial, w_case⟩
end start1
theorem witness_1 : WitnessClaimed_1 := ⟨start1.p0, start1.e0, start1.about1, start1.theMethod, start1.args0, start1.below0, start1.atStart⟩
end Jvm.Pilot.@@N@@
