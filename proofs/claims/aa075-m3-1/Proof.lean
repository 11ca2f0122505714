import JvmDerived
import JvmDerived.Pilot.@@N@@Statement
import JvmDerived.Pilot.@@N@@Code
set_option linter.unusedVariables false
set_option linter.unusedSimpArgs false
namespace Jvm.Pilot.@@N@@
open Jvm Jvm.ClassFile Sem Op Lib Jvm.Free Jvm.Stand Jvm.LawKit Jvm.RoadKit Bundle Jvm.Pilot.@@N@@.Jvm.D
section Own
variable {p : Program} {l : Launch} {e : Env} {R : Room} {s : State} {m : MethodId} {args : Array Value} {below : List Frame} {meth : Method} {c : Code} {T : State} {locs : List Loc} {cells slots : Nat} {G : State → Outcome → Prop}
def Go (p : Program) (e : Env) (below : List Frame) (G : State → Outcome → Prop) (st : State) : Prop := ∃ s₂ o, Steps p.tables e below st s₂ ∧ s₂.status = .running ∧ Ended s₂ below o ∧ G s₂ o
theorem Go.st {A B : State} (k : ∀ t, Steps p.tables e below B t → Steps p.tables e below A t) (h : Go p e below G B) : Go p e below G A := by
  obtain ⟨s₂, o, h1, h2⟩ := h
  exact ⟨s₂, o, k _ h1, h2⟩
theorem Go.tr {A B : State} (k : Steps p.tables e below A B) (h : Go p e below G B) : Go p e below G A := by
  obtain ⟨s₂, o, h1, h2⟩ := h
  exact ⟨s₂, o, k.trans h1, h2⟩
theorem Go.retW (X : Stand p l e R s m args below meth c T locs cells slots) (hx : p.tables.exec = Jvm.exec) {t : FieldType} (hret : meth.sig.returnType = some t) {w : Value} {i : Instr} (hn : narrow t w = w)
    (hi : (i = .ireturn ∧ (t = .int ∨ t = .boolean ∨ t = .byte ∨ t = .char ∨ t = .short) ∧ ∃ z, w = .int z) ∨ (i = .lreturn ∧ t = .long ∧ ∃ z, w = .long z) ∨ (i = .dreturn ∧ t = .double ∧ ∃ z, w = .double z) ∨ (i = .freturn ∧ t = .float ∧ ∃ z, w = .float z) ∨ (i = .areturn ∧ t.isReference = true ∧ w.isRef = true))
    (hlk : meth.locks = false) {pc : Nat} {Ls : Array Slot} {rest : List Value} (hd : decode c.code pc = .ok (i, 1)) {C S : Nat} {Q : Option Value → Heap → List Loc → Prop} (hC : cells ≤ C) (hS : slots ≤ S) (q : Q (some w) T.heap locs) :
    Go p e below (fun s₂ o => ∃ v L, o = .returned v ∧ Q v s₂.heap L ∧ FrameEnd s o s₂ L C S) (T.setTop (mkF m pc Ls (w :: rest))) := by
  obtain ⟨fs, hr, hrun, hended, hW, hsame⟩ := X.leave (v := some w) (fun h => by rw [hret] at h; cases h) hlk
  exact ⟨_, _, retOut X hx hret hn hi hd hr, hrun, hended, _, _, rfl, q, ⟨_, rfl⟩, hW, hsame.mono hC hS⟩
theorem Go.retN (X : Stand p l e R s m args below meth c T locs cells slots) (hx : p.tables.exec = Jvm.exec) {t : FieldType} (hret : meth.sig.returnType = some t) (ht : t = .boolean ∨ t = .byte ∨ t = .char ∨ t = .short) (hlk : meth.locks = false) {pc : Nat} {Ls : Array Slot} {z : Int32} {rest : List Value} (hd : decode c.code pc = .ok (.ireturn, 1))
    {C S : Nat} {Q : Option Value → Heap → List Loc → Prop} (hC : cells ≤ C) (hS : slots ≤ S) (q : Q (some (.int (nar t z))) T.heap locs) :
    Go p e below (fun s₂ o => ∃ v L, o = .returned v ∧ Q v s₂.heap L ∧ FrameEnd s o s₂ L C S) (T.setTop (mkF m pc Ls (.int z :: rest))) := by
  obtain ⟨fs, hr, hrun, hended, hW, hsame⟩ := X.leave (v := some (.int (nar t z))) (fun h => by rw [hret] at h; cases h) hlk
  exact ⟨_, _, Jvm.RoadKit.retN X hx hret ht hd hr, hrun, hended, _, _, rfl, q, ⟨_, rfl⟩, hW, hsame.mono hC hS⟩
theorem Go.retI (X : Stand p l e R s m args below meth c T locs cells slots) (hx : p.tables.exec = Jvm.exec) (hret : meth.sig.returnType = some .int) (hlk : meth.locks = false) {pc : Nat} {Ls : Array Slot} {z : Int32} {rest : List Value} (hd : decode c.code pc = .ok (.ireturn, 1))
    {C S : Nat} {Q : Option Value → Heap → List Loc → Prop} (hC : cells ≤ C) (hS : slots ≤ S) (q : Q (some (.int z)) T.heap locs) :
    Go p e below (fun s₂ o => ∃ v L, o = .returned v ∧ Q v s₂.heap L ∧ FrameEnd s o s₂ L C S) (T.setTop (mkF m pc Ls (.int z :: rest))) :=
  Go.retW X hx hret rfl (Or.inl ⟨rfl, Or.inl rfl, z, rfl⟩) hlk hd hC hS q
theorem Go.retL (X : Stand p l e R s m args below meth c T locs cells slots) (hx : p.tables.exec = Jvm.exec) (hret : meth.sig.returnType = some .long) (hlk : meth.locks = false) {pc : Nat} {Ls : Array Slot} {z : Int64} {rest : List Value} (hd : decode c.code pc = .ok (.lreturn, 1))
    {C S : Nat} {Q : Option Value → Heap → List Loc → Prop} (hC : cells ≤ C) (hS : slots ≤ S) (q : Q (some (.long z)) T.heap locs) :
    Go p e below (fun s₂ o => ∃ v L, o = .returned v ∧ Q v s₂.heap L ∧ FrameEnd s o s₂ L C S) (T.setTop (mkF m pc Ls (.long z :: rest))) :=
  Go.retW X hx hret rfl (Or.inr (Or.inl ⟨rfl, rfl, z, rfl⟩)) hlk hd hC hS q
theorem Go.retA (X : Stand p l e R s m args below meth c T locs cells slots) (hx : p.tables.exec = Jvm.exec) {t : FieldType} (hret : meth.sig.returnType = some t) {w : Value} (ht : t.isReference = true) (hw : w.isRef = true) (hlk : meth.locks = false) {pc : Nat} {Ls : Array Slot} {rest : List Value} (hd : decode c.code pc = .ok (.areturn, 1))
    {C S : Nat} {Q : Option Value → Heap → List Loc → Prop} (hC : cells ≤ C) (hS : slots ≤ S) (q : Q (some w) T.heap locs) :
    Go p e below (fun s₂ o => ∃ v L, o = .returned v ∧ Q v s₂.heap L ∧ FrameEnd s o s₂ L C S) (T.setTop (mkF m pc Ls (w :: rest))) :=
  Go.retW X hx hret (by rcases ref_cases hw with rfl | ⟨a, rfl⟩ <;> cases t <;> first | rfl | cases ht) (Or.inr (Or.inr (Or.inr (Or.inr ⟨rfl, ht, hw⟩)))) hlk hd hC hS q
theorem Go.retV (X : Stand p l e R s m args below meth c T locs cells slots) (hx : p.tables.exec = Jvm.exec) (hret : meth.sig.returnType = none) (hlk : meth.locks = false) {pc : Nat} {Ls : Array Slot} (hd : decode c.code pc = .ok (.return_, 1))
    {C S : Nat} {Q : Option Value → Heap → List Loc → Prop} (hC : cells ≤ C) (hS : slots ≤ S) (q : Q none T.heap locs) :
    Go p e below (fun s₂ o => ∃ v L, o = .returned v ∧ Q v s₂.heap L ∧ FrameEnd s o s₂ L C S) (T.setTop (mkF m pc Ls [])) := by
  obtain ⟨fs, hr, hrun, hended, hW, hsame⟩ := X.leave (v := none) (fun _ => rfl) hlk
  exact ⟨_, _, X.returnOut hx hret hd hr, hrun, hended, _, _, rfl, q, ⟨_, rfl⟩, hW, hsame.mono hC hS⟩
end Own
theorem own_self {Z s : State} {a0 args : Array Value} {y : MethodName} {n : Nat} (hZ : Z.Warmed39 s.vm) (wi : (Cond.instantiable y.cls n).before a0 Z = true) (wp : (Cond.privateMethod y).before a0 Z = true) (wm : (Cond.instanceMethod y).before a0 Z = true) (hy : y.cls ≠ "java/lang/invoke/MethodHandle" ∧ y.cls ≠ "java/lang/invoke/VarHandle") : (Cond.selects y.cls y y).before args s = true := by
  have wi' : (Cond.instantiable y.cls n).before args s = true := mv hZ wi
  obtain ⟨c, k, i1, i2, -, i4, -⟩ := Cond.instantiable_spec wi'
  simp only [Bool.or_eq_false_iff] at i4
  exact selects_self_of_private i1 i2 i4.1 (Cond.privateMethod_at (mvP hZ wp (args := #[]))) (mv hZ wm) hy
section OwnAV
variable {Z : State} {h h' : Heap} {a b : Addr} {ty : FieldType} {n : Int32} {ws : List Addr} {sl : Nat} {v d : Value} {k : ClassId} {vs : List Value}
def AV (Z : State) (h : Heap) (a : Addr) (ty : FieldType) (n : Int32) : Prop := ∃ c : Cell, Arr Z h a c ty ∧ c.slots.size = n.toNatClampNeg ∧ ¬ n < 0 ∧ ∀ (i : Nat) (v : Value), c.slots[i]? = some v → fits ty v = true
theorem AV.lt (F : AV Z h a ty n) : a < h.size := by obtain ⟨c, A, -⟩ := F; exact A.lt
theorem AV.ext (F : AV Z h a ty n) (E : Ext h h') : AV Z h' a ty n := by obtain ⟨c, A, r⟩ := F; exact ⟨c, A.ext E, r⟩
theorem AV.other (F : AV Z h a ty n) (W : Wr h h' b sl v) (q : a ≠ b) : AV Z h' a ty n := by obtain ⟨c, A, r⟩ := F; exact ⟨c, A.other W q, r⟩
theorem AV.keep (F : AV Z h a ty n) (K : Keep h h' ws) (q : a ∉ ws) : AV Z h' a ty n := by obtain ⟨c, A, r⟩ := F; exact ⟨c, ⟨K.2.1 a c A.1 q, A.2⟩, r⟩
theorem AV.of (F : Arv Z h a k ty n vs d) : AV Z h a ty n := by
  obtain ⟨c, A, -, S, q, H, G⟩ := F
  refine ⟨c, A, S, q, fun i w hw => ?_⟩
  have hi := (Array.getElem?_eq_some_iff.mp hw).1
  have := H i hi
  rw [hw] at this
  rw [Option.some.inj this]; exact G i hi
theorem AV.new (A : Arr Z h a (newA k ty n) ty) (q : ¬ n < 0) (fd : fits ty (defaultValue ty) = true) : AV Z h a ty n := by
  refine ⟨_, A, sz_new _ _ _, q, fun i w hw => ?_⟩
  simp only [newA, Array.getElem?_replicate] at hw
  split at hw
  · cases hw; exact fd
  · cases hw
theorem AV.set {c : Cell} (A : Arr Z h a c ty) (S : c.slots.size = n.toNatClampNeg) (q : ¬ n < 0) (G : ∀ (i : Nat) (v : Value), c.slots[i]? = some v → fits ty v = true) (hv : fits ty v = true) (W : Wr h h' a sl v) : AV Z h' a ty n := by
  refine ⟨_, A.same W, by rw [sz_set]; exact S, q, fun i w hw => ?_⟩
  by_cases e : sl = i
  · subst e
    have hi := (Array.getElem?_eq_some_iff.mp hw).1
    simp only [Cell.setSlot, Array.size_setIfInBounds] at hi
    simp [Cell.setSlot, hi] at hw
    subst hw; exact hv
  · simp only [Cell.setSlot] at hw
    rw [Array.getElem?_setIfInBounds_ne e] at hw
    exact G i w hw
theorem AV.arv (F : AV Z h a ty n) (d : Value) : ∃ k vs, Arv Z h a k ty n vs d ∧ vs.length = n.toNatClampNeg := by
  obtain ⟨c, A, S, q, G⟩ := F
  refine ⟨c.cls, c.slots.toList, ⟨c, A, rfl, S, q, fun i hi => ?_, fun i hi => ?_⟩, by simpa using S⟩
  · simp [List.getD_eq_getElem?_getD, hi]
  · refine G i _ ?_
    simp [List.getD_eq_getElem?_getD, hi]
end OwnAV
def own_max (x y : Int32) : Int32 := if x < y then y else x
theorem own_z : (0 : Int32).toInt = 0 := by decide
theorem own_inb {j z : Int32} (h : 0 ≤ j.toInt ∧ j.toInt < z.toInt) : ¬ j < 0 ∧ j < z := by
  simp only [Int32.lt_iff_toInt_lt, own_z]; omega
theorem own_nlt {x : Int32} (h : 0 ≤ x.toInt) : ¬ x < 0 := by
  simp only [Int32.lt_iff_toInt_lt, own_z]; omega
theorem own_lit {j sz : Int32} {P : Int} (hz : P ≤ sz.toInt) (h : 0 ≤ j.toInt ∧ j.toInt < P) : ¬ j < 0 ∧ j < sz := own_inb ⟨h.1, by omega⟩
theorem own_more {sz qe : Int32} {P : Int} (h : sz.toInt = P + qe.toInt) (hq : (0 : Int32) < qe) : P + 1 ≤ sz.toInt := by
  rw [Int32.lt_iff_toInt_lt, own_z] at hq; omega
theorem own_maxR {x y : Int32} (h : x.toInt ≤ y.toInt) : own_max x y = y := by
  unfold own_max
  split
  · rfl
  · rename_i q
    simp only [Int32.lt_iff_toInt_lt] at q
    exact Int32.toInt_inj.mp (by omega)
theorem own_sum (P : Int32) (qe : Int32) (h : 0 ≤ qe.toInt ∧ qe.toInt ≤ 3) (hP : 4 ≤ P.toInt ∧ P.toInt ≤ 7) : (P + qe).toInt = P.toInt + qe.toInt := by
  rw [Int32.toInt_add, Int.bmod_eq_of_le (by omega) (by omega)]
theorem own_natl {x : Int32} {n : Nat} (h : (n : Int) ≤ x.toInt) : n ≤ x.toNatClampNeg := by
  have := nat_of (own_nlt (x := x) (by omega)); omega
theorem own_and3 (x : Int32) : (x &&& (3 : Int32)) = 0 ∨ (x &&& (3 : Int32)) = 1 ∨ (x &&& (3 : Int32)) = 2 ∨ (x &&& (3 : Int32)) = 3 := by
  have h := c_and x 3 (by decide)
  have e0 : (0 : Int32).toInt = 0 := by decide
  have e1 : (1 : Int32).toInt = 1 := by decide
  have e2 : (2 : Int32).toInt = 2 := by decide
  have e3 : (3 : Int32).toInt = 3 := by decide
  simp only [← Int32.toInt_inj]
  omega
theorem own_b255 : ∀ j : Fin 32, ¬ j.1 < 8 → ((255 : Int32).toBitVec)[j.1] = false := by decide
theorem own_mask (c : Int32) : ((c.toInt8.toInt32).toInt8.toInt32 &&& (255 : Int32)) = c &&& 255 := by
  rw [Int8.toInt8_toInt32]
  apply Int32.toBitVec_inj.mp
  rw [Int32.toBitVec_and, Int32.toBitVec_and, Int8.toBitVec_toInt32, Int32.toBitVec_toInt8]
  ext i hi
  rw [BitVec.getElem_and, BitVec.getElem_and]
  by_cases h : i < 8
  · rw [BitVec.getElem_signExtend]
    have hl : (BitVec.signExtend 8 c.toBitVec)[i] = c.toBitVec[i] := by
      rw [BitVec.getElem_signExtend]; simp [hi]
    simp [h, hl]
  · have : ((255 : Int32).toBitVec)[i] = false := by
      exact own_b255 ⟨i, hi⟩ h
    rw [this]; simp
theorem own_mask2 (c : Int32) : (c &&& (255 : Int32)).toInt = ((c.toBitVec.toNat % 256 : Nat) : Int) := by
  have h : (c &&& (255 : Int32)).toBitVec.toNat = c.toBitVec.toNat % 256 := by
    rw [Int32.toBitVec_and, BitVec.toNat_and]
    exact Nat.and_two_pow_sub_one_eq_mod _ 8
  show (c &&& (255 : Int32)).toBitVec.toInt = _
  rw [BitVec.toInt_eq_toNat_of_lt (by rw [h]; omega), h]
theorem own_pos (c : Int32) (h0 : 0 ≤ c.toInt) : c.toInt = (c.toBitVec.toNat : Int) := by
  have e : c.toInt = c.toBitVec.toInt := rfl
  rw [e] at h0 ⊢
  rw [BitVec.toInt_eq_toNat_cond] at h0 ⊢
  split <;> rename_i q
  · rfl
  · rw [if_neg q] at h0
    have := c.toBitVec.isLt
    omega
theorem own_byte (c : Int32) (h0 : 0 ≤ c.toInt) (h1 : c.toInt < 65536) : ((c.toInt8.toInt32).toInt8.toInt32 &&& (255 : Int32)) = c % (256 : Int32) ∧ ((((c.toUInt32 >>> ((8 : Int32) &&& 31).toUInt32).toInt32).toInt8.toInt32).toInt8.toInt32 &&& (255 : Int32)) = c / (256 : Int32) ∧ (c % (256 : Int32)) + (256 : Int32) * (c / (256 : Int32)) = c := by
  have e256 : (256 : Int32).toInt = 256 := by decide
  have hp := own_pos c h0
  have hm : (c % (256 : Int32)).toInt = c.toInt % 256 := by rw [Int32.toInt_mod, e256, Int.tmod_eq_emod_of_nonneg h0]
  have hd : (c / (256 : Int32)).toInt = c.toInt / 256 := by rw [Int32.toInt_div_of_ne_right _ _ (by decide), e256, Int.tdiv_eq_ediv_of_nonneg h0]
  refine ⟨?_, ?_, ?_⟩
  · rw [own_mask]
    apply Int32.toInt_inj.mp
    rw [own_mask2, hm, hp]; omega
  · rw [own_mask]
    apply Int32.toInt_inj.mp
    rw [own_mask2, hd, hp]
    have : ((c.toUInt32 >>> ((8 : Int32) &&& 31).toUInt32).toInt32).toBitVec.toNat = c.toBitVec.toNat / 256 := by
      show (c.toBitVec >>> 8).toNat = _
      rw [BitVec.toNat_ushiftRight, Nat.shiftRight_eq_div_pow]
    rw [this]
    omega
  · apply Int32.toInt_inj.mp
    rw [Int32.toInt_add, Int32.toInt_mul, hm, hd, e256]
    rw [Int.bmod_eq_of_le (n := 256 * (c.toInt / 256)) (by omega) (by omega), Int.bmod_eq_of_le (by omega) (by omega)]
    omega
theorem d6_0 : decode jdk_29_method_65_code 0 = .ok (.iload_n 0, 1) := by decide +kernel
theorem d6_1 : decode jdk_29_method_65_code 1 = .ok (.iload_n 1, 1) := by decide +kernel
theorem d6_2 : decode jdk_29_method_65_code 2 = .ok (.if_icmp .lt 7, 3) := by decide +kernel
theorem d6_5 : decode jdk_29_method_65_code 5 = .ok (.iload_n 0, 1) := by decide +kernel
theorem d6_6 : decode jdk_29_method_65_code 6 = .ok (.goto 4, 3) := by decide +kernel
theorem d6_9 : decode jdk_29_method_65_code 9 = .ok (.iload_n 1, 1) := by decide +kernel
theorem d6_10 : decode jdk_29_method_65_code 10 = .ok (.ireturn, 1) := by decide +kernel
def Q_rm6 (Z : State) (i : Int32) (j : Int32) (h0 : Heap) (n0 : Nat) (v : Option Value) (h : Heap) (L : List Loc) : Prop := v = some (.int (own_max i j)) ∧ Fr n0 L ∧ h = h0
theorem ef_rm6 (m : MethodId) (i : Int32) (j : Int32) : entryFrame m #[(.int i), (.int j)] 2 = mkF m 0 #[.val (.int i), .val (.int j)] [] := by first | (simp [entryFrame, mkF, argsToLocals, Value.category]; done) | rfl
set_option maxRecDepth 65536 in
set_option maxHeartbeats 40000000 in
theorem rm6 (l : Launch) (Z : State) (a0 : Array Value) (hw : ∀ d ∈ tables_1, d.before a0 Z = true) (ws : List Jvm.Cond) (i : Int32) (j : Int32) (h0 : Heap) (n0 : Nat) (Z0 : n0 ≤ h0.size) :
    MetFree l (⟨"java/lang/Math", "max", "(II)I"⟩ : MethodName) (head1 (Jvm.Cond.code (⟨"java/lang/Math", "max", "(II)I"⟩ : MethodName) jdk_29_method_65_code 2 (some .int) :: ws) ({ frames := 0, cells := 0, slots := 0, locals := 0 } : Room)) (fun ag_ U_ => ag_ = #[(.int i), (.int j)] ∧ Z.Warmed39 U_.vm ∧ U_.heap = h0) (fun _ _ _ _ _ => True) (fun _ U_ o_ V_ => ∃ v_ L_, o_ = .returned v_ ∧ (Q_rm6 Z i j h0 n0) v_ V_.heap L_ ∧ FrameEnd U_ o_ V_ L_ ({ frames := 0, cells := 0, slots := 0, locals := 0 } : Room).cells ({ frames := 0, cells := 0, slots := 0, locals := 0 } : Room).slots) := by
  refine MetFree.of_bodySF (Jvm.Free.JP.mathPlain rfl (by decide +kernel)) hisR ?_
  intro p e s m args below meth c s₁ Bd hml0 hP hK
  obtain ⟨rfl, hZ, hh⟩ := hP
  have hx := Bd.exec
  have hby := Bd.bytes
  have hml : c.maxLocals = 2 := hml0
  have hown : s.vm.findClass "java/lang/Math" = some m.cls := findClass_of_methodNamed Bd.named
  have hnm := (name_of_methodNamed Bd.named Bd.method).1
  have X0 : Stand p l e ({ frames := 0, cells := 0, slots := 0, locals := 0 } : Room) s m #[(.int i), (.int j)] below meth c s₁ [] 0 0 := Stand.of_body Bd
  have e0 : s₁.heap = h0 := by rw [← hh, Bd.state]; rfl
  have N0 := Fr.nil n0
  refine Go.st (G := fun s₂ o_ => ∃ v_ L_, o_ = .returned v_ ∧ (Q_rm6 Z i j h0 n0) v_ s₂.heap L_ ∧ FrameEnd s o_ s₂ L_ ({ frames := 0, cells := 0, slots := 0, locals := 0 } : Room).cells ({ frames := 0, cells := 0, slots := 0, locals := 0 } : Room).slots) (fun t kt => castTop (ef_rm6 m i j) kt) ?_
  show Go p e below _ (s₁.setTop (mkF m 0 #[.val (.int i), .val (.int j)] []))
  refine Go.st (fun _ kt => XS.iloadN X0.here hx rfl (hb hby d6_0) rfl kt) ?_
  show Go p e below _ (s₁.setTop (mkF m 1 #[.val (.int i), .val (.int j)] [(.int i)]))
  refine Go.st (fun _ kt => XS.iloadN X0.here hx rfl (hb hby d6_1) rfl kt) ?_
  show Go p e below _ (s₁.setTop (mkF m 2 #[.val (.int i), .val (.int j)] [(.int j), (.int i)]))
  by_cases hc2_1 : i < j
  · refine Go.st (fun _ kt => XS.icmpYes X0.here hx rfl (pc0 := 2) (pc' := 9) rfl (hb hby d6_2) rfl (tlt hc2_1).1 (by decide) (by decide) kt) ?_
    show Go p e below _ (s₁.setTop (mkF m 9 #[.val (.int i), .val (.int j)] []))
    refine Go.st (fun _ kt => XS.iloadN X0.here hx rfl (hb hby d6_9) rfl kt) ?_
    show Go p e below _ (s₁.setTop (mkF m 10 #[.val (.int i), .val (.int j)] [(.int j)]))
    refine Go.retI X0 hx Bd.returns (BodyLoose.notSynchronized Bd) (hb hby d6_10) (Q := (Q_rm6 Z i j h0 n0)) (by decide) (by decide) ?_
    show (Q_rm6 Z i j h0 n0) _ s₁.heap _
    rw [e0]
    exact ⟨by simp [own_max, *], N0, rfl⟩
  · refine Go.st (fun _ kt => XS.icmpNo X0.here hx rfl (hb hby d6_2) rfl (flt hc2_1).1 kt) ?_
    show Go p e below _ (s₁.setTop (mkF m 5 #[.val (.int i), .val (.int j)] []))
    refine Go.st (fun _ kt => XS.iloadN X0.here hx rfl (hb hby d6_5) rfl kt) ?_
    show Go p e below _ (s₁.setTop (mkF m 6 #[.val (.int i), .val (.int j)] [(.int i)]))
    refine Go.st (fun _ kt => XS.goto X0.here hx rfl (pc0 := 6) (pc' := 10) rfl (hb hby d6_6) (by decide) (by decide) kt) ?_
    show Go p e below _ (s₁.setTop (mkF m 10 #[.val (.int i), .val (.int j)] [(.int i)]))
    refine Go.retI X0 hx Bd.returns (BodyLoose.notSynchronized Bd) (hb hby d6_10) (Q := (Q_rm6 Z i j h0 n0)) (by decide) (by decide) ?_
    show (Q_rm6 Z i j h0 n0) _ s₁.heap _
    rw [e0]
    exact ⟨by simp [own_max, *], N0, rfl⟩
theorem d1_0 : decode prog_25_method_2_code 0 = .ok (.aload_n 0, 1) := by decide +kernel
theorem d1_1 : decode prog_25_method_2_code 1 = .ok (.invokespecial 8, 3) := by decide +kernel
theorem d1_4 : decode prog_25_method_2_code 4 = .ok (.aload_n 0, 1) := by decide +kernel
theorem d1_5 : decode prog_25_method_2_code 5 = .ok (.iconst 4, 1) := by decide +kernel
theorem d1_6 : decode prog_25_method_2_code 6 = .ok (.anewarray 13, 3) := by decide +kernel
theorem d1_9 : decode prog_25_method_2_code 9 = .ok (.putfield 15, 3) := by decide +kernel
theorem d1_12 : decode prog_25_method_2_code 12 = .ok (.aload_n 0, 1) := by decide +kernel
theorem d1_13 : decode prog_25_method_2_code 13 = .ok (.iconst 4, 1) := by decide +kernel
theorem d1_14 : decode prog_25_method_2_code 14 = .ok (.newarray .int, 2) := by decide +kernel
theorem d1_16 : decode prog_25_method_2_code 16 = .ok (.putfield 19, 3) := by decide +kernel
theorem d1_19 : decode prog_25_method_2_code 19 = .ok (.aload_n 0, 1) := by decide +kernel
theorem d1_20 : decode prog_25_method_2_code 20 = .ok (.iload_n 1, 1) := by decide +kernel
theorem d1_21 : decode prog_25_method_2_code 21 = .ok (.putfield 23, 3) := by decide +kernel
theorem d1_24 : decode prog_25_method_2_code 24 = .ok (.aload_n 0, 1) := by decide +kernel
theorem d1_25 : decode prog_25_method_2_code 25 = .ok (.iload_n 2, 1) := by decide +kernel
theorem d1_26 : decode prog_25_method_2_code 26 = .ok (.putfield 27, 3) := by decide +kernel
theorem d1_29 : decode prog_25_method_2_code 29 = .ok (.return_, 1) := by decide +kernel
theorem own_pn0 : plainName "com/example/rowsieve/rowsieve/format/GrowingBytes" = true := by first | (simp [plainName, overriddenIn]; done) | decide +kernel
def Q_rm1 (Z : State) (a : Addr) (i : Int32) (j : Int32) (h0 : Heap) (n0 : Nat) (v : Option Value) (h : Heap) (L : List Loc) : Prop := ∃ sg ks bs kb, v = none ∧ Fr n0 L ∧ Keep h0 h [a] ∧ h0.size ≤ sg ∧ h0.size ≤ bs ∧ sg ≠ bs ∧ OvrA Z ks .byte "[B" ∧ Fld Z h a "com/example/rowsieve/rowsieve/format/GrowingBytes" "segments" "[[B" (.ref sg) ∧ Fld Z h a "com/example/rowsieve/rowsieve/format/GrowingBytes" "bases" "[I" (.ref bs) ∧ Fld Z h a "com/example/rowsieve/rowsieve/format/GrowingBytes" "last" "[B" .null ∧ Fld Z h a "com/example/rowsieve/rowsieve/format/GrowingBytes" "firstBytes" "I" (.int i) ∧ Fld Z h a "com/example/rowsieve/rowsieve/format/GrowingBytes" "segmentBytes" "I" (.int j) ∧ Fld Z h a "com/example/rowsieve/rowsieve/format/GrowingBytes" "end" "I" (.int (0 : Int32)) ∧ Fld Z h a "com/example/rowsieve/rowsieve/format/GrowingBytes" "count" "I" (.int (0 : Int32)) ∧ Arv Z h sg ks (.array .byte) (4 : Int32) [.null, .null, .null, .null] .null ∧ Arv Z h bs kb .int (4 : Int32) [(.int (0 : Int32)), (.int (0 : Int32)), (.int (0 : Int32)), (.int (0 : Int32))] (.int (0 : Int32))
theorem ef_rm1 (m : MethodId) (a : Addr) (i : Int32) (j : Int32) : entryFrame m #[(.ref a), (.int i), (.int j)] 3 = mkF m 0 #[.val (.ref a), .val (.int i), .val (.int j)] [] := by first | (simp [entryFrame, mkF, argsToLocals, Value.category]; done) | rfl
set_option maxRecDepth 65536 in
set_option maxHeartbeats 40000000 in
theorem rm1 (l : Launch) (Z : State) (a0 : Array Value) (hw : ∀ d ∈ tables_1, d.before a0 Z = true) (ws : List Jvm.Cond) (a : Addr) (i : Int32) (j : Int32) (h0 : Heap) (n0 : Nat) (Z0 : n0 ≤ h0.size) (E_a : Exa Z h0 a "com/example/rowsieve/rowsieve/format/GrowingBytes") (F_segments : Fld Z h0 a "com/example/rowsieve/rowsieve/format/GrowingBytes" "segments" "[[B" .null) (F_bases : Fld Z h0 a "com/example/rowsieve/rowsieve/format/GrowingBytes" "bases" "[I" .null) (F_last : Fld Z h0 a "com/example/rowsieve/rowsieve/format/GrowingBytes" "last" "[B" .null) (F_firstBytes : Fld Z h0 a "com/example/rowsieve/rowsieve/format/GrowingBytes" "firstBytes" "I" (.int (0 : Int32))) (F_segmentBytes : Fld Z h0 a "com/example/rowsieve/rowsieve/format/GrowingBytes" "segmentBytes" "I" (.int (0 : Int32))) (F_end : Fld Z h0 a "com/example/rowsieve/rowsieve/format/GrowingBytes" "end" "I" (.int (0 : Int32))) (F_count : Fld Z h0 a "com/example/rowsieve/rowsieve/format/GrowingBytes" "count" "I" (.int (0 : Int32))) (gn_a : n0 ≤ a) :
    MetFree l (⟨"com/example/rowsieve/rowsieve/format/GrowingBytes", "<init>", "(II)V"⟩ : MethodName) (head1 (Jvm.Cond.code (⟨"com/example/rowsieve/rowsieve/format/GrowingBytes", "<init>", "(II)V"⟩ : MethodName) prog_25_method_2_code 3 none :: ws) ({ frames := 1, cells := 2, slots := 8, locals := 12 } : Room)) (fun ag_ U_ => ag_ = #[(.ref a), (.int i), (.int j)] ∧ Z.Warmed39 U_.vm ∧ U_.heap = h0) (fun _ _ _ _ _ => True) (fun _ U_ o_ V_ => ∃ v_ L_, o_ = .returned v_ ∧ (Q_rm1 Z a i j h0 n0) v_ V_.heap L_ ∧ FrameEnd U_ o_ V_ L_ ({ frames := 1, cells := 2, slots := 8, locals := 12 } : Room).cells ({ frames := 1, cells := 2, slots := 8, locals := 12 } : Room).slots) := by
  refine MetFree.of_bodySF (plainFor_of_name own_pn0) hisR ?_
  intro p e s m args below meth c s₁ Bd hml0 hP hK
  obtain ⟨rfl, hZ, hh⟩ := hP
  have hx := Bd.exec
  have hby := Bd.bytes
  have hml : c.maxLocals = 3 := hml0
  have hown : s.vm.findClass "com/example/rowsieve/rowsieve/format/GrowingBytes" = some m.cls := findClass_of_methodNamed Bd.named
  have hnm := (name_of_methodNamed Bd.named Bd.method).1
  have X0 : Stand p l e ({ frames := 1, cells := 2, slots := 8, locals := 12 } : Room) s m #[(.ref a), (.int i), (.int j)] below meth c s₁ [] 0 0 := Stand.of_body Bd
  have e0 : s₁.heap = h0 := by rw [← hh, Bd.state]; rfl
  have N0 := Fr.nil n0
  refine Go.st (G := fun s₂ o_ => ∃ v_ L_, o_ = .returned v_ ∧ (Q_rm1 Z a i j h0 n0) v_ s₂.heap L_ ∧ FrameEnd s o_ s₂ L_ ({ frames := 1, cells := 2, slots := 8, locals := 12 } : Room).cells ({ frames := 1, cells := 2, slots := 8, locals := 12 } : Room).slots) (fun t kt => castTop (ef_rm1 m a i j) kt) ?_
  show Go p e below _ (s₁.setTop (mkF m 0 #[.val (.ref a), .val (.int i), .val (.int j)] []))
  refine Go.st (fun _ kt => XS.aloadN X0.here hx rfl (hb hby d1_0) rfl rfl kt) ?_
  show Go p e below _ (s₁.setTop (mkF m 1 #[.val (.ref a), .val (.int i), .val (.int j)] [(.ref a)]))
  obtain ⟨T1, X1, e1, st1⟩ := initO X0 hx hZ hown (hw _ (List.mem_of_getElem? (i := 7) rfl)) (hw _ (List.mem_of_getElem? (i := 8) rfl)) (hw _ (List.mem_of_getElem? (i := 9) rfl)) e0 (g := (mkF m 1 #[.val (.ref a), .val (.int i), .val (.int j)] [(.ref a)])) rfl (by rw [hml]; rfl) rfl (hb hby d1_1) (by decide) (W := 0) (by show 2 * 0 + _ ≤ _; exact Nat.le_of_eq rfl) (by decide)
  refine Go.st st1 ?_
  show Go p e below _ (T1.setTop (mkF m 4 #[.val (.ref a), .val (.int i), .val (.int j)] []))
  refine Go.st (fun _ kt => XS.aloadN X1.here hx rfl (hb hby d1_4) rfl rfl kt) ?_
  show Go p e below _ (T1.setTop (mkF m 5 #[.val (.ref a), .val (.int i), .val (.int j)] [(.ref a)]))
  refine Go.st (fun _ kt => XS.iconst X1.here hx rfl (hb hby d1_5) kt) ?_
  show Go p e below _ (T1.setTop (mkF m 6 #[.val (.ref a), .val (.int i), .val (.int j)] [(.int (4 : Int32)), (.ref a)]))
  obtain ⟨T2, h2, k2, X2, e2, E2, A2, Y2, O2, st2⟩ := newRA X1 hx hZ hown (C := "[B") (by decide) (hw _ (List.mem_of_getElem? (i := 10) rfl)) (hw _ (List.mem_of_getElem? (i := 11) rfl)) e1 (g := (mkF m 6 #[.val (.ref a), .val (.int i), .val (.int j)] [(.int (4 : Int32)), (.ref a)])) rfl (hb hby d1_6) rfl (by decide) (cap := 4) (by decide) (by decide) (by decide) (by decide) (ad := "[[B") (by decide)
  obtain ⟨b2, g2⟩ : ∃ z, z = h0.size := ⟨_, rfl⟩
  rw [← g2] at A2 Y2 st2
  have lt_a_b2 : a < b2 := Nat.lt_of_lt_of_eq E_a.lt g2.symm
  have gn_b2 : n0 ≤ b2 := Nat.le_trans Z0 (Nat.le_of_eq g2.symm)
  have Zs2 : n0 ≤ h2.size := Nat.le_trans Z0 E2.1
  have K2 : Keep h0 h2 [a] := (Keep.refl h0 [a]).ext E2
  have kn_b2 : h0.size ≤ b2 := Nat.le_trans (Keep.refl h0 [a]).1 (Nat.le_of_eq g2.symm)
  refine Go.st st2 ?_
  have V2 : Arv Z h2 b2 k2 (.array .byte) (4 : Int32) [.null, .null, .null, .null] .null := (Arv.new A2 (by decide)).pad (pad_rep [] .null 4)
  show Go p e below _ (T2.setTop (mkF m 9 #[.val (.ref a), .val (.int i), .val (.int j)] [(.ref b2), (.ref a)]))
  have f3 := (E_a.ext E2)
  have f4 := (F_segments.ext E2)
  obtain ⟨T5, h5, X5, e5, W5, st5⟩ := putF X2 hx hZ hown (host := "") (Or.inl (hw _ (List.mem_of_getElem? (i := 12) rfl))) Via.refl e2 f4 f3 (Or.inl (hw _ (List.mem_of_getElem? (i := 13) rfl))) (hw _ (List.mem_of_getElem? (i := 2) rfl)) (ty := (.array (.array .byte))) (by decide) rfl rfl (g := (mkF m 9 #[.val (.ref a), .val (.int i), .val (.int j)] [(.ref b2), (.ref a)])) rfl rfl (hb hby d1_9)
  refine Go.st st5 ?_
  have Fw5 := f4.same W5
  have Zs5 : n0 ≤ h5.size := Nat.le_trans Zs2 (Nat.le_of_eq W5.size.symm)
  have N5 := Fr.snoc X5 N0 gn_a
  have K5 : Keep h0 h5 [a] := K2.wr W5 (Or.inl (List.mem_of_getElem? (i := 0) rfl))
  show Go p e below _ (T5.setTop (mkF m 12 #[.val (.ref a), .val (.int i), .val (.int j)] []))
  refine Go.st (fun _ kt => XS.aloadN X5.here hx rfl (hb hby d1_12) rfl rfl kt) ?_
  show Go p e below _ (T5.setTop (mkF m 13 #[.val (.ref a), .val (.int i), .val (.int j)] [(.ref a)]))
  refine Go.st (fun _ kt => XS.iconst X5.here hx rfl (hb hby d1_13) kt) ?_
  show Go p e below _ (T5.setTop (mkF m 14 #[.val (.ref a), .val (.int i), .val (.int j)] [(.int (4 : Int32)), (.ref a)]))
  obtain ⟨T6, h6, k6, X6, e6, E6, A6, Y6, st6⟩ := newPE X5 hx hZ (hw _ (List.mem_of_getElem? (i := 14) rfl)) e5 (g := (mkF m 14 #[.val (.ref a), .val (.int i), .val (.int j)] [(.int (4 : Int32)), (.ref a)])) rfl (hb hby d1_14) rfl (by decide) (cap := 4) (by decide) (by decide) (by decide) (by decide) (ad := "[I") (by decide)
  obtain ⟨b6, g6⟩ : ∃ z, z = h5.size := ⟨_, rfl⟩
  rw [← g6] at A6 Y6 st6
  have f7 := (f3.wr W5)
  have lt_a_b6 : a < b6 := Nat.lt_of_lt_of_eq f7.lt g6.symm
  have f8 := (V2.other W5 (Nat.ne_of_gt lt_a_b2))
  have lt_b2_b6 : b2 < b6 := Nat.lt_of_lt_of_eq f8.lt g6.symm
  have gn_b6 : n0 ≤ b6 := Nat.le_trans Zs5 (Nat.le_of_eq g6.symm)
  have Zs6 : n0 ≤ h6.size := Nat.le_trans Zs5 E6.1
  have K6 : Keep h0 h6 [a] := K5.ext E6
  have kn_b6 : h0.size ≤ b6 := Nat.le_trans K5.1 (Nat.le_of_eq g6.symm)
  refine Go.st st6 ?_
  have V6 : Arv Z h6 b6 k6 .int (4 : Int32) [(.int (0 : Int32)), (.int (0 : Int32)), (.int (0 : Int32)), (.int (0 : Int32))] (.int (0 : Int32)) := (Arv.new A6 (by decide)).pad (pad_rep [] (.int (0 : Int32)) 4)
  show Go p e below _ (T6.setTop (mkF m 16 #[.val (.ref a), .val (.int i), .val (.int j)] [(.ref b6), (.ref a)]))
  have f9 := (f7.ext E6)
  have f10 := (((F_bases.ext E2).other W5 (Or.inr (slot_ne (Or.inl (hw _ (List.mem_of_getElem? (i := 16) rfl))) (Or.inl (hw _ (List.mem_of_getElem? (i := 13) rfl))) (by decide) (t := (.array .int)) (t' := (.array (.array .byte))) (by decide) (by decide)))).ext E6)
  obtain ⟨T11, h11, X11, e11, W11, st11⟩ := putF X6 hx hZ hown (host := "") (Or.inl (hw _ (List.mem_of_getElem? (i := 15) rfl))) Via.refl e6 f10 f9 (Or.inl (hw _ (List.mem_of_getElem? (i := 16) rfl))) (hw _ (List.mem_of_getElem? (i := 2) rfl)) (ty := (.array .int)) (by decide) rfl rfl (g := (mkF m 16 #[.val (.ref a), .val (.int i), .val (.int j)] [(.ref b6), (.ref a)])) rfl rfl (hb hby d1_16)
  refine Go.st st11 ?_
  have Fw11 := f10.same W11
  have Zs11 : n0 ≤ h11.size := Nat.le_trans Zs6 (Nat.le_of_eq W11.size.symm)
  have N11 := Fr.snoc X11 N5 gn_a
  have K11 : Keep h0 h11 [a] := K6.wr W11 (Or.inl (List.mem_of_getElem? (i := 0) rfl))
  show Go p e below _ (T11.setTop (mkF m 19 #[.val (.ref a), .val (.int i), .val (.int j)] []))
  refine Go.st (fun _ kt => XS.aloadN X11.here hx rfl (hb hby d1_19) rfl rfl kt) ?_
  show Go p e below _ (T11.setTop (mkF m 20 #[.val (.ref a), .val (.int i), .val (.int j)] [(.ref a)]))
  refine Go.st (fun _ kt => XS.iloadN X11.here hx rfl (hb hby d1_20) rfl kt) ?_
  show Go p e below _ (T11.setTop (mkF m 21 #[.val (.ref a), .val (.int i), .val (.int j)] [(.int i), (.ref a)]))
  have f12 := (f9.wr W11)
  have f13 := ((((F_firstBytes.ext E2).other W5 (Or.inr (slot_ne (Or.inr (hw _ (List.mem_of_getElem? (i := 18) rfl))) (Or.inl (hw _ (List.mem_of_getElem? (i := 13) rfl))) (by decide) (t := .int) (t' := (.array (.array .byte))) (by decide) (by decide)))).ext E6).other W11 (Or.inr (slot_ne (Or.inr (hw _ (List.mem_of_getElem? (i := 18) rfl))) (Or.inl (hw _ (List.mem_of_getElem? (i := 16) rfl))) (by decide) (t := .int) (t' := (.array .int)) (by decide) (by decide))))
  obtain ⟨T14, h14, X14, e14, W14, st14⟩ := putF X11 hx hZ hown (host := "") (Or.inl (hw _ (List.mem_of_getElem? (i := 17) rfl))) Via.refl e11 f13 f12 (Or.inr ⟨(hw _ (List.mem_of_getElem? (i := 18) rfl)), rfl, hnm⟩) (hw _ (List.mem_of_getElem? (i := 2) rfl)) (ty := .int) (by decide) rfl rfl (g := (mkF m 21 #[.val (.ref a), .val (.int i), .val (.int j)] [(.int i), (.ref a)])) rfl rfl (hb hby d1_21)
  refine Go.st st14 ?_
  have Fw14 := f13.same W14
  have Zs14 : n0 ≤ h14.size := Nat.le_trans Zs11 (Nat.le_of_eq W14.size.symm)
  have N14 := Fr.snoc X14 N11 gn_a
  have K14 : Keep h0 h14 [a] := K11.wr W14 (Or.inl (List.mem_of_getElem? (i := 0) rfl))
  show Go p e below _ (T14.setTop (mkF m 24 #[.val (.ref a), .val (.int i), .val (.int j)] []))
  refine Go.st (fun _ kt => XS.aloadN X14.here hx rfl (hb hby d1_24) rfl rfl kt) ?_
  show Go p e below _ (T14.setTop (mkF m 25 #[.val (.ref a), .val (.int i), .val (.int j)] [(.ref a)]))
  refine Go.st (fun _ kt => XS.iloadN X14.here hx rfl (hb hby d1_25) rfl kt) ?_
  show Go p e below _ (T14.setTop (mkF m 26 #[.val (.ref a), .val (.int i), .val (.int j)] [(.int j), (.ref a)]))
  have f15 := (f12.wr W14)
  have f16 := (((((F_segmentBytes.ext E2).other W5 (Or.inr (slot_ne (Or.inr (hw _ (List.mem_of_getElem? (i := 20) rfl))) (Or.inl (hw _ (List.mem_of_getElem? (i := 13) rfl))) (by decide) (t := .int) (t' := (.array (.array .byte))) (by decide) (by decide)))).ext E6).other W11 (Or.inr (slot_ne (Or.inr (hw _ (List.mem_of_getElem? (i := 20) rfl))) (Or.inl (hw _ (List.mem_of_getElem? (i := 16) rfl))) (by decide) (t := .int) (t' := (.array .int)) (by decide) (by decide)))).other W14 (Or.inr (slot_ne (Or.inr (hw _ (List.mem_of_getElem? (i := 20) rfl))) (Or.inr (hw _ (List.mem_of_getElem? (i := 18) rfl))) (by decide) (t := .int) (t' := .int) (by decide) (by decide))))
  obtain ⟨T17, h17, X17, e17, W17, st17⟩ := putF X14 hx hZ hown (host := "") (Or.inl (hw _ (List.mem_of_getElem? (i := 19) rfl))) Via.refl e14 f16 f15 (Or.inr ⟨(hw _ (List.mem_of_getElem? (i := 20) rfl)), rfl, hnm⟩) (hw _ (List.mem_of_getElem? (i := 2) rfl)) (ty := .int) (by decide) rfl rfl (g := (mkF m 26 #[.val (.ref a), .val (.int i), .val (.int j)] [(.int j), (.ref a)])) rfl rfl (hb hby d1_26)
  refine Go.st st17 ?_
  have Fw17 := f16.same W17
  have Zs17 : n0 ≤ h17.size := Nat.le_trans Zs14 (Nat.le_of_eq W17.size.symm)
  have N17 := Fr.snoc X17 N14 gn_a
  have K17 : Keep h0 h17 [a] := K14.wr W17 (Or.inl (List.mem_of_getElem? (i := 0) rfl))
  show Go p e below _ (T17.setTop (mkF m 29 #[.val (.ref a), .val (.int i), .val (.int j)] []))
  have f18 := ((((Fw5.ext E6).other W11 (Or.inr (slot_ne (Or.inl (hw _ (List.mem_of_getElem? (i := 13) rfl))) (Or.inl (hw _ (List.mem_of_getElem? (i := 16) rfl))) (by decide) (t := (.array (.array .byte))) (t' := (.array .int)) (by decide) (by decide)))).other W14 (Or.inr (slot_ne (Or.inl (hw _ (List.mem_of_getElem? (i := 13) rfl))) (Or.inr (hw _ (List.mem_of_getElem? (i := 18) rfl))) (by decide) (t := (.array (.array .byte))) (t' := .int) (by decide) (by decide)))).other W17 (Or.inr (slot_ne (Or.inl (hw _ (List.mem_of_getElem? (i := 13) rfl))) (Or.inr (hw _ (List.mem_of_getElem? (i := 20) rfl))) (by decide) (t := (.array (.array .byte))) (t' := .int) (by decide) (by decide))))
  have f19 := ((Fw11.other W14 (Or.inr (slot_ne (Or.inl (hw _ (List.mem_of_getElem? (i := 16) rfl))) (Or.inr (hw _ (List.mem_of_getElem? (i := 18) rfl))) (by decide) (t := (.array .int)) (t' := .int) (by decide) (by decide)))).other W17 (Or.inr (slot_ne (Or.inl (hw _ (List.mem_of_getElem? (i := 16) rfl))) (Or.inr (hw _ (List.mem_of_getElem? (i := 20) rfl))) (by decide) (t := (.array .int)) (t' := .int) (by decide) (by decide))))
  have f20 := ((((((F_last.ext E2).other W5 (Or.inr (slot_ne (Or.inl (hw _ (List.mem_of_getElem? (i := 27) rfl))) (Or.inl (hw _ (List.mem_of_getElem? (i := 13) rfl))) (by decide) (t := (.array .byte)) (t' := (.array (.array .byte))) (by decide) (by decide)))).ext E6).other W11 (Or.inr (slot_ne (Or.inl (hw _ (List.mem_of_getElem? (i := 27) rfl))) (Or.inl (hw _ (List.mem_of_getElem? (i := 16) rfl))) (by decide) (t := (.array .byte)) (t' := (.array .int)) (by decide) (by decide)))).other W14 (Or.inr (slot_ne (Or.inl (hw _ (List.mem_of_getElem? (i := 27) rfl))) (Or.inr (hw _ (List.mem_of_getElem? (i := 18) rfl))) (by decide) (t := (.array .byte)) (t' := .int) (by decide) (by decide)))).other W17 (Or.inr (slot_ne (Or.inl (hw _ (List.mem_of_getElem? (i := 27) rfl))) (Or.inr (hw _ (List.mem_of_getElem? (i := 20) rfl))) (by decide) (t := (.array .byte)) (t' := .int) (by decide) (by decide))))
  have f21 := (Fw14.other W17 (Or.inr (slot_ne (Or.inr (hw _ (List.mem_of_getElem? (i := 18) rfl))) (Or.inr (hw _ (List.mem_of_getElem? (i := 20) rfl))) (by decide) (t := .int) (t' := .int) (by decide) (by decide))))
  have f22 := ((((((F_end.ext E2).other W5 (Or.inr (slot_ne (Or.inl (hw _ (List.mem_of_getElem? (i := 45) rfl))) (Or.inl (hw _ (List.mem_of_getElem? (i := 13) rfl))) (by decide) (t := .int) (t' := (.array (.array .byte))) (by decide) (by decide)))).ext E6).other W11 (Or.inr (slot_ne (Or.inl (hw _ (List.mem_of_getElem? (i := 45) rfl))) (Or.inl (hw _ (List.mem_of_getElem? (i := 16) rfl))) (by decide) (t := .int) (t' := (.array .int)) (by decide) (by decide)))).other W14 (Or.inr (slot_ne (Or.inl (hw _ (List.mem_of_getElem? (i := 45) rfl))) (Or.inr (hw _ (List.mem_of_getElem? (i := 18) rfl))) (by decide) (t := .int) (t' := .int) (by decide) (by decide)))).other W17 (Or.inr (slot_ne (Or.inl (hw _ (List.mem_of_getElem? (i := 45) rfl))) (Or.inr (hw _ (List.mem_of_getElem? (i := 20) rfl))) (by decide) (t := .int) (t' := .int) (by decide) (by decide))))
  have f23 := ((((((F_count.ext E2).other W5 (Or.inr (slot_ne (Or.inl (hw _ (List.mem_of_getElem? (i := 33) rfl))) (Or.inl (hw _ (List.mem_of_getElem? (i := 13) rfl))) (by decide) (t := .int) (t' := (.array (.array .byte))) (by decide) (by decide)))).ext E6).other W11 (Or.inr (slot_ne (Or.inl (hw _ (List.mem_of_getElem? (i := 33) rfl))) (Or.inl (hw _ (List.mem_of_getElem? (i := 16) rfl))) (by decide) (t := .int) (t' := (.array .int)) (by decide) (by decide)))).other W14 (Or.inr (slot_ne (Or.inl (hw _ (List.mem_of_getElem? (i := 33) rfl))) (Or.inr (hw _ (List.mem_of_getElem? (i := 18) rfl))) (by decide) (t := .int) (t' := .int) (by decide) (by decide)))).other W17 (Or.inr (slot_ne (Or.inl (hw _ (List.mem_of_getElem? (i := 33) rfl))) (Or.inr (hw _ (List.mem_of_getElem? (i := 20) rfl))) (by decide) (t := .int) (t' := .int) (by decide) (by decide))))
  have f24 := ((((f8.ext E6).other W11 (Nat.ne_of_gt lt_a_b2)).other W14 (Nat.ne_of_gt lt_a_b2)).other W17 (Nat.ne_of_gt lt_a_b2))
  have f25 := (((V6.other W11 (Nat.ne_of_gt lt_a_b6)).other W14 (Nat.ne_of_gt lt_a_b6)).other W17 (Nat.ne_of_gt lt_a_b6))
  refine Go.retV X17 hx Bd.returns (BodyLoose.notSynchronized Bd) (hb hby d1_29) (Q := (Q_rm1 Z a i j h0 n0)) (by decide) (by decide) ?_
  show (Q_rm1 Z a i j h0 n0) _ T17.heap _
  rw [e17]
  exact ⟨b2, k2, b6, k6, rfl, N17, K17, kn_b2, kn_b6, (Nat.ne_of_lt lt_b2_b6), O2, f18, f19, f20, f21, Fw17, f22, f23, f24, f25⟩
theorem d5_0 : decode prog_25_method_8_code 0 = .ok (.aload_n 0, 1) := by decide +kernel
theorem d5_1 : decode prog_25_method_8_code 1 = .ok (.getfield 55, 3) := by decide +kernel
theorem d5_4 : decode prog_25_method_8_code 4 = .ok (.ifCond .ne 7, 3) := by decide +kernel
theorem d5_7 : decode prog_25_method_8_code 7 = .ok (.iconst 0, 1) := by decide +kernel
theorem d5_8 : decode prog_25_method_8_code 8 = .ok (.goto 19, 3) := by decide +kernel
theorem d5_27 : decode prog_25_method_8_code 27 = .ok (.ireturn, 1) := by decide +kernel
def Q_rm5_0 (Z : State) (a : Addr) (h0 : Heap) (n0 : Nat) (v : Option Value) (h : Heap) (L : List Loc) : Prop := v = some (.int (0 : Int32)) ∧ Fr n0 L ∧ h = h0
theorem ef_rm5_0 (m : MethodId) (a : Addr) : entryFrame m #[(.ref a)] 1 = mkF m 0 #[.val (.ref a)] [] := by first | (simp [entryFrame, mkF, argsToLocals, Value.category]; done) | rfl
set_option maxRecDepth 65536 in
set_option maxHeartbeats 40000000 in
theorem rm5_0 (l : Launch) (Z : State) (a0 : Array Value) (hw : ∀ d ∈ tables_1, d.before a0 Z = true) (ws : List Jvm.Cond) (a : Addr) (h0 : Heap) (n0 : Nat) (Z0 : n0 ≤ h0.size) (F_c : Fld Z h0 a "com/example/rowsieve/rowsieve/format/GrowingBytes" "count" "I" (.int (0 : Int32))) :
    MetFree l (⟨"com/example/rowsieve/rowsieve/format/GrowingBytes", "length", "()I"⟩ : MethodName) (head1 (Jvm.Cond.code (⟨"com/example/rowsieve/rowsieve/format/GrowingBytes", "length", "()I"⟩ : MethodName) prog_25_method_8_code 1 (some .int) :: ws) ({ frames := 0, cells := 0, slots := 0, locals := 0 } : Room)) (fun ag_ U_ => ag_ = #[(.ref a)] ∧ Z.Warmed39 U_.vm ∧ U_.heap = h0) (fun _ _ _ _ _ => True) (fun _ U_ o_ V_ => ∃ v_ L_, o_ = .returned v_ ∧ (Q_rm5_0 Z a h0 n0) v_ V_.heap L_ ∧ FrameEnd U_ o_ V_ L_ ({ frames := 0, cells := 0, slots := 0, locals := 0 } : Room).cells ({ frames := 0, cells := 0, slots := 0, locals := 0 } : Room).slots) := by
  refine MetFree.of_bodySF (plainFor_of_name own_pn0) hisR ?_
  intro p e s m args below meth c s₁ Bd hml0 hP hK
  obtain ⟨rfl, hZ, hh⟩ := hP
  have hx := Bd.exec
  have hby := Bd.bytes
  have hml : c.maxLocals = 1 := hml0
  have hown : s.vm.findClass "com/example/rowsieve/rowsieve/format/GrowingBytes" = some m.cls := findClass_of_methodNamed Bd.named
  have hnm := (name_of_methodNamed Bd.named Bd.method).1
  have X0 : Stand p l e ({ frames := 0, cells := 0, slots := 0, locals := 0 } : Room) s m #[(.ref a)] below meth c s₁ [] 0 0 := Stand.of_body Bd
  have e0 : s₁.heap = h0 := by rw [← hh, Bd.state]; rfl
  have N0 := Fr.nil n0
  refine Go.st (G := fun s₂ o_ => ∃ v_ L_, o_ = .returned v_ ∧ (Q_rm5_0 Z a h0 n0) v_ s₂.heap L_ ∧ FrameEnd s o_ s₂ L_ ({ frames := 0, cells := 0, slots := 0, locals := 0 } : Room).cells ({ frames := 0, cells := 0, slots := 0, locals := 0 } : Room).slots) (fun t kt => castTop (ef_rm5_0 m a) kt) ?_
  show Go p e below _ (s₁.setTop (mkF m 0 #[.val (.ref a)] []))
  refine Go.st (fun _ kt => XS.aloadN X0.here hx rfl (hb hby d5_0) rfl rfl kt) ?_
  show Go p e below _ (s₁.setTop (mkF m 1 #[.val (.ref a)] [(.ref a)]))
  obtain ⟨T1, X1, e1, st1⟩ := getF X0 hx hZ hown (host := "") (Or.inl (hw _ (List.mem_of_getElem? (i := 32) rfl))) Via.refl e0 F_c (g := (mkF m 1 #[.val (.ref a)] [(.ref a)])) rfl rfl (hb hby d5_1)
  refine Go.st st1 ?_
  show Go p e below _ (T1.setTop (mkF m 4 #[.val (.ref a)] [(.int (0 : Int32))]))
  refine Go.st (fun _ kt => XS.ifNo X1.here hx rfl (hb hby d5_4) rfl ((if0 _ _).trans (teq (by decide : (0 : Int32) = (0 : Int32))).2) kt) ?_
  show Go p e below _ (T1.setTop (mkF m 7 #[.val (.ref a)] []))
  refine Go.st (fun _ kt => XS.iconst X1.here hx rfl (hb hby d5_7) kt) ?_
  show Go p e below _ (T1.setTop (mkF m 8 #[.val (.ref a)] [(.int (0 : Int32))]))
  refine Go.st (fun _ kt => XS.goto X1.here hx rfl (pc0 := 8) (pc' := 27) rfl (hb hby d5_8) (by decide) (by decide) kt) ?_
  show Go p e below _ (T1.setTop (mkF m 27 #[.val (.ref a)] [(.int (0 : Int32))]))
  refine Go.retI X1 hx Bd.returns (BodyLoose.notSynchronized Bd) (hb hby d5_27) (Q := (Q_rm5_0 Z a h0 n0)) (by decide) (by decide) ?_
  show (Q_rm5_0 Z a h0 n0) _ T1.heap _
  rw [e1]
  exact ⟨rfl, N0, rfl⟩
theorem d5_11 : decode prog_25_method_8_code 11 = .ok (.aload_n 0, 1) := by decide +kernel
theorem d5_12 : decode prog_25_method_8_code 12 = .ok (.getfield 19, 3) := by decide +kernel
theorem d5_15 : decode prog_25_method_8_code 15 = .ok (.aload_n 0, 1) := by decide +kernel
theorem d5_16 : decode prog_25_method_8_code 16 = .ok (.getfield 55, 3) := by decide +kernel
theorem d5_19 : decode prog_25_method_8_code 19 = .ok (.iconst 1, 1) := by decide +kernel
theorem d5_20 : decode prog_25_method_8_code 20 = .ok (.isub, 1) := by decide +kernel
theorem d5_21 : decode prog_25_method_8_code 21 = .ok (.iaload, 1) := by decide +kernel
theorem d5_22 : decode prog_25_method_8_code 22 = .ok (.aload_n 0, 1) := by decide +kernel
theorem d5_23 : decode prog_25_method_8_code 23 = .ok (.getfield 33, 3) := by decide +kernel
theorem d5_26 : decode prog_25_method_8_code 26 = .ok (.iadd, 1) := by decide +kernel
def Q_rm5_1 (Z : State) (a : Addr) (bs : Addr) (kb : ClassId) (en : Int32) (ee : Int32) (h0 : Heap) (n0 : Nat) (v : Option Value) (h : Heap) (L : List Loc) : Prop := v = some (.int ee) ∧ Fr n0 L ∧ h = h0
theorem ef_rm5_1 (m : MethodId) (a : Addr) : entryFrame m #[(.ref a)] 1 = mkF m 0 #[.val (.ref a)] [] := by first | (simp [entryFrame, mkF, argsToLocals, Value.category]; done) | rfl
set_option maxRecDepth 65536 in
set_option maxHeartbeats 40000000 in
theorem rm5_1 (l : Launch) (Z : State) (a0 : Array Value) (hw : ∀ d ∈ tables_1, d.before a0 Z = true) (ws : List Jvm.Cond) (a : Addr) (bs : Addr) (kb : ClassId) (en : Int32) (ee : Int32) (h0 : Heap) (n0 : Nat) (Z0 : n0 ≤ h0.size) (F_c : Fld Z h0 a "com/example/rowsieve/rowsieve/format/GrowingBytes" "count" "I" (.int (1 : Int32))) (F_b : Fld Z h0 a "com/example/rowsieve/rowsieve/format/GrowingBytes" "bases" "[I" (.ref bs)) (F_e : Fld Z h0 a "com/example/rowsieve/rowsieve/format/GrowingBytes" "end" "I" (.int en)) (V_b : Arv Z h0 bs kb .int (4 : Int32) [(.int (0 : Int32)), (.int (0 : Int32)), (.int (0 : Int32)), (.int (0 : Int32))] (.int (0 : Int32))) (hee : (0 : Int32) + en = ee) :
    MetFree l (⟨"com/example/rowsieve/rowsieve/format/GrowingBytes", "length", "()I"⟩ : MethodName) (head1 (Jvm.Cond.code (⟨"com/example/rowsieve/rowsieve/format/GrowingBytes", "length", "()I"⟩ : MethodName) prog_25_method_8_code 1 (some .int) :: ws) ({ frames := 0, cells := 0, slots := 0, locals := 0 } : Room)) (fun ag_ U_ => ag_ = #[(.ref a)] ∧ Z.Warmed39 U_.vm ∧ U_.heap = h0) (fun _ _ _ _ _ => True) (fun _ U_ o_ V_ => ∃ v_ L_, o_ = .returned v_ ∧ (Q_rm5_1 Z a bs kb en ee h0 n0) v_ V_.heap L_ ∧ FrameEnd U_ o_ V_ L_ ({ frames := 0, cells := 0, slots := 0, locals := 0 } : Room).cells ({ frames := 0, cells := 0, slots := 0, locals := 0 } : Room).slots) := by
  refine MetFree.of_bodySF (plainFor_of_name own_pn0) hisR ?_
  intro p e s m args below meth c s₁ Bd hml0 hP hK
  obtain ⟨rfl, hZ, hh⟩ := hP
  have hx := Bd.exec
  have hby := Bd.bytes
  have hml : c.maxLocals = 1 := hml0
  have hown : s.vm.findClass "com/example/rowsieve/rowsieve/format/GrowingBytes" = some m.cls := findClass_of_methodNamed Bd.named
  have hnm := (name_of_methodNamed Bd.named Bd.method).1
  have X0 : Stand p l e ({ frames := 0, cells := 0, slots := 0, locals := 0 } : Room) s m #[(.ref a)] below meth c s₁ [] 0 0 := Stand.of_body Bd
  have e0 : s₁.heap = h0 := by rw [← hh, Bd.state]; rfl
  have N0 := Fr.nil n0
  refine Go.st (G := fun s₂ o_ => ∃ v_ L_, o_ = .returned v_ ∧ (Q_rm5_1 Z a bs kb en ee h0 n0) v_ s₂.heap L_ ∧ FrameEnd s o_ s₂ L_ ({ frames := 0, cells := 0, slots := 0, locals := 0 } : Room).cells ({ frames := 0, cells := 0, slots := 0, locals := 0 } : Room).slots) (fun t kt => castTop (ef_rm5_1 m a) kt) ?_
  show Go p e below _ (s₁.setTop (mkF m 0 #[.val (.ref a)] []))
  refine Go.st (fun _ kt => XS.aloadN X0.here hx rfl (hb hby d5_0) rfl rfl kt) ?_
  show Go p e below _ (s₁.setTop (mkF m 1 #[.val (.ref a)] [(.ref a)]))
  obtain ⟨T1, X1, e1, st1⟩ := getF X0 hx hZ hown (host := "") (Or.inl (hw _ (List.mem_of_getElem? (i := 32) rfl))) Via.refl e0 F_c (g := (mkF m 1 #[.val (.ref a)] [(.ref a)])) rfl rfl (hb hby d5_1)
  refine Go.st st1 ?_
  show Go p e below _ (T1.setTop (mkF m 4 #[.val (.ref a)] [(.int (1 : Int32))]))
  refine Go.st (fun _ kt => XS.ifYes X1.here hx rfl (pc0 := 4) (pc' := 11) rfl (hb hby d5_4) rfl ((if0 _ _).trans (feq (by decide : ¬ ((1 : Int32) = (0 : Int32)))).2) (by decide) (by decide) kt) ?_
  show Go p e below _ (T1.setTop (mkF m 11 #[.val (.ref a)] []))
  refine Go.st (fun _ kt => XS.aloadN X1.here hx rfl (hb hby d5_11) rfl rfl kt) ?_
  show Go p e below _ (T1.setTop (mkF m 12 #[.val (.ref a)] [(.ref a)]))
  obtain ⟨T2, X2, e2, st2⟩ := getF X1 hx hZ hown (host := "") (Or.inl (hw _ (List.mem_of_getElem? (i := 15) rfl))) Via.refl e1 F_b (g := (mkF m 12 #[.val (.ref a)] [(.ref a)])) rfl rfl (hb hby d5_12)
  refine Go.st st2 ?_
  show Go p e below _ (T2.setTop (mkF m 15 #[.val (.ref a)] [(.ref bs)]))
  refine Go.st (fun _ kt => XS.aloadN X2.here hx rfl (hb hby d5_15) rfl rfl kt) ?_
  show Go p e below _ (T2.setTop (mkF m 16 #[.val (.ref a)] [(.ref a), (.ref bs)]))
  obtain ⟨T3, X3, e3, st3⟩ := getF X2 hx hZ hown (host := "") (Or.inl (hw _ (List.mem_of_getElem? (i := 32) rfl))) Via.refl e2 F_c (g := (mkF m 16 #[.val (.ref a)] [(.ref a), (.ref bs)])) rfl rfl (hb hby d5_16)
  refine Go.st st3 ?_
  show Go p e below _ (T3.setTop (mkF m 19 #[.val (.ref a)] [(.int (1 : Int32)), (.ref bs)]))
  refine Go.st (fun _ kt => XS.iconst X3.here hx rfl (hb hby d5_19) kt) ?_
  show Go p e below _ (T3.setTop (mkF m 20 #[.val (.ref a)] [(.int (1 : Int32)), (.int (1 : Int32)), (.ref bs)]))
  refine Go.st (fun _ kt => XS.isub X3.here hx rfl (hb hby d5_20) rfl kt) ?_
  show Go p e below _ (T3.setTop (mkF m 21 #[.val (.ref a)] [(.int (0 : Int32)), (.ref bs)]))
  obtain ⟨cl4, Ar4, -, S4, N4', H4, G4⟩ := id V_b
  have hin4 := inb_of S4 (j := (0 : Int32)) ⟨by decide, by decide⟩
  have hat4 := Has.at H4 hin4 (v := (.int (0 : Int32))) rfl
  refine Go.st (fun _ kt => X3.iaload hx (j := (0 : Int32)) (v := (.int (0 : Int32))) (by rw [e3]; exact Ar4.1) (State.isArrayOf_alike hZ.alike Ar4.2.1) Ar4.2.2 hin4 hat4 (g := (mkF m 21 #[.val (.ref a)] [(.int (0 : Int32)), (.ref bs)])) rfl rfl (hb hby d5_21) _ kt) ?_
  show Go p e below _ (T3.setTop (mkF m 22 #[.val (.ref a)] [(.int (0 : Int32))]))
  refine Go.st (fun _ kt => XS.aloadN X3.here hx rfl (hb hby d5_22) rfl rfl kt) ?_
  show Go p e below _ (T3.setTop (mkF m 23 #[.val (.ref a)] [(.ref a), (.int (0 : Int32))]))
  obtain ⟨T5, X5, e5, st5⟩ := getF X3 hx hZ hown (host := "") (Or.inl (hw _ (List.mem_of_getElem? (i := 44) rfl))) Via.refl e3 F_e (g := (mkF m 23 #[.val (.ref a)] [(.ref a), (.int (0 : Int32))])) rfl rfl (hb hby d5_23)
  refine Go.st st5 ?_
  show Go p e below _ (T5.setTop (mkF m 26 #[.val (.ref a)] [(.int en), (.int (0 : Int32))]))
  refine Go.st (fun _ kt => XS.iadd X5.here hx rfl (hb hby d5_26) rfl kt) ?_
  show Go p e below _ (T5.setTop (mkF m 27 #[.val (.ref a)] [(.int ((0 : Int32) + en))]))
  refine Go.retI X5 hx Bd.returns (BodyLoose.notSynchronized Bd) (hb hby d5_27) (Q := (Q_rm5_1 Z a bs kb en ee h0 n0)) (by decide) (by decide) ?_
  show (Q_rm5_1 Z a bs kb en ee h0 n0) _ T5.heap _
  rw [e5]
  exact ⟨by rw [← hee], N0, rfl⟩
theorem own_pd1 : parseMethodDescriptor "()I" = some ⟨[], some .int⟩ := by decide +kernel
theorem own_pd2 : parseMethodDescriptor "(II)I" = some ⟨[.int, .int], some .int⟩ := by decide +kernel
theorem d4_0 : decode prog_25_method_4_code 0 = .ok (.aload_n 0, 1) := by decide +kernel
theorem d4_1 : decode prog_25_method_4_code 1 = .ok (.getfield 30, 3) := by decide +kernel
theorem d4_4 : decode prog_25_method_4_code 4 = .ok (.ifnull 68, 3) := by decide +kernel
theorem d4_72 : decode prog_25_method_4_code 72 = .ok (.aload_n 0, 1) := by decide +kernel
theorem d4_73 : decode prog_25_method_4_code 73 = .ok (.getfield 55, 3) := by decide +kernel
theorem d4_76 : decode prog_25_method_4_code 76 = .ok (.aload_n 0, 1) := by decide +kernel
theorem d4_77 : decode prog_25_method_4_code 77 = .ok (.getfield 15, 3) := by decide +kernel
theorem d4_80 : decode prog_25_method_4_code 80 = .ok (.arraylength, 1) := by decide +kernel
theorem d4_81 : decode prog_25_method_4_code 81 = .ok (.if_icmp .ne 40, 3) := by decide +kernel
theorem d4_121 : decode prog_25_method_4_code 121 = .ok (.aload_n 0, 1) := by decide +kernel
theorem d4_122 : decode prog_25_method_4_code 122 = .ok (.getfield 19, 3) := by decide +kernel
theorem d4_125 : decode prog_25_method_4_code 125 = .ok (.aload_n 0, 1) := by decide +kernel
theorem d4_126 : decode prog_25_method_4_code 126 = .ok (.getfield 55, 3) := by decide +kernel
theorem d4_129 : decode prog_25_method_4_code 129 = .ok (.aload_n 0, 1) := by decide +kernel
theorem d4_130 : decode prog_25_method_4_code 130 = .ok (.invokevirtual 65, 3) := by decide +kernel
theorem d4_133 : decode prog_25_method_4_code 133 = .ok (.iastore, 1) := by decide +kernel
theorem d4_134 : decode prog_25_method_4_code 134 = .ok (.aload_n 0, 1) := by decide +kernel
theorem d4_135 : decode prog_25_method_4_code 135 = .ok (.iload_n 1, 1) := by decide +kernel
theorem d4_136 : decode prog_25_method_4_code 136 = .ok (.aload_n 0, 1) := by decide +kernel
theorem d4_137 : decode prog_25_method_4_code 137 = .ok (.getfield 55, 3) := by decide +kernel
theorem d4_140 : decode prog_25_method_4_code 140 = .ok (.ifCond .ne 10, 3) := by decide +kernel
theorem d4_143 : decode prog_25_method_4_code 143 = .ok (.aload_n 0, 1) := by decide +kernel
theorem d4_144 : decode prog_25_method_4_code 144 = .ok (.getfield 23, 3) := by decide +kernel
theorem d4_147 : decode prog_25_method_4_code 147 = .ok (.goto 7, 3) := by decide +kernel
theorem d4_154 : decode prog_25_method_4_code 154 = .ok (.invokestatic 40, 3) := by decide +kernel
theorem d4_157 : decode prog_25_method_4_code 157 = .ok (.newarray .byte, 2) := by decide +kernel
theorem d4_159 : decode prog_25_method_4_code 159 = .ok (.putfield 30, 3) := by decide +kernel
theorem d4_162 : decode prog_25_method_4_code 162 = .ok (.aload_n 0, 1) := by decide +kernel
theorem d4_163 : decode prog_25_method_4_code 163 = .ok (.getfield 15, 3) := by decide +kernel
theorem d4_166 : decode prog_25_method_4_code 166 = .ok (.aload_n 0, 1) := by decide +kernel
theorem d4_167 : decode prog_25_method_4_code 167 = .ok (.dup, 1) := by decide +kernel
theorem d4_168 : decode prog_25_method_4_code 168 = .ok (.getfield 55, 3) := by decide +kernel
theorem d4_171 : decode prog_25_method_4_code 171 = .ok (.dup_x1, 1) := by decide +kernel
theorem d4_172 : decode prog_25_method_4_code 172 = .ok (.iconst 1, 1) := by decide +kernel
theorem d4_173 : decode prog_25_method_4_code 173 = .ok (.iadd, 1) := by decide +kernel
theorem d4_174 : decode prog_25_method_4_code 174 = .ok (.putfield 55, 3) := by decide +kernel
theorem d4_177 : decode prog_25_method_4_code 177 = .ok (.aload_n 0, 1) := by decide +kernel
theorem d4_178 : decode prog_25_method_4_code 178 = .ok (.getfield 30, 3) := by decide +kernel
theorem d4_181 : decode prog_25_method_4_code 181 = .ok (.aastore, 1) := by decide +kernel
theorem d4_182 : decode prog_25_method_4_code 182 = .ok (.aload_n 0, 1) := by decide +kernel
theorem d4_183 : decode prog_25_method_4_code 183 = .ok (.iconst 0, 1) := by decide +kernel
theorem d4_184 : decode prog_25_method_4_code 184 = .ok (.putfield 33, 3) := by decide +kernel
theorem d4_187 : decode prog_25_method_4_code 187 = .ok (.return_, 1) := by decide +kernel
def Q_rm4 (Z : State) (a : Addr) (nn : Int32) (sg : Addr) (ks : ClassId) (bs : Addr) (kb : ClassId) (f1 : Int32) (f2 : Int32) (sz : Int32) (h0 : Heap) (n0 : Nat) (v : Option Value) (h : Heap) (L : List Loc) : Prop := ∃ la kl, v = none ∧ Fr n0 L ∧ Keep h0 h [a, sg, bs] ∧ h0.size ≤ la ∧ Fld Z h a "com/example/rowsieve/rowsieve/format/GrowingBytes" "segments" "[[B" (.ref sg) ∧ Fld Z h a "com/example/rowsieve/rowsieve/format/GrowingBytes" "bases" "[I" (.ref bs) ∧ Fld Z h a "com/example/rowsieve/rowsieve/format/GrowingBytes" "last" "[B" (.ref la) ∧ Fld Z h a "com/example/rowsieve/rowsieve/format/GrowingBytes" "end" "I" (.int (0 : Int32)) ∧ Fld Z h a "com/example/rowsieve/rowsieve/format/GrowingBytes" "count" "I" (.int (1 : Int32)) ∧ Arv Z h sg ks (.array .byte) (4 : Int32) [(.ref la), .null, .null, .null] .null ∧ Arv Z h bs kb .int (4 : Int32) [(.int (0 : Int32)), (.int (0 : Int32)), (.int (0 : Int32)), (.int (0 : Int32))] (.int (0 : Int32)) ∧ Arv Z h la kl .byte sz [] (.int (0 : Int32))
theorem ef_rm4 (m : MethodId) (a : Addr) (nn : Int32) : entryFrame m #[(.ref a), (.int nn)] 2 = mkF m 0 #[.val (.ref a), .val (.int nn)] [] := by first | (simp [entryFrame, mkF, argsToLocals, Value.category]; done) | rfl
set_option maxRecDepth 65536 in
set_option maxHeartbeats 40000000 in
theorem rm4 (l : Launch) (Z : State) (a0 : Array Value) (hw : ∀ d ∈ tables_1, d.before a0 Z = true) (ws : List Jvm.Cond) (a : Addr) (nn : Int32) (sg : Addr) (ks : ClassId) (bs : Addr) (kb : ClassId) (f1 : Int32) (f2 : Int32) (sz : Int32) (h0 : Heap) (n0 : Nat) (Z0 : n0 ≤ h0.size) (E_a : Exa Z h0 a "com/example/rowsieve/rowsieve/format/GrowingBytes") (F_segments : Fld Z h0 a "com/example/rowsieve/rowsieve/format/GrowingBytes" "segments" "[[B" (.ref sg)) (F_bases : Fld Z h0 a "com/example/rowsieve/rowsieve/format/GrowingBytes" "bases" "[I" (.ref bs)) (F_last : Fld Z h0 a "com/example/rowsieve/rowsieve/format/GrowingBytes" "last" "[B" .null) (F_firstBytes : Fld Z h0 a "com/example/rowsieve/rowsieve/format/GrowingBytes" "firstBytes" "I" (.int f1)) (F_segmentBytes : Fld Z h0 a "com/example/rowsieve/rowsieve/format/GrowingBytes" "segmentBytes" "I" (.int f2)) (F_end : Fld Z h0 a "com/example/rowsieve/rowsieve/format/GrowingBytes" "end" "I" (.int (0 : Int32))) (F_count : Fld Z h0 a "com/example/rowsieve/rowsieve/format/GrowingBytes" "count" "I" (.int (0 : Int32))) (V_s : Arv Z h0 sg ks (.array .byte) (4 : Int32) [.null, .null, .null, .null] .null) (V_b : Arv Z h0 bs kb .int (4 : Int32) [(.int (0 : Int32)), (.int (0 : Int32)), (.int (0 : Int32)), (.int (0 : Int32))] (.int (0 : Int32))) (O_s : OvrA Z ks .byte "[B") (gn_a : n0 ≤ a) (gn_sg : n0 ≤ sg) (gn_bs : n0 ≤ bs) (hsb : sg ≠ bs) (has : a ≠ sg) (hab : a ≠ bs) (hsz : own_max nn f1 = sz) (hs0 : 0 ≤ sz.toInt) (hs1 : sz.toInt ≤ 16) :
    MetFree l (⟨"com/example/rowsieve/rowsieve/format/GrowingBytes", "grow", "(I)V"⟩ : MethodName) (head1 (Jvm.Cond.code (⟨"com/example/rowsieve/rowsieve/format/GrowingBytes", "grow", "(I)V"⟩ : MethodName) prog_25_method_4_code 2 none :: ws) ({ frames := 1, cells := 1, slots := 16, locals := 14 } : Room)) (fun ag_ U_ => ag_ = #[(.ref a), (.int nn)] ∧ Z.Warmed39 U_.vm ∧ U_.heap = h0) (fun _ _ _ _ _ => True) (fun _ U_ o_ V_ => ∃ v_ L_, o_ = .returned v_ ∧ (Q_rm4 Z a nn sg ks bs kb f1 f2 sz h0 n0) v_ V_.heap L_ ∧ FrameEnd U_ o_ V_ L_ ({ frames := 1, cells := 1, slots := 16, locals := 14 } : Room).cells ({ frames := 1, cells := 1, slots := 16, locals := 14 } : Room).slots) := by
  refine MetFree.of_bodySF (plainFor_of_name own_pn0) hisR ?_
  intro p e s m args below meth c s₁ Bd hml0 hP hK
  obtain ⟨rfl, hZ, hh⟩ := hP
  have hx := Bd.exec
  have hby := Bd.bytes
  have hml : c.maxLocals = 2 := hml0
  have hown : s.vm.findClass "com/example/rowsieve/rowsieve/format/GrowingBytes" = some m.cls := findClass_of_methodNamed Bd.named
  have hnm := (name_of_methodNamed Bd.named Bd.method).1
  have X0 : Stand p l e ({ frames := 1, cells := 1, slots := 16, locals := 14 } : Room) s m #[(.ref a), (.int nn)] below meth c s₁ [] 0 0 := Stand.of_body Bd
  have e0 : s₁.heap = h0 := by rw [← hh, Bd.state]; rfl
  have N0 := Fr.nil n0
  refine Go.st (G := fun s₂ o_ => ∃ v_ L_, o_ = .returned v_ ∧ (Q_rm4 Z a nn sg ks bs kb f1 f2 sz h0 n0) v_ s₂.heap L_ ∧ FrameEnd s o_ s₂ L_ ({ frames := 1, cells := 1, slots := 16, locals := 14 } : Room).cells ({ frames := 1, cells := 1, slots := 16, locals := 14 } : Room).slots) (fun t kt => castTop (ef_rm4 m a nn) kt) ?_
  show Go p e below _ (s₁.setTop (mkF m 0 #[.val (.ref a), .val (.int nn)] []))
  refine Go.st (fun _ kt => XS.aloadN X0.here hx rfl (hb hby d4_0) rfl rfl kt) ?_
  show Go p e below _ (s₁.setTop (mkF m 1 #[.val (.ref a), .val (.int nn)] [(.ref a)]))
  obtain ⟨T1, X1, e1, st1⟩ := getF X0 hx hZ hown (host := "") (Or.inl (hw _ (List.mem_of_getElem? (i := 26) rfl))) Via.refl e0 F_last (g := (mkF m 1 #[.val (.ref a), .val (.int nn)] [(.ref a)])) rfl rfl (hb hby d4_1)
  refine Go.st st1 ?_
  show Go p e below _ (T1.setTop (mkF m 4 #[.val (.ref a), .val (.int nn)] [.null]))
  refine Go.st (fun _ kt => XS.ifnullYes X1.here hx rfl (pc0 := 4) (pc' := 72) rfl (hb hby d4_4) rfl (by decide) (by decide) kt) ?_
  show Go p e below _ (T1.setTop (mkF m 72 #[.val (.ref a), .val (.int nn)] []))
  refine Go.st (fun _ kt => XS.aloadN X1.here hx rfl (hb hby d4_72) rfl rfl kt) ?_
  show Go p e below _ (T1.setTop (mkF m 73 #[.val (.ref a), .val (.int nn)] [(.ref a)]))
  obtain ⟨T2, X2, e2, st2⟩ := getF X1 hx hZ hown (host := "") (Or.inl (hw _ (List.mem_of_getElem? (i := 32) rfl))) Via.refl e1 F_count (g := (mkF m 73 #[.val (.ref a), .val (.int nn)] [(.ref a)])) rfl rfl (hb hby d4_73)
  refine Go.st st2 ?_
  show Go p e below _ (T2.setTop (mkF m 76 #[.val (.ref a), .val (.int nn)] [(.int (0 : Int32))]))
  refine Go.st (fun _ kt => XS.aloadN X2.here hx rfl (hb hby d4_76) rfl rfl kt) ?_
  show Go p e below _ (T2.setTop (mkF m 77 #[.val (.ref a), .val (.int nn)] [(.ref a), (.int (0 : Int32))]))
  obtain ⟨T3, X3, e3, st3⟩ := getF X2 hx hZ hown (host := "") (Or.inl (hw _ (List.mem_of_getElem? (i := 12) rfl))) Via.refl e2 F_segments (g := (mkF m 77 #[.val (.ref a), .val (.int nn)] [(.ref a), (.int (0 : Int32))])) rfl rfl (hb hby d4_77)
  refine Go.st st3 ?_
  show Go p e below _ (T3.setTop (mkF m 80 #[.val (.ref a), .val (.int nn)] [(.ref sg), (.int (0 : Int32))]))
  obtain ⟨cl4, Ar4, -, S4, N4', -, -⟩ := id V_s
  refine Go.st (fun _ kt => X3.arraylength hx (by rw [e3]; exact Ar4.1) (State.isArrayOf_alike hZ.alike Ar4.2.1) (g := (mkF m 80 #[.val (.ref a), .val (.int nn)] [(.ref sg), (.int (0 : Int32))])) rfl rfl (hb hby d4_80) _ kt) ?_
  rw [len_of S4 N4']
  show Go p e below _ (T3.setTop (mkF m 81 #[.val (.ref a), .val (.int nn)] [(.int (4 : Int32)), (.int (0 : Int32))]))
  refine Go.st (fun _ kt => XS.icmpYes X3.here hx rfl (pc0 := 81) (pc' := 121) rfl (hb hby d4_81) rfl (feq (by decide : ¬ ((0 : Int32) = (4 : Int32)))).2 (by decide) (by decide) kt) ?_
  show Go p e below _ (T3.setTop (mkF m 121 #[.val (.ref a), .val (.int nn)] []))
  refine Go.st (fun _ kt => XS.aloadN X3.here hx rfl (hb hby d4_121) rfl rfl kt) ?_
  show Go p e below _ (T3.setTop (mkF m 122 #[.val (.ref a), .val (.int nn)] [(.ref a)]))
  obtain ⟨T5, X5, e5, st5⟩ := getF X3 hx hZ hown (host := "") (Or.inl (hw _ (List.mem_of_getElem? (i := 15) rfl))) Via.refl e3 F_bases (g := (mkF m 122 #[.val (.ref a), .val (.int nn)] [(.ref a)])) rfl rfl (hb hby d4_122)
  refine Go.st st5 ?_
  show Go p e below _ (T5.setTop (mkF m 125 #[.val (.ref a), .val (.int nn)] [(.ref bs)]))
  refine Go.st (fun _ kt => XS.aloadN X5.here hx rfl (hb hby d4_125) rfl rfl kt) ?_
  show Go p e below _ (T5.setTop (mkF m 126 #[.val (.ref a), .val (.int nn)] [(.ref a), (.ref bs)]))
  obtain ⟨T6, X6, e6, st6⟩ := getF X5 hx hZ hown (host := "") (Or.inl (hw _ (List.mem_of_getElem? (i := 32) rfl))) Via.refl e5 F_count (g := (mkF m 126 #[.val (.ref a), .val (.int nn)] [(.ref a), (.ref bs)])) rfl rfl (hb hby d4_126)
  refine Go.st st6 ?_
  show Go p e below _ (T6.setTop (mkF m 129 #[.val (.ref a), .val (.int nn)] [(.int (0 : Int32)), (.ref bs)]))
  refine Go.st (fun _ kt => XS.aloadN X6.here hx rfl (hb hby d4_129) rfl rfl kt) ?_
  show Go p e below _ (T6.setTop (mkF m 130 #[.val (.ref a), .val (.int nn)] [(.ref a), (.int (0 : Int32)), (.ref bs)]))
  obtain ⟨cq7, kq7, q7a, q7b, q7c⟩ := isOf hZ e6 E_a
  obtain ⟨_, _, ⟨T7, L7, k7, n7⟩, -, X7, ⟨Lc7, hQ7, l7, y7, z7⟩, st7⟩ := X6.virtualBack hx (y := (⟨"com/example/rowsieve/rowsieve/format/GrowingBytes", "length", "()I"⟩ : MethodName)) (z := (⟨"com/example/rowsieve/rowsieve/format/GrowingBytes", "length", "()I"⟩ : MethodName)) hown (mvT hZ (hw _ (List.mem_of_getElem? (i := 34) rfl))) (mvT hZ (hw _ (List.mem_of_getElem? (i := 35) rfl))) (notFace_of_selects (args := #[]) (mvT hZ (hw _ (List.mem_of_getElem? (i := 37) rfl)))) (mvT hZ (hw _ (List.mem_of_getElem? (i := 37) rfl))) (mvT hZ (hw _ (List.mem_of_getElem? (i := 36) rfl))) (by decide) (backOf (W := 2) (rm5_0 l Z a0 hw [] a h0 n0 Z0 F_count) hZ (hw _ (List.mem_of_getElem? (i := 38) rfl)) (hw _ (List.mem_of_getElem? (i := 3) rfl)) (by decide) (by decide)) q7a q7c (g := (mkF m 130 #[.val (.ref a), .val (.int nn)] [(.ref a), (.int (0 : Int32)), (.ref bs)])) rfl (by rw [hml]; rfl) (Steps.refl _) (argsL := []) (rest := [(.int (0 : Int32)), (.ref bs)]) (lenOf own_pd1 rfl) rfl (by show 2 * 0 + _ ≤ _; exact Nat.le_of_eq rfl) (hb hby d4_130) (fun _ _ => ⟨rfl, e6, (by decide : 0 + 0 ≤ _), (by decide : 0 + 0 ≤ _)⟩)
  dsimp only [Pt.U, Pt.locs, Pt.cells, Pt.slots] at X7 l7 y7 z7 st7 hQ7
  subst l7 y7 z7
  obtain ⟨rfl, N7q, e7⟩ := hQ7
  have N7 := Fr.app N0 N7q
  refine Go.tr st7 ?_
  show Go p e below _ (T7.setTop (mkF m 133 #[.val (.ref a), .val (.int nn)] [(.int (0 : Int32)), (.int (0 : Int32)), (.ref bs)]))
  obtain ⟨cl8, Ar8, q8, S8, N8', H8, G8⟩ := id V_b
  have hin8 : ¬ ((0 : Int32) < 0 ∨ cl8.slots.size ≤ ((0 : Int32)).toNatClampNeg) := inb_of S8 ⟨by decide, by decide⟩
  obtain ⟨T9, h9, X9, e9, W9, st9⟩ := stI X7 hx hZ e7 Ar8 (j := (0 : Int32)) hin8 (g := (mkF m 133 #[.val (.ref a), .val (.int nn)] [(.int (0 : Int32)), (.int (0 : Int32)), (.ref bs)])) rfl rfl (hb hby d4_133)
  refine Go.st st9 ?_
  have V9 : Arv Z h9 bs kb .int (4 : Int32) [(.int (0 : Int32)), (.int (0 : Int32)), (.int (0 : Int32)), (.int (0 : Int32))] (.int (0 : Int32)) := Arv.set Ar8 q8 S8 N8' H8 G8 rfl W9 0 rfl (Nat.le_of_ble_eq_true rfl)
  have Zs9 : n0 ≤ h9.size := Nat.le_trans Z0 (Nat.le_of_eq W9.size.symm)
  have N9 := Fr.snoc X9 N7 gn_bs
  have K9 : Keep h0 h9 [a, sg, bs] := (Keep.refl h0 [a, sg, bs]).wr W9 (Or.inl (List.mem_of_getElem? (i := 2) rfl))
  show Go p e below _ (T9.setTop (mkF m 134 #[.val (.ref a), .val (.int nn)] []))
  refine Go.st (fun _ kt => XS.aloadN X9.here hx rfl (hb hby d4_134) rfl rfl kt) ?_
  show Go p e below _ (T9.setTop (mkF m 135 #[.val (.ref a), .val (.int nn)] [(.ref a)]))
  refine Go.st (fun _ kt => XS.iloadN X9.here hx rfl (hb hby d4_135) rfl kt) ?_
  show Go p e below _ (T9.setTop (mkF m 136 #[.val (.ref a), .val (.int nn)] [(.int nn), (.ref a)]))
  refine Go.st (fun _ kt => XS.aloadN X9.here hx rfl (hb hby d4_136) rfl rfl kt) ?_
  show Go p e below _ (T9.setTop (mkF m 137 #[.val (.ref a), .val (.int nn)] [(.ref a), (.int nn), (.ref a)]))
  have f10 := (F_count.other W9 (Or.inl hab))
  obtain ⟨T11, X11, e11, st11⟩ := getF X9 hx hZ hown (host := "") (Or.inl (hw _ (List.mem_of_getElem? (i := 32) rfl))) Via.refl e9 f10 (g := (mkF m 137 #[.val (.ref a), .val (.int nn)] [(.ref a), (.int nn), (.ref a)])) rfl rfl (hb hby d4_137)
  refine Go.st st11 ?_
  show Go p e below _ (T11.setTop (mkF m 140 #[.val (.ref a), .val (.int nn)] [(.int (0 : Int32)), (.int nn), (.ref a)]))
  refine Go.st (fun _ kt => XS.ifNo X11.here hx rfl (hb hby d4_140) rfl ((if0 _ _).trans (teq (by decide : (0 : Int32) = (0 : Int32))).2) kt) ?_
  show Go p e below _ (T11.setTop (mkF m 143 #[.val (.ref a), .val (.int nn)] [(.int nn), (.ref a)]))
  refine Go.st (fun _ kt => XS.aloadN X11.here hx rfl (hb hby d4_143) rfl rfl kt) ?_
  show Go p e below _ (T11.setTop (mkF m 144 #[.val (.ref a), .val (.int nn)] [(.ref a), (.int nn), (.ref a)]))
  have f12 := (F_firstBytes.other W9 (Or.inl hab))
  obtain ⟨T13, X13, e13, st13⟩ := getF X11 hx hZ hown (host := "") (Or.inl (hw _ (List.mem_of_getElem? (i := 17) rfl))) Via.refl e11 f12 (g := (mkF m 144 #[.val (.ref a), .val (.int nn)] [(.ref a), (.int nn), (.ref a)])) rfl rfl (hb hby d4_144)
  refine Go.st st13 ?_
  show Go p e below _ (T13.setTop (mkF m 147 #[.val (.ref a), .val (.int nn)] [(.int f1), (.int nn), (.ref a)]))
  refine Go.st (fun _ kt => XS.goto X13.here hx rfl (pc0 := 147) (pc' := 154) rfl (hb hby d4_147) (by decide) (by decide) kt) ?_
  show Go p e below _ (T13.setTop (mkF m 154 #[.val (.ref a), .val (.int nn)] [(.int f1), (.int nn), (.ref a)]))
  obtain ⟨_, _, ⟨T14, L14, k14, n14⟩, -, X14, ⟨Lc14, hQ14, l14, y14, z14⟩, st14⟩ := Jvm.LawKit.callS X13 hx (y := (⟨"java/lang/Math", "max", "(II)I"⟩ : MethodName)) hown (mvT hZ (hw _ (List.mem_of_getElem? (i := 39) rfl))) (mvT hZ (hw _ (List.mem_of_getElem? (i := 40) rfl))) (mvT hZ (hw _ (List.mem_of_getElem? (i := 41) rfl))) (mvT hZ (hw _ (List.mem_of_getElem? (i := 42) rfl))) (by decide) (backOf (W := 1) (rm6 l Z a0 hw [] nn f1 h9 n0 Zs9) hZ (hw _ (List.mem_of_getElem? (i := 42) rfl)) (hw _ (List.mem_of_getElem? (i := 41) rfl)) (by decide) (by decide)) (g := (mkF m 154 #[.val (.ref a), .val (.int nn)] [(.int f1), (.int nn), (.ref a)])) rfl (by rw [hml]; rfl) (argsL := [(.int nn), (.int f1)]) (rest := [(.ref a)]) (lenOf own_pd2 rfl) rfl (by show 2 * 0 + _ ≤ _; exact Nat.le_of_eq rfl) (hb hby d4_154) (fun _ _ => ⟨rfl, e13, (by decide : 0 + 0 ≤ _), (by decide : 0 + 0 ≤ _)⟩)
  dsimp only [Pt.U, Pt.locs, Pt.cells, Pt.slots] at X14 l14 y14 z14 st14 hQ14
  subst l14 y14 z14
  obtain ⟨rfl, N14q, e14⟩ := hQ14
  have N14 := Fr.app N9 N14q
  refine Go.st st14 ?_
  show Go p e below _ (T14.setTop (mkF m 157 #[.val (.ref a), .val (.int nn)] [(.int (own_max nn f1)), (.ref a)]))
  rw [(hsz : own_max nn f1 = sz)]
  show Go p e below _ (T14.setTop (mkF m 157 #[.val (.ref a), .val (.int nn)] [(.int (sz)), (.ref a)]))
  obtain ⟨T15, h15, k15, X15, e15, E15, A15, Y15, st15⟩ := newPE X14 hx hZ (hw _ (List.mem_of_getElem? (i := 0) rfl)) e14 (g := (mkF m 157 #[.val (.ref a), .val (.int nn)] [(.int sz), (.ref a)])) rfl (hb hby d4_157) rfl (own_nlt hs0) (cap := 16) (by have := nat_of (own_nlt hs0); omega) (by decide) (by decide) (by decide) (ad := "[B") (by decide)
  obtain ⟨b15, g15⟩ : ∃ z, z = h9.size := ⟨_, rfl⟩
  rw [← g15] at A15 Y15 st15
  have f16 := (E_a.wr W9)
  have lt_a_b15 : a < b15 := Nat.lt_of_lt_of_eq f16.lt g15.symm
  have f17 := (V_s.other W9 hsb)
  have lt_sg_b15 : sg < b15 := Nat.lt_of_lt_of_eq f17.lt g15.symm
  have lt_bs_b15 : bs < b15 := Nat.lt_of_lt_of_eq V9.lt g15.symm
  have gn_b15 : n0 ≤ b15 := Nat.le_trans Zs9 (Nat.le_of_eq g15.symm)
  have Zs15 : n0 ≤ h15.size := Nat.le_trans Zs9 E15.1
  have K15 : Keep h0 h15 [a, sg, bs] := K9.ext E15
  have kn_b15 : h0.size ≤ b15 := Nat.le_trans K9.1 (Nat.le_of_eq g15.symm)
  refine Go.st st15 ?_
  have V15 := Arv.new A15 (own_nlt hs0)
  show Go p e below _ (T15.setTop (mkF m 159 #[.val (.ref a), .val (.int nn)] [(.ref b15), (.ref a)]))
  have f18 := (f16.ext E15)
  have f19 := ((F_last.other W9 (Or.inl hab)).ext E15)
  obtain ⟨T20, h20, X20, e20, W20, st20⟩ := putF X15 hx hZ hown (host := "") (Or.inl (hw _ (List.mem_of_getElem? (i := 26) rfl))) Via.refl e15 f19 f18 (Or.inl (hw _ (List.mem_of_getElem? (i := 27) rfl))) (hw _ (List.mem_of_getElem? (i := 2) rfl)) (ty := (.array .byte)) (by decide) rfl rfl (g := (mkF m 159 #[.val (.ref a), .val (.int nn)] [(.ref b15), (.ref a)])) rfl rfl (hb hby d4_159)
  refine Go.st st20 ?_
  have Fw20 := f19.same W20
  have Zs20 : n0 ≤ h20.size := Nat.le_trans Zs15 (Nat.le_of_eq W20.size.symm)
  have N20 := Fr.snoc X20 N14 gn_a
  have K20 : Keep h0 h20 [a, sg, bs] := K15.wr W20 (Or.inl (List.mem_of_getElem? (i := 0) rfl))
  show Go p e below _ (T20.setTop (mkF m 162 #[.val (.ref a), .val (.int nn)] []))
  refine Go.st (fun _ kt => XS.aloadN X20.here hx rfl (hb hby d4_162) rfl rfl kt) ?_
  show Go p e below _ (T20.setTop (mkF m 163 #[.val (.ref a), .val (.int nn)] [(.ref a)]))
  have f21 := (((F_segments.other W9 (Or.inl hab)).ext E15).other W20 (Or.inr (slot_ne (Or.inl (hw _ (List.mem_of_getElem? (i := 13) rfl))) (Or.inl (hw _ (List.mem_of_getElem? (i := 27) rfl))) (by decide) (t := (.array (.array .byte))) (t' := (.array .byte)) (by decide) (by decide))))
  obtain ⟨T22, X22, e22, st22⟩ := getF X20 hx hZ hown (host := "") (Or.inl (hw _ (List.mem_of_getElem? (i := 12) rfl))) Via.refl e20 f21 (g := (mkF m 163 #[.val (.ref a), .val (.int nn)] [(.ref a)])) rfl rfl (hb hby d4_163)
  refine Go.st st22 ?_
  show Go p e below _ (T22.setTop (mkF m 166 #[.val (.ref a), .val (.int nn)] [(.ref sg)]))
  refine Go.st (fun _ kt => XS.aloadN X22.here hx rfl (hb hby d4_166) rfl rfl kt) ?_
  show Go p e below _ (T22.setTop (mkF m 167 #[.val (.ref a), .val (.int nn)] [(.ref a), (.ref sg)]))
  refine Go.st (fun _ kt => XS.dup X22.here hx rfl (hb hby d4_167) rfl rfl kt) ?_
  show Go p e below _ (T22.setTop (mkF m 168 #[.val (.ref a), .val (.int nn)] [(.ref a), (.ref a), (.ref sg)]))
  have f23 := ((f10.ext E15).other W20 (Or.inr (slot_ne (Or.inl (hw _ (List.mem_of_getElem? (i := 33) rfl))) (Or.inl (hw _ (List.mem_of_getElem? (i := 27) rfl))) (by decide) (t := .int) (t' := (.array .byte)) (by decide) (by decide))))
  obtain ⟨T24, X24, e24, st24⟩ := getF X22 hx hZ hown (host := "") (Or.inl (hw _ (List.mem_of_getElem? (i := 32) rfl))) Via.refl e22 f23 (g := (mkF m 168 #[.val (.ref a), .val (.int nn)] [(.ref a), (.ref a), (.ref sg)])) rfl rfl (hb hby d4_168)
  refine Go.st st24 ?_
  show Go p e below _ (T24.setTop (mkF m 171 #[.val (.ref a), .val (.int nn)] [(.int (0 : Int32)), (.ref a), (.ref sg)]))
  refine Go.st (fun _ kt => XS.dupX1 X24.here hx rfl (hb hby d4_171) rfl rfl rfl kt) ?_
  show Go p e below _ (T24.setTop (mkF m 172 #[.val (.ref a), .val (.int nn)] [(.int (0 : Int32)), (.ref a), (.int (0 : Int32)), (.ref sg)]))
  refine Go.st (fun _ kt => XS.iconst X24.here hx rfl (hb hby d4_172) kt) ?_
  show Go p e below _ (T24.setTop (mkF m 173 #[.val (.ref a), .val (.int nn)] [(.int (1 : Int32)), (.int (0 : Int32)), (.ref a), (.int (0 : Int32)), (.ref sg)]))
  refine Go.st (fun _ kt => XS.iadd X24.here hx rfl (hb hby d4_173) rfl kt) ?_
  show Go p e below _ (T24.setTop (mkF m 174 #[.val (.ref a), .val (.int nn)] [(.int (1 : Int32)), (.ref a), (.int (0 : Int32)), (.ref sg)]))
  have f25 := (f18.wr W20)
  obtain ⟨T26, h26, X26, e26, W26, st26⟩ := putF X24 hx hZ hown (host := "") (Or.inl (hw _ (List.mem_of_getElem? (i := 32) rfl))) Via.refl e24 f23 f25 (Or.inl (hw _ (List.mem_of_getElem? (i := 33) rfl))) (hw _ (List.mem_of_getElem? (i := 2) rfl)) (ty := .int) (by decide) rfl rfl (g := (mkF m 174 #[.val (.ref a), .val (.int nn)] [(.int (1 : Int32)), (.ref a), (.int (0 : Int32)), (.ref sg)])) rfl rfl (hb hby d4_174)
  refine Go.st st26 ?_
  have Fw26 := f23.same W26
  have Zs26 : n0 ≤ h26.size := Nat.le_trans Zs20 (Nat.le_of_eq W26.size.symm)
  have N26 := Fr.snoc X26 N20 gn_a
  have K26 : Keep h0 h26 [a, sg, bs] := K20.wr W26 (Or.inl (List.mem_of_getElem? (i := 0) rfl))
  show Go p e below _ (T26.setTop (mkF m 177 #[.val (.ref a), .val (.int nn)] [(.int (0 : Int32)), (.ref sg)]))
  refine Go.st (fun _ kt => XS.aloadN X26.here hx rfl (hb hby d4_177) rfl rfl kt) ?_
  show Go p e below _ (T26.setTop (mkF m 178 #[.val (.ref a), .val (.int nn)] [(.ref a), (.int (0 : Int32)), (.ref sg)]))
  have f27 := (Fw20.other W26 (Or.inr (slot_ne (Or.inl (hw _ (List.mem_of_getElem? (i := 27) rfl))) (Or.inl (hw _ (List.mem_of_getElem? (i := 33) rfl))) (by decide) (t := (.array .byte)) (t' := .int) (by decide) (by decide))))
  obtain ⟨T28, X28, e28, st28⟩ := getF X26 hx hZ hown (host := "") (Or.inl (hw _ (List.mem_of_getElem? (i := 26) rfl))) Via.refl e26 f27 (g := (mkF m 178 #[.val (.ref a), .val (.int nn)] [(.ref a), (.int (0 : Int32)), (.ref sg)])) rfl rfl (hb hby d4_178)
  refine Go.st st28 ?_
  show Go p e below _ (T28.setTop (mkF m 181 #[.val (.ref a), .val (.int nn)] [(.ref b15), (.int (0 : Int32)), (.ref sg)]))
  have f29 := (((f17.ext E15).other W20 (Ne.symm has)).other W26 (Ne.symm has))
  have f31 := ((Y15.wr W20).wr W26)
  obtain ⟨cl30, Ar30, q30, S30, N30', H30, G30⟩ := id f29
  have hin30 : ¬ ((0 : Int32) < 0 ∨ cl30.slots.size ≤ ((0 : Int32)).toNatClampNeg) := inb_of S30 ⟨by decide, by decide⟩
  obtain ⟨T32, h32, X32, e32, W32, st32⟩ := stR X28 hx hZ e28 Ar30 (j := (0 : Int32)) hin30 rfl (Sto.ofVA Ar30 q30 O_s (Ins.self f31)) (g := (mkF m 181 #[.val (.ref a), .val (.int nn)] [(.ref b15), (.int (0 : Int32)), (.ref sg)])) rfl rfl (hb hby d4_181)
  refine Go.st st32 ?_
  have V32 : Arv Z h32 sg ks (.array .byte) (4 : Int32) [(.ref b15), .null, .null, .null] .null := Arv.set Ar30 q30 S30 N30' H30 G30 rfl W32 0 rfl (Nat.le_of_ble_eq_true rfl)
  have Zs32 : n0 ≤ h32.size := Nat.le_trans Zs26 (Nat.le_of_eq W32.size.symm)
  have N32 := Fr.snoc X32 N26 gn_sg
  have K32 : Keep h0 h32 [a, sg, bs] := K26.wr W32 (Or.inl (List.mem_of_getElem? (i := 1) rfl))
  show Go p e below _ (T32.setTop (mkF m 182 #[.val (.ref a), .val (.int nn)] []))
  refine Go.st (fun _ kt => XS.aloadN X32.here hx rfl (hb hby d4_182) rfl rfl kt) ?_
  show Go p e below _ (T32.setTop (mkF m 183 #[.val (.ref a), .val (.int nn)] [(.ref a)]))
  refine Go.st (fun _ kt => XS.iconst X32.here hx rfl (hb hby d4_183) kt) ?_
  show Go p e below _ (T32.setTop (mkF m 184 #[.val (.ref a), .val (.int nn)] [(.int (0 : Int32)), (.ref a)]))
  have f33 := ((f25.wr W26).wr W32)
  have f34 := (((((F_end.other W9 (Or.inl hab)).ext E15).other W20 (Or.inr (slot_ne (Or.inl (hw _ (List.mem_of_getElem? (i := 45) rfl))) (Or.inl (hw _ (List.mem_of_getElem? (i := 27) rfl))) (by decide) (t := .int) (t' := (.array .byte)) (by decide) (by decide)))).other W26 (Or.inr (slot_ne (Or.inl (hw _ (List.mem_of_getElem? (i := 45) rfl))) (Or.inl (hw _ (List.mem_of_getElem? (i := 33) rfl))) (by decide) (t := .int) (t' := .int) (by decide) (by decide)))).other W32 (Or.inl has))
  obtain ⟨T35, h35, X35, e35, W35, st35⟩ := putF X32 hx hZ hown (host := "") (Or.inl (hw _ (List.mem_of_getElem? (i := 44) rfl))) Via.refl e32 f34 f33 (Or.inl (hw _ (List.mem_of_getElem? (i := 45) rfl))) (hw _ (List.mem_of_getElem? (i := 2) rfl)) (ty := .int) (by decide) rfl rfl (g := (mkF m 184 #[.val (.ref a), .val (.int nn)] [(.int (0 : Int32)), (.ref a)])) rfl rfl (hb hby d4_184)
  refine Go.st st35 ?_
  have Fw35 := f34.same W35
  have Zs35 : n0 ≤ h35.size := Nat.le_trans Zs32 (Nat.le_of_eq W35.size.symm)
  have N35 := Fr.snoc X35 N32 gn_a
  have K35 : Keep h0 h35 [a, sg, bs] := K32.wr W35 (Or.inl (List.mem_of_getElem? (i := 0) rfl))
  show Go p e below _ (T35.setTop (mkF m 187 #[.val (.ref a), .val (.int nn)] []))
  have f36 := (((f21.other W26 (Or.inr (slot_ne (Or.inl (hw _ (List.mem_of_getElem? (i := 13) rfl))) (Or.inl (hw _ (List.mem_of_getElem? (i := 33) rfl))) (by decide) (t := (.array (.array .byte))) (t' := .int) (by decide) (by decide)))).other W32 (Or.inl has)).other W35 (Or.inr (slot_ne (Or.inl (hw _ (List.mem_of_getElem? (i := 13) rfl))) (Or.inl (hw _ (List.mem_of_getElem? (i := 45) rfl))) (by decide) (t := (.array (.array .byte))) (t' := .int) (by decide) (by decide))))
  have f37 := ((((((F_bases.other W9 (Or.inl hab)).ext E15).other W20 (Or.inr (slot_ne (Or.inl (hw _ (List.mem_of_getElem? (i := 16) rfl))) (Or.inl (hw _ (List.mem_of_getElem? (i := 27) rfl))) (by decide) (t := (.array .int)) (t' := (.array .byte)) (by decide) (by decide)))).other W26 (Or.inr (slot_ne (Or.inl (hw _ (List.mem_of_getElem? (i := 16) rfl))) (Or.inl (hw _ (List.mem_of_getElem? (i := 33) rfl))) (by decide) (t := (.array .int)) (t' := .int) (by decide) (by decide)))).other W32 (Or.inl has)).other W35 (Or.inr (slot_ne (Or.inl (hw _ (List.mem_of_getElem? (i := 16) rfl))) (Or.inl (hw _ (List.mem_of_getElem? (i := 45) rfl))) (by decide) (t := (.array .int)) (t' := .int) (by decide) (by decide))))
  have f38 := ((f27.other W32 (Or.inl has)).other W35 (Or.inr (slot_ne (Or.inl (hw _ (List.mem_of_getElem? (i := 27) rfl))) (Or.inl (hw _ (List.mem_of_getElem? (i := 45) rfl))) (by decide) (t := (.array .byte)) (t' := .int) (by decide) (by decide))))
  have f39 := ((Fw26.other W32 (Or.inl has)).other W35 (Or.inr (slot_ne (Or.inl (hw _ (List.mem_of_getElem? (i := 33) rfl))) (Or.inl (hw _ (List.mem_of_getElem? (i := 45) rfl))) (by decide) (t := .int) (t' := .int) (by decide) (by decide))))
  have f40 := (V32.other W35 (Ne.symm has))
  have f41 := (((((V9.ext E15).other W20 (Ne.symm hab)).other W26 (Ne.symm hab)).other W32 (Ne.symm hsb)).other W35 (Ne.symm hab))
  have f42 := ((((V15.other W20 (Nat.ne_of_gt lt_a_b15)).other W26 (Nat.ne_of_gt lt_a_b15)).other W32 (Nat.ne_of_gt lt_sg_b15)).other W35 (Nat.ne_of_gt lt_a_b15))
  refine Go.retV X35 hx Bd.returns (BodyLoose.notSynchronized Bd) (hb hby d4_187) (Q := (Q_rm4 Z a nn sg ks bs kb f1 f2 sz h0 n0)) (by decide) (by decide) ?_
  show (Q_rm4 Z a nn sg ks bs kb f1 f2 sz h0 n0) _ T35.heap _
  rw [e35]
  exact ⟨b15, k15, rfl, N35, K35, kn_b15, f36, f37, f38, Fw35, f39, f40, f41, f42⟩
theorem own_pd3 : parseMethodDescriptor "(I)V" = some ⟨[.int], none⟩ := by decide +kernel
theorem d3_0 : decode prog_25_method_3_code 0 = .ok (.aload_n 0, 1) := by decide +kernel
theorem d3_1 : decode prog_25_method_3_code 1 = .ok (.getfield 30, 3) := by decide +kernel
theorem d3_4 : decode prog_25_method_3_code 4 = .ok (.ifnull 17, 3) := by decide +kernel
theorem d3_21 : decode prog_25_method_3_code 21 = .ok (.aload_n 0, 1) := by decide +kernel
theorem d3_22 : decode prog_25_method_3_code 22 = .ok (.iload_n 1, 1) := by decide +kernel
theorem d3_23 : decode prog_25_method_3_code 23 = .ok (.invokevirtual 36, 3) := by decide +kernel
theorem d3_26 : decode prog_25_method_3_code 26 = .ok (.return_, 1) := by decide +kernel
def Q_rm3 (Z : State) (a : Addr) (nn : Int32) (sg : Addr) (ks : ClassId) (bs : Addr) (kb : ClassId) (f1 : Int32) (f2 : Int32) (sz : Int32) (h0 : Heap) (n0 : Nat) (v : Option Value) (h : Heap) (L : List Loc) : Prop := ∃ la kl, v = none ∧ Fr n0 L ∧ Keep h0 h [a, sg, bs] ∧ h0.size ≤ la ∧ Fld Z h a "com/example/rowsieve/rowsieve/format/GrowingBytes" "segments" "[[B" (.ref sg) ∧ Fld Z h a "com/example/rowsieve/rowsieve/format/GrowingBytes" "bases" "[I" (.ref bs) ∧ Fld Z h a "com/example/rowsieve/rowsieve/format/GrowingBytes" "last" "[B" (.ref la) ∧ Fld Z h a "com/example/rowsieve/rowsieve/format/GrowingBytes" "end" "I" (.int (0 : Int32)) ∧ Fld Z h a "com/example/rowsieve/rowsieve/format/GrowingBytes" "count" "I" (.int (1 : Int32)) ∧ Arv Z h sg ks (.array .byte) (4 : Int32) [(.ref la), .null, .null, .null] .null ∧ Arv Z h bs kb .int (4 : Int32) [(.int (0 : Int32)), (.int (0 : Int32)), (.int (0 : Int32)), (.int (0 : Int32))] (.int (0 : Int32)) ∧ Arv Z h la kl .byte sz [] (.int (0 : Int32))
theorem ef_rm3 (m : MethodId) (a : Addr) (nn : Int32) : entryFrame m #[(.ref a), (.int nn)] 2 = mkF m 0 #[.val (.ref a), .val (.int nn)] [] := by first | (simp [entryFrame, mkF, argsToLocals, Value.category]; done) | rfl
set_option maxRecDepth 65536 in
set_option maxHeartbeats 40000000 in
theorem rm3 (l : Launch) (Z : State) (a0 : Array Value) (hw : ∀ d ∈ tables_1, d.before a0 Z = true) (ws : List Jvm.Cond) (a : Addr) (nn : Int32) (sg : Addr) (ks : ClassId) (bs : Addr) (kb : ClassId) (f1 : Int32) (f2 : Int32) (sz : Int32) (h0 : Heap) (n0 : Nat) (Z0 : n0 ≤ h0.size) (E_a : Exa Z h0 a "com/example/rowsieve/rowsieve/format/GrowingBytes") (F_segments : Fld Z h0 a "com/example/rowsieve/rowsieve/format/GrowingBytes" "segments" "[[B" (.ref sg)) (F_bases : Fld Z h0 a "com/example/rowsieve/rowsieve/format/GrowingBytes" "bases" "[I" (.ref bs)) (F_last : Fld Z h0 a "com/example/rowsieve/rowsieve/format/GrowingBytes" "last" "[B" .null) (F_firstBytes : Fld Z h0 a "com/example/rowsieve/rowsieve/format/GrowingBytes" "firstBytes" "I" (.int f1)) (F_segmentBytes : Fld Z h0 a "com/example/rowsieve/rowsieve/format/GrowingBytes" "segmentBytes" "I" (.int f2)) (F_end : Fld Z h0 a "com/example/rowsieve/rowsieve/format/GrowingBytes" "end" "I" (.int (0 : Int32))) (F_count : Fld Z h0 a "com/example/rowsieve/rowsieve/format/GrowingBytes" "count" "I" (.int (0 : Int32))) (V_s : Arv Z h0 sg ks (.array .byte) (4 : Int32) [.null, .null, .null, .null] .null) (V_b : Arv Z h0 bs kb .int (4 : Int32) [(.int (0 : Int32)), (.int (0 : Int32)), (.int (0 : Int32)), (.int (0 : Int32))] (.int (0 : Int32))) (O_s : OvrA Z ks .byte "[B") (gn_a : n0 ≤ a) (gn_sg : n0 ≤ sg) (gn_bs : n0 ≤ bs) (hsb : sg ≠ bs) (has : a ≠ sg) (hab : a ≠ bs) (hsz : own_max nn f1 = sz) (hs0 : 0 ≤ sz.toInt) (hs1 : sz.toInt ≤ 16) :
    MetFree l (⟨"com/example/rowsieve/rowsieve/format/GrowingBytes", "makeRoom", "(I)V"⟩ : MethodName) (head1 (Jvm.Cond.code (⟨"com/example/rowsieve/rowsieve/format/GrowingBytes", "makeRoom", "(I)V"⟩ : MethodName) prog_25_method_3_code 2 none :: ws) ({ frames := 2, cells := 1, slots := 16, locals := 27 } : Room)) (fun ag_ U_ => ag_ = #[(.ref a), (.int nn)] ∧ Z.Warmed39 U_.vm ∧ U_.heap = h0) (fun _ _ _ _ _ => True) (fun _ U_ o_ V_ => ∃ v_ L_, o_ = .returned v_ ∧ (Q_rm3 Z a nn sg ks bs kb f1 f2 sz h0 n0) v_ V_.heap L_ ∧ FrameEnd U_ o_ V_ L_ ({ frames := 2, cells := 1, slots := 16, locals := 27 } : Room).cells ({ frames := 2, cells := 1, slots := 16, locals := 27 } : Room).slots) := by
  refine MetFree.of_bodySF (plainFor_of_name own_pn0) hisR ?_
  intro p e s m args below meth c s₁ Bd hml0 hP hK
  obtain ⟨rfl, hZ, hh⟩ := hP
  have hx := Bd.exec
  have hby := Bd.bytes
  have hml : c.maxLocals = 2 := hml0
  have hown : s.vm.findClass "com/example/rowsieve/rowsieve/format/GrowingBytes" = some m.cls := findClass_of_methodNamed Bd.named
  have hnm := (name_of_methodNamed Bd.named Bd.method).1
  have X0 : Stand p l e ({ frames := 2, cells := 1, slots := 16, locals := 27 } : Room) s m #[(.ref a), (.int nn)] below meth c s₁ [] 0 0 := Stand.of_body Bd
  have e0 : s₁.heap = h0 := by rw [← hh, Bd.state]; rfl
  have N0 := Fr.nil n0
  refine Go.st (G := fun s₂ o_ => ∃ v_ L_, o_ = .returned v_ ∧ (Q_rm3 Z a nn sg ks bs kb f1 f2 sz h0 n0) v_ s₂.heap L_ ∧ FrameEnd s o_ s₂ L_ ({ frames := 2, cells := 1, slots := 16, locals := 27 } : Room).cells ({ frames := 2, cells := 1, slots := 16, locals := 27 } : Room).slots) (fun t kt => castTop (ef_rm3 m a nn) kt) ?_
  show Go p e below _ (s₁.setTop (mkF m 0 #[.val (.ref a), .val (.int nn)] []))
  refine Go.st (fun _ kt => XS.aloadN X0.here hx rfl (hb hby d3_0) rfl rfl kt) ?_
  show Go p e below _ (s₁.setTop (mkF m 1 #[.val (.ref a), .val (.int nn)] [(.ref a)]))
  obtain ⟨T1, X1, e1, st1⟩ := getF X0 hx hZ hown (host := "") (Or.inl (hw _ (List.mem_of_getElem? (i := 26) rfl))) Via.refl e0 F_last (g := (mkF m 1 #[.val (.ref a), .val (.int nn)] [(.ref a)])) rfl rfl (hb hby d3_1)
  refine Go.st st1 ?_
  show Go p e below _ (T1.setTop (mkF m 4 #[.val (.ref a), .val (.int nn)] [.null]))
  refine Go.st (fun _ kt => XS.ifnullYes X1.here hx rfl (pc0 := 4) (pc' := 21) rfl (hb hby d3_4) rfl (by decide) (by decide) kt) ?_
  show Go p e below _ (T1.setTop (mkF m 21 #[.val (.ref a), .val (.int nn)] []))
  refine Go.st (fun _ kt => XS.aloadN X1.here hx rfl (hb hby d3_21) rfl rfl kt) ?_
  show Go p e below _ (T1.setTop (mkF m 22 #[.val (.ref a), .val (.int nn)] [(.ref a)]))
  refine Go.st (fun _ kt => XS.iloadN X1.here hx rfl (hb hby d3_22) rfl kt) ?_
  show Go p e below _ (T1.setTop (mkF m 23 #[.val (.ref a), .val (.int nn)] [(.int nn), (.ref a)]))
  obtain ⟨cq2, q2, q2'⟩ := E_a.cell
  obtain ⟨_, _, ⟨T2, L2, k2, n2⟩, -, X2, ⟨Lc2, hQ2, l2, y2, z2⟩, st2⟩ := X1.privateBack hx (y := (⟨"com/example/rowsieve/rowsieve/format/GrowingBytes", "grow", "(I)V"⟩ : MethodName)) hown (mvT hZ (hw _ (List.mem_of_getElem? (i := 28) rfl))) (mvT hZ (hw _ (List.mem_of_getElem? (i := 29) rfl))) (own_self hZ (hw _ (List.mem_of_getElem? (i := 2) rfl)) (hw _ (List.mem_of_getElem? (i := 30) rfl)) (hw _ (List.mem_of_getElem? (i := 29) rfl)) (by decide)) (Cond.privateMethod_at (mvP hZ (hw _ (List.mem_of_getElem? (i := 30) rfl)) (args := #[]))) (mvT hZ (hw _ (List.mem_of_getElem? (i := 31) rfl))) (by decide) (backOf (W := 0) (rm4 l Z a0 hw [] a nn sg ks bs kb f1 f2 sz h0 n0 Z0 E_a F_segments F_bases F_last F_firstBytes F_segmentBytes F_end F_count V_s V_b O_s gn_a gn_sg gn_bs hsb has hab hsz hs0 hs1) hZ (hw _ (List.mem_of_getElem? (i := 31) rfl)) (hw _ (List.mem_of_getElem? (i := 3) rfl)) (by decide) (by decide)) (g := (mkF m 23 #[.val (.ref a), .val (.int nn)] [(.int nn), (.ref a)])) rfl (by rw [hml]; rfl) (Steps.refl _) (a := a) (by rw [e1]; exact q2) q2' (argsL := [(.int nn)]) (rest := []) (lenOf own_pd3 rfl) rfl (by show 2 * 0 + _ ≤ _; exact Nat.le_of_eq rfl) (hb hby d3_23) (fun _ _ => ⟨rfl, e1, (by decide : 0 + 1 ≤ _), (by decide : 0 + 16 ≤ _)⟩)
  dsimp only [Pt.U, Pt.locs, Pt.cells, Pt.slots] at X2 l2 y2 z2 st2 hQ2
  subst l2 y2 z2
  obtain ⟨la2, kl2, rfl, N2q, K2q, hs2, G2_0, G2_1, G2_2, G2_3, G2_4, G2_5, G2_6, G2_7⟩ := hQ2
  have lt_a_la2 : a < la2 := Nat.lt_of_lt_of_le E_a.lt hs2
  have lt_sg_la2 : sg < la2 := Nat.lt_of_lt_of_le V_s.lt hs2
  have lt_bs_la2 : bs < la2 := Nat.lt_of_lt_of_le V_b.lt hs2
  have gn_la2 : n0 ≤ la2 := Nat.le_trans Z0 hs2
  have kn_la2 : h0.size ≤ la2 := Nat.le_trans (Keep.refl h0 [a, sg, bs]).1 hs2
  have Zs2 : n0 ≤ T2.heap.size := Nat.le_trans Z0 K2q.1
  have K2 : Keep h0 T2.heap [a, sg, bs] := (Keep.refl h0 [a, sg, bs]).trans K2q (allS (Or.inl (List.mem_of_getElem? (i := 0) rfl)) (allS (Or.inl (List.mem_of_getElem? (i := 1) rfl)) (allS (Or.inl (List.mem_of_getElem? (i := 2) rfl)) all0)))
  have N2 := Fr.app N0 N2q
  refine Go.tr st2 ?_
  show Go p e below _ (T2.setTop (mkF m 26 #[.val (.ref a), .val (.int nn)] []))
  refine Go.retV X2 hx Bd.returns (BodyLoose.notSynchronized Bd) (hb hby d3_26) (Q := (Q_rm3 Z a nn sg ks bs kb f1 f2 sz h0 n0)) (by decide) (by decide) ?_
  show (Q_rm3 Z a nn sg ks bs kb f1 f2 sz h0 n0) _ T2.heap _
  exact ⟨la2, kl2, rfl, N2, K2, kn_la2, G2_0, G2_1, G2_2, G2_3, G2_4, G2_5, G2_6, G2_7⟩
theorem d9_0 : decode prog_25_method_10_code 0 = .ok (.aload_n 0, 1) := by decide +kernel
theorem d9_1 : decode prog_25_method_10_code 1 = .ok (.getfield 55, 3) := by decide +kernel
theorem d9_4 : decode prog_25_method_10_code 4 = .ok (.ireturn, 1) := by decide +kernel
def Q_rm9 (Z : State) (a : Addr) (ct : Int32) (h0 : Heap) (n0 : Nat) (v : Option Value) (h : Heap) (L : List Loc) : Prop := v = some (.int ct) ∧ Fr n0 L ∧ h = h0
theorem ef_rm9 (m : MethodId) (a : Addr) : entryFrame m #[(.ref a)] 1 = mkF m 0 #[.val (.ref a)] [] := by first | (simp [entryFrame, mkF, argsToLocals, Value.category]; done) | rfl
set_option maxRecDepth 65536 in
set_option maxHeartbeats 40000000 in
theorem rm9 (l : Launch) (Z : State) (a0 : Array Value) (hw : ∀ d ∈ tables_1, d.before a0 Z = true) (ws : List Jvm.Cond) (a : Addr) (ct : Int32) (h0 : Heap) (n0 : Nat) (Z0 : n0 ≤ h0.size) (F_c : Fld Z h0 a "com/example/rowsieve/rowsieve/format/GrowingBytes" "count" "I" (.int ct)) :
    MetFree l (⟨"com/example/rowsieve/rowsieve/format/GrowingBytes", "segmentCount", "()I"⟩ : MethodName) (head1 (Jvm.Cond.code (⟨"com/example/rowsieve/rowsieve/format/GrowingBytes", "segmentCount", "()I"⟩ : MethodName) prog_25_method_10_code 1 (some .int) :: ws) ({ frames := 0, cells := 0, slots := 0, locals := 0 } : Room)) (fun ag_ U_ => ag_ = #[(.ref a)] ∧ Z.Warmed39 U_.vm ∧ U_.heap = h0) (fun _ _ _ _ _ => True) (fun _ U_ o_ V_ => ∃ v_ L_, o_ = .returned v_ ∧ (Q_rm9 Z a ct h0 n0) v_ V_.heap L_ ∧ FrameEnd U_ o_ V_ L_ ({ frames := 0, cells := 0, slots := 0, locals := 0 } : Room).cells ({ frames := 0, cells := 0, slots := 0, locals := 0 } : Room).slots) := by
  refine MetFree.of_bodySF (plainFor_of_name own_pn0) hisR ?_
  intro p e s m args below meth c s₁ Bd hml0 hP hK
  obtain ⟨rfl, hZ, hh⟩ := hP
  have hx := Bd.exec
  have hby := Bd.bytes
  have hml : c.maxLocals = 1 := hml0
  have hown : s.vm.findClass "com/example/rowsieve/rowsieve/format/GrowingBytes" = some m.cls := findClass_of_methodNamed Bd.named
  have hnm := (name_of_methodNamed Bd.named Bd.method).1
  have X0 : Stand p l e ({ frames := 0, cells := 0, slots := 0, locals := 0 } : Room) s m #[(.ref a)] below meth c s₁ [] 0 0 := Stand.of_body Bd
  have e0 : s₁.heap = h0 := by rw [← hh, Bd.state]; rfl
  have N0 := Fr.nil n0
  refine Go.st (G := fun s₂ o_ => ∃ v_ L_, o_ = .returned v_ ∧ (Q_rm9 Z a ct h0 n0) v_ s₂.heap L_ ∧ FrameEnd s o_ s₂ L_ ({ frames := 0, cells := 0, slots := 0, locals := 0 } : Room).cells ({ frames := 0, cells := 0, slots := 0, locals := 0 } : Room).slots) (fun t kt => castTop (ef_rm9 m a) kt) ?_
  show Go p e below _ (s₁.setTop (mkF m 0 #[.val (.ref a)] []))
  refine Go.st (fun _ kt => XS.aloadN X0.here hx rfl (hb hby d9_0) rfl rfl kt) ?_
  show Go p e below _ (s₁.setTop (mkF m 1 #[.val (.ref a)] [(.ref a)]))
  obtain ⟨T1, X1, e1, st1⟩ := getF X0 hx hZ hown (host := "") (Or.inl (hw _ (List.mem_of_getElem? (i := 32) rfl))) Via.refl e0 F_c (g := (mkF m 1 #[.val (.ref a)] [(.ref a)])) rfl rfl (hb hby d9_1)
  refine Go.st st1 ?_
  show Go p e below _ (T1.setTop (mkF m 4 #[.val (.ref a)] [(.int ct)]))
  refine Go.retI X1 hx Bd.returns (BodyLoose.notSynchronized Bd) (hb hby d9_4) (Q := (Q_rm9 Z a ct h0 n0)) (by decide) (by decide) ?_
  show (Q_rm9 Z a ct h0 n0) _ T1.heap _
  rw [e1]
  exact ⟨rfl, N0, rfl⟩
theorem d10_0 : decode prog_25_method_11_code 0 = .ok (.aload_n 0, 1) := by decide +kernel
theorem d10_1 : decode prog_25_method_11_code 1 = .ok (.getfield 15, 3) := by decide +kernel
theorem d10_4 : decode prog_25_method_11_code 4 = .ok (.iload_n 1, 1) := by decide +kernel
theorem d10_5 : decode prog_25_method_11_code 5 = .ok (.aaload, 1) := by decide +kernel
theorem d10_6 : decode prog_25_method_11_code 6 = .ok (.areturn, 1) := by decide +kernel
def Q_rm10 (Z : State) (a : Addr) (sg : Addr) (ks : ClassId) (la : Addr) (h0 : Heap) (n0 : Nat) (v : Option Value) (h : Heap) (L : List Loc) : Prop := v = some (.ref la) ∧ Fr n0 L ∧ h = h0
theorem ef_rm10 (m : MethodId) (a : Addr) : entryFrame m #[(.ref a), (.int (0 : Int32))] 2 = mkF m 0 #[.val (.ref a), .val (.int (0 : Int32))] [] := by first | (simp [entryFrame, mkF, argsToLocals, Value.category]; done) | rfl
set_option maxRecDepth 65536 in
set_option maxHeartbeats 40000000 in
theorem rm10 (l : Launch) (Z : State) (a0 : Array Value) (hw : ∀ d ∈ tables_1, d.before a0 Z = true) (ws : List Jvm.Cond) (a : Addr) (sg : Addr) (ks : ClassId) (la : Addr) (h0 : Heap) (n0 : Nat) (Z0 : n0 ≤ h0.size) (F_s : Fld Z h0 a "com/example/rowsieve/rowsieve/format/GrowingBytes" "segments" "[[B" (.ref sg)) (V_s : Arv Z h0 sg ks (.array .byte) (4 : Int32) [(.ref la), .null, .null, .null] .null) :
    MetFree l (⟨"com/example/rowsieve/rowsieve/format/GrowingBytes", "segment", "(I)[B"⟩ : MethodName) (head1 (Jvm.Cond.code (⟨"com/example/rowsieve/rowsieve/format/GrowingBytes", "segment", "(I)[B"⟩ : MethodName) prog_25_method_11_code 2 (some (.array .byte)) :: ws) ({ frames := 0, cells := 0, slots := 0, locals := 0 } : Room)) (fun ag_ U_ => ag_ = #[(.ref a), (.int (0 : Int32))] ∧ Z.Warmed39 U_.vm ∧ U_.heap = h0) (fun _ _ _ _ _ => True) (fun _ U_ o_ V_ => ∃ v_ L_, o_ = .returned v_ ∧ (Q_rm10 Z a sg ks la h0 n0) v_ V_.heap L_ ∧ FrameEnd U_ o_ V_ L_ ({ frames := 0, cells := 0, slots := 0, locals := 0 } : Room).cells ({ frames := 0, cells := 0, slots := 0, locals := 0 } : Room).slots) := by
  refine MetFree.of_bodySF (plainFor_of_name own_pn0) hisR ?_
  intro p e s m args below meth c s₁ Bd hml0 hP hK
  obtain ⟨rfl, hZ, hh⟩ := hP
  have hx := Bd.exec
  have hby := Bd.bytes
  have hml : c.maxLocals = 2 := hml0
  have hown : s.vm.findClass "com/example/rowsieve/rowsieve/format/GrowingBytes" = some m.cls := findClass_of_methodNamed Bd.named
  have hnm := (name_of_methodNamed Bd.named Bd.method).1
  have X0 : Stand p l e ({ frames := 0, cells := 0, slots := 0, locals := 0 } : Room) s m #[(.ref a), (.int (0 : Int32))] below meth c s₁ [] 0 0 := Stand.of_body Bd
  have e0 : s₁.heap = h0 := by rw [← hh, Bd.state]; rfl
  have N0 := Fr.nil n0
  refine Go.st (G := fun s₂ o_ => ∃ v_ L_, o_ = .returned v_ ∧ (Q_rm10 Z a sg ks la h0 n0) v_ s₂.heap L_ ∧ FrameEnd s o_ s₂ L_ ({ frames := 0, cells := 0, slots := 0, locals := 0 } : Room).cells ({ frames := 0, cells := 0, slots := 0, locals := 0 } : Room).slots) (fun t kt => castTop (ef_rm10 m a) kt) ?_
  show Go p e below _ (s₁.setTop (mkF m 0 #[.val (.ref a), .val (.int (0 : Int32))] []))
  refine Go.st (fun _ kt => XS.aloadN X0.here hx rfl (hb hby d10_0) rfl rfl kt) ?_
  show Go p e below _ (s₁.setTop (mkF m 1 #[.val (.ref a), .val (.int (0 : Int32))] [(.ref a)]))
  obtain ⟨T1, X1, e1, st1⟩ := getF X0 hx hZ hown (host := "") (Or.inl (hw _ (List.mem_of_getElem? (i := 12) rfl))) Via.refl e0 F_s (g := (mkF m 1 #[.val (.ref a), .val (.int (0 : Int32))] [(.ref a)])) rfl rfl (hb hby d10_1)
  refine Go.st st1 ?_
  show Go p e below _ (T1.setTop (mkF m 4 #[.val (.ref a), .val (.int (0 : Int32))] [(.ref sg)]))
  refine Go.st (fun _ kt => XS.iloadN X1.here hx rfl (hb hby d10_4) rfl kt) ?_
  show Go p e below _ (T1.setTop (mkF m 5 #[.val (.ref a), .val (.int (0 : Int32))] [(.int (0 : Int32)), (.ref sg)]))
  obtain ⟨cl2, Ar2, -, S2, N2', H2, G2⟩ := id V_s
  have hin2 := inb_of S2 (j := (0 : Int32)) ⟨by decide, by decide⟩
  have hat2 := Has.at H2 hin2 (v := (.ref la)) rfl
  refine Go.st (fun _ kt => X1.aaload hx (j := (0 : Int32)) (v := (.ref la)) (by rw [e1]; exact Ar2.1) (State.isArrayOf_alike hZ.alike Ar2.2.1) rfl Ar2.2.2 hin2 hat2 (g := (mkF m 5 #[.val (.ref a), .val (.int (0 : Int32))] [(.int (0 : Int32)), (.ref sg)])) rfl rfl (hb hby d10_5) _ kt) ?_
  show Go p e below _ (T1.setTop (mkF m 6 #[.val (.ref a), .val (.int (0 : Int32))] [(.ref la)]))
  refine Go.retA X1 hx Bd.returns rfl rfl (BodyLoose.notSynchronized Bd) (hb hby d10_6) (Q := (Q_rm10 Z a sg ks la h0 n0)) (by decide) (by decide) ?_
  show (Q_rm10 Z a sg ks la h0 n0) _ T1.heap _
  rw [e1]
  exact ⟨rfl, N0, rfl⟩
theorem d7_0 : decode prog_25_method_5_code 0 = .ok (.aload_n 1, 1) := by decide +kernel
theorem d7_1 : decode prog_25_method_5_code 1 = .ok (.iload_n 2, 1) := by decide +kernel
theorem d7_2 : decode prog_25_method_5_code 2 = .ok (.aload_n 0, 1) := by decide +kernel
theorem d7_3 : decode prog_25_method_5_code 3 = .ok (.getfield 30, 3) := by decide +kernel
theorem d7_6 : decode prog_25_method_5_code 6 = .ok (.aload_n 0, 1) := by decide +kernel
theorem d7_7 : decode prog_25_method_5_code 7 = .ok (.getfield 33, 3) := by decide +kernel
theorem d7_10 : decode prog_25_method_5_code 10 = .ok (.iload_n 3, 1) := by decide +kernel
theorem d7_11 : decode prog_25_method_5_code 11 = .ok (.invokestatic 69, 3) := by decide +kernel
theorem d7_14 : decode prog_25_method_5_code 14 = .ok (.aload_n 0, 1) := by decide +kernel
theorem d7_15 : decode prog_25_method_5_code 15 = .ok (.dup, 1) := by decide +kernel
theorem d7_16 : decode prog_25_method_5_code 16 = .ok (.getfield 33, 3) := by decide +kernel
theorem d7_19 : decode prog_25_method_5_code 19 = .ok (.iload_n 3, 1) := by decide +kernel
theorem d7_20 : decode prog_25_method_5_code 20 = .ok (.iadd, 1) := by decide +kernel
theorem d7_21 : decode prog_25_method_5_code 21 = .ok (.putfield 33, 3) := by decide +kernel
theorem d7_24 : decode prog_25_method_5_code 24 = .ok (.return_, 1) := by decide +kernel
def Q_rm7 (Z : State) (a : Addr) (sr : Addr) (ln1 : Int32) (la : Addr) (kl : ClassId) (sz : Int32) (vs : List Value) (ve : List Value) (sg : Addr) (bs : Addr) (kr : ClassId) (us : List Value) (ee : Int32) (h0 : Heap) (n0 : Nat) (v : Option Value) (h : Heap) (L : List Loc) : Prop := v = none ∧ Fr n0 L ∧ Keep h0 h [a, la] ∧ Fld Z h a "com/example/rowsieve/rowsieve/format/GrowingBytes" "segments" "[[B" (.ref sg) ∧ Fld Z h a "com/example/rowsieve/rowsieve/format/GrowingBytes" "bases" "[I" (.ref bs) ∧ Fld Z h a "com/example/rowsieve/rowsieve/format/GrowingBytes" "last" "[B" (.ref la) ∧ Fld Z h a "com/example/rowsieve/rowsieve/format/GrowingBytes" "count" "I" (.int (1 : Int32)) ∧ Fld Z h a "com/example/rowsieve/rowsieve/format/GrowingBytes" "end" "I" (.int ee) ∧ Arv Z h la kl .byte sz ve (.int (0 : Int32))
theorem ef_rm7 (m : MethodId) (a : Addr) (sr : Addr) (ln1 : Int32) : entryFrame m #[(.ref a), (.ref sr), (.int (0 : Int32)), (.int ln1)] 4 = mkF m 0 #[.val (.ref a), .val (.ref sr), .val (.int (0 : Int32)), .val (.int ln1)] [] := by first | (simp [entryFrame, mkF, argsToLocals, Value.category]; done) | rfl
set_option maxRecDepth 65536 in
set_option maxHeartbeats 40000000 in
theorem rm7 (l : Launch) (Z : State) (a0 : Array Value) (hw : ∀ d ∈ tables_1, d.before a0 Z = true) (ws : List Jvm.Cond) (a : Addr) (sr : Addr) (ln1 : Int32) (la : Addr) (kl : ClassId) (sz : Int32) (vs : List Value) (ve : List Value) (sg : Addr) (bs : Addr) (kr : ClassId) (us : List Value) (ee : Int32) (h0 : Heap) (n0 : Nat) (Z0 : n0 ≤ h0.size) (E_a : Exa Z h0 a "com/example/rowsieve/rowsieve/format/GrowingBytes") (F_segments : Fld Z h0 a "com/example/rowsieve/rowsieve/format/GrowingBytes" "segments" "[[B" (.ref sg)) (F_bases : Fld Z h0 a "com/example/rowsieve/rowsieve/format/GrowingBytes" "bases" "[I" (.ref bs)) (F_last : Fld Z h0 a "com/example/rowsieve/rowsieve/format/GrowingBytes" "last" "[B" (.ref la)) (F_count : Fld Z h0 a "com/example/rowsieve/rowsieve/format/GrowingBytes" "count" "I" (.int (1 : Int32))) (F_end : Fld Z h0 a "com/example/rowsieve/rowsieve/format/GrowingBytes" "end" "I" (.int (0 : Int32))) (V_la : Arv Z h0 la kl .byte sz vs (.int (0 : Int32))) (V_sr : Arv Z h0 sr kr .byte (3 : Int32) us (.int (0 : Int32))) (gn_a : n0 ≤ a) (gn_la : n0 ≤ la) (hal : a ≠ la) (hsl : sr ≠ la) (hsa : sr ≠ a) (hp1 : ¬ ln1 < 0) (hp2 : (0 : Int32).toNatClampNeg + ln1.toNatClampNeg ≤ (3 : Int32).toNatClampNeg) (hp3 : (0 : Int32).toNatClampNeg + ln1.toNatClampNeg ≤ sz.toNatClampNeg) (hp4 : (0 : Int32).toNatClampNeg + ln1.toNatClampNeg ≤ vs.length) (hve : ve = vs.take (0 : Int32).toNatClampNeg ++ ((List.range ln1.toNatClampNeg).map fun i => us.getD ((0 : Int32).toNatClampNeg + i) (.int (0 : Int32))) ++ vs.drop ((0 : Int32).toNatClampNeg + ln1.toNatClampNeg)) (hee : (0 : Int32) + ln1 = ee) :
    MetFree l (⟨"com/example/rowsieve/rowsieve/format/GrowingBytes", "put", "([BII)V"⟩ : MethodName) (head1 (Jvm.Cond.code (⟨"com/example/rowsieve/rowsieve/format/GrowingBytes", "put", "([BII)V"⟩ : MethodName) prog_25_method_5_code 4 none :: ws) ({ frames := 1, cells := 0, slots := 0, locals := 18 } : Room)) (fun ag_ U_ => ag_ = #[(.ref a), (.ref sr), (.int (0 : Int32)), (.int ln1)] ∧ Z.Warmed39 U_.vm ∧ U_.heap = h0) (fun _ _ _ _ _ => True) (fun _ U_ o_ V_ => ∃ v_ L_, o_ = .returned v_ ∧ (Q_rm7 Z a sr ln1 la kl sz vs ve sg bs kr us ee h0 n0) v_ V_.heap L_ ∧ FrameEnd U_ o_ V_ L_ ({ frames := 1, cells := 0, slots := 0, locals := 18 } : Room).cells ({ frames := 1, cells := 0, slots := 0, locals := 18 } : Room).slots) := by
  refine MetFree.of_bodySF (plainFor_of_name own_pn0) hisR ?_
  intro p e s m args below meth c s₁ Bd hml0 hP hK
  obtain ⟨rfl, hZ, hh⟩ := hP
  have hx := Bd.exec
  have hby := Bd.bytes
  have hml : c.maxLocals = 4 := hml0
  have hown : s.vm.findClass "com/example/rowsieve/rowsieve/format/GrowingBytes" = some m.cls := findClass_of_methodNamed Bd.named
  have hnm := (name_of_methodNamed Bd.named Bd.method).1
  have X0 : Stand p l e ({ frames := 1, cells := 0, slots := 0, locals := 18 } : Room) s m #[(.ref a), (.ref sr), (.int (0 : Int32)), (.int ln1)] below meth c s₁ [] 0 0 := Stand.of_body Bd
  have e0 : s₁.heap = h0 := by rw [← hh, Bd.state]; rfl
  have N0 := Fr.nil n0
  refine Go.st (G := fun s₂ o_ => ∃ v_ L_, o_ = .returned v_ ∧ (Q_rm7 Z a sr ln1 la kl sz vs ve sg bs kr us ee h0 n0) v_ s₂.heap L_ ∧ FrameEnd s o_ s₂ L_ ({ frames := 1, cells := 0, slots := 0, locals := 18 } : Room).cells ({ frames := 1, cells := 0, slots := 0, locals := 18 } : Room).slots) (fun t kt => castTop (ef_rm7 m a sr ln1) kt) ?_
  show Go p e below _ (s₁.setTop (mkF m 0 #[.val (.ref a), .val (.ref sr), .val (.int (0 : Int32)), .val (.int ln1)] []))
  refine Go.st (fun _ kt => XS.aloadN X0.here hx rfl (hb hby d7_0) rfl rfl kt) ?_
  show Go p e below _ (s₁.setTop (mkF m 1 #[.val (.ref a), .val (.ref sr), .val (.int (0 : Int32)), .val (.int ln1)] [(.ref sr)]))
  refine Go.st (fun _ kt => XS.iloadN X0.here hx rfl (hb hby d7_1) rfl kt) ?_
  show Go p e below _ (s₁.setTop (mkF m 2 #[.val (.ref a), .val (.ref sr), .val (.int (0 : Int32)), .val (.int ln1)] [(.int (0 : Int32)), (.ref sr)]))
  refine Go.st (fun _ kt => XS.aloadN X0.here hx rfl (hb hby d7_2) rfl rfl kt) ?_
  show Go p e below _ (s₁.setTop (mkF m 3 #[.val (.ref a), .val (.ref sr), .val (.int (0 : Int32)), .val (.int ln1)] [(.ref a), (.int (0 : Int32)), (.ref sr)]))
  obtain ⟨T1, X1, e1, st1⟩ := getF X0 hx hZ hown (host := "") (Or.inl (hw _ (List.mem_of_getElem? (i := 26) rfl))) Via.refl e0 F_last (g := (mkF m 3 #[.val (.ref a), .val (.ref sr), .val (.int (0 : Int32)), .val (.int ln1)] [(.ref a), (.int (0 : Int32)), (.ref sr)])) rfl rfl (hb hby d7_3)
  refine Go.st st1 ?_
  show Go p e below _ (T1.setTop (mkF m 6 #[.val (.ref a), .val (.ref sr), .val (.int (0 : Int32)), .val (.int ln1)] [(.ref la), (.int (0 : Int32)), (.ref sr)]))
  refine Go.st (fun _ kt => XS.aloadN X1.here hx rfl (hb hby d7_6) rfl rfl kt) ?_
  show Go p e below _ (T1.setTop (mkF m 7 #[.val (.ref a), .val (.ref sr), .val (.int (0 : Int32)), .val (.int ln1)] [(.ref a), (.ref la), (.int (0 : Int32)), (.ref sr)]))
  obtain ⟨T2, X2, e2, st2⟩ := getF X1 hx hZ hown (host := "") (Or.inl (hw _ (List.mem_of_getElem? (i := 44) rfl))) Via.refl e1 F_end (g := (mkF m 7 #[.val (.ref a), .val (.ref sr), .val (.int (0 : Int32)), .val (.int ln1)] [(.ref a), (.ref la), (.int (0 : Int32)), (.ref sr)])) rfl rfl (hb hby d7_7)
  refine Go.st st2 ?_
  show Go p e below _ (T2.setTop (mkF m 10 #[.val (.ref a), .val (.ref sr), .val (.int (0 : Int32)), .val (.int ln1)] [(.int (0 : Int32)), (.ref la), (.int (0 : Int32)), (.ref sr)]))
  refine Go.st (fun _ kt => XS.iloadN X2.here hx rfl (hb hby d7_10) rfl kt) ?_
  show Go p e below _ (T2.setTop (mkF m 11 #[.val (.ref a), .val (.ref sr), .val (.int (0 : Int32)), .val (.int ln1)] [(.int ln1), (.int (0 : Int32)), (.ref la), (.int (0 : Int32)), (.ref sr)]))
  obtain ⟨T3, h3, Lc3, X3, e3, N3, Kc3, Vc3, st3⟩ := cpA X2 hx hZ hown (hw _ (List.mem_of_getElem? (i := 51) rfl)) (hw _ (List.mem_of_getElem? (i := 54) rfl)) (hw _ (List.mem_of_getElem? (i := 52) rfl)) (hw _ (List.mem_of_getElem? (i := 53) rfl)) e2 V_sr V_la (Or.inl ⟨rfl, rfl⟩) (sp := (0 : Int32)) (dp := (0 : Int32)) (nn := ln1) (by decide) (by decide) hp1 hp2 hp3 rfl hp4 N0 gn_la (g := (mkF m 11 #[.val (.ref a), .val (.ref sr), .val (.int (0 : Int32)), .val (.int ln1)] [(.int ln1), (.int (0 : Int32)), (.ref la), (.int (0 : Int32)), (.ref sr)])) rfl (by rw [hml]; rfl) rfl (hb hby d7_11) (by decide) (W := 0) (by show 2 * 0 + _ ≤ _; exact Nat.le_of_eq rfl) (by decide)
  refine Go.st st3 ?_
  have Zs3 : n0 ≤ h3.size := Nat.le_trans Z0 Kc3.1
  have K3 : Keep h0 h3 [a, la] := (Keep.refl h0 [a, la]).trans Kc3 (allS (Or.inl (List.mem_of_getElem? (i := 1) rfl)) all0)
  rw [← hve] at Vc3
  show Go p e below _ (T3.setTop (mkF m 14 #[.val (.ref a), .val (.ref sr), .val (.int (0 : Int32)), .val (.int ln1)] []))
  refine Go.st (fun _ kt => XS.aloadN X3.here hx rfl (hb hby d7_14) rfl rfl kt) ?_
  show Go p e below _ (T3.setTop (mkF m 15 #[.val (.ref a), .val (.ref sr), .val (.int (0 : Int32)), .val (.int ln1)] [(.ref a)]))
  refine Go.st (fun _ kt => XS.dup X3.here hx rfl (hb hby d7_15) rfl rfl kt) ?_
  show Go p e below _ (T3.setTop (mkF m 16 #[.val (.ref a), .val (.ref sr), .val (.int (0 : Int32)), .val (.int ln1)] [(.ref a), (.ref a)]))
  have f4 := (F_end.keep Kc3 (ninS hal nin0))
  obtain ⟨T5, X5, e5, st5⟩ := getF X3 hx hZ hown (host := "") (Or.inl (hw _ (List.mem_of_getElem? (i := 44) rfl))) Via.refl e3 f4 (g := (mkF m 16 #[.val (.ref a), .val (.ref sr), .val (.int (0 : Int32)), .val (.int ln1)] [(.ref a), (.ref a)])) rfl rfl (hb hby d7_16)
  refine Go.st st5 ?_
  show Go p e below _ (T5.setTop (mkF m 19 #[.val (.ref a), .val (.ref sr), .val (.int (0 : Int32)), .val (.int ln1)] [(.int (0 : Int32)), (.ref a)]))
  refine Go.st (fun _ kt => XS.iloadN X5.here hx rfl (hb hby d7_19) rfl kt) ?_
  show Go p e below _ (T5.setTop (mkF m 20 #[.val (.ref a), .val (.ref sr), .val (.int (0 : Int32)), .val (.int ln1)] [(.int ln1), (.int (0 : Int32)), (.ref a)]))
  refine Go.st (fun _ kt => XS.iadd X5.here hx rfl (hb hby d7_20) rfl kt) ?_
  show Go p e below _ (T5.setTop (mkF m 21 #[.val (.ref a), .val (.ref sr), .val (.int (0 : Int32)), .val (.int ln1)] [(.int ((0 : Int32) + ln1)), (.ref a)]))
  have f6 := (E_a.keep Kc3)
  obtain ⟨T7, h7, X7, e7, W7, st7⟩ := putF X5 hx hZ hown (host := "") (Or.inl (hw _ (List.mem_of_getElem? (i := 44) rfl))) Via.refl e5 f4 f6 (Or.inl (hw _ (List.mem_of_getElem? (i := 45) rfl))) (hw _ (List.mem_of_getElem? (i := 2) rfl)) (ty := .int) (by decide) rfl rfl (g := (mkF m 21 #[.val (.ref a), .val (.ref sr), .val (.int (0 : Int32)), .val (.int ln1)] [(.int ((0 : Int32) + ln1)), (.ref a)])) rfl rfl (hb hby d7_21)
  refine Go.st st7 ?_
  have Fw7 := f4.same W7
  have Zs7 : n0 ≤ h7.size := Nat.le_trans Zs3 (Nat.le_of_eq W7.size.symm)
  have N7 := Fr.snoc X7 N3 gn_a
  have K7 : Keep h0 h7 [a, la] := K3.wr W7 (Or.inl (List.mem_of_getElem? (i := 0) rfl))
  show Go p e below _ (T7.setTop (mkF m 24 #[.val (.ref a), .val (.ref sr), .val (.int (0 : Int32)), .val (.int ln1)] []))
  have f8 := ((F_segments.keep Kc3 (ninS hal nin0)).other W7 (Or.inr (slot_ne (Or.inl (hw _ (List.mem_of_getElem? (i := 13) rfl))) (Or.inl (hw _ (List.mem_of_getElem? (i := 45) rfl))) (by decide) (t := (.array (.array .byte))) (t' := .int) (by decide) (by decide))))
  have f9 := ((F_bases.keep Kc3 (ninS hal nin0)).other W7 (Or.inr (slot_ne (Or.inl (hw _ (List.mem_of_getElem? (i := 16) rfl))) (Or.inl (hw _ (List.mem_of_getElem? (i := 45) rfl))) (by decide) (t := (.array .int)) (t' := .int) (by decide) (by decide))))
  have f10 := ((F_last.keep Kc3 (ninS hal nin0)).other W7 (Or.inr (slot_ne (Or.inl (hw _ (List.mem_of_getElem? (i := 27) rfl))) (Or.inl (hw _ (List.mem_of_getElem? (i := 45) rfl))) (by decide) (t := (.array .byte)) (t' := .int) (by decide) (by decide))))
  have f11 := ((F_count.keep Kc3 (ninS hal nin0)).other W7 (Or.inr (slot_ne (Or.inl (hw _ (List.mem_of_getElem? (i := 33) rfl))) (Or.inl (hw _ (List.mem_of_getElem? (i := 45) rfl))) (by decide) (t := .int) (t' := .int) (by decide) (by decide))))
  have f12 := (Vc3.other W7 (Ne.symm hal))
  refine Go.retV X7 hx Bd.returns (BodyLoose.notSynchronized Bd) (hb hby d7_24) (Q := (Q_rm7 Z a sr ln1 la kl sz vs ve sg bs kr us ee h0 n0)) (by decide) (by decide) ?_
  show (Q_rm7 Z a sr ln1 la kl sz vs ve sg bs kr us ee h0 n0) _ T7.heap _
  rw [e7]
  exact ⟨rfl, N7, K7, f8, f9, f10, f11, (hee ▸ Fw7), f12⟩
theorem d8_0 : decode prog_25_method_6_code 0 = .ok (.aload_n 0, 1) := by decide +kernel
theorem d8_1 : decode prog_25_method_6_code 1 = .ok (.getfield 30, 3) := by decide +kernel
theorem d8_4 : decode prog_25_method_6_code 4 = .ok (.aload_n 0, 1) := by decide +kernel
theorem d8_5 : decode prog_25_method_6_code 5 = .ok (.dup, 1) := by decide +kernel
theorem d8_6 : decode prog_25_method_6_code 6 = .ok (.getfield 33, 3) := by decide +kernel
theorem d8_9 : decode prog_25_method_6_code 9 = .ok (.dup_x1, 1) := by decide +kernel
theorem d8_10 : decode prog_25_method_6_code 10 = .ok (.iconst 1, 1) := by decide +kernel
theorem d8_11 : decode prog_25_method_6_code 11 = .ok (.iadd, 1) := by decide +kernel
theorem d8_12 : decode prog_25_method_6_code 12 = .ok (.putfield 33, 3) := by decide +kernel
theorem d8_15 : decode prog_25_method_6_code 15 = .ok (.iload_n 1, 1) := by decide +kernel
theorem d8_16 : decode prog_25_method_6_code 16 = .ok (.i2b, 1) := by decide +kernel
theorem d8_17 : decode prog_25_method_6_code 17 = .ok (.bastore, 1) := by decide +kernel
theorem d8_18 : decode prog_25_method_6_code 18 = .ok (.aload_n 0, 1) := by decide +kernel
theorem d8_19 : decode prog_25_method_6_code 19 = .ok (.getfield 30, 3) := by decide +kernel
theorem d8_22 : decode prog_25_method_6_code 22 = .ok (.aload_n 0, 1) := by decide +kernel
theorem d8_23 : decode prog_25_method_6_code 23 = .ok (.dup, 1) := by decide +kernel
theorem d8_24 : decode prog_25_method_6_code 24 = .ok (.getfield 33, 3) := by decide +kernel
theorem d8_27 : decode prog_25_method_6_code 27 = .ok (.dup_x1, 1) := by decide +kernel
theorem d8_28 : decode prog_25_method_6_code 28 = .ok (.iconst 1, 1) := by decide +kernel
theorem d8_29 : decode prog_25_method_6_code 29 = .ok (.iadd, 1) := by decide +kernel
theorem d8_30 : decode prog_25_method_6_code 30 = .ok (.putfield 33, 3) := by decide +kernel
theorem d8_33 : decode prog_25_method_6_code 33 = .ok (.iload_n 1, 1) := by decide +kernel
theorem d8_34 : decode prog_25_method_6_code 34 = .ok (.bipush 8, 2) := by decide +kernel
theorem d8_36 : decode prog_25_method_6_code 36 = .ok (.iushr, 1) := by decide +kernel
theorem d8_37 : decode prog_25_method_6_code 37 = .ok (.i2b, 1) := by decide +kernel
theorem d8_38 : decode prog_25_method_6_code 38 = .ok (.bastore, 1) := by decide +kernel
theorem d8_39 : decode prog_25_method_6_code 39 = .ok (.return_, 1) := by decide +kernel
def Q_rm8 (Z : State) (a : Addr) (cc : Int32) (la : Addr) (kl : ClassId) (sz : Int32) (vs : List Value) (ve : List Value) (sg : Addr) (bs : Addr) (en : Int32) (ee : Int32) (h0 : Heap) (n0 : Nat) (v : Option Value) (h : Heap) (L : List Loc) : Prop := v = none ∧ Fr n0 L ∧ Keep h0 h [a, la] ∧ Fld Z h a "com/example/rowsieve/rowsieve/format/GrowingBytes" "segments" "[[B" (.ref sg) ∧ Fld Z h a "com/example/rowsieve/rowsieve/format/GrowingBytes" "bases" "[I" (.ref bs) ∧ Fld Z h a "com/example/rowsieve/rowsieve/format/GrowingBytes" "last" "[B" (.ref la) ∧ Fld Z h a "com/example/rowsieve/rowsieve/format/GrowingBytes" "count" "I" (.int (1 : Int32)) ∧ Fld Z h a "com/example/rowsieve/rowsieve/format/GrowingBytes" "end" "I" (.int ee) ∧ Arv Z h la kl .byte sz ve (.int (0 : Int32))
theorem ef_rm8 (m : MethodId) (a : Addr) (cc : Int32) : entryFrame m #[(.ref a), (.int cc)] 2 = mkF m 0 #[.val (.ref a), .val (.int cc)] [] := by first | (simp [entryFrame, mkF, argsToLocals, Value.category]; done) | rfl
set_option maxRecDepth 65536 in
set_option maxHeartbeats 40000000 in
theorem rm8 (l : Launch) (Z : State) (a0 : Array Value) (hw : ∀ d ∈ tables_1, d.before a0 Z = true) (ws : List Jvm.Cond) (a : Addr) (cc : Int32) (la : Addr) (kl : ClassId) (sz : Int32) (vs : List Value) (ve : List Value) (sg : Addr) (bs : Addr) (en : Int32) (ee : Int32) (h0 : Heap) (n0 : Nat) (Z0 : n0 ≤ h0.size) (E_a : Exa Z h0 a "com/example/rowsieve/rowsieve/format/GrowingBytes") (F_segments : Fld Z h0 a "com/example/rowsieve/rowsieve/format/GrowingBytes" "segments" "[[B" (.ref sg)) (F_bases : Fld Z h0 a "com/example/rowsieve/rowsieve/format/GrowingBytes" "bases" "[I" (.ref bs)) (F_last : Fld Z h0 a "com/example/rowsieve/rowsieve/format/GrowingBytes" "last" "[B" (.ref la)) (F_count : Fld Z h0 a "com/example/rowsieve/rowsieve/format/GrowingBytes" "count" "I" (.int (1 : Int32))) (F_end : Fld Z h0 a "com/example/rowsieve/rowsieve/format/GrowingBytes" "end" "I" (.int en)) (V_la : Arv Z h0 la kl .byte sz vs (.int (0 : Int32))) (gn_a : n0 ≤ a) (gn_la : n0 ≤ la) (hal : a ≠ la) (hp1 : ¬ en < 0 ∧ en < sz) (hp2 : ¬ (en + (1 : Int32)) < 0 ∧ (en + (1 : Int32)) < sz) (hp3 : en.toNatClampNeg < vs.length) (hp4 : (en + (1 : Int32)).toNatClampNeg < vs.length) (hve : (vs.set en.toNatClampNeg (.int ((cc.toInt8.toInt32).toInt8.toInt32))).set (en + (1 : Int32)).toNatClampNeg (.int ((((cc.toUInt32 >>> ((8 : Int32) &&& 31).toUInt32).toInt32).toInt8.toInt32).toInt8.toInt32)) = ve) (hee : (en + (1 : Int32)) + (1 : Int32) = ee) :
    MetFree l (⟨"com/example/rowsieve/rowsieve/format/GrowingBytes", "putLittleEndian", "(C)V"⟩ : MethodName) (head1 (Jvm.Cond.code (⟨"com/example/rowsieve/rowsieve/format/GrowingBytes", "putLittleEndian", "(C)V"⟩ : MethodName) prog_25_method_6_code 2 none :: ws) ({ frames := 0, cells := 0, slots := 0, locals := 0 } : Room)) (fun ag_ U_ => ag_ = #[(.ref a), (.int cc)] ∧ Z.Warmed39 U_.vm ∧ U_.heap = h0) (fun _ _ _ _ _ => True) (fun _ U_ o_ V_ => ∃ v_ L_, o_ = .returned v_ ∧ (Q_rm8 Z a cc la kl sz vs ve sg bs en ee h0 n0) v_ V_.heap L_ ∧ FrameEnd U_ o_ V_ L_ ({ frames := 0, cells := 0, slots := 0, locals := 0 } : Room).cells ({ frames := 0, cells := 0, slots := 0, locals := 0 } : Room).slots) := by
  refine MetFree.of_bodySF (plainFor_of_name own_pn0) hisR ?_
  intro p e s m args below meth c s₁ Bd hml0 hP hK
  obtain ⟨rfl, hZ, hh⟩ := hP
  have hx := Bd.exec
  have hby := Bd.bytes
  have hml : c.maxLocals = 2 := hml0
  have hown : s.vm.findClass "com/example/rowsieve/rowsieve/format/GrowingBytes" = some m.cls := findClass_of_methodNamed Bd.named
  have hnm := (name_of_methodNamed Bd.named Bd.method).1
  have X0 : Stand p l e ({ frames := 0, cells := 0, slots := 0, locals := 0 } : Room) s m #[(.ref a), (.int cc)] below meth c s₁ [] 0 0 := Stand.of_body Bd
  have e0 : s₁.heap = h0 := by rw [← hh, Bd.state]; rfl
  have N0 := Fr.nil n0
  refine Go.st (G := fun s₂ o_ => ∃ v_ L_, o_ = .returned v_ ∧ (Q_rm8 Z a cc la kl sz vs ve sg bs en ee h0 n0) v_ s₂.heap L_ ∧ FrameEnd s o_ s₂ L_ ({ frames := 0, cells := 0, slots := 0, locals := 0 } : Room).cells ({ frames := 0, cells := 0, slots := 0, locals := 0 } : Room).slots) (fun t kt => castTop (ef_rm8 m a cc) kt) ?_
  show Go p e below _ (s₁.setTop (mkF m 0 #[.val (.ref a), .val (.int cc)] []))
  refine Go.st (fun _ kt => XS.aloadN X0.here hx rfl (hb hby d8_0) rfl rfl kt) ?_
  show Go p e below _ (s₁.setTop (mkF m 1 #[.val (.ref a), .val (.int cc)] [(.ref a)]))
  obtain ⟨T1, X1, e1, st1⟩ := getF X0 hx hZ hown (host := "") (Or.inl (hw _ (List.mem_of_getElem? (i := 26) rfl))) Via.refl e0 F_last (g := (mkF m 1 #[.val (.ref a), .val (.int cc)] [(.ref a)])) rfl rfl (hb hby d8_1)
  refine Go.st st1 ?_
  show Go p e below _ (T1.setTop (mkF m 4 #[.val (.ref a), .val (.int cc)] [(.ref la)]))
  refine Go.st (fun _ kt => XS.aloadN X1.here hx rfl (hb hby d8_4) rfl rfl kt) ?_
  show Go p e below _ (T1.setTop (mkF m 5 #[.val (.ref a), .val (.int cc)] [(.ref a), (.ref la)]))
  refine Go.st (fun _ kt => XS.dup X1.here hx rfl (hb hby d8_5) rfl rfl kt) ?_
  show Go p e below _ (T1.setTop (mkF m 6 #[.val (.ref a), .val (.int cc)] [(.ref a), (.ref a), (.ref la)]))
  obtain ⟨T2, X2, e2, st2⟩ := getF X1 hx hZ hown (host := "") (Or.inl (hw _ (List.mem_of_getElem? (i := 44) rfl))) Via.refl e1 F_end (g := (mkF m 6 #[.val (.ref a), .val (.int cc)] [(.ref a), (.ref a), (.ref la)])) rfl rfl (hb hby d8_6)
  refine Go.st st2 ?_
  show Go p e below _ (T2.setTop (mkF m 9 #[.val (.ref a), .val (.int cc)] [(.int en), (.ref a), (.ref la)]))
  refine Go.st (fun _ kt => XS.dupX1 X2.here hx rfl (hb hby d8_9) rfl rfl rfl kt) ?_
  show Go p e below _ (T2.setTop (mkF m 10 #[.val (.ref a), .val (.int cc)] [(.int en), (.ref a), (.int en), (.ref la)]))
  refine Go.st (fun _ kt => XS.iconst X2.here hx rfl (hb hby d8_10) kt) ?_
  show Go p e below _ (T2.setTop (mkF m 11 #[.val (.ref a), .val (.int cc)] [(.int (1 : Int32)), (.int en), (.ref a), (.int en), (.ref la)]))
  refine Go.st (fun _ kt => XS.iadd X2.here hx rfl (hb hby d8_11) rfl kt) ?_
  show Go p e below _ (T2.setTop (mkF m 12 #[.val (.ref a), .val (.int cc)] [(.int (en + (1 : Int32))), (.ref a), (.int en), (.ref la)]))
  obtain ⟨T3, h3, X3, e3, W3, st3⟩ := putF X2 hx hZ hown (host := "") (Or.inl (hw _ (List.mem_of_getElem? (i := 44) rfl))) Via.refl e2 F_end E_a (Or.inl (hw _ (List.mem_of_getElem? (i := 45) rfl))) (hw _ (List.mem_of_getElem? (i := 2) rfl)) (ty := .int) (by decide) rfl rfl (g := (mkF m 12 #[.val (.ref a), .val (.int cc)] [(.int (en + (1 : Int32))), (.ref a), (.int en), (.ref la)])) rfl rfl (hb hby d8_12)
  refine Go.st st3 ?_
  have Fw3 := F_end.same W3
  have Zs3 : n0 ≤ h3.size := Nat.le_trans Z0 (Nat.le_of_eq W3.size.symm)
  have N3 := Fr.snoc X3 N0 gn_a
  have K3 : Keep h0 h3 [a, la] := (Keep.refl h0 [a, la]).wr W3 (Or.inl (List.mem_of_getElem? (i := 0) rfl))
  show Go p e below _ (T3.setTop (mkF m 15 #[.val (.ref a), .val (.int cc)] [(.int en), (.ref la)]))
  refine Go.st (fun _ kt => XS.iloadN X3.here hx rfl (hb hby d8_15) rfl kt) ?_
  show Go p e below _ (T3.setTop (mkF m 16 #[.val (.ref a), .val (.int cc)] [(.int cc), (.int en), (.ref la)]))
  refine Go.st (fun _ kt => XS.i2b X3.here hx rfl (hb hby d8_16) rfl kt) ?_
  show Go p e below _ (T3.setTop (mkF m 17 #[.val (.ref a), .val (.int cc)] [(.int (cc.toInt8.toInt32)), (.int en), (.ref la)]))
  have f4 := (V_la.other W3 (Ne.symm hal))
  obtain ⟨cl5, Ar5, q5, S5, N5', H5, G5⟩ := id f4
  have hin5 : ¬ (en < 0 ∨ cl5.slots.size ≤ (en).toNatClampNeg) := inb_of S5 hp1
  obtain ⟨T6, h6, X6, e6, W6, st6⟩ := stB X3 hx hZ e3 Ar5 (j := en) hin5 (g := (mkF m 17 #[.val (.ref a), .val (.int cc)] [(.int (cc.toInt8.toInt32)), (.int en), (.ref la)])) rfl rfl (hb hby d8_17)
  refine Go.st st6 ?_
  have V6 : Arv Z h6 la kl .byte sz (vs.set en.toNatClampNeg (.int ((cc.toInt8.toInt32).toInt8.toInt32))) (.int (0 : Int32)) := Arv.set Ar5 q5 S5 N5' H5 G5 (fits_nar_byte _) W6 _ rfl hp3
  have Zs6 : n0 ≤ h6.size := Nat.le_trans Zs3 (Nat.le_of_eq W6.size.symm)
  have N6 := Fr.snoc X6 N3 gn_la
  have K6 : Keep h0 h6 [a, la] := K3.wr W6 (Or.inl (List.mem_of_getElem? (i := 1) rfl))
  show Go p e below _ (T6.setTop (mkF m 18 #[.val (.ref a), .val (.int cc)] []))
  refine Go.st (fun _ kt => XS.aloadN X6.here hx rfl (hb hby d8_18) rfl rfl kt) ?_
  show Go p e below _ (T6.setTop (mkF m 19 #[.val (.ref a), .val (.int cc)] [(.ref a)]))
  have f7 := ((F_last.other W3 (Or.inr (slot_ne (Or.inl (hw _ (List.mem_of_getElem? (i := 27) rfl))) (Or.inl (hw _ (List.mem_of_getElem? (i := 45) rfl))) (by decide) (t := (.array .byte)) (t' := .int) (by decide) (by decide)))).other W6 (Or.inl hal))
  obtain ⟨T8, X8, e8, st8⟩ := getF X6 hx hZ hown (host := "") (Or.inl (hw _ (List.mem_of_getElem? (i := 26) rfl))) Via.refl e6 f7 (g := (mkF m 19 #[.val (.ref a), .val (.int cc)] [(.ref a)])) rfl rfl (hb hby d8_19)
  refine Go.st st8 ?_
  show Go p e below _ (T8.setTop (mkF m 22 #[.val (.ref a), .val (.int cc)] [(.ref la)]))
  refine Go.st (fun _ kt => XS.aloadN X8.here hx rfl (hb hby d8_22) rfl rfl kt) ?_
  show Go p e below _ (T8.setTop (mkF m 23 #[.val (.ref a), .val (.int cc)] [(.ref a), (.ref la)]))
  refine Go.st (fun _ kt => XS.dup X8.here hx rfl (hb hby d8_23) rfl rfl kt) ?_
  show Go p e below _ (T8.setTop (mkF m 24 #[.val (.ref a), .val (.int cc)] [(.ref a), (.ref a), (.ref la)]))
  have f9 := (Fw3.other W6 (Or.inl hal))
  obtain ⟨T10, X10, e10, st10⟩ := getF X8 hx hZ hown (host := "") (Or.inl (hw _ (List.mem_of_getElem? (i := 44) rfl))) Via.refl e8 f9 (g := (mkF m 24 #[.val (.ref a), .val (.int cc)] [(.ref a), (.ref a), (.ref la)])) rfl rfl (hb hby d8_24)
  refine Go.st st10 ?_
  show Go p e below _ (T10.setTop (mkF m 27 #[.val (.ref a), .val (.int cc)] [(.int (en + (1 : Int32))), (.ref a), (.ref la)]))
  refine Go.st (fun _ kt => XS.dupX1 X10.here hx rfl (hb hby d8_27) rfl rfl rfl kt) ?_
  show Go p e below _ (T10.setTop (mkF m 28 #[.val (.ref a), .val (.int cc)] [(.int (en + (1 : Int32))), (.ref a), (.int (en + (1 : Int32))), (.ref la)]))
  refine Go.st (fun _ kt => XS.iconst X10.here hx rfl (hb hby d8_28) kt) ?_
  show Go p e below _ (T10.setTop (mkF m 29 #[.val (.ref a), .val (.int cc)] [(.int (1 : Int32)), (.int (en + (1 : Int32))), (.ref a), (.int (en + (1 : Int32))), (.ref la)]))
  refine Go.st (fun _ kt => XS.iadd X10.here hx rfl (hb hby d8_29) rfl kt) ?_
  show Go p e below _ (T10.setTop (mkF m 30 #[.val (.ref a), .val (.int cc)] [(.int ((en + (1 : Int32)) + (1 : Int32))), (.ref a), (.int (en + (1 : Int32))), (.ref la)]))
  have f11 := ((E_a.wr W3).wr W6)
  obtain ⟨T12, h12, X12, e12, W12, st12⟩ := putF X10 hx hZ hown (host := "") (Or.inl (hw _ (List.mem_of_getElem? (i := 44) rfl))) Via.refl e10 f9 f11 (Or.inl (hw _ (List.mem_of_getElem? (i := 45) rfl))) (hw _ (List.mem_of_getElem? (i := 2) rfl)) (ty := .int) (by decide) rfl rfl (g := (mkF m 30 #[.val (.ref a), .val (.int cc)] [(.int ((en + (1 : Int32)) + (1 : Int32))), (.ref a), (.int (en + (1 : Int32))), (.ref la)])) rfl rfl (hb hby d8_30)
  refine Go.st st12 ?_
  have Fw12 := f9.same W12
  have Zs12 : n0 ≤ h12.size := Nat.le_trans Zs6 (Nat.le_of_eq W12.size.symm)
  have N12 := Fr.snoc X12 N6 gn_a
  have K12 : Keep h0 h12 [a, la] := K6.wr W12 (Or.inl (List.mem_of_getElem? (i := 0) rfl))
  show Go p e below _ (T12.setTop (mkF m 33 #[.val (.ref a), .val (.int cc)] [(.int (en + (1 : Int32))), (.ref la)]))
  refine Go.st (fun _ kt => XS.iloadN X12.here hx rfl (hb hby d8_33) rfl kt) ?_
  show Go p e below _ (T12.setTop (mkF m 34 #[.val (.ref a), .val (.int cc)] [(.int cc), (.int (en + (1 : Int32))), (.ref la)]))
  refine Go.st (fun _ kt => XS.bipush X12.here hx rfl (hb hby d8_34) kt) ?_
  show Go p e below _ (T12.setTop (mkF m 36 #[.val (.ref a), .val (.int cc)] [(.int (8 : Int32)), (.int cc), (.int (en + (1 : Int32))), (.ref la)]))
  refine Go.st (fun _ kt => XS.iushr X12.here hx rfl (hb hby d8_36) rfl kt) ?_
  show Go p e below _ (T12.setTop (mkF m 37 #[.val (.ref a), .val (.int cc)] [(.int ((cc.toUInt32 >>> ((8 : Int32) &&& 31).toUInt32).toInt32)), (.int (en + (1 : Int32))), (.ref la)]))
  refine Go.st (fun _ kt => XS.i2b X12.here hx rfl (hb hby d8_37) rfl kt) ?_
  show Go p e below _ (T12.setTop (mkF m 38 #[.val (.ref a), .val (.int cc)] [(.int (((cc.toUInt32 >>> ((8 : Int32) &&& 31).toUInt32).toInt32).toInt8.toInt32)), (.int (en + (1 : Int32))), (.ref la)]))
  have f13 := (V6.other W12 (Ne.symm hal))
  obtain ⟨cl14, Ar14, q14, S14, N14', H14, G14⟩ := id f13
  have hin14 : ¬ ((en + (1 : Int32)) < 0 ∨ cl14.slots.size ≤ ((en + (1 : Int32))).toNatClampNeg) := inb_of S14 hp2
  obtain ⟨T15, h15, X15, e15, W15, st15⟩ := stB X12 hx hZ e12 Ar14 (j := (en + (1 : Int32))) hin14 (g := (mkF m 38 #[.val (.ref a), .val (.int cc)] [(.int (((cc.toUInt32 >>> ((8 : Int32) &&& 31).toUInt32).toInt32).toInt8.toInt32)), (.int (en + (1 : Int32))), (.ref la)])) rfl rfl (hb hby d8_38)
  refine Go.st st15 ?_
  have V15 : Arv Z h15 la kl .byte sz ((vs.set en.toNatClampNeg (.int ((cc.toInt8.toInt32).toInt8.toInt32))).set (en + (1 : Int32)).toNatClampNeg (.int ((((cc.toUInt32 >>> ((8 : Int32) &&& 31).toUInt32).toInt32).toInt8.toInt32).toInt8.toInt32))) (.int (0 : Int32)) := Arv.set Ar14 q14 S14 N14' H14 G14 (fits_nar_byte _) W15 _ rfl (by rw [List.length_set]; exact hp4)
  have Zs15 : n0 ≤ h15.size := Nat.le_trans Zs12 (Nat.le_of_eq W15.size.symm)
  have N15 := Fr.snoc X15 N12 gn_la
  have K15 : Keep h0 h15 [a, la] := K12.wr W15 (Or.inl (List.mem_of_getElem? (i := 1) rfl))
  show Go p e below _ (T15.setTop (mkF m 39 #[.val (.ref a), .val (.int cc)] []))
  have f16 := ((((F_segments.other W3 (Or.inr (slot_ne (Or.inl (hw _ (List.mem_of_getElem? (i := 13) rfl))) (Or.inl (hw _ (List.mem_of_getElem? (i := 45) rfl))) (by decide) (t := (.array (.array .byte))) (t' := .int) (by decide) (by decide)))).other W6 (Or.inl hal)).other W12 (Or.inr (slot_ne (Or.inl (hw _ (List.mem_of_getElem? (i := 13) rfl))) (Or.inl (hw _ (List.mem_of_getElem? (i := 45) rfl))) (by decide) (t := (.array (.array .byte))) (t' := .int) (by decide) (by decide)))).other W15 (Or.inl hal))
  have f17 := ((((F_bases.other W3 (Or.inr (slot_ne (Or.inl (hw _ (List.mem_of_getElem? (i := 16) rfl))) (Or.inl (hw _ (List.mem_of_getElem? (i := 45) rfl))) (by decide) (t := (.array .int)) (t' := .int) (by decide) (by decide)))).other W6 (Or.inl hal)).other W12 (Or.inr (slot_ne (Or.inl (hw _ (List.mem_of_getElem? (i := 16) rfl))) (Or.inl (hw _ (List.mem_of_getElem? (i := 45) rfl))) (by decide) (t := (.array .int)) (t' := .int) (by decide) (by decide)))).other W15 (Or.inl hal))
  have f18 := ((f7.other W12 (Or.inr (slot_ne (Or.inl (hw _ (List.mem_of_getElem? (i := 27) rfl))) (Or.inl (hw _ (List.mem_of_getElem? (i := 45) rfl))) (by decide) (t := (.array .byte)) (t' := .int) (by decide) (by decide)))).other W15 (Or.inl hal))
  have f19 := ((((F_count.other W3 (Or.inr (slot_ne (Or.inl (hw _ (List.mem_of_getElem? (i := 33) rfl))) (Or.inl (hw _ (List.mem_of_getElem? (i := 45) rfl))) (by decide) (t := .int) (t' := .int) (by decide) (by decide)))).other W6 (Or.inl hal)).other W12 (Or.inr (slot_ne (Or.inl (hw _ (List.mem_of_getElem? (i := 33) rfl))) (Or.inl (hw _ (List.mem_of_getElem? (i := 45) rfl))) (by decide) (t := .int) (t' := .int) (by decide) (by decide)))).other W15 (Or.inl hal))
  have f20 := (Fw12.other W15 (Or.inl hal))
  refine Go.retV X15 hx Bd.returns (BodyLoose.notSynchronized Bd) (hb hby d8_39) (Q := (Q_rm8 Z a cc la kl sz vs ve sg bs en ee h0 n0)) (by decide) (by decide) ?_
  show (Q_rm8 Z a cc la kl sz vs ve sg bs en ee h0 n0) _ T15.heap _
  rw [e15]
  exact ⟨rfl, N15, K15, f16, f17, f18, f19, (hee ▸ f20), (hve ▸ V15)⟩
theorem d11_0 : decode method_2_code 0 = .ok (.aload_n 0, 1) := by decide +kernel
theorem d11_1 : decode method_2_code 1 = .ok (.iload_n 1, 1) := by decide +kernel
theorem d11_2 : decode method_2_code 2 = .ok (.baload, 1) := by decide +kernel
theorem d11_3 : decode method_2_code 3 = .ok (.sipush 255, 3) := by decide +kernel
theorem d11_6 : decode method_2_code 6 = .ok (.iand, 1) := by decide +kernel
theorem d11_7 : decode method_2_code 7 = .ok (.istore_n 3, 1) := by decide +kernel
theorem d11_8 : decode method_2_code 8 = .ok (.aload_n 0, 1) := by decide +kernel
theorem d11_9 : decode method_2_code 9 = .ok (.iload_n 1, 1) := by decide +kernel
theorem d11_10 : decode method_2_code 10 = .ok (.iconst 1, 1) := by decide +kernel
theorem d11_11 : decode method_2_code 11 = .ok (.iadd, 1) := by decide +kernel
theorem d11_12 : decode method_2_code 12 = .ok (.baload, 1) := by decide +kernel
theorem d11_13 : decode method_2_code 13 = .ok (.sipush 255, 3) := by decide +kernel
theorem d11_16 : decode method_2_code 16 = .ok (.iand, 1) := by decide +kernel
theorem d11_17 : decode method_2_code 17 = .ok (.istore 4, 2) := by decide +kernel
theorem d11_19 : decode method_2_code 19 = .ok (.iload_n 3, 1) := by decide +kernel
theorem d11_20 : decode method_2_code 20 = .ok (.iload_n 2, 1) := by decide +kernel
theorem d11_21 : decode method_2_code 21 = .ok (.sipush 256, 3) := by decide +kernel
theorem d11_24 : decode method_2_code 24 = .ok (.irem, 1) := by decide +kernel
theorem d11_25 : decode method_2_code 25 = .ok (.if_icmp .ne 29, 3) := by decide +kernel
theorem d11_28 : decode method_2_code 28 = .ok (.iload 4, 2) := by decide +kernel
theorem d11_30 : decode method_2_code 30 = .ok (.iload_n 2, 1) := by decide +kernel
theorem d11_31 : decode method_2_code 31 = .ok (.sipush 256, 3) := by decide +kernel
theorem d11_34 : decode method_2_code 34 = .ok (.idiv, 1) := by decide +kernel
theorem d11_35 : decode method_2_code 35 = .ok (.if_icmp .ne 19, 3) := by decide +kernel
theorem d11_38 : decode method_2_code 38 = .ok (.iload_n 3, 1) := by decide +kernel
theorem d11_39 : decode method_2_code 39 = .ok (.sipush 256, 3) := by decide +kernel
theorem d11_42 : decode method_2_code 42 = .ok (.iload 4, 2) := by decide +kernel
theorem d11_44 : decode method_2_code 44 = .ok (.imul, 1) := by decide +kernel
theorem d11_45 : decode method_2_code 45 = .ok (.iadd, 1) := by decide +kernel
theorem d11_46 : decode method_2_code 46 = .ok (.iload_n 2, 1) := by decide +kernel
theorem d11_47 : decode method_2_code 47 = .ok (.if_icmp .ne 7, 3) := by decide +kernel
theorem d11_50 : decode method_2_code 50 = .ok (.iconst 1, 1) := by decide +kernel
theorem d11_51 : decode method_2_code 51 = .ok (.goto 4, 3) := by decide +kernel
theorem d11_55 : decode method_2_code 55 = .ok (.ireturn, 1) := by decide +kernel
theorem own_pn4 : plainName "com/example/rowsieve/rowsieve/format/GrowingBytesPutLittleEndianPinLaw" = true := by first | (simp [plainName, overriddenIn]; done) | decide +kernel
def Q_rm11 (Z : State) (la : Addr) (pp : Int32) (cc : Int32) (kl : ClassId) (sz : Int32) (vs : List Value) (h0 : Heap) (n0 : Nat) (v : Option Value) (h : Heap) (L : List Loc) : Prop := v = some (.int 1) ∧ Fr n0 L ∧ h = h0
theorem ef_rm11 (m : MethodId) (la : Addr) (pp : Int32) (cc : Int32) : entryFrame m #[(.ref la), (.int pp), (.int cc)] 5 = mkF m 0 #[.val (.ref la), .val (.int pp), .val (.int cc), .unset, .unset] [] := by first | (simp [entryFrame, mkF, argsToLocals, Value.category]; done) | rfl
set_option maxRecDepth 65536 in
set_option maxHeartbeats 40000000 in
theorem rm11 (l : Launch) (Z : State) (a0 : Array Value) (hw : ∀ d ∈ tables_1, d.before a0 Z = true) (ws : List Jvm.Cond) (la : Addr) (pp : Int32) (cc : Int32) (kl : ClassId) (sz : Int32) (vs : List Value) (h0 : Heap) (n0 : Nat) (Z0 : n0 ≤ h0.size) (V_la : Arv Z h0 la kl .byte sz vs (.int (0 : Int32))) (hp1 : ¬ pp < 0 ∧ pp < sz) (hp2 : ¬ (pp + (1 : Int32)) < 0 ∧ (pp + (1 : Int32)) < sz) (hp3 : vs.getD pp.toNatClampNeg (.int (0 : Int32)) = (.int ((cc.toInt8.toInt32).toInt8.toInt32))) (hp4 : vs.getD (pp + (1 : Int32)).toNatClampNeg (.int (0 : Int32)) = (.int ((((cc.toUInt32 >>> ((8 : Int32) &&& 31).toUInt32).toInt32).toInt8.toInt32).toInt8.toInt32))) (hcc : 0 ≤ cc.toInt ∧ cc.toInt < 65536) :
    MetFree l (⟨"com/example/rowsieve/rowsieve/format/GrowingBytesPutLittleEndianPinLaw", "readsBack", "([BIC)Z"⟩ : MethodName) (head1 (Jvm.Cond.code (⟨"com/example/rowsieve/rowsieve/format/GrowingBytesPutLittleEndianPinLaw", "readsBack", "([BIC)Z"⟩ : MethodName) method_2_code 5 (some .boolean) :: ws) ({ frames := 0, cells := 0, slots := 0, locals := 0 } : Room)) (fun ag_ U_ => ag_ = #[(.ref la), (.int pp), (.int cc)] ∧ Z.Warmed39 U_.vm ∧ U_.heap = h0) (fun _ _ _ _ _ => True) (fun _ U_ o_ V_ => ∃ v_ L_, o_ = .returned v_ ∧ (Q_rm11 Z la pp cc kl sz vs h0 n0) v_ V_.heap L_ ∧ FrameEnd U_ o_ V_ L_ ({ frames := 0, cells := 0, slots := 0, locals := 0 } : Room).cells ({ frames := 0, cells := 0, slots := 0, locals := 0 } : Room).slots) := by
  refine MetFree.of_bodySF (plainFor_of_name own_pn4) hisR ?_
  intro p e s m args below meth c s₁ Bd hml0 hP hK
  obtain ⟨rfl, hZ, hh⟩ := hP
  have hx := Bd.exec
  have hby := Bd.bytes
  have hml : c.maxLocals = 5 := hml0
  have hown : s.vm.findClass "com/example/rowsieve/rowsieve/format/GrowingBytesPutLittleEndianPinLaw" = some m.cls := findClass_of_methodNamed Bd.named
  have hnm := (name_of_methodNamed Bd.named Bd.method).1
  have X0 : Stand p l e ({ frames := 0, cells := 0, slots := 0, locals := 0 } : Room) s m #[(.ref la), (.int pp), (.int cc)] below meth c s₁ [] 0 0 := Stand.of_body Bd
  have e0 : s₁.heap = h0 := by rw [← hh, Bd.state]; rfl
  have N0 := Fr.nil n0
  refine Go.st (G := fun s₂ o_ => ∃ v_ L_, o_ = .returned v_ ∧ (Q_rm11 Z la pp cc kl sz vs h0 n0) v_ s₂.heap L_ ∧ FrameEnd s o_ s₂ L_ ({ frames := 0, cells := 0, slots := 0, locals := 0 } : Room).cells ({ frames := 0, cells := 0, slots := 0, locals := 0 } : Room).slots) (fun t kt => castTop (ef_rm11 m la pp cc) kt) ?_
  have hB := own_byte cc hcc.1 hcc.2
  show Go p e below _ (s₁.setTop (mkF m 0 #[.val (.ref la), .val (.int pp), .val (.int cc), .unset, .unset] []))
  refine Go.st (fun _ kt => XS.aloadN X0.here hx rfl (hb hby d11_0) rfl rfl kt) ?_
  show Go p e below _ (s₁.setTop (mkF m 1 #[.val (.ref la), .val (.int pp), .val (.int cc), .unset, .unset] [(.ref la)]))
  refine Go.st (fun _ kt => XS.iloadN X0.here hx rfl (hb hby d11_1) rfl kt) ?_
  show Go p e below _ (s₁.setTop (mkF m 2 #[.val (.ref la), .val (.int pp), .val (.int cc), .unset, .unset] [(.int pp), (.ref la)]))
  obtain ⟨cl1, Ar1, -, S1, N1', H1, G1⟩ := id V_la
  have hin1 := inb_of S1 (j := pp) hp1
  have hat1 := Has.at H1 hin1 (v := (.int ((cc.toInt8.toInt32).toInt8.toInt32))) hp3
  refine Go.st (fun _ kt => X0.baloadBytes hx (j := pp) (v := (.int ((cc.toInt8.toInt32).toInt8.toInt32))) (by rw [e0]; exact Ar1.1) (State.isArrayOf_alike hZ.alike Ar1.2.1) Ar1.2.2 hin1 hat1 (g := (mkF m 2 #[.val (.ref la), .val (.int pp), .val (.int cc), .unset, .unset] [(.int pp), (.ref la)])) rfl rfl (hb hby d11_2) _ kt) ?_
  show Go p e below _ (s₁.setTop (mkF m 3 #[.val (.ref la), .val (.int pp), .val (.int cc), .unset, .unset] [(.int ((cc.toInt8.toInt32).toInt8.toInt32))]))
  refine Go.st (fun _ kt => XS.sipush X0.here hx rfl (hb hby d11_3) kt) ?_
  show Go p e below _ (s₁.setTop (mkF m 6 #[.val (.ref la), .val (.int pp), .val (.int cc), .unset, .unset] [(.int (255 : Int32)), (.int ((cc.toInt8.toInt32).toInt8.toInt32))]))
  refine Go.st (fun _ kt => XS.iand X0.here hx rfl (hb hby d11_6) rfl kt) ?_
  show Go p e below _ (s₁.setTop (mkF m 7 #[.val (.ref la), .val (.int pp), .val (.int cc), .unset, .unset] [(.int (((cc.toInt8.toInt32).toInt8.toInt32) &&& (255 : Int32)))]))
  refine Go.st (fun _ kt => XS.istoreN X0.here hx rfl (hb hby d11_7) rfl (l' := #[.val (.ref la), .val (.int pp), .val (.int cc), .val (.int (((cc.toInt8.toInt32).toInt8.toInt32) &&& (255 : Int32))), .unset]) rfl kt) ?_
  show Go p e below _ (s₁.setTop (mkF m 8 #[.val (.ref la), .val (.int pp), .val (.int cc), .val (.int (((cc.toInt8.toInt32).toInt8.toInt32) &&& (255 : Int32))), .unset] []))
  refine Go.st (fun _ kt => XS.aloadN X0.here hx rfl (hb hby d11_8) rfl rfl kt) ?_
  show Go p e below _ (s₁.setTop (mkF m 9 #[.val (.ref la), .val (.int pp), .val (.int cc), .val (.int (((cc.toInt8.toInt32).toInt8.toInt32) &&& (255 : Int32))), .unset] [(.ref la)]))
  refine Go.st (fun _ kt => XS.iloadN X0.here hx rfl (hb hby d11_9) rfl kt) ?_
  show Go p e below _ (s₁.setTop (mkF m 10 #[.val (.ref la), .val (.int pp), .val (.int cc), .val (.int (((cc.toInt8.toInt32).toInt8.toInt32) &&& (255 : Int32))), .unset] [(.int pp), (.ref la)]))
  refine Go.st (fun _ kt => XS.iconst X0.here hx rfl (hb hby d11_10) kt) ?_
  show Go p e below _ (s₁.setTop (mkF m 11 #[.val (.ref la), .val (.int pp), .val (.int cc), .val (.int (((cc.toInt8.toInt32).toInt8.toInt32) &&& (255 : Int32))), .unset] [(.int (1 : Int32)), (.int pp), (.ref la)]))
  refine Go.st (fun _ kt => XS.iadd X0.here hx rfl (hb hby d11_11) rfl kt) ?_
  show Go p e below _ (s₁.setTop (mkF m 12 #[.val (.ref la), .val (.int pp), .val (.int cc), .val (.int (((cc.toInt8.toInt32).toInt8.toInt32) &&& (255 : Int32))), .unset] [(.int (pp + (1 : Int32))), (.ref la)]))
  obtain ⟨cl2, Ar2, -, S2, N2', H2, G2⟩ := id V_la
  have hin2 := inb_of S2 (j := (pp + (1 : Int32))) hp2
  have hat2 := Has.at H2 hin2 (v := (.int ((((cc.toUInt32 >>> ((8 : Int32) &&& 31).toUInt32).toInt32).toInt8.toInt32).toInt8.toInt32))) hp4
  refine Go.st (fun _ kt => X0.baloadBytes hx (j := (pp + (1 : Int32))) (v := (.int ((((cc.toUInt32 >>> ((8 : Int32) &&& 31).toUInt32).toInt32).toInt8.toInt32).toInt8.toInt32))) (by rw [e0]; exact Ar2.1) (State.isArrayOf_alike hZ.alike Ar2.2.1) Ar2.2.2 hin2 hat2 (g := (mkF m 12 #[.val (.ref la), .val (.int pp), .val (.int cc), .val (.int (((cc.toInt8.toInt32).toInt8.toInt32) &&& (255 : Int32))), .unset] [(.int (pp + (1 : Int32))), (.ref la)])) rfl rfl (hb hby d11_12) _ kt) ?_
  show Go p e below _ (s₁.setTop (mkF m 13 #[.val (.ref la), .val (.int pp), .val (.int cc), .val (.int (((cc.toInt8.toInt32).toInt8.toInt32) &&& (255 : Int32))), .unset] [(.int ((((cc.toUInt32 >>> ((8 : Int32) &&& 31).toUInt32).toInt32).toInt8.toInt32).toInt8.toInt32))]))
  refine Go.st (fun _ kt => XS.sipush X0.here hx rfl (hb hby d11_13) kt) ?_
  show Go p e below _ (s₁.setTop (mkF m 16 #[.val (.ref la), .val (.int pp), .val (.int cc), .val (.int (((cc.toInt8.toInt32).toInt8.toInt32) &&& (255 : Int32))), .unset] [(.int (255 : Int32)), (.int ((((cc.toUInt32 >>> ((8 : Int32) &&& 31).toUInt32).toInt32).toInt8.toInt32).toInt8.toInt32))]))
  refine Go.st (fun _ kt => XS.iand X0.here hx rfl (hb hby d11_16) rfl kt) ?_
  show Go p e below _ (s₁.setTop (mkF m 17 #[.val (.ref la), .val (.int pp), .val (.int cc), .val (.int (((cc.toInt8.toInt32).toInt8.toInt32) &&& (255 : Int32))), .unset] [(.int (((((cc.toUInt32 >>> ((8 : Int32) &&& 31).toUInt32).toInt32).toInt8.toInt32).toInt8.toInt32) &&& (255 : Int32)))]))
  refine Go.st (fun _ kt => XS.istore X0.here hx rfl (hb hby d11_17) rfl (l' := #[.val (.ref la), .val (.int pp), .val (.int cc), .val (.int (((cc.toInt8.toInt32).toInt8.toInt32) &&& (255 : Int32))), .val (.int (((((cc.toUInt32 >>> ((8 : Int32) &&& 31).toUInt32).toInt32).toInt8.toInt32).toInt8.toInt32) &&& (255 : Int32)))]) rfl kt) ?_
  show Go p e below _ (s₁.setTop (mkF m 19 #[.val (.ref la), .val (.int pp), .val (.int cc), .val (.int (((cc.toInt8.toInt32).toInt8.toInt32) &&& (255 : Int32))), .val (.int (((((cc.toUInt32 >>> ((8 : Int32) &&& 31).toUInt32).toInt32).toInt8.toInt32).toInt8.toInt32) &&& (255 : Int32)))] []))
  refine Go.st (fun _ kt => XS.iloadN X0.here hx rfl (hb hby d11_19) rfl kt) ?_
  show Go p e below _ (s₁.setTop (mkF m 20 #[.val (.ref la), .val (.int pp), .val (.int cc), .val (.int (((cc.toInt8.toInt32).toInt8.toInt32) &&& (255 : Int32))), .val (.int (((((cc.toUInt32 >>> ((8 : Int32) &&& 31).toUInt32).toInt32).toInt8.toInt32).toInt8.toInt32) &&& (255 : Int32)))] [(.int (((cc.toInt8.toInt32).toInt8.toInt32) &&& (255 : Int32)))]))
  refine Go.st (fun _ kt => XS.iloadN X0.here hx rfl (hb hby d11_20) rfl kt) ?_
  show Go p e below _ (s₁.setTop (mkF m 21 #[.val (.ref la), .val (.int pp), .val (.int cc), .val (.int (((cc.toInt8.toInt32).toInt8.toInt32) &&& (255 : Int32))), .val (.int (((((cc.toUInt32 >>> ((8 : Int32) &&& 31).toUInt32).toInt32).toInt8.toInt32).toInt8.toInt32) &&& (255 : Int32)))] [(.int cc), (.int (((cc.toInt8.toInt32).toInt8.toInt32) &&& (255 : Int32)))]))
  refine Go.st (fun _ kt => XS.sipush X0.here hx rfl (hb hby d11_21) kt) ?_
  show Go p e below _ (s₁.setTop (mkF m 24 #[.val (.ref la), .val (.int pp), .val (.int cc), .val (.int (((cc.toInt8.toInt32).toInt8.toInt32) &&& (255 : Int32))), .val (.int (((((cc.toUInt32 >>> ((8 : Int32) &&& 31).toUInt32).toInt32).toInt8.toInt32).toInt8.toInt32) &&& (255 : Int32)))] [(.int (256 : Int32)), (.int cc), (.int (((cc.toInt8.toInt32).toInt8.toInt32) &&& (255 : Int32)))]))
  refine Go.st (fun _ kt => iremM X0 hx rfl (hb hby d11_24) rfl (by decide) kt) ?_
  show Go p e below _ (s₁.setTop (mkF m 25 #[.val (.ref la), .val (.int pp), .val (.int cc), .val (.int (((cc.toInt8.toInt32).toInt8.toInt32) &&& (255 : Int32))), .val (.int (((((cc.toUInt32 >>> ((8 : Int32) &&& 31).toUInt32).toInt32).toInt8.toInt32).toInt8.toInt32) &&& (255 : Int32)))] [(.int (cc % (256 : Int32))), (.int (((cc.toInt8.toInt32).toInt8.toInt32) &&& (255 : Int32)))]))
  refine Go.st (fun _ kt => XS.icmpNo X0.here hx rfl (hb hby d11_25) rfl (teq hB.1).2 kt) ?_
  show Go p e below _ (s₁.setTop (mkF m 28 #[.val (.ref la), .val (.int pp), .val (.int cc), .val (.int (((cc.toInt8.toInt32).toInt8.toInt32) &&& (255 : Int32))), .val (.int (((((cc.toUInt32 >>> ((8 : Int32) &&& 31).toUInt32).toInt32).toInt8.toInt32).toInt8.toInt32) &&& (255 : Int32)))] []))
  refine Go.st (fun _ kt => XS.iload X0.here hx rfl (hb hby d11_28) rfl kt) ?_
  show Go p e below _ (s₁.setTop (mkF m 30 #[.val (.ref la), .val (.int pp), .val (.int cc), .val (.int (((cc.toInt8.toInt32).toInt8.toInt32) &&& (255 : Int32))), .val (.int (((((cc.toUInt32 >>> ((8 : Int32) &&& 31).toUInt32).toInt32).toInt8.toInt32).toInt8.toInt32) &&& (255 : Int32)))] [(.int (((((cc.toUInt32 >>> ((8 : Int32) &&& 31).toUInt32).toInt32).toInt8.toInt32).toInt8.toInt32) &&& (255 : Int32)))]))
  refine Go.st (fun _ kt => XS.iloadN X0.here hx rfl (hb hby d11_30) rfl kt) ?_
  show Go p e below _ (s₁.setTop (mkF m 31 #[.val (.ref la), .val (.int pp), .val (.int cc), .val (.int (((cc.toInt8.toInt32).toInt8.toInt32) &&& (255 : Int32))), .val (.int (((((cc.toUInt32 >>> ((8 : Int32) &&& 31).toUInt32).toInt32).toInt8.toInt32).toInt8.toInt32) &&& (255 : Int32)))] [(.int cc), (.int (((((cc.toUInt32 >>> ((8 : Int32) &&& 31).toUInt32).toInt32).toInt8.toInt32).toInt8.toInt32) &&& (255 : Int32)))]))
  refine Go.st (fun _ kt => XS.sipush X0.here hx rfl (hb hby d11_31) kt) ?_
  show Go p e below _ (s₁.setTop (mkF m 34 #[.val (.ref la), .val (.int pp), .val (.int cc), .val (.int (((cc.toInt8.toInt32).toInt8.toInt32) &&& (255 : Int32))), .val (.int (((((cc.toUInt32 >>> ((8 : Int32) &&& 31).toUInt32).toInt32).toInt8.toInt32).toInt8.toInt32) &&& (255 : Int32)))] [(.int (256 : Int32)), (.int cc), (.int (((((cc.toUInt32 >>> ((8 : Int32) &&& 31).toUInt32).toInt32).toInt8.toInt32).toInt8.toInt32) &&& (255 : Int32)))]))
  refine Go.st (fun _ kt => XS.idiv X0.here hx rfl (hb hby d11_34) rfl (by decide) kt) ?_
  show Go p e below _ (s₁.setTop (mkF m 35 #[.val (.ref la), .val (.int pp), .val (.int cc), .val (.int (((cc.toInt8.toInt32).toInt8.toInt32) &&& (255 : Int32))), .val (.int (((((cc.toUInt32 >>> ((8 : Int32) &&& 31).toUInt32).toInt32).toInt8.toInt32).toInt8.toInt32) &&& (255 : Int32)))] [(.int (cc / (256 : Int32))), (.int (((((cc.toUInt32 >>> ((8 : Int32) &&& 31).toUInt32).toInt32).toInt8.toInt32).toInt8.toInt32) &&& (255 : Int32)))]))
  refine Go.st (fun _ kt => XS.icmpNo X0.here hx rfl (hb hby d11_35) rfl (teq hB.2.1).2 kt) ?_
  show Go p e below _ (s₁.setTop (mkF m 38 #[.val (.ref la), .val (.int pp), .val (.int cc), .val (.int (((cc.toInt8.toInt32).toInt8.toInt32) &&& (255 : Int32))), .val (.int (((((cc.toUInt32 >>> ((8 : Int32) &&& 31).toUInt32).toInt32).toInt8.toInt32).toInt8.toInt32) &&& (255 : Int32)))] []))
  refine Go.st (fun _ kt => XS.iloadN X0.here hx rfl (hb hby d11_38) rfl kt) ?_
  show Go p e below _ (s₁.setTop (mkF m 39 #[.val (.ref la), .val (.int pp), .val (.int cc), .val (.int (((cc.toInt8.toInt32).toInt8.toInt32) &&& (255 : Int32))), .val (.int (((((cc.toUInt32 >>> ((8 : Int32) &&& 31).toUInt32).toInt32).toInt8.toInt32).toInt8.toInt32) &&& (255 : Int32)))] [(.int (((cc.toInt8.toInt32).toInt8.toInt32) &&& (255 : Int32)))]))
  refine Go.st (fun _ kt => XS.sipush X0.here hx rfl (hb hby d11_39) kt) ?_
  show Go p e below _ (s₁.setTop (mkF m 42 #[.val (.ref la), .val (.int pp), .val (.int cc), .val (.int (((cc.toInt8.toInt32).toInt8.toInt32) &&& (255 : Int32))), .val (.int (((((cc.toUInt32 >>> ((8 : Int32) &&& 31).toUInt32).toInt32).toInt8.toInt32).toInt8.toInt32) &&& (255 : Int32)))] [(.int (256 : Int32)), (.int (((cc.toInt8.toInt32).toInt8.toInt32) &&& (255 : Int32)))]))
  refine Go.st (fun _ kt => XS.iload X0.here hx rfl (hb hby d11_42) rfl kt) ?_
  show Go p e below _ (s₁.setTop (mkF m 44 #[.val (.ref la), .val (.int pp), .val (.int cc), .val (.int (((cc.toInt8.toInt32).toInt8.toInt32) &&& (255 : Int32))), .val (.int (((((cc.toUInt32 >>> ((8 : Int32) &&& 31).toUInt32).toInt32).toInt8.toInt32).toInt8.toInt32) &&& (255 : Int32)))] [(.int (((((cc.toUInt32 >>> ((8 : Int32) &&& 31).toUInt32).toInt32).toInt8.toInt32).toInt8.toInt32) &&& (255 : Int32))), (.int (256 : Int32)), (.int (((cc.toInt8.toInt32).toInt8.toInt32) &&& (255 : Int32)))]))
  refine Go.st (fun _ kt => XS.imul X0.here hx rfl (hb hby d11_44) rfl kt) ?_
  show Go p e below _ (s₁.setTop (mkF m 45 #[.val (.ref la), .val (.int pp), .val (.int cc), .val (.int (((cc.toInt8.toInt32).toInt8.toInt32) &&& (255 : Int32))), .val (.int (((((cc.toUInt32 >>> ((8 : Int32) &&& 31).toUInt32).toInt32).toInt8.toInt32).toInt8.toInt32) &&& (255 : Int32)))] [(.int ((256 : Int32) * (((((cc.toUInt32 >>> ((8 : Int32) &&& 31).toUInt32).toInt32).toInt8.toInt32).toInt8.toInt32) &&& (255 : Int32)))), (.int (((cc.toInt8.toInt32).toInt8.toInt32) &&& (255 : Int32)))]))
  refine Go.st (fun _ kt => XS.iadd X0.here hx rfl (hb hby d11_45) rfl kt) ?_
  show Go p e below _ (s₁.setTop (mkF m 46 #[.val (.ref la), .val (.int pp), .val (.int cc), .val (.int (((cc.toInt8.toInt32).toInt8.toInt32) &&& (255 : Int32))), .val (.int (((((cc.toUInt32 >>> ((8 : Int32) &&& 31).toUInt32).toInt32).toInt8.toInt32).toInt8.toInt32) &&& (255 : Int32)))] [(.int ((((cc.toInt8.toInt32).toInt8.toInt32) &&& (255 : Int32)) + ((256 : Int32) * (((((cc.toUInt32 >>> ((8 : Int32) &&& 31).toUInt32).toInt32).toInt8.toInt32).toInt8.toInt32) &&& (255 : Int32)))))]))
  refine Go.st (fun _ kt => XS.iloadN X0.here hx rfl (hb hby d11_46) rfl kt) ?_
  show Go p e below _ (s₁.setTop (mkF m 47 #[.val (.ref la), .val (.int pp), .val (.int cc), .val (.int (((cc.toInt8.toInt32).toInt8.toInt32) &&& (255 : Int32))), .val (.int (((((cc.toUInt32 >>> ((8 : Int32) &&& 31).toUInt32).toInt32).toInt8.toInt32).toInt8.toInt32) &&& (255 : Int32)))] [(.int cc), (.int ((((cc.toInt8.toInt32).toInt8.toInt32) &&& (255 : Int32)) + ((256 : Int32) * (((((cc.toUInt32 >>> ((8 : Int32) &&& 31).toUInt32).toInt32).toInt8.toInt32).toInt8.toInt32) &&& (255 : Int32)))))]))
  refine Go.st (fun _ kt => XS.icmpNo X0.here hx rfl (hb hby d11_47) rfl (teq (by rw [hB.1, hB.2.1]; exact hB.2.2)).2 kt) ?_
  show Go p e below _ (s₁.setTop (mkF m 50 #[.val (.ref la), .val (.int pp), .val (.int cc), .val (.int (((cc.toInt8.toInt32).toInt8.toInt32) &&& (255 : Int32))), .val (.int (((((cc.toUInt32 >>> ((8 : Int32) &&& 31).toUInt32).toInt32).toInt8.toInt32).toInt8.toInt32) &&& (255 : Int32)))] []))
  refine Go.st (fun _ kt => XS.iconst X0.here hx rfl (hb hby d11_50) kt) ?_
  show Go p e below _ (s₁.setTop (mkF m 51 #[.val (.ref la), .val (.int pp), .val (.int cc), .val (.int (((cc.toInt8.toInt32).toInt8.toInt32) &&& (255 : Int32))), .val (.int (((((cc.toUInt32 >>> ((8 : Int32) &&& 31).toUInt32).toInt32).toInt8.toInt32).toInt8.toInt32) &&& (255 : Int32)))] [(.int (1 : Int32))]))
  refine Go.st (fun _ kt => XS.goto X0.here hx rfl (pc0 := 51) (pc' := 55) rfl (hb hby d11_51) (by decide) (by decide) kt) ?_
  show Go p e below _ (s₁.setTop (mkF m 55 #[.val (.ref la), .val (.int pp), .val (.int cc), .val (.int (((cc.toInt8.toInt32).toInt8.toInt32) &&& (255 : Int32))), .val (.int (((((cc.toUInt32 >>> ((8 : Int32) &&& 31).toUInt32).toInt32).toInt8.toInt32).toInt8.toInt32) &&& (255 : Int32)))] [(.int (1 : Int32))]))
  refine Go.retN X0 hx (t := .boolean) Bd.returns (by simp) (BodyLoose.notSynchronized Bd) (hb hby d11_55) (Q := (Q_rm11 Z la pp cc kl sz vs h0 n0)) (by decide) (by decide) ?_
  show (Q_rm11 Z la pp cc kl sz vs h0 n0) _ s₁.heap _
  rw [e0]
  exact ⟨rfl, N0, rfl⟩
theorem own_pd5 : parseMethodDescriptor "(II)V" = some ⟨[.int, .int], none⟩ := by decide +kernel
theorem own_pd6 : parseMethodDescriptor "([BII)V" = some ⟨[(.array .byte), .int, .int], none⟩ := by decide +kernel
theorem own_pd7 : parseMethodDescriptor "(C)V" = some ⟨[.char], none⟩ := by decide +kernel
theorem own_pd8 : parseMethodDescriptor "(I)[B" = some ⟨[.int], some (.array .byte)⟩ := by decide +kernel
theorem own_pd9 : parseMethodDescriptor "([BIC)Z" = some ⟨[(.array .byte), .int, .char], some .boolean⟩ := by decide +kernel
def Q_rm0 (Z : State) (i : Int32) (j : Int32) (k : Int32) (o : Int32) (h0 : Heap) (n0 : Nat) (v : Option Value) (h : Heap) (L : List Loc) : Prop := v = some (.int 1) ∧ Fr n0 L
theorem ef_rm0 (m : MethodId) (i : Int32) (j : Int32) (k : Int32) (o : Int32) : entryFrame m #[(.int i), (.int j), (.int k), (.int o)] maxLocals = mkF m 0 #[.val (.int i), .val (.int j), .val (.int k), .val (.int o), .unset, .unset, .unset, .unset, .unset, .unset, .unset, .unset] [] := by first | (simp [entryFrame, mkF, argsToLocals, Value.category, maxLocals]; done) | rfl
set_option maxRecDepth 65536 in
set_option maxHeartbeats 40000000 in
theorem rm0 (l : Launch) (Z : State) (a0 : Array Value) (hw : ∀ d ∈ tables_1, d.before a0 Z = true) (ws : List Jvm.Cond) (i : Int32) (j : Int32) (k : Int32) (o : Int32) (h0 : Heap) (n0 : Nat) (Z0 : n0 ≤ h0.size) :
    MetFree l x (head1 (Jvm.Cond.code x code maxLocals ret :: ws) room_1) (fun ag_ U_ => ag_ = #[(.int i), (.int j), (.int k), (.int o)] ∧ Z.Warmed39 U_.vm ∧ U_.heap = h0) (fun _ _ _ _ _ => True) (fun _ U_ o_ V_ => ∃ v_ L_, o_ = .returned v_ ∧ (Q_rm0 Z i j k o h0 n0) v_ V_.heap L_ ∧ FrameEnd U_ o_ V_ L_ room_1.cells room_1.slots) := by
  refine MetFree.of_bodySF (plainFor_of_name own_pn4) hisR ?_
  intro p e s m args below meth c s₁ Bd hml0 hP hK
  obtain ⟨rfl, hZ, hh⟩ := hP
  have hx := Bd.exec
  have hby := Bd.bytes
  have hml : c.maxLocals = 12 := hml0
  have hown : s.vm.findClass "com/example/rowsieve/rowsieve/format/GrowingBytesPutLittleEndianPinLaw" = some m.cls := findClass_of_methodNamed Bd.named
  have hnm := (name_of_methodNamed Bd.named Bd.method).1
  have X0 : Stand p l e room_1 s m #[(.int i), (.int j), (.int k), (.int o)] below meth c s₁ [] 0 0 := Stand.of_body Bd
  have e0 : s₁.heap = h0 := by rw [← hh, Bd.state]; rfl
  have N0 := Fr.nil n0
  refine Go.st (G := fun s₂ o_ => ∃ v_ L_, o_ = .returned v_ ∧ (Q_rm0 Z i j k o h0 n0) v_ s₂.heap L_ ∧ FrameEnd s o_ s₂ L_ room_1.cells room_1.slots) (fun t kt => castTop (ef_rm0 m i j k o) kt) ?_
  show Go p e below _ (s₁.setTop (mkF m 0 #[.val (.int i), .val (.int j), .val (.int k), .val (.int o), .unset, .unset, .unset, .unset, .unset, .unset, .unset, .unset] []))
  refine Go.st (fun _ kt => XS.iloadN X0.here hx rfl (hb hby at_0) rfl kt) ?_
  show Go p e below _ (s₁.setTop (mkF m 1 #[.val (.int i), .val (.int j), .val (.int k), .val (.int o), .unset, .unset, .unset, .unset, .unset, .unset, .unset, .unset] [(.int k)]))
  refine Go.st (fun _ kt => XS.iconst X0.here hx rfl (hb hby at_1) kt) ?_
  show Go p e below _ (s₁.setTop (mkF m 2 #[.val (.int i), .val (.int j), .val (.int k), .val (.int o), .unset, .unset, .unset, .unset, .unset, .unset, .unset, .unset] [(.int (3 : Int32)), (.int k)]))
  refine Go.st (fun _ kt => XS.iand X0.here hx rfl (hb hby at_2) rfl kt) ?_
  show Go p e below _ (s₁.setTop (mkF m 3 #[.val (.int i), .val (.int j), .val (.int k), .val (.int o), .unset, .unset, .unset, .unset, .unset, .unset, .unset, .unset] [(.int (k &&& (3 : Int32)))]))
  have h4_qp := own_and3 k
  generalize hqp : ((k &&& (3 : Int32)) : Int32) = qp
  show Go p e below _ (s₁.setTop (mkF m 3 #[.val (.int i), .val (.int j), .val (.int k), .val (.int o), .unset, .unset, .unset, .unset, .unset, .unset, .unset, .unset] [(.int qp)]))
  rw [hqp] at h4_qp
  rcases h4_qp with rfl | rfl | rfl | rfl
  · show Go p e below _ (s₁.setTop (mkF m 3 #[.val (.int i), .val (.int j), .val (.int k), .val (.int o), .unset, .unset, .unset, .unset, .unset, .unset, .unset, .unset] [(.int (0 : Int32))]))
    refine Go.st (fun _ kt => XS.istore X0.here hx rfl (hb hby at_3) rfl (l' := #[.val (.int i), .val (.int j), .val (.int k), .val (.int o), .val (.int (0 : Int32)), .unset, .unset, .unset, .unset, .unset, .unset, .unset]) rfl kt) ?_
    show Go p e below _ (s₁.setTop (mkF m 5 #[.val (.int i), .val (.int j), .val (.int k), .val (.int o), .val (.int (0 : Int32)), .unset, .unset, .unset, .unset, .unset, .unset, .unset] []))
    refine Go.st (fun _ kt => XS.iloadN X0.here hx rfl (hb hby at_5) rfl kt) ?_
    show Go p e below _ (s₁.setTop (mkF m 6 #[.val (.int i), .val (.int j), .val (.int k), .val (.int o), .val (.int (0 : Int32)), .unset, .unset, .unset, .unset, .unset, .unset, .unset] [(.int o)]))
    refine Go.st (fun _ kt => XS.iconst X0.here hx rfl (hb hby at_6) kt) ?_
    show Go p e below _ (s₁.setTop (mkF m 7 #[.val (.int i), .val (.int j), .val (.int k), .val (.int o), .val (.int (0 : Int32)), .unset, .unset, .unset, .unset, .unset, .unset, .unset] [(.int (3 : Int32)), (.int o)]))
    refine Go.st (fun _ kt => XS.iand X0.here hx rfl (hb hby at_7) rfl kt) ?_
    show Go p e below _ (s₁.setTop (mkF m 8 #[.val (.int i), .val (.int j), .val (.int k), .val (.int o), .val (.int (0 : Int32)), .unset, .unset, .unset, .unset, .unset, .unset, .unset] [(.int (o &&& (3 : Int32)))]))
    have hqe0 := c_and o 3 (by decide)
    have e3 : (3 : Int32).toInt = 3 := by decide
    generalize hqe : ((o &&& (3 : Int32)) : Int32) = qe
    show Go p e below _ (s₁.setTop (mkF m 8 #[.val (.int i), .val (.int j), .val (.int k), .val (.int o), .val (.int (0 : Int32)), .unset, .unset, .unset, .unset, .unset, .unset, .unset] [(.int qe)]))
    rw [hqe, e3] at hqe0
    refine Go.st (fun _ kt => XS.istore X0.here hx rfl (hb hby at_8) rfl (l' := #[.val (.int i), .val (.int j), .val (.int k), .val (.int o), .val (.int (0 : Int32)), .val (.int qe), .unset, .unset, .unset, .unset, .unset, .unset]) rfl kt) ?_
    show Go p e below _ (s₁.setTop (mkF m 10 #[.val (.int i), .val (.int j), .val (.int k), .val (.int o), .val (.int (0 : Int32)), .val (.int qe), .unset, .unset, .unset, .unset, .unset, .unset] []))
    refine Go.st (fun _ kt => XS.iloadN X0.here hx rfl (hb hby at_10) rfl kt) ?_
    show Go p e below _ (s₁.setTop (mkF m 11 #[.val (.int i), .val (.int j), .val (.int k), .val (.int o), .val (.int (0 : Int32)), .val (.int qe), .unset, .unset, .unset, .unset, .unset, .unset] [(.int i)]))
    refine Go.st (fun _ kt => XS.i2c X0.here hx rfl (hb hby at_11) rfl kt) ?_
    show Go p e below _ (s₁.setTop (mkF m 12 #[.val (.int i), .val (.int j), .val (.int k), .val (.int o), .val (.int (0 : Int32)), .val (.int qe), .unset, .unset, .unset, .unset, .unset, .unset] [(.int (i.toUInt32.toUInt16.toUInt32.toInt32))]))
    have hb_c1 := (c_i2c i).2
    generalize hc1 : ((i.toUInt32.toUInt16.toUInt32.toInt32) : Int32) = c1
    show Go p e below _ (s₁.setTop (mkF m 12 #[.val (.int i), .val (.int j), .val (.int k), .val (.int o), .val (.int (0 : Int32)), .val (.int qe), .unset, .unset, .unset, .unset, .unset, .unset] [(.int c1)]))
    rw [hc1] at hb_c1
    refine Go.st (fun _ kt => XS.istore X0.here hx rfl (hb hby at_12) rfl (l' := #[.val (.int i), .val (.int j), .val (.int k), .val (.int o), .val (.int (0 : Int32)), .val (.int qe), .val (.int c1), .unset, .unset, .unset, .unset, .unset]) rfl kt) ?_
    show Go p e below _ (s₁.setTop (mkF m 14 #[.val (.int i), .val (.int j), .val (.int k), .val (.int o), .val (.int (0 : Int32)), .val (.int qe), .val (.int c1), .unset, .unset, .unset, .unset, .unset] []))
    refine Go.st (fun _ kt => XS.iloadN X0.here hx rfl (hb hby at_14) rfl kt) ?_
    show Go p e below _ (s₁.setTop (mkF m 15 #[.val (.int i), .val (.int j), .val (.int k), .val (.int o), .val (.int (0 : Int32)), .val (.int qe), .val (.int c1), .unset, .unset, .unset, .unset, .unset] [(.int j)]))
    refine Go.st (fun _ kt => XS.i2c X0.here hx rfl (hb hby at_15) rfl kt) ?_
    show Go p e below _ (s₁.setTop (mkF m 16 #[.val (.int i), .val (.int j), .val (.int k), .val (.int o), .val (.int (0 : Int32)), .val (.int qe), .val (.int c1), .unset, .unset, .unset, .unset, .unset] [(.int (j.toUInt32.toUInt16.toUInt32.toInt32))]))
    have hb_c2 := (c_i2c j).2
    generalize hc2 : ((j.toUInt32.toUInt16.toUInt32.toInt32) : Int32) = c2
    show Go p e below _ (s₁.setTop (mkF m 16 #[.val (.int i), .val (.int j), .val (.int k), .val (.int o), .val (.int (0 : Int32)), .val (.int qe), .val (.int c1), .unset, .unset, .unset, .unset, .unset] [(.int c2)]))
    rw [hc2] at hb_c2
    refine Go.st (fun _ kt => XS.istore X0.here hx rfl (hb hby at_16) rfl (l' := #[.val (.int i), .val (.int j), .val (.int k), .val (.int o), .val (.int (0 : Int32)), .val (.int qe), .val (.int c1), .val (.int c2), .unset, .unset, .unset, .unset]) rfl kt) ?_
    show Go p e below _ (s₁.setTop (mkF m 18 #[.val (.int i), .val (.int j), .val (.int k), .val (.int o), .val (.int (0 : Int32)), .val (.int qe), .val (.int c1), .val (.int c2), .unset, .unset, .unset, .unset] []))
    refine Go.st (fun _ kt => XS.iconst X0.here hx rfl (hb hby at_18) kt) ?_
    show Go p e below _ (s₁.setTop (mkF m 19 #[.val (.int i), .val (.int j), .val (.int k), .val (.int o), .val (.int (0 : Int32)), .val (.int qe), .val (.int c1), .val (.int c2), .unset, .unset, .unset, .unset] [(.int (3 : Int32))]))
    obtain ⟨T1, h1, k1, X1, e1, E1, A1, Y1, st1⟩ := newPE X0 hx hZ (hw _ (List.mem_of_getElem? (i := 0) rfl)) e0 (g := (mkF m 19 #[.val (.int i), .val (.int j), .val (.int k), .val (.int o), .val (.int (0 : Int32)), .val (.int qe), .val (.int c1), .val (.int c2), .unset, .unset, .unset, .unset] [(.int (3 : Int32))])) rfl (hb hby at_19) rfl (by decide) (cap := 3) (by decide) (by decide) (by decide) (by decide) (ad := "[B") (by decide)
    obtain ⟨b1, g1⟩ : ∃ z, z = h0.size := ⟨_, rfl⟩
    rw [← g1] at A1 Y1 st1
    have gn_b1 : n0 ≤ b1 := Nat.le_trans Z0 (Nat.le_of_eq g1.symm)
    have Zs1 : n0 ≤ h1.size := Nat.le_trans Z0 E1.1
    refine Go.st st1 ?_
    have V1 : Arv Z h1 b1 k1 .byte (3 : Int32) [(.int (0 : Int32)), (.int (0 : Int32)), (.int (0 : Int32))] (.int (0 : Int32)) := (Arv.new A1 (by decide)).pad (pad_rep [] (.int (0 : Int32)) 3)
    show Go p e below _ (T1.setTop (mkF m 21 #[.val (.int i), .val (.int j), .val (.int k), .val (.int o), .val (.int (0 : Int32)), .val (.int qe), .val (.int c1), .val (.int c2), .unset, .unset, .unset, .unset] [(.ref b1)]))
    refine Go.st (fun _ kt => XS.dup X1.here hx rfl (hb hby at_21) rfl rfl kt) ?_
    show Go p e below _ (T1.setTop (mkF m 22 #[.val (.int i), .val (.int j), .val (.int k), .val (.int o), .val (.int (0 : Int32)), .val (.int qe), .val (.int c1), .val (.int c2), .unset, .unset, .unset, .unset] [(.ref b1), (.ref b1)]))
    refine Go.st (fun _ kt => XS.iconst X1.here hx rfl (hb hby at_22) kt) ?_
    show Go p e below _ (T1.setTop (mkF m 23 #[.val (.int i), .val (.int j), .val (.int k), .val (.int o), .val (.int (0 : Int32)), .val (.int qe), .val (.int c1), .val (.int c2), .unset, .unset, .unset, .unset] [(.int (0 : Int32)), (.ref b1), (.ref b1)]))
    refine Go.st (fun _ kt => XS.bipush X1.here hx rfl (hb hby at_23) kt) ?_
    show Go p e below _ (T1.setTop (mkF m 25 #[.val (.int i), .val (.int j), .val (.int k), .val (.int o), .val (.int (0 : Int32)), .val (.int qe), .val (.int c1), .val (.int c2), .unset, .unset, .unset, .unset] [(.int (90 : Int32)), (.int (0 : Int32)), (.ref b1), (.ref b1)]))
    obtain ⟨cl2, Ar2, q2, S2, N2', H2, G2⟩ := id V1
    have hin2 : ¬ ((0 : Int32) < 0 ∨ cl2.slots.size ≤ ((0 : Int32)).toNatClampNeg) := inb_of S2 ⟨by decide, by decide⟩
    obtain ⟨T3, h3, X3, e3, W3, st3⟩ := stB X1 hx hZ e1 Ar2 (j := (0 : Int32)) hin2 (g := (mkF m 25 #[.val (.int i), .val (.int j), .val (.int k), .val (.int o), .val (.int (0 : Int32)), .val (.int qe), .val (.int c1), .val (.int c2), .unset, .unset, .unset, .unset] [(.int (90 : Int32)), (.int (0 : Int32)), (.ref b1), (.ref b1)])) rfl rfl (hb hby at_25)
    refine Go.st st3 ?_
    have V3 : Arv Z h3 b1 k1 .byte (3 : Int32) [(.int (90 : Int32)), (.int (0 : Int32)), (.int (0 : Int32))] (.int (0 : Int32)) := Arv.set Ar2 q2 S2 N2' H2 G2 (fits_nar_byte _) W3 0 rfl (Nat.le_of_ble_eq_true rfl)
    have Zs3 : n0 ≤ h3.size := Nat.le_trans Zs1 (Nat.le_of_eq W3.size.symm)
    have N3 := Fr.snoc X3 N0 gn_b1
    show Go p e below _ (T3.setTop (mkF m 26 #[.val (.int i), .val (.int j), .val (.int k), .val (.int o), .val (.int (0 : Int32)), .val (.int qe), .val (.int c1), .val (.int c2), .unset, .unset, .unset, .unset] [(.ref b1)]))
    refine Go.st (fun _ kt => XS.dup X3.here hx rfl (hb hby at_26) rfl rfl kt) ?_
    show Go p e below _ (T3.setTop (mkF m 27 #[.val (.int i), .val (.int j), .val (.int k), .val (.int o), .val (.int (0 : Int32)), .val (.int qe), .val (.int c1), .val (.int c2), .unset, .unset, .unset, .unset] [(.ref b1), (.ref b1)]))
    refine Go.st (fun _ kt => XS.iconst X3.here hx rfl (hb hby at_27) kt) ?_
    show Go p e below _ (T3.setTop (mkF m 28 #[.val (.int i), .val (.int j), .val (.int k), .val (.int o), .val (.int (0 : Int32)), .val (.int qe), .val (.int c1), .val (.int c2), .unset, .unset, .unset, .unset] [(.int (1 : Int32)), (.ref b1), (.ref b1)]))
    refine Go.st (fun _ kt => XS.bipush X3.here hx rfl (hb hby at_28) kt) ?_
    show Go p e below _ (T3.setTop (mkF m 30 #[.val (.int i), .val (.int j), .val (.int k), .val (.int o), .val (.int (0 : Int32)), .val (.int qe), .val (.int c1), .val (.int c2), .unset, .unset, .unset, .unset] [(.int (-91 : Int32)), (.int (1 : Int32)), (.ref b1), (.ref b1)]))
    obtain ⟨cl4, Ar4, q4, S4, N4', H4, G4⟩ := id V3
    have hin4 : ¬ ((1 : Int32) < 0 ∨ cl4.slots.size ≤ ((1 : Int32)).toNatClampNeg) := inb_of S4 ⟨by decide, by decide⟩
    obtain ⟨T5, h5, X5, e5, W5, st5⟩ := stB X3 hx hZ e3 Ar4 (j := (1 : Int32)) hin4 (g := (mkF m 30 #[.val (.int i), .val (.int j), .val (.int k), .val (.int o), .val (.int (0 : Int32)), .val (.int qe), .val (.int c1), .val (.int c2), .unset, .unset, .unset, .unset] [(.int (-91 : Int32)), (.int (1 : Int32)), (.ref b1), (.ref b1)])) rfl rfl (hb hby at_30)
    refine Go.st st5 ?_
    have V5 : Arv Z h5 b1 k1 .byte (3 : Int32) [(.int (90 : Int32)), (.int (-91 : Int32)), (.int (0 : Int32))] (.int (0 : Int32)) := Arv.set Ar4 q4 S4 N4' H4 G4 (fits_nar_byte _) W5 1 rfl (Nat.le_of_ble_eq_true rfl)
    have Zs5 : n0 ≤ h5.size := Nat.le_trans Zs3 (Nat.le_of_eq W5.size.symm)
    have N5 := Fr.snoc X5 N3 gn_b1
    show Go p e below _ (T5.setTop (mkF m 31 #[.val (.int i), .val (.int j), .val (.int k), .val (.int o), .val (.int (0 : Int32)), .val (.int qe), .val (.int c1), .val (.int c2), .unset, .unset, .unset, .unset] [(.ref b1)]))
    refine Go.st (fun _ kt => XS.dup X5.here hx rfl (hb hby at_31) rfl rfl kt) ?_
    show Go p e below _ (T5.setTop (mkF m 32 #[.val (.int i), .val (.int j), .val (.int k), .val (.int o), .val (.int (0 : Int32)), .val (.int qe), .val (.int c1), .val (.int c2), .unset, .unset, .unset, .unset] [(.ref b1), (.ref b1)]))
    refine Go.st (fun _ kt => XS.iconst X5.here hx rfl (hb hby at_32) kt) ?_
    show Go p e below _ (T5.setTop (mkF m 33 #[.val (.int i), .val (.int j), .val (.int k), .val (.int o), .val (.int (0 : Int32)), .val (.int qe), .val (.int c1), .val (.int c2), .unset, .unset, .unset, .unset] [(.int (2 : Int32)), (.ref b1), (.ref b1)]))
    refine Go.st (fun _ kt => XS.bipush X5.here hx rfl (hb hby at_33) kt) ?_
    show Go p e below _ (T5.setTop (mkF m 35 #[.val (.int i), .val (.int j), .val (.int k), .val (.int o), .val (.int (0 : Int32)), .val (.int qe), .val (.int c1), .val (.int c2), .unset, .unset, .unset, .unset] [(.int (60 : Int32)), (.int (2 : Int32)), (.ref b1), (.ref b1)]))
    obtain ⟨cl6, Ar6, q6, S6, N6', H6, G6⟩ := id V5
    have hin6 : ¬ ((2 : Int32) < 0 ∨ cl6.slots.size ≤ ((2 : Int32)).toNatClampNeg) := inb_of S6 ⟨by decide, by decide⟩
    obtain ⟨T7, h7, X7, e7, W7, st7⟩ := stB X5 hx hZ e5 Ar6 (j := (2 : Int32)) hin6 (g := (mkF m 35 #[.val (.int i), .val (.int j), .val (.int k), .val (.int o), .val (.int (0 : Int32)), .val (.int qe), .val (.int c1), .val (.int c2), .unset, .unset, .unset, .unset] [(.int (60 : Int32)), (.int (2 : Int32)), (.ref b1), (.ref b1)])) rfl rfl (hb hby at_35)
    refine Go.st st7 ?_
    have V7 : Arv Z h7 b1 k1 .byte (3 : Int32) [(.int (90 : Int32)), (.int (-91 : Int32)), (.int (60 : Int32))] (.int (0 : Int32)) := Arv.set Ar6 q6 S6 N6' H6 G6 (fits_nar_byte _) W7 2 rfl (Nat.le_of_ble_eq_true rfl)
    have Zs7 : n0 ≤ h7.size := Nat.le_trans Zs5 (Nat.le_of_eq W7.size.symm)
    have N7 := Fr.snoc X7 N5 gn_b1
    show Go p e below _ (T7.setTop (mkF m 36 #[.val (.int i), .val (.int j), .val (.int k), .val (.int o), .val (.int (0 : Int32)), .val (.int qe), .val (.int c1), .val (.int c2), .unset, .unset, .unset, .unset] [(.ref b1)]))
    refine Go.st (fun _ kt => XS.astore X7.here hx rfl (hb hby at_36) rfl rfl (l' := #[.val (.int i), .val (.int j), .val (.int k), .val (.int o), .val (.int (0 : Int32)), .val (.int qe), .val (.int c1), .val (.int c2), .val (.ref b1), .unset, .unset, .unset]) rfl kt) ?_
    show Go p e below _ (T7.setTop (mkF m 38 #[.val (.int i), .val (.int j), .val (.int k), .val (.int o), .val (.int (0 : Int32)), .val (.int qe), .val (.int c1), .val (.int c2), .val (.ref b1), .unset, .unset, .unset] []))
    obtain ⟨T8, h8, X8, e8, E8, A8, D8, U8, st8⟩ := newO X7 hx hZ hown (hw _ (List.mem_of_getElem? (i := 1) rfl)) (hw _ (List.mem_of_getElem? (i := 2) rfl)) (hw _ (List.mem_of_getElem? (i := 3) rfl)) e7 (g := (mkF m 38 #[.val (.int i), .val (.int j), .val (.int k), .val (.int o), .val (.int (0 : Int32)), .val (.int qe), .val (.int c1), .val (.int c2), .val (.ref b1), .unset, .unset, .unset] [])) rfl (hb hby at_38) (by decide) (by decide)
    obtain ⟨b8, g8⟩ : ∃ z, z = h7.size := ⟨_, rfl⟩
    rw [← g8] at A8 D8 U8 st8
    have f9 := (((Y1.wr W3).wr W5).wr W7)
    have lt_b1_b8 : b1 < b8 := Nat.lt_of_lt_of_eq f9.lt g8.symm
    have gn_b8 : n0 ≤ b8 := Nat.le_trans Zs7 (Nat.le_of_eq g8.symm)
    have Zs8 : n0 ≤ h8.size := Nat.le_trans Zs7 E8.1
    refine Go.st st8 ?_
    have F8_segments : Fld Z h8 b8 "com/example/rowsieve/rowsieve/format/GrowingBytes" "segments" "[[B" .null := D8 (Or.inl (hw _ (List.mem_of_getElem? (i := 13) rfl))) (ty := (.array (.array .byte))) (by decide)
    have F8_bases : Fld Z h8 b8 "com/example/rowsieve/rowsieve/format/GrowingBytes" "bases" "[I" .null := D8 (Or.inl (hw _ (List.mem_of_getElem? (i := 16) rfl))) (ty := (.array .int)) (by decide)
    have F8_firstBytes : Fld Z h8 b8 "com/example/rowsieve/rowsieve/format/GrowingBytes" "firstBytes" "I" (.int (0 : Int32)) := D8 (Or.inr (hw _ (List.mem_of_getElem? (i := 18) rfl))) (ty := .int) (by decide)
    have F8_segmentBytes : Fld Z h8 b8 "com/example/rowsieve/rowsieve/format/GrowingBytes" "segmentBytes" "I" (.int (0 : Int32)) := D8 (Or.inr (hw _ (List.mem_of_getElem? (i := 20) rfl))) (ty := .int) (by decide)
    have F8_last : Fld Z h8 b8 "com/example/rowsieve/rowsieve/format/GrowingBytes" "last" "[B" .null := D8 (Or.inl (hw _ (List.mem_of_getElem? (i := 27) rfl))) (ty := (.array .byte)) (by decide)
    have F8_count : Fld Z h8 b8 "com/example/rowsieve/rowsieve/format/GrowingBytes" "count" "I" (.int (0 : Int32)) := D8 (Or.inl (hw _ (List.mem_of_getElem? (i := 33) rfl))) (ty := .int) (by decide)
    have F8_end : Fld Z h8 b8 "com/example/rowsieve/rowsieve/format/GrowingBytes" "end" "I" (.int (0 : Int32)) := D8 (Or.inl (hw _ (List.mem_of_getElem? (i := 45) rfl))) (ty := .int) (by decide)
    show Go p e below _ (T8.setTop (mkF m 41 #[.val (.int i), .val (.int j), .val (.int k), .val (.int o), .val (.int (0 : Int32)), .val (.int qe), .val (.int c1), .val (.int c2), .val (.ref b1), .unset, .unset, .unset] [(.ref b8)]))
    refine Go.st (fun _ kt => XS.dup X8.here hx rfl (hb hby at_41) rfl rfl kt) ?_
    show Go p e below _ (T8.setTop (mkF m 42 #[.val (.int i), .val (.int j), .val (.int k), .val (.int o), .val (.int (0 : Int32)), .val (.int qe), .val (.int c1), .val (.int c2), .val (.ref b1), .unset, .unset, .unset] [(.ref b8), (.ref b8)]))
    refine Go.st (fun _ kt => XS.iload X8.here hx rfl (hb hby at_42) rfl kt) ?_
    show Go p e below _ (T8.setTop (mkF m 44 #[.val (.int i), .val (.int j), .val (.int k), .val (.int o), .val (.int (0 : Int32)), .val (.int qe), .val (.int c1), .val (.int c2), .val (.ref b1), .unset, .unset, .unset] [(.int (0 : Int32)), (.ref b8), (.ref b8)]))
    refine Go.st (fun _ kt => XS.iconst X8.here hx rfl (hb hby at_44) kt) ?_
    show Go p e below _ (T8.setTop (mkF m 45 #[.val (.int i), .val (.int j), .val (.int k), .val (.int o), .val (.int (0 : Int32)), .val (.int qe), .val (.int c1), .val (.int c2), .val (.ref b1), .unset, .unset, .unset] [(.int (4 : Int32)), (.int (0 : Int32)), (.ref b8), (.ref b8)]))
    refine Go.st (fun _ kt => XS.iadd X8.here hx rfl (hb hby at_45) rfl kt) ?_
    show Go p e below _ (T8.setTop (mkF m 46 #[.val (.int i), .val (.int j), .val (.int k), .val (.int o), .val (.int (0 : Int32)), .val (.int qe), .val (.int c1), .val (.int c2), .val (.ref b1), .unset, .unset, .unset] [(.int (4 : Int32)), (.ref b8), (.ref b8)]))
    refine Go.st (fun _ kt => XS.iload X8.here hx rfl (hb hby at_46) rfl kt) ?_
    show Go p e below _ (T8.setTop (mkF m 48 #[.val (.int i), .val (.int j), .val (.int k), .val (.int o), .val (.int (0 : Int32)), .val (.int qe), .val (.int c1), .val (.int c2), .val (.ref b1), .unset, .unset, .unset] [(.int qe), (.int (4 : Int32)), (.ref b8), (.ref b8)]))
    refine Go.st (fun _ kt => XS.iadd X8.here hx rfl (hb hby at_48) rfl kt) ?_
    show Go p e below _ (T8.setTop (mkF m 49 #[.val (.int i), .val (.int j), .val (.int k), .val (.int o), .val (.int (0 : Int32)), .val (.int qe), .val (.int c1), .val (.int c2), .val (.ref b1), .unset, .unset, .unset] [(.int ((4 : Int32) + qe)), (.ref b8), (.ref b8)]))
    have hs_ := own_sum (4 : Int32) qe hqe0 (by decide)
    generalize hsz : (((4 : Int32) + qe) : Int32) = sz
    show Go p e below _ (T8.setTop (mkF m 49 #[.val (.int i), .val (.int j), .val (.int k), .val (.int o), .val (.int (0 : Int32)), .val (.int qe), .val (.int c1), .val (.int c2), .val (.ref b1), .unset, .unset, .unset] [(.int sz), (.ref b8), (.ref b8)]))
    rw [hsz, (by decide : (4 : Int32).toInt = 4)] at hs_
    have hz : (4 : Int) ≤ sz.toInt ∧ sz.toInt ≤ 7 := by omega
    refine Go.st (fun _ kt => XS.bipush X8.here hx rfl (hb hby at_49) kt) ?_
    show Go p e below _ (T8.setTop (mkF m 51 #[.val (.int i), .val (.int j), .val (.int k), .val (.int o), .val (.int (0 : Int32)), .val (.int qe), .val (.int c1), .val (.int c2), .val (.ref b1), .unset, .unset, .unset] [(.int (64 : Int32)), (.int sz), (.ref b8), (.ref b8)]))
    obtain ⟨_, _, ⟨T10, L10, k10, n10⟩, -, X10, ⟨Lc10, hQ10, l10, y10, z10⟩, st10⟩ := X8.specialBack hx (y := (⟨"com/example/rowsieve/rowsieve/format/GrowingBytes", "<init>", "(II)V"⟩ : MethodName)) rfl hown (mvT hZ (hw _ (List.mem_of_getElem? (i := 4) rfl))) (mvT hZ (hw _ (List.mem_of_getElem? (i := 5) rfl))) (mvT hZ (hw _ (List.mem_of_getElem? (i := 6) rfl))) (by decide) (backOf (W := 1) (rm1 l Z a0 hw [] b8 sz (64 : Int32) h8 n0 Zs8 A8 F8_segments F8_bases F8_last F8_firstBytes F8_segmentBytes F8_end F8_count gn_b8) hZ (hw _ (List.mem_of_getElem? (i := 6) rfl)) (hw _ (List.mem_of_getElem? (i := 3) rfl)) (by decide) (by decide)) (g := (mkF m 51 #[.val (.int i), .val (.int j), .val (.int k), .val (.int o), .val (.int (0 : Int32)), .val (.int qe), .val (.int c1), .val (.int c2), .val (.ref b1), .unset, .unset, .unset] [(.int (64 : Int32)), (.int sz), (.ref b8), (.ref b8)])) rfl (by rw [hml]; rfl) (Steps.refl _) (a := b8) (argsL := [(.int sz), (.int (64 : Int32))]) (rest := [(.ref b8)]) (lenOf own_pd5 rfl) rfl (by show 2 * 0 + _ ≤ _; exact Nat.le_of_eq rfl) (hb hby at_51) (fun _ _ => ⟨rfl, e8, (by decide : 2 + 2 ≤ _), (by decide : 10 + 8 ≤ _)⟩)
    dsimp only [Pt.U, Pt.locs, Pt.cells, Pt.slots] at X10 l10 y10 z10 st10 hQ10
    subst l10 y10 z10
    obtain ⟨sg10, ks10, bs10, kb10, rfl, N10q, K10q, hs10, ht10, nsb10, O10, G10_0, G10_1, G10_2, G10_3, G10_4, G10_5, G10_6, G10_7, G10_8⟩ := hQ10
    have f11 := (f9.ext E8)
    have lt_b1_sg10 : b1 < sg10 := Nat.lt_of_lt_of_le f11.lt hs10
    have lt_b8_sg10 : b8 < sg10 := Nat.lt_of_lt_of_le A8.lt hs10
    have gn_sg10 : n0 ≤ sg10 := Nat.le_trans Zs8 hs10
    have lt_b1_bs10 : b1 < bs10 := Nat.lt_of_lt_of_le f11.lt ht10
    have lt_b8_bs10 : b8 < bs10 := Nat.lt_of_lt_of_le A8.lt ht10
    have gn_bs10 : n0 ≤ bs10 := Nat.le_trans Zs8 ht10
    have Zs10 : n0 ≤ T10.heap.size := Nat.le_trans Zs8 K10q.1
    have N10 := Fr.app N7 N10q
    refine Go.tr st10 ?_
    show Go p e below _ (T10.setTop (mkF m 54 #[.val (.int i), .val (.int j), .val (.int k), .val (.int o), .val (.int (0 : Int32)), .val (.int qe), .val (.int c1), .val (.int c2), .val (.ref b1), .unset, .unset, .unset] [(.ref b8)]))
    refine Go.st (fun _ kt => XS.astore X10.here hx rfl (hb hby at_54) rfl rfl (l' := #[.val (.int i), .val (.int j), .val (.int k), .val (.int o), .val (.int (0 : Int32)), .val (.int qe), .val (.int c1), .val (.int c2), .val (.ref b1), .val (.ref b8), .unset, .unset]) rfl kt) ?_
    show Go p e below _ (T10.setTop (mkF m 56 #[.val (.int i), .val (.int j), .val (.int k), .val (.int o), .val (.int (0 : Int32)), .val (.int qe), .val (.int c1), .val (.int c2), .val (.ref b1), .val (.ref b8), .unset, .unset] []))
    refine Go.st (fun _ kt => XS.aload X10.here hx rfl (hb hby at_56) rfl rfl kt) ?_
    show Go p e below _ (T10.setTop (mkF m 58 #[.val (.int i), .val (.int j), .val (.int k), .val (.int o), .val (.int (0 : Int32)), .val (.int qe), .val (.int c1), .val (.int c2), .val (.ref b1), .val (.ref b8), .unset, .unset] [(.ref b8)]))
    refine Go.st (fun _ kt => XS.iload X10.here hx rfl (hb hby at_58) rfl kt) ?_
    show Go p e below _ (T10.setTop (mkF m 60 #[.val (.int i), .val (.int j), .val (.int k), .val (.int o), .val (.int (0 : Int32)), .val (.int qe), .val (.int c1), .val (.int c2), .val (.ref b1), .val (.ref b8), .unset, .unset] [(.int (0 : Int32)), (.ref b8)]))
    refine Go.st (fun _ kt => XS.iconst X10.here hx rfl (hb hby at_60) kt) ?_
    show Go p e below _ (T10.setTop (mkF m 61 #[.val (.int i), .val (.int j), .val (.int k), .val (.int o), .val (.int (0 : Int32)), .val (.int qe), .val (.int c1), .val (.int c2), .val (.ref b1), .val (.ref b8), .unset, .unset] [(.int (4 : Int32)), (.int (0 : Int32)), (.ref b8)]))
    refine Go.st (fun _ kt => XS.iadd X10.here hx rfl (hb hby at_61) rfl kt) ?_
    show Go p e below _ (T10.setTop (mkF m 62 #[.val (.int i), .val (.int j), .val (.int k), .val (.int o), .val (.int (0 : Int32)), .val (.int qe), .val (.int c1), .val (.int c2), .val (.ref b1), .val (.ref b8), .unset, .unset] [(.int (4 : Int32)), (.ref b8)]))
    have f12 := (A8.keep K10q)
    obtain ⟨cq13, kq13, q13a, q13b, q13c⟩ := isOf hZ rfl f12
    obtain ⟨_, _, ⟨T13, L13, k13, n13⟩, -, X13, ⟨Lc13, hQ13, l13, y13, z13⟩, st13⟩ := X10.virtualBack hx (y := (⟨"com/example/rowsieve/rowsieve/format/GrowingBytes", "makeRoom", "(I)V"⟩ : MethodName)) (z := (⟨"com/example/rowsieve/rowsieve/format/GrowingBytes", "makeRoom", "(I)V"⟩ : MethodName)) hown (mvT hZ (hw _ (List.mem_of_getElem? (i := 21) rfl))) (mvT hZ (hw _ (List.mem_of_getElem? (i := 22) rfl))) (notFace_of_selects (args := #[]) (mvT hZ (hw _ (List.mem_of_getElem? (i := 24) rfl)))) (mvT hZ (hw _ (List.mem_of_getElem? (i := 24) rfl))) (mvT hZ (hw _ (List.mem_of_getElem? (i := 23) rfl))) (by decide) (backOf (W := 0) (rm3 l Z a0 hw [] b8 (4 : Int32) sg10 ks10 bs10 kb10 sz (64 : Int32) sz T10.heap n0 Zs10 f12 G10_0 G10_1 G10_2 G10_3 G10_4 G10_5 G10_6 G10_7 G10_8 O10 gn_b8 gn_sg10 gn_bs10 nsb10 (Nat.ne_of_lt lt_b8_sg10) (Nat.ne_of_lt lt_b8_bs10) (own_maxR hz.1) (by omega) (by omega)) hZ (hw _ (List.mem_of_getElem? (i := 25) rfl)) (hw _ (List.mem_of_getElem? (i := 3) rfl)) (by decide) (by decide)) q13a q13c (g := (mkF m 62 #[.val (.int i), .val (.int j), .val (.int k), .val (.int o), .val (.int (0 : Int32)), .val (.int qe), .val (.int c1), .val (.int c2), .val (.ref b1), .val (.ref b8), .unset, .unset] [(.int (4 : Int32)), (.ref b8)])) rfl (by rw [hml]; rfl) (Steps.refl _) (argsL := [(.int (4 : Int32))]) (rest := []) (lenOf own_pd3 rfl) rfl (by show 2 * 0 + _ ≤ _; exact Nat.le_of_eq rfl) (hb hby at_62) (fun _ _ => ⟨rfl, rfl, (by decide : 4 + 1 ≤ _), (by decide : 18 + 16 ≤ _)⟩)
    dsimp only [Pt.U, Pt.locs, Pt.cells, Pt.slots] at X13 l13 y13 z13 st13 hQ13
    subst l13 y13 z13
    obtain ⟨la13, kl13, rfl, N13q, K13q, hs13, G13_0, G13_1, G13_2, G13_3, G13_4, G13_5, G13_6, G13_7⟩ := hQ13
    have f14 := (f11.keep K10q)
    have lt_b1_la13 : b1 < la13 := Nat.lt_of_lt_of_le f14.lt hs13
    have lt_b8_la13 : b8 < la13 := Nat.lt_of_lt_of_le f12.lt hs13
    have lt_sg10_la13 : sg10 < la13 := Nat.lt_of_lt_of_le G10_7.lt hs13
    have lt_bs10_la13 : bs10 < la13 := Nat.lt_of_lt_of_le G10_8.lt hs13
    have gn_la13 : n0 ≤ la13 := Nat.le_trans Zs10 hs13
    have Zs13 : n0 ≤ T13.heap.size := Nat.le_trans Zs10 K13q.1
    have N13 := Fr.app N10 N13q
    have VL13 : Arv Z T13.heap la13 kl13 .byte sz [(.int (0 : Int32)), (.int (0 : Int32)), (.int (0 : Int32)), (.int (0 : Int32))] (.int (0 : Int32)) := G13_7.pad (pad_rep [] (.int (0 : Int32)) 4)
    refine Go.tr st13 ?_
    show Go p e below _ (T13.setTop (mkF m 65 #[.val (.int i), .val (.int j), .val (.int k), .val (.int o), .val (.int (0 : Int32)), .val (.int qe), .val (.int c1), .val (.int c2), .val (.ref b1), .val (.ref b8), .unset, .unset] []))
    refine Go.st (fun _ kt => XS.aload X13.here hx rfl (hb hby at_65) rfl rfl kt) ?_
    show Go p e below _ (T13.setTop (mkF m 67 #[.val (.int i), .val (.int j), .val (.int k), .val (.int o), .val (.int (0 : Int32)), .val (.int qe), .val (.int c1), .val (.int c2), .val (.ref b1), .val (.ref b8), .unset, .unset] [(.ref b8)]))
    refine Go.st (fun _ kt => XS.aload X13.here hx rfl (hb hby at_67) rfl rfl kt) ?_
    show Go p e below _ (T13.setTop (mkF m 69 #[.val (.int i), .val (.int j), .val (.int k), .val (.int o), .val (.int (0 : Int32)), .val (.int qe), .val (.int c1), .val (.int c2), .val (.ref b1), .val (.ref b8), .unset, .unset] [(.ref b1), (.ref b8)]))
    refine Go.st (fun _ kt => XS.iconst X13.here hx rfl (hb hby at_69) kt) ?_
    show Go p e below _ (T13.setTop (mkF m 70 #[.val (.int i), .val (.int j), .val (.int k), .val (.int o), .val (.int (0 : Int32)), .val (.int qe), .val (.int c1), .val (.int c2), .val (.ref b1), .val (.ref b8), .unset, .unset] [(.int (0 : Int32)), (.ref b1), (.ref b8)]))
    refine Go.st (fun _ kt => XS.iload X13.here hx rfl (hb hby at_70) rfl kt) ?_
    show Go p e below _ (T13.setTop (mkF m 72 #[.val (.int i), .val (.int j), .val (.int k), .val (.int o), .val (.int (0 : Int32)), .val (.int qe), .val (.int c1), .val (.int c2), .val (.ref b1), .val (.ref b8), .unset, .unset] [(.int (0 : Int32)), (.int (0 : Int32)), (.ref b1), (.ref b8)]))
    have f15 := (f12.keep K13q)
    have f16 := (((V7.ext E8).keep K10q (ninS (Nat.ne_of_lt lt_b1_b8) nin0)).keep K13q (ninS (Nat.ne_of_lt lt_b1_b8) (ninS (Nat.ne_of_lt lt_b1_sg10) (ninS (Nat.ne_of_lt lt_b1_bs10) nin0))))
    obtain ⟨cq17, kq17, q17a, q17b, q17c⟩ := isOf hZ rfl f15
    obtain ⟨_, _, ⟨T17, L17, k17, n17⟩, -, X17, ⟨Lc17, hQ17, l17, y17, z17⟩, st17⟩ := X13.virtualBack hx (y := (⟨"com/example/rowsieve/rowsieve/format/GrowingBytes", "put", "([BII)V"⟩ : MethodName)) (z := (⟨"com/example/rowsieve/rowsieve/format/GrowingBytes", "put", "([BII)V"⟩ : MethodName)) hown (mvT hZ (hw _ (List.mem_of_getElem? (i := 46) rfl))) (mvT hZ (hw _ (List.mem_of_getElem? (i := 47) rfl))) (notFace_of_selects (args := #[]) (mvT hZ (hw _ (List.mem_of_getElem? (i := 49) rfl)))) (mvT hZ (hw _ (List.mem_of_getElem? (i := 49) rfl))) (mvT hZ (hw _ (List.mem_of_getElem? (i := 48) rfl))) (by decide) (backOf (W := 0) (rm7 l Z a0 hw [] b8 b1 (0 : Int32) la13 kl13 sz [(.int (0 : Int32)), (.int (0 : Int32)), (.int (0 : Int32)), (.int (0 : Int32))] [(.int (0 : Int32)), (.int (0 : Int32)), (.int (0 : Int32)), (.int (0 : Int32))] sg10 bs10 k1 [(.int (90 : Int32)), (.int (-91 : Int32)), (.int (60 : Int32))] (0 : Int32) T13.heap n0 Zs13 f15 G13_0 G13_1 G13_2 G13_4 G13_3 VL13 f16 gn_b8 gn_la13 (Nat.ne_of_lt lt_b8_la13) (Nat.ne_of_lt lt_b1_la13) (Nat.ne_of_lt lt_b1_b8) (by decide) (by decide) (own_natl (n := 0) (by omega)) (by decide) rfl rfl) hZ (hw _ (List.mem_of_getElem? (i := 50) rfl)) (hw _ (List.mem_of_getElem? (i := 3) rfl)) (by decide) (by decide)) q17a q17c (g := (mkF m 72 #[.val (.int i), .val (.int j), .val (.int k), .val (.int o), .val (.int (0 : Int32)), .val (.int qe), .val (.int c1), .val (.int c2), .val (.ref b1), .val (.ref b8), .unset, .unset] [(.int (0 : Int32)), (.int (0 : Int32)), (.ref b1), (.ref b8)])) rfl (by rw [hml]; rfl) (Steps.refl _) (argsL := [(.ref b1), (.int (0 : Int32)), (.int (0 : Int32))]) (rest := []) (lenOf own_pd6 rfl) rfl (by show 2 * 0 + _ ≤ _; exact Nat.le_of_eq rfl) (hb hby at_72) (fun _ _ => ⟨rfl, rfl, (by decide : 5 + 0 ≤ _), (by decide : 34 + 0 ≤ _)⟩)
    dsimp only [Pt.U, Pt.locs, Pt.cells, Pt.slots] at X17 l17 y17 z17 st17 hQ17
    subst l17 y17 z17
    obtain ⟨rfl, N17q, K17q, G17_0, G17_1, G17_2, G17_3, G17_4, G17_5⟩ := hQ17
    have Zs17 : n0 ≤ T17.heap.size := Nat.le_trans Zs13 K17q.1
    have N17 := Fr.app N13 N17q
    refine Go.tr st17 ?_
    show Go p e below _ (T17.setTop (mkF m 75 #[.val (.int i), .val (.int j), .val (.int k), .val (.int o), .val (.int (0 : Int32)), .val (.int qe), .val (.int c1), .val (.int c2), .val (.ref b1), .val (.ref b8), .unset, .unset] []))
    refine Go.st (fun _ kt => XS.aload X17.here hx rfl (hb hby at_75) rfl rfl kt) ?_
    show Go p e below _ (T17.setTop (mkF m 77 #[.val (.int i), .val (.int j), .val (.int k), .val (.int o), .val (.int (0 : Int32)), .val (.int qe), .val (.int c1), .val (.int c2), .val (.ref b1), .val (.ref b8), .unset, .unset] [(.ref b8)]))
    refine Go.st (fun _ kt => XS.iload X17.here hx rfl (hb hby at_77) rfl kt) ?_
    show Go p e below _ (T17.setTop (mkF m 79 #[.val (.int i), .val (.int j), .val (.int k), .val (.int o), .val (.int (0 : Int32)), .val (.int qe), .val (.int c1), .val (.int c2), .val (.ref b1), .val (.ref b8), .unset, .unset] [(.int c1), (.ref b8)]))
    have f18 := (f15.keep K17q)
    obtain ⟨cq19, kq19, q19a, q19b, q19c⟩ := isOf hZ rfl f18
    obtain ⟨_, _, ⟨T19, L19, k19, n19⟩, -, X19, ⟨Lc19, hQ19, l19, y19, z19⟩, st19⟩ := X17.virtualBack hx (y := (⟨"com/example/rowsieve/rowsieve/format/GrowingBytes", "putLittleEndian", "(C)V"⟩ : MethodName)) (z := (⟨"com/example/rowsieve/rowsieve/format/GrowingBytes", "putLittleEndian", "(C)V"⟩ : MethodName)) hown (mvT hZ (hw _ (List.mem_of_getElem? (i := 55) rfl))) (mvT hZ (hw _ (List.mem_of_getElem? (i := 56) rfl))) (notFace_of_selects (args := #[]) (mvT hZ (hw _ (List.mem_of_getElem? (i := 58) rfl)))) (mvT hZ (hw _ (List.mem_of_getElem? (i := 58) rfl))) (mvT hZ (hw _ (List.mem_of_getElem? (i := 57) rfl))) (by decide) (backOf (W := 0) (rm8 l Z a0 hw [] b8 c1 la13 kl13 sz [(.int (0 : Int32)), (.int (0 : Int32)), (.int (0 : Int32)), (.int (0 : Int32))] [(.int ((c1.toInt8.toInt32).toInt8.toInt32)), (.int ((((c1.toUInt32 >>> ((8 : Int32) &&& 31).toUInt32).toInt32).toInt8.toInt32).toInt8.toInt32)), (.int (0 : Int32)), (.int (0 : Int32))] sg10 bs10 (0 : Int32) (2 : Int32) T17.heap n0 Zs17 f18 G17_0 G17_1 G17_2 G17_3 G17_4 G17_5 gn_b8 gn_la13 (Nat.ne_of_lt lt_b8_la13) (own_lit hz.1 (by decide)) (own_lit hz.1 (by decide)) (Nat.le_of_ble_eq_true rfl) (Nat.le_of_ble_eq_true rfl) rfl (by decide)) hZ (hw _ (List.mem_of_getElem? (i := 59) rfl)) (hw _ (List.mem_of_getElem? (i := 3) rfl)) (by decide) (by decide)) q19a q19c (g := (mkF m 79 #[.val (.int i), .val (.int j), .val (.int k), .val (.int o), .val (.int (0 : Int32)), .val (.int qe), .val (.int c1), .val (.int c2), .val (.ref b1), .val (.ref b8), .unset, .unset] [(.int c1), (.ref b8)])) rfl (by rw [hml]; rfl) (Steps.refl _) (argsL := [(.int c1)]) (rest := []) (lenOf own_pd7 rfl) rfl (by show 2 * 0 + _ ≤ _; exact Nat.le_of_eq rfl) (hb hby at_79) (fun _ _ => ⟨rfl, rfl, (by decide : 5 + 0 ≤ _), (by decide : 34 + 0 ≤ _)⟩)
    dsimp only [Pt.U, Pt.locs, Pt.cells, Pt.slots] at X19 l19 y19 z19 st19 hQ19
    subst l19 y19 z19
    obtain ⟨rfl, N19q, K19q, G19_0, G19_1, G19_2, G19_3, G19_4, G19_5⟩ := hQ19
    have Zs19 : n0 ≤ T19.heap.size := Nat.le_trans Zs17 K19q.1
    have N19 := Fr.app N17 N19q
    refine Go.tr st19 ?_
    show Go p e below _ (T19.setTop (mkF m 82 #[.val (.int i), .val (.int j), .val (.int k), .val (.int o), .val (.int (0 : Int32)), .val (.int qe), .val (.int c1), .val (.int c2), .val (.ref b1), .val (.ref b8), .unset, .unset] []))
    refine Go.st (fun _ kt => XS.aload X19.here hx rfl (hb hby at_82) rfl rfl kt) ?_
    show Go p e below _ (T19.setTop (mkF m 84 #[.val (.int i), .val (.int j), .val (.int k), .val (.int o), .val (.int (0 : Int32)), .val (.int qe), .val (.int c1), .val (.int c2), .val (.ref b1), .val (.ref b8), .unset, .unset] [(.ref b8)]))
    have f20 := ((G13_6.keep K17q (ninS (Nat.ne_of_gt lt_b8_bs10) (ninS (Nat.ne_of_lt lt_bs10_la13) nin0))).keep K19q (ninS (Nat.ne_of_gt lt_b8_bs10) (ninS (Nat.ne_of_lt lt_bs10_la13) nin0)))
    have f22 := (f18.keep K19q)
    obtain ⟨cq21, kq21, q21a, q21b, q21c⟩ := isOf hZ rfl f22
    obtain ⟨_, _, ⟨T21, L21, k21, n21⟩, -, X21, ⟨Lc21, hQ21, l21, y21, z21⟩, st21⟩ := X19.virtualBack hx (y := (⟨"com/example/rowsieve/rowsieve/format/GrowingBytes", "length", "()I"⟩ : MethodName)) (z := (⟨"com/example/rowsieve/rowsieve/format/GrowingBytes", "length", "()I"⟩ : MethodName)) hown (mvT hZ (hw _ (List.mem_of_getElem? (i := 60) rfl))) (mvT hZ (hw _ (List.mem_of_getElem? (i := 35) rfl))) (notFace_of_selects (args := #[]) (mvT hZ (hw _ (List.mem_of_getElem? (i := 37) rfl)))) (mvT hZ (hw _ (List.mem_of_getElem? (i := 37) rfl))) (mvT hZ (hw _ (List.mem_of_getElem? (i := 36) rfl))) (by decide) (backOf (W := 0) (rm5_1 l Z a0 hw [] b8 bs10 kb10 (2 : Int32) (2 : Int32) T19.heap n0 Zs19 G19_3 G19_1 G19_4 f20 (by decide)) hZ (hw _ (List.mem_of_getElem? (i := 38) rfl)) (hw _ (List.mem_of_getElem? (i := 3) rfl)) (by decide) (by decide)) q21a q21c (g := (mkF m 84 #[.val (.int i), .val (.int j), .val (.int k), .val (.int o), .val (.int (0 : Int32)), .val (.int qe), .val (.int c1), .val (.int c2), .val (.ref b1), .val (.ref b8), .unset, .unset] [(.ref b8)])) rfl (by rw [hml]; rfl) (Steps.refl _) (argsL := []) (rest := []) (lenOf own_pd1 rfl) rfl (by show 2 * 0 + _ ≤ _; exact Nat.le_of_eq rfl) (hb hby at_84) (fun _ _ => ⟨rfl, rfl, (by decide : 5 + 0 ≤ _), (by decide : 34 + 0 ≤ _)⟩)
    dsimp only [Pt.U, Pt.locs, Pt.cells, Pt.slots] at X21 l21 y21 z21 st21 hQ21
    subst l21 y21 z21
    obtain ⟨rfl, N21q, e21⟩ := hQ21
    have N21 := Fr.app N19 N21q
    refine Go.tr st21 ?_
    show Go p e below _ (T21.setTop (mkF m 87 #[.val (.int i), .val (.int j), .val (.int k), .val (.int o), .val (.int (0 : Int32)), .val (.int qe), .val (.int c1), .val (.int c2), .val (.ref b1), .val (.ref b8), .unset, .unset] [(.int (2 : Int32))]))
    refine Go.st (fun _ kt => XS.istore X21.here hx rfl (hb hby at_87) rfl (l' := #[.val (.int i), .val (.int j), .val (.int k), .val (.int o), .val (.int (0 : Int32)), .val (.int qe), .val (.int c1), .val (.int c2), .val (.ref b1), .val (.ref b8), .val (.int (2 : Int32)), .unset]) rfl kt) ?_
    show Go p e below _ (T21.setTop (mkF m 89 #[.val (.int i), .val (.int j), .val (.int k), .val (.int o), .val (.int (0 : Int32)), .val (.int qe), .val (.int c1), .val (.int c2), .val (.ref b1), .val (.ref b8), .val (.int (2 : Int32)), .unset] []))
    refine Go.st (fun _ kt => XS.aload X21.here hx rfl (hb hby at_89) rfl rfl kt) ?_
    show Go p e below _ (T21.setTop (mkF m 91 #[.val (.int i), .val (.int j), .val (.int k), .val (.int o), .val (.int (0 : Int32)), .val (.int qe), .val (.int c1), .val (.int c2), .val (.ref b1), .val (.ref b8), .val (.int (2 : Int32)), .unset] [(.ref b8)]))
    refine Go.st (fun _ kt => XS.iload X21.here hx rfl (hb hby at_91) rfl kt) ?_
    show Go p e below _ (T21.setTop (mkF m 93 #[.val (.int i), .val (.int j), .val (.int k), .val (.int o), .val (.int (0 : Int32)), .val (.int qe), .val (.int c1), .val (.int c2), .val (.ref b1), .val (.ref b8), .val (.int (2 : Int32)), .unset] [(.int c2), (.ref b8)]))
    obtain ⟨cq23, kq23, q23a, q23b, q23c⟩ := isOf hZ e21 f22
    obtain ⟨_, _, ⟨T23, L23, k23, n23⟩, -, X23, ⟨Lc23, hQ23, l23, y23, z23⟩, st23⟩ := X21.virtualBack hx (y := (⟨"com/example/rowsieve/rowsieve/format/GrowingBytes", "putLittleEndian", "(C)V"⟩ : MethodName)) (z := (⟨"com/example/rowsieve/rowsieve/format/GrowingBytes", "putLittleEndian", "(C)V"⟩ : MethodName)) hown (mvT hZ (hw _ (List.mem_of_getElem? (i := 55) rfl))) (mvT hZ (hw _ (List.mem_of_getElem? (i := 56) rfl))) (notFace_of_selects (args := #[]) (mvT hZ (hw _ (List.mem_of_getElem? (i := 58) rfl)))) (mvT hZ (hw _ (List.mem_of_getElem? (i := 58) rfl))) (mvT hZ (hw _ (List.mem_of_getElem? (i := 57) rfl))) (by decide) (backOf (W := 0) (rm8 l Z a0 hw [] b8 c2 la13 kl13 sz [(.int ((c1.toInt8.toInt32).toInt8.toInt32)), (.int ((((c1.toUInt32 >>> ((8 : Int32) &&& 31).toUInt32).toInt32).toInt8.toInt32).toInt8.toInt32)), (.int (0 : Int32)), (.int (0 : Int32))] [(.int ((c1.toInt8.toInt32).toInt8.toInt32)), (.int ((((c1.toUInt32 >>> ((8 : Int32) &&& 31).toUInt32).toInt32).toInt8.toInt32).toInt8.toInt32)), (.int ((c2.toInt8.toInt32).toInt8.toInt32)), (.int ((((c2.toUInt32 >>> ((8 : Int32) &&& 31).toUInt32).toInt32).toInt8.toInt32).toInt8.toInt32))] sg10 bs10 (2 : Int32) (4 : Int32) T19.heap n0 Zs19 f22 G19_0 G19_1 G19_2 G19_3 G19_4 G19_5 gn_b8 gn_la13 (Nat.ne_of_lt lt_b8_la13) (own_lit hz.1 (by decide)) (own_lit hz.1 (by decide)) (Nat.le_of_ble_eq_true rfl) (Nat.le_of_ble_eq_true rfl) rfl (by decide)) hZ (hw _ (List.mem_of_getElem? (i := 59) rfl)) (hw _ (List.mem_of_getElem? (i := 3) rfl)) (by decide) (by decide)) q23a q23c (g := (mkF m 93 #[.val (.int i), .val (.int j), .val (.int k), .val (.int o), .val (.int (0 : Int32)), .val (.int qe), .val (.int c1), .val (.int c2), .val (.ref b1), .val (.ref b8), .val (.int (2 : Int32)), .unset] [(.int c2), (.ref b8)])) rfl (by rw [hml]; rfl) (Steps.refl _) (argsL := [(.int c2)]) (rest := []) (lenOf own_pd7 rfl) rfl (by show 2 * 0 + _ ≤ _; exact Nat.le_of_eq rfl) (hb hby at_93) (fun _ _ => ⟨rfl, e21, (by decide : 5 + 0 ≤ _), (by decide : 34 + 0 ≤ _)⟩)
    dsimp only [Pt.U, Pt.locs, Pt.cells, Pt.slots] at X23 l23 y23 z23 st23 hQ23
    subst l23 y23 z23
    obtain ⟨rfl, N23q, K23q, G23_0, G23_1, G23_2, G23_3, G23_4, G23_5⟩ := hQ23
    have Zs23 : n0 ≤ T23.heap.size := Nat.le_trans Zs19 K23q.1
    have N23 := Fr.app N21 N23q
    refine Go.tr st23 ?_
    show Go p e below _ (T23.setTop (mkF m 96 #[.val (.int i), .val (.int j), .val (.int k), .val (.int o), .val (.int (0 : Int32)), .val (.int qe), .val (.int c1), .val (.int c2), .val (.ref b1), .val (.ref b8), .val (.int (2 : Int32)), .unset] []))
    refine Go.st (fun _ kt => XS.aload X23.here hx rfl (hb hby at_96) rfl rfl kt) ?_
    show Go p e below _ (T23.setTop (mkF m 98 #[.val (.int i), .val (.int j), .val (.int k), .val (.int o), .val (.int (0 : Int32)), .val (.int qe), .val (.int c1), .val (.int c2), .val (.ref b1), .val (.ref b8), .val (.int (2 : Int32)), .unset] [(.ref b8)]))
    have f25 := (f22.keep K23q)
    obtain ⟨cq24, kq24, q24a, q24b, q24c⟩ := isOf hZ rfl f25
    obtain ⟨_, _, ⟨T24, L24, k24, n24⟩, -, X24, ⟨Lc24, hQ24, l24, y24, z24⟩, st24⟩ := X23.virtualBack hx (y := (⟨"com/example/rowsieve/rowsieve/format/GrowingBytes", "segmentCount", "()I"⟩ : MethodName)) (z := (⟨"com/example/rowsieve/rowsieve/format/GrowingBytes", "segmentCount", "()I"⟩ : MethodName)) hown (mvT hZ (hw _ (List.mem_of_getElem? (i := 61) rfl))) (mvT hZ (hw _ (List.mem_of_getElem? (i := 62) rfl))) (notFace_of_selects (args := #[]) (mvT hZ (hw _ (List.mem_of_getElem? (i := 64) rfl)))) (mvT hZ (hw _ (List.mem_of_getElem? (i := 64) rfl))) (mvT hZ (hw _ (List.mem_of_getElem? (i := 63) rfl))) (by decide) (backOf (W := 0) (rm9 l Z a0 hw [] b8 (1 : Int32) T23.heap n0 Zs23 G23_3) hZ (hw _ (List.mem_of_getElem? (i := 65) rfl)) (hw _ (List.mem_of_getElem? (i := 3) rfl)) (by decide) (by decide)) q24a q24c (g := (mkF m 98 #[.val (.int i), .val (.int j), .val (.int k), .val (.int o), .val (.int (0 : Int32)), .val (.int qe), .val (.int c1), .val (.int c2), .val (.ref b1), .val (.ref b8), .val (.int (2 : Int32)), .unset] [(.ref b8)])) rfl (by rw [hml]; rfl) (Steps.refl _) (argsL := []) (rest := []) (lenOf own_pd1 rfl) rfl (by show 2 * 0 + _ ≤ _; exact Nat.le_of_eq rfl) (hb hby at_98) (fun _ _ => ⟨rfl, rfl, (by decide : 5 + 0 ≤ _), (by decide : 34 + 0 ≤ _)⟩)
    dsimp only [Pt.U, Pt.locs, Pt.cells, Pt.slots] at X24 l24 y24 z24 st24 hQ24
    subst l24 y24 z24
    obtain ⟨rfl, N24q, e24⟩ := hQ24
    have N24 := Fr.app N23 N24q
    refine Go.tr st24 ?_
    show Go p e below _ (T24.setTop (mkF m 101 #[.val (.int i), .val (.int j), .val (.int k), .val (.int o), .val (.int (0 : Int32)), .val (.int qe), .val (.int c1), .val (.int c2), .val (.ref b1), .val (.ref b8), .val (.int (2 : Int32)), .unset] [(.int (1 : Int32))]))
    refine Go.st (fun _ kt => XS.iconst X24.here hx rfl (hb hby at_101) kt) ?_
    show Go p e below _ (T24.setTop (mkF m 102 #[.val (.int i), .val (.int j), .val (.int k), .val (.int o), .val (.int (0 : Int32)), .val (.int qe), .val (.int c1), .val (.int c2), .val (.ref b1), .val (.ref b8), .val (.int (2 : Int32)), .unset] [(.int (1 : Int32)), (.int (1 : Int32))]))
    refine Go.st (fun _ kt => XS.icmpNo X24.here hx rfl (hb hby at_102) rfl (teq (by decide : (1 : Int32) = (1 : Int32))).2 kt) ?_
    show Go p e below _ (T24.setTop (mkF m 105 #[.val (.int i), .val (.int j), .val (.int k), .val (.int o), .val (.int (0 : Int32)), .val (.int qe), .val (.int c1), .val (.int c2), .val (.ref b1), .val (.ref b8), .val (.int (2 : Int32)), .unset] []))
    refine Go.st (fun _ kt => XS.iload X24.here hx rfl (hb hby at_105) rfl kt) ?_
    show Go p e below _ (T24.setTop (mkF m 107 #[.val (.int i), .val (.int j), .val (.int k), .val (.int o), .val (.int (0 : Int32)), .val (.int qe), .val (.int c1), .val (.int c2), .val (.ref b1), .val (.ref b8), .val (.int (2 : Int32)), .unset] [(.int (2 : Int32))]))
    refine Go.st (fun _ kt => XS.iload X24.here hx rfl (hb hby at_107) rfl kt) ?_
    show Go p e below _ (T24.setTop (mkF m 109 #[.val (.int i), .val (.int j), .val (.int k), .val (.int o), .val (.int (0 : Int32)), .val (.int qe), .val (.int c1), .val (.int c2), .val (.ref b1), .val (.ref b8), .val (.int (2 : Int32)), .unset] [(.int (0 : Int32)), (.int (2 : Int32))]))
    refine Go.st (fun _ kt => XS.iconst X24.here hx rfl (hb hby at_109) kt) ?_
    show Go p e below _ (T24.setTop (mkF m 110 #[.val (.int i), .val (.int j), .val (.int k), .val (.int o), .val (.int (0 : Int32)), .val (.int qe), .val (.int c1), .val (.int c2), .val (.ref b1), .val (.ref b8), .val (.int (2 : Int32)), .unset] [(.int (2 : Int32)), (.int (0 : Int32)), (.int (2 : Int32))]))
    refine Go.st (fun _ kt => XS.iadd X24.here hx rfl (hb hby at_110) rfl kt) ?_
    show Go p e below _ (T24.setTop (mkF m 111 #[.val (.int i), .val (.int j), .val (.int k), .val (.int o), .val (.int (0 : Int32)), .val (.int qe), .val (.int c1), .val (.int c2), .val (.ref b1), .val (.ref b8), .val (.int (2 : Int32)), .unset] [(.int (2 : Int32)), (.int (2 : Int32))]))
    refine Go.st (fun _ kt => XS.icmpNo X24.here hx rfl (hb hby at_111) rfl (teq (by decide : (2 : Int32) = (2 : Int32))).2 kt) ?_
    show Go p e below _ (T24.setTop (mkF m 114 #[.val (.int i), .val (.int j), .val (.int k), .val (.int o), .val (.int (0 : Int32)), .val (.int qe), .val (.int c1), .val (.int c2), .val (.ref b1), .val (.ref b8), .val (.int (2 : Int32)), .unset] []))
    refine Go.st (fun _ kt => XS.aload X24.here hx rfl (hb hby at_114) rfl rfl kt) ?_
    show Go p e below _ (T24.setTop (mkF m 116 #[.val (.int i), .val (.int j), .val (.int k), .val (.int o), .val (.int (0 : Int32)), .val (.int qe), .val (.int c1), .val (.int c2), .val (.ref b1), .val (.ref b8), .val (.int (2 : Int32)), .unset] [(.ref b8)]))
    have f26 := (f20.keep K23q (ninS (Nat.ne_of_gt lt_b8_bs10) (ninS (Nat.ne_of_lt lt_bs10_la13) nin0)))
    obtain ⟨cq27, kq27, q27a, q27b, q27c⟩ := isOf hZ e24 f25
    obtain ⟨_, _, ⟨T27, L27, k27, n27⟩, -, X27, ⟨Lc27, hQ27, l27, y27, z27⟩, st27⟩ := X24.virtualBack hx (y := (⟨"com/example/rowsieve/rowsieve/format/GrowingBytes", "length", "()I"⟩ : MethodName)) (z := (⟨"com/example/rowsieve/rowsieve/format/GrowingBytes", "length", "()I"⟩ : MethodName)) hown (mvT hZ (hw _ (List.mem_of_getElem? (i := 60) rfl))) (mvT hZ (hw _ (List.mem_of_getElem? (i := 35) rfl))) (notFace_of_selects (args := #[]) (mvT hZ (hw _ (List.mem_of_getElem? (i := 37) rfl)))) (mvT hZ (hw _ (List.mem_of_getElem? (i := 37) rfl))) (mvT hZ (hw _ (List.mem_of_getElem? (i := 36) rfl))) (by decide) (backOf (W := 0) (rm5_1 l Z a0 hw [] b8 bs10 kb10 (4 : Int32) (4 : Int32) T23.heap n0 Zs23 G23_3 G23_1 G23_4 f26 (by decide)) hZ (hw _ (List.mem_of_getElem? (i := 38) rfl)) (hw _ (List.mem_of_getElem? (i := 3) rfl)) (by decide) (by decide)) q27a q27c (g := (mkF m 116 #[.val (.int i), .val (.int j), .val (.int k), .val (.int o), .val (.int (0 : Int32)), .val (.int qe), .val (.int c1), .val (.int c2), .val (.ref b1), .val (.ref b8), .val (.int (2 : Int32)), .unset] [(.ref b8)])) rfl (by rw [hml]; rfl) (Steps.refl _) (argsL := []) (rest := []) (lenOf own_pd1 rfl) rfl (by show 2 * 0 + _ ≤ _; exact Nat.le_of_eq rfl) (hb hby at_116) (fun _ _ => ⟨rfl, e24, (by decide : 5 + 0 ≤ _), (by decide : 34 + 0 ≤ _)⟩)
    dsimp only [Pt.U, Pt.locs, Pt.cells, Pt.slots] at X27 l27 y27 z27 st27 hQ27
    subst l27 y27 z27
    obtain ⟨rfl, N27q, e27⟩ := hQ27
    have N27 := Fr.app N24 N27q
    refine Go.tr st27 ?_
    show Go p e below _ (T27.setTop (mkF m 119 #[.val (.int i), .val (.int j), .val (.int k), .val (.int o), .val (.int (0 : Int32)), .val (.int qe), .val (.int c1), .val (.int c2), .val (.ref b1), .val (.ref b8), .val (.int (2 : Int32)), .unset] [(.int (4 : Int32))]))
    refine Go.st (fun _ kt => XS.iload X27.here hx rfl (hb hby at_119) rfl kt) ?_
    show Go p e below _ (T27.setTop (mkF m 121 #[.val (.int i), .val (.int j), .val (.int k), .val (.int o), .val (.int (0 : Int32)), .val (.int qe), .val (.int c1), .val (.int c2), .val (.ref b1), .val (.ref b8), .val (.int (2 : Int32)), .unset] [(.int (0 : Int32)), (.int (4 : Int32))]))
    refine Go.st (fun _ kt => XS.iconst X27.here hx rfl (hb hby at_121) kt) ?_
    show Go p e below _ (T27.setTop (mkF m 122 #[.val (.int i), .val (.int j), .val (.int k), .val (.int o), .val (.int (0 : Int32)), .val (.int qe), .val (.int c1), .val (.int c2), .val (.ref b1), .val (.ref b8), .val (.int (2 : Int32)), .unset] [(.int (4 : Int32)), (.int (0 : Int32)), (.int (4 : Int32))]))
    refine Go.st (fun _ kt => XS.iadd X27.here hx rfl (hb hby at_122) rfl kt) ?_
    show Go p e below _ (T27.setTop (mkF m 123 #[.val (.int i), .val (.int j), .val (.int k), .val (.int o), .val (.int (0 : Int32)), .val (.int qe), .val (.int c1), .val (.int c2), .val (.ref b1), .val (.ref b8), .val (.int (2 : Int32)), .unset] [(.int (4 : Int32)), (.int (4 : Int32))]))
    refine Go.st (fun _ kt => XS.icmpYes X27.here hx rfl (pc0 := 123) (pc' := 128) rfl (hb hby at_123) rfl (teq (by decide : (4 : Int32) = (4 : Int32))).1 (by decide) (by decide) kt) ?_
    show Go p e below _ (T27.setTop (mkF m 128 #[.val (.int i), .val (.int j), .val (.int k), .val (.int o), .val (.int (0 : Int32)), .val (.int qe), .val (.int c1), .val (.int c2), .val (.ref b1), .val (.ref b8), .val (.int (2 : Int32)), .unset] []))
    refine Go.st (fun _ kt => XS.aload X27.here hx rfl (hb hby at_128) rfl rfl kt) ?_
    show Go p e below _ (T27.setTop (mkF m 130 #[.val (.int i), .val (.int j), .val (.int k), .val (.int o), .val (.int (0 : Int32)), .val (.int qe), .val (.int c1), .val (.int c2), .val (.ref b1), .val (.ref b8), .val (.int (2 : Int32)), .unset] [(.ref b8)]))
    refine Go.st (fun _ kt => XS.iconst X27.here hx rfl (hb hby at_130) kt) ?_
    show Go p e below _ (T27.setTop (mkF m 131 #[.val (.int i), .val (.int j), .val (.int k), .val (.int o), .val (.int (0 : Int32)), .val (.int qe), .val (.int c1), .val (.int c2), .val (.ref b1), .val (.ref b8), .val (.int (2 : Int32)), .unset] [(.int (0 : Int32)), (.ref b8)]))
    have f28 := (((G13_5.keep K17q (ninS (Nat.ne_of_gt lt_b8_sg10) (ninS (Nat.ne_of_lt lt_sg10_la13) nin0))).keep K19q (ninS (Nat.ne_of_gt lt_b8_sg10) (ninS (Nat.ne_of_lt lt_sg10_la13) nin0))).keep K23q (ninS (Nat.ne_of_gt lt_b8_sg10) (ninS (Nat.ne_of_lt lt_sg10_la13) nin0)))
    obtain ⟨cq29, kq29, q29a, q29b, q29c⟩ := isOf hZ e27 f25
    obtain ⟨_, _, ⟨T29, L29, k29, n29⟩, -, X29, ⟨Lc29, hQ29, l29, y29, z29⟩, st29⟩ := X27.virtualBack hx (y := (⟨"com/example/rowsieve/rowsieve/format/GrowingBytes", "segment", "(I)[B"⟩ : MethodName)) (z := (⟨"com/example/rowsieve/rowsieve/format/GrowingBytes", "segment", "(I)[B"⟩ : MethodName)) hown (mvT hZ (hw _ (List.mem_of_getElem? (i := 66) rfl))) (mvT hZ (hw _ (List.mem_of_getElem? (i := 67) rfl))) (notFace_of_selects (args := #[]) (mvT hZ (hw _ (List.mem_of_getElem? (i := 69) rfl)))) (mvT hZ (hw _ (List.mem_of_getElem? (i := 69) rfl))) (mvT hZ (hw _ (List.mem_of_getElem? (i := 68) rfl))) (by decide) (backOf (W := 0) (rm10 l Z a0 hw [] b8 sg10 ks10 la13 T23.heap n0 Zs23 G23_0 f28) hZ (hw _ (List.mem_of_getElem? (i := 70) rfl)) (hw _ (List.mem_of_getElem? (i := 3) rfl)) (by decide) (by decide)) q29a q29c (g := (mkF m 131 #[.val (.int i), .val (.int j), .val (.int k), .val (.int o), .val (.int (0 : Int32)), .val (.int qe), .val (.int c1), .val (.int c2), .val (.ref b1), .val (.ref b8), .val (.int (2 : Int32)), .unset] [(.int (0 : Int32)), (.ref b8)])) rfl (by rw [hml]; rfl) (Steps.refl _) (argsL := [(.int (0 : Int32))]) (rest := []) (lenOf own_pd8 rfl) rfl (by show 2 * 0 + _ ≤ _; exact Nat.le_of_eq rfl) (hb hby at_131) (fun _ _ => ⟨rfl, e27, (by decide : 5 + 0 ≤ _), (by decide : 34 + 0 ≤ _)⟩)
    dsimp only [Pt.U, Pt.locs, Pt.cells, Pt.slots] at X29 l29 y29 z29 st29 hQ29
    subst l29 y29 z29
    obtain ⟨rfl, N29q, e29⟩ := hQ29
    have N29 := Fr.app N27 N29q
    refine Go.tr st29 ?_
    show Go p e below _ (T29.setTop (mkF m 134 #[.val (.int i), .val (.int j), .val (.int k), .val (.int o), .val (.int (0 : Int32)), .val (.int qe), .val (.int c1), .val (.int c2), .val (.ref b1), .val (.ref b8), .val (.int (2 : Int32)), .unset] [(.ref la13)]))
    refine Go.st (fun _ kt => XS.astore X29.here hx rfl (hb hby at_134) rfl rfl (l' := #[.val (.int i), .val (.int j), .val (.int k), .val (.int o), .val (.int (0 : Int32)), .val (.int qe), .val (.int c1), .val (.int c2), .val (.ref b1), .val (.ref b8), .val (.int (2 : Int32)), .val (.ref la13)]) rfl kt) ?_
    show Go p e below _ (T29.setTop (mkF m 136 #[.val (.int i), .val (.int j), .val (.int k), .val (.int o), .val (.int (0 : Int32)), .val (.int qe), .val (.int c1), .val (.int c2), .val (.ref b1), .val (.ref b8), .val (.int (2 : Int32)), .val (.ref la13)] []))
    refine Go.st (fun _ kt => XS.aload X29.here hx rfl (hb hby at_136) rfl rfl kt) ?_
    show Go p e below _ (T29.setTop (mkF m 138 #[.val (.int i), .val (.int j), .val (.int k), .val (.int o), .val (.int (0 : Int32)), .val (.int qe), .val (.int c1), .val (.int c2), .val (.ref b1), .val (.ref b8), .val (.int (2 : Int32)), .val (.ref la13)] [(.ref la13)]))
    obtain ⟨cl30, Ar30, -, S30, N30', -, -⟩ := id G23_5
    refine Go.st (fun _ kt => X29.arraylength hx (by rw [e29]; exact Ar30.1) (State.isArrayOf_alike hZ.alike Ar30.2.1) (g := (mkF m 138 #[.val (.int i), .val (.int j), .val (.int k), .val (.int o), .val (.int (0 : Int32)), .val (.int qe), .val (.int c1), .val (.int c2), .val (.ref b1), .val (.ref b8), .val (.int (2 : Int32)), .val (.ref la13)] [(.ref la13)])) rfl rfl (hb hby at_138) _ kt) ?_
    rw [len_of S30 N30']
    show Go p e below _ (T29.setTop (mkF m 139 #[.val (.int i), .val (.int j), .val (.int k), .val (.int o), .val (.int (0 : Int32)), .val (.int qe), .val (.int c1), .val (.int c2), .val (.ref b1), .val (.ref b8), .val (.int (2 : Int32)), .val (.ref la13)] [(.int sz)]))
    refine Go.st (fun _ kt => XS.iload X29.here hx rfl (hb hby at_139) rfl kt) ?_
    show Go p e below _ (T29.setTop (mkF m 141 #[.val (.int i), .val (.int j), .val (.int k), .val (.int o), .val (.int (0 : Int32)), .val (.int qe), .val (.int c1), .val (.int c2), .val (.ref b1), .val (.ref b8), .val (.int (2 : Int32)), .val (.ref la13)] [(.int (0 : Int32)), (.int sz)]))
    refine Go.st (fun _ kt => XS.iconst X29.here hx rfl (hb hby at_141) kt) ?_
    show Go p e below _ (T29.setTop (mkF m 142 #[.val (.int i), .val (.int j), .val (.int k), .val (.int o), .val (.int (0 : Int32)), .val (.int qe), .val (.int c1), .val (.int c2), .val (.ref b1), .val (.ref b8), .val (.int (2 : Int32)), .val (.ref la13)] [(.int (4 : Int32)), (.int (0 : Int32)), (.int sz)]))
    refine Go.st (fun _ kt => XS.iadd X29.here hx rfl (hb hby at_142) rfl kt) ?_
    show Go p e below _ (T29.setTop (mkF m 143 #[.val (.int i), .val (.int j), .val (.int k), .val (.int o), .val (.int (0 : Int32)), .val (.int qe), .val (.int c1), .val (.int c2), .val (.ref b1), .val (.ref b8), .val (.int (2 : Int32)), .val (.ref la13)] [(.int (4 : Int32)), (.int sz)]))
    refine Go.st (fun _ kt => XS.iload X29.here hx rfl (hb hby at_143) rfl kt) ?_
    show Go p e below _ (T29.setTop (mkF m 145 #[.val (.int i), .val (.int j), .val (.int k), .val (.int o), .val (.int (0 : Int32)), .val (.int qe), .val (.int c1), .val (.int c2), .val (.ref b1), .val (.ref b8), .val (.int (2 : Int32)), .val (.ref la13)] [(.int qe), (.int (4 : Int32)), (.int sz)]))
    refine Go.st (fun _ kt => XS.iadd X29.here hx rfl (hb hby at_145) rfl kt) ?_
    show Go p e below _ (T29.setTop (mkF m 146 #[.val (.int i), .val (.int j), .val (.int k), .val (.int o), .val (.int (0 : Int32)), .val (.int qe), .val (.int c1), .val (.int c2), .val (.ref b1), .val (.ref b8), .val (.int (2 : Int32)), .val (.ref la13)] [(.int ((4 : Int32) + qe)), (.int sz)]))
    refine Go.st (fun _ kt => XS.icmpYes X29.here hx rfl (pc0 := 146) (pc' := 151) rfl (hb hby at_146) rfl (teq hsz.symm).1 (by decide) (by decide) kt) ?_
    show Go p e below _ (T29.setTop (mkF m 151 #[.val (.int i), .val (.int j), .val (.int k), .val (.int o), .val (.int (0 : Int32)), .val (.int qe), .val (.int c1), .val (.int c2), .val (.ref b1), .val (.ref b8), .val (.int (2 : Int32)), .val (.ref la13)] []))
    refine Go.st (fun _ kt => XS.iload X29.here hx rfl (hb hby at_151) rfl kt) ?_
    show Go p e below _ (T29.setTop (mkF m 153 #[.val (.int i), .val (.int j), .val (.int k), .val (.int o), .val (.int (0 : Int32)), .val (.int qe), .val (.int c1), .val (.int c2), .val (.ref b1), .val (.ref b8), .val (.int (2 : Int32)), .val (.ref la13)] [(.int (0 : Int32))]))
    refine Go.st (fun _ kt => XS.ifYes X29.here hx rfl (pc0 := 153) (pc' := 167) rfl (hb hby at_153) rfl ((if0 _ _).trans (flt (by decide : ¬ ((0 : Int32) < (0 : Int32)))).2.2.2) (by decide) (by decide) kt) ?_
    show Go p e below _ (T29.setTop (mkF m 167 #[.val (.int i), .val (.int j), .val (.int k), .val (.int o), .val (.int (0 : Int32)), .val (.int qe), .val (.int c1), .val (.int c2), .val (.ref b1), .val (.ref b8), .val (.int (2 : Int32)), .val (.ref la13)] []))
    refine Go.st (fun _ kt => XS.iload X29.here hx rfl (hb hby at_167) rfl kt) ?_
    show Go p e below _ (T29.setTop (mkF m 169 #[.val (.int i), .val (.int j), .val (.int k), .val (.int o), .val (.int (0 : Int32)), .val (.int qe), .val (.int c1), .val (.int c2), .val (.ref b1), .val (.ref b8), .val (.int (2 : Int32)), .val (.ref la13)] [(.int (0 : Int32))]))
    refine Go.st (fun _ kt => XS.iconst X29.here hx rfl (hb hby at_169) kt) ?_
    show Go p e below _ (T29.setTop (mkF m 170 #[.val (.int i), .val (.int j), .val (.int k), .val (.int o), .val (.int (0 : Int32)), .val (.int qe), .val (.int c1), .val (.int c2), .val (.ref b1), .val (.ref b8), .val (.int (2 : Int32)), .val (.ref la13)] [(.int (1 : Int32)), (.int (0 : Int32))]))
    refine Go.st (fun _ kt => XS.icmpYes X29.here hx rfl (pc0 := 170) (pc' := 184) rfl (hb hby at_170) rfl (flt (by decide : ¬ ((1 : Int32) < (0 : Int32)))).2.2.2 (by decide) (by decide) kt) ?_
    show Go p e below _ (T29.setTop (mkF m 184 #[.val (.int i), .val (.int j), .val (.int k), .val (.int o), .val (.int (0 : Int32)), .val (.int qe), .val (.int c1), .val (.int c2), .val (.ref b1), .val (.ref b8), .val (.int (2 : Int32)), .val (.ref la13)] []))
    refine Go.st (fun _ kt => XS.iload X29.here hx rfl (hb hby at_184) rfl kt) ?_
    show Go p e below _ (T29.setTop (mkF m 186 #[.val (.int i), .val (.int j), .val (.int k), .val (.int o), .val (.int (0 : Int32)), .val (.int qe), .val (.int c1), .val (.int c2), .val (.ref b1), .val (.ref b8), .val (.int (2 : Int32)), .val (.ref la13)] [(.int (0 : Int32))]))
    refine Go.st (fun _ kt => XS.iconst X29.here hx rfl (hb hby at_186) kt) ?_
    show Go p e below _ (T29.setTop (mkF m 187 #[.val (.int i), .val (.int j), .val (.int k), .val (.int o), .val (.int (0 : Int32)), .val (.int qe), .val (.int c1), .val (.int c2), .val (.ref b1), .val (.ref b8), .val (.int (2 : Int32)), .val (.ref la13)] [(.int (2 : Int32)), (.int (0 : Int32))]))
    refine Go.st (fun _ kt => XS.icmpYes X29.here hx rfl (pc0 := 187) (pc' := 201) rfl (hb hby at_187) rfl (flt (by decide : ¬ ((2 : Int32) < (0 : Int32)))).2.2.2 (by decide) (by decide) kt) ?_
    show Go p e below _ (T29.setTop (mkF m 201 #[.val (.int i), .val (.int j), .val (.int k), .val (.int o), .val (.int (0 : Int32)), .val (.int qe), .val (.int c1), .val (.int c2), .val (.ref b1), .val (.ref b8), .val (.int (2 : Int32)), .val (.ref la13)] []))
    refine Go.st (fun _ kt => XS.iload X29.here hx rfl (hb hby at_201) rfl kt) ?_
    show Go p e below _ (T29.setTop (mkF m 203 #[.val (.int i), .val (.int j), .val (.int k), .val (.int o), .val (.int (0 : Int32)), .val (.int qe), .val (.int c1), .val (.int c2), .val (.ref b1), .val (.ref b8), .val (.int (2 : Int32)), .val (.ref la13)] [(.int qe)]))
    by_cases hc203_31 : (0 : Int32) < qe
    · refine Go.st (fun _ kt => XS.ifNo X29.here hx rfl (hb hby at_203) rfl ((if0 _ _).trans (tlt hc203_31).2.2.2) kt) ?_
      show Go p e below _ (T29.setTop (mkF m 206 #[.val (.int i), .val (.int j), .val (.int k), .val (.int o), .val (.int (0 : Int32)), .val (.int qe), .val (.int c1), .val (.int c2), .val (.ref b1), .val (.ref b8), .val (.int (2 : Int32)), .val (.ref la13)] []))
      refine Go.st (fun _ kt => XS.aload X29.here hx rfl (hb hby at_206) rfl rfl kt) ?_
      show Go p e below _ (T29.setTop (mkF m 208 #[.val (.int i), .val (.int j), .val (.int k), .val (.int o), .val (.int (0 : Int32)), .val (.int qe), .val (.int c1), .val (.int c2), .val (.ref b1), .val (.ref b8), .val (.int (2 : Int32)), .val (.ref la13)] [(.ref la13)]))
      refine Go.st (fun _ kt => XS.iload X29.here hx rfl (hb hby at_208) rfl kt) ?_
      show Go p e below _ (T29.setTop (mkF m 210 #[.val (.int i), .val (.int j), .val (.int k), .val (.int o), .val (.int (0 : Int32)), .val (.int qe), .val (.int c1), .val (.int c2), .val (.ref b1), .val (.ref b8), .val (.int (2 : Int32)), .val (.ref la13)] [(.int (0 : Int32)), (.ref la13)]))
      refine Go.st (fun _ kt => XS.iconst X29.here hx rfl (hb hby at_210) kt) ?_
      show Go p e below _ (T29.setTop (mkF m 211 #[.val (.int i), .val (.int j), .val (.int k), .val (.int o), .val (.int (0 : Int32)), .val (.int qe), .val (.int c1), .val (.int c2), .val (.ref b1), .val (.ref b8), .val (.int (2 : Int32)), .val (.ref la13)] [(.int (4 : Int32)), (.int (0 : Int32)), (.ref la13)]))
      refine Go.st (fun _ kt => XS.iadd X29.here hx rfl (hb hby at_211) rfl kt) ?_
      show Go p e below _ (T29.setTop (mkF m 212 #[.val (.int i), .val (.int j), .val (.int k), .val (.int o), .val (.int (0 : Int32)), .val (.int qe), .val (.int c1), .val (.int c2), .val (.ref b1), .val (.ref b8), .val (.int (2 : Int32)), .val (.ref la13)] [(.int (4 : Int32)), (.ref la13)]))
      have hz1 : (5 : Int) ≤ sz.toInt := own_more hs_ hc203_31
      obtain ⟨cl32, Ar32, -, S32, N32', H32, G32⟩ := id G23_5
      have hin32 := inb_of S32 (j := (4 : Int32)) (own_lit hz1 (by decide))
      have hat32 := Has.at H32 hin32 (v := (.int (0 : Int32))) rfl
      refine Go.st (fun _ kt => X29.baloadBytes hx (j := (4 : Int32)) (v := (.int (0 : Int32))) (by rw [e29]; exact Ar32.1) (State.isArrayOf_alike hZ.alike Ar32.2.1) Ar32.2.2 hin32 hat32 (g := (mkF m 212 #[.val (.int i), .val (.int j), .val (.int k), .val (.int o), .val (.int (0 : Int32)), .val (.int qe), .val (.int c1), .val (.int c2), .val (.ref b1), .val (.ref b8), .val (.int (2 : Int32)), .val (.ref la13)] [(.int (4 : Int32)), (.ref la13)])) rfl rfl (hb hby at_212) _ kt) ?_
      show Go p e below _ (T29.setTop (mkF m 213 #[.val (.int i), .val (.int j), .val (.int k), .val (.int o), .val (.int (0 : Int32)), .val (.int qe), .val (.int c1), .val (.int c2), .val (.ref b1), .val (.ref b8), .val (.int (2 : Int32)), .val (.ref la13)] [(.int (0 : Int32))]))
      refine Go.st (fun _ kt => XS.ifYes X29.here hx rfl (pc0 := 213) (pc' := 218) rfl (hb hby at_213) rfl ((if0 _ _).trans (teq (by decide : (0 : Int32) = (0 : Int32))).1) (by decide) (by decide) kt) ?_
      show Go p e below _ (T29.setTop (mkF m 218 #[.val (.int i), .val (.int j), .val (.int k), .val (.int o), .val (.int (0 : Int32)), .val (.int qe), .val (.int c1), .val (.int c2), .val (.ref b1), .val (.ref b8), .val (.int (2 : Int32)), .val (.ref la13)] []))
      refine Go.st (fun _ kt => XS.aload X29.here hx rfl (hb hby at_218) rfl rfl kt) ?_
      show Go p e below _ (T29.setTop (mkF m 220 #[.val (.int i), .val (.int j), .val (.int k), .val (.int o), .val (.int (0 : Int32)), .val (.int qe), .val (.int c1), .val (.int c2), .val (.ref b1), .val (.ref b8), .val (.int (2 : Int32)), .val (.ref la13)] [(.ref la13)]))
      refine Go.st (fun _ kt => XS.iload X29.here hx rfl (hb hby at_220) rfl kt) ?_
      show Go p e below _ (T29.setTop (mkF m 222 #[.val (.int i), .val (.int j), .val (.int k), .val (.int o), .val (.int (0 : Int32)), .val (.int qe), .val (.int c1), .val (.int c2), .val (.ref b1), .val (.ref b8), .val (.int (2 : Int32)), .val (.ref la13)] [(.int (0 : Int32)), (.ref la13)]))
      refine Go.st (fun _ kt => XS.iload X29.here hx rfl (hb hby at_222) rfl kt) ?_
      show Go p e below _ (T29.setTop (mkF m 224 #[.val (.int i), .val (.int j), .val (.int k), .val (.int o), .val (.int (0 : Int32)), .val (.int qe), .val (.int c1), .val (.int c2), .val (.ref b1), .val (.ref b8), .val (.int (2 : Int32)), .val (.ref la13)] [(.int c1), (.int (0 : Int32)), (.ref la13)]))
      obtain ⟨_, _, ⟨T33, L33, k33, n33⟩, -, X33, ⟨Lc33, hQ33, l33, y33, z33⟩, st33⟩ := Jvm.LawKit.callS X29 hx (y := (⟨"com/example/rowsieve/rowsieve/format/GrowingBytesPutLittleEndianPinLaw", "readsBack", "([BIC)Z"⟩ : MethodName)) hown (mvT hZ (hw _ (List.mem_of_getElem? (i := 71) rfl))) (mvT hZ (hw _ (List.mem_of_getElem? (i := 72) rfl))) (mvT hZ (hw _ (List.mem_of_getElem? (i := 73) rfl))) (mvT hZ (hw _ (List.mem_of_getElem? (i := 74) rfl))) (by decide) (backOf (W := 0) (rm11 l Z a0 hw [] la13 (0 : Int32) c1 kl13 sz [(.int ((c1.toInt8.toInt32).toInt8.toInt32)), (.int ((((c1.toUInt32 >>> ((8 : Int32) &&& 31).toUInt32).toInt32).toInt8.toInt32).toInt8.toInt32)), (.int ((c2.toInt8.toInt32).toInt8.toInt32)), (.int ((((c2.toUInt32 >>> ((8 : Int32) &&& 31).toUInt32).toInt32).toInt8.toInt32).toInt8.toInt32))] T23.heap n0 Zs23 G23_5 (own_lit hz.1 (by decide)) (own_lit hz.1 (by decide)) rfl rfl hb_c1) hZ (hw _ (List.mem_of_getElem? (i := 74) rfl)) (hw _ (List.mem_of_getElem? (i := 73) rfl)) (by decide) (by decide)) (g := (mkF m 224 #[.val (.int i), .val (.int j), .val (.int k), .val (.int o), .val (.int (0 : Int32)), .val (.int qe), .val (.int c1), .val (.int c2), .val (.ref b1), .val (.ref b8), .val (.int (2 : Int32)), .val (.ref la13)] [(.int c1), (.int (0 : Int32)), (.ref la13)])) rfl (by rw [hml]; rfl) (argsL := [(.ref la13), (.int (0 : Int32)), (.int c1)]) (rest := []) (lenOf own_pd9 rfl) rfl (by show 2 * 0 + _ ≤ _; exact Nat.le_of_eq rfl) (hb hby at_224) (fun _ _ => ⟨rfl, e29, (by decide : 5 + 0 ≤ _), (by decide : 34 + 0 ≤ _)⟩)
      dsimp only [Pt.U, Pt.locs, Pt.cells, Pt.slots] at X33 l33 y33 z33 st33 hQ33
      subst l33 y33 z33
      obtain ⟨rfl, N33q, e33⟩ := hQ33
      have N33 := Fr.app N29 N33q
      refine Go.st st33 ?_
      show Go p e below _ (T33.setTop (mkF m 227 #[.val (.int i), .val (.int j), .val (.int k), .val (.int o), .val (.int (0 : Int32)), .val (.int qe), .val (.int c1), .val (.int c2), .val (.ref b1), .val (.ref b8), .val (.int (2 : Int32)), .val (.ref la13)] [(.int (1 : Int32))]))
      refine Go.st (fun _ kt => XS.ifNo X33.here hx rfl (hb hby at_227) rfl ((if0 _ _).trans (feq (by decide : ¬ ((1 : Int32) = (0 : Int32)))).1) kt) ?_
      show Go p e below _ (T33.setTop (mkF m 230 #[.val (.int i), .val (.int j), .val (.int k), .val (.int o), .val (.int (0 : Int32)), .val (.int qe), .val (.int c1), .val (.int c2), .val (.ref b1), .val (.ref b8), .val (.int (2 : Int32)), .val (.ref la13)] []))
      refine Go.st (fun _ kt => XS.aload X33.here hx rfl (hb hby at_230) rfl rfl kt) ?_
      show Go p e below _ (T33.setTop (mkF m 232 #[.val (.int i), .val (.int j), .val (.int k), .val (.int o), .val (.int (0 : Int32)), .val (.int qe), .val (.int c1), .val (.int c2), .val (.ref b1), .val (.ref b8), .val (.int (2 : Int32)), .val (.ref la13)] [(.ref la13)]))
      refine Go.st (fun _ kt => XS.iload X33.here hx rfl (hb hby at_232) rfl kt) ?_
      show Go p e below _ (T33.setTop (mkF m 234 #[.val (.int i), .val (.int j), .val (.int k), .val (.int o), .val (.int (0 : Int32)), .val (.int qe), .val (.int c1), .val (.int c2), .val (.ref b1), .val (.ref b8), .val (.int (2 : Int32)), .val (.ref la13)] [(.int (0 : Int32)), (.ref la13)]))
      refine Go.st (fun _ kt => XS.iconst X33.here hx rfl (hb hby at_234) kt) ?_
      show Go p e below _ (T33.setTop (mkF m 235 #[.val (.int i), .val (.int j), .val (.int k), .val (.int o), .val (.int (0 : Int32)), .val (.int qe), .val (.int c1), .val (.int c2), .val (.ref b1), .val (.ref b8), .val (.int (2 : Int32)), .val (.ref la13)] [(.int (2 : Int32)), (.int (0 : Int32)), (.ref la13)]))
      refine Go.st (fun _ kt => XS.iadd X33.here hx rfl (hb hby at_235) rfl kt) ?_
      show Go p e below _ (T33.setTop (mkF m 236 #[.val (.int i), .val (.int j), .val (.int k), .val (.int o), .val (.int (0 : Int32)), .val (.int qe), .val (.int c1), .val (.int c2), .val (.ref b1), .val (.ref b8), .val (.int (2 : Int32)), .val (.ref la13)] [(.int (2 : Int32)), (.ref la13)]))
      refine Go.st (fun _ kt => XS.iload X33.here hx rfl (hb hby at_236) rfl kt) ?_
      show Go p e below _ (T33.setTop (mkF m 238 #[.val (.int i), .val (.int j), .val (.int k), .val (.int o), .val (.int (0 : Int32)), .val (.int qe), .val (.int c1), .val (.int c2), .val (.ref b1), .val (.ref b8), .val (.int (2 : Int32)), .val (.ref la13)] [(.int c2), (.int (2 : Int32)), (.ref la13)]))
      obtain ⟨_, _, ⟨T34, L34, k34, n34⟩, -, X34, ⟨Lc34, hQ34, l34, y34, z34⟩, st34⟩ := Jvm.LawKit.callS X33 hx (y := (⟨"com/example/rowsieve/rowsieve/format/GrowingBytesPutLittleEndianPinLaw", "readsBack", "([BIC)Z"⟩ : MethodName)) hown (mvT hZ (hw _ (List.mem_of_getElem? (i := 71) rfl))) (mvT hZ (hw _ (List.mem_of_getElem? (i := 72) rfl))) (mvT hZ (hw _ (List.mem_of_getElem? (i := 73) rfl))) (mvT hZ (hw _ (List.mem_of_getElem? (i := 74) rfl))) (by decide) (backOf (W := 0) (rm11 l Z a0 hw [] la13 (2 : Int32) c2 kl13 sz [(.int ((c1.toInt8.toInt32).toInt8.toInt32)), (.int ((((c1.toUInt32 >>> ((8 : Int32) &&& 31).toUInt32).toInt32).toInt8.toInt32).toInt8.toInt32)), (.int ((c2.toInt8.toInt32).toInt8.toInt32)), (.int ((((c2.toUInt32 >>> ((8 : Int32) &&& 31).toUInt32).toInt32).toInt8.toInt32).toInt8.toInt32))] T23.heap n0 Zs23 G23_5 (own_lit hz.1 (by decide)) (own_lit hz.1 (by decide)) rfl rfl hb_c2) hZ (hw _ (List.mem_of_getElem? (i := 74) rfl)) (hw _ (List.mem_of_getElem? (i := 73) rfl)) (by decide) (by decide)) (g := (mkF m 238 #[.val (.int i), .val (.int j), .val (.int k), .val (.int o), .val (.int (0 : Int32)), .val (.int qe), .val (.int c1), .val (.int c2), .val (.ref b1), .val (.ref b8), .val (.int (2 : Int32)), .val (.ref la13)] [(.int c2), (.int (2 : Int32)), (.ref la13)])) rfl (by rw [hml]; rfl) (argsL := [(.ref la13), (.int (2 : Int32)), (.int c2)]) (rest := []) (lenOf own_pd9 rfl) rfl (by show 2 * 0 + _ ≤ _; exact Nat.le_of_eq rfl) (hb hby at_238) (fun _ _ => ⟨rfl, e33, (by decide : 5 + 0 ≤ _), (by decide : 34 + 0 ≤ _)⟩)
      dsimp only [Pt.U, Pt.locs, Pt.cells, Pt.slots] at X34 l34 y34 z34 st34 hQ34
      subst l34 y34 z34
      obtain ⟨rfl, N34q, e34⟩ := hQ34
      have N34 := Fr.app N33 N34q
      refine Go.st st34 ?_
      show Go p e below _ (T34.setTop (mkF m 241 #[.val (.int i), .val (.int j), .val (.int k), .val (.int o), .val (.int (0 : Int32)), .val (.int qe), .val (.int c1), .val (.int c2), .val (.ref b1), .val (.ref b8), .val (.int (2 : Int32)), .val (.ref la13)] [(.int (1 : Int32))]))
      refine Go.st (fun _ kt => XS.ifNo X34.here hx rfl (hb hby at_241) rfl ((if0 _ _).trans (feq (by decide : ¬ ((1 : Int32) = (0 : Int32)))).1) kt) ?_
      show Go p e below _ (T34.setTop (mkF m 244 #[.val (.int i), .val (.int j), .val (.int k), .val (.int o), .val (.int (0 : Int32)), .val (.int qe), .val (.int c1), .val (.int c2), .val (.ref b1), .val (.ref b8), .val (.int (2 : Int32)), .val (.ref la13)] []))
      refine Go.st (fun _ kt => XS.iconst X34.here hx rfl (hb hby at_244) kt) ?_
      show Go p e below _ (T34.setTop (mkF m 245 #[.val (.int i), .val (.int j), .val (.int k), .val (.int o), .val (.int (0 : Int32)), .val (.int qe), .val (.int c1), .val (.int c2), .val (.ref b1), .val (.ref b8), .val (.int (2 : Int32)), .val (.ref la13)] [(.int (1 : Int32))]))
      refine Go.st (fun _ kt => XS.goto X34.here hx rfl (pc0 := 245) (pc' := 249) rfl (hb hby at_245) (by decide) (by decide) kt) ?_
      show Go p e below _ (T34.setTop (mkF m 249 #[.val (.int i), .val (.int j), .val (.int k), .val (.int o), .val (.int (0 : Int32)), .val (.int qe), .val (.int c1), .val (.int c2), .val (.ref b1), .val (.ref b8), .val (.int (2 : Int32)), .val (.ref la13)] [(.int (1 : Int32))]))
      refine Go.retN X34 hx (t := .boolean) Bd.returns (by simp) (BodyLoose.notSynchronized Bd) (hb hby at_249) (Q := (Q_rm0 Z i j k o h0 n0)) (by decide) (by decide) ?_
      show (Q_rm0 Z i j k o h0 n0) _ T34.heap _
      rw [e34]
      exact ⟨rfl, N34⟩
    · refine Go.st (fun _ kt => XS.ifYes X29.here hx rfl (pc0 := 203) (pc' := 218) rfl (hb hby at_203) rfl ((if0 _ _).trans (flt hc203_31).2.2.2) (by decide) (by decide) kt) ?_
      show Go p e below _ (T29.setTop (mkF m 218 #[.val (.int i), .val (.int j), .val (.int k), .val (.int o), .val (.int (0 : Int32)), .val (.int qe), .val (.int c1), .val (.int c2), .val (.ref b1), .val (.ref b8), .val (.int (2 : Int32)), .val (.ref la13)] []))
      refine Go.st (fun _ kt => XS.aload X29.here hx rfl (hb hby at_218) rfl rfl kt) ?_
      show Go p e below _ (T29.setTop (mkF m 220 #[.val (.int i), .val (.int j), .val (.int k), .val (.int o), .val (.int (0 : Int32)), .val (.int qe), .val (.int c1), .val (.int c2), .val (.ref b1), .val (.ref b8), .val (.int (2 : Int32)), .val (.ref la13)] [(.ref la13)]))
      refine Go.st (fun _ kt => XS.iload X29.here hx rfl (hb hby at_220) rfl kt) ?_
      show Go p e below _ (T29.setTop (mkF m 222 #[.val (.int i), .val (.int j), .val (.int k), .val (.int o), .val (.int (0 : Int32)), .val (.int qe), .val (.int c1), .val (.int c2), .val (.ref b1), .val (.ref b8), .val (.int (2 : Int32)), .val (.ref la13)] [(.int (0 : Int32)), (.ref la13)]))
      refine Go.st (fun _ kt => XS.iload X29.here hx rfl (hb hby at_222) rfl kt) ?_
      show Go p e below _ (T29.setTop (mkF m 224 #[.val (.int i), .val (.int j), .val (.int k), .val (.int o), .val (.int (0 : Int32)), .val (.int qe), .val (.int c1), .val (.int c2), .val (.ref b1), .val (.ref b8), .val (.int (2 : Int32)), .val (.ref la13)] [(.int c1), (.int (0 : Int32)), (.ref la13)]))
      obtain ⟨_, _, ⟨T35, L35, k35, n35⟩, -, X35, ⟨Lc35, hQ35, l35, y35, z35⟩, st35⟩ := Jvm.LawKit.callS X29 hx (y := (⟨"com/example/rowsieve/rowsieve/format/GrowingBytesPutLittleEndianPinLaw", "readsBack", "([BIC)Z"⟩ : MethodName)) hown (mvT hZ (hw _ (List.mem_of_getElem? (i := 71) rfl))) (mvT hZ (hw _ (List.mem_of_getElem? (i := 72) rfl))) (mvT hZ (hw _ (List.mem_of_getElem? (i := 73) rfl))) (mvT hZ (hw _ (List.mem_of_getElem? (i := 74) rfl))) (by decide) (backOf (W := 0) (rm11 l Z a0 hw [] la13 (0 : Int32) c1 kl13 sz [(.int ((c1.toInt8.toInt32).toInt8.toInt32)), (.int ((((c1.toUInt32 >>> ((8 : Int32) &&& 31).toUInt32).toInt32).toInt8.toInt32).toInt8.toInt32)), (.int ((c2.toInt8.toInt32).toInt8.toInt32)), (.int ((((c2.toUInt32 >>> ((8 : Int32) &&& 31).toUInt32).toInt32).toInt8.toInt32).toInt8.toInt32))] T23.heap n0 Zs23 G23_5 (own_lit hz.1 (by decide)) (own_lit hz.1 (by decide)) rfl rfl hb_c1) hZ (hw _ (List.mem_of_getElem? (i := 74) rfl)) (hw _ (List.mem_of_getElem? (i := 73) rfl)) (by decide) (by decide)) (g := (mkF m 224 #[.val (.int i), .val (.int j), .val (.int k), .val (.int o), .val (.int (0 : Int32)), .val (.int qe), .val (.int c1), .val (.int c2), .val (.ref b1), .val (.ref b8), .val (.int (2 : Int32)), .val (.ref la13)] [(.int c1), (.int (0 : Int32)), (.ref la13)])) rfl (by rw [hml]; rfl) (argsL := [(.ref la13), (.int (0 : Int32)), (.int c1)]) (rest := []) (lenOf own_pd9 rfl) rfl (by show 2 * 0 + _ ≤ _; exact Nat.le_of_eq rfl) (hb hby at_224) (fun _ _ => ⟨rfl, e29, (by decide : 5 + 0 ≤ _), (by decide : 34 + 0 ≤ _)⟩)
      dsimp only [Pt.U, Pt.locs, Pt.cells, Pt.slots] at X35 l35 y35 z35 st35 hQ35
      subst l35 y35 z35
      obtain ⟨rfl, N35q, e35⟩ := hQ35
      have N35 := Fr.app N29 N35q
      refine Go.st st35 ?_
      show Go p e below _ (T35.setTop (mkF m 227 #[.val (.int i), .val (.int j), .val (.int k), .val (.int o), .val (.int (0 : Int32)), .val (.int qe), .val (.int c1), .val (.int c2), .val (.ref b1), .val (.ref b8), .val (.int (2 : Int32)), .val (.ref la13)] [(.int (1 : Int32))]))
      refine Go.st (fun _ kt => XS.ifNo X35.here hx rfl (hb hby at_227) rfl ((if0 _ _).trans (feq (by decide : ¬ ((1 : Int32) = (0 : Int32)))).1) kt) ?_
      show Go p e below _ (T35.setTop (mkF m 230 #[.val (.int i), .val (.int j), .val (.int k), .val (.int o), .val (.int (0 : Int32)), .val (.int qe), .val (.int c1), .val (.int c2), .val (.ref b1), .val (.ref b8), .val (.int (2 : Int32)), .val (.ref la13)] []))
      refine Go.st (fun _ kt => XS.aload X35.here hx rfl (hb hby at_230) rfl rfl kt) ?_
      show Go p e below _ (T35.setTop (mkF m 232 #[.val (.int i), .val (.int j), .val (.int k), .val (.int o), .val (.int (0 : Int32)), .val (.int qe), .val (.int c1), .val (.int c2), .val (.ref b1), .val (.ref b8), .val (.int (2 : Int32)), .val (.ref la13)] [(.ref la13)]))
      refine Go.st (fun _ kt => XS.iload X35.here hx rfl (hb hby at_232) rfl kt) ?_
      show Go p e below _ (T35.setTop (mkF m 234 #[.val (.int i), .val (.int j), .val (.int k), .val (.int o), .val (.int (0 : Int32)), .val (.int qe), .val (.int c1), .val (.int c2), .val (.ref b1), .val (.ref b8), .val (.int (2 : Int32)), .val (.ref la13)] [(.int (0 : Int32)), (.ref la13)]))
      refine Go.st (fun _ kt => XS.iconst X35.here hx rfl (hb hby at_234) kt) ?_
      show Go p e below _ (T35.setTop (mkF m 235 #[.val (.int i), .val (.int j), .val (.int k), .val (.int o), .val (.int (0 : Int32)), .val (.int qe), .val (.int c1), .val (.int c2), .val (.ref b1), .val (.ref b8), .val (.int (2 : Int32)), .val (.ref la13)] [(.int (2 : Int32)), (.int (0 : Int32)), (.ref la13)]))
      refine Go.st (fun _ kt => XS.iadd X35.here hx rfl (hb hby at_235) rfl kt) ?_
      show Go p e below _ (T35.setTop (mkF m 236 #[.val (.int i), .val (.int j), .val (.int k), .val (.int o), .val (.int (0 : Int32)), .val (.int qe), .val (.int c1), .val (.int c2), .val (.ref b1), .val (.ref b8), .val (.int (2 : Int32)), .val (.ref la13)] [(.int (2 : Int32)), (.ref la13)]))
      refine Go.st (fun _ kt => XS.iload X35.here hx rfl (hb hby at_236) rfl kt) ?_
      show Go p e below _ (T35.setTop (mkF m 238 #[.val (.int i), .val (.int j), .val (.int k), .val (.int o), .val (.int (0 : Int32)), .val (.int qe), .val (.int c1), .val (.int c2), .val (.ref b1), .val (.ref b8), .val (.int (2 : Int32)), .val (.ref la13)] [(.int c2), (.int (2 : Int32)), (.ref la13)]))
      obtain ⟨_, _, ⟨T36, L36, k36, n36⟩, -, X36, ⟨Lc36, hQ36, l36, y36, z36⟩, st36⟩ := Jvm.LawKit.callS X35 hx (y := (⟨"com/example/rowsieve/rowsieve/format/GrowingBytesPutLittleEndianPinLaw", "readsBack", "([BIC)Z"⟩ : MethodName)) hown (mvT hZ (hw _ (List.mem_of_getElem? (i := 71) rfl))) (mvT hZ (hw _ (List.mem_of_getElem? (i := 72) rfl))) (mvT hZ (hw _ (List.mem_of_getElem? (i := 73) rfl))) (mvT hZ (hw _ (List.mem_of_getElem? (i := 74) rfl))) (by decide) (backOf (W := 0) (rm11 l Z a0 hw [] la13 (2 : Int32) c2 kl13 sz [(.int ((c1.toInt8.toInt32).toInt8.toInt32)), (.int ((((c1.toUInt32 >>> ((8 : Int32) &&& 31).toUInt32).toInt32).toInt8.toInt32).toInt8.toInt32)), (.int ((c2.toInt8.toInt32).toInt8.toInt32)), (.int ((((c2.toUInt32 >>> ((8 : Int32) &&& 31).toUInt32).toInt32).toInt8.toInt32).toInt8.toInt32))] T23.heap n0 Zs23 G23_5 (own_lit hz.1 (by decide)) (own_lit hz.1 (by decide)) rfl rfl hb_c2) hZ (hw _ (List.mem_of_getElem? (i := 74) rfl)) (hw _ (List.mem_of_getElem? (i := 73) rfl)) (by decide) (by decide)) (g := (mkF m 238 #[.val (.int i), .val (.int j), .val (.int k), .val (.int o), .val (.int (0 : Int32)), .val (.int qe), .val (.int c1), .val (.int c2), .val (.ref b1), .val (.ref b8), .val (.int (2 : Int32)), .val (.ref la13)] [(.int c2), (.int (2 : Int32)), (.ref la13)])) rfl (by rw [hml]; rfl) (argsL := [(.ref la13), (.int (2 : Int32)), (.int c2)]) (rest := []) (lenOf own_pd9 rfl) rfl (by show 2 * 0 + _ ≤ _; exact Nat.le_of_eq rfl) (hb hby at_238) (fun _ _ => ⟨rfl, e35, (by decide : 5 + 0 ≤ _), (by decide : 34 + 0 ≤ _)⟩)
      dsimp only [Pt.U, Pt.locs, Pt.cells, Pt.slots] at X36 l36 y36 z36 st36 hQ36
      subst l36 y36 z36
      obtain ⟨rfl, N36q, e36⟩ := hQ36
      have N36 := Fr.app N35 N36q
      refine Go.st st36 ?_
      show Go p e below _ (T36.setTop (mkF m 241 #[.val (.int i), .val (.int j), .val (.int k), .val (.int o), .val (.int (0 : Int32)), .val (.int qe), .val (.int c1), .val (.int c2), .val (.ref b1), .val (.ref b8), .val (.int (2 : Int32)), .val (.ref la13)] [(.int (1 : Int32))]))
      refine Go.st (fun _ kt => XS.ifNo X36.here hx rfl (hb hby at_241) rfl ((if0 _ _).trans (feq (by decide : ¬ ((1 : Int32) = (0 : Int32)))).1) kt) ?_
      show Go p e below _ (T36.setTop (mkF m 244 #[.val (.int i), .val (.int j), .val (.int k), .val (.int o), .val (.int (0 : Int32)), .val (.int qe), .val (.int c1), .val (.int c2), .val (.ref b1), .val (.ref b8), .val (.int (2 : Int32)), .val (.ref la13)] []))
      refine Go.st (fun _ kt => XS.iconst X36.here hx rfl (hb hby at_244) kt) ?_
      show Go p e below _ (T36.setTop (mkF m 245 #[.val (.int i), .val (.int j), .val (.int k), .val (.int o), .val (.int (0 : Int32)), .val (.int qe), .val (.int c1), .val (.int c2), .val (.ref b1), .val (.ref b8), .val (.int (2 : Int32)), .val (.ref la13)] [(.int (1 : Int32))]))
      refine Go.st (fun _ kt => XS.goto X36.here hx rfl (pc0 := 245) (pc' := 249) rfl (hb hby at_245) (by decide) (by decide) kt) ?_
      show Go p e below _ (T36.setTop (mkF m 249 #[.val (.int i), .val (.int j), .val (.int k), .val (.int o), .val (.int (0 : Int32)), .val (.int qe), .val (.int c1), .val (.int c2), .val (.ref b1), .val (.ref b8), .val (.int (2 : Int32)), .val (.ref la13)] [(.int (1 : Int32))]))
      refine Go.retN X36 hx (t := .boolean) Bd.returns (by simp) (BodyLoose.notSynchronized Bd) (hb hby at_249) (Q := (Q_rm0 Z i j k o h0 n0)) (by decide) (by decide) ?_
      show (Q_rm0 Z i j k o h0 n0) _ T36.heap _
      rw [e36]
      exact ⟨rfl, N36⟩
  · show Go p e below _ (s₁.setTop (mkF m 3 #[.val (.int i), .val (.int j), .val (.int k), .val (.int o), .unset, .unset, .unset, .unset, .unset, .unset, .unset, .unset] [(.int (1 : Int32))]))
    refine Go.st (fun _ kt => XS.istore X0.here hx rfl (hb hby at_3) rfl (l' := #[.val (.int i), .val (.int j), .val (.int k), .val (.int o), .val (.int (1 : Int32)), .unset, .unset, .unset, .unset, .unset, .unset, .unset]) rfl kt) ?_
    show Go p e below _ (s₁.setTop (mkF m 5 #[.val (.int i), .val (.int j), .val (.int k), .val (.int o), .val (.int (1 : Int32)), .unset, .unset, .unset, .unset, .unset, .unset, .unset] []))
    refine Go.st (fun _ kt => XS.iloadN X0.here hx rfl (hb hby at_5) rfl kt) ?_
    show Go p e below _ (s₁.setTop (mkF m 6 #[.val (.int i), .val (.int j), .val (.int k), .val (.int o), .val (.int (1 : Int32)), .unset, .unset, .unset, .unset, .unset, .unset, .unset] [(.int o)]))
    refine Go.st (fun _ kt => XS.iconst X0.here hx rfl (hb hby at_6) kt) ?_
    show Go p e below _ (s₁.setTop (mkF m 7 #[.val (.int i), .val (.int j), .val (.int k), .val (.int o), .val (.int (1 : Int32)), .unset, .unset, .unset, .unset, .unset, .unset, .unset] [(.int (3 : Int32)), (.int o)]))
    refine Go.st (fun _ kt => XS.iand X0.here hx rfl (hb hby at_7) rfl kt) ?_
    show Go p e below _ (s₁.setTop (mkF m 8 #[.val (.int i), .val (.int j), .val (.int k), .val (.int o), .val (.int (1 : Int32)), .unset, .unset, .unset, .unset, .unset, .unset, .unset] [(.int (o &&& (3 : Int32)))]))
    have hqe0 := c_and o 3 (by decide)
    have e3 : (3 : Int32).toInt = 3 := by decide
    generalize hqe : ((o &&& (3 : Int32)) : Int32) = qe
    show Go p e below _ (s₁.setTop (mkF m 8 #[.val (.int i), .val (.int j), .val (.int k), .val (.int o), .val (.int (1 : Int32)), .unset, .unset, .unset, .unset, .unset, .unset, .unset] [(.int qe)]))
    rw [hqe, e3] at hqe0
    refine Go.st (fun _ kt => XS.istore X0.here hx rfl (hb hby at_8) rfl (l' := #[.val (.int i), .val (.int j), .val (.int k), .val (.int o), .val (.int (1 : Int32)), .val (.int qe), .unset, .unset, .unset, .unset, .unset, .unset]) rfl kt) ?_
    show Go p e below _ (s₁.setTop (mkF m 10 #[.val (.int i), .val (.int j), .val (.int k), .val (.int o), .val (.int (1 : Int32)), .val (.int qe), .unset, .unset, .unset, .unset, .unset, .unset] []))
    refine Go.st (fun _ kt => XS.iloadN X0.here hx rfl (hb hby at_10) rfl kt) ?_
    show Go p e below _ (s₁.setTop (mkF m 11 #[.val (.int i), .val (.int j), .val (.int k), .val (.int o), .val (.int (1 : Int32)), .val (.int qe), .unset, .unset, .unset, .unset, .unset, .unset] [(.int i)]))
    refine Go.st (fun _ kt => XS.i2c X0.here hx rfl (hb hby at_11) rfl kt) ?_
    show Go p e below _ (s₁.setTop (mkF m 12 #[.val (.int i), .val (.int j), .val (.int k), .val (.int o), .val (.int (1 : Int32)), .val (.int qe), .unset, .unset, .unset, .unset, .unset, .unset] [(.int (i.toUInt32.toUInt16.toUInt32.toInt32))]))
    have hb_c1 := (c_i2c i).2
    generalize hc1 : ((i.toUInt32.toUInt16.toUInt32.toInt32) : Int32) = c1
    show Go p e below _ (s₁.setTop (mkF m 12 #[.val (.int i), .val (.int j), .val (.int k), .val (.int o), .val (.int (1 : Int32)), .val (.int qe), .unset, .unset, .unset, .unset, .unset, .unset] [(.int c1)]))
    rw [hc1] at hb_c1
    refine Go.st (fun _ kt => XS.istore X0.here hx rfl (hb hby at_12) rfl (l' := #[.val (.int i), .val (.int j), .val (.int k), .val (.int o), .val (.int (1 : Int32)), .val (.int qe), .val (.int c1), .unset, .unset, .unset, .unset, .unset]) rfl kt) ?_
    show Go p e below _ (s₁.setTop (mkF m 14 #[.val (.int i), .val (.int j), .val (.int k), .val (.int o), .val (.int (1 : Int32)), .val (.int qe), .val (.int c1), .unset, .unset, .unset, .unset, .unset] []))
    refine Go.st (fun _ kt => XS.iloadN X0.here hx rfl (hb hby at_14) rfl kt) ?_
    show Go p e below _ (s₁.setTop (mkF m 15 #[.val (.int i), .val (.int j), .val (.int k), .val (.int o), .val (.int (1 : Int32)), .val (.int qe), .val (.int c1), .unset, .unset, .unset, .unset, .unset] [(.int j)]))
    refine Go.st (fun _ kt => XS.i2c X0.here hx rfl (hb hby at_15) rfl kt) ?_
    show Go p e below _ (s₁.setTop (mkF m 16 #[.val (.int i), .val (.int j), .val (.int k), .val (.int o), .val (.int (1 : Int32)), .val (.int qe), .val (.int c1), .unset, .unset, .unset, .unset, .unset] [(.int (j.toUInt32.toUInt16.toUInt32.toInt32))]))
    have hb_c2 := (c_i2c j).2
    generalize hc2 : ((j.toUInt32.toUInt16.toUInt32.toInt32) : Int32) = c2
    show Go p e below _ (s₁.setTop (mkF m 16 #[.val (.int i), .val (.int j), .val (.int k), .val (.int o), .val (.int (1 : Int32)), .val (.int qe), .val (.int c1), .unset, .unset, .unset, .unset, .unset] [(.int c2)]))
    rw [hc2] at hb_c2
    refine Go.st (fun _ kt => XS.istore X0.here hx rfl (hb hby at_16) rfl (l' := #[.val (.int i), .val (.int j), .val (.int k), .val (.int o), .val (.int (1 : Int32)), .val (.int qe), .val (.int c1), .val (.int c2), .unset, .unset, .unset, .unset]) rfl kt) ?_
    show Go p e below _ (s₁.setTop (mkF m 18 #[.val (.int i), .val (.int j), .val (.int k), .val (.int o), .val (.int (1 : Int32)), .val (.int qe), .val (.int c1), .val (.int c2), .unset, .unset, .unset, .unset] []))
    refine Go.st (fun _ kt => XS.iconst X0.here hx rfl (hb hby at_18) kt) ?_
    show Go p e below _ (s₁.setTop (mkF m 19 #[.val (.int i), .val (.int j), .val (.int k), .val (.int o), .val (.int (1 : Int32)), .val (.int qe), .val (.int c1), .val (.int c2), .unset, .unset, .unset, .unset] [(.int (3 : Int32))]))
    obtain ⟨T37, h37, k37, X37, e37, E37, A37, Y37, st37⟩ := newPE X0 hx hZ (hw _ (List.mem_of_getElem? (i := 0) rfl)) e0 (g := (mkF m 19 #[.val (.int i), .val (.int j), .val (.int k), .val (.int o), .val (.int (1 : Int32)), .val (.int qe), .val (.int c1), .val (.int c2), .unset, .unset, .unset, .unset] [(.int (3 : Int32))])) rfl (hb hby at_19) rfl (by decide) (cap := 3) (by decide) (by decide) (by decide) (by decide) (ad := "[B") (by decide)
    obtain ⟨b37, g37⟩ : ∃ z, z = h0.size := ⟨_, rfl⟩
    rw [← g37] at A37 Y37 st37
    have gn_b37 : n0 ≤ b37 := Nat.le_trans Z0 (Nat.le_of_eq g37.symm)
    have Zs37 : n0 ≤ h37.size := Nat.le_trans Z0 E37.1
    refine Go.st st37 ?_
    have V37 : Arv Z h37 b37 k37 .byte (3 : Int32) [(.int (0 : Int32)), (.int (0 : Int32)), (.int (0 : Int32))] (.int (0 : Int32)) := (Arv.new A37 (by decide)).pad (pad_rep [] (.int (0 : Int32)) 3)
    show Go p e below _ (T37.setTop (mkF m 21 #[.val (.int i), .val (.int j), .val (.int k), .val (.int o), .val (.int (1 : Int32)), .val (.int qe), .val (.int c1), .val (.int c2), .unset, .unset, .unset, .unset] [(.ref b37)]))
    refine Go.st (fun _ kt => XS.dup X37.here hx rfl (hb hby at_21) rfl rfl kt) ?_
    show Go p e below _ (T37.setTop (mkF m 22 #[.val (.int i), .val (.int j), .val (.int k), .val (.int o), .val (.int (1 : Int32)), .val (.int qe), .val (.int c1), .val (.int c2), .unset, .unset, .unset, .unset] [(.ref b37), (.ref b37)]))
    refine Go.st (fun _ kt => XS.iconst X37.here hx rfl (hb hby at_22) kt) ?_
    show Go p e below _ (T37.setTop (mkF m 23 #[.val (.int i), .val (.int j), .val (.int k), .val (.int o), .val (.int (1 : Int32)), .val (.int qe), .val (.int c1), .val (.int c2), .unset, .unset, .unset, .unset] [(.int (0 : Int32)), (.ref b37), (.ref b37)]))
    refine Go.st (fun _ kt => XS.bipush X37.here hx rfl (hb hby at_23) kt) ?_
    show Go p e below _ (T37.setTop (mkF m 25 #[.val (.int i), .val (.int j), .val (.int k), .val (.int o), .val (.int (1 : Int32)), .val (.int qe), .val (.int c1), .val (.int c2), .unset, .unset, .unset, .unset] [(.int (90 : Int32)), (.int (0 : Int32)), (.ref b37), (.ref b37)]))
    obtain ⟨cl38, Ar38, q38, S38, N38', H38, G38⟩ := id V37
    have hin38 : ¬ ((0 : Int32) < 0 ∨ cl38.slots.size ≤ ((0 : Int32)).toNatClampNeg) := inb_of S38 ⟨by decide, by decide⟩
    obtain ⟨T39, h39, X39, e39, W39, st39⟩ := stB X37 hx hZ e37 Ar38 (j := (0 : Int32)) hin38 (g := (mkF m 25 #[.val (.int i), .val (.int j), .val (.int k), .val (.int o), .val (.int (1 : Int32)), .val (.int qe), .val (.int c1), .val (.int c2), .unset, .unset, .unset, .unset] [(.int (90 : Int32)), (.int (0 : Int32)), (.ref b37), (.ref b37)])) rfl rfl (hb hby at_25)
    refine Go.st st39 ?_
    have V39 : Arv Z h39 b37 k37 .byte (3 : Int32) [(.int (90 : Int32)), (.int (0 : Int32)), (.int (0 : Int32))] (.int (0 : Int32)) := Arv.set Ar38 q38 S38 N38' H38 G38 (fits_nar_byte _) W39 0 rfl (Nat.le_of_ble_eq_true rfl)
    have Zs39 : n0 ≤ h39.size := Nat.le_trans Zs37 (Nat.le_of_eq W39.size.symm)
    have N39 := Fr.snoc X39 N0 gn_b37
    show Go p e below _ (T39.setTop (mkF m 26 #[.val (.int i), .val (.int j), .val (.int k), .val (.int o), .val (.int (1 : Int32)), .val (.int qe), .val (.int c1), .val (.int c2), .unset, .unset, .unset, .unset] [(.ref b37)]))
    refine Go.st (fun _ kt => XS.dup X39.here hx rfl (hb hby at_26) rfl rfl kt) ?_
    show Go p e below _ (T39.setTop (mkF m 27 #[.val (.int i), .val (.int j), .val (.int k), .val (.int o), .val (.int (1 : Int32)), .val (.int qe), .val (.int c1), .val (.int c2), .unset, .unset, .unset, .unset] [(.ref b37), (.ref b37)]))
    refine Go.st (fun _ kt => XS.iconst X39.here hx rfl (hb hby at_27) kt) ?_
    show Go p e below _ (T39.setTop (mkF m 28 #[.val (.int i), .val (.int j), .val (.int k), .val (.int o), .val (.int (1 : Int32)), .val (.int qe), .val (.int c1), .val (.int c2), .unset, .unset, .unset, .unset] [(.int (1 : Int32)), (.ref b37), (.ref b37)]))
    refine Go.st (fun _ kt => XS.bipush X39.here hx rfl (hb hby at_28) kt) ?_
    show Go p e below _ (T39.setTop (mkF m 30 #[.val (.int i), .val (.int j), .val (.int k), .val (.int o), .val (.int (1 : Int32)), .val (.int qe), .val (.int c1), .val (.int c2), .unset, .unset, .unset, .unset] [(.int (-91 : Int32)), (.int (1 : Int32)), (.ref b37), (.ref b37)]))
    obtain ⟨cl40, Ar40, q40, S40, N40', H40, G40⟩ := id V39
    have hin40 : ¬ ((1 : Int32) < 0 ∨ cl40.slots.size ≤ ((1 : Int32)).toNatClampNeg) := inb_of S40 ⟨by decide, by decide⟩
    obtain ⟨T41, h41, X41, e41, W41, st41⟩ := stB X39 hx hZ e39 Ar40 (j := (1 : Int32)) hin40 (g := (mkF m 30 #[.val (.int i), .val (.int j), .val (.int k), .val (.int o), .val (.int (1 : Int32)), .val (.int qe), .val (.int c1), .val (.int c2), .unset, .unset, .unset, .unset] [(.int (-91 : Int32)), (.int (1 : Int32)), (.ref b37), (.ref b37)])) rfl rfl (hb hby at_30)
    refine Go.st st41 ?_
    have V41 : Arv Z h41 b37 k37 .byte (3 : Int32) [(.int (90 : Int32)), (.int (-91 : Int32)), (.int (0 : Int32))] (.int (0 : Int32)) := Arv.set Ar40 q40 S40 N40' H40 G40 (fits_nar_byte _) W41 1 rfl (Nat.le_of_ble_eq_true rfl)
    have Zs41 : n0 ≤ h41.size := Nat.le_trans Zs39 (Nat.le_of_eq W41.size.symm)
    have N41 := Fr.snoc X41 N39 gn_b37
    show Go p e below _ (T41.setTop (mkF m 31 #[.val (.int i), .val (.int j), .val (.int k), .val (.int o), .val (.int (1 : Int32)), .val (.int qe), .val (.int c1), .val (.int c2), .unset, .unset, .unset, .unset] [(.ref b37)]))
    refine Go.st (fun _ kt => XS.dup X41.here hx rfl (hb hby at_31) rfl rfl kt) ?_
    show Go p e below _ (T41.setTop (mkF m 32 #[.val (.int i), .val (.int j), .val (.int k), .val (.int o), .val (.int (1 : Int32)), .val (.int qe), .val (.int c1), .val (.int c2), .unset, .unset, .unset, .unset] [(.ref b37), (.ref b37)]))
    refine Go.st (fun _ kt => XS.iconst X41.here hx rfl (hb hby at_32) kt) ?_
    show Go p e below _ (T41.setTop (mkF m 33 #[.val (.int i), .val (.int j), .val (.int k), .val (.int o), .val (.int (1 : Int32)), .val (.int qe), .val (.int c1), .val (.int c2), .unset, .unset, .unset, .unset] [(.int (2 : Int32)), (.ref b37), (.ref b37)]))
    refine Go.st (fun _ kt => XS.bipush X41.here hx rfl (hb hby at_33) kt) ?_
    show Go p e below _ (T41.setTop (mkF m 35 #[.val (.int i), .val (.int j), .val (.int k), .val (.int o), .val (.int (1 : Int32)), .val (.int qe), .val (.int c1), .val (.int c2), .unset, .unset, .unset, .unset] [(.int (60 : Int32)), (.int (2 : Int32)), (.ref b37), (.ref b37)]))
    obtain ⟨cl42, Ar42, q42, S42, N42', H42, G42⟩ := id V41
    have hin42 : ¬ ((2 : Int32) < 0 ∨ cl42.slots.size ≤ ((2 : Int32)).toNatClampNeg) := inb_of S42 ⟨by decide, by decide⟩
    obtain ⟨T43, h43, X43, e43, W43, st43⟩ := stB X41 hx hZ e41 Ar42 (j := (2 : Int32)) hin42 (g := (mkF m 35 #[.val (.int i), .val (.int j), .val (.int k), .val (.int o), .val (.int (1 : Int32)), .val (.int qe), .val (.int c1), .val (.int c2), .unset, .unset, .unset, .unset] [(.int (60 : Int32)), (.int (2 : Int32)), (.ref b37), (.ref b37)])) rfl rfl (hb hby at_35)
    refine Go.st st43 ?_
    have V43 : Arv Z h43 b37 k37 .byte (3 : Int32) [(.int (90 : Int32)), (.int (-91 : Int32)), (.int (60 : Int32))] (.int (0 : Int32)) := Arv.set Ar42 q42 S42 N42' H42 G42 (fits_nar_byte _) W43 2 rfl (Nat.le_of_ble_eq_true rfl)
    have Zs43 : n0 ≤ h43.size := Nat.le_trans Zs41 (Nat.le_of_eq W43.size.symm)
    have N43 := Fr.snoc X43 N41 gn_b37
    show Go p e below _ (T43.setTop (mkF m 36 #[.val (.int i), .val (.int j), .val (.int k), .val (.int o), .val (.int (1 : Int32)), .val (.int qe), .val (.int c1), .val (.int c2), .unset, .unset, .unset, .unset] [(.ref b37)]))
    refine Go.st (fun _ kt => XS.astore X43.here hx rfl (hb hby at_36) rfl rfl (l' := #[.val (.int i), .val (.int j), .val (.int k), .val (.int o), .val (.int (1 : Int32)), .val (.int qe), .val (.int c1), .val (.int c2), .val (.ref b37), .unset, .unset, .unset]) rfl kt) ?_
    show Go p e below _ (T43.setTop (mkF m 38 #[.val (.int i), .val (.int j), .val (.int k), .val (.int o), .val (.int (1 : Int32)), .val (.int qe), .val (.int c1), .val (.int c2), .val (.ref b37), .unset, .unset, .unset] []))
    obtain ⟨T44, h44, X44, e44, E44, A44, D44, U44, st44⟩ := newO X43 hx hZ hown (hw _ (List.mem_of_getElem? (i := 1) rfl)) (hw _ (List.mem_of_getElem? (i := 2) rfl)) (hw _ (List.mem_of_getElem? (i := 3) rfl)) e43 (g := (mkF m 38 #[.val (.int i), .val (.int j), .val (.int k), .val (.int o), .val (.int (1 : Int32)), .val (.int qe), .val (.int c1), .val (.int c2), .val (.ref b37), .unset, .unset, .unset] [])) rfl (hb hby at_38) (by decide) (by decide)
    obtain ⟨b44, g44⟩ : ∃ z, z = h43.size := ⟨_, rfl⟩
    rw [← g44] at A44 D44 U44 st44
    have f45 := (((Y37.wr W39).wr W41).wr W43)
    have lt_b37_b44 : b37 < b44 := Nat.lt_of_lt_of_eq f45.lt g44.symm
    have gn_b44 : n0 ≤ b44 := Nat.le_trans Zs43 (Nat.le_of_eq g44.symm)
    have Zs44 : n0 ≤ h44.size := Nat.le_trans Zs43 E44.1
    refine Go.st st44 ?_
    have F44_segments : Fld Z h44 b44 "com/example/rowsieve/rowsieve/format/GrowingBytes" "segments" "[[B" .null := D44 (Or.inl (hw _ (List.mem_of_getElem? (i := 13) rfl))) (ty := (.array (.array .byte))) (by decide)
    have F44_bases : Fld Z h44 b44 "com/example/rowsieve/rowsieve/format/GrowingBytes" "bases" "[I" .null := D44 (Or.inl (hw _ (List.mem_of_getElem? (i := 16) rfl))) (ty := (.array .int)) (by decide)
    have F44_firstBytes : Fld Z h44 b44 "com/example/rowsieve/rowsieve/format/GrowingBytes" "firstBytes" "I" (.int (0 : Int32)) := D44 (Or.inr (hw _ (List.mem_of_getElem? (i := 18) rfl))) (ty := .int) (by decide)
    have F44_segmentBytes : Fld Z h44 b44 "com/example/rowsieve/rowsieve/format/GrowingBytes" "segmentBytes" "I" (.int (0 : Int32)) := D44 (Or.inr (hw _ (List.mem_of_getElem? (i := 20) rfl))) (ty := .int) (by decide)
    have F44_last : Fld Z h44 b44 "com/example/rowsieve/rowsieve/format/GrowingBytes" "last" "[B" .null := D44 (Or.inl (hw _ (List.mem_of_getElem? (i := 27) rfl))) (ty := (.array .byte)) (by decide)
    have F44_count : Fld Z h44 b44 "com/example/rowsieve/rowsieve/format/GrowingBytes" "count" "I" (.int (0 : Int32)) := D44 (Or.inl (hw _ (List.mem_of_getElem? (i := 33) rfl))) (ty := .int) (by decide)
    have F44_end : Fld Z h44 b44 "com/example/rowsieve/rowsieve/format/GrowingBytes" "end" "I" (.int (0 : Int32)) := D44 (Or.inl (hw _ (List.mem_of_getElem? (i := 45) rfl))) (ty := .int) (by decide)
    show Go p e below _ (T44.setTop (mkF m 41 #[.val (.int i), .val (.int j), .val (.int k), .val (.int o), .val (.int (1 : Int32)), .val (.int qe), .val (.int c1), .val (.int c2), .val (.ref b37), .unset, .unset, .unset] [(.ref b44)]))
    refine Go.st (fun _ kt => XS.dup X44.here hx rfl (hb hby at_41) rfl rfl kt) ?_
    show Go p e below _ (T44.setTop (mkF m 42 #[.val (.int i), .val (.int j), .val (.int k), .val (.int o), .val (.int (1 : Int32)), .val (.int qe), .val (.int c1), .val (.int c2), .val (.ref b37), .unset, .unset, .unset] [(.ref b44), (.ref b44)]))
    refine Go.st (fun _ kt => XS.iload X44.here hx rfl (hb hby at_42) rfl kt) ?_
    show Go p e below _ (T44.setTop (mkF m 44 #[.val (.int i), .val (.int j), .val (.int k), .val (.int o), .val (.int (1 : Int32)), .val (.int qe), .val (.int c1), .val (.int c2), .val (.ref b37), .unset, .unset, .unset] [(.int (1 : Int32)), (.ref b44), (.ref b44)]))
    refine Go.st (fun _ kt => XS.iconst X44.here hx rfl (hb hby at_44) kt) ?_
    show Go p e below _ (T44.setTop (mkF m 45 #[.val (.int i), .val (.int j), .val (.int k), .val (.int o), .val (.int (1 : Int32)), .val (.int qe), .val (.int c1), .val (.int c2), .val (.ref b37), .unset, .unset, .unset] [(.int (4 : Int32)), (.int (1 : Int32)), (.ref b44), (.ref b44)]))
    refine Go.st (fun _ kt => XS.iadd X44.here hx rfl (hb hby at_45) rfl kt) ?_
    show Go p e below _ (T44.setTop (mkF m 46 #[.val (.int i), .val (.int j), .val (.int k), .val (.int o), .val (.int (1 : Int32)), .val (.int qe), .val (.int c1), .val (.int c2), .val (.ref b37), .unset, .unset, .unset] [(.int (5 : Int32)), (.ref b44), (.ref b44)]))
    refine Go.st (fun _ kt => XS.iload X44.here hx rfl (hb hby at_46) rfl kt) ?_
    show Go p e below _ (T44.setTop (mkF m 48 #[.val (.int i), .val (.int j), .val (.int k), .val (.int o), .val (.int (1 : Int32)), .val (.int qe), .val (.int c1), .val (.int c2), .val (.ref b37), .unset, .unset, .unset] [(.int qe), (.int (5 : Int32)), (.ref b44), (.ref b44)]))
    refine Go.st (fun _ kt => XS.iadd X44.here hx rfl (hb hby at_48) rfl kt) ?_
    show Go p e below _ (T44.setTop (mkF m 49 #[.val (.int i), .val (.int j), .val (.int k), .val (.int o), .val (.int (1 : Int32)), .val (.int qe), .val (.int c1), .val (.int c2), .val (.ref b37), .unset, .unset, .unset] [(.int ((5 : Int32) + qe)), (.ref b44), (.ref b44)]))
    have hs_ := own_sum (5 : Int32) qe hqe0 (by decide)
    generalize hsz : (((5 : Int32) + qe) : Int32) = sz
    show Go p e below _ (T44.setTop (mkF m 49 #[.val (.int i), .val (.int j), .val (.int k), .val (.int o), .val (.int (1 : Int32)), .val (.int qe), .val (.int c1), .val (.int c2), .val (.ref b37), .unset, .unset, .unset] [(.int sz), (.ref b44), (.ref b44)]))
    rw [hsz, (by decide : (5 : Int32).toInt = 5)] at hs_
    have hz : (5 : Int) ≤ sz.toInt ∧ sz.toInt ≤ 8 := by omega
    refine Go.st (fun _ kt => XS.bipush X44.here hx rfl (hb hby at_49) kt) ?_
    show Go p e below _ (T44.setTop (mkF m 51 #[.val (.int i), .val (.int j), .val (.int k), .val (.int o), .val (.int (1 : Int32)), .val (.int qe), .val (.int c1), .val (.int c2), .val (.ref b37), .unset, .unset, .unset] [(.int (64 : Int32)), (.int sz), (.ref b44), (.ref b44)]))
    obtain ⟨_, _, ⟨T46, L46, k46, n46⟩, -, X46, ⟨Lc46, hQ46, l46, y46, z46⟩, st46⟩ := X44.specialBack hx (y := (⟨"com/example/rowsieve/rowsieve/format/GrowingBytes", "<init>", "(II)V"⟩ : MethodName)) rfl hown (mvT hZ (hw _ (List.mem_of_getElem? (i := 4) rfl))) (mvT hZ (hw _ (List.mem_of_getElem? (i := 5) rfl))) (mvT hZ (hw _ (List.mem_of_getElem? (i := 6) rfl))) (by decide) (backOf (W := 1) (rm1 l Z a0 hw [] b44 sz (64 : Int32) h44 n0 Zs44 A44 F44_segments F44_bases F44_last F44_firstBytes F44_segmentBytes F44_end F44_count gn_b44) hZ (hw _ (List.mem_of_getElem? (i := 6) rfl)) (hw _ (List.mem_of_getElem? (i := 3) rfl)) (by decide) (by decide)) (g := (mkF m 51 #[.val (.int i), .val (.int j), .val (.int k), .val (.int o), .val (.int (1 : Int32)), .val (.int qe), .val (.int c1), .val (.int c2), .val (.ref b37), .unset, .unset, .unset] [(.int (64 : Int32)), (.int sz), (.ref b44), (.ref b44)])) rfl (by rw [hml]; rfl) (Steps.refl _) (a := b44) (argsL := [(.int sz), (.int (64 : Int32))]) (rest := [(.ref b44)]) (lenOf own_pd5 rfl) rfl (by show 2 * 0 + _ ≤ _; exact Nat.le_of_eq rfl) (hb hby at_51) (fun _ _ => ⟨rfl, e44, (by decide : 2 + 2 ≤ _), (by decide : 10 + 8 ≤ _)⟩)
    dsimp only [Pt.U, Pt.locs, Pt.cells, Pt.slots] at X46 l46 y46 z46 st46 hQ46
    subst l46 y46 z46
    obtain ⟨sg46, ks46, bs46, kb46, rfl, N46q, K46q, hs46, ht46, nsb46, O46, G46_0, G46_1, G46_2, G46_3, G46_4, G46_5, G46_6, G46_7, G46_8⟩ := hQ46
    have f47 := (f45.ext E44)
    have lt_b37_sg46 : b37 < sg46 := Nat.lt_of_lt_of_le f47.lt hs46
    have lt_b44_sg46 : b44 < sg46 := Nat.lt_of_lt_of_le A44.lt hs46
    have gn_sg46 : n0 ≤ sg46 := Nat.le_trans Zs44 hs46
    have lt_b37_bs46 : b37 < bs46 := Nat.lt_of_lt_of_le f47.lt ht46
    have lt_b44_bs46 : b44 < bs46 := Nat.lt_of_lt_of_le A44.lt ht46
    have gn_bs46 : n0 ≤ bs46 := Nat.le_trans Zs44 ht46
    have Zs46 : n0 ≤ T46.heap.size := Nat.le_trans Zs44 K46q.1
    have N46 := Fr.app N43 N46q
    refine Go.tr st46 ?_
    show Go p e below _ (T46.setTop (mkF m 54 #[.val (.int i), .val (.int j), .val (.int k), .val (.int o), .val (.int (1 : Int32)), .val (.int qe), .val (.int c1), .val (.int c2), .val (.ref b37), .unset, .unset, .unset] [(.ref b44)]))
    refine Go.st (fun _ kt => XS.astore X46.here hx rfl (hb hby at_54) rfl rfl (l' := #[.val (.int i), .val (.int j), .val (.int k), .val (.int o), .val (.int (1 : Int32)), .val (.int qe), .val (.int c1), .val (.int c2), .val (.ref b37), .val (.ref b44), .unset, .unset]) rfl kt) ?_
    show Go p e below _ (T46.setTop (mkF m 56 #[.val (.int i), .val (.int j), .val (.int k), .val (.int o), .val (.int (1 : Int32)), .val (.int qe), .val (.int c1), .val (.int c2), .val (.ref b37), .val (.ref b44), .unset, .unset] []))
    refine Go.st (fun _ kt => XS.aload X46.here hx rfl (hb hby at_56) rfl rfl kt) ?_
    show Go p e below _ (T46.setTop (mkF m 58 #[.val (.int i), .val (.int j), .val (.int k), .val (.int o), .val (.int (1 : Int32)), .val (.int qe), .val (.int c1), .val (.int c2), .val (.ref b37), .val (.ref b44), .unset, .unset] [(.ref b44)]))
    refine Go.st (fun _ kt => XS.iload X46.here hx rfl (hb hby at_58) rfl kt) ?_
    show Go p e below _ (T46.setTop (mkF m 60 #[.val (.int i), .val (.int j), .val (.int k), .val (.int o), .val (.int (1 : Int32)), .val (.int qe), .val (.int c1), .val (.int c2), .val (.ref b37), .val (.ref b44), .unset, .unset] [(.int (1 : Int32)), (.ref b44)]))
    refine Go.st (fun _ kt => XS.iconst X46.here hx rfl (hb hby at_60) kt) ?_
    show Go p e below _ (T46.setTop (mkF m 61 #[.val (.int i), .val (.int j), .val (.int k), .val (.int o), .val (.int (1 : Int32)), .val (.int qe), .val (.int c1), .val (.int c2), .val (.ref b37), .val (.ref b44), .unset, .unset] [(.int (4 : Int32)), (.int (1 : Int32)), (.ref b44)]))
    refine Go.st (fun _ kt => XS.iadd X46.here hx rfl (hb hby at_61) rfl kt) ?_
    show Go p e below _ (T46.setTop (mkF m 62 #[.val (.int i), .val (.int j), .val (.int k), .val (.int o), .val (.int (1 : Int32)), .val (.int qe), .val (.int c1), .val (.int c2), .val (.ref b37), .val (.ref b44), .unset, .unset] [(.int (5 : Int32)), (.ref b44)]))
    have f48 := (A44.keep K46q)
    obtain ⟨cq49, kq49, q49a, q49b, q49c⟩ := isOf hZ rfl f48
    obtain ⟨_, _, ⟨T49, L49, k49, n49⟩, -, X49, ⟨Lc49, hQ49, l49, y49, z49⟩, st49⟩ := X46.virtualBack hx (y := (⟨"com/example/rowsieve/rowsieve/format/GrowingBytes", "makeRoom", "(I)V"⟩ : MethodName)) (z := (⟨"com/example/rowsieve/rowsieve/format/GrowingBytes", "makeRoom", "(I)V"⟩ : MethodName)) hown (mvT hZ (hw _ (List.mem_of_getElem? (i := 21) rfl))) (mvT hZ (hw _ (List.mem_of_getElem? (i := 22) rfl))) (notFace_of_selects (args := #[]) (mvT hZ (hw _ (List.mem_of_getElem? (i := 24) rfl)))) (mvT hZ (hw _ (List.mem_of_getElem? (i := 24) rfl))) (mvT hZ (hw _ (List.mem_of_getElem? (i := 23) rfl))) (by decide) (backOf (W := 0) (rm3 l Z a0 hw [] b44 (5 : Int32) sg46 ks46 bs46 kb46 sz (64 : Int32) sz T46.heap n0 Zs46 f48 G46_0 G46_1 G46_2 G46_3 G46_4 G46_5 G46_6 G46_7 G46_8 O46 gn_b44 gn_sg46 gn_bs46 nsb46 (Nat.ne_of_lt lt_b44_sg46) (Nat.ne_of_lt lt_b44_bs46) (own_maxR hz.1) (by omega) (by omega)) hZ (hw _ (List.mem_of_getElem? (i := 25) rfl)) (hw _ (List.mem_of_getElem? (i := 3) rfl)) (by decide) (by decide)) q49a q49c (g := (mkF m 62 #[.val (.int i), .val (.int j), .val (.int k), .val (.int o), .val (.int (1 : Int32)), .val (.int qe), .val (.int c1), .val (.int c2), .val (.ref b37), .val (.ref b44), .unset, .unset] [(.int (5 : Int32)), (.ref b44)])) rfl (by rw [hml]; rfl) (Steps.refl _) (argsL := [(.int (5 : Int32))]) (rest := []) (lenOf own_pd3 rfl) rfl (by show 2 * 0 + _ ≤ _; exact Nat.le_of_eq rfl) (hb hby at_62) (fun _ _ => ⟨rfl, rfl, (by decide : 4 + 1 ≤ _), (by decide : 18 + 16 ≤ _)⟩)
    dsimp only [Pt.U, Pt.locs, Pt.cells, Pt.slots] at X49 l49 y49 z49 st49 hQ49
    subst l49 y49 z49
    obtain ⟨la49, kl49, rfl, N49q, K49q, hs49, G49_0, G49_1, G49_2, G49_3, G49_4, G49_5, G49_6, G49_7⟩ := hQ49
    have f50 := (f47.keep K46q)
    have lt_b37_la49 : b37 < la49 := Nat.lt_of_lt_of_le f50.lt hs49
    have lt_b44_la49 : b44 < la49 := Nat.lt_of_lt_of_le f48.lt hs49
    have lt_sg46_la49 : sg46 < la49 := Nat.lt_of_lt_of_le G46_7.lt hs49
    have lt_bs46_la49 : bs46 < la49 := Nat.lt_of_lt_of_le G46_8.lt hs49
    have gn_la49 : n0 ≤ la49 := Nat.le_trans Zs46 hs49
    have Zs49 : n0 ≤ T49.heap.size := Nat.le_trans Zs46 K49q.1
    have N49 := Fr.app N46 N49q
    have VL49 : Arv Z T49.heap la49 kl49 .byte sz [(.int (0 : Int32)), (.int (0 : Int32)), (.int (0 : Int32)), (.int (0 : Int32)), (.int (0 : Int32))] (.int (0 : Int32)) := G49_7.pad (pad_rep [] (.int (0 : Int32)) 5)
    refine Go.tr st49 ?_
    show Go p e below _ (T49.setTop (mkF m 65 #[.val (.int i), .val (.int j), .val (.int k), .val (.int o), .val (.int (1 : Int32)), .val (.int qe), .val (.int c1), .val (.int c2), .val (.ref b37), .val (.ref b44), .unset, .unset] []))
    refine Go.st (fun _ kt => XS.aload X49.here hx rfl (hb hby at_65) rfl rfl kt) ?_
    show Go p e below _ (T49.setTop (mkF m 67 #[.val (.int i), .val (.int j), .val (.int k), .val (.int o), .val (.int (1 : Int32)), .val (.int qe), .val (.int c1), .val (.int c2), .val (.ref b37), .val (.ref b44), .unset, .unset] [(.ref b44)]))
    refine Go.st (fun _ kt => XS.aload X49.here hx rfl (hb hby at_67) rfl rfl kt) ?_
    show Go p e below _ (T49.setTop (mkF m 69 #[.val (.int i), .val (.int j), .val (.int k), .val (.int o), .val (.int (1 : Int32)), .val (.int qe), .val (.int c1), .val (.int c2), .val (.ref b37), .val (.ref b44), .unset, .unset] [(.ref b37), (.ref b44)]))
    refine Go.st (fun _ kt => XS.iconst X49.here hx rfl (hb hby at_69) kt) ?_
    show Go p e below _ (T49.setTop (mkF m 70 #[.val (.int i), .val (.int j), .val (.int k), .val (.int o), .val (.int (1 : Int32)), .val (.int qe), .val (.int c1), .val (.int c2), .val (.ref b37), .val (.ref b44), .unset, .unset] [(.int (0 : Int32)), (.ref b37), (.ref b44)]))
    refine Go.st (fun _ kt => XS.iload X49.here hx rfl (hb hby at_70) rfl kt) ?_
    show Go p e below _ (T49.setTop (mkF m 72 #[.val (.int i), .val (.int j), .val (.int k), .val (.int o), .val (.int (1 : Int32)), .val (.int qe), .val (.int c1), .val (.int c2), .val (.ref b37), .val (.ref b44), .unset, .unset] [(.int (1 : Int32)), (.int (0 : Int32)), (.ref b37), (.ref b44)]))
    have f51 := (f48.keep K49q)
    have f52 := (((V43.ext E44).keep K46q (ninS (Nat.ne_of_lt lt_b37_b44) nin0)).keep K49q (ninS (Nat.ne_of_lt lt_b37_b44) (ninS (Nat.ne_of_lt lt_b37_sg46) (ninS (Nat.ne_of_lt lt_b37_bs46) nin0))))
    obtain ⟨cq53, kq53, q53a, q53b, q53c⟩ := isOf hZ rfl f51
    obtain ⟨_, _, ⟨T53, L53, k53, n53⟩, -, X53, ⟨Lc53, hQ53, l53, y53, z53⟩, st53⟩ := X49.virtualBack hx (y := (⟨"com/example/rowsieve/rowsieve/format/GrowingBytes", "put", "([BII)V"⟩ : MethodName)) (z := (⟨"com/example/rowsieve/rowsieve/format/GrowingBytes", "put", "([BII)V"⟩ : MethodName)) hown (mvT hZ (hw _ (List.mem_of_getElem? (i := 46) rfl))) (mvT hZ (hw _ (List.mem_of_getElem? (i := 47) rfl))) (notFace_of_selects (args := #[]) (mvT hZ (hw _ (List.mem_of_getElem? (i := 49) rfl)))) (mvT hZ (hw _ (List.mem_of_getElem? (i := 49) rfl))) (mvT hZ (hw _ (List.mem_of_getElem? (i := 48) rfl))) (by decide) (backOf (W := 0) (rm7 l Z a0 hw [] b44 b37 (1 : Int32) la49 kl49 sz [(.int (0 : Int32)), (.int (0 : Int32)), (.int (0 : Int32)), (.int (0 : Int32)), (.int (0 : Int32))] [(.int (90 : Int32)), (.int (0 : Int32)), (.int (0 : Int32)), (.int (0 : Int32)), (.int (0 : Int32))] sg46 bs46 k37 [(.int (90 : Int32)), (.int (-91 : Int32)), (.int (60 : Int32))] (1 : Int32) T49.heap n0 Zs49 f51 G49_0 G49_1 G49_2 G49_4 G49_3 VL49 f52 gn_b44 gn_la49 (Nat.ne_of_lt lt_b44_la49) (Nat.ne_of_lt lt_b37_la49) (Nat.ne_of_lt lt_b37_b44) (by decide) (by decide) (own_natl (n := 1) (by omega)) (by decide) rfl rfl) hZ (hw _ (List.mem_of_getElem? (i := 50) rfl)) (hw _ (List.mem_of_getElem? (i := 3) rfl)) (by decide) (by decide)) q53a q53c (g := (mkF m 72 #[.val (.int i), .val (.int j), .val (.int k), .val (.int o), .val (.int (1 : Int32)), .val (.int qe), .val (.int c1), .val (.int c2), .val (.ref b37), .val (.ref b44), .unset, .unset] [(.int (1 : Int32)), (.int (0 : Int32)), (.ref b37), (.ref b44)])) rfl (by rw [hml]; rfl) (Steps.refl _) (argsL := [(.ref b37), (.int (0 : Int32)), (.int (1 : Int32))]) (rest := []) (lenOf own_pd6 rfl) rfl (by show 2 * 0 + _ ≤ _; exact Nat.le_of_eq rfl) (hb hby at_72) (fun _ _ => ⟨rfl, rfl, (by decide : 5 + 0 ≤ _), (by decide : 34 + 0 ≤ _)⟩)
    dsimp only [Pt.U, Pt.locs, Pt.cells, Pt.slots] at X53 l53 y53 z53 st53 hQ53
    subst l53 y53 z53
    obtain ⟨rfl, N53q, K53q, G53_0, G53_1, G53_2, G53_3, G53_4, G53_5⟩ := hQ53
    have Zs53 : n0 ≤ T53.heap.size := Nat.le_trans Zs49 K53q.1
    have N53 := Fr.app N49 N53q
    refine Go.tr st53 ?_
    show Go p e below _ (T53.setTop (mkF m 75 #[.val (.int i), .val (.int j), .val (.int k), .val (.int o), .val (.int (1 : Int32)), .val (.int qe), .val (.int c1), .val (.int c2), .val (.ref b37), .val (.ref b44), .unset, .unset] []))
    refine Go.st (fun _ kt => XS.aload X53.here hx rfl (hb hby at_75) rfl rfl kt) ?_
    show Go p e below _ (T53.setTop (mkF m 77 #[.val (.int i), .val (.int j), .val (.int k), .val (.int o), .val (.int (1 : Int32)), .val (.int qe), .val (.int c1), .val (.int c2), .val (.ref b37), .val (.ref b44), .unset, .unset] [(.ref b44)]))
    refine Go.st (fun _ kt => XS.iload X53.here hx rfl (hb hby at_77) rfl kt) ?_
    show Go p e below _ (T53.setTop (mkF m 79 #[.val (.int i), .val (.int j), .val (.int k), .val (.int o), .val (.int (1 : Int32)), .val (.int qe), .val (.int c1), .val (.int c2), .val (.ref b37), .val (.ref b44), .unset, .unset] [(.int c1), (.ref b44)]))
    have f54 := (f51.keep K53q)
    obtain ⟨cq55, kq55, q55a, q55b, q55c⟩ := isOf hZ rfl f54
    obtain ⟨_, _, ⟨T55, L55, k55, n55⟩, -, X55, ⟨Lc55, hQ55, l55, y55, z55⟩, st55⟩ := X53.virtualBack hx (y := (⟨"com/example/rowsieve/rowsieve/format/GrowingBytes", "putLittleEndian", "(C)V"⟩ : MethodName)) (z := (⟨"com/example/rowsieve/rowsieve/format/GrowingBytes", "putLittleEndian", "(C)V"⟩ : MethodName)) hown (mvT hZ (hw _ (List.mem_of_getElem? (i := 55) rfl))) (mvT hZ (hw _ (List.mem_of_getElem? (i := 56) rfl))) (notFace_of_selects (args := #[]) (mvT hZ (hw _ (List.mem_of_getElem? (i := 58) rfl)))) (mvT hZ (hw _ (List.mem_of_getElem? (i := 58) rfl))) (mvT hZ (hw _ (List.mem_of_getElem? (i := 57) rfl))) (by decide) (backOf (W := 0) (rm8 l Z a0 hw [] b44 c1 la49 kl49 sz [(.int (90 : Int32)), (.int (0 : Int32)), (.int (0 : Int32)), (.int (0 : Int32)), (.int (0 : Int32))] [(.int (90 : Int32)), (.int ((c1.toInt8.toInt32).toInt8.toInt32)), (.int ((((c1.toUInt32 >>> ((8 : Int32) &&& 31).toUInt32).toInt32).toInt8.toInt32).toInt8.toInt32)), (.int (0 : Int32)), (.int (0 : Int32))] sg46 bs46 (1 : Int32) (3 : Int32) T53.heap n0 Zs53 f54 G53_0 G53_1 G53_2 G53_3 G53_4 G53_5 gn_b44 gn_la49 (Nat.ne_of_lt lt_b44_la49) (own_lit hz.1 (by decide)) (own_lit hz.1 (by decide)) (Nat.le_of_ble_eq_true rfl) (Nat.le_of_ble_eq_true rfl) rfl (by decide)) hZ (hw _ (List.mem_of_getElem? (i := 59) rfl)) (hw _ (List.mem_of_getElem? (i := 3) rfl)) (by decide) (by decide)) q55a q55c (g := (mkF m 79 #[.val (.int i), .val (.int j), .val (.int k), .val (.int o), .val (.int (1 : Int32)), .val (.int qe), .val (.int c1), .val (.int c2), .val (.ref b37), .val (.ref b44), .unset, .unset] [(.int c1), (.ref b44)])) rfl (by rw [hml]; rfl) (Steps.refl _) (argsL := [(.int c1)]) (rest := []) (lenOf own_pd7 rfl) rfl (by show 2 * 0 + _ ≤ _; exact Nat.le_of_eq rfl) (hb hby at_79) (fun _ _ => ⟨rfl, rfl, (by decide : 5 + 0 ≤ _), (by decide : 34 + 0 ≤ _)⟩)
    dsimp only [Pt.U, Pt.locs, Pt.cells, Pt.slots] at X55 l55 y55 z55 st55 hQ55
    subst l55 y55 z55
    obtain ⟨rfl, N55q, K55q, G55_0, G55_1, G55_2, G55_3, G55_4, G55_5⟩ := hQ55
    have Zs55 : n0 ≤ T55.heap.size := Nat.le_trans Zs53 K55q.1
    have N55 := Fr.app N53 N55q
    refine Go.tr st55 ?_
    show Go p e below _ (T55.setTop (mkF m 82 #[.val (.int i), .val (.int j), .val (.int k), .val (.int o), .val (.int (1 : Int32)), .val (.int qe), .val (.int c1), .val (.int c2), .val (.ref b37), .val (.ref b44), .unset, .unset] []))
    refine Go.st (fun _ kt => XS.aload X55.here hx rfl (hb hby at_82) rfl rfl kt) ?_
    show Go p e below _ (T55.setTop (mkF m 84 #[.val (.int i), .val (.int j), .val (.int k), .val (.int o), .val (.int (1 : Int32)), .val (.int qe), .val (.int c1), .val (.int c2), .val (.ref b37), .val (.ref b44), .unset, .unset] [(.ref b44)]))
    have f56 := ((G49_6.keep K53q (ninS (Nat.ne_of_gt lt_b44_bs46) (ninS (Nat.ne_of_lt lt_bs46_la49) nin0))).keep K55q (ninS (Nat.ne_of_gt lt_b44_bs46) (ninS (Nat.ne_of_lt lt_bs46_la49) nin0)))
    have f58 := (f54.keep K55q)
    obtain ⟨cq57, kq57, q57a, q57b, q57c⟩ := isOf hZ rfl f58
    obtain ⟨_, _, ⟨T57, L57, k57, n57⟩, -, X57, ⟨Lc57, hQ57, l57, y57, z57⟩, st57⟩ := X55.virtualBack hx (y := (⟨"com/example/rowsieve/rowsieve/format/GrowingBytes", "length", "()I"⟩ : MethodName)) (z := (⟨"com/example/rowsieve/rowsieve/format/GrowingBytes", "length", "()I"⟩ : MethodName)) hown (mvT hZ (hw _ (List.mem_of_getElem? (i := 60) rfl))) (mvT hZ (hw _ (List.mem_of_getElem? (i := 35) rfl))) (notFace_of_selects (args := #[]) (mvT hZ (hw _ (List.mem_of_getElem? (i := 37) rfl)))) (mvT hZ (hw _ (List.mem_of_getElem? (i := 37) rfl))) (mvT hZ (hw _ (List.mem_of_getElem? (i := 36) rfl))) (by decide) (backOf (W := 0) (rm5_1 l Z a0 hw [] b44 bs46 kb46 (3 : Int32) (3 : Int32) T55.heap n0 Zs55 G55_3 G55_1 G55_4 f56 (by decide)) hZ (hw _ (List.mem_of_getElem? (i := 38) rfl)) (hw _ (List.mem_of_getElem? (i := 3) rfl)) (by decide) (by decide)) q57a q57c (g := (mkF m 84 #[.val (.int i), .val (.int j), .val (.int k), .val (.int o), .val (.int (1 : Int32)), .val (.int qe), .val (.int c1), .val (.int c2), .val (.ref b37), .val (.ref b44), .unset, .unset] [(.ref b44)])) rfl (by rw [hml]; rfl) (Steps.refl _) (argsL := []) (rest := []) (lenOf own_pd1 rfl) rfl (by show 2 * 0 + _ ≤ _; exact Nat.le_of_eq rfl) (hb hby at_84) (fun _ _ => ⟨rfl, rfl, (by decide : 5 + 0 ≤ _), (by decide : 34 + 0 ≤ _)⟩)
    dsimp only [Pt.U, Pt.locs, Pt.cells, Pt.slots] at X57 l57 y57 z57 st57 hQ57
    subst l57 y57 z57
    obtain ⟨rfl, N57q, e57⟩ := hQ57
    have N57 := Fr.app N55 N57q
    refine Go.tr st57 ?_
    show Go p e below _ (T57.setTop (mkF m 87 #[.val (.int i), .val (.int j), .val (.int k), .val (.int o), .val (.int (1 : Int32)), .val (.int qe), .val (.int c1), .val (.int c2), .val (.ref b37), .val (.ref b44), .unset, .unset] [(.int (3 : Int32))]))
    refine Go.st (fun _ kt => XS.istore X57.here hx rfl (hb hby at_87) rfl (l' := #[.val (.int i), .val (.int j), .val (.int k), .val (.int o), .val (.int (1 : Int32)), .val (.int qe), .val (.int c1), .val (.int c2), .val (.ref b37), .val (.ref b44), .val (.int (3 : Int32)), .unset]) rfl kt) ?_
    show Go p e below _ (T57.setTop (mkF m 89 #[.val (.int i), .val (.int j), .val (.int k), .val (.int o), .val (.int (1 : Int32)), .val (.int qe), .val (.int c1), .val (.int c2), .val (.ref b37), .val (.ref b44), .val (.int (3 : Int32)), .unset] []))
    refine Go.st (fun _ kt => XS.aload X57.here hx rfl (hb hby at_89) rfl rfl kt) ?_
    show Go p e below _ (T57.setTop (mkF m 91 #[.val (.int i), .val (.int j), .val (.int k), .val (.int o), .val (.int (1 : Int32)), .val (.int qe), .val (.int c1), .val (.int c2), .val (.ref b37), .val (.ref b44), .val (.int (3 : Int32)), .unset] [(.ref b44)]))
    refine Go.st (fun _ kt => XS.iload X57.here hx rfl (hb hby at_91) rfl kt) ?_
    show Go p e below _ (T57.setTop (mkF m 93 #[.val (.int i), .val (.int j), .val (.int k), .val (.int o), .val (.int (1 : Int32)), .val (.int qe), .val (.int c1), .val (.int c2), .val (.ref b37), .val (.ref b44), .val (.int (3 : Int32)), .unset] [(.int c2), (.ref b44)]))
    obtain ⟨cq59, kq59, q59a, q59b, q59c⟩ := isOf hZ e57 f58
    obtain ⟨_, _, ⟨T59, L59, k59, n59⟩, -, X59, ⟨Lc59, hQ59, l59, y59, z59⟩, st59⟩ := X57.virtualBack hx (y := (⟨"com/example/rowsieve/rowsieve/format/GrowingBytes", "putLittleEndian", "(C)V"⟩ : MethodName)) (z := (⟨"com/example/rowsieve/rowsieve/format/GrowingBytes", "putLittleEndian", "(C)V"⟩ : MethodName)) hown (mvT hZ (hw _ (List.mem_of_getElem? (i := 55) rfl))) (mvT hZ (hw _ (List.mem_of_getElem? (i := 56) rfl))) (notFace_of_selects (args := #[]) (mvT hZ (hw _ (List.mem_of_getElem? (i := 58) rfl)))) (mvT hZ (hw _ (List.mem_of_getElem? (i := 58) rfl))) (mvT hZ (hw _ (List.mem_of_getElem? (i := 57) rfl))) (by decide) (backOf (W := 0) (rm8 l Z a0 hw [] b44 c2 la49 kl49 sz [(.int (90 : Int32)), (.int ((c1.toInt8.toInt32).toInt8.toInt32)), (.int ((((c1.toUInt32 >>> ((8 : Int32) &&& 31).toUInt32).toInt32).toInt8.toInt32).toInt8.toInt32)), (.int (0 : Int32)), (.int (0 : Int32))] [(.int (90 : Int32)), (.int ((c1.toInt8.toInt32).toInt8.toInt32)), (.int ((((c1.toUInt32 >>> ((8 : Int32) &&& 31).toUInt32).toInt32).toInt8.toInt32).toInt8.toInt32)), (.int ((c2.toInt8.toInt32).toInt8.toInt32)), (.int ((((c2.toUInt32 >>> ((8 : Int32) &&& 31).toUInt32).toInt32).toInt8.toInt32).toInt8.toInt32))] sg46 bs46 (3 : Int32) (5 : Int32) T55.heap n0 Zs55 f58 G55_0 G55_1 G55_2 G55_3 G55_4 G55_5 gn_b44 gn_la49 (Nat.ne_of_lt lt_b44_la49) (own_lit hz.1 (by decide)) (own_lit hz.1 (by decide)) (Nat.le_of_ble_eq_true rfl) (Nat.le_of_ble_eq_true rfl) rfl (by decide)) hZ (hw _ (List.mem_of_getElem? (i := 59) rfl)) (hw _ (List.mem_of_getElem? (i := 3) rfl)) (by decide) (by decide)) q59a q59c (g := (mkF m 93 #[.val (.int i), .val (.int j), .val (.int k), .val (.int o), .val (.int (1 : Int32)), .val (.int qe), .val (.int c1), .val (.int c2), .val (.ref b37), .val (.ref b44), .val (.int (3 : Int32)), .unset] [(.int c2), (.ref b44)])) rfl (by rw [hml]; rfl) (Steps.refl _) (argsL := [(.int c2)]) (rest := []) (lenOf own_pd7 rfl) rfl (by show 2 * 0 + _ ≤ _; exact Nat.le_of_eq rfl) (hb hby at_93) (fun _ _ => ⟨rfl, e57, (by decide : 5 + 0 ≤ _), (by decide : 34 + 0 ≤ _)⟩)
    dsimp only [Pt.U, Pt.locs, Pt.cells, Pt.slots] at X59 l59 y59 z59 st59 hQ59
    subst l59 y59 z59
    obtain ⟨rfl, N59q, K59q, G59_0, G59_1, G59_2, G59_3, G59_4, G59_5⟩ := hQ59
    have Zs59 : n0 ≤ T59.heap.size := Nat.le_trans Zs55 K59q.1
    have N59 := Fr.app N57 N59q
    refine Go.tr st59 ?_
    show Go p e below _ (T59.setTop (mkF m 96 #[.val (.int i), .val (.int j), .val (.int k), .val (.int o), .val (.int (1 : Int32)), .val (.int qe), .val (.int c1), .val (.int c2), .val (.ref b37), .val (.ref b44), .val (.int (3 : Int32)), .unset] []))
    refine Go.st (fun _ kt => XS.aload X59.here hx rfl (hb hby at_96) rfl rfl kt) ?_
    show Go p e below _ (T59.setTop (mkF m 98 #[.val (.int i), .val (.int j), .val (.int k), .val (.int o), .val (.int (1 : Int32)), .val (.int qe), .val (.int c1), .val (.int c2), .val (.ref b37), .val (.ref b44), .val (.int (3 : Int32)), .unset] [(.ref b44)]))
    have f61 := (f58.keep K59q)
    obtain ⟨cq60, kq60, q60a, q60b, q60c⟩ := isOf hZ rfl f61
    obtain ⟨_, _, ⟨T60, L60, k60, n60⟩, -, X60, ⟨Lc60, hQ60, l60, y60, z60⟩, st60⟩ := X59.virtualBack hx (y := (⟨"com/example/rowsieve/rowsieve/format/GrowingBytes", "segmentCount", "()I"⟩ : MethodName)) (z := (⟨"com/example/rowsieve/rowsieve/format/GrowingBytes", "segmentCount", "()I"⟩ : MethodName)) hown (mvT hZ (hw _ (List.mem_of_getElem? (i := 61) rfl))) (mvT hZ (hw _ (List.mem_of_getElem? (i := 62) rfl))) (notFace_of_selects (args := #[]) (mvT hZ (hw _ (List.mem_of_getElem? (i := 64) rfl)))) (mvT hZ (hw _ (List.mem_of_getElem? (i := 64) rfl))) (mvT hZ (hw _ (List.mem_of_getElem? (i := 63) rfl))) (by decide) (backOf (W := 0) (rm9 l Z a0 hw [] b44 (1 : Int32) T59.heap n0 Zs59 G59_3) hZ (hw _ (List.mem_of_getElem? (i := 65) rfl)) (hw _ (List.mem_of_getElem? (i := 3) rfl)) (by decide) (by decide)) q60a q60c (g := (mkF m 98 #[.val (.int i), .val (.int j), .val (.int k), .val (.int o), .val (.int (1 : Int32)), .val (.int qe), .val (.int c1), .val (.int c2), .val (.ref b37), .val (.ref b44), .val (.int (3 : Int32)), .unset] [(.ref b44)])) rfl (by rw [hml]; rfl) (Steps.refl _) (argsL := []) (rest := []) (lenOf own_pd1 rfl) rfl (by show 2 * 0 + _ ≤ _; exact Nat.le_of_eq rfl) (hb hby at_98) (fun _ _ => ⟨rfl, rfl, (by decide : 5 + 0 ≤ _), (by decide : 34 + 0 ≤ _)⟩)
    dsimp only [Pt.U, Pt.locs, Pt.cells, Pt.slots] at X60 l60 y60 z60 st60 hQ60
    subst l60 y60 z60
    obtain ⟨rfl, N60q, e60⟩ := hQ60
    have N60 := Fr.app N59 N60q
    refine Go.tr st60 ?_
    show Go p e below _ (T60.setTop (mkF m 101 #[.val (.int i), .val (.int j), .val (.int k), .val (.int o), .val (.int (1 : Int32)), .val (.int qe), .val (.int c1), .val (.int c2), .val (.ref b37), .val (.ref b44), .val (.int (3 : Int32)), .unset] [(.int (1 : Int32))]))
    refine Go.st (fun _ kt => XS.iconst X60.here hx rfl (hb hby at_101) kt) ?_
    show Go p e below _ (T60.setTop (mkF m 102 #[.val (.int i), .val (.int j), .val (.int k), .val (.int o), .val (.int (1 : Int32)), .val (.int qe), .val (.int c1), .val (.int c2), .val (.ref b37), .val (.ref b44), .val (.int (3 : Int32)), .unset] [(.int (1 : Int32)), (.int (1 : Int32))]))
    refine Go.st (fun _ kt => XS.icmpNo X60.here hx rfl (hb hby at_102) rfl (teq (by decide : (1 : Int32) = (1 : Int32))).2 kt) ?_
    show Go p e below _ (T60.setTop (mkF m 105 #[.val (.int i), .val (.int j), .val (.int k), .val (.int o), .val (.int (1 : Int32)), .val (.int qe), .val (.int c1), .val (.int c2), .val (.ref b37), .val (.ref b44), .val (.int (3 : Int32)), .unset] []))
    refine Go.st (fun _ kt => XS.iload X60.here hx rfl (hb hby at_105) rfl kt) ?_
    show Go p e below _ (T60.setTop (mkF m 107 #[.val (.int i), .val (.int j), .val (.int k), .val (.int o), .val (.int (1 : Int32)), .val (.int qe), .val (.int c1), .val (.int c2), .val (.ref b37), .val (.ref b44), .val (.int (3 : Int32)), .unset] [(.int (3 : Int32))]))
    refine Go.st (fun _ kt => XS.iload X60.here hx rfl (hb hby at_107) rfl kt) ?_
    show Go p e below _ (T60.setTop (mkF m 109 #[.val (.int i), .val (.int j), .val (.int k), .val (.int o), .val (.int (1 : Int32)), .val (.int qe), .val (.int c1), .val (.int c2), .val (.ref b37), .val (.ref b44), .val (.int (3 : Int32)), .unset] [(.int (1 : Int32)), (.int (3 : Int32))]))
    refine Go.st (fun _ kt => XS.iconst X60.here hx rfl (hb hby at_109) kt) ?_
    show Go p e below _ (T60.setTop (mkF m 110 #[.val (.int i), .val (.int j), .val (.int k), .val (.int o), .val (.int (1 : Int32)), .val (.int qe), .val (.int c1), .val (.int c2), .val (.ref b37), .val (.ref b44), .val (.int (3 : Int32)), .unset] [(.int (2 : Int32)), (.int (1 : Int32)), (.int (3 : Int32))]))
    refine Go.st (fun _ kt => XS.iadd X60.here hx rfl (hb hby at_110) rfl kt) ?_
    show Go p e below _ (T60.setTop (mkF m 111 #[.val (.int i), .val (.int j), .val (.int k), .val (.int o), .val (.int (1 : Int32)), .val (.int qe), .val (.int c1), .val (.int c2), .val (.ref b37), .val (.ref b44), .val (.int (3 : Int32)), .unset] [(.int (3 : Int32)), (.int (3 : Int32))]))
    refine Go.st (fun _ kt => XS.icmpNo X60.here hx rfl (hb hby at_111) rfl (teq (by decide : (3 : Int32) = (3 : Int32))).2 kt) ?_
    show Go p e below _ (T60.setTop (mkF m 114 #[.val (.int i), .val (.int j), .val (.int k), .val (.int o), .val (.int (1 : Int32)), .val (.int qe), .val (.int c1), .val (.int c2), .val (.ref b37), .val (.ref b44), .val (.int (3 : Int32)), .unset] []))
    refine Go.st (fun _ kt => XS.aload X60.here hx rfl (hb hby at_114) rfl rfl kt) ?_
    show Go p e below _ (T60.setTop (mkF m 116 #[.val (.int i), .val (.int j), .val (.int k), .val (.int o), .val (.int (1 : Int32)), .val (.int qe), .val (.int c1), .val (.int c2), .val (.ref b37), .val (.ref b44), .val (.int (3 : Int32)), .unset] [(.ref b44)]))
    have f62 := (f56.keep K59q (ninS (Nat.ne_of_gt lt_b44_bs46) (ninS (Nat.ne_of_lt lt_bs46_la49) nin0)))
    obtain ⟨cq63, kq63, q63a, q63b, q63c⟩ := isOf hZ e60 f61
    obtain ⟨_, _, ⟨T63, L63, k63, n63⟩, -, X63, ⟨Lc63, hQ63, l63, y63, z63⟩, st63⟩ := X60.virtualBack hx (y := (⟨"com/example/rowsieve/rowsieve/format/GrowingBytes", "length", "()I"⟩ : MethodName)) (z := (⟨"com/example/rowsieve/rowsieve/format/GrowingBytes", "length", "()I"⟩ : MethodName)) hown (mvT hZ (hw _ (List.mem_of_getElem? (i := 60) rfl))) (mvT hZ (hw _ (List.mem_of_getElem? (i := 35) rfl))) (notFace_of_selects (args := #[]) (mvT hZ (hw _ (List.mem_of_getElem? (i := 37) rfl)))) (mvT hZ (hw _ (List.mem_of_getElem? (i := 37) rfl))) (mvT hZ (hw _ (List.mem_of_getElem? (i := 36) rfl))) (by decide) (backOf (W := 0) (rm5_1 l Z a0 hw [] b44 bs46 kb46 (5 : Int32) (5 : Int32) T59.heap n0 Zs59 G59_3 G59_1 G59_4 f62 (by decide)) hZ (hw _ (List.mem_of_getElem? (i := 38) rfl)) (hw _ (List.mem_of_getElem? (i := 3) rfl)) (by decide) (by decide)) q63a q63c (g := (mkF m 116 #[.val (.int i), .val (.int j), .val (.int k), .val (.int o), .val (.int (1 : Int32)), .val (.int qe), .val (.int c1), .val (.int c2), .val (.ref b37), .val (.ref b44), .val (.int (3 : Int32)), .unset] [(.ref b44)])) rfl (by rw [hml]; rfl) (Steps.refl _) (argsL := []) (rest := []) (lenOf own_pd1 rfl) rfl (by show 2 * 0 + _ ≤ _; exact Nat.le_of_eq rfl) (hb hby at_116) (fun _ _ => ⟨rfl, e60, (by decide : 5 + 0 ≤ _), (by decide : 34 + 0 ≤ _)⟩)
    dsimp only [Pt.U, Pt.locs, Pt.cells, Pt.slots] at X63 l63 y63 z63 st63 hQ63
    subst l63 y63 z63
    obtain ⟨rfl, N63q, e63⟩ := hQ63
    have N63 := Fr.app N60 N63q
    refine Go.tr st63 ?_
    show Go p e below _ (T63.setTop (mkF m 119 #[.val (.int i), .val (.int j), .val (.int k), .val (.int o), .val (.int (1 : Int32)), .val (.int qe), .val (.int c1), .val (.int c2), .val (.ref b37), .val (.ref b44), .val (.int (3 : Int32)), .unset] [(.int (5 : Int32))]))
    refine Go.st (fun _ kt => XS.iload X63.here hx rfl (hb hby at_119) rfl kt) ?_
    show Go p e below _ (T63.setTop (mkF m 121 #[.val (.int i), .val (.int j), .val (.int k), .val (.int o), .val (.int (1 : Int32)), .val (.int qe), .val (.int c1), .val (.int c2), .val (.ref b37), .val (.ref b44), .val (.int (3 : Int32)), .unset] [(.int (1 : Int32)), (.int (5 : Int32))]))
    refine Go.st (fun _ kt => XS.iconst X63.here hx rfl (hb hby at_121) kt) ?_
    show Go p e below _ (T63.setTop (mkF m 122 #[.val (.int i), .val (.int j), .val (.int k), .val (.int o), .val (.int (1 : Int32)), .val (.int qe), .val (.int c1), .val (.int c2), .val (.ref b37), .val (.ref b44), .val (.int (3 : Int32)), .unset] [(.int (4 : Int32)), (.int (1 : Int32)), (.int (5 : Int32))]))
    refine Go.st (fun _ kt => XS.iadd X63.here hx rfl (hb hby at_122) rfl kt) ?_
    show Go p e below _ (T63.setTop (mkF m 123 #[.val (.int i), .val (.int j), .val (.int k), .val (.int o), .val (.int (1 : Int32)), .val (.int qe), .val (.int c1), .val (.int c2), .val (.ref b37), .val (.ref b44), .val (.int (3 : Int32)), .unset] [(.int (5 : Int32)), (.int (5 : Int32))]))
    refine Go.st (fun _ kt => XS.icmpYes X63.here hx rfl (pc0 := 123) (pc' := 128) rfl (hb hby at_123) rfl (teq (by decide : (5 : Int32) = (5 : Int32))).1 (by decide) (by decide) kt) ?_
    show Go p e below _ (T63.setTop (mkF m 128 #[.val (.int i), .val (.int j), .val (.int k), .val (.int o), .val (.int (1 : Int32)), .val (.int qe), .val (.int c1), .val (.int c2), .val (.ref b37), .val (.ref b44), .val (.int (3 : Int32)), .unset] []))
    refine Go.st (fun _ kt => XS.aload X63.here hx rfl (hb hby at_128) rfl rfl kt) ?_
    show Go p e below _ (T63.setTop (mkF m 130 #[.val (.int i), .val (.int j), .val (.int k), .val (.int o), .val (.int (1 : Int32)), .val (.int qe), .val (.int c1), .val (.int c2), .val (.ref b37), .val (.ref b44), .val (.int (3 : Int32)), .unset] [(.ref b44)]))
    refine Go.st (fun _ kt => XS.iconst X63.here hx rfl (hb hby at_130) kt) ?_
    show Go p e below _ (T63.setTop (mkF m 131 #[.val (.int i), .val (.int j), .val (.int k), .val (.int o), .val (.int (1 : Int32)), .val (.int qe), .val (.int c1), .val (.int c2), .val (.ref b37), .val (.ref b44), .val (.int (3 : Int32)), .unset] [(.int (0 : Int32)), (.ref b44)]))
    have f64 := (((G49_5.keep K53q (ninS (Nat.ne_of_gt lt_b44_sg46) (ninS (Nat.ne_of_lt lt_sg46_la49) nin0))).keep K55q (ninS (Nat.ne_of_gt lt_b44_sg46) (ninS (Nat.ne_of_lt lt_sg46_la49) nin0))).keep K59q (ninS (Nat.ne_of_gt lt_b44_sg46) (ninS (Nat.ne_of_lt lt_sg46_la49) nin0)))
    obtain ⟨cq65, kq65, q65a, q65b, q65c⟩ := isOf hZ e63 f61
    obtain ⟨_, _, ⟨T65, L65, k65, n65⟩, -, X65, ⟨Lc65, hQ65, l65, y65, z65⟩, st65⟩ := X63.virtualBack hx (y := (⟨"com/example/rowsieve/rowsieve/format/GrowingBytes", "segment", "(I)[B"⟩ : MethodName)) (z := (⟨"com/example/rowsieve/rowsieve/format/GrowingBytes", "segment", "(I)[B"⟩ : MethodName)) hown (mvT hZ (hw _ (List.mem_of_getElem? (i := 66) rfl))) (mvT hZ (hw _ (List.mem_of_getElem? (i := 67) rfl))) (notFace_of_selects (args := #[]) (mvT hZ (hw _ (List.mem_of_getElem? (i := 69) rfl)))) (mvT hZ (hw _ (List.mem_of_getElem? (i := 69) rfl))) (mvT hZ (hw _ (List.mem_of_getElem? (i := 68) rfl))) (by decide) (backOf (W := 0) (rm10 l Z a0 hw [] b44 sg46 ks46 la49 T59.heap n0 Zs59 G59_0 f64) hZ (hw _ (List.mem_of_getElem? (i := 70) rfl)) (hw _ (List.mem_of_getElem? (i := 3) rfl)) (by decide) (by decide)) q65a q65c (g := (mkF m 131 #[.val (.int i), .val (.int j), .val (.int k), .val (.int o), .val (.int (1 : Int32)), .val (.int qe), .val (.int c1), .val (.int c2), .val (.ref b37), .val (.ref b44), .val (.int (3 : Int32)), .unset] [(.int (0 : Int32)), (.ref b44)])) rfl (by rw [hml]; rfl) (Steps.refl _) (argsL := [(.int (0 : Int32))]) (rest := []) (lenOf own_pd8 rfl) rfl (by show 2 * 0 + _ ≤ _; exact Nat.le_of_eq rfl) (hb hby at_131) (fun _ _ => ⟨rfl, e63, (by decide : 5 + 0 ≤ _), (by decide : 34 + 0 ≤ _)⟩)
    dsimp only [Pt.U, Pt.locs, Pt.cells, Pt.slots] at X65 l65 y65 z65 st65 hQ65
    subst l65 y65 z65
    obtain ⟨rfl, N65q, e65⟩ := hQ65
    have N65 := Fr.app N63 N65q
    refine Go.tr st65 ?_
    show Go p e below _ (T65.setTop (mkF m 134 #[.val (.int i), .val (.int j), .val (.int k), .val (.int o), .val (.int (1 : Int32)), .val (.int qe), .val (.int c1), .val (.int c2), .val (.ref b37), .val (.ref b44), .val (.int (3 : Int32)), .unset] [(.ref la49)]))
    refine Go.st (fun _ kt => XS.astore X65.here hx rfl (hb hby at_134) rfl rfl (l' := #[.val (.int i), .val (.int j), .val (.int k), .val (.int o), .val (.int (1 : Int32)), .val (.int qe), .val (.int c1), .val (.int c2), .val (.ref b37), .val (.ref b44), .val (.int (3 : Int32)), .val (.ref la49)]) rfl kt) ?_
    show Go p e below _ (T65.setTop (mkF m 136 #[.val (.int i), .val (.int j), .val (.int k), .val (.int o), .val (.int (1 : Int32)), .val (.int qe), .val (.int c1), .val (.int c2), .val (.ref b37), .val (.ref b44), .val (.int (3 : Int32)), .val (.ref la49)] []))
    refine Go.st (fun _ kt => XS.aload X65.here hx rfl (hb hby at_136) rfl rfl kt) ?_
    show Go p e below _ (T65.setTop (mkF m 138 #[.val (.int i), .val (.int j), .val (.int k), .val (.int o), .val (.int (1 : Int32)), .val (.int qe), .val (.int c1), .val (.int c2), .val (.ref b37), .val (.ref b44), .val (.int (3 : Int32)), .val (.ref la49)] [(.ref la49)]))
    obtain ⟨cl66, Ar66, -, S66, N66', -, -⟩ := id G59_5
    refine Go.st (fun _ kt => X65.arraylength hx (by rw [e65]; exact Ar66.1) (State.isArrayOf_alike hZ.alike Ar66.2.1) (g := (mkF m 138 #[.val (.int i), .val (.int j), .val (.int k), .val (.int o), .val (.int (1 : Int32)), .val (.int qe), .val (.int c1), .val (.int c2), .val (.ref b37), .val (.ref b44), .val (.int (3 : Int32)), .val (.ref la49)] [(.ref la49)])) rfl rfl (hb hby at_138) _ kt) ?_
    rw [len_of S66 N66']
    show Go p e below _ (T65.setTop (mkF m 139 #[.val (.int i), .val (.int j), .val (.int k), .val (.int o), .val (.int (1 : Int32)), .val (.int qe), .val (.int c1), .val (.int c2), .val (.ref b37), .val (.ref b44), .val (.int (3 : Int32)), .val (.ref la49)] [(.int sz)]))
    refine Go.st (fun _ kt => XS.iload X65.here hx rfl (hb hby at_139) rfl kt) ?_
    show Go p e below _ (T65.setTop (mkF m 141 #[.val (.int i), .val (.int j), .val (.int k), .val (.int o), .val (.int (1 : Int32)), .val (.int qe), .val (.int c1), .val (.int c2), .val (.ref b37), .val (.ref b44), .val (.int (3 : Int32)), .val (.ref la49)] [(.int (1 : Int32)), (.int sz)]))
    refine Go.st (fun _ kt => XS.iconst X65.here hx rfl (hb hby at_141) kt) ?_
    show Go p e below _ (T65.setTop (mkF m 142 #[.val (.int i), .val (.int j), .val (.int k), .val (.int o), .val (.int (1 : Int32)), .val (.int qe), .val (.int c1), .val (.int c2), .val (.ref b37), .val (.ref b44), .val (.int (3 : Int32)), .val (.ref la49)] [(.int (4 : Int32)), (.int (1 : Int32)), (.int sz)]))
    refine Go.st (fun _ kt => XS.iadd X65.here hx rfl (hb hby at_142) rfl kt) ?_
    show Go p e below _ (T65.setTop (mkF m 143 #[.val (.int i), .val (.int j), .val (.int k), .val (.int o), .val (.int (1 : Int32)), .val (.int qe), .val (.int c1), .val (.int c2), .val (.ref b37), .val (.ref b44), .val (.int (3 : Int32)), .val (.ref la49)] [(.int (5 : Int32)), (.int sz)]))
    refine Go.st (fun _ kt => XS.iload X65.here hx rfl (hb hby at_143) rfl kt) ?_
    show Go p e below _ (T65.setTop (mkF m 145 #[.val (.int i), .val (.int j), .val (.int k), .val (.int o), .val (.int (1 : Int32)), .val (.int qe), .val (.int c1), .val (.int c2), .val (.ref b37), .val (.ref b44), .val (.int (3 : Int32)), .val (.ref la49)] [(.int qe), (.int (5 : Int32)), (.int sz)]))
    refine Go.st (fun _ kt => XS.iadd X65.here hx rfl (hb hby at_145) rfl kt) ?_
    show Go p e below _ (T65.setTop (mkF m 146 #[.val (.int i), .val (.int j), .val (.int k), .val (.int o), .val (.int (1 : Int32)), .val (.int qe), .val (.int c1), .val (.int c2), .val (.ref b37), .val (.ref b44), .val (.int (3 : Int32)), .val (.ref la49)] [(.int ((5 : Int32) + qe)), (.int sz)]))
    refine Go.st (fun _ kt => XS.icmpYes X65.here hx rfl (pc0 := 146) (pc' := 151) rfl (hb hby at_146) rfl (teq hsz.symm).1 (by decide) (by decide) kt) ?_
    show Go p e below _ (T65.setTop (mkF m 151 #[.val (.int i), .val (.int j), .val (.int k), .val (.int o), .val (.int (1 : Int32)), .val (.int qe), .val (.int c1), .val (.int c2), .val (.ref b37), .val (.ref b44), .val (.int (3 : Int32)), .val (.ref la49)] []))
    refine Go.st (fun _ kt => XS.iload X65.here hx rfl (hb hby at_151) rfl kt) ?_
    show Go p e below _ (T65.setTop (mkF m 153 #[.val (.int i), .val (.int j), .val (.int k), .val (.int o), .val (.int (1 : Int32)), .val (.int qe), .val (.int c1), .val (.int c2), .val (.ref b37), .val (.ref b44), .val (.int (3 : Int32)), .val (.ref la49)] [(.int (1 : Int32))]))
    refine Go.st (fun _ kt => XS.ifNo X65.here hx rfl (hb hby at_153) rfl ((if0 _ _).trans (tlt (by decide : (0 : Int32) < (1 : Int32))).2.2.2) kt) ?_
    show Go p e below _ (T65.setTop (mkF m 156 #[.val (.int i), .val (.int j), .val (.int k), .val (.int o), .val (.int (1 : Int32)), .val (.int qe), .val (.int c1), .val (.int c2), .val (.ref b37), .val (.ref b44), .val (.int (3 : Int32)), .val (.ref la49)] []))
    refine Go.st (fun _ kt => XS.aload X65.here hx rfl (hb hby at_156) rfl rfl kt) ?_
    show Go p e below _ (T65.setTop (mkF m 158 #[.val (.int i), .val (.int j), .val (.int k), .val (.int o), .val (.int (1 : Int32)), .val (.int qe), .val (.int c1), .val (.int c2), .val (.ref b37), .val (.ref b44), .val (.int (3 : Int32)), .val (.ref la49)] [(.ref la49)]))
    refine Go.st (fun _ kt => XS.iconst X65.here hx rfl (hb hby at_158) kt) ?_
    show Go p e below _ (T65.setTop (mkF m 159 #[.val (.int i), .val (.int j), .val (.int k), .val (.int o), .val (.int (1 : Int32)), .val (.int qe), .val (.int c1), .val (.int c2), .val (.ref b37), .val (.ref b44), .val (.int (3 : Int32)), .val (.ref la49)] [(.int (0 : Int32)), (.ref la49)]))
    obtain ⟨cl67, Ar67, -, S67, N67', H67, G67⟩ := id G59_5
    have hin67 := inb_of S67 (j := (0 : Int32)) (own_lit hz.1 (by decide))
    have hat67 := Has.at H67 hin67 (v := (.int (90 : Int32))) rfl
    refine Go.st (fun _ kt => X65.baloadBytes hx (j := (0 : Int32)) (v := (.int (90 : Int32))) (by rw [e65]; exact Ar67.1) (State.isArrayOf_alike hZ.alike Ar67.2.1) Ar67.2.2 hin67 hat67 (g := (mkF m 159 #[.val (.int i), .val (.int j), .val (.int k), .val (.int o), .val (.int (1 : Int32)), .val (.int qe), .val (.int c1), .val (.int c2), .val (.ref b37), .val (.ref b44), .val (.int (3 : Int32)), .val (.ref la49)] [(.int (0 : Int32)), (.ref la49)])) rfl rfl (hb hby at_159) _ kt) ?_
    show Go p e below _ (T65.setTop (mkF m 160 #[.val (.int i), .val (.int j), .val (.int k), .val (.int o), .val (.int (1 : Int32)), .val (.int qe), .val (.int c1), .val (.int c2), .val (.ref b37), .val (.ref b44), .val (.int (3 : Int32)), .val (.ref la49)] [(.int (90 : Int32))]))
    refine Go.st (fun _ kt => XS.bipush X65.here hx rfl (hb hby at_160) kt) ?_
    show Go p e below _ (T65.setTop (mkF m 162 #[.val (.int i), .val (.int j), .val (.int k), .val (.int o), .val (.int (1 : Int32)), .val (.int qe), .val (.int c1), .val (.int c2), .val (.ref b37), .val (.ref b44), .val (.int (3 : Int32)), .val (.ref la49)] [(.int (90 : Int32)), (.int (90 : Int32))]))
    refine Go.st (fun _ kt => XS.icmpYes X65.here hx rfl (pc0 := 162) (pc' := 167) rfl (hb hby at_162) rfl (teq (by decide : (90 : Int32) = (90 : Int32))).1 (by decide) (by decide) kt) ?_
    show Go p e below _ (T65.setTop (mkF m 167 #[.val (.int i), .val (.int j), .val (.int k), .val (.int o), .val (.int (1 : Int32)), .val (.int qe), .val (.int c1), .val (.int c2), .val (.ref b37), .val (.ref b44), .val (.int (3 : Int32)), .val (.ref la49)] []))
    refine Go.st (fun _ kt => XS.iload X65.here hx rfl (hb hby at_167) rfl kt) ?_
    show Go p e below _ (T65.setTop (mkF m 169 #[.val (.int i), .val (.int j), .val (.int k), .val (.int o), .val (.int (1 : Int32)), .val (.int qe), .val (.int c1), .val (.int c2), .val (.ref b37), .val (.ref b44), .val (.int (3 : Int32)), .val (.ref la49)] [(.int (1 : Int32))]))
    refine Go.st (fun _ kt => XS.iconst X65.here hx rfl (hb hby at_169) kt) ?_
    show Go p e below _ (T65.setTop (mkF m 170 #[.val (.int i), .val (.int j), .val (.int k), .val (.int o), .val (.int (1 : Int32)), .val (.int qe), .val (.int c1), .val (.int c2), .val (.ref b37), .val (.ref b44), .val (.int (3 : Int32)), .val (.ref la49)] [(.int (1 : Int32)), (.int (1 : Int32))]))
    refine Go.st (fun _ kt => XS.icmpYes X65.here hx rfl (pc0 := 170) (pc' := 184) rfl (hb hby at_170) rfl (flt (by decide : ¬ ((1 : Int32) < (1 : Int32)))).2.2.2 (by decide) (by decide) kt) ?_
    show Go p e below _ (T65.setTop (mkF m 184 #[.val (.int i), .val (.int j), .val (.int k), .val (.int o), .val (.int (1 : Int32)), .val (.int qe), .val (.int c1), .val (.int c2), .val (.ref b37), .val (.ref b44), .val (.int (3 : Int32)), .val (.ref la49)] []))
    refine Go.st (fun _ kt => XS.iload X65.here hx rfl (hb hby at_184) rfl kt) ?_
    show Go p e below _ (T65.setTop (mkF m 186 #[.val (.int i), .val (.int j), .val (.int k), .val (.int o), .val (.int (1 : Int32)), .val (.int qe), .val (.int c1), .val (.int c2), .val (.ref b37), .val (.ref b44), .val (.int (3 : Int32)), .val (.ref la49)] [(.int (1 : Int32))]))
    refine Go.st (fun _ kt => XS.iconst X65.here hx rfl (hb hby at_186) kt) ?_
    show Go p e below _ (T65.setTop (mkF m 187 #[.val (.int i), .val (.int j), .val (.int k), .val (.int o), .val (.int (1 : Int32)), .val (.int qe), .val (.int c1), .val (.int c2), .val (.ref b37), .val (.ref b44), .val (.int (3 : Int32)), .val (.ref la49)] [(.int (2 : Int32)), (.int (1 : Int32))]))
    refine Go.st (fun _ kt => XS.icmpYes X65.here hx rfl (pc0 := 187) (pc' := 201) rfl (hb hby at_187) rfl (flt (by decide : ¬ ((2 : Int32) < (1 : Int32)))).2.2.2 (by decide) (by decide) kt) ?_
    show Go p e below _ (T65.setTop (mkF m 201 #[.val (.int i), .val (.int j), .val (.int k), .val (.int o), .val (.int (1 : Int32)), .val (.int qe), .val (.int c1), .val (.int c2), .val (.ref b37), .val (.ref b44), .val (.int (3 : Int32)), .val (.ref la49)] []))
    refine Go.st (fun _ kt => XS.iload X65.here hx rfl (hb hby at_201) rfl kt) ?_
    show Go p e below _ (T65.setTop (mkF m 203 #[.val (.int i), .val (.int j), .val (.int k), .val (.int o), .val (.int (1 : Int32)), .val (.int qe), .val (.int c1), .val (.int c2), .val (.ref b37), .val (.ref b44), .val (.int (3 : Int32)), .val (.ref la49)] [(.int qe)]))
    by_cases hc203_68 : (0 : Int32) < qe
    · refine Go.st (fun _ kt => XS.ifNo X65.here hx rfl (hb hby at_203) rfl ((if0 _ _).trans (tlt hc203_68).2.2.2) kt) ?_
      show Go p e below _ (T65.setTop (mkF m 206 #[.val (.int i), .val (.int j), .val (.int k), .val (.int o), .val (.int (1 : Int32)), .val (.int qe), .val (.int c1), .val (.int c2), .val (.ref b37), .val (.ref b44), .val (.int (3 : Int32)), .val (.ref la49)] []))
      refine Go.st (fun _ kt => XS.aload X65.here hx rfl (hb hby at_206) rfl rfl kt) ?_
      show Go p e below _ (T65.setTop (mkF m 208 #[.val (.int i), .val (.int j), .val (.int k), .val (.int o), .val (.int (1 : Int32)), .val (.int qe), .val (.int c1), .val (.int c2), .val (.ref b37), .val (.ref b44), .val (.int (3 : Int32)), .val (.ref la49)] [(.ref la49)]))
      refine Go.st (fun _ kt => XS.iload X65.here hx rfl (hb hby at_208) rfl kt) ?_
      show Go p e below _ (T65.setTop (mkF m 210 #[.val (.int i), .val (.int j), .val (.int k), .val (.int o), .val (.int (1 : Int32)), .val (.int qe), .val (.int c1), .val (.int c2), .val (.ref b37), .val (.ref b44), .val (.int (3 : Int32)), .val (.ref la49)] [(.int (1 : Int32)), (.ref la49)]))
      refine Go.st (fun _ kt => XS.iconst X65.here hx rfl (hb hby at_210) kt) ?_
      show Go p e below _ (T65.setTop (mkF m 211 #[.val (.int i), .val (.int j), .val (.int k), .val (.int o), .val (.int (1 : Int32)), .val (.int qe), .val (.int c1), .val (.int c2), .val (.ref b37), .val (.ref b44), .val (.int (3 : Int32)), .val (.ref la49)] [(.int (4 : Int32)), (.int (1 : Int32)), (.ref la49)]))
      refine Go.st (fun _ kt => XS.iadd X65.here hx rfl (hb hby at_211) rfl kt) ?_
      show Go p e below _ (T65.setTop (mkF m 212 #[.val (.int i), .val (.int j), .val (.int k), .val (.int o), .val (.int (1 : Int32)), .val (.int qe), .val (.int c1), .val (.int c2), .val (.ref b37), .val (.ref b44), .val (.int (3 : Int32)), .val (.ref la49)] [(.int (5 : Int32)), (.ref la49)]))
      have hz1 : (6 : Int) ≤ sz.toInt := own_more hs_ hc203_68
      obtain ⟨cl69, Ar69, -, S69, N69', H69, G69⟩ := id G59_5
      have hin69 := inb_of S69 (j := (5 : Int32)) (own_lit hz1 (by decide))
      have hat69 := Has.at H69 hin69 (v := (.int (0 : Int32))) rfl
      refine Go.st (fun _ kt => X65.baloadBytes hx (j := (5 : Int32)) (v := (.int (0 : Int32))) (by rw [e65]; exact Ar69.1) (State.isArrayOf_alike hZ.alike Ar69.2.1) Ar69.2.2 hin69 hat69 (g := (mkF m 212 #[.val (.int i), .val (.int j), .val (.int k), .val (.int o), .val (.int (1 : Int32)), .val (.int qe), .val (.int c1), .val (.int c2), .val (.ref b37), .val (.ref b44), .val (.int (3 : Int32)), .val (.ref la49)] [(.int (5 : Int32)), (.ref la49)])) rfl rfl (hb hby at_212) _ kt) ?_
      show Go p e below _ (T65.setTop (mkF m 213 #[.val (.int i), .val (.int j), .val (.int k), .val (.int o), .val (.int (1 : Int32)), .val (.int qe), .val (.int c1), .val (.int c2), .val (.ref b37), .val (.ref b44), .val (.int (3 : Int32)), .val (.ref la49)] [(.int (0 : Int32))]))
      refine Go.st (fun _ kt => XS.ifYes X65.here hx rfl (pc0 := 213) (pc' := 218) rfl (hb hby at_213) rfl ((if0 _ _).trans (teq (by decide : (0 : Int32) = (0 : Int32))).1) (by decide) (by decide) kt) ?_
      show Go p e below _ (T65.setTop (mkF m 218 #[.val (.int i), .val (.int j), .val (.int k), .val (.int o), .val (.int (1 : Int32)), .val (.int qe), .val (.int c1), .val (.int c2), .val (.ref b37), .val (.ref b44), .val (.int (3 : Int32)), .val (.ref la49)] []))
      refine Go.st (fun _ kt => XS.aload X65.here hx rfl (hb hby at_218) rfl rfl kt) ?_
      show Go p e below _ (T65.setTop (mkF m 220 #[.val (.int i), .val (.int j), .val (.int k), .val (.int o), .val (.int (1 : Int32)), .val (.int qe), .val (.int c1), .val (.int c2), .val (.ref b37), .val (.ref b44), .val (.int (3 : Int32)), .val (.ref la49)] [(.ref la49)]))
      refine Go.st (fun _ kt => XS.iload X65.here hx rfl (hb hby at_220) rfl kt) ?_
      show Go p e below _ (T65.setTop (mkF m 222 #[.val (.int i), .val (.int j), .val (.int k), .val (.int o), .val (.int (1 : Int32)), .val (.int qe), .val (.int c1), .val (.int c2), .val (.ref b37), .val (.ref b44), .val (.int (3 : Int32)), .val (.ref la49)] [(.int (1 : Int32)), (.ref la49)]))
      refine Go.st (fun _ kt => XS.iload X65.here hx rfl (hb hby at_222) rfl kt) ?_
      show Go p e below _ (T65.setTop (mkF m 224 #[.val (.int i), .val (.int j), .val (.int k), .val (.int o), .val (.int (1 : Int32)), .val (.int qe), .val (.int c1), .val (.int c2), .val (.ref b37), .val (.ref b44), .val (.int (3 : Int32)), .val (.ref la49)] [(.int c1), (.int (1 : Int32)), (.ref la49)]))
      obtain ⟨_, _, ⟨T70, L70, k70, n70⟩, -, X70, ⟨Lc70, hQ70, l70, y70, z70⟩, st70⟩ := Jvm.LawKit.callS X65 hx (y := (⟨"com/example/rowsieve/rowsieve/format/GrowingBytesPutLittleEndianPinLaw", "readsBack", "([BIC)Z"⟩ : MethodName)) hown (mvT hZ (hw _ (List.mem_of_getElem? (i := 71) rfl))) (mvT hZ (hw _ (List.mem_of_getElem? (i := 72) rfl))) (mvT hZ (hw _ (List.mem_of_getElem? (i := 73) rfl))) (mvT hZ (hw _ (List.mem_of_getElem? (i := 74) rfl))) (by decide) (backOf (W := 0) (rm11 l Z a0 hw [] la49 (1 : Int32) c1 kl49 sz [(.int (90 : Int32)), (.int ((c1.toInt8.toInt32).toInt8.toInt32)), (.int ((((c1.toUInt32 >>> ((8 : Int32) &&& 31).toUInt32).toInt32).toInt8.toInt32).toInt8.toInt32)), (.int ((c2.toInt8.toInt32).toInt8.toInt32)), (.int ((((c2.toUInt32 >>> ((8 : Int32) &&& 31).toUInt32).toInt32).toInt8.toInt32).toInt8.toInt32))] T59.heap n0 Zs59 G59_5 (own_lit hz.1 (by decide)) (own_lit hz.1 (by decide)) rfl rfl hb_c1) hZ (hw _ (List.mem_of_getElem? (i := 74) rfl)) (hw _ (List.mem_of_getElem? (i := 73) rfl)) (by decide) (by decide)) (g := (mkF m 224 #[.val (.int i), .val (.int j), .val (.int k), .val (.int o), .val (.int (1 : Int32)), .val (.int qe), .val (.int c1), .val (.int c2), .val (.ref b37), .val (.ref b44), .val (.int (3 : Int32)), .val (.ref la49)] [(.int c1), (.int (1 : Int32)), (.ref la49)])) rfl (by rw [hml]; rfl) (argsL := [(.ref la49), (.int (1 : Int32)), (.int c1)]) (rest := []) (lenOf own_pd9 rfl) rfl (by show 2 * 0 + _ ≤ _; exact Nat.le_of_eq rfl) (hb hby at_224) (fun _ _ => ⟨rfl, e65, (by decide : 5 + 0 ≤ _), (by decide : 34 + 0 ≤ _)⟩)
      dsimp only [Pt.U, Pt.locs, Pt.cells, Pt.slots] at X70 l70 y70 z70 st70 hQ70
      subst l70 y70 z70
      obtain ⟨rfl, N70q, e70⟩ := hQ70
      have N70 := Fr.app N65 N70q
      refine Go.st st70 ?_
      show Go p e below _ (T70.setTop (mkF m 227 #[.val (.int i), .val (.int j), .val (.int k), .val (.int o), .val (.int (1 : Int32)), .val (.int qe), .val (.int c1), .val (.int c2), .val (.ref b37), .val (.ref b44), .val (.int (3 : Int32)), .val (.ref la49)] [(.int (1 : Int32))]))
      refine Go.st (fun _ kt => XS.ifNo X70.here hx rfl (hb hby at_227) rfl ((if0 _ _).trans (feq (by decide : ¬ ((1 : Int32) = (0 : Int32)))).1) kt) ?_
      show Go p e below _ (T70.setTop (mkF m 230 #[.val (.int i), .val (.int j), .val (.int k), .val (.int o), .val (.int (1 : Int32)), .val (.int qe), .val (.int c1), .val (.int c2), .val (.ref b37), .val (.ref b44), .val (.int (3 : Int32)), .val (.ref la49)] []))
      refine Go.st (fun _ kt => XS.aload X70.here hx rfl (hb hby at_230) rfl rfl kt) ?_
      show Go p e below _ (T70.setTop (mkF m 232 #[.val (.int i), .val (.int j), .val (.int k), .val (.int o), .val (.int (1 : Int32)), .val (.int qe), .val (.int c1), .val (.int c2), .val (.ref b37), .val (.ref b44), .val (.int (3 : Int32)), .val (.ref la49)] [(.ref la49)]))
      refine Go.st (fun _ kt => XS.iload X70.here hx rfl (hb hby at_232) rfl kt) ?_
      show Go p e below _ (T70.setTop (mkF m 234 #[.val (.int i), .val (.int j), .val (.int k), .val (.int o), .val (.int (1 : Int32)), .val (.int qe), .val (.int c1), .val (.int c2), .val (.ref b37), .val (.ref b44), .val (.int (3 : Int32)), .val (.ref la49)] [(.int (1 : Int32)), (.ref la49)]))
      refine Go.st (fun _ kt => XS.iconst X70.here hx rfl (hb hby at_234) kt) ?_
      show Go p e below _ (T70.setTop (mkF m 235 #[.val (.int i), .val (.int j), .val (.int k), .val (.int o), .val (.int (1 : Int32)), .val (.int qe), .val (.int c1), .val (.int c2), .val (.ref b37), .val (.ref b44), .val (.int (3 : Int32)), .val (.ref la49)] [(.int (2 : Int32)), (.int (1 : Int32)), (.ref la49)]))
      refine Go.st (fun _ kt => XS.iadd X70.here hx rfl (hb hby at_235) rfl kt) ?_
      show Go p e below _ (T70.setTop (mkF m 236 #[.val (.int i), .val (.int j), .val (.int k), .val (.int o), .val (.int (1 : Int32)), .val (.int qe), .val (.int c1), .val (.int c2), .val (.ref b37), .val (.ref b44), .val (.int (3 : Int32)), .val (.ref la49)] [(.int (3 : Int32)), (.ref la49)]))
      refine Go.st (fun _ kt => XS.iload X70.here hx rfl (hb hby at_236) rfl kt) ?_
      show Go p e below _ (T70.setTop (mkF m 238 #[.val (.int i), .val (.int j), .val (.int k), .val (.int o), .val (.int (1 : Int32)), .val (.int qe), .val (.int c1), .val (.int c2), .val (.ref b37), .val (.ref b44), .val (.int (3 : Int32)), .val (.ref la49)] [(.int c2), (.int (3 : Int32)), (.ref la49)]))
      obtain ⟨_, _, ⟨T71, L71, k71, n71⟩, -, X71, ⟨Lc71, hQ71, l71, y71, z71⟩, st71⟩ := Jvm.LawKit.callS X70 hx (y := (⟨"com/example/rowsieve/rowsieve/format/GrowingBytesPutLittleEndianPinLaw", "readsBack", "([BIC)Z"⟩ : MethodName)) hown (mvT hZ (hw _ (List.mem_of_getElem? (i := 71) rfl))) (mvT hZ (hw _ (List.mem_of_getElem? (i := 72) rfl))) (mvT hZ (hw _ (List.mem_of_getElem? (i := 73) rfl))) (mvT hZ (hw _ (List.mem_of_getElem? (i := 74) rfl))) (by decide) (backOf (W := 0) (rm11 l Z a0 hw [] la49 (3 : Int32) c2 kl49 sz [(.int (90 : Int32)), (.int ((c1.toInt8.toInt32).toInt8.toInt32)), (.int ((((c1.toUInt32 >>> ((8 : Int32) &&& 31).toUInt32).toInt32).toInt8.toInt32).toInt8.toInt32)), (.int ((c2.toInt8.toInt32).toInt8.toInt32)), (.int ((((c2.toUInt32 >>> ((8 : Int32) &&& 31).toUInt32).toInt32).toInt8.toInt32).toInt8.toInt32))] T59.heap n0 Zs59 G59_5 (own_lit hz.1 (by decide)) (own_lit hz.1 (by decide)) rfl rfl hb_c2) hZ (hw _ (List.mem_of_getElem? (i := 74) rfl)) (hw _ (List.mem_of_getElem? (i := 73) rfl)) (by decide) (by decide)) (g := (mkF m 238 #[.val (.int i), .val (.int j), .val (.int k), .val (.int o), .val (.int (1 : Int32)), .val (.int qe), .val (.int c1), .val (.int c2), .val (.ref b37), .val (.ref b44), .val (.int (3 : Int32)), .val (.ref la49)] [(.int c2), (.int (3 : Int32)), (.ref la49)])) rfl (by rw [hml]; rfl) (argsL := [(.ref la49), (.int (3 : Int32)), (.int c2)]) (rest := []) (lenOf own_pd9 rfl) rfl (by show 2 * 0 + _ ≤ _; exact Nat.le_of_eq rfl) (hb hby at_238) (fun _ _ => ⟨rfl, e70, (by decide : 5 + 0 ≤ _), (by decide : 34 + 0 ≤ _)⟩)
      dsimp only [Pt.U, Pt.locs, Pt.cells, Pt.slots] at X71 l71 y71 z71 st71 hQ71
      subst l71 y71 z71
      obtain ⟨rfl, N71q, e71⟩ := hQ71
      have N71 := Fr.app N70 N71q
      refine Go.st st71 ?_
      show Go p e below _ (T71.setTop (mkF m 241 #[.val (.int i), .val (.int j), .val (.int k), .val (.int o), .val (.int (1 : Int32)), .val (.int qe), .val (.int c1), .val (.int c2), .val (.ref b37), .val (.ref b44), .val (.int (3 : Int32)), .val (.ref la49)] [(.int (1 : Int32))]))
      refine Go.st (fun _ kt => XS.ifNo X71.here hx rfl (hb hby at_241) rfl ((if0 _ _).trans (feq (by decide : ¬ ((1 : Int32) = (0 : Int32)))).1) kt) ?_
      show Go p e below _ (T71.setTop (mkF m 244 #[.val (.int i), .val (.int j), .val (.int k), .val (.int o), .val (.int (1 : Int32)), .val (.int qe), .val (.int c1), .val (.int c2), .val (.ref b37), .val (.ref b44), .val (.int (3 : Int32)), .val (.ref la49)] []))
      refine Go.st (fun _ kt => XS.iconst X71.here hx rfl (hb hby at_244) kt) ?_
      show Go p e below _ (T71.setTop (mkF m 245 #[.val (.int i), .val (.int j), .val (.int k), .val (.int o), .val (.int (1 : Int32)), .val (.int qe), .val (.int c1), .val (.int c2), .val (.ref b37), .val (.ref b44), .val (.int (3 : Int32)), .val (.ref la49)] [(.int (1 : Int32))]))
      refine Go.st (fun _ kt => XS.goto X71.here hx rfl (pc0 := 245) (pc' := 249) rfl (hb hby at_245) (by decide) (by decide) kt) ?_
      show Go p e below _ (T71.setTop (mkF m 249 #[.val (.int i), .val (.int j), .val (.int k), .val (.int o), .val (.int (1 : Int32)), .val (.int qe), .val (.int c1), .val (.int c2), .val (.ref b37), .val (.ref b44), .val (.int (3 : Int32)), .val (.ref la49)] [(.int (1 : Int32))]))
      refine Go.retN X71 hx (t := .boolean) Bd.returns (by simp) (BodyLoose.notSynchronized Bd) (hb hby at_249) (Q := (Q_rm0 Z i j k o h0 n0)) (by decide) (by decide) ?_
      show (Q_rm0 Z i j k o h0 n0) _ T71.heap _
      rw [e71]
      exact ⟨rfl, N71⟩
    · refine Go.st (fun _ kt => XS.ifYes X65.here hx rfl (pc0 := 203) (pc' := 218) rfl (hb hby at_203) rfl ((if0 _ _).trans (flt hc203_68).2.2.2) (by decide) (by decide) kt) ?_
      show Go p e below _ (T65.setTop (mkF m 218 #[.val (.int i), .val (.int j), .val (.int k), .val (.int o), .val (.int (1 : Int32)), .val (.int qe), .val (.int c1), .val (.int c2), .val (.ref b37), .val (.ref b44), .val (.int (3 : Int32)), .val (.ref la49)] []))
      refine Go.st (fun _ kt => XS.aload X65.here hx rfl (hb hby at_218) rfl rfl kt) ?_
      show Go p e below _ (T65.setTop (mkF m 220 #[.val (.int i), .val (.int j), .val (.int k), .val (.int o), .val (.int (1 : Int32)), .val (.int qe), .val (.int c1), .val (.int c2), .val (.ref b37), .val (.ref b44), .val (.int (3 : Int32)), .val (.ref la49)] [(.ref la49)]))
      refine Go.st (fun _ kt => XS.iload X65.here hx rfl (hb hby at_220) rfl kt) ?_
      show Go p e below _ (T65.setTop (mkF m 222 #[.val (.int i), .val (.int j), .val (.int k), .val (.int o), .val (.int (1 : Int32)), .val (.int qe), .val (.int c1), .val (.int c2), .val (.ref b37), .val (.ref b44), .val (.int (3 : Int32)), .val (.ref la49)] [(.int (1 : Int32)), (.ref la49)]))
      refine Go.st (fun _ kt => XS.iload X65.here hx rfl (hb hby at_222) rfl kt) ?_
      show Go p e below _ (T65.setTop (mkF m 224 #[.val (.int i), .val (.int j), .val (.int k), .val (.int o), .val (.int (1 : Int32)), .val (.int qe), .val (.int c1), .val (.int c2), .val (.ref b37), .val (.ref b44), .val (.int (3 : Int32)), .val (.ref la49)] [(.int c1), (.int (1 : Int32)), (.ref la49)]))
      obtain ⟨_, _, ⟨T72, L72, k72, n72⟩, -, X72, ⟨Lc72, hQ72, l72, y72, z72⟩, st72⟩ := Jvm.LawKit.callS X65 hx (y := (⟨"com/example/rowsieve/rowsieve/format/GrowingBytesPutLittleEndianPinLaw", "readsBack", "([BIC)Z"⟩ : MethodName)) hown (mvT hZ (hw _ (List.mem_of_getElem? (i := 71) rfl))) (mvT hZ (hw _ (List.mem_of_getElem? (i := 72) rfl))) (mvT hZ (hw _ (List.mem_of_getElem? (i := 73) rfl))) (mvT hZ (hw _ (List.mem_of_getElem? (i := 74) rfl))) (by decide) (backOf (W := 0) (rm11 l Z a0 hw [] la49 (1 : Int32) c1 kl49 sz [(.int (90 : Int32)), (.int ((c1.toInt8.toInt32).toInt8.toInt32)), (.int ((((c1.toUInt32 >>> ((8 : Int32) &&& 31).toUInt32).toInt32).toInt8.toInt32).toInt8.toInt32)), (.int ((c2.toInt8.toInt32).toInt8.toInt32)), (.int ((((c2.toUInt32 >>> ((8 : Int32) &&& 31).toUInt32).toInt32).toInt8.toInt32).toInt8.toInt32))] T59.heap n0 Zs59 G59_5 (own_lit hz.1 (by decide)) (own_lit hz.1 (by decide)) rfl rfl hb_c1) hZ (hw _ (List.mem_of_getElem? (i := 74) rfl)) (hw _ (List.mem_of_getElem? (i := 73) rfl)) (by decide) (by decide)) (g := (mkF m 224 #[.val (.int i), .val (.int j), .val (.int k), .val (.int o), .val (.int (1 : Int32)), .val (.int qe), .val (.int c1), .val (.int c2), .val (.ref b37), .val (.ref b44), .val (.int (3 : Int32)), .val (.ref la49)] [(.int c1), (.int (1 : Int32)), (.ref la49)])) rfl (by rw [hml]; rfl) (argsL := [(.ref la49), (.int (1 : Int32)), (.int c1)]) (rest := []) (lenOf own_pd9 rfl) rfl (by show 2 * 0 + _ ≤ _; exact Nat.le_of_eq rfl) (hb hby at_224) (fun _ _ => ⟨rfl, e65, (by decide : 5 + 0 ≤ _), (by decide : 34 + 0 ≤ _)⟩)
      dsimp only [Pt.U, Pt.locs, Pt.cells, Pt.slots] at X72 l72 y72 z72 st72 hQ72
      subst l72 y72 z72
      obtain ⟨rfl, N72q, e72⟩ := hQ72
      have N72 := Fr.app N65 N72q
      refine Go.st st72 ?_
      show Go p e below _ (T72.setTop (mkF m 227 #[.val (.int i), .val (.int j), .val (.int k), .val (.int o), .val (.int (1 : Int32)), .val (.int qe), .val (.int c1), .val (.int c2), .val (.ref b37), .val (.ref b44), .val (.int (3 : Int32)), .val (.ref la49)] [(.int (1 : Int32))]))
      refine Go.st (fun _ kt => XS.ifNo X72.here hx rfl (hb hby at_227) rfl ((if0 _ _).trans (feq (by decide : ¬ ((1 : Int32) = (0 : Int32)))).1) kt) ?_
      show Go p e below _ (T72.setTop (mkF m 230 #[.val (.int i), .val (.int j), .val (.int k), .val (.int o), .val (.int (1 : Int32)), .val (.int qe), .val (.int c1), .val (.int c2), .val (.ref b37), .val (.ref b44), .val (.int (3 : Int32)), .val (.ref la49)] []))
      refine Go.st (fun _ kt => XS.aload X72.here hx rfl (hb hby at_230) rfl rfl kt) ?_
      show Go p e below _ (T72.setTop (mkF m 232 #[.val (.int i), .val (.int j), .val (.int k), .val (.int o), .val (.int (1 : Int32)), .val (.int qe), .val (.int c1), .val (.int c2), .val (.ref b37), .val (.ref b44), .val (.int (3 : Int32)), .val (.ref la49)] [(.ref la49)]))
      refine Go.st (fun _ kt => XS.iload X72.here hx rfl (hb hby at_232) rfl kt) ?_
      show Go p e below _ (T72.setTop (mkF m 234 #[.val (.int i), .val (.int j), .val (.int k), .val (.int o), .val (.int (1 : Int32)), .val (.int qe), .val (.int c1), .val (.int c2), .val (.ref b37), .val (.ref b44), .val (.int (3 : Int32)), .val (.ref la49)] [(.int (1 : Int32)), (.ref la49)]))
      refine Go.st (fun _ kt => XS.iconst X72.here hx rfl (hb hby at_234) kt) ?_
      show Go p e below _ (T72.setTop (mkF m 235 #[.val (.int i), .val (.int j), .val (.int k), .val (.int o), .val (.int (1 : Int32)), .val (.int qe), .val (.int c1), .val (.int c2), .val (.ref b37), .val (.ref b44), .val (.int (3 : Int32)), .val (.ref la49)] [(.int (2 : Int32)), (.int (1 : Int32)), (.ref la49)]))
      refine Go.st (fun _ kt => XS.iadd X72.here hx rfl (hb hby at_235) rfl kt) ?_
      show Go p e below _ (T72.setTop (mkF m 236 #[.val (.int i), .val (.int j), .val (.int k), .val (.int o), .val (.int (1 : Int32)), .val (.int qe), .val (.int c1), .val (.int c2), .val (.ref b37), .val (.ref b44), .val (.int (3 : Int32)), .val (.ref la49)] [(.int (3 : Int32)), (.ref la49)]))
      refine Go.st (fun _ kt => XS.iload X72.here hx rfl (hb hby at_236) rfl kt) ?_
      show Go p e below _ (T72.setTop (mkF m 238 #[.val (.int i), .val (.int j), .val (.int k), .val (.int o), .val (.int (1 : Int32)), .val (.int qe), .val (.int c1), .val (.int c2), .val (.ref b37), .val (.ref b44), .val (.int (3 : Int32)), .val (.ref la49)] [(.int c2), (.int (3 : Int32)), (.ref la49)]))
      obtain ⟨_, _, ⟨T73, L73, k73, n73⟩, -, X73, ⟨Lc73, hQ73, l73, y73, z73⟩, st73⟩ := Jvm.LawKit.callS X72 hx (y := (⟨"com/example/rowsieve/rowsieve/format/GrowingBytesPutLittleEndianPinLaw", "readsBack", "([BIC)Z"⟩ : MethodName)) hown (mvT hZ (hw _ (List.mem_of_getElem? (i := 71) rfl))) (mvT hZ (hw _ (List.mem_of_getElem? (i := 72) rfl))) (mvT hZ (hw _ (List.mem_of_getElem? (i := 73) rfl))) (mvT hZ (hw _ (List.mem_of_getElem? (i := 74) rfl))) (by decide) (backOf (W := 0) (rm11 l Z a0 hw [] la49 (3 : Int32) c2 kl49 sz [(.int (90 : Int32)), (.int ((c1.toInt8.toInt32).toInt8.toInt32)), (.int ((((c1.toUInt32 >>> ((8 : Int32) &&& 31).toUInt32).toInt32).toInt8.toInt32).toInt8.toInt32)), (.int ((c2.toInt8.toInt32).toInt8.toInt32)), (.int ((((c2.toUInt32 >>> ((8 : Int32) &&& 31).toUInt32).toInt32).toInt8.toInt32).toInt8.toInt32))] T59.heap n0 Zs59 G59_5 (own_lit hz.1 (by decide)) (own_lit hz.1 (by decide)) rfl rfl hb_c2) hZ (hw _ (List.mem_of_getElem? (i := 74) rfl)) (hw _ (List.mem_of_getElem? (i := 73) rfl)) (by decide) (by decide)) (g := (mkF m 238 #[.val (.int i), .val (.int j), .val (.int k), .val (.int o), .val (.int (1 : Int32)), .val (.int qe), .val (.int c1), .val (.int c2), .val (.ref b37), .val (.ref b44), .val (.int (3 : Int32)), .val (.ref la49)] [(.int c2), (.int (3 : Int32)), (.ref la49)])) rfl (by rw [hml]; rfl) (argsL := [(.ref la49), (.int (3 : Int32)), (.int c2)]) (rest := []) (lenOf own_pd9 rfl) rfl (by show 2 * 0 + _ ≤ _; exact Nat.le_of_eq rfl) (hb hby at_238) (fun _ _ => ⟨rfl, e72, (by decide : 5 + 0 ≤ _), (by decide : 34 + 0 ≤ _)⟩)
      dsimp only [Pt.U, Pt.locs, Pt.cells, Pt.slots] at X73 l73 y73 z73 st73 hQ73
      subst l73 y73 z73
      obtain ⟨rfl, N73q, e73⟩ := hQ73
      have N73 := Fr.app N72 N73q
      refine Go.st st73 ?_
      show Go p e below _ (T73.setTop (mkF m 241 #[.val (.int i), .val (.int j), .val (.int k), .val (.int o), .val (.int (1 : Int32)), .val (.int qe), .val (.int c1), .val (.int c2), .val (.ref b37), .val (.ref b44), .val (.int (3 : Int32)), .val (.ref la49)] [(.int (1 : Int32))]))
      refine Go.st (fun _ kt => XS.ifNo X73.here hx rfl (hb hby at_241) rfl ((if0 _ _).trans (feq (by decide : ¬ ((1 : Int32) = (0 : Int32)))).1) kt) ?_
      show Go p e below _ (T73.setTop (mkF m 244 #[.val (.int i), .val (.int j), .val (.int k), .val (.int o), .val (.int (1 : Int32)), .val (.int qe), .val (.int c1), .val (.int c2), .val (.ref b37), .val (.ref b44), .val (.int (3 : Int32)), .val (.ref la49)] []))
      refine Go.st (fun _ kt => XS.iconst X73.here hx rfl (hb hby at_244) kt) ?_
      show Go p e below _ (T73.setTop (mkF m 245 #[.val (.int i), .val (.int j), .val (.int k), .val (.int o), .val (.int (1 : Int32)), .val (.int qe), .val (.int c1), .val (.int c2), .val (.ref b37), .val (.ref b44), .val (.int (3 : Int32)), .val (.ref la49)] [(.int (1 : Int32))]))
      refine Go.st (fun _ kt => XS.goto X73.here hx rfl (pc0 := 245) (pc' := 249) rfl (hb hby at_245) (by decide) (by decide) kt) ?_
      show Go p e below _ (T73.setTop (mkF m 249 #[.val (.int i), .val (.int j), .val (.int k), .val (.int o), .val (.int (1 : Int32)), .val (.int qe), .val (.int c1), .val (.int c2), .val (.ref b37), .val (.ref b44), .val (.int (3 : Int32)), .val (.ref la49)] [(.int (1 : Int32))]))
      refine Go.retN X73 hx (t := .boolean) Bd.returns (by simp) (BodyLoose.notSynchronized Bd) (hb hby at_249) (Q := (Q_rm0 Z i j k o h0 n0)) (by decide) (by decide) ?_
      show (Q_rm0 Z i j k o h0 n0) _ T73.heap _
      rw [e73]
      exact ⟨rfl, N73⟩
  · show Go p e below _ (s₁.setTop (mkF m 3 #[.val (.int i), .val (.int j), .val (.int k), .val (.int o), .unset, .unset, .unset, .unset, .unset, .unset, .unset, .unset] [(.int (2 : Int32))]))
    refine Go.st (fun _ kt => XS.istore X0.here hx rfl (hb hby at_3) rfl (l' := #[.val (.int i), .val (.int j), .val (.int k), .val (.int o), .val (.int (2 : Int32)), .unset, .unset, .unset, .unset, .unset, .unset, .unset]) rfl kt) ?_
    show Go p e below _ (s₁.setTop (mkF m 5 #[.val (.int i), .val (.int j), .val (.int k), .val (.int o), .val (.int (2 : Int32)), .unset, .unset, .unset, .unset, .unset, .unset, .unset] []))
    refine Go.st (fun _ kt => XS.iloadN X0.here hx rfl (hb hby at_5) rfl kt) ?_
    show Go p e below _ (s₁.setTop (mkF m 6 #[.val (.int i), .val (.int j), .val (.int k), .val (.int o), .val (.int (2 : Int32)), .unset, .unset, .unset, .unset, .unset, .unset, .unset] [(.int o)]))
    refine Go.st (fun _ kt => XS.iconst X0.here hx rfl (hb hby at_6) kt) ?_
    show Go p e below _ (s₁.setTop (mkF m 7 #[.val (.int i), .val (.int j), .val (.int k), .val (.int o), .val (.int (2 : Int32)), .unset, .unset, .unset, .unset, .unset, .unset, .unset] [(.int (3 : Int32)), (.int o)]))
    refine Go.st (fun _ kt => XS.iand X0.here hx rfl (hb hby at_7) rfl kt) ?_
    show Go p e below _ (s₁.setTop (mkF m 8 #[.val (.int i), .val (.int j), .val (.int k), .val (.int o), .val (.int (2 : Int32)), .unset, .unset, .unset, .unset, .unset, .unset, .unset] [(.int (o &&& (3 : Int32)))]))
    have hqe0 := c_and o 3 (by decide)
    have e3 : (3 : Int32).toInt = 3 := by decide
    generalize hqe : ((o &&& (3 : Int32)) : Int32) = qe
    show Go p e below _ (s₁.setTop (mkF m 8 #[.val (.int i), .val (.int j), .val (.int k), .val (.int o), .val (.int (2 : Int32)), .unset, .unset, .unset, .unset, .unset, .unset, .unset] [(.int qe)]))
    rw [hqe, e3] at hqe0
    refine Go.st (fun _ kt => XS.istore X0.here hx rfl (hb hby at_8) rfl (l' := #[.val (.int i), .val (.int j), .val (.int k), .val (.int o), .val (.int (2 : Int32)), .val (.int qe), .unset, .unset, .unset, .unset, .unset, .unset]) rfl kt) ?_
    show Go p e below _ (s₁.setTop (mkF m 10 #[.val (.int i), .val (.int j), .val (.int k), .val (.int o), .val (.int (2 : Int32)), .val (.int qe), .unset, .unset, .unset, .unset, .unset, .unset] []))
    refine Go.st (fun _ kt => XS.iloadN X0.here hx rfl (hb hby at_10) rfl kt) ?_
    show Go p e below _ (s₁.setTop (mkF m 11 #[.val (.int i), .val (.int j), .val (.int k), .val (.int o), .val (.int (2 : Int32)), .val (.int qe), .unset, .unset, .unset, .unset, .unset, .unset] [(.int i)]))
    refine Go.st (fun _ kt => XS.i2c X0.here hx rfl (hb hby at_11) rfl kt) ?_
    show Go p e below _ (s₁.setTop (mkF m 12 #[.val (.int i), .val (.int j), .val (.int k), .val (.int o), .val (.int (2 : Int32)), .val (.int qe), .unset, .unset, .unset, .unset, .unset, .unset] [(.int (i.toUInt32.toUInt16.toUInt32.toInt32))]))
    have hb_c1 := (c_i2c i).2
    generalize hc1 : ((i.toUInt32.toUInt16.toUInt32.toInt32) : Int32) = c1
    show Go p e below _ (s₁.setTop (mkF m 12 #[.val (.int i), .val (.int j), .val (.int k), .val (.int o), .val (.int (2 : Int32)), .val (.int qe), .unset, .unset, .unset, .unset, .unset, .unset] [(.int c1)]))
    rw [hc1] at hb_c1
    refine Go.st (fun _ kt => XS.istore X0.here hx rfl (hb hby at_12) rfl (l' := #[.val (.int i), .val (.int j), .val (.int k), .val (.int o), .val (.int (2 : Int32)), .val (.int qe), .val (.int c1), .unset, .unset, .unset, .unset, .unset]) rfl kt) ?_
    show Go p e below _ (s₁.setTop (mkF m 14 #[.val (.int i), .val (.int j), .val (.int k), .val (.int o), .val (.int (2 : Int32)), .val (.int qe), .val (.int c1), .unset, .unset, .unset, .unset, .unset] []))
    refine Go.st (fun _ kt => XS.iloadN X0.here hx rfl (hb hby at_14) rfl kt) ?_
    show Go p e below _ (s₁.setTop (mkF m 15 #[.val (.int i), .val (.int j), .val (.int k), .val (.int o), .val (.int (2 : Int32)), .val (.int qe), .val (.int c1), .unset, .unset, .unset, .unset, .unset] [(.int j)]))
    refine Go.st (fun _ kt => XS.i2c X0.here hx rfl (hb hby at_15) rfl kt) ?_
    show Go p e below _ (s₁.setTop (mkF m 16 #[.val (.int i), .val (.int j), .val (.int k), .val (.int o), .val (.int (2 : Int32)), .val (.int qe), .val (.int c1), .unset, .unset, .unset, .unset, .unset] [(.int (j.toUInt32.toUInt16.toUInt32.toInt32))]))
    have hb_c2 := (c_i2c j).2
    generalize hc2 : ((j.toUInt32.toUInt16.toUInt32.toInt32) : Int32) = c2
    show Go p e below _ (s₁.setTop (mkF m 16 #[.val (.int i), .val (.int j), .val (.int k), .val (.int o), .val (.int (2 : Int32)), .val (.int qe), .val (.int c1), .unset, .unset, .unset, .unset, .unset] [(.int c2)]))
    rw [hc2] at hb_c2
    refine Go.st (fun _ kt => XS.istore X0.here hx rfl (hb hby at_16) rfl (l' := #[.val (.int i), .val (.int j), .val (.int k), .val (.int o), .val (.int (2 : Int32)), .val (.int qe), .val (.int c1), .val (.int c2), .unset, .unset, .unset, .unset]) rfl kt) ?_
    show Go p e below _ (s₁.setTop (mkF m 18 #[.val (.int i), .val (.int j), .val (.int k), .val (.int o), .val (.int (2 : Int32)), .val (.int qe), .val (.int c1), .val (.int c2), .unset, .unset, .unset, .unset] []))
    refine Go.st (fun _ kt => XS.iconst X0.here hx rfl (hb hby at_18) kt) ?_
    show Go p e below _ (s₁.setTop (mkF m 19 #[.val (.int i), .val (.int j), .val (.int k), .val (.int o), .val (.int (2 : Int32)), .val (.int qe), .val (.int c1), .val (.int c2), .unset, .unset, .unset, .unset] [(.int (3 : Int32))]))
    obtain ⟨T74, h74, k74, X74, e74, E74, A74, Y74, st74⟩ := newPE X0 hx hZ (hw _ (List.mem_of_getElem? (i := 0) rfl)) e0 (g := (mkF m 19 #[.val (.int i), .val (.int j), .val (.int k), .val (.int o), .val (.int (2 : Int32)), .val (.int qe), .val (.int c1), .val (.int c2), .unset, .unset, .unset, .unset] [(.int (3 : Int32))])) rfl (hb hby at_19) rfl (by decide) (cap := 3) (by decide) (by decide) (by decide) (by decide) (ad := "[B") (by decide)
    obtain ⟨b74, g74⟩ : ∃ z, z = h0.size := ⟨_, rfl⟩
    rw [← g74] at A74 Y74 st74
    have gn_b74 : n0 ≤ b74 := Nat.le_trans Z0 (Nat.le_of_eq g74.symm)
    have Zs74 : n0 ≤ h74.size := Nat.le_trans Z0 E74.1
    refine Go.st st74 ?_
    have V74 : Arv Z h74 b74 k74 .byte (3 : Int32) [(.int (0 : Int32)), (.int (0 : Int32)), (.int (0 : Int32))] (.int (0 : Int32)) := (Arv.new A74 (by decide)).pad (pad_rep [] (.int (0 : Int32)) 3)
    show Go p e below _ (T74.setTop (mkF m 21 #[.val (.int i), .val (.int j), .val (.int k), .val (.int o), .val (.int (2 : Int32)), .val (.int qe), .val (.int c1), .val (.int c2), .unset, .unset, .unset, .unset] [(.ref b74)]))
    refine Go.st (fun _ kt => XS.dup X74.here hx rfl (hb hby at_21) rfl rfl kt) ?_
    show Go p e below _ (T74.setTop (mkF m 22 #[.val (.int i), .val (.int j), .val (.int k), .val (.int o), .val (.int (2 : Int32)), .val (.int qe), .val (.int c1), .val (.int c2), .unset, .unset, .unset, .unset] [(.ref b74), (.ref b74)]))
    refine Go.st (fun _ kt => XS.iconst X74.here hx rfl (hb hby at_22) kt) ?_
    show Go p e below _ (T74.setTop (mkF m 23 #[.val (.int i), .val (.int j), .val (.int k), .val (.int o), .val (.int (2 : Int32)), .val (.int qe), .val (.int c1), .val (.int c2), .unset, .unset, .unset, .unset] [(.int (0 : Int32)), (.ref b74), (.ref b74)]))
    refine Go.st (fun _ kt => XS.bipush X74.here hx rfl (hb hby at_23) kt) ?_
    show Go p e below _ (T74.setTop (mkF m 25 #[.val (.int i), .val (.int j), .val (.int k), .val (.int o), .val (.int (2 : Int32)), .val (.int qe), .val (.int c1), .val (.int c2), .unset, .unset, .unset, .unset] [(.int (90 : Int32)), (.int (0 : Int32)), (.ref b74), (.ref b74)]))
    obtain ⟨cl75, Ar75, q75, S75, N75', H75, G75⟩ := id V74
    have hin75 : ¬ ((0 : Int32) < 0 ∨ cl75.slots.size ≤ ((0 : Int32)).toNatClampNeg) := inb_of S75 ⟨by decide, by decide⟩
    obtain ⟨T76, h76, X76, e76, W76, st76⟩ := stB X74 hx hZ e74 Ar75 (j := (0 : Int32)) hin75 (g := (mkF m 25 #[.val (.int i), .val (.int j), .val (.int k), .val (.int o), .val (.int (2 : Int32)), .val (.int qe), .val (.int c1), .val (.int c2), .unset, .unset, .unset, .unset] [(.int (90 : Int32)), (.int (0 : Int32)), (.ref b74), (.ref b74)])) rfl rfl (hb hby at_25)
    refine Go.st st76 ?_
    have V76 : Arv Z h76 b74 k74 .byte (3 : Int32) [(.int (90 : Int32)), (.int (0 : Int32)), (.int (0 : Int32))] (.int (0 : Int32)) := Arv.set Ar75 q75 S75 N75' H75 G75 (fits_nar_byte _) W76 0 rfl (Nat.le_of_ble_eq_true rfl)
    have Zs76 : n0 ≤ h76.size := Nat.le_trans Zs74 (Nat.le_of_eq W76.size.symm)
    have N76 := Fr.snoc X76 N0 gn_b74
    show Go p e below _ (T76.setTop (mkF m 26 #[.val (.int i), .val (.int j), .val (.int k), .val (.int o), .val (.int (2 : Int32)), .val (.int qe), .val (.int c1), .val (.int c2), .unset, .unset, .unset, .unset] [(.ref b74)]))
    refine Go.st (fun _ kt => XS.dup X76.here hx rfl (hb hby at_26) rfl rfl kt) ?_
    show Go p e below _ (T76.setTop (mkF m 27 #[.val (.int i), .val (.int j), .val (.int k), .val (.int o), .val (.int (2 : Int32)), .val (.int qe), .val (.int c1), .val (.int c2), .unset, .unset, .unset, .unset] [(.ref b74), (.ref b74)]))
    refine Go.st (fun _ kt => XS.iconst X76.here hx rfl (hb hby at_27) kt) ?_
    show Go p e below _ (T76.setTop (mkF m 28 #[.val (.int i), .val (.int j), .val (.int k), .val (.int o), .val (.int (2 : Int32)), .val (.int qe), .val (.int c1), .val (.int c2), .unset, .unset, .unset, .unset] [(.int (1 : Int32)), (.ref b74), (.ref b74)]))
    refine Go.st (fun _ kt => XS.bipush X76.here hx rfl (hb hby at_28) kt) ?_
    show Go p e below _ (T76.setTop (mkF m 30 #[.val (.int i), .val (.int j), .val (.int k), .val (.int o), .val (.int (2 : Int32)), .val (.int qe), .val (.int c1), .val (.int c2), .unset, .unset, .unset, .unset] [(.int (-91 : Int32)), (.int (1 : Int32)), (.ref b74), (.ref b74)]))
    obtain ⟨cl77, Ar77, q77, S77, N77', H77, G77⟩ := id V76
    have hin77 : ¬ ((1 : Int32) < 0 ∨ cl77.slots.size ≤ ((1 : Int32)).toNatClampNeg) := inb_of S77 ⟨by decide, by decide⟩
    obtain ⟨T78, h78, X78, e78, W78, st78⟩ := stB X76 hx hZ e76 Ar77 (j := (1 : Int32)) hin77 (g := (mkF m 30 #[.val (.int i), .val (.int j), .val (.int k), .val (.int o), .val (.int (2 : Int32)), .val (.int qe), .val (.int c1), .val (.int c2), .unset, .unset, .unset, .unset] [(.int (-91 : Int32)), (.int (1 : Int32)), (.ref b74), (.ref b74)])) rfl rfl (hb hby at_30)
    refine Go.st st78 ?_
    have V78 : Arv Z h78 b74 k74 .byte (3 : Int32) [(.int (90 : Int32)), (.int (-91 : Int32)), (.int (0 : Int32))] (.int (0 : Int32)) := Arv.set Ar77 q77 S77 N77' H77 G77 (fits_nar_byte _) W78 1 rfl (Nat.le_of_ble_eq_true rfl)
    have Zs78 : n0 ≤ h78.size := Nat.le_trans Zs76 (Nat.le_of_eq W78.size.symm)
    have N78 := Fr.snoc X78 N76 gn_b74
    show Go p e below _ (T78.setTop (mkF m 31 #[.val (.int i), .val (.int j), .val (.int k), .val (.int o), .val (.int (2 : Int32)), .val (.int qe), .val (.int c1), .val (.int c2), .unset, .unset, .unset, .unset] [(.ref b74)]))
    refine Go.st (fun _ kt => XS.dup X78.here hx rfl (hb hby at_31) rfl rfl kt) ?_
    show Go p e below _ (T78.setTop (mkF m 32 #[.val (.int i), .val (.int j), .val (.int k), .val (.int o), .val (.int (2 : Int32)), .val (.int qe), .val (.int c1), .val (.int c2), .unset, .unset, .unset, .unset] [(.ref b74), (.ref b74)]))
    refine Go.st (fun _ kt => XS.iconst X78.here hx rfl (hb hby at_32) kt) ?_
    show Go p e below _ (T78.setTop (mkF m 33 #[.val (.int i), .val (.int j), .val (.int k), .val (.int o), .val (.int (2 : Int32)), .val (.int qe), .val (.int c1), .val (.int c2), .unset, .unset, .unset, .unset] [(.int (2 : Int32)), (.ref b74), (.ref b74)]))
    refine Go.st (fun _ kt => XS.bipush X78.here hx rfl (hb hby at_33) kt) ?_
    show Go p e below _ (T78.setTop (mkF m 35 #[.val (.int i), .val (.int j), .val (.int k), .val (.int o), .val (.int (2 : Int32)), .val (.int qe), .val (.int c1), .val (.int c2), .unset, .unset, .unset, .unset] [(.int (60 : Int32)), (.int (2 : Int32)), (.ref b74), (.ref b74)]))
    obtain ⟨cl79, Ar79, q79, S79, N79', H79, G79⟩ := id V78
    have hin79 : ¬ ((2 : Int32) < 0 ∨ cl79.slots.size ≤ ((2 : Int32)).toNatClampNeg) := inb_of S79 ⟨by decide, by decide⟩
    obtain ⟨T80, h80, X80, e80, W80, st80⟩ := stB X78 hx hZ e78 Ar79 (j := (2 : Int32)) hin79 (g := (mkF m 35 #[.val (.int i), .val (.int j), .val (.int k), .val (.int o), .val (.int (2 : Int32)), .val (.int qe), .val (.int c1), .val (.int c2), .unset, .unset, .unset, .unset] [(.int (60 : Int32)), (.int (2 : Int32)), (.ref b74), (.ref b74)])) rfl rfl (hb hby at_35)
    refine Go.st st80 ?_
    have V80 : Arv Z h80 b74 k74 .byte (3 : Int32) [(.int (90 : Int32)), (.int (-91 : Int32)), (.int (60 : Int32))] (.int (0 : Int32)) := Arv.set Ar79 q79 S79 N79' H79 G79 (fits_nar_byte _) W80 2 rfl (Nat.le_of_ble_eq_true rfl)
    have Zs80 : n0 ≤ h80.size := Nat.le_trans Zs78 (Nat.le_of_eq W80.size.symm)
    have N80 := Fr.snoc X80 N78 gn_b74
    show Go p e below _ (T80.setTop (mkF m 36 #[.val (.int i), .val (.int j), .val (.int k), .val (.int o), .val (.int (2 : Int32)), .val (.int qe), .val (.int c1), .val (.int c2), .unset, .unset, .unset, .unset] [(.ref b74)]))
    refine Go.st (fun _ kt => XS.astore X80.here hx rfl (hb hby at_36) rfl rfl (l' := #[.val (.int i), .val (.int j), .val (.int k), .val (.int o), .val (.int (2 : Int32)), .val (.int qe), .val (.int c1), .val (.int c2), .val (.ref b74), .unset, .unset, .unset]) rfl kt) ?_
    show Go p e below _ (T80.setTop (mkF m 38 #[.val (.int i), .val (.int j), .val (.int k), .val (.int o), .val (.int (2 : Int32)), .val (.int qe), .val (.int c1), .val (.int c2), .val (.ref b74), .unset, .unset, .unset] []))
    obtain ⟨T81, h81, X81, e81, E81, A81, D81, U81, st81⟩ := newO X80 hx hZ hown (hw _ (List.mem_of_getElem? (i := 1) rfl)) (hw _ (List.mem_of_getElem? (i := 2) rfl)) (hw _ (List.mem_of_getElem? (i := 3) rfl)) e80 (g := (mkF m 38 #[.val (.int i), .val (.int j), .val (.int k), .val (.int o), .val (.int (2 : Int32)), .val (.int qe), .val (.int c1), .val (.int c2), .val (.ref b74), .unset, .unset, .unset] [])) rfl (hb hby at_38) (by decide) (by decide)
    obtain ⟨b81, g81⟩ : ∃ z, z = h80.size := ⟨_, rfl⟩
    rw [← g81] at A81 D81 U81 st81
    have f82 := (((Y74.wr W76).wr W78).wr W80)
    have lt_b74_b81 : b74 < b81 := Nat.lt_of_lt_of_eq f82.lt g81.symm
    have gn_b81 : n0 ≤ b81 := Nat.le_trans Zs80 (Nat.le_of_eq g81.symm)
    have Zs81 : n0 ≤ h81.size := Nat.le_trans Zs80 E81.1
    refine Go.st st81 ?_
    have F81_segments : Fld Z h81 b81 "com/example/rowsieve/rowsieve/format/GrowingBytes" "segments" "[[B" .null := D81 (Or.inl (hw _ (List.mem_of_getElem? (i := 13) rfl))) (ty := (.array (.array .byte))) (by decide)
    have F81_bases : Fld Z h81 b81 "com/example/rowsieve/rowsieve/format/GrowingBytes" "bases" "[I" .null := D81 (Or.inl (hw _ (List.mem_of_getElem? (i := 16) rfl))) (ty := (.array .int)) (by decide)
    have F81_firstBytes : Fld Z h81 b81 "com/example/rowsieve/rowsieve/format/GrowingBytes" "firstBytes" "I" (.int (0 : Int32)) := D81 (Or.inr (hw _ (List.mem_of_getElem? (i := 18) rfl))) (ty := .int) (by decide)
    have F81_segmentBytes : Fld Z h81 b81 "com/example/rowsieve/rowsieve/format/GrowingBytes" "segmentBytes" "I" (.int (0 : Int32)) := D81 (Or.inr (hw _ (List.mem_of_getElem? (i := 20) rfl))) (ty := .int) (by decide)
    have F81_last : Fld Z h81 b81 "com/example/rowsieve/rowsieve/format/GrowingBytes" "last" "[B" .null := D81 (Or.inl (hw _ (List.mem_of_getElem? (i := 27) rfl))) (ty := (.array .byte)) (by decide)
    have F81_count : Fld Z h81 b81 "com/example/rowsieve/rowsieve/format/GrowingBytes" "count" "I" (.int (0 : Int32)) := D81 (Or.inl (hw _ (List.mem_of_getElem? (i := 33) rfl))) (ty := .int) (by decide)
    have F81_end : Fld Z h81 b81 "com/example/rowsieve/rowsieve/format/GrowingBytes" "end" "I" (.int (0 : Int32)) := D81 (Or.inl (hw _ (List.mem_of_getElem? (i := 45) rfl))) (ty := .int) (by decide)
    show Go p e below _ (T81.setTop (mkF m 41 #[.val (.int i), .val (.int j), .val (.int k), .val (.int o), .val (.int (2 : Int32)), .val (.int qe), .val (.int c1), .val (.int c2), .val (.ref b74), .unset, .unset, .unset] [(.ref b81)]))
    refine Go.st (fun _ kt => XS.dup X81.here hx rfl (hb hby at_41) rfl rfl kt) ?_
    show Go p e below _ (T81.setTop (mkF m 42 #[.val (.int i), .val (.int j), .val (.int k), .val (.int o), .val (.int (2 : Int32)), .val (.int qe), .val (.int c1), .val (.int c2), .val (.ref b74), .unset, .unset, .unset] [(.ref b81), (.ref b81)]))
    refine Go.st (fun _ kt => XS.iload X81.here hx rfl (hb hby at_42) rfl kt) ?_
    show Go p e below _ (T81.setTop (mkF m 44 #[.val (.int i), .val (.int j), .val (.int k), .val (.int o), .val (.int (2 : Int32)), .val (.int qe), .val (.int c1), .val (.int c2), .val (.ref b74), .unset, .unset, .unset] [(.int (2 : Int32)), (.ref b81), (.ref b81)]))
    refine Go.st (fun _ kt => XS.iconst X81.here hx rfl (hb hby at_44) kt) ?_
    show Go p e below _ (T81.setTop (mkF m 45 #[.val (.int i), .val (.int j), .val (.int k), .val (.int o), .val (.int (2 : Int32)), .val (.int qe), .val (.int c1), .val (.int c2), .val (.ref b74), .unset, .unset, .unset] [(.int (4 : Int32)), (.int (2 : Int32)), (.ref b81), (.ref b81)]))
    refine Go.st (fun _ kt => XS.iadd X81.here hx rfl (hb hby at_45) rfl kt) ?_
    show Go p e below _ (T81.setTop (mkF m 46 #[.val (.int i), .val (.int j), .val (.int k), .val (.int o), .val (.int (2 : Int32)), .val (.int qe), .val (.int c1), .val (.int c2), .val (.ref b74), .unset, .unset, .unset] [(.int (6 : Int32)), (.ref b81), (.ref b81)]))
    refine Go.st (fun _ kt => XS.iload X81.here hx rfl (hb hby at_46) rfl kt) ?_
    show Go p e below _ (T81.setTop (mkF m 48 #[.val (.int i), .val (.int j), .val (.int k), .val (.int o), .val (.int (2 : Int32)), .val (.int qe), .val (.int c1), .val (.int c2), .val (.ref b74), .unset, .unset, .unset] [(.int qe), (.int (6 : Int32)), (.ref b81), (.ref b81)]))
    refine Go.st (fun _ kt => XS.iadd X81.here hx rfl (hb hby at_48) rfl kt) ?_
    show Go p e below _ (T81.setTop (mkF m 49 #[.val (.int i), .val (.int j), .val (.int k), .val (.int o), .val (.int (2 : Int32)), .val (.int qe), .val (.int c1), .val (.int c2), .val (.ref b74), .unset, .unset, .unset] [(.int ((6 : Int32) + qe)), (.ref b81), (.ref b81)]))
    have hs_ := own_sum (6 : Int32) qe hqe0 (by decide)
    generalize hsz : (((6 : Int32) + qe) : Int32) = sz
    show Go p e below _ (T81.setTop (mkF m 49 #[.val (.int i), .val (.int j), .val (.int k), .val (.int o), .val (.int (2 : Int32)), .val (.int qe), .val (.int c1), .val (.int c2), .val (.ref b74), .unset, .unset, .unset] [(.int sz), (.ref b81), (.ref b81)]))
    rw [hsz, (by decide : (6 : Int32).toInt = 6)] at hs_
    have hz : (6 : Int) ≤ sz.toInt ∧ sz.toInt ≤ 9 := by omega
    refine Go.st (fun _ kt => XS.bipush X81.here hx rfl (hb hby at_49) kt) ?_
    show Go p e below _ (T81.setTop (mkF m 51 #[.val (.int i), .val (.int j), .val (.int k), .val (.int o), .val (.int (2 : Int32)), .val (.int qe), .val (.int c1), .val (.int c2), .val (.ref b74), .unset, .unset, .unset] [(.int (64 : Int32)), (.int sz), (.ref b81), (.ref b81)]))
    obtain ⟨_, _, ⟨T83, L83, k83, n83⟩, -, X83, ⟨Lc83, hQ83, l83, y83, z83⟩, st83⟩ := X81.specialBack hx (y := (⟨"com/example/rowsieve/rowsieve/format/GrowingBytes", "<init>", "(II)V"⟩ : MethodName)) rfl hown (mvT hZ (hw _ (List.mem_of_getElem? (i := 4) rfl))) (mvT hZ (hw _ (List.mem_of_getElem? (i := 5) rfl))) (mvT hZ (hw _ (List.mem_of_getElem? (i := 6) rfl))) (by decide) (backOf (W := 1) (rm1 l Z a0 hw [] b81 sz (64 : Int32) h81 n0 Zs81 A81 F81_segments F81_bases F81_last F81_firstBytes F81_segmentBytes F81_end F81_count gn_b81) hZ (hw _ (List.mem_of_getElem? (i := 6) rfl)) (hw _ (List.mem_of_getElem? (i := 3) rfl)) (by decide) (by decide)) (g := (mkF m 51 #[.val (.int i), .val (.int j), .val (.int k), .val (.int o), .val (.int (2 : Int32)), .val (.int qe), .val (.int c1), .val (.int c2), .val (.ref b74), .unset, .unset, .unset] [(.int (64 : Int32)), (.int sz), (.ref b81), (.ref b81)])) rfl (by rw [hml]; rfl) (Steps.refl _) (a := b81) (argsL := [(.int sz), (.int (64 : Int32))]) (rest := [(.ref b81)]) (lenOf own_pd5 rfl) rfl (by show 2 * 0 + _ ≤ _; exact Nat.le_of_eq rfl) (hb hby at_51) (fun _ _ => ⟨rfl, e81, (by decide : 2 + 2 ≤ _), (by decide : 10 + 8 ≤ _)⟩)
    dsimp only [Pt.U, Pt.locs, Pt.cells, Pt.slots] at X83 l83 y83 z83 st83 hQ83
    subst l83 y83 z83
    obtain ⟨sg83, ks83, bs83, kb83, rfl, N83q, K83q, hs83, ht83, nsb83, O83, G83_0, G83_1, G83_2, G83_3, G83_4, G83_5, G83_6, G83_7, G83_8⟩ := hQ83
    have f84 := (f82.ext E81)
    have lt_b74_sg83 : b74 < sg83 := Nat.lt_of_lt_of_le f84.lt hs83
    have lt_b81_sg83 : b81 < sg83 := Nat.lt_of_lt_of_le A81.lt hs83
    have gn_sg83 : n0 ≤ sg83 := Nat.le_trans Zs81 hs83
    have lt_b74_bs83 : b74 < bs83 := Nat.lt_of_lt_of_le f84.lt ht83
    have lt_b81_bs83 : b81 < bs83 := Nat.lt_of_lt_of_le A81.lt ht83
    have gn_bs83 : n0 ≤ bs83 := Nat.le_trans Zs81 ht83
    have Zs83 : n0 ≤ T83.heap.size := Nat.le_trans Zs81 K83q.1
    have N83 := Fr.app N80 N83q
    refine Go.tr st83 ?_
    show Go p e below _ (T83.setTop (mkF m 54 #[.val (.int i), .val (.int j), .val (.int k), .val (.int o), .val (.int (2 : Int32)), .val (.int qe), .val (.int c1), .val (.int c2), .val (.ref b74), .unset, .unset, .unset] [(.ref b81)]))
    refine Go.st (fun _ kt => XS.astore X83.here hx rfl (hb hby at_54) rfl rfl (l' := #[.val (.int i), .val (.int j), .val (.int k), .val (.int o), .val (.int (2 : Int32)), .val (.int qe), .val (.int c1), .val (.int c2), .val (.ref b74), .val (.ref b81), .unset, .unset]) rfl kt) ?_
    show Go p e below _ (T83.setTop (mkF m 56 #[.val (.int i), .val (.int j), .val (.int k), .val (.int o), .val (.int (2 : Int32)), .val (.int qe), .val (.int c1), .val (.int c2), .val (.ref b74), .val (.ref b81), .unset, .unset] []))
    refine Go.st (fun _ kt => XS.aload X83.here hx rfl (hb hby at_56) rfl rfl kt) ?_
    show Go p e below _ (T83.setTop (mkF m 58 #[.val (.int i), .val (.int j), .val (.int k), .val (.int o), .val (.int (2 : Int32)), .val (.int qe), .val (.int c1), .val (.int c2), .val (.ref b74), .val (.ref b81), .unset, .unset] [(.ref b81)]))
    refine Go.st (fun _ kt => XS.iload X83.here hx rfl (hb hby at_58) rfl kt) ?_
    show Go p e below _ (T83.setTop (mkF m 60 #[.val (.int i), .val (.int j), .val (.int k), .val (.int o), .val (.int (2 : Int32)), .val (.int qe), .val (.int c1), .val (.int c2), .val (.ref b74), .val (.ref b81), .unset, .unset] [(.int (2 : Int32)), (.ref b81)]))
    refine Go.st (fun _ kt => XS.iconst X83.here hx rfl (hb hby at_60) kt) ?_
    show Go p e below _ (T83.setTop (mkF m 61 #[.val (.int i), .val (.int j), .val (.int k), .val (.int o), .val (.int (2 : Int32)), .val (.int qe), .val (.int c1), .val (.int c2), .val (.ref b74), .val (.ref b81), .unset, .unset] [(.int (4 : Int32)), (.int (2 : Int32)), (.ref b81)]))
    refine Go.st (fun _ kt => XS.iadd X83.here hx rfl (hb hby at_61) rfl kt) ?_
    show Go p e below _ (T83.setTop (mkF m 62 #[.val (.int i), .val (.int j), .val (.int k), .val (.int o), .val (.int (2 : Int32)), .val (.int qe), .val (.int c1), .val (.int c2), .val (.ref b74), .val (.ref b81), .unset, .unset] [(.int (6 : Int32)), (.ref b81)]))
    have f85 := (A81.keep K83q)
    obtain ⟨cq86, kq86, q86a, q86b, q86c⟩ := isOf hZ rfl f85
    obtain ⟨_, _, ⟨T86, L86, k86, n86⟩, -, X86, ⟨Lc86, hQ86, l86, y86, z86⟩, st86⟩ := X83.virtualBack hx (y := (⟨"com/example/rowsieve/rowsieve/format/GrowingBytes", "makeRoom", "(I)V"⟩ : MethodName)) (z := (⟨"com/example/rowsieve/rowsieve/format/GrowingBytes", "makeRoom", "(I)V"⟩ : MethodName)) hown (mvT hZ (hw _ (List.mem_of_getElem? (i := 21) rfl))) (mvT hZ (hw _ (List.mem_of_getElem? (i := 22) rfl))) (notFace_of_selects (args := #[]) (mvT hZ (hw _ (List.mem_of_getElem? (i := 24) rfl)))) (mvT hZ (hw _ (List.mem_of_getElem? (i := 24) rfl))) (mvT hZ (hw _ (List.mem_of_getElem? (i := 23) rfl))) (by decide) (backOf (W := 0) (rm3 l Z a0 hw [] b81 (6 : Int32) sg83 ks83 bs83 kb83 sz (64 : Int32) sz T83.heap n0 Zs83 f85 G83_0 G83_1 G83_2 G83_3 G83_4 G83_5 G83_6 G83_7 G83_8 O83 gn_b81 gn_sg83 gn_bs83 nsb83 (Nat.ne_of_lt lt_b81_sg83) (Nat.ne_of_lt lt_b81_bs83) (own_maxR hz.1) (by omega) (by omega)) hZ (hw _ (List.mem_of_getElem? (i := 25) rfl)) (hw _ (List.mem_of_getElem? (i := 3) rfl)) (by decide) (by decide)) q86a q86c (g := (mkF m 62 #[.val (.int i), .val (.int j), .val (.int k), .val (.int o), .val (.int (2 : Int32)), .val (.int qe), .val (.int c1), .val (.int c2), .val (.ref b74), .val (.ref b81), .unset, .unset] [(.int (6 : Int32)), (.ref b81)])) rfl (by rw [hml]; rfl) (Steps.refl _) (argsL := [(.int (6 : Int32))]) (rest := []) (lenOf own_pd3 rfl) rfl (by show 2 * 0 + _ ≤ _; exact Nat.le_of_eq rfl) (hb hby at_62) (fun _ _ => ⟨rfl, rfl, (by decide : 4 + 1 ≤ _), (by decide : 18 + 16 ≤ _)⟩)
    dsimp only [Pt.U, Pt.locs, Pt.cells, Pt.slots] at X86 l86 y86 z86 st86 hQ86
    subst l86 y86 z86
    obtain ⟨la86, kl86, rfl, N86q, K86q, hs86, G86_0, G86_1, G86_2, G86_3, G86_4, G86_5, G86_6, G86_7⟩ := hQ86
    have f87 := (f84.keep K83q)
    have lt_b74_la86 : b74 < la86 := Nat.lt_of_lt_of_le f87.lt hs86
    have lt_b81_la86 : b81 < la86 := Nat.lt_of_lt_of_le f85.lt hs86
    have lt_sg83_la86 : sg83 < la86 := Nat.lt_of_lt_of_le G83_7.lt hs86
    have lt_bs83_la86 : bs83 < la86 := Nat.lt_of_lt_of_le G83_8.lt hs86
    have gn_la86 : n0 ≤ la86 := Nat.le_trans Zs83 hs86
    have Zs86 : n0 ≤ T86.heap.size := Nat.le_trans Zs83 K86q.1
    have N86 := Fr.app N83 N86q
    have VL86 : Arv Z T86.heap la86 kl86 .byte sz [(.int (0 : Int32)), (.int (0 : Int32)), (.int (0 : Int32)), (.int (0 : Int32)), (.int (0 : Int32)), (.int (0 : Int32))] (.int (0 : Int32)) := G86_7.pad (pad_rep [] (.int (0 : Int32)) 6)
    refine Go.tr st86 ?_
    show Go p e below _ (T86.setTop (mkF m 65 #[.val (.int i), .val (.int j), .val (.int k), .val (.int o), .val (.int (2 : Int32)), .val (.int qe), .val (.int c1), .val (.int c2), .val (.ref b74), .val (.ref b81), .unset, .unset] []))
    refine Go.st (fun _ kt => XS.aload X86.here hx rfl (hb hby at_65) rfl rfl kt) ?_
    show Go p e below _ (T86.setTop (mkF m 67 #[.val (.int i), .val (.int j), .val (.int k), .val (.int o), .val (.int (2 : Int32)), .val (.int qe), .val (.int c1), .val (.int c2), .val (.ref b74), .val (.ref b81), .unset, .unset] [(.ref b81)]))
    refine Go.st (fun _ kt => XS.aload X86.here hx rfl (hb hby at_67) rfl rfl kt) ?_
    show Go p e below _ (T86.setTop (mkF m 69 #[.val (.int i), .val (.int j), .val (.int k), .val (.int o), .val (.int (2 : Int32)), .val (.int qe), .val (.int c1), .val (.int c2), .val (.ref b74), .val (.ref b81), .unset, .unset] [(.ref b74), (.ref b81)]))
    refine Go.st (fun _ kt => XS.iconst X86.here hx rfl (hb hby at_69) kt) ?_
    show Go p e below _ (T86.setTop (mkF m 70 #[.val (.int i), .val (.int j), .val (.int k), .val (.int o), .val (.int (2 : Int32)), .val (.int qe), .val (.int c1), .val (.int c2), .val (.ref b74), .val (.ref b81), .unset, .unset] [(.int (0 : Int32)), (.ref b74), (.ref b81)]))
    refine Go.st (fun _ kt => XS.iload X86.here hx rfl (hb hby at_70) rfl kt) ?_
    show Go p e below _ (T86.setTop (mkF m 72 #[.val (.int i), .val (.int j), .val (.int k), .val (.int o), .val (.int (2 : Int32)), .val (.int qe), .val (.int c1), .val (.int c2), .val (.ref b74), .val (.ref b81), .unset, .unset] [(.int (2 : Int32)), (.int (0 : Int32)), (.ref b74), (.ref b81)]))
    have f88 := (f85.keep K86q)
    have f89 := (((V80.ext E81).keep K83q (ninS (Nat.ne_of_lt lt_b74_b81) nin0)).keep K86q (ninS (Nat.ne_of_lt lt_b74_b81) (ninS (Nat.ne_of_lt lt_b74_sg83) (ninS (Nat.ne_of_lt lt_b74_bs83) nin0))))
    obtain ⟨cq90, kq90, q90a, q90b, q90c⟩ := isOf hZ rfl f88
    obtain ⟨_, _, ⟨T90, L90, k90, n90⟩, -, X90, ⟨Lc90, hQ90, l90, y90, z90⟩, st90⟩ := X86.virtualBack hx (y := (⟨"com/example/rowsieve/rowsieve/format/GrowingBytes", "put", "([BII)V"⟩ : MethodName)) (z := (⟨"com/example/rowsieve/rowsieve/format/GrowingBytes", "put", "([BII)V"⟩ : MethodName)) hown (mvT hZ (hw _ (List.mem_of_getElem? (i := 46) rfl))) (mvT hZ (hw _ (List.mem_of_getElem? (i := 47) rfl))) (notFace_of_selects (args := #[]) (mvT hZ (hw _ (List.mem_of_getElem? (i := 49) rfl)))) (mvT hZ (hw _ (List.mem_of_getElem? (i := 49) rfl))) (mvT hZ (hw _ (List.mem_of_getElem? (i := 48) rfl))) (by decide) (backOf (W := 0) (rm7 l Z a0 hw [] b81 b74 (2 : Int32) la86 kl86 sz [(.int (0 : Int32)), (.int (0 : Int32)), (.int (0 : Int32)), (.int (0 : Int32)), (.int (0 : Int32)), (.int (0 : Int32))] [(.int (90 : Int32)), (.int (-91 : Int32)), (.int (0 : Int32)), (.int (0 : Int32)), (.int (0 : Int32)), (.int (0 : Int32))] sg83 bs83 k74 [(.int (90 : Int32)), (.int (-91 : Int32)), (.int (60 : Int32))] (2 : Int32) T86.heap n0 Zs86 f88 G86_0 G86_1 G86_2 G86_4 G86_3 VL86 f89 gn_b81 gn_la86 (Nat.ne_of_lt lt_b81_la86) (Nat.ne_of_lt lt_b74_la86) (Nat.ne_of_lt lt_b74_b81) (by decide) (by decide) (own_natl (n := 2) (by omega)) (by decide) rfl rfl) hZ (hw _ (List.mem_of_getElem? (i := 50) rfl)) (hw _ (List.mem_of_getElem? (i := 3) rfl)) (by decide) (by decide)) q90a q90c (g := (mkF m 72 #[.val (.int i), .val (.int j), .val (.int k), .val (.int o), .val (.int (2 : Int32)), .val (.int qe), .val (.int c1), .val (.int c2), .val (.ref b74), .val (.ref b81), .unset, .unset] [(.int (2 : Int32)), (.int (0 : Int32)), (.ref b74), (.ref b81)])) rfl (by rw [hml]; rfl) (Steps.refl _) (argsL := [(.ref b74), (.int (0 : Int32)), (.int (2 : Int32))]) (rest := []) (lenOf own_pd6 rfl) rfl (by show 2 * 0 + _ ≤ _; exact Nat.le_of_eq rfl) (hb hby at_72) (fun _ _ => ⟨rfl, rfl, (by decide : 5 + 0 ≤ _), (by decide : 34 + 0 ≤ _)⟩)
    dsimp only [Pt.U, Pt.locs, Pt.cells, Pt.slots] at X90 l90 y90 z90 st90 hQ90
    subst l90 y90 z90
    obtain ⟨rfl, N90q, K90q, G90_0, G90_1, G90_2, G90_3, G90_4, G90_5⟩ := hQ90
    have Zs90 : n0 ≤ T90.heap.size := Nat.le_trans Zs86 K90q.1
    have N90 := Fr.app N86 N90q
    refine Go.tr st90 ?_
    show Go p e below _ (T90.setTop (mkF m 75 #[.val (.int i), .val (.int j), .val (.int k), .val (.int o), .val (.int (2 : Int32)), .val (.int qe), .val (.int c1), .val (.int c2), .val (.ref b74), .val (.ref b81), .unset, .unset] []))
    refine Go.st (fun _ kt => XS.aload X90.here hx rfl (hb hby at_75) rfl rfl kt) ?_
    show Go p e below _ (T90.setTop (mkF m 77 #[.val (.int i), .val (.int j), .val (.int k), .val (.int o), .val (.int (2 : Int32)), .val (.int qe), .val (.int c1), .val (.int c2), .val (.ref b74), .val (.ref b81), .unset, .unset] [(.ref b81)]))
    refine Go.st (fun _ kt => XS.iload X90.here hx rfl (hb hby at_77) rfl kt) ?_
    show Go p e below _ (T90.setTop (mkF m 79 #[.val (.int i), .val (.int j), .val (.int k), .val (.int o), .val (.int (2 : Int32)), .val (.int qe), .val (.int c1), .val (.int c2), .val (.ref b74), .val (.ref b81), .unset, .unset] [(.int c1), (.ref b81)]))
    have f91 := (f88.keep K90q)
    obtain ⟨cq92, kq92, q92a, q92b, q92c⟩ := isOf hZ rfl f91
    obtain ⟨_, _, ⟨T92, L92, k92, n92⟩, -, X92, ⟨Lc92, hQ92, l92, y92, z92⟩, st92⟩ := X90.virtualBack hx (y := (⟨"com/example/rowsieve/rowsieve/format/GrowingBytes", "putLittleEndian", "(C)V"⟩ : MethodName)) (z := (⟨"com/example/rowsieve/rowsieve/format/GrowingBytes", "putLittleEndian", "(C)V"⟩ : MethodName)) hown (mvT hZ (hw _ (List.mem_of_getElem? (i := 55) rfl))) (mvT hZ (hw _ (List.mem_of_getElem? (i := 56) rfl))) (notFace_of_selects (args := #[]) (mvT hZ (hw _ (List.mem_of_getElem? (i := 58) rfl)))) (mvT hZ (hw _ (List.mem_of_getElem? (i := 58) rfl))) (mvT hZ (hw _ (List.mem_of_getElem? (i := 57) rfl))) (by decide) (backOf (W := 0) (rm8 l Z a0 hw [] b81 c1 la86 kl86 sz [(.int (90 : Int32)), (.int (-91 : Int32)), (.int (0 : Int32)), (.int (0 : Int32)), (.int (0 : Int32)), (.int (0 : Int32))] [(.int (90 : Int32)), (.int (-91 : Int32)), (.int ((c1.toInt8.toInt32).toInt8.toInt32)), (.int ((((c1.toUInt32 >>> ((8 : Int32) &&& 31).toUInt32).toInt32).toInt8.toInt32).toInt8.toInt32)), (.int (0 : Int32)), (.int (0 : Int32))] sg83 bs83 (2 : Int32) (4 : Int32) T90.heap n0 Zs90 f91 G90_0 G90_1 G90_2 G90_3 G90_4 G90_5 gn_b81 gn_la86 (Nat.ne_of_lt lt_b81_la86) (own_lit hz.1 (by decide)) (own_lit hz.1 (by decide)) (Nat.le_of_ble_eq_true rfl) (Nat.le_of_ble_eq_true rfl) rfl (by decide)) hZ (hw _ (List.mem_of_getElem? (i := 59) rfl)) (hw _ (List.mem_of_getElem? (i := 3) rfl)) (by decide) (by decide)) q92a q92c (g := (mkF m 79 #[.val (.int i), .val (.int j), .val (.int k), .val (.int o), .val (.int (2 : Int32)), .val (.int qe), .val (.int c1), .val (.int c2), .val (.ref b74), .val (.ref b81), .unset, .unset] [(.int c1), (.ref b81)])) rfl (by rw [hml]; rfl) (Steps.refl _) (argsL := [(.int c1)]) (rest := []) (lenOf own_pd7 rfl) rfl (by show 2 * 0 + _ ≤ _; exact Nat.le_of_eq rfl) (hb hby at_79) (fun _ _ => ⟨rfl, rfl, (by decide : 5 + 0 ≤ _), (by decide : 34 + 0 ≤ _)⟩)
    dsimp only [Pt.U, Pt.locs, Pt.cells, Pt.slots] at X92 l92 y92 z92 st92 hQ92
    subst l92 y92 z92
    obtain ⟨rfl, N92q, K92q, G92_0, G92_1, G92_2, G92_3, G92_4, G92_5⟩ := hQ92
    have Zs92 : n0 ≤ T92.heap.size := Nat.le_trans Zs90 K92q.1
    have N92 := Fr.app N90 N92q
    refine Go.tr st92 ?_
    show Go p e below _ (T92.setTop (mkF m 82 #[.val (.int i), .val (.int j), .val (.int k), .val (.int o), .val (.int (2 : Int32)), .val (.int qe), .val (.int c1), .val (.int c2), .val (.ref b74), .val (.ref b81), .unset, .unset] []))
    refine Go.st (fun _ kt => XS.aload X92.here hx rfl (hb hby at_82) rfl rfl kt) ?_
    show Go p e below _ (T92.setTop (mkF m 84 #[.val (.int i), .val (.int j), .val (.int k), .val (.int o), .val (.int (2 : Int32)), .val (.int qe), .val (.int c1), .val (.int c2), .val (.ref b74), .val (.ref b81), .unset, .unset] [(.ref b81)]))
    have f93 := ((G86_6.keep K90q (ninS (Nat.ne_of_gt lt_b81_bs83) (ninS (Nat.ne_of_lt lt_bs83_la86) nin0))).keep K92q (ninS (Nat.ne_of_gt lt_b81_bs83) (ninS (Nat.ne_of_lt lt_bs83_la86) nin0)))
    have f95 := (f91.keep K92q)
    obtain ⟨cq94, kq94, q94a, q94b, q94c⟩ := isOf hZ rfl f95
    obtain ⟨_, _, ⟨T94, L94, k94, n94⟩, -, X94, ⟨Lc94, hQ94, l94, y94, z94⟩, st94⟩ := X92.virtualBack hx (y := (⟨"com/example/rowsieve/rowsieve/format/GrowingBytes", "length", "()I"⟩ : MethodName)) (z := (⟨"com/example/rowsieve/rowsieve/format/GrowingBytes", "length", "()I"⟩ : MethodName)) hown (mvT hZ (hw _ (List.mem_of_getElem? (i := 60) rfl))) (mvT hZ (hw _ (List.mem_of_getElem? (i := 35) rfl))) (notFace_of_selects (args := #[]) (mvT hZ (hw _ (List.mem_of_getElem? (i := 37) rfl)))) (mvT hZ (hw _ (List.mem_of_getElem? (i := 37) rfl))) (mvT hZ (hw _ (List.mem_of_getElem? (i := 36) rfl))) (by decide) (backOf (W := 0) (rm5_1 l Z a0 hw [] b81 bs83 kb83 (4 : Int32) (4 : Int32) T92.heap n0 Zs92 G92_3 G92_1 G92_4 f93 (by decide)) hZ (hw _ (List.mem_of_getElem? (i := 38) rfl)) (hw _ (List.mem_of_getElem? (i := 3) rfl)) (by decide) (by decide)) q94a q94c (g := (mkF m 84 #[.val (.int i), .val (.int j), .val (.int k), .val (.int o), .val (.int (2 : Int32)), .val (.int qe), .val (.int c1), .val (.int c2), .val (.ref b74), .val (.ref b81), .unset, .unset] [(.ref b81)])) rfl (by rw [hml]; rfl) (Steps.refl _) (argsL := []) (rest := []) (lenOf own_pd1 rfl) rfl (by show 2 * 0 + _ ≤ _; exact Nat.le_of_eq rfl) (hb hby at_84) (fun _ _ => ⟨rfl, rfl, (by decide : 5 + 0 ≤ _), (by decide : 34 + 0 ≤ _)⟩)
    dsimp only [Pt.U, Pt.locs, Pt.cells, Pt.slots] at X94 l94 y94 z94 st94 hQ94
    subst l94 y94 z94
    obtain ⟨rfl, N94q, e94⟩ := hQ94
    have N94 := Fr.app N92 N94q
    refine Go.tr st94 ?_
    show Go p e below _ (T94.setTop (mkF m 87 #[.val (.int i), .val (.int j), .val (.int k), .val (.int o), .val (.int (2 : Int32)), .val (.int qe), .val (.int c1), .val (.int c2), .val (.ref b74), .val (.ref b81), .unset, .unset] [(.int (4 : Int32))]))
    refine Go.st (fun _ kt => XS.istore X94.here hx rfl (hb hby at_87) rfl (l' := #[.val (.int i), .val (.int j), .val (.int k), .val (.int o), .val (.int (2 : Int32)), .val (.int qe), .val (.int c1), .val (.int c2), .val (.ref b74), .val (.ref b81), .val (.int (4 : Int32)), .unset]) rfl kt) ?_
    show Go p e below _ (T94.setTop (mkF m 89 #[.val (.int i), .val (.int j), .val (.int k), .val (.int o), .val (.int (2 : Int32)), .val (.int qe), .val (.int c1), .val (.int c2), .val (.ref b74), .val (.ref b81), .val (.int (4 : Int32)), .unset] []))
    refine Go.st (fun _ kt => XS.aload X94.here hx rfl (hb hby at_89) rfl rfl kt) ?_
    show Go p e below _ (T94.setTop (mkF m 91 #[.val (.int i), .val (.int j), .val (.int k), .val (.int o), .val (.int (2 : Int32)), .val (.int qe), .val (.int c1), .val (.int c2), .val (.ref b74), .val (.ref b81), .val (.int (4 : Int32)), .unset] [(.ref b81)]))
    refine Go.st (fun _ kt => XS.iload X94.here hx rfl (hb hby at_91) rfl kt) ?_
    show Go p e below _ (T94.setTop (mkF m 93 #[.val (.int i), .val (.int j), .val (.int k), .val (.int o), .val (.int (2 : Int32)), .val (.int qe), .val (.int c1), .val (.int c2), .val (.ref b74), .val (.ref b81), .val (.int (4 : Int32)), .unset] [(.int c2), (.ref b81)]))
    obtain ⟨cq96, kq96, q96a, q96b, q96c⟩ := isOf hZ e94 f95
    obtain ⟨_, _, ⟨T96, L96, k96, n96⟩, -, X96, ⟨Lc96, hQ96, l96, y96, z96⟩, st96⟩ := X94.virtualBack hx (y := (⟨"com/example/rowsieve/rowsieve/format/GrowingBytes", "putLittleEndian", "(C)V"⟩ : MethodName)) (z := (⟨"com/example/rowsieve/rowsieve/format/GrowingBytes", "putLittleEndian", "(C)V"⟩ : MethodName)) hown (mvT hZ (hw _ (List.mem_of_getElem? (i := 55) rfl))) (mvT hZ (hw _ (List.mem_of_getElem? (i := 56) rfl))) (notFace_of_selects (args := #[]) (mvT hZ (hw _ (List.mem_of_getElem? (i := 58) rfl)))) (mvT hZ (hw _ (List.mem_of_getElem? (i := 58) rfl))) (mvT hZ (hw _ (List.mem_of_getElem? (i := 57) rfl))) (by decide) (backOf (W := 0) (rm8 l Z a0 hw [] b81 c2 la86 kl86 sz [(.int (90 : Int32)), (.int (-91 : Int32)), (.int ((c1.toInt8.toInt32).toInt8.toInt32)), (.int ((((c1.toUInt32 >>> ((8 : Int32) &&& 31).toUInt32).toInt32).toInt8.toInt32).toInt8.toInt32)), (.int (0 : Int32)), (.int (0 : Int32))] [(.int (90 : Int32)), (.int (-91 : Int32)), (.int ((c1.toInt8.toInt32).toInt8.toInt32)), (.int ((((c1.toUInt32 >>> ((8 : Int32) &&& 31).toUInt32).toInt32).toInt8.toInt32).toInt8.toInt32)), (.int ((c2.toInt8.toInt32).toInt8.toInt32)), (.int ((((c2.toUInt32 >>> ((8 : Int32) &&& 31).toUInt32).toInt32).toInt8.toInt32).toInt8.toInt32))] sg83 bs83 (4 : Int32) (6 : Int32) T92.heap n0 Zs92 f95 G92_0 G92_1 G92_2 G92_3 G92_4 G92_5 gn_b81 gn_la86 (Nat.ne_of_lt lt_b81_la86) (own_lit hz.1 (by decide)) (own_lit hz.1 (by decide)) (Nat.le_of_ble_eq_true rfl) (Nat.le_of_ble_eq_true rfl) rfl (by decide)) hZ (hw _ (List.mem_of_getElem? (i := 59) rfl)) (hw _ (List.mem_of_getElem? (i := 3) rfl)) (by decide) (by decide)) q96a q96c (g := (mkF m 93 #[.val (.int i), .val (.int j), .val (.int k), .val (.int o), .val (.int (2 : Int32)), .val (.int qe), .val (.int c1), .val (.int c2), .val (.ref b74), .val (.ref b81), .val (.int (4 : Int32)), .unset] [(.int c2), (.ref b81)])) rfl (by rw [hml]; rfl) (Steps.refl _) (argsL := [(.int c2)]) (rest := []) (lenOf own_pd7 rfl) rfl (by show 2 * 0 + _ ≤ _; exact Nat.le_of_eq rfl) (hb hby at_93) (fun _ _ => ⟨rfl, e94, (by decide : 5 + 0 ≤ _), (by decide : 34 + 0 ≤ _)⟩)
    dsimp only [Pt.U, Pt.locs, Pt.cells, Pt.slots] at X96 l96 y96 z96 st96 hQ96
    subst l96 y96 z96
    obtain ⟨rfl, N96q, K96q, G96_0, G96_1, G96_2, G96_3, G96_4, G96_5⟩ := hQ96
    have Zs96 : n0 ≤ T96.heap.size := Nat.le_trans Zs92 K96q.1
    have N96 := Fr.app N94 N96q
    refine Go.tr st96 ?_
    show Go p e below _ (T96.setTop (mkF m 96 #[.val (.int i), .val (.int j), .val (.int k), .val (.int o), .val (.int (2 : Int32)), .val (.int qe), .val (.int c1), .val (.int c2), .val (.ref b74), .val (.ref b81), .val (.int (4 : Int32)), .unset] []))
    refine Go.st (fun _ kt => XS.aload X96.here hx rfl (hb hby at_96) rfl rfl kt) ?_
    show Go p e below _ (T96.setTop (mkF m 98 #[.val (.int i), .val (.int j), .val (.int k), .val (.int o), .val (.int (2 : Int32)), .val (.int qe), .val (.int c1), .val (.int c2), .val (.ref b74), .val (.ref b81), .val (.int (4 : Int32)), .unset] [(.ref b81)]))
    have f98 := (f95.keep K96q)
    obtain ⟨cq97, kq97, q97a, q97b, q97c⟩ := isOf hZ rfl f98
    obtain ⟨_, _, ⟨T97, L97, k97, n97⟩, -, X97, ⟨Lc97, hQ97, l97, y97, z97⟩, st97⟩ := X96.virtualBack hx (y := (⟨"com/example/rowsieve/rowsieve/format/GrowingBytes", "segmentCount", "()I"⟩ : MethodName)) (z := (⟨"com/example/rowsieve/rowsieve/format/GrowingBytes", "segmentCount", "()I"⟩ : MethodName)) hown (mvT hZ (hw _ (List.mem_of_getElem? (i := 61) rfl))) (mvT hZ (hw _ (List.mem_of_getElem? (i := 62) rfl))) (notFace_of_selects (args := #[]) (mvT hZ (hw _ (List.mem_of_getElem? (i := 64) rfl)))) (mvT hZ (hw _ (List.mem_of_getElem? (i := 64) rfl))) (mvT hZ (hw _ (List.mem_of_getElem? (i := 63) rfl))) (by decide) (backOf (W := 0) (rm9 l Z a0 hw [] b81 (1 : Int32) T96.heap n0 Zs96 G96_3) hZ (hw _ (List.mem_of_getElem? (i := 65) rfl)) (hw _ (List.mem_of_getElem? (i := 3) rfl)) (by decide) (by decide)) q97a q97c (g := (mkF m 98 #[.val (.int i), .val (.int j), .val (.int k), .val (.int o), .val (.int (2 : Int32)), .val (.int qe), .val (.int c1), .val (.int c2), .val (.ref b74), .val (.ref b81), .val (.int (4 : Int32)), .unset] [(.ref b81)])) rfl (by rw [hml]; rfl) (Steps.refl _) (argsL := []) (rest := []) (lenOf own_pd1 rfl) rfl (by show 2 * 0 + _ ≤ _; exact Nat.le_of_eq rfl) (hb hby at_98) (fun _ _ => ⟨rfl, rfl, (by decide : 5 + 0 ≤ _), (by decide : 34 + 0 ≤ _)⟩)
    dsimp only [Pt.U, Pt.locs, Pt.cells, Pt.slots] at X97 l97 y97 z97 st97 hQ97
    subst l97 y97 z97
    obtain ⟨rfl, N97q, e97⟩ := hQ97
    have N97 := Fr.app N96 N97q
    refine Go.tr st97 ?_
    show Go p e below _ (T97.setTop (mkF m 101 #[.val (.int i), .val (.int j), .val (.int k), .val (.int o), .val (.int (2 : Int32)), .val (.int qe), .val (.int c1), .val (.int c2), .val (.ref b74), .val (.ref b81), .val (.int (4 : Int32)), .unset] [(.int (1 : Int32))]))
    refine Go.st (fun _ kt => XS.iconst X97.here hx rfl (hb hby at_101) kt) ?_
    show Go p e below _ (T97.setTop (mkF m 102 #[.val (.int i), .val (.int j), .val (.int k), .val (.int o), .val (.int (2 : Int32)), .val (.int qe), .val (.int c1), .val (.int c2), .val (.ref b74), .val (.ref b81), .val (.int (4 : Int32)), .unset] [(.int (1 : Int32)), (.int (1 : Int32))]))
    refine Go.st (fun _ kt => XS.icmpNo X97.here hx rfl (hb hby at_102) rfl (teq (by decide : (1 : Int32) = (1 : Int32))).2 kt) ?_
    show Go p e below _ (T97.setTop (mkF m 105 #[.val (.int i), .val (.int j), .val (.int k), .val (.int o), .val (.int (2 : Int32)), .val (.int qe), .val (.int c1), .val (.int c2), .val (.ref b74), .val (.ref b81), .val (.int (4 : Int32)), .unset] []))
    refine Go.st (fun _ kt => XS.iload X97.here hx rfl (hb hby at_105) rfl kt) ?_
    show Go p e below _ (T97.setTop (mkF m 107 #[.val (.int i), .val (.int j), .val (.int k), .val (.int o), .val (.int (2 : Int32)), .val (.int qe), .val (.int c1), .val (.int c2), .val (.ref b74), .val (.ref b81), .val (.int (4 : Int32)), .unset] [(.int (4 : Int32))]))
    refine Go.st (fun _ kt => XS.iload X97.here hx rfl (hb hby at_107) rfl kt) ?_
    show Go p e below _ (T97.setTop (mkF m 109 #[.val (.int i), .val (.int j), .val (.int k), .val (.int o), .val (.int (2 : Int32)), .val (.int qe), .val (.int c1), .val (.int c2), .val (.ref b74), .val (.ref b81), .val (.int (4 : Int32)), .unset] [(.int (2 : Int32)), (.int (4 : Int32))]))
    refine Go.st (fun _ kt => XS.iconst X97.here hx rfl (hb hby at_109) kt) ?_
    show Go p e below _ (T97.setTop (mkF m 110 #[.val (.int i), .val (.int j), .val (.int k), .val (.int o), .val (.int (2 : Int32)), .val (.int qe), .val (.int c1), .val (.int c2), .val (.ref b74), .val (.ref b81), .val (.int (4 : Int32)), .unset] [(.int (2 : Int32)), (.int (2 : Int32)), (.int (4 : Int32))]))
    refine Go.st (fun _ kt => XS.iadd X97.here hx rfl (hb hby at_110) rfl kt) ?_
    show Go p e below _ (T97.setTop (mkF m 111 #[.val (.int i), .val (.int j), .val (.int k), .val (.int o), .val (.int (2 : Int32)), .val (.int qe), .val (.int c1), .val (.int c2), .val (.ref b74), .val (.ref b81), .val (.int (4 : Int32)), .unset] [(.int (4 : Int32)), (.int (4 : Int32))]))
    refine Go.st (fun _ kt => XS.icmpNo X97.here hx rfl (hb hby at_111) rfl (teq (by decide : (4 : Int32) = (4 : Int32))).2 kt) ?_
    show Go p e below _ (T97.setTop (mkF m 114 #[.val (.int i), .val (.int j), .val (.int k), .val (.int o), .val (.int (2 : Int32)), .val (.int qe), .val (.int c1), .val (.int c2), .val (.ref b74), .val (.ref b81), .val (.int (4 : Int32)), .unset] []))
    refine Go.st (fun _ kt => XS.aload X97.here hx rfl (hb hby at_114) rfl rfl kt) ?_
    show Go p e below _ (T97.setTop (mkF m 116 #[.val (.int i), .val (.int j), .val (.int k), .val (.int o), .val (.int (2 : Int32)), .val (.int qe), .val (.int c1), .val (.int c2), .val (.ref b74), .val (.ref b81), .val (.int (4 : Int32)), .unset] [(.ref b81)]))
    have f99 := (f93.keep K96q (ninS (Nat.ne_of_gt lt_b81_bs83) (ninS (Nat.ne_of_lt lt_bs83_la86) nin0)))
    obtain ⟨cq100, kq100, q100a, q100b, q100c⟩ := isOf hZ e97 f98
    obtain ⟨_, _, ⟨T100, L100, k100, n100⟩, -, X100, ⟨Lc100, hQ100, l100, y100, z100⟩, st100⟩ := X97.virtualBack hx (y := (⟨"com/example/rowsieve/rowsieve/format/GrowingBytes", "length", "()I"⟩ : MethodName)) (z := (⟨"com/example/rowsieve/rowsieve/format/GrowingBytes", "length", "()I"⟩ : MethodName)) hown (mvT hZ (hw _ (List.mem_of_getElem? (i := 60) rfl))) (mvT hZ (hw _ (List.mem_of_getElem? (i := 35) rfl))) (notFace_of_selects (args := #[]) (mvT hZ (hw _ (List.mem_of_getElem? (i := 37) rfl)))) (mvT hZ (hw _ (List.mem_of_getElem? (i := 37) rfl))) (mvT hZ (hw _ (List.mem_of_getElem? (i := 36) rfl))) (by decide) (backOf (W := 0) (rm5_1 l Z a0 hw [] b81 bs83 kb83 (6 : Int32) (6 : Int32) T96.heap n0 Zs96 G96_3 G96_1 G96_4 f99 (by decide)) hZ (hw _ (List.mem_of_getElem? (i := 38) rfl)) (hw _ (List.mem_of_getElem? (i := 3) rfl)) (by decide) (by decide)) q100a q100c (g := (mkF m 116 #[.val (.int i), .val (.int j), .val (.int k), .val (.int o), .val (.int (2 : Int32)), .val (.int qe), .val (.int c1), .val (.int c2), .val (.ref b74), .val (.ref b81), .val (.int (4 : Int32)), .unset] [(.ref b81)])) rfl (by rw [hml]; rfl) (Steps.refl _) (argsL := []) (rest := []) (lenOf own_pd1 rfl) rfl (by show 2 * 0 + _ ≤ _; exact Nat.le_of_eq rfl) (hb hby at_116) (fun _ _ => ⟨rfl, e97, (by decide : 5 + 0 ≤ _), (by decide : 34 + 0 ≤ _)⟩)
    dsimp only [Pt.U, Pt.locs, Pt.cells, Pt.slots] at X100 l100 y100 z100 st100 hQ100
    subst l100 y100 z100
    obtain ⟨rfl, N100q, e100⟩ := hQ100
    have N100 := Fr.app N97 N100q
    refine Go.tr st100 ?_
    show Go p e below _ (T100.setTop (mkF m 119 #[.val (.int i), .val (.int j), .val (.int k), .val (.int o), .val (.int (2 : Int32)), .val (.int qe), .val (.int c1), .val (.int c2), .val (.ref b74), .val (.ref b81), .val (.int (4 : Int32)), .unset] [(.int (6 : Int32))]))
    refine Go.st (fun _ kt => XS.iload X100.here hx rfl (hb hby at_119) rfl kt) ?_
    show Go p e below _ (T100.setTop (mkF m 121 #[.val (.int i), .val (.int j), .val (.int k), .val (.int o), .val (.int (2 : Int32)), .val (.int qe), .val (.int c1), .val (.int c2), .val (.ref b74), .val (.ref b81), .val (.int (4 : Int32)), .unset] [(.int (2 : Int32)), (.int (6 : Int32))]))
    refine Go.st (fun _ kt => XS.iconst X100.here hx rfl (hb hby at_121) kt) ?_
    show Go p e below _ (T100.setTop (mkF m 122 #[.val (.int i), .val (.int j), .val (.int k), .val (.int o), .val (.int (2 : Int32)), .val (.int qe), .val (.int c1), .val (.int c2), .val (.ref b74), .val (.ref b81), .val (.int (4 : Int32)), .unset] [(.int (4 : Int32)), (.int (2 : Int32)), (.int (6 : Int32))]))
    refine Go.st (fun _ kt => XS.iadd X100.here hx rfl (hb hby at_122) rfl kt) ?_
    show Go p e below _ (T100.setTop (mkF m 123 #[.val (.int i), .val (.int j), .val (.int k), .val (.int o), .val (.int (2 : Int32)), .val (.int qe), .val (.int c1), .val (.int c2), .val (.ref b74), .val (.ref b81), .val (.int (4 : Int32)), .unset] [(.int (6 : Int32)), (.int (6 : Int32))]))
    refine Go.st (fun _ kt => XS.icmpYes X100.here hx rfl (pc0 := 123) (pc' := 128) rfl (hb hby at_123) rfl (teq (by decide : (6 : Int32) = (6 : Int32))).1 (by decide) (by decide) kt) ?_
    show Go p e below _ (T100.setTop (mkF m 128 #[.val (.int i), .val (.int j), .val (.int k), .val (.int o), .val (.int (2 : Int32)), .val (.int qe), .val (.int c1), .val (.int c2), .val (.ref b74), .val (.ref b81), .val (.int (4 : Int32)), .unset] []))
    refine Go.st (fun _ kt => XS.aload X100.here hx rfl (hb hby at_128) rfl rfl kt) ?_
    show Go p e below _ (T100.setTop (mkF m 130 #[.val (.int i), .val (.int j), .val (.int k), .val (.int o), .val (.int (2 : Int32)), .val (.int qe), .val (.int c1), .val (.int c2), .val (.ref b74), .val (.ref b81), .val (.int (4 : Int32)), .unset] [(.ref b81)]))
    refine Go.st (fun _ kt => XS.iconst X100.here hx rfl (hb hby at_130) kt) ?_
    show Go p e below _ (T100.setTop (mkF m 131 #[.val (.int i), .val (.int j), .val (.int k), .val (.int o), .val (.int (2 : Int32)), .val (.int qe), .val (.int c1), .val (.int c2), .val (.ref b74), .val (.ref b81), .val (.int (4 : Int32)), .unset] [(.int (0 : Int32)), (.ref b81)]))
    have f101 := (((G86_5.keep K90q (ninS (Nat.ne_of_gt lt_b81_sg83) (ninS (Nat.ne_of_lt lt_sg83_la86) nin0))).keep K92q (ninS (Nat.ne_of_gt lt_b81_sg83) (ninS (Nat.ne_of_lt lt_sg83_la86) nin0))).keep K96q (ninS (Nat.ne_of_gt lt_b81_sg83) (ninS (Nat.ne_of_lt lt_sg83_la86) nin0)))
    obtain ⟨cq102, kq102, q102a, q102b, q102c⟩ := isOf hZ e100 f98
    obtain ⟨_, _, ⟨T102, L102, k102, n102⟩, -, X102, ⟨Lc102, hQ102, l102, y102, z102⟩, st102⟩ := X100.virtualBack hx (y := (⟨"com/example/rowsieve/rowsieve/format/GrowingBytes", "segment", "(I)[B"⟩ : MethodName)) (z := (⟨"com/example/rowsieve/rowsieve/format/GrowingBytes", "segment", "(I)[B"⟩ : MethodName)) hown (mvT hZ (hw _ (List.mem_of_getElem? (i := 66) rfl))) (mvT hZ (hw _ (List.mem_of_getElem? (i := 67) rfl))) (notFace_of_selects (args := #[]) (mvT hZ (hw _ (List.mem_of_getElem? (i := 69) rfl)))) (mvT hZ (hw _ (List.mem_of_getElem? (i := 69) rfl))) (mvT hZ (hw _ (List.mem_of_getElem? (i := 68) rfl))) (by decide) (backOf (W := 0) (rm10 l Z a0 hw [] b81 sg83 ks83 la86 T96.heap n0 Zs96 G96_0 f101) hZ (hw _ (List.mem_of_getElem? (i := 70) rfl)) (hw _ (List.mem_of_getElem? (i := 3) rfl)) (by decide) (by decide)) q102a q102c (g := (mkF m 131 #[.val (.int i), .val (.int j), .val (.int k), .val (.int o), .val (.int (2 : Int32)), .val (.int qe), .val (.int c1), .val (.int c2), .val (.ref b74), .val (.ref b81), .val (.int (4 : Int32)), .unset] [(.int (0 : Int32)), (.ref b81)])) rfl (by rw [hml]; rfl) (Steps.refl _) (argsL := [(.int (0 : Int32))]) (rest := []) (lenOf own_pd8 rfl) rfl (by show 2 * 0 + _ ≤ _; exact Nat.le_of_eq rfl) (hb hby at_131) (fun _ _ => ⟨rfl, e100, (by decide : 5 + 0 ≤ _), (by decide : 34 + 0 ≤ _)⟩)
    dsimp only [Pt.U, Pt.locs, Pt.cells, Pt.slots] at X102 l102 y102 z102 st102 hQ102
    subst l102 y102 z102
    obtain ⟨rfl, N102q, e102⟩ := hQ102
    have N102 := Fr.app N100 N102q
    refine Go.tr st102 ?_
    show Go p e below _ (T102.setTop (mkF m 134 #[.val (.int i), .val (.int j), .val (.int k), .val (.int o), .val (.int (2 : Int32)), .val (.int qe), .val (.int c1), .val (.int c2), .val (.ref b74), .val (.ref b81), .val (.int (4 : Int32)), .unset] [(.ref la86)]))
    refine Go.st (fun _ kt => XS.astore X102.here hx rfl (hb hby at_134) rfl rfl (l' := #[.val (.int i), .val (.int j), .val (.int k), .val (.int o), .val (.int (2 : Int32)), .val (.int qe), .val (.int c1), .val (.int c2), .val (.ref b74), .val (.ref b81), .val (.int (4 : Int32)), .val (.ref la86)]) rfl kt) ?_
    show Go p e below _ (T102.setTop (mkF m 136 #[.val (.int i), .val (.int j), .val (.int k), .val (.int o), .val (.int (2 : Int32)), .val (.int qe), .val (.int c1), .val (.int c2), .val (.ref b74), .val (.ref b81), .val (.int (4 : Int32)), .val (.ref la86)] []))
    refine Go.st (fun _ kt => XS.aload X102.here hx rfl (hb hby at_136) rfl rfl kt) ?_
    show Go p e below _ (T102.setTop (mkF m 138 #[.val (.int i), .val (.int j), .val (.int k), .val (.int o), .val (.int (2 : Int32)), .val (.int qe), .val (.int c1), .val (.int c2), .val (.ref b74), .val (.ref b81), .val (.int (4 : Int32)), .val (.ref la86)] [(.ref la86)]))
    obtain ⟨cl103, Ar103, -, S103, N103', -, -⟩ := id G96_5
    refine Go.st (fun _ kt => X102.arraylength hx (by rw [e102]; exact Ar103.1) (State.isArrayOf_alike hZ.alike Ar103.2.1) (g := (mkF m 138 #[.val (.int i), .val (.int j), .val (.int k), .val (.int o), .val (.int (2 : Int32)), .val (.int qe), .val (.int c1), .val (.int c2), .val (.ref b74), .val (.ref b81), .val (.int (4 : Int32)), .val (.ref la86)] [(.ref la86)])) rfl rfl (hb hby at_138) _ kt) ?_
    rw [len_of S103 N103']
    show Go p e below _ (T102.setTop (mkF m 139 #[.val (.int i), .val (.int j), .val (.int k), .val (.int o), .val (.int (2 : Int32)), .val (.int qe), .val (.int c1), .val (.int c2), .val (.ref b74), .val (.ref b81), .val (.int (4 : Int32)), .val (.ref la86)] [(.int sz)]))
    refine Go.st (fun _ kt => XS.iload X102.here hx rfl (hb hby at_139) rfl kt) ?_
    show Go p e below _ (T102.setTop (mkF m 141 #[.val (.int i), .val (.int j), .val (.int k), .val (.int o), .val (.int (2 : Int32)), .val (.int qe), .val (.int c1), .val (.int c2), .val (.ref b74), .val (.ref b81), .val (.int (4 : Int32)), .val (.ref la86)] [(.int (2 : Int32)), (.int sz)]))
    refine Go.st (fun _ kt => XS.iconst X102.here hx rfl (hb hby at_141) kt) ?_
    show Go p e below _ (T102.setTop (mkF m 142 #[.val (.int i), .val (.int j), .val (.int k), .val (.int o), .val (.int (2 : Int32)), .val (.int qe), .val (.int c1), .val (.int c2), .val (.ref b74), .val (.ref b81), .val (.int (4 : Int32)), .val (.ref la86)] [(.int (4 : Int32)), (.int (2 : Int32)), (.int sz)]))
    refine Go.st (fun _ kt => XS.iadd X102.here hx rfl (hb hby at_142) rfl kt) ?_
    show Go p e below _ (T102.setTop (mkF m 143 #[.val (.int i), .val (.int j), .val (.int k), .val (.int o), .val (.int (2 : Int32)), .val (.int qe), .val (.int c1), .val (.int c2), .val (.ref b74), .val (.ref b81), .val (.int (4 : Int32)), .val (.ref la86)] [(.int (6 : Int32)), (.int sz)]))
    refine Go.st (fun _ kt => XS.iload X102.here hx rfl (hb hby at_143) rfl kt) ?_
    show Go p e below _ (T102.setTop (mkF m 145 #[.val (.int i), .val (.int j), .val (.int k), .val (.int o), .val (.int (2 : Int32)), .val (.int qe), .val (.int c1), .val (.int c2), .val (.ref b74), .val (.ref b81), .val (.int (4 : Int32)), .val (.ref la86)] [(.int qe), (.int (6 : Int32)), (.int sz)]))
    refine Go.st (fun _ kt => XS.iadd X102.here hx rfl (hb hby at_145) rfl kt) ?_
    show Go p e below _ (T102.setTop (mkF m 146 #[.val (.int i), .val (.int j), .val (.int k), .val (.int o), .val (.int (2 : Int32)), .val (.int qe), .val (.int c1), .val (.int c2), .val (.ref b74), .val (.ref b81), .val (.int (4 : Int32)), .val (.ref la86)] [(.int ((6 : Int32) + qe)), (.int sz)]))
    refine Go.st (fun _ kt => XS.icmpYes X102.here hx rfl (pc0 := 146) (pc' := 151) rfl (hb hby at_146) rfl (teq hsz.symm).1 (by decide) (by decide) kt) ?_
    show Go p e below _ (T102.setTop (mkF m 151 #[.val (.int i), .val (.int j), .val (.int k), .val (.int o), .val (.int (2 : Int32)), .val (.int qe), .val (.int c1), .val (.int c2), .val (.ref b74), .val (.ref b81), .val (.int (4 : Int32)), .val (.ref la86)] []))
    refine Go.st (fun _ kt => XS.iload X102.here hx rfl (hb hby at_151) rfl kt) ?_
    show Go p e below _ (T102.setTop (mkF m 153 #[.val (.int i), .val (.int j), .val (.int k), .val (.int o), .val (.int (2 : Int32)), .val (.int qe), .val (.int c1), .val (.int c2), .val (.ref b74), .val (.ref b81), .val (.int (4 : Int32)), .val (.ref la86)] [(.int (2 : Int32))]))
    refine Go.st (fun _ kt => XS.ifNo X102.here hx rfl (hb hby at_153) rfl ((if0 _ _).trans (tlt (by decide : (0 : Int32) < (2 : Int32))).2.2.2) kt) ?_
    show Go p e below _ (T102.setTop (mkF m 156 #[.val (.int i), .val (.int j), .val (.int k), .val (.int o), .val (.int (2 : Int32)), .val (.int qe), .val (.int c1), .val (.int c2), .val (.ref b74), .val (.ref b81), .val (.int (4 : Int32)), .val (.ref la86)] []))
    refine Go.st (fun _ kt => XS.aload X102.here hx rfl (hb hby at_156) rfl rfl kt) ?_
    show Go p e below _ (T102.setTop (mkF m 158 #[.val (.int i), .val (.int j), .val (.int k), .val (.int o), .val (.int (2 : Int32)), .val (.int qe), .val (.int c1), .val (.int c2), .val (.ref b74), .val (.ref b81), .val (.int (4 : Int32)), .val (.ref la86)] [(.ref la86)]))
    refine Go.st (fun _ kt => XS.iconst X102.here hx rfl (hb hby at_158) kt) ?_
    show Go p e below _ (T102.setTop (mkF m 159 #[.val (.int i), .val (.int j), .val (.int k), .val (.int o), .val (.int (2 : Int32)), .val (.int qe), .val (.int c1), .val (.int c2), .val (.ref b74), .val (.ref b81), .val (.int (4 : Int32)), .val (.ref la86)] [(.int (0 : Int32)), (.ref la86)]))
    obtain ⟨cl104, Ar104, -, S104, N104', H104, G104⟩ := id G96_5
    have hin104 := inb_of S104 (j := (0 : Int32)) (own_lit hz.1 (by decide))
    have hat104 := Has.at H104 hin104 (v := (.int (90 : Int32))) rfl
    refine Go.st (fun _ kt => X102.baloadBytes hx (j := (0 : Int32)) (v := (.int (90 : Int32))) (by rw [e102]; exact Ar104.1) (State.isArrayOf_alike hZ.alike Ar104.2.1) Ar104.2.2 hin104 hat104 (g := (mkF m 159 #[.val (.int i), .val (.int j), .val (.int k), .val (.int o), .val (.int (2 : Int32)), .val (.int qe), .val (.int c1), .val (.int c2), .val (.ref b74), .val (.ref b81), .val (.int (4 : Int32)), .val (.ref la86)] [(.int (0 : Int32)), (.ref la86)])) rfl rfl (hb hby at_159) _ kt) ?_
    show Go p e below _ (T102.setTop (mkF m 160 #[.val (.int i), .val (.int j), .val (.int k), .val (.int o), .val (.int (2 : Int32)), .val (.int qe), .val (.int c1), .val (.int c2), .val (.ref b74), .val (.ref b81), .val (.int (4 : Int32)), .val (.ref la86)] [(.int (90 : Int32))]))
    refine Go.st (fun _ kt => XS.bipush X102.here hx rfl (hb hby at_160) kt) ?_
    show Go p e below _ (T102.setTop (mkF m 162 #[.val (.int i), .val (.int j), .val (.int k), .val (.int o), .val (.int (2 : Int32)), .val (.int qe), .val (.int c1), .val (.int c2), .val (.ref b74), .val (.ref b81), .val (.int (4 : Int32)), .val (.ref la86)] [(.int (90 : Int32)), (.int (90 : Int32))]))
    refine Go.st (fun _ kt => XS.icmpYes X102.here hx rfl (pc0 := 162) (pc' := 167) rfl (hb hby at_162) rfl (teq (by decide : (90 : Int32) = (90 : Int32))).1 (by decide) (by decide) kt) ?_
    show Go p e below _ (T102.setTop (mkF m 167 #[.val (.int i), .val (.int j), .val (.int k), .val (.int o), .val (.int (2 : Int32)), .val (.int qe), .val (.int c1), .val (.int c2), .val (.ref b74), .val (.ref b81), .val (.int (4 : Int32)), .val (.ref la86)] []))
    refine Go.st (fun _ kt => XS.iload X102.here hx rfl (hb hby at_167) rfl kt) ?_
    show Go p e below _ (T102.setTop (mkF m 169 #[.val (.int i), .val (.int j), .val (.int k), .val (.int o), .val (.int (2 : Int32)), .val (.int qe), .val (.int c1), .val (.int c2), .val (.ref b74), .val (.ref b81), .val (.int (4 : Int32)), .val (.ref la86)] [(.int (2 : Int32))]))
    refine Go.st (fun _ kt => XS.iconst X102.here hx rfl (hb hby at_169) kt) ?_
    show Go p e below _ (T102.setTop (mkF m 170 #[.val (.int i), .val (.int j), .val (.int k), .val (.int o), .val (.int (2 : Int32)), .val (.int qe), .val (.int c1), .val (.int c2), .val (.ref b74), .val (.ref b81), .val (.int (4 : Int32)), .val (.ref la86)] [(.int (1 : Int32)), (.int (2 : Int32))]))
    refine Go.st (fun _ kt => XS.icmpNo X102.here hx rfl (hb hby at_170) rfl (tlt (by decide : (1 : Int32) < (2 : Int32))).2.2.2 kt) ?_
    show Go p e below _ (T102.setTop (mkF m 173 #[.val (.int i), .val (.int j), .val (.int k), .val (.int o), .val (.int (2 : Int32)), .val (.int qe), .val (.int c1), .val (.int c2), .val (.ref b74), .val (.ref b81), .val (.int (4 : Int32)), .val (.ref la86)] []))
    refine Go.st (fun _ kt => XS.aload X102.here hx rfl (hb hby at_173) rfl rfl kt) ?_
    show Go p e below _ (T102.setTop (mkF m 175 #[.val (.int i), .val (.int j), .val (.int k), .val (.int o), .val (.int (2 : Int32)), .val (.int qe), .val (.int c1), .val (.int c2), .val (.ref b74), .val (.ref b81), .val (.int (4 : Int32)), .val (.ref la86)] [(.ref la86)]))
    refine Go.st (fun _ kt => XS.iconst X102.here hx rfl (hb hby at_175) kt) ?_
    show Go p e below _ (T102.setTop (mkF m 176 #[.val (.int i), .val (.int j), .val (.int k), .val (.int o), .val (.int (2 : Int32)), .val (.int qe), .val (.int c1), .val (.int c2), .val (.ref b74), .val (.ref b81), .val (.int (4 : Int32)), .val (.ref la86)] [(.int (1 : Int32)), (.ref la86)]))
    obtain ⟨cl105, Ar105, -, S105, N105', H105, G105⟩ := id G96_5
    have hin105 := inb_of S105 (j := (1 : Int32)) (own_lit hz.1 (by decide))
    have hat105 := Has.at H105 hin105 (v := (.int (-91 : Int32))) rfl
    refine Go.st (fun _ kt => X102.baloadBytes hx (j := (1 : Int32)) (v := (.int (-91 : Int32))) (by rw [e102]; exact Ar105.1) (State.isArrayOf_alike hZ.alike Ar105.2.1) Ar105.2.2 hin105 hat105 (g := (mkF m 176 #[.val (.int i), .val (.int j), .val (.int k), .val (.int o), .val (.int (2 : Int32)), .val (.int qe), .val (.int c1), .val (.int c2), .val (.ref b74), .val (.ref b81), .val (.int (4 : Int32)), .val (.ref la86)] [(.int (1 : Int32)), (.ref la86)])) rfl rfl (hb hby at_176) _ kt) ?_
    show Go p e below _ (T102.setTop (mkF m 177 #[.val (.int i), .val (.int j), .val (.int k), .val (.int o), .val (.int (2 : Int32)), .val (.int qe), .val (.int c1), .val (.int c2), .val (.ref b74), .val (.ref b81), .val (.int (4 : Int32)), .val (.ref la86)] [(.int (-91 : Int32))]))
    refine Go.st (fun _ kt => XS.bipush X102.here hx rfl (hb hby at_177) kt) ?_
    show Go p e below _ (T102.setTop (mkF m 179 #[.val (.int i), .val (.int j), .val (.int k), .val (.int o), .val (.int (2 : Int32)), .val (.int qe), .val (.int c1), .val (.int c2), .val (.ref b74), .val (.ref b81), .val (.int (4 : Int32)), .val (.ref la86)] [(.int (-91 : Int32)), (.int (-91 : Int32))]))
    refine Go.st (fun _ kt => XS.icmpYes X102.here hx rfl (pc0 := 179) (pc' := 184) rfl (hb hby at_179) rfl (teq (by decide : (-91 : Int32) = (-91 : Int32))).1 (by decide) (by decide) kt) ?_
    show Go p e below _ (T102.setTop (mkF m 184 #[.val (.int i), .val (.int j), .val (.int k), .val (.int o), .val (.int (2 : Int32)), .val (.int qe), .val (.int c1), .val (.int c2), .val (.ref b74), .val (.ref b81), .val (.int (4 : Int32)), .val (.ref la86)] []))
    refine Go.st (fun _ kt => XS.iload X102.here hx rfl (hb hby at_184) rfl kt) ?_
    show Go p e below _ (T102.setTop (mkF m 186 #[.val (.int i), .val (.int j), .val (.int k), .val (.int o), .val (.int (2 : Int32)), .val (.int qe), .val (.int c1), .val (.int c2), .val (.ref b74), .val (.ref b81), .val (.int (4 : Int32)), .val (.ref la86)] [(.int (2 : Int32))]))
    refine Go.st (fun _ kt => XS.iconst X102.here hx rfl (hb hby at_186) kt) ?_
    show Go p e below _ (T102.setTop (mkF m 187 #[.val (.int i), .val (.int j), .val (.int k), .val (.int o), .val (.int (2 : Int32)), .val (.int qe), .val (.int c1), .val (.int c2), .val (.ref b74), .val (.ref b81), .val (.int (4 : Int32)), .val (.ref la86)] [(.int (2 : Int32)), (.int (2 : Int32))]))
    refine Go.st (fun _ kt => XS.icmpYes X102.here hx rfl (pc0 := 187) (pc' := 201) rfl (hb hby at_187) rfl (flt (by decide : ¬ ((2 : Int32) < (2 : Int32)))).2.2.2 (by decide) (by decide) kt) ?_
    show Go p e below _ (T102.setTop (mkF m 201 #[.val (.int i), .val (.int j), .val (.int k), .val (.int o), .val (.int (2 : Int32)), .val (.int qe), .val (.int c1), .val (.int c2), .val (.ref b74), .val (.ref b81), .val (.int (4 : Int32)), .val (.ref la86)] []))
    refine Go.st (fun _ kt => XS.iload X102.here hx rfl (hb hby at_201) rfl kt) ?_
    show Go p e below _ (T102.setTop (mkF m 203 #[.val (.int i), .val (.int j), .val (.int k), .val (.int o), .val (.int (2 : Int32)), .val (.int qe), .val (.int c1), .val (.int c2), .val (.ref b74), .val (.ref b81), .val (.int (4 : Int32)), .val (.ref la86)] [(.int qe)]))
    by_cases hc203_106 : (0 : Int32) < qe
    · refine Go.st (fun _ kt => XS.ifNo X102.here hx rfl (hb hby at_203) rfl ((if0 _ _).trans (tlt hc203_106).2.2.2) kt) ?_
      show Go p e below _ (T102.setTop (mkF m 206 #[.val (.int i), .val (.int j), .val (.int k), .val (.int o), .val (.int (2 : Int32)), .val (.int qe), .val (.int c1), .val (.int c2), .val (.ref b74), .val (.ref b81), .val (.int (4 : Int32)), .val (.ref la86)] []))
      refine Go.st (fun _ kt => XS.aload X102.here hx rfl (hb hby at_206) rfl rfl kt) ?_
      show Go p e below _ (T102.setTop (mkF m 208 #[.val (.int i), .val (.int j), .val (.int k), .val (.int o), .val (.int (2 : Int32)), .val (.int qe), .val (.int c1), .val (.int c2), .val (.ref b74), .val (.ref b81), .val (.int (4 : Int32)), .val (.ref la86)] [(.ref la86)]))
      refine Go.st (fun _ kt => XS.iload X102.here hx rfl (hb hby at_208) rfl kt) ?_
      show Go p e below _ (T102.setTop (mkF m 210 #[.val (.int i), .val (.int j), .val (.int k), .val (.int o), .val (.int (2 : Int32)), .val (.int qe), .val (.int c1), .val (.int c2), .val (.ref b74), .val (.ref b81), .val (.int (4 : Int32)), .val (.ref la86)] [(.int (2 : Int32)), (.ref la86)]))
      refine Go.st (fun _ kt => XS.iconst X102.here hx rfl (hb hby at_210) kt) ?_
      show Go p e below _ (T102.setTop (mkF m 211 #[.val (.int i), .val (.int j), .val (.int k), .val (.int o), .val (.int (2 : Int32)), .val (.int qe), .val (.int c1), .val (.int c2), .val (.ref b74), .val (.ref b81), .val (.int (4 : Int32)), .val (.ref la86)] [(.int (4 : Int32)), (.int (2 : Int32)), (.ref la86)]))
      refine Go.st (fun _ kt => XS.iadd X102.here hx rfl (hb hby at_211) rfl kt) ?_
      show Go p e below _ (T102.setTop (mkF m 212 #[.val (.int i), .val (.int j), .val (.int k), .val (.int o), .val (.int (2 : Int32)), .val (.int qe), .val (.int c1), .val (.int c2), .val (.ref b74), .val (.ref b81), .val (.int (4 : Int32)), .val (.ref la86)] [(.int (6 : Int32)), (.ref la86)]))
      have hz1 : (7 : Int) ≤ sz.toInt := own_more hs_ hc203_106
      obtain ⟨cl107, Ar107, -, S107, N107', H107, G107⟩ := id G96_5
      have hin107 := inb_of S107 (j := (6 : Int32)) (own_lit hz1 (by decide))
      have hat107 := Has.at H107 hin107 (v := (.int (0 : Int32))) rfl
      refine Go.st (fun _ kt => X102.baloadBytes hx (j := (6 : Int32)) (v := (.int (0 : Int32))) (by rw [e102]; exact Ar107.1) (State.isArrayOf_alike hZ.alike Ar107.2.1) Ar107.2.2 hin107 hat107 (g := (mkF m 212 #[.val (.int i), .val (.int j), .val (.int k), .val (.int o), .val (.int (2 : Int32)), .val (.int qe), .val (.int c1), .val (.int c2), .val (.ref b74), .val (.ref b81), .val (.int (4 : Int32)), .val (.ref la86)] [(.int (6 : Int32)), (.ref la86)])) rfl rfl (hb hby at_212) _ kt) ?_
      show Go p e below _ (T102.setTop (mkF m 213 #[.val (.int i), .val (.int j), .val (.int k), .val (.int o), .val (.int (2 : Int32)), .val (.int qe), .val (.int c1), .val (.int c2), .val (.ref b74), .val (.ref b81), .val (.int (4 : Int32)), .val (.ref la86)] [(.int (0 : Int32))]))
      refine Go.st (fun _ kt => XS.ifYes X102.here hx rfl (pc0 := 213) (pc' := 218) rfl (hb hby at_213) rfl ((if0 _ _).trans (teq (by decide : (0 : Int32) = (0 : Int32))).1) (by decide) (by decide) kt) ?_
      show Go p e below _ (T102.setTop (mkF m 218 #[.val (.int i), .val (.int j), .val (.int k), .val (.int o), .val (.int (2 : Int32)), .val (.int qe), .val (.int c1), .val (.int c2), .val (.ref b74), .val (.ref b81), .val (.int (4 : Int32)), .val (.ref la86)] []))
      refine Go.st (fun _ kt => XS.aload X102.here hx rfl (hb hby at_218) rfl rfl kt) ?_
      show Go p e below _ (T102.setTop (mkF m 220 #[.val (.int i), .val (.int j), .val (.int k), .val (.int o), .val (.int (2 : Int32)), .val (.int qe), .val (.int c1), .val (.int c2), .val (.ref b74), .val (.ref b81), .val (.int (4 : Int32)), .val (.ref la86)] [(.ref la86)]))
      refine Go.st (fun _ kt => XS.iload X102.here hx rfl (hb hby at_220) rfl kt) ?_
      show Go p e below _ (T102.setTop (mkF m 222 #[.val (.int i), .val (.int j), .val (.int k), .val (.int o), .val (.int (2 : Int32)), .val (.int qe), .val (.int c1), .val (.int c2), .val (.ref b74), .val (.ref b81), .val (.int (4 : Int32)), .val (.ref la86)] [(.int (2 : Int32)), (.ref la86)]))
      refine Go.st (fun _ kt => XS.iload X102.here hx rfl (hb hby at_222) rfl kt) ?_
      show Go p e below _ (T102.setTop (mkF m 224 #[.val (.int i), .val (.int j), .val (.int k), .val (.int o), .val (.int (2 : Int32)), .val (.int qe), .val (.int c1), .val (.int c2), .val (.ref b74), .val (.ref b81), .val (.int (4 : Int32)), .val (.ref la86)] [(.int c1), (.int (2 : Int32)), (.ref la86)]))
      obtain ⟨_, _, ⟨T108, L108, k108, n108⟩, -, X108, ⟨Lc108, hQ108, l108, y108, z108⟩, st108⟩ := Jvm.LawKit.callS X102 hx (y := (⟨"com/example/rowsieve/rowsieve/format/GrowingBytesPutLittleEndianPinLaw", "readsBack", "([BIC)Z"⟩ : MethodName)) hown (mvT hZ (hw _ (List.mem_of_getElem? (i := 71) rfl))) (mvT hZ (hw _ (List.mem_of_getElem? (i := 72) rfl))) (mvT hZ (hw _ (List.mem_of_getElem? (i := 73) rfl))) (mvT hZ (hw _ (List.mem_of_getElem? (i := 74) rfl))) (by decide) (backOf (W := 0) (rm11 l Z a0 hw [] la86 (2 : Int32) c1 kl86 sz [(.int (90 : Int32)), (.int (-91 : Int32)), (.int ((c1.toInt8.toInt32).toInt8.toInt32)), (.int ((((c1.toUInt32 >>> ((8 : Int32) &&& 31).toUInt32).toInt32).toInt8.toInt32).toInt8.toInt32)), (.int ((c2.toInt8.toInt32).toInt8.toInt32)), (.int ((((c2.toUInt32 >>> ((8 : Int32) &&& 31).toUInt32).toInt32).toInt8.toInt32).toInt8.toInt32))] T96.heap n0 Zs96 G96_5 (own_lit hz.1 (by decide)) (own_lit hz.1 (by decide)) rfl rfl hb_c1) hZ (hw _ (List.mem_of_getElem? (i := 74) rfl)) (hw _ (List.mem_of_getElem? (i := 73) rfl)) (by decide) (by decide)) (g := (mkF m 224 #[.val (.int i), .val (.int j), .val (.int k), .val (.int o), .val (.int (2 : Int32)), .val (.int qe), .val (.int c1), .val (.int c2), .val (.ref b74), .val (.ref b81), .val (.int (4 : Int32)), .val (.ref la86)] [(.int c1), (.int (2 : Int32)), (.ref la86)])) rfl (by rw [hml]; rfl) (argsL := [(.ref la86), (.int (2 : Int32)), (.int c1)]) (rest := []) (lenOf own_pd9 rfl) rfl (by show 2 * 0 + _ ≤ _; exact Nat.le_of_eq rfl) (hb hby at_224) (fun _ _ => ⟨rfl, e102, (by decide : 5 + 0 ≤ _), (by decide : 34 + 0 ≤ _)⟩)
      dsimp only [Pt.U, Pt.locs, Pt.cells, Pt.slots] at X108 l108 y108 z108 st108 hQ108
      subst l108 y108 z108
      obtain ⟨rfl, N108q, e108⟩ := hQ108
      have N108 := Fr.app N102 N108q
      refine Go.st st108 ?_
      show Go p e below _ (T108.setTop (mkF m 227 #[.val (.int i), .val (.int j), .val (.int k), .val (.int o), .val (.int (2 : Int32)), .val (.int qe), .val (.int c1), .val (.int c2), .val (.ref b74), .val (.ref b81), .val (.int (4 : Int32)), .val (.ref la86)] [(.int (1 : Int32))]))
      refine Go.st (fun _ kt => XS.ifNo X108.here hx rfl (hb hby at_227) rfl ((if0 _ _).trans (feq (by decide : ¬ ((1 : Int32) = (0 : Int32)))).1) kt) ?_
      show Go p e below _ (T108.setTop (mkF m 230 #[.val (.int i), .val (.int j), .val (.int k), .val (.int o), .val (.int (2 : Int32)), .val (.int qe), .val (.int c1), .val (.int c2), .val (.ref b74), .val (.ref b81), .val (.int (4 : Int32)), .val (.ref la86)] []))
      refine Go.st (fun _ kt => XS.aload X108.here hx rfl (hb hby at_230) rfl rfl kt) ?_
      show Go p e below _ (T108.setTop (mkF m 232 #[.val (.int i), .val (.int j), .val (.int k), .val (.int o), .val (.int (2 : Int32)), .val (.int qe), .val (.int c1), .val (.int c2), .val (.ref b74), .val (.ref b81), .val (.int (4 : Int32)), .val (.ref la86)] [(.ref la86)]))
      refine Go.st (fun _ kt => XS.iload X108.here hx rfl (hb hby at_232) rfl kt) ?_
      show Go p e below _ (T108.setTop (mkF m 234 #[.val (.int i), .val (.int j), .val (.int k), .val (.int o), .val (.int (2 : Int32)), .val (.int qe), .val (.int c1), .val (.int c2), .val (.ref b74), .val (.ref b81), .val (.int (4 : Int32)), .val (.ref la86)] [(.int (2 : Int32)), (.ref la86)]))
      refine Go.st (fun _ kt => XS.iconst X108.here hx rfl (hb hby at_234) kt) ?_
      show Go p e below _ (T108.setTop (mkF m 235 #[.val (.int i), .val (.int j), .val (.int k), .val (.int o), .val (.int (2 : Int32)), .val (.int qe), .val (.int c1), .val (.int c2), .val (.ref b74), .val (.ref b81), .val (.int (4 : Int32)), .val (.ref la86)] [(.int (2 : Int32)), (.int (2 : Int32)), (.ref la86)]))
      refine Go.st (fun _ kt => XS.iadd X108.here hx rfl (hb hby at_235) rfl kt) ?_
      show Go p e below _ (T108.setTop (mkF m 236 #[.val (.int i), .val (.int j), .val (.int k), .val (.int o), .val (.int (2 : Int32)), .val (.int qe), .val (.int c1), .val (.int c2), .val (.ref b74), .val (.ref b81), .val (.int (4 : Int32)), .val (.ref la86)] [(.int (4 : Int32)), (.ref la86)]))
      refine Go.st (fun _ kt => XS.iload X108.here hx rfl (hb hby at_236) rfl kt) ?_
      show Go p e below _ (T108.setTop (mkF m 238 #[.val (.int i), .val (.int j), .val (.int k), .val (.int o), .val (.int (2 : Int32)), .val (.int qe), .val (.int c1), .val (.int c2), .val (.ref b74), .val (.ref b81), .val (.int (4 : Int32)), .val (.ref la86)] [(.int c2), (.int (4 : Int32)), (.ref la86)]))
      obtain ⟨_, _, ⟨T109, L109, k109, n109⟩, -, X109, ⟨Lc109, hQ109, l109, y109, z109⟩, st109⟩ := Jvm.LawKit.callS X108 hx (y := (⟨"com/example/rowsieve/rowsieve/format/GrowingBytesPutLittleEndianPinLaw", "readsBack", "([BIC)Z"⟩ : MethodName)) hown (mvT hZ (hw _ (List.mem_of_getElem? (i := 71) rfl))) (mvT hZ (hw _ (List.mem_of_getElem? (i := 72) rfl))) (mvT hZ (hw _ (List.mem_of_getElem? (i := 73) rfl))) (mvT hZ (hw _ (List.mem_of_getElem? (i := 74) rfl))) (by decide) (backOf (W := 0) (rm11 l Z a0 hw [] la86 (4 : Int32) c2 kl86 sz [(.int (90 : Int32)), (.int (-91 : Int32)), (.int ((c1.toInt8.toInt32).toInt8.toInt32)), (.int ((((c1.toUInt32 >>> ((8 : Int32) &&& 31).toUInt32).toInt32).toInt8.toInt32).toInt8.toInt32)), (.int ((c2.toInt8.toInt32).toInt8.toInt32)), (.int ((((c2.toUInt32 >>> ((8 : Int32) &&& 31).toUInt32).toInt32).toInt8.toInt32).toInt8.toInt32))] T96.heap n0 Zs96 G96_5 (own_lit hz.1 (by decide)) (own_lit hz.1 (by decide)) rfl rfl hb_c2) hZ (hw _ (List.mem_of_getElem? (i := 74) rfl)) (hw _ (List.mem_of_getElem? (i := 73) rfl)) (by decide) (by decide)) (g := (mkF m 238 #[.val (.int i), .val (.int j), .val (.int k), .val (.int o), .val (.int (2 : Int32)), .val (.int qe), .val (.int c1), .val (.int c2), .val (.ref b74), .val (.ref b81), .val (.int (4 : Int32)), .val (.ref la86)] [(.int c2), (.int (4 : Int32)), (.ref la86)])) rfl (by rw [hml]; rfl) (argsL := [(.ref la86), (.int (4 : Int32)), (.int c2)]) (rest := []) (lenOf own_pd9 rfl) rfl (by show 2 * 0 + _ ≤ _; exact Nat.le_of_eq rfl) (hb hby at_238) (fun _ _ => ⟨rfl, e108, (by decide : 5 + 0 ≤ _), (by decide : 34 + 0 ≤ _)⟩)
      dsimp only [Pt.U, Pt.locs, Pt.cells, Pt.slots] at X109 l109 y109 z109 st109 hQ109
      subst l109 y109 z109
      obtain ⟨rfl, N109q, e109⟩ := hQ109
      have N109 := Fr.app N108 N109q
      refine Go.st st109 ?_
      show Go p e below _ (T109.setTop (mkF m 241 #[.val (.int i), .val (.int j), .val (.int k), .val (.int o), .val (.int (2 : Int32)), .val (.int qe), .val (.int c1), .val (.int c2), .val (.ref b74), .val (.ref b81), .val (.int (4 : Int32)), .val (.ref la86)] [(.int (1 : Int32))]))
      refine Go.st (fun _ kt => XS.ifNo X109.here hx rfl (hb hby at_241) rfl ((if0 _ _).trans (feq (by decide : ¬ ((1 : Int32) = (0 : Int32)))).1) kt) ?_
      show Go p e below _ (T109.setTop (mkF m 244 #[.val (.int i), .val (.int j), .val (.int k), .val (.int o), .val (.int (2 : Int32)), .val (.int qe), .val (.int c1), .val (.int c2), .val (.ref b74), .val (.ref b81), .val (.int (4 : Int32)), .val (.ref la86)] []))
      refine Go.st (fun _ kt => XS.iconst X109.here hx rfl (hb hby at_244) kt) ?_
      show Go p e below _ (T109.setTop (mkF m 245 #[.val (.int i), .val (.int j), .val (.int k), .val (.int o), .val (.int (2 : Int32)), .val (.int qe), .val (.int c1), .val (.int c2), .val (.ref b74), .val (.ref b81), .val (.int (4 : Int32)), .val (.ref la86)] [(.int (1 : Int32))]))
      refine Go.st (fun _ kt => XS.goto X109.here hx rfl (pc0 := 245) (pc' := 249) rfl (hb hby at_245) (by decide) (by decide) kt) ?_
      show Go p e below _ (T109.setTop (mkF m 249 #[.val (.int i), .val (.int j), .val (.int k), .val (.int o), .val (.int (2 : Int32)), .val (.int qe), .val (.int c1), .val (.int c2), .val (.ref b74), .val (.ref b81), .val (.int (4 : Int32)), .val (.ref la86)] [(.int (1 : Int32))]))
      refine Go.retN X109 hx (t := .boolean) Bd.returns (by simp) (BodyLoose.notSynchronized Bd) (hb hby at_249) (Q := (Q_rm0 Z i j k o h0 n0)) (by decide) (by decide) ?_
      show (Q_rm0 Z i j k o h0 n0) _ T109.heap _
      rw [e109]
      exact ⟨rfl, N109⟩
    · refine Go.st (fun _ kt => XS.ifYes X102.here hx rfl (pc0 := 203) (pc' := 218) rfl (hb hby at_203) rfl ((if0 _ _).trans (flt hc203_106).2.2.2) (by decide) (by decide) kt) ?_
      show Go p e below _ (T102.setTop (mkF m 218 #[.val (.int i), .val (.int j), .val (.int k), .val (.int o), .val (.int (2 : Int32)), .val (.int qe), .val (.int c1), .val (.int c2), .val (.ref b74), .val (.ref b81), .val (.int (4 : Int32)), .val (.ref la86)] []))
      refine Go.st (fun _ kt => XS.aload X102.here hx rfl (hb hby at_218) rfl rfl kt) ?_
      show Go p e below _ (T102.setTop (mkF m 220 #[.val (.int i), .val (.int j), .val (.int k), .val (.int o), .val (.int (2 : Int32)), .val (.int qe), .val (.int c1), .val (.int c2), .val (.ref b74), .val (.ref b81), .val (.int (4 : Int32)), .val (.ref la86)] [(.ref la86)]))
      refine Go.st (fun _ kt => XS.iload X102.here hx rfl (hb hby at_220) rfl kt) ?_
      show Go p e below _ (T102.setTop (mkF m 222 #[.val (.int i), .val (.int j), .val (.int k), .val (.int o), .val (.int (2 : Int32)), .val (.int qe), .val (.int c1), .val (.int c2), .val (.ref b74), .val (.ref b81), .val (.int (4 : Int32)), .val (.ref la86)] [(.int (2 : Int32)), (.ref la86)]))
      refine Go.st (fun _ kt => XS.iload X102.here hx rfl (hb hby at_222) rfl kt) ?_
      show Go p e below _ (T102.setTop (mkF m 224 #[.val (.int i), .val (.int j), .val (.int k), .val (.int o), .val (.int (2 : Int32)), .val (.int qe), .val (.int c1), .val (.int c2), .val (.ref b74), .val (.ref b81), .val (.int (4 : Int32)), .val (.ref la86)] [(.int c1), (.int (2 : Int32)), (.ref la86)]))
      obtain ⟨_, _, ⟨T110, L110, k110, n110⟩, -, X110, ⟨Lc110, hQ110, l110, y110, z110⟩, st110⟩ := Jvm.LawKit.callS X102 hx (y := (⟨"com/example/rowsieve/rowsieve/format/GrowingBytesPutLittleEndianPinLaw", "readsBack", "([BIC)Z"⟩ : MethodName)) hown (mvT hZ (hw _ (List.mem_of_getElem? (i := 71) rfl))) (mvT hZ (hw _ (List.mem_of_getElem? (i := 72) rfl))) (mvT hZ (hw _ (List.mem_of_getElem? (i := 73) rfl))) (mvT hZ (hw _ (List.mem_of_getElem? (i := 74) rfl))) (by decide) (backOf (W := 0) (rm11 l Z a0 hw [] la86 (2 : Int32) c1 kl86 sz [(.int (90 : Int32)), (.int (-91 : Int32)), (.int ((c1.toInt8.toInt32).toInt8.toInt32)), (.int ((((c1.toUInt32 >>> ((8 : Int32) &&& 31).toUInt32).toInt32).toInt8.toInt32).toInt8.toInt32)), (.int ((c2.toInt8.toInt32).toInt8.toInt32)), (.int ((((c2.toUInt32 >>> ((8 : Int32) &&& 31).toUInt32).toInt32).toInt8.toInt32).toInt8.toInt32))] T96.heap n0 Zs96 G96_5 (own_lit hz.1 (by decide)) (own_lit hz.1 (by decide)) rfl rfl hb_c1) hZ (hw _ (List.mem_of_getElem? (i := 74) rfl)) (hw _ (List.mem_of_getElem? (i := 73) rfl)) (by decide) (by decide)) (g := (mkF m 224 #[.val (.int i), .val (.int j), .val (.int k), .val (.int o), .val (.int (2 : Int32)), .val (.int qe), .val (.int c1), .val (.int c2), .val (.ref b74), .val (.ref b81), .val (.int (4 : Int32)), .val (.ref la86)] [(.int c1), (.int (2 : Int32)), (.ref la86)])) rfl (by rw [hml]; rfl) (argsL := [(.ref la86), (.int (2 : Int32)), (.int c1)]) (rest := []) (lenOf own_pd9 rfl) rfl (by show 2 * 0 + _ ≤ _; exact Nat.le_of_eq rfl) (hb hby at_224) (fun _ _ => ⟨rfl, e102, (by decide : 5 + 0 ≤ _), (by decide : 34 + 0 ≤ _)⟩)
      dsimp only [Pt.U, Pt.locs, Pt.cells, Pt.slots] at X110 l110 y110 z110 st110 hQ110
      subst l110 y110 z110
      obtain ⟨rfl, N110q, e110⟩ := hQ110
      have N110 := Fr.app N102 N110q
      refine Go.st st110 ?_
      show Go p e below _ (T110.setTop (mkF m 227 #[.val (.int i), .val (.int j), .val (.int k), .val (.int o), .val (.int (2 : Int32)), .val (.int qe), .val (.int c1), .val (.int c2), .val (.ref b74), .val (.ref b81), .val (.int (4 : Int32)), .val (.ref la86)] [(.int (1 : Int32))]))
      refine Go.st (fun _ kt => XS.ifNo X110.here hx rfl (hb hby at_227) rfl ((if0 _ _).trans (feq (by decide : ¬ ((1 : Int32) = (0 : Int32)))).1) kt) ?_
      show Go p e below _ (T110.setTop (mkF m 230 #[.val (.int i), .val (.int j), .val (.int k), .val (.int o), .val (.int (2 : Int32)), .val (.int qe), .val (.int c1), .val (.int c2), .val (.ref b74), .val (.ref b81), .val (.int (4 : Int32)), .val (.ref la86)] []))
      refine Go.st (fun _ kt => XS.aload X110.here hx rfl (hb hby at_230) rfl rfl kt) ?_
      show Go p e below _ (T110.setTop (mkF m 232 #[.val (.int i), .val (.int j), .val (.int k), .val (.int o), .val (.int (2 : Int32)), .val (.int qe), .val (.int c1), .val (.int c2), .val (.ref b74), .val (.ref b81), .val (.int (4 : Int32)), .val (.ref la86)] [(.ref la86)]))
      refine Go.st (fun _ kt => XS.iload X110.here hx rfl (hb hby at_232) rfl kt) ?_
      show Go p e below _ (T110.setTop (mkF m 234 #[.val (.int i), .val (.int j), .val (.int k), .val (.int o), .val (.int (2 : Int32)), .val (.int qe), .val (.int c1), .val (.int c2), .val (.ref b74), .val (.ref b81), .val (.int (4 : Int32)), .val (.ref la86)] [(.int (2 : Int32)), (.ref la86)]))
      refine Go.st (fun _ kt => XS.iconst X110.here hx rfl (hb hby at_234) kt) ?_
      show Go p e below _ (T110.setTop (mkF m 235 #[.val (.int i), .val (.int j), .val (.int k), .val (.int o), .val (.int (2 : Int32)), .val (.int qe), .val (.int c1), .val (.int c2), .val (.ref b74), .val (.ref b81), .val (.int (4 : Int32)), .val (.ref la86)] [(.int (2 : Int32)), (.int (2 : Int32)), (.ref la86)]))
      refine Go.st (fun _ kt => XS.iadd X110.here hx rfl (hb hby at_235) rfl kt) ?_
      show Go p e below _ (T110.setTop (mkF m 236 #[.val (.int i), .val (.int j), .val (.int k), .val (.int o), .val (.int (2 : Int32)), .val (.int qe), .val (.int c1), .val (.int c2), .val (.ref b74), .val (.ref b81), .val (.int (4 : Int32)), .val (.ref la86)] [(.int (4 : Int32)), (.ref la86)]))
      refine Go.st (fun _ kt => XS.iload X110.here hx rfl (hb hby at_236) rfl kt) ?_
      show Go p e below _ (T110.setTop (mkF m 238 #[.val (.int i), .val (.int j), .val (.int k), .val (.int o), .val (.int (2 : Int32)), .val (.int qe), .val (.int c1), .val (.int c2), .val (.ref b74), .val (.ref b81), .val (.int (4 : Int32)), .val (.ref la86)] [(.int c2), (.int (4 : Int32)), (.ref la86)]))
      obtain ⟨_, _, ⟨T111, L111, k111, n111⟩, -, X111, ⟨Lc111, hQ111, l111, y111, z111⟩, st111⟩ := Jvm.LawKit.callS X110 hx (y := (⟨"com/example/rowsieve/rowsieve/format/GrowingBytesPutLittleEndianPinLaw", "readsBack", "([BIC)Z"⟩ : MethodName)) hown (mvT hZ (hw _ (List.mem_of_getElem? (i := 71) rfl))) (mvT hZ (hw _ (List.mem_of_getElem? (i := 72) rfl))) (mvT hZ (hw _ (List.mem_of_getElem? (i := 73) rfl))) (mvT hZ (hw _ (List.mem_of_getElem? (i := 74) rfl))) (by decide) (backOf (W := 0) (rm11 l Z a0 hw [] la86 (4 : Int32) c2 kl86 sz [(.int (90 : Int32)), (.int (-91 : Int32)), (.int ((c1.toInt8.toInt32).toInt8.toInt32)), (.int ((((c1.toUInt32 >>> ((8 : Int32) &&& 31).toUInt32).toInt32).toInt8.toInt32).toInt8.toInt32)), (.int ((c2.toInt8.toInt32).toInt8.toInt32)), (.int ((((c2.toUInt32 >>> ((8 : Int32) &&& 31).toUInt32).toInt32).toInt8.toInt32).toInt8.toInt32))] T96.heap n0 Zs96 G96_5 (own_lit hz.1 (by decide)) (own_lit hz.1 (by decide)) rfl rfl hb_c2) hZ (hw _ (List.mem_of_getElem? (i := 74) rfl)) (hw _ (List.mem_of_getElem? (i := 73) rfl)) (by decide) (by decide)) (g := (mkF m 238 #[.val (.int i), .val (.int j), .val (.int k), .val (.int o), .val (.int (2 : Int32)), .val (.int qe), .val (.int c1), .val (.int c2), .val (.ref b74), .val (.ref b81), .val (.int (4 : Int32)), .val (.ref la86)] [(.int c2), (.int (4 : Int32)), (.ref la86)])) rfl (by rw [hml]; rfl) (argsL := [(.ref la86), (.int (4 : Int32)), (.int c2)]) (rest := []) (lenOf own_pd9 rfl) rfl (by show 2 * 0 + _ ≤ _; exact Nat.le_of_eq rfl) (hb hby at_238) (fun _ _ => ⟨rfl, e110, (by decide : 5 + 0 ≤ _), (by decide : 34 + 0 ≤ _)⟩)
      dsimp only [Pt.U, Pt.locs, Pt.cells, Pt.slots] at X111 l111 y111 z111 st111 hQ111
      subst l111 y111 z111
      obtain ⟨rfl, N111q, e111⟩ := hQ111
      have N111 := Fr.app N110 N111q
      refine Go.st st111 ?_
      show Go p e below _ (T111.setTop (mkF m 241 #[.val (.int i), .val (.int j), .val (.int k), .val (.int o), .val (.int (2 : Int32)), .val (.int qe), .val (.int c1), .val (.int c2), .val (.ref b74), .val (.ref b81), .val (.int (4 : Int32)), .val (.ref la86)] [(.int (1 : Int32))]))
      refine Go.st (fun _ kt => XS.ifNo X111.here hx rfl (hb hby at_241) rfl ((if0 _ _).trans (feq (by decide : ¬ ((1 : Int32) = (0 : Int32)))).1) kt) ?_
      show Go p e below _ (T111.setTop (mkF m 244 #[.val (.int i), .val (.int j), .val (.int k), .val (.int o), .val (.int (2 : Int32)), .val (.int qe), .val (.int c1), .val (.int c2), .val (.ref b74), .val (.ref b81), .val (.int (4 : Int32)), .val (.ref la86)] []))
      refine Go.st (fun _ kt => XS.iconst X111.here hx rfl (hb hby at_244) kt) ?_
      show Go p e below _ (T111.setTop (mkF m 245 #[.val (.int i), .val (.int j), .val (.int k), .val (.int o), .val (.int (2 : Int32)), .val (.int qe), .val (.int c1), .val (.int c2), .val (.ref b74), .val (.ref b81), .val (.int (4 : Int32)), .val (.ref la86)] [(.int (1 : Int32))]))
      refine Go.st (fun _ kt => XS.goto X111.here hx rfl (pc0 := 245) (pc' := 249) rfl (hb hby at_245) (by decide) (by decide) kt) ?_
      show Go p e below _ (T111.setTop (mkF m 249 #[.val (.int i), .val (.int j), .val (.int k), .val (.int o), .val (.int (2 : Int32)), .val (.int qe), .val (.int c1), .val (.int c2), .val (.ref b74), .val (.ref b81), .val (.int (4 : Int32)), .val (.ref la86)] [(.int (1 : Int32))]))
      refine Go.retN X111 hx (t := .boolean) Bd.returns (by simp) (BodyLoose.notSynchronized Bd) (hb hby at_249) (Q := (Q_rm0 Z i j k o h0 n0)) (by decide) (by decide) ?_
      show (Q_rm0 Z i j k o h0 n0) _ T111.heap _
      rw [e111]
      exact ⟨rfl, N111⟩
  · show Go p e below _ (s₁.setTop (mkF m 3 #[.val (.int i), .val (.int j), .val (.int k), .val (.int o), .unset, .unset, .unset, .unset, .unset, .unset, .unset, .unset] [(.int (3 : Int32))]))
    refine Go.st (fun _ kt => XS.istore X0.here hx rfl (hb hby at_3) rfl (l' := #[.val (.int i), .val (.int j), .val (.int k), .val (.int o), .val (.int (3 : Int32)), .unset, .unset, .unset, .unset, .unset, .unset, .unset]) rfl kt) ?_
    show Go p e below _ (s₁.setTop (mkF m 5 #[.val (.int i), .val (.int j), .val (.int k), .val (.int o), .val (.int (3 : Int32)), .unset, .unset, .unset, .unset, .unset, .unset, .unset] []))
    refine Go.st (fun _ kt => XS.iloadN X0.here hx rfl (hb hby at_5) rfl kt) ?_
    show Go p e below _ (s₁.setTop (mkF m 6 #[.val (.int i), .val (.int j), .val (.int k), .val (.int o), .val (.int (3 : Int32)), .unset, .unset, .unset, .unset, .unset, .unset, .unset] [(.int o)]))
    refine Go.st (fun _ kt => XS.iconst X0.here hx rfl (hb hby at_6) kt) ?_
    show Go p e below _ (s₁.setTop (mkF m 7 #[.val (.int i), .val (.int j), .val (.int k), .val (.int o), .val (.int (3 : Int32)), .unset, .unset, .unset, .unset, .unset, .unset, .unset] [(.int (3 : Int32)), (.int o)]))
    refine Go.st (fun _ kt => XS.iand X0.here hx rfl (hb hby at_7) rfl kt) ?_
    show Go p e below _ (s₁.setTop (mkF m 8 #[.val (.int i), .val (.int j), .val (.int k), .val (.int o), .val (.int (3 : Int32)), .unset, .unset, .unset, .unset, .unset, .unset, .unset] [(.int (o &&& (3 : Int32)))]))
    have hqe0 := c_and o 3 (by decide)
    have e3 : (3 : Int32).toInt = 3 := by decide
    generalize hqe : ((o &&& (3 : Int32)) : Int32) = qe
    show Go p e below _ (s₁.setTop (mkF m 8 #[.val (.int i), .val (.int j), .val (.int k), .val (.int o), .val (.int (3 : Int32)), .unset, .unset, .unset, .unset, .unset, .unset, .unset] [(.int qe)]))
    rw [hqe, e3] at hqe0
    refine Go.st (fun _ kt => XS.istore X0.here hx rfl (hb hby at_8) rfl (l' := #[.val (.int i), .val (.int j), .val (.int k), .val (.int o), .val (.int (3 : Int32)), .val (.int qe), .unset, .unset, .unset, .unset, .unset, .unset]) rfl kt) ?_
    show Go p e below _ (s₁.setTop (mkF m 10 #[.val (.int i), .val (.int j), .val (.int k), .val (.int o), .val (.int (3 : Int32)), .val (.int qe), .unset, .unset, .unset, .unset, .unset, .unset] []))
    refine Go.st (fun _ kt => XS.iloadN X0.here hx rfl (hb hby at_10) rfl kt) ?_
    show Go p e below _ (s₁.setTop (mkF m 11 #[.val (.int i), .val (.int j), .val (.int k), .val (.int o), .val (.int (3 : Int32)), .val (.int qe), .unset, .unset, .unset, .unset, .unset, .unset] [(.int i)]))
    refine Go.st (fun _ kt => XS.i2c X0.here hx rfl (hb hby at_11) rfl kt) ?_
    show Go p e below _ (s₁.setTop (mkF m 12 #[.val (.int i), .val (.int j), .val (.int k), .val (.int o), .val (.int (3 : Int32)), .val (.int qe), .unset, .unset, .unset, .unset, .unset, .unset] [(.int (i.toUInt32.toUInt16.toUInt32.toInt32))]))
    have hb_c1 := (c_i2c i).2
    generalize hc1 : ((i.toUInt32.toUInt16.toUInt32.toInt32) : Int32) = c1
    show Go p e below _ (s₁.setTop (mkF m 12 #[.val (.int i), .val (.int j), .val (.int k), .val (.int o), .val (.int (3 : Int32)), .val (.int qe), .unset, .unset, .unset, .unset, .unset, .unset] [(.int c1)]))
    rw [hc1] at hb_c1
    refine Go.st (fun _ kt => XS.istore X0.here hx rfl (hb hby at_12) rfl (l' := #[.val (.int i), .val (.int j), .val (.int k), .val (.int o), .val (.int (3 : Int32)), .val (.int qe), .val (.int c1), .unset, .unset, .unset, .unset, .unset]) rfl kt) ?_
    show Go p e below _ (s₁.setTop (mkF m 14 #[.val (.int i), .val (.int j), .val (.int k), .val (.int o), .val (.int (3 : Int32)), .val (.int qe), .val (.int c1), .unset, .unset, .unset, .unset, .unset] []))
    refine Go.st (fun _ kt => XS.iloadN X0.here hx rfl (hb hby at_14) rfl kt) ?_
    show Go p e below _ (s₁.setTop (mkF m 15 #[.val (.int i), .val (.int j), .val (.int k), .val (.int o), .val (.int (3 : Int32)), .val (.int qe), .val (.int c1), .unset, .unset, .unset, .unset, .unset] [(.int j)]))
    refine Go.st (fun _ kt => XS.i2c X0.here hx rfl (hb hby at_15) rfl kt) ?_
    show Go p e below _ (s₁.setTop (mkF m 16 #[.val (.int i), .val (.int j), .val (.int k), .val (.int o), .val (.int (3 : Int32)), .val (.int qe), .val (.int c1), .unset, .unset, .unset, .unset, .unset] [(.int (j.toUInt32.toUInt16.toUInt32.toInt32))]))
    have hb_c2 := (c_i2c j).2
    generalize hc2 : ((j.toUInt32.toUInt16.toUInt32.toInt32) : Int32) = c2
    show Go p e below _ (s₁.setTop (mkF m 16 #[.val (.int i), .val (.int j), .val (.int k), .val (.int o), .val (.int (3 : Int32)), .val (.int qe), .val (.int c1), .unset, .unset, .unset, .unset, .unset] [(.int c2)]))
    rw [hc2] at hb_c2
    refine Go.st (fun _ kt => XS.istore X0.here hx rfl (hb hby at_16) rfl (l' := #[.val (.int i), .val (.int j), .val (.int k), .val (.int o), .val (.int (3 : Int32)), .val (.int qe), .val (.int c1), .val (.int c2), .unset, .unset, .unset, .unset]) rfl kt) ?_
    show Go p e below _ (s₁.setTop (mkF m 18 #[.val (.int i), .val (.int j), .val (.int k), .val (.int o), .val (.int (3 : Int32)), .val (.int qe), .val (.int c1), .val (.int c2), .unset, .unset, .unset, .unset] []))
    refine Go.st (fun _ kt => XS.iconst X0.here hx rfl (hb hby at_18) kt) ?_
    show Go p e below _ (s₁.setTop (mkF m 19 #[.val (.int i), .val (.int j), .val (.int k), .val (.int o), .val (.int (3 : Int32)), .val (.int qe), .val (.int c1), .val (.int c2), .unset, .unset, .unset, .unset] [(.int (3 : Int32))]))
    obtain ⟨T112, h112, k112, X112, e112, E112, A112, Y112, st112⟩ := newPE X0 hx hZ (hw _ (List.mem_of_getElem? (i := 0) rfl)) e0 (g := (mkF m 19 #[.val (.int i), .val (.int j), .val (.int k), .val (.int o), .val (.int (3 : Int32)), .val (.int qe), .val (.int c1), .val (.int c2), .unset, .unset, .unset, .unset] [(.int (3 : Int32))])) rfl (hb hby at_19) rfl (by decide) (cap := 3) (by decide) (by decide) (by decide) (by decide) (ad := "[B") (by decide)
    obtain ⟨b112, g112⟩ : ∃ z, z = h0.size := ⟨_, rfl⟩
    rw [← g112] at A112 Y112 st112
    have gn_b112 : n0 ≤ b112 := Nat.le_trans Z0 (Nat.le_of_eq g112.symm)
    have Zs112 : n0 ≤ h112.size := Nat.le_trans Z0 E112.1
    refine Go.st st112 ?_
    have V112 : Arv Z h112 b112 k112 .byte (3 : Int32) [(.int (0 : Int32)), (.int (0 : Int32)), (.int (0 : Int32))] (.int (0 : Int32)) := (Arv.new A112 (by decide)).pad (pad_rep [] (.int (0 : Int32)) 3)
    show Go p e below _ (T112.setTop (mkF m 21 #[.val (.int i), .val (.int j), .val (.int k), .val (.int o), .val (.int (3 : Int32)), .val (.int qe), .val (.int c1), .val (.int c2), .unset, .unset, .unset, .unset] [(.ref b112)]))
    refine Go.st (fun _ kt => XS.dup X112.here hx rfl (hb hby at_21) rfl rfl kt) ?_
    show Go p e below _ (T112.setTop (mkF m 22 #[.val (.int i), .val (.int j), .val (.int k), .val (.int o), .val (.int (3 : Int32)), .val (.int qe), .val (.int c1), .val (.int c2), .unset, .unset, .unset, .unset] [(.ref b112), (.ref b112)]))
    refine Go.st (fun _ kt => XS.iconst X112.here hx rfl (hb hby at_22) kt) ?_
    show Go p e below _ (T112.setTop (mkF m 23 #[.val (.int i), .val (.int j), .val (.int k), .val (.int o), .val (.int (3 : Int32)), .val (.int qe), .val (.int c1), .val (.int c2), .unset, .unset, .unset, .unset] [(.int (0 : Int32)), (.ref b112), (.ref b112)]))
    refine Go.st (fun _ kt => XS.bipush X112.here hx rfl (hb hby at_23) kt) ?_
    show Go p e below _ (T112.setTop (mkF m 25 #[.val (.int i), .val (.int j), .val (.int k), .val (.int o), .val (.int (3 : Int32)), .val (.int qe), .val (.int c1), .val (.int c2), .unset, .unset, .unset, .unset] [(.int (90 : Int32)), (.int (0 : Int32)), (.ref b112), (.ref b112)]))
    obtain ⟨cl113, Ar113, q113, S113, N113', H113, G113⟩ := id V112
    have hin113 : ¬ ((0 : Int32) < 0 ∨ cl113.slots.size ≤ ((0 : Int32)).toNatClampNeg) := inb_of S113 ⟨by decide, by decide⟩
    obtain ⟨T114, h114, X114, e114, W114, st114⟩ := stB X112 hx hZ e112 Ar113 (j := (0 : Int32)) hin113 (g := (mkF m 25 #[.val (.int i), .val (.int j), .val (.int k), .val (.int o), .val (.int (3 : Int32)), .val (.int qe), .val (.int c1), .val (.int c2), .unset, .unset, .unset, .unset] [(.int (90 : Int32)), (.int (0 : Int32)), (.ref b112), (.ref b112)])) rfl rfl (hb hby at_25)
    refine Go.st st114 ?_
    have V114 : Arv Z h114 b112 k112 .byte (3 : Int32) [(.int (90 : Int32)), (.int (0 : Int32)), (.int (0 : Int32))] (.int (0 : Int32)) := Arv.set Ar113 q113 S113 N113' H113 G113 (fits_nar_byte _) W114 0 rfl (Nat.le_of_ble_eq_true rfl)
    have Zs114 : n0 ≤ h114.size := Nat.le_trans Zs112 (Nat.le_of_eq W114.size.symm)
    have N114 := Fr.snoc X114 N0 gn_b112
    show Go p e below _ (T114.setTop (mkF m 26 #[.val (.int i), .val (.int j), .val (.int k), .val (.int o), .val (.int (3 : Int32)), .val (.int qe), .val (.int c1), .val (.int c2), .unset, .unset, .unset, .unset] [(.ref b112)]))
    refine Go.st (fun _ kt => XS.dup X114.here hx rfl (hb hby at_26) rfl rfl kt) ?_
    show Go p e below _ (T114.setTop (mkF m 27 #[.val (.int i), .val (.int j), .val (.int k), .val (.int o), .val (.int (3 : Int32)), .val (.int qe), .val (.int c1), .val (.int c2), .unset, .unset, .unset, .unset] [(.ref b112), (.ref b112)]))
    refine Go.st (fun _ kt => XS.iconst X114.here hx rfl (hb hby at_27) kt) ?_
    show Go p e below _ (T114.setTop (mkF m 28 #[.val (.int i), .val (.int j), .val (.int k), .val (.int o), .val (.int (3 : Int32)), .val (.int qe), .val (.int c1), .val (.int c2), .unset, .unset, .unset, .unset] [(.int (1 : Int32)), (.ref b112), (.ref b112)]))
    refine Go.st (fun _ kt => XS.bipush X114.here hx rfl (hb hby at_28) kt) ?_
    show Go p e below _ (T114.setTop (mkF m 30 #[.val (.int i), .val (.int j), .val (.int k), .val (.int o), .val (.int (3 : Int32)), .val (.int qe), .val (.int c1), .val (.int c2), .unset, .unset, .unset, .unset] [(.int (-91 : Int32)), (.int (1 : Int32)), (.ref b112), (.ref b112)]))
    obtain ⟨cl115, Ar115, q115, S115, N115', H115, G115⟩ := id V114
    have hin115 : ¬ ((1 : Int32) < 0 ∨ cl115.slots.size ≤ ((1 : Int32)).toNatClampNeg) := inb_of S115 ⟨by decide, by decide⟩
    obtain ⟨T116, h116, X116, e116, W116, st116⟩ := stB X114 hx hZ e114 Ar115 (j := (1 : Int32)) hin115 (g := (mkF m 30 #[.val (.int i), .val (.int j), .val (.int k), .val (.int o), .val (.int (3 : Int32)), .val (.int qe), .val (.int c1), .val (.int c2), .unset, .unset, .unset, .unset] [(.int (-91 : Int32)), (.int (1 : Int32)), (.ref b112), (.ref b112)])) rfl rfl (hb hby at_30)
    refine Go.st st116 ?_
    have V116 : Arv Z h116 b112 k112 .byte (3 : Int32) [(.int (90 : Int32)), (.int (-91 : Int32)), (.int (0 : Int32))] (.int (0 : Int32)) := Arv.set Ar115 q115 S115 N115' H115 G115 (fits_nar_byte _) W116 1 rfl (Nat.le_of_ble_eq_true rfl)
    have Zs116 : n0 ≤ h116.size := Nat.le_trans Zs114 (Nat.le_of_eq W116.size.symm)
    have N116 := Fr.snoc X116 N114 gn_b112
    show Go p e below _ (T116.setTop (mkF m 31 #[.val (.int i), .val (.int j), .val (.int k), .val (.int o), .val (.int (3 : Int32)), .val (.int qe), .val (.int c1), .val (.int c2), .unset, .unset, .unset, .unset] [(.ref b112)]))
    refine Go.st (fun _ kt => XS.dup X116.here hx rfl (hb hby at_31) rfl rfl kt) ?_
    show Go p e below _ (T116.setTop (mkF m 32 #[.val (.int i), .val (.int j), .val (.int k), .val (.int o), .val (.int (3 : Int32)), .val (.int qe), .val (.int c1), .val (.int c2), .unset, .unset, .unset, .unset] [(.ref b112), (.ref b112)]))
    refine Go.st (fun _ kt => XS.iconst X116.here hx rfl (hb hby at_32) kt) ?_
    show Go p e below _ (T116.setTop (mkF m 33 #[.val (.int i), .val (.int j), .val (.int k), .val (.int o), .val (.int (3 : Int32)), .val (.int qe), .val (.int c1), .val (.int c2), .unset, .unset, .unset, .unset] [(.int (2 : Int32)), (.ref b112), (.ref b112)]))
    refine Go.st (fun _ kt => XS.bipush X116.here hx rfl (hb hby at_33) kt) ?_
    show Go p e below _ (T116.setTop (mkF m 35 #[.val (.int i), .val (.int j), .val (.int k), .val (.int o), .val (.int (3 : Int32)), .val (.int qe), .val (.int c1), .val (.int c2), .unset, .unset, .unset, .unset] [(.int (60 : Int32)), (.int (2 : Int32)), (.ref b112), (.ref b112)]))
    obtain ⟨cl117, Ar117, q117, S117, N117', H117, G117⟩ := id V116
    have hin117 : ¬ ((2 : Int32) < 0 ∨ cl117.slots.size ≤ ((2 : Int32)).toNatClampNeg) := inb_of S117 ⟨by decide, by decide⟩
    obtain ⟨T118, h118, X118, e118, W118, st118⟩ := stB X116 hx hZ e116 Ar117 (j := (2 : Int32)) hin117 (g := (mkF m 35 #[.val (.int i), .val (.int j), .val (.int k), .val (.int o), .val (.int (3 : Int32)), .val (.int qe), .val (.int c1), .val (.int c2), .unset, .unset, .unset, .unset] [(.int (60 : Int32)), (.int (2 : Int32)), (.ref b112), (.ref b112)])) rfl rfl (hb hby at_35)
    refine Go.st st118 ?_
    have V118 : Arv Z h118 b112 k112 .byte (3 : Int32) [(.int (90 : Int32)), (.int (-91 : Int32)), (.int (60 : Int32))] (.int (0 : Int32)) := Arv.set Ar117 q117 S117 N117' H117 G117 (fits_nar_byte _) W118 2 rfl (Nat.le_of_ble_eq_true rfl)
    have Zs118 : n0 ≤ h118.size := Nat.le_trans Zs116 (Nat.le_of_eq W118.size.symm)
    have N118 := Fr.snoc X118 N116 gn_b112
    show Go p e below _ (T118.setTop (mkF m 36 #[.val (.int i), .val (.int j), .val (.int k), .val (.int o), .val (.int (3 : Int32)), .val (.int qe), .val (.int c1), .val (.int c2), .unset, .unset, .unset, .unset] [(.ref b112)]))
    refine Go.st (fun _ kt => XS.astore X118.here hx rfl (hb hby at_36) rfl rfl (l' := #[.val (.int i), .val (.int j), .val (.int k), .val (.int o), .val (.int (3 : Int32)), .val (.int qe), .val (.int c1), .val (.int c2), .val (.ref b112), .unset, .unset, .unset]) rfl kt) ?_
    show Go p e below _ (T118.setTop (mkF m 38 #[.val (.int i), .val (.int j), .val (.int k), .val (.int o), .val (.int (3 : Int32)), .val (.int qe), .val (.int c1), .val (.int c2), .val (.ref b112), .unset, .unset, .unset] []))
    obtain ⟨T119, h119, X119, e119, E119, A119, D119, U119, st119⟩ := newO X118 hx hZ hown (hw _ (List.mem_of_getElem? (i := 1) rfl)) (hw _ (List.mem_of_getElem? (i := 2) rfl)) (hw _ (List.mem_of_getElem? (i := 3) rfl)) e118 (g := (mkF m 38 #[.val (.int i), .val (.int j), .val (.int k), .val (.int o), .val (.int (3 : Int32)), .val (.int qe), .val (.int c1), .val (.int c2), .val (.ref b112), .unset, .unset, .unset] [])) rfl (hb hby at_38) (by decide) (by decide)
    obtain ⟨b119, g119⟩ : ∃ z, z = h118.size := ⟨_, rfl⟩
    rw [← g119] at A119 D119 U119 st119
    have f120 := (((Y112.wr W114).wr W116).wr W118)
    have lt_b112_b119 : b112 < b119 := Nat.lt_of_lt_of_eq f120.lt g119.symm
    have gn_b119 : n0 ≤ b119 := Nat.le_trans Zs118 (Nat.le_of_eq g119.symm)
    have Zs119 : n0 ≤ h119.size := Nat.le_trans Zs118 E119.1
    refine Go.st st119 ?_
    have F119_segments : Fld Z h119 b119 "com/example/rowsieve/rowsieve/format/GrowingBytes" "segments" "[[B" .null := D119 (Or.inl (hw _ (List.mem_of_getElem? (i := 13) rfl))) (ty := (.array (.array .byte))) (by decide)
    have F119_bases : Fld Z h119 b119 "com/example/rowsieve/rowsieve/format/GrowingBytes" "bases" "[I" .null := D119 (Or.inl (hw _ (List.mem_of_getElem? (i := 16) rfl))) (ty := (.array .int)) (by decide)
    have F119_firstBytes : Fld Z h119 b119 "com/example/rowsieve/rowsieve/format/GrowingBytes" "firstBytes" "I" (.int (0 : Int32)) := D119 (Or.inr (hw _ (List.mem_of_getElem? (i := 18) rfl))) (ty := .int) (by decide)
    have F119_segmentBytes : Fld Z h119 b119 "com/example/rowsieve/rowsieve/format/GrowingBytes" "segmentBytes" "I" (.int (0 : Int32)) := D119 (Or.inr (hw _ (List.mem_of_getElem? (i := 20) rfl))) (ty := .int) (by decide)
    have F119_last : Fld Z h119 b119 "com/example/rowsieve/rowsieve/format/GrowingBytes" "last" "[B" .null := D119 (Or.inl (hw _ (List.mem_of_getElem? (i := 27) rfl))) (ty := (.array .byte)) (by decide)
    have F119_count : Fld Z h119 b119 "com/example/rowsieve/rowsieve/format/GrowingBytes" "count" "I" (.int (0 : Int32)) := D119 (Or.inl (hw _ (List.mem_of_getElem? (i := 33) rfl))) (ty := .int) (by decide)
    have F119_end : Fld Z h119 b119 "com/example/rowsieve/rowsieve/format/GrowingBytes" "end" "I" (.int (0 : Int32)) := D119 (Or.inl (hw _ (List.mem_of_getElem? (i := 45) rfl))) (ty := .int) (by decide)
    show Go p e below _ (T119.setTop (mkF m 41 #[.val (.int i), .val (.int j), .val (.int k), .val (.int o), .val (.int (3 : Int32)), .val (.int qe), .val (.int c1), .val (.int c2), .val (.ref b112), .unset, .unset, .unset] [(.ref b119)]))
    refine Go.st (fun _ kt => XS.dup X119.here hx rfl (hb hby at_41) rfl rfl kt) ?_
    show Go p e below _ (T119.setTop (mkF m 42 #[.val (.int i), .val (.int j), .val (.int k), .val (.int o), .val (.int (3 : Int32)), .val (.int qe), .val (.int c1), .val (.int c2), .val (.ref b112), .unset, .unset, .unset] [(.ref b119), (.ref b119)]))
    refine Go.st (fun _ kt => XS.iload X119.here hx rfl (hb hby at_42) rfl kt) ?_
    show Go p e below _ (T119.setTop (mkF m 44 #[.val (.int i), .val (.int j), .val (.int k), .val (.int o), .val (.int (3 : Int32)), .val (.int qe), .val (.int c1), .val (.int c2), .val (.ref b112), .unset, .unset, .unset] [(.int (3 : Int32)), (.ref b119), (.ref b119)]))
    refine Go.st (fun _ kt => XS.iconst X119.here hx rfl (hb hby at_44) kt) ?_
    show Go p e below _ (T119.setTop (mkF m 45 #[.val (.int i), .val (.int j), .val (.int k), .val (.int o), .val (.int (3 : Int32)), .val (.int qe), .val (.int c1), .val (.int c2), .val (.ref b112), .unset, .unset, .unset] [(.int (4 : Int32)), (.int (3 : Int32)), (.ref b119), (.ref b119)]))
    refine Go.st (fun _ kt => XS.iadd X119.here hx rfl (hb hby at_45) rfl kt) ?_
    show Go p e below _ (T119.setTop (mkF m 46 #[.val (.int i), .val (.int j), .val (.int k), .val (.int o), .val (.int (3 : Int32)), .val (.int qe), .val (.int c1), .val (.int c2), .val (.ref b112), .unset, .unset, .unset] [(.int (7 : Int32)), (.ref b119), (.ref b119)]))
    refine Go.st (fun _ kt => XS.iload X119.here hx rfl (hb hby at_46) rfl kt) ?_
    show Go p e below _ (T119.setTop (mkF m 48 #[.val (.int i), .val (.int j), .val (.int k), .val (.int o), .val (.int (3 : Int32)), .val (.int qe), .val (.int c1), .val (.int c2), .val (.ref b112), .unset, .unset, .unset] [(.int qe), (.int (7 : Int32)), (.ref b119), (.ref b119)]))
    refine Go.st (fun _ kt => XS.iadd X119.here hx rfl (hb hby at_48) rfl kt) ?_
    show Go p e below _ (T119.setTop (mkF m 49 #[.val (.int i), .val (.int j), .val (.int k), .val (.int o), .val (.int (3 : Int32)), .val (.int qe), .val (.int c1), .val (.int c2), .val (.ref b112), .unset, .unset, .unset] [(.int ((7 : Int32) + qe)), (.ref b119), (.ref b119)]))
    have hs_ := own_sum (7 : Int32) qe hqe0 (by decide)
    generalize hsz : (((7 : Int32) + qe) : Int32) = sz
    show Go p e below _ (T119.setTop (mkF m 49 #[.val (.int i), .val (.int j), .val (.int k), .val (.int o), .val (.int (3 : Int32)), .val (.int qe), .val (.int c1), .val (.int c2), .val (.ref b112), .unset, .unset, .unset] [(.int sz), (.ref b119), (.ref b119)]))
    rw [hsz, (by decide : (7 : Int32).toInt = 7)] at hs_
    have hz : (7 : Int) ≤ sz.toInt ∧ sz.toInt ≤ 10 := by omega
    refine Go.st (fun _ kt => XS.bipush X119.here hx rfl (hb hby at_49) kt) ?_
    show Go p e below _ (T119.setTop (mkF m 51 #[.val (.int i), .val (.int j), .val (.int k), .val (.int o), .val (.int (3 : Int32)), .val (.int qe), .val (.int c1), .val (.int c2), .val (.ref b112), .unset, .unset, .unset] [(.int (64 : Int32)), (.int sz), (.ref b119), (.ref b119)]))
    obtain ⟨_, _, ⟨T121, L121, k121, n121⟩, -, X121, ⟨Lc121, hQ121, l121, y121, z121⟩, st121⟩ := X119.specialBack hx (y := (⟨"com/example/rowsieve/rowsieve/format/GrowingBytes", "<init>", "(II)V"⟩ : MethodName)) rfl hown (mvT hZ (hw _ (List.mem_of_getElem? (i := 4) rfl))) (mvT hZ (hw _ (List.mem_of_getElem? (i := 5) rfl))) (mvT hZ (hw _ (List.mem_of_getElem? (i := 6) rfl))) (by decide) (backOf (W := 1) (rm1 l Z a0 hw [] b119 sz (64 : Int32) h119 n0 Zs119 A119 F119_segments F119_bases F119_last F119_firstBytes F119_segmentBytes F119_end F119_count gn_b119) hZ (hw _ (List.mem_of_getElem? (i := 6) rfl)) (hw _ (List.mem_of_getElem? (i := 3) rfl)) (by decide) (by decide)) (g := (mkF m 51 #[.val (.int i), .val (.int j), .val (.int k), .val (.int o), .val (.int (3 : Int32)), .val (.int qe), .val (.int c1), .val (.int c2), .val (.ref b112), .unset, .unset, .unset] [(.int (64 : Int32)), (.int sz), (.ref b119), (.ref b119)])) rfl (by rw [hml]; rfl) (Steps.refl _) (a := b119) (argsL := [(.int sz), (.int (64 : Int32))]) (rest := [(.ref b119)]) (lenOf own_pd5 rfl) rfl (by show 2 * 0 + _ ≤ _; exact Nat.le_of_eq rfl) (hb hby at_51) (fun _ _ => ⟨rfl, e119, (by decide : 2 + 2 ≤ _), (by decide : 10 + 8 ≤ _)⟩)
    dsimp only [Pt.U, Pt.locs, Pt.cells, Pt.slots] at X121 l121 y121 z121 st121 hQ121
    subst l121 y121 z121
    obtain ⟨sg121, ks121, bs121, kb121, rfl, N121q, K121q, hs121, ht121, nsb121, O121, G121_0, G121_1, G121_2, G121_3, G121_4, G121_5, G121_6, G121_7, G121_8⟩ := hQ121
    have f122 := (f120.ext E119)
    have lt_b112_sg121 : b112 < sg121 := Nat.lt_of_lt_of_le f122.lt hs121
    have lt_b119_sg121 : b119 < sg121 := Nat.lt_of_lt_of_le A119.lt hs121
    have gn_sg121 : n0 ≤ sg121 := Nat.le_trans Zs119 hs121
    have lt_b112_bs121 : b112 < bs121 := Nat.lt_of_lt_of_le f122.lt ht121
    have lt_b119_bs121 : b119 < bs121 := Nat.lt_of_lt_of_le A119.lt ht121
    have gn_bs121 : n0 ≤ bs121 := Nat.le_trans Zs119 ht121
    have Zs121 : n0 ≤ T121.heap.size := Nat.le_trans Zs119 K121q.1
    have N121 := Fr.app N118 N121q
    refine Go.tr st121 ?_
    show Go p e below _ (T121.setTop (mkF m 54 #[.val (.int i), .val (.int j), .val (.int k), .val (.int o), .val (.int (3 : Int32)), .val (.int qe), .val (.int c1), .val (.int c2), .val (.ref b112), .unset, .unset, .unset] [(.ref b119)]))
    refine Go.st (fun _ kt => XS.astore X121.here hx rfl (hb hby at_54) rfl rfl (l' := #[.val (.int i), .val (.int j), .val (.int k), .val (.int o), .val (.int (3 : Int32)), .val (.int qe), .val (.int c1), .val (.int c2), .val (.ref b112), .val (.ref b119), .unset, .unset]) rfl kt) ?_
    show Go p e below _ (T121.setTop (mkF m 56 #[.val (.int i), .val (.int j), .val (.int k), .val (.int o), .val (.int (3 : Int32)), .val (.int qe), .val (.int c1), .val (.int c2), .val (.ref b112), .val (.ref b119), .unset, .unset] []))
    refine Go.st (fun _ kt => XS.aload X121.here hx rfl (hb hby at_56) rfl rfl kt) ?_
    show Go p e below _ (T121.setTop (mkF m 58 #[.val (.int i), .val (.int j), .val (.int k), .val (.int o), .val (.int (3 : Int32)), .val (.int qe), .val (.int c1), .val (.int c2), .val (.ref b112), .val (.ref b119), .unset, .unset] [(.ref b119)]))
    refine Go.st (fun _ kt => XS.iload X121.here hx rfl (hb hby at_58) rfl kt) ?_
    show Go p e below _ (T121.setTop (mkF m 60 #[.val (.int i), .val (.int j), .val (.int k), .val (.int o), .val (.int (3 : Int32)), .val (.int qe), .val (.int c1), .val (.int c2), .val (.ref b112), .val (.ref b119), .unset, .unset] [(.int (3 : Int32)), (.ref b119)]))
    refine Go.st (fun _ kt => XS.iconst X121.here hx rfl (hb hby at_60) kt) ?_
    show Go p e below _ (T121.setTop (mkF m 61 #[.val (.int i), .val (.int j), .val (.int k), .val (.int o), .val (.int (3 : Int32)), .val (.int qe), .val (.int c1), .val (.int c2), .val (.ref b112), .val (.ref b119), .unset, .unset] [(.int (4 : Int32)), (.int (3 : Int32)), (.ref b119)]))
    refine Go.st (fun _ kt => XS.iadd X121.here hx rfl (hb hby at_61) rfl kt) ?_
    show Go p e below _ (T121.setTop (mkF m 62 #[.val (.int i), .val (.int j), .val (.int k), .val (.int o), .val (.int (3 : Int32)), .val (.int qe), .val (.int c1), .val (.int c2), .val (.ref b112), .val (.ref b119), .unset, .unset] [(.int (7 : Int32)), (.ref b119)]))
    have f123 := (A119.keep K121q)
    obtain ⟨cq124, kq124, q124a, q124b, q124c⟩ := isOf hZ rfl f123
    obtain ⟨_, _, ⟨T124, L124, k124, n124⟩, -, X124, ⟨Lc124, hQ124, l124, y124, z124⟩, st124⟩ := X121.virtualBack hx (y := (⟨"com/example/rowsieve/rowsieve/format/GrowingBytes", "makeRoom", "(I)V"⟩ : MethodName)) (z := (⟨"com/example/rowsieve/rowsieve/format/GrowingBytes", "makeRoom", "(I)V"⟩ : MethodName)) hown (mvT hZ (hw _ (List.mem_of_getElem? (i := 21) rfl))) (mvT hZ (hw _ (List.mem_of_getElem? (i := 22) rfl))) (notFace_of_selects (args := #[]) (mvT hZ (hw _ (List.mem_of_getElem? (i := 24) rfl)))) (mvT hZ (hw _ (List.mem_of_getElem? (i := 24) rfl))) (mvT hZ (hw _ (List.mem_of_getElem? (i := 23) rfl))) (by decide) (backOf (W := 0) (rm3 l Z a0 hw [] b119 (7 : Int32) sg121 ks121 bs121 kb121 sz (64 : Int32) sz T121.heap n0 Zs121 f123 G121_0 G121_1 G121_2 G121_3 G121_4 G121_5 G121_6 G121_7 G121_8 O121 gn_b119 gn_sg121 gn_bs121 nsb121 (Nat.ne_of_lt lt_b119_sg121) (Nat.ne_of_lt lt_b119_bs121) (own_maxR hz.1) (by omega) (by omega)) hZ (hw _ (List.mem_of_getElem? (i := 25) rfl)) (hw _ (List.mem_of_getElem? (i := 3) rfl)) (by decide) (by decide)) q124a q124c (g := (mkF m 62 #[.val (.int i), .val (.int j), .val (.int k), .val (.int o), .val (.int (3 : Int32)), .val (.int qe), .val (.int c1), .val (.int c2), .val (.ref b112), .val (.ref b119), .unset, .unset] [(.int (7 : Int32)), (.ref b119)])) rfl (by rw [hml]; rfl) (Steps.refl _) (argsL := [(.int (7 : Int32))]) (rest := []) (lenOf own_pd3 rfl) rfl (by show 2 * 0 + _ ≤ _; exact Nat.le_of_eq rfl) (hb hby at_62) (fun _ _ => ⟨rfl, rfl, (by decide : 4 + 1 ≤ _), (by decide : 18 + 16 ≤ _)⟩)
    dsimp only [Pt.U, Pt.locs, Pt.cells, Pt.slots] at X124 l124 y124 z124 st124 hQ124
    subst l124 y124 z124
    obtain ⟨la124, kl124, rfl, N124q, K124q, hs124, G124_0, G124_1, G124_2, G124_3, G124_4, G124_5, G124_6, G124_7⟩ := hQ124
    have f125 := (f122.keep K121q)
    have lt_b112_la124 : b112 < la124 := Nat.lt_of_lt_of_le f125.lt hs124
    have lt_b119_la124 : b119 < la124 := Nat.lt_of_lt_of_le f123.lt hs124
    have lt_sg121_la124 : sg121 < la124 := Nat.lt_of_lt_of_le G121_7.lt hs124
    have lt_bs121_la124 : bs121 < la124 := Nat.lt_of_lt_of_le G121_8.lt hs124
    have gn_la124 : n0 ≤ la124 := Nat.le_trans Zs121 hs124
    have Zs124 : n0 ≤ T124.heap.size := Nat.le_trans Zs121 K124q.1
    have N124 := Fr.app N121 N124q
    have VL124 : Arv Z T124.heap la124 kl124 .byte sz [(.int (0 : Int32)), (.int (0 : Int32)), (.int (0 : Int32)), (.int (0 : Int32)), (.int (0 : Int32)), (.int (0 : Int32)), (.int (0 : Int32))] (.int (0 : Int32)) := G124_7.pad (pad_rep [] (.int (0 : Int32)) 7)
    refine Go.tr st124 ?_
    show Go p e below _ (T124.setTop (mkF m 65 #[.val (.int i), .val (.int j), .val (.int k), .val (.int o), .val (.int (3 : Int32)), .val (.int qe), .val (.int c1), .val (.int c2), .val (.ref b112), .val (.ref b119), .unset, .unset] []))
    refine Go.st (fun _ kt => XS.aload X124.here hx rfl (hb hby at_65) rfl rfl kt) ?_
    show Go p e below _ (T124.setTop (mkF m 67 #[.val (.int i), .val (.int j), .val (.int k), .val (.int o), .val (.int (3 : Int32)), .val (.int qe), .val (.int c1), .val (.int c2), .val (.ref b112), .val (.ref b119), .unset, .unset] [(.ref b119)]))
    refine Go.st (fun _ kt => XS.aload X124.here hx rfl (hb hby at_67) rfl rfl kt) ?_
    show Go p e below _ (T124.setTop (mkF m 69 #[.val (.int i), .val (.int j), .val (.int k), .val (.int o), .val (.int (3 : Int32)), .val (.int qe), .val (.int c1), .val (.int c2), .val (.ref b112), .val (.ref b119), .unset, .unset] [(.ref b112), (.ref b119)]))
    refine Go.st (fun _ kt => XS.iconst X124.here hx rfl (hb hby at_69) kt) ?_
    show Go p e below _ (T124.setTop (mkF m 70 #[.val (.int i), .val (.int j), .val (.int k), .val (.int o), .val (.int (3 : Int32)), .val (.int qe), .val (.int c1), .val (.int c2), .val (.ref b112), .val (.ref b119), .unset, .unset] [(.int (0 : Int32)), (.ref b112), (.ref b119)]))
    refine Go.st (fun _ kt => XS.iload X124.here hx rfl (hb hby at_70) rfl kt) ?_
    show Go p e below _ (T124.setTop (mkF m 72 #[.val (.int i), .val (.int j), .val (.int k), .val (.int o), .val (.int (3 : Int32)), .val (.int qe), .val (.int c1), .val (.int c2), .val (.ref b112), .val (.ref b119), .unset, .unset] [(.int (3 : Int32)), (.int (0 : Int32)), (.ref b112), (.ref b119)]))
    have f126 := (f123.keep K124q)
    have f127 := (((V118.ext E119).keep K121q (ninS (Nat.ne_of_lt lt_b112_b119) nin0)).keep K124q (ninS (Nat.ne_of_lt lt_b112_b119) (ninS (Nat.ne_of_lt lt_b112_sg121) (ninS (Nat.ne_of_lt lt_b112_bs121) nin0))))
    obtain ⟨cq128, kq128, q128a, q128b, q128c⟩ := isOf hZ rfl f126
    obtain ⟨_, _, ⟨T128, L128, k128, n128⟩, -, X128, ⟨Lc128, hQ128, l128, y128, z128⟩, st128⟩ := X124.virtualBack hx (y := (⟨"com/example/rowsieve/rowsieve/format/GrowingBytes", "put", "([BII)V"⟩ : MethodName)) (z := (⟨"com/example/rowsieve/rowsieve/format/GrowingBytes", "put", "([BII)V"⟩ : MethodName)) hown (mvT hZ (hw _ (List.mem_of_getElem? (i := 46) rfl))) (mvT hZ (hw _ (List.mem_of_getElem? (i := 47) rfl))) (notFace_of_selects (args := #[]) (mvT hZ (hw _ (List.mem_of_getElem? (i := 49) rfl)))) (mvT hZ (hw _ (List.mem_of_getElem? (i := 49) rfl))) (mvT hZ (hw _ (List.mem_of_getElem? (i := 48) rfl))) (by decide) (backOf (W := 0) (rm7 l Z a0 hw [] b119 b112 (3 : Int32) la124 kl124 sz [(.int (0 : Int32)), (.int (0 : Int32)), (.int (0 : Int32)), (.int (0 : Int32)), (.int (0 : Int32)), (.int (0 : Int32)), (.int (0 : Int32))] [(.int (90 : Int32)), (.int (-91 : Int32)), (.int (60 : Int32)), (.int (0 : Int32)), (.int (0 : Int32)), (.int (0 : Int32)), (.int (0 : Int32))] sg121 bs121 k112 [(.int (90 : Int32)), (.int (-91 : Int32)), (.int (60 : Int32))] (3 : Int32) T124.heap n0 Zs124 f126 G124_0 G124_1 G124_2 G124_4 G124_3 VL124 f127 gn_b119 gn_la124 (Nat.ne_of_lt lt_b119_la124) (Nat.ne_of_lt lt_b112_la124) (Nat.ne_of_lt lt_b112_b119) (by decide) (by decide) (own_natl (n := 3) (by omega)) (by decide) rfl rfl) hZ (hw _ (List.mem_of_getElem? (i := 50) rfl)) (hw _ (List.mem_of_getElem? (i := 3) rfl)) (by decide) (by decide)) q128a q128c (g := (mkF m 72 #[.val (.int i), .val (.int j), .val (.int k), .val (.int o), .val (.int (3 : Int32)), .val (.int qe), .val (.int c1), .val (.int c2), .val (.ref b112), .val (.ref b119), .unset, .unset] [(.int (3 : Int32)), (.int (0 : Int32)), (.ref b112), (.ref b119)])) rfl (by rw [hml]; rfl) (Steps.refl _) (argsL := [(.ref b112), (.int (0 : Int32)), (.int (3 : Int32))]) (rest := []) (lenOf own_pd6 rfl) rfl (by show 2 * 0 + _ ≤ _; exact Nat.le_of_eq rfl) (hb hby at_72) (fun _ _ => ⟨rfl, rfl, (by decide : 5 + 0 ≤ _), (by decide : 34 + 0 ≤ _)⟩)
    dsimp only [Pt.U, Pt.locs, Pt.cells, Pt.slots] at X128 l128 y128 z128 st128 hQ128
    subst l128 y128 z128
    obtain ⟨rfl, N128q, K128q, G128_0, G128_1, G128_2, G128_3, G128_4, G128_5⟩ := hQ128
    have Zs128 : n0 ≤ T128.heap.size := Nat.le_trans Zs124 K128q.1
    have N128 := Fr.app N124 N128q
    refine Go.tr st128 ?_
    show Go p e below _ (T128.setTop (mkF m 75 #[.val (.int i), .val (.int j), .val (.int k), .val (.int o), .val (.int (3 : Int32)), .val (.int qe), .val (.int c1), .val (.int c2), .val (.ref b112), .val (.ref b119), .unset, .unset] []))
    refine Go.st (fun _ kt => XS.aload X128.here hx rfl (hb hby at_75) rfl rfl kt) ?_
    show Go p e below _ (T128.setTop (mkF m 77 #[.val (.int i), .val (.int j), .val (.int k), .val (.int o), .val (.int (3 : Int32)), .val (.int qe), .val (.int c1), .val (.int c2), .val (.ref b112), .val (.ref b119), .unset, .unset] [(.ref b119)]))
    refine Go.st (fun _ kt => XS.iload X128.here hx rfl (hb hby at_77) rfl kt) ?_
    show Go p e below _ (T128.setTop (mkF m 79 #[.val (.int i), .val (.int j), .val (.int k), .val (.int o), .val (.int (3 : Int32)), .val (.int qe), .val (.int c1), .val (.int c2), .val (.ref b112), .val (.ref b119), .unset, .unset] [(.int c1), (.ref b119)]))
    have f129 := (f126.keep K128q)
    obtain ⟨cq130, kq130, q130a, q130b, q130c⟩ := isOf hZ rfl f129
    obtain ⟨_, _, ⟨T130, L130, k130, n130⟩, -, X130, ⟨Lc130, hQ130, l130, y130, z130⟩, st130⟩ := X128.virtualBack hx (y := (⟨"com/example/rowsieve/rowsieve/format/GrowingBytes", "putLittleEndian", "(C)V"⟩ : MethodName)) (z := (⟨"com/example/rowsieve/rowsieve/format/GrowingBytes", "putLittleEndian", "(C)V"⟩ : MethodName)) hown (mvT hZ (hw _ (List.mem_of_getElem? (i := 55) rfl))) (mvT hZ (hw _ (List.mem_of_getElem? (i := 56) rfl))) (notFace_of_selects (args := #[]) (mvT hZ (hw _ (List.mem_of_getElem? (i := 58) rfl)))) (mvT hZ (hw _ (List.mem_of_getElem? (i := 58) rfl))) (mvT hZ (hw _ (List.mem_of_getElem? (i := 57) rfl))) (by decide) (backOf (W := 0) (rm8 l Z a0 hw [] b119 c1 la124 kl124 sz [(.int (90 : Int32)), (.int (-91 : Int32)), (.int (60 : Int32)), (.int (0 : Int32)), (.int (0 : Int32)), (.int (0 : Int32)), (.int (0 : Int32))] [(.int (90 : Int32)), (.int (-91 : Int32)), (.int (60 : Int32)), (.int ((c1.toInt8.toInt32).toInt8.toInt32)), (.int ((((c1.toUInt32 >>> ((8 : Int32) &&& 31).toUInt32).toInt32).toInt8.toInt32).toInt8.toInt32)), (.int (0 : Int32)), (.int (0 : Int32))] sg121 bs121 (3 : Int32) (5 : Int32) T128.heap n0 Zs128 f129 G128_0 G128_1 G128_2 G128_3 G128_4 G128_5 gn_b119 gn_la124 (Nat.ne_of_lt lt_b119_la124) (own_lit hz.1 (by decide)) (own_lit hz.1 (by decide)) (Nat.le_of_ble_eq_true rfl) (Nat.le_of_ble_eq_true rfl) rfl (by decide)) hZ (hw _ (List.mem_of_getElem? (i := 59) rfl)) (hw _ (List.mem_of_getElem? (i := 3) rfl)) (by decide) (by decide)) q130a q130c (g := (mkF m 79 #[.val (.int i), .val (.int j), .val (.int k), .val (.int o), .val (.int (3 : Int32)), .val (.int qe), .val (.int c1), .val (.int c2), .val (.ref b112), .val (.ref b119), .unset, .unset] [(.int c1), (.ref b119)])) rfl (by rw [hml]; rfl) (Steps.refl _) (argsL := [(.int c1)]) (rest := []) (lenOf own_pd7 rfl) rfl (by show 2 * 0 + _ ≤ _; exact Nat.le_of_eq rfl) (hb hby at_79) (fun _ _ => ⟨rfl, rfl, (by decide : 5 + 0 ≤ _), (by decide : 34 + 0 ≤ _)⟩)
    dsimp only [Pt.U, Pt.locs, Pt.cells, Pt.slots] at X130 l130 y130 z130 st130 hQ130
    subst l130 y130 z130
    obtain ⟨rfl, N130q, K130q, G130_0, G130_1, G130_2, G130_3, G130_4, G130_5⟩ := hQ130
    have Zs130 : n0 ≤ T130.heap.size := Nat.le_trans Zs128 K130q.1
    have N130 := Fr.app N128 N130q
    refine Go.tr st130 ?_
    show Go p e below _ (T130.setTop (mkF m 82 #[.val (.int i), .val (.int j), .val (.int k), .val (.int o), .val (.int (3 : Int32)), .val (.int qe), .val (.int c1), .val (.int c2), .val (.ref b112), .val (.ref b119), .unset, .unset] []))
    refine Go.st (fun _ kt => XS.aload X130.here hx rfl (hb hby at_82) rfl rfl kt) ?_
    show Go p e below _ (T130.setTop (mkF m 84 #[.val (.int i), .val (.int j), .val (.int k), .val (.int o), .val (.int (3 : Int32)), .val (.int qe), .val (.int c1), .val (.int c2), .val (.ref b112), .val (.ref b119), .unset, .unset] [(.ref b119)]))
    have f131 := ((G124_6.keep K128q (ninS (Nat.ne_of_gt lt_b119_bs121) (ninS (Nat.ne_of_lt lt_bs121_la124) nin0))).keep K130q (ninS (Nat.ne_of_gt lt_b119_bs121) (ninS (Nat.ne_of_lt lt_bs121_la124) nin0)))
    have f133 := (f129.keep K130q)
    obtain ⟨cq132, kq132, q132a, q132b, q132c⟩ := isOf hZ rfl f133
    obtain ⟨_, _, ⟨T132, L132, k132, n132⟩, -, X132, ⟨Lc132, hQ132, l132, y132, z132⟩, st132⟩ := X130.virtualBack hx (y := (⟨"com/example/rowsieve/rowsieve/format/GrowingBytes", "length", "()I"⟩ : MethodName)) (z := (⟨"com/example/rowsieve/rowsieve/format/GrowingBytes", "length", "()I"⟩ : MethodName)) hown (mvT hZ (hw _ (List.mem_of_getElem? (i := 60) rfl))) (mvT hZ (hw _ (List.mem_of_getElem? (i := 35) rfl))) (notFace_of_selects (args := #[]) (mvT hZ (hw _ (List.mem_of_getElem? (i := 37) rfl)))) (mvT hZ (hw _ (List.mem_of_getElem? (i := 37) rfl))) (mvT hZ (hw _ (List.mem_of_getElem? (i := 36) rfl))) (by decide) (backOf (W := 0) (rm5_1 l Z a0 hw [] b119 bs121 kb121 (5 : Int32) (5 : Int32) T130.heap n0 Zs130 G130_3 G130_1 G130_4 f131 (by decide)) hZ (hw _ (List.mem_of_getElem? (i := 38) rfl)) (hw _ (List.mem_of_getElem? (i := 3) rfl)) (by decide) (by decide)) q132a q132c (g := (mkF m 84 #[.val (.int i), .val (.int j), .val (.int k), .val (.int o), .val (.int (3 : Int32)), .val (.int qe), .val (.int c1), .val (.int c2), .val (.ref b112), .val (.ref b119), .unset, .unset] [(.ref b119)])) rfl (by rw [hml]; rfl) (Steps.refl _) (argsL := []) (rest := []) (lenOf own_pd1 rfl) rfl (by show 2 * 0 + _ ≤ _; exact Nat.le_of_eq rfl) (hb hby at_84) (fun _ _ => ⟨rfl, rfl, (by decide : 5 + 0 ≤ _), (by decide : 34 + 0 ≤ _)⟩)
    dsimp only [Pt.U, Pt.locs, Pt.cells, Pt.slots] at X132 l132 y132 z132 st132 hQ132
    subst l132 y132 z132
    obtain ⟨rfl, N132q, e132⟩ := hQ132
    have N132 := Fr.app N130 N132q
    refine Go.tr st132 ?_
    show Go p e below _ (T132.setTop (mkF m 87 #[.val (.int i), .val (.int j), .val (.int k), .val (.int o), .val (.int (3 : Int32)), .val (.int qe), .val (.int c1), .val (.int c2), .val (.ref b112), .val (.ref b119), .unset, .unset] [(.int (5 : Int32))]))
    refine Go.st (fun _ kt => XS.istore X132.here hx rfl (hb hby at_87) rfl (l' := #[.val (.int i), .val (.int j), .val (.int k), .val (.int o), .val (.int (3 : Int32)), .val (.int qe), .val (.int c1), .val (.int c2), .val (.ref b112), .val (.ref b119), .val (.int (5 : Int32)), .unset]) rfl kt) ?_
    show Go p e below _ (T132.setTop (mkF m 89 #[.val (.int i), .val (.int j), .val (.int k), .val (.int o), .val (.int (3 : Int32)), .val (.int qe), .val (.int c1), .val (.int c2), .val (.ref b112), .val (.ref b119), .val (.int (5 : Int32)), .unset] []))
    refine Go.st (fun _ kt => XS.aload X132.here hx rfl (hb hby at_89) rfl rfl kt) ?_
    show Go p e below _ (T132.setTop (mkF m 91 #[.val (.int i), .val (.int j), .val (.int k), .val (.int o), .val (.int (3 : Int32)), .val (.int qe), .val (.int c1), .val (.int c2), .val (.ref b112), .val (.ref b119), .val (.int (5 : Int32)), .unset] [(.ref b119)]))
    refine Go.st (fun _ kt => XS.iload X132.here hx rfl (hb hby at_91) rfl kt) ?_
    show Go p e below _ (T132.setTop (mkF m 93 #[.val (.int i), .val (.int j), .val (.int k), .val (.int o), .val (.int (3 : Int32)), .val (.int qe), .val (.int c1), .val (.int c2), .val (.ref b112), .val (.ref b119), .val (.int (5 : Int32)), .unset] [(.int c2), (.ref b119)]))
    obtain ⟨cq134, kq134, q134a, q134b, q134c⟩ := isOf hZ e132 f133
    obtain ⟨_, _, ⟨T134, L134, k134, n134⟩, -, X134, ⟨Lc134, hQ134, l134, y134, z134⟩, st134⟩ := X132.virtualBack hx (y := (⟨"com/example/rowsieve/rowsieve/format/GrowingBytes", "putLittleEndian", "(C)V"⟩ : MethodName)) (z := (⟨"com/example/rowsieve/rowsieve/format/GrowingBytes", "putLittleEndian", "(C)V"⟩ : MethodName)) hown (mvT hZ (hw _ (List.mem_of_getElem? (i := 55) rfl))) (mvT hZ (hw _ (List.mem_of_getElem? (i := 56) rfl))) (notFace_of_selects (args := #[]) (mvT hZ (hw _ (List.mem_of_getElem? (i := 58) rfl)))) (mvT hZ (hw _ (List.mem_of_getElem? (i := 58) rfl))) (mvT hZ (hw _ (List.mem_of_getElem? (i := 57) rfl))) (by decide) (backOf (W := 0) (rm8 l Z a0 hw [] b119 c2 la124 kl124 sz [(.int (90 : Int32)), (.int (-91 : Int32)), (.int (60 : Int32)), (.int ((c1.toInt8.toInt32).toInt8.toInt32)), (.int ((((c1.toUInt32 >>> ((8 : Int32) &&& 31).toUInt32).toInt32).toInt8.toInt32).toInt8.toInt32)), (.int (0 : Int32)), (.int (0 : Int32))] [(.int (90 : Int32)), (.int (-91 : Int32)), (.int (60 : Int32)), (.int ((c1.toInt8.toInt32).toInt8.toInt32)), (.int ((((c1.toUInt32 >>> ((8 : Int32) &&& 31).toUInt32).toInt32).toInt8.toInt32).toInt8.toInt32)), (.int ((c2.toInt8.toInt32).toInt8.toInt32)), (.int ((((c2.toUInt32 >>> ((8 : Int32) &&& 31).toUInt32).toInt32).toInt8.toInt32).toInt8.toInt32))] sg121 bs121 (5 : Int32) (7 : Int32) T130.heap n0 Zs130 f133 G130_0 G130_1 G130_2 G130_3 G130_4 G130_5 gn_b119 gn_la124 (Nat.ne_of_lt lt_b119_la124) (own_lit hz.1 (by decide)) (own_lit hz.1 (by decide)) (Nat.le_of_ble_eq_true rfl) (Nat.le_of_ble_eq_true rfl) rfl (by decide)) hZ (hw _ (List.mem_of_getElem? (i := 59) rfl)) (hw _ (List.mem_of_getElem? (i := 3) rfl)) (by decide) (by decide)) q134a q134c (g := (mkF m 93 #[.val (.int i), .val (.int j), .val (.int k), .val (.int o), .val (.int (3 : Int32)), .val (.int qe), .val (.int c1), .val (.int c2), .val (.ref b112), .val (.ref b119), .val (.int (5 : Int32)), .unset] [(.int c2), (.ref b119)])) rfl (by rw [hml]; rfl) (Steps.refl _) (argsL := [(.int c2)]) (rest := []) (lenOf own_pd7 rfl) rfl (by show 2 * 0 + _ ≤ _; exact Nat.le_of_eq rfl) (hb hby at_93) (fun _ _ => ⟨rfl, e132, (by decide : 5 + 0 ≤ _), (by decide : 34 + 0 ≤ _)⟩)
    dsimp only [Pt.U, Pt.locs, Pt.cells, Pt.slots] at X134 l134 y134 z134 st134 hQ134
    subst l134 y134 z134
    obtain ⟨rfl, N134q, K134q, G134_0, G134_1, G134_2, G134_3, G134_4, G134_5⟩ := hQ134
    have Zs134 : n0 ≤ T134.heap.size := Nat.le_trans Zs130 K134q.1
    have N134 := Fr.app N132 N134q
    refine Go.tr st134 ?_
    show Go p e below _ (T134.setTop (mkF m 96 #[.val (.int i), .val (.int j), .val (.int k), .val (.int o), .val (.int (3 : Int32)), .val (.int qe), .val (.int c1), .val (.int c2), .val (.ref b112), .val (.ref b119), .val (.int (5 : Int32)), .unset] []))
    refine Go.st (fun _ kt => XS.aload X134.here hx rfl (hb hby at_96) rfl rfl kt) ?_
    show Go p e below _ (T134.setTop (mkF m 98 #[.val (.int i), .val (.int j), .val (.int k), .val (.int o), .val (.int (3 : Int32)), .val (.int qe), .val (.int c1), .val (.int c2), .val (.ref b112), .val (.ref b119), .val (.int (5 : Int32)), .unset] [(.ref b119)]))
    have f136 := (f133.keep K134q)
    obtain ⟨cq135, kq135, q135a, q135b, q135c⟩ := isOf hZ rfl f136
    obtain ⟨_, _, ⟨T135, L135, k135, n135⟩, -, X135, ⟨Lc135, hQ135, l135, y135, z135⟩, st135⟩ := X134.virtualBack hx (y := (⟨"com/example/rowsieve/rowsieve/format/GrowingBytes", "segmentCount", "()I"⟩ : MethodName)) (z := (⟨"com/example/rowsieve/rowsieve/format/GrowingBytes", "segmentCount", "()I"⟩ : MethodName)) hown (mvT hZ (hw _ (List.mem_of_getElem? (i := 61) rfl))) (mvT hZ (hw _ (List.mem_of_getElem? (i := 62) rfl))) (notFace_of_selects (args := #[]) (mvT hZ (hw _ (List.mem_of_getElem? (i := 64) rfl)))) (mvT hZ (hw _ (List.mem_of_getElem? (i := 64) rfl))) (mvT hZ (hw _ (List.mem_of_getElem? (i := 63) rfl))) (by decide) (backOf (W := 0) (rm9 l Z a0 hw [] b119 (1 : Int32) T134.heap n0 Zs134 G134_3) hZ (hw _ (List.mem_of_getElem? (i := 65) rfl)) (hw _ (List.mem_of_getElem? (i := 3) rfl)) (by decide) (by decide)) q135a q135c (g := (mkF m 98 #[.val (.int i), .val (.int j), .val (.int k), .val (.int o), .val (.int (3 : Int32)), .val (.int qe), .val (.int c1), .val (.int c2), .val (.ref b112), .val (.ref b119), .val (.int (5 : Int32)), .unset] [(.ref b119)])) rfl (by rw [hml]; rfl) (Steps.refl _) (argsL := []) (rest := []) (lenOf own_pd1 rfl) rfl (by show 2 * 0 + _ ≤ _; exact Nat.le_of_eq rfl) (hb hby at_98) (fun _ _ => ⟨rfl, rfl, (by decide : 5 + 0 ≤ _), (by decide : 34 + 0 ≤ _)⟩)
    dsimp only [Pt.U, Pt.locs, Pt.cells, Pt.slots] at X135 l135 y135 z135 st135 hQ135
    subst l135 y135 z135
    obtain ⟨rfl, N135q, e135⟩ := hQ135
    have N135 := Fr.app N134 N135q
    refine Go.tr st135 ?_
    show Go p e below _ (T135.setTop (mkF m 101 #[.val (.int i), .val (.int j), .val (.int k), .val (.int o), .val (.int (3 : Int32)), .val (.int qe), .val (.int c1), .val (.int c2), .val (.ref b112), .val (.ref b119), .val (.int (5 : Int32)), .unset] [(.int (1 : Int32))]))
    refine Go.st (fun _ kt => XS.iconst X135.here hx rfl (hb hby at_101) kt) ?_
    show Go p e below _ (T135.setTop (mkF m 102 #[.val (.int i), .val (.int j), .val (.int k), .val (.int o), .val (.int (3 : Int32)), .val (.int qe), .val (.int c1), .val (.int c2), .val (.ref b112), .val (.ref b119), .val (.int (5 : Int32)), .unset] [(.int (1 : Int32)), (.int (1 : Int32))]))
    refine Go.st (fun _ kt => XS.icmpNo X135.here hx rfl (hb hby at_102) rfl (teq (by decide : (1 : Int32) = (1 : Int32))).2 kt) ?_
    show Go p e below _ (T135.setTop (mkF m 105 #[.val (.int i), .val (.int j), .val (.int k), .val (.int o), .val (.int (3 : Int32)), .val (.int qe), .val (.int c1), .val (.int c2), .val (.ref b112), .val (.ref b119), .val (.int (5 : Int32)), .unset] []))
    refine Go.st (fun _ kt => XS.iload X135.here hx rfl (hb hby at_105) rfl kt) ?_
    show Go p e below _ (T135.setTop (mkF m 107 #[.val (.int i), .val (.int j), .val (.int k), .val (.int o), .val (.int (3 : Int32)), .val (.int qe), .val (.int c1), .val (.int c2), .val (.ref b112), .val (.ref b119), .val (.int (5 : Int32)), .unset] [(.int (5 : Int32))]))
    refine Go.st (fun _ kt => XS.iload X135.here hx rfl (hb hby at_107) rfl kt) ?_
    show Go p e below _ (T135.setTop (mkF m 109 #[.val (.int i), .val (.int j), .val (.int k), .val (.int o), .val (.int (3 : Int32)), .val (.int qe), .val (.int c1), .val (.int c2), .val (.ref b112), .val (.ref b119), .val (.int (5 : Int32)), .unset] [(.int (3 : Int32)), (.int (5 : Int32))]))
    refine Go.st (fun _ kt => XS.iconst X135.here hx rfl (hb hby at_109) kt) ?_
    show Go p e below _ (T135.setTop (mkF m 110 #[.val (.int i), .val (.int j), .val (.int k), .val (.int o), .val (.int (3 : Int32)), .val (.int qe), .val (.int c1), .val (.int c2), .val (.ref b112), .val (.ref b119), .val (.int (5 : Int32)), .unset] [(.int (2 : Int32)), (.int (3 : Int32)), (.int (5 : Int32))]))
    refine Go.st (fun _ kt => XS.iadd X135.here hx rfl (hb hby at_110) rfl kt) ?_
    show Go p e below _ (T135.setTop (mkF m 111 #[.val (.int i), .val (.int j), .val (.int k), .val (.int o), .val (.int (3 : Int32)), .val (.int qe), .val (.int c1), .val (.int c2), .val (.ref b112), .val (.ref b119), .val (.int (5 : Int32)), .unset] [(.int (5 : Int32)), (.int (5 : Int32))]))
    refine Go.st (fun _ kt => XS.icmpNo X135.here hx rfl (hb hby at_111) rfl (teq (by decide : (5 : Int32) = (5 : Int32))).2 kt) ?_
    show Go p e below _ (T135.setTop (mkF m 114 #[.val (.int i), .val (.int j), .val (.int k), .val (.int o), .val (.int (3 : Int32)), .val (.int qe), .val (.int c1), .val (.int c2), .val (.ref b112), .val (.ref b119), .val (.int (5 : Int32)), .unset] []))
    refine Go.st (fun _ kt => XS.aload X135.here hx rfl (hb hby at_114) rfl rfl kt) ?_
    show Go p e below _ (T135.setTop (mkF m 116 #[.val (.int i), .val (.int j), .val (.int k), .val (.int o), .val (.int (3 : Int32)), .val (.int qe), .val (.int c1), .val (.int c2), .val (.ref b112), .val (.ref b119), .val (.int (5 : Int32)), .unset] [(.ref b119)]))
    have f137 := (f131.keep K134q (ninS (Nat.ne_of_gt lt_b119_bs121) (ninS (Nat.ne_of_lt lt_bs121_la124) nin0)))
    obtain ⟨cq138, kq138, q138a, q138b, q138c⟩ := isOf hZ e135 f136
    obtain ⟨_, _, ⟨T138, L138, k138, n138⟩, -, X138, ⟨Lc138, hQ138, l138, y138, z138⟩, st138⟩ := X135.virtualBack hx (y := (⟨"com/example/rowsieve/rowsieve/format/GrowingBytes", "length", "()I"⟩ : MethodName)) (z := (⟨"com/example/rowsieve/rowsieve/format/GrowingBytes", "length", "()I"⟩ : MethodName)) hown (mvT hZ (hw _ (List.mem_of_getElem? (i := 60) rfl))) (mvT hZ (hw _ (List.mem_of_getElem? (i := 35) rfl))) (notFace_of_selects (args := #[]) (mvT hZ (hw _ (List.mem_of_getElem? (i := 37) rfl)))) (mvT hZ (hw _ (List.mem_of_getElem? (i := 37) rfl))) (mvT hZ (hw _ (List.mem_of_getElem? (i := 36) rfl))) (by decide) (backOf (W := 0) (rm5_1 l Z a0 hw [] b119 bs121 kb121 (7 : Int32) (7 : Int32) T134.heap n0 Zs134 G134_3 G134_1 G134_4 f137 (by decide)) hZ (hw _ (List.mem_of_getElem? (i := 38) rfl)) (hw _ (List.mem_of_getElem? (i := 3) rfl)) (by decide) (by decide)) q138a q138c (g := (mkF m 116 #[.val (.int i), .val (.int j), .val (.int k), .val (.int o), .val (.int (3 : Int32)), .val (.int qe), .val (.int c1), .val (.int c2), .val (.ref b112), .val (.ref b119), .val (.int (5 : Int32)), .unset] [(.ref b119)])) rfl (by rw [hml]; rfl) (Steps.refl _) (argsL := []) (rest := []) (lenOf own_pd1 rfl) rfl (by show 2 * 0 + _ ≤ _; exact Nat.le_of_eq rfl) (hb hby at_116) (fun _ _ => ⟨rfl, e135, (by decide : 5 + 0 ≤ _), (by decide : 34 + 0 ≤ _)⟩)
    dsimp only [Pt.U, Pt.locs, Pt.cells, Pt.slots] at X138 l138 y138 z138 st138 hQ138
    subst l138 y138 z138
    obtain ⟨rfl, N138q, e138⟩ := hQ138
    have N138 := Fr.app N135 N138q
    refine Go.tr st138 ?_
    show Go p e below _ (T138.setTop (mkF m 119 #[.val (.int i), .val (.int j), .val (.int k), .val (.int o), .val (.int (3 : Int32)), .val (.int qe), .val (.int c1), .val (.int c2), .val (.ref b112), .val (.ref b119), .val (.int (5 : Int32)), .unset] [(.int (7 : Int32))]))
    refine Go.st (fun _ kt => XS.iload X138.here hx rfl (hb hby at_119) rfl kt) ?_
    show Go p e below _ (T138.setTop (mkF m 121 #[.val (.int i), .val (.int j), .val (.int k), .val (.int o), .val (.int (3 : Int32)), .val (.int qe), .val (.int c1), .val (.int c2), .val (.ref b112), .val (.ref b119), .val (.int (5 : Int32)), .unset] [(.int (3 : Int32)), (.int (7 : Int32))]))
    refine Go.st (fun _ kt => XS.iconst X138.here hx rfl (hb hby at_121) kt) ?_
    show Go p e below _ (T138.setTop (mkF m 122 #[.val (.int i), .val (.int j), .val (.int k), .val (.int o), .val (.int (3 : Int32)), .val (.int qe), .val (.int c1), .val (.int c2), .val (.ref b112), .val (.ref b119), .val (.int (5 : Int32)), .unset] [(.int (4 : Int32)), (.int (3 : Int32)), (.int (7 : Int32))]))
    refine Go.st (fun _ kt => XS.iadd X138.here hx rfl (hb hby at_122) rfl kt) ?_
    show Go p e below _ (T138.setTop (mkF m 123 #[.val (.int i), .val (.int j), .val (.int k), .val (.int o), .val (.int (3 : Int32)), .val (.int qe), .val (.int c1), .val (.int c2), .val (.ref b112), .val (.ref b119), .val (.int (5 : Int32)), .unset] [(.int (7 : Int32)), (.int (7 : Int32))]))
    refine Go.st (fun _ kt => XS.icmpYes X138.here hx rfl (pc0 := 123) (pc' := 128) rfl (hb hby at_123) rfl (teq (by decide : (7 : Int32) = (7 : Int32))).1 (by decide) (by decide) kt) ?_
    show Go p e below _ (T138.setTop (mkF m 128 #[.val (.int i), .val (.int j), .val (.int k), .val (.int o), .val (.int (3 : Int32)), .val (.int qe), .val (.int c1), .val (.int c2), .val (.ref b112), .val (.ref b119), .val (.int (5 : Int32)), .unset] []))
    refine Go.st (fun _ kt => XS.aload X138.here hx rfl (hb hby at_128) rfl rfl kt) ?_
    show Go p e below _ (T138.setTop (mkF m 130 #[.val (.int i), .val (.int j), .val (.int k), .val (.int o), .val (.int (3 : Int32)), .val (.int qe), .val (.int c1), .val (.int c2), .val (.ref b112), .val (.ref b119), .val (.int (5 : Int32)), .unset] [(.ref b119)]))
    refine Go.st (fun _ kt => XS.iconst X138.here hx rfl (hb hby at_130) kt) ?_
    show Go p e below _ (T138.setTop (mkF m 131 #[.val (.int i), .val (.int j), .val (.int k), .val (.int o), .val (.int (3 : Int32)), .val (.int qe), .val (.int c1), .val (.int c2), .val (.ref b112), .val (.ref b119), .val (.int (5 : Int32)), .unset] [(.int (0 : Int32)), (.ref b119)]))
    have f139 := (((G124_5.keep K128q (ninS (Nat.ne_of_gt lt_b119_sg121) (ninS (Nat.ne_of_lt lt_sg121_la124) nin0))).keep K130q (ninS (Nat.ne_of_gt lt_b119_sg121) (ninS (Nat.ne_of_lt lt_sg121_la124) nin0))).keep K134q (ninS (Nat.ne_of_gt lt_b119_sg121) (ninS (Nat.ne_of_lt lt_sg121_la124) nin0)))
    obtain ⟨cq140, kq140, q140a, q140b, q140c⟩ := isOf hZ e138 f136
    obtain ⟨_, _, ⟨T140, L140, k140, n140⟩, -, X140, ⟨Lc140, hQ140, l140, y140, z140⟩, st140⟩ := X138.virtualBack hx (y := (⟨"com/example/rowsieve/rowsieve/format/GrowingBytes", "segment", "(I)[B"⟩ : MethodName)) (z := (⟨"com/example/rowsieve/rowsieve/format/GrowingBytes", "segment", "(I)[B"⟩ : MethodName)) hown (mvT hZ (hw _ (List.mem_of_getElem? (i := 66) rfl))) (mvT hZ (hw _ (List.mem_of_getElem? (i := 67) rfl))) (notFace_of_selects (args := #[]) (mvT hZ (hw _ (List.mem_of_getElem? (i := 69) rfl)))) (mvT hZ (hw _ (List.mem_of_getElem? (i := 69) rfl))) (mvT hZ (hw _ (List.mem_of_getElem? (i := 68) rfl))) (by decide) (backOf (W := 0) (rm10 l Z a0 hw [] b119 sg121 ks121 la124 T134.heap n0 Zs134 G134_0 f139) hZ (hw _ (List.mem_of_getElem? (i := 70) rfl)) (hw _ (List.mem_of_getElem? (i := 3) rfl)) (by decide) (by decide)) q140a q140c (g := (mkF m 131 #[.val (.int i), .val (.int j), .val (.int k), .val (.int o), .val (.int (3 : Int32)), .val (.int qe), .val (.int c1), .val (.int c2), .val (.ref b112), .val (.ref b119), .val (.int (5 : Int32)), .unset] [(.int (0 : Int32)), (.ref b119)])) rfl (by rw [hml]; rfl) (Steps.refl _) (argsL := [(.int (0 : Int32))]) (rest := []) (lenOf own_pd8 rfl) rfl (by show 2 * 0 + _ ≤ _; exact Nat.le_of_eq rfl) (hb hby at_131) (fun _ _ => ⟨rfl, e138, (by decide : 5 + 0 ≤ _), (by decide : 34 + 0 ≤ _)⟩)
    dsimp only [Pt.U, Pt.locs, Pt.cells, Pt.slots] at X140 l140 y140 z140 st140 hQ140
    subst l140 y140 z140
    obtain ⟨rfl, N140q, e140⟩ := hQ140
    have N140 := Fr.app N138 N140q
    refine Go.tr st140 ?_
    show Go p e below _ (T140.setTop (mkF m 134 #[.val (.int i), .val (.int j), .val (.int k), .val (.int o), .val (.int (3 : Int32)), .val (.int qe), .val (.int c1), .val (.int c2), .val (.ref b112), .val (.ref b119), .val (.int (5 : Int32)), .unset] [(.ref la124)]))
    refine Go.st (fun _ kt => XS.astore X140.here hx rfl (hb hby at_134) rfl rfl (l' := #[.val (.int i), .val (.int j), .val (.int k), .val (.int o), .val (.int (3 : Int32)), .val (.int qe), .val (.int c1), .val (.int c2), .val (.ref b112), .val (.ref b119), .val (.int (5 : Int32)), .val (.ref la124)]) rfl kt) ?_
    show Go p e below _ (T140.setTop (mkF m 136 #[.val (.int i), .val (.int j), .val (.int k), .val (.int o), .val (.int (3 : Int32)), .val (.int qe), .val (.int c1), .val (.int c2), .val (.ref b112), .val (.ref b119), .val (.int (5 : Int32)), .val (.ref la124)] []))
    refine Go.st (fun _ kt => XS.aload X140.here hx rfl (hb hby at_136) rfl rfl kt) ?_
    show Go p e below _ (T140.setTop (mkF m 138 #[.val (.int i), .val (.int j), .val (.int k), .val (.int o), .val (.int (3 : Int32)), .val (.int qe), .val (.int c1), .val (.int c2), .val (.ref b112), .val (.ref b119), .val (.int (5 : Int32)), .val (.ref la124)] [(.ref la124)]))
    obtain ⟨cl141, Ar141, -, S141, N141', -, -⟩ := id G134_5
    refine Go.st (fun _ kt => X140.arraylength hx (by rw [e140]; exact Ar141.1) (State.isArrayOf_alike hZ.alike Ar141.2.1) (g := (mkF m 138 #[.val (.int i), .val (.int j), .val (.int k), .val (.int o), .val (.int (3 : Int32)), .val (.int qe), .val (.int c1), .val (.int c2), .val (.ref b112), .val (.ref b119), .val (.int (5 : Int32)), .val (.ref la124)] [(.ref la124)])) rfl rfl (hb hby at_138) _ kt) ?_
    rw [len_of S141 N141']
    show Go p e below _ (T140.setTop (mkF m 139 #[.val (.int i), .val (.int j), .val (.int k), .val (.int o), .val (.int (3 : Int32)), .val (.int qe), .val (.int c1), .val (.int c2), .val (.ref b112), .val (.ref b119), .val (.int (5 : Int32)), .val (.ref la124)] [(.int sz)]))
    refine Go.st (fun _ kt => XS.iload X140.here hx rfl (hb hby at_139) rfl kt) ?_
    show Go p e below _ (T140.setTop (mkF m 141 #[.val (.int i), .val (.int j), .val (.int k), .val (.int o), .val (.int (3 : Int32)), .val (.int qe), .val (.int c1), .val (.int c2), .val (.ref b112), .val (.ref b119), .val (.int (5 : Int32)), .val (.ref la124)] [(.int (3 : Int32)), (.int sz)]))
    refine Go.st (fun _ kt => XS.iconst X140.here hx rfl (hb hby at_141) kt) ?_
    show Go p e below _ (T140.setTop (mkF m 142 #[.val (.int i), .val (.int j), .val (.int k), .val (.int o), .val (.int (3 : Int32)), .val (.int qe), .val (.int c1), .val (.int c2), .val (.ref b112), .val (.ref b119), .val (.int (5 : Int32)), .val (.ref la124)] [(.int (4 : Int32)), (.int (3 : Int32)), (.int sz)]))
    refine Go.st (fun _ kt => XS.iadd X140.here hx rfl (hb hby at_142) rfl kt) ?_
    show Go p e below _ (T140.setTop (mkF m 143 #[.val (.int i), .val (.int j), .val (.int k), .val (.int o), .val (.int (3 : Int32)), .val (.int qe), .val (.int c1), .val (.int c2), .val (.ref b112), .val (.ref b119), .val (.int (5 : Int32)), .val (.ref la124)] [(.int (7 : Int32)), (.int sz)]))
    refine Go.st (fun _ kt => XS.iload X140.here hx rfl (hb hby at_143) rfl kt) ?_
    show Go p e below _ (T140.setTop (mkF m 145 #[.val (.int i), .val (.int j), .val (.int k), .val (.int o), .val (.int (3 : Int32)), .val (.int qe), .val (.int c1), .val (.int c2), .val (.ref b112), .val (.ref b119), .val (.int (5 : Int32)), .val (.ref la124)] [(.int qe), (.int (7 : Int32)), (.int sz)]))
    refine Go.st (fun _ kt => XS.iadd X140.here hx rfl (hb hby at_145) rfl kt) ?_
    show Go p e below _ (T140.setTop (mkF m 146 #[.val (.int i), .val (.int j), .val (.int k), .val (.int o), .val (.int (3 : Int32)), .val (.int qe), .val (.int c1), .val (.int c2), .val (.ref b112), .val (.ref b119), .val (.int (5 : Int32)), .val (.ref la124)] [(.int ((7 : Int32) + qe)), (.int sz)]))
    refine Go.st (fun _ kt => XS.icmpYes X140.here hx rfl (pc0 := 146) (pc' := 151) rfl (hb hby at_146) rfl (teq hsz.symm).1 (by decide) (by decide) kt) ?_
    show Go p e below _ (T140.setTop (mkF m 151 #[.val (.int i), .val (.int j), .val (.int k), .val (.int o), .val (.int (3 : Int32)), .val (.int qe), .val (.int c1), .val (.int c2), .val (.ref b112), .val (.ref b119), .val (.int (5 : Int32)), .val (.ref la124)] []))
    refine Go.st (fun _ kt => XS.iload X140.here hx rfl (hb hby at_151) rfl kt) ?_
    show Go p e below _ (T140.setTop (mkF m 153 #[.val (.int i), .val (.int j), .val (.int k), .val (.int o), .val (.int (3 : Int32)), .val (.int qe), .val (.int c1), .val (.int c2), .val (.ref b112), .val (.ref b119), .val (.int (5 : Int32)), .val (.ref la124)] [(.int (3 : Int32))]))
    refine Go.st (fun _ kt => XS.ifNo X140.here hx rfl (hb hby at_153) rfl ((if0 _ _).trans (tlt (by decide : (0 : Int32) < (3 : Int32))).2.2.2) kt) ?_
    show Go p e below _ (T140.setTop (mkF m 156 #[.val (.int i), .val (.int j), .val (.int k), .val (.int o), .val (.int (3 : Int32)), .val (.int qe), .val (.int c1), .val (.int c2), .val (.ref b112), .val (.ref b119), .val (.int (5 : Int32)), .val (.ref la124)] []))
    refine Go.st (fun _ kt => XS.aload X140.here hx rfl (hb hby at_156) rfl rfl kt) ?_
    show Go p e below _ (T140.setTop (mkF m 158 #[.val (.int i), .val (.int j), .val (.int k), .val (.int o), .val (.int (3 : Int32)), .val (.int qe), .val (.int c1), .val (.int c2), .val (.ref b112), .val (.ref b119), .val (.int (5 : Int32)), .val (.ref la124)] [(.ref la124)]))
    refine Go.st (fun _ kt => XS.iconst X140.here hx rfl (hb hby at_158) kt) ?_
    show Go p e below _ (T140.setTop (mkF m 159 #[.val (.int i), .val (.int j), .val (.int k), .val (.int o), .val (.int (3 : Int32)), .val (.int qe), .val (.int c1), .val (.int c2), .val (.ref b112), .val (.ref b119), .val (.int (5 : Int32)), .val (.ref la124)] [(.int (0 : Int32)), (.ref la124)]))
    obtain ⟨cl142, Ar142, -, S142, N142', H142, G142⟩ := id G134_5
    have hin142 := inb_of S142 (j := (0 : Int32)) (own_lit hz.1 (by decide))
    have hat142 := Has.at H142 hin142 (v := (.int (90 : Int32))) rfl
    refine Go.st (fun _ kt => X140.baloadBytes hx (j := (0 : Int32)) (v := (.int (90 : Int32))) (by rw [e140]; exact Ar142.1) (State.isArrayOf_alike hZ.alike Ar142.2.1) Ar142.2.2 hin142 hat142 (g := (mkF m 159 #[.val (.int i), .val (.int j), .val (.int k), .val (.int o), .val (.int (3 : Int32)), .val (.int qe), .val (.int c1), .val (.int c2), .val (.ref b112), .val (.ref b119), .val (.int (5 : Int32)), .val (.ref la124)] [(.int (0 : Int32)), (.ref la124)])) rfl rfl (hb hby at_159) _ kt) ?_
    show Go p e below _ (T140.setTop (mkF m 160 #[.val (.int i), .val (.int j), .val (.int k), .val (.int o), .val (.int (3 : Int32)), .val (.int qe), .val (.int c1), .val (.int c2), .val (.ref b112), .val (.ref b119), .val (.int (5 : Int32)), .val (.ref la124)] [(.int (90 : Int32))]))
    refine Go.st (fun _ kt => XS.bipush X140.here hx rfl (hb hby at_160) kt) ?_
    show Go p e below _ (T140.setTop (mkF m 162 #[.val (.int i), .val (.int j), .val (.int k), .val (.int o), .val (.int (3 : Int32)), .val (.int qe), .val (.int c1), .val (.int c2), .val (.ref b112), .val (.ref b119), .val (.int (5 : Int32)), .val (.ref la124)] [(.int (90 : Int32)), (.int (90 : Int32))]))
    refine Go.st (fun _ kt => XS.icmpYes X140.here hx rfl (pc0 := 162) (pc' := 167) rfl (hb hby at_162) rfl (teq (by decide : (90 : Int32) = (90 : Int32))).1 (by decide) (by decide) kt) ?_
    show Go p e below _ (T140.setTop (mkF m 167 #[.val (.int i), .val (.int j), .val (.int k), .val (.int o), .val (.int (3 : Int32)), .val (.int qe), .val (.int c1), .val (.int c2), .val (.ref b112), .val (.ref b119), .val (.int (5 : Int32)), .val (.ref la124)] []))
    refine Go.st (fun _ kt => XS.iload X140.here hx rfl (hb hby at_167) rfl kt) ?_
    show Go p e below _ (T140.setTop (mkF m 169 #[.val (.int i), .val (.int j), .val (.int k), .val (.int o), .val (.int (3 : Int32)), .val (.int qe), .val (.int c1), .val (.int c2), .val (.ref b112), .val (.ref b119), .val (.int (5 : Int32)), .val (.ref la124)] [(.int (3 : Int32))]))
    refine Go.st (fun _ kt => XS.iconst X140.here hx rfl (hb hby at_169) kt) ?_
    show Go p e below _ (T140.setTop (mkF m 170 #[.val (.int i), .val (.int j), .val (.int k), .val (.int o), .val (.int (3 : Int32)), .val (.int qe), .val (.int c1), .val (.int c2), .val (.ref b112), .val (.ref b119), .val (.int (5 : Int32)), .val (.ref la124)] [(.int (1 : Int32)), (.int (3 : Int32))]))
    refine Go.st (fun _ kt => XS.icmpNo X140.here hx rfl (hb hby at_170) rfl (tlt (by decide : (1 : Int32) < (3 : Int32))).2.2.2 kt) ?_
    show Go p e below _ (T140.setTop (mkF m 173 #[.val (.int i), .val (.int j), .val (.int k), .val (.int o), .val (.int (3 : Int32)), .val (.int qe), .val (.int c1), .val (.int c2), .val (.ref b112), .val (.ref b119), .val (.int (5 : Int32)), .val (.ref la124)] []))
    refine Go.st (fun _ kt => XS.aload X140.here hx rfl (hb hby at_173) rfl rfl kt) ?_
    show Go p e below _ (T140.setTop (mkF m 175 #[.val (.int i), .val (.int j), .val (.int k), .val (.int o), .val (.int (3 : Int32)), .val (.int qe), .val (.int c1), .val (.int c2), .val (.ref b112), .val (.ref b119), .val (.int (5 : Int32)), .val (.ref la124)] [(.ref la124)]))
    refine Go.st (fun _ kt => XS.iconst X140.here hx rfl (hb hby at_175) kt) ?_
    show Go p e below _ (T140.setTop (mkF m 176 #[.val (.int i), .val (.int j), .val (.int k), .val (.int o), .val (.int (3 : Int32)), .val (.int qe), .val (.int c1), .val (.int c2), .val (.ref b112), .val (.ref b119), .val (.int (5 : Int32)), .val (.ref la124)] [(.int (1 : Int32)), (.ref la124)]))
    obtain ⟨cl143, Ar143, -, S143, N143', H143, G143⟩ := id G134_5
    have hin143 := inb_of S143 (j := (1 : Int32)) (own_lit hz.1 (by decide))
    have hat143 := Has.at H143 hin143 (v := (.int (-91 : Int32))) rfl
    refine Go.st (fun _ kt => X140.baloadBytes hx (j := (1 : Int32)) (v := (.int (-91 : Int32))) (by rw [e140]; exact Ar143.1) (State.isArrayOf_alike hZ.alike Ar143.2.1) Ar143.2.2 hin143 hat143 (g := (mkF m 176 #[.val (.int i), .val (.int j), .val (.int k), .val (.int o), .val (.int (3 : Int32)), .val (.int qe), .val (.int c1), .val (.int c2), .val (.ref b112), .val (.ref b119), .val (.int (5 : Int32)), .val (.ref la124)] [(.int (1 : Int32)), (.ref la124)])) rfl rfl (hb hby at_176) _ kt) ?_
    show Go p e below _ (T140.setTop (mkF m 177 #[.val (.int i), .val (.int j), .val (.int k), .val (.int o), .val (.int (3 : Int32)), .val (.int qe), .val (.int c1), .val (.int c2), .val (.ref b112), .val (.ref b119), .val (.int (5 : Int32)), .val (.ref la124)] [(.int (-91 : Int32))]))
    refine Go.st (fun _ kt => XS.bipush X140.here hx rfl (hb hby at_177) kt) ?_
    show Go p e below _ (T140.setTop (mkF m 179 #[.val (.int i), .val (.int j), .val (.int k), .val (.int o), .val (.int (3 : Int32)), .val (.int qe), .val (.int c1), .val (.int c2), .val (.ref b112), .val (.ref b119), .val (.int (5 : Int32)), .val (.ref la124)] [(.int (-91 : Int32)), (.int (-91 : Int32))]))
    refine Go.st (fun _ kt => XS.icmpYes X140.here hx rfl (pc0 := 179) (pc' := 184) rfl (hb hby at_179) rfl (teq (by decide : (-91 : Int32) = (-91 : Int32))).1 (by decide) (by decide) kt) ?_
    show Go p e below _ (T140.setTop (mkF m 184 #[.val (.int i), .val (.int j), .val (.int k), .val (.int o), .val (.int (3 : Int32)), .val (.int qe), .val (.int c1), .val (.int c2), .val (.ref b112), .val (.ref b119), .val (.int (5 : Int32)), .val (.ref la124)] []))
    refine Go.st (fun _ kt => XS.iload X140.here hx rfl (hb hby at_184) rfl kt) ?_
    show Go p e below _ (T140.setTop (mkF m 186 #[.val (.int i), .val (.int j), .val (.int k), .val (.int o), .val (.int (3 : Int32)), .val (.int qe), .val (.int c1), .val (.int c2), .val (.ref b112), .val (.ref b119), .val (.int (5 : Int32)), .val (.ref la124)] [(.int (3 : Int32))]))
    refine Go.st (fun _ kt => XS.iconst X140.here hx rfl (hb hby at_186) kt) ?_
    show Go p e below _ (T140.setTop (mkF m 187 #[.val (.int i), .val (.int j), .val (.int k), .val (.int o), .val (.int (3 : Int32)), .val (.int qe), .val (.int c1), .val (.int c2), .val (.ref b112), .val (.ref b119), .val (.int (5 : Int32)), .val (.ref la124)] [(.int (2 : Int32)), (.int (3 : Int32))]))
    refine Go.st (fun _ kt => XS.icmpNo X140.here hx rfl (hb hby at_187) rfl (tlt (by decide : (2 : Int32) < (3 : Int32))).2.2.2 kt) ?_
    show Go p e below _ (T140.setTop (mkF m 190 #[.val (.int i), .val (.int j), .val (.int k), .val (.int o), .val (.int (3 : Int32)), .val (.int qe), .val (.int c1), .val (.int c2), .val (.ref b112), .val (.ref b119), .val (.int (5 : Int32)), .val (.ref la124)] []))
    refine Go.st (fun _ kt => XS.aload X140.here hx rfl (hb hby at_190) rfl rfl kt) ?_
    show Go p e below _ (T140.setTop (mkF m 192 #[.val (.int i), .val (.int j), .val (.int k), .val (.int o), .val (.int (3 : Int32)), .val (.int qe), .val (.int c1), .val (.int c2), .val (.ref b112), .val (.ref b119), .val (.int (5 : Int32)), .val (.ref la124)] [(.ref la124)]))
    refine Go.st (fun _ kt => XS.iconst X140.here hx rfl (hb hby at_192) kt) ?_
    show Go p e below _ (T140.setTop (mkF m 193 #[.val (.int i), .val (.int j), .val (.int k), .val (.int o), .val (.int (3 : Int32)), .val (.int qe), .val (.int c1), .val (.int c2), .val (.ref b112), .val (.ref b119), .val (.int (5 : Int32)), .val (.ref la124)] [(.int (2 : Int32)), (.ref la124)]))
    obtain ⟨cl144, Ar144, -, S144, N144', H144, G144⟩ := id G134_5
    have hin144 := inb_of S144 (j := (2 : Int32)) (own_lit hz.1 (by decide))
    have hat144 := Has.at H144 hin144 (v := (.int (60 : Int32))) rfl
    refine Go.st (fun _ kt => X140.baloadBytes hx (j := (2 : Int32)) (v := (.int (60 : Int32))) (by rw [e140]; exact Ar144.1) (State.isArrayOf_alike hZ.alike Ar144.2.1) Ar144.2.2 hin144 hat144 (g := (mkF m 193 #[.val (.int i), .val (.int j), .val (.int k), .val (.int o), .val (.int (3 : Int32)), .val (.int qe), .val (.int c1), .val (.int c2), .val (.ref b112), .val (.ref b119), .val (.int (5 : Int32)), .val (.ref la124)] [(.int (2 : Int32)), (.ref la124)])) rfl rfl (hb hby at_193) _ kt) ?_
    show Go p e below _ (T140.setTop (mkF m 194 #[.val (.int i), .val (.int j), .val (.int k), .val (.int o), .val (.int (3 : Int32)), .val (.int qe), .val (.int c1), .val (.int c2), .val (.ref b112), .val (.ref b119), .val (.int (5 : Int32)), .val (.ref la124)] [(.int (60 : Int32))]))
    refine Go.st (fun _ kt => XS.bipush X140.here hx rfl (hb hby at_194) kt) ?_
    show Go p e below _ (T140.setTop (mkF m 196 #[.val (.int i), .val (.int j), .val (.int k), .val (.int o), .val (.int (3 : Int32)), .val (.int qe), .val (.int c1), .val (.int c2), .val (.ref b112), .val (.ref b119), .val (.int (5 : Int32)), .val (.ref la124)] [(.int (60 : Int32)), (.int (60 : Int32))]))
    refine Go.st (fun _ kt => XS.icmpYes X140.here hx rfl (pc0 := 196) (pc' := 201) rfl (hb hby at_196) rfl (teq (by decide : (60 : Int32) = (60 : Int32))).1 (by decide) (by decide) kt) ?_
    show Go p e below _ (T140.setTop (mkF m 201 #[.val (.int i), .val (.int j), .val (.int k), .val (.int o), .val (.int (3 : Int32)), .val (.int qe), .val (.int c1), .val (.int c2), .val (.ref b112), .val (.ref b119), .val (.int (5 : Int32)), .val (.ref la124)] []))
    refine Go.st (fun _ kt => XS.iload X140.here hx rfl (hb hby at_201) rfl kt) ?_
    show Go p e below _ (T140.setTop (mkF m 203 #[.val (.int i), .val (.int j), .val (.int k), .val (.int o), .val (.int (3 : Int32)), .val (.int qe), .val (.int c1), .val (.int c2), .val (.ref b112), .val (.ref b119), .val (.int (5 : Int32)), .val (.ref la124)] [(.int qe)]))
    by_cases hc203_145 : (0 : Int32) < qe
    · refine Go.st (fun _ kt => XS.ifNo X140.here hx rfl (hb hby at_203) rfl ((if0 _ _).trans (tlt hc203_145).2.2.2) kt) ?_
      show Go p e below _ (T140.setTop (mkF m 206 #[.val (.int i), .val (.int j), .val (.int k), .val (.int o), .val (.int (3 : Int32)), .val (.int qe), .val (.int c1), .val (.int c2), .val (.ref b112), .val (.ref b119), .val (.int (5 : Int32)), .val (.ref la124)] []))
      refine Go.st (fun _ kt => XS.aload X140.here hx rfl (hb hby at_206) rfl rfl kt) ?_
      show Go p e below _ (T140.setTop (mkF m 208 #[.val (.int i), .val (.int j), .val (.int k), .val (.int o), .val (.int (3 : Int32)), .val (.int qe), .val (.int c1), .val (.int c2), .val (.ref b112), .val (.ref b119), .val (.int (5 : Int32)), .val (.ref la124)] [(.ref la124)]))
      refine Go.st (fun _ kt => XS.iload X140.here hx rfl (hb hby at_208) rfl kt) ?_
      show Go p e below _ (T140.setTop (mkF m 210 #[.val (.int i), .val (.int j), .val (.int k), .val (.int o), .val (.int (3 : Int32)), .val (.int qe), .val (.int c1), .val (.int c2), .val (.ref b112), .val (.ref b119), .val (.int (5 : Int32)), .val (.ref la124)] [(.int (3 : Int32)), (.ref la124)]))
      refine Go.st (fun _ kt => XS.iconst X140.here hx rfl (hb hby at_210) kt) ?_
      show Go p e below _ (T140.setTop (mkF m 211 #[.val (.int i), .val (.int j), .val (.int k), .val (.int o), .val (.int (3 : Int32)), .val (.int qe), .val (.int c1), .val (.int c2), .val (.ref b112), .val (.ref b119), .val (.int (5 : Int32)), .val (.ref la124)] [(.int (4 : Int32)), (.int (3 : Int32)), (.ref la124)]))
      refine Go.st (fun _ kt => XS.iadd X140.here hx rfl (hb hby at_211) rfl kt) ?_
      show Go p e below _ (T140.setTop (mkF m 212 #[.val (.int i), .val (.int j), .val (.int k), .val (.int o), .val (.int (3 : Int32)), .val (.int qe), .val (.int c1), .val (.int c2), .val (.ref b112), .val (.ref b119), .val (.int (5 : Int32)), .val (.ref la124)] [(.int (7 : Int32)), (.ref la124)]))
      have hz1 : (8 : Int) ≤ sz.toInt := own_more hs_ hc203_145
      obtain ⟨cl146, Ar146, -, S146, N146', H146, G146⟩ := id G134_5
      have hin146 := inb_of S146 (j := (7 : Int32)) (own_lit hz1 (by decide))
      have hat146 := Has.at H146 hin146 (v := (.int (0 : Int32))) rfl
      refine Go.st (fun _ kt => X140.baloadBytes hx (j := (7 : Int32)) (v := (.int (0 : Int32))) (by rw [e140]; exact Ar146.1) (State.isArrayOf_alike hZ.alike Ar146.2.1) Ar146.2.2 hin146 hat146 (g := (mkF m 212 #[.val (.int i), .val (.int j), .val (.int k), .val (.int o), .val (.int (3 : Int32)), .val (.int qe), .val (.int c1), .val (.int c2), .val (.ref b112), .val (.ref b119), .val (.int (5 : Int32)), .val (.ref la124)] [(.int (7 : Int32)), (.ref la124)])) rfl rfl (hb hby at_212) _ kt) ?_
      show Go p e below _ (T140.setTop (mkF m 213 #[.val (.int i), .val (.int j), .val (.int k), .val (.int o), .val (.int (3 : Int32)), .val (.int qe), .val (.int c1), .val (.int c2), .val (.ref b112), .val (.ref b119), .val (.int (5 : Int32)), .val (.ref la124)] [(.int (0 : Int32))]))
      refine Go.st (fun _ kt => XS.ifYes X140.here hx rfl (pc0 := 213) (pc' := 218) rfl (hb hby at_213) rfl ((if0 _ _).trans (teq (by decide : (0 : Int32) = (0 : Int32))).1) (by decide) (by decide) kt) ?_
      show Go p e below _ (T140.setTop (mkF m 218 #[.val (.int i), .val (.int j), .val (.int k), .val (.int o), .val (.int (3 : Int32)), .val (.int qe), .val (.int c1), .val (.int c2), .val (.ref b112), .val (.ref b119), .val (.int (5 : Int32)), .val (.ref la124)] []))
      refine Go.st (fun _ kt => XS.aload X140.here hx rfl (hb hby at_218) rfl rfl kt) ?_
      show Go p e below _ (T140.setTop (mkF m 220 #[.val (.int i), .val (.int j), .val (.int k), .val (.int o), .val (.int (3 : Int32)), .val (.int qe), .val (.int c1), .val (.int c2), .val (.ref b112), .val (.ref b119), .val (.int (5 : Int32)), .val (.ref la124)] [(.ref la124)]))
      refine Go.st (fun _ kt => XS.iload X140.here hx rfl (hb hby at_220) rfl kt) ?_
      show Go p e below _ (T140.setTop (mkF m 222 #[.val (.int i), .val (.int j), .val (.int k), .val (.int o), .val (.int (3 : Int32)), .val (.int qe), .val (.int c1), .val (.int c2), .val (.ref b112), .val (.ref b119), .val (.int (5 : Int32)), .val (.ref la124)] [(.int (3 : Int32)), (.ref la124)]))
      refine Go.st (fun _ kt => XS.iload X140.here hx rfl (hb hby at_222) rfl kt) ?_
      show Go p e below _ (T140.setTop (mkF m 224 #[.val (.int i), .val (.int j), .val (.int k), .val (.int o), .val (.int (3 : Int32)), .val (.int qe), .val (.int c1), .val (.int c2), .val (.ref b112), .val (.ref b119), .val (.int (5 : Int32)), .val (.ref la124)] [(.int c1), (.int (3 : Int32)), (.ref la124)]))
      obtain ⟨_, _, ⟨T147, L147, k147, n147⟩, -, X147, ⟨Lc147, hQ147, l147, y147, z147⟩, st147⟩ := Jvm.LawKit.callS X140 hx (y := (⟨"com/example/rowsieve/rowsieve/format/GrowingBytesPutLittleEndianPinLaw", "readsBack", "([BIC)Z"⟩ : MethodName)) hown (mvT hZ (hw _ (List.mem_of_getElem? (i := 71) rfl))) (mvT hZ (hw _ (List.mem_of_getElem? (i := 72) rfl))) (mvT hZ (hw _ (List.mem_of_getElem? (i := 73) rfl))) (mvT hZ (hw _ (List.mem_of_getElem? (i := 74) rfl))) (by decide) (backOf (W := 0) (rm11 l Z a0 hw [] la124 (3 : Int32) c1 kl124 sz [(.int (90 : Int32)), (.int (-91 : Int32)), (.int (60 : Int32)), (.int ((c1.toInt8.toInt32).toInt8.toInt32)), (.int ((((c1.toUInt32 >>> ((8 : Int32) &&& 31).toUInt32).toInt32).toInt8.toInt32).toInt8.toInt32)), (.int ((c2.toInt8.toInt32).toInt8.toInt32)), (.int ((((c2.toUInt32 >>> ((8 : Int32) &&& 31).toUInt32).toInt32).toInt8.toInt32).toInt8.toInt32))] T134.heap n0 Zs134 G134_5 (own_lit hz.1 (by decide)) (own_lit hz.1 (by decide)) rfl rfl hb_c1) hZ (hw _ (List.mem_of_getElem? (i := 74) rfl)) (hw _ (List.mem_of_getElem? (i := 73) rfl)) (by decide) (by decide)) (g := (mkF m 224 #[.val (.int i), .val (.int j), .val (.int k), .val (.int o), .val (.int (3 : Int32)), .val (.int qe), .val (.int c1), .val (.int c2), .val (.ref b112), .val (.ref b119), .val (.int (5 : Int32)), .val (.ref la124)] [(.int c1), (.int (3 : Int32)), (.ref la124)])) rfl (by rw [hml]; rfl) (argsL := [(.ref la124), (.int (3 : Int32)), (.int c1)]) (rest := []) (lenOf own_pd9 rfl) rfl (by show 2 * 0 + _ ≤ _; exact Nat.le_of_eq rfl) (hb hby at_224) (fun _ _ => ⟨rfl, e140, (by decide : 5 + 0 ≤ _), (by decide : 34 + 0 ≤ _)⟩)
      dsimp only [Pt.U, Pt.locs, Pt.cells, Pt.slots] at X147 l147 y147 z147 st147 hQ147
      subst l147 y147 z147
      obtain ⟨rfl, N147q, e147⟩ := hQ147
      have N147 := Fr.app N140 N147q
      refine Go.st st147 ?_
      show Go p e below _ (T147.setTop (mkF m 227 #[.val (.int i), .val (.int j), .val (.int k), .val (.int o), .val (.int (3 : Int32)), .val (.int qe), .val (.int c1), .val (.int c2), .val (.ref b112), .val (.ref b119), .val (.int (5 : Int32)), .val (.ref la124)] [(.int (1 : Int32))]))
      refine Go.st (fun _ kt => XS.ifNo X147.here hx rfl (hb hby at_227) rfl ((if0 _ _).trans (feq (by decide : ¬ ((1 : Int32) = (0 : Int32)))).1) kt) ?_
      show Go p e below _ (T147.setTop (mkF m 230 #[.val (.int i), .val (.int j), .val (.int k), .val (.int o), .val (.int (3 : Int32)), .val (.int qe), .val (.int c1), .val (.int c2), .val (.ref b112), .val (.ref b119), .val (.int (5 : Int32)), .val (.ref la124)] []))
      refine Go.st (fun _ kt => XS.aload X147.here hx rfl (hb hby at_230) rfl rfl kt) ?_
      show Go p e below _ (T147.setTop (mkF m 232 #[.val (.int i), .val (.int j), .val (.int k), .val (.int o), .val (.int (3 : Int32)), .val (.int qe), .val (.int c1), .val (.int c2), .val (.ref b112), .val (.ref b119), .val (.int (5 : Int32)), .val (.ref la124)] [(.ref la124)]))
      refine Go.st (fun _ kt => XS.iload X147.here hx rfl (hb hby at_232) rfl kt) ?_
      show Go p e below _ (T147.setTop (mkF m 234 #[.val (.int i), .val (.int j), .val (.int k), .val (.int o), .val (.int (3 : Int32)), .val (.int qe), .val (.int c1), .val (.int c2), .val (.ref b112), .val (.ref b119), .val (.int (5 : Int32)), .val (.ref la124)] [(.int (3 : Int32)), (.ref la124)]))
      refine Go.st (fun _ kt => XS.iconst X147.here hx rfl (hb hby at_234) kt) ?_
      show Go p e below _ (T147.setTop (mkF m 235 #[.val (.int i), .val (.int j), .val (.int k), .val (.int o), .val (.int (3 : Int32)), .val (.int qe), .val (.int c1), .val (.int c2), .val (.ref b112), .val (.ref b119), .val (.int (5 : Int32)), .val (.ref la124)] [(.int (2 : Int32)), (.int (3 : Int32)), (.ref la124)]))
      refine Go.st (fun _ kt => XS.iadd X147.here hx rfl (hb hby at_235) rfl kt) ?_
      show Go p e below _ (T147.setTop (mkF m 236 #[.val (.int i), .val (.int j), .val (.int k), .val (.int o), .val (.int (3 : Int32)), .val (.int qe), .val (.int c1), .val (.int c2), .val (.ref b112), .val (.ref b119), .val (.int (5 : Int32)), .val (.ref la124)] [(.int (5 : Int32)), (.ref la124)]))
      refine Go.st (fun _ kt => XS.iload X147.here hx rfl (hb hby at_236) rfl kt) ?_
      show Go p e below _ (T147.setTop (mkF m 238 #[.val (.int i), .val (.int j), .val (.int k), .val (.int o), .val (.int (3 : Int32)), .val (.int qe), .val (.int c1), .val (.int c2), .val (.ref b112), .val (.ref b119), .val (.int (5 : Int32)), .val (.ref la124)] [(.int c2), (.int (5 : Int32)), (.ref la124)]))
      obtain ⟨_, _, ⟨T148, L148, k148, n148⟩, -, X148, ⟨Lc148, hQ148, l148, y148, z148⟩, st148⟩ := Jvm.LawKit.callS X147 hx (y := (⟨"com/example/rowsieve/rowsieve/format/GrowingBytesPutLittleEndianPinLaw", "readsBack", "([BIC)Z"⟩ : MethodName)) hown (mvT hZ (hw _ (List.mem_of_getElem? (i := 71) rfl))) (mvT hZ (hw _ (List.mem_of_getElem? (i := 72) rfl))) (mvT hZ (hw _ (List.mem_of_getElem? (i := 73) rfl))) (mvT hZ (hw _ (List.mem_of_getElem? (i := 74) rfl))) (by decide) (backOf (W := 0) (rm11 l Z a0 hw [] la124 (5 : Int32) c2 kl124 sz [(.int (90 : Int32)), (.int (-91 : Int32)), (.int (60 : Int32)), (.int ((c1.toInt8.toInt32).toInt8.toInt32)), (.int ((((c1.toUInt32 >>> ((8 : Int32) &&& 31).toUInt32).toInt32).toInt8.toInt32).toInt8.toInt32)), (.int ((c2.toInt8.toInt32).toInt8.toInt32)), (.int ((((c2.toUInt32 >>> ((8 : Int32) &&& 31).toUInt32).toInt32).toInt8.toInt32).toInt8.toInt32))] T134.heap n0 Zs134 G134_5 (own_lit hz.1 (by decide)) (own_lit hz.1 (by decide)) rfl rfl hb_c2) hZ (hw _ (List.mem_of_getElem? (i := 74) rfl)) (hw _ (List.mem_of_getElem? (i := 73) rfl)) (by decide) (by decide)) (g := (mkF m 238 #[.val (.int i), .val (.int j), .val (.int k), .val (.int o), .val (.int (3 : Int32)), .val (.int qe), .val (.int c1), .val (.int c2), .val (.ref b112), .val (.ref b119), .val (.int (5 : Int32)), .val (.ref la124)] [(.int c2), (.int (5 : Int32)), (.ref la124)])) rfl (by rw [hml]; rfl) (argsL := [(.ref la124), (.int (5 : Int32)), (.int c2)]) (rest := []) (lenOf own_pd9 rfl) rfl (by show 2 * 0 + _ ≤ _; exact Nat.le_of_eq rfl) (hb hby at_238) (fun _ _ => ⟨rfl, e147, (by decide : 5 + 0 ≤ _), (by decide : 34 + 0 ≤ _)⟩)
      dsimp only [Pt.U, Pt.locs, Pt.cells, Pt.slots] at X148 l148 y148 z148 st148 hQ148
      subst l148 y148 z148
      obtain ⟨rfl, N148q, e148⟩ := hQ148
      have N148 := Fr.app N147 N148q
      refine Go.st st148 ?_
      show Go p e below _ (T148.setTop (mkF m 241 #[.val (.int i), .val (.int j), .val (.int k), .val (.int o), .val (.int (3 : Int32)), .val (.int qe), .val (.int c1), .val (.int c2), .val (.ref b112), .val (.ref b119), .val (.int (5 : Int32)), .val (.ref la124)] [(.int (1 : Int32))]))
      refine Go.st (fun _ kt => XS.ifNo X148.here hx rfl (hb hby at_241) rfl ((if0 _ _).trans (feq (by decide : ¬ ((1 : Int32) = (0 : Int32)))).1) kt) ?_
      show Go p e below _ (T148.setTop (mkF m 244 #[.val (.int i), .val (.int j), .val (.int k), .val (.int o), .val (.int (3 : Int32)), .val (.int qe), .val (.int c1), .val (.int c2), .val (.ref b112), .val (.ref b119), .val (.int (5 : Int32)), .val (.ref la124)] []))
      refine Go.st (fun _ kt => XS.iconst X148.here hx rfl (hb hby at_244) kt) ?_
      show Go p e below _ (T148.setTop (mkF m 245 #[.val (.int i), .val (.int j), .val (.int k), .val (.int o), .val (.int (3 : Int32)), .val (.int qe), .val (.int c1), .val (.int c2), .val (.ref b112), .val (.ref b119), .val (.int (5 : Int32)), .val (.ref la124)] [(.int (1 : Int32))]))
      refine Go.st (fun _ kt => XS.goto X148.here hx rfl (pc0 := 245) (pc' := 249) rfl (hb hby at_245) (by decide) (by decide) kt) ?_
      show Go p e below _ (T148.setTop (mkF m 249 #[.val (.int i), .val (.int j), .val (.int k), .val (.int o), .val (.int (3 : Int32)), .val (.int qe), .val (.int c1), .val (.int c2), .val (.ref b112), .val (.ref b119), .val (.int (5 : Int32)), .val (.ref la124)] [(.int (1 : Int32))]))
      refine Go.retN X148 hx (t := .boolean) Bd.returns (by simp) (BodyLoose.notSynchronized Bd) (hb hby at_249) (Q := (Q_rm0 Z i j k o h0 n0)) (by decide) (by decide) ?_
      show (Q_rm0 Z i j k o h0 n0) _ T148.heap _
      rw [e148]
      exact ⟨rfl, N148⟩
    · refine Go.st (fun _ kt => XS.ifYes X140.here hx rfl (pc0 := 203) (pc' := 218) rfl (hb hby at_203) rfl ((if0 _ _).trans (flt hc203_145).2.2.2) (by decide) (by decide) kt) ?_
      show Go p e below _ (T140.setTop (mkF m 218 #[.val (.int i), .val (.int j), .val (.int k), .val (.int o), .val (.int (3 : Int32)), .val (.int qe), .val (.int c1), .val (.int c2), .val (.ref b112), .val (.ref b119), .val (.int (5 : Int32)), .val (.ref la124)] []))
      refine Go.st (fun _ kt => XS.aload X140.here hx rfl (hb hby at_218) rfl rfl kt) ?_
      show Go p e below _ (T140.setTop (mkF m 220 #[.val (.int i), .val (.int j), .val (.int k), .val (.int o), .val (.int (3 : Int32)), .val (.int qe), .val (.int c1), .val (.int c2), .val (.ref b112), .val (.ref b119), .val (.int (5 : Int32)), .val (.ref la124)] [(.ref la124)]))
      refine Go.st (fun _ kt => XS.iload X140.here hx rfl (hb hby at_220) rfl kt) ?_
      show Go p e below _ (T140.setTop (mkF m 222 #[.val (.int i), .val (.int j), .val (.int k), .val (.int o), .val (.int (3 : Int32)), .val (.int qe), .val (.int c1), .val (.int c2), .val (.ref b112), .val (.ref b119), .val (.int (5 : Int32)), .val (.ref la124)] [(.int (3 : Int32)), (.ref la124)]))
      refine Go.st (fun _ kt => XS.iload X140.here hx rfl (hb hby at_222) rfl kt) ?_
      show Go p e below _ (T140.setTop (mkF m 224 #[.val (.int i), .val (.int j), .val (.int k), .val (.int o), .val (.int (3 : Int32)), .val (.int qe), .val (.int c1), .val (.int c2), .val (.ref b112), .val (.ref b119), .val (.int (5 : Int32)), .val (.ref la124)] [(.int c1), (.int (3 : Int32)), (.ref la124)]))
      obtain ⟨_, _, ⟨T149, L149, k149, n149⟩, -, X149, ⟨Lc149, hQ149, l149, y149, z149⟩, st149⟩ := Jvm.LawKit.callS X140 hx (y := (⟨"com/example/rowsieve/rowsieve/format/GrowingBytesPutLittleEndianPinLaw", "readsBack", "([BIC)Z"⟩ : MethodName)) hown (mvT hZ (hw _ (List.mem_of_getElem? (i := 71) rfl))) (mvT hZ (hw _ (List.mem_of_getElem? (i := 72) rfl))) (mvT hZ (hw _ (List.mem_of_getElem? (i := 73) rfl))) (mvT hZ (hw _ (List.mem_of_getElem? (i := 74) rfl))) (by decide) (backOf (W := 0) (rm11 l Z a0 hw [] la124 (3 : Int32) c1 kl124 sz [(.int (90 : Int32)), (.int (-91 : Int32)), (.int (60 : Int32)), (.int ((c1.toInt8.toInt32).toInt8.toInt32)), (.int ((((c1.toUInt32 >>> ((8 : Int32) &&& 31).toUInt32).toInt32).toInt8.toInt32).toInt8.toInt32)), (.int ((c2.toInt8.toInt32).toInt8.toInt32)), (.int ((((c2.toUInt32 >>> ((8 : Int32) &&& 31).toUInt32).toInt32).toInt8.toInt32).toInt8.toInt32))] T134.heap n0 Zs134 G134_5 (own_lit hz.1 (by decide)) (own_lit hz.1 (by decide)) rfl rfl hb_c1) hZ (hw _ (List.mem_of_getElem? (i := 74) rfl)) (hw _ (List.mem_of_getElem? (i := 73) rfl)) (by decide) (by decide)) (g := (mkF m 224 #[.val (.int i), .val (.int j), .val (.int k), .val (.int o), .val (.int (3 : Int32)), .val (.int qe), .val (.int c1), .val (.int c2), .val (.ref b112), .val (.ref b119), .val (.int (5 : Int32)), .val (.ref la124)] [(.int c1), (.int (3 : Int32)), (.ref la124)])) rfl (by rw [hml]; rfl) (argsL := [(.ref la124), (.int (3 : Int32)), (.int c1)]) (rest := []) (lenOf own_pd9 rfl) rfl (by show 2 * 0 + _ ≤ _; exact Nat.le_of_eq rfl) (hb hby at_224) (fun _ _ => ⟨rfl, e140, (by decide : 5 + 0 ≤ _), (by decide : 34 + 0 ≤ _)⟩)
      dsimp only [Pt.U, Pt.locs, Pt.cells, Pt.slots] at X149 l149 y149 z149 st149 hQ149
      subst l149 y149 z149
      obtain ⟨rfl, N149q, e149⟩ := hQ149
      have N149 := Fr.app N140 N149q
      refine Go.st st149 ?_
      show Go p e below _ (T149.setTop (mkF m 227 #[.val (.int i), .val (.int j), .val (.int k), .val (.int o), .val (.int (3 : Int32)), .val (.int qe), .val (.int c1), .val (.int c2), .val (.ref b112), .val (.ref b119), .val (.int (5 : Int32)), .val (.ref la124)] [(.int (1 : Int32))]))
      refine Go.st (fun _ kt => XS.ifNo X149.here hx rfl (hb hby at_227) rfl ((if0 _ _).trans (feq (by decide : ¬ ((1 : Int32) = (0 : Int32)))).1) kt) ?_
      show Go p e below _ (T149.setTop (mkF m 230 #[.val (.int i), .val (.int j), .val (.int k), .val (.int o), .val (.int (3 : Int32)), .val (.int qe), .val (.int c1), .val (.int c2), .val (.ref b112), .val (.ref b119), .val (.int (5 : Int32)), .val (.ref la124)] []))
      refine Go.st (fun _ kt => XS.aload X149.here hx rfl (hb hby at_230) rfl rfl kt) ?_
      show Go p e below _ (T149.setTop (mkF m 232 #[.val (.int i), .val (.int j), .val (.int k), .val (.int o), .val (.int (3 : Int32)), .val (.int qe), .val (.int c1), .val (.int c2), .val (.ref b112), .val (.ref b119), .val (.int (5 : Int32)), .val (.ref la124)] [(.ref la124)]))
      refine Go.st (fun _ kt => XS.iload X149.here hx rfl (hb hby at_232) rfl kt) ?_
      show Go p e below _ (T149.setTop (mkF m 234 #[.val (.int i), .val (.int j), .val (.int k), .val (.int o), .val (.int (3 : Int32)), .val (.int qe), .val (.int c1), .val (.int c2), .val (.ref b112), .val (.ref b119), .val (.int (5 : Int32)), .val (.ref la124)] [(.int (3 : Int32)), (.ref la124)]))
      refine Go.st (fun _ kt => XS.iconst X149.here hx rfl (hb hby at_234) kt) ?_
      show Go p e below _ (T149.setTop (mkF m 235 #[.val (.int i), .val (.int j), .val (.int k), .val (.int o), .val (.int (3 : Int32)), .val (.int qe), .val (.int c1), .val (.int c2), .val (.ref b112), .val (.ref b119), .val (.int (5 : Int32)), .val (.ref la124)] [(.int (2 : Int32)), (.int (3 : Int32)), (.ref la124)]))
      refine Go.st (fun _ kt => XS.iadd X149.here hx rfl (hb hby at_235) rfl kt) ?_
      show Go p e below _ (T149.setTop (mkF m 236 #[.val (.int i), .val (.int j), .val (.int k), .val (.int o), .val (.int (3 : Int32)), .val (.int qe), .val (.int c1), .val (.int c2), .val (.ref b112), .val (.ref b119), .val (.int (5 : Int32)), .val (.ref la124)] [(.int (5 : Int32)), (.ref la124)]))
      refine Go.st (fun _ kt => XS.iload X149.here hx rfl (hb hby at_236) rfl kt) ?_
      show Go p e below _ (T149.setTop (mkF m 238 #[.val (.int i), .val (.int j), .val (.int k), .val (.int o), .val (.int (3 : Int32)), .val (.int qe), .val (.int c1), .val (.int c2), .val (.ref b112), .val (.ref b119), .val (.int (5 : Int32)), .val (.ref la124)] [(.int c2), (.int (5 : Int32)), (.ref la124)]))
      obtain ⟨_, _, ⟨T150, L150, k150, n150⟩, -, X150, ⟨Lc150, hQ150, l150, y150, z150⟩, st150⟩ := Jvm.LawKit.callS X149 hx (y := (⟨"com/example/rowsieve/rowsieve/format/GrowingBytesPutLittleEndianPinLaw", "readsBack", "([BIC)Z"⟩ : MethodName)) hown (mvT hZ (hw _ (List.mem_of_getElem? (i := 71) rfl))) (mvT hZ (hw _ (List.mem_of_getElem? (i := 72) rfl))) (mvT hZ (hw _ (List.mem_of_getElem? (i := 73) rfl))) (mvT hZ (hw _ (List.mem_of_getElem? (i := 74) rfl))) (by decide) (backOf (W := 0) (rm11 l Z a0 hw [] la124 (5 : Int32) c2 kl124 sz [(.int (90 : Int32)), (.int (-91 : Int32)), (.int (60 : Int32)), (.int ((c1.toInt8.toInt32).toInt8.toInt32)), (.int ((((c1.toUInt32 >>> ((8 : Int32) &&& 31).toUInt32).toInt32).toInt8.toInt32).toInt8.toInt32)), (.int ((c2.toInt8.toInt32).toInt8.toInt32)), (.int ((((c2.toUInt32 >>> ((8 : Int32) &&& 31).toUInt32).toInt32).toInt8.toInt32).toInt8.toInt32))] T134.heap n0 Zs134 G134_5 (own_lit hz.1 (by decide)) (own_lit hz.1 (by decide)) rfl rfl hb_c2) hZ (hw _ (List.mem_of_getElem? (i := 74) rfl)) (hw _ (List.mem_of_getElem? (i := 73) rfl)) (by decide) (by decide)) (g := (mkF m 238 #[.val (.int i), .val (.int j), .val (.int k), .val (.int o), .val (.int (3 : Int32)), .val (.int qe), .val (.int c1), .val (.int c2), .val (.ref b112), .val (.ref b119), .val (.int (5 : Int32)), .val (.ref la124)] [(.int c2), (.int (5 : Int32)), (.ref la124)])) rfl (by rw [hml]; rfl) (argsL := [(.ref la124), (.int (5 : Int32)), (.int c2)]) (rest := []) (lenOf own_pd9 rfl) rfl (by show 2 * 0 + _ ≤ _; exact Nat.le_of_eq rfl) (hb hby at_238) (fun _ _ => ⟨rfl, e149, (by decide : 5 + 0 ≤ _), (by decide : 34 + 0 ≤ _)⟩)
      dsimp only [Pt.U, Pt.locs, Pt.cells, Pt.slots] at X150 l150 y150 z150 st150 hQ150
      subst l150 y150 z150
      obtain ⟨rfl, N150q, e150⟩ := hQ150
      have N150 := Fr.app N149 N150q
      refine Go.st st150 ?_
      show Go p e below _ (T150.setTop (mkF m 241 #[.val (.int i), .val (.int j), .val (.int k), .val (.int o), .val (.int (3 : Int32)), .val (.int qe), .val (.int c1), .val (.int c2), .val (.ref b112), .val (.ref b119), .val (.int (5 : Int32)), .val (.ref la124)] [(.int (1 : Int32))]))
      refine Go.st (fun _ kt => XS.ifNo X150.here hx rfl (hb hby at_241) rfl ((if0 _ _).trans (feq (by decide : ¬ ((1 : Int32) = (0 : Int32)))).1) kt) ?_
      show Go p e below _ (T150.setTop (mkF m 244 #[.val (.int i), .val (.int j), .val (.int k), .val (.int o), .val (.int (3 : Int32)), .val (.int qe), .val (.int c1), .val (.int c2), .val (.ref b112), .val (.ref b119), .val (.int (5 : Int32)), .val (.ref la124)] []))
      refine Go.st (fun _ kt => XS.iconst X150.here hx rfl (hb hby at_244) kt) ?_
      show Go p e below _ (T150.setTop (mkF m 245 #[.val (.int i), .val (.int j), .val (.int k), .val (.int o), .val (.int (3 : Int32)), .val (.int qe), .val (.int c1), .val (.int c2), .val (.ref b112), .val (.ref b119), .val (.int (5 : Int32)), .val (.ref la124)] [(.int (1 : Int32))]))
      refine Go.st (fun _ kt => XS.goto X150.here hx rfl (pc0 := 245) (pc' := 249) rfl (hb hby at_245) (by decide) (by decide) kt) ?_
      show Go p e below _ (T150.setTop (mkF m 249 #[.val (.int i), .val (.int j), .val (.int k), .val (.int o), .val (.int (3 : Int32)), .val (.int qe), .val (.int c1), .val (.int c2), .val (.ref b112), .val (.ref b119), .val (.int (5 : Int32)), .val (.ref la124)] [(.int (1 : Int32))]))
      refine Go.retN X150 hx (t := .boolean) Bd.returns (by simp) (BodyLoose.notSynchronized Bd) (hb hby at_249) (Q := (Q_rm0 Z i j k o h0 n0)) (by decide) (by decide) ?_
      show (Q_rm0 Z i j k o h0 n0) _ T150.heap _
      rw [e150]
      exact ⟨rfl, N150⟩
set_option maxRecDepth 65536 in
set_option maxHeartbeats 40000000 in
theorem comes_1 {Post : Tables → Env → Array Value → State → Outcome → State → Prop} (hpost : ∀ tb e args s v u, (limb_1_1.after args s (.returned v) u = true ∧ limb_1_2.after args s (.returned v) u = true ∧ True) → FrameEnd s (.returned v) u (Jvm.fieldLocs frame_1_writes args s ++ Jvm.arrayLocs frame_1_arrays args s ++ Jvm.staticLocs frame_1_statics s) 24 128 → Post tb e args s (.returned v) u) :
    ArmFor flags0 classFile x code maxLocals ret World_1 tables_1 room_1 Calls_1 rest_1 Pre_1 Post := by
  intro l hfl _ _ p e ha hc hk s m args below hf hA hF happ hP
  obtain ⟨hcalls, hrest, hpre⟩ := hP
  obtain ⟨-, -, -, hnamed, -, -, -, hat⟩ := (Spec.applies_iff hf).mp happ
  obtain ⟨hg, hn⟩ := and_e (Cond.before_iff.mp (show (Jvm.Cond.and given_1 narrow_1).before args s = true from hpre))
  obtain ⟨g1, g2⟩ := and_e hg
  obtain ⟨g3, g4⟩ := and_e g2
  obtain ⟨g5, g6⟩ := and_e g4
  obtain ⟨g7, g8⟩ := and_e g6
  obtain ⟨w0, w1, w2, w3, rfl⟩ : ∃ w0 w1 w2 w3 : Value, args = #[w0, w1, w2, w3] := by
    have hs : args.size = 4 := by simpa [Cond.value, given_1] using g1
    obtain ⟨L⟩ := args
    match L, hs with
    | [w0, w1, w2, w3], _ => exact ⟨w0, w1, w2, w3, rfl⟩
  have hw := fun d (hd : d ∈ tables_1) => atoms_spec (ws := Jvm.Cond.code x code maxLocals ret :: tables_1) hat d (List.mem_cons_of_mem _ hd)
  have hfit : Fit s := fun {y c} hc i hi => by
    obtain ⟨ha, rfl⟩ := Array.getElem?_eq_some_iff.mp hc
    have q := List.all_eq_true.mp ((Array.all_eq_true_iff_forall_mem.mp hF) _ (Array.getElem_mem ha)) i (List.mem_range.mpr hi)
    simpa [Array.getElem?_eq_getElem hi] using q
  obtain ⟨i0, ei0⟩ := is_v g3
  obtain rfl : w0 = (.int i0) := Option.some.inj ei0
  obtain ⟨i1, ei1⟩ := is_v g5
  obtain rfl : w1 = (.int i1) := Option.some.inj ei1
  obtain ⟨i2, ei2⟩ := is_v g7
  obtain rfl : w2 = (.int i2) := Option.some.inj ei2
  obtain ⟨i3, ei3⟩ := is_v g8
  obtain rfl : w3 = (.int i3) := Option.some.inj ei3
  obtain ⟨n, o, h1, h2, h3, _, L, rfl, ⟨rfl, N⟩, hq⟩ := rm0 l s _ hw tables_1 i0 i1 i2 i3 s.heap s.heap.size (Nat.le_refl _) p e ha hc hk s m _ below hf ((Spec.applies_iff_loose hf).mp happ).1 ⟨rfl, State.Warmed39.refl s, rfl⟩ trivial
  refine ⟨n, _, h1, h2, h3, hpost _ _ _ _ _ _ ⟨Cond.after_iff.mpr rfl, Cond.after_iff.mpr (eq_i res_at (Term.int_eval (1)) rfl), trivial⟩ ⟨hq.1, hq.2.1, (hq.2.2.sift fun y hy => Or.inr (N y hy)).mono (by decide) (by decide)⟩⟩
theorem main_1_1 : Claimed_1_1 := comes_1 fun _ _ _ _ _ _ h hF => ⟨h.1, hF⟩
theorem main_1_2 : Claimed_1_2 := comes_1 fun _ _ _ _ _ _ h hF => ⟨h.2.1, hF⟩
end Jvm.Pilot.@@N@@
namespace Jvm.Pilot.@@N@@
open Jvm Jvm.ClassFile Sem Op Lib Jvm.Free Jvm.Stand Jvm.Pilot.@@N@@.Jvm.D
/-! MADE BY PROGRAM (witnessworld.py) out of the Statement's table words and the real class files: 11 classes; the members and pool entries that the words name. The judged class is class 1, her method 2. -/
namespace start1
open Jvm.ClassFile
def u (s : String) : CpInfo := .utf8 (stringToUtf16 s)
/-- a pool by its gaps: so many unusable entries, then the entry; so many at the end -/
def gap : Nat → List CpInfo → List CpInfo
  | 0, r => r
  | n + 1, r => .unusable :: gap n r
def poolList (es : List (Nat × CpInfo)) (last : Nat) : List CpInfo := es.foldr (fun e r => gap e.1 (e.2 :: r)) (gap last [])
def pool (es : List (Nat × CpInfo)) (last : Nat) : Array CpInfo := ⟨poolList es last⟩
def fileOf (pool : Array CpInfo) (this : Nat) (attrs : Array Attribute := #[]) (ms : Array MethodInfo := #[]) (fl : Nat := 33) (sup : Nat := 0) (ifs : Array Nat := #[]) (fds : Array FieldInfo := #[]) : ClassFile where
  minorVersion := 0
  majorVersion := 65
  constantPool := pool
  accessFlags := fl
  thisClass := this
  superClass := sup
  interfaces := ifs
  fields := fds
  methods := ms
  attributes := attrs
def plain (name : String) (sup : Option ClassId) : Class where
  name := name
  kind := .ordinary
  loader := none
  accessFlags := 33
  super := sup
  interfaces := #[]
  cf := none
  fields := #[]
  methods := #[]
  instanceTypes := #[]
  staticTypes := #[]
  resolved := #[]
  callSites := []
  init := .initialized
  statics := none
  mirror := none

def pool0 : Array CpInfo := pool [(5, u "<init>"), (0, u "()V"), (1, .class_ 10), (1, u "java/lang/Object")] 113

def k0c0 : Code := { maxStack := 0, maxLocals := 1, code := object_method_1_code, exceptionTable := #[], attributes := #[] }
def k0m0 : Method := { name := "<init>", desc := "()V", sig := { parameters := [], returnType := none }, accessFlags := 1, code := some k0c0 }
/-- java/lang/Object -/
def k0 : Class := { plain "java/lang/Object" none with
  accessFlags := 33
  interfaces := #[]
  cf := some (fileOf pool0 8 #[] #[{ accessFlags := 1, nameIndex := 5, descriptorIndex := 6, attributes := #[] }] 33 0 #[] #[])
  fields := #[]
  methods := #[k0m0]
  instanceTypes := #[]
  staticTypes := #[]
  resolved := Array.replicate 124 none
  statics := none }

def pool1 : Array CpInfo := pool [(2, .class_ 4), (1, u "java/lang/Object"), (0, u "<init>"), (0, u "()V"), (0, .class_ 8), (0, u "com/example/rowsieve/rowsieve/format/GrowingBytes"), (0, .methodref 7 10), (0, .nameAndType 5 11), (0, u "(II)V"), (0, .methodref 7 13), (0, .nameAndType 14 15), (0, u "makeRoom"), (0, u "(I)V"), (0, .methodref 7 17), (0, .nameAndType 18 19), (0, u "put"), (0, u "([BII)V"), (0, .methodref 7 21), (0, .nameAndType 22 23), (0, u "putLittleEndian"), (0, u "(C)V"), (0, .methodref 7 25), (0, .nameAndType 26 27), (0, u "length"), (0, u "()I"), (0, .methodref 7 29), (0, .nameAndType 30 27), (0, u "segmentCount"), (0, .methodref 7 32), (0, .nameAndType 33 34), (0, u "segment"), (0, u "(I)[B"), (0, .methodref 36 37), (0, .class_ 38), (0, .nameAndType 39 40), (0, u "com/example/rowsieve/rowsieve/format/GrowingBytesPutLittleEndianPinLaw"), (0, u "readsBack"), (0, u "([BIC)Z"), (3, u "law"), (0, u "(IIII)Z")] 4

def k1m0 : Method := { name := "<init>", desc := "()V", sig := { parameters := [], returnType := none }, accessFlags := 1, code := none }
def k1c1 : Code := { maxStack := 3, maxLocals := 5, code := method_2_code, exceptionTable := #[], attributes := #[] }
def k1m1 : Method := { name := "readsBack", desc := "([BIC)Z", sig := { parameters := [(.array .byte), .int, .char], returnType := some .boolean }, accessFlags := 10, code := some k1c1 }
def k1c2 : Code := { maxStack := 4, maxLocals := 12, code := code, exceptionTable := #[], attributes := #[] }
def k1m2 : Method := { name := "law", desc := "(IIII)Z", sig := { parameters := [.int, .int, .int, .int], returnType := some .boolean }, accessFlags := 9, code := some k1c2 }
/-- com/example/rowsieve/rowsieve/format/GrowingBytesPutLittleEndianPinLaw -/
def k1 : Class := { plain "com/example/rowsieve/rowsieve/format/GrowingBytesPutLittleEndianPinLaw" (some 0) with
  accessFlags := 49
  interfaces := #[]
  cf := some (fileOf pool1 36 #[] #[{ accessFlags := 1, nameIndex := 5, descriptorIndex := 6, attributes := #[] }, { accessFlags := 10, nameIndex := 39, descriptorIndex := 40, attributes := #[] }, { accessFlags := 9, nameIndex := 44, descriptorIndex := 45, attributes := #[] }] 49 2 #[] #[])
  fields := #[]
  methods := #[k1m0, k1m1, k1m2]
  instanceTypes := #[]
  staticTypes := #[]
  resolved := Array.replicate 50 none
  statics := none }

def pool2 : Array CpInfo := pool [(1, .class_ 2), (0, u "com/example/rowsieve/rowsieve/format/GrowingBytes"), (3, u "<init>"), (0, u "(II)V"), (0, .methodref 9 10), (0, .class_ 11), (0, .nameAndType 6 12), (0, u "java/lang/Object"), (0, u "()V"), (0, .class_ 14), (0, u "[B"), (0, .fieldref 1 16), (0, .nameAndType 17 18), (0, u "segments"), (0, u "[[B"), (0, .fieldref 1 20), (0, .nameAndType 21 22), (0, u "bases"), (0, u "[I"), (0, .fieldref 1 24), (0, .nameAndType 25 26), (0, u "firstBytes"), (0, u "I"), (0, .fieldref 1 28), (0, .nameAndType 29 26), (0, u "segmentBytes"), (0, .fieldref 1 31), (0, .nameAndType 32 14), (0, u "last"), (0, .fieldref 1 34), (0, .nameAndType 35 26), (0, u "end"), (0, .methodref 1 37), (0, .nameAndType 38 39), (0, u "grow"), (0, u "(I)V"), (0, .methodref 41 42), (0, .class_ 43), (0, .nameAndType 44 45), (0, u "java/lang/Math"), (0, u "max"), (0, u "(II)I"), (9, .fieldref 1 56), (0, .nameAndType 57 26), (0, u "count"), (7, .methodref 1 66), (0, .nameAndType 67 68), (0, u "length"), (0, u "()I"), (0, .methodref 70 71), (0, .class_ 72), (0, .nameAndType 73 74), (0, u "java/lang/System"), (0, u "arraycopy"), (0, u "(Ljava/lang/Object;ILjava/lang/Object;II)V"), (28, u "put"), (16, u "SEGMENT_BYTES"), (3, u "makeRoom"), (1, u "([BII)V"), (0, u "putLittleEndian"), (0, u "(C)V"), (1, u "segmentCount"), (0, u "segment"), (0, u "(I)[B")] 10

def k2c0 : Code := { maxStack := 2, maxLocals := 3, code := prog_25_method_2_code, exceptionTable := #[], attributes := #[] }
def k2m0 : Method := { name := "<init>", desc := "(II)V", sig := { parameters := [.int, .int], returnType := none }, accessFlags := 1, code := some k2c0 }
def k2c1 : Code := { maxStack := 3, maxLocals := 2, code := prog_25_method_3_code, exceptionTable := #[], attributes := #[] }
def k2m1 : Method := { name := "makeRoom", desc := "(I)V", sig := { parameters := [.int], returnType := none }, accessFlags := 1, code := some k2c1 }
def k2c2 : Code := { maxStack := 6, maxLocals := 2, code := prog_25_method_4_code, exceptionTable := #[], attributes := #[] }
def k2m2 : Method := { name := "grow", desc := "(I)V", sig := { parameters := [.int], returnType := none }, accessFlags := 2, code := some k2c2 }
def k2c3 : Code := { maxStack := 5, maxLocals := 4, code := prog_25_method_5_code, exceptionTable := #[], attributes := #[] }
def k2m3 : Method := { name := "put", desc := "([BII)V", sig := { parameters := [(.array .byte), .int, .int], returnType := none }, accessFlags := 1, code := some k2c3 }
def k2c4 : Code := { maxStack := 5, maxLocals := 2, code := prog_25_method_6_code, exceptionTable := #[], attributes := #[] }
def k2m4 : Method := { name := "putLittleEndian", desc := "(C)V", sig := { parameters := [.char], returnType := none }, accessFlags := 1, code := some k2c4 }
def k2c5 : Code := { maxStack := 3, maxLocals := 1, code := prog_25_method_8_code, exceptionTable := #[], attributes := #[] }
def k2m5 : Method := { name := "length", desc := "()I", sig := { parameters := [], returnType := some .int }, accessFlags := 1, code := some k2c5 }
def k2c6 : Code := { maxStack := 1, maxLocals := 1, code := prog_25_method_10_code, exceptionTable := #[], attributes := #[] }
def k2m6 : Method := { name := "segmentCount", desc := "()I", sig := { parameters := [], returnType := some .int }, accessFlags := 1, code := some k2c6 }
def k2c7 : Code := { maxStack := 2, maxLocals := 2, code := prog_25_method_11_code, exceptionTable := #[], attributes := #[] }
def k2m7 : Method := { name := "segment", desc := "(I)[B", sig := { parameters := [.int], returnType := some (.array .byte) }, accessFlags := 1, code := some k2c7 }
/-- com/example/rowsieve/rowsieve/format/GrowingBytes -/
def k2 : Class := { plain "com/example/rowsieve/rowsieve/format/GrowingBytes" (some 0) with
  accessFlags := 49
  interfaces := #[]
  cf := some (fileOf pool2 1 #[] #[{ accessFlags := 1, nameIndex := 6, descriptorIndex := 7, attributes := #[] }, { accessFlags := 1, nameIndex := 124, descriptorIndex := 39, attributes := #[] }, { accessFlags := 2, nameIndex := 38, descriptorIndex := 39, attributes := #[] }, { accessFlags := 1, nameIndex := 103, descriptorIndex := 126, attributes := #[] }, { accessFlags := 1, nameIndex := 127, descriptorIndex := 128, attributes := #[] }, { accessFlags := 1, nameIndex := 67, descriptorIndex := 68, attributes := #[] }, { accessFlags := 1, nameIndex := 130, descriptorIndex := 68, attributes := #[] }, { accessFlags := 1, nameIndex := 131, descriptorIndex := 132, attributes := #[] }] 49 9 #[] #[{ accessFlags := 25, nameIndex := 120, descriptorIndex := 26, attributes := #[] }, { accessFlags := 18, nameIndex := 25, descriptorIndex := 26, attributes := #[] }, { accessFlags := 18, nameIndex := 29, descriptorIndex := 26, attributes := #[] }, { accessFlags := 2, nameIndex := 17, descriptorIndex := 18, attributes := #[] }, { accessFlags := 2, nameIndex := 21, descriptorIndex := 22, attributes := #[] }, { accessFlags := 2, nameIndex := 57, descriptorIndex := 26, attributes := #[] }, { accessFlags := 2, nameIndex := 32, descriptorIndex := 14, attributes := #[] }, { accessFlags := 2, nameIndex := 35, descriptorIndex := 26, attributes := #[] }])
  fields := #[{ name := "SEGMENT_BYTES", type := .int, accessFlags := 25, slot := 0, constantValue := 0 }, { name := "firstBytes", type := .int, accessFlags := 18, slot := 0, constantValue := 0 }, { name := "segmentBytes", type := .int, accessFlags := 18, slot := 1, constantValue := 0 }, { name := "segments", type := (.array (.array .byte)), accessFlags := 2, slot := 2, constantValue := 0 }, { name := "bases", type := (.array .int), accessFlags := 2, slot := 3, constantValue := 0 }, { name := "count", type := .int, accessFlags := 2, slot := 4, constantValue := 0 }, { name := "last", type := (.array .byte), accessFlags := 2, slot := 5, constantValue := 0 }, { name := "end", type := .int, accessFlags := 2, slot := 6, constantValue := 0 }]
  methods := #[k2m0, k2m1, k2m2, k2m3, k2m4, k2m5, k2m6, k2m7]
  instanceTypes := #[.int, .int, (.array (.array .byte)), (.array .int), .int, (.array .byte), .int]
  staticTypes := #[.int]
  resolved := Array.replicate 143 none
  statics := none }

def pool3 : Array CpInfo := pool [(1, .class_ 2), (0, u "java/lang/Math"), (1, .class_ 6), (1, u "java/lang/Object"), (0, u "<init>"), (0, u "()V"), (89, .class_ 100), (1, u "java/lang/Math$RandomNumberGeneratorHolder"), (71, u "negativeZeroFloatBits"), (0, u "J"), (2, u "negativeZeroDoubleBits"), (21, u "max"), (46, u "$assertionsDisabled"), (0, u "Z"), (88, u "(II)I"), (2, u "twoToTheDoubleScaleDown"), (0, u "D"), (4, u "twoToTheDoubleScaleUp"), (9, u "E"), (3, u "PI"), (2, u "TAU"), (2, u "DEGREES_TO_RADIANS"), (0, u "RADIANS_TO_DEGREES")] 94

def k3m0 : Method := { name := "<init>", desc := "()V", sig := { parameters := [], returnType := none }, accessFlags := 2, code := none }
def k3c1 : Code := { maxStack := 2, maxLocals := 2, code := jdk_29_method_65_code, exceptionTable := #[], attributes := #[] }
def k3m1 : Method := { name := "max", desc := "(II)I", sig := { parameters := [.int, .int], returnType := some .int }, accessFlags := 9, code := some k3c1 }
/-- java/lang/Math -/
def k3 : Class := { plain "java/lang/Math" (some 0) with
  accessFlags := 49
  interfaces := #[]
  cf := some (fileOf pool3 1 #[.nestMembers #[98]] #[{ accessFlags := 2, nameIndex := 7, descriptorIndex := 8, attributes := #[] }, { accessFlags := 9, nameIndex := 198, descriptorIndex := 335, attributes := #[] }] 49 4 #[] #[{ accessFlags := 25, nameIndex := 354, descriptorIndex := 339, attributes := #[] }, { accessFlags := 25, nameIndex := 358, descriptorIndex := 339, attributes := #[] }, { accessFlags := 25, nameIndex := 361, descriptorIndex := 339, attributes := #[] }, { accessFlags := 26, nameIndex := 364, descriptorIndex := 339, attributes := #[] }, { accessFlags := 26, nameIndex := 365, descriptorIndex := 339, attributes := #[] }, { accessFlags := 26, nameIndex := 172, descriptorIndex := 173, attributes := #[] }, { accessFlags := 26, nameIndex := 176, descriptorIndex := 173, attributes := #[] }, { accessFlags := 8, nameIndex := 344, descriptorIndex := 339, attributes := #[] }, { accessFlags := 8, nameIndex := 338, descriptorIndex := 339, attributes := #[] }, { accessFlags := 4120, nameIndex := 245, descriptorIndex := 246, attributes := #[] }])
  fields := #[{ name := "E", type := .double, accessFlags := 25, slot := 0, constantValue := 0 }, { name := "PI", type := .double, accessFlags := 25, slot := 1, constantValue := 0 }, { name := "TAU", type := .double, accessFlags := 25, slot := 2, constantValue := 0 }, { name := "DEGREES_TO_RADIANS", type := .double, accessFlags := 26, slot := 3, constantValue := 0 }, { name := "RADIANS_TO_DEGREES", type := .double, accessFlags := 26, slot := 4, constantValue := 0 }, { name := "negativeZeroFloatBits", type := .long, accessFlags := 26, slot := 5, constantValue := 0 }, { name := "negativeZeroDoubleBits", type := .long, accessFlags := 26, slot := 6, constantValue := 0 }, { name := "twoToTheDoubleScaleUp", type := .double, accessFlags := 8, slot := 7, constantValue := 0 }, { name := "twoToTheDoubleScaleDown", type := .double, accessFlags := 8, slot := 8, constantValue := 0 }, { name := "$assertionsDisabled", type := .boolean, accessFlags := 4120, slot := 9, constantValue := 0 }]
  methods := #[k3m0, k3m1]
  instanceTypes := #[]
  staticTypes := #[.double, .double, .double, .double, .double, .long, .long, .double, .double, .boolean]
  resolved := Array.replicate 460 none
  statics := none }

def pool4 : Array CpInfo := pool [(2, .class_ 4), (1, u "java/lang/Object"), (0, u "<init>"), (0, u "()V"), (1, .class_ 10), (1, u "java/lang/System"), (0, u "allowSecurityManager"), (0, u "I"), (16, u "cons"), (0, u "Ljava/io/Console;"), (77, .class_ 110), (1, u "java/lang/System$CallersHolder"), (43, u "initialErrStream"), (0, u "Ljava/io/PrintStream;"), (19, u "security"), (0, u "Ljava/lang/SecurityManager;"), (31, .class_ 209), (0, u "java/lang/System$1"), (7, u "props"), (0, u "Ljava/util/Properties;"), (2, u "lineSeparator"), (0, u "Ljava/lang/String;"), (96, .class_ 321), (1, u "java/lang/System$LoggerFinder"), (5, .class_ 328), (0, u "java/lang/System$Logger"), (67, u "err"), (2, u "out"), (91, u "notSupportedJnuEncoding"), (15, u "in"), (17, u "initialIn"), (0, u "Ljava/io/InputStream;"), (35, u "bootLayer"), (0, u "Ljava/lang/ModuleLayer;"), (99, .class_ 664), (0, u "java/lang/System$2"), (9, u "NEVER"), (2, u "MAYBE"), (49, u "arraycopy"), (0, u "(Ljava/lang/Object;ILjava/lang/Object;II)V"), (72, .class_ 802), (0, u "java/lang/System$Logger$Level")] 31

def k4m0 : Method := { name := "<init>", desc := "()V", sig := { parameters := [], returnType := none }, accessFlags := 2, code := none }
def k4m1 : Method := { name := "arraycopy", desc := "(Ljava/lang/Object;ILjava/lang/Object;II)V", sig := { parameters := [(.object "java/lang/Object"), .int, (.object "java/lang/Object"), .int, .int], returnType := none }, accessFlags := 265, code := none }
/-- java/lang/System -/
def k4 : Class := { plain "java/lang/System" (some 0) with
  accessFlags := 49
  interfaces := #[]
  cf := some (fileOf pool4 8 #[.nestMembers #[319, 327, 801, 108, 663, 208]] #[{ accessFlags := 2, nameIndex := 5, descriptorIndex := 6, attributes := #[] }, { accessFlags := 265, nameIndex := 727, descriptorIndex := 728, attributes := #[] }] 49 2 #[] #[{ accessFlags := 25, nameIndex := 507, descriptorIndex := 526, attributes := #[] }, { accessFlags := 25, nameIndex := 399, descriptorIndex := 155, attributes := #[] }, { accessFlags := 25, nameIndex := 396, descriptorIndex := 155, attributes := #[] }, { accessFlags := 10, nameIndex := 525, descriptorIndex := 526, attributes := #[] }, { accessFlags := 26, nameIndex := 674, descriptorIndex := 12, attributes := #[] }, { accessFlags := 26, nameIndex := 677, descriptorIndex := 12, attributes := #[] }, { accessFlags := 10, nameIndex := 11, descriptorIndex := 12, attributes := #[] }, { accessFlags := 74, nameIndex := 175, descriptorIndex := 176, attributes := #[] }, { accessFlags := 10, nameIndex := 491, descriptorIndex := 222, attributes := #[] }, { accessFlags := 74, nameIndex := 29, descriptorIndex := 30, attributes := #[] }, { accessFlags := 74, nameIndex := 154, descriptorIndex := 155, attributes := #[] }, { accessFlags := 10, nameIndex := 217, descriptorIndex := 218, attributes := #[] }, { accessFlags := 10, nameIndex := 221, descriptorIndex := 222, attributes := #[] }, { accessFlags := 8, nameIndex := 562, descriptorIndex := 563, attributes := #[] }])
  fields := #[{ name := "in", type := (.object "java/io/InputStream"), accessFlags := 25, slot := 0, constantValue := 0 }, { name := "out", type := (.object "java/io/PrintStream"), accessFlags := 25, slot := 1, constantValue := 0 }, { name := "err", type := (.object "java/io/PrintStream"), accessFlags := 25, slot := 2, constantValue := 0 }, { name := "initialIn", type := (.object "java/io/InputStream"), accessFlags := 10, slot := 3, constantValue := 0 }, { name := "NEVER", type := .int, accessFlags := 26, slot := 4, constantValue := 0 }, { name := "MAYBE", type := .int, accessFlags := 26, slot := 5, constantValue := 0 }, { name := "allowSecurityManager", type := .int, accessFlags := 10, slot := 6, constantValue := 0 }, { name := "security", type := (.object "java/lang/SecurityManager"), accessFlags := 74, slot := 7, constantValue := 0 }, { name := "notSupportedJnuEncoding", type := (.object "java/lang/String"), accessFlags := 10, slot := 8, constantValue := 0 }, { name := "cons", type := (.object "java/io/Console"), accessFlags := 74, slot := 9, constantValue := 0 }, { name := "initialErrStream", type := (.object "java/io/PrintStream"), accessFlags := 74, slot := 10, constantValue := 0 }, { name := "props", type := (.object "java/util/Properties"), accessFlags := 10, slot := 11, constantValue := 0 }, { name := "lineSeparator", type := (.object "java/lang/String"), accessFlags := 10, slot := 12, constantValue := 0 }, { name := "bootLayer", type := (.object "java/lang/ModuleLayer"), accessFlags := 8, slot := 13, constantValue := 0 }]
  methods := #[k4m0, k4m1]
  instanceTypes := #[]
  staticTypes := #[(.object "java/io/InputStream"), (.object "java/io/PrintStream"), (.object "java/io/PrintStream"), (.object "java/io/InputStream"), .int, .int, .int, (.object "java/lang/SecurityManager"), (.object "java/lang/String"), (.object "java/io/Console"), (.object "java/io/PrintStream"), (.object "java/util/Properties"), (.object "java/lang/String"), (.object "java/lang/ModuleLayer")]
  resolved := Array.replicate 834 none
  statics := none }

def pool5 : Array CpInfo := pool [(1, u "java/lang/Cloneable"), (0, .class_ 1), (0, u "java/lang/Object"), (0, .class_ 3)] 3

/-- java/lang/Cloneable -/
def k5 : Class := { plain "java/lang/Cloneable" (some 0) with
  accessFlags := 1537
  interfaces := #[]
  cf := some (fileOf pool5 2 #[] #[] 1537 4 #[] #[])
  fields := #[]
  methods := #[]
  instanceTypes := #[]
  staticTypes := #[]
  resolved := Array.replicate 8 none
  statics := none }

def pool6 : Array CpInfo := pool [(1, u "java/io/Serializable"), (0, .class_ 1), (0, u "java/lang/Object"), (0, .class_ 3)] 3

/-- java/io/Serializable -/
def k6 : Class := { plain "java/io/Serializable" (some 0) with
  accessFlags := 1537
  interfaces := #[]
  cf := some (fileOf pool6 2 #[] #[] 1537 4 #[] #[])
  fields := #[]
  methods := #[]
  instanceTypes := #[]
  staticTypes := #[]
  resolved := Array.replicate 8 none
  statics := none }

/-- the primitive byte -/
def k7 : Class := { plain "byte" none with kind := .primitive 'B', accessFlags := 0x411 }
/-- [B -/
def k8 : Class := { plain "[B" (some 0) with kind := .array 7 .byte, interfaces := #[5, 6], accessFlags := 1041 }

/-- the primitive int -/
def k9 : Class := { plain "int" none with kind := .primitive 'I', accessFlags := 0x411 }
/-- [I -/
def k10 : Class := { plain "[I" (some 0) with kind := .array 9 .int, interfaces := #[5, 6], accessFlags := 1041 }

def heap : Heap := #[]
def k11 : Class := { plain "[[B" (some 0) with kind := .array 8 (.array .byte), interfaces := #[5, 6], accessFlags := 1041 }
def classes : Array Class := #[k0, k1, k2, k3, k4, k5, k6, k7, k8, k9, k10, k11]
def interned : List (Array UInt16 × Addr) := []
def slotsUsed : Nat := 0
def theMethod : MethodId := ⟨1, 2⟩
def args0 : Array Value := #[.int 5, .int 6, .int 7, .int 8]
def aboutOver (below : List Frame) : State where
  vm := { classes := classes, interned := interned.toArray }
  heap := heap
  slotsUsed := slotsUsed
  threads := #[{ frames := .invoking theMethod args0 :: below }]
def below0 : List Frame := [.native { method := ⟨0, 0⟩, args := #[] }]
def about1 : State := aboutOver below0
def p0 : Program := .bare "" "" ""
def e0 : Env := launch0.env 0 0 0
theorem w_frames : about1.frames = Frame.invoking theMethod args0 :: below0 := rfl
set_option maxRecDepth 65536 in
theorem w_args : argsFit about1.vm theMethod args0 = true := by decide +kernel
set_option maxRecDepth 65536 in
theorem w_heap : heapFits about1 = true := by decide +kernel
set_option maxRecDepth 65536 in
theorem w_runnable : about1.curStatus? = some .runnable := by decide +kernel
set_option maxRecDepth 65536 in
theorem w_alone : about1.alone = true := by decide +kernel
set_option maxRecDepth 65536 in
theorem w_named : about1.methodNamed? x = some theMethod := by decide +kernel
set_option maxRecDepth 65536 in
theorem w_hears : about1.hears theMethod below0 = true := by decide +kernel
set_option maxRecDepth 65536 in
theorem w_ripe : about1.ripe theMethod args0 below0 = true := by decide +kernel
theorem w_running : about1.status = .running := rfl
set_option maxRecDepth 65536 in
theorem w_room : about1.hasRoom e0.platform room_1 = true :=
  launch0.hasRoom_least _ room_1 (by decide +kernel) (by decide +kernel) (by decide +kernel) (by decide +kernel) (by decide +kernel) (by decide +kernel)
theorem allAtoms_all (ts : List Jvm.Cond) (a : Array Jvm.Value) (st : Jvm.State) : (allAtoms ts).before a st = ts.all (fun c => c.before a st) := by
  induction ts with
  | nil => rfl
  | cons c t ih =>
    show (Jvm.Cond.and c (allAtoms t)).before a st = _
    rw [Jvm.Cond.before_and, ih, List.all_cons]
def words1 : List Jvm.Cond := Jvm.Cond.code x code maxLocals ret :: tables_1
/-- a 'code' word, met by the world's own term for the bytes: nothing is compared byte by byte -/
theorem code_word {y : MethodName} {bytes : ByteArray} {mx : Nat} {rt : Option FieldType} {a : Array Value} {s : State} {m : MethodId} {meth : Method} {c : Code} (h1 : s.methodNamed? y = some m) (h2 : s.vm.method? m = some meth) (h3 : meth.code = some c) (h4 : c.code = bytes)
    (h5 : (c.maxLocals == mx && c.exceptionTable.isEmpty && decide (c.maxStack ≤ mostOperands) && decide (meth.sig.returnType = rt) && !meth.locks && decide (parseMethodDescriptor y.desc = some meth.sig)) = true) : (Jvm.Cond.code y bytes mx rt).before a s = true := by
  simp only [Bool.and_eq_true, beq_iff_eq, Bool.not_eq_true', decide_eq_true_eq] at h5
  obtain ⟨⟨⟨⟨⟨g1, g2⟩, g3⟩, g4⟩, g5⟩, g6⟩ := h5
  simp [Cond.before, Cond.holds, Cond.value, h1, h2, h3, h4, g1, g2, g3, g4, g5, g6]
def isCode : Jvm.Cond → Bool
  | .code _ _ _ _ => true
  | _ => false
theorem all_split {L : List Jvm.Cond} {P : Jvm.Cond → Bool} (h1 : L.all (fun c => isCode c || P c) = true) (h2 : ∀ c ∈ L.filter isCode, P c = true) : L.all P = true := by
  refine List.all_eq_true.mpr fun c hc => ?_
  have h := List.all_eq_true.mp h1 c hc
  rcases Bool.eq_false_or_eq_true (isCode c) with hi | hi
  · exact h2 c (List.mem_filter.mpr ⟨hc, hi⟩)
  · simpa [hi] using h
set_option maxRecDepth 65536 in
theorem w_c0 : (Jvm.Cond.code x code maxLocals ret).before args0 about1 = true := code_word (m := ⟨1, 2⟩) (meth := k1m2) (c := k1c2) (by decide +kernel) rfl rfl rfl (by decide +kernel)
set_option maxRecDepth 65536 in
theorem w_c1 : (Jvm.Cond.code ({ cls := "com/example/rowsieve/rowsieve/format/GrowingBytes", name := "<init>", desc := "(II)V" } : Jvm.MethodName) prog_25_method_2_code (3 : Nat) (Option.none : Option Jvm.ClassFile.FieldType)).before args0 about1 = true := code_word (m := ⟨2, 0⟩) (meth := k2m0) (c := k2c0) (by decide +kernel) rfl rfl rfl (by decide +kernel)
set_option maxRecDepth 65536 in
theorem w_c2 : (Jvm.Cond.code ({ cls := "java/lang/Object", name := "<init>", desc := "()V" } : Jvm.MethodName) object_method_1_code (1 : Nat) (Option.none : Option Jvm.ClassFile.FieldType)).before args0 about1 = true := code_word (m := ⟨0, 0⟩) (meth := k0m0) (c := k0c0) (by decide +kernel) rfl rfl rfl (by decide +kernel)
set_option maxRecDepth 65536 in
theorem w_c3 : (Jvm.Cond.code ({ cls := "com/example/rowsieve/rowsieve/format/GrowingBytes", name := "makeRoom", desc := "(I)V" } : Jvm.MethodName) prog_25_method_3_code (2 : Nat) (Option.none : Option Jvm.ClassFile.FieldType)).before args0 about1 = true := code_word (m := ⟨2, 1⟩) (meth := k2m1) (c := k2c1) (by decide +kernel) rfl rfl rfl (by decide +kernel)
set_option maxRecDepth 65536 in
theorem w_c4 : (Jvm.Cond.code ({ cls := "com/example/rowsieve/rowsieve/format/GrowingBytes", name := "grow", desc := "(I)V" } : Jvm.MethodName) prog_25_method_4_code (2 : Nat) (Option.none : Option Jvm.ClassFile.FieldType)).before args0 about1 = true := code_word (m := ⟨2, 2⟩) (meth := k2m2) (c := k2c2) (by decide +kernel) rfl rfl rfl (by decide +kernel)
set_option maxRecDepth 65536 in
theorem w_c5 : (Jvm.Cond.code ({ cls := "com/example/rowsieve/rowsieve/format/GrowingBytes", name := "length", desc := "()I" } : Jvm.MethodName) prog_25_method_8_code (1 : Nat) (Option.some Jvm.ClassFile.FieldType.int)).before args0 about1 = true := code_word (m := ⟨2, 5⟩) (meth := k2m5) (c := k2c5) (by decide +kernel) rfl rfl rfl (by decide +kernel)
set_option maxRecDepth 65536 in
theorem w_c6 : (Jvm.Cond.code ({ cls := "java/lang/Math", name := "max", desc := "(II)I" } : Jvm.MethodName) jdk_29_method_65_code (2 : Nat) (Option.some Jvm.ClassFile.FieldType.int)).before args0 about1 = true := code_word (m := ⟨3, 1⟩) (meth := k3m1) (c := k3c1) (by decide +kernel) rfl rfl rfl (by decide +kernel)
set_option maxRecDepth 65536 in
theorem w_c7 : (Jvm.Cond.code ({ cls := "com/example/rowsieve/rowsieve/format/GrowingBytes", name := "put", desc := "([BII)V" } : Jvm.MethodName) prog_25_method_5_code (4 : Nat) (Option.none : Option Jvm.ClassFile.FieldType)).before args0 about1 = true := code_word (m := ⟨2, 3⟩) (meth := k2m3) (c := k2c3) (by decide +kernel) rfl rfl rfl (by decide +kernel)
set_option maxRecDepth 65536 in
theorem w_c8 : (Jvm.Cond.code ({ cls := "com/example/rowsieve/rowsieve/format/GrowingBytes", name := "putLittleEndian", desc := "(C)V" } : Jvm.MethodName) prog_25_method_6_code (2 : Nat) (Option.none : Option Jvm.ClassFile.FieldType)).before args0 about1 = true := code_word (m := ⟨2, 4⟩) (meth := k2m4) (c := k2c4) (by decide +kernel) rfl rfl rfl (by decide +kernel)
set_option maxRecDepth 65536 in
theorem w_c9 : (Jvm.Cond.code ({ cls := "com/example/rowsieve/rowsieve/format/GrowingBytes", name := "segmentCount", desc := "()I" } : Jvm.MethodName) prog_25_method_10_code (1 : Nat) (Option.some Jvm.ClassFile.FieldType.int)).before args0 about1 = true := code_word (m := ⟨2, 6⟩) (meth := k2m6) (c := k2c6) (by decide +kernel) rfl rfl rfl (by decide +kernel)
set_option maxRecDepth 65536 in
theorem w_c10 : (Jvm.Cond.code ({ cls := "com/example/rowsieve/rowsieve/format/GrowingBytes", name := "segment", desc := "(I)[B" } : Jvm.MethodName) prog_25_method_11_code (2 : Nat) (Option.some (Jvm.ClassFile.FieldType.array Jvm.ClassFile.FieldType.byte))).before args0 about1 = true := code_word (m := ⟨2, 7⟩) (meth := k2m7) (c := k2c7) (by decide +kernel) rfl rfl rfl (by decide +kernel)
set_option maxRecDepth 65536 in
theorem w_c11 : (Jvm.Cond.code ({ cls := "com/example/rowsieve/rowsieve/format/GrowingBytesPutLittleEndianPinLaw", name := "readsBack", desc := "([BIC)Z" } : Jvm.MethodName) method_2_code (5 : Nat) (Option.some Jvm.ClassFile.FieldType.boolean)).before args0 about1 = true := code_word (m := ⟨1, 1⟩) (meth := k1m1) (c := k1c1) (by decide +kernel) rfl rfl rfl (by decide +kernel)
def codes1 : List Jvm.Cond := [Jvm.Cond.code x code maxLocals ret, Jvm.Cond.code ({ cls := "com/example/rowsieve/rowsieve/format/GrowingBytes", name := "<init>", desc := "(II)V" } : Jvm.MethodName) prog_25_method_2_code (3 : Nat) (Option.none : Option Jvm.ClassFile.FieldType), Jvm.Cond.code ({ cls := "java/lang/Object", name := "<init>", desc := "()V" } : Jvm.MethodName) object_method_1_code (1 : Nat) (Option.none : Option Jvm.ClassFile.FieldType), Jvm.Cond.code ({ cls := "com/example/rowsieve/rowsieve/format/GrowingBytes", name := "makeRoom", desc := "(I)V" } : Jvm.MethodName) prog_25_method_3_code (2 : Nat) (Option.none : Option Jvm.ClassFile.FieldType), Jvm.Cond.code ({ cls := "com/example/rowsieve/rowsieve/format/GrowingBytes", name := "grow", desc := "(I)V" } : Jvm.MethodName) prog_25_method_4_code (2 : Nat) (Option.none : Option Jvm.ClassFile.FieldType), Jvm.Cond.code ({ cls := "com/example/rowsieve/rowsieve/format/GrowingBytes", name := "length", desc := "()I" } : Jvm.MethodName) prog_25_method_8_code (1 : Nat) (Option.some Jvm.ClassFile.FieldType.int), Jvm.Cond.code ({ cls := "java/lang/Math", name := "max", desc := "(II)I" } : Jvm.MethodName) jdk_29_method_65_code (2 : Nat) (Option.some Jvm.ClassFile.FieldType.int), Jvm.Cond.code ({ cls := "com/example/rowsieve/rowsieve/format/GrowingBytes", name := "put", desc := "([BII)V" } : Jvm.MethodName) prog_25_method_5_code (4 : Nat) (Option.none : Option Jvm.ClassFile.FieldType), Jvm.Cond.code ({ cls := "com/example/rowsieve/rowsieve/format/GrowingBytes", name := "putLittleEndian", desc := "(C)V" } : Jvm.MethodName) prog_25_method_6_code (2 : Nat) (Option.none : Option Jvm.ClassFile.FieldType), Jvm.Cond.code ({ cls := "com/example/rowsieve/rowsieve/format/GrowingBytes", name := "segmentCount", desc := "()I" } : Jvm.MethodName) prog_25_method_10_code (1 : Nat) (Option.some Jvm.ClassFile.FieldType.int), Jvm.Cond.code ({ cls := "com/example/rowsieve/rowsieve/format/GrowingBytes", name := "segment", desc := "(I)[B" } : Jvm.MethodName) prog_25_method_11_code (2 : Nat) (Option.some (Jvm.ClassFile.FieldType.array Jvm.ClassFile.FieldType.byte)), Jvm.Cond.code ({ cls := "com/example/rowsieve/rowsieve/format/GrowingBytesPutLittleEndianPinLaw", name := "readsBack", desc := "([BIC)Z" } : Jvm.MethodName) method_2_code (5 : Nat) (Option.some Jvm.ClassFile.FieldType.boolean)]
set_option maxRecDepth 65536 in
theorem codes_eq : words1.filter isCode = codes1 := rfl
theorem w_codes : ∀ c ∈ words1.filter isCode, c.before args0 about1 = true := by
  rw [codes_eq]
  intro c hc
  simp only [codes1, List.mem_cons, List.not_mem_nil, or_false] at hc
  rcases hc with rfl | rfl | rfl | rfl | rfl | rfl | rfl | rfl | rfl | rfl | rfl | rfl
  · exact w_c0
  · exact w_c1
  · exact w_c2
  · exact w_c3
  · exact w_c4
  · exact w_c5
  · exact w_c6
  · exact w_c7
  · exact w_c8
  · exact w_c9
  · exact w_c10
  · exact w_c11
set_option maxRecDepth 65536 in
theorem w_t1 : (words1.take 24).all (fun c => isCode c || c.before args0 about1) = true := by decide +kernel
set_option maxRecDepth 65536 in
theorem w_t2 : ((words1.drop 24).take 24).all (fun c => isCode c || c.before args0 about1) = true := by decide +kernel
set_option maxRecDepth 65536 in
theorem w_t3 : (((words1.drop 24).drop 24).take 24).all (fun c => isCode c || c.before args0 about1) = true := by decide +kernel
set_option maxRecDepth 65536 in
theorem w_t4 : (((words1.drop 24).drop 24).drop 24).all (fun c => isCode c || c.before args0 about1) = true := by decide +kernel
theorem w_tables : (allAtoms (Jvm.Cond.code x code maxLocals ret :: tables_1)).before args0 about1 = true := by
  rw [allAtoms_all]
  show words1.all (fun c => c.before args0 about1) = true
  refine all_split ?_ w_codes
  rw [← List.take_append_drop 24 words1, List.all_append, w_t1, ← List.take_append_drop 24 (words1.drop 24), List.all_append, w_t2, ← List.take_append_drop 24 ((words1.drop 24).drop 24), List.all_append, w_t3, w_t4]
  rfl
set_option maxRecDepth 65536 in
theorem w_case : (Jvm.Cond.and given_1 narrow_1).before args0 about1 = true := by decide +kernel
theorem w_applies : (headSpec (Jvm.Cond.code x code maxLocals ret :: tables_1) room_1).applies x e0.platform about1 = true :=
  (Spec.applies_iff w_frames).mpr ⟨w_running, w_runnable, w_alone, w_named, w_hears, w_ripe, w_room, w_tables⟩
theorem atStart : AtStart classFile x code maxLocals ret World_1 tables_1 room_1 Calls_1 rest_1 Pre_1 launch0 p0 e0 about1 theMethod args0 below0 :=
  ⟨lists_1, trivial, launch0.admits_env _ _ _, launch0.least_env, fairChoices_fair.cas, fairChoices_fair.clock, w_frames, w_args, w_heap, w_applies, trivial, trivial, w_case⟩
end start1
theorem witness_1 : WitnessClaimed_1 := ⟨start1.p0, start1.e0, start1.about1, start1.theMethod, start1.args0, start1.below0, start1.atStart⟩
end Jvm.Pilot.@@N@@
