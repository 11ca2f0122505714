import JvmDerived
import JvmDerived.Pilot.@@N@@Statement
import JvmDerived.Pilot.@@N@@Code
set_option linter.unusedVariables false
set_option linter.unusedSimpArgs false
namespace Jvm.Pilot.@@N@@
open Jvm Jvm.ClassFile Sem Op Lib Jvm.Free Jvm.Stand Jvm.LawKit Jvm.RoadKit Bundle Jvm.Pilot.@@N@@.Jvm.D
section Own
variable {p : Program} {l : Launch} {e : Env} {R : Room} {s : State} {m : MethodId} {args : Array Value} {below : List Frame} {meth : Method} {c : Code} {T : State} {locs : List Loc} {cells slots : Nat} {G : State → Outcome → Prop}
def Go (p : Program) (e : Env) (below : List Frame) (G : State → Outcome → Prop) (st : State) : Prop := ∃ s₂ o, Steps p.tables e below st s₂ ∧ s₂.status = .running ∧ Ended s₂ below o ∧ G s₂ o
theorem Go.st {A B : State} (k : ∀ t, Steps p.tables e below B t → Steps p.tables e below A t) (h : Go p e below G B) : Go p e below G A := by
  obtain ⟨s₂, o, h1, h2⟩ := h
  exact ⟨s₂, o, k _ h1, h2⟩
theorem Go.tr {A B : State} (k : Steps p.tables e below A B) (h : Go p e below G B) : Go p e below G A := by
  obtain ⟨s₂, o, h1, h2⟩ := h
  exact ⟨s₂, o, k.trans h1, h2⟩
theorem Go.retW (X : Stand p l e R s m args below meth c T locs cells slots) (hx : p.tables.exec = Jvm.exec) {t : FieldType} (hret : meth.sig.returnType = some t) {w : Value} {i : Instr} (hn : narrow t w = w)
    (hi : (i = .ireturn ∧ (t = .int ∨ t = .boolean ∨ t = .byte ∨ t = .char ∨ t = .short) ∧ ∃ z, w = .int z) ∨ (i = .lreturn ∧ t = .long ∧ ∃ z, w = .long z) ∨ (i = .dreturn ∧ t = .double ∧ ∃ z, w = .double z) ∨ (i = .freturn ∧ t = .float ∧ ∃ z, w = .float z) ∨ (i = .areturn ∧ t.isReference = true ∧ w.isRef = true))
    (hlk : meth.locks = false) {pc : Nat} {Ls : Array Slot} {rest : List Value} (hd : decode c.code pc = .ok (i, 1)) {C S : Nat} {Q : Option Value → Heap → List Loc → Prop} (hC : cells ≤ C) (hS : slots ≤ S) (q : Q (some w) T.heap locs) :
    Go p e below (fun s₂ o => ∃ v L, o = .returned v ∧ Q v s₂.heap L ∧ FrameEnd s o s₂ L C S) (T.setTop (mkF m pc Ls (w :: rest))) := by
  obtain ⟨fs, hr, hrun, hended, hW, hsame⟩ := X.leave (v := some w) (fun h => by rw [hret] at h; cases h) hlk
  exact ⟨_, _, retOut X hx hret hn hi hd hr, hrun, hended, _, _, rfl, q, ⟨_, rfl⟩, hW, hsame.mono hC hS⟩
theorem Go.retN (X : Stand p l e R s m args below meth c T locs cells slots) (hx : p.tables.exec = Jvm.exec) {t : FieldType} (hret : meth.sig.returnType = some t) (ht : t = .boolean ∨ t = .byte ∨ t = .char ∨ t = .short) (hlk : meth.locks = false) {pc : Nat} {Ls : Array Slot} {z : Int32} {rest : List Value} (hd : decode c.code pc = .ok (.ireturn, 1))
    {C S : Nat} {Q : Option Value → Heap → List Loc → Prop} (hC : cells ≤ C) (hS : slots ≤ S) (q : Q (some (.int (nar t z))) T.heap locs) :
    Go p e below (fun s₂ o => ∃ v L, o = .returned v ∧ Q v s₂.heap L ∧ FrameEnd s o s₂ L C S) (T.setTop (mkF m pc Ls (.int z :: rest))) := by
  obtain ⟨fs, hr, hrun, hended, hW, hsame⟩ := X.leave (v := some (.int (nar t z))) (fun h => by rw [hret] at h; cases h) hlk
  exact ⟨_, _, Jvm.RoadKit.retN X hx hret ht hd hr, hrun, hended, _, _, rfl, q, ⟨_, rfl⟩, hW, hsame.mono hC hS⟩
theorem Go.retI (X : Stand p l e R s m args below meth c T locs cells slots) (hx : p.tables.exec = Jvm.exec) (hret : meth.sig.returnType = some .int) (hlk : meth.locks = false) {pc : Nat} {Ls : Array Slot} {z : Int32} {rest : List Value} (hd : decode c.code pc = .ok (.ireturn, 1))
    {C S : Nat} {Q : Option Value → Heap → List Loc → Prop} (hC : cells ≤ C) (hS : slots ≤ S) (q : Q (some (.int z)) T.heap locs) :
    Go p e below (fun s₂ o => ∃ v L, o = .returned v ∧ Q v s₂.heap L ∧ FrameEnd s o s₂ L C S) (T.setTop (mkF m pc Ls (.int z :: rest))) :=
  Go.retW X hx hret rfl (Or.inl ⟨rfl, Or.inl rfl, z, rfl⟩) hlk hd hC hS q
theorem Go.retL (X : Stand p l e R s m args below meth c T locs cells slots) (hx : p.tables.exec = Jvm.exec) (hret : meth.sig.returnType = some .long) (hlk : meth.locks = false) {pc : Nat} {Ls : Array Slot} {z : Int64} {rest : List Value} (hd : decode c.code pc = .ok (.lreturn, 1))
    {C S : Nat} {Q : Option Value → Heap → List Loc → Prop} (hC : cells ≤ C) (hS : slots ≤ S) (q : Q (some (.long z)) T.heap locs) :
    Go p e below (fun s₂ o => ∃ v L, o = .returned v ∧ Q v s₂.heap L ∧ FrameEnd s o s₂ L C S) (T.setTop (mkF m pc Ls (.long z :: rest))) :=
  Go.retW X hx hret rfl (Or.inr (Or.inl ⟨rfl, rfl, z, rfl⟩)) hlk hd hC hS q
theorem Go.retA (X : Stand p l e R s m args below meth c T locs cells slots) (hx : p.tables.exec = Jvm.exec) {t : FieldType} (hret : meth.sig.returnType = some t) {w : Value} (ht : t.isReference = true) (hw : w.isRef = true) (hlk : meth.locks = false) {pc : Nat} {Ls : Array Slot} {rest : List Value} (hd : decode c.code pc = .ok (.areturn, 1))
    {C S : Nat} {Q : Option Value → Heap → List Loc → Prop} (hC : cells ≤ C) (hS : slots ≤ S) (q : Q (some w) T.heap locs) :
    Go p e below (fun s₂ o => ∃ v L, o = .returned v ∧ Q v s₂.heap L ∧ FrameEnd s o s₂ L C S) (T.setTop (mkF m pc Ls (w :: rest))) :=
  Go.retW X hx hret (by rcases ref_cases hw with rfl | ⟨a, rfl⟩ <;> cases t <;> first | rfl | cases ht) (Or.inr (Or.inr (Or.inr (Or.inr ⟨rfl, ht, hw⟩)))) hlk hd hC hS q
theorem Go.retV (X : Stand p l e R s m args below meth c T locs cells slots) (hx : p.tables.exec = Jvm.exec) (hret : meth.sig.returnType = none) (hlk : meth.locks = false) {pc : Nat} {Ls : Array Slot} (hd : decode c.code pc = .ok (.return_, 1))
    {C S : Nat} {Q : Option Value → Heap → List Loc → Prop} (hC : cells ≤ C) (hS : slots ≤ S) (q : Q none T.heap locs) :
    Go p e below (fun s₂ o => ∃ v L, o = .returned v ∧ Q v s₂.heap L ∧ FrameEnd s o s₂ L C S) (T.setTop (mkF m pc Ls [])) := by
  obtain ⟨fs, hr, hrun, hended, hW, hsame⟩ := X.leave (v := none) (fun _ => rfl) hlk
  exact ⟨_, _, X.returnOut hx hret hd hr, hrun, hended, _, _, rfl, q, ⟨_, rfl⟩, hW, hsame.mono hC hS⟩
end Own
theorem own_self {Z s : State} {a0 args : Array Value} {y : MethodName} {n : Nat} (hZ : Z.Warmed39 s.vm) (wi : (Cond.instantiable y.cls n).before a0 Z = true) (wp : (Cond.privateMethod y).before a0 Z = true) (wm : (Cond.instanceMethod y).before a0 Z = true) (hy : y.cls ≠ "java/lang/invoke/MethodHandle" ∧ y.cls ≠ "java/lang/invoke/VarHandle") : (Cond.selects y.cls y y).before args s = true := by
  have wi' : (Cond.instantiable y.cls n).before args s = true := mv hZ wi
  obtain ⟨c, k, i1, i2, -, i4, -⟩ := Cond.instantiable_spec wi'
  simp only [Bool.or_eq_false_iff] at i4
  exact selects_self_of_private i1 i2 i4.1 (Cond.privateMethod_at (mvP hZ wp (args := #[]))) (mv hZ wm) hy
section OwnAV
variable {Z : State} {h h' : Heap} {a b : Addr} {ty : FieldType} {n : Int32} {ws : List Addr} {sl : Nat} {v d : Value} {k : ClassId} {vs : List Value}
def AV (Z : State) (h : Heap) (a : Addr) (ty : FieldType) (n : Int32) : Prop := ∃ c : Cell, Arr Z h a c ty ∧ c.slots.size = n.toNatClampNeg ∧ ¬ n < 0 ∧ ∀ (i : Nat) (v : Value), c.slots[i]? = some v → fits ty v = true
theorem AV.lt (F : AV Z h a ty n) : a < h.size := by obtain ⟨c, A, -⟩ := F; exact A.lt
theorem AV.ext (F : AV Z h a ty n) (E : Ext h h') : AV Z h' a ty n := by obtain ⟨c, A, r⟩ := F; exact ⟨c, A.ext E, r⟩
theorem AV.other (F : AV Z h a ty n) (W : Wr h h' b sl v) (q : a ≠ b) : AV Z h' a ty n := by obtain ⟨c, A, r⟩ := F; exact ⟨c, A.other W q, r⟩
theorem AV.keep (F : AV Z h a ty n) (K : Keep h h' ws) (q : a ∉ ws) : AV Z h' a ty n := by obtain ⟨c, A, r⟩ := F; exact ⟨c, ⟨K.2.1 a c A.1 q, A.2⟩, r⟩
theorem AV.of (F : Arv Z h a k ty n vs d) : AV Z h a ty n := by
  obtain ⟨c, A, -, S, q, H, G⟩ := F
  refine ⟨c, A, S, q, fun i w hw => ?_⟩
  have hi := (Array.getElem?_eq_some_iff.mp hw).1
  have := H i hi
  rw [hw] at this
  rw [Option.some.inj this]; exact G i hi
theorem AV.new (A : Arr Z h a (newA k ty n) ty) (q : ¬ n < 0) (fd : fits ty (defaultValue ty) = true) : AV Z h a ty n := by
  refine ⟨_, A, sz_new _ _ _, q, fun i w hw => ?_⟩
  simp only [newA, Array.getElem?_replicate] at hw
  split at hw
  · cases hw; exact fd
  · cases hw
theorem AV.set {c : Cell} (A : Arr Z h a c ty) (S : c.slots.size = n.toNatClampNeg) (q : ¬ n < 0) (G : ∀ (i : Nat) (v : Value), c.slots[i]? = some v → fits ty v = true) (hv : fits ty v = true) (W : Wr h h' a sl v) : AV Z h' a ty n := by
  refine ⟨_, A.same W, by rw [sz_set]; exact S, q, fun i w hw => ?_⟩
  by_cases e : sl = i
  · subst e
    have hi := (Array.getElem?_eq_some_iff.mp hw).1
    simp only [Cell.setSlot, Array.size_setIfInBounds] at hi
    simp [Cell.setSlot, hi] at hw
    subst hw; exact hv
  · simp only [Cell.setSlot] at hw
    rw [Array.getElem?_setIfInBounds_ne e] at hw
    exact G i w hw
theorem AV.arv (F : AV Z h a ty n) (d : Value) : ∃ k vs, Arv Z h a k ty n vs d ∧ vs.length = n.toNatClampNeg := by
  obtain ⟨c, A, S, q, G⟩ := F
  refine ⟨c.cls, c.slots.toList, ⟨c, A, rfl, S, q, fun i hi => ?_, fun i hi => ?_⟩, by simpa using S⟩
  · simp [List.getD_eq_getElem?_getD, hi]
  · refine G i _ ?_
    simp [List.getD_eq_getElem?_getD, hi]
end OwnAV
def own_st (q y0 y1 y2 z0 z1 z2 : Int32) : Int32 := if y2 = q then z2 else if y1 = q then z1 else if y0 = q then z0 else 0
theorem own_flip (q y0 y1 y2 z0 z1 z2 : Int32) : own_st q y0 y1 y2 z0 z1 z2 = if q = y2 then z2 else if q = y1 then z1 else if q = y0 then z0 else 0 := by
  unfold own_st
  by_cases h2 : y2 = q
  · rw [if_pos h2, if_pos h2.symm]
  · rw [if_neg h2, if_neg (fun z : q = y2 => h2 z.symm)]
    by_cases h1 : y1 = q
    · rw [if_pos h1, if_pos h1.symm]
    · rw [if_neg h1, if_neg (fun z : q = y1 => h1 z.symm)]
      by_cases h0 : y0 = q
      · rw [if_pos h0, if_pos h0.symm]
      · rw [if_neg h0, if_neg (fun z : q = y0 => h0 z.symm)]
def own_F (x0 x1 x2 : Int32) : Prop := ((0 : Int32) < x0 ∧ x0.toInt64 ≠ 0 ∧ ¬ (0 : Int32) < (lcmpW (1 : Int64) ((9223372036854775807 : Int64) / (x0.toInt64)))) ∧ ((0 : Int32) < x1 ∧ x1.toInt64 ≠ 0 ∧ ¬ (0 : Int32) < (lcmpW ((1 : Int64) * (x0.toInt64)) ((9223372036854775807 : Int64) / (x1.toInt64)))) ∧ ((0 : Int32) < x2 ∧ x2.toInt64 ≠ 0 ∧ ¬ (0 : Int32) < (lcmpW (((1 : Int64) * (x0.toInt64)) * (x1.toInt64)) ((9223372036854775807 : Int64) / (x2.toInt64)))) ∧ ((((1 : Int64) * (x0.toInt64)) * (x1.toInt64)) * (x2.toInt64)) = (16 : Int32).toInt64
instance (x0 x1 x2 : Int32) : Decidable (own_F x0 x1 x2) := by unfold own_F; infer_instance
theorem own_sz (sh : Int32) : ¬ ((5 : Int32) - ((sh &&& (2147483647 : Int32)) % (5 : Int32))) = 0 ∧ own_F ((1 : Int32) <<< (((sh &&& (2147483647 : Int32)) % (5 : Int32)) &&& 31)) ((1 : Int32) <<< (((((sh.toUInt32 >>> ((8 : Int32) &&& 31).toUInt32).toInt32) &&& (2147483647 : Int32)) % ((5 : Int32) - ((sh &&& (2147483647 : Int32)) % (5 : Int32)))) &&& 31)) ((1 : Int32) <<< ((((4 : Int32) - ((sh &&& (2147483647 : Int32)) % (5 : Int32))) - ((((sh.toUInt32 >>> ((8 : Int32) &&& 31).toUInt32).toInt32) &&& (2147483647 : Int32)) % ((5 : Int32) - ((sh &&& (2147483647 : Int32)) % (5 : Int32))))) &&& 31)) := by
  have h1 := (c_and sh 2147483647 (by decide)).1
  generalize sh &&& (2147483647 : Int32) = y1 at h1 ⊢
  have h2 := (c_and ((sh.toUInt32 >>> ((8 : Int32) &&& 31).toUInt32).toInt32) 2147483647 (by decide)).1
  generalize ((sh.toUInt32 >>> ((8 : Int32) &&& 31).toUInt32).toInt32) &&& (2147483647 : Int32) = y2 at h2 ⊢
  have e : ∀ k : Nat, k < 6 → (Int32.ofNat k).toInt = k := by decide
  have h3 := (c_iremV y1 5).1 h1 (by decide)
  generalize y1 % (5 : Int32) = a at h3 ⊢
  have e5 : (5 : Int32).toInt = 5 := by decide
  have ha : a = 0 ∨ a = 1 ∨ a = 2 ∨ a = 3 ∨ a = 4 := by
    simp only [← Int32.toInt_inj]
    have e0 : (0 : Int32).toInt = 0 := by decide
    have e1 : (1 : Int32).toInt = 1 := by decide
    have e2 : (2 : Int32).toInt = 2 := by decide
    have e3 : (3 : Int32).toInt = 3 := by decide
    have e4 : (4 : Int32).toInt = 4 := by decide
    omega
  have hb : ∀ d : Int32, (1 ≤ d.toInt ∧ d.toInt ≤ 5) → ∀ b : Int32, b = y2 % d → (b = 0 ∧ 0 < d.toInt) ∨ (b = 1 ∧ 1 < d.toInt) ∨ (b = 2 ∧ 2 < d.toInt) ∨ (b = 3 ∧ 3 < d.toInt) ∨ (b = 4 ∧ 4 < d.toInt) := by
    intro d hd b hb
    have h4 := (c_iremV y2 d).1 h2 (by omega)
    rw [← hb] at h4
    simp only [← Int32.toInt_inj]
    have e0 : (0 : Int32).toInt = 0 := by decide
    have e1 : (1 : Int32).toInt = 1 := by decide
    have e2 : (2 : Int32).toInt = 2 := by decide
    have e3 : (3 : Int32).toInt = 3 := by decide
    have e4 : (4 : Int32).toInt = 4 := by decide
    omega
  obtain ⟨b, hbe⟩ : ∃ b : Int32, b = y2 % ((5 : Int32) - a) := ⟨_, rfl⟩
  rw [← hbe]
  rcases ha with rfl | rfl | rfl | rfl | rfl
  all_goals
    refine ⟨by decide, ?_⟩
    have hbb := hb _ (by decide) b hbe
    clear hbe
    rcases hbb with ⟨rfl, q⟩ | ⟨rfl, q⟩ | ⟨rfl, q⟩ | ⟨rfl, q⟩ | ⟨rfl, q⟩
    all_goals first | (revert q; decide) | decide
theorem own_dist (i j k : Int32) : ¬ i = ((i + (1 : Int32)) + (j &&& (1073741823 : Int32))) ∧ ¬ ((i + (1 : Int32)) + (j &&& (1073741823 : Int32))) = ((((i + (1 : Int32)) + (j &&& (1073741823 : Int32))) + (1 : Int32)) + (k &&& (1073741823 : Int32))) ∧ ¬ i = ((((i + (1 : Int32)) + (j &&& (1073741823 : Int32))) + (1 : Int32)) + (k &&& (1073741823 : Int32))) := by
  have h1 := c_and j 1073741823 (by decide)
  have h2 := c_and k 1073741823 (by decide)
  generalize j &&& (1073741823 : Int32) = y at h1 ⊢
  generalize k &&& (1073741823 : Int32) = z at h2 ⊢
  have e : (1073741823 : Int32).toInt = 1073741823 := by decide
  have e1 : (1 : Int32).toInt = 1 := by decide
  rw [e] at h1 h2
  have hi := i.toInt_lt
  have hi2 := i.le_toInt
  simp only [← Int32.toInt_inj, Int32.toInt_add, e1, Int.bmod_add_bmod, Int.add_bmod_bmod]
  refine ⟨?_, ?_, ?_⟩ <;> intro q <;> simp only [Int.bmod_def] at q <;> omega
theorem d3_0 : decode prog_87_method_3_code 0 = .ok (.lconst 1, 1) := by decide +kernel
theorem d3_1 : decode prog_87_method_3_code 1 = .ok (.lstore_n 1, 1) := by decide +kernel
theorem d3_2 : decode prog_87_method_3_code 2 = .ok (.aload_n 0, 1) := by decide +kernel
theorem d3_3 : decode prog_87_method_3_code 3 = .ok (.astore_n 3, 1) := by decide +kernel
theorem d3_4 : decode prog_87_method_3_code 4 = .ok (.aload_n 3, 1) := by decide +kernel
theorem d3_5 : decode prog_87_method_3_code 5 = .ok (.arraylength, 1) := by decide +kernel
theorem d3_6 : decode prog_87_method_3_code 6 = .ok (.istore 4, 2) := by decide +kernel
theorem d3_8 : decode prog_87_method_3_code 8 = .ok (.iconst 0, 1) := by decide +kernel
theorem d3_9 : decode prog_87_method_3_code 9 = .ok (.istore 5, 2) := by decide +kernel
theorem d3_11 : decode prog_87_method_3_code 11 = .ok (.iload 5, 2) := by decide +kernel
theorem d3_13 : decode prog_87_method_3_code 13 = .ok (.iload 4, 2) := by decide +kernel
theorem d3_15 : decode prog_87_method_3_code 15 = .ok (.if_icmp .ge 57, 3) := by decide +kernel
theorem d3_18 : decode prog_87_method_3_code 18 = .ok (.aload_n 3, 1) := by decide +kernel
theorem d3_19 : decode prog_87_method_3_code 19 = .ok (.iload 5, 2) := by decide +kernel
theorem d3_21 : decode prog_87_method_3_code 21 = .ok (.iaload, 1) := by decide +kernel
theorem d3_22 : decode prog_87_method_3_code 22 = .ok (.istore 6, 2) := by decide +kernel
theorem d3_24 : decode prog_87_method_3_code 24 = .ok (.iload 6, 2) := by decide +kernel
theorem d3_26 : decode prog_87_method_3_code 26 = .ok (.ifCond .gt 18, 3) := by decide +kernel
theorem d3_44 : decode prog_87_method_3_code 44 = .ok (.lload_n 1, 1) := by decide +kernel
theorem d3_45 : decode prog_87_method_3_code 45 = .ok (.ldc2_w 63, 3) := by decide +kernel
theorem d3_48 : decode prog_87_method_3_code 48 = .ok (.iload 6, 2) := by decide +kernel
theorem d3_50 : decode prog_87_method_3_code 50 = .ok (.i2l, 1) := by decide +kernel
theorem d3_51 : decode prog_87_method_3_code 51 = .ok (.ldiv, 1) := by decide +kernel
theorem d3_52 : decode prog_87_method_3_code 52 = .ok (.lcmp, 1) := by decide +kernel
theorem d3_53 : decode prog_87_method_3_code 53 = .ok (.ifCond .le 7, 3) := by decide +kernel
theorem d3_60 : decode prog_87_method_3_code 60 = .ok (.lload_n 1, 1) := by decide +kernel
theorem d3_61 : decode prog_87_method_3_code 61 = .ok (.iload 6, 2) := by decide +kernel
theorem d3_63 : decode prog_87_method_3_code 63 = .ok (.i2l, 1) := by decide +kernel
theorem d3_64 : decode prog_87_method_3_code 64 = .ok (.lmul, 1) := by decide +kernel
theorem d3_65 : decode prog_87_method_3_code 65 = .ok (.lstore_n 1, 1) := by decide +kernel
theorem d3_66 : decode prog_87_method_3_code 66 = .ok (.iinc 5 1, 3) := by decide +kernel
theorem d3_69 : decode prog_87_method_3_code 69 = .ok (.goto (-58), 3) := by decide +kernel
theorem d3_72 : decode prog_87_method_3_code 72 = .ok (.lload_n 1, 1) := by decide +kernel
theorem d3_73 : decode prog_87_method_3_code 73 = .ok (.lreturn, 1) := by decide +kernel
theorem own_pn0 : plainName "com/example/tributary/tributary/model/CostTable" = true := by first | (simp [plainName, overriddenIn]; done) | decide +kernel
def Q_rm3 (Z : State) (a : Addr) (k0 : ClassId) (x0 : Int32) (x1 : Int32) (x2 : Int32) (h0 : Heap) (n0 : Nat) (v : Option Value) (h : Heap) (L : List Loc) : Prop := v = some (.long ((((1 : Int64) * (x0.toInt64)) * (x1.toInt64)) * (x2.toInt64))) ∧ Fr n0 L ∧ h = h0
theorem ef_rm3 (m : MethodId) (a : Addr) : entryFrame m #[(.ref a)] 7 = mkF m 0 #[.val (.ref a), .unset, .unset, .unset, .unset, .unset, .unset] [] := by first | (simp [entryFrame, mkF, argsToLocals, Value.category]; done) | rfl
set_option maxRecDepth 65536 in
set_option maxHeartbeats 40000000 in
theorem rm3 (l : Launch) (Z : State) (a0 : Array Value) (hw : ∀ d ∈ tables_1, d.before a0 Z = true) (ws : List Jvm.Cond) (a : Addr) (k0 : ClassId) (x0 : Int32) (x1 : Int32) (x2 : Int32) (h0 : Heap) (n0 : Nat) (Z0 : n0 ≤ h0.size) (V_a : Arv Z h0 a k0 .int (3 : Int32) [(.int x0), (.int x1), (.int x2)] (.int (0 : Int32))) (hF : own_F x0 x1 x2) :
    MetFree l (⟨"com/example/tributary/tributary/model/CostTable", "entries", "([I)J"⟩ : MethodName) (head1 (Jvm.Cond.code (⟨"com/example/tributary/tributary/model/CostTable", "entries", "([I)J"⟩ : MethodName) prog_87_method_3_code 7 (some .long) :: ws) ({ frames := 0, cells := 0, slots := 0, locals := 0 } : Room)) (fun ag_ U_ => ag_ = #[(.ref a)] ∧ Z.Warmed39 U_.vm ∧ U_.heap = h0) (fun _ _ _ _ _ => True) (fun _ U_ o_ V_ => ∃ v_ L_, o_ = .returned v_ ∧ (Q_rm3 Z a k0 x0 x1 x2 h0 n0) v_ V_.heap L_ ∧ FrameEnd U_ o_ V_ L_ ({ frames := 0, cells := 0, slots := 0, locals := 0 } : Room).cells ({ frames := 0, cells := 0, slots := 0, locals := 0 } : Room).slots) := by
  refine MetFree.of_bodySF (plainFor_of_name own_pn0) hisR ?_
  intro p e s m args below meth c s₁ Bd hml0 hP hK
  obtain ⟨rfl, hZ, hh⟩ := hP
  have hx := Bd.exec
  have hby := Bd.bytes
  have hml : c.maxLocals = 7 := hml0
  have hown : s.vm.findClass "com/example/tributary/tributary/model/CostTable" = some m.cls := findClass_of_methodNamed Bd.named
  have hnm := (name_of_methodNamed Bd.named Bd.method).1
  have X0 : Stand p l e ({ frames := 0, cells := 0, slots := 0, locals := 0 } : Room) s m #[(.ref a)] below meth c s₁ [] 0 0 := Stand.of_body Bd
  have e0 : s₁.heap = h0 := by rw [← hh, Bd.state]; rfl
  have N0 := Fr.nil n0
  refine Go.st (G := fun s₂ o_ => ∃ v_ L_, o_ = .returned v_ ∧ (Q_rm3 Z a k0 x0 x1 x2 h0 n0) v_ s₂.heap L_ ∧ FrameEnd s o_ s₂ L_ ({ frames := 0, cells := 0, slots := 0, locals := 0 } : Room).cells ({ frames := 0, cells := 0, slots := 0, locals := 0 } : Room).slots) (fun t kt => castTop (ef_rm3 m a) kt) ?_
  show Go p e below _ (s₁.setTop (mkF m 0 #[.val (.ref a), .unset, .unset, .unset, .unset, .unset, .unset] []))
  refine Go.st (fun _ kt => XS.lconst X0.here hx rfl (hb hby d3_0) kt) ?_
  show Go p e below _ (s₁.setTop (mkF m 1 #[.val (.ref a), .unset, .unset, .unset, .unset, .unset, .unset] [(.long (1 : Int64))]))
  refine Go.st (fun _ kt => XS.lstoreN X0.here hx rfl (hb hby d3_1) rfl (l' := #[.val (.ref a), .val (.long (1 : Int64)), .second, .unset, .unset, .unset, .unset]) rfl kt) ?_
  show Go p e below _ (s₁.setTop (mkF m 2 #[.val (.ref a), .val (.long (1 : Int64)), .second, .unset, .unset, .unset, .unset] []))
  refine Go.st (fun _ kt => XS.aloadN X0.here hx rfl (hb hby d3_2) rfl rfl kt) ?_
  show Go p e below _ (s₁.setTop (mkF m 3 #[.val (.ref a), .val (.long (1 : Int64)), .second, .unset, .unset, .unset, .unset] [(.ref a)]))
  refine Go.st (fun _ kt => XS.astoreN X0.here hx rfl (hb hby d3_3) rfl rfl (l' := #[.val (.ref a), .val (.long (1 : Int64)), .second, .val (.ref a), .unset, .unset, .unset]) rfl kt) ?_
  show Go p e below _ (s₁.setTop (mkF m 4 #[.val (.ref a), .val (.long (1 : Int64)), .second, .val (.ref a), .unset, .unset, .unset] []))
  refine Go.st (fun _ kt => XS.aloadN X0.here hx rfl (hb hby d3_4) rfl rfl kt) ?_
  show Go p e below _ (s₁.setTop (mkF m 5 #[.val (.ref a), .val (.long (1 : Int64)), .second, .val (.ref a), .unset, .unset, .unset] [(.ref a)]))
  obtain ⟨cl1, Ar1, -, S1, N1', -, -⟩ := id V_a
  refine Go.st (fun _ kt => X0.arraylength hx (by rw [e0]; exact Ar1.1) (State.isArrayOf_alike hZ.alike Ar1.2.1) (g := (mkF m 5 #[.val (.ref a), .val (.long (1 : Int64)), .second, .val (.ref a), .unset, .unset, .unset] [(.ref a)])) rfl rfl (hb hby d3_5) _ kt) ?_
  rw [len_of S1 N1']
  show Go p e below _ (s₁.setTop (mkF m 6 #[.val (.ref a), .val (.long (1 : Int64)), .second, .val (.ref a), .unset, .unset, .unset] [(.int (3 : Int32))]))
  refine Go.st (fun _ kt => XS.istore X0.here hx rfl (hb hby d3_6) rfl (l' := #[.val (.ref a), .val (.long (1 : Int64)), .second, .val (.ref a), .val (.int (3 : Int32)), .unset, .unset]) rfl kt) ?_
  show Go p e below _ (s₁.setTop (mkF m 8 #[.val (.ref a), .val (.long (1 : Int64)), .second, .val (.ref a), .val (.int (3 : Int32)), .unset, .unset] []))
  refine Go.st (fun _ kt => XS.iconst X0.here hx rfl (hb hby d3_8) kt) ?_
  show Go p e below _ (s₁.setTop (mkF m 9 #[.val (.ref a), .val (.long (1 : Int64)), .second, .val (.ref a), .val (.int (3 : Int32)), .unset, .unset] [(.int (0 : Int32))]))
  refine Go.st (fun _ kt => XS.istore X0.here hx rfl (hb hby d3_9) rfl (l' := #[.val (.ref a), .val (.long (1 : Int64)), .second, .val (.ref a), .val (.int (3 : Int32)), .val (.int (0 : Int32)), .unset]) rfl kt) ?_
  show Go p e below _ (s₁.setTop (mkF m 11 #[.val (.ref a), .val (.long (1 : Int64)), .second, .val (.ref a), .val (.int (3 : Int32)), .val (.int (0 : Int32)), .unset] []))
  refine Go.st (fun _ kt => XS.iload X0.here hx rfl (hb hby d3_11) rfl kt) ?_
  show Go p e below _ (s₁.setTop (mkF m 13 #[.val (.ref a), .val (.long (1 : Int64)), .second, .val (.ref a), .val (.int (3 : Int32)), .val (.int (0 : Int32)), .unset] [(.int (0 : Int32))]))
  refine Go.st (fun _ kt => XS.iload X0.here hx rfl (hb hby d3_13) rfl kt) ?_
  show Go p e below _ (s₁.setTop (mkF m 15 #[.val (.ref a), .val (.long (1 : Int64)), .second, .val (.ref a), .val (.int (3 : Int32)), .val (.int (0 : Int32)), .unset] [(.int (3 : Int32)), (.int (0 : Int32))]))
  refine Go.st (fun _ kt => XS.icmpNo X0.here hx rfl (hb hby d3_15) rfl (tlt (by decide : (0 : Int32) < (3 : Int32))).2.1 kt) ?_
  show Go p e below _ (s₁.setTop (mkF m 18 #[.val (.ref a), .val (.long (1 : Int64)), .second, .val (.ref a), .val (.int (3 : Int32)), .val (.int (0 : Int32)), .unset] []))
  refine Go.st (fun _ kt => XS.aloadN X0.here hx rfl (hb hby d3_18) rfl rfl kt) ?_
  show Go p e below _ (s₁.setTop (mkF m 19 #[.val (.ref a), .val (.long (1 : Int64)), .second, .val (.ref a), .val (.int (3 : Int32)), .val (.int (0 : Int32)), .unset] [(.ref a)]))
  refine Go.st (fun _ kt => XS.iload X0.here hx rfl (hb hby d3_19) rfl kt) ?_
  show Go p e below _ (s₁.setTop (mkF m 21 #[.val (.ref a), .val (.long (1 : Int64)), .second, .val (.ref a), .val (.int (3 : Int32)), .val (.int (0 : Int32)), .unset] [(.int (0 : Int32)), (.ref a)]))
  obtain ⟨cl2, Ar2, -, S2, N2', H2, G2⟩ := id V_a
  have hin2 := inb_of S2 (j := (0 : Int32)) ⟨by decide, by decide⟩
  have hat2 := Has.at H2 hin2 (v := (.int x0)) rfl
  refine Go.st (fun _ kt => X0.iaload hx (j := (0 : Int32)) (v := (.int x0)) (by rw [e0]; exact Ar2.1) (State.isArrayOf_alike hZ.alike Ar2.2.1) Ar2.2.2 hin2 hat2 (g := (mkF m 21 #[.val (.ref a), .val (.long (1 : Int64)), .second, .val (.ref a), .val (.int (3 : Int32)), .val (.int (0 : Int32)), .unset] [(.int (0 : Int32)), (.ref a)])) rfl rfl (hb hby d3_21) _ kt) ?_
  show Go p e below _ (s₁.setTop (mkF m 22 #[.val (.ref a), .val (.long (1 : Int64)), .second, .val (.ref a), .val (.int (3 : Int32)), .val (.int (0 : Int32)), .unset] [(.int x0)]))
  refine Go.st (fun _ kt => XS.istore X0.here hx rfl (hb hby d3_22) rfl (l' := #[.val (.ref a), .val (.long (1 : Int64)), .second, .val (.ref a), .val (.int (3 : Int32)), .val (.int (0 : Int32)), .val (.int x0)]) rfl kt) ?_
  show Go p e below _ (s₁.setTop (mkF m 24 #[.val (.ref a), .val (.long (1 : Int64)), .second, .val (.ref a), .val (.int (3 : Int32)), .val (.int (0 : Int32)), .val (.int x0)] []))
  refine Go.st (fun _ kt => XS.iload X0.here hx rfl (hb hby d3_24) rfl kt) ?_
  show Go p e below _ (s₁.setTop (mkF m 26 #[.val (.ref a), .val (.long (1 : Int64)), .second, .val (.ref a), .val (.int (3 : Int32)), .val (.int (0 : Int32)), .val (.int x0)] [(.int x0)]))
  refine Go.st (fun _ kt => XS.ifYes X0.here hx rfl (pc0 := 26) (pc' := 44) rfl (hb hby d3_26) rfl ((if0 _ _).trans (tlt hF.1.1).2.2.1) (by decide) (by decide) kt) ?_
  show Go p e below _ (s₁.setTop (mkF m 44 #[.val (.ref a), .val (.long (1 : Int64)), .second, .val (.ref a), .val (.int (3 : Int32)), .val (.int (0 : Int32)), .val (.int x0)] []))
  refine Go.st (fun _ kt => XS.lloadN X0.here hx rfl (hb hby d3_44) rfl kt) ?_
  show Go p e below _ (s₁.setTop (mkF m 45 #[.val (.ref a), .val (.long (1 : Int64)), .second, .val (.ref a), .val (.int (3 : Int32)), .val (.int (0 : Int32)), .val (.int x0)] [(.long (1 : Int64))]))
  refine Go.st (fun _ kt => X0.ldc2Long hx hown (mvT hZ (hw _ (List.mem_of_getElem? (i := 16) rfl))) (g := (mkF m 45 #[.val (.ref a), .val (.long (1 : Int64)), .second, .val (.ref a), .val (.int (3 : Int32)), .val (.int (0 : Int32)), .val (.int x0)] [(.long (1 : Int64))])) rfl (hb hby d3_45) _ kt) ?_
  show Go p e below _ (s₁.setTop (mkF m 48 #[.val (.ref a), .val (.long (1 : Int64)), .second, .val (.ref a), .val (.int (3 : Int32)), .val (.int (0 : Int32)), .val (.int x0)] [(.long (9223372036854775807 : Int64)), (.long (1 : Int64))]))
  refine Go.st (fun _ kt => XS.iload X0.here hx rfl (hb hby d3_48) rfl kt) ?_
  show Go p e below _ (s₁.setTop (mkF m 50 #[.val (.ref a), .val (.long (1 : Int64)), .second, .val (.ref a), .val (.int (3 : Int32)), .val (.int (0 : Int32)), .val (.int x0)] [(.int x0), (.long (9223372036854775807 : Int64)), (.long (1 : Int64))]))
  refine Go.st (fun _ kt => XS.i2l X0.here hx rfl (hb hby d3_50) rfl kt) ?_
  show Go p e below _ (s₁.setTop (mkF m 51 #[.val (.ref a), .val (.long (1 : Int64)), .second, .val (.ref a), .val (.int (3 : Int32)), .val (.int (0 : Int32)), .val (.int x0)] [(.long (x0.toInt64)), (.long (9223372036854775807 : Int64)), (.long (1 : Int64))]))
  refine Go.st (fun _ kt => XS.ldiv X0.here hx rfl (hb hby d3_51) rfl hF.1.2.1 kt) ?_
  show Go p e below _ (s₁.setTop (mkF m 52 #[.val (.ref a), .val (.long (1 : Int64)), .second, .val (.ref a), .val (.int (3 : Int32)), .val (.int (0 : Int32)), .val (.int x0)] [(.long ((9223372036854775807 : Int64) / (x0.toInt64))), (.long (1 : Int64))]))
  refine Go.st (fun _ kt => XS.lcmp X0.here hx rfl (hb hby d3_52) rfl kt) ?_
  show Go p e below _ (s₁.setTop (mkF m 53 #[.val (.ref a), .val (.long (1 : Int64)), .second, .val (.ref a), .val (.int (3 : Int32)), .val (.int (0 : Int32)), .val (.int x0)] [(.int (lcmpW (1 : Int64) ((9223372036854775807 : Int64) / (x0.toInt64))))]))
  refine Go.st (fun _ kt => XS.ifYes X0.here hx rfl (pc0 := 53) (pc' := 60) rfl (hb hby d3_53) rfl ((if0 _ _).trans (flt hF.1.2.2).2.2.2) (by decide) (by decide) kt) ?_
  show Go p e below _ (s₁.setTop (mkF m 60 #[.val (.ref a), .val (.long (1 : Int64)), .second, .val (.ref a), .val (.int (3 : Int32)), .val (.int (0 : Int32)), .val (.int x0)] []))
  refine Go.st (fun _ kt => XS.lloadN X0.here hx rfl (hb hby d3_60) rfl kt) ?_
  show Go p e below _ (s₁.setTop (mkF m 61 #[.val (.ref a), .val (.long (1 : Int64)), .second, .val (.ref a), .val (.int (3 : Int32)), .val (.int (0 : Int32)), .val (.int x0)] [(.long (1 : Int64))]))
  refine Go.st (fun _ kt => XS.iload X0.here hx rfl (hb hby d3_61) rfl kt) ?_
  show Go p e below _ (s₁.setTop (mkF m 63 #[.val (.ref a), .val (.long (1 : Int64)), .second, .val (.ref a), .val (.int (3 : Int32)), .val (.int (0 : Int32)), .val (.int x0)] [(.int x0), (.long (1 : Int64))]))
  refine Go.st (fun _ kt => XS.i2l X0.here hx rfl (hb hby d3_63) rfl kt) ?_
  show Go p e below _ (s₁.setTop (mkF m 64 #[.val (.ref a), .val (.long (1 : Int64)), .second, .val (.ref a), .val (.int (3 : Int32)), .val (.int (0 : Int32)), .val (.int x0)] [(.long (x0.toInt64)), (.long (1 : Int64))]))
  refine Go.st (fun _ kt => XS.lmul X0.here hx rfl (hb hby d3_64) rfl kt) ?_
  show Go p e below _ (s₁.setTop (mkF m 65 #[.val (.ref a), .val (.long (1 : Int64)), .second, .val (.ref a), .val (.int (3 : Int32)), .val (.int (0 : Int32)), .val (.int x0)] [(.long ((1 : Int64) * (x0.toInt64)))]))
  refine Go.st (fun _ kt => XS.lstoreN X0.here hx rfl (hb hby d3_65) rfl (l' := #[.val (.ref a), .val (.long ((1 : Int64) * (x0.toInt64))), .second, .val (.ref a), .val (.int (3 : Int32)), .val (.int (0 : Int32)), .val (.int x0)]) rfl kt) ?_
  show Go p e below _ (s₁.setTop (mkF m 66 #[.val (.ref a), .val (.long ((1 : Int64) * (x0.toInt64))), .second, .val (.ref a), .val (.int (3 : Int32)), .val (.int (0 : Int32)), .val (.int x0)] []))
  refine Go.st (fun _ kt => XS.iinc X0.here hx rfl (hb hby d3_66) rfl (l' := #[.val (.ref a), .val (.long ((1 : Int64) * (x0.toInt64))), .second, .val (.ref a), .val (.int (3 : Int32)), .val (.int (1 : Int32)), .val (.int x0)]) rfl kt) ?_
  show Go p e below _ (s₁.setTop (mkF m 69 #[.val (.ref a), .val (.long ((1 : Int64) * (x0.toInt64))), .second, .val (.ref a), .val (.int (3 : Int32)), .val (.int (1 : Int32)), .val (.int x0)] []))
  refine Go.st (fun _ kt => XS.goto X0.here hx rfl (pc0 := 69) (pc' := 11) rfl (hb hby d3_69) (by decide) (by decide) kt) ?_
  show Go p e below _ (s₁.setTop (mkF m 11 #[.val (.ref a), .val (.long ((1 : Int64) * (x0.toInt64))), .second, .val (.ref a), .val (.int (3 : Int32)), .val (.int (1 : Int32)), .val (.int x0)] []))
  refine Go.st (fun _ kt => XS.iload X0.here hx rfl (hb hby d3_11) rfl kt) ?_
  show Go p e below _ (s₁.setTop (mkF m 13 #[.val (.ref a), .val (.long ((1 : Int64) * (x0.toInt64))), .second, .val (.ref a), .val (.int (3 : Int32)), .val (.int (1 : Int32)), .val (.int x0)] [(.int (1 : Int32))]))
  refine Go.st (fun _ kt => XS.iload X0.here hx rfl (hb hby d3_13) rfl kt) ?_
  show Go p e below _ (s₁.setTop (mkF m 15 #[.val (.ref a), .val (.long ((1 : Int64) * (x0.toInt64))), .second, .val (.ref a), .val (.int (3 : Int32)), .val (.int (1 : Int32)), .val (.int x0)] [(.int (3 : Int32)), (.int (1 : Int32))]))
  refine Go.st (fun _ kt => XS.icmpNo X0.here hx rfl (hb hby d3_15) rfl (tlt (by decide : (1 : Int32) < (3 : Int32))).2.1 kt) ?_
  show Go p e below _ (s₁.setTop (mkF m 18 #[.val (.ref a), .val (.long ((1 : Int64) * (x0.toInt64))), .second, .val (.ref a), .val (.int (3 : Int32)), .val (.int (1 : Int32)), .val (.int x0)] []))
  refine Go.st (fun _ kt => XS.aloadN X0.here hx rfl (hb hby d3_18) rfl rfl kt) ?_
  show Go p e below _ (s₁.setTop (mkF m 19 #[.val (.ref a), .val (.long ((1 : Int64) * (x0.toInt64))), .second, .val (.ref a), .val (.int (3 : Int32)), .val (.int (1 : Int32)), .val (.int x0)] [(.ref a)]))
  refine Go.st (fun _ kt => XS.iload X0.here hx rfl (hb hby d3_19) rfl kt) ?_
  show Go p e below _ (s₁.setTop (mkF m 21 #[.val (.ref a), .val (.long ((1 : Int64) * (x0.toInt64))), .second, .val (.ref a), .val (.int (3 : Int32)), .val (.int (1 : Int32)), .val (.int x0)] [(.int (1 : Int32)), (.ref a)]))
  obtain ⟨cl3, Ar3, -, S3, N3', H3, G3⟩ := id V_a
  have hin3 := inb_of S3 (j := (1 : Int32)) ⟨by decide, by decide⟩
  have hat3 := Has.at H3 hin3 (v := (.int x1)) rfl
  refine Go.st (fun _ kt => X0.iaload hx (j := (1 : Int32)) (v := (.int x1)) (by rw [e0]; exact Ar3.1) (State.isArrayOf_alike hZ.alike Ar3.2.1) Ar3.2.2 hin3 hat3 (g := (mkF m 21 #[.val (.ref a), .val (.long ((1 : Int64) * (x0.toInt64))), .second, .val (.ref a), .val (.int (3 : Int32)), .val (.int (1 : Int32)), .val (.int x0)] [(.int (1 : Int32)), (.ref a)])) rfl rfl (hb hby d3_21) _ kt) ?_
  show Go p e below _ (s₁.setTop (mkF m 22 #[.val (.ref a), .val (.long ((1 : Int64) * (x0.toInt64))), .second, .val (.ref a), .val (.int (3 : Int32)), .val (.int (1 : Int32)), .val (.int x0)] [(.int x1)]))
  refine Go.st (fun _ kt => XS.istore X0.here hx rfl (hb hby d3_22) rfl (l' := #[.val (.ref a), .val (.long ((1 : Int64) * (x0.toInt64))), .second, .val (.ref a), .val (.int (3 : Int32)), .val (.int (1 : Int32)), .val (.int x1)]) rfl kt) ?_
  show Go p e below _ (s₁.setTop (mkF m 24 #[.val (.ref a), .val (.long ((1 : Int64) * (x0.toInt64))), .second, .val (.ref a), .val (.int (3 : Int32)), .val (.int (1 : Int32)), .val (.int x1)] []))
  refine Go.st (fun _ kt => XS.iload X0.here hx rfl (hb hby d3_24) rfl kt) ?_
  show Go p e below _ (s₁.setTop (mkF m 26 #[.val (.ref a), .val (.long ((1 : Int64) * (x0.toInt64))), .second, .val (.ref a), .val (.int (3 : Int32)), .val (.int (1 : Int32)), .val (.int x1)] [(.int x1)]))
  refine Go.st (fun _ kt => XS.ifYes X0.here hx rfl (pc0 := 26) (pc' := 44) rfl (hb hby d3_26) rfl ((if0 _ _).trans (tlt hF.2.1.1).2.2.1) (by decide) (by decide) kt) ?_
  show Go p e below _ (s₁.setTop (mkF m 44 #[.val (.ref a), .val (.long ((1 : Int64) * (x0.toInt64))), .second, .val (.ref a), .val (.int (3 : Int32)), .val (.int (1 : Int32)), .val (.int x1)] []))
  refine Go.st (fun _ kt => XS.lloadN X0.here hx rfl (hb hby d3_44) rfl kt) ?_
  show Go p e below _ (s₁.setTop (mkF m 45 #[.val (.ref a), .val (.long ((1 : Int64) * (x0.toInt64))), .second, .val (.ref a), .val (.int (3 : Int32)), .val (.int (1 : Int32)), .val (.int x1)] [(.long ((1 : Int64) * (x0.toInt64)))]))
  refine Go.st (fun _ kt => X0.ldc2Long hx hown (mvT hZ (hw _ (List.mem_of_getElem? (i := 16) rfl))) (g := (mkF m 45 #[.val (.ref a), .val (.long ((1 : Int64) * (x0.toInt64))), .second, .val (.ref a), .val (.int (3 : Int32)), .val (.int (1 : Int32)), .val (.int x1)] [(.long ((1 : Int64) * (x0.toInt64)))])) rfl (hb hby d3_45) _ kt) ?_
  show Go p e below _ (s₁.setTop (mkF m 48 #[.val (.ref a), .val (.long ((1 : Int64) * (x0.toInt64))), .second, .val (.ref a), .val (.int (3 : Int32)), .val (.int (1 : Int32)), .val (.int x1)] [(.long (9223372036854775807 : Int64)), (.long ((1 : Int64) * (x0.toInt64)))]))
  refine Go.st (fun _ kt => XS.iload X0.here hx rfl (hb hby d3_48) rfl kt) ?_
  show Go p e below _ (s₁.setTop (mkF m 50 #[.val (.ref a), .val (.long ((1 : Int64) * (x0.toInt64))), .second, .val (.ref a), .val (.int (3 : Int32)), .val (.int (1 : Int32)), .val (.int x1)] [(.int x1), (.long (9223372036854775807 : Int64)), (.long ((1 : Int64) * (x0.toInt64)))]))
  refine Go.st (fun _ kt => XS.i2l X0.here hx rfl (hb hby d3_50) rfl kt) ?_
  show Go p e below _ (s₁.setTop (mkF m 51 #[.val (.ref a), .val (.long ((1 : Int64) * (x0.toInt64))), .second, .val (.ref a), .val (.int (3 : Int32)), .val (.int (1 : Int32)), .val (.int x1)] [(.long (x1.toInt64)), (.long (9223372036854775807 : Int64)), (.long ((1 : Int64) * (x0.toInt64)))]))
  refine Go.st (fun _ kt => XS.ldiv X0.here hx rfl (hb hby d3_51) rfl hF.2.1.2.1 kt) ?_
  show Go p e below _ (s₁.setTop (mkF m 52 #[.val (.ref a), .val (.long ((1 : Int64) * (x0.toInt64))), .second, .val (.ref a), .val (.int (3 : Int32)), .val (.int (1 : Int32)), .val (.int x1)] [(.long ((9223372036854775807 : Int64) / (x1.toInt64))), (.long ((1 : Int64) * (x0.toInt64)))]))
  refine Go.st (fun _ kt => XS.lcmp X0.here hx rfl (hb hby d3_52) rfl kt) ?_
  show Go p e below _ (s₁.setTop (mkF m 53 #[.val (.ref a), .val (.long ((1 : Int64) * (x0.toInt64))), .second, .val (.ref a), .val (.int (3 : Int32)), .val (.int (1 : Int32)), .val (.int x1)] [(.int (lcmpW ((1 : Int64) * (x0.toInt64)) ((9223372036854775807 : Int64) / (x1.toInt64))))]))
  refine Go.st (fun _ kt => XS.ifYes X0.here hx rfl (pc0 := 53) (pc' := 60) rfl (hb hby d3_53) rfl ((if0 _ _).trans (flt hF.2.1.2.2).2.2.2) (by decide) (by decide) kt) ?_
  show Go p e below _ (s₁.setTop (mkF m 60 #[.val (.ref a), .val (.long ((1 : Int64) * (x0.toInt64))), .second, .val (.ref a), .val (.int (3 : Int32)), .val (.int (1 : Int32)), .val (.int x1)] []))
  refine Go.st (fun _ kt => XS.lloadN X0.here hx rfl (hb hby d3_60) rfl kt) ?_
  show Go p e below _ (s₁.setTop (mkF m 61 #[.val (.ref a), .val (.long ((1 : Int64) * (x0.toInt64))), .second, .val (.ref a), .val (.int (3 : Int32)), .val (.int (1 : Int32)), .val (.int x1)] [(.long ((1 : Int64) * (x0.toInt64)))]))
  refine Go.st (fun _ kt => XS.iload X0.here hx rfl (hb hby d3_61) rfl kt) ?_
  show Go p e below _ (s₁.setTop (mkF m 63 #[.val (.ref a), .val (.long ((1 : Int64) * (x0.toInt64))), .second, .val (.ref a), .val (.int (3 : Int32)), .val (.int (1 : Int32)), .val (.int x1)] [(.int x1), (.long ((1 : Int64) * (x0.toInt64)))]))
  refine Go.st (fun _ kt => XS.i2l X0.here hx rfl (hb hby d3_63) rfl kt) ?_
  show Go p e below _ (s₁.setTop (mkF m 64 #[.val (.ref a), .val (.long ((1 : Int64) * (x0.toInt64))), .second, .val (.ref a), .val (.int (3 : Int32)), .val (.int (1 : Int32)), .val (.int x1)] [(.long (x1.toInt64)), (.long ((1 : Int64) * (x0.toInt64)))]))
  refine Go.st (fun _ kt => XS.lmul X0.here hx rfl (hb hby d3_64) rfl kt) ?_
  show Go p e below _ (s₁.setTop (mkF m 65 #[.val (.ref a), .val (.long ((1 : Int64) * (x0.toInt64))), .second, .val (.ref a), .val (.int (3 : Int32)), .val (.int (1 : Int32)), .val (.int x1)] [(.long (((1 : Int64) * (x0.toInt64)) * (x1.toInt64)))]))
  refine Go.st (fun _ kt => XS.lstoreN X0.here hx rfl (hb hby d3_65) rfl (l' := #[.val (.ref a), .val (.long (((1 : Int64) * (x0.toInt64)) * (x1.toInt64))), .second, .val (.ref a), .val (.int (3 : Int32)), .val (.int (1 : Int32)), .val (.int x1)]) rfl kt) ?_
  show Go p e below _ (s₁.setTop (mkF m 66 #[.val (.ref a), .val (.long (((1 : Int64) * (x0.toInt64)) * (x1.toInt64))), .second, .val (.ref a), .val (.int (3 : Int32)), .val (.int (1 : Int32)), .val (.int x1)] []))
  refine Go.st (fun _ kt => XS.iinc X0.here hx rfl (hb hby d3_66) rfl (l' := #[.val (.ref a), .val (.long (((1 : Int64) * (x0.toInt64)) * (x1.toInt64))), .second, .val (.ref a), .val (.int (3 : Int32)), .val (.int (2 : Int32)), .val (.int x1)]) rfl kt) ?_
  show Go p e below _ (s₁.setTop (mkF m 69 #[.val (.ref a), .val (.long (((1 : Int64) * (x0.toInt64)) * (x1.toInt64))), .second, .val (.ref a), .val (.int (3 : Int32)), .val (.int (2 : Int32)), .val (.int x1)] []))
  refine Go.st (fun _ kt => XS.goto X0.here hx rfl (pc0 := 69) (pc' := 11) rfl (hb hby d3_69) (by decide) (by decide) kt) ?_
  show Go p e below _ (s₁.setTop (mkF m 11 #[.val (.ref a), .val (.long (((1 : Int64) * (x0.toInt64)) * (x1.toInt64))), .second, .val (.ref a), .val (.int (3 : Int32)), .val (.int (2 : Int32)), .val (.int x1)] []))
  refine Go.st (fun _ kt => XS.iload X0.here hx rfl (hb hby d3_11) rfl kt) ?_
  show Go p e below _ (s₁.setTop (mkF m 13 #[.val (.ref a), .val (.long (((1 : Int64) * (x0.toInt64)) * (x1.toInt64))), .second, .val (.ref a), .val (.int (3 : Int32)), .val (.int (2 : Int32)), .val (.int x1)] [(.int (2 : Int32))]))
  refine Go.st (fun _ kt => XS.iload X0.here hx rfl (hb hby d3_13) rfl kt) ?_
  show Go p e below _ (s₁.setTop (mkF m 15 #[.val (.ref a), .val (.long (((1 : Int64) * (x0.toInt64)) * (x1.toInt64))), .second, .val (.ref a), .val (.int (3 : Int32)), .val (.int (2 : Int32)), .val (.int x1)] [(.int (3 : Int32)), (.int (2 : Int32))]))
  refine Go.st (fun _ kt => XS.icmpNo X0.here hx rfl (hb hby d3_15) rfl (tlt (by decide : (2 : Int32) < (3 : Int32))).2.1 kt) ?_
  show Go p e below _ (s₁.setTop (mkF m 18 #[.val (.ref a), .val (.long (((1 : Int64) * (x0.toInt64)) * (x1.toInt64))), .second, .val (.ref a), .val (.int (3 : Int32)), .val (.int (2 : Int32)), .val (.int x1)] []))
  refine Go.st (fun _ kt => XS.aloadN X0.here hx rfl (hb hby d3_18) rfl rfl kt) ?_
  show Go p e below _ (s₁.setTop (mkF m 19 #[.val (.ref a), .val (.long (((1 : Int64) * (x0.toInt64)) * (x1.toInt64))), .second, .val (.ref a), .val (.int (3 : Int32)), .val (.int (2 : Int32)), .val (.int x1)] [(.ref a)]))
  refine Go.st (fun _ kt => XS.iload X0.here hx rfl (hb hby d3_19) rfl kt) ?_
  show Go p e below _ (s₁.setTop (mkF m 21 #[.val (.ref a), .val (.long (((1 : Int64) * (x0.toInt64)) * (x1.toInt64))), .second, .val (.ref a), .val (.int (3 : Int32)), .val (.int (2 : Int32)), .val (.int x1)] [(.int (2 : Int32)), (.ref a)]))
  obtain ⟨cl4, Ar4, -, S4, N4', H4, G4⟩ := id V_a
  have hin4 := inb_of S4 (j := (2 : Int32)) ⟨by decide, by decide⟩
  have hat4 := Has.at H4 hin4 (v := (.int x2)) rfl
  refine Go.st (fun _ kt => X0.iaload hx (j := (2 : Int32)) (v := (.int x2)) (by rw [e0]; exact Ar4.1) (State.isArrayOf_alike hZ.alike Ar4.2.1) Ar4.2.2 hin4 hat4 (g := (mkF m 21 #[.val (.ref a), .val (.long (((1 : Int64) * (x0.toInt64)) * (x1.toInt64))), .second, .val (.ref a), .val (.int (3 : Int32)), .val (.int (2 : Int32)), .val (.int x1)] [(.int (2 : Int32)), (.ref a)])) rfl rfl (hb hby d3_21) _ kt) ?_
  show Go p e below _ (s₁.setTop (mkF m 22 #[.val (.ref a), .val (.long (((1 : Int64) * (x0.toInt64)) * (x1.toInt64))), .second, .val (.ref a), .val (.int (3 : Int32)), .val (.int (2 : Int32)), .val (.int x1)] [(.int x2)]))
  refine Go.st (fun _ kt => XS.istore X0.here hx rfl (hb hby d3_22) rfl (l' := #[.val (.ref a), .val (.long (((1 : Int64) * (x0.toInt64)) * (x1.toInt64))), .second, .val (.ref a), .val (.int (3 : Int32)), .val (.int (2 : Int32)), .val (.int x2)]) rfl kt) ?_
  show Go p e below _ (s₁.setTop (mkF m 24 #[.val (.ref a), .val (.long (((1 : Int64) * (x0.toInt64)) * (x1.toInt64))), .second, .val (.ref a), .val (.int (3 : Int32)), .val (.int (2 : Int32)), .val (.int x2)] []))
  refine Go.st (fun _ kt => XS.iload X0.here hx rfl (hb hby d3_24) rfl kt) ?_
  show Go p e below _ (s₁.setTop (mkF m 26 #[.val (.ref a), .val (.long (((1 : Int64) * (x0.toInt64)) * (x1.toInt64))), .second, .val (.ref a), .val (.int (3 : Int32)), .val (.int (2 : Int32)), .val (.int x2)] [(.int x2)]))
  refine Go.st (fun _ kt => XS.ifYes X0.here hx rfl (pc0 := 26) (pc' := 44) rfl (hb hby d3_26) rfl ((if0 _ _).trans (tlt hF.2.2.1.1).2.2.1) (by decide) (by decide) kt) ?_
  show Go p e below _ (s₁.setTop (mkF m 44 #[.val (.ref a), .val (.long (((1 : Int64) * (x0.toInt64)) * (x1.toInt64))), .second, .val (.ref a), .val (.int (3 : Int32)), .val (.int (2 : Int32)), .val (.int x2)] []))
  refine Go.st (fun _ kt => XS.lloadN X0.here hx rfl (hb hby d3_44) rfl kt) ?_
  show Go p e below _ (s₁.setTop (mkF m 45 #[.val (.ref a), .val (.long (((1 : Int64) * (x0.toInt64)) * (x1.toInt64))), .second, .val (.ref a), .val (.int (3 : Int32)), .val (.int (2 : Int32)), .val (.int x2)] [(.long (((1 : Int64) * (x0.toInt64)) * (x1.toInt64)))]))
  refine Go.st (fun _ kt => X0.ldc2Long hx hown (mvT hZ (hw _ (List.mem_of_getElem? (i := 16) rfl))) (g := (mkF m 45 #[.val (.ref a), .val (.long (((1 : Int64) * (x0.toInt64)) * (x1.toInt64))), .second, .val (.ref a), .val (.int (3 : Int32)), .val (.int (2 : Int32)), .val (.int x2)] [(.long (((1 : Int64) * (x0.toInt64)) * (x1.toInt64)))])) rfl (hb hby d3_45) _ kt) ?_
  show Go p e below _ (s₁.setTop (mkF m 48 #[.val (.ref a), .val (.long (((1 : Int64) * (x0.toInt64)) * (x1.toInt64))), .second, .val (.ref a), .val (.int (3 : Int32)), .val (.int (2 : Int32)), .val (.int x2)] [(.long (9223372036854775807 : Int64)), (.long (((1 : Int64) * (x0.toInt64)) * (x1.toInt64)))]))
  refine Go.st (fun _ kt => XS.iload X0.here hx rfl (hb hby d3_48) rfl kt) ?_
  show Go p e below _ (s₁.setTop (mkF m 50 #[.val (.ref a), .val (.long (((1 : Int64) * (x0.toInt64)) * (x1.toInt64))), .second, .val (.ref a), .val (.int (3 : Int32)), .val (.int (2 : Int32)), .val (.int x2)] [(.int x2), (.long (9223372036854775807 : Int64)), (.long (((1 : Int64) * (x0.toInt64)) * (x1.toInt64)))]))
  refine Go.st (fun _ kt => XS.i2l X0.here hx rfl (hb hby d3_50) rfl kt) ?_
  show Go p e below _ (s₁.setTop (mkF m 51 #[.val (.ref a), .val (.long (((1 : Int64) * (x0.toInt64)) * (x1.toInt64))), .second, .val (.ref a), .val (.int (3 : Int32)), .val (.int (2 : Int32)), .val (.int x2)] [(.long (x2.toInt64)), (.long (9223372036854775807 : Int64)), (.long (((1 : Int64) * (x0.toInt64)) * (x1.toInt64)))]))
  refine Go.st (fun _ kt => XS.ldiv X0.here hx rfl (hb hby d3_51) rfl hF.2.2.1.2.1 kt) ?_
  show Go p e below _ (s₁.setTop (mkF m 52 #[.val (.ref a), .val (.long (((1 : Int64) * (x0.toInt64)) * (x1.toInt64))), .second, .val (.ref a), .val (.int (3 : Int32)), .val (.int (2 : Int32)), .val (.int x2)] [(.long ((9223372036854775807 : Int64) / (x2.toInt64))), (.long (((1 : Int64) * (x0.toInt64)) * (x1.toInt64)))]))
  refine Go.st (fun _ kt => XS.lcmp X0.here hx rfl (hb hby d3_52) rfl kt) ?_
  show Go p e below _ (s₁.setTop (mkF m 53 #[.val (.ref a), .val (.long (((1 : Int64) * (x0.toInt64)) * (x1.toInt64))), .second, .val (.ref a), .val (.int (3 : Int32)), .val (.int (2 : Int32)), .val (.int x2)] [(.int (lcmpW (((1 : Int64) * (x0.toInt64)) * (x1.toInt64)) ((9223372036854775807 : Int64) / (x2.toInt64))))]))
  refine Go.st (fun _ kt => XS.ifYes X0.here hx rfl (pc0 := 53) (pc' := 60) rfl (hb hby d3_53) rfl ((if0 _ _).trans (flt hF.2.2.1.2.2).2.2.2) (by decide) (by decide) kt) ?_
  show Go p e below _ (s₁.setTop (mkF m 60 #[.val (.ref a), .val (.long (((1 : Int64) * (x0.toInt64)) * (x1.toInt64))), .second, .val (.ref a), .val (.int (3 : Int32)), .val (.int (2 : Int32)), .val (.int x2)] []))
  refine Go.st (fun _ kt => XS.lloadN X0.here hx rfl (hb hby d3_60) rfl kt) ?_
  show Go p e below _ (s₁.setTop (mkF m 61 #[.val (.ref a), .val (.long (((1 : Int64) * (x0.toInt64)) * (x1.toInt64))), .second, .val (.ref a), .val (.int (3 : Int32)), .val (.int (2 : Int32)), .val (.int x2)] [(.long (((1 : Int64) * (x0.toInt64)) * (x1.toInt64)))]))
  refine Go.st (fun _ kt => XS.iload X0.here hx rfl (hb hby d3_61) rfl kt) ?_
  show Go p e below _ (s₁.setTop (mkF m 63 #[.val (.ref a), .val (.long (((1 : Int64) * (x0.toInt64)) * (x1.toInt64))), .second, .val (.ref a), .val (.int (3 : Int32)), .val (.int (2 : Int32)), .val (.int x2)] [(.int x2), (.long (((1 : Int64) * (x0.toInt64)) * (x1.toInt64)))]))
  refine Go.st (fun _ kt => XS.i2l X0.here hx rfl (hb hby d3_63) rfl kt) ?_
  show Go p e below _ (s₁.setTop (mkF m 64 #[.val (.ref a), .val (.long (((1 : Int64) * (x0.toInt64)) * (x1.toInt64))), .second, .val (.ref a), .val (.int (3 : Int32)), .val (.int (2 : Int32)), .val (.int x2)] [(.long (x2.toInt64)), (.long (((1 : Int64) * (x0.toInt64)) * (x1.toInt64)))]))
  refine Go.st (fun _ kt => XS.lmul X0.here hx rfl (hb hby d3_64) rfl kt) ?_
  show Go p e below _ (s₁.setTop (mkF m 65 #[.val (.ref a), .val (.long (((1 : Int64) * (x0.toInt64)) * (x1.toInt64))), .second, .val (.ref a), .val (.int (3 : Int32)), .val (.int (2 : Int32)), .val (.int x2)] [(.long ((((1 : Int64) * (x0.toInt64)) * (x1.toInt64)) * (x2.toInt64)))]))
  refine Go.st (fun _ kt => XS.lstoreN X0.here hx rfl (hb hby d3_65) rfl (l' := #[.val (.ref a), .val (.long ((((1 : Int64) * (x0.toInt64)) * (x1.toInt64)) * (x2.toInt64))), .second, .val (.ref a), .val (.int (3 : Int32)), .val (.int (2 : Int32)), .val (.int x2)]) rfl kt) ?_
  show Go p e below _ (s₁.setTop (mkF m 66 #[.val (.ref a), .val (.long ((((1 : Int64) * (x0.toInt64)) * (x1.toInt64)) * (x2.toInt64))), .second, .val (.ref a), .val (.int (3 : Int32)), .val (.int (2 : Int32)), .val (.int x2)] []))
  refine Go.st (fun _ kt => XS.iinc X0.here hx rfl (hb hby d3_66) rfl (l' := #[.val (.ref a), .val (.long ((((1 : Int64) * (x0.toInt64)) * (x1.toInt64)) * (x2.toInt64))), .second, .val (.ref a), .val (.int (3 : Int32)), .val (.int (3 : Int32)), .val (.int x2)]) rfl kt) ?_
  show Go p e below _ (s₁.setTop (mkF m 69 #[.val (.ref a), .val (.long ((((1 : Int64) * (x0.toInt64)) * (x1.toInt64)) * (x2.toInt64))), .second, .val (.ref a), .val (.int (3 : Int32)), .val (.int (3 : Int32)), .val (.int x2)] []))
  refine Go.st (fun _ kt => XS.goto X0.here hx rfl (pc0 := 69) (pc' := 11) rfl (hb hby d3_69) (by decide) (by decide) kt) ?_
  show Go p e below _ (s₁.setTop (mkF m 11 #[.val (.ref a), .val (.long ((((1 : Int64) * (x0.toInt64)) * (x1.toInt64)) * (x2.toInt64))), .second, .val (.ref a), .val (.int (3 : Int32)), .val (.int (3 : Int32)), .val (.int x2)] []))
  refine Go.st (fun _ kt => XS.iload X0.here hx rfl (hb hby d3_11) rfl kt) ?_
  show Go p e below _ (s₁.setTop (mkF m 13 #[.val (.ref a), .val (.long ((((1 : Int64) * (x0.toInt64)) * (x1.toInt64)) * (x2.toInt64))), .second, .val (.ref a), .val (.int (3 : Int32)), .val (.int (3 : Int32)), .val (.int x2)] [(.int (3 : Int32))]))
  refine Go.st (fun _ kt => XS.iload X0.here hx rfl (hb hby d3_13) rfl kt) ?_
  show Go p e below _ (s₁.setTop (mkF m 15 #[.val (.ref a), .val (.long ((((1 : Int64) * (x0.toInt64)) * (x1.toInt64)) * (x2.toInt64))), .second, .val (.ref a), .val (.int (3 : Int32)), .val (.int (3 : Int32)), .val (.int x2)] [(.int (3 : Int32)), (.int (3 : Int32))]))
  refine Go.st (fun _ kt => XS.icmpYes X0.here hx rfl (pc0 := 15) (pc' := 72) rfl (hb hby d3_15) rfl (flt (by decide : ¬ ((3 : Int32) < (3 : Int32)))).2.1 (by decide) (by decide) kt) ?_
  show Go p e below _ (s₁.setTop (mkF m 72 #[.val (.ref a), .val (.long ((((1 : Int64) * (x0.toInt64)) * (x1.toInt64)) * (x2.toInt64))), .second, .val (.ref a), .val (.int (3 : Int32)), .val (.int (3 : Int32)), .val (.int x2)] []))
  refine Go.st (fun _ kt => XS.lloadN X0.here hx rfl (hb hby d3_72) rfl kt) ?_
  show Go p e below _ (s₁.setTop (mkF m 73 #[.val (.ref a), .val (.long ((((1 : Int64) * (x0.toInt64)) * (x1.toInt64)) * (x2.toInt64))), .second, .val (.ref a), .val (.int (3 : Int32)), .val (.int (3 : Int32)), .val (.int x2)] [(.long ((((1 : Int64) * (x0.toInt64)) * (x1.toInt64)) * (x2.toInt64)))]))
  refine Go.retL X0 hx Bd.returns (BodyLoose.notSynchronized Bd) (hb hby d3_73) (Q := (Q_rm3 Z a k0 x0 x1 x2 h0 n0)) (by decide) (by decide) ?_
  show (Q_rm3 Z a k0 x0 x1 x2 h0 n0) _ s₁.heap _
  rw [e0]
  exact ⟨rfl, N0, rfl⟩
theorem d4_0 : decode prog_87_method_2_code 0 = .ok (.aload_n 0, 1) := by decide +kernel
theorem d4_1 : decode prog_87_method_2_code 1 = .ok (.arraylength, 1) := by decide +kernel
theorem d4_2 : decode prog_87_method_2_code 2 = .ok (.newarray .int, 2) := by decide +kernel
theorem d4_4 : decode prog_87_method_2_code 4 = .ok (.astore_n 1, 1) := by decide +kernel
theorem d4_5 : decode prog_87_method_2_code 5 = .ok (.iconst 1, 1) := by decide +kernel
theorem d4_6 : decode prog_87_method_2_code 6 = .ok (.istore_n 2, 1) := by decide +kernel
theorem d4_7 : decode prog_87_method_2_code 7 = .ok (.aload_n 0, 1) := by decide +kernel
theorem d4_8 : decode prog_87_method_2_code 8 = .ok (.arraylength, 1) := by decide +kernel
theorem d4_9 : decode prog_87_method_2_code 9 = .ok (.iconst 1, 1) := by decide +kernel
theorem d4_10 : decode prog_87_method_2_code 10 = .ok (.isub, 1) := by decide +kernel
theorem d4_11 : decode prog_87_method_2_code 11 = .ok (.istore_n 3, 1) := by decide +kernel
theorem d4_12 : decode prog_87_method_2_code 12 = .ok (.iload_n 3, 1) := by decide +kernel
theorem d4_13 : decode prog_87_method_2_code 13 = .ok (.ifCond .lt 19, 3) := by decide +kernel
theorem d4_16 : decode prog_87_method_2_code 16 = .ok (.aload_n 1, 1) := by decide +kernel
theorem d4_17 : decode prog_87_method_2_code 17 = .ok (.iload_n 3, 1) := by decide +kernel
theorem d4_18 : decode prog_87_method_2_code 18 = .ok (.iload_n 2, 1) := by decide +kernel
theorem d4_19 : decode prog_87_method_2_code 19 = .ok (.iastore, 1) := by decide +kernel
theorem d4_20 : decode prog_87_method_2_code 20 = .ok (.iload_n 2, 1) := by decide +kernel
theorem d4_21 : decode prog_87_method_2_code 21 = .ok (.aload_n 0, 1) := by decide +kernel
theorem d4_22 : decode prog_87_method_2_code 22 = .ok (.iload_n 3, 1) := by decide +kernel
theorem d4_23 : decode prog_87_method_2_code 23 = .ok (.iaload, 1) := by decide +kernel
theorem d4_24 : decode prog_87_method_2_code 24 = .ok (.imul, 1) := by decide +kernel
theorem d4_25 : decode prog_87_method_2_code 25 = .ok (.istore_n 2, 1) := by decide +kernel
theorem d4_26 : decode prog_87_method_2_code 26 = .ok (.iinc 3 (-1), 3) := by decide +kernel
theorem d4_29 : decode prog_87_method_2_code 29 = .ok (.goto (-17), 3) := by decide +kernel
theorem d4_32 : decode prog_87_method_2_code 32 = .ok (.aload_n 1, 1) := by decide +kernel
theorem d4_33 : decode prog_87_method_2_code 33 = .ok (.areturn, 1) := by decide +kernel
def Q_rm4 (Z : State) (a : Addr) (k0 : ClassId) (x0 : Int32) (x1 : Int32) (x2 : Int32) (h0 : Heap) (n0 : Nat) (v : Option Value) (h : Heap) (L : List Loc) : Prop := ∃ b kb, v = some (.ref b) ∧ Fr n0 L ∧ Keep h0 h [] ∧ h0.size ≤ b ∧ Arv Z h b kb .int (3 : Int32) [(.int (((1 : Int32) * x2) * x1)), (.int ((1 : Int32) * x2)), (.int (1 : Int32))] (.int (0 : Int32))
theorem ef_rm4 (m : MethodId) (a : Addr) : entryFrame m #[(.ref a)] 4 = mkF m 0 #[.val (.ref a), .unset, .unset, .unset] [] := by first | (simp [entryFrame, mkF, argsToLocals, Value.category]; done) | rfl
set_option maxRecDepth 65536 in
set_option maxHeartbeats 40000000 in
theorem rm4 (l : Launch) (Z : State) (a0 : Array Value) (hw : ∀ d ∈ tables_1, d.before a0 Z = true) (ws : List Jvm.Cond) (a : Addr) (k0 : ClassId) (x0 : Int32) (x1 : Int32) (x2 : Int32) (h0 : Heap) (n0 : Nat) (Z0 : n0 ≤ h0.size) (V_a : Arv Z h0 a k0 .int (3 : Int32) [(.int x0), (.int x1), (.int x2)] (.int (0 : Int32))) :
    MetFree l (⟨"com/example/tributary/tributary/model/CostTable", "strides", "([I)[I"⟩ : MethodName) (head1 (Jvm.Cond.code (⟨"com/example/tributary/tributary/model/CostTable", "strides", "([I)[I"⟩ : MethodName) prog_87_method_2_code 4 (some (.array .int)) :: ws) ({ frames := 0, cells := 1, slots := 3, locals := 0 } : Room)) (fun ag_ U_ => ag_ = #[(.ref a)] ∧ Z.Warmed39 U_.vm ∧ U_.heap = h0) (fun _ _ _ _ _ => True) (fun _ U_ o_ V_ => ∃ v_ L_, o_ = .returned v_ ∧ (Q_rm4 Z a k0 x0 x1 x2 h0 n0) v_ V_.heap L_ ∧ FrameEnd U_ o_ V_ L_ ({ frames := 0, cells := 1, slots := 3, locals := 0 } : Room).cells ({ frames := 0, cells := 1, slots := 3, locals := 0 } : Room).slots) := by
  refine MetFree.of_bodySF (plainFor_of_name own_pn0) hisR ?_
  intro p e s m args below meth c s₁ Bd hml0 hP hK
  obtain ⟨rfl, hZ, hh⟩ := hP
  have hx := Bd.exec
  have hby := Bd.bytes
  have hml : c.maxLocals = 4 := hml0
  have hown : s.vm.findClass "com/example/tributary/tributary/model/CostTable" = some m.cls := findClass_of_methodNamed Bd.named
  have hnm := (name_of_methodNamed Bd.named Bd.method).1
  have X0 : Stand p l e ({ frames := 0, cells := 1, slots := 3, locals := 0 } : Room) s m #[(.ref a)] below meth c s₁ [] 0 0 := Stand.of_body Bd
  have e0 : s₁.heap = h0 := by rw [← hh, Bd.state]; rfl
  have N0 := Fr.nil n0
  refine Go.st (G := fun s₂ o_ => ∃ v_ L_, o_ = .returned v_ ∧ (Q_rm4 Z a k0 x0 x1 x2 h0 n0) v_ s₂.heap L_ ∧ FrameEnd s o_ s₂ L_ ({ frames := 0, cells := 1, slots := 3, locals := 0 } : Room).cells ({ frames := 0, cells := 1, slots := 3, locals := 0 } : Room).slots) (fun t kt => castTop (ef_rm4 m a) kt) ?_
  show Go p e below _ (s₁.setTop (mkF m 0 #[.val (.ref a), .unset, .unset, .unset] []))
  refine Go.st (fun _ kt => XS.aloadN X0.here hx rfl (hb hby d4_0) rfl rfl kt) ?_
  show Go p e below _ (s₁.setTop (mkF m 1 #[.val (.ref a), .unset, .unset, .unset] [(.ref a)]))
  obtain ⟨cl1, Ar1, -, S1, N1', -, -⟩ := id V_a
  refine Go.st (fun _ kt => X0.arraylength hx (by rw [e0]; exact Ar1.1) (State.isArrayOf_alike hZ.alike Ar1.2.1) (g := (mkF m 1 #[.val (.ref a), .unset, .unset, .unset] [(.ref a)])) rfl rfl (hb hby d4_1) _ kt) ?_
  rw [len_of S1 N1']
  show Go p e below _ (s₁.setTop (mkF m 2 #[.val (.ref a), .unset, .unset, .unset] [(.int (3 : Int32))]))
  obtain ⟨T2, h2, k2, X2, e2, E2, A2, Y2, st2⟩ := newPE X0 hx hZ (hw _ (List.mem_of_getElem? (i := 2) rfl)) e0 (g := (mkF m 2 #[.val (.ref a), .unset, .unset, .unset] [(.int (3 : Int32))])) rfl (hb hby d4_2) rfl (by decide) (cap := 3) (by decide) (by decide) (by decide) (by decide) (ad := "[I") (by decide)
  obtain ⟨b2, g2⟩ : ∃ z, z = h0.size := ⟨_, rfl⟩
  rw [← g2] at A2 Y2 st2
  have lt_a_b2 : a < b2 := Nat.lt_of_lt_of_eq V_a.lt g2.symm
  have gn_b2 : n0 ≤ b2 := Nat.le_trans Z0 (Nat.le_of_eq g2.symm)
  have Zs2 : n0 ≤ h2.size := Nat.le_trans Z0 E2.1
  have K2 : Keep h0 h2 [] := (Keep.refl h0 []).ext E2
  have kn_b2 : h0.size ≤ b2 := Nat.le_trans (Keep.refl h0 []).1 (Nat.le_of_eq g2.symm)
  refine Go.st st2 ?_
  have V2 : Arv Z h2 b2 k2 .int (3 : Int32) [(.int (0 : Int32)), (.int (0 : Int32)), (.int (0 : Int32))] (.int (0 : Int32)) := (Arv.new A2 (by decide)).pad (pad_rep [] (.int (0 : Int32)) 3)
  show Go p e below _ (T2.setTop (mkF m 4 #[.val (.ref a), .unset, .unset, .unset] [(.ref b2)]))
  refine Go.st (fun _ kt => XS.astoreN X2.here hx rfl (hb hby d4_4) rfl rfl (l' := #[.val (.ref a), .val (.ref b2), .unset, .unset]) rfl kt) ?_
  show Go p e below _ (T2.setTop (mkF m 5 #[.val (.ref a), .val (.ref b2), .unset, .unset] []))
  refine Go.st (fun _ kt => XS.iconst X2.here hx rfl (hb hby d4_5) kt) ?_
  show Go p e below _ (T2.setTop (mkF m 6 #[.val (.ref a), .val (.ref b2), .unset, .unset] [(.int (1 : Int32))]))
  refine Go.st (fun _ kt => XS.istoreN X2.here hx rfl (hb hby d4_6) rfl (l' := #[.val (.ref a), .val (.ref b2), .val (.int (1 : Int32)), .unset]) rfl kt) ?_
  show Go p e below _ (T2.setTop (mkF m 7 #[.val (.ref a), .val (.ref b2), .val (.int (1 : Int32)), .unset] []))
  refine Go.st (fun _ kt => XS.aloadN X2.here hx rfl (hb hby d4_7) rfl rfl kt) ?_
  show Go p e below _ (T2.setTop (mkF m 8 #[.val (.ref a), .val (.ref b2), .val (.int (1 : Int32)), .unset] [(.ref a)]))
  have f4 := (V_a.ext E2)
  obtain ⟨cl3, Ar3, -, S3, N3', -, -⟩ := id f4
  refine Go.st (fun _ kt => X2.arraylength hx (by rw [e2]; exact Ar3.1) (State.isArrayOf_alike hZ.alike Ar3.2.1) (g := (mkF m 8 #[.val (.ref a), .val (.ref b2), .val (.int (1 : Int32)), .unset] [(.ref a)])) rfl rfl (hb hby d4_8) _ kt) ?_
  rw [len_of S3 N3']
  show Go p e below _ (T2.setTop (mkF m 9 #[.val (.ref a), .val (.ref b2), .val (.int (1 : Int32)), .unset] [(.int (3 : Int32))]))
  refine Go.st (fun _ kt => XS.iconst X2.here hx rfl (hb hby d4_9) kt) ?_
  show Go p e below _ (T2.setTop (mkF m 10 #[.val (.ref a), .val (.ref b2), .val (.int (1 : Int32)), .unset] [(.int (1 : Int32)), (.int (3 : Int32))]))
  refine Go.st (fun _ kt => XS.isub X2.here hx rfl (hb hby d4_10) rfl kt) ?_
  show Go p e below _ (T2.setTop (mkF m 11 #[.val (.ref a), .val (.ref b2), .val (.int (1 : Int32)), .unset] [(.int (2 : Int32))]))
  refine Go.st (fun _ kt => XS.istoreN X2.here hx rfl (hb hby d4_11) rfl (l' := #[.val (.ref a), .val (.ref b2), .val (.int (1 : Int32)), .val (.int (2 : Int32))]) rfl kt) ?_
  show Go p e below _ (T2.setTop (mkF m 12 #[.val (.ref a), .val (.ref b2), .val (.int (1 : Int32)), .val (.int (2 : Int32))] []))
  refine Go.st (fun _ kt => XS.iloadN X2.here hx rfl (hb hby d4_12) rfl kt) ?_
  show Go p e below _ (T2.setTop (mkF m 13 #[.val (.ref a), .val (.ref b2), .val (.int (1 : Int32)), .val (.int (2 : Int32))] [(.int (2 : Int32))]))
  refine Go.st (fun _ kt => XS.ifNo X2.here hx rfl (hb hby d4_13) rfl ((if0 _ _).trans (flt (by decide : ¬ ((2 : Int32) < (0 : Int32)))).1) kt) ?_
  show Go p e below _ (T2.setTop (mkF m 16 #[.val (.ref a), .val (.ref b2), .val (.int (1 : Int32)), .val (.int (2 : Int32))] []))
  refine Go.st (fun _ kt => XS.aloadN X2.here hx rfl (hb hby d4_16) rfl rfl kt) ?_
  show Go p e below _ (T2.setTop (mkF m 17 #[.val (.ref a), .val (.ref b2), .val (.int (1 : Int32)), .val (.int (2 : Int32))] [(.ref b2)]))
  refine Go.st (fun _ kt => XS.iloadN X2.here hx rfl (hb hby d4_17) rfl kt) ?_
  show Go p e below _ (T2.setTop (mkF m 18 #[.val (.ref a), .val (.ref b2), .val (.int (1 : Int32)), .val (.int (2 : Int32))] [(.int (2 : Int32)), (.ref b2)]))
  refine Go.st (fun _ kt => XS.iloadN X2.here hx rfl (hb hby d4_18) rfl kt) ?_
  show Go p e below _ (T2.setTop (mkF m 19 #[.val (.ref a), .val (.ref b2), .val (.int (1 : Int32)), .val (.int (2 : Int32))] [(.int (1 : Int32)), (.int (2 : Int32)), (.ref b2)]))
  obtain ⟨cl5, Ar5, q5, S5, N5', H5, G5⟩ := id V2
  have hin5 : ¬ ((2 : Int32) < 0 ∨ cl5.slots.size ≤ ((2 : Int32)).toNatClampNeg) := inb_of S5 ⟨by decide, by decide⟩
  obtain ⟨T6, h6, X6, e6, W6, st6⟩ := stI X2 hx hZ e2 Ar5 (j := (2 : Int32)) hin5 (g := (mkF m 19 #[.val (.ref a), .val (.ref b2), .val (.int (1 : Int32)), .val (.int (2 : Int32))] [(.int (1 : Int32)), (.int (2 : Int32)), (.ref b2)])) rfl rfl (hb hby d4_19)
  refine Go.st st6 ?_
  have V6 : Arv Z h6 b2 k2 .int (3 : Int32) [(.int (0 : Int32)), (.int (0 : Int32)), (.int (1 : Int32))] (.int (0 : Int32)) := Arv.set Ar5 q5 S5 N5' H5 G5 rfl W6 2 rfl (Nat.le_of_ble_eq_true rfl)
  have Zs6 : n0 ≤ h6.size := Nat.le_trans Zs2 (Nat.le_of_eq W6.size.symm)
  have N6 := Fr.snoc X6 N0 gn_b2
  have K6 : Keep h0 h6 [] := K2.wr W6 (Or.inr kn_b2)
  show Go p e below _ (T6.setTop (mkF m 20 #[.val (.ref a), .val (.ref b2), .val (.int (1 : Int32)), .val (.int (2 : Int32))] []))
  refine Go.st (fun _ kt => XS.iloadN X6.here hx rfl (hb hby d4_20) rfl kt) ?_
  show Go p e below _ (T6.setTop (mkF m 21 #[.val (.ref a), .val (.ref b2), .val (.int (1 : Int32)), .val (.int (2 : Int32))] [(.int (1 : Int32))]))
  refine Go.st (fun _ kt => XS.aloadN X6.here hx rfl (hb hby d4_21) rfl rfl kt) ?_
  show Go p e below _ (T6.setTop (mkF m 22 #[.val (.ref a), .val (.ref b2), .val (.int (1 : Int32)), .val (.int (2 : Int32))] [(.ref a), (.int (1 : Int32))]))
  refine Go.st (fun _ kt => XS.iloadN X6.here hx rfl (hb hby d4_22) rfl kt) ?_
  show Go p e below _ (T6.setTop (mkF m 23 #[.val (.ref a), .val (.ref b2), .val (.int (1 : Int32)), .val (.int (2 : Int32))] [(.int (2 : Int32)), (.ref a), (.int (1 : Int32))]))
  have f7 := (f4.other W6 (Nat.ne_of_lt lt_a_b2))
  obtain ⟨cl8, Ar8, -, S8, N8', H8, G8⟩ := id f7
  have hin8 := inb_of S8 (j := (2 : Int32)) ⟨by decide, by decide⟩
  have hat8 := Has.at H8 hin8 (v := (.int x2)) rfl
  refine Go.st (fun _ kt => X6.iaload hx (j := (2 : Int32)) (v := (.int x2)) (by rw [e6]; exact Ar8.1) (State.isArrayOf_alike hZ.alike Ar8.2.1) Ar8.2.2 hin8 hat8 (g := (mkF m 23 #[.val (.ref a), .val (.ref b2), .val (.int (1 : Int32)), .val (.int (2 : Int32))] [(.int (2 : Int32)), (.ref a), (.int (1 : Int32))])) rfl rfl (hb hby d4_23) _ kt) ?_
  show Go p e below _ (T6.setTop (mkF m 24 #[.val (.ref a), .val (.ref b2), .val (.int (1 : Int32)), .val (.int (2 : Int32))] [(.int x2), (.int (1 : Int32))]))
  refine Go.st (fun _ kt => XS.imul X6.here hx rfl (hb hby d4_24) rfl kt) ?_
  show Go p e below _ (T6.setTop (mkF m 25 #[.val (.ref a), .val (.ref b2), .val (.int (1 : Int32)), .val (.int (2 : Int32))] [(.int ((1 : Int32) * x2))]))
  refine Go.st (fun _ kt => XS.istoreN X6.here hx rfl (hb hby d4_25) rfl (l' := #[.val (.ref a), .val (.ref b2), .val (.int ((1 : Int32) * x2)), .val (.int (2 : Int32))]) rfl kt) ?_
  show Go p e below _ (T6.setTop (mkF m 26 #[.val (.ref a), .val (.ref b2), .val (.int ((1 : Int32) * x2)), .val (.int (2 : Int32))] []))
  refine Go.st (fun _ kt => XS.iinc X6.here hx rfl (hb hby d4_26) rfl (l' := #[.val (.ref a), .val (.ref b2), .val (.int ((1 : Int32) * x2)), .val (.int (1 : Int32))]) rfl kt) ?_
  show Go p e below _ (T6.setTop (mkF m 29 #[.val (.ref a), .val (.ref b2), .val (.int ((1 : Int32) * x2)), .val (.int (1 : Int32))] []))
  refine Go.st (fun _ kt => XS.goto X6.here hx rfl (pc0 := 29) (pc' := 12) rfl (hb hby d4_29) (by decide) (by decide) kt) ?_
  show Go p e below _ (T6.setTop (mkF m 12 #[.val (.ref a), .val (.ref b2), .val (.int ((1 : Int32) * x2)), .val (.int (1 : Int32))] []))
  refine Go.st (fun _ kt => XS.iloadN X6.here hx rfl (hb hby d4_12) rfl kt) ?_
  show Go p e below _ (T6.setTop (mkF m 13 #[.val (.ref a), .val (.ref b2), .val (.int ((1 : Int32) * x2)), .val (.int (1 : Int32))] [(.int (1 : Int32))]))
  refine Go.st (fun _ kt => XS.ifNo X6.here hx rfl (hb hby d4_13) rfl ((if0 _ _).trans (flt (by decide : ¬ ((1 : Int32) < (0 : Int32)))).1) kt) ?_
  show Go p e below _ (T6.setTop (mkF m 16 #[.val (.ref a), .val (.ref b2), .val (.int ((1 : Int32) * x2)), .val (.int (1 : Int32))] []))
  refine Go.st (fun _ kt => XS.aloadN X6.here hx rfl (hb hby d4_16) rfl rfl kt) ?_
  show Go p e below _ (T6.setTop (mkF m 17 #[.val (.ref a), .val (.ref b2), .val (.int ((1 : Int32) * x2)), .val (.int (1 : Int32))] [(.ref b2)]))
  refine Go.st (fun _ kt => XS.iloadN X6.here hx rfl (hb hby d4_17) rfl kt) ?_
  show Go p e below _ (T6.setTop (mkF m 18 #[.val (.ref a), .val (.ref b2), .val (.int ((1 : Int32) * x2)), .val (.int (1 : Int32))] [(.int (1 : Int32)), (.ref b2)]))
  refine Go.st (fun _ kt => XS.iloadN X6.here hx rfl (hb hby d4_18) rfl kt) ?_
  show Go p e below _ (T6.setTop (mkF m 19 #[.val (.ref a), .val (.ref b2), .val (.int ((1 : Int32) * x2)), .val (.int (1 : Int32))] [(.int ((1 : Int32) * x2)), (.int (1 : Int32)), (.ref b2)]))
  obtain ⟨cl9, Ar9, q9, S9, N9', H9, G9⟩ := id V6
  have hin9 : ¬ ((1 : Int32) < 0 ∨ cl9.slots.size ≤ ((1 : Int32)).toNatClampNeg) := inb_of S9 ⟨by decide, by decide⟩
  obtain ⟨T10, h10, X10, e10, W10, st10⟩ := stI X6 hx hZ e6 Ar9 (j := (1 : Int32)) hin9 (g := (mkF m 19 #[.val (.ref a), .val (.ref b2), .val (.int ((1 : Int32) * x2)), .val (.int (1 : Int32))] [(.int ((1 : Int32) * x2)), (.int (1 : Int32)), (.ref b2)])) rfl rfl (hb hby d4_19)
  refine Go.st st10 ?_
  have V10 : Arv Z h10 b2 k2 .int (3 : Int32) [(.int (0 : Int32)), (.int ((1 : Int32) * x2)), (.int (1 : Int32))] (.int (0 : Int32)) := Arv.set Ar9 q9 S9 N9' H9 G9 rfl W10 1 rfl (Nat.le_of_ble_eq_true rfl)
  have Zs10 : n0 ≤ h10.size := Nat.le_trans Zs6 (Nat.le_of_eq W10.size.symm)
  have N10 := Fr.snoc X10 N6 gn_b2
  have K10 : Keep h0 h10 [] := K6.wr W10 (Or.inr kn_b2)
  show Go p e below _ (T10.setTop (mkF m 20 #[.val (.ref a), .val (.ref b2), .val (.int ((1 : Int32) * x2)), .val (.int (1 : Int32))] []))
  refine Go.st (fun _ kt => XS.iloadN X10.here hx rfl (hb hby d4_20) rfl kt) ?_
  show Go p e below _ (T10.setTop (mkF m 21 #[.val (.ref a), .val (.ref b2), .val (.int ((1 : Int32) * x2)), .val (.int (1 : Int32))] [(.int ((1 : Int32) * x2))]))
  refine Go.st (fun _ kt => XS.aloadN X10.here hx rfl (hb hby d4_21) rfl rfl kt) ?_
  show Go p e below _ (T10.setTop (mkF m 22 #[.val (.ref a), .val (.ref b2), .val (.int ((1 : Int32) * x2)), .val (.int (1 : Int32))] [(.ref a), (.int ((1 : Int32) * x2))]))
  refine Go.st (fun _ kt => XS.iloadN X10.here hx rfl (hb hby d4_22) rfl kt) ?_
  show Go p e below _ (T10.setTop (mkF m 23 #[.val (.ref a), .val (.ref b2), .val (.int ((1 : Int32) * x2)), .val (.int (1 : Int32))] [(.int (1 : Int32)), (.ref a), (.int ((1 : Int32) * x2))]))
  have f11 := (f7.other W10 (Nat.ne_of_lt lt_a_b2))
  obtain ⟨cl12, Ar12, -, S12, N12', H12, G12⟩ := id f11
  have hin12 := inb_of S12 (j := (1 : Int32)) ⟨by decide, by decide⟩
  have hat12 := Has.at H12 hin12 (v := (.int x1)) rfl
  refine Go.st (fun _ kt => X10.iaload hx (j := (1 : Int32)) (v := (.int x1)) (by rw [e10]; exact Ar12.1) (State.isArrayOf_alike hZ.alike Ar12.2.1) Ar12.2.2 hin12 hat12 (g := (mkF m 23 #[.val (.ref a), .val (.ref b2), .val (.int ((1 : Int32) * x2)), .val (.int (1 : Int32))] [(.int (1 : Int32)), (.ref a), (.int ((1 : Int32) * x2))])) rfl rfl (hb hby d4_23) _ kt) ?_
  show Go p e below _ (T10.setTop (mkF m 24 #[.val (.ref a), .val (.ref b2), .val (.int ((1 : Int32) * x2)), .val (.int (1 : Int32))] [(.int x1), (.int ((1 : Int32) * x2))]))
  refine Go.st (fun _ kt => XS.imul X10.here hx rfl (hb hby d4_24) rfl kt) ?_
  show Go p e below _ (T10.setTop (mkF m 25 #[.val (.ref a), .val (.ref b2), .val (.int ((1 : Int32) * x2)), .val (.int (1 : Int32))] [(.int (((1 : Int32) * x2) * x1))]))
  refine Go.st (fun _ kt => XS.istoreN X10.here hx rfl (hb hby d4_25) rfl (l' := #[.val (.ref a), .val (.ref b2), .val (.int (((1 : Int32) * x2) * x1)), .val (.int (1 : Int32))]) rfl kt) ?_
  show Go p e below _ (T10.setTop (mkF m 26 #[.val (.ref a), .val (.ref b2), .val (.int (((1 : Int32) * x2) * x1)), .val (.int (1 : Int32))] []))
  refine Go.st (fun _ kt => XS.iinc X10.here hx rfl (hb hby d4_26) rfl (l' := #[.val (.ref a), .val (.ref b2), .val (.int (((1 : Int32) * x2) * x1)), .val (.int (0 : Int32))]) rfl kt) ?_
  show Go p e below _ (T10.setTop (mkF m 29 #[.val (.ref a), .val (.ref b2), .val (.int (((1 : Int32) * x2) * x1)), .val (.int (0 : Int32))] []))
  refine Go.st (fun _ kt => XS.goto X10.here hx rfl (pc0 := 29) (pc' := 12) rfl (hb hby d4_29) (by decide) (by decide) kt) ?_
  show Go p e below _ (T10.setTop (mkF m 12 #[.val (.ref a), .val (.ref b2), .val (.int (((1 : Int32) * x2) * x1)), .val (.int (0 : Int32))] []))
  refine Go.st (fun _ kt => XS.iloadN X10.here hx rfl (hb hby d4_12) rfl kt) ?_
  show Go p e below _ (T10.setTop (mkF m 13 #[.val (.ref a), .val (.ref b2), .val (.int (((1 : Int32) * x2) * x1)), .val (.int (0 : Int32))] [(.int (0 : Int32))]))
  refine Go.st (fun _ kt => XS.ifNo X10.here hx rfl (hb hby d4_13) rfl ((if0 _ _).trans (flt (by decide : ¬ ((0 : Int32) < (0 : Int32)))).1) kt) ?_
  show Go p e below _ (T10.setTop (mkF m 16 #[.val (.ref a), .val (.ref b2), .val (.int (((1 : Int32) * x2) * x1)), .val (.int (0 : Int32))] []))
  refine Go.st (fun _ kt => XS.aloadN X10.here hx rfl (hb hby d4_16) rfl rfl kt) ?_
  show Go p e below _ (T10.setTop (mkF m 17 #[.val (.ref a), .val (.ref b2), .val (.int (((1 : Int32) * x2) * x1)), .val (.int (0 : Int32))] [(.ref b2)]))
  refine Go.st (fun _ kt => XS.iloadN X10.here hx rfl (hb hby d4_17) rfl kt) ?_
  show Go p e below _ (T10.setTop (mkF m 18 #[.val (.ref a), .val (.ref b2), .val (.int (((1 : Int32) * x2) * x1)), .val (.int (0 : Int32))] [(.int (0 : Int32)), (.ref b2)]))
  refine Go.st (fun _ kt => XS.iloadN X10.here hx rfl (hb hby d4_18) rfl kt) ?_
  show Go p e below _ (T10.setTop (mkF m 19 #[.val (.ref a), .val (.ref b2), .val (.int (((1 : Int32) * x2) * x1)), .val (.int (0 : Int32))] [(.int (((1 : Int32) * x2) * x1)), (.int (0 : Int32)), (.ref b2)]))
  obtain ⟨cl13, Ar13, q13, S13, N13', H13, G13⟩ := id V10
  have hin13 : ¬ ((0 : Int32) < 0 ∨ cl13.slots.size ≤ ((0 : Int32)).toNatClampNeg) := inb_of S13 ⟨by decide, by decide⟩
  obtain ⟨T14, h14, X14, e14, W14, st14⟩ := stI X10 hx hZ e10 Ar13 (j := (0 : Int32)) hin13 (g := (mkF m 19 #[.val (.ref a), .val (.ref b2), .val (.int (((1 : Int32) * x2) * x1)), .val (.int (0 : Int32))] [(.int (((1 : Int32) * x2) * x1)), (.int (0 : Int32)), (.ref b2)])) rfl rfl (hb hby d4_19)
  refine Go.st st14 ?_
  have V14 : Arv Z h14 b2 k2 .int (3 : Int32) [(.int (((1 : Int32) * x2) * x1)), (.int ((1 : Int32) * x2)), (.int (1 : Int32))] (.int (0 : Int32)) := Arv.set Ar13 q13 S13 N13' H13 G13 rfl W14 0 rfl (Nat.le_of_ble_eq_true rfl)
  have Zs14 : n0 ≤ h14.size := Nat.le_trans Zs10 (Nat.le_of_eq W14.size.symm)
  have N14 := Fr.snoc X14 N10 gn_b2
  have K14 : Keep h0 h14 [] := K10.wr W14 (Or.inr kn_b2)
  show Go p e below _ (T14.setTop (mkF m 20 #[.val (.ref a), .val (.ref b2), .val (.int (((1 : Int32) * x2) * x1)), .val (.int (0 : Int32))] []))
  refine Go.st (fun _ kt => XS.iloadN X14.here hx rfl (hb hby d4_20) rfl kt) ?_
  show Go p e below _ (T14.setTop (mkF m 21 #[.val (.ref a), .val (.ref b2), .val (.int (((1 : Int32) * x2) * x1)), .val (.int (0 : Int32))] [(.int (((1 : Int32) * x2) * x1))]))
  refine Go.st (fun _ kt => XS.aloadN X14.here hx rfl (hb hby d4_21) rfl rfl kt) ?_
  show Go p e below _ (T14.setTop (mkF m 22 #[.val (.ref a), .val (.ref b2), .val (.int (((1 : Int32) * x2) * x1)), .val (.int (0 : Int32))] [(.ref a), (.int (((1 : Int32) * x2) * x1))]))
  refine Go.st (fun _ kt => XS.iloadN X14.here hx rfl (hb hby d4_22) rfl kt) ?_
  show Go p e below _ (T14.setTop (mkF m 23 #[.val (.ref a), .val (.ref b2), .val (.int (((1 : Int32) * x2) * x1)), .val (.int (0 : Int32))] [(.int (0 : Int32)), (.ref a), (.int (((1 : Int32) * x2) * x1))]))
  have f15 := (f11.other W14 (Nat.ne_of_lt lt_a_b2))
  obtain ⟨cl16, Ar16, -, S16, N16', H16, G16⟩ := id f15
  have hin16 := inb_of S16 (j := (0 : Int32)) ⟨by decide, by decide⟩
  have hat16 := Has.at H16 hin16 (v := (.int x0)) rfl
  refine Go.st (fun _ kt => X14.iaload hx (j := (0 : Int32)) (v := (.int x0)) (by rw [e14]; exact Ar16.1) (State.isArrayOf_alike hZ.alike Ar16.2.1) Ar16.2.2 hin16 hat16 (g := (mkF m 23 #[.val (.ref a), .val (.ref b2), .val (.int (((1 : Int32) * x2) * x1)), .val (.int (0 : Int32))] [(.int (0 : Int32)), (.ref a), (.int (((1 : Int32) * x2) * x1))])) rfl rfl (hb hby d4_23) _ kt) ?_
  show Go p e below _ (T14.setTop (mkF m 24 #[.val (.ref a), .val (.ref b2), .val (.int (((1 : Int32) * x2) * x1)), .val (.int (0 : Int32))] [(.int x0), (.int (((1 : Int32) * x2) * x1))]))
  refine Go.st (fun _ kt => XS.imul X14.here hx rfl (hb hby d4_24) rfl kt) ?_
  show Go p e below _ (T14.setTop (mkF m 25 #[.val (.ref a), .val (.ref b2), .val (.int (((1 : Int32) * x2) * x1)), .val (.int (0 : Int32))] [(.int ((((1 : Int32) * x2) * x1) * x0))]))
  refine Go.st (fun _ kt => XS.istoreN X14.here hx rfl (hb hby d4_25) rfl (l' := #[.val (.ref a), .val (.ref b2), .val (.int ((((1 : Int32) * x2) * x1) * x0)), .val (.int (0 : Int32))]) rfl kt) ?_
  show Go p e below _ (T14.setTop (mkF m 26 #[.val (.ref a), .val (.ref b2), .val (.int ((((1 : Int32) * x2) * x1) * x0)), .val (.int (0 : Int32))] []))
  refine Go.st (fun _ kt => XS.iinc X14.here hx rfl (hb hby d4_26) rfl (l' := #[.val (.ref a), .val (.ref b2), .val (.int ((((1 : Int32) * x2) * x1) * x0)), .val (.int (-1 : Int32))]) rfl kt) ?_
  show Go p e below _ (T14.setTop (mkF m 29 #[.val (.ref a), .val (.ref b2), .val (.int ((((1 : Int32) * x2) * x1) * x0)), .val (.int (-1 : Int32))] []))
  refine Go.st (fun _ kt => XS.goto X14.here hx rfl (pc0 := 29) (pc' := 12) rfl (hb hby d4_29) (by decide) (by decide) kt) ?_
  show Go p e below _ (T14.setTop (mkF m 12 #[.val (.ref a), .val (.ref b2), .val (.int ((((1 : Int32) * x2) * x1) * x0)), .val (.int (-1 : Int32))] []))
  refine Go.st (fun _ kt => XS.iloadN X14.here hx rfl (hb hby d4_12) rfl kt) ?_
  show Go p e below _ (T14.setTop (mkF m 13 #[.val (.ref a), .val (.ref b2), .val (.int ((((1 : Int32) * x2) * x1) * x0)), .val (.int (-1 : Int32))] [(.int (-1 : Int32))]))
  refine Go.st (fun _ kt => XS.ifYes X14.here hx rfl (pc0 := 13) (pc' := 32) rfl (hb hby d4_13) rfl ((if0 _ _).trans (tlt (by decide : (-1 : Int32) < (0 : Int32))).1) (by decide) (by decide) kt) ?_
  show Go p e below _ (T14.setTop (mkF m 32 #[.val (.ref a), .val (.ref b2), .val (.int ((((1 : Int32) * x2) * x1) * x0)), .val (.int (-1 : Int32))] []))
  refine Go.st (fun _ kt => XS.aloadN X14.here hx rfl (hb hby d4_32) rfl rfl kt) ?_
  show Go p e below _ (T14.setTop (mkF m 33 #[.val (.ref a), .val (.ref b2), .val (.int ((((1 : Int32) * x2) * x1) * x0)), .val (.int (-1 : Int32))] [(.ref b2)]))
  refine Go.retA X14 hx Bd.returns rfl rfl (BodyLoose.notSynchronized Bd) (hb hby d4_33) (Q := (Q_rm4 Z a k0 x0 x1 x2 h0 n0)) (by decide) (by decide) ?_
  show (Q_rm4 Z a k0 x0 x1 x2 h0 n0) _ T14.heap _
  rw [e14]
  exact ⟨b2, k2, rfl, N14, K14, kn_b2, V14⟩
theorem d5_0 : decode prog_87_method_9_code 0 = .ok (.iconst 0, 1) := by decide +kernel
theorem d5_1 : decode prog_87_method_9_code 1 = .ok (.istore_n 2, 1) := by decide +kernel
theorem d5_2 : decode prog_87_method_9_code 2 = .ok (.iconst 0, 1) := by decide +kernel
theorem d5_3 : decode prog_87_method_9_code 3 = .ok (.istore_n 3, 1) := by decide +kernel
theorem d5_4 : decode prog_87_method_9_code 4 = .ok (.iload_n 3, 1) := by decide +kernel
theorem d5_5 : decode prog_87_method_9_code 5 = .ok (.aload_n 0, 1) := by decide +kernel
theorem d5_6 : decode prog_87_method_9_code 6 = .ok (.getfield 42, 3) := by decide +kernel
theorem d5_9 : decode prog_87_method_9_code 9 = .ok (.arraylength, 1) := by decide +kernel
theorem d5_10 : decode prog_87_method_9_code 10 = .ok (.if_icmp .ge 26, 3) := by decide +kernel
theorem d5_13 : decode prog_87_method_9_code 13 = .ok (.aload_n 0, 1) := by decide +kernel
theorem d5_14 : decode prog_87_method_9_code 14 = .ok (.getfield 42, 3) := by decide +kernel
theorem d5_17 : decode prog_87_method_9_code 17 = .ok (.iload_n 3, 1) := by decide +kernel
theorem d5_18 : decode prog_87_method_9_code 18 = .ok (.iaload, 1) := by decide +kernel
theorem d5_19 : decode prog_87_method_9_code 19 = .ok (.iload_n 1, 1) := by decide +kernel
theorem d5_20 : decode prog_87_method_9_code 20 = .ok (.if_icmp .ne 10, 3) := by decide +kernel
theorem d5_23 : decode prog_87_method_9_code 23 = .ok (.aload_n 0, 1) := by decide +kernel
theorem d5_24 : decode prog_87_method_9_code 24 = .ok (.getfield 52, 3) := by decide +kernel
theorem d5_27 : decode prog_87_method_9_code 27 = .ok (.iload_n 3, 1) := by decide +kernel
theorem d5_28 : decode prog_87_method_9_code 28 = .ok (.iaload, 1) := by decide +kernel
theorem d5_29 : decode prog_87_method_9_code 29 = .ok (.istore_n 2, 1) := by decide +kernel
theorem d5_30 : decode prog_87_method_9_code 30 = .ok (.iinc 3 1, 3) := by decide +kernel
theorem d5_33 : decode prog_87_method_9_code 33 = .ok (.goto (-29), 3) := by decide +kernel
theorem d5_36 : decode prog_87_method_9_code 36 = .ok (.iload_n 2, 1) := by decide +kernel
theorem d5_37 : decode prog_87_method_9_code 37 = .ok (.ireturn, 1) := by decide +kernel
def Q_rm5 (Z : State) (a : Addr) (qq : Int32) (av : Addr) (kv : ClassId) (ar : Addr) (kr : ClassId) (y0 : Int32) (y1 : Int32) (y2 : Int32) (z0 : Int32) (z1 : Int32) (z2 : Int32) (h0 : Heap) (n0 : Nat) (v : Option Value) (h : Heap) (L : List Loc) : Prop := v = some (.int (own_st qq y0 y1 y2 z0 z1 z2)) ∧ Fr n0 L ∧ h = h0
theorem ef_rm5 (m : MethodId) (a : Addr) (qq : Int32) : entryFrame m #[(.ref a), (.int qq)] 4 = mkF m 0 #[.val (.ref a), .val (.int qq), .unset, .unset] [] := by first | (simp [entryFrame, mkF, argsToLocals, Value.category]; done) | rfl
set_option maxRecDepth 65536 in
set_option maxHeartbeats 40000000 in
theorem rm5 (l : Launch) (Z : State) (a0 : Array Value) (hw : ∀ d ∈ tables_1, d.before a0 Z = true) (ws : List Jvm.Cond) (a : Addr) (qq : Int32) (av : Addr) (kv : ClassId) (ar : Addr) (kr : ClassId) (y0 : Int32) (y1 : Int32) (y2 : Int32) (z0 : Int32) (z1 : Int32) (z2 : Int32) (h0 : Heap) (n0 : Nat) (Z0 : n0 ≤ h0.size) (F_v : Fld Z h0 a "com/example/tributary/tributary/model/CostTable" "variables" "[I" (.ref av)) (F_s : Fld Z h0 a "com/example/tributary/tributary/model/CostTable" "strides" "[I" (.ref ar)) (V_v : Arv Z h0 av kv .int (3 : Int32) [(.int y0), (.int y1), (.int y2)] (.int (0 : Int32))) (V_s : Arv Z h0 ar kr .int (3 : Int32) [(.int z0), (.int z1), (.int z2)] (.int (0 : Int32))) :
    MetFree l (⟨"com/example/tributary/tributary/model/CostTable", "stride", "(I)I"⟩ : MethodName) (head1 (Jvm.Cond.code (⟨"com/example/tributary/tributary/model/CostTable", "stride", "(I)I"⟩ : MethodName) prog_87_method_9_code 4 (some .int) :: ws) ({ frames := 0, cells := 0, slots := 0, locals := 0 } : Room)) (fun ag_ U_ => ag_ = #[(.ref a), (.int qq)] ∧ Z.Warmed39 U_.vm ∧ U_.heap = h0) (fun _ _ _ _ _ => True) (fun _ U_ o_ V_ => ∃ v_ L_, o_ = .returned v_ ∧ (Q_rm5 Z a qq av kv ar kr y0 y1 y2 z0 z1 z2 h0 n0) v_ V_.heap L_ ∧ FrameEnd U_ o_ V_ L_ ({ frames := 0, cells := 0, slots := 0, locals := 0 } : Room).cells ({ frames := 0, cells := 0, slots := 0, locals := 0 } : Room).slots) := by
  refine MetFree.of_bodySF (plainFor_of_name own_pn0) hisR ?_
  intro p e s m args below meth c s₁ Bd hml0 hP hK
  obtain ⟨rfl, hZ, hh⟩ := hP
  have hx := Bd.exec
  have hby := Bd.bytes
  have hml : c.maxLocals = 4 := hml0
  have hown : s.vm.findClass "com/example/tributary/tributary/model/CostTable" = some m.cls := findClass_of_methodNamed Bd.named
  have hnm := (name_of_methodNamed Bd.named Bd.method).1
  have X0 : Stand p l e ({ frames := 0, cells := 0, slots := 0, locals := 0 } : Room) s m #[(.ref a), (.int qq)] below meth c s₁ [] 0 0 := Stand.of_body Bd
  have e0 : s₁.heap = h0 := by rw [← hh, Bd.state]; rfl
  have N0 := Fr.nil n0
  refine Go.st (G := fun s₂ o_ => ∃ v_ L_, o_ = .returned v_ ∧ (Q_rm5 Z a qq av kv ar kr y0 y1 y2 z0 z1 z2 h0 n0) v_ s₂.heap L_ ∧ FrameEnd s o_ s₂ L_ ({ frames := 0, cells := 0, slots := 0, locals := 0 } : Room).cells ({ frames := 0, cells := 0, slots := 0, locals := 0 } : Room).slots) (fun t kt => castTop (ef_rm5 m a qq) kt) ?_
  show Go p e below _ (s₁.setTop (mkF m 0 #[.val (.ref a), .val (.int qq), .unset, .unset] []))
  refine Go.st (fun _ kt => XS.iconst X0.here hx rfl (hb hby d5_0) kt) ?_
  show Go p e below _ (s₁.setTop (mkF m 1 #[.val (.ref a), .val (.int qq), .unset, .unset] [(.int (0 : Int32))]))
  refine Go.st (fun _ kt => XS.istoreN X0.here hx rfl (hb hby d5_1) rfl (l' := #[.val (.ref a), .val (.int qq), .val (.int (0 : Int32)), .unset]) rfl kt) ?_
  show Go p e below _ (s₁.setTop (mkF m 2 #[.val (.ref a), .val (.int qq), .val (.int (0 : Int32)), .unset] []))
  refine Go.st (fun _ kt => XS.iconst X0.here hx rfl (hb hby d5_2) kt) ?_
  show Go p e below _ (s₁.setTop (mkF m 3 #[.val (.ref a), .val (.int qq), .val (.int (0 : Int32)), .unset] [(.int (0 : Int32))]))
  refine Go.st (fun _ kt => XS.istoreN X0.here hx rfl (hb hby d5_3) rfl (l' := #[.val (.ref a), .val (.int qq), .val (.int (0 : Int32)), .val (.int (0 : Int32))]) rfl kt) ?_
  show Go p e below _ (s₁.setTop (mkF m 4 #[.val (.ref a), .val (.int qq), .val (.int (0 : Int32)), .val (.int (0 : Int32))] []))
  refine Go.st (fun _ kt => XS.iloadN X0.here hx rfl (hb hby d5_4) rfl kt) ?_
  show Go p e below _ (s₁.setTop (mkF m 5 #[.val (.ref a), .val (.int qq), .val (.int (0 : Int32)), .val (.int (0 : Int32))] [(.int (0 : Int32))]))
  refine Go.st (fun _ kt => XS.aloadN X0.here hx rfl (hb hby d5_5) rfl rfl kt) ?_
  show Go p e below _ (s₁.setTop (mkF m 6 #[.val (.ref a), .val (.int qq), .val (.int (0 : Int32)), .val (.int (0 : Int32))] [(.ref a), (.int (0 : Int32))]))
  obtain ⟨T1, X1, e1, st1⟩ := getF X0 hx hZ hown (host := "") (Or.inl (hw _ (List.mem_of_getElem? (i := 26) rfl))) Via.refl e0 F_v (g := (mkF m 6 #[.val (.ref a), .val (.int qq), .val (.int (0 : Int32)), .val (.int (0 : Int32))] [(.ref a), (.int (0 : Int32))])) rfl rfl (hb hby d5_6)
  refine Go.st st1 ?_
  show Go p e below _ (T1.setTop (mkF m 9 #[.val (.ref a), .val (.int qq), .val (.int (0 : Int32)), .val (.int (0 : Int32))] [(.ref av), (.int (0 : Int32))]))
  obtain ⟨cl2, Ar2, -, S2, N2', -, -⟩ := id V_v
  refine Go.st (fun _ kt => X1.arraylength hx (by rw [e1]; exact Ar2.1) (State.isArrayOf_alike hZ.alike Ar2.2.1) (g := (mkF m 9 #[.val (.ref a), .val (.int qq), .val (.int (0 : Int32)), .val (.int (0 : Int32))] [(.ref av), (.int (0 : Int32))])) rfl rfl (hb hby d5_9) _ kt) ?_
  rw [len_of S2 N2']
  show Go p e below _ (T1.setTop (mkF m 10 #[.val (.ref a), .val (.int qq), .val (.int (0 : Int32)), .val (.int (0 : Int32))] [(.int (3 : Int32)), (.int (0 : Int32))]))
  refine Go.st (fun _ kt => XS.icmpNo X1.here hx rfl (hb hby d5_10) rfl (tlt (by decide : (0 : Int32) < (3 : Int32))).2.1 kt) ?_
  show Go p e below _ (T1.setTop (mkF m 13 #[.val (.ref a), .val (.int qq), .val (.int (0 : Int32)), .val (.int (0 : Int32))] []))
  refine Go.st (fun _ kt => XS.aloadN X1.here hx rfl (hb hby d5_13) rfl rfl kt) ?_
  show Go p e below _ (T1.setTop (mkF m 14 #[.val (.ref a), .val (.int qq), .val (.int (0 : Int32)), .val (.int (0 : Int32))] [(.ref a)]))
  obtain ⟨T3, X3, e3, st3⟩ := getF X1 hx hZ hown (host := "") (Or.inl (hw _ (List.mem_of_getElem? (i := 26) rfl))) Via.refl e1 F_v (g := (mkF m 14 #[.val (.ref a), .val (.int qq), .val (.int (0 : Int32)), .val (.int (0 : Int32))] [(.ref a)])) rfl rfl (hb hby d5_14)
  refine Go.st st3 ?_
  show Go p e below _ (T3.setTop (mkF m 17 #[.val (.ref a), .val (.int qq), .val (.int (0 : Int32)), .val (.int (0 : Int32))] [(.ref av)]))
  refine Go.st (fun _ kt => XS.iloadN X3.here hx rfl (hb hby d5_17) rfl kt) ?_
  show Go p e below _ (T3.setTop (mkF m 18 #[.val (.ref a), .val (.int qq), .val (.int (0 : Int32)), .val (.int (0 : Int32))] [(.int (0 : Int32)), (.ref av)]))
  obtain ⟨cl4, Ar4, -, S4, N4', H4, G4⟩ := id V_v
  have hin4 := inb_of S4 (j := (0 : Int32)) ⟨by decide, by decide⟩
  have hat4 := Has.at H4 hin4 (v := (.int y0)) rfl
  refine Go.st (fun _ kt => X3.iaload hx (j := (0 : Int32)) (v := (.int y0)) (by rw [e3]; exact Ar4.1) (State.isArrayOf_alike hZ.alike Ar4.2.1) Ar4.2.2 hin4 hat4 (g := (mkF m 18 #[.val (.ref a), .val (.int qq), .val (.int (0 : Int32)), .val (.int (0 : Int32))] [(.int (0 : Int32)), (.ref av)])) rfl rfl (hb hby d5_18) _ kt) ?_
  show Go p e below _ (T3.setTop (mkF m 19 #[.val (.ref a), .val (.int qq), .val (.int (0 : Int32)), .val (.int (0 : Int32))] [(.int y0)]))
  refine Go.st (fun _ kt => XS.iloadN X3.here hx rfl (hb hby d5_19) rfl kt) ?_
  show Go p e below _ (T3.setTop (mkF m 20 #[.val (.ref a), .val (.int qq), .val (.int (0 : Int32)), .val (.int (0 : Int32))] [(.int qq), (.int y0)]))
  by_cases hc20_5 : y0 = qq
  · refine Go.st (fun _ kt => XS.icmpNo X3.here hx rfl (hb hby d5_20) rfl (teq hc20_5).2 kt) ?_
    show Go p e below _ (T3.setTop (mkF m 23 #[.val (.ref a), .val (.int qq), .val (.int (0 : Int32)), .val (.int (0 : Int32))] []))
    refine Go.st (fun _ kt => XS.aloadN X3.here hx rfl (hb hby d5_23) rfl rfl kt) ?_
    show Go p e below _ (T3.setTop (mkF m 24 #[.val (.ref a), .val (.int qq), .val (.int (0 : Int32)), .val (.int (0 : Int32))] [(.ref a)]))
    obtain ⟨T6, X6, e6, st6⟩ := getF X3 hx hZ hown (host := "") (Or.inl (hw _ (List.mem_of_getElem? (i := 33) rfl))) Via.refl e3 F_s (g := (mkF m 24 #[.val (.ref a), .val (.int qq), .val (.int (0 : Int32)), .val (.int (0 : Int32))] [(.ref a)])) rfl rfl (hb hby d5_24)
    refine Go.st st6 ?_
    show Go p e below _ (T6.setTop (mkF m 27 #[.val (.ref a), .val (.int qq), .val (.int (0 : Int32)), .val (.int (0 : Int32))] [(.ref ar)]))
    refine Go.st (fun _ kt => XS.iloadN X6.here hx rfl (hb hby d5_27) rfl kt) ?_
    show Go p e below _ (T6.setTop (mkF m 28 #[.val (.ref a), .val (.int qq), .val (.int (0 : Int32)), .val (.int (0 : Int32))] [(.int (0 : Int32)), (.ref ar)]))
    obtain ⟨cl7, Ar7, -, S7, N7', H7, G7⟩ := id V_s
    have hin7 := inb_of S7 (j := (0 : Int32)) ⟨by decide, by decide⟩
    have hat7 := Has.at H7 hin7 (v := (.int z0)) rfl
    refine Go.st (fun _ kt => X6.iaload hx (j := (0 : Int32)) (v := (.int z0)) (by rw [e6]; exact Ar7.1) (State.isArrayOf_alike hZ.alike Ar7.2.1) Ar7.2.2 hin7 hat7 (g := (mkF m 28 #[.val (.ref a), .val (.int qq), .val (.int (0 : Int32)), .val (.int (0 : Int32))] [(.int (0 : Int32)), (.ref ar)])) rfl rfl (hb hby d5_28) _ kt) ?_
    show Go p e below _ (T6.setTop (mkF m 29 #[.val (.ref a), .val (.int qq), .val (.int (0 : Int32)), .val (.int (0 : Int32))] [(.int z0)]))
    refine Go.st (fun _ kt => XS.istoreN X6.here hx rfl (hb hby d5_29) rfl (l' := #[.val (.ref a), .val (.int qq), .val (.int z0), .val (.int (0 : Int32))]) rfl kt) ?_
    show Go p e below _ (T6.setTop (mkF m 30 #[.val (.ref a), .val (.int qq), .val (.int z0), .val (.int (0 : Int32))] []))
    refine Go.st (fun _ kt => XS.iinc X6.here hx rfl (hb hby d5_30) rfl (l' := #[.val (.ref a), .val (.int qq), .val (.int z0), .val (.int (1 : Int32))]) rfl kt) ?_
    show Go p e below _ (T6.setTop (mkF m 33 #[.val (.ref a), .val (.int qq), .val (.int z0), .val (.int (1 : Int32))] []))
    refine Go.st (fun _ kt => XS.goto X6.here hx rfl (pc0 := 33) (pc' := 4) rfl (hb hby d5_33) (by decide) (by decide) kt) ?_
    show Go p e below _ (T6.setTop (mkF m 4 #[.val (.ref a), .val (.int qq), .val (.int z0), .val (.int (1 : Int32))] []))
    refine Go.st (fun _ kt => XS.iloadN X6.here hx rfl (hb hby d5_4) rfl kt) ?_
    show Go p e below _ (T6.setTop (mkF m 5 #[.val (.ref a), .val (.int qq), .val (.int z0), .val (.int (1 : Int32))] [(.int (1 : Int32))]))
    refine Go.st (fun _ kt => XS.aloadN X6.here hx rfl (hb hby d5_5) rfl rfl kt) ?_
    show Go p e below _ (T6.setTop (mkF m 6 #[.val (.ref a), .val (.int qq), .val (.int z0), .val (.int (1 : Int32))] [(.ref a), (.int (1 : Int32))]))
    obtain ⟨T8, X8, e8, st8⟩ := getF X6 hx hZ hown (host := "") (Or.inl (hw _ (List.mem_of_getElem? (i := 26) rfl))) Via.refl e6 F_v (g := (mkF m 6 #[.val (.ref a), .val (.int qq), .val (.int z0), .val (.int (1 : Int32))] [(.ref a), (.int (1 : Int32))])) rfl rfl (hb hby d5_6)
    refine Go.st st8 ?_
    show Go p e below _ (T8.setTop (mkF m 9 #[.val (.ref a), .val (.int qq), .val (.int z0), .val (.int (1 : Int32))] [(.ref av), (.int (1 : Int32))]))
    obtain ⟨cl9, Ar9, -, S9, N9', -, -⟩ := id V_v
    refine Go.st (fun _ kt => X8.arraylength hx (by rw [e8]; exact Ar9.1) (State.isArrayOf_alike hZ.alike Ar9.2.1) (g := (mkF m 9 #[.val (.ref a), .val (.int qq), .val (.int z0), .val (.int (1 : Int32))] [(.ref av), (.int (1 : Int32))])) rfl rfl (hb hby d5_9) _ kt) ?_
    rw [len_of S9 N9']
    show Go p e below _ (T8.setTop (mkF m 10 #[.val (.ref a), .val (.int qq), .val (.int z0), .val (.int (1 : Int32))] [(.int (3 : Int32)), (.int (1 : Int32))]))
    refine Go.st (fun _ kt => XS.icmpNo X8.here hx rfl (hb hby d5_10) rfl (tlt (by decide : (1 : Int32) < (3 : Int32))).2.1 kt) ?_
    show Go p e below _ (T8.setTop (mkF m 13 #[.val (.ref a), .val (.int qq), .val (.int z0), .val (.int (1 : Int32))] []))
    refine Go.st (fun _ kt => XS.aloadN X8.here hx rfl (hb hby d5_13) rfl rfl kt) ?_
    show Go p e below _ (T8.setTop (mkF m 14 #[.val (.ref a), .val (.int qq), .val (.int z0), .val (.int (1 : Int32))] [(.ref a)]))
    obtain ⟨T10, X10, e10, st10⟩ := getF X8 hx hZ hown (host := "") (Or.inl (hw _ (List.mem_of_getElem? (i := 26) rfl))) Via.refl e8 F_v (g := (mkF m 14 #[.val (.ref a), .val (.int qq), .val (.int z0), .val (.int (1 : Int32))] [(.ref a)])) rfl rfl (hb hby d5_14)
    refine Go.st st10 ?_
    show Go p e below _ (T10.setTop (mkF m 17 #[.val (.ref a), .val (.int qq), .val (.int z0), .val (.int (1 : Int32))] [(.ref av)]))
    refine Go.st (fun _ kt => XS.iloadN X10.here hx rfl (hb hby d5_17) rfl kt) ?_
    show Go p e below _ (T10.setTop (mkF m 18 #[.val (.ref a), .val (.int qq), .val (.int z0), .val (.int (1 : Int32))] [(.int (1 : Int32)), (.ref av)]))
    obtain ⟨cl11, Ar11, -, S11, N11', H11, G11⟩ := id V_v
    have hin11 := inb_of S11 (j := (1 : Int32)) ⟨by decide, by decide⟩
    have hat11 := Has.at H11 hin11 (v := (.int y1)) rfl
    refine Go.st (fun _ kt => X10.iaload hx (j := (1 : Int32)) (v := (.int y1)) (by rw [e10]; exact Ar11.1) (State.isArrayOf_alike hZ.alike Ar11.2.1) Ar11.2.2 hin11 hat11 (g := (mkF m 18 #[.val (.ref a), .val (.int qq), .val (.int z0), .val (.int (1 : Int32))] [(.int (1 : Int32)), (.ref av)])) rfl rfl (hb hby d5_18) _ kt) ?_
    show Go p e below _ (T10.setTop (mkF m 19 #[.val (.ref a), .val (.int qq), .val (.int z0), .val (.int (1 : Int32))] [(.int y1)]))
    refine Go.st (fun _ kt => XS.iloadN X10.here hx rfl (hb hby d5_19) rfl kt) ?_
    show Go p e below _ (T10.setTop (mkF m 20 #[.val (.ref a), .val (.int qq), .val (.int z0), .val (.int (1 : Int32))] [(.int qq), (.int y1)]))
    by_cases hc20_12 : y1 = qq
    · refine Go.st (fun _ kt => XS.icmpNo X10.here hx rfl (hb hby d5_20) rfl (teq hc20_12).2 kt) ?_
      show Go p e below _ (T10.setTop (mkF m 23 #[.val (.ref a), .val (.int qq), .val (.int z0), .val (.int (1 : Int32))] []))
      refine Go.st (fun _ kt => XS.aloadN X10.here hx rfl (hb hby d5_23) rfl rfl kt) ?_
      show Go p e below _ (T10.setTop (mkF m 24 #[.val (.ref a), .val (.int qq), .val (.int z0), .val (.int (1 : Int32))] [(.ref a)]))
      obtain ⟨T13, X13, e13, st13⟩ := getF X10 hx hZ hown (host := "") (Or.inl (hw _ (List.mem_of_getElem? (i := 33) rfl))) Via.refl e10 F_s (g := (mkF m 24 #[.val (.ref a), .val (.int qq), .val (.int z0), .val (.int (1 : Int32))] [(.ref a)])) rfl rfl (hb hby d5_24)
      refine Go.st st13 ?_
      show Go p e below _ (T13.setTop (mkF m 27 #[.val (.ref a), .val (.int qq), .val (.int z0), .val (.int (1 : Int32))] [(.ref ar)]))
      refine Go.st (fun _ kt => XS.iloadN X13.here hx rfl (hb hby d5_27) rfl kt) ?_
      show Go p e below _ (T13.setTop (mkF m 28 #[.val (.ref a), .val (.int qq), .val (.int z0), .val (.int (1 : Int32))] [(.int (1 : Int32)), (.ref ar)]))
      obtain ⟨cl14, Ar14, -, S14, N14', H14, G14⟩ := id V_s
      have hin14 := inb_of S14 (j := (1 : Int32)) ⟨by decide, by decide⟩
      have hat14 := Has.at H14 hin14 (v := (.int z1)) rfl
      refine Go.st (fun _ kt => X13.iaload hx (j := (1 : Int32)) (v := (.int z1)) (by rw [e13]; exact Ar14.1) (State.isArrayOf_alike hZ.alike Ar14.2.1) Ar14.2.2 hin14 hat14 (g := (mkF m 28 #[.val (.ref a), .val (.int qq), .val (.int z0), .val (.int (1 : Int32))] [(.int (1 : Int32)), (.ref ar)])) rfl rfl (hb hby d5_28) _ kt) ?_
      show Go p e below _ (T13.setTop (mkF m 29 #[.val (.ref a), .val (.int qq), .val (.int z0), .val (.int (1 : Int32))] [(.int z1)]))
      refine Go.st (fun _ kt => XS.istoreN X13.here hx rfl (hb hby d5_29) rfl (l' := #[.val (.ref a), .val (.int qq), .val (.int z1), .val (.int (1 : Int32))]) rfl kt) ?_
      show Go p e below _ (T13.setTop (mkF m 30 #[.val (.ref a), .val (.int qq), .val (.int z1), .val (.int (1 : Int32))] []))
      refine Go.st (fun _ kt => XS.iinc X13.here hx rfl (hb hby d5_30) rfl (l' := #[.val (.ref a), .val (.int qq), .val (.int z1), .val (.int (2 : Int32))]) rfl kt) ?_
      show Go p e below _ (T13.setTop (mkF m 33 #[.val (.ref a), .val (.int qq), .val (.int z1), .val (.int (2 : Int32))] []))
      refine Go.st (fun _ kt => XS.goto X13.here hx rfl (pc0 := 33) (pc' := 4) rfl (hb hby d5_33) (by decide) (by decide) kt) ?_
      show Go p e below _ (T13.setTop (mkF m 4 #[.val (.ref a), .val (.int qq), .val (.int z1), .val (.int (2 : Int32))] []))
      refine Go.st (fun _ kt => XS.iloadN X13.here hx rfl (hb hby d5_4) rfl kt) ?_
      show Go p e below _ (T13.setTop (mkF m 5 #[.val (.ref a), .val (.int qq), .val (.int z1), .val (.int (2 : Int32))] [(.int (2 : Int32))]))
      refine Go.st (fun _ kt => XS.aloadN X13.here hx rfl (hb hby d5_5) rfl rfl kt) ?_
      show Go p e below _ (T13.setTop (mkF m 6 #[.val (.ref a), .val (.int qq), .val (.int z1), .val (.int (2 : Int32))] [(.ref a), (.int (2 : Int32))]))
      obtain ⟨T15, X15, e15, st15⟩ := getF X13 hx hZ hown (host := "") (Or.inl (hw _ (List.mem_of_getElem? (i := 26) rfl))) Via.refl e13 F_v (g := (mkF m 6 #[.val (.ref a), .val (.int qq), .val (.int z1), .val (.int (2 : Int32))] [(.ref a), (.int (2 : Int32))])) rfl rfl (hb hby d5_6)
      refine Go.st st15 ?_
      show Go p e below _ (T15.setTop (mkF m 9 #[.val (.ref a), .val (.int qq), .val (.int z1), .val (.int (2 : Int32))] [(.ref av), (.int (2 : Int32))]))
      obtain ⟨cl16, Ar16, -, S16, N16', -, -⟩ := id V_v
      refine Go.st (fun _ kt => X15.arraylength hx (by rw [e15]; exact Ar16.1) (State.isArrayOf_alike hZ.alike Ar16.2.1) (g := (mkF m 9 #[.val (.ref a), .val (.int qq), .val (.int z1), .val (.int (2 : Int32))] [(.ref av), (.int (2 : Int32))])) rfl rfl (hb hby d5_9) _ kt) ?_
      rw [len_of S16 N16']
      show Go p e below _ (T15.setTop (mkF m 10 #[.val (.ref a), .val (.int qq), .val (.int z1), .val (.int (2 : Int32))] [(.int (3 : Int32)), (.int (2 : Int32))]))
      refine Go.st (fun _ kt => XS.icmpNo X15.here hx rfl (hb hby d5_10) rfl (tlt (by decide : (2 : Int32) < (3 : Int32))).2.1 kt) ?_
      show Go p e below _ (T15.setTop (mkF m 13 #[.val (.ref a), .val (.int qq), .val (.int z1), .val (.int (2 : Int32))] []))
      refine Go.st (fun _ kt => XS.aloadN X15.here hx rfl (hb hby d5_13) rfl rfl kt) ?_
      show Go p e below _ (T15.setTop (mkF m 14 #[.val (.ref a), .val (.int qq), .val (.int z1), .val (.int (2 : Int32))] [(.ref a)]))
      obtain ⟨T17, X17, e17, st17⟩ := getF X15 hx hZ hown (host := "") (Or.inl (hw _ (List.mem_of_getElem? (i := 26) rfl))) Via.refl e15 F_v (g := (mkF m 14 #[.val (.ref a), .val (.int qq), .val (.int z1), .val (.int (2 : Int32))] [(.ref a)])) rfl rfl (hb hby d5_14)
      refine Go.st st17 ?_
      show Go p e below _ (T17.setTop (mkF m 17 #[.val (.ref a), .val (.int qq), .val (.int z1), .val (.int (2 : Int32))] [(.ref av)]))
      refine Go.st (fun _ kt => XS.iloadN X17.here hx rfl (hb hby d5_17) rfl kt) ?_
      show Go p e below _ (T17.setTop (mkF m 18 #[.val (.ref a), .val (.int qq), .val (.int z1), .val (.int (2 : Int32))] [(.int (2 : Int32)), (.ref av)]))
      obtain ⟨cl18, Ar18, -, S18, N18', H18, G18⟩ := id V_v
      have hin18 := inb_of S18 (j := (2 : Int32)) ⟨by decide, by decide⟩
      have hat18 := Has.at H18 hin18 (v := (.int y2)) rfl
      refine Go.st (fun _ kt => X17.iaload hx (j := (2 : Int32)) (v := (.int y2)) (by rw [e17]; exact Ar18.1) (State.isArrayOf_alike hZ.alike Ar18.2.1) Ar18.2.2 hin18 hat18 (g := (mkF m 18 #[.val (.ref a), .val (.int qq), .val (.int z1), .val (.int (2 : Int32))] [(.int (2 : Int32)), (.ref av)])) rfl rfl (hb hby d5_18) _ kt) ?_
      show Go p e below _ (T17.setTop (mkF m 19 #[.val (.ref a), .val (.int qq), .val (.int z1), .val (.int (2 : Int32))] [(.int y2)]))
      refine Go.st (fun _ kt => XS.iloadN X17.here hx rfl (hb hby d5_19) rfl kt) ?_
      show Go p e below _ (T17.setTop (mkF m 20 #[.val (.ref a), .val (.int qq), .val (.int z1), .val (.int (2 : Int32))] [(.int qq), (.int y2)]))
      by_cases hc20_19 : y2 = qq
      · refine Go.st (fun _ kt => XS.icmpNo X17.here hx rfl (hb hby d5_20) rfl (teq hc20_19).2 kt) ?_
        show Go p e below _ (T17.setTop (mkF m 23 #[.val (.ref a), .val (.int qq), .val (.int z1), .val (.int (2 : Int32))] []))
        refine Go.st (fun _ kt => XS.aloadN X17.here hx rfl (hb hby d5_23) rfl rfl kt) ?_
        show Go p e below _ (T17.setTop (mkF m 24 #[.val (.ref a), .val (.int qq), .val (.int z1), .val (.int (2 : Int32))] [(.ref a)]))
        obtain ⟨T20, X20, e20, st20⟩ := getF X17 hx hZ hown (host := "") (Or.inl (hw _ (List.mem_of_getElem? (i := 33) rfl))) Via.refl e17 F_s (g := (mkF m 24 #[.val (.ref a), .val (.int qq), .val (.int z1), .val (.int (2 : Int32))] [(.ref a)])) rfl rfl (hb hby d5_24)
        refine Go.st st20 ?_
        show Go p e below _ (T20.setTop (mkF m 27 #[.val (.ref a), .val (.int qq), .val (.int z1), .val (.int (2 : Int32))] [(.ref ar)]))
        refine Go.st (fun _ kt => XS.iloadN X20.here hx rfl (hb hby d5_27) rfl kt) ?_
        show Go p e below _ (T20.setTop (mkF m 28 #[.val (.ref a), .val (.int qq), .val (.int z1), .val (.int (2 : Int32))] [(.int (2 : Int32)), (.ref ar)]))
        obtain ⟨cl21, Ar21, -, S21, N21', H21, G21⟩ := id V_s
        have hin21 := inb_of S21 (j := (2 : Int32)) ⟨by decide, by decide⟩
        have hat21 := Has.at H21 hin21 (v := (.int z2)) rfl
        refine Go.st (fun _ kt => X20.iaload hx (j := (2 : Int32)) (v := (.int z2)) (by rw [e20]; exact Ar21.1) (State.isArrayOf_alike hZ.alike Ar21.2.1) Ar21.2.2 hin21 hat21 (g := (mkF m 28 #[.val (.ref a), .val (.int qq), .val (.int z1), .val (.int (2 : Int32))] [(.int (2 : Int32)), (.ref ar)])) rfl rfl (hb hby d5_28) _ kt) ?_
        show Go p e below _ (T20.setTop (mkF m 29 #[.val (.ref a), .val (.int qq), .val (.int z1), .val (.int (2 : Int32))] [(.int z2)]))
        refine Go.st (fun _ kt => XS.istoreN X20.here hx rfl (hb hby d5_29) rfl (l' := #[.val (.ref a), .val (.int qq), .val (.int z2), .val (.int (2 : Int32))]) rfl kt) ?_
        show Go p e below _ (T20.setTop (mkF m 30 #[.val (.ref a), .val (.int qq), .val (.int z2), .val (.int (2 : Int32))] []))
        refine Go.st (fun _ kt => XS.iinc X20.here hx rfl (hb hby d5_30) rfl (l' := #[.val (.ref a), .val (.int qq), .val (.int z2), .val (.int (3 : Int32))]) rfl kt) ?_
        show Go p e below _ (T20.setTop (mkF m 33 #[.val (.ref a), .val (.int qq), .val (.int z2), .val (.int (3 : Int32))] []))
        refine Go.st (fun _ kt => XS.goto X20.here hx rfl (pc0 := 33) (pc' := 4) rfl (hb hby d5_33) (by decide) (by decide) kt) ?_
        show Go p e below _ (T20.setTop (mkF m 4 #[.val (.ref a), .val (.int qq), .val (.int z2), .val (.int (3 : Int32))] []))
        refine Go.st (fun _ kt => XS.iloadN X20.here hx rfl (hb hby d5_4) rfl kt) ?_
        show Go p e below _ (T20.setTop (mkF m 5 #[.val (.ref a), .val (.int qq), .val (.int z2), .val (.int (3 : Int32))] [(.int (3 : Int32))]))
        refine Go.st (fun _ kt => XS.aloadN X20.here hx rfl (hb hby d5_5) rfl rfl kt) ?_
        show Go p e below _ (T20.setTop (mkF m 6 #[.val (.ref a), .val (.int qq), .val (.int z2), .val (.int (3 : Int32))] [(.ref a), (.int (3 : Int32))]))
        obtain ⟨T22, X22, e22, st22⟩ := getF X20 hx hZ hown (host := "") (Or.inl (hw _ (List.mem_of_getElem? (i := 26) rfl))) Via.refl e20 F_v (g := (mkF m 6 #[.val (.ref a), .val (.int qq), .val (.int z2), .val (.int (3 : Int32))] [(.ref a), (.int (3 : Int32))])) rfl rfl (hb hby d5_6)
        refine Go.st st22 ?_
        show Go p e below _ (T22.setTop (mkF m 9 #[.val (.ref a), .val (.int qq), .val (.int z2), .val (.int (3 : Int32))] [(.ref av), (.int (3 : Int32))]))
        obtain ⟨cl23, Ar23, -, S23, N23', -, -⟩ := id V_v
        refine Go.st (fun _ kt => X22.arraylength hx (by rw [e22]; exact Ar23.1) (State.isArrayOf_alike hZ.alike Ar23.2.1) (g := (mkF m 9 #[.val (.ref a), .val (.int qq), .val (.int z2), .val (.int (3 : Int32))] [(.ref av), (.int (3 : Int32))])) rfl rfl (hb hby d5_9) _ kt) ?_
        rw [len_of S23 N23']
        show Go p e below _ (T22.setTop (mkF m 10 #[.val (.ref a), .val (.int qq), .val (.int z2), .val (.int (3 : Int32))] [(.int (3 : Int32)), (.int (3 : Int32))]))
        refine Go.st (fun _ kt => XS.icmpYes X22.here hx rfl (pc0 := 10) (pc' := 36) rfl (hb hby d5_10) rfl (flt (by decide : ¬ ((3 : Int32) < (3 : Int32)))).2.1 (by decide) (by decide) kt) ?_
        show Go p e below _ (T22.setTop (mkF m 36 #[.val (.ref a), .val (.int qq), .val (.int z2), .val (.int (3 : Int32))] []))
        refine Go.st (fun _ kt => XS.iloadN X22.here hx rfl (hb hby d5_36) rfl kt) ?_
        show Go p e below _ (T22.setTop (mkF m 37 #[.val (.ref a), .val (.int qq), .val (.int z2), .val (.int (3 : Int32))] [(.int z2)]))
        refine Go.retI X22 hx Bd.returns (BodyLoose.notSynchronized Bd) (hb hby d5_37) (Q := (Q_rm5 Z a qq av kv ar kr y0 y1 y2 z0 z1 z2 h0 n0)) (by decide) (by decide) ?_
        show (Q_rm5 Z a qq av kv ar kr y0 y1 y2 z0 z1 z2 h0 n0) _ T22.heap _
        rw [e22]
        exact ⟨by simp [own_st, *], N0, rfl⟩
      · refine Go.st (fun _ kt => XS.icmpYes X17.here hx rfl (pc0 := 20) (pc' := 30) rfl (hb hby d5_20) rfl (feq hc20_19).2 (by decide) (by decide) kt) ?_
        show Go p e below _ (T17.setTop (mkF m 30 #[.val (.ref a), .val (.int qq), .val (.int z1), .val (.int (2 : Int32))] []))
        refine Go.st (fun _ kt => XS.iinc X17.here hx rfl (hb hby d5_30) rfl (l' := #[.val (.ref a), .val (.int qq), .val (.int z1), .val (.int (3 : Int32))]) rfl kt) ?_
        show Go p e below _ (T17.setTop (mkF m 33 #[.val (.ref a), .val (.int qq), .val (.int z1), .val (.int (3 : Int32))] []))
        refine Go.st (fun _ kt => XS.goto X17.here hx rfl (pc0 := 33) (pc' := 4) rfl (hb hby d5_33) (by decide) (by decide) kt) ?_
        show Go p e below _ (T17.setTop (mkF m 4 #[.val (.ref a), .val (.int qq), .val (.int z1), .val (.int (3 : Int32))] []))
        refine Go.st (fun _ kt => XS.iloadN X17.here hx rfl (hb hby d5_4) rfl kt) ?_
        show Go p e below _ (T17.setTop (mkF m 5 #[.val (.ref a), .val (.int qq), .val (.int z1), .val (.int (3 : Int32))] [(.int (3 : Int32))]))
        refine Go.st (fun _ kt => XS.aloadN X17.here hx rfl (hb hby d5_5) rfl rfl kt) ?_
        show Go p e below _ (T17.setTop (mkF m 6 #[.val (.ref a), .val (.int qq), .val (.int z1), .val (.int (3 : Int32))] [(.ref a), (.int (3 : Int32))]))
        obtain ⟨T24, X24, e24, st24⟩ := getF X17 hx hZ hown (host := "") (Or.inl (hw _ (List.mem_of_getElem? (i := 26) rfl))) Via.refl e17 F_v (g := (mkF m 6 #[.val (.ref a), .val (.int qq), .val (.int z1), .val (.int (3 : Int32))] [(.ref a), (.int (3 : Int32))])) rfl rfl (hb hby d5_6)
        refine Go.st st24 ?_
        show Go p e below _ (T24.setTop (mkF m 9 #[.val (.ref a), .val (.int qq), .val (.int z1), .val (.int (3 : Int32))] [(.ref av), (.int (3 : Int32))]))
        obtain ⟨cl25, Ar25, -, S25, N25', -, -⟩ := id V_v
        refine Go.st (fun _ kt => X24.arraylength hx (by rw [e24]; exact Ar25.1) (State.isArrayOf_alike hZ.alike Ar25.2.1) (g := (mkF m 9 #[.val (.ref a), .val (.int qq), .val (.int z1), .val (.int (3 : Int32))] [(.ref av), (.int (3 : Int32))])) rfl rfl (hb hby d5_9) _ kt) ?_
        rw [len_of S25 N25']
        show Go p e below _ (T24.setTop (mkF m 10 #[.val (.ref a), .val (.int qq), .val (.int z1), .val (.int (3 : Int32))] [(.int (3 : Int32)), (.int (3 : Int32))]))
        refine Go.st (fun _ kt => XS.icmpYes X24.here hx rfl (pc0 := 10) (pc' := 36) rfl (hb hby d5_10) rfl (flt (by decide : ¬ ((3 : Int32) < (3 : Int32)))).2.1 (by decide) (by decide) kt) ?_
        show Go p e below _ (T24.setTop (mkF m 36 #[.val (.ref a), .val (.int qq), .val (.int z1), .val (.int (3 : Int32))] []))
        refine Go.st (fun _ kt => XS.iloadN X24.here hx rfl (hb hby d5_36) rfl kt) ?_
        show Go p e below _ (T24.setTop (mkF m 37 #[.val (.ref a), .val (.int qq), .val (.int z1), .val (.int (3 : Int32))] [(.int z1)]))
        refine Go.retI X24 hx Bd.returns (BodyLoose.notSynchronized Bd) (hb hby d5_37) (Q := (Q_rm5 Z a qq av kv ar kr y0 y1 y2 z0 z1 z2 h0 n0)) (by decide) (by decide) ?_
        show (Q_rm5 Z a qq av kv ar kr y0 y1 y2 z0 z1 z2 h0 n0) _ T24.heap _
        rw [e24]
        exact ⟨by simp [own_st, *], N0, rfl⟩
    · refine Go.st (fun _ kt => XS.icmpYes X10.here hx rfl (pc0 := 20) (pc' := 30) rfl (hb hby d5_20) rfl (feq hc20_12).2 (by decide) (by decide) kt) ?_
      show Go p e below _ (T10.setTop (mkF m 30 #[.val (.ref a), .val (.int qq), .val (.int z0), .val (.int (1 : Int32))] []))
      refine Go.st (fun _ kt => XS.iinc X10.here hx rfl (hb hby d5_30) rfl (l' := #[.val (.ref a), .val (.int qq), .val (.int z0), .val (.int (2 : Int32))]) rfl kt) ?_
      show Go p e below _ (T10.setTop (mkF m 33 #[.val (.ref a), .val (.int qq), .val (.int z0), .val (.int (2 : Int32))] []))
      refine Go.st (fun _ kt => XS.goto X10.here hx rfl (pc0 := 33) (pc' := 4) rfl (hb hby d5_33) (by decide) (by decide) kt) ?_
      show Go p e below _ (T10.setTop (mkF m 4 #[.val (.ref a), .val (.int qq), .val (.int z0), .val (.int (2 : Int32))] []))
      refine Go.st (fun _ kt => XS.iloadN X10.here hx rfl (hb hby d5_4) rfl kt) ?_
      show Go p e below _ (T10.setTop (mkF m 5 #[.val (.ref a), .val (.int qq), .val (.int z0), .val (.int (2 : Int32))] [(.int (2 : Int32))]))
      refine Go.st (fun _ kt => XS.aloadN X10.here hx rfl (hb hby d5_5) rfl rfl kt) ?_
      show Go p e below _ (T10.setTop (mkF m 6 #[.val (.ref a), .val (.int qq), .val (.int z0), .val (.int (2 : Int32))] [(.ref a), (.int (2 : Int32))]))
      obtain ⟨T26, X26, e26, st26⟩ := getF X10 hx hZ hown (host := "") (Or.inl (hw _ (List.mem_of_getElem? (i := 26) rfl))) Via.refl e10 F_v (g := (mkF m 6 #[.val (.ref a), .val (.int qq), .val (.int z0), .val (.int (2 : Int32))] [(.ref a), (.int (2 : Int32))])) rfl rfl (hb hby d5_6)
      refine Go.st st26 ?_
      show Go p e below _ (T26.setTop (mkF m 9 #[.val (.ref a), .val (.int qq), .val (.int z0), .val (.int (2 : Int32))] [(.ref av), (.int (2 : Int32))]))
      obtain ⟨cl27, Ar27, -, S27, N27', -, -⟩ := id V_v
      refine Go.st (fun _ kt => X26.arraylength hx (by rw [e26]; exact Ar27.1) (State.isArrayOf_alike hZ.alike Ar27.2.1) (g := (mkF m 9 #[.val (.ref a), .val (.int qq), .val (.int z0), .val (.int (2 : Int32))] [(.ref av), (.int (2 : Int32))])) rfl rfl (hb hby d5_9) _ kt) ?_
      rw [len_of S27 N27']
      show Go p e below _ (T26.setTop (mkF m 10 #[.val (.ref a), .val (.int qq), .val (.int z0), .val (.int (2 : Int32))] [(.int (3 : Int32)), (.int (2 : Int32))]))
      refine Go.st (fun _ kt => XS.icmpNo X26.here hx rfl (hb hby d5_10) rfl (tlt (by decide : (2 : Int32) < (3 : Int32))).2.1 kt) ?_
      show Go p e below _ (T26.setTop (mkF m 13 #[.val (.ref a), .val (.int qq), .val (.int z0), .val (.int (2 : Int32))] []))
      refine Go.st (fun _ kt => XS.aloadN X26.here hx rfl (hb hby d5_13) rfl rfl kt) ?_
      show Go p e below _ (T26.setTop (mkF m 14 #[.val (.ref a), .val (.int qq), .val (.int z0), .val (.int (2 : Int32))] [(.ref a)]))
      obtain ⟨T28, X28, e28, st28⟩ := getF X26 hx hZ hown (host := "") (Or.inl (hw _ (List.mem_of_getElem? (i := 26) rfl))) Via.refl e26 F_v (g := (mkF m 14 #[.val (.ref a), .val (.int qq), .val (.int z0), .val (.int (2 : Int32))] [(.ref a)])) rfl rfl (hb hby d5_14)
      refine Go.st st28 ?_
      show Go p e below _ (T28.setTop (mkF m 17 #[.val (.ref a), .val (.int qq), .val (.int z0), .val (.int (2 : Int32))] [(.ref av)]))
      refine Go.st (fun _ kt => XS.iloadN X28.here hx rfl (hb hby d5_17) rfl kt) ?_
      show Go p e below _ (T28.setTop (mkF m 18 #[.val (.ref a), .val (.int qq), .val (.int z0), .val (.int (2 : Int32))] [(.int (2 : Int32)), (.ref av)]))
      obtain ⟨cl29, Ar29, -, S29, N29', H29, G29⟩ := id V_v
      have hin29 := inb_of S29 (j := (2 : Int32)) ⟨by decide, by decide⟩
      have hat29 := Has.at H29 hin29 (v := (.int y2)) rfl
      refine Go.st (fun _ kt => X28.iaload hx (j := (2 : Int32)) (v := (.int y2)) (by rw [e28]; exact Ar29.1) (State.isArrayOf_alike hZ.alike Ar29.2.1) Ar29.2.2 hin29 hat29 (g := (mkF m 18 #[.val (.ref a), .val (.int qq), .val (.int z0), .val (.int (2 : Int32))] [(.int (2 : Int32)), (.ref av)])) rfl rfl (hb hby d5_18) _ kt) ?_
      show Go p e below _ (T28.setTop (mkF m 19 #[.val (.ref a), .val (.int qq), .val (.int z0), .val (.int (2 : Int32))] [(.int y2)]))
      refine Go.st (fun _ kt => XS.iloadN X28.here hx rfl (hb hby d5_19) rfl kt) ?_
      show Go p e below _ (T28.setTop (mkF m 20 #[.val (.ref a), .val (.int qq), .val (.int z0), .val (.int (2 : Int32))] [(.int qq), (.int y2)]))
      by_cases hc20_30 : y2 = qq
      · refine Go.st (fun _ kt => XS.icmpNo X28.here hx rfl (hb hby d5_20) rfl (teq hc20_30).2 kt) ?_
        show Go p e below _ (T28.setTop (mkF m 23 #[.val (.ref a), .val (.int qq), .val (.int z0), .val (.int (2 : Int32))] []))
        refine Go.st (fun _ kt => XS.aloadN X28.here hx rfl (hb hby d5_23) rfl rfl kt) ?_
        show Go p e below _ (T28.setTop (mkF m 24 #[.val (.ref a), .val (.int qq), .val (.int z0), .val (.int (2 : Int32))] [(.ref a)]))
        obtain ⟨T31, X31, e31, st31⟩ := getF X28 hx hZ hown (host := "") (Or.inl (hw _ (List.mem_of_getElem? (i := 33) rfl))) Via.refl e28 F_s (g := (mkF m 24 #[.val (.ref a), .val (.int qq), .val (.int z0), .val (.int (2 : Int32))] [(.ref a)])) rfl rfl (hb hby d5_24)
        refine Go.st st31 ?_
        show Go p e below _ (T31.setTop (mkF m 27 #[.val (.ref a), .val (.int qq), .val (.int z0), .val (.int (2 : Int32))] [(.ref ar)]))
        refine Go.st (fun _ kt => XS.iloadN X31.here hx rfl (hb hby d5_27) rfl kt) ?_
        show Go p e below _ (T31.setTop (mkF m 28 #[.val (.ref a), .val (.int qq), .val (.int z0), .val (.int (2 : Int32))] [(.int (2 : Int32)), (.ref ar)]))
        obtain ⟨cl32, Ar32, -, S32, N32', H32, G32⟩ := id V_s
        have hin32 := inb_of S32 (j := (2 : Int32)) ⟨by decide, by decide⟩
        have hat32 := Has.at H32 hin32 (v := (.int z2)) rfl
        refine Go.st (fun _ kt => X31.iaload hx (j := (2 : Int32)) (v := (.int z2)) (by rw [e31]; exact Ar32.1) (State.isArrayOf_alike hZ.alike Ar32.2.1) Ar32.2.2 hin32 hat32 (g := (mkF m 28 #[.val (.ref a), .val (.int qq), .val (.int z0), .val (.int (2 : Int32))] [(.int (2 : Int32)), (.ref ar)])) rfl rfl (hb hby d5_28) _ kt) ?_
        show Go p e below _ (T31.setTop (mkF m 29 #[.val (.ref a), .val (.int qq), .val (.int z0), .val (.int (2 : Int32))] [(.int z2)]))
        refine Go.st (fun _ kt => XS.istoreN X31.here hx rfl (hb hby d5_29) rfl (l' := #[.val (.ref a), .val (.int qq), .val (.int z2), .val (.int (2 : Int32))]) rfl kt) ?_
        show Go p e below _ (T31.setTop (mkF m 30 #[.val (.ref a), .val (.int qq), .val (.int z2), .val (.int (2 : Int32))] []))
        refine Go.st (fun _ kt => XS.iinc X31.here hx rfl (hb hby d5_30) rfl (l' := #[.val (.ref a), .val (.int qq), .val (.int z2), .val (.int (3 : Int32))]) rfl kt) ?_
        show Go p e below _ (T31.setTop (mkF m 33 #[.val (.ref a), .val (.int qq), .val (.int z2), .val (.int (3 : Int32))] []))
        refine Go.st (fun _ kt => XS.goto X31.here hx rfl (pc0 := 33) (pc' := 4) rfl (hb hby d5_33) (by decide) (by decide) kt) ?_
        show Go p e below _ (T31.setTop (mkF m 4 #[.val (.ref a), .val (.int qq), .val (.int z2), .val (.int (3 : Int32))] []))
        refine Go.st (fun _ kt => XS.iloadN X31.here hx rfl (hb hby d5_4) rfl kt) ?_
        show Go p e below _ (T31.setTop (mkF m 5 #[.val (.ref a), .val (.int qq), .val (.int z2), .val (.int (3 : Int32))] [(.int (3 : Int32))]))
        refine Go.st (fun _ kt => XS.aloadN X31.here hx rfl (hb hby d5_5) rfl rfl kt) ?_
        show Go p e below _ (T31.setTop (mkF m 6 #[.val (.ref a), .val (.int qq), .val (.int z2), .val (.int (3 : Int32))] [(.ref a), (.int (3 : Int32))]))
        obtain ⟨T33, X33, e33, st33⟩ := getF X31 hx hZ hown (host := "") (Or.inl (hw _ (List.mem_of_getElem? (i := 26) rfl))) Via.refl e31 F_v (g := (mkF m 6 #[.val (.ref a), .val (.int qq), .val (.int z2), .val (.int (3 : Int32))] [(.ref a), (.int (3 : Int32))])) rfl rfl (hb hby d5_6)
        refine Go.st st33 ?_
        show Go p e below _ (T33.setTop (mkF m 9 #[.val (.ref a), .val (.int qq), .val (.int z2), .val (.int (3 : Int32))] [(.ref av), (.int (3 : Int32))]))
        obtain ⟨cl34, Ar34, -, S34, N34', -, -⟩ := id V_v
        refine Go.st (fun _ kt => X33.arraylength hx (by rw [e33]; exact Ar34.1) (State.isArrayOf_alike hZ.alike Ar34.2.1) (g := (mkF m 9 #[.val (.ref a), .val (.int qq), .val (.int z2), .val (.int (3 : Int32))] [(.ref av), (.int (3 : Int32))])) rfl rfl (hb hby d5_9) _ kt) ?_
        rw [len_of S34 N34']
        show Go p e below _ (T33.setTop (mkF m 10 #[.val (.ref a), .val (.int qq), .val (.int z2), .val (.int (3 : Int32))] [(.int (3 : Int32)), (.int (3 : Int32))]))
        refine Go.st (fun _ kt => XS.icmpYes X33.here hx rfl (pc0 := 10) (pc' := 36) rfl (hb hby d5_10) rfl (flt (by decide : ¬ ((3 : Int32) < (3 : Int32)))).2.1 (by decide) (by decide) kt) ?_
        show Go p e below _ (T33.setTop (mkF m 36 #[.val (.ref a), .val (.int qq), .val (.int z2), .val (.int (3 : Int32))] []))
        refine Go.st (fun _ kt => XS.iloadN X33.here hx rfl (hb hby d5_36) rfl kt) ?_
        show Go p e below _ (T33.setTop (mkF m 37 #[.val (.ref a), .val (.int qq), .val (.int z2), .val (.int (3 : Int32))] [(.int z2)]))
        refine Go.retI X33 hx Bd.returns (BodyLoose.notSynchronized Bd) (hb hby d5_37) (Q := (Q_rm5 Z a qq av kv ar kr y0 y1 y2 z0 z1 z2 h0 n0)) (by decide) (by decide) ?_
        show (Q_rm5 Z a qq av kv ar kr y0 y1 y2 z0 z1 z2 h0 n0) _ T33.heap _
        rw [e33]
        exact ⟨by simp [own_st, *], N0, rfl⟩
      · refine Go.st (fun _ kt => XS.icmpYes X28.here hx rfl (pc0 := 20) (pc' := 30) rfl (hb hby d5_20) rfl (feq hc20_30).2 (by decide) (by decide) kt) ?_
        show Go p e below _ (T28.setTop (mkF m 30 #[.val (.ref a), .val (.int qq), .val (.int z0), .val (.int (2 : Int32))] []))
        refine Go.st (fun _ kt => XS.iinc X28.here hx rfl (hb hby d5_30) rfl (l' := #[.val (.ref a), .val (.int qq), .val (.int z0), .val (.int (3 : Int32))]) rfl kt) ?_
        show Go p e below _ (T28.setTop (mkF m 33 #[.val (.ref a), .val (.int qq), .val (.int z0), .val (.int (3 : Int32))] []))
        refine Go.st (fun _ kt => XS.goto X28.here hx rfl (pc0 := 33) (pc' := 4) rfl (hb hby d5_33) (by decide) (by decide) kt) ?_
        show Go p e below _ (T28.setTop (mkF m 4 #[.val (.ref a), .val (.int qq), .val (.int z0), .val (.int (3 : Int32))] []))
        refine Go.st (fun _ kt => XS.iloadN X28.here hx rfl (hb hby d5_4) rfl kt) ?_
        show Go p e below _ (T28.setTop (mkF m 5 #[.val (.ref a), .val (.int qq), .val (.int z0), .val (.int (3 : Int32))] [(.int (3 : Int32))]))
        refine Go.st (fun _ kt => XS.aloadN X28.here hx rfl (hb hby d5_5) rfl rfl kt) ?_
        show Go p e below _ (T28.setTop (mkF m 6 #[.val (.ref a), .val (.int qq), .val (.int z0), .val (.int (3 : Int32))] [(.ref a), (.int (3 : Int32))]))
        obtain ⟨T35, X35, e35, st35⟩ := getF X28 hx hZ hown (host := "") (Or.inl (hw _ (List.mem_of_getElem? (i := 26) rfl))) Via.refl e28 F_v (g := (mkF m 6 #[.val (.ref a), .val (.int qq), .val (.int z0), .val (.int (3 : Int32))] [(.ref a), (.int (3 : Int32))])) rfl rfl (hb hby d5_6)
        refine Go.st st35 ?_
        show Go p e below _ (T35.setTop (mkF m 9 #[.val (.ref a), .val (.int qq), .val (.int z0), .val (.int (3 : Int32))] [(.ref av), (.int (3 : Int32))]))
        obtain ⟨cl36, Ar36, -, S36, N36', -, -⟩ := id V_v
        refine Go.st (fun _ kt => X35.arraylength hx (by rw [e35]; exact Ar36.1) (State.isArrayOf_alike hZ.alike Ar36.2.1) (g := (mkF m 9 #[.val (.ref a), .val (.int qq), .val (.int z0), .val (.int (3 : Int32))] [(.ref av), (.int (3 : Int32))])) rfl rfl (hb hby d5_9) _ kt) ?_
        rw [len_of S36 N36']
        show Go p e below _ (T35.setTop (mkF m 10 #[.val (.ref a), .val (.int qq), .val (.int z0), .val (.int (3 : Int32))] [(.int (3 : Int32)), (.int (3 : Int32))]))
        refine Go.st (fun _ kt => XS.icmpYes X35.here hx rfl (pc0 := 10) (pc' := 36) rfl (hb hby d5_10) rfl (flt (by decide : ¬ ((3 : Int32) < (3 : Int32)))).2.1 (by decide) (by decide) kt) ?_
        show Go p e below _ (T35.setTop (mkF m 36 #[.val (.ref a), .val (.int qq), .val (.int z0), .val (.int (3 : Int32))] []))
        refine Go.st (fun _ kt => XS.iloadN X35.here hx rfl (hb hby d5_36) rfl kt) ?_
        show Go p e below _ (T35.setTop (mkF m 37 #[.val (.ref a), .val (.int qq), .val (.int z0), .val (.int (3 : Int32))] [(.int z0)]))
        refine Go.retI X35 hx Bd.returns (BodyLoose.notSynchronized Bd) (hb hby d5_37) (Q := (Q_rm5 Z a qq av kv ar kr y0 y1 y2 z0 z1 z2 h0 n0)) (by decide) (by decide) ?_
        show (Q_rm5 Z a qq av kv ar kr y0 y1 y2 z0 z1 z2 h0 n0) _ T35.heap _
        rw [e35]
        exact ⟨by simp [own_st, *], N0, rfl⟩
  · refine Go.st (fun _ kt => XS.icmpYes X3.here hx rfl (pc0 := 20) (pc' := 30) rfl (hb hby d5_20) rfl (feq hc20_5).2 (by decide) (by decide) kt) ?_
    show Go p e below _ (T3.setTop (mkF m 30 #[.val (.ref a), .val (.int qq), .val (.int (0 : Int32)), .val (.int (0 : Int32))] []))
    refine Go.st (fun _ kt => XS.iinc X3.here hx rfl (hb hby d5_30) rfl (l' := #[.val (.ref a), .val (.int qq), .val (.int (0 : Int32)), .val (.int (1 : Int32))]) rfl kt) ?_
    show Go p e below _ (T3.setTop (mkF m 33 #[.val (.ref a), .val (.int qq), .val (.int (0 : Int32)), .val (.int (1 : Int32))] []))
    refine Go.st (fun _ kt => XS.goto X3.here hx rfl (pc0 := 33) (pc' := 4) rfl (hb hby d5_33) (by decide) (by decide) kt) ?_
    show Go p e below _ (T3.setTop (mkF m 4 #[.val (.ref a), .val (.int qq), .val (.int (0 : Int32)), .val (.int (1 : Int32))] []))
    refine Go.st (fun _ kt => XS.iloadN X3.here hx rfl (hb hby d5_4) rfl kt) ?_
    show Go p e below _ (T3.setTop (mkF m 5 #[.val (.ref a), .val (.int qq), .val (.int (0 : Int32)), .val (.int (1 : Int32))] [(.int (1 : Int32))]))
    refine Go.st (fun _ kt => XS.aloadN X3.here hx rfl (hb hby d5_5) rfl rfl kt) ?_
    show Go p e below _ (T3.setTop (mkF m 6 #[.val (.ref a), .val (.int qq), .val (.int (0 : Int32)), .val (.int (1 : Int32))] [(.ref a), (.int (1 : Int32))]))
    obtain ⟨T37, X37, e37, st37⟩ := getF X3 hx hZ hown (host := "") (Or.inl (hw _ (List.mem_of_getElem? (i := 26) rfl))) Via.refl e3 F_v (g := (mkF m 6 #[.val (.ref a), .val (.int qq), .val (.int (0 : Int32)), .val (.int (1 : Int32))] [(.ref a), (.int (1 : Int32))])) rfl rfl (hb hby d5_6)
    refine Go.st st37 ?_
    show Go p e below _ (T37.setTop (mkF m 9 #[.val (.ref a), .val (.int qq), .val (.int (0 : Int32)), .val (.int (1 : Int32))] [(.ref av), (.int (1 : Int32))]))
    obtain ⟨cl38, Ar38, -, S38, N38', -, -⟩ := id V_v
    refine Go.st (fun _ kt => X37.arraylength hx (by rw [e37]; exact Ar38.1) (State.isArrayOf_alike hZ.alike Ar38.2.1) (g := (mkF m 9 #[.val (.ref a), .val (.int qq), .val (.int (0 : Int32)), .val (.int (1 : Int32))] [(.ref av), (.int (1 : Int32))])) rfl rfl (hb hby d5_9) _ kt) ?_
    rw [len_of S38 N38']
    show Go p e below _ (T37.setTop (mkF m 10 #[.val (.ref a), .val (.int qq), .val (.int (0 : Int32)), .val (.int (1 : Int32))] [(.int (3 : Int32)), (.int (1 : Int32))]))
    refine Go.st (fun _ kt => XS.icmpNo X37.here hx rfl (hb hby d5_10) rfl (tlt (by decide : (1 : Int32) < (3 : Int32))).2.1 kt) ?_
    show Go p e below _ (T37.setTop (mkF m 13 #[.val (.ref a), .val (.int qq), .val (.int (0 : Int32)), .val (.int (1 : Int32))] []))
    refine Go.st (fun _ kt => XS.aloadN X37.here hx rfl (hb hby d5_13) rfl rfl kt) ?_
    show Go p e below _ (T37.setTop (mkF m 14 #[.val (.ref a), .val (.int qq), .val (.int (0 : Int32)), .val (.int (1 : Int32))] [(.ref a)]))
    obtain ⟨T39, X39, e39, st39⟩ := getF X37 hx hZ hown (host := "") (Or.inl (hw _ (List.mem_of_getElem? (i := 26) rfl))) Via.refl e37 F_v (g := (mkF m 14 #[.val (.ref a), .val (.int qq), .val (.int (0 : Int32)), .val (.int (1 : Int32))] [(.ref a)])) rfl rfl (hb hby d5_14)
    refine Go.st st39 ?_
    show Go p e below _ (T39.setTop (mkF m 17 #[.val (.ref a), .val (.int qq), .val (.int (0 : Int32)), .val (.int (1 : Int32))] [(.ref av)]))
    refine Go.st (fun _ kt => XS.iloadN X39.here hx rfl (hb hby d5_17) rfl kt) ?_
    show Go p e below _ (T39.setTop (mkF m 18 #[.val (.ref a), .val (.int qq), .val (.int (0 : Int32)), .val (.int (1 : Int32))] [(.int (1 : Int32)), (.ref av)]))
    obtain ⟨cl40, Ar40, -, S40, N40', H40, G40⟩ := id V_v
    have hin40 := inb_of S40 (j := (1 : Int32)) ⟨by decide, by decide⟩
    have hat40 := Has.at H40 hin40 (v := (.int y1)) rfl
    refine Go.st (fun _ kt => X39.iaload hx (j := (1 : Int32)) (v := (.int y1)) (by rw [e39]; exact Ar40.1) (State.isArrayOf_alike hZ.alike Ar40.2.1) Ar40.2.2 hin40 hat40 (g := (mkF m 18 #[.val (.ref a), .val (.int qq), .val (.int (0 : Int32)), .val (.int (1 : Int32))] [(.int (1 : Int32)), (.ref av)])) rfl rfl (hb hby d5_18) _ kt) ?_
    show Go p e below _ (T39.setTop (mkF m 19 #[.val (.ref a), .val (.int qq), .val (.int (0 : Int32)), .val (.int (1 : Int32))] [(.int y1)]))
    refine Go.st (fun _ kt => XS.iloadN X39.here hx rfl (hb hby d5_19) rfl kt) ?_
    show Go p e below _ (T39.setTop (mkF m 20 #[.val (.ref a), .val (.int qq), .val (.int (0 : Int32)), .val (.int (1 : Int32))] [(.int qq), (.int y1)]))
    by_cases hc20_41 : y1 = qq
    · refine Go.st (fun _ kt => XS.icmpNo X39.here hx rfl (hb hby d5_20) rfl (teq hc20_41).2 kt) ?_
      show Go p e below _ (T39.setTop (mkF m 23 #[.val (.ref a), .val (.int qq), .val (.int (0 : Int32)), .val (.int (1 : Int32))] []))
      refine Go.st (fun _ kt => XS.aloadN X39.here hx rfl (hb hby d5_23) rfl rfl kt) ?_
      show Go p e below _ (T39.setTop (mkF m 24 #[.val (.ref a), .val (.int qq), .val (.int (0 : Int32)), .val (.int (1 : Int32))] [(.ref a)]))
      obtain ⟨T42, X42, e42, st42⟩ := getF X39 hx hZ hown (host := "") (Or.inl (hw _ (List.mem_of_getElem? (i := 33) rfl))) Via.refl e39 F_s (g := (mkF m 24 #[.val (.ref a), .val (.int qq), .val (.int (0 : Int32)), .val (.int (1 : Int32))] [(.ref a)])) rfl rfl (hb hby d5_24)
      refine Go.st st42 ?_
      show Go p e below _ (T42.setTop (mkF m 27 #[.val (.ref a), .val (.int qq), .val (.int (0 : Int32)), .val (.int (1 : Int32))] [(.ref ar)]))
      refine Go.st (fun _ kt => XS.iloadN X42.here hx rfl (hb hby d5_27) rfl kt) ?_
      show Go p e below _ (T42.setTop (mkF m 28 #[.val (.ref a), .val (.int qq), .val (.int (0 : Int32)), .val (.int (1 : Int32))] [(.int (1 : Int32)), (.ref ar)]))
      obtain ⟨cl43, Ar43, -, S43, N43', H43, G43⟩ := id V_s
      have hin43 := inb_of S43 (j := (1 : Int32)) ⟨by decide, by decide⟩
      have hat43 := Has.at H43 hin43 (v := (.int z1)) rfl
      refine Go.st (fun _ kt => X42.iaload hx (j := (1 : Int32)) (v := (.int z1)) (by rw [e42]; exact Ar43.1) (State.isArrayOf_alike hZ.alike Ar43.2.1) Ar43.2.2 hin43 hat43 (g := (mkF m 28 #[.val (.ref a), .val (.int qq), .val (.int (0 : Int32)), .val (.int (1 : Int32))] [(.int (1 : Int32)), (.ref ar)])) rfl rfl (hb hby d5_28) _ kt) ?_
      show Go p e below _ (T42.setTop (mkF m 29 #[.val (.ref a), .val (.int qq), .val (.int (0 : Int32)), .val (.int (1 : Int32))] [(.int z1)]))
      refine Go.st (fun _ kt => XS.istoreN X42.here hx rfl (hb hby d5_29) rfl (l' := #[.val (.ref a), .val (.int qq), .val (.int z1), .val (.int (1 : Int32))]) rfl kt) ?_
      show Go p e below _ (T42.setTop (mkF m 30 #[.val (.ref a), .val (.int qq), .val (.int z1), .val (.int (1 : Int32))] []))
      refine Go.st (fun _ kt => XS.iinc X42.here hx rfl (hb hby d5_30) rfl (l' := #[.val (.ref a), .val (.int qq), .val (.int z1), .val (.int (2 : Int32))]) rfl kt) ?_
      show Go p e below _ (T42.setTop (mkF m 33 #[.val (.ref a), .val (.int qq), .val (.int z1), .val (.int (2 : Int32))] []))
      refine Go.st (fun _ kt => XS.goto X42.here hx rfl (pc0 := 33) (pc' := 4) rfl (hb hby d5_33) (by decide) (by decide) kt) ?_
      show Go p e below _ (T42.setTop (mkF m 4 #[.val (.ref a), .val (.int qq), .val (.int z1), .val (.int (2 : Int32))] []))
      refine Go.st (fun _ kt => XS.iloadN X42.here hx rfl (hb hby d5_4) rfl kt) ?_
      show Go p e below _ (T42.setTop (mkF m 5 #[.val (.ref a), .val (.int qq), .val (.int z1), .val (.int (2 : Int32))] [(.int (2 : Int32))]))
      refine Go.st (fun _ kt => XS.aloadN X42.here hx rfl (hb hby d5_5) rfl rfl kt) ?_
      show Go p e below _ (T42.setTop (mkF m 6 #[.val (.ref a), .val (.int qq), .val (.int z1), .val (.int (2 : Int32))] [(.ref a), (.int (2 : Int32))]))
      obtain ⟨T44, X44, e44, st44⟩ := getF X42 hx hZ hown (host := "") (Or.inl (hw _ (List.mem_of_getElem? (i := 26) rfl))) Via.refl e42 F_v (g := (mkF m 6 #[.val (.ref a), .val (.int qq), .val (.int z1), .val (.int (2 : Int32))] [(.ref a), (.int (2 : Int32))])) rfl rfl (hb hby d5_6)
      refine Go.st st44 ?_
      show Go p e below _ (T44.setTop (mkF m 9 #[.val (.ref a), .val (.int qq), .val (.int z1), .val (.int (2 : Int32))] [(.ref av), (.int (2 : Int32))]))
      obtain ⟨cl45, Ar45, -, S45, N45', -, -⟩ := id V_v
      refine Go.st (fun _ kt => X44.arraylength hx (by rw [e44]; exact Ar45.1) (State.isArrayOf_alike hZ.alike Ar45.2.1) (g := (mkF m 9 #[.val (.ref a), .val (.int qq), .val (.int z1), .val (.int (2 : Int32))] [(.ref av), (.int (2 : Int32))])) rfl rfl (hb hby d5_9) _ kt) ?_
      rw [len_of S45 N45']
      show Go p e below _ (T44.setTop (mkF m 10 #[.val (.ref a), .val (.int qq), .val (.int z1), .val (.int (2 : Int32))] [(.int (3 : Int32)), (.int (2 : Int32))]))
      refine Go.st (fun _ kt => XS.icmpNo X44.here hx rfl (hb hby d5_10) rfl (tlt (by decide : (2 : Int32) < (3 : Int32))).2.1 kt) ?_
      show Go p e below _ (T44.setTop (mkF m 13 #[.val (.ref a), .val (.int qq), .val (.int z1), .val (.int (2 : Int32))] []))
      refine Go.st (fun _ kt => XS.aloadN X44.here hx rfl (hb hby d5_13) rfl rfl kt) ?_
      show Go p e below _ (T44.setTop (mkF m 14 #[.val (.ref a), .val (.int qq), .val (.int z1), .val (.int (2 : Int32))] [(.ref a)]))
      obtain ⟨T46, X46, e46, st46⟩ := getF X44 hx hZ hown (host := "") (Or.inl (hw _ (List.mem_of_getElem? (i := 26) rfl))) Via.refl e44 F_v (g := (mkF m 14 #[.val (.ref a), .val (.int qq), .val (.int z1), .val (.int (2 : Int32))] [(.ref a)])) rfl rfl (hb hby d5_14)
      refine Go.st st46 ?_
      show Go p e below _ (T46.setTop (mkF m 17 #[.val (.ref a), .val (.int qq), .val (.int z1), .val (.int (2 : Int32))] [(.ref av)]))
      refine Go.st (fun _ kt => XS.iloadN X46.here hx rfl (hb hby d5_17) rfl kt) ?_
      show Go p e below _ (T46.setTop (mkF m 18 #[.val (.ref a), .val (.int qq), .val (.int z1), .val (.int (2 : Int32))] [(.int (2 : Int32)), (.ref av)]))
      obtain ⟨cl47, Ar47, -, S47, N47', H47, G47⟩ := id V_v
      have hin47 := inb_of S47 (j := (2 : Int32)) ⟨by decide, by decide⟩
      have hat47 := Has.at H47 hin47 (v := (.int y2)) rfl
      refine Go.st (fun _ kt => X46.iaload hx (j := (2 : Int32)) (v := (.int y2)) (by rw [e46]; exact Ar47.1) (State.isArrayOf_alike hZ.alike Ar47.2.1) Ar47.2.2 hin47 hat47 (g := (mkF m 18 #[.val (.ref a), .val (.int qq), .val (.int z1), .val (.int (2 : Int32))] [(.int (2 : Int32)), (.ref av)])) rfl rfl (hb hby d5_18) _ kt) ?_
      show Go p e below _ (T46.setTop (mkF m 19 #[.val (.ref a), .val (.int qq), .val (.int z1), .val (.int (2 : Int32))] [(.int y2)]))
      refine Go.st (fun _ kt => XS.iloadN X46.here hx rfl (hb hby d5_19) rfl kt) ?_
      show Go p e below _ (T46.setTop (mkF m 20 #[.val (.ref a), .val (.int qq), .val (.int z1), .val (.int (2 : Int32))] [(.int qq), (.int y2)]))
      by_cases hc20_48 : y2 = qq
      · refine Go.st (fun _ kt => XS.icmpNo X46.here hx rfl (hb hby d5_20) rfl (teq hc20_48).2 kt) ?_
        show Go p e below _ (T46.setTop (mkF m 23 #[.val (.ref a), .val (.int qq), .val (.int z1), .val (.int (2 : Int32))] []))
        refine Go.st (fun _ kt => XS.aloadN X46.here hx rfl (hb hby d5_23) rfl rfl kt) ?_
        show Go p e below _ (T46.setTop (mkF m 24 #[.val (.ref a), .val (.int qq), .val (.int z1), .val (.int (2 : Int32))] [(.ref a)]))
        obtain ⟨T49, X49, e49, st49⟩ := getF X46 hx hZ hown (host := "") (Or.inl (hw _ (List.mem_of_getElem? (i := 33) rfl))) Via.refl e46 F_s (g := (mkF m 24 #[.val (.ref a), .val (.int qq), .val (.int z1), .val (.int (2 : Int32))] [(.ref a)])) rfl rfl (hb hby d5_24)
        refine Go.st st49 ?_
        show Go p e below _ (T49.setTop (mkF m 27 #[.val (.ref a), .val (.int qq), .val (.int z1), .val (.int (2 : Int32))] [(.ref ar)]))
        refine Go.st (fun _ kt => XS.iloadN X49.here hx rfl (hb hby d5_27) rfl kt) ?_
        show Go p e below _ (T49.setTop (mkF m 28 #[.val (.ref a), .val (.int qq), .val (.int z1), .val (.int (2 : Int32))] [(.int (2 : Int32)), (.ref ar)]))
        obtain ⟨cl50, Ar50, -, S50, N50', H50, G50⟩ := id V_s
        have hin50 := inb_of S50 (j := (2 : Int32)) ⟨by decide, by decide⟩
        have hat50 := Has.at H50 hin50 (v := (.int z2)) rfl
        refine Go.st (fun _ kt => X49.iaload hx (j := (2 : Int32)) (v := (.int z2)) (by rw [e49]; exact Ar50.1) (State.isArrayOf_alike hZ.alike Ar50.2.1) Ar50.2.2 hin50 hat50 (g := (mkF m 28 #[.val (.ref a), .val (.int qq), .val (.int z1), .val (.int (2 : Int32))] [(.int (2 : Int32)), (.ref ar)])) rfl rfl (hb hby d5_28) _ kt) ?_
        show Go p e below _ (T49.setTop (mkF m 29 #[.val (.ref a), .val (.int qq), .val (.int z1), .val (.int (2 : Int32))] [(.int z2)]))
        refine Go.st (fun _ kt => XS.istoreN X49.here hx rfl (hb hby d5_29) rfl (l' := #[.val (.ref a), .val (.int qq), .val (.int z2), .val (.int (2 : Int32))]) rfl kt) ?_
        show Go p e below _ (T49.setTop (mkF m 30 #[.val (.ref a), .val (.int qq), .val (.int z2), .val (.int (2 : Int32))] []))
        refine Go.st (fun _ kt => XS.iinc X49.here hx rfl (hb hby d5_30) rfl (l' := #[.val (.ref a), .val (.int qq), .val (.int z2), .val (.int (3 : Int32))]) rfl kt) ?_
        show Go p e below _ (T49.setTop (mkF m 33 #[.val (.ref a), .val (.int qq), .val (.int z2), .val (.int (3 : Int32))] []))
        refine Go.st (fun _ kt => XS.goto X49.here hx rfl (pc0 := 33) (pc' := 4) rfl (hb hby d5_33) (by decide) (by decide) kt) ?_
        show Go p e below _ (T49.setTop (mkF m 4 #[.val (.ref a), .val (.int qq), .val (.int z2), .val (.int (3 : Int32))] []))
        refine Go.st (fun _ kt => XS.iloadN X49.here hx rfl (hb hby d5_4) rfl kt) ?_
        show Go p e below _ (T49.setTop (mkF m 5 #[.val (.ref a), .val (.int qq), .val (.int z2), .val (.int (3 : Int32))] [(.int (3 : Int32))]))
        refine Go.st (fun _ kt => XS.aloadN X49.here hx rfl (hb hby d5_5) rfl rfl kt) ?_
        show Go p e below _ (T49.setTop (mkF m 6 #[.val (.ref a), .val (.int qq), .val (.int z2), .val (.int (3 : Int32))] [(.ref a), (.int (3 : Int32))]))
        obtain ⟨T51, X51, e51, st51⟩ := getF X49 hx hZ hown (host := "") (Or.inl (hw _ (List.mem_of_getElem? (i := 26) rfl))) Via.refl e49 F_v (g := (mkF m 6 #[.val (.ref a), .val (.int qq), .val (.int z2), .val (.int (3 : Int32))] [(.ref a), (.int (3 : Int32))])) rfl rfl (hb hby d5_6)
        refine Go.st st51 ?_
        show Go p e below _ (T51.setTop (mkF m 9 #[.val (.ref a), .val (.int qq), .val (.int z2), .val (.int (3 : Int32))] [(.ref av), (.int (3 : Int32))]))
        obtain ⟨cl52, Ar52, -, S52, N52', -, -⟩ := id V_v
        refine Go.st (fun _ kt => X51.arraylength hx (by rw [e51]; exact Ar52.1) (State.isArrayOf_alike hZ.alike Ar52.2.1) (g := (mkF m 9 #[.val (.ref a), .val (.int qq), .val (.int z2), .val (.int (3 : Int32))] [(.ref av), (.int (3 : Int32))])) rfl rfl (hb hby d5_9) _ kt) ?_
        rw [len_of S52 N52']
        show Go p e below _ (T51.setTop (mkF m 10 #[.val (.ref a), .val (.int qq), .val (.int z2), .val (.int (3 : Int32))] [(.int (3 : Int32)), (.int (3 : Int32))]))
        refine Go.st (fun _ kt => XS.icmpYes X51.here hx rfl (pc0 := 10) (pc' := 36) rfl (hb hby d5_10) rfl (flt (by decide : ¬ ((3 : Int32) < (3 : Int32)))).2.1 (by decide) (by decide) kt) ?_
        show Go p e below _ (T51.setTop (mkF m 36 #[.val (.ref a), .val (.int qq), .val (.int z2), .val (.int (3 : Int32))] []))
        refine Go.st (fun _ kt => XS.iloadN X51.here hx rfl (hb hby d5_36) rfl kt) ?_
        show Go p e below _ (T51.setTop (mkF m 37 #[.val (.ref a), .val (.int qq), .val (.int z2), .val (.int (3 : Int32))] [(.int z2)]))
        refine Go.retI X51 hx Bd.returns (BodyLoose.notSynchronized Bd) (hb hby d5_37) (Q := (Q_rm5 Z a qq av kv ar kr y0 y1 y2 z0 z1 z2 h0 n0)) (by decide) (by decide) ?_
        show (Q_rm5 Z a qq av kv ar kr y0 y1 y2 z0 z1 z2 h0 n0) _ T51.heap _
        rw [e51]
        exact ⟨by simp [own_st, *], N0, rfl⟩
      · refine Go.st (fun _ kt => XS.icmpYes X46.here hx rfl (pc0 := 20) (pc' := 30) rfl (hb hby d5_20) rfl (feq hc20_48).2 (by decide) (by decide) kt) ?_
        show Go p e below _ (T46.setTop (mkF m 30 #[.val (.ref a), .val (.int qq), .val (.int z1), .val (.int (2 : Int32))] []))
        refine Go.st (fun _ kt => XS.iinc X46.here hx rfl (hb hby d5_30) rfl (l' := #[.val (.ref a), .val (.int qq), .val (.int z1), .val (.int (3 : Int32))]) rfl kt) ?_
        show Go p e below _ (T46.setTop (mkF m 33 #[.val (.ref a), .val (.int qq), .val (.int z1), .val (.int (3 : Int32))] []))
        refine Go.st (fun _ kt => XS.goto X46.here hx rfl (pc0 := 33) (pc' := 4) rfl (hb hby d5_33) (by decide) (by decide) kt) ?_
        show Go p e below _ (T46.setTop (mkF m 4 #[.val (.ref a), .val (.int qq), .val (.int z1), .val (.int (3 : Int32))] []))
        refine Go.st (fun _ kt => XS.iloadN X46.here hx rfl (hb hby d5_4) rfl kt) ?_
        show Go p e below _ (T46.setTop (mkF m 5 #[.val (.ref a), .val (.int qq), .val (.int z1), .val (.int (3 : Int32))] [(.int (3 : Int32))]))
        refine Go.st (fun _ kt => XS.aloadN X46.here hx rfl (hb hby d5_5) rfl rfl kt) ?_
        show Go p e below _ (T46.setTop (mkF m 6 #[.val (.ref a), .val (.int qq), .val (.int z1), .val (.int (3 : Int32))] [(.ref a), (.int (3 : Int32))]))
        obtain ⟨T53, X53, e53, st53⟩ := getF X46 hx hZ hown (host := "") (Or.inl (hw _ (List.mem_of_getElem? (i := 26) rfl))) Via.refl e46 F_v (g := (mkF m 6 #[.val (.ref a), .val (.int qq), .val (.int z1), .val (.int (3 : Int32))] [(.ref a), (.int (3 : Int32))])) rfl rfl (hb hby d5_6)
        refine Go.st st53 ?_
        show Go p e below _ (T53.setTop (mkF m 9 #[.val (.ref a), .val (.int qq), .val (.int z1), .val (.int (3 : Int32))] [(.ref av), (.int (3 : Int32))]))
        obtain ⟨cl54, Ar54, -, S54, N54', -, -⟩ := id V_v
        refine Go.st (fun _ kt => X53.arraylength hx (by rw [e53]; exact Ar54.1) (State.isArrayOf_alike hZ.alike Ar54.2.1) (g := (mkF m 9 #[.val (.ref a), .val (.int qq), .val (.int z1), .val (.int (3 : Int32))] [(.ref av), (.int (3 : Int32))])) rfl rfl (hb hby d5_9) _ kt) ?_
        rw [len_of S54 N54']
        show Go p e below _ (T53.setTop (mkF m 10 #[.val (.ref a), .val (.int qq), .val (.int z1), .val (.int (3 : Int32))] [(.int (3 : Int32)), (.int (3 : Int32))]))
        refine Go.st (fun _ kt => XS.icmpYes X53.here hx rfl (pc0 := 10) (pc' := 36) rfl (hb hby d5_10) rfl (flt (by decide : ¬ ((3 : Int32) < (3 : Int32)))).2.1 (by decide) (by decide) kt) ?_
        show Go p e below _ (T53.setTop (mkF m 36 #[.val (.ref a), .val (.int qq), .val (.int z1), .val (.int (3 : Int32))] []))
        refine Go.st (fun _ kt => XS.iloadN X53.here hx rfl (hb hby d5_36) rfl kt) ?_
        show Go p e below _ (T53.setTop (mkF m 37 #[.val (.ref a), .val (.int qq), .val (.int z1), .val (.int (3 : Int32))] [(.int z1)]))
        refine Go.retI X53 hx Bd.returns (BodyLoose.notSynchronized Bd) (hb hby d5_37) (Q := (Q_rm5 Z a qq av kv ar kr y0 y1 y2 z0 z1 z2 h0 n0)) (by decide) (by decide) ?_
        show (Q_rm5 Z a qq av kv ar kr y0 y1 y2 z0 z1 z2 h0 n0) _ T53.heap _
        rw [e53]
        exact ⟨by simp [own_st, *], N0, rfl⟩
    · refine Go.st (fun _ kt => XS.icmpYes X39.here hx rfl (pc0 := 20) (pc' := 30) rfl (hb hby d5_20) rfl (feq hc20_41).2 (by decide) (by decide) kt) ?_
      show Go p e below _ (T39.setTop (mkF m 30 #[.val (.ref a), .val (.int qq), .val (.int (0 : Int32)), .val (.int (1 : Int32))] []))
      refine Go.st (fun _ kt => XS.iinc X39.here hx rfl (hb hby d5_30) rfl (l' := #[.val (.ref a), .val (.int qq), .val (.int (0 : Int32)), .val (.int (2 : Int32))]) rfl kt) ?_
      show Go p e below _ (T39.setTop (mkF m 33 #[.val (.ref a), .val (.int qq), .val (.int (0 : Int32)), .val (.int (2 : Int32))] []))
      refine Go.st (fun _ kt => XS.goto X39.here hx rfl (pc0 := 33) (pc' := 4) rfl (hb hby d5_33) (by decide) (by decide) kt) ?_
      show Go p e below _ (T39.setTop (mkF m 4 #[.val (.ref a), .val (.int qq), .val (.int (0 : Int32)), .val (.int (2 : Int32))] []))
      refine Go.st (fun _ kt => XS.iloadN X39.here hx rfl (hb hby d5_4) rfl kt) ?_
      show Go p e below _ (T39.setTop (mkF m 5 #[.val (.ref a), .val (.int qq), .val (.int (0 : Int32)), .val (.int (2 : Int32))] [(.int (2 : Int32))]))
      refine Go.st (fun _ kt => XS.aloadN X39.here hx rfl (hb hby d5_5) rfl rfl kt) ?_
      show Go p e below _ (T39.setTop (mkF m 6 #[.val (.ref a), .val (.int qq), .val (.int (0 : Int32)), .val (.int (2 : Int32))] [(.ref a), (.int (2 : Int32))]))
      obtain ⟨T55, X55, e55, st55⟩ := getF X39 hx hZ hown (host := "") (Or.inl (hw _ (List.mem_of_getElem? (i := 26) rfl))) Via.refl e39 F_v (g := (mkF m 6 #[.val (.ref a), .val (.int qq), .val (.int (0 : Int32)), .val (.int (2 : Int32))] [(.ref a), (.int (2 : Int32))])) rfl rfl (hb hby d5_6)
      refine Go.st st55 ?_
      show Go p e below _ (T55.setTop (mkF m 9 #[.val (.ref a), .val (.int qq), .val (.int (0 : Int32)), .val (.int (2 : Int32))] [(.ref av), (.int (2 : Int32))]))
      obtain ⟨cl56, Ar56, -, S56, N56', -, -⟩ := id V_v
      refine Go.st (fun _ kt => X55.arraylength hx (by rw [e55]; exact Ar56.1) (State.isArrayOf_alike hZ.alike Ar56.2.1) (g := (mkF m 9 #[.val (.ref a), .val (.int qq), .val (.int (0 : Int32)), .val (.int (2 : Int32))] [(.ref av), (.int (2 : Int32))])) rfl rfl (hb hby d5_9) _ kt) ?_
      rw [len_of S56 N56']
      show Go p e below _ (T55.setTop (mkF m 10 #[.val (.ref a), .val (.int qq), .val (.int (0 : Int32)), .val (.int (2 : Int32))] [(.int (3 : Int32)), (.int (2 : Int32))]))
      refine Go.st (fun _ kt => XS.icmpNo X55.here hx rfl (hb hby d5_10) rfl (tlt (by decide : (2 : Int32) < (3 : Int32))).2.1 kt) ?_
      show Go p e below _ (T55.setTop (mkF m 13 #[.val (.ref a), .val (.int qq), .val (.int (0 : Int32)), .val (.int (2 : Int32))] []))
      refine Go.st (fun _ kt => XS.aloadN X55.here hx rfl (hb hby d5_13) rfl rfl kt) ?_
      show Go p e below _ (T55.setTop (mkF m 14 #[.val (.ref a), .val (.int qq), .val (.int (0 : Int32)), .val (.int (2 : Int32))] [(.ref a)]))
      obtain ⟨T57, X57, e57, st57⟩ := getF X55 hx hZ hown (host := "") (Or.inl (hw _ (List.mem_of_getElem? (i := 26) rfl))) Via.refl e55 F_v (g := (mkF m 14 #[.val (.ref a), .val (.int qq), .val (.int (0 : Int32)), .val (.int (2 : Int32))] [(.ref a)])) rfl rfl (hb hby d5_14)
      refine Go.st st57 ?_
      show Go p e below _ (T57.setTop (mkF m 17 #[.val (.ref a), .val (.int qq), .val (.int (0 : Int32)), .val (.int (2 : Int32))] [(.ref av)]))
      refine Go.st (fun _ kt => XS.iloadN X57.here hx rfl (hb hby d5_17) rfl kt) ?_
      show Go p e below _ (T57.setTop (mkF m 18 #[.val (.ref a), .val (.int qq), .val (.int (0 : Int32)), .val (.int (2 : Int32))] [(.int (2 : Int32)), (.ref av)]))
      obtain ⟨cl58, Ar58, -, S58, N58', H58, G58⟩ := id V_v
      have hin58 := inb_of S58 (j := (2 : Int32)) ⟨by decide, by decide⟩
      have hat58 := Has.at H58 hin58 (v := (.int y2)) rfl
      refine Go.st (fun _ kt => X57.iaload hx (j := (2 : Int32)) (v := (.int y2)) (by rw [e57]; exact Ar58.1) (State.isArrayOf_alike hZ.alike Ar58.2.1) Ar58.2.2 hin58 hat58 (g := (mkF m 18 #[.val (.ref a), .val (.int qq), .val (.int (0 : Int32)), .val (.int (2 : Int32))] [(.int (2 : Int32)), (.ref av)])) rfl rfl (hb hby d5_18) _ kt) ?_
      show Go p e below _ (T57.setTop (mkF m 19 #[.val (.ref a), .val (.int qq), .val (.int (0 : Int32)), .val (.int (2 : Int32))] [(.int y2)]))
      refine Go.st (fun _ kt => XS.iloadN X57.here hx rfl (hb hby d5_19) rfl kt) ?_
      show Go p e below _ (T57.setTop (mkF m 20 #[.val (.ref a), .val (.int qq), .val (.int (0 : Int32)), .val (.int (2 : Int32))] [(.int qq), (.int y2)]))
      by_cases hc20_59 : y2 = qq
      · refine Go.st (fun _ kt => XS.icmpNo X57.here hx rfl (hb hby d5_20) rfl (teq hc20_59).2 kt) ?_
        show Go p e below _ (T57.setTop (mkF m 23 #[.val (.ref a), .val (.int qq), .val (.int (0 : Int32)), .val (.int (2 : Int32))] []))
        refine Go.st (fun _ kt => XS.aloadN X57.here hx rfl (hb hby d5_23) rfl rfl kt) ?_
        show Go p e below _ (T57.setTop (mkF m 24 #[.val (.ref a), .val (.int qq), .val (.int (0 : Int32)), .val (.int (2 : Int32))] [(.ref a)]))
        obtain ⟨T60, X60, e60, st60⟩ := getF X57 hx hZ hown (host := "") (Or.inl (hw _ (List.mem_of_getElem? (i := 33) rfl))) Via.refl e57 F_s (g := (mkF m 24 #[.val (.ref a), .val (.int qq), .val (.int (0 : Int32)), .val (.int (2 : Int32))] [(.ref a)])) rfl rfl (hb hby d5_24)
        refine Go.st st60 ?_
        show Go p e below _ (T60.setTop (mkF m 27 #[.val (.ref a), .val (.int qq), .val (.int (0 : Int32)), .val (.int (2 : Int32))] [(.ref ar)]))
        refine Go.st (fun _ kt => XS.iloadN X60.here hx rfl (hb hby d5_27) rfl kt) ?_
        show Go p e below _ (T60.setTop (mkF m 28 #[.val (.ref a), .val (.int qq), .val (.int (0 : Int32)), .val (.int (2 : Int32))] [(.int (2 : Int32)), (.ref ar)]))
        obtain ⟨cl61, Ar61, -, S61, N61', H61, G61⟩ := id V_s
        have hin61 := inb_of S61 (j := (2 : Int32)) ⟨by decide, by decide⟩
        have hat61 := Has.at H61 hin61 (v := (.int z2)) rfl
        refine Go.st (fun _ kt => X60.iaload hx (j := (2 : Int32)) (v := (.int z2)) (by rw [e60]; exact Ar61.1) (State.isArrayOf_alike hZ.alike Ar61.2.1) Ar61.2.2 hin61 hat61 (g := (mkF m 28 #[.val (.ref a), .val (.int qq), .val (.int (0 : Int32)), .val (.int (2 : Int32))] [(.int (2 : Int32)), (.ref ar)])) rfl rfl (hb hby d5_28) _ kt) ?_
        show Go p e below _ (T60.setTop (mkF m 29 #[.val (.ref a), .val (.int qq), .val (.int (0 : Int32)), .val (.int (2 : Int32))] [(.int z2)]))
        refine Go.st (fun _ kt => XS.istoreN X60.here hx rfl (hb hby d5_29) rfl (l' := #[.val (.ref a), .val (.int qq), .val (.int z2), .val (.int (2 : Int32))]) rfl kt) ?_
        show Go p e below _ (T60.setTop (mkF m 30 #[.val (.ref a), .val (.int qq), .val (.int z2), .val (.int (2 : Int32))] []))
        refine Go.st (fun _ kt => XS.iinc X60.here hx rfl (hb hby d5_30) rfl (l' := #[.val (.ref a), .val (.int qq), .val (.int z2), .val (.int (3 : Int32))]) rfl kt) ?_
        show Go p e below _ (T60.setTop (mkF m 33 #[.val (.ref a), .val (.int qq), .val (.int z2), .val (.int (3 : Int32))] []))
        refine Go.st (fun _ kt => XS.goto X60.here hx rfl (pc0 := 33) (pc' := 4) rfl (hb hby d5_33) (by decide) (by decide) kt) ?_
        show Go p e below _ (T60.setTop (mkF m 4 #[.val (.ref a), .val (.int qq), .val (.int z2), .val (.int (3 : Int32))] []))
        refine Go.st (fun _ kt => XS.iloadN X60.here hx rfl (hb hby d5_4) rfl kt) ?_
        show Go p e below _ (T60.setTop (mkF m 5 #[.val (.ref a), .val (.int qq), .val (.int z2), .val (.int (3 : Int32))] [(.int (3 : Int32))]))
        refine Go.st (fun _ kt => XS.aloadN X60.here hx rfl (hb hby d5_5) rfl rfl kt) ?_
        show Go p e below _ (T60.setTop (mkF m 6 #[.val (.ref a), .val (.int qq), .val (.int z2), .val (.int (3 : Int32))] [(.ref a), (.int (3 : Int32))]))
        obtain ⟨T62, X62, e62, st62⟩ := getF X60 hx hZ hown (host := "") (Or.inl (hw _ (List.mem_of_getElem? (i := 26) rfl))) Via.refl e60 F_v (g := (mkF m 6 #[.val (.ref a), .val (.int qq), .val (.int z2), .val (.int (3 : Int32))] [(.ref a), (.int (3 : Int32))])) rfl rfl (hb hby d5_6)
        refine Go.st st62 ?_
        show Go p e below _ (T62.setTop (mkF m 9 #[.val (.ref a), .val (.int qq), .val (.int z2), .val (.int (3 : Int32))] [(.ref av), (.int (3 : Int32))]))
        obtain ⟨cl63, Ar63, -, S63, N63', -, -⟩ := id V_v
        refine Go.st (fun _ kt => X62.arraylength hx (by rw [e62]; exact Ar63.1) (State.isArrayOf_alike hZ.alike Ar63.2.1) (g := (mkF m 9 #[.val (.ref a), .val (.int qq), .val (.int z2), .val (.int (3 : Int32))] [(.ref av), (.int (3 : Int32))])) rfl rfl (hb hby d5_9) _ kt) ?_
        rw [len_of S63 N63']
        show Go p e below _ (T62.setTop (mkF m 10 #[.val (.ref a), .val (.int qq), .val (.int z2), .val (.int (3 : Int32))] [(.int (3 : Int32)), (.int (3 : Int32))]))
        refine Go.st (fun _ kt => XS.icmpYes X62.here hx rfl (pc0 := 10) (pc' := 36) rfl (hb hby d5_10) rfl (flt (by decide : ¬ ((3 : Int32) < (3 : Int32)))).2.1 (by decide) (by decide) kt) ?_
        show Go p e below _ (T62.setTop (mkF m 36 #[.val (.ref a), .val (.int qq), .val (.int z2), .val (.int (3 : Int32))] []))
        refine Go.st (fun _ kt => XS.iloadN X62.here hx rfl (hb hby d5_36) rfl kt) ?_
        show Go p e below _ (T62.setTop (mkF m 37 #[.val (.ref a), .val (.int qq), .val (.int z2), .val (.int (3 : Int32))] [(.int z2)]))
        refine Go.retI X62 hx Bd.returns (BodyLoose.notSynchronized Bd) (hb hby d5_37) (Q := (Q_rm5 Z a qq av kv ar kr y0 y1 y2 z0 z1 z2 h0 n0)) (by decide) (by decide) ?_
        show (Q_rm5 Z a qq av kv ar kr y0 y1 y2 z0 z1 z2 h0 n0) _ T62.heap _
        rw [e62]
        exact ⟨by simp [own_st, *], N0, rfl⟩
      · refine Go.st (fun _ kt => XS.icmpYes X57.here hx rfl (pc0 := 20) (pc' := 30) rfl (hb hby d5_20) rfl (feq hc20_59).2 (by decide) (by decide) kt) ?_
        show Go p e below _ (T57.setTop (mkF m 30 #[.val (.ref a), .val (.int qq), .val (.int (0 : Int32)), .val (.int (2 : Int32))] []))
        refine Go.st (fun _ kt => XS.iinc X57.here hx rfl (hb hby d5_30) rfl (l' := #[.val (.ref a), .val (.int qq), .val (.int (0 : Int32)), .val (.int (3 : Int32))]) rfl kt) ?_
        show Go p e below _ (T57.setTop (mkF m 33 #[.val (.ref a), .val (.int qq), .val (.int (0 : Int32)), .val (.int (3 : Int32))] []))
        refine Go.st (fun _ kt => XS.goto X57.here hx rfl (pc0 := 33) (pc' := 4) rfl (hb hby d5_33) (by decide) (by decide) kt) ?_
        show Go p e below _ (T57.setTop (mkF m 4 #[.val (.ref a), .val (.int qq), .val (.int (0 : Int32)), .val (.int (3 : Int32))] []))
        refine Go.st (fun _ kt => XS.iloadN X57.here hx rfl (hb hby d5_4) rfl kt) ?_
        show Go p e below _ (T57.setTop (mkF m 5 #[.val (.ref a), .val (.int qq), .val (.int (0 : Int32)), .val (.int (3 : Int32))] [(.int (3 : Int32))]))
        refine Go.st (fun _ kt => XS.aloadN X57.here hx rfl (hb hby d5_5) rfl rfl kt) ?_
        show Go p e below _ (T57.setTop (mkF m 6 #[.val (.ref a), .val (.int qq), .val (.int (0 : Int32)), .val (.int (3 : Int32))] [(.ref a), (.int (3 : Int32))]))
        obtain ⟨T64, X64, e64, st64⟩ := getF X57 hx hZ hown (host := "") (Or.inl (hw _ (List.mem_of_getElem? (i := 26) rfl))) Via.refl e57 F_v (g := (mkF m 6 #[.val (.ref a), .val (.int qq), .val (.int (0 : Int32)), .val (.int (3 : Int32))] [(.ref a), (.int (3 : Int32))])) rfl rfl (hb hby d5_6)
        refine Go.st st64 ?_
        show Go p e below _ (T64.setTop (mkF m 9 #[.val (.ref a), .val (.int qq), .val (.int (0 : Int32)), .val (.int (3 : Int32))] [(.ref av), (.int (3 : Int32))]))
        obtain ⟨cl65, Ar65, -, S65, N65', -, -⟩ := id V_v
        refine Go.st (fun _ kt => X64.arraylength hx (by rw [e64]; exact Ar65.1) (State.isArrayOf_alike hZ.alike Ar65.2.1) (g := (mkF m 9 #[.val (.ref a), .val (.int qq), .val (.int (0 : Int32)), .val (.int (3 : Int32))] [(.ref av), (.int (3 : Int32))])) rfl rfl (hb hby d5_9) _ kt) ?_
        rw [len_of S65 N65']
        show Go p e below _ (T64.setTop (mkF m 10 #[.val (.ref a), .val (.int qq), .val (.int (0 : Int32)), .val (.int (3 : Int32))] [(.int (3 : Int32)), (.int (3 : Int32))]))
        refine Go.st (fun _ kt => XS.icmpYes X64.here hx rfl (pc0 := 10) (pc' := 36) rfl (hb hby d5_10) rfl (flt (by decide : ¬ ((3 : Int32) < (3 : Int32)))).2.1 (by decide) (by decide) kt) ?_
        show Go p e below _ (T64.setTop (mkF m 36 #[.val (.ref a), .val (.int qq), .val (.int (0 : Int32)), .val (.int (3 : Int32))] []))
        refine Go.st (fun _ kt => XS.iloadN X64.here hx rfl (hb hby d5_36) rfl kt) ?_
        show Go p e below _ (T64.setTop (mkF m 37 #[.val (.ref a), .val (.int qq), .val (.int (0 : Int32)), .val (.int (3 : Int32))] [(.int (0 : Int32))]))
        refine Go.retI X64 hx Bd.returns (BodyLoose.notSynchronized Bd) (hb hby d5_37) (Q := (Q_rm5 Z a qq av kv ar kr y0 y1 y2 z0 z1 z2 h0 n0)) (by decide) (by decide) ?_
        show (Q_rm5 Z a qq av kv ar kr y0 y1 y2 z0 z1 z2 h0 n0) _ T64.heap _
        rw [e64]
        exact ⟨by simp [own_st, *], N0, rfl⟩
theorem own_pd1 : parseMethodDescriptor "([I)J" = some ⟨[(.array .int)], some .long⟩ := by decide +kernel
theorem own_pd2 : parseMethodDescriptor "([I)[I" = some ⟨[(.array .int)], some (.array .int)⟩ := by decide +kernel
theorem d1_0 : decode prog_87_method_1_code 0 = .ok (.aload_n 0, 1) := by decide +kernel
theorem d1_1 : decode prog_87_method_1_code 1 = .ok (.invokespecial 3, 3) := by decide +kernel
theorem d1_4 : decode prog_87_method_1_code 4 = .ok (.aload_n 1, 1) := by decide +kernel
theorem d1_5 : decode prog_87_method_1_code 5 = .ok (.arraylength, 1) := by decide +kernel
theorem d1_6 : decode prog_87_method_1_code 6 = .ok (.aload_n 2, 1) := by decide +kernel
theorem d1_7 : decode prog_87_method_1_code 7 = .ok (.arraylength, 1) := by decide +kernel
theorem d1_8 : decode prog_87_method_1_code 8 = .ok (.if_icmp .eq 20, 3) := by decide +kernel
theorem d1_28 : decode prog_87_method_1_code 28 = .ok (.iconst 1, 1) := by decide +kernel
theorem d1_29 : decode prog_87_method_1_code 29 = .ok (.istore 4, 2) := by decide +kernel
theorem d1_31 : decode prog_87_method_1_code 31 = .ok (.iload 4, 2) := by decide +kernel
theorem d1_33 : decode prog_87_method_1_code 33 = .ok (.aload_n 1, 1) := by decide +kernel
theorem d1_34 : decode prog_87_method_1_code 34 = .ok (.arraylength, 1) := by decide +kernel
theorem d1_35 : decode prog_87_method_1_code 35 = .ok (.if_icmp .ge 53, 3) := by decide +kernel
theorem d1_38 : decode prog_87_method_1_code 38 = .ok (.iconst 0, 1) := by decide +kernel
theorem d1_39 : decode prog_87_method_1_code 39 = .ok (.istore 5, 2) := by decide +kernel
theorem d1_41 : decode prog_87_method_1_code 41 = .ok (.iload 5, 2) := by decide +kernel
theorem d1_43 : decode prog_87_method_1_code 43 = .ok (.iload 4, 2) := by decide +kernel
theorem d1_45 : decode prog_87_method_1_code 45 = .ok (.if_icmp .ge 37, 3) := by decide +kernel
theorem d1_48 : decode prog_87_method_1_code 48 = .ok (.aload_n 1, 1) := by decide +kernel
theorem d1_49 : decode prog_87_method_1_code 49 = .ok (.iload 5, 2) := by decide +kernel
theorem d1_51 : decode prog_87_method_1_code 51 = .ok (.iaload, 1) := by decide +kernel
theorem d1_52 : decode prog_87_method_1_code 52 = .ok (.aload_n 1, 1) := by decide +kernel
theorem d1_53 : decode prog_87_method_1_code 53 = .ok (.iload 4, 2) := by decide +kernel
theorem d1_55 : decode prog_87_method_1_code 55 = .ok (.iaload, 1) := by decide +kernel
theorem d1_56 : decode prog_87_method_1_code 56 = .ok (.if_icmp .ne 20, 3) := by decide +kernel
theorem d1_76 : decode prog_87_method_1_code 76 = .ok (.iinc 5 1, 3) := by decide +kernel
theorem d1_79 : decode prog_87_method_1_code 79 = .ok (.goto (-38), 3) := by decide +kernel
theorem d1_82 : decode prog_87_method_1_code 82 = .ok (.iinc 4 1, 3) := by decide +kernel
theorem d1_85 : decode prog_87_method_1_code 85 = .ok (.goto (-54), 3) := by decide +kernel
theorem d1_88 : decode prog_87_method_1_code 88 = .ok (.aload_n 2, 1) := by decide +kernel
theorem d1_89 : decode prog_87_method_1_code 89 = .ok (.invokestatic 27, 3) := by decide +kernel
theorem d1_92 : decode prog_87_method_1_code 92 = .ok (.aload_n 3, 1) := by decide +kernel
theorem d1_93 : decode prog_87_method_1_code 93 = .ok (.arraylength, 1) := by decide +kernel
theorem d1_94 : decode prog_87_method_1_code 94 = .ok (.i2l, 1) := by decide +kernel
theorem d1_95 : decode prog_87_method_1_code 95 = .ok (.lcmp, 1) := by decide +kernel
theorem d1_96 : decode prog_87_method_1_code 96 = .ok (.ifCond .eq 22, 3) := by decide +kernel
theorem d1_118 : decode prog_87_method_1_code 118 = .ok (.aload_n 0, 1) := by decide +kernel
theorem d1_119 : decode prog_87_method_1_code 119 = .ok (.aload_n 1, 1) := by decide +kernel
theorem d1_120 : decode prog_87_method_1_code 120 = .ok (.invokevirtual 36, 3) := by decide +kernel
theorem d1_123 : decode prog_87_method_1_code 123 = .ok (.checkcast 37, 3) := by decide +kernel
theorem d1_126 : decode prog_87_method_1_code 126 = .ok (.putfield 42, 3) := by decide +kernel
theorem d1_129 : decode prog_87_method_1_code 129 = .ok (.aload_n 0, 1) := by decide +kernel
theorem d1_130 : decode prog_87_method_1_code 130 = .ok (.aload_n 2, 1) := by decide +kernel
theorem d1_131 : decode prog_87_method_1_code 131 = .ok (.invokevirtual 36, 3) := by decide +kernel
theorem d1_134 : decode prog_87_method_1_code 134 = .ok (.checkcast 37, 3) := by decide +kernel
theorem d1_137 : decode prog_87_method_1_code 137 = .ok (.putfield 45, 3) := by decide +kernel
theorem d1_140 : decode prog_87_method_1_code 140 = .ok (.aload_n 0, 1) := by decide +kernel
theorem d1_141 : decode prog_87_method_1_code 141 = .ok (.aload_n 2, 1) := by decide +kernel
theorem d1_142 : decode prog_87_method_1_code 142 = .ok (.invokestatic 48, 3) := by decide +kernel
theorem d1_145 : decode prog_87_method_1_code 145 = .ok (.putfield 52, 3) := by decide +kernel
theorem d1_148 : decode prog_87_method_1_code 148 = .ok (.aload_n 0, 1) := by decide +kernel
theorem d1_149 : decode prog_87_method_1_code 149 = .ok (.aload_n 3, 1) := by decide +kernel
theorem d1_150 : decode prog_87_method_1_code 150 = .ok (.putfield 54, 3) := by decide +kernel
theorem d1_153 : decode prog_87_method_1_code 153 = .ok (.return_, 1) := by decide +kernel
def Q_rm1 (Z : State) (a : Addr) (av : Addr) (az : Addr) (ac : Addr) (kv : ClassId) (ks : ClassId) (kc : ClassId) (y0 : Int32) (y1 : Int32) (y2 : Int32) (x0 : Int32) (x1 : Int32) (x2 : Int32) (h0 : Heap) (n0 : Nat) (v : Option Value) (h : Heap) (L : List Loc) : Prop := ∃ bv kbv br kbr, v = none ∧ Fr n0 L ∧ Keep h0 h [a] ∧ h0.size ≤ bv ∧ h0.size ≤ br ∧ Fld Z h a "com/example/tributary/tributary/model/CostTable" "variables" "[I" (.ref bv) ∧ Fld Z h a "com/example/tributary/tributary/model/CostTable" "strides" "[I" (.ref br) ∧ Arv Z h bv kbv .int (3 : Int32) [(.int y0), (.int y1), (.int y2)] (.int (0 : Int32)) ∧ Arv Z h br kbr .int (3 : Int32) [(.int (((1 : Int32) * x2) * x1)), (.int ((1 : Int32) * x2)), (.int (1 : Int32))] (.int (0 : Int32))
theorem ef_rm1 (m : MethodId) (a : Addr) (av : Addr) (az : Addr) (ac : Addr) : entryFrame m #[(.ref a), (.ref av), (.ref az), (.ref ac)] 6 = mkF m 0 #[.val (.ref a), .val (.ref av), .val (.ref az), .val (.ref ac), .unset, .unset] [] := by first | (simp [entryFrame, mkF, argsToLocals, Value.category]; done) | rfl
set_option maxRecDepth 65536 in
set_option maxHeartbeats 40000000 in
theorem rm1 (l : Launch) (Z : State) (a0 : Array Value) (hw : ∀ d ∈ tables_1, d.before a0 Z = true) (ws : List Jvm.Cond) (a : Addr) (av : Addr) (az : Addr) (ac : Addr) (kv : ClassId) (ks : ClassId) (kc : ClassId) (y0 : Int32) (y1 : Int32) (y2 : Int32) (x0 : Int32) (x1 : Int32) (x2 : Int32) (h0 : Heap) (n0 : Nat) (Z0 : n0 ≤ h0.size) (E_a : Exa Z h0 a "com/example/tributary/tributary/model/CostTable") (F_variables : Fld Z h0 a "com/example/tributary/tributary/model/CostTable" "variables" "[I" .null) (F_sizes : Fld Z h0 a "com/example/tributary/tributary/model/CostTable" "sizes" "[I" .null) (F_strides : Fld Z h0 a "com/example/tributary/tributary/model/CostTable" "strides" "[I" .null) (F_costs : Fld Z h0 a "com/example/tributary/tributary/model/CostTable" "costs" "[D" .null) (V_v : Arv Z h0 av kv .int (3 : Int32) [(.int y0), (.int y1), (.int y2)] (.int (0 : Int32))) (V_s : Arv Z h0 az ks .int (3 : Int32) [(.int x0), (.int x1), (.int x2)] (.int (0 : Int32))) (V_c : Arv Z h0 ac kc .double (16 : Int32) [] (defaultValue .double)) (E_v : Exa Z h0 av "[I") (E_s : Exa Z h0 az "[I") (gn_a : n0 ≤ a) (hva : ¬ av = a) (hsa : ¬ az = a) (hca : ¬ ac = a) (hF : own_F x0 x1 x2) (hd01 : ¬ y0 = y1) (hd02 : ¬ y0 = y2) (hd12 : ¬ y1 = y2) :
    MetFree l (⟨"com/example/tributary/tributary/model/CostTable", "<init>", "([I[I[D)V"⟩ : MethodName) (head1 (Jvm.Cond.code (⟨"com/example/tributary/tributary/model/CostTable", "<init>", "([I[I[D)V"⟩ : MethodName) prog_87_method_1_code 6 none :: ws) ({ frames := 1, cells := 3, slots := 9, locals := 18 } : Room)) (fun ag_ U_ => ag_ = #[(.ref a), (.ref av), (.ref az), (.ref ac)] ∧ Z.Warmed39 U_.vm ∧ U_.heap = h0) (fun _ _ _ _ _ => True) (fun _ U_ o_ V_ => ∃ v_ L_, o_ = .returned v_ ∧ (Q_rm1 Z a av az ac kv ks kc y0 y1 y2 x0 x1 x2 h0 n0) v_ V_.heap L_ ∧ FrameEnd U_ o_ V_ L_ ({ frames := 1, cells := 3, slots := 9, locals := 18 } : Room).cells ({ frames := 1, cells := 3, slots := 9, locals := 18 } : Room).slots) := by
  refine MetFree.of_bodySF (plainFor_of_name own_pn0) hisR ?_
  intro p e s m args below meth c s₁ Bd hml0 hP hK
  obtain ⟨rfl, hZ, hh⟩ := hP
  have hx := Bd.exec
  have hby := Bd.bytes
  have hml : c.maxLocals = 6 := hml0
  have hown : s.vm.findClass "com/example/tributary/tributary/model/CostTable" = some m.cls := findClass_of_methodNamed Bd.named
  have hnm := (name_of_methodNamed Bd.named Bd.method).1
  have X0 : Stand p l e ({ frames := 1, cells := 3, slots := 9, locals := 18 } : Room) s m #[(.ref a), (.ref av), (.ref az), (.ref ac)] below meth c s₁ [] 0 0 := Stand.of_body Bd
  have e0 : s₁.heap = h0 := by rw [← hh, Bd.state]; rfl
  have N0 := Fr.nil n0
  refine Go.st (G := fun s₂ o_ => ∃ v_ L_, o_ = .returned v_ ∧ (Q_rm1 Z a av az ac kv ks kc y0 y1 y2 x0 x1 x2 h0 n0) v_ s₂.heap L_ ∧ FrameEnd s o_ s₂ L_ ({ frames := 1, cells := 3, slots := 9, locals := 18 } : Room).cells ({ frames := 1, cells := 3, slots := 9, locals := 18 } : Room).slots) (fun t kt => castTop (ef_rm1 m a av az ac) kt) ?_
  show Go p e below _ (s₁.setTop (mkF m 0 #[.val (.ref a), .val (.ref av), .val (.ref az), .val (.ref ac), .unset, .unset] []))
  refine Go.st (fun _ kt => XS.aloadN X0.here hx rfl (hb hby d1_0) rfl rfl kt) ?_
  show Go p e below _ (s₁.setTop (mkF m 1 #[.val (.ref a), .val (.ref av), .val (.ref az), .val (.ref ac), .unset, .unset] [(.ref a)]))
  obtain ⟨T1, X1, e1, st1⟩ := initO X0 hx hZ hown (hw _ (List.mem_of_getElem? (i := 10) rfl)) (hw _ (List.mem_of_getElem? (i := 11) rfl)) (hw _ (List.mem_of_getElem? (i := 12) rfl)) e0 (g := (mkF m 1 #[.val (.ref a), .val (.ref av), .val (.ref az), .val (.ref ac), .unset, .unset] [(.ref a)])) rfl (by rw [hml]; rfl) rfl (hb hby d1_1) (by decide) (W := 0) (by show 2 * 0 + _ ≤ _; exact Nat.le_of_eq rfl) (by decide)
  refine Go.st st1 ?_
  show Go p e below _ (T1.setTop (mkF m 4 #[.val (.ref a), .val (.ref av), .val (.ref az), .val (.ref ac), .unset, .unset] []))
  refine Go.st (fun _ kt => XS.aloadN X1.here hx rfl (hb hby d1_4) rfl rfl kt) ?_
  show Go p e below _ (T1.setTop (mkF m 5 #[.val (.ref a), .val (.ref av), .val (.ref az), .val (.ref ac), .unset, .unset] [(.ref av)]))
  obtain ⟨cl2, Ar2, -, S2, N2', -, -⟩ := id V_v
  refine Go.st (fun _ kt => X1.arraylength hx (by rw [e1]; exact Ar2.1) (State.isArrayOf_alike hZ.alike Ar2.2.1) (g := (mkF m 5 #[.val (.ref a), .val (.ref av), .val (.ref az), .val (.ref ac), .unset, .unset] [(.ref av)])) rfl rfl (hb hby d1_5) _ kt) ?_
  rw [len_of S2 N2']
  show Go p e below _ (T1.setTop (mkF m 6 #[.val (.ref a), .val (.ref av), .val (.ref az), .val (.ref ac), .unset, .unset] [(.int (3 : Int32))]))
  refine Go.st (fun _ kt => XS.aloadN X1.here hx rfl (hb hby d1_6) rfl rfl kt) ?_
  show Go p e below _ (T1.setTop (mkF m 7 #[.val (.ref a), .val (.ref av), .val (.ref az), .val (.ref ac), .unset, .unset] [(.ref az), (.int (3 : Int32))]))
  obtain ⟨cl3, Ar3, -, S3, N3', -, -⟩ := id V_s
  refine Go.st (fun _ kt => X1.arraylength hx (by rw [e1]; exact Ar3.1) (State.isArrayOf_alike hZ.alike Ar3.2.1) (g := (mkF m 7 #[.val (.ref a), .val (.ref av), .val (.ref az), .val (.ref ac), .unset, .unset] [(.ref az), (.int (3 : Int32))])) rfl rfl (hb hby d1_7) _ kt) ?_
  rw [len_of S3 N3']
  show Go p e below _ (T1.setTop (mkF m 8 #[.val (.ref a), .val (.ref av), .val (.ref az), .val (.ref ac), .unset, .unset] [(.int (3 : Int32)), (.int (3 : Int32))]))
  refine Go.st (fun _ kt => XS.icmpYes X1.here hx rfl (pc0 := 8) (pc' := 28) rfl (hb hby d1_8) rfl (teq (by decide : (3 : Int32) = (3 : Int32))).1 (by decide) (by decide) kt) ?_
  show Go p e below _ (T1.setTop (mkF m 28 #[.val (.ref a), .val (.ref av), .val (.ref az), .val (.ref ac), .unset, .unset] []))
  refine Go.st (fun _ kt => XS.iconst X1.here hx rfl (hb hby d1_28) kt) ?_
  show Go p e below _ (T1.setTop (mkF m 29 #[.val (.ref a), .val (.ref av), .val (.ref az), .val (.ref ac), .unset, .unset] [(.int (1 : Int32))]))
  refine Go.st (fun _ kt => XS.istore X1.here hx rfl (hb hby d1_29) rfl (l' := #[.val (.ref a), .val (.ref av), .val (.ref az), .val (.ref ac), .val (.int (1 : Int32)), .unset]) rfl kt) ?_
  show Go p e below _ (T1.setTop (mkF m 31 #[.val (.ref a), .val (.ref av), .val (.ref az), .val (.ref ac), .val (.int (1 : Int32)), .unset] []))
  refine Go.st (fun _ kt => XS.iload X1.here hx rfl (hb hby d1_31) rfl kt) ?_
  show Go p e below _ (T1.setTop (mkF m 33 #[.val (.ref a), .val (.ref av), .val (.ref az), .val (.ref ac), .val (.int (1 : Int32)), .unset] [(.int (1 : Int32))]))
  refine Go.st (fun _ kt => XS.aloadN X1.here hx rfl (hb hby d1_33) rfl rfl kt) ?_
  show Go p e below _ (T1.setTop (mkF m 34 #[.val (.ref a), .val (.ref av), .val (.ref az), .val (.ref ac), .val (.int (1 : Int32)), .unset] [(.ref av), (.int (1 : Int32))]))
  obtain ⟨cl4, Ar4, -, S4, N4', -, -⟩ := id V_v
  refine Go.st (fun _ kt => X1.arraylength hx (by rw [e1]; exact Ar4.1) (State.isArrayOf_alike hZ.alike Ar4.2.1) (g := (mkF m 34 #[.val (.ref a), .val (.ref av), .val (.ref az), .val (.ref ac), .val (.int (1 : Int32)), .unset] [(.ref av), (.int (1 : Int32))])) rfl rfl (hb hby d1_34) _ kt) ?_
  rw [len_of S4 N4']
  show Go p e below _ (T1.setTop (mkF m 35 #[.val (.ref a), .val (.ref av), .val (.ref az), .val (.ref ac), .val (.int (1 : Int32)), .unset] [(.int (3 : Int32)), (.int (1 : Int32))]))
  refine Go.st (fun _ kt => XS.icmpNo X1.here hx rfl (hb hby d1_35) rfl (tlt (by decide : (1 : Int32) < (3 : Int32))).2.1 kt) ?_
  show Go p e below _ (T1.setTop (mkF m 38 #[.val (.ref a), .val (.ref av), .val (.ref az), .val (.ref ac), .val (.int (1 : Int32)), .unset] []))
  refine Go.st (fun _ kt => XS.iconst X1.here hx rfl (hb hby d1_38) kt) ?_
  show Go p e below _ (T1.setTop (mkF m 39 #[.val (.ref a), .val (.ref av), .val (.ref az), .val (.ref ac), .val (.int (1 : Int32)), .unset] [(.int (0 : Int32))]))
  refine Go.st (fun _ kt => XS.istore X1.here hx rfl (hb hby d1_39) rfl (l' := #[.val (.ref a), .val (.ref av), .val (.ref az), .val (.ref ac), .val (.int (1 : Int32)), .val (.int (0 : Int32))]) rfl kt) ?_
  show Go p e below _ (T1.setTop (mkF m 41 #[.val (.ref a), .val (.ref av), .val (.ref az), .val (.ref ac), .val (.int (1 : Int32)), .val (.int (0 : Int32))] []))
  refine Go.st (fun _ kt => XS.iload X1.here hx rfl (hb hby d1_41) rfl kt) ?_
  show Go p e below _ (T1.setTop (mkF m 43 #[.val (.ref a), .val (.ref av), .val (.ref az), .val (.ref ac), .val (.int (1 : Int32)), .val (.int (0 : Int32))] [(.int (0 : Int32))]))
  refine Go.st (fun _ kt => XS.iload X1.here hx rfl (hb hby d1_43) rfl kt) ?_
  show Go p e below _ (T1.setTop (mkF m 45 #[.val (.ref a), .val (.ref av), .val (.ref az), .val (.ref ac), .val (.int (1 : Int32)), .val (.int (0 : Int32))] [(.int (1 : Int32)), (.int (0 : Int32))]))
  refine Go.st (fun _ kt => XS.icmpNo X1.here hx rfl (hb hby d1_45) rfl (tlt (by decide : (0 : Int32) < (1 : Int32))).2.1 kt) ?_
  show Go p e below _ (T1.setTop (mkF m 48 #[.val (.ref a), .val (.ref av), .val (.ref az), .val (.ref ac), .val (.int (1 : Int32)), .val (.int (0 : Int32))] []))
  refine Go.st (fun _ kt => XS.aloadN X1.here hx rfl (hb hby d1_48) rfl rfl kt) ?_
  show Go p e below _ (T1.setTop (mkF m 49 #[.val (.ref a), .val (.ref av), .val (.ref az), .val (.ref ac), .val (.int (1 : Int32)), .val (.int (0 : Int32))] [(.ref av)]))
  refine Go.st (fun _ kt => XS.iload X1.here hx rfl (hb hby d1_49) rfl kt) ?_
  show Go p e below _ (T1.setTop (mkF m 51 #[.val (.ref a), .val (.ref av), .val (.ref az), .val (.ref ac), .val (.int (1 : Int32)), .val (.int (0 : Int32))] [(.int (0 : Int32)), (.ref av)]))
  obtain ⟨cl5, Ar5, -, S5, N5', H5, G5⟩ := id V_v
  have hin5 := inb_of S5 (j := (0 : Int32)) ⟨by decide, by decide⟩
  have hat5 := Has.at H5 hin5 (v := (.int y0)) rfl
  refine Go.st (fun _ kt => X1.iaload hx (j := (0 : Int32)) (v := (.int y0)) (by rw [e1]; exact Ar5.1) (State.isArrayOf_alike hZ.alike Ar5.2.1) Ar5.2.2 hin5 hat5 (g := (mkF m 51 #[.val (.ref a), .val (.ref av), .val (.ref az), .val (.ref ac), .val (.int (1 : Int32)), .val (.int (0 : Int32))] [(.int (0 : Int32)), (.ref av)])) rfl rfl (hb hby d1_51) _ kt) ?_
  show Go p e below _ (T1.setTop (mkF m 52 #[.val (.ref a), .val (.ref av), .val (.ref az), .val (.ref ac), .val (.int (1 : Int32)), .val (.int (0 : Int32))] [(.int y0)]))
  refine Go.st (fun _ kt => XS.aloadN X1.here hx rfl (hb hby d1_52) rfl rfl kt) ?_
  show Go p e below _ (T1.setTop (mkF m 53 #[.val (.ref a), .val (.ref av), .val (.ref az), .val (.ref ac), .val (.int (1 : Int32)), .val (.int (0 : Int32))] [(.ref av), (.int y0)]))
  refine Go.st (fun _ kt => XS.iload X1.here hx rfl (hb hby d1_53) rfl kt) ?_
  show Go p e below _ (T1.setTop (mkF m 55 #[.val (.ref a), .val (.ref av), .val (.ref az), .val (.ref ac), .val (.int (1 : Int32)), .val (.int (0 : Int32))] [(.int (1 : Int32)), (.ref av), (.int y0)]))
  obtain ⟨cl6, Ar6, -, S6, N6', H6, G6⟩ := id V_v
  have hin6 := inb_of S6 (j := (1 : Int32)) ⟨by decide, by decide⟩
  have hat6 := Has.at H6 hin6 (v := (.int y1)) rfl
  refine Go.st (fun _ kt => X1.iaload hx (j := (1 : Int32)) (v := (.int y1)) (by rw [e1]; exact Ar6.1) (State.isArrayOf_alike hZ.alike Ar6.2.1) Ar6.2.2 hin6 hat6 (g := (mkF m 55 #[.val (.ref a), .val (.ref av), .val (.ref az), .val (.ref ac), .val (.int (1 : Int32)), .val (.int (0 : Int32))] [(.int (1 : Int32)), (.ref av), (.int y0)])) rfl rfl (hb hby d1_55) _ kt) ?_
  show Go p e below _ (T1.setTop (mkF m 56 #[.val (.ref a), .val (.ref av), .val (.ref az), .val (.ref ac), .val (.int (1 : Int32)), .val (.int (0 : Int32))] [(.int y1), (.int y0)]))
  refine Go.st (fun _ kt => XS.icmpYes X1.here hx rfl (pc0 := 56) (pc' := 76) rfl (hb hby d1_56) rfl (feq hd01).2 (by decide) (by decide) kt) ?_
  show Go p e below _ (T1.setTop (mkF m 76 #[.val (.ref a), .val (.ref av), .val (.ref az), .val (.ref ac), .val (.int (1 : Int32)), .val (.int (0 : Int32))] []))
  refine Go.st (fun _ kt => XS.iinc X1.here hx rfl (hb hby d1_76) rfl (l' := #[.val (.ref a), .val (.ref av), .val (.ref az), .val (.ref ac), .val (.int (1 : Int32)), .val (.int (1 : Int32))]) rfl kt) ?_
  show Go p e below _ (T1.setTop (mkF m 79 #[.val (.ref a), .val (.ref av), .val (.ref az), .val (.ref ac), .val (.int (1 : Int32)), .val (.int (1 : Int32))] []))
  refine Go.st (fun _ kt => XS.goto X1.here hx rfl (pc0 := 79) (pc' := 41) rfl (hb hby d1_79) (by decide) (by decide) kt) ?_
  show Go p e below _ (T1.setTop (mkF m 41 #[.val (.ref a), .val (.ref av), .val (.ref az), .val (.ref ac), .val (.int (1 : Int32)), .val (.int (1 : Int32))] []))
  refine Go.st (fun _ kt => XS.iload X1.here hx rfl (hb hby d1_41) rfl kt) ?_
  show Go p e below _ (T1.setTop (mkF m 43 #[.val (.ref a), .val (.ref av), .val (.ref az), .val (.ref ac), .val (.int (1 : Int32)), .val (.int (1 : Int32))] [(.int (1 : Int32))]))
  refine Go.st (fun _ kt => XS.iload X1.here hx rfl (hb hby d1_43) rfl kt) ?_
  show Go p e below _ (T1.setTop (mkF m 45 #[.val (.ref a), .val (.ref av), .val (.ref az), .val (.ref ac), .val (.int (1 : Int32)), .val (.int (1 : Int32))] [(.int (1 : Int32)), (.int (1 : Int32))]))
  refine Go.st (fun _ kt => XS.icmpYes X1.here hx rfl (pc0 := 45) (pc' := 82) rfl (hb hby d1_45) rfl (flt (by decide : ¬ ((1 : Int32) < (1 : Int32)))).2.1 (by decide) (by decide) kt) ?_
  show Go p e below _ (T1.setTop (mkF m 82 #[.val (.ref a), .val (.ref av), .val (.ref az), .val (.ref ac), .val (.int (1 : Int32)), .val (.int (1 : Int32))] []))
  refine Go.st (fun _ kt => XS.iinc X1.here hx rfl (hb hby d1_82) rfl (l' := #[.val (.ref a), .val (.ref av), .val (.ref az), .val (.ref ac), .val (.int (2 : Int32)), .val (.int (1 : Int32))]) rfl kt) ?_
  show Go p e below _ (T1.setTop (mkF m 85 #[.val (.ref a), .val (.ref av), .val (.ref az), .val (.ref ac), .val (.int (2 : Int32)), .val (.int (1 : Int32))] []))
  refine Go.st (fun _ kt => XS.goto X1.here hx rfl (pc0 := 85) (pc' := 31) rfl (hb hby d1_85) (by decide) (by decide) kt) ?_
  show Go p e below _ (T1.setTop (mkF m 31 #[.val (.ref a), .val (.ref av), .val (.ref az), .val (.ref ac), .val (.int (2 : Int32)), .val (.int (1 : Int32))] []))
  refine Go.st (fun _ kt => XS.iload X1.here hx rfl (hb hby d1_31) rfl kt) ?_
  show Go p e below _ (T1.setTop (mkF m 33 #[.val (.ref a), .val (.ref av), .val (.ref az), .val (.ref ac), .val (.int (2 : Int32)), .val (.int (1 : Int32))] [(.int (2 : Int32))]))
  refine Go.st (fun _ kt => XS.aloadN X1.here hx rfl (hb hby d1_33) rfl rfl kt) ?_
  show Go p e below _ (T1.setTop (mkF m 34 #[.val (.ref a), .val (.ref av), .val (.ref az), .val (.ref ac), .val (.int (2 : Int32)), .val (.int (1 : Int32))] [(.ref av), (.int (2 : Int32))]))
  obtain ⟨cl7, Ar7, -, S7, N7', -, -⟩ := id V_v
  refine Go.st (fun _ kt => X1.arraylength hx (by rw [e1]; exact Ar7.1) (State.isArrayOf_alike hZ.alike Ar7.2.1) (g := (mkF m 34 #[.val (.ref a), .val (.ref av), .val (.ref az), .val (.ref ac), .val (.int (2 : Int32)), .val (.int (1 : Int32))] [(.ref av), (.int (2 : Int32))])) rfl rfl (hb hby d1_34) _ kt) ?_
  rw [len_of S7 N7']
  show Go p e below _ (T1.setTop (mkF m 35 #[.val (.ref a), .val (.ref av), .val (.ref az), .val (.ref ac), .val (.int (2 : Int32)), .val (.int (1 : Int32))] [(.int (3 : Int32)), (.int (2 : Int32))]))
  refine Go.st (fun _ kt => XS.icmpNo X1.here hx rfl (hb hby d1_35) rfl (tlt (by decide : (2 : Int32) < (3 : Int32))).2.1 kt) ?_
  show Go p e below _ (T1.setTop (mkF m 38 #[.val (.ref a), .val (.ref av), .val (.ref az), .val (.ref ac), .val (.int (2 : Int32)), .val (.int (1 : Int32))] []))
  refine Go.st (fun _ kt => XS.iconst X1.here hx rfl (hb hby d1_38) kt) ?_
  show Go p e below _ (T1.setTop (mkF m 39 #[.val (.ref a), .val (.ref av), .val (.ref az), .val (.ref ac), .val (.int (2 : Int32)), .val (.int (1 : Int32))] [(.int (0 : Int32))]))
  refine Go.st (fun _ kt => XS.istore X1.here hx rfl (hb hby d1_39) rfl (l' := #[.val (.ref a), .val (.ref av), .val (.ref az), .val (.ref ac), .val (.int (2 : Int32)), .val (.int (0 : Int32))]) rfl kt) ?_
  show Go p e below _ (T1.setTop (mkF m 41 #[.val (.ref a), .val (.ref av), .val (.ref az), .val (.ref ac), .val (.int (2 : Int32)), .val (.int (0 : Int32))] []))
  refine Go.st (fun _ kt => XS.iload X1.here hx rfl (hb hby d1_41) rfl kt) ?_
  show Go p e below _ (T1.setTop (mkF m 43 #[.val (.ref a), .val (.ref av), .val (.ref az), .val (.ref ac), .val (.int (2 : Int32)), .val (.int (0 : Int32))] [(.int (0 : Int32))]))
  refine Go.st (fun _ kt => XS.iload X1.here hx rfl (hb hby d1_43) rfl kt) ?_
  show Go p e below _ (T1.setTop (mkF m 45 #[.val (.ref a), .val (.ref av), .val (.ref az), .val (.ref ac), .val (.int (2 : Int32)), .val (.int (0 : Int32))] [(.int (2 : Int32)), (.int (0 : Int32))]))
  refine Go.st (fun _ kt => XS.icmpNo X1.here hx rfl (hb hby d1_45) rfl (tlt (by decide : (0 : Int32) < (2 : Int32))).2.1 kt) ?_
  show Go p e below _ (T1.setTop (mkF m 48 #[.val (.ref a), .val (.ref av), .val (.ref az), .val (.ref ac), .val (.int (2 : Int32)), .val (.int (0 : Int32))] []))
  refine Go.st (fun _ kt => XS.aloadN X1.here hx rfl (hb hby d1_48) rfl rfl kt) ?_
  show Go p e below _ (T1.setTop (mkF m 49 #[.val (.ref a), .val (.ref av), .val (.ref az), .val (.ref ac), .val (.int (2 : Int32)), .val (.int (0 : Int32))] [(.ref av)]))
  refine Go.st (fun _ kt => XS.iload X1.here hx rfl (hb hby d1_49) rfl kt) ?_
  show Go p e below _ (T1.setTop (mkF m 51 #[.val (.ref a), .val (.ref av), .val (.ref az), .val (.ref ac), .val (.int (2 : Int32)), .val (.int (0 : Int32))] [(.int (0 : Int32)), (.ref av)]))
  obtain ⟨cl8, Ar8, -, S8, N8', H8, G8⟩ := id V_v
  have hin8 := inb_of S8 (j := (0 : Int32)) ⟨by decide, by decide⟩
  have hat8 := Has.at H8 hin8 (v := (.int y0)) rfl
  refine Go.st (fun _ kt => X1.iaload hx (j := (0 : Int32)) (v := (.int y0)) (by rw [e1]; exact Ar8.1) (State.isArrayOf_alike hZ.alike Ar8.2.1) Ar8.2.2 hin8 hat8 (g := (mkF m 51 #[.val (.ref a), .val (.ref av), .val (.ref az), .val (.ref ac), .val (.int (2 : Int32)), .val (.int (0 : Int32))] [(.int (0 : Int32)), (.ref av)])) rfl rfl (hb hby d1_51) _ kt) ?_
  show Go p e below _ (T1.setTop (mkF m 52 #[.val (.ref a), .val (.ref av), .val (.ref az), .val (.ref ac), .val (.int (2 : Int32)), .val (.int (0 : Int32))] [(.int y0)]))
  refine Go.st (fun _ kt => XS.aloadN X1.here hx rfl (hb hby d1_52) rfl rfl kt) ?_
  show Go p e below _ (T1.setTop (mkF m 53 #[.val (.ref a), .val (.ref av), .val (.ref az), .val (.ref ac), .val (.int (2 : Int32)), .val (.int (0 : Int32))] [(.ref av), (.int y0)]))
  refine Go.st (fun _ kt => XS.iload X1.here hx rfl (hb hby d1_53) rfl kt) ?_
  show Go p e below _ (T1.setTop (mkF m 55 #[.val (.ref a), .val (.ref av), .val (.ref az), .val (.ref ac), .val (.int (2 : Int32)), .val (.int (0 : Int32))] [(.int (2 : Int32)), (.ref av), (.int y0)]))
  obtain ⟨cl9, Ar9, -, S9, N9', H9, G9⟩ := id V_v
  have hin9 := inb_of S9 (j := (2 : Int32)) ⟨by decide, by decide⟩
  have hat9 := Has.at H9 hin9 (v := (.int y2)) rfl
  refine Go.st (fun _ kt => X1.iaload hx (j := (2 : Int32)) (v := (.int y2)) (by rw [e1]; exact Ar9.1) (State.isArrayOf_alike hZ.alike Ar9.2.1) Ar9.2.2 hin9 hat9 (g := (mkF m 55 #[.val (.ref a), .val (.ref av), .val (.ref az), .val (.ref ac), .val (.int (2 : Int32)), .val (.int (0 : Int32))] [(.int (2 : Int32)), (.ref av), (.int y0)])) rfl rfl (hb hby d1_55) _ kt) ?_
  show Go p e below _ (T1.setTop (mkF m 56 #[.val (.ref a), .val (.ref av), .val (.ref az), .val (.ref ac), .val (.int (2 : Int32)), .val (.int (0 : Int32))] [(.int y2), (.int y0)]))
  refine Go.st (fun _ kt => XS.icmpYes X1.here hx rfl (pc0 := 56) (pc' := 76) rfl (hb hby d1_56) rfl (feq hd02).2 (by decide) (by decide) kt) ?_
  show Go p e below _ (T1.setTop (mkF m 76 #[.val (.ref a), .val (.ref av), .val (.ref az), .val (.ref ac), .val (.int (2 : Int32)), .val (.int (0 : Int32))] []))
  refine Go.st (fun _ kt => XS.iinc X1.here hx rfl (hb hby d1_76) rfl (l' := #[.val (.ref a), .val (.ref av), .val (.ref az), .val (.ref ac), .val (.int (2 : Int32)), .val (.int (1 : Int32))]) rfl kt) ?_
  show Go p e below _ (T1.setTop (mkF m 79 #[.val (.ref a), .val (.ref av), .val (.ref az), .val (.ref ac), .val (.int (2 : Int32)), .val (.int (1 : Int32))] []))
  refine Go.st (fun _ kt => XS.goto X1.here hx rfl (pc0 := 79) (pc' := 41) rfl (hb hby d1_79) (by decide) (by decide) kt) ?_
  show Go p e below _ (T1.setTop (mkF m 41 #[.val (.ref a), .val (.ref av), .val (.ref az), .val (.ref ac), .val (.int (2 : Int32)), .val (.int (1 : Int32))] []))
  refine Go.st (fun _ kt => XS.iload X1.here hx rfl (hb hby d1_41) rfl kt) ?_
  show Go p e below _ (T1.setTop (mkF m 43 #[.val (.ref a), .val (.ref av), .val (.ref az), .val (.ref ac), .val (.int (2 : Int32)), .val (.int (1 : Int32))] [(.int (1 : Int32))]))
  refine Go.st (fun _ kt => XS.iload X1.here hx rfl (hb hby d1_43) rfl kt) ?_
  show Go p e below _ (T1.setTop (mkF m 45 #[.val (.ref a), .val (.ref av), .val (.ref az), .val (.ref ac), .val (.int (2 : Int32)), .val (.int (1 : Int32))] [(.int (2 : Int32)), (.int (1 : Int32))]))
  refine Go.st (fun _ kt => XS.icmpNo X1.here hx rfl (hb hby d1_45) rfl (tlt (by decide : (1 : Int32) < (2 : Int32))).2.1 kt) ?_
  show Go p e below _ (T1.setTop (mkF m 48 #[.val (.ref a), .val (.ref av), .val (.ref az), .val (.ref ac), .val (.int (2 : Int32)), .val (.int (1 : Int32))] []))
  refine Go.st (fun _ kt => XS.aloadN X1.here hx rfl (hb hby d1_48) rfl rfl kt) ?_
  show Go p e below _ (T1.setTop (mkF m 49 #[.val (.ref a), .val (.ref av), .val (.ref az), .val (.ref ac), .val (.int (2 : Int32)), .val (.int (1 : Int32))] [(.ref av)]))
  refine Go.st (fun _ kt => XS.iload X1.here hx rfl (hb hby d1_49) rfl kt) ?_
  show Go p e below _ (T1.setTop (mkF m 51 #[.val (.ref a), .val (.ref av), .val (.ref az), .val (.ref ac), .val (.int (2 : Int32)), .val (.int (1 : Int32))] [(.int (1 : Int32)), (.ref av)]))
  obtain ⟨cl10, Ar10, -, S10, N10', H10, G10⟩ := id V_v
  have hin10 := inb_of S10 (j := (1 : Int32)) ⟨by decide, by decide⟩
  have hat10 := Has.at H10 hin10 (v := (.int y1)) rfl
  refine Go.st (fun _ kt => X1.iaload hx (j := (1 : Int32)) (v := (.int y1)) (by rw [e1]; exact Ar10.1) (State.isArrayOf_alike hZ.alike Ar10.2.1) Ar10.2.2 hin10 hat10 (g := (mkF m 51 #[.val (.ref a), .val (.ref av), .val (.ref az), .val (.ref ac), .val (.int (2 : Int32)), .val (.int (1 : Int32))] [(.int (1 : Int32)), (.ref av)])) rfl rfl (hb hby d1_51) _ kt) ?_
  show Go p e below _ (T1.setTop (mkF m 52 #[.val (.ref a), .val (.ref av), .val (.ref az), .val (.ref ac), .val (.int (2 : Int32)), .val (.int (1 : Int32))] [(.int y1)]))
  refine Go.st (fun _ kt => XS.aloadN X1.here hx rfl (hb hby d1_52) rfl rfl kt) ?_
  show Go p e below _ (T1.setTop (mkF m 53 #[.val (.ref a), .val (.ref av), .val (.ref az), .val (.ref ac), .val (.int (2 : Int32)), .val (.int (1 : Int32))] [(.ref av), (.int y1)]))
  refine Go.st (fun _ kt => XS.iload X1.here hx rfl (hb hby d1_53) rfl kt) ?_
  show Go p e below _ (T1.setTop (mkF m 55 #[.val (.ref a), .val (.ref av), .val (.ref az), .val (.ref ac), .val (.int (2 : Int32)), .val (.int (1 : Int32))] [(.int (2 : Int32)), (.ref av), (.int y1)]))
  obtain ⟨cl11, Ar11, -, S11, N11', H11, G11⟩ := id V_v
  have hin11 := inb_of S11 (j := (2 : Int32)) ⟨by decide, by decide⟩
  have hat11 := Has.at H11 hin11 (v := (.int y2)) rfl
  refine Go.st (fun _ kt => X1.iaload hx (j := (2 : Int32)) (v := (.int y2)) (by rw [e1]; exact Ar11.1) (State.isArrayOf_alike hZ.alike Ar11.2.1) Ar11.2.2 hin11 hat11 (g := (mkF m 55 #[.val (.ref a), .val (.ref av), .val (.ref az), .val (.ref ac), .val (.int (2 : Int32)), .val (.int (1 : Int32))] [(.int (2 : Int32)), (.ref av), (.int y1)])) rfl rfl (hb hby d1_55) _ kt) ?_
  show Go p e below _ (T1.setTop (mkF m 56 #[.val (.ref a), .val (.ref av), .val (.ref az), .val (.ref ac), .val (.int (2 : Int32)), .val (.int (1 : Int32))] [(.int y2), (.int y1)]))
  refine Go.st (fun _ kt => XS.icmpYes X1.here hx rfl (pc0 := 56) (pc' := 76) rfl (hb hby d1_56) rfl (feq hd12).2 (by decide) (by decide) kt) ?_
  show Go p e below _ (T1.setTop (mkF m 76 #[.val (.ref a), .val (.ref av), .val (.ref az), .val (.ref ac), .val (.int (2 : Int32)), .val (.int (1 : Int32))] []))
  refine Go.st (fun _ kt => XS.iinc X1.here hx rfl (hb hby d1_76) rfl (l' := #[.val (.ref a), .val (.ref av), .val (.ref az), .val (.ref ac), .val (.int (2 : Int32)), .val (.int (2 : Int32))]) rfl kt) ?_
  show Go p e below _ (T1.setTop (mkF m 79 #[.val (.ref a), .val (.ref av), .val (.ref az), .val (.ref ac), .val (.int (2 : Int32)), .val (.int (2 : Int32))] []))
  refine Go.st (fun _ kt => XS.goto X1.here hx rfl (pc0 := 79) (pc' := 41) rfl (hb hby d1_79) (by decide) (by decide) kt) ?_
  show Go p e below _ (T1.setTop (mkF m 41 #[.val (.ref a), .val (.ref av), .val (.ref az), .val (.ref ac), .val (.int (2 : Int32)), .val (.int (2 : Int32))] []))
  refine Go.st (fun _ kt => XS.iload X1.here hx rfl (hb hby d1_41) rfl kt) ?_
  show Go p e below _ (T1.setTop (mkF m 43 #[.val (.ref a), .val (.ref av), .val (.ref az), .val (.ref ac), .val (.int (2 : Int32)), .val (.int (2 : Int32))] [(.int (2 : Int32))]))
  refine Go.st (fun _ kt => XS.iload X1.here hx rfl (hb hby d1_43) rfl kt) ?_
  show Go p e below _ (T1.setTop (mkF m 45 #[.val (.ref a), .val (.ref av), .val (.ref az), .val (.ref ac), .val (.int (2 : Int32)), .val (.int (2 : Int32))] [(.int (2 : Int32)), (.int (2 : Int32))]))
  refine Go.st (fun _ kt => XS.icmpYes X1.here hx rfl (pc0 := 45) (pc' := 82) rfl (hb hby d1_45) rfl (flt (by decide : ¬ ((2 : Int32) < (2 : Int32)))).2.1 (by decide) (by decide) kt) ?_
  show Go p e below _ (T1.setTop (mkF m 82 #[.val (.ref a), .val (.ref av), .val (.ref az), .val (.ref ac), .val (.int (2 : Int32)), .val (.int (2 : Int32))] []))
  refine Go.st (fun _ kt => XS.iinc X1.here hx rfl (hb hby d1_82) rfl (l' := #[.val (.ref a), .val (.ref av), .val (.ref az), .val (.ref ac), .val (.int (3 : Int32)), .val (.int (2 : Int32))]) rfl kt) ?_
  show Go p e below _ (T1.setTop (mkF m 85 #[.val (.ref a), .val (.ref av), .val (.ref az), .val (.ref ac), .val (.int (3 : Int32)), .val (.int (2 : Int32))] []))
  refine Go.st (fun _ kt => XS.goto X1.here hx rfl (pc0 := 85) (pc' := 31) rfl (hb hby d1_85) (by decide) (by decide) kt) ?_
  show Go p e below _ (T1.setTop (mkF m 31 #[.val (.ref a), .val (.ref av), .val (.ref az), .val (.ref ac), .val (.int (3 : Int32)), .val (.int (2 : Int32))] []))
  refine Go.st (fun _ kt => XS.iload X1.here hx rfl (hb hby d1_31) rfl kt) ?_
  show Go p e below _ (T1.setTop (mkF m 33 #[.val (.ref a), .val (.ref av), .val (.ref az), .val (.ref ac), .val (.int (3 : Int32)), .val (.int (2 : Int32))] [(.int (3 : Int32))]))
  refine Go.st (fun _ kt => XS.aloadN X1.here hx rfl (hb hby d1_33) rfl rfl kt) ?_
  show Go p e below _ (T1.setTop (mkF m 34 #[.val (.ref a), .val (.ref av), .val (.ref az), .val (.ref ac), .val (.int (3 : Int32)), .val (.int (2 : Int32))] [(.ref av), (.int (3 : Int32))]))
  obtain ⟨cl12, Ar12, -, S12, N12', -, -⟩ := id V_v
  refine Go.st (fun _ kt => X1.arraylength hx (by rw [e1]; exact Ar12.1) (State.isArrayOf_alike hZ.alike Ar12.2.1) (g := (mkF m 34 #[.val (.ref a), .val (.ref av), .val (.ref az), .val (.ref ac), .val (.int (3 : Int32)), .val (.int (2 : Int32))] [(.ref av), (.int (3 : Int32))])) rfl rfl (hb hby d1_34) _ kt) ?_
  rw [len_of S12 N12']
  show Go p e below _ (T1.setTop (mkF m 35 #[.val (.ref a), .val (.ref av), .val (.ref az), .val (.ref ac), .val (.int (3 : Int32)), .val (.int (2 : Int32))] [(.int (3 : Int32)), (.int (3 : Int32))]))
  refine Go.st (fun _ kt => XS.icmpYes X1.here hx rfl (pc0 := 35) (pc' := 88) rfl (hb hby d1_35) rfl (flt (by decide : ¬ ((3 : Int32) < (3 : Int32)))).2.1 (by decide) (by decide) kt) ?_
  show Go p e below _ (T1.setTop (mkF m 88 #[.val (.ref a), .val (.ref av), .val (.ref az), .val (.ref ac), .val (.int (3 : Int32)), .val (.int (2 : Int32))] []))
  refine Go.st (fun _ kt => XS.aloadN X1.here hx rfl (hb hby d1_88) rfl rfl kt) ?_
  show Go p e below _ (T1.setTop (mkF m 89 #[.val (.ref a), .val (.ref av), .val (.ref az), .val (.ref ac), .val (.int (3 : Int32)), .val (.int (2 : Int32))] [(.ref az)]))
  obtain ⟨_, _, ⟨T13, L13, k13, n13⟩, -, X13, ⟨Lc13, hQ13, l13, y13, z13⟩, st13⟩ := Jvm.LawKit.callS X1 hx (y := (⟨"com/example/tributary/tributary/model/CostTable", "entries", "([I)J"⟩ : MethodName)) hown (mvT hZ (hw _ (List.mem_of_getElem? (i := 13) rfl))) (mvT hZ (hw _ (List.mem_of_getElem? (i := 14) rfl))) (mvT hZ (hw _ (List.mem_of_getElem? (i := 6) rfl))) (mvT hZ (hw _ (List.mem_of_getElem? (i := 15) rfl))) (by decide) (backOf (W := 0) (rm3 l Z a0 hw [] az ks x0 x1 x2 h0 n0 Z0 V_s hF) hZ (hw _ (List.mem_of_getElem? (i := 15) rfl)) (hw _ (List.mem_of_getElem? (i := 6) rfl)) (by decide) (by decide)) (g := (mkF m 89 #[.val (.ref a), .val (.ref av), .val (.ref az), .val (.ref ac), .val (.int (3 : Int32)), .val (.int (2 : Int32))] [(.ref az)])) rfl (by rw [hml]; rfl) (argsL := [(.ref az)]) (rest := []) (lenOf own_pd1 rfl) rfl (by show 2 * 0 + _ ≤ _; exact Nat.le_of_eq rfl) (hb hby d1_89) (fun _ _ => ⟨rfl, e1, (by decide : 0 + 0 ≤ _), (by decide : 0 + 0 ≤ _)⟩)
  dsimp only [Pt.U, Pt.locs, Pt.cells, Pt.slots] at X13 l13 y13 z13 st13 hQ13
  subst l13 y13 z13
  obtain ⟨rfl, N13q, e13⟩ := hQ13
  have N13 := Fr.app N0 N13q
  refine Go.st st13 ?_
  show Go p e below _ (T13.setTop (mkF m 92 #[.val (.ref a), .val (.ref av), .val (.ref az), .val (.ref ac), .val (.int (3 : Int32)), .val (.int (2 : Int32))] [(.long ((((1 : Int64) * (x0.toInt64)) * (x1.toInt64)) * (x2.toInt64)))]))
  refine Go.st (fun _ kt => XS.aloadN X13.here hx rfl (hb hby d1_92) rfl rfl kt) ?_
  show Go p e below _ (T13.setTop (mkF m 93 #[.val (.ref a), .val (.ref av), .val (.ref az), .val (.ref ac), .val (.int (3 : Int32)), .val (.int (2 : Int32))] [(.ref ac), (.long ((((1 : Int64) * (x0.toInt64)) * (x1.toInt64)) * (x2.toInt64)))]))
  obtain ⟨cl14, Ar14, -, S14, N14', -, -⟩ := id V_c
  refine Go.st (fun _ kt => X13.arraylength hx (by rw [e13]; exact Ar14.1) (State.isArrayOf_alike hZ.alike Ar14.2.1) (g := (mkF m 93 #[.val (.ref a), .val (.ref av), .val (.ref az), .val (.ref ac), .val (.int (3 : Int32)), .val (.int (2 : Int32))] [(.ref ac), (.long ((((1 : Int64) * (x0.toInt64)) * (x1.toInt64)) * (x2.toInt64)))])) rfl rfl (hb hby d1_93) _ kt) ?_
  rw [len_of S14 N14']
  show Go p e below _ (T13.setTop (mkF m 94 #[.val (.ref a), .val (.ref av), .val (.ref az), .val (.ref ac), .val (.int (3 : Int32)), .val (.int (2 : Int32))] [(.int (16 : Int32)), (.long ((((1 : Int64) * (x0.toInt64)) * (x1.toInt64)) * (x2.toInt64)))]))
  refine Go.st (fun _ kt => XS.i2l X13.here hx rfl (hb hby d1_94) rfl kt) ?_
  show Go p e below _ (T13.setTop (mkF m 95 #[.val (.ref a), .val (.ref av), .val (.ref az), .val (.ref ac), .val (.int (3 : Int32)), .val (.int (2 : Int32))] [(.long (16 : Int64)), (.long ((((1 : Int64) * (x0.toInt64)) * (x1.toInt64)) * (x2.toInt64)))]))
  refine Go.st (fun _ kt => XS.lcmp X13.here hx rfl (hb hby d1_95) rfl kt) ?_
  show Go p e below _ (T13.setTop (mkF m 96 #[.val (.ref a), .val (.ref av), .val (.ref az), .val (.ref ac), .val (.int (3 : Int32)), .val (.int (2 : Int32))] [(.int (lcmpW ((((1 : Int64) * (x0.toInt64)) * (x1.toInt64)) * (x2.toInt64)) (16 : Int64)))]))
  refine Go.st (fun _ kt => XS.ifYes X13.here hx rfl (pc0 := 96) (pc' := 118) rfl (hb hby d1_96) rfl ((if0 _ _).trans (teq ((lw_eq _ _).mpr hF.2.2.2)).1) (by decide) (by decide) kt) ?_
  show Go p e below _ (T13.setTop (mkF m 118 #[.val (.ref a), .val (.ref av), .val (.ref az), .val (.ref ac), .val (.int (3 : Int32)), .val (.int (2 : Int32))] []))
  refine Go.st (fun _ kt => XS.aloadN X13.here hx rfl (hb hby d1_118) rfl rfl kt) ?_
  show Go p e below _ (T13.setTop (mkF m 119 #[.val (.ref a), .val (.ref av), .val (.ref az), .val (.ref ac), .val (.int (3 : Int32)), .val (.int (2 : Int32))] [(.ref a)]))
  refine Go.st (fun _ kt => XS.aloadN X13.here hx rfl (hb hby d1_119) rfl rfl kt) ?_
  show Go p e below _ (T13.setTop (mkF m 120 #[.val (.ref a), .val (.ref av), .val (.ref az), .val (.ref ac), .val (.int (3 : Int32)), .val (.int (2 : Int32))] [(.ref av), (.ref a)]))
  obtain ⟨T15, h15, X15, e15, E15, V15, Y15, st15⟩ := cloneH X13 hx hZ hown (hw _ (List.mem_of_getElem? (i := 17) rfl)) (hw _ (List.mem_of_getElem? (i := 18) rfl)) (hw _ (List.mem_of_getElem? (i := 22) rfl)) (hw _ (List.mem_of_getElem? (i := 20) rfl)) (hw _ (List.mem_of_getElem? (i := 21) rfl)) (hw _ (List.mem_of_getElem? (i := 23) rfl)) e13 V_v.arh E_v (g := (mkF m 120 #[.val (.ref a), .val (.ref av), .val (.ref az), .val (.ref ac), .val (.int (3 : Int32)), .val (.int (2 : Int32))] [(.ref av), (.ref a)])) rfl (by rw [hml]; rfl) rfl (hb hby d1_120) (by decide) (W := 1) (cap := 3) (by show 2 * 0 + _ ≤ _; exact Nat.le_of_eq rfl) (by decide) (by decide) (by decide) (by decide)
  obtain ⟨b15, g15⟩ : ∃ z, z = h0.size := ⟨_, rfl⟩
  rw [← g15] at V15 Y15 st15
  have lt_a_b15 : a < b15 := Nat.lt_of_lt_of_eq E_a.lt g15.symm
  have lt_av_b15 : av < b15 := Nat.lt_of_lt_of_eq V_v.lt g15.symm
  have lt_az_b15 : az < b15 := Nat.lt_of_lt_of_eq V_s.lt g15.symm
  have lt_ac_b15 : ac < b15 := Nat.lt_of_lt_of_eq V_c.lt g15.symm
  have gn_b15 : n0 ≤ b15 := Nat.le_trans Z0 (Nat.le_of_eq g15.symm)
  have Zs15 : n0 ≤ h15.size := Nat.le_trans Z0 E15.1
  have K15 : Keep h0 h15 [a] := (Keep.refl h0 [a]).ext E15
  have kn_b15 : h0.size ≤ b15 := Nat.le_trans (Keep.refl h0 [a]).1 (Nat.le_of_eq g15.symm)
  refine Go.st st15 ?_
  have Vc15 : Arv Z h15 b15 kv .int (3 : Int32) [(.int y0), (.int y1), (.int y2)] (.int (0 : Int32)) := V15
  show Go p e below _ (T15.setTop (mkF m 123 #[.val (.ref a), .val (.ref av), .val (.ref az), .val (.ref ac), .val (.int (3 : Int32)), .val (.int (2 : Int32))] [(.ref b15), (.ref a)]))
  obtain ⟨T16, X16, e16, st16⟩ := castY X15 hx hZ hown (hw _ (List.mem_of_getElem? (i := 24) rfl)) e15 (Ins.self Y15) (g := (mkF m 123 #[.val (.ref a), .val (.ref av), .val (.ref az), .val (.ref ac), .val (.int (3 : Int32)), .val (.int (2 : Int32))] [(.ref b15), (.ref a)])) rfl rfl (hb hby d1_123)
  refine Go.st st16 ?_
  show Go p e below _ (T16.setTop (mkF m 126 #[.val (.ref a), .val (.ref av), .val (.ref az), .val (.ref ac), .val (.int (3 : Int32)), .val (.int (2 : Int32))] [(.ref b15), (.ref a)]))
  have f17 := (E_a.ext E15)
  have f18 := (F_variables.ext E15)
  obtain ⟨T19, h19, X19, e19, W19, st19⟩ := putF X16 hx hZ hown (host := "") (Or.inl (hw _ (List.mem_of_getElem? (i := 26) rfl))) Via.refl e16 f18 f17 (Or.inr ⟨(hw _ (List.mem_of_getElem? (i := 27) rfl)), rfl, hnm⟩) (hw _ (List.mem_of_getElem? (i := 5) rfl)) (ty := (.array .int)) (by decide) rfl rfl (g := (mkF m 126 #[.val (.ref a), .val (.ref av), .val (.ref az), .val (.ref ac), .val (.int (3 : Int32)), .val (.int (2 : Int32))] [(.ref b15), (.ref a)])) rfl rfl (hb hby d1_126)
  refine Go.st st19 ?_
  have Fw19 := f18.same W19
  have Zs19 : n0 ≤ h19.size := Nat.le_trans Zs15 (Nat.le_of_eq W19.size.symm)
  have N19 := Fr.snoc X19 N13 gn_a
  have K19 : Keep h0 h19 [a] := K15.wr W19 (Or.inl (List.mem_of_getElem? (i := 0) rfl))
  show Go p e below _ (T19.setTop (mkF m 129 #[.val (.ref a), .val (.ref av), .val (.ref az), .val (.ref ac), .val (.int (3 : Int32)), .val (.int (2 : Int32))] []))
  refine Go.st (fun _ kt => XS.aloadN X19.here hx rfl (hb hby d1_129) rfl rfl kt) ?_
  show Go p e below _ (T19.setTop (mkF m 130 #[.val (.ref a), .val (.ref av), .val (.ref az), .val (.ref ac), .val (.int (3 : Int32)), .val (.int (2 : Int32))] [(.ref a)]))
  refine Go.st (fun _ kt => XS.aloadN X19.here hx rfl (hb hby d1_130) rfl rfl kt) ?_
  show Go p e below _ (T19.setTop (mkF m 131 #[.val (.ref a), .val (.ref av), .val (.ref az), .val (.ref ac), .val (.int (3 : Int32)), .val (.int (2 : Int32))] [(.ref az), (.ref a)]))
  have f20 := ((V_s.ext E15).other W19 hsa)
  have f21 := ((E_s.ext E15).wr W19)
  obtain ⟨T22, h22, X22, e22, E22, V22, Y22, st22⟩ := cloneH X19 hx hZ hown (hw _ (List.mem_of_getElem? (i := 17) rfl)) (hw _ (List.mem_of_getElem? (i := 18) rfl)) (hw _ (List.mem_of_getElem? (i := 22) rfl)) (hw _ (List.mem_of_getElem? (i := 20) rfl)) (hw _ (List.mem_of_getElem? (i := 21) rfl)) (hw _ (List.mem_of_getElem? (i := 23) rfl)) e19 f20.arh f21 (g := (mkF m 131 #[.val (.ref a), .val (.ref av), .val (.ref az), .val (.ref ac), .val (.int (3 : Int32)), .val (.int (2 : Int32))] [(.ref az), (.ref a)])) rfl (by rw [hml]; rfl) rfl (hb hby d1_131) (by decide) (W := 1) (cap := 3) (by show 2 * 0 + _ ≤ _; exact Nat.le_of_eq rfl) (by decide) (by decide) (by decide) (by decide)
  obtain ⟨b22, g22⟩ : ∃ z, z = h19.size := ⟨_, rfl⟩
  rw [← g22] at V22 Y22 st22
  have f23 := (f17.wr W19)
  have lt_a_b22 : a < b22 := Nat.lt_of_lt_of_eq f23.lt g22.symm
  have f24 := ((V_v.ext E15).other W19 hva)
  have lt_av_b22 : av < b22 := Nat.lt_of_lt_of_eq f24.lt g22.symm
  have lt_az_b22 : az < b22 := Nat.lt_of_lt_of_eq f20.lt g22.symm
  have f25 := ((V_c.ext E15).other W19 hca)
  have lt_ac_b22 : ac < b22 := Nat.lt_of_lt_of_eq f25.lt g22.symm
  have f26 := (Vc15.other W19 (Nat.ne_of_gt lt_a_b15))
  have lt_b15_b22 : b15 < b22 := Nat.lt_of_lt_of_eq f26.lt g22.symm
  have gn_b22 : n0 ≤ b22 := Nat.le_trans Zs19 (Nat.le_of_eq g22.symm)
  have Zs22 : n0 ≤ h22.size := Nat.le_trans Zs19 E22.1
  have K22 : Keep h0 h22 [a] := K19.ext E22
  have kn_b22 : h0.size ≤ b22 := Nat.le_trans K19.1 (Nat.le_of_eq g22.symm)
  refine Go.st st22 ?_
  have Vc22 : Arv Z h22 b22 ks .int (3 : Int32) [(.int x0), (.int x1), (.int x2)] (.int (0 : Int32)) := V22
  show Go p e below _ (T22.setTop (mkF m 134 #[.val (.ref a), .val (.ref av), .val (.ref az), .val (.ref ac), .val (.int (3 : Int32)), .val (.int (2 : Int32))] [(.ref b22), (.ref a)]))
  obtain ⟨T27, X27, e27, st27⟩ := castY X22 hx hZ hown (hw _ (List.mem_of_getElem? (i := 24) rfl)) e22 (Ins.self Y22) (g := (mkF m 134 #[.val (.ref a), .val (.ref av), .val (.ref az), .val (.ref ac), .val (.int (3 : Int32)), .val (.int (2 : Int32))] [(.ref b22), (.ref a)])) rfl rfl (hb hby d1_134)
  refine Go.st st27 ?_
  show Go p e below _ (T27.setTop (mkF m 137 #[.val (.ref a), .val (.ref av), .val (.ref az), .val (.ref ac), .val (.int (3 : Int32)), .val (.int (2 : Int32))] [(.ref b22), (.ref a)]))
  have f28 := (f23.ext E22)
  have f29 := (((F_sizes.ext E15).other W19 (Or.inr (slot_ne (Or.inr (hw _ (List.mem_of_getElem? (i := 29) rfl))) (Or.inr (hw _ (List.mem_of_getElem? (i := 27) rfl))) (by decide) (t := (.array .int)) (t' := (.array .int)) (by decide) (by decide)))).ext E22)
  obtain ⟨T30, h30, X30, e30, W30, st30⟩ := putF X27 hx hZ hown (host := "") (Or.inl (hw _ (List.mem_of_getElem? (i := 28) rfl))) Via.refl e27 f29 f28 (Or.inr ⟨(hw _ (List.mem_of_getElem? (i := 29) rfl)), rfl, hnm⟩) (hw _ (List.mem_of_getElem? (i := 5) rfl)) (ty := (.array .int)) (by decide) rfl rfl (g := (mkF m 137 #[.val (.ref a), .val (.ref av), .val (.ref az), .val (.ref ac), .val (.int (3 : Int32)), .val (.int (2 : Int32))] [(.ref b22), (.ref a)])) rfl rfl (hb hby d1_137)
  refine Go.st st30 ?_
  have Fw30 := f29.same W30
  have Zs30 : n0 ≤ h30.size := Nat.le_trans Zs22 (Nat.le_of_eq W30.size.symm)
  have N30 := Fr.snoc X30 N19 gn_a
  have K30 : Keep h0 h30 [a] := K22.wr W30 (Or.inl (List.mem_of_getElem? (i := 0) rfl))
  show Go p e below _ (T30.setTop (mkF m 140 #[.val (.ref a), .val (.ref av), .val (.ref az), .val (.ref ac), .val (.int (3 : Int32)), .val (.int (2 : Int32))] []))
  refine Go.st (fun _ kt => XS.aloadN X30.here hx rfl (hb hby d1_140) rfl rfl kt) ?_
  show Go p e below _ (T30.setTop (mkF m 141 #[.val (.ref a), .val (.ref av), .val (.ref az), .val (.ref ac), .val (.int (3 : Int32)), .val (.int (2 : Int32))] [(.ref a)]))
  refine Go.st (fun _ kt => XS.aloadN X30.here hx rfl (hb hby d1_141) rfl rfl kt) ?_
  show Go p e below _ (T30.setTop (mkF m 142 #[.val (.ref a), .val (.ref av), .val (.ref az), .val (.ref ac), .val (.int (3 : Int32)), .val (.int (2 : Int32))] [(.ref az), (.ref a)]))
  have f31 := ((f20.ext E22).other W30 hsa)
  obtain ⟨_, _, ⟨T32, L32, k32, n32⟩, -, X32, ⟨Lc32, hQ32, l32, y32, z32⟩, st32⟩ := Jvm.LawKit.callS X30 hx (y := (⟨"com/example/tributary/tributary/model/CostTable", "strides", "([I)[I"⟩ : MethodName)) hown (mvT hZ (hw _ (List.mem_of_getElem? (i := 30) rfl))) (mvT hZ (hw _ (List.mem_of_getElem? (i := 31) rfl))) (mvT hZ (hw _ (List.mem_of_getElem? (i := 6) rfl))) (mvT hZ (hw _ (List.mem_of_getElem? (i := 32) rfl))) (by decide) (backOf (W := 1) (rm4 l Z a0 hw [] az ks x0 x1 x2 h30 n0 Zs30 f31) hZ (hw _ (List.mem_of_getElem? (i := 32) rfl)) (hw _ (List.mem_of_getElem? (i := 6) rfl)) (by decide) (by decide)) (g := (mkF m 142 #[.val (.ref a), .val (.ref av), .val (.ref az), .val (.ref ac), .val (.int (3 : Int32)), .val (.int (2 : Int32))] [(.ref az), (.ref a)])) rfl (by rw [hml]; rfl) (argsL := [(.ref az)]) (rest := [(.ref a)]) (lenOf own_pd2 rfl) rfl (by show 2 * 0 + _ ≤ _; exact Nat.le_of_eq rfl) (hb hby d1_142) (fun _ _ => ⟨rfl, e30, (by decide : 2 + 1 ≤ _), (by decide : 6 + 3 ≤ _)⟩)
  dsimp only [Pt.U, Pt.locs, Pt.cells, Pt.slots] at X32 l32 y32 z32 st32 hQ32
  subst l32 y32 z32
  obtain ⟨r32, kk32, rfl, N32q, K32q, hs32, G32_0⟩ := hQ32
  have f33 := (f28.wr W30)
  have lt_a_r32 : a < r32 := Nat.lt_of_lt_of_le f33.lt hs32
  have f34 := ((f24.ext E22).other W30 hva)
  have lt_av_r32 : av < r32 := Nat.lt_of_lt_of_le f34.lt hs32
  have lt_az_r32 : az < r32 := Nat.lt_of_lt_of_le f31.lt hs32
  have f35 := ((f25.ext E22).other W30 hca)
  have lt_ac_r32 : ac < r32 := Nat.lt_of_lt_of_le f35.lt hs32
  have f36 := ((f26.ext E22).other W30 (Nat.ne_of_gt lt_a_b15))
  have lt_b15_r32 : b15 < r32 := Nat.lt_of_lt_of_le f36.lt hs32
  have f37 := (Vc22.other W30 (Nat.ne_of_gt lt_a_b22))
  have lt_b22_r32 : b22 < r32 := Nat.lt_of_lt_of_le f37.lt hs32
  have gn_r32 : n0 ≤ r32 := Nat.le_trans Zs30 hs32
  have kn_r32 : h0.size ≤ r32 := Nat.le_trans K30.1 hs32
  have Zs32 : n0 ≤ T32.heap.size := Nat.le_trans Zs30 K32q.1
  have K32 : Keep h0 T32.heap [a] := K30.trans K32q all0
  have N32 := Fr.app N30 N32q
  refine Go.st st32 ?_
  show Go p e below _ (T32.setTop (mkF m 145 #[.val (.ref a), .val (.ref av), .val (.ref az), .val (.ref ac), .val (.int (3 : Int32)), .val (.int (2 : Int32))] [(.ref r32), (.ref a)]))
  have f38 := (f33.keep K32q)
  have f39 := (((((F_strides.ext E15).other W19 (Or.inr (slot_ne (Or.inr (hw _ (List.mem_of_getElem? (i := 34) rfl))) (Or.inr (hw _ (List.mem_of_getElem? (i := 27) rfl))) (by decide) (t := (.array .int)) (t' := (.array .int)) (by decide) (by decide)))).ext E22).other W30 (Or.inr (slot_ne (Or.inr (hw _ (List.mem_of_getElem? (i := 34) rfl))) (Or.inr (hw _ (List.mem_of_getElem? (i := 29) rfl))) (by decide) (t := (.array .int)) (t' := (.array .int)) (by decide) (by decide)))).keep K32q nin0)
  obtain ⟨T40, h40, X40, e40, W40, st40⟩ := putF X32 hx hZ hown (host := "") (Or.inl (hw _ (List.mem_of_getElem? (i := 33) rfl))) Via.refl rfl f39 f38 (Or.inr ⟨(hw _ (List.mem_of_getElem? (i := 34) rfl)), rfl, hnm⟩) (hw _ (List.mem_of_getElem? (i := 5) rfl)) (ty := (.array .int)) (by decide) rfl rfl (g := (mkF m 145 #[.val (.ref a), .val (.ref av), .val (.ref az), .val (.ref ac), .val (.int (3 : Int32)), .val (.int (2 : Int32))] [(.ref r32), (.ref a)])) rfl rfl (hb hby d1_145)
  refine Go.st st40 ?_
  have Fw40 := f39.same W40
  have Zs40 : n0 ≤ h40.size := Nat.le_trans Zs32 (Nat.le_of_eq W40.size.symm)
  have N40 := Fr.snoc X40 N32 gn_a
  have K40 : Keep h0 h40 [a] := K32.wr W40 (Or.inl (List.mem_of_getElem? (i := 0) rfl))
  show Go p e below _ (T40.setTop (mkF m 148 #[.val (.ref a), .val (.ref av), .val (.ref az), .val (.ref ac), .val (.int (3 : Int32)), .val (.int (2 : Int32))] []))
  refine Go.st (fun _ kt => XS.aloadN X40.here hx rfl (hb hby d1_148) rfl rfl kt) ?_
  show Go p e below _ (T40.setTop (mkF m 149 #[.val (.ref a), .val (.ref av), .val (.ref az), .val (.ref ac), .val (.int (3 : Int32)), .val (.int (2 : Int32))] [(.ref a)]))
  refine Go.st (fun _ kt => XS.aloadN X40.here hx rfl (hb hby d1_149) rfl rfl kt) ?_
  show Go p e below _ (T40.setTop (mkF m 150 #[.val (.ref a), .val (.ref av), .val (.ref az), .val (.ref ac), .val (.int (3 : Int32)), .val (.int (2 : Int32))] [(.ref ac), (.ref a)]))
  have f41 := (f38.wr W40)
  have f42 := ((((((F_costs.ext E15).other W19 (Or.inr (slot_ne (Or.inr (hw _ (List.mem_of_getElem? (i := 36) rfl))) (Or.inr (hw _ (List.mem_of_getElem? (i := 27) rfl))) (by decide) (t := (.array .double)) (t' := (.array .int)) (by decide) (by decide)))).ext E22).other W30 (Or.inr (slot_ne (Or.inr (hw _ (List.mem_of_getElem? (i := 36) rfl))) (Or.inr (hw _ (List.mem_of_getElem? (i := 29) rfl))) (by decide) (t := (.array .double)) (t' := (.array .int)) (by decide) (by decide)))).keep K32q nin0).other W40 (Or.inr (slot_ne (Or.inr (hw _ (List.mem_of_getElem? (i := 36) rfl))) (Or.inr (hw _ (List.mem_of_getElem? (i := 34) rfl))) (by decide) (t := (.array .double)) (t' := (.array .int)) (by decide) (by decide))))
  obtain ⟨T43, h43, X43, e43, W43, st43⟩ := putF X40 hx hZ hown (host := "") (Or.inl (hw _ (List.mem_of_getElem? (i := 35) rfl))) Via.refl e40 f42 f41 (Or.inr ⟨(hw _ (List.mem_of_getElem? (i := 36) rfl)), rfl, hnm⟩) (hw _ (List.mem_of_getElem? (i := 5) rfl)) (ty := (.array .double)) (by decide) rfl rfl (g := (mkF m 150 #[.val (.ref a), .val (.ref av), .val (.ref az), .val (.ref ac), .val (.int (3 : Int32)), .val (.int (2 : Int32))] [(.ref ac), (.ref a)])) rfl rfl (hb hby d1_150)
  refine Go.st st43 ?_
  have Fw43 := f42.same W43
  have Zs43 : n0 ≤ h43.size := Nat.le_trans Zs40 (Nat.le_of_eq W43.size.symm)
  have N43 := Fr.snoc X43 N40 gn_a
  have K43 : Keep h0 h43 [a] := K40.wr W43 (Or.inl (List.mem_of_getElem? (i := 0) rfl))
  show Go p e below _ (T43.setTop (mkF m 153 #[.val (.ref a), .val (.ref av), .val (.ref az), .val (.ref ac), .val (.int (3 : Int32)), .val (.int (2 : Int32))] []))
  have f44 := (((((Fw19.ext E22).other W30 (Or.inr (slot_ne (Or.inr (hw _ (List.mem_of_getElem? (i := 27) rfl))) (Or.inr (hw _ (List.mem_of_getElem? (i := 29) rfl))) (by decide) (t := (.array .int)) (t' := (.array .int)) (by decide) (by decide)))).keep K32q nin0).other W40 (Or.inr (slot_ne (Or.inr (hw _ (List.mem_of_getElem? (i := 27) rfl))) (Or.inr (hw _ (List.mem_of_getElem? (i := 34) rfl))) (by decide) (t := (.array .int)) (t' := (.array .int)) (by decide) (by decide)))).other W43 (Or.inr (slot_ne (Or.inr (hw _ (List.mem_of_getElem? (i := 27) rfl))) (Or.inr (hw _ (List.mem_of_getElem? (i := 36) rfl))) (by decide) (t := (.array .int)) (t' := (.array .double)) (by decide) (by decide))))
  have f45 := (Fw40.other W43 (Or.inr (slot_ne (Or.inr (hw _ (List.mem_of_getElem? (i := 34) rfl))) (Or.inr (hw _ (List.mem_of_getElem? (i := 36) rfl))) (by decide) (t := (.array .int)) (t' := (.array .double)) (by decide) (by decide))))
  have f46 := (((f36.keep K32q nin0).other W40 (Nat.ne_of_gt lt_a_b15)).other W43 (Nat.ne_of_gt lt_a_b15))
  have f47 := ((G32_0.other W40 (Nat.ne_of_gt lt_a_r32)).other W43 (Nat.ne_of_gt lt_a_r32))
  refine Go.retV X43 hx Bd.returns (BodyLoose.notSynchronized Bd) (hb hby d1_153) (Q := (Q_rm1 Z a av az ac kv ks kc y0 y1 y2 x0 x1 x2 h0 n0)) (by decide) (by decide) ?_
  show (Q_rm1 Z a av az ac kv ks kc y0 y1 y2 x0 x1 x2 h0 n0) _ T43.heap _
  rw [e43]
  exact ⟨b15, kv, r32, kk32, rfl, N43, K43, kn_b15, kn_r32, f44, f45, f46, f47⟩
theorem own_pd3 : parseMethodDescriptor "([I[I[D)V" = some ⟨[(.array .int), (.array .int), (.array .double)], none⟩ := by decide +kernel
theorem own_pd4 : parseMethodDescriptor "(I)I" = some ⟨[.int], some .int⟩ := by decide +kernel
theorem own_pn5 : plainName "com/example/tributary/tributary/model/CostTableStridePinLaw" = true := by first | (simp [plainName, overriddenIn]; done) | decide +kernel
def Q_rm0 (Z : State) (i : Int32) (j : Int32) (k : Int32) (sh : Int32) (pk : Int32) (qq : Int32) (h0 : Heap) (n0 : Nat) (v : Option Value) (h : Heap) (L : List Loc) : Prop := v = some (.int 1) ∧ Fr n0 L
theorem ef_rm0 (m : MethodId) (i : Int32) (j : Int32) (k : Int32) (sh : Int32) (pk : Int32) (qq : Int32) : entryFrame m #[(.int i), (.int j), (.int k), (.int sh), (.int pk), (.int qq)] maxLocals = mkF m 0 #[.val (.int i), .val (.int j), .val (.int k), .val (.int sh), .val (.int pk), .val (.int qq), .unset, .unset, .unset, .unset, .unset, .unset, .unset, .unset, .unset, .unset, .unset, .unset, .unset, .unset, .unset] [] := by first | (simp [entryFrame, mkF, argsToLocals, Value.category, maxLocals]; done) | rfl
set_option maxRecDepth 65536 in
set_option maxHeartbeats 40000000 in
theorem rm0 (l : Launch) (Z : State) (a0 : Array Value) (hw : ∀ d ∈ tables_1, d.before a0 Z = true) (ws : List Jvm.Cond) (i : Int32) (j : Int32) (k : Int32) (sh : Int32) (pk : Int32) (qq : Int32) (h0 : Heap) (n0 : Nat) (Z0 : n0 ≤ h0.size) :
    MetFree l x (head1 (Jvm.Cond.code x code maxLocals ret :: ws) room_1) (fun ag_ U_ => ag_ = #[(.int i), (.int j), (.int k), (.int sh), (.int pk), (.int qq)] ∧ Z.Warmed39 U_.vm ∧ U_.heap = h0) (fun _ _ _ _ _ => True) (fun _ U_ o_ V_ => ∃ v_ L_, o_ = .returned v_ ∧ (Q_rm0 Z i j k sh pk qq h0 n0) v_ V_.heap L_ ∧ FrameEnd U_ o_ V_ L_ room_1.cells room_1.slots) := by
  refine MetFree.of_bodySF (plainFor_of_name own_pn5) hisR ?_
  intro p e s m args below meth c s₁ Bd hml0 hP hK
  obtain ⟨rfl, hZ, hh⟩ := hP
  have hx := Bd.exec
  have hby := Bd.bytes
  have hml : c.maxLocals = 21 := hml0
  have hown : s.vm.findClass "com/example/tributary/tributary/model/CostTableStridePinLaw" = some m.cls := findClass_of_methodNamed Bd.named
  have hnm := (name_of_methodNamed Bd.named Bd.method).1
  have X0 : Stand p l e room_1 s m #[(.int i), (.int j), (.int k), (.int sh), (.int pk), (.int qq)] below meth c s₁ [] 0 0 := Stand.of_body Bd
  have e0 : s₁.heap = h0 := by rw [← hh, Bd.state]; rfl
  have N0 := Fr.nil n0
  refine Go.st (G := fun s₂ o_ => ∃ v_ L_, o_ = .returned v_ ∧ (Q_rm0 Z i j k sh pk qq h0 n0) v_ s₂.heap L_ ∧ FrameEnd s o_ s₂ L_ room_1.cells room_1.slots) (fun t kt => castTop (ef_rm0 m i j k sh pk qq) kt) ?_
  have hD := own_dist i j k
  have hS := own_sz sh
  show Go p e below _ (s₁.setTop (mkF m 0 #[.val (.int i), .val (.int j), .val (.int k), .val (.int sh), .val (.int pk), .val (.int qq), .unset, .unset, .unset, .unset, .unset, .unset, .unset, .unset, .unset, .unset, .unset, .unset, .unset, .unset, .unset] []))
  refine Go.st (fun _ kt => XS.iloadN X0.here hx rfl (hb hby at_0) rfl kt) ?_
  show Go p e below _ (s₁.setTop (mkF m 1 #[.val (.int i), .val (.int j), .val (.int k), .val (.int sh), .val (.int pk), .val (.int qq), .unset, .unset, .unset, .unset, .unset, .unset, .unset, .unset, .unset, .unset, .unset, .unset, .unset, .unset, .unset] [(.int i)]))
  refine Go.st (fun _ kt => XS.iconst X0.here hx rfl (hb hby at_1) kt) ?_
  show Go p e below _ (s₁.setTop (mkF m 2 #[.val (.int i), .val (.int j), .val (.int k), .val (.int sh), .val (.int pk), .val (.int qq), .unset, .unset, .unset, .unset, .unset, .unset, .unset, .unset, .unset, .unset, .unset, .unset, .unset, .unset, .unset] [(.int (1 : Int32)), (.int i)]))
  refine Go.st (fun _ kt => XS.iadd X0.here hx rfl (hb hby at_2) rfl kt) ?_
  show Go p e below _ (s₁.setTop (mkF m 3 #[.val (.int i), .val (.int j), .val (.int k), .val (.int sh), .val (.int pk), .val (.int qq), .unset, .unset, .unset, .unset, .unset, .unset, .unset, .unset, .unset, .unset, .unset, .unset, .unset, .unset, .unset] [(.int (i + (1 : Int32)))]))
  refine Go.st (fun _ kt => XS.iloadN X0.here hx rfl (hb hby at_3) rfl kt) ?_
  show Go p e below _ (s₁.setTop (mkF m 4 #[.val (.int i), .val (.int j), .val (.int k), .val (.int sh), .val (.int pk), .val (.int qq), .unset, .unset, .unset, .unset, .unset, .unset, .unset, .unset, .unset, .unset, .unset, .unset, .unset, .unset, .unset] [(.int j), (.int (i + (1 : Int32)))]))
  refine Go.st (fun _ kt => X0.ldcInt hx hown (mvT hZ (hw _ (List.mem_of_getElem? (i := 0) rfl))) (g := (mkF m 4 #[.val (.int i), .val (.int j), .val (.int k), .val (.int sh), .val (.int pk), .val (.int qq), .unset, .unset, .unset, .unset, .unset, .unset, .unset, .unset, .unset, .unset, .unset, .unset, .unset, .unset, .unset] [(.int j), (.int (i + (1 : Int32)))])) rfl (hb hby at_4) _ kt) ?_
  show Go p e below _ (s₁.setTop (mkF m 6 #[.val (.int i), .val (.int j), .val (.int k), .val (.int sh), .val (.int pk), .val (.int qq), .unset, .unset, .unset, .unset, .unset, .unset, .unset, .unset, .unset, .unset, .unset, .unset, .unset, .unset, .unset] [(.int (1073741823 : Int32)), (.int j), (.int (i + (1 : Int32)))]))
  refine Go.st (fun _ kt => XS.iand X0.here hx rfl (hb hby at_6) rfl kt) ?_
  show Go p e below _ (s₁.setTop (mkF m 7 #[.val (.int i), .val (.int j), .val (.int k), .val (.int sh), .val (.int pk), .val (.int qq), .unset, .unset, .unset, .unset, .unset, .unset, .unset, .unset, .unset, .unset, .unset, .unset, .unset, .unset, .unset] [(.int (j &&& (1073741823 : Int32))), (.int (i + (1 : Int32)))]))
  refine Go.st (fun _ kt => XS.iadd X0.here hx rfl (hb hby at_7) rfl kt) ?_
  show Go p e below _ (s₁.setTop (mkF m 8 #[.val (.int i), .val (.int j), .val (.int k), .val (.int sh), .val (.int pk), .val (.int qq), .unset, .unset, .unset, .unset, .unset, .unset, .unset, .unset, .unset, .unset, .unset, .unset, .unset, .unset, .unset] [(.int ((i + (1 : Int32)) + (j &&& (1073741823 : Int32))))]))
  generalize hv1 : (((i + (1 : Int32)) + (j &&& (1073741823 : Int32))) : Int32) = v1
  show Go p e below _ (s₁.setTop (mkF m 8 #[.val (.int i), .val (.int j), .val (.int k), .val (.int sh), .val (.int pk), .val (.int qq), .unset, .unset, .unset, .unset, .unset, .unset, .unset, .unset, .unset, .unset, .unset, .unset, .unset, .unset, .unset] [(.int v1)]))
  rw [hv1] at hD
  refine Go.st (fun _ kt => XS.istore X0.here hx rfl (hb hby at_8) rfl (l' := #[.val (.int i), .val (.int j), .val (.int k), .val (.int sh), .val (.int pk), .val (.int qq), .val (.int v1), .unset, .unset, .unset, .unset, .unset, .unset, .unset, .unset, .unset, .unset, .unset, .unset, .unset, .unset]) rfl kt) ?_
  show Go p e below _ (s₁.setTop (mkF m 10 #[.val (.int i), .val (.int j), .val (.int k), .val (.int sh), .val (.int pk), .val (.int qq), .val (.int v1), .unset, .unset, .unset, .unset, .unset, .unset, .unset, .unset, .unset, .unset, .unset, .unset, .unset, .unset] []))
  refine Go.st (fun _ kt => XS.iload X0.here hx rfl (hb hby at_10) rfl kt) ?_
  show Go p e below _ (s₁.setTop (mkF m 12 #[.val (.int i), .val (.int j), .val (.int k), .val (.int sh), .val (.int pk), .val (.int qq), .val (.int v1), .unset, .unset, .unset, .unset, .unset, .unset, .unset, .unset, .unset, .unset, .unset, .unset, .unset, .unset] [(.int v1)]))
  refine Go.st (fun _ kt => XS.iconst X0.here hx rfl (hb hby at_12) kt) ?_
  show Go p e below _ (s₁.setTop (mkF m 13 #[.val (.int i), .val (.int j), .val (.int k), .val (.int sh), .val (.int pk), .val (.int qq), .val (.int v1), .unset, .unset, .unset, .unset, .unset, .unset, .unset, .unset, .unset, .unset, .unset, .unset, .unset, .unset] [(.int (1 : Int32)), (.int v1)]))
  refine Go.st (fun _ kt => XS.iadd X0.here hx rfl (hb hby at_13) rfl kt) ?_
  show Go p e below _ (s₁.setTop (mkF m 14 #[.val (.int i), .val (.int j), .val (.int k), .val (.int sh), .val (.int pk), .val (.int qq), .val (.int v1), .unset, .unset, .unset, .unset, .unset, .unset, .unset, .unset, .unset, .unset, .unset, .unset, .unset, .unset] [(.int (v1 + (1 : Int32)))]))
  refine Go.st (fun _ kt => XS.iloadN X0.here hx rfl (hb hby at_14) rfl kt) ?_
  show Go p e below _ (s₁.setTop (mkF m 15 #[.val (.int i), .val (.int j), .val (.int k), .val (.int sh), .val (.int pk), .val (.int qq), .val (.int v1), .unset, .unset, .unset, .unset, .unset, .unset, .unset, .unset, .unset, .unset, .unset, .unset, .unset, .unset] [(.int k), (.int (v1 + (1 : Int32)))]))
  refine Go.st (fun _ kt => X0.ldcInt hx hown (mvT hZ (hw _ (List.mem_of_getElem? (i := 0) rfl))) (g := (mkF m 15 #[.val (.int i), .val (.int j), .val (.int k), .val (.int sh), .val (.int pk), .val (.int qq), .val (.int v1), .unset, .unset, .unset, .unset, .unset, .unset, .unset, .unset, .unset, .unset, .unset, .unset, .unset, .unset] [(.int k), (.int (v1 + (1 : Int32)))])) rfl (hb hby at_15) _ kt) ?_
  show Go p e below _ (s₁.setTop (mkF m 17 #[.val (.int i), .val (.int j), .val (.int k), .val (.int sh), .val (.int pk), .val (.int qq), .val (.int v1), .unset, .unset, .unset, .unset, .unset, .unset, .unset, .unset, .unset, .unset, .unset, .unset, .unset, .unset] [(.int (1073741823 : Int32)), (.int k), (.int (v1 + (1 : Int32)))]))
  refine Go.st (fun _ kt => XS.iand X0.here hx rfl (hb hby at_17) rfl kt) ?_
  show Go p e below _ (s₁.setTop (mkF m 18 #[.val (.int i), .val (.int j), .val (.int k), .val (.int sh), .val (.int pk), .val (.int qq), .val (.int v1), .unset, .unset, .unset, .unset, .unset, .unset, .unset, .unset, .unset, .unset, .unset, .unset, .unset, .unset] [(.int (k &&& (1073741823 : Int32))), (.int (v1 + (1 : Int32)))]))
  refine Go.st (fun _ kt => XS.iadd X0.here hx rfl (hb hby at_18) rfl kt) ?_
  show Go p e below _ (s₁.setTop (mkF m 19 #[.val (.int i), .val (.int j), .val (.int k), .val (.int sh), .val (.int pk), .val (.int qq), .val (.int v1), .unset, .unset, .unset, .unset, .unset, .unset, .unset, .unset, .unset, .unset, .unset, .unset, .unset, .unset] [(.int ((v1 + (1 : Int32)) + (k &&& (1073741823 : Int32))))]))
  generalize hv2 : (((v1 + (1 : Int32)) + (k &&& (1073741823 : Int32))) : Int32) = v2
  show Go p e below _ (s₁.setTop (mkF m 19 #[.val (.int i), .val (.int j), .val (.int k), .val (.int sh), .val (.int pk), .val (.int qq), .val (.int v1), .unset, .unset, .unset, .unset, .unset, .unset, .unset, .unset, .unset, .unset, .unset, .unset, .unset, .unset] [(.int v2)]))
  rw [hv2] at hD
  refine Go.st (fun _ kt => XS.istore X0.here hx rfl (hb hby at_19) rfl (l' := #[.val (.int i), .val (.int j), .val (.int k), .val (.int sh), .val (.int pk), .val (.int qq), .val (.int v1), .val (.int v2), .unset, .unset, .unset, .unset, .unset, .unset, .unset, .unset, .unset, .unset, .unset, .unset, .unset]) rfl kt) ?_
  show Go p e below _ (s₁.setTop (mkF m 21 #[.val (.int i), .val (.int j), .val (.int k), .val (.int sh), .val (.int pk), .val (.int qq), .val (.int v1), .val (.int v2), .unset, .unset, .unset, .unset, .unset, .unset, .unset, .unset, .unset, .unset, .unset, .unset, .unset] []))
  refine Go.st (fun _ kt => XS.iloadN X0.here hx rfl (hb hby at_21) rfl kt) ?_
  show Go p e below _ (s₁.setTop (mkF m 22 #[.val (.int i), .val (.int j), .val (.int k), .val (.int sh), .val (.int pk), .val (.int qq), .val (.int v1), .val (.int v2), .unset, .unset, .unset, .unset, .unset, .unset, .unset, .unset, .unset, .unset, .unset, .unset, .unset] [(.int sh)]))
  refine Go.st (fun _ kt => X0.ldcInt hx hown (mvT hZ (hw _ (List.mem_of_getElem? (i := 1) rfl))) (g := (mkF m 22 #[.val (.int i), .val (.int j), .val (.int k), .val (.int sh), .val (.int pk), .val (.int qq), .val (.int v1), .val (.int v2), .unset, .unset, .unset, .unset, .unset, .unset, .unset, .unset, .unset, .unset, .unset, .unset, .unset] [(.int sh)])) rfl (hb hby at_22) _ kt) ?_
  show Go p e below _ (s₁.setTop (mkF m 24 #[.val (.int i), .val (.int j), .val (.int k), .val (.int sh), .val (.int pk), .val (.int qq), .val (.int v1), .val (.int v2), .unset, .unset, .unset, .unset, .unset, .unset, .unset, .unset, .unset, .unset, .unset, .unset, .unset] [(.int (2147483647 : Int32)), (.int sh)]))
  refine Go.st (fun _ kt => XS.iand X0.here hx rfl (hb hby at_24) rfl kt) ?_
  show Go p e below _ (s₁.setTop (mkF m 25 #[.val (.int i), .val (.int j), .val (.int k), .val (.int sh), .val (.int pk), .val (.int qq), .val (.int v1), .val (.int v2), .unset, .unset, .unset, .unset, .unset, .unset, .unset, .unset, .unset, .unset, .unset, .unset, .unset] [(.int (sh &&& (2147483647 : Int32)))]))
  refine Go.st (fun _ kt => XS.iconst X0.here hx rfl (hb hby at_25) kt) ?_
  show Go p e below _ (s₁.setTop (mkF m 26 #[.val (.int i), .val (.int j), .val (.int k), .val (.int sh), .val (.int pk), .val (.int qq), .val (.int v1), .val (.int v2), .unset, .unset, .unset, .unset, .unset, .unset, .unset, .unset, .unset, .unset, .unset, .unset, .unset] [(.int (5 : Int32)), (.int (sh &&& (2147483647 : Int32)))]))
  refine Go.st (fun _ kt => iremM X0 hx rfl (hb hby at_26) rfl (by decide) kt) ?_
  show Go p e below _ (s₁.setTop (mkF m 27 #[.val (.int i), .val (.int j), .val (.int k), .val (.int sh), .val (.int pk), .val (.int qq), .val (.int v1), .val (.int v2), .unset, .unset, .unset, .unset, .unset, .unset, .unset, .unset, .unset, .unset, .unset, .unset, .unset] [(.int ((sh &&& (2147483647 : Int32)) % (5 : Int32)))]))
  generalize hsa : (((sh &&& (2147483647 : Int32)) % (5 : Int32)) : Int32) = sa
  show Go p e below _ (s₁.setTop (mkF m 27 #[.val (.int i), .val (.int j), .val (.int k), .val (.int sh), .val (.int pk), .val (.int qq), .val (.int v1), .val (.int v2), .unset, .unset, .unset, .unset, .unset, .unset, .unset, .unset, .unset, .unset, .unset, .unset, .unset] [(.int sa)]))
  rw [hsa] at hS
  refine Go.st (fun _ kt => XS.istore X0.here hx rfl (hb hby at_27) rfl (l' := #[.val (.int i), .val (.int j), .val (.int k), .val (.int sh), .val (.int pk), .val (.int qq), .val (.int v1), .val (.int v2), .val (.int sa), .unset, .unset, .unset, .unset, .unset, .unset, .unset, .unset, .unset, .unset, .unset, .unset]) rfl kt) ?_
  show Go p e below _ (s₁.setTop (mkF m 29 #[.val (.int i), .val (.int j), .val (.int k), .val (.int sh), .val (.int pk), .val (.int qq), .val (.int v1), .val (.int v2), .val (.int sa), .unset, .unset, .unset, .unset, .unset, .unset, .unset, .unset, .unset, .unset, .unset, .unset] []))
  refine Go.st (fun _ kt => XS.iloadN X0.here hx rfl (hb hby at_29) rfl kt) ?_
  show Go p e below _ (s₁.setTop (mkF m 30 #[.val (.int i), .val (.int j), .val (.int k), .val (.int sh), .val (.int pk), .val (.int qq), .val (.int v1), .val (.int v2), .val (.int sa), .unset, .unset, .unset, .unset, .unset, .unset, .unset, .unset, .unset, .unset, .unset, .unset] [(.int sh)]))
  refine Go.st (fun _ kt => XS.bipush X0.here hx rfl (hb hby at_30) kt) ?_
  show Go p e below _ (s₁.setTop (mkF m 32 #[.val (.int i), .val (.int j), .val (.int k), .val (.int sh), .val (.int pk), .val (.int qq), .val (.int v1), .val (.int v2), .val (.int sa), .unset, .unset, .unset, .unset, .unset, .unset, .unset, .unset, .unset, .unset, .unset, .unset] [(.int (8 : Int32)), (.int sh)]))
  refine Go.st (fun _ kt => XS.iushr X0.here hx rfl (hb hby at_32) rfl kt) ?_
  show Go p e below _ (s₁.setTop (mkF m 33 #[.val (.int i), .val (.int j), .val (.int k), .val (.int sh), .val (.int pk), .val (.int qq), .val (.int v1), .val (.int v2), .val (.int sa), .unset, .unset, .unset, .unset, .unset, .unset, .unset, .unset, .unset, .unset, .unset, .unset] [(.int ((sh.toUInt32 >>> ((8 : Int32) &&& 31).toUInt32).toInt32))]))
  refine Go.st (fun _ kt => X0.ldcInt hx hown (mvT hZ (hw _ (List.mem_of_getElem? (i := 1) rfl))) (g := (mkF m 33 #[.val (.int i), .val (.int j), .val (.int k), .val (.int sh), .val (.int pk), .val (.int qq), .val (.int v1), .val (.int v2), .val (.int sa), .unset, .unset, .unset, .unset, .unset, .unset, .unset, .unset, .unset, .unset, .unset, .unset] [(.int ((sh.toUInt32 >>> ((8 : Int32) &&& 31).toUInt32).toInt32))])) rfl (hb hby at_33) _ kt) ?_
  show Go p e below _ (s₁.setTop (mkF m 35 #[.val (.int i), .val (.int j), .val (.int k), .val (.int sh), .val (.int pk), .val (.int qq), .val (.int v1), .val (.int v2), .val (.int sa), .unset, .unset, .unset, .unset, .unset, .unset, .unset, .unset, .unset, .unset, .unset, .unset] [(.int (2147483647 : Int32)), (.int ((sh.toUInt32 >>> ((8 : Int32) &&& 31).toUInt32).toInt32))]))
  refine Go.st (fun _ kt => XS.iand X0.here hx rfl (hb hby at_35) rfl kt) ?_
  show Go p e below _ (s₁.setTop (mkF m 36 #[.val (.int i), .val (.int j), .val (.int k), .val (.int sh), .val (.int pk), .val (.int qq), .val (.int v1), .val (.int v2), .val (.int sa), .unset, .unset, .unset, .unset, .unset, .unset, .unset, .unset, .unset, .unset, .unset, .unset] [(.int (((sh.toUInt32 >>> ((8 : Int32) &&& 31).toUInt32).toInt32) &&& (2147483647 : Int32)))]))
  refine Go.st (fun _ kt => XS.iconst X0.here hx rfl (hb hby at_36) kt) ?_
  show Go p e below _ (s₁.setTop (mkF m 37 #[.val (.int i), .val (.int j), .val (.int k), .val (.int sh), .val (.int pk), .val (.int qq), .val (.int v1), .val (.int v2), .val (.int sa), .unset, .unset, .unset, .unset, .unset, .unset, .unset, .unset, .unset, .unset, .unset, .unset] [(.int (5 : Int32)), (.int (((sh.toUInt32 >>> ((8 : Int32) &&& 31).toUInt32).toInt32) &&& (2147483647 : Int32)))]))
  refine Go.st (fun _ kt => XS.iload X0.here hx rfl (hb hby at_37) rfl kt) ?_
  show Go p e below _ (s₁.setTop (mkF m 39 #[.val (.int i), .val (.int j), .val (.int k), .val (.int sh), .val (.int pk), .val (.int qq), .val (.int v1), .val (.int v2), .val (.int sa), .unset, .unset, .unset, .unset, .unset, .unset, .unset, .unset, .unset, .unset, .unset, .unset] [(.int sa), (.int (5 : Int32)), (.int (((sh.toUInt32 >>> ((8 : Int32) &&& 31).toUInt32).toInt32) &&& (2147483647 : Int32)))]))
  refine Go.st (fun _ kt => XS.isub X0.here hx rfl (hb hby at_39) rfl kt) ?_
  show Go p e below _ (s₁.setTop (mkF m 40 #[.val (.int i), .val (.int j), .val (.int k), .val (.int sh), .val (.int pk), .val (.int qq), .val (.int v1), .val (.int v2), .val (.int sa), .unset, .unset, .unset, .unset, .unset, .unset, .unset, .unset, .unset, .unset, .unset, .unset] [(.int ((5 : Int32) - sa)), (.int (((sh.toUInt32 >>> ((8 : Int32) &&& 31).toUInt32).toInt32) &&& (2147483647 : Int32)))]))
  refine Go.st (fun _ kt => iremM X0 hx rfl (hb hby at_40) rfl hS.1 kt) ?_
  show Go p e below _ (s₁.setTop (mkF m 41 #[.val (.int i), .val (.int j), .val (.int k), .val (.int sh), .val (.int pk), .val (.int qq), .val (.int v1), .val (.int v2), .val (.int sa), .unset, .unset, .unset, .unset, .unset, .unset, .unset, .unset, .unset, .unset, .unset, .unset] [(.int ((((sh.toUInt32 >>> ((8 : Int32) &&& 31).toUInt32).toInt32) &&& (2147483647 : Int32)) % ((5 : Int32) - sa)))]))
  generalize hsb : (((((sh.toUInt32 >>> ((8 : Int32) &&& 31).toUInt32).toInt32) &&& (2147483647 : Int32)) % ((5 : Int32) - sa)) : Int32) = sb
  show Go p e below _ (s₁.setTop (mkF m 41 #[.val (.int i), .val (.int j), .val (.int k), .val (.int sh), .val (.int pk), .val (.int qq), .val (.int v1), .val (.int v2), .val (.int sa), .unset, .unset, .unset, .unset, .unset, .unset, .unset, .unset, .unset, .unset, .unset, .unset] [(.int sb)]))
  rw [hsb] at hS
  refine Go.st (fun _ kt => XS.istore X0.here hx rfl (hb hby at_41) rfl (l' := #[.val (.int i), .val (.int j), .val (.int k), .val (.int sh), .val (.int pk), .val (.int qq), .val (.int v1), .val (.int v2), .val (.int sa), .val (.int sb), .unset, .unset, .unset, .unset, .unset, .unset, .unset, .unset, .unset, .unset, .unset]) rfl kt) ?_
  show Go p e below _ (s₁.setTop (mkF m 43 #[.val (.int i), .val (.int j), .val (.int k), .val (.int sh), .val (.int pk), .val (.int qq), .val (.int v1), .val (.int v2), .val (.int sa), .val (.int sb), .unset, .unset, .unset, .unset, .unset, .unset, .unset, .unset, .unset, .unset, .unset] []))
  refine Go.st (fun _ kt => XS.iconst X0.here hx rfl (hb hby at_43) kt) ?_
  show Go p e below _ (s₁.setTop (mkF m 44 #[.val (.int i), .val (.int j), .val (.int k), .val (.int sh), .val (.int pk), .val (.int qq), .val (.int v1), .val (.int v2), .val (.int sa), .val (.int sb), .unset, .unset, .unset, .unset, .unset, .unset, .unset, .unset, .unset, .unset, .unset] [(.int (4 : Int32))]))
  refine Go.st (fun _ kt => XS.iload X0.here hx rfl (hb hby at_44) rfl kt) ?_
  show Go p e below _ (s₁.setTop (mkF m 46 #[.val (.int i), .val (.int j), .val (.int k), .val (.int sh), .val (.int pk), .val (.int qq), .val (.int v1), .val (.int v2), .val (.int sa), .val (.int sb), .unset, .unset, .unset, .unset, .unset, .unset, .unset, .unset, .unset, .unset, .unset] [(.int sa), (.int (4 : Int32))]))
  refine Go.st (fun _ kt => XS.isub X0.here hx rfl (hb hby at_46) rfl kt) ?_
  show Go p e below _ (s₁.setTop (mkF m 47 #[.val (.int i), .val (.int j), .val (.int k), .val (.int sh), .val (.int pk), .val (.int qq), .val (.int v1), .val (.int v2), .val (.int sa), .val (.int sb), .unset, .unset, .unset, .unset, .unset, .unset, .unset, .unset, .unset, .unset, .unset] [(.int ((4 : Int32) - sa))]))
  refine Go.st (fun _ kt => XS.iload X0.here hx rfl (hb hby at_47) rfl kt) ?_
  show Go p e below _ (s₁.setTop (mkF m 49 #[.val (.int i), .val (.int j), .val (.int k), .val (.int sh), .val (.int pk), .val (.int qq), .val (.int v1), .val (.int v2), .val (.int sa), .val (.int sb), .unset, .unset, .unset, .unset, .unset, .unset, .unset, .unset, .unset, .unset, .unset] [(.int sb), (.int ((4 : Int32) - sa))]))
  refine Go.st (fun _ kt => XS.isub X0.here hx rfl (hb hby at_49) rfl kt) ?_
  show Go p e below _ (s₁.setTop (mkF m 50 #[.val (.int i), .val (.int j), .val (.int k), .val (.int sh), .val (.int pk), .val (.int qq), .val (.int v1), .val (.int v2), .val (.int sa), .val (.int sb), .unset, .unset, .unset, .unset, .unset, .unset, .unset, .unset, .unset, .unset, .unset] [(.int (((4 : Int32) - sa) - sb))]))
  generalize hsc : ((((4 : Int32) - sa) - sb) : Int32) = sc
  show Go p e below _ (s₁.setTop (mkF m 50 #[.val (.int i), .val (.int j), .val (.int k), .val (.int sh), .val (.int pk), .val (.int qq), .val (.int v1), .val (.int v2), .val (.int sa), .val (.int sb), .unset, .unset, .unset, .unset, .unset, .unset, .unset, .unset, .unset, .unset, .unset] [(.int sc)]))
  rw [hsc] at hS
  refine Go.st (fun _ kt => XS.istore X0.here hx rfl (hb hby at_50) rfl (l' := #[.val (.int i), .val (.int j), .val (.int k), .val (.int sh), .val (.int pk), .val (.int qq), .val (.int v1), .val (.int v2), .val (.int sa), .val (.int sb), .val (.int sc), .unset, .unset, .unset, .unset, .unset, .unset, .unset, .unset, .unset, .unset]) rfl kt) ?_
  show Go p e below _ (s₁.setTop (mkF m 52 #[.val (.int i), .val (.int j), .val (.int k), .val (.int sh), .val (.int pk), .val (.int qq), .val (.int v1), .val (.int v2), .val (.int sa), .val (.int sb), .val (.int sc), .unset, .unset, .unset, .unset, .unset, .unset, .unset, .unset, .unset, .unset] []))
  refine Go.st (fun _ kt => XS.iconst X0.here hx rfl (hb hby at_52) kt) ?_
  show Go p e below _ (s₁.setTop (mkF m 53 #[.val (.int i), .val (.int j), .val (.int k), .val (.int sh), .val (.int pk), .val (.int qq), .val (.int v1), .val (.int v2), .val (.int sa), .val (.int sb), .val (.int sc), .unset, .unset, .unset, .unset, .unset, .unset, .unset, .unset, .unset, .unset] [(.int (1 : Int32))]))
  refine Go.st (fun _ kt => XS.iload X0.here hx rfl (hb hby at_53) rfl kt) ?_
  show Go p e below _ (s₁.setTop (mkF m 55 #[.val (.int i), .val (.int j), .val (.int k), .val (.int sh), .val (.int pk), .val (.int qq), .val (.int v1), .val (.int v2), .val (.int sa), .val (.int sb), .val (.int sc), .unset, .unset, .unset, .unset, .unset, .unset, .unset, .unset, .unset, .unset] [(.int sa), (.int (1 : Int32))]))
  refine Go.st (fun _ kt => XS.ishl X0.here hx rfl (hb hby at_55) rfl kt) ?_
  show Go p e below _ (s₁.setTop (mkF m 56 #[.val (.int i), .val (.int j), .val (.int k), .val (.int sh), .val (.int pk), .val (.int qq), .val (.int v1), .val (.int v2), .val (.int sa), .val (.int sb), .val (.int sc), .unset, .unset, .unset, .unset, .unset, .unset, .unset, .unset, .unset, .unset] [(.int ((1 : Int32) <<< (sa &&& 31)))]))
  generalize hs0 : (((1 : Int32) <<< (sa &&& 31)) : Int32) = s0
  show Go p e below _ (s₁.setTop (mkF m 56 #[.val (.int i), .val (.int j), .val (.int k), .val (.int sh), .val (.int pk), .val (.int qq), .val (.int v1), .val (.int v2), .val (.int sa), .val (.int sb), .val (.int sc), .unset, .unset, .unset, .unset, .unset, .unset, .unset, .unset, .unset, .unset] [(.int s0)]))
  rw [hs0] at hS
  refine Go.st (fun _ kt => XS.istore X0.here hx rfl (hb hby at_56) rfl (l' := #[.val (.int i), .val (.int j), .val (.int k), .val (.int sh), .val (.int pk), .val (.int qq), .val (.int v1), .val (.int v2), .val (.int sa), .val (.int sb), .val (.int sc), .val (.int s0), .unset, .unset, .unset, .unset, .unset, .unset, .unset, .unset, .unset]) rfl kt) ?_
  show Go p e below _ (s₁.setTop (mkF m 58 #[.val (.int i), .val (.int j), .val (.int k), .val (.int sh), .val (.int pk), .val (.int qq), .val (.int v1), .val (.int v2), .val (.int sa), .val (.int sb), .val (.int sc), .val (.int s0), .unset, .unset, .unset, .unset, .unset, .unset, .unset, .unset, .unset] []))
  refine Go.st (fun _ kt => XS.iconst X0.here hx rfl (hb hby at_58) kt) ?_
  show Go p e below _ (s₁.setTop (mkF m 59 #[.val (.int i), .val (.int j), .val (.int k), .val (.int sh), .val (.int pk), .val (.int qq), .val (.int v1), .val (.int v2), .val (.int sa), .val (.int sb), .val (.int sc), .val (.int s0), .unset, .unset, .unset, .unset, .unset, .unset, .unset, .unset, .unset] [(.int (1 : Int32))]))
  refine Go.st (fun _ kt => XS.iload X0.here hx rfl (hb hby at_59) rfl kt) ?_
  show Go p e below _ (s₁.setTop (mkF m 61 #[.val (.int i), .val (.int j), .val (.int k), .val (.int sh), .val (.int pk), .val (.int qq), .val (.int v1), .val (.int v2), .val (.int sa), .val (.int sb), .val (.int sc), .val (.int s0), .unset, .unset, .unset, .unset, .unset, .unset, .unset, .unset, .unset] [(.int sb), (.int (1 : Int32))]))
  refine Go.st (fun _ kt => XS.ishl X0.here hx rfl (hb hby at_61) rfl kt) ?_
  show Go p e below _ (s₁.setTop (mkF m 62 #[.val (.int i), .val (.int j), .val (.int k), .val (.int sh), .val (.int pk), .val (.int qq), .val (.int v1), .val (.int v2), .val (.int sa), .val (.int sb), .val (.int sc), .val (.int s0), .unset, .unset, .unset, .unset, .unset, .unset, .unset, .unset, .unset] [(.int ((1 : Int32) <<< (sb &&& 31)))]))
  generalize hs1 : (((1 : Int32) <<< (sb &&& 31)) : Int32) = s1
  show Go p e below _ (s₁.setTop (mkF m 62 #[.val (.int i), .val (.int j), .val (.int k), .val (.int sh), .val (.int pk), .val (.int qq), .val (.int v1), .val (.int v2), .val (.int sa), .val (.int sb), .val (.int sc), .val (.int s0), .unset, .unset, .unset, .unset, .unset, .unset, .unset, .unset, .unset] [(.int s1)]))
  rw [hs1] at hS
  refine Go.st (fun _ kt => XS.istore X0.here hx rfl (hb hby at_62) rfl (l' := #[.val (.int i), .val (.int j), .val (.int k), .val (.int sh), .val (.int pk), .val (.int qq), .val (.int v1), .val (.int v2), .val (.int sa), .val (.int sb), .val (.int sc), .val (.int s0), .val (.int s1), .unset, .unset, .unset, .unset, .unset, .unset, .unset, .unset]) rfl kt) ?_
  show Go p e below _ (s₁.setTop (mkF m 64 #[.val (.int i), .val (.int j), .val (.int k), .val (.int sh), .val (.int pk), .val (.int qq), .val (.int v1), .val (.int v2), .val (.int sa), .val (.int sb), .val (.int sc), .val (.int s0), .val (.int s1), .unset, .unset, .unset, .unset, .unset, .unset, .unset, .unset] []))
  refine Go.st (fun _ kt => XS.iconst X0.here hx rfl (hb hby at_64) kt) ?_
  show Go p e below _ (s₁.setTop (mkF m 65 #[.val (.int i), .val (.int j), .val (.int k), .val (.int sh), .val (.int pk), .val (.int qq), .val (.int v1), .val (.int v2), .val (.int sa), .val (.int sb), .val (.int sc), .val (.int s0), .val (.int s1), .unset, .unset, .unset, .unset, .unset, .unset, .unset, .unset] [(.int (1 : Int32))]))
  refine Go.st (fun _ kt => XS.iload X0.here hx rfl (hb hby at_65) rfl kt) ?_
  show Go p e below _ (s₁.setTop (mkF m 67 #[.val (.int i), .val (.int j), .val (.int k), .val (.int sh), .val (.int pk), .val (.int qq), .val (.int v1), .val (.int v2), .val (.int sa), .val (.int sb), .val (.int sc), .val (.int s0), .val (.int s1), .unset, .unset, .unset, .unset, .unset, .unset, .unset, .unset] [(.int sc), (.int (1 : Int32))]))
  refine Go.st (fun _ kt => XS.ishl X0.here hx rfl (hb hby at_67) rfl kt) ?_
  show Go p e below _ (s₁.setTop (mkF m 68 #[.val (.int i), .val (.int j), .val (.int k), .val (.int sh), .val (.int pk), .val (.int qq), .val (.int v1), .val (.int v2), .val (.int sa), .val (.int sb), .val (.int sc), .val (.int s0), .val (.int s1), .unset, .unset, .unset, .unset, .unset, .unset, .unset, .unset] [(.int ((1 : Int32) <<< (sc &&& 31)))]))
  generalize hs2 : (((1 : Int32) <<< (sc &&& 31)) : Int32) = s2
  show Go p e below _ (s₁.setTop (mkF m 68 #[.val (.int i), .val (.int j), .val (.int k), .val (.int sh), .val (.int pk), .val (.int qq), .val (.int v1), .val (.int v2), .val (.int sa), .val (.int sb), .val (.int sc), .val (.int s0), .val (.int s1), .unset, .unset, .unset, .unset, .unset, .unset, .unset, .unset] [(.int s2)]))
  rw [hs2] at hS
  have hF := hS.2
  have hD' : ¬ v1 = i ∧ ¬ v2 = v1 ∧ ¬ v2 = i := ⟨fun q => hD.1 q.symm, fun q => hD.2.1 q.symm, fun q => hD.2.2 q.symm⟩
  refine Go.st (fun _ kt => XS.istore X0.here hx rfl (hb hby at_68) rfl (l' := #[.val (.int i), .val (.int j), .val (.int k), .val (.int sh), .val (.int pk), .val (.int qq), .val (.int v1), .val (.int v2), .val (.int sa), .val (.int sb), .val (.int sc), .val (.int s0), .val (.int s1), .val (.int s2), .unset, .unset, .unset, .unset, .unset, .unset, .unset]) rfl kt) ?_
  show Go p e below _ (s₁.setTop (mkF m 70 #[.val (.int i), .val (.int j), .val (.int k), .val (.int sh), .val (.int pk), .val (.int qq), .val (.int v1), .val (.int v2), .val (.int sa), .val (.int sb), .val (.int sc), .val (.int s0), .val (.int s1), .val (.int s2), .unset, .unset, .unset, .unset, .unset, .unset, .unset] []))
  refine Go.st (fun _ kt => XS.iconst X0.here hx rfl (hb hby at_70) kt) ?_
  show Go p e below _ (s₁.setTop (mkF m 71 #[.val (.int i), .val (.int j), .val (.int k), .val (.int sh), .val (.int pk), .val (.int qq), .val (.int v1), .val (.int v2), .val (.int sa), .val (.int sb), .val (.int sc), .val (.int s0), .val (.int s1), .val (.int s2), .unset, .unset, .unset, .unset, .unset, .unset, .unset] [(.int (3 : Int32))]))
  obtain ⟨T1, h1, k1, X1, e1, E1, A1, Y1, st1⟩ := newPE X0 hx hZ (hw _ (List.mem_of_getElem? (i := 2) rfl)) e0 (g := (mkF m 71 #[.val (.int i), .val (.int j), .val (.int k), .val (.int sh), .val (.int pk), .val (.int qq), .val (.int v1), .val (.int v2), .val (.int sa), .val (.int sb), .val (.int sc), .val (.int s0), .val (.int s1), .val (.int s2), .unset, .unset, .unset, .unset, .unset, .unset, .unset] [(.int (3 : Int32))])) rfl (hb hby at_71) rfl (by decide) (cap := 3) (by decide) (by decide) (by decide) (by decide) (ad := "[I") (by decide)
  obtain ⟨b1, g1⟩ : ∃ z, z = h0.size := ⟨_, rfl⟩
  rw [← g1] at A1 Y1 st1
  have gn_b1 : n0 ≤ b1 := Nat.le_trans Z0 (Nat.le_of_eq g1.symm)
  have Zs1 : n0 ≤ h1.size := Nat.le_trans Z0 E1.1
  refine Go.st st1 ?_
  have V1 : Arv Z h1 b1 k1 .int (3 : Int32) [(.int (0 : Int32)), (.int (0 : Int32)), (.int (0 : Int32))] (.int (0 : Int32)) := (Arv.new A1 (by decide)).pad (pad_rep [] (.int (0 : Int32)) 3)
  show Go p e below _ (T1.setTop (mkF m 73 #[.val (.int i), .val (.int j), .val (.int k), .val (.int sh), .val (.int pk), .val (.int qq), .val (.int v1), .val (.int v2), .val (.int sa), .val (.int sb), .val (.int sc), .val (.int s0), .val (.int s1), .val (.int s2), .unset, .unset, .unset, .unset, .unset, .unset, .unset] [(.ref b1)]))
  refine Go.st (fun _ kt => XS.dup X1.here hx rfl (hb hby at_73) rfl rfl kt) ?_
  show Go p e below _ (T1.setTop (mkF m 74 #[.val (.int i), .val (.int j), .val (.int k), .val (.int sh), .val (.int pk), .val (.int qq), .val (.int v1), .val (.int v2), .val (.int sa), .val (.int sb), .val (.int sc), .val (.int s0), .val (.int s1), .val (.int s2), .unset, .unset, .unset, .unset, .unset, .unset, .unset] [(.ref b1), (.ref b1)]))
  refine Go.st (fun _ kt => XS.iconst X1.here hx rfl (hb hby at_74) kt) ?_
  show Go p e below _ (T1.setTop (mkF m 75 #[.val (.int i), .val (.int j), .val (.int k), .val (.int sh), .val (.int pk), .val (.int qq), .val (.int v1), .val (.int v2), .val (.int sa), .val (.int sb), .val (.int sc), .val (.int s0), .val (.int s1), .val (.int s2), .unset, .unset, .unset, .unset, .unset, .unset, .unset] [(.int (0 : Int32)), (.ref b1), (.ref b1)]))
  refine Go.st (fun _ kt => XS.iloadN X1.here hx rfl (hb hby at_75) rfl kt) ?_
  show Go p e below _ (T1.setTop (mkF m 76 #[.val (.int i), .val (.int j), .val (.int k), .val (.int sh), .val (.int pk), .val (.int qq), .val (.int v1), .val (.int v2), .val (.int sa), .val (.int sb), .val (.int sc), .val (.int s0), .val (.int s1), .val (.int s2), .unset, .unset, .unset, .unset, .unset, .unset, .unset] [(.int i), (.int (0 : Int32)), (.ref b1), (.ref b1)]))
  obtain ⟨cl2, Ar2, q2, S2, N2', H2, G2⟩ := id V1
  have hin2 : ¬ ((0 : Int32) < 0 ∨ cl2.slots.size ≤ ((0 : Int32)).toNatClampNeg) := inb_of S2 ⟨by decide, by decide⟩
  obtain ⟨T3, h3, X3, e3, W3, st3⟩ := stI X1 hx hZ e1 Ar2 (j := (0 : Int32)) hin2 (g := (mkF m 76 #[.val (.int i), .val (.int j), .val (.int k), .val (.int sh), .val (.int pk), .val (.int qq), .val (.int v1), .val (.int v2), .val (.int sa), .val (.int sb), .val (.int sc), .val (.int s0), .val (.int s1), .val (.int s2), .unset, .unset, .unset, .unset, .unset, .unset, .unset] [(.int i), (.int (0 : Int32)), (.ref b1), (.ref b1)])) rfl rfl (hb hby at_76)
  refine Go.st st3 ?_
  have V3 : Arv Z h3 b1 k1 .int (3 : Int32) [(.int i), (.int (0 : Int32)), (.int (0 : Int32))] (.int (0 : Int32)) := Arv.set Ar2 q2 S2 N2' H2 G2 rfl W3 0 rfl (Nat.le_of_ble_eq_true rfl)
  have Zs3 : n0 ≤ h3.size := Nat.le_trans Zs1 (Nat.le_of_eq W3.size.symm)
  have N3 := Fr.snoc X3 N0 gn_b1
  show Go p e below _ (T3.setTop (mkF m 77 #[.val (.int i), .val (.int j), .val (.int k), .val (.int sh), .val (.int pk), .val (.int qq), .val (.int v1), .val (.int v2), .val (.int sa), .val (.int sb), .val (.int sc), .val (.int s0), .val (.int s1), .val (.int s2), .unset, .unset, .unset, .unset, .unset, .unset, .unset] [(.ref b1)]))
  refine Go.st (fun _ kt => XS.dup X3.here hx rfl (hb hby at_77) rfl rfl kt) ?_
  show Go p e below _ (T3.setTop (mkF m 78 #[.val (.int i), .val (.int j), .val (.int k), .val (.int sh), .val (.int pk), .val (.int qq), .val (.int v1), .val (.int v2), .val (.int sa), .val (.int sb), .val (.int sc), .val (.int s0), .val (.int s1), .val (.int s2), .unset, .unset, .unset, .unset, .unset, .unset, .unset] [(.ref b1), (.ref b1)]))
  refine Go.st (fun _ kt => XS.iconst X3.here hx rfl (hb hby at_78) kt) ?_
  show Go p e below _ (T3.setTop (mkF m 79 #[.val (.int i), .val (.int j), .val (.int k), .val (.int sh), .val (.int pk), .val (.int qq), .val (.int v1), .val (.int v2), .val (.int sa), .val (.int sb), .val (.int sc), .val (.int s0), .val (.int s1), .val (.int s2), .unset, .unset, .unset, .unset, .unset, .unset, .unset] [(.int (1 : Int32)), (.ref b1), (.ref b1)]))
  refine Go.st (fun _ kt => XS.iload X3.here hx rfl (hb hby at_79) rfl kt) ?_
  show Go p e below _ (T3.setTop (mkF m 81 #[.val (.int i), .val (.int j), .val (.int k), .val (.int sh), .val (.int pk), .val (.int qq), .val (.int v1), .val (.int v2), .val (.int sa), .val (.int sb), .val (.int sc), .val (.int s0), .val (.int s1), .val (.int s2), .unset, .unset, .unset, .unset, .unset, .unset, .unset] [(.int v1), (.int (1 : Int32)), (.ref b1), (.ref b1)]))
  obtain ⟨cl4, Ar4, q4, S4, N4', H4, G4⟩ := id V3
  have hin4 : ¬ ((1 : Int32) < 0 ∨ cl4.slots.size ≤ ((1 : Int32)).toNatClampNeg) := inb_of S4 ⟨by decide, by decide⟩
  obtain ⟨T5, h5, X5, e5, W5, st5⟩ := stI X3 hx hZ e3 Ar4 (j := (1 : Int32)) hin4 (g := (mkF m 81 #[.val (.int i), .val (.int j), .val (.int k), .val (.int sh), .val (.int pk), .val (.int qq), .val (.int v1), .val (.int v2), .val (.int sa), .val (.int sb), .val (.int sc), .val (.int s0), .val (.int s1), .val (.int s2), .unset, .unset, .unset, .unset, .unset, .unset, .unset] [(.int v1), (.int (1 : Int32)), (.ref b1), (.ref b1)])) rfl rfl (hb hby at_81)
  refine Go.st st5 ?_
  have V5 : Arv Z h5 b1 k1 .int (3 : Int32) [(.int i), (.int v1), (.int (0 : Int32))] (.int (0 : Int32)) := Arv.set Ar4 q4 S4 N4' H4 G4 rfl W5 1 rfl (Nat.le_of_ble_eq_true rfl)
  have Zs5 : n0 ≤ h5.size := Nat.le_trans Zs3 (Nat.le_of_eq W5.size.symm)
  have N5 := Fr.snoc X5 N3 gn_b1
  show Go p e below _ (T5.setTop (mkF m 82 #[.val (.int i), .val (.int j), .val (.int k), .val (.int sh), .val (.int pk), .val (.int qq), .val (.int v1), .val (.int v2), .val (.int sa), .val (.int sb), .val (.int sc), .val (.int s0), .val (.int s1), .val (.int s2), .unset, .unset, .unset, .unset, .unset, .unset, .unset] [(.ref b1)]))
  refine Go.st (fun _ kt => XS.dup X5.here hx rfl (hb hby at_82) rfl rfl kt) ?_
  show Go p e below _ (T5.setTop (mkF m 83 #[.val (.int i), .val (.int j), .val (.int k), .val (.int sh), .val (.int pk), .val (.int qq), .val (.int v1), .val (.int v2), .val (.int sa), .val (.int sb), .val (.int sc), .val (.int s0), .val (.int s1), .val (.int s2), .unset, .unset, .unset, .unset, .unset, .unset, .unset] [(.ref b1), (.ref b1)]))
  refine Go.st (fun _ kt => XS.iconst X5.here hx rfl (hb hby at_83) kt) ?_
  show Go p e below _ (T5.setTop (mkF m 84 #[.val (.int i), .val (.int j), .val (.int k), .val (.int sh), .val (.int pk), .val (.int qq), .val (.int v1), .val (.int v2), .val (.int sa), .val (.int sb), .val (.int sc), .val (.int s0), .val (.int s1), .val (.int s2), .unset, .unset, .unset, .unset, .unset, .unset, .unset] [(.int (2 : Int32)), (.ref b1), (.ref b1)]))
  refine Go.st (fun _ kt => XS.iload X5.here hx rfl (hb hby at_84) rfl kt) ?_
  show Go p e below _ (T5.setTop (mkF m 86 #[.val (.int i), .val (.int j), .val (.int k), .val (.int sh), .val (.int pk), .val (.int qq), .val (.int v1), .val (.int v2), .val (.int sa), .val (.int sb), .val (.int sc), .val (.int s0), .val (.int s1), .val (.int s2), .unset, .unset, .unset, .unset, .unset, .unset, .unset] [(.int v2), (.int (2 : Int32)), (.ref b1), (.ref b1)]))
  obtain ⟨cl6, Ar6, q6, S6, N6', H6, G6⟩ := id V5
  have hin6 : ¬ ((2 : Int32) < 0 ∨ cl6.slots.size ≤ ((2 : Int32)).toNatClampNeg) := inb_of S6 ⟨by decide, by decide⟩
  obtain ⟨T7, h7, X7, e7, W7, st7⟩ := stI X5 hx hZ e5 Ar6 (j := (2 : Int32)) hin6 (g := (mkF m 86 #[.val (.int i), .val (.int j), .val (.int k), .val (.int sh), .val (.int pk), .val (.int qq), .val (.int v1), .val (.int v2), .val (.int sa), .val (.int sb), .val (.int sc), .val (.int s0), .val (.int s1), .val (.int s2), .unset, .unset, .unset, .unset, .unset, .unset, .unset] [(.int v2), (.int (2 : Int32)), (.ref b1), (.ref b1)])) rfl rfl (hb hby at_86)
  refine Go.st st7 ?_
  have V7 : Arv Z h7 b1 k1 .int (3 : Int32) [(.int i), (.int v1), (.int v2)] (.int (0 : Int32)) := Arv.set Ar6 q6 S6 N6' H6 G6 rfl W7 2 rfl (Nat.le_of_ble_eq_true rfl)
  have Zs7 : n0 ≤ h7.size := Nat.le_trans Zs5 (Nat.le_of_eq W7.size.symm)
  have N7 := Fr.snoc X7 N5 gn_b1
  show Go p e below _ (T7.setTop (mkF m 87 #[.val (.int i), .val (.int j), .val (.int k), .val (.int sh), .val (.int pk), .val (.int qq), .val (.int v1), .val (.int v2), .val (.int sa), .val (.int sb), .val (.int sc), .val (.int s0), .val (.int s1), .val (.int s2), .unset, .unset, .unset, .unset, .unset, .unset, .unset] [(.ref b1)]))
  refine Go.st (fun _ kt => XS.astore X7.here hx rfl (hb hby at_87) rfl rfl (l' := #[.val (.int i), .val (.int j), .val (.int k), .val (.int sh), .val (.int pk), .val (.int qq), .val (.int v1), .val (.int v2), .val (.int sa), .val (.int sb), .val (.int sc), .val (.int s0), .val (.int s1), .val (.int s2), .val (.ref b1), .unset, .unset, .unset, .unset, .unset, .unset]) rfl kt) ?_
  show Go p e below _ (T7.setTop (mkF m 89 #[.val (.int i), .val (.int j), .val (.int k), .val (.int sh), .val (.int pk), .val (.int qq), .val (.int v1), .val (.int v2), .val (.int sa), .val (.int sb), .val (.int sc), .val (.int s0), .val (.int s1), .val (.int s2), .val (.ref b1), .unset, .unset, .unset, .unset, .unset, .unset] []))
  refine Go.st (fun _ kt => XS.iconst X7.here hx rfl (hb hby at_89) kt) ?_
  show Go p e below _ (T7.setTop (mkF m 90 #[.val (.int i), .val (.int j), .val (.int k), .val (.int sh), .val (.int pk), .val (.int qq), .val (.int v1), .val (.int v2), .val (.int sa), .val (.int sb), .val (.int sc), .val (.int s0), .val (.int s1), .val (.int s2), .val (.ref b1), .unset, .unset, .unset, .unset, .unset, .unset] [(.int (3 : Int32))]))
  obtain ⟨T8, h8, k8, X8, e8, E8, A8, Y8, st8⟩ := newPE X7 hx hZ (hw _ (List.mem_of_getElem? (i := 2) rfl)) e7 (g := (mkF m 90 #[.val (.int i), .val (.int j), .val (.int k), .val (.int sh), .val (.int pk), .val (.int qq), .val (.int v1), .val (.int v2), .val (.int sa), .val (.int sb), .val (.int sc), .val (.int s0), .val (.int s1), .val (.int s2), .val (.ref b1), .unset, .unset, .unset, .unset, .unset, .unset] [(.int (3 : Int32))])) rfl (hb hby at_90) rfl (by decide) (cap := 3) (by decide) (by decide) (by decide) (by decide) (ad := "[I") (by decide)
  obtain ⟨b8, g8⟩ : ∃ z, z = h7.size := ⟨_, rfl⟩
  rw [← g8] at A8 Y8 st8
  have f9 := (((Y1.wr W3).wr W5).wr W7)
  have lt_b1_b8 : b1 < b8 := Nat.lt_of_lt_of_eq f9.lt g8.symm
  have gn_b8 : n0 ≤ b8 := Nat.le_trans Zs7 (Nat.le_of_eq g8.symm)
  have Zs8 : n0 ≤ h8.size := Nat.le_trans Zs7 E8.1
  refine Go.st st8 ?_
  have V8 : Arv Z h8 b8 k8 .int (3 : Int32) [(.int (0 : Int32)), (.int (0 : Int32)), (.int (0 : Int32))] (.int (0 : Int32)) := (Arv.new A8 (by decide)).pad (pad_rep [] (.int (0 : Int32)) 3)
  show Go p e below _ (T8.setTop (mkF m 92 #[.val (.int i), .val (.int j), .val (.int k), .val (.int sh), .val (.int pk), .val (.int qq), .val (.int v1), .val (.int v2), .val (.int sa), .val (.int sb), .val (.int sc), .val (.int s0), .val (.int s1), .val (.int s2), .val (.ref b1), .unset, .unset, .unset, .unset, .unset, .unset] [(.ref b8)]))
  refine Go.st (fun _ kt => XS.dup X8.here hx rfl (hb hby at_92) rfl rfl kt) ?_
  show Go p e below _ (T8.setTop (mkF m 93 #[.val (.int i), .val (.int j), .val (.int k), .val (.int sh), .val (.int pk), .val (.int qq), .val (.int v1), .val (.int v2), .val (.int sa), .val (.int sb), .val (.int sc), .val (.int s0), .val (.int s1), .val (.int s2), .val (.ref b1), .unset, .unset, .unset, .unset, .unset, .unset] [(.ref b8), (.ref b8)]))
  refine Go.st (fun _ kt => XS.iconst X8.here hx rfl (hb hby at_93) kt) ?_
  show Go p e below _ (T8.setTop (mkF m 94 #[.val (.int i), .val (.int j), .val (.int k), .val (.int sh), .val (.int pk), .val (.int qq), .val (.int v1), .val (.int v2), .val (.int sa), .val (.int sb), .val (.int sc), .val (.int s0), .val (.int s1), .val (.int s2), .val (.ref b1), .unset, .unset, .unset, .unset, .unset, .unset] [(.int (0 : Int32)), (.ref b8), (.ref b8)]))
  refine Go.st (fun _ kt => XS.iload X8.here hx rfl (hb hby at_94) rfl kt) ?_
  show Go p e below _ (T8.setTop (mkF m 96 #[.val (.int i), .val (.int j), .val (.int k), .val (.int sh), .val (.int pk), .val (.int qq), .val (.int v1), .val (.int v2), .val (.int sa), .val (.int sb), .val (.int sc), .val (.int s0), .val (.int s1), .val (.int s2), .val (.ref b1), .unset, .unset, .unset, .unset, .unset, .unset] [(.int s0), (.int (0 : Int32)), (.ref b8), (.ref b8)]))
  obtain ⟨cl10, Ar10, q10, S10, N10', H10, G10⟩ := id V8
  have hin10 : ¬ ((0 : Int32) < 0 ∨ cl10.slots.size ≤ ((0 : Int32)).toNatClampNeg) := inb_of S10 ⟨by decide, by decide⟩
  obtain ⟨T11, h11, X11, e11, W11, st11⟩ := stI X8 hx hZ e8 Ar10 (j := (0 : Int32)) hin10 (g := (mkF m 96 #[.val (.int i), .val (.int j), .val (.int k), .val (.int sh), .val (.int pk), .val (.int qq), .val (.int v1), .val (.int v2), .val (.int sa), .val (.int sb), .val (.int sc), .val (.int s0), .val (.int s1), .val (.int s2), .val (.ref b1), .unset, .unset, .unset, .unset, .unset, .unset] [(.int s0), (.int (0 : Int32)), (.ref b8), (.ref b8)])) rfl rfl (hb hby at_96)
  refine Go.st st11 ?_
  have V11 : Arv Z h11 b8 k8 .int (3 : Int32) [(.int s0), (.int (0 : Int32)), (.int (0 : Int32))] (.int (0 : Int32)) := Arv.set Ar10 q10 S10 N10' H10 G10 rfl W11 0 rfl (Nat.le_of_ble_eq_true rfl)
  have Zs11 : n0 ≤ h11.size := Nat.le_trans Zs8 (Nat.le_of_eq W11.size.symm)
  have N11 := Fr.snoc X11 N7 gn_b8
  show Go p e below _ (T11.setTop (mkF m 97 #[.val (.int i), .val (.int j), .val (.int k), .val (.int sh), .val (.int pk), .val (.int qq), .val (.int v1), .val (.int v2), .val (.int sa), .val (.int sb), .val (.int sc), .val (.int s0), .val (.int s1), .val (.int s2), .val (.ref b1), .unset, .unset, .unset, .unset, .unset, .unset] [(.ref b8)]))
  refine Go.st (fun _ kt => XS.dup X11.here hx rfl (hb hby at_97) rfl rfl kt) ?_
  show Go p e below _ (T11.setTop (mkF m 98 #[.val (.int i), .val (.int j), .val (.int k), .val (.int sh), .val (.int pk), .val (.int qq), .val (.int v1), .val (.int v2), .val (.int sa), .val (.int sb), .val (.int sc), .val (.int s0), .val (.int s1), .val (.int s2), .val (.ref b1), .unset, .unset, .unset, .unset, .unset, .unset] [(.ref b8), (.ref b8)]))
  refine Go.st (fun _ kt => XS.iconst X11.here hx rfl (hb hby at_98) kt) ?_
  show Go p e below _ (T11.setTop (mkF m 99 #[.val (.int i), .val (.int j), .val (.int k), .val (.int sh), .val (.int pk), .val (.int qq), .val (.int v1), .val (.int v2), .val (.int sa), .val (.int sb), .val (.int sc), .val (.int s0), .val (.int s1), .val (.int s2), .val (.ref b1), .unset, .unset, .unset, .unset, .unset, .unset] [(.int (1 : Int32)), (.ref b8), (.ref b8)]))
  refine Go.st (fun _ kt => XS.iload X11.here hx rfl (hb hby at_99) rfl kt) ?_
  show Go p e below _ (T11.setTop (mkF m 101 #[.val (.int i), .val (.int j), .val (.int k), .val (.int sh), .val (.int pk), .val (.int qq), .val (.int v1), .val (.int v2), .val (.int sa), .val (.int sb), .val (.int sc), .val (.int s0), .val (.int s1), .val (.int s2), .val (.ref b1), .unset, .unset, .unset, .unset, .unset, .unset] [(.int s1), (.int (1 : Int32)), (.ref b8), (.ref b8)]))
  obtain ⟨cl12, Ar12, q12, S12, N12', H12, G12⟩ := id V11
  have hin12 : ¬ ((1 : Int32) < 0 ∨ cl12.slots.size ≤ ((1 : Int32)).toNatClampNeg) := inb_of S12 ⟨by decide, by decide⟩
  obtain ⟨T13, h13, X13, e13, W13, st13⟩ := stI X11 hx hZ e11 Ar12 (j := (1 : Int32)) hin12 (g := (mkF m 101 #[.val (.int i), .val (.int j), .val (.int k), .val (.int sh), .val (.int pk), .val (.int qq), .val (.int v1), .val (.int v2), .val (.int sa), .val (.int sb), .val (.int sc), .val (.int s0), .val (.int s1), .val (.int s2), .val (.ref b1), .unset, .unset, .unset, .unset, .unset, .unset] [(.int s1), (.int (1 : Int32)), (.ref b8), (.ref b8)])) rfl rfl (hb hby at_101)
  refine Go.st st13 ?_
  have V13 : Arv Z h13 b8 k8 .int (3 : Int32) [(.int s0), (.int s1), (.int (0 : Int32))] (.int (0 : Int32)) := Arv.set Ar12 q12 S12 N12' H12 G12 rfl W13 1 rfl (Nat.le_of_ble_eq_true rfl)
  have Zs13 : n0 ≤ h13.size := Nat.le_trans Zs11 (Nat.le_of_eq W13.size.symm)
  have N13 := Fr.snoc X13 N11 gn_b8
  show Go p e below _ (T13.setTop (mkF m 102 #[.val (.int i), .val (.int j), .val (.int k), .val (.int sh), .val (.int pk), .val (.int qq), .val (.int v1), .val (.int v2), .val (.int sa), .val (.int sb), .val (.int sc), .val (.int s0), .val (.int s1), .val (.int s2), .val (.ref b1), .unset, .unset, .unset, .unset, .unset, .unset] [(.ref b8)]))
  refine Go.st (fun _ kt => XS.dup X13.here hx rfl (hb hby at_102) rfl rfl kt) ?_
  show Go p e below _ (T13.setTop (mkF m 103 #[.val (.int i), .val (.int j), .val (.int k), .val (.int sh), .val (.int pk), .val (.int qq), .val (.int v1), .val (.int v2), .val (.int sa), .val (.int sb), .val (.int sc), .val (.int s0), .val (.int s1), .val (.int s2), .val (.ref b1), .unset, .unset, .unset, .unset, .unset, .unset] [(.ref b8), (.ref b8)]))
  refine Go.st (fun _ kt => XS.iconst X13.here hx rfl (hb hby at_103) kt) ?_
  show Go p e below _ (T13.setTop (mkF m 104 #[.val (.int i), .val (.int j), .val (.int k), .val (.int sh), .val (.int pk), .val (.int qq), .val (.int v1), .val (.int v2), .val (.int sa), .val (.int sb), .val (.int sc), .val (.int s0), .val (.int s1), .val (.int s2), .val (.ref b1), .unset, .unset, .unset, .unset, .unset, .unset] [(.int (2 : Int32)), (.ref b8), (.ref b8)]))
  refine Go.st (fun _ kt => XS.iload X13.here hx rfl (hb hby at_104) rfl kt) ?_
  show Go p e below _ (T13.setTop (mkF m 106 #[.val (.int i), .val (.int j), .val (.int k), .val (.int sh), .val (.int pk), .val (.int qq), .val (.int v1), .val (.int v2), .val (.int sa), .val (.int sb), .val (.int sc), .val (.int s0), .val (.int s1), .val (.int s2), .val (.ref b1), .unset, .unset, .unset, .unset, .unset, .unset] [(.int s2), (.int (2 : Int32)), (.ref b8), (.ref b8)]))
  obtain ⟨cl14, Ar14, q14, S14, N14', H14, G14⟩ := id V13
  have hin14 : ¬ ((2 : Int32) < 0 ∨ cl14.slots.size ≤ ((2 : Int32)).toNatClampNeg) := inb_of S14 ⟨by decide, by decide⟩
  obtain ⟨T15, h15, X15, e15, W15, st15⟩ := stI X13 hx hZ e13 Ar14 (j := (2 : Int32)) hin14 (g := (mkF m 106 #[.val (.int i), .val (.int j), .val (.int k), .val (.int sh), .val (.int pk), .val (.int qq), .val (.int v1), .val (.int v2), .val (.int sa), .val (.int sb), .val (.int sc), .val (.int s0), .val (.int s1), .val (.int s2), .val (.ref b1), .unset, .unset, .unset, .unset, .unset, .unset] [(.int s2), (.int (2 : Int32)), (.ref b8), (.ref b8)])) rfl rfl (hb hby at_106)
  refine Go.st st15 ?_
  have V15 : Arv Z h15 b8 k8 .int (3 : Int32) [(.int s0), (.int s1), (.int s2)] (.int (0 : Int32)) := Arv.set Ar14 q14 S14 N14' H14 G14 rfl W15 2 rfl (Nat.le_of_ble_eq_true rfl)
  have Zs15 : n0 ≤ h15.size := Nat.le_trans Zs13 (Nat.le_of_eq W15.size.symm)
  have N15 := Fr.snoc X15 N13 gn_b8
  show Go p e below _ (T15.setTop (mkF m 107 #[.val (.int i), .val (.int j), .val (.int k), .val (.int sh), .val (.int pk), .val (.int qq), .val (.int v1), .val (.int v2), .val (.int sa), .val (.int sb), .val (.int sc), .val (.int s0), .val (.int s1), .val (.int s2), .val (.ref b1), .unset, .unset, .unset, .unset, .unset, .unset] [(.ref b8)]))
  refine Go.st (fun _ kt => XS.astore X15.here hx rfl (hb hby at_107) rfl rfl (l' := #[.val (.int i), .val (.int j), .val (.int k), .val (.int sh), .val (.int pk), .val (.int qq), .val (.int v1), .val (.int v2), .val (.int sa), .val (.int sb), .val (.int sc), .val (.int s0), .val (.int s1), .val (.int s2), .val (.ref b1), .val (.ref b8), .unset, .unset, .unset, .unset, .unset]) rfl kt) ?_
  show Go p e below _ (T15.setTop (mkF m 109 #[.val (.int i), .val (.int j), .val (.int k), .val (.int sh), .val (.int pk), .val (.int qq), .val (.int v1), .val (.int v2), .val (.int sa), .val (.int sb), .val (.int sc), .val (.int s0), .val (.int s1), .val (.int s2), .val (.ref b1), .val (.ref b8), .unset, .unset, .unset, .unset, .unset] []))
  refine Go.st (fun _ kt => XS.bipush X15.here hx rfl (hb hby at_109) kt) ?_
  show Go p e below _ (T15.setTop (mkF m 111 #[.val (.int i), .val (.int j), .val (.int k), .val (.int sh), .val (.int pk), .val (.int qq), .val (.int v1), .val (.int v2), .val (.int sa), .val (.int sb), .val (.int sc), .val (.int s0), .val (.int s1), .val (.int s2), .val (.ref b1), .val (.ref b8), .unset, .unset, .unset, .unset, .unset] [(.int (16 : Int32))]))
  obtain ⟨T16, h16, k16, X16, e16, E16, A16, Y16, st16⟩ := newPE X15 hx hZ (hw _ (List.mem_of_getElem? (i := 3) rfl)) e15 (g := (mkF m 111 #[.val (.int i), .val (.int j), .val (.int k), .val (.int sh), .val (.int pk), .val (.int qq), .val (.int v1), .val (.int v2), .val (.int sa), .val (.int sb), .val (.int sc), .val (.int s0), .val (.int s1), .val (.int s2), .val (.ref b1), .val (.ref b8), .unset, .unset, .unset, .unset, .unset] [(.int (16 : Int32))])) rfl (hb hby at_111) rfl (by decide) (cap := 16) (by decide) (by decide) (by decide) (by decide) (ad := "[D") (by decide)
  obtain ⟨b16, g16⟩ : ∃ z, z = h15.size := ⟨_, rfl⟩
  rw [← g16] at A16 Y16 st16
  have f17 := ((((f9.ext E8).wr W11).wr W13).wr W15)
  have lt_b1_b16 : b1 < b16 := Nat.lt_of_lt_of_eq f17.lt g16.symm
  have f18 := (((Y8.wr W11).wr W13).wr W15)
  have lt_b8_b16 : b8 < b16 := Nat.lt_of_lt_of_eq f18.lt g16.symm
  have gn_b16 : n0 ≤ b16 := Nat.le_trans Zs15 (Nat.le_of_eq g16.symm)
  have Zs16 : n0 ≤ h16.size := Nat.le_trans Zs15 E16.1
  refine Go.st st16 ?_
  have V16 := Arv.new A16 (by decide)
  show Go p e below _ (T16.setTop (mkF m 113 #[.val (.int i), .val (.int j), .val (.int k), .val (.int sh), .val (.int pk), .val (.int qq), .val (.int v1), .val (.int v2), .val (.int sa), .val (.int sb), .val (.int sc), .val (.int s0), .val (.int s1), .val (.int s2), .val (.ref b1), .val (.ref b8), .unset, .unset, .unset, .unset, .unset] [(.ref b16)]))
  refine Go.st (fun _ kt => XS.astore X16.here hx rfl (hb hby at_113) rfl rfl (l' := #[.val (.int i), .val (.int j), .val (.int k), .val (.int sh), .val (.int pk), .val (.int qq), .val (.int v1), .val (.int v2), .val (.int sa), .val (.int sb), .val (.int sc), .val (.int s0), .val (.int s1), .val (.int s2), .val (.ref b1), .val (.ref b8), .val (.ref b16), .unset, .unset, .unset, .unset]) rfl kt) ?_
  show Go p e below _ (T16.setTop (mkF m 115 #[.val (.int i), .val (.int j), .val (.int k), .val (.int sh), .val (.int pk), .val (.int qq), .val (.int v1), .val (.int v2), .val (.int sa), .val (.int sb), .val (.int sc), .val (.int s0), .val (.int s1), .val (.int s2), .val (.ref b1), .val (.ref b8), .val (.ref b16), .unset, .unset, .unset, .unset] []))
  obtain ⟨T19, h19, X19, e19, E19, A19, D19, U19, st19⟩ := newO X16 hx hZ hown (hw _ (List.mem_of_getElem? (i := 4) rfl)) (hw _ (List.mem_of_getElem? (i := 5) rfl)) (hw _ (List.mem_of_getElem? (i := 6) rfl)) e16 (g := (mkF m 115 #[.val (.int i), .val (.int j), .val (.int k), .val (.int sh), .val (.int pk), .val (.int qq), .val (.int v1), .val (.int v2), .val (.int sa), .val (.int sb), .val (.int sc), .val (.int s0), .val (.int s1), .val (.int s2), .val (.ref b1), .val (.ref b8), .val (.ref b16), .unset, .unset, .unset, .unset] [])) rfl (hb hby at_115) (by decide) (by decide)
  obtain ⟨b19, g19⟩ : ∃ z, z = h16.size := ⟨_, rfl⟩
  rw [← g19] at A19 D19 U19 st19
  have f20 := (f17.ext E16)
  have lt_b1_b19 : b1 < b19 := Nat.lt_of_lt_of_eq f20.lt g19.symm
  have f21 := (f18.ext E16)
  have lt_b8_b19 : b8 < b19 := Nat.lt_of_lt_of_eq f21.lt g19.symm
  have lt_b16_b19 : b16 < b19 := Nat.lt_of_lt_of_eq Y16.lt g19.symm
  have gn_b19 : n0 ≤ b19 := Nat.le_trans Zs16 (Nat.le_of_eq g19.symm)
  have Zs19 : n0 ≤ h19.size := Nat.le_trans Zs16 E19.1
  refine Go.st st19 ?_
  have F19_variables : Fld Z h19 b19 "com/example/tributary/tributary/model/CostTable" "variables" "[I" .null := D19 (Or.inr (hw _ (List.mem_of_getElem? (i := 27) rfl))) (ty := (.array .int)) (by decide)
  have F19_sizes : Fld Z h19 b19 "com/example/tributary/tributary/model/CostTable" "sizes" "[I" .null := D19 (Or.inr (hw _ (List.mem_of_getElem? (i := 29) rfl))) (ty := (.array .int)) (by decide)
  have F19_strides : Fld Z h19 b19 "com/example/tributary/tributary/model/CostTable" "strides" "[I" .null := D19 (Or.inr (hw _ (List.mem_of_getElem? (i := 34) rfl))) (ty := (.array .int)) (by decide)
  have F19_costs : Fld Z h19 b19 "com/example/tributary/tributary/model/CostTable" "costs" "[D" .null := D19 (Or.inr (hw _ (List.mem_of_getElem? (i := 36) rfl))) (ty := (.array .double)) (by decide)
  show Go p e below _ (T19.setTop (mkF m 118 #[.val (.int i), .val (.int j), .val (.int k), .val (.int sh), .val (.int pk), .val (.int qq), .val (.int v1), .val (.int v2), .val (.int sa), .val (.int sb), .val (.int sc), .val (.int s0), .val (.int s1), .val (.int s2), .val (.ref b1), .val (.ref b8), .val (.ref b16), .unset, .unset, .unset, .unset] [(.ref b19)]))
  refine Go.st (fun _ kt => XS.dup X19.here hx rfl (hb hby at_118) rfl rfl kt) ?_
  show Go p e below _ (T19.setTop (mkF m 119 #[.val (.int i), .val (.int j), .val (.int k), .val (.int sh), .val (.int pk), .val (.int qq), .val (.int v1), .val (.int v2), .val (.int sa), .val (.int sb), .val (.int sc), .val (.int s0), .val (.int s1), .val (.int s2), .val (.ref b1), .val (.ref b8), .val (.ref b16), .unset, .unset, .unset, .unset] [(.ref b19), (.ref b19)]))
  refine Go.st (fun _ kt => XS.aload X19.here hx rfl (hb hby at_119) rfl rfl kt) ?_
  show Go p e below _ (T19.setTop (mkF m 121 #[.val (.int i), .val (.int j), .val (.int k), .val (.int sh), .val (.int pk), .val (.int qq), .val (.int v1), .val (.int v2), .val (.int sa), .val (.int sb), .val (.int sc), .val (.int s0), .val (.int s1), .val (.int s2), .val (.ref b1), .val (.ref b8), .val (.ref b16), .unset, .unset, .unset, .unset] [(.ref b1), (.ref b19), (.ref b19)]))
  refine Go.st (fun _ kt => XS.aload X19.here hx rfl (hb hby at_121) rfl rfl kt) ?_
  show Go p e below _ (T19.setTop (mkF m 123 #[.val (.int i), .val (.int j), .val (.int k), .val (.int sh), .val (.int pk), .val (.int qq), .val (.int v1), .val (.int v2), .val (.int sa), .val (.int sb), .val (.int sc), .val (.int s0), .val (.int s1), .val (.int s2), .val (.ref b1), .val (.ref b8), .val (.ref b16), .unset, .unset, .unset, .unset] [(.ref b8), (.ref b1), (.ref b19), (.ref b19)]))
  refine Go.st (fun _ kt => XS.aload X19.here hx rfl (hb hby at_123) rfl rfl kt) ?_
  show Go p e below _ (T19.setTop (mkF m 125 #[.val (.int i), .val (.int j), .val (.int k), .val (.int sh), .val (.int pk), .val (.int qq), .val (.int v1), .val (.int v2), .val (.int sa), .val (.int sb), .val (.int sc), .val (.int s0), .val (.int s1), .val (.int s2), .val (.ref b1), .val (.ref b8), .val (.ref b16), .unset, .unset, .unset, .unset] [(.ref b16), (.ref b8), (.ref b1), (.ref b19), (.ref b19)]))
  have f22 := ((((((V7.ext E8).other W11 (Nat.ne_of_lt lt_b1_b8)).other W13 (Nat.ne_of_lt lt_b1_b8)).other W15 (Nat.ne_of_lt lt_b1_b8)).ext E16).ext E19)
  have f23 := ((V15.ext E16).ext E19)
  have f24 := (V16.ext E19)
  have f25 := (f20.ext E19)
  have f26 := (f21.ext E19)
  obtain ⟨_, _, ⟨T27, L27, k27, n27⟩, -, X27, ⟨Lc27, hQ27, l27, y27, z27⟩, st27⟩ := X19.specialBack hx (y := (⟨"com/example/tributary/tributary/model/CostTable", "<init>", "([I[I[D)V"⟩ : MethodName)) rfl hown (mvT hZ (hw _ (List.mem_of_getElem? (i := 7) rfl))) (mvT hZ (hw _ (List.mem_of_getElem? (i := 8) rfl))) (mvT hZ (hw _ (List.mem_of_getElem? (i := 9) rfl))) (by decide) (backOf (W := 1) (rm1 l Z a0 hw [] b19 b1 b8 b16 k1 k8 k16 i v1 v2 s0 s1 s2 h19 n0 Zs19 A19 F19_variables F19_sizes F19_strides F19_costs f22 f23 f24 f25 f26 gn_b19 (Nat.ne_of_lt lt_b1_b19) (Nat.ne_of_lt lt_b8_b19) (Nat.ne_of_lt lt_b16_b19) hF hD.1 hD.2.2 hD.2.1) hZ (hw _ (List.mem_of_getElem? (i := 9) rfl)) (hw _ (List.mem_of_getElem? (i := 6) rfl)) (by decide) (by decide)) (g := (mkF m 125 #[.val (.int i), .val (.int j), .val (.int k), .val (.int sh), .val (.int pk), .val (.int qq), .val (.int v1), .val (.int v2), .val (.int sa), .val (.int sb), .val (.int sc), .val (.int s0), .val (.int s1), .val (.int s2), .val (.ref b1), .val (.ref b8), .val (.ref b16), .unset, .unset, .unset, .unset] [(.ref b16), (.ref b8), (.ref b1), (.ref b19), (.ref b19)])) rfl (by rw [hml]; rfl) (Steps.refl _) (a := b19) (argsL := [(.ref b1), (.ref b8), (.ref b16)]) (rest := [(.ref b19)]) (lenOf own_pd3 rfl) rfl (by show 2 * 0 + _ ≤ _; exact Nat.le_of_eq rfl) (hb hby at_125) (fun _ _ => ⟨rfl, e19, (by decide : 4 + 3 ≤ _), (by decide : 26 + 9 ≤ _)⟩)
  dsimp only [Pt.U, Pt.locs, Pt.cells, Pt.slots] at X27 l27 y27 z27 st27 hQ27
  subst l27 y27 z27
  obtain ⟨bv27, kv27, br27, kr27, rfl, N27q, K27q, hs27, ht27, G27_0, G27_1, G27_2, G27_3⟩ := hQ27
  have lt_b1_bv27 : b1 < bv27 := Nat.lt_of_lt_of_le f25.lt hs27
  have lt_b8_bv27 : b8 < bv27 := Nat.lt_of_lt_of_le f26.lt hs27
  have f28 := (Y16.ext E19)
  have lt_b16_bv27 : b16 < bv27 := Nat.lt_of_lt_of_le f28.lt hs27
  have lt_b19_bv27 : b19 < bv27 := Nat.lt_of_lt_of_le A19.lt hs27
  have gn_bv27 : n0 ≤ bv27 := Nat.le_trans Zs19 hs27
  have lt_b1_br27 : b1 < br27 := Nat.lt_of_lt_of_le f25.lt ht27
  have lt_b8_br27 : b8 < br27 := Nat.lt_of_lt_of_le f26.lt ht27
  have lt_b16_br27 : b16 < br27 := Nat.lt_of_lt_of_le f28.lt ht27
  have lt_b19_br27 : b19 < br27 := Nat.lt_of_lt_of_le A19.lt ht27
  have gn_br27 : n0 ≤ br27 := Nat.le_trans Zs19 ht27
  have Zs27 : n0 ≤ T27.heap.size := Nat.le_trans Zs19 K27q.1
  have N27 := Fr.app N15 N27q
  refine Go.tr st27 ?_
  show Go p e below _ (T27.setTop (mkF m 128 #[.val (.int i), .val (.int j), .val (.int k), .val (.int sh), .val (.int pk), .val (.int qq), .val (.int v1), .val (.int v2), .val (.int sa), .val (.int sb), .val (.int sc), .val (.int s0), .val (.int s1), .val (.int s2), .val (.ref b1), .val (.ref b8), .val (.ref b16), .unset, .unset, .unset, .unset] [(.ref b19)]))
  refine Go.st (fun _ kt => XS.astore X27.here hx rfl (hb hby at_128) rfl rfl (l' := #[.val (.int i), .val (.int j), .val (.int k), .val (.int sh), .val (.int pk), .val (.int qq), .val (.int v1), .val (.int v2), .val (.int sa), .val (.int sb), .val (.int sc), .val (.int s0), .val (.int s1), .val (.int s2), .val (.ref b1), .val (.ref b8), .val (.ref b16), .val (.ref b19), .unset, .unset, .unset]) rfl kt) ?_
  show Go p e below _ (T27.setTop (mkF m 130 #[.val (.int i), .val (.int j), .val (.int k), .val (.int sh), .val (.int pk), .val (.int qq), .val (.int v1), .val (.int v2), .val (.int sa), .val (.int sb), .val (.int sc), .val (.int s0), .val (.int s1), .val (.int s2), .val (.ref b1), .val (.ref b8), .val (.ref b16), .val (.ref b19), .unset, .unset, .unset] []))
  refine Go.st (fun _ kt => XS.iload X27.here hx rfl (hb hby at_130) rfl kt) ?_
  show Go p e below _ (T27.setTop (mkF m 132 #[.val (.int i), .val (.int j), .val (.int k), .val (.int sh), .val (.int pk), .val (.int qq), .val (.int v1), .val (.int v2), .val (.int sa), .val (.int sb), .val (.int sc), .val (.int s0), .val (.int s1), .val (.int s2), .val (.ref b1), .val (.ref b8), .val (.ref b16), .val (.ref b19), .unset, .unset, .unset] [(.int pk)]))
  refine Go.st (fun _ kt => XS.iconst X27.here hx rfl (hb hby at_132) kt) ?_
  show Go p e below _ (T27.setTop (mkF m 133 #[.val (.int i), .val (.int j), .val (.int k), .val (.int sh), .val (.int pk), .val (.int qq), .val (.int v1), .val (.int v2), .val (.int sa), .val (.int sb), .val (.int sc), .val (.int s0), .val (.int s1), .val (.int s2), .val (.ref b1), .val (.ref b8), .val (.ref b16), .val (.ref b19), .unset, .unset, .unset] [(.int (3 : Int32)), (.int pk)]))
  refine Go.st (fun _ kt => XS.iand X27.here hx rfl (hb hby at_133) rfl kt) ?_
  show Go p e below _ (T27.setTop (mkF m 134 #[.val (.int i), .val (.int j), .val (.int k), .val (.int sh), .val (.int pk), .val (.int qq), .val (.int v1), .val (.int v2), .val (.int sa), .val (.int sb), .val (.int sc), .val (.int s0), .val (.int s1), .val (.int s2), .val (.ref b1), .val (.ref b8), .val (.ref b16), .val (.ref b19), .unset, .unset, .unset] [(.int (pk &&& (3 : Int32)))]))
  refine Go.st (fun _ kt => XS.istore X27.here hx rfl (hb hby at_134) rfl (l' := #[.val (.int i), .val (.int j), .val (.int k), .val (.int sh), .val (.int pk), .val (.int qq), .val (.int v1), .val (.int v2), .val (.int sa), .val (.int sb), .val (.int sc), .val (.int s0), .val (.int s1), .val (.int s2), .val (.ref b1), .val (.ref b8), .val (.ref b16), .val (.ref b19), .val (.int (pk &&& (3 : Int32))), .unset, .unset]) rfl kt) ?_
  show Go p e below _ (T27.setTop (mkF m 136 #[.val (.int i), .val (.int j), .val (.int k), .val (.int sh), .val (.int pk), .val (.int qq), .val (.int v1), .val (.int v2), .val (.int sa), .val (.int sb), .val (.int sc), .val (.int s0), .val (.int s1), .val (.int s2), .val (.ref b1), .val (.ref b8), .val (.ref b16), .val (.ref b19), .val (.int (pk &&& (3 : Int32))), .unset, .unset] []))
  refine Go.st (fun _ kt => XS.iload X27.here hx rfl (hb hby at_136) rfl kt) ?_
  show Go p e below _ (T27.setTop (mkF m 138 #[.val (.int i), .val (.int j), .val (.int k), .val (.int sh), .val (.int pk), .val (.int qq), .val (.int v1), .val (.int v2), .val (.int sa), .val (.int sb), .val (.int sc), .val (.int s0), .val (.int s1), .val (.int s2), .val (.ref b1), .val (.ref b8), .val (.ref b16), .val (.ref b19), .val (.int (pk &&& (3 : Int32))), .unset, .unset] [(.int (pk &&& (3 : Int32)))]))
  by_cases hc138_29 : (pk &&& (3 : Int32)) = (0 : Int32)
  · refine Go.st (fun _ kt => XS.ifNo X27.here hx rfl (hb hby at_138) rfl ((if0 _ _).trans (teq hc138_29).2) kt) ?_
    show Go p e below _ (T27.setTop (mkF m 141 #[.val (.int i), .val (.int j), .val (.int k), .val (.int sh), .val (.int pk), .val (.int qq), .val (.int v1), .val (.int v2), .val (.int sa), .val (.int sb), .val (.int sc), .val (.int s0), .val (.int s1), .val (.int s2), .val (.ref b1), .val (.ref b8), .val (.ref b16), .val (.ref b19), .val (.int (pk &&& (3 : Int32))), .unset, .unset] []))
    refine Go.st (fun _ kt => XS.iloadN X27.here hx rfl (hb hby at_141) rfl kt) ?_
    show Go p e below _ (T27.setTop (mkF m 142 #[.val (.int i), .val (.int j), .val (.int k), .val (.int sh), .val (.int pk), .val (.int qq), .val (.int v1), .val (.int v2), .val (.int sa), .val (.int sb), .val (.int sc), .val (.int s0), .val (.int s1), .val (.int s2), .val (.ref b1), .val (.ref b8), .val (.ref b16), .val (.ref b19), .val (.int (pk &&& (3 : Int32))), .unset, .unset] [(.int i)]))
    refine Go.st (fun _ kt => XS.istore X27.here hx rfl (hb hby at_142) rfl (l' := #[.val (.int i), .val (.int j), .val (.int k), .val (.int sh), .val (.int pk), .val (.int qq), .val (.int v1), .val (.int v2), .val (.int sa), .val (.int sb), .val (.int sc), .val (.int s0), .val (.int s1), .val (.int s2), .val (.ref b1), .val (.ref b8), .val (.ref b16), .val (.ref b19), .val (.int (pk &&& (3 : Int32))), .val (.int i), .unset]) rfl kt) ?_
    show Go p e below _ (T27.setTop (mkF m 144 #[.val (.int i), .val (.int j), .val (.int k), .val (.int sh), .val (.int pk), .val (.int qq), .val (.int v1), .val (.int v2), .val (.int sa), .val (.int sb), .val (.int sc), .val (.int s0), .val (.int s1), .val (.int s2), .val (.ref b1), .val (.ref b8), .val (.ref b16), .val (.ref b19), .val (.int (pk &&& (3 : Int32))), .val (.int i), .unset] []))
    refine Go.st (fun _ kt => XS.goto X27.here hx rfl (pc0 := 144) (pc' := 177) rfl (hb hby at_144) (by decide) (by decide) kt) ?_
    show Go p e below _ (T27.setTop (mkF m 177 #[.val (.int i), .val (.int j), .val (.int k), .val (.int sh), .val (.int pk), .val (.int qq), .val (.int v1), .val (.int v2), .val (.int sa), .val (.int sb), .val (.int sc), .val (.int s0), .val (.int s1), .val (.int s2), .val (.ref b1), .val (.ref b8), .val (.ref b16), .val (.ref b19), .val (.int (pk &&& (3 : Int32))), .val (.int i), .unset] []))
    refine Go.st (fun _ kt => XS.iload X27.here hx rfl (hb hby at_177) rfl kt) ?_
    show Go p e below _ (T27.setTop (mkF m 179 #[.val (.int i), .val (.int j), .val (.int k), .val (.int sh), .val (.int pk), .val (.int qq), .val (.int v1), .val (.int v2), .val (.int sa), .val (.int sb), .val (.int sc), .val (.int s0), .val (.int s1), .val (.int s2), .val (.ref b1), .val (.ref b8), .val (.ref b16), .val (.ref b19), .val (.int (pk &&& (3 : Int32))), .val (.int i), .unset] [(.int i)]))
    refine Go.st (fun _ kt => XS.iloadN X27.here hx rfl (hb hby at_179) rfl kt) ?_
    show Go p e below _ (T27.setTop (mkF m 180 #[.val (.int i), .val (.int j), .val (.int k), .val (.int sh), .val (.int pk), .val (.int qq), .val (.int v1), .val (.int v2), .val (.int sa), .val (.int sb), .val (.int sc), .val (.int s0), .val (.int s1), .val (.int s2), .val (.ref b1), .val (.ref b8), .val (.ref b16), .val (.ref b19), .val (.int (pk &&& (3 : Int32))), .val (.int i), .unset] [(.int i), (.int i)]))
    refine Go.st (fun _ kt => XS.icmpNo X27.here hx rfl (hb hby at_180) rfl (teq (rfl : i = i)).2 kt) ?_
    show Go p e below _ (T27.setTop (mkF m 183 #[.val (.int i), .val (.int j), .val (.int k), .val (.int sh), .val (.int pk), .val (.int qq), .val (.int v1), .val (.int v2), .val (.int sa), .val (.int sb), .val (.int sc), .val (.int s0), .val (.int s1), .val (.int s2), .val (.ref b1), .val (.ref b8), .val (.ref b16), .val (.ref b19), .val (.int (pk &&& (3 : Int32))), .val (.int i), .unset] []))
    refine Go.st (fun _ kt => XS.iload X27.here hx rfl (hb hby at_183) rfl kt) ?_
    show Go p e below _ (T27.setTop (mkF m 185 #[.val (.int i), .val (.int j), .val (.int k), .val (.int sh), .val (.int pk), .val (.int qq), .val (.int v1), .val (.int v2), .val (.int sa), .val (.int sb), .val (.int sc), .val (.int s0), .val (.int s1), .val (.int s2), .val (.ref b1), .val (.ref b8), .val (.ref b16), .val (.ref b19), .val (.int (pk &&& (3 : Int32))), .val (.int i), .unset] [(.int s1)]))
    refine Go.st (fun _ kt => XS.iload X27.here hx rfl (hb hby at_185) rfl kt) ?_
    show Go p e below _ (T27.setTop (mkF m 187 #[.val (.int i), .val (.int j), .val (.int k), .val (.int sh), .val (.int pk), .val (.int qq), .val (.int v1), .val (.int v2), .val (.int sa), .val (.int sb), .val (.int sc), .val (.int s0), .val (.int s1), .val (.int s2), .val (.ref b1), .val (.ref b8), .val (.ref b16), .val (.ref b19), .val (.int (pk &&& (3 : Int32))), .val (.int i), .unset] [(.int s2), (.int s1)]))
    refine Go.st (fun _ kt => XS.imul X27.here hx rfl (hb hby at_187) rfl kt) ?_
    show Go p e below _ (T27.setTop (mkF m 188 #[.val (.int i), .val (.int j), .val (.int k), .val (.int sh), .val (.int pk), .val (.int qq), .val (.int v1), .val (.int v2), .val (.int sa), .val (.int sb), .val (.int sc), .val (.int s0), .val (.int s1), .val (.int s2), .val (.ref b1), .val (.ref b8), .val (.ref b16), .val (.ref b19), .val (.int (pk &&& (3 : Int32))), .val (.int i), .unset] [(.int (s1 * s2))]))
    refine Go.st (fun _ kt => XS.istore X27.here hx rfl (hb hby at_188) rfl (l' := #[.val (.int i), .val (.int j), .val (.int k), .val (.int sh), .val (.int pk), .val (.int qq), .val (.int v1), .val (.int v2), .val (.int sa), .val (.int sb), .val (.int sc), .val (.int s0), .val (.int s1), .val (.int s2), .val (.ref b1), .val (.ref b8), .val (.ref b16), .val (.ref b19), .val (.int (pk &&& (3 : Int32))), .val (.int i), .val (.int (s1 * s2))]) rfl kt) ?_
    show Go p e below _ (T27.setTop (mkF m 190 #[.val (.int i), .val (.int j), .val (.int k), .val (.int sh), .val (.int pk), .val (.int qq), .val (.int v1), .val (.int v2), .val (.int sa), .val (.int sb), .val (.int sc), .val (.int s0), .val (.int s1), .val (.int s2), .val (.ref b1), .val (.ref b8), .val (.ref b16), .val (.ref b19), .val (.int (pk &&& (3 : Int32))), .val (.int i), .val (.int (s1 * s2))] []))
    refine Go.st (fun _ kt => XS.goto X27.here hx rfl (pc0 := 190) (pc' := 223) rfl (hb hby at_190) (by decide) (by decide) kt) ?_
    show Go p e below _ (T27.setTop (mkF m 223 #[.val (.int i), .val (.int j), .val (.int k), .val (.int sh), .val (.int pk), .val (.int qq), .val (.int v1), .val (.int v2), .val (.int sa), .val (.int sb), .val (.int sc), .val (.int s0), .val (.int s1), .val (.int s2), .val (.ref b1), .val (.ref b8), .val (.ref b16), .val (.ref b19), .val (.int (pk &&& (3 : Int32))), .val (.int i), .val (.int (s1 * s2))] []))
    refine Go.st (fun _ kt => XS.aload X27.here hx rfl (hb hby at_223) rfl rfl kt) ?_
    show Go p e below _ (T27.setTop (mkF m 225 #[.val (.int i), .val (.int j), .val (.int k), .val (.int sh), .val (.int pk), .val (.int qq), .val (.int v1), .val (.int v2), .val (.int sa), .val (.int sb), .val (.int sc), .val (.int s0), .val (.int s1), .val (.int s2), .val (.ref b1), .val (.ref b8), .val (.ref b16), .val (.ref b19), .val (.int (pk &&& (3 : Int32))), .val (.int i), .val (.int (s1 * s2))] [(.ref b19)]))
    refine Go.st (fun _ kt => XS.iload X27.here hx rfl (hb hby at_225) rfl kt) ?_
    show Go p e below _ (T27.setTop (mkF m 227 #[.val (.int i), .val (.int j), .val (.int k), .val (.int sh), .val (.int pk), .val (.int qq), .val (.int v1), .val (.int v2), .val (.int sa), .val (.int sb), .val (.int sc), .val (.int s0), .val (.int s1), .val (.int s2), .val (.ref b1), .val (.ref b8), .val (.ref b16), .val (.ref b19), .val (.int (pk &&& (3 : Int32))), .val (.int i), .val (.int (s1 * s2))] [(.int i), (.ref b19)]))
    have f31 := (A19.keep K27q)
    obtain ⟨cq30, kq30, q30a, q30b, q30c⟩ := isOf hZ rfl f31
    obtain ⟨_, _, ⟨T30, L30, k30, n30⟩, -, X30, ⟨Lc30, hQ30, l30, y30, z30⟩, st30⟩ := X27.virtualBack hx (y := (⟨"com/example/tributary/tributary/model/CostTable", "stride", "(I)I"⟩ : MethodName)) (z := (⟨"com/example/tributary/tributary/model/CostTable", "stride", "(I)I"⟩ : MethodName)) hown (mvT hZ (hw _ (List.mem_of_getElem? (i := 37) rfl))) (mvT hZ (hw _ (List.mem_of_getElem? (i := 38) rfl))) (notFace_of_selects (args := #[]) (mvT hZ (hw _ (List.mem_of_getElem? (i := 40) rfl)))) (mvT hZ (hw _ (List.mem_of_getElem? (i := 40) rfl))) (mvT hZ (hw _ (List.mem_of_getElem? (i := 39) rfl))) (by decide) (backOf (W := 0) (rm5 l Z a0 hw [] b19 i bv27 kv27 br27 kr27 i v1 v2 (((1 : Int32) * s2) * s1) ((1 : Int32) * s2) (1 : Int32) T27.heap n0 Zs27 G27_0 G27_1 G27_2 G27_3) hZ (hw _ (List.mem_of_getElem? (i := 41) rfl)) (hw _ (List.mem_of_getElem? (i := 6) rfl)) (by decide) (by decide)) q30a q30c (g := (mkF m 227 #[.val (.int i), .val (.int j), .val (.int k), .val (.int sh), .val (.int pk), .val (.int qq), .val (.int v1), .val (.int v2), .val (.int sa), .val (.int sb), .val (.int sc), .val (.int s0), .val (.int s1), .val (.int s2), .val (.ref b1), .val (.ref b8), .val (.ref b16), .val (.ref b19), .val (.int (pk &&& (3 : Int32))), .val (.int i), .val (.int (s1 * s2))] [(.int i), (.ref b19)])) rfl (by rw [hml]; rfl) (Steps.refl _) (argsL := [(.int i)]) (rest := []) (lenOf own_pd4 rfl) rfl (by show 2 * 0 + _ ≤ _; exact Nat.le_of_eq rfl) (hb hby at_227) (fun _ _ => ⟨rfl, rfl, (by decide : 7 + 0 ≤ _), (by decide : 35 + 0 ≤ _)⟩)
    dsimp only [Pt.U, Pt.locs, Pt.cells, Pt.slots] at X30 l30 y30 z30 st30 hQ30
    subst l30 y30 z30
    obtain ⟨rfl, N30q, e30⟩ := hQ30
    have N30 := Fr.app N27 N30q
    refine Go.tr st30 ?_
    show Go p e below _ (T30.setTop (mkF m 230 #[.val (.int i), .val (.int j), .val (.int k), .val (.int sh), .val (.int pk), .val (.int qq), .val (.int v1), .val (.int v2), .val (.int sa), .val (.int sb), .val (.int sc), .val (.int s0), .val (.int s1), .val (.int s2), .val (.ref b1), .val (.ref b8), .val (.ref b16), .val (.ref b19), .val (.int (pk &&& (3 : Int32))), .val (.int i), .val (.int (s1 * s2))] [(.int (own_st i i v1 v2 (((1 : Int32) * s2) * s1) ((1 : Int32) * s2) (1 : Int32)))]))
    refine Go.st (fun _ kt => XS.iload X30.here hx rfl (hb hby at_230) rfl kt) ?_
    show Go p e below _ (T30.setTop (mkF m 232 #[.val (.int i), .val (.int j), .val (.int k), .val (.int sh), .val (.int pk), .val (.int qq), .val (.int v1), .val (.int v2), .val (.int sa), .val (.int sb), .val (.int sc), .val (.int s0), .val (.int s1), .val (.int s2), .val (.ref b1), .val (.ref b8), .val (.ref b16), .val (.ref b19), .val (.int (pk &&& (3 : Int32))), .val (.int i), .val (.int (s1 * s2))] [(.int (s1 * s2)), (.int (own_st i i v1 v2 (((1 : Int32) * s2) * s1) ((1 : Int32) * s2) (1 : Int32)))]))
    refine Go.st (fun _ kt => XS.icmpNo X30.here hx rfl (hb hby at_232) rfl (teq (by rw [own_flip]; simp [hc138_29, hD.1, hD.2.1, hD.2.2, hD'.1, hD'.2.1, hD'.2.2, Int32.mul_comm])).2 kt) ?_
    show Go p e below _ (T30.setTop (mkF m 235 #[.val (.int i), .val (.int j), .val (.int k), .val (.int sh), .val (.int pk), .val (.int qq), .val (.int v1), .val (.int v2), .val (.int sa), .val (.int sb), .val (.int sc), .val (.int s0), .val (.int s1), .val (.int s2), .val (.ref b1), .val (.ref b8), .val (.ref b16), .val (.ref b19), .val (.int (pk &&& (3 : Int32))), .val (.int i), .val (.int (s1 * s2))] []))
    refine Go.st (fun _ kt => XS.iconst X30.here hx rfl (hb hby at_235) kt) ?_
    show Go p e below _ (T30.setTop (mkF m 236 #[.val (.int i), .val (.int j), .val (.int k), .val (.int sh), .val (.int pk), .val (.int qq), .val (.int v1), .val (.int v2), .val (.int sa), .val (.int sb), .val (.int sc), .val (.int s0), .val (.int s1), .val (.int s2), .val (.ref b1), .val (.ref b8), .val (.ref b16), .val (.ref b19), .val (.int (pk &&& (3 : Int32))), .val (.int i), .val (.int (s1 * s2))] [(.int (1 : Int32))]))
    refine Go.st (fun _ kt => XS.goto X30.here hx rfl (pc0 := 236) (pc' := 240) rfl (hb hby at_236) (by decide) (by decide) kt) ?_
    show Go p e below _ (T30.setTop (mkF m 240 #[.val (.int i), .val (.int j), .val (.int k), .val (.int sh), .val (.int pk), .val (.int qq), .val (.int v1), .val (.int v2), .val (.int sa), .val (.int sb), .val (.int sc), .val (.int s0), .val (.int s1), .val (.int s2), .val (.ref b1), .val (.ref b8), .val (.ref b16), .val (.ref b19), .val (.int (pk &&& (3 : Int32))), .val (.int i), .val (.int (s1 * s2))] [(.int (1 : Int32))]))
    refine Go.retN X30 hx (t := .boolean) Bd.returns (by simp) (BodyLoose.notSynchronized Bd) (hb hby at_240) (Q := (Q_rm0 Z i j k sh pk qq h0 n0)) (by decide) (by decide) ?_
    show (Q_rm0 Z i j k sh pk qq h0 n0) _ T30.heap _
    rw [e30]
    exact ⟨rfl, N30⟩
  · refine Go.st (fun _ kt => XS.ifYes X27.here hx rfl (pc0 := 138) (pc' := 147) rfl (hb hby at_138) rfl ((if0 _ _).trans (feq hc138_29).2) (by decide) (by decide) kt) ?_
    show Go p e below _ (T27.setTop (mkF m 147 #[.val (.int i), .val (.int j), .val (.int k), .val (.int sh), .val (.int pk), .val (.int qq), .val (.int v1), .val (.int v2), .val (.int sa), .val (.int sb), .val (.int sc), .val (.int s0), .val (.int s1), .val (.int s2), .val (.ref b1), .val (.ref b8), .val (.ref b16), .val (.ref b19), .val (.int (pk &&& (3 : Int32))), .unset, .unset] []))
    refine Go.st (fun _ kt => XS.iload X27.here hx rfl (hb hby at_147) rfl kt) ?_
    show Go p e below _ (T27.setTop (mkF m 149 #[.val (.int i), .val (.int j), .val (.int k), .val (.int sh), .val (.int pk), .val (.int qq), .val (.int v1), .val (.int v2), .val (.int sa), .val (.int sb), .val (.int sc), .val (.int s0), .val (.int s1), .val (.int s2), .val (.ref b1), .val (.ref b8), .val (.ref b16), .val (.ref b19), .val (.int (pk &&& (3 : Int32))), .unset, .unset] [(.int (pk &&& (3 : Int32)))]))
    refine Go.st (fun _ kt => XS.iconst X27.here hx rfl (hb hby at_149) kt) ?_
    show Go p e below _ (T27.setTop (mkF m 150 #[.val (.int i), .val (.int j), .val (.int k), .val (.int sh), .val (.int pk), .val (.int qq), .val (.int v1), .val (.int v2), .val (.int sa), .val (.int sb), .val (.int sc), .val (.int s0), .val (.int s1), .val (.int s2), .val (.ref b1), .val (.ref b8), .val (.ref b16), .val (.ref b19), .val (.int (pk &&& (3 : Int32))), .unset, .unset] [(.int (1 : Int32)), (.int (pk &&& (3 : Int32)))]))
    by_cases hc150_32 : (pk &&& (3 : Int32)) = (1 : Int32)
    · refine Go.st (fun _ kt => XS.icmpNo X27.here hx rfl (hb hby at_150) rfl (teq hc150_32).2 kt) ?_
      show Go p e below _ (T27.setTop (mkF m 153 #[.val (.int i), .val (.int j), .val (.int k), .val (.int sh), .val (.int pk), .val (.int qq), .val (.int v1), .val (.int v2), .val (.int sa), .val (.int sb), .val (.int sc), .val (.int s0), .val (.int s1), .val (.int s2), .val (.ref b1), .val (.ref b8), .val (.ref b16), .val (.ref b19), .val (.int (pk &&& (3 : Int32))), .unset, .unset] []))
      refine Go.st (fun _ kt => XS.iload X27.here hx rfl (hb hby at_153) rfl kt) ?_
      show Go p e below _ (T27.setTop (mkF m 155 #[.val (.int i), .val (.int j), .val (.int k), .val (.int sh), .val (.int pk), .val (.int qq), .val (.int v1), .val (.int v2), .val (.int sa), .val (.int sb), .val (.int sc), .val (.int s0), .val (.int s1), .val (.int s2), .val (.ref b1), .val (.ref b8), .val (.ref b16), .val (.ref b19), .val (.int (pk &&& (3 : Int32))), .unset, .unset] [(.int v1)]))
      refine Go.st (fun _ kt => XS.istore X27.here hx rfl (hb hby at_155) rfl (l' := #[.val (.int i), .val (.int j), .val (.int k), .val (.int sh), .val (.int pk), .val (.int qq), .val (.int v1), .val (.int v2), .val (.int sa), .val (.int sb), .val (.int sc), .val (.int s0), .val (.int s1), .val (.int s2), .val (.ref b1), .val (.ref b8), .val (.ref b16), .val (.ref b19), .val (.int (pk &&& (3 : Int32))), .val (.int v1), .unset]) rfl kt) ?_
      show Go p e below _ (T27.setTop (mkF m 157 #[.val (.int i), .val (.int j), .val (.int k), .val (.int sh), .val (.int pk), .val (.int qq), .val (.int v1), .val (.int v2), .val (.int sa), .val (.int sb), .val (.int sc), .val (.int s0), .val (.int s1), .val (.int s2), .val (.ref b1), .val (.ref b8), .val (.ref b16), .val (.ref b19), .val (.int (pk &&& (3 : Int32))), .val (.int v1), .unset] []))
      refine Go.st (fun _ kt => XS.goto X27.here hx rfl (pc0 := 157) (pc' := 177) rfl (hb hby at_157) (by decide) (by decide) kt) ?_
      show Go p e below _ (T27.setTop (mkF m 177 #[.val (.int i), .val (.int j), .val (.int k), .val (.int sh), .val (.int pk), .val (.int qq), .val (.int v1), .val (.int v2), .val (.int sa), .val (.int sb), .val (.int sc), .val (.int s0), .val (.int s1), .val (.int s2), .val (.ref b1), .val (.ref b8), .val (.ref b16), .val (.ref b19), .val (.int (pk &&& (3 : Int32))), .val (.int v1), .unset] []))
      refine Go.st (fun _ kt => XS.iload X27.here hx rfl (hb hby at_177) rfl kt) ?_
      show Go p e below _ (T27.setTop (mkF m 179 #[.val (.int i), .val (.int j), .val (.int k), .val (.int sh), .val (.int pk), .val (.int qq), .val (.int v1), .val (.int v2), .val (.int sa), .val (.int sb), .val (.int sc), .val (.int s0), .val (.int s1), .val (.int s2), .val (.ref b1), .val (.ref b8), .val (.ref b16), .val (.ref b19), .val (.int (pk &&& (3 : Int32))), .val (.int v1), .unset] [(.int v1)]))
      refine Go.st (fun _ kt => XS.iloadN X27.here hx rfl (hb hby at_179) rfl kt) ?_
      show Go p e below _ (T27.setTop (mkF m 180 #[.val (.int i), .val (.int j), .val (.int k), .val (.int sh), .val (.int pk), .val (.int qq), .val (.int v1), .val (.int v2), .val (.int sa), .val (.int sb), .val (.int sc), .val (.int s0), .val (.int s1), .val (.int s2), .val (.ref b1), .val (.ref b8), .val (.ref b16), .val (.ref b19), .val (.int (pk &&& (3 : Int32))), .val (.int v1), .unset] [(.int i), (.int v1)]))
      refine Go.st (fun _ kt => XS.icmpYes X27.here hx rfl (pc0 := 180) (pc' := 193) rfl (hb hby at_180) rfl (feq hD'.1).2 (by decide) (by decide) kt) ?_
      show Go p e below _ (T27.setTop (mkF m 193 #[.val (.int i), .val (.int j), .val (.int k), .val (.int sh), .val (.int pk), .val (.int qq), .val (.int v1), .val (.int v2), .val (.int sa), .val (.int sb), .val (.int sc), .val (.int s0), .val (.int s1), .val (.int s2), .val (.ref b1), .val (.ref b8), .val (.ref b16), .val (.ref b19), .val (.int (pk &&& (3 : Int32))), .val (.int v1), .unset] []))
      refine Go.st (fun _ kt => XS.iload X27.here hx rfl (hb hby at_193) rfl kt) ?_
      show Go p e below _ (T27.setTop (mkF m 195 #[.val (.int i), .val (.int j), .val (.int k), .val (.int sh), .val (.int pk), .val (.int qq), .val (.int v1), .val (.int v2), .val (.int sa), .val (.int sb), .val (.int sc), .val (.int s0), .val (.int s1), .val (.int s2), .val (.ref b1), .val (.ref b8), .val (.ref b16), .val (.ref b19), .val (.int (pk &&& (3 : Int32))), .val (.int v1), .unset] [(.int v1)]))
      refine Go.st (fun _ kt => XS.iload X27.here hx rfl (hb hby at_195) rfl kt) ?_
      show Go p e below _ (T27.setTop (mkF m 197 #[.val (.int i), .val (.int j), .val (.int k), .val (.int sh), .val (.int pk), .val (.int qq), .val (.int v1), .val (.int v2), .val (.int sa), .val (.int sb), .val (.int sc), .val (.int s0), .val (.int s1), .val (.int s2), .val (.ref b1), .val (.ref b8), .val (.ref b16), .val (.ref b19), .val (.int (pk &&& (3 : Int32))), .val (.int v1), .unset] [(.int v1), (.int v1)]))
      refine Go.st (fun _ kt => XS.icmpNo X27.here hx rfl (hb hby at_197) rfl (teq (rfl : v1 = v1)).2 kt) ?_
      show Go p e below _ (T27.setTop (mkF m 200 #[.val (.int i), .val (.int j), .val (.int k), .val (.int sh), .val (.int pk), .val (.int qq), .val (.int v1), .val (.int v2), .val (.int sa), .val (.int sb), .val (.int sc), .val (.int s0), .val (.int s1), .val (.int s2), .val (.ref b1), .val (.ref b8), .val (.ref b16), .val (.ref b19), .val (.int (pk &&& (3 : Int32))), .val (.int v1), .unset] []))
      refine Go.st (fun _ kt => XS.iload X27.here hx rfl (hb hby at_200) rfl kt) ?_
      show Go p e below _ (T27.setTop (mkF m 202 #[.val (.int i), .val (.int j), .val (.int k), .val (.int sh), .val (.int pk), .val (.int qq), .val (.int v1), .val (.int v2), .val (.int sa), .val (.int sb), .val (.int sc), .val (.int s0), .val (.int s1), .val (.int s2), .val (.ref b1), .val (.ref b8), .val (.ref b16), .val (.ref b19), .val (.int (pk &&& (3 : Int32))), .val (.int v1), .unset] [(.int s2)]))
      refine Go.st (fun _ kt => XS.istore X27.here hx rfl (hb hby at_202) rfl (l' := #[.val (.int i), .val (.int j), .val (.int k), .val (.int sh), .val (.int pk), .val (.int qq), .val (.int v1), .val (.int v2), .val (.int sa), .val (.int sb), .val (.int sc), .val (.int s0), .val (.int s1), .val (.int s2), .val (.ref b1), .val (.ref b8), .val (.ref b16), .val (.ref b19), .val (.int (pk &&& (3 : Int32))), .val (.int v1), .val (.int s2)]) rfl kt) ?_
      show Go p e below _ (T27.setTop (mkF m 204 #[.val (.int i), .val (.int j), .val (.int k), .val (.int sh), .val (.int pk), .val (.int qq), .val (.int v1), .val (.int v2), .val (.int sa), .val (.int sb), .val (.int sc), .val (.int s0), .val (.int s1), .val (.int s2), .val (.ref b1), .val (.ref b8), .val (.ref b16), .val (.ref b19), .val (.int (pk &&& (3 : Int32))), .val (.int v1), .val (.int s2)] []))
      refine Go.st (fun _ kt => XS.goto X27.here hx rfl (pc0 := 204) (pc' := 223) rfl (hb hby at_204) (by decide) (by decide) kt) ?_
      show Go p e below _ (T27.setTop (mkF m 223 #[.val (.int i), .val (.int j), .val (.int k), .val (.int sh), .val (.int pk), .val (.int qq), .val (.int v1), .val (.int v2), .val (.int sa), .val (.int sb), .val (.int sc), .val (.int s0), .val (.int s1), .val (.int s2), .val (.ref b1), .val (.ref b8), .val (.ref b16), .val (.ref b19), .val (.int (pk &&& (3 : Int32))), .val (.int v1), .val (.int s2)] []))
      refine Go.st (fun _ kt => XS.aload X27.here hx rfl (hb hby at_223) rfl rfl kt) ?_
      show Go p e below _ (T27.setTop (mkF m 225 #[.val (.int i), .val (.int j), .val (.int k), .val (.int sh), .val (.int pk), .val (.int qq), .val (.int v1), .val (.int v2), .val (.int sa), .val (.int sb), .val (.int sc), .val (.int s0), .val (.int s1), .val (.int s2), .val (.ref b1), .val (.ref b8), .val (.ref b16), .val (.ref b19), .val (.int (pk &&& (3 : Int32))), .val (.int v1), .val (.int s2)] [(.ref b19)]))
      refine Go.st (fun _ kt => XS.iload X27.here hx rfl (hb hby at_225) rfl kt) ?_
      show Go p e below _ (T27.setTop (mkF m 227 #[.val (.int i), .val (.int j), .val (.int k), .val (.int sh), .val (.int pk), .val (.int qq), .val (.int v1), .val (.int v2), .val (.int sa), .val (.int sb), .val (.int sc), .val (.int s0), .val (.int s1), .val (.int s2), .val (.ref b1), .val (.ref b8), .val (.ref b16), .val (.ref b19), .val (.int (pk &&& (3 : Int32))), .val (.int v1), .val (.int s2)] [(.int v1), (.ref b19)]))
      have f34 := (A19.keep K27q)
      obtain ⟨cq33, kq33, q33a, q33b, q33c⟩ := isOf hZ rfl f34
      obtain ⟨_, _, ⟨T33, L33, k33, n33⟩, -, X33, ⟨Lc33, hQ33, l33, y33, z33⟩, st33⟩ := X27.virtualBack hx (y := (⟨"com/example/tributary/tributary/model/CostTable", "stride", "(I)I"⟩ : MethodName)) (z := (⟨"com/example/tributary/tributary/model/CostTable", "stride", "(I)I"⟩ : MethodName)) hown (mvT hZ (hw _ (List.mem_of_getElem? (i := 37) rfl))) (mvT hZ (hw _ (List.mem_of_getElem? (i := 38) rfl))) (notFace_of_selects (args := #[]) (mvT hZ (hw _ (List.mem_of_getElem? (i := 40) rfl)))) (mvT hZ (hw _ (List.mem_of_getElem? (i := 40) rfl))) (mvT hZ (hw _ (List.mem_of_getElem? (i := 39) rfl))) (by decide) (backOf (W := 0) (rm5 l Z a0 hw [] b19 v1 bv27 kv27 br27 kr27 i v1 v2 (((1 : Int32) * s2) * s1) ((1 : Int32) * s2) (1 : Int32) T27.heap n0 Zs27 G27_0 G27_1 G27_2 G27_3) hZ (hw _ (List.mem_of_getElem? (i := 41) rfl)) (hw _ (List.mem_of_getElem? (i := 6) rfl)) (by decide) (by decide)) q33a q33c (g := (mkF m 227 #[.val (.int i), .val (.int j), .val (.int k), .val (.int sh), .val (.int pk), .val (.int qq), .val (.int v1), .val (.int v2), .val (.int sa), .val (.int sb), .val (.int sc), .val (.int s0), .val (.int s1), .val (.int s2), .val (.ref b1), .val (.ref b8), .val (.ref b16), .val (.ref b19), .val (.int (pk &&& (3 : Int32))), .val (.int v1), .val (.int s2)] [(.int v1), (.ref b19)])) rfl (by rw [hml]; rfl) (Steps.refl _) (argsL := [(.int v1)]) (rest := []) (lenOf own_pd4 rfl) rfl (by show 2 * 0 + _ ≤ _; exact Nat.le_of_eq rfl) (hb hby at_227) (fun _ _ => ⟨rfl, rfl, (by decide : 7 + 0 ≤ _), (by decide : 35 + 0 ≤ _)⟩)
      dsimp only [Pt.U, Pt.locs, Pt.cells, Pt.slots] at X33 l33 y33 z33 st33 hQ33
      subst l33 y33 z33
      obtain ⟨rfl, N33q, e33⟩ := hQ33
      have N33 := Fr.app N27 N33q
      refine Go.tr st33 ?_
      show Go p e below _ (T33.setTop (mkF m 230 #[.val (.int i), .val (.int j), .val (.int k), .val (.int sh), .val (.int pk), .val (.int qq), .val (.int v1), .val (.int v2), .val (.int sa), .val (.int sb), .val (.int sc), .val (.int s0), .val (.int s1), .val (.int s2), .val (.ref b1), .val (.ref b8), .val (.ref b16), .val (.ref b19), .val (.int (pk &&& (3 : Int32))), .val (.int v1), .val (.int s2)] [(.int (own_st v1 i v1 v2 (((1 : Int32) * s2) * s1) ((1 : Int32) * s2) (1 : Int32)))]))
      refine Go.st (fun _ kt => XS.iload X33.here hx rfl (hb hby at_230) rfl kt) ?_
      show Go p e below _ (T33.setTop (mkF m 232 #[.val (.int i), .val (.int j), .val (.int k), .val (.int sh), .val (.int pk), .val (.int qq), .val (.int v1), .val (.int v2), .val (.int sa), .val (.int sb), .val (.int sc), .val (.int s0), .val (.int s1), .val (.int s2), .val (.ref b1), .val (.ref b8), .val (.ref b16), .val (.ref b19), .val (.int (pk &&& (3 : Int32))), .val (.int v1), .val (.int s2)] [(.int s2), (.int (own_st v1 i v1 v2 (((1 : Int32) * s2) * s1) ((1 : Int32) * s2) (1 : Int32)))]))
      refine Go.st (fun _ kt => XS.icmpNo X33.here hx rfl (hb hby at_232) rfl (teq (by rw [own_flip]; simp [hc138_29, hc150_32, hD.1, hD.2.1, hD.2.2, hD'.1, hD'.2.1, hD'.2.2, Int32.mul_comm])).2 kt) ?_
      show Go p e below _ (T33.setTop (mkF m 235 #[.val (.int i), .val (.int j), .val (.int k), .val (.int sh), .val (.int pk), .val (.int qq), .val (.int v1), .val (.int v2), .val (.int sa), .val (.int sb), .val (.int sc), .val (.int s0), .val (.int s1), .val (.int s2), .val (.ref b1), .val (.ref b8), .val (.ref b16), .val (.ref b19), .val (.int (pk &&& (3 : Int32))), .val (.int v1), .val (.int s2)] []))
      refine Go.st (fun _ kt => XS.iconst X33.here hx rfl (hb hby at_235) kt) ?_
      show Go p e below _ (T33.setTop (mkF m 236 #[.val (.int i), .val (.int j), .val (.int k), .val (.int sh), .val (.int pk), .val (.int qq), .val (.int v1), .val (.int v2), .val (.int sa), .val (.int sb), .val (.int sc), .val (.int s0), .val (.int s1), .val (.int s2), .val (.ref b1), .val (.ref b8), .val (.ref b16), .val (.ref b19), .val (.int (pk &&& (3 : Int32))), .val (.int v1), .val (.int s2)] [(.int (1 : Int32))]))
      refine Go.st (fun _ kt => XS.goto X33.here hx rfl (pc0 := 236) (pc' := 240) rfl (hb hby at_236) (by decide) (by decide) kt) ?_
      show Go p e below _ (T33.setTop (mkF m 240 #[.val (.int i), .val (.int j), .val (.int k), .val (.int sh), .val (.int pk), .val (.int qq), .val (.int v1), .val (.int v2), .val (.int sa), .val (.int sb), .val (.int sc), .val (.int s0), .val (.int s1), .val (.int s2), .val (.ref b1), .val (.ref b8), .val (.ref b16), .val (.ref b19), .val (.int (pk &&& (3 : Int32))), .val (.int v1), .val (.int s2)] [(.int (1 : Int32))]))
      refine Go.retN X33 hx (t := .boolean) Bd.returns (by simp) (BodyLoose.notSynchronized Bd) (hb hby at_240) (Q := (Q_rm0 Z i j k sh pk qq h0 n0)) (by decide) (by decide) ?_
      show (Q_rm0 Z i j k sh pk qq h0 n0) _ T33.heap _
      rw [e33]
      exact ⟨rfl, N33⟩
    · refine Go.st (fun _ kt => XS.icmpYes X27.here hx rfl (pc0 := 150) (pc' := 160) rfl (hb hby at_150) rfl (feq hc150_32).2 (by decide) (by decide) kt) ?_
      show Go p e below _ (T27.setTop (mkF m 160 #[.val (.int i), .val (.int j), .val (.int k), .val (.int sh), .val (.int pk), .val (.int qq), .val (.int v1), .val (.int v2), .val (.int sa), .val (.int sb), .val (.int sc), .val (.int s0), .val (.int s1), .val (.int s2), .val (.ref b1), .val (.ref b8), .val (.ref b16), .val (.ref b19), .val (.int (pk &&& (3 : Int32))), .unset, .unset] []))
      refine Go.st (fun _ kt => XS.iload X27.here hx rfl (hb hby at_160) rfl kt) ?_
      show Go p e below _ (T27.setTop (mkF m 162 #[.val (.int i), .val (.int j), .val (.int k), .val (.int sh), .val (.int pk), .val (.int qq), .val (.int v1), .val (.int v2), .val (.int sa), .val (.int sb), .val (.int sc), .val (.int s0), .val (.int s1), .val (.int s2), .val (.ref b1), .val (.ref b8), .val (.ref b16), .val (.ref b19), .val (.int (pk &&& (3 : Int32))), .unset, .unset] [(.int (pk &&& (3 : Int32)))]))
      refine Go.st (fun _ kt => XS.iconst X27.here hx rfl (hb hby at_162) kt) ?_
      show Go p e below _ (T27.setTop (mkF m 163 #[.val (.int i), .val (.int j), .val (.int k), .val (.int sh), .val (.int pk), .val (.int qq), .val (.int v1), .val (.int v2), .val (.int sa), .val (.int sb), .val (.int sc), .val (.int s0), .val (.int s1), .val (.int s2), .val (.ref b1), .val (.ref b8), .val (.ref b16), .val (.ref b19), .val (.int (pk &&& (3 : Int32))), .unset, .unset] [(.int (2 : Int32)), (.int (pk &&& (3 : Int32)))]))
      by_cases hc163_35 : (pk &&& (3 : Int32)) = (2 : Int32)
      · refine Go.st (fun _ kt => XS.icmpNo X27.here hx rfl (hb hby at_163) rfl (teq hc163_35).2 kt) ?_
        show Go p e below _ (T27.setTop (mkF m 166 #[.val (.int i), .val (.int j), .val (.int k), .val (.int sh), .val (.int pk), .val (.int qq), .val (.int v1), .val (.int v2), .val (.int sa), .val (.int sb), .val (.int sc), .val (.int s0), .val (.int s1), .val (.int s2), .val (.ref b1), .val (.ref b8), .val (.ref b16), .val (.ref b19), .val (.int (pk &&& (3 : Int32))), .unset, .unset] []))
        refine Go.st (fun _ kt => XS.iload X27.here hx rfl (hb hby at_166) rfl kt) ?_
        show Go p e below _ (T27.setTop (mkF m 168 #[.val (.int i), .val (.int j), .val (.int k), .val (.int sh), .val (.int pk), .val (.int qq), .val (.int v1), .val (.int v2), .val (.int sa), .val (.int sb), .val (.int sc), .val (.int s0), .val (.int s1), .val (.int s2), .val (.ref b1), .val (.ref b8), .val (.ref b16), .val (.ref b19), .val (.int (pk &&& (3 : Int32))), .unset, .unset] [(.int v2)]))
        refine Go.st (fun _ kt => XS.istore X27.here hx rfl (hb hby at_168) rfl (l' := #[.val (.int i), .val (.int j), .val (.int k), .val (.int sh), .val (.int pk), .val (.int qq), .val (.int v1), .val (.int v2), .val (.int sa), .val (.int sb), .val (.int sc), .val (.int s0), .val (.int s1), .val (.int s2), .val (.ref b1), .val (.ref b8), .val (.ref b16), .val (.ref b19), .val (.int (pk &&& (3 : Int32))), .val (.int v2), .unset]) rfl kt) ?_
        show Go p e below _ (T27.setTop (mkF m 170 #[.val (.int i), .val (.int j), .val (.int k), .val (.int sh), .val (.int pk), .val (.int qq), .val (.int v1), .val (.int v2), .val (.int sa), .val (.int sb), .val (.int sc), .val (.int s0), .val (.int s1), .val (.int s2), .val (.ref b1), .val (.ref b8), .val (.ref b16), .val (.ref b19), .val (.int (pk &&& (3 : Int32))), .val (.int v2), .unset] []))
        refine Go.st (fun _ kt => XS.goto X27.here hx rfl (pc0 := 170) (pc' := 177) rfl (hb hby at_170) (by decide) (by decide) kt) ?_
        show Go p e below _ (T27.setTop (mkF m 177 #[.val (.int i), .val (.int j), .val (.int k), .val (.int sh), .val (.int pk), .val (.int qq), .val (.int v1), .val (.int v2), .val (.int sa), .val (.int sb), .val (.int sc), .val (.int s0), .val (.int s1), .val (.int s2), .val (.ref b1), .val (.ref b8), .val (.ref b16), .val (.ref b19), .val (.int (pk &&& (3 : Int32))), .val (.int v2), .unset] []))
        refine Go.st (fun _ kt => XS.iload X27.here hx rfl (hb hby at_177) rfl kt) ?_
        show Go p e below _ (T27.setTop (mkF m 179 #[.val (.int i), .val (.int j), .val (.int k), .val (.int sh), .val (.int pk), .val (.int qq), .val (.int v1), .val (.int v2), .val (.int sa), .val (.int sb), .val (.int sc), .val (.int s0), .val (.int s1), .val (.int s2), .val (.ref b1), .val (.ref b8), .val (.ref b16), .val (.ref b19), .val (.int (pk &&& (3 : Int32))), .val (.int v2), .unset] [(.int v2)]))
        refine Go.st (fun _ kt => XS.iloadN X27.here hx rfl (hb hby at_179) rfl kt) ?_
        show Go p e below _ (T27.setTop (mkF m 180 #[.val (.int i), .val (.int j), .val (.int k), .val (.int sh), .val (.int pk), .val (.int qq), .val (.int v1), .val (.int v2), .val (.int sa), .val (.int sb), .val (.int sc), .val (.int s0), .val (.int s1), .val (.int s2), .val (.ref b1), .val (.ref b8), .val (.ref b16), .val (.ref b19), .val (.int (pk &&& (3 : Int32))), .val (.int v2), .unset] [(.int i), (.int v2)]))
        refine Go.st (fun _ kt => XS.icmpYes X27.here hx rfl (pc0 := 180) (pc' := 193) rfl (hb hby at_180) rfl (feq hD'.2.2).2 (by decide) (by decide) kt) ?_
        show Go p e below _ (T27.setTop (mkF m 193 #[.val (.int i), .val (.int j), .val (.int k), .val (.int sh), .val (.int pk), .val (.int qq), .val (.int v1), .val (.int v2), .val (.int sa), .val (.int sb), .val (.int sc), .val (.int s0), .val (.int s1), .val (.int s2), .val (.ref b1), .val (.ref b8), .val (.ref b16), .val (.ref b19), .val (.int (pk &&& (3 : Int32))), .val (.int v2), .unset] []))
        refine Go.st (fun _ kt => XS.iload X27.here hx rfl (hb hby at_193) rfl kt) ?_
        show Go p e below _ (T27.setTop (mkF m 195 #[.val (.int i), .val (.int j), .val (.int k), .val (.int sh), .val (.int pk), .val (.int qq), .val (.int v1), .val (.int v2), .val (.int sa), .val (.int sb), .val (.int sc), .val (.int s0), .val (.int s1), .val (.int s2), .val (.ref b1), .val (.ref b8), .val (.ref b16), .val (.ref b19), .val (.int (pk &&& (3 : Int32))), .val (.int v2), .unset] [(.int v2)]))
        refine Go.st (fun _ kt => XS.iload X27.here hx rfl (hb hby at_195) rfl kt) ?_
        show Go p e below _ (T27.setTop (mkF m 197 #[.val (.int i), .val (.int j), .val (.int k), .val (.int sh), .val (.int pk), .val (.int qq), .val (.int v1), .val (.int v2), .val (.int sa), .val (.int sb), .val (.int sc), .val (.int s0), .val (.int s1), .val (.int s2), .val (.ref b1), .val (.ref b8), .val (.ref b16), .val (.ref b19), .val (.int (pk &&& (3 : Int32))), .val (.int v2), .unset] [(.int v1), (.int v2)]))
        refine Go.st (fun _ kt => XS.icmpYes X27.here hx rfl (pc0 := 197) (pc' := 207) rfl (hb hby at_197) rfl (feq hD'.2.1).2 (by decide) (by decide) kt) ?_
        show Go p e below _ (T27.setTop (mkF m 207 #[.val (.int i), .val (.int j), .val (.int k), .val (.int sh), .val (.int pk), .val (.int qq), .val (.int v1), .val (.int v2), .val (.int sa), .val (.int sb), .val (.int sc), .val (.int s0), .val (.int s1), .val (.int s2), .val (.ref b1), .val (.ref b8), .val (.ref b16), .val (.ref b19), .val (.int (pk &&& (3 : Int32))), .val (.int v2), .unset] []))
        refine Go.st (fun _ kt => XS.iload X27.here hx rfl (hb hby at_207) rfl kt) ?_
        show Go p e below _ (T27.setTop (mkF m 209 #[.val (.int i), .val (.int j), .val (.int k), .val (.int sh), .val (.int pk), .val (.int qq), .val (.int v1), .val (.int v2), .val (.int sa), .val (.int sb), .val (.int sc), .val (.int s0), .val (.int s1), .val (.int s2), .val (.ref b1), .val (.ref b8), .val (.ref b16), .val (.ref b19), .val (.int (pk &&& (3 : Int32))), .val (.int v2), .unset] [(.int v2)]))
        refine Go.st (fun _ kt => XS.iload X27.here hx rfl (hb hby at_209) rfl kt) ?_
        show Go p e below _ (T27.setTop (mkF m 211 #[.val (.int i), .val (.int j), .val (.int k), .val (.int sh), .val (.int pk), .val (.int qq), .val (.int v1), .val (.int v2), .val (.int sa), .val (.int sb), .val (.int sc), .val (.int s0), .val (.int s1), .val (.int s2), .val (.ref b1), .val (.ref b8), .val (.ref b16), .val (.ref b19), .val (.int (pk &&& (3 : Int32))), .val (.int v2), .unset] [(.int v2), (.int v2)]))
        refine Go.st (fun _ kt => XS.icmpNo X27.here hx rfl (hb hby at_211) rfl (teq (rfl : v2 = v2)).2 kt) ?_
        show Go p e below _ (T27.setTop (mkF m 214 #[.val (.int i), .val (.int j), .val (.int k), .val (.int sh), .val (.int pk), .val (.int qq), .val (.int v1), .val (.int v2), .val (.int sa), .val (.int sb), .val (.int sc), .val (.int s0), .val (.int s1), .val (.int s2), .val (.ref b1), .val (.ref b8), .val (.ref b16), .val (.ref b19), .val (.int (pk &&& (3 : Int32))), .val (.int v2), .unset] []))
        refine Go.st (fun _ kt => XS.iconst X27.here hx rfl (hb hby at_214) kt) ?_
        show Go p e below _ (T27.setTop (mkF m 215 #[.val (.int i), .val (.int j), .val (.int k), .val (.int sh), .val (.int pk), .val (.int qq), .val (.int v1), .val (.int v2), .val (.int sa), .val (.int sb), .val (.int sc), .val (.int s0), .val (.int s1), .val (.int s2), .val (.ref b1), .val (.ref b8), .val (.ref b16), .val (.ref b19), .val (.int (pk &&& (3 : Int32))), .val (.int v2), .unset] [(.int (1 : Int32))]))
        refine Go.st (fun _ kt => XS.istore X27.here hx rfl (hb hby at_215) rfl (l' := #[.val (.int i), .val (.int j), .val (.int k), .val (.int sh), .val (.int pk), .val (.int qq), .val (.int v1), .val (.int v2), .val (.int sa), .val (.int sb), .val (.int sc), .val (.int s0), .val (.int s1), .val (.int s2), .val (.ref b1), .val (.ref b8), .val (.ref b16), .val (.ref b19), .val (.int (pk &&& (3 : Int32))), .val (.int v2), .val (.int (1 : Int32))]) rfl kt) ?_
        show Go p e below _ (T27.setTop (mkF m 217 #[.val (.int i), .val (.int j), .val (.int k), .val (.int sh), .val (.int pk), .val (.int qq), .val (.int v1), .val (.int v2), .val (.int sa), .val (.int sb), .val (.int sc), .val (.int s0), .val (.int s1), .val (.int s2), .val (.ref b1), .val (.ref b8), .val (.ref b16), .val (.ref b19), .val (.int (pk &&& (3 : Int32))), .val (.int v2), .val (.int (1 : Int32))] []))
        refine Go.st (fun _ kt => XS.goto X27.here hx rfl (pc0 := 217) (pc' := 223) rfl (hb hby at_217) (by decide) (by decide) kt) ?_
        show Go p e below _ (T27.setTop (mkF m 223 #[.val (.int i), .val (.int j), .val (.int k), .val (.int sh), .val (.int pk), .val (.int qq), .val (.int v1), .val (.int v2), .val (.int sa), .val (.int sb), .val (.int sc), .val (.int s0), .val (.int s1), .val (.int s2), .val (.ref b1), .val (.ref b8), .val (.ref b16), .val (.ref b19), .val (.int (pk &&& (3 : Int32))), .val (.int v2), .val (.int (1 : Int32))] []))
        refine Go.st (fun _ kt => XS.aload X27.here hx rfl (hb hby at_223) rfl rfl kt) ?_
        show Go p e below _ (T27.setTop (mkF m 225 #[.val (.int i), .val (.int j), .val (.int k), .val (.int sh), .val (.int pk), .val (.int qq), .val (.int v1), .val (.int v2), .val (.int sa), .val (.int sb), .val (.int sc), .val (.int s0), .val (.int s1), .val (.int s2), .val (.ref b1), .val (.ref b8), .val (.ref b16), .val (.ref b19), .val (.int (pk &&& (3 : Int32))), .val (.int v2), .val (.int (1 : Int32))] [(.ref b19)]))
        refine Go.st (fun _ kt => XS.iload X27.here hx rfl (hb hby at_225) rfl kt) ?_
        show Go p e below _ (T27.setTop (mkF m 227 #[.val (.int i), .val (.int j), .val (.int k), .val (.int sh), .val (.int pk), .val (.int qq), .val (.int v1), .val (.int v2), .val (.int sa), .val (.int sb), .val (.int sc), .val (.int s0), .val (.int s1), .val (.int s2), .val (.ref b1), .val (.ref b8), .val (.ref b16), .val (.ref b19), .val (.int (pk &&& (3 : Int32))), .val (.int v2), .val (.int (1 : Int32))] [(.int v2), (.ref b19)]))
        have f37 := (A19.keep K27q)
        obtain ⟨cq36, kq36, q36a, q36b, q36c⟩ := isOf hZ rfl f37
        obtain ⟨_, _, ⟨T36, L36, k36, n36⟩, -, X36, ⟨Lc36, hQ36, l36, y36, z36⟩, st36⟩ := X27.virtualBack hx (y := (⟨"com/example/tributary/tributary/model/CostTable", "stride", "(I)I"⟩ : MethodName)) (z := (⟨"com/example/tributary/tributary/model/CostTable", "stride", "(I)I"⟩ : MethodName)) hown (mvT hZ (hw _ (List.mem_of_getElem? (i := 37) rfl))) (mvT hZ (hw _ (List.mem_of_getElem? (i := 38) rfl))) (notFace_of_selects (args := #[]) (mvT hZ (hw _ (List.mem_of_getElem? (i := 40) rfl)))) (mvT hZ (hw _ (List.mem_of_getElem? (i := 40) rfl))) (mvT hZ (hw _ (List.mem_of_getElem? (i := 39) rfl))) (by decide) (backOf (W := 0) (rm5 l Z a0 hw [] b19 v2 bv27 kv27 br27 kr27 i v1 v2 (((1 : Int32) * s2) * s1) ((1 : Int32) * s2) (1 : Int32) T27.heap n0 Zs27 G27_0 G27_1 G27_2 G27_3) hZ (hw _ (List.mem_of_getElem? (i := 41) rfl)) (hw _ (List.mem_of_getElem? (i := 6) rfl)) (by decide) (by decide)) q36a q36c (g := (mkF m 227 #[.val (.int i), .val (.int j), .val (.int k), .val (.int sh), .val (.int pk), .val (.int qq), .val (.int v1), .val (.int v2), .val (.int sa), .val (.int sb), .val (.int sc), .val (.int s0), .val (.int s1), .val (.int s2), .val (.ref b1), .val (.ref b8), .val (.ref b16), .val (.ref b19), .val (.int (pk &&& (3 : Int32))), .val (.int v2), .val (.int (1 : Int32))] [(.int v2), (.ref b19)])) rfl (by rw [hml]; rfl) (Steps.refl _) (argsL := [(.int v2)]) (rest := []) (lenOf own_pd4 rfl) rfl (by show 2 * 0 + _ ≤ _; exact Nat.le_of_eq rfl) (hb hby at_227) (fun _ _ => ⟨rfl, rfl, (by decide : 7 + 0 ≤ _), (by decide : 35 + 0 ≤ _)⟩)
        dsimp only [Pt.U, Pt.locs, Pt.cells, Pt.slots] at X36 l36 y36 z36 st36 hQ36
        subst l36 y36 z36
        obtain ⟨rfl, N36q, e36⟩ := hQ36
        have N36 := Fr.app N27 N36q
        refine Go.tr st36 ?_
        show Go p e below _ (T36.setTop (mkF m 230 #[.val (.int i), .val (.int j), .val (.int k), .val (.int sh), .val (.int pk), .val (.int qq), .val (.int v1), .val (.int v2), .val (.int sa), .val (.int sb), .val (.int sc), .val (.int s0), .val (.int s1), .val (.int s2), .val (.ref b1), .val (.ref b8), .val (.ref b16), .val (.ref b19), .val (.int (pk &&& (3 : Int32))), .val (.int v2), .val (.int (1 : Int32))] [(.int (own_st v2 i v1 v2 (((1 : Int32) * s2) * s1) ((1 : Int32) * s2) (1 : Int32)))]))
        refine Go.st (fun _ kt => XS.iload X36.here hx rfl (hb hby at_230) rfl kt) ?_
        show Go p e below _ (T36.setTop (mkF m 232 #[.val (.int i), .val (.int j), .val (.int k), .val (.int sh), .val (.int pk), .val (.int qq), .val (.int v1), .val (.int v2), .val (.int sa), .val (.int sb), .val (.int sc), .val (.int s0), .val (.int s1), .val (.int s2), .val (.ref b1), .val (.ref b8), .val (.ref b16), .val (.ref b19), .val (.int (pk &&& (3 : Int32))), .val (.int v2), .val (.int (1 : Int32))] [(.int (1 : Int32)), (.int (own_st v2 i v1 v2 (((1 : Int32) * s2) * s1) ((1 : Int32) * s2) (1 : Int32)))]))
        refine Go.st (fun _ kt => XS.icmpNo X36.here hx rfl (hb hby at_232) rfl (teq (by rw [own_flip]; simp [hc138_29, hc150_32, hc163_35, hD.1, hD.2.1, hD.2.2, hD'.1, hD'.2.1, hD'.2.2, Int32.mul_comm])).2 kt) ?_
        show Go p e below _ (T36.setTop (mkF m 235 #[.val (.int i), .val (.int j), .val (.int k), .val (.int sh), .val (.int pk), .val (.int qq), .val (.int v1), .val (.int v2), .val (.int sa), .val (.int sb), .val (.int sc), .val (.int s0), .val (.int s1), .val (.int s2), .val (.ref b1), .val (.ref b8), .val (.ref b16), .val (.ref b19), .val (.int (pk &&& (3 : Int32))), .val (.int v2), .val (.int (1 : Int32))] []))
        refine Go.st (fun _ kt => XS.iconst X36.here hx rfl (hb hby at_235) kt) ?_
        show Go p e below _ (T36.setTop (mkF m 236 #[.val (.int i), .val (.int j), .val (.int k), .val (.int sh), .val (.int pk), .val (.int qq), .val (.int v1), .val (.int v2), .val (.int sa), .val (.int sb), .val (.int sc), .val (.int s0), .val (.int s1), .val (.int s2), .val (.ref b1), .val (.ref b8), .val (.ref b16), .val (.ref b19), .val (.int (pk &&& (3 : Int32))), .val (.int v2), .val (.int (1 : Int32))] [(.int (1 : Int32))]))
        refine Go.st (fun _ kt => XS.goto X36.here hx rfl (pc0 := 236) (pc' := 240) rfl (hb hby at_236) (by decide) (by decide) kt) ?_
        show Go p e below _ (T36.setTop (mkF m 240 #[.val (.int i), .val (.int j), .val (.int k), .val (.int sh), .val (.int pk), .val (.int qq), .val (.int v1), .val (.int v2), .val (.int sa), .val (.int sb), .val (.int sc), .val (.int s0), .val (.int s1), .val (.int s2), .val (.ref b1), .val (.ref b8), .val (.ref b16), .val (.ref b19), .val (.int (pk &&& (3 : Int32))), .val (.int v2), .val (.int (1 : Int32))] [(.int (1 : Int32))]))
        refine Go.retN X36 hx (t := .boolean) Bd.returns (by simp) (BodyLoose.notSynchronized Bd) (hb hby at_240) (Q := (Q_rm0 Z i j k sh pk qq h0 n0)) (by decide) (by decide) ?_
        show (Q_rm0 Z i j k sh pk qq h0 n0) _ T36.heap _
        rw [e36]
        exact ⟨rfl, N36⟩
      · refine Go.st (fun _ kt => XS.icmpYes X27.here hx rfl (pc0 := 163) (pc' := 173) rfl (hb hby at_163) rfl (feq hc163_35).2 (by decide) (by decide) kt) ?_
        show Go p e below _ (T27.setTop (mkF m 173 #[.val (.int i), .val (.int j), .val (.int k), .val (.int sh), .val (.int pk), .val (.int qq), .val (.int v1), .val (.int v2), .val (.int sa), .val (.int sb), .val (.int sc), .val (.int s0), .val (.int s1), .val (.int s2), .val (.ref b1), .val (.ref b8), .val (.ref b16), .val (.ref b19), .val (.int (pk &&& (3 : Int32))), .unset, .unset] []))
        refine Go.st (fun _ kt => XS.iload X27.here hx rfl (hb hby at_173) rfl kt) ?_
        show Go p e below _ (T27.setTop (mkF m 175 #[.val (.int i), .val (.int j), .val (.int k), .val (.int sh), .val (.int pk), .val (.int qq), .val (.int v1), .val (.int v2), .val (.int sa), .val (.int sb), .val (.int sc), .val (.int s0), .val (.int s1), .val (.int s2), .val (.ref b1), .val (.ref b8), .val (.ref b16), .val (.ref b19), .val (.int (pk &&& (3 : Int32))), .unset, .unset] [(.int qq)]))
        refine Go.st (fun _ kt => XS.istore X27.here hx rfl (hb hby at_175) rfl (l' := #[.val (.int i), .val (.int j), .val (.int k), .val (.int sh), .val (.int pk), .val (.int qq), .val (.int v1), .val (.int v2), .val (.int sa), .val (.int sb), .val (.int sc), .val (.int s0), .val (.int s1), .val (.int s2), .val (.ref b1), .val (.ref b8), .val (.ref b16), .val (.ref b19), .val (.int (pk &&& (3 : Int32))), .val (.int qq), .unset]) rfl kt) ?_
        show Go p e below _ (T27.setTop (mkF m 177 #[.val (.int i), .val (.int j), .val (.int k), .val (.int sh), .val (.int pk), .val (.int qq), .val (.int v1), .val (.int v2), .val (.int sa), .val (.int sb), .val (.int sc), .val (.int s0), .val (.int s1), .val (.int s2), .val (.ref b1), .val (.ref b8), .val (.ref b16), .val (.ref b19), .val (.int (pk &&& (3 : Int32))), .val (.int qq), .unset] []))
        refine Go.st (fun _ kt => XS.iload X27.here hx rfl (hb hby at_177) rfl kt) ?_
        show Go p e below _ (T27.setTop (mkF m 179 #[.val (.int i), .val (.int j), .val (.int k), .val (.int sh), .val (.int pk), .val (.int qq), .val (.int v1), .val (.int v2), .val (.int sa), .val (.int sb), .val (.int sc), .val (.int s0), .val (.int s1), .val (.int s2), .val (.ref b1), .val (.ref b8), .val (.ref b16), .val (.ref b19), .val (.int (pk &&& (3 : Int32))), .val (.int qq), .unset] [(.int qq)]))
        refine Go.st (fun _ kt => XS.iloadN X27.here hx rfl (hb hby at_179) rfl kt) ?_
        show Go p e below _ (T27.setTop (mkF m 180 #[.val (.int i), .val (.int j), .val (.int k), .val (.int sh), .val (.int pk), .val (.int qq), .val (.int v1), .val (.int v2), .val (.int sa), .val (.int sb), .val (.int sc), .val (.int s0), .val (.int s1), .val (.int s2), .val (.ref b1), .val (.ref b8), .val (.ref b16), .val (.ref b19), .val (.int (pk &&& (3 : Int32))), .val (.int qq), .unset] [(.int i), (.int qq)]))
        by_cases hc180_38 : qq = i
        · refine Go.st (fun _ kt => XS.icmpNo X27.here hx rfl (hb hby at_180) rfl (teq hc180_38).2 kt) ?_
          show Go p e below _ (T27.setTop (mkF m 183 #[.val (.int i), .val (.int j), .val (.int k), .val (.int sh), .val (.int pk), .val (.int qq), .val (.int v1), .val (.int v2), .val (.int sa), .val (.int sb), .val (.int sc), .val (.int s0), .val (.int s1), .val (.int s2), .val (.ref b1), .val (.ref b8), .val (.ref b16), .val (.ref b19), .val (.int (pk &&& (3 : Int32))), .val (.int qq), .unset] []))
          refine Go.st (fun _ kt => XS.iload X27.here hx rfl (hb hby at_183) rfl kt) ?_
          show Go p e below _ (T27.setTop (mkF m 185 #[.val (.int i), .val (.int j), .val (.int k), .val (.int sh), .val (.int pk), .val (.int qq), .val (.int v1), .val (.int v2), .val (.int sa), .val (.int sb), .val (.int sc), .val (.int s0), .val (.int s1), .val (.int s2), .val (.ref b1), .val (.ref b8), .val (.ref b16), .val (.ref b19), .val (.int (pk &&& (3 : Int32))), .val (.int qq), .unset] [(.int s1)]))
          refine Go.st (fun _ kt => XS.iload X27.here hx rfl (hb hby at_185) rfl kt) ?_
          show Go p e below _ (T27.setTop (mkF m 187 #[.val (.int i), .val (.int j), .val (.int k), .val (.int sh), .val (.int pk), .val (.int qq), .val (.int v1), .val (.int v2), .val (.int sa), .val (.int sb), .val (.int sc), .val (.int s0), .val (.int s1), .val (.int s2), .val (.ref b1), .val (.ref b8), .val (.ref b16), .val (.ref b19), .val (.int (pk &&& (3 : Int32))), .val (.int qq), .unset] [(.int s2), (.int s1)]))
          refine Go.st (fun _ kt => XS.imul X27.here hx rfl (hb hby at_187) rfl kt) ?_
          show Go p e below _ (T27.setTop (mkF m 188 #[.val (.int i), .val (.int j), .val (.int k), .val (.int sh), .val (.int pk), .val (.int qq), .val (.int v1), .val (.int v2), .val (.int sa), .val (.int sb), .val (.int sc), .val (.int s0), .val (.int s1), .val (.int s2), .val (.ref b1), .val (.ref b8), .val (.ref b16), .val (.ref b19), .val (.int (pk &&& (3 : Int32))), .val (.int qq), .unset] [(.int (s1 * s2))]))
          refine Go.st (fun _ kt => XS.istore X27.here hx rfl (hb hby at_188) rfl (l' := #[.val (.int i), .val (.int j), .val (.int k), .val (.int sh), .val (.int pk), .val (.int qq), .val (.int v1), .val (.int v2), .val (.int sa), .val (.int sb), .val (.int sc), .val (.int s0), .val (.int s1), .val (.int s2), .val (.ref b1), .val (.ref b8), .val (.ref b16), .val (.ref b19), .val (.int (pk &&& (3 : Int32))), .val (.int qq), .val (.int (s1 * s2))]) rfl kt) ?_
          show Go p e below _ (T27.setTop (mkF m 190 #[.val (.int i), .val (.int j), .val (.int k), .val (.int sh), .val (.int pk), .val (.int qq), .val (.int v1), .val (.int v2), .val (.int sa), .val (.int sb), .val (.int sc), .val (.int s0), .val (.int s1), .val (.int s2), .val (.ref b1), .val (.ref b8), .val (.ref b16), .val (.ref b19), .val (.int (pk &&& (3 : Int32))), .val (.int qq), .val (.int (s1 * s2))] []))
          refine Go.st (fun _ kt => XS.goto X27.here hx rfl (pc0 := 190) (pc' := 223) rfl (hb hby at_190) (by decide) (by decide) kt) ?_
          show Go p e below _ (T27.setTop (mkF m 223 #[.val (.int i), .val (.int j), .val (.int k), .val (.int sh), .val (.int pk), .val (.int qq), .val (.int v1), .val (.int v2), .val (.int sa), .val (.int sb), .val (.int sc), .val (.int s0), .val (.int s1), .val (.int s2), .val (.ref b1), .val (.ref b8), .val (.ref b16), .val (.ref b19), .val (.int (pk &&& (3 : Int32))), .val (.int qq), .val (.int (s1 * s2))] []))
          refine Go.st (fun _ kt => XS.aload X27.here hx rfl (hb hby at_223) rfl rfl kt) ?_
          show Go p e below _ (T27.setTop (mkF m 225 #[.val (.int i), .val (.int j), .val (.int k), .val (.int sh), .val (.int pk), .val (.int qq), .val (.int v1), .val (.int v2), .val (.int sa), .val (.int sb), .val (.int sc), .val (.int s0), .val (.int s1), .val (.int s2), .val (.ref b1), .val (.ref b8), .val (.ref b16), .val (.ref b19), .val (.int (pk &&& (3 : Int32))), .val (.int qq), .val (.int (s1 * s2))] [(.ref b19)]))
          refine Go.st (fun _ kt => XS.iload X27.here hx rfl (hb hby at_225) rfl kt) ?_
          show Go p e below _ (T27.setTop (mkF m 227 #[.val (.int i), .val (.int j), .val (.int k), .val (.int sh), .val (.int pk), .val (.int qq), .val (.int v1), .val (.int v2), .val (.int sa), .val (.int sb), .val (.int sc), .val (.int s0), .val (.int s1), .val (.int s2), .val (.ref b1), .val (.ref b8), .val (.ref b16), .val (.ref b19), .val (.int (pk &&& (3 : Int32))), .val (.int qq), .val (.int (s1 * s2))] [(.int qq), (.ref b19)]))
          have f40 := (A19.keep K27q)
          obtain ⟨cq39, kq39, q39a, q39b, q39c⟩ := isOf hZ rfl f40
          obtain ⟨_, _, ⟨T39, L39, k39, n39⟩, -, X39, ⟨Lc39, hQ39, l39, y39, z39⟩, st39⟩ := X27.virtualBack hx (y := (⟨"com/example/tributary/tributary/model/CostTable", "stride", "(I)I"⟩ : MethodName)) (z := (⟨"com/example/tributary/tributary/model/CostTable", "stride", "(I)I"⟩ : MethodName)) hown (mvT hZ (hw _ (List.mem_of_getElem? (i := 37) rfl))) (mvT hZ (hw _ (List.mem_of_getElem? (i := 38) rfl))) (notFace_of_selects (args := #[]) (mvT hZ (hw _ (List.mem_of_getElem? (i := 40) rfl)))) (mvT hZ (hw _ (List.mem_of_getElem? (i := 40) rfl))) (mvT hZ (hw _ (List.mem_of_getElem? (i := 39) rfl))) (by decide) (backOf (W := 0) (rm5 l Z a0 hw [] b19 qq bv27 kv27 br27 kr27 i v1 v2 (((1 : Int32) * s2) * s1) ((1 : Int32) * s2) (1 : Int32) T27.heap n0 Zs27 G27_0 G27_1 G27_2 G27_3) hZ (hw _ (List.mem_of_getElem? (i := 41) rfl)) (hw _ (List.mem_of_getElem? (i := 6) rfl)) (by decide) (by decide)) q39a q39c (g := (mkF m 227 #[.val (.int i), .val (.int j), .val (.int k), .val (.int sh), .val (.int pk), .val (.int qq), .val (.int v1), .val (.int v2), .val (.int sa), .val (.int sb), .val (.int sc), .val (.int s0), .val (.int s1), .val (.int s2), .val (.ref b1), .val (.ref b8), .val (.ref b16), .val (.ref b19), .val (.int (pk &&& (3 : Int32))), .val (.int qq), .val (.int (s1 * s2))] [(.int qq), (.ref b19)])) rfl (by rw [hml]; rfl) (Steps.refl _) (argsL := [(.int qq)]) (rest := []) (lenOf own_pd4 rfl) rfl (by show 2 * 0 + _ ≤ _; exact Nat.le_of_eq rfl) (hb hby at_227) (fun _ _ => ⟨rfl, rfl, (by decide : 7 + 0 ≤ _), (by decide : 35 + 0 ≤ _)⟩)
          dsimp only [Pt.U, Pt.locs, Pt.cells, Pt.slots] at X39 l39 y39 z39 st39 hQ39
          subst l39 y39 z39
          obtain ⟨rfl, N39q, e39⟩ := hQ39
          have N39 := Fr.app N27 N39q
          refine Go.tr st39 ?_
          show Go p e below _ (T39.setTop (mkF m 230 #[.val (.int i), .val (.int j), .val (.int k), .val (.int sh), .val (.int pk), .val (.int qq), .val (.int v1), .val (.int v2), .val (.int sa), .val (.int sb), .val (.int sc), .val (.int s0), .val (.int s1), .val (.int s2), .val (.ref b1), .val (.ref b8), .val (.ref b16), .val (.ref b19), .val (.int (pk &&& (3 : Int32))), .val (.int qq), .val (.int (s1 * s2))] [(.int (own_st qq i v1 v2 (((1 : Int32) * s2) * s1) ((1 : Int32) * s2) (1 : Int32)))]))
          refine Go.st (fun _ kt => XS.iload X39.here hx rfl (hb hby at_230) rfl kt) ?_
          show Go p e below _ (T39.setTop (mkF m 232 #[.val (.int i), .val (.int j), .val (.int k), .val (.int sh), .val (.int pk), .val (.int qq), .val (.int v1), .val (.int v2), .val (.int sa), .val (.int sb), .val (.int sc), .val (.int s0), .val (.int s1), .val (.int s2), .val (.ref b1), .val (.ref b8), .val (.ref b16), .val (.ref b19), .val (.int (pk &&& (3 : Int32))), .val (.int qq), .val (.int (s1 * s2))] [(.int (s1 * s2)), (.int (own_st qq i v1 v2 (((1 : Int32) * s2) * s1) ((1 : Int32) * s2) (1 : Int32)))]))
          refine Go.st (fun _ kt => XS.icmpNo X39.here hx rfl (hb hby at_232) rfl (teq (by rw [own_flip]; simp [hc138_29, hc150_32, hc163_35, hc180_38, hD.1, hD.2.1, hD.2.2, hD'.1, hD'.2.1, hD'.2.2, Int32.mul_comm])).2 kt) ?_
          show Go p e below _ (T39.setTop (mkF m 235 #[.val (.int i), .val (.int j), .val (.int k), .val (.int sh), .val (.int pk), .val (.int qq), .val (.int v1), .val (.int v2), .val (.int sa), .val (.int sb), .val (.int sc), .val (.int s0), .val (.int s1), .val (.int s2), .val (.ref b1), .val (.ref b8), .val (.ref b16), .val (.ref b19), .val (.int (pk &&& (3 : Int32))), .val (.int qq), .val (.int (s1 * s2))] []))
          refine Go.st (fun _ kt => XS.iconst X39.here hx rfl (hb hby at_235) kt) ?_
          show Go p e below _ (T39.setTop (mkF m 236 #[.val (.int i), .val (.int j), .val (.int k), .val (.int sh), .val (.int pk), .val (.int qq), .val (.int v1), .val (.int v2), .val (.int sa), .val (.int sb), .val (.int sc), .val (.int s0), .val (.int s1), .val (.int s2), .val (.ref b1), .val (.ref b8), .val (.ref b16), .val (.ref b19), .val (.int (pk &&& (3 : Int32))), .val (.int qq), .val (.int (s1 * s2))] [(.int (1 : Int32))]))
          refine Go.st (fun _ kt => XS.goto X39.here hx rfl (pc0 := 236) (pc' := 240) rfl (hb hby at_236) (by decide) (by decide) kt) ?_
          show Go p e below _ (T39.setTop (mkF m 240 #[.val (.int i), .val (.int j), .val (.int k), .val (.int sh), .val (.int pk), .val (.int qq), .val (.int v1), .val (.int v2), .val (.int sa), .val (.int sb), .val (.int sc), .val (.int s0), .val (.int s1), .val (.int s2), .val (.ref b1), .val (.ref b8), .val (.ref b16), .val (.ref b19), .val (.int (pk &&& (3 : Int32))), .val (.int qq), .val (.int (s1 * s2))] [(.int (1 : Int32))]))
          refine Go.retN X39 hx (t := .boolean) Bd.returns (by simp) (BodyLoose.notSynchronized Bd) (hb hby at_240) (Q := (Q_rm0 Z i j k sh pk qq h0 n0)) (by decide) (by decide) ?_
          show (Q_rm0 Z i j k sh pk qq h0 n0) _ T39.heap _
          rw [e39]
          exact ⟨rfl, N39⟩
        · refine Go.st (fun _ kt => XS.icmpYes X27.here hx rfl (pc0 := 180) (pc' := 193) rfl (hb hby at_180) rfl (feq hc180_38).2 (by decide) (by decide) kt) ?_
          show Go p e below _ (T27.setTop (mkF m 193 #[.val (.int i), .val (.int j), .val (.int k), .val (.int sh), .val (.int pk), .val (.int qq), .val (.int v1), .val (.int v2), .val (.int sa), .val (.int sb), .val (.int sc), .val (.int s0), .val (.int s1), .val (.int s2), .val (.ref b1), .val (.ref b8), .val (.ref b16), .val (.ref b19), .val (.int (pk &&& (3 : Int32))), .val (.int qq), .unset] []))
          refine Go.st (fun _ kt => XS.iload X27.here hx rfl (hb hby at_193) rfl kt) ?_
          show Go p e below _ (T27.setTop (mkF m 195 #[.val (.int i), .val (.int j), .val (.int k), .val (.int sh), .val (.int pk), .val (.int qq), .val (.int v1), .val (.int v2), .val (.int sa), .val (.int sb), .val (.int sc), .val (.int s0), .val (.int s1), .val (.int s2), .val (.ref b1), .val (.ref b8), .val (.ref b16), .val (.ref b19), .val (.int (pk &&& (3 : Int32))), .val (.int qq), .unset] [(.int qq)]))
          refine Go.st (fun _ kt => XS.iload X27.here hx rfl (hb hby at_195) rfl kt) ?_
          show Go p e below _ (T27.setTop (mkF m 197 #[.val (.int i), .val (.int j), .val (.int k), .val (.int sh), .val (.int pk), .val (.int qq), .val (.int v1), .val (.int v2), .val (.int sa), .val (.int sb), .val (.int sc), .val (.int s0), .val (.int s1), .val (.int s2), .val (.ref b1), .val (.ref b8), .val (.ref b16), .val (.ref b19), .val (.int (pk &&& (3 : Int32))), .val (.int qq), .unset] [(.int v1), (.int qq)]))
          by_cases hc197_41 : qq = v1
          · refine Go.st (fun _ kt => XS.icmpNo X27.here hx rfl (hb hby at_197) rfl (teq hc197_41).2 kt) ?_
            show Go p e below _ (T27.setTop (mkF m 200 #[.val (.int i), .val (.int j), .val (.int k), .val (.int sh), .val (.int pk), .val (.int qq), .val (.int v1), .val (.int v2), .val (.int sa), .val (.int sb), .val (.int sc), .val (.int s0), .val (.int s1), .val (.int s2), .val (.ref b1), .val (.ref b8), .val (.ref b16), .val (.ref b19), .val (.int (pk &&& (3 : Int32))), .val (.int qq), .unset] []))
            refine Go.st (fun _ kt => XS.iload X27.here hx rfl (hb hby at_200) rfl kt) ?_
            show Go p e below _ (T27.setTop (mkF m 202 #[.val (.int i), .val (.int j), .val (.int k), .val (.int sh), .val (.int pk), .val (.int qq), .val (.int v1), .val (.int v2), .val (.int sa), .val (.int sb), .val (.int sc), .val (.int s0), .val (.int s1), .val (.int s2), .val (.ref b1), .val (.ref b8), .val (.ref b16), .val (.ref b19), .val (.int (pk &&& (3 : Int32))), .val (.int qq), .unset] [(.int s2)]))
            refine Go.st (fun _ kt => XS.istore X27.here hx rfl (hb hby at_202) rfl (l' := #[.val (.int i), .val (.int j), .val (.int k), .val (.int sh), .val (.int pk), .val (.int qq), .val (.int v1), .val (.int v2), .val (.int sa), .val (.int sb), .val (.int sc), .val (.int s0), .val (.int s1), .val (.int s2), .val (.ref b1), .val (.ref b8), .val (.ref b16), .val (.ref b19), .val (.int (pk &&& (3 : Int32))), .val (.int qq), .val (.int s2)]) rfl kt) ?_
            show Go p e below _ (T27.setTop (mkF m 204 #[.val (.int i), .val (.int j), .val (.int k), .val (.int sh), .val (.int pk), .val (.int qq), .val (.int v1), .val (.int v2), .val (.int sa), .val (.int sb), .val (.int sc), .val (.int s0), .val (.int s1), .val (.int s2), .val (.ref b1), .val (.ref b8), .val (.ref b16), .val (.ref b19), .val (.int (pk &&& (3 : Int32))), .val (.int qq), .val (.int s2)] []))
            refine Go.st (fun _ kt => XS.goto X27.here hx rfl (pc0 := 204) (pc' := 223) rfl (hb hby at_204) (by decide) (by decide) kt) ?_
            show Go p e below _ (T27.setTop (mkF m 223 #[.val (.int i), .val (.int j), .val (.int k), .val (.int sh), .val (.int pk), .val (.int qq), .val (.int v1), .val (.int v2), .val (.int sa), .val (.int sb), .val (.int sc), .val (.int s0), .val (.int s1), .val (.int s2), .val (.ref b1), .val (.ref b8), .val (.ref b16), .val (.ref b19), .val (.int (pk &&& (3 : Int32))), .val (.int qq), .val (.int s2)] []))
            refine Go.st (fun _ kt => XS.aload X27.here hx rfl (hb hby at_223) rfl rfl kt) ?_
            show Go p e below _ (T27.setTop (mkF m 225 #[.val (.int i), .val (.int j), .val (.int k), .val (.int sh), .val (.int pk), .val (.int qq), .val (.int v1), .val (.int v2), .val (.int sa), .val (.int sb), .val (.int sc), .val (.int s0), .val (.int s1), .val (.int s2), .val (.ref b1), .val (.ref b8), .val (.ref b16), .val (.ref b19), .val (.int (pk &&& (3 : Int32))), .val (.int qq), .val (.int s2)] [(.ref b19)]))
            refine Go.st (fun _ kt => XS.iload X27.here hx rfl (hb hby at_225) rfl kt) ?_
            show Go p e below _ (T27.setTop (mkF m 227 #[.val (.int i), .val (.int j), .val (.int k), .val (.int sh), .val (.int pk), .val (.int qq), .val (.int v1), .val (.int v2), .val (.int sa), .val (.int sb), .val (.int sc), .val (.int s0), .val (.int s1), .val (.int s2), .val (.ref b1), .val (.ref b8), .val (.ref b16), .val (.ref b19), .val (.int (pk &&& (3 : Int32))), .val (.int qq), .val (.int s2)] [(.int qq), (.ref b19)]))
            have f43 := (A19.keep K27q)
            obtain ⟨cq42, kq42, q42a, q42b, q42c⟩ := isOf hZ rfl f43
            obtain ⟨_, _, ⟨T42, L42, k42, n42⟩, -, X42, ⟨Lc42, hQ42, l42, y42, z42⟩, st42⟩ := X27.virtualBack hx (y := (⟨"com/example/tributary/tributary/model/CostTable", "stride", "(I)I"⟩ : MethodName)) (z := (⟨"com/example/tributary/tributary/model/CostTable", "stride", "(I)I"⟩ : MethodName)) hown (mvT hZ (hw _ (List.mem_of_getElem? (i := 37) rfl))) (mvT hZ (hw _ (List.mem_of_getElem? (i := 38) rfl))) (notFace_of_selects (args := #[]) (mvT hZ (hw _ (List.mem_of_getElem? (i := 40) rfl)))) (mvT hZ (hw _ (List.mem_of_getElem? (i := 40) rfl))) (mvT hZ (hw _ (List.mem_of_getElem? (i := 39) rfl))) (by decide) (backOf (W := 0) (rm5 l Z a0 hw [] b19 qq bv27 kv27 br27 kr27 i v1 v2 (((1 : Int32) * s2) * s1) ((1 : Int32) * s2) (1 : Int32) T27.heap n0 Zs27 G27_0 G27_1 G27_2 G27_3) hZ (hw _ (List.mem_of_getElem? (i := 41) rfl)) (hw _ (List.mem_of_getElem? (i := 6) rfl)) (by decide) (by decide)) q42a q42c (g := (mkF m 227 #[.val (.int i), .val (.int j), .val (.int k), .val (.int sh), .val (.int pk), .val (.int qq), .val (.int v1), .val (.int v2), .val (.int sa), .val (.int sb), .val (.int sc), .val (.int s0), .val (.int s1), .val (.int s2), .val (.ref b1), .val (.ref b8), .val (.ref b16), .val (.ref b19), .val (.int (pk &&& (3 : Int32))), .val (.int qq), .val (.int s2)] [(.int qq), (.ref b19)])) rfl (by rw [hml]; rfl) (Steps.refl _) (argsL := [(.int qq)]) (rest := []) (lenOf own_pd4 rfl) rfl (by show 2 * 0 + _ ≤ _; exact Nat.le_of_eq rfl) (hb hby at_227) (fun _ _ => ⟨rfl, rfl, (by decide : 7 + 0 ≤ _), (by decide : 35 + 0 ≤ _)⟩)
            dsimp only [Pt.U, Pt.locs, Pt.cells, Pt.slots] at X42 l42 y42 z42 st42 hQ42
            subst l42 y42 z42
            obtain ⟨rfl, N42q, e42⟩ := hQ42
            have N42 := Fr.app N27 N42q
            refine Go.tr st42 ?_
            show Go p e below _ (T42.setTop (mkF m 230 #[.val (.int i), .val (.int j), .val (.int k), .val (.int sh), .val (.int pk), .val (.int qq), .val (.int v1), .val (.int v2), .val (.int sa), .val (.int sb), .val (.int sc), .val (.int s0), .val (.int s1), .val (.int s2), .val (.ref b1), .val (.ref b8), .val (.ref b16), .val (.ref b19), .val (.int (pk &&& (3 : Int32))), .val (.int qq), .val (.int s2)] [(.int (own_st qq i v1 v2 (((1 : Int32) * s2) * s1) ((1 : Int32) * s2) (1 : Int32)))]))
            refine Go.st (fun _ kt => XS.iload X42.here hx rfl (hb hby at_230) rfl kt) ?_
            show Go p e below _ (T42.setTop (mkF m 232 #[.val (.int i), .val (.int j), .val (.int k), .val (.int sh), .val (.int pk), .val (.int qq), .val (.int v1), .val (.int v2), .val (.int sa), .val (.int sb), .val (.int sc), .val (.int s0), .val (.int s1), .val (.int s2), .val (.ref b1), .val (.ref b8), .val (.ref b16), .val (.ref b19), .val (.int (pk &&& (3 : Int32))), .val (.int qq), .val (.int s2)] [(.int s2), (.int (own_st qq i v1 v2 (((1 : Int32) * s2) * s1) ((1 : Int32) * s2) (1 : Int32)))]))
            refine Go.st (fun _ kt => XS.icmpNo X42.here hx rfl (hb hby at_232) rfl (teq (by rw [own_flip]; simp [hc138_29, hc150_32, hc163_35, hc180_38, hc197_41, hD.1, hD.2.1, hD.2.2, hD'.1, hD'.2.1, hD'.2.2, Int32.mul_comm])).2 kt) ?_
            show Go p e below _ (T42.setTop (mkF m 235 #[.val (.int i), .val (.int j), .val (.int k), .val (.int sh), .val (.int pk), .val (.int qq), .val (.int v1), .val (.int v2), .val (.int sa), .val (.int sb), .val (.int sc), .val (.int s0), .val (.int s1), .val (.int s2), .val (.ref b1), .val (.ref b8), .val (.ref b16), .val (.ref b19), .val (.int (pk &&& (3 : Int32))), .val (.int qq), .val (.int s2)] []))
            refine Go.st (fun _ kt => XS.iconst X42.here hx rfl (hb hby at_235) kt) ?_
            show Go p e below _ (T42.setTop (mkF m 236 #[.val (.int i), .val (.int j), .val (.int k), .val (.int sh), .val (.int pk), .val (.int qq), .val (.int v1), .val (.int v2), .val (.int sa), .val (.int sb), .val (.int sc), .val (.int s0), .val (.int s1), .val (.int s2), .val (.ref b1), .val (.ref b8), .val (.ref b16), .val (.ref b19), .val (.int (pk &&& (3 : Int32))), .val (.int qq), .val (.int s2)] [(.int (1 : Int32))]))
            refine Go.st (fun _ kt => XS.goto X42.here hx rfl (pc0 := 236) (pc' := 240) rfl (hb hby at_236) (by decide) (by decide) kt) ?_
            show Go p e below _ (T42.setTop (mkF m 240 #[.val (.int i), .val (.int j), .val (.int k), .val (.int sh), .val (.int pk), .val (.int qq), .val (.int v1), .val (.int v2), .val (.int sa), .val (.int sb), .val (.int sc), .val (.int s0), .val (.int s1), .val (.int s2), .val (.ref b1), .val (.ref b8), .val (.ref b16), .val (.ref b19), .val (.int (pk &&& (3 : Int32))), .val (.int qq), .val (.int s2)] [(.int (1 : Int32))]))
            refine Go.retN X42 hx (t := .boolean) Bd.returns (by simp) (BodyLoose.notSynchronized Bd) (hb hby at_240) (Q := (Q_rm0 Z i j k sh pk qq h0 n0)) (by decide) (by decide) ?_
            show (Q_rm0 Z i j k sh pk qq h0 n0) _ T42.heap _
            rw [e42]
            exact ⟨rfl, N42⟩
          · refine Go.st (fun _ kt => XS.icmpYes X27.here hx rfl (pc0 := 197) (pc' := 207) rfl (hb hby at_197) rfl (feq hc197_41).2 (by decide) (by decide) kt) ?_
            show Go p e below _ (T27.setTop (mkF m 207 #[.val (.int i), .val (.int j), .val (.int k), .val (.int sh), .val (.int pk), .val (.int qq), .val (.int v1), .val (.int v2), .val (.int sa), .val (.int sb), .val (.int sc), .val (.int s0), .val (.int s1), .val (.int s2), .val (.ref b1), .val (.ref b8), .val (.ref b16), .val (.ref b19), .val (.int (pk &&& (3 : Int32))), .val (.int qq), .unset] []))
            refine Go.st (fun _ kt => XS.iload X27.here hx rfl (hb hby at_207) rfl kt) ?_
            show Go p e below _ (T27.setTop (mkF m 209 #[.val (.int i), .val (.int j), .val (.int k), .val (.int sh), .val (.int pk), .val (.int qq), .val (.int v1), .val (.int v2), .val (.int sa), .val (.int sb), .val (.int sc), .val (.int s0), .val (.int s1), .val (.int s2), .val (.ref b1), .val (.ref b8), .val (.ref b16), .val (.ref b19), .val (.int (pk &&& (3 : Int32))), .val (.int qq), .unset] [(.int qq)]))
            refine Go.st (fun _ kt => XS.iload X27.here hx rfl (hb hby at_209) rfl kt) ?_
            show Go p e below _ (T27.setTop (mkF m 211 #[.val (.int i), .val (.int j), .val (.int k), .val (.int sh), .val (.int pk), .val (.int qq), .val (.int v1), .val (.int v2), .val (.int sa), .val (.int sb), .val (.int sc), .val (.int s0), .val (.int s1), .val (.int s2), .val (.ref b1), .val (.ref b8), .val (.ref b16), .val (.ref b19), .val (.int (pk &&& (3 : Int32))), .val (.int qq), .unset] [(.int v2), (.int qq)]))
            by_cases hc211_44 : qq = v2
            · refine Go.st (fun _ kt => XS.icmpNo X27.here hx rfl (hb hby at_211) rfl (teq hc211_44).2 kt) ?_
              show Go p e below _ (T27.setTop (mkF m 214 #[.val (.int i), .val (.int j), .val (.int k), .val (.int sh), .val (.int pk), .val (.int qq), .val (.int v1), .val (.int v2), .val (.int sa), .val (.int sb), .val (.int sc), .val (.int s0), .val (.int s1), .val (.int s2), .val (.ref b1), .val (.ref b8), .val (.ref b16), .val (.ref b19), .val (.int (pk &&& (3 : Int32))), .val (.int qq), .unset] []))
              refine Go.st (fun _ kt => XS.iconst X27.here hx rfl (hb hby at_214) kt) ?_
              show Go p e below _ (T27.setTop (mkF m 215 #[.val (.int i), .val (.int j), .val (.int k), .val (.int sh), .val (.int pk), .val (.int qq), .val (.int v1), .val (.int v2), .val (.int sa), .val (.int sb), .val (.int sc), .val (.int s0), .val (.int s1), .val (.int s2), .val (.ref b1), .val (.ref b8), .val (.ref b16), .val (.ref b19), .val (.int (pk &&& (3 : Int32))), .val (.int qq), .unset] [(.int (1 : Int32))]))
              refine Go.st (fun _ kt => XS.istore X27.here hx rfl (hb hby at_215) rfl (l' := #[.val (.int i), .val (.int j), .val (.int k), .val (.int sh), .val (.int pk), .val (.int qq), .val (.int v1), .val (.int v2), .val (.int sa), .val (.int sb), .val (.int sc), .val (.int s0), .val (.int s1), .val (.int s2), .val (.ref b1), .val (.ref b8), .val (.ref b16), .val (.ref b19), .val (.int (pk &&& (3 : Int32))), .val (.int qq), .val (.int (1 : Int32))]) rfl kt) ?_
              show Go p e below _ (T27.setTop (mkF m 217 #[.val (.int i), .val (.int j), .val (.int k), .val (.int sh), .val (.int pk), .val (.int qq), .val (.int v1), .val (.int v2), .val (.int sa), .val (.int sb), .val (.int sc), .val (.int s0), .val (.int s1), .val (.int s2), .val (.ref b1), .val (.ref b8), .val (.ref b16), .val (.ref b19), .val (.int (pk &&& (3 : Int32))), .val (.int qq), .val (.int (1 : Int32))] []))
              refine Go.st (fun _ kt => XS.goto X27.here hx rfl (pc0 := 217) (pc' := 223) rfl (hb hby at_217) (by decide) (by decide) kt) ?_
              show Go p e below _ (T27.setTop (mkF m 223 #[.val (.int i), .val (.int j), .val (.int k), .val (.int sh), .val (.int pk), .val (.int qq), .val (.int v1), .val (.int v2), .val (.int sa), .val (.int sb), .val (.int sc), .val (.int s0), .val (.int s1), .val (.int s2), .val (.ref b1), .val (.ref b8), .val (.ref b16), .val (.ref b19), .val (.int (pk &&& (3 : Int32))), .val (.int qq), .val (.int (1 : Int32))] []))
              refine Go.st (fun _ kt => XS.aload X27.here hx rfl (hb hby at_223) rfl rfl kt) ?_
              show Go p e below _ (T27.setTop (mkF m 225 #[.val (.int i), .val (.int j), .val (.int k), .val (.int sh), .val (.int pk), .val (.int qq), .val (.int v1), .val (.int v2), .val (.int sa), .val (.int sb), .val (.int sc), .val (.int s0), .val (.int s1), .val (.int s2), .val (.ref b1), .val (.ref b8), .val (.ref b16), .val (.ref b19), .val (.int (pk &&& (3 : Int32))), .val (.int qq), .val (.int (1 : Int32))] [(.ref b19)]))
              refine Go.st (fun _ kt => XS.iload X27.here hx rfl (hb hby at_225) rfl kt) ?_
              show Go p e below _ (T27.setTop (mkF m 227 #[.val (.int i), .val (.int j), .val (.int k), .val (.int sh), .val (.int pk), .val (.int qq), .val (.int v1), .val (.int v2), .val (.int sa), .val (.int sb), .val (.int sc), .val (.int s0), .val (.int s1), .val (.int s2), .val (.ref b1), .val (.ref b8), .val (.ref b16), .val (.ref b19), .val (.int (pk &&& (3 : Int32))), .val (.int qq), .val (.int (1 : Int32))] [(.int qq), (.ref b19)]))
              have f46 := (A19.keep K27q)
              obtain ⟨cq45, kq45, q45a, q45b, q45c⟩ := isOf hZ rfl f46
              obtain ⟨_, _, ⟨T45, L45, k45, n45⟩, -, X45, ⟨Lc45, hQ45, l45, y45, z45⟩, st45⟩ := X27.virtualBack hx (y := (⟨"com/example/tributary/tributary/model/CostTable", "stride", "(I)I"⟩ : MethodName)) (z := (⟨"com/example/tributary/tributary/model/CostTable", "stride", "(I)I"⟩ : MethodName)) hown (mvT hZ (hw _ (List.mem_of_getElem? (i := 37) rfl))) (mvT hZ (hw _ (List.mem_of_getElem? (i := 38) rfl))) (notFace_of_selects (args := #[]) (mvT hZ (hw _ (List.mem_of_getElem? (i := 40) rfl)))) (mvT hZ (hw _ (List.mem_of_getElem? (i := 40) rfl))) (mvT hZ (hw _ (List.mem_of_getElem? (i := 39) rfl))) (by decide) (backOf (W := 0) (rm5 l Z a0 hw [] b19 qq bv27 kv27 br27 kr27 i v1 v2 (((1 : Int32) * s2) * s1) ((1 : Int32) * s2) (1 : Int32) T27.heap n0 Zs27 G27_0 G27_1 G27_2 G27_3) hZ (hw _ (List.mem_of_getElem? (i := 41) rfl)) (hw _ (List.mem_of_getElem? (i := 6) rfl)) (by decide) (by decide)) q45a q45c (g := (mkF m 227 #[.val (.int i), .val (.int j), .val (.int k), .val (.int sh), .val (.int pk), .val (.int qq), .val (.int v1), .val (.int v2), .val (.int sa), .val (.int sb), .val (.int sc), .val (.int s0), .val (.int s1), .val (.int s2), .val (.ref b1), .val (.ref b8), .val (.ref b16), .val (.ref b19), .val (.int (pk &&& (3 : Int32))), .val (.int qq), .val (.int (1 : Int32))] [(.int qq), (.ref b19)])) rfl (by rw [hml]; rfl) (Steps.refl _) (argsL := [(.int qq)]) (rest := []) (lenOf own_pd4 rfl) rfl (by show 2 * 0 + _ ≤ _; exact Nat.le_of_eq rfl) (hb hby at_227) (fun _ _ => ⟨rfl, rfl, (by decide : 7 + 0 ≤ _), (by decide : 35 + 0 ≤ _)⟩)
              dsimp only [Pt.U, Pt.locs, Pt.cells, Pt.slots] at X45 l45 y45 z45 st45 hQ45
              subst l45 y45 z45
              obtain ⟨rfl, N45q, e45⟩ := hQ45
              have N45 := Fr.app N27 N45q
              refine Go.tr st45 ?_
              show Go p e below _ (T45.setTop (mkF m 230 #[.val (.int i), .val (.int j), .val (.int k), .val (.int sh), .val (.int pk), .val (.int qq), .val (.int v1), .val (.int v2), .val (.int sa), .val (.int sb), .val (.int sc), .val (.int s0), .val (.int s1), .val (.int s2), .val (.ref b1), .val (.ref b8), .val (.ref b16), .val (.ref b19), .val (.int (pk &&& (3 : Int32))), .val (.int qq), .val (.int (1 : Int32))] [(.int (own_st qq i v1 v2 (((1 : Int32) * s2) * s1) ((1 : Int32) * s2) (1 : Int32)))]))
              refine Go.st (fun _ kt => XS.iload X45.here hx rfl (hb hby at_230) rfl kt) ?_
              show Go p e below _ (T45.setTop (mkF m 232 #[.val (.int i), .val (.int j), .val (.int k), .val (.int sh), .val (.int pk), .val (.int qq), .val (.int v1), .val (.int v2), .val (.int sa), .val (.int sb), .val (.int sc), .val (.int s0), .val (.int s1), .val (.int s2), .val (.ref b1), .val (.ref b8), .val (.ref b16), .val (.ref b19), .val (.int (pk &&& (3 : Int32))), .val (.int qq), .val (.int (1 : Int32))] [(.int (1 : Int32)), (.int (own_st qq i v1 v2 (((1 : Int32) * s2) * s1) ((1 : Int32) * s2) (1 : Int32)))]))
              refine Go.st (fun _ kt => XS.icmpNo X45.here hx rfl (hb hby at_232) rfl (teq (by rw [own_flip]; simp [hc138_29, hc150_32, hc163_35, hc180_38, hc197_41, hc211_44, hD.1, hD.2.1, hD.2.2, hD'.1, hD'.2.1, hD'.2.2, Int32.mul_comm])).2 kt) ?_
              show Go p e below _ (T45.setTop (mkF m 235 #[.val (.int i), .val (.int j), .val (.int k), .val (.int sh), .val (.int pk), .val (.int qq), .val (.int v1), .val (.int v2), .val (.int sa), .val (.int sb), .val (.int sc), .val (.int s0), .val (.int s1), .val (.int s2), .val (.ref b1), .val (.ref b8), .val (.ref b16), .val (.ref b19), .val (.int (pk &&& (3 : Int32))), .val (.int qq), .val (.int (1 : Int32))] []))
              refine Go.st (fun _ kt => XS.iconst X45.here hx rfl (hb hby at_235) kt) ?_
              show Go p e below _ (T45.setTop (mkF m 236 #[.val (.int i), .val (.int j), .val (.int k), .val (.int sh), .val (.int pk), .val (.int qq), .val (.int v1), .val (.int v2), .val (.int sa), .val (.int sb), .val (.int sc), .val (.int s0), .val (.int s1), .val (.int s2), .val (.ref b1), .val (.ref b8), .val (.ref b16), .val (.ref b19), .val (.int (pk &&& (3 : Int32))), .val (.int qq), .val (.int (1 : Int32))] [(.int (1 : Int32))]))
              refine Go.st (fun _ kt => XS.goto X45.here hx rfl (pc0 := 236) (pc' := 240) rfl (hb hby at_236) (by decide) (by decide) kt) ?_
              show Go p e below _ (T45.setTop (mkF m 240 #[.val (.int i), .val (.int j), .val (.int k), .val (.int sh), .val (.int pk), .val (.int qq), .val (.int v1), .val (.int v2), .val (.int sa), .val (.int sb), .val (.int sc), .val (.int s0), .val (.int s1), .val (.int s2), .val (.ref b1), .val (.ref b8), .val (.ref b16), .val (.ref b19), .val (.int (pk &&& (3 : Int32))), .val (.int qq), .val (.int (1 : Int32))] [(.int (1 : Int32))]))
              refine Go.retN X45 hx (t := .boolean) Bd.returns (by simp) (BodyLoose.notSynchronized Bd) (hb hby at_240) (Q := (Q_rm0 Z i j k sh pk qq h0 n0)) (by decide) (by decide) ?_
              show (Q_rm0 Z i j k sh pk qq h0 n0) _ T45.heap _
              rw [e45]
              exact ⟨rfl, N45⟩
            · refine Go.st (fun _ kt => XS.icmpYes X27.here hx rfl (pc0 := 211) (pc' := 220) rfl (hb hby at_211) rfl (feq hc211_44).2 (by decide) (by decide) kt) ?_
              show Go p e below _ (T27.setTop (mkF m 220 #[.val (.int i), .val (.int j), .val (.int k), .val (.int sh), .val (.int pk), .val (.int qq), .val (.int v1), .val (.int v2), .val (.int sa), .val (.int sb), .val (.int sc), .val (.int s0), .val (.int s1), .val (.int s2), .val (.ref b1), .val (.ref b8), .val (.ref b16), .val (.ref b19), .val (.int (pk &&& (3 : Int32))), .val (.int qq), .unset] []))
              refine Go.st (fun _ kt => XS.iconst X27.here hx rfl (hb hby at_220) kt) ?_
              show Go p e below _ (T27.setTop (mkF m 221 #[.val (.int i), .val (.int j), .val (.int k), .val (.int sh), .val (.int pk), .val (.int qq), .val (.int v1), .val (.int v2), .val (.int sa), .val (.int sb), .val (.int sc), .val (.int s0), .val (.int s1), .val (.int s2), .val (.ref b1), .val (.ref b8), .val (.ref b16), .val (.ref b19), .val (.int (pk &&& (3 : Int32))), .val (.int qq), .unset] [(.int (0 : Int32))]))
              refine Go.st (fun _ kt => XS.istore X27.here hx rfl (hb hby at_221) rfl (l' := #[.val (.int i), .val (.int j), .val (.int k), .val (.int sh), .val (.int pk), .val (.int qq), .val (.int v1), .val (.int v2), .val (.int sa), .val (.int sb), .val (.int sc), .val (.int s0), .val (.int s1), .val (.int s2), .val (.ref b1), .val (.ref b8), .val (.ref b16), .val (.ref b19), .val (.int (pk &&& (3 : Int32))), .val (.int qq), .val (.int (0 : Int32))]) rfl kt) ?_
              show Go p e below _ (T27.setTop (mkF m 223 #[.val (.int i), .val (.int j), .val (.int k), .val (.int sh), .val (.int pk), .val (.int qq), .val (.int v1), .val (.int v2), .val (.int sa), .val (.int sb), .val (.int sc), .val (.int s0), .val (.int s1), .val (.int s2), .val (.ref b1), .val (.ref b8), .val (.ref b16), .val (.ref b19), .val (.int (pk &&& (3 : Int32))), .val (.int qq), .val (.int (0 : Int32))] []))
              refine Go.st (fun _ kt => XS.aload X27.here hx rfl (hb hby at_223) rfl rfl kt) ?_
              show Go p e below _ (T27.setTop (mkF m 225 #[.val (.int i), .val (.int j), .val (.int k), .val (.int sh), .val (.int pk), .val (.int qq), .val (.int v1), .val (.int v2), .val (.int sa), .val (.int sb), .val (.int sc), .val (.int s0), .val (.int s1), .val (.int s2), .val (.ref b1), .val (.ref b8), .val (.ref b16), .val (.ref b19), .val (.int (pk &&& (3 : Int32))), .val (.int qq), .val (.int (0 : Int32))] [(.ref b19)]))
              refine Go.st (fun _ kt => XS.iload X27.here hx rfl (hb hby at_225) rfl kt) ?_
              show Go p e below _ (T27.setTop (mkF m 227 #[.val (.int i), .val (.int j), .val (.int k), .val (.int sh), .val (.int pk), .val (.int qq), .val (.int v1), .val (.int v2), .val (.int sa), .val (.int sb), .val (.int sc), .val (.int s0), .val (.int s1), .val (.int s2), .val (.ref b1), .val (.ref b8), .val (.ref b16), .val (.ref b19), .val (.int (pk &&& (3 : Int32))), .val (.int qq), .val (.int (0 : Int32))] [(.int qq), (.ref b19)]))
              have f48 := (A19.keep K27q)
              obtain ⟨cq47, kq47, q47a, q47b, q47c⟩ := isOf hZ rfl f48
              obtain ⟨_, _, ⟨T47, L47, k47, n47⟩, -, X47, ⟨Lc47, hQ47, l47, y47, z47⟩, st47⟩ := X27.virtualBack hx (y := (⟨"com/example/tributary/tributary/model/CostTable", "stride", "(I)I"⟩ : MethodName)) (z := (⟨"com/example/tributary/tributary/model/CostTable", "stride", "(I)I"⟩ : MethodName)) hown (mvT hZ (hw _ (List.mem_of_getElem? (i := 37) rfl))) (mvT hZ (hw _ (List.mem_of_getElem? (i := 38) rfl))) (notFace_of_selects (args := #[]) (mvT hZ (hw _ (List.mem_of_getElem? (i := 40) rfl)))) (mvT hZ (hw _ (List.mem_of_getElem? (i := 40) rfl))) (mvT hZ (hw _ (List.mem_of_getElem? (i := 39) rfl))) (by decide) (backOf (W := 0) (rm5 l Z a0 hw [] b19 qq bv27 kv27 br27 kr27 i v1 v2 (((1 : Int32) * s2) * s1) ((1 : Int32) * s2) (1 : Int32) T27.heap n0 Zs27 G27_0 G27_1 G27_2 G27_3) hZ (hw _ (List.mem_of_getElem? (i := 41) rfl)) (hw _ (List.mem_of_getElem? (i := 6) rfl)) (by decide) (by decide)) q47a q47c (g := (mkF m 227 #[.val (.int i), .val (.int j), .val (.int k), .val (.int sh), .val (.int pk), .val (.int qq), .val (.int v1), .val (.int v2), .val (.int sa), .val (.int sb), .val (.int sc), .val (.int s0), .val (.int s1), .val (.int s2), .val (.ref b1), .val (.ref b8), .val (.ref b16), .val (.ref b19), .val (.int (pk &&& (3 : Int32))), .val (.int qq), .val (.int (0 : Int32))] [(.int qq), (.ref b19)])) rfl (by rw [hml]; rfl) (Steps.refl _) (argsL := [(.int qq)]) (rest := []) (lenOf own_pd4 rfl) rfl (by show 2 * 0 + _ ≤ _; exact Nat.le_of_eq rfl) (hb hby at_227) (fun _ _ => ⟨rfl, rfl, (by decide : 7 + 0 ≤ _), (by decide : 35 + 0 ≤ _)⟩)
              dsimp only [Pt.U, Pt.locs, Pt.cells, Pt.slots] at X47 l47 y47 z47 st47 hQ47
              subst l47 y47 z47
              obtain ⟨rfl, N47q, e47⟩ := hQ47
              have N47 := Fr.app N27 N47q
              refine Go.tr st47 ?_
              show Go p e below _ (T47.setTop (mkF m 230 #[.val (.int i), .val (.int j), .val (.int k), .val (.int sh), .val (.int pk), .val (.int qq), .val (.int v1), .val (.int v2), .val (.int sa), .val (.int sb), .val (.int sc), .val (.int s0), .val (.int s1), .val (.int s2), .val (.ref b1), .val (.ref b8), .val (.ref b16), .val (.ref b19), .val (.int (pk &&& (3 : Int32))), .val (.int qq), .val (.int (0 : Int32))] [(.int (own_st qq i v1 v2 (((1 : Int32) * s2) * s1) ((1 : Int32) * s2) (1 : Int32)))]))
              refine Go.st (fun _ kt => XS.iload X47.here hx rfl (hb hby at_230) rfl kt) ?_
              show Go p e below _ (T47.setTop (mkF m 232 #[.val (.int i), .val (.int j), .val (.int k), .val (.int sh), .val (.int pk), .val (.int qq), .val (.int v1), .val (.int v2), .val (.int sa), .val (.int sb), .val (.int sc), .val (.int s0), .val (.int s1), .val (.int s2), .val (.ref b1), .val (.ref b8), .val (.ref b16), .val (.ref b19), .val (.int (pk &&& (3 : Int32))), .val (.int qq), .val (.int (0 : Int32))] [(.int (0 : Int32)), (.int (own_st qq i v1 v2 (((1 : Int32) * s2) * s1) ((1 : Int32) * s2) (1 : Int32)))]))
              refine Go.st (fun _ kt => XS.icmpNo X47.here hx rfl (hb hby at_232) rfl (teq (by rw [own_flip]; simp [hc138_29, hc150_32, hc163_35, hc180_38, hc197_41, hc211_44, hD.1, hD.2.1, hD.2.2, hD'.1, hD'.2.1, hD'.2.2, Int32.mul_comm])).2 kt) ?_
              show Go p e below _ (T47.setTop (mkF m 235 #[.val (.int i), .val (.int j), .val (.int k), .val (.int sh), .val (.int pk), .val (.int qq), .val (.int v1), .val (.int v2), .val (.int sa), .val (.int sb), .val (.int sc), .val (.int s0), .val (.int s1), .val (.int s2), .val (.ref b1), .val (.ref b8), .val (.ref b16), .val (.ref b19), .val (.int (pk &&& (3 : Int32))), .val (.int qq), .val (.int (0 : Int32))] []))
              refine Go.st (fun _ kt => XS.iconst X47.here hx rfl (hb hby at_235) kt) ?_
              show Go p e below _ (T47.setTop (mkF m 236 #[.val (.int i), .val (.int j), .val (.int k), .val (.int sh), .val (.int pk), .val (.int qq), .val (.int v1), .val (.int v2), .val (.int sa), .val (.int sb), .val (.int sc), .val (.int s0), .val (.int s1), .val (.int s2), .val (.ref b1), .val (.ref b8), .val (.ref b16), .val (.ref b19), .val (.int (pk &&& (3 : Int32))), .val (.int qq), .val (.int (0 : Int32))] [(.int (1 : Int32))]))
              refine Go.st (fun _ kt => XS.goto X47.here hx rfl (pc0 := 236) (pc' := 240) rfl (hb hby at_236) (by decide) (by decide) kt) ?_
              show Go p e below _ (T47.setTop (mkF m 240 #[.val (.int i), .val (.int j), .val (.int k), .val (.int sh), .val (.int pk), .val (.int qq), .val (.int v1), .val (.int v2), .val (.int sa), .val (.int sb), .val (.int sc), .val (.int s0), .val (.int s1), .val (.int s2), .val (.ref b1), .val (.ref b8), .val (.ref b16), .val (.ref b19), .val (.int (pk &&& (3 : Int32))), .val (.int qq), .val (.int (0 : Int32))] [(.int (1 : Int32))]))
              refine Go.retN X47 hx (t := .boolean) Bd.returns (by simp) (BodyLoose.notSynchronized Bd) (hb hby at_240) (Q := (Q_rm0 Z i j k sh pk qq h0 n0)) (by decide) (by decide) ?_
              show (Q_rm0 Z i j k sh pk qq h0 n0) _ T47.heap _
              rw [e47]
              exact ⟨rfl, N47⟩
set_option maxRecDepth 65536 in
set_option maxHeartbeats 40000000 in
theorem comes_1 {Post : Tables → Env → Array Value → State → Outcome → State → Prop} (hpost : ∀ tb e args s v u, (limb_1_1.after args s (.returned v) u = true ∧ limb_1_2.after args s (.returned v) u = true ∧ True) → FrameEnd s (.returned v) u (Jvm.fieldLocs frame_1_writes args s ++ Jvm.arrayLocs frame_1_arrays args s ++ Jvm.staticLocs frame_1_statics s) 24 192 → Post tb e args s (.returned v) u) :
    ArmFor flags0 classFile x code maxLocals ret World_1 tables_1 room_1 Calls_1 rest_1 Pre_1 Post := by
  intro l hfl _ _ p e ha hc hk s m args below hf hA hF happ hP
  obtain ⟨hcalls, hrest, hpre⟩ := hP
  obtain ⟨-, -, -, hnamed, -, -, -, hat⟩ := (Spec.applies_iff hf).mp happ
  obtain ⟨hg, hn⟩ := and_e (Cond.before_iff.mp (show (Jvm.Cond.and given_1 narrow_1).before args s = true from hpre))
  obtain ⟨g1, g2⟩ := and_e hg
  obtain ⟨g3, g4⟩ := and_e g2
  obtain ⟨g5, g6⟩ := and_e g4
  obtain ⟨g7, g8⟩ := and_e g6
  obtain ⟨g9, g10⟩ := and_e g8
  obtain ⟨g11, g12⟩ := and_e g10
  obtain ⟨w0, w1, w2, w3, w4, w5, rfl⟩ : ∃ w0 w1 w2 w3 w4 w5 : Value, args = #[w0, w1, w2, w3, w4, w5] := by
    have hs : args.size = 6 := by simpa [Cond.value, given_1] using g1
    obtain ⟨L⟩ := args
    match L, hs with
    | [w0, w1, w2, w3, w4, w5], _ => exact ⟨w0, w1, w2, w3, w4, w5, rfl⟩
  have hw := fun d (hd : d ∈ tables_1) => atoms_spec (ws := Jvm.Cond.code x code maxLocals ret :: tables_1) hat d (List.mem_cons_of_mem _ hd)
  have hfit : Fit s := fun {y c} hc i hi => by
    obtain ⟨ha, rfl⟩ := Array.getElem?_eq_some_iff.mp hc
    have q := List.all_eq_true.mp ((Array.all_eq_true_iff_forall_mem.mp hF) _ (Array.getElem_mem ha)) i (List.mem_range.mpr hi)
    simpa [Array.getElem?_eq_getElem hi] using q
  obtain ⟨i0, ei0⟩ := is_v g3
  obtain rfl : w0 = (.int i0) := Option.some.inj ei0
  obtain ⟨i1, ei1⟩ := is_v g5
  obtain rfl : w1 = (.int i1) := Option.some.inj ei1
  obtain ⟨i2, ei2⟩ := is_v g7
  obtain rfl : w2 = (.int i2) := Option.some.inj ei2
  obtain ⟨i3, ei3⟩ := is_v g9
  obtain rfl : w3 = (.int i3) := Option.some.inj ei3
  obtain ⟨i4, ei4⟩ := is_v g11
  obtain rfl : w4 = (.int i4) := Option.some.inj ei4
  obtain ⟨i5, ei5⟩ := is_v g12
  obtain rfl : w5 = (.int i5) := Option.some.inj ei5
  obtain ⟨n, o, h1, h2, h3, _, L, rfl, ⟨rfl, N⟩, hq⟩ := rm0 l s _ hw tables_1 i0 i1 i2 i3 i4 i5 s.heap s.heap.size (Nat.le_refl _) p e ha hc hk s m _ below hf ((Spec.applies_iff_loose hf).mp happ).1 ⟨rfl, State.Warmed39.refl s, rfl⟩ trivial
  refine ⟨n, _, h1, h2, h3, hpost _ _ _ _ _ _ ⟨Cond.after_iff.mpr rfl, Cond.after_iff.mpr (eq_i res_at (Term.int_eval (1)) rfl), trivial⟩ ⟨hq.1, hq.2.1, (hq.2.2.sift fun y hy => Or.inr (N y hy)).mono (by decide) (by decide)⟩⟩
theorem main_1_1 : Claimed_1_1 := comes_1 fun _ _ _ _ _ _ h hF => ⟨h.1, hF⟩
theorem main_1_2 : Claimed_1_2 := comes_1 fun _ _ _ _ _ _ h hF => ⟨h.2.1, hF⟩
end Jvm.Pilot.@@N@@
namespace Jvm.Pilot.@@N@@
open Jvm Jvm.ClassFile Sem Op Lib Jvm.Free Jvm.Stand Jvm.Pilot.@@N@@.Jvm.D
/-! MADE BY PROGRAM (witnessworld.py) out of the Statement's table words and the real class files: 11 classes; the members and pool entries that the words name. The judged class is class 1, her method 1. -/
namespace start1
open Jvm.ClassFile
def u (s : String) : CpInfo := .utf8 (stringToUtf16 s)
/-- a pool by its gaps: so many unusable entries, then the entry; so many at the end -/
def gap : Nat → List CpInfo → List CpInfo
  | 0, r => r
  | n + 1, r => .unusable :: gap n r
def poolList (es : List (Nat × CpInfo)) (last : Nat) : List CpInfo := es.foldr (fun e r => gap e.1 (e.2 :: r)) (gap last [])
def pool (es : List (Nat × CpInfo)) (last : Nat) : Array CpInfo := ⟨poolList es last⟩
def fileOf (pool : Array CpInfo) (this : Nat) (attrs : Array Attribute := #[]) (ms : Array MethodInfo := #[]) (fl : Nat := 33) (sup : Nat := 0) (ifs : Array Nat := #[]) (fds : Array FieldInfo := #[]) : ClassFile where
  minorVersion := 0
  majorVersion := 65
  constantPool := pool
  accessFlags := fl
  thisClass := this
  superClass := sup
  interfaces := ifs
  fields := fds
  methods := ms
  attributes := attrs
def plain (name : String) (sup : Option ClassId) : Class where
  name := name
  kind := .ordinary
  loader := none
  accessFlags := 33
  super := sup
  interfaces := #[]
  cf := none
  fields := #[]
  methods := #[]
  instanceTypes := #[]
  staticTypes := #[]
  resolved := #[]
  callSites := []
  init := .initialized
  statics := none
  mirror := none

def pool0 : Array CpInfo := pool [(5, u "<init>"), (0, u "()V"), (1, .class_ 10), (1, u "java/lang/Object"), (85, u "clone"), (0, u "()Ljava/lang/Object;")] 26

def k0c0 : Code := { maxStack := 0, maxLocals := 1, code := object_method_1_code, exceptionTable := #[], attributes := #[] }
def k0m0 : Method := { name := "<init>", desc := "()V", sig := { parameters := [], returnType := none }, accessFlags := 1, code := some k0c0 }
def k0m1 : Method := { name := "clone", desc := "()Ljava/lang/Object;", sig := { parameters := [], returnType := some (.object "java/lang/Object") }, accessFlags := 260, code := none }
/-- java/lang/Object -/
def k0 : Class := { plain "java/lang/Object" none with
  accessFlags := 33
  interfaces := #[]
  cf := some (fileOf pool0 8 #[] #[{ accessFlags := 1, nameIndex := 5, descriptorIndex := 6, attributes := #[] }, { accessFlags := 260, nameIndex := 96, descriptorIndex := 97, attributes := #[] }] 33 0 #[] #[])
  fields := #[]
  methods := #[k0m0, k0m1]
  instanceTypes := #[]
  staticTypes := #[]
  resolved := Array.replicate 124 none
  statics := none }

def pool1 : Array CpInfo := pool [(2, .class_ 4), (1, u "java/lang/Object"), (0, u "<init>"), (0, u "()V"), (0, .integer 1073741823), (0, .integer 2147483647), (0, .class_ 10), (0, u "com/example/tributary/tributary/model/CostTable"), (0, .methodref 9 12), (0, .nameAndType 5 13), (0, u "([I[I[D)V"), (0, .methodref 9 15), (0, .nameAndType 16 17), (0, u "stride"), (0, u "(I)I"), (0, .class_ 19), (0, u "com/example/tributary/tributary/model/CostTableStridePinLaw"), (2, u "law"), (0, u "(IIIIII)Z")] 7

def k1m0 : Method := { name := "<init>", desc := "()V", sig := { parameters := [], returnType := none }, accessFlags := 1, code := none }
def k1c1 : Code := { maxStack := 5, maxLocals := 21, code := code, exceptionTable := #[], attributes := #[] }
def k1m1 : Method := { name := "law", desc := "(IIIIII)Z", sig := { parameters := [.int, .int, .int, .int, .int, .int], returnType := some .boolean }, accessFlags := 9, code := some k1c1 }
/-- com/example/tributary/tributary/model/CostTableStridePinLaw -/
def k1 : Class := { plain "com/example/tributary/tributary/model/CostTableStridePinLaw" (some 0) with
  accessFlags := 49
  interfaces := #[]
  cf := some (fileOf pool1 18 #[] #[{ accessFlags := 1, nameIndex := 5, descriptorIndex := 6, attributes := #[] }, { accessFlags := 9, nameIndex := 22, descriptorIndex := 23, attributes := #[] }] 49 2 #[] #[])
  fields := #[]
  methods := #[k1m0, k1m1]
  instanceTypes := #[]
  staticTypes := #[]
  resolved := Array.replicate 31 none
  statics := none }

def pool2 : Array CpInfo := pool [(3, .methodref 4 5), (0, .class_ 6), (0, .nameAndType 7 8), (0, u "java/lang/Object"), (0, u "<init>"), (0, u "()V"), (18, .methodref 28 29), (0, .class_ 30), (0, .nameAndType 31 32), (0, u "com/example/tributary/tributary/model/CostTable"), (0, u "entries"), (0, u "([I)J"), (3, .methodref 37 38), (0, .class_ 39), (0, .nameAndType 40 41), (0, u "[I"), (0, u "clone"), (0, u "()Ljava/lang/Object;"), (0, .fieldref 28 43), (0, .nameAndType 44 39), (0, u "variables"), (0, .fieldref 28 46), (0, .nameAndType 47 39), (0, u "sizes"), (0, .methodref 28 49), (0, .nameAndType 50 51), (0, u "strides"), (0, u "([I)[I"), (0, .fieldref 28 53), (0, .nameAndType 50 39), (0, .fieldref 28 55), (0, .nameAndType 56 57), (0, u "costs"), (0, u "[D"), (5, .long 9223372036854775807), (16, u "stride"), (0, u "(I)I"), (0, u "MAX_ENTRIES"), (0, u "J"), (1, u "([I[I[D)V")] 38

def k2c0 : Code := { maxStack := 4, maxLocals := 6, code := prog_87_method_1_code, exceptionTable := #[], attributes := #[] }
def k2m0 : Method := { name := "<init>", desc := "([I[I[D)V", sig := { parameters := [(.array .int), (.array .int), (.array .double)], returnType := none }, accessFlags := 1, code := some k2c0 }
def k2c1 : Code := { maxStack := 3, maxLocals := 4, code := prog_87_method_2_code, exceptionTable := #[], attributes := #[] }
def k2m1 : Method := { name := "strides", desc := "([I)[I", sig := { parameters := [(.array .int)], returnType := some (.array .int) }, accessFlags := 9, code := some k2c1 }
def k2c2 : Code := { maxStack := 6, maxLocals := 7, code := prog_87_method_3_code, exceptionTable := #[], attributes := #[] }
def k2m2 : Method := { name := "entries", desc := "([I)J", sig := { parameters := [(.array .int)], returnType := some .long }, accessFlags := 9, code := some k2c2 }
def k2c3 : Code := { maxStack := 2, maxLocals := 4, code := prog_87_method_9_code, exceptionTable := #[], attributes := #[] }
def k2m3 : Method := { name := "stride", desc := "(I)I", sig := { parameters := [.int], returnType := some .int }, accessFlags := 1, code := some k2c3 }
/-- com/example/tributary/tributary/model/CostTable -/
def k2 : Class := { plain "com/example/tributary/tributary/model/CostTable" (some 0) with
  accessFlags := 49
  interfaces := #[]
  cf := some (fileOf pool2 28 #[] #[{ accessFlags := 1, nameIndex := 7, descriptorIndex := 85, attributes := #[] }, { accessFlags := 9, nameIndex := 50, descriptorIndex := 51, attributes := #[] }, { accessFlags := 9, nameIndex := 31, descriptorIndex := 32, attributes := #[] }, { accessFlags := 1, nameIndex := 80, descriptorIndex := 81, attributes := #[] }] 49 4 #[] #[{ accessFlags := 25, nameIndex := 82, descriptorIndex := 83, attributes := #[] }, { accessFlags := 18, nameIndex := 44, descriptorIndex := 39, attributes := #[] }, { accessFlags := 18, nameIndex := 47, descriptorIndex := 39, attributes := #[] }, { accessFlags := 18, nameIndex := 50, descriptorIndex := 39, attributes := #[] }, { accessFlags := 18, nameIndex := 56, descriptorIndex := 57, attributes := #[] }])
  fields := #[{ name := "MAX_ENTRIES", type := .long, accessFlags := 25, slot := 0, constantValue := 0 }, { name := "variables", type := (.array .int), accessFlags := 18, slot := 0, constantValue := 0 }, { name := "sizes", type := (.array .int), accessFlags := 18, slot := 1, constantValue := 0 }, { name := "strides", type := (.array .int), accessFlags := 18, slot := 2, constantValue := 0 }, { name := "costs", type := (.array .double), accessFlags := 18, slot := 3, constantValue := 0 }]
  methods := #[k2m0, k2m1, k2m2, k2m3]
  instanceTypes := #[(.array .int), (.array .int), (.array .int), (.array .double)]
  staticTypes := #[.long]
  resolved := Array.replicate 124 none
  statics := none }

def pool3 : Array CpInfo := pool [(1, .class_ 2), (0, u "java/lang/Cloneable"), (0, .class_ 4), (0, u "java/lang/Object")] 2

/-- java/lang/Cloneable -/
def k3 : Class := { plain "java/lang/Cloneable" (some 0) with
  accessFlags := 1537
  interfaces := #[]
  cf := some (fileOf pool3 1 #[] #[] 1537 3 #[] #[])
  fields := #[]
  methods := #[]
  instanceTypes := #[]
  staticTypes := #[]
  resolved := Array.replicate 7 none
  statics := none }

def pool4 : Array CpInfo := pool [(1, u "java/io/Serializable"), (0, .class_ 1), (0, u "java/lang/Object"), (0, .class_ 3)] 3

/-- java/io/Serializable -/
def k4 : Class := { plain "java/io/Serializable" (some 0) with
  accessFlags := 1537
  interfaces := #[]
  cf := some (fileOf pool4 2 #[] #[] 1537 4 #[] #[])
  fields := #[]
  methods := #[]
  instanceTypes := #[]
  staticTypes := #[]
  resolved := Array.replicate 8 none
  statics := none }

/-- the primitive byte -/
def k5 : Class := { plain "byte" none with kind := .primitive 'B', accessFlags := 0x411 }
/-- [B -/
def k6 : Class := { plain "[B" (some 0) with kind := .array 5 .byte, interfaces := #[3, 4], accessFlags := 1041 }

/-- the primitive double -/
def k7 : Class := { plain "double" none with kind := .primitive 'D', accessFlags := 0x411 }
/-- [D -/
def k8 : Class := { plain "[D" (some 0) with kind := .array 7 .double, interfaces := #[3, 4], accessFlags := 1041 }

/-- the primitive int -/
def k9 : Class := { plain "int" none with kind := .primitive 'I', accessFlags := 0x411 }
/-- [I -/
def k10 : Class := { plain "[I" (some 0) with kind := .array 9 .int, interfaces := #[3, 4], accessFlags := 1041 }

def heap : Heap := #[]
def classes : Array Class := #[k0, k1, k2, k3, k4, k5, k6, k7, k8, k9, k10]
def interned : List (Array UInt16 × Addr) := []
def slotsUsed : Nat := 0
def theMethod : MethodId := ⟨1, 1⟩
def args0 : Array Value := #[.int 5, .int 6, .int 7, .int 8, .int 9, .int 10]
def aboutOver (below : List Frame) : State where
  vm := { classes := classes, interned := interned.toArray }
  heap := heap
  slotsUsed := slotsUsed
  threads := #[{ frames := .invoking theMethod args0 :: below }]
def below0 : List Frame := [.native { method := ⟨0, 0⟩, args := #[] }]
def about1 : State := aboutOver below0
def p0 : Program := .bare "" "" ""
def e0 : Env := launch0.env 0 0 0
theorem w_frames : about1.frames = Frame.invoking theMethod args0 :: below0 := rfl
set_option maxRecDepth 65536 in
theorem w_args : argsFit about1.vm theMethod args0 = true := by decide +kernel
set_option maxRecDepth 65536 in
theorem w_heap : heapFits about1 = true := by decide +kernel
set_option maxRecDepth 65536 in
theorem w_runnable : about1.curStatus? = some .runnable := by decide +kernel
set_option maxRecDepth 65536 in
theorem w_alone : about1.alone = true := by decide +kernel
set_option maxRecDepth 65536 in
theorem w_named : about1.methodNamed? x = some theMethod := by decide +kernel
set_option maxRecDepth 65536 in
theorem w_hears : about1.hears theMethod below0 = true := by decide +kernel
set_option maxRecDepth 65536 in
theorem w_ripe : about1.ripe theMethod args0 below0 = true := by decide +kernel
theorem w_running : about1.status = .running := rfl
set_option maxRecDepth 65536 in
theorem w_room : about1.hasRoom e0.platform room_1 = true :=
  launch0.hasRoom_least _ room_1 (by decide +kernel) (by decide +kernel) (by decide +kernel) (by decide +kernel) (by decide +kernel) (by decide +kernel)
theorem allAtoms_all (ts : List Jvm.Cond) (a : Array Jvm.Value) (st : Jvm.State) : (allAtoms ts).before a st = ts.all (fun c => c.before a st) := by
  induction ts with
  | nil => rfl
  | cons c t ih =>
    show (Jvm.Cond.and c (allAtoms t)).before a st = _
    rw [Jvm.Cond.before_and, ih, List.all_cons]
def words1 : List Jvm.Cond := Jvm.Cond.code x code maxLocals ret :: tables_1
/-- a 'code' word, met by the world's own term for the bytes: nothing is compared byte by byte -/
theorem code_word {y : MethodName} {bytes : ByteArray} {mx : Nat} {rt : Option FieldType} {a : Array Value} {s : State} {m : MethodId} {meth : Method} {c : Code} (h1 : s.methodNamed? y = some m) (h2 : s.vm.method? m = some meth) (h3 : meth.code = some c) (h4 : c.code = bytes)
    (h5 : (c.maxLocals == mx && c.exceptionTable.isEmpty && decide (c.maxStack ≤ mostOperands) && decide (meth.sig.returnType = rt) && !meth.locks && decide (parseMethodDescriptor y.desc = some meth.sig)) = true) : (Jvm.Cond.code y bytes mx rt).before a s = true := by
  simp only [Bool.and_eq_true, beq_iff_eq, Bool.not_eq_true', decide_eq_true_eq] at h5
  obtain ⟨⟨⟨⟨⟨g1, g2⟩, g3⟩, g4⟩, g5⟩, g6⟩ := h5
  simp [Cond.before, Cond.holds, Cond.value, h1, h2, h3, h4, g1, g2, g3, g4, g5, g6]
def isCode : Jvm.Cond → Bool
  | .code _ _ _ _ => true
  | _ => false
theorem all_split {L : List Jvm.Cond} {P : Jvm.Cond → Bool} (h1 : L.all (fun c => isCode c || P c) = true) (h2 : ∀ c ∈ L.filter isCode, P c = true) : L.all P = true := by
  refine List.all_eq_true.mpr fun c hc => ?_
  have h := List.all_eq_true.mp h1 c hc
  rcases Bool.eq_false_or_eq_true (isCode c) with hi | hi
  · exact h2 c (List.mem_filter.mpr ⟨hc, hi⟩)
  · simpa [hi] using h
set_option maxRecDepth 65536 in
theorem w_c0 : (Jvm.Cond.code x code maxLocals ret).before args0 about1 = true := code_word (m := ⟨1, 1⟩) (meth := k1m1) (c := k1c1) (by decide +kernel) rfl rfl rfl (by decide +kernel)
set_option maxRecDepth 65536 in
theorem w_c1 : (Jvm.Cond.code ({ cls := "com/example/tributary/tributary/model/CostTable", name := "<init>", desc := "([I[I[D)V" } : Jvm.MethodName) prog_87_method_1_code (6 : Nat) (Option.none : Option Jvm.ClassFile.FieldType)).before args0 about1 = true := code_word (m := ⟨2, 0⟩) (meth := k2m0) (c := k2c0) (by decide +kernel) rfl rfl rfl (by decide +kernel)
set_option maxRecDepth 65536 in
theorem w_c2 : (Jvm.Cond.code ({ cls := "java/lang/Object", name := "<init>", desc := "()V" } : Jvm.MethodName) object_method_1_code (1 : Nat) (Option.none : Option Jvm.ClassFile.FieldType)).before args0 about1 = true := code_word (m := ⟨0, 0⟩) (meth := k0m0) (c := k0c0) (by decide +kernel) rfl rfl rfl (by decide +kernel)
set_option maxRecDepth 65536 in
theorem w_c3 : (Jvm.Cond.code ({ cls := "com/example/tributary/tributary/model/CostTable", name := "entries", desc := "([I)J" } : Jvm.MethodName) prog_87_method_3_code (7 : Nat) (Option.some Jvm.ClassFile.FieldType.long)).before args0 about1 = true := code_word (m := ⟨2, 2⟩) (meth := k2m2) (c := k2c2) (by decide +kernel) rfl rfl rfl (by decide +kernel)
set_option maxRecDepth 65536 in
theorem w_c4 : (Jvm.Cond.code ({ cls := "com/example/tributary/tributary/model/CostTable", name := "strides", desc := "([I)[I" } : Jvm.MethodName) prog_87_method_2_code (4 : Nat) (Option.some (Jvm.ClassFile.FieldType.array Jvm.ClassFile.FieldType.int))).before args0 about1 = true := code_word (m := ⟨2, 1⟩) (meth := k2m1) (c := k2c1) (by decide +kernel) rfl rfl rfl (by decide +kernel)
set_option maxRecDepth 65536 in
theorem w_c5 : (Jvm.Cond.code ({ cls := "com/example/tributary/tributary/model/CostTable", name := "stride", desc := "(I)I" } : Jvm.MethodName) prog_87_method_9_code (4 : Nat) (Option.some Jvm.ClassFile.FieldType.int)).before args0 about1 = true := code_word (m := ⟨2, 3⟩) (meth := k2m3) (c := k2c3) (by decide +kernel) rfl rfl rfl (by decide +kernel)
def codes1 : List Jvm.Cond := [Jvm.Cond.code x code maxLocals ret, Jvm.Cond.code ({ cls := "com/example/tributary/tributary/model/CostTable", name := "<init>", desc := "([I[I[D)V" } : Jvm.MethodName) prog_87_method_1_code (6 : Nat) (Option.none : Option Jvm.ClassFile.FieldType), Jvm.Cond.code ({ cls := "java/lang/Object", name := "<init>", desc := "()V" } : Jvm.MethodName) object_method_1_code (1 : Nat) (Option.none : Option Jvm.ClassFile.FieldType), Jvm.Cond.code ({ cls := "com/example/tributary/tributary/model/CostTable", name := "entries", desc := "([I)J" } : Jvm.MethodName) prog_87_method_3_code (7 : Nat) (Option.some Jvm.ClassFile.FieldType.long), Jvm.Cond.code ({ cls := "com/example/tributary/tributary/model/CostTable", name := "strides", desc := "([I)[I" } : Jvm.MethodName) prog_87_method_2_code (4 : Nat) (Option.some (Jvm.ClassFile.FieldType.array Jvm.ClassFile.FieldType.int)), Jvm.Cond.code ({ cls := "com/example/tributary/tributary/model/CostTable", name := "stride", desc := "(I)I" } : Jvm.MethodName) prog_87_method_9_code (4 : Nat) (Option.some Jvm.ClassFile.FieldType.int)]
set_option maxRecDepth 65536 in
theorem codes_eq : words1.filter isCode = codes1 := rfl
theorem w_codes : ∀ c ∈ words1.filter isCode, c.before args0 about1 = true := by
  rw [codes_eq]
  intro c hc
  simp only [codes1, List.mem_cons, List.not_mem_nil, or_false] at hc
  rcases hc with rfl | rfl | rfl | rfl | rfl | rfl
  · exact w_c0
  · exact w_c1
  · exact w_c2
  · exact w_c3
  · exact w_c4
  · exact w_c5
set_option maxRecDepth 65536 in
theorem w_t1 : (words1.take 24).all (fun c => isCode c || c.before args0 about1) = true := by decide +kernel
set_option maxRecDepth 65536 in
theorem w_t2 : (words1.drop 24).all (fun c => isCode c || c.before args0 about1) = true := by decide +kernel
theorem w_tables : (allAtoms (Jvm.Cond.code x code maxLocals ret :: tables_1)).before args0 about1 = true := by
  rw [allAtoms_all]
  show words1.all (fun c => c.before args0 about1) = true
  refine all_split ?_ w_codes
  rw [← List.take_append_drop 24 words1, List.all_append, w_t1, w_t2]
  rfl
set_option maxRecDepth 65536 in
theorem w_case : (Jvm.Cond.and given_1 narrow_1).before args0 about1 = true := by decide +kernel
theorem w_applies : (headSpec (Jvm.Cond.code x code maxLocals ret :: tables_1) room_1).applies x e0.platform about1 = true :=
  (Spec.applies_iff w_frames).mpr ⟨w_running, w_runnable, w_alone, w_named, w_hears, w_ripe, w_room, w_tables⟩
theorem atStart : AtStart classFile x code maxLocals ret World_1 tables_1 room_1 Calls_1 rest_1 Pre_1 launch0 p0 e0 about1 theMethod args0 below0 :=
  ⟨lists_1, trivial, launch0.admits_env _ _ _, launch0.least_env, fairChoices_fair.cas, fairChoices_fair.clock, w_frames, w_args, w_heap, w_applies, trivial, trivial, w_case⟩
end start1
theorem witness_1 : WitnessClaimed_1 := ⟨start1.p0, start1.e0, start1.about1, start1.theMethod, start1.args0, start1.below0, start1.atStart⟩
end Jvm.Pilot.@@N@@
