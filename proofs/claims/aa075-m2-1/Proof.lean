import JvmDerived
import JvmDerived.Pilot.@@N@@Statement
import JvmDerived.Pilot.@@N@@Code
set_option linter.unusedVariables false
set_option linter.unusedSimpArgs false
namespace Jvm.Pilot.@@N@@
open Jvm Jvm.ClassFile Sem Op Lib Jvm.Free Jvm.Stand Jvm.LawKit Jvm.RoadKit Bundle Jvm.Pilot.@@N@@.Jvm.D
section Own
variable {p : Program} {l : Launch} {e : Env} {R : Room} {s : State} {m : MethodId} {args : Array Value} {below : List Frame} {meth : Method} {c : Code} {T : State} {locs : List Loc} {cells slots : Nat} {G : State → Outcome → Prop}
def Go (p : Program) (e : Env) (below : List Frame) (G : State → Outcome → Prop) (st : State) : Prop := ∃ s₂ o, Steps p.tables e below st s₂ ∧ s₂.status = .running ∧ Ended s₂ below o ∧ G s₂ o
theorem Go.st {A B : State} (k : ∀ t, Steps p.tables e below B t → Steps p.tables e below A t) (h : Go p e below G B) : Go p e below G A := by
  obtain ⟨s₂, o, h1, h2⟩ := h
  exact ⟨s₂, o, k _ h1, h2⟩
theorem Go.tr {A B : State} (k : Steps p.tables e below A B) (h : Go p e below G B) : Go p e below G A := by
  obtain ⟨s₂, o, h1, h2⟩ := h
  exact ⟨s₂, o, k.trans h1, h2⟩
theorem Go.retW (X : Stand p l e R s m args below meth c T locs cells slots) (hx : p.tables.exec = Jvm.exec) {t : FieldType} (hret : meth.sig.returnType = some t) {w : Value} {i : Instr} (hn : narrow t w = w)
    (hi : (i = .ireturn ∧ (t = .int ∨ t = .boolean ∨ t = .byte ∨ t = .char ∨ t = .short) ∧ ∃ z, w = .int z) ∨ (i = .lreturn ∧ t = .long ∧ ∃ z, w = .long z) ∨ (i = .dreturn ∧ t = .double ∧ ∃ z, w = .double z) ∨ (i = .freturn ∧ t = .float ∧ ∃ z, w = .float z) ∨ (i = .areturn ∧ t.isReference = true ∧ w.isRef = true))
    (hlk : meth.locks = false) {pc : Nat} {Ls : Array Slot} {rest : List Value} (hd : decode c.code pc = .ok (i, 1)) {C S : Nat} {Q : Option Value → Heap → List Loc → Prop} (hC : cells ≤ C) (hS : slots ≤ S) (q : Q (some w) T.heap locs) :
    Go p e below (fun s₂ o => ∃ v L, o = .returned v ∧ Q v s₂.heap L ∧ FrameEnd s o s₂ L C S) (T.setTop (mkF m pc Ls (w :: rest))) := by
  obtain ⟨fs, hr, hrun, hended, hW, hsame⟩ := X.leave (v := some w) (fun h => by rw [hret] at h; cases h) hlk
  exact ⟨_, _, retOut X hx hret hn hi hd hr, hrun, hended, _, _, rfl, q, ⟨_, rfl⟩, hW, hsame.mono hC hS⟩
theorem Go.retN (X : Stand p l e R s m args below meth c T locs cells slots) (hx : p.tables.exec = Jvm.exec) {t : FieldType} (hret : meth.sig.returnType = some t) (ht : t = .boolean ∨ t = .byte ∨ t = .char ∨ t = .short) (hlk : meth.locks = false) {pc : Nat} {Ls : Array Slot} {z : Int32} {rest : List Value} (hd : decode c.code pc = .ok (.ireturn, 1))
    {C S : Nat} {Q : Option Value → Heap → List Loc → Prop} (hC : cells ≤ C) (hS : slots ≤ S) (q : Q (some (.int (nar t z))) T.heap locs) :
    Go p e below (fun s₂ o => ∃ v L, o = .returned v ∧ Q v s₂.heap L ∧ FrameEnd s o s₂ L C S) (T.setTop (mkF m pc Ls (.int z :: rest))) := by
  obtain ⟨fs, hr, hrun, hended, hW, hsame⟩ := X.leave (v := some (.int (nar t z))) (fun h => by rw [hret] at h; cases h) hlk
  exact ⟨_, _, Jvm.RoadKit.retN X hx hret ht hd hr, hrun, hended, _, _, rfl, q, ⟨_, rfl⟩, hW, hsame.mono hC hS⟩
theorem Go.retI (X : Stand p l e R s m args below meth c T locs cells slots) (hx : p.tables.exec = Jvm.exec) (hret : meth.sig.returnType = some .int) (hlk : meth.locks = false) {pc : Nat} {Ls : Array Slot} {z : Int32} {rest : List Value} (hd : decode c.code pc = .ok (.ireturn, 1))
    {C S : Nat} {Q : Option Value → Heap → List Loc → Prop} (hC : cells ≤ C) (hS : slots ≤ S) (q : Q (some (.int z)) T.heap locs) :
    Go p e below (fun s₂ o => ∃ v L, o = .returned v ∧ Q v s₂.heap L ∧ FrameEnd s o s₂ L C S) (T.setTop (mkF m pc Ls (.int z :: rest))) :=
  Go.retW X hx hret rfl (Or.inl ⟨rfl, Or.inl rfl, z, rfl⟩) hlk hd hC hS q
theorem Go.retL (X : Stand p l e R s m args below meth c T locs cells slots) (hx : p.tables.exec = Jvm.exec) (hret : meth.sig.returnType = some .long) (hlk : meth.locks = false) {pc : Nat} {Ls : Array Slot} {z : Int64} {rest : List Value} (hd : decode c.code pc = .ok (.lreturn, 1))
    {C S : Nat} {Q : Option Value → Heap → List Loc → Prop} (hC : cells ≤ C) (hS : slots ≤ S) (q : Q (some (.long z)) T.heap locs) :
    Go p e below (fun s₂ o => ∃ v L, o = .returned v ∧ Q v s₂.heap L ∧ FrameEnd s o s₂ L C S) (T.setTop (mkF m pc Ls (.long z :: rest))) :=
  Go.retW X hx hret rfl (Or.inr (Or.inl ⟨rfl, rfl, z, rfl⟩)) hlk hd hC hS q
theorem Go.retA (X : Stand p l e R s m args below meth c T locs cells slots) (hx : p.tables.exec = Jvm.exec) {t : FieldType} (hret : meth.sig.returnType = some t) {w : Value} (ht : t.isReference = true) (hw : w.isRef = true) (hlk : meth.locks = false) {pc : Nat} {Ls : Array Slot} {rest : List Value} (hd : decode c.code pc = .ok (.areturn, 1))
    {C S : Nat} {Q : Option Value → Heap → List Loc → Prop} (hC : cells ≤ C) (hS : slots ≤ S) (q : Q (some w) T.heap locs) :
    Go p e below (fun s₂ o => ∃ v L, o = .returned v ∧ Q v s₂.heap L ∧ FrameEnd s o s₂ L C S) (T.setTop (mkF m pc Ls (w :: rest))) :=
  Go.retW X hx hret (by rcases ref_cases hw with rfl | ⟨a, rfl⟩ <;> cases t <;> first | rfl | cases ht) (Or.inr (Or.inr (Or.inr (Or.inr ⟨rfl, ht, hw⟩)))) hlk hd hC hS q
theorem Go.retV (X : Stand p l e R s m args below meth c T locs cells slots) (hx : p.tables.exec = Jvm.exec) (hret : meth.sig.returnType = none) (hlk : meth.locks = false) {pc : Nat} {Ls : Array Slot} (hd : decode c.code pc = .ok (.return_, 1))
    {C S : Nat} {Q : Option Value → Heap → List Loc → Prop} (hC : cells ≤ C) (hS : slots ≤ S) (q : Q none T.heap locs) :
    Go p e below (fun s₂ o => ∃ v L, o = .returned v ∧ Q v s₂.heap L ∧ FrameEnd s o s₂ L C S) (T.setTop (mkF m pc Ls [])) := by
  obtain ⟨fs, hr, hrun, hended, hW, hsame⟩ := X.leave (v := none) (fun _ => rfl) hlk
  exact ⟨_, _, X.returnOut hx hret hd hr, hrun, hended, _, _, rfl, q, ⟨_, rfl⟩, hW, hsame.mono hC hS⟩
end Own
theorem own_self {Z s : State} {a0 args : Array Value} {y : MethodName} {n : Nat} (hZ : Z.Warmed39 s.vm) (wi : (Cond.instantiable y.cls n).before a0 Z = true) (wp : (Cond.privateMethod y).before a0 Z = true) (wm : (Cond.instanceMethod y).before a0 Z = true) (hy : y.cls ≠ "java/lang/invoke/MethodHandle" ∧ y.cls ≠ "java/lang/invoke/VarHandle") : (Cond.selects y.cls y y).before args s = true := by
  have wi' : (Cond.instantiable y.cls n).before args s = true := mv hZ wi
  obtain ⟨c, k, i1, i2, -, i4, -⟩ := Cond.instantiable_spec wi'
  simp only [Bool.or_eq_false_iff] at i4
  exact selects_self_of_private i1 i2 i4.1 (Cond.privateMethod_at (mvP hZ wp (args := #[]))) (mv hZ wm) hy
section OwnAV
variable {Z : State} {h h' : Heap} {a b : Addr} {ty : FieldType} {n : Int32} {ws : List Addr} {sl : Nat} {v d : Value} {k : ClassId} {vs : List Value}
def AV (Z : State) (h : Heap) (a : Addr) (ty : FieldType) (n : Int32) : Prop := ∃ c : Cell, Arr Z h a c ty ∧ c.slots.size = n.toNatClampNeg ∧ ¬ n < 0 ∧ ∀ (i : Nat) (v : Value), c.slots[i]? = some v → fits ty v = true
theorem AV.lt (F : AV Z h a ty n) : a < h.size := by obtain ⟨c, A, -⟩ := F; exact A.lt
theorem AV.ext (F : AV Z h a ty n) (E : Ext h h') : AV Z h' a ty n := by obtain ⟨c, A, r⟩ := F; exact ⟨c, A.ext E, r⟩
theorem AV.other (F : AV Z h a ty n) (W : Wr h h' b sl v) (q : a ≠ b) : AV Z h' a ty n := by obtain ⟨c, A, r⟩ := F; exact ⟨c, A.other W q, r⟩
theorem AV.keep (F : AV Z h a ty n) (K : Keep h h' ws) (q : a ∉ ws) : AV Z h' a ty n := by obtain ⟨c, A, r⟩ := F; exact ⟨c, ⟨K.2.1 a c A.1 q, A.2⟩, r⟩
theorem AV.of (F : Arv Z h a k ty n vs d) : AV Z h a ty n := by
  obtain ⟨c, A, -, S, q, H, G⟩ := F
  refine ⟨c, A, S, q, fun i w hw => ?_⟩
  have hi := (Array.getElem?_eq_some_iff.mp hw).1
  have := H i hi
  rw [hw] at this
  rw [Option.some.inj this]; exact G i hi
theorem AV.new (A : Arr Z h a (newA k ty n) ty) (q : ¬ n < 0) (fd : fits ty (defaultValue ty) = true) : AV Z h a ty n := by
  refine ⟨_, A, sz_new _ _ _, q, fun i w hw => ?_⟩
  simp only [newA, Array.getElem?_replicate] at hw
  split at hw
  · cases hw; exact fd
  · cases hw
theorem AV.set {c : Cell} (A : Arr Z h a c ty) (S : c.slots.size = n.toNatClampNeg) (q : ¬ n < 0) (G : ∀ (i : Nat) (v : Value), c.slots[i]? = some v → fits ty v = true) (hv : fits ty v = true) (W : Wr h h' a sl v) : AV Z h' a ty n := by
  refine ⟨_, A.same W, by rw [sz_set]; exact S, q, fun i w hw => ?_⟩
  by_cases e : sl = i
  · subst e
    have hi := (Array.getElem?_eq_some_iff.mp hw).1
    simp only [Cell.setSlot, Array.size_setIfInBounds] at hi
    simp [Cell.setSlot, hi] at hw
    subst hw; exact hv
  · simp only [Cell.setSlot] at hw
    rw [Array.getElem?_setIfInBounds_ne e] at hw
    exact G i w hw
theorem AV.arv (F : AV Z h a ty n) (d : Value) : ∃ k vs, Arv Z h a k ty n vs d ∧ vs.length = n.toNatClampNeg := by
  obtain ⟨c, A, S, q, G⟩ := F
  refine ⟨c.cls, c.slots.toList, ⟨c, A, rfl, S, q, fun i hi => ?_, fun i hi => ?_⟩, by simpa using S⟩
  · simp [List.getD_eq_getElem?_getD, hi]
  · refine G i _ ?_
    simp [List.getD_eq_getElem?_getD, hi]
end OwnAV
theorem own_inb {j z : Int32} (h : 0 ≤ j.toInt ∧ j.toInt < z.toInt) : ¬ j < 0 ∧ j < z := by
  have e0 : (0 : Int32).toInt = 0 := by decide
  simp only [Int32.lt_iff_toInt_lt]; omega
def own_max (x y : Int32) : Int32 := if x < y then y else x
def own_min (x y : Int32) : Int32 := if y < x then y else x
theorem own_z : (0 : Int32).toInt = 0 := by decide
theorem own_nat {x : Int32} (h : 0 ≤ x.toInt) : (x.toNatClampNeg : Int) = x.toInt := by
  have e0 : (0 : Int32).toInt = 0 := by decide
  exact (nat_of (by simp only [Int32.lt_iff_toInt_lt]; omega)).symm
theorem own_nlt {x : Int32} (h : 0 ≤ x.toInt) : ¬ x < 0 := by
  simp only [Int32.lt_iff_toInt_lt, own_z]; omega
theorem own_and (x m : Int32) (h : 0 ≤ m.toInt) : 0 ≤ (x &&& m).toInt ∧ (x &&& m).toInt ≤ m.toInt := c_and x m h
theorem own_max_toInt (x y : Int32) : (own_max x y).toInt = max x.toInt y.toInt := by
  unfold own_max; split <;> rename_i h <;> simp only [Int32.lt_iff_toInt_lt] at h <;> omega
theorem own_min_toInt (x y : Int32) : (own_min x y).toInt = min x.toInt y.toInt := by
  unfold own_min; split <;> rename_i h <;> simp only [Int32.lt_iff_toInt_lt] at h <;> omega
def PV (Z : State) (n0 : Nat) (h : Heap) (a an ab az al ac sr : Addr) (nl bl r c ce : Int32) : Prop := Exa Z h a "com/example/rowsieve/rowsieve/data/PageValues" ∧ Fld Z h a "com/example/rowsieve/rowsieve/data/PageValues" "nulls" "[Z" (.ref an) ∧ Fld Z h a "com/example/rowsieve/rowsieve/data/PageValues" "bits" "[J" (.ref ab) ∧ Fld Z h a "com/example/rowsieve/rowsieve/data/PageValues" "starts" "[I" (.ref az) ∧ Fld Z h a "com/example/rowsieve/rowsieve/data/PageValues" "lengths" "[I" (.ref al) ∧ Fld Z h a "com/example/rowsieve/rowsieve/data/PageValues" "copies" "[B" (.ref ac) ∧ Fld Z h a "com/example/rowsieve/rowsieve/data/PageValues" "rows" "I" (.int r) ∧ (∃ z, Fld Z h a "com/example/rowsieve/rowsieve/data/PageValues" "anyNull" "Z" z) ∧ Fld Z h a "com/example/rowsieve/rowsieve/data/PageValues" "count" "I" (.int c) ∧ (∃ z, Fld Z h a "com/example/rowsieve/rowsieve/data/PageValues" "bytes" "[B" z) ∧ (∃ z, Fld Z h a "com/example/rowsieve/rowsieve/data/PageValues" "dictionary" "Lcom/example/rowsieve/rowsieve/grouping/ValueDictionary;" z) ∧ Fld Z h a "com/example/rowsieve/rowsieve/data/PageValues" "copiesEnd" "I" (.int ce) ∧ AV Z h an .boolean nl ∧ AV Z h ab .long bl ∧ AV Z h az .int (64 : Int32) ∧ AV Z h al .int (64 : Int32) ∧ AV Z h ac .byte (64 : Int32) ∧ AV Z h sr .byte (8 : Int32) ∧ n0 ≤ a ∧ n0 ≤ an ∧ n0 ≤ ab ∧ n0 ≤ az ∧ n0 ≤ al ∧ n0 ≤ ac ∧ a ≠ an ∧ a ≠ ab ∧ a ≠ az ∧ a ≠ al ∧ a ≠ ac ∧ a ≠ sr ∧ an ≠ ab ∧ an ≠ az ∧ an ≠ al ∧ an ≠ ac ∧ an ≠ sr ∧ ab ≠ az ∧ ab ≠ al ∧ ab ≠ ac ∧ ab ≠ sr ∧ az ≠ al ∧ az ≠ ac ∧ az ≠ sr ∧ al ≠ ac ∧ al ≠ sr ∧ ac ≠ sr
theorem d14_0 : decode jdk_29_method_65_code 0 = .ok (.iload_n 0, 1) := by decide +kernel
theorem d14_1 : decode jdk_29_method_65_code 1 = .ok (.iload_n 1, 1) := by decide +kernel
theorem d14_2 : decode jdk_29_method_65_code 2 = .ok (.if_icmp .lt 7, 3) := by decide +kernel
theorem d14_5 : decode jdk_29_method_65_code 5 = .ok (.iload_n 0, 1) := by decide +kernel
theorem d14_6 : decode jdk_29_method_65_code 6 = .ok (.goto 4, 3) := by decide +kernel
theorem d14_9 : decode jdk_29_method_65_code 9 = .ok (.iload_n 1, 1) := by decide +kernel
theorem d14_10 : decode jdk_29_method_65_code 10 = .ok (.ireturn, 1) := by decide +kernel
def Q_rm14 (Z : State) (i : Int32) (j : Int32) (h0 : Heap) (n0 : Nat) (v : Option Value) (h : Heap) (L : List Loc) : Prop := v = some (.int (own_max i j)) ∧ Fr n0 L ∧ h = h0
theorem ef_rm14 (m : MethodId) (i : Int32) (j : Int32) : entryFrame m #[(.int i), (.int j)] 2 = mkF m 0 #[.val (.int i), .val (.int j)] [] := by first | (simp [entryFrame, mkF, argsToLocals, Value.category]; done) | rfl
set_option maxRecDepth 65536 in
set_option maxHeartbeats 40000000 in
theorem rm14 (l : Launch) (Z : State) (a0 : Array Value) (hw : ∀ d ∈ tables_1, d.before a0 Z = true) (ws : List Jvm.Cond) (i : Int32) (j : Int32) (h0 : Heap) (n0 : Nat) (Z0 : n0 ≤ h0.size) :
    MetFree l (⟨"java/lang/Math", "max", "(II)I"⟩ : MethodName) (head1 (Jvm.Cond.code (⟨"java/lang/Math", "max", "(II)I"⟩ : MethodName) jdk_29_method_65_code 2 (some .int) :: ws) ({ frames := 0, cells := 0, slots := 0, locals := 0 } : Room)) (fun ag_ U_ => ag_ = #[(.int i), (.int j)] ∧ Z.Warmed39 U_.vm ∧ U_.heap = h0) (fun _ _ _ _ _ => True) (fun _ U_ o_ V_ => ∃ v_ L_, o_ = .returned v_ ∧ (Q_rm14 Z i j h0 n0) v_ V_.heap L_ ∧ FrameEnd U_ o_ V_ L_ ({ frames := 0, cells := 0, slots := 0, locals := 0 } : Room).cells ({ frames := 0, cells := 0, slots := 0, locals := 0 } : Room).slots) := by
  refine MetFree.of_bodySF (Jvm.Free.JP.mathPlain rfl (by decide +kernel)) hisR ?_
  intro p e s m args below meth c s₁ Bd hml0 hP hK
  obtain ⟨rfl, hZ, hh⟩ := hP
  have hx := Bd.exec
  have hby := Bd.bytes
  have hml : c.maxLocals = 2 := hml0
  have hown : s.vm.findClass "java/lang/Math" = some m.cls := findClass_of_methodNamed Bd.named
  have hnm := (name_of_methodNamed Bd.named Bd.method).1
  have X0 : Stand p l e ({ frames := 0, cells := 0, slots := 0, locals := 0 } : Room) s m #[(.int i), (.int j)] below meth c s₁ [] 0 0 := Stand.of_body Bd
  have e0 : s₁.heap = h0 := by rw [← hh, Bd.state]; rfl
  have N0 := Fr.nil n0
  refine Go.st (G := fun s₂ o_ => ∃ v_ L_, o_ = .returned v_ ∧ (Q_rm14 Z i j h0 n0) v_ s₂.heap L_ ∧ FrameEnd s o_ s₂ L_ ({ frames := 0, cells := 0, slots := 0, locals := 0 } : Room).cells ({ frames := 0, cells := 0, slots := 0, locals := 0 } : Room).slots) (fun t kt => castTop (ef_rm14 m i j) kt) ?_
  show Go p e below _ (s₁.setTop (mkF m 0 #[.val (.int i), .val (.int j)] []))
  refine Go.st (fun _ kt => XS.iloadN X0.here hx rfl (hb hby d14_0) rfl kt) ?_
  show Go p e below _ (s₁.setTop (mkF m 1 #[.val (.int i), .val (.int j)] [(.int i)]))
  refine Go.st (fun _ kt => XS.iloadN X0.here hx rfl (hb hby d14_1) rfl kt) ?_
  show Go p e below _ (s₁.setTop (mkF m 2 #[.val (.int i), .val (.int j)] [(.int j), (.int i)]))
  by_cases hc2_1 : i < j
  · refine Go.st (fun _ kt => XS.icmpYes X0.here hx rfl (pc0 := 2) (pc' := 9) rfl (hb hby d14_2) rfl (tlt hc2_1).1 (by decide) (by decide) kt) ?_
    show Go p e below _ (s₁.setTop (mkF m 9 #[.val (.int i), .val (.int j)] []))
    refine Go.st (fun _ kt => XS.iloadN X0.here hx rfl (hb hby d14_9) rfl kt) ?_
    show Go p e below _ (s₁.setTop (mkF m 10 #[.val (.int i), .val (.int j)] [(.int j)]))
    refine Go.retI X0 hx Bd.returns (BodyLoose.notSynchronized Bd) (hb hby d14_10) (Q := (Q_rm14 Z i j h0 n0)) (by decide) (by decide) ?_
    show (Q_rm14 Z i j h0 n0) _ s₁.heap _
    rw [e0]
    exact ⟨by simp [own_max, *], N0, rfl⟩
  · refine Go.st (fun _ kt => XS.icmpNo X0.here hx rfl (hb hby d14_2) rfl (flt hc2_1).1 kt) ?_
    show Go p e below _ (s₁.setTop (mkF m 5 #[.val (.int i), .val (.int j)] []))
    refine Go.st (fun _ kt => XS.iloadN X0.here hx rfl (hb hby d14_5) rfl kt) ?_
    show Go p e below _ (s₁.setTop (mkF m 6 #[.val (.int i), .val (.int j)] [(.int i)]))
    refine Go.st (fun _ kt => XS.goto X0.here hx rfl (pc0 := 6) (pc' := 10) rfl (hb hby d14_6) (by decide) (by decide) kt) ?_
    show Go p e below _ (s₁.setTop (mkF m 10 #[.val (.int i), .val (.int j)] [(.int i)]))
    refine Go.retI X0 hx Bd.returns (BodyLoose.notSynchronized Bd) (hb hby d14_10) (Q := (Q_rm14 Z i j h0 n0)) (by decide) (by decide) ?_
    show (Q_rm14 Z i j h0 n0) _ s₁.heap _
    rw [e0]
    exact ⟨by simp [own_max, *], N0, rfl⟩
theorem d16_0 : decode jdk_29_method_69_code 0 = .ok (.iload_n 0, 1) := by decide +kernel
theorem d16_1 : decode jdk_29_method_69_code 1 = .ok (.iload_n 1, 1) := by decide +kernel
theorem d16_2 : decode jdk_29_method_69_code 2 = .ok (.if_icmp .gt 7, 3) := by decide +kernel
theorem d16_5 : decode jdk_29_method_69_code 5 = .ok (.iload_n 0, 1) := by decide +kernel
theorem d16_6 : decode jdk_29_method_69_code 6 = .ok (.goto 4, 3) := by decide +kernel
theorem d16_9 : decode jdk_29_method_69_code 9 = .ok (.iload_n 1, 1) := by decide +kernel
theorem d16_10 : decode jdk_29_method_69_code 10 = .ok (.ireturn, 1) := by decide +kernel
def Q_rm16 (Z : State) (i : Int32) (j : Int32) (h0 : Heap) (n0 : Nat) (v : Option Value) (h : Heap) (L : List Loc) : Prop := v = some (.int (own_min i j)) ∧ Fr n0 L ∧ h = h0
theorem ef_rm16 (m : MethodId) (i : Int32) (j : Int32) : entryFrame m #[(.int i), (.int j)] 2 = mkF m 0 #[.val (.int i), .val (.int j)] [] := by first | (simp [entryFrame, mkF, argsToLocals, Value.category]; done) | rfl
set_option maxRecDepth 65536 in
set_option maxHeartbeats 40000000 in
theorem rm16 (l : Launch) (Z : State) (a0 : Array Value) (hw : ∀ d ∈ tables_1, d.before a0 Z = true) (ws : List Jvm.Cond) (i : Int32) (j : Int32) (h0 : Heap) (n0 : Nat) (Z0 : n0 ≤ h0.size) :
    MetFree l (⟨"java/lang/Math", "min", "(II)I"⟩ : MethodName) (head1 (Jvm.Cond.code (⟨"java/lang/Math", "min", "(II)I"⟩ : MethodName) jdk_29_method_69_code 2 (some .int) :: ws) ({ frames := 0, cells := 0, slots := 0, locals := 0 } : Room)) (fun ag_ U_ => ag_ = #[(.int i), (.int j)] ∧ Z.Warmed39 U_.vm ∧ U_.heap = h0) (fun _ _ _ _ _ => True) (fun _ U_ o_ V_ => ∃ v_ L_, o_ = .returned v_ ∧ (Q_rm16 Z i j h0 n0) v_ V_.heap L_ ∧ FrameEnd U_ o_ V_ L_ ({ frames := 0, cells := 0, slots := 0, locals := 0 } : Room).cells ({ frames := 0, cells := 0, slots := 0, locals := 0 } : Room).slots) := by
  refine MetFree.of_bodySF (Jvm.Free.JP.mathPlain rfl (by decide +kernel)) hisR ?_
  intro p e s m args below meth c s₁ Bd hml0 hP hK
  obtain ⟨rfl, hZ, hh⟩ := hP
  have hx := Bd.exec
  have hby := Bd.bytes
  have hml : c.maxLocals = 2 := hml0
  have hown : s.vm.findClass "java/lang/Math" = some m.cls := findClass_of_methodNamed Bd.named
  have hnm := (name_of_methodNamed Bd.named Bd.method).1
  have X0 : Stand p l e ({ frames := 0, cells := 0, slots := 0, locals := 0 } : Room) s m #[(.int i), (.int j)] below meth c s₁ [] 0 0 := Stand.of_body Bd
  have e0 : s₁.heap = h0 := by rw [← hh, Bd.state]; rfl
  have N0 := Fr.nil n0
  refine Go.st (G := fun s₂ o_ => ∃ v_ L_, o_ = .returned v_ ∧ (Q_rm16 Z i j h0 n0) v_ s₂.heap L_ ∧ FrameEnd s o_ s₂ L_ ({ frames := 0, cells := 0, slots := 0, locals := 0 } : Room).cells ({ frames := 0, cells := 0, slots := 0, locals := 0 } : Room).slots) (fun t kt => castTop (ef_rm16 m i j) kt) ?_
  show Go p e below _ (s₁.setTop (mkF m 0 #[.val (.int i), .val (.int j)] []))
  refine Go.st (fun _ kt => XS.iloadN X0.here hx rfl (hb hby d16_0) rfl kt) ?_
  show Go p e below _ (s₁.setTop (mkF m 1 #[.val (.int i), .val (.int j)] [(.int i)]))
  refine Go.st (fun _ kt => XS.iloadN X0.here hx rfl (hb hby d16_1) rfl kt) ?_
  show Go p e below _ (s₁.setTop (mkF m 2 #[.val (.int i), .val (.int j)] [(.int j), (.int i)]))
  by_cases hc2_1 : j < i
  · refine Go.st (fun _ kt => XS.icmpYes X0.here hx rfl (pc0 := 2) (pc' := 9) rfl (hb hby d16_2) rfl (tlt hc2_1).2.2.1 (by decide) (by decide) kt) ?_
    show Go p e below _ (s₁.setTop (mkF m 9 #[.val (.int i), .val (.int j)] []))
    refine Go.st (fun _ kt => XS.iloadN X0.here hx rfl (hb hby d16_9) rfl kt) ?_
    show Go p e below _ (s₁.setTop (mkF m 10 #[.val (.int i), .val (.int j)] [(.int j)]))
    refine Go.retI X0 hx Bd.returns (BodyLoose.notSynchronized Bd) (hb hby d16_10) (Q := (Q_rm16 Z i j h0 n0)) (by decide) (by decide) ?_
    show (Q_rm16 Z i j h0 n0) _ s₁.heap _
    rw [e0]
    exact ⟨by simp [own_min, *], N0, rfl⟩
  · refine Go.st (fun _ kt => XS.icmpNo X0.here hx rfl (hb hby d16_2) rfl (flt hc2_1).2.2.1 kt) ?_
    show Go p e below _ (s₁.setTop (mkF m 5 #[.val (.int i), .val (.int j)] []))
    refine Go.st (fun _ kt => XS.iloadN X0.here hx rfl (hb hby d16_5) rfl kt) ?_
    show Go p e below _ (s₁.setTop (mkF m 6 #[.val (.int i), .val (.int j)] [(.int i)]))
    refine Go.st (fun _ kt => XS.goto X0.here hx rfl (pc0 := 6) (pc' := 10) rfl (hb hby d16_6) (by decide) (by decide) kt) ?_
    show Go p e below _ (s₁.setTop (mkF m 10 #[.val (.int i), .val (.int j)] [(.int i)]))
    refine Go.retI X0 hx Bd.returns (BodyLoose.notSynchronized Bd) (hb hby d16_10) (Q := (Q_rm16 Z i j h0 n0)) (by decide) (by decide) ?_
    show (Q_rm16 Z i j h0 n0) _ s₁.heap _
    rw [e0]
    exact ⟨by simp [own_min, *], N0, rfl⟩
theorem d9_0 : decode jdk_65_method_30_code 0 = .ok (.iload_n 1, 1) := by decide +kernel
theorem d9_1 : decode jdk_65_method_30_code 1 = .ok (.iload_n 2, 1) := by decide +kernel
theorem d9_2 : decode jdk_65_method_30_code 2 = .ok (.if_icmp .le 44, 3) := by decide +kernel
theorem d9_46 : decode jdk_65_method_30_code 46 = .ok (.iload_n 1, 1) := by decide +kernel
theorem d9_47 : decode jdk_65_method_30_code 47 = .ok (.ifCond .ge 12, 3) := by decide +kernel
theorem d9_59 : decode jdk_65_method_30_code 59 = .ok (.iload_n 2, 1) := by decide +kernel
theorem d9_60 : decode jdk_65_method_30_code 60 = .ok (.iload_n 0, 1) := by decide +kernel
theorem d9_61 : decode jdk_65_method_30_code 61 = .ok (.if_icmp .le 12, 3) := by decide +kernel
theorem d9_73 : decode jdk_65_method_30_code 73 = .ok (.return_, 1) := by decide +kernel
theorem own_pn0 : plainName "java/util/Arrays" = true := by first | (simp [plainName, overriddenIn]; done) | decide +kernel
def Q_rm9 (Z : State) (i : Int32) (j : Int32) (k : Int32) (h0 : Heap) (n0 : Nat) (v : Option Value) (h : Heap) (L : List Loc) : Prop := v = none ∧ Fr n0 L ∧ h = h0
theorem ef_rm9 (m : MethodId) (i : Int32) (j : Int32) (k : Int32) : entryFrame m #[(.int i), (.int j), (.int k)] 3 = mkF m 0 #[.val (.int i), .val (.int j), .val (.int k)] [] := by first | (simp [entryFrame, mkF, argsToLocals, Value.category]; done) | rfl
set_option maxRecDepth 65536 in
set_option maxHeartbeats 40000000 in
theorem rm9 (l : Launch) (Z : State) (a0 : Array Value) (hw : ∀ d ∈ tables_1, d.before a0 Z = true) (ws : List Jvm.Cond) (i : Int32) (j : Int32) (k : Int32) (h0 : Heap) (n0 : Nat) (Z0 : n0 ≤ h0.size) (hp1 : ¬ k < j) (hp2 : ¬ j < 0) (hp3 : ¬ i < k) :
    MetFree l (⟨"java/util/Arrays", "rangeCheck", "(III)V"⟩ : MethodName) (head1 (Jvm.Cond.code (⟨"java/util/Arrays", "rangeCheck", "(III)V"⟩ : MethodName) jdk_65_method_30_code 3 none :: ws) ({ frames := 0, cells := 0, slots := 0, locals := 0 } : Room)) (fun ag_ U_ => ag_ = #[(.int i), (.int j), (.int k)] ∧ Z.Warmed39 U_.vm ∧ U_.heap = h0) (fun _ _ _ _ _ => True) (fun _ U_ o_ V_ => ∃ v_ L_, o_ = .returned v_ ∧ (Q_rm9 Z i j k h0 n0) v_ V_.heap L_ ∧ FrameEnd U_ o_ V_ L_ ({ frames := 0, cells := 0, slots := 0, locals := 0 } : Room).cells ({ frames := 0, cells := 0, slots := 0, locals := 0 } : Room).slots) := by
  refine MetFree.of_bodySF (plainFor_of_name own_pn0) hisR ?_
  intro p e s m args below meth c s₁ Bd hml0 hP hK
  obtain ⟨rfl, hZ, hh⟩ := hP
  have hx := Bd.exec
  have hby := Bd.bytes
  have hml : c.maxLocals = 3 := hml0
  have hown : s.vm.findClass "java/util/Arrays" = some m.cls := findClass_of_methodNamed Bd.named
  have hnm := (name_of_methodNamed Bd.named Bd.method).1
  have X0 : Stand p l e ({ frames := 0, cells := 0, slots := 0, locals := 0 } : Room) s m #[(.int i), (.int j), (.int k)] below meth c s₁ [] 0 0 := Stand.of_body Bd
  have e0 : s₁.heap = h0 := by rw [← hh, Bd.state]; rfl
  have N0 := Fr.nil n0
  refine Go.st (G := fun s₂ o_ => ∃ v_ L_, o_ = .returned v_ ∧ (Q_rm9 Z i j k h0 n0) v_ s₂.heap L_ ∧ FrameEnd s o_ s₂ L_ ({ frames := 0, cells := 0, slots := 0, locals := 0 } : Room).cells ({ frames := 0, cells := 0, slots := 0, locals := 0 } : Room).slots) (fun t kt => castTop (ef_rm9 m i j k) kt) ?_
  show Go p e below _ (s₁.setTop (mkF m 0 #[.val (.int i), .val (.int j), .val (.int k)] []))
  refine Go.st (fun _ kt => XS.iloadN X0.here hx rfl (hb hby d9_0) rfl kt) ?_
  show Go p e below _ (s₁.setTop (mkF m 1 #[.val (.int i), .val (.int j), .val (.int k)] [(.int j)]))
  refine Go.st (fun _ kt => XS.iloadN X0.here hx rfl (hb hby d9_1) rfl kt) ?_
  show Go p e below _ (s₁.setTop (mkF m 2 #[.val (.int i), .val (.int j), .val (.int k)] [(.int k), (.int j)]))
  refine Go.st (fun _ kt => XS.icmpYes X0.here hx rfl (pc0 := 2) (pc' := 46) rfl (hb hby d9_2) rfl (flt hp1).2.2.2 (by decide) (by decide) kt) ?_
  show Go p e below _ (s₁.setTop (mkF m 46 #[.val (.int i), .val (.int j), .val (.int k)] []))
  refine Go.st (fun _ kt => XS.iloadN X0.here hx rfl (hb hby d9_46) rfl kt) ?_
  show Go p e below _ (s₁.setTop (mkF m 47 #[.val (.int i), .val (.int j), .val (.int k)] [(.int j)]))
  refine Go.st (fun _ kt => XS.ifYes X0.here hx rfl (pc0 := 47) (pc' := 59) rfl (hb hby d9_47) rfl ((if0 _ _).trans (flt hp2).2.1) (by decide) (by decide) kt) ?_
  show Go p e below _ (s₁.setTop (mkF m 59 #[.val (.int i), .val (.int j), .val (.int k)] []))
  refine Go.st (fun _ kt => XS.iloadN X0.here hx rfl (hb hby d9_59) rfl kt) ?_
  show Go p e below _ (s₁.setTop (mkF m 60 #[.val (.int i), .val (.int j), .val (.int k)] [(.int k)]))
  refine Go.st (fun _ kt => XS.iloadN X0.here hx rfl (hb hby d9_60) rfl kt) ?_
  show Go p e below _ (s₁.setTop (mkF m 61 #[.val (.int i), .val (.int j), .val (.int k)] [(.int i), (.int k)]))
  refine Go.st (fun _ kt => XS.icmpYes X0.here hx rfl (pc0 := 61) (pc' := 73) rfl (hb hby d9_61) rfl (flt hp3).2.2.2 (by decide) (by decide) kt) ?_
  show Go p e below _ (s₁.setTop (mkF m 73 #[.val (.int i), .val (.int j), .val (.int k)] []))
  refine Go.retV X0 hx Bd.returns (BodyLoose.notSynchronized Bd) (hb hby d9_73) (Q := (Q_rm9 Z i j k h0 n0)) (by decide) (by decide) ?_
  show (Q_rm9 Z i j k h0 n0) _ s₁.heap _
  rw [e0]
  exact ⟨rfl, N0, rfl⟩
theorem own_inc (i n : Int32) (h : i.toInt < n.toInt) : (i + (1 : Int32)).toInt = i.toInt + 1 := by
  have e1 : (1 : Int32).toInt = 1 := by decide
  have hp1 := n.toInt_lt
  have hp2 := i.le_toInt
  rw [Int32.toInt_add, e1, Int.bmod_eq_of_le (by omega) (by omega)]
theorem own_pd1 : parseMethodDescriptor "(III)V" = some ⟨[.int, .int, .int], none⟩ := by decide +kernel
theorem d8_0 : decode jdk_65_method_112_code 0 = .ok (.aload_n 0, 1) := by decide +kernel
theorem d8_1 : decode jdk_65_method_112_code 1 = .ok (.arraylength, 1) := by decide +kernel
theorem d8_2 : decode jdk_65_method_112_code 2 = .ok (.iload_n 1, 1) := by decide +kernel
theorem d8_3 : decode jdk_65_method_112_code 3 = .ok (.iload_n 2, 1) := by decide +kernel
theorem d8_4 : decode jdk_65_method_112_code 4 = .ok (.invokestatic 13, 3) := by decide +kernel
theorem d8_7 : decode jdk_65_method_112_code 7 = .ok (.iload_n 1, 1) := by decide +kernel
theorem d8_8 : decode jdk_65_method_112_code 8 = .ok (.istore 4, 2) := by decide +kernel
theorem d8_10 : decode jdk_65_method_112_code 10 = .ok (.iload 4, 2) := by decide +kernel
theorem d8_12 : decode jdk_65_method_112_code 12 = .ok (.iload_n 2, 1) := by decide +kernel
theorem d8_13 : decode jdk_65_method_112_code 13 = .ok (.if_icmp .ge 14, 3) := by decide +kernel
theorem d8_16 : decode jdk_65_method_112_code 16 = .ok (.aload_n 0, 1) := by decide +kernel
theorem d8_17 : decode jdk_65_method_112_code 17 = .ok (.iload 4, 2) := by decide +kernel
theorem d8_19 : decode jdk_65_method_112_code 19 = .ok (.iload_n 3, 1) := by decide +kernel
theorem d8_20 : decode jdk_65_method_112_code 20 = .ok (.bastore, 1) := by decide +kernel
theorem d8_21 : decode jdk_65_method_112_code 21 = .ok (.iinc 4 1, 3) := by decide +kernel
theorem d8_24 : decode jdk_65_method_112_code 24 = .ok (.goto (-14), 3) := by decide +kernel
theorem d8_27 : decode jdk_65_method_112_code 27 = .ok (.return_, 1) := by decide +kernel
def Q_rm8 (Z : State) (a : Addr) (lo : Int32) (hi1 : Int32) (vz : Int32) (nl : Int32) (h0 : Heap) (n0 : Nat) (v : Option Value) (h : Heap) (L : List Loc) : Prop := v = none ∧ Fr n0 L ∧ Keep h0 h [a] ∧ AV Z h a .boolean nl
theorem ef_rm8 (m : MethodId) (a : Addr) (lo : Int32) (hi1 : Int32) (vz : Int32) : entryFrame m #[(.ref a), (.int lo), (.int hi1), (.int vz)] 5 = mkF m 0 #[.val (.ref a), .val (.int lo), .val (.int hi1), .val (.int vz), .unset] [] := by first | (simp [entryFrame, mkF, argsToLocals, Value.category]; done) | rfl
set_option maxRecDepth 65536 in
set_option maxHeartbeats 40000000 in
theorem rm8 (l : Launch) (Z : State) (a0 : Array Value) (hw : ∀ d ∈ tables_1, d.before a0 Z = true) (ws : List Jvm.Cond) (a : Addr) (lo : Int32) (hi1 : Int32) (vz : Int32) (nl : Int32) (h0 : Heap) (n0 : Nat) (Z0 : n0 ≤ h0.size) (A_a : AV Z h0 a .boolean nl) (gn_a : n0 ≤ a) (hlo : 0 ≤ lo.toInt) (hlh : lo.toInt ≤ hi1.toInt) (hhn : hi1.toInt ≤ nl.toInt) :
    MetFree l (⟨"java/util/Arrays", "fill", "([ZIIZ)V"⟩ : MethodName) (head1 (Jvm.Cond.code (⟨"java/util/Arrays", "fill", "([ZIIZ)V"⟩ : MethodName) jdk_65_method_112_code 5 none :: ws) ({ frames := 1, cells := 0, slots := 0, locals := 14 } : Room)) (fun ag_ U_ => ag_ = #[(.ref a), (.int lo), (.int hi1), (.int vz)] ∧ Z.Warmed39 U_.vm ∧ U_.heap = h0) (fun _ _ _ _ _ => True) (fun _ U_ o_ V_ => ∃ v_ L_, o_ = .returned v_ ∧ (Q_rm8 Z a lo hi1 vz nl h0 n0) v_ V_.heap L_ ∧ FrameEnd U_ o_ V_ L_ ({ frames := 1, cells := 0, slots := 0, locals := 14 } : Room).cells ({ frames := 1, cells := 0, slots := 0, locals := 14 } : Room).slots) := by
  refine MetFree.of_bodySF (plainFor_of_name own_pn0) hisR ?_
  intro p e s m args below meth c s₁ Bd hml0 hP hK
  obtain ⟨rfl, hZ, hh⟩ := hP
  have hx := Bd.exec
  have hby := Bd.bytes
  have hml : c.maxLocals = 5 := hml0
  have hown : s.vm.findClass "java/util/Arrays" = some m.cls := findClass_of_methodNamed Bd.named
  have hnm := (name_of_methodNamed Bd.named Bd.method).1
  have X0 : Stand p l e ({ frames := 1, cells := 0, slots := 0, locals := 14 } : Room) s m #[(.ref a), (.int lo), (.int hi1), (.int vz)] below meth c s₁ [] 0 0 := Stand.of_body Bd
  have e0 : s₁.heap = h0 := by rw [← hh, Bd.state]; rfl
  have N0 := Fr.nil n0
  refine Go.st (G := fun s₂ o_ => ∃ v_ L_, o_ = .returned v_ ∧ (Q_rm8 Z a lo hi1 vz nl h0 n0) v_ s₂.heap L_ ∧ FrameEnd s o_ s₂ L_ ({ frames := 1, cells := 0, slots := 0, locals := 14 } : Room).cells ({ frames := 1, cells := 0, slots := 0, locals := 14 } : Room).slots) (fun t kt => castTop (ef_rm8 m a lo hi1 vz) kt) ?_
  show Go p e below _ (s₁.setTop (mkF m 0 #[.val (.ref a), .val (.int lo), .val (.int hi1), .val (.int vz), .unset] []))
  refine Go.st (fun _ kt => XS.aloadN X0.here hx rfl (hb hby d8_0) rfl rfl kt) ?_
  show Go p e below _ (s₁.setTop (mkF m 1 #[.val (.ref a), .val (.int lo), .val (.int hi1), .val (.int vz), .unset] [(.ref a)]))
  obtain ⟨cl1, Ar1, S1, N1', -⟩ := id A_a
  refine Go.st (fun _ kt => X0.arraylength hx (by rw [e0]; exact Ar1.1) (State.isArrayOf_alike hZ.alike Ar1.2.1) (g := (mkF m 1 #[.val (.ref a), .val (.int lo), .val (.int hi1), .val (.int vz), .unset] [(.ref a)])) rfl rfl (hb hby d8_1) _ kt) ?_
  rw [len_of S1 N1']
  show Go p e below _ (s₁.setTop (mkF m 2 #[.val (.ref a), .val (.int lo), .val (.int hi1), .val (.int vz), .unset] [(.int nl)]))
  refine Go.st (fun _ kt => XS.iloadN X0.here hx rfl (hb hby d8_2) rfl kt) ?_
  show Go p e below _ (s₁.setTop (mkF m 3 #[.val (.ref a), .val (.int lo), .val (.int hi1), .val (.int vz), .unset] [(.int lo), (.int nl)]))
  refine Go.st (fun _ kt => XS.iloadN X0.here hx rfl (hb hby d8_3) rfl kt) ?_
  show Go p e below _ (s₁.setTop (mkF m 4 #[.val (.ref a), .val (.int lo), .val (.int hi1), .val (.int vz), .unset] [(.int hi1), (.int lo), (.int nl)]))
  obtain ⟨_, _, ⟨T2, L2, k2, n2⟩, -, X2, ⟨Lc2, hQ2, l2, y2, z2⟩, st2⟩ := Jvm.LawKit.callS X0 hx (y := (⟨"java/util/Arrays", "rangeCheck", "(III)V"⟩ : MethodName)) hown (mvT hZ (hw _ (List.mem_of_getElem? (i := 66) rfl))) (mvT hZ (hw _ (List.mem_of_getElem? (i := 67) rfl))) (mvT hZ (hw _ (List.mem_of_getElem? (i := 64) rfl))) (mvT hZ (hw _ (List.mem_of_getElem? (i := 68) rfl))) (by decide) (backOf (W := 0) (rm9 l Z a0 hw [] nl lo hi1 h0 n0 Z0 (by simp only [Int32.lt_iff_toInt_lt]; omega) (own_nlt hlo) (by simp only [Int32.lt_iff_toInt_lt]; omega)) hZ (hw _ (List.mem_of_getElem? (i := 68) rfl)) (hw _ (List.mem_of_getElem? (i := 64) rfl)) (by decide) (by decide)) (g := (mkF m 4 #[.val (.ref a), .val (.int lo), .val (.int hi1), .val (.int vz), .unset] [(.int hi1), (.int lo), (.int nl)])) rfl (by rw [hml]; rfl) (argsL := [(.int nl), (.int lo), (.int hi1)]) (rest := []) (lenOf own_pd1 rfl) rfl (by show 2 * 0 + _ ≤ _; exact Nat.le_of_eq rfl) (hb hby d8_4) (fun _ _ => ⟨rfl, e0, (by decide : 0 + 0 ≤ _), (by decide : 0 + 0 ≤ _)⟩)
  dsimp only [Pt.U, Pt.locs, Pt.cells, Pt.slots] at X2 l2 y2 z2 st2 hQ2
  subst l2 y2 z2
  obtain ⟨rfl, N2q, e2⟩ := hQ2
  have N2 := Fr.app N0 N2q
  refine Go.st st2 ?_
  show Go p e below _ (T2.setTop (mkF m 7 #[.val (.ref a), .val (.int lo), .val (.int hi1), .val (.int vz), .unset] []))
  refine Go.st (fun _ kt => XS.iloadN X2.here hx rfl (hb hby d8_7) rfl kt) ?_
  show Go p e below _ (T2.setTop (mkF m 8 #[.val (.ref a), .val (.int lo), .val (.int hi1), .val (.int vz), .unset] [(.int lo)]))
  refine Go.st (fun _ kt => XS.istore X2.here hx rfl (hb hby d8_8) rfl (l' := #[.val (.ref a), .val (.int lo), .val (.int hi1), .val (.int vz), .val (.int lo)]) rfl kt) ?_
  show Go p e below _ (T2.setTop (mkF m 10 #[.val (.ref a), .val (.int lo), .val (.int hi1), .val (.int vz), .val (.int lo)] []))
  have lp : ∀ (k : Nat) (TL : State) (locsL : List Loc) (hL : Heap) (i : Int32), Stand p l e ({ frames := 1, cells := 0, slots := 0, locals := 14 } : Room) s m #[(.ref a), (.int lo), (.int hi1), (.int vz)] below meth c TL locsL 0 0 → TL.heap = hL → Fr n0 locsL → n0 ≤ hL.size → Keep h0 hL [a] → AV Z hL a .boolean nl → 0 ≤ i.toInt → hi1.toInt - i.toInt = (k : Int) → Go p e below (fun s₂ o_ => ∃ v_ L_, o_ = .returned v_ ∧ (Q_rm8 Z a lo hi1 vz nl h0 n0) v_ s₂.heap L_ ∧ FrameEnd s o_ s₂ L_ ({ frames := 1, cells := 0, slots := 0, locals := 14 } : Room).cells ({ frames := 1, cells := 0, slots := 0, locals := 14 } : Room).slots) (TL.setTop (mkF m 10 #[.val (.ref a), .val (.int lo), .val (.int hi1), .val (.int vz), .val (.int i)] [])) := by
    intro k
    induction k with
    | zero =>
      intro TL locsL hL i XL eL NL ZL KL FL0 hi hk
      show Go p e below _ (TL.setTop (mkF m 10 #[.val (.ref a), .val (.int lo), .val (.int hi1), .val (.int vz), .val (.int i)] []))
      refine Go.st (fun _ kt => XS.iload XL.here hx rfl (hb hby d8_10) rfl kt) ?_
      show Go p e below _ (TL.setTop (mkF m 12 #[.val (.ref a), .val (.int lo), .val (.int hi1), .val (.int vz), .val (.int i)] [(.int i)]))
      refine Go.st (fun _ kt => XS.iloadN XL.here hx rfl (hb hby d8_12) rfl kt) ?_
      show Go p e below _ (TL.setTop (mkF m 13 #[.val (.ref a), .val (.int lo), .val (.int hi1), .val (.int vz), .val (.int i)] [(.int hi1), (.int i)]))
      refine Go.st (fun _ kt => XS.icmpYes XL.here hx rfl (pc0 := 13) (pc' := 27) rfl (hb hby d8_13) rfl (flt (by simp only [Int32.lt_iff_toInt_lt]; omega)).2.1 (by decide) (by decide) kt) ?_
      show Go p e below _ (TL.setTop (mkF m 27 #[.val (.ref a), .val (.int lo), .val (.int hi1), .val (.int vz), .val (.int i)] []))
      refine Go.retV XL hx Bd.returns (BodyLoose.notSynchronized Bd) (hb hby d8_27) (Q := (Q_rm8 Z a lo hi1 vz nl h0 n0)) (by decide) (by decide) ?_
      show (Q_rm8 Z a lo hi1 vz nl h0 n0) _ TL.heap _
      rw [eL]
      exact ⟨rfl, NL, KL, FL0⟩
    | succ k ih =>
      intro TL locsL hL i XL eL NL ZL KL FL0 hi hk
      show Go p e below _ (TL.setTop (mkF m 10 #[.val (.ref a), .val (.int lo), .val (.int hi1), .val (.int vz), .val (.int i)] []))
      refine Go.st (fun _ kt => XS.iload XL.here hx rfl (hb hby d8_10) rfl kt) ?_
      show Go p e below _ (TL.setTop (mkF m 12 #[.val (.ref a), .val (.int lo), .val (.int hi1), .val (.int vz), .val (.int i)] [(.int i)]))
      refine Go.st (fun _ kt => XS.iloadN XL.here hx rfl (hb hby d8_12) rfl kt) ?_
      show Go p e below _ (TL.setTop (mkF m 13 #[.val (.ref a), .val (.int lo), .val (.int hi1), .val (.int vz), .val (.int i)] [(.int hi1), (.int i)]))
      refine Go.st (fun _ kt => XS.icmpNo XL.here hx rfl (hb hby d8_13) rfl (tlt (by simp only [Int32.lt_iff_toInt_lt]; omega)).2.1 kt) ?_
      show Go p e below _ (TL.setTop (mkF m 16 #[.val (.ref a), .val (.int lo), .val (.int hi1), .val (.int vz), .val (.int i)] []))
      refine Go.st (fun _ kt => XS.aloadN XL.here hx rfl (hb hby d8_16) rfl rfl kt) ?_
      show Go p e below _ (TL.setTop (mkF m 17 #[.val (.ref a), .val (.int lo), .val (.int hi1), .val (.int vz), .val (.int i)] [(.ref a)]))
      refine Go.st (fun _ kt => XS.iload XL.here hx rfl (hb hby d8_17) rfl kt) ?_
      show Go p e below _ (TL.setTop (mkF m 19 #[.val (.ref a), .val (.int lo), .val (.int hi1), .val (.int vz), .val (.int i)] [(.int i), (.ref a)]))
      refine Go.st (fun _ kt => XS.iloadN XL.here hx rfl (hb hby d8_19) rfl kt) ?_
      show Go p e below _ (TL.setTop (mkF m 20 #[.val (.ref a), .val (.int lo), .val (.int hi1), .val (.int vz), .val (.int i)] [(.int vz), (.int i), (.ref a)]))
      obtain ⟨cl3, Ar3, S3, N3', G3⟩ := id FL0
      have hin3 : ¬ (i < 0 ∨ cl3.slots.size ≤ (i).toNatClampNeg) := inb_of S3 (own_inb (by omega))
      obtain ⟨T4, h4, X4, e4, W4, st4⟩ := stZ XL hx hZ eL Ar3 (j := i) hin3 (g := (mkF m 20 #[.val (.ref a), .val (.int lo), .val (.int hi1), .val (.int vz), .val (.int i)] [(.int vz), (.int i), (.ref a)])) rfl rfl (hb hby d8_20)
      refine Go.st st4 ?_
      have V4 : AV Z h4 a .boolean nl := AV.set Ar3 S3 N3' G3 (fits_nar_bool _) W4
      have Zs4 : n0 ≤ h4.size := Nat.le_trans ZL (Nat.le_of_eq W4.size.symm)
      have N4 := Fr.snoc X4 NL gn_a
      have K4 : Keep h0 h4 [a] := KL.wr W4 (Or.inl (List.mem_of_getElem? (i := 0) rfl))
      show Go p e below _ (T4.setTop (mkF m 21 #[.val (.ref a), .val (.int lo), .val (.int hi1), .val (.int vz), .val (.int i)] []))
      refine Go.st (fun _ kt => XS.iinc X4.here hx rfl (hb hby d8_21) rfl (l' := #[.val (.ref a), .val (.int lo), .val (.int hi1), .val (.int vz), .val (.int (i + (1 : Int32)))]) rfl kt) ?_
      show Go p e below _ (T4.setTop (mkF m 24 #[.val (.ref a), .val (.int lo), .val (.int hi1), .val (.int vz), .val (.int (i + (1 : Int32)))] []))
      refine Go.st (fun _ kt => XS.goto X4.here hx rfl (pc0 := 24) (pc' := 10) rfl (hb hby d8_24) (by decide) (by decide) kt) ?_
      show Go p e below _ (T4.setTop (mkF m 10 #[.val (.ref a), .val (.int lo), .val (.int hi1), .val (.int vz), .val (.int (i + (1 : Int32)))] []))
      exact ih T4 _ h4 (i + (1 : Int32)) X4 e4 N4 Zs4 K4 V4 (by rw [own_inc i hi1 (by omega)]; omega) (by rw [own_inc i hi1 (by omega)]; omega)
  exact lp (hi1.toInt - lo.toInt).toNat T2 _ h0 lo X2 e2 N2 Z0 (Keep.refl h0 [a]) A_a hlo (by omega : hi1.toInt - lo.toInt = ((hi1.toInt - lo.toInt).toNat : Int))
theorem own_pd2 : parseMethodDescriptor "(II)I" = some ⟨[.int, .int], some .int⟩ := by decide +kernel
theorem d15_0 : decode jdk_65_method_124_code 0 = .ok (.iload_n 1, 1) := by decide +kernel
theorem d15_1 : decode jdk_65_method_124_code 1 = .ok (.aload_n 0, 1) := by decide +kernel
theorem d15_2 : decode jdk_65_method_124_code 2 = .ok (.arraylength, 1) := by decide +kernel
theorem d15_3 : decode jdk_65_method_124_code 3 = .ok (.if_icmp .ne 11, 3) := by decide +kernel
theorem d15_14 : decode jdk_65_method_124_code 14 = .ok (.iload_n 1, 1) := by decide +kernel
theorem d15_15 : decode jdk_65_method_124_code 15 = .ok (.newarray .long, 2) := by decide +kernel
theorem d15_17 : decode jdk_65_method_124_code 17 = .ok (.astore_n 2, 1) := by decide +kernel
theorem d15_18 : decode jdk_65_method_124_code 18 = .ok (.aload_n 0, 1) := by decide +kernel
theorem d15_19 : decode jdk_65_method_124_code 19 = .ok (.iconst 0, 1) := by decide +kernel
theorem d15_20 : decode jdk_65_method_124_code 20 = .ok (.aload_n 2, 1) := by decide +kernel
theorem d15_21 : decode jdk_65_method_124_code 21 = .ok (.iconst 0, 1) := by decide +kernel
theorem d15_22 : decode jdk_65_method_124_code 22 = .ok (.aload_n 0, 1) := by decide +kernel
theorem d15_23 : decode jdk_65_method_124_code 23 = .ok (.arraylength, 1) := by decide +kernel
theorem d15_24 : decode jdk_65_method_124_code 24 = .ok (.iload_n 1, 1) := by decide +kernel
theorem d15_25 : decode jdk_65_method_124_code 25 = .ok (.invokestatic 304, 3) := by decide +kernel
theorem d15_28 : decode jdk_65_method_124_code 28 = .ok (.invokestatic 150, 3) := by decide +kernel
theorem d15_31 : decode jdk_65_method_124_code 31 = .ok (.aload_n 2, 1) := by decide +kernel
theorem d15_32 : decode jdk_65_method_124_code 32 = .ok (.areturn, 1) := by decide +kernel
def Q_rm15 (Z : State) (a : Addr) (nn : Int32) (bl : Int32) (h0 : Heap) (n0 : Nat) (v : Option Value) (h : Heap) (L : List Loc) : Prop := ∃ b, v = some (.ref b) ∧ Fr n0 L ∧ Keep h0 h [] ∧ h0.size ≤ b ∧ AV Z h b .long nn
theorem ef_rm15 (m : MethodId) (a : Addr) (nn : Int32) : entryFrame m #[(.ref a), (.int nn)] 3 = mkF m 0 #[.val (.ref a), .val (.int nn), .unset] [] := by first | (simp [entryFrame, mkF, argsToLocals, Value.category]; done) | rfl
set_option maxRecDepth 65536 in
set_option maxHeartbeats 40000000 in
theorem rm15 (l : Launch) (Z : State) (a0 : Array Value) (hw : ∀ d ∈ tables_1, d.before a0 Z = true) (ws : List Jvm.Cond) (a : Addr) (nn : Int32) (bl : Int32) (h0 : Heap) (n0 : Nat) (Z0 : n0 ≤ h0.size) (A_a : AV Z h0 a .long bl) (hp1 : ¬ nn = bl) (hp2 : 0 ≤ nn.toInt) (hp3 : nn.toInt ≤ 256) (hp4 : bl.toInt ≤ nn.toInt) (hp5 : 0 ≤ bl.toInt) :
    MetFree l (⟨"java/util/Arrays", "copyOf", "([JI)[J"⟩ : MethodName) (head1 (Jvm.Cond.code (⟨"java/util/Arrays", "copyOf", "([JI)[J"⟩ : MethodName) jdk_65_method_124_code 3 (some (.array .long)) :: ws) ({ frames := 1, cells := 1, slots := 256, locals := 18 } : Room)) (fun ag_ U_ => ag_ = #[(.ref a), (.int nn)] ∧ Z.Warmed39 U_.vm ∧ U_.heap = h0) (fun _ _ _ _ _ => True) (fun _ U_ o_ V_ => ∃ v_ L_, o_ = .returned v_ ∧ (Q_rm15 Z a nn bl h0 n0) v_ V_.heap L_ ∧ FrameEnd U_ o_ V_ L_ ({ frames := 1, cells := 1, slots := 256, locals := 18 } : Room).cells ({ frames := 1, cells := 1, slots := 256, locals := 18 } : Room).slots) := by
  refine MetFree.of_bodySF (plainFor_of_name own_pn0) hisR ?_
  intro p e s m args below meth c s₁ Bd hml0 hP hK
  obtain ⟨rfl, hZ, hh⟩ := hP
  have hx := Bd.exec
  have hby := Bd.bytes
  have hml : c.maxLocals = 3 := hml0
  have hown : s.vm.findClass "java/util/Arrays" = some m.cls := findClass_of_methodNamed Bd.named
  have hnm := (name_of_methodNamed Bd.named Bd.method).1
  have X0 : Stand p l e ({ frames := 1, cells := 1, slots := 256, locals := 18 } : Room) s m #[(.ref a), (.int nn)] below meth c s₁ [] 0 0 := Stand.of_body Bd
  have e0 : s₁.heap = h0 := by rw [← hh, Bd.state]; rfl
  have N0 := Fr.nil n0
  refine Go.st (G := fun s₂ o_ => ∃ v_ L_, o_ = .returned v_ ∧ (Q_rm15 Z a nn bl h0 n0) v_ s₂.heap L_ ∧ FrameEnd s o_ s₂ L_ ({ frames := 1, cells := 1, slots := 256, locals := 18 } : Room).cells ({ frames := 1, cells := 1, slots := 256, locals := 18 } : Room).slots) (fun t kt => castTop (ef_rm15 m a nn) kt) ?_
  show Go p e below _ (s₁.setTop (mkF m 0 #[.val (.ref a), .val (.int nn), .unset] []))
  refine Go.st (fun _ kt => XS.iloadN X0.here hx rfl (hb hby d15_0) rfl kt) ?_
  show Go p e below _ (s₁.setTop (mkF m 1 #[.val (.ref a), .val (.int nn), .unset] [(.int nn)]))
  refine Go.st (fun _ kt => XS.aloadN X0.here hx rfl (hb hby d15_1) rfl rfl kt) ?_
  show Go p e below _ (s₁.setTop (mkF m 2 #[.val (.ref a), .val (.int nn), .unset] [(.ref a), (.int nn)]))
  obtain ⟨cl1, Ar1, S1, N1', -⟩ := id A_a
  refine Go.st (fun _ kt => X0.arraylength hx (by rw [e0]; exact Ar1.1) (State.isArrayOf_alike hZ.alike Ar1.2.1) (g := (mkF m 2 #[.val (.ref a), .val (.int nn), .unset] [(.ref a), (.int nn)])) rfl rfl (hb hby d15_2) _ kt) ?_
  rw [len_of S1 N1']
  show Go p e below _ (s₁.setTop (mkF m 3 #[.val (.ref a), .val (.int nn), .unset] [(.int bl), (.int nn)]))
  refine Go.st (fun _ kt => XS.icmpYes X0.here hx rfl (pc0 := 3) (pc' := 14) rfl (hb hby d15_3) rfl (feq hp1).2 (by decide) (by decide) kt) ?_
  show Go p e below _ (s₁.setTop (mkF m 14 #[.val (.ref a), .val (.int nn), .unset] []))
  refine Go.st (fun _ kt => XS.iloadN X0.here hx rfl (hb hby d15_14) rfl kt) ?_
  show Go p e below _ (s₁.setTop (mkF m 15 #[.val (.ref a), .val (.int nn), .unset] [(.int nn)]))
  obtain ⟨T2, h2, k2, X2, e2, E2, A2, Y2, st2⟩ := newPE X0 hx hZ (hw _ (List.mem_of_getElem? (i := 12) rfl)) e0 (g := (mkF m 15 #[.val (.ref a), .val (.int nn), .unset] [(.int nn)])) rfl (hb hby d15_15) rfl (own_nlt hp2) (cap := 256) (by have := own_nat hp2; omega) (by decide) (by decide) (by decide) (ad := "[J") (by decide)
  obtain ⟨b2, g2⟩ : ∃ z, z = h0.size := ⟨_, rfl⟩
  rw [← g2] at A2 Y2 st2
  have lt_a_b2 : a < b2 := Nat.lt_of_lt_of_eq A_a.lt g2.symm
  have gn_b2 : n0 ≤ b2 := Nat.le_trans Z0 (Nat.le_of_eq g2.symm)
  have Zs2 : n0 ≤ h2.size := Nat.le_trans Z0 E2.1
  have K2 : Keep h0 h2 [] := (Keep.refl h0 []).ext E2
  have kn_b2 : h0.size ≤ b2 := Nat.le_trans (Keep.refl h0 []).1 (Nat.le_of_eq g2.symm)
  refine Go.st st2 ?_
  have V2 : AV Z h2 b2 .long nn := AV.new A2 (own_nlt hp2) rfl
  show Go p e below _ (T2.setTop (mkF m 17 #[.val (.ref a), .val (.int nn), .unset] [(.ref b2)]))
  refine Go.st (fun _ kt => XS.astoreN X2.here hx rfl (hb hby d15_17) rfl rfl (l' := #[.val (.ref a), .val (.int nn), .val (.ref b2)]) rfl kt) ?_
  show Go p e below _ (T2.setTop (mkF m 18 #[.val (.ref a), .val (.int nn), .val (.ref b2)] []))
  refine Go.st (fun _ kt => XS.aloadN X2.here hx rfl (hb hby d15_18) rfl rfl kt) ?_
  show Go p e below _ (T2.setTop (mkF m 19 #[.val (.ref a), .val (.int nn), .val (.ref b2)] [(.ref a)]))
  refine Go.st (fun _ kt => XS.iconst X2.here hx rfl (hb hby d15_19) kt) ?_
  show Go p e below _ (T2.setTop (mkF m 20 #[.val (.ref a), .val (.int nn), .val (.ref b2)] [(.int (0 : Int32)), (.ref a)]))
  refine Go.st (fun _ kt => XS.aloadN X2.here hx rfl (hb hby d15_20) rfl rfl kt) ?_
  show Go p e below _ (T2.setTop (mkF m 21 #[.val (.ref a), .val (.int nn), .val (.ref b2)] [(.ref b2), (.int (0 : Int32)), (.ref a)]))
  refine Go.st (fun _ kt => XS.iconst X2.here hx rfl (hb hby d15_21) kt) ?_
  show Go p e below _ (T2.setTop (mkF m 22 #[.val (.ref a), .val (.int nn), .val (.ref b2)] [(.int (0 : Int32)), (.ref b2), (.int (0 : Int32)), (.ref a)]))
  refine Go.st (fun _ kt => XS.aloadN X2.here hx rfl (hb hby d15_22) rfl rfl kt) ?_
  show Go p e below _ (T2.setTop (mkF m 23 #[.val (.ref a), .val (.int nn), .val (.ref b2)] [(.ref a), (.int (0 : Int32)), (.ref b2), (.int (0 : Int32)), (.ref a)]))
  have f4 := (A_a.ext E2)
  obtain ⟨cl3, Ar3, S3, N3', -⟩ := id f4
  refine Go.st (fun _ kt => X2.arraylength hx (by rw [e2]; exact Ar3.1) (State.isArrayOf_alike hZ.alike Ar3.2.1) (g := (mkF m 23 #[.val (.ref a), .val (.int nn), .val (.ref b2)] [(.ref a), (.int (0 : Int32)), (.ref b2), (.int (0 : Int32)), (.ref a)])) rfl rfl (hb hby d15_23) _ kt) ?_
  rw [len_of S3 N3']
  show Go p e below _ (T2.setTop (mkF m 24 #[.val (.ref a), .val (.int nn), .val (.ref b2)] [(.int bl), (.int (0 : Int32)), (.ref b2), (.int (0 : Int32)), (.ref a)]))
  refine Go.st (fun _ kt => XS.iloadN X2.here hx rfl (hb hby d15_24) rfl kt) ?_
  show Go p e below _ (T2.setTop (mkF m 25 #[.val (.ref a), .val (.int nn), .val (.ref b2)] [(.int nn), (.int bl), (.int (0 : Int32)), (.ref b2), (.int (0 : Int32)), (.ref a)]))
  obtain ⟨_, _, ⟨T5, L5, k5, n5⟩, -, X5, ⟨Lc5, hQ5, l5, y5, z5⟩, st5⟩ := Jvm.LawKit.callS X2 hx (y := (⟨"java/lang/Math", "min", "(II)I"⟩ : MethodName)) hown (mvT hZ (hw _ (List.mem_of_getElem? (i := 98) rfl))) (mvT hZ (hw _ (List.mem_of_getElem? (i := 99) rfl))) (mvT hZ (hw _ (List.mem_of_getElem? (i := 93) rfl))) (mvT hZ (hw _ (List.mem_of_getElem? (i := 100) rfl))) (by decide) (backOf (W := 4) (rm16 l Z a0 hw [] bl nn h2 n0 Zs2) hZ (hw _ (List.mem_of_getElem? (i := 100) rfl)) (hw _ (List.mem_of_getElem? (i := 93) rfl)) (by decide) (by decide)) (g := (mkF m 25 #[.val (.ref a), .val (.int nn), .val (.ref b2)] [(.int nn), (.int bl), (.int (0 : Int32)), (.ref b2), (.int (0 : Int32)), (.ref a)])) rfl (by rw [hml]; rfl) (argsL := [(.int bl), (.int nn)]) (rest := [(.int (0 : Int32)), (.ref b2), (.int (0 : Int32)), (.ref a)]) (lenOf own_pd2 rfl) rfl (by show 2 * 0 + _ ≤ _; exact Nat.le_of_eq rfl) (hb hby d15_25) (fun _ _ => ⟨rfl, e2, (by decide : 1 + 0 ≤ _), (by decide : 256 + 0 ≤ _)⟩)
  dsimp only [Pt.U, Pt.locs, Pt.cells, Pt.slots] at X5 l5 y5 z5 st5 hQ5
  subst l5 y5 z5
  obtain ⟨rfl, N5q, e5⟩ := hQ5
  have N5 := Fr.app N0 N5q
  refine Go.st st5 ?_
  show Go p e below _ (T5.setTop (mkF m 28 #[.val (.ref a), .val (.int nn), .val (.ref b2)] [(.int (own_min bl nn)), (.int (0 : Int32)), (.ref b2), (.int (0 : Int32)), (.ref a)]))
  obtain ⟨ka6, vsa6, Va6, la6⟩ := f4.arv (.int 0)
  obtain ⟨kb6, vsb6, Vb6, lb6⟩ := V2.arv (.int 0)
  have hmn := own_min_toInt bl nn
  have hm0 : 0 ≤ (own_min bl nn).toInt := by omega
  have hmN := own_nat hm0
  have hblN := own_nat hp5
  have hnnN := own_nat hp2
  obtain ⟨T6, h6, Lc6, X6, e6, N6, Kc6, Vc6, st6⟩ := cpA X5 hx hZ hown (hw _ (List.mem_of_getElem? (i := 101) rfl)) (hw _ (List.mem_of_getElem? (i := 81) rfl)) (hw _ (List.mem_of_getElem? (i := 79) rfl)) (hw _ (List.mem_of_getElem? (i := 80) rfl)) e5 Va6 Vb6 (Or.inl ⟨rfl, rfl⟩) (sp := (0 : Int32)) (dp := (0 : Int32)) (nn := (own_min bl nn)) (by decide) (by decide) (own_nlt hm0) (by show 0 + _ ≤ _; omega) (by show 0 + _ ≤ _; omega) rfl (by rw [lb6]; exact (by show 0 + _ ≤ _; omega)) N5 gn_b2 (g := (mkF m 28 #[.val (.ref a), .val (.int nn), .val (.ref b2)] [(.int (own_min bl nn)), (.int (0 : Int32)), (.ref b2), (.int (0 : Int32)), (.ref a)])) rfl (by rw [hml]; rfl) rfl (hb hby d15_28) (by decide) (W := 0) (by show 2 * 0 + _ ≤ _; exact Nat.le_of_eq rfl) (by decide)
  refine Go.st st6 ?_
  have Zs6 : n0 ≤ h6.size := Nat.le_trans Zs2 Kc6.1
  have K6 : Keep h0 h6 [] := K2.trans Kc6 (allS (Or.inr kn_b2) all0)
  have V6 : AV Z h6 b2 .long nn := AV.of Vc6
  show Go p e below _ (T6.setTop (mkF m 31 #[.val (.ref a), .val (.int nn), .val (.ref b2)] []))
  refine Go.st (fun _ kt => XS.aloadN X6.here hx rfl (hb hby d15_31) rfl rfl kt) ?_
  show Go p e below _ (T6.setTop (mkF m 32 #[.val (.ref a), .val (.int nn), .val (.ref b2)] [(.ref b2)]))
  refine Go.retA X6 hx Bd.returns rfl rfl (BodyLoose.notSynchronized Bd) (hb hby d15_32) (Q := (Q_rm15 Z a nn bl h0 n0)) (by decide) (by decide) ?_
  show (Q_rm15 Z a nn bl h0 n0) _ T6.heap _
  rw [e6]
  exact ⟨b2, rfl, N6, K6, kn_b2, V6⟩
theorem d4_0 : decode prog_13_method_4_code 0 = .ok (.aload_n 0, 1) := by decide +kernel
theorem d4_1 : decode prog_13_method_4_code 1 = .ok (.getfield 31, 3) := by decide +kernel
theorem d4_4 : decode prog_13_method_4_code 4 = .ok (.ireturn, 1) := by decide +kernel
theorem own_pn3 : plainName "com/example/rowsieve/rowsieve/data/PageValues" = true := by first | (simp [plainName, overriddenIn]; done) | decide +kernel
def Q_rm4 (Z : State) (a : Addr) (an : Addr) (ab : Addr) (az : Addr) (al : Addr) (ac : Addr) (sr : Addr) (nl : Int32) (bl : Int32) (r : Int32) (cq : Int32) (ce : Int32) (h0 : Heap) (n0 : Nat) (v : Option Value) (h : Heap) (L : List Loc) : Prop := v = some (.int r) ∧ Fr n0 L ∧ h = h0
theorem ef_rm4 (m : MethodId) (a : Addr) : entryFrame m #[(.ref a)] 1 = mkF m 0 #[.val (.ref a)] [] := by first | (simp [entryFrame, mkF, argsToLocals, Value.category]; done) | rfl
set_option maxRecDepth 65536 in
set_option maxHeartbeats 40000000 in
theorem rm4 (l : Launch) (Z : State) (a0 : Array Value) (hw : ∀ d ∈ tables_1, d.before a0 Z = true) (ws : List Jvm.Cond) (a : Addr) (an : Addr) (ab : Addr) (az : Addr) (al : Addr) (ac : Addr) (sr : Addr) (nl : Int32) (bl : Int32) (r : Int32) (cq : Int32) (ce : Int32) (h0 : Heap) (n0 : Nat) (Z0 : n0 ≤ h0.size) (P : PV Z n0 h0 a an ab az al ac sr nl bl r cq ce) :
    MetFree l (⟨"com/example/rowsieve/rowsieve/data/PageValues", "rows", "()I"⟩ : MethodName) (head1 (Jvm.Cond.code (⟨"com/example/rowsieve/rowsieve/data/PageValues", "rows", "()I"⟩ : MethodName) prog_13_method_4_code 1 (some .int) :: ws) ({ frames := 0, cells := 0, slots := 0, locals := 0 } : Room)) (fun ag_ U_ => ag_ = #[(.ref a)] ∧ Z.Warmed39 U_.vm ∧ U_.heap = h0) (fun _ _ _ _ _ => True) (fun _ U_ o_ V_ => ∃ v_ L_, o_ = .returned v_ ∧ (Q_rm4 Z a an ab az al ac sr nl bl r cq ce h0 n0) v_ V_.heap L_ ∧ FrameEnd U_ o_ V_ L_ ({ frames := 0, cells := 0, slots := 0, locals := 0 } : Room).cells ({ frames := 0, cells := 0, slots := 0, locals := 0 } : Room).slots) := by
  refine MetFree.of_bodySF (plainFor_of_name own_pn3) hisR ?_
  intro p e s m args below meth c s₁ Bd hml0 hP hK
  obtain ⟨rfl, hZ, hh⟩ := hP
  have hx := Bd.exec
  have hby := Bd.bytes
  have hml : c.maxLocals = 1 := hml0
  have hown : s.vm.findClass "com/example/rowsieve/rowsieve/data/PageValues" = some m.cls := findClass_of_methodNamed Bd.named
  have hnm := (name_of_methodNamed Bd.named Bd.method).1
  have X0 : Stand p l e ({ frames := 0, cells := 0, slots := 0, locals := 0 } : Room) s m #[(.ref a)] below meth c s₁ [] 0 0 := Stand.of_body Bd
  have e0 : s₁.heap = h0 := by rw [← hh, Bd.state]; rfl
  have N0 := Fr.nil n0
  refine Go.st (G := fun s₂ o_ => ∃ v_ L_, o_ = .returned v_ ∧ (Q_rm4 Z a an ab az al ac sr nl bl r cq ce h0 n0) v_ s₂.heap L_ ∧ FrameEnd s o_ s₂ L_ ({ frames := 0, cells := 0, slots := 0, locals := 0 } : Room).cells ({ frames := 0, cells := 0, slots := 0, locals := 0 } : Room).slots) (fun t kt => castTop (ef_rm4 m a) kt) ?_
  obtain ⟨E_a, F_nulls, F_bits, F_starts, F_lengths, F_copies, F_rows, ⟨u1, F_anyNull⟩, F_count, ⟨u2, F_bytes⟩, ⟨u3, F_dictionary⟩, F_copiesEnd, A_an, A_ab, A_az, A_al, A_ac, A_sr, gn_a, gn_an, gn_ab, gn_az, gn_al, gn_ac, ne_a_an, ne_a_ab, ne_a_az, ne_a_al, ne_a_ac, ne_a_sr, ne_an_ab, ne_an_az, ne_an_al, ne_an_ac, ne_an_sr, ne_ab_az, ne_ab_al, ne_ab_ac, ne_ab_sr, ne_az_al, ne_az_ac, ne_az_sr, ne_al_ac, ne_al_sr, ne_ac_sr⟩ := P
  show Go p e below _ (s₁.setTop (mkF m 0 #[.val (.ref a)] []))
  refine Go.st (fun _ kt => XS.aloadN X0.here hx rfl (hb hby d4_0) rfl rfl kt) ?_
  show Go p e below _ (s₁.setTop (mkF m 1 #[.val (.ref a)] [(.ref a)]))
  obtain ⟨T1, X1, e1, st1⟩ := getF X0 hx hZ hown (host := "") (Or.inl (hw _ (List.mem_of_getElem? (i := 30) rfl))) Via.refl e0 F_rows (g := (mkF m 1 #[.val (.ref a)] [(.ref a)])) rfl rfl (hb hby d4_1)
  refine Go.st st1 ?_
  show Go p e below _ (T1.setTop (mkF m 4 #[.val (.ref a)] [(.int r)]))
  refine Go.retI X1 hx Bd.returns (BodyLoose.notSynchronized Bd) (hb hby d4_4) (Q := (Q_rm4 Z a an ab az al ac sr nl bl r cq ce h0 n0)) (by decide) (by decide) ?_
  show (Q_rm4 Z a an ab az al ac sr nl bl r cq ce h0 n0) _ T1.heap _
  rw [e1]
  exact ⟨rfl, N0, rfl⟩
theorem d5_0 : decode prog_13_method_3_code 0 = .ok (.aload_n 0, 1) := by decide +kernel
theorem d5_1 : decode prog_13_method_3_code 1 = .ok (.getfield 39, 3) := by decide +kernel
theorem d5_4 : decode prog_13_method_3_code 4 = .ok (.ireturn, 1) := by decide +kernel
def Q_rm5 (Z : State) (a : Addr) (an : Addr) (ab : Addr) (az : Addr) (al : Addr) (ac : Addr) (sr : Addr) (nl : Int32) (bl : Int32) (r : Int32) (cq : Int32) (ce : Int32) (h0 : Heap) (n0 : Nat) (v : Option Value) (h : Heap) (L : List Loc) : Prop := v = some (.int cq) ∧ Fr n0 L ∧ h = h0
theorem ef_rm5 (m : MethodId) (a : Addr) : entryFrame m #[(.ref a)] 1 = mkF m 0 #[.val (.ref a)] [] := by first | (simp [entryFrame, mkF, argsToLocals, Value.category]; done) | rfl
set_option maxRecDepth 65536 in
set_option maxHeartbeats 40000000 in
theorem rm5 (l : Launch) (Z : State) (a0 : Array Value) (hw : ∀ d ∈ tables_1, d.before a0 Z = true) (ws : List Jvm.Cond) (a : Addr) (an : Addr) (ab : Addr) (az : Addr) (al : Addr) (ac : Addr) (sr : Addr) (nl : Int32) (bl : Int32) (r : Int32) (cq : Int32) (ce : Int32) (h0 : Heap) (n0 : Nat) (Z0 : n0 ≤ h0.size) (P : PV Z n0 h0 a an ab az al ac sr nl bl r cq ce) :
    MetFree l (⟨"com/example/rowsieve/rowsieve/data/PageValues", "count", "()I"⟩ : MethodName) (head1 (Jvm.Cond.code (⟨"com/example/rowsieve/rowsieve/data/PageValues", "count", "()I"⟩ : MethodName) prog_13_method_3_code 1 (some .int) :: ws) ({ frames := 0, cells := 0, slots := 0, locals := 0 } : Room)) (fun ag_ U_ => ag_ = #[(.ref a)] ∧ Z.Warmed39 U_.vm ∧ U_.heap = h0) (fun _ _ _ _ _ => True) (fun _ U_ o_ V_ => ∃ v_ L_, o_ = .returned v_ ∧ (Q_rm5 Z a an ab az al ac sr nl bl r cq ce h0 n0) v_ V_.heap L_ ∧ FrameEnd U_ o_ V_ L_ ({ frames := 0, cells := 0, slots := 0, locals := 0 } : Room).cells ({ frames := 0, cells := 0, slots := 0, locals := 0 } : Room).slots) := by
  refine MetFree.of_bodySF (plainFor_of_name own_pn3) hisR ?_
  intro p e s m args below meth c s₁ Bd hml0 hP hK
  obtain ⟨rfl, hZ, hh⟩ := hP
  have hx := Bd.exec
  have hby := Bd.bytes
  have hml : c.maxLocals = 1 := hml0
  have hown : s.vm.findClass "com/example/rowsieve/rowsieve/data/PageValues" = some m.cls := findClass_of_methodNamed Bd.named
  have hnm := (name_of_methodNamed Bd.named Bd.method).1
  have X0 : Stand p l e ({ frames := 0, cells := 0, slots := 0, locals := 0 } : Room) s m #[(.ref a)] below meth c s₁ [] 0 0 := Stand.of_body Bd
  have e0 : s₁.heap = h0 := by rw [← hh, Bd.state]; rfl
  have N0 := Fr.nil n0
  refine Go.st (G := fun s₂ o_ => ∃ v_ L_, o_ = .returned v_ ∧ (Q_rm5 Z a an ab az al ac sr nl bl r cq ce h0 n0) v_ s₂.heap L_ ∧ FrameEnd s o_ s₂ L_ ({ frames := 0, cells := 0, slots := 0, locals := 0 } : Room).cells ({ frames := 0, cells := 0, slots := 0, locals := 0 } : Room).slots) (fun t kt => castTop (ef_rm5 m a) kt) ?_
  obtain ⟨E_a, F_nulls, F_bits, F_starts, F_lengths, F_copies, F_rows, ⟨u1, F_anyNull⟩, F_count, ⟨u2, F_bytes⟩, ⟨u3, F_dictionary⟩, F_copiesEnd, A_an, A_ab, A_az, A_al, A_ac, A_sr, gn_a, gn_an, gn_ab, gn_az, gn_al, gn_ac, ne_a_an, ne_a_ab, ne_a_az, ne_a_al, ne_a_ac, ne_a_sr, ne_an_ab, ne_an_az, ne_an_al, ne_an_ac, ne_an_sr, ne_ab_az, ne_ab_al, ne_ab_ac, ne_ab_sr, ne_az_al, ne_az_ac, ne_az_sr, ne_al_ac, ne_al_sr, ne_ac_sr⟩ := P
  show Go p e below _ (s₁.setTop (mkF m 0 #[.val (.ref a)] []))
  refine Go.st (fun _ kt => XS.aloadN X0.here hx rfl (hb hby d5_0) rfl rfl kt) ?_
  show Go p e below _ (s₁.setTop (mkF m 1 #[.val (.ref a)] [(.ref a)]))
  obtain ⟨T1, X1, e1, st1⟩ := getF X0 hx hZ hown (host := "") (Or.inl (hw _ (List.mem_of_getElem? (i := 34) rfl))) Via.refl e0 F_count (g := (mkF m 1 #[.val (.ref a)] [(.ref a)])) rfl rfl (hb hby d5_1)
  refine Go.st st1 ?_
  show Go p e below _ (T1.setTop (mkF m 4 #[.val (.ref a)] [(.int cq)]))
  refine Go.retI X1 hx Bd.returns (BodyLoose.notSynchronized Bd) (hb hby d5_4) (Q := (Q_rm5 Z a an ab az al ac sr nl bl r cq ce h0 n0)) (by decide) (by decide) ?_
  show (Q_rm5 Z a an ab az al ac sr nl bl r cq ce h0 n0) _ T1.heap _
  rw [e1]
  exact ⟨rfl, N0, rfl⟩
theorem d6_0 : decode prog_13_method_5_code 0 = .ok (.aload_n 0, 1) := by decide +kernel
theorem d6_1 : decode prog_13_method_5_code 1 = .ok (.getfield 49, 3) := by decide +kernel
theorem d6_4 : decode prog_13_method_5_code 4 = .ok (.ireturn, 1) := by decide +kernel
def Q_rm6 (Z : State) (a : Addr) (an : Addr) (ab : Addr) (az : Addr) (al : Addr) (ac : Addr) (sr : Addr) (nl : Int32) (bl : Int32) (r : Int32) (cq : Int32) (ce : Int32) (h0 : Heap) (n0 : Nat) (v : Option Value) (h : Heap) (L : List Loc) : Prop := v = some (.int ce) ∧ Fr n0 L ∧ h = h0
theorem ef_rm6 (m : MethodId) (a : Addr) : entryFrame m #[(.ref a)] 1 = mkF m 0 #[.val (.ref a)] [] := by first | (simp [entryFrame, mkF, argsToLocals, Value.category]; done) | rfl
set_option maxRecDepth 65536 in
set_option maxHeartbeats 40000000 in
theorem rm6 (l : Launch) (Z : State) (a0 : Array Value) (hw : ∀ d ∈ tables_1, d.before a0 Z = true) (ws : List Jvm.Cond) (a : Addr) (an : Addr) (ab : Addr) (az : Addr) (al : Addr) (ac : Addr) (sr : Addr) (nl : Int32) (bl : Int32) (r : Int32) (cq : Int32) (ce : Int32) (h0 : Heap) (n0 : Nat) (Z0 : n0 ≤ h0.size) (P : PV Z n0 h0 a an ab az al ac sr nl bl r cq ce) :
    MetFree l (⟨"com/example/rowsieve/rowsieve/data/PageValues", "bytesCopied", "()I"⟩ : MethodName) (head1 (Jvm.Cond.code (⟨"com/example/rowsieve/rowsieve/data/PageValues", "bytesCopied", "()I"⟩ : MethodName) prog_13_method_5_code 1 (some .int) :: ws) ({ frames := 0, cells := 0, slots := 0, locals := 0 } : Room)) (fun ag_ U_ => ag_ = #[(.ref a)] ∧ Z.Warmed39 U_.vm ∧ U_.heap = h0) (fun _ _ _ _ _ => True) (fun _ U_ o_ V_ => ∃ v_ L_, o_ = .returned v_ ∧ (Q_rm6 Z a an ab az al ac sr nl bl r cq ce h0 n0) v_ V_.heap L_ ∧ FrameEnd U_ o_ V_ L_ ({ frames := 0, cells := 0, slots := 0, locals := 0 } : Room).cells ({ frames := 0, cells := 0, slots := 0, locals := 0 } : Room).slots) := by
  refine MetFree.of_bodySF (plainFor_of_name own_pn3) hisR ?_
  intro p e s m args below meth c s₁ Bd hml0 hP hK
  obtain ⟨rfl, hZ, hh⟩ := hP
  have hx := Bd.exec
  have hby := Bd.bytes
  have hml : c.maxLocals = 1 := hml0
  have hown : s.vm.findClass "com/example/rowsieve/rowsieve/data/PageValues" = some m.cls := findClass_of_methodNamed Bd.named
  have hnm := (name_of_methodNamed Bd.named Bd.method).1
  have X0 : Stand p l e ({ frames := 0, cells := 0, slots := 0, locals := 0 } : Room) s m #[(.ref a)] below meth c s₁ [] 0 0 := Stand.of_body Bd
  have e0 : s₁.heap = h0 := by rw [← hh, Bd.state]; rfl
  have N0 := Fr.nil n0
  refine Go.st (G := fun s₂ o_ => ∃ v_ L_, o_ = .returned v_ ∧ (Q_rm6 Z a an ab az al ac sr nl bl r cq ce h0 n0) v_ s₂.heap L_ ∧ FrameEnd s o_ s₂ L_ ({ frames := 0, cells := 0, slots := 0, locals := 0 } : Room).cells ({ frames := 0, cells := 0, slots := 0, locals := 0 } : Room).slots) (fun t kt => castTop (ef_rm6 m a) kt) ?_
  obtain ⟨E_a, F_nulls, F_bits, F_starts, F_lengths, F_copies, F_rows, ⟨u1, F_anyNull⟩, F_count, ⟨u2, F_bytes⟩, ⟨u3, F_dictionary⟩, F_copiesEnd, A_an, A_ab, A_az, A_al, A_ac, A_sr, gn_a, gn_an, gn_ab, gn_az, gn_al, gn_ac, ne_a_an, ne_a_ab, ne_a_az, ne_a_al, ne_a_ac, ne_a_sr, ne_an_ab, ne_an_az, ne_an_al, ne_an_ac, ne_an_sr, ne_ab_az, ne_ab_al, ne_ab_ac, ne_ab_sr, ne_az_al, ne_az_ac, ne_az_sr, ne_al_ac, ne_al_sr, ne_ac_sr⟩ := P
  show Go p e below _ (s₁.setTop (mkF m 0 #[.val (.ref a)] []))
  refine Go.st (fun _ kt => XS.aloadN X0.here hx rfl (hb hby d6_0) rfl rfl kt) ?_
  show Go p e below _ (s₁.setTop (mkF m 1 #[.val (.ref a)] [(.ref a)]))
  obtain ⟨T1, X1, e1, st1⟩ := getF X0 hx hZ hown (host := "") (Or.inl (hw _ (List.mem_of_getElem? (i := 40) rfl))) Via.refl e0 F_copiesEnd (g := (mkF m 1 #[.val (.ref a)] [(.ref a)])) rfl rfl (hb hby d6_1)
  refine Go.st st1 ?_
  show Go p e below _ (T1.setTop (mkF m 4 #[.val (.ref a)] [(.int ce)]))
  refine Go.retI X1 hx Bd.returns (BodyLoose.notSynchronized Bd) (hb hby d6_4) (Q := (Q_rm6 Z a an ab az al ac sr nl bl r cq ce h0 n0)) (by decide) (by decide) ?_
  show (Q_rm6 Z a an ab az al ac sr nl bl r cq ce h0 n0) _ T1.heap _
  rw [e1]
  exact ⟨rfl, N0, rfl⟩
theorem d3_0 : decode prog_13_method_2_code 0 = .ok (.aload_n 0, 1) := by decide +kernel
theorem d3_1 : decode prog_13_method_2_code 1 = .ok (.iconst 0, 1) := by decide +kernel
theorem d3_2 : decode prog_13_method_2_code 2 = .ok (.putfield 31, 3) := by decide +kernel
theorem d3_5 : decode prog_13_method_2_code 5 = .ok (.aload_n 0, 1) := by decide +kernel
theorem d3_6 : decode prog_13_method_2_code 6 = .ok (.iconst 0, 1) := by decide +kernel
theorem d3_7 : decode prog_13_method_2_code 7 = .ok (.putfield 35, 3) := by decide +kernel
theorem d3_10 : decode prog_13_method_2_code 10 = .ok (.aload_n 0, 1) := by decide +kernel
theorem d3_11 : decode prog_13_method_2_code 11 = .ok (.iconst 0, 1) := by decide +kernel
theorem d3_12 : decode prog_13_method_2_code 12 = .ok (.putfield 39, 3) := by decide +kernel
theorem d3_15 : decode prog_13_method_2_code 15 = .ok (.aload_n 0, 1) := by decide +kernel
theorem d3_16 : decode prog_13_method_2_code 16 = .ok (.aconst_null, 1) := by decide +kernel
theorem d3_17 : decode prog_13_method_2_code 17 = .ok (.putfield 42, 3) := by decide +kernel
theorem d3_20 : decode prog_13_method_2_code 20 = .ok (.aload_n 0, 1) := by decide +kernel
theorem d3_21 : decode prog_13_method_2_code 21 = .ok (.aconst_null, 1) := by decide +kernel
theorem d3_22 : decode prog_13_method_2_code 22 = .ok (.putfield 45, 3) := by decide +kernel
theorem d3_25 : decode prog_13_method_2_code 25 = .ok (.aload_n 0, 1) := by decide +kernel
theorem d3_26 : decode prog_13_method_2_code 26 = .ok (.iconst 0, 1) := by decide +kernel
theorem d3_27 : decode prog_13_method_2_code 27 = .ok (.putfield 49, 3) := by decide +kernel
theorem d3_30 : decode prog_13_method_2_code 30 = .ok (.aload_n 0, 1) := by decide +kernel
theorem d3_31 : decode prog_13_method_2_code 31 = .ok (.getfield 9, 3) := by decide +kernel
theorem d3_34 : decode prog_13_method_2_code 34 = .ok (.arraylength, 1) := by decide +kernel
theorem d3_35 : decode prog_13_method_2_code 35 = .ok (.iload_n 1, 1) := by decide +kernel
theorem d3_36 : decode prog_13_method_2_code 36 = .ok (.if_icmp .ge 10, 3) := by decide +kernel
theorem d3_39 : decode prog_13_method_2_code 39 = .ok (.aload_n 0, 1) := by decide +kernel
theorem d3_40 : decode prog_13_method_2_code 40 = .ok (.iload_n 1, 1) := by decide +kernel
theorem d3_41 : decode prog_13_method_2_code 41 = .ok (.newarray .boolean, 2) := by decide +kernel
theorem d3_43 : decode prog_13_method_2_code 43 = .ok (.putfield 9, 3) := by decide +kernel
theorem d3_46 : decode prog_13_method_2_code 46 = .ok (.return_, 1) := by decide +kernel
def Q_rm3 (Z : State) (a : Addr) (mm : Int32) (an : Addr) (ab : Addr) (az : Addr) (al : Addr) (ac : Addr) (sr : Addr) (nl : Int32) (bl : Int32) (r : Int32) (cq : Int32) (ce : Int32) (h0 : Heap) (n0 : Nat) (v : Option Value) (h : Heap) (L : List Loc) : Prop := ∃ an' nl', v = none ∧ Fr n0 L ∧ PV Z n0 h a an' ab az al ac sr nl' bl 0 0 0 ∧ mm.toInt ≤ nl'.toInt ∧ nl.toInt ≤ nl'.toInt
theorem ef_rm3 (m : MethodId) (a : Addr) (mm : Int32) : entryFrame m #[(.ref a), (.int mm)] 2 = mkF m 0 #[.val (.ref a), .val (.int mm)] [] := by first | (simp [entryFrame, mkF, argsToLocals, Value.category]; done) | rfl
set_option maxRecDepth 65536 in
set_option maxHeartbeats 40000000 in
theorem rm3 (l : Launch) (Z : State) (a0 : Array Value) (hw : ∀ d ∈ tables_1, d.before a0 Z = true) (ws : List Jvm.Cond) (a : Addr) (mm : Int32) (an : Addr) (ab : Addr) (az : Addr) (al : Addr) (ac : Addr) (sr : Addr) (nl : Int32) (bl : Int32) (r : Int32) (cq : Int32) (ce : Int32) (h0 : Heap) (n0 : Nat) (Z0 : n0 ≤ h0.size) (P : PV Z n0 h0 a an ab az al ac sr nl bl r cq ce) (hp1 : 0 ≤ mm.toInt) (hp2 : mm.toInt ≤ 255) :
    MetFree l (⟨"com/example/rowsieve/rowsieve/data/PageValues", "clear", "(I)V"⟩ : MethodName) (head1 (Jvm.Cond.code (⟨"com/example/rowsieve/rowsieve/data/PageValues", "clear", "(I)V"⟩ : MethodName) prog_13_method_2_code 2 none :: ws) ({ frames := 0, cells := 1, slots := 255, locals := 0 } : Room)) (fun ag_ U_ => ag_ = #[(.ref a), (.int mm)] ∧ Z.Warmed39 U_.vm ∧ U_.heap = h0) (fun _ _ _ _ _ => True) (fun _ U_ o_ V_ => ∃ v_ L_, o_ = .returned v_ ∧ (Q_rm3 Z a mm an ab az al ac sr nl bl r cq ce h0 n0) v_ V_.heap L_ ∧ FrameEnd U_ o_ V_ L_ ({ frames := 0, cells := 1, slots := 255, locals := 0 } : Room).cells ({ frames := 0, cells := 1, slots := 255, locals := 0 } : Room).slots) := by
  refine MetFree.of_bodySF (plainFor_of_name own_pn3) hisR ?_
  intro p e s m args below meth c s₁ Bd hml0 hP hK
  obtain ⟨rfl, hZ, hh⟩ := hP
  have hx := Bd.exec
  have hby := Bd.bytes
  have hml : c.maxLocals = 2 := hml0
  have hown : s.vm.findClass "com/example/rowsieve/rowsieve/data/PageValues" = some m.cls := findClass_of_methodNamed Bd.named
  have hnm := (name_of_methodNamed Bd.named Bd.method).1
  have X0 : Stand p l e ({ frames := 0, cells := 1, slots := 255, locals := 0 } : Room) s m #[(.ref a), (.int mm)] below meth c s₁ [] 0 0 := Stand.of_body Bd
  have e0 : s₁.heap = h0 := by rw [← hh, Bd.state]; rfl
  have N0 := Fr.nil n0
  refine Go.st (G := fun s₂ o_ => ∃ v_ L_, o_ = .returned v_ ∧ (Q_rm3 Z a mm an ab az al ac sr nl bl r cq ce h0 n0) v_ s₂.heap L_ ∧ FrameEnd s o_ s₂ L_ ({ frames := 0, cells := 1, slots := 255, locals := 0 } : Room).cells ({ frames := 0, cells := 1, slots := 255, locals := 0 } : Room).slots) (fun t kt => castTop (ef_rm3 m a mm) kt) ?_
  obtain ⟨E_a, F_nulls, F_bits, F_starts, F_lengths, F_copies, F_rows, ⟨u1, F_anyNull⟩, F_count, ⟨u2, F_bytes⟩, ⟨u3, F_dictionary⟩, F_copiesEnd, A_an, A_ab, A_az, A_al, A_ac, A_sr, gn_a, gn_an, gn_ab, gn_az, gn_al, gn_ac, ne_a_an, ne_a_ab, ne_a_az, ne_a_al, ne_a_ac, ne_a_sr, ne_an_ab, ne_an_az, ne_an_al, ne_an_ac, ne_an_sr, ne_ab_az, ne_ab_al, ne_ab_ac, ne_ab_sr, ne_az_al, ne_az_ac, ne_az_sr, ne_al_ac, ne_al_sr, ne_ac_sr⟩ := P
  show Go p e below _ (s₁.setTop (mkF m 0 #[.val (.ref a), .val (.int mm)] []))
  refine Go.st (fun _ kt => XS.aloadN X0.here hx rfl (hb hby d3_0) rfl rfl kt) ?_
  show Go p e below _ (s₁.setTop (mkF m 1 #[.val (.ref a), .val (.int mm)] [(.ref a)]))
  refine Go.st (fun _ kt => XS.iconst X0.here hx rfl (hb hby d3_1) kt) ?_
  show Go p e below _ (s₁.setTop (mkF m 2 #[.val (.ref a), .val (.int mm)] [(.int (0 : Int32)), (.ref a)]))
  obtain ⟨T1, h1, X1, e1, W1, st1⟩ := putF X0 hx hZ hown (host := "") (Or.inl (hw _ (List.mem_of_getElem? (i := 30) rfl))) Via.refl e0 F_rows E_a (Or.inl (hw _ (List.mem_of_getElem? (i := 31) rfl))) (hw _ (List.mem_of_getElem? (i := 1) rfl)) (ty := .int) (by decide) rfl rfl (g := (mkF m 2 #[.val (.ref a), .val (.int mm)] [(.int (0 : Int32)), (.ref a)])) rfl rfl (hb hby d3_2)
  refine Go.st st1 ?_
  have Fw1 := F_rows.same W1
  have Zs1 : n0 ≤ h1.size := Nat.le_trans Z0 (Nat.le_of_eq W1.size.symm)
  have N1 := Fr.snoc X1 N0 gn_a
  show Go p e below _ (T1.setTop (mkF m 5 #[.val (.ref a), .val (.int mm)] []))
  refine Go.st (fun _ kt => XS.aloadN X1.here hx rfl (hb hby d3_5) rfl rfl kt) ?_
  show Go p e below _ (T1.setTop (mkF m 6 #[.val (.ref a), .val (.int mm)] [(.ref a)]))
  refine Go.st (fun _ kt => XS.iconst X1.here hx rfl (hb hby d3_6) kt) ?_
  show Go p e below _ (T1.setTop (mkF m 7 #[.val (.ref a), .val (.int mm)] [(.int (0 : Int32)), (.ref a)]))
  have f2 := (E_a.wr W1)
  have f3 := (F_anyNull.other W1 (Or.inr (slot_ne (Or.inl (hw _ (List.mem_of_getElem? (i := 33) rfl))) (Or.inl (hw _ (List.mem_of_getElem? (i := 31) rfl))) (by decide) (t := .boolean) (t' := .int) (by decide) (by decide))))
  obtain ⟨T4, h4, X4, e4, W4, st4⟩ := putFN X1 hx hZ hown (hw _ (List.mem_of_getElem? (i := 32) rfl)) Via.refl e1 f3 f2 (Or.inl (hw _ (List.mem_of_getElem? (i := 33) rfl))) (hw _ (List.mem_of_getElem? (i := 1) rfl)) (ty := .boolean) (v' := (.int (0 : Int32))) (by decide) rfl (by decide) (g := (mkF m 7 #[.val (.ref a), .val (.int mm)] [(.int (0 : Int32)), (.ref a)])) rfl rfl (hb hby d3_7)
  refine Go.st st4 ?_
  have Fw4 := f3.same W4
  have Zs4 : n0 ≤ h4.size := Nat.le_trans Zs1 (Nat.le_of_eq W4.size.symm)
  have N4 := Fr.snoc X4 N1 gn_a
  show Go p e below _ (T4.setTop (mkF m 10 #[.val (.ref a), .val (.int mm)] []))
  refine Go.st (fun _ kt => XS.aloadN X4.here hx rfl (hb hby d3_10) rfl rfl kt) ?_
  show Go p e below _ (T4.setTop (mkF m 11 #[.val (.ref a), .val (.int mm)] [(.ref a)]))
  refine Go.st (fun _ kt => XS.iconst X4.here hx rfl (hb hby d3_11) kt) ?_
  show Go p e below _ (T4.setTop (mkF m 12 #[.val (.ref a), .val (.int mm)] [(.int (0 : Int32)), (.ref a)]))
  have f5 := (f2.wr W4)
  have f6 := ((F_count.other W1 (Or.inr (slot_ne (Or.inl (hw _ (List.mem_of_getElem? (i := 35) rfl))) (Or.inl (hw _ (List.mem_of_getElem? (i := 31) rfl))) (by decide) (t := .int) (t' := .int) (by decide) (by decide)))).other W4 (Or.inr (slot_ne (Or.inl (hw _ (List.mem_of_getElem? (i := 35) rfl))) (Or.inl (hw _ (List.mem_of_getElem? (i := 33) rfl))) (by decide) (t := .int) (t' := .boolean) (by decide) (by decide))))
  obtain ⟨T7, h7, X7, e7, W7, st7⟩ := putF X4 hx hZ hown (host := "") (Or.inl (hw _ (List.mem_of_getElem? (i := 34) rfl))) Via.refl e4 f6 f5 (Or.inl (hw _ (List.mem_of_getElem? (i := 35) rfl))) (hw _ (List.mem_of_getElem? (i := 1) rfl)) (ty := .int) (by decide) rfl rfl (g := (mkF m 12 #[.val (.ref a), .val (.int mm)] [(.int (0 : Int32)), (.ref a)])) rfl rfl (hb hby d3_12)
  refine Go.st st7 ?_
  have Fw7 := f6.same W7
  have Zs7 : n0 ≤ h7.size := Nat.le_trans Zs4 (Nat.le_of_eq W7.size.symm)
  have N7 := Fr.snoc X7 N4 gn_a
  show Go p e below _ (T7.setTop (mkF m 15 #[.val (.ref a), .val (.int mm)] []))
  refine Go.st (fun _ kt => XS.aloadN X7.here hx rfl (hb hby d3_15) rfl rfl kt) ?_
  show Go p e below _ (T7.setTop (mkF m 16 #[.val (.ref a), .val (.int mm)] [(.ref a)]))
  refine Go.st (fun _ kt => XS.aconstNull X7.here hx rfl (hb hby d3_16) kt) ?_
  show Go p e below _ (T7.setTop (mkF m 17 #[.val (.ref a), .val (.int mm)] [.null, (.ref a)]))
  have f8 := (f5.wr W7)
  have f9 := (((F_bytes.other W1 (Or.inr (slot_ne (Or.inl (hw _ (List.mem_of_getElem? (i := 37) rfl))) (Or.inl (hw _ (List.mem_of_getElem? (i := 31) rfl))) (by decide) (t := (.array .byte)) (t' := .int) (by decide) (by decide)))).other W4 (Or.inr (slot_ne (Or.inl (hw _ (List.mem_of_getElem? (i := 37) rfl))) (Or.inl (hw _ (List.mem_of_getElem? (i := 33) rfl))) (by decide) (t := (.array .byte)) (t' := .boolean) (by decide) (by decide)))).other W7 (Or.inr (slot_ne (Or.inl (hw _ (List.mem_of_getElem? (i := 37) rfl))) (Or.inl (hw _ (List.mem_of_getElem? (i := 35) rfl))) (by decide) (t := (.array .byte)) (t' := .int) (by decide) (by decide))))
  obtain ⟨T10, h10, X10, e10, W10, st10⟩ := putF X7 hx hZ hown (host := "") (Or.inl (hw _ (List.mem_of_getElem? (i := 36) rfl))) Via.refl e7 f9 f8 (Or.inl (hw _ (List.mem_of_getElem? (i := 37) rfl))) (hw _ (List.mem_of_getElem? (i := 1) rfl)) (ty := (.array .byte)) (by decide) rfl rfl (g := (mkF m 17 #[.val (.ref a), .val (.int mm)] [.null, (.ref a)])) rfl rfl (hb hby d3_17)
  refine Go.st st10 ?_
  have Fw10 := f9.same W10
  have Zs10 : n0 ≤ h10.size := Nat.le_trans Zs7 (Nat.le_of_eq W10.size.symm)
  have N10 := Fr.snoc X10 N7 gn_a
  show Go p e below _ (T10.setTop (mkF m 20 #[.val (.ref a), .val (.int mm)] []))
  refine Go.st (fun _ kt => XS.aloadN X10.here hx rfl (hb hby d3_20) rfl rfl kt) ?_
  show Go p e below _ (T10.setTop (mkF m 21 #[.val (.ref a), .val (.int mm)] [(.ref a)]))
  refine Go.st (fun _ kt => XS.aconstNull X10.here hx rfl (hb hby d3_21) kt) ?_
  show Go p e below _ (T10.setTop (mkF m 22 #[.val (.ref a), .val (.int mm)] [.null, (.ref a)]))
  have f11 := (f8.wr W10)
  have f12 := ((((F_dictionary.other W1 (Or.inr (slot_ne (Or.inl (hw _ (List.mem_of_getElem? (i := 39) rfl))) (Or.inl (hw _ (List.mem_of_getElem? (i := 31) rfl))) (by decide) (t := (.object "com/example/rowsieve/rowsieve/grouping/ValueDictionary")) (t' := .int) (by decide) (by decide)))).other W4 (Or.inr (slot_ne (Or.inl (hw _ (List.mem_of_getElem? (i := 39) rfl))) (Or.inl (hw _ (List.mem_of_getElem? (i := 33) rfl))) (by decide) (t := (.object "com/example/rowsieve/rowsieve/grouping/ValueDictionary")) (t' := .boolean) (by decide) (by decide)))).other W7 (Or.inr (slot_ne (Or.inl (hw _ (List.mem_of_getElem? (i := 39) rfl))) (Or.inl (hw _ (List.mem_of_getElem? (i := 35) rfl))) (by decide) (t := (.object "com/example/rowsieve/rowsieve/grouping/ValueDictionary")) (t' := .int) (by decide) (by decide)))).other W10 (Or.inr (slot_ne (Or.inl (hw _ (List.mem_of_getElem? (i := 39) rfl))) (Or.inl (hw _ (List.mem_of_getElem? (i := 37) rfl))) (by decide) (t := (.object "com/example/rowsieve/rowsieve/grouping/ValueDictionary")) (t' := (.array .byte)) (by decide) (by decide))))
  obtain ⟨T13, h13, X13, e13, W13, st13⟩ := putF X10 hx hZ hown (host := "") (Or.inl (hw _ (List.mem_of_getElem? (i := 38) rfl))) Via.refl e10 f12 f11 (Or.inl (hw _ (List.mem_of_getElem? (i := 39) rfl))) (hw _ (List.mem_of_getElem? (i := 1) rfl)) (ty := (.object "com/example/rowsieve/rowsieve/grouping/ValueDictionary")) (by decide) rfl rfl (g := (mkF m 22 #[.val (.ref a), .val (.int mm)] [.null, (.ref a)])) rfl rfl (hb hby d3_22)
  refine Go.st st13 ?_
  have Fw13 := f12.same W13
  have Zs13 : n0 ≤ h13.size := Nat.le_trans Zs10 (Nat.le_of_eq W13.size.symm)
  have N13 := Fr.snoc X13 N10 gn_a
  show Go p e below _ (T13.setTop (mkF m 25 #[.val (.ref a), .val (.int mm)] []))
  refine Go.st (fun _ kt => XS.aloadN X13.here hx rfl (hb hby d3_25) rfl rfl kt) ?_
  show Go p e below _ (T13.setTop (mkF m 26 #[.val (.ref a), .val (.int mm)] [(.ref a)]))
  refine Go.st (fun _ kt => XS.iconst X13.here hx rfl (hb hby d3_26) kt) ?_
  show Go p e below _ (T13.setTop (mkF m 27 #[.val (.ref a), .val (.int mm)] [(.int (0 : Int32)), (.ref a)]))
  have f14 := (f11.wr W13)
  have f15 := (((((F_copiesEnd.other W1 (Or.inr (slot_ne (Or.inl (hw _ (List.mem_of_getElem? (i := 41) rfl))) (Or.inl (hw _ (List.mem_of_getElem? (i := 31) rfl))) (by decide) (t := .int) (t' := .int) (by decide) (by decide)))).other W4 (Or.inr (slot_ne (Or.inl (hw _ (List.mem_of_getElem? (i := 41) rfl))) (Or.inl (hw _ (List.mem_of_getElem? (i := 33) rfl))) (by decide) (t := .int) (t' := .boolean) (by decide) (by decide)))).other W7 (Or.inr (slot_ne (Or.inl (hw _ (List.mem_of_getElem? (i := 41) rfl))) (Or.inl (hw _ (List.mem_of_getElem? (i := 35) rfl))) (by decide) (t := .int) (t' := .int) (by decide) (by decide)))).other W10 (Or.inr (slot_ne (Or.inl (hw _ (List.mem_of_getElem? (i := 41) rfl))) (Or.inl (hw _ (List.mem_of_getElem? (i := 37) rfl))) (by decide) (t := .int) (t' := (.array .byte)) (by decide) (by decide)))).other W13 (Or.inr (slot_ne (Or.inl (hw _ (List.mem_of_getElem? (i := 41) rfl))) (Or.inl (hw _ (List.mem_of_getElem? (i := 39) rfl))) (by decide) (t := .int) (t' := (.object "com/example/rowsieve/rowsieve/grouping/ValueDictionary")) (by decide) (by decide))))
  obtain ⟨T16, h16, X16, e16, W16, st16⟩ := putF X13 hx hZ hown (host := "") (Or.inl (hw _ (List.mem_of_getElem? (i := 40) rfl))) Via.refl e13 f15 f14 (Or.inl (hw _ (List.mem_of_getElem? (i := 41) rfl))) (hw _ (List.mem_of_getElem? (i := 1) rfl)) (ty := .int) (by decide) rfl rfl (g := (mkF m 27 #[.val (.ref a), .val (.int mm)] [(.int (0 : Int32)), (.ref a)])) rfl rfl (hb hby d3_27)
  refine Go.st st16 ?_
  have Fw16 := f15.same W16
  have Zs16 : n0 ≤ h16.size := Nat.le_trans Zs13 (Nat.le_of_eq W16.size.symm)
  have N16 := Fr.snoc X16 N13 gn_a
  show Go p e below _ (T16.setTop (mkF m 30 #[.val (.ref a), .val (.int mm)] []))
  refine Go.st (fun _ kt => XS.aloadN X16.here hx rfl (hb hby d3_30) rfl rfl kt) ?_
  show Go p e below _ (T16.setTop (mkF m 31 #[.val (.ref a), .val (.int mm)] [(.ref a)]))
  have f17 := ((((((F_nulls.other W1 (Or.inr (slot_ne (Or.inl (hw _ (List.mem_of_getElem? (i := 11) rfl))) (Or.inl (hw _ (List.mem_of_getElem? (i := 31) rfl))) (by decide) (t := (.array .boolean)) (t' := .int) (by decide) (by decide)))).other W4 (Or.inr (slot_ne (Or.inl (hw _ (List.mem_of_getElem? (i := 11) rfl))) (Or.inl (hw _ (List.mem_of_getElem? (i := 33) rfl))) (by decide) (t := (.array .boolean)) (t' := .boolean) (by decide) (by decide)))).other W7 (Or.inr (slot_ne (Or.inl (hw _ (List.mem_of_getElem? (i := 11) rfl))) (Or.inl (hw _ (List.mem_of_getElem? (i := 35) rfl))) (by decide) (t := (.array .boolean)) (t' := .int) (by decide) (by decide)))).other W10 (Or.inr (slot_ne (Or.inl (hw _ (List.mem_of_getElem? (i := 11) rfl))) (Or.inl (hw _ (List.mem_of_getElem? (i := 37) rfl))) (by decide) (t := (.array .boolean)) (t' := (.array .byte)) (by decide) (by decide)))).other W13 (Or.inr (slot_ne (Or.inl (hw _ (List.mem_of_getElem? (i := 11) rfl))) (Or.inl (hw _ (List.mem_of_getElem? (i := 39) rfl))) (by decide) (t := (.array .boolean)) (t' := (.object "com/example/rowsieve/rowsieve/grouping/ValueDictionary")) (by decide) (by decide)))).other W16 (Or.inr (slot_ne (Or.inl (hw _ (List.mem_of_getElem? (i := 11) rfl))) (Or.inl (hw _ (List.mem_of_getElem? (i := 41) rfl))) (by decide) (t := (.array .boolean)) (t' := .int) (by decide) (by decide))))
  obtain ⟨T18, X18, e18, st18⟩ := getF X16 hx hZ hown (host := "") (Or.inl (hw _ (List.mem_of_getElem? (i := 10) rfl))) Via.refl e16 f17 (g := (mkF m 31 #[.val (.ref a), .val (.int mm)] [(.ref a)])) rfl rfl (hb hby d3_31)
  refine Go.st st18 ?_
  show Go p e below _ (T18.setTop (mkF m 34 #[.val (.ref a), .val (.int mm)] [(.ref an)]))
  have f20 := ((((((A_an.other W1 (Ne.symm ne_a_an)).other W4 (Ne.symm ne_a_an)).other W7 (Ne.symm ne_a_an)).other W10 (Ne.symm ne_a_an)).other W13 (Ne.symm ne_a_an)).other W16 (Ne.symm ne_a_an))
  obtain ⟨cl19, Ar19, S19, N19', -⟩ := id f20
  refine Go.st (fun _ kt => X18.arraylength hx (by rw [e18]; exact Ar19.1) (State.isArrayOf_alike hZ.alike Ar19.2.1) (g := (mkF m 34 #[.val (.ref a), .val (.int mm)] [(.ref an)])) rfl rfl (hb hby d3_34) _ kt) ?_
  rw [len_of S19 N19']
  show Go p e below _ (T18.setTop (mkF m 35 #[.val (.ref a), .val (.int mm)] [(.int nl)]))
  refine Go.st (fun _ kt => XS.iloadN X18.here hx rfl (hb hby d3_35) rfl kt) ?_
  show Go p e below _ (T18.setTop (mkF m 36 #[.val (.ref a), .val (.int mm)] [(.int mm), (.int nl)]))
  by_cases hc36_21 : nl < mm
  · refine Go.st (fun _ kt => XS.icmpNo X18.here hx rfl (hb hby d3_36) rfl (tlt hc36_21).2.1 kt) ?_
    show Go p e below _ (T18.setTop (mkF m 39 #[.val (.ref a), .val (.int mm)] []))
    refine Go.st (fun _ kt => XS.aloadN X18.here hx rfl (hb hby d3_39) rfl rfl kt) ?_
    show Go p e below _ (T18.setTop (mkF m 40 #[.val (.ref a), .val (.int mm)] [(.ref a)]))
    refine Go.st (fun _ kt => XS.iloadN X18.here hx rfl (hb hby d3_40) rfl kt) ?_
    show Go p e below _ (T18.setTop (mkF m 41 #[.val (.ref a), .val (.int mm)] [(.int mm), (.ref a)]))
    obtain ⟨T22, h22, k22, X22, e22, E22, A22, Y22, st22⟩ := newPE X18 hx hZ (hw _ (List.mem_of_getElem? (i := 9) rfl)) e18 (g := (mkF m 41 #[.val (.ref a), .val (.int mm)] [(.int mm), (.ref a)])) rfl (hb hby d3_41) rfl (own_nlt hp1) (cap := 255) (by have := own_nat hp1; omega) (by decide) (by decide) (by decide) (ad := "[Z") (by decide)
    obtain ⟨b22, g22⟩ : ∃ z, z = h16.size := ⟨_, rfl⟩
    rw [← g22] at A22 Y22 st22
    have f23 := (f14.wr W16)
    have lt_a_b22 : a < b22 := Nat.lt_of_lt_of_eq f23.lt g22.symm
    have lt_an_b22 : an < b22 := Nat.lt_of_lt_of_eq f20.lt g22.symm
    have f24 := ((((((A_ab.other W1 (Ne.symm ne_a_ab)).other W4 (Ne.symm ne_a_ab)).other W7 (Ne.symm ne_a_ab)).other W10 (Ne.symm ne_a_ab)).other W13 (Ne.symm ne_a_ab)).other W16 (Ne.symm ne_a_ab))
    have lt_ab_b22 : ab < b22 := Nat.lt_of_lt_of_eq f24.lt g22.symm
    have f25 := ((((((A_az.other W1 (Ne.symm ne_a_az)).other W4 (Ne.symm ne_a_az)).other W7 (Ne.symm ne_a_az)).other W10 (Ne.symm ne_a_az)).other W13 (Ne.symm ne_a_az)).other W16 (Ne.symm ne_a_az))
    have lt_az_b22 : az < b22 := Nat.lt_of_lt_of_eq f25.lt g22.symm
    have f26 := ((((((A_al.other W1 (Ne.symm ne_a_al)).other W4 (Ne.symm ne_a_al)).other W7 (Ne.symm ne_a_al)).other W10 (Ne.symm ne_a_al)).other W13 (Ne.symm ne_a_al)).other W16 (Ne.symm ne_a_al))
    have lt_al_b22 : al < b22 := Nat.lt_of_lt_of_eq f26.lt g22.symm
    have f27 := ((((((A_ac.other W1 (Ne.symm ne_a_ac)).other W4 (Ne.symm ne_a_ac)).other W7 (Ne.symm ne_a_ac)).other W10 (Ne.symm ne_a_ac)).other W13 (Ne.symm ne_a_ac)).other W16 (Ne.symm ne_a_ac))
    have lt_ac_b22 : ac < b22 := Nat.lt_of_lt_of_eq f27.lt g22.symm
    have f28 := ((((((A_sr.other W1 (Ne.symm ne_a_sr)).other W4 (Ne.symm ne_a_sr)).other W7 (Ne.symm ne_a_sr)).other W10 (Ne.symm ne_a_sr)).other W13 (Ne.symm ne_a_sr)).other W16 (Ne.symm ne_a_sr))
    have lt_sr_b22 : sr < b22 := Nat.lt_of_lt_of_eq f28.lt g22.symm
    have gn_b22 : n0 ≤ b22 := Nat.le_trans Zs16 (Nat.le_of_eq g22.symm)
    have Zs22 : n0 ≤ h22.size := Nat.le_trans Zs16 E22.1
    refine Go.st st22 ?_
    have V22 : AV Z h22 b22 .boolean mm := AV.new A22 (own_nlt hp1) rfl
    show Go p e below _ (T22.setTop (mkF m 43 #[.val (.ref a), .val (.int mm)] [(.ref b22), (.ref a)]))
    have f29 := (f23.ext E22)
    have f30 := (f17.ext E22)
    obtain ⟨T31, h31, X31, e31, W31, st31⟩ := putF X22 hx hZ hown (host := "") (Or.inl (hw _ (List.mem_of_getElem? (i := 10) rfl))) Via.refl e22 f30 f29 (Or.inl (hw _ (List.mem_of_getElem? (i := 11) rfl))) (hw _ (List.mem_of_getElem? (i := 1) rfl)) (ty := (.array .boolean)) (by decide) rfl rfl (g := (mkF m 43 #[.val (.ref a), .val (.int mm)] [(.ref b22), (.ref a)])) rfl rfl (hb hby d3_43)
    refine Go.st st31 ?_
    have Fw31 := f30.same W31
    have Zs31 : n0 ≤ h31.size := Nat.le_trans Zs22 (Nat.le_of_eq W31.size.symm)
    have N31 := Fr.snoc X31 N16 gn_a
    show Go p e below _ (T31.setTop (mkF m 46 #[.val (.ref a), .val (.int mm)] []))
    have f32 := (f29.wr W31)
    have f33 := ((((((((F_bits.other W1 (Or.inr (slot_ne (Or.inl (hw _ (List.mem_of_getElem? (i := 14) rfl))) (Or.inl (hw _ (List.mem_of_getElem? (i := 31) rfl))) (by decide) (t := (.array .long)) (t' := .int) (by decide) (by decide)))).other W4 (Or.inr (slot_ne (Or.inl (hw _ (List.mem_of_getElem? (i := 14) rfl))) (Or.inl (hw _ (List.mem_of_getElem? (i := 33) rfl))) (by decide) (t := (.array .long)) (t' := .boolean) (by decide) (by decide)))).other W7 (Or.inr (slot_ne (Or.inl (hw _ (List.mem_of_getElem? (i := 14) rfl))) (Or.inl (hw _ (List.mem_of_getElem? (i := 35) rfl))) (by decide) (t := (.array .long)) (t' := .int) (by decide) (by decide)))).other W10 (Or.inr (slot_ne (Or.inl (hw _ (List.mem_of_getElem? (i := 14) rfl))) (Or.inl (hw _ (List.mem_of_getElem? (i := 37) rfl))) (by decide) (t := (.array .long)) (t' := (.array .byte)) (by decide) (by decide)))).other W13 (Or.inr (slot_ne (Or.inl (hw _ (List.mem_of_getElem? (i := 14) rfl))) (Or.inl (hw _ (List.mem_of_getElem? (i := 39) rfl))) (by decide) (t := (.array .long)) (t' := (.object "com/example/rowsieve/rowsieve/grouping/ValueDictionary")) (by decide) (by decide)))).other W16 (Or.inr (slot_ne (Or.inl (hw _ (List.mem_of_getElem? (i := 14) rfl))) (Or.inl (hw _ (List.mem_of_getElem? (i := 41) rfl))) (by decide) (t := (.array .long)) (t' := .int) (by decide) (by decide)))).ext E22).other W31 (Or.inr (slot_ne (Or.inl (hw _ (List.mem_of_getElem? (i := 14) rfl))) (Or.inl (hw _ (List.mem_of_getElem? (i := 11) rfl))) (by decide) (t := (.array .long)) (t' := (.array .boolean)) (by decide) (by decide))))
    have f34 := ((((((((F_starts.other W1 (Or.inr (slot_ne (Or.inl (hw _ (List.mem_of_getElem? (i := 17) rfl))) (Or.inl (hw _ (List.mem_of_getElem? (i := 31) rfl))) (by decide) (t := (.array .int)) (t' := .int) (by decide) (by decide)))).other W4 (Or.inr (slot_ne (Or.inl (hw _ (List.mem_of_getElem? (i := 17) rfl))) (Or.inl (hw _ (List.mem_of_getElem? (i := 33) rfl))) (by decide) (t := (.array .int)) (t' := .boolean) (by decide) (by decide)))).other W7 (Or.inr (slot_ne (Or.inl (hw _ (List.mem_of_getElem? (i := 17) rfl))) (Or.inl (hw _ (List.mem_of_getElem? (i := 35) rfl))) (by decide) (t := (.array .int)) (t' := .int) (by decide) (by decide)))).other W10 (Or.inr (slot_ne (Or.inl (hw _ (List.mem_of_getElem? (i := 17) rfl))) (Or.inl (hw _ (List.mem_of_getElem? (i := 37) rfl))) (by decide) (t := (.array .int)) (t' := (.array .byte)) (by decide) (by decide)))).other W13 (Or.inr (slot_ne (Or.inl (hw _ (List.mem_of_getElem? (i := 17) rfl))) (Or.inl (hw _ (List.mem_of_getElem? (i := 39) rfl))) (by decide) (t := (.array .int)) (t' := (.object "com/example/rowsieve/rowsieve/grouping/ValueDictionary")) (by decide) (by decide)))).other W16 (Or.inr (slot_ne (Or.inl (hw _ (List.mem_of_getElem? (i := 17) rfl))) (Or.inl (hw _ (List.mem_of_getElem? (i := 41) rfl))) (by decide) (t := (.array .int)) (t' := .int) (by decide) (by decide)))).ext E22).other W31 (Or.inr (slot_ne (Or.inl (hw _ (List.mem_of_getElem? (i := 17) rfl))) (Or.inl (hw _ (List.mem_of_getElem? (i := 11) rfl))) (by decide) (t := (.array .int)) (t' := (.array .boolean)) (by decide) (by decide))))
    have f35 := ((((((((F_lengths.other W1 (Or.inr (slot_ne (Or.inl (hw _ (List.mem_of_getElem? (i := 19) rfl))) (Or.inl (hw _ (List.mem_of_getElem? (i := 31) rfl))) (by decide) (t := (.array .int)) (t' := .int) (by decide) (by decide)))).other W4 (Or.inr (slot_ne (Or.inl (hw _ (List.mem_of_getElem? (i := 19) rfl))) (Or.inl (hw _ (List.mem_of_getElem? (i := 33) rfl))) (by decide) (t := (.array .int)) (t' := .boolean) (by decide) (by decide)))).other W7 (Or.inr (slot_ne (Or.inl (hw _ (List.mem_of_getElem? (i := 19) rfl))) (Or.inl (hw _ (List.mem_of_getElem? (i := 35) rfl))) (by decide) (t := (.array .int)) (t' := .int) (by decide) (by decide)))).other W10 (Or.inr (slot_ne (Or.inl (hw _ (List.mem_of_getElem? (i := 19) rfl))) (Or.inl (hw _ (List.mem_of_getElem? (i := 37) rfl))) (by decide) (t := (.array .int)) (t' := (.array .byte)) (by decide) (by decide)))).other W13 (Or.inr (slot_ne (Or.inl (hw _ (List.mem_of_getElem? (i := 19) rfl))) (Or.inl (hw _ (List.mem_of_getElem? (i := 39) rfl))) (by decide) (t := (.array .int)) (t' := (.object "com/example/rowsieve/rowsieve/grouping/ValueDictionary")) (by decide) (by decide)))).other W16 (Or.inr (slot_ne (Or.inl (hw _ (List.mem_of_getElem? (i := 19) rfl))) (Or.inl (hw _ (List.mem_of_getElem? (i := 41) rfl))) (by decide) (t := (.array .int)) (t' := .int) (by decide) (by decide)))).ext E22).other W31 (Or.inr (slot_ne (Or.inl (hw _ (List.mem_of_getElem? (i := 19) rfl))) (Or.inl (hw _ (List.mem_of_getElem? (i := 11) rfl))) (by decide) (t := (.array .int)) (t' := (.array .boolean)) (by decide) (by decide))))
    have f36 := ((((((((F_copies.other W1 (Or.inr (slot_ne (Or.inl (hw _ (List.mem_of_getElem? (i := 24) rfl))) (Or.inl (hw _ (List.mem_of_getElem? (i := 31) rfl))) (by decide) (t := (.array .byte)) (t' := .int) (by decide) (by decide)))).other W4 (Or.inr (slot_ne (Or.inl (hw _ (List.mem_of_getElem? (i := 24) rfl))) (Or.inl (hw _ (List.mem_of_getElem? (i := 33) rfl))) (by decide) (t := (.array .byte)) (t' := .boolean) (by decide) (by decide)))).other W7 (Or.inr (slot_ne (Or.inl (hw _ (List.mem_of_getElem? (i := 24) rfl))) (Or.inl (hw _ (List.mem_of_getElem? (i := 35) rfl))) (by decide) (t := (.array .byte)) (t' := .int) (by decide) (by decide)))).other W10 (Or.inr (slot_ne (Or.inl (hw _ (List.mem_of_getElem? (i := 24) rfl))) (Or.inl (hw _ (List.mem_of_getElem? (i := 37) rfl))) (by decide) (t := (.array .byte)) (t' := (.array .byte)) (by decide) (by decide)))).other W13 (Or.inr (slot_ne (Or.inl (hw _ (List.mem_of_getElem? (i := 24) rfl))) (Or.inl (hw _ (List.mem_of_getElem? (i := 39) rfl))) (by decide) (t := (.array .byte)) (t' := (.object "com/example/rowsieve/rowsieve/grouping/ValueDictionary")) (by decide) (by decide)))).other W16 (Or.inr (slot_ne (Or.inl (hw _ (List.mem_of_getElem? (i := 24) rfl))) (Or.inl (hw _ (List.mem_of_getElem? (i := 41) rfl))) (by decide) (t := (.array .byte)) (t' := .int) (by decide) (by decide)))).ext E22).other W31 (Or.inr (slot_ne (Or.inl (hw _ (List.mem_of_getElem? (i := 24) rfl))) (Or.inl (hw _ (List.mem_of_getElem? (i := 11) rfl))) (by decide) (t := (.array .byte)) (t' := (.array .boolean)) (by decide) (by decide))))
    have f37 := (((((((Fw1.other W4 (Or.inr (slot_ne (Or.inl (hw _ (List.mem_of_getElem? (i := 31) rfl))) (Or.inl (hw _ (List.mem_of_getElem? (i := 33) rfl))) (by decide) (t := .int) (t' := .boolean) (by decide) (by decide)))).other W7 (Or.inr (slot_ne (Or.inl (hw _ (List.mem_of_getElem? (i := 31) rfl))) (Or.inl (hw _ (List.mem_of_getElem? (i := 35) rfl))) (by decide) (t := .int) (t' := .int) (by decide) (by decide)))).other W10 (Or.inr (slot_ne (Or.inl (hw _ (List.mem_of_getElem? (i := 31) rfl))) (Or.inl (hw _ (List.mem_of_getElem? (i := 37) rfl))) (by decide) (t := .int) (t' := (.array .byte)) (by decide) (by decide)))).other W13 (Or.inr (slot_ne (Or.inl (hw _ (List.mem_of_getElem? (i := 31) rfl))) (Or.inl (hw _ (List.mem_of_getElem? (i := 39) rfl))) (by decide) (t := .int) (t' := (.object "com/example/rowsieve/rowsieve/grouping/ValueDictionary")) (by decide) (by decide)))).other W16 (Or.inr (slot_ne (Or.inl (hw _ (List.mem_of_getElem? (i := 31) rfl))) (Or.inl (hw _ (List.mem_of_getElem? (i := 41) rfl))) (by decide) (t := .int) (t' := .int) (by decide) (by decide)))).ext E22).other W31 (Or.inr (slot_ne (Or.inl (hw _ (List.mem_of_getElem? (i := 31) rfl))) (Or.inl (hw _ (List.mem_of_getElem? (i := 11) rfl))) (by decide) (t := .int) (t' := (.array .boolean)) (by decide) (by decide))))
    have f38 := ((((((Fw4.other W7 (Or.inr (slot_ne (Or.inl (hw _ (List.mem_of_getElem? (i := 33) rfl))) (Or.inl (hw _ (List.mem_of_getElem? (i := 35) rfl))) (by decide) (t := .boolean) (t' := .int) (by decide) (by decide)))).other W10 (Or.inr (slot_ne (Or.inl (hw _ (List.mem_of_getElem? (i := 33) rfl))) (Or.inl (hw _ (List.mem_of_getElem? (i := 37) rfl))) (by decide) (t := .boolean) (t' := (.array .byte)) (by decide) (by decide)))).other W13 (Or.inr (slot_ne (Or.inl (hw _ (List.mem_of_getElem? (i := 33) rfl))) (Or.inl (hw _ (List.mem_of_getElem? (i := 39) rfl))) (by decide) (t := .boolean) (t' := (.object "com/example/rowsieve/rowsieve/grouping/ValueDictionary")) (by decide) (by decide)))).other W16 (Or.inr (slot_ne (Or.inl (hw _ (List.mem_of_getElem? (i := 33) rfl))) (Or.inl (hw _ (List.mem_of_getElem? (i := 41) rfl))) (by decide) (t := .boolean) (t' := .int) (by decide) (by decide)))).ext E22).other W31 (Or.inr (slot_ne (Or.inl (hw _ (List.mem_of_getElem? (i := 33) rfl))) (Or.inl (hw _ (List.mem_of_getElem? (i := 11) rfl))) (by decide) (t := .boolean) (t' := (.array .boolean)) (by decide) (by decide))))
    have f39 := (((((Fw7.other W10 (Or.inr (slot_ne (Or.inl (hw _ (List.mem_of_getElem? (i := 35) rfl))) (Or.inl (hw _ (List.mem_of_getElem? (i := 37) rfl))) (by decide) (t := .int) (t' := (.array .byte)) (by decide) (by decide)))).other W13 (Or.inr (slot_ne (Or.inl (hw _ (List.mem_of_getElem? (i := 35) rfl))) (Or.inl (hw _ (List.mem_of_getElem? (i := 39) rfl))) (by decide) (t := .int) (t' := (.object "com/example/rowsieve/rowsieve/grouping/ValueDictionary")) (by decide) (by decide)))).other W16 (Or.inr (slot_ne (Or.inl (hw _ (List.mem_of_getElem? (i := 35) rfl))) (Or.inl (hw _ (List.mem_of_getElem? (i := 41) rfl))) (by decide) (t := .int) (t' := .int) (by decide) (by decide)))).ext E22).other W31 (Or.inr (slot_ne (Or.inl (hw _ (List.mem_of_getElem? (i := 35) rfl))) (Or.inl (hw _ (List.mem_of_getElem? (i := 11) rfl))) (by decide) (t := .int) (t' := (.array .boolean)) (by decide) (by decide))))
    have f40 := ((((Fw10.other W13 (Or.inr (slot_ne (Or.inl (hw _ (List.mem_of_getElem? (i := 37) rfl))) (Or.inl (hw _ (List.mem_of_getElem? (i := 39) rfl))) (by decide) (t := (.array .byte)) (t' := (.object "com/example/rowsieve/rowsieve/grouping/ValueDictionary")) (by decide) (by decide)))).other W16 (Or.inr (slot_ne (Or.inl (hw _ (List.mem_of_getElem? (i := 37) rfl))) (Or.inl (hw _ (List.mem_of_getElem? (i := 41) rfl))) (by decide) (t := (.array .byte)) (t' := .int) (by decide) (by decide)))).ext E22).other W31 (Or.inr (slot_ne (Or.inl (hw _ (List.mem_of_getElem? (i := 37) rfl))) (Or.inl (hw _ (List.mem_of_getElem? (i := 11) rfl))) (by decide) (t := (.array .byte)) (t' := (.array .boolean)) (by decide) (by decide))))
    have f41 := (((Fw13.other W16 (Or.inr (slot_ne (Or.inl (hw _ (List.mem_of_getElem? (i := 39) rfl))) (Or.inl (hw _ (List.mem_of_getElem? (i := 41) rfl))) (by decide) (t := (.object "com/example/rowsieve/rowsieve/grouping/ValueDictionary")) (t' := .int) (by decide) (by decide)))).ext E22).other W31 (Or.inr (slot_ne (Or.inl (hw _ (List.mem_of_getElem? (i := 39) rfl))) (Or.inl (hw _ (List.mem_of_getElem? (i := 11) rfl))) (by decide) (t := (.object "com/example/rowsieve/rowsieve/grouping/ValueDictionary")) (t' := (.array .boolean)) (by decide) (by decide))))
    have f42 := ((Fw16.ext E22).other W31 (Or.inr (slot_ne (Or.inl (hw _ (List.mem_of_getElem? (i := 41) rfl))) (Or.inl (hw _ (List.mem_of_getElem? (i := 11) rfl))) (by decide) (t := .int) (t' := (.array .boolean)) (by decide) (by decide))))
    have f43 := (V22.other W31 (Nat.ne_of_gt lt_a_b22))
    have f44 := ((f24.ext E22).other W31 (Ne.symm ne_a_ab))
    have f45 := ((f25.ext E22).other W31 (Ne.symm ne_a_az))
    have f46 := ((f26.ext E22).other W31 (Ne.symm ne_a_al))
    have f47 := ((f27.ext E22).other W31 (Ne.symm ne_a_ac))
    have f48 := ((f28.ext E22).other W31 (Ne.symm ne_a_sr))
    refine Go.retV X31 hx Bd.returns (BodyLoose.notSynchronized Bd) (hb hby d3_46) (Q := (Q_rm3 Z a mm an ab az al ac sr nl bl r cq ce h0 n0)) (by decide) (by decide) ?_
    show (Q_rm3 Z a mm an ab az al ac sr nl bl r cq ce h0 n0) _ T31.heap _
    rw [e31]
    exact ⟨b22, mm, rfl, N31, ⟨f32, Fw31, f33, f34, f35, f36, f37, ⟨_, f38⟩, f39, ⟨_, f40⟩, ⟨_, f41⟩, f42, f43, f44, f45, f46, f47, f48, gn_a, gn_b22, gn_ab, gn_az, gn_al, gn_ac, (Nat.ne_of_lt lt_a_b22), ne_a_ab, ne_a_az, ne_a_al, ne_a_ac, ne_a_sr, (Nat.ne_of_gt lt_ab_b22), (Nat.ne_of_gt lt_az_b22), (Nat.ne_of_gt lt_al_b22), (Nat.ne_of_gt lt_ac_b22), (Nat.ne_of_gt lt_sr_b22), ne_ab_az, ne_ab_al, ne_ab_ac, ne_ab_sr, ne_az_al, ne_az_ac, ne_az_sr, ne_al_ac, ne_al_sr, ne_ac_sr⟩, (by simp only [Int32.lt_iff_toInt_lt] at *; omega), (by simp only [Int32.lt_iff_toInt_lt] at *; omega)⟩
  · refine Go.st (fun _ kt => XS.icmpYes X18.here hx rfl (pc0 := 36) (pc' := 46) rfl (hb hby d3_36) rfl (flt hc36_21).2.1 (by decide) (by decide) kt) ?_
    show Go p e below _ (T18.setTop (mkF m 46 #[.val (.ref a), .val (.int mm)] []))
    have f49 := (f14.wr W16)
    have f50 := ((((((F_bits.other W1 (Or.inr (slot_ne (Or.inl (hw _ (List.mem_of_getElem? (i := 14) rfl))) (Or.inl (hw _ (List.mem_of_getElem? (i := 31) rfl))) (by decide) (t := (.array .long)) (t' := .int) (by decide) (by decide)))).other W4 (Or.inr (slot_ne (Or.inl (hw _ (List.mem_of_getElem? (i := 14) rfl))) (Or.inl (hw _ (List.mem_of_getElem? (i := 33) rfl))) (by decide) (t := (.array .long)) (t' := .boolean) (by decide) (by decide)))).other W7 (Or.inr (slot_ne (Or.inl (hw _ (List.mem_of_getElem? (i := 14) rfl))) (Or.inl (hw _ (List.mem_of_getElem? (i := 35) rfl))) (by decide) (t := (.array .long)) (t' := .int) (by decide) (by decide)))).other W10 (Or.inr (slot_ne (Or.inl (hw _ (List.mem_of_getElem? (i := 14) rfl))) (Or.inl (hw _ (List.mem_of_getElem? (i := 37) rfl))) (by decide) (t := (.array .long)) (t' := (.array .byte)) (by decide) (by decide)))).other W13 (Or.inr (slot_ne (Or.inl (hw _ (List.mem_of_getElem? (i := 14) rfl))) (Or.inl (hw _ (List.mem_of_getElem? (i := 39) rfl))) (by decide) (t := (.array .long)) (t' := (.object "com/example/rowsieve/rowsieve/grouping/ValueDictionary")) (by decide) (by decide)))).other W16 (Or.inr (slot_ne (Or.inl (hw _ (List.mem_of_getElem? (i := 14) rfl))) (Or.inl (hw _ (List.mem_of_getElem? (i := 41) rfl))) (by decide) (t := (.array .long)) (t' := .int) (by decide) (by decide))))
    have f51 := ((((((F_starts.other W1 (Or.inr (slot_ne (Or.inl (hw _ (List.mem_of_getElem? (i := 17) rfl))) (Or.inl (hw _ (List.mem_of_getElem? (i := 31) rfl))) (by decide) (t := (.array .int)) (t' := .int) (by decide) (by decide)))).other W4 (Or.inr (slot_ne (Or.inl (hw _ (List.mem_of_getElem? (i := 17) rfl))) (Or.inl (hw _ (List.mem_of_getElem? (i := 33) rfl))) (by decide) (t := (.array .int)) (t' := .boolean) (by decide) (by decide)))).other W7 (Or.inr (slot_ne (Or.inl (hw _ (List.mem_of_getElem? (i := 17) rfl))) (Or.inl (hw _ (List.mem_of_getElem? (i := 35) rfl))) (by decide) (t := (.array .int)) (t' := .int) (by decide) (by decide)))).other W10 (Or.inr (slot_ne (Or.inl (hw _ (List.mem_of_getElem? (i := 17) rfl))) (Or.inl (hw _ (List.mem_of_getElem? (i := 37) rfl))) (by decide) (t := (.array .int)) (t' := (.array .byte)) (by decide) (by decide)))).other W13 (Or.inr (slot_ne (Or.inl (hw _ (List.mem_of_getElem? (i := 17) rfl))) (Or.inl (hw _ (List.mem_of_getElem? (i := 39) rfl))) (by decide) (t := (.array .int)) (t' := (.object "com/example/rowsieve/rowsieve/grouping/ValueDictionary")) (by decide) (by decide)))).other W16 (Or.inr (slot_ne (Or.inl (hw _ (List.mem_of_getElem? (i := 17) rfl))) (Or.inl (hw _ (List.mem_of_getElem? (i := 41) rfl))) (by decide) (t := (.array .int)) (t' := .int) (by decide) (by decide))))
    have f52 := ((((((F_lengths.other W1 (Or.inr (slot_ne (Or.inl (hw _ (List.mem_of_getElem? (i := 19) rfl))) (Or.inl (hw _ (List.mem_of_getElem? (i := 31) rfl))) (by decide) (t := (.array .int)) (t' := .int) (by decide) (by decide)))).other W4 (Or.inr (slot_ne (Or.inl (hw _ (List.mem_of_getElem? (i := 19) rfl))) (Or.inl (hw _ (List.mem_of_getElem? (i := 33) rfl))) (by decide) (t := (.array .int)) (t' := .boolean) (by decide) (by decide)))).other W7 (Or.inr (slot_ne (Or.inl (hw _ (List.mem_of_getElem? (i := 19) rfl))) (Or.inl (hw _ (List.mem_of_getElem? (i := 35) rfl))) (by decide) (t := (.array .int)) (t' := .int) (by decide) (by decide)))).other W10 (Or.inr (slot_ne (Or.inl (hw _ (List.mem_of_getElem? (i := 19) rfl))) (Or.inl (hw _ (List.mem_of_getElem? (i := 37) rfl))) (by decide) (t := (.array .int)) (t' := (.array .byte)) (by decide) (by decide)))).other W13 (Or.inr (slot_ne (Or.inl (hw _ (List.mem_of_getElem? (i := 19) rfl))) (Or.inl (hw _ (List.mem_of_getElem? (i := 39) rfl))) (by decide) (t := (.array .int)) (t' := (.object "com/example/rowsieve/rowsieve/grouping/ValueDictionary")) (by decide) (by decide)))).other W16 (Or.inr (slot_ne (Or.inl (hw _ (List.mem_of_getElem? (i := 19) rfl))) (Or.inl (hw _ (List.mem_of_getElem? (i := 41) rfl))) (by decide) (t := (.array .int)) (t' := .int) (by decide) (by decide))))
    have f53 := ((((((F_copies.other W1 (Or.inr (slot_ne (Or.inl (hw _ (List.mem_of_getElem? (i := 24) rfl))) (Or.inl (hw _ (List.mem_of_getElem? (i := 31) rfl))) (by decide) (t := (.array .byte)) (t' := .int) (by decide) (by decide)))).other W4 (Or.inr (slot_ne (Or.inl (hw _ (List.mem_of_getElem? (i := 24) rfl))) (Or.inl (hw _ (List.mem_of_getElem? (i := 33) rfl))) (by decide) (t := (.array .byte)) (t' := .boolean) (by decide) (by decide)))).other W7 (Or.inr (slot_ne (Or.inl (hw _ (List.mem_of_getElem? (i := 24) rfl))) (Or.inl (hw _ (List.mem_of_getElem? (i := 35) rfl))) (by decide) (t := (.array .byte)) (t' := .int) (by decide) (by decide)))).other W10 (Or.inr (slot_ne (Or.inl (hw _ (List.mem_of_getElem? (i := 24) rfl))) (Or.inl (hw _ (List.mem_of_getElem? (i := 37) rfl))) (by decide) (t := (.array .byte)) (t' := (.array .byte)) (by decide) (by decide)))).other W13 (Or.inr (slot_ne (Or.inl (hw _ (List.mem_of_getElem? (i := 24) rfl))) (Or.inl (hw _ (List.mem_of_getElem? (i := 39) rfl))) (by decide) (t := (.array .byte)) (t' := (.object "com/example/rowsieve/rowsieve/grouping/ValueDictionary")) (by decide) (by decide)))).other W16 (Or.inr (slot_ne (Or.inl (hw _ (List.mem_of_getElem? (i := 24) rfl))) (Or.inl (hw _ (List.mem_of_getElem? (i := 41) rfl))) (by decide) (t := (.array .byte)) (t' := .int) (by decide) (by decide))))
    have f54 := (((((Fw1.other W4 (Or.inr (slot_ne (Or.inl (hw _ (List.mem_of_getElem? (i := 31) rfl))) (Or.inl (hw _ (List.mem_of_getElem? (i := 33) rfl))) (by decide) (t := .int) (t' := .boolean) (by decide) (by decide)))).other W7 (Or.inr (slot_ne (Or.inl (hw _ (List.mem_of_getElem? (i := 31) rfl))) (Or.inl (hw _ (List.mem_of_getElem? (i := 35) rfl))) (by decide) (t := .int) (t' := .int) (by decide) (by decide)))).other W10 (Or.inr (slot_ne (Or.inl (hw _ (List.mem_of_getElem? (i := 31) rfl))) (Or.inl (hw _ (List.mem_of_getElem? (i := 37) rfl))) (by decide) (t := .int) (t' := (.array .byte)) (by decide) (by decide)))).other W13 (Or.inr (slot_ne (Or.inl (hw _ (List.mem_of_getElem? (i := 31) rfl))) (Or.inl (hw _ (List.mem_of_getElem? (i := 39) rfl))) (by decide) (t := .int) (t' := (.object "com/example/rowsieve/rowsieve/grouping/ValueDictionary")) (by decide) (by decide)))).other W16 (Or.inr (slot_ne (Or.inl (hw _ (List.mem_of_getElem? (i := 31) rfl))) (Or.inl (hw _ (List.mem_of_getElem? (i := 41) rfl))) (by decide) (t := .int) (t' := .int) (by decide) (by decide))))
    have f55 := ((((Fw4.other W7 (Or.inr (slot_ne (Or.inl (hw _ (List.mem_of_getElem? (i := 33) rfl))) (Or.inl (hw _ (List.mem_of_getElem? (i := 35) rfl))) (by decide) (t := .boolean) (t' := .int) (by decide) (by decide)))).other W10 (Or.inr (slot_ne (Or.inl (hw _ (List.mem_of_getElem? (i := 33) rfl))) (Or.inl (hw _ (List.mem_of_getElem? (i := 37) rfl))) (by decide) (t := .boolean) (t' := (.array .byte)) (by decide) (by decide)))).other W13 (Or.inr (slot_ne (Or.inl (hw _ (List.mem_of_getElem? (i := 33) rfl))) (Or.inl (hw _ (List.mem_of_getElem? (i := 39) rfl))) (by decide) (t := .boolean) (t' := (.object "com/example/rowsieve/rowsieve/grouping/ValueDictionary")) (by decide) (by decide)))).other W16 (Or.inr (slot_ne (Or.inl (hw _ (List.mem_of_getElem? (i := 33) rfl))) (Or.inl (hw _ (List.mem_of_getElem? (i := 41) rfl))) (by decide) (t := .boolean) (t' := .int) (by decide) (by decide))))
    have f56 := (((Fw7.other W10 (Or.inr (slot_ne (Or.inl (hw _ (List.mem_of_getElem? (i := 35) rfl))) (Or.inl (hw _ (List.mem_of_getElem? (i := 37) rfl))) (by decide) (t := .int) (t' := (.array .byte)) (by decide) (by decide)))).other W13 (Or.inr (slot_ne (Or.inl (hw _ (List.mem_of_getElem? (i := 35) rfl))) (Or.inl (hw _ (List.mem_of_getElem? (i := 39) rfl))) (by decide) (t := .int) (t' := (.object "com/example/rowsieve/rowsieve/grouping/ValueDictionary")) (by decide) (by decide)))).other W16 (Or.inr (slot_ne (Or.inl (hw _ (List.mem_of_getElem? (i := 35) rfl))) (Or.inl (hw _ (List.mem_of_getElem? (i := 41) rfl))) (by decide) (t := .int) (t' := .int) (by decide) (by decide))))
    have f57 := ((Fw10.other W13 (Or.inr (slot_ne (Or.inl (hw _ (List.mem_of_getElem? (i := 37) rfl))) (Or.inl (hw _ (List.mem_of_getElem? (i := 39) rfl))) (by decide) (t := (.array .byte)) (t' := (.object "com/example/rowsieve/rowsieve/grouping/ValueDictionary")) (by decide) (by decide)))).other W16 (Or.inr (slot_ne (Or.inl (hw _ (List.mem_of_getElem? (i := 37) rfl))) (Or.inl (hw _ (List.mem_of_getElem? (i := 41) rfl))) (by decide) (t := (.array .byte)) (t' := .int) (by decide) (by decide))))
    have f58 := (Fw13.other W16 (Or.inr (slot_ne (Or.inl (hw _ (List.mem_of_getElem? (i := 39) rfl))) (Or.inl (hw _ (List.mem_of_getElem? (i := 41) rfl))) (by decide) (t := (.object "com/example/rowsieve/rowsieve/grouping/ValueDictionary")) (t' := .int) (by decide) (by decide))))
    have f59 := ((((((A_ab.other W1 (Ne.symm ne_a_ab)).other W4 (Ne.symm ne_a_ab)).other W7 (Ne.symm ne_a_ab)).other W10 (Ne.symm ne_a_ab)).other W13 (Ne.symm ne_a_ab)).other W16 (Ne.symm ne_a_ab))
    have f60 := ((((((A_az.other W1 (Ne.symm ne_a_az)).other W4 (Ne.symm ne_a_az)).other W7 (Ne.symm ne_a_az)).other W10 (Ne.symm ne_a_az)).other W13 (Ne.symm ne_a_az)).other W16 (Ne.symm ne_a_az))
    have f61 := ((((((A_al.other W1 (Ne.symm ne_a_al)).other W4 (Ne.symm ne_a_al)).other W7 (Ne.symm ne_a_al)).other W10 (Ne.symm ne_a_al)).other W13 (Ne.symm ne_a_al)).other W16 (Ne.symm ne_a_al))
    have f62 := ((((((A_ac.other W1 (Ne.symm ne_a_ac)).other W4 (Ne.symm ne_a_ac)).other W7 (Ne.symm ne_a_ac)).other W10 (Ne.symm ne_a_ac)).other W13 (Ne.symm ne_a_ac)).other W16 (Ne.symm ne_a_ac))
    have f63 := ((((((A_sr.other W1 (Ne.symm ne_a_sr)).other W4 (Ne.symm ne_a_sr)).other W7 (Ne.symm ne_a_sr)).other W10 (Ne.symm ne_a_sr)).other W13 (Ne.symm ne_a_sr)).other W16 (Ne.symm ne_a_sr))
    refine Go.retV X18 hx Bd.returns (BodyLoose.notSynchronized Bd) (hb hby d3_46) (Q := (Q_rm3 Z a mm an ab az al ac sr nl bl r cq ce h0 n0)) (by decide) (by decide) ?_
    show (Q_rm3 Z a mm an ab az al ac sr nl bl r cq ce h0 n0) _ T18.heap _
    rw [e18]
    exact ⟨an, nl, rfl, N16, ⟨f49, f17, f50, f51, f52, f53, f54, ⟨_, f55⟩, f56, ⟨_, f57⟩, ⟨_, f58⟩, Fw16, f20, f59, f60, f61, f62, f63, gn_a, gn_an, gn_ab, gn_az, gn_al, gn_ac, ne_a_an, ne_a_ab, ne_a_az, ne_a_al, ne_a_ac, ne_a_sr, ne_an_ab, ne_an_az, ne_an_al, ne_an_ac, ne_an_sr, ne_ab_az, ne_ab_al, ne_ab_ac, ne_ab_sr, ne_az_al, ne_az_ac, ne_az_sr, ne_al_ac, ne_al_sr, ne_ac_sr⟩, (by simp only [Int32.lt_iff_toInt_lt] at *; omega), (by simp only [Int32.lt_iff_toInt_lt] at *; omega)⟩
theorem own_add0 (x : Int32) : ((0 : Int32) + x).toInt = x.toInt := by rw [Int32.zero_add]
theorem own_dbl (x : Int32) (h : 0 ≤ x.toInt) (hp2 : x.toInt ≤ 128) : ((2 : Int32) * x).toInt = 2 * x.toInt := by
  have e : (2 : Int32).toInt = 2 := by decide
  rw [Int32.toInt_mul, e, Int.bmod_eq_of_le (by omega) (by omega)]
theorem own_pd4 : parseMethodDescriptor "([JI)[J" = some ⟨[(.array .long), .int], some (.array .long)⟩ := by decide +kernel
theorem own_pd5 : parseMethodDescriptor "([ZIIZ)V" = some ⟨[(.array .boolean), .int, .int, .boolean], none⟩ := by decide +kernel
theorem d7_0 : decode prog_13_method_7_code 0 = .ok (.iload_n 1, 1) := by decide +kernel
theorem d7_1 : decode prog_13_method_7_code 1 = .ok (.aload_n 0, 1) := by decide +kernel
theorem d7_2 : decode prog_13_method_7_code 2 = .ok (.getfield 13, 3) := by decide +kernel
theorem d7_5 : decode prog_13_method_7_code 5 = .ok (.arraylength, 1) := by decide +kernel
theorem d7_6 : decode prog_13_method_7_code 6 = .ok (.aload_n 0, 1) := by decide +kernel
theorem d7_7 : decode prog_13_method_7_code 7 = .ok (.getfield 39, 3) := by decide +kernel
theorem d7_10 : decode prog_13_method_7_code 10 = .ok (.isub, 1) := by decide +kernel
theorem d7_11 : decode prog_13_method_7_code 11 = .ok (.if_icmp .le 30, 3) := by decide +kernel
theorem d7_14 : decode prog_13_method_7_code 14 = .ok (.aload_n 0, 1) := by decide +kernel
theorem d7_15 : decode prog_13_method_7_code 15 = .ok (.aload_n 0, 1) := by decide +kernel
theorem d7_16 : decode prog_13_method_7_code 16 = .ok (.getfield 13, 3) := by decide +kernel
theorem d7_19 : decode prog_13_method_7_code 19 = .ok (.aload_n 0, 1) := by decide +kernel
theorem d7_20 : decode prog_13_method_7_code 20 = .ok (.getfield 39, 3) := by decide +kernel
theorem d7_23 : decode prog_13_method_7_code 23 = .ok (.iload_n 1, 1) := by decide +kernel
theorem d7_24 : decode prog_13_method_7_code 24 = .ok (.iadd, 1) := by decide +kernel
theorem d7_25 : decode prog_13_method_7_code 25 = .ok (.iconst 2, 1) := by decide +kernel
theorem d7_26 : decode prog_13_method_7_code 26 = .ok (.aload_n 0, 1) := by decide +kernel
theorem d7_27 : decode prog_13_method_7_code 27 = .ok (.getfield 13, 3) := by decide +kernel
theorem d7_30 : decode prog_13_method_7_code 30 = .ok (.arraylength, 1) := by decide +kernel
theorem d7_31 : decode prog_13_method_7_code 31 = .ok (.imul, 1) := by decide +kernel
theorem d7_32 : decode prog_13_method_7_code 32 = .ok (.invokestatic 52, 3) := by decide +kernel
theorem d7_35 : decode prog_13_method_7_code 35 = .ok (.invokestatic 58, 3) := by decide +kernel
theorem d7_38 : decode prog_13_method_7_code 38 = .ok (.putfield 13, 3) := by decide +kernel
theorem d7_41 : decode prog_13_method_7_code 41 = .ok (.aload_n 0, 1) := by decide +kernel
theorem d7_42 : decode prog_13_method_7_code 42 = .ok (.getfield 9, 3) := by decide +kernel
theorem d7_45 : decode prog_13_method_7_code 45 = .ok (.aload_n 0, 1) := by decide +kernel
theorem d7_46 : decode prog_13_method_7_code 46 = .ok (.getfield 31, 3) := by decide +kernel
theorem d7_49 : decode prog_13_method_7_code 49 = .ok (.aload_n 0, 1) := by decide +kernel
theorem d7_50 : decode prog_13_method_7_code 50 = .ok (.getfield 31, 3) := by decide +kernel
theorem d7_53 : decode prog_13_method_7_code 53 = .ok (.iload_n 1, 1) := by decide +kernel
theorem d7_54 : decode prog_13_method_7_code 54 = .ok (.iadd, 1) := by decide +kernel
theorem d7_55 : decode prog_13_method_7_code 55 = .ok (.iconst 0, 1) := by decide +kernel
theorem d7_56 : decode prog_13_method_7_code 56 = .ok (.invokestatic 64, 3) := by decide +kernel
theorem d7_59 : decode prog_13_method_7_code 59 = .ok (.aload_n 0, 1) := by decide +kernel
theorem d7_60 : decode prog_13_method_7_code 60 = .ok (.dup, 1) := by decide +kernel
theorem d7_61 : decode prog_13_method_7_code 61 = .ok (.getfield 39, 3) := by decide +kernel
theorem d7_64 : decode prog_13_method_7_code 64 = .ok (.iload_n 1, 1) := by decide +kernel
theorem d7_65 : decode prog_13_method_7_code 65 = .ok (.iadd, 1) := by decide +kernel
theorem d7_66 : decode prog_13_method_7_code 66 = .ok (.putfield 39, 3) := by decide +kernel
theorem d7_69 : decode prog_13_method_7_code 69 = .ok (.aload_n 0, 1) := by decide +kernel
theorem d7_70 : decode prog_13_method_7_code 70 = .ok (.dup, 1) := by decide +kernel
theorem d7_71 : decode prog_13_method_7_code 71 = .ok (.getfield 31, 3) := by decide +kernel
theorem d7_74 : decode prog_13_method_7_code 74 = .ok (.iload_n 1, 1) := by decide +kernel
theorem d7_75 : decode prog_13_method_7_code 75 = .ok (.iadd, 1) := by decide +kernel
theorem d7_76 : decode prog_13_method_7_code 76 = .ok (.putfield 31, 3) := by decide +kernel
theorem d7_79 : decode prog_13_method_7_code 79 = .ok (.aload_n 0, 1) := by decide +kernel
theorem d7_80 : decode prog_13_method_7_code 80 = .ok (.getfield 13, 3) := by decide +kernel
theorem d7_83 : decode prog_13_method_7_code 83 = .ok (.areturn, 1) := by decide +kernel
def Q_rm7 (Z : State) (a : Addr) (mm : Int32) (an : Addr) (ab : Addr) (az : Addr) (al : Addr) (ac : Addr) (sr : Addr) (nl : Int32) (bl : Int32) (r : Int32) (cq : Int32) (ce : Int32) (h0 : Heap) (n0 : Nat) (v : Option Value) (h : Heap) (L : List Loc) : Prop := ∃ ab' bl', v = some (.ref ab') ∧ Fr n0 L ∧ PV Z n0 h a an ab' az al ac sr nl bl' ((0 : Int32) + mm) ((0 : Int32) + mm) ce ∧ (bl' = bl ∨ bl'.toInt = max mm.toInt (2 * bl.toInt))
theorem ef_rm7 (m : MethodId) (a : Addr) (mm : Int32) : entryFrame m #[(.ref a), (.int mm)] 2 = mkF m 0 #[.val (.ref a), .val (.int mm)] [] := by first | (simp [entryFrame, mkF, argsToLocals, Value.category]; done) | rfl
set_option maxRecDepth 65536 in
set_option maxHeartbeats 40000000 in
theorem rm7 (l : Launch) (Z : State) (a0 : Array Value) (hw : ∀ d ∈ tables_1, d.before a0 Z = true) (ws : List Jvm.Cond) (a : Addr) (mm : Int32) (an : Addr) (ab : Addr) (az : Addr) (al : Addr) (ac : Addr) (sr : Addr) (nl : Int32) (bl : Int32) (r : Int32) (cq : Int32) (ce : Int32) (h0 : Heap) (n0 : Nat) (Z0 : n0 ≤ h0.size) (P : PV Z n0 h0 a an ab az al ac sr nl bl (0 : Int32) (0 : Int32) ce) (hp1 : 0 ≤ mm.toInt) (hp2 : mm.toInt ≤ 255) (hp3 : mm.toInt ≤ nl.toInt) (hp4 : 64 ≤ bl.toInt) (hp5 : bl.toInt ≤ 128) :
    MetFree l (⟨"com/example/rowsieve/rowsieve/data/PageValues", "addBits", "(I)[J"⟩ : MethodName) (head1 (Jvm.Cond.code (⟨"com/example/rowsieve/rowsieve/data/PageValues", "addBits", "(I)[J"⟩ : MethodName) prog_13_method_7_code 2 (some (.array .long)) :: ws) ({ frames := 2, cells := 1, slots := 256, locals := 33 } : Room)) (fun ag_ U_ => ag_ = #[(.ref a), (.int mm)] ∧ Z.Warmed39 U_.vm ∧ U_.heap = h0) (fun _ _ _ _ _ => True) (fun _ U_ o_ V_ => ∃ v_ L_, o_ = .returned v_ ∧ (Q_rm7 Z a mm an ab az al ac sr nl bl r cq ce h0 n0) v_ V_.heap L_ ∧ FrameEnd U_ o_ V_ L_ ({ frames := 2, cells := 1, slots := 256, locals := 33 } : Room).cells ({ frames := 2, cells := 1, slots := 256, locals := 33 } : Room).slots) := by
  refine MetFree.of_bodySF (plainFor_of_name own_pn3) hisR ?_
  intro p e s m args below meth c s₁ Bd hml0 hP hK
  obtain ⟨rfl, hZ, hh⟩ := hP
  have hx := Bd.exec
  have hby := Bd.bytes
  have hml : c.maxLocals = 2 := hml0
  have hown : s.vm.findClass "com/example/rowsieve/rowsieve/data/PageValues" = some m.cls := findClass_of_methodNamed Bd.named
  have hnm := (name_of_methodNamed Bd.named Bd.method).1
  have X0 : Stand p l e ({ frames := 2, cells := 1, slots := 256, locals := 33 } : Room) s m #[(.ref a), (.int mm)] below meth c s₁ [] 0 0 := Stand.of_body Bd
  have e0 : s₁.heap = h0 := by rw [← hh, Bd.state]; rfl
  have N0 := Fr.nil n0
  refine Go.st (G := fun s₂ o_ => ∃ v_ L_, o_ = .returned v_ ∧ (Q_rm7 Z a mm an ab az al ac sr nl bl r cq ce h0 n0) v_ s₂.heap L_ ∧ FrameEnd s o_ s₂ L_ ({ frames := 2, cells := 1, slots := 256, locals := 33 } : Room).cells ({ frames := 2, cells := 1, slots := 256, locals := 33 } : Room).slots) (fun t kt => castTop (ef_rm7 m a mm) kt) ?_
  obtain ⟨E_a, F_nulls, F_bits, F_starts, F_lengths, F_copies, F_rows, ⟨u1, F_anyNull⟩, F_count, ⟨u2, F_bytes⟩, ⟨u3, F_dictionary⟩, F_copiesEnd, A_an, A_ab, A_az, A_al, A_ac, A_sr, gn_a, gn_an, gn_ab, gn_az, gn_al, gn_ac, ne_a_an, ne_a_ab, ne_a_az, ne_a_al, ne_a_ac, ne_a_sr, ne_an_ab, ne_an_az, ne_an_al, ne_an_ac, ne_an_sr, ne_ab_az, ne_ab_al, ne_ab_ac, ne_ab_sr, ne_az_al, ne_az_ac, ne_az_sr, ne_al_ac, ne_al_sr, ne_ac_sr⟩ := P
  have hz0 := own_add0 mm
  have hz2 := own_dbl bl (by omega) hp5
  show Go p e below _ (s₁.setTop (mkF m 0 #[.val (.ref a), .val (.int mm)] []))
  refine Go.st (fun _ kt => XS.iloadN X0.here hx rfl (hb hby d7_0) rfl kt) ?_
  show Go p e below _ (s₁.setTop (mkF m 1 #[.val (.ref a), .val (.int mm)] [(.int mm)]))
  refine Go.st (fun _ kt => XS.aloadN X0.here hx rfl (hb hby d7_1) rfl rfl kt) ?_
  show Go p e below _ (s₁.setTop (mkF m 2 #[.val (.ref a), .val (.int mm)] [(.ref a), (.int mm)]))
  obtain ⟨T1, X1, e1, st1⟩ := getF X0 hx hZ hown (host := "") (Or.inl (hw _ (List.mem_of_getElem? (i := 13) rfl))) Via.refl e0 F_bits (g := (mkF m 2 #[.val (.ref a), .val (.int mm)] [(.ref a), (.int mm)])) rfl rfl (hb hby d7_2)
  refine Go.st st1 ?_
  show Go p e below _ (T1.setTop (mkF m 5 #[.val (.ref a), .val (.int mm)] [(.ref ab), (.int mm)]))
  obtain ⟨cl2, Ar2, S2, N2', -⟩ := id A_ab
  refine Go.st (fun _ kt => X1.arraylength hx (by rw [e1]; exact Ar2.1) (State.isArrayOf_alike hZ.alike Ar2.2.1) (g := (mkF m 5 #[.val (.ref a), .val (.int mm)] [(.ref ab), (.int mm)])) rfl rfl (hb hby d7_5) _ kt) ?_
  rw [len_of S2 N2']
  show Go p e below _ (T1.setTop (mkF m 6 #[.val (.ref a), .val (.int mm)] [(.int bl), (.int mm)]))
  refine Go.st (fun _ kt => XS.aloadN X1.here hx rfl (hb hby d7_6) rfl rfl kt) ?_
  show Go p e below _ (T1.setTop (mkF m 7 #[.val (.ref a), .val (.int mm)] [(.ref a), (.int bl), (.int mm)]))
  obtain ⟨T3, X3, e3, st3⟩ := getF X1 hx hZ hown (host := "") (Or.inl (hw _ (List.mem_of_getElem? (i := 34) rfl))) Via.refl e1 F_count (g := (mkF m 7 #[.val (.ref a), .val (.int mm)] [(.ref a), (.int bl), (.int mm)])) rfl rfl (hb hby d7_7)
  refine Go.st st3 ?_
  show Go p e below _ (T3.setTop (mkF m 10 #[.val (.ref a), .val (.int mm)] [(.int (0 : Int32)), (.int bl), (.int mm)]))
  refine Go.st (fun _ kt => XS.isub X3.here hx rfl (hb hby d7_10) rfl kt) ?_
  show Go p e below _ (T3.setTop (mkF m 11 #[.val (.ref a), .val (.int mm)] [(.int (bl - (0 : Int32))), (.int mm)]))
  rw [(Int32.sub_zero _ : bl - (0 : Int32) = bl)]
  show Go p e below _ (T3.setTop (mkF m 11 #[.val (.ref a), .val (.int mm)] [(.int (bl)), (.int mm)]))
  by_cases hc11_4 : bl < mm
  · refine Go.st (fun _ kt => XS.icmpNo X3.here hx rfl (hb hby d7_11) rfl (tlt hc11_4).2.2.2 kt) ?_
    show Go p e below _ (T3.setTop (mkF m 14 #[.val (.ref a), .val (.int mm)] []))
    refine Go.st (fun _ kt => XS.aloadN X3.here hx rfl (hb hby d7_14) rfl rfl kt) ?_
    show Go p e below _ (T3.setTop (mkF m 15 #[.val (.ref a), .val (.int mm)] [(.ref a)]))
    refine Go.st (fun _ kt => XS.aloadN X3.here hx rfl (hb hby d7_15) rfl rfl kt) ?_
    show Go p e below _ (T3.setTop (mkF m 16 #[.val (.ref a), .val (.int mm)] [(.ref a), (.ref a)]))
    obtain ⟨T5, X5, e5, st5⟩ := getF X3 hx hZ hown (host := "") (Or.inl (hw _ (List.mem_of_getElem? (i := 13) rfl))) Via.refl e3 F_bits (g := (mkF m 16 #[.val (.ref a), .val (.int mm)] [(.ref a), (.ref a)])) rfl rfl (hb hby d7_16)
    refine Go.st st5 ?_
    show Go p e below _ (T5.setTop (mkF m 19 #[.val (.ref a), .val (.int mm)] [(.ref ab), (.ref a)]))
    refine Go.st (fun _ kt => XS.aloadN X5.here hx rfl (hb hby d7_19) rfl rfl kt) ?_
    show Go p e below _ (T5.setTop (mkF m 20 #[.val (.ref a), .val (.int mm)] [(.ref a), (.ref ab), (.ref a)]))
    obtain ⟨T6, X6, e6, st6⟩ := getF X5 hx hZ hown (host := "") (Or.inl (hw _ (List.mem_of_getElem? (i := 34) rfl))) Via.refl e5 F_count (g := (mkF m 20 #[.val (.ref a), .val (.int mm)] [(.ref a), (.ref ab), (.ref a)])) rfl rfl (hb hby d7_20)
    refine Go.st st6 ?_
    show Go p e below _ (T6.setTop (mkF m 23 #[.val (.ref a), .val (.int mm)] [(.int (0 : Int32)), (.ref ab), (.ref a)]))
    refine Go.st (fun _ kt => XS.iloadN X6.here hx rfl (hb hby d7_23) rfl kt) ?_
    show Go p e below _ (T6.setTop (mkF m 24 #[.val (.ref a), .val (.int mm)] [(.int mm), (.int (0 : Int32)), (.ref ab), (.ref a)]))
    refine Go.st (fun _ kt => XS.iadd X6.here hx rfl (hb hby d7_24) rfl kt) ?_
    show Go p e below _ (T6.setTop (mkF m 25 #[.val (.ref a), .val (.int mm)] [(.int ((0 : Int32) + mm)), (.ref ab), (.ref a)]))
    refine Go.st (fun _ kt => XS.iconst X6.here hx rfl (hb hby d7_25) kt) ?_
    show Go p e below _ (T6.setTop (mkF m 26 #[.val (.ref a), .val (.int mm)] [(.int (2 : Int32)), (.int ((0 : Int32) + mm)), (.ref ab), (.ref a)]))
    refine Go.st (fun _ kt => XS.aloadN X6.here hx rfl (hb hby d7_26) rfl rfl kt) ?_
    show Go p e below _ (T6.setTop (mkF m 27 #[.val (.ref a), .val (.int mm)] [(.ref a), (.int (2 : Int32)), (.int ((0 : Int32) + mm)), (.ref ab), (.ref a)]))
    obtain ⟨T7, X7, e7, st7⟩ := getF X6 hx hZ hown (host := "") (Or.inl (hw _ (List.mem_of_getElem? (i := 13) rfl))) Via.refl e6 F_bits (g := (mkF m 27 #[.val (.ref a), .val (.int mm)] [(.ref a), (.int (2 : Int32)), (.int ((0 : Int32) + mm)), (.ref ab), (.ref a)])) rfl rfl (hb hby d7_27)
    refine Go.st st7 ?_
    show Go p e below _ (T7.setTop (mkF m 30 #[.val (.ref a), .val (.int mm)] [(.ref ab), (.int (2 : Int32)), (.int ((0 : Int32) + mm)), (.ref ab), (.ref a)]))
    obtain ⟨cl8, Ar8, S8, N8', -⟩ := id A_ab
    refine Go.st (fun _ kt => X7.arraylength hx (by rw [e7]; exact Ar8.1) (State.isArrayOf_alike hZ.alike Ar8.2.1) (g := (mkF m 30 #[.val (.ref a), .val (.int mm)] [(.ref ab), (.int (2 : Int32)), (.int ((0 : Int32) + mm)), (.ref ab), (.ref a)])) rfl rfl (hb hby d7_30) _ kt) ?_
    rw [len_of S8 N8']
    show Go p e below _ (T7.setTop (mkF m 31 #[.val (.ref a), .val (.int mm)] [(.int bl), (.int (2 : Int32)), (.int ((0 : Int32) + mm)), (.ref ab), (.ref a)]))
    refine Go.st (fun _ kt => XS.imul X7.here hx rfl (hb hby d7_31) rfl kt) ?_
    show Go p e below _ (T7.setTop (mkF m 32 #[.val (.ref a), .val (.int mm)] [(.int ((2 : Int32) * bl)), (.int ((0 : Int32) + mm)), (.ref ab), (.ref a)]))
    obtain ⟨_, _, ⟨T9, L9, k9, n9⟩, -, X9, ⟨Lc9, hQ9, l9, y9, z9⟩, st9⟩ := Jvm.LawKit.callS X7 hx (y := (⟨"java/lang/Math", "max", "(II)I"⟩ : MethodName)) hown (mvT hZ (hw _ (List.mem_of_getElem? (i := 91) rfl))) (mvT hZ (hw _ (List.mem_of_getElem? (i := 92) rfl))) (mvT hZ (hw _ (List.mem_of_getElem? (i := 93) rfl))) (mvT hZ (hw _ (List.mem_of_getElem? (i := 94) rfl))) (by decide) (backOf (W := 2) (rm14 l Z a0 hw [] ((0 : Int32) + mm) ((2 : Int32) * bl) h0 n0 Z0) hZ (hw _ (List.mem_of_getElem? (i := 94) rfl)) (hw _ (List.mem_of_getElem? (i := 93) rfl)) (by decide) (by decide)) (g := (mkF m 32 #[.val (.ref a), .val (.int mm)] [(.int ((2 : Int32) * bl)), (.int ((0 : Int32) + mm)), (.ref ab), (.ref a)])) rfl (by rw [hml]; rfl) (argsL := [(.int ((0 : Int32) + mm)), (.int ((2 : Int32) * bl))]) (rest := [(.ref ab), (.ref a)]) (lenOf own_pd2 rfl) rfl (by show 2 * 0 + _ ≤ _; exact Nat.le_of_eq rfl) (hb hby d7_32) (fun _ _ => ⟨rfl, e7, (by decide : 0 + 0 ≤ _), (by decide : 0 + 0 ≤ _)⟩)
    dsimp only [Pt.U, Pt.locs, Pt.cells, Pt.slots] at X9 l9 y9 z9 st9 hQ9
    subst l9 y9 z9
    obtain ⟨rfl, N9q, e9⟩ := hQ9
    have N9 := Fr.app N0 N9q
    refine Go.st st9 ?_
    show Go p e below _ (T9.setTop (mkF m 35 #[.val (.ref a), .val (.int mm)] [(.int (own_max ((0 : Int32) + mm) ((2 : Int32) * bl))), (.ref ab), (.ref a)]))
    have hmx := own_max_toInt ((0 : Int32) + mm) ((2 : Int32) * bl)
    rw [hz0, hz2] at hmx
    obtain ⟨_, _, ⟨T10, L10, k10, n10⟩, -, X10, ⟨Lc10, hQ10, l10, y10, z10⟩, st10⟩ := Jvm.LawKit.callS X9 hx (y := (⟨"java/util/Arrays", "copyOf", "([JI)[J"⟩ : MethodName)) hown (mvT hZ (hw _ (List.mem_of_getElem? (i := 95) rfl))) (mvT hZ (hw _ (List.mem_of_getElem? (i := 96) rfl))) (mvT hZ (hw _ (List.mem_of_getElem? (i := 64) rfl))) (mvT hZ (hw _ (List.mem_of_getElem? (i := 97) rfl))) (by decide) (backOf (W := 1) (rm15 l Z a0 hw [] ab (own_max ((0 : Int32) + mm) ((2 : Int32) * bl)) bl h0 n0 Z0 A_ab (fun q => by rw [q] at hmx; omega) (by omega) (by omega) (by omega) (by omega)) hZ (hw _ (List.mem_of_getElem? (i := 97) rfl)) (hw _ (List.mem_of_getElem? (i := 64) rfl)) (by decide) (by decide)) (g := (mkF m 35 #[.val (.ref a), .val (.int mm)] [(.int (own_max ((0 : Int32) + mm) ((2 : Int32) * bl))), (.ref ab), (.ref a)])) rfl (by rw [hml]; rfl) (argsL := [(.ref ab), (.int (own_max ((0 : Int32) + mm) ((2 : Int32) * bl)))]) (rest := [(.ref a)]) (lenOf own_pd4 rfl) rfl (by show 2 * 0 + _ ≤ _; exact Nat.le_of_eq rfl) (hb hby d7_35) (fun _ _ => ⟨rfl, e9, (by decide : 0 + 1 ≤ _), (by decide : 0 + 256 ≤ _)⟩)
    dsimp only [Pt.U, Pt.locs, Pt.cells, Pt.slots] at X10 l10 y10 z10 st10 hQ10
    subst l10 y10 z10
    obtain ⟨r10, rfl, N10q, K10q, hs10, G10_0⟩ := hQ10
    have lt_a_r10 : a < r10 := Nat.lt_of_lt_of_le E_a.lt hs10
    have lt_an_r10 : an < r10 := Nat.lt_of_lt_of_le A_an.lt hs10
    have lt_ab_r10 : ab < r10 := Nat.lt_of_lt_of_le A_ab.lt hs10
    have lt_az_r10 : az < r10 := Nat.lt_of_lt_of_le A_az.lt hs10
    have lt_al_r10 : al < r10 := Nat.lt_of_lt_of_le A_al.lt hs10
    have lt_ac_r10 : ac < r10 := Nat.lt_of_lt_of_le A_ac.lt hs10
    have lt_sr_r10 : sr < r10 := Nat.lt_of_lt_of_le A_sr.lt hs10
    have gn_r10 : n0 ≤ r10 := Nat.le_trans Z0 hs10
    have Zs10 : n0 ≤ T10.heap.size := Nat.le_trans Z0 K10q.1
    have N10 := Fr.app N9 N10q
    refine Go.st st10 ?_
    show Go p e below _ (T10.setTop (mkF m 38 #[.val (.ref a), .val (.int mm)] [(.ref r10), (.ref a)]))
    have f11 := (E_a.keep K10q)
    have f12 := (F_bits.keep K10q nin0)
    obtain ⟨T13, h13, X13, e13, W13, st13⟩ := putF X10 hx hZ hown (host := "") (Or.inl (hw _ (List.mem_of_getElem? (i := 13) rfl))) Via.refl rfl f12 f11 (Or.inl (hw _ (List.mem_of_getElem? (i := 14) rfl))) (hw _ (List.mem_of_getElem? (i := 1) rfl)) (ty := (.array .long)) (by decide) rfl rfl (g := (mkF m 38 #[.val (.ref a), .val (.int mm)] [(.ref r10), (.ref a)])) rfl rfl (hb hby d7_38)
    refine Go.st st13 ?_
    have Fw13 := f12.same W13
    have Zs13 : n0 ≤ h13.size := Nat.le_trans Zs10 (Nat.le_of_eq W13.size.symm)
    have N13 := Fr.snoc X13 N10 gn_a
    show Go p e below _ (T13.setTop (mkF m 41 #[.val (.ref a), .val (.int mm)] []))
    refine Go.st (fun _ kt => XS.aloadN X13.here hx rfl (hb hby d7_41) rfl rfl kt) ?_
    show Go p e below _ (T13.setTop (mkF m 42 #[.val (.ref a), .val (.int mm)] [(.ref a)]))
    have f14 := ((F_nulls.keep K10q nin0).other W13 (Or.inr (slot_ne (Or.inl (hw _ (List.mem_of_getElem? (i := 11) rfl))) (Or.inl (hw _ (List.mem_of_getElem? (i := 14) rfl))) (by decide) (t := (.array .boolean)) (t' := (.array .long)) (by decide) (by decide))))
    obtain ⟨T15, X15, e15, st15⟩ := getF X13 hx hZ hown (host := "") (Or.inl (hw _ (List.mem_of_getElem? (i := 10) rfl))) Via.refl e13 f14 (g := (mkF m 42 #[.val (.ref a), .val (.int mm)] [(.ref a)])) rfl rfl (hb hby d7_42)
    refine Go.st st15 ?_
    show Go p e below _ (T15.setTop (mkF m 45 #[.val (.ref a), .val (.int mm)] [(.ref an)]))
    refine Go.st (fun _ kt => XS.aloadN X15.here hx rfl (hb hby d7_45) rfl rfl kt) ?_
    show Go p e below _ (T15.setTop (mkF m 46 #[.val (.ref a), .val (.int mm)] [(.ref a), (.ref an)]))
    have f16 := ((F_rows.keep K10q nin0).other W13 (Or.inr (slot_ne (Or.inl (hw _ (List.mem_of_getElem? (i := 31) rfl))) (Or.inl (hw _ (List.mem_of_getElem? (i := 14) rfl))) (by decide) (t := .int) (t' := (.array .long)) (by decide) (by decide))))
    obtain ⟨T17, X17, e17, st17⟩ := getF X15 hx hZ hown (host := "") (Or.inl (hw _ (List.mem_of_getElem? (i := 30) rfl))) Via.refl e15 f16 (g := (mkF m 46 #[.val (.ref a), .val (.int mm)] [(.ref a), (.ref an)])) rfl rfl (hb hby d7_46)
    refine Go.st st17 ?_
    show Go p e below _ (T17.setTop (mkF m 49 #[.val (.ref a), .val (.int mm)] [(.int (0 : Int32)), (.ref an)]))
    refine Go.st (fun _ kt => XS.aloadN X17.here hx rfl (hb hby d7_49) rfl rfl kt) ?_
    show Go p e below _ (T17.setTop (mkF m 50 #[.val (.ref a), .val (.int mm)] [(.ref a), (.int (0 : Int32)), (.ref an)]))
    obtain ⟨T18, X18, e18, st18⟩ := getF X17 hx hZ hown (host := "") (Or.inl (hw _ (List.mem_of_getElem? (i := 30) rfl))) Via.refl e17 f16 (g := (mkF m 50 #[.val (.ref a), .val (.int mm)] [(.ref a), (.int (0 : Int32)), (.ref an)])) rfl rfl (hb hby d7_50)
    refine Go.st st18 ?_
    show Go p e below _ (T18.setTop (mkF m 53 #[.val (.ref a), .val (.int mm)] [(.int (0 : Int32)), (.int (0 : Int32)), (.ref an)]))
    refine Go.st (fun _ kt => XS.iloadN X18.here hx rfl (hb hby d7_53) rfl kt) ?_
    show Go p e below _ (T18.setTop (mkF m 54 #[.val (.ref a), .val (.int mm)] [(.int mm), (.int (0 : Int32)), (.int (0 : Int32)), (.ref an)]))
    refine Go.st (fun _ kt => XS.iadd X18.here hx rfl (hb hby d7_54) rfl kt) ?_
    show Go p e below _ (T18.setTop (mkF m 55 #[.val (.ref a), .val (.int mm)] [(.int ((0 : Int32) + mm)), (.int (0 : Int32)), (.ref an)]))
    refine Go.st (fun _ kt => XS.iconst X18.here hx rfl (hb hby d7_55) kt) ?_
    show Go p e below _ (T18.setTop (mkF m 56 #[.val (.ref a), .val (.int mm)] [(.int (0 : Int32)), (.int ((0 : Int32) + mm)), (.int (0 : Int32)), (.ref an)]))
    have f19 := ((A_an.keep K10q nin0).other W13 (Ne.symm ne_a_an))
    obtain ⟨_, _, ⟨T20, L20, k20, n20⟩, -, X20, ⟨Lc20, hQ20, l20, y20, z20⟩, st20⟩ := Jvm.LawKit.callS X18 hx (y := (⟨"java/util/Arrays", "fill", "([ZIIZ)V"⟩ : MethodName)) hown (mvT hZ (hw _ (List.mem_of_getElem? (i := 62) rfl))) (mvT hZ (hw _ (List.mem_of_getElem? (i := 63) rfl))) (mvT hZ (hw _ (List.mem_of_getElem? (i := 64) rfl))) (mvT hZ (hw _ (List.mem_of_getElem? (i := 65) rfl))) (by decide) (backOf (W := 0) (rm8 l Z a0 hw [] an (0 : Int32) ((0 : Int32) + mm) (0 : Int32) nl h13 n0 Zs13 f19 gn_an (by decide) (by rw [hz0, own_z]; omega) (by rw [hz0]; omega)) hZ (hw _ (List.mem_of_getElem? (i := 65) rfl)) (hw _ (List.mem_of_getElem? (i := 64) rfl)) (by decide) (by decide)) (g := (mkF m 56 #[.val (.ref a), .val (.int mm)] [(.int (0 : Int32)), (.int ((0 : Int32) + mm)), (.int (0 : Int32)), (.ref an)])) rfl (by rw [hml]; rfl) (argsL := [(.ref an), (.int (0 : Int32)), (.int ((0 : Int32) + mm)), (.int (0 : Int32))]) (rest := []) (lenOf own_pd5 rfl) rfl (by show 2 * 0 + _ ≤ _; exact Nat.le_of_eq rfl) (hb hby d7_56) (fun _ _ => ⟨rfl, e18, (by decide : 1 + 0 ≤ _), (by decide : 256 + 0 ≤ _)⟩)
    dsimp only [Pt.U, Pt.locs, Pt.cells, Pt.slots] at X20 l20 y20 z20 st20 hQ20
    subst l20 y20 z20
    obtain ⟨rfl, N20q, K20q, G20_0⟩ := hQ20
    have Zs20 : n0 ≤ T20.heap.size := Nat.le_trans Zs13 K20q.1
    have N20 := Fr.app N13 N20q
    refine Go.st st20 ?_
    show Go p e below _ (T20.setTop (mkF m 59 #[.val (.ref a), .val (.int mm)] []))
    refine Go.st (fun _ kt => XS.aloadN X20.here hx rfl (hb hby d7_59) rfl rfl kt) ?_
    show Go p e below _ (T20.setTop (mkF m 60 #[.val (.ref a), .val (.int mm)] [(.ref a)]))
    refine Go.st (fun _ kt => XS.dup X20.here hx rfl (hb hby d7_60) rfl rfl kt) ?_
    show Go p e below _ (T20.setTop (mkF m 61 #[.val (.ref a), .val (.int mm)] [(.ref a), (.ref a)]))
    have f21 := (((F_count.keep K10q nin0).other W13 (Or.inr (slot_ne (Or.inl (hw _ (List.mem_of_getElem? (i := 35) rfl))) (Or.inl (hw _ (List.mem_of_getElem? (i := 14) rfl))) (by decide) (t := .int) (t' := (.array .long)) (by decide) (by decide)))).keep K20q (ninS ne_a_an nin0))
    obtain ⟨T22, X22, e22, st22⟩ := getF X20 hx hZ hown (host := "") (Or.inl (hw _ (List.mem_of_getElem? (i := 34) rfl))) Via.refl rfl f21 (g := (mkF m 61 #[.val (.ref a), .val (.int mm)] [(.ref a), (.ref a)])) rfl rfl (hb hby d7_61)
    refine Go.st st22 ?_
    show Go p e below _ (T22.setTop (mkF m 64 #[.val (.ref a), .val (.int mm)] [(.int (0 : Int32)), (.ref a)]))
    refine Go.st (fun _ kt => XS.iloadN X22.here hx rfl (hb hby d7_64) rfl kt) ?_
    show Go p e below _ (T22.setTop (mkF m 65 #[.val (.ref a), .val (.int mm)] [(.int mm), (.int (0 : Int32)), (.ref a)]))
    refine Go.st (fun _ kt => XS.iadd X22.here hx rfl (hb hby d7_65) rfl kt) ?_
    show Go p e below _ (T22.setTop (mkF m 66 #[.val (.ref a), .val (.int mm)] [(.int ((0 : Int32) + mm)), (.ref a)]))
    have f23 := ((f11.wr W13).keep K20q)
    obtain ⟨T24, h24, X24, e24, W24, st24⟩ := putF X22 hx hZ hown (host := "") (Or.inl (hw _ (List.mem_of_getElem? (i := 34) rfl))) Via.refl e22 f21 f23 (Or.inl (hw _ (List.mem_of_getElem? (i := 35) rfl))) (hw _ (List.mem_of_getElem? (i := 1) rfl)) (ty := .int) (by decide) rfl rfl (g := (mkF m 66 #[.val (.ref a), .val (.int mm)] [(.int ((0 : Int32) + mm)), (.ref a)])) rfl rfl (hb hby d7_66)
    refine Go.st st24 ?_
    have Fw24 := f21.same W24
    have Zs24 : n0 ≤ h24.size := Nat.le_trans Zs20 (Nat.le_of_eq W24.size.symm)
    have N24 := Fr.snoc X24 N20 gn_a
    show Go p e below _ (T24.setTop (mkF m 69 #[.val (.ref a), .val (.int mm)] []))
    refine Go.st (fun _ kt => XS.aloadN X24.here hx rfl (hb hby d7_69) rfl rfl kt) ?_
    show Go p e below _ (T24.setTop (mkF m 70 #[.val (.ref a), .val (.int mm)] [(.ref a)]))
    refine Go.st (fun _ kt => XS.dup X24.here hx rfl (hb hby d7_70) rfl rfl kt) ?_
    show Go p e below _ (T24.setTop (mkF m 71 #[.val (.ref a), .val (.int mm)] [(.ref a), (.ref a)]))
    have f25 := ((f16.keep K20q (ninS ne_a_an nin0)).other W24 (Or.inr (slot_ne (Or.inl (hw _ (List.mem_of_getElem? (i := 31) rfl))) (Or.inl (hw _ (List.mem_of_getElem? (i := 35) rfl))) (by decide) (t := .int) (t' := .int) (by decide) (by decide))))
    obtain ⟨T26, X26, e26, st26⟩ := getF X24 hx hZ hown (host := "") (Or.inl (hw _ (List.mem_of_getElem? (i := 30) rfl))) Via.refl e24 f25 (g := (mkF m 71 #[.val (.ref a), .val (.int mm)] [(.ref a), (.ref a)])) rfl rfl (hb hby d7_71)
    refine Go.st st26 ?_
    show Go p e below _ (T26.setTop (mkF m 74 #[.val (.ref a), .val (.int mm)] [(.int (0 : Int32)), (.ref a)]))
    refine Go.st (fun _ kt => XS.iloadN X26.here hx rfl (hb hby d7_74) rfl kt) ?_
    show Go p e below _ (T26.setTop (mkF m 75 #[.val (.ref a), .val (.int mm)] [(.int mm), (.int (0 : Int32)), (.ref a)]))
    refine Go.st (fun _ kt => XS.iadd X26.here hx rfl (hb hby d7_75) rfl kt) ?_
    show Go p e below _ (T26.setTop (mkF m 76 #[.val (.ref a), .val (.int mm)] [(.int ((0 : Int32) + mm)), (.ref a)]))
    have f27 := (f23.wr W24)
    obtain ⟨T28, h28, X28, e28, W28, st28⟩ := putF X26 hx hZ hown (host := "") (Or.inl (hw _ (List.mem_of_getElem? (i := 30) rfl))) Via.refl e26 f25 f27 (Or.inl (hw _ (List.mem_of_getElem? (i := 31) rfl))) (hw _ (List.mem_of_getElem? (i := 1) rfl)) (ty := .int) (by decide) rfl rfl (g := (mkF m 76 #[.val (.ref a), .val (.int mm)] [(.int ((0 : Int32) + mm)), (.ref a)])) rfl rfl (hb hby d7_76)
    refine Go.st st28 ?_
    have Fw28 := f25.same W28
    have Zs28 : n0 ≤ h28.size := Nat.le_trans Zs24 (Nat.le_of_eq W28.size.symm)
    have N28 := Fr.snoc X28 N24 gn_a
    show Go p e below _ (T28.setTop (mkF m 79 #[.val (.ref a), .val (.int mm)] []))
    refine Go.st (fun _ kt => XS.aloadN X28.here hx rfl (hb hby d7_79) rfl rfl kt) ?_
    show Go p e below _ (T28.setTop (mkF m 80 #[.val (.ref a), .val (.int mm)] [(.ref a)]))
    have f29 := (((Fw13.keep K20q (ninS ne_a_an nin0)).other W24 (Or.inr (slot_ne (Or.inl (hw _ (List.mem_of_getElem? (i := 14) rfl))) (Or.inl (hw _ (List.mem_of_getElem? (i := 35) rfl))) (by decide) (t := (.array .long)) (t' := .int) (by decide) (by decide)))).other W28 (Or.inr (slot_ne (Or.inl (hw _ (List.mem_of_getElem? (i := 14) rfl))) (Or.inl (hw _ (List.mem_of_getElem? (i := 31) rfl))) (by decide) (t := (.array .long)) (t' := .int) (by decide) (by decide))))
    obtain ⟨T30, X30, e30, st30⟩ := getF X28 hx hZ hown (host := "") (Or.inl (hw _ (List.mem_of_getElem? (i := 13) rfl))) Via.refl e28 f29 (g := (mkF m 80 #[.val (.ref a), .val (.int mm)] [(.ref a)])) rfl rfl (hb hby d7_80)
    refine Go.st st30 ?_
    show Go p e below _ (T30.setTop (mkF m 83 #[.val (.ref a), .val (.int mm)] [(.ref r10)]))
    have f31 := (f27.wr W28)
    have f32 := (((f14.keep K20q (ninS ne_a_an nin0)).other W24 (Or.inr (slot_ne (Or.inl (hw _ (List.mem_of_getElem? (i := 11) rfl))) (Or.inl (hw _ (List.mem_of_getElem? (i := 35) rfl))) (by decide) (t := (.array .boolean)) (t' := .int) (by decide) (by decide)))).other W28 (Or.inr (slot_ne (Or.inl (hw _ (List.mem_of_getElem? (i := 11) rfl))) (Or.inl (hw _ (List.mem_of_getElem? (i := 31) rfl))) (by decide) (t := (.array .boolean)) (t' := .int) (by decide) (by decide))))
    have f33 := (((((F_starts.keep K10q nin0).other W13 (Or.inr (slot_ne (Or.inl (hw _ (List.mem_of_getElem? (i := 17) rfl))) (Or.inl (hw _ (List.mem_of_getElem? (i := 14) rfl))) (by decide) (t := (.array .int)) (t' := (.array .long)) (by decide) (by decide)))).keep K20q (ninS ne_a_an nin0)).other W24 (Or.inr (slot_ne (Or.inl (hw _ (List.mem_of_getElem? (i := 17) rfl))) (Or.inl (hw _ (List.mem_of_getElem? (i := 35) rfl))) (by decide) (t := (.array .int)) (t' := .int) (by decide) (by decide)))).other W28 (Or.inr (slot_ne (Or.inl (hw _ (List.mem_of_getElem? (i := 17) rfl))) (Or.inl (hw _ (List.mem_of_getElem? (i := 31) rfl))) (by decide) (t := (.array .int)) (t' := .int) (by decide) (by decide))))
    have f34 := (((((F_lengths.keep K10q nin0).other W13 (Or.inr (slot_ne (Or.inl (hw _ (List.mem_of_getElem? (i := 19) rfl))) (Or.inl (hw _ (List.mem_of_getElem? (i := 14) rfl))) (by decide) (t := (.array .int)) (t' := (.array .long)) (by decide) (by decide)))).keep K20q (ninS ne_a_an nin0)).other W24 (Or.inr (slot_ne (Or.inl (hw _ (List.mem_of_getElem? (i := 19) rfl))) (Or.inl (hw _ (List.mem_of_getElem? (i := 35) rfl))) (by decide) (t := (.array .int)) (t' := .int) (by decide) (by decide)))).other W28 (Or.inr (slot_ne (Or.inl (hw _ (List.mem_of_getElem? (i := 19) rfl))) (Or.inl (hw _ (List.mem_of_getElem? (i := 31) rfl))) (by decide) (t := (.array .int)) (t' := .int) (by decide) (by decide))))
    have f35 := (((((F_copies.keep K10q nin0).other W13 (Or.inr (slot_ne (Or.inl (hw _ (List.mem_of_getElem? (i := 24) rfl))) (Or.inl (hw _ (List.mem_of_getElem? (i := 14) rfl))) (by decide) (t := (.array .byte)) (t' := (.array .long)) (by decide) (by decide)))).keep K20q (ninS ne_a_an nin0)).other W24 (Or.inr (slot_ne (Or.inl (hw _ (List.mem_of_getElem? (i := 24) rfl))) (Or.inl (hw _ (List.mem_of_getElem? (i := 35) rfl))) (by decide) (t := (.array .byte)) (t' := .int) (by decide) (by decide)))).other W28 (Or.inr (slot_ne (Or.inl (hw _ (List.mem_of_getElem? (i := 24) rfl))) (Or.inl (hw _ (List.mem_of_getElem? (i := 31) rfl))) (by decide) (t := (.array .byte)) (t' := .int) (by decide) (by decide))))
    have f36 := (((((F_anyNull.keep K10q nin0).other W13 (Or.inr (slot_ne (Or.inl (hw _ (List.mem_of_getElem? (i := 33) rfl))) (Or.inl (hw _ (List.mem_of_getElem? (i := 14) rfl))) (by decide) (t := .boolean) (t' := (.array .long)) (by decide) (by decide)))).keep K20q (ninS ne_a_an nin0)).other W24 (Or.inr (slot_ne (Or.inl (hw _ (List.mem_of_getElem? (i := 33) rfl))) (Or.inl (hw _ (List.mem_of_getElem? (i := 35) rfl))) (by decide) (t := .boolean) (t' := .int) (by decide) (by decide)))).other W28 (Or.inr (slot_ne (Or.inl (hw _ (List.mem_of_getElem? (i := 33) rfl))) (Or.inl (hw _ (List.mem_of_getElem? (i := 31) rfl))) (by decide) (t := .boolean) (t' := .int) (by decide) (by decide))))
    have f37 := (Fw24.other W28 (Or.inr (slot_ne (Or.inl (hw _ (List.mem_of_getElem? (i := 35) rfl))) (Or.inl (hw _ (List.mem_of_getElem? (i := 31) rfl))) (by decide) (t := .int) (t' := .int) (by decide) (by decide))))
    have f38 := (((((F_bytes.keep K10q nin0).other W13 (Or.inr (slot_ne (Or.inl (hw _ (List.mem_of_getElem? (i := 37) rfl))) (Or.inl (hw _ (List.mem_of_getElem? (i := 14) rfl))) (by decide) (t := (.array .byte)) (t' := (.array .long)) (by decide) (by decide)))).keep K20q (ninS ne_a_an nin0)).other W24 (Or.inr (slot_ne (Or.inl (hw _ (List.mem_of_getElem? (i := 37) rfl))) (Or.inl (hw _ (List.mem_of_getElem? (i := 35) rfl))) (by decide) (t := (.array .byte)) (t' := .int) (by decide) (by decide)))).other W28 (Or.inr (slot_ne (Or.inl (hw _ (List.mem_of_getElem? (i := 37) rfl))) (Or.inl (hw _ (List.mem_of_getElem? (i := 31) rfl))) (by decide) (t := (.array .byte)) (t' := .int) (by decide) (by decide))))
    have f39 := (((((F_dictionary.keep K10q nin0).other W13 (Or.inr (slot_ne (Or.inl (hw _ (List.mem_of_getElem? (i := 39) rfl))) (Or.inl (hw _ (List.mem_of_getElem? (i := 14) rfl))) (by decide) (t := (.object "com/example/rowsieve/rowsieve/grouping/ValueDictionary")) (t' := (.array .long)) (by decide) (by decide)))).keep K20q (ninS ne_a_an nin0)).other W24 (Or.inr (slot_ne (Or.inl (hw _ (List.mem_of_getElem? (i := 39) rfl))) (Or.inl (hw _ (List.mem_of_getElem? (i := 35) rfl))) (by decide) (t := (.object "com/example/rowsieve/rowsieve/grouping/ValueDictionary")) (t' := .int) (by decide) (by decide)))).other W28 (Or.inr (slot_ne (Or.inl (hw _ (List.mem_of_getElem? (i := 39) rfl))) (Or.inl (hw _ (List.mem_of_getElem? (i := 31) rfl))) (by decide) (t := (.object "com/example/rowsieve/rowsieve/grouping/ValueDictionary")) (t' := .int) (by decide) (by decide))))
    have f40 := (((((F_copiesEnd.keep K10q nin0).other W13 (Or.inr (slot_ne (Or.inl (hw _ (List.mem_of_getElem? (i := 41) rfl))) (Or.inl (hw _ (List.mem_of_getElem? (i := 14) rfl))) (by decide) (t := .int) (t' := (.array .long)) (by decide) (by decide)))).keep K20q (ninS ne_a_an nin0)).other W24 (Or.inr (slot_ne (Or.inl (hw _ (List.mem_of_getElem? (i := 41) rfl))) (Or.inl (hw _ (List.mem_of_getElem? (i := 35) rfl))) (by decide) (t := .int) (t' := .int) (by decide) (by decide)))).other W28 (Or.inr (slot_ne (Or.inl (hw _ (List.mem_of_getElem? (i := 41) rfl))) (Or.inl (hw _ (List.mem_of_getElem? (i := 31) rfl))) (by decide) (t := .int) (t' := .int) (by decide) (by decide))))
    have f41 := ((G20_0.other W24 (Ne.symm ne_a_an)).other W28 (Ne.symm ne_a_an))
    have f42 := ((((G10_0.other W13 (Nat.ne_of_gt lt_a_r10)).keep K20q (ninS (Nat.ne_of_gt lt_an_r10) nin0)).other W24 (Nat.ne_of_gt lt_a_r10)).other W28 (Nat.ne_of_gt lt_a_r10))
    have f43 := (((((A_az.keep K10q nin0).other W13 (Ne.symm ne_a_az)).keep K20q (ninS (Ne.symm ne_an_az) nin0)).other W24 (Ne.symm ne_a_az)).other W28 (Ne.symm ne_a_az))
    have f44 := (((((A_al.keep K10q nin0).other W13 (Ne.symm ne_a_al)).keep K20q (ninS (Ne.symm ne_an_al) nin0)).other W24 (Ne.symm ne_a_al)).other W28 (Ne.symm ne_a_al))
    have f45 := (((((A_ac.keep K10q nin0).other W13 (Ne.symm ne_a_ac)).keep K20q (ninS (Ne.symm ne_an_ac) nin0)).other W24 (Ne.symm ne_a_ac)).other W28 (Ne.symm ne_a_ac))
    have f46 := (((((A_sr.keep K10q nin0).other W13 (Ne.symm ne_a_sr)).keep K20q (ninS (Ne.symm ne_an_sr) nin0)).other W24 (Ne.symm ne_a_sr)).other W28 (Ne.symm ne_a_sr))
    refine Go.retA X30 hx Bd.returns rfl rfl (BodyLoose.notSynchronized Bd) (hb hby d7_83) (Q := (Q_rm7 Z a mm an ab az al ac sr nl bl r cq ce h0 n0)) (by decide) (by decide) ?_
    show (Q_rm7 Z a mm an ab az al ac sr nl bl r cq ce h0 n0) _ T30.heap _
    rw [e30]
    exact ⟨r10, (own_max ((0 : Int32) + mm) ((2 : Int32) * bl)), rfl, N28, ⟨f31, f32, f29, f33, f34, f35, Fw28, ⟨_, f36⟩, f37, ⟨_, f38⟩, ⟨_, f39⟩, f40, f41, f42, f43, f44, f45, f46, gn_a, gn_an, gn_r10, gn_az, gn_al, gn_ac, ne_a_an, (Nat.ne_of_lt lt_a_r10), ne_a_az, ne_a_al, ne_a_ac, ne_a_sr, (Nat.ne_of_lt lt_an_r10), ne_an_az, ne_an_al, ne_an_ac, ne_an_sr, (Nat.ne_of_gt lt_az_r10), (Nat.ne_of_gt lt_al_r10), (Nat.ne_of_gt lt_ac_r10), (Nat.ne_of_gt lt_sr_r10), ne_az_al, ne_az_ac, ne_az_sr, ne_al_ac, ne_al_sr, ne_ac_sr⟩, (by first | exact Or.inl rfl | exact Or.inr hmx)⟩
  · refine Go.st (fun _ kt => XS.icmpYes X3.here hx rfl (pc0 := 11) (pc' := 41) rfl (hb hby d7_11) rfl (flt hc11_4).2.2.2 (by decide) (by decide) kt) ?_
    show Go p e below _ (T3.setTop (mkF m 41 #[.val (.ref a), .val (.int mm)] []))
    refine Go.st (fun _ kt => XS.aloadN X3.here hx rfl (hb hby d7_41) rfl rfl kt) ?_
    show Go p e below _ (T3.setTop (mkF m 42 #[.val (.ref a), .val (.int mm)] [(.ref a)]))
    obtain ⟨T47, X47, e47, st47⟩ := getF X3 hx hZ hown (host := "") (Or.inl (hw _ (List.mem_of_getElem? (i := 10) rfl))) Via.refl e3 F_nulls (g := (mkF m 42 #[.val (.ref a), .val (.int mm)] [(.ref a)])) rfl rfl (hb hby d7_42)
    refine Go.st st47 ?_
    show Go p e below _ (T47.setTop (mkF m 45 #[.val (.ref a), .val (.int mm)] [(.ref an)]))
    refine Go.st (fun _ kt => XS.aloadN X47.here hx rfl (hb hby d7_45) rfl rfl kt) ?_
    show Go p e below _ (T47.setTop (mkF m 46 #[.val (.ref a), .val (.int mm)] [(.ref a), (.ref an)]))
    obtain ⟨T48, X48, e48, st48⟩ := getF X47 hx hZ hown (host := "") (Or.inl (hw _ (List.mem_of_getElem? (i := 30) rfl))) Via.refl e47 F_rows (g := (mkF m 46 #[.val (.ref a), .val (.int mm)] [(.ref a), (.ref an)])) rfl rfl (hb hby d7_46)
    refine Go.st st48 ?_
    show Go p e below _ (T48.setTop (mkF m 49 #[.val (.ref a), .val (.int mm)] [(.int (0 : Int32)), (.ref an)]))
    refine Go.st (fun _ kt => XS.aloadN X48.here hx rfl (hb hby d7_49) rfl rfl kt) ?_
    show Go p e below _ (T48.setTop (mkF m 50 #[.val (.ref a), .val (.int mm)] [(.ref a), (.int (0 : Int32)), (.ref an)]))
    obtain ⟨T49, X49, e49, st49⟩ := getF X48 hx hZ hown (host := "") (Or.inl (hw _ (List.mem_of_getElem? (i := 30) rfl))) Via.refl e48 F_rows (g := (mkF m 50 #[.val (.ref a), .val (.int mm)] [(.ref a), (.int (0 : Int32)), (.ref an)])) rfl rfl (hb hby d7_50)
    refine Go.st st49 ?_
    show Go p e below _ (T49.setTop (mkF m 53 #[.val (.ref a), .val (.int mm)] [(.int (0 : Int32)), (.int (0 : Int32)), (.ref an)]))
    refine Go.st (fun _ kt => XS.iloadN X49.here hx rfl (hb hby d7_53) rfl kt) ?_
    show Go p e below _ (T49.setTop (mkF m 54 #[.val (.ref a), .val (.int mm)] [(.int mm), (.int (0 : Int32)), (.int (0 : Int32)), (.ref an)]))
    refine Go.st (fun _ kt => XS.iadd X49.here hx rfl (hb hby d7_54) rfl kt) ?_
    show Go p e below _ (T49.setTop (mkF m 55 #[.val (.ref a), .val (.int mm)] [(.int ((0 : Int32) + mm)), (.int (0 : Int32)), (.ref an)]))
    refine Go.st (fun _ kt => XS.iconst X49.here hx rfl (hb hby d7_55) kt) ?_
    show Go p e below _ (T49.setTop (mkF m 56 #[.val (.ref a), .val (.int mm)] [(.int (0 : Int32)), (.int ((0 : Int32) + mm)), (.int (0 : Int32)), (.ref an)]))
    obtain ⟨_, _, ⟨T50, L50, k50, n50⟩, -, X50, ⟨Lc50, hQ50, l50, y50, z50⟩, st50⟩ := Jvm.LawKit.callS X49 hx (y := (⟨"java/util/Arrays", "fill", "([ZIIZ)V"⟩ : MethodName)) hown (mvT hZ (hw _ (List.mem_of_getElem? (i := 62) rfl))) (mvT hZ (hw _ (List.mem_of_getElem? (i := 63) rfl))) (mvT hZ (hw _ (List.mem_of_getElem? (i := 64) rfl))) (mvT hZ (hw _ (List.mem_of_getElem? (i := 65) rfl))) (by decide) (backOf (W := 0) (rm8 l Z a0 hw [] an (0 : Int32) ((0 : Int32) + mm) (0 : Int32) nl h0 n0 Z0 A_an gn_an (by decide) (by rw [hz0, own_z]; omega) (by rw [hz0]; omega)) hZ (hw _ (List.mem_of_getElem? (i := 65) rfl)) (hw _ (List.mem_of_getElem? (i := 64) rfl)) (by decide) (by decide)) (g := (mkF m 56 #[.val (.ref a), .val (.int mm)] [(.int (0 : Int32)), (.int ((0 : Int32) + mm)), (.int (0 : Int32)), (.ref an)])) rfl (by rw [hml]; rfl) (argsL := [(.ref an), (.int (0 : Int32)), (.int ((0 : Int32) + mm)), (.int (0 : Int32))]) (rest := []) (lenOf own_pd5 rfl) rfl (by show 2 * 0 + _ ≤ _; exact Nat.le_of_eq rfl) (hb hby d7_56) (fun _ _ => ⟨rfl, e49, (by decide : 0 + 0 ≤ _), (by decide : 0 + 0 ≤ _)⟩)
    dsimp only [Pt.U, Pt.locs, Pt.cells, Pt.slots] at X50 l50 y50 z50 st50 hQ50
    subst l50 y50 z50
    obtain ⟨rfl, N50q, K50q, G50_0⟩ := hQ50
    have Zs50 : n0 ≤ T50.heap.size := Nat.le_trans Z0 K50q.1
    have N50 := Fr.app N0 N50q
    refine Go.st st50 ?_
    show Go p e below _ (T50.setTop (mkF m 59 #[.val (.ref a), .val (.int mm)] []))
    refine Go.st (fun _ kt => XS.aloadN X50.here hx rfl (hb hby d7_59) rfl rfl kt) ?_
    show Go p e below _ (T50.setTop (mkF m 60 #[.val (.ref a), .val (.int mm)] [(.ref a)]))
    refine Go.st (fun _ kt => XS.dup X50.here hx rfl (hb hby d7_60) rfl rfl kt) ?_
    show Go p e below _ (T50.setTop (mkF m 61 #[.val (.ref a), .val (.int mm)] [(.ref a), (.ref a)]))
    have f51 := (F_count.keep K50q (ninS ne_a_an nin0))
    obtain ⟨T52, X52, e52, st52⟩ := getF X50 hx hZ hown (host := "") (Or.inl (hw _ (List.mem_of_getElem? (i := 34) rfl))) Via.refl rfl f51 (g := (mkF m 61 #[.val (.ref a), .val (.int mm)] [(.ref a), (.ref a)])) rfl rfl (hb hby d7_61)
    refine Go.st st52 ?_
    show Go p e below _ (T52.setTop (mkF m 64 #[.val (.ref a), .val (.int mm)] [(.int (0 : Int32)), (.ref a)]))
    refine Go.st (fun _ kt => XS.iloadN X52.here hx rfl (hb hby d7_64) rfl kt) ?_
    show Go p e below _ (T52.setTop (mkF m 65 #[.val (.ref a), .val (.int mm)] [(.int mm), (.int (0 : Int32)), (.ref a)]))
    refine Go.st (fun _ kt => XS.iadd X52.here hx rfl (hb hby d7_65) rfl kt) ?_
    show Go p e below _ (T52.setTop (mkF m 66 #[.val (.ref a), .val (.int mm)] [(.int ((0 : Int32) + mm)), (.ref a)]))
    have f53 := (E_a.keep K50q)
    obtain ⟨T54, h54, X54, e54, W54, st54⟩ := putF X52 hx hZ hown (host := "") (Or.inl (hw _ (List.mem_of_getElem? (i := 34) rfl))) Via.refl e52 f51 f53 (Or.inl (hw _ (List.mem_of_getElem? (i := 35) rfl))) (hw _ (List.mem_of_getElem? (i := 1) rfl)) (ty := .int) (by decide) rfl rfl (g := (mkF m 66 #[.val (.ref a), .val (.int mm)] [(.int ((0 : Int32) + mm)), (.ref a)])) rfl rfl (hb hby d7_66)
    refine Go.st st54 ?_
    have Fw54 := f51.same W54
    have Zs54 : n0 ≤ h54.size := Nat.le_trans Zs50 (Nat.le_of_eq W54.size.symm)
    have N54 := Fr.snoc X54 N50 gn_a
    show Go p e below _ (T54.setTop (mkF m 69 #[.val (.ref a), .val (.int mm)] []))
    refine Go.st (fun _ kt => XS.aloadN X54.here hx rfl (hb hby d7_69) rfl rfl kt) ?_
    show Go p e below _ (T54.setTop (mkF m 70 #[.val (.ref a), .val (.int mm)] [(.ref a)]))
    refine Go.st (fun _ kt => XS.dup X54.here hx rfl (hb hby d7_70) rfl rfl kt) ?_
    show Go p e below _ (T54.setTop (mkF m 71 #[.val (.ref a), .val (.int mm)] [(.ref a), (.ref a)]))
    have f55 := ((F_rows.keep K50q (ninS ne_a_an nin0)).other W54 (Or.inr (slot_ne (Or.inl (hw _ (List.mem_of_getElem? (i := 31) rfl))) (Or.inl (hw _ (List.mem_of_getElem? (i := 35) rfl))) (by decide) (t := .int) (t' := .int) (by decide) (by decide))))
    obtain ⟨T56, X56, e56, st56⟩ := getF X54 hx hZ hown (host := "") (Or.inl (hw _ (List.mem_of_getElem? (i := 30) rfl))) Via.refl e54 f55 (g := (mkF m 71 #[.val (.ref a), .val (.int mm)] [(.ref a), (.ref a)])) rfl rfl (hb hby d7_71)
    refine Go.st st56 ?_
    show Go p e below _ (T56.setTop (mkF m 74 #[.val (.ref a), .val (.int mm)] [(.int (0 : Int32)), (.ref a)]))
    refine Go.st (fun _ kt => XS.iloadN X56.here hx rfl (hb hby d7_74) rfl kt) ?_
    show Go p e below _ (T56.setTop (mkF m 75 #[.val (.ref a), .val (.int mm)] [(.int mm), (.int (0 : Int32)), (.ref a)]))
    refine Go.st (fun _ kt => XS.iadd X56.here hx rfl (hb hby d7_75) rfl kt) ?_
    show Go p e below _ (T56.setTop (mkF m 76 #[.val (.ref a), .val (.int mm)] [(.int ((0 : Int32) + mm)), (.ref a)]))
    have f57 := (f53.wr W54)
    obtain ⟨T58, h58, X58, e58, W58, st58⟩ := putF X56 hx hZ hown (host := "") (Or.inl (hw _ (List.mem_of_getElem? (i := 30) rfl))) Via.refl e56 f55 f57 (Or.inl (hw _ (List.mem_of_getElem? (i := 31) rfl))) (hw _ (List.mem_of_getElem? (i := 1) rfl)) (ty := .int) (by decide) rfl rfl (g := (mkF m 76 #[.val (.ref a), .val (.int mm)] [(.int ((0 : Int32) + mm)), (.ref a)])) rfl rfl (hb hby d7_76)
    refine Go.st st58 ?_
    have Fw58 := f55.same W58
    have Zs58 : n0 ≤ h58.size := Nat.le_trans Zs54 (Nat.le_of_eq W58.size.symm)
    have N58 := Fr.snoc X58 N54 gn_a
    show Go p e below _ (T58.setTop (mkF m 79 #[.val (.ref a), .val (.int mm)] []))
    refine Go.st (fun _ kt => XS.aloadN X58.here hx rfl (hb hby d7_79) rfl rfl kt) ?_
    show Go p e below _ (T58.setTop (mkF m 80 #[.val (.ref a), .val (.int mm)] [(.ref a)]))
    have f59 := (((F_bits.keep K50q (ninS ne_a_an nin0)).other W54 (Or.inr (slot_ne (Or.inl (hw _ (List.mem_of_getElem? (i := 14) rfl))) (Or.inl (hw _ (List.mem_of_getElem? (i := 35) rfl))) (by decide) (t := (.array .long)) (t' := .int) (by decide) (by decide)))).other W58 (Or.inr (slot_ne (Or.inl (hw _ (List.mem_of_getElem? (i := 14) rfl))) (Or.inl (hw _ (List.mem_of_getElem? (i := 31) rfl))) (by decide) (t := (.array .long)) (t' := .int) (by decide) (by decide))))
    obtain ⟨T60, X60, e60, st60⟩ := getF X58 hx hZ hown (host := "") (Or.inl (hw _ (List.mem_of_getElem? (i := 13) rfl))) Via.refl e58 f59 (g := (mkF m 80 #[.val (.ref a), .val (.int mm)] [(.ref a)])) rfl rfl (hb hby d7_80)
    refine Go.st st60 ?_
    show Go p e below _ (T60.setTop (mkF m 83 #[.val (.ref a), .val (.int mm)] [(.ref ab)]))
    have f61 := (f57.wr W58)
    have f62 := (((F_nulls.keep K50q (ninS ne_a_an nin0)).other W54 (Or.inr (slot_ne (Or.inl (hw _ (List.mem_of_getElem? (i := 11) rfl))) (Or.inl (hw _ (List.mem_of_getElem? (i := 35) rfl))) (by decide) (t := (.array .boolean)) (t' := .int) (by decide) (by decide)))).other W58 (Or.inr (slot_ne (Or.inl (hw _ (List.mem_of_getElem? (i := 11) rfl))) (Or.inl (hw _ (List.mem_of_getElem? (i := 31) rfl))) (by decide) (t := (.array .boolean)) (t' := .int) (by decide) (by decide))))
    have f63 := (((F_starts.keep K50q (ninS ne_a_an nin0)).other W54 (Or.inr (slot_ne (Or.inl (hw _ (List.mem_of_getElem? (i := 17) rfl))) (Or.inl (hw _ (List.mem_of_getElem? (i := 35) rfl))) (by decide) (t := (.array .int)) (t' := .int) (by decide) (by decide)))).other W58 (Or.inr (slot_ne (Or.inl (hw _ (List.mem_of_getElem? (i := 17) rfl))) (Or.inl (hw _ (List.mem_of_getElem? (i := 31) rfl))) (by decide) (t := (.array .int)) (t' := .int) (by decide) (by decide))))
    have f64 := (((F_lengths.keep K50q (ninS ne_a_an nin0)).other W54 (Or.inr (slot_ne (Or.inl (hw _ (List.mem_of_getElem? (i := 19) rfl))) (Or.inl (hw _ (List.mem_of_getElem? (i := 35) rfl))) (by decide) (t := (.array .int)) (t' := .int) (by decide) (by decide)))).other W58 (Or.inr (slot_ne (Or.inl (hw _ (List.mem_of_getElem? (i := 19) rfl))) (Or.inl (hw _ (List.mem_of_getElem? (i := 31) rfl))) (by decide) (t := (.array .int)) (t' := .int) (by decide) (by decide))))
    have f65 := (((F_copies.keep K50q (ninS ne_a_an nin0)).other W54 (Or.inr (slot_ne (Or.inl (hw _ (List.mem_of_getElem? (i := 24) rfl))) (Or.inl (hw _ (List.mem_of_getElem? (i := 35) rfl))) (by decide) (t := (.array .byte)) (t' := .int) (by decide) (by decide)))).other W58 (Or.inr (slot_ne (Or.inl (hw _ (List.mem_of_getElem? (i := 24) rfl))) (Or.inl (hw _ (List.mem_of_getElem? (i := 31) rfl))) (by decide) (t := (.array .byte)) (t' := .int) (by decide) (by decide))))
    have f66 := (((F_anyNull.keep K50q (ninS ne_a_an nin0)).other W54 (Or.inr (slot_ne (Or.inl (hw _ (List.mem_of_getElem? (i := 33) rfl))) (Or.inl (hw _ (List.mem_of_getElem? (i := 35) rfl))) (by decide) (t := .boolean) (t' := .int) (by decide) (by decide)))).other W58 (Or.inr (slot_ne (Or.inl (hw _ (List.mem_of_getElem? (i := 33) rfl))) (Or.inl (hw _ (List.mem_of_getElem? (i := 31) rfl))) (by decide) (t := .boolean) (t' := .int) (by decide) (by decide))))
    have f67 := (Fw54.other W58 (Or.inr (slot_ne (Or.inl (hw _ (List.mem_of_getElem? (i := 35) rfl))) (Or.inl (hw _ (List.mem_of_getElem? (i := 31) rfl))) (by decide) (t := .int) (t' := .int) (by decide) (by decide))))
    have f68 := (((F_bytes.keep K50q (ninS ne_a_an nin0)).other W54 (Or.inr (slot_ne (Or.inl (hw _ (List.mem_of_getElem? (i := 37) rfl))) (Or.inl (hw _ (List.mem_of_getElem? (i := 35) rfl))) (by decide) (t := (.array .byte)) (t' := .int) (by decide) (by decide)))).other W58 (Or.inr (slot_ne (Or.inl (hw _ (List.mem_of_getElem? (i := 37) rfl))) (Or.inl (hw _ (List.mem_of_getElem? (i := 31) rfl))) (by decide) (t := (.array .byte)) (t' := .int) (by decide) (by decide))))
    have f69 := (((F_dictionary.keep K50q (ninS ne_a_an nin0)).other W54 (Or.inr (slot_ne (Or.inl (hw _ (List.mem_of_getElem? (i := 39) rfl))) (Or.inl (hw _ (List.mem_of_getElem? (i := 35) rfl))) (by decide) (t := (.object "com/example/rowsieve/rowsieve/grouping/ValueDictionary")) (t' := .int) (by decide) (by decide)))).other W58 (Or.inr (slot_ne (Or.inl (hw _ (List.mem_of_getElem? (i := 39) rfl))) (Or.inl (hw _ (List.mem_of_getElem? (i := 31) rfl))) (by decide) (t := (.object "com/example/rowsieve/rowsieve/grouping/ValueDictionary")) (t' := .int) (by decide) (by decide))))
    have f70 := (((F_copiesEnd.keep K50q (ninS ne_a_an nin0)).other W54 (Or.inr (slot_ne (Or.inl (hw _ (List.mem_of_getElem? (i := 41) rfl))) (Or.inl (hw _ (List.mem_of_getElem? (i := 35) rfl))) (by decide) (t := .int) (t' := .int) (by decide) (by decide)))).other W58 (Or.inr (slot_ne (Or.inl (hw _ (List.mem_of_getElem? (i := 41) rfl))) (Or.inl (hw _ (List.mem_of_getElem? (i := 31) rfl))) (by decide) (t := .int) (t' := .int) (by decide) (by decide))))
    have f71 := ((G50_0.other W54 (Ne.symm ne_a_an)).other W58 (Ne.symm ne_a_an))
    have f72 := (((A_ab.keep K50q (ninS (Ne.symm ne_an_ab) nin0)).other W54 (Ne.symm ne_a_ab)).other W58 (Ne.symm ne_a_ab))
    have f73 := (((A_az.keep K50q (ninS (Ne.symm ne_an_az) nin0)).other W54 (Ne.symm ne_a_az)).other W58 (Ne.symm ne_a_az))
    have f74 := (((A_al.keep K50q (ninS (Ne.symm ne_an_al) nin0)).other W54 (Ne.symm ne_a_al)).other W58 (Ne.symm ne_a_al))
    have f75 := (((A_ac.keep K50q (ninS (Ne.symm ne_an_ac) nin0)).other W54 (Ne.symm ne_a_ac)).other W58 (Ne.symm ne_a_ac))
    have f76 := (((A_sr.keep K50q (ninS (Ne.symm ne_an_sr) nin0)).other W54 (Ne.symm ne_a_sr)).other W58 (Ne.symm ne_a_sr))
    refine Go.retA X60 hx Bd.returns rfl rfl (BodyLoose.notSynchronized Bd) (hb hby d7_83) (Q := (Q_rm7 Z a mm an ab az al ac sr nl bl r cq ce h0 n0)) (by decide) (by decide) ?_
    show (Q_rm7 Z a mm an ab az al ac sr nl bl r cq ce h0 n0) _ T60.heap _
    rw [e60]
    exact ⟨ab, bl, rfl, N58, ⟨f61, f62, f59, f63, f64, f65, Fw58, ⟨_, f66⟩, f67, ⟨_, f68⟩, ⟨_, f69⟩, f70, f71, f72, f73, f74, f75, f76, gn_a, gn_an, gn_ab, gn_az, gn_al, gn_ac, ne_a_an, ne_a_ab, ne_a_az, ne_a_al, ne_a_ac, ne_a_sr, ne_an_ab, ne_an_az, ne_an_al, ne_an_ac, ne_an_sr, ne_ab_az, ne_ab_al, ne_ab_ac, ne_ab_sr, ne_az_al, ne_az_ac, ne_az_sr, ne_al_ac, ne_al_sr, ne_ac_sr⟩, (by first | exact Or.inl rfl | exact Or.inr hmx)⟩
theorem d18_0 : decode prog_13_method_6_code 0 = .ok (.aload_n 0, 1) := by decide +kernel
theorem d18_1 : decode prog_13_method_6_code 1 = .ok (.getfield 9, 3) := by decide +kernel
theorem d18_4 : decode prog_13_method_6_code 4 = .ok (.aload_n 0, 1) := by decide +kernel
theorem d18_5 : decode prog_13_method_6_code 5 = .ok (.dup, 1) := by decide +kernel
theorem d18_6 : decode prog_13_method_6_code 6 = .ok (.getfield 31, 3) := by decide +kernel
theorem d18_9 : decode prog_13_method_6_code 9 = .ok (.dup_x1, 1) := by decide +kernel
theorem d18_10 : decode prog_13_method_6_code 10 = .ok (.iconst 1, 1) := by decide +kernel
theorem d18_11 : decode prog_13_method_6_code 11 = .ok (.iadd, 1) := by decide +kernel
theorem d18_12 : decode prog_13_method_6_code 12 = .ok (.putfield 31, 3) := by decide +kernel
theorem d18_15 : decode prog_13_method_6_code 15 = .ok (.iconst 1, 1) := by decide +kernel
theorem d18_16 : decode prog_13_method_6_code 16 = .ok (.bastore, 1) := by decide +kernel
theorem d18_17 : decode prog_13_method_6_code 17 = .ok (.aload_n 0, 1) := by decide +kernel
theorem d18_18 : decode prog_13_method_6_code 18 = .ok (.iconst 1, 1) := by decide +kernel
theorem d18_19 : decode prog_13_method_6_code 19 = .ok (.putfield 35, 3) := by decide +kernel
theorem d18_22 : decode prog_13_method_6_code 22 = .ok (.return_, 1) := by decide +kernel
def Q_rm18 (Z : State) (a : Addr) (an : Addr) (ab : Addr) (az : Addr) (al : Addr) (ac : Addr) (sr : Addr) (nl : Int32) (bl : Int32) (r : Int32) (cq : Int32) (ce : Int32) (h0 : Heap) (n0 : Nat) (v : Option Value) (h : Heap) (L : List Loc) : Prop := v = none ∧ Fr n0 L ∧ PV Z n0 h a an ab az al ac sr nl bl (r + (1 : Int32)) cq ce
theorem ef_rm18 (m : MethodId) (a : Addr) : entryFrame m #[(.ref a)] 1 = mkF m 0 #[.val (.ref a)] [] := by first | (simp [entryFrame, mkF, argsToLocals, Value.category]; done) | rfl
set_option maxRecDepth 65536 in
set_option maxHeartbeats 40000000 in
theorem rm18 (l : Launch) (Z : State) (a0 : Array Value) (hw : ∀ d ∈ tables_1, d.before a0 Z = true) (ws : List Jvm.Cond) (a : Addr) (an : Addr) (ab : Addr) (az : Addr) (al : Addr) (ac : Addr) (sr : Addr) (nl : Int32) (bl : Int32) (r : Int32) (cq : Int32) (ce : Int32) (h0 : Heap) (n0 : Nat) (Z0 : n0 ≤ h0.size) (P : PV Z n0 h0 a an ab az al ac sr nl bl r cq ce) (hr : 0 ≤ r.toInt ∧ r.toInt < nl.toInt) :
    MetFree l (⟨"com/example/rowsieve/rowsieve/data/PageValues", "addNull", "()V"⟩ : MethodName) (head1 (Jvm.Cond.code (⟨"com/example/rowsieve/rowsieve/data/PageValues", "addNull", "()V"⟩ : MethodName) prog_13_method_6_code 1 none :: ws) ({ frames := 0, cells := 0, slots := 0, locals := 0 } : Room)) (fun ag_ U_ => ag_ = #[(.ref a)] ∧ Z.Warmed39 U_.vm ∧ U_.heap = h0) (fun _ _ _ _ _ => True) (fun _ U_ o_ V_ => ∃ v_ L_, o_ = .returned v_ ∧ (Q_rm18 Z a an ab az al ac sr nl bl r cq ce h0 n0) v_ V_.heap L_ ∧ FrameEnd U_ o_ V_ L_ ({ frames := 0, cells := 0, slots := 0, locals := 0 } : Room).cells ({ frames := 0, cells := 0, slots := 0, locals := 0 } : Room).slots) := by
  refine MetFree.of_bodySF (plainFor_of_name own_pn3) hisR ?_
  intro p e s m args below meth c s₁ Bd hml0 hP hK
  obtain ⟨rfl, hZ, hh⟩ := hP
  have hx := Bd.exec
  have hby := Bd.bytes
  have hml : c.maxLocals = 1 := hml0
  have hown : s.vm.findClass "com/example/rowsieve/rowsieve/data/PageValues" = some m.cls := findClass_of_methodNamed Bd.named
  have hnm := (name_of_methodNamed Bd.named Bd.method).1
  have X0 : Stand p l e ({ frames := 0, cells := 0, slots := 0, locals := 0 } : Room) s m #[(.ref a)] below meth c s₁ [] 0 0 := Stand.of_body Bd
  have e0 : s₁.heap = h0 := by rw [← hh, Bd.state]; rfl
  have N0 := Fr.nil n0
  refine Go.st (G := fun s₂ o_ => ∃ v_ L_, o_ = .returned v_ ∧ (Q_rm18 Z a an ab az al ac sr nl bl r cq ce h0 n0) v_ s₂.heap L_ ∧ FrameEnd s o_ s₂ L_ ({ frames := 0, cells := 0, slots := 0, locals := 0 } : Room).cells ({ frames := 0, cells := 0, slots := 0, locals := 0 } : Room).slots) (fun t kt => castTop (ef_rm18 m a) kt) ?_
  obtain ⟨E_a, F_nulls, F_bits, F_starts, F_lengths, F_copies, F_rows, ⟨u1, F_anyNull⟩, F_count, ⟨u2, F_bytes⟩, ⟨u3, F_dictionary⟩, F_copiesEnd, A_an, A_ab, A_az, A_al, A_ac, A_sr, gn_a, gn_an, gn_ab, gn_az, gn_al, gn_ac, ne_a_an, ne_a_ab, ne_a_az, ne_a_al, ne_a_ac, ne_a_sr, ne_an_ab, ne_an_az, ne_an_al, ne_an_ac, ne_an_sr, ne_ab_az, ne_ab_al, ne_ab_ac, ne_ab_sr, ne_az_al, ne_az_ac, ne_az_sr, ne_al_ac, ne_al_sr, ne_ac_sr⟩ := P
  show Go p e below _ (s₁.setTop (mkF m 0 #[.val (.ref a)] []))
  refine Go.st (fun _ kt => XS.aloadN X0.here hx rfl (hb hby d18_0) rfl rfl kt) ?_
  show Go p e below _ (s₁.setTop (mkF m 1 #[.val (.ref a)] [(.ref a)]))
  obtain ⟨T1, X1, e1, st1⟩ := getF X0 hx hZ hown (host := "") (Or.inl (hw _ (List.mem_of_getElem? (i := 10) rfl))) Via.refl e0 F_nulls (g := (mkF m 1 #[.val (.ref a)] [(.ref a)])) rfl rfl (hb hby d18_1)
  refine Go.st st1 ?_
  show Go p e below _ (T1.setTop (mkF m 4 #[.val (.ref a)] [(.ref an)]))
  refine Go.st (fun _ kt => XS.aloadN X1.here hx rfl (hb hby d18_4) rfl rfl kt) ?_
  show Go p e below _ (T1.setTop (mkF m 5 #[.val (.ref a)] [(.ref a), (.ref an)]))
  refine Go.st (fun _ kt => XS.dup X1.here hx rfl (hb hby d18_5) rfl rfl kt) ?_
  show Go p e below _ (T1.setTop (mkF m 6 #[.val (.ref a)] [(.ref a), (.ref a), (.ref an)]))
  obtain ⟨T2, X2, e2, st2⟩ := getF X1 hx hZ hown (host := "") (Or.inl (hw _ (List.mem_of_getElem? (i := 30) rfl))) Via.refl e1 F_rows (g := (mkF m 6 #[.val (.ref a)] [(.ref a), (.ref a), (.ref an)])) rfl rfl (hb hby d18_6)
  refine Go.st st2 ?_
  show Go p e below _ (T2.setTop (mkF m 9 #[.val (.ref a)] [(.int r), (.ref a), (.ref an)]))
  refine Go.st (fun _ kt => XS.dupX1 X2.here hx rfl (hb hby d18_9) rfl rfl rfl kt) ?_
  show Go p e below _ (T2.setTop (mkF m 10 #[.val (.ref a)] [(.int r), (.ref a), (.int r), (.ref an)]))
  refine Go.st (fun _ kt => XS.iconst X2.here hx rfl (hb hby d18_10) kt) ?_
  show Go p e below _ (T2.setTop (mkF m 11 #[.val (.ref a)] [(.int (1 : Int32)), (.int r), (.ref a), (.int r), (.ref an)]))
  refine Go.st (fun _ kt => XS.iadd X2.here hx rfl (hb hby d18_11) rfl kt) ?_
  show Go p e below _ (T2.setTop (mkF m 12 #[.val (.ref a)] [(.int (r + (1 : Int32))), (.ref a), (.int r), (.ref an)]))
  obtain ⟨T3, h3, X3, e3, W3, st3⟩ := putF X2 hx hZ hown (host := "") (Or.inl (hw _ (List.mem_of_getElem? (i := 30) rfl))) Via.refl e2 F_rows E_a (Or.inl (hw _ (List.mem_of_getElem? (i := 31) rfl))) (hw _ (List.mem_of_getElem? (i := 1) rfl)) (ty := .int) (by decide) rfl rfl (g := (mkF m 12 #[.val (.ref a)] [(.int (r + (1 : Int32))), (.ref a), (.int r), (.ref an)])) rfl rfl (hb hby d18_12)
  refine Go.st st3 ?_
  have Fw3 := F_rows.same W3
  have Zs3 : n0 ≤ h3.size := Nat.le_trans Z0 (Nat.le_of_eq W3.size.symm)
  have N3 := Fr.snoc X3 N0 gn_a
  show Go p e below _ (T3.setTop (mkF m 15 #[.val (.ref a)] [(.int r), (.ref an)]))
  refine Go.st (fun _ kt => XS.iconst X3.here hx rfl (hb hby d18_15) kt) ?_
  show Go p e below _ (T3.setTop (mkF m 16 #[.val (.ref a)] [(.int (1 : Int32)), (.int r), (.ref an)]))
  have f4 := (A_an.other W3 (Ne.symm ne_a_an))
  obtain ⟨cl5, Ar5, S5, N5', G5⟩ := id f4
  have hin5 : ¬ (r < 0 ∨ cl5.slots.size ≤ (r).toNatClampNeg) := inb_of S5 (own_inb hr)
  obtain ⟨T6, h6, X6, e6, W6, st6⟩ := stZ X3 hx hZ e3 Ar5 (j := r) hin5 (g := (mkF m 16 #[.val (.ref a)] [(.int (1 : Int32)), (.int r), (.ref an)])) rfl rfl (hb hby d18_16)
  refine Go.st st6 ?_
  have V6 : AV Z h6 an .boolean nl := AV.set Ar5 S5 N5' G5 (fits_nar_bool _) W6
  have Zs6 : n0 ≤ h6.size := Nat.le_trans Zs3 (Nat.le_of_eq W6.size.symm)
  have N6 := Fr.snoc X6 N3 gn_an
  show Go p e below _ (T6.setTop (mkF m 17 #[.val (.ref a)] []))
  refine Go.st (fun _ kt => XS.aloadN X6.here hx rfl (hb hby d18_17) rfl rfl kt) ?_
  show Go p e below _ (T6.setTop (mkF m 18 #[.val (.ref a)] [(.ref a)]))
  refine Go.st (fun _ kt => XS.iconst X6.here hx rfl (hb hby d18_18) kt) ?_
  show Go p e below _ (T6.setTop (mkF m 19 #[.val (.ref a)] [(.int (1 : Int32)), (.ref a)]))
  have f7 := ((E_a.wr W3).wr W6)
  have f8 := ((F_anyNull.other W3 (Or.inr (slot_ne (Or.inl (hw _ (List.mem_of_getElem? (i := 33) rfl))) (Or.inl (hw _ (List.mem_of_getElem? (i := 31) rfl))) (by decide) (t := .boolean) (t' := .int) (by decide) (by decide)))).other W6 (Or.inl ne_a_an))
  obtain ⟨T9, h9, X9, e9, W9, st9⟩ := putFN X6 hx hZ hown (hw _ (List.mem_of_getElem? (i := 32) rfl)) Via.refl e6 f8 f7 (Or.inl (hw _ (List.mem_of_getElem? (i := 33) rfl))) (hw _ (List.mem_of_getElem? (i := 1) rfl)) (ty := .boolean) (v' := (.int (1 : Int32))) (by decide) rfl (by decide) (g := (mkF m 19 #[.val (.ref a)] [(.int (1 : Int32)), (.ref a)])) rfl rfl (hb hby d18_19)
  refine Go.st st9 ?_
  have Fw9 := f8.same W9
  have Zs9 : n0 ≤ h9.size := Nat.le_trans Zs6 (Nat.le_of_eq W9.size.symm)
  have N9 := Fr.snoc X9 N6 gn_a
  show Go p e below _ (T9.setTop (mkF m 22 #[.val (.ref a)] []))
  have f10 := (f7.wr W9)
  have f11 := (((F_nulls.other W3 (Or.inr (slot_ne (Or.inl (hw _ (List.mem_of_getElem? (i := 11) rfl))) (Or.inl (hw _ (List.mem_of_getElem? (i := 31) rfl))) (by decide) (t := (.array .boolean)) (t' := .int) (by decide) (by decide)))).other W6 (Or.inl ne_a_an)).other W9 (Or.inr (slot_ne (Or.inl (hw _ (List.mem_of_getElem? (i := 11) rfl))) (Or.inl (hw _ (List.mem_of_getElem? (i := 33) rfl))) (by decide) (t := (.array .boolean)) (t' := .boolean) (by decide) (by decide))))
  have f12 := (((F_bits.other W3 (Or.inr (slot_ne (Or.inl (hw _ (List.mem_of_getElem? (i := 14) rfl))) (Or.inl (hw _ (List.mem_of_getElem? (i := 31) rfl))) (by decide) (t := (.array .long)) (t' := .int) (by decide) (by decide)))).other W6 (Or.inl ne_a_an)).other W9 (Or.inr (slot_ne (Or.inl (hw _ (List.mem_of_getElem? (i := 14) rfl))) (Or.inl (hw _ (List.mem_of_getElem? (i := 33) rfl))) (by decide) (t := (.array .long)) (t' := .boolean) (by decide) (by decide))))
  have f13 := (((F_starts.other W3 (Or.inr (slot_ne (Or.inl (hw _ (List.mem_of_getElem? (i := 17) rfl))) (Or.inl (hw _ (List.mem_of_getElem? (i := 31) rfl))) (by decide) (t := (.array .int)) (t' := .int) (by decide) (by decide)))).other W6 (Or.inl ne_a_an)).other W9 (Or.inr (slot_ne (Or.inl (hw _ (List.mem_of_getElem? (i := 17) rfl))) (Or.inl (hw _ (List.mem_of_getElem? (i := 33) rfl))) (by decide) (t := (.array .int)) (t' := .boolean) (by decide) (by decide))))
  have f14 := (((F_lengths.other W3 (Or.inr (slot_ne (Or.inl (hw _ (List.mem_of_getElem? (i := 19) rfl))) (Or.inl (hw _ (List.mem_of_getElem? (i := 31) rfl))) (by decide) (t := (.array .int)) (t' := .int) (by decide) (by decide)))).other W6 (Or.inl ne_a_an)).other W9 (Or.inr (slot_ne (Or.inl (hw _ (List.mem_of_getElem? (i := 19) rfl))) (Or.inl (hw _ (List.mem_of_getElem? (i := 33) rfl))) (by decide) (t := (.array .int)) (t' := .boolean) (by decide) (by decide))))
  have f15 := (((F_copies.other W3 (Or.inr (slot_ne (Or.inl (hw _ (List.mem_of_getElem? (i := 24) rfl))) (Or.inl (hw _ (List.mem_of_getElem? (i := 31) rfl))) (by decide) (t := (.array .byte)) (t' := .int) (by decide) (by decide)))).other W6 (Or.inl ne_a_an)).other W9 (Or.inr (slot_ne (Or.inl (hw _ (List.mem_of_getElem? (i := 24) rfl))) (Or.inl (hw _ (List.mem_of_getElem? (i := 33) rfl))) (by decide) (t := (.array .byte)) (t' := .boolean) (by decide) (by decide))))
  have f16 := ((Fw3.other W6 (Or.inl ne_a_an)).other W9 (Or.inr (slot_ne (Or.inl (hw _ (List.mem_of_getElem? (i := 31) rfl))) (Or.inl (hw _ (List.mem_of_getElem? (i := 33) rfl))) (by decide) (t := .int) (t' := .boolean) (by decide) (by decide))))
  have f17 := (((F_count.other W3 (Or.inr (slot_ne (Or.inl (hw _ (List.mem_of_getElem? (i := 35) rfl))) (Or.inl (hw _ (List.mem_of_getElem? (i := 31) rfl))) (by decide) (t := .int) (t' := .int) (by decide) (by decide)))).other W6 (Or.inl ne_a_an)).other W9 (Or.inr (slot_ne (Or.inl (hw _ (List.mem_of_getElem? (i := 35) rfl))) (Or.inl (hw _ (List.mem_of_getElem? (i := 33) rfl))) (by decide) (t := .int) (t' := .boolean) (by decide) (by decide))))
  have f18 := (((F_bytes.other W3 (Or.inr (slot_ne (Or.inl (hw _ (List.mem_of_getElem? (i := 37) rfl))) (Or.inl (hw _ (List.mem_of_getElem? (i := 31) rfl))) (by decide) (t := (.array .byte)) (t' := .int) (by decide) (by decide)))).other W6 (Or.inl ne_a_an)).other W9 (Or.inr (slot_ne (Or.inl (hw _ (List.mem_of_getElem? (i := 37) rfl))) (Or.inl (hw _ (List.mem_of_getElem? (i := 33) rfl))) (by decide) (t := (.array .byte)) (t' := .boolean) (by decide) (by decide))))
  have f19 := (((F_dictionary.other W3 (Or.inr (slot_ne (Or.inl (hw _ (List.mem_of_getElem? (i := 39) rfl))) (Or.inl (hw _ (List.mem_of_getElem? (i := 31) rfl))) (by decide) (t := (.object "com/example/rowsieve/rowsieve/grouping/ValueDictionary")) (t' := .int) (by decide) (by decide)))).other W6 (Or.inl ne_a_an)).other W9 (Or.inr (slot_ne (Or.inl (hw _ (List.mem_of_getElem? (i := 39) rfl))) (Or.inl (hw _ (List.mem_of_getElem? (i := 33) rfl))) (by decide) (t := (.object "com/example/rowsieve/rowsieve/grouping/ValueDictionary")) (t' := .boolean) (by decide) (by decide))))
  have f20 := (((F_copiesEnd.other W3 (Or.inr (slot_ne (Or.inl (hw _ (List.mem_of_getElem? (i := 41) rfl))) (Or.inl (hw _ (List.mem_of_getElem? (i := 31) rfl))) (by decide) (t := .int) (t' := .int) (by decide) (by decide)))).other W6 (Or.inl ne_a_an)).other W9 (Or.inr (slot_ne (Or.inl (hw _ (List.mem_of_getElem? (i := 41) rfl))) (Or.inl (hw _ (List.mem_of_getElem? (i := 33) rfl))) (by decide) (t := .int) (t' := .boolean) (by decide) (by decide))))
  have f21 := (V6.other W9 (Ne.symm ne_a_an))
  have f22 := (((A_ab.other W3 (Ne.symm ne_a_ab)).other W6 (Ne.symm ne_an_ab)).other W9 (Ne.symm ne_a_ab))
  have f23 := (((A_az.other W3 (Ne.symm ne_a_az)).other W6 (Ne.symm ne_an_az)).other W9 (Ne.symm ne_a_az))
  have f24 := (((A_al.other W3 (Ne.symm ne_a_al)).other W6 (Ne.symm ne_an_al)).other W9 (Ne.symm ne_a_al))
  have f25 := (((A_ac.other W3 (Ne.symm ne_a_ac)).other W6 (Ne.symm ne_an_ac)).other W9 (Ne.symm ne_a_ac))
  have f26 := (((A_sr.other W3 (Ne.symm ne_a_sr)).other W6 (Ne.symm ne_an_sr)).other W9 (Ne.symm ne_a_sr))
  refine Go.retV X9 hx Bd.returns (BodyLoose.notSynchronized Bd) (hb hby d18_22) (Q := (Q_rm18 Z a an ab az al ac sr nl bl r cq ce h0 n0)) (by decide) (by decide) ?_
  show (Q_rm18 Z a an ab az al ac sr nl bl r cq ce h0 n0) _ T9.heap _
  rw [e9]
  exact ⟨rfl, N9, ⟨f10, f11, f12, f13, f14, f15, f16, ⟨_, Fw9⟩, f17, ⟨_, f18⟩, ⟨_, f19⟩, f20, f21, f22, f23, f24, f25, f26, gn_a, gn_an, gn_ab, gn_az, gn_al, gn_ac, ne_a_an, ne_a_ab, ne_a_az, ne_a_al, ne_a_ac, ne_a_sr, ne_an_ab, ne_an_az, ne_an_al, ne_an_ac, ne_an_sr, ne_ab_az, ne_ab_al, ne_ab_ac, ne_ab_sr, ne_az_al, ne_az_ac, ne_az_sr, ne_al_ac, ne_al_sr, ne_ac_sr⟩⟩
theorem d17_0 : decode prog_13_method_8_code 0 = .ok (.aload_n 0, 1) := by decide +kernel
theorem d17_1 : decode prog_13_method_8_code 1 = .ok (.getfield 39, 3) := by decide +kernel
theorem d17_4 : decode prog_13_method_8_code 4 = .ok (.aload_n 0, 1) := by decide +kernel
theorem d17_5 : decode prog_13_method_8_code 5 = .ok (.getfield 13, 3) := by decide +kernel
theorem d17_8 : decode prog_13_method_8_code 8 = .ok (.arraylength, 1) := by decide +kernel
theorem d17_9 : decode prog_13_method_8_code 9 = .ok (.if_icmp .ne 20, 3) := by decide +kernel
theorem d17_29 : decode prog_13_method_8_code 29 = .ok (.aload_n 0, 1) := by decide +kernel
theorem d17_30 : decode prog_13_method_8_code 30 = .ok (.getfield 13, 3) := by decide +kernel
theorem d17_33 : decode prog_13_method_8_code 33 = .ok (.aload_n 0, 1) := by decide +kernel
theorem d17_34 : decode prog_13_method_8_code 34 = .ok (.dup, 1) := by decide +kernel
theorem d17_35 : decode prog_13_method_8_code 35 = .ok (.getfield 39, 3) := by decide +kernel
theorem d17_38 : decode prog_13_method_8_code 38 = .ok (.dup_x1, 1) := by decide +kernel
theorem d17_39 : decode prog_13_method_8_code 39 = .ok (.iconst 1, 1) := by decide +kernel
theorem d17_40 : decode prog_13_method_8_code 40 = .ok (.iadd, 1) := by decide +kernel
theorem d17_41 : decode prog_13_method_8_code 41 = .ok (.putfield 39, 3) := by decide +kernel
theorem d17_44 : decode prog_13_method_8_code 44 = .ok (.lload_n 1, 1) := by decide +kernel
theorem d17_45 : decode prog_13_method_8_code 45 = .ok (.lastore, 1) := by decide +kernel
theorem d17_46 : decode prog_13_method_8_code 46 = .ok (.aload_n 0, 1) := by decide +kernel
theorem d17_47 : decode prog_13_method_8_code 47 = .ok (.getfield 9, 3) := by decide +kernel
theorem d17_50 : decode prog_13_method_8_code 50 = .ok (.aload_n 0, 1) := by decide +kernel
theorem d17_51 : decode prog_13_method_8_code 51 = .ok (.dup, 1) := by decide +kernel
theorem d17_52 : decode prog_13_method_8_code 52 = .ok (.getfield 31, 3) := by decide +kernel
theorem d17_55 : decode prog_13_method_8_code 55 = .ok (.dup_x1, 1) := by decide +kernel
theorem d17_56 : decode prog_13_method_8_code 56 = .ok (.iconst 1, 1) := by decide +kernel
theorem d17_57 : decode prog_13_method_8_code 57 = .ok (.iadd, 1) := by decide +kernel
theorem d17_58 : decode prog_13_method_8_code 58 = .ok (.putfield 31, 3) := by decide +kernel
theorem d17_61 : decode prog_13_method_8_code 61 = .ok (.iconst 0, 1) := by decide +kernel
theorem d17_62 : decode prog_13_method_8_code 62 = .ok (.bastore, 1) := by decide +kernel
theorem d17_63 : decode prog_13_method_8_code 63 = .ok (.return_, 1) := by decide +kernel
def Q_rm17 (Z : State) (a : Addr) (x : Int64) (an : Addr) (ab : Addr) (az : Addr) (al : Addr) (ac : Addr) (sr : Addr) (nl : Int32) (bl : Int32) (r : Int32) (cq : Int32) (ce : Int32) (h0 : Heap) (n0 : Nat) (v : Option Value) (h : Heap) (L : List Loc) : Prop := v = none ∧ Fr n0 L ∧ PV Z n0 h a an ab az al ac sr nl bl (r + (1 : Int32)) (1 : Int32) ce
theorem ef_rm17 (m : MethodId) (a : Addr) (x : Int64) : entryFrame m #[(.ref a), (.long x)] 3 = mkF m 0 #[.val (.ref a), .val (.long x), .second] [] := by first | (simp [entryFrame, mkF, argsToLocals, Value.category]; done) | rfl
set_option maxRecDepth 65536 in
set_option maxHeartbeats 40000000 in
theorem rm17 (l : Launch) (Z : State) (a0 : Array Value) (hw : ∀ d ∈ tables_1, d.before a0 Z = true) (ws : List Jvm.Cond) (a : Addr) (x : Int64) (an : Addr) (ab : Addr) (az : Addr) (al : Addr) (ac : Addr) (sr : Addr) (nl : Int32) (bl : Int32) (r : Int32) (cq : Int32) (ce : Int32) (h0 : Heap) (n0 : Nat) (Z0 : n0 ≤ h0.size) (P : PV Z n0 h0 a an ab az al ac sr nl bl r (0 : Int32) ce) (hr : 0 ≤ r.toInt ∧ r.toInt < nl.toInt) (hbl : 64 ≤ bl.toInt) :
    MetFree l (⟨"com/example/rowsieve/rowsieve/data/PageValues", "add", "(J)V"⟩ : MethodName) (head1 (Jvm.Cond.code (⟨"com/example/rowsieve/rowsieve/data/PageValues", "add", "(J)V"⟩ : MethodName) prog_13_method_8_code 3 none :: ws) ({ frames := 0, cells := 0, slots := 0, locals := 0 } : Room)) (fun ag_ U_ => ag_ = #[(.ref a), (.long x)] ∧ Z.Warmed39 U_.vm ∧ U_.heap = h0) (fun _ _ _ _ _ => True) (fun _ U_ o_ V_ => ∃ v_ L_, o_ = .returned v_ ∧ (Q_rm17 Z a x an ab az al ac sr nl bl r cq ce h0 n0) v_ V_.heap L_ ∧ FrameEnd U_ o_ V_ L_ ({ frames := 0, cells := 0, slots := 0, locals := 0 } : Room).cells ({ frames := 0, cells := 0, slots := 0, locals := 0 } : Room).slots) := by
  refine MetFree.of_bodySF (plainFor_of_name own_pn3) hisR ?_
  intro p e s m args below meth c s₁ Bd hml0 hP hK
  obtain ⟨rfl, hZ, hh⟩ := hP
  have hx := Bd.exec
  have hby := Bd.bytes
  have hml : c.maxLocals = 3 := hml0
  have hown : s.vm.findClass "com/example/rowsieve/rowsieve/data/PageValues" = some m.cls := findClass_of_methodNamed Bd.named
  have hnm := (name_of_methodNamed Bd.named Bd.method).1
  have X0 : Stand p l e ({ frames := 0, cells := 0, slots := 0, locals := 0 } : Room) s m #[(.ref a), (.long x)] below meth c s₁ [] 0 0 := Stand.of_body Bd
  have e0 : s₁.heap = h0 := by rw [← hh, Bd.state]; rfl
  have N0 := Fr.nil n0
  refine Go.st (G := fun s₂ o_ => ∃ v_ L_, o_ = .returned v_ ∧ (Q_rm17 Z a x an ab az al ac sr nl bl r cq ce h0 n0) v_ s₂.heap L_ ∧ FrameEnd s o_ s₂ L_ ({ frames := 0, cells := 0, slots := 0, locals := 0 } : Room).cells ({ frames := 0, cells := 0, slots := 0, locals := 0 } : Room).slots) (fun t kt => castTop (ef_rm17 m a x) kt) ?_
  obtain ⟨E_a, F_nulls, F_bits, F_starts, F_lengths, F_copies, F_rows, ⟨u1, F_anyNull⟩, F_count, ⟨u2, F_bytes⟩, ⟨u3, F_dictionary⟩, F_copiesEnd, A_an, A_ab, A_az, A_al, A_ac, A_sr, gn_a, gn_an, gn_ab, gn_az, gn_al, gn_ac, ne_a_an, ne_a_ab, ne_a_az, ne_a_al, ne_a_ac, ne_a_sr, ne_an_ab, ne_an_az, ne_an_al, ne_an_ac, ne_an_sr, ne_ab_az, ne_ab_al, ne_ab_ac, ne_ab_sr, ne_az_al, ne_az_ac, ne_az_sr, ne_al_ac, ne_al_sr, ne_ac_sr⟩ := P
  show Go p e below _ (s₁.setTop (mkF m 0 #[.val (.ref a), .val (.long x), .second] []))
  refine Go.st (fun _ kt => XS.aloadN X0.here hx rfl (hb hby d17_0) rfl rfl kt) ?_
  show Go p e below _ (s₁.setTop (mkF m 1 #[.val (.ref a), .val (.long x), .second] [(.ref a)]))
  obtain ⟨T1, X1, e1, st1⟩ := getF X0 hx hZ hown (host := "") (Or.inl (hw _ (List.mem_of_getElem? (i := 34) rfl))) Via.refl e0 F_count (g := (mkF m 1 #[.val (.ref a), .val (.long x), .second] [(.ref a)])) rfl rfl (hb hby d17_1)
  refine Go.st st1 ?_
  show Go p e below _ (T1.setTop (mkF m 4 #[.val (.ref a), .val (.long x), .second] [(.int (0 : Int32))]))
  refine Go.st (fun _ kt => XS.aloadN X1.here hx rfl (hb hby d17_4) rfl rfl kt) ?_
  show Go p e below _ (T1.setTop (mkF m 5 #[.val (.ref a), .val (.long x), .second] [(.ref a), (.int (0 : Int32))]))
  obtain ⟨T2, X2, e2, st2⟩ := getF X1 hx hZ hown (host := "") (Or.inl (hw _ (List.mem_of_getElem? (i := 13) rfl))) Via.refl e1 F_bits (g := (mkF m 5 #[.val (.ref a), .val (.long x), .second] [(.ref a), (.int (0 : Int32))])) rfl rfl (hb hby d17_5)
  refine Go.st st2 ?_
  show Go p e below _ (T2.setTop (mkF m 8 #[.val (.ref a), .val (.long x), .second] [(.ref ab), (.int (0 : Int32))]))
  obtain ⟨cl3, Ar3, S3, N3', -⟩ := id A_ab
  refine Go.st (fun _ kt => X2.arraylength hx (by rw [e2]; exact Ar3.1) (State.isArrayOf_alike hZ.alike Ar3.2.1) (g := (mkF m 8 #[.val (.ref a), .val (.long x), .second] [(.ref ab), (.int (0 : Int32))])) rfl rfl (hb hby d17_8) _ kt) ?_
  rw [len_of S3 N3']
  show Go p e below _ (T2.setTop (mkF m 9 #[.val (.ref a), .val (.long x), .second] [(.int bl), (.int (0 : Int32))]))
  refine Go.st (fun _ kt => XS.icmpYes X2.here hx rfl (pc0 := 9) (pc' := 29) rfl (hb hby d17_9) rfl (feq (fun q => by rw [← q] at hbl; revert hbl; decide)).2 (by decide) (by decide) kt) ?_
  show Go p e below _ (T2.setTop (mkF m 29 #[.val (.ref a), .val (.long x), .second] []))
  refine Go.st (fun _ kt => XS.aloadN X2.here hx rfl (hb hby d17_29) rfl rfl kt) ?_
  show Go p e below _ (T2.setTop (mkF m 30 #[.val (.ref a), .val (.long x), .second] [(.ref a)]))
  obtain ⟨T4, X4, e4, st4⟩ := getF X2 hx hZ hown (host := "") (Or.inl (hw _ (List.mem_of_getElem? (i := 13) rfl))) Via.refl e2 F_bits (g := (mkF m 30 #[.val (.ref a), .val (.long x), .second] [(.ref a)])) rfl rfl (hb hby d17_30)
  refine Go.st st4 ?_
  show Go p e below _ (T4.setTop (mkF m 33 #[.val (.ref a), .val (.long x), .second] [(.ref ab)]))
  refine Go.st (fun _ kt => XS.aloadN X4.here hx rfl (hb hby d17_33) rfl rfl kt) ?_
  show Go p e below _ (T4.setTop (mkF m 34 #[.val (.ref a), .val (.long x), .second] [(.ref a), (.ref ab)]))
  refine Go.st (fun _ kt => XS.dup X4.here hx rfl (hb hby d17_34) rfl rfl kt) ?_
  show Go p e below _ (T4.setTop (mkF m 35 #[.val (.ref a), .val (.long x), .second] [(.ref a), (.ref a), (.ref ab)]))
  obtain ⟨T5, X5, e5, st5⟩ := getF X4 hx hZ hown (host := "") (Or.inl (hw _ (List.mem_of_getElem? (i := 34) rfl))) Via.refl e4 F_count (g := (mkF m 35 #[.val (.ref a), .val (.long x), .second] [(.ref a), (.ref a), (.ref ab)])) rfl rfl (hb hby d17_35)
  refine Go.st st5 ?_
  show Go p e below _ (T5.setTop (mkF m 38 #[.val (.ref a), .val (.long x), .second] [(.int (0 : Int32)), (.ref a), (.ref ab)]))
  refine Go.st (fun _ kt => XS.dupX1 X5.here hx rfl (hb hby d17_38) rfl rfl rfl kt) ?_
  show Go p e below _ (T5.setTop (mkF m 39 #[.val (.ref a), .val (.long x), .second] [(.int (0 : Int32)), (.ref a), (.int (0 : Int32)), (.ref ab)]))
  refine Go.st (fun _ kt => XS.iconst X5.here hx rfl (hb hby d17_39) kt) ?_
  show Go p e below _ (T5.setTop (mkF m 40 #[.val (.ref a), .val (.long x), .second] [(.int (1 : Int32)), (.int (0 : Int32)), (.ref a), (.int (0 : Int32)), (.ref ab)]))
  refine Go.st (fun _ kt => XS.iadd X5.here hx rfl (hb hby d17_40) rfl kt) ?_
  show Go p e below _ (T5.setTop (mkF m 41 #[.val (.ref a), .val (.long x), .second] [(.int (1 : Int32)), (.ref a), (.int (0 : Int32)), (.ref ab)]))
  obtain ⟨T6, h6, X6, e6, W6, st6⟩ := putF X5 hx hZ hown (host := "") (Or.inl (hw _ (List.mem_of_getElem? (i := 34) rfl))) Via.refl e5 F_count E_a (Or.inl (hw _ (List.mem_of_getElem? (i := 35) rfl))) (hw _ (List.mem_of_getElem? (i := 1) rfl)) (ty := .int) (by decide) rfl rfl (g := (mkF m 41 #[.val (.ref a), .val (.long x), .second] [(.int (1 : Int32)), (.ref a), (.int (0 : Int32)), (.ref ab)])) rfl rfl (hb hby d17_41)
  refine Go.st st6 ?_
  have Fw6 := F_count.same W6
  have Zs6 : n0 ≤ h6.size := Nat.le_trans Z0 (Nat.le_of_eq W6.size.symm)
  have N6 := Fr.snoc X6 N0 gn_a
  show Go p e below _ (T6.setTop (mkF m 44 #[.val (.ref a), .val (.long x), .second] [(.int (0 : Int32)), (.ref ab)]))
  refine Go.st (fun _ kt => XS.lloadN X6.here hx rfl (hb hby d17_44) rfl kt) ?_
  show Go p e below _ (T6.setTop (mkF m 45 #[.val (.ref a), .val (.long x), .second] [(.long x), (.int (0 : Int32)), (.ref ab)]))
  have f7 := (A_ab.other W6 (Ne.symm ne_a_ab))
  obtain ⟨cl8, Ar8, S8, N8', G8⟩ := id f7
  have hin8 : ¬ ((0 : Int32) < 0 ∨ cl8.slots.size ≤ ((0 : Int32)).toNatClampNeg) := inb_of S8 (own_inb ⟨by decide, by rw [own_z]; omega⟩)
  obtain ⟨T9, h9, X9, e9, W9, st9⟩ := stJ X6 hx hZ e6 Ar8 (j := (0 : Int32)) hin8 (g := (mkF m 45 #[.val (.ref a), .val (.long x), .second] [(.long x), (.int (0 : Int32)), (.ref ab)])) rfl rfl (hb hby d17_45)
  refine Go.st st9 ?_
  have V9 : AV Z h9 ab .long bl := AV.set Ar8 S8 N8' G8 rfl W9
  have Zs9 : n0 ≤ h9.size := Nat.le_trans Zs6 (Nat.le_of_eq W9.size.symm)
  have N9 := Fr.snoc X9 N6 gn_ab
  show Go p e below _ (T9.setTop (mkF m 46 #[.val (.ref a), .val (.long x), .second] []))
  refine Go.st (fun _ kt => XS.aloadN X9.here hx rfl (hb hby d17_46) rfl rfl kt) ?_
  show Go p e below _ (T9.setTop (mkF m 47 #[.val (.ref a), .val (.long x), .second] [(.ref a)]))
  have f10 := ((F_nulls.other W6 (Or.inr (slot_ne (Or.inl (hw _ (List.mem_of_getElem? (i := 11) rfl))) (Or.inl (hw _ (List.mem_of_getElem? (i := 35) rfl))) (by decide) (t := (.array .boolean)) (t' := .int) (by decide) (by decide)))).other W9 (Or.inl ne_a_ab))
  obtain ⟨T11, X11, e11, st11⟩ := getF X9 hx hZ hown (host := "") (Or.inl (hw _ (List.mem_of_getElem? (i := 10) rfl))) Via.refl e9 f10 (g := (mkF m 47 #[.val (.ref a), .val (.long x), .second] [(.ref a)])) rfl rfl (hb hby d17_47)
  refine Go.st st11 ?_
  show Go p e below _ (T11.setTop (mkF m 50 #[.val (.ref a), .val (.long x), .second] [(.ref an)]))
  refine Go.st (fun _ kt => XS.aloadN X11.here hx rfl (hb hby d17_50) rfl rfl kt) ?_
  show Go p e below _ (T11.setTop (mkF m 51 #[.val (.ref a), .val (.long x), .second] [(.ref a), (.ref an)]))
  refine Go.st (fun _ kt => XS.dup X11.here hx rfl (hb hby d17_51) rfl rfl kt) ?_
  show Go p e below _ (T11.setTop (mkF m 52 #[.val (.ref a), .val (.long x), .second] [(.ref a), (.ref a), (.ref an)]))
  have f12 := ((F_rows.other W6 (Or.inr (slot_ne (Or.inl (hw _ (List.mem_of_getElem? (i := 31) rfl))) (Or.inl (hw _ (List.mem_of_getElem? (i := 35) rfl))) (by decide) (t := .int) (t' := .int) (by decide) (by decide)))).other W9 (Or.inl ne_a_ab))
  obtain ⟨T13, X13, e13, st13⟩ := getF X11 hx hZ hown (host := "") (Or.inl (hw _ (List.mem_of_getElem? (i := 30) rfl))) Via.refl e11 f12 (g := (mkF m 52 #[.val (.ref a), .val (.long x), .second] [(.ref a), (.ref a), (.ref an)])) rfl rfl (hb hby d17_52)
  refine Go.st st13 ?_
  show Go p e below _ (T13.setTop (mkF m 55 #[.val (.ref a), .val (.long x), .second] [(.int r), (.ref a), (.ref an)]))
  refine Go.st (fun _ kt => XS.dupX1 X13.here hx rfl (hb hby d17_55) rfl rfl rfl kt) ?_
  show Go p e below _ (T13.setTop (mkF m 56 #[.val (.ref a), .val (.long x), .second] [(.int r), (.ref a), (.int r), (.ref an)]))
  refine Go.st (fun _ kt => XS.iconst X13.here hx rfl (hb hby d17_56) kt) ?_
  show Go p e below _ (T13.setTop (mkF m 57 #[.val (.ref a), .val (.long x), .second] [(.int (1 : Int32)), (.int r), (.ref a), (.int r), (.ref an)]))
  refine Go.st (fun _ kt => XS.iadd X13.here hx rfl (hb hby d17_57) rfl kt) ?_
  show Go p e below _ (T13.setTop (mkF m 58 #[.val (.ref a), .val (.long x), .second] [(.int (r + (1 : Int32))), (.ref a), (.int r), (.ref an)]))
  have f14 := ((E_a.wr W6).wr W9)
  obtain ⟨T15, h15, X15, e15, W15, st15⟩ := putF X13 hx hZ hown (host := "") (Or.inl (hw _ (List.mem_of_getElem? (i := 30) rfl))) Via.refl e13 f12 f14 (Or.inl (hw _ (List.mem_of_getElem? (i := 31) rfl))) (hw _ (List.mem_of_getElem? (i := 1) rfl)) (ty := .int) (by decide) rfl rfl (g := (mkF m 58 #[.val (.ref a), .val (.long x), .second] [(.int (r + (1 : Int32))), (.ref a), (.int r), (.ref an)])) rfl rfl (hb hby d17_58)
  refine Go.st st15 ?_
  have Fw15 := f12.same W15
  have Zs15 : n0 ≤ h15.size := Nat.le_trans Zs9 (Nat.le_of_eq W15.size.symm)
  have N15 := Fr.snoc X15 N9 gn_a
  show Go p e below _ (T15.setTop (mkF m 61 #[.val (.ref a), .val (.long x), .second] [(.int r), (.ref an)]))
  refine Go.st (fun _ kt => XS.iconst X15.here hx rfl (hb hby d17_61) kt) ?_
  show Go p e below _ (T15.setTop (mkF m 62 #[.val (.ref a), .val (.long x), .second] [(.int (0 : Int32)), (.int r), (.ref an)]))
  have f16 := (((A_an.other W6 (Ne.symm ne_a_an)).other W9 ne_an_ab).other W15 (Ne.symm ne_a_an))
  obtain ⟨cl17, Ar17, S17, N17', G17⟩ := id f16
  have hin17 : ¬ (r < 0 ∨ cl17.slots.size ≤ (r).toNatClampNeg) := inb_of S17 (own_inb hr)
  obtain ⟨T18, h18, X18, e18, W18, st18⟩ := stZ X15 hx hZ e15 Ar17 (j := r) hin17 (g := (mkF m 62 #[.val (.ref a), .val (.long x), .second] [(.int (0 : Int32)), (.int r), (.ref an)])) rfl rfl (hb hby d17_62)
  refine Go.st st18 ?_
  have V18 : AV Z h18 an .boolean nl := AV.set Ar17 S17 N17' G17 (fits_nar_bool _) W18
  have Zs18 : n0 ≤ h18.size := Nat.le_trans Zs15 (Nat.le_of_eq W18.size.symm)
  have N18 := Fr.snoc X18 N15 gn_an
  show Go p e below _ (T18.setTop (mkF m 63 #[.val (.ref a), .val (.long x), .second] []))
  have f19 := ((f14.wr W15).wr W18)
  have f20 := ((f10.other W15 (Or.inr (slot_ne (Or.inl (hw _ (List.mem_of_getElem? (i := 11) rfl))) (Or.inl (hw _ (List.mem_of_getElem? (i := 31) rfl))) (by decide) (t := (.array .boolean)) (t' := .int) (by decide) (by decide)))).other W18 (Or.inl ne_a_an))
  have f21 := ((((F_bits.other W6 (Or.inr (slot_ne (Or.inl (hw _ (List.mem_of_getElem? (i := 14) rfl))) (Or.inl (hw _ (List.mem_of_getElem? (i := 35) rfl))) (by decide) (t := (.array .long)) (t' := .int) (by decide) (by decide)))).other W9 (Or.inl ne_a_ab)).other W15 (Or.inr (slot_ne (Or.inl (hw _ (List.mem_of_getElem? (i := 14) rfl))) (Or.inl (hw _ (List.mem_of_getElem? (i := 31) rfl))) (by decide) (t := (.array .long)) (t' := .int) (by decide) (by decide)))).other W18 (Or.inl ne_a_an))
  have f22 := ((((F_starts.other W6 (Or.inr (slot_ne (Or.inl (hw _ (List.mem_of_getElem? (i := 17) rfl))) (Or.inl (hw _ (List.mem_of_getElem? (i := 35) rfl))) (by decide) (t := (.array .int)) (t' := .int) (by decide) (by decide)))).other W9 (Or.inl ne_a_ab)).other W15 (Or.inr (slot_ne (Or.inl (hw _ (List.mem_of_getElem? (i := 17) rfl))) (Or.inl (hw _ (List.mem_of_getElem? (i := 31) rfl))) (by decide) (t := (.array .int)) (t' := .int) (by decide) (by decide)))).other W18 (Or.inl ne_a_an))
  have f23 := ((((F_lengths.other W6 (Or.inr (slot_ne (Or.inl (hw _ (List.mem_of_getElem? (i := 19) rfl))) (Or.inl (hw _ (List.mem_of_getElem? (i := 35) rfl))) (by decide) (t := (.array .int)) (t' := .int) (by decide) (by decide)))).other W9 (Or.inl ne_a_ab)).other W15 (Or.inr (slot_ne (Or.inl (hw _ (List.mem_of_getElem? (i := 19) rfl))) (Or.inl (hw _ (List.mem_of_getElem? (i := 31) rfl))) (by decide) (t := (.array .int)) (t' := .int) (by decide) (by decide)))).other W18 (Or.inl ne_a_an))
  have f24 := ((((F_copies.other W6 (Or.inr (slot_ne (Or.inl (hw _ (List.mem_of_getElem? (i := 24) rfl))) (Or.inl (hw _ (List.mem_of_getElem? (i := 35) rfl))) (by decide) (t := (.array .byte)) (t' := .int) (by decide) (by decide)))).other W9 (Or.inl ne_a_ab)).other W15 (Or.inr (slot_ne (Or.inl (hw _ (List.mem_of_getElem? (i := 24) rfl))) (Or.inl (hw _ (List.mem_of_getElem? (i := 31) rfl))) (by decide) (t := (.array .byte)) (t' := .int) (by decide) (by decide)))).other W18 (Or.inl ne_a_an))
  have f25 := (Fw15.other W18 (Or.inl ne_a_an))
  have f26 := ((((F_anyNull.other W6 (Or.inr (slot_ne (Or.inl (hw _ (List.mem_of_getElem? (i := 33) rfl))) (Or.inl (hw _ (List.mem_of_getElem? (i := 35) rfl))) (by decide) (t := .boolean) (t' := .int) (by decide) (by decide)))).other W9 (Or.inl ne_a_ab)).other W15 (Or.inr (slot_ne (Or.inl (hw _ (List.mem_of_getElem? (i := 33) rfl))) (Or.inl (hw _ (List.mem_of_getElem? (i := 31) rfl))) (by decide) (t := .boolean) (t' := .int) (by decide) (by decide)))).other W18 (Or.inl ne_a_an))
  have f27 := (((Fw6.other W9 (Or.inl ne_a_ab)).other W15 (Or.inr (slot_ne (Or.inl (hw _ (List.mem_of_getElem? (i := 35) rfl))) (Or.inl (hw _ (List.mem_of_getElem? (i := 31) rfl))) (by decide) (t := .int) (t' := .int) (by decide) (by decide)))).other W18 (Or.inl ne_a_an))
  have f28 := ((((F_bytes.other W6 (Or.inr (slot_ne (Or.inl (hw _ (List.mem_of_getElem? (i := 37) rfl))) (Or.inl (hw _ (List.mem_of_getElem? (i := 35) rfl))) (by decide) (t := (.array .byte)) (t' := .int) (by decide) (by decide)))).other W9 (Or.inl ne_a_ab)).other W15 (Or.inr (slot_ne (Or.inl (hw _ (List.mem_of_getElem? (i := 37) rfl))) (Or.inl (hw _ (List.mem_of_getElem? (i := 31) rfl))) (by decide) (t := (.array .byte)) (t' := .int) (by decide) (by decide)))).other W18 (Or.inl ne_a_an))
  have f29 := ((((F_dictionary.other W6 (Or.inr (slot_ne (Or.inl (hw _ (List.mem_of_getElem? (i := 39) rfl))) (Or.inl (hw _ (List.mem_of_getElem? (i := 35) rfl))) (by decide) (t := (.object "com/example/rowsieve/rowsieve/grouping/ValueDictionary")) (t' := .int) (by decide) (by decide)))).other W9 (Or.inl ne_a_ab)).other W15 (Or.inr (slot_ne (Or.inl (hw _ (List.mem_of_getElem? (i := 39) rfl))) (Or.inl (hw _ (List.mem_of_getElem? (i := 31) rfl))) (by decide) (t := (.object "com/example/rowsieve/rowsieve/grouping/ValueDictionary")) (t' := .int) (by decide) (by decide)))).other W18 (Or.inl ne_a_an))
  have f30 := ((((F_copiesEnd.other W6 (Or.inr (slot_ne (Or.inl (hw _ (List.mem_of_getElem? (i := 41) rfl))) (Or.inl (hw _ (List.mem_of_getElem? (i := 35) rfl))) (by decide) (t := .int) (t' := .int) (by decide) (by decide)))).other W9 (Or.inl ne_a_ab)).other W15 (Or.inr (slot_ne (Or.inl (hw _ (List.mem_of_getElem? (i := 41) rfl))) (Or.inl (hw _ (List.mem_of_getElem? (i := 31) rfl))) (by decide) (t := .int) (t' := .int) (by decide) (by decide)))).other W18 (Or.inl ne_a_an))
  have f31 := ((V9.other W15 (Ne.symm ne_a_ab)).other W18 (Ne.symm ne_an_ab))
  have f32 := ((((A_az.other W6 (Ne.symm ne_a_az)).other W9 (Ne.symm ne_ab_az)).other W15 (Ne.symm ne_a_az)).other W18 (Ne.symm ne_an_az))
  have f33 := ((((A_al.other W6 (Ne.symm ne_a_al)).other W9 (Ne.symm ne_ab_al)).other W15 (Ne.symm ne_a_al)).other W18 (Ne.symm ne_an_al))
  have f34 := ((((A_ac.other W6 (Ne.symm ne_a_ac)).other W9 (Ne.symm ne_ab_ac)).other W15 (Ne.symm ne_a_ac)).other W18 (Ne.symm ne_an_ac))
  have f35 := ((((A_sr.other W6 (Ne.symm ne_a_sr)).other W9 (Ne.symm ne_ab_sr)).other W15 (Ne.symm ne_a_sr)).other W18 (Ne.symm ne_an_sr))
  refine Go.retV X18 hx Bd.returns (BodyLoose.notSynchronized Bd) (hb hby d17_63) (Q := (Q_rm17 Z a x an ab az al ac sr nl bl r cq ce h0 n0)) (by decide) (by decide) ?_
  show (Q_rm17 Z a x an ab az al ac sr nl bl r cq ce h0 n0) _ T18.heap _
  rw [e18]
  exact ⟨rfl, N18, ⟨f19, f20, f21, f22, f23, f24, f25, ⟨_, f26⟩, f27, ⟨_, f28⟩, ⟨_, f29⟩, f30, V18, f31, f32, f33, f34, f35, gn_a, gn_an, gn_ab, gn_az, gn_al, gn_ac, ne_a_an, ne_a_ab, ne_a_az, ne_a_al, ne_a_ac, ne_a_sr, ne_an_ab, ne_an_az, ne_an_al, ne_an_ac, ne_an_sr, ne_ab_az, ne_ab_al, ne_ab_ac, ne_ab_sr, ne_az_al, ne_az_ac, ne_az_sr, ne_al_ac, ne_al_sr, ne_ac_sr⟩⟩
theorem d13_0 : decode prog_13_method_11_code 0 = .ok (.aload_n 0, 1) := by decide +kernel
theorem d13_1 : decode prog_13_method_11_code 1 = .ok (.getfield 39, 3) := by decide +kernel
theorem d13_4 : decode prog_13_method_11_code 4 = .ok (.ifCond .ne 11, 3) := by decide +kernel
theorem d13_7 : decode prog_13_method_11_code 7 = .ok (.aload_n 0, 1) := by decide +kernel
theorem d13_8 : decode prog_13_method_11_code 8 = .ok (.aload_n 1, 1) := by decide +kernel
theorem d13_9 : decode prog_13_method_11_code 9 = .ok (.putfield 42, 3) := by decide +kernel
theorem d13_12 : decode prog_13_method_11_code 12 = .ok (.goto 21, 3) := by decide +kernel
theorem d13_33 : decode prog_13_method_11_code 33 = .ok (.aload_n 0, 1) := by decide +kernel
theorem d13_34 : decode prog_13_method_11_code 34 = .ok (.getfield 39, 3) := by decide +kernel
theorem d13_37 : decode prog_13_method_11_code 37 = .ok (.aload_n 0, 1) := by decide +kernel
theorem d13_38 : decode prog_13_method_11_code 38 = .ok (.getfield 17, 3) := by decide +kernel
theorem d13_41 : decode prog_13_method_11_code 41 = .ok (.arraylength, 1) := by decide +kernel
theorem d13_42 : decode prog_13_method_11_code 42 = .ok (.if_icmp .ne 37, 3) := by decide +kernel
theorem d13_79 : decode prog_13_method_11_code 79 = .ok (.aload_n 0, 1) := by decide +kernel
theorem d13_80 : decode prog_13_method_11_code 80 = .ok (.getfield 17, 3) := by decide +kernel
theorem d13_83 : decode prog_13_method_11_code 83 = .ok (.aload_n 0, 1) := by decide +kernel
theorem d13_84 : decode prog_13_method_11_code 84 = .ok (.getfield 39, 3) := by decide +kernel
theorem d13_87 : decode prog_13_method_11_code 87 = .ok (.iload_n 2, 1) := by decide +kernel
theorem d13_88 : decode prog_13_method_11_code 88 = .ok (.iastore, 1) := by decide +kernel
theorem d13_89 : decode prog_13_method_11_code 89 = .ok (.aload_n 0, 1) := by decide +kernel
theorem d13_90 : decode prog_13_method_11_code 90 = .ok (.getfield 21, 3) := by decide +kernel
theorem d13_93 : decode prog_13_method_11_code 93 = .ok (.aload_n 0, 1) := by decide +kernel
theorem d13_94 : decode prog_13_method_11_code 94 = .ok (.dup, 1) := by decide +kernel
theorem d13_95 : decode prog_13_method_11_code 95 = .ok (.getfield 39, 3) := by decide +kernel
theorem d13_98 : decode prog_13_method_11_code 98 = .ok (.dup_x1, 1) := by decide +kernel
theorem d13_99 : decode prog_13_method_11_code 99 = .ok (.iconst 1, 1) := by decide +kernel
theorem d13_100 : decode prog_13_method_11_code 100 = .ok (.iadd, 1) := by decide +kernel
theorem d13_101 : decode prog_13_method_11_code 101 = .ok (.putfield 39, 3) := by decide +kernel
theorem d13_104 : decode prog_13_method_11_code 104 = .ok (.iload_n 3, 1) := by decide +kernel
theorem d13_105 : decode prog_13_method_11_code 105 = .ok (.iastore, 1) := by decide +kernel
theorem d13_106 : decode prog_13_method_11_code 106 = .ok (.aload_n 0, 1) := by decide +kernel
theorem d13_107 : decode prog_13_method_11_code 107 = .ok (.getfield 9, 3) := by decide +kernel
theorem d13_110 : decode prog_13_method_11_code 110 = .ok (.aload_n 0, 1) := by decide +kernel
theorem d13_111 : decode prog_13_method_11_code 111 = .ok (.dup, 1) := by decide +kernel
theorem d13_112 : decode prog_13_method_11_code 112 = .ok (.getfield 31, 3) := by decide +kernel
theorem d13_115 : decode prog_13_method_11_code 115 = .ok (.dup_x1, 1) := by decide +kernel
theorem d13_116 : decode prog_13_method_11_code 116 = .ok (.iconst 1, 1) := by decide +kernel
theorem d13_117 : decode prog_13_method_11_code 117 = .ok (.iadd, 1) := by decide +kernel
theorem d13_118 : decode prog_13_method_11_code 118 = .ok (.putfield 31, 3) := by decide +kernel
theorem d13_121 : decode prog_13_method_11_code 121 = .ok (.iconst 0, 1) := by decide +kernel
theorem d13_122 : decode prog_13_method_11_code 122 = .ok (.bastore, 1) := by decide +kernel
theorem d13_123 : decode prog_13_method_11_code 123 = .ok (.return_, 1) := by decide +kernel
def Q_rm13 (Z : State) (a : Addr) (ac : Addr) (of1 : Int32) (ln1 : Int32) (an : Addr) (ab : Addr) (az : Addr) (al : Addr) (sr : Addr) (nl : Int32) (bl : Int32) (r : Int32) (cq : Int32) (ce : Int32) (h0 : Heap) (n0 : Nat) (v : Option Value) (h : Heap) (L : List Loc) : Prop := v = none ∧ Fr n0 L ∧ PV Z n0 h a an ab az al ac sr nl bl (r + (1 : Int32)) (1 : Int32) ce
theorem ef_rm13 (m : MethodId) (a : Addr) (ac : Addr) (of1 : Int32) (ln1 : Int32) : entryFrame m #[(.ref a), (.ref ac), (.int of1), (.int ln1)] 4 = mkF m 0 #[.val (.ref a), .val (.ref ac), .val (.int of1), .val (.int ln1)] [] := by first | (simp [entryFrame, mkF, argsToLocals, Value.category]; done) | rfl
set_option maxRecDepth 65536 in
set_option maxHeartbeats 40000000 in
theorem rm13 (l : Launch) (Z : State) (a0 : Array Value) (hw : ∀ d ∈ tables_1, d.before a0 Z = true) (ws : List Jvm.Cond) (a : Addr) (ac : Addr) (of1 : Int32) (ln1 : Int32) (an : Addr) (ab : Addr) (az : Addr) (al : Addr) (sr : Addr) (nl : Int32) (bl : Int32) (r : Int32) (cq : Int32) (ce : Int32) (h0 : Heap) (n0 : Nat) (Z0 : n0 ≤ h0.size) (P : PV Z n0 h0 a an ab az al ac sr nl bl r (0 : Int32) ce) (hr : 0 ≤ r.toInt ∧ r.toInt < nl.toInt) :
    MetFree l (⟨"com/example/rowsieve/rowsieve/data/PageValues", "addInPlace", "([BII)V"⟩ : MethodName) (head1 (Jvm.Cond.code (⟨"com/example/rowsieve/rowsieve/data/PageValues", "addInPlace", "([BII)V"⟩ : MethodName) prog_13_method_11_code 4 none :: ws) ({ frames := 0, cells := 0, slots := 0, locals := 0 } : Room)) (fun ag_ U_ => ag_ = #[(.ref a), (.ref ac), (.int of1), (.int ln1)] ∧ Z.Warmed39 U_.vm ∧ U_.heap = h0) (fun _ _ _ _ _ => True) (fun _ U_ o_ V_ => ∃ v_ L_, o_ = .returned v_ ∧ (Q_rm13 Z a ac of1 ln1 an ab az al sr nl bl r cq ce h0 n0) v_ V_.heap L_ ∧ FrameEnd U_ o_ V_ L_ ({ frames := 0, cells := 0, slots := 0, locals := 0 } : Room).cells ({ frames := 0, cells := 0, slots := 0, locals := 0 } : Room).slots) := by
  refine MetFree.of_bodySF (plainFor_of_name own_pn3) hisR ?_
  intro p e s m args below meth c s₁ Bd hml0 hP hK
  obtain ⟨rfl, hZ, hh⟩ := hP
  have hx := Bd.exec
  have hby := Bd.bytes
  have hml : c.maxLocals = 4 := hml0
  have hown : s.vm.findClass "com/example/rowsieve/rowsieve/data/PageValues" = some m.cls := findClass_of_methodNamed Bd.named
  have hnm := (name_of_methodNamed Bd.named Bd.method).1
  have X0 : Stand p l e ({ frames := 0, cells := 0, slots := 0, locals := 0 } : Room) s m #[(.ref a), (.ref ac), (.int of1), (.int ln1)] below meth c s₁ [] 0 0 := Stand.of_body Bd
  have e0 : s₁.heap = h0 := by rw [← hh, Bd.state]; rfl
  have N0 := Fr.nil n0
  refine Go.st (G := fun s₂ o_ => ∃ v_ L_, o_ = .returned v_ ∧ (Q_rm13 Z a ac of1 ln1 an ab az al sr nl bl r cq ce h0 n0) v_ s₂.heap L_ ∧ FrameEnd s o_ s₂ L_ ({ frames := 0, cells := 0, slots := 0, locals := 0 } : Room).cells ({ frames := 0, cells := 0, slots := 0, locals := 0 } : Room).slots) (fun t kt => castTop (ef_rm13 m a ac of1 ln1) kt) ?_
  obtain ⟨E_a, F_nulls, F_bits, F_starts, F_lengths, F_copies, F_rows, ⟨u1, F_anyNull⟩, F_count, ⟨u2, F_bytes⟩, ⟨u3, F_dictionary⟩, F_copiesEnd, A_an, A_ab, A_az, A_al, A_ac, A_sr, gn_a, gn_an, gn_ab, gn_az, gn_al, gn_ac, ne_a_an, ne_a_ab, ne_a_az, ne_a_al, ne_a_ac, ne_a_sr, ne_an_ab, ne_an_az, ne_an_al, ne_an_ac, ne_an_sr, ne_ab_az, ne_ab_al, ne_ab_ac, ne_ab_sr, ne_az_al, ne_az_ac, ne_az_sr, ne_al_ac, ne_al_sr, ne_ac_sr⟩ := P
  show Go p e below _ (s₁.setTop (mkF m 0 #[.val (.ref a), .val (.ref ac), .val (.int of1), .val (.int ln1)] []))
  refine Go.st (fun _ kt => XS.aloadN X0.here hx rfl (hb hby d13_0) rfl rfl kt) ?_
  show Go p e below _ (s₁.setTop (mkF m 1 #[.val (.ref a), .val (.ref ac), .val (.int of1), .val (.int ln1)] [(.ref a)]))
  obtain ⟨T1, X1, e1, st1⟩ := getF X0 hx hZ hown (host := "") (Or.inl (hw _ (List.mem_of_getElem? (i := 34) rfl))) Via.refl e0 F_count (g := (mkF m 1 #[.val (.ref a), .val (.ref ac), .val (.int of1), .val (.int ln1)] [(.ref a)])) rfl rfl (hb hby d13_1)
  refine Go.st st1 ?_
  show Go p e below _ (T1.setTop (mkF m 4 #[.val (.ref a), .val (.ref ac), .val (.int of1), .val (.int ln1)] [(.int (0 : Int32))]))
  refine Go.st (fun _ kt => XS.ifNo X1.here hx rfl (hb hby d13_4) rfl ((if0 _ _).trans (teq (by decide : (0 : Int32) = (0 : Int32))).2) kt) ?_
  show Go p e below _ (T1.setTop (mkF m 7 #[.val (.ref a), .val (.ref ac), .val (.int of1), .val (.int ln1)] []))
  refine Go.st (fun _ kt => XS.aloadN X1.here hx rfl (hb hby d13_7) rfl rfl kt) ?_
  show Go p e below _ (T1.setTop (mkF m 8 #[.val (.ref a), .val (.ref ac), .val (.int of1), .val (.int ln1)] [(.ref a)]))
  refine Go.st (fun _ kt => XS.aloadN X1.here hx rfl (hb hby d13_8) rfl rfl kt) ?_
  show Go p e below _ (T1.setTop (mkF m 9 #[.val (.ref a), .val (.ref ac), .val (.int of1), .val (.int ln1)] [(.ref ac), (.ref a)]))
  obtain ⟨T2, h2, X2, e2, W2, st2⟩ := putF X1 hx hZ hown (host := "") (Or.inl (hw _ (List.mem_of_getElem? (i := 36) rfl))) Via.refl e1 F_bytes E_a (Or.inl (hw _ (List.mem_of_getElem? (i := 37) rfl))) (hw _ (List.mem_of_getElem? (i := 1) rfl)) (ty := (.array .byte)) (by decide) rfl rfl (g := (mkF m 9 #[.val (.ref a), .val (.ref ac), .val (.int of1), .val (.int ln1)] [(.ref ac), (.ref a)])) rfl rfl (hb hby d13_9)
  refine Go.st st2 ?_
  have Fw2 := F_bytes.same W2
  have Zs2 : n0 ≤ h2.size := Nat.le_trans Z0 (Nat.le_of_eq W2.size.symm)
  have N2 := Fr.snoc X2 N0 gn_a
  show Go p e below _ (T2.setTop (mkF m 12 #[.val (.ref a), .val (.ref ac), .val (.int of1), .val (.int ln1)] []))
  refine Go.st (fun _ kt => XS.goto X2.here hx rfl (pc0 := 12) (pc' := 33) rfl (hb hby d13_12) (by decide) (by decide) kt) ?_
  show Go p e below _ (T2.setTop (mkF m 33 #[.val (.ref a), .val (.ref ac), .val (.int of1), .val (.int ln1)] []))
  refine Go.st (fun _ kt => XS.aloadN X2.here hx rfl (hb hby d13_33) rfl rfl kt) ?_
  show Go p e below _ (T2.setTop (mkF m 34 #[.val (.ref a), .val (.ref ac), .val (.int of1), .val (.int ln1)] [(.ref a)]))
  have f3 := (F_count.other W2 (Or.inr (slot_ne (Or.inl (hw _ (List.mem_of_getElem? (i := 35) rfl))) (Or.inl (hw _ (List.mem_of_getElem? (i := 37) rfl))) (by decide) (t := .int) (t' := (.array .byte)) (by decide) (by decide))))
  obtain ⟨T4, X4, e4, st4⟩ := getF X2 hx hZ hown (host := "") (Or.inl (hw _ (List.mem_of_getElem? (i := 34) rfl))) Via.refl e2 f3 (g := (mkF m 34 #[.val (.ref a), .val (.ref ac), .val (.int of1), .val (.int ln1)] [(.ref a)])) rfl rfl (hb hby d13_34)
  refine Go.st st4 ?_
  show Go p e below _ (T4.setTop (mkF m 37 #[.val (.ref a), .val (.ref ac), .val (.int of1), .val (.int ln1)] [(.int (0 : Int32))]))
  refine Go.st (fun _ kt => XS.aloadN X4.here hx rfl (hb hby d13_37) rfl rfl kt) ?_
  show Go p e below _ (T4.setTop (mkF m 38 #[.val (.ref a), .val (.ref ac), .val (.int of1), .val (.int ln1)] [(.ref a), (.int (0 : Int32))]))
  have f5 := (F_starts.other W2 (Or.inr (slot_ne (Or.inl (hw _ (List.mem_of_getElem? (i := 17) rfl))) (Or.inl (hw _ (List.mem_of_getElem? (i := 37) rfl))) (by decide) (t := (.array .int)) (t' := (.array .byte)) (by decide) (by decide))))
  obtain ⟨T6, X6, e6, st6⟩ := getF X4 hx hZ hown (host := "") (Or.inl (hw _ (List.mem_of_getElem? (i := 16) rfl))) Via.refl e4 f5 (g := (mkF m 38 #[.val (.ref a), .val (.ref ac), .val (.int of1), .val (.int ln1)] [(.ref a), (.int (0 : Int32))])) rfl rfl (hb hby d13_38)
  refine Go.st st6 ?_
  show Go p e below _ (T6.setTop (mkF m 41 #[.val (.ref a), .val (.ref ac), .val (.int of1), .val (.int ln1)] [(.ref az), (.int (0 : Int32))]))
  have f8 := (A_az.other W2 (Ne.symm ne_a_az))
  obtain ⟨cl7, Ar7, S7, N7', -⟩ := id f8
  refine Go.st (fun _ kt => X6.arraylength hx (by rw [e6]; exact Ar7.1) (State.isArrayOf_alike hZ.alike Ar7.2.1) (g := (mkF m 41 #[.val (.ref a), .val (.ref ac), .val (.int of1), .val (.int ln1)] [(.ref az), (.int (0 : Int32))])) rfl rfl (hb hby d13_41) _ kt) ?_
  rw [len_of S7 N7']
  show Go p e below _ (T6.setTop (mkF m 42 #[.val (.ref a), .val (.ref ac), .val (.int of1), .val (.int ln1)] [(.int (64 : Int32)), (.int (0 : Int32))]))
  refine Go.st (fun _ kt => XS.icmpYes X6.here hx rfl (pc0 := 42) (pc' := 79) rfl (hb hby d13_42) rfl (feq (by decide : ¬ ((0 : Int32) = (64 : Int32)))).2 (by decide) (by decide) kt) ?_
  show Go p e below _ (T6.setTop (mkF m 79 #[.val (.ref a), .val (.ref ac), .val (.int of1), .val (.int ln1)] []))
  refine Go.st (fun _ kt => XS.aloadN X6.here hx rfl (hb hby d13_79) rfl rfl kt) ?_
  show Go p e below _ (T6.setTop (mkF m 80 #[.val (.ref a), .val (.ref ac), .val (.int of1), .val (.int ln1)] [(.ref a)]))
  obtain ⟨T9, X9, e9, st9⟩ := getF X6 hx hZ hown (host := "") (Or.inl (hw _ (List.mem_of_getElem? (i := 16) rfl))) Via.refl e6 f5 (g := (mkF m 80 #[.val (.ref a), .val (.ref ac), .val (.int of1), .val (.int ln1)] [(.ref a)])) rfl rfl (hb hby d13_80)
  refine Go.st st9 ?_
  show Go p e below _ (T9.setTop (mkF m 83 #[.val (.ref a), .val (.ref ac), .val (.int of1), .val (.int ln1)] [(.ref az)]))
  refine Go.st (fun _ kt => XS.aloadN X9.here hx rfl (hb hby d13_83) rfl rfl kt) ?_
  show Go p e below _ (T9.setTop (mkF m 84 #[.val (.ref a), .val (.ref ac), .val (.int of1), .val (.int ln1)] [(.ref a), (.ref az)]))
  obtain ⟨T10, X10, e10, st10⟩ := getF X9 hx hZ hown (host := "") (Or.inl (hw _ (List.mem_of_getElem? (i := 34) rfl))) Via.refl e9 f3 (g := (mkF m 84 #[.val (.ref a), .val (.ref ac), .val (.int of1), .val (.int ln1)] [(.ref a), (.ref az)])) rfl rfl (hb hby d13_84)
  refine Go.st st10 ?_
  show Go p e below _ (T10.setTop (mkF m 87 #[.val (.ref a), .val (.ref ac), .val (.int of1), .val (.int ln1)] [(.int (0 : Int32)), (.ref az)]))
  refine Go.st (fun _ kt => XS.iloadN X10.here hx rfl (hb hby d13_87) rfl kt) ?_
  show Go p e below _ (T10.setTop (mkF m 88 #[.val (.ref a), .val (.ref ac), .val (.int of1), .val (.int ln1)] [(.int of1), (.int (0 : Int32)), (.ref az)]))
  obtain ⟨cl11, Ar11, S11, N11', G11⟩ := id f8
  have hin11 : ¬ ((0 : Int32) < 0 ∨ cl11.slots.size ≤ ((0 : Int32)).toNatClampNeg) := inb_of S11 ⟨by decide, by decide⟩
  obtain ⟨T12, h12, X12, e12, W12, st12⟩ := stI X10 hx hZ e10 Ar11 (j := (0 : Int32)) hin11 (g := (mkF m 88 #[.val (.ref a), .val (.ref ac), .val (.int of1), .val (.int ln1)] [(.int of1), (.int (0 : Int32)), (.ref az)])) rfl rfl (hb hby d13_88)
  refine Go.st st12 ?_
  have V12 : AV Z h12 az .int (64 : Int32) := AV.set Ar11 S11 N11' G11 rfl W12
  have Zs12 : n0 ≤ h12.size := Nat.le_trans Zs2 (Nat.le_of_eq W12.size.symm)
  have N12 := Fr.snoc X12 N2 gn_az
  show Go p e below _ (T12.setTop (mkF m 89 #[.val (.ref a), .val (.ref ac), .val (.int of1), .val (.int ln1)] []))
  refine Go.st (fun _ kt => XS.aloadN X12.here hx rfl (hb hby d13_89) rfl rfl kt) ?_
  show Go p e below _ (T12.setTop (mkF m 90 #[.val (.ref a), .val (.ref ac), .val (.int of1), .val (.int ln1)] [(.ref a)]))
  have f13 := ((F_lengths.other W2 (Or.inr (slot_ne (Or.inl (hw _ (List.mem_of_getElem? (i := 19) rfl))) (Or.inl (hw _ (List.mem_of_getElem? (i := 37) rfl))) (by decide) (t := (.array .int)) (t' := (.array .byte)) (by decide) (by decide)))).other W12 (Or.inl ne_a_az))
  obtain ⟨T14, X14, e14, st14⟩ := getF X12 hx hZ hown (host := "") (Or.inl (hw _ (List.mem_of_getElem? (i := 18) rfl))) Via.refl e12 f13 (g := (mkF m 90 #[.val (.ref a), .val (.ref ac), .val (.int of1), .val (.int ln1)] [(.ref a)])) rfl rfl (hb hby d13_90)
  refine Go.st st14 ?_
  show Go p e below _ (T14.setTop (mkF m 93 #[.val (.ref a), .val (.ref ac), .val (.int of1), .val (.int ln1)] [(.ref al)]))
  refine Go.st (fun _ kt => XS.aloadN X14.here hx rfl (hb hby d13_93) rfl rfl kt) ?_
  show Go p e below _ (T14.setTop (mkF m 94 #[.val (.ref a), .val (.ref ac), .val (.int of1), .val (.int ln1)] [(.ref a), (.ref al)]))
  refine Go.st (fun _ kt => XS.dup X14.here hx rfl (hb hby d13_94) rfl rfl kt) ?_
  show Go p e below _ (T14.setTop (mkF m 95 #[.val (.ref a), .val (.ref ac), .val (.int of1), .val (.int ln1)] [(.ref a), (.ref a), (.ref al)]))
  have f15 := (f3.other W12 (Or.inl ne_a_az))
  obtain ⟨T16, X16, e16, st16⟩ := getF X14 hx hZ hown (host := "") (Or.inl (hw _ (List.mem_of_getElem? (i := 34) rfl))) Via.refl e14 f15 (g := (mkF m 95 #[.val (.ref a), .val (.ref ac), .val (.int of1), .val (.int ln1)] [(.ref a), (.ref a), (.ref al)])) rfl rfl (hb hby d13_95)
  refine Go.st st16 ?_
  show Go p e below _ (T16.setTop (mkF m 98 #[.val (.ref a), .val (.ref ac), .val (.int of1), .val (.int ln1)] [(.int (0 : Int32)), (.ref a), (.ref al)]))
  refine Go.st (fun _ kt => XS.dupX1 X16.here hx rfl (hb hby d13_98) rfl rfl rfl kt) ?_
  show Go p e below _ (T16.setTop (mkF m 99 #[.val (.ref a), .val (.ref ac), .val (.int of1), .val (.int ln1)] [(.int (0 : Int32)), (.ref a), (.int (0 : Int32)), (.ref al)]))
  refine Go.st (fun _ kt => XS.iconst X16.here hx rfl (hb hby d13_99) kt) ?_
  show Go p e below _ (T16.setTop (mkF m 100 #[.val (.ref a), .val (.ref ac), .val (.int of1), .val (.int ln1)] [(.int (1 : Int32)), (.int (0 : Int32)), (.ref a), (.int (0 : Int32)), (.ref al)]))
  refine Go.st (fun _ kt => XS.iadd X16.here hx rfl (hb hby d13_100) rfl kt) ?_
  show Go p e below _ (T16.setTop (mkF m 101 #[.val (.ref a), .val (.ref ac), .val (.int of1), .val (.int ln1)] [(.int (1 : Int32)), (.ref a), (.int (0 : Int32)), (.ref al)]))
  have f17 := ((E_a.wr W2).wr W12)
  obtain ⟨T18, h18, X18, e18, W18, st18⟩ := putF X16 hx hZ hown (host := "") (Or.inl (hw _ (List.mem_of_getElem? (i := 34) rfl))) Via.refl e16 f15 f17 (Or.inl (hw _ (List.mem_of_getElem? (i := 35) rfl))) (hw _ (List.mem_of_getElem? (i := 1) rfl)) (ty := .int) (by decide) rfl rfl (g := (mkF m 101 #[.val (.ref a), .val (.ref ac), .val (.int of1), .val (.int ln1)] [(.int (1 : Int32)), (.ref a), (.int (0 : Int32)), (.ref al)])) rfl rfl (hb hby d13_101)
  refine Go.st st18 ?_
  have Fw18 := f15.same W18
  have Zs18 : n0 ≤ h18.size := Nat.le_trans Zs12 (Nat.le_of_eq W18.size.symm)
  have N18 := Fr.snoc X18 N12 gn_a
  show Go p e below _ (T18.setTop (mkF m 104 #[.val (.ref a), .val (.ref ac), .val (.int of1), .val (.int ln1)] [(.int (0 : Int32)), (.ref al)]))
  refine Go.st (fun _ kt => XS.iloadN X18.here hx rfl (hb hby d13_104) rfl kt) ?_
  show Go p e below _ (T18.setTop (mkF m 105 #[.val (.ref a), .val (.ref ac), .val (.int of1), .val (.int ln1)] [(.int ln1), (.int (0 : Int32)), (.ref al)]))
  have f19 := (((A_al.other W2 (Ne.symm ne_a_al)).other W12 (Ne.symm ne_az_al)).other W18 (Ne.symm ne_a_al))
  obtain ⟨cl20, Ar20, S20, N20', G20⟩ := id f19
  have hin20 : ¬ ((0 : Int32) < 0 ∨ cl20.slots.size ≤ ((0 : Int32)).toNatClampNeg) := inb_of S20 ⟨by decide, by decide⟩
  obtain ⟨T21, h21, X21, e21, W21, st21⟩ := stI X18 hx hZ e18 Ar20 (j := (0 : Int32)) hin20 (g := (mkF m 105 #[.val (.ref a), .val (.ref ac), .val (.int of1), .val (.int ln1)] [(.int ln1), (.int (0 : Int32)), (.ref al)])) rfl rfl (hb hby d13_105)
  refine Go.st st21 ?_
  have V21 : AV Z h21 al .int (64 : Int32) := AV.set Ar20 S20 N20' G20 rfl W21
  have Zs21 : n0 ≤ h21.size := Nat.le_trans Zs18 (Nat.le_of_eq W21.size.symm)
  have N21 := Fr.snoc X21 N18 gn_al
  show Go p e below _ (T21.setTop (mkF m 106 #[.val (.ref a), .val (.ref ac), .val (.int of1), .val (.int ln1)] []))
  refine Go.st (fun _ kt => XS.aloadN X21.here hx rfl (hb hby d13_106) rfl rfl kt) ?_
  show Go p e below _ (T21.setTop (mkF m 107 #[.val (.ref a), .val (.ref ac), .val (.int of1), .val (.int ln1)] [(.ref a)]))
  have f22 := ((((F_nulls.other W2 (Or.inr (slot_ne (Or.inl (hw _ (List.mem_of_getElem? (i := 11) rfl))) (Or.inl (hw _ (List.mem_of_getElem? (i := 37) rfl))) (by decide) (t := (.array .boolean)) (t' := (.array .byte)) (by decide) (by decide)))).other W12 (Or.inl ne_a_az)).other W18 (Or.inr (slot_ne (Or.inl (hw _ (List.mem_of_getElem? (i := 11) rfl))) (Or.inl (hw _ (List.mem_of_getElem? (i := 35) rfl))) (by decide) (t := (.array .boolean)) (t' := .int) (by decide) (by decide)))).other W21 (Or.inl ne_a_al))
  obtain ⟨T23, X23, e23, st23⟩ := getF X21 hx hZ hown (host := "") (Or.inl (hw _ (List.mem_of_getElem? (i := 10) rfl))) Via.refl e21 f22 (g := (mkF m 107 #[.val (.ref a), .val (.ref ac), .val (.int of1), .val (.int ln1)] [(.ref a)])) rfl rfl (hb hby d13_107)
  refine Go.st st23 ?_
  show Go p e below _ (T23.setTop (mkF m 110 #[.val (.ref a), .val (.ref ac), .val (.int of1), .val (.int ln1)] [(.ref an)]))
  refine Go.st (fun _ kt => XS.aloadN X23.here hx rfl (hb hby d13_110) rfl rfl kt) ?_
  show Go p e below _ (T23.setTop (mkF m 111 #[.val (.ref a), .val (.ref ac), .val (.int of1), .val (.int ln1)] [(.ref a), (.ref an)]))
  refine Go.st (fun _ kt => XS.dup X23.here hx rfl (hb hby d13_111) rfl rfl kt) ?_
  show Go p e below _ (T23.setTop (mkF m 112 #[.val (.ref a), .val (.ref ac), .val (.int of1), .val (.int ln1)] [(.ref a), (.ref a), (.ref an)]))
  have f24 := ((((F_rows.other W2 (Or.inr (slot_ne (Or.inl (hw _ (List.mem_of_getElem? (i := 31) rfl))) (Or.inl (hw _ (List.mem_of_getElem? (i := 37) rfl))) (by decide) (t := .int) (t' := (.array .byte)) (by decide) (by decide)))).other W12 (Or.inl ne_a_az)).other W18 (Or.inr (slot_ne (Or.inl (hw _ (List.mem_of_getElem? (i := 31) rfl))) (Or.inl (hw _ (List.mem_of_getElem? (i := 35) rfl))) (by decide) (t := .int) (t' := .int) (by decide) (by decide)))).other W21 (Or.inl ne_a_al))
  obtain ⟨T25, X25, e25, st25⟩ := getF X23 hx hZ hown (host := "") (Or.inl (hw _ (List.mem_of_getElem? (i := 30) rfl))) Via.refl e23 f24 (g := (mkF m 112 #[.val (.ref a), .val (.ref ac), .val (.int of1), .val (.int ln1)] [(.ref a), (.ref a), (.ref an)])) rfl rfl (hb hby d13_112)
  refine Go.st st25 ?_
  show Go p e below _ (T25.setTop (mkF m 115 #[.val (.ref a), .val (.ref ac), .val (.int of1), .val (.int ln1)] [(.int r), (.ref a), (.ref an)]))
  refine Go.st (fun _ kt => XS.dupX1 X25.here hx rfl (hb hby d13_115) rfl rfl rfl kt) ?_
  show Go p e below _ (T25.setTop (mkF m 116 #[.val (.ref a), .val (.ref ac), .val (.int of1), .val (.int ln1)] [(.int r), (.ref a), (.int r), (.ref an)]))
  refine Go.st (fun _ kt => XS.iconst X25.here hx rfl (hb hby d13_116) kt) ?_
  show Go p e below _ (T25.setTop (mkF m 117 #[.val (.ref a), .val (.ref ac), .val (.int of1), .val (.int ln1)] [(.int (1 : Int32)), (.int r), (.ref a), (.int r), (.ref an)]))
  refine Go.st (fun _ kt => XS.iadd X25.here hx rfl (hb hby d13_117) rfl kt) ?_
  show Go p e below _ (T25.setTop (mkF m 118 #[.val (.ref a), .val (.ref ac), .val (.int of1), .val (.int ln1)] [(.int (r + (1 : Int32))), (.ref a), (.int r), (.ref an)]))
  have f26 := ((f17.wr W18).wr W21)
  obtain ⟨T27, h27, X27, e27, W27, st27⟩ := putF X25 hx hZ hown (host := "") (Or.inl (hw _ (List.mem_of_getElem? (i := 30) rfl))) Via.refl e25 f24 f26 (Or.inl (hw _ (List.mem_of_getElem? (i := 31) rfl))) (hw _ (List.mem_of_getElem? (i := 1) rfl)) (ty := .int) (by decide) rfl rfl (g := (mkF m 118 #[.val (.ref a), .val (.ref ac), .val (.int of1), .val (.int ln1)] [(.int (r + (1 : Int32))), (.ref a), (.int r), (.ref an)])) rfl rfl (hb hby d13_118)
  refine Go.st st27 ?_
  have Fw27 := f24.same W27
  have Zs27 : n0 ≤ h27.size := Nat.le_trans Zs21 (Nat.le_of_eq W27.size.symm)
  have N27 := Fr.snoc X27 N21 gn_a
  show Go p e below _ (T27.setTop (mkF m 121 #[.val (.ref a), .val (.ref ac), .val (.int of1), .val (.int ln1)] [(.int r), (.ref an)]))
  refine Go.st (fun _ kt => XS.iconst X27.here hx rfl (hb hby d13_121) kt) ?_
  show Go p e below _ (T27.setTop (mkF m 122 #[.val (.ref a), .val (.ref ac), .val (.int of1), .val (.int ln1)] [(.int (0 : Int32)), (.int r), (.ref an)]))
  have f28 := (((((A_an.other W2 (Ne.symm ne_a_an)).other W12 ne_an_az).other W18 (Ne.symm ne_a_an)).other W21 ne_an_al).other W27 (Ne.symm ne_a_an))
  obtain ⟨cl29, Ar29, S29, N29', G29⟩ := id f28
  have hin29 : ¬ (r < 0 ∨ cl29.slots.size ≤ (r).toNatClampNeg) := inb_of S29 (own_inb hr)
  obtain ⟨T30, h30, X30, e30, W30, st30⟩ := stZ X27 hx hZ e27 Ar29 (j := r) hin29 (g := (mkF m 122 #[.val (.ref a), .val (.ref ac), .val (.int of1), .val (.int ln1)] [(.int (0 : Int32)), (.int r), (.ref an)])) rfl rfl (hb hby d13_122)
  refine Go.st st30 ?_
  have V30 : AV Z h30 an .boolean nl := AV.set Ar29 S29 N29' G29 (fits_nar_bool _) W30
  have Zs30 : n0 ≤ h30.size := Nat.le_trans Zs27 (Nat.le_of_eq W30.size.symm)
  have N30 := Fr.snoc X30 N27 gn_an
  show Go p e below _ (T30.setTop (mkF m 123 #[.val (.ref a), .val (.ref ac), .val (.int of1), .val (.int ln1)] []))
  have f31 := ((f26.wr W27).wr W30)
  have f32 := ((f22.other W27 (Or.inr (slot_ne (Or.inl (hw _ (List.mem_of_getElem? (i := 11) rfl))) (Or.inl (hw _ (List.mem_of_getElem? (i := 31) rfl))) (by decide) (t := (.array .boolean)) (t' := .int) (by decide) (by decide)))).other W30 (Or.inl ne_a_an))
  have f33 := ((((((F_bits.other W2 (Or.inr (slot_ne (Or.inl (hw _ (List.mem_of_getElem? (i := 14) rfl))) (Or.inl (hw _ (List.mem_of_getElem? (i := 37) rfl))) (by decide) (t := (.array .long)) (t' := (.array .byte)) (by decide) (by decide)))).other W12 (Or.inl ne_a_az)).other W18 (Or.inr (slot_ne (Or.inl (hw _ (List.mem_of_getElem? (i := 14) rfl))) (Or.inl (hw _ (List.mem_of_getElem? (i := 35) rfl))) (by decide) (t := (.array .long)) (t' := .int) (by decide) (by decide)))).other W21 (Or.inl ne_a_al)).other W27 (Or.inr (slot_ne (Or.inl (hw _ (List.mem_of_getElem? (i := 14) rfl))) (Or.inl (hw _ (List.mem_of_getElem? (i := 31) rfl))) (by decide) (t := (.array .long)) (t' := .int) (by decide) (by decide)))).other W30 (Or.inl ne_a_an))
  have f34 := (((((f5.other W12 (Or.inl ne_a_az)).other W18 (Or.inr (slot_ne (Or.inl (hw _ (List.mem_of_getElem? (i := 17) rfl))) (Or.inl (hw _ (List.mem_of_getElem? (i := 35) rfl))) (by decide) (t := (.array .int)) (t' := .int) (by decide) (by decide)))).other W21 (Or.inl ne_a_al)).other W27 (Or.inr (slot_ne (Or.inl (hw _ (List.mem_of_getElem? (i := 17) rfl))) (Or.inl (hw _ (List.mem_of_getElem? (i := 31) rfl))) (by decide) (t := (.array .int)) (t' := .int) (by decide) (by decide)))).other W30 (Or.inl ne_a_an))
  have f35 := ((((f13.other W18 (Or.inr (slot_ne (Or.inl (hw _ (List.mem_of_getElem? (i := 19) rfl))) (Or.inl (hw _ (List.mem_of_getElem? (i := 35) rfl))) (by decide) (t := (.array .int)) (t' := .int) (by decide) (by decide)))).other W21 (Or.inl ne_a_al)).other W27 (Or.inr (slot_ne (Or.inl (hw _ (List.mem_of_getElem? (i := 19) rfl))) (Or.inl (hw _ (List.mem_of_getElem? (i := 31) rfl))) (by decide) (t := (.array .int)) (t' := .int) (by decide) (by decide)))).other W30 (Or.inl ne_a_an))
  have f36 := ((((((F_copies.other W2 (Or.inr (slot_ne (Or.inl (hw _ (List.mem_of_getElem? (i := 24) rfl))) (Or.inl (hw _ (List.mem_of_getElem? (i := 37) rfl))) (by decide) (t := (.array .byte)) (t' := (.array .byte)) (by decide) (by decide)))).other W12 (Or.inl ne_a_az)).other W18 (Or.inr (slot_ne (Or.inl (hw _ (List.mem_of_getElem? (i := 24) rfl))) (Or.inl (hw _ (List.mem_of_getElem? (i := 35) rfl))) (by decide) (t := (.array .byte)) (t' := .int) (by decide) (by decide)))).other W21 (Or.inl ne_a_al)).other W27 (Or.inr (slot_ne (Or.inl (hw _ (List.mem_of_getElem? (i := 24) rfl))) (Or.inl (hw _ (List.mem_of_getElem? (i := 31) rfl))) (by decide) (t := (.array .byte)) (t' := .int) (by decide) (by decide)))).other W30 (Or.inl ne_a_an))
  have f37 := (Fw27.other W30 (Or.inl ne_a_an))
  have f38 := ((((((F_anyNull.other W2 (Or.inr (slot_ne (Or.inl (hw _ (List.mem_of_getElem? (i := 33) rfl))) (Or.inl (hw _ (List.mem_of_getElem? (i := 37) rfl))) (by decide) (t := .boolean) (t' := (.array .byte)) (by decide) (by decide)))).other W12 (Or.inl ne_a_az)).other W18 (Or.inr (slot_ne (Or.inl (hw _ (List.mem_of_getElem? (i := 33) rfl))) (Or.inl (hw _ (List.mem_of_getElem? (i := 35) rfl))) (by decide) (t := .boolean) (t' := .int) (by decide) (by decide)))).other W21 (Or.inl ne_a_al)).other W27 (Or.inr (slot_ne (Or.inl (hw _ (List.mem_of_getElem? (i := 33) rfl))) (Or.inl (hw _ (List.mem_of_getElem? (i := 31) rfl))) (by decide) (t := .boolean) (t' := .int) (by decide) (by decide)))).other W30 (Or.inl ne_a_an))
  have f39 := (((Fw18.other W21 (Or.inl ne_a_al)).other W27 (Or.inr (slot_ne (Or.inl (hw _ (List.mem_of_getElem? (i := 35) rfl))) (Or.inl (hw _ (List.mem_of_getElem? (i := 31) rfl))) (by decide) (t := .int) (t' := .int) (by decide) (by decide)))).other W30 (Or.inl ne_a_an))
  have f40 := (((((Fw2.other W12 (Or.inl ne_a_az)).other W18 (Or.inr (slot_ne (Or.inl (hw _ (List.mem_of_getElem? (i := 37) rfl))) (Or.inl (hw _ (List.mem_of_getElem? (i := 35) rfl))) (by decide) (t := (.array .byte)) (t' := .int) (by decide) (by decide)))).other W21 (Or.inl ne_a_al)).other W27 (Or.inr (slot_ne (Or.inl (hw _ (List.mem_of_getElem? (i := 37) rfl))) (Or.inl (hw _ (List.mem_of_getElem? (i := 31) rfl))) (by decide) (t := (.array .byte)) (t' := .int) (by decide) (by decide)))).other W30 (Or.inl ne_a_an))
  have f41 := ((((((F_dictionary.other W2 (Or.inr (slot_ne (Or.inl (hw _ (List.mem_of_getElem? (i := 39) rfl))) (Or.inl (hw _ (List.mem_of_getElem? (i := 37) rfl))) (by decide) (t := (.object "com/example/rowsieve/rowsieve/grouping/ValueDictionary")) (t' := (.array .byte)) (by decide) (by decide)))).other W12 (Or.inl ne_a_az)).other W18 (Or.inr (slot_ne (Or.inl (hw _ (List.mem_of_getElem? (i := 39) rfl))) (Or.inl (hw _ (List.mem_of_getElem? (i := 35) rfl))) (by decide) (t := (.object "com/example/rowsieve/rowsieve/grouping/ValueDictionary")) (t' := .int) (by decide) (by decide)))).other W21 (Or.inl ne_a_al)).other W27 (Or.inr (slot_ne (Or.inl (hw _ (List.mem_of_getElem? (i := 39) rfl))) (Or.inl (hw _ (List.mem_of_getElem? (i := 31) rfl))) (by decide) (t := (.object "com/example/rowsieve/rowsieve/grouping/ValueDictionary")) (t' := .int) (by decide) (by decide)))).other W30 (Or.inl ne_a_an))
  have f42 := ((((((F_copiesEnd.other W2 (Or.inr (slot_ne (Or.inl (hw _ (List.mem_of_getElem? (i := 41) rfl))) (Or.inl (hw _ (List.mem_of_getElem? (i := 37) rfl))) (by decide) (t := .int) (t' := (.array .byte)) (by decide) (by decide)))).other W12 (Or.inl ne_a_az)).other W18 (Or.inr (slot_ne (Or.inl (hw _ (List.mem_of_getElem? (i := 41) rfl))) (Or.inl (hw _ (List.mem_of_getElem? (i := 35) rfl))) (by decide) (t := .int) (t' := .int) (by decide) (by decide)))).other W21 (Or.inl ne_a_al)).other W27 (Or.inr (slot_ne (Or.inl (hw _ (List.mem_of_getElem? (i := 41) rfl))) (Or.inl (hw _ (List.mem_of_getElem? (i := 31) rfl))) (by decide) (t := .int) (t' := .int) (by decide) (by decide)))).other W30 (Or.inl ne_a_an))
  have f43 := ((((((A_ab.other W2 (Ne.symm ne_a_ab)).other W12 ne_ab_az).other W18 (Ne.symm ne_a_ab)).other W21 ne_ab_al).other W27 (Ne.symm ne_a_ab)).other W30 (Ne.symm ne_an_ab))
  have f44 := ((((V12.other W18 (Ne.symm ne_a_az)).other W21 ne_az_al).other W27 (Ne.symm ne_a_az)).other W30 (Ne.symm ne_an_az))
  have f45 := ((V21.other W27 (Ne.symm ne_a_al)).other W30 (Ne.symm ne_an_al))
  have f46 := ((((((A_ac.other W2 (Ne.symm ne_a_ac)).other W12 (Ne.symm ne_az_ac)).other W18 (Ne.symm ne_a_ac)).other W21 (Ne.symm ne_al_ac)).other W27 (Ne.symm ne_a_ac)).other W30 (Ne.symm ne_an_ac))
  have f47 := ((((((A_sr.other W2 (Ne.symm ne_a_sr)).other W12 (Ne.symm ne_az_sr)).other W18 (Ne.symm ne_a_sr)).other W21 (Ne.symm ne_al_sr)).other W27 (Ne.symm ne_a_sr)).other W30 (Ne.symm ne_an_sr))
  refine Go.retV X30 hx Bd.returns (BodyLoose.notSynchronized Bd) (hb hby d13_123) (Q := (Q_rm13 Z a ac of1 ln1 an ab az al sr nl bl r cq ce h0 n0)) (by decide) (by decide) ?_
  show (Q_rm13 Z a ac of1 ln1 an ab az al sr nl bl r cq ce h0 n0) _ T30.heap _
  rw [e30]
  exact ⟨rfl, N30, ⟨f31, f32, f33, f34, f35, f36, f37, ⟨_, f38⟩, f39, ⟨_, f40⟩, ⟨_, f41⟩, f42, V30, f43, f44, f45, f46, f47, gn_a, gn_an, gn_ab, gn_az, gn_al, gn_ac, ne_a_an, ne_a_ab, ne_a_az, ne_a_al, ne_a_ac, ne_a_sr, ne_an_ab, ne_an_az, ne_an_al, ne_an_ac, ne_an_sr, ne_ab_az, ne_ab_al, ne_ab_ac, ne_ab_sr, ne_az_al, ne_az_ac, ne_az_sr, ne_al_ac, ne_al_sr, ne_ac_sr⟩⟩
theorem own_le64 {x : Int32} (h : 0 ≤ x.toInt ∧ x.toInt ≤ 7) : ¬ (64 : Int32) < x := by
  have e : (64 : Int32).toInt = 64 := by decide
  rw [Int32.lt_iff_toInt_lt]; omega
theorem own_cp {x : Int32} (h : 0 ≤ x.toInt ∧ x.toInt ≤ 7) : ¬ x < 0 ∧ (0 : Int32).toNatClampNeg + x.toNatClampNeg ≤ (8 : Int32).toNatClampNeg ∧ (0 : Int32).toNatClampNeg + x.toNatClampNeg ≤ (64 : Int32).toNatClampNeg := by
  have hln := own_nat h.1
  have e8 : (8 : Int32).toNatClampNeg = 8 := by decide
  have e0 : (0 : Int32).toNatClampNeg = 0 := by decide
  have e64 : (64 : Int32).toNatClampNeg = 64 := by decide
  exact ⟨own_nlt h.1, by omega, by omega⟩
theorem d11_0 : decode prog_13_method_13_code 0 = .ok (.iload_n 1, 1) := by decide +kernel
theorem d11_1 : decode prog_13_method_13_code 1 = .ok (.aload_n 0, 1) := by decide +kernel
theorem d11_2 : decode prog_13_method_13_code 2 = .ok (.getfield 27, 3) := by decide +kernel
theorem d11_5 : decode prog_13_method_13_code 5 = .ok (.arraylength, 1) := by decide +kernel
theorem d11_6 : decode prog_13_method_13_code 6 = .ok (.aload_n 0, 1) := by decide +kernel
theorem d11_7 : decode prog_13_method_13_code 7 = .ok (.getfield 49, 3) := by decide +kernel
theorem d11_10 : decode prog_13_method_13_code 10 = .ok (.isub, 1) := by decide +kernel
theorem d11_11 : decode prog_13_method_13_code 11 = .ok (.if_icmp .le 49, 3) := by decide +kernel
theorem d11_60 : decode prog_13_method_13_code 60 = .ok (.aload_n 0, 1) := by decide +kernel
theorem d11_61 : decode prog_13_method_13_code 61 = .ok (.getfield 27, 3) := by decide +kernel
theorem d11_64 : decode prog_13_method_13_code 64 = .ok (.areturn, 1) := by decide +kernel
def Q_rm11 (Z : State) (a : Addr) (ln1 : Int32) (an : Addr) (ab : Addr) (az : Addr) (al : Addr) (ac : Addr) (sr : Addr) (nl : Int32) (bl : Int32) (r : Int32) (cq : Int32) (ce : Int32) (h0 : Heap) (n0 : Nat) (v : Option Value) (h : Heap) (L : List Loc) : Prop := v = some (.ref ac) ∧ Fr n0 L ∧ h = h0
theorem ef_rm11 (m : MethodId) (a : Addr) (ln1 : Int32) : entryFrame m #[(.ref a), (.int ln1)] 2 = mkF m 0 #[.val (.ref a), .val (.int ln1)] [] := by first | (simp [entryFrame, mkF, argsToLocals, Value.category]; done) | rfl
set_option maxRecDepth 65536 in
set_option maxHeartbeats 40000000 in
theorem rm11 (l : Launch) (Z : State) (a0 : Array Value) (hw : ∀ d ∈ tables_1, d.before a0 Z = true) (ws : List Jvm.Cond) (a : Addr) (ln1 : Int32) (an : Addr) (ab : Addr) (az : Addr) (al : Addr) (ac : Addr) (sr : Addr) (nl : Int32) (bl : Int32) (r : Int32) (cq : Int32) (ce : Int32) (h0 : Heap) (n0 : Nat) (Z0 : n0 ≤ h0.size) (P : PV Z n0 h0 a an ab az al ac sr nl bl r cq (0 : Int32)) (hl : 0 ≤ ln1.toInt ∧ ln1.toInt ≤ 7) :
    MetFree l (⟨"com/example/rowsieve/rowsieve/data/PageValues", "copyRoom", "(I)[B"⟩ : MethodName) (head1 (Jvm.Cond.code (⟨"com/example/rowsieve/rowsieve/data/PageValues", "copyRoom", "(I)[B"⟩ : MethodName) prog_13_method_13_code 2 (some (.array .byte)) :: ws) ({ frames := 0, cells := 0, slots := 0, locals := 0 } : Room)) (fun ag_ U_ => ag_ = #[(.ref a), (.int ln1)] ∧ Z.Warmed39 U_.vm ∧ U_.heap = h0) (fun _ _ _ _ _ => True) (fun _ U_ o_ V_ => ∃ v_ L_, o_ = .returned v_ ∧ (Q_rm11 Z a ln1 an ab az al ac sr nl bl r cq ce h0 n0) v_ V_.heap L_ ∧ FrameEnd U_ o_ V_ L_ ({ frames := 0, cells := 0, slots := 0, locals := 0 } : Room).cells ({ frames := 0, cells := 0, slots := 0, locals := 0 } : Room).slots) := by
  refine MetFree.of_bodySF (plainFor_of_name own_pn3) hisR ?_
  intro p e s m args below meth c s₁ Bd hml0 hP hK
  obtain ⟨rfl, hZ, hh⟩ := hP
  have hx := Bd.exec
  have hby := Bd.bytes
  have hml : c.maxLocals = 2 := hml0
  have hown : s.vm.findClass "com/example/rowsieve/rowsieve/data/PageValues" = some m.cls := findClass_of_methodNamed Bd.named
  have hnm := (name_of_methodNamed Bd.named Bd.method).1
  have X0 : Stand p l e ({ frames := 0, cells := 0, slots := 0, locals := 0 } : Room) s m #[(.ref a), (.int ln1)] below meth c s₁ [] 0 0 := Stand.of_body Bd
  have e0 : s₁.heap = h0 := by rw [← hh, Bd.state]; rfl
  have N0 := Fr.nil n0
  refine Go.st (G := fun s₂ o_ => ∃ v_ L_, o_ = .returned v_ ∧ (Q_rm11 Z a ln1 an ab az al ac sr nl bl r cq ce h0 n0) v_ s₂.heap L_ ∧ FrameEnd s o_ s₂ L_ ({ frames := 0, cells := 0, slots := 0, locals := 0 } : Room).cells ({ frames := 0, cells := 0, slots := 0, locals := 0 } : Room).slots) (fun t kt => castTop (ef_rm11 m a ln1) kt) ?_
  obtain ⟨E_a, F_nulls, F_bits, F_starts, F_lengths, F_copies, F_rows, ⟨u1, F_anyNull⟩, F_count, ⟨u2, F_bytes⟩, ⟨u3, F_dictionary⟩, F_copiesEnd, A_an, A_ab, A_az, A_al, A_ac, A_sr, gn_a, gn_an, gn_ab, gn_az, gn_al, gn_ac, ne_a_an, ne_a_ab, ne_a_az, ne_a_al, ne_a_ac, ne_a_sr, ne_an_ab, ne_an_az, ne_an_al, ne_an_ac, ne_an_sr, ne_ab_az, ne_ab_al, ne_ab_ac, ne_ab_sr, ne_az_al, ne_az_ac, ne_az_sr, ne_al_ac, ne_al_sr, ne_ac_sr⟩ := P
  show Go p e below _ (s₁.setTop (mkF m 0 #[.val (.ref a), .val (.int ln1)] []))
  refine Go.st (fun _ kt => XS.iloadN X0.here hx rfl (hb hby d11_0) rfl kt) ?_
  show Go p e below _ (s₁.setTop (mkF m 1 #[.val (.ref a), .val (.int ln1)] [(.int ln1)]))
  refine Go.st (fun _ kt => XS.aloadN X0.here hx rfl (hb hby d11_1) rfl rfl kt) ?_
  show Go p e below _ (s₁.setTop (mkF m 2 #[.val (.ref a), .val (.int ln1)] [(.ref a), (.int ln1)]))
  obtain ⟨T1, X1, e1, st1⟩ := getF X0 hx hZ hown (host := "") (Or.inl (hw _ (List.mem_of_getElem? (i := 23) rfl))) Via.refl e0 F_copies (g := (mkF m 2 #[.val (.ref a), .val (.int ln1)] [(.ref a), (.int ln1)])) rfl rfl (hb hby d11_2)
  refine Go.st st1 ?_
  show Go p e below _ (T1.setTop (mkF m 5 #[.val (.ref a), .val (.int ln1)] [(.ref ac), (.int ln1)]))
  obtain ⟨cl2, Ar2, S2, N2', -⟩ := id A_ac
  refine Go.st (fun _ kt => X1.arraylength hx (by rw [e1]; exact Ar2.1) (State.isArrayOf_alike hZ.alike Ar2.2.1) (g := (mkF m 5 #[.val (.ref a), .val (.int ln1)] [(.ref ac), (.int ln1)])) rfl rfl (hb hby d11_5) _ kt) ?_
  rw [len_of S2 N2']
  show Go p e below _ (T1.setTop (mkF m 6 #[.val (.ref a), .val (.int ln1)] [(.int (64 : Int32)), (.int ln1)]))
  refine Go.st (fun _ kt => XS.aloadN X1.here hx rfl (hb hby d11_6) rfl rfl kt) ?_
  show Go p e below _ (T1.setTop (mkF m 7 #[.val (.ref a), .val (.int ln1)] [(.ref a), (.int (64 : Int32)), (.int ln1)]))
  obtain ⟨T3, X3, e3, st3⟩ := getF X1 hx hZ hown (host := "") (Or.inl (hw _ (List.mem_of_getElem? (i := 40) rfl))) Via.refl e1 F_copiesEnd (g := (mkF m 7 #[.val (.ref a), .val (.int ln1)] [(.ref a), (.int (64 : Int32)), (.int ln1)])) rfl rfl (hb hby d11_7)
  refine Go.st st3 ?_
  show Go p e below _ (T3.setTop (mkF m 10 #[.val (.ref a), .val (.int ln1)] [(.int (0 : Int32)), (.int (64 : Int32)), (.int ln1)]))
  refine Go.st (fun _ kt => XS.isub X3.here hx rfl (hb hby d11_10) rfl kt) ?_
  show Go p e below _ (T3.setTop (mkF m 11 #[.val (.ref a), .val (.int ln1)] [(.int (64 : Int32)), (.int ln1)]))
  refine Go.st (fun _ kt => XS.icmpYes X3.here hx rfl (pc0 := 11) (pc' := 60) rfl (hb hby d11_11) rfl (flt (own_le64 hl)).2.2.2 (by decide) (by decide) kt) ?_
  show Go p e below _ (T3.setTop (mkF m 60 #[.val (.ref a), .val (.int ln1)] []))
  refine Go.st (fun _ kt => XS.aloadN X3.here hx rfl (hb hby d11_60) rfl rfl kt) ?_
  show Go p e below _ (T3.setTop (mkF m 61 #[.val (.ref a), .val (.int ln1)] [(.ref a)]))
  obtain ⟨T4, X4, e4, st4⟩ := getF X3 hx hZ hown (host := "") (Or.inl (hw _ (List.mem_of_getElem? (i := 23) rfl))) Via.refl e3 F_copies (g := (mkF m 61 #[.val (.ref a), .val (.int ln1)] [(.ref a)])) rfl rfl (hb hby d11_61)
  refine Go.st st4 ?_
  show Go p e below _ (T4.setTop (mkF m 64 #[.val (.ref a), .val (.int ln1)] [(.ref ac)]))
  refine Go.retA X4 hx Bd.returns rfl rfl (BodyLoose.notSynchronized Bd) (hb hby d11_64) (Q := (Q_rm11 Z a ln1 an ab az al ac sr nl bl r cq ce h0 n0)) (by decide) (by decide) ?_
  show (Q_rm11 Z a ln1 an ab az al ac sr nl bl r cq ce h0 n0) _ T4.heap _
  rw [e4]
  exact ⟨rfl, N0, rfl⟩
theorem own_pd6 : parseMethodDescriptor "([BII)V" = some ⟨[(.array .byte), .int, .int], none⟩ := by decide +kernel
theorem d12_0 : decode prog_13_method_14_code 0 = .ok (.aload_n 0, 1) := by decide +kernel
theorem d12_1 : decode prog_13_method_14_code 1 = .ok (.aload_n 0, 1) := by decide +kernel
theorem d12_2 : decode prog_13_method_14_code 2 = .ok (.getfield 27, 3) := by decide +kernel
theorem d12_5 : decode prog_13_method_14_code 5 = .ok (.aload_n 0, 1) := by decide +kernel
theorem d12_6 : decode prog_13_method_14_code 6 = .ok (.getfield 49, 3) := by decide +kernel
theorem d12_9 : decode prog_13_method_14_code 9 = .ok (.iload_n 1, 1) := by decide +kernel
theorem d12_10 : decode prog_13_method_14_code 10 = .ok (.invokevirtual 109, 3) := by decide +kernel
theorem d12_13 : decode prog_13_method_14_code 13 = .ok (.aload_n 0, 1) := by decide +kernel
theorem d12_14 : decode prog_13_method_14_code 14 = .ok (.dup, 1) := by decide +kernel
theorem d12_15 : decode prog_13_method_14_code 15 = .ok (.getfield 49, 3) := by decide +kernel
theorem d12_18 : decode prog_13_method_14_code 18 = .ok (.iload_n 1, 1) := by decide +kernel
theorem d12_19 : decode prog_13_method_14_code 19 = .ok (.iadd, 1) := by decide +kernel
theorem d12_20 : decode prog_13_method_14_code 20 = .ok (.putfield 49, 3) := by decide +kernel
theorem d12_23 : decode prog_13_method_14_code 23 = .ok (.return_, 1) := by decide +kernel
def Q_rm12 (Z : State) (a : Addr) (ln1 : Int32) (an : Addr) (ab : Addr) (az : Addr) (al : Addr) (ac : Addr) (sr : Addr) (nl : Int32) (bl : Int32) (r : Int32) (cq : Int32) (ce : Int32) (h0 : Heap) (n0 : Nat) (v : Option Value) (h : Heap) (L : List Loc) : Prop := v = none ∧ Fr n0 L ∧ PV Z n0 h a an ab az al ac sr nl bl (r + (1 : Int32)) (1 : Int32) ((0 : Int32) + ln1)
theorem ef_rm12 (m : MethodId) (a : Addr) (ln1 : Int32) : entryFrame m #[(.ref a), (.int ln1)] 2 = mkF m 0 #[.val (.ref a), .val (.int ln1)] [] := by first | (simp [entryFrame, mkF, argsToLocals, Value.category]; done) | rfl
set_option maxRecDepth 65536 in
set_option maxHeartbeats 40000000 in
theorem rm12 (l : Launch) (Z : State) (a0 : Array Value) (hw : ∀ d ∈ tables_1, d.before a0 Z = true) (ws : List Jvm.Cond) (a : Addr) (ln1 : Int32) (an : Addr) (ab : Addr) (az : Addr) (al : Addr) (ac : Addr) (sr : Addr) (nl : Int32) (bl : Int32) (r : Int32) (cq : Int32) (ce : Int32) (h0 : Heap) (n0 : Nat) (Z0 : n0 ≤ h0.size) (P : PV Z n0 h0 a an ab az al ac sr nl bl r (0 : Int32) (0 : Int32)) (hr : 0 ≤ r.toInt ∧ r.toInt < nl.toInt) :
    MetFree l (⟨"com/example/rowsieve/rowsieve/data/PageValues", "addCopied", "(I)V"⟩ : MethodName) (head1 (Jvm.Cond.code (⟨"com/example/rowsieve/rowsieve/data/PageValues", "addCopied", "(I)V"⟩ : MethodName) prog_13_method_14_code 2 none :: ws) ({ frames := 1, cells := 0, slots := 0, locals := 15 } : Room)) (fun ag_ U_ => ag_ = #[(.ref a), (.int ln1)] ∧ Z.Warmed39 U_.vm ∧ U_.heap = h0) (fun _ _ _ _ _ => True) (fun _ U_ o_ V_ => ∃ v_ L_, o_ = .returned v_ ∧ (Q_rm12 Z a ln1 an ab az al ac sr nl bl r cq ce h0 n0) v_ V_.heap L_ ∧ FrameEnd U_ o_ V_ L_ ({ frames := 1, cells := 0, slots := 0, locals := 15 } : Room).cells ({ frames := 1, cells := 0, slots := 0, locals := 15 } : Room).slots) := by
  refine MetFree.of_bodySF (plainFor_of_name own_pn3) hisR ?_
  intro p e s m args below meth c s₁ Bd hml0 hP hK
  obtain ⟨rfl, hZ, hh⟩ := hP
  have hx := Bd.exec
  have hby := Bd.bytes
  have hml : c.maxLocals = 2 := hml0
  have hown : s.vm.findClass "com/example/rowsieve/rowsieve/data/PageValues" = some m.cls := findClass_of_methodNamed Bd.named
  have hnm := (name_of_methodNamed Bd.named Bd.method).1
  have X0 : Stand p l e ({ frames := 1, cells := 0, slots := 0, locals := 15 } : Room) s m #[(.ref a), (.int ln1)] below meth c s₁ [] 0 0 := Stand.of_body Bd
  have e0 : s₁.heap = h0 := by rw [← hh, Bd.state]; rfl
  have N0 := Fr.nil n0
  refine Go.st (G := fun s₂ o_ => ∃ v_ L_, o_ = .returned v_ ∧ (Q_rm12 Z a ln1 an ab az al ac sr nl bl r cq ce h0 n0) v_ s₂.heap L_ ∧ FrameEnd s o_ s₂ L_ ({ frames := 1, cells := 0, slots := 0, locals := 15 } : Room).cells ({ frames := 1, cells := 0, slots := 0, locals := 15 } : Room).slots) (fun t kt => castTop (ef_rm12 m a ln1) kt) ?_
  obtain ⟨E_a, F_nulls, F_bits, F_starts, F_lengths, F_copies, F_rows, ⟨u1, F_anyNull⟩, F_count, ⟨u2, F_bytes⟩, ⟨u3, F_dictionary⟩, F_copiesEnd, A_an, A_ab, A_az, A_al, A_ac, A_sr, gn_a, gn_an, gn_ab, gn_az, gn_al, gn_ac, ne_a_an, ne_a_ab, ne_a_az, ne_a_al, ne_a_ac, ne_a_sr, ne_an_ab, ne_an_az, ne_an_al, ne_an_ac, ne_an_sr, ne_ab_az, ne_ab_al, ne_ab_ac, ne_ab_sr, ne_az_al, ne_az_ac, ne_az_sr, ne_al_ac, ne_al_sr, ne_ac_sr⟩ := P
  show Go p e below _ (s₁.setTop (mkF m 0 #[.val (.ref a), .val (.int ln1)] []))
  refine Go.st (fun _ kt => XS.aloadN X0.here hx rfl (hb hby d12_0) rfl rfl kt) ?_
  show Go p e below _ (s₁.setTop (mkF m 1 #[.val (.ref a), .val (.int ln1)] [(.ref a)]))
  refine Go.st (fun _ kt => XS.aloadN X0.here hx rfl (hb hby d12_1) rfl rfl kt) ?_
  show Go p e below _ (s₁.setTop (mkF m 2 #[.val (.ref a), .val (.int ln1)] [(.ref a), (.ref a)]))
  obtain ⟨T1, X1, e1, st1⟩ := getF X0 hx hZ hown (host := "") (Or.inl (hw _ (List.mem_of_getElem? (i := 23) rfl))) Via.refl e0 F_copies (g := (mkF m 2 #[.val (.ref a), .val (.int ln1)] [(.ref a), (.ref a)])) rfl rfl (hb hby d12_2)
  refine Go.st st1 ?_
  show Go p e below _ (T1.setTop (mkF m 5 #[.val (.ref a), .val (.int ln1)] [(.ref ac), (.ref a)]))
  refine Go.st (fun _ kt => XS.aloadN X1.here hx rfl (hb hby d12_5) rfl rfl kt) ?_
  show Go p e below _ (T1.setTop (mkF m 6 #[.val (.ref a), .val (.int ln1)] [(.ref a), (.ref ac), (.ref a)]))
  obtain ⟨T2, X2, e2, st2⟩ := getF X1 hx hZ hown (host := "") (Or.inl (hw _ (List.mem_of_getElem? (i := 40) rfl))) Via.refl e1 F_copiesEnd (g := (mkF m 6 #[.val (.ref a), .val (.int ln1)] [(.ref a), (.ref ac), (.ref a)])) rfl rfl (hb hby d12_6)
  refine Go.st st2 ?_
  show Go p e below _ (T2.setTop (mkF m 9 #[.val (.ref a), .val (.int ln1)] [(.int (0 : Int32)), (.ref ac), (.ref a)]))
  refine Go.st (fun _ kt => XS.iloadN X2.here hx rfl (hb hby d12_9) rfl kt) ?_
  show Go p e below _ (T2.setTop (mkF m 10 #[.val (.ref a), .val (.int ln1)] [(.int ln1), (.int (0 : Int32)), (.ref ac), (.ref a)]))
  have P1 : PV Z n0 h0 a an ab az al ac sr nl bl r (0 : Int32) (0 : Int32) := ⟨E_a, F_nulls, F_bits, F_starts, F_lengths, F_copies, F_rows, ⟨_, F_anyNull⟩, F_count, ⟨_, F_bytes⟩, ⟨_, F_dictionary⟩, F_copiesEnd, A_an, A_ab, A_az, A_al, A_ac, A_sr, gn_a, gn_an, gn_ab, gn_az, gn_al, gn_ac, ne_a_an, ne_a_ab, ne_a_az, ne_a_al, ne_a_ac, ne_a_sr, ne_an_ab, ne_an_az, ne_an_al, ne_an_ac, ne_an_sr, ne_ab_az, ne_ab_al, ne_ab_ac, ne_ab_sr, ne_az_al, ne_az_ac, ne_az_sr, ne_al_ac, ne_al_sr, ne_ac_sr⟩
  obtain ⟨cq3, kq3, q3a, q3b, q3c⟩ := isOf hZ e2 E_a
  obtain ⟨_, _, ⟨T3, L3, k3, n3⟩, -, X3, ⟨Lc3, hQ3, l3, y3, z3⟩, st3⟩ := X2.virtualBack hx (y := (⟨"com/example/rowsieve/rowsieve/data/PageValues", "addInPlace", "([BII)V"⟩ : MethodName)) (z := (⟨"com/example/rowsieve/rowsieve/data/PageValues", "addInPlace", "([BII)V"⟩ : MethodName)) hown (mvT hZ (hw _ (List.mem_of_getElem? (i := 86) rfl))) (mvT hZ (hw _ (List.mem_of_getElem? (i := 87) rfl))) (notFace_of_selects (args := #[]) (mvT hZ (hw _ (List.mem_of_getElem? (i := 89) rfl)))) (mvT hZ (hw _ (List.mem_of_getElem? (i := 89) rfl))) (mvT hZ (hw _ (List.mem_of_getElem? (i := 88) rfl))) (by decide) (backOf (W := 0) (rm13 l Z a0 hw [] a ac (0 : Int32) ln1 an ab az al sr nl bl r (0 : Int32) (0 : Int32) h0 n0 Z0 P1 hr) hZ (hw _ (List.mem_of_getElem? (i := 90) rfl)) (hw _ (List.mem_of_getElem? (i := 2) rfl)) (by decide) (by decide)) q3a q3c (g := (mkF m 10 #[.val (.ref a), .val (.int ln1)] [(.int ln1), (.int (0 : Int32)), (.ref ac), (.ref a)])) rfl (by rw [hml]; rfl) (Steps.refl _) (argsL := [(.ref ac), (.int (0 : Int32)), (.int ln1)]) (rest := []) (lenOf own_pd6 rfl) rfl (by show 2 * 0 + _ ≤ _; exact Nat.le_of_eq rfl) (hb hby d12_10) (fun _ _ => ⟨rfl, e2, (by decide : 0 + 0 ≤ _), (by decide : 0 + 0 ≤ _)⟩)
  dsimp only [Pt.U, Pt.locs, Pt.cells, Pt.slots] at X3 l3 y3 z3 st3 hQ3
  subst l3 y3 z3
  obtain ⟨rfl, N3q, ⟨E_a3, F_nulls3, F_bits3, F_starts3, F_lengths3, F_copies3, F_rows3, ⟨u13, F_anyNull3⟩, F_count3, ⟨u23, F_bytes3⟩, ⟨u33, F_dictionary3⟩, F_copiesEnd3, A_an3, A_ab3, A_az3, A_al3, A_ac3, A_sr3, gn_a3, gn_an3, gn_ab3, gn_az3, gn_al3, gn_ac3, ne_a_an3, ne_a_ab3, ne_a_az3, ne_a_al3, ne_a_ac3, ne_a_sr3, ne_an_ab3, ne_an_az3, ne_an_al3, ne_an_ac3, ne_an_sr3, ne_ab_az3, ne_ab_al3, ne_ab_ac3, ne_ab_sr3, ne_az_al3, ne_az_ac3, ne_az_sr3, ne_al_ac3, ne_al_sr3, ne_ac_sr3⟩⟩ := hQ3
  have gnx := gn_a3
  have gn_a := gn_a3
  have gn_an := gn_an3
  have gn_ab := gn_ab3
  have gn_az := gn_az3
  have gn_al := gn_al3
  have gn_ac := gn_ac3
  have Zs3 : n0 ≤ T3.heap.size := Nat.le_trans gn_a3 (Nat.le_of_lt E_a3.lt)
  have N3 := Fr.app N0 N3q
  refine Go.tr st3 ?_
  show Go p e below _ (T3.setTop (mkF m 13 #[.val (.ref a), .val (.int ln1)] []))
  refine Go.st (fun _ kt => XS.aloadN X3.here hx rfl (hb hby d12_13) rfl rfl kt) ?_
  show Go p e below _ (T3.setTop (mkF m 14 #[.val (.ref a), .val (.int ln1)] [(.ref a)]))
  refine Go.st (fun _ kt => XS.dup X3.here hx rfl (hb hby d12_14) rfl rfl kt) ?_
  show Go p e below _ (T3.setTop (mkF m 15 #[.val (.ref a), .val (.int ln1)] [(.ref a), (.ref a)]))
  obtain ⟨T4, X4, e4, st4⟩ := getF X3 hx hZ hown (host := "") (Or.inl (hw _ (List.mem_of_getElem? (i := 40) rfl))) Via.refl rfl F_copiesEnd3 (g := (mkF m 15 #[.val (.ref a), .val (.int ln1)] [(.ref a), (.ref a)])) rfl rfl (hb hby d12_15)
  refine Go.st st4 ?_
  show Go p e below _ (T4.setTop (mkF m 18 #[.val (.ref a), .val (.int ln1)] [(.int (0 : Int32)), (.ref a)]))
  refine Go.st (fun _ kt => XS.iloadN X4.here hx rfl (hb hby d12_18) rfl kt) ?_
  show Go p e below _ (T4.setTop (mkF m 19 #[.val (.ref a), .val (.int ln1)] [(.int ln1), (.int (0 : Int32)), (.ref a)]))
  refine Go.st (fun _ kt => XS.iadd X4.here hx rfl (hb hby d12_19) rfl kt) ?_
  show Go p e below _ (T4.setTop (mkF m 20 #[.val (.ref a), .val (.int ln1)] [(.int ((0 : Int32) + ln1)), (.ref a)]))
  obtain ⟨T5, h5, X5, e5, W5, st5⟩ := putF X4 hx hZ hown (host := "") (Or.inl (hw _ (List.mem_of_getElem? (i := 40) rfl))) Via.refl e4 F_copiesEnd3 E_a3 (Or.inl (hw _ (List.mem_of_getElem? (i := 41) rfl))) (hw _ (List.mem_of_getElem? (i := 1) rfl)) (ty := .int) (by decide) rfl rfl (g := (mkF m 20 #[.val (.ref a), .val (.int ln1)] [(.int ((0 : Int32) + ln1)), (.ref a)])) rfl rfl (hb hby d12_20)
  refine Go.st st5 ?_
  have Fw5 := F_copiesEnd3.same W5
  have Zs5 : n0 ≤ h5.size := Nat.le_trans Zs3 (Nat.le_of_eq W5.size.symm)
  have N5 := Fr.snoc X5 N3 gn_a
  show Go p e below _ (T5.setTop (mkF m 23 #[.val (.ref a), .val (.int ln1)] []))
  have f6 := (E_a3.wr W5)
  have f7 := (F_nulls3.other W5 (Or.inr (slot_ne (Or.inl (hw _ (List.mem_of_getElem? (i := 11) rfl))) (Or.inl (hw _ (List.mem_of_getElem? (i := 41) rfl))) (by decide) (t := (.array .boolean)) (t' := .int) (by decide) (by decide))))
  have f8 := (F_bits3.other W5 (Or.inr (slot_ne (Or.inl (hw _ (List.mem_of_getElem? (i := 14) rfl))) (Or.inl (hw _ (List.mem_of_getElem? (i := 41) rfl))) (by decide) (t := (.array .long)) (t' := .int) (by decide) (by decide))))
  have f9 := (F_starts3.other W5 (Or.inr (slot_ne (Or.inl (hw _ (List.mem_of_getElem? (i := 17) rfl))) (Or.inl (hw _ (List.mem_of_getElem? (i := 41) rfl))) (by decide) (t := (.array .int)) (t' := .int) (by decide) (by decide))))
  have f10 := (F_lengths3.other W5 (Or.inr (slot_ne (Or.inl (hw _ (List.mem_of_getElem? (i := 19) rfl))) (Or.inl (hw _ (List.mem_of_getElem? (i := 41) rfl))) (by decide) (t := (.array .int)) (t' := .int) (by decide) (by decide))))
  have f11 := (F_copies3.other W5 (Or.inr (slot_ne (Or.inl (hw _ (List.mem_of_getElem? (i := 24) rfl))) (Or.inl (hw _ (List.mem_of_getElem? (i := 41) rfl))) (by decide) (t := (.array .byte)) (t' := .int) (by decide) (by decide))))
  have f12 := (F_rows3.other W5 (Or.inr (slot_ne (Or.inl (hw _ (List.mem_of_getElem? (i := 31) rfl))) (Or.inl (hw _ (List.mem_of_getElem? (i := 41) rfl))) (by decide) (t := .int) (t' := .int) (by decide) (by decide))))
  have f13 := (F_anyNull3.other W5 (Or.inr (slot_ne (Or.inl (hw _ (List.mem_of_getElem? (i := 33) rfl))) (Or.inl (hw _ (List.mem_of_getElem? (i := 41) rfl))) (by decide) (t := .boolean) (t' := .int) (by decide) (by decide))))
  have f14 := (F_count3.other W5 (Or.inr (slot_ne (Or.inl (hw _ (List.mem_of_getElem? (i := 35) rfl))) (Or.inl (hw _ (List.mem_of_getElem? (i := 41) rfl))) (by decide) (t := .int) (t' := .int) (by decide) (by decide))))
  have f15 := (F_bytes3.other W5 (Or.inr (slot_ne (Or.inl (hw _ (List.mem_of_getElem? (i := 37) rfl))) (Or.inl (hw _ (List.mem_of_getElem? (i := 41) rfl))) (by decide) (t := (.array .byte)) (t' := .int) (by decide) (by decide))))
  have f16 := (F_dictionary3.other W5 (Or.inr (slot_ne (Or.inl (hw _ (List.mem_of_getElem? (i := 39) rfl))) (Or.inl (hw _ (List.mem_of_getElem? (i := 41) rfl))) (by decide) (t := (.object "com/example/rowsieve/rowsieve/grouping/ValueDictionary")) (t' := .int) (by decide) (by decide))))
  have f17 := (A_an3.other W5 (Ne.symm ne_a_an3))
  have f18 := (A_ab3.other W5 (Ne.symm ne_a_ab3))
  have f19 := (A_az3.other W5 (Ne.symm ne_a_az3))
  have f20 := (A_al3.other W5 (Ne.symm ne_a_al3))
  have f21 := (A_ac3.other W5 (Ne.symm ne_a_ac3))
  have f22 := (A_sr3.other W5 (Ne.symm ne_a_sr3))
  refine Go.retV X5 hx Bd.returns (BodyLoose.notSynchronized Bd) (hb hby d12_23) (Q := (Q_rm12 Z a ln1 an ab az al ac sr nl bl r cq ce h0 n0)) (by decide) (by decide) ?_
  show (Q_rm12 Z a ln1 an ab az al ac sr nl bl r cq ce h0 n0) _ T5.heap _
  rw [e5]
  exact ⟨rfl, N5, ⟨f6, f7, f8, f9, f10, f11, f12, ⟨_, f13⟩, f14, ⟨_, f15⟩, ⟨_, f16⟩, Fw5, f17, f18, f19, f20, f21, f22, gn_a, gn_an, gn_ab, gn_az, gn_al, gn_ac, ne_a_an3, ne_a_ab3, ne_a_az3, ne_a_al3, ne_a_ac3, ne_a_sr3, ne_an_ab3, ne_an_az3, ne_an_al3, ne_an_ac3, ne_an_sr3, ne_ab_az3, ne_ab_al3, ne_ab_ac3, ne_ab_sr3, ne_az_al3, ne_az_ac3, ne_az_sr3, ne_al_ac3, ne_al_sr3, ne_ac_sr3⟩⟩
theorem own_pd7 : parseMethodDescriptor "(I)[B" = some ⟨[.int], some (.array .byte)⟩ := by decide +kernel
theorem own_pd8 : parseMethodDescriptor "(I)V" = some ⟨[.int], none⟩ := by decide +kernel
theorem d10_0 : decode prog_13_method_9_code 0 = .ok (.aload_n 1, 1) := by decide +kernel
theorem d10_1 : decode prog_13_method_9_code 1 = .ok (.iload_n 2, 1) := by decide +kernel
theorem d10_2 : decode prog_13_method_9_code 2 = .ok (.aload_n 0, 1) := by decide +kernel
theorem d10_3 : decode prog_13_method_9_code 3 = .ok (.iload_n 3, 1) := by decide +kernel
theorem d10_4 : decode prog_13_method_9_code 4 = .ok (.invokevirtual 68, 3) := by decide +kernel
theorem d10_7 : decode prog_13_method_9_code 7 = .ok (.aload_n 0, 1) := by decide +kernel
theorem d10_8 : decode prog_13_method_9_code 8 = .ok (.getfield 49, 3) := by decide +kernel
theorem d10_11 : decode prog_13_method_9_code 11 = .ok (.iload_n 3, 1) := by decide +kernel
theorem d10_12 : decode prog_13_method_9_code 12 = .ok (.invokestatic 72, 3) := by decide +kernel
theorem d10_15 : decode prog_13_method_9_code 15 = .ok (.aload_n 0, 1) := by decide +kernel
theorem d10_16 : decode prog_13_method_9_code 16 = .ok (.iload_n 3, 1) := by decide +kernel
theorem d10_17 : decode prog_13_method_9_code 17 = .ok (.invokevirtual 78, 3) := by decide +kernel
theorem d10_20 : decode prog_13_method_9_code 20 = .ok (.return_, 1) := by decide +kernel
def Q_rm10 (Z : State) (a : Addr) (sr : Addr) (ln1 : Int32) (an : Addr) (ab : Addr) (az : Addr) (al : Addr) (ac : Addr) (nl : Int32) (bl : Int32) (r : Int32) (cq : Int32) (ce : Int32) (h0 : Heap) (n0 : Nat) (v : Option Value) (h : Heap) (L : List Loc) : Prop := v = none ∧ Fr n0 L ∧ PV Z n0 h a an ab az al ac sr nl bl (r + (1 : Int32)) (1 : Int32) ((0 : Int32) + ln1)
theorem ef_rm10 (m : MethodId) (a : Addr) (sr : Addr) (ln1 : Int32) : entryFrame m #[(.ref a), (.ref sr), (.int (0 : Int32)), (.int ln1)] 4 = mkF m 0 #[.val (.ref a), .val (.ref sr), .val (.int (0 : Int32)), .val (.int ln1)] [] := by first | (simp [entryFrame, mkF, argsToLocals, Value.category]; done) | rfl
set_option maxRecDepth 65536 in
set_option maxHeartbeats 40000000 in
theorem rm10 (l : Launch) (Z : State) (a0 : Array Value) (hw : ∀ d ∈ tables_1, d.before a0 Z = true) (ws : List Jvm.Cond) (a : Addr) (sr : Addr) (ln1 : Int32) (an : Addr) (ab : Addr) (az : Addr) (al : Addr) (ac : Addr) (nl : Int32) (bl : Int32) (r : Int32) (cq : Int32) (ce : Int32) (h0 : Heap) (n0 : Nat) (Z0 : n0 ≤ h0.size) (P : PV Z n0 h0 a an ab az al ac sr nl bl r (0 : Int32) (0 : Int32)) (hr : 0 ≤ r.toInt ∧ r.toInt < nl.toInt) (hl : 0 ≤ ln1.toInt ∧ ln1.toInt ≤ 7) :
    MetFree l (⟨"com/example/rowsieve/rowsieve/data/PageValues", "add", "([BII)V"⟩ : MethodName) (head1 (Jvm.Cond.code (⟨"com/example/rowsieve/rowsieve/data/PageValues", "add", "([BII)V"⟩ : MethodName) prog_13_method_9_code 4 none :: ws) ({ frames := 2, cells := 0, slots := 0, locals := 28 } : Room)) (fun ag_ U_ => ag_ = #[(.ref a), (.ref sr), (.int (0 : Int32)), (.int ln1)] ∧ Z.Warmed39 U_.vm ∧ U_.heap = h0) (fun _ _ _ _ _ => True) (fun _ U_ o_ V_ => ∃ v_ L_, o_ = .returned v_ ∧ (Q_rm10 Z a sr ln1 an ab az al ac nl bl r cq ce h0 n0) v_ V_.heap L_ ∧ FrameEnd U_ o_ V_ L_ ({ frames := 2, cells := 0, slots := 0, locals := 28 } : Room).cells ({ frames := 2, cells := 0, slots := 0, locals := 28 } : Room).slots) := by
  refine MetFree.of_bodySF (plainFor_of_name own_pn3) hisR ?_
  intro p e s m args below meth c s₁ Bd hml0 hP hK
  obtain ⟨rfl, hZ, hh⟩ := hP
  have hx := Bd.exec
  have hby := Bd.bytes
  have hml : c.maxLocals = 4 := hml0
  have hown : s.vm.findClass "com/example/rowsieve/rowsieve/data/PageValues" = some m.cls := findClass_of_methodNamed Bd.named
  have hnm := (name_of_methodNamed Bd.named Bd.method).1
  have X0 : Stand p l e ({ frames := 2, cells := 0, slots := 0, locals := 28 } : Room) s m #[(.ref a), (.ref sr), (.int (0 : Int32)), (.int ln1)] below meth c s₁ [] 0 0 := Stand.of_body Bd
  have e0 : s₁.heap = h0 := by rw [← hh, Bd.state]; rfl
  have N0 := Fr.nil n0
  refine Go.st (G := fun s₂ o_ => ∃ v_ L_, o_ = .returned v_ ∧ (Q_rm10 Z a sr ln1 an ab az al ac nl bl r cq ce h0 n0) v_ s₂.heap L_ ∧ FrameEnd s o_ s₂ L_ ({ frames := 2, cells := 0, slots := 0, locals := 28 } : Room).cells ({ frames := 2, cells := 0, slots := 0, locals := 28 } : Room).slots) (fun t kt => castTop (ef_rm10 m a sr ln1) kt) ?_
  obtain ⟨E_a, F_nulls, F_bits, F_starts, F_lengths, F_copies, F_rows, ⟨u1, F_anyNull⟩, F_count, ⟨u2, F_bytes⟩, ⟨u3, F_dictionary⟩, F_copiesEnd, A_an, A_ab, A_az, A_al, A_ac, A_sr, gn_a, gn_an, gn_ab, gn_az, gn_al, gn_ac, ne_a_an, ne_a_ab, ne_a_az, ne_a_al, ne_a_ac, ne_a_sr, ne_an_ab, ne_an_az, ne_an_al, ne_an_ac, ne_an_sr, ne_ab_az, ne_ab_al, ne_ab_ac, ne_ab_sr, ne_az_al, ne_az_ac, ne_az_sr, ne_al_ac, ne_al_sr, ne_ac_sr⟩ := P
  show Go p e below _ (s₁.setTop (mkF m 0 #[.val (.ref a), .val (.ref sr), .val (.int (0 : Int32)), .val (.int ln1)] []))
  refine Go.st (fun _ kt => XS.aloadN X0.here hx rfl (hb hby d10_0) rfl rfl kt) ?_
  show Go p e below _ (s₁.setTop (mkF m 1 #[.val (.ref a), .val (.ref sr), .val (.int (0 : Int32)), .val (.int ln1)] [(.ref sr)]))
  refine Go.st (fun _ kt => XS.iloadN X0.here hx rfl (hb hby d10_1) rfl kt) ?_
  show Go p e below _ (s₁.setTop (mkF m 2 #[.val (.ref a), .val (.ref sr), .val (.int (0 : Int32)), .val (.int ln1)] [(.int (0 : Int32)), (.ref sr)]))
  refine Go.st (fun _ kt => XS.aloadN X0.here hx rfl (hb hby d10_2) rfl rfl kt) ?_
  show Go p e below _ (s₁.setTop (mkF m 3 #[.val (.ref a), .val (.ref sr), .val (.int (0 : Int32)), .val (.int ln1)] [(.ref a), (.int (0 : Int32)), (.ref sr)]))
  refine Go.st (fun _ kt => XS.iloadN X0.here hx rfl (hb hby d10_3) rfl kt) ?_
  show Go p e below _ (s₁.setTop (mkF m 4 #[.val (.ref a), .val (.ref sr), .val (.int (0 : Int32)), .val (.int ln1)] [(.int ln1), (.ref a), (.int (0 : Int32)), (.ref sr)]))
  have P1 : PV Z n0 h0 a an ab az al ac sr nl bl r (0 : Int32) (0 : Int32) := ⟨E_a, F_nulls, F_bits, F_starts, F_lengths, F_copies, F_rows, ⟨_, F_anyNull⟩, F_count, ⟨_, F_bytes⟩, ⟨_, F_dictionary⟩, F_copiesEnd, A_an, A_ab, A_az, A_al, A_ac, A_sr, gn_a, gn_an, gn_ab, gn_az, gn_al, gn_ac, ne_a_an, ne_a_ab, ne_a_az, ne_a_al, ne_a_ac, ne_a_sr, ne_an_ab, ne_an_az, ne_an_al, ne_an_ac, ne_an_sr, ne_ab_az, ne_ab_al, ne_ab_ac, ne_ab_sr, ne_az_al, ne_az_ac, ne_az_sr, ne_al_ac, ne_al_sr, ne_ac_sr⟩
  obtain ⟨cq1, q1, q1'⟩ := E_a.cell
  obtain ⟨_, _, ⟨T1, L1, k1, n1⟩, -, X1, ⟨Lc1, hQ1, l1, y1, z1⟩, st1⟩ := X0.privateBack hx (y := (⟨"com/example/rowsieve/rowsieve/data/PageValues", "copyRoom", "(I)[B"⟩ : MethodName)) hown (mvT hZ (hw _ (List.mem_of_getElem? (i := 74) rfl))) (mvT hZ (hw _ (List.mem_of_getElem? (i := 75) rfl))) (own_self hZ (hw _ (List.mem_of_getElem? (i := 1) rfl)) (hw _ (List.mem_of_getElem? (i := 76) rfl)) (hw _ (List.mem_of_getElem? (i := 75) rfl)) (by decide)) (Cond.privateMethod_at (mvP hZ (hw _ (List.mem_of_getElem? (i := 76) rfl)) (args := #[]))) (mvT hZ (hw _ (List.mem_of_getElem? (i := 77) rfl))) (by decide) (backOf (W := 2) (rm11 l Z a0 hw [] a ln1 an ab az al ac sr nl bl r (0 : Int32) (0 : Int32) h0 n0 Z0 P1 hl) hZ (hw _ (List.mem_of_getElem? (i := 77) rfl)) (hw _ (List.mem_of_getElem? (i := 2) rfl)) (by decide) (by decide)) (g := (mkF m 4 #[.val (.ref a), .val (.ref sr), .val (.int (0 : Int32)), .val (.int ln1)] [(.int ln1), (.ref a), (.int (0 : Int32)), (.ref sr)])) rfl (by rw [hml]; rfl) (Steps.refl _) (a := a) (by rw [e0]; exact q1) q1' (argsL := [(.int ln1)]) (rest := [(.int (0 : Int32)), (.ref sr)]) (lenOf own_pd7 rfl) rfl (by show 2 * 0 + _ ≤ _; exact Nat.le_of_eq rfl) (hb hby d10_4) (fun _ _ => ⟨rfl, e0, (by decide : 0 + 0 ≤ _), (by decide : 0 + 0 ≤ _)⟩)
  dsimp only [Pt.U, Pt.locs, Pt.cells, Pt.slots] at X1 l1 y1 z1 st1 hQ1
  subst l1 y1 z1
  obtain ⟨rfl, N1q, e1⟩ := hQ1
  have N1 := Fr.app N0 N1q
  refine Go.tr st1 ?_
  show Go p e below _ (T1.setTop (mkF m 7 #[.val (.ref a), .val (.ref sr), .val (.int (0 : Int32)), .val (.int ln1)] [(.ref ac), (.int (0 : Int32)), (.ref sr)]))
  refine Go.st (fun _ kt => XS.aloadN X1.here hx rfl (hb hby d10_7) rfl rfl kt) ?_
  show Go p e below _ (T1.setTop (mkF m 8 #[.val (.ref a), .val (.ref sr), .val (.int (0 : Int32)), .val (.int ln1)] [(.ref a), (.ref ac), (.int (0 : Int32)), (.ref sr)]))
  obtain ⟨T2, X2, e2, st2⟩ := getF X1 hx hZ hown (host := "") (Or.inl (hw _ (List.mem_of_getElem? (i := 40) rfl))) Via.refl e1 F_copiesEnd (g := (mkF m 8 #[.val (.ref a), .val (.ref sr), .val (.int (0 : Int32)), .val (.int ln1)] [(.ref a), (.ref ac), (.int (0 : Int32)), (.ref sr)])) rfl rfl (hb hby d10_8)
  refine Go.st st2 ?_
  show Go p e below _ (T2.setTop (mkF m 11 #[.val (.ref a), .val (.ref sr), .val (.int (0 : Int32)), .val (.int ln1)] [(.int (0 : Int32)), (.ref ac), (.int (0 : Int32)), (.ref sr)]))
  refine Go.st (fun _ kt => XS.iloadN X2.here hx rfl (hb hby d10_11) rfl kt) ?_
  show Go p e below _ (T2.setTop (mkF m 12 #[.val (.ref a), .val (.ref sr), .val (.int (0 : Int32)), .val (.int ln1)] [(.int ln1), (.int (0 : Int32)), (.ref ac), (.int (0 : Int32)), (.ref sr)]))
  obtain ⟨ka3, vsa3, Va3, la3⟩ := A_sr.arv (.int 0)
  obtain ⟨kb3, vsb3, Vb3, lb3⟩ := A_ac.arv (.int 0)
  obtain ⟨T3, h3, Lc3, X3, e3, N3, Kc3, Vc3, st3⟩ := cpA X2 hx hZ hown (hw _ (List.mem_of_getElem? (i := 78) rfl)) (hw _ (List.mem_of_getElem? (i := 81) rfl)) (hw _ (List.mem_of_getElem? (i := 79) rfl)) (hw _ (List.mem_of_getElem? (i := 80) rfl)) e2 Va3 Vb3 (Or.inl ⟨rfl, rfl⟩) (sp := (0 : Int32)) (dp := (0 : Int32)) (nn := ln1) (by decide) (by decide) (own_cp hl).1 (own_cp hl).2.1 (own_cp hl).2.2 rfl (by rw [lb3]; exact (own_cp hl).2.2) N1 gn_ac (g := (mkF m 12 #[.val (.ref a), .val (.ref sr), .val (.int (0 : Int32)), .val (.int ln1)] [(.int ln1), (.int (0 : Int32)), (.ref ac), (.int (0 : Int32)), (.ref sr)])) rfl (by rw [hml]; rfl) rfl (hb hby d10_12) (by decide) (W := 0) (by show 2 * 0 + _ ≤ _; exact Nat.le_of_eq rfl) (by decide)
  refine Go.st st3 ?_
  have Zs3 : n0 ≤ h3.size := Nat.le_trans Z0 Kc3.1
  have V3 : AV Z h3 ac .byte (64 : Int32) := AV.of Vc3
  show Go p e below _ (T3.setTop (mkF m 15 #[.val (.ref a), .val (.ref sr), .val (.int (0 : Int32)), .val (.int ln1)] []))
  refine Go.st (fun _ kt => XS.aloadN X3.here hx rfl (hb hby d10_15) rfl rfl kt) ?_
  show Go p e below _ (T3.setTop (mkF m 16 #[.val (.ref a), .val (.ref sr), .val (.int (0 : Int32)), .val (.int ln1)] [(.ref a)]))
  refine Go.st (fun _ kt => XS.iloadN X3.here hx rfl (hb hby d10_16) rfl kt) ?_
  show Go p e below _ (T3.setTop (mkF m 17 #[.val (.ref a), .val (.ref sr), .val (.int (0 : Int32)), .val (.int ln1)] [(.int ln1), (.ref a)]))
  have f4 := (E_a.keep Kc3)
  have f5 := (F_nulls.keep Kc3 (ninS ne_a_ac nin0))
  have f6 := (F_bits.keep Kc3 (ninS ne_a_ac nin0))
  have f7 := (F_starts.keep Kc3 (ninS ne_a_ac nin0))
  have f8 := (F_lengths.keep Kc3 (ninS ne_a_ac nin0))
  have f9 := (F_copies.keep Kc3 (ninS ne_a_ac nin0))
  have f10 := (F_rows.keep Kc3 (ninS ne_a_ac nin0))
  have f11 := (F_anyNull.keep Kc3 (ninS ne_a_ac nin0))
  have f12 := (F_count.keep Kc3 (ninS ne_a_ac nin0))
  have f13 := (F_bytes.keep Kc3 (ninS ne_a_ac nin0))
  have f14 := (F_dictionary.keep Kc3 (ninS ne_a_ac nin0))
  have f15 := (F_copiesEnd.keep Kc3 (ninS ne_a_ac nin0))
  have f16 := (A_an.keep Kc3 (ninS ne_an_ac nin0))
  have f17 := (A_ab.keep Kc3 (ninS ne_ab_ac nin0))
  have f18 := (A_az.keep Kc3 (ninS ne_az_ac nin0))
  have f19 := (A_al.keep Kc3 (ninS ne_al_ac nin0))
  have f20 := (A_sr.keep Kc3 (ninS (Ne.symm ne_ac_sr) nin0))
  have P2 : PV Z n0 h3 a an ab az al ac sr nl bl r (0 : Int32) (0 : Int32) := ⟨f4, f5, f6, f7, f8, f9, f10, ⟨_, f11⟩, f12, ⟨_, f13⟩, ⟨_, f14⟩, f15, f16, f17, f18, f19, V3, f20, gn_a, gn_an, gn_ab, gn_az, gn_al, gn_ac, ne_a_an, ne_a_ab, ne_a_az, ne_a_al, ne_a_ac, ne_a_sr, ne_an_ab, ne_an_az, ne_an_al, ne_an_ac, ne_an_sr, ne_ab_az, ne_ab_al, ne_ab_ac, ne_ab_sr, ne_az_al, ne_az_ac, ne_az_sr, ne_al_ac, ne_al_sr, ne_ac_sr⟩
  obtain ⟨cq21, q21, q21'⟩ := f4.cell
  obtain ⟨_, _, ⟨T21, L21, k21, n21⟩, -, X21, ⟨Lc21, hQ21, l21, y21, z21⟩, st21⟩ := X3.privateBack hx (y := (⟨"com/example/rowsieve/rowsieve/data/PageValues", "addCopied", "(I)V"⟩ : MethodName)) hown (mvT hZ (hw _ (List.mem_of_getElem? (i := 82) rfl))) (mvT hZ (hw _ (List.mem_of_getElem? (i := 83) rfl))) (own_self hZ (hw _ (List.mem_of_getElem? (i := 1) rfl)) (hw _ (List.mem_of_getElem? (i := 84) rfl)) (hw _ (List.mem_of_getElem? (i := 83) rfl)) (by decide)) (Cond.privateMethod_at (mvP hZ (hw _ (List.mem_of_getElem? (i := 84) rfl)) (args := #[]))) (mvT hZ (hw _ (List.mem_of_getElem? (i := 85) rfl))) (by decide) (backOf (W := 0) (rm12 l Z a0 hw [] a ln1 an ab az al ac sr nl bl r (0 : Int32) (0 : Int32) h3 n0 Zs3 P2 hr) hZ (hw _ (List.mem_of_getElem? (i := 85) rfl)) (hw _ (List.mem_of_getElem? (i := 2) rfl)) (by decide) (by decide)) (g := (mkF m 17 #[.val (.ref a), .val (.ref sr), .val (.int (0 : Int32)), .val (.int ln1)] [(.int ln1), (.ref a)])) rfl (by rw [hml]; rfl) (Steps.refl _) (a := a) (by rw [e3]; exact q21) q21' (argsL := [(.int ln1)]) (rest := []) (lenOf own_pd8 rfl) rfl (by show 2 * 0 + _ ≤ _; exact Nat.le_of_eq rfl) (hb hby d10_17) (fun _ _ => ⟨rfl, e3, (by decide : 0 + 0 ≤ _), (by decide : 0 + 0 ≤ _)⟩)
  dsimp only [Pt.U, Pt.locs, Pt.cells, Pt.slots] at X21 l21 y21 z21 st21 hQ21
  subst l21 y21 z21
  obtain ⟨rfl, N21q, ⟨E_a21, F_nulls21, F_bits21, F_starts21, F_lengths21, F_copies21, F_rows21, ⟨u121, F_anyNull21⟩, F_count21, ⟨u221, F_bytes21⟩, ⟨u321, F_dictionary21⟩, F_copiesEnd21, A_an21, A_ab21, A_az21, A_al21, A_ac21, A_sr21, gn_a21, gn_an21, gn_ab21, gn_az21, gn_al21, gn_ac21, ne_a_an21, ne_a_ab21, ne_a_az21, ne_a_al21, ne_a_ac21, ne_a_sr21, ne_an_ab21, ne_an_az21, ne_an_al21, ne_an_ac21, ne_an_sr21, ne_ab_az21, ne_ab_al21, ne_ab_ac21, ne_ab_sr21, ne_az_al21, ne_az_ac21, ne_az_sr21, ne_al_ac21, ne_al_sr21, ne_ac_sr21⟩⟩ := hQ21
  have gnx := gn_a21
  have gn_a := gn_a21
  have gn_an := gn_an21
  have gn_ab := gn_ab21
  have gn_az := gn_az21
  have gn_al := gn_al21
  have gn_ac := gn_ac21
  have Zs21 : n0 ≤ T21.heap.size := Nat.le_trans gn_a21 (Nat.le_of_lt E_a21.lt)
  have N21 := Fr.app N3 N21q
  refine Go.tr st21 ?_
  show Go p e below _ (T21.setTop (mkF m 20 #[.val (.ref a), .val (.ref sr), .val (.int (0 : Int32)), .val (.int ln1)] []))
  refine Go.retV X21 hx Bd.returns (BodyLoose.notSynchronized Bd) (hb hby d10_20) (Q := (Q_rm10 Z a sr ln1 an ab az al ac nl bl r cq ce h0 n0)) (by decide) (by decide) ?_
  show (Q_rm10 Z a sr ln1 an ab az al ac nl bl r cq ce h0 n0) _ T21.heap _
  exact ⟨rfl, N21, ⟨E_a21, F_nulls21, F_bits21, F_starts21, F_lengths21, F_copies21, F_rows21, ⟨_, F_anyNull21⟩, F_count21, ⟨_, F_bytes21⟩, ⟨_, F_dictionary21⟩, F_copiesEnd21, A_an21, A_ab21, A_az21, A_al21, A_ac21, A_sr21, gn_a, gn_an, gn_ab, gn_az, gn_al, gn_ac, ne_a_an21, ne_a_ab21, ne_a_az21, ne_a_al21, ne_a_ac21, ne_a_sr21, ne_an_ab21, ne_an_az21, ne_an_al21, ne_an_ac21, ne_an_sr21, ne_ab_az21, ne_ab_al21, ne_ab_ac21, ne_ab_sr21, ne_az_al21, ne_az_ac21, ne_az_sr21, ne_al_ac21, ne_al_sr21, ne_ac_sr21⟩⟩
theorem d1_0 : decode prog_13_method_1_code 0 = .ok (.aload_n 0, 1) := by decide +kernel
theorem d1_1 : decode prog_13_method_1_code 1 = .ok (.invokespecial 1, 3) := by decide +kernel
theorem d1_4 : decode prog_13_method_1_code 4 = .ok (.aload_n 0, 1) := by decide +kernel
theorem d1_5 : decode prog_13_method_1_code 5 = .ok (.bipush 64, 2) := by decide +kernel
theorem d1_7 : decode prog_13_method_1_code 7 = .ok (.newarray .boolean, 2) := by decide +kernel
theorem d1_9 : decode prog_13_method_1_code 9 = .ok (.putfield 9, 3) := by decide +kernel
theorem d1_12 : decode prog_13_method_1_code 12 = .ok (.aload_n 0, 1) := by decide +kernel
theorem d1_13 : decode prog_13_method_1_code 13 = .ok (.bipush 64, 2) := by decide +kernel
theorem d1_15 : decode prog_13_method_1_code 15 = .ok (.newarray .long, 2) := by decide +kernel
theorem d1_17 : decode prog_13_method_1_code 17 = .ok (.putfield 13, 3) := by decide +kernel
theorem d1_20 : decode prog_13_method_1_code 20 = .ok (.aload_n 0, 1) := by decide +kernel
theorem d1_21 : decode prog_13_method_1_code 21 = .ok (.bipush 64, 2) := by decide +kernel
theorem d1_23 : decode prog_13_method_1_code 23 = .ok (.newarray .int, 2) := by decide +kernel
theorem d1_25 : decode prog_13_method_1_code 25 = .ok (.putfield 17, 3) := by decide +kernel
theorem d1_28 : decode prog_13_method_1_code 28 = .ok (.aload_n 0, 1) := by decide +kernel
theorem d1_29 : decode prog_13_method_1_code 29 = .ok (.bipush 64, 2) := by decide +kernel
theorem d1_31 : decode prog_13_method_1_code 31 = .ok (.newarray .int, 2) := by decide +kernel
theorem d1_33 : decode prog_13_method_1_code 33 = .ok (.putfield 21, 3) := by decide +kernel
theorem d1_36 : decode prog_13_method_1_code 36 = .ok (.aload_n 0, 1) := by decide +kernel
theorem d1_37 : decode prog_13_method_1_code 37 = .ok (.bipush 64, 2) := by decide +kernel
theorem d1_39 : decode prog_13_method_1_code 39 = .ok (.newarray .int, 2) := by decide +kernel
theorem d1_41 : decode prog_13_method_1_code 41 = .ok (.putfield 24, 3) := by decide +kernel
theorem d1_44 : decode prog_13_method_1_code 44 = .ok (.aload_n 0, 1) := by decide +kernel
theorem d1_45 : decode prog_13_method_1_code 45 = .ok (.bipush 64, 2) := by decide +kernel
theorem d1_47 : decode prog_13_method_1_code 47 = .ok (.newarray .byte, 2) := by decide +kernel
theorem d1_49 : decode prog_13_method_1_code 49 = .ok (.putfield 27, 3) := by decide +kernel
theorem d1_52 : decode prog_13_method_1_code 52 = .ok (.return_, 1) := by decide +kernel
def Q_rm1 (Z : State) (a : Addr) (h0 : Heap) (n0 : Nat) (v : Option Value) (h : Heap) (L : List Loc) : Prop := ∃ an ab az al ac, v = none ∧ Fr n0 L ∧ Keep h0 h [a] ∧ Fld Z h a "com/example/rowsieve/rowsieve/data/PageValues" "nulls" "[Z" (.ref an) ∧ Fld Z h a "com/example/rowsieve/rowsieve/data/PageValues" "bits" "[J" (.ref ab) ∧ Fld Z h a "com/example/rowsieve/rowsieve/data/PageValues" "starts" "[I" (.ref az) ∧ Fld Z h a "com/example/rowsieve/rowsieve/data/PageValues" "lengths" "[I" (.ref al) ∧ Fld Z h a "com/example/rowsieve/rowsieve/data/PageValues" "copies" "[B" (.ref ac) ∧ Fld Z h a "com/example/rowsieve/rowsieve/data/PageValues" "rows" "I" (.int (0 : Int32)) ∧ Fld Z h a "com/example/rowsieve/rowsieve/data/PageValues" "anyNull" "Z" (.int (0 : Int32)) ∧ Fld Z h a "com/example/rowsieve/rowsieve/data/PageValues" "count" "I" (.int (0 : Int32)) ∧ Fld Z h a "com/example/rowsieve/rowsieve/data/PageValues" "bytes" "[B" .null ∧ Fld Z h a "com/example/rowsieve/rowsieve/data/PageValues" "dictionary" "Lcom/example/rowsieve/rowsieve/grouping/ValueDictionary;" .null ∧ Fld Z h a "com/example/rowsieve/rowsieve/data/PageValues" "copiesEnd" "I" (.int (0 : Int32)) ∧ AV Z h an .boolean (64 : Int32) ∧ AV Z h ab .long (64 : Int32) ∧ AV Z h az .int (64 : Int32) ∧ AV Z h al .int (64 : Int32) ∧ AV Z h ac .byte (64 : Int32) ∧ h0.size ≤ an ∧ h0.size ≤ ab ∧ h0.size ≤ az ∧ h0.size ≤ al ∧ h0.size ≤ ac ∧ an ≠ ab ∧ an ≠ az ∧ an ≠ al ∧ an ≠ ac ∧ ab ≠ az ∧ ab ≠ al ∧ ab ≠ ac ∧ az ≠ al ∧ az ≠ ac ∧ al ≠ ac
theorem ef_rm1 (m : MethodId) (a : Addr) : entryFrame m #[(.ref a)] 1 = mkF m 0 #[.val (.ref a)] [] := by first | (simp [entryFrame, mkF, argsToLocals, Value.category]; done) | rfl
set_option maxRecDepth 65536 in
set_option maxHeartbeats 40000000 in
theorem rm1 (l : Launch) (Z : State) (a0 : Array Value) (hw : ∀ d ∈ tables_1, d.before a0 Z = true) (ws : List Jvm.Cond) (a : Addr) (h0 : Heap) (n0 : Nat) (Z0 : n0 ≤ h0.size) (E_a : Exa Z h0 a "com/example/rowsieve/rowsieve/data/PageValues") (F_nulls : Fld Z h0 a "com/example/rowsieve/rowsieve/data/PageValues" "nulls" "[Z" .null) (F_bits : Fld Z h0 a "com/example/rowsieve/rowsieve/data/PageValues" "bits" "[J" .null) (F_starts : Fld Z h0 a "com/example/rowsieve/rowsieve/data/PageValues" "starts" "[I" .null) (F_lengths : Fld Z h0 a "com/example/rowsieve/rowsieve/data/PageValues" "lengths" "[I" .null) (F_copies : Fld Z h0 a "com/example/rowsieve/rowsieve/data/PageValues" "copies" "[B" .null) (F_places : Fld Z h0 a "com/example/rowsieve/rowsieve/data/PageValues" "places" "[I" .null) (F_rows : Fld Z h0 a "com/example/rowsieve/rowsieve/data/PageValues" "rows" "I" (.int (0 : Int32))) (F_anyNull : Fld Z h0 a "com/example/rowsieve/rowsieve/data/PageValues" "anyNull" "Z" (.int (0 : Int32))) (F_count : Fld Z h0 a "com/example/rowsieve/rowsieve/data/PageValues" "count" "I" (.int (0 : Int32))) (F_bytes : Fld Z h0 a "com/example/rowsieve/rowsieve/data/PageValues" "bytes" "[B" .null) (F_dictionary : Fld Z h0 a "com/example/rowsieve/rowsieve/data/PageValues" "dictionary" "Lcom/example/rowsieve/rowsieve/grouping/ValueDictionary;" .null) (F_copiesEnd : Fld Z h0 a "com/example/rowsieve/rowsieve/data/PageValues" "copiesEnd" "I" (.int (0 : Int32))) (gn_a : n0 ≤ a) :
    MetFree l (⟨"com/example/rowsieve/rowsieve/data/PageValues", "<init>", "()V"⟩ : MethodName) (head1 (Jvm.Cond.code (⟨"com/example/rowsieve/rowsieve/data/PageValues", "<init>", "()V"⟩ : MethodName) prog_13_method_1_code 1 none :: ws) ({ frames := 1, cells := 6, slots := 384, locals := 12 } : Room)) (fun ag_ U_ => ag_ = #[(.ref a)] ∧ Z.Warmed39 U_.vm ∧ U_.heap = h0) (fun _ _ _ _ _ => True) (fun _ U_ o_ V_ => ∃ v_ L_, o_ = .returned v_ ∧ (Q_rm1 Z a h0 n0) v_ V_.heap L_ ∧ FrameEnd U_ o_ V_ L_ ({ frames := 1, cells := 6, slots := 384, locals := 12 } : Room).cells ({ frames := 1, cells := 6, slots := 384, locals := 12 } : Room).slots) := by
  refine MetFree.of_bodySF (plainFor_of_name own_pn3) hisR ?_
  intro p e s m args below meth c s₁ Bd hml0 hP hK
  obtain ⟨rfl, hZ, hh⟩ := hP
  have hx := Bd.exec
  have hby := Bd.bytes
  have hml : c.maxLocals = 1 := hml0
  have hown : s.vm.findClass "com/example/rowsieve/rowsieve/data/PageValues" = some m.cls := findClass_of_methodNamed Bd.named
  have hnm := (name_of_methodNamed Bd.named Bd.method).1
  have X0 : Stand p l e ({ frames := 1, cells := 6, slots := 384, locals := 12 } : Room) s m #[(.ref a)] below meth c s₁ [] 0 0 := Stand.of_body Bd
  have e0 : s₁.heap = h0 := by rw [← hh, Bd.state]; rfl
  have N0 := Fr.nil n0
  refine Go.st (G := fun s₂ o_ => ∃ v_ L_, o_ = .returned v_ ∧ (Q_rm1 Z a h0 n0) v_ s₂.heap L_ ∧ FrameEnd s o_ s₂ L_ ({ frames := 1, cells := 6, slots := 384, locals := 12 } : Room).cells ({ frames := 1, cells := 6, slots := 384, locals := 12 } : Room).slots) (fun t kt => castTop (ef_rm1 m a) kt) ?_
  show Go p e below _ (s₁.setTop (mkF m 0 #[.val (.ref a)] []))
  refine Go.st (fun _ kt => XS.aloadN X0.here hx rfl (hb hby d1_0) rfl rfl kt) ?_
  show Go p e below _ (s₁.setTop (mkF m 1 #[.val (.ref a)] [(.ref a)]))
  obtain ⟨T1, X1, e1, st1⟩ := initO X0 hx hZ hown (hw _ (List.mem_of_getElem? (i := 6) rfl)) (hw _ (List.mem_of_getElem? (i := 7) rfl)) (hw _ (List.mem_of_getElem? (i := 8) rfl)) e0 (g := (mkF m 1 #[.val (.ref a)] [(.ref a)])) rfl (by rw [hml]; rfl) rfl (hb hby d1_1) (by decide) (W := 0) (by show 2 * 0 + _ ≤ _; exact Nat.le_of_eq rfl) (by decide)
  refine Go.st st1 ?_
  show Go p e below _ (T1.setTop (mkF m 4 #[.val (.ref a)] []))
  refine Go.st (fun _ kt => XS.aloadN X1.here hx rfl (hb hby d1_4) rfl rfl kt) ?_
  show Go p e below _ (T1.setTop (mkF m 5 #[.val (.ref a)] [(.ref a)]))
  refine Go.st (fun _ kt => XS.bipush X1.here hx rfl (hb hby d1_5) kt) ?_
  show Go p e below _ (T1.setTop (mkF m 7 #[.val (.ref a)] [(.int (64 : Int32)), (.ref a)]))
  obtain ⟨T2, h2, k2, X2, e2, E2, A2, Y2, st2⟩ := newPE X1 hx hZ (hw _ (List.mem_of_getElem? (i := 9) rfl)) e1 (g := (mkF m 7 #[.val (.ref a)] [(.int (64 : Int32)), (.ref a)])) rfl (hb hby d1_7) rfl (by decide) (cap := 64) (by decide) (by decide) (by decide) (by decide) (ad := "[Z") (by decide)
  obtain ⟨b2, g2⟩ : ∃ z, z = h0.size := ⟨_, rfl⟩
  rw [← g2] at A2 Y2 st2
  have lt_a_b2 : a < b2 := Nat.lt_of_lt_of_eq E_a.lt g2.symm
  have gn_b2 : n0 ≤ b2 := Nat.le_trans Z0 (Nat.le_of_eq g2.symm)
  have Zs2 : n0 ≤ h2.size := Nat.le_trans Z0 E2.1
  have K2 : Keep h0 h2 [a] := (Keep.refl h0 [a]).ext E2
  have kn_b2 : h0.size ≤ b2 := Nat.le_trans (Keep.refl h0 [a]).1 (Nat.le_of_eq g2.symm)
  refine Go.st st2 ?_
  have V2 : AV Z h2 b2 .boolean (64 : Int32) := AV.new A2 (by decide) rfl
  show Go p e below _ (T2.setTop (mkF m 9 #[.val (.ref a)] [(.ref b2), (.ref a)]))
  have f3 := (E_a.ext E2)
  have f4 := (F_nulls.ext E2)
  obtain ⟨T5, h5, X5, e5, W5, st5⟩ := putF X2 hx hZ hown (host := "") (Or.inl (hw _ (List.mem_of_getElem? (i := 10) rfl))) Via.refl e2 f4 f3 (Or.inl (hw _ (List.mem_of_getElem? (i := 11) rfl))) (hw _ (List.mem_of_getElem? (i := 1) rfl)) (ty := (.array .boolean)) (by decide) rfl rfl (g := (mkF m 9 #[.val (.ref a)] [(.ref b2), (.ref a)])) rfl rfl (hb hby d1_9)
  refine Go.st st5 ?_
  have Fw5 := f4.same W5
  have Zs5 : n0 ≤ h5.size := Nat.le_trans Zs2 (Nat.le_of_eq W5.size.symm)
  have N5 := Fr.snoc X5 N0 gn_a
  have K5 : Keep h0 h5 [a] := K2.wr W5 (Or.inl (List.mem_of_getElem? (i := 0) rfl))
  show Go p e below _ (T5.setTop (mkF m 12 #[.val (.ref a)] []))
  refine Go.st (fun _ kt => XS.aloadN X5.here hx rfl (hb hby d1_12) rfl rfl kt) ?_
  show Go p e below _ (T5.setTop (mkF m 13 #[.val (.ref a)] [(.ref a)]))
  refine Go.st (fun _ kt => XS.bipush X5.here hx rfl (hb hby d1_13) kt) ?_
  show Go p e below _ (T5.setTop (mkF m 15 #[.val (.ref a)] [(.int (64 : Int32)), (.ref a)]))
  obtain ⟨T6, h6, k6, X6, e6, E6, A6, Y6, st6⟩ := newPE X5 hx hZ (hw _ (List.mem_of_getElem? (i := 12) rfl)) e5 (g := (mkF m 15 #[.val (.ref a)] [(.int (64 : Int32)), (.ref a)])) rfl (hb hby d1_15) rfl (by decide) (cap := 64) (by decide) (by decide) (by decide) (by decide) (ad := "[J") (by decide)
  obtain ⟨b6, g6⟩ : ∃ z, z = h5.size := ⟨_, rfl⟩
  rw [← g6] at A6 Y6 st6
  have f7 := (f3.wr W5)
  have lt_a_b6 : a < b6 := Nat.lt_of_lt_of_eq f7.lt g6.symm
  have f8 := (Y2.wr W5)
  have lt_b2_b6 : b2 < b6 := Nat.lt_of_lt_of_eq f8.lt g6.symm
  have gn_b6 : n0 ≤ b6 := Nat.le_trans Zs5 (Nat.le_of_eq g6.symm)
  have Zs6 : n0 ≤ h6.size := Nat.le_trans Zs5 E6.1
  have K6 : Keep h0 h6 [a] := K5.ext E6
  have kn_b6 : h0.size ≤ b6 := Nat.le_trans K5.1 (Nat.le_of_eq g6.symm)
  refine Go.st st6 ?_
  have V6 : AV Z h6 b6 .long (64 : Int32) := AV.new A6 (by decide) rfl
  show Go p e below _ (T6.setTop (mkF m 17 #[.val (.ref a)] [(.ref b6), (.ref a)]))
  have f9 := (f7.ext E6)
  have f10 := (((F_bits.ext E2).other W5 (Or.inr (slot_ne (Or.inl (hw _ (List.mem_of_getElem? (i := 14) rfl))) (Or.inl (hw _ (List.mem_of_getElem? (i := 11) rfl))) (by decide) (t := (.array .long)) (t' := (.array .boolean)) (by decide) (by decide)))).ext E6)
  obtain ⟨T11, h11, X11, e11, W11, st11⟩ := putF X6 hx hZ hown (host := "") (Or.inl (hw _ (List.mem_of_getElem? (i := 13) rfl))) Via.refl e6 f10 f9 (Or.inl (hw _ (List.mem_of_getElem? (i := 14) rfl))) (hw _ (List.mem_of_getElem? (i := 1) rfl)) (ty := (.array .long)) (by decide) rfl rfl (g := (mkF m 17 #[.val (.ref a)] [(.ref b6), (.ref a)])) rfl rfl (hb hby d1_17)
  refine Go.st st11 ?_
  have Fw11 := f10.same W11
  have Zs11 : n0 ≤ h11.size := Nat.le_trans Zs6 (Nat.le_of_eq W11.size.symm)
  have N11 := Fr.snoc X11 N5 gn_a
  have K11 : Keep h0 h11 [a] := K6.wr W11 (Or.inl (List.mem_of_getElem? (i := 0) rfl))
  show Go p e below _ (T11.setTop (mkF m 20 #[.val (.ref a)] []))
  refine Go.st (fun _ kt => XS.aloadN X11.here hx rfl (hb hby d1_20) rfl rfl kt) ?_
  show Go p e below _ (T11.setTop (mkF m 21 #[.val (.ref a)] [(.ref a)]))
  refine Go.st (fun _ kt => XS.bipush X11.here hx rfl (hb hby d1_21) kt) ?_
  show Go p e below _ (T11.setTop (mkF m 23 #[.val (.ref a)] [(.int (64 : Int32)), (.ref a)]))
  obtain ⟨T12, h12, k12, X12, e12, E12, A12, Y12, st12⟩ := newPE X11 hx hZ (hw _ (List.mem_of_getElem? (i := 15) rfl)) e11 (g := (mkF m 23 #[.val (.ref a)] [(.int (64 : Int32)), (.ref a)])) rfl (hb hby d1_23) rfl (by decide) (cap := 64) (by decide) (by decide) (by decide) (by decide) (ad := "[I") (by decide)
  obtain ⟨b12, g12⟩ : ∃ z, z = h11.size := ⟨_, rfl⟩
  rw [← g12] at A12 Y12 st12
  have f13 := (f9.wr W11)
  have lt_a_b12 : a < b12 := Nat.lt_of_lt_of_eq f13.lt g12.symm
  have f14 := ((f8.ext E6).wr W11)
  have lt_b2_b12 : b2 < b12 := Nat.lt_of_lt_of_eq f14.lt g12.symm
  have f15 := (Y6.wr W11)
  have lt_b6_b12 : b6 < b12 := Nat.lt_of_lt_of_eq f15.lt g12.symm
  have gn_b12 : n0 ≤ b12 := Nat.le_trans Zs11 (Nat.le_of_eq g12.symm)
  have Zs12 : n0 ≤ h12.size := Nat.le_trans Zs11 E12.1
  have K12 : Keep h0 h12 [a] := K11.ext E12
  have kn_b12 : h0.size ≤ b12 := Nat.le_trans K11.1 (Nat.le_of_eq g12.symm)
  refine Go.st st12 ?_
  have V12 : AV Z h12 b12 .int (64 : Int32) := AV.new A12 (by decide) rfl
  show Go p e below _ (T12.setTop (mkF m 25 #[.val (.ref a)] [(.ref b12), (.ref a)]))
  have f16 := (f13.ext E12)
  have f17 := (((((F_starts.ext E2).other W5 (Or.inr (slot_ne (Or.inl (hw _ (List.mem_of_getElem? (i := 17) rfl))) (Or.inl (hw _ (List.mem_of_getElem? (i := 11) rfl))) (by decide) (t := (.array .int)) (t' := (.array .boolean)) (by decide) (by decide)))).ext E6).other W11 (Or.inr (slot_ne (Or.inl (hw _ (List.mem_of_getElem? (i := 17) rfl))) (Or.inl (hw _ (List.mem_of_getElem? (i := 14) rfl))) (by decide) (t := (.array .int)) (t' := (.array .long)) (by decide) (by decide)))).ext E12)
  obtain ⟨T18, h18, X18, e18, W18, st18⟩ := putF X12 hx hZ hown (host := "") (Or.inl (hw _ (List.mem_of_getElem? (i := 16) rfl))) Via.refl e12 f17 f16 (Or.inl (hw _ (List.mem_of_getElem? (i := 17) rfl))) (hw _ (List.mem_of_getElem? (i := 1) rfl)) (ty := (.array .int)) (by decide) rfl rfl (g := (mkF m 25 #[.val (.ref a)] [(.ref b12), (.ref a)])) rfl rfl (hb hby d1_25)
  refine Go.st st18 ?_
  have Fw18 := f17.same W18
  have Zs18 : n0 ≤ h18.size := Nat.le_trans Zs12 (Nat.le_of_eq W18.size.symm)
  have N18 := Fr.snoc X18 N11 gn_a
  have K18 : Keep h0 h18 [a] := K12.wr W18 (Or.inl (List.mem_of_getElem? (i := 0) rfl))
  show Go p e below _ (T18.setTop (mkF m 28 #[.val (.ref a)] []))
  refine Go.st (fun _ kt => XS.aloadN X18.here hx rfl (hb hby d1_28) rfl rfl kt) ?_
  show Go p e below _ (T18.setTop (mkF m 29 #[.val (.ref a)] [(.ref a)]))
  refine Go.st (fun _ kt => XS.bipush X18.here hx rfl (hb hby d1_29) kt) ?_
  show Go p e below _ (T18.setTop (mkF m 31 #[.val (.ref a)] [(.int (64 : Int32)), (.ref a)]))
  obtain ⟨T19, h19, k19, X19, e19, E19, A19, Y19, st19⟩ := newPE X18 hx hZ (hw _ (List.mem_of_getElem? (i := 15) rfl)) e18 (g := (mkF m 31 #[.val (.ref a)] [(.int (64 : Int32)), (.ref a)])) rfl (hb hby d1_31) rfl (by decide) (cap := 64) (by decide) (by decide) (by decide) (by decide) (ad := "[I") (by decide)
  obtain ⟨b19, g19⟩ : ∃ z, z = h18.size := ⟨_, rfl⟩
  rw [← g19] at A19 Y19 st19
  have f20 := (f16.wr W18)
  have lt_a_b19 : a < b19 := Nat.lt_of_lt_of_eq f20.lt g19.symm
  have f21 := ((f14.ext E12).wr W18)
  have lt_b2_b19 : b2 < b19 := Nat.lt_of_lt_of_eq f21.lt g19.symm
  have f22 := ((f15.ext E12).wr W18)
  have lt_b6_b19 : b6 < b19 := Nat.lt_of_lt_of_eq f22.lt g19.symm
  have f23 := (Y12.wr W18)
  have lt_b12_b19 : b12 < b19 := Nat.lt_of_lt_of_eq f23.lt g19.symm
  have gn_b19 : n0 ≤ b19 := Nat.le_trans Zs18 (Nat.le_of_eq g19.symm)
  have Zs19 : n0 ≤ h19.size := Nat.le_trans Zs18 E19.1
  have K19 : Keep h0 h19 [a] := K18.ext E19
  have kn_b19 : h0.size ≤ b19 := Nat.le_trans K18.1 (Nat.le_of_eq g19.symm)
  refine Go.st st19 ?_
  have V19 : AV Z h19 b19 .int (64 : Int32) := AV.new A19 (by decide) rfl
  show Go p e below _ (T19.setTop (mkF m 33 #[.val (.ref a)] [(.ref b19), (.ref a)]))
  have f24 := (f20.ext E19)
  have f25 := (((((((F_lengths.ext E2).other W5 (Or.inr (slot_ne (Or.inl (hw _ (List.mem_of_getElem? (i := 19) rfl))) (Or.inl (hw _ (List.mem_of_getElem? (i := 11) rfl))) (by decide) (t := (.array .int)) (t' := (.array .boolean)) (by decide) (by decide)))).ext E6).other W11 (Or.inr (slot_ne (Or.inl (hw _ (List.mem_of_getElem? (i := 19) rfl))) (Or.inl (hw _ (List.mem_of_getElem? (i := 14) rfl))) (by decide) (t := (.array .int)) (t' := (.array .long)) (by decide) (by decide)))).ext E12).other W18 (Or.inr (slot_ne (Or.inl (hw _ (List.mem_of_getElem? (i := 19) rfl))) (Or.inl (hw _ (List.mem_of_getElem? (i := 17) rfl))) (by decide) (t := (.array .int)) (t' := (.array .int)) (by decide) (by decide)))).ext E19)
  obtain ⟨T26, h26, X26, e26, W26, st26⟩ := putF X19 hx hZ hown (host := "") (Or.inl (hw _ (List.mem_of_getElem? (i := 18) rfl))) Via.refl e19 f25 f24 (Or.inl (hw _ (List.mem_of_getElem? (i := 19) rfl))) (hw _ (List.mem_of_getElem? (i := 1) rfl)) (ty := (.array .int)) (by decide) rfl rfl (g := (mkF m 33 #[.val (.ref a)] [(.ref b19), (.ref a)])) rfl rfl (hb hby d1_33)
  refine Go.st st26 ?_
  have Fw26 := f25.same W26
  have Zs26 : n0 ≤ h26.size := Nat.le_trans Zs19 (Nat.le_of_eq W26.size.symm)
  have N26 := Fr.snoc X26 N18 gn_a
  have K26 : Keep h0 h26 [a] := K19.wr W26 (Or.inl (List.mem_of_getElem? (i := 0) rfl))
  show Go p e below _ (T26.setTop (mkF m 36 #[.val (.ref a)] []))
  refine Go.st (fun _ kt => XS.aloadN X26.here hx rfl (hb hby d1_36) rfl rfl kt) ?_
  show Go p e below _ (T26.setTop (mkF m 37 #[.val (.ref a)] [(.ref a)]))
  refine Go.st (fun _ kt => XS.bipush X26.here hx rfl (hb hby d1_37) kt) ?_
  show Go p e below _ (T26.setTop (mkF m 39 #[.val (.ref a)] [(.int (64 : Int32)), (.ref a)]))
  obtain ⟨T27, h27, k27, X27, e27, E27, A27, Y27, st27⟩ := newPE X26 hx hZ (hw _ (List.mem_of_getElem? (i := 15) rfl)) e26 (g := (mkF m 39 #[.val (.ref a)] [(.int (64 : Int32)), (.ref a)])) rfl (hb hby d1_39) rfl (by decide) (cap := 64) (by decide) (by decide) (by decide) (by decide) (ad := "[I") (by decide)
  obtain ⟨b27, g27⟩ : ∃ z, z = h26.size := ⟨_, rfl⟩
  rw [← g27] at A27 Y27 st27
  have f28 := (f24.wr W26)
  have lt_a_b27 : a < b27 := Nat.lt_of_lt_of_eq f28.lt g27.symm
  have f29 := ((f21.ext E19).wr W26)
  have lt_b2_b27 : b2 < b27 := Nat.lt_of_lt_of_eq f29.lt g27.symm
  have f30 := ((f22.ext E19).wr W26)
  have lt_b6_b27 : b6 < b27 := Nat.lt_of_lt_of_eq f30.lt g27.symm
  have f31 := ((f23.ext E19).wr W26)
  have lt_b12_b27 : b12 < b27 := Nat.lt_of_lt_of_eq f31.lt g27.symm
  have f32 := (Y19.wr W26)
  have lt_b19_b27 : b19 < b27 := Nat.lt_of_lt_of_eq f32.lt g27.symm
  have gn_b27 : n0 ≤ b27 := Nat.le_trans Zs26 (Nat.le_of_eq g27.symm)
  have Zs27 : n0 ≤ h27.size := Nat.le_trans Zs26 E27.1
  have K27 : Keep h0 h27 [a] := K26.ext E27
  have kn_b27 : h0.size ≤ b27 := Nat.le_trans K26.1 (Nat.le_of_eq g27.symm)
  refine Go.st st27 ?_
  have V27 : AV Z h27 b27 .int (64 : Int32) := AV.new A27 (by decide) rfl
  show Go p e below _ (T27.setTop (mkF m 41 #[.val (.ref a)] [(.ref b27), (.ref a)]))
  have f33 := (f28.ext E27)
  have f34 := (((((((((F_places.ext E2).other W5 (Or.inr (slot_ne (Or.inl (hw _ (List.mem_of_getElem? (i := 21) rfl))) (Or.inl (hw _ (List.mem_of_getElem? (i := 11) rfl))) (by decide) (t := (.array .int)) (t' := (.array .boolean)) (by decide) (by decide)))).ext E6).other W11 (Or.inr (slot_ne (Or.inl (hw _ (List.mem_of_getElem? (i := 21) rfl))) (Or.inl (hw _ (List.mem_of_getElem? (i := 14) rfl))) (by decide) (t := (.array .int)) (t' := (.array .long)) (by decide) (by decide)))).ext E12).other W18 (Or.inr (slot_ne (Or.inl (hw _ (List.mem_of_getElem? (i := 21) rfl))) (Or.inl (hw _ (List.mem_of_getElem? (i := 17) rfl))) (by decide) (t := (.array .int)) (t' := (.array .int)) (by decide) (by decide)))).ext E19).other W26 (Or.inr (slot_ne (Or.inl (hw _ (List.mem_of_getElem? (i := 21) rfl))) (Or.inl (hw _ (List.mem_of_getElem? (i := 19) rfl))) (by decide) (t := (.array .int)) (t' := (.array .int)) (by decide) (by decide)))).ext E27)
  obtain ⟨T35, h35, X35, e35, W35, st35⟩ := putF X27 hx hZ hown (host := "") (Or.inl (hw _ (List.mem_of_getElem? (i := 20) rfl))) Via.refl e27 f34 f33 (Or.inl (hw _ (List.mem_of_getElem? (i := 21) rfl))) (hw _ (List.mem_of_getElem? (i := 1) rfl)) (ty := (.array .int)) (by decide) rfl rfl (g := (mkF m 41 #[.val (.ref a)] [(.ref b27), (.ref a)])) rfl rfl (hb hby d1_41)
  refine Go.st st35 ?_
  have Fw35 := f34.same W35
  have Zs35 : n0 ≤ h35.size := Nat.le_trans Zs27 (Nat.le_of_eq W35.size.symm)
  have N35 := Fr.snoc X35 N26 gn_a
  have K35 : Keep h0 h35 [a] := K27.wr W35 (Or.inl (List.mem_of_getElem? (i := 0) rfl))
  show Go p e below _ (T35.setTop (mkF m 44 #[.val (.ref a)] []))
  refine Go.st (fun _ kt => XS.aloadN X35.here hx rfl (hb hby d1_44) rfl rfl kt) ?_
  show Go p e below _ (T35.setTop (mkF m 45 #[.val (.ref a)] [(.ref a)]))
  refine Go.st (fun _ kt => XS.bipush X35.here hx rfl (hb hby d1_45) kt) ?_
  show Go p e below _ (T35.setTop (mkF m 47 #[.val (.ref a)] [(.int (64 : Int32)), (.ref a)]))
  obtain ⟨T36, h36, k36, X36, e36, E36, A36, Y36, st36⟩ := newPE X35 hx hZ (hw _ (List.mem_of_getElem? (i := 22) rfl)) e35 (g := (mkF m 47 #[.val (.ref a)] [(.int (64 : Int32)), (.ref a)])) rfl (hb hby d1_47) rfl (by decide) (cap := 64) (by decide) (by decide) (by decide) (by decide) (ad := "[B") (by decide)
  obtain ⟨b36, g36⟩ : ∃ z, z = h35.size := ⟨_, rfl⟩
  rw [← g36] at A36 Y36 st36
  have f37 := (f33.wr W35)
  have lt_a_b36 : a < b36 := Nat.lt_of_lt_of_eq f37.lt g36.symm
  have f38 := ((f29.ext E27).wr W35)
  have lt_b2_b36 : b2 < b36 := Nat.lt_of_lt_of_eq f38.lt g36.symm
  have f39 := ((f30.ext E27).wr W35)
  have lt_b6_b36 : b6 < b36 := Nat.lt_of_lt_of_eq f39.lt g36.symm
  have f40 := ((f31.ext E27).wr W35)
  have lt_b12_b36 : b12 < b36 := Nat.lt_of_lt_of_eq f40.lt g36.symm
  have f41 := ((f32.ext E27).wr W35)
  have lt_b19_b36 : b19 < b36 := Nat.lt_of_lt_of_eq f41.lt g36.symm
  have f42 := (Y27.wr W35)
  have lt_b27_b36 : b27 < b36 := Nat.lt_of_lt_of_eq f42.lt g36.symm
  have gn_b36 : n0 ≤ b36 := Nat.le_trans Zs35 (Nat.le_of_eq g36.symm)
  have Zs36 : n0 ≤ h36.size := Nat.le_trans Zs35 E36.1
  have K36 : Keep h0 h36 [a] := K35.ext E36
  have kn_b36 : h0.size ≤ b36 := Nat.le_trans K35.1 (Nat.le_of_eq g36.symm)
  refine Go.st st36 ?_
  have V36 : AV Z h36 b36 .byte (64 : Int32) := AV.new A36 (by decide) rfl
  show Go p e below _ (T36.setTop (mkF m 49 #[.val (.ref a)] [(.ref b36), (.ref a)]))
  have f43 := (f37.ext E36)
  have f44 := (((((((((((F_copies.ext E2).other W5 (Or.inr (slot_ne (Or.inl (hw _ (List.mem_of_getElem? (i := 24) rfl))) (Or.inl (hw _ (List.mem_of_getElem? (i := 11) rfl))) (by decide) (t := (.array .byte)) (t' := (.array .boolean)) (by decide) (by decide)))).ext E6).other W11 (Or.inr (slot_ne (Or.inl (hw _ (List.mem_of_getElem? (i := 24) rfl))) (Or.inl (hw _ (List.mem_of_getElem? (i := 14) rfl))) (by decide) (t := (.array .byte)) (t' := (.array .long)) (by decide) (by decide)))).ext E12).other W18 (Or.inr (slot_ne (Or.inl (hw _ (List.mem_of_getElem? (i := 24) rfl))) (Or.inl (hw _ (List.mem_of_getElem? (i := 17) rfl))) (by decide) (t := (.array .byte)) (t' := (.array .int)) (by decide) (by decide)))).ext E19).other W26 (Or.inr (slot_ne (Or.inl (hw _ (List.mem_of_getElem? (i := 24) rfl))) (Or.inl (hw _ (List.mem_of_getElem? (i := 19) rfl))) (by decide) (t := (.array .byte)) (t' := (.array .int)) (by decide) (by decide)))).ext E27).other W35 (Or.inr (slot_ne (Or.inl (hw _ (List.mem_of_getElem? (i := 24) rfl))) (Or.inl (hw _ (List.mem_of_getElem? (i := 21) rfl))) (by decide) (t := (.array .byte)) (t' := (.array .int)) (by decide) (by decide)))).ext E36)
  obtain ⟨T45, h45, X45, e45, W45, st45⟩ := putF X36 hx hZ hown (host := "") (Or.inl (hw _ (List.mem_of_getElem? (i := 23) rfl))) Via.refl e36 f44 f43 (Or.inl (hw _ (List.mem_of_getElem? (i := 24) rfl))) (hw _ (List.mem_of_getElem? (i := 1) rfl)) (ty := (.array .byte)) (by decide) rfl rfl (g := (mkF m 49 #[.val (.ref a)] [(.ref b36), (.ref a)])) rfl rfl (hb hby d1_49)
  refine Go.st st45 ?_
  have Fw45 := f44.same W45
  have Zs45 : n0 ≤ h45.size := Nat.le_trans Zs36 (Nat.le_of_eq W45.size.symm)
  have N45 := Fr.snoc X45 N35 gn_a
  have K45 : Keep h0 h45 [a] := K36.wr W45 (Or.inl (List.mem_of_getElem? (i := 0) rfl))
  show Go p e below _ (T45.setTop (mkF m 52 #[.val (.ref a)] []))
  have f46 := ((((((((((Fw5.ext E6).other W11 (Or.inr (slot_ne (Or.inl (hw _ (List.mem_of_getElem? (i := 11) rfl))) (Or.inl (hw _ (List.mem_of_getElem? (i := 14) rfl))) (by decide) (t := (.array .boolean)) (t' := (.array .long)) (by decide) (by decide)))).ext E12).other W18 (Or.inr (slot_ne (Or.inl (hw _ (List.mem_of_getElem? (i := 11) rfl))) (Or.inl (hw _ (List.mem_of_getElem? (i := 17) rfl))) (by decide) (t := (.array .boolean)) (t' := (.array .int)) (by decide) (by decide)))).ext E19).other W26 (Or.inr (slot_ne (Or.inl (hw _ (List.mem_of_getElem? (i := 11) rfl))) (Or.inl (hw _ (List.mem_of_getElem? (i := 19) rfl))) (by decide) (t := (.array .boolean)) (t' := (.array .int)) (by decide) (by decide)))).ext E27).other W35 (Or.inr (slot_ne (Or.inl (hw _ (List.mem_of_getElem? (i := 11) rfl))) (Or.inl (hw _ (List.mem_of_getElem? (i := 21) rfl))) (by decide) (t := (.array .boolean)) (t' := (.array .int)) (by decide) (by decide)))).ext E36).other W45 (Or.inr (slot_ne (Or.inl (hw _ (List.mem_of_getElem? (i := 11) rfl))) (Or.inl (hw _ (List.mem_of_getElem? (i := 24) rfl))) (by decide) (t := (.array .boolean)) (t' := (.array .byte)) (by decide) (by decide))))
  have f47 := ((((((((Fw11.ext E12).other W18 (Or.inr (slot_ne (Or.inl (hw _ (List.mem_of_getElem? (i := 14) rfl))) (Or.inl (hw _ (List.mem_of_getElem? (i := 17) rfl))) (by decide) (t := (.array .long)) (t' := (.array .int)) (by decide) (by decide)))).ext E19).other W26 (Or.inr (slot_ne (Or.inl (hw _ (List.mem_of_getElem? (i := 14) rfl))) (Or.inl (hw _ (List.mem_of_getElem? (i := 19) rfl))) (by decide) (t := (.array .long)) (t' := (.array .int)) (by decide) (by decide)))).ext E27).other W35 (Or.inr (slot_ne (Or.inl (hw _ (List.mem_of_getElem? (i := 14) rfl))) (Or.inl (hw _ (List.mem_of_getElem? (i := 21) rfl))) (by decide) (t := (.array .long)) (t' := (.array .int)) (by decide) (by decide)))).ext E36).other W45 (Or.inr (slot_ne (Or.inl (hw _ (List.mem_of_getElem? (i := 14) rfl))) (Or.inl (hw _ (List.mem_of_getElem? (i := 24) rfl))) (by decide) (t := (.array .long)) (t' := (.array .byte)) (by decide) (by decide))))
  have f48 := ((((((Fw18.ext E19).other W26 (Or.inr (slot_ne (Or.inl (hw _ (List.mem_of_getElem? (i := 17) rfl))) (Or.inl (hw _ (List.mem_of_getElem? (i := 19) rfl))) (by decide) (t := (.array .int)) (t' := (.array .int)) (by decide) (by decide)))).ext E27).other W35 (Or.inr (slot_ne (Or.inl (hw _ (List.mem_of_getElem? (i := 17) rfl))) (Or.inl (hw _ (List.mem_of_getElem? (i := 21) rfl))) (by decide) (t := (.array .int)) (t' := (.array .int)) (by decide) (by decide)))).ext E36).other W45 (Or.inr (slot_ne (Or.inl (hw _ (List.mem_of_getElem? (i := 17) rfl))) (Or.inl (hw _ (List.mem_of_getElem? (i := 24) rfl))) (by decide) (t := (.array .int)) (t' := (.array .byte)) (by decide) (by decide))))
  have f49 := ((((Fw26.ext E27).other W35 (Or.inr (slot_ne (Or.inl (hw _ (List.mem_of_getElem? (i := 19) rfl))) (Or.inl (hw _ (List.mem_of_getElem? (i := 21) rfl))) (by decide) (t := (.array .int)) (t' := (.array .int)) (by decide) (by decide)))).ext E36).other W45 (Or.inr (slot_ne (Or.inl (hw _ (List.mem_of_getElem? (i := 19) rfl))) (Or.inl (hw _ (List.mem_of_getElem? (i := 24) rfl))) (by decide) (t := (.array .int)) (t' := (.array .byte)) (by decide) (by decide))))
  have f50 := ((((((((((((F_rows.ext E2).other W5 (Or.inr (slot_ne (Or.inl (hw _ (List.mem_of_getElem? (i := 31) rfl))) (Or.inl (hw _ (List.mem_of_getElem? (i := 11) rfl))) (by decide) (t := .int) (t' := (.array .boolean)) (by decide) (by decide)))).ext E6).other W11 (Or.inr (slot_ne (Or.inl (hw _ (List.mem_of_getElem? (i := 31) rfl))) (Or.inl (hw _ (List.mem_of_getElem? (i := 14) rfl))) (by decide) (t := .int) (t' := (.array .long)) (by decide) (by decide)))).ext E12).other W18 (Or.inr (slot_ne (Or.inl (hw _ (List.mem_of_getElem? (i := 31) rfl))) (Or.inl (hw _ (List.mem_of_getElem? (i := 17) rfl))) (by decide) (t := .int) (t' := (.array .int)) (by decide) (by decide)))).ext E19).other W26 (Or.inr (slot_ne (Or.inl (hw _ (List.mem_of_getElem? (i := 31) rfl))) (Or.inl (hw _ (List.mem_of_getElem? (i := 19) rfl))) (by decide) (t := .int) (t' := (.array .int)) (by decide) (by decide)))).ext E27).other W35 (Or.inr (slot_ne (Or.inl (hw _ (List.mem_of_getElem? (i := 31) rfl))) (Or.inl (hw _ (List.mem_of_getElem? (i := 21) rfl))) (by decide) (t := .int) (t' := (.array .int)) (by decide) (by decide)))).ext E36).other W45 (Or.inr (slot_ne (Or.inl (hw _ (List.mem_of_getElem? (i := 31) rfl))) (Or.inl (hw _ (List.mem_of_getElem? (i := 24) rfl))) (by decide) (t := .int) (t' := (.array .byte)) (by decide) (by decide))))
  have f51 := ((((((((((((F_anyNull.ext E2).other W5 (Or.inr (slot_ne (Or.inl (hw _ (List.mem_of_getElem? (i := 33) rfl))) (Or.inl (hw _ (List.mem_of_getElem? (i := 11) rfl))) (by decide) (t := .boolean) (t' := (.array .boolean)) (by decide) (by decide)))).ext E6).other W11 (Or.inr (slot_ne (Or.inl (hw _ (List.mem_of_getElem? (i := 33) rfl))) (Or.inl (hw _ (List.mem_of_getElem? (i := 14) rfl))) (by decide) (t := .boolean) (t' := (.array .long)) (by decide) (by decide)))).ext E12).other W18 (Or.inr (slot_ne (Or.inl (hw _ (List.mem_of_getElem? (i := 33) rfl))) (Or.inl (hw _ (List.mem_of_getElem? (i := 17) rfl))) (by decide) (t := .boolean) (t' := (.array .int)) (by decide) (by decide)))).ext E19).other W26 (Or.inr (slot_ne (Or.inl (hw _ (List.mem_of_getElem? (i := 33) rfl))) (Or.inl (hw _ (List.mem_of_getElem? (i := 19) rfl))) (by decide) (t := .boolean) (t' := (.array .int)) (by decide) (by decide)))).ext E27).other W35 (Or.inr (slot_ne (Or.inl (hw _ (List.mem_of_getElem? (i := 33) rfl))) (Or.inl (hw _ (List.mem_of_getElem? (i := 21) rfl))) (by decide) (t := .boolean) (t' := (.array .int)) (by decide) (by decide)))).ext E36).other W45 (Or.inr (slot_ne (Or.inl (hw _ (List.mem_of_getElem? (i := 33) rfl))) (Or.inl (hw _ (List.mem_of_getElem? (i := 24) rfl))) (by decide) (t := .boolean) (t' := (.array .byte)) (by decide) (by decide))))
  have f52 := ((((((((((((F_count.ext E2).other W5 (Or.inr (slot_ne (Or.inl (hw _ (List.mem_of_getElem? (i := 35) rfl))) (Or.inl (hw _ (List.mem_of_getElem? (i := 11) rfl))) (by decide) (t := .int) (t' := (.array .boolean)) (by decide) (by decide)))).ext E6).other W11 (Or.inr (slot_ne (Or.inl (hw _ (List.mem_of_getElem? (i := 35) rfl))) (Or.inl (hw _ (List.mem_of_getElem? (i := 14) rfl))) (by decide) (t := .int) (t' := (.array .long)) (by decide) (by decide)))).ext E12).other W18 (Or.inr (slot_ne (Or.inl (hw _ (List.mem_of_getElem? (i := 35) rfl))) (Or.inl (hw _ (List.mem_of_getElem? (i := 17) rfl))) (by decide) (t := .int) (t' := (.array .int)) (by decide) (by decide)))).ext E19).other W26 (Or.inr (slot_ne (Or.inl (hw _ (List.mem_of_getElem? (i := 35) rfl))) (Or.inl (hw _ (List.mem_of_getElem? (i := 19) rfl))) (by decide) (t := .int) (t' := (.array .int)) (by decide) (by decide)))).ext E27).other W35 (Or.inr (slot_ne (Or.inl (hw _ (List.mem_of_getElem? (i := 35) rfl))) (Or.inl (hw _ (List.mem_of_getElem? (i := 21) rfl))) (by decide) (t := .int) (t' := (.array .int)) (by decide) (by decide)))).ext E36).other W45 (Or.inr (slot_ne (Or.inl (hw _ (List.mem_of_getElem? (i := 35) rfl))) (Or.inl (hw _ (List.mem_of_getElem? (i := 24) rfl))) (by decide) (t := .int) (t' := (.array .byte)) (by decide) (by decide))))
  have f53 := ((((((((((((F_bytes.ext E2).other W5 (Or.inr (slot_ne (Or.inl (hw _ (List.mem_of_getElem? (i := 37) rfl))) (Or.inl (hw _ (List.mem_of_getElem? (i := 11) rfl))) (by decide) (t := (.array .byte)) (t' := (.array .boolean)) (by decide) (by decide)))).ext E6).other W11 (Or.inr (slot_ne (Or.inl (hw _ (List.mem_of_getElem? (i := 37) rfl))) (Or.inl (hw _ (List.mem_of_getElem? (i := 14) rfl))) (by decide) (t := (.array .byte)) (t' := (.array .long)) (by decide) (by decide)))).ext E12).other W18 (Or.inr (slot_ne (Or.inl (hw _ (List.mem_of_getElem? (i := 37) rfl))) (Or.inl (hw _ (List.mem_of_getElem? (i := 17) rfl))) (by decide) (t := (.array .byte)) (t' := (.array .int)) (by decide) (by decide)))).ext E19).other W26 (Or.inr (slot_ne (Or.inl (hw _ (List.mem_of_getElem? (i := 37) rfl))) (Or.inl (hw _ (List.mem_of_getElem? (i := 19) rfl))) (by decide) (t := (.array .byte)) (t' := (.array .int)) (by decide) (by decide)))).ext E27).other W35 (Or.inr (slot_ne (Or.inl (hw _ (List.mem_of_getElem? (i := 37) rfl))) (Or.inl (hw _ (List.mem_of_getElem? (i := 21) rfl))) (by decide) (t := (.array .byte)) (t' := (.array .int)) (by decide) (by decide)))).ext E36).other W45 (Or.inr (slot_ne (Or.inl (hw _ (List.mem_of_getElem? (i := 37) rfl))) (Or.inl (hw _ (List.mem_of_getElem? (i := 24) rfl))) (by decide) (t := (.array .byte)) (t' := (.array .byte)) (by decide) (by decide))))
  have f54 := ((((((((((((F_dictionary.ext E2).other W5 (Or.inr (slot_ne (Or.inl (hw _ (List.mem_of_getElem? (i := 39) rfl))) (Or.inl (hw _ (List.mem_of_getElem? (i := 11) rfl))) (by decide) (t := (.object "com/example/rowsieve/rowsieve/grouping/ValueDictionary")) (t' := (.array .boolean)) (by decide) (by decide)))).ext E6).other W11 (Or.inr (slot_ne (Or.inl (hw _ (List.mem_of_getElem? (i := 39) rfl))) (Or.inl (hw _ (List.mem_of_getElem? (i := 14) rfl))) (by decide) (t := (.object "com/example/rowsieve/rowsieve/grouping/ValueDictionary")) (t' := (.array .long)) (by decide) (by decide)))).ext E12).other W18 (Or.inr (slot_ne (Or.inl (hw _ (List.mem_of_getElem? (i := 39) rfl))) (Or.inl (hw _ (List.mem_of_getElem? (i := 17) rfl))) (by decide) (t := (.object "com/example/rowsieve/rowsieve/grouping/ValueDictionary")) (t' := (.array .int)) (by decide) (by decide)))).ext E19).other W26 (Or.inr (slot_ne (Or.inl (hw _ (List.mem_of_getElem? (i := 39) rfl))) (Or.inl (hw _ (List.mem_of_getElem? (i := 19) rfl))) (by decide) (t := (.object "com/example/rowsieve/rowsieve/grouping/ValueDictionary")) (t' := (.array .int)) (by decide) (by decide)))).ext E27).other W35 (Or.inr (slot_ne (Or.inl (hw _ (List.mem_of_getElem? (i := 39) rfl))) (Or.inl (hw _ (List.mem_of_getElem? (i := 21) rfl))) (by decide) (t := (.object "com/example/rowsieve/rowsieve/grouping/ValueDictionary")) (t' := (.array .int)) (by decide) (by decide)))).ext E36).other W45 (Or.inr (slot_ne (Or.inl (hw _ (List.mem_of_getElem? (i := 39) rfl))) (Or.inl (hw _ (List.mem_of_getElem? (i := 24) rfl))) (by decide) (t := (.object "com/example/rowsieve/rowsieve/grouping/ValueDictionary")) (t' := (.array .byte)) (by decide) (by decide))))
  have f55 := ((((((((((((F_copiesEnd.ext E2).other W5 (Or.inr (slot_ne (Or.inl (hw _ (List.mem_of_getElem? (i := 41) rfl))) (Or.inl (hw _ (List.mem_of_getElem? (i := 11) rfl))) (by decide) (t := .int) (t' := (.array .boolean)) (by decide) (by decide)))).ext E6).other W11 (Or.inr (slot_ne (Or.inl (hw _ (List.mem_of_getElem? (i := 41) rfl))) (Or.inl (hw _ (List.mem_of_getElem? (i := 14) rfl))) (by decide) (t := .int) (t' := (.array .long)) (by decide) (by decide)))).ext E12).other W18 (Or.inr (slot_ne (Or.inl (hw _ (List.mem_of_getElem? (i := 41) rfl))) (Or.inl (hw _ (List.mem_of_getElem? (i := 17) rfl))) (by decide) (t := .int) (t' := (.array .int)) (by decide) (by decide)))).ext E19).other W26 (Or.inr (slot_ne (Or.inl (hw _ (List.mem_of_getElem? (i := 41) rfl))) (Or.inl (hw _ (List.mem_of_getElem? (i := 19) rfl))) (by decide) (t := .int) (t' := (.array .int)) (by decide) (by decide)))).ext E27).other W35 (Or.inr (slot_ne (Or.inl (hw _ (List.mem_of_getElem? (i := 41) rfl))) (Or.inl (hw _ (List.mem_of_getElem? (i := 21) rfl))) (by decide) (t := .int) (t' := (.array .int)) (by decide) (by decide)))).ext E36).other W45 (Or.inr (slot_ne (Or.inl (hw _ (List.mem_of_getElem? (i := 41) rfl))) (Or.inl (hw _ (List.mem_of_getElem? (i := 24) rfl))) (by decide) (t := .int) (t' := (.array .byte)) (by decide) (by decide))))
  have f56 := (((((((((((V2.other W5 (Nat.ne_of_gt lt_a_b2)).ext E6).other W11 (Nat.ne_of_gt lt_a_b2)).ext E12).other W18 (Nat.ne_of_gt lt_a_b2)).ext E19).other W26 (Nat.ne_of_gt lt_a_b2)).ext E27).other W35 (Nat.ne_of_gt lt_a_b2)).ext E36).other W45 (Nat.ne_of_gt lt_a_b2))
  have f57 := (((((((((V6.other W11 (Nat.ne_of_gt lt_a_b6)).ext E12).other W18 (Nat.ne_of_gt lt_a_b6)).ext E19).other W26 (Nat.ne_of_gt lt_a_b6)).ext E27).other W35 (Nat.ne_of_gt lt_a_b6)).ext E36).other W45 (Nat.ne_of_gt lt_a_b6))
  have f58 := (((((((V12.other W18 (Nat.ne_of_gt lt_a_b12)).ext E19).other W26 (Nat.ne_of_gt lt_a_b12)).ext E27).other W35 (Nat.ne_of_gt lt_a_b12)).ext E36).other W45 (Nat.ne_of_gt lt_a_b12))
  have f59 := (((((V19.other W26 (Nat.ne_of_gt lt_a_b19)).ext E27).other W35 (Nat.ne_of_gt lt_a_b19)).ext E36).other W45 (Nat.ne_of_gt lt_a_b19))
  have f60 := (V36.other W45 (Nat.ne_of_gt lt_a_b36))
  refine Go.retV X45 hx Bd.returns (BodyLoose.notSynchronized Bd) (hb hby d1_52) (Q := (Q_rm1 Z a h0 n0)) (by decide) (by decide) ?_
  show (Q_rm1 Z a h0 n0) _ T45.heap _
  rw [e45]
  exact ⟨b2, b6, b12, b19, b36, rfl, N45, K45, f46, f47, f48, f49, Fw45, f50, f51, f52, f53, f54, f55, f56, f57, f58, f59, f60, kn_b2, kn_b6, kn_b12, kn_b19, kn_b36, (Nat.ne_of_lt lt_b2_b6), (Nat.ne_of_lt lt_b2_b12), (Nat.ne_of_lt lt_b2_b19), (Nat.ne_of_lt lt_b2_b36), (Nat.ne_of_lt lt_b6_b12), (Nat.ne_of_lt lt_b6_b19), (Nat.ne_of_lt lt_b6_b36), (Nat.ne_of_lt lt_b12_b19), (Nat.ne_of_lt lt_b12_b36), (Nat.ne_of_lt lt_b19_b36)⟩
theorem own_bl {b m : Int32} (hm : m.toInt ≤ 127) (h : b = (64 : Int32) ∨ b.toInt = max m.toInt (2 * (64 : Int32).toInt)) : 64 ≤ b.toInt ∧ b.toInt ≤ 128 := by
  have e : (64 : Int32).toInt = 64 := by decide
  rcases h with rfl | h <;> omega
theorem own_pd9 : parseMethodDescriptor "()V" = some ⟨[], none⟩ := by decide +kernel
theorem own_pd10 : parseMethodDescriptor "()I" = some ⟨[], some .int⟩ := by decide +kernel
theorem own_pd11 : parseMethodDescriptor "(I)[J" = some ⟨[.int], some (.array .long)⟩ := by decide +kernel
theorem own_pd12 : parseMethodDescriptor "(J)V" = some ⟨[.long], none⟩ := by decide +kernel
theorem own_pn13 : plainName "com/example/rowsieve/rowsieve/data/PageValuesClearPinLaw" = true := by first | (simp [plainName, overriddenIn]; done) | decide +kernel
def Q_rm0 (Z : State) (i0 : Int32) (xv : Int64) (i3 : Int32) (i4 : Int32) (h0 : Heap) (n0 : Nat) (v : Option Value) (h : Heap) (L : List Loc) : Prop := v = some (.int 1) ∧ Fr n0 L
theorem ef_rm0 (m : MethodId) (i0 : Int32) (xv : Int64) (i3 : Int32) (i4 : Int32) : entryFrame m #[(.int i0), (.long xv), (.int i3), (.int i4)] maxLocals = mkF m 0 #[.val (.int i0), .val (.long xv), .second, .val (.int i3), .val (.int i4), .unset, .unset, .unset, .unset, .unset] [] := by first | (simp [entryFrame, mkF, argsToLocals, Value.category, maxLocals]; done) | rfl
set_option maxRecDepth 65536 in
set_option maxHeartbeats 40000000 in
theorem rm0 (l : Launch) (Z : State) (a0 : Array Value) (hw : ∀ d ∈ tables_1, d.before a0 Z = true) (ws : List Jvm.Cond) (i0 : Int32) (xv : Int64) (i3 : Int32) (i4 : Int32) (h0 : Heap) (n0 : Nat) (Z0 : n0 ≤ h0.size) :
    MetFree l x (head1 (Jvm.Cond.code x code maxLocals ret :: ws) room_1) (fun ag_ U_ => ag_ = #[(.int i0), (.long xv), (.int i3), (.int i4)] ∧ Z.Warmed39 U_.vm ∧ U_.heap = h0) (fun _ _ _ _ _ => True) (fun _ U_ o_ V_ => ∃ v_ L_, o_ = .returned v_ ∧ (Q_rm0 Z i0 xv i3 i4 h0 n0) v_ V_.heap L_ ∧ FrameEnd U_ o_ V_ L_ room_1.cells room_1.slots) := by
  refine MetFree.of_bodySF (plainFor_of_name own_pn13) hisR ?_
  intro p e s m args below meth c s₁ Bd hml0 hP hK
  obtain ⟨rfl, hZ, hh⟩ := hP
  have hx := Bd.exec
  have hby := Bd.bytes
  have hml : c.maxLocals = 10 := hml0
  have hown : s.vm.findClass "com/example/rowsieve/rowsieve/data/PageValuesClearPinLaw" = some m.cls := findClass_of_methodNamed Bd.named
  have hnm := (name_of_methodNamed Bd.named Bd.method).1
  have X0 : Stand p l e room_1 s m #[(.int i0), (.long xv), (.int i3), (.int i4)] below meth c s₁ [] 0 0 := Stand.of_body Bd
  have e0 : s₁.heap = h0 := by rw [← hh, Bd.state]; rfl
  have N0 := Fr.nil n0
  refine Go.st (G := fun s₂ o_ => ∃ v_ L_, o_ = .returned v_ ∧ (Q_rm0 Z i0 xv i3 i4 h0 n0) v_ s₂.heap L_ ∧ FrameEnd s o_ s₂ L_ room_1.cells room_1.slots) (fun t kt => castTop (ef_rm0 m i0 xv i3 i4) kt) ?_
  show Go p e below _ (s₁.setTop (mkF m 0 #[.val (.int i0), .val (.long xv), .second, .val (.int i3), .val (.int i4), .unset, .unset, .unset, .unset, .unset] []))
  obtain ⟨T1, h1, X1, e1, E1, A1, D1, U1, st1⟩ := newO X0 hx hZ hown (hw _ (List.mem_of_getElem? (i := 0) rfl)) (hw _ (List.mem_of_getElem? (i := 1) rfl)) (hw _ (List.mem_of_getElem? (i := 2) rfl)) e0 (g := (mkF m 0 #[.val (.int i0), .val (.long xv), .second, .val (.int i3), .val (.int i4), .unset, .unset, .unset, .unset, .unset] [])) rfl (hb hby at_0) (by decide) (by decide)
  obtain ⟨b1, g1⟩ : ∃ z, z = h0.size := ⟨_, rfl⟩
  rw [← g1] at A1 D1 U1 st1
  have gn_b1 : n0 ≤ b1 := Nat.le_trans Z0 (Nat.le_of_eq g1.symm)
  have Zs1 : n0 ≤ h1.size := Nat.le_trans Z0 E1.1
  refine Go.st st1 ?_
  have F1_nulls : Fld Z h1 b1 "com/example/rowsieve/rowsieve/data/PageValues" "nulls" "[Z" .null := D1 (Or.inl (hw _ (List.mem_of_getElem? (i := 11) rfl))) (ty := (.array .boolean)) (by decide)
  have F1_bits : Fld Z h1 b1 "com/example/rowsieve/rowsieve/data/PageValues" "bits" "[J" .null := D1 (Or.inl (hw _ (List.mem_of_getElem? (i := 14) rfl))) (ty := (.array .long)) (by decide)
  have F1_starts : Fld Z h1 b1 "com/example/rowsieve/rowsieve/data/PageValues" "starts" "[I" .null := D1 (Or.inl (hw _ (List.mem_of_getElem? (i := 17) rfl))) (ty := (.array .int)) (by decide)
  have F1_lengths : Fld Z h1 b1 "com/example/rowsieve/rowsieve/data/PageValues" "lengths" "[I" .null := D1 (Or.inl (hw _ (List.mem_of_getElem? (i := 19) rfl))) (ty := (.array .int)) (by decide)
  have F1_places : Fld Z h1 b1 "com/example/rowsieve/rowsieve/data/PageValues" "places" "[I" .null := D1 (Or.inl (hw _ (List.mem_of_getElem? (i := 21) rfl))) (ty := (.array .int)) (by decide)
  have F1_copies : Fld Z h1 b1 "com/example/rowsieve/rowsieve/data/PageValues" "copies" "[B" .null := D1 (Or.inl (hw _ (List.mem_of_getElem? (i := 24) rfl))) (ty := (.array .byte)) (by decide)
  have F1_rows : Fld Z h1 b1 "com/example/rowsieve/rowsieve/data/PageValues" "rows" "I" (.int (0 : Int32)) := D1 (Or.inl (hw _ (List.mem_of_getElem? (i := 31) rfl))) (ty := .int) (by decide)
  have F1_anyNull : Fld Z h1 b1 "com/example/rowsieve/rowsieve/data/PageValues" "anyNull" "Z" (.int (0 : Int32)) := D1 (Or.inl (hw _ (List.mem_of_getElem? (i := 33) rfl))) (ty := .boolean) (by decide)
  have F1_count : Fld Z h1 b1 "com/example/rowsieve/rowsieve/data/PageValues" "count" "I" (.int (0 : Int32)) := D1 (Or.inl (hw _ (List.mem_of_getElem? (i := 35) rfl))) (ty := .int) (by decide)
  have F1_bytes : Fld Z h1 b1 "com/example/rowsieve/rowsieve/data/PageValues" "bytes" "[B" .null := D1 (Or.inl (hw _ (List.mem_of_getElem? (i := 37) rfl))) (ty := (.array .byte)) (by decide)
  have F1_dictionary : Fld Z h1 b1 "com/example/rowsieve/rowsieve/data/PageValues" "dictionary" "Lcom/example/rowsieve/rowsieve/grouping/ValueDictionary;" .null := D1 (Or.inl (hw _ (List.mem_of_getElem? (i := 39) rfl))) (ty := (.object "com/example/rowsieve/rowsieve/grouping/ValueDictionary")) (by decide)
  have F1_copiesEnd : Fld Z h1 b1 "com/example/rowsieve/rowsieve/data/PageValues" "copiesEnd" "I" (.int (0 : Int32)) := D1 (Or.inl (hw _ (List.mem_of_getElem? (i := 41) rfl))) (ty := .int) (by decide)
  show Go p e below _ (T1.setTop (mkF m 3 #[.val (.int i0), .val (.long xv), .second, .val (.int i3), .val (.int i4), .unset, .unset, .unset, .unset, .unset] [(.ref b1)]))
  refine Go.st (fun _ kt => XS.dup X1.here hx rfl (hb hby at_3) rfl rfl kt) ?_
  show Go p e below _ (T1.setTop (mkF m 4 #[.val (.int i0), .val (.long xv), .second, .val (.int i3), .val (.int i4), .unset, .unset, .unset, .unset, .unset] [(.ref b1), (.ref b1)]))
  obtain ⟨_, _, ⟨T2, L2, k2, n2⟩, -, X2, ⟨Lc2, hQ2, l2, y2, z2⟩, st2⟩ := X1.specialBack hx (y := (⟨"com/example/rowsieve/rowsieve/data/PageValues", "<init>", "()V"⟩ : MethodName)) rfl hown (mvT hZ (hw _ (List.mem_of_getElem? (i := 3) rfl))) (mvT hZ (hw _ (List.mem_of_getElem? (i := 4) rfl))) (mvT hZ (hw _ (List.mem_of_getElem? (i := 5) rfl))) (by decide) (backOf (W := 1) (rm1 l Z a0 hw [] b1 h1 n0 Zs1 A1 F1_nulls F1_bits F1_starts F1_lengths F1_copies F1_places F1_rows F1_anyNull F1_count F1_bytes F1_dictionary F1_copiesEnd gn_b1) hZ (hw _ (List.mem_of_getElem? (i := 5) rfl)) (hw _ (List.mem_of_getElem? (i := 2) rfl)) (by decide) (by decide)) (g := (mkF m 4 #[.val (.int i0), .val (.long xv), .second, .val (.int i3), .val (.int i4), .unset, .unset, .unset, .unset, .unset] [(.ref b1), (.ref b1)])) rfl (by rw [hml]; rfl) (Steps.refl _) (a := b1) (argsL := []) (rest := [(.ref b1)]) (lenOf own_pd9 rfl) rfl (by show 2 * 0 + _ ≤ _; exact Nat.le_of_eq rfl) (hb hby at_4) (fun _ _ => ⟨rfl, e1, (by decide : 1 + 6 ≤ _), (by decide : 12 + 384 ≤ _)⟩)
  dsimp only [Pt.U, Pt.locs, Pt.cells, Pt.slots] at X2 l2 y2 z2 st2 hQ2
  subst l2 y2 z2
  obtain ⟨an2, ab2, az2, al2, ac2, rfl, N2q, K2q, G2_0, G2_1, G2_2, G2_3, G2_4, G2_5, G2_6, G2_7, G2_8, G2_9, G2_10, G2_11, G2_12, G2_13, G2_14, G2_15, hs_an2, hs_ab2, hs_az2, hs_al2, hs_ac2, ne_an_ab2, ne_an_az2, ne_an_al2, ne_an_ac2, ne_ab_az2, ne_ab_al2, ne_ab_ac2, ne_az_al2, ne_az_ac2, ne_al_ac2⟩ := hQ2
  have lt_b1_an2 : b1 < an2 := Nat.lt_of_lt_of_le A1.lt hs_an2
  have gn_an2 : n0 ≤ an2 := Nat.le_trans Zs1 hs_an2
  have lt_b1_ab2 : b1 < ab2 := Nat.lt_of_lt_of_le A1.lt hs_ab2
  have gn_ab2 : n0 ≤ ab2 := Nat.le_trans Zs1 hs_ab2
  have lt_b1_az2 : b1 < az2 := Nat.lt_of_lt_of_le A1.lt hs_az2
  have gn_az2 : n0 ≤ az2 := Nat.le_trans Zs1 hs_az2
  have lt_b1_al2 : b1 < al2 := Nat.lt_of_lt_of_le A1.lt hs_al2
  have gn_al2 : n0 ≤ al2 := Nat.le_trans Zs1 hs_al2
  have lt_b1_ac2 : b1 < ac2 := Nat.lt_of_lt_of_le A1.lt hs_ac2
  have gn_ac2 : n0 ≤ ac2 := Nat.le_trans Zs1 hs_ac2
  have Zs2 : n0 ≤ T2.heap.size := Nat.le_trans Zs1 K2q.1
  have N2 := Fr.app N0 N2q
  refine Go.tr st2 ?_
  show Go p e below _ (T2.setTop (mkF m 7 #[.val (.int i0), .val (.long xv), .second, .val (.int i3), .val (.int i4), .unset, .unset, .unset, .unset, .unset] [(.ref b1)]))
  refine Go.st (fun _ kt => XS.astore X2.here hx rfl (hb hby at_7) rfl rfl (l' := #[.val (.int i0), .val (.long xv), .second, .val (.int i3), .val (.int i4), .val (.ref b1), .unset, .unset, .unset, .unset]) rfl kt) ?_
  show Go p e below _ (T2.setTop (mkF m 9 #[.val (.int i0), .val (.long xv), .second, .val (.int i3), .val (.int i4), .val (.ref b1), .unset, .unset, .unset, .unset] []))
  refine Go.st (fun _ kt => XS.bipush X2.here hx rfl (hb hby at_9) kt) ?_
  show Go p e below _ (T2.setTop (mkF m 11 #[.val (.int i0), .val (.long xv), .second, .val (.int i3), .val (.int i4), .val (.ref b1), .unset, .unset, .unset, .unset] [(.int (8 : Int32))]))
  obtain ⟨T3, h3, k3, X3, e3, E3, A3, Y3, st3⟩ := newPE X2 hx hZ (hw _ (List.mem_of_getElem? (i := 22) rfl)) rfl (g := (mkF m 11 #[.val (.int i0), .val (.long xv), .second, .val (.int i3), .val (.int i4), .val (.ref b1), .unset, .unset, .unset, .unset] [(.int (8 : Int32))])) rfl (hb hby at_11) rfl (by decide) (cap := 8) (by decide) (by decide) (by decide) (by decide) (ad := "[B") (by decide)
  obtain ⟨b3, g3⟩ : ∃ z, z = T2.heap.size := ⟨_, rfl⟩
  rw [← g3] at A3 Y3 st3
  have f4 := (A1.keep K2q)
  have lt_b1_b3 : b1 < b3 := Nat.lt_of_lt_of_eq f4.lt g3.symm
  have lt_an2_b3 : an2 < b3 := Nat.lt_of_lt_of_eq G2_11.lt g3.symm
  have lt_ab2_b3 : ab2 < b3 := Nat.lt_of_lt_of_eq G2_12.lt g3.symm
  have lt_az2_b3 : az2 < b3 := Nat.lt_of_lt_of_eq G2_13.lt g3.symm
  have lt_al2_b3 : al2 < b3 := Nat.lt_of_lt_of_eq G2_14.lt g3.symm
  have lt_ac2_b3 : ac2 < b3 := Nat.lt_of_lt_of_eq G2_15.lt g3.symm
  have gn_b3 : n0 ≤ b3 := Nat.le_trans Zs2 (Nat.le_of_eq g3.symm)
  have Zs3 : n0 ≤ h3.size := Nat.le_trans Zs2 E3.1
  refine Go.st st3 ?_
  have V3 : AV Z h3 b3 .byte (8 : Int32) := AV.new A3 (by decide) rfl
  show Go p e below _ (T3.setTop (mkF m 13 #[.val (.int i0), .val (.long xv), .second, .val (.int i3), .val (.int i4), .val (.ref b1), .unset, .unset, .unset, .unset] [(.ref b3)]))
  refine Go.st (fun _ kt => XS.astore X3.here hx rfl (hb hby at_13) rfl rfl (l' := #[.val (.int i0), .val (.long xv), .second, .val (.int i3), .val (.int i4), .val (.ref b1), .val (.ref b3), .unset, .unset, .unset]) rfl kt) ?_
  show Go p e below _ (T3.setTop (mkF m 15 #[.val (.int i0), .val (.long xv), .second, .val (.int i3), .val (.int i4), .val (.ref b1), .val (.ref b3), .unset, .unset, .unset] []))
  have f5 := (f4.ext E3)
  have f6 := (G2_0.ext E3)
  have f7 := (G2_1.ext E3)
  have f8 := (G2_2.ext E3)
  have f9 := (G2_3.ext E3)
  have f10 := (G2_4.ext E3)
  have f11 := (G2_5.ext E3)
  have f12 := (G2_6.ext E3)
  have f13 := (G2_7.ext E3)
  have f14 := (G2_8.ext E3)
  have f15 := (G2_9.ext E3)
  have f16 := (G2_10.ext E3)
  have f17 := (G2_11.ext E3)
  have f18 := (G2_12.ext E3)
  have f19 := (G2_13.ext E3)
  have f20 := (G2_14.ext E3)
  have f21 := (G2_15.ext E3)
  have P0 : PV Z n0 h3 b1 an2 ab2 az2 al2 ac2 b3 (64 : Int32) (64 : Int32) (0 : Int32) (0 : Int32) (0 : Int32) := ⟨f5, f6, f7, f8, f9, f10, f11, ⟨_, f12⟩, f13, ⟨_, f14⟩, ⟨_, f15⟩, f16, f17, f18, f19, f20, f21, V3, gn_b1, gn_an2, gn_ab2, gn_az2, gn_al2, gn_ac2, (Nat.ne_of_lt lt_b1_an2), (Nat.ne_of_lt lt_b1_ab2), (Nat.ne_of_lt lt_b1_az2), (Nat.ne_of_lt lt_b1_al2), (Nat.ne_of_lt lt_b1_ac2), (Nat.ne_of_lt lt_b1_b3), ne_an_ab2, ne_an_az2, ne_an_al2, ne_an_ac2, (Nat.ne_of_lt lt_an2_b3), ne_ab_az2, ne_ab_al2, ne_ab_ac2, (Nat.ne_of_lt lt_ab2_b3), ne_az_al2, ne_az_ac2, (Nat.ne_of_lt lt_az2_b3), ne_al_ac2, (Nat.ne_of_lt lt_al2_b3), (Nat.ne_of_lt lt_ac2_b3)⟩
  have gna := gn_b1
  refine Go.st (fun _ kt => XS.iloadN X3.here hx rfl (hb hby at_15) rfl kt) ?_
  show Go p e below _ (T3.setTop (mkF m 16 #[.val (.int i0), .val (.long xv), .second, .val (.int i3), .val (.int i4), .val (.ref b1), .val (.ref b3), .unset, .unset, .unset] [(.int i0)]))
  refine Go.st (fun _ kt => XS.iconst X3.here hx rfl (hb hby at_16) kt) ?_
  show Go p e below _ (T3.setTop (mkF m 17 #[.val (.int i0), .val (.long xv), .second, .val (.int i3), .val (.int i4), .val (.ref b1), .val (.ref b3), .unset, .unset, .unset] [(.int (4 : Int32)), (.int i0)]))
  refine Go.st (fun _ kt => XS.iushr X3.here hx rfl (hb hby at_17) rfl kt) ?_
  show Go p e below _ (T3.setTop (mkF m 18 #[.val (.int i0), .val (.long xv), .second, .val (.int i3), .val (.int i4), .val (.ref b1), .val (.ref b3), .unset, .unset, .unset] [(.int ((i0.toUInt32 >>> ((4 : Int32) &&& 31).toUInt32).toInt32))]))
  refine Go.st (fun _ kt => XS.bipush X3.here hx rfl (hb hby at_18) kt) ?_
  show Go p e below _ (T3.setTop (mkF m 20 #[.val (.int i0), .val (.long xv), .second, .val (.int i3), .val (.int i4), .val (.ref b1), .val (.ref b3), .unset, .unset, .unset] [(.int (127 : Int32)), (.int ((i0.toUInt32 >>> ((4 : Int32) &&& 31).toUInt32).toInt32))]))
  refine Go.st (fun _ kt => XS.iand X3.here hx rfl (hb hby at_20) rfl kt) ?_
  show Go p e below _ (T3.setTop (mkF m 21 #[.val (.int i0), .val (.long xv), .second, .val (.int i3), .val (.int i4), .val (.ref b1), .val (.ref b3), .unset, .unset, .unset] [(.int (((i0.toUInt32 >>> ((4 : Int32) &&& 31).toUInt32).toInt32) &&& (127 : Int32)))]))
  have hm := own_and ((i0.toUInt32 >>> ((4 : Int32) &&& 31).toUInt32).toInt32) 127 (by decide)
  generalize hmm : ((((i0.toUInt32 >>> ((4 : Int32) &&& 31).toUInt32).toInt32) &&& (127 : Int32)) : Int32) = mm
  show Go p e below _ (T3.setTop (mkF m 21 #[.val (.int i0), .val (.long xv), .second, .val (.int i3), .val (.int i4), .val (.ref b1), .val (.ref b3), .unset, .unset, .unset] [(.int mm)]))
  rw [hmm] at hm
  have hm1 : mm.toInt ≤ 127 := hm.2
  have hm0 := hm.1
  refine Go.st (fun _ kt => XS.istore X3.here hx rfl (hb hby at_21) rfl (l' := #[.val (.int i0), .val (.long xv), .second, .val (.int i3), .val (.int i4), .val (.ref b1), .val (.ref b3), .val (.int mm), .unset, .unset]) rfl kt) ?_
  show Go p e below _ (T3.setTop (mkF m 23 #[.val (.int i0), .val (.long xv), .second, .val (.int i3), .val (.int i4), .val (.ref b1), .val (.ref b3), .val (.int mm), .unset, .unset] []))
  refine Go.st (fun _ kt => XS.aload X3.here hx rfl (hb hby at_23) rfl rfl kt) ?_
  show Go p e below _ (T3.setTop (mkF m 25 #[.val (.int i0), .val (.long xv), .second, .val (.int i3), .val (.int i4), .val (.ref b1), .val (.ref b3), .val (.int mm), .unset, .unset] [(.ref b1)]))
  refine Go.st (fun _ kt => XS.iload X3.here hx rfl (hb hby at_25) rfl kt) ?_
  show Go p e below _ (T3.setTop (mkF m 27 #[.val (.int i0), .val (.long xv), .second, .val (.int i3), .val (.int i4), .val (.ref b1), .val (.ref b3), .val (.int mm), .unset, .unset] [(.int mm), (.ref b1)]))
  obtain ⟨cq22, kq22, q22a, q22b, q22c⟩ := isOf hZ e3 P0.1
  obtain ⟨_, _, ⟨T22, L22, k22, n22⟩, -, X22, ⟨Lc22, hQ22, l22, y22, z22⟩, st22⟩ := X3.virtualBack hx (y := (⟨"com/example/rowsieve/rowsieve/data/PageValues", "clear", "(I)V"⟩ : MethodName)) (z := (⟨"com/example/rowsieve/rowsieve/data/PageValues", "clear", "(I)V"⟩ : MethodName)) hown (mvT hZ (hw _ (List.mem_of_getElem? (i := 25) rfl))) (mvT hZ (hw _ (List.mem_of_getElem? (i := 26) rfl))) (notFace_of_selects (args := #[]) (mvT hZ (hw _ (List.mem_of_getElem? (i := 28) rfl)))) (mvT hZ (hw _ (List.mem_of_getElem? (i := 28) rfl))) (mvT hZ (hw _ (List.mem_of_getElem? (i := 27) rfl))) (by decide) (backOf (W := 0) (rm3 l Z a0 hw [] b1 mm an2 ab2 az2 al2 ac2 b3 (64 : Int32) (64 : Int32) (0 : Int32) (0 : Int32) (0 : Int32) h3 n0 Zs3 P0 hm0 (by omega)) hZ (hw _ (List.mem_of_getElem? (i := 29) rfl)) (hw _ (List.mem_of_getElem? (i := 2) rfl)) (by decide) (by decide)) q22a q22c (g := (mkF m 27 #[.val (.int i0), .val (.long xv), .second, .val (.int i3), .val (.int i4), .val (.ref b1), .val (.ref b3), .val (.int mm), .unset, .unset] [(.int mm), (.ref b1)])) rfl (by rw [hml]; rfl) (Steps.refl _) (argsL := [(.int mm)]) (rest := []) (lenOf own_pd8 rfl) rfl (by show 2 * 0 + _ ≤ _; exact Nat.le_of_eq rfl) (hb hby at_27) (fun _ _ => ⟨rfl, e3, (by decide : 8 + 1 ≤ _), (by decide : 404 + 255 ≤ _)⟩)
  dsimp only [Pt.U, Pt.locs, Pt.cells, Pt.slots] at X22 l22 y22 z22 st22 hQ22
  subst l22 y22 z22
  obtain ⟨an'22, nl'22, rfl, N22q, P22, hq22, hq222⟩ := hQ22
  have Zs22 : n0 ≤ T22.heap.size := Nat.le_trans gna (Nat.le_of_lt P22.1.lt)
  have N22 := Fr.app N2 N22q
  refine Go.tr st22 ?_
  show Go p e below _ (T22.setTop (mkF m 30 #[.val (.int i0), .val (.long xv), .second, .val (.int i3), .val (.int i4), .val (.ref b1), .val (.ref b3), .val (.int mm), .unset, .unset] []))
  have e64 : (64 : Int32).toInt = 64 := by decide
  have hn64 : 64 ≤ nl'22.toInt := by omega
  have hb64 : 64 ≤ (64 : Int32).toInt := by decide
  have hr0 : 0 ≤ (0 : Int32).toInt ∧ (0 : Int32).toInt < nl'22.toInt := ⟨by decide, by rw [own_z]; omega⟩
  have e1 : ((0 : Int32) + (1 : Int32)).toInt = 1 := by decide
  have hr1 : 0 ≤ ((0 : Int32) + (1 : Int32)).toInt ∧ ((0 : Int32) + (1 : Int32)).toInt < nl'22.toInt := ⟨by decide, by rw [e1]; omega⟩
  have J92 : ∀ (TJ : State) (locsJ : List Loc) (hJ : Heap) (anJ : Addr) (abJ : Addr) (nlJ : Int32) (blJ : Int32) (rJ : Int32) (cJ : Int32) (ceJ : Int32), Stand p l e room_1 s m #[(.int i0), (.long xv), (.int i3), (.int i4)] below meth c TJ locsJ 24 1500 → TJ.heap = hJ → Fr n0 locsJ → n0 ≤ hJ.size → PV Z n0 hJ b1 anJ abJ az2 al2 ac2 b3 nlJ blJ rJ cJ ceJ → 64 ≤ blJ.toInt → blJ.toInt ≤ 128 → Go p e below (fun s₂ o_ => ∃ v_ L_, o_ = .returned v_ ∧ (Q_rm0 Z i0 xv i3 i4 h0 n0) v_ s₂.heap L_ ∧ FrameEnd s o_ s₂ L_ room_1.cells room_1.slots) (TJ.setTop (mkF m 92 #[.val (.int i0), .val (.long xv), .second, .val (.int i3), .val (.int i4), .val (.ref b1), .val (.ref b3), .val (.int mm), .unset, .unset] [])) := by
    intro TJ locsJ hJ anJ abJ nlJ blJ rJ cJ ceJ XJ eJ NJ ZJ PJ hJ1 hJ2
    show Go p e below _ (TJ.setTop (mkF m 92 #[.val (.int i0), .val (.long xv), .second, .val (.int i3), .val (.int i4), .val (.ref b1), .val (.ref b3), .val (.int mm), .unset, .unset] []))
    refine Go.st (fun _ kt => XS.iload XJ.here hx rfl (hb hby at_92) rfl kt) ?_
    show Go p e below _ (TJ.setTop (mkF m 94 #[.val (.int i0), .val (.long xv), .second, .val (.int i3), .val (.int i4), .val (.ref b1), .val (.ref b3), .val (.int mm), .unset, .unset] [(.int i4)]))
    refine Go.st (fun _ kt => XS.sipush XJ.here hx rfl (hb hby at_94) kt) ?_
    show Go p e below _ (TJ.setTop (mkF m 97 #[.val (.int i0), .val (.long xv), .second, .val (.int i3), .val (.int i4), .val (.ref b1), .val (.ref b3), .val (.int mm), .unset, .unset] [(.int (255 : Int32)), (.int i4)]))
    refine Go.st (fun _ kt => XS.iand XJ.here hx rfl (hb hby at_97) rfl kt) ?_
    show Go p e below _ (TJ.setTop (mkF m 98 #[.val (.int i0), .val (.long xv), .second, .val (.int i3), .val (.int i4), .val (.ref b1), .val (.ref b3), .val (.int mm), .unset, .unset] [(.int (i4 &&& (255 : Int32)))]))
    have hn := own_and i4 255 (by decide)
    generalize hnn : ((i4 &&& (255 : Int32)) : Int32) = nn
    show Go p e below _ (TJ.setTop (mkF m 98 #[.val (.int i0), .val (.long xv), .second, .val (.int i3), .val (.int i4), .val (.ref b1), .val (.ref b3), .val (.int mm), .unset, .unset] [(.int nn)]))
    rw [hnn] at hn
    have hn1 : nn.toInt ≤ 255 := hn.2
    have hn0 := hn.1
    refine Go.st (fun _ kt => XS.istore XJ.here hx rfl (hb hby at_98) rfl (l' := #[.val (.int i0), .val (.long xv), .second, .val (.int i3), .val (.int i4), .val (.ref b1), .val (.ref b3), .val (.int mm), .val (.int nn), .unset]) rfl kt) ?_
    show Go p e below _ (TJ.setTop (mkF m 100 #[.val (.int i0), .val (.long xv), .second, .val (.int i3), .val (.int i4), .val (.ref b1), .val (.ref b3), .val (.int mm), .val (.int nn), .unset] []))
    refine Go.st (fun _ kt => XS.aload XJ.here hx rfl (hb hby at_100) rfl rfl kt) ?_
    show Go p e below _ (TJ.setTop (mkF m 102 #[.val (.int i0), .val (.long xv), .second, .val (.int i3), .val (.int i4), .val (.ref b1), .val (.ref b3), .val (.int mm), .val (.int nn), .unset] [(.ref b1)]))
    refine Go.st (fun _ kt => XS.iload XJ.here hx rfl (hb hby at_102) rfl kt) ?_
    show Go p e below _ (TJ.setTop (mkF m 104 #[.val (.int i0), .val (.long xv), .second, .val (.int i3), .val (.int i4), .val (.ref b1), .val (.ref b3), .val (.int mm), .val (.int nn), .unset] [(.int nn), (.ref b1)]))
    obtain ⟨cq23, kq23, q23a, q23b, q23c⟩ := isOf hZ eJ PJ.1
    obtain ⟨_, _, ⟨T23, L23, k23, n23⟩, -, X23, ⟨Lc23, hQ23, l23, y23, z23⟩, st23⟩ := XJ.virtualBack hx (y := (⟨"com/example/rowsieve/rowsieve/data/PageValues", "clear", "(I)V"⟩ : MethodName)) (z := (⟨"com/example/rowsieve/rowsieve/data/PageValues", "clear", "(I)V"⟩ : MethodName)) hown (mvT hZ (hw _ (List.mem_of_getElem? (i := 25) rfl))) (mvT hZ (hw _ (List.mem_of_getElem? (i := 26) rfl))) (notFace_of_selects (args := #[]) (mvT hZ (hw _ (List.mem_of_getElem? (i := 28) rfl)))) (mvT hZ (hw _ (List.mem_of_getElem? (i := 28) rfl))) (mvT hZ (hw _ (List.mem_of_getElem? (i := 27) rfl))) (by decide) (backOf (W := 0) (rm3 l Z a0 hw [] b1 nn anJ abJ az2 al2 ac2 b3 nlJ blJ rJ cJ ceJ hJ n0 ZJ PJ hn0 hn1) hZ (hw _ (List.mem_of_getElem? (i := 29) rfl)) (hw _ (List.mem_of_getElem? (i := 2) rfl)) (by decide) (by decide)) q23a q23c (g := (mkF m 104 #[.val (.int i0), .val (.long xv), .second, .val (.int i3), .val (.int i4), .val (.ref b1), .val (.ref b3), .val (.int mm), .val (.int nn), .unset] [(.int nn), (.ref b1)])) rfl (by rw [hml]; rfl) (Steps.refl _) (argsL := [(.int nn)]) (rest := []) (lenOf own_pd8 rfl) rfl (by show 2 * 0 + _ ≤ _; exact Nat.le_of_eq rfl) (hb hby at_104) (fun _ _ => ⟨rfl, eJ, (by decide : 24 + 1 ≤ _), (by decide : 1500 + 255 ≤ _)⟩)
    dsimp only [Pt.U, Pt.locs, Pt.cells, Pt.slots] at X23 l23 y23 z23 st23 hQ23
    subst l23 y23 z23
    obtain ⟨an'23, nl'23, rfl, N23q, P23, hq23, hq223⟩ := hQ23
    have Zs23 : n0 ≤ T23.heap.size := Nat.le_trans gna (Nat.le_of_lt P23.1.lt)
    have N23 := Fr.app NJ N23q
    refine Go.tr st23 ?_
    show Go p e below _ (T23.setTop (mkF m 107 #[.val (.int i0), .val (.long xv), .second, .val (.int i3), .val (.int i4), .val (.ref b1), .val (.ref b3), .val (.int mm), .val (.int nn), .unset] []))
    refine Go.st (fun _ kt => XS.aload X23.here hx rfl (hb hby at_107) rfl rfl kt) ?_
    show Go p e below _ (T23.setTop (mkF m 109 #[.val (.int i0), .val (.long xv), .second, .val (.int i3), .val (.int i4), .val (.ref b1), .val (.ref b3), .val (.int mm), .val (.int nn), .unset] [(.ref b1)]))
    obtain ⟨cq24, kq24, q24a, q24b, q24c⟩ := isOf hZ rfl P23.1
    obtain ⟨_, _, ⟨T24, L24, k24, n24⟩, -, X24, ⟨Lc24, hQ24, l24, y24, z24⟩, st24⟩ := X23.virtualBack hx (y := (⟨"com/example/rowsieve/rowsieve/data/PageValues", "rows", "()I"⟩ : MethodName)) (z := (⟨"com/example/rowsieve/rowsieve/data/PageValues", "rows", "()I"⟩ : MethodName)) hown (mvT hZ (hw _ (List.mem_of_getElem? (i := 42) rfl))) (mvT hZ (hw _ (List.mem_of_getElem? (i := 43) rfl))) (notFace_of_selects (args := #[]) (mvT hZ (hw _ (List.mem_of_getElem? (i := 45) rfl)))) (mvT hZ (hw _ (List.mem_of_getElem? (i := 45) rfl))) (mvT hZ (hw _ (List.mem_of_getElem? (i := 44) rfl))) (by decide) (backOf (W := 0) (rm4 l Z a0 hw [] b1 an'23 abJ az2 al2 ac2 b3 nl'23 blJ (0 : Int32) (0 : Int32) (0 : Int32) T23.heap n0 Zs23 P23) hZ (hw _ (List.mem_of_getElem? (i := 46) rfl)) (hw _ (List.mem_of_getElem? (i := 2) rfl)) (by decide) (by decide)) q24a q24c (g := (mkF m 109 #[.val (.int i0), .val (.long xv), .second, .val (.int i3), .val (.int i4), .val (.ref b1), .val (.ref b3), .val (.int mm), .val (.int nn), .unset] [(.ref b1)])) rfl (by rw [hml]; rfl) (Steps.refl _) (argsL := []) (rest := []) (lenOf own_pd10 rfl) rfl (by show 2 * 0 + _ ≤ _; exact Nat.le_of_eq rfl) (hb hby at_109) (fun _ _ => ⟨rfl, rfl, (by decide : 25 + 0 ≤ _), (by decide : 1755 + 0 ≤ _)⟩)
    dsimp only [Pt.U, Pt.locs, Pt.cells, Pt.slots] at X24 l24 y24 z24 st24 hQ24
    subst l24 y24 z24
    obtain ⟨rfl, N24q, e24⟩ := hQ24
    have N24 := Fr.app N23 N24q
    refine Go.tr st24 ?_
    show Go p e below _ (T24.setTop (mkF m 112 #[.val (.int i0), .val (.long xv), .second, .val (.int i3), .val (.int i4), .val (.ref b1), .val (.ref b3), .val (.int mm), .val (.int nn), .unset] [(.int (0 : Int32))]))
    refine Go.st (fun _ kt => XS.ifNo X24.here hx rfl (hb hby at_112) rfl ((if0 _ _).trans (teq (by decide : (0 : Int32) = (0 : Int32))).2) kt) ?_
    show Go p e below _ (T24.setTop (mkF m 115 #[.val (.int i0), .val (.long xv), .second, .val (.int i3), .val (.int i4), .val (.ref b1), .val (.ref b3), .val (.int mm), .val (.int nn), .unset] []))
    refine Go.st (fun _ kt => XS.aload X24.here hx rfl (hb hby at_115) rfl rfl kt) ?_
    show Go p e below _ (T24.setTop (mkF m 117 #[.val (.int i0), .val (.long xv), .second, .val (.int i3), .val (.int i4), .val (.ref b1), .val (.ref b3), .val (.int mm), .val (.int nn), .unset] [(.ref b1)]))
    obtain ⟨cq25, kq25, q25a, q25b, q25c⟩ := isOf hZ e24 P23.1
    obtain ⟨_, _, ⟨T25, L25, k25, n25⟩, -, X25, ⟨Lc25, hQ25, l25, y25, z25⟩, st25⟩ := X24.virtualBack hx (y := (⟨"com/example/rowsieve/rowsieve/data/PageValues", "count", "()I"⟩ : MethodName)) (z := (⟨"com/example/rowsieve/rowsieve/data/PageValues", "count", "()I"⟩ : MethodName)) hown (mvT hZ (hw _ (List.mem_of_getElem? (i := 47) rfl))) (mvT hZ (hw _ (List.mem_of_getElem? (i := 48) rfl))) (notFace_of_selects (args := #[]) (mvT hZ (hw _ (List.mem_of_getElem? (i := 50) rfl)))) (mvT hZ (hw _ (List.mem_of_getElem? (i := 50) rfl))) (mvT hZ (hw _ (List.mem_of_getElem? (i := 49) rfl))) (by decide) (backOf (W := 0) (rm5 l Z a0 hw [] b1 an'23 abJ az2 al2 ac2 b3 nl'23 blJ (0 : Int32) (0 : Int32) (0 : Int32) T23.heap n0 Zs23 P23) hZ (hw _ (List.mem_of_getElem? (i := 51) rfl)) (hw _ (List.mem_of_getElem? (i := 2) rfl)) (by decide) (by decide)) q25a q25c (g := (mkF m 117 #[.val (.int i0), .val (.long xv), .second, .val (.int i3), .val (.int i4), .val (.ref b1), .val (.ref b3), .val (.int mm), .val (.int nn), .unset] [(.ref b1)])) rfl (by rw [hml]; rfl) (Steps.refl _) (argsL := []) (rest := []) (lenOf own_pd10 rfl) rfl (by show 2 * 0 + _ ≤ _; exact Nat.le_of_eq rfl) (hb hby at_117) (fun _ _ => ⟨rfl, e24, (by decide : 25 + 0 ≤ _), (by decide : 1755 + 0 ≤ _)⟩)
    dsimp only [Pt.U, Pt.locs, Pt.cells, Pt.slots] at X25 l25 y25 z25 st25 hQ25
    subst l25 y25 z25
    obtain ⟨rfl, N25q, e25⟩ := hQ25
    have N25 := Fr.app N24 N25q
    refine Go.tr st25 ?_
    show Go p e below _ (T25.setTop (mkF m 120 #[.val (.int i0), .val (.long xv), .second, .val (.int i3), .val (.int i4), .val (.ref b1), .val (.ref b3), .val (.int mm), .val (.int nn), .unset] [(.int (0 : Int32))]))
    refine Go.st (fun _ kt => XS.ifNo X25.here hx rfl (hb hby at_120) rfl ((if0 _ _).trans (teq (by decide : (0 : Int32) = (0 : Int32))).2) kt) ?_
    show Go p e below _ (T25.setTop (mkF m 123 #[.val (.int i0), .val (.long xv), .second, .val (.int i3), .val (.int i4), .val (.ref b1), .val (.ref b3), .val (.int mm), .val (.int nn), .unset] []))
    refine Go.st (fun _ kt => XS.aload X25.here hx rfl (hb hby at_123) rfl rfl kt) ?_
    show Go p e below _ (T25.setTop (mkF m 125 #[.val (.int i0), .val (.long xv), .second, .val (.int i3), .val (.int i4), .val (.ref b1), .val (.ref b3), .val (.int mm), .val (.int nn), .unset] [(.ref b1)]))
    obtain ⟨cq26, kq26, q26a, q26b, q26c⟩ := isOf hZ e25 P23.1
    obtain ⟨_, _, ⟨T26, L26, k26, n26⟩, -, X26, ⟨Lc26, hQ26, l26, y26, z26⟩, st26⟩ := X25.virtualBack hx (y := (⟨"com/example/rowsieve/rowsieve/data/PageValues", "bytesCopied", "()I"⟩ : MethodName)) (z := (⟨"com/example/rowsieve/rowsieve/data/PageValues", "bytesCopied", "()I"⟩ : MethodName)) hown (mvT hZ (hw _ (List.mem_of_getElem? (i := 52) rfl))) (mvT hZ (hw _ (List.mem_of_getElem? (i := 53) rfl))) (notFace_of_selects (args := #[]) (mvT hZ (hw _ (List.mem_of_getElem? (i := 55) rfl)))) (mvT hZ (hw _ (List.mem_of_getElem? (i := 55) rfl))) (mvT hZ (hw _ (List.mem_of_getElem? (i := 54) rfl))) (by decide) (backOf (W := 0) (rm6 l Z a0 hw [] b1 an'23 abJ az2 al2 ac2 b3 nl'23 blJ (0 : Int32) (0 : Int32) (0 : Int32) T23.heap n0 Zs23 P23) hZ (hw _ (List.mem_of_getElem? (i := 56) rfl)) (hw _ (List.mem_of_getElem? (i := 2) rfl)) (by decide) (by decide)) q26a q26c (g := (mkF m 125 #[.val (.int i0), .val (.long xv), .second, .val (.int i3), .val (.int i4), .val (.ref b1), .val (.ref b3), .val (.int mm), .val (.int nn), .unset] [(.ref b1)])) rfl (by rw [hml]; rfl) (Steps.refl _) (argsL := []) (rest := []) (lenOf own_pd10 rfl) rfl (by show 2 * 0 + _ ≤ _; exact Nat.le_of_eq rfl) (hb hby at_125) (fun _ _ => ⟨rfl, e25, (by decide : 25 + 0 ≤ _), (by decide : 1755 + 0 ≤ _)⟩)
    dsimp only [Pt.U, Pt.locs, Pt.cells, Pt.slots] at X26 l26 y26 z26 st26 hQ26
    subst l26 y26 z26
    obtain ⟨rfl, N26q, e26⟩ := hQ26
    have N26 := Fr.app N25 N26q
    refine Go.tr st26 ?_
    show Go p e below _ (T26.setTop (mkF m 128 #[.val (.int i0), .val (.long xv), .second, .val (.int i3), .val (.int i4), .val (.ref b1), .val (.ref b3), .val (.int mm), .val (.int nn), .unset] [(.int (0 : Int32))]))
    refine Go.st (fun _ kt => XS.ifNo X26.here hx rfl (hb hby at_128) rfl ((if0 _ _).trans (teq (by decide : (0 : Int32) = (0 : Int32))).2) kt) ?_
    show Go p e below _ (T26.setTop (mkF m 131 #[.val (.int i0), .val (.long xv), .second, .val (.int i3), .val (.int i4), .val (.ref b1), .val (.ref b3), .val (.int mm), .val (.int nn), .unset] []))
    refine Go.st (fun _ kt => XS.iconst X26.here hx rfl (hb hby at_131) kt) ?_
    show Go p e below _ (T26.setTop (mkF m 132 #[.val (.int i0), .val (.long xv), .second, .val (.int i3), .val (.int i4), .val (.ref b1), .val (.ref b3), .val (.int mm), .val (.int nn), .unset] [(.int (1 : Int32))]))
    refine Go.st (fun _ kt => XS.goto X26.here hx rfl (pc0 := 132) (pc' := 136) rfl (hb hby at_132) (by decide) (by decide) kt) ?_
    show Go p e below _ (T26.setTop (mkF m 136 #[.val (.int i0), .val (.long xv), .second, .val (.int i3), .val (.int i4), .val (.ref b1), .val (.ref b3), .val (.int mm), .val (.int nn), .unset] [(.int (1 : Int32))]))
    refine Go.st (fun _ kt => XS.istore X26.here hx rfl (hb hby at_136) rfl (l' := #[.val (.int i0), .val (.long xv), .second, .val (.int i3), .val (.int i4), .val (.ref b1), .val (.ref b3), .val (.int mm), .val (.int nn), .val (.int (1 : Int32))]) rfl kt) ?_
    show Go p e below _ (T26.setTop (mkF m 138 #[.val (.int i0), .val (.long xv), .second, .val (.int i3), .val (.int i4), .val (.ref b1), .val (.ref b3), .val (.int mm), .val (.int nn), .val (.int (1 : Int32))] []))
    refine Go.st (fun _ kt => XS.aload X26.here hx rfl (hb hby at_138) rfl rfl kt) ?_
    show Go p e below _ (T26.setTop (mkF m 140 #[.val (.int i0), .val (.long xv), .second, .val (.int i3), .val (.int i4), .val (.ref b1), .val (.ref b3), .val (.int mm), .val (.int nn), .val (.int (1 : Int32))] [(.ref b1)]))
    refine Go.st (fun _ kt => XS.iload X26.here hx rfl (hb hby at_140) rfl kt) ?_
    show Go p e below _ (T26.setTop (mkF m 142 #[.val (.int i0), .val (.long xv), .second, .val (.int i3), .val (.int i4), .val (.ref b1), .val (.ref b3), .val (.int mm), .val (.int nn), .val (.int (1 : Int32))] [(.int nn), (.ref b1)]))
    obtain ⟨cq27, kq27, q27a, q27b, q27c⟩ := isOf hZ e26 P23.1
    obtain ⟨_, _, ⟨T27, L27, k27, n27⟩, -, X27, ⟨Lc27, hQ27, l27, y27, z27⟩, st27⟩ := X26.virtualBack hx (y := (⟨"com/example/rowsieve/rowsieve/data/PageValues", "addBits", "(I)[J"⟩ : MethodName)) (z := (⟨"com/example/rowsieve/rowsieve/data/PageValues", "addBits", "(I)[J"⟩ : MethodName)) hown (mvT hZ (hw _ (List.mem_of_getElem? (i := 57) rfl))) (mvT hZ (hw _ (List.mem_of_getElem? (i := 58) rfl))) (notFace_of_selects (args := #[]) (mvT hZ (hw _ (List.mem_of_getElem? (i := 60) rfl)))) (mvT hZ (hw _ (List.mem_of_getElem? (i := 60) rfl))) (mvT hZ (hw _ (List.mem_of_getElem? (i := 59) rfl))) (by decide) (backOf (W := 0) (rm7 l Z a0 hw [] b1 nn an'23 abJ az2 al2 ac2 b3 nl'23 blJ (0 : Int32) (0 : Int32) (0 : Int32) T23.heap n0 Zs23 P23 hn0 hn1 hq23 hJ1 hJ2) hZ (hw _ (List.mem_of_getElem? (i := 61) rfl)) (hw _ (List.mem_of_getElem? (i := 2) rfl)) (by decide) (by decide)) q27a q27c (g := (mkF m 142 #[.val (.int i0), .val (.long xv), .second, .val (.int i3), .val (.int i4), .val (.ref b1), .val (.ref b3), .val (.int mm), .val (.int nn), .val (.int (1 : Int32))] [(.int nn), (.ref b1)])) rfl (by rw [hml]; rfl) (Steps.refl _) (argsL := [(.int nn)]) (rest := []) (lenOf own_pd11 rfl) rfl (by show 2 * 0 + _ ≤ _; exact Nat.le_of_eq rfl) (hb hby at_142) (fun _ _ => ⟨rfl, e26, (by decide : 25 + 1 ≤ _), (by decide : 1755 + 256 ≤ _)⟩)
    dsimp only [Pt.U, Pt.locs, Pt.cells, Pt.slots] at X27 l27 y27 z27 st27 hQ27
    subst l27 y27 z27
    obtain ⟨ab'27, bl'27, rfl, N27q, P27, hb27⟩ := hQ27
    have Zs27 : n0 ≤ T27.heap.size := Nat.le_trans gna (Nat.le_of_lt P27.1.lt)
    have N27 := Fr.app N26 N27q
    refine Go.tr st27 ?_
    show Go p e below _ (T27.setTop (mkF m 145 #[.val (.int i0), .val (.long xv), .second, .val (.int i3), .val (.int i4), .val (.ref b1), .val (.ref b3), .val (.int mm), .val (.int nn), .val (.int (1 : Int32))] [(.ref ab'27)]))
    refine Go.st (fun _ kt => XS.pop X27.here hx rfl (hb hby at_145) rfl rfl kt) ?_
    show Go p e below _ (T27.setTop (mkF m 146 #[.val (.int i0), .val (.long xv), .second, .val (.int i3), .val (.int i4), .val (.ref b1), .val (.ref b3), .val (.int mm), .val (.int nn), .val (.int (1 : Int32))] []))
    refine Go.st (fun _ kt => XS.iload X27.here hx rfl (hb hby at_146) rfl kt) ?_
    show Go p e below _ (T27.setTop (mkF m 148 #[.val (.int i0), .val (.long xv), .second, .val (.int i3), .val (.int i4), .val (.ref b1), .val (.ref b3), .val (.int mm), .val (.int nn), .val (.int (1 : Int32))] [(.int (1 : Int32))]))
    refine Go.st (fun _ kt => XS.ifNo X27.here hx rfl (hb hby at_148) rfl ((if0 _ _).trans (feq (by decide : ¬ ((1 : Int32) = (0 : Int32)))).1) kt) ?_
    show Go p e below _ (T27.setTop (mkF m 151 #[.val (.int i0), .val (.long xv), .second, .val (.int i3), .val (.int i4), .val (.ref b1), .val (.ref b3), .val (.int mm), .val (.int nn), .val (.int (1 : Int32))] []))
    refine Go.st (fun _ kt => XS.aload X27.here hx rfl (hb hby at_151) rfl rfl kt) ?_
    show Go p e below _ (T27.setTop (mkF m 153 #[.val (.int i0), .val (.long xv), .second, .val (.int i3), .val (.int i4), .val (.ref b1), .val (.ref b3), .val (.int mm), .val (.int nn), .val (.int (1 : Int32))] [(.ref b1)]))
    obtain ⟨cq28, kq28, q28a, q28b, q28c⟩ := isOf hZ rfl P27.1
    obtain ⟨_, _, ⟨T28, L28, k28, n28⟩, -, X28, ⟨Lc28, hQ28, l28, y28, z28⟩, st28⟩ := X27.virtualBack hx (y := (⟨"com/example/rowsieve/rowsieve/data/PageValues", "rows", "()I"⟩ : MethodName)) (z := (⟨"com/example/rowsieve/rowsieve/data/PageValues", "rows", "()I"⟩ : MethodName)) hown (mvT hZ (hw _ (List.mem_of_getElem? (i := 42) rfl))) (mvT hZ (hw _ (List.mem_of_getElem? (i := 43) rfl))) (notFace_of_selects (args := #[]) (mvT hZ (hw _ (List.mem_of_getElem? (i := 45) rfl)))) (mvT hZ (hw _ (List.mem_of_getElem? (i := 45) rfl))) (mvT hZ (hw _ (List.mem_of_getElem? (i := 44) rfl))) (by decide) (backOf (W := 0) (rm4 l Z a0 hw [] b1 an'23 ab'27 az2 al2 ac2 b3 nl'23 bl'27 ((0 : Int32) + nn) ((0 : Int32) + nn) (0 : Int32) T27.heap n0 Zs27 P27) hZ (hw _ (List.mem_of_getElem? (i := 46) rfl)) (hw _ (List.mem_of_getElem? (i := 2) rfl)) (by decide) (by decide)) q28a q28c (g := (mkF m 153 #[.val (.int i0), .val (.long xv), .second, .val (.int i3), .val (.int i4), .val (.ref b1), .val (.ref b3), .val (.int mm), .val (.int nn), .val (.int (1 : Int32))] [(.ref b1)])) rfl (by rw [hml]; rfl) (Steps.refl _) (argsL := []) (rest := []) (lenOf own_pd10 rfl) rfl (by show 2 * 0 + _ ≤ _; exact Nat.le_of_eq rfl) (hb hby at_153) (fun _ _ => ⟨rfl, rfl, (by decide : 26 + 0 ≤ _), (by decide : 2011 + 0 ≤ _)⟩)
    dsimp only [Pt.U, Pt.locs, Pt.cells, Pt.slots] at X28 l28 y28 z28 st28 hQ28
    subst l28 y28 z28
    obtain ⟨rfl, N28q, e28⟩ := hQ28
    have N28 := Fr.app N27 N28q
    refine Go.tr st28 ?_
    show Go p e below _ (T28.setTop (mkF m 156 #[.val (.int i0), .val (.long xv), .second, .val (.int i3), .val (.int i4), .val (.ref b1), .val (.ref b3), .val (.int mm), .val (.int nn), .val (.int (1 : Int32))] [(.int ((0 : Int32) + nn))]))
    refine Go.st (fun _ kt => XS.iload X28.here hx rfl (hb hby at_156) rfl kt) ?_
    show Go p e below _ (T28.setTop (mkF m 158 #[.val (.int i0), .val (.long xv), .second, .val (.int i3), .val (.int i4), .val (.ref b1), .val (.ref b3), .val (.int mm), .val (.int nn), .val (.int (1 : Int32))] [(.int nn), (.int ((0 : Int32) + nn))]))
    refine Go.st (fun _ kt => XS.icmpNo X28.here hx rfl (hb hby at_158) rfl (teq (Int32.zero_add _)).2 kt) ?_
    show Go p e below _ (T28.setTop (mkF m 161 #[.val (.int i0), .val (.long xv), .second, .val (.int i3), .val (.int i4), .val (.ref b1), .val (.ref b3), .val (.int mm), .val (.int nn), .val (.int (1 : Int32))] []))
    refine Go.st (fun _ kt => XS.aload X28.here hx rfl (hb hby at_161) rfl rfl kt) ?_
    show Go p e below _ (T28.setTop (mkF m 163 #[.val (.int i0), .val (.long xv), .second, .val (.int i3), .val (.int i4), .val (.ref b1), .val (.ref b3), .val (.int mm), .val (.int nn), .val (.int (1 : Int32))] [(.ref b1)]))
    obtain ⟨cq29, kq29, q29a, q29b, q29c⟩ := isOf hZ e28 P27.1
    obtain ⟨_, _, ⟨T29, L29, k29, n29⟩, -, X29, ⟨Lc29, hQ29, l29, y29, z29⟩, st29⟩ := X28.virtualBack hx (y := (⟨"com/example/rowsieve/rowsieve/data/PageValues", "count", "()I"⟩ : MethodName)) (z := (⟨"com/example/rowsieve/rowsieve/data/PageValues", "count", "()I"⟩ : MethodName)) hown (mvT hZ (hw _ (List.mem_of_getElem? (i := 47) rfl))) (mvT hZ (hw _ (List.mem_of_getElem? (i := 48) rfl))) (notFace_of_selects (args := #[]) (mvT hZ (hw _ (List.mem_of_getElem? (i := 50) rfl)))) (mvT hZ (hw _ (List.mem_of_getElem? (i := 50) rfl))) (mvT hZ (hw _ (List.mem_of_getElem? (i := 49) rfl))) (by decide) (backOf (W := 0) (rm5 l Z a0 hw [] b1 an'23 ab'27 az2 al2 ac2 b3 nl'23 bl'27 ((0 : Int32) + nn) ((0 : Int32) + nn) (0 : Int32) T27.heap n0 Zs27 P27) hZ (hw _ (List.mem_of_getElem? (i := 51) rfl)) (hw _ (List.mem_of_getElem? (i := 2) rfl)) (by decide) (by decide)) q29a q29c (g := (mkF m 163 #[.val (.int i0), .val (.long xv), .second, .val (.int i3), .val (.int i4), .val (.ref b1), .val (.ref b3), .val (.int mm), .val (.int nn), .val (.int (1 : Int32))] [(.ref b1)])) rfl (by rw [hml]; rfl) (Steps.refl _) (argsL := []) (rest := []) (lenOf own_pd10 rfl) rfl (by show 2 * 0 + _ ≤ _; exact Nat.le_of_eq rfl) (hb hby at_163) (fun _ _ => ⟨rfl, e28, (by decide : 26 + 0 ≤ _), (by decide : 2011 + 0 ≤ _)⟩)
    dsimp only [Pt.U, Pt.locs, Pt.cells, Pt.slots] at X29 l29 y29 z29 st29 hQ29
    subst l29 y29 z29
    obtain ⟨rfl, N29q, e29⟩ := hQ29
    have N29 := Fr.app N28 N29q
    refine Go.tr st29 ?_
    show Go p e below _ (T29.setTop (mkF m 166 #[.val (.int i0), .val (.long xv), .second, .val (.int i3), .val (.int i4), .val (.ref b1), .val (.ref b3), .val (.int mm), .val (.int nn), .val (.int (1 : Int32))] [(.int ((0 : Int32) + nn))]))
    refine Go.st (fun _ kt => XS.iload X29.here hx rfl (hb hby at_166) rfl kt) ?_
    show Go p e below _ (T29.setTop (mkF m 168 #[.val (.int i0), .val (.long xv), .second, .val (.int i3), .val (.int i4), .val (.ref b1), .val (.ref b3), .val (.int mm), .val (.int nn), .val (.int (1 : Int32))] [(.int nn), (.int ((0 : Int32) + nn))]))
    refine Go.st (fun _ kt => XS.icmpNo X29.here hx rfl (hb hby at_168) rfl (teq (Int32.zero_add _)).2 kt) ?_
    show Go p e below _ (T29.setTop (mkF m 171 #[.val (.int i0), .val (.long xv), .second, .val (.int i3), .val (.int i4), .val (.ref b1), .val (.ref b3), .val (.int mm), .val (.int nn), .val (.int (1 : Int32))] []))
    refine Go.st (fun _ kt => XS.iconst X29.here hx rfl (hb hby at_171) kt) ?_
    show Go p e below _ (T29.setTop (mkF m 172 #[.val (.int i0), .val (.long xv), .second, .val (.int i3), .val (.int i4), .val (.ref b1), .val (.ref b3), .val (.int mm), .val (.int nn), .val (.int (1 : Int32))] [(.int (1 : Int32))]))
    refine Go.st (fun _ kt => XS.goto X29.here hx rfl (pc0 := 172) (pc' := 176) rfl (hb hby at_172) (by decide) (by decide) kt) ?_
    show Go p e below _ (T29.setTop (mkF m 176 #[.val (.int i0), .val (.long xv), .second, .val (.int i3), .val (.int i4), .val (.ref b1), .val (.ref b3), .val (.int mm), .val (.int nn), .val (.int (1 : Int32))] [(.int (1 : Int32))]))
    refine Go.retN X29 hx (t := .boolean) Bd.returns (by simp) (BodyLoose.notSynchronized Bd) (hb hby at_176) (Q := (Q_rm0 Z i0 xv i3 i4 h0 n0)) (by decide) (by decide) ?_
    show (Q_rm0 Z i0 xv i3 i4 h0 n0) _ T29.heap _
    rw [e29]
    exact ⟨rfl, N29⟩
  show Go p e below _ (T22.setTop (mkF m 30 #[.val (.int i0), .val (.long xv), .second, .val (.int i3), .val (.int i4), .val (.ref b1), .val (.ref b3), .val (.int mm), .unset, .unset] []))
  refine Go.st (fun _ kt => XS.iloadN X22.here hx rfl (hb hby at_30) rfl kt) ?_
  show Go p e below _ (T22.setTop (mkF m 31 #[.val (.int i0), .val (.long xv), .second, .val (.int i3), .val (.int i4), .val (.ref b1), .val (.ref b3), .val (.int mm), .unset, .unset] [(.int i0)]))
  refine Go.st (fun _ kt => XS.iconst X22.here hx rfl (hb hby at_31) kt) ?_
  show Go p e below _ (T22.setTop (mkF m 32 #[.val (.int i0), .val (.long xv), .second, .val (.int i3), .val (.int i4), .val (.ref b1), .val (.ref b3), .val (.int mm), .unset, .unset] [(.int (1 : Int32)), (.int i0)]))
  refine Go.st (fun _ kt => XS.iand X22.here hx rfl (hb hby at_32) rfl kt) ?_
  show Go p e below _ (T22.setTop (mkF m 33 #[.val (.int i0), .val (.long xv), .second, .val (.int i3), .val (.int i4), .val (.ref b1), .val (.ref b3), .val (.int mm), .unset, .unset] [(.int (i0 &&& (1 : Int32)))]))
  by_cases hc33_30 : (i0 &&& (1 : Int32)) = (0 : Int32)
  · refine Go.st (fun _ kt => XS.ifYes X22.here hx rfl (pc0 := 33) (pc' := 47) rfl (hb hby at_33) rfl ((if0 _ _).trans (teq hc33_30).1) (by decide) (by decide) kt) ?_
    show Go p e below _ (T22.setTop (mkF m 47 #[.val (.int i0), .val (.long xv), .second, .val (.int i3), .val (.int i4), .val (.ref b1), .val (.ref b3), .val (.int mm), .unset, .unset] []))
    refine Go.st (fun _ kt => XS.iloadN X22.here hx rfl (hb hby at_47) rfl kt) ?_
    show Go p e below _ (T22.setTop (mkF m 48 #[.val (.int i0), .val (.long xv), .second, .val (.int i3), .val (.int i4), .val (.ref b1), .val (.ref b3), .val (.int mm), .unset, .unset] [(.int i0)]))
    refine Go.st (fun _ kt => XS.iconst X22.here hx rfl (hb hby at_48) kt) ?_
    show Go p e below _ (T22.setTop (mkF m 49 #[.val (.int i0), .val (.long xv), .second, .val (.int i3), .val (.int i4), .val (.ref b1), .val (.ref b3), .val (.int mm), .unset, .unset] [(.int (2 : Int32)), (.int i0)]))
    refine Go.st (fun _ kt => XS.iand X22.here hx rfl (hb hby at_49) rfl kt) ?_
    show Go p e below _ (T22.setTop (mkF m 50 #[.val (.int i0), .val (.long xv), .second, .val (.int i3), .val (.int i4), .val (.ref b1), .val (.ref b3), .val (.int mm), .unset, .unset] [(.int (i0 &&& (2 : Int32)))]))
    by_cases hc50_31 : (i0 &&& (2 : Int32)) = (0 : Int32)
    · refine Go.st (fun _ kt => XS.ifYes X22.here hx rfl (pc0 := 50) (pc' := 58) rfl (hb hby at_50) rfl ((if0 _ _).trans (teq hc50_31).1) (by decide) (by decide) kt) ?_
      show Go p e below _ (T22.setTop (mkF m 58 #[.val (.int i0), .val (.long xv), .second, .val (.int i3), .val (.int i4), .val (.ref b1), .val (.ref b3), .val (.int mm), .unset, .unset] []))
      refine Go.st (fun _ kt => XS.iloadN X22.here hx rfl (hb hby at_58) rfl kt) ?_
      show Go p e below _ (T22.setTop (mkF m 59 #[.val (.int i0), .val (.long xv), .second, .val (.int i3), .val (.int i4), .val (.ref b1), .val (.ref b3), .val (.int mm), .unset, .unset] [(.int i0)]))
      refine Go.st (fun _ kt => XS.iconst X22.here hx rfl (hb hby at_59) kt) ?_
      show Go p e below _ (T22.setTop (mkF m 60 #[.val (.int i0), .val (.long xv), .second, .val (.int i3), .val (.int i4), .val (.ref b1), .val (.ref b3), .val (.int mm), .unset, .unset] [(.int (4 : Int32)), (.int i0)]))
      refine Go.st (fun _ kt => XS.iand X22.here hx rfl (hb hby at_60) rfl kt) ?_
      show Go p e below _ (T22.setTop (mkF m 61 #[.val (.int i0), .val (.long xv), .second, .val (.int i3), .val (.int i4), .val (.ref b1), .val (.ref b3), .val (.int mm), .unset, .unset] [(.int (i0 &&& (4 : Int32)))]))
      by_cases hc61_32 : (i0 &&& (4 : Int32)) = (0 : Int32)
      · refine Go.st (fun _ kt => XS.ifYes X22.here hx rfl (pc0 := 61) (pc' := 73) rfl (hb hby at_61) rfl ((if0 _ _).trans (teq hc61_32).1) (by decide) (by decide) kt) ?_
        show Go p e below _ (T22.setTop (mkF m 73 #[.val (.int i0), .val (.long xv), .second, .val (.int i3), .val (.int i4), .val (.ref b1), .val (.ref b3), .val (.int mm), .unset, .unset] []))
        refine Go.st (fun _ kt => XS.iloadN X22.here hx rfl (hb hby at_73) rfl kt) ?_
        show Go p e below _ (T22.setTop (mkF m 74 #[.val (.int i0), .val (.long xv), .second, .val (.int i3), .val (.int i4), .val (.ref b1), .val (.ref b3), .val (.int mm), .unset, .unset] [(.int i0)]))
        refine Go.st (fun _ kt => XS.bipush X22.here hx rfl (hb hby at_74) kt) ?_
        show Go p e below _ (T22.setTop (mkF m 76 #[.val (.int i0), .val (.long xv), .second, .val (.int i3), .val (.int i4), .val (.ref b1), .val (.ref b3), .val (.int mm), .unset, .unset] [(.int (8 : Int32)), (.int i0)]))
        refine Go.st (fun _ kt => XS.iand X22.here hx rfl (hb hby at_76) rfl kt) ?_
        show Go p e below _ (T22.setTop (mkF m 77 #[.val (.int i0), .val (.long xv), .second, .val (.int i3), .val (.int i4), .val (.ref b1), .val (.ref b3), .val (.int mm), .unset, .unset] [(.int (i0 &&& (8 : Int32)))]))
        by_cases hc77_33 : (i0 &&& (8 : Int32)) = (0 : Int32)
        · refine Go.st (fun _ kt => XS.ifYes X22.here hx rfl (pc0 := 77) (pc' := 92) rfl (hb hby at_77) rfl ((if0 _ _).trans (teq hc77_33).1) (by decide) (by decide) kt) ?_
          show Go p e below _ (T22.setTop (mkF m 92 #[.val (.int i0), .val (.long xv), .second, .val (.int i3), .val (.int i4), .val (.ref b1), .val (.ref b3), .val (.int mm), .unset, .unset] []))
          exact J92 T22 _ T22.heap an'22 ab2 nl'22 (64 : Int32) (0 : Int32) (0 : Int32) (0 : Int32) (X22.more (by decide) (by decide)) rfl N22 Zs22 P22 hb64 (by decide)
        · refine Go.st (fun _ kt => XS.ifNo X22.here hx rfl (hb hby at_77) rfl ((if0 _ _).trans (feq hc77_33).1) kt) ?_
          show Go p e below _ (T22.setTop (mkF m 80 #[.val (.int i0), .val (.long xv), .second, .val (.int i3), .val (.int i4), .val (.ref b1), .val (.ref b3), .val (.int mm), .unset, .unset] []))
          refine Go.st (fun _ kt => XS.aload X22.here hx rfl (hb hby at_80) rfl rfl kt) ?_
          show Go p e below _ (T22.setTop (mkF m 82 #[.val (.int i0), .val (.long xv), .second, .val (.int i3), .val (.int i4), .val (.ref b1), .val (.ref b3), .val (.int mm), .unset, .unset] [(.ref b1)]))
          refine Go.st (fun _ kt => XS.aload X22.here hx rfl (hb hby at_82) rfl rfl kt) ?_
          show Go p e below _ (T22.setTop (mkF m 84 #[.val (.int i0), .val (.long xv), .second, .val (.int i3), .val (.int i4), .val (.ref b1), .val (.ref b3), .val (.int mm), .unset, .unset] [(.ref b3), (.ref b1)]))
          refine Go.st (fun _ kt => XS.iconst X22.here hx rfl (hb hby at_84) kt) ?_
          show Go p e below _ (T22.setTop (mkF m 85 #[.val (.int i0), .val (.long xv), .second, .val (.int i3), .val (.int i4), .val (.ref b1), .val (.ref b3), .val (.int mm), .unset, .unset] [(.int (0 : Int32)), (.ref b3), (.ref b1)]))
          refine Go.st (fun _ kt => XS.iloadN X22.here hx rfl (hb hby at_85) rfl kt) ?_
          show Go p e below _ (T22.setTop (mkF m 86 #[.val (.int i0), .val (.long xv), .second, .val (.int i3), .val (.int i4), .val (.ref b1), .val (.ref b3), .val (.int mm), .unset, .unset] [(.int i3), (.int (0 : Int32)), (.ref b3), (.ref b1)]))
          refine Go.st (fun _ kt => XS.bipush X22.here hx rfl (hb hby at_86) kt) ?_
          show Go p e below _ (T22.setTop (mkF m 88 #[.val (.int i0), .val (.long xv), .second, .val (.int i3), .val (.int i4), .val (.ref b1), .val (.ref b3), .val (.int mm), .unset, .unset] [(.int (7 : Int32)), (.int i3), (.int (0 : Int32)), (.ref b3), (.ref b1)]))
          refine Go.st (fun _ kt => XS.iand X22.here hx rfl (hb hby at_88) rfl kt) ?_
          show Go p e below _ (T22.setTop (mkF m 89 #[.val (.int i0), .val (.long xv), .second, .val (.int i3), .val (.int i4), .val (.ref b1), .val (.ref b3), .val (.int mm), .unset, .unset] [(.int (i3 &&& (7 : Int32))), (.int (0 : Int32)), (.ref b3), (.ref b1)]))
          obtain ⟨cq34, kq34, q34a, q34b, q34c⟩ := isOf hZ rfl P22.1
          obtain ⟨_, _, ⟨T34, L34, k34, n34⟩, -, X34, ⟨Lc34, hQ34, l34, y34, z34⟩, st34⟩ := X22.virtualBack hx (y := (⟨"com/example/rowsieve/rowsieve/data/PageValues", "add", "([BII)V"⟩ : MethodName)) (z := (⟨"com/example/rowsieve/rowsieve/data/PageValues", "add", "([BII)V"⟩ : MethodName)) hown (mvT hZ (hw _ (List.mem_of_getElem? (i := 69) rfl))) (mvT hZ (hw _ (List.mem_of_getElem? (i := 70) rfl))) (notFace_of_selects (args := #[]) (mvT hZ (hw _ (List.mem_of_getElem? (i := 72) rfl)))) (mvT hZ (hw _ (List.mem_of_getElem? (i := 72) rfl))) (mvT hZ (hw _ (List.mem_of_getElem? (i := 71) rfl))) (by decide) (backOf (W := 0) (rm10 l Z a0 hw [] b1 b3 (i3 &&& (7 : Int32)) an'22 ab2 az2 al2 ac2 nl'22 (64 : Int32) (0 : Int32) (0 : Int32) (0 : Int32) T22.heap n0 Zs22 P22 hr0 (own_and i3 7 (by decide))) hZ (hw _ (List.mem_of_getElem? (i := 73) rfl)) (hw _ (List.mem_of_getElem? (i := 2) rfl)) (by decide) (by decide)) q34a q34c (g := (mkF m 89 #[.val (.int i0), .val (.long xv), .second, .val (.int i3), .val (.int i4), .val (.ref b1), .val (.ref b3), .val (.int mm), .unset, .unset] [(.int (i3 &&& (7 : Int32))), (.int (0 : Int32)), (.ref b3), (.ref b1)])) rfl (by rw [hml]; rfl) (Steps.refl _) (argsL := [(.ref b3), (.int (0 : Int32)), (.int (i3 &&& (7 : Int32)))]) (rest := []) (lenOf own_pd6 rfl) rfl (by show 2 * 0 + _ ≤ _; exact Nat.le_of_eq rfl) (hb hby at_89) (fun _ _ => ⟨rfl, rfl, (by decide : 9 + 0 ≤ _), (by decide : 659 + 0 ≤ _)⟩)
          dsimp only [Pt.U, Pt.locs, Pt.cells, Pt.slots] at X34 l34 y34 z34 st34 hQ34
          subst l34 y34 z34
          obtain ⟨rfl, N34q, P34⟩ := hQ34
          have Zs34 : n0 ≤ T34.heap.size := Nat.le_trans gna (Nat.le_of_lt P34.1.lt)
          have N34 := Fr.app N22 N34q
          refine Go.tr st34 ?_
          show Go p e below _ (T34.setTop (mkF m 92 #[.val (.int i0), .val (.long xv), .second, .val (.int i3), .val (.int i4), .val (.ref b1), .val (.ref b3), .val (.int mm), .unset, .unset] []))
          exact J92 T34 _ T34.heap an'22 ab2 nl'22 (64 : Int32) ((0 : Int32) + (1 : Int32)) (1 : Int32) ((0 : Int32) + (i3 &&& (7 : Int32))) (X34.more (by decide) (by decide)) rfl N34 Zs34 P34 hb64 (by decide)
      · refine Go.st (fun _ kt => XS.ifNo X22.here hx rfl (hb hby at_61) rfl ((if0 _ _).trans (feq hc61_32).1) kt) ?_
        show Go p e below _ (T22.setTop (mkF m 64 #[.val (.int i0), .val (.long xv), .second, .val (.int i3), .val (.int i4), .val (.ref b1), .val (.ref b3), .val (.int mm), .unset, .unset] []))
        refine Go.st (fun _ kt => XS.aload X22.here hx rfl (hb hby at_64) rfl rfl kt) ?_
        show Go p e below _ (T22.setTop (mkF m 66 #[.val (.int i0), .val (.long xv), .second, .val (.int i3), .val (.int i4), .val (.ref b1), .val (.ref b3), .val (.int mm), .unset, .unset] [(.ref b1)]))
        refine Go.st (fun _ kt => XS.lloadN X22.here hx rfl (hb hby at_66) rfl kt) ?_
        show Go p e below _ (T22.setTop (mkF m 67 #[.val (.int i0), .val (.long xv), .second, .val (.int i3), .val (.int i4), .val (.ref b1), .val (.ref b3), .val (.int mm), .unset, .unset] [(.long xv), (.ref b1)]))
        obtain ⟨cq35, kq35, q35a, q35b, q35c⟩ := isOf hZ rfl P22.1
        obtain ⟨_, _, ⟨T35, L35, k35, n35⟩, -, X35, ⟨Lc35, hQ35, l35, y35, z35⟩, st35⟩ := X22.virtualBack hx (y := (⟨"com/example/rowsieve/rowsieve/data/PageValues", "add", "(J)V"⟩ : MethodName)) (z := (⟨"com/example/rowsieve/rowsieve/data/PageValues", "add", "(J)V"⟩ : MethodName)) hown (mvT hZ (hw _ (List.mem_of_getElem? (i := 102) rfl))) (mvT hZ (hw _ (List.mem_of_getElem? (i := 103) rfl))) (notFace_of_selects (args := #[]) (mvT hZ (hw _ (List.mem_of_getElem? (i := 105) rfl)))) (mvT hZ (hw _ (List.mem_of_getElem? (i := 105) rfl))) (mvT hZ (hw _ (List.mem_of_getElem? (i := 104) rfl))) (by decide) (backOf (W := 0) (rm17 l Z a0 hw [] b1 xv an'22 ab2 az2 al2 ac2 b3 nl'22 (64 : Int32) (0 : Int32) (0 : Int32) (0 : Int32) T22.heap n0 Zs22 P22 hr0 hb64) hZ (hw _ (List.mem_of_getElem? (i := 106) rfl)) (hw _ (List.mem_of_getElem? (i := 2) rfl)) (by decide) (by decide)) q35a q35c (g := (mkF m 67 #[.val (.int i0), .val (.long xv), .second, .val (.int i3), .val (.int i4), .val (.ref b1), .val (.ref b3), .val (.int mm), .unset, .unset] [(.long xv), (.ref b1)])) rfl (by rw [hml]; rfl) (Steps.refl _) (argsL := [(.long xv)]) (rest := []) (lenOf own_pd12 rfl) rfl (by show 2 * 0 + _ ≤ _; exact Nat.le_of_eq rfl) (hb hby at_67) (fun _ _ => ⟨rfl, rfl, (by decide : 9 + 0 ≤ _), (by decide : 659 + 0 ≤ _)⟩)
        dsimp only [Pt.U, Pt.locs, Pt.cells, Pt.slots] at X35 l35 y35 z35 st35 hQ35
        subst l35 y35 z35
        obtain ⟨rfl, N35q, P35⟩ := hQ35
        have Zs35 : n0 ≤ T35.heap.size := Nat.le_trans gna (Nat.le_of_lt P35.1.lt)
        have N35 := Fr.app N22 N35q
        refine Go.tr st35 ?_
        show Go p e below _ (T35.setTop (mkF m 70 #[.val (.int i0), .val (.long xv), .second, .val (.int i3), .val (.int i4), .val (.ref b1), .val (.ref b3), .val (.int mm), .unset, .unset] []))
        refine Go.st (fun _ kt => XS.goto X35.here hx rfl (pc0 := 70) (pc' := 92) rfl (hb hby at_70) (by decide) (by decide) kt) ?_
        show Go p e below _ (T35.setTop (mkF m 92 #[.val (.int i0), .val (.long xv), .second, .val (.int i3), .val (.int i4), .val (.ref b1), .val (.ref b3), .val (.int mm), .unset, .unset] []))
        exact J92 T35 _ T35.heap an'22 ab2 nl'22 (64 : Int32) ((0 : Int32) + (1 : Int32)) (1 : Int32) (0 : Int32) (X35.more (by decide) (by decide)) rfl N35 Zs35 P35 hb64 (by decide)
    · refine Go.st (fun _ kt => XS.ifNo X22.here hx rfl (hb hby at_50) rfl ((if0 _ _).trans (feq hc50_31).1) kt) ?_
      show Go p e below _ (T22.setTop (mkF m 53 #[.val (.int i0), .val (.long xv), .second, .val (.int i3), .val (.int i4), .val (.ref b1), .val (.ref b3), .val (.int mm), .unset, .unset] []))
      refine Go.st (fun _ kt => XS.aload X22.here hx rfl (hb hby at_53) rfl rfl kt) ?_
      show Go p e below _ (T22.setTop (mkF m 55 #[.val (.int i0), .val (.long xv), .second, .val (.int i3), .val (.int i4), .val (.ref b1), .val (.ref b3), .val (.int mm), .unset, .unset] [(.ref b1)]))
      obtain ⟨cq36, kq36, q36a, q36b, q36c⟩ := isOf hZ rfl P22.1
      obtain ⟨_, _, ⟨T36, L36, k36, n36⟩, -, X36, ⟨Lc36, hQ36, l36, y36, z36⟩, st36⟩ := X22.virtualBack hx (y := (⟨"com/example/rowsieve/rowsieve/data/PageValues", "addNull", "()V"⟩ : MethodName)) (z := (⟨"com/example/rowsieve/rowsieve/data/PageValues", "addNull", "()V"⟩ : MethodName)) hown (mvT hZ (hw _ (List.mem_of_getElem? (i := 107) rfl))) (mvT hZ (hw _ (List.mem_of_getElem? (i := 108) rfl))) (notFace_of_selects (args := #[]) (mvT hZ (hw _ (List.mem_of_getElem? (i := 110) rfl)))) (mvT hZ (hw _ (List.mem_of_getElem? (i := 110) rfl))) (mvT hZ (hw _ (List.mem_of_getElem? (i := 109) rfl))) (by decide) (backOf (W := 0) (rm18 l Z a0 hw [] b1  an'22 ab2 az2 al2 ac2 b3 nl'22 (64 : Int32) (0 : Int32) (0 : Int32) (0 : Int32) T22.heap n0 Zs22 P22 hr0) hZ (hw _ (List.mem_of_getElem? (i := 111) rfl)) (hw _ (List.mem_of_getElem? (i := 2) rfl)) (by decide) (by decide)) q36a q36c (g := (mkF m 55 #[.val (.int i0), .val (.long xv), .second, .val (.int i3), .val (.int i4), .val (.ref b1), .val (.ref b3), .val (.int mm), .unset, .unset] [(.ref b1)])) rfl (by rw [hml]; rfl) (Steps.refl _) (argsL := []) (rest := []) (lenOf own_pd9 rfl) rfl (by show 2 * 0 + _ ≤ _; exact Nat.le_of_eq rfl) (hb hby at_55) (fun _ _ => ⟨rfl, rfl, (by decide : 9 + 0 ≤ _), (by decide : 659 + 0 ≤ _)⟩)
      dsimp only [Pt.U, Pt.locs, Pt.cells, Pt.slots] at X36 l36 y36 z36 st36 hQ36
      subst l36 y36 z36
      obtain ⟨rfl, N36q, P36⟩ := hQ36
      have Zs36 : n0 ≤ T36.heap.size := Nat.le_trans gna (Nat.le_of_lt P36.1.lt)
      have N36 := Fr.app N22 N36q
      refine Go.tr st36 ?_
      show Go p e below _ (T36.setTop (mkF m 58 #[.val (.int i0), .val (.long xv), .second, .val (.int i3), .val (.int i4), .val (.ref b1), .val (.ref b3), .val (.int mm), .unset, .unset] []))
      refine Go.st (fun _ kt => XS.iloadN X36.here hx rfl (hb hby at_58) rfl kt) ?_
      show Go p e below _ (T36.setTop (mkF m 59 #[.val (.int i0), .val (.long xv), .second, .val (.int i3), .val (.int i4), .val (.ref b1), .val (.ref b3), .val (.int mm), .unset, .unset] [(.int i0)]))
      refine Go.st (fun _ kt => XS.iconst X36.here hx rfl (hb hby at_59) kt) ?_
      show Go p e below _ (T36.setTop (mkF m 60 #[.val (.int i0), .val (.long xv), .second, .val (.int i3), .val (.int i4), .val (.ref b1), .val (.ref b3), .val (.int mm), .unset, .unset] [(.int (4 : Int32)), (.int i0)]))
      refine Go.st (fun _ kt => XS.iand X36.here hx rfl (hb hby at_60) rfl kt) ?_
      show Go p e below _ (T36.setTop (mkF m 61 #[.val (.int i0), .val (.long xv), .second, .val (.int i3), .val (.int i4), .val (.ref b1), .val (.ref b3), .val (.int mm), .unset, .unset] [(.int (i0 &&& (4 : Int32)))]))
      by_cases hc61_37 : (i0 &&& (4 : Int32)) = (0 : Int32)
      · refine Go.st (fun _ kt => XS.ifYes X36.here hx rfl (pc0 := 61) (pc' := 73) rfl (hb hby at_61) rfl ((if0 _ _).trans (teq hc61_37).1) (by decide) (by decide) kt) ?_
        show Go p e below _ (T36.setTop (mkF m 73 #[.val (.int i0), .val (.long xv), .second, .val (.int i3), .val (.int i4), .val (.ref b1), .val (.ref b3), .val (.int mm), .unset, .unset] []))
        refine Go.st (fun _ kt => XS.iloadN X36.here hx rfl (hb hby at_73) rfl kt) ?_
        show Go p e below _ (T36.setTop (mkF m 74 #[.val (.int i0), .val (.long xv), .second, .val (.int i3), .val (.int i4), .val (.ref b1), .val (.ref b3), .val (.int mm), .unset, .unset] [(.int i0)]))
        refine Go.st (fun _ kt => XS.bipush X36.here hx rfl (hb hby at_74) kt) ?_
        show Go p e below _ (T36.setTop (mkF m 76 #[.val (.int i0), .val (.long xv), .second, .val (.int i3), .val (.int i4), .val (.ref b1), .val (.ref b3), .val (.int mm), .unset, .unset] [(.int (8 : Int32)), (.int i0)]))
        refine Go.st (fun _ kt => XS.iand X36.here hx rfl (hb hby at_76) rfl kt) ?_
        show Go p e below _ (T36.setTop (mkF m 77 #[.val (.int i0), .val (.long xv), .second, .val (.int i3), .val (.int i4), .val (.ref b1), .val (.ref b3), .val (.int mm), .unset, .unset] [(.int (i0 &&& (8 : Int32)))]))
        by_cases hc77_38 : (i0 &&& (8 : Int32)) = (0 : Int32)
        · refine Go.st (fun _ kt => XS.ifYes X36.here hx rfl (pc0 := 77) (pc' := 92) rfl (hb hby at_77) rfl ((if0 _ _).trans (teq hc77_38).1) (by decide) (by decide) kt) ?_
          show Go p e below _ (T36.setTop (mkF m 92 #[.val (.int i0), .val (.long xv), .second, .val (.int i3), .val (.int i4), .val (.ref b1), .val (.ref b3), .val (.int mm), .unset, .unset] []))
          exact J92 T36 _ T36.heap an'22 ab2 nl'22 (64 : Int32) ((0 : Int32) + (1 : Int32)) (0 : Int32) (0 : Int32) (X36.more (by decide) (by decide)) rfl N36 Zs36 P36 hb64 (by decide)
        · refine Go.st (fun _ kt => XS.ifNo X36.here hx rfl (hb hby at_77) rfl ((if0 _ _).trans (feq hc77_38).1) kt) ?_
          show Go p e below _ (T36.setTop (mkF m 80 #[.val (.int i0), .val (.long xv), .second, .val (.int i3), .val (.int i4), .val (.ref b1), .val (.ref b3), .val (.int mm), .unset, .unset] []))
          refine Go.st (fun _ kt => XS.aload X36.here hx rfl (hb hby at_80) rfl rfl kt) ?_
          show Go p e below _ (T36.setTop (mkF m 82 #[.val (.int i0), .val (.long xv), .second, .val (.int i3), .val (.int i4), .val (.ref b1), .val (.ref b3), .val (.int mm), .unset, .unset] [(.ref b1)]))
          refine Go.st (fun _ kt => XS.aload X36.here hx rfl (hb hby at_82) rfl rfl kt) ?_
          show Go p e below _ (T36.setTop (mkF m 84 #[.val (.int i0), .val (.long xv), .second, .val (.int i3), .val (.int i4), .val (.ref b1), .val (.ref b3), .val (.int mm), .unset, .unset] [(.ref b3), (.ref b1)]))
          refine Go.st (fun _ kt => XS.iconst X36.here hx rfl (hb hby at_84) kt) ?_
          show Go p e below _ (T36.setTop (mkF m 85 #[.val (.int i0), .val (.long xv), .second, .val (.int i3), .val (.int i4), .val (.ref b1), .val (.ref b3), .val (.int mm), .unset, .unset] [(.int (0 : Int32)), (.ref b3), (.ref b1)]))
          refine Go.st (fun _ kt => XS.iloadN X36.here hx rfl (hb hby at_85) rfl kt) ?_
          show Go p e below _ (T36.setTop (mkF m 86 #[.val (.int i0), .val (.long xv), .second, .val (.int i3), .val (.int i4), .val (.ref b1), .val (.ref b3), .val (.int mm), .unset, .unset] [(.int i3), (.int (0 : Int32)), (.ref b3), (.ref b1)]))
          refine Go.st (fun _ kt => XS.bipush X36.here hx rfl (hb hby at_86) kt) ?_
          show Go p e below _ (T36.setTop (mkF m 88 #[.val (.int i0), .val (.long xv), .second, .val (.int i3), .val (.int i4), .val (.ref b1), .val (.ref b3), .val (.int mm), .unset, .unset] [(.int (7 : Int32)), (.int i3), (.int (0 : Int32)), (.ref b3), (.ref b1)]))
          refine Go.st (fun _ kt => XS.iand X36.here hx rfl (hb hby at_88) rfl kt) ?_
          show Go p e below _ (T36.setTop (mkF m 89 #[.val (.int i0), .val (.long xv), .second, .val (.int i3), .val (.int i4), .val (.ref b1), .val (.ref b3), .val (.int mm), .unset, .unset] [(.int (i3 &&& (7 : Int32))), (.int (0 : Int32)), (.ref b3), (.ref b1)]))
          obtain ⟨cq39, kq39, q39a, q39b, q39c⟩ := isOf hZ rfl P36.1
          obtain ⟨_, _, ⟨T39, L39, k39, n39⟩, -, X39, ⟨Lc39, hQ39, l39, y39, z39⟩, st39⟩ := X36.virtualBack hx (y := (⟨"com/example/rowsieve/rowsieve/data/PageValues", "add", "([BII)V"⟩ : MethodName)) (z := (⟨"com/example/rowsieve/rowsieve/data/PageValues", "add", "([BII)V"⟩ : MethodName)) hown (mvT hZ (hw _ (List.mem_of_getElem? (i := 69) rfl))) (mvT hZ (hw _ (List.mem_of_getElem? (i := 70) rfl))) (notFace_of_selects (args := #[]) (mvT hZ (hw _ (List.mem_of_getElem? (i := 72) rfl)))) (mvT hZ (hw _ (List.mem_of_getElem? (i := 72) rfl))) (mvT hZ (hw _ (List.mem_of_getElem? (i := 71) rfl))) (by decide) (backOf (W := 0) (rm10 l Z a0 hw [] b1 b3 (i3 &&& (7 : Int32)) an'22 ab2 az2 al2 ac2 nl'22 (64 : Int32) ((0 : Int32) + (1 : Int32)) (0 : Int32) (0 : Int32) T36.heap n0 Zs36 P36 hr1 (own_and i3 7 (by decide))) hZ (hw _ (List.mem_of_getElem? (i := 73) rfl)) (hw _ (List.mem_of_getElem? (i := 2) rfl)) (by decide) (by decide)) q39a q39c (g := (mkF m 89 #[.val (.int i0), .val (.long xv), .second, .val (.int i3), .val (.int i4), .val (.ref b1), .val (.ref b3), .val (.int mm), .unset, .unset] [(.int (i3 &&& (7 : Int32))), (.int (0 : Int32)), (.ref b3), (.ref b1)])) rfl (by rw [hml]; rfl) (Steps.refl _) (argsL := [(.ref b3), (.int (0 : Int32)), (.int (i3 &&& (7 : Int32)))]) (rest := []) (lenOf own_pd6 rfl) rfl (by show 2 * 0 + _ ≤ _; exact Nat.le_of_eq rfl) (hb hby at_89) (fun _ _ => ⟨rfl, rfl, (by decide : 9 + 0 ≤ _), (by decide : 659 + 0 ≤ _)⟩)
          dsimp only [Pt.U, Pt.locs, Pt.cells, Pt.slots] at X39 l39 y39 z39 st39 hQ39
          subst l39 y39 z39
          obtain ⟨rfl, N39q, P39⟩ := hQ39
          have Zs39 : n0 ≤ T39.heap.size := Nat.le_trans gna (Nat.le_of_lt P39.1.lt)
          have N39 := Fr.app N36 N39q
          refine Go.tr st39 ?_
          show Go p e below _ (T39.setTop (mkF m 92 #[.val (.int i0), .val (.long xv), .second, .val (.int i3), .val (.int i4), .val (.ref b1), .val (.ref b3), .val (.int mm), .unset, .unset] []))
          exact J92 T39 _ T39.heap an'22 ab2 nl'22 (64 : Int32) (((0 : Int32) + (1 : Int32)) + (1 : Int32)) (1 : Int32) ((0 : Int32) + (i3 &&& (7 : Int32))) (X39.more (by decide) (by decide)) rfl N39 Zs39 P39 hb64 (by decide)
      · refine Go.st (fun _ kt => XS.ifNo X36.here hx rfl (hb hby at_61) rfl ((if0 _ _).trans (feq hc61_37).1) kt) ?_
        show Go p e below _ (T36.setTop (mkF m 64 #[.val (.int i0), .val (.long xv), .second, .val (.int i3), .val (.int i4), .val (.ref b1), .val (.ref b3), .val (.int mm), .unset, .unset] []))
        refine Go.st (fun _ kt => XS.aload X36.here hx rfl (hb hby at_64) rfl rfl kt) ?_
        show Go p e below _ (T36.setTop (mkF m 66 #[.val (.int i0), .val (.long xv), .second, .val (.int i3), .val (.int i4), .val (.ref b1), .val (.ref b3), .val (.int mm), .unset, .unset] [(.ref b1)]))
        refine Go.st (fun _ kt => XS.lloadN X36.here hx rfl (hb hby at_66) rfl kt) ?_
        show Go p e below _ (T36.setTop (mkF m 67 #[.val (.int i0), .val (.long xv), .second, .val (.int i3), .val (.int i4), .val (.ref b1), .val (.ref b3), .val (.int mm), .unset, .unset] [(.long xv), (.ref b1)]))
        obtain ⟨cq40, kq40, q40a, q40b, q40c⟩ := isOf hZ rfl P36.1
        obtain ⟨_, _, ⟨T40, L40, k40, n40⟩, -, X40, ⟨Lc40, hQ40, l40, y40, z40⟩, st40⟩ := X36.virtualBack hx (y := (⟨"com/example/rowsieve/rowsieve/data/PageValues", "add", "(J)V"⟩ : MethodName)) (z := (⟨"com/example/rowsieve/rowsieve/data/PageValues", "add", "(J)V"⟩ : MethodName)) hown (mvT hZ (hw _ (List.mem_of_getElem? (i := 102) rfl))) (mvT hZ (hw _ (List.mem_of_getElem? (i := 103) rfl))) (notFace_of_selects (args := #[]) (mvT hZ (hw _ (List.mem_of_getElem? (i := 105) rfl)))) (mvT hZ (hw _ (List.mem_of_getElem? (i := 105) rfl))) (mvT hZ (hw _ (List.mem_of_getElem? (i := 104) rfl))) (by decide) (backOf (W := 0) (rm17 l Z a0 hw [] b1 xv an'22 ab2 az2 al2 ac2 b3 nl'22 (64 : Int32) ((0 : Int32) + (1 : Int32)) (0 : Int32) (0 : Int32) T36.heap n0 Zs36 P36 hr1 hb64) hZ (hw _ (List.mem_of_getElem? (i := 106) rfl)) (hw _ (List.mem_of_getElem? (i := 2) rfl)) (by decide) (by decide)) q40a q40c (g := (mkF m 67 #[.val (.int i0), .val (.long xv), .second, .val (.int i3), .val (.int i4), .val (.ref b1), .val (.ref b3), .val (.int mm), .unset, .unset] [(.long xv), (.ref b1)])) rfl (by rw [hml]; rfl) (Steps.refl _) (argsL := [(.long xv)]) (rest := []) (lenOf own_pd12 rfl) rfl (by show 2 * 0 + _ ≤ _; exact Nat.le_of_eq rfl) (hb hby at_67) (fun _ _ => ⟨rfl, rfl, (by decide : 9 + 0 ≤ _), (by decide : 659 + 0 ≤ _)⟩)
        dsimp only [Pt.U, Pt.locs, Pt.cells, Pt.slots] at X40 l40 y40 z40 st40 hQ40
        subst l40 y40 z40
        obtain ⟨rfl, N40q, P40⟩ := hQ40
        have Zs40 : n0 ≤ T40.heap.size := Nat.le_trans gna (Nat.le_of_lt P40.1.lt)
        have N40 := Fr.app N36 N40q
        refine Go.tr st40 ?_
        show Go p e below _ (T40.setTop (mkF m 70 #[.val (.int i0), .val (.long xv), .second, .val (.int i3), .val (.int i4), .val (.ref b1), .val (.ref b3), .val (.int mm), .unset, .unset] []))
        refine Go.st (fun _ kt => XS.goto X40.here hx rfl (pc0 := 70) (pc' := 92) rfl (hb hby at_70) (by decide) (by decide) kt) ?_
        show Go p e below _ (T40.setTop (mkF m 92 #[.val (.int i0), .val (.long xv), .second, .val (.int i3), .val (.int i4), .val (.ref b1), .val (.ref b3), .val (.int mm), .unset, .unset] []))
        exact J92 T40 _ T40.heap an'22 ab2 nl'22 (64 : Int32) (((0 : Int32) + (1 : Int32)) + (1 : Int32)) (1 : Int32) (0 : Int32) (X40.more (by decide) (by decide)) rfl N40 Zs40 P40 hb64 (by decide)
  · refine Go.st (fun _ kt => XS.ifNo X22.here hx rfl (hb hby at_33) rfl ((if0 _ _).trans (feq hc33_30).1) kt) ?_
    show Go p e below _ (T22.setTop (mkF m 36 #[.val (.int i0), .val (.long xv), .second, .val (.int i3), .val (.int i4), .val (.ref b1), .val (.ref b3), .val (.int mm), .unset, .unset] []))
    refine Go.st (fun _ kt => XS.aload X22.here hx rfl (hb hby at_36) rfl rfl kt) ?_
    show Go p e below _ (T22.setTop (mkF m 38 #[.val (.int i0), .val (.long xv), .second, .val (.int i3), .val (.int i4), .val (.ref b1), .val (.ref b3), .val (.int mm), .unset, .unset] [(.ref b1)]))
    refine Go.st (fun _ kt => XS.iload X22.here hx rfl (hb hby at_38) rfl kt) ?_
    show Go p e below _ (T22.setTop (mkF m 40 #[.val (.int i0), .val (.long xv), .second, .val (.int i3), .val (.int i4), .val (.ref b1), .val (.ref b3), .val (.int mm), .unset, .unset] [(.int mm), (.ref b1)]))
    obtain ⟨cq41, kq41, q41a, q41b, q41c⟩ := isOf hZ rfl P22.1
    obtain ⟨_, _, ⟨T41, L41, k41, n41⟩, -, X41, ⟨Lc41, hQ41, l41, y41, z41⟩, st41⟩ := X22.virtualBack hx (y := (⟨"com/example/rowsieve/rowsieve/data/PageValues", "addBits", "(I)[J"⟩ : MethodName)) (z := (⟨"com/example/rowsieve/rowsieve/data/PageValues", "addBits", "(I)[J"⟩ : MethodName)) hown (mvT hZ (hw _ (List.mem_of_getElem? (i := 57) rfl))) (mvT hZ (hw _ (List.mem_of_getElem? (i := 58) rfl))) (notFace_of_selects (args := #[]) (mvT hZ (hw _ (List.mem_of_getElem? (i := 60) rfl)))) (mvT hZ (hw _ (List.mem_of_getElem? (i := 60) rfl))) (mvT hZ (hw _ (List.mem_of_getElem? (i := 59) rfl))) (by decide) (backOf (W := 0) (rm7 l Z a0 hw [] b1 mm an'22 ab2 az2 al2 ac2 b3 nl'22 (64 : Int32) (0 : Int32) (0 : Int32) (0 : Int32) T22.heap n0 Zs22 P22 hm0 (by omega) (by omega) hb64 (by decide)) hZ (hw _ (List.mem_of_getElem? (i := 61) rfl)) (hw _ (List.mem_of_getElem? (i := 2) rfl)) (by decide) (by decide)) q41a q41c (g := (mkF m 40 #[.val (.int i0), .val (.long xv), .second, .val (.int i3), .val (.int i4), .val (.ref b1), .val (.ref b3), .val (.int mm), .unset, .unset] [(.int mm), (.ref b1)])) rfl (by rw [hml]; rfl) (Steps.refl _) (argsL := [(.int mm)]) (rest := []) (lenOf own_pd11 rfl) rfl (by show 2 * 0 + _ ≤ _; exact Nat.le_of_eq rfl) (hb hby at_40) (fun _ _ => ⟨rfl, rfl, (by decide : 9 + 1 ≤ _), (by decide : 659 + 256 ≤ _)⟩)
    dsimp only [Pt.U, Pt.locs, Pt.cells, Pt.slots] at X41 l41 y41 z41 st41 hQ41
    subst l41 y41 z41
    obtain ⟨ab'41, bl'41, rfl, N41q, P41, hb41⟩ := hQ41
    have Zs41 : n0 ≤ T41.heap.size := Nat.le_trans gna (Nat.le_of_lt P41.1.lt)
    have N41 := Fr.app N22 N41q
    refine Go.tr st41 ?_
    show Go p e below _ (T41.setTop (mkF m 43 #[.val (.int i0), .val (.long xv), .second, .val (.int i3), .val (.int i4), .val (.ref b1), .val (.ref b3), .val (.int mm), .unset, .unset] [(.ref ab'41)]))
    refine Go.st (fun _ kt => XS.pop X41.here hx rfl (hb hby at_43) rfl rfl kt) ?_
    show Go p e below _ (T41.setTop (mkF m 44 #[.val (.int i0), .val (.long xv), .second, .val (.int i3), .val (.int i4), .val (.ref b1), .val (.ref b3), .val (.int mm), .unset, .unset] []))
    refine Go.st (fun _ kt => XS.goto X41.here hx rfl (pc0 := 44) (pc' := 92) rfl (hb hby at_44) (by decide) (by decide) kt) ?_
    show Go p e below _ (T41.setTop (mkF m 92 #[.val (.int i0), .val (.long xv), .second, .val (.int i3), .val (.int i4), .val (.ref b1), .val (.ref b3), .val (.int mm), .unset, .unset] []))
    exact J92 T41 _ T41.heap an'22 ab'41 nl'22 bl'41 ((0 : Int32) + mm) ((0 : Int32) + mm) (0 : Int32) (X41.more (by decide) (by decide)) rfl N41 Zs41 P41 (own_bl hm1 hb41).1 (own_bl hm1 hb41).2
set_option maxRecDepth 65536 in
set_option maxHeartbeats 40000000 in
theorem comes_1 {Post : Tables → Env → Array Value → State → Outcome → State → Prop} (hpost : ∀ tb e args s v u, (limb_1_1.after args s (.returned v) u = true ∧ limb_1_2.after args s (.returned v) u = true ∧ True) → FrameEnd s (.returned v) u (Jvm.fieldLocs frame_1_writes args s ++ Jvm.arrayLocs frame_1_arrays args s ++ Jvm.staticLocs frame_1_statics s) 32 2432 → Post tb e args s (.returned v) u) :
    ArmFor flags0 classFile x code maxLocals ret World_1 tables_1 room_1 Calls_1 rest_1 Pre_1 Post := by
  intro l hfl _ _ p e ha hc hk s m args below hf hA hF happ hP
  obtain ⟨hcalls, hrest, hpre⟩ := hP
  obtain ⟨-, -, -, hnamed, -, -, -, hat⟩ := (Spec.applies_iff hf).mp happ
  obtain ⟨hg, hn⟩ := and_e (Cond.before_iff.mp (show (Jvm.Cond.and given_1 narrow_1).before args s = true from hpre))
  obtain ⟨g1, g2⟩ := and_e hg
  obtain ⟨g3, g4⟩ := and_e g2
  obtain ⟨g5, g6⟩ := and_e g4
  obtain ⟨g7, g8⟩ := and_e g6
  obtain ⟨w0, w1, w2, w3, rfl⟩ : ∃ w0 w1 w2 w3 : Value, args = #[w0, w1, w2, w3] := by
    have hs : args.size = 4 := by simpa [Cond.value, given_1] using g1
    obtain ⟨L⟩ := args
    match L, hs with
    | [w0, w1, w2, w3], _ => exact ⟨w0, w1, w2, w3, rfl⟩
  have hw := fun d (hd : d ∈ tables_1) => atoms_spec (ws := Jvm.Cond.code x code maxLocals ret :: tables_1) hat d (List.mem_cons_of_mem _ hd)
  have hfit : Fit s := fun {y c} hc i hi => by
    obtain ⟨ha, rfl⟩ := Array.getElem?_eq_some_iff.mp hc
    have q := List.all_eq_true.mp ((Array.all_eq_true_iff_forall_mem.mp hF) _ (Array.getElem_mem ha)) i (List.mem_range.mpr hi)
    simpa [Array.getElem?_eq_getElem hi] using q
  obtain ⟨i0, ei0⟩ := is_v g3
  obtain rfl : w0 = (.int i0) := Option.some.inj ei0
  obtain ⟨i1, ei1⟩ := isL_v g5
  obtain rfl : w1 = (.long i1) := Option.some.inj ei1
  obtain ⟨i2, ei2⟩ := is_v g7
  obtain rfl : w2 = (.int i2) := Option.some.inj ei2
  obtain ⟨i3, ei3⟩ := is_v g8
  obtain rfl : w3 = (.int i3) := Option.some.inj ei3
  obtain ⟨n, o, h1, h2, h3, _, L, rfl, ⟨rfl, N⟩, hq⟩ := rm0 l s _ hw tables_1 i0 i1 i2 i3 s.heap s.heap.size (Nat.le_refl _) p e ha hc hk s m _ below hf ((Spec.applies_iff_loose hf).mp happ).1 ⟨rfl, State.Warmed39.refl s, rfl⟩ trivial
  refine ⟨n, _, h1, h2, h3, hpost _ _ _ _ _ _ ⟨Cond.after_iff.mpr rfl, Cond.after_iff.mpr (eq_i res_at (Term.int_eval (1)) rfl), trivial⟩ ⟨hq.1, hq.2.1, (hq.2.2.sift fun y hy => Or.inr (N y hy)).mono (by decide) (by decide)⟩⟩
theorem main_1_1 : Claimed_1_1 := comes_1 fun _ _ _ _ _ _ h hF => ⟨h.1, hF⟩
theorem main_1_2 : Claimed_1_2 := comes_1 fun _ _ _ _ _ _ h hF => ⟨h.2.1, hF⟩
end Jvm.Pilot.@@N@@
namespace Jvm.Pilot.@@N@@
open Jvm Jvm.ClassFile Sem Op Lib Jvm.Free Jvm.Stand Jvm.Pilot.@@N@@.Jvm.D
/-! MADE BY PROGRAM (witnessworld.py) out of the Statement's table words and the real class files: 17 classes; the members and pool entries that the words name. The judged class is class 1, her method 1. -/
namespace start1
open Jvm.ClassFile
def u (s : String) : CpInfo := .utf8 (stringToUtf16 s)
/-- a pool by its gaps: so many unusable entries, then the entry; so many at the end -/
def gap : Nat → List CpInfo → List CpInfo
  | 0, r => r
  | n + 1, r => .unusable :: gap n r
def poolList (es : List (Nat × CpInfo)) (last : Nat) : List CpInfo := es.foldr (fun e r => gap e.1 (e.2 :: r)) (gap last [])
def pool (es : List (Nat × CpInfo)) (last : Nat) : Array CpInfo := ⟨poolList es last⟩
def fileOf (pool : Array CpInfo) (this : Nat) (attrs : Array Attribute := #[]) (ms : Array MethodInfo := #[]) (fl : Nat := 33) (sup : Nat := 0) (ifs : Array Nat := #[]) (fds : Array FieldInfo := #[]) : ClassFile where
  minorVersion := 0
  majorVersion := 65
  constantPool := pool
  accessFlags := fl
  thisClass := this
  superClass := sup
  interfaces := ifs
  fields := fds
  methods := ms
  attributes := attrs
def plain (name : String) (sup : Option ClassId) : Class where
  name := name
  kind := .ordinary
  loader := none
  accessFlags := 33
  super := sup
  interfaces := #[]
  cf := none
  fields := #[]
  methods := #[]
  instanceTypes := #[]
  staticTypes := #[]
  resolved := #[]
  callSites := []
  init := .initialized
  statics := none
  mirror := none

def pool0 : Array CpInfo := pool [(5, u "<init>"), (0, u "()V"), (1, .class_ 10), (1, u "java/lang/Object")] 113

def k0c0 : Code := { maxStack := 0, maxLocals := 1, code := object_method_1_code, exceptionTable := #[], attributes := #[] }
def k0m0 : Method := { name := "<init>", desc := "()V", sig := { parameters := [], returnType := none }, accessFlags := 1, code := some k0c0 }
/-- java/lang/Object -/
def k0 : Class := { plain "java/lang/Object" none with
  accessFlags := 33
  interfaces := #[]
  cf := some (fileOf pool0 8 #[] #[{ accessFlags := 1, nameIndex := 5, descriptorIndex := 6, attributes := #[] }] 33 0 #[] #[])
  fields := #[]
  methods := #[k0m0]
  instanceTypes := #[]
  staticTypes := #[]
  resolved := Array.replicate 124 none
  statics := none }

def pool1 : Array CpInfo := pool [(2, .class_ 4), (0, .nameAndType 5 6), (0, u "java/lang/Object"), (0, u "<init>"), (0, u "()V"), (0, .class_ 8), (0, u "com/example/rowsieve/rowsieve/data/PageValues"), (0, .methodref 7 3), (0, .methodref 7 11), (0, .nameAndType 12 13), (0, u "clear"), (0, u "(I)V"), (0, .methodref 7 15), (0, .nameAndType 16 17), (0, u "addBits"), (0, u "(I)[J"), (0, .methodref 7 19), (0, .nameAndType 20 6), (0, u "addNull"), (0, .methodref 7 22), (0, .nameAndType 23 24), (0, u "add"), (0, u "(J)V"), (0, .methodref 7 26), (0, .nameAndType 23 27), (0, u "([BII)V"), (0, .methodref 7 29), (0, .nameAndType 30 31), (0, u "rows"), (0, u "()I"), (0, .methodref 7 33), (0, .nameAndType 34 31), (0, u "count"), (0, .methodref 7 36), (0, .nameAndType 37 31), (0, u "bytesCopied"), (0, .class_ 39), (0, u "com/example/rowsieve/rowsieve/data/PageValuesClearPinLaw"), (2, u "law"), (0, u "(IJII)Z")] 5

def k1m0 : Method := { name := "<init>", desc := "()V", sig := { parameters := [], returnType := none }, accessFlags := 1, code := none }
def k1c1 : Code := { maxStack := 5, maxLocals := 10, code := code, exceptionTable := #[], attributes := #[] }
def k1m1 : Method := { name := "law", desc := "(IJII)Z", sig := { parameters := [.int, .long, .int, .int], returnType := some .boolean }, accessFlags := 9, code := some k1c1 }
/-- com/example/rowsieve/rowsieve/data/PageValuesClearPinLaw -/
def k1 : Class := { plain "com/example/rowsieve/rowsieve/data/PageValuesClearPinLaw" (some 0) with
  accessFlags := 49
  interfaces := #[]
  cf := some (fileOf pool1 38 #[] #[{ accessFlags := 1, nameIndex := 5, descriptorIndex := 6, attributes := #[] }, { accessFlags := 9, nameIndex := 42, descriptorIndex := 43, attributes := #[] }] 49 2 #[] #[])
  fields := #[]
  methods := #[k1m0, k1m1]
  instanceTypes := #[]
  staticTypes := #[]
  resolved := Array.replicate 49 none
  statics := none }

def pool2 : Array CpInfo := pool [(2, .class_ 4), (1, u "com/example/rowsieve/rowsieve/grouping/ValueSink"), (29, .class_ 35), (0, u "java/lang/Object")] 10

/-- com/example/rowsieve/rowsieve/grouping/ValueSink -/
def k2 : Class := { plain "com/example/rowsieve/rowsieve/grouping/ValueSink" (some 0) with
  accessFlags := 1537
  interfaces := #[]
  cf := some (fileOf pool2 2 #[] #[] 1537 34 #[] #[])
  fields := #[]
  methods := #[]
  instanceTypes := #[]
  staticTypes := #[]
  resolved := Array.replicate 46 none
  statics := none }

def pool3 : Array CpInfo := pool [(1, .methodref 2 3), (0, .class_ 4), (0, .nameAndType 5 6), (0, u "java/lang/Object"), (0, u "<init>"), (0, u "()V"), (0, .class_ 8), (0, u "com/example/rowsieve/rowsieve/data/PageValues"), (0, .fieldref 7 10), (0, .nameAndType 11 12), (0, u "nulls"), (0, u "[Z"), (0, .fieldref 7 14), (0, .nameAndType 15 16), (0, u "bits"), (0, u "[J"), (0, .fieldref 7 18), (0, .nameAndType 19 20), (0, u "starts"), (0, u "[I"), (0, .fieldref 7 22), (0, .nameAndType 23 20), (0, u "lengths"), (0, .fieldref 7 25), (0, .nameAndType 26 20), (0, u "places"), (0, .fieldref 7 28), (0, .nameAndType 29 30), (0, u "copies"), (0, u "[B"), (0, .fieldref 7 32), (0, .nameAndType 33 34), (0, u "rows"), (0, u "I"), (0, .fieldref 7 36), (0, .nameAndType 37 38), (0, u "anyNull"), (0, u "Z"), (0, .fieldref 7 40), (0, .nameAndType 41 34), (0, u "count"), (0, .fieldref 7 43), (0, .nameAndType 44 30), (0, u "bytes"), (0, .fieldref 7 46), (0, .nameAndType 47 48), (0, u "dictionary"), (0, u "Lcom/example/rowsieve/rowsieve/grouping/ValueDictionary;"), (0, .fieldref 7 50), (0, .nameAndType 51 34), (0, u "copiesEnd"), (0, .methodref 53 54), (0, .class_ 55), (0, .nameAndType 56 57), (0, u "java/lang/Math"), (0, u "max"), (0, u "(II)I"), (0, .methodref 59 60), (0, .class_ 61), (0, .nameAndType 62 63), (0, u "java/util/Arrays"), (0, u "copyOf"), (0, u "([JI)[J"), (0, .methodref 59 65), (0, .nameAndType 66 67), (0, u "fill"), (0, u "([ZIIZ)V"), (0, .methodref 7 69), (0, .nameAndType 70 71), (0, u "copyRoom"), (0, u "(I)[B"), (0, .methodref 73 74), (0, .class_ 75), (0, .nameAndType 76 77), (0, u "java/lang/System"), (0, u "arraycopy"), (0, u "(Ljava/lang/Object;ILjava/lang/Object;II)V"), (0, .methodref 7 79), (0, .nameAndType 80 81), (0, u "addCopied"), (0, u "(I)V"), (15, u "()I"), (11, .methodref 7 110), (0, .nameAndType 111 112), (0, u "addInPlace"), (0, u "([BII)V"), (5, .class_ 120), (1, u "com/example/rowsieve/rowsieve/grouping/ValueSink"), (0, u "addNull"), (2, u "add"), (7, u "FIRST"), (4, u "clear"), (1, u "bytesCopied"), (0, u "addBits"), (0, u "(I)[J"), (0, u "(J)V")] 8

def k3c0 : Code := { maxStack := 2, maxLocals := 1, code := prog_13_method_1_code, exceptionTable := #[], attributes := #[] }
def k3m0 : Method := { name := "<init>", desc := "()V", sig := { parameters := [], returnType := none }, accessFlags := 0, code := some k3c0 }
def k3c1 : Code := { maxStack := 2, maxLocals := 2, code := prog_13_method_2_code, exceptionTable := #[], attributes := #[] }
def k3m1 : Method := { name := "clear", desc := "(I)V", sig := { parameters := [.int], returnType := none }, accessFlags := 0, code := some k3c1 }
def k3c2 : Code := { maxStack := 1, maxLocals := 1, code := prog_13_method_3_code, exceptionTable := #[], attributes := #[] }
def k3m2 : Method := { name := "count", desc := "()I", sig := { parameters := [], returnType := some .int }, accessFlags := 0, code := some k3c2 }
def k3c3 : Code := { maxStack := 1, maxLocals := 1, code := prog_13_method_4_code, exceptionTable := #[], attributes := #[] }
def k3m3 : Method := { name := "rows", desc := "()I", sig := { parameters := [], returnType := some .int }, accessFlags := 0, code := some k3c3 }
def k3c4 : Code := { maxStack := 1, maxLocals := 1, code := prog_13_method_5_code, exceptionTable := #[], attributes := #[] }
def k3m4 : Method := { name := "bytesCopied", desc := "()I", sig := { parameters := [], returnType := some .int }, accessFlags := 0, code := some k3c4 }
def k3c5 : Code := { maxStack := 5, maxLocals := 1, code := prog_13_method_6_code, exceptionTable := #[], attributes := #[] }
def k3m5 : Method := { name := "addNull", desc := "()V", sig := { parameters := [], returnType := none }, accessFlags := 1, code := some k3c5 }
def k3c6 : Code := { maxStack := 5, maxLocals := 2, code := prog_13_method_7_code, exceptionTable := #[], attributes := #[] }
def k3m6 : Method := { name := "addBits", desc := "(I)[J", sig := { parameters := [.int], returnType := some (.array .long) }, accessFlags := 0, code := some k3c6 }
def k3c7 : Code := { maxStack := 5, maxLocals := 3, code := prog_13_method_8_code, exceptionTable := #[], attributes := #[] }
def k3m7 : Method := { name := "add", desc := "(J)V", sig := { parameters := [.long], returnType := none }, accessFlags := 1, code := some k3c7 }
def k3c8 : Code := { maxStack := 5, maxLocals := 4, code := prog_13_method_9_code, exceptionTable := #[], attributes := #[] }
def k3m8 : Method := { name := "add", desc := "([BII)V", sig := { parameters := [(.array .byte), .int, .int], returnType := none }, accessFlags := 1, code := some k3c8 }
def k3c9 : Code := { maxStack := 5, maxLocals := 4, code := prog_13_method_11_code, exceptionTable := #[], attributes := #[] }
def k3m9 : Method := { name := "addInPlace", desc := "([BII)V", sig := { parameters := [(.array .byte), .int, .int], returnType := none }, accessFlags := 0, code := some k3c9 }
def k3c10 : Code := { maxStack := 5, maxLocals := 2, code := prog_13_method_13_code, exceptionTable := #[], attributes := #[] }
def k3m10 : Method := { name := "copyRoom", desc := "(I)[B", sig := { parameters := [.int], returnType := some (.array .byte) }, accessFlags := 2, code := some k3c10 }
def k3c11 : Code := { maxStack := 4, maxLocals := 2, code := prog_13_method_14_code, exceptionTable := #[], attributes := #[] }
def k3m11 : Method := { name := "addCopied", desc := "(I)V", sig := { parameters := [.int], returnType := none }, accessFlags := 2, code := some k3c11 }
/-- com/example/rowsieve/rowsieve/data/PageValues -/
def k3 : Class := { plain "com/example/rowsieve/rowsieve/data/PageValues" (some 0) with
  accessFlags := 48
  interfaces := #[2]
  cf := some (fileOf pool3 7 #[] #[{ accessFlags := 0, nameIndex := 5, descriptorIndex := 6, attributes := #[] }, { accessFlags := 0, nameIndex := 137, descriptorIndex := 81, attributes := #[] }, { accessFlags := 0, nameIndex := 41, descriptorIndex := 97, attributes := #[] }, { accessFlags := 0, nameIndex := 33, descriptorIndex := 97, attributes := #[] }, { accessFlags := 0, nameIndex := 139, descriptorIndex := 97, attributes := #[] }, { accessFlags := 1, nameIndex := 121, descriptorIndex := 6, attributes := #[] }, { accessFlags := 0, nameIndex := 140, descriptorIndex := 141, attributes := #[] }, { accessFlags := 1, nameIndex := 124, descriptorIndex := 142, attributes := #[] }, { accessFlags := 1, nameIndex := 124, descriptorIndex := 112, attributes := #[] }, { accessFlags := 0, nameIndex := 111, descriptorIndex := 112, attributes := #[] }, { accessFlags := 2, nameIndex := 70, descriptorIndex := 71, attributes := #[] }, { accessFlags := 2, nameIndex := 80, descriptorIndex := 81, attributes := #[] }] 48 2 #[118] #[{ accessFlags := 26, nameIndex := 132, descriptorIndex := 34, attributes := #[] }, { accessFlags := 2, nameIndex := 33, descriptorIndex := 34, attributes := #[] }, { accessFlags := 2, nameIndex := 11, descriptorIndex := 12, attributes := #[] }, { accessFlags := 2, nameIndex := 37, descriptorIndex := 38, attributes := #[] }, { accessFlags := 2, nameIndex := 41, descriptorIndex := 34, attributes := #[] }, { accessFlags := 2, nameIndex := 15, descriptorIndex := 16, attributes := #[] }, { accessFlags := 2, nameIndex := 44, descriptorIndex := 30, attributes := #[] }, { accessFlags := 2, nameIndex := 19, descriptorIndex := 20, attributes := #[] }, { accessFlags := 2, nameIndex := 23, descriptorIndex := 20, attributes := #[] }, { accessFlags := 2, nameIndex := 47, descriptorIndex := 48, attributes := #[] }, { accessFlags := 2, nameIndex := 26, descriptorIndex := 20, attributes := #[] }, { accessFlags := 2, nameIndex := 29, descriptorIndex := 30, attributes := #[] }, { accessFlags := 2, nameIndex := 51, descriptorIndex := 34, attributes := #[] }])
  fields := #[{ name := "FIRST", type := .int, accessFlags := 26, slot := 0, constantValue := 0 }, { name := "rows", type := .int, accessFlags := 2, slot := 0, constantValue := 0 }, { name := "nulls", type := (.array .boolean), accessFlags := 2, slot := 1, constantValue := 0 }, { name := "anyNull", type := .boolean, accessFlags := 2, slot := 2, constantValue := 0 }, { name := "count", type := .int, accessFlags := 2, slot := 3, constantValue := 0 }, { name := "bits", type := (.array .long), accessFlags := 2, slot := 4, constantValue := 0 }, { name := "bytes", type := (.array .byte), accessFlags := 2, slot := 5, constantValue := 0 }, { name := "starts", type := (.array .int), accessFlags := 2, slot := 6, constantValue := 0 }, { name := "lengths", type := (.array .int), accessFlags := 2, slot := 7, constantValue := 0 }, { name := "dictionary", type := (.object "com/example/rowsieve/rowsieve/grouping/ValueDictionary"), accessFlags := 2, slot := 8, constantValue := 0 }, { name := "places", type := (.array .int), accessFlags := 2, slot := 9, constantValue := 0 }, { name := "copies", type := (.array .byte), accessFlags := 2, slot := 10, constantValue := 0 }, { name := "copiesEnd", type := .int, accessFlags := 2, slot := 11, constantValue := 0 }]
  methods := #[k3m0, k3m1, k3m2, k3m3, k3m4, k3m5, k3m6, k3m7, k3m8, k3m9, k3m10, k3m11]
  instanceTypes := #[.int, (.array .boolean), .boolean, .int, (.array .long), (.array .byte), (.array .int), (.array .int), (.object "com/example/rowsieve/rowsieve/grouping/ValueDictionary"), (.array .int), (.array .byte), .int]
  staticTypes := #[.int]
  resolved := Array.replicate 151 none
  statics := none }

def pool4 : Array CpInfo := pool [(2, .class_ 4), (1, u "java/lang/Object"), (0, u "<init>"), (0, u "()V"), (6, .methodref 14 15), (0, .class_ 16), (0, .nameAndType 17 18), (0, u "java/util/Arrays"), (0, u "rangeCheck"), (0, u "(III)V"), (55, .class_ 76), (1, u "java/util/Arrays$NaturalOrder"), (36, .class_ 115), (1, u "java/util/Arrays$LegacyMergeSort"), (1, u "Z"), (32, .methodref 151 152), (0, .class_ 153), (0, .nameAndType 154 155), (0, u "java/lang/System"), (0, u "arraycopy"), (0, u "(Ljava/lang/Object;ILjava/lang/Object;II)V"), (146, u "copyOf"), (1, .methodref 305 306), (0, .class_ 307), (0, .nameAndType 308 309), (0, u "java/lang/Math"), (0, u "min"), (0, u "(II)I"), (65, .class_ 376), (0, u "java/util/Arrays$ArrayList"), (68, u "$assertionsDisabled"), (269, u "MIN_ARRAY_SORT_GRAN"), (0, u "I"), (2, u "INSERTIONSORT_THRESHOLD"), (120, u "fill"), (12, u "([ZIIZ)V"), (18, u "([JI)[J"), (102, .class_ 976), (0, u "java/util/Arrays$ArrayItr")] 52

def k4m0 : Method := { name := "<init>", desc := "()V", sig := { parameters := [], returnType := none }, accessFlags := 2, code := none }
def k4c1 : Code := { maxStack := 4, maxLocals := 3, code := jdk_65_method_30_code, exceptionTable := #[], attributes := #[] }
def k4m1 : Method := { name := "rangeCheck", desc := "(III)V", sig := { parameters := [.int, .int, .int], returnType := none }, accessFlags := 8, code := some k4c1 }
def k4c2 : Code := { maxStack := 3, maxLocals := 5, code := jdk_65_method_112_code, exceptionTable := #[], attributes := #[] }
def k4m2 : Method := { name := "fill", desc := "([ZIIZ)V", sig := { parameters := [(.array .boolean), .int, .int, .boolean], returnType := none }, accessFlags := 9, code := some k4c2 }
def k4c3 : Code := { maxStack := 6, maxLocals := 3, code := jdk_65_method_124_code, exceptionTable := #[], attributes := #[] }
def k4m3 : Method := { name := "copyOf", desc := "([JI)[J", sig := { parameters := [(.array .long), .int], returnType := some (.array .long) }, accessFlags := 9, code := some k4c3 }
/-- java/util/Arrays -/
def k4 : Class := { plain "java/util/Arrays" (some 0) with
  accessFlags := 49
  interfaces := #[]
  cf := some (fileOf pool4 14 #[.nestMembers #[975, 375, 113, 74]] #[{ accessFlags := 2, nameIndex := 5, descriptorIndex := 6, attributes := #[] }, { accessFlags := 8, nameIndex := 17, descriptorIndex := 18, attributes := #[] }, { accessFlags := 9, nameIndex := 840, descriptorIndex := 853, attributes := #[] }, { accessFlags := 9, nameIndex := 302, descriptorIndex := 872, attributes := #[] }] 49 2 #[] #[{ accessFlags := 26, nameIndex := 715, descriptorIndex := 716, attributes := #[] }, { accessFlags := 26, nameIndex := 719, descriptorIndex := 716, attributes := #[] }, { accessFlags := 4120, nameIndex := 445, descriptorIndex := 117, attributes := #[] }])
  fields := #[{ name := "MIN_ARRAY_SORT_GRAN", type := .int, accessFlags := 26, slot := 0, constantValue := 0 }, { name := "INSERTIONSORT_THRESHOLD", type := .int, accessFlags := 26, slot := 1, constantValue := 0 }, { name := "$assertionsDisabled", type := .boolean, accessFlags := 4120, slot := 2, constantValue := 0 }]
  methods := #[k4m0, k4m1, k4m2, k4m3]
  instanceTypes := #[]
  staticTypes := #[.int, .int, .boolean]
  resolved := Array.replicate 1029 none
  statics := none }

def pool5 : Array CpInfo := pool [(2, .class_ 4), (1, u "java/lang/Object"), (0, u "<init>"), (0, u "()V"), (1, .class_ 10), (1, u "java/lang/System"), (0, u "allowSecurityManager"), (0, u "I"), (16, u "cons"), (0, u "Ljava/io/Console;"), (77, .class_ 110), (1, u "java/lang/System$CallersHolder"), (43, u "initialErrStream"), (0, u "Ljava/io/PrintStream;"), (19, u "security"), (0, u "Ljava/lang/SecurityManager;"), (31, .class_ 209), (0, u "java/lang/System$1"), (7, u "props"), (0, u "Ljava/util/Properties;"), (2, u "lineSeparator"), (0, u "Ljava/lang/String;"), (96, .class_ 321), (1, u "java/lang/System$LoggerFinder"), (5, .class_ 328), (0, u "java/lang/System$Logger"), (67, u "err"), (2, u "out"), (91, u "notSupportedJnuEncoding"), (15, u "in"), (17, u "initialIn"), (0, u "Ljava/io/InputStream;"), (35, u "bootLayer"), (0, u "Ljava/lang/ModuleLayer;"), (99, .class_ 664), (0, u "java/lang/System$2"), (9, u "NEVER"), (2, u "MAYBE"), (49, u "arraycopy"), (0, u "(Ljava/lang/Object;ILjava/lang/Object;II)V"), (72, .class_ 802), (0, u "java/lang/System$Logger$Level")] 31

def k5m0 : Method := { name := "<init>", desc := "()V", sig := { parameters := [], returnType := none }, accessFlags := 2, code := none }
def k5m1 : Method := { name := "arraycopy", desc := "(Ljava/lang/Object;ILjava/lang/Object;II)V", sig := { parameters := [(.object "java/lang/Object"), .int, (.object "java/lang/Object"), .int, .int], returnType := none }, accessFlags := 265, code := none }
/-- java/lang/System -/
def k5 : Class := { plain "java/lang/System" (some 0) with
  accessFlags := 49
  interfaces := #[]
  cf := some (fileOf pool5 8 #[.nestMembers #[319, 327, 801, 108, 663, 208]] #[{ accessFlags := 2, nameIndex := 5, descriptorIndex := 6, attributes := #[] }, { accessFlags := 265, nameIndex := 727, descriptorIndex := 728, attributes := #[] }] 49 2 #[] #[{ accessFlags := 25, nameIndex := 507, descriptorIndex := 526, attributes := #[] }, { accessFlags := 25, nameIndex := 399, descriptorIndex := 155, attributes := #[] }, { accessFlags := 25, nameIndex := 396, descriptorIndex := 155, attributes := #[] }, { accessFlags := 10, nameIndex := 525, descriptorIndex := 526, attributes := #[] }, { accessFlags := 26, nameIndex := 674, descriptorIndex := 12, attributes := #[] }, { accessFlags := 26, nameIndex := 677, descriptorIndex := 12, attributes := #[] }, { accessFlags := 10, nameIndex := 11, descriptorIndex := 12, attributes := #[] }, { accessFlags := 74, nameIndex := 175, descriptorIndex := 176, attributes := #[] }, { accessFlags := 10, nameIndex := 491, descriptorIndex := 222, attributes := #[] }, { accessFlags := 74, nameIndex := 29, descriptorIndex := 30, attributes := #[] }, { accessFlags := 74, nameIndex := 154, descriptorIndex := 155, attributes := #[] }, { accessFlags := 10, nameIndex := 217, descriptorIndex := 218, attributes := #[] }, { accessFlags := 10, nameIndex := 221, descriptorIndex := 222, attributes := #[] }, { accessFlags := 8, nameIndex := 562, descriptorIndex := 563, attributes := #[] }])
  fields := #[{ name := "in", type := (.object "java/io/InputStream"), accessFlags := 25, slot := 0, constantValue := 0 }, { name := "out", type := (.object "java/io/PrintStream"), accessFlags := 25, slot := 1, constantValue := 0 }, { name := "err", type := (.object "java/io/PrintStream"), accessFlags := 25, slot := 2, constantValue := 0 }, { name := "initialIn", type := (.object "java/io/InputStream"), accessFlags := 10, slot := 3, constantValue := 0 }, { name := "NEVER", type := .int, accessFlags := 26, slot := 4, constantValue := 0 }, { name := "MAYBE", type := .int, accessFlags := 26, slot := 5, constantValue := 0 }, { name := "allowSecurityManager", type := .int, accessFlags := 10, slot := 6, constantValue := 0 }, { name := "security", type := (.object "java/lang/SecurityManager"), accessFlags := 74, slot := 7, constantValue := 0 }, { name := "notSupportedJnuEncoding", type := (.object "java/lang/String"), accessFlags := 10, slot := 8, constantValue := 0 }, { name := "cons", type := (.object "java/io/Console"), accessFlags := 74, slot := 9, constantValue := 0 }, { name := "initialErrStream", type := (.object "java/io/PrintStream"), accessFlags := 74, slot := 10, constantValue := 0 }, { name := "props", type := (.object "java/util/Properties"), accessFlags := 10, slot := 11, constantValue := 0 }, { name := "lineSeparator", type := (.object "java/lang/String"), accessFlags := 10, slot := 12, constantValue := 0 }, { name := "bootLayer", type := (.object "java/lang/ModuleLayer"), accessFlags := 8, slot := 13, constantValue := 0 }]
  methods := #[k5m0, k5m1]
  instanceTypes := #[]
  staticTypes := #[(.object "java/io/InputStream"), (.object "java/io/PrintStream"), (.object "java/io/PrintStream"), (.object "java/io/InputStream"), .int, .int, .int, (.object "java/lang/SecurityManager"), (.object "java/lang/String"), (.object "java/io/Console"), (.object "java/io/PrintStream"), (.object "java/util/Properties"), (.object "java/lang/String"), (.object "java/lang/ModuleLayer")]
  resolved := Array.replicate 834 none
  statics := none }

def pool6 : Array CpInfo := pool [(1, .class_ 2), (0, u "java/lang/Math"), (1, .class_ 6), (1, u "java/lang/Object"), (0, u "<init>"), (0, u "()V"), (89, .class_ 100), (1, u "java/lang/Math$RandomNumberGeneratorHolder"), (71, u "negativeZeroFloatBits"), (0, u "J"), (2, u "negativeZeroDoubleBits"), (21, u "max"), (2, u "min"), (43, u "$assertionsDisabled"), (0, u "Z"), (88, u "(II)I"), (2, u "twoToTheDoubleScaleDown"), (0, u "D"), (4, u "twoToTheDoubleScaleUp"), (9, u "E"), (3, u "PI"), (2, u "TAU"), (2, u "DEGREES_TO_RADIANS"), (0, u "RADIANS_TO_DEGREES")] 94

def k6m0 : Method := { name := "<init>", desc := "()V", sig := { parameters := [], returnType := none }, accessFlags := 2, code := none }
def k6c1 : Code := { maxStack := 2, maxLocals := 2, code := jdk_29_method_65_code, exceptionTable := #[], attributes := #[] }
def k6m1 : Method := { name := "max", desc := "(II)I", sig := { parameters := [.int, .int], returnType := some .int }, accessFlags := 9, code := some k6c1 }
def k6c2 : Code := { maxStack := 2, maxLocals := 2, code := jdk_29_method_69_code, exceptionTable := #[], attributes := #[] }
def k6m2 : Method := { name := "min", desc := "(II)I", sig := { parameters := [.int, .int], returnType := some .int }, accessFlags := 9, code := some k6c2 }
/-- java/lang/Math -/
def k6 : Class := { plain "java/lang/Math" (some 0) with
  accessFlags := 49
  interfaces := #[]
  cf := some (fileOf pool6 1 #[.nestMembers #[98]] #[{ accessFlags := 2, nameIndex := 7, descriptorIndex := 8, attributes := #[] }, { accessFlags := 9, nameIndex := 198, descriptorIndex := 335, attributes := #[] }, { accessFlags := 9, nameIndex := 201, descriptorIndex := 335, attributes := #[] }] 49 4 #[] #[{ accessFlags := 25, nameIndex := 354, descriptorIndex := 339, attributes := #[] }, { accessFlags := 25, nameIndex := 358, descriptorIndex := 339, attributes := #[] }, { accessFlags := 25, nameIndex := 361, descriptorIndex := 339, attributes := #[] }, { accessFlags := 26, nameIndex := 364, descriptorIndex := 339, attributes := #[] }, { accessFlags := 26, nameIndex := 365, descriptorIndex := 339, attributes := #[] }, { accessFlags := 26, nameIndex := 172, descriptorIndex := 173, attributes := #[] }, { accessFlags := 26, nameIndex := 176, descriptorIndex := 173, attributes := #[] }, { accessFlags := 8, nameIndex := 344, descriptorIndex := 339, attributes := #[] }, { accessFlags := 8, nameIndex := 338, descriptorIndex := 339, attributes := #[] }, { accessFlags := 4120, nameIndex := 245, descriptorIndex := 246, attributes := #[] }])
  fields := #[{ name := "E", type := .double, accessFlags := 25, slot := 0, constantValue := 0 }, { name := "PI", type := .double, accessFlags := 25, slot := 1, constantValue := 0 }, { name := "TAU", type := .double, accessFlags := 25, slot := 2, constantValue := 0 }, { name := "DEGREES_TO_RADIANS", type := .double, accessFlags := 26, slot := 3, constantValue := 0 }, { name := "RADIANS_TO_DEGREES", type := .double, accessFlags := 26, slot := 4, constantValue := 0 }, { name := "negativeZeroFloatBits", type := .long, accessFlags := 26, slot := 5, constantValue := 0 }, { name := "negativeZeroDoubleBits", type := .long, accessFlags := 26, slot := 6, constantValue := 0 }, { name := "twoToTheDoubleScaleUp", type := .double, accessFlags := 8, slot := 7, constantValue := 0 }, { name := "twoToTheDoubleScaleDown", type := .double, accessFlags := 8, slot := 8, constantValue := 0 }, { name := "$assertionsDisabled", type := .boolean, accessFlags := 4120, slot := 9, constantValue := 0 }]
  methods := #[k6m0, k6m1, k6m2]
  instanceTypes := #[]
  staticTypes := #[.double, .double, .double, .double, .double, .long, .long, .double, .double, .boolean]
  resolved := Array.replicate 460 none
  statics := none }

def pool7 : Array CpInfo := pool [(1, u "java/lang/Cloneable"), (0, .class_ 1), (0, u "java/lang/Object"), (0, .class_ 3)] 3

/-- java/lang/Cloneable -/
def k7 : Class := { plain "java/lang/Cloneable" (some 0) with
  accessFlags := 1537
  interfaces := #[]
  cf := some (fileOf pool7 2 #[] #[] 1537 4 #[] #[])
  fields := #[]
  methods := #[]
  instanceTypes := #[]
  staticTypes := #[]
  resolved := Array.replicate 8 none
  statics := none }

def pool8 : Array CpInfo := pool [(1, u "java/io/Serializable"), (0, .class_ 1), (0, u "java/lang/Object"), (0, .class_ 3)] 3

/-- java/io/Serializable -/
def k8 : Class := { plain "java/io/Serializable" (some 0) with
  accessFlags := 1537
  interfaces := #[]
  cf := some (fileOf pool8 2 #[] #[] 1537 4 #[] #[])
  fields := #[]
  methods := #[]
  instanceTypes := #[]
  staticTypes := #[]
  resolved := Array.replicate 8 none
  statics := none }

/-- the primitive boolean -/
def k9 : Class := { plain "boolean" none with kind := .primitive 'Z', accessFlags := 0x411 }
/-- [Z -/
def k10 : Class := { plain "[Z" (some 0) with kind := .array 9 .boolean, interfaces := #[7, 8], accessFlags := 1041 }

/-- the primitive byte -/
def k11 : Class := { plain "byte" none with kind := .primitive 'B', accessFlags := 0x411 }
/-- [B -/
def k12 : Class := { plain "[B" (some 0) with kind := .array 11 .byte, interfaces := #[7, 8], accessFlags := 1041 }

/-- the primitive int -/
def k13 : Class := { plain "int" none with kind := .primitive 'I', accessFlags := 0x411 }
/-- [I -/
def k14 : Class := { plain "[I" (some 0) with kind := .array 13 .int, interfaces := #[7, 8], accessFlags := 1041 }

/-- the primitive long -/
def k15 : Class := { plain "long" none with kind := .primitive 'J', accessFlags := 0x411 }
/-- [J -/
def k16 : Class := { plain "[J" (some 0) with kind := .array 15 .long, interfaces := #[7, 8], accessFlags := 1041 }

def heap : Heap := #[]
def classes : Array Class := #[k0, k1, k2, k3, k4, k5, k6, k7, k8, k9, k10, k11, k12, k13, k14, k15, k16]
def interned : List (Array UInt16 × Addr) := []
def slotsUsed : Nat := 0
def theMethod : MethodId := ⟨1, 1⟩
def args0 : Array Value := #[.int 5, .long 6, .int 7, .int 8]
def aboutOver (below : List Frame) : State where
  vm := { classes := classes, interned := interned.toArray }
  heap := heap
  slotsUsed := slotsUsed
  threads := #[{ frames := .invoking theMethod args0 :: below }]
def below0 : List Frame := [.native { method := ⟨0, 0⟩, args := #[] }]
def about1 : State := aboutOver below0
def p0 : Program := .bare "" "" ""
def e0 : Env := launch0.env 0 0 0
theorem w_frames : about1.frames = Frame.invoking theMethod args0 :: below0 := rfl
set_option maxRecDepth 65536 in
theorem w_args : argsFit about1.vm theMethod args0 = true := by decide +kernel
set_option maxRecDepth 65536 in
theorem w_heap : heapFits about1 = true := by decide +kernel
set_option maxRecDepth 65536 in
theorem w_runnable : about1.curStatus? = some .runnable := by decide +kernel
set_option maxRecDepth 65536 in
theorem w_alone : about1.alone = true := by decide +kernel
set_option maxRecDepth 65536 in
theorem w_named : about1.methodNamed? x = some theMethod := by decide +kernel
set_option maxRecDepth 65536 in
theorem w_hears : about1.hears theMethod below0 = true := by decide +kernel
set_option maxRecDepth 65536 in
theorem w_ripe : about1.ripe theMethod args0 below0 = true := by decide +kernel
theorem w_running : about1.status = .running := rfl
set_option maxRecDepth 65536 in
theorem w_room : about1.hasRoom e0.platform room_1 = true :=
  launch0.hasRoom_least _ room_1 (by decide +kernel) (by decide +kernel) (by decide +kernel) (by decide +kernel) (by decide +kernel) (by decide +kernel)
theorem allAtoms_all (ts : List Jvm.Cond) (a : Array Jvm.Value) (st : Jvm.State) : (allAtoms ts).before a st = ts.all (fun c => c.before a st) := by
  induction ts with
  | nil => rfl
  | cons c t ih =>
    show (Jvm.Cond.and c (allAtoms t)).before a st = _
    rw [Jvm.Cond.before_and, ih, List.all_cons]
def words1 : List Jvm.Cond := Jvm.Cond.code x code maxLocals ret :: tables_1
/-- a 'code' word, met by the world's own term for the bytes: nothing is compared byte by byte -/
theorem code_word {y : MethodName} {bytes : ByteArray} {mx : Nat} {rt : Option FieldType} {a : Array Value} {s : State} {m : MethodId} {meth : Method} {c : Code} (h1 : s.methodNamed? y = some m) (h2 : s.vm.method? m = some meth) (h3 : meth.code = some c) (h4 : c.code = bytes)
    (h5 : (c.maxLocals == mx && c.exceptionTable.isEmpty && decide (c.maxStack ≤ mostOperands) && decide (meth.sig.returnType = rt) && !meth.locks && decide (parseMethodDescriptor y.desc = some meth.sig)) = true) : (Jvm.Cond.code y bytes mx rt).before a s = true := by
  simp only [Bool.and_eq_true, beq_iff_eq, Bool.not_eq_true', decide_eq_true_eq] at h5
  obtain ⟨⟨⟨⟨⟨g1, g2⟩, g3⟩, g4⟩, g5⟩, g6⟩ := h5
  simp [Cond.before, Cond.holds, Cond.value, h1, h2, h3, h4, g1, g2, g3, g4, g5, g6]
def isCode : Jvm.Cond → Bool
  | .code _ _ _ _ => true
  | _ => false
theorem all_split {L : List Jvm.Cond} {P : Jvm.Cond → Bool} (h1 : L.all (fun c => isCode c || P c) = true) (h2 : ∀ c ∈ L.filter isCode, P c = true) : L.all P = true := by
  refine List.all_eq_true.mpr fun c hc => ?_
  have h := List.all_eq_true.mp h1 c hc
  rcases Bool.eq_false_or_eq_true (isCode c) with hi | hi
  · exact h2 c (List.mem_filter.mpr ⟨hc, hi⟩)
  · simpa [hi] using h
set_option maxRecDepth 65536 in
theorem w_c0 : (Jvm.Cond.code x code maxLocals ret).before args0 about1 = true := code_word (m := ⟨1, 1⟩) (meth := k1m1) (c := k1c1) (by decide +kernel) rfl rfl rfl (by decide +kernel)
set_option maxRecDepth 65536 in
theorem w_c1 : (Jvm.Cond.code ({ cls := "com/example/rowsieve/rowsieve/data/PageValues", name := "<init>", desc := "()V" } : Jvm.MethodName) prog_13_method_1_code (1 : Nat) (Option.none : Option Jvm.ClassFile.FieldType)).before args0 about1 = true := code_word (m := ⟨3, 0⟩) (meth := k3m0) (c := k3c0) (by decide +kernel) rfl rfl rfl (by decide +kernel)
set_option maxRecDepth 65536 in
theorem w_c2 : (Jvm.Cond.code ({ cls := "java/lang/Object", name := "<init>", desc := "()V" } : Jvm.MethodName) object_method_1_code (1 : Nat) (Option.none : Option Jvm.ClassFile.FieldType)).before args0 about1 = true := code_word (m := ⟨0, 0⟩) (meth := k0m0) (c := k0c0) (by decide +kernel) rfl rfl rfl (by decide +kernel)
set_option maxRecDepth 65536 in
theorem w_c3 : (Jvm.Cond.code ({ cls := "com/example/rowsieve/rowsieve/data/PageValues", name := "clear", desc := "(I)V" } : Jvm.MethodName) prog_13_method_2_code (2 : Nat) (Option.none : Option Jvm.ClassFile.FieldType)).before args0 about1 = true := code_word (m := ⟨3, 1⟩) (meth := k3m1) (c := k3c1) (by decide +kernel) rfl rfl rfl (by decide +kernel)
set_option maxRecDepth 65536 in
theorem w_c4 : (Jvm.Cond.code ({ cls := "com/example/rowsieve/rowsieve/data/PageValues", name := "rows", desc := "()I" } : Jvm.MethodName) prog_13_method_4_code (1 : Nat) (Option.some Jvm.ClassFile.FieldType.int)).before args0 about1 = true := code_word (m := ⟨3, 3⟩) (meth := k3m3) (c := k3c3) (by decide +kernel) rfl rfl rfl (by decide +kernel)
set_option maxRecDepth 65536 in
theorem w_c5 : (Jvm.Cond.code ({ cls := "com/example/rowsieve/rowsieve/data/PageValues", name := "count", desc := "()I" } : Jvm.MethodName) prog_13_method_3_code (1 : Nat) (Option.some Jvm.ClassFile.FieldType.int)).before args0 about1 = true := code_word (m := ⟨3, 2⟩) (meth := k3m2) (c := k3c2) (by decide +kernel) rfl rfl rfl (by decide +kernel)
set_option maxRecDepth 65536 in
theorem w_c6 : (Jvm.Cond.code ({ cls := "com/example/rowsieve/rowsieve/data/PageValues", name := "bytesCopied", desc := "()I" } : Jvm.MethodName) prog_13_method_5_code (1 : Nat) (Option.some Jvm.ClassFile.FieldType.int)).before args0 about1 = true := code_word (m := ⟨3, 4⟩) (meth := k3m4) (c := k3c4) (by decide +kernel) rfl rfl rfl (by decide +kernel)
set_option maxRecDepth 65536 in
theorem w_c7 : (Jvm.Cond.code ({ cls := "com/example/rowsieve/rowsieve/data/PageValues", name := "addBits", desc := "(I)[J" } : Jvm.MethodName) prog_13_method_7_code (2 : Nat) (Option.some (Jvm.ClassFile.FieldType.array Jvm.ClassFile.FieldType.long))).before args0 about1 = true := code_word (m := ⟨3, 6⟩) (meth := k3m6) (c := k3c6) (by decide +kernel) rfl rfl rfl (by decide +kernel)
set_option maxRecDepth 65536 in
theorem w_c8 : (Jvm.Cond.code ({ cls := "java/util/Arrays", name := "fill", desc := "([ZIIZ)V" } : Jvm.MethodName) jdk_65_method_112_code (5 : Nat) (Option.none : Option Jvm.ClassFile.FieldType)).before args0 about1 = true := code_word (m := ⟨4, 2⟩) (meth := k4m2) (c := k4c2) (by decide +kernel) rfl rfl rfl (by decide +kernel)
set_option maxRecDepth 65536 in
theorem w_c9 : (Jvm.Cond.code ({ cls := "java/util/Arrays", name := "rangeCheck", desc := "(III)V" } : Jvm.MethodName) jdk_65_method_30_code (3 : Nat) (Option.none : Option Jvm.ClassFile.FieldType)).before args0 about1 = true := code_word (m := ⟨4, 1⟩) (meth := k4m1) (c := k4c1) (by decide +kernel) rfl rfl rfl (by decide +kernel)
set_option maxRecDepth 65536 in
theorem w_c10 : (Jvm.Cond.code ({ cls := "com/example/rowsieve/rowsieve/data/PageValues", name := "add", desc := "([BII)V" } : Jvm.MethodName) prog_13_method_9_code (4 : Nat) (Option.none : Option Jvm.ClassFile.FieldType)).before args0 about1 = true := code_word (m := ⟨3, 8⟩) (meth := k3m8) (c := k3c8) (by decide +kernel) rfl rfl rfl (by decide +kernel)
set_option maxRecDepth 65536 in
theorem w_c11 : (Jvm.Cond.code ({ cls := "com/example/rowsieve/rowsieve/data/PageValues", name := "copyRoom", desc := "(I)[B" } : Jvm.MethodName) prog_13_method_13_code (2 : Nat) (Option.some (Jvm.ClassFile.FieldType.array Jvm.ClassFile.FieldType.byte))).before args0 about1 = true := code_word (m := ⟨3, 10⟩) (meth := k3m10) (c := k3c10) (by decide +kernel) rfl rfl rfl (by decide +kernel)
set_option maxRecDepth 65536 in
theorem w_c12 : (Jvm.Cond.code ({ cls := "com/example/rowsieve/rowsieve/data/PageValues", name := "addCopied", desc := "(I)V" } : Jvm.MethodName) prog_13_method_14_code (2 : Nat) (Option.none : Option Jvm.ClassFile.FieldType)).before args0 about1 = true := code_word (m := ⟨3, 11⟩) (meth := k3m11) (c := k3c11) (by decide +kernel) rfl rfl rfl (by decide +kernel)
set_option maxRecDepth 65536 in
theorem w_c13 : (Jvm.Cond.code ({ cls := "com/example/rowsieve/rowsieve/data/PageValues", name := "addInPlace", desc := "([BII)V" } : Jvm.MethodName) prog_13_method_11_code (4 : Nat) (Option.none : Option Jvm.ClassFile.FieldType)).before args0 about1 = true := code_word (m := ⟨3, 9⟩) (meth := k3m9) (c := k3c9) (by decide +kernel) rfl rfl rfl (by decide +kernel)
set_option maxRecDepth 65536 in
theorem w_c14 : (Jvm.Cond.code ({ cls := "java/lang/Math", name := "max", desc := "(II)I" } : Jvm.MethodName) jdk_29_method_65_code (2 : Nat) (Option.some Jvm.ClassFile.FieldType.int)).before args0 about1 = true := code_word (m := ⟨6, 1⟩) (meth := k6m1) (c := k6c1) (by decide +kernel) rfl rfl rfl (by decide +kernel)
set_option maxRecDepth 65536 in
theorem w_c15 : (Jvm.Cond.code ({ cls := "java/util/Arrays", name := "copyOf", desc := "([JI)[J" } : Jvm.MethodName) jdk_65_method_124_code (3 : Nat) (Option.some (Jvm.ClassFile.FieldType.array Jvm.ClassFile.FieldType.long))).before args0 about1 = true := code_word (m := ⟨4, 3⟩) (meth := k4m3) (c := k4c3) (by decide +kernel) rfl rfl rfl (by decide +kernel)
set_option maxRecDepth 65536 in
theorem w_c16 : (Jvm.Cond.code ({ cls := "java/lang/Math", name := "min", desc := "(II)I" } : Jvm.MethodName) jdk_29_method_69_code (2 : Nat) (Option.some Jvm.ClassFile.FieldType.int)).before args0 about1 = true := code_word (m := ⟨6, 2⟩) (meth := k6m2) (c := k6c2) (by decide +kernel) rfl rfl rfl (by decide +kernel)
set_option maxRecDepth 65536 in
theorem w_c17 : (Jvm.Cond.code ({ cls := "com/example/rowsieve/rowsieve/data/PageValues", name := "add", desc := "(J)V" } : Jvm.MethodName) prog_13_method_8_code (3 : Nat) (Option.none : Option Jvm.ClassFile.FieldType)).before args0 about1 = true := code_word (m := ⟨3, 7⟩) (meth := k3m7) (c := k3c7) (by decide +kernel) rfl rfl rfl (by decide +kernel)
set_option maxRecDepth 65536 in
theorem w_c18 : (Jvm.Cond.code ({ cls := "com/example/rowsieve/rowsieve/data/PageValues", name := "addNull", desc := "()V" } : Jvm.MethodName) prog_13_method_6_code (1 : Nat) (Option.none : Option Jvm.ClassFile.FieldType)).before args0 about1 = true := code_word (m := ⟨3, 5⟩) (meth := k3m5) (c := k3c5) (by decide +kernel) rfl rfl rfl (by decide +kernel)
def codes1 : List Jvm.Cond := [Jvm.Cond.code x code maxLocals ret, Jvm.Cond.code ({ cls := "com/example/rowsieve/rowsieve/data/PageValues", name := "<init>", desc := "()V" } : Jvm.MethodName) prog_13_method_1_code (1 : Nat) (Option.none : Option Jvm.ClassFile.FieldType), Jvm.Cond.code ({ cls := "java/lang/Object", name := "<init>", desc := "()V" } : Jvm.MethodName) object_method_1_code (1 : Nat) (Option.none : Option Jvm.ClassFile.FieldType), Jvm.Cond.code ({ cls := "com/example/rowsieve/rowsieve/data/PageValues", name := "clear", desc := "(I)V" } : Jvm.MethodName) prog_13_method_2_code (2 : Nat) (Option.none : Option Jvm.ClassFile.FieldType), Jvm.Cond.code ({ cls := "com/example/rowsieve/rowsieve/data/PageValues", name := "rows", desc := "()I" } : Jvm.MethodName) prog_13_method_4_code (1 : Nat) (Option.some Jvm.ClassFile.FieldType.int), Jvm.Cond.code ({ cls := "com/example/rowsieve/rowsieve/data/PageValues", name := "count", desc := "()I" } : Jvm.MethodName) prog_13_method_3_code (1 : Nat) (Option.some Jvm.ClassFile.FieldType.int), Jvm.Cond.code ({ cls := "com/example/rowsieve/rowsieve/data/PageValues", name := "bytesCopied", desc := "()I" } : Jvm.MethodName) prog_13_method_5_code (1 : Nat) (Option.some Jvm.ClassFile.FieldType.int), Jvm.Cond.code ({ cls := "com/example/rowsieve/rowsieve/data/PageValues", name := "addBits", desc := "(I)[J" } : Jvm.MethodName) prog_13_method_7_code (2 : Nat) (Option.some (Jvm.ClassFile.FieldType.array Jvm.ClassFile.FieldType.long)), Jvm.Cond.code ({ cls := "java/util/Arrays", name := "fill", desc := "([ZIIZ)V" } : Jvm.MethodName) jdk_65_method_112_code (5 : Nat) (Option.none : Option Jvm.ClassFile.FieldType), Jvm.Cond.code ({ cls := "java/util/Arrays", name := "rangeCheck", desc := "(III)V" } : Jvm.MethodName) jdk_65_method_30_code (3 : Nat) (Option.none : Option Jvm.ClassFile.FieldType), Jvm.Cond.code ({ cls := "com/example/rowsieve/rowsieve/data/PageValues", name := "add", desc := "([BII)V" } : Jvm.MethodName) prog_13_method_9_code (4 : Nat) (Option.none : Option Jvm.ClassFile.FieldType), Jvm.Cond.code ({ cls := "com/example/rowsieve/rowsieve/data/PageValues", name := "copyRoom", desc := "(I)[B" } : Jvm.MethodName) prog_13_method_13_code (2 : Nat) (Option.some (Jvm.ClassFile.FieldType.array Jvm.ClassFile.FieldType.byte)), Jvm.Cond.code ({ cls := "com/example/rowsieve/rowsieve/data/PageValues", name := "addCopied", desc := "(I)V" } : Jvm.MethodName) prog_13_method_14_code (2 : Nat) (Option.none : Option Jvm.ClassFile.FieldType), Jvm.Cond.code ({ cls := "com/example/rowsieve/rowsieve/data/PageValues", name := "addInPlace", desc := "([BII)V" } : Jvm.MethodName) prog_13_method_11_code (4 : Nat) (Option.none : Option Jvm.ClassFile.FieldType), Jvm.Cond.code ({ cls := "java/lang/Math", name := "max", desc := "(II)I" } : Jvm.MethodName) jdk_29_method_65_code (2 : Nat) (Option.some Jvm.ClassFile.FieldType.int), Jvm.Cond.code ({ cls := "java/util/Arrays", name := "copyOf", desc := "([JI)[J" } : Jvm.MethodName) jdk_65_method_124_code (3 : Nat) (Option.some (Jvm.ClassFile.FieldType.array Jvm.ClassFile.FieldType.long)), Jvm.Cond.code ({ cls := "java/lang/Math", name := "min", desc := "(II)I" } : Jvm.MethodName) jdk_29_method_69_code (2 : Nat) (Option.some Jvm.ClassFile.FieldType.int), Jvm.Cond.code ({ cls := "com/example/rowsieve/rowsieve/data/PageValues", name := "add", desc := "(J)V" } : Jvm.MethodName) prog_13_method_8_code (3 : Nat) (Option.none : Option Jvm.ClassFile.FieldType), Jvm.Cond.code ({ cls := "com/example/rowsieve/rowsieve/data/PageValues", name := "addNull", desc := "()V" } : Jvm.MethodName) prog_13_method_6_code (1 : Nat) (Option.none : Option Jvm.ClassFile.FieldType)]
set_option maxRecDepth 65536 in
theorem codes_eq : words1.filter isCode = codes1 := rfl
theorem w_codes : ∀ c ∈ words1.filter isCode, c.before args0 about1 = true := by
  rw [codes_eq]
  intro c hc
  simp only [codes1, List.mem_cons, List.not_mem_nil, or_false] at hc
  rcases hc with rfl | rfl | rfl | rfl | rfl | rfl | rfl | rfl | rfl | rfl | rfl | rfl | rfl | rfl | rfl | rfl | rfl | rfl | rfl
  · exact w_c0
  · exact w_c1
  · exact w_c2
  · exact w_c3
  · exact w_c4
  · exact w_c5
  · exact w_c6
  · exact w_c7
  · exact w_c8
  · exact w_c9
  · exact w_c10
  · exact w_c11
  · exact w_c12
  · exact w_c13
  · exact w_c14
  · exact w_c15
  · exact w_c16
  · exact w_c17
  · exact w_c18
set_option maxRecDepth 65536 in
theorem w_t1 : (words1.take 24).all (fun c => isCode c || c.before args0 about1) = true := by decide +kernel
set_option maxRecDepth 65536 in
theorem w_t2 : ((words1.drop 24).take 24).all (fun c => isCode c || c.before args0 about1) = true := by decide +kernel
set_option maxRecDepth 65536 in
theorem w_t3 : (((words1.drop 24).drop 24).take 24).all (fun c => isCode c || c.before args0 about1) = true := by decide +kernel
set_option maxRecDepth 65536 in
theorem w_t4 : ((((words1.drop 24).drop 24).drop 24).take 24).all (fun c => isCode c || c.before args0 about1) = true := by decide +kernel
set_option maxRecDepth 65536 in
theorem w_t5 : ((((words1.drop 24).drop 24).drop 24).drop 24).all (fun c => isCode c || c.before args0 about1) = true := by decide +kernel
theorem w_tables : (allAtoms (Jvm.Cond.code x code maxLocals ret :: tables_1)).before args0 about1 = true := by
  rw [allAtoms_all]
  show words1.all (fun c => c.before args0 about1) = true
  refine all_split ?_ w_codes
  rw [← List.take_append_drop 24 words1, List.all_append, w_t1, ← List.take_append_drop 24 (words1.drop 24), List.all_append, w_t2, ← List.take_append_drop 24 ((words1.drop 24).drop 24), List.all_append, w_t3, ← List.take_append_drop 24 (((words1.drop 24).drop 24).drop 24), List.all_append, w_t4, w_t5]
  rfl
set_option maxRecDepth 65536 in
theorem w_case : (Jvm.Cond.and given_1 narrow_1).before args0 about1 = true := by decide +kernel
theorem w_applies : (headSpec (Jvm.Cond.code x code maxLocals ret :: tables_1) room_1).applies x e0.platform about1 = true :=
  (Spec.applies_iff w_frames).mpr ⟨w_running, w_runnable, w_alone, w_named, w_hears, w_ripe, w_room, w_tables⟩
theorem atStart : AtStart classFile x code maxLocals ret World_1 tables_1 room_1 Calls_1 rest_1 Pre_1 launch0 p0 e0 about1 theMethod args0 below0 :=
  ⟨lists_1, trivial, launch0.admits_env _ _ _, launch0.least_env, fairChoices_fair.cas, fairChoices_fair.clock, w_frames, w_args, w_heap, w_applies, trivial, trivial, w_case⟩
end start1
theorem witness_1 : WitnessClaimed_1 := ⟨start1.p0, start1.e0, start1.about1, start1.theMethod, start1.args0, start1.below0, start1.atStart⟩
end Jvm.Pilot.@@N@@
