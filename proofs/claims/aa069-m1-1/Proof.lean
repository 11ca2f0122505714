import JvmDerived
import JvmDerived.Pilot.@@N@@Statement
import JvmDerived.Pilot.@@N@@Code
set_option linter.unusedVariables false
set_option linter.unusedSimpArgs false
namespace Jvm.Pilot.@@N@@
open Jvm Jvm.ClassFile Sem Op Lib Jvm.Free Jvm.Stand Jvm.LawKit Jvm.RoadKit Bundle Jvm.Pilot.@@N@@.Jvm.D
section Own
variable {p : Program} {l : Launch} {e : Env} {R : Room} {s : State} {m : MethodId} {args : Array Value} {below : List Frame} {meth : Method} {c : Code} {T : State} {locs : List Loc} {cells slots : Nat} {G : State → Outcome → Prop}
def Go (p : Program) (e : Env) (below : List Frame) (G : State → Outcome → Prop) (st : State) : Prop := ∃ s₂ o, Steps p.tables e below st s₂ ∧ s₂.status = .running ∧ Ended s₂ below o ∧ G s₂ o
theorem Go.st {A B : State} (k : ∀ t, Steps p.tables e below B t → Steps p.tables e below A t) (h : Go p e below G B) : Go p e below G A := by
  obtain ⟨s₂, o, h1, h2⟩ := h
  exact ⟨s₂, o, k _ h1, h2⟩
theorem Go.tr {A B : State} (k : Steps p.tables e below A B) (h : Go p e below G B) : Go p e below G A := by
  obtain ⟨s₂, o, h1, h2⟩ := h
  exact ⟨s₂, o, k.trans h1, h2⟩
theorem Go.retW (X : Stand p l e R s m args below meth c T locs cells slots) (hx : p.tables.exec = Jvm.exec) {t : FieldType} (hret : meth.sig.returnType = some t) {w : Value} {i : Instr} (hn : narrow t w = w)
    (hi : (i = .ireturn ∧ (t = .int ∨ t = .boolean ∨ t = .byte ∨ t = .char ∨ t = .short) ∧ ∃ z, w = .int z) ∨ (i = .lreturn ∧ t = .long ∧ ∃ z, w = .long z) ∨ (i = .dreturn ∧ t = .double ∧ ∃ z, w = .double z) ∨ (i = .freturn ∧ t = .float ∧ ∃ z, w = .float z) ∨ (i = .areturn ∧ t.isReference = true ∧ w.isRef = true))
    (hlk : meth.locks = false) {pc : Nat} {Ls : Array Slot} {rest : List Value} (hd : decode c.code pc = .ok (i, 1)) {C S : Nat} {Q : Option Value → Heap → List Loc → Prop} (hC : cells ≤ C) (hS : slots ≤ S) (q : Q (some w) T.heap locs) :
    Go p e below (fun s₂ o => ∃ v L, o = .returned v ∧ Q v s₂.heap L ∧ FrameEnd s o s₂ L C S) (T.setTop (mkF m pc Ls (w :: rest))) := by
  obtain ⟨fs, hr, hrun, hended, hW, hsame⟩ := X.leave (v := some w) (fun h => by rw [hret] at h; cases h) hlk
  exact ⟨_, _, retOut X hx hret hn hi hd hr, hrun, hended, _, _, rfl, q, ⟨_, rfl⟩, hW, hsame.mono hC hS⟩
theorem Go.retN (X : Stand p l e R s m args below meth c T locs cells slots) (hx : p.tables.exec = Jvm.exec) {t : FieldType} (hret : meth.sig.returnType = some t) (ht : t = .boolean ∨ t = .byte ∨ t = .char ∨ t = .short) (hlk : meth.locks = false) {pc : Nat} {Ls : Array Slot} {z : Int32} {rest : List Value} (hd : decode c.code pc = .ok (.ireturn, 1))
    {C S : Nat} {Q : Option Value → Heap → List Loc → Prop} (hC : cells ≤ C) (hS : slots ≤ S) (q : Q (some (.int (nar t z))) T.heap locs) :
    Go p e below (fun s₂ o => ∃ v L, o = .returned v ∧ Q v s₂.heap L ∧ FrameEnd s o s₂ L C S) (T.setTop (mkF m pc Ls (.int z :: rest))) := by
  obtain ⟨fs, hr, hrun, hended, hW, hsame⟩ := X.leave (v := some (.int (nar t z))) (fun h => by rw [hret] at h; cases h) hlk
  exact ⟨_, _, Jvm.RoadKit.retN X hx hret ht hd hr, hrun, hended, _, _, rfl, q, ⟨_, rfl⟩, hW, hsame.mono hC hS⟩
theorem Go.retI (X : Stand p l e R s m args below meth c T locs cells slots) (hx : p.tables.exec = Jvm.exec) (hret : meth.sig.returnType = some .int) (hlk : meth.locks = false) {pc : Nat} {Ls : Array Slot} {z : Int32} {rest : List Value} (hd : decode c.code pc = .ok (.ireturn, 1))
    {C S : Nat} {Q : Option Value → Heap → List Loc → Prop} (hC : cells ≤ C) (hS : slots ≤ S) (q : Q (some (.int z)) T.heap locs) :
    Go p e below (fun s₂ o => ∃ v L, o = .returned v ∧ Q v s₂.heap L ∧ FrameEnd s o s₂ L C S) (T.setTop (mkF m pc Ls (.int z :: rest))) :=
  Go.retW X hx hret rfl (Or.inl ⟨rfl, Or.inl rfl, z, rfl⟩) hlk hd hC hS q
theorem Go.retL (X : Stand p l e R s m args below meth c T locs cells slots) (hx : p.tables.exec = Jvm.exec) (hret : meth.sig.returnType = some .long) (hlk : meth.locks = false) {pc : Nat} {Ls : Array Slot} {z : Int64} {rest : List Value} (hd : decode c.code pc = .ok (.lreturn, 1))
    {C S : Nat} {Q : Option Value → Heap → List Loc → Prop} (hC : cells ≤ C) (hS : slots ≤ S) (q : Q (some (.long z)) T.heap locs) :
    Go p e below (fun s₂ o => ∃ v L, o = .returned v ∧ Q v s₂.heap L ∧ FrameEnd s o s₂ L C S) (T.setTop (mkF m pc Ls (.long z :: rest))) :=
  Go.retW X hx hret rfl (Or.inr (Or.inl ⟨rfl, rfl, z, rfl⟩)) hlk hd hC hS q
theorem Go.retA (X : Stand p l e R s m args below meth c T locs cells slots) (hx : p.tables.exec = Jvm.exec) {t : FieldType} (hret : meth.sig.returnType = some t) {w : Value} (ht : t.isReference = true) (hw : w.isRef = true) (hlk : meth.locks = false) {pc : Nat} {Ls : Array Slot} {rest : List Value} (hd : decode c.code pc = .ok (.areturn, 1))
    {C S : Nat} {Q : Option Value → Heap → List Loc → Prop} (hC : cells ≤ C) (hS : slots ≤ S) (q : Q (some w) T.heap locs) :
    Go p e below (fun s₂ o => ∃ v L, o = .returned v ∧ Q v s₂.heap L ∧ FrameEnd s o s₂ L C S) (T.setTop (mkF m pc Ls (w :: rest))) :=
  Go.retW X hx hret (by rcases ref_cases hw with rfl | ⟨a, rfl⟩ <;> cases t <;> first | rfl | cases ht) (Or.inr (Or.inr (Or.inr (Or.inr ⟨rfl, ht, hw⟩)))) hlk hd hC hS q
theorem Go.retV (X : Stand p l e R s m args below meth c T locs cells slots) (hx : p.tables.exec = Jvm.exec) (hret : meth.sig.returnType = none) (hlk : meth.locks = false) {pc : Nat} {Ls : Array Slot} (hd : decode c.code pc = .ok (.return_, 1))
    {C S : Nat} {Q : Option Value → Heap → List Loc → Prop} (hC : cells ≤ C) (hS : slots ≤ S) (q : Q none T.heap locs) :
    Go p e below (fun s₂ o => ∃ v L, o = .returned v ∧ Q v s₂.heap L ∧ FrameEnd s o s₂ L C S) (T.setTop (mkF m pc Ls [])) := by
  obtain ⟨fs, hr, hrun, hended, hW, hsame⟩ := X.leave (v := none) (fun _ => rfl) hlk
  exact ⟨_, _, X.returnOut hx hret hd hr, hrun, hended, _, _, rfl, q, ⟨_, rfl⟩, hW, hsame.mono hC hS⟩
end Own
theorem own_self {Z s : State} {a0 args : Array Value} {y : MethodName} {n : Nat} (hZ : Z.Warmed39 s.vm) (wi : (Cond.instantiable y.cls n).before a0 Z = true) (wp : (Cond.privateMethod y).before a0 Z = true) (wm : (Cond.instanceMethod y).before a0 Z = true) (hy : y.cls ≠ "java/lang/invoke/MethodHandle" ∧ y.cls ≠ "java/lang/invoke/VarHandle") : (Cond.selects y.cls y y).before args s = true := by
  have wi' : (Cond.instantiable y.cls n).before args s = true := mv hZ wi
  obtain ⟨c, k, i1, i2, -, i4, -⟩ := Cond.instantiable_spec wi'
  simp only [Bool.or_eq_false_iff] at i4
  exact selects_self_of_private i1 i2 i4.1 (Cond.privateMethod_at (mvP hZ wp (args := #[]))) (mv hZ wm) hy
section OwnAV
variable {Z : State} {h h' : Heap} {a b : Addr} {ty : FieldType} {n : Int32} {ws : List Addr} {sl : Nat} {v d : Value} {k : ClassId} {vs : List Value}
def AV (Z : State) (h : Heap) (a : Addr) (ty : FieldType) (n : Int32) : Prop := ∃ c : Cell, Arr Z h a c ty ∧ c.slots.size = n.toNatClampNeg ∧ ¬ n < 0 ∧ ∀ (i : Nat) (v : Value), c.slots[i]? = some v → fits ty v = true
theorem AV.lt (F : AV Z h a ty n) : a < h.size := by obtain ⟨c, A, -⟩ := F; exact A.lt
theorem AV.ext (F : AV Z h a ty n) (E : Ext h h') : AV Z h' a ty n := by obtain ⟨c, A, r⟩ := F; exact ⟨c, A.ext E, r⟩
theorem AV.other (F : AV Z h a ty n) (W : Wr h h' b sl v) (q : a ≠ b) : AV Z h' a ty n := by obtain ⟨c, A, r⟩ := F; exact ⟨c, A.other W q, r⟩
theorem AV.keep (F : AV Z h a ty n) (K : Keep h h' ws) (q : a ∉ ws) : AV Z h' a ty n := by obtain ⟨c, A, r⟩ := F; exact ⟨c, ⟨K.2.1 a c A.1 q, A.2⟩, r⟩
theorem AV.of (F : Arv Z h a k ty n vs d) : AV Z h a ty n := by
  obtain ⟨c, A, -, S, q, H, G⟩ := F
  refine ⟨c, A, S, q, fun i w hw => ?_⟩
  have hi := (Array.getElem?_eq_some_iff.mp hw).1
  have := H i hi
  rw [hw] at this
  rw [Option.some.inj this]; exact G i hi
theorem AV.new (A : Arr Z h a (newA k ty n) ty) (q : ¬ n < 0) (fd : fits ty (defaultValue ty) = true) : AV Z h a ty n := by
  refine ⟨_, A, sz_new _ _ _, q, fun i w hw => ?_⟩
  simp only [newA, Array.getElem?_replicate] at hw
  split at hw
  · cases hw; exact fd
  · cases hw
theorem AV.set {c : Cell} (A : Arr Z h a c ty) (S : c.slots.size = n.toNatClampNeg) (q : ¬ n < 0) (G : ∀ (i : Nat) (v : Value), c.slots[i]? = some v → fits ty v = true) (hv : fits ty v = true) (W : Wr h h' a sl v) : AV Z h' a ty n := by
  refine ⟨_, A.same W, by rw [sz_set]; exact S, q, fun i w hw => ?_⟩
  by_cases e : sl = i
  · subst e
    have hi := (Array.getElem?_eq_some_iff.mp hw).1
    simp only [Cell.setSlot, Array.size_setIfInBounds] at hi
    simp [Cell.setSlot, hi] at hw
    subst hw; exact hv
  · simp only [Cell.setSlot] at hw
    rw [Array.getElem?_setIfInBounds_ne e] at hw
    exact G i w hw
theorem AV.arv (F : AV Z h a ty n) (d : Value) : ∃ k vs, Arv Z h a k ty n vs d ∧ vs.length = n.toNatClampNeg := by
  obtain ⟨c, A, S, q, G⟩ := F
  refine ⟨c.cls, c.slots.toList, ⟨c, A, rfl, S, q, fun i hi => ?_, fun i hi => ?_⟩, by simpa using S⟩
  · simp [List.getD_eq_getElem?_getD, hi]
  · refine G i _ ?_
    simp [List.getD_eq_getElem?_getD, hi]
end OwnAV
def own_ex (h : Int32) : Int32 := if h = 400 ∨ h = 413 then 1 else if h = 401 ∨ h = 403 ∨ h = 404 ∨ h = 409 then 3 else 2
theorem own_out (h : Int32) (q : h.toInt < 400 ∨ h.toInt > 413) : own_ex h = 2 := by
  have e : ∀ k : Int32, (400 ≤ k.toInt ∧ k.toInt ≤ 413) → ¬ h = k := fun k hk z => by subst z; omega
  unfold own_ex
  rw [if_neg (fun z => z.elim (e 400 (by decide)) (e 413 (by decide))), if_neg (fun z => z.elim (e 401 (by decide)) fun z => z.elim (e 403 (by decide)) fun z => z.elim (e 404 (by decide)) (e 409 (by decide)))]
theorem own_getI : ∀ (vs : List Value) (_ : ∀ v ∈ vs, ∃ z, v = Value.int z) (j : Nat), ∃ z, vs.getD j (.int (0 : Int32)) = .int z
  | [], _, j => ⟨0, by simp⟩
  | v :: vs, h, 0 => by obtain ⟨z, e⟩ := h v (List.mem_cons_self ..); exact ⟨z, by simp [e]⟩
  | v :: vs, h, j + 1 => by obtain ⟨z, e⟩ := own_getI vs (fun w hw => h w (List.mem_cons_of_mem _ hw)) j; exact ⟨z, by simpa using e⟩
theorem own_and15 (x : Int32) : ¬ (x &&& 15) < 0 ∧ (x &&& 15) < 16 := by
  have h := c_and x 15 (by decide)
  have e : (15 : Int32).toInt = 15 := by decide
  have e0 : (0 : Int32).toInt = 0 := by decide
  have e16 : (16 : Int32).toInt = 16 := by decide
  simp only [Int32.lt_iff_toInt_lt]
  omega
theorem d1_0 : decode prog_78_method_23_code 0 = .ok (.iload_n 0, 1) := by decide +kernel
theorem d1_1 : decode prog_78_method_23_code 1 = .ok (.tableswitch 75 400 413 #[71, 73, 75, 73, 73, 75, 75, 75, 75, 73, 75, 75, 75, 71], 71) := by decide +kernel
theorem d1_72 : decode prog_78_method_23_code 72 = .ok (.iconst 1, 1) := by decide +kernel
theorem d1_73 : decode prog_78_method_23_code 73 = .ok (.ireturn, 1) := by decide +kernel
theorem d1_74 : decode prog_78_method_23_code 74 = .ok (.iconst 3, 1) := by decide +kernel
theorem d1_75 : decode prog_78_method_23_code 75 = .ok (.ireturn, 1) := by decide +kernel
theorem d1_76 : decode prog_78_method_23_code 76 = .ok (.iconst 2, 1) := by decide +kernel
theorem d1_77 : decode prog_78_method_23_code 77 = .ok (.ireturn, 1) := by decide +kernel
theorem own_pn0 : plainName "com/example/lockward/lockward/Protocol" = true := by first | (simp [plainName, overriddenIn]; done) | decide +kernel
def Q_rm1 (Z : State) (i : Int32) (h0 : Heap) (n0 : Nat) (v : Option Value) (h : Heap) (L : List Loc) : Prop := v = some (.int (own_ex i)) ∧ Fr n0 L ∧ h = h0
theorem ef_rm1 (m : MethodId) (i : Int32) : entryFrame m #[(.int i)] 1 = mkF m 0 #[.val (.int i)] [] := by first | (simp [entryFrame, mkF, argsToLocals, Value.category]; done) | rfl
set_option maxRecDepth 65536 in
set_option maxHeartbeats 40000000 in
theorem rm1 (l : Launch) (Z : State) (a0 : Array Value) (hw : ∀ d ∈ tables_1, d.before a0 Z = true) (ws : List Jvm.Cond) (i : Int32) (h0 : Heap) (n0 : Nat) (Z0 : n0 ≤ h0.size) :
    MetFree l (⟨"com/example/lockward/lockward/Protocol", "exitStatusOfError", "(I)I"⟩ : MethodName) (head1 (Jvm.Cond.code (⟨"com/example/lockward/lockward/Protocol", "exitStatusOfError", "(I)I"⟩ : MethodName) prog_78_method_23_code 1 (some .int) :: ws) ({ frames := 0, cells := 0, slots := 0, locals := 0 } : Room)) (fun a U => a = #[(.int i)] ∧ Z.Warmed39 U.vm ∧ U.heap = h0) (fun _ _ _ _ _ => True) (fun _ U o U' => ∃ v L, o = .returned v ∧ (Q_rm1 Z i h0 n0) v U'.heap L ∧ FrameEnd U o U' L ({ frames := 0, cells := 0, slots := 0, locals := 0 } : Room).cells ({ frames := 0, cells := 0, slots := 0, locals := 0 } : Room).slots) := by
  refine MetFree.of_bodySF (plainFor_of_name own_pn0) hisR ?_
  intro p e s m args below meth c s₁ Bd hml0 hP hK
  obtain ⟨rfl, hZ, hh⟩ := hP
  have hx := Bd.exec
  have hby := Bd.bytes
  have hml : c.maxLocals = 1 := hml0
  have hown : s.vm.findClass "com/example/lockward/lockward/Protocol" = some m.cls := findClass_of_methodNamed Bd.named
  have hnm := (name_of_methodNamed Bd.named Bd.method).1
  have X0 : Stand p l e ({ frames := 0, cells := 0, slots := 0, locals := 0 } : Room) s m #[(.int i)] below meth c s₁ [] 0 0 := Stand.of_body Bd
  have e0 : s₁.heap = h0 := by rw [← hh, Bd.state]; rfl
  have N0 := Fr.nil n0
  refine Go.st (G := fun s₂ o => ∃ v L, o = .returned v ∧ (Q_rm1 Z i h0 n0) v s₂.heap L ∧ FrameEnd s o s₂ L ({ frames := 0, cells := 0, slots := 0, locals := 0 } : Room).cells ({ frames := 0, cells := 0, slots := 0, locals := 0 } : Room).slots) (fun t kt => castTop (ef_rm1 m i) kt) ?_
  show Go p e below _ (s₁.setTop (mkF m 0 #[.val (.int i)] []))
  refine Go.st (fun _ kt => XS.iloadN X0.here hx rfl (hb hby d1_0) rfl kt) ?_
  show Go p e below _ (s₁.setTop (mkF m 1 #[.val (.int i)] [(.int i)]))
  have hsw1 : (i.toInt < 400 ∨ i.toInt > 413) ∨ i = (400 : Int32) ∨ i = (401 : Int32) ∨ i = (402 : Int32) ∨ i = (403 : Int32) ∨ i = (404 : Int32) ∨ i = (405 : Int32) ∨ i = (406 : Int32) ∨ i = (407 : Int32) ∨ i = (408 : Int32) ∨ i = (409 : Int32) ∨ i = (410 : Int32) ∨ i = (411 : Int32) ∨ i = (412 : Int32) ∨ i = (413 : Int32) := by
    simp only [← Int32.toInt_inj]
    have e400 : (400 : Int32).toInt = 400 := by decide
    have e401 : (401 : Int32).toInt = 401 := by decide
    have e402 : (402 : Int32).toInt = 402 := by decide
    have e403 : (403 : Int32).toInt = 403 := by decide
    have e404 : (404 : Int32).toInt = 404 := by decide
    have e405 : (405 : Int32).toInt = 405 := by decide
    have e406 : (406 : Int32).toInt = 406 := by decide
    have e407 : (407 : Int32).toInt = 407 := by decide
    have e408 : (408 : Int32).toInt = 408 := by decide
    have e409 : (409 : Int32).toInt = 409 := by decide
    have e410 : (410 : Int32).toInt = 410 := by decide
    have e411 : (411 : Int32).toInt = 411 := by decide
    have e412 : (412 : Int32).toInt = 412 := by decide
    have e413 : (413 : Int32).toInt = 413 := by decide
    omega
  rcases hsw1 with hk1 | hk1 | hk1 | hk1 | hk1 | hk1 | hk1 | hk1 | hk1 | hk1 | hk1 | hk1 | hk1 | hk1 | hk1
  · refine Go.st (fun _ kt => XS.tswOut X0.here hx rfl (pc0 := 1) (pc' := 76) rfl (hb hby d1_1) rfl hk1 (by decide) (by decide) kt) ?_
    show Go p e below _ (s₁.setTop (mkF m 76 #[.val (.int i)] []))
    refine Go.st (fun _ kt => XS.iconst X0.here hx rfl (hb hby d1_76) kt) ?_
    show Go p e below _ (s₁.setTop (mkF m 77 #[.val (.int i)] [(.int (2 : Int32))]))
    refine Go.retI X0 hx Bd.returns (BodyLoose.notSynchronized Bd) (hb hby d1_77) (Q := (Q_rm1 Z i h0 n0)) (by decide) (by decide) ?_
    show (Q_rm1 Z i h0 n0) _ s₁.heap _
    rw [e0]
    exact ⟨by rw [own_out i hk1], N0, rfl⟩
  · refine Go.st (fun _ kt => XS.tswIn X0.here hx rfl (o := 71) (pc0 := 1) (pc' := 72) rfl (hb hby d1_1) rfl (by rw [hk1]; decide) (by rw [hk1]; rfl) (by decide) (by decide) kt) ?_
    show Go p e below _ (s₁.setTop (mkF m 72 #[.val (.int i)] []))
    refine Go.st (fun _ kt => XS.iconst X0.here hx rfl (hb hby d1_72) kt) ?_
    show Go p e below _ (s₁.setTop (mkF m 73 #[.val (.int i)] [(.int (1 : Int32))]))
    refine Go.retI X0 hx Bd.returns (BodyLoose.notSynchronized Bd) (hb hby d1_73) (Q := (Q_rm1 Z i h0 n0)) (by decide) (by decide) ?_
    show (Q_rm1 Z i h0 n0) _ s₁.heap _
    rw [e0]
    exact ⟨by rw [hk1]; rfl, N0, rfl⟩
  · refine Go.st (fun _ kt => XS.tswIn X0.here hx rfl (o := 73) (pc0 := 1) (pc' := 74) rfl (hb hby d1_1) rfl (by rw [hk1]; decide) (by rw [hk1]; rfl) (by decide) (by decide) kt) ?_
    show Go p e below _ (s₁.setTop (mkF m 74 #[.val (.int i)] []))
    refine Go.st (fun _ kt => XS.iconst X0.here hx rfl (hb hby d1_74) kt) ?_
    show Go p e below _ (s₁.setTop (mkF m 75 #[.val (.int i)] [(.int (3 : Int32))]))
    refine Go.retI X0 hx Bd.returns (BodyLoose.notSynchronized Bd) (hb hby d1_75) (Q := (Q_rm1 Z i h0 n0)) (by decide) (by decide) ?_
    show (Q_rm1 Z i h0 n0) _ s₁.heap _
    rw [e0]
    exact ⟨by rw [hk1]; rfl, N0, rfl⟩
  · refine Go.st (fun _ kt => XS.tswIn X0.here hx rfl (o := 75) (pc0 := 1) (pc' := 76) rfl (hb hby d1_1) rfl (by rw [hk1]; decide) (by rw [hk1]; rfl) (by decide) (by decide) kt) ?_
    show Go p e below _ (s₁.setTop (mkF m 76 #[.val (.int i)] []))
    refine Go.st (fun _ kt => XS.iconst X0.here hx rfl (hb hby d1_76) kt) ?_
    show Go p e below _ (s₁.setTop (mkF m 77 #[.val (.int i)] [(.int (2 : Int32))]))
    refine Go.retI X0 hx Bd.returns (BodyLoose.notSynchronized Bd) (hb hby d1_77) (Q := (Q_rm1 Z i h0 n0)) (by decide) (by decide) ?_
    show (Q_rm1 Z i h0 n0) _ s₁.heap _
    rw [e0]
    exact ⟨by rw [hk1]; rfl, N0, rfl⟩
  · refine Go.st (fun _ kt => XS.tswIn X0.here hx rfl (o := 73) (pc0 := 1) (pc' := 74) rfl (hb hby d1_1) rfl (by rw [hk1]; decide) (by rw [hk1]; rfl) (by decide) (by decide) kt) ?_
    show Go p e below _ (s₁.setTop (mkF m 74 #[.val (.int i)] []))
    refine Go.st (fun _ kt => XS.iconst X0.here hx rfl (hb hby d1_74) kt) ?_
    show Go p e below _ (s₁.setTop (mkF m 75 #[.val (.int i)] [(.int (3 : Int32))]))
    refine Go.retI X0 hx Bd.returns (BodyLoose.notSynchronized Bd) (hb hby d1_75) (Q := (Q_rm1 Z i h0 n0)) (by decide) (by decide) ?_
    show (Q_rm1 Z i h0 n0) _ s₁.heap _
    rw [e0]
    exact ⟨by rw [hk1]; rfl, N0, rfl⟩
  · refine Go.st (fun _ kt => XS.tswIn X0.here hx rfl (o := 73) (pc0 := 1) (pc' := 74) rfl (hb hby d1_1) rfl (by rw [hk1]; decide) (by rw [hk1]; rfl) (by decide) (by decide) kt) ?_
    show Go p e below _ (s₁.setTop (mkF m 74 #[.val (.int i)] []))
    refine Go.st (fun _ kt => XS.iconst X0.here hx rfl (hb hby d1_74) kt) ?_
    show Go p e below _ (s₁.setTop (mkF m 75 #[.val (.int i)] [(.int (3 : Int32))]))
    refine Go.retI X0 hx Bd.returns (BodyLoose.notSynchronized Bd) (hb hby d1_75) (Q := (Q_rm1 Z i h0 n0)) (by decide) (by decide) ?_
    show (Q_rm1 Z i h0 n0) _ s₁.heap _
    rw [e0]
    exact ⟨by rw [hk1]; rfl, N0, rfl⟩
  · refine Go.st (fun _ kt => XS.tswIn X0.here hx rfl (o := 75) (pc0 := 1) (pc' := 76) rfl (hb hby d1_1) rfl (by rw [hk1]; decide) (by rw [hk1]; rfl) (by decide) (by decide) kt) ?_
    show Go p e below _ (s₁.setTop (mkF m 76 #[.val (.int i)] []))
    refine Go.st (fun _ kt => XS.iconst X0.here hx rfl (hb hby d1_76) kt) ?_
    show Go p e below _ (s₁.setTop (mkF m 77 #[.val (.int i)] [(.int (2 : Int32))]))
    refine Go.retI X0 hx Bd.returns (BodyLoose.notSynchronized Bd) (hb hby d1_77) (Q := (Q_rm1 Z i h0 n0)) (by decide) (by decide) ?_
    show (Q_rm1 Z i h0 n0) _ s₁.heap _
    rw [e0]
    exact ⟨by rw [hk1]; rfl, N0, rfl⟩
  · refine Go.st (fun _ kt => XS.tswIn X0.here hx rfl (o := 75) (pc0 := 1) (pc' := 76) rfl (hb hby d1_1) rfl (by rw [hk1]; decide) (by rw [hk1]; rfl) (by decide) (by decide) kt) ?_
    show Go p e below _ (s₁.setTop (mkF m 76 #[.val (.int i)] []))
    refine Go.st (fun _ kt => XS.iconst X0.here hx rfl (hb hby d1_76) kt) ?_
    show Go p e below _ (s₁.setTop (mkF m 77 #[.val (.int i)] [(.int (2 : Int32))]))
    refine Go.retI X0 hx Bd.returns (BodyLoose.notSynchronized Bd) (hb hby d1_77) (Q := (Q_rm1 Z i h0 n0)) (by decide) (by decide) ?_
    show (Q_rm1 Z i h0 n0) _ s₁.heap _
    rw [e0]
    exact ⟨by rw [hk1]; rfl, N0, rfl⟩
  · refine Go.st (fun _ kt => XS.tswIn X0.here hx rfl (o := 75) (pc0 := 1) (pc' := 76) rfl (hb hby d1_1) rfl (by rw [hk1]; decide) (by rw [hk1]; rfl) (by decide) (by decide) kt) ?_
    show Go p e below _ (s₁.setTop (mkF m 76 #[.val (.int i)] []))
    refine Go.st (fun _ kt => XS.iconst X0.here hx rfl (hb hby d1_76) kt) ?_
    show Go p e below _ (s₁.setTop (mkF m 77 #[.val (.int i)] [(.int (2 : Int32))]))
    refine Go.retI X0 hx Bd.returns (BodyLoose.notSynchronized Bd) (hb hby d1_77) (Q := (Q_rm1 Z i h0 n0)) (by decide) (by decide) ?_
    show (Q_rm1 Z i h0 n0) _ s₁.heap _
    rw [e0]
    exact ⟨by rw [hk1]; rfl, N0, rfl⟩
  · refine Go.st (fun _ kt => XS.tswIn X0.here hx rfl (o := 75) (pc0 := 1) (pc' := 76) rfl (hb hby d1_1) rfl (by rw [hk1]; decide) (by rw [hk1]; rfl) (by decide) (by decide) kt) ?_
    show Go p e below _ (s₁.setTop (mkF m 76 #[.val (.int i)] []))
    refine Go.st (fun _ kt => XS.iconst X0.here hx rfl (hb hby d1_76) kt) ?_
    show Go p e below _ (s₁.setTop (mkF m 77 #[.val (.int i)] [(.int (2 : Int32))]))
    refine Go.retI X0 hx Bd.returns (BodyLoose.notSynchronized Bd) (hb hby d1_77) (Q := (Q_rm1 Z i h0 n0)) (by decide) (by decide) ?_
    show (Q_rm1 Z i h0 n0) _ s₁.heap _
    rw [e0]
    exact ⟨by rw [hk1]; rfl, N0, rfl⟩
  · refine Go.st (fun _ kt => XS.tswIn X0.here hx rfl (o := 73) (pc0 := 1) (pc' := 74) rfl (hb hby d1_1) rfl (by rw [hk1]; decide) (by rw [hk1]; rfl) (by decide) (by decide) kt) ?_
    show Go p e below _ (s₁.setTop (mkF m 74 #[.val (.int i)] []))
    refine Go.st (fun _ kt => XS.iconst X0.here hx rfl (hb hby d1_74) kt) ?_
    show Go p e below _ (s₁.setTop (mkF m 75 #[.val (.int i)] [(.int (3 : Int32))]))
    refine Go.retI X0 hx Bd.returns (BodyLoose.notSynchronized Bd) (hb hby d1_75) (Q := (Q_rm1 Z i h0 n0)) (by decide) (by decide) ?_
    show (Q_rm1 Z i h0 n0) _ s₁.heap _
    rw [e0]
    exact ⟨by rw [hk1]; rfl, N0, rfl⟩
  · refine Go.st (fun _ kt => XS.tswIn X0.here hx rfl (o := 75) (pc0 := 1) (pc' := 76) rfl (hb hby d1_1) rfl (by rw [hk1]; decide) (by rw [hk1]; rfl) (by decide) (by decide) kt) ?_
    show Go p e below _ (s₁.setTop (mkF m 76 #[.val (.int i)] []))
    refine Go.st (fun _ kt => XS.iconst X0.here hx rfl (hb hby d1_76) kt) ?_
    show Go p e below _ (s₁.setTop (mkF m 77 #[.val (.int i)] [(.int (2 : Int32))]))
    refine Go.retI X0 hx Bd.returns (BodyLoose.notSynchronized Bd) (hb hby d1_77) (Q := (Q_rm1 Z i h0 n0)) (by decide) (by decide) ?_
    show (Q_rm1 Z i h0 n0) _ s₁.heap _
    rw [e0]
    exact ⟨by rw [hk1]; rfl, N0, rfl⟩
  · refine Go.st (fun _ kt => XS.tswIn X0.here hx rfl (o := 75) (pc0 := 1) (pc' := 76) rfl (hb hby d1_1) rfl (by rw [hk1]; decide) (by rw [hk1]; rfl) (by decide) (by decide) kt) ?_
    show Go p e below _ (s₁.setTop (mkF m 76 #[.val (.int i)] []))
    refine Go.st (fun _ kt => XS.iconst X0.here hx rfl (hb hby d1_76) kt) ?_
    show Go p e below _ (s₁.setTop (mkF m 77 #[.val (.int i)] [(.int (2 : Int32))]))
    refine Go.retI X0 hx Bd.returns (BodyLoose.notSynchronized Bd) (hb hby d1_77) (Q := (Q_rm1 Z i h0 n0)) (by decide) (by decide) ?_
    show (Q_rm1 Z i h0 n0) _ s₁.heap _
    rw [e0]
    exact ⟨by rw [hk1]; rfl, N0, rfl⟩
  · refine Go.st (fun _ kt => XS.tswIn X0.here hx rfl (o := 75) (pc0 := 1) (pc' := 76) rfl (hb hby d1_1) rfl (by rw [hk1]; decide) (by rw [hk1]; rfl) (by decide) (by decide) kt) ?_
    show Go p e below _ (s₁.setTop (mkF m 76 #[.val (.int i)] []))
    refine Go.st (fun _ kt => XS.iconst X0.here hx rfl (hb hby d1_76) kt) ?_
    show Go p e below _ (s₁.setTop (mkF m 77 #[.val (.int i)] [(.int (2 : Int32))]))
    refine Go.retI X0 hx Bd.returns (BodyLoose.notSynchronized Bd) (hb hby d1_77) (Q := (Q_rm1 Z i h0 n0)) (by decide) (by decide) ?_
    show (Q_rm1 Z i h0 n0) _ s₁.heap _
    rw [e0]
    exact ⟨by rw [hk1]; rfl, N0, rfl⟩
  · refine Go.st (fun _ kt => XS.tswIn X0.here hx rfl (o := 71) (pc0 := 1) (pc' := 72) rfl (hb hby d1_1) rfl (by rw [hk1]; decide) (by rw [hk1]; rfl) (by decide) (by decide) kt) ?_
    show Go p e below _ (s₁.setTop (mkF m 72 #[.val (.int i)] []))
    refine Go.st (fun _ kt => XS.iconst X0.here hx rfl (hb hby d1_72) kt) ?_
    show Go p e below _ (s₁.setTop (mkF m 73 #[.val (.int i)] [(.int (1 : Int32))]))
    refine Go.retI X0 hx Bd.returns (BodyLoose.notSynchronized Bd) (hb hby d1_73) (Q := (Q_rm1 Z i h0 n0)) (by decide) (by decide) ?_
    show (Q_rm1 Z i h0 n0) _ s₁.heap _
    rw [e0]
    exact ⟨by rw [hk1]; rfl, N0, rfl⟩
theorem d2_0 : decode method_2_code 0 = .ok (.iload_n 0, 1) := by decide +kernel
theorem d2_1 : decode method_2_code 1 = .ok (.sipush 400, 3) := by decide +kernel
theorem d2_4 : decode method_2_code 4 = .ok (.if_icmp .eq 10, 3) := by decide +kernel
theorem d2_7 : decode method_2_code 7 = .ok (.iload_n 0, 1) := by decide +kernel
theorem d2_8 : decode method_2_code 8 = .ok (.sipush 413, 3) := by decide +kernel
theorem d2_11 : decode method_2_code 11 = .ok (.if_icmp .ne 5, 3) := by decide +kernel
theorem d2_14 : decode method_2_code 14 = .ok (.iconst 1, 1) := by decide +kernel
theorem d2_15 : decode method_2_code 15 = .ok (.ireturn, 1) := by decide +kernel
theorem d2_16 : decode method_2_code 16 = .ok (.iload_n 0, 1) := by decide +kernel
theorem d2_17 : decode method_2_code 17 = .ok (.sipush 401, 3) := by decide +kernel
theorem d2_20 : decode method_2_code 20 = .ok (.if_icmp .eq 24, 3) := by decide +kernel
theorem d2_23 : decode method_2_code 23 = .ok (.iload_n 0, 1) := by decide +kernel
theorem d2_24 : decode method_2_code 24 = .ok (.sipush 403, 3) := by decide +kernel
theorem d2_27 : decode method_2_code 27 = .ok (.if_icmp .eq 17, 3) := by decide +kernel
theorem d2_30 : decode method_2_code 30 = .ok (.iload_n 0, 1) := by decide +kernel
theorem d2_31 : decode method_2_code 31 = .ok (.sipush 404, 3) := by decide +kernel
theorem d2_34 : decode method_2_code 34 = .ok (.if_icmp .eq 10, 3) := by decide +kernel
theorem d2_37 : decode method_2_code 37 = .ok (.iload_n 0, 1) := by decide +kernel
theorem d2_38 : decode method_2_code 38 = .ok (.sipush 409, 3) := by decide +kernel
theorem d2_41 : decode method_2_code 41 = .ok (.if_icmp .ne 5, 3) := by decide +kernel
theorem d2_44 : decode method_2_code 44 = .ok (.iconst 3, 1) := by decide +kernel
theorem d2_45 : decode method_2_code 45 = .ok (.ireturn, 1) := by decide +kernel
theorem d2_46 : decode method_2_code 46 = .ok (.iconst 2, 1) := by decide +kernel
theorem d2_47 : decode method_2_code 47 = .ok (.ireturn, 1) := by decide +kernel
theorem own_pn1 : plainName "com/example/lockward/lockward/ProtocolExitStatusOfErrorPinLaw" = true := by first | (simp [plainName, overriddenIn]; done) | decide +kernel
def Q_rm2 (Z : State) (i : Int32) (h0 : Heap) (n0 : Nat) (v : Option Value) (h : Heap) (L : List Loc) : Prop := v = some (.int (own_ex i)) ∧ Fr n0 L ∧ h = h0
theorem ef_rm2 (m : MethodId) (i : Int32) : entryFrame m #[(.int i)] 1 = mkF m 0 #[.val (.int i)] [] := by first | (simp [entryFrame, mkF, argsToLocals, Value.category]; done) | rfl
set_option maxRecDepth 65536 in
set_option maxHeartbeats 40000000 in
theorem rm2 (l : Launch) (Z : State) (a0 : Array Value) (hw : ∀ d ∈ tables_1, d.before a0 Z = true) (ws : List Jvm.Cond) (i : Int32) (h0 : Heap) (n0 : Nat) (Z0 : n0 ≤ h0.size) :
    MetFree l (⟨"com/example/lockward/lockward/ProtocolExitStatusOfErrorPinLaw", "expected", "(I)I"⟩ : MethodName) (head1 (Jvm.Cond.code (⟨"com/example/lockward/lockward/ProtocolExitStatusOfErrorPinLaw", "expected", "(I)I"⟩ : MethodName) method_2_code 1 (some .int) :: ws) ({ frames := 0, cells := 0, slots := 0, locals := 0 } : Room)) (fun a U => a = #[(.int i)] ∧ Z.Warmed39 U.vm ∧ U.heap = h0) (fun _ _ _ _ _ => True) (fun _ U o U' => ∃ v L, o = .returned v ∧ (Q_rm2 Z i h0 n0) v U'.heap L ∧ FrameEnd U o U' L ({ frames := 0, cells := 0, slots := 0, locals := 0 } : Room).cells ({ frames := 0, cells := 0, slots := 0, locals := 0 } : Room).slots) := by
  refine MetFree.of_bodySF (plainFor_of_name own_pn1) hisR ?_
  intro p e s m args below meth c s₁ Bd hml0 hP hK
  obtain ⟨rfl, hZ, hh⟩ := hP
  have hx := Bd.exec
  have hby := Bd.bytes
  have hml : c.maxLocals = 1 := hml0
  have hown : s.vm.findClass "com/example/lockward/lockward/ProtocolExitStatusOfErrorPinLaw" = some m.cls := findClass_of_methodNamed Bd.named
  have hnm := (name_of_methodNamed Bd.named Bd.method).1
  have X0 : Stand p l e ({ frames := 0, cells := 0, slots := 0, locals := 0 } : Room) s m #[(.int i)] below meth c s₁ [] 0 0 := Stand.of_body Bd
  have e0 : s₁.heap = h0 := by rw [← hh, Bd.state]; rfl
  have N0 := Fr.nil n0
  refine Go.st (G := fun s₂ o => ∃ v L, o = .returned v ∧ (Q_rm2 Z i h0 n0) v s₂.heap L ∧ FrameEnd s o s₂ L ({ frames := 0, cells := 0, slots := 0, locals := 0 } : Room).cells ({ frames := 0, cells := 0, slots := 0, locals := 0 } : Room).slots) (fun t kt => castTop (ef_rm2 m i) kt) ?_
  show Go p e below _ (s₁.setTop (mkF m 0 #[.val (.int i)] []))
  refine Go.st (fun _ kt => XS.iloadN X0.here hx rfl (hb hby d2_0) rfl kt) ?_
  show Go p e below _ (s₁.setTop (mkF m 1 #[.val (.int i)] [(.int i)]))
  refine Go.st (fun _ kt => XS.sipush X0.here hx rfl (hb hby d2_1) kt) ?_
  show Go p e below _ (s₁.setTop (mkF m 4 #[.val (.int i)] [(.int (400 : Int32)), (.int i)]))
  by_cases hc4_1 : i = (400 : Int32)
  · refine Go.st (fun _ kt => XS.icmpYes X0.here hx rfl (pc0 := 4) (pc' := 14) rfl (hb hby d2_4) rfl (teq hc4_1).1 (by decide) (by decide) kt) ?_
    show Go p e below _ (s₁.setTop (mkF m 14 #[.val (.int i)] []))
    refine Go.st (fun _ kt => XS.iconst X0.here hx rfl (hb hby d2_14) kt) ?_
    show Go p e below _ (s₁.setTop (mkF m 15 #[.val (.int i)] [(.int (1 : Int32))]))
    refine Go.retI X0 hx Bd.returns (BodyLoose.notSynchronized Bd) (hb hby d2_15) (Q := (Q_rm2 Z i h0 n0)) (by decide) (by decide) ?_
    show (Q_rm2 Z i h0 n0) _ s₁.heap _
    rw [e0]
    exact ⟨by simp [own_ex, *], N0, rfl⟩
  · refine Go.st (fun _ kt => XS.icmpNo X0.here hx rfl (hb hby d2_4) rfl (feq hc4_1).1 kt) ?_
    show Go p e below _ (s₁.setTop (mkF m 7 #[.val (.int i)] []))
    refine Go.st (fun _ kt => XS.iloadN X0.here hx rfl (hb hby d2_7) rfl kt) ?_
    show Go p e below _ (s₁.setTop (mkF m 8 #[.val (.int i)] [(.int i)]))
    refine Go.st (fun _ kt => XS.sipush X0.here hx rfl (hb hby d2_8) kt) ?_
    show Go p e below _ (s₁.setTop (mkF m 11 #[.val (.int i)] [(.int (413 : Int32)), (.int i)]))
    by_cases hc11_2 : i = (413 : Int32)
    · refine Go.st (fun _ kt => XS.icmpNo X0.here hx rfl (hb hby d2_11) rfl (teq hc11_2).2 kt) ?_
      show Go p e below _ (s₁.setTop (mkF m 14 #[.val (.int i)] []))
      refine Go.st (fun _ kt => XS.iconst X0.here hx rfl (hb hby d2_14) kt) ?_
      show Go p e below _ (s₁.setTop (mkF m 15 #[.val (.int i)] [(.int (1 : Int32))]))
      refine Go.retI X0 hx Bd.returns (BodyLoose.notSynchronized Bd) (hb hby d2_15) (Q := (Q_rm2 Z i h0 n0)) (by decide) (by decide) ?_
      show (Q_rm2 Z i h0 n0) _ s₁.heap _
      rw [e0]
      exact ⟨by simp [own_ex, *], N0, rfl⟩
    · refine Go.st (fun _ kt => XS.icmpYes X0.here hx rfl (pc0 := 11) (pc' := 16) rfl (hb hby d2_11) rfl (feq hc11_2).2 (by decide) (by decide) kt) ?_
      show Go p e below _ (s₁.setTop (mkF m 16 #[.val (.int i)] []))
      refine Go.st (fun _ kt => XS.iloadN X0.here hx rfl (hb hby d2_16) rfl kt) ?_
      show Go p e below _ (s₁.setTop (mkF m 17 #[.val (.int i)] [(.int i)]))
      refine Go.st (fun _ kt => XS.sipush X0.here hx rfl (hb hby d2_17) kt) ?_
      show Go p e below _ (s₁.setTop (mkF m 20 #[.val (.int i)] [(.int (401 : Int32)), (.int i)]))
      by_cases hc20_3 : i = (401 : Int32)
      · refine Go.st (fun _ kt => XS.icmpYes X0.here hx rfl (pc0 := 20) (pc' := 44) rfl (hb hby d2_20) rfl (teq hc20_3).1 (by decide) (by decide) kt) ?_
        show Go p e below _ (s₁.setTop (mkF m 44 #[.val (.int i)] []))
        refine Go.st (fun _ kt => XS.iconst X0.here hx rfl (hb hby d2_44) kt) ?_
        show Go p e below _ (s₁.setTop (mkF m 45 #[.val (.int i)] [(.int (3 : Int32))]))
        refine Go.retI X0 hx Bd.returns (BodyLoose.notSynchronized Bd) (hb hby d2_45) (Q := (Q_rm2 Z i h0 n0)) (by decide) (by decide) ?_
        show (Q_rm2 Z i h0 n0) _ s₁.heap _
        rw [e0]
        exact ⟨by simp [own_ex, *], N0, rfl⟩
      · refine Go.st (fun _ kt => XS.icmpNo X0.here hx rfl (hb hby d2_20) rfl (feq hc20_3).1 kt) ?_
        show Go p e below _ (s₁.setTop (mkF m 23 #[.val (.int i)] []))
        refine Go.st (fun _ kt => XS.iloadN X0.here hx rfl (hb hby d2_23) rfl kt) ?_
        show Go p e below _ (s₁.setTop (mkF m 24 #[.val (.int i)] [(.int i)]))
        refine Go.st (fun _ kt => XS.sipush X0.here hx rfl (hb hby d2_24) kt) ?_
        show Go p e below _ (s₁.setTop (mkF m 27 #[.val (.int i)] [(.int (403 : Int32)), (.int i)]))
        by_cases hc27_4 : i = (403 : Int32)
        · refine Go.st (fun _ kt => XS.icmpYes X0.here hx rfl (pc0 := 27) (pc' := 44) rfl (hb hby d2_27) rfl (teq hc27_4).1 (by decide) (by decide) kt) ?_
          show Go p e below _ (s₁.setTop (mkF m 44 #[.val (.int i)] []))
          refine Go.st (fun _ kt => XS.iconst X0.here hx rfl (hb hby d2_44) kt) ?_
          show Go p e below _ (s₁.setTop (mkF m 45 #[.val (.int i)] [(.int (3 : Int32))]))
          refine Go.retI X0 hx Bd.returns (BodyLoose.notSynchronized Bd) (hb hby d2_45) (Q := (Q_rm2 Z i h0 n0)) (by decide) (by decide) ?_
          show (Q_rm2 Z i h0 n0) _ s₁.heap _
          rw [e0]
          exact ⟨by simp [own_ex, *], N0, rfl⟩
        · refine Go.st (fun _ kt => XS.icmpNo X0.here hx rfl (hb hby d2_27) rfl (feq hc27_4).1 kt) ?_
          show Go p e below _ (s₁.setTop (mkF m 30 #[.val (.int i)] []))
          refine Go.st (fun _ kt => XS.iloadN X0.here hx rfl (hb hby d2_30) rfl kt) ?_
          show Go p e below _ (s₁.setTop (mkF m 31 #[.val (.int i)] [(.int i)]))
          refine Go.st (fun _ kt => XS.sipush X0.here hx rfl (hb hby d2_31) kt) ?_
          show Go p e below _ (s₁.setTop (mkF m 34 #[.val (.int i)] [(.int (404 : Int32)), (.int i)]))
          by_cases hc34_5 : i = (404 : Int32)
          · refine Go.st (fun _ kt => XS.icmpYes X0.here hx rfl (pc0 := 34) (pc' := 44) rfl (hb hby d2_34) rfl (teq hc34_5).1 (by decide) (by decide) kt) ?_
            show Go p e below _ (s₁.setTop (mkF m 44 #[.val (.int i)] []))
            refine Go.st (fun _ kt => XS.iconst X0.here hx rfl (hb hby d2_44) kt) ?_
            show Go p e below _ (s₁.setTop (mkF m 45 #[.val (.int i)] [(.int (3 : Int32))]))
            refine Go.retI X0 hx Bd.returns (BodyLoose.notSynchronized Bd) (hb hby d2_45) (Q := (Q_rm2 Z i h0 n0)) (by decide) (by decide) ?_
            show (Q_rm2 Z i h0 n0) _ s₁.heap _
            rw [e0]
            exact ⟨by simp [own_ex, *], N0, rfl⟩
          · refine Go.st (fun _ kt => XS.icmpNo X0.here hx rfl (hb hby d2_34) rfl (feq hc34_5).1 kt) ?_
            show Go p e below _ (s₁.setTop (mkF m 37 #[.val (.int i)] []))
            refine Go.st (fun _ kt => XS.iloadN X0.here hx rfl (hb hby d2_37) rfl kt) ?_
            show Go p e below _ (s₁.setTop (mkF m 38 #[.val (.int i)] [(.int i)]))
            refine Go.st (fun _ kt => XS.sipush X0.here hx rfl (hb hby d2_38) kt) ?_
            show Go p e below _ (s₁.setTop (mkF m 41 #[.val (.int i)] [(.int (409 : Int32)), (.int i)]))
            by_cases hc41_6 : i = (409 : Int32)
            · refine Go.st (fun _ kt => XS.icmpNo X0.here hx rfl (hb hby d2_41) rfl (teq hc41_6).2 kt) ?_
              show Go p e below _ (s₁.setTop (mkF m 44 #[.val (.int i)] []))
              refine Go.st (fun _ kt => XS.iconst X0.here hx rfl (hb hby d2_44) kt) ?_
              show Go p e below _ (s₁.setTop (mkF m 45 #[.val (.int i)] [(.int (3 : Int32))]))
              refine Go.retI X0 hx Bd.returns (BodyLoose.notSynchronized Bd) (hb hby d2_45) (Q := (Q_rm2 Z i h0 n0)) (by decide) (by decide) ?_
              show (Q_rm2 Z i h0 n0) _ s₁.heap _
              rw [e0]
              exact ⟨by simp [own_ex, *], N0, rfl⟩
            · refine Go.st (fun _ kt => XS.icmpYes X0.here hx rfl (pc0 := 41) (pc' := 46) rfl (hb hby d2_41) rfl (feq hc41_6).2 (by decide) (by decide) kt) ?_
              show Go p e below _ (s₁.setTop (mkF m 46 #[.val (.int i)] []))
              refine Go.st (fun _ kt => XS.iconst X0.here hx rfl (hb hby d2_46) kt) ?_
              show Go p e below _ (s₁.setTop (mkF m 47 #[.val (.int i)] [(.int (2 : Int32))]))
              refine Go.retI X0 hx Bd.returns (BodyLoose.notSynchronized Bd) (hb hby d2_47) (Q := (Q_rm2 Z i h0 n0)) (by decide) (by decide) ?_
              show (Q_rm2 Z i h0 n0) _ s₁.heap _
              rw [e0]
              exact ⟨by simp [own_ex, *], N0, rfl⟩
theorem own_pd2 : parseMethodDescriptor "(I)I" = some ⟨[.int], some .int⟩ := by decide +kernel
def Q_rm0 (Z : State) (i : Int32) (j : Int32) (h0 : Heap) (n0 : Nat) (v : Option Value) (h : Heap) (L : List Loc) : Prop := v = some (.int 1) ∧ Fr n0 L
theorem ef_rm0 (m : MethodId) (i : Int32) (j : Int32) : entryFrame m #[(.int i), (.int j)] maxLocals = mkF m 0 #[.val (.int i), .val (.int j), .unset, .unset, .unset] [] := by first | (simp [entryFrame, mkF, argsToLocals, Value.category, maxLocals]; done) | rfl
set_option maxRecDepth 65536 in
set_option maxHeartbeats 40000000 in
theorem rm0 (l : Launch) (Z : State) (a0 : Array Value) (hw : ∀ d ∈ tables_1, d.before a0 Z = true) (ws : List Jvm.Cond) (i : Int32) (j : Int32) (h0 : Heap) (n0 : Nat) (Z0 : n0 ≤ h0.size) :
    MetFree l x (head1 (Jvm.Cond.code x code maxLocals ret :: ws) room_1) (fun a U => a = #[(.int i), (.int j)] ∧ Z.Warmed39 U.vm ∧ U.heap = h0) (fun _ _ _ _ _ => True) (fun _ U o U' => ∃ v L, o = .returned v ∧ (Q_rm0 Z i j h0 n0) v U'.heap L ∧ FrameEnd U o U' L room_1.cells room_1.slots) := by
  refine MetFree.of_bodySF (plainFor_of_name own_pn1) hisR ?_
  intro p e s m args below meth c s₁ Bd hml0 hP hK
  obtain ⟨rfl, hZ, hh⟩ := hP
  have hx := Bd.exec
  have hby := Bd.bytes
  have hml : c.maxLocals = 5 := hml0
  have hown : s.vm.findClass "com/example/lockward/lockward/ProtocolExitStatusOfErrorPinLaw" = some m.cls := findClass_of_methodNamed Bd.named
  have hnm := (name_of_methodNamed Bd.named Bd.method).1
  have X0 : Stand p l e room_1 s m #[(.int i), (.int j)] below meth c s₁ [] 0 0 := Stand.of_body Bd
  have e0 : s₁.heap = h0 := by rw [← hh, Bd.state]; rfl
  have N0 := Fr.nil n0
  refine Go.st (G := fun s₂ o => ∃ v L, o = .returned v ∧ (Q_rm0 Z i j h0 n0) v s₂.heap L ∧ FrameEnd s o s₂ L room_1.cells room_1.slots) (fun t kt => castTop (ef_rm0 m i j) kt) ?_
  show Go p e below _ (s₁.setTop (mkF m 0 #[.val (.int i), .val (.int j), .unset, .unset, .unset] []))
  refine Go.st (fun _ kt => XS.bipush X0.here hx rfl (hb hby at_0) kt) ?_
  show Go p e below _ (s₁.setTop (mkF m 2 #[.val (.int i), .val (.int j), .unset, .unset, .unset] [(.int (16 : Int32))]))
  obtain ⟨T1, h1, k1, X1, e1, E1, A1, Y1, st1⟩ := newPE X0 hx hZ (hw _ (List.mem_of_getElem? (i := 0) rfl)) e0 (g := (mkF m 2 #[.val (.int i), .val (.int j), .unset, .unset, .unset] [(.int (16 : Int32))])) rfl (hb hby at_2) rfl (by decide) (cap := 16) (by decide) (by decide) (by decide) (by decide) (ad := "[I") (by decide)
  obtain ⟨b1, g1⟩ : ∃ z, z = h0.size := ⟨_, rfl⟩
  rw [← g1] at A1 Y1 st1
  have gn_b1 : n0 ≤ b1 := Nat.le_trans Z0 (Nat.le_of_eq g1.symm)
  have Zs1 : n0 ≤ h1.size := Nat.le_trans Z0 E1.1
  refine Go.st st1 ?_
  have V1 : Arv Z h1 b1 k1 .int (16 : Int32) [(.int (0 : Int32)), (.int (0 : Int32)), (.int (0 : Int32)), (.int (0 : Int32)), (.int (0 : Int32)), (.int (0 : Int32)), (.int (0 : Int32)), (.int (0 : Int32)), (.int (0 : Int32)), (.int (0 : Int32)), (.int (0 : Int32)), (.int (0 : Int32)), (.int (0 : Int32)), (.int (0 : Int32)), (.int (0 : Int32)), (.int (0 : Int32))] (.int (0 : Int32)) := (Arv.new A1 (by decide)).pad (pad_rep [] (.int (0 : Int32)) 16)
  show Go p e below _ (T1.setTop (mkF m 4 #[.val (.int i), .val (.int j), .unset, .unset, .unset] [(.ref b1)]))
  refine Go.st (fun _ kt => XS.dup X1.here hx rfl (hb hby at_4) rfl rfl kt) ?_
  show Go p e below _ (T1.setTop (mkF m 5 #[.val (.int i), .val (.int j), .unset, .unset, .unset] [(.ref b1), (.ref b1)]))
  refine Go.st (fun _ kt => XS.iconst X1.here hx rfl (hb hby at_5) kt) ?_
  show Go p e below _ (T1.setTop (mkF m 6 #[.val (.int i), .val (.int j), .unset, .unset, .unset] [(.int (0 : Int32)), (.ref b1), (.ref b1)]))
  refine Go.st (fun _ kt => XS.sipush X1.here hx rfl (hb hby at_6) kt) ?_
  show Go p e below _ (T1.setTop (mkF m 9 #[.val (.int i), .val (.int j), .unset, .unset, .unset] [(.int (400 : Int32)), (.int (0 : Int32)), (.ref b1), (.ref b1)]))
  obtain ⟨cl2, Ar2, q2, S2, N2', H2, G2⟩ := V1
  have hin2 : ¬ ((0 : Int32) < 0 ∨ cl2.slots.size ≤ ((0 : Int32)).toNatClampNeg) := inb_of S2 ⟨by decide, by decide⟩
  obtain ⟨T3, h3, X3, e3, W3, st3⟩ := stI X1 hx hZ e1 Ar2 (j := (0 : Int32)) hin2 (g := (mkF m 9 #[.val (.int i), .val (.int j), .unset, .unset, .unset] [(.int (400 : Int32)), (.int (0 : Int32)), (.ref b1), (.ref b1)])) rfl rfl (hb hby at_9)
  refine Go.st st3 ?_
  have V3 : Arv Z h3 b1 k1 .int (16 : Int32) [(.int (400 : Int32)), (.int (0 : Int32)), (.int (0 : Int32)), (.int (0 : Int32)), (.int (0 : Int32)), (.int (0 : Int32)), (.int (0 : Int32)), (.int (0 : Int32)), (.int (0 : Int32)), (.int (0 : Int32)), (.int (0 : Int32)), (.int (0 : Int32)), (.int (0 : Int32)), (.int (0 : Int32)), (.int (0 : Int32)), (.int (0 : Int32))] (.int (0 : Int32)) := Arv.set Ar2 q2 S2 N2' H2 G2 rfl W3 0 rfl (Nat.le_of_ble_eq_true rfl)
  have Zs3 : n0 ≤ h3.size := Nat.le_trans Zs1 (Nat.le_of_eq W3.size.symm)
  have N3 := Fr.snoc X3 N0 gn_b1
  show Go p e below _ (T3.setTop (mkF m 10 #[.val (.int i), .val (.int j), .unset, .unset, .unset] [(.ref b1)]))
  refine Go.st (fun _ kt => XS.dup X3.here hx rfl (hb hby at_10) rfl rfl kt) ?_
  show Go p e below _ (T3.setTop (mkF m 11 #[.val (.int i), .val (.int j), .unset, .unset, .unset] [(.ref b1), (.ref b1)]))
  refine Go.st (fun _ kt => XS.iconst X3.here hx rfl (hb hby at_11) kt) ?_
  show Go p e below _ (T3.setTop (mkF m 12 #[.val (.int i), .val (.int j), .unset, .unset, .unset] [(.int (1 : Int32)), (.ref b1), (.ref b1)]))
  refine Go.st (fun _ kt => XS.sipush X3.here hx rfl (hb hby at_12) kt) ?_
  show Go p e below _ (T3.setTop (mkF m 15 #[.val (.int i), .val (.int j), .unset, .unset, .unset] [(.int (413 : Int32)), (.int (1 : Int32)), (.ref b1), (.ref b1)]))
  obtain ⟨cl4, Ar4, q4, S4, N4', H4, G4⟩ := V3
  have hin4 : ¬ ((1 : Int32) < 0 ∨ cl4.slots.size ≤ ((1 : Int32)).toNatClampNeg) := inb_of S4 ⟨by decide, by decide⟩
  obtain ⟨T5, h5, X5, e5, W5, st5⟩ := stI X3 hx hZ e3 Ar4 (j := (1 : Int32)) hin4 (g := (mkF m 15 #[.val (.int i), .val (.int j), .unset, .unset, .unset] [(.int (413 : Int32)), (.int (1 : Int32)), (.ref b1), (.ref b1)])) rfl rfl (hb hby at_15)
  refine Go.st st5 ?_
  have V5 : Arv Z h5 b1 k1 .int (16 : Int32) [(.int (400 : Int32)), (.int (413 : Int32)), (.int (0 : Int32)), (.int (0 : Int32)), (.int (0 : Int32)), (.int (0 : Int32)), (.int (0 : Int32)), (.int (0 : Int32)), (.int (0 : Int32)), (.int (0 : Int32)), (.int (0 : Int32)), (.int (0 : Int32)), (.int (0 : Int32)), (.int (0 : Int32)), (.int (0 : Int32)), (.int (0 : Int32))] (.int (0 : Int32)) := Arv.set Ar4 q4 S4 N4' H4 G4 rfl W5 1 rfl (Nat.le_of_ble_eq_true rfl)
  have Zs5 : n0 ≤ h5.size := Nat.le_trans Zs3 (Nat.le_of_eq W5.size.symm)
  have N5 := Fr.snoc X5 N3 gn_b1
  show Go p e below _ (T5.setTop (mkF m 16 #[.val (.int i), .val (.int j), .unset, .unset, .unset] [(.ref b1)]))
  refine Go.st (fun _ kt => XS.dup X5.here hx rfl (hb hby at_16) rfl rfl kt) ?_
  show Go p e below _ (T5.setTop (mkF m 17 #[.val (.int i), .val (.int j), .unset, .unset, .unset] [(.ref b1), (.ref b1)]))
  refine Go.st (fun _ kt => XS.iconst X5.here hx rfl (hb hby at_17) kt) ?_
  show Go p e below _ (T5.setTop (mkF m 18 #[.val (.int i), .val (.int j), .unset, .unset, .unset] [(.int (2 : Int32)), (.ref b1), (.ref b1)]))
  refine Go.st (fun _ kt => XS.sipush X5.here hx rfl (hb hby at_18) kt) ?_
  show Go p e below _ (T5.setTop (mkF m 21 #[.val (.int i), .val (.int j), .unset, .unset, .unset] [(.int (401 : Int32)), (.int (2 : Int32)), (.ref b1), (.ref b1)]))
  obtain ⟨cl6, Ar6, q6, S6, N6', H6, G6⟩ := V5
  have hin6 : ¬ ((2 : Int32) < 0 ∨ cl6.slots.size ≤ ((2 : Int32)).toNatClampNeg) := inb_of S6 ⟨by decide, by decide⟩
  obtain ⟨T7, h7, X7, e7, W7, st7⟩ := stI X5 hx hZ e5 Ar6 (j := (2 : Int32)) hin6 (g := (mkF m 21 #[.val (.int i), .val (.int j), .unset, .unset, .unset] [(.int (401 : Int32)), (.int (2 : Int32)), (.ref b1), (.ref b1)])) rfl rfl (hb hby at_21)
  refine Go.st st7 ?_
  have V7 : Arv Z h7 b1 k1 .int (16 : Int32) [(.int (400 : Int32)), (.int (413 : Int32)), (.int (401 : Int32)), (.int (0 : Int32)), (.int (0 : Int32)), (.int (0 : Int32)), (.int (0 : Int32)), (.int (0 : Int32)), (.int (0 : Int32)), (.int (0 : Int32)), (.int (0 : Int32)), (.int (0 : Int32)), (.int (0 : Int32)), (.int (0 : Int32)), (.int (0 : Int32)), (.int (0 : Int32))] (.int (0 : Int32)) := Arv.set Ar6 q6 S6 N6' H6 G6 rfl W7 2 rfl (Nat.le_of_ble_eq_true rfl)
  have Zs7 : n0 ≤ h7.size := Nat.le_trans Zs5 (Nat.le_of_eq W7.size.symm)
  have N7 := Fr.snoc X7 N5 gn_b1
  show Go p e below _ (T7.setTop (mkF m 22 #[.val (.int i), .val (.int j), .unset, .unset, .unset] [(.ref b1)]))
  refine Go.st (fun _ kt => XS.dup X7.here hx rfl (hb hby at_22) rfl rfl kt) ?_
  show Go p e below _ (T7.setTop (mkF m 23 #[.val (.int i), .val (.int j), .unset, .unset, .unset] [(.ref b1), (.ref b1)]))
  refine Go.st (fun _ kt => XS.iconst X7.here hx rfl (hb hby at_23) kt) ?_
  show Go p e below _ (T7.setTop (mkF m 24 #[.val (.int i), .val (.int j), .unset, .unset, .unset] [(.int (3 : Int32)), (.ref b1), (.ref b1)]))
  refine Go.st (fun _ kt => XS.sipush X7.here hx rfl (hb hby at_24) kt) ?_
  show Go p e below _ (T7.setTop (mkF m 27 #[.val (.int i), .val (.int j), .unset, .unset, .unset] [(.int (403 : Int32)), (.int (3 : Int32)), (.ref b1), (.ref b1)]))
  obtain ⟨cl8, Ar8, q8, S8, N8', H8, G8⟩ := V7
  have hin8 : ¬ ((3 : Int32) < 0 ∨ cl8.slots.size ≤ ((3 : Int32)).toNatClampNeg) := inb_of S8 ⟨by decide, by decide⟩
  obtain ⟨T9, h9, X9, e9, W9, st9⟩ := stI X7 hx hZ e7 Ar8 (j := (3 : Int32)) hin8 (g := (mkF m 27 #[.val (.int i), .val (.int j), .unset, .unset, .unset] [(.int (403 : Int32)), (.int (3 : Int32)), (.ref b1), (.ref b1)])) rfl rfl (hb hby at_27)
  refine Go.st st9 ?_
  have V9 : Arv Z h9 b1 k1 .int (16 : Int32) [(.int (400 : Int32)), (.int (413 : Int32)), (.int (401 : Int32)), (.int (403 : Int32)), (.int (0 : Int32)), (.int (0 : Int32)), (.int (0 : Int32)), (.int (0 : Int32)), (.int (0 : Int32)), (.int (0 : Int32)), (.int (0 : Int32)), (.int (0 : Int32)), (.int (0 : Int32)), (.int (0 : Int32)), (.int (0 : Int32)), (.int (0 : Int32))] (.int (0 : Int32)) := Arv.set Ar8 q8 S8 N8' H8 G8 rfl W9 3 rfl (Nat.le_of_ble_eq_true rfl)
  have Zs9 : n0 ≤ h9.size := Nat.le_trans Zs7 (Nat.le_of_eq W9.size.symm)
  have N9 := Fr.snoc X9 N7 gn_b1
  show Go p e below _ (T9.setTop (mkF m 28 #[.val (.int i), .val (.int j), .unset, .unset, .unset] [(.ref b1)]))
  refine Go.st (fun _ kt => XS.dup X9.here hx rfl (hb hby at_28) rfl rfl kt) ?_
  show Go p e below _ (T9.setTop (mkF m 29 #[.val (.int i), .val (.int j), .unset, .unset, .unset] [(.ref b1), (.ref b1)]))
  refine Go.st (fun _ kt => XS.iconst X9.here hx rfl (hb hby at_29) kt) ?_
  show Go p e below _ (T9.setTop (mkF m 30 #[.val (.int i), .val (.int j), .unset, .unset, .unset] [(.int (4 : Int32)), (.ref b1), (.ref b1)]))
  refine Go.st (fun _ kt => XS.sipush X9.here hx rfl (hb hby at_30) kt) ?_
  show Go p e below _ (T9.setTop (mkF m 33 #[.val (.int i), .val (.int j), .unset, .unset, .unset] [(.int (404 : Int32)), (.int (4 : Int32)), (.ref b1), (.ref b1)]))
  obtain ⟨cl10, Ar10, q10, S10, N10', H10, G10⟩ := V9
  have hin10 : ¬ ((4 : Int32) < 0 ∨ cl10.slots.size ≤ ((4 : Int32)).toNatClampNeg) := inb_of S10 ⟨by decide, by decide⟩
  obtain ⟨T11, h11, X11, e11, W11, st11⟩ := stI X9 hx hZ e9 Ar10 (j := (4 : Int32)) hin10 (g := (mkF m 33 #[.val (.int i), .val (.int j), .unset, .unset, .unset] [(.int (404 : Int32)), (.int (4 : Int32)), (.ref b1), (.ref b1)])) rfl rfl (hb hby at_33)
  refine Go.st st11 ?_
  have V11 : Arv Z h11 b1 k1 .int (16 : Int32) [(.int (400 : Int32)), (.int (413 : Int32)), (.int (401 : Int32)), (.int (403 : Int32)), (.int (404 : Int32)), (.int (0 : Int32)), (.int (0 : Int32)), (.int (0 : Int32)), (.int (0 : Int32)), (.int (0 : Int32)), (.int (0 : Int32)), (.int (0 : Int32)), (.int (0 : Int32)), (.int (0 : Int32)), (.int (0 : Int32)), (.int (0 : Int32))] (.int (0 : Int32)) := Arv.set Ar10 q10 S10 N10' H10 G10 rfl W11 4 rfl (Nat.le_of_ble_eq_true rfl)
  have Zs11 : n0 ≤ h11.size := Nat.le_trans Zs9 (Nat.le_of_eq W11.size.symm)
  have N11 := Fr.snoc X11 N9 gn_b1
  show Go p e below _ (T11.setTop (mkF m 34 #[.val (.int i), .val (.int j), .unset, .unset, .unset] [(.ref b1)]))
  refine Go.st (fun _ kt => XS.dup X11.here hx rfl (hb hby at_34) rfl rfl kt) ?_
  show Go p e below _ (T11.setTop (mkF m 35 #[.val (.int i), .val (.int j), .unset, .unset, .unset] [(.ref b1), (.ref b1)]))
  refine Go.st (fun _ kt => XS.iconst X11.here hx rfl (hb hby at_35) kt) ?_
  show Go p e below _ (T11.setTop (mkF m 36 #[.val (.int i), .val (.int j), .unset, .unset, .unset] [(.int (5 : Int32)), (.ref b1), (.ref b1)]))
  refine Go.st (fun _ kt => XS.sipush X11.here hx rfl (hb hby at_36) kt) ?_
  show Go p e below _ (T11.setTop (mkF m 39 #[.val (.int i), .val (.int j), .unset, .unset, .unset] [(.int (409 : Int32)), (.int (5 : Int32)), (.ref b1), (.ref b1)]))
  obtain ⟨cl12, Ar12, q12, S12, N12', H12, G12⟩ := V11
  have hin12 : ¬ ((5 : Int32) < 0 ∨ cl12.slots.size ≤ ((5 : Int32)).toNatClampNeg) := inb_of S12 ⟨by decide, by decide⟩
  obtain ⟨T13, h13, X13, e13, W13, st13⟩ := stI X11 hx hZ e11 Ar12 (j := (5 : Int32)) hin12 (g := (mkF m 39 #[.val (.int i), .val (.int j), .unset, .unset, .unset] [(.int (409 : Int32)), (.int (5 : Int32)), (.ref b1), (.ref b1)])) rfl rfl (hb hby at_39)
  refine Go.st st13 ?_
  have V13 : Arv Z h13 b1 k1 .int (16 : Int32) [(.int (400 : Int32)), (.int (413 : Int32)), (.int (401 : Int32)), (.int (403 : Int32)), (.int (404 : Int32)), (.int (409 : Int32)), (.int (0 : Int32)), (.int (0 : Int32)), (.int (0 : Int32)), (.int (0 : Int32)), (.int (0 : Int32)), (.int (0 : Int32)), (.int (0 : Int32)), (.int (0 : Int32)), (.int (0 : Int32)), (.int (0 : Int32))] (.int (0 : Int32)) := Arv.set Ar12 q12 S12 N12' H12 G12 rfl W13 5 rfl (Nat.le_of_ble_eq_true rfl)
  have Zs13 : n0 ≤ h13.size := Nat.le_trans Zs11 (Nat.le_of_eq W13.size.symm)
  have N13 := Fr.snoc X13 N11 gn_b1
  show Go p e below _ (T13.setTop (mkF m 40 #[.val (.int i), .val (.int j), .unset, .unset, .unset] [(.ref b1)]))
  refine Go.st (fun _ kt => XS.dup X13.here hx rfl (hb hby at_40) rfl rfl kt) ?_
  show Go p e below _ (T13.setTop (mkF m 41 #[.val (.int i), .val (.int j), .unset, .unset, .unset] [(.ref b1), (.ref b1)]))
  refine Go.st (fun _ kt => XS.bipush X13.here hx rfl (hb hby at_41) kt) ?_
  show Go p e below _ (T13.setTop (mkF m 43 #[.val (.int i), .val (.int j), .unset, .unset, .unset] [(.int (6 : Int32)), (.ref b1), (.ref b1)]))
  refine Go.st (fun _ kt => XS.sipush X13.here hx rfl (hb hby at_43) kt) ?_
  show Go p e below _ (T13.setTop (mkF m 46 #[.val (.int i), .val (.int j), .unset, .unset, .unset] [(.int (399 : Int32)), (.int (6 : Int32)), (.ref b1), (.ref b1)]))
  obtain ⟨cl14, Ar14, q14, S14, N14', H14, G14⟩ := V13
  have hin14 : ¬ ((6 : Int32) < 0 ∨ cl14.slots.size ≤ ((6 : Int32)).toNatClampNeg) := inb_of S14 ⟨by decide, by decide⟩
  obtain ⟨T15, h15, X15, e15, W15, st15⟩ := stI X13 hx hZ e13 Ar14 (j := (6 : Int32)) hin14 (g := (mkF m 46 #[.val (.int i), .val (.int j), .unset, .unset, .unset] [(.int (399 : Int32)), (.int (6 : Int32)), (.ref b1), (.ref b1)])) rfl rfl (hb hby at_46)
  refine Go.st st15 ?_
  have V15 : Arv Z h15 b1 k1 .int (16 : Int32) [(.int (400 : Int32)), (.int (413 : Int32)), (.int (401 : Int32)), (.int (403 : Int32)), (.int (404 : Int32)), (.int (409 : Int32)), (.int (399 : Int32)), (.int (0 : Int32)), (.int (0 : Int32)), (.int (0 : Int32)), (.int (0 : Int32)), (.int (0 : Int32)), (.int (0 : Int32)), (.int (0 : Int32)), (.int (0 : Int32)), (.int (0 : Int32))] (.int (0 : Int32)) := Arv.set Ar14 q14 S14 N14' H14 G14 rfl W15 6 rfl (Nat.le_of_ble_eq_true rfl)
  have Zs15 : n0 ≤ h15.size := Nat.le_trans Zs13 (Nat.le_of_eq W15.size.symm)
  have N15 := Fr.snoc X15 N13 gn_b1
  show Go p e below _ (T15.setTop (mkF m 47 #[.val (.int i), .val (.int j), .unset, .unset, .unset] [(.ref b1)]))
  refine Go.st (fun _ kt => XS.dup X15.here hx rfl (hb hby at_47) rfl rfl kt) ?_
  show Go p e below _ (T15.setTop (mkF m 48 #[.val (.int i), .val (.int j), .unset, .unset, .unset] [(.ref b1), (.ref b1)]))
  refine Go.st (fun _ kt => XS.bipush X15.here hx rfl (hb hby at_48) kt) ?_
  show Go p e below _ (T15.setTop (mkF m 50 #[.val (.int i), .val (.int j), .unset, .unset, .unset] [(.int (7 : Int32)), (.ref b1), (.ref b1)]))
  refine Go.st (fun _ kt => XS.sipush X15.here hx rfl (hb hby at_50) kt) ?_
  show Go p e below _ (T15.setTop (mkF m 53 #[.val (.int i), .val (.int j), .unset, .unset, .unset] [(.int (402 : Int32)), (.int (7 : Int32)), (.ref b1), (.ref b1)]))
  obtain ⟨cl16, Ar16, q16, S16, N16', H16, G16⟩ := V15
  have hin16 : ¬ ((7 : Int32) < 0 ∨ cl16.slots.size ≤ ((7 : Int32)).toNatClampNeg) := inb_of S16 ⟨by decide, by decide⟩
  obtain ⟨T17, h17, X17, e17, W17, st17⟩ := stI X15 hx hZ e15 Ar16 (j := (7 : Int32)) hin16 (g := (mkF m 53 #[.val (.int i), .val (.int j), .unset, .unset, .unset] [(.int (402 : Int32)), (.int (7 : Int32)), (.ref b1), (.ref b1)])) rfl rfl (hb hby at_53)
  refine Go.st st17 ?_
  have V17 : Arv Z h17 b1 k1 .int (16 : Int32) [(.int (400 : Int32)), (.int (413 : Int32)), (.int (401 : Int32)), (.int (403 : Int32)), (.int (404 : Int32)), (.int (409 : Int32)), (.int (399 : Int32)), (.int (402 : Int32)), (.int (0 : Int32)), (.int (0 : Int32)), (.int (0 : Int32)), (.int (0 : Int32)), (.int (0 : Int32)), (.int (0 : Int32)), (.int (0 : Int32)), (.int (0 : Int32))] (.int (0 : Int32)) := Arv.set Ar16 q16 S16 N16' H16 G16 rfl W17 7 rfl (Nat.le_of_ble_eq_true rfl)
  have Zs17 : n0 ≤ h17.size := Nat.le_trans Zs15 (Nat.le_of_eq W17.size.symm)
  have N17 := Fr.snoc X17 N15 gn_b1
  show Go p e below _ (T17.setTop (mkF m 54 #[.val (.int i), .val (.int j), .unset, .unset, .unset] [(.ref b1)]))
  refine Go.st (fun _ kt => XS.dup X17.here hx rfl (hb hby at_54) rfl rfl kt) ?_
  show Go p e below _ (T17.setTop (mkF m 55 #[.val (.int i), .val (.int j), .unset, .unset, .unset] [(.ref b1), (.ref b1)]))
  refine Go.st (fun _ kt => XS.bipush X17.here hx rfl (hb hby at_55) kt) ?_
  show Go p e below _ (T17.setTop (mkF m 57 #[.val (.int i), .val (.int j), .unset, .unset, .unset] [(.int (8 : Int32)), (.ref b1), (.ref b1)]))
  refine Go.st (fun _ kt => XS.sipush X17.here hx rfl (hb hby at_57) kt) ?_
  show Go p e below _ (T17.setTop (mkF m 60 #[.val (.int i), .val (.int j), .unset, .unset, .unset] [(.int (405 : Int32)), (.int (8 : Int32)), (.ref b1), (.ref b1)]))
  obtain ⟨cl18, Ar18, q18, S18, N18', H18, G18⟩ := V17
  have hin18 : ¬ ((8 : Int32) < 0 ∨ cl18.slots.size ≤ ((8 : Int32)).toNatClampNeg) := inb_of S18 ⟨by decide, by decide⟩
  obtain ⟨T19, h19, X19, e19, W19, st19⟩ := stI X17 hx hZ e17 Ar18 (j := (8 : Int32)) hin18 (g := (mkF m 60 #[.val (.int i), .val (.int j), .unset, .unset, .unset] [(.int (405 : Int32)), (.int (8 : Int32)), (.ref b1), (.ref b1)])) rfl rfl (hb hby at_60)
  refine Go.st st19 ?_
  have V19 : Arv Z h19 b1 k1 .int (16 : Int32) [(.int (400 : Int32)), (.int (413 : Int32)), (.int (401 : Int32)), (.int (403 : Int32)), (.int (404 : Int32)), (.int (409 : Int32)), (.int (399 : Int32)), (.int (402 : Int32)), (.int (405 : Int32)), (.int (0 : Int32)), (.int (0 : Int32)), (.int (0 : Int32)), (.int (0 : Int32)), (.int (0 : Int32)), (.int (0 : Int32)), (.int (0 : Int32))] (.int (0 : Int32)) := Arv.set Ar18 q18 S18 N18' H18 G18 rfl W19 8 rfl (Nat.le_of_ble_eq_true rfl)
  have Zs19 : n0 ≤ h19.size := Nat.le_trans Zs17 (Nat.le_of_eq W19.size.symm)
  have N19 := Fr.snoc X19 N17 gn_b1
  show Go p e below _ (T19.setTop (mkF m 61 #[.val (.int i), .val (.int j), .unset, .unset, .unset] [(.ref b1)]))
  refine Go.st (fun _ kt => XS.dup X19.here hx rfl (hb hby at_61) rfl rfl kt) ?_
  show Go p e below _ (T19.setTop (mkF m 62 #[.val (.int i), .val (.int j), .unset, .unset, .unset] [(.ref b1), (.ref b1)]))
  refine Go.st (fun _ kt => XS.bipush X19.here hx rfl (hb hby at_62) kt) ?_
  show Go p e below _ (T19.setTop (mkF m 64 #[.val (.int i), .val (.int j), .unset, .unset, .unset] [(.int (9 : Int32)), (.ref b1), (.ref b1)]))
  refine Go.st (fun _ kt => XS.sipush X19.here hx rfl (hb hby at_64) kt) ?_
  show Go p e below _ (T19.setTop (mkF m 67 #[.val (.int i), .val (.int j), .unset, .unset, .unset] [(.int (408 : Int32)), (.int (9 : Int32)), (.ref b1), (.ref b1)]))
  obtain ⟨cl20, Ar20, q20, S20, N20', H20, G20⟩ := V19
  have hin20 : ¬ ((9 : Int32) < 0 ∨ cl20.slots.size ≤ ((9 : Int32)).toNatClampNeg) := inb_of S20 ⟨by decide, by decide⟩
  obtain ⟨T21, h21, X21, e21, W21, st21⟩ := stI X19 hx hZ e19 Ar20 (j := (9 : Int32)) hin20 (g := (mkF m 67 #[.val (.int i), .val (.int j), .unset, .unset, .unset] [(.int (408 : Int32)), (.int (9 : Int32)), (.ref b1), (.ref b1)])) rfl rfl (hb hby at_67)
  refine Go.st st21 ?_
  have V21 : Arv Z h21 b1 k1 .int (16 : Int32) [(.int (400 : Int32)), (.int (413 : Int32)), (.int (401 : Int32)), (.int (403 : Int32)), (.int (404 : Int32)), (.int (409 : Int32)), (.int (399 : Int32)), (.int (402 : Int32)), (.int (405 : Int32)), (.int (408 : Int32)), (.int (0 : Int32)), (.int (0 : Int32)), (.int (0 : Int32)), (.int (0 : Int32)), (.int (0 : Int32)), (.int (0 : Int32))] (.int (0 : Int32)) := Arv.set Ar20 q20 S20 N20' H20 G20 rfl W21 9 rfl (Nat.le_of_ble_eq_true rfl)
  have Zs21 : n0 ≤ h21.size := Nat.le_trans Zs19 (Nat.le_of_eq W21.size.symm)
  have N21 := Fr.snoc X21 N19 gn_b1
  show Go p e below _ (T21.setTop (mkF m 68 #[.val (.int i), .val (.int j), .unset, .unset, .unset] [(.ref b1)]))
  refine Go.st (fun _ kt => XS.dup X21.here hx rfl (hb hby at_68) rfl rfl kt) ?_
  show Go p e below _ (T21.setTop (mkF m 69 #[.val (.int i), .val (.int j), .unset, .unset, .unset] [(.ref b1), (.ref b1)]))
  refine Go.st (fun _ kt => XS.bipush X21.here hx rfl (hb hby at_69) kt) ?_
  show Go p e below _ (T21.setTop (mkF m 71 #[.val (.int i), .val (.int j), .unset, .unset, .unset] [(.int (10 : Int32)), (.ref b1), (.ref b1)]))
  refine Go.st (fun _ kt => XS.sipush X21.here hx rfl (hb hby at_71) kt) ?_
  show Go p e below _ (T21.setTop (mkF m 74 #[.val (.int i), .val (.int j), .unset, .unset, .unset] [(.int (410 : Int32)), (.int (10 : Int32)), (.ref b1), (.ref b1)]))
  obtain ⟨cl22, Ar22, q22, S22, N22', H22, G22⟩ := V21
  have hin22 : ¬ ((10 : Int32) < 0 ∨ cl22.slots.size ≤ ((10 : Int32)).toNatClampNeg) := inb_of S22 ⟨by decide, by decide⟩
  obtain ⟨T23, h23, X23, e23, W23, st23⟩ := stI X21 hx hZ e21 Ar22 (j := (10 : Int32)) hin22 (g := (mkF m 74 #[.val (.int i), .val (.int j), .unset, .unset, .unset] [(.int (410 : Int32)), (.int (10 : Int32)), (.ref b1), (.ref b1)])) rfl rfl (hb hby at_74)
  refine Go.st st23 ?_
  have V23 : Arv Z h23 b1 k1 .int (16 : Int32) [(.int (400 : Int32)), (.int (413 : Int32)), (.int (401 : Int32)), (.int (403 : Int32)), (.int (404 : Int32)), (.int (409 : Int32)), (.int (399 : Int32)), (.int (402 : Int32)), (.int (405 : Int32)), (.int (408 : Int32)), (.int (410 : Int32)), (.int (0 : Int32)), (.int (0 : Int32)), (.int (0 : Int32)), (.int (0 : Int32)), (.int (0 : Int32))] (.int (0 : Int32)) := Arv.set Ar22 q22 S22 N22' H22 G22 rfl W23 10 rfl (Nat.le_of_ble_eq_true rfl)
  have Zs23 : n0 ≤ h23.size := Nat.le_trans Zs21 (Nat.le_of_eq W23.size.symm)
  have N23 := Fr.snoc X23 N21 gn_b1
  show Go p e below _ (T23.setTop (mkF m 75 #[.val (.int i), .val (.int j), .unset, .unset, .unset] [(.ref b1)]))
  refine Go.st (fun _ kt => XS.dup X23.here hx rfl (hb hby at_75) rfl rfl kt) ?_
  show Go p e below _ (T23.setTop (mkF m 76 #[.val (.int i), .val (.int j), .unset, .unset, .unset] [(.ref b1), (.ref b1)]))
  refine Go.st (fun _ kt => XS.bipush X23.here hx rfl (hb hby at_76) kt) ?_
  show Go p e below _ (T23.setTop (mkF m 78 #[.val (.int i), .val (.int j), .unset, .unset, .unset] [(.int (11 : Int32)), (.ref b1), (.ref b1)]))
  refine Go.st (fun _ kt => XS.sipush X23.here hx rfl (hb hby at_78) kt) ?_
  show Go p e below _ (T23.setTop (mkF m 81 #[.val (.int i), .val (.int j), .unset, .unset, .unset] [(.int (412 : Int32)), (.int (11 : Int32)), (.ref b1), (.ref b1)]))
  obtain ⟨cl24, Ar24, q24, S24, N24', H24, G24⟩ := V23
  have hin24 : ¬ ((11 : Int32) < 0 ∨ cl24.slots.size ≤ ((11 : Int32)).toNatClampNeg) := inb_of S24 ⟨by decide, by decide⟩
  obtain ⟨T25, h25, X25, e25, W25, st25⟩ := stI X23 hx hZ e23 Ar24 (j := (11 : Int32)) hin24 (g := (mkF m 81 #[.val (.int i), .val (.int j), .unset, .unset, .unset] [(.int (412 : Int32)), (.int (11 : Int32)), (.ref b1), (.ref b1)])) rfl rfl (hb hby at_81)
  refine Go.st st25 ?_
  have V25 : Arv Z h25 b1 k1 .int (16 : Int32) [(.int (400 : Int32)), (.int (413 : Int32)), (.int (401 : Int32)), (.int (403 : Int32)), (.int (404 : Int32)), (.int (409 : Int32)), (.int (399 : Int32)), (.int (402 : Int32)), (.int (405 : Int32)), (.int (408 : Int32)), (.int (410 : Int32)), (.int (412 : Int32)), (.int (0 : Int32)), (.int (0 : Int32)), (.int (0 : Int32)), (.int (0 : Int32))] (.int (0 : Int32)) := Arv.set Ar24 q24 S24 N24' H24 G24 rfl W25 11 rfl (Nat.le_of_ble_eq_true rfl)
  have Zs25 : n0 ≤ h25.size := Nat.le_trans Zs23 (Nat.le_of_eq W25.size.symm)
  have N25 := Fr.snoc X25 N23 gn_b1
  show Go p e below _ (T25.setTop (mkF m 82 #[.val (.int i), .val (.int j), .unset, .unset, .unset] [(.ref b1)]))
  refine Go.st (fun _ kt => XS.dup X25.here hx rfl (hb hby at_82) rfl rfl kt) ?_
  show Go p e below _ (T25.setTop (mkF m 83 #[.val (.int i), .val (.int j), .unset, .unset, .unset] [(.ref b1), (.ref b1)]))
  refine Go.st (fun _ kt => XS.bipush X25.here hx rfl (hb hby at_83) kt) ?_
  show Go p e below _ (T25.setTop (mkF m 85 #[.val (.int i), .val (.int j), .unset, .unset, .unset] [(.int (12 : Int32)), (.ref b1), (.ref b1)]))
  refine Go.st (fun _ kt => XS.sipush X25.here hx rfl (hb hby at_85) kt) ?_
  show Go p e below _ (T25.setTop (mkF m 88 #[.val (.int i), .val (.int j), .unset, .unset, .unset] [(.int (414 : Int32)), (.int (12 : Int32)), (.ref b1), (.ref b1)]))
  obtain ⟨cl26, Ar26, q26, S26, N26', H26, G26⟩ := V25
  have hin26 : ¬ ((12 : Int32) < 0 ∨ cl26.slots.size ≤ ((12 : Int32)).toNatClampNeg) := inb_of S26 ⟨by decide, by decide⟩
  obtain ⟨T27, h27, X27, e27, W27, st27⟩ := stI X25 hx hZ e25 Ar26 (j := (12 : Int32)) hin26 (g := (mkF m 88 #[.val (.int i), .val (.int j), .unset, .unset, .unset] [(.int (414 : Int32)), (.int (12 : Int32)), (.ref b1), (.ref b1)])) rfl rfl (hb hby at_88)
  refine Go.st st27 ?_
  have V27 : Arv Z h27 b1 k1 .int (16 : Int32) [(.int (400 : Int32)), (.int (413 : Int32)), (.int (401 : Int32)), (.int (403 : Int32)), (.int (404 : Int32)), (.int (409 : Int32)), (.int (399 : Int32)), (.int (402 : Int32)), (.int (405 : Int32)), (.int (408 : Int32)), (.int (410 : Int32)), (.int (412 : Int32)), (.int (414 : Int32)), (.int (0 : Int32)), (.int (0 : Int32)), (.int (0 : Int32))] (.int (0 : Int32)) := Arv.set Ar26 q26 S26 N26' H26 G26 rfl W27 12 rfl (Nat.le_of_ble_eq_true rfl)
  have Zs27 : n0 ≤ h27.size := Nat.le_trans Zs25 (Nat.le_of_eq W27.size.symm)
  have N27 := Fr.snoc X27 N25 gn_b1
  show Go p e below _ (T27.setTop (mkF m 89 #[.val (.int i), .val (.int j), .unset, .unset, .unset] [(.ref b1)]))
  refine Go.st (fun _ kt => XS.dup X27.here hx rfl (hb hby at_89) rfl rfl kt) ?_
  show Go p e below _ (T27.setTop (mkF m 90 #[.val (.int i), .val (.int j), .unset, .unset, .unset] [(.ref b1), (.ref b1)]))
  refine Go.st (fun _ kt => XS.bipush X27.here hx rfl (hb hby at_90) kt) ?_
  show Go p e below _ (T27.setTop (mkF m 92 #[.val (.int i), .val (.int j), .unset, .unset, .unset] [(.int (13 : Int32)), (.ref b1), (.ref b1)]))
  refine Go.st (fun _ kt => XS.sipush X27.here hx rfl (hb hby at_92) kt) ?_
  show Go p e below _ (T27.setTop (mkF m 95 #[.val (.int i), .val (.int j), .unset, .unset, .unset] [(.int (200 : Int32)), (.int (13 : Int32)), (.ref b1), (.ref b1)]))
  obtain ⟨cl28, Ar28, q28, S28, N28', H28, G28⟩ := V27
  have hin28 : ¬ ((13 : Int32) < 0 ∨ cl28.slots.size ≤ ((13 : Int32)).toNatClampNeg) := inb_of S28 ⟨by decide, by decide⟩
  obtain ⟨T29, h29, X29, e29, W29, st29⟩ := stI X27 hx hZ e27 Ar28 (j := (13 : Int32)) hin28 (g := (mkF m 95 #[.val (.int i), .val (.int j), .unset, .unset, .unset] [(.int (200 : Int32)), (.int (13 : Int32)), (.ref b1), (.ref b1)])) rfl rfl (hb hby at_95)
  refine Go.st st29 ?_
  have V29 : Arv Z h29 b1 k1 .int (16 : Int32) [(.int (400 : Int32)), (.int (413 : Int32)), (.int (401 : Int32)), (.int (403 : Int32)), (.int (404 : Int32)), (.int (409 : Int32)), (.int (399 : Int32)), (.int (402 : Int32)), (.int (405 : Int32)), (.int (408 : Int32)), (.int (410 : Int32)), (.int (412 : Int32)), (.int (414 : Int32)), (.int (200 : Int32)), (.int (0 : Int32)), (.int (0 : Int32))] (.int (0 : Int32)) := Arv.set Ar28 q28 S28 N28' H28 G28 rfl W29 13 rfl (Nat.le_of_ble_eq_true rfl)
  have Zs29 : n0 ≤ h29.size := Nat.le_trans Zs27 (Nat.le_of_eq W29.size.symm)
  have N29 := Fr.snoc X29 N27 gn_b1
  show Go p e below _ (T29.setTop (mkF m 96 #[.val (.int i), .val (.int j), .unset, .unset, .unset] [(.ref b1)]))
  refine Go.st (fun _ kt => XS.dup X29.here hx rfl (hb hby at_96) rfl rfl kt) ?_
  show Go p e below _ (T29.setTop (mkF m 97 #[.val (.int i), .val (.int j), .unset, .unset, .unset] [(.ref b1), (.ref b1)]))
  refine Go.st (fun _ kt => XS.bipush X29.here hx rfl (hb hby at_97) kt) ?_
  show Go p e below _ (T29.setTop (mkF m 99 #[.val (.int i), .val (.int j), .unset, .unset, .unset] [(.int (14 : Int32)), (.ref b1), (.ref b1)]))
  refine Go.st (fun _ kt => XS.sipush X29.here hx rfl (hb hby at_99) kt) ?_
  show Go p e below _ (T29.setTop (mkF m 102 #[.val (.int i), .val (.int j), .unset, .unset, .unset] [(.int (500 : Int32)), (.int (14 : Int32)), (.ref b1), (.ref b1)]))
  obtain ⟨cl30, Ar30, q30, S30, N30', H30, G30⟩ := V29
  have hin30 : ¬ ((14 : Int32) < 0 ∨ cl30.slots.size ≤ ((14 : Int32)).toNatClampNeg) := inb_of S30 ⟨by decide, by decide⟩
  obtain ⟨T31, h31, X31, e31, W31, st31⟩ := stI X29 hx hZ e29 Ar30 (j := (14 : Int32)) hin30 (g := (mkF m 102 #[.val (.int i), .val (.int j), .unset, .unset, .unset] [(.int (500 : Int32)), (.int (14 : Int32)), (.ref b1), (.ref b1)])) rfl rfl (hb hby at_102)
  refine Go.st st31 ?_
  have V31 : Arv Z h31 b1 k1 .int (16 : Int32) [(.int (400 : Int32)), (.int (413 : Int32)), (.int (401 : Int32)), (.int (403 : Int32)), (.int (404 : Int32)), (.int (409 : Int32)), (.int (399 : Int32)), (.int (402 : Int32)), (.int (405 : Int32)), (.int (408 : Int32)), (.int (410 : Int32)), (.int (412 : Int32)), (.int (414 : Int32)), (.int (200 : Int32)), (.int (500 : Int32)), (.int (0 : Int32))] (.int (0 : Int32)) := Arv.set Ar30 q30 S30 N30' H30 G30 rfl W31 14 rfl (Nat.le_of_ble_eq_true rfl)
  have Zs31 : n0 ≤ h31.size := Nat.le_trans Zs29 (Nat.le_of_eq W31.size.symm)
  have N31 := Fr.snoc X31 N29 gn_b1
  show Go p e below _ (T31.setTop (mkF m 103 #[.val (.int i), .val (.int j), .unset, .unset, .unset] [(.ref b1)]))
  refine Go.st (fun _ kt => XS.dup X31.here hx rfl (hb hby at_103) rfl rfl kt) ?_
  show Go p e below _ (T31.setTop (mkF m 104 #[.val (.int i), .val (.int j), .unset, .unset, .unset] [(.ref b1), (.ref b1)]))
  refine Go.st (fun _ kt => XS.bipush X31.here hx rfl (hb hby at_104) kt) ?_
  show Go p e below _ (T31.setTop (mkF m 106 #[.val (.int i), .val (.int j), .unset, .unset, .unset] [(.int (15 : Int32)), (.ref b1), (.ref b1)]))
  refine Go.st (fun _ kt => XS.iloadN X31.here hx rfl (hb hby at_106) rfl kt) ?_
  show Go p e below _ (T31.setTop (mkF m 107 #[.val (.int i), .val (.int j), .unset, .unset, .unset] [(.int i), (.int (15 : Int32)), (.ref b1), (.ref b1)]))
  obtain ⟨cl32, Ar32, q32, S32, N32', H32, G32⟩ := V31
  have hin32 : ¬ ((15 : Int32) < 0 ∨ cl32.slots.size ≤ ((15 : Int32)).toNatClampNeg) := inb_of S32 ⟨by decide, by decide⟩
  obtain ⟨T33, h33, X33, e33, W33, st33⟩ := stI X31 hx hZ e31 Ar32 (j := (15 : Int32)) hin32 (g := (mkF m 107 #[.val (.int i), .val (.int j), .unset, .unset, .unset] [(.int i), (.int (15 : Int32)), (.ref b1), (.ref b1)])) rfl rfl (hb hby at_107)
  refine Go.st st33 ?_
  have V33 : Arv Z h33 b1 k1 .int (16 : Int32) [(.int (400 : Int32)), (.int (413 : Int32)), (.int (401 : Int32)), (.int (403 : Int32)), (.int (404 : Int32)), (.int (409 : Int32)), (.int (399 : Int32)), (.int (402 : Int32)), (.int (405 : Int32)), (.int (408 : Int32)), (.int (410 : Int32)), (.int (412 : Int32)), (.int (414 : Int32)), (.int (200 : Int32)), (.int (500 : Int32)), (.int i)] (.int (0 : Int32)) := Arv.set Ar32 q32 S32 N32' H32 G32 rfl W33 15 rfl (Nat.le_of_ble_eq_true rfl)
  have Zs33 : n0 ≤ h33.size := Nat.le_trans Zs31 (Nat.le_of_eq W33.size.symm)
  have N33 := Fr.snoc X33 N31 gn_b1
  show Go p e below _ (T33.setTop (mkF m 108 #[.val (.int i), .val (.int j), .unset, .unset, .unset] [(.ref b1)]))
  refine Go.st (fun _ kt => XS.astoreN X33.here hx rfl (hb hby at_108) rfl rfl (l' := #[.val (.int i), .val (.int j), .val (.ref b1), .unset, .unset]) rfl kt) ?_
  show Go p e below _ (T33.setTop (mkF m 109 #[.val (.int i), .val (.int j), .val (.ref b1), .unset, .unset] []))
  refine Go.st (fun _ kt => XS.aloadN X33.here hx rfl (hb hby at_109) rfl rfl kt) ?_
  show Go p e below _ (T33.setTop (mkF m 110 #[.val (.int i), .val (.int j), .val (.ref b1), .unset, .unset] [(.ref b1)]))
  refine Go.st (fun _ kt => XS.iloadN X33.here hx rfl (hb hby at_110) rfl kt) ?_
  show Go p e below _ (T33.setTop (mkF m 111 #[.val (.int i), .val (.int j), .val (.ref b1), .unset, .unset] [(.int j), (.ref b1)]))
  refine Go.st (fun _ kt => XS.bipush X33.here hx rfl (hb hby at_111) kt) ?_
  show Go p e below _ (T33.setTop (mkF m 113 #[.val (.int i), .val (.int j), .val (.ref b1), .unset, .unset] [(.int (15 : Int32)), (.int j), (.ref b1)]))
  refine Go.st (fun _ kt => XS.iand X33.here hx rfl (hb hby at_113) rfl kt) ?_
  show Go p e below _ (T33.setTop (mkF m 114 #[.val (.int i), .val (.int j), .val (.ref b1), .unset, .unset] [(.int (j &&& (15 : Int32))), (.ref b1)]))
  obtain ⟨st, hst⟩ := own_getI [(.int (400 : Int32)), (.int (413 : Int32)), (.int (401 : Int32)), (.int (403 : Int32)), (.int (404 : Int32)), (.int (409 : Int32)), (.int (399 : Int32)), (.int (402 : Int32)), (.int (405 : Int32)), (.int (408 : Int32)), (.int (410 : Int32)), (.int (412 : Int32)), (.int (414 : Int32)), (.int (200 : Int32)), (.int (500 : Int32)), (.int i)] (by intro v hv; simp only [List.mem_cons, List.not_mem_nil, or_false] at hv; rcases hv with rfl | rfl | rfl | rfl | rfl | rfl | rfl | rfl | rfl | rfl | rfl | rfl | rfl | rfl | rfl | rfl <;> exact ⟨_, rfl⟩) ((j &&& (15 : Int32))).toNatClampNeg
  obtain ⟨cl34, Ar34, -, S34, N34', H34, G34⟩ := V33
  have hin34 := inb_of S34 (j := (j &&& (15 : Int32))) (own_and15 j)
  have hat34 := Has.at H34 hin34 (v := (.int st)) hst
  refine Go.st (fun _ kt => X33.iaload hx (j := (j &&& (15 : Int32))) (v := (.int st)) (by rw [e33]; exact Ar34.1) (State.isArrayOf_alike hZ.alike Ar34.2.1) Ar34.2.2 hin34 hat34 (g := (mkF m 114 #[.val (.int i), .val (.int j), .val (.ref b1), .unset, .unset] [(.int (j &&& (15 : Int32))), (.ref b1)])) rfl rfl (hb hby at_114) _ kt) ?_
  show Go p e below _ (T33.setTop (mkF m 115 #[.val (.int i), .val (.int j), .val (.ref b1), .unset, .unset] [(.int st)]))
  refine Go.st (fun _ kt => XS.istoreN X33.here hx rfl (hb hby at_115) rfl (l' := #[.val (.int i), .val (.int j), .val (.ref b1), .val (.int st), .unset]) rfl kt) ?_
  show Go p e below _ (T33.setTop (mkF m 116 #[.val (.int i), .val (.int j), .val (.ref b1), .val (.int st), .unset] []))
  refine Go.st (fun _ kt => XS.iloadN X33.here hx rfl (hb hby at_116) rfl kt) ?_
  show Go p e below _ (T33.setTop (mkF m 117 #[.val (.int i), .val (.int j), .val (.ref b1), .val (.int st), .unset] [(.int st)]))
  obtain ⟨_, _, ⟨T35, L35, k35, n35⟩, -, X35, ⟨Lc35, hQ35, l35, y35, z35⟩, st35⟩ := Jvm.LawKit.callS X33 hx (y := (⟨"com/example/lockward/lockward/Protocol", "exitStatusOfError", "(I)I"⟩ : MethodName)) hown (mvT hZ (hw _ (List.mem_of_getElem? (i := 1) rfl))) (mvT hZ (hw _ (List.mem_of_getElem? (i := 2) rfl))) (mvT hZ (hw _ (List.mem_of_getElem? (i := 3) rfl))) (mvT hZ (hw _ (List.mem_of_getElem? (i := 4) rfl))) (by decide) (backOf (W := 0) (rm1 l Z a0 hw [] st h33 n0 Zs33) hZ (hw _ (List.mem_of_getElem? (i := 4) rfl)) (hw _ (List.mem_of_getElem? (i := 3) rfl)) (by decide) (by decide)) (g := (mkF m 117 #[.val (.int i), .val (.int j), .val (.ref b1), .val (.int st), .unset] [(.int st)])) rfl (by rw [hml]; rfl) (argsL := [(.int st)]) (rest := []) (lenOf own_pd2 rfl) rfl (by show 2 * 0 + _ ≤ _; exact Nat.le_of_eq rfl) (hb hby at_117) (fun _ _ => ⟨rfl, e33, (by decide : 1 + 0 ≤ _), (by decide : 16 + 0 ≤ _)⟩)
  dsimp only [Pt.U, Pt.locs, Pt.cells, Pt.slots] at X35 l35 y35 z35 st35 hQ35
  subst l35 y35 z35
  obtain ⟨rfl, N35q, e35⟩ := hQ35
  have N35 := Fr.app N33 N35q
  refine Go.st st35 ?_
  show Go p e below _ (T35.setTop (mkF m 120 #[.val (.int i), .val (.int j), .val (.ref b1), .val (.int st), .unset] [(.int (own_ex st))]))
  refine Go.st (fun _ kt => XS.istore X35.here hx rfl (hb hby at_120) rfl (l' := #[.val (.int i), .val (.int j), .val (.ref b1), .val (.int st), .val (.int (own_ex st))]) rfl kt) ?_
  show Go p e below _ (T35.setTop (mkF m 122 #[.val (.int i), .val (.int j), .val (.ref b1), .val (.int st), .val (.int (own_ex st))] []))
  refine Go.st (fun _ kt => XS.iload X35.here hx rfl (hb hby at_122) rfl kt) ?_
  show Go p e below _ (T35.setTop (mkF m 124 #[.val (.int i), .val (.int j), .val (.ref b1), .val (.int st), .val (.int (own_ex st))] [(.int (own_ex st))]))
  refine Go.st (fun _ kt => XS.iloadN X35.here hx rfl (hb hby at_124) rfl kt) ?_
  show Go p e below _ (T35.setTop (mkF m 125 #[.val (.int i), .val (.int j), .val (.ref b1), .val (.int st), .val (.int (own_ex st))] [(.int st), (.int (own_ex st))]))
  obtain ⟨_, _, ⟨T36, L36, k36, n36⟩, -, X36, ⟨Lc36, hQ36, l36, y36, z36⟩, st36⟩ := Jvm.LawKit.callS X35 hx (y := (⟨"com/example/lockward/lockward/ProtocolExitStatusOfErrorPinLaw", "expected", "(I)I"⟩ : MethodName)) hown (mvT hZ (hw _ (List.mem_of_getElem? (i := 5) rfl))) (mvT hZ (hw _ (List.mem_of_getElem? (i := 6) rfl))) (mvT hZ (hw _ (List.mem_of_getElem? (i := 7) rfl))) (mvT hZ (hw _ (List.mem_of_getElem? (i := 8) rfl))) (by decide) (backOf (W := 1) (rm2 l Z a0 hw [] st h33 n0 Zs33) hZ (hw _ (List.mem_of_getElem? (i := 8) rfl)) (hw _ (List.mem_of_getElem? (i := 7) rfl)) (by decide) (by decide)) (g := (mkF m 125 #[.val (.int i), .val (.int j), .val (.ref b1), .val (.int st), .val (.int (own_ex st))] [(.int st), (.int (own_ex st))])) rfl (by rw [hml]; rfl) (argsL := [(.int st)]) (rest := [(.int (own_ex st))]) (lenOf own_pd2 rfl) rfl (by show 2 * 0 + _ ≤ _; exact Nat.le_of_eq rfl) (hb hby at_125) (fun _ _ => ⟨rfl, e35, (by decide : 1 + 0 ≤ _), (by decide : 16 + 0 ≤ _)⟩)
  dsimp only [Pt.U, Pt.locs, Pt.cells, Pt.slots] at X36 l36 y36 z36 st36 hQ36
  subst l36 y36 z36
  obtain ⟨rfl, N36q, e36⟩ := hQ36
  have N36 := Fr.app N35 N36q
  refine Go.st st36 ?_
  show Go p e below _ (T36.setTop (mkF m 128 #[.val (.int i), .val (.int j), .val (.ref b1), .val (.int st), .val (.int (own_ex st))] [(.int (own_ex st)), (.int (own_ex st))]))
  refine Go.st (fun _ kt => XS.icmpNo X36.here hx rfl (hb hby at_128) rfl (teq (rfl : (own_ex st) = (own_ex st))).2 kt) ?_
  show Go p e below _ (T36.setTop (mkF m 131 #[.val (.int i), .val (.int j), .val (.ref b1), .val (.int st), .val (.int (own_ex st))] []))
  refine Go.st (fun _ kt => XS.iconst X36.here hx rfl (hb hby at_131) kt) ?_
  show Go p e below _ (T36.setTop (mkF m 132 #[.val (.int i), .val (.int j), .val (.ref b1), .val (.int st), .val (.int (own_ex st))] [(.int (1 : Int32))]))
  refine Go.st (fun _ kt => XS.goto X36.here hx rfl (pc0 := 132) (pc' := 136) rfl (hb hby at_132) (by decide) (by decide) kt) ?_
  show Go p e below _ (T36.setTop (mkF m 136 #[.val (.int i), .val (.int j), .val (.ref b1), .val (.int st), .val (.int (own_ex st))] [(.int (1 : Int32))]))
  refine Go.retN X36 hx (t := .boolean) Bd.returns (by simp) (BodyLoose.notSynchronized Bd) (hb hby at_136) (Q := (Q_rm0 Z i j h0 n0)) (by decide) (by decide) ?_
  show (Q_rm0 Z i j h0 n0) _ T36.heap _
  rw [e36]
  exact ⟨rfl, N36⟩
set_option maxRecDepth 65536 in
set_option maxHeartbeats 40000000 in
theorem comes_1 {Post : Tables → Env → Array Value → State → Outcome → State → Prop} (hpost : ∀ tb e args s v u, (limb_1_1.after args s (.returned v) u = true ∧ limb_1_2.after args s (.returned v) u = true ∧ True) → FrameEnd s (.returned v) u (Jvm.fieldLocs frame_1_writes args s ++ Jvm.arrayLocs frame_1_arrays args s ++ Jvm.staticLocs frame_1_statics s) 16 128 → Post tb e args s (.returned v) u) :
    ArmFor flags0 classFile x code maxLocals ret World_1 tables_1 room_1 Calls_1 rest_1 Pre_1 Post := by
  intro l hfl _ _ p e ha hc hk s m args below hf hA hF happ hP
  obtain ⟨hcalls, hrest, hpre⟩ := hP
  obtain ⟨-, -, -, hnamed, -, -, -, hat⟩ := (Spec.applies_iff hf).mp happ
  obtain ⟨hg, hn⟩ := and_e (Cond.before_iff.mp (show (Jvm.Cond.and given_1 narrow_1).before args s = true from hpre))
  obtain ⟨g1, g2⟩ := and_e hg
  obtain ⟨g3, g4⟩ := and_e g2
  obtain ⟨w0, w1, rfl⟩ : ∃ w0 w1 : Value, args = #[w0, w1] := by
    have hs : args.size = 2 := by simpa [Cond.value, given_1] using g1
    obtain ⟨L⟩ := args
    match L, hs with
    | [w0, w1], _ => exact ⟨w0, w1, rfl⟩
  have hw := fun d (hd : d ∈ tables_1) => atoms_spec (ws := Jvm.Cond.code x code maxLocals ret :: tables_1) hat d (List.mem_cons_of_mem _ hd)
  have hfit : Fit s := fun {y c} hc i hi => by
    obtain ⟨ha, rfl⟩ := Array.getElem?_eq_some_iff.mp hc
    have q := List.all_eq_true.mp ((Array.all_eq_true_iff_forall_mem.mp hF) _ (Array.getElem_mem ha)) i (List.mem_range.mpr hi)
    simpa [Array.getElem?_eq_getElem hi] using q
  obtain ⟨i0, ei0⟩ := is_v g3
  obtain rfl : w0 = (.int i0) := Option.some.inj ei0
  obtain ⟨i1, ei1⟩ := is_v g4
  obtain rfl : w1 = (.int i1) := Option.some.inj ei1
  obtain ⟨n, o, h1, h2, h3, _, L, rfl, ⟨rfl, N⟩, hq⟩ := rm0 l s _ hw tables_1 i0 i1 s.heap s.heap.size (Nat.le_refl _) p e ha hc hk s m _ below hf ((Spec.applies_iff_loose hf).mp happ).1 ⟨rfl, State.Warmed39.refl s, rfl⟩ trivial
  refine ⟨n, _, h1, h2, h3, hpost _ _ _ _ _ _ ⟨Cond.after_iff.mpr rfl, Cond.after_iff.mpr (eq_i res_at (Term.int_eval (1)) rfl), trivial⟩ ⟨hq.1, hq.2.1, (hq.2.2.sift fun y hy => Or.inr (N y hy)).mono (by decide) (by decide)⟩⟩
theorem main_1_1 : Claimed_1_1 := comes_1 fun _ _ _ _ _ _ h hF => ⟨h.1, hF⟩
theorem main_1_2 : Claimed_1_2 := comes_1 fun _ _ _ _ _ _ h hF => ⟨h.2.1, hF⟩
end Jvm.Pilot.@@N@@
namespace Jvm.Pilot.@@N@@
open Jvm Jvm.ClassFile Sem Op Lib Jvm.Free Jvm.Stand Jvm.Pilot.@@N@@.Jvm.D
/-! MADE BY PROGRAM (witnessworld.py) out of the Statement's table words and the real class files: 9 classes; the members and pool entries that the words name. The judged class is class 1, her method 2. -/
namespace start1
open Jvm.ClassFile
def u (s : String) : CpInfo := .utf8 (stringToUtf16 s)
/-- a pool by its gaps: so many unusable entries, then the entry; so many at the end -/
def gap : Nat → List CpInfo → List CpInfo
  | 0, r => r
  | n + 1, r => .unusable :: gap n r
def poolList (es : List (Nat × CpInfo)) (last : Nat) : List CpInfo := es.foldr (fun e r => gap e.1 (e.2 :: r)) (gap last [])
def pool (es : List (Nat × CpInfo)) (last : Nat) : Array CpInfo := ⟨poolList es last⟩
def fileOf (pool : Array CpInfo) (this : Nat) (attrs : Array Attribute := #[]) (ms : Array MethodInfo := #[]) (fl : Nat := 33) (sup : Nat := 0) (ifs : Array Nat := #[]) (fds : Array FieldInfo := #[]) : ClassFile where
  minorVersion := 0
  majorVersion := 65
  constantPool := pool
  accessFlags := fl
  thisClass := this
  superClass := sup
  interfaces := ifs
  fields := fds
  methods := ms
  attributes := attrs
def plain (name : String) (sup : Option ClassId) : Class where
  name := name
  kind := .ordinary
  loader := none
  accessFlags := 33
  super := sup
  interfaces := #[]
  cf := none
  fields := #[]
  methods := #[]
  instanceTypes := #[]
  staticTypes := #[]
  resolved := #[]
  callSites := []
  init := .initialized
  statics := none
  mirror := none

def pool0 : Array CpInfo := pool [(5, u "<init>"), (0, u "()V"), (1, .class_ 10), (1, u "java/lang/Object")] 113

def k0m0 : Method := { name := "<init>", desc := "()V", sig := { parameters := [], returnType := none }, accessFlags := 1, code := none }
/-- java/lang/Object -/
def k0 : Class := { plain "java/lang/Object" none with
  accessFlags := 33
  interfaces := #[]
  cf := some (fileOf pool0 8 #[] #[{ accessFlags := 1, nameIndex := 5, descriptorIndex := 6, attributes := #[] }] 33 0 #[] #[])
  fields := #[]
  methods := #[k0m0]
  instanceTypes := #[]
  staticTypes := #[]
  resolved := Array.replicate 124 none
  statics := none }

def pool1 : Array CpInfo := pool [(2, .class_ 4), (1, u "java/lang/Object"), (0, u "<init>"), (0, u "()V"), (0, .methodref 8 9), (0, .class_ 10), (0, .nameAndType 11 12), (0, u "com/example/lockward/lockward/Protocol"), (0, u "exitStatusOfError"), (0, u "(I)I"), (0, .methodref 14 15), (0, .class_ 16), (0, .nameAndType 17 12), (0, u "com/example/lockward/lockward/ProtocolExitStatusOfErrorPinLaw"), (0, u "expected"), (3, u "law"), (0, u "(II)Z")] 4

def k1m0 : Method := { name := "<init>", desc := "()V", sig := { parameters := [], returnType := none }, accessFlags := 2, code := none }
def k1c1 : Code := { maxStack := 2, maxLocals := 1, code := method_2_code, exceptionTable := #[], attributes := #[] }
def k1m1 : Method := { name := "expected", desc := "(I)I", sig := { parameters := [.int], returnType := some .int }, accessFlags := 10, code := some k1c1 }
def k1c2 : Code := { maxStack := 4, maxLocals := 5, code := code, exceptionTable := #[], attributes := #[] }
def k1m2 : Method := { name := "law", desc := "(II)Z", sig := { parameters := [.int, .int], returnType := some .boolean }, accessFlags := 9, code := some k1c2 }
/-- com/example/lockward/lockward/ProtocolExitStatusOfErrorPinLaw -/
def k1 : Class := { plain "com/example/lockward/lockward/ProtocolExitStatusOfErrorPinLaw" (some 0) with
  accessFlags := 49
  interfaces := #[]
  cf := some (fileOf pool1 14 #[] #[{ accessFlags := 2, nameIndex := 5, descriptorIndex := 6, attributes := #[] }, { accessFlags := 10, nameIndex := 17, descriptorIndex := 12, attributes := #[] }, { accessFlags := 9, nameIndex := 21, descriptorIndex := 22, attributes := #[] }] 49 2 #[] #[])
  fields := #[]
  methods := #[k1m0, k1m1, k1m2]
  instanceTypes := #[]
  staticTypes := #[]
  resolved := Array.replicate 27 none
  statics := none }

def pool2 : Array CpInfo := pool [(2, .class_ 4), (1, u "java/lang/Object"), (0, u "<init>"), (0, u "()V"), (45, .class_ 54), (1, u "com/example/lockward/lockward/Protocol"), (2, .class_ 59), (1, u "com/example/lockward/lockward/Protocol$Action"), (17, .class_ 78), (0, u "com/example/lockward/lockward/Protocol$LockAction"), (14, .class_ 95), (1, u "com/example/lockward/lockward/Protocol$FeedAction"), (45, .class_ 142), (0, u "com/example/lockward/lockward/Protocol$PeerAction"), (6, .class_ 151), (1, u "com/example/lockward/lockward/Protocol$Format"), (76, u "EXIT_HEADER"), (0, u "Ljava/lang/String;"), (1, u "WARNING_HEADER"), (0, u "ACCOUNTS_HEADER"), (0, u "ACCEPT_HEADER"), (2, u "CONTENT_TYPE_HEADER"), (0, u "AUTHORIZATION_HEADER"), (2, u "BEARER"), (2, u "FORM_TYPE"), (2, u "CONNECTOR_FIELD"), (2, u "TIMEOUT_FIELD"), (2, u "PASSWORD_FIELD"), (2, u "ROLE_FIELD"), (2, u "NAMES_FIELD"), (2, u "MAX_CHANGES_FIELD"), (2, u "ACCOUNTS"), (0, u "VERIFY_ALL"), (2, u "PEERS"), (0, u "USERS"), (0, u "AUDIT"), (2, u "BACKUP"), (2, u "BACKUP_TYPE"), (0, u "LOCKS"), (0, u "FEED"), (28, u "(I)I"), (8, u "exitStatusOfError"), (3, .class_ 321), (0, u "com/example/lockward/lockward/Protocol$Act")] 35

def k2m0 : Method := { name := "<init>", desc := "()V", sig := { parameters := [], returnType := none }, accessFlags := 2, code := none }
def k2c1 : Code := { maxStack := 1, maxLocals := 1, code := prog_78_method_23_code, exceptionTable := #[], attributes := #[] }
def k2m1 : Method := { name := "exitStatusOfError", desc := "(I)I", sig := { parameters := [.int], returnType := some .int }, accessFlags := 8, code := some k2c1 }
/-- com/example/lockward/lockward/Protocol -/
def k2 : Class := { plain "com/example/lockward/lockward/Protocol" (some 0) with
  accessFlags := 48
  interfaces := #[]
  cf := some (fileOf pool2 52 #[.nestMembers #[141, 149, 93, 77, 57, 320]] #[{ accessFlags := 2, nameIndex := 5, descriptorIndex := 6, attributes := #[] }, { accessFlags := 8, nameIndex := 316, descriptorIndex := 307, attributes := #[] }] 48 2 #[] #[{ accessFlags := 24, nameIndex := 228, descriptorIndex := 229, attributes := #[] }, { accessFlags := 24, nameIndex := 231, descriptorIndex := 229, attributes := #[] }, { accessFlags := 24, nameIndex := 232, descriptorIndex := 229, attributes := #[] }, { accessFlags := 24, nameIndex := 233, descriptorIndex := 229, attributes := #[] }, { accessFlags := 24, nameIndex := 236, descriptorIndex := 229, attributes := #[] }, { accessFlags := 24, nameIndex := 237, descriptorIndex := 229, attributes := #[] }, { accessFlags := 24, nameIndex := 240, descriptorIndex := 229, attributes := #[] }, { accessFlags := 24, nameIndex := 243, descriptorIndex := 229, attributes := #[] }, { accessFlags := 24, nameIndex := 246, descriptorIndex := 229, attributes := #[] }, { accessFlags := 24, nameIndex := 249, descriptorIndex := 229, attributes := #[] }, { accessFlags := 24, nameIndex := 252, descriptorIndex := 229, attributes := #[] }, { accessFlags := 24, nameIndex := 255, descriptorIndex := 229, attributes := #[] }, { accessFlags := 24, nameIndex := 258, descriptorIndex := 229, attributes := #[] }, { accessFlags := 24, nameIndex := 261, descriptorIndex := 229, attributes := #[] }, { accessFlags := 24, nameIndex := 264, descriptorIndex := 229, attributes := #[] }, { accessFlags := 24, nameIndex := 265, descriptorIndex := 229, attributes := #[] }, { accessFlags := 24, nameIndex := 268, descriptorIndex := 229, attributes := #[] }, { accessFlags := 24, nameIndex := 269, descriptorIndex := 229, attributes := #[] }, { accessFlags := 24, nameIndex := 270, descriptorIndex := 229, attributes := #[] }, { accessFlags := 24, nameIndex := 273, descriptorIndex := 229, attributes := #[] }, { accessFlags := 24, nameIndex := 276, descriptorIndex := 229, attributes := #[] }, { accessFlags := 24, nameIndex := 277, descriptorIndex := 229, attributes := #[] }, { accessFlags := 24, nameIndex := 278, descriptorIndex := 229, attributes := #[] }])
  fields := #[{ name := "EXIT_HEADER", type := (.object "java/lang/String"), accessFlags := 24, slot := 0, constantValue := 0 }, { name := "WARNING_HEADER", type := (.object "java/lang/String"), accessFlags := 24, slot := 1, constantValue := 0 }, { name := "ACCOUNTS_HEADER", type := (.object "java/lang/String"), accessFlags := 24, slot := 2, constantValue := 0 }, { name := "ACCEPT_HEADER", type := (.object "java/lang/String"), accessFlags := 24, slot := 3, constantValue := 0 }, { name := "CONTENT_TYPE_HEADER", type := (.object "java/lang/String"), accessFlags := 24, slot := 4, constantValue := 0 }, { name := "AUTHORIZATION_HEADER", type := (.object "java/lang/String"), accessFlags := 24, slot := 5, constantValue := 0 }, { name := "BEARER", type := (.object "java/lang/String"), accessFlags := 24, slot := 6, constantValue := 0 }, { name := "FORM_TYPE", type := (.object "java/lang/String"), accessFlags := 24, slot := 7, constantValue := 0 }, { name := "CONNECTOR_FIELD", type := (.object "java/lang/String"), accessFlags := 24, slot := 8, constantValue := 0 }, { name := "TIMEOUT_FIELD", type := (.object "java/lang/String"), accessFlags := 24, slot := 9, constantValue := 0 }, { name := "PASSWORD_FIELD", type := (.object "java/lang/String"), accessFlags := 24, slot := 10, constantValue := 0 }, { name := "ROLE_FIELD", type := (.object "java/lang/String"), accessFlags := 24, slot := 11, constantValue := 0 }, { name := "NAMES_FIELD", type := (.object "java/lang/String"), accessFlags := 24, slot := 12, constantValue := 0 }, { name := "MAX_CHANGES_FIELD", type := (.object "java/lang/String"), accessFlags := 24, slot := 13, constantValue := 0 }, { name := "ACCOUNTS", type := (.object "java/lang/String"), accessFlags := 24, slot := 14, constantValue := 0 }, { name := "VERIFY_ALL", type := (.object "java/lang/String"), accessFlags := 24, slot := 15, constantValue := 0 }, { name := "PEERS", type := (.object "java/lang/String"), accessFlags := 24, slot := 16, constantValue := 0 }, { name := "USERS", type := (.object "java/lang/String"), accessFlags := 24, slot := 17, constantValue := 0 }, { name := "AUDIT", type := (.object "java/lang/String"), accessFlags := 24, slot := 18, constantValue := 0 }, { name := "BACKUP", type := (.object "java/lang/String"), accessFlags := 24, slot := 19, constantValue := 0 }, { name := "BACKUP_TYPE", type := (.object "java/lang/String"), accessFlags := 24, slot := 20, constantValue := 0 }, { name := "LOCKS", type := (.object "java/lang/String"), accessFlags := 24, slot := 21, constantValue := 0 }, { name := "FEED", type := (.object "java/lang/String"), accessFlags := 24, slot := 22, constantValue := 0 }]
  methods := #[k2m0, k2m1]
  instanceTypes := #[]
  staticTypes := #[(.object "java/lang/String"), (.object "java/lang/String"), (.object "java/lang/String"), (.object "java/lang/String"), (.object "java/lang/String"), (.object "java/lang/String"), (.object "java/lang/String"), (.object "java/lang/String"), (.object "java/lang/String"), (.object "java/lang/String"), (.object "java/lang/String"), (.object "java/lang/String"), (.object "java/lang/String"), (.object "java/lang/String"), (.object "java/lang/String"), (.object "java/lang/String"), (.object "java/lang/String"), (.object "java/lang/String"), (.object "java/lang/String"), (.object "java/lang/String"), (.object "java/lang/String"), (.object "java/lang/String"), (.object "java/lang/String")]
  resolved := Array.replicate 357 none
  statics := none }

def pool3 : Array CpInfo := pool [(1, u "java/lang/Cloneable"), (0, .class_ 1), (0, u "java/lang/Object"), (0, .class_ 3)] 3

/-- java/lang/Cloneable -/
def k3 : Class := { plain "java/lang/Cloneable" (some 0) with
  accessFlags := 1537
  interfaces := #[]
  cf := some (fileOf pool3 2 #[] #[] 1537 4 #[] #[])
  fields := #[]
  methods := #[]
  instanceTypes := #[]
  staticTypes := #[]
  resolved := Array.replicate 8 none
  statics := none }

def pool4 : Array CpInfo := pool [(1, u "java/io/Serializable"), (0, .class_ 1), (0, u "java/lang/Object"), (0, .class_ 3)] 3

/-- java/io/Serializable -/
def k4 : Class := { plain "java/io/Serializable" (some 0) with
  accessFlags := 1537
  interfaces := #[]
  cf := some (fileOf pool4 2 #[] #[] 1537 4 #[] #[])
  fields := #[]
  methods := #[]
  instanceTypes := #[]
  staticTypes := #[]
  resolved := Array.replicate 8 none
  statics := none }

/-- the primitive byte -/
def k5 : Class := { plain "byte" none with kind := .primitive 'B', accessFlags := 0x411 }
/-- [B -/
def k6 : Class := { plain "[B" (some 0) with kind := .array 5 .byte, interfaces := #[3, 4], accessFlags := 1041 }

/-- the primitive int -/
def k7 : Class := { plain "int" none with kind := .primitive 'I', accessFlags := 0x411 }
/-- [I -/
def k8 : Class := { plain "[I" (some 0) with kind := .array 7 .int, interfaces := #[3, 4], accessFlags := 1041 }

def heap : Heap := #[]
def classes : Array Class := #[k0, k1, k2, k3, k4, k5, k6, k7, k8]
def interned : List (Array UInt16 × Addr) := []
def slotsUsed : Nat := 0
def theMethod : MethodId := ⟨1, 2⟩
def args0 : Array Value := #[.int 5, .int 7]
def aboutOver (below : List Frame) : State where
  vm := { classes := classes, interned := interned.toArray }
  heap := heap
  slotsUsed := slotsUsed
  threads := #[{ frames := .invoking theMethod args0 :: below }]
def below0 : List Frame := [.native { method := ⟨0, 0⟩, args := #[] }]
def about1 : State := aboutOver below0
def p0 : Program := .bare "" "" ""
def e0 : Env := launch0.env 0 0 0
theorem w_frames : about1.frames = Frame.invoking theMethod args0 :: below0 := rfl
set_option maxRecDepth 65536 in
theorem w_args : argsFit about1.vm theMethod args0 = true := by decide +kernel
set_option maxRecDepth 65536 in
theorem w_heap : heapFits about1 = true := by decide +kernel
set_option maxRecDepth 65536 in
theorem w_runnable : about1.curStatus? = some .runnable := by decide +kernel
set_option maxRecDepth 65536 in
theorem w_alone : about1.alone = true := by decide +kernel
set_option maxRecDepth 65536 in
theorem w_named : about1.methodNamed? x = some theMethod := by decide +kernel
set_option maxRecDepth 65536 in
theorem w_hears : about1.hears theMethod below0 = true := by decide +kernel
set_option maxRecDepth 65536 in
theorem w_ripe : about1.ripe theMethod args0 below0 = true := by decide +kernel
theorem w_running : about1.status = .running := rfl
set_option maxRecDepth 65536 in
theorem w_room : about1.hasRoom e0.platform room_1 = true :=
  launch0.hasRoom_least _ room_1 (by decide +kernel) (by decide +kernel) (by decide +kernel) (by decide +kernel) (by decide +kernel) (by decide +kernel)
theorem allAtoms_all (ts : List Jvm.Cond) (a : Array Jvm.Value) (st : Jvm.State) : (allAtoms ts).before a st = ts.all (fun c => c.before a st) := by
  induction ts with
  | nil => rfl
  | cons c t ih =>
    show (Jvm.Cond.and c (allAtoms t)).before a st = _
    rw [Jvm.Cond.before_and, ih, List.all_cons]
def words1 : List Jvm.Cond := Jvm.Cond.code x code maxLocals ret :: tables_1
/-- a 'code' word, met by the world's own term for the bytes: nothing is compared byte by byte -/
theorem code_word {y : MethodName} {bytes : ByteArray} {mx : Nat} {rt : Option FieldType} {a : Array Value} {s : State} {m : MethodId} {meth : Method} {c : Code} (h1 : s.methodNamed? y = some m) (h2 : s.vm.method? m = some meth) (h3 : meth.code = some c) (h4 : c.code = bytes)
    (h5 : (c.maxLocals == mx && c.exceptionTable.isEmpty && decide (c.maxStack ≤ mostOperands) && decide (meth.sig.returnType = rt) && !meth.locks && decide (parseMethodDescriptor y.desc = some meth.sig)) = true) : (Jvm.Cond.code y bytes mx rt).before a s = true := by
  simp only [Bool.and_eq_true, beq_iff_eq, Bool.not_eq_true', decide_eq_true_eq] at h5
  obtain ⟨⟨⟨⟨⟨g1, g2⟩, g3⟩, g4⟩, g5⟩, g6⟩ := h5
  simp [Cond.before, Cond.holds, Cond.value, h1, h2, h3, h4, g1, g2, g3, g4, g5, g6]
def isCode : Jvm.Cond → Bool
  | .code _ _ _ _ => true
  | _ => false
theorem all_split {L : List Jvm.Cond} {P : Jvm.Cond → Bool} (h1 : L.all (fun c => isCode c || P c) = true) (h2 : ∀ c ∈ L.filter isCode, P c = true) : L.all P = true := by
  refine List.all_eq_true.mpr fun c hc => ?_
  have h := List.all_eq_true.mp h1 c hc
  rcases Bool.eq_false_or_eq_true (isCode c) with hi | hi
  · exact h2 c (List.mem_filter.mpr ⟨hc, hi⟩)
  · simpa [hi] using h
set_option maxRecDepth 65536 in
theorem w_c0 : (Jvm.Cond.code x code maxLocals ret).before args0 about1 = true := code_word (m := ⟨1, 2⟩) (meth := k1m2) (c := k1c2) (by decide +kernel) rfl rfl rfl (by decide +kernel)
set_option maxRecDepth 65536 in
theorem w_c1 : (Jvm.Cond.code ({ cls := "com/example/lockward/lockward/Protocol", name := "exitStatusOfError", desc := "(I)I" } : Jvm.MethodName) prog_78_method_23_code (1 : Nat) (Option.some Jvm.ClassFile.FieldType.int)).before args0 about1 = true := code_word (m := ⟨2, 1⟩) (meth := k2m1) (c := k2c1) (by decide +kernel) rfl rfl rfl (by decide +kernel)
set_option maxRecDepth 65536 in
theorem w_c2 : (Jvm.Cond.code ({ cls := "com/example/lockward/lockward/ProtocolExitStatusOfErrorPinLaw", name := "expected", desc := "(I)I" } : Jvm.MethodName) method_2_code (1 : Nat) (Option.some Jvm.ClassFile.FieldType.int)).before args0 about1 = true := code_word (m := ⟨1, 1⟩) (meth := k1m1) (c := k1c1) (by decide +kernel) rfl rfl rfl (by decide +kernel)
def codes1 : List Jvm.Cond := [Jvm.Cond.code x code maxLocals ret, Jvm.Cond.code ({ cls := "com/example/lockward/lockward/Protocol", name := "exitStatusOfError", desc := "(I)I" } : Jvm.MethodName) prog_78_method_23_code (1 : Nat) (Option.some Jvm.ClassFile.FieldType.int), Jvm.Cond.code ({ cls := "com/example/lockward/lockward/ProtocolExitStatusOfErrorPinLaw", name := "expected", desc := "(I)I" } : Jvm.MethodName) method_2_code (1 : Nat) (Option.some Jvm.ClassFile.FieldType.int)]
set_option maxRecDepth 65536 in
theorem codes_eq : words1.filter isCode = codes1 := rfl
theorem w_codes : ∀ c ∈ words1.filter isCode, c.before args0 about1 = true := by
  rw [codes_eq]
  intro c hc
  simp only [codes1, List.mem_cons, List.not_mem_nil, or_false] at hc
  rcases hc with rfl | rfl | rfl
  · exact w_c0
  · exact w_c1
  · exact w_c2
set_option maxRecDepth 65536 in
theorem w_t1 : words1.all (fun c => isCode c || c.before args0 about1) = true := by decide +kernel
theorem w_tables : (allAtoms (Jvm.Cond.code x code maxLocals ret :: tables_1)).before args0 about1 = true := by
  rw [allAtoms_all]
  show words1.all (fun c => c.before args0 about1) = true
  refine all_split ?_ w_codes
  rw [w_t1]
set_option maxRecDepth 65536 in
theorem w_case : (Jvm.Cond.and given_1 narrow_1).before args0 about1 = true := by decide +kernel
theorem w_applies : (headSpec (Jvm.Cond.code x code maxLocals ret :: tables_1) room_1).applies x e0.platform about1 = true :=
  (Spec.applies_iff w_frames).mpr ⟨w_running, w_runnable, w_alone, w_named, w_hears, w_ripe, w_room, w_tables⟩
theorem atStart : AtStart classFile x code maxLocals ret World_1 tables_1 room_1 Calls_1 rest_1 Pre_1 launch0 p0 e0 about1 theMethod args0 below0 :=
  ⟨lists_1, trivial, launch0.admits_env _ _ _, launch0.least_env, fairChoices_fair.cas, fairChoices_fair.clock, w_frames, w_args, w_heap, w_applies, trivial, trivial, w_case⟩
end start1
theorem witness_1 : WitnessClaimed_1 := ⟨start1.p0, start1.e0, start1.about1, start1.theMethod, start1.args0, start1.below0, start1.atStart⟩
end Jvm.Pilot.@@N@@
