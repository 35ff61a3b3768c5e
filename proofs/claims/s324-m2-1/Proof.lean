import JvmDerived
import JvmDerived.Pilot.@@N@@Statement
import JvmDerived.Pilot.@@N@@Code
set_option linter.unusedVariables false
set_option linter.unusedSimpArgs false
namespace Jvm.RoadKit
open Sem ClassFile Op Lib Jvm.Stand Jvm.Free Jvm.LawKit
section OwnKit
variable {p : Program} {l : Launch} {e : Env} {R : Room} {s : State} {m : MethodId} {args : Array Value} {below : List Frame} {meth : Method} {c : Code} {T : State} {locs : List Loc} {cells slots : Nat}
/-- a boolean as the machine's int -/
def b2i (b : Bool) : Int32 := bif b then 1 else 0
theorem b2i_t {b : Bool} (h : b = true) : ¬ b2i b = 0 := by subst h; decide
theorem b2i_f {b : Bool} (h : ¬ b = true) : b2i b = 0 := by cases b <;> first | rfl | exact absurd rfl h
theorem b2i_inj {a b : Bool} (h : b2i a = b2i b) : a = b := by cases a <;> cases b <;> first | rfl | exact absurd h (by decide)
theorem nar_b2i (b : Bool) : nar .boolean (b2i b) = b2i b := by cases b <;> decide
/-- from the state U the walk comes to an end that P holds of -/
def Go (tb : Tables) (e : Env) (below : List Frame) (P : Outcome → State → Prop) (U : State) : Prop := ∃ s₂ o, Steps tb e below U s₂ ∧ s₂.status = .running ∧ Ended s₂ below o ∧ P o s₂
theorem Go.back {tb : Tables} {P : Outcome → State → Prop} {U V : State} (h : ∀ t, Steps tb e below V t → Steps tb e below U t) (k : Go tb e below P V) : Go tb e below P U := by
  obtain ⟨s2, o, h1, h2⟩ := k
  exact ⟨s2, o, h _ h1, h2⟩
theorem Go.trans {tb : Tables} {P : Outcome → State → Prop} {U V : State} (h : Steps tb e below U V) (k : Go tb e below P V) : Go tb e below P U := by
  obtain ⟨s2, o, h1, h2⟩ := k
  exact ⟨s2, o, Steps.trans h h1, h2⟩
abbrev Fin (s : State) (Q : Option Value → Heap → List Loc → Prop) (K S : Nat) : Outcome → State → Prop := fun o U' => ∃ v L, o = .returned v ∧ Q v U'.heap L ∧ FrameEnd s o U' L K S
theorem retI0 (X : Stand p l e R s m args below meth c T locs cells slots) (hx : p.tables.exec = Jvm.exec) {pc : Nat} {Ls : Array Slot} {z : Int32} {rest : List Value} (hret : meth.sig.returnType = some .int) (hd : decode c.code pc = .ok (.ireturn, 1)) {fs : List Frame}
    (hl : ∀ (f : JFrame) (acts : List Action), f.method = m → f.locked = none → f.entered = [] → (doReturn e (T.setTop f) acts (some (.int z))).1 = T.setFrames fs) : Steps p.tables e below (T.setTop (mkF m pc Ls (.int z :: rest))) (T.setFrames fs) := by
  have hm' : T.vm.method? m = some meth := X.method'
  have hn : narrow .int (.int z) = .int z := rfl
  show Steps p.tables e below (T.setTop { method := m, pc := pc, locals := Ls, stack := _ :: rest, locked := none }) _
  jvm_step X.here [X.here.top, hx, hd, hm', hret, hn]
  first | (intro acts; rw [hl _ acts rfl rfl rfl]) | rw [hl _ _ rfl rfl rfl]
  exact Steps.refl _
theorem Go.retI (X : Stand p l e R s m args below meth c T locs cells slots) (hx : p.tables.exec = Jvm.exec) {pc : Nat} {Ls : Array Slot} {z : Int32} {rest : List Value} (hret : meth.sig.returnType = some .int) (hd : decode c.code pc = .ok (.ireturn, 1)) (hlk : meth.locks = false) {Q : Option Value → Heap → List Loc → Prop} {K S : Nat} (hQ : Q (some (.int z)) T.heap locs) (hc : cells ≤ K) (hs : slots ≤ S) :
    Go p.tables e below (Fin s Q K S) (T.setTop (mkF m pc Ls (.int z :: rest))) := by
  obtain ⟨fs, hr, hrun, hended, hW, hsame⟩ := X.leave (v := some (.int z)) (fun h => by rw [hret] at h; cases h) hlk
  exact ⟨_, _, retI0 X hx hret hd hr, hrun, hended, _, _, rfl, hQ, ⟨_, rfl⟩, hW, hsame.mono hc hs⟩
theorem Go.retN (X : Stand p l e R s m args below meth c T locs cells slots) (hx : p.tables.exec = Jvm.exec) {pc : Nat} {Ls : Array Slot} {z : Int32} {rest : List Value} {t : FieldType} (hret : meth.sig.returnType = some t) (ht : t = .boolean ∨ t = .byte ∨ t = .char ∨ t = .short) (hd : decode c.code pc = .ok (.ireturn, 1)) (hlk : meth.locks = false) {Q : Option Value → Heap → List Loc → Prop} {K S : Nat} (hQ : Q (some (.int (nar t z))) T.heap locs) (hc : cells ≤ K) (hs : slots ≤ S) :
    Go p.tables e below (Fin s Q K S) (T.setTop (mkF m pc Ls (.int z :: rest))) := by
  obtain ⟨fs, hr, hrun, hended, hW, hsame⟩ := X.leave (v := some (.int (nar t z))) (fun h => by rw [hret] at h; cases h) hlk
  exact ⟨_, _, Jvm.RoadKit.retN X hx hret ht hd hr, hrun, hended, _, _, rfl, hQ, ⟨_, rfl⟩, hW, hsame.mono hc hs⟩
theorem Go.retB (X : Stand p l e R s m args below meth c T locs cells slots) (hx : p.tables.exec = Jvm.exec) {pc : Nat} {Ls : Array Slot} {b : Bool} {rest : List Value} (hret : meth.sig.returnType = some .boolean) (hd : decode c.code pc = .ok (.ireturn, 1)) (hlk : meth.locks = false) {Q : Option Value → Heap → List Loc → Prop} {K S : Nat} (hQ : Q (some (.int (b2i b))) T.heap locs) (hc : cells ≤ K) (hs : slots ≤ S) :
    Go p.tables e below (Fin s Q K S) (T.setTop (mkF m pc Ls (.int (b2i b) :: rest))) := Go.retN X hx hret (Or.inl rfl) hd hlk (by rw [nar_b2i]; exact hQ) hc hs
theorem Go.retJ (X : Stand p l e R s m args below meth c T locs cells slots) (hx : p.tables.exec = Jvm.exec) {pc : Nat} {Ls : Array Slot} {z : Int64} (hret : meth.sig.returnType = some .long) (hd : decode c.code pc = .ok (.lreturn, 1)) (hlk : meth.locks = false) {Q : Option Value → Heap → List Loc → Prop} {K S : Nat} (hQ : Q (some (.long z)) T.heap locs) (hc : cells ≤ K) (hs : slots ≤ S) :
    Go p.tables e below (Fin s Q K S) (T.setTop (mkF m pc Ls [.long z])) := by
  obtain ⟨fs, hr, hrun, hended, hW, hsame⟩ := X.leave (v := some (.long z)) (fun h => by rw [hret] at h; cases h) hlk
  exact ⟨_, _, X.lreturnOut hx hret hd hr, hrun, hended, _, _, rfl, hQ, ⟨_, rfl⟩, hW, hsame.mono hc hs⟩
theorem Go.retR (X : Stand p l e R s m args below meth c T locs cells slots) (hx : p.tables.exec = Jvm.exec) {pc : Nat} {Ls : Array Slot} {a : Addr} {t : FieldType} (hret : meth.sig.returnType = some t) (ht : t.isReference = true) (hd : decode c.code pc = .ok (.areturn, 1)) (hlk : meth.locks = false) {Q : Option Value → Heap → List Loc → Prop} {K S : Nat} (hQ : Q (some (.ref a)) T.heap locs) (hc : cells ≤ K) (hs : slots ≤ S) :
    Go p.tables e below (Fin s Q K S) (T.setTop (mkF m pc Ls [.ref a])) := by
  obtain ⟨fs, hr, hrun, hended, hW, hsame⟩ := X.leave (v := some (.ref a)) (fun h => by rw [hret] at h; cases h) hlk
  exact ⟨_, _, X.areturnOut hx rfl hret ht hd hr, hrun, hended, _, _, rfl, hQ, ⟨_, rfl⟩, hW, hsame.mono hc hs⟩
theorem Go.retV (X : Stand p l e R s m args below meth c T locs cells slots) (hx : p.tables.exec = Jvm.exec) {pc : Nat} {Ls : Array Slot} (hret : meth.sig.returnType = none) (hd : decode c.code pc = .ok (.return_, 1)) (hlk : meth.locks = false) {Q : Option Value → Heap → List Loc → Prop} {K S : Nat} (hQ : Q none T.heap locs) (hc : cells ≤ K) (hs : slots ≤ S) :
    Go p.tables e below (Fin s Q K S) (T.setTop (mkF m pc Ls [])) := by
  obtain ⟨fs, hr, hrun, hended, hW, hsame⟩ := X.leave (v := none) (fun _ => rfl) hlk
  exact ⟨_, _, X.returnOut hx hret hd hr, hrun, hended, _, _, rfl, hQ, ⟨_, rfl⟩, hW, hsame.mono hc hs⟩
theorem lremM {g : JFrame} {target : State} (X : Stand p l e R s m args below meth c T locs cells slots) (hx : p.tables.exec = Jvm.exec) (hg : g.method = m) {x y : Int64} {rest : List Value} (hd : decode c.code g.pc = .ok (.lrem, 1)) (hs : g.stack = .long y :: .long x :: rest) (hy : y ≠ 0)
    (hr : Steps p.tables e below (T.setTop { g with pc := g.pc + 1, stack := .long (x % y) :: rest }) target) : Steps p.tables e below (T.setTop g) target :=
  XS.lrem X.here hx hg hd hs hy (by rw [lrem_mod x y]; exact hr)
theorem storeS_i {ls l' : Array Slot} {k : Nat} {o : Slot} {x : Int32} (hold : ls[k]? = some o) (h : One o) (q : ls.setIfInBounds k (.val (.int x)) = l') : storeLocals ls k (.int x) = some l' := by
  rw [XS.store1 hold h rfl, q]
theorem storeS_a {ls l' : Array Slot} {k : Nat} {o : Slot} {a : Addr} (hold : ls[k]? = some o) (h : One o) (q : ls.setIfInBounds k (.val (.ref a)) = l') : storeLocals ls k (.ref a) = some l' := by
  rw [XS.store1 hold h rfl, q]
end OwnKit
section OwnArr
variable {p : Program} {l : Launch} {e : Env} {R : Room} {s : State} {m : MethodId} {args : Array Value} {below : List Frame} {meth : Method} {c : Code} {T : State} {locs : List Loc} {cells slots : Nat} {Z : State} {h h' : Heap} {a b : Addr} {ty : FieldType} {vs : List Value} {v : Value} {sl : Nat} {ws : List Addr}
/-- the array at a, of the kind ty, holds just this list -/
def ArL (Z : State) (h : Heap) (a : Addr) (ty : FieldType) (vs : List Value) : Prop := ∃ c : Cell, Arr Z h a c ty ∧ c.slots.toList = vs
theorem ArL.lt (F : ArL Z h a ty vs) : a < h.size := by obtain ⟨c, A, -⟩ := F; exact A.lt
theorem ArL.ext (F : ArL Z h a ty vs) (E : Ext h h') : ArL Z h' a ty vs := by obtain ⟨c, A, r⟩ := F; exact ⟨c, A.ext E, r⟩
theorem ArL.other (F : ArL Z h b ty vs) (W : Wr h h' a sl v) (q : b ≠ a) : ArL Z h' b ty vs := by obtain ⟨c, A, r⟩ := F; exact ⟨c, A.other W q, r⟩
theorem ArL.keep (F : ArL Z h a ty vs) (K : Keep h h' ws) (q : a ∉ ws) : ArL Z h' a ty vs := by obtain ⟨c, A, r⟩ := F; exact ⟨c, ⟨K.2.1 a c A.1 q, A.2⟩, r⟩
theorem ArL.new {k : ClassId} {z : Int32} (A : Arr Z h a (newA k ty z) ty) {n : Nat} (q : z.toNatClampNeg = n) : ArL Z h a ty (List.replicate n (defaultValue ty)) := ⟨_, A, by subst q; simp [newA]⟩
theorem ArL.set (F : ArL Z h a ty vs) (W : Wr h h' a sl v) : ArL Z h' a ty (vs.set sl v) := by
  obtain ⟨c, A, r⟩ := F
  exact ⟨_, A.same W, by subst r; simp [Cell.setSlot]⟩
/-- a place of it: what a load and a store ask -/
theorem ArL.at (F : ArL Z h a ty vs) {j : Int32} (h0 : ¬ j < 0) (hj : j.toNatClampNeg < vs.length) : ∃ c : Cell, Arr Z h a c ty ∧ ¬ (j < 0 ∨ c.slots.size ≤ j.toNatClampNeg) ∧ c.slots[j.toNatClampNeg]? = some (vs[j.toNatClampNeg]'hj) := by
  obtain ⟨c, A, rfl⟩ := F
  have q : j.toNatClampNeg < c.slots.size := by simpa using hj
  refine ⟨c, A, fun z => z.elim h0 (fun y => absurd q (Nat.not_lt.mpr y)), ?_⟩
  rw [Array.getElem?_eq_getElem q]
  simp
theorem ArL.get (F : ArL Z h a ty vs) {j : Int32} (h0 : ¬ j < 0) (hv : vs[j.toNatClampNeg]? = some v) : ∃ c : Cell, Arr Z h a c ty ∧ ¬ (j < 0 ∨ c.slots.size ≤ j.toNatClampNeg) ∧ c.slots[j.toNatClampNeg]? = some v := by
  obtain ⟨hj, rfl⟩ := List.getElem?_eq_some_iff.mp hv
  exact F.at h0 hj
theorem ArL.setI {xs : List Int32} {x : Int32} {i : Nat} (F : ArL Z h a ty (List.map Value.int xs)) (W : Wr h h' a i (.int x)) : ArL Z h' a ty (List.map Value.int (xs.set i x)) := by
  rw [List.map_set]; exact F.set W
theorem ArL.setJ {xs : List Int64} {x : Int64} {i : Nat} (F : ArL Z h a ty (List.map Value.long xs)) (W : Wr h h' a i (.long x)) : ArL Z h' a ty (List.map Value.long (xs.set i x)) := by
  rw [List.map_set]; exact F.set W
theorem ArL.newI {k : ClassId} {z : Int32} (A : Arr Z h a (newA k ty z) ty) {n : Nat} (q : z.toNatClampNeg = n) (hd : defaultValue ty = .int 0 := by rfl) : ArL Z h a ty (List.map Value.int (List.replicate n (0 : Int32))) := by
  rw [List.map_replicate, ← hd]; exact ArL.new A q
theorem ArL.newJ {k : ClassId} {z : Int32} (A : Arr Z h a (newA k ty z) ty) {n : Nat} (q : z.toNatClampNeg = n) (hd : defaultValue ty = .long 0 := by rfl) : ArL Z h a ty (List.map Value.long (List.replicate n (0 : Int64))) := by
  rw [List.map_replicate, ← hd]; exact ArL.new A q
theorem getI (xs : List Int32) {i : Nat} (q : i < xs.length) : (List.map Value.int xs)[i]? = some (.int (xs.getD i 0)) := by
  rw [List.getElem?_map, List.getD_eq_getElem?_getD, List.getElem?_eq_getElem q]; rfl
theorem getJ (xs : List Int64) {i : Nat} (q : i < xs.length) : (List.map Value.long xs)[i]? = some (.long (xs.getD i 0)) := by
  rw [List.getElem?_map, List.getD_eq_getElem?_getD, List.getElem?_eq_getElem q]; rfl
theorem ArL.len (F : ArL Z h a ty vs) : ∃ c : Cell, Arr Z h a c ty ∧ c.slots.size = vs.length := by
  obtain ⟨c, A, rfl⟩ := F
  exact ⟨c, A, by simp⟩
end OwnArr
end Jvm.RoadKit
namespace Jvm.Pilot.@@N@@
open Jvm Jvm.ClassFile Sem Op Lib Jvm.Free Jvm.Stand Jvm.LawKit Jvm.RoadKit Bundle Jvm.Pilot.@@N@@.Jvm.D
theorem pd_0 : parseMethodDescriptor "()V" = some ⟨[], none⟩ := by decide +kernel
theorem pd_1 : parseMethodDescriptor "(II)I" = some ⟨[.int, .int], some .int⟩ := by decide +kernel
theorem pd_2 : parseMethodDescriptor "(IJIIJ)V" = some ⟨[.int, .long, .int, .int, .long], none⟩ := by decide +kernel
theorem pd_3 : parseMethodDescriptor "(I)I" = some ⟨[.int], some .int⟩ := by decide +kernel
theorem d1_0 : decode jdk_29_method_65_code 0 = .ok (.iload_n 0, 1) := by decide +kernel
theorem d1_1 : decode jdk_29_method_65_code 1 = .ok (.iload_n 1, 1) := by decide +kernel
theorem d1_2 : decode jdk_29_method_65_code 2 = .ok (.if_icmp .lt 7, 3) := by decide +kernel
theorem d1_5 : decode jdk_29_method_65_code 5 = .ok (.iload_n 0, 1) := by decide +kernel
theorem d1_6 : decode jdk_29_method_65_code 6 = .ok (.goto 4, 3) := by decide +kernel
theorem d1_9 : decode jdk_29_method_65_code 9 = .ok (.iload_n 1, 1) := by decide +kernel
theorem d1_10 : decode jdk_29_method_65_code 10 = .ok (.ireturn, 1) := by decide +kernel
def f1 (p0 : Int32) (p1 : Int32) : Int32 := (let z3 : Int32 := (if p0 < p1 then p1 else p0); z3)
def Q1 (p0 : Int32) (p1 : Int32) (h0 : Heap) (n0 : Nat) (v : Option Value) (h : Heap) (L : List Loc) : Prop := v = some (.int (f1 p0 p1)) ∧ Fr n0 L ∧ h = h0
abbrev rmm1 : Room := { frames := 0, cells := 0, slots := 0, locals := 0 }
abbrev P1 (p0 : Int32) (p1 : Int32) (h0 : Heap) (n0 : Nat) (s : State) : Outcome → State → Prop := fun o U' => ∃ v L, o = .returned v ∧ Q1 p0 p1 h0 n0 v U'.heap L ∧ FrameEnd s o U' L rmm1.cells rmm1.slots
theorem ef_1 (m : MethodId) (p0 : Int32) (p1 : Int32) : entryFrame m #[(.int p0), (.int p1)] 2 = mkF m 0 #[.val (.int p0), .val (.int p1)] [] := by first | (simp [entryFrame, mkF, argsToLocals, Value.category]; done) | rfl
set_option maxRecDepth 65536 in
set_option maxHeartbeats 40000000 in
theorem rm1 (l : Launch) (Z : State) (a0 : Array Value) (hw : ∀ d ∈ tables_1, d.before a0 Z = true) (ws : List Jvm.Cond) (p0 : Int32) (p1 : Int32) (h0 : Heap) (n0 : Nat) :
    MetFree l (⟨"java/lang/Math", "max", "(II)I"⟩ : MethodName) (head1 (Jvm.Cond.code (⟨"java/lang/Math", "max", "(II)I"⟩ : MethodName) jdk_29_method_65_code 2 (some .int) :: ws) rmm1) (fun a U => a = #[(.int p0), (.int p1)] ∧ Z.Warmed39 U.vm ∧ U.heap = h0) (fun _ _ _ _ _ => True) (fun _ U o U' => ∃ v L, o = .returned v ∧ Q1 p0 p1 h0 n0 v U'.heap L ∧ FrameEnd U o U' L rmm1.cells rmm1.slots) := by
  refine MetFree.of_bodySF (Jvm.Free.JP.mathPlain rfl (by decide +kernel)) hisR ?_
  intro p e s m args below meth c s₁ Bd hml0 hP hK
  obtain ⟨rfl, hZ, hh⟩ := hP
  have hx := Bd.exec
  have hby := Bd.bytes
  have hml : c.maxLocals = 2 := hml0
  have hown : s.vm.findClass "java/lang/Math" = some m.cls := findClass_of_methodNamed Bd.named
  have hnm := (name_of_methodNamed Bd.named Bd.method).1
  have X0 : Stand p l e rmm1 s m #[(.int p0), (.int p1)] below meth c s₁ [] 0 0 := Stand.of_body Bd
  have e0 : s₁.heap = h0 := by rw [← hh, Bd.state]; rfl
  have N0 := Fr.nil n0
  show Go p.tables e below (P1 p0 p1 h0 n0 s) (s₁.setTop (entryFrame m #[(.int p0), (.int p1)] 2))
  refine Go.back (fun t k => castTop (ef_1 m p0 p1) k) ?_
  show Go p.tables e below (P1 p0 p1 h0 n0 s) (s₁.setTop (mkF m 0 #[.val (.int p0), .val (.int p1)] []))
  have hf : f1 p0 p1 = (let z3 : Int32 := (if p0 < p1 then p1 else p0); z3) := rfl
  refine Go.back (fun t k => XS.iloadN X0.here hx rfl (hb hby d1_0) rfl  k) ?_
  show Go p.tables e below (P1 p0 p1 h0 n0 s) (s₁.setTop (mkF m 1 #[.val (.int p0), .val (.int p1)] [(.int p0)]))
  refine Go.back (fun t k => XS.iloadN X0.here hx rfl (hb hby d1_1) rfl  k) ?_
  show Go p.tables e below (P1 p0 p1 h0 n0 s) (s₁.setTop (mkF m 2 #[.val (.int p0), .val (.int p1)] [(.int p1), (.int p0)]))
  have J2 : ∀ (z3 : Int32) (hz3 : z3 = (if p0 < p1 then p1 else p0)), Go p.tables e below (P1 p0 p1 h0 n0 s) (s₁.setTop (mkF m 10 #[.val (.int p0), .val (.int p1)] [(.int z3)])) := by
    intro z3 hz3
    have r4 : f1 p0 p1 = z3 := by subst hz3; exact hf
    show Go p.tables e below (P1 p0 p1 h0 n0 s) (s₁.setTop (mkF m 10 #[.val (.int p0), .val (.int p1)] [(.int z3)]))
    exact Go.retI X0 hx Bd.returns (hb hby d1_10) Bd.notSynchronized ⟨by rw [r4], N0, e0⟩ (by decide) (by decide)
  have r5 : (if p0 < p1 then p1 else p0) = (if p0 < p1 then p1 else p0) := rfl
  by_cases hc1 : p0 < p1
  · have r6 := r5.trans (if_pos hc1)
    refine Go.back (fun t k => XS.icmpYes X0.here hx rfl (pc0 := 2) (pc' := 9) rfl (hb hby d1_2) rfl (tlt hc1).1 (by decide) (by decide) k) ?_
    show Go p.tables e below (P1 p0 p1 h0 n0 s) (s₁.setTop (mkF m 9 #[.val (.int p0), .val (.int p1)] []))
    refine Go.back (fun t k => XS.iloadN X0.here hx rfl (hb hby d1_9) rfl  k) ?_
    show Go p.tables e below (P1 p0 p1 h0 n0 s) (s₁.setTop (mkF m 10 #[.val (.int p0), .val (.int p1)] [(.int p1)]))
    exact J2 p1 r6.symm
  · have r7 := r5.trans (if_neg hc1)
    refine Go.back (fun t k => XS.icmpNo X0.here hx rfl (hb hby d1_2) rfl (flt hc1).1 k) ?_
    show Go p.tables e below (P1 p0 p1 h0 n0 s) (s₁.setTop (mkF m 5 #[.val (.int p0), .val (.int p1)] []))
    refine Go.back (fun t k => XS.iloadN X0.here hx rfl (hb hby d1_5) rfl  k) ?_
    show Go p.tables e below (P1 p0 p1 h0 n0 s) (s₁.setTop (mkF m 6 #[.val (.int p0), .val (.int p1)] [(.int p0)]))
    refine Go.back (fun t k => XS.goto X0.here hx rfl (pc0 := 6) (pc' := 10) rfl (hb hby d1_6) (by decide) (by decide) k) ?_
    show Go p.tables e below (P1 p0 p1 h0 n0 s) (s₁.setTop (mkF m 10 #[.val (.int p0), .val (.int p1)] [(.int p0)]))
    exact J2 p0 r7.symm
theorem d3_0 : decode jdk_30_method_1_code 0 = .ok (.aload_n 0, 1) := by decide +kernel
theorem d3_1 : decode jdk_30_method_1_code 1 = .ok (.invokespecial 1, 3) := by decide +kernel
theorem d3_4 : decode jdk_30_method_1_code 4 = .ok (.return_, 1) := by decide +kernel
def Q3 (Z : State) (p0 : Addr) (h0 : Heap) (n0 : Nat) (v : Option Value) (h : Heap) (L : List Loc) : Prop := v = none ∧ Fr n0 L ∧ Keep h0 h []
abbrev rmm3 : Room := { frames := 1, cells := 0, slots := 0, locals := 12 }
abbrev P3 (Z : State) (p0 : Addr) (h0 : Heap) (n0 : Nat) (s : State) : Outcome → State → Prop := fun o U' => ∃ v L, o = .returned v ∧ Q3 Z p0 h0 n0 v U'.heap L ∧ FrameEnd s o U' L rmm3.cells rmm3.slots
theorem pn_3 : plainName "java/lang/Record" = true := by first | (simp [plainName, overriddenIn]; done) | decide +kernel
theorem ef_3 (m : MethodId) (p0 : Addr) : entryFrame m #[(.ref p0)] 1 = mkF m 0 #[.val (.ref p0)] [] := by first | (simp [entryFrame, mkF, argsToLocals, Value.category]; done) | rfl
set_option maxRecDepth 65536 in
set_option maxHeartbeats 40000000 in
theorem rm3 (l : Launch) (Z : State) (a0 : Array Value) (hw : ∀ d ∈ tables_1, d.before a0 Z = true) (ws : List Jvm.Cond) (p0 : Addr) (h0 : Heap) (n0 : Nat) (Z0 : n0 ≤ h0.size) :
    MetFree l (⟨"java/lang/Record", "<init>", "()V"⟩ : MethodName) (head1 (Jvm.Cond.code (⟨"java/lang/Record", "<init>", "()V"⟩ : MethodName) jdk_30_method_1_code 1 none :: ws) rmm3) (fun a U => a = #[(.ref p0)] ∧ Z.Warmed39 U.vm ∧ U.heap = h0) (fun _ _ _ _ _ => True) (fun _ U o U' => ∃ v L, o = .returned v ∧ Q3 Z p0 h0 n0 v U'.heap L ∧ FrameEnd U o U' L rmm3.cells rmm3.slots) := by
  refine MetFree.of_bodySF (plainFor_of_name pn_3) hisR ?_
  intro p e s m args below meth c s₁ Bd hml0 hP hK
  obtain ⟨rfl, hZ, hh⟩ := hP
  have hx := Bd.exec
  have hby := Bd.bytes
  have hml : c.maxLocals = 1 := hml0
  have hown : s.vm.findClass "java/lang/Record" = some m.cls := findClass_of_methodNamed Bd.named
  have hnm := (name_of_methodNamed Bd.named Bd.method).1
  have X0 : Stand p l e rmm3 s m #[(.ref p0)] below meth c s₁ [] 0 0 := Stand.of_body Bd
  have e0 : s₁.heap = h0 := by rw [← hh, Bd.state]; rfl
  have N0 := Fr.nil n0
  show Go p.tables e below (P3 Z p0 h0 n0 s) (s₁.setTop (entryFrame m #[(.ref p0)] 1))
  refine Go.back (fun t k => castTop (ef_3 m p0) k) ?_
  show Go p.tables e below (P3 Z p0 h0 n0 s) (s₁.setTop (mkF m 0 #[.val (.ref p0)] []))
  refine Go.back (fun t k => XS.aloadN X0.here hx rfl (hb hby d3_0) rfl rfl  k) ?_
  show Go p.tables e below (P3 Z p0 h0 n0 s) (s₁.setTop (mkF m 1 #[.val (.ref p0)] [(.ref p0)]))
  obtain ⟨T1, X1, e1, st1⟩ := initO X0 hx hZ hown (hw _ (List.mem_of_getElem? (i := 16) rfl)) (hw _ (List.mem_of_getElem? (i := 17) rfl)) (hw _ (List.mem_of_getElem? (i := 18) rfl)) e0 (g := (mkF m 1 #[.val (.ref p0)] [(.ref p0)])) rfl (by rw [hml]; rfl) rfl (hb hby d3_1) (by decide) (W := 0) (by show 2 * 0 + _ ≤ _; exact Nat.le_of_eq rfl) (by decide)
  refine Go.back st1 ?_
  show Go p.tables e below (P3 Z p0 h0 n0 s) (T1.setTop (mkF m 4 #[.val (.ref p0)] []))
  exact Go.retV X1 hx Bd.returns (hb hby d3_4) Bd.notSynchronized ⟨rfl, N0, (by rw [e1]; exact (Keep.refl h0 []))⟩ (by decide) (by decide)
theorem d2_0 : decode prog_4_method_1_code 0 = .ok (.aload_n 0, 1) := by decide +kernel
theorem d2_1 : decode prog_4_method_1_code 1 = .ok (.invokespecial 1, 3) := by decide +kernel
theorem d2_4 : decode prog_4_method_1_code 4 = .ok (.iload_n 1, 1) := by decide +kernel
theorem d2_5 : decode prog_4_method_1_code 5 = .ok (.iconst 2, 1) := by decide +kernel
theorem d2_6 : decode prog_4_method_1_code 6 = .ok (.if_icmp .lt 20, 3) := by decide +kernel
theorem d2_9 : decode prog_4_method_1_code 9 = .ok (.lload_n 2, 1) := by decide +kernel
theorem d2_10 : decode prog_4_method_1_code 10 = .ok (.lconst 0, 1) := by decide +kernel
theorem d2_11 : decode prog_4_method_1_code 11 = .ok (.lcmp, 1) := by decide +kernel
theorem d2_12 : decode prog_4_method_1_code 12 = .ok (.ifCond .lt 14, 3) := by decide +kernel
theorem d2_15 : decode prog_4_method_1_code 15 = .ok (.iload 4, 2) := by decide +kernel
theorem d2_17 : decode prog_4_method_1_code 17 = .ok (.iconst 1, 1) := by decide +kernel
theorem d2_18 : decode prog_4_method_1_code 18 = .ok (.if_icmp .lt 8, 3) := by decide +kernel
theorem d2_21 : decode prog_4_method_1_code 21 = .ok (.iload 5, 2) := by decide +kernel
theorem d2_23 : decode prog_4_method_1_code 23 = .ok (.ifCond .ge 22, 3) := by decide +kernel
theorem d2_45 : decode prog_4_method_1_code 45 = .ok (.aload_n 0, 1) := by decide +kernel
theorem d2_46 : decode prog_4_method_1_code 46 = .ok (.iload_n 1, 1) := by decide +kernel
theorem d2_47 : decode prog_4_method_1_code 47 = .ok (.putfield 16, 3) := by decide +kernel
theorem d2_50 : decode prog_4_method_1_code 50 = .ok (.aload_n 0, 1) := by decide +kernel
theorem d2_51 : decode prog_4_method_1_code 51 = .ok (.lload_n 2, 1) := by decide +kernel
theorem d2_52 : decode prog_4_method_1_code 52 = .ok (.putfield 22, 3) := by decide +kernel
theorem d2_55 : decode prog_4_method_1_code 55 = .ok (.aload_n 0, 1) := by decide +kernel
theorem d2_56 : decode prog_4_method_1_code 56 = .ok (.iload 4, 2) := by decide +kernel
theorem d2_58 : decode prog_4_method_1_code 58 = .ok (.putfield 26, 3) := by decide +kernel
theorem d2_61 : decode prog_4_method_1_code 61 = .ok (.aload_n 0, 1) := by decide +kernel
theorem d2_62 : decode prog_4_method_1_code 62 = .ok (.iload 5, 2) := by decide +kernel
theorem d2_64 : decode prog_4_method_1_code 64 = .ok (.putfield 29, 3) := by decide +kernel
theorem d2_67 : decode prog_4_method_1_code 67 = .ok (.aload_n 0, 1) := by decide +kernel
theorem d2_68 : decode prog_4_method_1_code 68 = .ok (.lload 6, 2) := by decide +kernel
theorem d2_70 : decode prog_4_method_1_code 70 = .ok (.putfield 32, 3) := by decide +kernel
theorem d2_73 : decode prog_4_method_1_code 73 = .ok (.return_, 1) := by decide +kernel
def Q2 (Z : State) (p0 : Addr) (p1 : Int32) (p2 : Int64) (p3 : Int32) (p4 : Int32) (p5 : Int64) (h0 : Heap) (n0 : Nat) (v : Option Value) (h : Heap) (L : List Loc) : Prop := v = none ∧ Fr n0 L ∧ Keep h0 h [p0] ∧ Exa Z h p0 "com/example/strict_schedule/strictschedule/bench/Workload" ∧ Fld Z h p0 "com/example/strict_schedule/strictschedule/bench/Workload" "threads" "I" (.int p3) ∧ Fld Z h p0 "com/example/strict_schedule/strictschedule/bench/Workload" "transfers" "I" (.int p4)
abbrev rmm2 : Room := { frames := 2, cells := 0, slots := 0, locals := 24 }
abbrev P2 (Z : State) (p0 : Addr) (p1 : Int32) (p2 : Int64) (p3 : Int32) (p4 : Int32) (p5 : Int64) (h0 : Heap) (n0 : Nat) (s : State) : Outcome → State → Prop := fun o U' => ∃ v L, o = .returned v ∧ Q2 Z p0 p1 p2 p3 p4 p5 h0 n0 v U'.heap L ∧ FrameEnd s o U' L rmm2.cells rmm2.slots
theorem pn_2 : plainName "com/example/strict_schedule/strictschedule/bench/Workload" = true := by first | (simp [plainName, overriddenIn]; done) | decide +kernel
theorem ef_2 (m : MethodId) (p0 : Addr) (p1 : Int32) (p2 : Int64) (p3 : Int32) (p4 : Int32) (p5 : Int64) : entryFrame m #[(.ref p0), (.int p1), (.long p2), (.int p3), (.int p4), (.long p5)] 8 = mkF m 0 #[.val (.ref p0), .val (.int p1), .val (.long p2), .second, .val (.int p3), .val (.int p4), .val (.long p5), .second] [] := by first | (simp [entryFrame, mkF, argsToLocals, Value.category]; done) | rfl
set_option maxRecDepth 65536 in
set_option maxHeartbeats 40000000 in
theorem rm2 (l : Launch) (Z : State) (a0 : Array Value) (hw : ∀ d ∈ tables_1, d.before a0 Z = true) (ws : List Jvm.Cond) (p0 : Addr) (p1 : Int32) (p2 : Int64) (p3 : Int32) (p4 : Int32) (p5 : Int64) (h0 : Heap) (n0 : Nat) (Z0 : n0 ≤ h0.size) (H0 : Exa Z h0 p0 "com/example/strict_schedule/strictschedule/bench/Workload") (H1 : Fld Z h0 p0 "com/example/strict_schedule/strictschedule/bench/Workload" "accounts" "I" (.int (0 : Int32))) (H2 : Fld Z h0 p0 "com/example/strict_schedule/strictschedule/bench/Workload" "balance" "J" (.long (0 : Int64))) (H3 : Fld Z h0 p0 "com/example/strict_schedule/strictschedule/bench/Workload" "threads" "I" (.int (0 : Int32))) (H4 : Fld Z h0 p0 "com/example/strict_schedule/strictschedule/bench/Workload" "transfers" "I" (.int (0 : Int32))) (H5 : Fld Z h0 p0 "com/example/strict_schedule/strictschedule/bench/Workload" "seed" "J" (.long (0 : Int64))) (H6 : n0 ≤ p0) (a1 : ¬ p1 < (2 : Int32)) (a2 : ¬ p2 < (0 : Int64)) (a3 : ¬ p3 < (1 : Int32)) (a4 : ¬ p4 < (0 : Int32)) :
    MetFree l (⟨"com/example/strict_schedule/strictschedule/bench/Workload", "<init>", "(IJIIJ)V"⟩ : MethodName) (head1 (Jvm.Cond.code (⟨"com/example/strict_schedule/strictschedule/bench/Workload", "<init>", "(IJIIJ)V"⟩ : MethodName) prog_4_method_1_code 8 none :: ws) rmm2) (fun a U => a = #[(.ref p0), (.int p1), (.long p2), (.int p3), (.int p4), (.long p5)] ∧ Z.Warmed39 U.vm ∧ U.heap = h0) (fun _ _ _ _ _ => True) (fun _ U o U' => ∃ v L, o = .returned v ∧ Q2 Z p0 p1 p2 p3 p4 p5 h0 n0 v U'.heap L ∧ FrameEnd U o U' L rmm2.cells rmm2.slots) := by
  refine MetFree.of_bodySF (plainFor_of_name pn_2) hisR ?_
  intro p e s m args below meth c s₁ Bd hml0 hP hK
  obtain ⟨rfl, hZ, hh⟩ := hP
  have hx := Bd.exec
  have hby := Bd.bytes
  have hml : c.maxLocals = 8 := hml0
  have hown : s.vm.findClass "com/example/strict_schedule/strictschedule/bench/Workload" = some m.cls := findClass_of_methodNamed Bd.named
  have hnm := (name_of_methodNamed Bd.named Bd.method).1
  have X0 : Stand p l e rmm2 s m #[(.ref p0), (.int p1), (.long p2), (.int p3), (.int p4), (.long p5)] below meth c s₁ [] 0 0 := Stand.of_body Bd
  have e0 : s₁.heap = h0 := by rw [← hh, Bd.state]; rfl
  have N0 := Fr.nil n0
  show Go p.tables e below (P2 Z p0 p1 p2 p3 p4 p5 h0 n0 s) (s₁.setTop (entryFrame m #[(.ref p0), (.int p1), (.long p2), (.int p3), (.int p4), (.long p5)] 8))
  refine Go.back (fun t k => castTop (ef_2 m p0 p1 p2 p3 p4 p5) k) ?_
  show Go p.tables e below (P2 Z p0 p1 p2 p3 p4 p5 h0 n0 s) (s₁.setTop (mkF m 0 #[.val (.ref p0), .val (.int p1), .val (.long p2), .second, .val (.int p3), .val (.int p4), .val (.long p5), .second] []))
  refine Go.back (fun t k => XS.aloadN X0.here hx rfl (hb hby d2_0) rfl rfl  k) ?_
  show Go p.tables e below (P2 Z p0 p1 p2 p3 p4 p5 h0 n0 s) (s₁.setTop (mkF m 1 #[.val (.ref p0), .val (.int p1), .val (.long p2), .second, .val (.int p3), .val (.int p4), .val (.long p5), .second] [(.ref p0)]))
  obtain ⟨_, _, ⟨T1, L1, k1, n1⟩, -, X1, ⟨Lc1, hQ1, l1, y1, z1⟩, st1⟩ := X0.specialBack hx (y := (⟨"java/lang/Record", "<init>", "()V"⟩ : MethodName)) rfl hown (mvT hZ (hw _ (List.mem_of_getElem? (i := 11) rfl))) (mvT hZ (hw _ (List.mem_of_getElem? (i := 12) rfl))) (mvT hZ (hw _ (List.mem_of_getElem? (i := 15) rfl))) (by decide) (backOf (W := 0) (rm3 l Z a0 hw [] p0 h0 n0 Z0) hZ (hw _ (List.mem_of_getElem? (i := 15) rfl)) (hw _ (List.mem_of_getElem? (i := 14) rfl)) (by decide) (by decide)) (g := (mkF m 1 #[.val (.ref p0), .val (.int p1), .val (.long p2), .second, .val (.int p3), .val (.int p4), .val (.long p5), .second] [(.ref p0)])) rfl (by rw [hml]; rfl) (Steps.refl _) (a := p0) (argsL := []) (rest := []) (lenOf pd_0 rfl) rfl (by show 2 * 0 + _ ≤ _; exact Nat.le_of_eq rfl) (hb hby d2_1) (fun _ _ => ⟨rfl, e0, (by decide : 0 + 0 ≤ _), (by decide : 0 + 0 ≤ _)⟩)
  dsimp only [Pt.U, Pt.locs, Pt.cells, Pt.slots] at X1 l1 y1 z1 st1 hQ1
  subst l1 y1 z1
  obtain ⟨h1, e1⟩ : ∃ z, T1.heap = z := ⟨_, rfl⟩
  rw [e1] at hQ1
  obtain ⟨rfl, N1q, K1⟩ := hQ1
  have N1 := Fr.app N0 N1q
  have F2 : Exa Z h1 p0 "com/example/strict_schedule/strictschedule/bench/Workload" := H0.keep K1
  have F3 : Fld Z h1 p0 "com/example/strict_schedule/strictschedule/bench/Workload" "accounts" "I" (.int (0 : Int32)) := H1.keep K1 nin0
  have F4 : Fld Z h1 p0 "com/example/strict_schedule/strictschedule/bench/Workload" "balance" "J" (.long (0 : Int64)) := H2.keep K1 nin0
  have F5 : Fld Z h1 p0 "com/example/strict_schedule/strictschedule/bench/Workload" "threads" "I" (.int (0 : Int32)) := H3.keep K1 nin0
  have F6 : Fld Z h1 p0 "com/example/strict_schedule/strictschedule/bench/Workload" "transfers" "I" (.int (0 : Int32)) := H4.keep K1 nin0
  have F7 : Fld Z h1 p0 "com/example/strict_schedule/strictschedule/bench/Workload" "seed" "J" (.long (0 : Int64)) := H5.keep K1 nin0
  have F8 : n0 ≤ h1.size := Nat.le_trans Z0 K1.1
  have F9 : Keep h0 h1 [p0] := (Keep.refl h0 [p0]).trans K1 all0
  refine Go.trans st1 ?_
  show Go p.tables e below (P2 Z p0 p1 p2 p3 p4 p5 h0 n0 s) (T1.setTop (mkF m 4 #[.val (.ref p0), .val (.int p1), .val (.long p2), .second, .val (.int p3), .val (.int p4), .val (.long p5), .second] []))
  refine Go.back (fun t k => XS.iloadN X1.here hx rfl (hb hby d2_4) rfl  k) ?_
  show Go p.tables e below (P2 Z p0 p1 p2 p3 p4 p5 h0 n0 s) (T1.setTop (mkF m 5 #[.val (.ref p0), .val (.int p1), .val (.long p2), .second, .val (.int p3), .val (.int p4), .val (.long p5), .second] [(.int p1)]))
  refine Go.back (fun t k => XS.iconst X1.here hx rfl (hb hby d2_5) k) ?_
  show Go p.tables e below (P2 Z p0 p1 p2 p3 p4 p5 h0 n0 s) (T1.setTop (mkF m 6 #[.val (.ref p0), .val (.int p1), .val (.long p2), .second, .val (.int p3), .val (.int p4), .val (.long p5), .second] [(.int (2 : Int32)), (.int p1)]))
  refine Go.back (fun t k => XS.icmpNo X1.here hx rfl (hb hby d2_6) rfl (flt a1).1 k) ?_
  show Go p.tables e below (P2 Z p0 p1 p2 p3 p4 p5 h0 n0 s) (T1.setTop (mkF m 9 #[.val (.ref p0), .val (.int p1), .val (.long p2), .second, .val (.int p3), .val (.int p4), .val (.long p5), .second] []))
  refine Go.back (fun t k => XS.lloadN X1.here hx rfl (hb hby d2_9) rfl  k) ?_
  show Go p.tables e below (P2 Z p0 p1 p2 p3 p4 p5 h0 n0 s) (T1.setTop (mkF m 10 #[.val (.ref p0), .val (.int p1), .val (.long p2), .second, .val (.int p3), .val (.int p4), .val (.long p5), .second] [(.long p2)]))
  refine Go.back (fun t k => XS.lconst X1.here hx rfl (hb hby d2_10) k) ?_
  show Go p.tables e below (P2 Z p0 p1 p2 p3 p4 p5 h0 n0 s) (T1.setTop (mkF m 11 #[.val (.ref p0), .val (.int p1), .val (.long p2), .second, .val (.int p3), .val (.int p4), .val (.long p5), .second] [(.long (0 : Int64)), (.long p2)]))
  refine Go.back (fun t k => XS.lcmp X1.here hx rfl (hb hby d2_11) rfl k) ?_
  show Go p.tables e below (P2 Z p0 p1 p2 p3 p4 p5 h0 n0 s) (T1.setTop (mkF m 12 #[.val (.ref p0), .val (.int p1), .val (.long p2), .second, .val (.int p3), .val (.int p4), .val (.long p5), .second] [(.int (lcmpW p2 (0 : Int64)))]))
  refine Go.back (fun t k => XS.ifNo X1.here hx rfl (hb hby d2_12) rfl ((if0 _ _).trans (flt (fun q => a2 ((lw_lt _ _).mp q))).1) k) ?_
  show Go p.tables e below (P2 Z p0 p1 p2 p3 p4 p5 h0 n0 s) (T1.setTop (mkF m 15 #[.val (.ref p0), .val (.int p1), .val (.long p2), .second, .val (.int p3), .val (.int p4), .val (.long p5), .second] []))
  refine Go.back (fun t k => XS.iload X1.here hx rfl (hb hby d2_15) rfl  k) ?_
  show Go p.tables e below (P2 Z p0 p1 p2 p3 p4 p5 h0 n0 s) (T1.setTop (mkF m 17 #[.val (.ref p0), .val (.int p1), .val (.long p2), .second, .val (.int p3), .val (.int p4), .val (.long p5), .second] [(.int p3)]))
  refine Go.back (fun t k => XS.iconst X1.here hx rfl (hb hby d2_17) k) ?_
  show Go p.tables e below (P2 Z p0 p1 p2 p3 p4 p5 h0 n0 s) (T1.setTop (mkF m 18 #[.val (.ref p0), .val (.int p1), .val (.long p2), .second, .val (.int p3), .val (.int p4), .val (.long p5), .second] [(.int (1 : Int32)), (.int p3)]))
  refine Go.back (fun t k => XS.icmpNo X1.here hx rfl (hb hby d2_18) rfl (flt a3).1 k) ?_
  show Go p.tables e below (P2 Z p0 p1 p2 p3 p4 p5 h0 n0 s) (T1.setTop (mkF m 21 #[.val (.ref p0), .val (.int p1), .val (.long p2), .second, .val (.int p3), .val (.int p4), .val (.long p5), .second] []))
  refine Go.back (fun t k => XS.iload X1.here hx rfl (hb hby d2_21) rfl  k) ?_
  show Go p.tables e below (P2 Z p0 p1 p2 p3 p4 p5 h0 n0 s) (T1.setTop (mkF m 23 #[.val (.ref p0), .val (.int p1), .val (.long p2), .second, .val (.int p3), .val (.int p4), .val (.long p5), .second] [(.int p4)]))
  refine Go.back (fun t k => XS.ifYes X1.here hx rfl (pc0 := 23) (pc' := 45) rfl (hb hby d2_23) rfl ((if0 _ _).trans (flt a4).2.1) (by decide) (by decide) k) ?_
  show Go p.tables e below (P2 Z p0 p1 p2 p3 p4 p5 h0 n0 s) (T1.setTop (mkF m 45 #[.val (.ref p0), .val (.int p1), .val (.long p2), .second, .val (.int p3), .val (.int p4), .val (.long p5), .second] []))
  refine Go.back (fun t k => XS.aloadN X1.here hx rfl (hb hby d2_45) rfl rfl  k) ?_
  show Go p.tables e below (P2 Z p0 p1 p2 p3 p4 p5 h0 n0 s) (T1.setTop (mkF m 46 #[.val (.ref p0), .val (.int p1), .val (.long p2), .second, .val (.int p3), .val (.int p4), .val (.long p5), .second] [(.ref p0)]))
  refine Go.back (fun t k => XS.iloadN X1.here hx rfl (hb hby d2_46) rfl  k) ?_
  show Go p.tables e below (P2 Z p0 p1 p2 p3 p4 p5 h0 n0 s) (T1.setTop (mkF m 47 #[.val (.ref p0), .val (.int p1), .val (.long p2), .second, .val (.int p3), .val (.int p4), .val (.long p5), .second] [(.int p1), (.ref p0)]))
  obtain ⟨T10, h10, X10, e10, W10, st10⟩ := putF X1 hx hZ hown (host := "") (Or.inl (hw _ (List.mem_of_getElem? (i := 19) rfl))) Via.refl e1 F3 F2 (Or.inr ⟨(hw _ (List.mem_of_getElem? (i := 20) rfl)), rfl, hnm⟩) (hw _ (List.mem_of_getElem? (i := 6) rfl)) (ty := .int) (by decide) rfl rfl (g := (mkF m 47 #[.val (.ref p0), .val (.int p1), .val (.long p2), .second, .val (.int p3), .val (.int p4), .val (.long p5), .second] [(.int p1), (.ref p0)])) rfl rfl (hb hby d2_47)
  have F11 : Exa Z h10 p0 "com/example/strict_schedule/strictschedule/bench/Workload" := F2.wr W10
  have F12 : Fld Z h10 p0 "com/example/strict_schedule/strictschedule/bench/Workload" "accounts" "I" (.int p1) := F3.same W10
  have F13 : Fld Z h10 p0 "com/example/strict_schedule/strictschedule/bench/Workload" "balance" "J" (.long (0 : Int64)) := F4.other W10 (Or.inr (slot_ne (Or.inr (hw _ (List.mem_of_getElem? (i := 22) rfl))) (Or.inr (hw _ (List.mem_of_getElem? (i := 20) rfl))) (by decide) (t := .long) (t' := .int) (by decide) (by decide)))
  have F14 : Fld Z h10 p0 "com/example/strict_schedule/strictschedule/bench/Workload" "threads" "I" (.int (0 : Int32)) := F5.other W10 (Or.inr (slot_ne (Or.inr (hw _ (List.mem_of_getElem? (i := 24) rfl))) (Or.inr (hw _ (List.mem_of_getElem? (i := 20) rfl))) (by decide) (t := .int) (t' := .int) (by decide) (by decide)))
  have F15 : Fld Z h10 p0 "com/example/strict_schedule/strictschedule/bench/Workload" "transfers" "I" (.int (0 : Int32)) := F6.other W10 (Or.inr (slot_ne (Or.inr (hw _ (List.mem_of_getElem? (i := 26) rfl))) (Or.inr (hw _ (List.mem_of_getElem? (i := 20) rfl))) (by decide) (t := .int) (t' := .int) (by decide) (by decide)))
  have F16 : Fld Z h10 p0 "com/example/strict_schedule/strictschedule/bench/Workload" "seed" "J" (.long (0 : Int64)) := F7.other W10 (Or.inr (slot_ne (Or.inr (hw _ (List.mem_of_getElem? (i := 28) rfl))) (Or.inr (hw _ (List.mem_of_getElem? (i := 20) rfl))) (by decide) (t := .long) (t' := .int) (by decide) (by decide)))
  have F17 : n0 ≤ h10.size := Nat.le_trans F8 (Keep.of_wr W10).1
  have F18 : Keep h0 h10 [p0] := F9.wr W10 (Or.inl (List.mem_of_getElem? (i := 0) rfl))
  have N10 := Fr.snoc X10 N1 H6
  refine Go.back st10 ?_
  show Go p.tables e below (P2 Z p0 p1 p2 p3 p4 p5 h0 n0 s) (T10.setTop (mkF m 50 #[.val (.ref p0), .val (.int p1), .val (.long p2), .second, .val (.int p3), .val (.int p4), .val (.long p5), .second] []))
  refine Go.back (fun t k => XS.aloadN X10.here hx rfl (hb hby d2_50) rfl rfl  k) ?_
  show Go p.tables e below (P2 Z p0 p1 p2 p3 p4 p5 h0 n0 s) (T10.setTop (mkF m 51 #[.val (.ref p0), .val (.int p1), .val (.long p2), .second, .val (.int p3), .val (.int p4), .val (.long p5), .second] [(.ref p0)]))
  refine Go.back (fun t k => XS.lloadN X10.here hx rfl (hb hby d2_51) rfl  k) ?_
  show Go p.tables e below (P2 Z p0 p1 p2 p3 p4 p5 h0 n0 s) (T10.setTop (mkF m 52 #[.val (.ref p0), .val (.int p1), .val (.long p2), .second, .val (.int p3), .val (.int p4), .val (.long p5), .second] [(.long p2), (.ref p0)]))
  obtain ⟨T19, h19, X19, e19, W19, st19⟩ := putF X10 hx hZ hown (host := "") (Or.inl (hw _ (List.mem_of_getElem? (i := 21) rfl))) Via.refl e10 F13 F11 (Or.inr ⟨(hw _ (List.mem_of_getElem? (i := 22) rfl)), rfl, hnm⟩) (hw _ (List.mem_of_getElem? (i := 6) rfl)) (ty := .long) (by decide) rfl rfl (g := (mkF m 52 #[.val (.ref p0), .val (.int p1), .val (.long p2), .second, .val (.int p3), .val (.int p4), .val (.long p5), .second] [(.long p2), (.ref p0)])) rfl rfl (hb hby d2_52)
  have F20 : Exa Z h19 p0 "com/example/strict_schedule/strictschedule/bench/Workload" := F11.wr W19
  have F21 : Fld Z h19 p0 "com/example/strict_schedule/strictschedule/bench/Workload" "accounts" "I" (.int p1) := F12.other W19 (Or.inr (slot_ne (Or.inr (hw _ (List.mem_of_getElem? (i := 20) rfl))) (Or.inr (hw _ (List.mem_of_getElem? (i := 22) rfl))) (by decide) (t := .int) (t' := .long) (by decide) (by decide)))
  have F22 : Fld Z h19 p0 "com/example/strict_schedule/strictschedule/bench/Workload" "balance" "J" (.long p2) := F13.same W19
  have F23 : Fld Z h19 p0 "com/example/strict_schedule/strictschedule/bench/Workload" "threads" "I" (.int (0 : Int32)) := F14.other W19 (Or.inr (slot_ne (Or.inr (hw _ (List.mem_of_getElem? (i := 24) rfl))) (Or.inr (hw _ (List.mem_of_getElem? (i := 22) rfl))) (by decide) (t := .int) (t' := .long) (by decide) (by decide)))
  have F24 : Fld Z h19 p0 "com/example/strict_schedule/strictschedule/bench/Workload" "transfers" "I" (.int (0 : Int32)) := F15.other W19 (Or.inr (slot_ne (Or.inr (hw _ (List.mem_of_getElem? (i := 26) rfl))) (Or.inr (hw _ (List.mem_of_getElem? (i := 22) rfl))) (by decide) (t := .int) (t' := .long) (by decide) (by decide)))
  have F25 : Fld Z h19 p0 "com/example/strict_schedule/strictschedule/bench/Workload" "seed" "J" (.long (0 : Int64)) := F16.other W19 (Or.inr (slot_ne (Or.inr (hw _ (List.mem_of_getElem? (i := 28) rfl))) (Or.inr (hw _ (List.mem_of_getElem? (i := 22) rfl))) (by decide) (t := .long) (t' := .long) (by decide) (by decide)))
  have F26 : n0 ≤ h19.size := Nat.le_trans F17 (Keep.of_wr W19).1
  have F27 : Keep h0 h19 [p0] := F18.wr W19 (Or.inl (List.mem_of_getElem? (i := 0) rfl))
  have N19 := Fr.snoc X19 N10 H6
  refine Go.back st19 ?_
  show Go p.tables e below (P2 Z p0 p1 p2 p3 p4 p5 h0 n0 s) (T19.setTop (mkF m 55 #[.val (.ref p0), .val (.int p1), .val (.long p2), .second, .val (.int p3), .val (.int p4), .val (.long p5), .second] []))
  refine Go.back (fun t k => XS.aloadN X19.here hx rfl (hb hby d2_55) rfl rfl  k) ?_
  show Go p.tables e below (P2 Z p0 p1 p2 p3 p4 p5 h0 n0 s) (T19.setTop (mkF m 56 #[.val (.ref p0), .val (.int p1), .val (.long p2), .second, .val (.int p3), .val (.int p4), .val (.long p5), .second] [(.ref p0)]))
  refine Go.back (fun t k => XS.iload X19.here hx rfl (hb hby d2_56) rfl  k) ?_
  show Go p.tables e below (P2 Z p0 p1 p2 p3 p4 p5 h0 n0 s) (T19.setTop (mkF m 58 #[.val (.ref p0), .val (.int p1), .val (.long p2), .second, .val (.int p3), .val (.int p4), .val (.long p5), .second] [(.int p3), (.ref p0)]))
  obtain ⟨T28, h28, X28, e28, W28, st28⟩ := putF X19 hx hZ hown (host := "") (Or.inl (hw _ (List.mem_of_getElem? (i := 23) rfl))) Via.refl e19 F23 F20 (Or.inr ⟨(hw _ (List.mem_of_getElem? (i := 24) rfl)), rfl, hnm⟩) (hw _ (List.mem_of_getElem? (i := 6) rfl)) (ty := .int) (by decide) rfl rfl (g := (mkF m 58 #[.val (.ref p0), .val (.int p1), .val (.long p2), .second, .val (.int p3), .val (.int p4), .val (.long p5), .second] [(.int p3), (.ref p0)])) rfl rfl (hb hby d2_58)
  have F29 : Exa Z h28 p0 "com/example/strict_schedule/strictschedule/bench/Workload" := F20.wr W28
  have F30 : Fld Z h28 p0 "com/example/strict_schedule/strictschedule/bench/Workload" "accounts" "I" (.int p1) := F21.other W28 (Or.inr (slot_ne (Or.inr (hw _ (List.mem_of_getElem? (i := 20) rfl))) (Or.inr (hw _ (List.mem_of_getElem? (i := 24) rfl))) (by decide) (t := .int) (t' := .int) (by decide) (by decide)))
  have F31 : Fld Z h28 p0 "com/example/strict_schedule/strictschedule/bench/Workload" "balance" "J" (.long p2) := F22.other W28 (Or.inr (slot_ne (Or.inr (hw _ (List.mem_of_getElem? (i := 22) rfl))) (Or.inr (hw _ (List.mem_of_getElem? (i := 24) rfl))) (by decide) (t := .long) (t' := .int) (by decide) (by decide)))
  have F32 : Fld Z h28 p0 "com/example/strict_schedule/strictschedule/bench/Workload" "threads" "I" (.int p3) := F23.same W28
  have F33 : Fld Z h28 p0 "com/example/strict_schedule/strictschedule/bench/Workload" "transfers" "I" (.int (0 : Int32)) := F24.other W28 (Or.inr (slot_ne (Or.inr (hw _ (List.mem_of_getElem? (i := 26) rfl))) (Or.inr (hw _ (List.mem_of_getElem? (i := 24) rfl))) (by decide) (t := .int) (t' := .int) (by decide) (by decide)))
  have F34 : Fld Z h28 p0 "com/example/strict_schedule/strictschedule/bench/Workload" "seed" "J" (.long (0 : Int64)) := F25.other W28 (Or.inr (slot_ne (Or.inr (hw _ (List.mem_of_getElem? (i := 28) rfl))) (Or.inr (hw _ (List.mem_of_getElem? (i := 24) rfl))) (by decide) (t := .long) (t' := .int) (by decide) (by decide)))
  have F35 : n0 ≤ h28.size := Nat.le_trans F26 (Keep.of_wr W28).1
  have F36 : Keep h0 h28 [p0] := F27.wr W28 (Or.inl (List.mem_of_getElem? (i := 0) rfl))
  have N28 := Fr.snoc X28 N19 H6
  refine Go.back st28 ?_
  show Go p.tables e below (P2 Z p0 p1 p2 p3 p4 p5 h0 n0 s) (T28.setTop (mkF m 61 #[.val (.ref p0), .val (.int p1), .val (.long p2), .second, .val (.int p3), .val (.int p4), .val (.long p5), .second] []))
  refine Go.back (fun t k => XS.aloadN X28.here hx rfl (hb hby d2_61) rfl rfl  k) ?_
  show Go p.tables e below (P2 Z p0 p1 p2 p3 p4 p5 h0 n0 s) (T28.setTop (mkF m 62 #[.val (.ref p0), .val (.int p1), .val (.long p2), .second, .val (.int p3), .val (.int p4), .val (.long p5), .second] [(.ref p0)]))
  refine Go.back (fun t k => XS.iload X28.here hx rfl (hb hby d2_62) rfl  k) ?_
  show Go p.tables e below (P2 Z p0 p1 p2 p3 p4 p5 h0 n0 s) (T28.setTop (mkF m 64 #[.val (.ref p0), .val (.int p1), .val (.long p2), .second, .val (.int p3), .val (.int p4), .val (.long p5), .second] [(.int p4), (.ref p0)]))
  obtain ⟨T37, h37, X37, e37, W37, st37⟩ := putF X28 hx hZ hown (host := "") (Or.inl (hw _ (List.mem_of_getElem? (i := 25) rfl))) Via.refl e28 F33 F29 (Or.inr ⟨(hw _ (List.mem_of_getElem? (i := 26) rfl)), rfl, hnm⟩) (hw _ (List.mem_of_getElem? (i := 6) rfl)) (ty := .int) (by decide) rfl rfl (g := (mkF m 64 #[.val (.ref p0), .val (.int p1), .val (.long p2), .second, .val (.int p3), .val (.int p4), .val (.long p5), .second] [(.int p4), (.ref p0)])) rfl rfl (hb hby d2_64)
  have F38 : Exa Z h37 p0 "com/example/strict_schedule/strictschedule/bench/Workload" := F29.wr W37
  have F39 : Fld Z h37 p0 "com/example/strict_schedule/strictschedule/bench/Workload" "accounts" "I" (.int p1) := F30.other W37 (Or.inr (slot_ne (Or.inr (hw _ (List.mem_of_getElem? (i := 20) rfl))) (Or.inr (hw _ (List.mem_of_getElem? (i := 26) rfl))) (by decide) (t := .int) (t' := .int) (by decide) (by decide)))
  have F40 : Fld Z h37 p0 "com/example/strict_schedule/strictschedule/bench/Workload" "balance" "J" (.long p2) := F31.other W37 (Or.inr (slot_ne (Or.inr (hw _ (List.mem_of_getElem? (i := 22) rfl))) (Or.inr (hw _ (List.mem_of_getElem? (i := 26) rfl))) (by decide) (t := .long) (t' := .int) (by decide) (by decide)))
  have F41 : Fld Z h37 p0 "com/example/strict_schedule/strictschedule/bench/Workload" "threads" "I" (.int p3) := F32.other W37 (Or.inr (slot_ne (Or.inr (hw _ (List.mem_of_getElem? (i := 24) rfl))) (Or.inr (hw _ (List.mem_of_getElem? (i := 26) rfl))) (by decide) (t := .int) (t' := .int) (by decide) (by decide)))
  have F42 : Fld Z h37 p0 "com/example/strict_schedule/strictschedule/bench/Workload" "transfers" "I" (.int p4) := F33.same W37
  have F43 : Fld Z h37 p0 "com/example/strict_schedule/strictschedule/bench/Workload" "seed" "J" (.long (0 : Int64)) := F34.other W37 (Or.inr (slot_ne (Or.inr (hw _ (List.mem_of_getElem? (i := 28) rfl))) (Or.inr (hw _ (List.mem_of_getElem? (i := 26) rfl))) (by decide) (t := .long) (t' := .int) (by decide) (by decide)))
  have F44 : n0 ≤ h37.size := Nat.le_trans F35 (Keep.of_wr W37).1
  have F45 : Keep h0 h37 [p0] := F36.wr W37 (Or.inl (List.mem_of_getElem? (i := 0) rfl))
  have N37 := Fr.snoc X37 N28 H6
  refine Go.back st37 ?_
  show Go p.tables e below (P2 Z p0 p1 p2 p3 p4 p5 h0 n0 s) (T37.setTop (mkF m 67 #[.val (.ref p0), .val (.int p1), .val (.long p2), .second, .val (.int p3), .val (.int p4), .val (.long p5), .second] []))
  refine Go.back (fun t k => XS.aloadN X37.here hx rfl (hb hby d2_67) rfl rfl  k) ?_
  show Go p.tables e below (P2 Z p0 p1 p2 p3 p4 p5 h0 n0 s) (T37.setTop (mkF m 68 #[.val (.ref p0), .val (.int p1), .val (.long p2), .second, .val (.int p3), .val (.int p4), .val (.long p5), .second] [(.ref p0)]))
  refine Go.back (fun t k => XS.lload X37.here hx rfl (hb hby d2_68) rfl  k) ?_
  show Go p.tables e below (P2 Z p0 p1 p2 p3 p4 p5 h0 n0 s) (T37.setTop (mkF m 70 #[.val (.ref p0), .val (.int p1), .val (.long p2), .second, .val (.int p3), .val (.int p4), .val (.long p5), .second] [(.long p5), (.ref p0)]))
  obtain ⟨T46, h46, X46, e46, W46, st46⟩ := putF X37 hx hZ hown (host := "") (Or.inl (hw _ (List.mem_of_getElem? (i := 27) rfl))) Via.refl e37 F43 F38 (Or.inr ⟨(hw _ (List.mem_of_getElem? (i := 28) rfl)), rfl, hnm⟩) (hw _ (List.mem_of_getElem? (i := 6) rfl)) (ty := .long) (by decide) rfl rfl (g := (mkF m 70 #[.val (.ref p0), .val (.int p1), .val (.long p2), .second, .val (.int p3), .val (.int p4), .val (.long p5), .second] [(.long p5), (.ref p0)])) rfl rfl (hb hby d2_70)
  have F47 : Exa Z h46 p0 "com/example/strict_schedule/strictschedule/bench/Workload" := F38.wr W46
  have F48 : Fld Z h46 p0 "com/example/strict_schedule/strictschedule/bench/Workload" "accounts" "I" (.int p1) := F39.other W46 (Or.inr (slot_ne (Or.inr (hw _ (List.mem_of_getElem? (i := 20) rfl))) (Or.inr (hw _ (List.mem_of_getElem? (i := 28) rfl))) (by decide) (t := .int) (t' := .long) (by decide) (by decide)))
  have F49 : Fld Z h46 p0 "com/example/strict_schedule/strictschedule/bench/Workload" "balance" "J" (.long p2) := F40.other W46 (Or.inr (slot_ne (Or.inr (hw _ (List.mem_of_getElem? (i := 22) rfl))) (Or.inr (hw _ (List.mem_of_getElem? (i := 28) rfl))) (by decide) (t := .long) (t' := .long) (by decide) (by decide)))
  have F50 : Fld Z h46 p0 "com/example/strict_schedule/strictschedule/bench/Workload" "threads" "I" (.int p3) := F41.other W46 (Or.inr (slot_ne (Or.inr (hw _ (List.mem_of_getElem? (i := 24) rfl))) (Or.inr (hw _ (List.mem_of_getElem? (i := 28) rfl))) (by decide) (t := .int) (t' := .long) (by decide) (by decide)))
  have F51 : Fld Z h46 p0 "com/example/strict_schedule/strictschedule/bench/Workload" "transfers" "I" (.int p4) := F42.other W46 (Or.inr (slot_ne (Or.inr (hw _ (List.mem_of_getElem? (i := 26) rfl))) (Or.inr (hw _ (List.mem_of_getElem? (i := 28) rfl))) (by decide) (t := .int) (t' := .long) (by decide) (by decide)))
  have F52 : Fld Z h46 p0 "com/example/strict_schedule/strictschedule/bench/Workload" "seed" "J" (.long p5) := F43.same W46
  have F53 : n0 ≤ h46.size := Nat.le_trans F44 (Keep.of_wr W46).1
  have F54 : Keep h0 h46 [p0] := F45.wr W46 (Or.inl (List.mem_of_getElem? (i := 0) rfl))
  have N46 := Fr.snoc X46 N37 H6
  refine Go.back st46 ?_
  show Go p.tables e below (P2 Z p0 p1 p2 p3 p4 p5 h0 n0 s) (T46.setTop (mkF m 73 #[.val (.ref p0), .val (.int p1), .val (.long p2), .second, .val (.int p3), .val (.int p4), .val (.long p5), .second] []))
  exact Go.retV X46 hx Bd.returns (hb hby d2_73) Bd.notSynchronized ⟨rfl, N46, (by rw [e46]; exact F54), (by rw [e46]; exact F47), (by rw [e46]; exact F50), (by rw [e46]; exact F51)⟩ (by decide) (by decide)
theorem d5_0 : decode prog_4_method_5_code 0 = .ok (.aload_n 0, 1) := by decide +kernel
theorem d5_1 : decode prog_4_method_5_code 1 = .ok (.getfield 29, 3) := by decide +kernel
theorem d5_4 : decode prog_4_method_5_code 4 = .ok (.aload_n 0, 1) := by decide +kernel
theorem d5_5 : decode prog_4_method_5_code 5 = .ok (.getfield 26, 3) := by decide +kernel
theorem d5_8 : decode prog_4_method_5_code 8 = .ok (.idiv, 1) := by decide +kernel
theorem d5_9 : decode prog_4_method_5_code 9 = .ok (.iload_n 1, 1) := by decide +kernel
theorem d5_10 : decode prog_4_method_5_code 10 = .ok (.aload_n 0, 1) := by decide +kernel
theorem d5_11 : decode prog_4_method_5_code 11 = .ok (.getfield 29, 3) := by decide +kernel
theorem d5_14 : decode prog_4_method_5_code 14 = .ok (.aload_n 0, 1) := by decide +kernel
theorem d5_15 : decode prog_4_method_5_code 15 = .ok (.getfield 26, 3) := by decide +kernel
theorem d5_18 : decode prog_4_method_5_code 18 = .ok (.irem, 1) := by decide +kernel
theorem d5_19 : decode prog_4_method_5_code 19 = .ok (.if_icmp .ge 7, 3) := by decide +kernel
theorem d5_22 : decode prog_4_method_5_code 22 = .ok (.iconst 1, 1) := by decide +kernel
theorem d5_23 : decode prog_4_method_5_code 23 = .ok (.goto 4, 3) := by decide +kernel
theorem d5_26 : decode prog_4_method_5_code 26 = .ok (.iconst 0, 1) := by decide +kernel
theorem d5_27 : decode prog_4_method_5_code 27 = .ok (.iadd, 1) := by decide +kernel
theorem d5_28 : decode prog_4_method_5_code 28 = .ok (.ireturn, 1) := by decide +kernel
def f5 (p1 : Int32) (tr : Int32) (th : Int32) : Int32 := (let z7 : Bool := (if p1 < (tr % th) then true else false); ((tr / th) + (b2i z7)))
def Q5 (Z : State) (p0 : Addr) (p1 : Int32) (tr : Int32) (th : Int32) (h0 : Heap) (n0 : Nat) (v : Option Value) (h : Heap) (L : List Loc) : Prop := v = some (.int (f5 p1 tr th)) ∧ Fr n0 L ∧ h = h0
abbrev rmm5 : Room := { frames := 0, cells := 0, slots := 0, locals := 0 }
abbrev P5 (Z : State) (p0 : Addr) (p1 : Int32) (tr : Int32) (th : Int32) (h0 : Heap) (n0 : Nat) (s : State) : Outcome → State → Prop := fun o U' => ∃ v L, o = .returned v ∧ Q5 Z p0 p1 tr th h0 n0 v U'.heap L ∧ FrameEnd s o U' L rmm5.cells rmm5.slots
theorem pn_5 : plainName "com/example/strict_schedule/strictschedule/bench/Workload" = true := by first | (simp [plainName, overriddenIn]; done) | decide +kernel
theorem ef_5 (m : MethodId) (p0 : Addr) (p1 : Int32) : entryFrame m #[(.ref p0), (.int p1)] 2 = mkF m 0 #[.val (.ref p0), .val (.int p1)] [] := by first | (simp [entryFrame, mkF, argsToLocals, Value.category]; done) | rfl
set_option maxRecDepth 65536 in
set_option maxHeartbeats 40000000 in
theorem rm5 (l : Launch) (Z : State) (a0 : Array Value) (hw : ∀ d ∈ tables_1, d.before a0 Z = true) (ws : List Jvm.Cond) (p0 : Addr) (p1 : Int32) (tr : Int32) (th : Int32) (h0 : Heap) (n0 : Nat) (Z0 : n0 ≤ h0.size) (H0 : Fld Z h0 p0 "com/example/strict_schedule/strictschedule/bench/Workload" "transfers" "I" (.int tr)) (H1 : Fld Z h0 p0 "com/example/strict_schedule/strictschedule/bench/Workload" "threads" "I" (.int th)) (hnz : ¬ (th = (0 : Int32))) :
    MetFree l (⟨"com/example/strict_schedule/strictschedule/bench/Workload", "share", "(I)I"⟩ : MethodName) (head1 (Jvm.Cond.code (⟨"com/example/strict_schedule/strictschedule/bench/Workload", "share", "(I)I"⟩ : MethodName) prog_4_method_5_code 2 (some .int) :: ws) rmm5) (fun a U => a = #[(.ref p0), (.int p1)] ∧ Z.Warmed39 U.vm ∧ U.heap = h0) (fun _ _ _ _ _ => True) (fun _ U o U' => ∃ v L, o = .returned v ∧ Q5 Z p0 p1 tr th h0 n0 v U'.heap L ∧ FrameEnd U o U' L rmm5.cells rmm5.slots) := by
  refine MetFree.of_bodySF (plainFor_of_name pn_5) hisR ?_
  intro p e s m args below meth c s₁ Bd hml0 hP hK
  obtain ⟨rfl, hZ, hh⟩ := hP
  have hx := Bd.exec
  have hby := Bd.bytes
  have hml : c.maxLocals = 2 := hml0
  have hown : s.vm.findClass "com/example/strict_schedule/strictschedule/bench/Workload" = some m.cls := findClass_of_methodNamed Bd.named
  have hnm := (name_of_methodNamed Bd.named Bd.method).1
  have X0 : Stand p l e rmm5 s m #[(.ref p0), (.int p1)] below meth c s₁ [] 0 0 := Stand.of_body Bd
  have e0 : s₁.heap = h0 := by rw [← hh, Bd.state]; rfl
  have N0 := Fr.nil n0
  show Go p.tables e below (P5 Z p0 p1 tr th h0 n0 s) (s₁.setTop (entryFrame m #[(.ref p0), (.int p1)] 2))
  refine Go.back (fun t k => castTop (ef_5 m p0 p1) k) ?_
  show Go p.tables e below (P5 Z p0 p1 tr th h0 n0 s) (s₁.setTop (mkF m 0 #[.val (.ref p0), .val (.int p1)] []))
  have hf0 : f5 p1 tr th = (let z7 : Bool := (if p1 < (tr % th) then true else false); ((tr / th) + (b2i z7))) := rfl
  refine Go.back (fun t k => XS.aloadN X0.here hx rfl (hb hby d5_0) rfl rfl  k) ?_
  show Go p.tables e below (P5 Z p0 p1 tr th h0 n0 s) (s₁.setTop (mkF m 1 #[.val (.ref p0), .val (.int p1)] [(.ref p0)]))
  obtain ⟨T1, X1, e1, st1⟩ := getF X0 hx hZ hown (host := "") (Or.inl (hw _ (List.mem_of_getElem? (i := 25) rfl))) Via.refl e0 H0 (g := (mkF m 1 #[.val (.ref p0), .val (.int p1)] [(.ref p0)])) rfl rfl (hb hby d5_1)
  refine Go.back st1 ?_
  show Go p.tables e below (P5 Z p0 p1 tr th h0 n0 s) (T1.setTop (mkF m 4 #[.val (.ref p0), .val (.int p1)] [(.int tr)]))
  refine Go.back (fun t k => XS.aloadN X1.here hx rfl (hb hby d5_4) rfl rfl  k) ?_
  show Go p.tables e below (P5 Z p0 p1 tr th h0 n0 s) (T1.setTop (mkF m 5 #[.val (.ref p0), .val (.int p1)] [(.ref p0), (.int tr)]))
  obtain ⟨T2, X2, e2, st2⟩ := getF X1 hx hZ hown (host := "") (Or.inl (hw _ (List.mem_of_getElem? (i := 23) rfl))) Via.refl e1 H1 (g := (mkF m 5 #[.val (.ref p0), .val (.int p1)] [(.ref p0), (.int tr)])) rfl rfl (hb hby d5_5)
  refine Go.back st2 ?_
  show Go p.tables e below (P5 Z p0 p1 tr th h0 n0 s) (T2.setTop (mkF m 8 #[.val (.ref p0), .val (.int p1)] [(.int th), (.int tr)]))
  refine Go.back (fun t k => XS.idiv X2.here hx rfl (hb hby d5_8) rfl hnz k) ?_
  show Go p.tables e below (P5 Z p0 p1 tr th h0 n0 s) (T2.setTop (mkF m 9 #[.val (.ref p0), .val (.int p1)] [(.int (tr / th))]))
  refine Go.back (fun t k => XS.iloadN X2.here hx rfl (hb hby d5_9) rfl  k) ?_
  show Go p.tables e below (P5 Z p0 p1 tr th h0 n0 s) (T2.setTop (mkF m 10 #[.val (.ref p0), .val (.int p1)] [(.int p1), (.int (tr / th))]))
  refine Go.back (fun t k => XS.aloadN X2.here hx rfl (hb hby d5_10) rfl rfl  k) ?_
  show Go p.tables e below (P5 Z p0 p1 tr th h0 n0 s) (T2.setTop (mkF m 11 #[.val (.ref p0), .val (.int p1)] [(.ref p0), (.int p1), (.int (tr / th))]))
  obtain ⟨T3, X3, e3, st3⟩ := getF X2 hx hZ hown (host := "") (Or.inl (hw _ (List.mem_of_getElem? (i := 25) rfl))) Via.refl e2 H0 (g := (mkF m 11 #[.val (.ref p0), .val (.int p1)] [(.ref p0), (.int p1), (.int (tr / th))])) rfl rfl (hb hby d5_11)
  refine Go.back st3 ?_
  show Go p.tables e below (P5 Z p0 p1 tr th h0 n0 s) (T3.setTop (mkF m 14 #[.val (.ref p0), .val (.int p1)] [(.int tr), (.int p1), (.int (tr / th))]))
  refine Go.back (fun t k => XS.aloadN X3.here hx rfl (hb hby d5_14) rfl rfl  k) ?_
  show Go p.tables e below (P5 Z p0 p1 tr th h0 n0 s) (T3.setTop (mkF m 15 #[.val (.ref p0), .val (.int p1)] [(.ref p0), (.int tr), (.int p1), (.int (tr / th))]))
  obtain ⟨T4, X4, e4, st4⟩ := getF X3 hx hZ hown (host := "") (Or.inl (hw _ (List.mem_of_getElem? (i := 23) rfl))) Via.refl e3 H1 (g := (mkF m 15 #[.val (.ref p0), .val (.int p1)] [(.ref p0), (.int tr), (.int p1), (.int (tr / th))])) rfl rfl (hb hby d5_15)
  refine Go.back st4 ?_
  show Go p.tables e below (P5 Z p0 p1 tr th h0 n0 s) (T4.setTop (mkF m 18 #[.val (.ref p0), .val (.int p1)] [(.int th), (.int tr), (.int p1), (.int (tr / th))]))
  refine Go.back (fun t k => iremM X4 hx rfl (hb hby d5_18) rfl hnz k) ?_
  show Go p.tables e below (P5 Z p0 p1 tr th h0 n0 s) (T4.setTop (mkF m 19 #[.val (.ref p0), .val (.int p1)] [(.int (tr % th)), (.int p1), (.int (tr / th))]))
  have J6 : ∀ (z7 : Bool) (hz7 : z7 = (if p1 < (tr % th) then true else false)), Go p.tables e below (P5 Z p0 p1 tr th h0 n0 s) (T4.setTop (mkF m 27 #[.val (.ref p0), .val (.int p1)] [(.int (b2i z7)), (.int (tr / th))])) := by
    intro z7 hz7
    have r8 : f5 p1 tr th = ((tr / th) + (b2i z7)) := by subst hz7; exact hf0
    show Go p.tables e below (P5 Z p0 p1 tr th h0 n0 s) (T4.setTop (mkF m 27 #[.val (.ref p0), .val (.int p1)] [(.int (b2i z7)), (.int (tr / th))]))
    refine Go.back (fun t k => XS.iadd X4.here hx rfl (hb hby d5_27) rfl k) ?_
    show Go p.tables e below (P5 Z p0 p1 tr th h0 n0 s) (T4.setTop (mkF m 28 #[.val (.ref p0), .val (.int p1)] [(.int ((tr / th) + (b2i z7)))]))
    exact Go.retI X4 hx Bd.returns (hb hby d5_28) Bd.notSynchronized ⟨by rw [r8], N0, e4⟩ (by decide) (by decide)
  have r9 : (if p1 < (tr % th) then true else false) = (if p1 < (tr % th) then true else false) := rfl
  by_cases hc5 : p1 < (tr % th)
  · have r10 := r9.trans (if_pos hc5)
    refine Go.back (fun t k => XS.icmpNo X4.here hx rfl (hb hby d5_19) rfl (tlt hc5).2.1 k) ?_
    show Go p.tables e below (P5 Z p0 p1 tr th h0 n0 s) (T4.setTop (mkF m 22 #[.val (.ref p0), .val (.int p1)] [(.int (tr / th))]))
    refine Go.back (fun t k => XS.iconst X4.here hx rfl (hb hby d5_22) k) ?_
    show Go p.tables e below (P5 Z p0 p1 tr th h0 n0 s) (T4.setTop (mkF m 23 #[.val (.ref p0), .val (.int p1)] [(.int (1 : Int32)), (.int (tr / th))]))
    refine Go.back (fun t k => XS.goto X4.here hx rfl (pc0 := 23) (pc' := 27) rfl (hb hby d5_23) (by decide) (by decide) k) ?_
    show Go p.tables e below (P5 Z p0 p1 tr th h0 n0 s) (T4.setTop (mkF m 27 #[.val (.ref p0), .val (.int p1)] [(.int (1 : Int32)), (.int (tr / th))]))
    exact J6 true r10.symm
  · have r11 := r9.trans (if_neg hc5)
    refine Go.back (fun t k => XS.icmpYes X4.here hx rfl (pc0 := 19) (pc' := 26) rfl (hb hby d5_19) rfl (flt hc5).2.1 (by decide) (by decide) k) ?_
    show Go p.tables e below (P5 Z p0 p1 tr th h0 n0 s) (T4.setTop (mkF m 26 #[.val (.ref p0), .val (.int p1)] [(.int (tr / th))]))
    refine Go.back (fun t k => XS.iconst X4.here hx rfl (hb hby d5_26) k) ?_
    show Go p.tables e below (P5 Z p0 p1 tr th h0 n0 s) (T4.setTop (mkF m 27 #[.val (.ref p0), .val (.int p1)] [(.int (0 : Int32)), (.int (tr / th))]))
    exact J6 false r11.symm
theorem own_l0 : (0 : Int32).toInt = 0 := rfl
theorem own_l1 : (1 : Int32).toInt = 1 := rfl
theorem own_max_val (a : Int32) : (f1 (1 : Int32) a).toInt = if 1 < a.toInt then a.toInt else 1 := by
  unfold f1; simp only [Int32.lt_iff_toInt_lt, own_l1]; split <;> rfl
theorem own_max_lt (a : Int32) : ¬ f1 (1 : Int32) a < (1 : Int32) := by
  rw [Int32.lt_iff_toInt_lt, own_l1, own_max_val]; split <;> omega
theorem own_max_ne (a : Int32) : ¬ (f1 (1 : Int32) a = (0 : Int32)) := fun h => by
  have := own_max_lt a; rw [h] at this; exact this (by decide)
theorem own_mask (a : Int32) : (a &&& (2147483647 : Int32)).toInt = a.toInt % (2 ^ 31 : Nat) := c_mask a _ 31 (by decide) (by decide)
theorem own_mask_nn (a : Int32) : ¬ (a &&& (2147483647 : Int32)) < (0 : Int32) := by
  rw [Int32.lt_iff_toInt_lt, own_l0, own_mask]; omega
theorem own_long_ne {z : Int32} (h : ¬ z < (1 : Int32)) : ¬ (z.toInt64 = (0 : Int64)) := fun e => by
  have q := congrArg Int64.toInt e
  rw [c_i2l] at q
  rw [Int32.lt_iff_toInt_lt, own_l1] at h
  have : (0 : Int64).toInt = 0 := rfl
  omega
def f0 (p0 : Int32) (p1 : Int32) (p2 : Int32) (p3 : Int64) : Bool := (let z3 : Int32 := (f1 (1 : Int32) (p0 &&& (2147483647 : Int32))); (let z6 : Int32 := (p1 &&& (2147483647 : Int32)); (let z9 : Int32 := ((p2 &&& (2147483647 : Int32)) % z3); (let z27 : Int64 := ((((((z6).toInt64) - ((z9).toInt64)) + ((z3).toInt64)) - (1 : Int64)) / ((z3).toInt64)); (let z31 : Bool := (if (((f5 z9 z6 z3)).toInt64) = z27 then true else false); z31)))))
def Q0 (Z : State) (p0 : Int32) (p1 : Int32) (p2 : Int32) (p3 : Int64) (h0 : Heap) (n0 : Nat) (v : Option Value) (h : Heap) (L : List Loc) : Prop := v = some (.int (b2i (f0 p0 p1 p2 p3))) ∧ Fr n0 L
abbrev P0 (Z : State) (p0 : Int32) (p1 : Int32) (p2 : Int32) (p3 : Int64) (h0 : Heap) (n0 : Nat) (s : State) : Outcome → State → Prop := fun o U' => ∃ v L, o = .returned v ∧ Q0 Z p0 p1 p2 p3 h0 n0 v U'.heap L ∧ FrameEnd s o U' L room_1.cells room_1.slots
theorem pn_0 : plainName "com/example/strict_schedule/strictschedule/bench/WorkloadSharePinLaw" = true := by first | (simp [plainName, overriddenIn]; done) | decide +kernel
theorem ef_0 (m : MethodId) (p0 : Int32) (p1 : Int32) (p2 : Int32) (p3 : Int64) : entryFrame m #[(.int p0), (.int p1), (.int p2), (.long p3)] maxLocals = mkF m 0 #[.val (.int p0), .val (.int p1), .val (.int p2), .val (.long p3), .second, .unset, .unset, .unset, .unset, .unset, .unset, .unset] [] := by first | (simp [entryFrame, mkF, argsToLocals, Value.category, maxLocals]; done) | rfl
set_option maxRecDepth 65536 in
set_option maxHeartbeats 40000000 in
theorem rm0 (l : Launch) (Z : State) (a0 : Array Value) (hw : ∀ d ∈ tables_1, d.before a0 Z = true) (ws : List Jvm.Cond) (p0 : Int32) (p1 : Int32) (p2 : Int32) (p3 : Int64) (h0 : Heap) (n0 : Nat) (Z0 : n0 ≤ h0.size) :
    MetFree l x (head1 (Jvm.Cond.code x code maxLocals ret :: ws) room_1) (fun a U => a = #[(.int p0), (.int p1), (.int p2), (.long p3)] ∧ Z.Warmed39 U.vm ∧ U.heap = h0) (fun _ _ _ _ _ => True) (fun _ U o U' => ∃ v L, o = .returned v ∧ Q0 Z p0 p1 p2 p3 h0 n0 v U'.heap L ∧ FrameEnd U o U' L room_1.cells room_1.slots) := by
  refine MetFree.of_bodySF (plainFor_of_name pn_0) hisR ?_
  intro p e s m args below meth c s₁ Bd hml0 hP hK
  obtain ⟨rfl, hZ, hh⟩ := hP
  have hx := Bd.exec
  have hby := Bd.bytes
  have hml : c.maxLocals = 12 := hml0
  have hown : s.vm.findClass "com/example/strict_schedule/strictschedule/bench/WorkloadSharePinLaw" = some m.cls := findClass_of_methodNamed Bd.named
  have hnm := (name_of_methodNamed Bd.named Bd.method).1
  have X0 : Stand p l e room_1 s m #[(.int p0), (.int p1), (.int p2), (.long p3)] below meth c s₁ [] 0 0 := Stand.of_body Bd
  have e0 : s₁.heap = h0 := by rw [← hh, Bd.state]; rfl
  have N0 := Fr.nil n0
  show Go p.tables e below (P0 Z p0 p1 p2 p3 h0 n0 s) (s₁.setTop (entryFrame m #[(.int p0), (.int p1), (.int p2), (.long p3)] maxLocals))
  refine Go.back (fun t k => castTop (ef_0 m p0 p1 p2 p3) k) ?_
  show Go p.tables e below (P0 Z p0 p1 p2 p3 h0 n0 s) (s₁.setTop (mkF m 0 #[.val (.int p0), .val (.int p1), .val (.int p2), .val (.long p3), .second, .unset, .unset, .unset, .unset, .unset, .unset, .unset] []))
  have hf0 : f0 p0 p1 p2 p3 = (let z3 : Int32 := (f1 (1 : Int32) (p0 &&& (2147483647 : Int32))); (let z6 : Int32 := (p1 &&& (2147483647 : Int32)); (let z9 : Int32 := ((p2 &&& (2147483647 : Int32)) % z3); (let z27 : Int64 := ((((((z6).toInt64) - ((z9).toInt64)) + ((z3).toInt64)) - (1 : Int64)) / ((z3).toInt64)); (let z31 : Bool := (if (((f5 z9 z6 z3)).toInt64) = z27 then true else false); z31))))) := rfl
  refine Go.back (fun t k => XS.iconst X0.here hx rfl (hb hby at_0) k) ?_
  show Go p.tables e below (P0 Z p0 p1 p2 p3 h0 n0 s) (s₁.setTop (mkF m 1 #[.val (.int p0), .val (.int p1), .val (.int p2), .val (.long p3), .second, .unset, .unset, .unset, .unset, .unset, .unset, .unset] [(.int (1 : Int32))]))
  refine Go.back (fun t k => XS.iloadN X0.here hx rfl (hb hby at_1) rfl  k) ?_
  show Go p.tables e below (P0 Z p0 p1 p2 p3 h0 n0 s) (s₁.setTop (mkF m 2 #[.val (.int p0), .val (.int p1), .val (.int p2), .val (.long p3), .second, .unset, .unset, .unset, .unset, .unset, .unset, .unset] [(.int p0), (.int (1 : Int32))]))
  refine Go.back (fun t k => X0.ldcInt hx hown (mvT hZ (hw _ (List.mem_of_getElem? (i := 0) rfl))) (g := (mkF m 2 #[.val (.int p0), .val (.int p1), .val (.int p2), .val (.long p3), .second, .unset, .unset, .unset, .unset, .unset, .unset, .unset] [(.int p0), (.int (1 : Int32))])) rfl (hb hby at_2) t k) ?_
  show Go p.tables e below (P0 Z p0 p1 p2 p3 h0 n0 s) (s₁.setTop (mkF m 4 #[.val (.int p0), .val (.int p1), .val (.int p2), .val (.long p3), .second, .unset, .unset, .unset, .unset, .unset, .unset, .unset] [(.int (2147483647 : Int32)), (.int p0), (.int (1 : Int32))]))
  refine Go.back (fun t k => XS.iand X0.here hx rfl (hb hby at_4) rfl k) ?_
  show Go p.tables e below (P0 Z p0 p1 p2 p3 h0 n0 s) (s₁.setTop (mkF m 5 #[.val (.int p0), .val (.int p1), .val (.int p2), .val (.long p3), .second, .unset, .unset, .unset, .unset, .unset, .unset, .unset] [(.int (p0 &&& (2147483647 : Int32))), (.int (1 : Int32))]))
  obtain ⟨_, _, ⟨T1, L1, k1, n1⟩, -, X1, ⟨Lc1, hQ1, l1, y1, z1⟩, st1⟩ := Jvm.LawKit.callS X0 hx (y := (⟨"java/lang/Math", "max", "(II)I"⟩ : MethodName)) hown (mvT hZ (hw _ (List.mem_of_getElem? (i := 1) rfl))) (mvT hZ (hw _ (List.mem_of_getElem? (i := 2) rfl))) (mvT hZ (hw _ (List.mem_of_getElem? (i := 3) rfl))) (mvT hZ (hw _ (List.mem_of_getElem? (i := 4) rfl))) (by decide) (backOf (W := 0) (rm1 l Z a0 hw [] (1 : Int32) (p0 &&& (2147483647 : Int32)) h0 n0) hZ (hw _ (List.mem_of_getElem? (i := 4) rfl)) (hw _ (List.mem_of_getElem? (i := 3) rfl)) (by decide) (by decide)) (g := (mkF m 5 #[.val (.int p0), .val (.int p1), .val (.int p2), .val (.long p3), .second, .unset, .unset, .unset, .unset, .unset, .unset, .unset] [(.int (p0 &&& (2147483647 : Int32))), (.int (1 : Int32))])) rfl (by rw [hml]; rfl) (argsL := [(.int (1 : Int32)), (.int (p0 &&& (2147483647 : Int32)))]) (rest := []) (lenOf pd_1 rfl) rfl (by show 2 * 0 + _ ≤ _; exact Nat.le_of_eq rfl) (hb hby at_5) (fun _ _ => ⟨rfl, e0, (by decide : 0 + 0 ≤ _), (by decide : 0 + 0 ≤ _)⟩)
  dsimp only [Pt.U, Pt.locs, Pt.cells, Pt.slots] at X1 l1 y1 z1 st1 hQ1
  subst l1 y1 z1
  obtain ⟨rfl, N1q, e1⟩ := hQ1
  have N1 := Fr.app N0 N1q
  refine Go.back st1 ?_
  show Go p.tables e below (P0 Z p0 p1 p2 p3 h0 n0 s) (T1.setTop (mkF m 8 #[.val (.int p0), .val (.int p1), .val (.int p2), .val (.long p3), .second, .unset, .unset, .unset, .unset, .unset, .unset, .unset] [(.int (f1 (1 : Int32) (p0 &&& (2147483647 : Int32))))]))
  refine Go.back (fun t k => XS.istore X1.here hx rfl (hb hby at_8) rfl (l' := #[.val (.int p0), .val (.int p1), .val (.int p2), .val (.long p3), .second, .val (.int (f1 (1 : Int32) (p0 &&& (2147483647 : Int32)))), .unset, .unset, .unset, .unset, .unset, .unset]) rfl k) ?_
  show Go p.tables e below (P0 Z p0 p1 p2 p3 h0 n0 s) (T1.setTop (mkF m 10 #[.val (.int p0), .val (.int p1), .val (.int p2), .val (.long p3), .second, .val (.int (f1 (1 : Int32) (p0 &&& (2147483647 : Int32)))), .unset, .unset, .unset, .unset, .unset, .unset] []))
  have J2 : ∀ (z3 : Int32) (hz3 : z3 = (f1 (1 : Int32) (p0 &&& (2147483647 : Int32)))), Go p.tables e below (P0 Z p0 p1 p2 p3 h0 n0 s) (T1.setTop (mkF m 10 #[.val (.int p0), .val (.int p1), .val (.int p2), .val (.long p3), .second, .val (.int z3), .unset, .unset, .unset, .unset, .unset, .unset] [])) := by
    intro z3 hz3
    have r4 : f0 p0 p1 p2 p3 = (let z6 : Int32 := (p1 &&& (2147483647 : Int32)); (let z9 : Int32 := ((p2 &&& (2147483647 : Int32)) % z3); (let z27 : Int64 := ((((((z6).toInt64) - ((z9).toInt64)) + ((z3).toInt64)) - (1 : Int64)) / ((z3).toInt64)); (let z31 : Bool := (if (((f5 z9 z6 z3)).toInt64) = z27 then true else false); z31)))) := by subst hz3; exact hf0
    show Go p.tables e below (P0 Z p0 p1 p2 p3 h0 n0 s) (T1.setTop (mkF m 10 #[.val (.int p0), .val (.int p1), .val (.int p2), .val (.long p3), .second, .val (.int z3), .unset, .unset, .unset, .unset, .unset, .unset] []))
    refine Go.back (fun t k => XS.iloadN X1.here hx rfl (hb hby at_10) rfl  k) ?_
    show Go p.tables e below (P0 Z p0 p1 p2 p3 h0 n0 s) (T1.setTop (mkF m 11 #[.val (.int p0), .val (.int p1), .val (.int p2), .val (.long p3), .second, .val (.int z3), .unset, .unset, .unset, .unset, .unset, .unset] [(.int p1)]))
    refine Go.back (fun t k => X1.ldcInt hx hown (mvT hZ (hw _ (List.mem_of_getElem? (i := 0) rfl))) (g := (mkF m 11 #[.val (.int p0), .val (.int p1), .val (.int p2), .val (.long p3), .second, .val (.int z3), .unset, .unset, .unset, .unset, .unset, .unset] [(.int p1)])) rfl (hb hby at_11) t k) ?_
    show Go p.tables e below (P0 Z p0 p1 p2 p3 h0 n0 s) (T1.setTop (mkF m 13 #[.val (.int p0), .val (.int p1), .val (.int p2), .val (.long p3), .second, .val (.int z3), .unset, .unset, .unset, .unset, .unset, .unset] [(.int (2147483647 : Int32)), (.int p1)]))
    refine Go.back (fun t k => XS.iand X1.here hx rfl (hb hby at_13) rfl k) ?_
    show Go p.tables e below (P0 Z p0 p1 p2 p3 h0 n0 s) (T1.setTop (mkF m 14 #[.val (.int p0), .val (.int p1), .val (.int p2), .val (.long p3), .second, .val (.int z3), .unset, .unset, .unset, .unset, .unset, .unset] [(.int (p1 &&& (2147483647 : Int32)))]))
    refine Go.back (fun t k => XS.istore X1.here hx rfl (hb hby at_14) rfl (l' := #[.val (.int p0), .val (.int p1), .val (.int p2), .val (.long p3), .second, .val (.int z3), .val (.int (p1 &&& (2147483647 : Int32))), .unset, .unset, .unset, .unset, .unset]) rfl k) ?_
    show Go p.tables e below (P0 Z p0 p1 p2 p3 h0 n0 s) (T1.setTop (mkF m 16 #[.val (.int p0), .val (.int p1), .val (.int p2), .val (.long p3), .second, .val (.int z3), .val (.int (p1 &&& (2147483647 : Int32))), .unset, .unset, .unset, .unset, .unset] []))
    have J5 : ∀ (z6 : Int32) (hz6 : z6 = (p1 &&& (2147483647 : Int32))), Go p.tables e below (P0 Z p0 p1 p2 p3 h0 n0 s) (T1.setTop (mkF m 16 #[.val (.int p0), .val (.int p1), .val (.int p2), .val (.long p3), .second, .val (.int z3), .val (.int z6), .unset, .unset, .unset, .unset, .unset] [])) := by
      intro z6 hz6
      have r7 : f0 p0 p1 p2 p3 = (let z9 : Int32 := ((p2 &&& (2147483647 : Int32)) % z3); (let z27 : Int64 := ((((((z6).toInt64) - ((z9).toInt64)) + ((z3).toInt64)) - (1 : Int64)) / ((z3).toInt64)); (let z31 : Bool := (if (((f5 z9 z6 z3)).toInt64) = z27 then true else false); z31))) := by subst hz6; exact r4
      show Go p.tables e below (P0 Z p0 p1 p2 p3 h0 n0 s) (T1.setTop (mkF m 16 #[.val (.int p0), .val (.int p1), .val (.int p2), .val (.long p3), .second, .val (.int z3), .val (.int z6), .unset, .unset, .unset, .unset, .unset] []))
      refine Go.back (fun t k => XS.iloadN X1.here hx rfl (hb hby at_16) rfl  k) ?_
      show Go p.tables e below (P0 Z p0 p1 p2 p3 h0 n0 s) (T1.setTop (mkF m 17 #[.val (.int p0), .val (.int p1), .val (.int p2), .val (.long p3), .second, .val (.int z3), .val (.int z6), .unset, .unset, .unset, .unset, .unset] [(.int p2)]))
      refine Go.back (fun t k => X1.ldcInt hx hown (mvT hZ (hw _ (List.mem_of_getElem? (i := 0) rfl))) (g := (mkF m 17 #[.val (.int p0), .val (.int p1), .val (.int p2), .val (.long p3), .second, .val (.int z3), .val (.int z6), .unset, .unset, .unset, .unset, .unset] [(.int p2)])) rfl (hb hby at_17) t k) ?_
      show Go p.tables e below (P0 Z p0 p1 p2 p3 h0 n0 s) (T1.setTop (mkF m 19 #[.val (.int p0), .val (.int p1), .val (.int p2), .val (.long p3), .second, .val (.int z3), .val (.int z6), .unset, .unset, .unset, .unset, .unset] [(.int (2147483647 : Int32)), (.int p2)]))
      refine Go.back (fun t k => XS.iand X1.here hx rfl (hb hby at_19) rfl k) ?_
      show Go p.tables e below (P0 Z p0 p1 p2 p3 h0 n0 s) (T1.setTop (mkF m 20 #[.val (.int p0), .val (.int p1), .val (.int p2), .val (.long p3), .second, .val (.int z3), .val (.int z6), .unset, .unset, .unset, .unset, .unset] [(.int (p2 &&& (2147483647 : Int32)))]))
      refine Go.back (fun t k => XS.iload X1.here hx rfl (hb hby at_20) rfl  k) ?_
      show Go p.tables e below (P0 Z p0 p1 p2 p3 h0 n0 s) (T1.setTop (mkF m 22 #[.val (.int p0), .val (.int p1), .val (.int p2), .val (.long p3), .second, .val (.int z3), .val (.int z6), .unset, .unset, .unset, .unset, .unset] [(.int z3), (.int (p2 &&& (2147483647 : Int32)))]))
      refine Go.back (fun t k => iremM X1 hx rfl (hb hby at_22) rfl (by rw [hz3]; exact own_max_ne _) k) ?_
      show Go p.tables e below (P0 Z p0 p1 p2 p3 h0 n0 s) (T1.setTop (mkF m 23 #[.val (.int p0), .val (.int p1), .val (.int p2), .val (.long p3), .second, .val (.int z3), .val (.int z6), .unset, .unset, .unset, .unset, .unset] [(.int ((p2 &&& (2147483647 : Int32)) % z3))]))
      refine Go.back (fun t k => XS.istore X1.here hx rfl (hb hby at_23) rfl (l' := #[.val (.int p0), .val (.int p1), .val (.int p2), .val (.long p3), .second, .val (.int z3), .val (.int z6), .val (.int ((p2 &&& (2147483647 : Int32)) % z3)), .unset, .unset, .unset, .unset]) rfl k) ?_
      show Go p.tables e below (P0 Z p0 p1 p2 p3 h0 n0 s) (T1.setTop (mkF m 25 #[.val (.int p0), .val (.int p1), .val (.int p2), .val (.long p3), .second, .val (.int z3), .val (.int z6), .val (.int ((p2 &&& (2147483647 : Int32)) % z3)), .unset, .unset, .unset, .unset] []))
      have J8 : ∀ (z9 : Int32) (hz9 : z9 = ((p2 &&& (2147483647 : Int32)) % z3)), Go p.tables e below (P0 Z p0 p1 p2 p3 h0 n0 s) (T1.setTop (mkF m 25 #[.val (.int p0), .val (.int p1), .val (.int p2), .val (.long p3), .second, .val (.int z3), .val (.int z6), .val (.int z9), .unset, .unset, .unset, .unset] [])) := by
        intro z9 hz9
        have r10 : f0 p0 p1 p2 p3 = (let z27 : Int64 := ((((((z6).toInt64) - ((z9).toInt64)) + ((z3).toInt64)) - (1 : Int64)) / ((z3).toInt64)); (let z31 : Bool := (if (((f5 z9 z6 z3)).toInt64) = z27 then true else false); z31)) := by subst hz9; exact r7
        show Go p.tables e below (P0 Z p0 p1 p2 p3 h0 n0 s) (T1.setTop (mkF m 25 #[.val (.int p0), .val (.int p1), .val (.int p2), .val (.long p3), .second, .val (.int z3), .val (.int z6), .val (.int z9), .unset, .unset, .unset, .unset] []))
        obtain ⟨T11, h11, X11, e11, E11, A11, D11, -, st11⟩ := newO X1 hx hZ hown (hw _ (List.mem_of_getElem? (i := 5) rfl)) (hw _ (List.mem_of_getElem? (i := 6) rfl)) (hw _ (List.mem_of_getElem? (i := 7) rfl)) e1 (g := (mkF m 25 #[.val (.int p0), .val (.int p1), .val (.int p2), .val (.long p3), .second, .val (.int z3), .val (.int z6), .val (.int z9), .unset, .unset, .unset, .unset] [])) rfl (hb hby at_25) (by decide) (by decide)
        obtain ⟨b11, g11⟩ : ∃ z, z = h0.size := ⟨_, rfl⟩
        rw [← g11] at A11 D11 st11
        have g12 : n0 ≤ b11 := Nat.le_trans Z0 (Nat.le_of_eq g11.symm)
        have F13 : n0 ≤ h11.size := Nat.le_trans Z0 E11.1
        have F14 : Fld Z h11 b11 "com/example/strict_schedule/strictschedule/bench/Workload" "accounts" "I" (.int (0 : Int32)) := D11 (Or.inr (hw _ (List.mem_of_getElem? (i := 20) rfl))) (ty := .int) (by decide)
        have F15 : Fld Z h11 b11 "com/example/strict_schedule/strictschedule/bench/Workload" "balance" "J" (.long (0 : Int64)) := D11 (Or.inr (hw _ (List.mem_of_getElem? (i := 22) rfl))) (ty := .long) (by decide)
        have F16 : Fld Z h11 b11 "com/example/strict_schedule/strictschedule/bench/Workload" "threads" "I" (.int (0 : Int32)) := D11 (Or.inr (hw _ (List.mem_of_getElem? (i := 24) rfl))) (ty := .int) (by decide)
        have F17 : Fld Z h11 b11 "com/example/strict_schedule/strictschedule/bench/Workload" "transfers" "I" (.int (0 : Int32)) := D11 (Or.inr (hw _ (List.mem_of_getElem? (i := 26) rfl))) (ty := .int) (by decide)
        have F18 : Fld Z h11 b11 "com/example/strict_schedule/strictschedule/bench/Workload" "seed" "J" (.long (0 : Int64)) := D11 (Or.inr (hw _ (List.mem_of_getElem? (i := 28) rfl))) (ty := .long) (by decide)
        refine Go.back st11 ?_
        show Go p.tables e below (P0 Z p0 p1 p2 p3 h0 n0 s) (T11.setTop (mkF m 28 #[.val (.int p0), .val (.int p1), .val (.int p2), .val (.long p3), .second, .val (.int z3), .val (.int z6), .val (.int z9), .unset, .unset, .unset, .unset] [(.ref b11)]))
        refine Go.back (fun t k => XS.dup X11.here hx rfl (hb hby at_28) rfl rfl k) ?_
        show Go p.tables e below (P0 Z p0 p1 p2 p3 h0 n0 s) (T11.setTop (mkF m 29 #[.val (.int p0), .val (.int p1), .val (.int p2), .val (.long p3), .second, .val (.int z3), .val (.int z6), .val (.int z9), .unset, .unset, .unset, .unset] [(.ref b11), (.ref b11)]))
        refine Go.back (fun t k => XS.iconst X11.here hx rfl (hb hby at_29) k) ?_
        show Go p.tables e below (P0 Z p0 p1 p2 p3 h0 n0 s) (T11.setTop (mkF m 30 #[.val (.int p0), .val (.int p1), .val (.int p2), .val (.long p3), .second, .val (.int z3), .val (.int z6), .val (.int z9), .unset, .unset, .unset, .unset] [(.int (2 : Int32)), (.ref b11), (.ref b11)]))
        refine Go.back (fun t k => XS.lconst X11.here hx rfl (hb hby at_30) k) ?_
        show Go p.tables e below (P0 Z p0 p1 p2 p3 h0 n0 s) (T11.setTop (mkF m 31 #[.val (.int p0), .val (.int p1), .val (.int p2), .val (.long p3), .second, .val (.int z3), .val (.int z6), .val (.int z9), .unset, .unset, .unset, .unset] [(.long (0 : Int64)), (.int (2 : Int32)), (.ref b11), (.ref b11)]))
        refine Go.back (fun t k => XS.iload X11.here hx rfl (hb hby at_31) rfl  k) ?_
        show Go p.tables e below (P0 Z p0 p1 p2 p3 h0 n0 s) (T11.setTop (mkF m 33 #[.val (.int p0), .val (.int p1), .val (.int p2), .val (.long p3), .second, .val (.int z3), .val (.int z6), .val (.int z9), .unset, .unset, .unset, .unset] [(.int z3), (.long (0 : Int64)), (.int (2 : Int32)), (.ref b11), (.ref b11)]))
        refine Go.back (fun t k => XS.iload X11.here hx rfl (hb hby at_33) rfl  k) ?_
        show Go p.tables e below (P0 Z p0 p1 p2 p3 h0 n0 s) (T11.setTop (mkF m 35 #[.val (.int p0), .val (.int p1), .val (.int p2), .val (.long p3), .second, .val (.int z3), .val (.int z6), .val (.int z9), .unset, .unset, .unset, .unset] [(.int z6), (.int z3), (.long (0 : Int64)), (.int (2 : Int32)), (.ref b11), (.ref b11)]))
        refine Go.back (fun t k => XS.lloadN X11.here hx rfl (hb hby at_35) rfl  k) ?_
        show Go p.tables e below (P0 Z p0 p1 p2 p3 h0 n0 s) (T11.setTop (mkF m 36 #[.val (.int p0), .val (.int p1), .val (.int p2), .val (.long p3), .second, .val (.int z3), .val (.int z6), .val (.int z9), .unset, .unset, .unset, .unset] [(.long p3), (.int z6), (.int z3), (.long (0 : Int64)), (.int (2 : Int32)), (.ref b11), (.ref b11)]))
        obtain ⟨_, _, ⟨T19, L19, k19, n19⟩, -, X19, ⟨Lc19, hQ19, l19, y19, z19⟩, st19⟩ := X11.specialBack hx (y := (⟨"com/example/strict_schedule/strictschedule/bench/Workload", "<init>", "(IJIIJ)V"⟩ : MethodName)) rfl hown (mvT hZ (hw _ (List.mem_of_getElem? (i := 8) rfl))) (mvT hZ (hw _ (List.mem_of_getElem? (i := 9) rfl))) (mvT hZ (hw _ (List.mem_of_getElem? (i := 10) rfl))) (by decide) (backOf (W := 1) (rm2 l Z a0 hw [] b11 (2 : Int32) (0 : Int64) z3 z6 p3 h11 n0 F13 A11 F14 F15 F16 F17 F18 g12 (by decide) (by decide) (by rw [hz3]; exact own_max_lt _) (by rw [hz6]; exact own_mask_nn _)) hZ (hw _ (List.mem_of_getElem? (i := 10) rfl)) (hw _ (List.mem_of_getElem? (i := 7) rfl)) (by decide) (by decide)) (g := (mkF m 36 #[.val (.int p0), .val (.int p1), .val (.int p2), .val (.long p3), .second, .val (.int z3), .val (.int z6), .val (.int z9), .unset, .unset, .unset, .unset] [(.long p3), (.int z6), (.int z3), (.long (0 : Int64)), (.int (2 : Int32)), (.ref b11), (.ref b11)])) rfl (by rw [hml]; rfl) (Steps.refl _) (a := b11) (argsL := [(.int (2 : Int32)), (.long (0 : Int64)), (.int z3), (.int z6), (.long p3)]) (rest := [(.ref b11)]) (lenOf pd_2 rfl) rfl (by show 2 * 0 + _ ≤ _; exact Nat.le_of_eq rfl) (hb hby at_36) (fun _ _ => ⟨rfl, e11, (by decide : 1 + 0 ≤ _), (by decide : 5 + 0 ≤ _)⟩)
        dsimp only [Pt.U, Pt.locs, Pt.cells, Pt.slots] at X19 l19 y19 z19 st19 hQ19
        subst l19 y19 z19
        obtain ⟨h19, e19⟩ : ∃ z, T19.heap = z := ⟨_, rfl⟩
        rw [e19] at hQ19
        obtain ⟨rfl, N19q, K19, F22, F23, F24⟩ := hQ19
        have N19 := Fr.app N1 N19q
        have F20 : n0 ≤ h19.size := Nat.le_trans F13 K19.1
        have F21 : Exa Z h19 b11 "com/example/strict_schedule/strictschedule/bench/Workload" := A11.keep K19
        refine Go.trans st19 ?_
        show Go p.tables e below (P0 Z p0 p1 p2 p3 h0 n0 s) (T19.setTop (mkF m 39 #[.val (.int p0), .val (.int p1), .val (.int p2), .val (.long p3), .second, .val (.int z3), .val (.int z6), .val (.int z9), .unset, .unset, .unset, .unset] [(.ref b11)]))
        refine Go.back (fun t k => XS.astore X19.here hx rfl (hb hby at_39) rfl rfl (l' := #[.val (.int p0), .val (.int p1), .val (.int p2), .val (.long p3), .second, .val (.int z3), .val (.int z6), .val (.int z9), .val (.ref b11), .unset, .unset, .unset]) rfl k) ?_
        show Go p.tables e below (P0 Z p0 p1 p2 p3 h0 n0 s) (T19.setTop (mkF m 41 #[.val (.int p0), .val (.int p1), .val (.int p2), .val (.long p3), .second, .val (.int z3), .val (.int z6), .val (.int z9), .val (.ref b11), .unset, .unset, .unset] []))
        refine Go.back (fun t k => XS.aload X19.here hx rfl (hb hby at_41) rfl rfl  k) ?_
        show Go p.tables e below (P0 Z p0 p1 p2 p3 h0 n0 s) (T19.setTop (mkF m 43 #[.val (.int p0), .val (.int p1), .val (.int p2), .val (.long p3), .second, .val (.int z3), .val (.int z6), .val (.int z9), .val (.ref b11), .unset, .unset, .unset] [(.ref b11)]))
        refine Go.back (fun t k => XS.iload X19.here hx rfl (hb hby at_43) rfl  k) ?_
        show Go p.tables e below (P0 Z p0 p1 p2 p3 h0 n0 s) (T19.setTop (mkF m 45 #[.val (.int p0), .val (.int p1), .val (.int p2), .val (.long p3), .second, .val (.int z3), .val (.int z6), .val (.int z9), .val (.ref b11), .unset, .unset, .unset] [(.int z9), (.ref b11)]))
        obtain ⟨cq25, kq25, q25a, q25b, q25c⟩ := isOf hZ e19 F22
        obtain ⟨_, _, ⟨T25, L25, k25, n25⟩, -, X25, ⟨Lc25, hQ25, l25, y25, z25⟩, st25⟩ := X19.virtualBack hx (y := (⟨"com/example/strict_schedule/strictschedule/bench/Workload", "share", "(I)I"⟩ : MethodName)) (z := (⟨"com/example/strict_schedule/strictschedule/bench/Workload", "share", "(I)I"⟩ : MethodName)) hown (mvT hZ (hw _ (List.mem_of_getElem? (i := 29) rfl))) (mvT hZ (hw _ (List.mem_of_getElem? (i := 30) rfl))) (notFace_of_selects (args := #[]) (mvT hZ (hw _ (List.mem_of_getElem? (i := 32) rfl)))) (mvT hZ (hw _ (List.mem_of_getElem? (i := 32) rfl))) (mvT hZ (hw _ (List.mem_of_getElem? (i := 31) rfl))) (by decide) (backOf (W := 0) (rm5 l Z a0 hw [] b11 z9 z6 z3 h19 n0 F20 F24 F23 (by rw [hz3]; exact own_max_ne _)) hZ (hw _ (List.mem_of_getElem? (i := 33) rfl)) (hw _ (List.mem_of_getElem? (i := 7) rfl)) (by decide) (by decide)) q25a q25c (g := (mkF m 45 #[.val (.int p0), .val (.int p1), .val (.int p2), .val (.long p3), .second, .val (.int z3), .val (.int z6), .val (.int z9), .val (.ref b11), .unset, .unset, .unset] [(.int z9), (.ref b11)])) rfl (by rw [hml]; rfl) (Steps.refl _) (argsL := [(.int z9)]) (rest := []) (lenOf pd_3 rfl) rfl (by show 2 * 0 + _ ≤ _; exact Nat.le_of_eq rfl) (hb hby at_45) (fun _ _ => ⟨rfl, e19, (by decide : 1 + 0 ≤ _), (by decide : 5 + 0 ≤ _)⟩)
        dsimp only [Pt.U, Pt.locs, Pt.cells, Pt.slots] at X25 l25 y25 z25 st25 hQ25
        subst l25 y25 z25
        obtain ⟨rfl, N25q, e25⟩ := hQ25
        have N25 := Fr.app N19 N25q
        refine Go.trans st25 ?_
        show Go p.tables e below (P0 Z p0 p1 p2 p3 h0 n0 s) (T25.setTop (mkF m 48 #[.val (.int p0), .val (.int p1), .val (.int p2), .val (.long p3), .second, .val (.int z3), .val (.int z6), .val (.int z9), .val (.ref b11), .unset, .unset, .unset] [(.int (f5 z9 z6 z3))]))
        refine Go.back (fun t k => XS.istore X25.here hx rfl (hb hby at_48) rfl (l' := #[.val (.int p0), .val (.int p1), .val (.int p2), .val (.long p3), .second, .val (.int z3), .val (.int z6), .val (.int z9), .val (.ref b11), .val (.int (f5 z9 z6 z3)), .unset, .unset]) rfl k) ?_
        show Go p.tables e below (P0 Z p0 p1 p2 p3 h0 n0 s) (T25.setTop (mkF m 50 #[.val (.int p0), .val (.int p1), .val (.int p2), .val (.long p3), .second, .val (.int z3), .val (.int z6), .val (.int z9), .val (.ref b11), .val (.int (f5 z9 z6 z3)), .unset, .unset] []))
        refine Go.back (fun t k => XS.iload X25.here hx rfl (hb hby at_50) rfl  k) ?_
        show Go p.tables e below (P0 Z p0 p1 p2 p3 h0 n0 s) (T25.setTop (mkF m 52 #[.val (.int p0), .val (.int p1), .val (.int p2), .val (.long p3), .second, .val (.int z3), .val (.int z6), .val (.int z9), .val (.ref b11), .val (.int (f5 z9 z6 z3)), .unset, .unset] [(.int z6)]))
        refine Go.back (fun t k => XS.i2l X25.here hx rfl (hb hby at_52) rfl k) ?_
        show Go p.tables e below (P0 Z p0 p1 p2 p3 h0 n0 s) (T25.setTop (mkF m 53 #[.val (.int p0), .val (.int p1), .val (.int p2), .val (.long p3), .second, .val (.int z3), .val (.int z6), .val (.int z9), .val (.ref b11), .val (.int (f5 z9 z6 z3)), .unset, .unset] [(.long ((z6).toInt64))]))
        refine Go.back (fun t k => XS.iload X25.here hx rfl (hb hby at_53) rfl  k) ?_
        show Go p.tables e below (P0 Z p0 p1 p2 p3 h0 n0 s) (T25.setTop (mkF m 55 #[.val (.int p0), .val (.int p1), .val (.int p2), .val (.long p3), .second, .val (.int z3), .val (.int z6), .val (.int z9), .val (.ref b11), .val (.int (f5 z9 z6 z3)), .unset, .unset] [(.int z9), (.long ((z6).toInt64))]))
        refine Go.back (fun t k => XS.i2l X25.here hx rfl (hb hby at_55) rfl k) ?_
        show Go p.tables e below (P0 Z p0 p1 p2 p3 h0 n0 s) (T25.setTop (mkF m 56 #[.val (.int p0), .val (.int p1), .val (.int p2), .val (.long p3), .second, .val (.int z3), .val (.int z6), .val (.int z9), .val (.ref b11), .val (.int (f5 z9 z6 z3)), .unset, .unset] [(.long ((z9).toInt64)), (.long ((z6).toInt64))]))
        refine Go.back (fun t k => XS.lsub X25.here hx rfl (hb hby at_56) rfl k) ?_
        show Go p.tables e below (P0 Z p0 p1 p2 p3 h0 n0 s) (T25.setTop (mkF m 57 #[.val (.int p0), .val (.int p1), .val (.int p2), .val (.long p3), .second, .val (.int z3), .val (.int z6), .val (.int z9), .val (.ref b11), .val (.int (f5 z9 z6 z3)), .unset, .unset] [(.long (((z6).toInt64) - ((z9).toInt64)))]))
        refine Go.back (fun t k => XS.iload X25.here hx rfl (hb hby at_57) rfl  k) ?_
        show Go p.tables e below (P0 Z p0 p1 p2 p3 h0 n0 s) (T25.setTop (mkF m 59 #[.val (.int p0), .val (.int p1), .val (.int p2), .val (.long p3), .second, .val (.int z3), .val (.int z6), .val (.int z9), .val (.ref b11), .val (.int (f5 z9 z6 z3)), .unset, .unset] [(.int z3), (.long (((z6).toInt64) - ((z9).toInt64)))]))
        refine Go.back (fun t k => XS.i2l X25.here hx rfl (hb hby at_59) rfl k) ?_
        show Go p.tables e below (P0 Z p0 p1 p2 p3 h0 n0 s) (T25.setTop (mkF m 60 #[.val (.int p0), .val (.int p1), .val (.int p2), .val (.long p3), .second, .val (.int z3), .val (.int z6), .val (.int z9), .val (.ref b11), .val (.int (f5 z9 z6 z3)), .unset, .unset] [(.long ((z3).toInt64)), (.long (((z6).toInt64) - ((z9).toInt64)))]))
        refine Go.back (fun t k => XS.ladd X25.here hx rfl (hb hby at_60) rfl k) ?_
        show Go p.tables e below (P0 Z p0 p1 p2 p3 h0 n0 s) (T25.setTop (mkF m 61 #[.val (.int p0), .val (.int p1), .val (.int p2), .val (.long p3), .second, .val (.int z3), .val (.int z6), .val (.int z9), .val (.ref b11), .val (.int (f5 z9 z6 z3)), .unset, .unset] [(.long ((((z6).toInt64) - ((z9).toInt64)) + ((z3).toInt64)))]))
        refine Go.back (fun t k => XS.lconst X25.here hx rfl (hb hby at_61) k) ?_
        show Go p.tables e below (P0 Z p0 p1 p2 p3 h0 n0 s) (T25.setTop (mkF m 62 #[.val (.int p0), .val (.int p1), .val (.int p2), .val (.long p3), .second, .val (.int z3), .val (.int z6), .val (.int z9), .val (.ref b11), .val (.int (f5 z9 z6 z3)), .unset, .unset] [(.long (1 : Int64)), (.long ((((z6).toInt64) - ((z9).toInt64)) + ((z3).toInt64)))]))
        refine Go.back (fun t k => XS.lsub X25.here hx rfl (hb hby at_62) rfl k) ?_
        show Go p.tables e below (P0 Z p0 p1 p2 p3 h0 n0 s) (T25.setTop (mkF m 63 #[.val (.int p0), .val (.int p1), .val (.int p2), .val (.long p3), .second, .val (.int z3), .val (.int z6), .val (.int z9), .val (.ref b11), .val (.int (f5 z9 z6 z3)), .unset, .unset] [(.long (((((z6).toInt64) - ((z9).toInt64)) + ((z3).toInt64)) - (1 : Int64)))]))
        refine Go.back (fun t k => XS.iload X25.here hx rfl (hb hby at_63) rfl  k) ?_
        show Go p.tables e below (P0 Z p0 p1 p2 p3 h0 n0 s) (T25.setTop (mkF m 65 #[.val (.int p0), .val (.int p1), .val (.int p2), .val (.long p3), .second, .val (.int z3), .val (.int z6), .val (.int z9), .val (.ref b11), .val (.int (f5 z9 z6 z3)), .unset, .unset] [(.int z3), (.long (((((z6).toInt64) - ((z9).toInt64)) + ((z3).toInt64)) - (1 : Int64)))]))
        refine Go.back (fun t k => XS.i2l X25.here hx rfl (hb hby at_65) rfl k) ?_
        show Go p.tables e below (P0 Z p0 p1 p2 p3 h0 n0 s) (T25.setTop (mkF m 66 #[.val (.int p0), .val (.int p1), .val (.int p2), .val (.long p3), .second, .val (.int z3), .val (.int z6), .val (.int z9), .val (.ref b11), .val (.int (f5 z9 z6 z3)), .unset, .unset] [(.long ((z3).toInt64)), (.long (((((z6).toInt64) - ((z9).toInt64)) + ((z3).toInt64)) - (1 : Int64)))]))
        refine Go.back (fun t k => XS.ldiv X25.here hx rfl (hb hby at_66) rfl (own_long_ne (by rw [hz3]; exact own_max_lt _)) k) ?_
        show Go p.tables e below (P0 Z p0 p1 p2 p3 h0 n0 s) (T25.setTop (mkF m 67 #[.val (.int p0), .val (.int p1), .val (.int p2), .val (.long p3), .second, .val (.int z3), .val (.int z6), .val (.int z9), .val (.ref b11), .val (.int (f5 z9 z6 z3)), .unset, .unset] [(.long ((((((z6).toInt64) - ((z9).toInt64)) + ((z3).toInt64)) - (1 : Int64)) / ((z3).toInt64)))]))
        refine Go.back (fun t k => XS.lstore X25.here hx rfl (hb hby at_67) rfl (l' := #[.val (.int p0), .val (.int p1), .val (.int p2), .val (.long p3), .second, .val (.int z3), .val (.int z6), .val (.int z9), .val (.ref b11), .val (.int (f5 z9 z6 z3)), .val (.long ((((((z6).toInt64) - ((z9).toInt64)) + ((z3).toInt64)) - (1 : Int64)) / ((z3).toInt64))), .second]) rfl k) ?_
        show Go p.tables e below (P0 Z p0 p1 p2 p3 h0 n0 s) (T25.setTop (mkF m 69 #[.val (.int p0), .val (.int p1), .val (.int p2), .val (.long p3), .second, .val (.int z3), .val (.int z6), .val (.int z9), .val (.ref b11), .val (.int (f5 z9 z6 z3)), .val (.long ((((((z6).toInt64) - ((z9).toInt64)) + ((z3).toInt64)) - (1 : Int64)) / ((z3).toInt64))), .second] []))
        have J26 : ∀ (z27 : Int64) (hz27 : z27 = ((((((z6).toInt64) - ((z9).toInt64)) + ((z3).toInt64)) - (1 : Int64)) / ((z3).toInt64))), Go p.tables e below (P0 Z p0 p1 p2 p3 h0 n0 s) (T25.setTop (mkF m 69 #[.val (.int p0), .val (.int p1), .val (.int p2), .val (.long p3), .second, .val (.int z3), .val (.int z6), .val (.int z9), .val (.ref b11), .val (.int (f5 z9 z6 z3)), .val (.long z27), .second] [])) := by
          intro z27 hz27
          have r28 : f0 p0 p1 p2 p3 = (let z31 : Bool := (if (((f5 z9 z6 z3)).toInt64) = z27 then true else false); z31) := by subst hz27; exact r10
          show Go p.tables e below (P0 Z p0 p1 p2 p3 h0 n0 s) (T25.setTop (mkF m 69 #[.val (.int p0), .val (.int p1), .val (.int p2), .val (.long p3), .second, .val (.int z3), .val (.int z6), .val (.int z9), .val (.ref b11), .val (.int (f5 z9 z6 z3)), .val (.long z27), .second] []))
          refine Go.back (fun t k => XS.iload X25.here hx rfl (hb hby at_69) rfl  k) ?_
          show Go p.tables e below (P0 Z p0 p1 p2 p3 h0 n0 s) (T25.setTop (mkF m 71 #[.val (.int p0), .val (.int p1), .val (.int p2), .val (.long p3), .second, .val (.int z3), .val (.int z6), .val (.int z9), .val (.ref b11), .val (.int (f5 z9 z6 z3)), .val (.long z27), .second] [(.int (f5 z9 z6 z3))]))
          refine Go.back (fun t k => XS.i2l X25.here hx rfl (hb hby at_71) rfl k) ?_
          show Go p.tables e below (P0 Z p0 p1 p2 p3 h0 n0 s) (T25.setTop (mkF m 72 #[.val (.int p0), .val (.int p1), .val (.int p2), .val (.long p3), .second, .val (.int z3), .val (.int z6), .val (.int z9), .val (.ref b11), .val (.int (f5 z9 z6 z3)), .val (.long z27), .second] [(.long (((f5 z9 z6 z3)).toInt64))]))
          refine Go.back (fun t k => XS.lload X25.here hx rfl (hb hby at_72) rfl  k) ?_
          show Go p.tables e below (P0 Z p0 p1 p2 p3 h0 n0 s) (T25.setTop (mkF m 74 #[.val (.int p0), .val (.int p1), .val (.int p2), .val (.long p3), .second, .val (.int z3), .val (.int z6), .val (.int z9), .val (.ref b11), .val (.int (f5 z9 z6 z3)), .val (.long z27), .second] [(.long z27), (.long (((f5 z9 z6 z3)).toInt64))]))
          refine Go.back (fun t k => XS.lcmp X25.here hx rfl (hb hby at_74) rfl k) ?_
          show Go p.tables e below (P0 Z p0 p1 p2 p3 h0 n0 s) (T25.setTop (mkF m 75 #[.val (.int p0), .val (.int p1), .val (.int p2), .val (.long p3), .second, .val (.int z3), .val (.int z6), .val (.int z9), .val (.ref b11), .val (.int (f5 z9 z6 z3)), .val (.long z27), .second] [(.int (lcmpW (((f5 z9 z6 z3)).toInt64) z27))]))
          have J30 : ∀ (z31 : Bool) (hz31 : z31 = (if (((f5 z9 z6 z3)).toInt64) = z27 then true else false)), Go p.tables e below (P0 Z p0 p1 p2 p3 h0 n0 s) (T25.setTop (mkF m 83 #[.val (.int p0), .val (.int p1), .val (.int p2), .val (.long p3), .second, .val (.int z3), .val (.int z6), .val (.int z9), .val (.ref b11), .val (.int (f5 z9 z6 z3)), .val (.long z27), .second] [(.int (b2i z31))])) := by
            intro z31 hz31
            have r32 : f0 p0 p1 p2 p3 = z31 := by subst hz31; exact r28
            show Go p.tables e below (P0 Z p0 p1 p2 p3 h0 n0 s) (T25.setTop (mkF m 83 #[.val (.int p0), .val (.int p1), .val (.int p2), .val (.long p3), .second, .val (.int z3), .val (.int z6), .val (.int z9), .val (.ref b11), .val (.int (f5 z9 z6 z3)), .val (.long z27), .second] [(.int (b2i z31))]))
            exact Go.retB (b := z31) X25 hx Bd.returns (hb hby at_83) Bd.notSynchronized ⟨by rw [r32], N25⟩ (by decide) (by decide)
          have r33 : (if (((f5 z9 z6 z3)).toInt64) = z27 then true else false) = (if (((f5 z9 z6 z3)).toInt64) = z27 then true else false) := rfl
          by_cases hc29 : (((f5 z9 z6 z3)).toInt64) = z27
          · have r34 := r33.trans (if_pos hc29)
            refine Go.back (fun t k => XS.ifNo X25.here hx rfl (hb hby at_75) rfl ((if0 _ _).trans (teq ((lw_eq _ _).mpr hc29)).2) k) ?_
            show Go p.tables e below (P0 Z p0 p1 p2 p3 h0 n0 s) (T25.setTop (mkF m 78 #[.val (.int p0), .val (.int p1), .val (.int p2), .val (.long p3), .second, .val (.int z3), .val (.int z6), .val (.int z9), .val (.ref b11), .val (.int (f5 z9 z6 z3)), .val (.long z27), .second] []))
            refine Go.back (fun t k => XS.iconst X25.here hx rfl (hb hby at_78) k) ?_
            show Go p.tables e below (P0 Z p0 p1 p2 p3 h0 n0 s) (T25.setTop (mkF m 79 #[.val (.int p0), .val (.int p1), .val (.int p2), .val (.long p3), .second, .val (.int z3), .val (.int z6), .val (.int z9), .val (.ref b11), .val (.int (f5 z9 z6 z3)), .val (.long z27), .second] [(.int (1 : Int32))]))
            refine Go.back (fun t k => XS.goto X25.here hx rfl (pc0 := 79) (pc' := 83) rfl (hb hby at_79) (by decide) (by decide) k) ?_
            show Go p.tables e below (P0 Z p0 p1 p2 p3 h0 n0 s) (T25.setTop (mkF m 83 #[.val (.int p0), .val (.int p1), .val (.int p2), .val (.long p3), .second, .val (.int z3), .val (.int z6), .val (.int z9), .val (.ref b11), .val (.int (f5 z9 z6 z3)), .val (.long z27), .second] [(.int (1 : Int32))]))
            exact J30 true r34.symm
          · have r35 := r33.trans (if_neg hc29)
            refine Go.back (fun t k => XS.ifYes X25.here hx rfl (pc0 := 75) (pc' := 82) rfl (hb hby at_75) rfl ((if0 _ _).trans (feq (fun q => hc29 ((lw_eq _ _).mp q))).2) (by decide) (by decide) k) ?_
            show Go p.tables e below (P0 Z p0 p1 p2 p3 h0 n0 s) (T25.setTop (mkF m 82 #[.val (.int p0), .val (.int p1), .val (.int p2), .val (.long p3), .second, .val (.int z3), .val (.int z6), .val (.int z9), .val (.ref b11), .val (.int (f5 z9 z6 z3)), .val (.long z27), .second] []))
            refine Go.back (fun t k => XS.iconst X25.here hx rfl (hb hby at_82) k) ?_
            show Go p.tables e below (P0 Z p0 p1 p2 p3 h0 n0 s) (T25.setTop (mkF m 83 #[.val (.int p0), .val (.int p1), .val (.int p2), .val (.long p3), .second, .val (.int z3), .val (.int z6), .val (.int z9), .val (.ref b11), .val (.int (f5 z9 z6 z3)), .val (.long z27), .second] [(.int (0 : Int32))]))
            exact J30 false r35.symm
        exact J26 _ rfl
      exact J8 _ rfl
    exact J5 _ rfl
  exact J2 _ rfl
theorem own_div (X t T : Int) (hT : 0 < T) (h0 : 0 ≤ t) (h1 : t < T) : (X - t + T - 1) / T = X / T + if t < X % T then 1 else 0 := by
  have e : X = T * (X / T) + X % T := (Int.mul_ediv_add_emod X T).symm
  have r0 := Int.emod_nonneg X (show T ≠ 0 by omega)
  have r1 := Int.emod_lt_of_pos X hT
  generalize X / T = k at *
  generalize X % T = r at *
  split
  · rename_i c
    rw [show X - t + T - 1 = (r - t - 1) + T * (k + 1) by rw [e, Int.mul_add]; omega, Int.add_mul_ediv_left _ _ (by omega), Int.ediv_eq_zero_of_lt (by omega) (by omega)]; omega
  · rename_i c
    rw [show X - t + T - 1 = (r - t + T - 1) + T * k by rw [e]; omega, Int.add_mul_ediv_left _ _ (by omega), Int.ediv_eq_zero_of_lt (by omega) (by omega)]; omega
theorem own_law (p0 p1 p2 : Int32) (p3 : Int64) : f0 p0 p1 p2 p3 = true := by
  unfold f0
  dsimp only
  have hT : ¬ f1 (1 : Int32) (p0 &&& (2147483647 : Int32)) < (1 : Int32) := own_max_lt _
  generalize f1 (1 : Int32) (p0 &&& (2147483647 : Int32)) = th at *
  have hX := own_mask p1
  generalize (p1 &&& (2147483647 : Int32)) = tr at *
  have h2 := own_mask p2
  generalize (p2 &&& (2147483647 : Int32)) = u at *
  rw [Int32.lt_iff_toInt_lt, own_l1] at hT
  have ht := (c_iremV u th).1 (by omega) (by omega)
  generalize u % th = t at *
  have d1 : (tr / th).toInt = tr.toInt / th.toInt := (c_idiv tr th _ rfl (fun e => by rw [e] at hT; exact hT (by decide))).1 (by omega)
  have d2 : (tr % th).toInt = tr.toInt % th.toInt := (c_irem tr th _ rfl).1 (by omega)
  have R1 := rng32 tr; have R2 := rng32 th; have R3 := rng32 t
  have l1 : (1 : Int64).toInt = 1 := rfl
  have a1 := c_lsub tr.toInt64 t.toInt64
  have a2 := c_ladd (tr.toInt64 - t.toInt64) th.toInt64
  have a3 := c_lsub (tr.toInt64 - t.toInt64 + th.toInt64) 1
  have b1 := rng64 (tr.toInt64 - t.toInt64)
  have b2 := rng64 (tr.toInt64 - t.toInt64 + th.toInt64)
  have b3 := rng64 (tr.toInt64 - t.toInt64 + th.toInt64 - 1)
  rw [c_i2l, c_i2l] at a1
  rw [c_i2l] at a2
  rw [l1] at a3
  have n : (tr.toInt64 - t.toInt64 + th.toInt64 - 1).toInt = tr.toInt - t.toInt + th.toInt - 1 := by omega
  have q := (c_ldiv (tr.toInt64 - t.toInt64 + th.toInt64 - 1) th.toInt64 th.toInt (c_i2l th) (fun e => by have := congrArg Int64.toInt e; rw [c_i2l] at this; have : (-1 : Int64).toInt = -1 := rfl; omega)).1 (by omega)
  rw [n, own_div _ _ _ (by omega) (by omega) (by omega)] at q
  have g : (f5 t tr th).toInt64.toInt = tr.toInt / th.toInt + if t.toInt < tr.toInt % th.toInt then 1 else 0 := by
    rw [c_i2l]
    unfold f5
    simp only [Int32.lt_iff_toInt_lt, d2]
    have dn : 0 ≤ tr.toInt / th.toInt := Int.ediv_nonneg (by omega) (by omega)
    have dl : tr.toInt / th.toInt ≤ tr.toInt := Int.ediv_le_self _ (by omega)
    have rr := Int.emod_lt_of_pos tr.toInt (show 0 < th.toInt by omega)
    have me := Int.mul_ediv_add_emod tr.toInt th.toInt
    split
    · rename_i c
      have two : 2 ≤ th.toInt := by omega
      have le : 2 * (tr.toInt / th.toInt) ≤ th.toInt * (tr.toInt / th.toInt) := Int.mul_le_mul_of_nonneg_right two dn
      have rn := Int.emod_nonneg tr.toInt (show th.toInt ≠ 0 by omega)
      have e := c_iadd (tr / th) (b2i true); have r := rng32 (tr / th + b2i true)
      rw [d1, show (b2i true).toInt = 1 from rfl] at e
      omega
    · have e := c_iadd (tr / th) (b2i false); have r := rng32 (tr / th + b2i false)
      rw [d1, show (b2i false).toInt = 0 from rfl] at e
      omega
  have fin : (f5 t tr th).toInt64 = (tr.toInt64 - t.toInt64 + th.toInt64 - 1) / th.toInt64 := Int64.toInt_inj.mp (g.trans q.symm)
  simp only [fin, if_true]
set_option maxRecDepth 65536 in
set_option maxHeartbeats 40000000 in
theorem comes_1 {Post : Tables → Env → Array Value → State → Outcome → State → Prop} (hpost : ∀ tb e args s v u, (limb_1_1.after args s (.returned v) u = true ∧ limb_1_2.after args s (.returned v) u = true ∧ True) → FrameEnd s (.returned v) u (Jvm.fieldLocs frame_1_writes args s ++ Jvm.arrayLocs frame_1_arrays args s ++ Jvm.staticLocs frame_1_statics s) 16 128 → Post tb e args s (.returned v) u) :
    ArmFor flags0 classFile x code maxLocals ret World_1 tables_1 room_1 Calls_1 rest_1 Pre_1 Post := by
  intro l hfl _ _ p e ha hc hk s m args below hf hA hF happ hP
  obtain ⟨hcalls, hrest, hpre⟩ := hP
  obtain ⟨-, -, -, hnamed, -, -, -, hat⟩ := (Spec.applies_iff hf).mp happ
  obtain ⟨hg, hn⟩ := and_e (Cond.before_iff.mp (show (Jvm.Cond.and given_1 narrow_1).before args s = true from hpre))
  obtain ⟨g1, g2⟩ := and_e hg
  obtain ⟨g3, g4⟩ := and_e g2
  obtain ⟨g5, g6⟩ := and_e g4
  obtain ⟨g7, g8⟩ := and_e g6
  obtain ⟨w0, w1, w2, w3, rfl⟩ : ∃ w0 w1 w2 w3 : Value, args = #[w0, w1, w2, w3] := by
    have hs : args.size = 4 := by simpa [Cond.value, given_1] using g1
    obtain ⟨L⟩ := args
    match L, hs with
    | [w0, w1, w2, w3], _ => exact ⟨w0, w1, w2, w3, rfl⟩
  have hw := fun d (hd : d ∈ tables_1) => atoms_spec (ws := Jvm.Cond.code x code maxLocals ret :: tables_1) hat d (List.mem_cons_of_mem _ hd)
  have hfit : Fit s := fun {y c} hc i hi => by
    obtain ⟨ha, rfl⟩ := Array.getElem?_eq_some_iff.mp hc
    have q := List.all_eq_true.mp ((Array.all_eq_true_iff_forall_mem.mp hF) _ (Array.getElem_mem ha)) i (List.mem_range.mpr hi)
    simpa [Array.getElem?_eq_getElem hi] using q
  obtain ⟨i0, ei0⟩ := is_v g3
  obtain rfl : w0 = (.int i0) := Option.some.inj ei0
  obtain ⟨i1, ei1⟩ := is_v g5
  obtain rfl : w1 = (.int i1) := Option.some.inj ei1
  obtain ⟨i2, ei2⟩ := is_v g7
  obtain rfl : w2 = (.int i2) := Option.some.inj ei2
  obtain ⟨i3, ei3⟩ := isL_v g8
  obtain rfl : w3 = (.long i3) := Option.some.inj ei3
  obtain ⟨n, o, h1, h2, h3, v, L, rfl, hQ, hq⟩ := rm0 l s _ hw tables_1 i0 i1 i2 i3 s.heap s.heap.size (Nat.le_refl _) p e ha hc hk s m _ below hf ((Spec.applies_iff_loose hf).mp happ).1 ⟨rfl, State.Warmed39.refl s, rfl⟩ trivial
  have hv : v = some (.int (b2i (f0 i0 i1 i2 i3))) := hQ.1
  rw [own_law i0 i1 i2 i3] at hv
  subst hv
  have N : Fr s.heap.size L := by first | exact hQ.2.1 | exact hQ.2
  refine ⟨n, _, h1, h2, h3, hpost _ _ _ _ _ _ ⟨Cond.after_iff.mpr rfl, Cond.after_iff.mpr (eq_i res_at (Term.int_eval (1)) rfl), trivial⟩ ⟨hq.1, hq.2.1, (hq.2.2.sift fun y hy => Or.inr (N y hy)).mono (by decide) (by decide)⟩⟩
theorem main_1_1 : Claimed_1_1 := comes_1 fun _ _ _ _ _ _ h hF => ⟨h.1, hF⟩
theorem main_1_2 : Claimed_1_2 := comes_1 fun _ _ _ _ _ _ h hF => ⟨h.2.1, hF⟩
end Jvm.Pilot.@@N@@
namespace Jvm.Pilot.@@N@@
open Jvm Jvm.ClassFile Sem Op Lib Jvm.Free Jvm.Stand Jvm.Pilot.@@N@@.Jvm.D
/-! MADE BY PROGRAM (witnessworld.py) out of the Statement's table words and the real class files: 11 classes; the members and pool entries that the words name. The judged class is class 1, her method 1. -/
namespace start1
open Jvm.ClassFile
def u (s : String) : CpInfo := .utf8 (stringToUtf16 s)
/-- a pool by its gaps: so many unusable entries, then the entry; so many at the end -/
def gap : Nat → List CpInfo → List CpInfo
  | 0, r => r
  | n + 1, r => .unusable :: gap n r
def poolList (es : List (Nat × CpInfo)) (last : Nat) : List CpInfo := es.foldr (fun e r => gap e.1 (e.2 :: r)) (gap last [])
def pool (es : List (Nat × CpInfo)) (last : Nat) : Array CpInfo := ⟨poolList es last⟩
def fileOf (pool : Array CpInfo) (this : Nat) (attrs : Array Attribute := #[]) (ms : Array MethodInfo := #[]) (fl : Nat := 33) (sup : Nat := 0) (ifs : Array Nat := #[]) (fds : Array FieldInfo := #[]) : ClassFile where
  minorVersion := 0
  majorVersion := 65
  constantPool := pool
  accessFlags := fl
  thisClass := this
  superClass := sup
  interfaces := ifs
  fields := fds
  methods := ms
  attributes := attrs
def plain (name : String) (sup : Option ClassId) : Class where
  name := name
  kind := .ordinary
  loader := none
  accessFlags := 33
  super := sup
  interfaces := #[]
  cf := none
  fields := #[]
  methods := #[]
  instanceTypes := #[]
  staticTypes := #[]
  resolved := #[]
  callSites := []
  init := .initialized
  statics := none
  mirror := none

def pool0 : Array CpInfo := pool [(5, u "<init>"), (0, u "()V"), (1, .class_ 10), (1, u "java/lang/Object")] 113

def k0c0 : Code := { maxStack := 0, maxLocals := 1, code := object_method_1_code, exceptionTable := #[], attributes := #[] }
def k0m0 : Method := { name := "<init>", desc := "()V", sig := { parameters := [], returnType := none }, accessFlags := 1, code := some k0c0 }
/-- java/lang/Object -/
def k0 : Class := { plain "java/lang/Object" none with
  accessFlags := 33
  interfaces := #[]
  cf := some (fileOf pool0 8 #[] #[{ accessFlags := 1, nameIndex := 5, descriptorIndex := 6, attributes := #[] }] 33 0 #[] #[])
  fields := #[]
  methods := #[k0m0]
  instanceTypes := #[]
  staticTypes := #[]
  resolved := Array.replicate 124 none
  statics := none }

def pool1 : Array CpInfo := pool [(2, .class_ 4), (1, u "java/lang/Object"), (0, u "<init>"), (0, u "()V"), (0, .integer 2147483647), (0, .methodref 9 10), (0, .class_ 11), (0, .nameAndType 12 13), (0, u "java/lang/Math"), (0, u "max"), (0, u "(II)I"), (0, .class_ 15), (0, u "com/example/strict_schedule/strictschedule/bench/Workload"), (0, .methodref 14 17), (0, .nameAndType 5 18), (0, u "(IJIIJ)V"), (0, .methodref 14 20), (0, .nameAndType 21 22), (0, u "share"), (0, u "(I)I"), (0, .class_ 24), (0, u "com/example/strict_schedule/strictschedule/bench/WorkloadSharePinLaw"), (2, u "law"), (0, u "(IIIJ)Z")] 3

def k1m0 : Method := { name := "<init>", desc := "()V", sig := { parameters := [], returnType := none }, accessFlags := 1, code := none }
def k1c1 : Code := { maxStack := 9, maxLocals := 12, code := code, exceptionTable := #[], attributes := #[] }
def k1m1 : Method := { name := "law", desc := "(IIIJ)Z", sig := { parameters := [.int, .int, .int, .long], returnType := some .boolean }, accessFlags := 9, code := some k1c1 }
/-- com/example/strict_schedule/strictschedule/bench/WorkloadSharePinLaw -/
def k1 : Class := { plain "com/example/strict_schedule/strictschedule/bench/WorkloadSharePinLaw" (some 0) with
  accessFlags := 49
  interfaces := #[]
  cf := some (fileOf pool1 23 #[] #[{ accessFlags := 1, nameIndex := 5, descriptorIndex := 6, attributes := #[] }, { accessFlags := 9, nameIndex := 27, descriptorIndex := 28, attributes := #[] }] 49 2 #[] #[])
  fields := #[]
  methods := #[k1m0, k1m1]
  instanceTypes := #[]
  staticTypes := #[]
  resolved := Array.replicate 32 none
  statics := none }

def pool2 : Array CpInfo := pool [(1, .class_ 2), (0, u "java/lang/Math"), (1, .class_ 6), (1, u "java/lang/Object"), (0, u "<init>"), (0, u "()V"), (89, .class_ 100), (1, u "java/lang/Math$RandomNumberGeneratorHolder"), (71, u "negativeZeroFloatBits"), (0, u "J"), (2, u "negativeZeroDoubleBits"), (21, u "max"), (46, u "$assertionsDisabled"), (0, u "Z"), (88, u "(II)I"), (2, u "twoToTheDoubleScaleDown"), (0, u "D"), (4, u "twoToTheDoubleScaleUp"), (9, u "E"), (3, u "PI"), (2, u "TAU"), (2, u "DEGREES_TO_RADIANS"), (0, u "RADIANS_TO_DEGREES")] 94

def k2m0 : Method := { name := "<init>", desc := "()V", sig := { parameters := [], returnType := none }, accessFlags := 2, code := none }
def k2c1 : Code := { maxStack := 2, maxLocals := 2, code := jdk_29_method_65_code, exceptionTable := #[], attributes := #[] }
def k2m1 : Method := { name := "max", desc := "(II)I", sig := { parameters := [.int, .int], returnType := some .int }, accessFlags := 9, code := some k2c1 }
/-- java/lang/Math -/
def k2 : Class := { plain "java/lang/Math" (some 0) with
  accessFlags := 49
  interfaces := #[]
  cf := some (fileOf pool2 1 #[.nestMembers #[98]] #[{ accessFlags := 2, nameIndex := 7, descriptorIndex := 8, attributes := #[] }, { accessFlags := 9, nameIndex := 198, descriptorIndex := 335, attributes := #[] }] 49 4 #[] #[{ accessFlags := 25, nameIndex := 354, descriptorIndex := 339, attributes := #[] }, { accessFlags := 25, nameIndex := 358, descriptorIndex := 339, attributes := #[] }, { accessFlags := 25, nameIndex := 361, descriptorIndex := 339, attributes := #[] }, { accessFlags := 26, nameIndex := 364, descriptorIndex := 339, attributes := #[] }, { accessFlags := 26, nameIndex := 365, descriptorIndex := 339, attributes := #[] }, { accessFlags := 26, nameIndex := 172, descriptorIndex := 173, attributes := #[] }, { accessFlags := 26, nameIndex := 176, descriptorIndex := 173, attributes := #[] }, { accessFlags := 8, nameIndex := 344, descriptorIndex := 339, attributes := #[] }, { accessFlags := 8, nameIndex := 338, descriptorIndex := 339, attributes := #[] }, { accessFlags := 4120, nameIndex := 245, descriptorIndex := 246, attributes := #[] }])
  fields := #[{ name := "E", type := .double, accessFlags := 25, slot := 0, constantValue := 0 }, { name := "PI", type := .double, accessFlags := 25, slot := 1, constantValue := 0 }, { name := "TAU", type := .double, accessFlags := 25, slot := 2, constantValue := 0 }, { name := "DEGREES_TO_RADIANS", type := .double, accessFlags := 26, slot := 3, constantValue := 0 }, { name := "RADIANS_TO_DEGREES", type := .double, accessFlags := 26, slot := 4, constantValue := 0 }, { name := "negativeZeroFloatBits", type := .long, accessFlags := 26, slot := 5, constantValue := 0 }, { name := "negativeZeroDoubleBits", type := .long, accessFlags := 26, slot := 6, constantValue := 0 }, { name := "twoToTheDoubleScaleUp", type := .double, accessFlags := 8, slot := 7, constantValue := 0 }, { name := "twoToTheDoubleScaleDown", type := .double, accessFlags := 8, slot := 8, constantValue := 0 }, { name := "$assertionsDisabled", type := .boolean, accessFlags := 4120, slot := 9, constantValue := 0 }]
  methods := #[k2m0, k2m1]
  instanceTypes := #[]
  staticTypes := #[.double, .double, .double, .double, .double, .long, .long, .double, .double, .boolean]
  resolved := Array.replicate 460 none
  statics := none }

def pool3 : Array CpInfo := pool [(1, .methodref 2 3), (0, .class_ 4), (0, .nameAndType 5 6), (0, u "java/lang/Object"), (0, u "<init>"), (0, u "()V"), (0, .class_ 8), (0, u "java/lang/Record")] 13

def k3c0 : Code := { maxStack := 1, maxLocals := 1, code := jdk_30_method_1_code, exceptionTable := #[], attributes := #[] }
def k3m0 : Method := { name := "<init>", desc := "()V", sig := { parameters := [], returnType := none }, accessFlags := 4, code := some k3c0 }
/-- java/lang/Record -/
def k3 : Class := { plain "java/lang/Record" (some 0) with
  accessFlags := 1057
  interfaces := #[]
  cf := some (fileOf pool3 7 #[] #[{ accessFlags := 4, nameIndex := 5, descriptorIndex := 6, attributes := #[] }] 1057 2 #[] #[])
  fields := #[]
  methods := #[k3m0]
  instanceTypes := #[]
  staticTypes := #[]
  resolved := Array.replicate 22 none
  statics := none }

def pool4 : Array CpInfo := pool [(1, .methodref 2 3), (0, .class_ 4), (0, .nameAndType 5 6), (0, u "java/lang/Record"), (0, u "<init>"), (0, u "()V"), (9, .fieldref 17 18), (0, .class_ 19), (0, .nameAndType 20 21), (0, u "com/example/strict_schedule/strictschedule/bench/Workload"), (0, u "accounts"), (0, u "I"), (0, .fieldref 17 23), (0, .nameAndType 24 25), (0, u "balance"), (0, u "J"), (0, .fieldref 17 27), (0, .nameAndType 28 21), (0, u "threads"), (0, .fieldref 17 30), (0, .nameAndType 31 21), (0, u "transfers"), (0, .fieldref 17 33), (0, .nameAndType 34 25), (0, u "seed"), (57, .class_ 93), (0, u "com/example/strict_schedule/strictschedule/bench/Workload$Teller"), (11, u "share"), (0, u "(I)I"), (36, .class_ 144), (0, u "com/example/strict_schedule/strictschedule/bench/Workload$Tally"), (84, .class_ 230), (0, u "com/example/strict_schedule/strictschedule/bench/Workload$Result"), (30, u "MOST_MOVED"), (2, u "(IJIIJ)V"), (23, .class_ 289), (0, u "com/example/strict_schedule/strictschedule/bench/Workload$Transfer")] 49

def k4c0 : Code := { maxStack := 7, maxLocals := 8, code := prog_4_method_1_code, exceptionTable := #[], attributes := #[] }
def k4m0 : Method := { name := "<init>", desc := "(IJIIJ)V", sig := { parameters := [.int, .long, .int, .int, .long], returnType := none }, accessFlags := 0, code := some k4c0 }
def k4c1 : Code := { maxStack := 4, maxLocals := 2, code := prog_4_method_5_code, exceptionTable := #[], attributes := #[] }
def k4m1 : Method := { name := "share", desc := "(I)I", sig := { parameters := [.int], returnType := some .int }, accessFlags := 0, code := some k4c1 }
/-- com/example/strict_schedule/strictschedule/bench/Workload -/
def k4 : Class := { plain "com/example/strict_schedule/strictschedule/bench/Workload" (some 3) with
  accessFlags := 48
  interfaces := #[]
  cf := some (fileOf pool4 17 #[.nestMembers #[92, 288, 143, 229]] #[{ accessFlags := 0, nameIndex := 5, descriptorIndex := 264, attributes := #[] }, { accessFlags := 0, nameIndex := 105, descriptorIndex := 106, attributes := #[] }] 48 2 #[] #[{ accessFlags := 18, nameIndex := 20, descriptorIndex := 21, attributes := #[] }, { accessFlags := 18, nameIndex := 24, descriptorIndex := 25, attributes := #[] }, { accessFlags := 18, nameIndex := 28, descriptorIndex := 21, attributes := #[] }, { accessFlags := 18, nameIndex := 31, descriptorIndex := 21, attributes := #[] }, { accessFlags := 18, nameIndex := 34, descriptorIndex := 25, attributes := #[] }, { accessFlags := 24, nameIndex := 261, descriptorIndex := 21, attributes := #[] }])
  fields := #[{ name := "accounts", type := .int, accessFlags := 18, slot := 0, constantValue := 0 }, { name := "balance", type := .long, accessFlags := 18, slot := 1, constantValue := 0 }, { name := "threads", type := .int, accessFlags := 18, slot := 2, constantValue := 0 }, { name := "transfers", type := .int, accessFlags := 18, slot := 3, constantValue := 0 }, { name := "seed", type := .long, accessFlags := 18, slot := 4, constantValue := 0 }, { name := "MOST_MOVED", type := .int, accessFlags := 24, slot := 0, constantValue := 0 }]
  methods := #[k4m0, k4m1]
  instanceTypes := #[.int, .long, .int, .int, .long]
  staticTypes := #[.int]
  resolved := Array.replicate 339 none
  statics := none }

def pool5 : Array CpInfo := pool [(1, u "java/lang/Cloneable"), (0, .class_ 1), (0, u "java/lang/Object"), (0, .class_ 3)] 3

/-- java/lang/Cloneable -/
def k5 : Class := { plain "java/lang/Cloneable" (some 0) with
  accessFlags := 1537
  interfaces := #[]
  cf := some (fileOf pool5 2 #[] #[] 1537 4 #[] #[])
  fields := #[]
  methods := #[]
  instanceTypes := #[]
  staticTypes := #[]
  resolved := Array.replicate 8 none
  statics := none }

def pool6 : Array CpInfo := pool [(1, u "java/io/Serializable"), (0, .class_ 1), (0, u "java/lang/Object"), (0, .class_ 3)] 3

/-- java/io/Serializable -/
def k6 : Class := { plain "java/io/Serializable" (some 0) with
  accessFlags := 1537
  interfaces := #[]
  cf := some (fileOf pool6 2 #[] #[] 1537 4 #[] #[])
  fields := #[]
  methods := #[]
  instanceTypes := #[]
  staticTypes := #[]
  resolved := Array.replicate 8 none
  statics := none }

/-- the primitive byte -/
def k7 : Class := { plain "byte" none with kind := .primitive 'B', accessFlags := 0x411 }
/-- [B -/
def k8 : Class := { plain "[B" (some 0) with kind := .array 7 .byte, interfaces := #[5, 6], accessFlags := 1041 }

/-- the primitive int -/
def k9 : Class := { plain "int" none with kind := .primitive 'I', accessFlags := 0x411 }
/-- [I -/
def k10 : Class := { plain "[I" (some 0) with kind := .array 9 .int, interfaces := #[5, 6], accessFlags := 1041 }

def heap : Heap := #[]
def classes : Array Class := #[k0, k1, k2, k3, k4, k5, k6, k7, k8, k9, k10]
def interned : List (Array UInt16 × Addr) := []
def slotsUsed : Nat := 0
def theMethod : MethodId := ⟨1, 1⟩
def args0 : Array Value := #[.int 5, .int 7, .int 3, .long 9]
def aboutOver (below : List Frame) : State where
  vm := { classes := classes, interned := interned.toArray }
  heap := heap
  slotsUsed := slotsUsed
  threads := #[{ frames := .invoking theMethod args0 :: below }]
def below0 : List Frame := [.native { method := ⟨0, 0⟩, args := #[] }]
def about1 : State := aboutOver below0
def p0 : Program := .bare "" "" ""
def e0 : Env := launch0.env 0 0 0
theorem w_frames : about1.frames = Frame.invoking theMethod args0 :: below0 := rfl
set_option maxRecDepth 65536 in
theorem w_args : argsFit about1.vm theMethod args0 = true := by decide +kernel
set_option maxRecDepth 65536 in
theorem w_heap : heapFits about1 = true := by decide +kernel
set_option maxRecDepth 65536 in
theorem w_runnable : about1.curStatus? = some .runnable := by decide +kernel
set_option maxRecDepth 65536 in
theorem w_alone : about1.alone = true := by decide +kernel
set_option maxRecDepth 65536 in
theorem w_named : about1.methodNamed? x = some theMethod := by decide +kernel
set_option maxRecDepth 65536 in
theorem w_hears : about1.hears theMethod below0 = true := by decide +kernel
set_option maxRecDepth 65536 in
theorem w_ripe : about1.ripe theMethod args0 below0 = true := by decide +kernel
theorem w_running : about1.status = .running := rfl
set_option maxRecDepth 65536 in
theorem w_room : about1.hasRoom e0.platform room_1 = true :=
  launch0.hasRoom_least _ room_1 (by decide +kernel) (by decide +kernel) (by decide +kernel) (by decide +kernel) (by decide +kernel) (by decide +kernel)
theorem allAtoms_all (ts : List Jvm.Cond) (a : Array Jvm.Value) (st : Jvm.State) : (allAtoms ts).before a st = ts.all (fun c => c.before a st) := by
  induction ts with
  | nil => rfl
  | cons c t ih =>
    show (Jvm.Cond.and c (allAtoms t)).before a st = _
    rw [Jvm.Cond.before_and, ih, List.all_cons]
def words1 : List Jvm.Cond := Jvm.Cond.code x code maxLocals ret :: tables_1
/-- a 'code' word, met by the world's own term for the bytes: nothing is compared byte by byte -/
theorem code_word {y : MethodName} {bytes : ByteArray} {mx : Nat} {rt : Option FieldType} {a : Array Value} {s : State} {m : MethodId} {meth : Method} {c : Code} (h1 : s.methodNamed? y = some m) (h2 : s.vm.method? m = some meth) (h3 : meth.code = some c) (h4 : c.code = bytes)
    (h5 : (c.maxLocals == mx && c.exceptionTable.isEmpty && decide (c.maxStack ≤ mostOperands) && decide (meth.sig.returnType = rt) && !meth.locks && decide (parseMethodDescriptor y.desc = some meth.sig)) = true) : (Jvm.Cond.code y bytes mx rt).before a s = true := by
  simp only [Bool.and_eq_true, beq_iff_eq, Bool.not_eq_true', decide_eq_true_eq] at h5
  obtain ⟨⟨⟨⟨⟨g1, g2⟩, g3⟩, g4⟩, g5⟩, g6⟩ := h5
  simp [Cond.before, Cond.holds, Cond.value, h1, h2, h3, h4, g1, g2, g3, g4, g5, g6]
def isCode : Jvm.Cond → Bool
  | .code _ _ _ _ => true
  | _ => false
theorem all_split {L : List Jvm.Cond} {P : Jvm.Cond → Bool} (h1 : L.all (fun c => isCode c || P c) = true) (h2 : ∀ c ∈ L.filter isCode, P c = true) : L.all P = true := by
  refine List.all_eq_true.mpr fun c hc => ?_
  have h := List.all_eq_true.mp h1 c hc
  rcases Bool.eq_false_or_eq_true (isCode c) with hi | hi
  · exact h2 c (List.mem_filter.mpr ⟨hc, hi⟩)
  · simpa [hi] using h
set_option maxRecDepth 65536 in
theorem w_c0 : (Jvm.Cond.code x code maxLocals ret).before args0 about1 = true := code_word (m := ⟨1, 1⟩) (meth := k1m1) (c := k1c1) (by decide +kernel) rfl rfl rfl (by decide +kernel)
set_option maxRecDepth 65536 in
theorem w_c1 : (Jvm.Cond.code ({ cls := "java/lang/Math", name := "max", desc := "(II)I" } : Jvm.MethodName) jdk_29_method_65_code (2 : Nat) (Option.some Jvm.ClassFile.FieldType.int)).before args0 about1 = true := code_word (m := ⟨2, 1⟩) (meth := k2m1) (c := k2c1) (by decide +kernel) rfl rfl rfl (by decide +kernel)
set_option maxRecDepth 65536 in
theorem w_c2 : (Jvm.Cond.code ({ cls := "com/example/strict_schedule/strictschedule/bench/Workload", name := "<init>", desc := "(IJIIJ)V" } : Jvm.MethodName) prog_4_method_1_code (8 : Nat) (Option.none : Option Jvm.ClassFile.FieldType)).before args0 about1 = true := code_word (m := ⟨4, 0⟩) (meth := k4m0) (c := k4c0) (by decide +kernel) rfl rfl rfl (by decide +kernel)
set_option maxRecDepth 65536 in
theorem w_c3 : (Jvm.Cond.code ({ cls := "java/lang/Record", name := "<init>", desc := "()V" } : Jvm.MethodName) jdk_30_method_1_code (1 : Nat) (Option.none : Option Jvm.ClassFile.FieldType)).before args0 about1 = true := code_word (m := ⟨3, 0⟩) (meth := k3m0) (c := k3c0) (by decide +kernel) rfl rfl rfl (by decide +kernel)
set_option maxRecDepth 65536 in
theorem w_c4 : (Jvm.Cond.code ({ cls := "java/lang/Object", name := "<init>", desc := "()V" } : Jvm.MethodName) object_method_1_code (1 : Nat) (Option.none : Option Jvm.ClassFile.FieldType)).before args0 about1 = true := code_word (m := ⟨0, 0⟩) (meth := k0m0) (c := k0c0) (by decide +kernel) rfl rfl rfl (by decide +kernel)
set_option maxRecDepth 65536 in
theorem w_c5 : (Jvm.Cond.code ({ cls := "com/example/strict_schedule/strictschedule/bench/Workload", name := "share", desc := "(I)I" } : Jvm.MethodName) prog_4_method_5_code (2 : Nat) (Option.some Jvm.ClassFile.FieldType.int)).before args0 about1 = true := code_word (m := ⟨4, 1⟩) (meth := k4m1) (c := k4c1) (by decide +kernel) rfl rfl rfl (by decide +kernel)
def codes1 : List Jvm.Cond := [Jvm.Cond.code x code maxLocals ret, Jvm.Cond.code ({ cls := "java/lang/Math", name := "max", desc := "(II)I" } : Jvm.MethodName) jdk_29_method_65_code (2 : Nat) (Option.some Jvm.ClassFile.FieldType.int), Jvm.Cond.code ({ cls := "com/example/strict_schedule/strictschedule/bench/Workload", name := "<init>", desc := "(IJIIJ)V" } : Jvm.MethodName) prog_4_method_1_code (8 : Nat) (Option.none : Option Jvm.ClassFile.FieldType), Jvm.Cond.code ({ cls := "java/lang/Record", name := "<init>", desc := "()V" } : Jvm.MethodName) jdk_30_method_1_code (1 : Nat) (Option.none : Option Jvm.ClassFile.FieldType), Jvm.Cond.code ({ cls := "java/lang/Object", name := "<init>", desc := "()V" } : Jvm.MethodName) object_method_1_code (1 : Nat) (Option.none : Option Jvm.ClassFile.FieldType), Jvm.Cond.code ({ cls := "com/example/strict_schedule/strictschedule/bench/Workload", name := "share", desc := "(I)I" } : Jvm.MethodName) prog_4_method_5_code (2 : Nat) (Option.some Jvm.ClassFile.FieldType.int)]
set_option maxRecDepth 65536 in
theorem codes_eq : words1.filter isCode = codes1 := rfl
theorem w_codes : ∀ c ∈ words1.filter isCode, c.before args0 about1 = true := by
  rw [codes_eq]
  intro c hc
  simp only [codes1, List.mem_cons, List.not_mem_nil, or_false] at hc
  rcases hc with rfl | rfl | rfl | rfl | rfl | rfl
  · exact w_c0
  · exact w_c1
  · exact w_c2
  · exact w_c3
  · exact w_c4
  · exact w_c5
set_option maxRecDepth 65536 in
theorem w_t1 : (words1.take 24).all (fun c => isCode c || c.before args0 about1) = true := by decide +kernel
set_option maxRecDepth 65536 in
theorem w_t2 : (words1.drop 24).all (fun c => isCode c || c.before args0 about1) = true := by decide +kernel
theorem w_tables : (allAtoms (Jvm.Cond.code x code maxLocals ret :: tables_1)).before args0 about1 = true := by
  rw [allAtoms_all]
  show words1.all (fun c => c.before args0 about1) = true
  refine all_split ?_ w_codes
  rw [← List.take_append_drop 24 words1, List.all_append, w_t1, w_t2]
  rfl
set_option maxRecDepth 65536 in
theorem w_case : (Jvm.Cond.and given_1 narrow_1).before args0 about1 = true := by decide +kernel
theorem w_applies : (headSpec (Jvm.Cond.code x code maxLocals ret :: tables_1) room_1).applies x e0.platform about1 = true :=
  (Spec.applies_iff w_frames).mpr ⟨w_running, w_runnable, w_alone, w_named, w_hears, w_ripe, w_room, w_tables⟩
theorem atStart : AtStart classFile x code maxLocals ret World_1 tables_1 room_1 Calls_1 rest_1 Pre_1 launch0 p0 e0 about1 theMethod args0 below0 :=
  ⟨lists_1, trivial, launch0.admits_env _ _ _, launch0.least_env, fairChoices_fair.cas, fairChoices_fair.clock, w_frames, w_args, w_heap, w_applies, trivial, trivial, w_case⟩
end start1
theorem witness_1 : WitnessClaimed_1 := ⟨start1.p0, start1.e0, start1.about1, start1.theMethod, start1.args0, start1.below0, start1.atStart⟩
end Jvm.Pilot.@@N@@
