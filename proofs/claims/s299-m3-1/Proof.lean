import JvmDerived
import JvmDerived.Pilot.@@N@@Statement
import JvmDerived.Pilot.@@N@@Code
set_option linter.unusedVariables false
set_option linter.unusedSimpArgs false
namespace Jvm.RoadKit
open Sem ClassFile Op Lib Jvm.Stand Jvm.Free Jvm.LawKit
section OwnKit
variable {p : Program} {l : Launch} {e : Env} {R : Room} {s : State} {m : MethodId} {args : Array Value} {below : List Frame} {meth : Method} {c : Code} {T : State} {locs : List Loc} {cells slots : Nat}
/-- a boolean as the machine's int -/
def b2i (b : Bool) : Int32 := bif b then 1 else 0
theorem b2i_t {b : Bool} (h : b = true) : ¬ b2i b = 0 := by subst h; decide
theorem b2i_f {b : Bool} (h : ¬ b = true) : b2i b = 0 := by cases b <;> first | rfl | exact absurd rfl h
theorem b2i_inj {a b : Bool} (h : b2i a = b2i b) : a = b := by cases a <;> cases b <;> first | rfl | exact absurd h (by decide)
theorem nar_b2i (b : Bool) : nar .boolean (b2i b) = b2i b := by cases b <;> decide
/-- from the state U the walk comes to an end that P holds of -/
def Go (tb : Tables) (e : Env) (below : List Frame) (P : Outcome → State → Prop) (U : State) : Prop := ∃ s₂ o, Steps tb e below U s₂ ∧ s₂.status = .running ∧ Ended s₂ below o ∧ P o s₂
theorem Go.back {tb : Tables} {P : Outcome → State → Prop} {U V : State} (h : ∀ t, Steps tb e below V t → Steps tb e below U t) (k : Go tb e below P V) : Go tb e below P U := by
  obtain ⟨s2, o, h1, h2⟩ := k
  exact ⟨s2, o, h _ h1, h2⟩
theorem Go.trans {tb : Tables} {P : Outcome → State → Prop} {U V : State} (h : Steps tb e below U V) (k : Go tb e below P V) : Go tb e below P U := by
  obtain ⟨s2, o, h1, h2⟩ := k
  exact ⟨s2, o, Steps.trans h h1, h2⟩
abbrev Fin (s : State) (Q : Option Value → Heap → List Loc → Prop) (K S : Nat) : Outcome → State → Prop := fun o U' => ∃ v L, o = .returned v ∧ Q v U'.heap L ∧ FrameEnd s o U' L K S
theorem retI0 (X : Stand p l e R s m args below meth c T locs cells slots) (hx : p.tables.exec = Jvm.exec) {pc : Nat} {Ls : Array Slot} {z : Int32} {rest : List Value} (hret : meth.sig.returnType = some .int) (hd : decode c.code pc = .ok (.ireturn, 1)) {fs : List Frame}
    (hl : ∀ (f : JFrame) (acts : List Action), f.method = m → f.locked = none → f.entered = [] → (doReturn e (T.setTop f) acts (some (.int z))).1 = T.setFrames fs) : Steps p.tables e below (T.setTop (mkF m pc Ls (.int z :: rest))) (T.setFrames fs) := by
  have hm' : T.vm.method? m = some meth := X.method'
  have hn : narrow .int (.int z) = .int z := rfl
  show Steps p.tables e below (T.setTop { method := m, pc := pc, locals := Ls, stack := _ :: rest, locked := none }) _
  jvm_step X.here [X.here.top, hx, hd, hm', hret, hn]
  first | (intro acts; rw [hl _ acts rfl rfl rfl]) | rw [hl _ _ rfl rfl rfl]
  exact Steps.refl _
theorem Go.retI (X : Stand p l e R s m args below meth c T locs cells slots) (hx : p.tables.exec = Jvm.exec) {pc : Nat} {Ls : Array Slot} {z : Int32} {rest : List Value} (hret : meth.sig.returnType = some .int) (hd : decode c.code pc = .ok (.ireturn, 1)) (hlk : meth.locks = false) {Q : Option Value → Heap → List Loc → Prop} {K S : Nat} (hQ : Q (some (.int z)) T.heap locs) (hc : cells ≤ K) (hs : slots ≤ S) :
    Go p.tables e below (Fin s Q K S) (T.setTop (mkF m pc Ls (.int z :: rest))) := by
  obtain ⟨fs, hr, hrun, hended, hW, hsame⟩ := X.leave (v := some (.int z)) (fun h => by rw [hret] at h; cases h) hlk
  exact ⟨_, _, retI0 X hx hret hd hr, hrun, hended, _, _, rfl, hQ, ⟨_, rfl⟩, hW, hsame.mono hc hs⟩
theorem Go.retN (X : Stand p l e R s m args below meth c T locs cells slots) (hx : p.tables.exec = Jvm.exec) {pc : Nat} {Ls : Array Slot} {z : Int32} {rest : List Value} {t : FieldType} (hret : meth.sig.returnType = some t) (ht : t = .boolean ∨ t = .byte ∨ t = .char ∨ t = .short) (hd : decode c.code pc = .ok (.ireturn, 1)) (hlk : meth.locks = false) {Q : Option Value → Heap → List Loc → Prop} {K S : Nat} (hQ : Q (some (.int (nar t z))) T.heap locs) (hc : cells ≤ K) (hs : slots ≤ S) :
    Go p.tables e below (Fin s Q K S) (T.setTop (mkF m pc Ls (.int z :: rest))) := by
  obtain ⟨fs, hr, hrun, hended, hW, hsame⟩ := X.leave (v := some (.int (nar t z))) (fun h => by rw [hret] at h; cases h) hlk
  exact ⟨_, _, Jvm.RoadKit.retN X hx hret ht hd hr, hrun, hended, _, _, rfl, hQ, ⟨_, rfl⟩, hW, hsame.mono hc hs⟩
theorem Go.retB (X : Stand p l e R s m args below meth c T locs cells slots) (hx : p.tables.exec = Jvm.exec) {pc : Nat} {Ls : Array Slot} {b : Bool} {rest : List Value} (hret : meth.sig.returnType = some .boolean) (hd : decode c.code pc = .ok (.ireturn, 1)) (hlk : meth.locks = false) {Q : Option Value → Heap → List Loc → Prop} {K S : Nat} (hQ : Q (some (.int (b2i b))) T.heap locs) (hc : cells ≤ K) (hs : slots ≤ S) :
    Go p.tables e below (Fin s Q K S) (T.setTop (mkF m pc Ls (.int (b2i b) :: rest))) := Go.retN X hx hret (Or.inl rfl) hd hlk (by rw [nar_b2i]; exact hQ) hc hs
theorem Go.retJ (X : Stand p l e R s m args below meth c T locs cells slots) (hx : p.tables.exec = Jvm.exec) {pc : Nat} {Ls : Array Slot} {z : Int64} (hret : meth.sig.returnType = some .long) (hd : decode c.code pc = .ok (.lreturn, 1)) (hlk : meth.locks = false) {Q : Option Value → Heap → List Loc → Prop} {K S : Nat} (hQ : Q (some (.long z)) T.heap locs) (hc : cells ≤ K) (hs : slots ≤ S) :
    Go p.tables e below (Fin s Q K S) (T.setTop (mkF m pc Ls [.long z])) := by
  obtain ⟨fs, hr, hrun, hended, hW, hsame⟩ := X.leave (v := some (.long z)) (fun h => by rw [hret] at h; cases h) hlk
  exact ⟨_, _, X.lreturnOut hx hret hd hr, hrun, hended, _, _, rfl, hQ, ⟨_, rfl⟩, hW, hsame.mono hc hs⟩
theorem Go.retR (X : Stand p l e R s m args below meth c T locs cells slots) (hx : p.tables.exec = Jvm.exec) {pc : Nat} {Ls : Array Slot} {a : Addr} {t : FieldType} (hret : meth.sig.returnType = some t) (ht : t.isReference = true) (hd : decode c.code pc = .ok (.areturn, 1)) (hlk : meth.locks = false) {Q : Option Value → Heap → List Loc → Prop} {K S : Nat} (hQ : Q (some (.ref a)) T.heap locs) (hc : cells ≤ K) (hs : slots ≤ S) :
    Go p.tables e below (Fin s Q K S) (T.setTop (mkF m pc Ls [.ref a])) := by
  obtain ⟨fs, hr, hrun, hended, hW, hsame⟩ := X.leave (v := some (.ref a)) (fun h => by rw [hret] at h; cases h) hlk
  exact ⟨_, _, X.areturnOut hx rfl hret ht hd hr, hrun, hended, _, _, rfl, hQ, ⟨_, rfl⟩, hW, hsame.mono hc hs⟩
theorem Go.retV (X : Stand p l e R s m args below meth c T locs cells slots) (hx : p.tables.exec = Jvm.exec) {pc : Nat} {Ls : Array Slot} (hret : meth.sig.returnType = none) (hd : decode c.code pc = .ok (.return_, 1)) (hlk : meth.locks = false) {Q : Option Value → Heap → List Loc → Prop} {K S : Nat} (hQ : Q none T.heap locs) (hc : cells ≤ K) (hs : slots ≤ S) :
    Go p.tables e below (Fin s Q K S) (T.setTop (mkF m pc Ls [])) := by
  obtain ⟨fs, hr, hrun, hended, hW, hsame⟩ := X.leave (v := none) (fun _ => rfl) hlk
  exact ⟨_, _, X.returnOut hx hret hd hr, hrun, hended, _, _, rfl, hQ, ⟨_, rfl⟩, hW, hsame.mono hc hs⟩
theorem lremM {g : JFrame} {target : State} (X : Stand p l e R s m args below meth c T locs cells slots) (hx : p.tables.exec = Jvm.exec) (hg : g.method = m) {x y : Int64} {rest : List Value} (hd : decode c.code g.pc = .ok (.lrem, 1)) (hs : g.stack = .long y :: .long x :: rest) (hy : y ≠ 0)
    (hr : Steps p.tables e below (T.setTop { g with pc := g.pc + 1, stack := .long (x % y) :: rest }) target) : Steps p.tables e below (T.setTop g) target :=
  XS.lrem X.here hx hg hd hs hy (by rw [lrem_mod x y]; exact hr)
theorem storeS_i {ls l' : Array Slot} {k : Nat} {o : Slot} {x : Int32} (hold : ls[k]? = some o) (h : One o) (q : ls.setIfInBounds k (.val (.int x)) = l') : storeLocals ls k (.int x) = some l' := by
  rw [XS.store1 hold h rfl, q]
theorem storeS_a {ls l' : Array Slot} {k : Nat} {o : Slot} {a : Addr} (hold : ls[k]? = some o) (h : One o) (q : ls.setIfInBounds k (.val (.ref a)) = l') : storeLocals ls k (.ref a) = some l' := by
  rw [XS.store1 hold h rfl, q]
end OwnKit
section OwnArr
variable {p : Program} {l : Launch} {e : Env} {R : Room} {s : State} {m : MethodId} {args : Array Value} {below : List Frame} {meth : Method} {c : Code} {T : State} {locs : List Loc} {cells slots : Nat} {Z : State} {h h' : Heap} {a b : Addr} {ty : FieldType} {vs : List Value} {v : Value} {sl : Nat} {ws : List Addr}
/-- the array at a, of the kind ty, holds just this list -/
def ArL (Z : State) (h : Heap) (a : Addr) (ty : FieldType) (vs : List Value) : Prop := ∃ c : Cell, Arr Z h a c ty ∧ c.slots.toList = vs
theorem ArL.lt (F : ArL Z h a ty vs) : a < h.size := by obtain ⟨c, A, -⟩ := F; exact A.lt
theorem ArL.ext (F : ArL Z h a ty vs) (E : Ext h h') : ArL Z h' a ty vs := by obtain ⟨c, A, r⟩ := F; exact ⟨c, A.ext E, r⟩
theorem ArL.other (F : ArL Z h b ty vs) (W : Wr h h' a sl v) (q : b ≠ a) : ArL Z h' b ty vs := by obtain ⟨c, A, r⟩ := F; exact ⟨c, A.other W q, r⟩
theorem ArL.keep (F : ArL Z h a ty vs) (K : Keep h h' ws) (q : a ∉ ws) : ArL Z h' a ty vs := by obtain ⟨c, A, r⟩ := F; exact ⟨c, ⟨K.2.1 a c A.1 q, A.2⟩, r⟩
theorem ArL.new {k : ClassId} {z : Int32} (A : Arr Z h a (newA k ty z) ty) {n : Nat} (q : z.toNatClampNeg = n) : ArL Z h a ty (List.replicate n (defaultValue ty)) := ⟨_, A, by subst q; simp [newA]⟩
theorem ArL.set (F : ArL Z h a ty vs) (W : Wr h h' a sl v) : ArL Z h' a ty (vs.set sl v) := by
  obtain ⟨c, A, r⟩ := F
  exact ⟨_, A.same W, by subst r; simp [Cell.setSlot]⟩
/-- a place of it: what a load and a store ask -/
theorem ArL.at (F : ArL Z h a ty vs) {j : Int32} (h0 : ¬ j < 0) (hj : j.toNatClampNeg < vs.length) : ∃ c : Cell, Arr Z h a c ty ∧ ¬ (j < 0 ∨ c.slots.size ≤ j.toNatClampNeg) ∧ c.slots[j.toNatClampNeg]? = some (vs[j.toNatClampNeg]'hj) := by
  obtain ⟨c, A, rfl⟩ := F
  have q : j.toNatClampNeg < c.slots.size := by simpa using hj
  refine ⟨c, A, fun z => z.elim h0 (fun y => absurd q (Nat.not_lt.mpr y)), ?_⟩
  rw [Array.getElem?_eq_getElem q]
  simp
theorem ArL.get (F : ArL Z h a ty vs) {j : Int32} (h0 : ¬ j < 0) (hv : vs[j.toNatClampNeg]? = some v) : ∃ c : Cell, Arr Z h a c ty ∧ ¬ (j < 0 ∨ c.slots.size ≤ j.toNatClampNeg) ∧ c.slots[j.toNatClampNeg]? = some v := by
  obtain ⟨hj, rfl⟩ := List.getElem?_eq_some_iff.mp hv
  exact F.at h0 hj
theorem ArL.setI {xs : List Int32} {x : Int32} {i : Nat} (F : ArL Z h a ty (List.map Value.int xs)) (W : Wr h h' a i (.int x)) : ArL Z h' a ty (List.map Value.int (xs.set i x)) := by
  rw [List.map_set]; exact F.set W
theorem ArL.setJ {xs : List Int64} {x : Int64} {i : Nat} (F : ArL Z h a ty (List.map Value.long xs)) (W : Wr h h' a i (.long x)) : ArL Z h' a ty (List.map Value.long (xs.set i x)) := by
  rw [List.map_set]; exact F.set W
theorem ArL.newI {k : ClassId} {z : Int32} (A : Arr Z h a (newA k ty z) ty) {n : Nat} (q : z.toNatClampNeg = n) (hd : defaultValue ty = .int 0 := by rfl) : ArL Z h a ty (List.map Value.int (List.replicate n (0 : Int32))) := by
  rw [List.map_replicate, ← hd]; exact ArL.new A q
theorem ArL.newJ {k : ClassId} {z : Int32} (A : Arr Z h a (newA k ty z) ty) {n : Nat} (q : z.toNatClampNeg = n) (hd : defaultValue ty = .long 0 := by rfl) : ArL Z h a ty (List.map Value.long (List.replicate n (0 : Int64))) := by
  rw [List.map_replicate, ← hd]; exact ArL.new A q
theorem getI (xs : List Int32) {i : Nat} (q : i < xs.length) : (List.map Value.int xs)[i]? = some (.int (xs.getD i 0)) := by
  rw [List.getElem?_map, List.getD_eq_getElem?_getD, List.getElem?_eq_getElem q]; rfl
theorem getJ (xs : List Int64) {i : Nat} (q : i < xs.length) : (List.map Value.long xs)[i]? = some (.long (xs.getD i 0)) := by
  rw [List.getElem?_map, List.getD_eq_getElem?_getD, List.getElem?_eq_getElem q]; rfl
theorem ArL.len (F : ArL Z h a ty vs) : ∃ c : Cell, Arr Z h a c ty ∧ c.slots.size = vs.length := by
  obtain ⟨c, A, rfl⟩ := F
  exact ⟨c, A, by simp⟩
end OwnArr
end Jvm.RoadKit
namespace Jvm.Pilot.@@N@@
open Jvm Jvm.ClassFile Sem Op Lib Jvm.Free Jvm.Stand Jvm.LawKit Jvm.RoadKit Bundle Jvm.Pilot.@@N@@.Jvm.D
theorem pd_0 : parseMethodDescriptor "()Z" = some ⟨[], some .boolean⟩ := by decide +kernel
theorem d1_0 : decode prog_10_method_7_code 0 = .ok (.aload_n 0, 1) := by decide +kernel
theorem d1_1 : decode prog_10_method_7_code 1 = .ok (.getstatic 16, 3) := by decide +kernel
theorem d1_4 : decode prog_10_method_7_code 4 = .ok (.if_acmp .eq 10, 3) := by decide +kernel
theorem d1_7 : decode prog_10_method_7_code 7 = .ok (.aload_n 0, 1) := by decide +kernel
theorem d1_8 : decode prog_10_method_7_code 8 = .ok (.getstatic 13, 3) := by decide +kernel
theorem d1_11 : decode prog_10_method_7_code 11 = .ok (.if_acmp .ne 7, 3) := by decide +kernel
theorem d1_14 : decode prog_10_method_7_code 14 = .ok (.iconst 1, 1) := by decide +kernel
theorem d1_15 : decode prog_10_method_7_code 15 = .ok (.goto 4, 3) := by decide +kernel
theorem d1_18 : decode prog_10_method_7_code 18 = .ok (.iconst 0, 1) := by decide +kernel
theorem d1_19 : decode prog_10_method_7_code 19 = .ok (.ireturn, 1) := by decide +kernel
def f1 (p0 : Addr) (cs : Addr) (ip : Addr) : Bool := (let z4 : Bool := (if p0 = cs then true else (if p0 = ip then true else false)); z4)
def Q1 (Z : State) (p0 : Addr) (cs : Addr) (ip : Addr) (h0 : Heap) (n0 : Nat) (v : Option Value) (h : Heap) (L : List Loc) : Prop := v = some (.int (b2i (f1 p0 cs ip))) ∧ Fr n0 L ∧ h = h0
abbrev rmm1 : Room := { frames := 0, cells := 0, slots := 0, locals := 0 }
abbrev P1 (Z : State) (p0 : Addr) (cs : Addr) (ip : Addr) (h0 : Heap) (n0 : Nat) (s : State) : Outcome → State → Prop := fun o U' => ∃ v L, o = .returned v ∧ Q1 Z p0 cs ip h0 n0 v U'.heap L ∧ FrameEnd s o U' L rmm1.cells rmm1.slots
theorem pn_1 : plainName "com/example/careful_audit/carefulaudit/DataType" = true := by first | (simp [plainName, overriddenIn]; done) | decide +kernel
theorem ef_1 (m : MethodId) (p0 : Addr) : entryFrame m #[(.ref p0)] 1 = mkF m 0 #[.val (.ref p0)] [] := by first | (simp [entryFrame, mkF, argsToLocals, Value.category]; done) | rfl
set_option maxRecDepth 65536 in
set_option maxHeartbeats 40000000 in
theorem rm1 (l : Launch) (Z : State) (a0 : Array Value) (hw : ∀ d ∈ tables_1, d.before a0 Z = true) (ws : List Jvm.Cond) (p0 : Addr) (cs : Addr) (ip : Addr) (h0 : Heap) (n0 : Nat) (Z0 : n0 ≤ h0.size) (H0 : Sta Z h0 "com/example/careful_audit/carefulaudit/DataType" "CSTR" "Lcom/example/careful_audit/carefulaudit/DataType;" (.ref cs)) (H1 : Sta Z h0 "com/example/careful_audit/carefulaudit/DataType" "IPAD" "Lcom/example/careful_audit/carefulaudit/DataType;" (.ref ip)) :
    MetFree l (⟨"com/example/careful_audit/carefulaudit/DataType", "isText", "()Z"⟩ : MethodName) (head1 (Jvm.Cond.code (⟨"com/example/careful_audit/carefulaudit/DataType", "isText", "()Z"⟩ : MethodName) prog_10_method_7_code 1 (some .boolean) :: ws) rmm1) (fun a U => a = #[(.ref p0)] ∧ Z.Warmed39 U.vm ∧ U.heap = h0) (fun _ _ _ _ _ => True) (fun _ U o U' => ∃ v L, o = .returned v ∧ Q1 Z p0 cs ip h0 n0 v U'.heap L ∧ FrameEnd U o U' L rmm1.cells rmm1.slots) := by
  refine MetFree.of_bodySF (plainFor_of_name pn_1) hisR ?_
  intro p e s m args below meth c s₁ Bd hml0 hP hK
  obtain ⟨rfl, hZ, hh⟩ := hP
  have hx := Bd.exec
  have hby := Bd.bytes
  have hml : c.maxLocals = 1 := hml0
  have hown : s.vm.findClass "com/example/careful_audit/carefulaudit/DataType" = some m.cls := findClass_of_methodNamed Bd.named
  have hnm := (name_of_methodNamed Bd.named Bd.method).1
  have X0 : Stand p l e rmm1 s m #[(.ref p0)] below meth c s₁ [] 0 0 := Stand.of_body Bd
  have e0 : s₁.heap = h0 := by rw [← hh, Bd.state]; rfl
  have N0 := Fr.nil n0
  show Go p.tables e below (P1 Z p0 cs ip h0 n0 s) (s₁.setTop (entryFrame m #[(.ref p0)] 1))
  refine Go.back (fun t k => castTop (ef_1 m p0) k) ?_
  show Go p.tables e below (P1 Z p0 cs ip h0 n0 s) (s₁.setTop (mkF m 0 #[.val (.ref p0)] []))
  have hf0 : f1 p0 cs ip = (let z4 : Bool := (if p0 = cs then true else (if p0 = ip then true else false)); z4) := rfl
  refine Go.back (fun t k => XS.aloadN X0.here hx rfl (hb hby d1_0) rfl rfl  k) ?_
  show Go p.tables e below (P1 Z p0 cs ip h0 n0 s) (s₁.setTop (mkF m 1 #[.val (.ref p0)] [(.ref p0)]))
  obtain ⟨T1, X1, e1, st1⟩ := getS2 X0 hx hZ hown (host := "") (Or.inl (hw _ (List.mem_of_getElem? (i := 9) rfl))) Via.refl e0 H0 (g := (mkF m 1 #[.val (.ref p0)] [(.ref p0)])) rfl (hb hby d1_1)
  refine Go.back st1 ?_
  show Go p.tables e below (P1 Z p0 cs ip h0 n0 s) (T1.setTop (mkF m 4 #[.val (.ref p0)] [(.ref cs), (.ref p0)]))
  have J3 : ∀ (T5 : State) (L5 : List Loc) (X5 : Stand p l e rmm1 s m #[(.ref p0)] below meth c T5 L5 0 0) (N5 : Fr n0 L5) (e5 : T5.heap = h0) (z4 : Bool) (hz4 : z4 = (if p0 = cs then true else (if p0 = ip then true else false))), Go p.tables e below (P1 Z p0 cs ip h0 n0 s) (T5.setTop (mkF m 19 #[.val (.ref p0)] [(.int (b2i z4))])) := by
    intro T5 L5 X5 N5 e5 z4 hz4
    have r6 : f1 p0 cs ip = z4 := by subst hz4; exact hf0
    show Go p.tables e below (P1 Z p0 cs ip h0 n0 s) (T5.setTop (mkF m 19 #[.val (.ref p0)] [(.int (b2i z4))]))
    exact Go.retB (b := z4) X5 hx Bd.returns (hb hby d1_19) Bd.notSynchronized ⟨by rw [r6], N5, e5⟩ (by decide) (by decide)
  have r7 : (if p0 = cs then true else (if p0 = ip then true else false)) = (if p0 = cs then true else (if p0 = ip then true else false)) := rfl
  by_cases hc2 : p0 = cs
  · have r8 := r7.trans (if_pos hc2)
    refine Go.back (fun t k => Jvm.RoadKit.acmp (g := (mkF m 4 #[.val (.ref p0)] [(.ref cs), (.ref p0)])) X1 hx rfl rfl rfl (pc0 := 4) (pc' := 14) (same := true) rfl (hb hby d1_4) rfl ((decide_eq_true (congrArg Value.ref hc2))) (by decide) (by decide) k) ?_
    show Go p.tables e below (P1 Z p0 cs ip h0 n0 s) (T1.setTop (mkF m 14 #[.val (.ref p0)] []))
    refine Go.back (fun t k => XS.iconst X1.here hx rfl (hb hby d1_14) k) ?_
    show Go p.tables e below (P1 Z p0 cs ip h0 n0 s) (T1.setTop (mkF m 15 #[.val (.ref p0)] [(.int (1 : Int32))]))
    refine Go.back (fun t k => XS.goto X1.here hx rfl (pc0 := 15) (pc' := 19) rfl (hb hby d1_15) (by decide) (by decide) k) ?_
    show Go p.tables e below (P1 Z p0 cs ip h0 n0 s) (T1.setTop (mkF m 19 #[.val (.ref p0)] [(.int (1 : Int32))]))
    exact J3 _ _ X1 N0 e1 true r8.symm
  · have r9 := r7.trans (if_neg hc2)
    refine Go.back (fun t k => Jvm.RoadKit.acmp (g := (mkF m 4 #[.val (.ref p0)] [(.ref cs), (.ref p0)])) X1 hx rfl rfl rfl (pc0 := 4) (pc' := 7) (same := false) rfl (hb hby d1_4) rfl ((decide_eq_false fun q => hc2 (Value.ref.inj q))) (by decide) (by decide) k) ?_
    show Go p.tables e below (P1 Z p0 cs ip h0 n0 s) (T1.setTop (mkF m 7 #[.val (.ref p0)] []))
    refine Go.back (fun t k => XS.aloadN X1.here hx rfl (hb hby d1_7) rfl rfl  k) ?_
    show Go p.tables e below (P1 Z p0 cs ip h0 n0 s) (T1.setTop (mkF m 8 #[.val (.ref p0)] [(.ref p0)]))
    obtain ⟨T10, X10, e10, st10⟩ := getS2 X1 hx hZ hown (host := "") (Or.inl (hw _ (List.mem_of_getElem? (i := 11) rfl))) Via.refl e1 H1 (g := (mkF m 8 #[.val (.ref p0)] [(.ref p0)])) rfl (hb hby d1_8)
    refine Go.back st10 ?_
    show Go p.tables e below (P1 Z p0 cs ip h0 n0 s) (T10.setTop (mkF m 11 #[.val (.ref p0)] [(.ref ip), (.ref p0)]))
    by_cases hc11 : p0 = ip
    · have r12 := r9.trans (if_pos hc11)
      refine Go.back (fun t k => Jvm.RoadKit.acmp (g := (mkF m 11 #[.val (.ref p0)] [(.ref ip), (.ref p0)])) X10 hx rfl rfl rfl (pc0 := 11) (pc' := 14) (same := true) rfl (hb hby d1_11) rfl ((decide_eq_true (congrArg Value.ref hc11))) (by decide) (by decide) k) ?_
      show Go p.tables e below (P1 Z p0 cs ip h0 n0 s) (T10.setTop (mkF m 14 #[.val (.ref p0)] []))
      refine Go.back (fun t k => XS.iconst X10.here hx rfl (hb hby d1_14) k) ?_
      show Go p.tables e below (P1 Z p0 cs ip h0 n0 s) (T10.setTop (mkF m 15 #[.val (.ref p0)] [(.int (1 : Int32))]))
      refine Go.back (fun t k => XS.goto X10.here hx rfl (pc0 := 15) (pc' := 19) rfl (hb hby d1_15) (by decide) (by decide) k) ?_
      show Go p.tables e below (P1 Z p0 cs ip h0 n0 s) (T10.setTop (mkF m 19 #[.val (.ref p0)] [(.int (1 : Int32))]))
      exact J3 _ _ X10 N0 e10 true r12.symm
    · have r13 := r9.trans (if_neg hc11)
      refine Go.back (fun t k => Jvm.RoadKit.acmp (g := (mkF m 11 #[.val (.ref p0)] [(.ref ip), (.ref p0)])) X10 hx rfl rfl rfl (pc0 := 11) (pc' := 18) (same := false) rfl (hb hby d1_11) rfl ((decide_eq_false fun q => hc11 (Value.ref.inj q))) (by decide) (by decide) k) ?_
      show Go p.tables e below (P1 Z p0 cs ip h0 n0 s) (T10.setTop (mkF m 18 #[.val (.ref p0)] []))
      refine Go.back (fun t k => XS.iconst X10.here hx rfl (hb hby d1_18) k) ?_
      show Go p.tables e below (P1 Z p0 cs ip h0 n0 s) (T10.setTop (mkF m 19 #[.val (.ref p0)] [(.int (0 : Int32))]))
      exact J3 _ _ X10 N0 e10 false r13.symm
def f0 (p0 : Int32) (u32 : Addr) (u64 : Addr) (fc : Addr) (ip : Addr) (cs : Addr) : Bool := (let z2 : Int32 := ((p0 &&& (2147483647 : Int32)) % (5 : Int32)); (if z2 = (0 : Int32) then (let z10 : Bool := (if (f1 u32 cs ip) = false then true else false); z10) else (if z2 = (1 : Int32) then (let z22 : Bool := (if (f1 u64 cs ip) = false then true else false); z22) else (if z2 = (2 : Int32) then (let z34 : Bool := (if (f1 fc cs ip) = false then true else false); z34) else (if z2 = (3 : Int32) then (let z46 : Bool := (if (f1 ip cs ip) = true then true else false); z46) else (let z56 : Bool := (if (f1 cs cs ip) = true then true else false); z56))))))
def Q0 (Z : State) (p0 : Int32) (u32 : Addr) (u64 : Addr) (fc : Addr) (ip : Addr) (cs : Addr) (h0 : Heap) (n0 : Nat) (v : Option Value) (h : Heap) (L : List Loc) : Prop := v = some (.int (b2i (f0 p0 u32 u64 fc ip cs))) ∧ Fr n0 L ∧ h = h0
abbrev P0 (Z : State) (p0 : Int32) (u32 : Addr) (u64 : Addr) (fc : Addr) (ip : Addr) (cs : Addr) (h0 : Heap) (n0 : Nat) (s : State) : Outcome → State → Prop := fun o U' => ∃ v L, o = .returned v ∧ Q0 Z p0 u32 u64 fc ip cs h0 n0 v U'.heap L ∧ FrameEnd s o U' L room_1.cells room_1.slots
theorem pn_0 : plainName "com/example/careful_audit/carefulaudit/DataTypeIsTextPinLaw" = true := by first | (simp [plainName, overriddenIn]; done) | decide +kernel
theorem ef_0 (m : MethodId) (p0 : Int32) : entryFrame m #[(.int p0)] maxLocals = mkF m 0 #[.val (.int p0), .unset, .unset, .unset] [] := by first | (simp [entryFrame, mkF, argsToLocals, Value.category, maxLocals]; done) | rfl
set_option maxRecDepth 65536 in
set_option maxHeartbeats 40000000 in
theorem rm0 (l : Launch) (Z : State) (a0 : Array Value) (hw : ∀ d ∈ tables_1, d.before a0 Z = true) (ws : List Jvm.Cond) (p0 : Int32) (u32 : Addr) (u64 : Addr) (fc : Addr) (ip : Addr) (cs : Addr) (h0 : Heap) (n0 : Nat) (Z0 : n0 ≤ h0.size) (H0 : Sta Z h0 "com/example/careful_audit/carefulaudit/DataType" "UI32" "Lcom/example/careful_audit/carefulaudit/DataType;" (.ref u32)) (H1 : Sta Z h0 "com/example/careful_audit/carefulaudit/DataType" "UI64" "Lcom/example/careful_audit/carefulaudit/DataType;" (.ref u64)) (H2 : Sta Z h0 "com/example/careful_audit/carefulaudit/DataType" "FC32" "Lcom/example/careful_audit/carefulaudit/DataType;" (.ref fc)) (H3 : Sta Z h0 "com/example/careful_audit/carefulaudit/DataType" "IPAD" "Lcom/example/careful_audit/carefulaudit/DataType;" (.ref ip)) (H4 : Sta Z h0 "com/example/careful_audit/carefulaudit/DataType" "CSTR" "Lcom/example/careful_audit/carefulaudit/DataType;" (.ref cs)) (H5 : Exa Z h0 u32 "com/example/careful_audit/carefulaudit/DataType$1") (H6 : Exa Z h0 u64 "com/example/careful_audit/carefulaudit/DataType$2") (H7 : Exa Z h0 fc "com/example/careful_audit/carefulaudit/DataType$3") (H8 : Exa Z h0 ip "com/example/careful_audit/carefulaudit/DataType$4") (H9 : Exa Z h0 cs "com/example/careful_audit/carefulaudit/DataType$5") :
    MetFree l x (head1 (Jvm.Cond.code x code maxLocals ret :: ws) room_1) (fun a U => a = #[(.int p0)] ∧ Z.Warmed39 U.vm ∧ U.heap = h0) (fun _ _ _ _ _ => True) (fun _ U o U' => ∃ v L, o = .returned v ∧ Q0 Z p0 u32 u64 fc ip cs h0 n0 v U'.heap L ∧ FrameEnd U o U' L room_1.cells room_1.slots) := by
  refine MetFree.of_bodySF (plainFor_of_name pn_0) hisR ?_
  intro p e s m args below meth c s₁ Bd hml0 hP hK
  obtain ⟨rfl, hZ, hh⟩ := hP
  have hx := Bd.exec
  have hby := Bd.bytes
  have hml : c.maxLocals = 4 := hml0
  have hown : s.vm.findClass "com/example/careful_audit/carefulaudit/DataTypeIsTextPinLaw" = some m.cls := findClass_of_methodNamed Bd.named
  have hnm := (name_of_methodNamed Bd.named Bd.method).1
  have X0 : Stand p l e room_1 s m #[(.int p0)] below meth c s₁ [] 0 0 := Stand.of_body Bd
  have e0 : s₁.heap = h0 := by rw [← hh, Bd.state]; rfl
  have N0 := Fr.nil n0
  show Go p.tables e below (P0 Z p0 u32 u64 fc ip cs h0 n0 s) (s₁.setTop (entryFrame m #[(.int p0)] maxLocals))
  refine Go.back (fun t k => castTop (ef_0 m p0) k) ?_
  show Go p.tables e below (P0 Z p0 u32 u64 fc ip cs h0 n0 s) (s₁.setTop (mkF m 0 #[.val (.int p0), .unset, .unset, .unset] []))
  have hf0 : f0 p0 u32 u64 fc ip cs = (let z2 : Int32 := ((p0 &&& (2147483647 : Int32)) % (5 : Int32)); (if z2 = (0 : Int32) then (let z10 : Bool := (if (f1 u32 cs ip) = false then true else false); z10) else (if z2 = (1 : Int32) then (let z22 : Bool := (if (f1 u64 cs ip) = false then true else false); z22) else (if z2 = (2 : Int32) then (let z34 : Bool := (if (f1 fc cs ip) = false then true else false); z34) else (if z2 = (3 : Int32) then (let z46 : Bool := (if (f1 ip cs ip) = true then true else false); z46) else (let z56 : Bool := (if (f1 cs cs ip) = true then true else false); z56)))))) := rfl
  refine Go.back (fun t k => XS.iloadN X0.here hx rfl (hb hby at_0) rfl  k) ?_
  show Go p.tables e below (P0 Z p0 u32 u64 fc ip cs h0 n0 s) (s₁.setTop (mkF m 1 #[.val (.int p0), .unset, .unset, .unset] [(.int p0)]))
  refine Go.back (fun t k => X0.ldcInt hx hown (mvT hZ (hw _ (List.mem_of_getElem? (i := 0) rfl))) (g := (mkF m 1 #[.val (.int p0), .unset, .unset, .unset] [(.int p0)])) rfl (hb hby at_1) t k) ?_
  show Go p.tables e below (P0 Z p0 u32 u64 fc ip cs h0 n0 s) (s₁.setTop (mkF m 3 #[.val (.int p0), .unset, .unset, .unset] [(.int (2147483647 : Int32)), (.int p0)]))
  refine Go.back (fun t k => XS.iand X0.here hx rfl (hb hby at_3) rfl k) ?_
  show Go p.tables e below (P0 Z p0 u32 u64 fc ip cs h0 n0 s) (s₁.setTop (mkF m 4 #[.val (.int p0), .unset, .unset, .unset] [(.int (p0 &&& (2147483647 : Int32)))]))
  refine Go.back (fun t k => XS.iconst X0.here hx rfl (hb hby at_4) k) ?_
  show Go p.tables e below (P0 Z p0 u32 u64 fc ip cs h0 n0 s) (s₁.setTop (mkF m 5 #[.val (.int p0), .unset, .unset, .unset] [(.int (5 : Int32)), (.int (p0 &&& (2147483647 : Int32)))]))
  refine Go.back (fun t k => iremM X0 hx rfl (hb hby at_5) rfl (by decide) k) ?_
  show Go p.tables e below (P0 Z p0 u32 u64 fc ip cs h0 n0 s) (s₁.setTop (mkF m 6 #[.val (.int p0), .unset, .unset, .unset] [(.int ((p0 &&& (2147483647 : Int32)) % (5 : Int32)))]))
  refine Go.back (fun t k => XS.istoreN X0.here hx rfl (hb hby at_6) rfl (l' := #[.val (.int p0), .val (.int ((p0 &&& (2147483647 : Int32)) % (5 : Int32))), .unset, .unset]) rfl k) ?_
  show Go p.tables e below (P0 Z p0 u32 u64 fc ip cs h0 n0 s) (s₁.setTop (mkF m 7 #[.val (.int p0), .val (.int ((p0 &&& (2147483647 : Int32)) % (5 : Int32))), .unset, .unset] []))
  have J1 : ∀ (z2 : Int32) (hz2 : z2 = ((p0 &&& (2147483647 : Int32)) % (5 : Int32))), Go p.tables e below (P0 Z p0 u32 u64 fc ip cs h0 n0 s) (s₁.setTop (mkF m 7 #[.val (.int p0), .val (.int z2), .unset, .unset] [])) := by
    intro z2 hz2
    have r3 : f0 p0 u32 u64 fc ip cs = (if z2 = (0 : Int32) then (let z10 : Bool := (if (f1 u32 cs ip) = false then true else false); z10) else (if z2 = (1 : Int32) then (let z22 : Bool := (if (f1 u64 cs ip) = false then true else false); z22) else (if z2 = (2 : Int32) then (let z34 : Bool := (if (f1 fc cs ip) = false then true else false); z34) else (if z2 = (3 : Int32) then (let z46 : Bool := (if (f1 ip cs ip) = true then true else false); z46) else (let z56 : Bool := (if (f1 cs cs ip) = true then true else false); z56))))) := by subst hz2; exact hf0
    show Go p.tables e below (P0 Z p0 u32 u64 fc ip cs h0 n0 s) (s₁.setTop (mkF m 7 #[.val (.int p0), .val (.int z2), .unset, .unset] []))
    refine Go.back (fun t k => XS.iloadN X0.here hx rfl (hb hby at_7) rfl  k) ?_
    show Go p.tables e below (P0 Z p0 u32 u64 fc ip cs h0 n0 s) (s₁.setTop (mkF m 8 #[.val (.int p0), .val (.int z2), .unset, .unset] [(.int z2)]))
    by_cases hc4 : z2 = (0 : Int32)
    · have r5 := r3.trans (if_pos hc4)
      refine Go.back (fun t k => XS.ifNo X0.here hx rfl (hb hby at_8) rfl ((if0 _ _).trans (teq hc4).2) k) ?_
      show Go p.tables e below (P0 Z p0 u32 u64 fc ip cs h0 n0 s) (s₁.setTop (mkF m 11 #[.val (.int p0), .val (.int z2), .unset, .unset] []))
      obtain ⟨T6, X6, e6, st6⟩ := getS2 X0 hx hZ hown (host := "") (Or.inl (hw _ (List.mem_of_getElem? (i := 1) rfl))) Via.refl e0 H0 (g := (mkF m 11 #[.val (.int p0), .val (.int z2), .unset, .unset] [])) rfl (hb hby at_11)
      refine Go.back st6 ?_
      show Go p.tables e below (P0 Z p0 u32 u64 fc ip cs h0 n0 s) (T6.setTop (mkF m 14 #[.val (.int p0), .val (.int z2), .unset, .unset] [(.ref u32)]))
      refine Go.back (fun t k => XS.astoreN X6.here hx rfl (hb hby at_14) rfl rfl (l' := #[.val (.int p0), .val (.int z2), .val (.ref u32), .unset]) rfl k) ?_
      show Go p.tables e below (P0 Z p0 u32 u64 fc ip cs h0 n0 s) (T6.setTop (mkF m 15 #[.val (.int p0), .val (.int z2), .val (.ref u32), .unset] []))
      refine Go.back (fun t k => XS.iconst X6.here hx rfl (hb hby at_15) k) ?_
      show Go p.tables e below (P0 Z p0 u32 u64 fc ip cs h0 n0 s) (T6.setTop (mkF m 16 #[.val (.int p0), .val (.int z2), .val (.ref u32), .unset] [(.int (0 : Int32))]))
      refine Go.back (fun t k => XS.istoreN X6.here hx rfl (hb hby at_16) rfl (l' := #[.val (.int p0), .val (.int z2), .val (.ref u32), .val (.int (0 : Int32))]) rfl k) ?_
      show Go p.tables e below (P0 Z p0 u32 u64 fc ip cs h0 n0 s) (T6.setTop (mkF m 17 #[.val (.int p0), .val (.int z2), .val (.ref u32), .val (.int (0 : Int32))] []))
      refine Go.back (fun t k => XS.goto X6.here hx rfl (pc0 := 17) (pc' := 68) rfl (hb hby at_17) (by decide) (by decide) k) ?_
      show Go p.tables e below (P0 Z p0 u32 u64 fc ip cs h0 n0 s) (T6.setTop (mkF m 68 #[.val (.int p0), .val (.int z2), .val (.ref u32), .val (.int (0 : Int32))] []))
      refine Go.back (fun t k => XS.aloadN X6.here hx rfl (hb hby at_68) rfl rfl  k) ?_
      show Go p.tables e below (P0 Z p0 u32 u64 fc ip cs h0 n0 s) (T6.setTop (mkF m 69 #[.val (.int p0), .val (.int z2), .val (.ref u32), .val (.int (0 : Int32))] [(.ref u32)]))
      obtain ⟨cq7, kq7, q7a, q7b, q7c⟩ := isOf hZ e6 H5
      obtain ⟨_, _, ⟨T7, L7, k7, n7⟩, -, X7, ⟨Lc7, hQ7, l7, y7, z7⟩, st7⟩ := X6.virtualBack hx (y := (⟨"com/example/careful_audit/carefulaudit/DataType", "isText", "()Z"⟩ : MethodName)) (z := (⟨"com/example/careful_audit/carefulaudit/DataType", "isText", "()Z"⟩ : MethodName)) hown (mvT hZ (hw _ (List.mem_of_getElem? (i := 4) rfl))) (mvT hZ (hw _ (List.mem_of_getElem? (i := 5) rfl))) (notFace_of_selects (args := #[]) (mvT hZ (hw _ (List.mem_of_getElem? (i := 7) rfl)))) (mvT hZ (hw _ (List.mem_of_getElem? (i := 7) rfl))) (mvT hZ (hw _ (List.mem_of_getElem? (i := 6) rfl))) (by decide) (backOf (W := 0) (rm1 l Z a0 hw [] u32 cs ip h0 n0 Z0 H4 H3) hZ (hw _ (List.mem_of_getElem? (i := 8) rfl)) (hw _ (List.mem_of_getElem? (i := 2) rfl)) (by decide) (by decide)) q7a q7c (g := (mkF m 69 #[.val (.int p0), .val (.int z2), .val (.ref u32), .val (.int (0 : Int32))] [(.ref u32)])) rfl (by rw [hml]; rfl) (Steps.refl _) (argsL := []) (rest := []) (lenOf pd_0 rfl) rfl (by show 2 * 0 + _ ≤ _; exact Nat.le_of_eq rfl) (hb hby at_69) (fun _ _ => ⟨rfl, e6, (by decide : 0 + 0 ≤ _), (by decide : 0 + 0 ≤ _)⟩)
      dsimp only [Pt.U, Pt.locs, Pt.cells, Pt.slots] at X7 l7 y7 z7 st7 hQ7
      subst l7 y7 z7
      obtain ⟨rfl, N7q, e7⟩ := hQ7
      have N7 := Fr.app N0 N7q
      refine Go.trans st7 ?_
      show Go p.tables e below (P0 Z p0 u32 u64 fc ip cs h0 n0 s) (T7.setTop (mkF m 72 #[.val (.int p0), .val (.int z2), .val (.ref u32), .val (.int (0 : Int32))] [(.int (b2i (f1 u32 cs ip)))]))
      refine Go.back (fun t k => XS.iloadN X7.here hx rfl (hb hby at_72) rfl  k) ?_
      show Go p.tables e below (P0 Z p0 u32 u64 fc ip cs h0 n0 s) (T7.setTop (mkF m 73 #[.val (.int p0), .val (.int z2), .val (.ref u32), .val (.int (0 : Int32))] [(.int (0 : Int32)), (.int (b2i (f1 u32 cs ip)))]))
      have J9 : ∀ (z10 : Bool) (hz10 : z10 = (if (f1 u32 cs ip) = false then true else false)), Go p.tables e below (P0 Z p0 u32 u64 fc ip cs h0 n0 s) (T7.setTop (mkF m 81 #[.val (.int p0), .val (.int z2), .val (.ref u32), .val (.int (0 : Int32))] [(.int (b2i z10))])) := by
        intro z10 hz10
        have r11 : f0 p0 u32 u64 fc ip cs = z10 := by subst hz10; exact r5
        show Go p.tables e below (P0 Z p0 u32 u64 fc ip cs h0 n0 s) (T7.setTop (mkF m 81 #[.val (.int p0), .val (.int z2), .val (.ref u32), .val (.int (0 : Int32))] [(.int (b2i z10))]))
        exact Go.retB (b := z10) X7 hx Bd.returns (hb hby at_81) Bd.notSynchronized ⟨by rw [r11], N7, e7⟩ (by decide) (by decide)
      have r12 : (if (f1 u32 cs ip) = false then true else false) = (if (f1 u32 cs ip) = false then true else false) := rfl
      by_cases hc8 : (f1 u32 cs ip) = false
      · have r13 := r12.trans (if_pos hc8)
        refine Go.back (fun t k => XS.icmpNo X7.here hx rfl (hb hby at_73) rfl (teq (congrArg b2i hc8)).2 k) ?_
        show Go p.tables e below (P0 Z p0 u32 u64 fc ip cs h0 n0 s) (T7.setTop (mkF m 76 #[.val (.int p0), .val (.int z2), .val (.ref u32), .val (.int (0 : Int32))] []))
        refine Go.back (fun t k => XS.iconst X7.here hx rfl (hb hby at_76) k) ?_
        show Go p.tables e below (P0 Z p0 u32 u64 fc ip cs h0 n0 s) (T7.setTop (mkF m 77 #[.val (.int p0), .val (.int z2), .val (.ref u32), .val (.int (0 : Int32))] [(.int (1 : Int32))]))
        refine Go.back (fun t k => XS.goto X7.here hx rfl (pc0 := 77) (pc' := 81) rfl (hb hby at_77) (by decide) (by decide) k) ?_
        show Go p.tables e below (P0 Z p0 u32 u64 fc ip cs h0 n0 s) (T7.setTop (mkF m 81 #[.val (.int p0), .val (.int z2), .val (.ref u32), .val (.int (0 : Int32))] [(.int (1 : Int32))]))
        exact J9 true r13.symm
      · have r14 := r12.trans (if_neg hc8)
        refine Go.back (fun t k => XS.icmpYes X7.here hx rfl (pc0 := 73) (pc' := 80) rfl (hb hby at_73) rfl (feq (fun q => hc8 (b2i_inj q))).2 (by decide) (by decide) k) ?_
        show Go p.tables e below (P0 Z p0 u32 u64 fc ip cs h0 n0 s) (T7.setTop (mkF m 80 #[.val (.int p0), .val (.int z2), .val (.ref u32), .val (.int (0 : Int32))] []))
        refine Go.back (fun t k => XS.iconst X7.here hx rfl (hb hby at_80) k) ?_
        show Go p.tables e below (P0 Z p0 u32 u64 fc ip cs h0 n0 s) (T7.setTop (mkF m 81 #[.val (.int p0), .val (.int z2), .val (.ref u32), .val (.int (0 : Int32))] [(.int (0 : Int32))]))
        exact J9 false r14.symm
    · have r15 := r3.trans (if_neg hc4)
      refine Go.back (fun t k => XS.ifYes X0.here hx rfl (pc0 := 8) (pc' := 20) rfl (hb hby at_8) rfl ((if0 _ _).trans (feq hc4).2) (by decide) (by decide) k) ?_
      show Go p.tables e below (P0 Z p0 u32 u64 fc ip cs h0 n0 s) (s₁.setTop (mkF m 20 #[.val (.int p0), .val (.int z2), .unset, .unset] []))
      refine Go.back (fun t k => XS.iloadN X0.here hx rfl (hb hby at_20) rfl  k) ?_
      show Go p.tables e below (P0 Z p0 u32 u64 fc ip cs h0 n0 s) (s₁.setTop (mkF m 21 #[.val (.int p0), .val (.int z2), .unset, .unset] [(.int z2)]))
      refine Go.back (fun t k => XS.iconst X0.here hx rfl (hb hby at_21) k) ?_
      show Go p.tables e below (P0 Z p0 u32 u64 fc ip cs h0 n0 s) (s₁.setTop (mkF m 22 #[.val (.int p0), .val (.int z2), .unset, .unset] [(.int (1 : Int32)), (.int z2)]))
      by_cases hc16 : z2 = (1 : Int32)
      · have r17 := r15.trans (if_pos hc16)
        refine Go.back (fun t k => XS.icmpNo X0.here hx rfl (hb hby at_22) rfl (teq hc16).2 k) ?_
        show Go p.tables e below (P0 Z p0 u32 u64 fc ip cs h0 n0 s) (s₁.setTop (mkF m 25 #[.val (.int p0), .val (.int z2), .unset, .unset] []))
        obtain ⟨T18, X18, e18, st18⟩ := getS2 X0 hx hZ hown (host := "") (Or.inl (hw _ (List.mem_of_getElem? (i := 15) rfl))) Via.refl e0 H1 (g := (mkF m 25 #[.val (.int p0), .val (.int z2), .unset, .unset] [])) rfl (hb hby at_25)
        refine Go.back st18 ?_
        show Go p.tables e below (P0 Z p0 u32 u64 fc ip cs h0 n0 s) (T18.setTop (mkF m 28 #[.val (.int p0), .val (.int z2), .unset, .unset] [(.ref u64)]))
        refine Go.back (fun t k => XS.astoreN X18.here hx rfl (hb hby at_28) rfl rfl (l' := #[.val (.int p0), .val (.int z2), .val (.ref u64), .unset]) rfl k) ?_
        show Go p.tables e below (P0 Z p0 u32 u64 fc ip cs h0 n0 s) (T18.setTop (mkF m 29 #[.val (.int p0), .val (.int z2), .val (.ref u64), .unset] []))
        refine Go.back (fun t k => XS.iconst X18.here hx rfl (hb hby at_29) k) ?_
        show Go p.tables e below (P0 Z p0 u32 u64 fc ip cs h0 n0 s) (T18.setTop (mkF m 30 #[.val (.int p0), .val (.int z2), .val (.ref u64), .unset] [(.int (0 : Int32))]))
        refine Go.back (fun t k => XS.istoreN X18.here hx rfl (hb hby at_30) rfl (l' := #[.val (.int p0), .val (.int z2), .val (.ref u64), .val (.int (0 : Int32))]) rfl k) ?_
        show Go p.tables e below (P0 Z p0 u32 u64 fc ip cs h0 n0 s) (T18.setTop (mkF m 31 #[.val (.int p0), .val (.int z2), .val (.ref u64), .val (.int (0 : Int32))] []))
        refine Go.back (fun t k => XS.goto X18.here hx rfl (pc0 := 31) (pc' := 68) rfl (hb hby at_31) (by decide) (by decide) k) ?_
        show Go p.tables e below (P0 Z p0 u32 u64 fc ip cs h0 n0 s) (T18.setTop (mkF m 68 #[.val (.int p0), .val (.int z2), .val (.ref u64), .val (.int (0 : Int32))] []))
        refine Go.back (fun t k => XS.aloadN X18.here hx rfl (hb hby at_68) rfl rfl  k) ?_
        show Go p.tables e below (P0 Z p0 u32 u64 fc ip cs h0 n0 s) (T18.setTop (mkF m 69 #[.val (.int p0), .val (.int z2), .val (.ref u64), .val (.int (0 : Int32))] [(.ref u64)]))
        obtain ⟨cq19, kq19, q19a, q19b, q19c⟩ := isOf hZ e18 H6
        obtain ⟨_, _, ⟨T19, L19, k19, n19⟩, -, X19, ⟨Lc19, hQ19, l19, y19, z19⟩, st19⟩ := X18.virtualBack hx (y := (⟨"com/example/careful_audit/carefulaudit/DataType", "isText", "()Z"⟩ : MethodName)) (z := (⟨"com/example/careful_audit/carefulaudit/DataType", "isText", "()Z"⟩ : MethodName)) hown (mvT hZ (hw _ (List.mem_of_getElem? (i := 4) rfl))) (mvT hZ (hw _ (List.mem_of_getElem? (i := 5) rfl))) (notFace_of_selects (args := #[]) (mvT hZ (hw _ (List.mem_of_getElem? (i := 17) rfl)))) (mvT hZ (hw _ (List.mem_of_getElem? (i := 17) rfl))) (mvT hZ (hw _ (List.mem_of_getElem? (i := 6) rfl))) (by decide) (backOf (W := 0) (rm1 l Z a0 hw [] u64 cs ip h0 n0 Z0 H4 H3) hZ (hw _ (List.mem_of_getElem? (i := 8) rfl)) (hw _ (List.mem_of_getElem? (i := 2) rfl)) (by decide) (by decide)) q19a q19c (g := (mkF m 69 #[.val (.int p0), .val (.int z2), .val (.ref u64), .val (.int (0 : Int32))] [(.ref u64)])) rfl (by rw [hml]; rfl) (Steps.refl _) (argsL := []) (rest := []) (lenOf pd_0 rfl) rfl (by show 2 * 0 + _ ≤ _; exact Nat.le_of_eq rfl) (hb hby at_69) (fun _ _ => ⟨rfl, e18, (by decide : 0 + 0 ≤ _), (by decide : 0 + 0 ≤ _)⟩)
        dsimp only [Pt.U, Pt.locs, Pt.cells, Pt.slots] at X19 l19 y19 z19 st19 hQ19
        subst l19 y19 z19
        obtain ⟨rfl, N19q, e19⟩ := hQ19
        have N19 := Fr.app N0 N19q
        refine Go.trans st19 ?_
        show Go p.tables e below (P0 Z p0 u32 u64 fc ip cs h0 n0 s) (T19.setTop (mkF m 72 #[.val (.int p0), .val (.int z2), .val (.ref u64), .val (.int (0 : Int32))] [(.int (b2i (f1 u64 cs ip)))]))
        refine Go.back (fun t k => XS.iloadN X19.here hx rfl (hb hby at_72) rfl  k) ?_
        show Go p.tables e below (P0 Z p0 u32 u64 fc ip cs h0 n0 s) (T19.setTop (mkF m 73 #[.val (.int p0), .val (.int z2), .val (.ref u64), .val (.int (0 : Int32))] [(.int (0 : Int32)), (.int (b2i (f1 u64 cs ip)))]))
        have J21 : ∀ (z22 : Bool) (hz22 : z22 = (if (f1 u64 cs ip) = false then true else false)), Go p.tables e below (P0 Z p0 u32 u64 fc ip cs h0 n0 s) (T19.setTop (mkF m 81 #[.val (.int p0), .val (.int z2), .val (.ref u64), .val (.int (0 : Int32))] [(.int (b2i z22))])) := by
          intro z22 hz22
          have r23 : f0 p0 u32 u64 fc ip cs = z22 := by subst hz22; exact r17
          show Go p.tables e below (P0 Z p0 u32 u64 fc ip cs h0 n0 s) (T19.setTop (mkF m 81 #[.val (.int p0), .val (.int z2), .val (.ref u64), .val (.int (0 : Int32))] [(.int (b2i z22))]))
          exact Go.retB (b := z22) X19 hx Bd.returns (hb hby at_81) Bd.notSynchronized ⟨by rw [r23], N19, e19⟩ (by decide) (by decide)
        have r24 : (if (f1 u64 cs ip) = false then true else false) = (if (f1 u64 cs ip) = false then true else false) := rfl
        by_cases hc20 : (f1 u64 cs ip) = false
        · have r25 := r24.trans (if_pos hc20)
          refine Go.back (fun t k => XS.icmpNo X19.here hx rfl (hb hby at_73) rfl (teq (congrArg b2i hc20)).2 k) ?_
          show Go p.tables e below (P0 Z p0 u32 u64 fc ip cs h0 n0 s) (T19.setTop (mkF m 76 #[.val (.int p0), .val (.int z2), .val (.ref u64), .val (.int (0 : Int32))] []))
          refine Go.back (fun t k => XS.iconst X19.here hx rfl (hb hby at_76) k) ?_
          show Go p.tables e below (P0 Z p0 u32 u64 fc ip cs h0 n0 s) (T19.setTop (mkF m 77 #[.val (.int p0), .val (.int z2), .val (.ref u64), .val (.int (0 : Int32))] [(.int (1 : Int32))]))
          refine Go.back (fun t k => XS.goto X19.here hx rfl (pc0 := 77) (pc' := 81) rfl (hb hby at_77) (by decide) (by decide) k) ?_
          show Go p.tables e below (P0 Z p0 u32 u64 fc ip cs h0 n0 s) (T19.setTop (mkF m 81 #[.val (.int p0), .val (.int z2), .val (.ref u64), .val (.int (0 : Int32))] [(.int (1 : Int32))]))
          exact J21 true r25.symm
        · have r26 := r24.trans (if_neg hc20)
          refine Go.back (fun t k => XS.icmpYes X19.here hx rfl (pc0 := 73) (pc' := 80) rfl (hb hby at_73) rfl (feq (fun q => hc20 (b2i_inj q))).2 (by decide) (by decide) k) ?_
          show Go p.tables e below (P0 Z p0 u32 u64 fc ip cs h0 n0 s) (T19.setTop (mkF m 80 #[.val (.int p0), .val (.int z2), .val (.ref u64), .val (.int (0 : Int32))] []))
          refine Go.back (fun t k => XS.iconst X19.here hx rfl (hb hby at_80) k) ?_
          show Go p.tables e below (P0 Z p0 u32 u64 fc ip cs h0 n0 s) (T19.setTop (mkF m 81 #[.val (.int p0), .val (.int z2), .val (.ref u64), .val (.int (0 : Int32))] [(.int (0 : Int32))]))
          exact J21 false r26.symm
      · have r27 := r15.trans (if_neg hc16)
        refine Go.back (fun t k => XS.icmpYes X0.here hx rfl (pc0 := 22) (pc' := 34) rfl (hb hby at_22) rfl (feq hc16).2 (by decide) (by decide) k) ?_
        show Go p.tables e below (P0 Z p0 u32 u64 fc ip cs h0 n0 s) (s₁.setTop (mkF m 34 #[.val (.int p0), .val (.int z2), .unset, .unset] []))
        refine Go.back (fun t k => XS.iloadN X0.here hx rfl (hb hby at_34) rfl  k) ?_
        show Go p.tables e below (P0 Z p0 u32 u64 fc ip cs h0 n0 s) (s₁.setTop (mkF m 35 #[.val (.int p0), .val (.int z2), .unset, .unset] [(.int z2)]))
        refine Go.back (fun t k => XS.iconst X0.here hx rfl (hb hby at_35) k) ?_
        show Go p.tables e below (P0 Z p0 u32 u64 fc ip cs h0 n0 s) (s₁.setTop (mkF m 36 #[.val (.int p0), .val (.int z2), .unset, .unset] [(.int (2 : Int32)), (.int z2)]))
        by_cases hc28 : z2 = (2 : Int32)
        · have r29 := r27.trans (if_pos hc28)
          refine Go.back (fun t k => XS.icmpNo X0.here hx rfl (hb hby at_36) rfl (teq hc28).2 k) ?_
          show Go p.tables e below (P0 Z p0 u32 u64 fc ip cs h0 n0 s) (s₁.setTop (mkF m 39 #[.val (.int p0), .val (.int z2), .unset, .unset] []))
          obtain ⟨T30, X30, e30, st30⟩ := getS2 X0 hx hZ hown (host := "") (Or.inl (hw _ (List.mem_of_getElem? (i := 20) rfl))) Via.refl e0 H2 (g := (mkF m 39 #[.val (.int p0), .val (.int z2), .unset, .unset] [])) rfl (hb hby at_39)
          refine Go.back st30 ?_
          show Go p.tables e below (P0 Z p0 u32 u64 fc ip cs h0 n0 s) (T30.setTop (mkF m 42 #[.val (.int p0), .val (.int z2), .unset, .unset] [(.ref fc)]))
          refine Go.back (fun t k => XS.astoreN X30.here hx rfl (hb hby at_42) rfl rfl (l' := #[.val (.int p0), .val (.int z2), .val (.ref fc), .unset]) rfl k) ?_
          show Go p.tables e below (P0 Z p0 u32 u64 fc ip cs h0 n0 s) (T30.setTop (mkF m 43 #[.val (.int p0), .val (.int z2), .val (.ref fc), .unset] []))
          refine Go.back (fun t k => XS.iconst X30.here hx rfl (hb hby at_43) k) ?_
          show Go p.tables e below (P0 Z p0 u32 u64 fc ip cs h0 n0 s) (T30.setTop (mkF m 44 #[.val (.int p0), .val (.int z2), .val (.ref fc), .unset] [(.int (0 : Int32))]))
          refine Go.back (fun t k => XS.istoreN X30.here hx rfl (hb hby at_44) rfl (l' := #[.val (.int p0), .val (.int z2), .val (.ref fc), .val (.int (0 : Int32))]) rfl k) ?_
          show Go p.tables e below (P0 Z p0 u32 u64 fc ip cs h0 n0 s) (T30.setTop (mkF m 45 #[.val (.int p0), .val (.int z2), .val (.ref fc), .val (.int (0 : Int32))] []))
          refine Go.back (fun t k => XS.goto X30.here hx rfl (pc0 := 45) (pc' := 68) rfl (hb hby at_45) (by decide) (by decide) k) ?_
          show Go p.tables e below (P0 Z p0 u32 u64 fc ip cs h0 n0 s) (T30.setTop (mkF m 68 #[.val (.int p0), .val (.int z2), .val (.ref fc), .val (.int (0 : Int32))] []))
          refine Go.back (fun t k => XS.aloadN X30.here hx rfl (hb hby at_68) rfl rfl  k) ?_
          show Go p.tables e below (P0 Z p0 u32 u64 fc ip cs h0 n0 s) (T30.setTop (mkF m 69 #[.val (.int p0), .val (.int z2), .val (.ref fc), .val (.int (0 : Int32))] [(.ref fc)]))
          obtain ⟨cq31, kq31, q31a, q31b, q31c⟩ := isOf hZ e30 H7
          obtain ⟨_, _, ⟨T31, L31, k31, n31⟩, -, X31, ⟨Lc31, hQ31, l31, y31, z31⟩, st31⟩ := X30.virtualBack hx (y := (⟨"com/example/careful_audit/carefulaudit/DataType", "isText", "()Z"⟩ : MethodName)) (z := (⟨"com/example/careful_audit/carefulaudit/DataType", "isText", "()Z"⟩ : MethodName)) hown (mvT hZ (hw _ (List.mem_of_getElem? (i := 4) rfl))) (mvT hZ (hw _ (List.mem_of_getElem? (i := 5) rfl))) (notFace_of_selects (args := #[]) (mvT hZ (hw _ (List.mem_of_getElem? (i := 22) rfl)))) (mvT hZ (hw _ (List.mem_of_getElem? (i := 22) rfl))) (mvT hZ (hw _ (List.mem_of_getElem? (i := 6) rfl))) (by decide) (backOf (W := 0) (rm1 l Z a0 hw [] fc cs ip h0 n0 Z0 H4 H3) hZ (hw _ (List.mem_of_getElem? (i := 8) rfl)) (hw _ (List.mem_of_getElem? (i := 2) rfl)) (by decide) (by decide)) q31a q31c (g := (mkF m 69 #[.val (.int p0), .val (.int z2), .val (.ref fc), .val (.int (0 : Int32))] [(.ref fc)])) rfl (by rw [hml]; rfl) (Steps.refl _) (argsL := []) (rest := []) (lenOf pd_0 rfl) rfl (by show 2 * 0 + _ ≤ _; exact Nat.le_of_eq rfl) (hb hby at_69) (fun _ _ => ⟨rfl, e30, (by decide : 0 + 0 ≤ _), (by decide : 0 + 0 ≤ _)⟩)
          dsimp only [Pt.U, Pt.locs, Pt.cells, Pt.slots] at X31 l31 y31 z31 st31 hQ31
          subst l31 y31 z31
          obtain ⟨rfl, N31q, e31⟩ := hQ31
          have N31 := Fr.app N0 N31q
          refine Go.trans st31 ?_
          show Go p.tables e below (P0 Z p0 u32 u64 fc ip cs h0 n0 s) (T31.setTop (mkF m 72 #[.val (.int p0), .val (.int z2), .val (.ref fc), .val (.int (0 : Int32))] [(.int (b2i (f1 fc cs ip)))]))
          refine Go.back (fun t k => XS.iloadN X31.here hx rfl (hb hby at_72) rfl  k) ?_
          show Go p.tables e below (P0 Z p0 u32 u64 fc ip cs h0 n0 s) (T31.setTop (mkF m 73 #[.val (.int p0), .val (.int z2), .val (.ref fc), .val (.int (0 : Int32))] [(.int (0 : Int32)), (.int (b2i (f1 fc cs ip)))]))
          have J33 : ∀ (z34 : Bool) (hz34 : z34 = (if (f1 fc cs ip) = false then true else false)), Go p.tables e below (P0 Z p0 u32 u64 fc ip cs h0 n0 s) (T31.setTop (mkF m 81 #[.val (.int p0), .val (.int z2), .val (.ref fc), .val (.int (0 : Int32))] [(.int (b2i z34))])) := by
            intro z34 hz34
            have r35 : f0 p0 u32 u64 fc ip cs = z34 := by subst hz34; exact r29
            show Go p.tables e below (P0 Z p0 u32 u64 fc ip cs h0 n0 s) (T31.setTop (mkF m 81 #[.val (.int p0), .val (.int z2), .val (.ref fc), .val (.int (0 : Int32))] [(.int (b2i z34))]))
            exact Go.retB (b := z34) X31 hx Bd.returns (hb hby at_81) Bd.notSynchronized ⟨by rw [r35], N31, e31⟩ (by decide) (by decide)
          have r36 : (if (f1 fc cs ip) = false then true else false) = (if (f1 fc cs ip) = false then true else false) := rfl
          by_cases hc32 : (f1 fc cs ip) = false
          · have r37 := r36.trans (if_pos hc32)
            refine Go.back (fun t k => XS.icmpNo X31.here hx rfl (hb hby at_73) rfl (teq (congrArg b2i hc32)).2 k) ?_
            show Go p.tables e below (P0 Z p0 u32 u64 fc ip cs h0 n0 s) (T31.setTop (mkF m 76 #[.val (.int p0), .val (.int z2), .val (.ref fc), .val (.int (0 : Int32))] []))
            refine Go.back (fun t k => XS.iconst X31.here hx rfl (hb hby at_76) k) ?_
            show Go p.tables e below (P0 Z p0 u32 u64 fc ip cs h0 n0 s) (T31.setTop (mkF m 77 #[.val (.int p0), .val (.int z2), .val (.ref fc), .val (.int (0 : Int32))] [(.int (1 : Int32))]))
            refine Go.back (fun t k => XS.goto X31.here hx rfl (pc0 := 77) (pc' := 81) rfl (hb hby at_77) (by decide) (by decide) k) ?_
            show Go p.tables e below (P0 Z p0 u32 u64 fc ip cs h0 n0 s) (T31.setTop (mkF m 81 #[.val (.int p0), .val (.int z2), .val (.ref fc), .val (.int (0 : Int32))] [(.int (1 : Int32))]))
            exact J33 true r37.symm
          · have r38 := r36.trans (if_neg hc32)
            refine Go.back (fun t k => XS.icmpYes X31.here hx rfl (pc0 := 73) (pc' := 80) rfl (hb hby at_73) rfl (feq (fun q => hc32 (b2i_inj q))).2 (by decide) (by decide) k) ?_
            show Go p.tables e below (P0 Z p0 u32 u64 fc ip cs h0 n0 s) (T31.setTop (mkF m 80 #[.val (.int p0), .val (.int z2), .val (.ref fc), .val (.int (0 : Int32))] []))
            refine Go.back (fun t k => XS.iconst X31.here hx rfl (hb hby at_80) k) ?_
            show Go p.tables e below (P0 Z p0 u32 u64 fc ip cs h0 n0 s) (T31.setTop (mkF m 81 #[.val (.int p0), .val (.int z2), .val (.ref fc), .val (.int (0 : Int32))] [(.int (0 : Int32))]))
            exact J33 false r38.symm
        · have r39 := r27.trans (if_neg hc28)
          refine Go.back (fun t k => XS.icmpYes X0.here hx rfl (pc0 := 36) (pc' := 48) rfl (hb hby at_36) rfl (feq hc28).2 (by decide) (by decide) k) ?_
          show Go p.tables e below (P0 Z p0 u32 u64 fc ip cs h0 n0 s) (s₁.setTop (mkF m 48 #[.val (.int p0), .val (.int z2), .unset, .unset] []))
          refine Go.back (fun t k => XS.iloadN X0.here hx rfl (hb hby at_48) rfl  k) ?_
          show Go p.tables e below (P0 Z p0 u32 u64 fc ip cs h0 n0 s) (s₁.setTop (mkF m 49 #[.val (.int p0), .val (.int z2), .unset, .unset] [(.int z2)]))
          refine Go.back (fun t k => XS.iconst X0.here hx rfl (hb hby at_49) k) ?_
          show Go p.tables e below (P0 Z p0 u32 u64 fc ip cs h0 n0 s) (s₁.setTop (mkF m 50 #[.val (.int p0), .val (.int z2), .unset, .unset] [(.int (3 : Int32)), (.int z2)]))
          by_cases hc40 : z2 = (3 : Int32)
          · have r41 := r39.trans (if_pos hc40)
            refine Go.back (fun t k => XS.icmpNo X0.here hx rfl (hb hby at_50) rfl (teq hc40).2 k) ?_
            show Go p.tables e below (P0 Z p0 u32 u64 fc ip cs h0 n0 s) (s₁.setTop (mkF m 53 #[.val (.int p0), .val (.int z2), .unset, .unset] []))
            obtain ⟨T42, X42, e42, st42⟩ := getS2 X0 hx hZ hown (host := "") (Or.inl (hw _ (List.mem_of_getElem? (i := 13) rfl))) Via.refl e0 H3 (g := (mkF m 53 #[.val (.int p0), .val (.int z2), .unset, .unset] [])) rfl (hb hby at_53)
            refine Go.back st42 ?_
            show Go p.tables e below (P0 Z p0 u32 u64 fc ip cs h0 n0 s) (T42.setTop (mkF m 56 #[.val (.int p0), .val (.int z2), .unset, .unset] [(.ref ip)]))
            refine Go.back (fun t k => XS.astoreN X42.here hx rfl (hb hby at_56) rfl rfl (l' := #[.val (.int p0), .val (.int z2), .val (.ref ip), .unset]) rfl k) ?_
            show Go p.tables e below (P0 Z p0 u32 u64 fc ip cs h0 n0 s) (T42.setTop (mkF m 57 #[.val (.int p0), .val (.int z2), .val (.ref ip), .unset] []))
            refine Go.back (fun t k => XS.iconst X42.here hx rfl (hb hby at_57) k) ?_
            show Go p.tables e below (P0 Z p0 u32 u64 fc ip cs h0 n0 s) (T42.setTop (mkF m 58 #[.val (.int p0), .val (.int z2), .val (.ref ip), .unset] [(.int (1 : Int32))]))
            refine Go.back (fun t k => XS.istoreN X42.here hx rfl (hb hby at_58) rfl (l' := #[.val (.int p0), .val (.int z2), .val (.ref ip), .val (.int (1 : Int32))]) rfl k) ?_
            show Go p.tables e below (P0 Z p0 u32 u64 fc ip cs h0 n0 s) (T42.setTop (mkF m 59 #[.val (.int p0), .val (.int z2), .val (.ref ip), .val (.int (1 : Int32))] []))
            refine Go.back (fun t k => XS.goto X42.here hx rfl (pc0 := 59) (pc' := 68) rfl (hb hby at_59) (by decide) (by decide) k) ?_
            show Go p.tables e below (P0 Z p0 u32 u64 fc ip cs h0 n0 s) (T42.setTop (mkF m 68 #[.val (.int p0), .val (.int z2), .val (.ref ip), .val (.int (1 : Int32))] []))
            refine Go.back (fun t k => XS.aloadN X42.here hx rfl (hb hby at_68) rfl rfl  k) ?_
            show Go p.tables e below (P0 Z p0 u32 u64 fc ip cs h0 n0 s) (T42.setTop (mkF m 69 #[.val (.int p0), .val (.int z2), .val (.ref ip), .val (.int (1 : Int32))] [(.ref ip)]))
            obtain ⟨cq43, kq43, q43a, q43b, q43c⟩ := isOf hZ e42 H8
            obtain ⟨_, _, ⟨T43, L43, k43, n43⟩, -, X43, ⟨Lc43, hQ43, l43, y43, z43⟩, st43⟩ := X42.virtualBack hx (y := (⟨"com/example/careful_audit/carefulaudit/DataType", "isText", "()Z"⟩ : MethodName)) (z := (⟨"com/example/careful_audit/carefulaudit/DataType", "isText", "()Z"⟩ : MethodName)) hown (mvT hZ (hw _ (List.mem_of_getElem? (i := 4) rfl))) (mvT hZ (hw _ (List.mem_of_getElem? (i := 5) rfl))) (notFace_of_selects (args := #[]) (mvT hZ (hw _ (List.mem_of_getElem? (i := 14) rfl)))) (mvT hZ (hw _ (List.mem_of_getElem? (i := 14) rfl))) (mvT hZ (hw _ (List.mem_of_getElem? (i := 6) rfl))) (by decide) (backOf (W := 0) (rm1 l Z a0 hw [] ip cs ip h0 n0 Z0 H4 H3) hZ (hw _ (List.mem_of_getElem? (i := 8) rfl)) (hw _ (List.mem_of_getElem? (i := 2) rfl)) (by decide) (by decide)) q43a q43c (g := (mkF m 69 #[.val (.int p0), .val (.int z2), .val (.ref ip), .val (.int (1 : Int32))] [(.ref ip)])) rfl (by rw [hml]; rfl) (Steps.refl _) (argsL := []) (rest := []) (lenOf pd_0 rfl) rfl (by show 2 * 0 + _ ≤ _; exact Nat.le_of_eq rfl) (hb hby at_69) (fun _ _ => ⟨rfl, e42, (by decide : 0 + 0 ≤ _), (by decide : 0 + 0 ≤ _)⟩)
            dsimp only [Pt.U, Pt.locs, Pt.cells, Pt.slots] at X43 l43 y43 z43 st43 hQ43
            subst l43 y43 z43
            obtain ⟨rfl, N43q, e43⟩ := hQ43
            have N43 := Fr.app N0 N43q
            refine Go.trans st43 ?_
            show Go p.tables e below (P0 Z p0 u32 u64 fc ip cs h0 n0 s) (T43.setTop (mkF m 72 #[.val (.int p0), .val (.int z2), .val (.ref ip), .val (.int (1 : Int32))] [(.int (b2i (f1 ip cs ip)))]))
            refine Go.back (fun t k => XS.iloadN X43.here hx rfl (hb hby at_72) rfl  k) ?_
            show Go p.tables e below (P0 Z p0 u32 u64 fc ip cs h0 n0 s) (T43.setTop (mkF m 73 #[.val (.int p0), .val (.int z2), .val (.ref ip), .val (.int (1 : Int32))] [(.int (1 : Int32)), (.int (b2i (f1 ip cs ip)))]))
            have J45 : ∀ (z46 : Bool) (hz46 : z46 = (if (f1 ip cs ip) = true then true else false)), Go p.tables e below (P0 Z p0 u32 u64 fc ip cs h0 n0 s) (T43.setTop (mkF m 81 #[.val (.int p0), .val (.int z2), .val (.ref ip), .val (.int (1 : Int32))] [(.int (b2i z46))])) := by
              intro z46 hz46
              have r47 : f0 p0 u32 u64 fc ip cs = z46 := by subst hz46; exact r41
              show Go p.tables e below (P0 Z p0 u32 u64 fc ip cs h0 n0 s) (T43.setTop (mkF m 81 #[.val (.int p0), .val (.int z2), .val (.ref ip), .val (.int (1 : Int32))] [(.int (b2i z46))]))
              exact Go.retB (b := z46) X43 hx Bd.returns (hb hby at_81) Bd.notSynchronized ⟨by rw [r47], N43, e43⟩ (by decide) (by decide)
            have r48 : (if (f1 ip cs ip) = true then true else false) = (if (f1 ip cs ip) = true then true else false) := rfl
            by_cases hc44 : (f1 ip cs ip) = true
            · have r49 := r48.trans (if_pos hc44)
              refine Go.back (fun t k => XS.icmpNo X43.here hx rfl (hb hby at_73) rfl (teq (congrArg b2i hc44)).2 k) ?_
              show Go p.tables e below (P0 Z p0 u32 u64 fc ip cs h0 n0 s) (T43.setTop (mkF m 76 #[.val (.int p0), .val (.int z2), .val (.ref ip), .val (.int (1 : Int32))] []))
              refine Go.back (fun t k => XS.iconst X43.here hx rfl (hb hby at_76) k) ?_
              show Go p.tables e below (P0 Z p0 u32 u64 fc ip cs h0 n0 s) (T43.setTop (mkF m 77 #[.val (.int p0), .val (.int z2), .val (.ref ip), .val (.int (1 : Int32))] [(.int (1 : Int32))]))
              refine Go.back (fun t k => XS.goto X43.here hx rfl (pc0 := 77) (pc' := 81) rfl (hb hby at_77) (by decide) (by decide) k) ?_
              show Go p.tables e below (P0 Z p0 u32 u64 fc ip cs h0 n0 s) (T43.setTop (mkF m 81 #[.val (.int p0), .val (.int z2), .val (.ref ip), .val (.int (1 : Int32))] [(.int (1 : Int32))]))
              exact J45 true r49.symm
            · have r50 := r48.trans (if_neg hc44)
              refine Go.back (fun t k => XS.icmpYes X43.here hx rfl (pc0 := 73) (pc' := 80) rfl (hb hby at_73) rfl (feq (fun q => hc44 (b2i_inj q))).2 (by decide) (by decide) k) ?_
              show Go p.tables e below (P0 Z p0 u32 u64 fc ip cs h0 n0 s) (T43.setTop (mkF m 80 #[.val (.int p0), .val (.int z2), .val (.ref ip), .val (.int (1 : Int32))] []))
              refine Go.back (fun t k => XS.iconst X43.here hx rfl (hb hby at_80) k) ?_
              show Go p.tables e below (P0 Z p0 u32 u64 fc ip cs h0 n0 s) (T43.setTop (mkF m 81 #[.val (.int p0), .val (.int z2), .val (.ref ip), .val (.int (1 : Int32))] [(.int (0 : Int32))]))
              exact J45 false r50.symm
          · have r51 := r39.trans (if_neg hc40)
            refine Go.back (fun t k => XS.icmpYes X0.here hx rfl (pc0 := 50) (pc' := 62) rfl (hb hby at_50) rfl (feq hc40).2 (by decide) (by decide) k) ?_
            show Go p.tables e below (P0 Z p0 u32 u64 fc ip cs h0 n0 s) (s₁.setTop (mkF m 62 #[.val (.int p0), .val (.int z2), .unset, .unset] []))
            obtain ⟨T52, X52, e52, st52⟩ := getS2 X0 hx hZ hown (host := "") (Or.inl (hw _ (List.mem_of_getElem? (i := 18) rfl))) Via.refl e0 H4 (g := (mkF m 62 #[.val (.int p0), .val (.int z2), .unset, .unset] [])) rfl (hb hby at_62)
            refine Go.back st52 ?_
            show Go p.tables e below (P0 Z p0 u32 u64 fc ip cs h0 n0 s) (T52.setTop (mkF m 65 #[.val (.int p0), .val (.int z2), .unset, .unset] [(.ref cs)]))
            refine Go.back (fun t k => XS.astoreN X52.here hx rfl (hb hby at_65) rfl rfl (l' := #[.val (.int p0), .val (.int z2), .val (.ref cs), .unset]) rfl k) ?_
            show Go p.tables e below (P0 Z p0 u32 u64 fc ip cs h0 n0 s) (T52.setTop (mkF m 66 #[.val (.int p0), .val (.int z2), .val (.ref cs), .unset] []))
            refine Go.back (fun t k => XS.iconst X52.here hx rfl (hb hby at_66) k) ?_
            show Go p.tables e below (P0 Z p0 u32 u64 fc ip cs h0 n0 s) (T52.setTop (mkF m 67 #[.val (.int p0), .val (.int z2), .val (.ref cs), .unset] [(.int (1 : Int32))]))
            refine Go.back (fun t k => XS.istoreN X52.here hx rfl (hb hby at_67) rfl (l' := #[.val (.int p0), .val (.int z2), .val (.ref cs), .val (.int (1 : Int32))]) rfl k) ?_
            show Go p.tables e below (P0 Z p0 u32 u64 fc ip cs h0 n0 s) (T52.setTop (mkF m 68 #[.val (.int p0), .val (.int z2), .val (.ref cs), .val (.int (1 : Int32))] []))
            refine Go.back (fun t k => XS.aloadN X52.here hx rfl (hb hby at_68) rfl rfl  k) ?_
            show Go p.tables e below (P0 Z p0 u32 u64 fc ip cs h0 n0 s) (T52.setTop (mkF m 69 #[.val (.int p0), .val (.int z2), .val (.ref cs), .val (.int (1 : Int32))] [(.ref cs)]))
            obtain ⟨cq53, kq53, q53a, q53b, q53c⟩ := isOf hZ e52 H9
            obtain ⟨_, _, ⟨T53, L53, k53, n53⟩, -, X53, ⟨Lc53, hQ53, l53, y53, z53⟩, st53⟩ := X52.virtualBack hx (y := (⟨"com/example/careful_audit/carefulaudit/DataType", "isText", "()Z"⟩ : MethodName)) (z := (⟨"com/example/careful_audit/carefulaudit/DataType", "isText", "()Z"⟩ : MethodName)) hown (mvT hZ (hw _ (List.mem_of_getElem? (i := 4) rfl))) (mvT hZ (hw _ (List.mem_of_getElem? (i := 5) rfl))) (notFace_of_selects (args := #[]) (mvT hZ (hw _ (List.mem_of_getElem? (i := 19) rfl)))) (mvT hZ (hw _ (List.mem_of_getElem? (i := 19) rfl))) (mvT hZ (hw _ (List.mem_of_getElem? (i := 6) rfl))) (by decide) (backOf (W := 0) (rm1 l Z a0 hw [] cs cs ip h0 n0 Z0 H4 H3) hZ (hw _ (List.mem_of_getElem? (i := 8) rfl)) (hw _ (List.mem_of_getElem? (i := 2) rfl)) (by decide) (by decide)) q53a q53c (g := (mkF m 69 #[.val (.int p0), .val (.int z2), .val (.ref cs), .val (.int (1 : Int32))] [(.ref cs)])) rfl (by rw [hml]; rfl) (Steps.refl _) (argsL := []) (rest := []) (lenOf pd_0 rfl) rfl (by show 2 * 0 + _ ≤ _; exact Nat.le_of_eq rfl) (hb hby at_69) (fun _ _ => ⟨rfl, e52, (by decide : 0 + 0 ≤ _), (by decide : 0 + 0 ≤ _)⟩)
            dsimp only [Pt.U, Pt.locs, Pt.cells, Pt.slots] at X53 l53 y53 z53 st53 hQ53
            subst l53 y53 z53
            obtain ⟨rfl, N53q, e53⟩ := hQ53
            have N53 := Fr.app N0 N53q
            refine Go.trans st53 ?_
            show Go p.tables e below (P0 Z p0 u32 u64 fc ip cs h0 n0 s) (T53.setTop (mkF m 72 #[.val (.int p0), .val (.int z2), .val (.ref cs), .val (.int (1 : Int32))] [(.int (b2i (f1 cs cs ip)))]))
            refine Go.back (fun t k => XS.iloadN X53.here hx rfl (hb hby at_72) rfl  k) ?_
            show Go p.tables e below (P0 Z p0 u32 u64 fc ip cs h0 n0 s) (T53.setTop (mkF m 73 #[.val (.int p0), .val (.int z2), .val (.ref cs), .val (.int (1 : Int32))] [(.int (1 : Int32)), (.int (b2i (f1 cs cs ip)))]))
            have J55 : ∀ (z56 : Bool) (hz56 : z56 = (if (f1 cs cs ip) = true then true else false)), Go p.tables e below (P0 Z p0 u32 u64 fc ip cs h0 n0 s) (T53.setTop (mkF m 81 #[.val (.int p0), .val (.int z2), .val (.ref cs), .val (.int (1 : Int32))] [(.int (b2i z56))])) := by
              intro z56 hz56
              have r57 : f0 p0 u32 u64 fc ip cs = z56 := by subst hz56; exact r51
              show Go p.tables e below (P0 Z p0 u32 u64 fc ip cs h0 n0 s) (T53.setTop (mkF m 81 #[.val (.int p0), .val (.int z2), .val (.ref cs), .val (.int (1 : Int32))] [(.int (b2i z56))]))
              exact Go.retB (b := z56) X53 hx Bd.returns (hb hby at_81) Bd.notSynchronized ⟨by rw [r57], N53, e53⟩ (by decide) (by decide)
            have r58 : (if (f1 cs cs ip) = true then true else false) = (if (f1 cs cs ip) = true then true else false) := rfl
            by_cases hc54 : (f1 cs cs ip) = true
            · have r59 := r58.trans (if_pos hc54)
              refine Go.back (fun t k => XS.icmpNo X53.here hx rfl (hb hby at_73) rfl (teq (congrArg b2i hc54)).2 k) ?_
              show Go p.tables e below (P0 Z p0 u32 u64 fc ip cs h0 n0 s) (T53.setTop (mkF m 76 #[.val (.int p0), .val (.int z2), .val (.ref cs), .val (.int (1 : Int32))] []))
              refine Go.back (fun t k => XS.iconst X53.here hx rfl (hb hby at_76) k) ?_
              show Go p.tables e below (P0 Z p0 u32 u64 fc ip cs h0 n0 s) (T53.setTop (mkF m 77 #[.val (.int p0), .val (.int z2), .val (.ref cs), .val (.int (1 : Int32))] [(.int (1 : Int32))]))
              refine Go.back (fun t k => XS.goto X53.here hx rfl (pc0 := 77) (pc' := 81) rfl (hb hby at_77) (by decide) (by decide) k) ?_
              show Go p.tables e below (P0 Z p0 u32 u64 fc ip cs h0 n0 s) (T53.setTop (mkF m 81 #[.val (.int p0), .val (.int z2), .val (.ref cs), .val (.int (1 : Int32))] [(.int (1 : Int32))]))
              exact J55 true r59.symm
            · have r60 := r58.trans (if_neg hc54)
              refine Go.back (fun t k => XS.icmpYes X53.here hx rfl (pc0 := 73) (pc' := 80) rfl (hb hby at_73) rfl (feq (fun q => hc54 (b2i_inj q))).2 (by decide) (by decide) k) ?_
              show Go p.tables e below (P0 Z p0 u32 u64 fc ip cs h0 n0 s) (T53.setTop (mkF m 80 #[.val (.int p0), .val (.int z2), .val (.ref cs), .val (.int (1 : Int32))] []))
              refine Go.back (fun t k => XS.iconst X53.here hx rfl (hb hby at_80) k) ?_
              show Go p.tables e below (P0 Z p0 u32 u64 fc ip cs h0 n0 s) (T53.setTop (mkF m 81 #[.val (.int p0), .val (.int z2), .val (.ref cs), .val (.int (1 : Int32))] [(.int (0 : Int32))]))
              exact J55 false r60.symm
  exact J1 _ rfl
theorem own_law (p0 : Int32) (u32 u64 fc ip cs : Addr) (h1 : u32 ≠ cs) (h2 : u32 ≠ ip) (h3 : u64 ≠ cs) (h4 : u64 ≠ ip) (h5 : fc ≠ cs) (h6 : fc ≠ ip) : f0 p0 u32 u64 fc ip cs = true := by
  unfold f0
  simp only [f1]
  simp [h1, h2, h3, h4, h5, h6]
set_option maxRecDepth 65536 in
set_option maxHeartbeats 40000000 in
theorem comes_1 {Post : Tables → Env → Array Value → State → Outcome → State → Prop} (hpost : ∀ tb e args s v u, (limb_1_1.after args s (.returned v) u = true ∧ limb_1_2.after args s (.returned v) u = true ∧ True) → FrameEnd s (.returned v) u (Jvm.fieldLocs frame_1_writes args s ++ Jvm.arrayLocs frame_1_arrays args s ++ Jvm.staticLocs frame_1_statics s) 0 0 → Post tb e args s (.returned v) u) :
    ArmFor flags0 classFile x code maxLocals ret World_1 tables_1 room_1 Calls_1 rest_1 Pre_1 Post := by
  intro l hfl _ _ p e ha hc hk s m args below hf hA hF happ hP
  obtain ⟨hcalls, hrest, hpre⟩ := hP
  obtain ⟨-, -, -, hnamed, -, -, -, hat⟩ := (Spec.applies_iff hf).mp happ
  obtain ⟨hg, hn⟩ := and_e (Cond.before_iff.mp (show (Jvm.Cond.and given_1 narrow_1).before args s = true from hpre))
  obtain ⟨g1, g2⟩ := and_e hg
  obtain ⟨w0, rfl⟩ : ∃ w0 : Value, args = #[w0] := by
    have hs : args.size = 1 := by simpa [Cond.value, given_1] using g1
    obtain ⟨L⟩ := args
    match L, hs with
    | [w0], _ => exact ⟨w0, rfl⟩
  have hw := fun d (hd : d ∈ tables_1) => atoms_spec (ws := Jvm.Cond.code x code maxLocals ret :: tables_1) hat d (List.mem_cons_of_mem _ hd)
  have hfit : Fit s := fun {y c} hc i hi => by
    obtain ⟨ha, rfl⟩ := Array.getElem?_eq_some_iff.mp hc
    have q := List.all_eq_true.mp ((Array.all_eq_true_iff_forall_mem.mp hF) _ (Array.getElem_mem ha)) i (List.mem_range.mpr hi)
    simpa [Array.getElem?_eq_getElem hi] using q
  obtain ⟨i0, ei0⟩ := is_v g2
  obtain rfl : w0 = (.int i0) := Option.some.inj ei0
  obtain ⟨n_UI32, m0⟩ := and_e hn
  obtain ⟨u32, _, _, _, e_UI32, -⟩ := Cond.exactly_spec (Cond.before_iff.mpr n_UI32)
  have S_UI32 := Sta.start e_UI32 (Or.inr ⟨(hw _ (List.mem_of_getElem? (i := 2) rfl)), (hw _ (List.mem_of_getElem? (i := 3) rfl))⟩)
  have E_UI32 := Exa.start e_UI32 n_UI32
  obtain ⟨n_CSTR, m1⟩ := and_e m0
  obtain ⟨cs, _, _, _, e_CSTR, -⟩ := Cond.exactly_spec (Cond.before_iff.mpr n_CSTR)
  have S_CSTR := Sta.start e_CSTR (Or.inr ⟨(hw _ (List.mem_of_getElem? (i := 2) rfl)), (hw _ (List.mem_of_getElem? (i := 10) rfl))⟩)
  have E_CSTR := Exa.start e_CSTR n_CSTR
  obtain ⟨n_IPAD, m2⟩ := and_e m1
  obtain ⟨ip, _, _, _, e_IPAD, -⟩ := Cond.exactly_spec (Cond.before_iff.mpr n_IPAD)
  have S_IPAD := Sta.start e_IPAD (Or.inr ⟨(hw _ (List.mem_of_getElem? (i := 2) rfl)), (hw _ (List.mem_of_getElem? (i := 12) rfl))⟩)
  have E_IPAD := Exa.start e_IPAD n_IPAD
  obtain ⟨n_UI64, m3⟩ := and_e m2
  obtain ⟨u64, _, _, _, e_UI64, -⟩ := Cond.exactly_spec (Cond.before_iff.mpr n_UI64)
  have S_UI64 := Sta.start e_UI64 (Or.inr ⟨(hw _ (List.mem_of_getElem? (i := 2) rfl)), (hw _ (List.mem_of_getElem? (i := 16) rfl))⟩)
  have E_UI64 := Exa.start e_UI64 n_UI64
  have n_FC32 := m3
  obtain ⟨fc, _, _, _, e_FC32, -⟩ := Cond.exactly_spec (Cond.before_iff.mpr n_FC32)
  have S_FC32 := Sta.start e_FC32 (Or.inr ⟨(hw _ (List.mem_of_getElem? (i := 2) rfl)), (hw _ (List.mem_of_getElem? (i := 21) rfl))⟩)
  have E_FC32 := Exa.start e_FC32 n_FC32
  obtain ⟨n, o, h1, h2, h3, v, L, rfl, hQ, hq⟩ := rm0 l s _ hw tables_1 i0 u32 u64 fc ip cs s.heap s.heap.size (Nat.le_refl _) S_UI32 S_UI64 S_FC32 S_IPAD S_CSTR E_UI32 E_UI64 E_FC32 E_IPAD E_CSTR p e ha hc hk s m _ below hf ((Spec.applies_iff_loose hf).mp happ).1 ⟨rfl, State.Warmed39.refl s, rfl⟩ trivial
  have hv : v = some (.int (b2i (f0 i0 u32 u64 fc ip cs))) := hQ.1
  rw [own_law i0 u32 u64 fc ip cs (ne_exa E_UI32 E_CSTR (by decide)) (ne_exa E_UI32 E_IPAD (by decide)) (ne_exa E_UI64 E_CSTR (by decide)) (ne_exa E_UI64 E_IPAD (by decide)) (ne_exa E_FC32 E_CSTR (by decide)) (ne_exa E_FC32 E_IPAD (by decide))] at hv
  subst hv
  have N : Fr s.heap.size L := by first | exact hQ.2.1 | exact hQ.2
  refine ⟨n, _, h1, h2, h3, hpost _ _ _ _ _ _ ⟨Cond.after_iff.mpr rfl, Cond.after_iff.mpr (eq_i res_at (Term.int_eval (1)) rfl), trivial⟩ ⟨hq.1, hq.2.1, (hq.2.2.sift fun y hy => Or.inr (N y hy)).mono (by decide) (by decide)⟩⟩
theorem main_1_1 : Claimed_1_1 := comes_1 fun _ _ _ _ _ _ h hF => ⟨h.1, hF⟩
theorem main_1_2 : Claimed_1_2 := comes_1 fun _ _ _ _ _ _ h hF => ⟨h.2.1, hF⟩
end Jvm.Pilot.@@N@@
namespace Jvm.Pilot.@@N@@
open Jvm Jvm.ClassFile Sem Op Lib Jvm.Free Jvm.Stand Jvm.Pilot.@@N@@.Jvm.D
/-! MADE BY PROGRAM (witnessworld.py) out of the Statement's table words and the real class files: 17 classes; the members and pool entries that the words name. The judged class is class 1, her method 1. -/
namespace start1
open Jvm.ClassFile
def u (s : String) : CpInfo := .utf8 (stringToUtf16 s)
/-- a pool by its gaps: so many unusable entries, then the entry; so many at the end -/
def gap : Nat → List CpInfo → List CpInfo
  | 0, r => r
  | n + 1, r => .unusable :: gap n r
def poolList (es : List (Nat × CpInfo)) (last : Nat) : List CpInfo := es.foldr (fun e r => gap e.1 (e.2 :: r)) (gap last [])
def pool (es : List (Nat × CpInfo)) (last : Nat) : Array CpInfo := ⟨poolList es last⟩
def fileOf (pool : Array CpInfo) (this : Nat) (attrs : Array Attribute := #[]) (ms : Array MethodInfo := #[]) (fl : Nat := 33) (sup : Nat := 0) (ifs : Array Nat := #[]) (fds : Array FieldInfo := #[]) : ClassFile where
  minorVersion := 0
  majorVersion := 65
  constantPool := pool
  accessFlags := fl
  thisClass := this
  superClass := sup
  interfaces := ifs
  fields := fds
  methods := ms
  attributes := attrs
def plain (name : String) (sup : Option ClassId) : Class where
  name := name
  kind := .ordinary
  loader := none
  accessFlags := 33
  super := sup
  interfaces := #[]
  cf := none
  fields := #[]
  methods := #[]
  instanceTypes := #[]
  staticTypes := #[]
  resolved := #[]
  callSites := []
  init := .initialized
  statics := none
  mirror := none

def pool0 : Array CpInfo := pool [(5, u "<init>"), (0, u "()V"), (1, .class_ 10), (1, u "java/lang/Object")] 113

def k0m0 : Method := { name := "<init>", desc := "()V", sig := { parameters := [], returnType := none }, accessFlags := 1, code := none }
/-- java/lang/Object -/
def k0 : Class := { plain "java/lang/Object" none with
  accessFlags := 33
  interfaces := #[]
  cf := some (fileOf pool0 8 #[] #[{ accessFlags := 1, nameIndex := 5, descriptorIndex := 6, attributes := #[] }] 33 0 #[] #[])
  fields := #[]
  methods := #[k0m0]
  instanceTypes := #[]
  staticTypes := #[]
  resolved := Array.replicate 124 none
  statics := none }

def pool1 : Array CpInfo := pool [(2, .class_ 4), (1, u "java/lang/Object"), (0, u "<init>"), (0, u "()V"), (0, .integer 2147483647), (0, .fieldref 9 10), (0, .class_ 11), (0, .nameAndType 12 13), (0, u "com/example/careful_audit/carefulaudit/DataType"), (0, u "UI32"), (0, u "Lcom/example/careful_audit/carefulaudit/DataType;"), (0, .fieldref 9 15), (0, .nameAndType 16 13), (0, u "UI64"), (0, .fieldref 9 18), (0, .nameAndType 19 13), (0, u "FC32"), (0, .fieldref 9 21), (0, .nameAndType 22 13), (0, u "IPAD"), (0, .fieldref 9 24), (0, .nameAndType 25 13), (0, u "CSTR"), (0, .methodref 9 27), (0, .nameAndType 28 29), (0, u "isText"), (0, u "()Z"), (0, .class_ 31), (0, u "com/example/careful_audit/carefulaudit/DataTypeIsTextPinLaw"), (2, u "law"), (0, u "(I)Z")] 3

def k1m0 : Method := { name := "<init>", desc := "()V", sig := { parameters := [], returnType := none }, accessFlags := 2, code := none }
def k1c1 : Code := { maxStack := 2, maxLocals := 4, code := code, exceptionTable := #[], attributes := #[] }
def k1m1 : Method := { name := "law", desc := "(I)Z", sig := { parameters := [.int], returnType := some .boolean }, accessFlags := 9, code := some k1c1 }
/-- com/example/careful_audit/carefulaudit/DataTypeIsTextPinLaw -/
def k1 : Class := { plain "com/example/careful_audit/carefulaudit/DataTypeIsTextPinLaw" (some 0) with
  accessFlags := 49
  interfaces := #[]
  cf := some (fileOf pool1 30 #[] #[{ accessFlags := 2, nameIndex := 5, descriptorIndex := 6, attributes := #[] }, { accessFlags := 9, nameIndex := 34, descriptorIndex := 35, attributes := #[] }] 49 2 #[] #[])
  fields := #[]
  methods := #[k1m0, k1m1]
  instanceTypes := #[]
  staticTypes := #[]
  resolved := Array.replicate 39 none
  statics := none }

def pool2 : Array CpInfo := pool [(1, .class_ 2), (0, u "java/lang/constant/Constable"), (0, .class_ 4), (0, u "java/lang/Object")] 6

/-- java/lang/constant/Constable -/
def k2 : Class := { plain "java/lang/constant/Constable" (some 0) with
  accessFlags := 1537
  interfaces := #[]
  cf := some (fileOf pool2 1 #[] #[] 1537 3 #[] #[])
  fields := #[]
  methods := #[]
  instanceTypes := #[]
  staticTypes := #[]
  resolved := Array.replicate 11 none
  statics := none }

def pool3 : Array CpInfo := pool [(1, .class_ 2), (0, u "java/lang/Comparable"), (0, .class_ 4), (0, u "java/lang/Object")] 7

/-- java/lang/Comparable -/
def k3 : Class := { plain "java/lang/Comparable" (some 0) with
  accessFlags := 1537
  interfaces := #[]
  cf := some (fileOf pool3 1 #[] #[] 1537 3 #[] #[])
  fields := #[]
  methods := #[]
  instanceTypes := #[]
  staticTypes := #[]
  resolved := Array.replicate 12 none
  statics := none }

def pool4 : Array CpInfo := pool [(1, .class_ 2), (0, u "java/io/Serializable"), (0, .class_ 4), (0, u "java/lang/Object")] 2

/-- java/io/Serializable -/
def k4 : Class := { plain "java/io/Serializable" (some 0) with
  accessFlags := 1537
  interfaces := #[]
  cf := some (fileOf pool4 1 #[] #[] 1537 3 #[] #[])
  fields := #[]
  methods := #[]
  instanceTypes := #[]
  staticTypes := #[]
  resolved := Array.replicate 7 none
  statics := none }

def pool5 : Array CpInfo := pool [(2, .class_ 4), (1, u "java/lang/Enum"), (0, u "name"), (0, u "Ljava/lang/String;"), (2, u "ordinal"), (0, u "I"), (1, .class_ 14), (1, u "java/lang/Object"), (4, u "hash"), (86, .class_ 108), (1, u "java/lang/Enum$EnumDesc"), (2, .class_ 112), (0, u "java/lang/constant/Constable"), (0, .class_ 114), (0, u "java/lang/Comparable"), (0, .class_ 116), (0, u "java/io/Serializable")] 87

/-- java/lang/Enum -/
def k5 : Class := { plain "java/lang/Enum" (some 0) with
  accessFlags := 1057
  interfaces := #[2, 3, 4]
  cf := some (fileOf pool5 2 #[.nestMembers #[106]] #[] 1057 12 #[111, 113, 115] #[{ accessFlags := 18, nameIndex := 5, descriptorIndex := 6, attributes := #[] }, { accessFlags := 18, nameIndex := 9, descriptorIndex := 10, attributes := #[] }, { accessFlags := 2, nameIndex := 19, descriptorIndex := 10, attributes := #[] }])
  fields := #[{ name := "name", type := (.object "java/lang/String"), accessFlags := 18, slot := 0, constantValue := 0 }, { name := "ordinal", type := .int, accessFlags := 18, slot := 1, constantValue := 0 }, { name := "hash", type := .int, accessFlags := 2, slot := 2, constantValue := 0 }]
  methods := #[]
  instanceTypes := #[(.object "java/lang/String"), .int, .int]
  staticTypes := #[]
  resolved := Array.replicate 204 none
  statics := none }

def pool6 : Array CpInfo := pool [(1, .class_ 2), (0, u "com/example/careful_audit/carefulaudit/DataType"), (2, u "UI32"), (0, u "Lcom/example/careful_audit/carefulaudit/DataType;"), (2, u "UI64"), (2, u "FC32"), (0, .fieldref 1 14), (0, .nameAndType 15 6), (0, u "IPAD"), (0, .fieldref 1 17), (0, .nameAndType 18 6), (0, u "CSTR"), (2, u "$VALUES"), (0, u "[Lcom/example/careful_audit/carefulaudit/DataType;"), (6, .class_ 31), (1, u "java/lang/Enum"), (22, u "isText"), (0, u "()Z"), (16, u "BY_NAME"), (0, u "Lcom/example/careful_audit/carefulaudit/CodeTable;"), (22, u "MAX_UI64_TENTH"), (0, u "J"), (38, .class_ 137), (0, u "com/example/careful_audit/carefulaudit/DataType$1"), (2, .class_ 141), (0, u "com/example/careful_audit/carefulaudit/DataType$2"), (1, .class_ 144), (0, u "com/example/careful_audit/carefulaudit/DataType$3"), (2, .class_ 148), (0, u "com/example/careful_audit/carefulaudit/DataType$4"), (2, .class_ 152), (0, u "com/example/careful_audit/carefulaudit/DataType$5"), (15, u "MAX_UI32"), (3, u "SAFE_DIGITS"), (0, u "I"), (1, u "SAFE_HEX_DIGITS"), (1, u "SAFE_UI32_DIGITS"), (3, u "QUOTE"), (0, u "B"), (1, u "BACKSLASH")] 56

def k6c0 : Code := { maxStack := 2, maxLocals := 1, code := prog_10_method_7_code, exceptionTable := #[], attributes := #[] }
def k6m0 : Method := { name := "isText", desc := "()Z", sig := { parameters := [], returnType := some .boolean }, accessFlags := 0, code := some k6c0 }
/-- com/example/careful_audit/carefulaudit/DataType -/
def k6 : Class := { plain "com/example/careful_audit/carefulaudit/DataType" (some 5) with
  accessFlags := 17441
  interfaces := #[]
  cf := some (fileOf pool6 1 #[.nestMembers #[151, 147, 143, 140, 136]] #[{ accessFlags := 0, nameIndex := 54, descriptorIndex := 55, attributes := #[] }] 17441 29 #[] #[{ accessFlags := 16409, nameIndex := 5, descriptorIndex := 6, attributes := #[] }, { accessFlags := 16409, nameIndex := 9, descriptorIndex := 6, attributes := #[] }, { accessFlags := 16409, nameIndex := 12, descriptorIndex := 6, attributes := #[] }, { accessFlags := 16409, nameIndex := 15, descriptorIndex := 6, attributes := #[] }, { accessFlags := 16409, nameIndex := 18, descriptorIndex := 6, attributes := #[] }, { accessFlags := 26, nameIndex := 168, descriptorIndex := 97, attributes := #[] }, { accessFlags := 26, nameIndex := 96, descriptorIndex := 97, attributes := #[] }, { accessFlags := 26, nameIndex := 172, descriptorIndex := 173, attributes := #[] }, { accessFlags := 26, nameIndex := 175, descriptorIndex := 173, attributes := #[] }, { accessFlags := 26, nameIndex := 177, descriptorIndex := 173, attributes := #[] }, { accessFlags := 26, nameIndex := 72, descriptorIndex := 73, attributes := #[] }, { accessFlags := 26, nameIndex := 181, descriptorIndex := 182, attributes := #[] }, { accessFlags := 26, nameIndex := 184, descriptorIndex := 182, attributes := #[] }, { accessFlags := 4122, nameIndex := 21, descriptorIndex := 22, attributes := #[] }])
  fields := #[{ name := "UI32", type := (.object "com/example/careful_audit/carefulaudit/DataType"), accessFlags := 16409, slot := 0, constantValue := 0 }, { name := "UI64", type := (.object "com/example/careful_audit/carefulaudit/DataType"), accessFlags := 16409, slot := 1, constantValue := 0 }, { name := "FC32", type := (.object "com/example/careful_audit/carefulaudit/DataType"), accessFlags := 16409, slot := 2, constantValue := 0 }, { name := "IPAD", type := (.object "com/example/careful_audit/carefulaudit/DataType"), accessFlags := 16409, slot := 3, constantValue := 0 }, { name := "CSTR", type := (.object "com/example/careful_audit/carefulaudit/DataType"), accessFlags := 16409, slot := 4, constantValue := 0 }, { name := "MAX_UI32", type := .long, accessFlags := 26, slot := 5, constantValue := 0 }, { name := "MAX_UI64_TENTH", type := .long, accessFlags := 26, slot := 6, constantValue := 0 }, { name := "SAFE_DIGITS", type := .int, accessFlags := 26, slot := 7, constantValue := 0 }, { name := "SAFE_HEX_DIGITS", type := .int, accessFlags := 26, slot := 8, constantValue := 0 }, { name := "SAFE_UI32_DIGITS", type := .int, accessFlags := 26, slot := 9, constantValue := 0 }, { name := "BY_NAME", type := (.object "com/example/careful_audit/carefulaudit/CodeTable"), accessFlags := 26, slot := 10, constantValue := 0 }, { name := "QUOTE", type := .byte, accessFlags := 26, slot := 11, constantValue := 0 }, { name := "BACKSLASH", type := .byte, accessFlags := 26, slot := 12, constantValue := 0 }, { name := "$VALUES", type := (.array (.object "com/example/careful_audit/carefulaudit/DataType")), accessFlags := 4122, slot := 13, constantValue := 0 }]
  methods := #[k6m0]
  instanceTypes := #[(.object "java/lang/String"), .int, .int]
  staticTypes := #[(.object "com/example/careful_audit/carefulaudit/DataType"), (.object "com/example/careful_audit/carefulaudit/DataType"), (.object "com/example/careful_audit/carefulaudit/DataType"), (.object "com/example/careful_audit/carefulaudit/DataType"), (.object "com/example/careful_audit/carefulaudit/DataType"), .long, .long, .int, .int, .int, (.object "com/example/careful_audit/carefulaudit/CodeTable"), .byte, .byte, (.array (.object "com/example/careful_audit/carefulaudit/DataType"))]
  resolved := Array.replicate 241 none
  statics := some 0 }

def pool7 : Array CpInfo := pool [(1, .class_ 2), (0, u "com/example/careful_audit/carefulaudit/DataType"), (11, .class_ 16), (1, u "com/example/careful_audit/carefulaudit/DataType$1")] 34

/-- com/example/careful_audit/carefulaudit/DataType$1 -/
def k7 : Class := { plain "com/example/careful_audit/carefulaudit/DataType$1" (some 6) with
  accessFlags := 16432
  interfaces := #[]
  cf := some (fileOf pool7 14 #[.nestHost 1] #[] 16432 1 #[] #[])
  fields := #[]
  methods := #[]
  instanceTypes := #[(.object "java/lang/String"), .int, .int]
  staticTypes := #[]
  resolved := Array.replicate 51 none
  statics := none }

def pool8 : Array CpInfo := pool [(2, .class_ 4), (1, u "com/example/careful_audit/carefulaudit/DataType"), (21, .class_ 27), (0, u "com/example/careful_audit/carefulaudit/DataType$4")] 12

/-- com/example/careful_audit/carefulaudit/DataType$4 -/
def k8 : Class := { plain "com/example/careful_audit/carefulaudit/DataType$4" (some 6) with
  accessFlags := 16432
  interfaces := #[]
  cf := some (fileOf pool8 26 #[.nestHost 2] #[] 16432 2 #[] #[])
  fields := #[]
  methods := #[]
  instanceTypes := #[(.object "java/lang/String"), .int, .int]
  staticTypes := #[]
  resolved := Array.replicate 40 none
  statics := none }

def pool9 : Array CpInfo := pool [(1, .class_ 2), (0, u "com/example/careful_audit/carefulaudit/DataType"), (5, .class_ 10), (1, u "com/example/careful_audit/carefulaudit/DataType$2")] 40

/-- com/example/careful_audit/carefulaudit/DataType$2 -/
def k9 : Class := { plain "com/example/careful_audit/carefulaudit/DataType$2" (some 6) with
  accessFlags := 16432
  interfaces := #[]
  cf := some (fileOf pool9 8 #[.nestHost 1] #[] 16432 1 #[] #[])
  fields := #[]
  methods := #[]
  instanceTypes := #[(.object "java/lang/String"), .int, .int]
  staticTypes := #[]
  resolved := Array.replicate 51 none
  statics := none }

def pool10 : Array CpInfo := pool [(2, .class_ 4), (1, u "com/example/careful_audit/carefulaudit/DataType"), (8, .class_ 14), (0, u "com/example/careful_audit/carefulaudit/DataType$5")] 13

/-- com/example/careful_audit/carefulaudit/DataType$5 -/
def k10 : Class := { plain "com/example/careful_audit/carefulaudit/DataType$5" (some 6) with
  accessFlags := 16432
  interfaces := #[]
  cf := some (fileOf pool10 13 #[.nestHost 2] #[] 16432 2 #[] #[])
  fields := #[]
  methods := #[]
  instanceTypes := #[(.object "java/lang/String"), .int, .int]
  staticTypes := #[]
  resolved := Array.replicate 28 none
  statics := none }

def pool11 : Array CpInfo := pool [(2, .class_ 4), (1, u "com/example/careful_audit/carefulaudit/DataType"), (15, .class_ 21), (0, u "com/example/careful_audit/carefulaudit/DataType$3")] 12

/-- com/example/careful_audit/carefulaudit/DataType$3 -/
def k11 : Class := { plain "com/example/careful_audit/carefulaudit/DataType$3" (some 6) with
  accessFlags := 16432
  interfaces := #[]
  cf := some (fileOf pool11 20 #[.nestHost 2] #[] 16432 2 #[] #[])
  fields := #[]
  methods := #[]
  instanceTypes := #[(.object "java/lang/String"), .int, .int]
  staticTypes := #[]
  resolved := Array.replicate 34 none
  statics := none }

def pool12 : Array CpInfo := pool [(1, u "java/lang/Cloneable"), (0, .class_ 1), (0, u "java/lang/Object"), (0, .class_ 3)] 3

/-- java/lang/Cloneable -/
def k12 : Class := { plain "java/lang/Cloneable" (some 0) with
  accessFlags := 1537
  interfaces := #[]
  cf := some (fileOf pool12 2 #[] #[] 1537 4 #[] #[])
  fields := #[]
  methods := #[]
  instanceTypes := #[]
  staticTypes := #[]
  resolved := Array.replicate 8 none
  statics := none }

/-- the primitive byte -/
def k13 : Class := { plain "byte" none with kind := .primitive 'B', accessFlags := 0x411 }
/-- [B -/
def k14 : Class := { plain "[B" (some 0) with kind := .array 13 .byte, interfaces := #[12, 4], accessFlags := 1041 }

/-- the primitive int -/
def k15 : Class := { plain "int" none with kind := .primitive 'I', accessFlags := 0x411 }
/-- [I -/
def k16 : Class := { plain "[I" (some 0) with kind := .array 15 .int, interfaces := #[12, 4], accessFlags := 1041 }

def heap : Heap := #[{ cls := 6, slots := #[.ref 1, .ref 2, .ref 3, .ref 4, .ref 5, .long 0, .long 0, .int 0, .int 0, .int 0, .null, .int 0, .int 0, .null], vm := .statics 6 },
  { cls := 7, slots := #[.null, .int 0, .int 0], vm := .none },
  { cls := 9, slots := #[.null, .int 1, .int 0], vm := .none },
  { cls := 11, slots := #[.null, .int 2, .int 0], vm := .none },
  { cls := 8, slots := #[.null, .int 3, .int 0], vm := .none },
  { cls := 10, slots := #[.null, .int 4, .int 0], vm := .none }]
def classes : Array Class := #[k0, k1, k2, k3, k4, k5, k6, k7, k8, k9, k10, k11, k12, k13, k14, k15, k16]
def interned : List (Array UInt16 × Addr) := []
def slotsUsed : Nat := 29
def theMethod : MethodId := ⟨1, 1⟩
def args0 : Array Value := #[.int 5]
def aboutOver (below : List Frame) : State where
  vm := { classes := classes, interned := interned.toArray }
  heap := heap
  slotsUsed := slotsUsed
  threads := #[{ frames := .invoking theMethod args0 :: below }]
def below0 : List Frame := [.native { method := ⟨0, 0⟩, args := #[] }]
def about1 : State := aboutOver below0
def p0 : Program := .bare "" "" ""
def e0 : Env := launch0.env 0 0 0
theorem w_frames : about1.frames = Frame.invoking theMethod args0 :: below0 := rfl
set_option maxRecDepth 65536 in
theorem w_args : argsFit about1.vm theMethod args0 = true := by decide +kernel
set_option maxRecDepth 65536 in
theorem w_heap : heapFits about1 = true := by decide +kernel
set_option maxRecDepth 65536 in
theorem w_runnable : about1.curStatus? = some .runnable := by decide +kernel
set_option maxRecDepth 65536 in
theorem w_alone : about1.alone = true := by decide +kernel
set_option maxRecDepth 65536 in
theorem w_named : about1.methodNamed? x = some theMethod := by decide +kernel
set_option maxRecDepth 65536 in
theorem w_hears : about1.hears theMethod below0 = true := by decide +kernel
set_option maxRecDepth 65536 in
theorem w_ripe : about1.ripe theMethod args0 below0 = true := by decide +kernel
theorem w_running : about1.status = .running := rfl
set_option maxRecDepth 65536 in
theorem w_room : about1.hasRoom e0.platform room_1 = true :=
  launch0.hasRoom_least _ room_1 (by decide +kernel) (by decide +kernel) (by decide +kernel) (by decide +kernel) (by decide +kernel) (by decide +kernel)
theorem allAtoms_all (ts : List Jvm.Cond) (a : Array Jvm.Value) (st : Jvm.State) : (allAtoms ts).before a st = ts.all (fun c => c.before a st) := by
  induction ts with
  | nil => rfl
  | cons c t ih =>
    show (Jvm.Cond.and c (allAtoms t)).before a st = _
    rw [Jvm.Cond.before_and, ih, List.all_cons]
def words1 : List Jvm.Cond := Jvm.Cond.code x code maxLocals ret :: tables_1
/-- a 'code' word, met by the world's own term for the bytes: nothing is compared byte by byte -/
theorem code_word {y : MethodName} {bytes : ByteArray} {mx : Nat} {rt : Option FieldType} {a : Array Value} {s : State} {m : MethodId} {meth : Method} {c : Code} (h1 : s.methodNamed? y = some m) (h2 : s.vm.method? m = some meth) (h3 : meth.code = some c) (h4 : c.code = bytes)
    (h5 : (c.maxLocals == mx && c.exceptionTable.isEmpty && decide (c.maxStack ≤ mostOperands) && decide (meth.sig.returnType = rt) && !meth.locks && decide (parseMethodDescriptor y.desc = some meth.sig)) = true) : (Jvm.Cond.code y bytes mx rt).before a s = true := by
  simp only [Bool.and_eq_true, beq_iff_eq, Bool.not_eq_true', decide_eq_true_eq] at h5
  obtain ⟨⟨⟨⟨⟨g1, g2⟩, g3⟩, g4⟩, g5⟩, g6⟩ := h5
  simp [Cond.before, Cond.holds, Cond.value, h1, h2, h3, h4, g1, g2, g3, g4, g5, g6]
def isCode : Jvm.Cond → Bool
  | .code _ _ _ _ => true
  | _ => false
theorem all_split {L : List Jvm.Cond} {P : Jvm.Cond → Bool} (h1 : L.all (fun c => isCode c || P c) = true) (h2 : ∀ c ∈ L.filter isCode, P c = true) : L.all P = true := by
  refine List.all_eq_true.mpr fun c hc => ?_
  have h := List.all_eq_true.mp h1 c hc
  rcases Bool.eq_false_or_eq_true (isCode c) with hi | hi
  · exact h2 c (List.mem_filter.mpr ⟨hc, hi⟩)
  · simpa [hi] using h
set_option maxRecDepth 65536 in
theorem w_c0 : (Jvm.Cond.code x code maxLocals ret).before args0 about1 = true := code_word (m := ⟨1, 1⟩) (meth := k1m1) (c := k1c1) (by decide +kernel) rfl rfl rfl (by decide +kernel)
set_option maxRecDepth 65536 in
theorem w_c1 : (Jvm.Cond.code ({ cls := "com/example/careful_audit/carefulaudit/DataType", name := "isText", desc := "()Z" } : Jvm.MethodName) prog_10_method_7_code (1 : Nat) (Option.some Jvm.ClassFile.FieldType.boolean)).before args0 about1 = true := code_word (m := ⟨6, 0⟩) (meth := k6m0) (c := k6c0) (by decide +kernel) rfl rfl rfl (by decide +kernel)
def codes1 : List Jvm.Cond := [Jvm.Cond.code x code maxLocals ret, Jvm.Cond.code ({ cls := "com/example/careful_audit/carefulaudit/DataType", name := "isText", desc := "()Z" } : Jvm.MethodName) prog_10_method_7_code (1 : Nat) (Option.some Jvm.ClassFile.FieldType.boolean)]
set_option maxRecDepth 65536 in
theorem codes_eq : words1.filter isCode = codes1 := rfl
theorem w_codes : ∀ c ∈ words1.filter isCode, c.before args0 about1 = true := by
  rw [codes_eq]
  intro c hc
  simp only [codes1, List.mem_cons, List.not_mem_nil, or_false] at hc
  rcases hc with rfl | rfl
  · exact w_c0
  · exact w_c1
set_option maxRecDepth 65536 in
theorem w_t1 : words1.all (fun c => isCode c || c.before args0 about1) = true := by decide +kernel
theorem w_tables : (allAtoms (Jvm.Cond.code x code maxLocals ret :: tables_1)).before args0 about1 = true := by
  rw [allAtoms_all]
  show words1.all (fun c => c.before args0 about1) = true
  refine all_split ?_ w_codes
  rw [w_t1]
set_option maxRecDepth 65536 in
theorem w_case : (Jvm.Cond.and given_1 narrow_1).before args0 about1 = true := by decide +kernel
theorem w_applies : (headSpec (Jvm.Cond.code x code maxLocals ret :: tables_1) room_1).applies x e0.platform about1 = true :=
  (Spec.applies_iff w_frames).mpr ⟨w_running, w_runnable, w_alone, w_named, w_hears, w_ripe, w_room, w_tables⟩
theorem atStart : AtStart classFile x code maxLocals ret World_1 tables_1 room_1 Calls_1 rest_1 Pre_1 launch0 p0 e0 about1 theMethod args0 below0 :=
  ⟨lists_1, trivial, launch0.admits_env _ _ _, launch0.least_env, fairChoices_fair.cas, fairChoices_fair.clock, w_frames, w_args, w_heap, w_applies, trivial, trivial, w_case⟩
end start1
theorem witness_1 : WitnessClaimed_1 := ⟨start1.p0, start1.e0, start1.about1, start1.theMethod, start1.args0, start1.below0, start1.atStart⟩
end Jvm.Pilot.@@N@@
