import JvmDerived
import JvmDerived.Pilot.@@N@@Statement
import JvmDerived.Pilot.@@N@@Code
set_option linter.unusedVariables false
set_option linter.unusedSimpArgs false
namespace Jvm.RoadKit
open Sem ClassFile Op Lib Jvm.Stand Jvm.Free Jvm.LawKit
section OwnKit
variable {p : Program} {l : Launch} {e : Env} {R : Room} {s : State} {m : MethodId} {args : Array Value} {below : List Frame} {meth : Method} {c : Code} {T : State} {locs : List Loc} {cells slots : Nat}
/-- a boolean as the machine's int -/
def b2i (b : Bool) : Int32 := bif b then 1 else 0
theorem b2i_t {b : Bool} (h : b = true) : ¬ b2i b = 0 := by subst h; decide
theorem b2i_f {b : Bool} (h : ¬ b = true) : b2i b = 0 := by cases b <;> first | rfl | exact absurd rfl h
theorem b2i_inj {a b : Bool} (h : b2i a = b2i b) : a = b := by cases a <;> cases b <;> first | rfl | exact absurd h (by decide)
theorem nar_b2i (b : Bool) : nar .boolean (b2i b) = b2i b := by cases b <;> decide
/-- from the state U the walk comes to an end that P holds of -/
def Go (tb : Tables) (e : Env) (below : List Frame) (P : Outcome → State → Prop) (U : State) : Prop := ∃ s₂ o, Steps tb e below U s₂ ∧ s₂.status = .running ∧ Ended s₂ below o ∧ P o s₂
theorem Go.back {tb : Tables} {P : Outcome → State → Prop} {U V : State} (h : ∀ t, Steps tb e below V t → Steps tb e below U t) (k : Go tb e below P V) : Go tb e below P U := by
  obtain ⟨s2, o, h1, h2⟩ := k
  exact ⟨s2, o, h _ h1, h2⟩
theorem Go.trans {tb : Tables} {P : Outcome → State → Prop} {U V : State} (h : Steps tb e below U V) (k : Go tb e below P V) : Go tb e below P U := by
  obtain ⟨s2, o, h1, h2⟩ := k
  exact ⟨s2, o, Steps.trans h h1, h2⟩
abbrev Fin (s : State) (Q : Option Value → Heap → List Loc → Prop) (K S : Nat) : Outcome → State → Prop := fun o U' => ∃ v L, o = .returned v ∧ Q v U'.heap L ∧ FrameEnd s o U' L K S
theorem retI0 (X : Stand p l e R s m args below meth c T locs cells slots) (hx : p.tables.exec = Jvm.exec) {pc : Nat} {Ls : Array Slot} {z : Int32} {rest : List Value} (hret : meth.sig.returnType = some .int) (hd : decode c.code pc = .ok (.ireturn, 1)) {fs : List Frame}
    (hl : ∀ (f : JFrame) (acts : List Action), f.method = m → f.locked = none → f.entered = [] → (doReturn e (T.setTop f) acts (some (.int z))).1 = T.setFrames fs) : Steps p.tables e below (T.setTop (mkF m pc Ls (.int z :: rest))) (T.setFrames fs) := by
  have hm' : T.vm.method? m = some meth := X.method'
  have hn : narrow .int (.int z) = .int z := rfl
  show Steps p.tables e below (T.setTop { method := m, pc := pc, locals := Ls, stack := _ :: rest, locked := none }) _
  jvm_step X.here [X.here.top, hx, hd, hm', hret, hn]
  first | (intro acts; rw [hl _ acts rfl rfl rfl]) | rw [hl _ _ rfl rfl rfl]
  exact Steps.refl _
theorem Go.retI (X : Stand p l e R s m args below meth c T locs cells slots) (hx : p.tables.exec = Jvm.exec) {pc : Nat} {Ls : Array Slot} {z : Int32} {rest : List Value} (hret : meth.sig.returnType = some .int) (hd : decode c.code pc = .ok (.ireturn, 1)) (hlk : meth.locks = false) {Q : Option Value → Heap → List Loc → Prop} {K S : Nat} (hQ : Q (some (.int z)) T.heap locs) (hc : cells ≤ K) (hs : slots ≤ S) :
    Go p.tables e below (Fin s Q K S) (T.setTop (mkF m pc Ls (.int z :: rest))) := by
  obtain ⟨fs, hr, hrun, hended, hW, hsame⟩ := X.leave (v := some (.int z)) (fun h => by rw [hret] at h; cases h) hlk
  exact ⟨_, _, retI0 X hx hret hd hr, hrun, hended, _, _, rfl, hQ, ⟨_, rfl⟩, hW, hsame.mono hc hs⟩
theorem Go.retN (X : Stand p l e R s m args below meth c T locs cells slots) (hx : p.tables.exec = Jvm.exec) {pc : Nat} {Ls : Array Slot} {z : Int32} {rest : List Value} {t : FieldType} (hret : meth.sig.returnType = some t) (ht : t = .boolean ∨ t = .byte ∨ t = .char ∨ t = .short) (hd : decode c.code pc = .ok (.ireturn, 1)) (hlk : meth.locks = false) {Q : Option Value → Heap → List Loc → Prop} {K S : Nat} (hQ : Q (some (.int (nar t z))) T.heap locs) (hc : cells ≤ K) (hs : slots ≤ S) :
    Go p.tables e below (Fin s Q K S) (T.setTop (mkF m pc Ls (.int z :: rest))) := by
  obtain ⟨fs, hr, hrun, hended, hW, hsame⟩ := X.leave (v := some (.int (nar t z))) (fun h => by rw [hret] at h; cases h) hlk
  exact ⟨_, _, Jvm.RoadKit.retN X hx hret ht hd hr, hrun, hended, _, _, rfl, hQ, ⟨_, rfl⟩, hW, hsame.mono hc hs⟩
theorem Go.retB (X : Stand p l e R s m args below meth c T locs cells slots) (hx : p.tables.exec = Jvm.exec) {pc : Nat} {Ls : Array Slot} {b : Bool} {rest : List Value} (hret : meth.sig.returnType = some .boolean) (hd : decode c.code pc = .ok (.ireturn, 1)) (hlk : meth.locks = false) {Q : Option Value → Heap → List Loc → Prop} {K S : Nat} (hQ : Q (some (.int (b2i b))) T.heap locs) (hc : cells ≤ K) (hs : slots ≤ S) :
    Go p.tables e below (Fin s Q K S) (T.setTop (mkF m pc Ls (.int (b2i b) :: rest))) := Go.retN X hx hret (Or.inl rfl) hd hlk (by rw [nar_b2i]; exact hQ) hc hs
theorem Go.retJ (X : Stand p l e R s m args below meth c T locs cells slots) (hx : p.tables.exec = Jvm.exec) {pc : Nat} {Ls : Array Slot} {z : Int64} (hret : meth.sig.returnType = some .long) (hd : decode c.code pc = .ok (.lreturn, 1)) (hlk : meth.locks = false) {Q : Option Value → Heap → List Loc → Prop} {K S : Nat} (hQ : Q (some (.long z)) T.heap locs) (hc : cells ≤ K) (hs : slots ≤ S) :
    Go p.tables e below (Fin s Q K S) (T.setTop (mkF m pc Ls [.long z])) := by
  obtain ⟨fs, hr, hrun, hended, hW, hsame⟩ := X.leave (v := some (.long z)) (fun h => by rw [hret] at h; cases h) hlk
  exact ⟨_, _, X.lreturnOut hx hret hd hr, hrun, hended, _, _, rfl, hQ, ⟨_, rfl⟩, hW, hsame.mono hc hs⟩
theorem Go.retR (X : Stand p l e R s m args below meth c T locs cells slots) (hx : p.tables.exec = Jvm.exec) {pc : Nat} {Ls : Array Slot} {a : Addr} {t : FieldType} (hret : meth.sig.returnType = some t) (ht : t.isReference = true) (hd : decode c.code pc = .ok (.areturn, 1)) (hlk : meth.locks = false) {Q : Option Value → Heap → List Loc → Prop} {K S : Nat} (hQ : Q (some (.ref a)) T.heap locs) (hc : cells ≤ K) (hs : slots ≤ S) :
    Go p.tables e below (Fin s Q K S) (T.setTop (mkF m pc Ls [.ref a])) := by
  obtain ⟨fs, hr, hrun, hended, hW, hsame⟩ := X.leave (v := some (.ref a)) (fun h => by rw [hret] at h; cases h) hlk
  exact ⟨_, _, X.areturnOut hx rfl hret ht hd hr, hrun, hended, _, _, rfl, hQ, ⟨_, rfl⟩, hW, hsame.mono hc hs⟩
theorem Go.retV (X : Stand p l e R s m args below meth c T locs cells slots) (hx : p.tables.exec = Jvm.exec) {pc : Nat} {Ls : Array Slot} (hret : meth.sig.returnType = none) (hd : decode c.code pc = .ok (.return_, 1)) (hlk : meth.locks = false) {Q : Option Value → Heap → List Loc → Prop} {K S : Nat} (hQ : Q none T.heap locs) (hc : cells ≤ K) (hs : slots ≤ S) :
    Go p.tables e below (Fin s Q K S) (T.setTop (mkF m pc Ls [])) := by
  obtain ⟨fs, hr, hrun, hended, hW, hsame⟩ := X.leave (v := none) (fun _ => rfl) hlk
  exact ⟨_, _, X.returnOut hx hret hd hr, hrun, hended, _, _, rfl, hQ, ⟨_, rfl⟩, hW, hsame.mono hc hs⟩
theorem lremM {g : JFrame} {target : State} (X : Stand p l e R s m args below meth c T locs cells slots) (hx : p.tables.exec = Jvm.exec) (hg : g.method = m) {x y : Int64} {rest : List Value} (hd : decode c.code g.pc = .ok (.lrem, 1)) (hs : g.stack = .long y :: .long x :: rest) (hy : y ≠ 0)
    (hr : Steps p.tables e below (T.setTop { g with pc := g.pc + 1, stack := .long (x % y) :: rest }) target) : Steps p.tables e below (T.setTop g) target :=
  XS.lrem X.here hx hg hd hs hy (by rw [lrem_mod x y]; exact hr)
theorem storeS_i {ls l' : Array Slot} {k : Nat} {o : Slot} {x : Int32} (hold : ls[k]? = some o) (h : One o) (q : ls.setIfInBounds k (.val (.int x)) = l') : storeLocals ls k (.int x) = some l' := by
  rw [XS.store1 hold h rfl, q]
theorem storeS_a {ls l' : Array Slot} {k : Nat} {o : Slot} {a : Addr} (hold : ls[k]? = some o) (h : One o) (q : ls.setIfInBounds k (.val (.ref a)) = l') : storeLocals ls k (.ref a) = some l' := by
  rw [XS.store1 hold h rfl, q]
end OwnKit
section OwnArr
variable {p : Program} {l : Launch} {e : Env} {R : Room} {s : State} {m : MethodId} {args : Array Value} {below : List Frame} {meth : Method} {c : Code} {T : State} {locs : List Loc} {cells slots : Nat} {Z : State} {h h' : Heap} {a b : Addr} {ty : FieldType} {vs : List Value} {v : Value} {sl : Nat} {ws : List Addr}
/-- the array at a, of the kind ty, holds just this list -/
def ArL (Z : State) (h : Heap) (a : Addr) (ty : FieldType) (vs : List Value) : Prop := ∃ c : Cell, Arr Z h a c ty ∧ c.slots.toList = vs
theorem ArL.lt (F : ArL Z h a ty vs) : a < h.size := by obtain ⟨c, A, -⟩ := F; exact A.lt
theorem ArL.ext (F : ArL Z h a ty vs) (E : Ext h h') : ArL Z h' a ty vs := by obtain ⟨c, A, r⟩ := F; exact ⟨c, A.ext E, r⟩
theorem ArL.other (F : ArL Z h b ty vs) (W : Wr h h' a sl v) (q : b ≠ a) : ArL Z h' b ty vs := by obtain ⟨c, A, r⟩ := F; exact ⟨c, A.other W q, r⟩
theorem ArL.keep (F : ArL Z h a ty vs) (K : Keep h h' ws) (q : a ∉ ws) : ArL Z h' a ty vs := by obtain ⟨c, A, r⟩ := F; exact ⟨c, ⟨K.2.1 a c A.1 q, A.2⟩, r⟩
theorem ArL.new {k : ClassId} {z : Int32} (A : Arr Z h a (newA k ty z) ty) {n : Nat} (q : z.toNatClampNeg = n) : ArL Z h a ty (List.replicate n (defaultValue ty)) := ⟨_, A, by subst q; simp [newA]⟩
theorem ArL.set (F : ArL Z h a ty vs) (W : Wr h h' a sl v) : ArL Z h' a ty (vs.set sl v) := by
  obtain ⟨c, A, r⟩ := F
  exact ⟨_, A.same W, by subst r; simp [Cell.setSlot]⟩
/-- a place of it: what a load and a store ask -/
theorem ArL.at (F : ArL Z h a ty vs) {j : Int32} (h0 : ¬ j < 0) (hj : j.toNatClampNeg < vs.length) : ∃ c : Cell, Arr Z h a c ty ∧ ¬ (j < 0 ∨ c.slots.size ≤ j.toNatClampNeg) ∧ c.slots[j.toNatClampNeg]? = some (vs[j.toNatClampNeg]'hj) := by
  obtain ⟨c, A, rfl⟩ := F
  have q : j.toNatClampNeg < c.slots.size := by simpa using hj
  refine ⟨c, A, fun z => z.elim h0 (fun y => absurd q (Nat.not_lt.mpr y)), ?_⟩
  rw [Array.getElem?_eq_getElem q]
  simp
theorem ArL.get (F : ArL Z h a ty vs) {j : Int32} (h0 : ¬ j < 0) (hv : vs[j.toNatClampNeg]? = some v) : ∃ c : Cell, Arr Z h a c ty ∧ ¬ (j < 0 ∨ c.slots.size ≤ j.toNatClampNeg) ∧ c.slots[j.toNatClampNeg]? = some v := by
  obtain ⟨hj, rfl⟩ := List.getElem?_eq_some_iff.mp hv
  exact F.at h0 hj
theorem ArL.setI {xs : List Int32} {x : Int32} {i : Nat} (F : ArL Z h a ty (List.map Value.int xs)) (W : Wr h h' a i (.int x)) : ArL Z h' a ty (List.map Value.int (xs.set i x)) := by
  rw [List.map_set]; exact F.set W
theorem ArL.setJ {xs : List Int64} {x : Int64} {i : Nat} (F : ArL Z h a ty (List.map Value.long xs)) (W : Wr h h' a i (.long x)) : ArL Z h' a ty (List.map Value.long (xs.set i x)) := by
  rw [List.map_set]; exact F.set W
theorem ArL.newI {k : ClassId} {z : Int32} (A : Arr Z h a (newA k ty z) ty) {n : Nat} (q : z.toNatClampNeg = n) (hd : defaultValue ty = .int 0 := by rfl) : ArL Z h a ty (List.map Value.int (List.replicate n (0 : Int32))) := by
  rw [List.map_replicate, ← hd]; exact ArL.new A q
theorem ArL.newJ {k : ClassId} {z : Int32} (A : Arr Z h a (newA k ty z) ty) {n : Nat} (q : z.toNatClampNeg = n) (hd : defaultValue ty = .long 0 := by rfl) : ArL Z h a ty (List.map Value.long (List.replicate n (0 : Int64))) := by
  rw [List.map_replicate, ← hd]; exact ArL.new A q
theorem getI (xs : List Int32) {i : Nat} (q : i < xs.length) : (List.map Value.int xs)[i]? = some (.int (xs.getD i 0)) := by
  rw [List.getElem?_map, List.getD_eq_getElem?_getD, List.getElem?_eq_getElem q]; rfl
theorem getJ (xs : List Int64) {i : Nat} (q : i < xs.length) : (List.map Value.long xs)[i]? = some (.long (xs.getD i 0)) := by
  rw [List.getElem?_map, List.getD_eq_getElem?_getD, List.getElem?_eq_getElem q]; rfl
theorem ArL.len (F : ArL Z h a ty vs) : ∃ c : Cell, Arr Z h a c ty ∧ c.slots.size = vs.length := by
  obtain ⟨c, A, rfl⟩ := F
  exact ⟨c, A, by simp⟩
end OwnArr
end Jvm.RoadKit
namespace Jvm.Pilot.@@N@@
open Jvm Jvm.ClassFile Sem Op Lib Jvm.Free Jvm.Stand Jvm.LawKit Jvm.RoadKit Bundle Jvm.Pilot.@@N@@.Jvm.D
theorem pd_0 : parseMethodDescriptor "(BZB)B" = some ⟨[.byte, .boolean, .byte], some .byte⟩ := by decide +kernel
theorem pd_1 : parseMethodDescriptor "([BII)Z" = some ⟨[(.array .byte), .int, .int], some .boolean⟩ := by decide +kernel
theorem d1_0 : decode method_3_code 0 = .ok (.iload_n 1, 1) := by decide +kernel
theorem d1_1 : decode method_3_code 1 = .ok (.ifCond .eq 5, 3) := by decide +kernel
theorem d1_4 : decode method_3_code 4 = .ok (.iload_n 2, 1) := by decide +kernel
theorem d1_5 : decode method_3_code 5 = .ok (.ireturn, 1) := by decide +kernel
theorem d1_6 : decode method_3_code 6 = .ok (.iload_n 0, 1) := by decide +kernel
theorem d1_7 : decode method_3_code 7 = .ok (.iload_n 2, 1) := by decide +kernel
theorem d1_8 : decode method_3_code 8 = .ok (.if_icmp .ne 8, 3) := by decide +kernel
theorem d1_11 : decode method_3_code 11 = .ok (.iload_n 2, 1) := by decide +kernel
theorem d1_12 : decode method_3_code 12 = .ok (.iconst 1, 1) := by decide +kernel
theorem d1_13 : decode method_3_code 13 = .ok (.iadd, 1) := by decide +kernel
theorem d1_14 : decode method_3_code 14 = .ok (.i2b, 1) := by decide +kernel
theorem d1_15 : decode method_3_code 15 = .ok (.ireturn, 1) := by decide +kernel
theorem d1_16 : decode method_3_code 16 = .ok (.iload_n 0, 1) := by decide +kernel
theorem d1_17 : decode method_3_code 17 = .ok (.ireturn, 1) := by decide +kernel
def f1 (p0 : Int32) (p1 : Bool) (p2 : Int32) : Int32 := (if p1 = true then (nar .byte p2) else (if p0 = p2 then (nar .byte (((p2 + (1 : Int32))).toInt8.toInt32)) else (nar .byte p0)))
def Q1 (p0 : Int32) (p1 : Bool) (p2 : Int32) (h0 : Heap) (n0 : Nat) (v : Option Value) (h : Heap) (L : List Loc) : Prop := v = some (.int (f1 p0 p1 p2)) ∧ Fr n0 L ∧ h = h0
abbrev rmm1 : Room := { frames := 0, cells := 0, slots := 0, locals := 0 }
abbrev P1 (p0 : Int32) (p1 : Bool) (p2 : Int32) (h0 : Heap) (n0 : Nat) (s : State) : Outcome → State → Prop := fun o U' => ∃ v L, o = .returned v ∧ Q1 p0 p1 p2 h0 n0 v U'.heap L ∧ FrameEnd s o U' L rmm1.cells rmm1.slots
theorem pn_1 : plainName "com/example/careful_audit/carefulaudit/DataTypeIsHexPrefixPinLaw" = true := by first | (simp [plainName, overriddenIn]; done) | decide +kernel
theorem ef_1 (m : MethodId) (p0 : Int32) (p1 : Bool) (p2 : Int32) : entryFrame m #[(.int p0), (.int (b2i p1)), (.int p2)] 3 = mkF m 0 #[.val (.int p0), .val (.int (b2i p1)), .val (.int p2)] [] := by first | (simp [entryFrame, mkF, argsToLocals, Value.category]; done) | rfl
set_option maxRecDepth 65536 in
set_option maxHeartbeats 40000000 in
theorem rm1 (l : Launch) (Z : State) (a0 : Array Value) (hw : ∀ d ∈ tables_1, d.before a0 Z = true) (ws : List Jvm.Cond) (p0 : Int32) (p1 : Bool) (p2 : Int32) (h0 : Heap) (n0 : Nat) :
    MetFree l (⟨"com/example/careful_audit/carefulaudit/DataTypeIsHexPrefixPinLaw", "put", "(BZB)B"⟩ : MethodName) (head1 (Jvm.Cond.code (⟨"com/example/careful_audit/carefulaudit/DataTypeIsHexPrefixPinLaw", "put", "(BZB)B"⟩ : MethodName) method_3_code 3 (some .byte) :: ws) rmm1) (fun a U => a = #[(.int p0), (.int (b2i p1)), (.int p2)] ∧ Z.Warmed39 U.vm ∧ U.heap = h0) (fun _ _ _ _ _ => True) (fun _ U o U' => ∃ v L, o = .returned v ∧ Q1 p0 p1 p2 h0 n0 v U'.heap L ∧ FrameEnd U o U' L rmm1.cells rmm1.slots) := by
  refine MetFree.of_bodySF (plainFor_of_name pn_1) hisR ?_
  intro p e s m args below meth c s₁ Bd hml0 hP hK
  obtain ⟨rfl, hZ, hh⟩ := hP
  have hx := Bd.exec
  have hby := Bd.bytes
  have hml : c.maxLocals = 3 := hml0
  have hown : s.vm.findClass "com/example/careful_audit/carefulaudit/DataTypeIsHexPrefixPinLaw" = some m.cls := findClass_of_methodNamed Bd.named
  have hnm := (name_of_methodNamed Bd.named Bd.method).1
  have X0 : Stand p l e rmm1 s m #[(.int p0), (.int (b2i p1)), (.int p2)] below meth c s₁ [] 0 0 := Stand.of_body Bd
  have e0 : s₁.heap = h0 := by rw [← hh, Bd.state]; rfl
  have N0 := Fr.nil n0
  show Go p.tables e below (P1 p0 p1 p2 h0 n0 s) (s₁.setTop (entryFrame m #[(.int p0), (.int (b2i p1)), (.int p2)] 3))
  refine Go.back (fun t k => castTop (ef_1 m p0 p1 p2) k) ?_
  show Go p.tables e below (P1 p0 p1 p2 h0 n0 s) (s₁.setTop (mkF m 0 #[.val (.int p0), .val (.int (b2i p1)), .val (.int p2)] []))
  have hf : f1 p0 p1 p2 = (if p1 = true then (nar .byte p2) else (if p0 = p2 then (nar .byte (((p2 + (1 : Int32))).toInt8.toInt32)) else (nar .byte p0))) := rfl
  refine Go.back (fun t k => XS.iloadN X0.here hx rfl (hb hby d1_0) rfl  k) ?_
  show Go p.tables e below (P1 p0 p1 p2 h0 n0 s) (s₁.setTop (mkF m 1 #[.val (.int p0), .val (.int (b2i p1)), .val (.int p2)] [(.int (b2i p1))]))
  by_cases hc1 : p1 = true
  · have r2 := hf.trans (if_pos hc1)
    refine Go.back (fun t k => XS.ifNo X0.here hx rfl (hb hby d1_1) rfl ((if0 _ _).trans (feq (b2i_t hc1)).1) k) ?_
    show Go p.tables e below (P1 p0 p1 p2 h0 n0 s) (s₁.setTop (mkF m 4 #[.val (.int p0), .val (.int (b2i p1)), .val (.int p2)] []))
    refine Go.back (fun t k => XS.iloadN X0.here hx rfl (hb hby d1_4) rfl  k) ?_
    show Go p.tables e below (P1 p0 p1 p2 h0 n0 s) (s₁.setTop (mkF m 5 #[.val (.int p0), .val (.int (b2i p1)), .val (.int p2)] [(.int p2)]))
    exact Go.retN (t := .byte) X0 hx Bd.returns (by simp) (hb hby d1_5) Bd.notSynchronized ⟨by rw [r2], N0, e0⟩ (by decide) (by decide)
  · have r3 := hf.trans (if_neg hc1)
    refine Go.back (fun t k => XS.ifYes X0.here hx rfl (pc0 := 1) (pc' := 6) rfl (hb hby d1_1) rfl ((if0 _ _).trans (teq (b2i_f hc1)).1) (by decide) (by decide) k) ?_
    show Go p.tables e below (P1 p0 p1 p2 h0 n0 s) (s₁.setTop (mkF m 6 #[.val (.int p0), .val (.int (b2i p1)), .val (.int p2)] []))
    refine Go.back (fun t k => XS.iloadN X0.here hx rfl (hb hby d1_6) rfl  k) ?_
    show Go p.tables e below (P1 p0 p1 p2 h0 n0 s) (s₁.setTop (mkF m 7 #[.val (.int p0), .val (.int (b2i p1)), .val (.int p2)] [(.int p0)]))
    refine Go.back (fun t k => XS.iloadN X0.here hx rfl (hb hby d1_7) rfl  k) ?_
    show Go p.tables e below (P1 p0 p1 p2 h0 n0 s) (s₁.setTop (mkF m 8 #[.val (.int p0), .val (.int (b2i p1)), .val (.int p2)] [(.int p2), (.int p0)]))
    by_cases hc4 : p0 = p2
    · have r5 := r3.trans (if_pos hc4)
      refine Go.back (fun t k => XS.icmpNo X0.here hx rfl (hb hby d1_8) rfl (teq hc4).2 k) ?_
      show Go p.tables e below (P1 p0 p1 p2 h0 n0 s) (s₁.setTop (mkF m 11 #[.val (.int p0), .val (.int (b2i p1)), .val (.int p2)] []))
      refine Go.back (fun t k => XS.iloadN X0.here hx rfl (hb hby d1_11) rfl  k) ?_
      show Go p.tables e below (P1 p0 p1 p2 h0 n0 s) (s₁.setTop (mkF m 12 #[.val (.int p0), .val (.int (b2i p1)), .val (.int p2)] [(.int p2)]))
      refine Go.back (fun t k => XS.iconst X0.here hx rfl (hb hby d1_12) k) ?_
      show Go p.tables e below (P1 p0 p1 p2 h0 n0 s) (s₁.setTop (mkF m 13 #[.val (.int p0), .val (.int (b2i p1)), .val (.int p2)] [(.int (1 : Int32)), (.int p2)]))
      refine Go.back (fun t k => XS.iadd X0.here hx rfl (hb hby d1_13) rfl k) ?_
      show Go p.tables e below (P1 p0 p1 p2 h0 n0 s) (s₁.setTop (mkF m 14 #[.val (.int p0), .val (.int (b2i p1)), .val (.int p2)] [(.int (p2 + (1 : Int32)))]))
      refine Go.back (fun t k => XS.i2b X0.here hx rfl (hb hby d1_14) rfl k) ?_
      show Go p.tables e below (P1 p0 p1 p2 h0 n0 s) (s₁.setTop (mkF m 15 #[.val (.int p0), .val (.int (b2i p1)), .val (.int p2)] [(.int (((p2 + (1 : Int32))).toInt8.toInt32))]))
      exact Go.retN (t := .byte) X0 hx Bd.returns (by simp) (hb hby d1_15) Bd.notSynchronized ⟨by rw [r5], N0, e0⟩ (by decide) (by decide)
    · have r6 := r3.trans (if_neg hc4)
      refine Go.back (fun t k => XS.icmpYes X0.here hx rfl (pc0 := 8) (pc' := 16) rfl (hb hby d1_8) rfl (feq hc4).2 (by decide) (by decide) k) ?_
      show Go p.tables e below (P1 p0 p1 p2 h0 n0 s) (s₁.setTop (mkF m 16 #[.val (.int p0), .val (.int (b2i p1)), .val (.int p2)] []))
      refine Go.back (fun t k => XS.iloadN X0.here hx rfl (hb hby d1_16) rfl  k) ?_
      show Go p.tables e below (P1 p0 p1 p2 h0 n0 s) (s₁.setTop (mkF m 17 #[.val (.int p0), .val (.int (b2i p1)), .val (.int p2)] [(.int p0)]))
      exact Go.retN (t := .byte) X0 hx Bd.returns (by simp) (hb hby d1_17) Bd.notSynchronized ⟨by rw [r6], N0, e0⟩ (by decide) (by decide)
def own_rng (a b : Int32) (xs : List Int32) : Prop := 0 ≤ a.toInt ∧ a.toInt < 6 ∧ b.toInt ≤ 6 ∧ xs.length = 6
theorem own_l0 : (0 : Int32).toInt = 0 := rfl
theorem own_l1 : (1 : Int32).toInt = 1 := rfl
theorem own_l6 : (6 : Int32).toInt = 6 := rfl
theorem own_l7 : (7 : Int32).toInt = 7 := rfl
theorem own_plus {a : Int32} (h : 0 ≤ a.toInt ∧ a.toInt < 6) : (a + (1 : Int32)).toInt = a.toInt + 1 := by
  have e := c_iadd a 1; have r := rng32 (a + 1); rw [own_l1] at e; omega
theorem own_n1 {a b : Int32} {xs : List Int32} (hb : own_rng a b xs) : ¬ a < (0 : Int32) := by
  rw [Int32.lt_iff_toInt_lt, own_l0]; have := hb.1; omega
theorem own_n2 {a b : Int32} {xs : List Int32} (hb : own_rng a b xs) : ¬ (a + (1 : Int32)) < (0 : Int32) := by
  rw [Int32.lt_iff_toInt_lt, own_l0, own_plus ⟨hb.1, hb.2.1⟩]; have := hb.1; omega
theorem own_i1 {a b : Int32} {xs : List Int32} (hb : own_rng a b xs) (h : (a + (1 : Int32)) < b) : a.toNatClampNeg < xs.length := by
  have := hb.1; have := hb.2.1; have := hb.2.2.2; simp only [Int32.toNatClampNeg]; omega
theorem own_i2 {a b : Int32} {xs : List Int32} (hb : own_rng a b xs) (h : (a + (1 : Int32)) < b) : (a + (1 : Int32)).toNatClampNeg < xs.length := by
  rw [Int32.lt_iff_toInt_lt] at h
  have e := own_plus ⟨hb.1, hb.2.1⟩
  have := hb.1; have := hb.2.2.1; have := hb.2.2.2; simp only [Int32.toNatClampNeg]; omega
theorem own_from (p : Int32) : 0 ≤ ((p &&& (2147483647 : Int32)) % (6 : Int32)).toInt ∧ ((p &&& (2147483647 : Int32)) % (6 : Int32)).toInt < 6 := by
  have mask : (p &&& (2147483647 : Int32)).toInt = p.toInt % (2 ^ 31 : Nat) := c_mask p _ 31 (by decide) (by decide)
  have q := (c_irem (p &&& (2147483647 : Int32)) 6 6 rfl).1 (by omega)
  omega
theorem own_seven {a : Int32} (h : 0 ≤ a.toInt ∧ a.toInt < 6) : ¬ ((7 : Int32) - a = (0 : Int32)) := fun y => by
  have e := c_isub 7 a; rw [y, own_l0, own_l7] at e; omega
theorem own_nn {a : Int32} (h : 0 ≤ a.toInt ∧ a.toInt < 6) : ¬ a < (0 : Int32) := by rw [Int32.lt_iff_toInt_lt, own_l0]; omega
theorem own_in {a : Int32} {n : Nat} (h : 0 ≤ a.toInt ∧ a.toInt < 6) (q : n = 6) : a.toNatClampNeg < n := by simp only [Int32.toNatClampNeg]; omega
theorem own_nn1 {a : Int32} (h : 0 ≤ a.toInt ∧ a.toInt < 6) : ¬ (a + (1 : Int32)) < (0 : Int32) := by rw [Int32.lt_iff_toInt_lt, own_l0, own_plus h]; omega
theorem own_in1 {a : Int32} {n : Nat} (h : 0 ≤ a.toInt ∧ a.toInt < 6) (c : (a + (1 : Int32)) < (6 : Int32)) (q : n = 6) : (a + (1 : Int32)).toNatClampNeg < n := by
  rw [Int32.lt_iff_toInt_lt, own_l6, own_plus h] at c
  simp only [Int32.toNatClampNeg]; rw [own_plus h]; omega
theorem own_to {a b p : Int32} (h : 0 ≤ a.toInt ∧ a.toInt < 6) (hb : b = a + ((p &&& (2147483647 : Int32)) % ((7 : Int32) - a))) : a.toInt ≤ b.toInt ∧ b.toInt ≤ 6 := by
  have mask : (p &&& (2147483647 : Int32)).toInt = p.toInt % (2 ^ 31 : Nat) := c_mask p _ 31 (by decide) (by decide)
  have e := c_isub 7 a; have r := rng32 ((7 : Int32) - a); rw [own_l7] at e
  have q := (c_iremV (p &&& (2147483647 : Int32)) ((7 : Int32) - a)).1 (by omega) (by omega)
  subst hb
  have e2 := c_iadd a ((p &&& (2147483647 : Int32)) % ((7 : Int32) - a)); have r2 := rng32 (a + ((p &&& (2147483647 : Int32)) % ((7 : Int32) - a)))
  omega
theorem own_mk {a b p : Int32} {xs : List Int32} (h : 0 ≤ a.toInt ∧ a.toInt < 6) (hb : b = a + ((p &&& (2147483647 : Int32)) % ((7 : Int32) - a))) (hl : xs.length = 6) : own_rng a b xs := ⟨h.1, h.2, (own_to h hb).2, hl⟩
theorem d2_0 : decode prog_10_method_10_code 0 = .ok (.iload_n 1, 1) := by decide +kernel
theorem d2_1 : decode prog_10_method_10_code 1 = .ok (.iconst 1, 1) := by decide +kernel
theorem d2_2 : decode prog_10_method_10_code 2 = .ok (.iadd, 1) := by decide +kernel
theorem d2_3 : decode prog_10_method_10_code 3 = .ok (.iload_n 2, 1) := by decide +kernel
theorem d2_4 : decode prog_10_method_10_code 4 = .ok (.if_icmp .ge 25, 3) := by decide +kernel
theorem d2_7 : decode prog_10_method_10_code 7 = .ok (.aload_n 0, 1) := by decide +kernel
theorem d2_8 : decode prog_10_method_10_code 8 = .ok (.iload_n 1, 1) := by decide +kernel
theorem d2_9 : decode prog_10_method_10_code 9 = .ok (.baload, 1) := by decide +kernel
theorem d2_10 : decode prog_10_method_10_code 10 = .ok (.bipush 48, 2) := by decide +kernel
theorem d2_12 : decode prog_10_method_10_code 12 = .ok (.if_icmp .ne 17, 3) := by decide +kernel
theorem d2_15 : decode prog_10_method_10_code 15 = .ok (.aload_n 0, 1) := by decide +kernel
theorem d2_16 : decode prog_10_method_10_code 16 = .ok (.iload_n 1, 1) := by decide +kernel
theorem d2_17 : decode prog_10_method_10_code 17 = .ok (.iconst 1, 1) := by decide +kernel
theorem d2_18 : decode prog_10_method_10_code 18 = .ok (.iadd, 1) := by decide +kernel
theorem d2_19 : decode prog_10_method_10_code 19 = .ok (.baload, 1) := by decide +kernel
theorem d2_20 : decode prog_10_method_10_code 20 = .ok (.bipush 120, 2) := by decide +kernel
theorem d2_22 : decode prog_10_method_10_code 22 = .ok (.if_icmp .ne 7, 3) := by decide +kernel
theorem d2_25 : decode prog_10_method_10_code 25 = .ok (.iconst 1, 1) := by decide +kernel
theorem d2_26 : decode prog_10_method_10_code 26 = .ok (.goto 4, 3) := by decide +kernel
theorem d2_29 : decode prog_10_method_10_code 29 = .ok (.iconst 0, 1) := by decide +kernel
theorem d2_30 : decode prog_10_method_10_code 30 = .ok (.ireturn, 1) := by decide +kernel
def f2 (p1 : Int32) (p2 : Int32) (xs : List Int32) : Bool := (let z3 : Bool := (if (p1 + (1 : Int32)) < p2 then (if (List.getD xs (p1).toNatClampNeg (0 : Int32)) = (48 : Int32) then (if (List.getD xs ((p1 + (1 : Int32))).toNatClampNeg (0 : Int32)) = (120 : Int32) then true else false) else false) else false); z3)
def Q2 (Z : State) (p0 : Addr) (p1 : Int32) (p2 : Int32) (xs : List Int32) (h0 : Heap) (n0 : Nat) (v : Option Value) (h : Heap) (L : List Loc) : Prop := v = some (.int (b2i (f2 p1 p2 xs))) ∧ Fr n0 L ∧ h = h0
abbrev rmm2 : Room := { frames := 0, cells := 0, slots := 0, locals := 0 }
abbrev P2 (Z : State) (p0 : Addr) (p1 : Int32) (p2 : Int32) (xs : List Int32) (h0 : Heap) (n0 : Nat) (s : State) : Outcome → State → Prop := fun o U' => ∃ v L, o = .returned v ∧ Q2 Z p0 p1 p2 xs h0 n0 v U'.heap L ∧ FrameEnd s o U' L rmm2.cells rmm2.slots
theorem pn_2 : plainName "com/example/careful_audit/carefulaudit/DataType" = true := by first | (simp [plainName, overriddenIn]; done) | decide +kernel
theorem ef_2 (m : MethodId) (p0 : Addr) (p1 : Int32) (p2 : Int32) : entryFrame m #[(.ref p0), (.int p1), (.int p2)] 3 = mkF m 0 #[.val (.ref p0), .val (.int p1), .val (.int p2)] [] := by first | (simp [entryFrame, mkF, argsToLocals, Value.category]; done) | rfl
set_option maxRecDepth 65536 in
set_option maxHeartbeats 40000000 in
theorem rm2 (l : Launch) (Z : State) (a0 : Array Value) (hw : ∀ d ∈ tables_1, d.before a0 Z = true) (ws : List Jvm.Cond) (p0 : Addr) (p1 : Int32) (p2 : Int32) (xs : List Int32) (h0 : Heap) (n0 : Nat) (Z0 : n0 ≤ h0.size) (H0 : ArL Z h0 p0 .byte (List.map Value.int xs)) (hbd : own_rng p1 p2 xs) :
    MetFree l (⟨"com/example/careful_audit/carefulaudit/DataType", "isHexPrefix", "([BII)Z"⟩ : MethodName) (head1 (Jvm.Cond.code (⟨"com/example/careful_audit/carefulaudit/DataType", "isHexPrefix", "([BII)Z"⟩ : MethodName) prog_10_method_10_code 3 (some .boolean) :: ws) rmm2) (fun a U => a = #[(.ref p0), (.int p1), (.int p2)] ∧ Z.Warmed39 U.vm ∧ U.heap = h0) (fun _ _ _ _ _ => True) (fun _ U o U' => ∃ v L, o = .returned v ∧ Q2 Z p0 p1 p2 xs h0 n0 v U'.heap L ∧ FrameEnd U o U' L rmm2.cells rmm2.slots) := by
  refine MetFree.of_bodySF (plainFor_of_name pn_2) hisR ?_
  intro p e s m args below meth c s₁ Bd hml0 hP hK
  obtain ⟨rfl, hZ, hh⟩ := hP
  have hx := Bd.exec
  have hby := Bd.bytes
  have hml : c.maxLocals = 3 := hml0
  have hown : s.vm.findClass "com/example/careful_audit/carefulaudit/DataType" = some m.cls := findClass_of_methodNamed Bd.named
  have hnm := (name_of_methodNamed Bd.named Bd.method).1
  have X0 : Stand p l e rmm2 s m #[(.ref p0), (.int p1), (.int p2)] below meth c s₁ [] 0 0 := Stand.of_body Bd
  have e0 : s₁.heap = h0 := by rw [← hh, Bd.state]; rfl
  have N0 := Fr.nil n0
  show Go p.tables e below (P2 Z p0 p1 p2 xs h0 n0 s) (s₁.setTop (entryFrame m #[(.ref p0), (.int p1), (.int p2)] 3))
  refine Go.back (fun t k => castTop (ef_2 m p0 p1 p2) k) ?_
  show Go p.tables e below (P2 Z p0 p1 p2 xs h0 n0 s) (s₁.setTop (mkF m 0 #[.val (.ref p0), .val (.int p1), .val (.int p2)] []))
  have hf0 : f2 p1 p2 xs = (let z3 : Bool := (if (p1 + (1 : Int32)) < p2 then (if (List.getD xs (p1).toNatClampNeg (0 : Int32)) = (48 : Int32) then (if (List.getD xs ((p1 + (1 : Int32))).toNatClampNeg (0 : Int32)) = (120 : Int32) then true else false) else false) else false); z3) := rfl
  refine Go.back (fun t k => XS.iloadN X0.here hx rfl (hb hby d2_0) rfl  k) ?_
  show Go p.tables e below (P2 Z p0 p1 p2 xs h0 n0 s) (s₁.setTop (mkF m 1 #[.val (.ref p0), .val (.int p1), .val (.int p2)] [(.int p1)]))
  refine Go.back (fun t k => XS.iconst X0.here hx rfl (hb hby d2_1) k) ?_
  show Go p.tables e below (P2 Z p0 p1 p2 xs h0 n0 s) (s₁.setTop (mkF m 2 #[.val (.ref p0), .val (.int p1), .val (.int p2)] [(.int (1 : Int32)), (.int p1)]))
  refine Go.back (fun t k => XS.iadd X0.here hx rfl (hb hby d2_2) rfl k) ?_
  show Go p.tables e below (P2 Z p0 p1 p2 xs h0 n0 s) (s₁.setTop (mkF m 3 #[.val (.ref p0), .val (.int p1), .val (.int p2)] [(.int (p1 + (1 : Int32)))]))
  refine Go.back (fun t k => XS.iloadN X0.here hx rfl (hb hby d2_3) rfl  k) ?_
  show Go p.tables e below (P2 Z p0 p1 p2 xs h0 n0 s) (s₁.setTop (mkF m 4 #[.val (.ref p0), .val (.int p1), .val (.int p2)] [(.int p2), (.int (p1 + (1 : Int32)))]))
  have J2 : ∀ (z3 : Bool) (hz3 : z3 = (if (p1 + (1 : Int32)) < p2 then (if (List.getD xs (p1).toNatClampNeg (0 : Int32)) = (48 : Int32) then (if (List.getD xs ((p1 + (1 : Int32))).toNatClampNeg (0 : Int32)) = (120 : Int32) then true else false) else false) else false)), Go p.tables e below (P2 Z p0 p1 p2 xs h0 n0 s) (s₁.setTop (mkF m 30 #[.val (.ref p0), .val (.int p1), .val (.int p2)] [(.int (b2i z3))])) := by
    intro z3 hz3
    have r4 : f2 p1 p2 xs = z3 := by subst hz3; exact hf0
    show Go p.tables e below (P2 Z p0 p1 p2 xs h0 n0 s) (s₁.setTop (mkF m 30 #[.val (.ref p0), .val (.int p1), .val (.int p2)] [(.int (b2i z3))]))
    exact Go.retB (b := z3) X0 hx Bd.returns (hb hby d2_30) Bd.notSynchronized ⟨by rw [r4], N0, e0⟩ (by decide) (by decide)
  have r5 : (if (p1 + (1 : Int32)) < p2 then (if (List.getD xs (p1).toNatClampNeg (0 : Int32)) = (48 : Int32) then (if (List.getD xs ((p1 + (1 : Int32))).toNatClampNeg (0 : Int32)) = (120 : Int32) then true else false) else false) else false) = (if (p1 + (1 : Int32)) < p2 then (if (List.getD xs (p1).toNatClampNeg (0 : Int32)) = (48 : Int32) then (if (List.getD xs ((p1 + (1 : Int32))).toNatClampNeg (0 : Int32)) = (120 : Int32) then true else false) else false) else false) := rfl
  by_cases hc1 : (p1 + (1 : Int32)) < p2
  · have r6 := r5.trans (if_pos hc1)
    refine Go.back (fun t k => XS.icmpNo X0.here hx rfl (hb hby d2_4) rfl (tlt hc1).2.1 k) ?_
    show Go p.tables e below (P2 Z p0 p1 p2 xs h0 n0 s) (s₁.setTop (mkF m 7 #[.val (.ref p0), .val (.int p1), .val (.int p2)] []))
    refine Go.back (fun t k => XS.aloadN X0.here hx rfl (hb hby d2_7) rfl rfl  k) ?_
    show Go p.tables e below (P2 Z p0 p1 p2 xs h0 n0 s) (s₁.setTop (mkF m 8 #[.val (.ref p0), .val (.int p1), .val (.int p2)] [(.ref p0)]))
    refine Go.back (fun t k => XS.iloadN X0.here hx rfl (hb hby d2_8) rfl  k) ?_
    show Go p.tables e below (P2 Z p0 p1 p2 xs h0 n0 s) (s₁.setTop (mkF m 9 #[.val (.ref p0), .val (.int p1), .val (.int p2)] [(.int p1), (.ref p0)]))
    obtain ⟨cl7, Ar7, hi7, ha7⟩ := H0.get (j := p1) (own_n1 hbd) (v := (.int (List.getD xs (p1).toNatClampNeg (0 : Int32)))) (getI xs (own_i1 hbd hc1))
    refine Go.back (fun t k => X0.baloadBytes hx (j := p1) (v := (.int (List.getD xs (p1).toNatClampNeg (0 : Int32)))) (by rw [e0]; exact Ar7.1) (State.isArrayOf_alike hZ.alike Ar7.2.1) Ar7.2.2 hi7 ha7 (g := (mkF m 9 #[.val (.ref p0), .val (.int p1), .val (.int p2)] [(.int p1), (.ref p0)])) rfl rfl (hb hby d2_9) t k) ?_
    show Go p.tables e below (P2 Z p0 p1 p2 xs h0 n0 s) (s₁.setTop (mkF m 10 #[.val (.ref p0), .val (.int p1), .val (.int p2)] [(.int (List.getD xs (p1).toNatClampNeg (0 : Int32)))]))
    refine Go.back (fun t k => XS.bipush X0.here hx rfl (hb hby d2_10) k) ?_
    show Go p.tables e below (P2 Z p0 p1 p2 xs h0 n0 s) (s₁.setTop (mkF m 12 #[.val (.ref p0), .val (.int p1), .val (.int p2)] [(.int (48 : Int32)), (.int (List.getD xs (p1).toNatClampNeg (0 : Int32)))]))
    by_cases hc8 : (List.getD xs (p1).toNatClampNeg (0 : Int32)) = (48 : Int32)
    · have r9 := r6.trans (if_pos hc8)
      refine Go.back (fun t k => XS.icmpNo X0.here hx rfl (hb hby d2_12) rfl (teq hc8).2 k) ?_
      show Go p.tables e below (P2 Z p0 p1 p2 xs h0 n0 s) (s₁.setTop (mkF m 15 #[.val (.ref p0), .val (.int p1), .val (.int p2)] []))
      refine Go.back (fun t k => XS.aloadN X0.here hx rfl (hb hby d2_15) rfl rfl  k) ?_
      show Go p.tables e below (P2 Z p0 p1 p2 xs h0 n0 s) (s₁.setTop (mkF m 16 #[.val (.ref p0), .val (.int p1), .val (.int p2)] [(.ref p0)]))
      refine Go.back (fun t k => XS.iloadN X0.here hx rfl (hb hby d2_16) rfl  k) ?_
      show Go p.tables e below (P2 Z p0 p1 p2 xs h0 n0 s) (s₁.setTop (mkF m 17 #[.val (.ref p0), .val (.int p1), .val (.int p2)] [(.int p1), (.ref p0)]))
      refine Go.back (fun t k => XS.iconst X0.here hx rfl (hb hby d2_17) k) ?_
      show Go p.tables e below (P2 Z p0 p1 p2 xs h0 n0 s) (s₁.setTop (mkF m 18 #[.val (.ref p0), .val (.int p1), .val (.int p2)] [(.int (1 : Int32)), (.int p1), (.ref p0)]))
      refine Go.back (fun t k => XS.iadd X0.here hx rfl (hb hby d2_18) rfl k) ?_
      show Go p.tables e below (P2 Z p0 p1 p2 xs h0 n0 s) (s₁.setTop (mkF m 19 #[.val (.ref p0), .val (.int p1), .val (.int p2)] [(.int (p1 + (1 : Int32))), (.ref p0)]))
      obtain ⟨cl10, Ar10, hi10, ha10⟩ := H0.get (j := (p1 + (1 : Int32))) (own_n2 hbd) (v := (.int (List.getD xs ((p1 + (1 : Int32))).toNatClampNeg (0 : Int32)))) (getI xs (own_i2 hbd hc1))
      refine Go.back (fun t k => X0.baloadBytes hx (j := (p1 + (1 : Int32))) (v := (.int (List.getD xs ((p1 + (1 : Int32))).toNatClampNeg (0 : Int32)))) (by rw [e0]; exact Ar10.1) (State.isArrayOf_alike hZ.alike Ar10.2.1) Ar10.2.2 hi10 ha10 (g := (mkF m 19 #[.val (.ref p0), .val (.int p1), .val (.int p2)] [(.int (p1 + (1 : Int32))), (.ref p0)])) rfl rfl (hb hby d2_19) t k) ?_
      show Go p.tables e below (P2 Z p0 p1 p2 xs h0 n0 s) (s₁.setTop (mkF m 20 #[.val (.ref p0), .val (.int p1), .val (.int p2)] [(.int (List.getD xs ((p1 + (1 : Int32))).toNatClampNeg (0 : Int32)))]))
      refine Go.back (fun t k => XS.bipush X0.here hx rfl (hb hby d2_20) k) ?_
      show Go p.tables e below (P2 Z p0 p1 p2 xs h0 n0 s) (s₁.setTop (mkF m 22 #[.val (.ref p0), .val (.int p1), .val (.int p2)] [(.int (120 : Int32)), (.int (List.getD xs ((p1 + (1 : Int32))).toNatClampNeg (0 : Int32)))]))
      by_cases hc11 : (List.getD xs ((p1 + (1 : Int32))).toNatClampNeg (0 : Int32)) = (120 : Int32)
      · have r12 := r9.trans (if_pos hc11)
        refine Go.back (fun t k => XS.icmpNo X0.here hx rfl (hb hby d2_22) rfl (teq hc11).2 k) ?_
        show Go p.tables e below (P2 Z p0 p1 p2 xs h0 n0 s) (s₁.setTop (mkF m 25 #[.val (.ref p0), .val (.int p1), .val (.int p2)] []))
        refine Go.back (fun t k => XS.iconst X0.here hx rfl (hb hby d2_25) k) ?_
        show Go p.tables e below (P2 Z p0 p1 p2 xs h0 n0 s) (s₁.setTop (mkF m 26 #[.val (.ref p0), .val (.int p1), .val (.int p2)] [(.int (1 : Int32))]))
        refine Go.back (fun t k => XS.goto X0.here hx rfl (pc0 := 26) (pc' := 30) rfl (hb hby d2_26) (by decide) (by decide) k) ?_
        show Go p.tables e below (P2 Z p0 p1 p2 xs h0 n0 s) (s₁.setTop (mkF m 30 #[.val (.ref p0), .val (.int p1), .val (.int p2)] [(.int (1 : Int32))]))
        exact J2 true r12.symm
      · have r13 := r9.trans (if_neg hc11)
        refine Go.back (fun t k => XS.icmpYes X0.here hx rfl (pc0 := 22) (pc' := 29) rfl (hb hby d2_22) rfl (feq hc11).2 (by decide) (by decide) k) ?_
        show Go p.tables e below (P2 Z p0 p1 p2 xs h0 n0 s) (s₁.setTop (mkF m 29 #[.val (.ref p0), .val (.int p1), .val (.int p2)] []))
        refine Go.back (fun t k => XS.iconst X0.here hx rfl (hb hby d2_29) k) ?_
        show Go p.tables e below (P2 Z p0 p1 p2 xs h0 n0 s) (s₁.setTop (mkF m 30 #[.val (.ref p0), .val (.int p1), .val (.int p2)] [(.int (0 : Int32))]))
        exact J2 false r13.symm
    · have r14 := r6.trans (if_neg hc8)
      refine Go.back (fun t k => XS.icmpYes X0.here hx rfl (pc0 := 12) (pc' := 29) rfl (hb hby d2_12) rfl (feq hc8).2 (by decide) (by decide) k) ?_
      show Go p.tables e below (P2 Z p0 p1 p2 xs h0 n0 s) (s₁.setTop (mkF m 29 #[.val (.ref p0), .val (.int p1), .val (.int p2)] []))
      refine Go.back (fun t k => XS.iconst X0.here hx rfl (hb hby d2_29) k) ?_
      show Go p.tables e below (P2 Z p0 p1 p2 xs h0 n0 s) (s₁.setTop (mkF m 30 #[.val (.ref p0), .val (.int p1), .val (.int p2)] [(.int (0 : Int32))]))
      exact J2 false r14.symm
  · have r15 := r5.trans (if_neg hc1)
    refine Go.back (fun t k => XS.icmpYes X0.here hx rfl (pc0 := 4) (pc' := 29) rfl (hb hby d2_4) rfl (flt hc1).2.1 (by decide) (by decide) k) ?_
    show Go p.tables e below (P2 Z p0 p1 p2 xs h0 n0 s) (s₁.setTop (mkF m 29 #[.val (.ref p0), .val (.int p1), .val (.int p2)] []))
    refine Go.back (fun t k => XS.iconst X0.here hx rfl (hb hby d2_29) k) ?_
    show Go p.tables e below (P2 Z p0 p1 p2 xs h0 n0 s) (s₁.setTop (mkF m 30 #[.val (.ref p0), .val (.int p1), .val (.int p2)] [(.int (0 : Int32))]))
    exact J2 false r15.symm
def f0 (p0 : Int32) (p1 : Int32) (p2 : Int32) (p3 : Int64) : Bool := (let z24 : List Int32 := [(nar .byte ((((p3).toInt32)).toInt8.toInt32)), (nar .byte (((((((p3).toUInt64 >>> ((8 : Int32) &&& 0x3f).toInt64.toUInt64).toInt64)).toInt32)).toInt8.toInt32)), (nar .byte (((((((p3).toUInt64 >>> ((16 : Int32) &&& 0x3f).toInt64.toUInt64).toInt64)).toInt32)).toInt8.toInt32)), (nar .byte (((((((p3).toUInt64 >>> ((24 : Int32) &&& 0x3f).toInt64.toUInt64).toInt64)).toInt32)).toInt8.toInt32)), (nar .byte (((((((p3).toUInt64 >>> ((32 : Int32) &&& 0x3f).toInt64.toUInt64).toInt64)).toInt32)).toInt8.toInt32)), (nar .byte (((((((p3).toUInt64 >>> ((40 : Int32) &&& 0x3f).toInt64.toUInt64).toInt64)).toInt32)).toInt8.toInt32))]; (let z28 : Int32 := ((p0 &&& (2147483647 : Int32)) % (6 : Int32)); (let z31 : Int32 := (z28 + ((p1 &&& (2147483647 : Int32)) % ((7 : Int32) - z28))); (let z35 : Bool := (if (p2 &&& (1 : Int32)) = (0 : Int32) then false else true); (let z39 : Bool := (if (p2 &&& (2 : Int32)) = (0 : Int32) then false else true); (let z49 : List Int32 := (if (z28 + (1 : Int32)) < (6 : Int32) then (List.set (List.set z24 (z28).toNatClampNeg (nar .byte (f1 (List.getD z24 (z28).toNatClampNeg (0 : Int32)) z35 (48 : Int32)))) ((z28 + (1 : Int32))).toNatClampNeg (nar .byte (f1 (List.getD (List.set z24 (z28).toNatClampNeg (nar .byte (f1 (List.getD z24 (z28).toNatClampNeg (0 : Int32)) z35 (48 : Int32)))) ((z28 + (1 : Int32))).toNatClampNeg (0 : Int32)) z39 (120 : Int32)))) else (List.set z24 (z28).toNatClampNeg (nar .byte (f1 (List.getD z24 (z28).toNatClampNeg (0 : Int32)) z35 (48 : Int32))))); (let z56 : Bool := (if (z31 - z28) < (2 : Int32) then false else (if z35 = true then (if z39 = true then true else false) else false)); (let z61 : Bool := (if (f2 z28 z31 z49) = z56 then true else false); z61))))))))
def Q0 (Z : State) (p0 : Int32) (p1 : Int32) (p2 : Int32) (p3 : Int64) (h0 : Heap) (n0 : Nat) (v : Option Value) (h : Heap) (L : List Loc) : Prop := v = some (.int (b2i (f0 p0 p1 p2 p3))) ∧ Fr n0 L
abbrev P0 (Z : State) (p0 : Int32) (p1 : Int32) (p2 : Int32) (p3 : Int64) (h0 : Heap) (n0 : Nat) (s : State) : Outcome → State → Prop := fun o U' => ∃ v L, o = .returned v ∧ Q0 Z p0 p1 p2 p3 h0 n0 v U'.heap L ∧ FrameEnd s o U' L room_1.cells room_1.slots
theorem pn_0 : plainName "com/example/careful_audit/carefulaudit/DataTypeIsHexPrefixPinLaw" = true := by first | (simp [plainName, overriddenIn]; done) | decide +kernel
theorem ef_0 (m : MethodId) (p0 : Int32) (p1 : Int32) (p2 : Int32) (p3 : Int64) : entryFrame m #[(.int p0), (.int p1), (.int p2), (.long p3)] maxLocals = mkF m 0 #[.val (.int p0), .val (.int p1), .val (.int p2), .val (.long p3), .second, .unset, .unset, .unset, .unset, .unset, .unset] [] := by first | (simp [entryFrame, mkF, argsToLocals, Value.category, maxLocals]; done) | rfl
set_option maxRecDepth 65536 in
set_option maxHeartbeats 40000000 in
theorem rm0 (l : Launch) (Z : State) (a0 : Array Value) (hw : ∀ d ∈ tables_1, d.before a0 Z = true) (ws : List Jvm.Cond) (p0 : Int32) (p1 : Int32) (p2 : Int32) (p3 : Int64) (h0 : Heap) (n0 : Nat) (Z0 : n0 ≤ h0.size) :
    MetFree l x (head1 (Jvm.Cond.code x code maxLocals ret :: ws) room_1) (fun a U => a = #[(.int p0), (.int p1), (.int p2), (.long p3)] ∧ Z.Warmed39 U.vm ∧ U.heap = h0) (fun _ _ _ _ _ => True) (fun _ U o U' => ∃ v L, o = .returned v ∧ Q0 Z p0 p1 p2 p3 h0 n0 v U'.heap L ∧ FrameEnd U o U' L room_1.cells room_1.slots) := by
  refine MetFree.of_bodySF (plainFor_of_name pn_0) hisR ?_
  intro p e s m args below meth c s₁ Bd hml0 hP hK
  obtain ⟨rfl, hZ, hh⟩ := hP
  have hx := Bd.exec
  have hby := Bd.bytes
  have hml : c.maxLocals = 11 := hml0
  have hown : s.vm.findClass "com/example/careful_audit/carefulaudit/DataTypeIsHexPrefixPinLaw" = some m.cls := findClass_of_methodNamed Bd.named
  have hnm := (name_of_methodNamed Bd.named Bd.method).1
  have X0 : Stand p l e room_1 s m #[(.int p0), (.int p1), (.int p2), (.long p3)] below meth c s₁ [] 0 0 := Stand.of_body Bd
  have e0 : s₁.heap = h0 := by rw [← hh, Bd.state]; rfl
  have N0 := Fr.nil n0
  show Go p.tables e below (P0 Z p0 p1 p2 p3 h0 n0 s) (s₁.setTop (entryFrame m #[(.int p0), (.int p1), (.int p2), (.long p3)] maxLocals))
  refine Go.back (fun t k => castTop (ef_0 m p0 p1 p2 p3) k) ?_
  show Go p.tables e below (P0 Z p0 p1 p2 p3 h0 n0 s) (s₁.setTop (mkF m 0 #[.val (.int p0), .val (.int p1), .val (.int p2), .val (.long p3), .second, .unset, .unset, .unset, .unset, .unset, .unset] []))
  have hf0 : f0 p0 p1 p2 p3 = (let z24 : List Int32 := [(nar .byte ((((p3).toInt32)).toInt8.toInt32)), (nar .byte (((((((p3).toUInt64 >>> ((8 : Int32) &&& 0x3f).toInt64.toUInt64).toInt64)).toInt32)).toInt8.toInt32)), (nar .byte (((((((p3).toUInt64 >>> ((16 : Int32) &&& 0x3f).toInt64.toUInt64).toInt64)).toInt32)).toInt8.toInt32)), (nar .byte (((((((p3).toUInt64 >>> ((24 : Int32) &&& 0x3f).toInt64.toUInt64).toInt64)).toInt32)).toInt8.toInt32)), (nar .byte (((((((p3).toUInt64 >>> ((32 : Int32) &&& 0x3f).toInt64.toUInt64).toInt64)).toInt32)).toInt8.toInt32)), (nar .byte (((((((p3).toUInt64 >>> ((40 : Int32) &&& 0x3f).toInt64.toUInt64).toInt64)).toInt32)).toInt8.toInt32))]; (let z28 : Int32 := ((p0 &&& (2147483647 : Int32)) % (6 : Int32)); (let z31 : Int32 := (z28 + ((p1 &&& (2147483647 : Int32)) % ((7 : Int32) - z28))); (let z35 : Bool := (if (p2 &&& (1 : Int32)) = (0 : Int32) then false else true); (let z39 : Bool := (if (p2 &&& (2 : Int32)) = (0 : Int32) then false else true); (let z49 : List Int32 := (if (z28 + (1 : Int32)) < (6 : Int32) then (List.set (List.set z24 (z28).toNatClampNeg (nar .byte (f1 (List.getD z24 (z28).toNatClampNeg (0 : Int32)) z35 (48 : Int32)))) ((z28 + (1 : Int32))).toNatClampNeg (nar .byte (f1 (List.getD (List.set z24 (z28).toNatClampNeg (nar .byte (f1 (List.getD z24 (z28).toNatClampNeg (0 : Int32)) z35 (48 : Int32)))) ((z28 + (1 : Int32))).toNatClampNeg (0 : Int32)) z39 (120 : Int32)))) else (List.set z24 (z28).toNatClampNeg (nar .byte (f1 (List.getD z24 (z28).toNatClampNeg (0 : Int32)) z35 (48 : Int32))))); (let z56 : Bool := (if (z31 - z28) < (2 : Int32) then false else (if z35 = true then (if z39 = true then true else false) else false)); (let z61 : Bool := (if (f2 z28 z31 z49) = z56 then true else false); z61)))))))) := rfl
  refine Go.back (fun t k => XS.bipush X0.here hx rfl (hb hby at_0) k) ?_
  show Go p.tables e below (P0 Z p0 p1 p2 p3 h0 n0 s) (s₁.setTop (mkF m 2 #[.val (.int p0), .val (.int p1), .val (.int p2), .val (.long p3), .second, .unset, .unset, .unset, .unset, .unset, .unset] [(.int (6 : Int32))]))
  obtain ⟨T1, h1, k1, X1, e1, E1, A1, st1⟩ := newP X0 hx hZ (hw _ (List.mem_of_getElem? (i := 0) rfl)) e0 (g := (mkF m 2 #[.val (.int p0), .val (.int p1), .val (.int p2), .val (.long p3), .second, .unset, .unset, .unset, .unset, .unset, .unset] [(.int (6 : Int32))])) rfl (hb hby at_2) rfl (by decide) (cap := 6) (by decide) (by decide) (by decide) (by decide)
  obtain ⟨b1, g1⟩ : ∃ z, z = h0.size := ⟨_, rfl⟩
  rw [← g1] at A1 st1
  have g2 : n0 ≤ b1 := Nat.le_trans Z0 (Nat.le_of_eq g1.symm)
  have F3 : n0 ≤ h1.size := Nat.le_trans Z0 E1.1
  have F4 : ArL Z h1 b1 .byte [(.int (0 : Int32)), (.int (0 : Int32)), (.int (0 : Int32)), (.int (0 : Int32)), (.int (0 : Int32)), (.int (0 : Int32))] := ArL.new (ty := .byte) A1 (n := 6) rfl
  refine Go.back st1 ?_
  show Go p.tables e below (P0 Z p0 p1 p2 p3 h0 n0 s) (T1.setTop (mkF m 4 #[.val (.int p0), .val (.int p1), .val (.int p2), .val (.long p3), .second, .unset, .unset, .unset, .unset, .unset, .unset] [(.ref b1)]))
  refine Go.back (fun t k => XS.astore X1.here hx rfl (hb hby at_4) rfl rfl (l' := #[.val (.int p0), .val (.int p1), .val (.int p2), .val (.long p3), .second, .val (.ref b1), .unset, .unset, .unset, .unset, .unset]) rfl k) ?_
  show Go p.tables e below (P0 Z p0 p1 p2 p3 h0 n0 s) (T1.setTop (mkF m 6 #[.val (.int p0), .val (.int p1), .val (.int p2), .val (.long p3), .second, .val (.ref b1), .unset, .unset, .unset, .unset, .unset] []))
  refine Go.back (fun t k => XS.aload X1.here hx rfl (hb hby at_6) rfl rfl  k) ?_
  show Go p.tables e below (P0 Z p0 p1 p2 p3 h0 n0 s) (T1.setTop (mkF m 8 #[.val (.int p0), .val (.int p1), .val (.int p2), .val (.long p3), .second, .val (.ref b1), .unset, .unset, .unset, .unset, .unset] [(.ref b1)]))
  refine Go.back (fun t k => XS.iconst X1.here hx rfl (hb hby at_8) k) ?_
  show Go p.tables e below (P0 Z p0 p1 p2 p3 h0 n0 s) (T1.setTop (mkF m 9 #[.val (.int p0), .val (.int p1), .val (.int p2), .val (.long p3), .second, .val (.ref b1), .unset, .unset, .unset, .unset, .unset] [(.int (0 : Int32)), (.ref b1)]))
  refine Go.back (fun t k => XS.lloadN X1.here hx rfl (hb hby at_9) rfl  k) ?_
  show Go p.tables e below (P0 Z p0 p1 p2 p3 h0 n0 s) (T1.setTop (mkF m 10 #[.val (.int p0), .val (.int p1), .val (.int p2), .val (.long p3), .second, .val (.ref b1), .unset, .unset, .unset, .unset, .unset] [(.long p3), (.int (0 : Int32)), (.ref b1)]))
  refine Go.back (fun t k => XS.l2i X1.here hx rfl (hb hby at_10) rfl k) ?_
  show Go p.tables e below (P0 Z p0 p1 p2 p3 h0 n0 s) (T1.setTop (mkF m 11 #[.val (.int p0), .val (.int p1), .val (.int p2), .val (.long p3), .second, .val (.ref b1), .unset, .unset, .unset, .unset, .unset] [(.int ((p3).toInt32)), (.int (0 : Int32)), (.ref b1)]))
  refine Go.back (fun t k => XS.i2b X1.here hx rfl (hb hby at_11) rfl k) ?_
  show Go p.tables e below (P0 Z p0 p1 p2 p3 h0 n0 s) (T1.setTop (mkF m 12 #[.val (.int p0), .val (.int p1), .val (.int p2), .val (.long p3), .second, .val (.ref b1), .unset, .unset, .unset, .unset, .unset] [(.int ((((p3).toInt32)).toInt8.toInt32)), (.int (0 : Int32)), (.ref b1)]))
  obtain ⟨cl5, Ar5, hi5, -⟩ := F4.at (j := (0 : Int32)) (by decide) (Nat.le_of_ble_eq_true rfl)
  obtain ⟨T5, h5, X5, e5, W5, st5⟩ := stB X1 hx hZ e1 Ar5 (j := (0 : Int32)) hi5 (g := (mkF m 12 #[.val (.int p0), .val (.int p1), .val (.int p2), .val (.long p3), .second, .val (.ref b1), .unset, .unset, .unset, .unset, .unset] [(.int ((((p3).toInt32)).toInt8.toInt32)), (.int (0 : Int32)), (.ref b1)])) rfl rfl (hb hby at_12)
  have F6 : n0 ≤ h5.size := Nat.le_trans F3 (Keep.of_wr W5).1
  have F7 : ArL Z h5 b1 .byte [(.int (nar .byte ((((p3).toInt32)).toInt8.toInt32))), (.int (0 : Int32)), (.int (0 : Int32)), (.int (0 : Int32)), (.int (0 : Int32)), (.int (0 : Int32))] := F4.set W5
  have N5 := Fr.snoc X5 N0 g2
  refine Go.back st5 ?_
  show Go p.tables e below (P0 Z p0 p1 p2 p3 h0 n0 s) (T5.setTop (mkF m 13 #[.val (.int p0), .val (.int p1), .val (.int p2), .val (.long p3), .second, .val (.ref b1), .unset, .unset, .unset, .unset, .unset] []))
  refine Go.back (fun t k => XS.aload X5.here hx rfl (hb hby at_13) rfl rfl  k) ?_
  show Go p.tables e below (P0 Z p0 p1 p2 p3 h0 n0 s) (T5.setTop (mkF m 15 #[.val (.int p0), .val (.int p1), .val (.int p2), .val (.long p3), .second, .val (.ref b1), .unset, .unset, .unset, .unset, .unset] [(.ref b1)]))
  refine Go.back (fun t k => XS.iconst X5.here hx rfl (hb hby at_15) k) ?_
  show Go p.tables e below (P0 Z p0 p1 p2 p3 h0 n0 s) (T5.setTop (mkF m 16 #[.val (.int p0), .val (.int p1), .val (.int p2), .val (.long p3), .second, .val (.ref b1), .unset, .unset, .unset, .unset, .unset] [(.int (1 : Int32)), (.ref b1)]))
  refine Go.back (fun t k => XS.lloadN X5.here hx rfl (hb hby at_16) rfl  k) ?_
  show Go p.tables e below (P0 Z p0 p1 p2 p3 h0 n0 s) (T5.setTop (mkF m 17 #[.val (.int p0), .val (.int p1), .val (.int p2), .val (.long p3), .second, .val (.ref b1), .unset, .unset, .unset, .unset, .unset] [(.long p3), (.int (1 : Int32)), (.ref b1)]))
  refine Go.back (fun t k => XS.bipush X5.here hx rfl (hb hby at_17) k) ?_
  show Go p.tables e below (P0 Z p0 p1 p2 p3 h0 n0 s) (T5.setTop (mkF m 19 #[.val (.int p0), .val (.int p1), .val (.int p2), .val (.long p3), .second, .val (.ref b1), .unset, .unset, .unset, .unset, .unset] [(.int (8 : Int32)), (.long p3), (.int (1 : Int32)), (.ref b1)]))
  refine Go.back (fun t k => XS.lushr X5.here hx rfl (hb hby at_19) rfl k) ?_
  show Go p.tables e below (P0 Z p0 p1 p2 p3 h0 n0 s) (T5.setTop (mkF m 20 #[.val (.int p0), .val (.int p1), .val (.int p2), .val (.long p3), .second, .val (.ref b1), .unset, .unset, .unset, .unset, .unset] [(.long (((p3).toUInt64 >>> ((8 : Int32) &&& 0x3f).toInt64.toUInt64).toInt64)), (.int (1 : Int32)), (.ref b1)]))
  refine Go.back (fun t k => XS.l2i X5.here hx rfl (hb hby at_20) rfl k) ?_
  show Go p.tables e below (P0 Z p0 p1 p2 p3 h0 n0 s) (T5.setTop (mkF m 21 #[.val (.int p0), .val (.int p1), .val (.int p2), .val (.long p3), .second, .val (.ref b1), .unset, .unset, .unset, .unset, .unset] [(.int (((((p3).toUInt64 >>> ((8 : Int32) &&& 0x3f).toInt64.toUInt64).toInt64)).toInt32)), (.int (1 : Int32)), (.ref b1)]))
  refine Go.back (fun t k => XS.i2b X5.here hx rfl (hb hby at_21) rfl k) ?_
  show Go p.tables e below (P0 Z p0 p1 p2 p3 h0 n0 s) (T5.setTop (mkF m 22 #[.val (.int p0), .val (.int p1), .val (.int p2), .val (.long p3), .second, .val (.ref b1), .unset, .unset, .unset, .unset, .unset] [(.int (((((((p3).toUInt64 >>> ((8 : Int32) &&& 0x3f).toInt64.toUInt64).toInt64)).toInt32)).toInt8.toInt32)), (.int (1 : Int32)), (.ref b1)]))
  obtain ⟨cl8, Ar8, hi8, -⟩ := F7.at (j := (1 : Int32)) (by decide) (Nat.le_of_ble_eq_true rfl)
  obtain ⟨T8, h8, X8, e8, W8, st8⟩ := stB X5 hx hZ e5 Ar8 (j := (1 : Int32)) hi8 (g := (mkF m 22 #[.val (.int p0), .val (.int p1), .val (.int p2), .val (.long p3), .second, .val (.ref b1), .unset, .unset, .unset, .unset, .unset] [(.int (((((((p3).toUInt64 >>> ((8 : Int32) &&& 0x3f).toInt64.toUInt64).toInt64)).toInt32)).toInt8.toInt32)), (.int (1 : Int32)), (.ref b1)])) rfl rfl (hb hby at_22)
  have F9 : n0 ≤ h8.size := Nat.le_trans F6 (Keep.of_wr W8).1
  have F10 : ArL Z h8 b1 .byte [(.int (nar .byte ((((p3).toInt32)).toInt8.toInt32))), (.int (nar .byte (((((((p3).toUInt64 >>> ((8 : Int32) &&& 0x3f).toInt64.toUInt64).toInt64)).toInt32)).toInt8.toInt32))), (.int (0 : Int32)), (.int (0 : Int32)), (.int (0 : Int32)), (.int (0 : Int32))] := F7.set W8
  have N8 := Fr.snoc X8 N5 g2
  refine Go.back st8 ?_
  show Go p.tables e below (P0 Z p0 p1 p2 p3 h0 n0 s) (T8.setTop (mkF m 23 #[.val (.int p0), .val (.int p1), .val (.int p2), .val (.long p3), .second, .val (.ref b1), .unset, .unset, .unset, .unset, .unset] []))
  refine Go.back (fun t k => XS.aload X8.here hx rfl (hb hby at_23) rfl rfl  k) ?_
  show Go p.tables e below (P0 Z p0 p1 p2 p3 h0 n0 s) (T8.setTop (mkF m 25 #[.val (.int p0), .val (.int p1), .val (.int p2), .val (.long p3), .second, .val (.ref b1), .unset, .unset, .unset, .unset, .unset] [(.ref b1)]))
  refine Go.back (fun t k => XS.iconst X8.here hx rfl (hb hby at_25) k) ?_
  show Go p.tables e below (P0 Z p0 p1 p2 p3 h0 n0 s) (T8.setTop (mkF m 26 #[.val (.int p0), .val (.int p1), .val (.int p2), .val (.long p3), .second, .val (.ref b1), .unset, .unset, .unset, .unset, .unset] [(.int (2 : Int32)), (.ref b1)]))
  refine Go.back (fun t k => XS.lloadN X8.here hx rfl (hb hby at_26) rfl  k) ?_
  show Go p.tables e below (P0 Z p0 p1 p2 p3 h0 n0 s) (T8.setTop (mkF m 27 #[.val (.int p0), .val (.int p1), .val (.int p2), .val (.long p3), .second, .val (.ref b1), .unset, .unset, .unset, .unset, .unset] [(.long p3), (.int (2 : Int32)), (.ref b1)]))
  refine Go.back (fun t k => XS.bipush X8.here hx rfl (hb hby at_27) k) ?_
  show Go p.tables e below (P0 Z p0 p1 p2 p3 h0 n0 s) (T8.setTop (mkF m 29 #[.val (.int p0), .val (.int p1), .val (.int p2), .val (.long p3), .second, .val (.ref b1), .unset, .unset, .unset, .unset, .unset] [(.int (16 : Int32)), (.long p3), (.int (2 : Int32)), (.ref b1)]))
  refine Go.back (fun t k => XS.lushr X8.here hx rfl (hb hby at_29) rfl k) ?_
  show Go p.tables e below (P0 Z p0 p1 p2 p3 h0 n0 s) (T8.setTop (mkF m 30 #[.val (.int p0), .val (.int p1), .val (.int p2), .val (.long p3), .second, .val (.ref b1), .unset, .unset, .unset, .unset, .unset] [(.long (((p3).toUInt64 >>> ((16 : Int32) &&& 0x3f).toInt64.toUInt64).toInt64)), (.int (2 : Int32)), (.ref b1)]))
  refine Go.back (fun t k => XS.l2i X8.here hx rfl (hb hby at_30) rfl k) ?_
  show Go p.tables e below (P0 Z p0 p1 p2 p3 h0 n0 s) (T8.setTop (mkF m 31 #[.val (.int p0), .val (.int p1), .val (.int p2), .val (.long p3), .second, .val (.ref b1), .unset, .unset, .unset, .unset, .unset] [(.int (((((p3).toUInt64 >>> ((16 : Int32) &&& 0x3f).toInt64.toUInt64).toInt64)).toInt32)), (.int (2 : Int32)), (.ref b1)]))
  refine Go.back (fun t k => XS.i2b X8.here hx rfl (hb hby at_31) rfl k) ?_
  show Go p.tables e below (P0 Z p0 p1 p2 p3 h0 n0 s) (T8.setTop (mkF m 32 #[.val (.int p0), .val (.int p1), .val (.int p2), .val (.long p3), .second, .val (.ref b1), .unset, .unset, .unset, .unset, .unset] [(.int (((((((p3).toUInt64 >>> ((16 : Int32) &&& 0x3f).toInt64.toUInt64).toInt64)).toInt32)).toInt8.toInt32)), (.int (2 : Int32)), (.ref b1)]))
  obtain ⟨cl11, Ar11, hi11, -⟩ := F10.at (j := (2 : Int32)) (by decide) (Nat.le_of_ble_eq_true rfl)
  obtain ⟨T11, h11, X11, e11, W11, st11⟩ := stB X8 hx hZ e8 Ar11 (j := (2 : Int32)) hi11 (g := (mkF m 32 #[.val (.int p0), .val (.int p1), .val (.int p2), .val (.long p3), .second, .val (.ref b1), .unset, .unset, .unset, .unset, .unset] [(.int (((((((p3).toUInt64 >>> ((16 : Int32) &&& 0x3f).toInt64.toUInt64).toInt64)).toInt32)).toInt8.toInt32)), (.int (2 : Int32)), (.ref b1)])) rfl rfl (hb hby at_32)
  have F12 : n0 ≤ h11.size := Nat.le_trans F9 (Keep.of_wr W11).1
  have F13 : ArL Z h11 b1 .byte [(.int (nar .byte ((((p3).toInt32)).toInt8.toInt32))), (.int (nar .byte (((((((p3).toUInt64 >>> ((8 : Int32) &&& 0x3f).toInt64.toUInt64).toInt64)).toInt32)).toInt8.toInt32))), (.int (nar .byte (((((((p3).toUInt64 >>> ((16 : Int32) &&& 0x3f).toInt64.toUInt64).toInt64)).toInt32)).toInt8.toInt32))), (.int (0 : Int32)), (.int (0 : Int32)), (.int (0 : Int32))] := F10.set W11
  have N11 := Fr.snoc X11 N8 g2
  refine Go.back st11 ?_
  show Go p.tables e below (P0 Z p0 p1 p2 p3 h0 n0 s) (T11.setTop (mkF m 33 #[.val (.int p0), .val (.int p1), .val (.int p2), .val (.long p3), .second, .val (.ref b1), .unset, .unset, .unset, .unset, .unset] []))
  refine Go.back (fun t k => XS.aload X11.here hx rfl (hb hby at_33) rfl rfl  k) ?_
  show Go p.tables e below (P0 Z p0 p1 p2 p3 h0 n0 s) (T11.setTop (mkF m 35 #[.val (.int p0), .val (.int p1), .val (.int p2), .val (.long p3), .second, .val (.ref b1), .unset, .unset, .unset, .unset, .unset] [(.ref b1)]))
  refine Go.back (fun t k => XS.iconst X11.here hx rfl (hb hby at_35) k) ?_
  show Go p.tables e below (P0 Z p0 p1 p2 p3 h0 n0 s) (T11.setTop (mkF m 36 #[.val (.int p0), .val (.int p1), .val (.int p2), .val (.long p3), .second, .val (.ref b1), .unset, .unset, .unset, .unset, .unset] [(.int (3 : Int32)), (.ref b1)]))
  refine Go.back (fun t k => XS.lloadN X11.here hx rfl (hb hby at_36) rfl  k) ?_
  show Go p.tables e below (P0 Z p0 p1 p2 p3 h0 n0 s) (T11.setTop (mkF m 37 #[.val (.int p0), .val (.int p1), .val (.int p2), .val (.long p3), .second, .val (.ref b1), .unset, .unset, .unset, .unset, .unset] [(.long p3), (.int (3 : Int32)), (.ref b1)]))
  refine Go.back (fun t k => XS.bipush X11.here hx rfl (hb hby at_37) k) ?_
  show Go p.tables e below (P0 Z p0 p1 p2 p3 h0 n0 s) (T11.setTop (mkF m 39 #[.val (.int p0), .val (.int p1), .val (.int p2), .val (.long p3), .second, .val (.ref b1), .unset, .unset, .unset, .unset, .unset] [(.int (24 : Int32)), (.long p3), (.int (3 : Int32)), (.ref b1)]))
  refine Go.back (fun t k => XS.lushr X11.here hx rfl (hb hby at_39) rfl k) ?_
  show Go p.tables e below (P0 Z p0 p1 p2 p3 h0 n0 s) (T11.setTop (mkF m 40 #[.val (.int p0), .val (.int p1), .val (.int p2), .val (.long p3), .second, .val (.ref b1), .unset, .unset, .unset, .unset, .unset] [(.long (((p3).toUInt64 >>> ((24 : Int32) &&& 0x3f).toInt64.toUInt64).toInt64)), (.int (3 : Int32)), (.ref b1)]))
  refine Go.back (fun t k => XS.l2i X11.here hx rfl (hb hby at_40) rfl k) ?_
  show Go p.tables e below (P0 Z p0 p1 p2 p3 h0 n0 s) (T11.setTop (mkF m 41 #[.val (.int p0), .val (.int p1), .val (.int p2), .val (.long p3), .second, .val (.ref b1), .unset, .unset, .unset, .unset, .unset] [(.int (((((p3).toUInt64 >>> ((24 : Int32) &&& 0x3f).toInt64.toUInt64).toInt64)).toInt32)), (.int (3 : Int32)), (.ref b1)]))
  refine Go.back (fun t k => XS.i2b X11.here hx rfl (hb hby at_41) rfl k) ?_
  show Go p.tables e below (P0 Z p0 p1 p2 p3 h0 n0 s) (T11.setTop (mkF m 42 #[.val (.int p0), .val (.int p1), .val (.int p2), .val (.long p3), .second, .val (.ref b1), .unset, .unset, .unset, .unset, .unset] [(.int (((((((p3).toUInt64 >>> ((24 : Int32) &&& 0x3f).toInt64.toUInt64).toInt64)).toInt32)).toInt8.toInt32)), (.int (3 : Int32)), (.ref b1)]))
  obtain ⟨cl14, Ar14, hi14, -⟩ := F13.at (j := (3 : Int32)) (by decide) (Nat.le_of_ble_eq_true rfl)
  obtain ⟨T14, h14, X14, e14, W14, st14⟩ := stB X11 hx hZ e11 Ar14 (j := (3 : Int32)) hi14 (g := (mkF m 42 #[.val (.int p0), .val (.int p1), .val (.int p2), .val (.long p3), .second, .val (.ref b1), .unset, .unset, .unset, .unset, .unset] [(.int (((((((p3).toUInt64 >>> ((24 : Int32) &&& 0x3f).toInt64.toUInt64).toInt64)).toInt32)).toInt8.toInt32)), (.int (3 : Int32)), (.ref b1)])) rfl rfl (hb hby at_42)
  have F15 : n0 ≤ h14.size := Nat.le_trans F12 (Keep.of_wr W14).1
  have F16 : ArL Z h14 b1 .byte [(.int (nar .byte ((((p3).toInt32)).toInt8.toInt32))), (.int (nar .byte (((((((p3).toUInt64 >>> ((8 : Int32) &&& 0x3f).toInt64.toUInt64).toInt64)).toInt32)).toInt8.toInt32))), (.int (nar .byte (((((((p3).toUInt64 >>> ((16 : Int32) &&& 0x3f).toInt64.toUInt64).toInt64)).toInt32)).toInt8.toInt32))), (.int (nar .byte (((((((p3).toUInt64 >>> ((24 : Int32) &&& 0x3f).toInt64.toUInt64).toInt64)).toInt32)).toInt8.toInt32))), (.int (0 : Int32)), (.int (0 : Int32))] := F13.set W14
  have N14 := Fr.snoc X14 N11 g2
  refine Go.back st14 ?_
  show Go p.tables e below (P0 Z p0 p1 p2 p3 h0 n0 s) (T14.setTop (mkF m 43 #[.val (.int p0), .val (.int p1), .val (.int p2), .val (.long p3), .second, .val (.ref b1), .unset, .unset, .unset, .unset, .unset] []))
  refine Go.back (fun t k => XS.aload X14.here hx rfl (hb hby at_43) rfl rfl  k) ?_
  show Go p.tables e below (P0 Z p0 p1 p2 p3 h0 n0 s) (T14.setTop (mkF m 45 #[.val (.int p0), .val (.int p1), .val (.int p2), .val (.long p3), .second, .val (.ref b1), .unset, .unset, .unset, .unset, .unset] [(.ref b1)]))
  refine Go.back (fun t k => XS.iconst X14.here hx rfl (hb hby at_45) k) ?_
  show Go p.tables e below (P0 Z p0 p1 p2 p3 h0 n0 s) (T14.setTop (mkF m 46 #[.val (.int p0), .val (.int p1), .val (.int p2), .val (.long p3), .second, .val (.ref b1), .unset, .unset, .unset, .unset, .unset] [(.int (4 : Int32)), (.ref b1)]))
  refine Go.back (fun t k => XS.lloadN X14.here hx rfl (hb hby at_46) rfl  k) ?_
  show Go p.tables e below (P0 Z p0 p1 p2 p3 h0 n0 s) (T14.setTop (mkF m 47 #[.val (.int p0), .val (.int p1), .val (.int p2), .val (.long p3), .second, .val (.ref b1), .unset, .unset, .unset, .unset, .unset] [(.long p3), (.int (4 : Int32)), (.ref b1)]))
  refine Go.back (fun t k => XS.bipush X14.here hx rfl (hb hby at_47) k) ?_
  show Go p.tables e below (P0 Z p0 p1 p2 p3 h0 n0 s) (T14.setTop (mkF m 49 #[.val (.int p0), .val (.int p1), .val (.int p2), .val (.long p3), .second, .val (.ref b1), .unset, .unset, .unset, .unset, .unset] [(.int (32 : Int32)), (.long p3), (.int (4 : Int32)), (.ref b1)]))
  refine Go.back (fun t k => XS.lushr X14.here hx rfl (hb hby at_49) rfl k) ?_
  show Go p.tables e below (P0 Z p0 p1 p2 p3 h0 n0 s) (T14.setTop (mkF m 50 #[.val (.int p0), .val (.int p1), .val (.int p2), .val (.long p3), .second, .val (.ref b1), .unset, .unset, .unset, .unset, .unset] [(.long (((p3).toUInt64 >>> ((32 : Int32) &&& 0x3f).toInt64.toUInt64).toInt64)), (.int (4 : Int32)), (.ref b1)]))
  refine Go.back (fun t k => XS.l2i X14.here hx rfl (hb hby at_50) rfl k) ?_
  show Go p.tables e below (P0 Z p0 p1 p2 p3 h0 n0 s) (T14.setTop (mkF m 51 #[.val (.int p0), .val (.int p1), .val (.int p2), .val (.long p3), .second, .val (.ref b1), .unset, .unset, .unset, .unset, .unset] [(.int (((((p3).toUInt64 >>> ((32 : Int32) &&& 0x3f).toInt64.toUInt64).toInt64)).toInt32)), (.int (4 : Int32)), (.ref b1)]))
  refine Go.back (fun t k => XS.i2b X14.here hx rfl (hb hby at_51) rfl k) ?_
  show Go p.tables e below (P0 Z p0 p1 p2 p3 h0 n0 s) (T14.setTop (mkF m 52 #[.val (.int p0), .val (.int p1), .val (.int p2), .val (.long p3), .second, .val (.ref b1), .unset, .unset, .unset, .unset, .unset] [(.int (((((((p3).toUInt64 >>> ((32 : Int32) &&& 0x3f).toInt64.toUInt64).toInt64)).toInt32)).toInt8.toInt32)), (.int (4 : Int32)), (.ref b1)]))
  obtain ⟨cl17, Ar17, hi17, -⟩ := F16.at (j := (4 : Int32)) (by decide) (Nat.le_of_ble_eq_true rfl)
  obtain ⟨T17, h17, X17, e17, W17, st17⟩ := stB X14 hx hZ e14 Ar17 (j := (4 : Int32)) hi17 (g := (mkF m 52 #[.val (.int p0), .val (.int p1), .val (.int p2), .val (.long p3), .second, .val (.ref b1), .unset, .unset, .unset, .unset, .unset] [(.int (((((((p3).toUInt64 >>> ((32 : Int32) &&& 0x3f).toInt64.toUInt64).toInt64)).toInt32)).toInt8.toInt32)), (.int (4 : Int32)), (.ref b1)])) rfl rfl (hb hby at_52)
  have F18 : n0 ≤ h17.size := Nat.le_trans F15 (Keep.of_wr W17).1
  have F19 : ArL Z h17 b1 .byte [(.int (nar .byte ((((p3).toInt32)).toInt8.toInt32))), (.int (nar .byte (((((((p3).toUInt64 >>> ((8 : Int32) &&& 0x3f).toInt64.toUInt64).toInt64)).toInt32)).toInt8.toInt32))), (.int (nar .byte (((((((p3).toUInt64 >>> ((16 : Int32) &&& 0x3f).toInt64.toUInt64).toInt64)).toInt32)).toInt8.toInt32))), (.int (nar .byte (((((((p3).toUInt64 >>> ((24 : Int32) &&& 0x3f).toInt64.toUInt64).toInt64)).toInt32)).toInt8.toInt32))), (.int (nar .byte (((((((p3).toUInt64 >>> ((32 : Int32) &&& 0x3f).toInt64.toUInt64).toInt64)).toInt32)).toInt8.toInt32))), (.int (0 : Int32))] := F16.set W17
  have N17 := Fr.snoc X17 N14 g2
  refine Go.back st17 ?_
  show Go p.tables e below (P0 Z p0 p1 p2 p3 h0 n0 s) (T17.setTop (mkF m 53 #[.val (.int p0), .val (.int p1), .val (.int p2), .val (.long p3), .second, .val (.ref b1), .unset, .unset, .unset, .unset, .unset] []))
  refine Go.back (fun t k => XS.aload X17.here hx rfl (hb hby at_53) rfl rfl  k) ?_
  show Go p.tables e below (P0 Z p0 p1 p2 p3 h0 n0 s) (T17.setTop (mkF m 55 #[.val (.int p0), .val (.int p1), .val (.int p2), .val (.long p3), .second, .val (.ref b1), .unset, .unset, .unset, .unset, .unset] [(.ref b1)]))
  refine Go.back (fun t k => XS.iconst X17.here hx rfl (hb hby at_55) k) ?_
  show Go p.tables e below (P0 Z p0 p1 p2 p3 h0 n0 s) (T17.setTop (mkF m 56 #[.val (.int p0), .val (.int p1), .val (.int p2), .val (.long p3), .second, .val (.ref b1), .unset, .unset, .unset, .unset, .unset] [(.int (5 : Int32)), (.ref b1)]))
  refine Go.back (fun t k => XS.lloadN X17.here hx rfl (hb hby at_56) rfl  k) ?_
  show Go p.tables e below (P0 Z p0 p1 p2 p3 h0 n0 s) (T17.setTop (mkF m 57 #[.val (.int p0), .val (.int p1), .val (.int p2), .val (.long p3), .second, .val (.ref b1), .unset, .unset, .unset, .unset, .unset] [(.long p3), (.int (5 : Int32)), (.ref b1)]))
  refine Go.back (fun t k => XS.bipush X17.here hx rfl (hb hby at_57) k) ?_
  show Go p.tables e below (P0 Z p0 p1 p2 p3 h0 n0 s) (T17.setTop (mkF m 59 #[.val (.int p0), .val (.int p1), .val (.int p2), .val (.long p3), .second, .val (.ref b1), .unset, .unset, .unset, .unset, .unset] [(.int (40 : Int32)), (.long p3), (.int (5 : Int32)), (.ref b1)]))
  refine Go.back (fun t k => XS.lushr X17.here hx rfl (hb hby at_59) rfl k) ?_
  show Go p.tables e below (P0 Z p0 p1 p2 p3 h0 n0 s) (T17.setTop (mkF m 60 #[.val (.int p0), .val (.int p1), .val (.int p2), .val (.long p3), .second, .val (.ref b1), .unset, .unset, .unset, .unset, .unset] [(.long (((p3).toUInt64 >>> ((40 : Int32) &&& 0x3f).toInt64.toUInt64).toInt64)), (.int (5 : Int32)), (.ref b1)]))
  refine Go.back (fun t k => XS.l2i X17.here hx rfl (hb hby at_60) rfl k) ?_
  show Go p.tables e below (P0 Z p0 p1 p2 p3 h0 n0 s) (T17.setTop (mkF m 61 #[.val (.int p0), .val (.int p1), .val (.int p2), .val (.long p3), .second, .val (.ref b1), .unset, .unset, .unset, .unset, .unset] [(.int (((((p3).toUInt64 >>> ((40 : Int32) &&& 0x3f).toInt64.toUInt64).toInt64)).toInt32)), (.int (5 : Int32)), (.ref b1)]))
  refine Go.back (fun t k => XS.i2b X17.here hx rfl (hb hby at_61) rfl k) ?_
  show Go p.tables e below (P0 Z p0 p1 p2 p3 h0 n0 s) (T17.setTop (mkF m 62 #[.val (.int p0), .val (.int p1), .val (.int p2), .val (.long p3), .second, .val (.ref b1), .unset, .unset, .unset, .unset, .unset] [(.int (((((((p3).toUInt64 >>> ((40 : Int32) &&& 0x3f).toInt64.toUInt64).toInt64)).toInt32)).toInt8.toInt32)), (.int (5 : Int32)), (.ref b1)]))
  obtain ⟨cl20, Ar20, hi20, -⟩ := F19.at (j := (5 : Int32)) (by decide) (Nat.le_of_ble_eq_true rfl)
  obtain ⟨T20, h20, X20, e20, W20, st20⟩ := stB X17 hx hZ e17 Ar20 (j := (5 : Int32)) hi20 (g := (mkF m 62 #[.val (.int p0), .val (.int p1), .val (.int p2), .val (.long p3), .second, .val (.ref b1), .unset, .unset, .unset, .unset, .unset] [(.int (((((((p3).toUInt64 >>> ((40 : Int32) &&& 0x3f).toInt64.toUInt64).toInt64)).toInt32)).toInt8.toInt32)), (.int (5 : Int32)), (.ref b1)])) rfl rfl (hb hby at_62)
  have F21 : n0 ≤ h20.size := Nat.le_trans F18 (Keep.of_wr W20).1
  have F22 : ArL Z h20 b1 .byte [(.int (nar .byte ((((p3).toInt32)).toInt8.toInt32))), (.int (nar .byte (((((((p3).toUInt64 >>> ((8 : Int32) &&& 0x3f).toInt64.toUInt64).toInt64)).toInt32)).toInt8.toInt32))), (.int (nar .byte (((((((p3).toUInt64 >>> ((16 : Int32) &&& 0x3f).toInt64.toUInt64).toInt64)).toInt32)).toInt8.toInt32))), (.int (nar .byte (((((((p3).toUInt64 >>> ((24 : Int32) &&& 0x3f).toInt64.toUInt64).toInt64)).toInt32)).toInt8.toInt32))), (.int (nar .byte (((((((p3).toUInt64 >>> ((32 : Int32) &&& 0x3f).toInt64.toUInt64).toInt64)).toInt32)).toInt8.toInt32))), (.int (nar .byte (((((((p3).toUInt64 >>> ((40 : Int32) &&& 0x3f).toInt64.toUInt64).toInt64)).toInt32)).toInt8.toInt32)))] := F19.set W20
  have N20 := Fr.snoc X20 N17 g2
  refine Go.back st20 ?_
  show Go p.tables e below (P0 Z p0 p1 p2 p3 h0 n0 s) (T20.setTop (mkF m 63 #[.val (.int p0), .val (.int p1), .val (.int p2), .val (.long p3), .second, .val (.ref b1), .unset, .unset, .unset, .unset, .unset] []))
  have J23 : ∀ (z24 : List Int32) (hz24 : z24 = [(nar .byte ((((p3).toInt32)).toInt8.toInt32)), (nar .byte (((((((p3).toUInt64 >>> ((8 : Int32) &&& 0x3f).toInt64.toUInt64).toInt64)).toInt32)).toInt8.toInt32)), (nar .byte (((((((p3).toUInt64 >>> ((16 : Int32) &&& 0x3f).toInt64.toUInt64).toInt64)).toInt32)).toInt8.toInt32)), (nar .byte (((((((p3).toUInt64 >>> ((24 : Int32) &&& 0x3f).toInt64.toUInt64).toInt64)).toInt32)).toInt8.toInt32)), (nar .byte (((((((p3).toUInt64 >>> ((32 : Int32) &&& 0x3f).toInt64.toUInt64).toInt64)).toInt32)).toInt8.toInt32)), (nar .byte (((((((p3).toUInt64 >>> ((40 : Int32) &&& 0x3f).toInt64.toUInt64).toInt64)).toInt32)).toInt8.toInt32))]) (F25 : ArL Z h20 b1 .byte (List.map Value.int z24)), Go p.tables e below (P0 Z p0 p1 p2 p3 h0 n0 s) (T20.setTop (mkF m 63 #[.val (.int p0), .val (.int p1), .val (.int p2), .val (.long p3), .second, .val (.ref b1), .unset, .unset, .unset, .unset, .unset] [])) := by
    intro z24 hz24 F25
    have r26 : f0 p0 p1 p2 p3 = (let z28 : Int32 := ((p0 &&& (2147483647 : Int32)) % (6 : Int32)); (let z31 : Int32 := (z28 + ((p1 &&& (2147483647 : Int32)) % ((7 : Int32) - z28))); (let z35 : Bool := (if (p2 &&& (1 : Int32)) = (0 : Int32) then false else true); (let z39 : Bool := (if (p2 &&& (2 : Int32)) = (0 : Int32) then false else true); (let z49 : List Int32 := (if (z28 + (1 : Int32)) < (6 : Int32) then (List.set (List.set z24 (z28).toNatClampNeg (nar .byte (f1 (List.getD z24 (z28).toNatClampNeg (0 : Int32)) z35 (48 : Int32)))) ((z28 + (1 : Int32))).toNatClampNeg (nar .byte (f1 (List.getD (List.set z24 (z28).toNatClampNeg (nar .byte (f1 (List.getD z24 (z28).toNatClampNeg (0 : Int32)) z35 (48 : Int32)))) ((z28 + (1 : Int32))).toNatClampNeg (0 : Int32)) z39 (120 : Int32)))) else (List.set z24 (z28).toNatClampNeg (nar .byte (f1 (List.getD z24 (z28).toNatClampNeg (0 : Int32)) z35 (48 : Int32))))); (let z56 : Bool := (if (z31 - z28) < (2 : Int32) then false else (if z35 = true then (if z39 = true then true else false) else false)); (let z61 : Bool := (if (f2 z28 z31 z49) = z56 then true else false); z61))))))) := by subst hz24; exact hf0
    show Go p.tables e below (P0 Z p0 p1 p2 p3 h0 n0 s) (T20.setTop (mkF m 63 #[.val (.int p0), .val (.int p1), .val (.int p2), .val (.long p3), .second, .val (.ref b1), .unset, .unset, .unset, .unset, .unset] []))
    refine Go.back (fun t k => XS.iloadN X20.here hx rfl (hb hby at_63) rfl  k) ?_
    show Go p.tables e below (P0 Z p0 p1 p2 p3 h0 n0 s) (T20.setTop (mkF m 64 #[.val (.int p0), .val (.int p1), .val (.int p2), .val (.long p3), .second, .val (.ref b1), .unset, .unset, .unset, .unset, .unset] [(.int p0)]))
    refine Go.back (fun t k => X20.ldcInt hx hown (mvT hZ (hw _ (List.mem_of_getElem? (i := 1) rfl))) (g := (mkF m 64 #[.val (.int p0), .val (.int p1), .val (.int p2), .val (.long p3), .second, .val (.ref b1), .unset, .unset, .unset, .unset, .unset] [(.int p0)])) rfl (hb hby at_64) t k) ?_
    show Go p.tables e below (P0 Z p0 p1 p2 p3 h0 n0 s) (T20.setTop (mkF m 66 #[.val (.int p0), .val (.int p1), .val (.int p2), .val (.long p3), .second, .val (.ref b1), .unset, .unset, .unset, .unset, .unset] [(.int (2147483647 : Int32)), (.int p0)]))
    refine Go.back (fun t k => XS.iand X20.here hx rfl (hb hby at_66) rfl k) ?_
    show Go p.tables e below (P0 Z p0 p1 p2 p3 h0 n0 s) (T20.setTop (mkF m 67 #[.val (.int p0), .val (.int p1), .val (.int p2), .val (.long p3), .second, .val (.ref b1), .unset, .unset, .unset, .unset, .unset] [(.int (p0 &&& (2147483647 : Int32)))]))
    refine Go.back (fun t k => XS.bipush X20.here hx rfl (hb hby at_67) k) ?_
    show Go p.tables e below (P0 Z p0 p1 p2 p3 h0 n0 s) (T20.setTop (mkF m 69 #[.val (.int p0), .val (.int p1), .val (.int p2), .val (.long p3), .second, .val (.ref b1), .unset, .unset, .unset, .unset, .unset] [(.int (6 : Int32)), (.int (p0 &&& (2147483647 : Int32)))]))
    refine Go.back (fun t k => iremM X20 hx rfl (hb hby at_69) rfl (by decide) k) ?_
    show Go p.tables e below (P0 Z p0 p1 p2 p3 h0 n0 s) (T20.setTop (mkF m 70 #[.val (.int p0), .val (.int p1), .val (.int p2), .val (.long p3), .second, .val (.ref b1), .unset, .unset, .unset, .unset, .unset] [(.int ((p0 &&& (2147483647 : Int32)) % (6 : Int32)))]))
    refine Go.back (fun t k => XS.istore X20.here hx rfl (hb hby at_70) rfl (l' := #[.val (.int p0), .val (.int p1), .val (.int p2), .val (.long p3), .second, .val (.ref b1), .val (.int ((p0 &&& (2147483647 : Int32)) % (6 : Int32))), .unset, .unset, .unset, .unset]) rfl k) ?_
    show Go p.tables e below (P0 Z p0 p1 p2 p3 h0 n0 s) (T20.setTop (mkF m 72 #[.val (.int p0), .val (.int p1), .val (.int p2), .val (.long p3), .second, .val (.ref b1), .val (.int ((p0 &&& (2147483647 : Int32)) % (6 : Int32))), .unset, .unset, .unset, .unset] []))
    have J27 : ∀ (z28 : Int32) (hz28 : z28 = ((p0 &&& (2147483647 : Int32)) % (6 : Int32))), Go p.tables e below (P0 Z p0 p1 p2 p3 h0 n0 s) (T20.setTop (mkF m 72 #[.val (.int p0), .val (.int p1), .val (.int p2), .val (.long p3), .second, .val (.ref b1), .val (.int z28), .unset, .unset, .unset, .unset] [])) := by
      intro z28 hz28
      have r29 : f0 p0 p1 p2 p3 = (let z31 : Int32 := (z28 + ((p1 &&& (2147483647 : Int32)) % ((7 : Int32) - z28))); (let z35 : Bool := (if (p2 &&& (1 : Int32)) = (0 : Int32) then false else true); (let z39 : Bool := (if (p2 &&& (2 : Int32)) = (0 : Int32) then false else true); (let z49 : List Int32 := (if (z28 + (1 : Int32)) < (6 : Int32) then (List.set (List.set z24 (z28).toNatClampNeg (nar .byte (f1 (List.getD z24 (z28).toNatClampNeg (0 : Int32)) z35 (48 : Int32)))) ((z28 + (1 : Int32))).toNatClampNeg (nar .byte (f1 (List.getD (List.set z24 (z28).toNatClampNeg (nar .byte (f1 (List.getD z24 (z28).toNatClampNeg (0 : Int32)) z35 (48 : Int32)))) ((z28 + (1 : Int32))).toNatClampNeg (0 : Int32)) z39 (120 : Int32)))) else (List.set z24 (z28).toNatClampNeg (nar .byte (f1 (List.getD z24 (z28).toNatClampNeg (0 : Int32)) z35 (48 : Int32))))); (let z56 : Bool := (if (z31 - z28) < (2 : Int32) then false else (if z35 = true then (if z39 = true then true else false) else false)); (let z61 : Bool := (if (f2 z28 z31 z49) = z56 then true else false); z61)))))) := by subst hz28; exact r26
      show Go p.tables e below (P0 Z p0 p1 p2 p3 h0 n0 s) (T20.setTop (mkF m 72 #[.val (.int p0), .val (.int p1), .val (.int p2), .val (.long p3), .second, .val (.ref b1), .val (.int z28), .unset, .unset, .unset, .unset] []))
      refine Go.back (fun t k => XS.iload X20.here hx rfl (hb hby at_72) rfl  k) ?_
      show Go p.tables e below (P0 Z p0 p1 p2 p3 h0 n0 s) (T20.setTop (mkF m 74 #[.val (.int p0), .val (.int p1), .val (.int p2), .val (.long p3), .second, .val (.ref b1), .val (.int z28), .unset, .unset, .unset, .unset] [(.int z28)]))
      refine Go.back (fun t k => XS.iloadN X20.here hx rfl (hb hby at_74) rfl  k) ?_
      show Go p.tables e below (P0 Z p0 p1 p2 p3 h0 n0 s) (T20.setTop (mkF m 75 #[.val (.int p0), .val (.int p1), .val (.int p2), .val (.long p3), .second, .val (.ref b1), .val (.int z28), .unset, .unset, .unset, .unset] [(.int p1), (.int z28)]))
      refine Go.back (fun t k => X20.ldcInt hx hown (mvT hZ (hw _ (List.mem_of_getElem? (i := 1) rfl))) (g := (mkF m 75 #[.val (.int p0), .val (.int p1), .val (.int p2), .val (.long p3), .second, .val (.ref b1), .val (.int z28), .unset, .unset, .unset, .unset] [(.int p1), (.int z28)])) rfl (hb hby at_75) t k) ?_
      show Go p.tables e below (P0 Z p0 p1 p2 p3 h0 n0 s) (T20.setTop (mkF m 77 #[.val (.int p0), .val (.int p1), .val (.int p2), .val (.long p3), .second, .val (.ref b1), .val (.int z28), .unset, .unset, .unset, .unset] [(.int (2147483647 : Int32)), (.int p1), (.int z28)]))
      refine Go.back (fun t k => XS.iand X20.here hx rfl (hb hby at_77) rfl k) ?_
      show Go p.tables e below (P0 Z p0 p1 p2 p3 h0 n0 s) (T20.setTop (mkF m 78 #[.val (.int p0), .val (.int p1), .val (.int p2), .val (.long p3), .second, .val (.ref b1), .val (.int z28), .unset, .unset, .unset, .unset] [(.int (p1 &&& (2147483647 : Int32))), (.int z28)]))
      refine Go.back (fun t k => XS.bipush X20.here hx rfl (hb hby at_78) k) ?_
      show Go p.tables e below (P0 Z p0 p1 p2 p3 h0 n0 s) (T20.setTop (mkF m 80 #[.val (.int p0), .val (.int p1), .val (.int p2), .val (.long p3), .second, .val (.ref b1), .val (.int z28), .unset, .unset, .unset, .unset] [(.int (7 : Int32)), (.int (p1 &&& (2147483647 : Int32))), (.int z28)]))
      refine Go.back (fun t k => XS.iload X20.here hx rfl (hb hby at_80) rfl  k) ?_
      show Go p.tables e below (P0 Z p0 p1 p2 p3 h0 n0 s) (T20.setTop (mkF m 82 #[.val (.int p0), .val (.int p1), .val (.int p2), .val (.long p3), .second, .val (.ref b1), .val (.int z28), .unset, .unset, .unset, .unset] [(.int z28), (.int (7 : Int32)), (.int (p1 &&& (2147483647 : Int32))), (.int z28)]))
      refine Go.back (fun t k => XS.isub X20.here hx rfl (hb hby at_82) rfl k) ?_
      show Go p.tables e below (P0 Z p0 p1 p2 p3 h0 n0 s) (T20.setTop (mkF m 83 #[.val (.int p0), .val (.int p1), .val (.int p2), .val (.long p3), .second, .val (.ref b1), .val (.int z28), .unset, .unset, .unset, .unset] [(.int ((7 : Int32) - z28)), (.int (p1 &&& (2147483647 : Int32))), (.int z28)]))
      refine Go.back (fun t k => iremM X20 hx rfl (hb hby at_83) rfl (own_seven (by rw [hz28]; exact own_from _)) k) ?_
      show Go p.tables e below (P0 Z p0 p1 p2 p3 h0 n0 s) (T20.setTop (mkF m 84 #[.val (.int p0), .val (.int p1), .val (.int p2), .val (.long p3), .second, .val (.ref b1), .val (.int z28), .unset, .unset, .unset, .unset] [(.int ((p1 &&& (2147483647 : Int32)) % ((7 : Int32) - z28))), (.int z28)]))
      refine Go.back (fun t k => XS.iadd X20.here hx rfl (hb hby at_84) rfl k) ?_
      show Go p.tables e below (P0 Z p0 p1 p2 p3 h0 n0 s) (T20.setTop (mkF m 85 #[.val (.int p0), .val (.int p1), .val (.int p2), .val (.long p3), .second, .val (.ref b1), .val (.int z28), .unset, .unset, .unset, .unset] [(.int (z28 + ((p1 &&& (2147483647 : Int32)) % ((7 : Int32) - z28))))]))
      refine Go.back (fun t k => XS.istore X20.here hx rfl (hb hby at_85) rfl (l' := #[.val (.int p0), .val (.int p1), .val (.int p2), .val (.long p3), .second, .val (.ref b1), .val (.int z28), .val (.int (z28 + ((p1 &&& (2147483647 : Int32)) % ((7 : Int32) - z28)))), .unset, .unset, .unset]) rfl k) ?_
      show Go p.tables e below (P0 Z p0 p1 p2 p3 h0 n0 s) (T20.setTop (mkF m 87 #[.val (.int p0), .val (.int p1), .val (.int p2), .val (.long p3), .second, .val (.ref b1), .val (.int z28), .val (.int (z28 + ((p1 &&& (2147483647 : Int32)) % ((7 : Int32) - z28)))), .unset, .unset, .unset] []))
      have J30 : ∀ (z31 : Int32) (hz31 : z31 = (z28 + ((p1 &&& (2147483647 : Int32)) % ((7 : Int32) - z28)))), Go p.tables e below (P0 Z p0 p1 p2 p3 h0 n0 s) (T20.setTop (mkF m 87 #[.val (.int p0), .val (.int p1), .val (.int p2), .val (.long p3), .second, .val (.ref b1), .val (.int z28), .val (.int z31), .unset, .unset, .unset] [])) := by
        intro z31 hz31
        have r32 : f0 p0 p1 p2 p3 = (let z35 : Bool := (if (p2 &&& (1 : Int32)) = (0 : Int32) then false else true); (let z39 : Bool := (if (p2 &&& (2 : Int32)) = (0 : Int32) then false else true); (let z49 : List Int32 := (if (z28 + (1 : Int32)) < (6 : Int32) then (List.set (List.set z24 (z28).toNatClampNeg (nar .byte (f1 (List.getD z24 (z28).toNatClampNeg (0 : Int32)) z35 (48 : Int32)))) ((z28 + (1 : Int32))).toNatClampNeg (nar .byte (f1 (List.getD (List.set z24 (z28).toNatClampNeg (nar .byte (f1 (List.getD z24 (z28).toNatClampNeg (0 : Int32)) z35 (48 : Int32)))) ((z28 + (1 : Int32))).toNatClampNeg (0 : Int32)) z39 (120 : Int32)))) else (List.set z24 (z28).toNatClampNeg (nar .byte (f1 (List.getD z24 (z28).toNatClampNeg (0 : Int32)) z35 (48 : Int32))))); (let z56 : Bool := (if (z31 - z28) < (2 : Int32) then false else (if z35 = true then (if z39 = true then true else false) else false)); (let z61 : Bool := (if (f2 z28 z31 z49) = z56 then true else false); z61))))) := by subst hz31; exact r29
        show Go p.tables e below (P0 Z p0 p1 p2 p3 h0 n0 s) (T20.setTop (mkF m 87 #[.val (.int p0), .val (.int p1), .val (.int p2), .val (.long p3), .second, .val (.ref b1), .val (.int z28), .val (.int z31), .unset, .unset, .unset] []))
        refine Go.back (fun t k => XS.iloadN X20.here hx rfl (hb hby at_87) rfl  k) ?_
        show Go p.tables e below (P0 Z p0 p1 p2 p3 h0 n0 s) (T20.setTop (mkF m 88 #[.val (.int p0), .val (.int p1), .val (.int p2), .val (.long p3), .second, .val (.ref b1), .val (.int z28), .val (.int z31), .unset, .unset, .unset] [(.int p2)]))
        refine Go.back (fun t k => XS.iconst X20.here hx rfl (hb hby at_88) k) ?_
        show Go p.tables e below (P0 Z p0 p1 p2 p3 h0 n0 s) (T20.setTop (mkF m 89 #[.val (.int p0), .val (.int p1), .val (.int p2), .val (.long p3), .second, .val (.ref b1), .val (.int z28), .val (.int z31), .unset, .unset, .unset] [(.int (1 : Int32)), (.int p2)]))
        refine Go.back (fun t k => XS.iand X20.here hx rfl (hb hby at_89) rfl k) ?_
        show Go p.tables e below (P0 Z p0 p1 p2 p3 h0 n0 s) (T20.setTop (mkF m 90 #[.val (.int p0), .val (.int p1), .val (.int p2), .val (.long p3), .second, .val (.ref b1), .val (.int z28), .val (.int z31), .unset, .unset, .unset] [(.int (p2 &&& (1 : Int32)))]))
        have J34 : ∀ (z35 : Bool) (hz35 : z35 = (if (p2 &&& (1 : Int32)) = (0 : Int32) then false else true)), Go p.tables e below (P0 Z p0 p1 p2 p3 h0 n0 s) (T20.setTop (mkF m 98 #[.val (.int p0), .val (.int p1), .val (.int p2), .val (.long p3), .second, .val (.ref b1), .val (.int z28), .val (.int z31), .unset, .unset, .unset] [(.int (b2i z35))])) := by
          intro z35 hz35
          have r36 : f0 p0 p1 p2 p3 = (let z39 : Bool := (if (p2 &&& (2 : Int32)) = (0 : Int32) then false else true); (let z49 : List Int32 := (if (z28 + (1 : Int32)) < (6 : Int32) then (List.set (List.set z24 (z28).toNatClampNeg (nar .byte (f1 (List.getD z24 (z28).toNatClampNeg (0 : Int32)) z35 (48 : Int32)))) ((z28 + (1 : Int32))).toNatClampNeg (nar .byte (f1 (List.getD (List.set z24 (z28).toNatClampNeg (nar .byte (f1 (List.getD z24 (z28).toNatClampNeg (0 : Int32)) z35 (48 : Int32)))) ((z28 + (1 : Int32))).toNatClampNeg (0 : Int32)) z39 (120 : Int32)))) else (List.set z24 (z28).toNatClampNeg (nar .byte (f1 (List.getD z24 (z28).toNatClampNeg (0 : Int32)) z35 (48 : Int32))))); (let z56 : Bool := (if (z31 - z28) < (2 : Int32) then false else (if z35 = true then (if z39 = true then true else false) else false)); (let z61 : Bool := (if (f2 z28 z31 z49) = z56 then true else false); z61)))) := by subst hz35; exact r32
          show Go p.tables e below (P0 Z p0 p1 p2 p3 h0 n0 s) (T20.setTop (mkF m 98 #[.val (.int p0), .val (.int p1), .val (.int p2), .val (.long p3), .second, .val (.ref b1), .val (.int z28), .val (.int z31), .unset, .unset, .unset] [(.int (b2i z35))]))
          refine Go.back (fun t k => XS.istore X20.here hx rfl (hb hby at_98) rfl (l' := #[.val (.int p0), .val (.int p1), .val (.int p2), .val (.long p3), .second, .val (.ref b1), .val (.int z28), .val (.int z31), .val (.int (b2i z35)), .unset, .unset]) rfl k) ?_
          show Go p.tables e below (P0 Z p0 p1 p2 p3 h0 n0 s) (T20.setTop (mkF m 100 #[.val (.int p0), .val (.int p1), .val (.int p2), .val (.long p3), .second, .val (.ref b1), .val (.int z28), .val (.int z31), .val (.int (b2i z35)), .unset, .unset] []))
          refine Go.back (fun t k => XS.iloadN X20.here hx rfl (hb hby at_100) rfl  k) ?_
          show Go p.tables e below (P0 Z p0 p1 p2 p3 h0 n0 s) (T20.setTop (mkF m 101 #[.val (.int p0), .val (.int p1), .val (.int p2), .val (.long p3), .second, .val (.ref b1), .val (.int z28), .val (.int z31), .val (.int (b2i z35)), .unset, .unset] [(.int p2)]))
          refine Go.back (fun t k => XS.iconst X20.here hx rfl (hb hby at_101) k) ?_
          show Go p.tables e below (P0 Z p0 p1 p2 p3 h0 n0 s) (T20.setTop (mkF m 102 #[.val (.int p0), .val (.int p1), .val (.int p2), .val (.long p3), .second, .val (.ref b1), .val (.int z28), .val (.int z31), .val (.int (b2i z35)), .unset, .unset] [(.int (2 : Int32)), (.int p2)]))
          refine Go.back (fun t k => XS.iand X20.here hx rfl (hb hby at_102) rfl k) ?_
          show Go p.tables e below (P0 Z p0 p1 p2 p3 h0 n0 s) (T20.setTop (mkF m 103 #[.val (.int p0), .val (.int p1), .val (.int p2), .val (.long p3), .second, .val (.ref b1), .val (.int z28), .val (.int z31), .val (.int (b2i z35)), .unset, .unset] [(.int (p2 &&& (2 : Int32)))]))
          have J38 : ∀ (z39 : Bool) (hz39 : z39 = (if (p2 &&& (2 : Int32)) = (0 : Int32) then false else true)), Go p.tables e below (P0 Z p0 p1 p2 p3 h0 n0 s) (T20.setTop (mkF m 111 #[.val (.int p0), .val (.int p1), .val (.int p2), .val (.long p3), .second, .val (.ref b1), .val (.int z28), .val (.int z31), .val (.int (b2i z35)), .unset, .unset] [(.int (b2i z39))])) := by
            intro z39 hz39
            have r40 : f0 p0 p1 p2 p3 = (let z49 : List Int32 := (if (z28 + (1 : Int32)) < (6 : Int32) then (List.set (List.set z24 (z28).toNatClampNeg (nar .byte (f1 (List.getD z24 (z28).toNatClampNeg (0 : Int32)) z35 (48 : Int32)))) ((z28 + (1 : Int32))).toNatClampNeg (nar .byte (f1 (List.getD (List.set z24 (z28).toNatClampNeg (nar .byte (f1 (List.getD z24 (z28).toNatClampNeg (0 : Int32)) z35 (48 : Int32)))) ((z28 + (1 : Int32))).toNatClampNeg (0 : Int32)) z39 (120 : Int32)))) else (List.set z24 (z28).toNatClampNeg (nar .byte (f1 (List.getD z24 (z28).toNatClampNeg (0 : Int32)) z35 (48 : Int32))))); (let z56 : Bool := (if (z31 - z28) < (2 : Int32) then false else (if z35 = true then (if z39 = true then true else false) else false)); (let z61 : Bool := (if (f2 z28 z31 z49) = z56 then true else false); z61))) := by subst hz39; exact r36
            show Go p.tables e below (P0 Z p0 p1 p2 p3 h0 n0 s) (T20.setTop (mkF m 111 #[.val (.int p0), .val (.int p1), .val (.int p2), .val (.long p3), .second, .val (.ref b1), .val (.int z28), .val (.int z31), .val (.int (b2i z35)), .unset, .unset] [(.int (b2i z39))]))
            refine Go.back (fun t k => XS.istore X20.here hx rfl (hb hby at_111) rfl (l' := #[.val (.int p0), .val (.int p1), .val (.int p2), .val (.long p3), .second, .val (.ref b1), .val (.int z28), .val (.int z31), .val (.int (b2i z35)), .val (.int (b2i z39)), .unset]) rfl k) ?_
            show Go p.tables e below (P0 Z p0 p1 p2 p3 h0 n0 s) (T20.setTop (mkF m 113 #[.val (.int p0), .val (.int p1), .val (.int p2), .val (.long p3), .second, .val (.ref b1), .val (.int z28), .val (.int z31), .val (.int (b2i z35)), .val (.int (b2i z39)), .unset] []))
            refine Go.back (fun t k => XS.aload X20.here hx rfl (hb hby at_113) rfl rfl  k) ?_
            show Go p.tables e below (P0 Z p0 p1 p2 p3 h0 n0 s) (T20.setTop (mkF m 115 #[.val (.int p0), .val (.int p1), .val (.int p2), .val (.long p3), .second, .val (.ref b1), .val (.int z28), .val (.int z31), .val (.int (b2i z35)), .val (.int (b2i z39)), .unset] [(.ref b1)]))
            refine Go.back (fun t k => XS.iload X20.here hx rfl (hb hby at_115) rfl  k) ?_
            show Go p.tables e below (P0 Z p0 p1 p2 p3 h0 n0 s) (T20.setTop (mkF m 117 #[.val (.int p0), .val (.int p1), .val (.int p2), .val (.long p3), .second, .val (.ref b1), .val (.int z28), .val (.int z31), .val (.int (b2i z35)), .val (.int (b2i z39)), .unset] [(.int z28), (.ref b1)]))
            refine Go.back (fun t k => XS.aload X20.here hx rfl (hb hby at_117) rfl rfl  k) ?_
            show Go p.tables e below (P0 Z p0 p1 p2 p3 h0 n0 s) (T20.setTop (mkF m 119 #[.val (.int p0), .val (.int p1), .val (.int p2), .val (.long p3), .second, .val (.ref b1), .val (.int z28), .val (.int z31), .val (.int (b2i z35)), .val (.int (b2i z39)), .unset] [(.ref b1), (.int z28), (.ref b1)]))
            refine Go.back (fun t k => XS.iload X20.here hx rfl (hb hby at_119) rfl  k) ?_
            show Go p.tables e below (P0 Z p0 p1 p2 p3 h0 n0 s) (T20.setTop (mkF m 121 #[.val (.int p0), .val (.int p1), .val (.int p2), .val (.long p3), .second, .val (.ref b1), .val (.int z28), .val (.int z31), .val (.int (b2i z35)), .val (.int (b2i z39)), .unset] [(.int z28), (.ref b1), (.int z28), (.ref b1)]))
            obtain ⟨cl41, Ar41, hi41, ha41⟩ := F25.get (j := z28) (own_nn (by rw [hz28]; exact own_from _)) (v := (.int (List.getD z24 (z28).toNatClampNeg (0 : Int32)))) (getI z24 (own_in (by rw [hz28]; exact own_from _) (by simp [hz24, apply_ite List.length])))
            refine Go.back (fun t k => X20.baloadBytes hx (j := z28) (v := (.int (List.getD z24 (z28).toNatClampNeg (0 : Int32)))) (by rw [e20]; exact Ar41.1) (State.isArrayOf_alike hZ.alike Ar41.2.1) Ar41.2.2 hi41 ha41 (g := (mkF m 121 #[.val (.int p0), .val (.int p1), .val (.int p2), .val (.long p3), .second, .val (.ref b1), .val (.int z28), .val (.int z31), .val (.int (b2i z35)), .val (.int (b2i z39)), .unset] [(.int z28), (.ref b1), (.int z28), (.ref b1)])) rfl rfl (hb hby at_121) t k) ?_
            show Go p.tables e below (P0 Z p0 p1 p2 p3 h0 n0 s) (T20.setTop (mkF m 122 #[.val (.int p0), .val (.int p1), .val (.int p2), .val (.long p3), .second, .val (.ref b1), .val (.int z28), .val (.int z31), .val (.int (b2i z35)), .val (.int (b2i z39)), .unset] [(.int (List.getD z24 (z28).toNatClampNeg (0 : Int32))), (.int z28), (.ref b1)]))
            refine Go.back (fun t k => XS.iload X20.here hx rfl (hb hby at_122) rfl  k) ?_
            show Go p.tables e below (P0 Z p0 p1 p2 p3 h0 n0 s) (T20.setTop (mkF m 124 #[.val (.int p0), .val (.int p1), .val (.int p2), .val (.long p3), .second, .val (.ref b1), .val (.int z28), .val (.int z31), .val (.int (b2i z35)), .val (.int (b2i z39)), .unset] [(.int (b2i z35)), (.int (List.getD z24 (z28).toNatClampNeg (0 : Int32))), (.int z28), (.ref b1)]))
            refine Go.back (fun t k => XS.bipush X20.here hx rfl (hb hby at_124) k) ?_
            show Go p.tables e below (P0 Z p0 p1 p2 p3 h0 n0 s) (T20.setTop (mkF m 126 #[.val (.int p0), .val (.int p1), .val (.int p2), .val (.long p3), .second, .val (.ref b1), .val (.int z28), .val (.int z31), .val (.int (b2i z35)), .val (.int (b2i z39)), .unset] [(.int (48 : Int32)), (.int (b2i z35)), (.int (List.getD z24 (z28).toNatClampNeg (0 : Int32))), (.int z28), (.ref b1)]))
            obtain ⟨_, _, ⟨T42, L42, k42, n42⟩, -, X42, ⟨Lc42, hQ42, l42, y42, z42⟩, st42⟩ := Jvm.LawKit.callS X20 hx (y := (⟨"com/example/careful_audit/carefulaudit/DataTypeIsHexPrefixPinLaw", "put", "(BZB)B"⟩ : MethodName)) hown (mvT hZ (hw _ (List.mem_of_getElem? (i := 2) rfl))) (mvT hZ (hw _ (List.mem_of_getElem? (i := 3) rfl))) (mvT hZ (hw _ (List.mem_of_getElem? (i := 4) rfl))) (mvT hZ (hw _ (List.mem_of_getElem? (i := 5) rfl))) (by decide) (backOf (W := 2) (rm1 l Z a0 hw [] (List.getD z24 (z28).toNatClampNeg (0 : Int32)) z35 (48 : Int32) h20 n0) hZ (hw _ (List.mem_of_getElem? (i := 5) rfl)) (hw _ (List.mem_of_getElem? (i := 4) rfl)) (by decide) (by decide)) (g := (mkF m 126 #[.val (.int p0), .val (.int p1), .val (.int p2), .val (.long p3), .second, .val (.ref b1), .val (.int z28), .val (.int z31), .val (.int (b2i z35)), .val (.int (b2i z39)), .unset] [(.int (48 : Int32)), (.int (b2i z35)), (.int (List.getD z24 (z28).toNatClampNeg (0 : Int32))), (.int z28), (.ref b1)])) rfl (by rw [hml]; rfl) (argsL := [(.int (List.getD z24 (z28).toNatClampNeg (0 : Int32))), (.int (b2i z35)), (.int (48 : Int32))]) (rest := [(.int z28), (.ref b1)]) (lenOf pd_0 rfl) rfl (by show 2 * 0 + _ ≤ _; exact Nat.le_of_eq rfl) (hb hby at_126) (fun _ _ => ⟨rfl, e20, (by decide : 1 + 0 ≤ _), (by decide : 6 + 0 ≤ _)⟩)
            dsimp only [Pt.U, Pt.locs, Pt.cells, Pt.slots] at X42 l42 y42 z42 st42 hQ42
            subst l42 y42 z42
            obtain ⟨rfl, N42q, e42⟩ := hQ42
            have N42 := Fr.app N20 N42q
            refine Go.back st42 ?_
            show Go p.tables e below (P0 Z p0 p1 p2 p3 h0 n0 s) (T42.setTop (mkF m 129 #[.val (.int p0), .val (.int p1), .val (.int p2), .val (.long p3), .second, .val (.ref b1), .val (.int z28), .val (.int z31), .val (.int (b2i z35)), .val (.int (b2i z39)), .unset] [(.int (f1 (List.getD z24 (z28).toNatClampNeg (0 : Int32)) z35 (48 : Int32))), (.int z28), (.ref b1)]))
            obtain ⟨cl43, Ar43, hi43, -⟩ := F25.at (j := z28) (own_nn (by rw [hz28]; exact own_from _)) (by simpa using (own_in (by rw [hz28]; exact own_from _) (by simp [hz24, apply_ite List.length])))
            obtain ⟨T43, h43, X43, e43, W43, st43⟩ := stB X42 hx hZ e42 Ar43 (j := z28) hi43 (g := (mkF m 129 #[.val (.int p0), .val (.int p1), .val (.int p2), .val (.long p3), .second, .val (.ref b1), .val (.int z28), .val (.int z31), .val (.int (b2i z35)), .val (.int (b2i z39)), .unset] [(.int (f1 (List.getD z24 (z28).toNatClampNeg (0 : Int32)) z35 (48 : Int32))), (.int z28), (.ref b1)])) rfl rfl (hb hby at_129)
            have F44 : n0 ≤ h43.size := Nat.le_trans F21 (Keep.of_wr W43).1
            have F45 : ArL Z h43 b1 .byte (List.map Value.int (List.set z24 (z28).toNatClampNeg (nar .byte (f1 (List.getD z24 (z28).toNatClampNeg (0 : Int32)) z35 (48 : Int32))))) := ArL.setI (xs := z24) F25 W43
            have N43 := Fr.snoc X43 N42 g2
            refine Go.back st43 ?_
            show Go p.tables e below (P0 Z p0 p1 p2 p3 h0 n0 s) (T43.setTop (mkF m 130 #[.val (.int p0), .val (.int p1), .val (.int p2), .val (.long p3), .second, .val (.ref b1), .val (.int z28), .val (.int z31), .val (.int (b2i z35)), .val (.int (b2i z39)), .unset] []))
            refine Go.back (fun t k => XS.iload X43.here hx rfl (hb hby at_130) rfl  k) ?_
            show Go p.tables e below (P0 Z p0 p1 p2 p3 h0 n0 s) (T43.setTop (mkF m 132 #[.val (.int p0), .val (.int p1), .val (.int p2), .val (.long p3), .second, .val (.ref b1), .val (.int z28), .val (.int z31), .val (.int (b2i z35)), .val (.int (b2i z39)), .unset] [(.int z28)]))
            refine Go.back (fun t k => XS.iconst X43.here hx rfl (hb hby at_132) k) ?_
            show Go p.tables e below (P0 Z p0 p1 p2 p3 h0 n0 s) (T43.setTop (mkF m 133 #[.val (.int p0), .val (.int p1), .val (.int p2), .val (.long p3), .second, .val (.ref b1), .val (.int z28), .val (.int z31), .val (.int (b2i z35)), .val (.int (b2i z39)), .unset] [(.int (1 : Int32)), (.int z28)]))
            refine Go.back (fun t k => XS.iadd X43.here hx rfl (hb hby at_133) rfl k) ?_
            show Go p.tables e below (P0 Z p0 p1 p2 p3 h0 n0 s) (T43.setTop (mkF m 134 #[.val (.int p0), .val (.int p1), .val (.int p2), .val (.long p3), .second, .val (.ref b1), .val (.int z28), .val (.int z31), .val (.int (b2i z35)), .val (.int (b2i z39)), .unset] [(.int (z28 + (1 : Int32)))]))
            refine Go.back (fun t k => XS.bipush X43.here hx rfl (hb hby at_134) k) ?_
            show Go p.tables e below (P0 Z p0 p1 p2 p3 h0 n0 s) (T43.setTop (mkF m 136 #[.val (.int p0), .val (.int p1), .val (.int p2), .val (.long p3), .second, .val (.ref b1), .val (.int z28), .val (.int z31), .val (.int (b2i z35)), .val (.int (b2i z39)), .unset] [(.int (6 : Int32)), (.int (z28 + (1 : Int32)))]))
            have J47 : ∀ (T52 : State) (L52 : List Loc) (X52 : Stand p l e room_1 s m #[(.int p0), (.int p1), (.int p2), (.long p3)] below meth c T52 L52 1 6) (N52 : Fr n0 L52) (h51 : Heap) (e52 : T52.heap = h51) (z49 : List Int32) (hz49 : z49 = (if (z28 + (1 : Int32)) < (6 : Int32) then (List.set (List.set z24 (z28).toNatClampNeg (nar .byte (f1 (List.getD z24 (z28).toNatClampNeg (0 : Int32)) z35 (48 : Int32)))) ((z28 + (1 : Int32))).toNatClampNeg (nar .byte (f1 (List.getD (List.set z24 (z28).toNatClampNeg (nar .byte (f1 (List.getD z24 (z28).toNatClampNeg (0 : Int32)) z35 (48 : Int32)))) ((z28 + (1 : Int32))).toNatClampNeg (0 : Int32)) z39 (120 : Int32)))) else (List.set z24 (z28).toNatClampNeg (nar .byte (f1 (List.getD z24 (z28).toNatClampNeg (0 : Int32)) z35 (48 : Int32)))))) (F48 : n0 ≤ h51.size) (F50 : ArL Z h51 b1 .byte (List.map Value.int z49)), Go p.tables e below (P0 Z p0 p1 p2 p3 h0 n0 s) (T52.setTop (mkF m 160 #[.val (.int p0), .val (.int p1), .val (.int p2), .val (.long p3), .second, .val (.ref b1), .val (.int z28), .val (.int z31), .val (.int (b2i z35)), .val (.int (b2i z39)), .unset] [])) := by
              intro T52 L52 X52 N52 h51 e52 z49 hz49 F48 F50
              have r53 : f0 p0 p1 p2 p3 = (let z56 : Bool := (if (z31 - z28) < (2 : Int32) then false else (if z35 = true then (if z39 = true then true else false) else false)); (let z61 : Bool := (if (f2 z28 z31 z49) = z56 then true else false); z61)) := by subst hz49; exact r40
              show Go p.tables e below (P0 Z p0 p1 p2 p3 h0 n0 s) (T52.setTop (mkF m 160 #[.val (.int p0), .val (.int p1), .val (.int p2), .val (.long p3), .second, .val (.ref b1), .val (.int z28), .val (.int z31), .val (.int (b2i z35)), .val (.int (b2i z39)), .unset] []))
              refine Go.back (fun t k => XS.iload X52.here hx rfl (hb hby at_160) rfl  k) ?_
              show Go p.tables e below (P0 Z p0 p1 p2 p3 h0 n0 s) (T52.setTop (mkF m 162 #[.val (.int p0), .val (.int p1), .val (.int p2), .val (.long p3), .second, .val (.ref b1), .val (.int z28), .val (.int z31), .val (.int (b2i z35)), .val (.int (b2i z39)), .unset] [(.int z31)]))
              refine Go.back (fun t k => XS.iload X52.here hx rfl (hb hby at_162) rfl  k) ?_
              show Go p.tables e below (P0 Z p0 p1 p2 p3 h0 n0 s) (T52.setTop (mkF m 164 #[.val (.int p0), .val (.int p1), .val (.int p2), .val (.long p3), .second, .val (.ref b1), .val (.int z28), .val (.int z31), .val (.int (b2i z35)), .val (.int (b2i z39)), .unset] [(.int z28), (.int z31)]))
              refine Go.back (fun t k => XS.isub X52.here hx rfl (hb hby at_164) rfl k) ?_
              show Go p.tables e below (P0 Z p0 p1 p2 p3 h0 n0 s) (T52.setTop (mkF m 165 #[.val (.int p0), .val (.int p1), .val (.int p2), .val (.long p3), .second, .val (.ref b1), .val (.int z28), .val (.int z31), .val (.int (b2i z35)), .val (.int (b2i z39)), .unset] [(.int (z31 - z28))]))
              refine Go.back (fun t k => XS.iconst X52.here hx rfl (hb hby at_165) k) ?_
              show Go p.tables e below (P0 Z p0 p1 p2 p3 h0 n0 s) (T52.setTop (mkF m 166 #[.val (.int p0), .val (.int p1), .val (.int p2), .val (.long p3), .second, .val (.ref b1), .val (.int z28), .val (.int z31), .val (.int (b2i z35)), .val (.int (b2i z39)), .unset] [(.int (2 : Int32)), (.int (z31 - z28))]))
              have J55 : ∀ (z56 : Bool) (hz56 : z56 = (if (z31 - z28) < (2 : Int32) then false else (if z35 = true then (if z39 = true then true else false) else false))), Go p.tables e below (P0 Z p0 p1 p2 p3 h0 n0 s) (T52.setTop (mkF m 184 #[.val (.int p0), .val (.int p1), .val (.int p2), .val (.long p3), .second, .val (.ref b1), .val (.int z28), .val (.int z31), .val (.int (b2i z35)), .val (.int (b2i z39)), .unset] [(.int (b2i z56))])) := by
                intro z56 hz56
                have r57 : f0 p0 p1 p2 p3 = (let z61 : Bool := (if (f2 z28 z31 z49) = z56 then true else false); z61) := by subst hz56; exact r53
                show Go p.tables e below (P0 Z p0 p1 p2 p3 h0 n0 s) (T52.setTop (mkF m 184 #[.val (.int p0), .val (.int p1), .val (.int p2), .val (.long p3), .second, .val (.ref b1), .val (.int z28), .val (.int z31), .val (.int (b2i z35)), .val (.int (b2i z39)), .unset] [(.int (b2i z56))]))
                refine Go.back (fun t k => XS.istore X52.here hx rfl (hb hby at_184) rfl (l' := #[.val (.int p0), .val (.int p1), .val (.int p2), .val (.long p3), .second, .val (.ref b1), .val (.int z28), .val (.int z31), .val (.int (b2i z35)), .val (.int (b2i z39)), .val (.int (b2i z56))]) rfl k) ?_
                show Go p.tables e below (P0 Z p0 p1 p2 p3 h0 n0 s) (T52.setTop (mkF m 186 #[.val (.int p0), .val (.int p1), .val (.int p2), .val (.long p3), .second, .val (.ref b1), .val (.int z28), .val (.int z31), .val (.int (b2i z35)), .val (.int (b2i z39)), .val (.int (b2i z56))] []))
                refine Go.back (fun t k => XS.aload X52.here hx rfl (hb hby at_186) rfl rfl  k) ?_
                show Go p.tables e below (P0 Z p0 p1 p2 p3 h0 n0 s) (T52.setTop (mkF m 188 #[.val (.int p0), .val (.int p1), .val (.int p2), .val (.long p3), .second, .val (.ref b1), .val (.int z28), .val (.int z31), .val (.int (b2i z35)), .val (.int (b2i z39)), .val (.int (b2i z56))] [(.ref b1)]))
                refine Go.back (fun t k => XS.iload X52.here hx rfl (hb hby at_188) rfl  k) ?_
                show Go p.tables e below (P0 Z p0 p1 p2 p3 h0 n0 s) (T52.setTop (mkF m 190 #[.val (.int p0), .val (.int p1), .val (.int p2), .val (.long p3), .second, .val (.ref b1), .val (.int z28), .val (.int z31), .val (.int (b2i z35)), .val (.int (b2i z39)), .val (.int (b2i z56))] [(.int z28), (.ref b1)]))
                refine Go.back (fun t k => XS.iload X52.here hx rfl (hb hby at_190) rfl  k) ?_
                show Go p.tables e below (P0 Z p0 p1 p2 p3 h0 n0 s) (T52.setTop (mkF m 192 #[.val (.int p0), .val (.int p1), .val (.int p2), .val (.long p3), .second, .val (.ref b1), .val (.int z28), .val (.int z31), .val (.int (b2i z35)), .val (.int (b2i z39)), .val (.int (b2i z56))] [(.int z31), (.int z28), (.ref b1)]))
                obtain ⟨_, _, ⟨T58, L58, k58, n58⟩, -, X58, ⟨Lc58, hQ58, l58, y58, z58⟩, st58⟩ := Jvm.LawKit.callS X52 hx (y := (⟨"com/example/careful_audit/carefulaudit/DataType", "isHexPrefix", "([BII)Z"⟩ : MethodName)) hown (mvT hZ (hw _ (List.mem_of_getElem? (i := 6) rfl))) (mvT hZ (hw _ (List.mem_of_getElem? (i := 7) rfl))) (mvT hZ (hw _ (List.mem_of_getElem? (i := 8) rfl))) (mvT hZ (hw _ (List.mem_of_getElem? (i := 9) rfl))) (by decide) (backOf (W := 0) (rm2 l Z a0 hw [] b1 z28 z31 z49 h51 n0 F48 F50 (own_mk (by rw [hz28]; exact own_from _) hz31 (by simp [hz24, hz49, apply_ite List.length]))) hZ (hw _ (List.mem_of_getElem? (i := 9) rfl)) (hw _ (List.mem_of_getElem? (i := 8) rfl)) (by decide) (by decide)) (g := (mkF m 192 #[.val (.int p0), .val (.int p1), .val (.int p2), .val (.long p3), .second, .val (.ref b1), .val (.int z28), .val (.int z31), .val (.int (b2i z35)), .val (.int (b2i z39)), .val (.int (b2i z56))] [(.int z31), (.int z28), (.ref b1)])) rfl (by rw [hml]; rfl) (argsL := [(.ref b1), (.int z28), (.int z31)]) (rest := []) (lenOf pd_1 rfl) rfl (by show 2 * 0 + _ ≤ _; exact Nat.le_of_eq rfl) (hb hby at_192) (fun _ _ => ⟨rfl, e52, (by decide : 1 + 0 ≤ _), (by decide : 6 + 0 ≤ _)⟩)
                dsimp only [Pt.U, Pt.locs, Pt.cells, Pt.slots] at X58 l58 y58 z58 st58 hQ58
                subst l58 y58 z58
                obtain ⟨rfl, N58q, e58⟩ := hQ58
                have N58 := Fr.app N52 N58q
                refine Go.back st58 ?_
                show Go p.tables e below (P0 Z p0 p1 p2 p3 h0 n0 s) (T58.setTop (mkF m 195 #[.val (.int p0), .val (.int p1), .val (.int p2), .val (.long p3), .second, .val (.ref b1), .val (.int z28), .val (.int z31), .val (.int (b2i z35)), .val (.int (b2i z39)), .val (.int (b2i z56))] [(.int (b2i (f2 z28 z31 z49)))]))
                refine Go.back (fun t k => XS.iload X58.here hx rfl (hb hby at_195) rfl  k) ?_
                show Go p.tables e below (P0 Z p0 p1 p2 p3 h0 n0 s) (T58.setTop (mkF m 197 #[.val (.int p0), .val (.int p1), .val (.int p2), .val (.long p3), .second, .val (.ref b1), .val (.int z28), .val (.int z31), .val (.int (b2i z35)), .val (.int (b2i z39)), .val (.int (b2i z56))] [(.int (b2i z56)), (.int (b2i (f2 z28 z31 z49)))]))
                have J60 : ∀ (z61 : Bool) (hz61 : z61 = (if (f2 z28 z31 z49) = z56 then true else false)), Go p.tables e below (P0 Z p0 p1 p2 p3 h0 n0 s) (T58.setTop (mkF m 205 #[.val (.int p0), .val (.int p1), .val (.int p2), .val (.long p3), .second, .val (.ref b1), .val (.int z28), .val (.int z31), .val (.int (b2i z35)), .val (.int (b2i z39)), .val (.int (b2i z56))] [(.int (b2i z61))])) := by
                  intro z61 hz61
                  have r62 : f0 p0 p1 p2 p3 = z61 := by subst hz61; exact r57
                  show Go p.tables e below (P0 Z p0 p1 p2 p3 h0 n0 s) (T58.setTop (mkF m 205 #[.val (.int p0), .val (.int p1), .val (.int p2), .val (.long p3), .second, .val (.ref b1), .val (.int z28), .val (.int z31), .val (.int (b2i z35)), .val (.int (b2i z39)), .val (.int (b2i z56))] [(.int (b2i z61))]))
                  exact Go.retB (b := z61) X58 hx Bd.returns (hb hby at_205) Bd.notSynchronized ⟨by rw [r62], N58⟩ (by decide) (by decide)
                have r63 : (if (f2 z28 z31 z49) = z56 then true else false) = (if (f2 z28 z31 z49) = z56 then true else false) := rfl
                by_cases hc59 : (f2 z28 z31 z49) = z56
                · have r64 := r63.trans (if_pos hc59)
                  refine Go.back (fun t k => XS.icmpNo X58.here hx rfl (hb hby at_197) rfl (teq (congrArg b2i hc59)).2 k) ?_
                  show Go p.tables e below (P0 Z p0 p1 p2 p3 h0 n0 s) (T58.setTop (mkF m 200 #[.val (.int p0), .val (.int p1), .val (.int p2), .val (.long p3), .second, .val (.ref b1), .val (.int z28), .val (.int z31), .val (.int (b2i z35)), .val (.int (b2i z39)), .val (.int (b2i z56))] []))
                  refine Go.back (fun t k => XS.iconst X58.here hx rfl (hb hby at_200) k) ?_
                  show Go p.tables e below (P0 Z p0 p1 p2 p3 h0 n0 s) (T58.setTop (mkF m 201 #[.val (.int p0), .val (.int p1), .val (.int p2), .val (.long p3), .second, .val (.ref b1), .val (.int z28), .val (.int z31), .val (.int (b2i z35)), .val (.int (b2i z39)), .val (.int (b2i z56))] [(.int (1 : Int32))]))
                  refine Go.back (fun t k => XS.goto X58.here hx rfl (pc0 := 201) (pc' := 205) rfl (hb hby at_201) (by decide) (by decide) k) ?_
                  show Go p.tables e below (P0 Z p0 p1 p2 p3 h0 n0 s) (T58.setTop (mkF m 205 #[.val (.int p0), .val (.int p1), .val (.int p2), .val (.long p3), .second, .val (.ref b1), .val (.int z28), .val (.int z31), .val (.int (b2i z35)), .val (.int (b2i z39)), .val (.int (b2i z56))] [(.int (1 : Int32))]))
                  exact J60 true r64.symm
                · have r65 := r63.trans (if_neg hc59)
                  refine Go.back (fun t k => XS.icmpYes X58.here hx rfl (pc0 := 197) (pc' := 204) rfl (hb hby at_197) rfl (feq (fun q => hc59 (b2i_inj q))).2 (by decide) (by decide) k) ?_
                  show Go p.tables e below (P0 Z p0 p1 p2 p3 h0 n0 s) (T58.setTop (mkF m 204 #[.val (.int p0), .val (.int p1), .val (.int p2), .val (.long p3), .second, .val (.ref b1), .val (.int z28), .val (.int z31), .val (.int (b2i z35)), .val (.int (b2i z39)), .val (.int (b2i z56))] []))
                  refine Go.back (fun t k => XS.iconst X58.here hx rfl (hb hby at_204) k) ?_
                  show Go p.tables e below (P0 Z p0 p1 p2 p3 h0 n0 s) (T58.setTop (mkF m 205 #[.val (.int p0), .val (.int p1), .val (.int p2), .val (.long p3), .second, .val (.ref b1), .val (.int z28), .val (.int z31), .val (.int (b2i z35)), .val (.int (b2i z39)), .val (.int (b2i z56))] [(.int (0 : Int32))]))
                  exact J60 false r65.symm
              have r66 : (if (z31 - z28) < (2 : Int32) then false else (if z35 = true then (if z39 = true then true else false) else false)) = (if (z31 - z28) < (2 : Int32) then false else (if z35 = true then (if z39 = true then true else false) else false)) := rfl
              by_cases hc54 : (z31 - z28) < (2 : Int32)
              · have r67 := r66.trans (if_pos hc54)
                refine Go.back (fun t k => XS.icmpYes X52.here hx rfl (pc0 := 166) (pc' := 183) rfl (hb hby at_166) rfl (tlt hc54).1 (by decide) (by decide) k) ?_
                show Go p.tables e below (P0 Z p0 p1 p2 p3 h0 n0 s) (T52.setTop (mkF m 183 #[.val (.int p0), .val (.int p1), .val (.int p2), .val (.long p3), .second, .val (.ref b1), .val (.int z28), .val (.int z31), .val (.int (b2i z35)), .val (.int (b2i z39)), .unset] []))
                refine Go.back (fun t k => XS.iconst X52.here hx rfl (hb hby at_183) k) ?_
                show Go p.tables e below (P0 Z p0 p1 p2 p3 h0 n0 s) (T52.setTop (mkF m 184 #[.val (.int p0), .val (.int p1), .val (.int p2), .val (.long p3), .second, .val (.ref b1), .val (.int z28), .val (.int z31), .val (.int (b2i z35)), .val (.int (b2i z39)), .unset] [(.int (0 : Int32))]))
                exact J55 false r67.symm
              · have r68 := r66.trans (if_neg hc54)
                refine Go.back (fun t k => XS.icmpNo X52.here hx rfl (hb hby at_166) rfl (flt hc54).1 k) ?_
                show Go p.tables e below (P0 Z p0 p1 p2 p3 h0 n0 s) (T52.setTop (mkF m 169 #[.val (.int p0), .val (.int p1), .val (.int p2), .val (.long p3), .second, .val (.ref b1), .val (.int z28), .val (.int z31), .val (.int (b2i z35)), .val (.int (b2i z39)), .unset] []))
                refine Go.back (fun t k => XS.iload X52.here hx rfl (hb hby at_169) rfl  k) ?_
                show Go p.tables e below (P0 Z p0 p1 p2 p3 h0 n0 s) (T52.setTop (mkF m 171 #[.val (.int p0), .val (.int p1), .val (.int p2), .val (.long p3), .second, .val (.ref b1), .val (.int z28), .val (.int z31), .val (.int (b2i z35)), .val (.int (b2i z39)), .unset] [(.int (b2i z35))]))
                by_cases hc69 : z35 = true
                · have r70 := r68.trans (if_pos hc69)
                  refine Go.back (fun t k => XS.ifNo X52.here hx rfl (hb hby at_171) rfl ((if0 _ _).trans (feq (b2i_t hc69)).1) k) ?_
                  show Go p.tables e below (P0 Z p0 p1 p2 p3 h0 n0 s) (T52.setTop (mkF m 174 #[.val (.int p0), .val (.int p1), .val (.int p2), .val (.long p3), .second, .val (.ref b1), .val (.int z28), .val (.int z31), .val (.int (b2i z35)), .val (.int (b2i z39)), .unset] []))
                  refine Go.back (fun t k => XS.iload X52.here hx rfl (hb hby at_174) rfl  k) ?_
                  show Go p.tables e below (P0 Z p0 p1 p2 p3 h0 n0 s) (T52.setTop (mkF m 176 #[.val (.int p0), .val (.int p1), .val (.int p2), .val (.long p3), .second, .val (.ref b1), .val (.int z28), .val (.int z31), .val (.int (b2i z35)), .val (.int (b2i z39)), .unset] [(.int (b2i z39))]))
                  by_cases hc71 : z39 = true
                  · have r72 := r70.trans (if_pos hc71)
                    refine Go.back (fun t k => XS.ifNo X52.here hx rfl (hb hby at_176) rfl ((if0 _ _).trans (feq (b2i_t hc71)).1) k) ?_
                    show Go p.tables e below (P0 Z p0 p1 p2 p3 h0 n0 s) (T52.setTop (mkF m 179 #[.val (.int p0), .val (.int p1), .val (.int p2), .val (.long p3), .second, .val (.ref b1), .val (.int z28), .val (.int z31), .val (.int (b2i z35)), .val (.int (b2i z39)), .unset] []))
                    refine Go.back (fun t k => XS.iconst X52.here hx rfl (hb hby at_179) k) ?_
                    show Go p.tables e below (P0 Z p0 p1 p2 p3 h0 n0 s) (T52.setTop (mkF m 180 #[.val (.int p0), .val (.int p1), .val (.int p2), .val (.long p3), .second, .val (.ref b1), .val (.int z28), .val (.int z31), .val (.int (b2i z35)), .val (.int (b2i z39)), .unset] [(.int (1 : Int32))]))
                    refine Go.back (fun t k => XS.goto X52.here hx rfl (pc0 := 180) (pc' := 184) rfl (hb hby at_180) (by decide) (by decide) k) ?_
                    show Go p.tables e below (P0 Z p0 p1 p2 p3 h0 n0 s) (T52.setTop (mkF m 184 #[.val (.int p0), .val (.int p1), .val (.int p2), .val (.long p3), .second, .val (.ref b1), .val (.int z28), .val (.int z31), .val (.int (b2i z35)), .val (.int (b2i z39)), .unset] [(.int (1 : Int32))]))
                    exact J55 true r72.symm
                  · have r73 := r70.trans (if_neg hc71)
                    refine Go.back (fun t k => XS.ifYes X52.here hx rfl (pc0 := 176) (pc' := 183) rfl (hb hby at_176) rfl ((if0 _ _).trans (teq (b2i_f hc71)).1) (by decide) (by decide) k) ?_
                    show Go p.tables e below (P0 Z p0 p1 p2 p3 h0 n0 s) (T52.setTop (mkF m 183 #[.val (.int p0), .val (.int p1), .val (.int p2), .val (.long p3), .second, .val (.ref b1), .val (.int z28), .val (.int z31), .val (.int (b2i z35)), .val (.int (b2i z39)), .unset] []))
                    refine Go.back (fun t k => XS.iconst X52.here hx rfl (hb hby at_183) k) ?_
                    show Go p.tables e below (P0 Z p0 p1 p2 p3 h0 n0 s) (T52.setTop (mkF m 184 #[.val (.int p0), .val (.int p1), .val (.int p2), .val (.long p3), .second, .val (.ref b1), .val (.int z28), .val (.int z31), .val (.int (b2i z35)), .val (.int (b2i z39)), .unset] [(.int (0 : Int32))]))
                    exact J55 false r73.symm
                · have r74 := r68.trans (if_neg hc69)
                  refine Go.back (fun t k => XS.ifYes X52.here hx rfl (pc0 := 171) (pc' := 183) rfl (hb hby at_171) rfl ((if0 _ _).trans (teq (b2i_f hc69)).1) (by decide) (by decide) k) ?_
                  show Go p.tables e below (P0 Z p0 p1 p2 p3 h0 n0 s) (T52.setTop (mkF m 183 #[.val (.int p0), .val (.int p1), .val (.int p2), .val (.long p3), .second, .val (.ref b1), .val (.int z28), .val (.int z31), .val (.int (b2i z35)), .val (.int (b2i z39)), .unset] []))
                  refine Go.back (fun t k => XS.iconst X52.here hx rfl (hb hby at_183) k) ?_
                  show Go p.tables e below (P0 Z p0 p1 p2 p3 h0 n0 s) (T52.setTop (mkF m 184 #[.val (.int p0), .val (.int p1), .val (.int p2), .val (.long p3), .second, .val (.ref b1), .val (.int z28), .val (.int z31), .val (.int (b2i z35)), .val (.int (b2i z39)), .unset] [(.int (0 : Int32))]))
                  exact J55 false r74.symm
            have r75 : (if (z28 + (1 : Int32)) < (6 : Int32) then (List.set (List.set z24 (z28).toNatClampNeg (nar .byte (f1 (List.getD z24 (z28).toNatClampNeg (0 : Int32)) z35 (48 : Int32)))) ((z28 + (1 : Int32))).toNatClampNeg (nar .byte (f1 (List.getD (List.set z24 (z28).toNatClampNeg (nar .byte (f1 (List.getD z24 (z28).toNatClampNeg (0 : Int32)) z35 (48 : Int32)))) ((z28 + (1 : Int32))).toNatClampNeg (0 : Int32)) z39 (120 : Int32)))) else (List.set z24 (z28).toNatClampNeg (nar .byte (f1 (List.getD z24 (z28).toNatClampNeg (0 : Int32)) z35 (48 : Int32))))) = (if (z28 + (1 : Int32)) < (6 : Int32) then (List.set (List.set z24 (z28).toNatClampNeg (nar .byte (f1 (List.getD z24 (z28).toNatClampNeg (0 : Int32)) z35 (48 : Int32)))) ((z28 + (1 : Int32))).toNatClampNeg (nar .byte (f1 (List.getD (List.set z24 (z28).toNatClampNeg (nar .byte (f1 (List.getD z24 (z28).toNatClampNeg (0 : Int32)) z35 (48 : Int32)))) ((z28 + (1 : Int32))).toNatClampNeg (0 : Int32)) z39 (120 : Int32)))) else (List.set z24 (z28).toNatClampNeg (nar .byte (f1 (List.getD z24 (z28).toNatClampNeg (0 : Int32)) z35 (48 : Int32))))) := rfl
            by_cases hc46 : (z28 + (1 : Int32)) < (6 : Int32)
            · have r76 := r75.trans (if_pos hc46)
              refine Go.back (fun t k => XS.icmpNo X43.here hx rfl (hb hby at_136) rfl (tlt hc46).2.1 k) ?_
              show Go p.tables e below (P0 Z p0 p1 p2 p3 h0 n0 s) (T43.setTop (mkF m 139 #[.val (.int p0), .val (.int p1), .val (.int p2), .val (.long p3), .second, .val (.ref b1), .val (.int z28), .val (.int z31), .val (.int (b2i z35)), .val (.int (b2i z39)), .unset] []))
              refine Go.back (fun t k => XS.aload X43.here hx rfl (hb hby at_139) rfl rfl  k) ?_
              show Go p.tables e below (P0 Z p0 p1 p2 p3 h0 n0 s) (T43.setTop (mkF m 141 #[.val (.int p0), .val (.int p1), .val (.int p2), .val (.long p3), .second, .val (.ref b1), .val (.int z28), .val (.int z31), .val (.int (b2i z35)), .val (.int (b2i z39)), .unset] [(.ref b1)]))
              refine Go.back (fun t k => XS.iload X43.here hx rfl (hb hby at_141) rfl  k) ?_
              show Go p.tables e below (P0 Z p0 p1 p2 p3 h0 n0 s) (T43.setTop (mkF m 143 #[.val (.int p0), .val (.int p1), .val (.int p2), .val (.long p3), .second, .val (.ref b1), .val (.int z28), .val (.int z31), .val (.int (b2i z35)), .val (.int (b2i z39)), .unset] [(.int z28), (.ref b1)]))
              refine Go.back (fun t k => XS.iconst X43.here hx rfl (hb hby at_143) k) ?_
              show Go p.tables e below (P0 Z p0 p1 p2 p3 h0 n0 s) (T43.setTop (mkF m 144 #[.val (.int p0), .val (.int p1), .val (.int p2), .val (.long p3), .second, .val (.ref b1), .val (.int z28), .val (.int z31), .val (.int (b2i z35)), .val (.int (b2i z39)), .unset] [(.int (1 : Int32)), (.int z28), (.ref b1)]))
              refine Go.back (fun t k => XS.iadd X43.here hx rfl (hb hby at_144) rfl k) ?_
              show Go p.tables e below (P0 Z p0 p1 p2 p3 h0 n0 s) (T43.setTop (mkF m 145 #[.val (.int p0), .val (.int p1), .val (.int p2), .val (.long p3), .second, .val (.ref b1), .val (.int z28), .val (.int z31), .val (.int (b2i z35)), .val (.int (b2i z39)), .unset] [(.int (z28 + (1 : Int32))), (.ref b1)]))
              refine Go.back (fun t k => XS.aload X43.here hx rfl (hb hby at_145) rfl rfl  k) ?_
              show Go p.tables e below (P0 Z p0 p1 p2 p3 h0 n0 s) (T43.setTop (mkF m 147 #[.val (.int p0), .val (.int p1), .val (.int p2), .val (.long p3), .second, .val (.ref b1), .val (.int z28), .val (.int z31), .val (.int (b2i z35)), .val (.int (b2i z39)), .unset] [(.ref b1), (.int (z28 + (1 : Int32))), (.ref b1)]))
              refine Go.back (fun t k => XS.iload X43.here hx rfl (hb hby at_147) rfl  k) ?_
              show Go p.tables e below (P0 Z p0 p1 p2 p3 h0 n0 s) (T43.setTop (mkF m 149 #[.val (.int p0), .val (.int p1), .val (.int p2), .val (.long p3), .second, .val (.ref b1), .val (.int z28), .val (.int z31), .val (.int (b2i z35)), .val (.int (b2i z39)), .unset] [(.int z28), (.ref b1), (.int (z28 + (1 : Int32))), (.ref b1)]))
              refine Go.back (fun t k => XS.iconst X43.here hx rfl (hb hby at_149) k) ?_
              show Go p.tables e below (P0 Z p0 p1 p2 p3 h0 n0 s) (T43.setTop (mkF m 150 #[.val (.int p0), .val (.int p1), .val (.int p2), .val (.long p3), .second, .val (.ref b1), .val (.int z28), .val (.int z31), .val (.int (b2i z35)), .val (.int (b2i z39)), .unset] [(.int (1 : Int32)), (.int z28), (.ref b1), (.int (z28 + (1 : Int32))), (.ref b1)]))
              refine Go.back (fun t k => XS.iadd X43.here hx rfl (hb hby at_150) rfl k) ?_
              show Go p.tables e below (P0 Z p0 p1 p2 p3 h0 n0 s) (T43.setTop (mkF m 151 #[.val (.int p0), .val (.int p1), .val (.int p2), .val (.long p3), .second, .val (.ref b1), .val (.int z28), .val (.int z31), .val (.int (b2i z35)), .val (.int (b2i z39)), .unset] [(.int (z28 + (1 : Int32))), (.ref b1), (.int (z28 + (1 : Int32))), (.ref b1)]))
              obtain ⟨cl77, Ar77, hi77, ha77⟩ := F45.get (j := (z28 + (1 : Int32))) (own_nn1 (by rw [hz28]; exact own_from _)) (v := (.int (List.getD (List.set z24 (z28).toNatClampNeg (nar .byte (f1 (List.getD z24 (z28).toNatClampNeg (0 : Int32)) z35 (48 : Int32)))) ((z28 + (1 : Int32))).toNatClampNeg (0 : Int32)))) (getI (List.set z24 (z28).toNatClampNeg (nar .byte (f1 (List.getD z24 (z28).toNatClampNeg (0 : Int32)) z35 (48 : Int32)))) (own_in1 (by rw [hz28]; exact own_from _) hc46 (by simp [hz24, apply_ite List.length])))
              refine Go.back (fun t k => X43.baloadBytes hx (j := (z28 + (1 : Int32))) (v := (.int (List.getD (List.set z24 (z28).toNatClampNeg (nar .byte (f1 (List.getD z24 (z28).toNatClampNeg (0 : Int32)) z35 (48 : Int32)))) ((z28 + (1 : Int32))).toNatClampNeg (0 : Int32)))) (by rw [e43]; exact Ar77.1) (State.isArrayOf_alike hZ.alike Ar77.2.1) Ar77.2.2 hi77 ha77 (g := (mkF m 151 #[.val (.int p0), .val (.int p1), .val (.int p2), .val (.long p3), .second, .val (.ref b1), .val (.int z28), .val (.int z31), .val (.int (b2i z35)), .val (.int (b2i z39)), .unset] [(.int (z28 + (1 : Int32))), (.ref b1), (.int (z28 + (1 : Int32))), (.ref b1)])) rfl rfl (hb hby at_151) t k) ?_
              show Go p.tables e below (P0 Z p0 p1 p2 p3 h0 n0 s) (T43.setTop (mkF m 152 #[.val (.int p0), .val (.int p1), .val (.int p2), .val (.long p3), .second, .val (.ref b1), .val (.int z28), .val (.int z31), .val (.int (b2i z35)), .val (.int (b2i z39)), .unset] [(.int (List.getD (List.set z24 (z28).toNatClampNeg (nar .byte (f1 (List.getD z24 (z28).toNatClampNeg (0 : Int32)) z35 (48 : Int32)))) ((z28 + (1 : Int32))).toNatClampNeg (0 : Int32))), (.int (z28 + (1 : Int32))), (.ref b1)]))
              refine Go.back (fun t k => XS.iload X43.here hx rfl (hb hby at_152) rfl  k) ?_
              show Go p.tables e below (P0 Z p0 p1 p2 p3 h0 n0 s) (T43.setTop (mkF m 154 #[.val (.int p0), .val (.int p1), .val (.int p2), .val (.long p3), .second, .val (.ref b1), .val (.int z28), .val (.int z31), .val (.int (b2i z35)), .val (.int (b2i z39)), .unset] [(.int (b2i z39)), (.int (List.getD (List.set z24 (z28).toNatClampNeg (nar .byte (f1 (List.getD z24 (z28).toNatClampNeg (0 : Int32)) z35 (48 : Int32)))) ((z28 + (1 : Int32))).toNatClampNeg (0 : Int32))), (.int (z28 + (1 : Int32))), (.ref b1)]))
              refine Go.back (fun t k => XS.bipush X43.here hx rfl (hb hby at_154) k) ?_
              show Go p.tables e below (P0 Z p0 p1 p2 p3 h0 n0 s) (T43.setTop (mkF m 156 #[.val (.int p0), .val (.int p1), .val (.int p2), .val (.long p3), .second, .val (.ref b1), .val (.int z28), .val (.int z31), .val (.int (b2i z35)), .val (.int (b2i z39)), .unset] [(.int (120 : Int32)), (.int (b2i z39)), (.int (List.getD (List.set z24 (z28).toNatClampNeg (nar .byte (f1 (List.getD z24 (z28).toNatClampNeg (0 : Int32)) z35 (48 : Int32)))) ((z28 + (1 : Int32))).toNatClampNeg (0 : Int32))), (.int (z28 + (1 : Int32))), (.ref b1)]))
              obtain ⟨_, _, ⟨T78, L78, k78, n78⟩, -, X78, ⟨Lc78, hQ78, l78, y78, z78⟩, st78⟩ := Jvm.LawKit.callS X43 hx (y := (⟨"com/example/careful_audit/carefulaudit/DataTypeIsHexPrefixPinLaw", "put", "(BZB)B"⟩ : MethodName)) hown (mvT hZ (hw _ (List.mem_of_getElem? (i := 2) rfl))) (mvT hZ (hw _ (List.mem_of_getElem? (i := 3) rfl))) (mvT hZ (hw _ (List.mem_of_getElem? (i := 4) rfl))) (mvT hZ (hw _ (List.mem_of_getElem? (i := 5) rfl))) (by decide) (backOf (W := 2) (rm1 l Z a0 hw [] (List.getD (List.set z24 (z28).toNatClampNeg (nar .byte (f1 (List.getD z24 (z28).toNatClampNeg (0 : Int32)) z35 (48 : Int32)))) ((z28 + (1 : Int32))).toNatClampNeg (0 : Int32)) z39 (120 : Int32) h43 n0) hZ (hw _ (List.mem_of_getElem? (i := 5) rfl)) (hw _ (List.mem_of_getElem? (i := 4) rfl)) (by decide) (by decide)) (g := (mkF m 156 #[.val (.int p0), .val (.int p1), .val (.int p2), .val (.long p3), .second, .val (.ref b1), .val (.int z28), .val (.int z31), .val (.int (b2i z35)), .val (.int (b2i z39)), .unset] [(.int (120 : Int32)), (.int (b2i z39)), (.int (List.getD (List.set z24 (z28).toNatClampNeg (nar .byte (f1 (List.getD z24 (z28).toNatClampNeg (0 : Int32)) z35 (48 : Int32)))) ((z28 + (1 : Int32))).toNatClampNeg (0 : Int32))), (.int (z28 + (1 : Int32))), (.ref b1)])) rfl (by rw [hml]; rfl) (argsL := [(.int (List.getD (List.set z24 (z28).toNatClampNeg (nar .byte (f1 (List.getD z24 (z28).toNatClampNeg (0 : Int32)) z35 (48 : Int32)))) ((z28 + (1 : Int32))).toNatClampNeg (0 : Int32))), (.int (b2i z39)), (.int (120 : Int32))]) (rest := [(.int (z28 + (1 : Int32))), (.ref b1)]) (lenOf pd_0 rfl) rfl (by show 2 * 0 + _ ≤ _; exact Nat.le_of_eq rfl) (hb hby at_156) (fun _ _ => ⟨rfl, e43, (by decide : 1 + 0 ≤ _), (by decide : 6 + 0 ≤ _)⟩)
              dsimp only [Pt.U, Pt.locs, Pt.cells, Pt.slots] at X78 l78 y78 z78 st78 hQ78
              subst l78 y78 z78
              obtain ⟨rfl, N78q, e78⟩ := hQ78
              have N78 := Fr.app N43 N78q
              refine Go.back st78 ?_
              show Go p.tables e below (P0 Z p0 p1 p2 p3 h0 n0 s) (T78.setTop (mkF m 159 #[.val (.int p0), .val (.int p1), .val (.int p2), .val (.long p3), .second, .val (.ref b1), .val (.int z28), .val (.int z31), .val (.int (b2i z35)), .val (.int (b2i z39)), .unset] [(.int (f1 (List.getD (List.set z24 (z28).toNatClampNeg (nar .byte (f1 (List.getD z24 (z28).toNatClampNeg (0 : Int32)) z35 (48 : Int32)))) ((z28 + (1 : Int32))).toNatClampNeg (0 : Int32)) z39 (120 : Int32))), (.int (z28 + (1 : Int32))), (.ref b1)]))
              obtain ⟨cl79, Ar79, hi79, -⟩ := F45.at (j := (z28 + (1 : Int32))) (own_nn1 (by rw [hz28]; exact own_from _)) (by simpa using (own_in1 (by rw [hz28]; exact own_from _) hc46 (by simp [hz24, apply_ite List.length])))
              obtain ⟨T79, h79, X79, e79, W79, st79⟩ := stB X78 hx hZ e78 Ar79 (j := (z28 + (1 : Int32))) hi79 (g := (mkF m 159 #[.val (.int p0), .val (.int p1), .val (.int p2), .val (.long p3), .second, .val (.ref b1), .val (.int z28), .val (.int z31), .val (.int (b2i z35)), .val (.int (b2i z39)), .unset] [(.int (f1 (List.getD (List.set z24 (z28).toNatClampNeg (nar .byte (f1 (List.getD z24 (z28).toNatClampNeg (0 : Int32)) z35 (48 : Int32)))) ((z28 + (1 : Int32))).toNatClampNeg (0 : Int32)) z39 (120 : Int32))), (.int (z28 + (1 : Int32))), (.ref b1)])) rfl rfl (hb hby at_159)
              have F80 : n0 ≤ h79.size := Nat.le_trans F44 (Keep.of_wr W79).1
              have F81 : ArL Z h79 b1 .byte (List.map Value.int (List.set (List.set z24 (z28).toNatClampNeg (nar .byte (f1 (List.getD z24 (z28).toNatClampNeg (0 : Int32)) z35 (48 : Int32)))) ((z28 + (1 : Int32))).toNatClampNeg (nar .byte (f1 (List.getD (List.set z24 (z28).toNatClampNeg (nar .byte (f1 (List.getD z24 (z28).toNatClampNeg (0 : Int32)) z35 (48 : Int32)))) ((z28 + (1 : Int32))).toNatClampNeg (0 : Int32)) z39 (120 : Int32))))) := ArL.setI (xs := (List.set z24 (z28).toNatClampNeg (nar .byte (f1 (List.getD z24 (z28).toNatClampNeg (0 : Int32)) z35 (48 : Int32))))) F45 W79
              have N79 := Fr.snoc X79 N78 g2
              refine Go.back st79 ?_
              show Go p.tables e below (P0 Z p0 p1 p2 p3 h0 n0 s) (T79.setTop (mkF m 160 #[.val (.int p0), .val (.int p1), .val (.int p2), .val (.long p3), .second, .val (.ref b1), .val (.int z28), .val (.int z31), .val (.int (b2i z35)), .val (.int (b2i z39)), .unset] []))
              exact J47 _ _ X79 N79 h79 e79 (List.set (List.set z24 (z28).toNatClampNeg (nar .byte (f1 (List.getD z24 (z28).toNatClampNeg (0 : Int32)) z35 (48 : Int32)))) ((z28 + (1 : Int32))).toNatClampNeg (nar .byte (f1 (List.getD (List.set z24 (z28).toNatClampNeg (nar .byte (f1 (List.getD z24 (z28).toNatClampNeg (0 : Int32)) z35 (48 : Int32)))) ((z28 + (1 : Int32))).toNatClampNeg (0 : Int32)) z39 (120 : Int32)))) r76.symm F80 F81
            · have r82 := r75.trans (if_neg hc46)
              refine Go.back (fun t k => XS.icmpYes X43.here hx rfl (pc0 := 136) (pc' := 160) rfl (hb hby at_136) rfl (flt hc46).2.1 (by decide) (by decide) k) ?_
              show Go p.tables e below (P0 Z p0 p1 p2 p3 h0 n0 s) (T43.setTop (mkF m 160 #[.val (.int p0), .val (.int p1), .val (.int p2), .val (.long p3), .second, .val (.ref b1), .val (.int z28), .val (.int z31), .val (.int (b2i z35)), .val (.int (b2i z39)), .unset] []))
              exact J47 _ _ X43 N43 h43 e43 (List.set z24 (z28).toNatClampNeg (nar .byte (f1 (List.getD z24 (z28).toNatClampNeg (0 : Int32)) z35 (48 : Int32)))) r82.symm F44 F45
          have r83 : (if (p2 &&& (2 : Int32)) = (0 : Int32) then false else true) = (if (p2 &&& (2 : Int32)) = (0 : Int32) then false else true) := rfl
          by_cases hc37 : (p2 &&& (2 : Int32)) = (0 : Int32)
          · have r84 := r83.trans (if_pos hc37)
            refine Go.back (fun t k => XS.ifYes X20.here hx rfl (pc0 := 103) (pc' := 110) rfl (hb hby at_103) rfl ((if0 _ _).trans (teq hc37).1) (by decide) (by decide) k) ?_
            show Go p.tables e below (P0 Z p0 p1 p2 p3 h0 n0 s) (T20.setTop (mkF m 110 #[.val (.int p0), .val (.int p1), .val (.int p2), .val (.long p3), .second, .val (.ref b1), .val (.int z28), .val (.int z31), .val (.int (b2i z35)), .unset, .unset] []))
            refine Go.back (fun t k => XS.iconst X20.here hx rfl (hb hby at_110) k) ?_
            show Go p.tables e below (P0 Z p0 p1 p2 p3 h0 n0 s) (T20.setTop (mkF m 111 #[.val (.int p0), .val (.int p1), .val (.int p2), .val (.long p3), .second, .val (.ref b1), .val (.int z28), .val (.int z31), .val (.int (b2i z35)), .unset, .unset] [(.int (0 : Int32))]))
            exact J38 false r84.symm
          · have r85 := r83.trans (if_neg hc37)
            refine Go.back (fun t k => XS.ifNo X20.here hx rfl (hb hby at_103) rfl ((if0 _ _).trans (feq hc37).1) k) ?_
            show Go p.tables e below (P0 Z p0 p1 p2 p3 h0 n0 s) (T20.setTop (mkF m 106 #[.val (.int p0), .val (.int p1), .val (.int p2), .val (.long p3), .second, .val (.ref b1), .val (.int z28), .val (.int z31), .val (.int (b2i z35)), .unset, .unset] []))
            refine Go.back (fun t k => XS.iconst X20.here hx rfl (hb hby at_106) k) ?_
            show Go p.tables e below (P0 Z p0 p1 p2 p3 h0 n0 s) (T20.setTop (mkF m 107 #[.val (.int p0), .val (.int p1), .val (.int p2), .val (.long p3), .second, .val (.ref b1), .val (.int z28), .val (.int z31), .val (.int (b2i z35)), .unset, .unset] [(.int (1 : Int32))]))
            refine Go.back (fun t k => XS.goto X20.here hx rfl (pc0 := 107) (pc' := 111) rfl (hb hby at_107) (by decide) (by decide) k) ?_
            show Go p.tables e below (P0 Z p0 p1 p2 p3 h0 n0 s) (T20.setTop (mkF m 111 #[.val (.int p0), .val (.int p1), .val (.int p2), .val (.long p3), .second, .val (.ref b1), .val (.int z28), .val (.int z31), .val (.int (b2i z35)), .unset, .unset] [(.int (1 : Int32))]))
            exact J38 true r85.symm
        have r86 : (if (p2 &&& (1 : Int32)) = (0 : Int32) then false else true) = (if (p2 &&& (1 : Int32)) = (0 : Int32) then false else true) := rfl
        by_cases hc33 : (p2 &&& (1 : Int32)) = (0 : Int32)
        · have r87 := r86.trans (if_pos hc33)
          refine Go.back (fun t k => XS.ifYes X20.here hx rfl (pc0 := 90) (pc' := 97) rfl (hb hby at_90) rfl ((if0 _ _).trans (teq hc33).1) (by decide) (by decide) k) ?_
          show Go p.tables e below (P0 Z p0 p1 p2 p3 h0 n0 s) (T20.setTop (mkF m 97 #[.val (.int p0), .val (.int p1), .val (.int p2), .val (.long p3), .second, .val (.ref b1), .val (.int z28), .val (.int z31), .unset, .unset, .unset] []))
          refine Go.back (fun t k => XS.iconst X20.here hx rfl (hb hby at_97) k) ?_
          show Go p.tables e below (P0 Z p0 p1 p2 p3 h0 n0 s) (T20.setTop (mkF m 98 #[.val (.int p0), .val (.int p1), .val (.int p2), .val (.long p3), .second, .val (.ref b1), .val (.int z28), .val (.int z31), .unset, .unset, .unset] [(.int (0 : Int32))]))
          exact J34 false r87.symm
        · have r88 := r86.trans (if_neg hc33)
          refine Go.back (fun t k => XS.ifNo X20.here hx rfl (hb hby at_90) rfl ((if0 _ _).trans (feq hc33).1) k) ?_
          show Go p.tables e below (P0 Z p0 p1 p2 p3 h0 n0 s) (T20.setTop (mkF m 93 #[.val (.int p0), .val (.int p1), .val (.int p2), .val (.long p3), .second, .val (.ref b1), .val (.int z28), .val (.int z31), .unset, .unset, .unset] []))
          refine Go.back (fun t k => XS.iconst X20.here hx rfl (hb hby at_93) k) ?_
          show Go p.tables e below (P0 Z p0 p1 p2 p3 h0 n0 s) (T20.setTop (mkF m 94 #[.val (.int p0), .val (.int p1), .val (.int p2), .val (.long p3), .second, .val (.ref b1), .val (.int z28), .val (.int z31), .unset, .unset, .unset] [(.int (1 : Int32))]))
          refine Go.back (fun t k => XS.goto X20.here hx rfl (pc0 := 94) (pc' := 98) rfl (hb hby at_94) (by decide) (by decide) k) ?_
          show Go p.tables e below (P0 Z p0 p1 p2 p3 h0 n0 s) (T20.setTop (mkF m 98 #[.val (.int p0), .val (.int p1), .val (.int p2), .val (.long p3), .second, .val (.ref b1), .val (.int z28), .val (.int z31), .unset, .unset, .unset] [(.int (1 : Int32))]))
          exact J34 true r88.symm
      exact J30 _ rfl
    exact J27 _ rfl
  exact J23 _ rfl F22
theorem own_nar (x : Int32) : nar .byte (nar .byte x) = nar .byte x := by simp [nar]
theorem own_put (b c c1 : Int32) (w : Bool) (hb : nar .byte b = b) (hc : nar .byte c = c) (h1 : ((c + (1 : Int32))).toInt8.toInt32 = c1) (h2 : nar .byte c1 = c1) (h3 : ¬ c1 = c) : (nar .byte (f1 b w c) = c) ↔ w = true := by
  unfold f1
  cases w
  · simp only [Bool.false_eq_true, if_false, iff_false]
    by_cases e : b = c
    · rw [if_pos e, h1, h2, h2]; exact h3
    · rw [if_neg e, hb, hb]; exact e
  · simp only [if_true, hc, iff_true]
theorem own_getset (xs : List Int32) (i : Nat) (v : Int32) (h : i < xs.length) : List.getD (List.set xs i v) i 0 = v := by
  simp [List.getD_eq_getElem?_getD, List.getElem?_set, h]
theorem own_getother (xs : List Int32) (i j : Nat) (v : Int32) (h : j ≠ i) : List.getD (List.set xs j v) i 0 = List.getD xs i 0 := by
  simp [List.getD_eq_getElem?_getD, List.getElem?_set, h]
theorem own_bytes (xs : List Int32) (h : ∀ x ∈ xs, nar .byte x = x) (i : Nat) (hi : i < xs.length) : nar .byte (List.getD xs i 0) = List.getD xs i 0 := by
  rw [List.getD_eq_getElem?_getD, List.getElem?_eq_getElem hi]
  exact h _ (List.getElem_mem hi)
theorem own_law (p0 p1 p2 : Int32) (p3 : Int64) : f0 p0 p1 p2 p3 = true := by
  unfold f0
  have hF := own_from p0
  generalize (p0 &&& (2147483647 : Int32)) % (6 : Int32) = a at *
  dsimp only
  generalize hxs : [(nar .byte ((((p3).toInt32)).toInt8.toInt32)), (nar .byte (((((((p3).toUInt64 >>> ((8 : Int32) &&& 0x3f).toInt64.toUInt64).toInt64)).toInt32)).toInt8.toInt32)), (nar .byte (((((((p3).toUInt64 >>> ((16 : Int32) &&& 0x3f).toInt64.toUInt64).toInt64)).toInt32)).toInt8.toInt32)), (nar .byte (((((((p3).toUInt64 >>> ((24 : Int32) &&& 0x3f).toInt64.toUInt64).toInt64)).toInt32)).toInt8.toInt32)), (nar .byte (((((((p3).toUInt64 >>> ((32 : Int32) &&& 0x3f).toInt64.toUInt64).toInt64)).toInt32)).toInt8.toInt32)), (nar .byte (((((((p3).toUInt64 >>> ((40 : Int32) &&& 0x3f).toInt64.toUInt64).toInt64)).toInt32)).toInt8.toInt32))] = xs
  have hl : xs.length = 6 := by subst hxs; rfl
  have hby : ∀ x ∈ xs, nar .byte x = x := by
    subst hxs
    intro x hx
    simp only [List.mem_cons, List.not_mem_nil, or_false] at hx
    rcases hx with rfl | rfl | rfl | rfl | rfl | rfl <;> exact own_nar _
  clear hxs
  have hto := own_to (p := p1) hF rfl
  generalize a + (p1 &&& (2147483647 : Int32)) % ((7 : Int32) - a) = b at *
  generalize (if (p2 &&& (1 : Int32)) = (0 : Int32) then false else true) = zero
  generalize (if (p2 &&& (2 : Int32)) = (0 : Int32) then false else true) = ex
  have e1 := own_plus hF
  have es := c_isub b a; have rs := rng32 (b - a)
  have l2 : (2 : Int32).toInt = 2 := rfl
  have i0 : a.toNatClampNeg = a.toInt.toNat := rfl
  have i1 : (a + (1 : Int32)).toNatClampNeg = (a.toInt + 1).toNat := by rw [← e1]; rfl
  unfold f2
  simp only [Int32.lt_iff_toInt_lt, e1, own_l6, l2, i0, i1]
  have sb : (b - a).toInt = b.toInt - a.toInt := by omega
  rw [sb]
  by_cases c : a.toInt + 1 < b.toInt
  · have c6 : a.toInt + 1 < 6 := by omega
    have n2 : ¬ b.toInt - a.toInt < 2 := by omega
    simp only [if_pos c, if_pos c6, if_neg n2]
    have k0 : a.toInt.toNat < xs.length := by omega
    have k1 : (a.toInt + 1).toNat < xs.length := by omega
    have ne : a.toInt.toNat ≠ (a.toInt + 1).toNat := by omega
    rw [own_getother _ _ _ _ ne.symm, own_getset _ _ _ k0, own_getset _ _ _ (by simpa using k1), own_getother _ _ _ _ ne]
    have q0 := own_put (List.getD xs a.toInt.toNat 0) 48 49 zero (own_bytes xs hby _ k0) (by decide) (by decide) (by decide) (by decide)
    have q1 := own_put (List.getD xs (a.toInt + 1).toNat 0) 120 121 ex (own_bytes xs hby _ k1) (by decide) (by decide) (by decide) (by decide)
    simp only [q0, q1]
    cases zero <;> cases ex <;> rfl
  · have n2 : b.toInt - a.toInt < 2 := by omega
    simp only [if_neg c, if_pos n2, if_true]
set_option maxRecDepth 65536 in
set_option maxHeartbeats 40000000 in
theorem comes_1 {Post : Tables → Env → Array Value → State → Outcome → State → Prop} (hpost : ∀ tb e args s v u, (limb_1_1.after args s (.returned v) u = true ∧ limb_1_2.after args s (.returned v) u = true ∧ True) → FrameEnd s (.returned v) u (Jvm.fieldLocs frame_1_writes args s ++ Jvm.arrayLocs frame_1_arrays args s ++ Jvm.staticLocs frame_1_statics s) 16 128 → Post tb e args s (.returned v) u) :
    ArmFor flags0 classFile x code maxLocals ret World_1 tables_1 room_1 Calls_1 rest_1 Pre_1 Post := by
  intro l hfl _ _ p e ha hc hk s m args below hf hA hF happ hP
  obtain ⟨hcalls, hrest, hpre⟩ := hP
  obtain ⟨-, -, -, hnamed, -, -, -, hat⟩ := (Spec.applies_iff hf).mp happ
  obtain ⟨hg, hn⟩ := and_e (Cond.before_iff.mp (show (Jvm.Cond.and given_1 narrow_1).before args s = true from hpre))
  obtain ⟨g1, g2⟩ := and_e hg
  obtain ⟨g3, g4⟩ := and_e g2
  obtain ⟨g5, g6⟩ := and_e g4
  obtain ⟨g7, g8⟩ := and_e g6
  obtain ⟨w0, w1, w2, w3, rfl⟩ : ∃ w0 w1 w2 w3 : Value, args = #[w0, w1, w2, w3] := by
    have hs : args.size = 4 := by simpa [Cond.value, given_1] using g1
    obtain ⟨L⟩ := args
    match L, hs with
    | [w0, w1, w2, w3], _ => exact ⟨w0, w1, w2, w3, rfl⟩
  have hw := fun d (hd : d ∈ tables_1) => atoms_spec (ws := Jvm.Cond.code x code maxLocals ret :: tables_1) hat d (List.mem_cons_of_mem _ hd)
  have hfit : Fit s := fun {y c} hc i hi => by
    obtain ⟨ha, rfl⟩ := Array.getElem?_eq_some_iff.mp hc
    have q := List.all_eq_true.mp ((Array.all_eq_true_iff_forall_mem.mp hF) _ (Array.getElem_mem ha)) i (List.mem_range.mpr hi)
    simpa [Array.getElem?_eq_getElem hi] using q
  obtain ⟨i0, ei0⟩ := is_v g3
  obtain rfl : w0 = (.int i0) := Option.some.inj ei0
  obtain ⟨i1, ei1⟩ := is_v g5
  obtain rfl : w1 = (.int i1) := Option.some.inj ei1
  obtain ⟨i2, ei2⟩ := is_v g7
  obtain rfl : w2 = (.int i2) := Option.some.inj ei2
  obtain ⟨i3, ei3⟩ := isL_v g8
  obtain rfl : w3 = (.long i3) := Option.some.inj ei3
  obtain ⟨n, o, h1, h2, h3, v, L, rfl, hQ, hq⟩ := rm0 l s _ hw tables_1 i0 i1 i2 i3 s.heap s.heap.size (Nat.le_refl _) p e ha hc hk s m _ below hf ((Spec.applies_iff_loose hf).mp happ).1 ⟨rfl, State.Warmed39.refl s, rfl⟩ trivial
  have hv : v = some (.int (b2i (f0 i0 i1 i2 i3))) := hQ.1
  rw [own_law i0 i1 i2 i3] at hv
  subst hv
  have N : Fr s.heap.size L := by first | exact hQ.2.1 | exact hQ.2
  refine ⟨n, _, h1, h2, h3, hpost _ _ _ _ _ _ ⟨Cond.after_iff.mpr rfl, Cond.after_iff.mpr (eq_i res_at (Term.int_eval (1)) rfl), trivial⟩ ⟨hq.1, hq.2.1, (hq.2.2.sift fun y hy => Or.inr (N y hy)).mono (by decide) (by decide)⟩⟩
theorem main_1_1 : Claimed_1_1 := comes_1 fun _ _ _ _ _ _ h hF => ⟨h.1, hF⟩
theorem main_1_2 : Claimed_1_2 := comes_1 fun _ _ _ _ _ _ h hF => ⟨h.2.1, hF⟩
end Jvm.Pilot.@@N@@
namespace Jvm.Pilot.@@N@@
open Jvm Jvm.ClassFile Sem Op Lib Jvm.Free Jvm.Stand Jvm.Pilot.@@N@@.Jvm.D
/-! MADE BY PROGRAM (witnessworld.py) out of the Statement's table words and the real class files: 12 classes; the members and pool entries that the words name. The judged class is class 1, her method 1. -/
namespace start1
open Jvm.ClassFile
def u (s : String) : CpInfo := .utf8 (stringToUtf16 s)
/-- a pool by its gaps: so many unusable entries, then the entry; so many at the end -/
def gap : Nat → List CpInfo → List CpInfo
  | 0, r => r
  | n + 1, r => .unusable :: gap n r
def poolList (es : List (Nat × CpInfo)) (last : Nat) : List CpInfo := es.foldr (fun e r => gap e.1 (e.2 :: r)) (gap last [])
def pool (es : List (Nat × CpInfo)) (last : Nat) : Array CpInfo := ⟨poolList es last⟩
def fileOf (pool : Array CpInfo) (this : Nat) (attrs : Array Attribute := #[]) (ms : Array MethodInfo := #[]) (fl : Nat := 33) (sup : Nat := 0) (ifs : Array Nat := #[]) (fds : Array FieldInfo := #[]) : ClassFile where
  minorVersion := 0
  majorVersion := 65
  constantPool := pool
  accessFlags := fl
  thisClass := this
  superClass := sup
  interfaces := ifs
  fields := fds
  methods := ms
  attributes := attrs
def plain (name : String) (sup : Option ClassId) : Class where
  name := name
  kind := .ordinary
  loader := none
  accessFlags := 33
  super := sup
  interfaces := #[]
  cf := none
  fields := #[]
  methods := #[]
  instanceTypes := #[]
  staticTypes := #[]
  resolved := #[]
  callSites := []
  init := .initialized
  statics := none
  mirror := none

def pool0 : Array CpInfo := pool [(5, u "<init>"), (0, u "()V"), (1, .class_ 10), (1, u "java/lang/Object")] 113

def k0m0 : Method := { name := "<init>", desc := "()V", sig := { parameters := [], returnType := none }, accessFlags := 1, code := none }
/-- java/lang/Object -/
def k0 : Class := { plain "java/lang/Object" none with
  accessFlags := 33
  interfaces := #[]
  cf := some (fileOf pool0 8 #[] #[{ accessFlags := 1, nameIndex := 5, descriptorIndex := 6, attributes := #[] }] 33 0 #[] #[])
  fields := #[]
  methods := #[k0m0]
  instanceTypes := #[]
  staticTypes := #[]
  resolved := Array.replicate 124 none
  statics := none }

def pool1 : Array CpInfo := pool [(2, .class_ 4), (1, u "java/lang/Object"), (0, u "<init>"), (0, u "()V"), (0, .integer 2147483647), (0, .methodref 9 10), (0, .class_ 11), (0, .nameAndType 12 13), (0, u "com/example/careful_audit/carefulaudit/DataTypeIsHexPrefixPinLaw"), (0, u "put"), (0, u "(BZB)B"), (0, .methodref 15 16), (0, .class_ 17), (0, .nameAndType 18 19), (0, u "com/example/careful_audit/carefulaudit/DataType"), (0, u "isHexPrefix"), (0, u "([BII)Z"), (2, u "law"), (0, u "(IIIJ)Z")] 5

def k1m0 : Method := { name := "<init>", desc := "()V", sig := { parameters := [], returnType := none }, accessFlags := 1, code := none }
def k1c1 : Code := { maxStack := 5, maxLocals := 11, code := code, exceptionTable := #[], attributes := #[] }
def k1m1 : Method := { name := "law", desc := "(IIIJ)Z", sig := { parameters := [.int, .int, .int, .long], returnType := some .boolean }, accessFlags := 9, code := some k1c1 }
def k1c2 : Code := { maxStack := 2, maxLocals := 3, code := method_3_code, exceptionTable := #[], attributes := #[] }
def k1m2 : Method := { name := "put", desc := "(BZB)B", sig := { parameters := [.byte, .boolean, .byte], returnType := some .byte }, accessFlags := 10, code := some k1c2 }
/-- com/example/careful_audit/carefulaudit/DataTypeIsHexPrefixPinLaw -/
def k1 : Class := { plain "com/example/careful_audit/carefulaudit/DataTypeIsHexPrefixPinLaw" (some 0) with
  accessFlags := 49
  interfaces := #[]
  cf := some (fileOf pool1 9 #[] #[{ accessFlags := 1, nameIndex := 5, descriptorIndex := 6, attributes := #[] }, { accessFlags := 9, nameIndex := 22, descriptorIndex := 23, attributes := #[] }, { accessFlags := 10, nameIndex := 12, descriptorIndex := 13, attributes := #[] }] 49 2 #[] #[])
  fields := #[]
  methods := #[k1m0, k1m1, k1m2]
  instanceTypes := #[]
  staticTypes := #[]
  resolved := Array.replicate 29 none
  statics := none }

def pool2 : Array CpInfo := pool [(1, .class_ 2), (0, u "java/lang/constant/Constable"), (0, .class_ 4), (0, u "java/lang/Object")] 6

/-- java/lang/constant/Constable -/
def k2 : Class := { plain "java/lang/constant/Constable" (some 0) with
  accessFlags := 1537
  interfaces := #[]
  cf := some (fileOf pool2 1 #[] #[] 1537 3 #[] #[])
  fields := #[]
  methods := #[]
  instanceTypes := #[]
  staticTypes := #[]
  resolved := Array.replicate 11 none
  statics := none }

def pool3 : Array CpInfo := pool [(1, .class_ 2), (0, u "java/lang/Comparable"), (0, .class_ 4), (0, u "java/lang/Object")] 7

/-- java/lang/Comparable -/
def k3 : Class := { plain "java/lang/Comparable" (some 0) with
  accessFlags := 1537
  interfaces := #[]
  cf := some (fileOf pool3 1 #[] #[] 1537 3 #[] #[])
  fields := #[]
  methods := #[]
  instanceTypes := #[]
  staticTypes := #[]
  resolved := Array.replicate 12 none
  statics := none }

def pool4 : Array CpInfo := pool [(1, .class_ 2), (0, u "java/io/Serializable"), (0, .class_ 4), (0, u "java/lang/Object")] 2

/-- java/io/Serializable -/
def k4 : Class := { plain "java/io/Serializable" (some 0) with
  accessFlags := 1537
  interfaces := #[]
  cf := some (fileOf pool4 1 #[] #[] 1537 3 #[] #[])
  fields := #[]
  methods := #[]
  instanceTypes := #[]
  staticTypes := #[]
  resolved := Array.replicate 7 none
  statics := none }

def pool5 : Array CpInfo := pool [(2, .class_ 4), (1, u "java/lang/Enum"), (0, u "name"), (0, u "Ljava/lang/String;"), (2, u "ordinal"), (0, u "I"), (1, .class_ 14), (1, u "java/lang/Object"), (4, u "hash"), (86, .class_ 108), (1, u "java/lang/Enum$EnumDesc"), (2, .class_ 112), (0, u "java/lang/constant/Constable"), (0, .class_ 114), (0, u "java/lang/Comparable"), (0, .class_ 116), (0, u "java/io/Serializable")] 87

/-- java/lang/Enum -/
def k5 : Class := { plain "java/lang/Enum" (some 0) with
  accessFlags := 1057
  interfaces := #[2, 3, 4]
  cf := some (fileOf pool5 2 #[.nestMembers #[106]] #[] 1057 12 #[111, 113, 115] #[{ accessFlags := 18, nameIndex := 5, descriptorIndex := 6, attributes := #[] }, { accessFlags := 18, nameIndex := 9, descriptorIndex := 10, attributes := #[] }, { accessFlags := 2, nameIndex := 19, descriptorIndex := 10, attributes := #[] }])
  fields := #[{ name := "name", type := (.object "java/lang/String"), accessFlags := 18, slot := 0, constantValue := 0 }, { name := "ordinal", type := .int, accessFlags := 18, slot := 1, constantValue := 0 }, { name := "hash", type := .int, accessFlags := 2, slot := 2, constantValue := 0 }]
  methods := #[]
  instanceTypes := #[(.object "java/lang/String"), .int, .int]
  staticTypes := #[]
  resolved := Array.replicate 204 none
  statics := none }

def pool6 : Array CpInfo := pool [(1, .class_ 2), (0, u "com/example/careful_audit/carefulaudit/DataType"), (2, u "UI32"), (0, u "Lcom/example/careful_audit/carefulaudit/DataType;"), (2, u "UI64"), (2, u "FC32"), (2, u "IPAD"), (2, u "CSTR"), (2, u "$VALUES"), (0, u "[Lcom/example/careful_audit/carefulaudit/DataType;"), (6, .class_ 31), (1, u "java/lang/Enum"), (40, u "BY_NAME"), (0, u "Lcom/example/careful_audit/carefulaudit/CodeTable;"), (22, u "MAX_UI64_TENTH"), (0, u "J"), (38, .class_ 137), (0, u "com/example/careful_audit/carefulaudit/DataType$1"), (2, .class_ 141), (0, u "com/example/careful_audit/carefulaudit/DataType$2"), (1, .class_ 144), (0, u "com/example/careful_audit/carefulaudit/DataType$3"), (2, .class_ 148), (0, u "com/example/careful_audit/carefulaudit/DataType$4"), (2, .class_ 152), (0, u "com/example/careful_audit/carefulaudit/DataType$5"), (15, u "MAX_UI32"), (3, u "SAFE_DIGITS"), (0, u "I"), (1, u "SAFE_HEX_DIGITS"), (1, u "SAFE_UI32_DIGITS"), (3, u "QUOTE"), (0, u "B"), (1, u "BACKSLASH"), (18, u "isHexPrefix"), (0, u "([BII)Z")] 36

def k6c0 : Code := { maxStack := 3, maxLocals := 3, code := prog_10_method_10_code, exceptionTable := #[], attributes := #[] }
def k6m0 : Method := { name := "isHexPrefix", desc := "([BII)Z", sig := { parameters := [(.array .byte), .int, .int], returnType := some .boolean }, accessFlags := 8, code := some k6c0 }
/-- com/example/careful_audit/carefulaudit/DataType -/
def k6 : Class := { plain "com/example/careful_audit/carefulaudit/DataType" (some 5) with
  accessFlags := 17441
  interfaces := #[]
  cf := some (fileOf pool6 1 #[.nestMembers #[151, 147, 143, 140, 136]] #[{ accessFlags := 8, nameIndex := 203, descriptorIndex := 204, attributes := #[] }] 17441 29 #[] #[{ accessFlags := 16409, nameIndex := 5, descriptorIndex := 6, attributes := #[] }, { accessFlags := 16409, nameIndex := 9, descriptorIndex := 6, attributes := #[] }, { accessFlags := 16409, nameIndex := 12, descriptorIndex := 6, attributes := #[] }, { accessFlags := 16409, nameIndex := 15, descriptorIndex := 6, attributes := #[] }, { accessFlags := 16409, nameIndex := 18, descriptorIndex := 6, attributes := #[] }, { accessFlags := 26, nameIndex := 168, descriptorIndex := 97, attributes := #[] }, { accessFlags := 26, nameIndex := 96, descriptorIndex := 97, attributes := #[] }, { accessFlags := 26, nameIndex := 172, descriptorIndex := 173, attributes := #[] }, { accessFlags := 26, nameIndex := 175, descriptorIndex := 173, attributes := #[] }, { accessFlags := 26, nameIndex := 177, descriptorIndex := 173, attributes := #[] }, { accessFlags := 26, nameIndex := 72, descriptorIndex := 73, attributes := #[] }, { accessFlags := 26, nameIndex := 181, descriptorIndex := 182, attributes := #[] }, { accessFlags := 26, nameIndex := 184, descriptorIndex := 182, attributes := #[] }, { accessFlags := 4122, nameIndex := 21, descriptorIndex := 22, attributes := #[] }])
  fields := #[{ name := "UI32", type := (.object "com/example/careful_audit/carefulaudit/DataType"), accessFlags := 16409, slot := 0, constantValue := 0 }, { name := "UI64", type := (.object "com/example/careful_audit/carefulaudit/DataType"), accessFlags := 16409, slot := 1, constantValue := 0 }, { name := "FC32", type := (.object "com/example/careful_audit/carefulaudit/DataType"), accessFlags := 16409, slot := 2, constantValue := 0 }, { name := "IPAD", type := (.object "com/example/careful_audit/carefulaudit/DataType"), accessFlags := 16409, slot := 3, constantValue := 0 }, { name := "CSTR", type := (.object "com/example/careful_audit/carefulaudit/DataType"), accessFlags := 16409, slot := 4, constantValue := 0 }, { name := "MAX_UI32", type := .long, accessFlags := 26, slot := 5, constantValue := 0 }, { name := "MAX_UI64_TENTH", type := .long, accessFlags := 26, slot := 6, constantValue := 0 }, { name := "SAFE_DIGITS", type := .int, accessFlags := 26, slot := 7, constantValue := 0 }, { name := "SAFE_HEX_DIGITS", type := .int, accessFlags := 26, slot := 8, constantValue := 0 }, { name := "SAFE_UI32_DIGITS", type := .int, accessFlags := 26, slot := 9, constantValue := 0 }, { name := "BY_NAME", type := (.object "com/example/careful_audit/carefulaudit/CodeTable"), accessFlags := 26, slot := 10, constantValue := 0 }, { name := "QUOTE", type := .byte, accessFlags := 26, slot := 11, constantValue := 0 }, { name := "BACKSLASH", type := .byte, accessFlags := 26, slot := 12, constantValue := 0 }, { name := "$VALUES", type := (.array (.object "com/example/careful_audit/carefulaudit/DataType")), accessFlags := 4122, slot := 13, constantValue := 0 }]
  methods := #[k6m0]
  instanceTypes := #[(.object "java/lang/String"), .int, .int]
  staticTypes := #[(.object "com/example/careful_audit/carefulaudit/DataType"), (.object "com/example/careful_audit/carefulaudit/DataType"), (.object "com/example/careful_audit/carefulaudit/DataType"), (.object "com/example/careful_audit/carefulaudit/DataType"), (.object "com/example/careful_audit/carefulaudit/DataType"), .long, .long, .int, .int, .int, (.object "com/example/careful_audit/carefulaudit/CodeTable"), .byte, .byte, (.array (.object "com/example/careful_audit/carefulaudit/DataType"))]
  resolved := Array.replicate 241 none
  statics := none }

def pool7 : Array CpInfo := pool [(1, u "java/lang/Cloneable"), (0, .class_ 1), (0, u "java/lang/Object"), (0, .class_ 3)] 3

/-- java/lang/Cloneable -/
def k7 : Class := { plain "java/lang/Cloneable" (some 0) with
  accessFlags := 1537
  interfaces := #[]
  cf := some (fileOf pool7 2 #[] #[] 1537 4 #[] #[])
  fields := #[]
  methods := #[]
  instanceTypes := #[]
  staticTypes := #[]
  resolved := Array.replicate 8 none
  statics := none }

/-- the primitive byte -/
def k8 : Class := { plain "byte" none with kind := .primitive 'B', accessFlags := 0x411 }
/-- [B -/
def k9 : Class := { plain "[B" (some 0) with kind := .array 8 .byte, interfaces := #[7, 4], accessFlags := 1041 }

/-- the primitive int -/
def k10 : Class := { plain "int" none with kind := .primitive 'I', accessFlags := 0x411 }
/-- [I -/
def k11 : Class := { plain "[I" (some 0) with kind := .array 10 .int, interfaces := #[7, 4], accessFlags := 1041 }

def heap : Heap := #[]
def classes : Array Class := #[k0, k1, k2, k3, k4, k5, k6, k7, k8, k9, k10, k11]
def interned : List (Array UInt16 × Addr) := []
def slotsUsed : Nat := 0
def theMethod : MethodId := ⟨1, 1⟩
def args0 : Array Value := #[.int 5, .int 7, .int 3, .long 9]
def aboutOver (below : List Frame) : State where
  vm := { classes := classes, interned := interned.toArray }
  heap := heap
  slotsUsed := slotsUsed
  threads := #[{ frames := .invoking theMethod args0 :: below }]
def below0 : List Frame := [.native { method := ⟨0, 0⟩, args := #[] }]
def about1 : State := aboutOver below0
def p0 : Program := .bare "" "" ""
def e0 : Env := launch0.env 0 0 0
theorem w_frames : about1.frames = Frame.invoking theMethod args0 :: below0 := rfl
set_option maxRecDepth 65536 in
theorem w_args : argsFit about1.vm theMethod args0 = true := by decide +kernel
set_option maxRecDepth 65536 in
theorem w_heap : heapFits about1 = true := by decide +kernel
set_option maxRecDepth 65536 in
theorem w_runnable : about1.curStatus? = some .runnable := by decide +kernel
set_option maxRecDepth 65536 in
theorem w_alone : about1.alone = true := by decide +kernel
set_option maxRecDepth 65536 in
theorem w_named : about1.methodNamed? x = some theMethod := by decide +kernel
set_option maxRecDepth 65536 in
theorem w_hears : about1.hears theMethod below0 = true := by decide +kernel
set_option maxRecDepth 65536 in
theorem w_ripe : about1.ripe theMethod args0 below0 = true := by decide +kernel
theorem w_running : about1.status = .running := rfl
set_option maxRecDepth 65536 in
theorem w_room : about1.hasRoom e0.platform room_1 = true :=
  launch0.hasRoom_least _ room_1 (by decide +kernel) (by decide +kernel) (by decide +kernel) (by decide +kernel) (by decide +kernel) (by decide +kernel)
theorem allAtoms_all (ts : List Jvm.Cond) (a : Array Jvm.Value) (st : Jvm.State) : (allAtoms ts).before a st = ts.all (fun c => c.before a st) := by
  induction ts with
  | nil => rfl
  | cons c t ih =>
    show (Jvm.Cond.and c (allAtoms t)).before a st = _
    rw [Jvm.Cond.before_and, ih, List.all_cons]
def words1 : List Jvm.Cond := Jvm.Cond.code x code maxLocals ret :: tables_1
/-- a 'code' word, met by the world's own term for the bytes: nothing is compared byte by byte -/
theorem code_word {y : MethodName} {bytes : ByteArray} {mx : Nat} {rt : Option FieldType} {a : Array Value} {s : State} {m : MethodId} {meth : Method} {c : Code} (h1 : s.methodNamed? y = some m) (h2 : s.vm.method? m = some meth) (h3 : meth.code = some c) (h4 : c.code = bytes)
    (h5 : (c.maxLocals == mx && c.exceptionTable.isEmpty && decide (c.maxStack ≤ mostOperands) && decide (meth.sig.returnType = rt) && !meth.locks && decide (parseMethodDescriptor y.desc = some meth.sig)) = true) : (Jvm.Cond.code y bytes mx rt).before a s = true := by
  simp only [Bool.and_eq_true, beq_iff_eq, Bool.not_eq_true', decide_eq_true_eq] at h5
  obtain ⟨⟨⟨⟨⟨g1, g2⟩, g3⟩, g4⟩, g5⟩, g6⟩ := h5
  simp [Cond.before, Cond.holds, Cond.value, h1, h2, h3, h4, g1, g2, g3, g4, g5, g6]
def isCode : Jvm.Cond → Bool
  | .code _ _ _ _ => true
  | _ => false
theorem all_split {L : List Jvm.Cond} {P : Jvm.Cond → Bool} (h1 : L.all (fun c => isCode c || P c) = true) (h2 : ∀ c ∈ L.filter isCode, P c = true) : L.all P = true := by
  refine List.all_eq_true.mpr fun c hc => ?_
  have h := List.all_eq_true.mp h1 c hc
  rcases Bool.eq_false_or_eq_true (isCode c) with hi | hi
  · exact h2 c (List.mem_filter.mpr ⟨hc, hi⟩)
  · simpa [hi] using h
set_option maxRecDepth 65536 in
theorem w_c0 : (Jvm.Cond.code x code maxLocals ret).before args0 about1 = true := code_word (m := ⟨1, 1⟩) (meth := k1m1) (c := k1c1) (by decide +kernel) rfl rfl rfl (by decide +kernel)
set_option maxRecDepth 65536 in
theorem w_c1 : (Jvm.Cond.code ({ cls := "com/example/careful_audit/carefulaudit/DataTypeIsHexPrefixPinLaw", name := "put", desc := "(BZB)B" } : Jvm.MethodName) method_3_code (3 : Nat) (Option.some Jvm.ClassFile.FieldType.byte)).before args0 about1 = true := code_word (m := ⟨1, 2⟩) (meth := k1m2) (c := k1c2) (by decide +kernel) rfl rfl rfl (by decide +kernel)
set_option maxRecDepth 65536 in
theorem w_c2 : (Jvm.Cond.code ({ cls := "com/example/careful_audit/carefulaudit/DataType", name := "isHexPrefix", desc := "([BII)Z" } : Jvm.MethodName) prog_10_method_10_code (3 : Nat) (Option.some Jvm.ClassFile.FieldType.boolean)).before args0 about1 = true := code_word (m := ⟨6, 0⟩) (meth := k6m0) (c := k6c0) (by decide +kernel) rfl rfl rfl (by decide +kernel)
def codes1 : List Jvm.Cond := [Jvm.Cond.code x code maxLocals ret, Jvm.Cond.code ({ cls := "com/example/careful_audit/carefulaudit/DataTypeIsHexPrefixPinLaw", name := "put", desc := "(BZB)B" } : Jvm.MethodName) method_3_code (3 : Nat) (Option.some Jvm.ClassFile.FieldType.byte), Jvm.Cond.code ({ cls := "com/example/careful_audit/carefulaudit/DataType", name := "isHexPrefix", desc := "([BII)Z" } : Jvm.MethodName) prog_10_method_10_code (3 : Nat) (Option.some Jvm.ClassFile.FieldType.boolean)]
set_option maxRecDepth 65536 in
theorem codes_eq : words1.filter isCode = codes1 := rfl
theorem w_codes : ∀ c ∈ words1.filter isCode, c.before args0 about1 = true := by
  rw [codes_eq]
  intro c hc
  simp only [codes1, List.mem_cons, List.not_mem_nil, or_false] at hc
  rcases hc with rfl | rfl | rfl
  · exact w_c0
  · exact w_c1
  · exact w_c2
set_option maxRecDepth 65536 in
theorem w_t1 : words1.all (fun c => isCode c || c.before args0 about1) = true := by decide +kernel
theorem w_tables : (allAtoms (Jvm.Cond.code x code maxLocals ret :: tables_1)).before args0 about1 = true := by
  rw [allAtoms_all]
  show words1.all (fun c => c.before args0 about1) = true
  refine all_split ?_ w_codes
  rw [w_t1]
set_option maxRecDepth 65536 in
theorem w_case : (Jvm.Cond.and given_1 narrow_1).before args0 about1 = true := by decide +kernel
theorem w_applies : (headSpec (Jvm.Cond.code x code maxLocals ret :: tables_1) room_1).applies x e0.platform about1 = true :=
  (Spec.applies_iff w_frames).mpr ⟨w_running, w_runnable, w_alone, w_named, w_hears, w_ripe, w_room, w_tables⟩
theorem atStart : AtStart classFile x code maxLocals ret World_1 tables_1 room_1 Calls_1 rest_1 Pre_1 launch0 p0 e0 about1 theMethod args0 below0 :=
  ⟨lists_1, trivial, launch0.admits_env _ _ _, launch0.least_env, fairChoices_fair.cas, fairChoices_fair.clock, w_frames, w_args, w_heap, w_applies, trivial, trivial, w_case⟩
end start1
theorem witness_1 : WitnessClaimed_1 := ⟨start1.p0, start1.e0, start1.about1, start1.theMethod, start1.args0, start1.below0, start1.atStart⟩
end Jvm.Pilot.@@N@@
