import JvmDerived
import JvmDerived.Pilot.@@N@@Statement
import JvmDerived.Pilot.@@N@@Code
set_option linter.unusedVariables false
set_option linter.unusedSimpArgs false
namespace Jvm.RoadKit
open Sem ClassFile Op Lib Jvm.Stand Jvm.Free Jvm.LawKit
section OwnKit
variable {p : Program} {l : Launch} {e : Env} {R : Room} {s : State} {m : MethodId} {args : Array Value} {below : List Frame} {meth : Method} {c : Code} {T : State} {locs : List Loc} {cells slots : Nat}
/-- a boolean as the machine's int -/
def b2i (b : Bool) : Int32 := bif b then 1 else 0
theorem b2i_t {b : Bool} (h : b = true) : ¬ b2i b = 0 := by subst h; decide
theorem b2i_f {b : Bool} (h : ¬ b = true) : b2i b = 0 := by cases b <;> first | rfl | exact absurd rfl h
theorem b2i_inj {a b : Bool} (h : b2i a = b2i b) : a = b := by cases a <;> cases b <;> first | rfl | exact absurd h (by decide)
theorem nar_b2i (b : Bool) : nar .boolean (b2i b) = b2i b := by cases b <;> decide
/-- from the state U the walk comes to an end that P holds of -/
def Go (tb : Tables) (e : Env) (below : List Frame) (P : Outcome → State → Prop) (U : State) : Prop := ∃ s₂ o, Steps tb e below U s₂ ∧ s₂.status = .running ∧ Ended s₂ below o ∧ P o s₂
theorem Go.back {tb : Tables} {P : Outcome → State → Prop} {U V : State} (h : ∀ t, Steps tb e below V t → Steps tb e below U t) (k : Go tb e below P V) : Go tb e below P U := by
  obtain ⟨s2, o, h1, h2⟩ := k
  exact ⟨s2, o, h _ h1, h2⟩
theorem Go.trans {tb : Tables} {P : Outcome → State → Prop} {U V : State} (h : Steps tb e below U V) (k : Go tb e below P V) : Go tb e below P U := by
  obtain ⟨s2, o, h1, h2⟩ := k
  exact ⟨s2, o, Steps.trans h h1, h2⟩
abbrev Fin (s : State) (Q : Option Value → Heap → List Loc → Prop) (K S : Nat) : Outcome → State → Prop := fun o U' => ∃ v L, o = .returned v ∧ Q v U'.heap L ∧ FrameEnd s o U' L K S
theorem retI0 (X : Stand p l e R s m args below meth c T locs cells slots) (hx : p.tables.exec = Jvm.exec) {pc : Nat} {Ls : Array Slot} {z : Int32} {rest : List Value} (hret : meth.sig.returnType = some .int) (hd : decode c.code pc = .ok (.ireturn, 1)) {fs : List Frame}
    (hl : ∀ (f : JFrame) (acts : List Action), f.method = m → f.locked = none → f.entered = [] → (doReturn e (T.setTop f) acts (some (.int z))).1 = T.setFrames fs) : Steps p.tables e below (T.setTop (mkF m pc Ls (.int z :: rest))) (T.setFrames fs) := by
  have hm' : T.vm.method? m = some meth := X.method'
  have hn : narrow .int (.int z) = .int z := rfl
  show Steps p.tables e below (T.setTop { method := m, pc := pc, locals := Ls, stack := _ :: rest, locked := none }) _
  jvm_step X.here [X.here.top, hx, hd, hm', hret, hn]
  first | (intro acts; rw [hl _ acts rfl rfl rfl]) | rw [hl _ _ rfl rfl rfl]
  exact Steps.refl _
theorem Go.retI (X : Stand p l e R s m args below meth c T locs cells slots) (hx : p.tables.exec = Jvm.exec) {pc : Nat} {Ls : Array Slot} {z : Int32} {rest : List Value} (hret : meth.sig.returnType = some .int) (hd : decode c.code pc = .ok (.ireturn, 1)) (hlk : meth.locks = false) {Q : Option Value → Heap → List Loc → Prop} {K S : Nat} (hQ : Q (some (.int z)) T.heap locs) (hc : cells ≤ K) (hs : slots ≤ S) :
    Go p.tables e below (Fin s Q K S) (T.setTop (mkF m pc Ls (.int z :: rest))) := by
  obtain ⟨fs, hr, hrun, hended, hW, hsame⟩ := X.leave (v := some (.int z)) (fun h => by rw [hret] at h; cases h) hlk
  exact ⟨_, _, retI0 X hx hret hd hr, hrun, hended, _, _, rfl, hQ, ⟨_, rfl⟩, hW, hsame.mono hc hs⟩
theorem Go.retN (X : Stand p l e R s m args below meth c T locs cells slots) (hx : p.tables.exec = Jvm.exec) {pc : Nat} {Ls : Array Slot} {z : Int32} {rest : List Value} {t : FieldType} (hret : meth.sig.returnType = some t) (ht : t = .boolean ∨ t = .byte ∨ t = .char ∨ t = .short) (hd : decode c.code pc = .ok (.ireturn, 1)) (hlk : meth.locks = false) {Q : Option Value → Heap → List Loc → Prop} {K S : Nat} (hQ : Q (some (.int (nar t z))) T.heap locs) (hc : cells ≤ K) (hs : slots ≤ S) :
    Go p.tables e below (Fin s Q K S) (T.setTop (mkF m pc Ls (.int z :: rest))) := by
  obtain ⟨fs, hr, hrun, hended, hW, hsame⟩ := X.leave (v := some (.int (nar t z))) (fun h => by rw [hret] at h; cases h) hlk
  exact ⟨_, _, Jvm.RoadKit.retN X hx hret ht hd hr, hrun, hended, _, _, rfl, hQ, ⟨_, rfl⟩, hW, hsame.mono hc hs⟩
theorem Go.retB (X : Stand p l e R s m args below meth c T locs cells slots) (hx : p.tables.exec = Jvm.exec) {pc : Nat} {Ls : Array Slot} {b : Bool} {rest : List Value} (hret : meth.sig.returnType = some .boolean) (hd : decode c.code pc = .ok (.ireturn, 1)) (hlk : meth.locks = false) {Q : Option Value → Heap → List Loc → Prop} {K S : Nat} (hQ : Q (some (.int (b2i b))) T.heap locs) (hc : cells ≤ K) (hs : slots ≤ S) :
    Go p.tables e below (Fin s Q K S) (T.setTop (mkF m pc Ls (.int (b2i b) :: rest))) := Go.retN X hx hret (Or.inl rfl) hd hlk (by rw [nar_b2i]; exact hQ) hc hs
theorem Go.retJ (X : Stand p l e R s m args below meth c T locs cells slots) (hx : p.tables.exec = Jvm.exec) {pc : Nat} {Ls : Array Slot} {z : Int64} (hret : meth.sig.returnType = some .long) (hd : decode c.code pc = .ok (.lreturn, 1)) (hlk : meth.locks = false) {Q : Option Value → Heap → List Loc → Prop} {K S : Nat} (hQ : Q (some (.long z)) T.heap locs) (hc : cells ≤ K) (hs : slots ≤ S) :
    Go p.tables e below (Fin s Q K S) (T.setTop (mkF m pc Ls [.long z])) := by
  obtain ⟨fs, hr, hrun, hended, hW, hsame⟩ := X.leave (v := some (.long z)) (fun h => by rw [hret] at h; cases h) hlk
  exact ⟨_, _, X.lreturnOut hx hret hd hr, hrun, hended, _, _, rfl, hQ, ⟨_, rfl⟩, hW, hsame.mono hc hs⟩
theorem Go.retR (X : Stand p l e R s m args below meth c T locs cells slots) (hx : p.tables.exec = Jvm.exec) {pc : Nat} {Ls : Array Slot} {a : Addr} {t : FieldType} (hret : meth.sig.returnType = some t) (ht : t.isReference = true) (hd : decode c.code pc = .ok (.areturn, 1)) (hlk : meth.locks = false) {Q : Option Value → Heap → List Loc → Prop} {K S : Nat} (hQ : Q (some (.ref a)) T.heap locs) (hc : cells ≤ K) (hs : slots ≤ S) :
    Go p.tables e below (Fin s Q K S) (T.setTop (mkF m pc Ls [.ref a])) := by
  obtain ⟨fs, hr, hrun, hended, hW, hsame⟩ := X.leave (v := some (.ref a)) (fun h => by rw [hret] at h; cases h) hlk
  exact ⟨_, _, X.areturnOut hx rfl hret ht hd hr, hrun, hended, _, _, rfl, hQ, ⟨_, rfl⟩, hW, hsame.mono hc hs⟩
theorem Go.retV (X : Stand p l e R s m args below meth c T locs cells slots) (hx : p.tables.exec = Jvm.exec) {pc : Nat} {Ls : Array Slot} (hret : meth.sig.returnType = none) (hd : decode c.code pc = .ok (.return_, 1)) (hlk : meth.locks = false) {Q : Option Value → Heap → List Loc → Prop} {K S : Nat} (hQ : Q none T.heap locs) (hc : cells ≤ K) (hs : slots ≤ S) :
    Go p.tables e below (Fin s Q K S) (T.setTop (mkF m pc Ls [])) := by
  obtain ⟨fs, hr, hrun, hended, hW, hsame⟩ := X.leave (v := none) (fun _ => rfl) hlk
  exact ⟨_, _, X.returnOut hx hret hd hr, hrun, hended, _, _, rfl, hQ, ⟨_, rfl⟩, hW, hsame.mono hc hs⟩
theorem lremM {g : JFrame} {target : State} (X : Stand p l e R s m args below meth c T locs cells slots) (hx : p.tables.exec = Jvm.exec) (hg : g.method = m) {x y : Int64} {rest : List Value} (hd : decode c.code g.pc = .ok (.lrem, 1)) (hs : g.stack = .long y :: .long x :: rest) (hy : y ≠ 0)
    (hr : Steps p.tables e below (T.setTop { g with pc := g.pc + 1, stack := .long (x % y) :: rest }) target) : Steps p.tables e below (T.setTop g) target :=
  XS.lrem X.here hx hg hd hs hy (by rw [lrem_mod x y]; exact hr)
theorem storeS_i {ls l' : Array Slot} {k : Nat} {o : Slot} {x : Int32} (hold : ls[k]? = some o) (h : One o) (q : ls.setIfInBounds k (.val (.int x)) = l') : storeLocals ls k (.int x) = some l' := by
  rw [XS.store1 hold h rfl, q]
theorem storeS_a {ls l' : Array Slot} {k : Nat} {o : Slot} {a : Addr} (hold : ls[k]? = some o) (h : One o) (q : ls.setIfInBounds k (.val (.ref a)) = l') : storeLocals ls k (.ref a) = some l' := by
  rw [XS.store1 hold h rfl, q]
end OwnKit
section OwnArr
variable {p : Program} {l : Launch} {e : Env} {R : Room} {s : State} {m : MethodId} {args : Array Value} {below : List Frame} {meth : Method} {c : Code} {T : State} {locs : List Loc} {cells slots : Nat} {Z : State} {h h' : Heap} {a b : Addr} {ty : FieldType} {vs : List Value} {v : Value} {sl : Nat} {ws : List Addr}
/-- the array at a, of the kind ty, holds just this list -/
def ArL (Z : State) (h : Heap) (a : Addr) (ty : FieldType) (vs : List Value) : Prop := ∃ c : Cell, Arr Z h a c ty ∧ c.slots.toList = vs
theorem ArL.lt (F : ArL Z h a ty vs) : a < h.size := by obtain ⟨c, A, -⟩ := F; exact A.lt
theorem ArL.ext (F : ArL Z h a ty vs) (E : Ext h h') : ArL Z h' a ty vs := by obtain ⟨c, A, r⟩ := F; exact ⟨c, A.ext E, r⟩
theorem ArL.other (F : ArL Z h b ty vs) (W : Wr h h' a sl v) (q : b ≠ a) : ArL Z h' b ty vs := by obtain ⟨c, A, r⟩ := F; exact ⟨c, A.other W q, r⟩
theorem ArL.keep (F : ArL Z h a ty vs) (K : Keep h h' ws) (q : a ∉ ws) : ArL Z h' a ty vs := by obtain ⟨c, A, r⟩ := F; exact ⟨c, ⟨K.2.1 a c A.1 q, A.2⟩, r⟩
theorem ArL.new {k : ClassId} {z : Int32} (A : Arr Z h a (newA k ty z) ty) {n : Nat} (q : z.toNatClampNeg = n) : ArL Z h a ty (List.replicate n (defaultValue ty)) := ⟨_, A, by subst q; simp [newA]⟩
theorem ArL.set (F : ArL Z h a ty vs) (W : Wr h h' a sl v) : ArL Z h' a ty (vs.set sl v) := by
  obtain ⟨c, A, r⟩ := F
  exact ⟨_, A.same W, by subst r; simp [Cell.setSlot]⟩
/-- a place of it: what a load and a store ask -/
theorem ArL.at (F : ArL Z h a ty vs) {j : Int32} (h0 : ¬ j < 0) (hj : j.toNatClampNeg < vs.length) : ∃ c : Cell, Arr Z h a c ty ∧ ¬ (j < 0 ∨ c.slots.size ≤ j.toNatClampNeg) ∧ c.slots[j.toNatClampNeg]? = some (vs[j.toNatClampNeg]'hj) := by
  obtain ⟨c, A, rfl⟩ := F
  have q : j.toNatClampNeg < c.slots.size := by simpa using hj
  refine ⟨c, A, fun z => z.elim h0 (fun y => absurd q (Nat.not_lt.mpr y)), ?_⟩
  rw [Array.getElem?_eq_getElem q]
  simp
theorem ArL.get (F : ArL Z h a ty vs) {j : Int32} (h0 : ¬ j < 0) (hv : vs[j.toNatClampNeg]? = some v) : ∃ c : Cell, Arr Z h a c ty ∧ ¬ (j < 0 ∨ c.slots.size ≤ j.toNatClampNeg) ∧ c.slots[j.toNatClampNeg]? = some v := by
  obtain ⟨hj, rfl⟩ := List.getElem?_eq_some_iff.mp hv
  exact F.at h0 hj
theorem ArL.setI {xs : List Int32} {x : Int32} {i : Nat} (F : ArL Z h a ty (List.map Value.int xs)) (W : Wr h h' a i (.int x)) : ArL Z h' a ty (List.map Value.int (xs.set i x)) := by
  rw [List.map_set]; exact F.set W
theorem ArL.setJ {xs : List Int64} {x : Int64} {i : Nat} (F : ArL Z h a ty (List.map Value.long xs)) (W : Wr h h' a i (.long x)) : ArL Z h' a ty (List.map Value.long (xs.set i x)) := by
  rw [List.map_set]; exact F.set W
theorem ArL.newI {k : ClassId} {z : Int32} (A : Arr Z h a (newA k ty z) ty) {n : Nat} (q : z.toNatClampNeg = n) (hd : defaultValue ty = .int 0 := by rfl) : ArL Z h a ty (List.map Value.int (List.replicate n (0 : Int32))) := by
  rw [List.map_replicate, ← hd]; exact ArL.new A q
theorem ArL.newJ {k : ClassId} {z : Int32} (A : Arr Z h a (newA k ty z) ty) {n : Nat} (q : z.toNatClampNeg = n) (hd : defaultValue ty = .long 0 := by rfl) : ArL Z h a ty (List.map Value.long (List.replicate n (0 : Int64))) := by
  rw [List.map_replicate, ← hd]; exact ArL.new A q
theorem getI (xs : List Int32) {i : Nat} (q : i < xs.length) : (List.map Value.int xs)[i]? = some (.int (xs.getD i 0)) := by
  rw [List.getElem?_map, List.getD_eq_getElem?_getD, List.getElem?_eq_getElem q]; rfl
theorem getJ (xs : List Int64) {i : Nat} (q : i < xs.length) : (List.map Value.long xs)[i]? = some (.long (xs.getD i 0)) := by
  rw [List.getElem?_map, List.getD_eq_getElem?_getD, List.getElem?_eq_getElem q]; rfl
theorem ArL.len (F : ArL Z h a ty vs) : ∃ c : Cell, Arr Z h a c ty ∧ c.slots.size = vs.length := by
  obtain ⟨c, A, rfl⟩ := F
  exact ⟨c, A, by simp⟩
end OwnArr
end Jvm.RoadKit
namespace Jvm.Pilot.@@N@@
open Jvm Jvm.ClassFile Sem Op Lib Jvm.Free Jvm.Stand Jvm.LawKit Jvm.RoadKit Bundle Jvm.Pilot.@@N@@.Jvm.D
theorem pd_0 : parseMethodDescriptor "(I)Z" = some ⟨[.int], some .boolean⟩ := by decide +kernel
theorem d2_0 : decode method_2_code 0 = .ok (.iload_n 0, 1) := by decide +kernel
theorem d2_1 : decode method_2_code 1 = .ok (.iconst 4, 1) := by decide +kernel
theorem d2_2 : decode method_2_code 2 = .ok (.iushr, 1) := by decide +kernel
theorem d2_3 : decode method_2_code 3 = .ok (.iconst 3, 1) := by decide +kernel
theorem d2_4 : decode method_2_code 4 = .ok (.if_icmp .ne 16, 3) := by decide +kernel
theorem d2_7 : decode method_2_code 7 = .ok (.iload_n 0, 1) := by decide +kernel
theorem d2_8 : decode method_2_code 8 = .ok (.bipush 15, 2) := by decide +kernel
theorem d2_10 : decode method_2_code 10 = .ok (.iand, 1) := by decide +kernel
theorem d2_11 : decode method_2_code 11 = .ok (.bipush 10, 2) := by decide +kernel
theorem d2_13 : decode method_2_code 13 = .ok (.if_icmp .ge 7, 3) := by decide +kernel
theorem d2_16 : decode method_2_code 16 = .ok (.iconst 1, 1) := by decide +kernel
theorem d2_17 : decode method_2_code 17 = .ok (.goto 4, 3) := by decide +kernel
theorem d2_20 : decode method_2_code 20 = .ok (.iconst 0, 1) := by decide +kernel
theorem d2_21 : decode method_2_code 21 = .ok (.ireturn, 1) := by decide +kernel
def f2 (p0 : Int32) : Bool := (let z3 : Bool := (if (((p0).toUInt32 >>> ((4 : Int32) &&& 31).toUInt32).toInt32) = (3 : Int32) then (if (p0 &&& (15 : Int32)) < (10 : Int32) then true else false) else false); z3)
def Q2 (p0 : Int32) (h0 : Heap) (n0 : Nat) (v : Option Value) (h : Heap) (L : List Loc) : Prop := v = some (.int (b2i (f2 p0))) ∧ Fr n0 L ∧ h = h0
abbrev rmm2 : Room := { frames := 0, cells := 0, slots := 0, locals := 0 }
abbrev P2 (p0 : Int32) (h0 : Heap) (n0 : Nat) (s : State) : Outcome → State → Prop := fun o U' => ∃ v L, o = .returned v ∧ Q2 p0 h0 n0 v U'.heap L ∧ FrameEnd s o U' L rmm2.cells rmm2.slots
theorem pn_2 : plainName "com/example/strict_schedule/strictschedule/history/ItemIsCharacterPinLaw" = true := by first | (simp [plainName, overriddenIn]; done) | decide +kernel
theorem ef_2 (m : MethodId) (p0 : Int32) : entryFrame m #[(.int p0)] 1 = mkF m 0 #[.val (.int p0)] [] := by first | (simp [entryFrame, mkF, argsToLocals, Value.category]; done) | rfl
set_option maxRecDepth 65536 in
set_option maxHeartbeats 40000000 in
theorem rm2 (l : Launch) (Z : State) (a0 : Array Value) (hw : ∀ d ∈ tables_1, d.before a0 Z = true) (ws : List Jvm.Cond) (p0 : Int32) (h0 : Heap) (n0 : Nat) :
    MetFree l (⟨"com/example/strict_schedule/strictschedule/history/ItemIsCharacterPinLaw", "isDigit", "(I)Z"⟩ : MethodName) (head1 (Jvm.Cond.code (⟨"com/example/strict_schedule/strictschedule/history/ItemIsCharacterPinLaw", "isDigit", "(I)Z"⟩ : MethodName) method_2_code 1 (some .boolean) :: ws) rmm2) (fun a U => a = #[(.int p0)] ∧ Z.Warmed39 U.vm ∧ U.heap = h0) (fun _ _ _ _ _ => True) (fun _ U o U' => ∃ v L, o = .returned v ∧ Q2 p0 h0 n0 v U'.heap L ∧ FrameEnd U o U' L rmm2.cells rmm2.slots) := by
  refine MetFree.of_bodySF (plainFor_of_name pn_2) hisR ?_
  intro p e s m args below meth c s₁ Bd hml0 hP hK
  obtain ⟨rfl, hZ, hh⟩ := hP
  have hx := Bd.exec
  have hby := Bd.bytes
  have hml : c.maxLocals = 1 := hml0
  have hown : s.vm.findClass "com/example/strict_schedule/strictschedule/history/ItemIsCharacterPinLaw" = some m.cls := findClass_of_methodNamed Bd.named
  have hnm := (name_of_methodNamed Bd.named Bd.method).1
  have X0 : Stand p l e rmm2 s m #[(.int p0)] below meth c s₁ [] 0 0 := Stand.of_body Bd
  have e0 : s₁.heap = h0 := by rw [← hh, Bd.state]; rfl
  have N0 := Fr.nil n0
  show Go p.tables e below (P2 p0 h0 n0 s) (s₁.setTop (entryFrame m #[(.int p0)] 1))
  refine Go.back (fun t k => castTop (ef_2 m p0) k) ?_
  show Go p.tables e below (P2 p0 h0 n0 s) (s₁.setTop (mkF m 0 #[.val (.int p0)] []))
  have hf : f2 p0 = (let z3 : Bool := (if (((p0).toUInt32 >>> ((4 : Int32) &&& 31).toUInt32).toInt32) = (3 : Int32) then (if (p0 &&& (15 : Int32)) < (10 : Int32) then true else false) else false); z3) := rfl
  refine Go.back (fun t k => XS.iloadN X0.here hx rfl (hb hby d2_0) rfl  k) ?_
  show Go p.tables e below (P2 p0 h0 n0 s) (s₁.setTop (mkF m 1 #[.val (.int p0)] [(.int p0)]))
  refine Go.back (fun t k => XS.iconst X0.here hx rfl (hb hby d2_1) k) ?_
  show Go p.tables e below (P2 p0 h0 n0 s) (s₁.setTop (mkF m 2 #[.val (.int p0)] [(.int (4 : Int32)), (.int p0)]))
  refine Go.back (fun t k => XS.iushr X0.here hx rfl (hb hby d2_2) rfl k) ?_
  show Go p.tables e below (P2 p0 h0 n0 s) (s₁.setTop (mkF m 3 #[.val (.int p0)] [(.int (((p0).toUInt32 >>> ((4 : Int32) &&& 31).toUInt32).toInt32))]))
  refine Go.back (fun t k => XS.iconst X0.here hx rfl (hb hby d2_3) k) ?_
  show Go p.tables e below (P2 p0 h0 n0 s) (s₁.setTop (mkF m 4 #[.val (.int p0)] [(.int (3 : Int32)), (.int (((p0).toUInt32 >>> ((4 : Int32) &&& 31).toUInt32).toInt32))]))
  have J2 : ∀ (z3 : Bool) (hz3 : z3 = (if (((p0).toUInt32 >>> ((4 : Int32) &&& 31).toUInt32).toInt32) = (3 : Int32) then (if (p0 &&& (15 : Int32)) < (10 : Int32) then true else false) else false)), Go p.tables e below (P2 p0 h0 n0 s) (s₁.setTop (mkF m 21 #[.val (.int p0)] [(.int (b2i z3))])) := by
    intro z3 hz3
    have r4 : f2 p0 = z3 := by subst hz3; exact hf
    show Go p.tables e below (P2 p0 h0 n0 s) (s₁.setTop (mkF m 21 #[.val (.int p0)] [(.int (b2i z3))]))
    exact Go.retB (b := z3) X0 hx Bd.returns (hb hby d2_21) Bd.notSynchronized ⟨by rw [r4], N0, e0⟩ (by decide) (by decide)
  have r5 : (if (((p0).toUInt32 >>> ((4 : Int32) &&& 31).toUInt32).toInt32) = (3 : Int32) then (if (p0 &&& (15 : Int32)) < (10 : Int32) then true else false) else false) = (if (((p0).toUInt32 >>> ((4 : Int32) &&& 31).toUInt32).toInt32) = (3 : Int32) then (if (p0 &&& (15 : Int32)) < (10 : Int32) then true else false) else false) := rfl
  by_cases hc1 : (((p0).toUInt32 >>> ((4 : Int32) &&& 31).toUInt32).toInt32) = (3 : Int32)
  · have r6 := r5.trans (if_pos hc1)
    refine Go.back (fun t k => XS.icmpNo X0.here hx rfl (hb hby d2_4) rfl (teq hc1).2 k) ?_
    show Go p.tables e below (P2 p0 h0 n0 s) (s₁.setTop (mkF m 7 #[.val (.int p0)] []))
    refine Go.back (fun t k => XS.iloadN X0.here hx rfl (hb hby d2_7) rfl  k) ?_
    show Go p.tables e below (P2 p0 h0 n0 s) (s₁.setTop (mkF m 8 #[.val (.int p0)] [(.int p0)]))
    refine Go.back (fun t k => XS.bipush X0.here hx rfl (hb hby d2_8) k) ?_
    show Go p.tables e below (P2 p0 h0 n0 s) (s₁.setTop (mkF m 10 #[.val (.int p0)] [(.int (15 : Int32)), (.int p0)]))
    refine Go.back (fun t k => XS.iand X0.here hx rfl (hb hby d2_10) rfl k) ?_
    show Go p.tables e below (P2 p0 h0 n0 s) (s₁.setTop (mkF m 11 #[.val (.int p0)] [(.int (p0 &&& (15 : Int32)))]))
    refine Go.back (fun t k => XS.bipush X0.here hx rfl (hb hby d2_11) k) ?_
    show Go p.tables e below (P2 p0 h0 n0 s) (s₁.setTop (mkF m 13 #[.val (.int p0)] [(.int (10 : Int32)), (.int (p0 &&& (15 : Int32)))]))
    by_cases hc7 : (p0 &&& (15 : Int32)) < (10 : Int32)
    · have r8 := r6.trans (if_pos hc7)
      refine Go.back (fun t k => XS.icmpNo X0.here hx rfl (hb hby d2_13) rfl (tlt hc7).2.1 k) ?_
      show Go p.tables e below (P2 p0 h0 n0 s) (s₁.setTop (mkF m 16 #[.val (.int p0)] []))
      refine Go.back (fun t k => XS.iconst X0.here hx rfl (hb hby d2_16) k) ?_
      show Go p.tables e below (P2 p0 h0 n0 s) (s₁.setTop (mkF m 17 #[.val (.int p0)] [(.int (1 : Int32))]))
      refine Go.back (fun t k => XS.goto X0.here hx rfl (pc0 := 17) (pc' := 21) rfl (hb hby d2_17) (by decide) (by decide) k) ?_
      show Go p.tables e below (P2 p0 h0 n0 s) (s₁.setTop (mkF m 21 #[.val (.int p0)] [(.int (1 : Int32))]))
      exact J2 true r8.symm
    · have r9 := r6.trans (if_neg hc7)
      refine Go.back (fun t k => XS.icmpYes X0.here hx rfl (pc0 := 13) (pc' := 20) rfl (hb hby d2_13) rfl (flt hc7).2.1 (by decide) (by decide) k) ?_
      show Go p.tables e below (P2 p0 h0 n0 s) (s₁.setTop (mkF m 20 #[.val (.int p0)] []))
      refine Go.back (fun t k => XS.iconst X0.here hx rfl (hb hby d2_20) k) ?_
      show Go p.tables e below (P2 p0 h0 n0 s) (s₁.setTop (mkF m 21 #[.val (.int p0)] [(.int (0 : Int32))]))
      exact J2 false r9.symm
  · have r10 := r5.trans (if_neg hc1)
    refine Go.back (fun t k => XS.icmpYes X0.here hx rfl (pc0 := 4) (pc' := 20) rfl (hb hby d2_4) rfl (feq hc1).2 (by decide) (by decide) k) ?_
    show Go p.tables e below (P2 p0 h0 n0 s) (s₁.setTop (mkF m 20 #[.val (.int p0)] []))
    refine Go.back (fun t k => XS.iconst X0.here hx rfl (hb hby d2_20) k) ?_
    show Go p.tables e below (P2 p0 h0 n0 s) (s₁.setTop (mkF m 21 #[.val (.int p0)] [(.int (0 : Int32))]))
    exact J2 false r10.symm
theorem d3_0 : decode method_3_code 0 = .ok (.iload_n 0, 1) := by decide +kernel
theorem d3_1 : decode method_3_code 1 = .ok (.bipush 32, 2) := by decide +kernel
theorem d3_3 : decode method_3_code 3 = .ok (.ior, 1) := by decide +kernel
theorem d3_4 : decode method_3_code 4 = .ok (.istore_n 1, 1) := by decide +kernel
theorem d3_5 : decode method_3_code 5 = .ok (.iload_n 1, 1) := by decide +kernel
theorem d3_6 : decode method_3_code 6 = .ok (.bipush 97, 2) := by decide +kernel
theorem d3_8 : decode method_3_code 8 = .ok (.if_icmp .lt 13, 3) := by decide +kernel
theorem d3_11 : decode method_3_code 11 = .ok (.iload_n 1, 1) := by decide +kernel
theorem d3_12 : decode method_3_code 12 = .ok (.bipush 122, 2) := by decide +kernel
theorem d3_14 : decode method_3_code 14 = .ok (.if_icmp .gt 7, 3) := by decide +kernel
theorem d3_17 : decode method_3_code 17 = .ok (.iconst 1, 1) := by decide +kernel
theorem d3_18 : decode method_3_code 18 = .ok (.goto 4, 3) := by decide +kernel
theorem d3_21 : decode method_3_code 21 = .ok (.iconst 0, 1) := by decide +kernel
theorem d3_22 : decode method_3_code 22 = .ok (.ireturn, 1) := by decide +kernel
def f3 (p0 : Int32) : Bool := (let z3 : Bool := (if (p0 ||| (32 : Int32)) < (97 : Int32) then false else (if (122 : Int32) < (p0 ||| (32 : Int32)) then false else true)); z3)
def Q3 (p0 : Int32) (h0 : Heap) (n0 : Nat) (v : Option Value) (h : Heap) (L : List Loc) : Prop := v = some (.int (b2i (f3 p0))) ∧ Fr n0 L ∧ h = h0
abbrev rmm3 : Room := { frames := 0, cells := 0, slots := 0, locals := 0 }
abbrev P3 (p0 : Int32) (h0 : Heap) (n0 : Nat) (s : State) : Outcome → State → Prop := fun o U' => ∃ v L, o = .returned v ∧ Q3 p0 h0 n0 v U'.heap L ∧ FrameEnd s o U' L rmm3.cells rmm3.slots
theorem pn_3 : plainName "com/example/strict_schedule/strictschedule/history/ItemIsCharacterPinLaw" = true := by first | (simp [plainName, overriddenIn]; done) | decide +kernel
theorem ef_3 (m : MethodId) (p0 : Int32) : entryFrame m #[(.int p0)] 2 = mkF m 0 #[.val (.int p0), .unset] [] := by first | (simp [entryFrame, mkF, argsToLocals, Value.category]; done) | rfl
set_option maxRecDepth 65536 in
set_option maxHeartbeats 40000000 in
theorem rm3 (l : Launch) (Z : State) (a0 : Array Value) (hw : ∀ d ∈ tables_1, d.before a0 Z = true) (ws : List Jvm.Cond) (p0 : Int32) (h0 : Heap) (n0 : Nat) :
    MetFree l (⟨"com/example/strict_schedule/strictschedule/history/ItemIsCharacterPinLaw", "isLetter", "(I)Z"⟩ : MethodName) (head1 (Jvm.Cond.code (⟨"com/example/strict_schedule/strictschedule/history/ItemIsCharacterPinLaw", "isLetter", "(I)Z"⟩ : MethodName) method_3_code 2 (some .boolean) :: ws) rmm3) (fun a U => a = #[(.int p0)] ∧ Z.Warmed39 U.vm ∧ U.heap = h0) (fun _ _ _ _ _ => True) (fun _ U o U' => ∃ v L, o = .returned v ∧ Q3 p0 h0 n0 v U'.heap L ∧ FrameEnd U o U' L rmm3.cells rmm3.slots) := by
  refine MetFree.of_bodySF (plainFor_of_name pn_3) hisR ?_
  intro p e s m args below meth c s₁ Bd hml0 hP hK
  obtain ⟨rfl, hZ, hh⟩ := hP
  have hx := Bd.exec
  have hby := Bd.bytes
  have hml : c.maxLocals = 2 := hml0
  have hown : s.vm.findClass "com/example/strict_schedule/strictschedule/history/ItemIsCharacterPinLaw" = some m.cls := findClass_of_methodNamed Bd.named
  have hnm := (name_of_methodNamed Bd.named Bd.method).1
  have X0 : Stand p l e rmm3 s m #[(.int p0)] below meth c s₁ [] 0 0 := Stand.of_body Bd
  have e0 : s₁.heap = h0 := by rw [← hh, Bd.state]; rfl
  have N0 := Fr.nil n0
  show Go p.tables e below (P3 p0 h0 n0 s) (s₁.setTop (entryFrame m #[(.int p0)] 2))
  refine Go.back (fun t k => castTop (ef_3 m p0) k) ?_
  show Go p.tables e below (P3 p0 h0 n0 s) (s₁.setTop (mkF m 0 #[.val (.int p0), .unset] []))
  have hf : f3 p0 = (let z3 : Bool := (if (p0 ||| (32 : Int32)) < (97 : Int32) then false else (if (122 : Int32) < (p0 ||| (32 : Int32)) then false else true)); z3) := rfl
  refine Go.back (fun t k => XS.iloadN X0.here hx rfl (hb hby d3_0) rfl  k) ?_
  show Go p.tables e below (P3 p0 h0 n0 s) (s₁.setTop (mkF m 1 #[.val (.int p0), .unset] [(.int p0)]))
  refine Go.back (fun t k => XS.bipush X0.here hx rfl (hb hby d3_1) k) ?_
  show Go p.tables e below (P3 p0 h0 n0 s) (s₁.setTop (mkF m 3 #[.val (.int p0), .unset] [(.int (32 : Int32)), (.int p0)]))
  refine Go.back (fun t k => XS.ior X0.here hx rfl (hb hby d3_3) rfl k) ?_
  show Go p.tables e below (P3 p0 h0 n0 s) (s₁.setTop (mkF m 4 #[.val (.int p0), .unset] [(.int (p0 ||| (32 : Int32)))]))
  refine Go.back (fun t k => XS.istoreN X0.here hx rfl (hb hby d3_4) rfl (l' := #[.val (.int p0), .val (.int (p0 ||| (32 : Int32)))]) rfl k) ?_
  show Go p.tables e below (P3 p0 h0 n0 s) (s₁.setTop (mkF m 5 #[.val (.int p0), .val (.int (p0 ||| (32 : Int32)))] []))
  refine Go.back (fun t k => XS.iloadN X0.here hx rfl (hb hby d3_5) rfl  k) ?_
  show Go p.tables e below (P3 p0 h0 n0 s) (s₁.setTop (mkF m 6 #[.val (.int p0), .val (.int (p0 ||| (32 : Int32)))] [(.int (p0 ||| (32 : Int32)))]))
  refine Go.back (fun t k => XS.bipush X0.here hx rfl (hb hby d3_6) k) ?_
  show Go p.tables e below (P3 p0 h0 n0 s) (s₁.setTop (mkF m 8 #[.val (.int p0), .val (.int (p0 ||| (32 : Int32)))] [(.int (97 : Int32)), (.int (p0 ||| (32 : Int32)))]))
  have J2 : ∀ (z3 : Bool) (hz3 : z3 = (if (p0 ||| (32 : Int32)) < (97 : Int32) then false else (if (122 : Int32) < (p0 ||| (32 : Int32)) then false else true))), Go p.tables e below (P3 p0 h0 n0 s) (s₁.setTop (mkF m 22 #[.val (.int p0), .val (.int (p0 ||| (32 : Int32)))] [(.int (b2i z3))])) := by
    intro z3 hz3
    have r4 : f3 p0 = z3 := by subst hz3; exact hf
    show Go p.tables e below (P3 p0 h0 n0 s) (s₁.setTop (mkF m 22 #[.val (.int p0), .val (.int (p0 ||| (32 : Int32)))] [(.int (b2i z3))]))
    exact Go.retB (b := z3) X0 hx Bd.returns (hb hby d3_22) Bd.notSynchronized ⟨by rw [r4], N0, e0⟩ (by decide) (by decide)
  have r5 : (if (p0 ||| (32 : Int32)) < (97 : Int32) then false else (if (122 : Int32) < (p0 ||| (32 : Int32)) then false else true)) = (if (p0 ||| (32 : Int32)) < (97 : Int32) then false else (if (122 : Int32) < (p0 ||| (32 : Int32)) then false else true)) := rfl
  by_cases hc1 : (p0 ||| (32 : Int32)) < (97 : Int32)
  · have r6 := r5.trans (if_pos hc1)
    refine Go.back (fun t k => XS.icmpYes X0.here hx rfl (pc0 := 8) (pc' := 21) rfl (hb hby d3_8) rfl (tlt hc1).1 (by decide) (by decide) k) ?_
    show Go p.tables e below (P3 p0 h0 n0 s) (s₁.setTop (mkF m 21 #[.val (.int p0), .val (.int (p0 ||| (32 : Int32)))] []))
    refine Go.back (fun t k => XS.iconst X0.here hx rfl (hb hby d3_21) k) ?_
    show Go p.tables e below (P3 p0 h0 n0 s) (s₁.setTop (mkF m 22 #[.val (.int p0), .val (.int (p0 ||| (32 : Int32)))] [(.int (0 : Int32))]))
    exact J2 false r6.symm
  · have r7 := r5.trans (if_neg hc1)
    refine Go.back (fun t k => XS.icmpNo X0.here hx rfl (hb hby d3_8) rfl (flt hc1).1 k) ?_
    show Go p.tables e below (P3 p0 h0 n0 s) (s₁.setTop (mkF m 11 #[.val (.int p0), .val (.int (p0 ||| (32 : Int32)))] []))
    refine Go.back (fun t k => XS.iloadN X0.here hx rfl (hb hby d3_11) rfl  k) ?_
    show Go p.tables e below (P3 p0 h0 n0 s) (s₁.setTop (mkF m 12 #[.val (.int p0), .val (.int (p0 ||| (32 : Int32)))] [(.int (p0 ||| (32 : Int32)))]))
    refine Go.back (fun t k => XS.bipush X0.here hx rfl (hb hby d3_12) k) ?_
    show Go p.tables e below (P3 p0 h0 n0 s) (s₁.setTop (mkF m 14 #[.val (.int p0), .val (.int (p0 ||| (32 : Int32)))] [(.int (122 : Int32)), (.int (p0 ||| (32 : Int32)))]))
    by_cases hc8 : (122 : Int32) < (p0 ||| (32 : Int32))
    · have r9 := r7.trans (if_pos hc8)
      refine Go.back (fun t k => XS.icmpYes X0.here hx rfl (pc0 := 14) (pc' := 21) rfl (hb hby d3_14) rfl (tlt hc8).2.2.1 (by decide) (by decide) k) ?_
      show Go p.tables e below (P3 p0 h0 n0 s) (s₁.setTop (mkF m 21 #[.val (.int p0), .val (.int (p0 ||| (32 : Int32)))] []))
      refine Go.back (fun t k => XS.iconst X0.here hx rfl (hb hby d3_21) k) ?_
      show Go p.tables e below (P3 p0 h0 n0 s) (s₁.setTop (mkF m 22 #[.val (.int p0), .val (.int (p0 ||| (32 : Int32)))] [(.int (0 : Int32))]))
      exact J2 false r9.symm
    · have r10 := r7.trans (if_neg hc8)
      refine Go.back (fun t k => XS.icmpNo X0.here hx rfl (hb hby d3_14) rfl (flt hc8).2.2.1 k) ?_
      show Go p.tables e below (P3 p0 h0 n0 s) (s₁.setTop (mkF m 17 #[.val (.int p0), .val (.int (p0 ||| (32 : Int32)))] []))
      refine Go.back (fun t k => XS.iconst X0.here hx rfl (hb hby d3_17) k) ?_
      show Go p.tables e below (P3 p0 h0 n0 s) (s₁.setTop (mkF m 18 #[.val (.int p0), .val (.int (p0 ||| (32 : Int32)))] [(.int (1 : Int32))]))
      refine Go.back (fun t k => XS.goto X0.here hx rfl (pc0 := 18) (pc' := 22) rfl (hb hby d3_18) (by decide) (by decide) k) ?_
      show Go p.tables e below (P3 p0 h0 n0 s) (s₁.setTop (mkF m 22 #[.val (.int p0), .val (.int (p0 ||| (32 : Int32)))] [(.int (1 : Int32))]))
      exact J2 true r10.symm
theorem d4_0 : decode method_4_code 0 = .ok (.iload_n 0, 1) := by decide +kernel
theorem d4_1 : decode method_4_code 1 = .ok (.bipush 95, 2) := by decide +kernel
theorem d4_3 : decode method_4_code 3 = .ok (.if_icmp .eq 15, 3) := by decide +kernel
theorem d4_6 : decode method_4_code 6 = .ok (.iload_n 0, 1) := by decide +kernel
theorem d4_7 : decode method_4_code 7 = .ok (.bipush 45, 2) := by decide +kernel
theorem d4_9 : decode method_4_code 9 = .ok (.if_icmp .eq 9, 3) := by decide +kernel
theorem d4_12 : decode method_4_code 12 = .ok (.iload_n 0, 1) := by decide +kernel
theorem d4_13 : decode method_4_code 13 = .ok (.bipush 46, 2) := by decide +kernel
theorem d4_15 : decode method_4_code 15 = .ok (.if_icmp .ne 7, 3) := by decide +kernel
theorem d4_18 : decode method_4_code 18 = .ok (.iconst 1, 1) := by decide +kernel
theorem d4_19 : decode method_4_code 19 = .ok (.goto 4, 3) := by decide +kernel
theorem d4_22 : decode method_4_code 22 = .ok (.iconst 0, 1) := by decide +kernel
theorem d4_23 : decode method_4_code 23 = .ok (.ireturn, 1) := by decide +kernel
def f4 (p0 : Int32) : Bool := (let z3 : Bool := (if p0 = (95 : Int32) then true else (if p0 = (45 : Int32) then true else (if p0 = (46 : Int32) then true else false))); z3)
def Q4 (p0 : Int32) (h0 : Heap) (n0 : Nat) (v : Option Value) (h : Heap) (L : List Loc) : Prop := v = some (.int (b2i (f4 p0))) ∧ Fr n0 L ∧ h = h0
abbrev rmm4 : Room := { frames := 0, cells := 0, slots := 0, locals := 0 }
abbrev P4 (p0 : Int32) (h0 : Heap) (n0 : Nat) (s : State) : Outcome → State → Prop := fun o U' => ∃ v L, o = .returned v ∧ Q4 p0 h0 n0 v U'.heap L ∧ FrameEnd s o U' L rmm4.cells rmm4.slots
theorem pn_4 : plainName "com/example/strict_schedule/strictschedule/history/ItemIsCharacterPinLaw" = true := by first | (simp [plainName, overriddenIn]; done) | decide +kernel
theorem ef_4 (m : MethodId) (p0 : Int32) : entryFrame m #[(.int p0)] 1 = mkF m 0 #[.val (.int p0)] [] := by first | (simp [entryFrame, mkF, argsToLocals, Value.category]; done) | rfl
set_option maxRecDepth 65536 in
set_option maxHeartbeats 40000000 in
theorem rm4 (l : Launch) (Z : State) (a0 : Array Value) (hw : ∀ d ∈ tables_1, d.before a0 Z = true) (ws : List Jvm.Cond) (p0 : Int32) (h0 : Heap) (n0 : Nat) :
    MetFree l (⟨"com/example/strict_schedule/strictschedule/history/ItemIsCharacterPinLaw", "isMark", "(I)Z"⟩ : MethodName) (head1 (Jvm.Cond.code (⟨"com/example/strict_schedule/strictschedule/history/ItemIsCharacterPinLaw", "isMark", "(I)Z"⟩ : MethodName) method_4_code 1 (some .boolean) :: ws) rmm4) (fun a U => a = #[(.int p0)] ∧ Z.Warmed39 U.vm ∧ U.heap = h0) (fun _ _ _ _ _ => True) (fun _ U o U' => ∃ v L, o = .returned v ∧ Q4 p0 h0 n0 v U'.heap L ∧ FrameEnd U o U' L rmm4.cells rmm4.slots) := by
  refine MetFree.of_bodySF (plainFor_of_name pn_4) hisR ?_
  intro p e s m args below meth c s₁ Bd hml0 hP hK
  obtain ⟨rfl, hZ, hh⟩ := hP
  have hx := Bd.exec
  have hby := Bd.bytes
  have hml : c.maxLocals = 1 := hml0
  have hown : s.vm.findClass "com/example/strict_schedule/strictschedule/history/ItemIsCharacterPinLaw" = some m.cls := findClass_of_methodNamed Bd.named
  have hnm := (name_of_methodNamed Bd.named Bd.method).1
  have X0 : Stand p l e rmm4 s m #[(.int p0)] below meth c s₁ [] 0 0 := Stand.of_body Bd
  have e0 : s₁.heap = h0 := by rw [← hh, Bd.state]; rfl
  have N0 := Fr.nil n0
  show Go p.tables e below (P4 p0 h0 n0 s) (s₁.setTop (entryFrame m #[(.int p0)] 1))
  refine Go.back (fun t k => castTop (ef_4 m p0) k) ?_
  show Go p.tables e below (P4 p0 h0 n0 s) (s₁.setTop (mkF m 0 #[.val (.int p0)] []))
  have hf : f4 p0 = (let z3 : Bool := (if p0 = (95 : Int32) then true else (if p0 = (45 : Int32) then true else (if p0 = (46 : Int32) then true else false))); z3) := rfl
  refine Go.back (fun t k => XS.iloadN X0.here hx rfl (hb hby d4_0) rfl  k) ?_
  show Go p.tables e below (P4 p0 h0 n0 s) (s₁.setTop (mkF m 1 #[.val (.int p0)] [(.int p0)]))
  refine Go.back (fun t k => XS.bipush X0.here hx rfl (hb hby d4_1) k) ?_
  show Go p.tables e below (P4 p0 h0 n0 s) (s₁.setTop (mkF m 3 #[.val (.int p0)] [(.int (95 : Int32)), (.int p0)]))
  have J2 : ∀ (z3 : Bool) (hz3 : z3 = (if p0 = (95 : Int32) then true else (if p0 = (45 : Int32) then true else (if p0 = (46 : Int32) then true else false)))), Go p.tables e below (P4 p0 h0 n0 s) (s₁.setTop (mkF m 23 #[.val (.int p0)] [(.int (b2i z3))])) := by
    intro z3 hz3
    have r4 : f4 p0 = z3 := by subst hz3; exact hf
    show Go p.tables e below (P4 p0 h0 n0 s) (s₁.setTop (mkF m 23 #[.val (.int p0)] [(.int (b2i z3))]))
    exact Go.retB (b := z3) X0 hx Bd.returns (hb hby d4_23) Bd.notSynchronized ⟨by rw [r4], N0, e0⟩ (by decide) (by decide)
  have r5 : (if p0 = (95 : Int32) then true else (if p0 = (45 : Int32) then true else (if p0 = (46 : Int32) then true else false))) = (if p0 = (95 : Int32) then true else (if p0 = (45 : Int32) then true else (if p0 = (46 : Int32) then true else false))) := rfl
  by_cases hc1 : p0 = (95 : Int32)
  · have r6 := r5.trans (if_pos hc1)
    refine Go.back (fun t k => XS.icmpYes X0.here hx rfl (pc0 := 3) (pc' := 18) rfl (hb hby d4_3) rfl (teq hc1).1 (by decide) (by decide) k) ?_
    show Go p.tables e below (P4 p0 h0 n0 s) (s₁.setTop (mkF m 18 #[.val (.int p0)] []))
    refine Go.back (fun t k => XS.iconst X0.here hx rfl (hb hby d4_18) k) ?_
    show Go p.tables e below (P4 p0 h0 n0 s) (s₁.setTop (mkF m 19 #[.val (.int p0)] [(.int (1 : Int32))]))
    refine Go.back (fun t k => XS.goto X0.here hx rfl (pc0 := 19) (pc' := 23) rfl (hb hby d4_19) (by decide) (by decide) k) ?_
    show Go p.tables e below (P4 p0 h0 n0 s) (s₁.setTop (mkF m 23 #[.val (.int p0)] [(.int (1 : Int32))]))
    exact J2 true r6.symm
  · have r7 := r5.trans (if_neg hc1)
    refine Go.back (fun t k => XS.icmpNo X0.here hx rfl (hb hby d4_3) rfl (feq hc1).1 k) ?_
    show Go p.tables e below (P4 p0 h0 n0 s) (s₁.setTop (mkF m 6 #[.val (.int p0)] []))
    refine Go.back (fun t k => XS.iloadN X0.here hx rfl (hb hby d4_6) rfl  k) ?_
    show Go p.tables e below (P4 p0 h0 n0 s) (s₁.setTop (mkF m 7 #[.val (.int p0)] [(.int p0)]))
    refine Go.back (fun t k => XS.bipush X0.here hx rfl (hb hby d4_7) k) ?_
    show Go p.tables e below (P4 p0 h0 n0 s) (s₁.setTop (mkF m 9 #[.val (.int p0)] [(.int (45 : Int32)), (.int p0)]))
    by_cases hc8 : p0 = (45 : Int32)
    · have r9 := r7.trans (if_pos hc8)
      refine Go.back (fun t k => XS.icmpYes X0.here hx rfl (pc0 := 9) (pc' := 18) rfl (hb hby d4_9) rfl (teq hc8).1 (by decide) (by decide) k) ?_
      show Go p.tables e below (P4 p0 h0 n0 s) (s₁.setTop (mkF m 18 #[.val (.int p0)] []))
      refine Go.back (fun t k => XS.iconst X0.here hx rfl (hb hby d4_18) k) ?_
      show Go p.tables e below (P4 p0 h0 n0 s) (s₁.setTop (mkF m 19 #[.val (.int p0)] [(.int (1 : Int32))]))
      refine Go.back (fun t k => XS.goto X0.here hx rfl (pc0 := 19) (pc' := 23) rfl (hb hby d4_19) (by decide) (by decide) k) ?_
      show Go p.tables e below (P4 p0 h0 n0 s) (s₁.setTop (mkF m 23 #[.val (.int p0)] [(.int (1 : Int32))]))
      exact J2 true r9.symm
    · have r10 := r7.trans (if_neg hc8)
      refine Go.back (fun t k => XS.icmpNo X0.here hx rfl (hb hby d4_9) rfl (feq hc8).1 k) ?_
      show Go p.tables e below (P4 p0 h0 n0 s) (s₁.setTop (mkF m 12 #[.val (.int p0)] []))
      refine Go.back (fun t k => XS.iloadN X0.here hx rfl (hb hby d4_12) rfl  k) ?_
      show Go p.tables e below (P4 p0 h0 n0 s) (s₁.setTop (mkF m 13 #[.val (.int p0)] [(.int p0)]))
      refine Go.back (fun t k => XS.bipush X0.here hx rfl (hb hby d4_13) k) ?_
      show Go p.tables e below (P4 p0 h0 n0 s) (s₁.setTop (mkF m 15 #[.val (.int p0)] [(.int (46 : Int32)), (.int p0)]))
      by_cases hc11 : p0 = (46 : Int32)
      · have r12 := r10.trans (if_pos hc11)
        refine Go.back (fun t k => XS.icmpNo X0.here hx rfl (hb hby d4_15) rfl (teq hc11).2 k) ?_
        show Go p.tables e below (P4 p0 h0 n0 s) (s₁.setTop (mkF m 18 #[.val (.int p0)] []))
        refine Go.back (fun t k => XS.iconst X0.here hx rfl (hb hby d4_18) k) ?_
        show Go p.tables e below (P4 p0 h0 n0 s) (s₁.setTop (mkF m 19 #[.val (.int p0)] [(.int (1 : Int32))]))
        refine Go.back (fun t k => XS.goto X0.here hx rfl (pc0 := 19) (pc' := 23) rfl (hb hby d4_19) (by decide) (by decide) k) ?_
        show Go p.tables e below (P4 p0 h0 n0 s) (s₁.setTop (mkF m 23 #[.val (.int p0)] [(.int (1 : Int32))]))
        exact J2 true r12.symm
      · have r13 := r10.trans (if_neg hc11)
        refine Go.back (fun t k => XS.icmpYes X0.here hx rfl (pc0 := 15) (pc' := 22) rfl (hb hby d4_15) rfl (feq hc11).2 (by decide) (by decide) k) ?_
        show Go p.tables e below (P4 p0 h0 n0 s) (s₁.setTop (mkF m 22 #[.val (.int p0)] []))
        refine Go.back (fun t k => XS.iconst X0.here hx rfl (hb hby d4_22) k) ?_
        show Go p.tables e below (P4 p0 h0 n0 s) (s₁.setTop (mkF m 23 #[.val (.int p0)] [(.int (0 : Int32))]))
        exact J2 false r13.symm
theorem d1_0 : decode method_5_code 0 = .ok (.iload_n 0, 1) := by decide +kernel
theorem d1_1 : decode method_5_code 1 = .ok (.invokestatic 7, 3) := by decide +kernel
theorem d1_4 : decode method_5_code 4 = .ok (.ifCond .ne 17, 3) := by decide +kernel
theorem d1_7 : decode method_5_code 7 = .ok (.iload_n 0, 1) := by decide +kernel
theorem d1_8 : decode method_5_code 8 = .ok (.invokestatic 13, 3) := by decide +kernel
theorem d1_11 : decode method_5_code 11 = .ok (.ifCond .ne 10, 3) := by decide +kernel
theorem d1_14 : decode method_5_code 14 = .ok (.iload_n 0, 1) := by decide +kernel
theorem d1_15 : decode method_5_code 15 = .ok (.invokestatic 16, 3) := by decide +kernel
theorem d1_18 : decode method_5_code 18 = .ok (.ifCond .eq 7, 3) := by decide +kernel
theorem d1_21 : decode method_5_code 21 = .ok (.iconst 1, 1) := by decide +kernel
theorem d1_22 : decode method_5_code 22 = .ok (.goto 4, 3) := by decide +kernel
theorem d1_25 : decode method_5_code 25 = .ok (.iconst 0, 1) := by decide +kernel
theorem d1_26 : decode method_5_code 26 = .ok (.ireturn, 1) := by decide +kernel
def f1 (p0 : Int32) : Bool := (let z4 : Bool := (if (f2 p0) = true then true else (if (f3 p0) = true then true else (if (f4 p0) = true then true else false))); z4)
def Q1 (p0 : Int32) (h0 : Heap) (n0 : Nat) (v : Option Value) (h : Heap) (L : List Loc) : Prop := v = some (.int (b2i (f1 p0))) ∧ Fr n0 L ∧ h = h0
abbrev rmm1 : Room := { frames := 1, cells := 0, slots := 0, locals := 13 }
abbrev P1 (p0 : Int32) (h0 : Heap) (n0 : Nat) (s : State) : Outcome → State → Prop := fun o U' => ∃ v L, o = .returned v ∧ Q1 p0 h0 n0 v U'.heap L ∧ FrameEnd s o U' L rmm1.cells rmm1.slots
theorem pn_1 : plainName "com/example/strict_schedule/strictschedule/history/ItemIsCharacterPinLaw" = true := by first | (simp [plainName, overriddenIn]; done) | decide +kernel
theorem ef_1 (m : MethodId) (p0 : Int32) : entryFrame m #[(.int p0)] 1 = mkF m 0 #[.val (.int p0)] [] := by first | (simp [entryFrame, mkF, argsToLocals, Value.category]; done) | rfl
set_option maxRecDepth 65536 in
set_option maxHeartbeats 40000000 in
theorem rm1 (l : Launch) (Z : State) (a0 : Array Value) (hw : ∀ d ∈ tables_1, d.before a0 Z = true) (ws : List Jvm.Cond) (p0 : Int32) (h0 : Heap) (n0 : Nat) :
    MetFree l (⟨"com/example/strict_schedule/strictschedule/history/ItemIsCharacterPinLaw", "reference", "(I)Z"⟩ : MethodName) (head1 (Jvm.Cond.code (⟨"com/example/strict_schedule/strictschedule/history/ItemIsCharacterPinLaw", "reference", "(I)Z"⟩ : MethodName) method_5_code 1 (some .boolean) :: ws) rmm1) (fun a U => a = #[(.int p0)] ∧ Z.Warmed39 U.vm ∧ U.heap = h0) (fun _ _ _ _ _ => True) (fun _ U o U' => ∃ v L, o = .returned v ∧ Q1 p0 h0 n0 v U'.heap L ∧ FrameEnd U o U' L rmm1.cells rmm1.slots) := by
  refine MetFree.of_bodySF (plainFor_of_name pn_1) hisR ?_
  intro p e s m args below meth c s₁ Bd hml0 hP hK
  obtain ⟨rfl, hZ, hh⟩ := hP
  have hx := Bd.exec
  have hby := Bd.bytes
  have hml : c.maxLocals = 1 := hml0
  have hown : s.vm.findClass "com/example/strict_schedule/strictschedule/history/ItemIsCharacterPinLaw" = some m.cls := findClass_of_methodNamed Bd.named
  have hnm := (name_of_methodNamed Bd.named Bd.method).1
  have X0 : Stand p l e rmm1 s m #[(.int p0)] below meth c s₁ [] 0 0 := Stand.of_body Bd
  have e0 : s₁.heap = h0 := by rw [← hh, Bd.state]; rfl
  have N0 := Fr.nil n0
  show Go p.tables e below (P1 p0 h0 n0 s) (s₁.setTop (entryFrame m #[(.int p0)] 1))
  refine Go.back (fun t k => castTop (ef_1 m p0) k) ?_
  show Go p.tables e below (P1 p0 h0 n0 s) (s₁.setTop (mkF m 0 #[.val (.int p0)] []))
  have hf : f1 p0 = (let z4 : Bool := (if (f2 p0) = true then true else (if (f3 p0) = true then true else (if (f4 p0) = true then true else false))); z4) := rfl
  refine Go.back (fun t k => XS.iloadN X0.here hx rfl (hb hby d1_0) rfl  k) ?_
  show Go p.tables e below (P1 p0 h0 n0 s) (s₁.setTop (mkF m 1 #[.val (.int p0)] [(.int p0)]))
  obtain ⟨_, _, ⟨T1, L1, k1, n1⟩, -, X1, ⟨Lc1, hQ1, l1, y1, z1⟩, st1⟩ := Jvm.LawKit.callS X0 hx (y := (⟨"com/example/strict_schedule/strictschedule/history/ItemIsCharacterPinLaw", "isDigit", "(I)Z"⟩ : MethodName)) hown (mvT hZ (hw _ (List.mem_of_getElem? (i := 4) rfl))) (mvT hZ (hw _ (List.mem_of_getElem? (i := 5) rfl))) (mvT hZ (hw _ (List.mem_of_getElem? (i := 2) rfl))) (mvT hZ (hw _ (List.mem_of_getElem? (i := 6) rfl))) (by decide) (backOf (W := 0) (rm2 l Z a0 hw [] p0 h0 n0) hZ (hw _ (List.mem_of_getElem? (i := 6) rfl)) (hw _ (List.mem_of_getElem? (i := 2) rfl)) (by decide) (by decide)) (g := (mkF m 1 #[.val (.int p0)] [(.int p0)])) rfl (by rw [hml]; rfl) (argsL := [(.int p0)]) (rest := []) (lenOf pd_0 rfl) rfl (by show 2 * 0 + _ ≤ _; exact Nat.le_of_eq rfl) (hb hby d1_1) (fun _ _ => ⟨rfl, e0, (by decide : 0 + 0 ≤ _), (by decide : 0 + 0 ≤ _)⟩)
  dsimp only [Pt.U, Pt.locs, Pt.cells, Pt.slots] at X1 l1 y1 z1 st1 hQ1
  subst l1 y1 z1
  obtain ⟨rfl, N1q, e1⟩ := hQ1
  have N1 := Fr.app N0 N1q
  refine Go.back st1 ?_
  show Go p.tables e below (P1 p0 h0 n0 s) (T1.setTop (mkF m 4 #[.val (.int p0)] [(.int (b2i (f2 p0)))]))
  have J3 : ∀ (T5 : State) (L5 : List Loc) (X5 : Stand p l e rmm1 s m #[(.int p0)] below meth c T5 L5 0 0) (N5 : Fr n0 L5) (e5 : T5.heap = h0) (z4 : Bool) (hz4 : z4 = (if (f2 p0) = true then true else (if (f3 p0) = true then true else (if (f4 p0) = true then true else false)))), Go p.tables e below (P1 p0 h0 n0 s) (T5.setTop (mkF m 26 #[.val (.int p0)] [(.int (b2i z4))])) := by
    intro T5 L5 X5 N5 e5 z4 hz4
    have r6 : f1 p0 = z4 := by subst hz4; exact hf
    show Go p.tables e below (P1 p0 h0 n0 s) (T5.setTop (mkF m 26 #[.val (.int p0)] [(.int (b2i z4))]))
    exact Go.retB (b := z4) X5 hx Bd.returns (hb hby d1_26) Bd.notSynchronized ⟨by rw [r6], N5, e5⟩ (by decide) (by decide)
  have r7 : (if (f2 p0) = true then true else (if (f3 p0) = true then true else (if (f4 p0) = true then true else false))) = (if (f2 p0) = true then true else (if (f3 p0) = true then true else (if (f4 p0) = true then true else false))) := rfl
  by_cases hc2 : (f2 p0) = true
  · have r8 := r7.trans (if_pos hc2)
    refine Go.back (fun t k => XS.ifYes X1.here hx rfl (pc0 := 4) (pc' := 21) rfl (hb hby d1_4) rfl ((if0 _ _).trans (feq (b2i_t hc2)).2) (by decide) (by decide) k) ?_
    show Go p.tables e below (P1 p0 h0 n0 s) (T1.setTop (mkF m 21 #[.val (.int p0)] []))
    refine Go.back (fun t k => XS.iconst X1.here hx rfl (hb hby d1_21) k) ?_
    show Go p.tables e below (P1 p0 h0 n0 s) (T1.setTop (mkF m 22 #[.val (.int p0)] [(.int (1 : Int32))]))
    refine Go.back (fun t k => XS.goto X1.here hx rfl (pc0 := 22) (pc' := 26) rfl (hb hby d1_22) (by decide) (by decide) k) ?_
    show Go p.tables e below (P1 p0 h0 n0 s) (T1.setTop (mkF m 26 #[.val (.int p0)] [(.int (1 : Int32))]))
    exact J3 _ _ X1 N1 e1 true r8.symm
  · have r9 := r7.trans (if_neg hc2)
    refine Go.back (fun t k => XS.ifNo X1.here hx rfl (hb hby d1_4) rfl ((if0 _ _).trans (teq (b2i_f hc2)).2) k) ?_
    show Go p.tables e below (P1 p0 h0 n0 s) (T1.setTop (mkF m 7 #[.val (.int p0)] []))
    refine Go.back (fun t k => XS.iloadN X1.here hx rfl (hb hby d1_7) rfl  k) ?_
    show Go p.tables e below (P1 p0 h0 n0 s) (T1.setTop (mkF m 8 #[.val (.int p0)] [(.int p0)]))
    obtain ⟨_, _, ⟨T10, L10, k10, n10⟩, -, X10, ⟨Lc10, hQ10, l10, y10, z10⟩, st10⟩ := Jvm.LawKit.callS X1 hx (y := (⟨"com/example/strict_schedule/strictschedule/history/ItemIsCharacterPinLaw", "isLetter", "(I)Z"⟩ : MethodName)) hown (mvT hZ (hw _ (List.mem_of_getElem? (i := 7) rfl))) (mvT hZ (hw _ (List.mem_of_getElem? (i := 8) rfl))) (mvT hZ (hw _ (List.mem_of_getElem? (i := 2) rfl))) (mvT hZ (hw _ (List.mem_of_getElem? (i := 9) rfl))) (by decide) (backOf (W := 0) (rm3 l Z a0 hw [] p0 h0 n0) hZ (hw _ (List.mem_of_getElem? (i := 9) rfl)) (hw _ (List.mem_of_getElem? (i := 2) rfl)) (by decide) (by decide)) (g := (mkF m 8 #[.val (.int p0)] [(.int p0)])) rfl (by rw [hml]; rfl) (argsL := [(.int p0)]) (rest := []) (lenOf pd_0 rfl) rfl (by show 2 * 0 + _ ≤ _; exact Nat.le_of_eq rfl) (hb hby d1_8) (fun _ _ => ⟨rfl, e1, (by decide : 0 + 0 ≤ _), (by decide : 0 + 0 ≤ _)⟩)
    dsimp only [Pt.U, Pt.locs, Pt.cells, Pt.slots] at X10 l10 y10 z10 st10 hQ10
    subst l10 y10 z10
    obtain ⟨rfl, N10q, e10⟩ := hQ10
    have N10 := Fr.app N1 N10q
    refine Go.back st10 ?_
    show Go p.tables e below (P1 p0 h0 n0 s) (T10.setTop (mkF m 11 #[.val (.int p0)] [(.int (b2i (f3 p0)))]))
    by_cases hc11 : (f3 p0) = true
    · have r12 := r9.trans (if_pos hc11)
      refine Go.back (fun t k => XS.ifYes X10.here hx rfl (pc0 := 11) (pc' := 21) rfl (hb hby d1_11) rfl ((if0 _ _).trans (feq (b2i_t hc11)).2) (by decide) (by decide) k) ?_
      show Go p.tables e below (P1 p0 h0 n0 s) (T10.setTop (mkF m 21 #[.val (.int p0)] []))
      refine Go.back (fun t k => XS.iconst X10.here hx rfl (hb hby d1_21) k) ?_
      show Go p.tables e below (P1 p0 h0 n0 s) (T10.setTop (mkF m 22 #[.val (.int p0)] [(.int (1 : Int32))]))
      refine Go.back (fun t k => XS.goto X10.here hx rfl (pc0 := 22) (pc' := 26) rfl (hb hby d1_22) (by decide) (by decide) k) ?_
      show Go p.tables e below (P1 p0 h0 n0 s) (T10.setTop (mkF m 26 #[.val (.int p0)] [(.int (1 : Int32))]))
      exact J3 _ _ X10 N10 e10 true r12.symm
    · have r13 := r9.trans (if_neg hc11)
      refine Go.back (fun t k => XS.ifNo X10.here hx rfl (hb hby d1_11) rfl ((if0 _ _).trans (teq (b2i_f hc11)).2) k) ?_
      show Go p.tables e below (P1 p0 h0 n0 s) (T10.setTop (mkF m 14 #[.val (.int p0)] []))
      refine Go.back (fun t k => XS.iloadN X10.here hx rfl (hb hby d1_14) rfl  k) ?_
      show Go p.tables e below (P1 p0 h0 n0 s) (T10.setTop (mkF m 15 #[.val (.int p0)] [(.int p0)]))
      obtain ⟨_, _, ⟨T14, L14, k14, n14⟩, -, X14, ⟨Lc14, hQ14, l14, y14, z14⟩, st14⟩ := Jvm.LawKit.callS X10 hx (y := (⟨"com/example/strict_schedule/strictschedule/history/ItemIsCharacterPinLaw", "isMark", "(I)Z"⟩ : MethodName)) hown (mvT hZ (hw _ (List.mem_of_getElem? (i := 10) rfl))) (mvT hZ (hw _ (List.mem_of_getElem? (i := 11) rfl))) (mvT hZ (hw _ (List.mem_of_getElem? (i := 2) rfl))) (mvT hZ (hw _ (List.mem_of_getElem? (i := 12) rfl))) (by decide) (backOf (W := 0) (rm4 l Z a0 hw [] p0 h0 n0) hZ (hw _ (List.mem_of_getElem? (i := 12) rfl)) (hw _ (List.mem_of_getElem? (i := 2) rfl)) (by decide) (by decide)) (g := (mkF m 15 #[.val (.int p0)] [(.int p0)])) rfl (by rw [hml]; rfl) (argsL := [(.int p0)]) (rest := []) (lenOf pd_0 rfl) rfl (by show 2 * 0 + _ ≤ _; exact Nat.le_of_eq rfl) (hb hby d1_15) (fun _ _ => ⟨rfl, e10, (by decide : 0 + 0 ≤ _), (by decide : 0 + 0 ≤ _)⟩)
      dsimp only [Pt.U, Pt.locs, Pt.cells, Pt.slots] at X14 l14 y14 z14 st14 hQ14
      subst l14 y14 z14
      obtain ⟨rfl, N14q, e14⟩ := hQ14
      have N14 := Fr.app N10 N14q
      refine Go.back st14 ?_
      show Go p.tables e below (P1 p0 h0 n0 s) (T14.setTop (mkF m 18 #[.val (.int p0)] [(.int (b2i (f4 p0)))]))
      by_cases hc15 : (f4 p0) = true
      · have r16 := r13.trans (if_pos hc15)
        refine Go.back (fun t k => XS.ifNo X14.here hx rfl (hb hby d1_18) rfl ((if0 _ _).trans (feq (b2i_t hc15)).1) k) ?_
        show Go p.tables e below (P1 p0 h0 n0 s) (T14.setTop (mkF m 21 #[.val (.int p0)] []))
        refine Go.back (fun t k => XS.iconst X14.here hx rfl (hb hby d1_21) k) ?_
        show Go p.tables e below (P1 p0 h0 n0 s) (T14.setTop (mkF m 22 #[.val (.int p0)] [(.int (1 : Int32))]))
        refine Go.back (fun t k => XS.goto X14.here hx rfl (pc0 := 22) (pc' := 26) rfl (hb hby d1_22) (by decide) (by decide) k) ?_
        show Go p.tables e below (P1 p0 h0 n0 s) (T14.setTop (mkF m 26 #[.val (.int p0)] [(.int (1 : Int32))]))
        exact J3 _ _ X14 N14 e14 true r16.symm
      · have r17 := r13.trans (if_neg hc15)
        refine Go.back (fun t k => XS.ifYes X14.here hx rfl (pc0 := 18) (pc' := 25) rfl (hb hby d1_18) rfl ((if0 _ _).trans (teq (b2i_f hc15)).1) (by decide) (by decide) k) ?_
        show Go p.tables e below (P1 p0 h0 n0 s) (T14.setTop (mkF m 25 #[.val (.int p0)] []))
        refine Go.back (fun t k => XS.iconst X14.here hx rfl (hb hby d1_25) k) ?_
        show Go p.tables e below (P1 p0 h0 n0 s) (T14.setTop (mkF m 26 #[.val (.int p0)] [(.int (0 : Int32))]))
        exact J3 _ _ X14 N14 e14 false r17.symm
theorem d5_0 : decode prog_49_method_2_code 0 = .ok (.iload_n 0, 1) := by decide +kernel
theorem d5_1 : decode prog_49_method_2_code 1 = .ok (.bipush 48, 2) := by decide +kernel
theorem d5_3 : decode prog_49_method_2_code 3 = .ok (.if_icmp .lt 9, 3) := by decide +kernel
theorem d5_6 : decode prog_49_method_2_code 6 = .ok (.iload_n 0, 1) := by decide +kernel
theorem d5_7 : decode prog_49_method_2_code 7 = .ok (.bipush 57, 2) := by decide +kernel
theorem d5_9 : decode prog_49_method_2_code 9 = .ok (.if_icmp .le 45, 3) := by decide +kernel
theorem d5_12 : decode prog_49_method_2_code 12 = .ok (.iload_n 0, 1) := by decide +kernel
theorem d5_13 : decode prog_49_method_2_code 13 = .ok (.bipush 65, 2) := by decide +kernel
theorem d5_15 : decode prog_49_method_2_code 15 = .ok (.if_icmp .lt 9, 3) := by decide +kernel
theorem d5_18 : decode prog_49_method_2_code 18 = .ok (.iload_n 0, 1) := by decide +kernel
theorem d5_19 : decode prog_49_method_2_code 19 = .ok (.bipush 90, 2) := by decide +kernel
theorem d5_21 : decode prog_49_method_2_code 21 = .ok (.if_icmp .le 33, 3) := by decide +kernel
theorem d5_24 : decode prog_49_method_2_code 24 = .ok (.iload_n 0, 1) := by decide +kernel
theorem d5_25 : decode prog_49_method_2_code 25 = .ok (.bipush 97, 2) := by decide +kernel
theorem d5_27 : decode prog_49_method_2_code 27 = .ok (.if_icmp .lt 9, 3) := by decide +kernel
theorem d5_30 : decode prog_49_method_2_code 30 = .ok (.iload_n 0, 1) := by decide +kernel
theorem d5_31 : decode prog_49_method_2_code 31 = .ok (.bipush 122, 2) := by decide +kernel
theorem d5_33 : decode prog_49_method_2_code 33 = .ok (.if_icmp .le 21, 3) := by decide +kernel
theorem d5_36 : decode prog_49_method_2_code 36 = .ok (.iload_n 0, 1) := by decide +kernel
theorem d5_37 : decode prog_49_method_2_code 37 = .ok (.bipush 95, 2) := by decide +kernel
theorem d5_39 : decode prog_49_method_2_code 39 = .ok (.if_icmp .eq 15, 3) := by decide +kernel
theorem d5_42 : decode prog_49_method_2_code 42 = .ok (.iload_n 0, 1) := by decide +kernel
theorem d5_43 : decode prog_49_method_2_code 43 = .ok (.bipush 45, 2) := by decide +kernel
theorem d5_45 : decode prog_49_method_2_code 45 = .ok (.if_icmp .eq 9, 3) := by decide +kernel
theorem d5_48 : decode prog_49_method_2_code 48 = .ok (.iload_n 0, 1) := by decide +kernel
theorem d5_49 : decode prog_49_method_2_code 49 = .ok (.bipush 46, 2) := by decide +kernel
theorem d5_51 : decode prog_49_method_2_code 51 = .ok (.if_icmp .ne 7, 3) := by decide +kernel
theorem d5_54 : decode prog_49_method_2_code 54 = .ok (.iconst 1, 1) := by decide +kernel
theorem d5_55 : decode prog_49_method_2_code 55 = .ok (.goto 4, 3) := by decide +kernel
theorem d5_58 : decode prog_49_method_2_code 58 = .ok (.iconst 0, 1) := by decide +kernel
theorem d5_59 : decode prog_49_method_2_code 59 = .ok (.ireturn, 1) := by decide +kernel
def f5 (p0 : Int32) : Bool := (let z3 : Bool := (if p0 < (48 : Int32) then (if p0 < (65 : Int32) then (if p0 < (97 : Int32) then (if p0 = (95 : Int32) then true else (if p0 = (45 : Int32) then true else (if p0 = (46 : Int32) then true else false))) else (if (122 : Int32) < p0 then (if p0 = (95 : Int32) then true else (if p0 = (45 : Int32) then true else (if p0 = (46 : Int32) then true else false))) else true)) else (if (90 : Int32) < p0 then (if p0 < (97 : Int32) then (if p0 = (95 : Int32) then true else (if p0 = (45 : Int32) then true else (if p0 = (46 : Int32) then true else false))) else (if (122 : Int32) < p0 then (if p0 = (95 : Int32) then true else (if p0 = (45 : Int32) then true else (if p0 = (46 : Int32) then true else false))) else true)) else true)) else (if (57 : Int32) < p0 then (if p0 < (65 : Int32) then (if p0 < (97 : Int32) then (if p0 = (95 : Int32) then true else (if p0 = (45 : Int32) then true else (if p0 = (46 : Int32) then true else false))) else (if (122 : Int32) < p0 then (if p0 = (95 : Int32) then true else (if p0 = (45 : Int32) then true else (if p0 = (46 : Int32) then true else false))) else true)) else (if (90 : Int32) < p0 then (if p0 < (97 : Int32) then (if p0 = (95 : Int32) then true else (if p0 = (45 : Int32) then true else (if p0 = (46 : Int32) then true else false))) else (if (122 : Int32) < p0 then (if p0 = (95 : Int32) then true else (if p0 = (45 : Int32) then true else (if p0 = (46 : Int32) then true else false))) else true)) else true)) else true)); z3)
def Q5 (p0 : Int32) (h0 : Heap) (n0 : Nat) (v : Option Value) (h : Heap) (L : List Loc) : Prop := v = some (.int (b2i (f5 p0))) ∧ Fr n0 L ∧ h = h0
abbrev rmm5 : Room := { frames := 0, cells := 0, slots := 0, locals := 0 }
abbrev P5 (p0 : Int32) (h0 : Heap) (n0 : Nat) (s : State) : Outcome → State → Prop := fun o U' => ∃ v L, o = .returned v ∧ Q5 p0 h0 n0 v U'.heap L ∧ FrameEnd s o U' L rmm5.cells rmm5.slots
theorem pn_5 : plainName "com/example/strict_schedule/strictschedule/history/Item" = true := by first | (simp [plainName, overriddenIn]; done) | decide +kernel
theorem ef_5 (m : MethodId) (p0 : Int32) : entryFrame m #[(.int p0)] 1 = mkF m 0 #[.val (.int p0)] [] := by first | (simp [entryFrame, mkF, argsToLocals, Value.category]; done) | rfl
set_option maxRecDepth 65536 in
set_option maxHeartbeats 40000000 in
theorem rm5 (l : Launch) (Z : State) (a0 : Array Value) (hw : ∀ d ∈ tables_1, d.before a0 Z = true) (ws : List Jvm.Cond) (p0 : Int32) (h0 : Heap) (n0 : Nat) :
    MetFree l (⟨"com/example/strict_schedule/strictschedule/history/Item", "isCharacter", "(I)Z"⟩ : MethodName) (head1 (Jvm.Cond.code (⟨"com/example/strict_schedule/strictschedule/history/Item", "isCharacter", "(I)Z"⟩ : MethodName) prog_49_method_2_code 1 (some .boolean) :: ws) rmm5) (fun a U => a = #[(.int p0)] ∧ Z.Warmed39 U.vm ∧ U.heap = h0) (fun _ _ _ _ _ => True) (fun _ U o U' => ∃ v L, o = .returned v ∧ Q5 p0 h0 n0 v U'.heap L ∧ FrameEnd U o U' L rmm5.cells rmm5.slots) := by
  refine MetFree.of_bodySF (plainFor_of_name pn_5) hisR ?_
  intro p e s m args below meth c s₁ Bd hml0 hP hK
  obtain ⟨rfl, hZ, hh⟩ := hP
  have hx := Bd.exec
  have hby := Bd.bytes
  have hml : c.maxLocals = 1 := hml0
  have hown : s.vm.findClass "com/example/strict_schedule/strictschedule/history/Item" = some m.cls := findClass_of_methodNamed Bd.named
  have hnm := (name_of_methodNamed Bd.named Bd.method).1
  have X0 : Stand p l e rmm5 s m #[(.int p0)] below meth c s₁ [] 0 0 := Stand.of_body Bd
  have e0 : s₁.heap = h0 := by rw [← hh, Bd.state]; rfl
  have N0 := Fr.nil n0
  show Go p.tables e below (P5 p0 h0 n0 s) (s₁.setTop (entryFrame m #[(.int p0)] 1))
  refine Go.back (fun t k => castTop (ef_5 m p0) k) ?_
  show Go p.tables e below (P5 p0 h0 n0 s) (s₁.setTop (mkF m 0 #[.val (.int p0)] []))
  have hf : f5 p0 = (let z3 : Bool := (if p0 < (48 : Int32) then (if p0 < (65 : Int32) then (if p0 < (97 : Int32) then (if p0 = (95 : Int32) then true else (if p0 = (45 : Int32) then true else (if p0 = (46 : Int32) then true else false))) else (if (122 : Int32) < p0 then (if p0 = (95 : Int32) then true else (if p0 = (45 : Int32) then true else (if p0 = (46 : Int32) then true else false))) else true)) else (if (90 : Int32) < p0 then (if p0 < (97 : Int32) then (if p0 = (95 : Int32) then true else (if p0 = (45 : Int32) then true else (if p0 = (46 : Int32) then true else false))) else (if (122 : Int32) < p0 then (if p0 = (95 : Int32) then true else (if p0 = (45 : Int32) then true else (if p0 = (46 : Int32) then true else false))) else true)) else true)) else (if (57 : Int32) < p0 then (if p0 < (65 : Int32) then (if p0 < (97 : Int32) then (if p0 = (95 : Int32) then true else (if p0 = (45 : Int32) then true else (if p0 = (46 : Int32) then true else false))) else (if (122 : Int32) < p0 then (if p0 = (95 : Int32) then true else (if p0 = (45 : Int32) then true else (if p0 = (46 : Int32) then true else false))) else true)) else (if (90 : Int32) < p0 then (if p0 < (97 : Int32) then (if p0 = (95 : Int32) then true else (if p0 = (45 : Int32) then true else (if p0 = (46 : Int32) then true else false))) else (if (122 : Int32) < p0 then (if p0 = (95 : Int32) then true else (if p0 = (45 : Int32) then true else (if p0 = (46 : Int32) then true else false))) else true)) else true)) else true)); z3) := rfl
  refine Go.back (fun t k => XS.iloadN X0.here hx rfl (hb hby d5_0) rfl  k) ?_
  show Go p.tables e below (P5 p0 h0 n0 s) (s₁.setTop (mkF m 1 #[.val (.int p0)] [(.int p0)]))
  refine Go.back (fun t k => XS.bipush X0.here hx rfl (hb hby d5_1) k) ?_
  show Go p.tables e below (P5 p0 h0 n0 s) (s₁.setTop (mkF m 3 #[.val (.int p0)] [(.int (48 : Int32)), (.int p0)]))
  have J2 : ∀ (z3 : Bool) (hz3 : z3 = (if p0 < (48 : Int32) then (if p0 < (65 : Int32) then (if p0 < (97 : Int32) then (if p0 = (95 : Int32) then true else (if p0 = (45 : Int32) then true else (if p0 = (46 : Int32) then true else false))) else (if (122 : Int32) < p0 then (if p0 = (95 : Int32) then true else (if p0 = (45 : Int32) then true else (if p0 = (46 : Int32) then true else false))) else true)) else (if (90 : Int32) < p0 then (if p0 < (97 : Int32) then (if p0 = (95 : Int32) then true else (if p0 = (45 : Int32) then true else (if p0 = (46 : Int32) then true else false))) else (if (122 : Int32) < p0 then (if p0 = (95 : Int32) then true else (if p0 = (45 : Int32) then true else (if p0 = (46 : Int32) then true else false))) else true)) else true)) else (if (57 : Int32) < p0 then (if p0 < (65 : Int32) then (if p0 < (97 : Int32) then (if p0 = (95 : Int32) then true else (if p0 = (45 : Int32) then true else (if p0 = (46 : Int32) then true else false))) else (if (122 : Int32) < p0 then (if p0 = (95 : Int32) then true else (if p0 = (45 : Int32) then true else (if p0 = (46 : Int32) then true else false))) else true)) else (if (90 : Int32) < p0 then (if p0 < (97 : Int32) then (if p0 = (95 : Int32) then true else (if p0 = (45 : Int32) then true else (if p0 = (46 : Int32) then true else false))) else (if (122 : Int32) < p0 then (if p0 = (95 : Int32) then true else (if p0 = (45 : Int32) then true else (if p0 = (46 : Int32) then true else false))) else true)) else true)) else true))), Go p.tables e below (P5 p0 h0 n0 s) (s₁.setTop (mkF m 59 #[.val (.int p0)] [(.int (b2i z3))])) := by
    intro z3 hz3
    have r4 : f5 p0 = z3 := by subst hz3; exact hf
    show Go p.tables e below (P5 p0 h0 n0 s) (s₁.setTop (mkF m 59 #[.val (.int p0)] [(.int (b2i z3))]))
    exact Go.retB (b := z3) X0 hx Bd.returns (hb hby d5_59) Bd.notSynchronized ⟨by rw [r4], N0, e0⟩ (by decide) (by decide)
  have r5 : (if p0 < (48 : Int32) then (if p0 < (65 : Int32) then (if p0 < (97 : Int32) then (if p0 = (95 : Int32) then true else (if p0 = (45 : Int32) then true else (if p0 = (46 : Int32) then true else false))) else (if (122 : Int32) < p0 then (if p0 = (95 : Int32) then true else (if p0 = (45 : Int32) then true else (if p0 = (46 : Int32) then true else false))) else true)) else (if (90 : Int32) < p0 then (if p0 < (97 : Int32) then (if p0 = (95 : Int32) then true else (if p0 = (45 : Int32) then true else (if p0 = (46 : Int32) then true else false))) else (if (122 : Int32) < p0 then (if p0 = (95 : Int32) then true else (if p0 = (45 : Int32) then true else (if p0 = (46 : Int32) then true else false))) else true)) else true)) else (if (57 : Int32) < p0 then (if p0 < (65 : Int32) then (if p0 < (97 : Int32) then (if p0 = (95 : Int32) then true else (if p0 = (45 : Int32) then true else (if p0 = (46 : Int32) then true else false))) else (if (122 : Int32) < p0 then (if p0 = (95 : Int32) then true else (if p0 = (45 : Int32) then true else (if p0 = (46 : Int32) then true else false))) else true)) else (if (90 : Int32) < p0 then (if p0 < (97 : Int32) then (if p0 = (95 : Int32) then true else (if p0 = (45 : Int32) then true else (if p0 = (46 : Int32) then true else false))) else (if (122 : Int32) < p0 then (if p0 = (95 : Int32) then true else (if p0 = (45 : Int32) then true else (if p0 = (46 : Int32) then true else false))) else true)) else true)) else true)) = (if p0 < (48 : Int32) then (if p0 < (65 : Int32) then (if p0 < (97 : Int32) then (if p0 = (95 : Int32) then true else (if p0 = (45 : Int32) then true else (if p0 = (46 : Int32) then true else false))) else (if (122 : Int32) < p0 then (if p0 = (95 : Int32) then true else (if p0 = (45 : Int32) then true else (if p0 = (46 : Int32) then true else false))) else true)) else (if (90 : Int32) < p0 then (if p0 < (97 : Int32) then (if p0 = (95 : Int32) then true else (if p0 = (45 : Int32) then true else (if p0 = (46 : Int32) then true else false))) else (if (122 : Int32) < p0 then (if p0 = (95 : Int32) then true else (if p0 = (45 : Int32) then true else (if p0 = (46 : Int32) then true else false))) else true)) else true)) else (if (57 : Int32) < p0 then (if p0 < (65 : Int32) then (if p0 < (97 : Int32) then (if p0 = (95 : Int32) then true else (if p0 = (45 : Int32) then true else (if p0 = (46 : Int32) then true else false))) else (if (122 : Int32) < p0 then (if p0 = (95 : Int32) then true else (if p0 = (45 : Int32) then true else (if p0 = (46 : Int32) then true else false))) else true)) else (if (90 : Int32) < p0 then (if p0 < (97 : Int32) then (if p0 = (95 : Int32) then true else (if p0 = (45 : Int32) then true else (if p0 = (46 : Int32) then true else false))) else (if (122 : Int32) < p0 then (if p0 = (95 : Int32) then true else (if p0 = (45 : Int32) then true else (if p0 = (46 : Int32) then true else false))) else true)) else true)) else true)) := rfl
  by_cases hc1 : p0 < (48 : Int32)
  · have r6 := r5.trans (if_pos hc1)
    refine Go.back (fun t k => XS.icmpYes X0.here hx rfl (pc0 := 3) (pc' := 12) rfl (hb hby d5_3) rfl (tlt hc1).1 (by decide) (by decide) k) ?_
    show Go p.tables e below (P5 p0 h0 n0 s) (s₁.setTop (mkF m 12 #[.val (.int p0)] []))
    refine Go.back (fun t k => XS.iloadN X0.here hx rfl (hb hby d5_12) rfl  k) ?_
    show Go p.tables e below (P5 p0 h0 n0 s) (s₁.setTop (mkF m 13 #[.val (.int p0)] [(.int p0)]))
    refine Go.back (fun t k => XS.bipush X0.here hx rfl (hb hby d5_13) k) ?_
    show Go p.tables e below (P5 p0 h0 n0 s) (s₁.setTop (mkF m 15 #[.val (.int p0)] [(.int (65 : Int32)), (.int p0)]))
    by_cases hc7 : p0 < (65 : Int32)
    · have r8 := r6.trans (if_pos hc7)
      refine Go.back (fun t k => XS.icmpYes X0.here hx rfl (pc0 := 15) (pc' := 24) rfl (hb hby d5_15) rfl (tlt hc7).1 (by decide) (by decide) k) ?_
      show Go p.tables e below (P5 p0 h0 n0 s) (s₁.setTop (mkF m 24 #[.val (.int p0)] []))
      refine Go.back (fun t k => XS.iloadN X0.here hx rfl (hb hby d5_24) rfl  k) ?_
      show Go p.tables e below (P5 p0 h0 n0 s) (s₁.setTop (mkF m 25 #[.val (.int p0)] [(.int p0)]))
      refine Go.back (fun t k => XS.bipush X0.here hx rfl (hb hby d5_25) k) ?_
      show Go p.tables e below (P5 p0 h0 n0 s) (s₁.setTop (mkF m 27 #[.val (.int p0)] [(.int (97 : Int32)), (.int p0)]))
      by_cases hc9 : p0 < (97 : Int32)
      · have r10 := r8.trans (if_pos hc9)
        refine Go.back (fun t k => XS.icmpYes X0.here hx rfl (pc0 := 27) (pc' := 36) rfl (hb hby d5_27) rfl (tlt hc9).1 (by decide) (by decide) k) ?_
        show Go p.tables e below (P5 p0 h0 n0 s) (s₁.setTop (mkF m 36 #[.val (.int p0)] []))
        refine Go.back (fun t k => XS.iloadN X0.here hx rfl (hb hby d5_36) rfl  k) ?_
        show Go p.tables e below (P5 p0 h0 n0 s) (s₁.setTop (mkF m 37 #[.val (.int p0)] [(.int p0)]))
        refine Go.back (fun t k => XS.bipush X0.here hx rfl (hb hby d5_37) k) ?_
        show Go p.tables e below (P5 p0 h0 n0 s) (s₁.setTop (mkF m 39 #[.val (.int p0)] [(.int (95 : Int32)), (.int p0)]))
        by_cases hc11 : p0 = (95 : Int32)
        · have r12 := r10.trans (if_pos hc11)
          refine Go.back (fun t k => XS.icmpYes X0.here hx rfl (pc0 := 39) (pc' := 54) rfl (hb hby d5_39) rfl (teq hc11).1 (by decide) (by decide) k) ?_
          show Go p.tables e below (P5 p0 h0 n0 s) (s₁.setTop (mkF m 54 #[.val (.int p0)] []))
          refine Go.back (fun t k => XS.iconst X0.here hx rfl (hb hby d5_54) k) ?_
          show Go p.tables e below (P5 p0 h0 n0 s) (s₁.setTop (mkF m 55 #[.val (.int p0)] [(.int (1 : Int32))]))
          refine Go.back (fun t k => XS.goto X0.here hx rfl (pc0 := 55) (pc' := 59) rfl (hb hby d5_55) (by decide) (by decide) k) ?_
          show Go p.tables e below (P5 p0 h0 n0 s) (s₁.setTop (mkF m 59 #[.val (.int p0)] [(.int (1 : Int32))]))
          exact J2 true r12.symm
        · have r13 := r10.trans (if_neg hc11)
          refine Go.back (fun t k => XS.icmpNo X0.here hx rfl (hb hby d5_39) rfl (feq hc11).1 k) ?_
          show Go p.tables e below (P5 p0 h0 n0 s) (s₁.setTop (mkF m 42 #[.val (.int p0)] []))
          refine Go.back (fun t k => XS.iloadN X0.here hx rfl (hb hby d5_42) rfl  k) ?_
          show Go p.tables e below (P5 p0 h0 n0 s) (s₁.setTop (mkF m 43 #[.val (.int p0)] [(.int p0)]))
          refine Go.back (fun t k => XS.bipush X0.here hx rfl (hb hby d5_43) k) ?_
          show Go p.tables e below (P5 p0 h0 n0 s) (s₁.setTop (mkF m 45 #[.val (.int p0)] [(.int (45 : Int32)), (.int p0)]))
          by_cases hc14 : p0 = (45 : Int32)
          · have r15 := r13.trans (if_pos hc14)
            refine Go.back (fun t k => XS.icmpYes X0.here hx rfl (pc0 := 45) (pc' := 54) rfl (hb hby d5_45) rfl (teq hc14).1 (by decide) (by decide) k) ?_
            show Go p.tables e below (P5 p0 h0 n0 s) (s₁.setTop (mkF m 54 #[.val (.int p0)] []))
            refine Go.back (fun t k => XS.iconst X0.here hx rfl (hb hby d5_54) k) ?_
            show Go p.tables e below (P5 p0 h0 n0 s) (s₁.setTop (mkF m 55 #[.val (.int p0)] [(.int (1 : Int32))]))
            refine Go.back (fun t k => XS.goto X0.here hx rfl (pc0 := 55) (pc' := 59) rfl (hb hby d5_55) (by decide) (by decide) k) ?_
            show Go p.tables e below (P5 p0 h0 n0 s) (s₁.setTop (mkF m 59 #[.val (.int p0)] [(.int (1 : Int32))]))
            exact J2 true r15.symm
          · have r16 := r13.trans (if_neg hc14)
            refine Go.back (fun t k => XS.icmpNo X0.here hx rfl (hb hby d5_45) rfl (feq hc14).1 k) ?_
            show Go p.tables e below (P5 p0 h0 n0 s) (s₁.setTop (mkF m 48 #[.val (.int p0)] []))
            refine Go.back (fun t k => XS.iloadN X0.here hx rfl (hb hby d5_48) rfl  k) ?_
            show Go p.tables e below (P5 p0 h0 n0 s) (s₁.setTop (mkF m 49 #[.val (.int p0)] [(.int p0)]))
            refine Go.back (fun t k => XS.bipush X0.here hx rfl (hb hby d5_49) k) ?_
            show Go p.tables e below (P5 p0 h0 n0 s) (s₁.setTop (mkF m 51 #[.val (.int p0)] [(.int (46 : Int32)), (.int p0)]))
            by_cases hc17 : p0 = (46 : Int32)
            · have r18 := r16.trans (if_pos hc17)
              refine Go.back (fun t k => XS.icmpNo X0.here hx rfl (hb hby d5_51) rfl (teq hc17).2 k) ?_
              show Go p.tables e below (P5 p0 h0 n0 s) (s₁.setTop (mkF m 54 #[.val (.int p0)] []))
              refine Go.back (fun t k => XS.iconst X0.here hx rfl (hb hby d5_54) k) ?_
              show Go p.tables e below (P5 p0 h0 n0 s) (s₁.setTop (mkF m 55 #[.val (.int p0)] [(.int (1 : Int32))]))
              refine Go.back (fun t k => XS.goto X0.here hx rfl (pc0 := 55) (pc' := 59) rfl (hb hby d5_55) (by decide) (by decide) k) ?_
              show Go p.tables e below (P5 p0 h0 n0 s) (s₁.setTop (mkF m 59 #[.val (.int p0)] [(.int (1 : Int32))]))
              exact J2 true r18.symm
            · have r19 := r16.trans (if_neg hc17)
              refine Go.back (fun t k => XS.icmpYes X0.here hx rfl (pc0 := 51) (pc' := 58) rfl (hb hby d5_51) rfl (feq hc17).2 (by decide) (by decide) k) ?_
              show Go p.tables e below (P5 p0 h0 n0 s) (s₁.setTop (mkF m 58 #[.val (.int p0)] []))
              refine Go.back (fun t k => XS.iconst X0.here hx rfl (hb hby d5_58) k) ?_
              show Go p.tables e below (P5 p0 h0 n0 s) (s₁.setTop (mkF m 59 #[.val (.int p0)] [(.int (0 : Int32))]))
              exact J2 false r19.symm
      · have r20 := r8.trans (if_neg hc9)
        refine Go.back (fun t k => XS.icmpNo X0.here hx rfl (hb hby d5_27) rfl (flt hc9).1 k) ?_
        show Go p.tables e below (P5 p0 h0 n0 s) (s₁.setTop (mkF m 30 #[.val (.int p0)] []))
        refine Go.back (fun t k => XS.iloadN X0.here hx rfl (hb hby d5_30) rfl  k) ?_
        show Go p.tables e below (P5 p0 h0 n0 s) (s₁.setTop (mkF m 31 #[.val (.int p0)] [(.int p0)]))
        refine Go.back (fun t k => XS.bipush X0.here hx rfl (hb hby d5_31) k) ?_
        show Go p.tables e below (P5 p0 h0 n0 s) (s₁.setTop (mkF m 33 #[.val (.int p0)] [(.int (122 : Int32)), (.int p0)]))
        by_cases hc21 : (122 : Int32) < p0
        · have r22 := r20.trans (if_pos hc21)
          refine Go.back (fun t k => XS.icmpNo X0.here hx rfl (hb hby d5_33) rfl (tlt hc21).2.2.2 k) ?_
          show Go p.tables e below (P5 p0 h0 n0 s) (s₁.setTop (mkF m 36 #[.val (.int p0)] []))
          refine Go.back (fun t k => XS.iloadN X0.here hx rfl (hb hby d5_36) rfl  k) ?_
          show Go p.tables e below (P5 p0 h0 n0 s) (s₁.setTop (mkF m 37 #[.val (.int p0)] [(.int p0)]))
          refine Go.back (fun t k => XS.bipush X0.here hx rfl (hb hby d5_37) k) ?_
          show Go p.tables e below (P5 p0 h0 n0 s) (s₁.setTop (mkF m 39 #[.val (.int p0)] [(.int (95 : Int32)), (.int p0)]))
          by_cases hc23 : p0 = (95 : Int32)
          · have r24 := r22.trans (if_pos hc23)
            refine Go.back (fun t k => XS.icmpYes X0.here hx rfl (pc0 := 39) (pc' := 54) rfl (hb hby d5_39) rfl (teq hc23).1 (by decide) (by decide) k) ?_
            show Go p.tables e below (P5 p0 h0 n0 s) (s₁.setTop (mkF m 54 #[.val (.int p0)] []))
            refine Go.back (fun t k => XS.iconst X0.here hx rfl (hb hby d5_54) k) ?_
            show Go p.tables e below (P5 p0 h0 n0 s) (s₁.setTop (mkF m 55 #[.val (.int p0)] [(.int (1 : Int32))]))
            refine Go.back (fun t k => XS.goto X0.here hx rfl (pc0 := 55) (pc' := 59) rfl (hb hby d5_55) (by decide) (by decide) k) ?_
            show Go p.tables e below (P5 p0 h0 n0 s) (s₁.setTop (mkF m 59 #[.val (.int p0)] [(.int (1 : Int32))]))
            exact J2 true r24.symm
          · have r25 := r22.trans (if_neg hc23)
            refine Go.back (fun t k => XS.icmpNo X0.here hx rfl (hb hby d5_39) rfl (feq hc23).1 k) ?_
            show Go p.tables e below (P5 p0 h0 n0 s) (s₁.setTop (mkF m 42 #[.val (.int p0)] []))
            refine Go.back (fun t k => XS.iloadN X0.here hx rfl (hb hby d5_42) rfl  k) ?_
            show Go p.tables e below (P5 p0 h0 n0 s) (s₁.setTop (mkF m 43 #[.val (.int p0)] [(.int p0)]))
            refine Go.back (fun t k => XS.bipush X0.here hx rfl (hb hby d5_43) k) ?_
            show Go p.tables e below (P5 p0 h0 n0 s) (s₁.setTop (mkF m 45 #[.val (.int p0)] [(.int (45 : Int32)), (.int p0)]))
            by_cases hc26 : p0 = (45 : Int32)
            · have r27 := r25.trans (if_pos hc26)
              refine Go.back (fun t k => XS.icmpYes X0.here hx rfl (pc0 := 45) (pc' := 54) rfl (hb hby d5_45) rfl (teq hc26).1 (by decide) (by decide) k) ?_
              show Go p.tables e below (P5 p0 h0 n0 s) (s₁.setTop (mkF m 54 #[.val (.int p0)] []))
              refine Go.back (fun t k => XS.iconst X0.here hx rfl (hb hby d5_54) k) ?_
              show Go p.tables e below (P5 p0 h0 n0 s) (s₁.setTop (mkF m 55 #[.val (.int p0)] [(.int (1 : Int32))]))
              refine Go.back (fun t k => XS.goto X0.here hx rfl (pc0 := 55) (pc' := 59) rfl (hb hby d5_55) (by decide) (by decide) k) ?_
              show Go p.tables e below (P5 p0 h0 n0 s) (s₁.setTop (mkF m 59 #[.val (.int p0)] [(.int (1 : Int32))]))
              exact J2 true r27.symm
            · have r28 := r25.trans (if_neg hc26)
              refine Go.back (fun t k => XS.icmpNo X0.here hx rfl (hb hby d5_45) rfl (feq hc26).1 k) ?_
              show Go p.tables e below (P5 p0 h0 n0 s) (s₁.setTop (mkF m 48 #[.val (.int p0)] []))
              refine Go.back (fun t k => XS.iloadN X0.here hx rfl (hb hby d5_48) rfl  k) ?_
              show Go p.tables e below (P5 p0 h0 n0 s) (s₁.setTop (mkF m 49 #[.val (.int p0)] [(.int p0)]))
              refine Go.back (fun t k => XS.bipush X0.here hx rfl (hb hby d5_49) k) ?_
              show Go p.tables e below (P5 p0 h0 n0 s) (s₁.setTop (mkF m 51 #[.val (.int p0)] [(.int (46 : Int32)), (.int p0)]))
              by_cases hc29 : p0 = (46 : Int32)
              · have r30 := r28.trans (if_pos hc29)
                refine Go.back (fun t k => XS.icmpNo X0.here hx rfl (hb hby d5_51) rfl (teq hc29).2 k) ?_
                show Go p.tables e below (P5 p0 h0 n0 s) (s₁.setTop (mkF m 54 #[.val (.int p0)] []))
                refine Go.back (fun t k => XS.iconst X0.here hx rfl (hb hby d5_54) k) ?_
                show Go p.tables e below (P5 p0 h0 n0 s) (s₁.setTop (mkF m 55 #[.val (.int p0)] [(.int (1 : Int32))]))
                refine Go.back (fun t k => XS.goto X0.here hx rfl (pc0 := 55) (pc' := 59) rfl (hb hby d5_55) (by decide) (by decide) k) ?_
                show Go p.tables e below (P5 p0 h0 n0 s) (s₁.setTop (mkF m 59 #[.val (.int p0)] [(.int (1 : Int32))]))
                exact J2 true r30.symm
              · have r31 := r28.trans (if_neg hc29)
                refine Go.back (fun t k => XS.icmpYes X0.here hx rfl (pc0 := 51) (pc' := 58) rfl (hb hby d5_51) rfl (feq hc29).2 (by decide) (by decide) k) ?_
                show Go p.tables e below (P5 p0 h0 n0 s) (s₁.setTop (mkF m 58 #[.val (.int p0)] []))
                refine Go.back (fun t k => XS.iconst X0.here hx rfl (hb hby d5_58) k) ?_
                show Go p.tables e below (P5 p0 h0 n0 s) (s₁.setTop (mkF m 59 #[.val (.int p0)] [(.int (0 : Int32))]))
                exact J2 false r31.symm
        · have r32 := r20.trans (if_neg hc21)
          refine Go.back (fun t k => XS.icmpYes X0.here hx rfl (pc0 := 33) (pc' := 54) rfl (hb hby d5_33) rfl (flt hc21).2.2.2 (by decide) (by decide) k) ?_
          show Go p.tables e below (P5 p0 h0 n0 s) (s₁.setTop (mkF m 54 #[.val (.int p0)] []))
          refine Go.back (fun t k => XS.iconst X0.here hx rfl (hb hby d5_54) k) ?_
          show Go p.tables e below (P5 p0 h0 n0 s) (s₁.setTop (mkF m 55 #[.val (.int p0)] [(.int (1 : Int32))]))
          refine Go.back (fun t k => XS.goto X0.here hx rfl (pc0 := 55) (pc' := 59) rfl (hb hby d5_55) (by decide) (by decide) k) ?_
          show Go p.tables e below (P5 p0 h0 n0 s) (s₁.setTop (mkF m 59 #[.val (.int p0)] [(.int (1 : Int32))]))
          exact J2 true r32.symm
    · have r33 := r6.trans (if_neg hc7)
      refine Go.back (fun t k => XS.icmpNo X0.here hx rfl (hb hby d5_15) rfl (flt hc7).1 k) ?_
      show Go p.tables e below (P5 p0 h0 n0 s) (s₁.setTop (mkF m 18 #[.val (.int p0)] []))
      refine Go.back (fun t k => XS.iloadN X0.here hx rfl (hb hby d5_18) rfl  k) ?_
      show Go p.tables e below (P5 p0 h0 n0 s) (s₁.setTop (mkF m 19 #[.val (.int p0)] [(.int p0)]))
      refine Go.back (fun t k => XS.bipush X0.here hx rfl (hb hby d5_19) k) ?_
      show Go p.tables e below (P5 p0 h0 n0 s) (s₁.setTop (mkF m 21 #[.val (.int p0)] [(.int (90 : Int32)), (.int p0)]))
      by_cases hc34 : (90 : Int32) < p0
      · have r35 := r33.trans (if_pos hc34)
        refine Go.back (fun t k => XS.icmpNo X0.here hx rfl (hb hby d5_21) rfl (tlt hc34).2.2.2 k) ?_
        show Go p.tables e below (P5 p0 h0 n0 s) (s₁.setTop (mkF m 24 #[.val (.int p0)] []))
        refine Go.back (fun t k => XS.iloadN X0.here hx rfl (hb hby d5_24) rfl  k) ?_
        show Go p.tables e below (P5 p0 h0 n0 s) (s₁.setTop (mkF m 25 #[.val (.int p0)] [(.int p0)]))
        refine Go.back (fun t k => XS.bipush X0.here hx rfl (hb hby d5_25) k) ?_
        show Go p.tables e below (P5 p0 h0 n0 s) (s₁.setTop (mkF m 27 #[.val (.int p0)] [(.int (97 : Int32)), (.int p0)]))
        by_cases hc36 : p0 < (97 : Int32)
        · have r37 := r35.trans (if_pos hc36)
          refine Go.back (fun t k => XS.icmpYes X0.here hx rfl (pc0 := 27) (pc' := 36) rfl (hb hby d5_27) rfl (tlt hc36).1 (by decide) (by decide) k) ?_
          show Go p.tables e below (P5 p0 h0 n0 s) (s₁.setTop (mkF m 36 #[.val (.int p0)] []))
          refine Go.back (fun t k => XS.iloadN X0.here hx rfl (hb hby d5_36) rfl  k) ?_
          show Go p.tables e below (P5 p0 h0 n0 s) (s₁.setTop (mkF m 37 #[.val (.int p0)] [(.int p0)]))
          refine Go.back (fun t k => XS.bipush X0.here hx rfl (hb hby d5_37) k) ?_
          show Go p.tables e below (P5 p0 h0 n0 s) (s₁.setTop (mkF m 39 #[.val (.int p0)] [(.int (95 : Int32)), (.int p0)]))
          by_cases hc38 : p0 = (95 : Int32)
          · have r39 := r37.trans (if_pos hc38)
            refine Go.back (fun t k => XS.icmpYes X0.here hx rfl (pc0 := 39) (pc' := 54) rfl (hb hby d5_39) rfl (teq hc38).1 (by decide) (by decide) k) ?_
            show Go p.tables e below (P5 p0 h0 n0 s) (s₁.setTop (mkF m 54 #[.val (.int p0)] []))
            refine Go.back (fun t k => XS.iconst X0.here hx rfl (hb hby d5_54) k) ?_
            show Go p.tables e below (P5 p0 h0 n0 s) (s₁.setTop (mkF m 55 #[.val (.int p0)] [(.int (1 : Int32))]))
            refine Go.back (fun t k => XS.goto X0.here hx rfl (pc0 := 55) (pc' := 59) rfl (hb hby d5_55) (by decide) (by decide) k) ?_
            show Go p.tables e below (P5 p0 h0 n0 s) (s₁.setTop (mkF m 59 #[.val (.int p0)] [(.int (1 : Int32))]))
            exact J2 true r39.symm
          · have r40 := r37.trans (if_neg hc38)
            refine Go.back (fun t k => XS.icmpNo X0.here hx rfl (hb hby d5_39) rfl (feq hc38).1 k) ?_
            show Go p.tables e below (P5 p0 h0 n0 s) (s₁.setTop (mkF m 42 #[.val (.int p0)] []))
            refine Go.back (fun t k => XS.iloadN X0.here hx rfl (hb hby d5_42) rfl  k) ?_
            show Go p.tables e below (P5 p0 h0 n0 s) (s₁.setTop (mkF m 43 #[.val (.int p0)] [(.int p0)]))
            refine Go.back (fun t k => XS.bipush X0.here hx rfl (hb hby d5_43) k) ?_
            show Go p.tables e below (P5 p0 h0 n0 s) (s₁.setTop (mkF m 45 #[.val (.int p0)] [(.int (45 : Int32)), (.int p0)]))
            by_cases hc41 : p0 = (45 : Int32)
            · have r42 := r40.trans (if_pos hc41)
              refine Go.back (fun t k => XS.icmpYes X0.here hx rfl (pc0 := 45) (pc' := 54) rfl (hb hby d5_45) rfl (teq hc41).1 (by decide) (by decide) k) ?_
              show Go p.tables e below (P5 p0 h0 n0 s) (s₁.setTop (mkF m 54 #[.val (.int p0)] []))
              refine Go.back (fun t k => XS.iconst X0.here hx rfl (hb hby d5_54) k) ?_
              show Go p.tables e below (P5 p0 h0 n0 s) (s₁.setTop (mkF m 55 #[.val (.int p0)] [(.int (1 : Int32))]))
              refine Go.back (fun t k => XS.goto X0.here hx rfl (pc0 := 55) (pc' := 59) rfl (hb hby d5_55) (by decide) (by decide) k) ?_
              show Go p.tables e below (P5 p0 h0 n0 s) (s₁.setTop (mkF m 59 #[.val (.int p0)] [(.int (1 : Int32))]))
              exact J2 true r42.symm
            · have r43 := r40.trans (if_neg hc41)
              refine Go.back (fun t k => XS.icmpNo X0.here hx rfl (hb hby d5_45) rfl (feq hc41).1 k) ?_
              show Go p.tables e below (P5 p0 h0 n0 s) (s₁.setTop (mkF m 48 #[.val (.int p0)] []))
              refine Go.back (fun t k => XS.iloadN X0.here hx rfl (hb hby d5_48) rfl  k) ?_
              show Go p.tables e below (P5 p0 h0 n0 s) (s₁.setTop (mkF m 49 #[.val (.int p0)] [(.int p0)]))
              refine Go.back (fun t k => XS.bipush X0.here hx rfl (hb hby d5_49) k) ?_
              show Go p.tables e below (P5 p0 h0 n0 s) (s₁.setTop (mkF m 51 #[.val (.int p0)] [(.int (46 : Int32)), (.int p0)]))
              by_cases hc44 : p0 = (46 : Int32)
              · have r45 := r43.trans (if_pos hc44)
                refine Go.back (fun t k => XS.icmpNo X0.here hx rfl (hb hby d5_51) rfl (teq hc44).2 k) ?_
                show Go p.tables e below (P5 p0 h0 n0 s) (s₁.setTop (mkF m 54 #[.val (.int p0)] []))
                refine Go.back (fun t k => XS.iconst X0.here hx rfl (hb hby d5_54) k) ?_
                show Go p.tables e below (P5 p0 h0 n0 s) (s₁.setTop (mkF m 55 #[.val (.int p0)] [(.int (1 : Int32))]))
                refine Go.back (fun t k => XS.goto X0.here hx rfl (pc0 := 55) (pc' := 59) rfl (hb hby d5_55) (by decide) (by decide) k) ?_
                show Go p.tables e below (P5 p0 h0 n0 s) (s₁.setTop (mkF m 59 #[.val (.int p0)] [(.int (1 : Int32))]))
                exact J2 true r45.symm
              · have r46 := r43.trans (if_neg hc44)
                refine Go.back (fun t k => XS.icmpYes X0.here hx rfl (pc0 := 51) (pc' := 58) rfl (hb hby d5_51) rfl (feq hc44).2 (by decide) (by decide) k) ?_
                show Go p.tables e below (P5 p0 h0 n0 s) (s₁.setTop (mkF m 58 #[.val (.int p0)] []))
                refine Go.back (fun t k => XS.iconst X0.here hx rfl (hb hby d5_58) k) ?_
                show Go p.tables e below (P5 p0 h0 n0 s) (s₁.setTop (mkF m 59 #[.val (.int p0)] [(.int (0 : Int32))]))
                exact J2 false r46.symm
        · have r47 := r35.trans (if_neg hc36)
          refine Go.back (fun t k => XS.icmpNo X0.here hx rfl (hb hby d5_27) rfl (flt hc36).1 k) ?_
          show Go p.tables e below (P5 p0 h0 n0 s) (s₁.setTop (mkF m 30 #[.val (.int p0)] []))
          refine Go.back (fun t k => XS.iloadN X0.here hx rfl (hb hby d5_30) rfl  k) ?_
          show Go p.tables e below (P5 p0 h0 n0 s) (s₁.setTop (mkF m 31 #[.val (.int p0)] [(.int p0)]))
          refine Go.back (fun t k => XS.bipush X0.here hx rfl (hb hby d5_31) k) ?_
          show Go p.tables e below (P5 p0 h0 n0 s) (s₁.setTop (mkF m 33 #[.val (.int p0)] [(.int (122 : Int32)), (.int p0)]))
          by_cases hc48 : (122 : Int32) < p0
          · have r49 := r47.trans (if_pos hc48)
            refine Go.back (fun t k => XS.icmpNo X0.here hx rfl (hb hby d5_33) rfl (tlt hc48).2.2.2 k) ?_
            show Go p.tables e below (P5 p0 h0 n0 s) (s₁.setTop (mkF m 36 #[.val (.int p0)] []))
            refine Go.back (fun t k => XS.iloadN X0.here hx rfl (hb hby d5_36) rfl  k) ?_
            show Go p.tables e below (P5 p0 h0 n0 s) (s₁.setTop (mkF m 37 #[.val (.int p0)] [(.int p0)]))
            refine Go.back (fun t k => XS.bipush X0.here hx rfl (hb hby d5_37) k) ?_
            show Go p.tables e below (P5 p0 h0 n0 s) (s₁.setTop (mkF m 39 #[.val (.int p0)] [(.int (95 : Int32)), (.int p0)]))
            by_cases hc50 : p0 = (95 : Int32)
            · have r51 := r49.trans (if_pos hc50)
              refine Go.back (fun t k => XS.icmpYes X0.here hx rfl (pc0 := 39) (pc' := 54) rfl (hb hby d5_39) rfl (teq hc50).1 (by decide) (by decide) k) ?_
              show Go p.tables e below (P5 p0 h0 n0 s) (s₁.setTop (mkF m 54 #[.val (.int p0)] []))
              refine Go.back (fun t k => XS.iconst X0.here hx rfl (hb hby d5_54) k) ?_
              show Go p.tables e below (P5 p0 h0 n0 s) (s₁.setTop (mkF m 55 #[.val (.int p0)] [(.int (1 : Int32))]))
              refine Go.back (fun t k => XS.goto X0.here hx rfl (pc0 := 55) (pc' := 59) rfl (hb hby d5_55) (by decide) (by decide) k) ?_
              show Go p.tables e below (P5 p0 h0 n0 s) (s₁.setTop (mkF m 59 #[.val (.int p0)] [(.int (1 : Int32))]))
              exact J2 true r51.symm
            · have r52 := r49.trans (if_neg hc50)
              refine Go.back (fun t k => XS.icmpNo X0.here hx rfl (hb hby d5_39) rfl (feq hc50).1 k) ?_
              show Go p.tables e below (P5 p0 h0 n0 s) (s₁.setTop (mkF m 42 #[.val (.int p0)] []))
              refine Go.back (fun t k => XS.iloadN X0.here hx rfl (hb hby d5_42) rfl  k) ?_
              show Go p.tables e below (P5 p0 h0 n0 s) (s₁.setTop (mkF m 43 #[.val (.int p0)] [(.int p0)]))
              refine Go.back (fun t k => XS.bipush X0.here hx rfl (hb hby d5_43) k) ?_
              show Go p.tables e below (P5 p0 h0 n0 s) (s₁.setTop (mkF m 45 #[.val (.int p0)] [(.int (45 : Int32)), (.int p0)]))
              by_cases hc53 : p0 = (45 : Int32)
              · have r54 := r52.trans (if_pos hc53)
                refine Go.back (fun t k => XS.icmpYes X0.here hx rfl (pc0 := 45) (pc' := 54) rfl (hb hby d5_45) rfl (teq hc53).1 (by decide) (by decide) k) ?_
                show Go p.tables e below (P5 p0 h0 n0 s) (s₁.setTop (mkF m 54 #[.val (.int p0)] []))
                refine Go.back (fun t k => XS.iconst X0.here hx rfl (hb hby d5_54) k) ?_
                show Go p.tables e below (P5 p0 h0 n0 s) (s₁.setTop (mkF m 55 #[.val (.int p0)] [(.int (1 : Int32))]))
                refine Go.back (fun t k => XS.goto X0.here hx rfl (pc0 := 55) (pc' := 59) rfl (hb hby d5_55) (by decide) (by decide) k) ?_
                show Go p.tables e below (P5 p0 h0 n0 s) (s₁.setTop (mkF m 59 #[.val (.int p0)] [(.int (1 : Int32))]))
                exact J2 true r54.symm
              · have r55 := r52.trans (if_neg hc53)
                refine Go.back (fun t k => XS.icmpNo X0.here hx rfl (hb hby d5_45) rfl (feq hc53).1 k) ?_
                show Go p.tables e below (P5 p0 h0 n0 s) (s₁.setTop (mkF m 48 #[.val (.int p0)] []))
                refine Go.back (fun t k => XS.iloadN X0.here hx rfl (hb hby d5_48) rfl  k) ?_
                show Go p.tables e below (P5 p0 h0 n0 s) (s₁.setTop (mkF m 49 #[.val (.int p0)] [(.int p0)]))
                refine Go.back (fun t k => XS.bipush X0.here hx rfl (hb hby d5_49) k) ?_
                show Go p.tables e below (P5 p0 h0 n0 s) (s₁.setTop (mkF m 51 #[.val (.int p0)] [(.int (46 : Int32)), (.int p0)]))
                by_cases hc56 : p0 = (46 : Int32)
                · have r57 := r55.trans (if_pos hc56)
                  refine Go.back (fun t k => XS.icmpNo X0.here hx rfl (hb hby d5_51) rfl (teq hc56).2 k) ?_
                  show Go p.tables e below (P5 p0 h0 n0 s) (s₁.setTop (mkF m 54 #[.val (.int p0)] []))
                  refine Go.back (fun t k => XS.iconst X0.here hx rfl (hb hby d5_54) k) ?_
                  show Go p.tables e below (P5 p0 h0 n0 s) (s₁.setTop (mkF m 55 #[.val (.int p0)] [(.int (1 : Int32))]))
                  refine Go.back (fun t k => XS.goto X0.here hx rfl (pc0 := 55) (pc' := 59) rfl (hb hby d5_55) (by decide) (by decide) k) ?_
                  show Go p.tables e below (P5 p0 h0 n0 s) (s₁.setTop (mkF m 59 #[.val (.int p0)] [(.int (1 : Int32))]))
                  exact J2 true r57.symm
                · have r58 := r55.trans (if_neg hc56)
                  refine Go.back (fun t k => XS.icmpYes X0.here hx rfl (pc0 := 51) (pc' := 58) rfl (hb hby d5_51) rfl (feq hc56).2 (by decide) (by decide) k) ?_
                  show Go p.tables e below (P5 p0 h0 n0 s) (s₁.setTop (mkF m 58 #[.val (.int p0)] []))
                  refine Go.back (fun t k => XS.iconst X0.here hx rfl (hb hby d5_58) k) ?_
                  show Go p.tables e below (P5 p0 h0 n0 s) (s₁.setTop (mkF m 59 #[.val (.int p0)] [(.int (0 : Int32))]))
                  exact J2 false r58.symm
          · have r59 := r47.trans (if_neg hc48)
            refine Go.back (fun t k => XS.icmpYes X0.here hx rfl (pc0 := 33) (pc' := 54) rfl (hb hby d5_33) rfl (flt hc48).2.2.2 (by decide) (by decide) k) ?_
            show Go p.tables e below (P5 p0 h0 n0 s) (s₁.setTop (mkF m 54 #[.val (.int p0)] []))
            refine Go.back (fun t k => XS.iconst X0.here hx rfl (hb hby d5_54) k) ?_
            show Go p.tables e below (P5 p0 h0 n0 s) (s₁.setTop (mkF m 55 #[.val (.int p0)] [(.int (1 : Int32))]))
            refine Go.back (fun t k => XS.goto X0.here hx rfl (pc0 := 55) (pc' := 59) rfl (hb hby d5_55) (by decide) (by decide) k) ?_
            show Go p.tables e below (P5 p0 h0 n0 s) (s₁.setTop (mkF m 59 #[.val (.int p0)] [(.int (1 : Int32))]))
            exact J2 true r59.symm
      · have r60 := r33.trans (if_neg hc34)
        refine Go.back (fun t k => XS.icmpYes X0.here hx rfl (pc0 := 21) (pc' := 54) rfl (hb hby d5_21) rfl (flt hc34).2.2.2 (by decide) (by decide) k) ?_
        show Go p.tables e below (P5 p0 h0 n0 s) (s₁.setTop (mkF m 54 #[.val (.int p0)] []))
        refine Go.back (fun t k => XS.iconst X0.here hx rfl (hb hby d5_54) k) ?_
        show Go p.tables e below (P5 p0 h0 n0 s) (s₁.setTop (mkF m 55 #[.val (.int p0)] [(.int (1 : Int32))]))
        refine Go.back (fun t k => XS.goto X0.here hx rfl (pc0 := 55) (pc' := 59) rfl (hb hby d5_55) (by decide) (by decide) k) ?_
        show Go p.tables e below (P5 p0 h0 n0 s) (s₁.setTop (mkF m 59 #[.val (.int p0)] [(.int (1 : Int32))]))
        exact J2 true r60.symm
  · have r61 := r5.trans (if_neg hc1)
    refine Go.back (fun t k => XS.icmpNo X0.here hx rfl (hb hby d5_3) rfl (flt hc1).1 k) ?_
    show Go p.tables e below (P5 p0 h0 n0 s) (s₁.setTop (mkF m 6 #[.val (.int p0)] []))
    refine Go.back (fun t k => XS.iloadN X0.here hx rfl (hb hby d5_6) rfl  k) ?_
    show Go p.tables e below (P5 p0 h0 n0 s) (s₁.setTop (mkF m 7 #[.val (.int p0)] [(.int p0)]))
    refine Go.back (fun t k => XS.bipush X0.here hx rfl (hb hby d5_7) k) ?_
    show Go p.tables e below (P5 p0 h0 n0 s) (s₁.setTop (mkF m 9 #[.val (.int p0)] [(.int (57 : Int32)), (.int p0)]))
    by_cases hc62 : (57 : Int32) < p0
    · have r63 := r61.trans (if_pos hc62)
      refine Go.back (fun t k => XS.icmpNo X0.here hx rfl (hb hby d5_9) rfl (tlt hc62).2.2.2 k) ?_
      show Go p.tables e below (P5 p0 h0 n0 s) (s₁.setTop (mkF m 12 #[.val (.int p0)] []))
      refine Go.back (fun t k => XS.iloadN X0.here hx rfl (hb hby d5_12) rfl  k) ?_
      show Go p.tables e below (P5 p0 h0 n0 s) (s₁.setTop (mkF m 13 #[.val (.int p0)] [(.int p0)]))
      refine Go.back (fun t k => XS.bipush X0.here hx rfl (hb hby d5_13) k) ?_
      show Go p.tables e below (P5 p0 h0 n0 s) (s₁.setTop (mkF m 15 #[.val (.int p0)] [(.int (65 : Int32)), (.int p0)]))
      by_cases hc64 : p0 < (65 : Int32)
      · have r65 := r63.trans (if_pos hc64)
        refine Go.back (fun t k => XS.icmpYes X0.here hx rfl (pc0 := 15) (pc' := 24) rfl (hb hby d5_15) rfl (tlt hc64).1 (by decide) (by decide) k) ?_
        show Go p.tables e below (P5 p0 h0 n0 s) (s₁.setTop (mkF m 24 #[.val (.int p0)] []))
        refine Go.back (fun t k => XS.iloadN X0.here hx rfl (hb hby d5_24) rfl  k) ?_
        show Go p.tables e below (P5 p0 h0 n0 s) (s₁.setTop (mkF m 25 #[.val (.int p0)] [(.int p0)]))
        refine Go.back (fun t k => XS.bipush X0.here hx rfl (hb hby d5_25) k) ?_
        show Go p.tables e below (P5 p0 h0 n0 s) (s₁.setTop (mkF m 27 #[.val (.int p0)] [(.int (97 : Int32)), (.int p0)]))
        by_cases hc66 : p0 < (97 : Int32)
        · have r67 := r65.trans (if_pos hc66)
          refine Go.back (fun t k => XS.icmpYes X0.here hx rfl (pc0 := 27) (pc' := 36) rfl (hb hby d5_27) rfl (tlt hc66).1 (by decide) (by decide) k) ?_
          show Go p.tables e below (P5 p0 h0 n0 s) (s₁.setTop (mkF m 36 #[.val (.int p0)] []))
          refine Go.back (fun t k => XS.iloadN X0.here hx rfl (hb hby d5_36) rfl  k) ?_
          show Go p.tables e below (P5 p0 h0 n0 s) (s₁.setTop (mkF m 37 #[.val (.int p0)] [(.int p0)]))
          refine Go.back (fun t k => XS.bipush X0.here hx rfl (hb hby d5_37) k) ?_
          show Go p.tables e below (P5 p0 h0 n0 s) (s₁.setTop (mkF m 39 #[.val (.int p0)] [(.int (95 : Int32)), (.int p0)]))
          by_cases hc68 : p0 = (95 : Int32)
          · have r69 := r67.trans (if_pos hc68)
            refine Go.back (fun t k => XS.icmpYes X0.here hx rfl (pc0 := 39) (pc' := 54) rfl (hb hby d5_39) rfl (teq hc68).1 (by decide) (by decide) k) ?_
            show Go p.tables e below (P5 p0 h0 n0 s) (s₁.setTop (mkF m 54 #[.val (.int p0)] []))
            refine Go.back (fun t k => XS.iconst X0.here hx rfl (hb hby d5_54) k) ?_
            show Go p.tables e below (P5 p0 h0 n0 s) (s₁.setTop (mkF m 55 #[.val (.int p0)] [(.int (1 : Int32))]))
            refine Go.back (fun t k => XS.goto X0.here hx rfl (pc0 := 55) (pc' := 59) rfl (hb hby d5_55) (by decide) (by decide) k) ?_
            show Go p.tables e below (P5 p0 h0 n0 s) (s₁.setTop (mkF m 59 #[.val (.int p0)] [(.int (1 : Int32))]))
            exact J2 true r69.symm
          · have r70 := r67.trans (if_neg hc68)
            refine Go.back (fun t k => XS.icmpNo X0.here hx rfl (hb hby d5_39) rfl (feq hc68).1 k) ?_
            show Go p.tables e below (P5 p0 h0 n0 s) (s₁.setTop (mkF m 42 #[.val (.int p0)] []))
            refine Go.back (fun t k => XS.iloadN X0.here hx rfl (hb hby d5_42) rfl  k) ?_
            show Go p.tables e below (P5 p0 h0 n0 s) (s₁.setTop (mkF m 43 #[.val (.int p0)] [(.int p0)]))
            refine Go.back (fun t k => XS.bipush X0.here hx rfl (hb hby d5_43) k) ?_
            show Go p.tables e below (P5 p0 h0 n0 s) (s₁.setTop (mkF m 45 #[.val (.int p0)] [(.int (45 : Int32)), (.int p0)]))
            by_cases hc71 : p0 = (45 : Int32)
            · have r72 := r70.trans (if_pos hc71)
              refine Go.back (fun t k => XS.icmpYes X0.here hx rfl (pc0 := 45) (pc' := 54) rfl (hb hby d5_45) rfl (teq hc71).1 (by decide) (by decide) k) ?_
              show Go p.tables e below (P5 p0 h0 n0 s) (s₁.setTop (mkF m 54 #[.val (.int p0)] []))
              refine Go.back (fun t k => XS.iconst X0.here hx rfl (hb hby d5_54) k) ?_
              show Go p.tables e below (P5 p0 h0 n0 s) (s₁.setTop (mkF m 55 #[.val (.int p0)] [(.int (1 : Int32))]))
              refine Go.back (fun t k => XS.goto X0.here hx rfl (pc0 := 55) (pc' := 59) rfl (hb hby d5_55) (by decide) (by decide) k) ?_
              show Go p.tables e below (P5 p0 h0 n0 s) (s₁.setTop (mkF m 59 #[.val (.int p0)] [(.int (1 : Int32))]))
              exact J2 true r72.symm
            · have r73 := r70.trans (if_neg hc71)
              refine Go.back (fun t k => XS.icmpNo X0.here hx rfl (hb hby d5_45) rfl (feq hc71).1 k) ?_
              show Go p.tables e below (P5 p0 h0 n0 s) (s₁.setTop (mkF m 48 #[.val (.int p0)] []))
              refine Go.back (fun t k => XS.iloadN X0.here hx rfl (hb hby d5_48) rfl  k) ?_
              show Go p.tables e below (P5 p0 h0 n0 s) (s₁.setTop (mkF m 49 #[.val (.int p0)] [(.int p0)]))
              refine Go.back (fun t k => XS.bipush X0.here hx rfl (hb hby d5_49) k) ?_
              show Go p.tables e below (P5 p0 h0 n0 s) (s₁.setTop (mkF m 51 #[.val (.int p0)] [(.int (46 : Int32)), (.int p0)]))
              by_cases hc74 : p0 = (46 : Int32)
              · have r75 := r73.trans (if_pos hc74)
                refine Go.back (fun t k => XS.icmpNo X0.here hx rfl (hb hby d5_51) rfl (teq hc74).2 k) ?_
                show Go p.tables e below (P5 p0 h0 n0 s) (s₁.setTop (mkF m 54 #[.val (.int p0)] []))
                refine Go.back (fun t k => XS.iconst X0.here hx rfl (hb hby d5_54) k) ?_
                show Go p.tables e below (P5 p0 h0 n0 s) (s₁.setTop (mkF m 55 #[.val (.int p0)] [(.int (1 : Int32))]))
                refine Go.back (fun t k => XS.goto X0.here hx rfl (pc0 := 55) (pc' := 59) rfl (hb hby d5_55) (by decide) (by decide) k) ?_
                show Go p.tables e below (P5 p0 h0 n0 s) (s₁.setTop (mkF m 59 #[.val (.int p0)] [(.int (1 : Int32))]))
                exact J2 true r75.symm
              · have r76 := r73.trans (if_neg hc74)
                refine Go.back (fun t k => XS.icmpYes X0.here hx rfl (pc0 := 51) (pc' := 58) rfl (hb hby d5_51) rfl (feq hc74).2 (by decide) (by decide) k) ?_
                show Go p.tables e below (P5 p0 h0 n0 s) (s₁.setTop (mkF m 58 #[.val (.int p0)] []))
                refine Go.back (fun t k => XS.iconst X0.here hx rfl (hb hby d5_58) k) ?_
                show Go p.tables e below (P5 p0 h0 n0 s) (s₁.setTop (mkF m 59 #[.val (.int p0)] [(.int (0 : Int32))]))
                exact J2 false r76.symm
        · have r77 := r65.trans (if_neg hc66)
          refine Go.back (fun t k => XS.icmpNo X0.here hx rfl (hb hby d5_27) rfl (flt hc66).1 k) ?_
          show Go p.tables e below (P5 p0 h0 n0 s) (s₁.setTop (mkF m 30 #[.val (.int p0)] []))
          refine Go.back (fun t k => XS.iloadN X0.here hx rfl (hb hby d5_30) rfl  k) ?_
          show Go p.tables e below (P5 p0 h0 n0 s) (s₁.setTop (mkF m 31 #[.val (.int p0)] [(.int p0)]))
          refine Go.back (fun t k => XS.bipush X0.here hx rfl (hb hby d5_31) k) ?_
          show Go p.tables e below (P5 p0 h0 n0 s) (s₁.setTop (mkF m 33 #[.val (.int p0)] [(.int (122 : Int32)), (.int p0)]))
          by_cases hc78 : (122 : Int32) < p0
          · have r79 := r77.trans (if_pos hc78)
            refine Go.back (fun t k => XS.icmpNo X0.here hx rfl (hb hby d5_33) rfl (tlt hc78).2.2.2 k) ?_
            show Go p.tables e below (P5 p0 h0 n0 s) (s₁.setTop (mkF m 36 #[.val (.int p0)] []))
            refine Go.back (fun t k => XS.iloadN X0.here hx rfl (hb hby d5_36) rfl  k) ?_
            show Go p.tables e below (P5 p0 h0 n0 s) (s₁.setTop (mkF m 37 #[.val (.int p0)] [(.int p0)]))
            refine Go.back (fun t k => XS.bipush X0.here hx rfl (hb hby d5_37) k) ?_
            show Go p.tables e below (P5 p0 h0 n0 s) (s₁.setTop (mkF m 39 #[.val (.int p0)] [(.int (95 : Int32)), (.int p0)]))
            by_cases hc80 : p0 = (95 : Int32)
            · have r81 := r79.trans (if_pos hc80)
              refine Go.back (fun t k => XS.icmpYes X0.here hx rfl (pc0 := 39) (pc' := 54) rfl (hb hby d5_39) rfl (teq hc80).1 (by decide) (by decide) k) ?_
              show Go p.tables e below (P5 p0 h0 n0 s) (s₁.setTop (mkF m 54 #[.val (.int p0)] []))
              refine Go.back (fun t k => XS.iconst X0.here hx rfl (hb hby d5_54) k) ?_
              show Go p.tables e below (P5 p0 h0 n0 s) (s₁.setTop (mkF m 55 #[.val (.int p0)] [(.int (1 : Int32))]))
              refine Go.back (fun t k => XS.goto X0.here hx rfl (pc0 := 55) (pc' := 59) rfl (hb hby d5_55) (by decide) (by decide) k) ?_
              show Go p.tables e below (P5 p0 h0 n0 s) (s₁.setTop (mkF m 59 #[.val (.int p0)] [(.int (1 : Int32))]))
              exact J2 true r81.symm
            · have r82 := r79.trans (if_neg hc80)
              refine Go.back (fun t k => XS.icmpNo X0.here hx rfl (hb hby d5_39) rfl (feq hc80).1 k) ?_
              show Go p.tables e below (P5 p0 h0 n0 s) (s₁.setTop (mkF m 42 #[.val (.int p0)] []))
              refine Go.back (fun t k => XS.iloadN X0.here hx rfl (hb hby d5_42) rfl  k) ?_
              show Go p.tables e below (P5 p0 h0 n0 s) (s₁.setTop (mkF m 43 #[.val (.int p0)] [(.int p0)]))
              refine Go.back (fun t k => XS.bipush X0.here hx rfl (hb hby d5_43) k) ?_
              show Go p.tables e below (P5 p0 h0 n0 s) (s₁.setTop (mkF m 45 #[.val (.int p0)] [(.int (45 : Int32)), (.int p0)]))
              by_cases hc83 : p0 = (45 : Int32)
              · have r84 := r82.trans (if_pos hc83)
                refine Go.back (fun t k => XS.icmpYes X0.here hx rfl (pc0 := 45) (pc' := 54) rfl (hb hby d5_45) rfl (teq hc83).1 (by decide) (by decide) k) ?_
                show Go p.tables e below (P5 p0 h0 n0 s) (s₁.setTop (mkF m 54 #[.val (.int p0)] []))
                refine Go.back (fun t k => XS.iconst X0.here hx rfl (hb hby d5_54) k) ?_
                show Go p.tables e below (P5 p0 h0 n0 s) (s₁.setTop (mkF m 55 #[.val (.int p0)] [(.int (1 : Int32))]))
                refine Go.back (fun t k => XS.goto X0.here hx rfl (pc0 := 55) (pc' := 59) rfl (hb hby d5_55) (by decide) (by decide) k) ?_
                show Go p.tables e below (P5 p0 h0 n0 s) (s₁.setTop (mkF m 59 #[.val (.int p0)] [(.int (1 : Int32))]))
                exact J2 true r84.symm
              · have r85 := r82.trans (if_neg hc83)
                refine Go.back (fun t k => XS.icmpNo X0.here hx rfl (hb hby d5_45) rfl (feq hc83).1 k) ?_
                show Go p.tables e below (P5 p0 h0 n0 s) (s₁.setTop (mkF m 48 #[.val (.int p0)] []))
                refine Go.back (fun t k => XS.iloadN X0.here hx rfl (hb hby d5_48) rfl  k) ?_
                show Go p.tables e below (P5 p0 h0 n0 s) (s₁.setTop (mkF m 49 #[.val (.int p0)] [(.int p0)]))
                refine Go.back (fun t k => XS.bipush X0.here hx rfl (hb hby d5_49) k) ?_
                show Go p.tables e below (P5 p0 h0 n0 s) (s₁.setTop (mkF m 51 #[.val (.int p0)] [(.int (46 : Int32)), (.int p0)]))
                by_cases hc86 : p0 = (46 : Int32)
                · have r87 := r85.trans (if_pos hc86)
                  refine Go.back (fun t k => XS.icmpNo X0.here hx rfl (hb hby d5_51) rfl (teq hc86).2 k) ?_
                  show Go p.tables e below (P5 p0 h0 n0 s) (s₁.setTop (mkF m 54 #[.val (.int p0)] []))
                  refine Go.back (fun t k => XS.iconst X0.here hx rfl (hb hby d5_54) k) ?_
                  show Go p.tables e below (P5 p0 h0 n0 s) (s₁.setTop (mkF m 55 #[.val (.int p0)] [(.int (1 : Int32))]))
                  refine Go.back (fun t k => XS.goto X0.here hx rfl (pc0 := 55) (pc' := 59) rfl (hb hby d5_55) (by decide) (by decide) k) ?_
                  show Go p.tables e below (P5 p0 h0 n0 s) (s₁.setTop (mkF m 59 #[.val (.int p0)] [(.int (1 : Int32))]))
                  exact J2 true r87.symm
                · have r88 := r85.trans (if_neg hc86)
                  refine Go.back (fun t k => XS.icmpYes X0.here hx rfl (pc0 := 51) (pc' := 58) rfl (hb hby d5_51) rfl (feq hc86).2 (by decide) (by decide) k) ?_
                  show Go p.tables e below (P5 p0 h0 n0 s) (s₁.setTop (mkF m 58 #[.val (.int p0)] []))
                  refine Go.back (fun t k => XS.iconst X0.here hx rfl (hb hby d5_58) k) ?_
                  show Go p.tables e below (P5 p0 h0 n0 s) (s₁.setTop (mkF m 59 #[.val (.int p0)] [(.int (0 : Int32))]))
                  exact J2 false r88.symm
          · have r89 := r77.trans (if_neg hc78)
            refine Go.back (fun t k => XS.icmpYes X0.here hx rfl (pc0 := 33) (pc' := 54) rfl (hb hby d5_33) rfl (flt hc78).2.2.2 (by decide) (by decide) k) ?_
            show Go p.tables e below (P5 p0 h0 n0 s) (s₁.setTop (mkF m 54 #[.val (.int p0)] []))
            refine Go.back (fun t k => XS.iconst X0.here hx rfl (hb hby d5_54) k) ?_
            show Go p.tables e below (P5 p0 h0 n0 s) (s₁.setTop (mkF m 55 #[.val (.int p0)] [(.int (1 : Int32))]))
            refine Go.back (fun t k => XS.goto X0.here hx rfl (pc0 := 55) (pc' := 59) rfl (hb hby d5_55) (by decide) (by decide) k) ?_
            show Go p.tables e below (P5 p0 h0 n0 s) (s₁.setTop (mkF m 59 #[.val (.int p0)] [(.int (1 : Int32))]))
            exact J2 true r89.symm
      · have r90 := r63.trans (if_neg hc64)
        refine Go.back (fun t k => XS.icmpNo X0.here hx rfl (hb hby d5_15) rfl (flt hc64).1 k) ?_
        show Go p.tables e below (P5 p0 h0 n0 s) (s₁.setTop (mkF m 18 #[.val (.int p0)] []))
        refine Go.back (fun t k => XS.iloadN X0.here hx rfl (hb hby d5_18) rfl  k) ?_
        show Go p.tables e below (P5 p0 h0 n0 s) (s₁.setTop (mkF m 19 #[.val (.int p0)] [(.int p0)]))
        refine Go.back (fun t k => XS.bipush X0.here hx rfl (hb hby d5_19) k) ?_
        show Go p.tables e below (P5 p0 h0 n0 s) (s₁.setTop (mkF m 21 #[.val (.int p0)] [(.int (90 : Int32)), (.int p0)]))
        by_cases hc91 : (90 : Int32) < p0
        · have r92 := r90.trans (if_pos hc91)
          refine Go.back (fun t k => XS.icmpNo X0.here hx rfl (hb hby d5_21) rfl (tlt hc91).2.2.2 k) ?_
          show Go p.tables e below (P5 p0 h0 n0 s) (s₁.setTop (mkF m 24 #[.val (.int p0)] []))
          refine Go.back (fun t k => XS.iloadN X0.here hx rfl (hb hby d5_24) rfl  k) ?_
          show Go p.tables e below (P5 p0 h0 n0 s) (s₁.setTop (mkF m 25 #[.val (.int p0)] [(.int p0)]))
          refine Go.back (fun t k => XS.bipush X0.here hx rfl (hb hby d5_25) k) ?_
          show Go p.tables e below (P5 p0 h0 n0 s) (s₁.setTop (mkF m 27 #[.val (.int p0)] [(.int (97 : Int32)), (.int p0)]))
          by_cases hc93 : p0 < (97 : Int32)
          · have r94 := r92.trans (if_pos hc93)
            refine Go.back (fun t k => XS.icmpYes X0.here hx rfl (pc0 := 27) (pc' := 36) rfl (hb hby d5_27) rfl (tlt hc93).1 (by decide) (by decide) k) ?_
            show Go p.tables e below (P5 p0 h0 n0 s) (s₁.setTop (mkF m 36 #[.val (.int p0)] []))
            refine Go.back (fun t k => XS.iloadN X0.here hx rfl (hb hby d5_36) rfl  k) ?_
            show Go p.tables e below (P5 p0 h0 n0 s) (s₁.setTop (mkF m 37 #[.val (.int p0)] [(.int p0)]))
            refine Go.back (fun t k => XS.bipush X0.here hx rfl (hb hby d5_37) k) ?_
            show Go p.tables e below (P5 p0 h0 n0 s) (s₁.setTop (mkF m 39 #[.val (.int p0)] [(.int (95 : Int32)), (.int p0)]))
            by_cases hc95 : p0 = (95 : Int32)
            · have r96 := r94.trans (if_pos hc95)
              refine Go.back (fun t k => XS.icmpYes X0.here hx rfl (pc0 := 39) (pc' := 54) rfl (hb hby d5_39) rfl (teq hc95).1 (by decide) (by decide) k) ?_
              show Go p.tables e below (P5 p0 h0 n0 s) (s₁.setTop (mkF m 54 #[.val (.int p0)] []))
              refine Go.back (fun t k => XS.iconst X0.here hx rfl (hb hby d5_54) k) ?_
              show Go p.tables e below (P5 p0 h0 n0 s) (s₁.setTop (mkF m 55 #[.val (.int p0)] [(.int (1 : Int32))]))
              refine Go.back (fun t k => XS.goto X0.here hx rfl (pc0 := 55) (pc' := 59) rfl (hb hby d5_55) (by decide) (by decide) k) ?_
              show Go p.tables e below (P5 p0 h0 n0 s) (s₁.setTop (mkF m 59 #[.val (.int p0)] [(.int (1 : Int32))]))
              exact J2 true r96.symm
            · have r97 := r94.trans (if_neg hc95)
              refine Go.back (fun t k => XS.icmpNo X0.here hx rfl (hb hby d5_39) rfl (feq hc95).1 k) ?_
              show Go p.tables e below (P5 p0 h0 n0 s) (s₁.setTop (mkF m 42 #[.val (.int p0)] []))
              refine Go.back (fun t k => XS.iloadN X0.here hx rfl (hb hby d5_42) rfl  k) ?_
              show Go p.tables e below (P5 p0 h0 n0 s) (s₁.setTop (mkF m 43 #[.val (.int p0)] [(.int p0)]))
              refine Go.back (fun t k => XS.bipush X0.here hx rfl (hb hby d5_43) k) ?_
              show Go p.tables e below (P5 p0 h0 n0 s) (s₁.setTop (mkF m 45 #[.val (.int p0)] [(.int (45 : Int32)), (.int p0)]))
              by_cases hc98 : p0 = (45 : Int32)
              · have r99 := r97.trans (if_pos hc98)
                refine Go.back (fun t k => XS.icmpYes X0.here hx rfl (pc0 := 45) (pc' := 54) rfl (hb hby d5_45) rfl (teq hc98).1 (by decide) (by decide) k) ?_
                show Go p.tables e below (P5 p0 h0 n0 s) (s₁.setTop (mkF m 54 #[.val (.int p0)] []))
                refine Go.back (fun t k => XS.iconst X0.here hx rfl (hb hby d5_54) k) ?_
                show Go p.tables e below (P5 p0 h0 n0 s) (s₁.setTop (mkF m 55 #[.val (.int p0)] [(.int (1 : Int32))]))
                refine Go.back (fun t k => XS.goto X0.here hx rfl (pc0 := 55) (pc' := 59) rfl (hb hby d5_55) (by decide) (by decide) k) ?_
                show Go p.tables e below (P5 p0 h0 n0 s) (s₁.setTop (mkF m 59 #[.val (.int p0)] [(.int (1 : Int32))]))
                exact J2 true r99.symm
              · have r100 := r97.trans (if_neg hc98)
                refine Go.back (fun t k => XS.icmpNo X0.here hx rfl (hb hby d5_45) rfl (feq hc98).1 k) ?_
                show Go p.tables e below (P5 p0 h0 n0 s) (s₁.setTop (mkF m 48 #[.val (.int p0)] []))
                refine Go.back (fun t k => XS.iloadN X0.here hx rfl (hb hby d5_48) rfl  k) ?_
                show Go p.tables e below (P5 p0 h0 n0 s) (s₁.setTop (mkF m 49 #[.val (.int p0)] [(.int p0)]))
                refine Go.back (fun t k => XS.bipush X0.here hx rfl (hb hby d5_49) k) ?_
                show Go p.tables e below (P5 p0 h0 n0 s) (s₁.setTop (mkF m 51 #[.val (.int p0)] [(.int (46 : Int32)), (.int p0)]))
                by_cases hc101 : p0 = (46 : Int32)
                · have r102 := r100.trans (if_pos hc101)
                  refine Go.back (fun t k => XS.icmpNo X0.here hx rfl (hb hby d5_51) rfl (teq hc101).2 k) ?_
                  show Go p.tables e below (P5 p0 h0 n0 s) (s₁.setTop (mkF m 54 #[.val (.int p0)] []))
                  refine Go.back (fun t k => XS.iconst X0.here hx rfl (hb hby d5_54) k) ?_
                  show Go p.tables e below (P5 p0 h0 n0 s) (s₁.setTop (mkF m 55 #[.val (.int p0)] [(.int (1 : Int32))]))
                  refine Go.back (fun t k => XS.goto X0.here hx rfl (pc0 := 55) (pc' := 59) rfl (hb hby d5_55) (by decide) (by decide) k) ?_
                  show Go p.tables e below (P5 p0 h0 n0 s) (s₁.setTop (mkF m 59 #[.val (.int p0)] [(.int (1 : Int32))]))
                  exact J2 true r102.symm
                · have r103 := r100.trans (if_neg hc101)
                  refine Go.back (fun t k => XS.icmpYes X0.here hx rfl (pc0 := 51) (pc' := 58) rfl (hb hby d5_51) rfl (feq hc101).2 (by decide) (by decide) k) ?_
                  show Go p.tables e below (P5 p0 h0 n0 s) (s₁.setTop (mkF m 58 #[.val (.int p0)] []))
                  refine Go.back (fun t k => XS.iconst X0.here hx rfl (hb hby d5_58) k) ?_
                  show Go p.tables e below (P5 p0 h0 n0 s) (s₁.setTop (mkF m 59 #[.val (.int p0)] [(.int (0 : Int32))]))
                  exact J2 false r103.symm
          · have r104 := r92.trans (if_neg hc93)
            refine Go.back (fun t k => XS.icmpNo X0.here hx rfl (hb hby d5_27) rfl (flt hc93).1 k) ?_
            show Go p.tables e below (P5 p0 h0 n0 s) (s₁.setTop (mkF m 30 #[.val (.int p0)] []))
            refine Go.back (fun t k => XS.iloadN X0.here hx rfl (hb hby d5_30) rfl  k) ?_
            show Go p.tables e below (P5 p0 h0 n0 s) (s₁.setTop (mkF m 31 #[.val (.int p0)] [(.int p0)]))
            refine Go.back (fun t k => XS.bipush X0.here hx rfl (hb hby d5_31) k) ?_
            show Go p.tables e below (P5 p0 h0 n0 s) (s₁.setTop (mkF m 33 #[.val (.int p0)] [(.int (122 : Int32)), (.int p0)]))
            by_cases hc105 : (122 : Int32) < p0
            · have r106 := r104.trans (if_pos hc105)
              refine Go.back (fun t k => XS.icmpNo X0.here hx rfl (hb hby d5_33) rfl (tlt hc105).2.2.2 k) ?_
              show Go p.tables e below (P5 p0 h0 n0 s) (s₁.setTop (mkF m 36 #[.val (.int p0)] []))
              refine Go.back (fun t k => XS.iloadN X0.here hx rfl (hb hby d5_36) rfl  k) ?_
              show Go p.tables e below (P5 p0 h0 n0 s) (s₁.setTop (mkF m 37 #[.val (.int p0)] [(.int p0)]))
              refine Go.back (fun t k => XS.bipush X0.here hx rfl (hb hby d5_37) k) ?_
              show Go p.tables e below (P5 p0 h0 n0 s) (s₁.setTop (mkF m 39 #[.val (.int p0)] [(.int (95 : Int32)), (.int p0)]))
              by_cases hc107 : p0 = (95 : Int32)
              · have r108 := r106.trans (if_pos hc107)
                refine Go.back (fun t k => XS.icmpYes X0.here hx rfl (pc0 := 39) (pc' := 54) rfl (hb hby d5_39) rfl (teq hc107).1 (by decide) (by decide) k) ?_
                show Go p.tables e below (P5 p0 h0 n0 s) (s₁.setTop (mkF m 54 #[.val (.int p0)] []))
                refine Go.back (fun t k => XS.iconst X0.here hx rfl (hb hby d5_54) k) ?_
                show Go p.tables e below (P5 p0 h0 n0 s) (s₁.setTop (mkF m 55 #[.val (.int p0)] [(.int (1 : Int32))]))
                refine Go.back (fun t k => XS.goto X0.here hx rfl (pc0 := 55) (pc' := 59) rfl (hb hby d5_55) (by decide) (by decide) k) ?_
                show Go p.tables e below (P5 p0 h0 n0 s) (s₁.setTop (mkF m 59 #[.val (.int p0)] [(.int (1 : Int32))]))
                exact J2 true r108.symm
              · have r109 := r106.trans (if_neg hc107)
                refine Go.back (fun t k => XS.icmpNo X0.here hx rfl (hb hby d5_39) rfl (feq hc107).1 k) ?_
                show Go p.tables e below (P5 p0 h0 n0 s) (s₁.setTop (mkF m 42 #[.val (.int p0)] []))
                refine Go.back (fun t k => XS.iloadN X0.here hx rfl (hb hby d5_42) rfl  k) ?_
                show Go p.tables e below (P5 p0 h0 n0 s) (s₁.setTop (mkF m 43 #[.val (.int p0)] [(.int p0)]))
                refine Go.back (fun t k => XS.bipush X0.here hx rfl (hb hby d5_43) k) ?_
                show Go p.tables e below (P5 p0 h0 n0 s) (s₁.setTop (mkF m 45 #[.val (.int p0)] [(.int (45 : Int32)), (.int p0)]))
                by_cases hc110 : p0 = (45 : Int32)
                · have r111 := r109.trans (if_pos hc110)
                  refine Go.back (fun t k => XS.icmpYes X0.here hx rfl (pc0 := 45) (pc' := 54) rfl (hb hby d5_45) rfl (teq hc110).1 (by decide) (by decide) k) ?_
                  show Go p.tables e below (P5 p0 h0 n0 s) (s₁.setTop (mkF m 54 #[.val (.int p0)] []))
                  refine Go.back (fun t k => XS.iconst X0.here hx rfl (hb hby d5_54) k) ?_
                  show Go p.tables e below (P5 p0 h0 n0 s) (s₁.setTop (mkF m 55 #[.val (.int p0)] [(.int (1 : Int32))]))
                  refine Go.back (fun t k => XS.goto X0.here hx rfl (pc0 := 55) (pc' := 59) rfl (hb hby d5_55) (by decide) (by decide) k) ?_
                  show Go p.tables e below (P5 p0 h0 n0 s) (s₁.setTop (mkF m 59 #[.val (.int p0)] [(.int (1 : Int32))]))
                  exact J2 true r111.symm
                · have r112 := r109.trans (if_neg hc110)
                  refine Go.back (fun t k => XS.icmpNo X0.here hx rfl (hb hby d5_45) rfl (feq hc110).1 k) ?_
                  show Go p.tables e below (P5 p0 h0 n0 s) (s₁.setTop (mkF m 48 #[.val (.int p0)] []))
                  refine Go.back (fun t k => XS.iloadN X0.here hx rfl (hb hby d5_48) rfl  k) ?_
                  show Go p.tables e below (P5 p0 h0 n0 s) (s₁.setTop (mkF m 49 #[.val (.int p0)] [(.int p0)]))
                  refine Go.back (fun t k => XS.bipush X0.here hx rfl (hb hby d5_49) k) ?_
                  show Go p.tables e below (P5 p0 h0 n0 s) (s₁.setTop (mkF m 51 #[.val (.int p0)] [(.int (46 : Int32)), (.int p0)]))
                  by_cases hc113 : p0 = (46 : Int32)
                  · have r114 := r112.trans (if_pos hc113)
                    refine Go.back (fun t k => XS.icmpNo X0.here hx rfl (hb hby d5_51) rfl (teq hc113).2 k) ?_
                    show Go p.tables e below (P5 p0 h0 n0 s) (s₁.setTop (mkF m 54 #[.val (.int p0)] []))
                    refine Go.back (fun t k => XS.iconst X0.here hx rfl (hb hby d5_54) k) ?_
                    show Go p.tables e below (P5 p0 h0 n0 s) (s₁.setTop (mkF m 55 #[.val (.int p0)] [(.int (1 : Int32))]))
                    refine Go.back (fun t k => XS.goto X0.here hx rfl (pc0 := 55) (pc' := 59) rfl (hb hby d5_55) (by decide) (by decide) k) ?_
                    show Go p.tables e below (P5 p0 h0 n0 s) (s₁.setTop (mkF m 59 #[.val (.int p0)] [(.int (1 : Int32))]))
                    exact J2 true r114.symm
                  · have r115 := r112.trans (if_neg hc113)
                    refine Go.back (fun t k => XS.icmpYes X0.here hx rfl (pc0 := 51) (pc' := 58) rfl (hb hby d5_51) rfl (feq hc113).2 (by decide) (by decide) k) ?_
                    show Go p.tables e below (P5 p0 h0 n0 s) (s₁.setTop (mkF m 58 #[.val (.int p0)] []))
                    refine Go.back (fun t k => XS.iconst X0.here hx rfl (hb hby d5_58) k) ?_
                    show Go p.tables e below (P5 p0 h0 n0 s) (s₁.setTop (mkF m 59 #[.val (.int p0)] [(.int (0 : Int32))]))
                    exact J2 false r115.symm
            · have r116 := r104.trans (if_neg hc105)
              refine Go.back (fun t k => XS.icmpYes X0.here hx rfl (pc0 := 33) (pc' := 54) rfl (hb hby d5_33) rfl (flt hc105).2.2.2 (by decide) (by decide) k) ?_
              show Go p.tables e below (P5 p0 h0 n0 s) (s₁.setTop (mkF m 54 #[.val (.int p0)] []))
              refine Go.back (fun t k => XS.iconst X0.here hx rfl (hb hby d5_54) k) ?_
              show Go p.tables e below (P5 p0 h0 n0 s) (s₁.setTop (mkF m 55 #[.val (.int p0)] [(.int (1 : Int32))]))
              refine Go.back (fun t k => XS.goto X0.here hx rfl (pc0 := 55) (pc' := 59) rfl (hb hby d5_55) (by decide) (by decide) k) ?_
              show Go p.tables e below (P5 p0 h0 n0 s) (s₁.setTop (mkF m 59 #[.val (.int p0)] [(.int (1 : Int32))]))
              exact J2 true r116.symm
        · have r117 := r90.trans (if_neg hc91)
          refine Go.back (fun t k => XS.icmpYes X0.here hx rfl (pc0 := 21) (pc' := 54) rfl (hb hby d5_21) rfl (flt hc91).2.2.2 (by decide) (by decide) k) ?_
          show Go p.tables e below (P5 p0 h0 n0 s) (s₁.setTop (mkF m 54 #[.val (.int p0)] []))
          refine Go.back (fun t k => XS.iconst X0.here hx rfl (hb hby d5_54) k) ?_
          show Go p.tables e below (P5 p0 h0 n0 s) (s₁.setTop (mkF m 55 #[.val (.int p0)] [(.int (1 : Int32))]))
          refine Go.back (fun t k => XS.goto X0.here hx rfl (pc0 := 55) (pc' := 59) rfl (hb hby d5_55) (by decide) (by decide) k) ?_
          show Go p.tables e below (P5 p0 h0 n0 s) (s₁.setTop (mkF m 59 #[.val (.int p0)] [(.int (1 : Int32))]))
          exact J2 true r117.symm
    · have r118 := r61.trans (if_neg hc62)
      refine Go.back (fun t k => XS.icmpYes X0.here hx rfl (pc0 := 9) (pc' := 54) rfl (hb hby d5_9) rfl (flt hc62).2.2.2 (by decide) (by decide) k) ?_
      show Go p.tables e below (P5 p0 h0 n0 s) (s₁.setTop (mkF m 54 #[.val (.int p0)] []))
      refine Go.back (fun t k => XS.iconst X0.here hx rfl (hb hby d5_54) k) ?_
      show Go p.tables e below (P5 p0 h0 n0 s) (s₁.setTop (mkF m 55 #[.val (.int p0)] [(.int (1 : Int32))]))
      refine Go.back (fun t k => XS.goto X0.here hx rfl (pc0 := 55) (pc' := 59) rfl (hb hby d5_55) (by decide) (by decide) k) ?_
      show Go p.tables e below (P5 p0 h0 n0 s) (s₁.setTop (mkF m 59 #[.val (.int p0)] [(.int (1 : Int32))]))
      exact J2 true r118.symm
def f0 (p0 : Int32) : Bool := (let z5 : Bool := (if (f1 p0) = (f5 p0) then (if (f1 (p0 &&& (127 : Int32))) = (f5 (p0 &&& (127 : Int32))) then true else false) else false); z5)
def Q0 (p0 : Int32) (h0 : Heap) (n0 : Nat) (v : Option Value) (h : Heap) (L : List Loc) : Prop := v = some (.int (b2i (f0 p0))) ∧ Fr n0 L ∧ h = h0
abbrev P0 (p0 : Int32) (h0 : Heap) (n0 : Nat) (s : State) : Outcome → State → Prop := fun o U' => ∃ v L, o = .returned v ∧ Q0 p0 h0 n0 v U'.heap L ∧ FrameEnd s o U' L room_1.cells room_1.slots
theorem pn_0 : plainName "com/example/strict_schedule/strictschedule/history/ItemIsCharacterPinLaw" = true := by first | (simp [plainName, overriddenIn]; done) | decide +kernel
theorem ef_0 (m : MethodId) (p0 : Int32) : entryFrame m #[(.int p0)] maxLocals = mkF m 0 #[.val (.int p0), .unset] [] := by first | (simp [entryFrame, mkF, argsToLocals, Value.category, maxLocals]; done) | rfl
set_option maxRecDepth 65536 in
set_option maxHeartbeats 40000000 in
theorem rm0 (l : Launch) (Z : State) (a0 : Array Value) (hw : ∀ d ∈ tables_1, d.before a0 Z = true) (ws : List Jvm.Cond) (p0 : Int32) (h0 : Heap) (n0 : Nat) :
    MetFree l x (head1 (Jvm.Cond.code x code maxLocals ret :: ws) room_1) (fun a U => a = #[(.int p0)] ∧ Z.Warmed39 U.vm ∧ U.heap = h0) (fun _ _ _ _ _ => True) (fun _ U o U' => ∃ v L, o = .returned v ∧ Q0 p0 h0 n0 v U'.heap L ∧ FrameEnd U o U' L room_1.cells room_1.slots) := by
  refine MetFree.of_bodySF (plainFor_of_name pn_0) hisR ?_
  intro p e s m args below meth c s₁ Bd hml0 hP hK
  obtain ⟨rfl, hZ, hh⟩ := hP
  have hx := Bd.exec
  have hby := Bd.bytes
  have hml : c.maxLocals = 2 := hml0
  have hown : s.vm.findClass "com/example/strict_schedule/strictschedule/history/ItemIsCharacterPinLaw" = some m.cls := findClass_of_methodNamed Bd.named
  have hnm := (name_of_methodNamed Bd.named Bd.method).1
  have X0 : Stand p l e room_1 s m #[(.int p0)] below meth c s₁ [] 0 0 := Stand.of_body Bd
  have e0 : s₁.heap = h0 := by rw [← hh, Bd.state]; rfl
  have N0 := Fr.nil n0
  show Go p.tables e below (P0 p0 h0 n0 s) (s₁.setTop (entryFrame m #[(.int p0)] maxLocals))
  refine Go.back (fun t k => castTop (ef_0 m p0) k) ?_
  show Go p.tables e below (P0 p0 h0 n0 s) (s₁.setTop (mkF m 0 #[.val (.int p0), .unset] []))
  have hf : f0 p0 = (let z5 : Bool := (if (f1 p0) = (f5 p0) then (if (f1 (p0 &&& (127 : Int32))) = (f5 (p0 &&& (127 : Int32))) then true else false) else false); z5) := rfl
  refine Go.back (fun t k => XS.iloadN X0.here hx rfl (hb hby at_0) rfl  k) ?_
  show Go p.tables e below (P0 p0 h0 n0 s) (s₁.setTop (mkF m 1 #[.val (.int p0), .unset] [(.int p0)]))
  refine Go.back (fun t k => XS.bipush X0.here hx rfl (hb hby at_1) k) ?_
  show Go p.tables e below (P0 p0 h0 n0 s) (s₁.setTop (mkF m 3 #[.val (.int p0), .unset] [(.int (127 : Int32)), (.int p0)]))
  refine Go.back (fun t k => XS.iand X0.here hx rfl (hb hby at_3) rfl k) ?_
  show Go p.tables e below (P0 p0 h0 n0 s) (s₁.setTop (mkF m 4 #[.val (.int p0), .unset] [(.int (p0 &&& (127 : Int32)))]))
  refine Go.back (fun t k => XS.istoreN X0.here hx rfl (hb hby at_4) rfl (l' := #[.val (.int p0), .val (.int (p0 &&& (127 : Int32)))]) rfl k) ?_
  show Go p.tables e below (P0 p0 h0 n0 s) (s₁.setTop (mkF m 5 #[.val (.int p0), .val (.int (p0 &&& (127 : Int32)))] []))
  refine Go.back (fun t k => XS.iloadN X0.here hx rfl (hb hby at_5) rfl  k) ?_
  show Go p.tables e below (P0 p0 h0 n0 s) (s₁.setTop (mkF m 6 #[.val (.int p0), .val (.int (p0 &&& (127 : Int32)))] [(.int p0)]))
  obtain ⟨_, _, ⟨T1, L1, k1, n1⟩, -, X1, ⟨Lc1, hQ1, l1, y1, z1⟩, st1⟩ := Jvm.LawKit.callS X0 hx (y := (⟨"com/example/strict_schedule/strictschedule/history/ItemIsCharacterPinLaw", "reference", "(I)Z"⟩ : MethodName)) hown (mvT hZ (hw _ (List.mem_of_getElem? (i := 0) rfl))) (mvT hZ (hw _ (List.mem_of_getElem? (i := 1) rfl))) (mvT hZ (hw _ (List.mem_of_getElem? (i := 2) rfl))) (mvT hZ (hw _ (List.mem_of_getElem? (i := 3) rfl))) (by decide) (backOf (W := 0) (rm1 l Z a0 hw [] p0 h0 n0) hZ (hw _ (List.mem_of_getElem? (i := 3) rfl)) (hw _ (List.mem_of_getElem? (i := 2) rfl)) (by decide) (by decide)) (g := (mkF m 6 #[.val (.int p0), .val (.int (p0 &&& (127 : Int32)))] [(.int p0)])) rfl (by rw [hml]; rfl) (argsL := [(.int p0)]) (rest := []) (lenOf pd_0 rfl) rfl (by show 2 * 0 + _ ≤ _; exact Nat.le_of_eq rfl) (hb hby at_6) (fun _ _ => ⟨rfl, e0, (by decide : 0 + 0 ≤ _), (by decide : 0 + 0 ≤ _)⟩)
  dsimp only [Pt.U, Pt.locs, Pt.cells, Pt.slots] at X1 l1 y1 z1 st1 hQ1
  subst l1 y1 z1
  obtain ⟨rfl, N1q, e1⟩ := hQ1
  have N1 := Fr.app N0 N1q
  refine Go.back st1 ?_
  show Go p.tables e below (P0 p0 h0 n0 s) (T1.setTop (mkF m 9 #[.val (.int p0), .val (.int (p0 &&& (127 : Int32)))] [(.int (b2i (f1 p0)))]))
  refine Go.back (fun t k => XS.iloadN X1.here hx rfl (hb hby at_9) rfl  k) ?_
  show Go p.tables e below (P0 p0 h0 n0 s) (T1.setTop (mkF m 10 #[.val (.int p0), .val (.int (p0 &&& (127 : Int32)))] [(.int p0), (.int (b2i (f1 p0)))]))
  obtain ⟨_, _, ⟨T2, L2, k2, n2⟩, -, X2, ⟨Lc2, hQ2, l2, y2, z2⟩, st2⟩ := Jvm.LawKit.callS X1 hx (y := (⟨"com/example/strict_schedule/strictschedule/history/Item", "isCharacter", "(I)Z"⟩ : MethodName)) hown (mvT hZ (hw _ (List.mem_of_getElem? (i := 13) rfl))) (mvT hZ (hw _ (List.mem_of_getElem? (i := 14) rfl))) (mvT hZ (hw _ (List.mem_of_getElem? (i := 15) rfl))) (mvT hZ (hw _ (List.mem_of_getElem? (i := 16) rfl))) (by decide) (backOf (W := 1) (rm5 l Z a0 hw [] p0 h0 n0) hZ (hw _ (List.mem_of_getElem? (i := 16) rfl)) (hw _ (List.mem_of_getElem? (i := 15) rfl)) (by decide) (by decide)) (g := (mkF m 10 #[.val (.int p0), .val (.int (p0 &&& (127 : Int32)))] [(.int p0), (.int (b2i (f1 p0)))])) rfl (by rw [hml]; rfl) (argsL := [(.int p0)]) (rest := [(.int (b2i (f1 p0)))]) (lenOf pd_0 rfl) rfl (by show 2 * 0 + _ ≤ _; exact Nat.le_of_eq rfl) (hb hby at_10) (fun _ _ => ⟨rfl, e1, (by decide : 0 + 0 ≤ _), (by decide : 0 + 0 ≤ _)⟩)
  dsimp only [Pt.U, Pt.locs, Pt.cells, Pt.slots] at X2 l2 y2 z2 st2 hQ2
  subst l2 y2 z2
  obtain ⟨rfl, N2q, e2⟩ := hQ2
  have N2 := Fr.app N1 N2q
  refine Go.back st2 ?_
  show Go p.tables e below (P0 p0 h0 n0 s) (T2.setTop (mkF m 13 #[.val (.int p0), .val (.int (p0 &&& (127 : Int32)))] [(.int (b2i (f5 p0))), (.int (b2i (f1 p0)))]))
  have J4 : ∀ (T6 : State) (L6 : List Loc) (X6 : Stand p l e room_1 s m #[(.int p0)] below meth c T6 L6 0 0) (N6 : Fr n0 L6) (e6 : T6.heap = h0) (z5 : Bool) (hz5 : z5 = (if (f1 p0) = (f5 p0) then (if (f1 (p0 &&& (127 : Int32))) = (f5 (p0 &&& (127 : Int32))) then true else false) else false)), Go p.tables e below (P0 p0 h0 n0 s) (T6.setTop (mkF m 32 #[.val (.int p0), .val (.int (p0 &&& (127 : Int32)))] [(.int (b2i z5))])) := by
    intro T6 L6 X6 N6 e6 z5 hz5
    have r7 : f0 p0 = z5 := by subst hz5; exact hf
    show Go p.tables e below (P0 p0 h0 n0 s) (T6.setTop (mkF m 32 #[.val (.int p0), .val (.int (p0 &&& (127 : Int32)))] [(.int (b2i z5))]))
    exact Go.retB (b := z5) X6 hx Bd.returns (hb hby at_32) Bd.notSynchronized ⟨by rw [r7], N6, e6⟩ (by decide) (by decide)
  have r8 : (if (f1 p0) = (f5 p0) then (if (f1 (p0 &&& (127 : Int32))) = (f5 (p0 &&& (127 : Int32))) then true else false) else false) = (if (f1 p0) = (f5 p0) then (if (f1 (p0 &&& (127 : Int32))) = (f5 (p0 &&& (127 : Int32))) then true else false) else false) := rfl
  by_cases hc3 : (f1 p0) = (f5 p0)
  · have r9 := r8.trans (if_pos hc3)
    refine Go.back (fun t k => XS.icmpNo X2.here hx rfl (hb hby at_13) rfl (teq (congrArg b2i hc3)).2 k) ?_
    show Go p.tables e below (P0 p0 h0 n0 s) (T2.setTop (mkF m 16 #[.val (.int p0), .val (.int (p0 &&& (127 : Int32)))] []))
    refine Go.back (fun t k => XS.iloadN X2.here hx rfl (hb hby at_16) rfl  k) ?_
    show Go p.tables e below (P0 p0 h0 n0 s) (T2.setTop (mkF m 17 #[.val (.int p0), .val (.int (p0 &&& (127 : Int32)))] [(.int (p0 &&& (127 : Int32)))]))
    obtain ⟨_, _, ⟨T10, L10, k10, n10⟩, -, X10, ⟨Lc10, hQ10, l10, y10, z10⟩, st10⟩ := Jvm.LawKit.callS X2 hx (y := (⟨"com/example/strict_schedule/strictschedule/history/ItemIsCharacterPinLaw", "reference", "(I)Z"⟩ : MethodName)) hown (mvT hZ (hw _ (List.mem_of_getElem? (i := 0) rfl))) (mvT hZ (hw _ (List.mem_of_getElem? (i := 1) rfl))) (mvT hZ (hw _ (List.mem_of_getElem? (i := 2) rfl))) (mvT hZ (hw _ (List.mem_of_getElem? (i := 3) rfl))) (by decide) (backOf (W := 0) (rm1 l Z a0 hw [] (p0 &&& (127 : Int32)) h0 n0) hZ (hw _ (List.mem_of_getElem? (i := 3) rfl)) (hw _ (List.mem_of_getElem? (i := 2) rfl)) (by decide) (by decide)) (g := (mkF m 17 #[.val (.int p0), .val (.int (p0 &&& (127 : Int32)))] [(.int (p0 &&& (127 : Int32)))])) rfl (by rw [hml]; rfl) (argsL := [(.int (p0 &&& (127 : Int32)))]) (rest := []) (lenOf pd_0 rfl) rfl (by show 2 * 0 + _ ≤ _; exact Nat.le_of_eq rfl) (hb hby at_17) (fun _ _ => ⟨rfl, e2, (by decide : 0 + 0 ≤ _), (by decide : 0 + 0 ≤ _)⟩)
    dsimp only [Pt.U, Pt.locs, Pt.cells, Pt.slots] at X10 l10 y10 z10 st10 hQ10
    subst l10 y10 z10
    obtain ⟨rfl, N10q, e10⟩ := hQ10
    have N10 := Fr.app N2 N10q
    refine Go.back st10 ?_
    show Go p.tables e below (P0 p0 h0 n0 s) (T10.setTop (mkF m 20 #[.val (.int p0), .val (.int (p0 &&& (127 : Int32)))] [(.int (b2i (f1 (p0 &&& (127 : Int32)))))]))
    refine Go.back (fun t k => XS.iloadN X10.here hx rfl (hb hby at_20) rfl  k) ?_
    show Go p.tables e below (P0 p0 h0 n0 s) (T10.setTop (mkF m 21 #[.val (.int p0), .val (.int (p0 &&& (127 : Int32)))] [(.int (p0 &&& (127 : Int32))), (.int (b2i (f1 (p0 &&& (127 : Int32)))))]))
    obtain ⟨_, _, ⟨T11, L11, k11, n11⟩, -, X11, ⟨Lc11, hQ11, l11, y11, z11⟩, st11⟩ := Jvm.LawKit.callS X10 hx (y := (⟨"com/example/strict_schedule/strictschedule/history/Item", "isCharacter", "(I)Z"⟩ : MethodName)) hown (mvT hZ (hw _ (List.mem_of_getElem? (i := 13) rfl))) (mvT hZ (hw _ (List.mem_of_getElem? (i := 14) rfl))) (mvT hZ (hw _ (List.mem_of_getElem? (i := 15) rfl))) (mvT hZ (hw _ (List.mem_of_getElem? (i := 16) rfl))) (by decide) (backOf (W := 1) (rm5 l Z a0 hw [] (p0 &&& (127 : Int32)) h0 n0) hZ (hw _ (List.mem_of_getElem? (i := 16) rfl)) (hw _ (List.mem_of_getElem? (i := 15) rfl)) (by decide) (by decide)) (g := (mkF m 21 #[.val (.int p0), .val (.int (p0 &&& (127 : Int32)))] [(.int (p0 &&& (127 : Int32))), (.int (b2i (f1 (p0 &&& (127 : Int32)))))])) rfl (by rw [hml]; rfl) (argsL := [(.int (p0 &&& (127 : Int32)))]) (rest := [(.int (b2i (f1 (p0 &&& (127 : Int32)))))]) (lenOf pd_0 rfl) rfl (by show 2 * 0 + _ ≤ _; exact Nat.le_of_eq rfl) (hb hby at_21) (fun _ _ => ⟨rfl, e10, (by decide : 0 + 0 ≤ _), (by decide : 0 + 0 ≤ _)⟩)
    dsimp only [Pt.U, Pt.locs, Pt.cells, Pt.slots] at X11 l11 y11 z11 st11 hQ11
    subst l11 y11 z11
    obtain ⟨rfl, N11q, e11⟩ := hQ11
    have N11 := Fr.app N10 N11q
    refine Go.back st11 ?_
    show Go p.tables e below (P0 p0 h0 n0 s) (T11.setTop (mkF m 24 #[.val (.int p0), .val (.int (p0 &&& (127 : Int32)))] [(.int (b2i (f5 (p0 &&& (127 : Int32))))), (.int (b2i (f1 (p0 &&& (127 : Int32)))))]))
    by_cases hc12 : (f1 (p0 &&& (127 : Int32))) = (f5 (p0 &&& (127 : Int32)))
    · have r13 := r9.trans (if_pos hc12)
      refine Go.back (fun t k => XS.icmpNo X11.here hx rfl (hb hby at_24) rfl (teq (congrArg b2i hc12)).2 k) ?_
      show Go p.tables e below (P0 p0 h0 n0 s) (T11.setTop (mkF m 27 #[.val (.int p0), .val (.int (p0 &&& (127 : Int32)))] []))
      refine Go.back (fun t k => XS.iconst X11.here hx rfl (hb hby at_27) k) ?_
      show Go p.tables e below (P0 p0 h0 n0 s) (T11.setTop (mkF m 28 #[.val (.int p0), .val (.int (p0 &&& (127 : Int32)))] [(.int (1 : Int32))]))
      refine Go.back (fun t k => XS.goto X11.here hx rfl (pc0 := 28) (pc' := 32) rfl (hb hby at_28) (by decide) (by decide) k) ?_
      show Go p.tables e below (P0 p0 h0 n0 s) (T11.setTop (mkF m 32 #[.val (.int p0), .val (.int (p0 &&& (127 : Int32)))] [(.int (1 : Int32))]))
      exact J4 _ _ X11 N11 e11 true r13.symm
    · have r14 := r9.trans (if_neg hc12)
      refine Go.back (fun t k => XS.icmpYes X11.here hx rfl (pc0 := 24) (pc' := 31) rfl (hb hby at_24) rfl (feq (fun q => hc12 (b2i_inj q))).2 (by decide) (by decide) k) ?_
      show Go p.tables e below (P0 p0 h0 n0 s) (T11.setTop (mkF m 31 #[.val (.int p0), .val (.int (p0 &&& (127 : Int32)))] []))
      refine Go.back (fun t k => XS.iconst X11.here hx rfl (hb hby at_31) k) ?_
      show Go p.tables e below (P0 p0 h0 n0 s) (T11.setTop (mkF m 32 #[.val (.int p0), .val (.int (p0 &&& (127 : Int32)))] [(.int (0 : Int32))]))
      exact J4 _ _ X11 N11 e11 false r14.symm
  · have r15 := r8.trans (if_neg hc3)
    refine Go.back (fun t k => XS.icmpYes X2.here hx rfl (pc0 := 13) (pc' := 31) rfl (hb hby at_13) rfl (feq (fun q => hc3 (b2i_inj q))).2 (by decide) (by decide) k) ?_
    show Go p.tables e below (P0 p0 h0 n0 s) (T2.setTop (mkF m 31 #[.val (.int p0), .val (.int (p0 &&& (127 : Int32)))] []))
    refine Go.back (fun t k => XS.iconst X2.here hx rfl (hb hby at_31) k) ?_
    show Go p.tables e below (P0 p0 h0 n0 s) (T2.setTop (mkF m 32 #[.val (.int p0), .val (.int (p0 &&& (127 : Int32)))] [(.int (0 : Int32))]))
    exact J4 _ _ X2 N2 e2 false r15.symm
theorem own_core : ∀ i : Fin 128, f1 (Int32.ofNat i.val) = f5 (Int32.ofNat i.val) := by decide +kernel
theorem own_lit (n : Nat) (h : n < 2 ^ 31) : (Int32.ofNat n).toInt = n := Int32.toInt_ofNat_of_lt h
theorem own_same (c : Int32) : f1 c = f5 c := by
  by_cases h : 0 ≤ c.toInt ∧ c.toInt < 128
  · have e : c = Int32.ofNat c.toInt.toNat := by
      apply Int32.toInt_inj.mp
      rw [Int32.toInt_ofNat_of_lt (by omega)]; omega
    rw [e]; exact own_core ⟨c.toInt.toNat, by omega⟩
  · have a5 : f5 c = false := by
      unfold f5
      have l1 : (48 : Int32).toInt = 48 := rfl
      have l2 : (57 : Int32).toInt = 57 := rfl
      have l3 : (65 : Int32).toInt = 65 := rfl
      have l4 : (90 : Int32).toInt = 90 := rfl
      have l5 : (97 : Int32).toInt = 97 := rfl
      have l6 : (122 : Int32).toInt = 122 := rfl
      have l7 : (95 : Int32).toInt = 95 := rfl
      have l8 : (45 : Int32).toInt = 45 := rfl
      have l9 : (46 : Int32).toInt = 46 := rfl
      simp only [Int32.lt_iff_toInt_lt, ← Int32.toInt_inj, l1, l2, l3, l4, l5, l6, l7, l8, l9]
      repeat' split
      all_goals first | rfl | (exfalso; omega)
    have a2 : f2 c = false := by
      unfold f2
      have q := c_iushr c 4 4 (by decide) (by decide)
      have l3 : (3 : Int32).toInt = 3 := rfl
      have e : ¬ (((c).toUInt32 >>> ((4 : Int32) &&& 31).toUInt32).toInt32) = (3 : Int32) := fun y => by
        have := congrArg Int32.toInt y
        rw [q, l3] at this
        have r := rng32 c
        omega
      simp only [e, if_false]
    have a3 : f3 c = false := by
      unfold f3
      have l5 : (97 : Int32).toInt = 97 := rfl
      have l6 : (122 : Int32).toInt = 122 := rfl
      simp only [Int32.lt_iff_toInt_lt, l5, l6]
      by_cases n : c.toInt < 0
      · have := (c_orS c 32).2.1 n
        rw [if_pos (by omega)]
      · have := (c_or0 c 32 (by omega) (by decide)).1
        by_cases k : (c ||| (32 : Int32)).toInt < 97
        · rw [if_pos k]
        · rw [if_neg k, if_pos (by omega)]
    have a4 : f4 c = false := by
      unfold f4
      have l7 : (95 : Int32).toInt = 95 := rfl
      have l8 : (45 : Int32).toInt = 45 := rfl
      have l9 : (46 : Int32).toInt = 46 := rfl
      simp only [← Int32.toInt_inj, l7, l8, l9]
      repeat' split
      all_goals first | rfl | (exfalso; omega)
    unfold f1
    simp [a2, a3, a4, a5]
theorem own_law (p0 : Int32) : f0 p0 = true := by
  unfold f0
  simp [own_same]
set_option maxRecDepth 65536 in
set_option maxHeartbeats 40000000 in
theorem comes_1 {Post : Tables → Env → Array Value → State → Outcome → State → Prop} (hpost : ∀ tb e args s v u, (limb_1_1.after args s (.returned v) u = true ∧ limb_1_2.after args s (.returned v) u = true ∧ True) → FrameEnd s (.returned v) u (Jvm.fieldLocs frame_1_writes args s ++ Jvm.arrayLocs frame_1_arrays args s ++ Jvm.staticLocs frame_1_statics s) 0 0 → Post tb e args s (.returned v) u) :
    ArmFor flags0 classFile x code maxLocals ret World_1 tables_1 room_1 Calls_1 rest_1 Pre_1 Post := by
  intro l hfl _ _ p e ha hc hk s m args below hf hA hF happ hP
  obtain ⟨hcalls, hrest, hpre⟩ := hP
  obtain ⟨-, -, -, hnamed, -, -, -, hat⟩ := (Spec.applies_iff hf).mp happ
  obtain ⟨hg, hn⟩ := and_e (Cond.before_iff.mp (show (Jvm.Cond.and given_1 narrow_1).before args s = true from hpre))
  obtain ⟨g1, g2⟩ := and_e hg
  obtain ⟨w0, rfl⟩ : ∃ w0 : Value, args = #[w0] := by
    have hs : args.size = 1 := by simpa [Cond.value, given_1] using g1
    obtain ⟨L⟩ := args
    match L, hs with
    | [w0], _ => exact ⟨w0, rfl⟩
  have hw := fun d (hd : d ∈ tables_1) => atoms_spec (ws := Jvm.Cond.code x code maxLocals ret :: tables_1) hat d (List.mem_cons_of_mem _ hd)
  have hfit : Fit s := fun {y c} hc i hi => by
    obtain ⟨ha, rfl⟩ := Array.getElem?_eq_some_iff.mp hc
    have q := List.all_eq_true.mp ((Array.all_eq_true_iff_forall_mem.mp hF) _ (Array.getElem_mem ha)) i (List.mem_range.mpr hi)
    simpa [Array.getElem?_eq_getElem hi] using q
  obtain ⟨i0, ei0⟩ := is_v g2
  obtain rfl : w0 = (.int i0) := Option.some.inj ei0
  obtain ⟨n, o, h1, h2, h3, v, L, rfl, hQ, hq⟩ := rm0 l s _ hw tables_1 i0 s.heap s.heap.size p e ha hc hk s m _ below hf ((Spec.applies_iff_loose hf).mp happ).1 ⟨rfl, State.Warmed39.refl s, rfl⟩ trivial
  have hv : v = some (.int (b2i (f0 i0))) := hQ.1
  rw [own_law i0] at hv
  subst hv
  have N := hQ.2.1
  refine ⟨n, _, h1, h2, h3, hpost _ _ _ _ _ _ ⟨Cond.after_iff.mpr rfl, Cond.after_iff.mpr (eq_i res_at (Term.int_eval (1)) rfl), trivial⟩ ⟨hq.1, hq.2.1, (hq.2.2.sift fun y hy => Or.inr (N y hy)).mono (by decide) (by decide)⟩⟩
theorem main_1_1 : Claimed_1_1 := comes_1 fun _ _ _ _ _ _ h hF => ⟨h.1, hF⟩
theorem main_1_2 : Claimed_1_2 := comes_1 fun _ _ _ _ _ _ h hF => ⟨h.2.1, hF⟩
end Jvm.Pilot.@@N@@
namespace Jvm.Pilot.@@N@@
open Jvm Jvm.ClassFile Sem Op Lib Jvm.Free Jvm.Stand Jvm.Pilot.@@N@@.Jvm.D
/-! MADE BY PROGRAM (witnessworld.py) out of the Statement's table words and the real class files: 9 classes; the members and pool entries that the words name. The judged class is class 1, her method 5. -/
namespace start1
open Jvm.ClassFile
def u (s : String) : CpInfo := .utf8 (stringToUtf16 s)
/-- a pool by its gaps: so many unusable entries, then the entry; so many at the end -/
def gap : Nat → List CpInfo → List CpInfo
  | 0, r => r
  | n + 1, r => .unusable :: gap n r
def poolList (es : List (Nat × CpInfo)) (last : Nat) : List CpInfo := es.foldr (fun e r => gap e.1 (e.2 :: r)) (gap last [])
def pool (es : List (Nat × CpInfo)) (last : Nat) : Array CpInfo := ⟨poolList es last⟩
def fileOf (pool : Array CpInfo) (this : Nat) (attrs : Array Attribute := #[]) (ms : Array MethodInfo := #[]) (fl : Nat := 33) (sup : Nat := 0) (ifs : Array Nat := #[]) (fds : Array FieldInfo := #[]) : ClassFile where
  minorVersion := 0
  majorVersion := 65
  constantPool := pool
  accessFlags := fl
  thisClass := this
  superClass := sup
  interfaces := ifs
  fields := fds
  methods := ms
  attributes := attrs
def plain (name : String) (sup : Option ClassId) : Class where
  name := name
  kind := .ordinary
  loader := none
  accessFlags := 33
  super := sup
  interfaces := #[]
  cf := none
  fields := #[]
  methods := #[]
  instanceTypes := #[]
  staticTypes := #[]
  resolved := #[]
  callSites := []
  init := .initialized
  statics := none
  mirror := none

def pool0 : Array CpInfo := pool [(5, u "<init>"), (0, u "()V"), (1, .class_ 10), (1, u "java/lang/Object")] 113

def k0m0 : Method := { name := "<init>", desc := "()V", sig := { parameters := [], returnType := none }, accessFlags := 1, code := none }
/-- java/lang/Object -/
def k0 : Class := { plain "java/lang/Object" none with
  accessFlags := 33
  interfaces := #[]
  cf := some (fileOf pool0 8 #[] #[{ accessFlags := 1, nameIndex := 5, descriptorIndex := 6, attributes := #[] }] 33 0 #[] #[])
  fields := #[]
  methods := #[k0m0]
  instanceTypes := #[]
  staticTypes := #[]
  resolved := Array.replicate 124 none
  statics := none }

def pool1 : Array CpInfo := pool [(2, .class_ 4), (1, u "java/lang/Object"), (0, u "<init>"), (0, u "()V"), (0, .methodref 8 9), (0, .class_ 10), (0, .nameAndType 11 12), (0, u "com/example/strict_schedule/strictschedule/history/ItemIsCharacterPinLaw"), (0, u "isDigit"), (0, u "(I)Z"), (0, .methodref 8 14), (0, .nameAndType 15 12), (0, u "isLetter"), (0, .methodref 8 17), (0, .nameAndType 18 12), (0, u "isMark"), (0, .methodref 8 20), (0, .nameAndType 21 12), (0, u "reference"), (0, .methodref 23 24), (0, .class_ 25), (0, .nameAndType 26 12), (0, u "com/example/strict_schedule/strictschedule/history/Item"), (0, u "isCharacter"), (3, u "law")] 2

def k1m0 : Method := { name := "<init>", desc := "()V", sig := { parameters := [], returnType := none }, accessFlags := 2, code := none }
def k1c1 : Code := { maxStack := 2, maxLocals := 1, code := method_2_code, exceptionTable := #[], attributes := #[] }
def k1m1 : Method := { name := "isDigit", desc := "(I)Z", sig := { parameters := [.int], returnType := some .boolean }, accessFlags := 10, code := some k1c1 }
def k1c2 : Code := { maxStack := 2, maxLocals := 2, code := method_3_code, exceptionTable := #[], attributes := #[] }
def k1m2 : Method := { name := "isLetter", desc := "(I)Z", sig := { parameters := [.int], returnType := some .boolean }, accessFlags := 10, code := some k1c2 }
def k1c3 : Code := { maxStack := 2, maxLocals := 1, code := method_4_code, exceptionTable := #[], attributes := #[] }
def k1m3 : Method := { name := "isMark", desc := "(I)Z", sig := { parameters := [.int], returnType := some .boolean }, accessFlags := 10, code := some k1c3 }
def k1c4 : Code := { maxStack := 1, maxLocals := 1, code := method_5_code, exceptionTable := #[], attributes := #[] }
def k1m4 : Method := { name := "reference", desc := "(I)Z", sig := { parameters := [.int], returnType := some .boolean }, accessFlags := 10, code := some k1c4 }
def k1c5 : Code := { maxStack := 2, maxLocals := 2, code := code, exceptionTable := #[], attributes := #[] }
def k1m5 : Method := { name := "law", desc := "(I)Z", sig := { parameters := [.int], returnType := some .boolean }, accessFlags := 9, code := some k1c5 }
/-- com/example/strict_schedule/strictschedule/history/ItemIsCharacterPinLaw -/
def k1 : Class := { plain "com/example/strict_schedule/strictschedule/history/ItemIsCharacterPinLaw" (some 0) with
  accessFlags := 49
  interfaces := #[]
  cf := some (fileOf pool1 8 #[] #[{ accessFlags := 2, nameIndex := 5, descriptorIndex := 6, attributes := #[] }, { accessFlags := 10, nameIndex := 11, descriptorIndex := 12, attributes := #[] }, { accessFlags := 10, nameIndex := 15, descriptorIndex := 12, attributes := #[] }, { accessFlags := 10, nameIndex := 18, descriptorIndex := 12, attributes := #[] }, { accessFlags := 10, nameIndex := 21, descriptorIndex := 12, attributes := #[] }, { accessFlags := 9, nameIndex := 30, descriptorIndex := 12, attributes := #[] }] 49 2 #[] #[])
  fields := #[]
  methods := #[k1m0, k1m1, k1m2, k1m3, k1m4, k1m5]
  instanceTypes := #[]
  staticTypes := #[]
  resolved := Array.replicate 33 none
  statics := none }

def pool2 : Array CpInfo := pool [(2, .class_ 4), (1, u "java/lang/Object"), (0, u "<init>"), (0, u "()V"), (15, .class_ 24), (1, u "com/example/strict_schedule/strictschedule/history/Item"), (0, u "isCharacter"), (0, u "(I)Z"), (25, u "CHARACTERS"), (0, u "Ljava/lang/String;"), (3, u "HEXADECIMAL"), (0, u "C")] 23

def k2m0 : Method := { name := "<init>", desc := "()V", sig := { parameters := [], returnType := none }, accessFlags := 2, code := none }
def k2c1 : Code := { maxStack := 2, maxLocals := 1, code := prog_49_method_2_code, exceptionTable := #[], attributes := #[] }
def k2m1 : Method := { name := "isCharacter", desc := "(I)Z", sig := { parameters := [.int], returnType := some .boolean }, accessFlags := 9, code := some k2c1 }
/-- com/example/strict_schedule/strictschedule/history/Item -/
def k2 : Class := { plain "com/example/strict_schedule/strictschedule/history/Item" (some 0) with
  accessFlags := 49
  interfaces := #[]
  cf := some (fileOf pool2 22 #[] #[{ accessFlags := 2, nameIndex := 5, descriptorIndex := 6, attributes := #[] }, { accessFlags := 9, nameIndex := 25, descriptorIndex := 26, attributes := #[] }] 49 2 #[] #[{ accessFlags := 25, nameIndex := 52, descriptorIndex := 53, attributes := #[] }, { accessFlags := 26, nameIndex := 57, descriptorIndex := 58, attributes := #[] }])
  fields := #[{ name := "CHARACTERS", type := (.object "java/lang/String"), accessFlags := 25, slot := 0, constantValue := 0 }, { name := "HEXADECIMAL", type := .char, accessFlags := 26, slot := 1, constantValue := 0 }]
  methods := #[k2m0, k2m1]
  instanceTypes := #[]
  staticTypes := #[(.object "java/lang/String"), .char]
  resolved := Array.replicate 82 none
  statics := none }

def pool3 : Array CpInfo := pool [(1, u "java/lang/Cloneable"), (0, .class_ 1), (0, u "java/lang/Object"), (0, .class_ 3)] 3

/-- java/lang/Cloneable -/
def k3 : Class := { plain "java/lang/Cloneable" (some 0) with
  accessFlags := 1537
  interfaces := #[]
  cf := some (fileOf pool3 2 #[] #[] 1537 4 #[] #[])
  fields := #[]
  methods := #[]
  instanceTypes := #[]
  staticTypes := #[]
  resolved := Array.replicate 8 none
  statics := none }

def pool4 : Array CpInfo := pool [(1, u "java/io/Serializable"), (0, .class_ 1), (0, u "java/lang/Object"), (0, .class_ 3)] 3

/-- java/io/Serializable -/
def k4 : Class := { plain "java/io/Serializable" (some 0) with
  accessFlags := 1537
  interfaces := #[]
  cf := some (fileOf pool4 2 #[] #[] 1537 4 #[] #[])
  fields := #[]
  methods := #[]
  instanceTypes := #[]
  staticTypes := #[]
  resolved := Array.replicate 8 none
  statics := none }

/-- the primitive byte -/
def k5 : Class := { plain "byte" none with kind := .primitive 'B', accessFlags := 0x411 }
/-- [B -/
def k6 : Class := { plain "[B" (some 0) with kind := .array 5 .byte, interfaces := #[3, 4], accessFlags := 1041 }

/-- the primitive int -/
def k7 : Class := { plain "int" none with kind := .primitive 'I', accessFlags := 0x411 }
/-- [I -/
def k8 : Class := { plain "[I" (some 0) with kind := .array 7 .int, interfaces := #[3, 4], accessFlags := 1041 }

def heap : Heap := #[]
def classes : Array Class := #[k0, k1, k2, k3, k4, k5, k6, k7, k8]
def interned : List (Array UInt16 × Addr) := []
def slotsUsed : Nat := 0
def theMethod : MethodId := ⟨1, 5⟩
def args0 : Array Value := #[.int 5]
def aboutOver (below : List Frame) : State where
  vm := { classes := classes, interned := interned.toArray }
  heap := heap
  slotsUsed := slotsUsed
  threads := #[{ frames := .invoking theMethod args0 :: below }]
def below0 : List Frame := [.native { method := ⟨0, 0⟩, args := #[] }]
def about1 : State := aboutOver below0
def p0 : Program := .bare "" "" ""
def e0 : Env := launch0.env 0 0 0
theorem w_frames : about1.frames = Frame.invoking theMethod args0 :: below0 := rfl
set_option maxRecDepth 65536 in
theorem w_args : argsFit about1.vm theMethod args0 = true := by decide +kernel
set_option maxRecDepth 65536 in
theorem w_heap : heapFits about1 = true := by decide +kernel
set_option maxRecDepth 65536 in
theorem w_runnable : about1.curStatus? = some .runnable := by decide +kernel
set_option maxRecDepth 65536 in
theorem w_alone : about1.alone = true := by decide +kernel
set_option maxRecDepth 65536 in
theorem w_named : about1.methodNamed? x = some theMethod := by decide +kernel
set_option maxRecDepth 65536 in
theorem w_hears : about1.hears theMethod below0 = true := by decide +kernel
set_option maxRecDepth 65536 in
theorem w_ripe : about1.ripe theMethod args0 below0 = true := by decide +kernel
theorem w_running : about1.status = .running := rfl
set_option maxRecDepth 65536 in
theorem w_room : about1.hasRoom e0.platform room_1 = true :=
  launch0.hasRoom_least _ room_1 (by decide +kernel) (by decide +kernel) (by decide +kernel) (by decide +kernel) (by decide +kernel) (by decide +kernel)
theorem allAtoms_all (ts : List Jvm.Cond) (a : Array Jvm.Value) (st : Jvm.State) : (allAtoms ts).before a st = ts.all (fun c => c.before a st) := by
  induction ts with
  | nil => rfl
  | cons c t ih =>
    show (Jvm.Cond.and c (allAtoms t)).before a st = _
    rw [Jvm.Cond.before_and, ih, List.all_cons]
def words1 : List Jvm.Cond := Jvm.Cond.code x code maxLocals ret :: tables_1
/-- a 'code' word, met by the world's own term for the bytes: nothing is compared byte by byte -/
theorem code_word {y : MethodName} {bytes : ByteArray} {mx : Nat} {rt : Option FieldType} {a : Array Value} {s : State} {m : MethodId} {meth : Method} {c : Code} (h1 : s.methodNamed? y = some m) (h2 : s.vm.method? m = some meth) (h3 : meth.code = some c) (h4 : c.code = bytes)
    (h5 : (c.maxLocals == mx && c.exceptionTable.isEmpty && decide (c.maxStack ≤ mostOperands) && decide (meth.sig.returnType = rt) && !meth.locks && decide (parseMethodDescriptor y.desc = some meth.sig)) = true) : (Jvm.Cond.code y bytes mx rt).before a s = true := by
  simp only [Bool.and_eq_true, beq_iff_eq, Bool.not_eq_true', decide_eq_true_eq] at h5
  obtain ⟨⟨⟨⟨⟨g1, g2⟩, g3⟩, g4⟩, g5⟩, g6⟩ := h5
  simp [Cond.before, Cond.holds, Cond.value, h1, h2, h3, h4, g1, g2, g3, g4, g5, g6]
def isCode : Jvm.Cond → Bool
  | .code _ _ _ _ => true
  | _ => false
theorem all_split {L : List Jvm.Cond} {P : Jvm.Cond → Bool} (h1 : L.all (fun c => isCode c || P c) = true) (h2 : ∀ c ∈ L.filter isCode, P c = true) : L.all P = true := by
  refine List.all_eq_true.mpr fun c hc => ?_
  have h := List.all_eq_true.mp h1 c hc
  rcases Bool.eq_false_or_eq_true (isCode c) with hi | hi
  · exact h2 c (List.mem_filter.mpr ⟨hc, hi⟩)
  · simpa [hi] using h
set_option maxRecDepth 65536 in
theorem w_c0 : (Jvm.Cond.code x code maxLocals ret).before args0 about1 = true := code_word (m := ⟨1, 5⟩) (meth := k1m5) (c := k1c5) (by decide +kernel) rfl rfl rfl (by decide +kernel)
set_option maxRecDepth 65536 in
theorem w_c1 : (Jvm.Cond.code ({ cls := "com/example/strict_schedule/strictschedule/history/ItemIsCharacterPinLaw", name := "reference", desc := "(I)Z" } : Jvm.MethodName) method_5_code (1 : Nat) (Option.some Jvm.ClassFile.FieldType.boolean)).before args0 about1 = true := code_word (m := ⟨1, 4⟩) (meth := k1m4) (c := k1c4) (by decide +kernel) rfl rfl rfl (by decide +kernel)
set_option maxRecDepth 65536 in
theorem w_c2 : (Jvm.Cond.code ({ cls := "com/example/strict_schedule/strictschedule/history/ItemIsCharacterPinLaw", name := "isDigit", desc := "(I)Z" } : Jvm.MethodName) method_2_code (1 : Nat) (Option.some Jvm.ClassFile.FieldType.boolean)).before args0 about1 = true := code_word (m := ⟨1, 1⟩) (meth := k1m1) (c := k1c1) (by decide +kernel) rfl rfl rfl (by decide +kernel)
set_option maxRecDepth 65536 in
theorem w_c3 : (Jvm.Cond.code ({ cls := "com/example/strict_schedule/strictschedule/history/ItemIsCharacterPinLaw", name := "isLetter", desc := "(I)Z" } : Jvm.MethodName) method_3_code (2 : Nat) (Option.some Jvm.ClassFile.FieldType.boolean)).before args0 about1 = true := code_word (m := ⟨1, 2⟩) (meth := k1m2) (c := k1c2) (by decide +kernel) rfl rfl rfl (by decide +kernel)
set_option maxRecDepth 65536 in
theorem w_c4 : (Jvm.Cond.code ({ cls := "com/example/strict_schedule/strictschedule/history/ItemIsCharacterPinLaw", name := "isMark", desc := "(I)Z" } : Jvm.MethodName) method_4_code (1 : Nat) (Option.some Jvm.ClassFile.FieldType.boolean)).before args0 about1 = true := code_word (m := ⟨1, 3⟩) (meth := k1m3) (c := k1c3) (by decide +kernel) rfl rfl rfl (by decide +kernel)
set_option maxRecDepth 65536 in
theorem w_c5 : (Jvm.Cond.code ({ cls := "com/example/strict_schedule/strictschedule/history/Item", name := "isCharacter", desc := "(I)Z" } : Jvm.MethodName) prog_49_method_2_code (1 : Nat) (Option.some Jvm.ClassFile.FieldType.boolean)).before args0 about1 = true := code_word (m := ⟨2, 1⟩) (meth := k2m1) (c := k2c1) (by decide +kernel) rfl rfl rfl (by decide +kernel)
def codes1 : List Jvm.Cond := [Jvm.Cond.code x code maxLocals ret, Jvm.Cond.code ({ cls := "com/example/strict_schedule/strictschedule/history/ItemIsCharacterPinLaw", name := "reference", desc := "(I)Z" } : Jvm.MethodName) method_5_code (1 : Nat) (Option.some Jvm.ClassFile.FieldType.boolean), Jvm.Cond.code ({ cls := "com/example/strict_schedule/strictschedule/history/ItemIsCharacterPinLaw", name := "isDigit", desc := "(I)Z" } : Jvm.MethodName) method_2_code (1 : Nat) (Option.some Jvm.ClassFile.FieldType.boolean), Jvm.Cond.code ({ cls := "com/example/strict_schedule/strictschedule/history/ItemIsCharacterPinLaw", name := "isLetter", desc := "(I)Z" } : Jvm.MethodName) method_3_code (2 : Nat) (Option.some Jvm.ClassFile.FieldType.boolean), Jvm.Cond.code ({ cls := "com/example/strict_schedule/strictschedule/history/ItemIsCharacterPinLaw", name := "isMark", desc := "(I)Z" } : Jvm.MethodName) method_4_code (1 : Nat) (Option.some Jvm.ClassFile.FieldType.boolean), Jvm.Cond.code ({ cls := "com/example/strict_schedule/strictschedule/history/Item", name := "isCharacter", desc := "(I)Z" } : Jvm.MethodName) prog_49_method_2_code (1 : Nat) (Option.some Jvm.ClassFile.FieldType.boolean)]
set_option maxRecDepth 65536 in
theorem codes_eq : words1.filter isCode = codes1 := rfl
theorem w_codes : ∀ c ∈ words1.filter isCode, c.before args0 about1 = true := by
  rw [codes_eq]
  intro c hc
  simp only [codes1, List.mem_cons, List.not_mem_nil, or_false] at hc
  rcases hc with rfl | rfl | rfl | rfl | rfl | rfl
  · exact w_c0
  · exact w_c1
  · exact w_c2
  · exact w_c3
  · exact w_c4
  · exact w_c5
set_option maxRecDepth 65536 in
theorem w_t1 : words1.all (fun c => isCode c || c.before args0 about1) = true := by decide +kernel
theorem w_tables : (allAtoms (Jvm.Cond.code x code maxLocals ret :: tables_1)).before args0 about1 = true := by
  rw [allAtoms_all]
  show words1.all (fun c => c.before args0 about1) = true
  refine all_split ?_ w_codes
  rw [w_t1]
set_option maxRecDepth 65536 in
theorem w_case : (Jvm.Cond.and given_1 narrow_1).before args0 about1 = true := by decide +kernel
theorem w_applies : (headSpec (Jvm.Cond.code x code maxLocals ret :: tables_1) room_1).applies x e0.platform about1 = true :=
  (Spec.applies_iff w_frames).mpr ⟨w_running, w_runnable, w_alone, w_named, w_hears, w_ripe, w_room, w_tables⟩
theorem atStart : AtStart classFile x code maxLocals ret World_1 tables_1 room_1 Calls_1 rest_1 Pre_1 launch0 p0 e0 about1 theMethod args0 below0 :=
  ⟨lists_1, trivial, launch0.admits_env _ _ _, launch0.least_env, fairChoices_fair.cas, fairChoices_fair.clock, w_frames, w_args, w_heap, w_applies, trivial, trivial, w_case⟩
end start1
theorem witness_1 : WitnessClaimed_1 := ⟨start1.p0, start1.e0, start1.about1, start1.theMethod, start1.args0, start1.below0, start1.atStart⟩
end Jvm.Pilot.@@N@@
