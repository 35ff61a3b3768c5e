import JvmDerived
import JvmDerived.Pilot.@@N@@Statement
import JvmDerived.Pilot.@@N@@Code
set_option linter.unusedVariables false
set_option linter.unusedSimpArgs false
namespace Jvm.RoadKit
open Sem ClassFile Op Lib Jvm.Stand Jvm.Free Jvm.LawKit
section OwnKit
variable {p : Program} {l : Launch} {e : Env} {R : Room} {s : State} {m : MethodId} {args : Array Value} {below : List Frame} {meth : Method} {c : Code} {T : State} {locs : List Loc} {cells slots : Nat}
/-- a boolean as the machine's int -/
def b2i (b : Bool) : Int32 := bif b then 1 else 0
theorem b2i_t {b : Bool} (h : b = true) : ¬ b2i b = 0 := by subst h; decide
theorem b2i_f {b : Bool} (h : ¬ b = true) : b2i b = 0 := by cases b <;> first | rfl | exact absurd rfl h
theorem b2i_inj {a b : Bool} (h : b2i a = b2i b) : a = b := by cases a <;> cases b <;> first | rfl | exact absurd h (by decide)
theorem nar_b2i (b : Bool) : nar .boolean (b2i b) = b2i b := by cases b <;> decide
/-- from the state U the walk comes to an end that P holds of -/
def Go (tb : Tables) (e : Env) (below : List Frame) (P : Outcome → State → Prop) (U : State) : Prop := ∃ s₂ o, Steps tb e below U s₂ ∧ s₂.status = .running ∧ Ended s₂ below o ∧ P o s₂
theorem Go.back {tb : Tables} {P : Outcome → State → Prop} {U V : State} (h : ∀ t, Steps tb e below V t → Steps tb e below U t) (k : Go tb e below P V) : Go tb e below P U := by
  obtain ⟨s2, o, h1, h2⟩ := k
  exact ⟨s2, o, h _ h1, h2⟩
theorem Go.trans {tb : Tables} {P : Outcome → State → Prop} {U V : State} (h : Steps tb e below U V) (k : Go tb e below P V) : Go tb e below P U := by
  obtain ⟨s2, o, h1, h2⟩ := k
  exact ⟨s2, o, Steps.trans h h1, h2⟩
abbrev Fin (s : State) (Q : Option Value → Heap → List Loc → Prop) (K S : Nat) : Outcome → State → Prop := fun o U' => ∃ v L, o = .returned v ∧ Q v U'.heap L ∧ FrameEnd s o U' L K S
theorem retI0 (X : Stand p l e R s m args below meth c T locs cells slots) (hx : p.tables.exec = Jvm.exec) {pc : Nat} {Ls : Array Slot} {z : Int32} {rest : List Value} (hret : meth.sig.returnType = some .int) (hd : decode c.code pc = .ok (.ireturn, 1)) {fs : List Frame}
    (hl : ∀ (f : JFrame) (acts : List Action), f.method = m → f.locked = none → f.entered = [] → (doReturn e (T.setTop f) acts (some (.int z))).1 = T.setFrames fs) : Steps p.tables e below (T.setTop (mkF m pc Ls (.int z :: rest))) (T.setFrames fs) := by
  have hm' : T.vm.method? m = some meth := X.method'
  have hn : narrow .int (.int z) = .int z := rfl
  show Steps p.tables e below (T.setTop { method := m, pc := pc, locals := Ls, stack := _ :: rest, locked := none }) _
  jvm_step X.here [X.here.top, hx, hd, hm', hret, hn]
  first | (intro acts; rw [hl _ acts rfl rfl rfl]) | rw [hl _ _ rfl rfl rfl]
  exact Steps.refl _
theorem Go.retI (X : Stand p l e R s m args below meth c T locs cells slots) (hx : p.tables.exec = Jvm.exec) {pc : Nat} {Ls : Array Slot} {z : Int32} {rest : List Value} (hret : meth.sig.returnType = some .int) (hd : decode c.code pc = .ok (.ireturn, 1)) (hlk : meth.locks = false) {Q : Option Value → Heap → List Loc → Prop} {K S : Nat} (hQ : Q (some (.int z)) T.heap locs) (hc : cells ≤ K) (hs : slots ≤ S) :
    Go p.tables e below (Fin s Q K S) (T.setTop (mkF m pc Ls (.int z :: rest))) := by
  obtain ⟨fs, hr, hrun, hended, hW, hsame⟩ := X.leave (v := some (.int z)) (fun h => by rw [hret] at h; cases h) hlk
  exact ⟨_, _, retI0 X hx hret hd hr, hrun, hended, _, _, rfl, hQ, ⟨_, rfl⟩, hW, hsame.mono hc hs⟩
theorem Go.retN (X : Stand p l e R s m args below meth c T locs cells slots) (hx : p.tables.exec = Jvm.exec) {pc : Nat} {Ls : Array Slot} {z : Int32} {rest : List Value} {t : FieldType} (hret : meth.sig.returnType = some t) (ht : t = .boolean ∨ t = .byte ∨ t = .char ∨ t = .short) (hd : decode c.code pc = .ok (.ireturn, 1)) (hlk : meth.locks = false) {Q : Option Value → Heap → List Loc → Prop} {K S : Nat} (hQ : Q (some (.int (nar t z))) T.heap locs) (hc : cells ≤ K) (hs : slots ≤ S) :
    Go p.tables e below (Fin s Q K S) (T.setTop (mkF m pc Ls (.int z :: rest))) := by
  obtain ⟨fs, hr, hrun, hended, hW, hsame⟩ := X.leave (v := some (.int (nar t z))) (fun h => by rw [hret] at h; cases h) hlk
  exact ⟨_, _, Jvm.RoadKit.retN X hx hret ht hd hr, hrun, hended, _, _, rfl, hQ, ⟨_, rfl⟩, hW, hsame.mono hc hs⟩
theorem Go.retB (X : Stand p l e R s m args below meth c T locs cells slots) (hx : p.tables.exec = Jvm.exec) {pc : Nat} {Ls : Array Slot} {b : Bool} {rest : List Value} (hret : meth.sig.returnType = some .boolean) (hd : decode c.code pc = .ok (.ireturn, 1)) (hlk : meth.locks = false) {Q : Option Value → Heap → List Loc → Prop} {K S : Nat} (hQ : Q (some (.int (b2i b))) T.heap locs) (hc : cells ≤ K) (hs : slots ≤ S) :
    Go p.tables e below (Fin s Q K S) (T.setTop (mkF m pc Ls (.int (b2i b) :: rest))) := Go.retN X hx hret (Or.inl rfl) hd hlk (by rw [nar_b2i]; exact hQ) hc hs
theorem Go.retJ (X : Stand p l e R s m args below meth c T locs cells slots) (hx : p.tables.exec = Jvm.exec) {pc : Nat} {Ls : Array Slot} {z : Int64} (hret : meth.sig.returnType = some .long) (hd : decode c.code pc = .ok (.lreturn, 1)) (hlk : meth.locks = false) {Q : Option Value → Heap → List Loc → Prop} {K S : Nat} (hQ : Q (some (.long z)) T.heap locs) (hc : cells ≤ K) (hs : slots ≤ S) :
    Go p.tables e below (Fin s Q K S) (T.setTop (mkF m pc Ls [.long z])) := by
  obtain ⟨fs, hr, hrun, hended, hW, hsame⟩ := X.leave (v := some (.long z)) (fun h => by rw [hret] at h; cases h) hlk
  exact ⟨_, _, X.lreturnOut hx hret hd hr, hrun, hended, _, _, rfl, hQ, ⟨_, rfl⟩, hW, hsame.mono hc hs⟩
theorem Go.retR (X : Stand p l e R s m args below meth c T locs cells slots) (hx : p.tables.exec = Jvm.exec) {pc : Nat} {Ls : Array Slot} {a : Addr} {t : FieldType} (hret : meth.sig.returnType = some t) (ht : t.isReference = true) (hd : decode c.code pc = .ok (.areturn, 1)) (hlk : meth.locks = false) {Q : Option Value → Heap → List Loc → Prop} {K S : Nat} (hQ : Q (some (.ref a)) T.heap locs) (hc : cells ≤ K) (hs : slots ≤ S) :
    Go p.tables e below (Fin s Q K S) (T.setTop (mkF m pc Ls [.ref a])) := by
  obtain ⟨fs, hr, hrun, hended, hW, hsame⟩ := X.leave (v := some (.ref a)) (fun h => by rw [hret] at h; cases h) hlk
  exact ⟨_, _, X.areturnOut hx rfl hret ht hd hr, hrun, hended, _, _, rfl, hQ, ⟨_, rfl⟩, hW, hsame.mono hc hs⟩
theorem Go.retV (X : Stand p l e R s m args below meth c T locs cells slots) (hx : p.tables.exec = Jvm.exec) {pc : Nat} {Ls : Array Slot} (hret : meth.sig.returnType = none) (hd : decode c.code pc = .ok (.return_, 1)) (hlk : meth.locks = false) {Q : Option Value → Heap → List Loc → Prop} {K S : Nat} (hQ : Q none T.heap locs) (hc : cells ≤ K) (hs : slots ≤ S) :
    Go p.tables e below (Fin s Q K S) (T.setTop (mkF m pc Ls [])) := by
  obtain ⟨fs, hr, hrun, hended, hW, hsame⟩ := X.leave (v := none) (fun _ => rfl) hlk
  exact ⟨_, _, X.returnOut hx hret hd hr, hrun, hended, _, _, rfl, hQ, ⟨_, rfl⟩, hW, hsame.mono hc hs⟩
theorem lremM {g : JFrame} {target : State} (X : Stand p l e R s m args below meth c T locs cells slots) (hx : p.tables.exec = Jvm.exec) (hg : g.method = m) {x y : Int64} {rest : List Value} (hd : decode c.code g.pc = .ok (.lrem, 1)) (hs : g.stack = .long y :: .long x :: rest) (hy : y ≠ 0)
    (hr : Steps p.tables e below (T.setTop { g with pc := g.pc + 1, stack := .long (x % y) :: rest }) target) : Steps p.tables e below (T.setTop g) target :=
  XS.lrem X.here hx hg hd hs hy (by rw [lrem_mod x y]; exact hr)
/-- the slots written so far get a name -/
theorem pk (X : Stand p l e R s m args below meth c T locs cells slots) {k : Nat} (N : Fr k locs) : ∃ L, Stand p l e R s m args below meth c T L cells slots ∧ Fr k L := ⟨_, X, N⟩
theorem storeS_i {ls l' : Array Slot} {k : Nat} {o : Slot} {x : Int32} (hold : ls[k]? = some o) (h : One o) (q : ls.setIfInBounds k (.val (.int x)) = l') : storeLocals ls k (.int x) = some l' := by
  rw [XS.store1 hold h rfl, q]
theorem storeS_a {ls l' : Array Slot} {k : Nat} {o : Slot} {a : Addr} (hold : ls[k]? = some o) (h : One o) (q : ls.setIfInBounds k (.val (.ref a)) = l') : storeLocals ls k (.ref a) = some l' := by
  rw [XS.store1 hold h rfl, q]
end OwnKit
section OwnArr
variable {p : Program} {l : Launch} {e : Env} {R : Room} {s : State} {m : MethodId} {args : Array Value} {below : List Frame} {meth : Method} {c : Code} {T : State} {locs : List Loc} {cells slots : Nat} {Z : State} {h h' : Heap} {a b : Addr} {ty : FieldType} {vs : List Value} {v : Value} {sl : Nat} {ws : List Addr}
/-- the array at a, of the kind ty, holds just this list -/
def ArL (Z : State) (h : Heap) (a : Addr) (ty : FieldType) (vs : List Value) : Prop := ∃ c : Cell, Arr Z h a c ty ∧ c.slots.toList = vs
theorem ArL.lt (F : ArL Z h a ty vs) : a < h.size := by obtain ⟨c, A, -⟩ := F; exact A.lt
theorem ArL.ext (F : ArL Z h a ty vs) (E : Ext h h') : ArL Z h' a ty vs := by obtain ⟨c, A, r⟩ := F; exact ⟨c, A.ext E, r⟩
theorem ArL.other (F : ArL Z h b ty vs) (W : Wr h h' a sl v) (q : b ≠ a) : ArL Z h' b ty vs := by obtain ⟨c, A, r⟩ := F; exact ⟨c, A.other W q, r⟩
theorem ArL.keep (F : ArL Z h a ty vs) (K : Keep h h' ws) (q : a ∉ ws) : ArL Z h' a ty vs := by obtain ⟨c, A, r⟩ := F; exact ⟨c, ⟨K.2.1 a c A.1 q, A.2⟩, r⟩
theorem ArL.new {k : ClassId} {z : Int32} (A : Arr Z h a (newA k ty z) ty) {n : Nat} (q : z.toNatClampNeg = n) : ArL Z h a ty (List.replicate n (defaultValue ty)) := ⟨_, A, by subst q; simp [newA]⟩
theorem ArL.set (F : ArL Z h a ty vs) (W : Wr h h' a sl v) : ArL Z h' a ty (vs.set sl v) := by
  obtain ⟨c, A, r⟩ := F
  exact ⟨_, A.same W, by subst r; simp [Cell.setSlot]⟩
/-- a place of it: what a load and a store ask -/
theorem ArL.at (F : ArL Z h a ty vs) {j : Int32} (h0 : ¬ j < 0) (hj : j.toNatClampNeg < vs.length) : ∃ c : Cell, Arr Z h a c ty ∧ ¬ (j < 0 ∨ c.slots.size ≤ j.toNatClampNeg) ∧ c.slots[j.toNatClampNeg]? = some (vs[j.toNatClampNeg]'hj) := by
  obtain ⟨c, A, rfl⟩ := F
  have q : j.toNatClampNeg < c.slots.size := by simpa using hj
  refine ⟨c, A, fun z => z.elim h0 (fun y => absurd q (Nat.not_lt.mpr y)), ?_⟩
  rw [Array.getElem?_eq_getElem q]
  simp
theorem ArL.get (F : ArL Z h a ty vs) {j : Int32} (h0 : ¬ j < 0) (hv : vs[j.toNatClampNeg]? = some v) : ∃ c : Cell, Arr Z h a c ty ∧ ¬ (j < 0 ∨ c.slots.size ≤ j.toNatClampNeg) ∧ c.slots[j.toNatClampNeg]? = some v := by
  obtain ⟨hj, rfl⟩ := List.getElem?_eq_some_iff.mp hv
  exact F.at h0 hj
theorem ArL.setI {xs : List Int32} {x : Int32} {i : Nat} (F : ArL Z h a ty (List.map Value.int xs)) (W : Wr h h' a i (.int x)) : ArL Z h' a ty (List.map Value.int (xs.set i x)) := by
  rw [List.map_set]; exact F.set W
theorem ArL.setJ {xs : List Int64} {x : Int64} {i : Nat} (F : ArL Z h a ty (List.map Value.long xs)) (W : Wr h h' a i (.long x)) : ArL Z h' a ty (List.map Value.long (xs.set i x)) := by
  rw [List.map_set]; exact F.set W
theorem ArL.newI {k : ClassId} {z : Int32} (A : Arr Z h a (newA k ty z) ty) {n : Nat} (q : z.toNatClampNeg = n) (hd : defaultValue ty = .int 0 := by rfl) : ArL Z h a ty (List.map Value.int (List.replicate n (0 : Int32))) := by
  rw [List.map_replicate, ← hd]; exact ArL.new A q
theorem ArL.newJ {k : ClassId} {z : Int32} (A : Arr Z h a (newA k ty z) ty) {n : Nat} (q : z.toNatClampNeg = n) (hd : defaultValue ty = .long 0 := by rfl) : ArL Z h a ty (List.map Value.long (List.replicate n (0 : Int64))) := by
  rw [List.map_replicate, ← hd]; exact ArL.new A q
theorem getI (xs : List Int32) {i : Nat} (q : i < xs.length) : (List.map Value.int xs)[i]? = some (.int (xs.getD i 0)) := by
  rw [List.getElem?_map, List.getD_eq_getElem?_getD, List.getElem?_eq_getElem q]; rfl
theorem getJ (xs : List Int64) {i : Nat} (q : i < xs.length) : (List.map Value.long xs)[i]? = some (.long (xs.getD i 0)) := by
  rw [List.getElem?_map, List.getD_eq_getElem?_getD, List.getElem?_eq_getElem q]; rfl
theorem ArL.len (F : ArL Z h a ty vs) : ∃ c : Cell, Arr Z h a c ty ∧ c.slots.size = vs.length := by
  obtain ⟨c, A, rfl⟩ := F
  exact ⟨c, A, by simp⟩
end OwnArr
end Jvm.RoadKit
namespace Jvm.Pilot.@@N@@
open Jvm Jvm.ClassFile Sem Op Lib Jvm.Free Jvm.Stand Jvm.LawKit Jvm.RoadKit Bundle Jvm.Pilot.@@N@@.Jvm.D
theorem pd_0 : parseMethodDescriptor "(II)I" = some ⟨[.int, .int], some .int⟩ := by decide +kernel
theorem pd_1 : parseMethodDescriptor "(I)I" = some ⟨[.int], some .int⟩ := by decide +kernel
theorem pd_2 : parseMethodDescriptor "(IZ[J[I)V" = some ⟨[.int, .boolean, (.array .long), (.array .int)], none⟩ := by decide +kernel
theorem pd_3 : parseMethodDescriptor "([I)V" = some ⟨[(.array .int)], none⟩ := by decide +kernel
theorem pd_4 : parseMethodDescriptor "([Z)[J" = some ⟨[(.array .boolean)], some (.array .long)⟩ := by decide +kernel
theorem pd_5 : parseMethodDescriptor "([J[JI)Z" = some ⟨[(.array .long), (.array .long), .int], some .boolean⟩ := by decide +kernel
theorem d5_0 : decode jdk_29_method_65_code 0 = .ok (.iload_n 0, 1) := by decide +kernel
theorem d5_1 : decode jdk_29_method_65_code 1 = .ok (.iload_n 1, 1) := by decide +kernel
theorem d5_2 : decode jdk_29_method_65_code 2 = .ok (.if_icmp .lt 7, 3) := by decide +kernel
theorem d5_5 : decode jdk_29_method_65_code 5 = .ok (.iload_n 0, 1) := by decide +kernel
theorem d5_6 : decode jdk_29_method_65_code 6 = .ok (.goto 4, 3) := by decide +kernel
theorem d5_9 : decode jdk_29_method_65_code 9 = .ok (.iload_n 1, 1) := by decide +kernel
theorem d5_10 : decode jdk_29_method_65_code 10 = .ok (.ireturn, 1) := by decide +kernel
def f5 (p0 : Int32) (p1 : Int32) : Int32 := (let z3 : Int32 := (if p0 < p1 then p1 else p0); z3)
def Q5 (p0 : Int32) (p1 : Int32) (h0 : Heap) (n0 : Nat) (v : Option Value) (h : Heap) (L : List Loc) : Prop := v = some (.int (f5 p0 p1)) ∧ Fr n0 L ∧ h = h0
abbrev rmm5 : Room := { frames := 0, cells := 0, slots := 0, locals := 0 }
abbrev P5 (p0 : Int32) (p1 : Int32) (h0 : Heap) (n0 : Nat) (s : State) : Outcome → State → Prop := fun o U' => ∃ v L, o = .returned v ∧ Q5 p0 p1 h0 n0 v U'.heap L ∧ FrameEnd s o U' L rmm5.cells rmm5.slots
theorem ef_5 (m : MethodId) (p0 : Int32) (p1 : Int32) : entryFrame m #[(.int p0), (.int p1)] 2 = mkF m 0 #[.val (.int p0), .val (.int p1)] [] := by first | (simp [entryFrame, mkF, argsToLocals, Value.category]; done) | rfl
set_option maxRecDepth 65536 in
set_option maxHeartbeats 40000000 in
theorem rm5 (l : Launch) (Z : State) (a0 : Array Value) (hw : ∀ d ∈ tables_1, d.before a0 Z = true) (ws : List Jvm.Cond) (p0 : Int32) (p1 : Int32) (h0 : Heap) (n0 : Nat) :
    MetFree l (⟨"java/lang/Math", "max", "(II)I"⟩ : MethodName) (head1 (Jvm.Cond.code (⟨"java/lang/Math", "max", "(II)I"⟩ : MethodName) jdk_29_method_65_code 2 (some .int) :: ws) rmm5) (fun a U => a = #[(.int p0), (.int p1)] ∧ Z.Warmed39 U.vm ∧ U.heap = h0) (fun _ _ _ _ _ => True) (fun _ U o U' => ∃ v L, o = .returned v ∧ Q5 p0 p1 h0 n0 v U'.heap L ∧ FrameEnd U o U' L rmm5.cells rmm5.slots) := by
  refine MetFree.of_bodySF (Jvm.Free.JP.mathPlain rfl (by decide +kernel)) hisR ?_
  intro p e s m args below meth c s₁ Bd hml0 hP hK
  obtain ⟨rfl, hZ, hh⟩ := hP
  have hx := Bd.exec
  have hby := Bd.bytes
  have hml : c.maxLocals = 2 := hml0
  have hown : s.vm.findClass "java/lang/Math" = some m.cls := findClass_of_methodNamed Bd.named
  have hnm := (name_of_methodNamed Bd.named Bd.method).1
  have X0 : Stand p l e rmm5 s m #[(.int p0), (.int p1)] below meth c s₁ [] 0 0 := Stand.of_body Bd
  have e0 : s₁.heap = h0 := by rw [← hh, Bd.state]; rfl
  have N0 := Fr.nil n0
  show Go p.tables e below (P5 p0 p1 h0 n0 s) (s₁.setTop (entryFrame m #[(.int p0), (.int p1)] 2))
  refine Go.back (fun t k => castTop (ef_5 m p0 p1) k) ?_
  show Go p.tables e below (P5 p0 p1 h0 n0 s) (s₁.setTop (mkF m 0 #[.val (.int p0), .val (.int p1)] []))
  have hf : f5 p0 p1 = (let z3 : Int32 := (if p0 < p1 then p1 else p0); z3) := rfl
  refine Go.back (fun t k => XS.iloadN X0.here hx rfl (hb hby d5_0) rfl  k) ?_
  show Go p.tables e below (P5 p0 p1 h0 n0 s) (s₁.setTop (mkF m 1 #[.val (.int p0), .val (.int p1)] [(.int p0)]))
  refine Go.back (fun t k => XS.iloadN X0.here hx rfl (hb hby d5_1) rfl  k) ?_
  show Go p.tables e below (P5 p0 p1 h0 n0 s) (s₁.setTop (mkF m 2 #[.val (.int p0), .val (.int p1)] [(.int p1), (.int p0)]))
  have J2 : ∀ (z3 : Int32) (hz3 : z3 = (if p0 < p1 then p1 else p0)), Go p.tables e below (P5 p0 p1 h0 n0 s) (s₁.setTop (mkF m 10 #[.val (.int p0), .val (.int p1)] [(.int z3)])) := by
    intro z3 hz3
    have r4 : f5 p0 p1 = z3 := by subst hz3; exact hf
    show Go p.tables e below (P5 p0 p1 h0 n0 s) (s₁.setTop (mkF m 10 #[.val (.int p0), .val (.int p1)] [(.int z3)]))
    exact Go.retI X0 hx Bd.returns (hb hby d5_10) Bd.notSynchronized ⟨by rw [r4], N0, e0⟩ (by decide) (by decide)
  have r5 : (if p0 < p1 then p1 else p0) = (if p0 < p1 then p1 else p0) := rfl
  by_cases hc1 : p0 < p1
  · have r6 := r5.trans (if_pos hc1)
    refine Go.back (fun t k => XS.icmpYes X0.here hx rfl (pc0 := 2) (pc' := 9) rfl (hb hby d5_2) rfl (tlt hc1).1 (by decide) (by decide) k) ?_
    show Go p.tables e below (P5 p0 p1 h0 n0 s) (s₁.setTop (mkF m 9 #[.val (.int p0), .val (.int p1)] []))
    refine Go.back (fun t k => XS.iloadN X0.here hx rfl (hb hby d5_9) rfl  k) ?_
    show Go p.tables e below (P5 p0 p1 h0 n0 s) (s₁.setTop (mkF m 10 #[.val (.int p0), .val (.int p1)] [(.int p1)]))
    exact J2 p1 r6.symm
  · have r7 := r5.trans (if_neg hc1)
    refine Go.back (fun t k => XS.icmpNo X0.here hx rfl (hb hby d5_2) rfl (flt hc1).1 k) ?_
    show Go p.tables e below (P5 p0 p1 h0 n0 s) (s₁.setTop (mkF m 5 #[.val (.int p0), .val (.int p1)] []))
    refine Go.back (fun t k => XS.iloadN X0.here hx rfl (hb hby d5_5) rfl  k) ?_
    show Go p.tables e below (P5 p0 p1 h0 n0 s) (s₁.setTop (mkF m 6 #[.val (.int p0), .val (.int p1)] [(.int p0)]))
    refine Go.back (fun t k => XS.goto X0.here hx rfl (pc0 := 6) (pc' := 10) rfl (hb hby d5_6) (by decide) (by decide) k) ?_
    show Go p.tables e below (P5 p0 p1 h0 n0 s) (s₁.setTop (mkF m 10 #[.val (.int p0), .val (.int p1)] [(.int p0)]))
    exact J2 p0 r7.symm
theorem d6_0 : decode jdk_33_method_47_code 0 = .ok (.iload_n 0, 1) := by decide +kernel
theorem d6_1 : decode jdk_33_method_47_code 1 = .ok (.ifCond .gt 14, 3) := by decide +kernel
theorem d6_4 : decode jdk_33_method_47_code 4 = .ok (.iload_n 0, 1) := by decide +kernel
theorem d6_5 : decode jdk_33_method_47_code 5 = .ok (.ifCond .ne 8, 3) := by decide +kernel
theorem d6_8 : decode jdk_33_method_47_code 8 = .ok (.bipush 32, 2) := by decide +kernel
theorem d6_10 : decode jdk_33_method_47_code 10 = .ok (.goto 4, 3) := by decide +kernel
theorem d6_13 : decode jdk_33_method_47_code 13 = .ok (.iconst 0, 1) := by decide +kernel
theorem d6_14 : decode jdk_33_method_47_code 14 = .ok (.ireturn, 1) := by decide +kernel
theorem d6_15 : decode jdk_33_method_47_code 15 = .ok (.bipush 31, 2) := by decide +kernel
theorem d6_17 : decode jdk_33_method_47_code 17 = .ok (.istore_n 1, 1) := by decide +kernel
theorem d6_18 : decode jdk_33_method_47_code 18 = .ok (.iload_n 0, 1) := by decide +kernel
theorem d6_19 : decode jdk_33_method_47_code 19 = .ok (.ldc_w 264, 3) := by decide +kernel
theorem d6_22 : decode jdk_33_method_47_code 22 = .ok (.if_icmp .lt 11, 3) := by decide +kernel
theorem d6_25 : decode jdk_33_method_47_code 25 = .ok (.iinc 1 (-16), 3) := by decide +kernel
theorem d6_28 : decode jdk_33_method_47_code 28 = .ok (.iload_n 0, 1) := by decide +kernel
theorem d6_29 : decode jdk_33_method_47_code 29 = .ok (.bipush 16, 2) := by decide +kernel
theorem d6_31 : decode jdk_33_method_47_code 31 = .ok (.iushr, 1) := by decide +kernel
theorem d6_32 : decode jdk_33_method_47_code 32 = .ok (.istore_n 0, 1) := by decide +kernel
theorem d6_33 : decode jdk_33_method_47_code 33 = .ok (.iload_n 0, 1) := by decide +kernel
theorem d6_34 : decode jdk_33_method_47_code 34 = .ok (.sipush 256, 3) := by decide +kernel
theorem d6_37 : decode jdk_33_method_47_code 37 = .ok (.if_icmp .lt 11, 3) := by decide +kernel
theorem d6_40 : decode jdk_33_method_47_code 40 = .ok (.iinc 1 (-8), 3) := by decide +kernel
theorem d6_43 : decode jdk_33_method_47_code 43 = .ok (.iload_n 0, 1) := by decide +kernel
theorem d6_44 : decode jdk_33_method_47_code 44 = .ok (.bipush 8, 2) := by decide +kernel
theorem d6_46 : decode jdk_33_method_47_code 46 = .ok (.iushr, 1) := by decide +kernel
theorem d6_47 : decode jdk_33_method_47_code 47 = .ok (.istore_n 0, 1) := by decide +kernel
theorem d6_48 : decode jdk_33_method_47_code 48 = .ok (.iload_n 0, 1) := by decide +kernel
theorem d6_49 : decode jdk_33_method_47_code 49 = .ok (.bipush 16, 2) := by decide +kernel
theorem d6_51 : decode jdk_33_method_47_code 51 = .ok (.if_icmp .lt 10, 3) := by decide +kernel
theorem d6_54 : decode jdk_33_method_47_code 54 = .ok (.iinc 1 (-4), 3) := by decide +kernel
theorem d6_57 : decode jdk_33_method_47_code 57 = .ok (.iload_n 0, 1) := by decide +kernel
theorem d6_58 : decode jdk_33_method_47_code 58 = .ok (.iconst 4, 1) := by decide +kernel
theorem d6_59 : decode jdk_33_method_47_code 59 = .ok (.iushr, 1) := by decide +kernel
theorem d6_60 : decode jdk_33_method_47_code 60 = .ok (.istore_n 0, 1) := by decide +kernel
theorem d6_61 : decode jdk_33_method_47_code 61 = .ok (.iload_n 0, 1) := by decide +kernel
theorem d6_62 : decode jdk_33_method_47_code 62 = .ok (.iconst 4, 1) := by decide +kernel
theorem d6_63 : decode jdk_33_method_47_code 63 = .ok (.if_icmp .lt 10, 3) := by decide +kernel
theorem d6_66 : decode jdk_33_method_47_code 66 = .ok (.iinc 1 (-2), 3) := by decide +kernel
theorem d6_69 : decode jdk_33_method_47_code 69 = .ok (.iload_n 0, 1) := by decide +kernel
theorem d6_70 : decode jdk_33_method_47_code 70 = .ok (.iconst 2, 1) := by decide +kernel
theorem d6_71 : decode jdk_33_method_47_code 71 = .ok (.iushr, 1) := by decide +kernel
theorem d6_72 : decode jdk_33_method_47_code 72 = .ok (.istore_n 0, 1) := by decide +kernel
theorem d6_73 : decode jdk_33_method_47_code 73 = .ok (.iload_n 1, 1) := by decide +kernel
theorem d6_74 : decode jdk_33_method_47_code 74 = .ok (.iload_n 0, 1) := by decide +kernel
theorem d6_75 : decode jdk_33_method_47_code 75 = .ok (.iconst 1, 1) := by decide +kernel
theorem d6_76 : decode jdk_33_method_47_code 76 = .ok (.iushr, 1) := by decide +kernel
theorem d6_77 : decode jdk_33_method_47_code 77 = .ok (.isub, 1) := by decide +kernel
theorem d6_78 : decode jdk_33_method_47_code 78 = .ok (.ireturn, 1) := by decide +kernel
def f6 (p0 : Int32) : Int32 := (if (0 : Int32) < p0 then (let z5 : Int32 := (if p0 < (65536 : Int32) then p0 else (let z5 : Int32 := (((p0).toUInt32 >>> ((16 : Int32) &&& 31).toUInt32).toInt32); z5)); let z6 : Int32 := (if p0 < (65536 : Int32) then (31 : Int32) else (let z5 : Int32 := (((p0).toUInt32 >>> ((16 : Int32) &&& 31).toUInt32).toInt32); ((31 : Int32) + (-16 : Int32)))); (let z10 : Int32 := (if z5 < (256 : Int32) then z5 else (let z10 : Int32 := (((z5).toUInt32 >>> ((8 : Int32) &&& 31).toUInt32).toInt32); z10)); let z11 : Int32 := (if z5 < (256 : Int32) then z6 else (let z10 : Int32 := (((z5).toUInt32 >>> ((8 : Int32) &&& 31).toUInt32).toInt32); (z6 + (-8 : Int32)))); (let z15 : Int32 := (if z10 < (16 : Int32) then z10 else (let z15 : Int32 := (((z10).toUInt32 >>> ((4 : Int32) &&& 31).toUInt32).toInt32); z15)); let z16 : Int32 := (if z10 < (16 : Int32) then z11 else (let z15 : Int32 := (((z10).toUInt32 >>> ((4 : Int32) &&& 31).toUInt32).toInt32); (z11 + (-4 : Int32)))); (let z20 : Int32 := (if z15 < (4 : Int32) then z15 else (let z20 : Int32 := (((z15).toUInt32 >>> ((2 : Int32) &&& 31).toUInt32).toInt32); z20)); let z21 : Int32 := (if z15 < (4 : Int32) then z16 else (let z20 : Int32 := (((z15).toUInt32 >>> ((2 : Int32) &&& 31).toUInt32).toInt32); (z16 + (-2 : Int32)))); (z21 - (((z20).toUInt32 >>> ((1 : Int32) &&& 31).toUInt32).toInt32)))))) else (let z66 : Int32 := (if p0 = (0 : Int32) then (32 : Int32) else (0 : Int32)); z66))
def Q6 (p0 : Int32) (h0 : Heap) (n0 : Nat) (v : Option Value) (h : Heap) (L : List Loc) : Prop := v = some (.int (f6 p0)) ∧ Fr n0 L ∧ h = h0
abbrev rmm6 : Room := { frames := 0, cells := 0, slots := 0, locals := 0 }
abbrev P6 (p0 : Int32) (h0 : Heap) (n0 : Nat) (s : State) : Outcome → State → Prop := fun o U' => ∃ v L, o = .returned v ∧ Q6 p0 h0 n0 v U'.heap L ∧ FrameEnd s o U' L rmm6.cells rmm6.slots
theorem pn_6 : plainName "java/lang/Integer" = true := by first | (simp [plainName, overriddenIn]; done) | decide +kernel
theorem ef_6 (m : MethodId) (p0 : Int32) : entryFrame m #[(.int p0)] 2 = mkF m 0 #[.val (.int p0), .unset] [] := by first | (simp [entryFrame, mkF, argsToLocals, Value.category]; done) | rfl
set_option maxRecDepth 65536 in
set_option maxHeartbeats 40000000 in
theorem rm6 (l : Launch) (Z : State) (a0 : Array Value) (hw : ∀ d ∈ tables_1, d.before a0 Z = true) (ws : List Jvm.Cond) (p0 : Int32) (h0 : Heap) (n0 : Nat) :
    MetFree l (⟨"java/lang/Integer", "numberOfLeadingZeros", "(I)I"⟩ : MethodName) (head1 (Jvm.Cond.code (⟨"java/lang/Integer", "numberOfLeadingZeros", "(I)I"⟩ : MethodName) jdk_33_method_47_code 2 (some .int) :: ws) rmm6) (fun a U => a = #[(.int p0)] ∧ Z.Warmed39 U.vm ∧ U.heap = h0) (fun _ _ _ _ _ => True) (fun _ U o U' => ∃ v L, o = .returned v ∧ Q6 p0 h0 n0 v U'.heap L ∧ FrameEnd U o U' L rmm6.cells rmm6.slots) := by
  refine MetFree.of_bodySF (plainFor_of_name pn_6) hisR ?_
  intro p e s m args below meth c s₁ Bd hml0 hP hK
  obtain ⟨rfl, hZ, hh⟩ := hP
  have hx := Bd.exec
  have hby := Bd.bytes
  have hml : c.maxLocals = 2 := hml0
  have hown : s.vm.findClass "java/lang/Integer" = some m.cls := findClass_of_methodNamed Bd.named
  have hnm := (name_of_methodNamed Bd.named Bd.method).1
  have X0 : Stand p l e rmm6 s m #[(.int p0)] below meth c s₁ [] 0 0 := Stand.of_body Bd
  have e0 : s₁.heap = h0 := by rw [← hh, Bd.state]; rfl
  have N0 := Fr.nil n0
  show Go p.tables e below (P6 p0 h0 n0 s) (s₁.setTop (entryFrame m #[(.int p0)] 2))
  refine Go.back (fun t k => castTop (ef_6 m p0) k) ?_
  show Go p.tables e below (P6 p0 h0 n0 s) (s₁.setTop (mkF m 0 #[.val (.int p0), .unset] []))
  have hf : f6 p0 = (if (0 : Int32) < p0 then (let z5 : Int32 := (if p0 < (65536 : Int32) then p0 else (let z5 : Int32 := (((p0).toUInt32 >>> ((16 : Int32) &&& 31).toUInt32).toInt32); z5)); let z6 : Int32 := (if p0 < (65536 : Int32) then (31 : Int32) else (let z5 : Int32 := (((p0).toUInt32 >>> ((16 : Int32) &&& 31).toUInt32).toInt32); ((31 : Int32) + (-16 : Int32)))); (let z10 : Int32 := (if z5 < (256 : Int32) then z5 else (let z10 : Int32 := (((z5).toUInt32 >>> ((8 : Int32) &&& 31).toUInt32).toInt32); z10)); let z11 : Int32 := (if z5 < (256 : Int32) then z6 else (let z10 : Int32 := (((z5).toUInt32 >>> ((8 : Int32) &&& 31).toUInt32).toInt32); (z6 + (-8 : Int32)))); (let z15 : Int32 := (if z10 < (16 : Int32) then z10 else (let z15 : Int32 := (((z10).toUInt32 >>> ((4 : Int32) &&& 31).toUInt32).toInt32); z15)); let z16 : Int32 := (if z10 < (16 : Int32) then z11 else (let z15 : Int32 := (((z10).toUInt32 >>> ((4 : Int32) &&& 31).toUInt32).toInt32); (z11 + (-4 : Int32)))); (let z20 : Int32 := (if z15 < (4 : Int32) then z15 else (let z20 : Int32 := (((z15).toUInt32 >>> ((2 : Int32) &&& 31).toUInt32).toInt32); z20)); let z21 : Int32 := (if z15 < (4 : Int32) then z16 else (let z20 : Int32 := (((z15).toUInt32 >>> ((2 : Int32) &&& 31).toUInt32).toInt32); (z16 + (-2 : Int32)))); (z21 - (((z20).toUInt32 >>> ((1 : Int32) &&& 31).toUInt32).toInt32)))))) else (let z66 : Int32 := (if p0 = (0 : Int32) then (32 : Int32) else (0 : Int32)); z66)) := rfl
  refine Go.back (fun t k => XS.iloadN X0.here hx rfl (hb hby d6_0) rfl  k) ?_
  show Go p.tables e below (P6 p0 h0 n0 s) (s₁.setTop (mkF m 1 #[.val (.int p0), .unset] [(.int p0)]))
  by_cases hc1 : (0 : Int32) < p0
  · have r2 := hf.trans (if_pos hc1)
    refine Go.back (fun t k => XS.ifYes X0.here hx rfl (pc0 := 1) (pc' := 15) rfl (hb hby d6_1) rfl ((if0 _ _).trans (tlt hc1).2.2.1) (by decide) (by decide) k) ?_
    show Go p.tables e below (P6 p0 h0 n0 s) (s₁.setTop (mkF m 15 #[.val (.int p0), .unset] []))
    refine Go.back (fun t k => XS.bipush X0.here hx rfl (hb hby d6_15) k) ?_
    show Go p.tables e below (P6 p0 h0 n0 s) (s₁.setTop (mkF m 17 #[.val (.int p0), .unset] [(.int (31 : Int32))]))
    refine Go.back (fun t k => XS.istoreN X0.here hx rfl (hb hby d6_17) rfl (l' := #[.val (.int p0), .val (.int (31 : Int32))]) rfl k) ?_
    show Go p.tables e below (P6 p0 h0 n0 s) (s₁.setTop (mkF m 18 #[.val (.int p0), .val (.int (31 : Int32))] []))
    refine Go.back (fun t k => XS.iloadN X0.here hx rfl (hb hby d6_18) rfl  k) ?_
    show Go p.tables e below (P6 p0 h0 n0 s) (s₁.setTop (mkF m 19 #[.val (.int p0), .val (.int (31 : Int32))] [(.int p0)]))
    refine Go.back (fun t k => X0.ldcwInt hx hown (mvT hZ (hw _ (List.mem_of_getElem? (i := 35) rfl))) (g := (mkF m 19 #[.val (.int p0), .val (.int (31 : Int32))] [(.int p0)])) rfl (hb hby d6_19) t k) ?_
    show Go p.tables e below (P6 p0 h0 n0 s) (s₁.setTop (mkF m 22 #[.val (.int p0), .val (.int (31 : Int32))] [(.int (65536 : Int32)), (.int p0)]))
    have J4 : ∀ (z5 : Int32) (z6 : Int32) (hz5 : z5 = (if p0 < (65536 : Int32) then p0 else (let z5 : Int32 := (((p0).toUInt32 >>> ((16 : Int32) &&& 31).toUInt32).toInt32); z5))) (hz6 : z6 = (if p0 < (65536 : Int32) then (31 : Int32) else (let z5 : Int32 := (((p0).toUInt32 >>> ((16 : Int32) &&& 31).toUInt32).toInt32); ((31 : Int32) + (-16 : Int32))))), Go p.tables e below (P6 p0 h0 n0 s) (s₁.setTop (mkF m 33 #[.val (.int z5), .val (.int z6)] [])) := by
      intro z5 z6 hz5 hz6
      have r7 : f6 p0 = (let z10 : Int32 := (if z5 < (256 : Int32) then z5 else (let z10 : Int32 := (((z5).toUInt32 >>> ((8 : Int32) &&& 31).toUInt32).toInt32); z10)); let z11 : Int32 := (if z5 < (256 : Int32) then z6 else (let z10 : Int32 := (((z5).toUInt32 >>> ((8 : Int32) &&& 31).toUInt32).toInt32); (z6 + (-8 : Int32)))); (let z15 : Int32 := (if z10 < (16 : Int32) then z10 else (let z15 : Int32 := (((z10).toUInt32 >>> ((4 : Int32) &&& 31).toUInt32).toInt32); z15)); let z16 : Int32 := (if z10 < (16 : Int32) then z11 else (let z15 : Int32 := (((z10).toUInt32 >>> ((4 : Int32) &&& 31).toUInt32).toInt32); (z11 + (-4 : Int32)))); (let z20 : Int32 := (if z15 < (4 : Int32) then z15 else (let z20 : Int32 := (((z15).toUInt32 >>> ((2 : Int32) &&& 31).toUInt32).toInt32); z20)); let z21 : Int32 := (if z15 < (4 : Int32) then z16 else (let z20 : Int32 := (((z15).toUInt32 >>> ((2 : Int32) &&& 31).toUInt32).toInt32); (z16 + (-2 : Int32)))); (z21 - (((z20).toUInt32 >>> ((1 : Int32) &&& 31).toUInt32).toInt32))))) := by subst hz6; subst hz5; exact r2
      show Go p.tables e below (P6 p0 h0 n0 s) (s₁.setTop (mkF m 33 #[.val (.int z5), .val (.int z6)] []))
      refine Go.back (fun t k => XS.iloadN X0.here hx rfl (hb hby d6_33) rfl  k) ?_
      show Go p.tables e below (P6 p0 h0 n0 s) (s₁.setTop (mkF m 34 #[.val (.int z5), .val (.int z6)] [(.int z5)]))
      refine Go.back (fun t k => XS.sipush X0.here hx rfl (hb hby d6_34) k) ?_
      show Go p.tables e below (P6 p0 h0 n0 s) (s₁.setTop (mkF m 37 #[.val (.int z5), .val (.int z6)] [(.int (256 : Int32)), (.int z5)]))
      have J9 : ∀ (z10 : Int32) (z11 : Int32) (hz10 : z10 = (if z5 < (256 : Int32) then z5 else (let z10 : Int32 := (((z5).toUInt32 >>> ((8 : Int32) &&& 31).toUInt32).toInt32); z10))) (hz11 : z11 = (if z5 < (256 : Int32) then z6 else (let z10 : Int32 := (((z5).toUInt32 >>> ((8 : Int32) &&& 31).toUInt32).toInt32); (z6 + (-8 : Int32))))), Go p.tables e below (P6 p0 h0 n0 s) (s₁.setTop (mkF m 48 #[.val (.int z10), .val (.int z11)] [])) := by
        intro z10 z11 hz10 hz11
        have r12 : f6 p0 = (let z15 : Int32 := (if z10 < (16 : Int32) then z10 else (let z15 : Int32 := (((z10).toUInt32 >>> ((4 : Int32) &&& 31).toUInt32).toInt32); z15)); let z16 : Int32 := (if z10 < (16 : Int32) then z11 else (let z15 : Int32 := (((z10).toUInt32 >>> ((4 : Int32) &&& 31).toUInt32).toInt32); (z11 + (-4 : Int32)))); (let z20 : Int32 := (if z15 < (4 : Int32) then z15 else (let z20 : Int32 := (((z15).toUInt32 >>> ((2 : Int32) &&& 31).toUInt32).toInt32); z20)); let z21 : Int32 := (if z15 < (4 : Int32) then z16 else (let z20 : Int32 := (((z15).toUInt32 >>> ((2 : Int32) &&& 31).toUInt32).toInt32); (z16 + (-2 : Int32)))); (z21 - (((z20).toUInt32 >>> ((1 : Int32) &&& 31).toUInt32).toInt32)))) := by subst hz11; subst hz10; exact r7
        show Go p.tables e below (P6 p0 h0 n0 s) (s₁.setTop (mkF m 48 #[.val (.int z10), .val (.int z11)] []))
        refine Go.back (fun t k => XS.iloadN X0.here hx rfl (hb hby d6_48) rfl  k) ?_
        show Go p.tables e below (P6 p0 h0 n0 s) (s₁.setTop (mkF m 49 #[.val (.int z10), .val (.int z11)] [(.int z10)]))
        refine Go.back (fun t k => XS.bipush X0.here hx rfl (hb hby d6_49) k) ?_
        show Go p.tables e below (P6 p0 h0 n0 s) (s₁.setTop (mkF m 51 #[.val (.int z10), .val (.int z11)] [(.int (16 : Int32)), (.int z10)]))
        have J14 : ∀ (z15 : Int32) (z16 : Int32) (hz15 : z15 = (if z10 < (16 : Int32) then z10 else (let z15 : Int32 := (((z10).toUInt32 >>> ((4 : Int32) &&& 31).toUInt32).toInt32); z15))) (hz16 : z16 = (if z10 < (16 : Int32) then z11 else (let z15 : Int32 := (((z10).toUInt32 >>> ((4 : Int32) &&& 31).toUInt32).toInt32); (z11 + (-4 : Int32))))), Go p.tables e below (P6 p0 h0 n0 s) (s₁.setTop (mkF m 61 #[.val (.int z15), .val (.int z16)] [])) := by
          intro z15 z16 hz15 hz16
          have r17 : f6 p0 = (let z20 : Int32 := (if z15 < (4 : Int32) then z15 else (let z20 : Int32 := (((z15).toUInt32 >>> ((2 : Int32) &&& 31).toUInt32).toInt32); z20)); let z21 : Int32 := (if z15 < (4 : Int32) then z16 else (let z20 : Int32 := (((z15).toUInt32 >>> ((2 : Int32) &&& 31).toUInt32).toInt32); (z16 + (-2 : Int32)))); (z21 - (((z20).toUInt32 >>> ((1 : Int32) &&& 31).toUInt32).toInt32))) := by subst hz16; subst hz15; exact r12
          show Go p.tables e below (P6 p0 h0 n0 s) (s₁.setTop (mkF m 61 #[.val (.int z15), .val (.int z16)] []))
          refine Go.back (fun t k => XS.iloadN X0.here hx rfl (hb hby d6_61) rfl  k) ?_
          show Go p.tables e below (P6 p0 h0 n0 s) (s₁.setTop (mkF m 62 #[.val (.int z15), .val (.int z16)] [(.int z15)]))
          refine Go.back (fun t k => XS.iconst X0.here hx rfl (hb hby d6_62) k) ?_
          show Go p.tables e below (P6 p0 h0 n0 s) (s₁.setTop (mkF m 63 #[.val (.int z15), .val (.int z16)] [(.int (4 : Int32)), (.int z15)]))
          have J19 : ∀ (z20 : Int32) (z21 : Int32) (hz20 : z20 = (if z15 < (4 : Int32) then z15 else (let z20 : Int32 := (((z15).toUInt32 >>> ((2 : Int32) &&& 31).toUInt32).toInt32); z20))) (hz21 : z21 = (if z15 < (4 : Int32) then z16 else (let z20 : Int32 := (((z15).toUInt32 >>> ((2 : Int32) &&& 31).toUInt32).toInt32); (z16 + (-2 : Int32))))), Go p.tables e below (P6 p0 h0 n0 s) (s₁.setTop (mkF m 73 #[.val (.int z20), .val (.int z21)] [])) := by
            intro z20 z21 hz20 hz21
            have r22 : f6 p0 = (z21 - (((z20).toUInt32 >>> ((1 : Int32) &&& 31).toUInt32).toInt32)) := by subst hz21; subst hz20; exact r17
            show Go p.tables e below (P6 p0 h0 n0 s) (s₁.setTop (mkF m 73 #[.val (.int z20), .val (.int z21)] []))
            refine Go.back (fun t k => XS.iloadN X0.here hx rfl (hb hby d6_73) rfl  k) ?_
            show Go p.tables e below (P6 p0 h0 n0 s) (s₁.setTop (mkF m 74 #[.val (.int z20), .val (.int z21)] [(.int z21)]))
            refine Go.back (fun t k => XS.iloadN X0.here hx rfl (hb hby d6_74) rfl  k) ?_
            show Go p.tables e below (P6 p0 h0 n0 s) (s₁.setTop (mkF m 75 #[.val (.int z20), .val (.int z21)] [(.int z20), (.int z21)]))
            refine Go.back (fun t k => XS.iconst X0.here hx rfl (hb hby d6_75) k) ?_
            show Go p.tables e below (P6 p0 h0 n0 s) (s₁.setTop (mkF m 76 #[.val (.int z20), .val (.int z21)] [(.int (1 : Int32)), (.int z20), (.int z21)]))
            refine Go.back (fun t k => XS.iushr X0.here hx rfl (hb hby d6_76) rfl k) ?_
            show Go p.tables e below (P6 p0 h0 n0 s) (s₁.setTop (mkF m 77 #[.val (.int z20), .val (.int z21)] [(.int (((z20).toUInt32 >>> ((1 : Int32) &&& 31).toUInt32).toInt32)), (.int z21)]))
            refine Go.back (fun t k => XS.isub X0.here hx rfl (hb hby d6_77) rfl k) ?_
            show Go p.tables e below (P6 p0 h0 n0 s) (s₁.setTop (mkF m 78 #[.val (.int z20), .val (.int z21)] [(.int (z21 - (((z20).toUInt32 >>> ((1 : Int32) &&& 31).toUInt32).toInt32)))]))
            exact Go.retI X0 hx Bd.returns (hb hby d6_78) Bd.notSynchronized ⟨by rw [r22], N0, e0⟩ (by decide) (by decide)
          have r23 : (if z15 < (4 : Int32) then z15 else (let z20 : Int32 := (((z15).toUInt32 >>> ((2 : Int32) &&& 31).toUInt32).toInt32); z20)) = (if z15 < (4 : Int32) then z15 else (let z20 : Int32 := (((z15).toUInt32 >>> ((2 : Int32) &&& 31).toUInt32).toInt32); z20)) := rfl
          have r24 : (if z15 < (4 : Int32) then z16 else (let z20 : Int32 := (((z15).toUInt32 >>> ((2 : Int32) &&& 31).toUInt32).toInt32); (z16 + (-2 : Int32)))) = (if z15 < (4 : Int32) then z16 else (let z20 : Int32 := (((z15).toUInt32 >>> ((2 : Int32) &&& 31).toUInt32).toInt32); (z16 + (-2 : Int32)))) := rfl
          by_cases hc18 : z15 < (4 : Int32)
          · have r25 := r23.trans (if_pos hc18)
            have r26 := r24.trans (if_pos hc18)
            refine Go.back (fun t k => XS.icmpYes X0.here hx rfl (pc0 := 63) (pc' := 73) rfl (hb hby d6_63) rfl (tlt hc18).1 (by decide) (by decide) k) ?_
            show Go p.tables e below (P6 p0 h0 n0 s) (s₁.setTop (mkF m 73 #[.val (.int z15), .val (.int z16)] []))
            exact J19 z15 z16 r25.symm r26.symm
          · have r27 := r23.trans (if_neg hc18)
            have r28 := r24.trans (if_neg hc18)
            refine Go.back (fun t k => XS.icmpNo X0.here hx rfl (hb hby d6_63) rfl (flt hc18).1 k) ?_
            show Go p.tables e below (P6 p0 h0 n0 s) (s₁.setTop (mkF m 66 #[.val (.int z15), .val (.int z16)] []))
            refine Go.back (fun t k => XS.iinc X0.here hx rfl (hb hby d6_66) rfl (l' := #[.val (.int z15), .val (.int (z16 + (-2 : Int32)))]) rfl k) ?_
            show Go p.tables e below (P6 p0 h0 n0 s) (s₁.setTop (mkF m 69 #[.val (.int z15), .val (.int (z16 + (-2 : Int32)))] []))
            refine Go.back (fun t k => XS.iloadN X0.here hx rfl (hb hby d6_69) rfl  k) ?_
            show Go p.tables e below (P6 p0 h0 n0 s) (s₁.setTop (mkF m 70 #[.val (.int z15), .val (.int (z16 + (-2 : Int32)))] [(.int z15)]))
            refine Go.back (fun t k => XS.iconst X0.here hx rfl (hb hby d6_70) k) ?_
            show Go p.tables e below (P6 p0 h0 n0 s) (s₁.setTop (mkF m 71 #[.val (.int z15), .val (.int (z16 + (-2 : Int32)))] [(.int (2 : Int32)), (.int z15)]))
            refine Go.back (fun t k => XS.iushr X0.here hx rfl (hb hby d6_71) rfl k) ?_
            show Go p.tables e below (P6 p0 h0 n0 s) (s₁.setTop (mkF m 72 #[.val (.int z15), .val (.int (z16 + (-2 : Int32)))] [(.int (((z15).toUInt32 >>> ((2 : Int32) &&& 31).toUInt32).toInt32))]))
            refine Go.back (fun t k => XS.istoreN X0.here hx rfl (hb hby d6_72) rfl (l' := #[.val (.int (((z15).toUInt32 >>> ((2 : Int32) &&& 31).toUInt32).toInt32)), .val (.int (z16 + (-2 : Int32)))]) rfl k) ?_
            show Go p.tables e below (P6 p0 h0 n0 s) (s₁.setTop (mkF m 73 #[.val (.int (((z15).toUInt32 >>> ((2 : Int32) &&& 31).toUInt32).toInt32)), .val (.int (z16 + (-2 : Int32)))] []))
            have J29 : ∀ (z30 : Int32) (hz30 : z30 = (((z15).toUInt32 >>> ((2 : Int32) &&& 31).toUInt32).toInt32)), Go p.tables e below (P6 p0 h0 n0 s) (s₁.setTop (mkF m 73 #[.val (.int z30), .val (.int (z16 + (-2 : Int32)))] [])) := by
              intro z30 hz30
              have r31 : (if z15 < (4 : Int32) then z15 else (let z20 : Int32 := (((z15).toUInt32 >>> ((2 : Int32) &&& 31).toUInt32).toInt32); z20)) = z30 := by subst hz30; exact r27
              have r32 : (if z15 < (4 : Int32) then z16 else (let z20 : Int32 := (((z15).toUInt32 >>> ((2 : Int32) &&& 31).toUInt32).toInt32); (z16 + (-2 : Int32)))) = (z16 + (-2 : Int32)) := by subst hz30; exact r28
              show Go p.tables e below (P6 p0 h0 n0 s) (s₁.setTop (mkF m 73 #[.val (.int z30), .val (.int (z16 + (-2 : Int32)))] []))
              exact J19 z30 (z16 + (-2 : Int32)) r31.symm r32.symm
            exact J29 _ rfl
        have r33 : (if z10 < (16 : Int32) then z10 else (let z15 : Int32 := (((z10).toUInt32 >>> ((4 : Int32) &&& 31).toUInt32).toInt32); z15)) = (if z10 < (16 : Int32) then z10 else (let z15 : Int32 := (((z10).toUInt32 >>> ((4 : Int32) &&& 31).toUInt32).toInt32); z15)) := rfl
        have r34 : (if z10 < (16 : Int32) then z11 else (let z15 : Int32 := (((z10).toUInt32 >>> ((4 : Int32) &&& 31).toUInt32).toInt32); (z11 + (-4 : Int32)))) = (if z10 < (16 : Int32) then z11 else (let z15 : Int32 := (((z10).toUInt32 >>> ((4 : Int32) &&& 31).toUInt32).toInt32); (z11 + (-4 : Int32)))) := rfl
        by_cases hc13 : z10 < (16 : Int32)
        · have r35 := r33.trans (if_pos hc13)
          have r36 := r34.trans (if_pos hc13)
          refine Go.back (fun t k => XS.icmpYes X0.here hx rfl (pc0 := 51) (pc' := 61) rfl (hb hby d6_51) rfl (tlt hc13).1 (by decide) (by decide) k) ?_
          show Go p.tables e below (P6 p0 h0 n0 s) (s₁.setTop (mkF m 61 #[.val (.int z10), .val (.int z11)] []))
          exact J14 z10 z11 r35.symm r36.symm
        · have r37 := r33.trans (if_neg hc13)
          have r38 := r34.trans (if_neg hc13)
          refine Go.back (fun t k => XS.icmpNo X0.here hx rfl (hb hby d6_51) rfl (flt hc13).1 k) ?_
          show Go p.tables e below (P6 p0 h0 n0 s) (s₁.setTop (mkF m 54 #[.val (.int z10), .val (.int z11)] []))
          refine Go.back (fun t k => XS.iinc X0.here hx rfl (hb hby d6_54) rfl (l' := #[.val (.int z10), .val (.int (z11 + (-4 : Int32)))]) rfl k) ?_
          show Go p.tables e below (P6 p0 h0 n0 s) (s₁.setTop (mkF m 57 #[.val (.int z10), .val (.int (z11 + (-4 : Int32)))] []))
          refine Go.back (fun t k => XS.iloadN X0.here hx rfl (hb hby d6_57) rfl  k) ?_
          show Go p.tables e below (P6 p0 h0 n0 s) (s₁.setTop (mkF m 58 #[.val (.int z10), .val (.int (z11 + (-4 : Int32)))] [(.int z10)]))
          refine Go.back (fun t k => XS.iconst X0.here hx rfl (hb hby d6_58) k) ?_
          show Go p.tables e below (P6 p0 h0 n0 s) (s₁.setTop (mkF m 59 #[.val (.int z10), .val (.int (z11 + (-4 : Int32)))] [(.int (4 : Int32)), (.int z10)]))
          refine Go.back (fun t k => XS.iushr X0.here hx rfl (hb hby d6_59) rfl k) ?_
          show Go p.tables e below (P6 p0 h0 n0 s) (s₁.setTop (mkF m 60 #[.val (.int z10), .val (.int (z11 + (-4 : Int32)))] [(.int (((z10).toUInt32 >>> ((4 : Int32) &&& 31).toUInt32).toInt32))]))
          refine Go.back (fun t k => XS.istoreN X0.here hx rfl (hb hby d6_60) rfl (l' := #[.val (.int (((z10).toUInt32 >>> ((4 : Int32) &&& 31).toUInt32).toInt32)), .val (.int (z11 + (-4 : Int32)))]) rfl k) ?_
          show Go p.tables e below (P6 p0 h0 n0 s) (s₁.setTop (mkF m 61 #[.val (.int (((z10).toUInt32 >>> ((4 : Int32) &&& 31).toUInt32).toInt32)), .val (.int (z11 + (-4 : Int32)))] []))
          have J39 : ∀ (z40 : Int32) (hz40 : z40 = (((z10).toUInt32 >>> ((4 : Int32) &&& 31).toUInt32).toInt32)), Go p.tables e below (P6 p0 h0 n0 s) (s₁.setTop (mkF m 61 #[.val (.int z40), .val (.int (z11 + (-4 : Int32)))] [])) := by
            intro z40 hz40
            have r41 : (if z10 < (16 : Int32) then z10 else (let z15 : Int32 := (((z10).toUInt32 >>> ((4 : Int32) &&& 31).toUInt32).toInt32); z15)) = z40 := by subst hz40; exact r37
            have r42 : (if z10 < (16 : Int32) then z11 else (let z15 : Int32 := (((z10).toUInt32 >>> ((4 : Int32) &&& 31).toUInt32).toInt32); (z11 + (-4 : Int32)))) = (z11 + (-4 : Int32)) := by subst hz40; exact r38
            show Go p.tables e below (P6 p0 h0 n0 s) (s₁.setTop (mkF m 61 #[.val (.int z40), .val (.int (z11 + (-4 : Int32)))] []))
            exact J14 z40 (z11 + (-4 : Int32)) r41.symm r42.symm
          exact J39 _ rfl
      have r43 : (if z5 < (256 : Int32) then z5 else (let z10 : Int32 := (((z5).toUInt32 >>> ((8 : Int32) &&& 31).toUInt32).toInt32); z10)) = (if z5 < (256 : Int32) then z5 else (let z10 : Int32 := (((z5).toUInt32 >>> ((8 : Int32) &&& 31).toUInt32).toInt32); z10)) := rfl
      have r44 : (if z5 < (256 : Int32) then z6 else (let z10 : Int32 := (((z5).toUInt32 >>> ((8 : Int32) &&& 31).toUInt32).toInt32); (z6 + (-8 : Int32)))) = (if z5 < (256 : Int32) then z6 else (let z10 : Int32 := (((z5).toUInt32 >>> ((8 : Int32) &&& 31).toUInt32).toInt32); (z6 + (-8 : Int32)))) := rfl
      by_cases hc8 : z5 < (256 : Int32)
      · have r45 := r43.trans (if_pos hc8)
        have r46 := r44.trans (if_pos hc8)
        refine Go.back (fun t k => XS.icmpYes X0.here hx rfl (pc0 := 37) (pc' := 48) rfl (hb hby d6_37) rfl (tlt hc8).1 (by decide) (by decide) k) ?_
        show Go p.tables e below (P6 p0 h0 n0 s) (s₁.setTop (mkF m 48 #[.val (.int z5), .val (.int z6)] []))
        exact J9 z5 z6 r45.symm r46.symm
      · have r47 := r43.trans (if_neg hc8)
        have r48 := r44.trans (if_neg hc8)
        refine Go.back (fun t k => XS.icmpNo X0.here hx rfl (hb hby d6_37) rfl (flt hc8).1 k) ?_
        show Go p.tables e below (P6 p0 h0 n0 s) (s₁.setTop (mkF m 40 #[.val (.int z5), .val (.int z6)] []))
        refine Go.back (fun t k => XS.iinc X0.here hx rfl (hb hby d6_40) rfl (l' := #[.val (.int z5), .val (.int (z6 + (-8 : Int32)))]) rfl k) ?_
        show Go p.tables e below (P6 p0 h0 n0 s) (s₁.setTop (mkF m 43 #[.val (.int z5), .val (.int (z6 + (-8 : Int32)))] []))
        refine Go.back (fun t k => XS.iloadN X0.here hx rfl (hb hby d6_43) rfl  k) ?_
        show Go p.tables e below (P6 p0 h0 n0 s) (s₁.setTop (mkF m 44 #[.val (.int z5), .val (.int (z6 + (-8 : Int32)))] [(.int z5)]))
        refine Go.back (fun t k => XS.bipush X0.here hx rfl (hb hby d6_44) k) ?_
        show Go p.tables e below (P6 p0 h0 n0 s) (s₁.setTop (mkF m 46 #[.val (.int z5), .val (.int (z6 + (-8 : Int32)))] [(.int (8 : Int32)), (.int z5)]))
        refine Go.back (fun t k => XS.iushr X0.here hx rfl (hb hby d6_46) rfl k) ?_
        show Go p.tables e below (P6 p0 h0 n0 s) (s₁.setTop (mkF m 47 #[.val (.int z5), .val (.int (z6 + (-8 : Int32)))] [(.int (((z5).toUInt32 >>> ((8 : Int32) &&& 31).toUInt32).toInt32))]))
        refine Go.back (fun t k => XS.istoreN X0.here hx rfl (hb hby d6_47) rfl (l' := #[.val (.int (((z5).toUInt32 >>> ((8 : Int32) &&& 31).toUInt32).toInt32)), .val (.int (z6 + (-8 : Int32)))]) rfl k) ?_
        show Go p.tables e below (P6 p0 h0 n0 s) (s₁.setTop (mkF m 48 #[.val (.int (((z5).toUInt32 >>> ((8 : Int32) &&& 31).toUInt32).toInt32)), .val (.int (z6 + (-8 : Int32)))] []))
        have J49 : ∀ (z50 : Int32) (hz50 : z50 = (((z5).toUInt32 >>> ((8 : Int32) &&& 31).toUInt32).toInt32)), Go p.tables e below (P6 p0 h0 n0 s) (s₁.setTop (mkF m 48 #[.val (.int z50), .val (.int (z6 + (-8 : Int32)))] [])) := by
          intro z50 hz50
          have r51 : (if z5 < (256 : Int32) then z5 else (let z10 : Int32 := (((z5).toUInt32 >>> ((8 : Int32) &&& 31).toUInt32).toInt32); z10)) = z50 := by subst hz50; exact r47
          have r52 : (if z5 < (256 : Int32) then z6 else (let z10 : Int32 := (((z5).toUInt32 >>> ((8 : Int32) &&& 31).toUInt32).toInt32); (z6 + (-8 : Int32)))) = (z6 + (-8 : Int32)) := by subst hz50; exact r48
          show Go p.tables e below (P6 p0 h0 n0 s) (s₁.setTop (mkF m 48 #[.val (.int z50), .val (.int (z6 + (-8 : Int32)))] []))
          exact J9 z50 (z6 + (-8 : Int32)) r51.symm r52.symm
        exact J49 _ rfl
    have r53 : (if p0 < (65536 : Int32) then p0 else (let z5 : Int32 := (((p0).toUInt32 >>> ((16 : Int32) &&& 31).toUInt32).toInt32); z5)) = (if p0 < (65536 : Int32) then p0 else (let z5 : Int32 := (((p0).toUInt32 >>> ((16 : Int32) &&& 31).toUInt32).toInt32); z5)) := rfl
    have r54 : (if p0 < (65536 : Int32) then (31 : Int32) else (let z5 : Int32 := (((p0).toUInt32 >>> ((16 : Int32) &&& 31).toUInt32).toInt32); ((31 : Int32) + (-16 : Int32)))) = (if p0 < (65536 : Int32) then (31 : Int32) else (let z5 : Int32 := (((p0).toUInt32 >>> ((16 : Int32) &&& 31).toUInt32).toInt32); ((31 : Int32) + (-16 : Int32)))) := rfl
    by_cases hc3 : p0 < (65536 : Int32)
    · have r55 := r53.trans (if_pos hc3)
      have r56 := r54.trans (if_pos hc3)
      refine Go.back (fun t k => XS.icmpYes X0.here hx rfl (pc0 := 22) (pc' := 33) rfl (hb hby d6_22) rfl (tlt hc3).1 (by decide) (by decide) k) ?_
      show Go p.tables e below (P6 p0 h0 n0 s) (s₁.setTop (mkF m 33 #[.val (.int p0), .val (.int (31 : Int32))] []))
      exact J4 p0 (31 : Int32) r55.symm r56.symm
    · have r57 := r53.trans (if_neg hc3)
      have r58 := r54.trans (if_neg hc3)
      refine Go.back (fun t k => XS.icmpNo X0.here hx rfl (hb hby d6_22) rfl (flt hc3).1 k) ?_
      show Go p.tables e below (P6 p0 h0 n0 s) (s₁.setTop (mkF m 25 #[.val (.int p0), .val (.int (31 : Int32))] []))
      refine Go.back (fun t k => XS.iinc X0.here hx rfl (hb hby d6_25) rfl (l' := #[.val (.int p0), .val (.int ((31 : Int32) + (-16 : Int32)))]) rfl k) ?_
      show Go p.tables e below (P6 p0 h0 n0 s) (s₁.setTop (mkF m 28 #[.val (.int p0), .val (.int ((31 : Int32) + (-16 : Int32)))] []))
      refine Go.back (fun t k => XS.iloadN X0.here hx rfl (hb hby d6_28) rfl  k) ?_
      show Go p.tables e below (P6 p0 h0 n0 s) (s₁.setTop (mkF m 29 #[.val (.int p0), .val (.int ((31 : Int32) + (-16 : Int32)))] [(.int p0)]))
      refine Go.back (fun t k => XS.bipush X0.here hx rfl (hb hby d6_29) k) ?_
      show Go p.tables e below (P6 p0 h0 n0 s) (s₁.setTop (mkF m 31 #[.val (.int p0), .val (.int ((31 : Int32) + (-16 : Int32)))] [(.int (16 : Int32)), (.int p0)]))
      refine Go.back (fun t k => XS.iushr X0.here hx rfl (hb hby d6_31) rfl k) ?_
      show Go p.tables e below (P6 p0 h0 n0 s) (s₁.setTop (mkF m 32 #[.val (.int p0), .val (.int ((31 : Int32) + (-16 : Int32)))] [(.int (((p0).toUInt32 >>> ((16 : Int32) &&& 31).toUInt32).toInt32))]))
      refine Go.back (fun t k => XS.istoreN X0.here hx rfl (hb hby d6_32) rfl (l' := #[.val (.int (((p0).toUInt32 >>> ((16 : Int32) &&& 31).toUInt32).toInt32)), .val (.int ((31 : Int32) + (-16 : Int32)))]) rfl k) ?_
      show Go p.tables e below (P6 p0 h0 n0 s) (s₁.setTop (mkF m 33 #[.val (.int (((p0).toUInt32 >>> ((16 : Int32) &&& 31).toUInt32).toInt32)), .val (.int ((31 : Int32) + (-16 : Int32)))] []))
      have J59 : ∀ (z60 : Int32) (hz60 : z60 = (((p0).toUInt32 >>> ((16 : Int32) &&& 31).toUInt32).toInt32)), Go p.tables e below (P6 p0 h0 n0 s) (s₁.setTop (mkF m 33 #[.val (.int z60), .val (.int ((31 : Int32) + (-16 : Int32)))] [])) := by
        intro z60 hz60
        have r61 : (if p0 < (65536 : Int32) then p0 else (let z5 : Int32 := (((p0).toUInt32 >>> ((16 : Int32) &&& 31).toUInt32).toInt32); z5)) = z60 := by subst hz60; exact r57
        have r62 : (if p0 < (65536 : Int32) then (31 : Int32) else (let z5 : Int32 := (((p0).toUInt32 >>> ((16 : Int32) &&& 31).toUInt32).toInt32); ((31 : Int32) + (-16 : Int32)))) = ((31 : Int32) + (-16 : Int32)) := by subst hz60; exact r58
        show Go p.tables e below (P6 p0 h0 n0 s) (s₁.setTop (mkF m 33 #[.val (.int z60), .val (.int ((31 : Int32) + (-16 : Int32)))] []))
        exact J4 z60 ((31 : Int32) + (-16 : Int32)) r61.symm r62.symm
      exact J59 _ rfl
  · have r63 := hf.trans (if_neg hc1)
    refine Go.back (fun t k => XS.ifNo X0.here hx rfl (hb hby d6_1) rfl ((if0 _ _).trans (flt hc1).2.2.1) k) ?_
    show Go p.tables e below (P6 p0 h0 n0 s) (s₁.setTop (mkF m 4 #[.val (.int p0), .unset] []))
    refine Go.back (fun t k => XS.iloadN X0.here hx rfl (hb hby d6_4) rfl  k) ?_
    show Go p.tables e below (P6 p0 h0 n0 s) (s₁.setTop (mkF m 5 #[.val (.int p0), .unset] [(.int p0)]))
    have J65 : ∀ (z66 : Int32) (hz66 : z66 = (if p0 = (0 : Int32) then (32 : Int32) else (0 : Int32))), Go p.tables e below (P6 p0 h0 n0 s) (s₁.setTop (mkF m 14 #[.val (.int p0), .unset] [(.int z66)])) := by
      intro z66 hz66
      have r67 : f6 p0 = z66 := by subst hz66; exact r63
      show Go p.tables e below (P6 p0 h0 n0 s) (s₁.setTop (mkF m 14 #[.val (.int p0), .unset] [(.int z66)]))
      exact Go.retI X0 hx Bd.returns (hb hby d6_14) Bd.notSynchronized ⟨by rw [r67], N0, e0⟩ (by decide) (by decide)
    have r68 : (if p0 = (0 : Int32) then (32 : Int32) else (0 : Int32)) = (if p0 = (0 : Int32) then (32 : Int32) else (0 : Int32)) := rfl
    by_cases hc64 : p0 = (0 : Int32)
    · have r69 := r68.trans (if_pos hc64)
      refine Go.back (fun t k => XS.ifNo X0.here hx rfl (hb hby d6_5) rfl ((if0 _ _).trans (teq hc64).2) k) ?_
      show Go p.tables e below (P6 p0 h0 n0 s) (s₁.setTop (mkF m 8 #[.val (.int p0), .unset] []))
      refine Go.back (fun t k => XS.bipush X0.here hx rfl (hb hby d6_8) k) ?_
      show Go p.tables e below (P6 p0 h0 n0 s) (s₁.setTop (mkF m 10 #[.val (.int p0), .unset] [(.int (32 : Int32))]))
      refine Go.back (fun t k => XS.goto X0.here hx rfl (pc0 := 10) (pc' := 14) rfl (hb hby d6_10) (by decide) (by decide) k) ?_
      show Go p.tables e below (P6 p0 h0 n0 s) (s₁.setTop (mkF m 14 #[.val (.int p0), .unset] [(.int (32 : Int32))]))
      exact J65 (32 : Int32) r69.symm
    · have r70 := r68.trans (if_neg hc64)
      refine Go.back (fun t k => XS.ifYes X0.here hx rfl (pc0 := 5) (pc' := 13) rfl (hb hby d6_5) rfl ((if0 _ _).trans (feq hc64).2) (by decide) (by decide) k) ?_
      show Go p.tables e below (P6 p0 h0 n0 s) (s₁.setTop (mkF m 13 #[.val (.int p0), .unset] []))
      refine Go.back (fun t k => XS.iconst X0.here hx rfl (hb hby d6_13) k) ?_
      show Go p.tables e below (P6 p0 h0 n0 s) (s₁.setTop (mkF m 14 #[.val (.int p0), .unset] [(.int (0 : Int32))]))
      exact J65 (0 : Int32) r70.symm
def own_pk (xs : List Int32) : Nat → Int32 → Int32 → Int32 → List Int32 → List Int32 → List Int64 → Int32 × List Int32 × List Int32 × List Int64
  | 0, _, w, _, W, S, M => (w, W, S, M)
  | n + 1, i, w, u, W, S, M =>
    let b : Int32 := ((32 : Int32) - (f6 (f5 (0 : Int32) ((List.getD xs (i).toNatClampNeg (0 : Int32)) - (1 : Int32)))))
    let w' : Int32 := (if (64 : Int32) < (u + b) then (w + (1 : Int32)) else w)
    let u' : Int32 := (if (64 : Int32) < (u + b) then (0 : Int32) else u)
    own_pk xs n (i + (1 : Int32)) w' (u' + b) (List.set W (i).toNatClampNeg (w' - (1 : Int32))) (List.set S (i).toNatClampNeg u') (List.set M (i).toNatClampNeg (((1 : Int64) <<< (b &&& 0x3f).toInt64) - (1 : Int64)))
def own_pkr (xs : List Int32) : Int32 × List Int32 × List Int32 × List Int64 := own_pk xs 5 (0 : Int32) (1 : Int32) (0 : Int32) [(0 : Int32), (0 : Int32), (0 : Int32), (0 : Int32), (0 : Int32)] [(0 : Int32), (0 : Int32), (0 : Int32), (0 : Int32), (0 : Int32)] [(0 : Int64), (0 : Int64), (0 : Int64), (0 : Int64), (0 : Int64)]
def own_ib (LEN : Nat) (n : Nat) (i : Int32) (W S : List Int32) (M : List Int64) : Prop := 0 ≤ i.toInt ∧ i.toInt + n = LEN ∧ LEN < 1000 ∧ W.length = LEN ∧ S.length = LEN ∧ M.length = LEN
theorem own_ib_nn {LEN n : Nat} {i : Int32} {W S : List Int32} {M : List Int64} (h : own_ib LEN (n + 1) i W S M) : ¬ i < (0 : Int32) := by
  rw [Int32.lt_iff_toInt_lt]; have := h.1; have l0 : (0 : Int32).toInt = 0 := rfl; omega
theorem own_ib_in {LEN n : Nat} {i : Int32} {W S : List Int32} {M : List Int64} (h : own_ib LEN (n + 1) i W S M) {k : Nat} (hk : k = LEN) : i.toNatClampNeg < k := by
  have := h.1; have := h.2.1; simp only [Int32.toNatClampNeg]; omega
theorem own_ib_z {LEN : Nat} {i q : Int32} {W S : List Int32} {M : List Int64} (h : own_ib LEN 0 i W S M) (hq : q.toInt = LEN) : ¬ i < q := by
  rw [Int32.lt_iff_toInt_lt]; have := h.2.1; omega
theorem own_ib_s {LEN n : Nat} {i q : Int32} {W S : List Int32} {M : List Int64} (h : own_ib LEN (n + 1) i W S M) (hq : q.toInt = LEN) : i < q := by
  rw [Int32.lt_iff_toInt_lt]; have := h.2.1; omega
theorem own_ib_next {LEN n : Nat} {i : Int32} {W S W' S' : List Int32} {M M' : List Int64} (h : own_ib LEN (n + 1) i W S M) (h1 : W'.length = W.length) (h2 : S'.length = S.length) (h3 : M'.length = M.length) : own_ib LEN n (i + (1 : Int32)) W' S' M' := by
  have e := c_iadd i 1; have r := rng32 (i + 1); have l1 : (1 : Int32).toInt = 1 := rfl
  have := h.1; have := h.2.1; have := h.2.2.1
  rw [l1] at e
  exact ⟨by omega, by omega, by omega, by rw [h1]; exact h.2.2.2.1, by rw [h2]; exact h.2.2.2.2.1, by rw [h3]; exact h.2.2.2.2.2⟩
theorem own_l0 : (0 : Int32).toInt = 0 := rfl
theorem own_l1 : (1 : Int32).toInt = 1 := rfl
def own_hI (n : Int) : Int :=
  let a : Int := if n < 65536 then n else n / 65536
  let c : Int := if n < 65536 then 31 else 31 - 16
  let a2 : Int := if a < 256 then a else a / 256
  let c2 : Int := if a < 256 then c else c - 8
  let a3 : Int := if a2 < 16 then a2 else a2 / 16
  let c3 : Int := if a2 < 16 then c2 else c2 - 4
  let a4 : Int := if a3 < 4 then a3 else a3 / 4
  let c4 : Int := if a3 < 4 then c3 else c3 - 2
  c4 - a4 / 2
theorem own_shr (x q : Int32) (k : Nat) (P : Int) (hk : q.toBitVec.toNat % 32 = k) (h0 : 0 < k) (hP : ((2 ^ k : Nat) : Int) = P) (h : 0 ≤ x.toInt) : ((x.toUInt32 >>> (q &&& 31).toUInt32).toInt32).toInt = x.toInt / P := by
  rw [c_iushr x q k hk h0, hP, Int.emod_eq_of_lt h (by have := (rng32 x).2; omega)]
theorem own_st (x q T : Int32) (k : Nat) (P : Int) (hk : q.toBitVec.toNat % 32 = k) (h0 : 0 < k) (hP : ((2 ^ k : Nat) : Int) = P) (hT : T.toInt = P) (h : 0 ≤ x.toInt) : (if x < T then x else (x.toUInt32 >>> (q &&& 31).toUInt32).toInt32).toInt = if x.toInt < P then x.toInt else x.toInt / P := by
  simp only [Int32.lt_iff_toInt_lt, hT]
  split
  · rfl
  · exact own_shr x q k P hk h0 hP h
theorem own_sc (x T c d : Int32) (P D : Int) (hT : T.toInt = P) (hd : d.toInt = -D) (hD : 0 ≤ D) (h1 : 0 ≤ c.toInt - D) : (if x < T then c else c + d).toInt = if x.toInt < P then c.toInt else c.toInt - D := by
  simp only [Int32.lt_iff_toInt_lt, hT]
  split
  · rfl
  · have e := c_iadd c d; have r := rng32 (c + d); have r2 := rng32 c; rw [hd] at e; omega
theorem own_nlz (v : Int32) (hv : 0 < v.toInt) : (f6 v).toInt = own_hI v.toInt := by
  have c0 : (0 : Int32) < v := by rw [Int32.lt_iff_toInt_lt, own_l0]; exact hv
  unfold f6 own_hI
  rw [if_pos c0]
  dsimp only
  have s1 := own_st v 16 65536 16 65536 (by decide) (by decide) rfl rfl (by omega)
  have t1 := own_sc v 65536 31 (-16) 65536 16 rfl rfl (by decide) (by decide)
  rw [show (31 : Int32).toInt = 31 from rfl] at t1
  generalize (if v < (65536 : Int32) then v else (v.toUInt32 >>> ((16 : Int32) &&& 31).toUInt32).toInt32) = x1 at *
  generalize (if v < (65536 : Int32) then (31 : Int32) else (31 : Int32) + (-16 : Int32)) = y1 at *
  have b1 : 0 ≤ x1.toInt := by rw [s1]; split <;> omega
  have s2 := own_st x1 8 256 8 256 (by decide) (by decide) rfl rfl b1
  have t2 := own_sc x1 256 y1 (-8) 256 8 rfl rfl (by decide) (by rw [t1]; split <;> omega)
  generalize (if x1 < (256 : Int32) then x1 else (x1.toUInt32 >>> ((8 : Int32) &&& 31).toUInt32).toInt32) = x2 at *
  generalize (if x1 < (256 : Int32) then y1 else y1 + (-8 : Int32)) = y2 at *
  have b2 : 0 ≤ x2.toInt := by rw [s2]; split <;> omega
  have s3 := own_st x2 4 16 4 16 (by decide) (by decide) rfl rfl b2
  have t3 := own_sc x2 16 y2 (-4) 16 4 rfl rfl (by decide) (by rw [t2, t1]; repeat' split <;> omega)
  generalize (if x2 < (16 : Int32) then x2 else (x2.toUInt32 >>> ((4 : Int32) &&& 31).toUInt32).toInt32) = x3 at *
  generalize (if x2 < (16 : Int32) then y2 else y2 + (-4 : Int32)) = y3 at *
  have b3 : 0 ≤ x3.toInt := by rw [s3]; split <;> omega
  have s4 := own_st x3 2 4 2 4 (by decide) (by decide) rfl rfl b3
  have t4 := own_sc x3 4 y3 (-2) 4 2 rfl rfl (by decide) (by rw [t3, t2, t1]; repeat' split <;> omega)
  generalize (if x3 < (4 : Int32) then x3 else (x3.toUInt32 >>> ((2 : Int32) &&& 31).toUInt32).toInt32) = x4 at *
  generalize (if x3 < (4 : Int32) then y3 else y3 + (-2 : Int32)) = y4 at *
  have b4 : 0 ≤ x4.toInt := by rw [s4]; split <;> omega
  have s5 := own_shr x4 1 1 2 (by decide) (by decide) rfl b4
  have e := c_isub y4 ((x4.toUInt32 >>> ((1 : Int32) &&& 31).toUInt32).toInt32)
  have r := rng32 (y4 - ((x4.toUInt32 >>> ((1 : Int32) &&& 31).toUInt32).toInt32))
  rw [s5] at e
  rw [← t1, ← s1, ← t2, ← s2, ← t3, ← s3, ← t4, ← s4]
  have lo : 0 ≤ y4.toInt ∧ y4.toInt ≤ 31 := by rw [t4, t3, t2, t1]; repeat' split <;> omega
  have hi := (rng32 x4).2
  omega
theorem own_hI_rng (n : Int) (h : 0 < n) (h2 : n < 2147483648) : 1 ≤ own_hI n ∧ own_hI n ≤ 31 := by
  unfold own_hI
  dsimp only
  repeat' split
  all_goals omega
theorem own_max (a : Int32) : (f5 (0 : Int32) a).toInt = if 0 < a.toInt then a.toInt else 0 := by
  unfold f5; simp only [Int32.lt_iff_toInt_lt, own_l0]; split <;> rfl
/-- the bits of a size, its least one taken off -/
def own_bw (x : Int32) : Int32 := ((32 : Int32) - (f6 (f5 (0 : Int32) (x - (1 : Int32)))))
theorem own_bw0 (x : Int32) (h : ¬ 0 < (x - (1 : Int32)).toInt) : own_bw x = (0 : Int32) := by
  have m := own_max (x - (1 : Int32))
  rw [if_neg h] at m
  have e : f5 (0 : Int32) (x - (1 : Int32)) = (0 : Int32) := Int32.toInt_inj.mp m
  unfold own_bw; rw [e]; decide +kernel
theorem own_bw1 (x : Int32) (h : 0 < (x - (1 : Int32)).toInt) : (own_bw x).toInt = 32 - own_hI (x - (1 : Int32)).toInt := by
  have m := own_max (x - (1 : Int32))
  rw [if_pos h] at m
  have n := own_nlz (f5 (0 : Int32) (x - (1 : Int32))) (by omega)
  rw [m] at n
  have g := own_hI_rng _ h (by have := (rng32 (x - (1 : Int32))).2; omega)
  unfold own_bw
  have e := c_isub (32 : Int32) (f6 (f5 (0 : Int32) (x - (1 : Int32))))
  have r := rng32 ((32 : Int32) - (f6 (f5 (0 : Int32) (x - (1 : Int32)))))
  rw [n, show (32 : Int32).toInt = 32 from rfl] at e
  omega
theorem own_bw_rng (x : Int32) : 0 ≤ (own_bw x).toInt ∧ (own_bw x).toInt ≤ 31 := by
  by_cases h : 0 < (x - (1 : Int32)).toInt
  · have g := own_hI_rng _ h (by have := (rng32 (x - (1 : Int32))).2; omega)
    rw [own_bw1 x h]; omega
  · rw [own_bw0 x h]; decide
/-- how far the packing has come behind j fields: at least two fields lie in every word that is full -/
def own_inv (j : Nat) (u w : Int32) : Prop := j ≤ 5 ∧ ((j = 0 ∧ u.toInt = 0 ∧ w.toInt = 1) ∨ ∃ k : Int, 1 ≤ k ∧ 0 ≤ u.toInt ∧ u.toInt ≤ 31 * k ∧ 1 ≤ w.toInt ∧ 2 * (w.toInt - 1) + k ≤ j)
theorem own_inv0 : own_inv 0 (0 : Int32) (1 : Int32) := ⟨by decide, Or.inl ⟨rfl, rfl, rfl⟩⟩
theorem own_inv_bd {j : Nat} {u w : Int32} (h : own_inv j u w) : 0 ≤ u.toInt ∧ u.toInt ≤ 155 ∧ 1 ≤ w.toInt ∧ 2 * w.toInt ≤ j + 2 ∧ w.toInt ≤ 3 ∧ (0 < j → 2 * w.toInt ≤ j + 1) := by
  obtain ⟨h5, h | ⟨k, h1, h2, h3, h4, h6⟩⟩ := h
  · omega
  · omega
theorem own_inv_step {j : Nat} {u w b : Int32} (h : own_inv j u w) (hb : 0 ≤ b.toInt ∧ b.toInt ≤ 31) (hj : j ≤ 4) : own_inv (j + 1) ((if (64 : Int32) < (u + b) then (0 : Int32) else u) + b) (if (64 : Int32) < (u + b) then (w + (1 : Int32)) else w) := by
  have d := own_inv_bd h
  have e := c_iadd u b; have r := rng32 (u + b)
  have eu : (u + b).toInt = u.toInt + b.toInt := by omega
  have l64 : (64 : Int32).toInt = 64 := rfl
  refine ⟨by omega, ?_⟩
  by_cases c : (64 : Int32) < (u + b)
  · simp only [if_pos c]
    rw [Int32.lt_iff_toInt_lt, l64, eu] at c
    have e0 : ((0 : Int32) + b).toInt = b.toInt := by rw [Int32.zero_add]
    have e1 := c_iadd w 1; have r1 := rng32 (w + 1); rw [own_l1] at e1
    rw [e0]
    obtain ⟨-, h | ⟨k, h1, h2, h3, h4, h6⟩⟩ := h
    · omega
    · exact Or.inr ⟨1, by omega, by omega, by omega, by omega, by omega⟩
  · simp only [if_neg c]
    rw [eu]
    obtain ⟨-, h | ⟨k, h1, h2, h3, h4, h6⟩⟩ := h
    · exact Or.inr ⟨1, by omega, by omega, by omega, by omega, by omega⟩
    · exact Or.inr ⟨k + 1, by omega, by omega, by omega, by omega, by omega⟩
theorem own_sub1 {w : Int32} (h : 1 ≤ w.toInt) : (w - (1 : Int32)).toInt = w.toInt - 1 := by
  have e := c_isub w 1; have r := rng32 (w - 1); have r2 := rng32 w; rw [own_l1] at e; omega
theorem own_pk_eq (xs : List Int32) (n : Nat) (i w u : Int32) (W S : List Int32) (M : List Int64) : own_pk xs (n + 1) i w u W S M = own_pk xs n (i + (1 : Int32)) (if (64 : Int32) < (u + own_bw (List.getD xs (i).toNatClampNeg (0 : Int32))) then (w + (1 : Int32)) else w) ((if (64 : Int32) < (u + own_bw (List.getD xs (i).toNatClampNeg (0 : Int32))) then (0 : Int32) else u) + own_bw (List.getD xs (i).toNatClampNeg (0 : Int32))) (List.set W (i).toNatClampNeg ((if (64 : Int32) < (u + own_bw (List.getD xs (i).toNatClampNeg (0 : Int32))) then (w + (1 : Int32)) else w) - (1 : Int32))) (List.set S (i).toNatClampNeg (if (64 : Int32) < (u + own_bw (List.getD xs (i).toNatClampNeg (0 : Int32))) then (0 : Int32) else u)) (List.set M (i).toNatClampNeg (((1 : Int64) <<< (own_bw (List.getD xs (i).toNatClampNeg (0 : Int32)) &&& 0x3f).toInt64) - (1 : Int64))) := rfl
theorem own_pk_zero (xs : List Int32) (i w u : Int32) (W S : List Int32) (M : List Int64) : own_pk xs 0 i w u W S M = (w, W, S, M) := rfl
theorem d3_0 : decode prog_122_method_1_code 0 = .ok (.aload_n 0, 1) := by decide +kernel
theorem d3_1 : decode prog_122_method_1_code 1 = .ok (.invokespecial 1, 3) := by decide +kernel
theorem d3_4 : decode prog_122_method_1_code 4 = .ok (.aload_n 0, 1) := by decide +kernel
theorem d3_5 : decode prog_122_method_1_code 5 = .ok (.aload_n 1, 1) := by decide +kernel
theorem d3_6 : decode prog_122_method_1_code 6 = .ok (.arraylength, 1) := by decide +kernel
theorem d3_7 : decode prog_122_method_1_code 7 = .ok (.newarray .int, 2) := by decide +kernel
theorem d3_9 : decode prog_122_method_1_code 9 = .ok (.putfield 7, 3) := by decide +kernel
theorem d3_12 : decode prog_122_method_1_code 12 = .ok (.aload_n 0, 1) := by decide +kernel
theorem d3_13 : decode prog_122_method_1_code 13 = .ok (.aload_n 1, 1) := by decide +kernel
theorem d3_14 : decode prog_122_method_1_code 14 = .ok (.arraylength, 1) := by decide +kernel
theorem d3_15 : decode prog_122_method_1_code 15 = .ok (.newarray .int, 2) := by decide +kernel
theorem d3_17 : decode prog_122_method_1_code 17 = .ok (.putfield 13, 3) := by decide +kernel
theorem d3_20 : decode prog_122_method_1_code 20 = .ok (.aload_n 0, 1) := by decide +kernel
theorem d3_21 : decode prog_122_method_1_code 21 = .ok (.aload_n 1, 1) := by decide +kernel
theorem d3_22 : decode prog_122_method_1_code 22 = .ok (.arraylength, 1) := by decide +kernel
theorem d3_23 : decode prog_122_method_1_code 23 = .ok (.newarray .long, 2) := by decide +kernel
theorem d3_25 : decode prog_122_method_1_code 25 = .ok (.putfield 16, 3) := by decide +kernel
theorem d3_28 : decode prog_122_method_1_code 28 = .ok (.iconst 1, 1) := by decide +kernel
theorem d3_29 : decode prog_122_method_1_code 29 = .ok (.istore_n 2, 1) := by decide +kernel
theorem d3_30 : decode prog_122_method_1_code 30 = .ok (.iconst 0, 1) := by decide +kernel
theorem d3_31 : decode prog_122_method_1_code 31 = .ok (.istore_n 3, 1) := by decide +kernel
theorem d3_32 : decode prog_122_method_1_code 32 = .ok (.iconst 0, 1) := by decide +kernel
theorem d3_33 : decode prog_122_method_1_code 33 = .ok (.istore 4, 2) := by decide +kernel
theorem d3_35 : decode prog_122_method_1_code 35 = .ok (.iload 4, 2) := by decide +kernel
theorem d3_37 : decode prog_122_method_1_code 37 = .ok (.aload_n 1, 1) := by decide +kernel
theorem d3_38 : decode prog_122_method_1_code 38 = .ok (.arraylength, 1) := by decide +kernel
theorem d3_39 : decode prog_122_method_1_code 39 = .ok (.if_icmp .ge 77, 3) := by decide +kernel
theorem d3_42 : decode prog_122_method_1_code 42 = .ok (.bipush 32, 2) := by decide +kernel
theorem d3_44 : decode prog_122_method_1_code 44 = .ok (.iconst 0, 1) := by decide +kernel
theorem d3_45 : decode prog_122_method_1_code 45 = .ok (.aload_n 1, 1) := by decide +kernel
theorem d3_46 : decode prog_122_method_1_code 46 = .ok (.iload 4, 2) := by decide +kernel
theorem d3_48 : decode prog_122_method_1_code 48 = .ok (.iaload, 1) := by decide +kernel
theorem d3_49 : decode prog_122_method_1_code 49 = .ok (.iconst 1, 1) := by decide +kernel
theorem d3_50 : decode prog_122_method_1_code 50 = .ok (.isub, 1) := by decide +kernel
theorem d3_51 : decode prog_122_method_1_code 51 = .ok (.invokestatic 20, 3) := by decide +kernel
theorem d3_54 : decode prog_122_method_1_code 54 = .ok (.invokestatic 26, 3) := by decide +kernel
theorem d3_57 : decode prog_122_method_1_code 57 = .ok (.isub, 1) := by decide +kernel
theorem d3_58 : decode prog_122_method_1_code 58 = .ok (.istore 5, 2) := by decide +kernel
theorem d3_60 : decode prog_122_method_1_code 60 = .ok (.iload_n 3, 1) := by decide +kernel
theorem d3_61 : decode prog_122_method_1_code 61 = .ok (.iload 5, 2) := by decide +kernel
theorem d3_63 : decode prog_122_method_1_code 63 = .ok (.iadd, 1) := by decide +kernel
theorem d3_64 : decode prog_122_method_1_code 64 = .ok (.bipush 64, 2) := by decide +kernel
theorem d3_66 : decode prog_122_method_1_code 66 = .ok (.if_icmp .le 8, 3) := by decide +kernel
theorem d3_69 : decode prog_122_method_1_code 69 = .ok (.iinc 2 1, 3) := by decide +kernel
theorem d3_72 : decode prog_122_method_1_code 72 = .ok (.iconst 0, 1) := by decide +kernel
theorem d3_73 : decode prog_122_method_1_code 73 = .ok (.istore_n 3, 1) := by decide +kernel
theorem d3_74 : decode prog_122_method_1_code 74 = .ok (.aload_n 0, 1) := by decide +kernel
theorem d3_75 : decode prog_122_method_1_code 75 = .ok (.getfield 7, 3) := by decide +kernel
theorem d3_78 : decode prog_122_method_1_code 78 = .ok (.iload 4, 2) := by decide +kernel
theorem d3_80 : decode prog_122_method_1_code 80 = .ok (.iload_n 2, 1) := by decide +kernel
theorem d3_81 : decode prog_122_method_1_code 81 = .ok (.iconst 1, 1) := by decide +kernel
theorem d3_82 : decode prog_122_method_1_code 82 = .ok (.isub, 1) := by decide +kernel
theorem d3_83 : decode prog_122_method_1_code 83 = .ok (.iastore, 1) := by decide +kernel
theorem d3_84 : decode prog_122_method_1_code 84 = .ok (.aload_n 0, 1) := by decide +kernel
theorem d3_85 : decode prog_122_method_1_code 85 = .ok (.getfield 13, 3) := by decide +kernel
theorem d3_88 : decode prog_122_method_1_code 88 = .ok (.iload 4, 2) := by decide +kernel
theorem d3_90 : decode prog_122_method_1_code 90 = .ok (.iload_n 3, 1) := by decide +kernel
theorem d3_91 : decode prog_122_method_1_code 91 = .ok (.iastore, 1) := by decide +kernel
theorem d3_92 : decode prog_122_method_1_code 92 = .ok (.aload_n 0, 1) := by decide +kernel
theorem d3_93 : decode prog_122_method_1_code 93 = .ok (.getfield 16, 3) := by decide +kernel
theorem d3_96 : decode prog_122_method_1_code 96 = .ok (.iload 4, 2) := by decide +kernel
theorem d3_98 : decode prog_122_method_1_code 98 = .ok (.lconst 1, 1) := by decide +kernel
theorem d3_99 : decode prog_122_method_1_code 99 = .ok (.iload 5, 2) := by decide +kernel
theorem d3_101 : decode prog_122_method_1_code 101 = .ok (.lshl, 1) := by decide +kernel
theorem d3_102 : decode prog_122_method_1_code 102 = .ok (.lconst 1, 1) := by decide +kernel
theorem d3_103 : decode prog_122_method_1_code 103 = .ok (.lsub, 1) := by decide +kernel
theorem d3_104 : decode prog_122_method_1_code 104 = .ok (.lastore, 1) := by decide +kernel
theorem d3_105 : decode prog_122_method_1_code 105 = .ok (.iload_n 3, 1) := by decide +kernel
theorem d3_106 : decode prog_122_method_1_code 106 = .ok (.iload 5, 2) := by decide +kernel
theorem d3_108 : decode prog_122_method_1_code 108 = .ok (.iadd, 1) := by decide +kernel
theorem d3_109 : decode prog_122_method_1_code 109 = .ok (.istore_n 3, 1) := by decide +kernel
theorem d3_110 : decode prog_122_method_1_code 110 = .ok (.iinc 4 1, 3) := by decide +kernel
theorem d3_113 : decode prog_122_method_1_code 113 = .ok (.goto (-78), 3) := by decide +kernel
theorem d3_116 : decode prog_122_method_1_code 116 = .ok (.aload_n 0, 1) := by decide +kernel
theorem d3_117 : decode prog_122_method_1_code 117 = .ok (.iload_n 2, 1) := by decide +kernel
theorem d3_118 : decode prog_122_method_1_code 118 = .ok (.putfield 34, 3) := by decide +kernel
theorem d3_121 : decode prog_122_method_1_code 121 = .ok (.return_, 1) := by decide +kernel
def Q3 (Z : State) (p0 : Addr) (p1 : Addr) (xs : List Int32) (h0 : Heap) (n0 : Nat) (v : Option Value) (h : Heap) (L : List Loc) : Prop := v = none ∧ Fr n0 L ∧ Keep h0 h [p0] ∧ ∃ o1 o2 o3 : Addr, h0.size ≤ o1 ∧ h0.size ≤ o2 ∧ h0.size ≤ o3 ∧ o1 ≠ o2 ∧ o1 ≠ o3 ∧ o2 ≠ o3 ∧ Exa Z h p0 "com/example/onward/onward/explore/Packing" ∧ Fld Z h p0 "com/example/onward/onward/explore/Packing" "word" "[I" (.ref o1) ∧ Fld Z h p0 "com/example/onward/onward/explore/Packing" "shift" "[I" (.ref o2) ∧ Fld Z h p0 "com/example/onward/onward/explore/Packing" "mask" "[J" (.ref o3) ∧ ArL Z h o1 .int (List.map Value.int (own_pkr xs).2.1) ∧ ArL Z h o2 .int (List.map Value.int (own_pkr xs).2.2.1) ∧ ArL Z h o3 .long (List.map Value.long (own_pkr xs).2.2.2) ∧ Fld Z h p0 "com/example/onward/onward/explore/Packing" "words" "I" (.int (own_pkr xs).1)
abbrev rmm3 : Room := { frames := 1, cells := 3, slots := 15, locals := 14 }
abbrev P3 (Z : State) (p0 : Addr) (p1 : Addr) (xs : List Int32) (h0 : Heap) (n0 : Nat) (s : State) : Outcome → State → Prop := fun o U' => ∃ v L, o = .returned v ∧ Q3 Z p0 p1 xs h0 n0 v U'.heap L ∧ FrameEnd s o U' L rmm3.cells rmm3.slots
theorem pn_3 : plainName "com/example/onward/onward/explore/Packing" = true := by first | (simp [plainName, overriddenIn]; done) | decide +kernel
theorem ef_3 (m : MethodId) (p0 : Addr) (p1 : Addr) : entryFrame m #[(.ref p0), (.ref p1)] 6 = mkF m 0 #[.val (.ref p0), .val (.ref p1), .unset, .unset, .unset, .unset] [] := by first | (simp [entryFrame, mkF, argsToLocals, Value.category]; done) | rfl
set_option maxRecDepth 65536 in
set_option maxHeartbeats 40000000 in
theorem rm3 (l : Launch) (Z : State) (a0 : Array Value) (hw : ∀ d ∈ tables_1, d.before a0 Z = true) (ws : List Jvm.Cond) (p0 : Addr) (p1 : Addr) (xs : List Int32) (h0 : Heap) (n0 : Nat) (Z0 : n0 ≤ h0.size) (H0 : Exa Z h0 p0 "com/example/onward/onward/explore/Packing") (H1 : Fld Z h0 p0 "com/example/onward/onward/explore/Packing" "word" "[I" .null) (H2 : Fld Z h0 p0 "com/example/onward/onward/explore/Packing" "shift" "[I" .null) (H3 : Fld Z h0 p0 "com/example/onward/onward/explore/Packing" "mask" "[J" .null) (H4 : Fld Z h0 p0 "com/example/onward/onward/explore/Packing" "words" "I" (.int (0 : Int32))) (H5 : ArL Z h0 p1 .int (List.map Value.int xs)) (H6 : n0 ≤ p0) (H7 : p0 ≠ p1) (hl : xs.length = 5) :
    MetFree l (⟨"com/example/onward/onward/explore/Packing", "<init>", "([I)V"⟩ : MethodName) (head1 (Jvm.Cond.code (⟨"com/example/onward/onward/explore/Packing", "<init>", "([I)V"⟩ : MethodName) prog_122_method_1_code 6 none :: ws) rmm3) (fun a U => a = #[(.ref p0), (.ref p1)] ∧ Z.Warmed39 U.vm ∧ U.heap = h0) (fun _ _ _ _ _ => True) (fun _ U o U' => ∃ v L, o = .returned v ∧ Q3 Z p0 p1 xs h0 n0 v U'.heap L ∧ FrameEnd U o U' L rmm3.cells rmm3.slots) := by
  refine MetFree.of_bodySF (plainFor_of_name pn_3) hisR ?_
  intro p e s m args below meth c s₁ Bd hml0 hP hK
  obtain ⟨rfl, hZ, hh⟩ := hP
  have hx := Bd.exec
  have hby := Bd.bytes
  have hml : c.maxLocals = 6 := hml0
  have hown : s.vm.findClass "com/example/onward/onward/explore/Packing" = some m.cls := findClass_of_methodNamed Bd.named
  have hnm := (name_of_methodNamed Bd.named Bd.method).1
  have X0 : Stand p l e rmm3 s m #[(.ref p0), (.ref p1)] below meth c s₁ [] 0 0 := Stand.of_body Bd
  have e0 : s₁.heap = h0 := by rw [← hh, Bd.state]; rfl
  have N0 := Fr.nil n0
  show Go p.tables e below (P3 Z p0 p1 xs h0 n0 s) (s₁.setTop (entryFrame m #[(.ref p0), (.ref p1)] 6))
  refine Go.back (fun t k => castTop (ef_3 m p0 p1) k) ?_
  show Go p.tables e below (P3 Z p0 p1 xs h0 n0 s) (s₁.setTop (mkF m 0 #[.val (.ref p0), .val (.ref p1), .unset, .unset, .unset, .unset] []))
  refine Go.back (fun t k => XS.aloadN X0.here hx rfl (hb hby d3_0) rfl rfl  k) ?_
  show Go p.tables e below (P3 Z p0 p1 xs h0 n0 s) (s₁.setTop (mkF m 1 #[.val (.ref p0), .val (.ref p1), .unset, .unset, .unset, .unset] [(.ref p0)]))
  obtain ⟨T1, X1, e1, st1⟩ := initO X0 hx hZ hown (hw _ (List.mem_of_getElem? (i := 18) rfl)) (hw _ (List.mem_of_getElem? (i := 19) rfl)) (hw _ (List.mem_of_getElem? (i := 20) rfl)) e0 (g := (mkF m 1 #[.val (.ref p0), .val (.ref p1), .unset, .unset, .unset, .unset] [(.ref p0)])) rfl (by rw [hml]; rfl) rfl (hb hby d3_1) (by decide) (W := 0) (by show 2 * 0 + _ ≤ _; exact Nat.le_of_eq rfl) (by decide)
  refine Go.back st1 ?_
  show Go p.tables e below (P3 Z p0 p1 xs h0 n0 s) (T1.setTop (mkF m 4 #[.val (.ref p0), .val (.ref p1), .unset, .unset, .unset, .unset] []))
  refine Go.back (fun t k => XS.aloadN X1.here hx rfl (hb hby d3_4) rfl rfl  k) ?_
  show Go p.tables e below (P3 Z p0 p1 xs h0 n0 s) (T1.setTop (mkF m 5 #[.val (.ref p0), .val (.ref p1), .unset, .unset, .unset, .unset] [(.ref p0)]))
  refine Go.back (fun t k => XS.aloadN X1.here hx rfl (hb hby d3_5) rfl rfl  k) ?_
  show Go p.tables e below (P3 Z p0 p1 xs h0 n0 s) (T1.setTop (mkF m 6 #[.val (.ref p0), .val (.ref p1), .unset, .unset, .unset, .unset] [(.ref p1), (.ref p0)]))
  obtain ⟨cl2, Ar2, S2⟩ := H5.len
  refine Go.back (fun t k => X1.arraylength hx (by rw [e1]; exact Ar2.1) (State.isArrayOf_alike hZ.alike Ar2.2.1) (g := (mkF m 6 #[.val (.ref p0), .val (.ref p1), .unset, .unset, .unset, .unset] [(.ref p1), (.ref p0)])) rfl rfl (hb hby d3_6) t k) ?_
  rw [S2]
  rw [List.length_map, hl]
  show Go p.tables e below (P3 Z p0 p1 xs h0 n0 s) (T1.setTop (mkF m 7 #[.val (.ref p0), .val (.ref p1), .unset, .unset, .unset, .unset] [(.int (5 : Int32)), (.ref p0)]))
  obtain ⟨T3, h3, k3, X3, e3, E3, A3, st3⟩ := newP X1 hx hZ (hw _ (List.mem_of_getElem? (i := 1) rfl)) e1 (g := (mkF m 7 #[.val (.ref p0), .val (.ref p1), .unset, .unset, .unset, .unset] [(.int (5 : Int32)), (.ref p0)])) rfl (hb hby d3_7) rfl (by decide) (cap := 5) (by decide) (by decide) (by decide) (by decide)
  obtain ⟨b3, g3⟩ : ∃ z, z = h0.size := ⟨_, rfl⟩
  rw [← g3] at A3 st3
  have ne4 : p0 ≠ b3 := Nat.ne_of_lt (Nat.lt_of_lt_of_le H0.lt (Nat.le_of_eq g3.symm))
  have ne5 : p1 ≠ b3 := Nat.ne_of_lt (Nat.lt_of_lt_of_le H5.lt (Nat.le_of_eq g3.symm))
  have g6 : n0 ≤ b3 := Nat.le_trans Z0 (Nat.le_of_eq g3.symm)
  have sz7 : h0.size ≤ b3 := Nat.le_trans (Keep.refl h0 [p0]).1 (Nat.le_of_eq g3.symm)
  have F8 : Exa Z h3 p0 "com/example/onward/onward/explore/Packing" := H0.ext E3
  have F9 : Fld Z h3 p0 "com/example/onward/onward/explore/Packing" "word" "[I" .null := H1.ext E3
  have F10 : Fld Z h3 p0 "com/example/onward/onward/explore/Packing" "shift" "[I" .null := H2.ext E3
  have F11 : Fld Z h3 p0 "com/example/onward/onward/explore/Packing" "mask" "[J" .null := H3.ext E3
  have F12 : Fld Z h3 p0 "com/example/onward/onward/explore/Packing" "words" "I" (.int (0 : Int32)) := H4.ext E3
  have F13 : ArL Z h3 p1 .int (List.map Value.int xs) := H5.ext E3
  have F14 : n0 ≤ h3.size := Nat.le_trans Z0 E3.1
  have F15 : Keep h0 h3 [p0] := (Keep.refl h0 [p0]).ext E3
  have F16 : ArL Z h3 b3 .int [(.int (0 : Int32)), (.int (0 : Int32)), (.int (0 : Int32)), (.int (0 : Int32)), (.int (0 : Int32))] := ArL.new (ty := .int) A3 (n := 5) rfl
  refine Go.back st3 ?_
  show Go p.tables e below (P3 Z p0 p1 xs h0 n0 s) (T3.setTop (mkF m 9 #[.val (.ref p0), .val (.ref p1), .unset, .unset, .unset, .unset] [(.ref b3), (.ref p0)]))
  obtain ⟨T17, h17, X17, e17, W17, st17⟩ := putF X3 hx hZ hown (host := "") (Or.inl (hw _ (List.mem_of_getElem? (i := 21) rfl))) Via.refl e3 F9 F8 (Or.inr ⟨(hw _ (List.mem_of_getElem? (i := 22) rfl)), rfl, hnm⟩) (hw _ (List.mem_of_getElem? (i := 13) rfl)) (ty := (.array .int)) (by decide) rfl rfl (g := (mkF m 9 #[.val (.ref p0), .val (.ref p1), .unset, .unset, .unset, .unset] [(.ref b3), (.ref p0)])) rfl rfl (hb hby d3_9)
  have F18 : Exa Z h17 p0 "com/example/onward/onward/explore/Packing" := F8.wr W17
  have F19 : Fld Z h17 p0 "com/example/onward/onward/explore/Packing" "word" "[I" (.ref b3) := F9.same W17
  have F20 : Fld Z h17 p0 "com/example/onward/onward/explore/Packing" "shift" "[I" .null := F10.other W17 (Or.inr (slot_ne (Or.inr (hw _ (List.mem_of_getElem? (i := 24) rfl))) (Or.inr (hw _ (List.mem_of_getElem? (i := 22) rfl))) (by decide) (t := (.array .int)) (t' := (.array .int)) (by decide) (by decide)))
  have F21 : Fld Z h17 p0 "com/example/onward/onward/explore/Packing" "mask" "[J" .null := F11.other W17 (Or.inr (slot_ne (Or.inr (hw _ (List.mem_of_getElem? (i := 26) rfl))) (Or.inr (hw _ (List.mem_of_getElem? (i := 22) rfl))) (by decide) (t := (.array .long)) (t' := (.array .int)) (by decide) (by decide)))
  have F22 : Fld Z h17 p0 "com/example/onward/onward/explore/Packing" "words" "I" (.int (0 : Int32)) := F12.other W17 (Or.inr (slot_ne (Or.inr (hw _ (List.mem_of_getElem? (i := 37) rfl))) (Or.inr (hw _ (List.mem_of_getElem? (i := 22) rfl))) (by decide) (t := .int) (t' := (.array .int)) (by decide) (by decide)))
  have F23 : ArL Z h17 p1 .int (List.map Value.int xs) := F13.other W17 (Ne.symm H7)
  have F24 : n0 ≤ h17.size := Nat.le_trans F14 (Keep.of_wr W17).1
  have F25 : Keep h0 h17 [p0] := F15.wr W17 (Or.inl (List.mem_of_getElem? (i := 0) rfl))
  have F26 : ArL Z h17 b3 .int [(.int (0 : Int32)), (.int (0 : Int32)), (.int (0 : Int32)), (.int (0 : Int32)), (.int (0 : Int32))] := F16.other W17 (Ne.symm ne4)
  obtain ⟨Lo17, Y17, N17⟩ := pk X17 (Fr.snoc X17 N0 H6)
  refine Go.back st17 ?_
  show Go p.tables e below (P3 Z p0 p1 xs h0 n0 s) (T17.setTop (mkF m 12 #[.val (.ref p0), .val (.ref p1), .unset, .unset, .unset, .unset] []))
  refine Go.back (fun t k => XS.aloadN Y17.here hx rfl (hb hby d3_12) rfl rfl  k) ?_
  show Go p.tables e below (P3 Z p0 p1 xs h0 n0 s) (T17.setTop (mkF m 13 #[.val (.ref p0), .val (.ref p1), .unset, .unset, .unset, .unset] [(.ref p0)]))
  refine Go.back (fun t k => XS.aloadN Y17.here hx rfl (hb hby d3_13) rfl rfl  k) ?_
  show Go p.tables e below (P3 Z p0 p1 xs h0 n0 s) (T17.setTop (mkF m 14 #[.val (.ref p0), .val (.ref p1), .unset, .unset, .unset, .unset] [(.ref p1), (.ref p0)]))
  obtain ⟨cl27, Ar27, S27⟩ := F23.len
  refine Go.back (fun t k => Y17.arraylength hx (by rw [e17]; exact Ar27.1) (State.isArrayOf_alike hZ.alike Ar27.2.1) (g := (mkF m 14 #[.val (.ref p0), .val (.ref p1), .unset, .unset, .unset, .unset] [(.ref p1), (.ref p0)])) rfl rfl (hb hby d3_14) t k) ?_
  rw [S27]
  rw [List.length_map, hl]
  show Go p.tables e below (P3 Z p0 p1 xs h0 n0 s) (T17.setTop (mkF m 15 #[.val (.ref p0), .val (.ref p1), .unset, .unset, .unset, .unset] [(.int (5 : Int32)), (.ref p0)]))
  obtain ⟨T28, h28, k28, X28, e28, E28, A28, st28⟩ := newP Y17 hx hZ (hw _ (List.mem_of_getElem? (i := 1) rfl)) e17 (g := (mkF m 15 #[.val (.ref p0), .val (.ref p1), .unset, .unset, .unset, .unset] [(.int (5 : Int32)), (.ref p0)])) rfl (hb hby d3_15) rfl (by decide) (cap := 5) (by decide) (by decide) (by decide) (by decide)
  obtain ⟨b28, g28⟩ : ∃ z, z = h17.size := ⟨_, rfl⟩
  rw [← g28] at A28 st28
  have ne29 : p0 ≠ b28 := Nat.ne_of_lt (Nat.lt_of_lt_of_le F18.lt (Nat.le_of_eq g28.symm))
  have ne30 : p1 ≠ b28 := Nat.ne_of_lt (Nat.lt_of_lt_of_le F23.lt (Nat.le_of_eq g28.symm))
  have ne31 : b3 ≠ b28 := Nat.ne_of_lt (Nat.lt_of_lt_of_le F26.lt (Nat.le_of_eq g28.symm))
  have g32 : n0 ≤ b28 := Nat.le_trans F24 (Nat.le_of_eq g28.symm)
  have sz33 : h0.size ≤ b28 := Nat.le_trans F25.1 (Nat.le_of_eq g28.symm)
  have F34 : Exa Z h28 p0 "com/example/onward/onward/explore/Packing" := F18.ext E28
  have F35 : Fld Z h28 p0 "com/example/onward/onward/explore/Packing" "word" "[I" (.ref b3) := F19.ext E28
  have F36 : Fld Z h28 p0 "com/example/onward/onward/explore/Packing" "shift" "[I" .null := F20.ext E28
  have F37 : Fld Z h28 p0 "com/example/onward/onward/explore/Packing" "mask" "[J" .null := F21.ext E28
  have F38 : Fld Z h28 p0 "com/example/onward/onward/explore/Packing" "words" "I" (.int (0 : Int32)) := F22.ext E28
  have F39 : ArL Z h28 p1 .int (List.map Value.int xs) := F23.ext E28
  have F40 : n0 ≤ h28.size := Nat.le_trans F24 E28.1
  have F41 : Keep h0 h28 [p0] := F25.ext E28
  have F42 : ArL Z h28 b3 .int [(.int (0 : Int32)), (.int (0 : Int32)), (.int (0 : Int32)), (.int (0 : Int32)), (.int (0 : Int32))] := F26.ext E28
  have F43 : ArL Z h28 b28 .int [(.int (0 : Int32)), (.int (0 : Int32)), (.int (0 : Int32)), (.int (0 : Int32)), (.int (0 : Int32))] := ArL.new (ty := .int) A28 (n := 5) rfl
  refine Go.back st28 ?_
  show Go p.tables e below (P3 Z p0 p1 xs h0 n0 s) (T28.setTop (mkF m 17 #[.val (.ref p0), .val (.ref p1), .unset, .unset, .unset, .unset] [(.ref b28), (.ref p0)]))
  obtain ⟨T44, h44, X44, e44, W44, st44⟩ := putF X28 hx hZ hown (host := "") (Or.inl (hw _ (List.mem_of_getElem? (i := 23) rfl))) Via.refl e28 F36 F34 (Or.inr ⟨(hw _ (List.mem_of_getElem? (i := 24) rfl)), rfl, hnm⟩) (hw _ (List.mem_of_getElem? (i := 13) rfl)) (ty := (.array .int)) (by decide) rfl rfl (g := (mkF m 17 #[.val (.ref p0), .val (.ref p1), .unset, .unset, .unset, .unset] [(.ref b28), (.ref p0)])) rfl rfl (hb hby d3_17)
  have F45 : Exa Z h44 p0 "com/example/onward/onward/explore/Packing" := F34.wr W44
  have F46 : Fld Z h44 p0 "com/example/onward/onward/explore/Packing" "word" "[I" (.ref b3) := F35.other W44 (Or.inr (slot_ne (Or.inr (hw _ (List.mem_of_getElem? (i := 22) rfl))) (Or.inr (hw _ (List.mem_of_getElem? (i := 24) rfl))) (by decide) (t := (.array .int)) (t' := (.array .int)) (by decide) (by decide)))
  have F47 : Fld Z h44 p0 "com/example/onward/onward/explore/Packing" "shift" "[I" (.ref b28) := F36.same W44
  have F48 : Fld Z h44 p0 "com/example/onward/onward/explore/Packing" "mask" "[J" .null := F37.other W44 (Or.inr (slot_ne (Or.inr (hw _ (List.mem_of_getElem? (i := 26) rfl))) (Or.inr (hw _ (List.mem_of_getElem? (i := 24) rfl))) (by decide) (t := (.array .long)) (t' := (.array .int)) (by decide) (by decide)))
  have F49 : Fld Z h44 p0 "com/example/onward/onward/explore/Packing" "words" "I" (.int (0 : Int32)) := F38.other W44 (Or.inr (slot_ne (Or.inr (hw _ (List.mem_of_getElem? (i := 37) rfl))) (Or.inr (hw _ (List.mem_of_getElem? (i := 24) rfl))) (by decide) (t := .int) (t' := (.array .int)) (by decide) (by decide)))
  have F50 : ArL Z h44 p1 .int (List.map Value.int xs) := F39.other W44 (Ne.symm H7)
  have F51 : n0 ≤ h44.size := Nat.le_trans F40 (Keep.of_wr W44).1
  have F52 : Keep h0 h44 [p0] := F41.wr W44 (Or.inl (List.mem_of_getElem? (i := 0) rfl))
  have F53 : ArL Z h44 b3 .int [(.int (0 : Int32)), (.int (0 : Int32)), (.int (0 : Int32)), (.int (0 : Int32)), (.int (0 : Int32))] := F42.other W44 (Ne.symm ne4)
  have F54 : ArL Z h44 b28 .int [(.int (0 : Int32)), (.int (0 : Int32)), (.int (0 : Int32)), (.int (0 : Int32)), (.int (0 : Int32))] := F43.other W44 (Ne.symm ne29)
  obtain ⟨Lo44, Y44, N44⟩ := pk X44 (Fr.snoc X44 N17 H6)
  refine Go.back st44 ?_
  show Go p.tables e below (P3 Z p0 p1 xs h0 n0 s) (T44.setTop (mkF m 20 #[.val (.ref p0), .val (.ref p1), .unset, .unset, .unset, .unset] []))
  refine Go.back (fun t k => XS.aloadN Y44.here hx rfl (hb hby d3_20) rfl rfl  k) ?_
  show Go p.tables e below (P3 Z p0 p1 xs h0 n0 s) (T44.setTop (mkF m 21 #[.val (.ref p0), .val (.ref p1), .unset, .unset, .unset, .unset] [(.ref p0)]))
  refine Go.back (fun t k => XS.aloadN Y44.here hx rfl (hb hby d3_21) rfl rfl  k) ?_
  show Go p.tables e below (P3 Z p0 p1 xs h0 n0 s) (T44.setTop (mkF m 22 #[.val (.ref p0), .val (.ref p1), .unset, .unset, .unset, .unset] [(.ref p1), (.ref p0)]))
  obtain ⟨cl55, Ar55, S55⟩ := F50.len
  refine Go.back (fun t k => Y44.arraylength hx (by rw [e44]; exact Ar55.1) (State.isArrayOf_alike hZ.alike Ar55.2.1) (g := (mkF m 22 #[.val (.ref p0), .val (.ref p1), .unset, .unset, .unset, .unset] [(.ref p1), (.ref p0)])) rfl rfl (hb hby d3_22) t k) ?_
  rw [S55]
  rw [List.length_map, hl]
  show Go p.tables e below (P3 Z p0 p1 xs h0 n0 s) (T44.setTop (mkF m 23 #[.val (.ref p0), .val (.ref p1), .unset, .unset, .unset, .unset] [(.int (5 : Int32)), (.ref p0)]))
  obtain ⟨T56, h56, k56, X56, e56, E56, A56, st56⟩ := newP Y44 hx hZ (hw _ (List.mem_of_getElem? (i := 8) rfl)) e44 (g := (mkF m 23 #[.val (.ref p0), .val (.ref p1), .unset, .unset, .unset, .unset] [(.int (5 : Int32)), (.ref p0)])) rfl (hb hby d3_23) rfl (by decide) (cap := 5) (by decide) (by decide) (by decide) (by decide)
  obtain ⟨b56, g56⟩ : ∃ z, z = h44.size := ⟨_, rfl⟩
  rw [← g56] at A56 st56
  have ne57 : p0 ≠ b56 := Nat.ne_of_lt (Nat.lt_of_lt_of_le F45.lt (Nat.le_of_eq g56.symm))
  have ne58 : p1 ≠ b56 := Nat.ne_of_lt (Nat.lt_of_lt_of_le F50.lt (Nat.le_of_eq g56.symm))
  have ne59 : b3 ≠ b56 := Nat.ne_of_lt (Nat.lt_of_lt_of_le F53.lt (Nat.le_of_eq g56.symm))
  have ne60 : b28 ≠ b56 := Nat.ne_of_lt (Nat.lt_of_lt_of_le F54.lt (Nat.le_of_eq g56.symm))
  have g61 : n0 ≤ b56 := Nat.le_trans F51 (Nat.le_of_eq g56.symm)
  have sz62 : h0.size ≤ b56 := Nat.le_trans F52.1 (Nat.le_of_eq g56.symm)
  have F63 : Exa Z h56 p0 "com/example/onward/onward/explore/Packing" := F45.ext E56
  have F64 : Fld Z h56 p0 "com/example/onward/onward/explore/Packing" "word" "[I" (.ref b3) := F46.ext E56
  have F65 : Fld Z h56 p0 "com/example/onward/onward/explore/Packing" "shift" "[I" (.ref b28) := F47.ext E56
  have F66 : Fld Z h56 p0 "com/example/onward/onward/explore/Packing" "mask" "[J" .null := F48.ext E56
  have F67 : Fld Z h56 p0 "com/example/onward/onward/explore/Packing" "words" "I" (.int (0 : Int32)) := F49.ext E56
  have F68 : ArL Z h56 p1 .int (List.map Value.int xs) := F50.ext E56
  have F69 : n0 ≤ h56.size := Nat.le_trans F51 E56.1
  have F70 : Keep h0 h56 [p0] := F52.ext E56
  have F71 : ArL Z h56 b3 .int [(.int (0 : Int32)), (.int (0 : Int32)), (.int (0 : Int32)), (.int (0 : Int32)), (.int (0 : Int32))] := F53.ext E56
  have F72 : ArL Z h56 b28 .int [(.int (0 : Int32)), (.int (0 : Int32)), (.int (0 : Int32)), (.int (0 : Int32)), (.int (0 : Int32))] := F54.ext E56
  have F73 : ArL Z h56 b56 .long [(.long (0 : Int64)), (.long (0 : Int64)), (.long (0 : Int64)), (.long (0 : Int64)), (.long (0 : Int64))] := ArL.new (ty := .long) A56 (n := 5) rfl
  refine Go.back st56 ?_
  show Go p.tables e below (P3 Z p0 p1 xs h0 n0 s) (T56.setTop (mkF m 25 #[.val (.ref p0), .val (.ref p1), .unset, .unset, .unset, .unset] [(.ref b56), (.ref p0)]))
  obtain ⟨T74, h74, X74, e74, W74, st74⟩ := putF X56 hx hZ hown (host := "") (Or.inl (hw _ (List.mem_of_getElem? (i := 25) rfl))) Via.refl e56 F66 F63 (Or.inr ⟨(hw _ (List.mem_of_getElem? (i := 26) rfl)), rfl, hnm⟩) (hw _ (List.mem_of_getElem? (i := 13) rfl)) (ty := (.array .long)) (by decide) rfl rfl (g := (mkF m 25 #[.val (.ref p0), .val (.ref p1), .unset, .unset, .unset, .unset] [(.ref b56), (.ref p0)])) rfl rfl (hb hby d3_25)
  have F75 : Exa Z h74 p0 "com/example/onward/onward/explore/Packing" := F63.wr W74
  have F76 : Fld Z h74 p0 "com/example/onward/onward/explore/Packing" "word" "[I" (.ref b3) := F64.other W74 (Or.inr (slot_ne (Or.inr (hw _ (List.mem_of_getElem? (i := 22) rfl))) (Or.inr (hw _ (List.mem_of_getElem? (i := 26) rfl))) (by decide) (t := (.array .int)) (t' := (.array .long)) (by decide) (by decide)))
  have F77 : Fld Z h74 p0 "com/example/onward/onward/explore/Packing" "shift" "[I" (.ref b28) := F65.other W74 (Or.inr (slot_ne (Or.inr (hw _ (List.mem_of_getElem? (i := 24) rfl))) (Or.inr (hw _ (List.mem_of_getElem? (i := 26) rfl))) (by decide) (t := (.array .int)) (t' := (.array .long)) (by decide) (by decide)))
  have F78 : Fld Z h74 p0 "com/example/onward/onward/explore/Packing" "mask" "[J" (.ref b56) := F66.same W74
  have F79 : Fld Z h74 p0 "com/example/onward/onward/explore/Packing" "words" "I" (.int (0 : Int32)) := F67.other W74 (Or.inr (slot_ne (Or.inr (hw _ (List.mem_of_getElem? (i := 37) rfl))) (Or.inr (hw _ (List.mem_of_getElem? (i := 26) rfl))) (by decide) (t := .int) (t' := (.array .long)) (by decide) (by decide)))
  have F80 : ArL Z h74 p1 .int (List.map Value.int xs) := F68.other W74 (Ne.symm H7)
  have F81 : n0 ≤ h74.size := Nat.le_trans F69 (Keep.of_wr W74).1
  have F82 : Keep h0 h74 [p0] := F70.wr W74 (Or.inl (List.mem_of_getElem? (i := 0) rfl))
  have F83 : ArL Z h74 b3 .int [(.int (0 : Int32)), (.int (0 : Int32)), (.int (0 : Int32)), (.int (0 : Int32)), (.int (0 : Int32))] := F71.other W74 (Ne.symm ne4)
  have F84 : ArL Z h74 b28 .int [(.int (0 : Int32)), (.int (0 : Int32)), (.int (0 : Int32)), (.int (0 : Int32)), (.int (0 : Int32))] := F72.other W74 (Ne.symm ne29)
  have F85 : ArL Z h74 b56 .long [(.long (0 : Int64)), (.long (0 : Int64)), (.long (0 : Int64)), (.long (0 : Int64)), (.long (0 : Int64))] := F73.other W74 (Ne.symm ne57)
  obtain ⟨Lo74, Y74, N74⟩ := pk X74 (Fr.snoc X74 N44 H6)
  refine Go.back st74 ?_
  show Go p.tables e below (P3 Z p0 p1 xs h0 n0 s) (T74.setTop (mkF m 28 #[.val (.ref p0), .val (.ref p1), .unset, .unset, .unset, .unset] []))
  refine Go.back (fun t k => XS.iconst Y74.here hx rfl (hb hby d3_28) k) ?_
  show Go p.tables e below (P3 Z p0 p1 xs h0 n0 s) (T74.setTop (mkF m 29 #[.val (.ref p0), .val (.ref p1), .unset, .unset, .unset, .unset] [(.int (1 : Int32))]))
  refine Go.back (fun t k => XS.istoreN Y74.here hx rfl (hb hby d3_29) rfl (l' := #[.val (.ref p0), .val (.ref p1), .val (.int (1 : Int32)), .unset, .unset, .unset]) rfl k) ?_
  show Go p.tables e below (P3 Z p0 p1 xs h0 n0 s) (T74.setTop (mkF m 30 #[.val (.ref p0), .val (.ref p1), .val (.int (1 : Int32)), .unset, .unset, .unset] []))
  refine Go.back (fun t k => XS.iconst Y74.here hx rfl (hb hby d3_30) k) ?_
  show Go p.tables e below (P3 Z p0 p1 xs h0 n0 s) (T74.setTop (mkF m 31 #[.val (.ref p0), .val (.ref p1), .val (.int (1 : Int32)), .unset, .unset, .unset] [(.int (0 : Int32))]))
  refine Go.back (fun t k => XS.istoreN Y74.here hx rfl (hb hby d3_31) rfl (l' := #[.val (.ref p0), .val (.ref p1), .val (.int (1 : Int32)), .val (.int (0 : Int32)), .unset, .unset]) rfl k) ?_
  show Go p.tables e below (P3 Z p0 p1 xs h0 n0 s) (T74.setTop (mkF m 32 #[.val (.ref p0), .val (.ref p1), .val (.int (1 : Int32)), .val (.int (0 : Int32)), .unset, .unset] []))
  refine Go.back (fun t k => XS.iconst Y74.here hx rfl (hb hby d3_32) k) ?_
  show Go p.tables e below (P3 Z p0 p1 xs h0 n0 s) (T74.setTop (mkF m 33 #[.val (.ref p0), .val (.ref p1), .val (.int (1 : Int32)), .val (.int (0 : Int32)), .unset, .unset] [(.int (0 : Int32))]))
  refine Go.back (fun t k => XS.istore Y74.here hx rfl (hb hby d3_33) rfl (l' := #[.val (.ref p0), .val (.ref p1), .val (.int (1 : Int32)), .val (.int (0 : Int32)), .val (.int (0 : Int32)), .unset]) rfl k) ?_
  show Go p.tables e below (P3 Z p0 p1 xs h0 n0 s) (T74.setTop (mkF m 35 #[.val (.ref p0), .val (.ref p1), .val (.int (1 : Int32)), .val (.int (0 : Int32)), .val (.int (0 : Int32)), .unset] []))
  have LOOP86 : ∀ (n : Nat) (w : Int32) (u : Int32) (i : Int32) (s5 : Slot) (hs5 : One s5) (W : List Int32) (S : List Int32) (M : List Int64) (T87 : State) (L87 : List Loc) (X87 : Stand p l e rmm3 s m #[(.ref p0), (.ref p1)] below meth c T87 L87 3 15) (N87 : Fr n0 L87) (h87 : Heap) (e87 : T87.heap = h87) (F88 : Exa Z h87 p0 "com/example/onward/onward/explore/Packing") (F89 : Fld Z h87 p0 "com/example/onward/onward/explore/Packing" "word" "[I" (.ref b3)) (F90 : Fld Z h87 p0 "com/example/onward/onward/explore/Packing" "shift" "[I" (.ref b28)) (F91 : Fld Z h87 p0 "com/example/onward/onward/explore/Packing" "mask" "[J" (.ref b56)) (F92 : Fld Z h87 p0 "com/example/onward/onward/explore/Packing" "words" "I" (.int (0 : Int32))) (F93 : ArL Z h87 p1 .int (List.map Value.int xs)) (F94 : n0 ≤ h87.size) (F95 : Keep h0 h87 [p0]) (F96 : ArL Z h87 b3 .int (List.map Value.int W)) (F97 : ArL Z h87 b28 .int (List.map Value.int S)) (F98 : ArL Z h87 b56 .long (List.map Value.long M)) (hbd : own_ib 5 n i W S M) (hr : (own_pkr xs) = own_pk xs n i w u W S M), Go p.tables e below (P3 Z p0 p1 xs h0 n0 s) (T87.setTop (mkF m 35 #[.val (.ref p0), .val (.ref p1), .val (.int w), .val (.int u), .val (.int i), s5] [])) := by
    intro n
    induction n with
    | zero =>
      intro w u i s5 hs5 W S M T87 L87 X87 N87 h87 e87 F88 F89 F90 F91 F92 F93 F94 F95 F96 F97 F98 hbd hr
      show Go p.tables e below (P3 Z p0 p1 xs h0 n0 s) (T87.setTop (mkF m 35 #[.val (.ref p0), .val (.ref p1), .val (.int w), .val (.int u), .val (.int i), s5] []))
      refine Go.back (fun t k => XS.iload X87.here hx rfl (hb hby d3_35) rfl  k) ?_
      show Go p.tables e below (P3 Z p0 p1 xs h0 n0 s) (T87.setTop (mkF m 37 #[.val (.ref p0), .val (.ref p1), .val (.int w), .val (.int u), .val (.int i), s5] [(.int i)]))
      refine Go.back (fun t k => XS.aloadN X87.here hx rfl (hb hby d3_37) rfl rfl  k) ?_
      show Go p.tables e below (P3 Z p0 p1 xs h0 n0 s) (T87.setTop (mkF m 38 #[.val (.ref p0), .val (.ref p1), .val (.int w), .val (.int u), .val (.int i), s5] [(.ref p1), (.int i)]))
      obtain ⟨cl99, Ar99, S99⟩ := F93.len
      refine Go.back (fun t k => X87.arraylength hx (by rw [e87]; exact Ar99.1) (State.isArrayOf_alike hZ.alike Ar99.2.1) (g := (mkF m 38 #[.val (.ref p0), .val (.ref p1), .val (.int w), .val (.int u), .val (.int i), s5] [(.ref p1), (.int i)])) rfl rfl (hb hby d3_38) t k) ?_
      rw [S99]
      rw [List.length_map, hl]
      show Go p.tables e below (P3 Z p0 p1 xs h0 n0 s) (T87.setTop (mkF m 39 #[.val (.ref p0), .val (.ref p1), .val (.int w), .val (.int u), .val (.int i), s5] [(.int (5 : Int32)), (.int i)]))
      refine Go.back (fun t k => XS.icmpYes X87.here hx rfl (pc0 := 39) (pc' := 116) rfl (hb hby d3_39) rfl (flt (own_ib_z hbd rfl)).2.1 (by decide) (by decide) k) ?_
      show Go p.tables e below (P3 Z p0 p1 xs h0 n0 s) (T87.setTop (mkF m 116 #[.val (.ref p0), .val (.ref p1), .val (.int w), .val (.int u), .val (.int i), s5] []))
      refine Go.back (fun t k => XS.aloadN X87.here hx rfl (hb hby d3_116) rfl rfl  k) ?_
      show Go p.tables e below (P3 Z p0 p1 xs h0 n0 s) (T87.setTop (mkF m 117 #[.val (.ref p0), .val (.ref p1), .val (.int w), .val (.int u), .val (.int i), s5] [(.ref p0)]))
      refine Go.back (fun t k => XS.iloadN X87.here hx rfl (hb hby d3_117) rfl  k) ?_
      show Go p.tables e below (P3 Z p0 p1 xs h0 n0 s) (T87.setTop (mkF m 118 #[.val (.ref p0), .val (.ref p1), .val (.int w), .val (.int u), .val (.int i), s5] [(.int w), (.ref p0)]))
      obtain ⟨T100, h100, X100, e100, W100, st100⟩ := putF X87 hx hZ hown (host := "") (Or.inl (hw _ (List.mem_of_getElem? (i := 36) rfl))) Via.refl e87 F92 F88 (Or.inr ⟨(hw _ (List.mem_of_getElem? (i := 37) rfl)), rfl, hnm⟩) (hw _ (List.mem_of_getElem? (i := 13) rfl)) (ty := .int) (by decide) rfl rfl (g := (mkF m 118 #[.val (.ref p0), .val (.ref p1), .val (.int w), .val (.int u), .val (.int i), s5] [(.int w), (.ref p0)])) rfl rfl (hb hby d3_118)
      have F101 : Exa Z h100 p0 "com/example/onward/onward/explore/Packing" := F88.wr W100
      have F102 : Fld Z h100 p0 "com/example/onward/onward/explore/Packing" "word" "[I" (.ref b3) := F89.other W100 (Or.inr (slot_ne (Or.inr (hw _ (List.mem_of_getElem? (i := 22) rfl))) (Or.inr (hw _ (List.mem_of_getElem? (i := 37) rfl))) (by decide) (t := (.array .int)) (t' := .int) (by decide) (by decide)))
      have F103 : Fld Z h100 p0 "com/example/onward/onward/explore/Packing" "shift" "[I" (.ref b28) := F90.other W100 (Or.inr (slot_ne (Or.inr (hw _ (List.mem_of_getElem? (i := 24) rfl))) (Or.inr (hw _ (List.mem_of_getElem? (i := 37) rfl))) (by decide) (t := (.array .int)) (t' := .int) (by decide) (by decide)))
      have F104 : Fld Z h100 p0 "com/example/onward/onward/explore/Packing" "mask" "[J" (.ref b56) := F91.other W100 (Or.inr (slot_ne (Or.inr (hw _ (List.mem_of_getElem? (i := 26) rfl))) (Or.inr (hw _ (List.mem_of_getElem? (i := 37) rfl))) (by decide) (t := (.array .long)) (t' := .int) (by decide) (by decide)))
      have F105 : Fld Z h100 p0 "com/example/onward/onward/explore/Packing" "words" "I" (.int w) := F92.same W100
      have F106 : ArL Z h100 p1 .int (List.map Value.int xs) := F93.other W100 (Ne.symm H7)
      have F107 : n0 ≤ h100.size := Nat.le_trans F94 (Keep.of_wr W100).1
      have F108 : Keep h0 h100 [p0] := F95.wr W100 (Or.inl (List.mem_of_getElem? (i := 0) rfl))
      have F109 : ArL Z h100 b3 .int (List.map Value.int W) := F96.other W100 (Ne.symm ne4)
      have F110 : ArL Z h100 b28 .int (List.map Value.int S) := F97.other W100 (Ne.symm ne29)
      have F111 : ArL Z h100 b56 .long (List.map Value.long M) := F98.other W100 (Ne.symm ne57)
      obtain ⟨Lo100, Y100, N100⟩ := pk X100 (Fr.snoc X100 N87 H6)
      refine Go.back st100 ?_
      show Go p.tables e below (P3 Z p0 p1 xs h0 n0 s) (T100.setTop (mkF m 121 #[.val (.ref p0), .val (.ref p1), .val (.int w), .val (.int u), .val (.int i), s5] []))
      exact Go.retV Y100 hx Bd.returns (hb hby d3_121) Bd.notSynchronized ⟨rfl, N100, (by rw [e100]; exact F108), b3, b28, b56, sz7, sz33, sz62, ne31, ne59, ne60, (by rw [e100]; exact F101), (by rw [e100]; exact F102), (by rw [e100]; exact F103), (by rw [e100]; exact F104), (by rw [e100, hr]; exact F109), (by rw [e100, hr]; exact F110), (by rw [e100, hr]; exact F111), (by rw [e100, hr]; exact F105)⟩ (by decide) (by decide)
    | succ n ih =>
      intro w u i s5 hs5 W S M T87 L87 X87 N87 h87 e87 F88 F89 F90 F91 F92 F93 F94 F95 F96 F97 F98 hbd hr
      show Go p.tables e below (P3 Z p0 p1 xs h0 n0 s) (T87.setTop (mkF m 35 #[.val (.ref p0), .val (.ref p1), .val (.int w), .val (.int u), .val (.int i), s5] []))
      refine Go.back (fun t k => XS.iload X87.here hx rfl (hb hby d3_35) rfl  k) ?_
      show Go p.tables e below (P3 Z p0 p1 xs h0 n0 s) (T87.setTop (mkF m 37 #[.val (.ref p0), .val (.ref p1), .val (.int w), .val (.int u), .val (.int i), s5] [(.int i)]))
      refine Go.back (fun t k => XS.aloadN X87.here hx rfl (hb hby d3_37) rfl rfl  k) ?_
      show Go p.tables e below (P3 Z p0 p1 xs h0 n0 s) (T87.setTop (mkF m 38 #[.val (.ref p0), .val (.ref p1), .val (.int w), .val (.int u), .val (.int i), s5] [(.ref p1), (.int i)]))
      obtain ⟨cl112, Ar112, S112⟩ := F93.len
      refine Go.back (fun t k => X87.arraylength hx (by rw [e87]; exact Ar112.1) (State.isArrayOf_alike hZ.alike Ar112.2.1) (g := (mkF m 38 #[.val (.ref p0), .val (.ref p1), .val (.int w), .val (.int u), .val (.int i), s5] [(.ref p1), (.int i)])) rfl rfl (hb hby d3_38) t k) ?_
      rw [S112]
      rw [List.length_map, hl]
      show Go p.tables e below (P3 Z p0 p1 xs h0 n0 s) (T87.setTop (mkF m 39 #[.val (.ref p0), .val (.ref p1), .val (.int w), .val (.int u), .val (.int i), s5] [(.int (5 : Int32)), (.int i)]))
      refine Go.back (fun t k => XS.icmpNo X87.here hx rfl (hb hby d3_39) rfl (tlt (own_ib_s hbd rfl)).2.1 k) ?_
      show Go p.tables e below (P3 Z p0 p1 xs h0 n0 s) (T87.setTop (mkF m 42 #[.val (.ref p0), .val (.ref p1), .val (.int w), .val (.int u), .val (.int i), s5] []))
      refine Go.back (fun t k => XS.bipush X87.here hx rfl (hb hby d3_42) k) ?_
      show Go p.tables e below (P3 Z p0 p1 xs h0 n0 s) (T87.setTop (mkF m 44 #[.val (.ref p0), .val (.ref p1), .val (.int w), .val (.int u), .val (.int i), s5] [(.int (32 : Int32))]))
      refine Go.back (fun t k => XS.iconst X87.here hx rfl (hb hby d3_44) k) ?_
      show Go p.tables e below (P3 Z p0 p1 xs h0 n0 s) (T87.setTop (mkF m 45 #[.val (.ref p0), .val (.ref p1), .val (.int w), .val (.int u), .val (.int i), s5] [(.int (0 : Int32)), (.int (32 : Int32))]))
      refine Go.back (fun t k => XS.aloadN X87.here hx rfl (hb hby d3_45) rfl rfl  k) ?_
      show Go p.tables e below (P3 Z p0 p1 xs h0 n0 s) (T87.setTop (mkF m 46 #[.val (.ref p0), .val (.ref p1), .val (.int w), .val (.int u), .val (.int i), s5] [(.ref p1), (.int (0 : Int32)), (.int (32 : Int32))]))
      refine Go.back (fun t k => XS.iload X87.here hx rfl (hb hby d3_46) rfl  k) ?_
      show Go p.tables e below (P3 Z p0 p1 xs h0 n0 s) (T87.setTop (mkF m 48 #[.val (.ref p0), .val (.ref p1), .val (.int w), .val (.int u), .val (.int i), s5] [(.int i), (.ref p1), (.int (0 : Int32)), (.int (32 : Int32))]))
      obtain ⟨cl113, Ar113, hi113, ha113⟩ := F93.get (j := i) (own_ib_nn hbd) (v := (.int (List.getD xs (i).toNatClampNeg (0 : Int32)))) (getI xs (own_ib_in hbd hl))
      refine Go.back (fun t k => X87.iaload hx (j := i) (v := (.int (List.getD xs (i).toNatClampNeg (0 : Int32)))) (by rw [e87]; exact Ar113.1) (State.isArrayOf_alike hZ.alike Ar113.2.1) Ar113.2.2 hi113 ha113 (g := (mkF m 48 #[.val (.ref p0), .val (.ref p1), .val (.int w), .val (.int u), .val (.int i), s5] [(.int i), (.ref p1), (.int (0 : Int32)), (.int (32 : Int32))])) rfl rfl (hb hby d3_48) t k) ?_
      show Go p.tables e below (P3 Z p0 p1 xs h0 n0 s) (T87.setTop (mkF m 49 #[.val (.ref p0), .val (.ref p1), .val (.int w), .val (.int u), .val (.int i), s5] [(.int (List.getD xs (i).toNatClampNeg (0 : Int32))), (.int (0 : Int32)), (.int (32 : Int32))]))
      refine Go.back (fun t k => XS.iconst X87.here hx rfl (hb hby d3_49) k) ?_
      show Go p.tables e below (P3 Z p0 p1 xs h0 n0 s) (T87.setTop (mkF m 50 #[.val (.ref p0), .val (.ref p1), .val (.int w), .val (.int u), .val (.int i), s5] [(.int (1 : Int32)), (.int (List.getD xs (i).toNatClampNeg (0 : Int32))), (.int (0 : Int32)), (.int (32 : Int32))]))
      refine Go.back (fun t k => XS.isub X87.here hx rfl (hb hby d3_50) rfl k) ?_
      show Go p.tables e below (P3 Z p0 p1 xs h0 n0 s) (T87.setTop (mkF m 51 #[.val (.ref p0), .val (.ref p1), .val (.int w), .val (.int u), .val (.int i), s5] [(.int ((List.getD xs (i).toNatClampNeg (0 : Int32)) - (1 : Int32))), (.int (0 : Int32)), (.int (32 : Int32))]))
      obtain ⟨_, _, ⟨T114, L114, k114, n114⟩, -, X114, ⟨Lc114, hQ114, l114, y114, z114⟩, st114⟩ := Jvm.LawKit.callS X87 hx (y := (⟨"java/lang/Math", "max", "(II)I"⟩ : MethodName)) hown (mvT hZ (hw _ (List.mem_of_getElem? (i := 27) rfl))) (mvT hZ (hw _ (List.mem_of_getElem? (i := 28) rfl))) (mvT hZ (hw _ (List.mem_of_getElem? (i := 29) rfl))) (mvT hZ (hw _ (List.mem_of_getElem? (i := 30) rfl))) (by decide) (backOf (W := 1) (rm5 l Z a0 hw [] (0 : Int32) ((List.getD xs (i).toNatClampNeg (0 : Int32)) - (1 : Int32)) h87 n0) hZ (hw _ (List.mem_of_getElem? (i := 30) rfl)) (hw _ (List.mem_of_getElem? (i := 29) rfl)) (by decide) (by decide)) (g := (mkF m 51 #[.val (.ref p0), .val (.ref p1), .val (.int w), .val (.int u), .val (.int i), s5] [(.int ((List.getD xs (i).toNatClampNeg (0 : Int32)) - (1 : Int32))), (.int (0 : Int32)), (.int (32 : Int32))])) rfl (by rw [hml]; rfl) (argsL := [(.int (0 : Int32)), (.int ((List.getD xs (i).toNatClampNeg (0 : Int32)) - (1 : Int32)))]) (rest := [(.int (32 : Int32))]) (lenOf pd_0 rfl) rfl (by show 2 * 0 + _ ≤ _; exact Nat.le_of_eq rfl) (hb hby d3_51) (fun _ _ => ⟨rfl, e87, (by decide : 3 + 0 ≤ _), (by decide : 15 + 0 ≤ _)⟩)
      dsimp only [Pt.U, Pt.locs, Pt.cells, Pt.slots] at X114 l114 y114 z114 st114 hQ114
      subst l114 y114 z114
      obtain ⟨rfl, N114q, e114⟩ := hQ114
      obtain ⟨Lo114, Y114, N114⟩ := pk X114 (Fr.app N87 N114q)
      refine Go.back st114 ?_
      show Go p.tables e below (P3 Z p0 p1 xs h0 n0 s) (T114.setTop (mkF m 54 #[.val (.ref p0), .val (.ref p1), .val (.int w), .val (.int u), .val (.int i), s5] [(.int (f5 (0 : Int32) ((List.getD xs (i).toNatClampNeg (0 : Int32)) - (1 : Int32)))), (.int (32 : Int32))]))
      obtain ⟨_, _, ⟨T115, L115, k115, n115⟩, -, X115, ⟨Lc115, hQ115, l115, y115, z115⟩, st115⟩ := Jvm.LawKit.callS Y114 hx (y := (⟨"java/lang/Integer", "numberOfLeadingZeros", "(I)I"⟩ : MethodName)) hown (mvT hZ (hw _ (List.mem_of_getElem? (i := 31) rfl))) (mvT hZ (hw _ (List.mem_of_getElem? (i := 32) rfl))) (mvT hZ (hw _ (List.mem_of_getElem? (i := 33) rfl))) (mvT hZ (hw _ (List.mem_of_getElem? (i := 34) rfl))) (by decide) (backOf (W := 1) (rm6 l Z a0 hw [] (f5 (0 : Int32) ((List.getD xs (i).toNatClampNeg (0 : Int32)) - (1 : Int32))) h87 n0) hZ (hw _ (List.mem_of_getElem? (i := 34) rfl)) (hw _ (List.mem_of_getElem? (i := 33) rfl)) (by decide) (by decide)) (g := (mkF m 54 #[.val (.ref p0), .val (.ref p1), .val (.int w), .val (.int u), .val (.int i), s5] [(.int (f5 (0 : Int32) ((List.getD xs (i).toNatClampNeg (0 : Int32)) - (1 : Int32)))), (.int (32 : Int32))])) rfl (by rw [hml]; rfl) (argsL := [(.int (f5 (0 : Int32) ((List.getD xs (i).toNatClampNeg (0 : Int32)) - (1 : Int32))))]) (rest := [(.int (32 : Int32))]) (lenOf pd_1 rfl) rfl (by show 2 * 0 + _ ≤ _; exact Nat.le_of_eq rfl) (hb hby d3_54) (fun _ _ => ⟨rfl, e114, (by decide : 3 + 0 ≤ _), (by decide : 15 + 0 ≤ _)⟩)
      dsimp only [Pt.U, Pt.locs, Pt.cells, Pt.slots] at X115 l115 y115 z115 st115 hQ115
      subst l115 y115 z115
      obtain ⟨rfl, N115q, e115⟩ := hQ115
      obtain ⟨Lo115, Y115, N115⟩ := pk X115 (Fr.app N114 N115q)
      refine Go.back st115 ?_
      show Go p.tables e below (P3 Z p0 p1 xs h0 n0 s) (T115.setTop (mkF m 57 #[.val (.ref p0), .val (.ref p1), .val (.int w), .val (.int u), .val (.int i), s5] [(.int (f6 (f5 (0 : Int32) ((List.getD xs (i).toNatClampNeg (0 : Int32)) - (1 : Int32))))), (.int (32 : Int32))]))
      refine Go.back (fun t k => XS.isub Y115.here hx rfl (hb hby d3_57) rfl k) ?_
      show Go p.tables e below (P3 Z p0 p1 xs h0 n0 s) (T115.setTop (mkF m 58 #[.val (.ref p0), .val (.ref p1), .val (.int w), .val (.int u), .val (.int i), s5] [(.int ((32 : Int32) - (f6 (f5 (0 : Int32) ((List.getD xs (i).toNatClampNeg (0 : Int32)) - (1 : Int32))))))]))
      refine Go.back (fun t k => XS.istore Y115.here hx rfl (hb hby d3_58) rfl (l' := #[.val (.ref p0), .val (.ref p1), .val (.int w), .val (.int u), .val (.int i), .val (.int ((32 : Int32) - (f6 (f5 (0 : Int32) ((List.getD xs (i).toNatClampNeg (0 : Int32)) - (1 : Int32))))))]) (storeS_i rfl hs5 rfl) k) ?_
      show Go p.tables e below (P3 Z p0 p1 xs h0 n0 s) (T115.setTop (mkF m 60 #[.val (.ref p0), .val (.ref p1), .val (.int w), .val (.int u), .val (.int i), .val (.int ((32 : Int32) - (f6 (f5 (0 : Int32) ((List.getD xs (i).toNatClampNeg (0 : Int32)) - (1 : Int32))))))] []))
      have J116 : ∀ (z117 : Int32) (hz117 : z117 = ((32 : Int32) - (f6 (f5 (0 : Int32) ((List.getD xs (i).toNatClampNeg (0 : Int32)) - (1 : Int32)))))), Go p.tables e below (P3 Z p0 p1 xs h0 n0 s) (T115.setTop (mkF m 60 #[.val (.ref p0), .val (.ref p1), .val (.int w), .val (.int u), .val (.int i), .val (.int z117)] [])) := by
        intro z117 hz117
        show Go p.tables e below (P3 Z p0 p1 xs h0 n0 s) (T115.setTop (mkF m 60 #[.val (.ref p0), .val (.ref p1), .val (.int w), .val (.int u), .val (.int i), .val (.int z117)] []))
        refine Go.back (fun t k => XS.iloadN Y115.here hx rfl (hb hby d3_60) rfl  k) ?_
        show Go p.tables e below (P3 Z p0 p1 xs h0 n0 s) (T115.setTop (mkF m 61 #[.val (.ref p0), .val (.ref p1), .val (.int w), .val (.int u), .val (.int i), .val (.int z117)] [(.int u)]))
        refine Go.back (fun t k => XS.iload Y115.here hx rfl (hb hby d3_61) rfl  k) ?_
        show Go p.tables e below (P3 Z p0 p1 xs h0 n0 s) (T115.setTop (mkF m 63 #[.val (.ref p0), .val (.ref p1), .val (.int w), .val (.int u), .val (.int i), .val (.int z117)] [(.int z117), (.int u)]))
        refine Go.back (fun t k => XS.iadd Y115.here hx rfl (hb hby d3_63) rfl k) ?_
        show Go p.tables e below (P3 Z p0 p1 xs h0 n0 s) (T115.setTop (mkF m 64 #[.val (.ref p0), .val (.ref p1), .val (.int w), .val (.int u), .val (.int i), .val (.int z117)] [(.int (u + z117))]))
        refine Go.back (fun t k => XS.bipush Y115.here hx rfl (hb hby d3_64) k) ?_
        show Go p.tables e below (P3 Z p0 p1 xs h0 n0 s) (T115.setTop (mkF m 66 #[.val (.ref p0), .val (.ref p1), .val (.int w), .val (.int u), .val (.int i), .val (.int z117)] [(.int (64 : Int32)), (.int (u + z117))]))
        have J119 : ∀ (z120 : Int32) (z121 : Int32) (hz120 : z120 = (if (64 : Int32) < (u + z117) then (w + (1 : Int32)) else w)) (hz121 : z121 = (if (64 : Int32) < (u + z117) then (0 : Int32) else u)), Go p.tables e below (P3 Z p0 p1 xs h0 n0 s) (T115.setTop (mkF m 74 #[.val (.ref p0), .val (.ref p1), .val (.int z120), .val (.int z121), .val (.int i), .val (.int z117)] [])) := by
          intro z120 z121 hz120 hz121
          show Go p.tables e below (P3 Z p0 p1 xs h0 n0 s) (T115.setTop (mkF m 74 #[.val (.ref p0), .val (.ref p1), .val (.int z120), .val (.int z121), .val (.int i), .val (.int z117)] []))
          refine Go.back (fun t k => XS.aloadN Y115.here hx rfl (hb hby d3_74) rfl rfl  k) ?_
          show Go p.tables e below (P3 Z p0 p1 xs h0 n0 s) (T115.setTop (mkF m 75 #[.val (.ref p0), .val (.ref p1), .val (.int z120), .val (.int z121), .val (.int i), .val (.int z117)] [(.ref p0)]))
          obtain ⟨T122, X122, e122, st122⟩ := getF Y115 hx hZ hown (host := "") (Or.inl (hw _ (List.mem_of_getElem? (i := 21) rfl))) Via.refl e115 F89 (g := (mkF m 75 #[.val (.ref p0), .val (.ref p1), .val (.int z120), .val (.int z121), .val (.int i), .val (.int z117)] [(.ref p0)])) rfl rfl (hb hby d3_75)
          refine Go.back st122 ?_
          show Go p.tables e below (P3 Z p0 p1 xs h0 n0 s) (T122.setTop (mkF m 78 #[.val (.ref p0), .val (.ref p1), .val (.int z120), .val (.int z121), .val (.int i), .val (.int z117)] [(.ref b3)]))
          refine Go.back (fun t k => XS.iload X122.here hx rfl (hb hby d3_78) rfl  k) ?_
          show Go p.tables e below (P3 Z p0 p1 xs h0 n0 s) (T122.setTop (mkF m 80 #[.val (.ref p0), .val (.ref p1), .val (.int z120), .val (.int z121), .val (.int i), .val (.int z117)] [(.int i), (.ref b3)]))
          refine Go.back (fun t k => XS.iloadN X122.here hx rfl (hb hby d3_80) rfl  k) ?_
          show Go p.tables e below (P3 Z p0 p1 xs h0 n0 s) (T122.setTop (mkF m 81 #[.val (.ref p0), .val (.ref p1), .val (.int z120), .val (.int z121), .val (.int i), .val (.int z117)] [(.int z120), (.int i), (.ref b3)]))
          refine Go.back (fun t k => XS.iconst X122.here hx rfl (hb hby d3_81) k) ?_
          show Go p.tables e below (P3 Z p0 p1 xs h0 n0 s) (T122.setTop (mkF m 82 #[.val (.ref p0), .val (.ref p1), .val (.int z120), .val (.int z121), .val (.int i), .val (.int z117)] [(.int (1 : Int32)), (.int z120), (.int i), (.ref b3)]))
          refine Go.back (fun t k => XS.isub X122.here hx rfl (hb hby d3_82) rfl k) ?_
          show Go p.tables e below (P3 Z p0 p1 xs h0 n0 s) (T122.setTop (mkF m 83 #[.val (.ref p0), .val (.ref p1), .val (.int z120), .val (.int z121), .val (.int i), .val (.int z117)] [(.int (z120 - (1 : Int32))), (.int i), (.ref b3)]))
          obtain ⟨cl123, Ar123, hi123, -⟩ := F96.at (j := i) (own_ib_nn hbd) (by simpa using (own_ib_in hbd hbd.2.2.2.1))
          obtain ⟨T123, h123, X123, e123, W123, st123⟩ := stI X122 hx hZ e122 Ar123 (j := i) hi123 (g := (mkF m 83 #[.val (.ref p0), .val (.ref p1), .val (.int z120), .val (.int z121), .val (.int i), .val (.int z117)] [(.int (z120 - (1 : Int32))), (.int i), (.ref b3)])) rfl rfl (hb hby d3_83)
          have F124 : Exa Z h123 p0 "com/example/onward/onward/explore/Packing" := F88.wr W123
          have F125 : Fld Z h123 p0 "com/example/onward/onward/explore/Packing" "word" "[I" (.ref b3) := F89.other W123 (Or.inl ne4)
          have F126 : Fld Z h123 p0 "com/example/onward/onward/explore/Packing" "shift" "[I" (.ref b28) := F90.other W123 (Or.inl ne4)
          have F127 : Fld Z h123 p0 "com/example/onward/onward/explore/Packing" "mask" "[J" (.ref b56) := F91.other W123 (Or.inl ne4)
          have F128 : Fld Z h123 p0 "com/example/onward/onward/explore/Packing" "words" "I" (.int (0 : Int32)) := F92.other W123 (Or.inl ne4)
          have F129 : ArL Z h123 p1 .int (List.map Value.int xs) := F93.other W123 ne5
          have F130 : n0 ≤ h123.size := Nat.le_trans F94 (Keep.of_wr W123).1
          have F131 : Keep h0 h123 [p0] := F95.wr W123 (Or.inr sz7)
          have F132 : ArL Z h123 b3 .int (List.map Value.int (List.set W (i).toNatClampNeg (z120 - (1 : Int32)))) := ArL.setI (xs := W) F96 W123
          have F133 : ArL Z h123 b28 .int (List.map Value.int S) := F97.other W123 (Ne.symm ne31)
          have F134 : ArL Z h123 b56 .long (List.map Value.long M) := F98.other W123 (Ne.symm ne59)
          obtain ⟨Lo123, Y123, N123⟩ := pk X123 (Fr.snoc X123 N115 g6)
          refine Go.back st123 ?_
          show Go p.tables e below (P3 Z p0 p1 xs h0 n0 s) (T123.setTop (mkF m 84 #[.val (.ref p0), .val (.ref p1), .val (.int z120), .val (.int z121), .val (.int i), .val (.int z117)] []))
          refine Go.back (fun t k => XS.aloadN Y123.here hx rfl (hb hby d3_84) rfl rfl  k) ?_
          show Go p.tables e below (P3 Z p0 p1 xs h0 n0 s) (T123.setTop (mkF m 85 #[.val (.ref p0), .val (.ref p1), .val (.int z120), .val (.int z121), .val (.int i), .val (.int z117)] [(.ref p0)]))
          obtain ⟨T135, X135, e135, st135⟩ := getF Y123 hx hZ hown (host := "") (Or.inl (hw _ (List.mem_of_getElem? (i := 23) rfl))) Via.refl e123 F126 (g := (mkF m 85 #[.val (.ref p0), .val (.ref p1), .val (.int z120), .val (.int z121), .val (.int i), .val (.int z117)] [(.ref p0)])) rfl rfl (hb hby d3_85)
          refine Go.back st135 ?_
          show Go p.tables e below (P3 Z p0 p1 xs h0 n0 s) (T135.setTop (mkF m 88 #[.val (.ref p0), .val (.ref p1), .val (.int z120), .val (.int z121), .val (.int i), .val (.int z117)] [(.ref b28)]))
          refine Go.back (fun t k => XS.iload X135.here hx rfl (hb hby d3_88) rfl  k) ?_
          show Go p.tables e below (P3 Z p0 p1 xs h0 n0 s) (T135.setTop (mkF m 90 #[.val (.ref p0), .val (.ref p1), .val (.int z120), .val (.int z121), .val (.int i), .val (.int z117)] [(.int i), (.ref b28)]))
          refine Go.back (fun t k => XS.iloadN X135.here hx rfl (hb hby d3_90) rfl  k) ?_
          show Go p.tables e below (P3 Z p0 p1 xs h0 n0 s) (T135.setTop (mkF m 91 #[.val (.ref p0), .val (.ref p1), .val (.int z120), .val (.int z121), .val (.int i), .val (.int z117)] [(.int z121), (.int i), (.ref b28)]))
          obtain ⟨cl136, Ar136, hi136, -⟩ := F133.at (j := i) (own_ib_nn hbd) (by simpa using (own_ib_in hbd hbd.2.2.2.2.1))
          obtain ⟨T136, h136, X136, e136, W136, st136⟩ := stI X135 hx hZ e135 Ar136 (j := i) hi136 (g := (mkF m 91 #[.val (.ref p0), .val (.ref p1), .val (.int z120), .val (.int z121), .val (.int i), .val (.int z117)] [(.int z121), (.int i), (.ref b28)])) rfl rfl (hb hby d3_91)
          have F137 : Exa Z h136 p0 "com/example/onward/onward/explore/Packing" := F124.wr W136
          have F138 : Fld Z h136 p0 "com/example/onward/onward/explore/Packing" "word" "[I" (.ref b3) := F125.other W136 (Or.inl ne29)
          have F139 : Fld Z h136 p0 "com/example/onward/onward/explore/Packing" "shift" "[I" (.ref b28) := F126.other W136 (Or.inl ne29)
          have F140 : Fld Z h136 p0 "com/example/onward/onward/explore/Packing" "mask" "[J" (.ref b56) := F127.other W136 (Or.inl ne29)
          have F141 : Fld Z h136 p0 "com/example/onward/onward/explore/Packing" "words" "I" (.int (0 : Int32)) := F128.other W136 (Or.inl ne29)
          have F142 : ArL Z h136 p1 .int (List.map Value.int xs) := F129.other W136 ne30
          have F143 : n0 ≤ h136.size := Nat.le_trans F130 (Keep.of_wr W136).1
          have F144 : Keep h0 h136 [p0] := F131.wr W136 (Or.inr sz33)
          have F145 : ArL Z h136 b3 .int (List.map Value.int (List.set W (i).toNatClampNeg (z120 - (1 : Int32)))) := F132.other W136 ne31
          have F146 : ArL Z h136 b28 .int (List.map Value.int (List.set S (i).toNatClampNeg z121)) := ArL.setI (xs := S) F133 W136
          have F147 : ArL Z h136 b56 .long (List.map Value.long M) := F134.other W136 (Ne.symm ne60)
          obtain ⟨Lo136, Y136, N136⟩ := pk X136 (Fr.snoc X136 N123 g32)
          refine Go.back st136 ?_
          show Go p.tables e below (P3 Z p0 p1 xs h0 n0 s) (T136.setTop (mkF m 92 #[.val (.ref p0), .val (.ref p1), .val (.int z120), .val (.int z121), .val (.int i), .val (.int z117)] []))
          refine Go.back (fun t k => XS.aloadN Y136.here hx rfl (hb hby d3_92) rfl rfl  k) ?_
          show Go p.tables e below (P3 Z p0 p1 xs h0 n0 s) (T136.setTop (mkF m 93 #[.val (.ref p0), .val (.ref p1), .val (.int z120), .val (.int z121), .val (.int i), .val (.int z117)] [(.ref p0)]))
          obtain ⟨T148, X148, e148, st148⟩ := getF Y136 hx hZ hown (host := "") (Or.inl (hw _ (List.mem_of_getElem? (i := 25) rfl))) Via.refl e136 F140 (g := (mkF m 93 #[.val (.ref p0), .val (.ref p1), .val (.int z120), .val (.int z121), .val (.int i), .val (.int z117)] [(.ref p0)])) rfl rfl (hb hby d3_93)
          refine Go.back st148 ?_
          show Go p.tables e below (P3 Z p0 p1 xs h0 n0 s) (T148.setTop (mkF m 96 #[.val (.ref p0), .val (.ref p1), .val (.int z120), .val (.int z121), .val (.int i), .val (.int z117)] [(.ref b56)]))
          refine Go.back (fun t k => XS.iload X148.here hx rfl (hb hby d3_96) rfl  k) ?_
          show Go p.tables e below (P3 Z p0 p1 xs h0 n0 s) (T148.setTop (mkF m 98 #[.val (.ref p0), .val (.ref p1), .val (.int z120), .val (.int z121), .val (.int i), .val (.int z117)] [(.int i), (.ref b56)]))
          refine Go.back (fun t k => XS.lconst X148.here hx rfl (hb hby d3_98) k) ?_
          show Go p.tables e below (P3 Z p0 p1 xs h0 n0 s) (T148.setTop (mkF m 99 #[.val (.ref p0), .val (.ref p1), .val (.int z120), .val (.int z121), .val (.int i), .val (.int z117)] [(.long (1 : Int64)), (.int i), (.ref b56)]))
          refine Go.back (fun t k => XS.iload X148.here hx rfl (hb hby d3_99) rfl  k) ?_
          show Go p.tables e below (P3 Z p0 p1 xs h0 n0 s) (T148.setTop (mkF m 101 #[.val (.ref p0), .val (.ref p1), .val (.int z120), .val (.int z121), .val (.int i), .val (.int z117)] [(.int z117), (.long (1 : Int64)), (.int i), (.ref b56)]))
          refine Go.back (fun t k => XS.lshl X148.here hx rfl (hb hby d3_101) rfl k) ?_
          show Go p.tables e below (P3 Z p0 p1 xs h0 n0 s) (T148.setTop (mkF m 102 #[.val (.ref p0), .val (.ref p1), .val (.int z120), .val (.int z121), .val (.int i), .val (.int z117)] [(.long (((1 : Int64) <<< (z117 &&& 0x3f).toInt64))), (.int i), (.ref b56)]))
          refine Go.back (fun t k => XS.lconst X148.here hx rfl (hb hby d3_102) k) ?_
          show Go p.tables e below (P3 Z p0 p1 xs h0 n0 s) (T148.setTop (mkF m 103 #[.val (.ref p0), .val (.ref p1), .val (.int z120), .val (.int z121), .val (.int i), .val (.int z117)] [(.long (1 : Int64)), (.long (((1 : Int64) <<< (z117 &&& 0x3f).toInt64))), (.int i), (.ref b56)]))
          refine Go.back (fun t k => XS.lsub X148.here hx rfl (hb hby d3_103) rfl k) ?_
          show Go p.tables e below (P3 Z p0 p1 xs h0 n0 s) (T148.setTop (mkF m 104 #[.val (.ref p0), .val (.ref p1), .val (.int z120), .val (.int z121), .val (.int i), .val (.int z117)] [(.long ((((1 : Int64) <<< (z117 &&& 0x3f).toInt64)) - (1 : Int64))), (.int i), (.ref b56)]))
          obtain ⟨cl149, Ar149, hi149, -⟩ := F147.at (j := i) (own_ib_nn hbd) (by simpa using (own_ib_in hbd hbd.2.2.2.2.2))
          obtain ⟨T149, h149, X149, e149, W149, st149⟩ := stJ X148 hx hZ e148 Ar149 (j := i) hi149 (g := (mkF m 104 #[.val (.ref p0), .val (.ref p1), .val (.int z120), .val (.int z121), .val (.int i), .val (.int z117)] [(.long ((((1 : Int64) <<< (z117 &&& 0x3f).toInt64)) - (1 : Int64))), (.int i), (.ref b56)])) rfl rfl (hb hby d3_104)
          have F150 : Exa Z h149 p0 "com/example/onward/onward/explore/Packing" := F137.wr W149
          have F151 : Fld Z h149 p0 "com/example/onward/onward/explore/Packing" "word" "[I" (.ref b3) := F138.other W149 (Or.inl ne57)
          have F152 : Fld Z h149 p0 "com/example/onward/onward/explore/Packing" "shift" "[I" (.ref b28) := F139.other W149 (Or.inl ne57)
          have F153 : Fld Z h149 p0 "com/example/onward/onward/explore/Packing" "mask" "[J" (.ref b56) := F140.other W149 (Or.inl ne57)
          have F154 : Fld Z h149 p0 "com/example/onward/onward/explore/Packing" "words" "I" (.int (0 : Int32)) := F141.other W149 (Or.inl ne57)
          have F155 : ArL Z h149 p1 .int (List.map Value.int xs) := F142.other W149 ne58
          have F156 : n0 ≤ h149.size := Nat.le_trans F143 (Keep.of_wr W149).1
          have F157 : Keep h0 h149 [p0] := F144.wr W149 (Or.inr sz62)
          have F158 : ArL Z h149 b3 .int (List.map Value.int (List.set W (i).toNatClampNeg (z120 - (1 : Int32)))) := F145.other W149 ne59
          have F159 : ArL Z h149 b28 .int (List.map Value.int (List.set S (i).toNatClampNeg z121)) := F146.other W149 ne60
          have F160 : ArL Z h149 b56 .long (List.map Value.long (List.set M (i).toNatClampNeg ((((1 : Int64) <<< (z117 &&& 0x3f).toInt64)) - (1 : Int64)))) := ArL.setJ (xs := M) F147 W149
          obtain ⟨Lo149, Y149, N149⟩ := pk X149 (Fr.snoc X149 N136 g61)
          refine Go.back st149 ?_
          show Go p.tables e below (P3 Z p0 p1 xs h0 n0 s) (T149.setTop (mkF m 105 #[.val (.ref p0), .val (.ref p1), .val (.int z120), .val (.int z121), .val (.int i), .val (.int z117)] []))
          refine Go.back (fun t k => XS.iloadN Y149.here hx rfl (hb hby d3_105) rfl  k) ?_
          show Go p.tables e below (P3 Z p0 p1 xs h0 n0 s) (T149.setTop (mkF m 106 #[.val (.ref p0), .val (.ref p1), .val (.int z120), .val (.int z121), .val (.int i), .val (.int z117)] [(.int z121)]))
          refine Go.back (fun t k => XS.iload Y149.here hx rfl (hb hby d3_106) rfl  k) ?_
          show Go p.tables e below (P3 Z p0 p1 xs h0 n0 s) (T149.setTop (mkF m 108 #[.val (.ref p0), .val (.ref p1), .val (.int z120), .val (.int z121), .val (.int i), .val (.int z117)] [(.int z117), (.int z121)]))
          refine Go.back (fun t k => XS.iadd Y149.here hx rfl (hb hby d3_108) rfl k) ?_
          show Go p.tables e below (P3 Z p0 p1 xs h0 n0 s) (T149.setTop (mkF m 109 #[.val (.ref p0), .val (.ref p1), .val (.int z120), .val (.int z121), .val (.int i), .val (.int z117)] [(.int (z121 + z117))]))
          refine Go.back (fun t k => XS.istoreN Y149.here hx rfl (hb hby d3_109) rfl (l' := #[.val (.ref p0), .val (.ref p1), .val (.int z120), .val (.int (z121 + z117)), .val (.int i), .val (.int z117)]) rfl k) ?_
          show Go p.tables e below (P3 Z p0 p1 xs h0 n0 s) (T149.setTop (mkF m 110 #[.val (.ref p0), .val (.ref p1), .val (.int z120), .val (.int (z121 + z117)), .val (.int i), .val (.int z117)] []))
          refine Go.back (fun t k => XS.iinc Y149.here hx rfl (hb hby d3_110) rfl (l' := #[.val (.ref p0), .val (.ref p1), .val (.int z120), .val (.int (z121 + z117)), .val (.int (i + (1 : Int32))), .val (.int z117)]) rfl k) ?_
          show Go p.tables e below (P3 Z p0 p1 xs h0 n0 s) (T149.setTop (mkF m 113 #[.val (.ref p0), .val (.ref p1), .val (.int z120), .val (.int (z121 + z117)), .val (.int (i + (1 : Int32))), .val (.int z117)] []))
          refine Go.back (fun t k => XS.goto Y149.here hx rfl (pc0 := 113) (pc' := 35) rfl (hb hby d3_113) (by decide) (by decide) k) ?_
          show Go p.tables e below (P3 Z p0 p1 xs h0 n0 s) (T149.setTop (mkF m 35 #[.val (.ref p0), .val (.ref p1), .val (.int z120), .val (.int (z121 + z117)), .val (.int (i + (1 : Int32))), .val (.int z117)] []))
          exact ih z120 (z121 + z117) (i + (1 : Int32)) (.val (.int z117)) (One.val rfl) (List.set W (i).toNatClampNeg (z120 - (1 : Int32))) (List.set S (i).toNatClampNeg z121) (List.set M (i).toNatClampNeg ((((1 : Int64) <<< (z117 &&& 0x3f).toInt64)) - (1 : Int64))) _ _ Y149 N149 h149 e149 F150 F151 F152 F153 F154 F155 F156 F157 F158 F159 F160 (own_ib_next hbd (by simp) (by simp) (by simp)) (by subst hz121; subst hz120; subst hz117; exact hr)
        have r161 : (if (64 : Int32) < (u + z117) then (w + (1 : Int32)) else w) = (if (64 : Int32) < (u + z117) then (w + (1 : Int32)) else w) := rfl
        have r162 : (if (64 : Int32) < (u + z117) then (0 : Int32) else u) = (if (64 : Int32) < (u + z117) then (0 : Int32) else u) := rfl
        by_cases hc118 : (64 : Int32) < (u + z117)
        · have r163 := r161.trans (if_pos hc118)
          have r164 := r162.trans (if_pos hc118)
          refine Go.back (fun t k => XS.icmpNo Y115.here hx rfl (hb hby d3_66) rfl (tlt hc118).2.2.2 k) ?_
          show Go p.tables e below (P3 Z p0 p1 xs h0 n0 s) (T115.setTop (mkF m 69 #[.val (.ref p0), .val (.ref p1), .val (.int w), .val (.int u), .val (.int i), .val (.int z117)] []))
          refine Go.back (fun t k => XS.iinc Y115.here hx rfl (hb hby d3_69) rfl (l' := #[.val (.ref p0), .val (.ref p1), .val (.int (w + (1 : Int32))), .val (.int u), .val (.int i), .val (.int z117)]) rfl k) ?_
          show Go p.tables e below (P3 Z p0 p1 xs h0 n0 s) (T115.setTop (mkF m 72 #[.val (.ref p0), .val (.ref p1), .val (.int (w + (1 : Int32))), .val (.int u), .val (.int i), .val (.int z117)] []))
          refine Go.back (fun t k => XS.iconst Y115.here hx rfl (hb hby d3_72) k) ?_
          show Go p.tables e below (P3 Z p0 p1 xs h0 n0 s) (T115.setTop (mkF m 73 #[.val (.ref p0), .val (.ref p1), .val (.int (w + (1 : Int32))), .val (.int u), .val (.int i), .val (.int z117)] [(.int (0 : Int32))]))
          refine Go.back (fun t k => XS.istoreN Y115.here hx rfl (hb hby d3_73) rfl (l' := #[.val (.ref p0), .val (.ref p1), .val (.int (w + (1 : Int32))), .val (.int (0 : Int32)), .val (.int i), .val (.int z117)]) rfl k) ?_
          show Go p.tables e below (P3 Z p0 p1 xs h0 n0 s) (T115.setTop (mkF m 74 #[.val (.ref p0), .val (.ref p1), .val (.int (w + (1 : Int32))), .val (.int (0 : Int32)), .val (.int i), .val (.int z117)] []))
          exact J119 (w + (1 : Int32)) (0 : Int32) r163.symm r164.symm
        · have r165 := r161.trans (if_neg hc118)
          have r166 := r162.trans (if_neg hc118)
          refine Go.back (fun t k => XS.icmpYes Y115.here hx rfl (pc0 := 66) (pc' := 74) rfl (hb hby d3_66) rfl (flt hc118).2.2.2 (by decide) (by decide) k) ?_
          show Go p.tables e below (P3 Z p0 p1 xs h0 n0 s) (T115.setTop (mkF m 74 #[.val (.ref p0), .val (.ref p1), .val (.int w), .val (.int u), .val (.int i), .val (.int z117)] []))
          exact J119 w u r165.symm r166.symm
      exact J116 _ rfl
  exact LOOP86 5 (1 : Int32) (0 : Int32) (0 : Int32) (.unset) One.u [(0 : Int32), (0 : Int32), (0 : Int32), (0 : Int32), (0 : Int32)] [(0 : Int32), (0 : Int32), (0 : Int32), (0 : Int32), (0 : Int32)] [(0 : Int64), (0 : Int64), (0 : Int64), (0 : Int64), (0 : Int64)] _ _ Y74 N74 h74 e74 F75 F76 F77 F78 F79 F80 F81 F82 F83 F84 F85 ⟨by decide, by decide, by decide, rfl, rfl, rfl⟩ rfl
theorem d1_0 : decode method_4_code 0 = .ok (.iload_n 0, 1) := by decide +kernel
theorem d1_1 : decode method_4_code 1 = .ok (.ifCond .ne 7, 3) := by decide +kernel
theorem d1_4 : decode method_4_code 4 = .ok (.iload_n 1, 1) := by decide +kernel
theorem d1_5 : decode method_4_code 5 = .ok (.iconst 1, 1) := by decide +kernel
theorem d1_6 : decode method_4_code 6 = .ok (.iand, 1) := by decide +kernel
theorem d1_7 : decode method_4_code 7 = .ok (.ireturn, 1) := by decide +kernel
theorem d1_8 : decode method_4_code 8 = .ok (.iconst 1, 1) := by decide +kernel
theorem d1_9 : decode method_4_code 9 = .ok (.iload_n 0, 1) := by decide +kernel
theorem d1_10 : decode method_4_code 10 = .ok (.iconst 1, 1) := by decide +kernel
theorem d1_11 : decode method_4_code 11 = .ok (.isub, 1) := by decide +kernel
theorem d1_12 : decode method_4_code 12 = .ok (.ishl, 1) := by decide +kernel
theorem d1_13 : decode method_4_code 13 = .ok (.istore_n 2, 1) := by decide +kernel
theorem d1_14 : decode method_4_code 14 = .ok (.iload_n 2, 1) := by decide +kernel
theorem d1_15 : decode method_4_code 15 = .ok (.iload_n 1, 1) := by decide +kernel
theorem d1_16 : decode method_4_code 16 = .ok (.iload_n 2, 1) := by decide +kernel
theorem d1_17 : decode method_4_code 17 = .ok (.iconst 1, 1) := by decide +kernel
theorem d1_18 : decode method_4_code 18 = .ok (.isub, 1) := by decide +kernel
theorem d1_19 : decode method_4_code 19 = .ok (.iand, 1) := by decide +kernel
theorem d1_20 : decode method_4_code 20 = .ok (.ior, 1) := by decide +kernel
theorem d1_21 : decode method_4_code 21 = .ok (.istore_n 3, 1) := by decide +kernel
theorem d1_22 : decode method_4_code 22 = .ok (.iload_n 3, 1) := by decide +kernel
theorem d1_23 : decode method_4_code 23 = .ok (.ldc 34, 2) := by decide +kernel
theorem d1_25 : decode method_4_code 25 = .ok (.if_icmp .ne 7, 3) := by decide +kernel
theorem d1_28 : decode method_4_code 28 = .ok (.iload_n 3, 1) := by decide +kernel
theorem d1_29 : decode method_4_code 29 = .ok (.iconst 1, 1) := by decide +kernel
theorem d1_30 : decode method_4_code 30 = .ok (.isub, 1) := by decide +kernel
theorem d1_31 : decode method_4_code 31 = .ok (.istore_n 3, 1) := by decide +kernel
theorem d1_32 : decode method_4_code 32 = .ok (.iload_n 3, 1) := by decide +kernel
theorem d1_33 : decode method_4_code 33 = .ok (.iconst 1, 1) := by decide +kernel
theorem d1_34 : decode method_4_code 34 = .ok (.iadd, 1) := by decide +kernel
theorem d1_35 : decode method_4_code 35 = .ok (.ireturn, 1) := by decide +kernel
def f1 (p0 : Int32) (p1 : Int32) : Int32 := (if p0 = (0 : Int32) then (p1 &&& (1 : Int32)) else (let z5 : Int32 := (((1 : Int32) <<< ((p0 - (1 : Int32)) &&& 31))); (let z8 : Int32 := (z5 ||| (p1 &&& (z5 - (1 : Int32)))); (let z12 : Int32 := (if z8 = (2147483647 : Int32) then (z8 - (1 : Int32)) else z8); (z12 + (1 : Int32))))))
def Q1 (p0 : Int32) (p1 : Int32) (h0 : Heap) (n0 : Nat) (v : Option Value) (h : Heap) (L : List Loc) : Prop := v = some (.int (f1 p0 p1)) ∧ Fr n0 L ∧ h = h0
abbrev rmm1 : Room := { frames := 0, cells := 0, slots := 0, locals := 0 }
abbrev P1 (p0 : Int32) (p1 : Int32) (h0 : Heap) (n0 : Nat) (s : State) : Outcome → State → Prop := fun o U' => ∃ v L, o = .returned v ∧ Q1 p0 p1 h0 n0 v U'.heap L ∧ FrameEnd s o U' L rmm1.cells rmm1.slots
theorem pn_1 : plainName "com/example/onward/onward/explore/PackingBitsOfPinLaw" = true := by first | (simp [plainName, overriddenIn]; done) | decide +kernel
theorem ef_1 (m : MethodId) (p0 : Int32) (p1 : Int32) : entryFrame m #[(.int p0), (.int p1)] 4 = mkF m 0 #[.val (.int p0), .val (.int p1), .unset, .unset] [] := by first | (simp [entryFrame, mkF, argsToLocals, Value.category]; done) | rfl
set_option maxRecDepth 65536 in
set_option maxHeartbeats 40000000 in
theorem rm1 (l : Launch) (Z : State) (a0 : Array Value) (hw : ∀ d ∈ tables_1, d.before a0 Z = true) (ws : List Jvm.Cond) (p0 : Int32) (p1 : Int32) (h0 : Heap) (n0 : Nat) :
    MetFree l (⟨"com/example/onward/onward/explore/PackingBitsOfPinLaw", "sizeFor", "(II)I"⟩ : MethodName) (head1 (Jvm.Cond.code (⟨"com/example/onward/onward/explore/PackingBitsOfPinLaw", "sizeFor", "(II)I"⟩ : MethodName) method_4_code 4 (some .int) :: ws) rmm1) (fun a U => a = #[(.int p0), (.int p1)] ∧ Z.Warmed39 U.vm ∧ U.heap = h0) (fun _ _ _ _ _ => True) (fun _ U o U' => ∃ v L, o = .returned v ∧ Q1 p0 p1 h0 n0 v U'.heap L ∧ FrameEnd U o U' L rmm1.cells rmm1.slots) := by
  refine MetFree.of_bodySF (plainFor_of_name pn_1) hisR ?_
  intro p e s m args below meth c s₁ Bd hml0 hP hK
  obtain ⟨rfl, hZ, hh⟩ := hP
  have hx := Bd.exec
  have hby := Bd.bytes
  have hml : c.maxLocals = 4 := hml0
  have hown : s.vm.findClass "com/example/onward/onward/explore/PackingBitsOfPinLaw" = some m.cls := findClass_of_methodNamed Bd.named
  have hnm := (name_of_methodNamed Bd.named Bd.method).1
  have X0 : Stand p l e rmm1 s m #[(.int p0), (.int p1)] below meth c s₁ [] 0 0 := Stand.of_body Bd
  have e0 : s₁.heap = h0 := by rw [← hh, Bd.state]; rfl
  have N0 := Fr.nil n0
  show Go p.tables e below (P1 p0 p1 h0 n0 s) (s₁.setTop (entryFrame m #[(.int p0), (.int p1)] 4))
  refine Go.back (fun t k => castTop (ef_1 m p0 p1) k) ?_
  show Go p.tables e below (P1 p0 p1 h0 n0 s) (s₁.setTop (mkF m 0 #[.val (.int p0), .val (.int p1), .unset, .unset] []))
  have hf : f1 p0 p1 = (if p0 = (0 : Int32) then (p1 &&& (1 : Int32)) else (let z5 : Int32 := (((1 : Int32) <<< ((p0 - (1 : Int32)) &&& 31))); (let z8 : Int32 := (z5 ||| (p1 &&& (z5 - (1 : Int32)))); (let z12 : Int32 := (if z8 = (2147483647 : Int32) then (z8 - (1 : Int32)) else z8); (z12 + (1 : Int32)))))) := rfl
  refine Go.back (fun t k => XS.iloadN X0.here hx rfl (hb hby d1_0) rfl  k) ?_
  show Go p.tables e below (P1 p0 p1 h0 n0 s) (s₁.setTop (mkF m 1 #[.val (.int p0), .val (.int p1), .unset, .unset] [(.int p0)]))
  by_cases hc1 : p0 = (0 : Int32)
  · have r2 := hf.trans (if_pos hc1)
    refine Go.back (fun t k => XS.ifNo X0.here hx rfl (hb hby d1_1) rfl ((if0 _ _).trans (teq hc1).2) k) ?_
    show Go p.tables e below (P1 p0 p1 h0 n0 s) (s₁.setTop (mkF m 4 #[.val (.int p0), .val (.int p1), .unset, .unset] []))
    refine Go.back (fun t k => XS.iloadN X0.here hx rfl (hb hby d1_4) rfl  k) ?_
    show Go p.tables e below (P1 p0 p1 h0 n0 s) (s₁.setTop (mkF m 5 #[.val (.int p0), .val (.int p1), .unset, .unset] [(.int p1)]))
    refine Go.back (fun t k => XS.iconst X0.here hx rfl (hb hby d1_5) k) ?_
    show Go p.tables e below (P1 p0 p1 h0 n0 s) (s₁.setTop (mkF m 6 #[.val (.int p0), .val (.int p1), .unset, .unset] [(.int (1 : Int32)), (.int p1)]))
    refine Go.back (fun t k => XS.iand X0.here hx rfl (hb hby d1_6) rfl k) ?_
    show Go p.tables e below (P1 p0 p1 h0 n0 s) (s₁.setTop (mkF m 7 #[.val (.int p0), .val (.int p1), .unset, .unset] [(.int (p1 &&& (1 : Int32)))]))
    exact Go.retI X0 hx Bd.returns (hb hby d1_7) Bd.notSynchronized ⟨by rw [r2], N0, e0⟩ (by decide) (by decide)
  · have r3 := hf.trans (if_neg hc1)
    refine Go.back (fun t k => XS.ifYes X0.here hx rfl (pc0 := 1) (pc' := 8) rfl (hb hby d1_1) rfl ((if0 _ _).trans (feq hc1).2) (by decide) (by decide) k) ?_
    show Go p.tables e below (P1 p0 p1 h0 n0 s) (s₁.setTop (mkF m 8 #[.val (.int p0), .val (.int p1), .unset, .unset] []))
    refine Go.back (fun t k => XS.iconst X0.here hx rfl (hb hby d1_8) k) ?_
    show Go p.tables e below (P1 p0 p1 h0 n0 s) (s₁.setTop (mkF m 9 #[.val (.int p0), .val (.int p1), .unset, .unset] [(.int (1 : Int32))]))
    refine Go.back (fun t k => XS.iloadN X0.here hx rfl (hb hby d1_9) rfl  k) ?_
    show Go p.tables e below (P1 p0 p1 h0 n0 s) (s₁.setTop (mkF m 10 #[.val (.int p0), .val (.int p1), .unset, .unset] [(.int p0), (.int (1 : Int32))]))
    refine Go.back (fun t k => XS.iconst X0.here hx rfl (hb hby d1_10) k) ?_
    show Go p.tables e below (P1 p0 p1 h0 n0 s) (s₁.setTop (mkF m 11 #[.val (.int p0), .val (.int p1), .unset, .unset] [(.int (1 : Int32)), (.int p0), (.int (1 : Int32))]))
    refine Go.back (fun t k => XS.isub X0.here hx rfl (hb hby d1_11) rfl k) ?_
    show Go p.tables e below (P1 p0 p1 h0 n0 s) (s₁.setTop (mkF m 12 #[.val (.int p0), .val (.int p1), .unset, .unset] [(.int (p0 - (1 : Int32))), (.int (1 : Int32))]))
    refine Go.back (fun t k => XS.ishl X0.here hx rfl (hb hby d1_12) rfl k) ?_
    show Go p.tables e below (P1 p0 p1 h0 n0 s) (s₁.setTop (mkF m 13 #[.val (.int p0), .val (.int p1), .unset, .unset] [(.int (((1 : Int32) <<< ((p0 - (1 : Int32)) &&& 31))))]))
    refine Go.back (fun t k => XS.istoreN X0.here hx rfl (hb hby d1_13) rfl (l' := #[.val (.int p0), .val (.int p1), .val (.int (((1 : Int32) <<< ((p0 - (1 : Int32)) &&& 31)))), .unset]) rfl k) ?_
    show Go p.tables e below (P1 p0 p1 h0 n0 s) (s₁.setTop (mkF m 14 #[.val (.int p0), .val (.int p1), .val (.int (((1 : Int32) <<< ((p0 - (1 : Int32)) &&& 31)))), .unset] []))
    have J4 : ∀ (z5 : Int32) (hz5 : z5 = (((1 : Int32) <<< ((p0 - (1 : Int32)) &&& 31)))), Go p.tables e below (P1 p0 p1 h0 n0 s) (s₁.setTop (mkF m 14 #[.val (.int p0), .val (.int p1), .val (.int z5), .unset] [])) := by
      intro z5 hz5
      have r6 : f1 p0 p1 = (let z8 : Int32 := (z5 ||| (p1 &&& (z5 - (1 : Int32)))); (let z12 : Int32 := (if z8 = (2147483647 : Int32) then (z8 - (1 : Int32)) else z8); (z12 + (1 : Int32)))) := by subst hz5; exact r3
      show Go p.tables e below (P1 p0 p1 h0 n0 s) (s₁.setTop (mkF m 14 #[.val (.int p0), .val (.int p1), .val (.int z5), .unset] []))
      refine Go.back (fun t k => XS.iloadN X0.here hx rfl (hb hby d1_14) rfl  k) ?_
      show Go p.tables e below (P1 p0 p1 h0 n0 s) (s₁.setTop (mkF m 15 #[.val (.int p0), .val (.int p1), .val (.int z5), .unset] [(.int z5)]))
      refine Go.back (fun t k => XS.iloadN X0.here hx rfl (hb hby d1_15) rfl  k) ?_
      show Go p.tables e below (P1 p0 p1 h0 n0 s) (s₁.setTop (mkF m 16 #[.val (.int p0), .val (.int p1), .val (.int z5), .unset] [(.int p1), (.int z5)]))
      refine Go.back (fun t k => XS.iloadN X0.here hx rfl (hb hby d1_16) rfl  k) ?_
      show Go p.tables e below (P1 p0 p1 h0 n0 s) (s₁.setTop (mkF m 17 #[.val (.int p0), .val (.int p1), .val (.int z5), .unset] [(.int z5), (.int p1), (.int z5)]))
      refine Go.back (fun t k => XS.iconst X0.here hx rfl (hb hby d1_17) k) ?_
      show Go p.tables e below (P1 p0 p1 h0 n0 s) (s₁.setTop (mkF m 18 #[.val (.int p0), .val (.int p1), .val (.int z5), .unset] [(.int (1 : Int32)), (.int z5), (.int p1), (.int z5)]))
      refine Go.back (fun t k => XS.isub X0.here hx rfl (hb hby d1_18) rfl k) ?_
      show Go p.tables e below (P1 p0 p1 h0 n0 s) (s₁.setTop (mkF m 19 #[.val (.int p0), .val (.int p1), .val (.int z5), .unset] [(.int (z5 - (1 : Int32))), (.int p1), (.int z5)]))
      refine Go.back (fun t k => XS.iand X0.here hx rfl (hb hby d1_19) rfl k) ?_
      show Go p.tables e below (P1 p0 p1 h0 n0 s) (s₁.setTop (mkF m 20 #[.val (.int p0), .val (.int p1), .val (.int z5), .unset] [(.int (p1 &&& (z5 - (1 : Int32)))), (.int z5)]))
      refine Go.back (fun t k => XS.ior X0.here hx rfl (hb hby d1_20) rfl k) ?_
      show Go p.tables e below (P1 p0 p1 h0 n0 s) (s₁.setTop (mkF m 21 #[.val (.int p0), .val (.int p1), .val (.int z5), .unset] [(.int (z5 ||| (p1 &&& (z5 - (1 : Int32)))))]))
      refine Go.back (fun t k => XS.istoreN X0.here hx rfl (hb hby d1_21) rfl (l' := #[.val (.int p0), .val (.int p1), .val (.int z5), .val (.int (z5 ||| (p1 &&& (z5 - (1 : Int32)))))]) rfl k) ?_
      show Go p.tables e below (P1 p0 p1 h0 n0 s) (s₁.setTop (mkF m 22 #[.val (.int p0), .val (.int p1), .val (.int z5), .val (.int (z5 ||| (p1 &&& (z5 - (1 : Int32)))))] []))
      have J7 : ∀ (z8 : Int32) (hz8 : z8 = (z5 ||| (p1 &&& (z5 - (1 : Int32))))), Go p.tables e below (P1 p0 p1 h0 n0 s) (s₁.setTop (mkF m 22 #[.val (.int p0), .val (.int p1), .val (.int z5), .val (.int z8)] [])) := by
        intro z8 hz8
        have r9 : f1 p0 p1 = (let z12 : Int32 := (if z8 = (2147483647 : Int32) then (z8 - (1 : Int32)) else z8); (z12 + (1 : Int32))) := by subst hz8; exact r6
        show Go p.tables e below (P1 p0 p1 h0 n0 s) (s₁.setTop (mkF m 22 #[.val (.int p0), .val (.int p1), .val (.int z5), .val (.int z8)] []))
        refine Go.back (fun t k => XS.iloadN X0.here hx rfl (hb hby d1_22) rfl  k) ?_
        show Go p.tables e below (P1 p0 p1 h0 n0 s) (s₁.setTop (mkF m 23 #[.val (.int p0), .val (.int p1), .val (.int z5), .val (.int z8)] [(.int z8)]))
        refine Go.back (fun t k => X0.ldcInt hx hown (mvT hZ (hw _ (List.mem_of_getElem? (i := 6) rfl))) (g := (mkF m 23 #[.val (.int p0), .val (.int p1), .val (.int z5), .val (.int z8)] [(.int z8)])) rfl (hb hby d1_23) t k) ?_
        show Go p.tables e below (P1 p0 p1 h0 n0 s) (s₁.setTop (mkF m 25 #[.val (.int p0), .val (.int p1), .val (.int z5), .val (.int z8)] [(.int (2147483647 : Int32)), (.int z8)]))
        have J11 : ∀ (z12 : Int32) (hz12 : z12 = (if z8 = (2147483647 : Int32) then (z8 - (1 : Int32)) else z8)), Go p.tables e below (P1 p0 p1 h0 n0 s) (s₁.setTop (mkF m 32 #[.val (.int p0), .val (.int p1), .val (.int z5), .val (.int z12)] [])) := by
          intro z12 hz12
          have r13 : f1 p0 p1 = (z12 + (1 : Int32)) := by subst hz12; exact r9
          show Go p.tables e below (P1 p0 p1 h0 n0 s) (s₁.setTop (mkF m 32 #[.val (.int p0), .val (.int p1), .val (.int z5), .val (.int z12)] []))
          refine Go.back (fun t k => XS.iloadN X0.here hx rfl (hb hby d1_32) rfl  k) ?_
          show Go p.tables e below (P1 p0 p1 h0 n0 s) (s₁.setTop (mkF m 33 #[.val (.int p0), .val (.int p1), .val (.int z5), .val (.int z12)] [(.int z12)]))
          refine Go.back (fun t k => XS.iconst X0.here hx rfl (hb hby d1_33) k) ?_
          show Go p.tables e below (P1 p0 p1 h0 n0 s) (s₁.setTop (mkF m 34 #[.val (.int p0), .val (.int p1), .val (.int z5), .val (.int z12)] [(.int (1 : Int32)), (.int z12)]))
          refine Go.back (fun t k => XS.iadd X0.here hx rfl (hb hby d1_34) rfl k) ?_
          show Go p.tables e below (P1 p0 p1 h0 n0 s) (s₁.setTop (mkF m 35 #[.val (.int p0), .val (.int p1), .val (.int z5), .val (.int z12)] [(.int (z12 + (1 : Int32)))]))
          exact Go.retI X0 hx Bd.returns (hb hby d1_35) Bd.notSynchronized ⟨by rw [r13], N0, e0⟩ (by decide) (by decide)
        have r14 : (if z8 = (2147483647 : Int32) then (z8 - (1 : Int32)) else z8) = (if z8 = (2147483647 : Int32) then (z8 - (1 : Int32)) else z8) := rfl
        by_cases hc10 : z8 = (2147483647 : Int32)
        · have r15 := r14.trans (if_pos hc10)
          refine Go.back (fun t k => XS.icmpNo X0.here hx rfl (hb hby d1_25) rfl (teq hc10).2 k) ?_
          show Go p.tables e below (P1 p0 p1 h0 n0 s) (s₁.setTop (mkF m 28 #[.val (.int p0), .val (.int p1), .val (.int z5), .val (.int z8)] []))
          refine Go.back (fun t k => XS.iloadN X0.here hx rfl (hb hby d1_28) rfl  k) ?_
          show Go p.tables e below (P1 p0 p1 h0 n0 s) (s₁.setTop (mkF m 29 #[.val (.int p0), .val (.int p1), .val (.int z5), .val (.int z8)] [(.int z8)]))
          refine Go.back (fun t k => XS.iconst X0.here hx rfl (hb hby d1_29) k) ?_
          show Go p.tables e below (P1 p0 p1 h0 n0 s) (s₁.setTop (mkF m 30 #[.val (.int p0), .val (.int p1), .val (.int z5), .val (.int z8)] [(.int (1 : Int32)), (.int z8)]))
          refine Go.back (fun t k => XS.isub X0.here hx rfl (hb hby d1_30) rfl k) ?_
          show Go p.tables e below (P1 p0 p1 h0 n0 s) (s₁.setTop (mkF m 31 #[.val (.int p0), .val (.int p1), .val (.int z5), .val (.int z8)] [(.int (z8 - (1 : Int32)))]))
          refine Go.back (fun t k => XS.istoreN X0.here hx rfl (hb hby d1_31) rfl (l' := #[.val (.int p0), .val (.int p1), .val (.int z5), .val (.int (z8 - (1 : Int32)))]) rfl k) ?_
          show Go p.tables e below (P1 p0 p1 h0 n0 s) (s₁.setTop (mkF m 32 #[.val (.int p0), .val (.int p1), .val (.int z5), .val (.int (z8 - (1 : Int32)))] []))
          exact J11 (z8 - (1 : Int32)) r15.symm
        · have r16 := r14.trans (if_neg hc10)
          refine Go.back (fun t k => XS.icmpYes X0.here hx rfl (pc0 := 25) (pc' := 32) rfl (hb hby d1_25) rfl (feq hc10).2 (by decide) (by decide) k) ?_
          show Go p.tables e below (P1 p0 p1 h0 n0 s) (s₁.setTop (mkF m 32 #[.val (.int p0), .val (.int p1), .val (.int z5), .val (.int z8)] []))
          exact J11 z8 r16.symm
      exact J7 _ rfl
    exact J4 _ rfl
def own_pb (u w b : Int32) (es : List Int64) : Prop := es.length = 3 ∧ 1 ≤ (if (64 : Int32) < (u + b) then (w + (1 : Int32)) else w).toInt ∧ (if (64 : Int32) < (u + b) then (w + (1 : Int32)) else w).toInt ≤ 3
theorem own_pb_nn {u w b z : Int32} {es : List Int64} (h : own_pb u w b es) (hz : z = (if (64 : Int32) < (u + b) then (w + (1 : Int32)) else w)) : ¬ (z - (1 : Int32)) < (0 : Int32) := by
  have h1 := h.2.1; rw [← hz] at h1
  rw [Int32.lt_iff_toInt_lt, own_l0, own_sub1 h1]; omega
theorem own_pb_in {u w b z : Int32} {es : List Int64} (h : own_pb u w b es) (hz : z = (if (64 : Int32) < (u + b) then (w + (1 : Int32)) else w)) : (z - (1 : Int32)).toNatClampNeg < es.length := by
  have h1 := h.2.1; have h2 := h.2.2; rw [← hz] at h1 h2
  simp only [Int32.toNatClampNeg]; rw [own_sub1 h1, h.1]; omega
theorem own_pb_of {j : Nat} {u w b : Int32} {es : List Int64} (h : own_inv j u w) (hb : 0 ≤ b.toInt ∧ b.toInt ≤ 31) (hj : j ≤ 4) (hl : es.length = 3) : own_pb u w b es := by
  have d := own_inv_bd (own_inv_step h hb hj)
  exact ⟨hl, d.2.2.1, d.2.2.2.2.1⟩
theorem own_b31 (x : Int64) : 0 ≤ ((x &&& (31 : Int64)).toInt32).toInt ∧ ((x &&& (31 : Int64)).toInt32).toInt ≤ 31 := by
  have m := c_maskL x 31 5 (by decide) (by decide)
  have q := c_l2i (x &&& (31 : Int64)); have r := rng32 ((x &&& (31 : Int64)).toInt32)
  omega
theorem own_toInt32_le (n : Nat) : (Nat.toInt32 n).toInt ≤ n := by
  have e : (Nat.toInt32 n).toInt = (n : Int).bmod (2 ^ 32) := Int32.toInt_ofNat
  rw [e, Int.bmod]
  have h1 := Int.emod_nonneg (n : Int) (show ((2 ^ 32 : Nat) : Int) ≠ 0 by decide)
  have h2 : (n : Int) % ((2 ^ 32 : Nat) : Int) ≤ n := by omega
  split <;> omega
theorem own_sm {gs : List Int64} {nl p : Int32} (hl : (List.length gs).toInt32 = nl) (hn : ¬ p < (0 : Int32)) (c : p < nl) : p.toNatClampNeg < gs.length := by
  have h := own_toInt32_le gs.length
  rw [hl] at h
  rw [Int32.lt_iff_toInt_lt] at hn c
  rw [own_l0] at hn
  simp only [Int32.toNatClampNeg]; omega
theorem own_len3 {n : Nat} (h : n = 3) : n = 3 := h
def own_bits (ms W S : List Int32) (M : List Int64) : Nat → Int32 → List Int64 → List Int64
  | 0, _, G => G
  | n + 1, i, G => own_bits ms W S M n (i + (1 : Int32)) (if (List.getD ms (i).toNatClampNeg (0 : Int32)) = (0 : Int32) then G else (List.set G ((List.getD W (i).toNatClampNeg (0 : Int32))).toNatClampNeg ((List.getD G ((List.getD W (i).toNatClampNeg (0 : Int32))).toNatClampNeg (0 : Int64)) ||| ((List.getD M (i).toNatClampNeg (0 : Int64)) <<< ((List.getD S (i).toNatClampNeg (0 : Int32)) &&& 0x3f).toInt64))))
def own_bitsr (ms W S : List Int32) (M : List Int64) (w : Int32) : List Int64 := own_bits ms W S M 5 (0 : Int32) (List.replicate (w).toNatClampNeg (0 : Int64))
def own_w3 (w : Int32) : Prop := 1 ≤ w.toInt ∧ w.toInt ≤ 3
def own_wb (W : List Int32) (w : Int32) : Prop := ∀ k, k < W.length → 0 ≤ (List.getD W k (0 : Int32)).toInt ∧ (List.getD W k (0 : Int32)).toInt < w.toInt
theorem own_w_nn {w : Int32} (h : own_w3 w) : ¬ w < (0 : Int32) := by rw [Int32.lt_iff_toInt_lt, own_l0]; have := h.1; omega
theorem own_w_cap {w : Int32} (h : own_w3 w) : w.toNatClampNeg ≤ 3 := by have := h.2; simp only [Int32.toNatClampNeg]; omega
def own_jb (n : Nat) (i : Int32) (G : List Int64) (w : Int32) : Prop := 0 ≤ i.toInt ∧ i.toInt + n = 5 ∧ G.length = w.toNatClampNeg
theorem own_jb0 {w : Int32} (h : own_w3 w) : own_jb 5 (0 : Int32) (List.replicate (w).toNatClampNeg (0 : Int64)) w := ⟨by decide, by decide, by simp⟩
theorem own_jb_nn {n : Nat} {i w : Int32} {G : List Int64} (h : own_jb (n + 1) i G w) : ¬ i < (0 : Int32) := by rw [Int32.lt_iff_toInt_lt, own_l0]; have := h.1; omega
theorem own_jb_in {n k : Nat} {i w : Int32} {G : List Int64} (h : own_jb (n + 1) i G w) (hk : k = 5) : i.toNatClampNeg < k := by have := h.1; have := h.2.1; simp only [Int32.toNatClampNeg]; omega
theorem own_jb_z {i w : Int32} {G : List Int64} (h : own_jb 0 i G w) : ¬ i < (5 : Int32) := by rw [Int32.lt_iff_toInt_lt, show (5 : Int32).toInt = 5 from rfl]; have := h.2.1; omega
theorem own_jb_s {n : Nat} {i w : Int32} {G : List Int64} (h : own_jb (n + 1) i G w) : i < (5 : Int32) := by rw [Int32.lt_iff_toInt_lt, show (5 : Int32).toInt = 5 from rfl]; have := h.2.1; omega
theorem own_jb_next {n : Nat} {i w : Int32} {G G' : List Int64} (h : own_jb (n + 1) i G w) (hl : G'.length = G.length) : own_jb n (i + (1 : Int32)) G' w := by
  have e := c_iadd i 1; have r := rng32 (i + 1); rw [own_l1] at e
  have := h.1; have := h.2.1
  exact ⟨by omega, by omega, by rw [hl]; exact h.2.2⟩
theorem own_jw {n : Nat} {i w : Int32} {G : List Int64} {W : List Int32} (h : own_jb (n + 1) i G w) (hW : W.length = 5) (hwb : own_wb W w) : ¬ (List.getD W (i).toNatClampNeg (0 : Int32)) < (0 : Int32) ∧ True := by
  have := hwb i.toNatClampNeg (own_jb_in h hW)
  rw [Int32.lt_iff_toInt_lt, own_l0]; exact ⟨by omega, trivial⟩
theorem own_jw2 {n : Nat} {i w : Int32} {G : List Int64} {W : List Int32} (h : own_jb (n + 1) i G w) (hW : W.length = 5) (hwb : own_wb W w) : (List.getD W (i).toNatClampNeg (0 : Int32)).toNatClampNeg < G.length := by
  have := hwb i.toNatClampNeg (own_jb_in h hW)
  rw [h.2.2]; simp only [Int32.toNatClampNeg] at *; omega
theorem own_gset {α : Type} (xs : List α) (d : α) (i k : Nat) (v : α) (h : i < xs.length) : List.getD (List.set xs i v) k d = if i = k then v else List.getD xs k d := by
  rw [List.getD_eq_getElem?_getD, List.getElem?_set, List.getD_eq_getElem?_getD]
  by_cases e : i = k
  · subst e; simp [h]
  · simp [e]
theorem own_pk_ok (xs : List Int32) : ∀ (n j : Nat) (i w u : Int32) (W S : List Int32) (M : List Int64), own_inv j u w → j + n = 5 → i.toInt = j → W.length = 5 → S.length = 5 → M.length = 5 → (∀ k, k < j → 0 ≤ (List.getD W k (0 : Int32)).toInt ∧ (List.getD W k (0 : Int32)).toInt < w.toInt) →
    (own_pk xs n i w u W S M).2.1.length = 5 ∧ (own_pk xs n i w u W S M).2.2.1.length = 5 ∧ (own_pk xs n i w u W S M).2.2.2.length = 5 ∧ own_w3 (own_pk xs n i w u W S M).1 ∧ own_wb (own_pk xs n i w u W S M).2.1 (own_pk xs n i w u W S M).1
  | 0, j, i, w, u, W, S, M, h, hj, hi, h1, h2, h3, h4 => by
    have d := own_inv_bd h
    rw [own_pk_zero]
    exact ⟨h1, h2, h3, ⟨d.2.2.1, d.2.2.2.2.1⟩, fun k hk => h4 k (by have : k < W.length := hk; omega)⟩
  | n + 1, j, i, w, u, W, S, M, h, hj, hi, h1, h2, h3, h4 => by
    rw [own_pk_eq]
    have hb := own_bw_rng (List.getD xs (i).toNatClampNeg (0 : Int32))
    generalize own_bw (List.getD xs (i).toNatClampNeg (0 : Int32)) = b at *
    have s := own_inv_step h hb (by omega)
    have d := own_inv_bd s
    have d0 := own_inv_bd h
    have e := c_iadd i 1; have r := rng32 (i + 1); rw [own_l1] at e
    have ix : i.toNatClampNeg = j := by simp only [Int32.toNatClampNeg]; omega
    have mono : w.toInt ≤ (if (64 : Int32) < (u + b) then (w + (1 : Int32)) else w).toInt := by
      split
      · have e1 := c_iadd w 1; have r1 := rng32 (w + 1); rw [own_l1] at e1; omega
      · omega
    refine own_pk_ok xs n (j + 1) _ _ _ _ _ _ s (by omega) (by omega) (by simp [h1]) (by simp [h2]) (by simp [h3]) (fun k hk => ?_)
    rw [ix, own_gset _ _ _ _ _ (by omega)]
    split
    · rw [own_sub1 d.2.2.1]; omega
    · have := h4 k (by omega); omega
theorem own_pkr_ok (xs : List Int32) : (own_pkr xs).2.1.length = 5 ∧ (own_pkr xs).2.2.1.length = 5 ∧ (own_pkr xs).2.2.2.length = 5 ∧ own_w3 (own_pkr xs).1 ∧ own_wb (own_pkr xs).2.1 (own_pkr xs).1 :=
  own_pk_ok xs 5 0 0 1 0 _ _ _ own_inv0 rfl rfl rfl rfl rfl (fun k hk => absurd hk (Nat.not_lt_zero _))
theorem d2_0 : decode method_5_code 0 = .ok (.aload_n 3, 1) := by decide +kernel
theorem d2_1 : decode method_5_code 1 = .ok (.iconst 0, 1) := by decide +kernel
theorem d2_2 : decode method_5_code 2 = .ok (.iaload, 1) := by decide +kernel
theorem d2_3 : decode method_5_code 3 = .ok (.iload_n 0, 1) := by decide +kernel
theorem d2_4 : decode method_5_code 4 = .ok (.iadd, 1) := by decide +kernel
theorem d2_5 : decode method_5_code 5 = .ok (.bipush 64, 2) := by decide +kernel
theorem d2_7 : decode method_5_code 7 = .ok (.if_icmp .le 15, 3) := by decide +kernel
theorem d2_10 : decode method_5_code 10 = .ok (.aload_n 3, 1) := by decide +kernel
theorem d2_11 : decode method_5_code 11 = .ok (.iconst 1, 1) := by decide +kernel
theorem d2_12 : decode method_5_code 12 = .ok (.aload_n 3, 1) := by decide +kernel
theorem d2_13 : decode method_5_code 13 = .ok (.iconst 1, 1) := by decide +kernel
theorem d2_14 : decode method_5_code 14 = .ok (.iaload, 1) := by decide +kernel
theorem d2_15 : decode method_5_code 15 = .ok (.iconst 1, 1) := by decide +kernel
theorem d2_16 : decode method_5_code 16 = .ok (.iadd, 1) := by decide +kernel
theorem d2_17 : decode method_5_code 17 = .ok (.iastore, 1) := by decide +kernel
theorem d2_18 : decode method_5_code 18 = .ok (.aload_n 3, 1) := by decide +kernel
theorem d2_19 : decode method_5_code 19 = .ok (.iconst 0, 1) := by decide +kernel
theorem d2_20 : decode method_5_code 20 = .ok (.iconst 0, 1) := by decide +kernel
theorem d2_21 : decode method_5_code 21 = .ok (.iastore, 1) := by decide +kernel
theorem d2_22 : decode method_5_code 22 = .ok (.iload_n 1, 1) := by decide +kernel
theorem d2_23 : decode method_5_code 23 = .ok (.ifCond .eq 34, 3) := by decide +kernel
theorem d2_26 : decode method_5_code 26 = .ok (.iload_n 0, 1) := by decide +kernel
theorem d2_27 : decode method_5_code 27 = .ok (.ifCond .le 30, 3) := by decide +kernel
theorem d2_30 : decode method_5_code 30 = .ok (.aload_n 2, 1) := by decide +kernel
theorem d2_31 : decode method_5_code 31 = .ok (.aload_n 3, 1) := by decide +kernel
theorem d2_32 : decode method_5_code 32 = .ok (.iconst 1, 1) := by decide +kernel
theorem d2_33 : decode method_5_code 33 = .ok (.iaload, 1) := by decide +kernel
theorem d2_34 : decode method_5_code 34 = .ok (.iconst 1, 1) := by decide +kernel
theorem d2_35 : decode method_5_code 35 = .ok (.isub, 1) := by decide +kernel
theorem d2_36 : decode method_5_code 36 = .ok (.aload_n 2, 1) := by decide +kernel
theorem d2_37 : decode method_5_code 37 = .ok (.aload_n 3, 1) := by decide +kernel
theorem d2_38 : decode method_5_code 38 = .ok (.iconst 1, 1) := by decide +kernel
theorem d2_39 : decode method_5_code 39 = .ok (.iaload, 1) := by decide +kernel
theorem d2_40 : decode method_5_code 40 = .ok (.iconst 1, 1) := by decide +kernel
theorem d2_41 : decode method_5_code 41 = .ok (.isub, 1) := by decide +kernel
theorem d2_42 : decode method_5_code 42 = .ok (.laload, 1) := by decide +kernel
theorem d2_43 : decode method_5_code 43 = .ok (.ldc2_w 35, 3) := by decide +kernel
theorem d2_46 : decode method_5_code 46 = .ok (.bipush 64, 2) := by decide +kernel
theorem d2_48 : decode method_5_code 48 = .ok (.iload_n 0, 1) := by decide +kernel
theorem d2_49 : decode method_5_code 49 = .ok (.isub, 1) := by decide +kernel
theorem d2_50 : decode method_5_code 50 = .ok (.lushr, 1) := by decide +kernel
theorem d2_51 : decode method_5_code 51 = .ok (.aload_n 3, 1) := by decide +kernel
theorem d2_52 : decode method_5_code 52 = .ok (.iconst 0, 1) := by decide +kernel
theorem d2_53 : decode method_5_code 53 = .ok (.iaload, 1) := by decide +kernel
theorem d2_54 : decode method_5_code 54 = .ok (.lshl, 1) := by decide +kernel
theorem d2_55 : decode method_5_code 55 = .ok (.lor, 1) := by decide +kernel
theorem d2_56 : decode method_5_code 56 = .ok (.lastore, 1) := by decide +kernel
theorem d2_57 : decode method_5_code 57 = .ok (.aload_n 3, 1) := by decide +kernel
theorem d2_58 : decode method_5_code 58 = .ok (.iconst 0, 1) := by decide +kernel
theorem d2_59 : decode method_5_code 59 = .ok (.aload_n 3, 1) := by decide +kernel
theorem d2_60 : decode method_5_code 60 = .ok (.iconst 0, 1) := by decide +kernel
theorem d2_61 : decode method_5_code 61 = .ok (.iaload, 1) := by decide +kernel
theorem d2_62 : decode method_5_code 62 = .ok (.iload_n 0, 1) := by decide +kernel
theorem d2_63 : decode method_5_code 63 = .ok (.iadd, 1) := by decide +kernel
theorem d2_64 : decode method_5_code 64 = .ok (.iastore, 1) := by decide +kernel
theorem d2_65 : decode method_5_code 65 = .ok (.return_, 1) := by decide +kernel
def g2_1 (p0 : Int32) (p1 : Bool) (u : Int32) (w : Int32) (es : List Int64) : List Int64 := (let z5 : Int32 := (if (64 : Int32) < (u + p0) then (0 : Int32) else u); let z6 : Int32 := (if (64 : Int32) < (u + p0) then (w + (1 : Int32)) else w); (let z17 : List Int64 := (if p1 = true then (if (0 : Int32) < p0 then (List.set es ((z6 - (1 : Int32))).toNatClampNeg ((List.getD es ((z6 - (1 : Int32))).toNatClampNeg (0 : Int64)) ||| ((((((-1 : Int64)).toUInt64 >>> (((64 : Int32) - p0) &&& 0x3f).toInt64.toUInt64).toInt64) <<< (z5 &&& 0x3f).toInt64)))) else es) else es); z17))
def g2_2 (p0 : Int32) (p1 : Bool) (u : Int32) (w : Int32) (es : List Int64) : Int32 := (let z5 : Int32 := (if (64 : Int32) < (u + p0) then (0 : Int32) else u); let z6 : Int32 := (if (64 : Int32) < (u + p0) then (w + (1 : Int32)) else w); (let z17 : List Int64 := (if p1 = true then (if (0 : Int32) < p0 then (List.set es ((z6 - (1 : Int32))).toNatClampNeg ((List.getD es ((z6 - (1 : Int32))).toNatClampNeg (0 : Int64)) ||| ((((((-1 : Int64)).toUInt64 >>> (((64 : Int32) - p0) &&& 0x3f).toInt64.toUInt64).toInt64) <<< (z5 &&& 0x3f).toInt64)))) else es) else es); (z5 + p0)))
def g2_3 (p0 : Int32) (p1 : Bool) (u : Int32) (w : Int32) (es : List Int64) : Int32 := (let z5 : Int32 := (if (64 : Int32) < (u + p0) then (0 : Int32) else u); let z6 : Int32 := (if (64 : Int32) < (u + p0) then (w + (1 : Int32)) else w); (let z17 : List Int64 := (if p1 = true then (if (0 : Int32) < p0 then (List.set es ((z6 - (1 : Int32))).toNatClampNeg ((List.getD es ((z6 - (1 : Int32))).toNatClampNeg (0 : Int64)) ||| ((((((-1 : Int64)).toUInt64 >>> (((64 : Int32) - p0) &&& 0x3f).toInt64.toUInt64).toInt64) <<< (z5 &&& 0x3f).toInt64)))) else es) else es); z6))
def Q2 (Z : State) (p0 : Int32) (p1 : Bool) (p2 : Addr) (p3 : Addr) (u : Int32) (w : Int32) (es : List Int64) (h0 : Heap) (n0 : Nat) (v : Option Value) (h : Heap) (L : List Loc) : Prop := v = none ∧ Fr n0 L ∧ Keep h0 h [p2, p3] ∧ ArL Z h p2 .long (List.map Value.long (g2_1 p0 p1 u w es)) ∧ ArL Z h p3 .int [(.int (g2_2 p0 p1 u w es)), (.int (g2_3 p0 p1 u w es))]
abbrev rmm2 : Room := { frames := 0, cells := 0, slots := 0, locals := 0 }
abbrev P2 (Z : State) (p0 : Int32) (p1 : Bool) (p2 : Addr) (p3 : Addr) (u : Int32) (w : Int32) (es : List Int64) (h0 : Heap) (n0 : Nat) (s : State) : Outcome → State → Prop := fun o U' => ∃ v L, o = .returned v ∧ Q2 Z p0 p1 p2 p3 u w es h0 n0 v U'.heap L ∧ FrameEnd s o U' L rmm2.cells rmm2.slots
theorem pn_2 : plainName "com/example/onward/onward/explore/PackingBitsOfPinLaw" = true := by first | (simp [plainName, overriddenIn]; done) | decide +kernel
theorem ef_2 (m : MethodId) (p0 : Int32) (p1 : Bool) (p2 : Addr) (p3 : Addr) : entryFrame m #[(.int p0), (.int (b2i p1)), (.ref p2), (.ref p3)] 4 = mkF m 0 #[.val (.int p0), .val (.int (b2i p1)), .val (.ref p2), .val (.ref p3)] [] := by first | (simp [entryFrame, mkF, argsToLocals, Value.category]; done) | rfl
set_option maxRecDepth 65536 in
set_option maxHeartbeats 40000000 in
theorem rm2 (l : Launch) (Z : State) (a0 : Array Value) (hw : ∀ d ∈ tables_1, d.before a0 Z = true) (ws : List Jvm.Cond) (p0 : Int32) (p1 : Bool) (p2 : Addr) (p3 : Addr) (u : Int32) (w : Int32) (es : List Int64) (h0 : Heap) (n0 : Nat) (Z0 : n0 ≤ h0.size) (H0 : ArL Z h0 p2 .long (List.map Value.long es)) (H1 : ArL Z h0 p3 .int [(.int u), (.int w)]) (H2 : n0 ≤ p2) (H3 : n0 ≤ p3) (H4 : p2 ≠ p3) (hq : own_pb u w p0 es) :
    MetFree l (⟨"com/example/onward/onward/explore/PackingBitsOfPinLaw", "place", "(IZ[J[I)V"⟩ : MethodName) (head1 (Jvm.Cond.code (⟨"com/example/onward/onward/explore/PackingBitsOfPinLaw", "place", "(IZ[J[I)V"⟩ : MethodName) method_5_code 4 none :: ws) rmm2) (fun a U => a = #[(.int p0), (.int (b2i p1)), (.ref p2), (.ref p3)] ∧ Z.Warmed39 U.vm ∧ U.heap = h0) (fun _ _ _ _ _ => True) (fun _ U o U' => ∃ v L, o = .returned v ∧ Q2 Z p0 p1 p2 p3 u w es h0 n0 v U'.heap L ∧ FrameEnd U o U' L rmm2.cells rmm2.slots) := by
  refine MetFree.of_bodySF (plainFor_of_name pn_2) hisR ?_
  intro p e s m args below meth c s₁ Bd hml0 hP hK
  obtain ⟨rfl, hZ, hh⟩ := hP
  have hx := Bd.exec
  have hby := Bd.bytes
  have hml : c.maxLocals = 4 := hml0
  have hown : s.vm.findClass "com/example/onward/onward/explore/PackingBitsOfPinLaw" = some m.cls := findClass_of_methodNamed Bd.named
  have hnm := (name_of_methodNamed Bd.named Bd.method).1
  have X0 : Stand p l e rmm2 s m #[(.int p0), (.int (b2i p1)), (.ref p2), (.ref p3)] below meth c s₁ [] 0 0 := Stand.of_body Bd
  have e0 : s₁.heap = h0 := by rw [← hh, Bd.state]; rfl
  have N0 := Fr.nil n0
  show Go p.tables e below (P2 Z p0 p1 p2 p3 u w es h0 n0 s) (s₁.setTop (entryFrame m #[(.int p0), (.int (b2i p1)), (.ref p2), (.ref p3)] 4))
  refine Go.back (fun t k => castTop (ef_2 m p0 p1 p2 p3) k) ?_
  show Go p.tables e below (P2 Z p0 p1 p2 p3 u w es h0 n0 s) (s₁.setTop (mkF m 0 #[.val (.int p0), .val (.int (b2i p1)), .val (.ref p2), .val (.ref p3)] []))
  have hf1 : g2_1 p0 p1 u w es = (let z5 : Int32 := (if (64 : Int32) < (u + p0) then (0 : Int32) else u); let z6 : Int32 := (if (64 : Int32) < (u + p0) then (w + (1 : Int32)) else w); (let z17 : List Int64 := (if p1 = true then (if (0 : Int32) < p0 then (List.set es ((z6 - (1 : Int32))).toNatClampNeg ((List.getD es ((z6 - (1 : Int32))).toNatClampNeg (0 : Int64)) ||| ((((((-1 : Int64)).toUInt64 >>> (((64 : Int32) - p0) &&& 0x3f).toInt64.toUInt64).toInt64) <<< (z5 &&& 0x3f).toInt64)))) else es) else es); z17)) := rfl
  have hf2 : g2_2 p0 p1 u w es = (let z5 : Int32 := (if (64 : Int32) < (u + p0) then (0 : Int32) else u); let z6 : Int32 := (if (64 : Int32) < (u + p0) then (w + (1 : Int32)) else w); (let z17 : List Int64 := (if p1 = true then (if (0 : Int32) < p0 then (List.set es ((z6 - (1 : Int32))).toNatClampNeg ((List.getD es ((z6 - (1 : Int32))).toNatClampNeg (0 : Int64)) ||| ((((((-1 : Int64)).toUInt64 >>> (((64 : Int32) - p0) &&& 0x3f).toInt64.toUInt64).toInt64) <<< (z5 &&& 0x3f).toInt64)))) else es) else es); (z5 + p0))) := rfl
  have hf3 : g2_3 p0 p1 u w es = (let z5 : Int32 := (if (64 : Int32) < (u + p0) then (0 : Int32) else u); let z6 : Int32 := (if (64 : Int32) < (u + p0) then (w + (1 : Int32)) else w); (let z17 : List Int64 := (if p1 = true then (if (0 : Int32) < p0 then (List.set es ((z6 - (1 : Int32))).toNatClampNeg ((List.getD es ((z6 - (1 : Int32))).toNatClampNeg (0 : Int64)) ||| ((((((-1 : Int64)).toUInt64 >>> (((64 : Int32) - p0) &&& 0x3f).toInt64.toUInt64).toInt64) <<< (z5 &&& 0x3f).toInt64)))) else es) else es); z6)) := rfl
  refine Go.back (fun t k => XS.aloadN X0.here hx rfl (hb hby d2_0) rfl rfl  k) ?_
  show Go p.tables e below (P2 Z p0 p1 p2 p3 u w es h0 n0 s) (s₁.setTop (mkF m 1 #[.val (.int p0), .val (.int (b2i p1)), .val (.ref p2), .val (.ref p3)] [(.ref p3)]))
  refine Go.back (fun t k => XS.iconst X0.here hx rfl (hb hby d2_1) k) ?_
  show Go p.tables e below (P2 Z p0 p1 p2 p3 u w es h0 n0 s) (s₁.setTop (mkF m 2 #[.val (.int p0), .val (.int (b2i p1)), .val (.ref p2), .val (.ref p3)] [(.int (0 : Int32)), (.ref p3)]))
  obtain ⟨cl1, Ar1, hi1, ha1⟩ := H1.get (j := (0 : Int32)) (by decide) (v := (.int u)) rfl
  refine Go.back (fun t k => X0.iaload hx (j := (0 : Int32)) (v := (.int u)) (by rw [e0]; exact Ar1.1) (State.isArrayOf_alike hZ.alike Ar1.2.1) Ar1.2.2 hi1 ha1 (g := (mkF m 2 #[.val (.int p0), .val (.int (b2i p1)), .val (.ref p2), .val (.ref p3)] [(.int (0 : Int32)), (.ref p3)])) rfl rfl (hb hby d2_2) t k) ?_
  show Go p.tables e below (P2 Z p0 p1 p2 p3 u w es h0 n0 s) (s₁.setTop (mkF m 3 #[.val (.int p0), .val (.int (b2i p1)), .val (.ref p2), .val (.ref p3)] [(.int u)]))
  refine Go.back (fun t k => XS.iloadN X0.here hx rfl (hb hby d2_3) rfl  k) ?_
  show Go p.tables e below (P2 Z p0 p1 p2 p3 u w es h0 n0 s) (s₁.setTop (mkF m 4 #[.val (.int p0), .val (.int (b2i p1)), .val (.ref p2), .val (.ref p3)] [(.int p0), (.int u)]))
  refine Go.back (fun t k => XS.iadd X0.here hx rfl (hb hby d2_4) rfl k) ?_
  show Go p.tables e below (P2 Z p0 p1 p2 p3 u w es h0 n0 s) (s₁.setTop (mkF m 5 #[.val (.int p0), .val (.int (b2i p1)), .val (.ref p2), .val (.ref p3)] [(.int (u + p0))]))
  refine Go.back (fun t k => XS.bipush X0.here hx rfl (hb hby d2_5) k) ?_
  show Go p.tables e below (P2 Z p0 p1 p2 p3 u w es h0 n0 s) (s₁.setTop (mkF m 7 #[.val (.int p0), .val (.int (b2i p1)), .val (.ref p2), .val (.ref p3)] [(.int (64 : Int32)), (.int (u + p0))]))
  have J3 : ∀ (T11 : State) (L11 : List Loc) (X11 : Stand p l e rmm2 s m #[(.int p0), (.int (b2i p1)), (.ref p2), (.ref p3)] below meth c T11 L11 0 0) (N11 : Fr n0 L11) (h10 : Heap) (e11 : T11.heap = h10) (z5 : Int32) (z6 : Int32) (hz5 : z5 = (if (64 : Int32) < (u + p0) then (0 : Int32) else u)) (hz6 : z6 = (if (64 : Int32) < (u + p0) then (w + (1 : Int32)) else w)) (F4 : ArL Z h10 p2 .long (List.map Value.long es)) (F7 : ArL Z h10 p3 .int [(.int z5), (.int z6)]) (F8 : n0 ≤ h10.size) (F9 : Keep h0 h10 [p2, p3]), Go p.tables e below (P2 Z p0 p1 p2 p3 u w es h0 n0 s) (T11.setTop (mkF m 22 #[.val (.int p0), .val (.int (b2i p1)), .val (.ref p2), .val (.ref p3)] [])) := by
    intro T11 L11 X11 N11 h10 e11 z5 z6 hz5 hz6 F4 F7 F8 F9
    have r12 : g2_1 p0 p1 u w es = (let z17 : List Int64 := (if p1 = true then (if (0 : Int32) < p0 then (List.set es ((z6 - (1 : Int32))).toNatClampNeg ((List.getD es ((z6 - (1 : Int32))).toNatClampNeg (0 : Int64)) ||| ((((((-1 : Int64)).toUInt64 >>> (((64 : Int32) - p0) &&& 0x3f).toInt64.toUInt64).toInt64) <<< (z5 &&& 0x3f).toInt64)))) else es) else es); z17) := by subst hz6; subst hz5; exact hf1
    have r13 : g2_2 p0 p1 u w es = (let z17 : List Int64 := (if p1 = true then (if (0 : Int32) < p0 then (List.set es ((z6 - (1 : Int32))).toNatClampNeg ((List.getD es ((z6 - (1 : Int32))).toNatClampNeg (0 : Int64)) ||| ((((((-1 : Int64)).toUInt64 >>> (((64 : Int32) - p0) &&& 0x3f).toInt64.toUInt64).toInt64) <<< (z5 &&& 0x3f).toInt64)))) else es) else es); (z5 + p0)) := by subst hz6; subst hz5; exact hf2
    have r14 : g2_3 p0 p1 u w es = (let z17 : List Int64 := (if p1 = true then (if (0 : Int32) < p0 then (List.set es ((z6 - (1 : Int32))).toNatClampNeg ((List.getD es ((z6 - (1 : Int32))).toNatClampNeg (0 : Int64)) ||| ((((((-1 : Int64)).toUInt64 >>> (((64 : Int32) - p0) &&& 0x3f).toInt64.toUInt64).toInt64) <<< (z5 &&& 0x3f).toInt64)))) else es) else es); z6) := by subst hz6; subst hz5; exact hf3
    show Go p.tables e below (P2 Z p0 p1 p2 p3 u w es h0 n0 s) (T11.setTop (mkF m 22 #[.val (.int p0), .val (.int (b2i p1)), .val (.ref p2), .val (.ref p3)] []))
    refine Go.back (fun t k => XS.iloadN X11.here hx rfl (hb hby d2_22) rfl  k) ?_
    show Go p.tables e below (P2 Z p0 p1 p2 p3 u w es h0 n0 s) (T11.setTop (mkF m 23 #[.val (.int p0), .val (.int (b2i p1)), .val (.ref p2), .val (.ref p3)] [(.int (b2i p1))]))
    have J16 : ∀ (T23 : State) (L23 : List Loc) (X23 : Stand p l e rmm2 s m #[(.int p0), (.int (b2i p1)), (.ref p2), (.ref p3)] below meth c T23 L23 0 0) (N23 : Fr n0 L23) (h22 : Heap) (e23 : T23.heap = h22) (z17 : List Int64) (hz17 : z17 = (if p1 = true then (if (0 : Int32) < p0 then (List.set es ((z6 - (1 : Int32))).toNatClampNeg ((List.getD es ((z6 - (1 : Int32))).toNatClampNeg (0 : Int64)) ||| ((((((-1 : Int64)).toUInt64 >>> (((64 : Int32) - p0) &&& 0x3f).toInt64.toUInt64).toInt64) <<< (z5 &&& 0x3f).toInt64)))) else es) else es)) (F18 : ArL Z h22 p2 .long (List.map Value.long z17)) (F19 : ArL Z h22 p3 .int [(.int z5), (.int z6)]) (F20 : n0 ≤ h22.size) (F21 : Keep h0 h22 [p2, p3]), Go p.tables e below (P2 Z p0 p1 p2 p3 u w es h0 n0 s) (T23.setTop (mkF m 57 #[.val (.int p0), .val (.int (b2i p1)), .val (.ref p2), .val (.ref p3)] [])) := by
      intro T23 L23 X23 N23 h22 e23 z17 hz17 F18 F19 F20 F21
      have r24 : g2_1 p0 p1 u w es = z17 := by subst hz17; exact r12
      have r25 : g2_2 p0 p1 u w es = (z5 + p0) := by subst hz17; exact r13
      have r26 : g2_3 p0 p1 u w es = z6 := by subst hz17; exact r14
      show Go p.tables e below (P2 Z p0 p1 p2 p3 u w es h0 n0 s) (T23.setTop (mkF m 57 #[.val (.int p0), .val (.int (b2i p1)), .val (.ref p2), .val (.ref p3)] []))
      refine Go.back (fun t k => XS.aloadN X23.here hx rfl (hb hby d2_57) rfl rfl  k) ?_
      show Go p.tables e below (P2 Z p0 p1 p2 p3 u w es h0 n0 s) (T23.setTop (mkF m 58 #[.val (.int p0), .val (.int (b2i p1)), .val (.ref p2), .val (.ref p3)] [(.ref p3)]))
      refine Go.back (fun t k => XS.iconst X23.here hx rfl (hb hby d2_58) k) ?_
      show Go p.tables e below (P2 Z p0 p1 p2 p3 u w es h0 n0 s) (T23.setTop (mkF m 59 #[.val (.int p0), .val (.int (b2i p1)), .val (.ref p2), .val (.ref p3)] [(.int (0 : Int32)), (.ref p3)]))
      refine Go.back (fun t k => XS.aloadN X23.here hx rfl (hb hby d2_59) rfl rfl  k) ?_
      show Go p.tables e below (P2 Z p0 p1 p2 p3 u w es h0 n0 s) (T23.setTop (mkF m 60 #[.val (.int p0), .val (.int (b2i p1)), .val (.ref p2), .val (.ref p3)] [(.ref p3), (.int (0 : Int32)), (.ref p3)]))
      refine Go.back (fun t k => XS.iconst X23.here hx rfl (hb hby d2_60) k) ?_
      show Go p.tables e below (P2 Z p0 p1 p2 p3 u w es h0 n0 s) (T23.setTop (mkF m 61 #[.val (.int p0), .val (.int (b2i p1)), .val (.ref p2), .val (.ref p3)] [(.int (0 : Int32)), (.ref p3), (.int (0 : Int32)), (.ref p3)]))
      obtain ⟨cl27, Ar27, hi27, ha27⟩ := F19.get (j := (0 : Int32)) (by decide) (v := (.int z5)) rfl
      refine Go.back (fun t k => X23.iaload hx (j := (0 : Int32)) (v := (.int z5)) (by rw [e23]; exact Ar27.1) (State.isArrayOf_alike hZ.alike Ar27.2.1) Ar27.2.2 hi27 ha27 (g := (mkF m 61 #[.val (.int p0), .val (.int (b2i p1)), .val (.ref p2), .val (.ref p3)] [(.int (0 : Int32)), (.ref p3), (.int (0 : Int32)), (.ref p3)])) rfl rfl (hb hby d2_61) t k) ?_
      show Go p.tables e below (P2 Z p0 p1 p2 p3 u w es h0 n0 s) (T23.setTop (mkF m 62 #[.val (.int p0), .val (.int (b2i p1)), .val (.ref p2), .val (.ref p3)] [(.int z5), (.int (0 : Int32)), (.ref p3)]))
      refine Go.back (fun t k => XS.iloadN X23.here hx rfl (hb hby d2_62) rfl  k) ?_
      show Go p.tables e below (P2 Z p0 p1 p2 p3 u w es h0 n0 s) (T23.setTop (mkF m 63 #[.val (.int p0), .val (.int (b2i p1)), .val (.ref p2), .val (.ref p3)] [(.int p0), (.int z5), (.int (0 : Int32)), (.ref p3)]))
      refine Go.back (fun t k => XS.iadd X23.here hx rfl (hb hby d2_63) rfl k) ?_
      show Go p.tables e below (P2 Z p0 p1 p2 p3 u w es h0 n0 s) (T23.setTop (mkF m 64 #[.val (.int p0), .val (.int (b2i p1)), .val (.ref p2), .val (.ref p3)] [(.int (z5 + p0)), (.int (0 : Int32)), (.ref p3)]))
      obtain ⟨cl28, Ar28, hi28, -⟩ := F19.at (j := (0 : Int32)) (by decide) (Nat.le_of_ble_eq_true rfl)
      obtain ⟨T28, h28, X28, e28, W28, st28⟩ := stI X23 hx hZ e23 Ar28 (j := (0 : Int32)) hi28 (g := (mkF m 64 #[.val (.int p0), .val (.int (b2i p1)), .val (.ref p2), .val (.ref p3)] [(.int (z5 + p0)), (.int (0 : Int32)), (.ref p3)])) rfl rfl (hb hby d2_64)
      have F29 : ArL Z h28 p2 .long (List.map Value.long z17) := F18.other W28 H4
      have F30 : ArL Z h28 p3 .int [(.int (z5 + p0)), (.int z6)] := F19.set W28
      have F31 : n0 ≤ h28.size := Nat.le_trans F20 (Keep.of_wr W28).1
      have F32 : Keep h0 h28 [p2, p3] := F21.wr W28 (Or.inl (List.mem_of_getElem? (i := 1) rfl))
      obtain ⟨Lo28, Y28, N28⟩ := pk X28 (Fr.snoc X28 N23 H3)
      refine Go.back st28 ?_
      show Go p.tables e below (P2 Z p0 p1 p2 p3 u w es h0 n0 s) (T28.setTop (mkF m 65 #[.val (.int p0), .val (.int (b2i p1)), .val (.ref p2), .val (.ref p3)] []))
      exact Go.retV Y28 hx Bd.returns (hb hby d2_65) Bd.notSynchronized ⟨rfl, N28, (by rw [e28]; exact F32), (by rw [e28, r24]; exact F29), (by rw [e28, r25, r26]; exact F30)⟩ (by decide) (by decide)
    have r33 : (if p1 = true then (if (0 : Int32) < p0 then (List.set es ((z6 - (1 : Int32))).toNatClampNeg ((List.getD es ((z6 - (1 : Int32))).toNatClampNeg (0 : Int64)) ||| ((((((-1 : Int64)).toUInt64 >>> (((64 : Int32) - p0) &&& 0x3f).toInt64.toUInt64).toInt64) <<< (z5 &&& 0x3f).toInt64)))) else es) else es) = (if p1 = true then (if (0 : Int32) < p0 then (List.set es ((z6 - (1 : Int32))).toNatClampNeg ((List.getD es ((z6 - (1 : Int32))).toNatClampNeg (0 : Int64)) ||| ((((((-1 : Int64)).toUInt64 >>> (((64 : Int32) - p0) &&& 0x3f).toInt64.toUInt64).toInt64) <<< (z5 &&& 0x3f).toInt64)))) else es) else es) := rfl
    by_cases hc15 : p1 = true
    · have r34 := r33.trans (if_pos hc15)
      refine Go.back (fun t k => XS.ifNo X11.here hx rfl (hb hby d2_23) rfl ((if0 _ _).trans (feq (b2i_t hc15)).1) k) ?_
      show Go p.tables e below (P2 Z p0 p1 p2 p3 u w es h0 n0 s) (T11.setTop (mkF m 26 #[.val (.int p0), .val (.int (b2i p1)), .val (.ref p2), .val (.ref p3)] []))
      refine Go.back (fun t k => XS.iloadN X11.here hx rfl (hb hby d2_26) rfl  k) ?_
      show Go p.tables e below (P2 Z p0 p1 p2 p3 u w es h0 n0 s) (T11.setTop (mkF m 27 #[.val (.int p0), .val (.int (b2i p1)), .val (.ref p2), .val (.ref p3)] [(.int p0)]))
      by_cases hc35 : (0 : Int32) < p0
      · have r36 := r34.trans (if_pos hc35)
        refine Go.back (fun t k => XS.ifNo X11.here hx rfl (hb hby d2_27) rfl ((if0 _ _).trans (tlt hc35).2.2.2) k) ?_
        show Go p.tables e below (P2 Z p0 p1 p2 p3 u w es h0 n0 s) (T11.setTop (mkF m 30 #[.val (.int p0), .val (.int (b2i p1)), .val (.ref p2), .val (.ref p3)] []))
        refine Go.back (fun t k => XS.aloadN X11.here hx rfl (hb hby d2_30) rfl rfl  k) ?_
        show Go p.tables e below (P2 Z p0 p1 p2 p3 u w es h0 n0 s) (T11.setTop (mkF m 31 #[.val (.int p0), .val (.int (b2i p1)), .val (.ref p2), .val (.ref p3)] [(.ref p2)]))
        refine Go.back (fun t k => XS.aloadN X11.here hx rfl (hb hby d2_31) rfl rfl  k) ?_
        show Go p.tables e below (P2 Z p0 p1 p2 p3 u w es h0 n0 s) (T11.setTop (mkF m 32 #[.val (.int p0), .val (.int (b2i p1)), .val (.ref p2), .val (.ref p3)] [(.ref p3), (.ref p2)]))
        refine Go.back (fun t k => XS.iconst X11.here hx rfl (hb hby d2_32) k) ?_
        show Go p.tables e below (P2 Z p0 p1 p2 p3 u w es h0 n0 s) (T11.setTop (mkF m 33 #[.val (.int p0), .val (.int (b2i p1)), .val (.ref p2), .val (.ref p3)] [(.int (1 : Int32)), (.ref p3), (.ref p2)]))
        obtain ⟨cl37, Ar37, hi37, ha37⟩ := F7.get (j := (1 : Int32)) (by decide) (v := (.int z6)) rfl
        refine Go.back (fun t k => X11.iaload hx (j := (1 : Int32)) (v := (.int z6)) (by rw [e11]; exact Ar37.1) (State.isArrayOf_alike hZ.alike Ar37.2.1) Ar37.2.2 hi37 ha37 (g := (mkF m 33 #[.val (.int p0), .val (.int (b2i p1)), .val (.ref p2), .val (.ref p3)] [(.int (1 : Int32)), (.ref p3), (.ref p2)])) rfl rfl (hb hby d2_33) t k) ?_
        show Go p.tables e below (P2 Z p0 p1 p2 p3 u w es h0 n0 s) (T11.setTop (mkF m 34 #[.val (.int p0), .val (.int (b2i p1)), .val (.ref p2), .val (.ref p3)] [(.int z6), (.ref p2)]))
        refine Go.back (fun t k => XS.iconst X11.here hx rfl (hb hby d2_34) k) ?_
        show Go p.tables e below (P2 Z p0 p1 p2 p3 u w es h0 n0 s) (T11.setTop (mkF m 35 #[.val (.int p0), .val (.int (b2i p1)), .val (.ref p2), .val (.ref p3)] [(.int (1 : Int32)), (.int z6), (.ref p2)]))
        refine Go.back (fun t k => XS.isub X11.here hx rfl (hb hby d2_35) rfl k) ?_
        show Go p.tables e below (P2 Z p0 p1 p2 p3 u w es h0 n0 s) (T11.setTop (mkF m 36 #[.val (.int p0), .val (.int (b2i p1)), .val (.ref p2), .val (.ref p3)] [(.int (z6 - (1 : Int32))), (.ref p2)]))
        refine Go.back (fun t k => XS.aloadN X11.here hx rfl (hb hby d2_36) rfl rfl  k) ?_
        show Go p.tables e below (P2 Z p0 p1 p2 p3 u w es h0 n0 s) (T11.setTop (mkF m 37 #[.val (.int p0), .val (.int (b2i p1)), .val (.ref p2), .val (.ref p3)] [(.ref p2), (.int (z6 - (1 : Int32))), (.ref p2)]))
        refine Go.back (fun t k => XS.aloadN X11.here hx rfl (hb hby d2_37) rfl rfl  k) ?_
        show Go p.tables e below (P2 Z p0 p1 p2 p3 u w es h0 n0 s) (T11.setTop (mkF m 38 #[.val (.int p0), .val (.int (b2i p1)), .val (.ref p2), .val (.ref p3)] [(.ref p3), (.ref p2), (.int (z6 - (1 : Int32))), (.ref p2)]))
        refine Go.back (fun t k => XS.iconst X11.here hx rfl (hb hby d2_38) k) ?_
        show Go p.tables e below (P2 Z p0 p1 p2 p3 u w es h0 n0 s) (T11.setTop (mkF m 39 #[.val (.int p0), .val (.int (b2i p1)), .val (.ref p2), .val (.ref p3)] [(.int (1 : Int32)), (.ref p3), (.ref p2), (.int (z6 - (1 : Int32))), (.ref p2)]))
        obtain ⟨cl38, Ar38, hi38, ha38⟩ := F7.get (j := (1 : Int32)) (by decide) (v := (.int z6)) rfl
        refine Go.back (fun t k => X11.iaload hx (j := (1 : Int32)) (v := (.int z6)) (by rw [e11]; exact Ar38.1) (State.isArrayOf_alike hZ.alike Ar38.2.1) Ar38.2.2 hi38 ha38 (g := (mkF m 39 #[.val (.int p0), .val (.int (b2i p1)), .val (.ref p2), .val (.ref p3)] [(.int (1 : Int32)), (.ref p3), (.ref p2), (.int (z6 - (1 : Int32))), (.ref p2)])) rfl rfl (hb hby d2_39) t k) ?_
        show Go p.tables e below (P2 Z p0 p1 p2 p3 u w es h0 n0 s) (T11.setTop (mkF m 40 #[.val (.int p0), .val (.int (b2i p1)), .val (.ref p2), .val (.ref p3)] [(.int z6), (.ref p2), (.int (z6 - (1 : Int32))), (.ref p2)]))
        refine Go.back (fun t k => XS.iconst X11.here hx rfl (hb hby d2_40) k) ?_
        show Go p.tables e below (P2 Z p0 p1 p2 p3 u w es h0 n0 s) (T11.setTop (mkF m 41 #[.val (.int p0), .val (.int (b2i p1)), .val (.ref p2), .val (.ref p3)] [(.int (1 : Int32)), (.int z6), (.ref p2), (.int (z6 - (1 : Int32))), (.ref p2)]))
        refine Go.back (fun t k => XS.isub X11.here hx rfl (hb hby d2_41) rfl k) ?_
        show Go p.tables e below (P2 Z p0 p1 p2 p3 u w es h0 n0 s) (T11.setTop (mkF m 42 #[.val (.int p0), .val (.int (b2i p1)), .val (.ref p2), .val (.ref p3)] [(.int (z6 - (1 : Int32))), (.ref p2), (.int (z6 - (1 : Int32))), (.ref p2)]))
        obtain ⟨cl39, Ar39, hi39, ha39⟩ := F4.get (j := (z6 - (1 : Int32))) (own_pb_nn hq hz6) (v := (.long (List.getD es ((z6 - (1 : Int32))).toNatClampNeg (0 : Int64)))) (getJ es (own_pb_in hq hz6))
        refine Go.back (fun t k => X11.laload hx (j := (z6 - (1 : Int32))) (v := (.long (List.getD es ((z6 - (1 : Int32))).toNatClampNeg (0 : Int64)))) (by rw [e11]; exact Ar39.1) (State.isArrayOf_alike hZ.alike Ar39.2.1) Ar39.2.2 hi39 ha39 (g := (mkF m 42 #[.val (.int p0), .val (.int (b2i p1)), .val (.ref p2), .val (.ref p3)] [(.int (z6 - (1 : Int32))), (.ref p2), (.int (z6 - (1 : Int32))), (.ref p2)])) rfl rfl (hb hby d2_42) t k) ?_
        show Go p.tables e below (P2 Z p0 p1 p2 p3 u w es h0 n0 s) (T11.setTop (mkF m 43 #[.val (.int p0), .val (.int (b2i p1)), .val (.ref p2), .val (.ref p3)] [(.long (List.getD es ((z6 - (1 : Int32))).toNatClampNeg (0 : Int64))), (.int (z6 - (1 : Int32))), (.ref p2)]))
        refine Go.back (fun t k => X11.ldc2Long hx hown (mvT hZ (hw _ (List.mem_of_getElem? (i := 46) rfl))) (g := (mkF m 43 #[.val (.int p0), .val (.int (b2i p1)), .val (.ref p2), .val (.ref p3)] [(.long (List.getD es ((z6 - (1 : Int32))).toNatClampNeg (0 : Int64))), (.int (z6 - (1 : Int32))), (.ref p2)])) rfl (hb hby d2_43) t k) ?_
        show Go p.tables e below (P2 Z p0 p1 p2 p3 u w es h0 n0 s) (T11.setTop (mkF m 46 #[.val (.int p0), .val (.int (b2i p1)), .val (.ref p2), .val (.ref p3)] [(.long (-1 : Int64)), (.long (List.getD es ((z6 - (1 : Int32))).toNatClampNeg (0 : Int64))), (.int (z6 - (1 : Int32))), (.ref p2)]))
        refine Go.back (fun t k => XS.bipush X11.here hx rfl (hb hby d2_46) k) ?_
        show Go p.tables e below (P2 Z p0 p1 p2 p3 u w es h0 n0 s) (T11.setTop (mkF m 48 #[.val (.int p0), .val (.int (b2i p1)), .val (.ref p2), .val (.ref p3)] [(.int (64 : Int32)), (.long (-1 : Int64)), (.long (List.getD es ((z6 - (1 : Int32))).toNatClampNeg (0 : Int64))), (.int (z6 - (1 : Int32))), (.ref p2)]))
        refine Go.back (fun t k => XS.iloadN X11.here hx rfl (hb hby d2_48) rfl  k) ?_
        show Go p.tables e below (P2 Z p0 p1 p2 p3 u w es h0 n0 s) (T11.setTop (mkF m 49 #[.val (.int p0), .val (.int (b2i p1)), .val (.ref p2), .val (.ref p3)] [(.int p0), (.int (64 : Int32)), (.long (-1 : Int64)), (.long (List.getD es ((z6 - (1 : Int32))).toNatClampNeg (0 : Int64))), (.int (z6 - (1 : Int32))), (.ref p2)]))
        refine Go.back (fun t k => XS.isub X11.here hx rfl (hb hby d2_49) rfl k) ?_
        show Go p.tables e below (P2 Z p0 p1 p2 p3 u w es h0 n0 s) (T11.setTop (mkF m 50 #[.val (.int p0), .val (.int (b2i p1)), .val (.ref p2), .val (.ref p3)] [(.int ((64 : Int32) - p0)), (.long (-1 : Int64)), (.long (List.getD es ((z6 - (1 : Int32))).toNatClampNeg (0 : Int64))), (.int (z6 - (1 : Int32))), (.ref p2)]))
        refine Go.back (fun t k => XS.lushr X11.here hx rfl (hb hby d2_50) rfl k) ?_
        show Go p.tables e below (P2 Z p0 p1 p2 p3 u w es h0 n0 s) (T11.setTop (mkF m 51 #[.val (.int p0), .val (.int (b2i p1)), .val (.ref p2), .val (.ref p3)] [(.long ((((-1 : Int64)).toUInt64 >>> (((64 : Int32) - p0) &&& 0x3f).toInt64.toUInt64).toInt64)), (.long (List.getD es ((z6 - (1 : Int32))).toNatClampNeg (0 : Int64))), (.int (z6 - (1 : Int32))), (.ref p2)]))
        refine Go.back (fun t k => XS.aloadN X11.here hx rfl (hb hby d2_51) rfl rfl  k) ?_
        show Go p.tables e below (P2 Z p0 p1 p2 p3 u w es h0 n0 s) (T11.setTop (mkF m 52 #[.val (.int p0), .val (.int (b2i p1)), .val (.ref p2), .val (.ref p3)] [(.ref p3), (.long ((((-1 : Int64)).toUInt64 >>> (((64 : Int32) - p0) &&& 0x3f).toInt64.toUInt64).toInt64)), (.long (List.getD es ((z6 - (1 : Int32))).toNatClampNeg (0 : Int64))), (.int (z6 - (1 : Int32))), (.ref p2)]))
        refine Go.back (fun t k => XS.iconst X11.here hx rfl (hb hby d2_52) k) ?_
        show Go p.tables e below (P2 Z p0 p1 p2 p3 u w es h0 n0 s) (T11.setTop (mkF m 53 #[.val (.int p0), .val (.int (b2i p1)), .val (.ref p2), .val (.ref p3)] [(.int (0 : Int32)), (.ref p3), (.long ((((-1 : Int64)).toUInt64 >>> (((64 : Int32) - p0) &&& 0x3f).toInt64.toUInt64).toInt64)), (.long (List.getD es ((z6 - (1 : Int32))).toNatClampNeg (0 : Int64))), (.int (z6 - (1 : Int32))), (.ref p2)]))
        obtain ⟨cl40, Ar40, hi40, ha40⟩ := F7.get (j := (0 : Int32)) (by decide) (v := (.int z5)) rfl
        refine Go.back (fun t k => X11.iaload hx (j := (0 : Int32)) (v := (.int z5)) (by rw [e11]; exact Ar40.1) (State.isArrayOf_alike hZ.alike Ar40.2.1) Ar40.2.2 hi40 ha40 (g := (mkF m 53 #[.val (.int p0), .val (.int (b2i p1)), .val (.ref p2), .val (.ref p3)] [(.int (0 : Int32)), (.ref p3), (.long ((((-1 : Int64)).toUInt64 >>> (((64 : Int32) - p0) &&& 0x3f).toInt64.toUInt64).toInt64)), (.long (List.getD es ((z6 - (1 : Int32))).toNatClampNeg (0 : Int64))), (.int (z6 - (1 : Int32))), (.ref p2)])) rfl rfl (hb hby d2_53) t k) ?_
        show Go p.tables e below (P2 Z p0 p1 p2 p3 u w es h0 n0 s) (T11.setTop (mkF m 54 #[.val (.int p0), .val (.int (b2i p1)), .val (.ref p2), .val (.ref p3)] [(.int z5), (.long ((((-1 : Int64)).toUInt64 >>> (((64 : Int32) - p0) &&& 0x3f).toInt64.toUInt64).toInt64)), (.long (List.getD es ((z6 - (1 : Int32))).toNatClampNeg (0 : Int64))), (.int (z6 - (1 : Int32))), (.ref p2)]))
        refine Go.back (fun t k => XS.lshl X11.here hx rfl (hb hby d2_54) rfl k) ?_
        show Go p.tables e below (P2 Z p0 p1 p2 p3 u w es h0 n0 s) (T11.setTop (mkF m 55 #[.val (.int p0), .val (.int (b2i p1)), .val (.ref p2), .val (.ref p3)] [(.long ((((((-1 : Int64)).toUInt64 >>> (((64 : Int32) - p0) &&& 0x3f).toInt64.toUInt64).toInt64) <<< (z5 &&& 0x3f).toInt64))), (.long (List.getD es ((z6 - (1 : Int32))).toNatClampNeg (0 : Int64))), (.int (z6 - (1 : Int32))), (.ref p2)]))
        refine Go.back (fun t k => XS.lor X11.here hx rfl (hb hby d2_55) rfl k) ?_
        show Go p.tables e below (P2 Z p0 p1 p2 p3 u w es h0 n0 s) (T11.setTop (mkF m 56 #[.val (.int p0), .val (.int (b2i p1)), .val (.ref p2), .val (.ref p3)] [(.long ((List.getD es ((z6 - (1 : Int32))).toNatClampNeg (0 : Int64)) ||| ((((((-1 : Int64)).toUInt64 >>> (((64 : Int32) - p0) &&& 0x3f).toInt64.toUInt64).toInt64) <<< (z5 &&& 0x3f).toInt64)))), (.int (z6 - (1 : Int32))), (.ref p2)]))
        obtain ⟨cl41, Ar41, hi41, -⟩ := F4.at (j := (z6 - (1 : Int32))) (own_pb_nn hq hz6) (by simpa using (own_pb_in hq hz6))
        obtain ⟨T41, h41, X41, e41, W41, st41⟩ := stJ X11 hx hZ e11 Ar41 (j := (z6 - (1 : Int32))) hi41 (g := (mkF m 56 #[.val (.int p0), .val (.int (b2i p1)), .val (.ref p2), .val (.ref p3)] [(.long ((List.getD es ((z6 - (1 : Int32))).toNatClampNeg (0 : Int64)) ||| ((((((-1 : Int64)).toUInt64 >>> (((64 : Int32) - p0) &&& 0x3f).toInt64.toUInt64).toInt64) <<< (z5 &&& 0x3f).toInt64)))), (.int (z6 - (1 : Int32))), (.ref p2)])) rfl rfl (hb hby d2_56)
        have F42 : ArL Z h41 p2 .long (List.map Value.long (List.set es ((z6 - (1 : Int32))).toNatClampNeg ((List.getD es ((z6 - (1 : Int32))).toNatClampNeg (0 : Int64)) ||| ((((((-1 : Int64)).toUInt64 >>> (((64 : Int32) - p0) &&& 0x3f).toInt64.toUInt64).toInt64) <<< (z5 &&& 0x3f).toInt64))))) := ArL.setJ (xs := es) F4 W41
        have F43 : ArL Z h41 p3 .int [(.int z5), (.int z6)] := F7.other W41 (Ne.symm H4)
        have F44 : n0 ≤ h41.size := Nat.le_trans F8 (Keep.of_wr W41).1
        have F45 : Keep h0 h41 [p2, p3] := F9.wr W41 (Or.inl (List.mem_of_getElem? (i := 0) rfl))
        obtain ⟨Lo41, Y41, N41⟩ := pk X41 (Fr.snoc X41 N11 H2)
        refine Go.back st41 ?_
        show Go p.tables e below (P2 Z p0 p1 p2 p3 u w es h0 n0 s) (T41.setTop (mkF m 57 #[.val (.int p0), .val (.int (b2i p1)), .val (.ref p2), .val (.ref p3)] []))
        exact J16 _ _ Y41 N41 h41 e41 (List.set es ((z6 - (1 : Int32))).toNatClampNeg ((List.getD es ((z6 - (1 : Int32))).toNatClampNeg (0 : Int64)) ||| ((((((-1 : Int64)).toUInt64 >>> (((64 : Int32) - p0) &&& 0x3f).toInt64.toUInt64).toInt64) <<< (z5 &&& 0x3f).toInt64)))) r36.symm F42 F43 F44 F45
      · have r46 := r34.trans (if_neg hc35)
        refine Go.back (fun t k => XS.ifYes X11.here hx rfl (pc0 := 27) (pc' := 57) rfl (hb hby d2_27) rfl ((if0 _ _).trans (flt hc35).2.2.2) (by decide) (by decide) k) ?_
        show Go p.tables e below (P2 Z p0 p1 p2 p3 u w es h0 n0 s) (T11.setTop (mkF m 57 #[.val (.int p0), .val (.int (b2i p1)), .val (.ref p2), .val (.ref p3)] []))
        exact J16 _ _ X11 N11 h10 e11 es r46.symm F4 F7 F8 F9
    · have r47 := r33.trans (if_neg hc15)
      refine Go.back (fun t k => XS.ifYes X11.here hx rfl (pc0 := 23) (pc' := 57) rfl (hb hby d2_23) rfl ((if0 _ _).trans (teq (b2i_f hc15)).1) (by decide) (by decide) k) ?_
      show Go p.tables e below (P2 Z p0 p1 p2 p3 u w es h0 n0 s) (T11.setTop (mkF m 57 #[.val (.int p0), .val (.int (b2i p1)), .val (.ref p2), .val (.ref p3)] []))
      exact J16 _ _ X11 N11 h10 e11 es r47.symm F4 F7 F8 F9
  have r48 : (if (64 : Int32) < (u + p0) then (0 : Int32) else u) = (if (64 : Int32) < (u + p0) then (0 : Int32) else u) := rfl
  have r49 : (if (64 : Int32) < (u + p0) then (w + (1 : Int32)) else w) = (if (64 : Int32) < (u + p0) then (w + (1 : Int32)) else w) := rfl
  by_cases hc2 : (64 : Int32) < (u + p0)
  · have r50 := r48.trans (if_pos hc2)
    have r51 := r49.trans (if_pos hc2)
    refine Go.back (fun t k => XS.icmpNo X0.here hx rfl (hb hby d2_7) rfl (tlt hc2).2.2.2 k) ?_
    show Go p.tables e below (P2 Z p0 p1 p2 p3 u w es h0 n0 s) (s₁.setTop (mkF m 10 #[.val (.int p0), .val (.int (b2i p1)), .val (.ref p2), .val (.ref p3)] []))
    refine Go.back (fun t k => XS.aloadN X0.here hx rfl (hb hby d2_10) rfl rfl  k) ?_
    show Go p.tables e below (P2 Z p0 p1 p2 p3 u w es h0 n0 s) (s₁.setTop (mkF m 11 #[.val (.int p0), .val (.int (b2i p1)), .val (.ref p2), .val (.ref p3)] [(.ref p3)]))
    refine Go.back (fun t k => XS.iconst X0.here hx rfl (hb hby d2_11) k) ?_
    show Go p.tables e below (P2 Z p0 p1 p2 p3 u w es h0 n0 s) (s₁.setTop (mkF m 12 #[.val (.int p0), .val (.int (b2i p1)), .val (.ref p2), .val (.ref p3)] [(.int (1 : Int32)), (.ref p3)]))
    refine Go.back (fun t k => XS.aloadN X0.here hx rfl (hb hby d2_12) rfl rfl  k) ?_
    show Go p.tables e below (P2 Z p0 p1 p2 p3 u w es h0 n0 s) (s₁.setTop (mkF m 13 #[.val (.int p0), .val (.int (b2i p1)), .val (.ref p2), .val (.ref p3)] [(.ref p3), (.int (1 : Int32)), (.ref p3)]))
    refine Go.back (fun t k => XS.iconst X0.here hx rfl (hb hby d2_13) k) ?_
    show Go p.tables e below (P2 Z p0 p1 p2 p3 u w es h0 n0 s) (s₁.setTop (mkF m 14 #[.val (.int p0), .val (.int (b2i p1)), .val (.ref p2), .val (.ref p3)] [(.int (1 : Int32)), (.ref p3), (.int (1 : Int32)), (.ref p3)]))
    obtain ⟨cl52, Ar52, hi52, ha52⟩ := H1.get (j := (1 : Int32)) (by decide) (v := (.int w)) rfl
    refine Go.back (fun t k => X0.iaload hx (j := (1 : Int32)) (v := (.int w)) (by rw [e0]; exact Ar52.1) (State.isArrayOf_alike hZ.alike Ar52.2.1) Ar52.2.2 hi52 ha52 (g := (mkF m 14 #[.val (.int p0), .val (.int (b2i p1)), .val (.ref p2), .val (.ref p3)] [(.int (1 : Int32)), (.ref p3), (.int (1 : Int32)), (.ref p3)])) rfl rfl (hb hby d2_14) t k) ?_
    show Go p.tables e below (P2 Z p0 p1 p2 p3 u w es h0 n0 s) (s₁.setTop (mkF m 15 #[.val (.int p0), .val (.int (b2i p1)), .val (.ref p2), .val (.ref p3)] [(.int w), (.int (1 : Int32)), (.ref p3)]))
    refine Go.back (fun t k => XS.iconst X0.here hx rfl (hb hby d2_15) k) ?_
    show Go p.tables e below (P2 Z p0 p1 p2 p3 u w es h0 n0 s) (s₁.setTop (mkF m 16 #[.val (.int p0), .val (.int (b2i p1)), .val (.ref p2), .val (.ref p3)] [(.int (1 : Int32)), (.int w), (.int (1 : Int32)), (.ref p3)]))
    refine Go.back (fun t k => XS.iadd X0.here hx rfl (hb hby d2_16) rfl k) ?_
    show Go p.tables e below (P2 Z p0 p1 p2 p3 u w es h0 n0 s) (s₁.setTop (mkF m 17 #[.val (.int p0), .val (.int (b2i p1)), .val (.ref p2), .val (.ref p3)] [(.int (w + (1 : Int32))), (.int (1 : Int32)), (.ref p3)]))
    obtain ⟨cl53, Ar53, hi53, -⟩ := H1.at (j := (1 : Int32)) (by decide) (Nat.le_of_ble_eq_true rfl)
    obtain ⟨T53, h53, X53, e53, W53, st53⟩ := stI X0 hx hZ e0 Ar53 (j := (1 : Int32)) hi53 (g := (mkF m 17 #[.val (.int p0), .val (.int (b2i p1)), .val (.ref p2), .val (.ref p3)] [(.int (w + (1 : Int32))), (.int (1 : Int32)), (.ref p3)])) rfl rfl (hb hby d2_17)
    have F54 : ArL Z h53 p2 .long (List.map Value.long es) := H0.other W53 H4
    have F55 : ArL Z h53 p3 .int [(.int u), (.int (w + (1 : Int32)))] := H1.set W53
    have F56 : n0 ≤ h53.size := Nat.le_trans Z0 (Keep.of_wr W53).1
    have F57 : Keep h0 h53 [p2, p3] := (Keep.refl h0 [p2, p3]).wr W53 (Or.inl (List.mem_of_getElem? (i := 1) rfl))
    obtain ⟨Lo53, Y53, N53⟩ := pk X53 (Fr.snoc X53 N0 H3)
    refine Go.back st53 ?_
    show Go p.tables e below (P2 Z p0 p1 p2 p3 u w es h0 n0 s) (T53.setTop (mkF m 18 #[.val (.int p0), .val (.int (b2i p1)), .val (.ref p2), .val (.ref p3)] []))
    refine Go.back (fun t k => XS.aloadN Y53.here hx rfl (hb hby d2_18) rfl rfl  k) ?_
    show Go p.tables e below (P2 Z p0 p1 p2 p3 u w es h0 n0 s) (T53.setTop (mkF m 19 #[.val (.int p0), .val (.int (b2i p1)), .val (.ref p2), .val (.ref p3)] [(.ref p3)]))
    refine Go.back (fun t k => XS.iconst Y53.here hx rfl (hb hby d2_19) k) ?_
    show Go p.tables e below (P2 Z p0 p1 p2 p3 u w es h0 n0 s) (T53.setTop (mkF m 20 #[.val (.int p0), .val (.int (b2i p1)), .val (.ref p2), .val (.ref p3)] [(.int (0 : Int32)), (.ref p3)]))
    refine Go.back (fun t k => XS.iconst Y53.here hx rfl (hb hby d2_20) k) ?_
    show Go p.tables e below (P2 Z p0 p1 p2 p3 u w es h0 n0 s) (T53.setTop (mkF m 21 #[.val (.int p0), .val (.int (b2i p1)), .val (.ref p2), .val (.ref p3)] [(.int (0 : Int32)), (.int (0 : Int32)), (.ref p3)]))
    obtain ⟨cl58, Ar58, hi58, -⟩ := F55.at (j := (0 : Int32)) (by decide) (Nat.le_of_ble_eq_true rfl)
    obtain ⟨T58, h58, X58, e58, W58, st58⟩ := stI Y53 hx hZ e53 Ar58 (j := (0 : Int32)) hi58 (g := (mkF m 21 #[.val (.int p0), .val (.int (b2i p1)), .val (.ref p2), .val (.ref p3)] [(.int (0 : Int32)), (.int (0 : Int32)), (.ref p3)])) rfl rfl (hb hby d2_21)
    have F59 : ArL Z h58 p2 .long (List.map Value.long es) := F54.other W58 H4
    have F60 : ArL Z h58 p3 .int [(.int (0 : Int32)), (.int (w + (1 : Int32)))] := F55.set W58
    have F61 : n0 ≤ h58.size := Nat.le_trans F56 (Keep.of_wr W58).1
    have F62 : Keep h0 h58 [p2, p3] := F57.wr W58 (Or.inl (List.mem_of_getElem? (i := 1) rfl))
    obtain ⟨Lo58, Y58, N58⟩ := pk X58 (Fr.snoc X58 N53 H3)
    refine Go.back st58 ?_
    show Go p.tables e below (P2 Z p0 p1 p2 p3 u w es h0 n0 s) (T58.setTop (mkF m 22 #[.val (.int p0), .val (.int (b2i p1)), .val (.ref p2), .val (.ref p3)] []))
    exact J3 _ _ Y58 N58 h58 e58 (0 : Int32) (w + (1 : Int32)) r50.symm r51.symm F59 F60 F61 F62
  · have r63 := r48.trans (if_neg hc2)
    have r64 := r49.trans (if_neg hc2)
    refine Go.back (fun t k => XS.icmpYes X0.here hx rfl (pc0 := 7) (pc' := 22) rfl (hb hby d2_7) rfl (flt hc2).2.2.2 (by decide) (by decide) k) ?_
    show Go p.tables e below (P2 Z p0 p1 p2 p3 u w es h0 n0 s) (s₁.setTop (mkF m 22 #[.val (.int p0), .val (.int (b2i p1)), .val (.ref p2), .val (.ref p3)] []))
    exact J3 _ _ X0 N0 h0 e0 u w r63.symm r64.symm H0 H1 Z0 (Keep.refl h0 [p2, p3])
theorem d8_0 : decode method_3_code 0 = .ok (.iload_n 2, 1) := by decide +kernel
theorem d8_1 : decode method_3_code 1 = .ok (.aload_n 0, 1) := by decide +kernel
theorem d8_2 : decode method_3_code 2 = .ok (.arraylength, 1) := by decide +kernel
theorem d8_3 : decode method_3_code 3 = .ok (.if_icmp .ge 19, 3) := by decide +kernel
theorem d8_6 : decode method_3_code 6 = .ok (.aload_n 0, 1) := by decide +kernel
theorem d8_7 : decode method_3_code 7 = .ok (.iload_n 2, 1) := by decide +kernel
theorem d8_8 : decode method_3_code 8 = .ok (.laload, 1) := by decide +kernel
theorem d8_9 : decode method_3_code 9 = .ok (.aload_n 1, 1) := by decide +kernel
theorem d8_10 : decode method_3_code 10 = .ok (.iload_n 2, 1) := by decide +kernel
theorem d8_11 : decode method_3_code 11 = .ok (.laload, 1) := by decide +kernel
theorem d8_12 : decode method_3_code 12 = .ok (.lcmp, 1) := by decide +kernel
theorem d8_13 : decode method_3_code 13 = .ok (.ifCond .ne 7, 3) := by decide +kernel
theorem d8_16 : decode method_3_code 16 = .ok (.iconst 1, 1) := by decide +kernel
theorem d8_17 : decode method_3_code 17 = .ok (.goto 4, 3) := by decide +kernel
theorem d8_20 : decode method_3_code 20 = .ok (.iconst 0, 1) := by decide +kernel
theorem d8_21 : decode method_3_code 21 = .ok (.ireturn, 1) := by decide +kernel
theorem d8_22 : decode method_3_code 22 = .ok (.aload_n 1, 1) := by decide +kernel
theorem d8_23 : decode method_3_code 23 = .ok (.iload_n 2, 1) := by decide +kernel
theorem d8_24 : decode method_3_code 24 = .ok (.laload, 1) := by decide +kernel
theorem d8_25 : decode method_3_code 25 = .ok (.lconst 0, 1) := by decide +kernel
theorem d8_26 : decode method_3_code 26 = .ok (.lcmp, 1) := by decide +kernel
theorem d8_27 : decode method_3_code 27 = .ok (.ifCond .ne 7, 3) := by decide +kernel
theorem d8_30 : decode method_3_code 30 = .ok (.iconst 1, 1) := by decide +kernel
theorem d8_31 : decode method_3_code 31 = .ok (.goto 4, 3) := by decide +kernel
theorem d8_34 : decode method_3_code 34 = .ok (.iconst 0, 1) := by decide +kernel
theorem d8_35 : decode method_3_code 35 = .ok (.ireturn, 1) := by decide +kernel
def f8 (p2 : Int32) (gs : List Int64) (es : List Int64) (nl : Int32) : Bool := (if p2 < nl then (let z8 : Bool := (if (List.getD gs (p2).toNatClampNeg (0 : Int64)) = (List.getD es (p2).toNatClampNeg (0 : Int64)) then true else false); z8) else (let z17 : Bool := (if (List.getD es (p2).toNatClampNeg (0 : Int64)) = (0 : Int64) then true else false); z17))
def Q8 (Z : State) (p0 : Addr) (p1 : Addr) (p2 : Int32) (gs : List Int64) (es : List Int64) (nl : Int32) (h0 : Heap) (n0 : Nat) (v : Option Value) (h : Heap) (L : List Loc) : Prop := v = some (.int (b2i (f8 p2 gs es nl))) ∧ Fr n0 L ∧ h = h0
abbrev rmm8 : Room := { frames := 0, cells := 0, slots := 0, locals := 0 }
abbrev P8 (Z : State) (p0 : Addr) (p1 : Addr) (p2 : Int32) (gs : List Int64) (es : List Int64) (nl : Int32) (h0 : Heap) (n0 : Nat) (s : State) : Outcome → State → Prop := fun o U' => ∃ v L, o = .returned v ∧ Q8 Z p0 p1 p2 gs es nl h0 n0 v U'.heap L ∧ FrameEnd s o U' L rmm8.cells rmm8.slots
theorem pn_8 : plainName "com/example/onward/onward/explore/PackingBitsOfPinLaw" = true := by first | (simp [plainName, overriddenIn]; done) | decide +kernel
theorem ef_8 (m : MethodId) (p0 : Addr) (p1 : Addr) (p2 : Int32) : entryFrame m #[(.ref p0), (.ref p1), (.int p2)] 3 = mkF m 0 #[.val (.ref p0), .val (.ref p1), .val (.int p2)] [] := by first | (simp [entryFrame, mkF, argsToLocals, Value.category]; done) | rfl
set_option maxRecDepth 65536 in
set_option maxHeartbeats 40000000 in
theorem rm8 (l : Launch) (Z : State) (a0 : Array Value) (hw : ∀ d ∈ tables_1, d.before a0 Z = true) (ws : List Jvm.Cond) (p0 : Addr) (p1 : Addr) (p2 : Int32) (gs : List Int64) (es : List Int64) (nl : Int32) (h0 : Heap) (n0 : Nat) (Z0 : n0 ≤ h0.size) (H0 : ArL Z h0 p0 .long (List.map Value.long gs)) (H1 : ArL Z h0 p1 .long (List.map Value.long es)) (hl : (List.length gs).toInt32 = nl) (hn : ¬ p2 < (0 : Int32)) (hi : (p2).toNatClampNeg < es.length) :
    MetFree l (⟨"com/example/onward/onward/explore/PackingBitsOfPinLaw", "same", "([J[JI)Z"⟩ : MethodName) (head1 (Jvm.Cond.code (⟨"com/example/onward/onward/explore/PackingBitsOfPinLaw", "same", "([J[JI)Z"⟩ : MethodName) method_3_code 3 (some .boolean) :: ws) rmm8) (fun a U => a = #[(.ref p0), (.ref p1), (.int p2)] ∧ Z.Warmed39 U.vm ∧ U.heap = h0) (fun _ _ _ _ _ => True) (fun _ U o U' => ∃ v L, o = .returned v ∧ Q8 Z p0 p1 p2 gs es nl h0 n0 v U'.heap L ∧ FrameEnd U o U' L rmm8.cells rmm8.slots) := by
  refine MetFree.of_bodySF (plainFor_of_name pn_8) hisR ?_
  intro p e s m args below meth c s₁ Bd hml0 hP hK
  obtain ⟨rfl, hZ, hh⟩ := hP
  have hx := Bd.exec
  have hby := Bd.bytes
  have hml : c.maxLocals = 3 := hml0
  have hown : s.vm.findClass "com/example/onward/onward/explore/PackingBitsOfPinLaw" = some m.cls := findClass_of_methodNamed Bd.named
  have hnm := (name_of_methodNamed Bd.named Bd.method).1
  have X0 : Stand p l e rmm8 s m #[(.ref p0), (.ref p1), (.int p2)] below meth c s₁ [] 0 0 := Stand.of_body Bd
  have e0 : s₁.heap = h0 := by rw [← hh, Bd.state]; rfl
  have N0 := Fr.nil n0
  show Go p.tables e below (P8 Z p0 p1 p2 gs es nl h0 n0 s) (s₁.setTop (entryFrame m #[(.ref p0), (.ref p1), (.int p2)] 3))
  refine Go.back (fun t k => castTop (ef_8 m p0 p1 p2) k) ?_
  show Go p.tables e below (P8 Z p0 p1 p2 gs es nl h0 n0 s) (s₁.setTop (mkF m 0 #[.val (.ref p0), .val (.ref p1), .val (.int p2)] []))
  have hf0 : f8 p2 gs es nl = (if p2 < nl then (let z8 : Bool := (if (List.getD gs (p2).toNatClampNeg (0 : Int64)) = (List.getD es (p2).toNatClampNeg (0 : Int64)) then true else false); z8) else (let z17 : Bool := (if (List.getD es (p2).toNatClampNeg (0 : Int64)) = (0 : Int64) then true else false); z17)) := rfl
  refine Go.back (fun t k => XS.iloadN X0.here hx rfl (hb hby d8_0) rfl  k) ?_
  show Go p.tables e below (P8 Z p0 p1 p2 gs es nl h0 n0 s) (s₁.setTop (mkF m 1 #[.val (.ref p0), .val (.ref p1), .val (.int p2)] [(.int p2)]))
  refine Go.back (fun t k => XS.aloadN X0.here hx rfl (hb hby d8_1) rfl rfl  k) ?_
  show Go p.tables e below (P8 Z p0 p1 p2 gs es nl h0 n0 s) (s₁.setTop (mkF m 2 #[.val (.ref p0), .val (.ref p1), .val (.int p2)] [(.ref p0), (.int p2)]))
  obtain ⟨cl1, Ar1, S1⟩ := H0.len
  refine Go.back (fun t k => X0.arraylength hx (by rw [e0]; exact Ar1.1) (State.isArrayOf_alike hZ.alike Ar1.2.1) (g := (mkF m 2 #[.val (.ref p0), .val (.ref p1), .val (.int p2)] [(.ref p0), (.int p2)])) rfl rfl (hb hby d8_2) t k) ?_
  rw [S1]
  rw [List.length_map, hl]
  show Go p.tables e below (P8 Z p0 p1 p2 gs es nl h0 n0 s) (s₁.setTop (mkF m 3 #[.val (.ref p0), .val (.ref p1), .val (.int p2)] [(.int nl), (.int p2)]))
  by_cases hc2 : p2 < nl
  · have r3 := hf0.trans (if_pos hc2)
    refine Go.back (fun t k => XS.icmpNo X0.here hx rfl (hb hby d8_3) rfl (tlt hc2).2.1 k) ?_
    show Go p.tables e below (P8 Z p0 p1 p2 gs es nl h0 n0 s) (s₁.setTop (mkF m 6 #[.val (.ref p0), .val (.ref p1), .val (.int p2)] []))
    refine Go.back (fun t k => XS.aloadN X0.here hx rfl (hb hby d8_6) rfl rfl  k) ?_
    show Go p.tables e below (P8 Z p0 p1 p2 gs es nl h0 n0 s) (s₁.setTop (mkF m 7 #[.val (.ref p0), .val (.ref p1), .val (.int p2)] [(.ref p0)]))
    refine Go.back (fun t k => XS.iloadN X0.here hx rfl (hb hby d8_7) rfl  k) ?_
    show Go p.tables e below (P8 Z p0 p1 p2 gs es nl h0 n0 s) (s₁.setTop (mkF m 8 #[.val (.ref p0), .val (.ref p1), .val (.int p2)] [(.int p2), (.ref p0)]))
    obtain ⟨cl4, Ar4, hi4, ha4⟩ := H0.get (j := p2) hn (v := (.long (List.getD gs (p2).toNatClampNeg (0 : Int64)))) (getJ gs (own_sm hl hn hc2))
    refine Go.back (fun t k => X0.laload hx (j := p2) (v := (.long (List.getD gs (p2).toNatClampNeg (0 : Int64)))) (by rw [e0]; exact Ar4.1) (State.isArrayOf_alike hZ.alike Ar4.2.1) Ar4.2.2 hi4 ha4 (g := (mkF m 8 #[.val (.ref p0), .val (.ref p1), .val (.int p2)] [(.int p2), (.ref p0)])) rfl rfl (hb hby d8_8) t k) ?_
    show Go p.tables e below (P8 Z p0 p1 p2 gs es nl h0 n0 s) (s₁.setTop (mkF m 9 #[.val (.ref p0), .val (.ref p1), .val (.int p2)] [(.long (List.getD gs (p2).toNatClampNeg (0 : Int64)))]))
    refine Go.back (fun t k => XS.aloadN X0.here hx rfl (hb hby d8_9) rfl rfl  k) ?_
    show Go p.tables e below (P8 Z p0 p1 p2 gs es nl h0 n0 s) (s₁.setTop (mkF m 10 #[.val (.ref p0), .val (.ref p1), .val (.int p2)] [(.ref p1), (.long (List.getD gs (p2).toNatClampNeg (0 : Int64)))]))
    refine Go.back (fun t k => XS.iloadN X0.here hx rfl (hb hby d8_10) rfl  k) ?_
    show Go p.tables e below (P8 Z p0 p1 p2 gs es nl h0 n0 s) (s₁.setTop (mkF m 11 #[.val (.ref p0), .val (.ref p1), .val (.int p2)] [(.int p2), (.ref p1), (.long (List.getD gs (p2).toNatClampNeg (0 : Int64)))]))
    obtain ⟨cl5, Ar5, hi5, ha5⟩ := H1.get (j := p2) hn (v := (.long (List.getD es (p2).toNatClampNeg (0 : Int64)))) (getJ es hi)
    refine Go.back (fun t k => X0.laload hx (j := p2) (v := (.long (List.getD es (p2).toNatClampNeg (0 : Int64)))) (by rw [e0]; exact Ar5.1) (State.isArrayOf_alike hZ.alike Ar5.2.1) Ar5.2.2 hi5 ha5 (g := (mkF m 11 #[.val (.ref p0), .val (.ref p1), .val (.int p2)] [(.int p2), (.ref p1), (.long (List.getD gs (p2).toNatClampNeg (0 : Int64)))])) rfl rfl (hb hby d8_11) t k) ?_
    show Go p.tables e below (P8 Z p0 p1 p2 gs es nl h0 n0 s) (s₁.setTop (mkF m 12 #[.val (.ref p0), .val (.ref p1), .val (.int p2)] [(.long (List.getD es (p2).toNatClampNeg (0 : Int64))), (.long (List.getD gs (p2).toNatClampNeg (0 : Int64)))]))
    refine Go.back (fun t k => XS.lcmp X0.here hx rfl (hb hby d8_12) rfl k) ?_
    show Go p.tables e below (P8 Z p0 p1 p2 gs es nl h0 n0 s) (s₁.setTop (mkF m 13 #[.val (.ref p0), .val (.ref p1), .val (.int p2)] [(.int (lcmpW (List.getD gs (p2).toNatClampNeg (0 : Int64)) (List.getD es (p2).toNatClampNeg (0 : Int64))))]))
    have J7 : ∀ (z8 : Bool) (hz8 : z8 = (if (List.getD gs (p2).toNatClampNeg (0 : Int64)) = (List.getD es (p2).toNatClampNeg (0 : Int64)) then true else false)), Go p.tables e below (P8 Z p0 p1 p2 gs es nl h0 n0 s) (s₁.setTop (mkF m 21 #[.val (.ref p0), .val (.ref p1), .val (.int p2)] [(.int (b2i z8))])) := by
      intro z8 hz8
      have r9 : f8 p2 gs es nl = z8 := by subst hz8; exact r3
      show Go p.tables e below (P8 Z p0 p1 p2 gs es nl h0 n0 s) (s₁.setTop (mkF m 21 #[.val (.ref p0), .val (.ref p1), .val (.int p2)] [(.int (b2i z8))]))
      exact Go.retB (b := z8) X0 hx Bd.returns (hb hby d8_21) Bd.notSynchronized ⟨by rw [r9], N0, e0⟩ (by decide) (by decide)
    have r10 : (if (List.getD gs (p2).toNatClampNeg (0 : Int64)) = (List.getD es (p2).toNatClampNeg (0 : Int64)) then true else false) = (if (List.getD gs (p2).toNatClampNeg (0 : Int64)) = (List.getD es (p2).toNatClampNeg (0 : Int64)) then true else false) := rfl
    by_cases hc6 : (List.getD gs (p2).toNatClampNeg (0 : Int64)) = (List.getD es (p2).toNatClampNeg (0 : Int64))
    · have r11 := r10.trans (if_pos hc6)
      refine Go.back (fun t k => XS.ifNo X0.here hx rfl (hb hby d8_13) rfl ((if0 _ _).trans (teq ((lw_eq _ _).mpr hc6)).2) k) ?_
      show Go p.tables e below (P8 Z p0 p1 p2 gs es nl h0 n0 s) (s₁.setTop (mkF m 16 #[.val (.ref p0), .val (.ref p1), .val (.int p2)] []))
      refine Go.back (fun t k => XS.iconst X0.here hx rfl (hb hby d8_16) k) ?_
      show Go p.tables e below (P8 Z p0 p1 p2 gs es nl h0 n0 s) (s₁.setTop (mkF m 17 #[.val (.ref p0), .val (.ref p1), .val (.int p2)] [(.int (1 : Int32))]))
      refine Go.back (fun t k => XS.goto X0.here hx rfl (pc0 := 17) (pc' := 21) rfl (hb hby d8_17) (by decide) (by decide) k) ?_
      show Go p.tables e below (P8 Z p0 p1 p2 gs es nl h0 n0 s) (s₁.setTop (mkF m 21 #[.val (.ref p0), .val (.ref p1), .val (.int p2)] [(.int (1 : Int32))]))
      exact J7 true r11.symm
    · have r12 := r10.trans (if_neg hc6)
      refine Go.back (fun t k => XS.ifYes X0.here hx rfl (pc0 := 13) (pc' := 20) rfl (hb hby d8_13) rfl ((if0 _ _).trans (feq (fun q => hc6 ((lw_eq _ _).mp q))).2) (by decide) (by decide) k) ?_
      show Go p.tables e below (P8 Z p0 p1 p2 gs es nl h0 n0 s) (s₁.setTop (mkF m 20 #[.val (.ref p0), .val (.ref p1), .val (.int p2)] []))
      refine Go.back (fun t k => XS.iconst X0.here hx rfl (hb hby d8_20) k) ?_
      show Go p.tables e below (P8 Z p0 p1 p2 gs es nl h0 n0 s) (s₁.setTop (mkF m 21 #[.val (.ref p0), .val (.ref p1), .val (.int p2)] [(.int (0 : Int32))]))
      exact J7 false r12.symm
  · have r13 := hf0.trans (if_neg hc2)
    refine Go.back (fun t k => XS.icmpYes X0.here hx rfl (pc0 := 3) (pc' := 22) rfl (hb hby d8_3) rfl (flt hc2).2.1 (by decide) (by decide) k) ?_
    show Go p.tables e below (P8 Z p0 p1 p2 gs es nl h0 n0 s) (s₁.setTop (mkF m 22 #[.val (.ref p0), .val (.ref p1), .val (.int p2)] []))
    refine Go.back (fun t k => XS.aloadN X0.here hx rfl (hb hby d8_22) rfl rfl  k) ?_
    show Go p.tables e below (P8 Z p0 p1 p2 gs es nl h0 n0 s) (s₁.setTop (mkF m 23 #[.val (.ref p0), .val (.ref p1), .val (.int p2)] [(.ref p1)]))
    refine Go.back (fun t k => XS.iloadN X0.here hx rfl (hb hby d8_23) rfl  k) ?_
    show Go p.tables e below (P8 Z p0 p1 p2 gs es nl h0 n0 s) (s₁.setTop (mkF m 24 #[.val (.ref p0), .val (.ref p1), .val (.int p2)] [(.int p2), (.ref p1)]))
    obtain ⟨cl14, Ar14, hi14, ha14⟩ := H1.get (j := p2) hn (v := (.long (List.getD es (p2).toNatClampNeg (0 : Int64)))) (getJ es hi)
    refine Go.back (fun t k => X0.laload hx (j := p2) (v := (.long (List.getD es (p2).toNatClampNeg (0 : Int64)))) (by rw [e0]; exact Ar14.1) (State.isArrayOf_alike hZ.alike Ar14.2.1) Ar14.2.2 hi14 ha14 (g := (mkF m 24 #[.val (.ref p0), .val (.ref p1), .val (.int p2)] [(.int p2), (.ref p1)])) rfl rfl (hb hby d8_24) t k) ?_
    show Go p.tables e below (P8 Z p0 p1 p2 gs es nl h0 n0 s) (s₁.setTop (mkF m 25 #[.val (.ref p0), .val (.ref p1), .val (.int p2)] [(.long (List.getD es (p2).toNatClampNeg (0 : Int64)))]))
    refine Go.back (fun t k => XS.lconst X0.here hx rfl (hb hby d8_25) k) ?_
    show Go p.tables e below (P8 Z p0 p1 p2 gs es nl h0 n0 s) (s₁.setTop (mkF m 26 #[.val (.ref p0), .val (.ref p1), .val (.int p2)] [(.long (0 : Int64)), (.long (List.getD es (p2).toNatClampNeg (0 : Int64)))]))
    refine Go.back (fun t k => XS.lcmp X0.here hx rfl (hb hby d8_26) rfl k) ?_
    show Go p.tables e below (P8 Z p0 p1 p2 gs es nl h0 n0 s) (s₁.setTop (mkF m 27 #[.val (.ref p0), .val (.ref p1), .val (.int p2)] [(.int (lcmpW (List.getD es (p2).toNatClampNeg (0 : Int64)) (0 : Int64)))]))
    have J16 : ∀ (z17 : Bool) (hz17 : z17 = (if (List.getD es (p2).toNatClampNeg (0 : Int64)) = (0 : Int64) then true else false)), Go p.tables e below (P8 Z p0 p1 p2 gs es nl h0 n0 s) (s₁.setTop (mkF m 35 #[.val (.ref p0), .val (.ref p1), .val (.int p2)] [(.int (b2i z17))])) := by
      intro z17 hz17
      have r18 : f8 p2 gs es nl = z17 := by subst hz17; exact r13
      show Go p.tables e below (P8 Z p0 p1 p2 gs es nl h0 n0 s) (s₁.setTop (mkF m 35 #[.val (.ref p0), .val (.ref p1), .val (.int p2)] [(.int (b2i z17))]))
      exact Go.retB (b := z17) X0 hx Bd.returns (hb hby d8_35) Bd.notSynchronized ⟨by rw [r18], N0, e0⟩ (by decide) (by decide)
    have r19 : (if (List.getD es (p2).toNatClampNeg (0 : Int64)) = (0 : Int64) then true else false) = (if (List.getD es (p2).toNatClampNeg (0 : Int64)) = (0 : Int64) then true else false) := rfl
    by_cases hc15 : (List.getD es (p2).toNatClampNeg (0 : Int64)) = (0 : Int64)
    · have r20 := r19.trans (if_pos hc15)
      refine Go.back (fun t k => XS.ifNo X0.here hx rfl (hb hby d8_27) rfl ((if0 _ _).trans (teq ((lw_eq _ _).mpr hc15)).2) k) ?_
      show Go p.tables e below (P8 Z p0 p1 p2 gs es nl h0 n0 s) (s₁.setTop (mkF m 30 #[.val (.ref p0), .val (.ref p1), .val (.int p2)] []))
      refine Go.back (fun t k => XS.iconst X0.here hx rfl (hb hby d8_30) k) ?_
      show Go p.tables e below (P8 Z p0 p1 p2 gs es nl h0 n0 s) (s₁.setTop (mkF m 31 #[.val (.ref p0), .val (.ref p1), .val (.int p2)] [(.int (1 : Int32))]))
      refine Go.back (fun t k => XS.goto X0.here hx rfl (pc0 := 31) (pc' := 35) rfl (hb hby d8_31) (by decide) (by decide) k) ?_
      show Go p.tables e below (P8 Z p0 p1 p2 gs es nl h0 n0 s) (s₁.setTop (mkF m 35 #[.val (.ref p0), .val (.ref p1), .val (.int p2)] [(.int (1 : Int32))]))
      exact J16 true r20.symm
    · have r21 := r19.trans (if_neg hc15)
      refine Go.back (fun t k => XS.ifYes X0.here hx rfl (pc0 := 27) (pc' := 34) rfl (hb hby d8_27) rfl ((if0 _ _).trans (feq (fun q => hc15 ((lw_eq _ _).mp q))).2) (by decide) (by decide) k) ?_
      show Go p.tables e below (P8 Z p0 p1 p2 gs es nl h0 n0 s) (s₁.setTop (mkF m 34 #[.val (.ref p0), .val (.ref p1), .val (.int p2)] []))
      refine Go.back (fun t k => XS.iconst X0.here hx rfl (hb hby d8_34) k) ?_
      show Go p.tables e below (P8 Z p0 p1 p2 gs es nl h0 n0 s) (s₁.setTop (mkF m 35 #[.val (.ref p0), .val (.ref p1), .val (.int p2)] [(.int (0 : Int32))]))
      exact J16 false r21.symm
theorem d7_0 : decode prog_122_method_5_code 0 = .ok (.aload_n 0, 1) := by decide +kernel
theorem d7_1 : decode prog_122_method_5_code 1 = .ok (.getfield 34, 3) := by decide +kernel
theorem d7_4 : decode prog_122_method_5_code 4 = .ok (.newarray .long, 2) := by decide +kernel
theorem d7_6 : decode prog_122_method_5_code 6 = .ok (.astore_n 2, 1) := by decide +kernel
theorem d7_7 : decode prog_122_method_5_code 7 = .ok (.iconst 0, 1) := by decide +kernel
theorem d7_8 : decode prog_122_method_5_code 8 = .ok (.istore_n 3, 1) := by decide +kernel
theorem d7_9 : decode prog_122_method_5_code 9 = .ok (.iload_n 3, 1) := by decide +kernel
theorem d7_10 : decode prog_122_method_5_code 10 = .ok (.aload_n 1, 1) := by decide +kernel
theorem d7_11 : decode prog_122_method_5_code 11 = .ok (.arraylength, 1) := by decide +kernel
theorem d7_12 : decode prog_122_method_5_code 12 = .ok (.if_icmp .ge 39, 3) := by decide +kernel
theorem d7_15 : decode prog_122_method_5_code 15 = .ok (.aload_n 1, 1) := by decide +kernel
theorem d7_16 : decode prog_122_method_5_code 16 = .ok (.iload_n 3, 1) := by decide +kernel
theorem d7_17 : decode prog_122_method_5_code 17 = .ok (.baload, 1) := by decide +kernel
theorem d7_18 : decode prog_122_method_5_code 18 = .ok (.ifCond .eq 27, 3) := by decide +kernel
theorem d7_21 : decode prog_122_method_5_code 21 = .ok (.aload_n 2, 1) := by decide +kernel
theorem d7_22 : decode prog_122_method_5_code 22 = .ok (.aload_n 0, 1) := by decide +kernel
theorem d7_23 : decode prog_122_method_5_code 23 = .ok (.getfield 7, 3) := by decide +kernel
theorem d7_26 : decode prog_122_method_5_code 26 = .ok (.iload_n 3, 1) := by decide +kernel
theorem d7_27 : decode prog_122_method_5_code 27 = .ok (.iaload, 1) := by decide +kernel
theorem d7_28 : decode prog_122_method_5_code 28 = .ok (.dup2, 1) := by decide +kernel
theorem d7_29 : decode prog_122_method_5_code 29 = .ok (.laload, 1) := by decide +kernel
theorem d7_30 : decode prog_122_method_5_code 30 = .ok (.aload_n 0, 1) := by decide +kernel
theorem d7_31 : decode prog_122_method_5_code 31 = .ok (.getfield 16, 3) := by decide +kernel
theorem d7_34 : decode prog_122_method_5_code 34 = .ok (.iload_n 3, 1) := by decide +kernel
theorem d7_35 : decode prog_122_method_5_code 35 = .ok (.laload, 1) := by decide +kernel
theorem d7_36 : decode prog_122_method_5_code 36 = .ok (.aload_n 0, 1) := by decide +kernel
theorem d7_37 : decode prog_122_method_5_code 37 = .ok (.getfield 13, 3) := by decide +kernel
theorem d7_40 : decode prog_122_method_5_code 40 = .ok (.iload_n 3, 1) := by decide +kernel
theorem d7_41 : decode prog_122_method_5_code 41 = .ok (.iaload, 1) := by decide +kernel
theorem d7_42 : decode prog_122_method_5_code 42 = .ok (.lshl, 1) := by decide +kernel
theorem d7_43 : decode prog_122_method_5_code 43 = .ok (.lor, 1) := by decide +kernel
theorem d7_44 : decode prog_122_method_5_code 44 = .ok (.lastore, 1) := by decide +kernel
theorem d7_45 : decode prog_122_method_5_code 45 = .ok (.iinc 3 1, 3) := by decide +kernel
theorem d7_48 : decode prog_122_method_5_code 48 = .ok (.goto (-39), 3) := by decide +kernel
theorem d7_51 : decode prog_122_method_5_code 51 = .ok (.aload_n 2, 1) := by decide +kernel
theorem d7_52 : decode prog_122_method_5_code 52 = .ok (.areturn, 1) := by decide +kernel
def Q7 (Z : State) (p0 : Addr) (p1 : Addr) (o1 : Addr) (o2 : Addr) (o3 : Addr) (w : Int32) (ms : List Int32) (W : List Int32) (S : List Int32) (M : List Int64) (h0 : Heap) (n0 : Nat) (v : Option Value) (h : Heap) (L : List Loc) : Prop := True ∧ Fr n0 L ∧ Keep h0 h [] ∧ ∃ ob : Addr, h0.size ≤ ob ∧ v = some (.ref ob) ∧ ArL Z h ob .long (List.map Value.long (own_bitsr ms W S M w))
abbrev rmm7 : Room := { frames := 0, cells := 1, slots := 3, locals := 0 }
abbrev P7 (Z : State) (p0 : Addr) (p1 : Addr) (o1 : Addr) (o2 : Addr) (o3 : Addr) (w : Int32) (ms : List Int32) (W : List Int32) (S : List Int32) (M : List Int64) (h0 : Heap) (n0 : Nat) (s : State) : Outcome → State → Prop := fun o U' => ∃ v L, o = .returned v ∧ Q7 Z p0 p1 o1 o2 o3 w ms W S M h0 n0 v U'.heap L ∧ FrameEnd s o U' L rmm7.cells rmm7.slots
theorem pn_7 : plainName "com/example/onward/onward/explore/Packing" = true := by first | (simp [plainName, overriddenIn]; done) | decide +kernel
theorem ef_7 (m : MethodId) (p0 : Addr) (p1 : Addr) : entryFrame m #[(.ref p0), (.ref p1)] 4 = mkF m 0 #[.val (.ref p0), .val (.ref p1), .unset, .unset] [] := by first | (simp [entryFrame, mkF, argsToLocals, Value.category]; done) | rfl
set_option maxRecDepth 65536 in
set_option maxHeartbeats 40000000 in
theorem rm7 (l : Launch) (Z : State) (a0 : Array Value) (hw : ∀ d ∈ tables_1, d.before a0 Z = true) (ws : List Jvm.Cond) (p0 : Addr) (p1 : Addr) (o1 : Addr) (o2 : Addr) (o3 : Addr) (w : Int32) (ms : List Int32) (W : List Int32) (S : List Int32) (M : List Int64) (h0 : Heap) (n0 : Nat) (Z0 : n0 ≤ h0.size) (H0 : Fld Z h0 p0 "com/example/onward/onward/explore/Packing" "words" "I" (.int w)) (H1 : Fld Z h0 p0 "com/example/onward/onward/explore/Packing" "word" "[I" (.ref o1)) (H2 : Fld Z h0 p0 "com/example/onward/onward/explore/Packing" "shift" "[I" (.ref o2)) (H3 : Fld Z h0 p0 "com/example/onward/onward/explore/Packing" "mask" "[J" (.ref o3)) (H4 : ArL Z h0 p1 .boolean (List.map Value.int ms)) (H5 : ArL Z h0 o1 .int (List.map Value.int W)) (H6 : ArL Z h0 o2 .int (List.map Value.int S)) (H7 : ArL Z h0 o3 .long (List.map Value.long M)) (hl : ms.length = 5) (hW : W.length = 5) (hS : S.length = 5) (hM : M.length = 5) (hw3 : own_w3 w) (hwb : own_wb W w) :
    MetFree l (⟨"com/example/onward/onward/explore/Packing", "bitsOf", "([Z)[J"⟩ : MethodName) (head1 (Jvm.Cond.code (⟨"com/example/onward/onward/explore/Packing", "bitsOf", "([Z)[J"⟩ : MethodName) prog_122_method_5_code 4 (some (.array .long)) :: ws) rmm7) (fun a U => a = #[(.ref p0), (.ref p1)] ∧ Z.Warmed39 U.vm ∧ U.heap = h0) (fun _ _ _ _ _ => True) (fun _ U o U' => ∃ v L, o = .returned v ∧ Q7 Z p0 p1 o1 o2 o3 w ms W S M h0 n0 v U'.heap L ∧ FrameEnd U o U' L rmm7.cells rmm7.slots) := by
  refine MetFree.of_bodySF (plainFor_of_name pn_7) hisR ?_
  intro p e s m args below meth c s₁ Bd hml0 hP hK
  obtain ⟨rfl, hZ, hh⟩ := hP
  have hx := Bd.exec
  have hby := Bd.bytes
  have hml : c.maxLocals = 4 := hml0
  have hown : s.vm.findClass "com/example/onward/onward/explore/Packing" = some m.cls := findClass_of_methodNamed Bd.named
  have hnm := (name_of_methodNamed Bd.named Bd.method).1
  have X0 : Stand p l e rmm7 s m #[(.ref p0), (.ref p1)] below meth c s₁ [] 0 0 := Stand.of_body Bd
  have e0 : s₁.heap = h0 := by rw [← hh, Bd.state]; rfl
  have N0 := Fr.nil n0
  show Go p.tables e below (P7 Z p0 p1 o1 o2 o3 w ms W S M h0 n0 s) (s₁.setTop (entryFrame m #[(.ref p0), (.ref p1)] 4))
  refine Go.back (fun t k => castTop (ef_7 m p0 p1) k) ?_
  show Go p.tables e below (P7 Z p0 p1 o1 o2 o3 w ms W S M h0 n0 s) (s₁.setTop (mkF m 0 #[.val (.ref p0), .val (.ref p1), .unset, .unset] []))
  refine Go.back (fun t k => XS.aloadN X0.here hx rfl (hb hby d7_0) rfl rfl  k) ?_
  show Go p.tables e below (P7 Z p0 p1 o1 o2 o3 w ms W S M h0 n0 s) (s₁.setTop (mkF m 1 #[.val (.ref p0), .val (.ref p1), .unset, .unset] [(.ref p0)]))
  obtain ⟨T1, X1, e1, st1⟩ := getF X0 hx hZ hown (host := "") (Or.inl (hw _ (List.mem_of_getElem? (i := 36) rfl))) Via.refl e0 H0 (g := (mkF m 1 #[.val (.ref p0), .val (.ref p1), .unset, .unset] [(.ref p0)])) rfl rfl (hb hby d7_1)
  refine Go.back st1 ?_
  show Go p.tables e below (P7 Z p0 p1 o1 o2 o3 w ms W S M h0 n0 s) (T1.setTop (mkF m 4 #[.val (.ref p0), .val (.ref p1), .unset, .unset] [(.int w)]))
  obtain ⟨T2, h2, k2, X2, e2, E2, A2, st2⟩ := newP X1 hx hZ (hw _ (List.mem_of_getElem? (i := 8) rfl)) e1 (g := (mkF m 4 #[.val (.ref p0), .val (.ref p1), .unset, .unset] [(.int w)])) rfl (hb hby d7_4) rfl (own_w_nn hw3) (cap := 3) (own_w_cap hw3) (by decide) (by decide) (by decide)
  obtain ⟨b2, g2⟩ : ∃ z, z = h0.size := ⟨_, rfl⟩
  rw [← g2] at A2 st2
  have ne3 : p0 ≠ b2 := Nat.ne_of_lt (Nat.lt_of_lt_of_le H0.lt (Nat.le_of_eq g2.symm))
  have ne4 : p1 ≠ b2 := Nat.ne_of_lt (Nat.lt_of_lt_of_le H4.lt (Nat.le_of_eq g2.symm))
  have ne5 : o1 ≠ b2 := Nat.ne_of_lt (Nat.lt_of_lt_of_le H5.lt (Nat.le_of_eq g2.symm))
  have ne6 : o2 ≠ b2 := Nat.ne_of_lt (Nat.lt_of_lt_of_le H6.lt (Nat.le_of_eq g2.symm))
  have ne7 : o3 ≠ b2 := Nat.ne_of_lt (Nat.lt_of_lt_of_le H7.lt (Nat.le_of_eq g2.symm))
  have g8 : n0 ≤ b2 := Nat.le_trans Z0 (Nat.le_of_eq g2.symm)
  have sz9 : h0.size ≤ b2 := Nat.le_trans (Keep.refl h0 []).1 (Nat.le_of_eq g2.symm)
  have F10 : Fld Z h2 p0 "com/example/onward/onward/explore/Packing" "words" "I" (.int w) := H0.ext E2
  have F11 : Fld Z h2 p0 "com/example/onward/onward/explore/Packing" "word" "[I" (.ref o1) := H1.ext E2
  have F12 : Fld Z h2 p0 "com/example/onward/onward/explore/Packing" "shift" "[I" (.ref o2) := H2.ext E2
  have F13 : Fld Z h2 p0 "com/example/onward/onward/explore/Packing" "mask" "[J" (.ref o3) := H3.ext E2
  have F14 : ArL Z h2 p1 .boolean (List.map Value.int ms) := H4.ext E2
  have F15 : ArL Z h2 o1 .int (List.map Value.int W) := H5.ext E2
  have F16 : ArL Z h2 o2 .int (List.map Value.int S) := H6.ext E2
  have F17 : ArL Z h2 o3 .long (List.map Value.long M) := H7.ext E2
  have F18 : n0 ≤ h2.size := Nat.le_trans Z0 E2.1
  have F19 : Keep h0 h2 [] := (Keep.refl h0 []).ext E2
  have F20 : ArL Z h2 b2 .long (List.map Value.long (List.replicate (w).toNatClampNeg (0 : Int64))) := ArL.newJ (ty := .long) A2 (n := (w).toNatClampNeg) rfl
  refine Go.back st2 ?_
  show Go p.tables e below (P7 Z p0 p1 o1 o2 o3 w ms W S M h0 n0 s) (T2.setTop (mkF m 6 #[.val (.ref p0), .val (.ref p1), .unset, .unset] [(.ref b2)]))
  refine Go.back (fun t k => XS.astoreN X2.here hx rfl (hb hby d7_6) rfl rfl (l' := #[.val (.ref p0), .val (.ref p1), .val (.ref b2), .unset]) rfl k) ?_
  show Go p.tables e below (P7 Z p0 p1 o1 o2 o3 w ms W S M h0 n0 s) (T2.setTop (mkF m 7 #[.val (.ref p0), .val (.ref p1), .val (.ref b2), .unset] []))
  refine Go.back (fun t k => XS.iconst X2.here hx rfl (hb hby d7_7) k) ?_
  show Go p.tables e below (P7 Z p0 p1 o1 o2 o3 w ms W S M h0 n0 s) (T2.setTop (mkF m 8 #[.val (.ref p0), .val (.ref p1), .val (.ref b2), .unset] [(.int (0 : Int32))]))
  refine Go.back (fun t k => XS.istoreN X2.here hx rfl (hb hby d7_8) rfl (l' := #[.val (.ref p0), .val (.ref p1), .val (.ref b2), .val (.int (0 : Int32))]) rfl k) ?_
  show Go p.tables e below (P7 Z p0 p1 o1 o2 o3 w ms W S M h0 n0 s) (T2.setTop (mkF m 9 #[.val (.ref p0), .val (.ref p1), .val (.ref b2), .val (.int (0 : Int32))] []))
  have LOOP21 : ∀ (n : Nat) (i : Int32) (G : List Int64) (T22 : State) (L22 : List Loc) (X22 : Stand p l e rmm7 s m #[(.ref p0), (.ref p1)] below meth c T22 L22 1 3) (N22 : Fr n0 L22) (h22 : Heap) (e22 : T22.heap = h22) (F23 : Fld Z h22 p0 "com/example/onward/onward/explore/Packing" "words" "I" (.int w)) (F24 : Fld Z h22 p0 "com/example/onward/onward/explore/Packing" "word" "[I" (.ref o1)) (F25 : Fld Z h22 p0 "com/example/onward/onward/explore/Packing" "shift" "[I" (.ref o2)) (F26 : Fld Z h22 p0 "com/example/onward/onward/explore/Packing" "mask" "[J" (.ref o3)) (F27 : ArL Z h22 p1 .boolean (List.map Value.int ms)) (F28 : ArL Z h22 o1 .int (List.map Value.int W)) (F29 : ArL Z h22 o2 .int (List.map Value.int S)) (F30 : ArL Z h22 o3 .long (List.map Value.long M)) (F31 : n0 ≤ h22.size) (F32 : Keep h0 h22 []) (F33 : ArL Z h22 b2 .long (List.map Value.long G)) (hbd : own_jb n i G w) (hr : (own_bitsr ms W S M w) = own_bits ms W S M n i G), Go p.tables e below (P7 Z p0 p1 o1 o2 o3 w ms W S M h0 n0 s) (T22.setTop (mkF m 9 #[.val (.ref p0), .val (.ref p1), .val (.ref b2), .val (.int i)] [])) := by
    intro n
    induction n with
    | zero =>
      intro i G T22 L22 X22 N22 h22 e22 F23 F24 F25 F26 F27 F28 F29 F30 F31 F32 F33 hbd hr
      show Go p.tables e below (P7 Z p0 p1 o1 o2 o3 w ms W S M h0 n0 s) (T22.setTop (mkF m 9 #[.val (.ref p0), .val (.ref p1), .val (.ref b2), .val (.int i)] []))
      refine Go.back (fun t k => XS.iloadN X22.here hx rfl (hb hby d7_9) rfl  k) ?_
      show Go p.tables e below (P7 Z p0 p1 o1 o2 o3 w ms W S M h0 n0 s) (T22.setTop (mkF m 10 #[.val (.ref p0), .val (.ref p1), .val (.ref b2), .val (.int i)] [(.int i)]))
      refine Go.back (fun t k => XS.aloadN X22.here hx rfl (hb hby d7_10) rfl rfl  k) ?_
      show Go p.tables e below (P7 Z p0 p1 o1 o2 o3 w ms W S M h0 n0 s) (T22.setTop (mkF m 11 #[.val (.ref p0), .val (.ref p1), .val (.ref b2), .val (.int i)] [(.ref p1), (.int i)]))
      obtain ⟨cl34, Ar34, S34⟩ := F27.len
      refine Go.back (fun t k => X22.arraylength hx (by rw [e22]; exact Ar34.1) (State.isArrayOf_alike hZ.alike Ar34.2.1) (g := (mkF m 11 #[.val (.ref p0), .val (.ref p1), .val (.ref b2), .val (.int i)] [(.ref p1), (.int i)])) rfl rfl (hb hby d7_11) t k) ?_
      rw [S34]
      rw [List.length_map, hl]
      show Go p.tables e below (P7 Z p0 p1 o1 o2 o3 w ms W S M h0 n0 s) (T22.setTop (mkF m 12 #[.val (.ref p0), .val (.ref p1), .val (.ref b2), .val (.int i)] [(.int (5 : Int32)), (.int i)]))
      refine Go.back (fun t k => XS.icmpYes X22.here hx rfl (pc0 := 12) (pc' := 51) rfl (hb hby d7_12) rfl (flt (own_jb_z hbd)).2.1 (by decide) (by decide) k) ?_
      show Go p.tables e below (P7 Z p0 p1 o1 o2 o3 w ms W S M h0 n0 s) (T22.setTop (mkF m 51 #[.val (.ref p0), .val (.ref p1), .val (.ref b2), .val (.int i)] []))
      refine Go.back (fun t k => XS.aloadN X22.here hx rfl (hb hby d7_51) rfl rfl  k) ?_
      show Go p.tables e below (P7 Z p0 p1 o1 o2 o3 w ms W S M h0 n0 s) (T22.setTop (mkF m 52 #[.val (.ref p0), .val (.ref p1), .val (.ref b2), .val (.int i)] [(.ref b2)]))
      exact Go.retR X22 hx Bd.returns rfl (hb hby d7_52) Bd.notSynchronized ⟨trivial, N22, (by rw [e22]; exact F32), b2, sz9, rfl, (by rw [e22, hr]; exact F33)⟩ (by decide) (by decide)
    | succ n ih =>
      intro i G T22 L22 X22 N22 h22 e22 F23 F24 F25 F26 F27 F28 F29 F30 F31 F32 F33 hbd hr
      show Go p.tables e below (P7 Z p0 p1 o1 o2 o3 w ms W S M h0 n0 s) (T22.setTop (mkF m 9 #[.val (.ref p0), .val (.ref p1), .val (.ref b2), .val (.int i)] []))
      refine Go.back (fun t k => XS.iloadN X22.here hx rfl (hb hby d7_9) rfl  k) ?_
      show Go p.tables e below (P7 Z p0 p1 o1 o2 o3 w ms W S M h0 n0 s) (T22.setTop (mkF m 10 #[.val (.ref p0), .val (.ref p1), .val (.ref b2), .val (.int i)] [(.int i)]))
      refine Go.back (fun t k => XS.aloadN X22.here hx rfl (hb hby d7_10) rfl rfl  k) ?_
      show Go p.tables e below (P7 Z p0 p1 o1 o2 o3 w ms W S M h0 n0 s) (T22.setTop (mkF m 11 #[.val (.ref p0), .val (.ref p1), .val (.ref b2), .val (.int i)] [(.ref p1), (.int i)]))
      obtain ⟨cl35, Ar35, S35⟩ := F27.len
      refine Go.back (fun t k => X22.arraylength hx (by rw [e22]; exact Ar35.1) (State.isArrayOf_alike hZ.alike Ar35.2.1) (g := (mkF m 11 #[.val (.ref p0), .val (.ref p1), .val (.ref b2), .val (.int i)] [(.ref p1), (.int i)])) rfl rfl (hb hby d7_11) t k) ?_
      rw [S35]
      rw [List.length_map, hl]
      show Go p.tables e below (P7 Z p0 p1 o1 o2 o3 w ms W S M h0 n0 s) (T22.setTop (mkF m 12 #[.val (.ref p0), .val (.ref p1), .val (.ref b2), .val (.int i)] [(.int (5 : Int32)), (.int i)]))
      refine Go.back (fun t k => XS.icmpNo X22.here hx rfl (hb hby d7_12) rfl (tlt (own_jb_s hbd)).2.1 k) ?_
      show Go p.tables e below (P7 Z p0 p1 o1 o2 o3 w ms W S M h0 n0 s) (T22.setTop (mkF m 15 #[.val (.ref p0), .val (.ref p1), .val (.ref b2), .val (.int i)] []))
      refine Go.back (fun t k => XS.aloadN X22.here hx rfl (hb hby d7_15) rfl rfl  k) ?_
      show Go p.tables e below (P7 Z p0 p1 o1 o2 o3 w ms W S M h0 n0 s) (T22.setTop (mkF m 16 #[.val (.ref p0), .val (.ref p1), .val (.ref b2), .val (.int i)] [(.ref p1)]))
      refine Go.back (fun t k => XS.iloadN X22.here hx rfl (hb hby d7_16) rfl  k) ?_
      show Go p.tables e below (P7 Z p0 p1 o1 o2 o3 w ms W S M h0 n0 s) (T22.setTop (mkF m 17 #[.val (.ref p0), .val (.ref p1), .val (.ref b2), .val (.int i)] [(.int i), (.ref p1)]))
      obtain ⟨cl36, Ar36, hi36, ha36⟩ := F27.get (j := i) (own_jb_nn hbd) (v := (.int (List.getD ms (i).toNatClampNeg (0 : Int32)))) (getI ms (own_jb_in hbd hl))
      refine Go.back (fun t k => X22.baloadBooleans hx (j := i) (v := (.int (List.getD ms (i).toNatClampNeg (0 : Int32)))) (by rw [e22]; exact Ar36.1) (State.isArrayOf_alike hZ.alike Ar36.2.1) Ar36.2.2 hi36 ha36 (g := (mkF m 17 #[.val (.ref p0), .val (.ref p1), .val (.ref b2), .val (.int i)] [(.int i), (.ref p1)])) rfl rfl (hb hby d7_17) t k) ?_
      show Go p.tables e below (P7 Z p0 p1 o1 o2 o3 w ms W S M h0 n0 s) (T22.setTop (mkF m 18 #[.val (.ref p0), .val (.ref p1), .val (.ref b2), .val (.int i)] [(.int (List.getD ms (i).toNatClampNeg (0 : Int32)))]))
      have J38 : ∀ (T52 : State) (L52 : List Loc) (X52 : Stand p l e rmm7 s m #[(.ref p0), (.ref p1)] below meth c T52 L52 1 3) (N52 : Fr n0 L52) (h51 : Heap) (e52 : T52.heap = h51) (z49 : List Int64) (hz49 : z49 = (if (List.getD ms (i).toNatClampNeg (0 : Int32)) = (0 : Int32) then G else (List.set G ((List.getD W (i).toNatClampNeg (0 : Int32))).toNatClampNeg ((List.getD G ((List.getD W (i).toNatClampNeg (0 : Int32))).toNatClampNeg (0 : Int64)) ||| (((List.getD M (i).toNatClampNeg (0 : Int64)) <<< ((List.getD S (i).toNatClampNeg (0 : Int32)) &&& 0x3f).toInt64)))))) (F39 : Fld Z h51 p0 "com/example/onward/onward/explore/Packing" "words" "I" (.int w)) (F40 : Fld Z h51 p0 "com/example/onward/onward/explore/Packing" "word" "[I" (.ref o1)) (F41 : Fld Z h51 p0 "com/example/onward/onward/explore/Packing" "shift" "[I" (.ref o2)) (F42 : Fld Z h51 p0 "com/example/onward/onward/explore/Packing" "mask" "[J" (.ref o3)) (F43 : ArL Z h51 p1 .boolean (List.map Value.int ms)) (F44 : ArL Z h51 o1 .int (List.map Value.int W)) (F45 : ArL Z h51 o2 .int (List.map Value.int S)) (F46 : ArL Z h51 o3 .long (List.map Value.long M)) (F47 : n0 ≤ h51.size) (F48 : Keep h0 h51 []) (F50 : ArL Z h51 b2 .long (List.map Value.long z49)), Go p.tables e below (P7 Z p0 p1 o1 o2 o3 w ms W S M h0 n0 s) (T52.setTop (mkF m 45 #[.val (.ref p0), .val (.ref p1), .val (.ref b2), .val (.int i)] [])) := by
        intro T52 L52 X52 N52 h51 e52 z49 hz49 F39 F40 F41 F42 F43 F44 F45 F46 F47 F48 F50
        show Go p.tables e below (P7 Z p0 p1 o1 o2 o3 w ms W S M h0 n0 s) (T52.setTop (mkF m 45 #[.val (.ref p0), .val (.ref p1), .val (.ref b2), .val (.int i)] []))
        refine Go.back (fun t k => XS.iinc X52.here hx rfl (hb hby d7_45) rfl (l' := #[.val (.ref p0), .val (.ref p1), .val (.ref b2), .val (.int (i + (1 : Int32)))]) rfl k) ?_
        show Go p.tables e below (P7 Z p0 p1 o1 o2 o3 w ms W S M h0 n0 s) (T52.setTop (mkF m 48 #[.val (.ref p0), .val (.ref p1), .val (.ref b2), .val (.int (i + (1 : Int32)))] []))
        refine Go.back (fun t k => XS.goto X52.here hx rfl (pc0 := 48) (pc' := 9) rfl (hb hby d7_48) (by decide) (by decide) k) ?_
        show Go p.tables e below (P7 Z p0 p1 o1 o2 o3 w ms W S M h0 n0 s) (T52.setTop (mkF m 9 #[.val (.ref p0), .val (.ref p1), .val (.ref b2), .val (.int (i + (1 : Int32)))] []))
        exact ih (i + (1 : Int32)) z49 _ _ X52 N52 h51 e52 F39 F40 F41 F42 F43 F44 F45 F46 F47 F48 F50 (own_jb_next hbd (by simp [hz49, apply_ite List.length])) (by subst hz49; exact hr)
      have r53 : (if (List.getD ms (i).toNatClampNeg (0 : Int32)) = (0 : Int32) then G else (List.set G ((List.getD W (i).toNatClampNeg (0 : Int32))).toNatClampNeg ((List.getD G ((List.getD W (i).toNatClampNeg (0 : Int32))).toNatClampNeg (0 : Int64)) ||| (((List.getD M (i).toNatClampNeg (0 : Int64)) <<< ((List.getD S (i).toNatClampNeg (0 : Int32)) &&& 0x3f).toInt64))))) = (if (List.getD ms (i).toNatClampNeg (0 : Int32)) = (0 : Int32) then G else (List.set G ((List.getD W (i).toNatClampNeg (0 : Int32))).toNatClampNeg ((List.getD G ((List.getD W (i).toNatClampNeg (0 : Int32))).toNatClampNeg (0 : Int64)) ||| (((List.getD M (i).toNatClampNeg (0 : Int64)) <<< ((List.getD S (i).toNatClampNeg (0 : Int32)) &&& 0x3f).toInt64))))) := rfl
      by_cases hc37 : (List.getD ms (i).toNatClampNeg (0 : Int32)) = (0 : Int32)
      · have r54 := r53.trans (if_pos hc37)
        refine Go.back (fun t k => XS.ifYes X22.here hx rfl (pc0 := 18) (pc' := 45) rfl (hb hby d7_18) rfl ((if0 _ _).trans (teq hc37).1) (by decide) (by decide) k) ?_
        show Go p.tables e below (P7 Z p0 p1 o1 o2 o3 w ms W S M h0 n0 s) (T22.setTop (mkF m 45 #[.val (.ref p0), .val (.ref p1), .val (.ref b2), .val (.int i)] []))
        exact J38 _ _ X22 N22 h22 e22 G r54.symm F23 F24 F25 F26 F27 F28 F29 F30 F31 F32 F33
      · have r55 := r53.trans (if_neg hc37)
        refine Go.back (fun t k => XS.ifNo X22.here hx rfl (hb hby d7_18) rfl ((if0 _ _).trans (feq hc37).1) k) ?_
        show Go p.tables e below (P7 Z p0 p1 o1 o2 o3 w ms W S M h0 n0 s) (T22.setTop (mkF m 21 #[.val (.ref p0), .val (.ref p1), .val (.ref b2), .val (.int i)] []))
        refine Go.back (fun t k => XS.aloadN X22.here hx rfl (hb hby d7_21) rfl rfl  k) ?_
        show Go p.tables e below (P7 Z p0 p1 o1 o2 o3 w ms W S M h0 n0 s) (T22.setTop (mkF m 22 #[.val (.ref p0), .val (.ref p1), .val (.ref b2), .val (.int i)] [(.ref b2)]))
        refine Go.back (fun t k => XS.aloadN X22.here hx rfl (hb hby d7_22) rfl rfl  k) ?_
        show Go p.tables e below (P7 Z p0 p1 o1 o2 o3 w ms W S M h0 n0 s) (T22.setTop (mkF m 23 #[.val (.ref p0), .val (.ref p1), .val (.ref b2), .val (.int i)] [(.ref p0), (.ref b2)]))
        obtain ⟨T56, X56, e56, st56⟩ := getF X22 hx hZ hown (host := "") (Or.inl (hw _ (List.mem_of_getElem? (i := 21) rfl))) Via.refl e22 F24 (g := (mkF m 23 #[.val (.ref p0), .val (.ref p1), .val (.ref b2), .val (.int i)] [(.ref p0), (.ref b2)])) rfl rfl (hb hby d7_23)
        refine Go.back st56 ?_
        show Go p.tables e below (P7 Z p0 p1 o1 o2 o3 w ms W S M h0 n0 s) (T56.setTop (mkF m 26 #[.val (.ref p0), .val (.ref p1), .val (.ref b2), .val (.int i)] [(.ref o1), (.ref b2)]))
        refine Go.back (fun t k => XS.iloadN X56.here hx rfl (hb hby d7_26) rfl  k) ?_
        show Go p.tables e below (P7 Z p0 p1 o1 o2 o3 w ms W S M h0 n0 s) (T56.setTop (mkF m 27 #[.val (.ref p0), .val (.ref p1), .val (.ref b2), .val (.int i)] [(.int i), (.ref o1), (.ref b2)]))
        obtain ⟨cl57, Ar57, hi57, ha57⟩ := F28.get (j := i) (own_jb_nn hbd) (v := (.int (List.getD W (i).toNatClampNeg (0 : Int32)))) (getI W (own_jb_in hbd hW))
        refine Go.back (fun t k => X56.iaload hx (j := i) (v := (.int (List.getD W (i).toNatClampNeg (0 : Int32)))) (by rw [e56]; exact Ar57.1) (State.isArrayOf_alike hZ.alike Ar57.2.1) Ar57.2.2 hi57 ha57 (g := (mkF m 27 #[.val (.ref p0), .val (.ref p1), .val (.ref b2), .val (.int i)] [(.int i), (.ref o1), (.ref b2)])) rfl rfl (hb hby d7_27) t k) ?_
        show Go p.tables e below (P7 Z p0 p1 o1 o2 o3 w ms W S M h0 n0 s) (T56.setTop (mkF m 28 #[.val (.ref p0), .val (.ref p1), .val (.ref b2), .val (.int i)] [(.int (List.getD W (i).toNatClampNeg (0 : Int32))), (.ref b2)]))
        refine Go.back (fun t k => Jvm.Free.XT.dup2 X56.here hx rfl (hb hby d7_28) rfl rfl rfl k) ?_
        show Go p.tables e below (P7 Z p0 p1 o1 o2 o3 w ms W S M h0 n0 s) (T56.setTop (mkF m 29 #[.val (.ref p0), .val (.ref p1), .val (.ref b2), .val (.int i)] [(.int (List.getD W (i).toNatClampNeg (0 : Int32))), (.ref b2), (.int (List.getD W (i).toNatClampNeg (0 : Int32))), (.ref b2)]))
        obtain ⟨cl58, Ar58, hi58, ha58⟩ := F33.get (j := (List.getD W (i).toNatClampNeg (0 : Int32))) (own_jw hbd hW hwb).1 (v := (.long (List.getD G ((List.getD W (i).toNatClampNeg (0 : Int32))).toNatClampNeg (0 : Int64)))) (getJ G (own_jw2 hbd hW hwb))
        refine Go.back (fun t k => X56.laload hx (j := (List.getD W (i).toNatClampNeg (0 : Int32))) (v := (.long (List.getD G ((List.getD W (i).toNatClampNeg (0 : Int32))).toNatClampNeg (0 : Int64)))) (by rw [e56]; exact Ar58.1) (State.isArrayOf_alike hZ.alike Ar58.2.1) Ar58.2.2 hi58 ha58 (g := (mkF m 29 #[.val (.ref p0), .val (.ref p1), .val (.ref b2), .val (.int i)] [(.int (List.getD W (i).toNatClampNeg (0 : Int32))), (.ref b2), (.int (List.getD W (i).toNatClampNeg (0 : Int32))), (.ref b2)])) rfl rfl (hb hby d7_29) t k) ?_
        show Go p.tables e below (P7 Z p0 p1 o1 o2 o3 w ms W S M h0 n0 s) (T56.setTop (mkF m 30 #[.val (.ref p0), .val (.ref p1), .val (.ref b2), .val (.int i)] [(.long (List.getD G ((List.getD W (i).toNatClampNeg (0 : Int32))).toNatClampNeg (0 : Int64))), (.int (List.getD W (i).toNatClampNeg (0 : Int32))), (.ref b2)]))
        refine Go.back (fun t k => XS.aloadN X56.here hx rfl (hb hby d7_30) rfl rfl  k) ?_
        show Go p.tables e below (P7 Z p0 p1 o1 o2 o3 w ms W S M h0 n0 s) (T56.setTop (mkF m 31 #[.val (.ref p0), .val (.ref p1), .val (.ref b2), .val (.int i)] [(.ref p0), (.long (List.getD G ((List.getD W (i).toNatClampNeg (0 : Int32))).toNatClampNeg (0 : Int64))), (.int (List.getD W (i).toNatClampNeg (0 : Int32))), (.ref b2)]))
        obtain ⟨T59, X59, e59, st59⟩ := getF X56 hx hZ hown (host := "") (Or.inl (hw _ (List.mem_of_getElem? (i := 25) rfl))) Via.refl e56 F26 (g := (mkF m 31 #[.val (.ref p0), .val (.ref p1), .val (.ref b2), .val (.int i)] [(.ref p0), (.long (List.getD G ((List.getD W (i).toNatClampNeg (0 : Int32))).toNatClampNeg (0 : Int64))), (.int (List.getD W (i).toNatClampNeg (0 : Int32))), (.ref b2)])) rfl rfl (hb hby d7_31)
        refine Go.back st59 ?_
        show Go p.tables e below (P7 Z p0 p1 o1 o2 o3 w ms W S M h0 n0 s) (T59.setTop (mkF m 34 #[.val (.ref p0), .val (.ref p1), .val (.ref b2), .val (.int i)] [(.ref o3), (.long (List.getD G ((List.getD W (i).toNatClampNeg (0 : Int32))).toNatClampNeg (0 : Int64))), (.int (List.getD W (i).toNatClampNeg (0 : Int32))), (.ref b2)]))
        refine Go.back (fun t k => XS.iloadN X59.here hx rfl (hb hby d7_34) rfl  k) ?_
        show Go p.tables e below (P7 Z p0 p1 o1 o2 o3 w ms W S M h0 n0 s) (T59.setTop (mkF m 35 #[.val (.ref p0), .val (.ref p1), .val (.ref b2), .val (.int i)] [(.int i), (.ref o3), (.long (List.getD G ((List.getD W (i).toNatClampNeg (0 : Int32))).toNatClampNeg (0 : Int64))), (.int (List.getD W (i).toNatClampNeg (0 : Int32))), (.ref b2)]))
        obtain ⟨cl60, Ar60, hi60, ha60⟩ := F30.get (j := i) (own_jb_nn hbd) (v := (.long (List.getD M (i).toNatClampNeg (0 : Int64)))) (getJ M (own_jb_in hbd hM))
        refine Go.back (fun t k => X59.laload hx (j := i) (v := (.long (List.getD M (i).toNatClampNeg (0 : Int64)))) (by rw [e59]; exact Ar60.1) (State.isArrayOf_alike hZ.alike Ar60.2.1) Ar60.2.2 hi60 ha60 (g := (mkF m 35 #[.val (.ref p0), .val (.ref p1), .val (.ref b2), .val (.int i)] [(.int i), (.ref o3), (.long (List.getD G ((List.getD W (i).toNatClampNeg (0 : Int32))).toNatClampNeg (0 : Int64))), (.int (List.getD W (i).toNatClampNeg (0 : Int32))), (.ref b2)])) rfl rfl (hb hby d7_35) t k) ?_
        show Go p.tables e below (P7 Z p0 p1 o1 o2 o3 w ms W S M h0 n0 s) (T59.setTop (mkF m 36 #[.val (.ref p0), .val (.ref p1), .val (.ref b2), .val (.int i)] [(.long (List.getD M (i).toNatClampNeg (0 : Int64))), (.long (List.getD G ((List.getD W (i).toNatClampNeg (0 : Int32))).toNatClampNeg (0 : Int64))), (.int (List.getD W (i).toNatClampNeg (0 : Int32))), (.ref b2)]))
        refine Go.back (fun t k => XS.aloadN X59.here hx rfl (hb hby d7_36) rfl rfl  k) ?_
        show Go p.tables e below (P7 Z p0 p1 o1 o2 o3 w ms W S M h0 n0 s) (T59.setTop (mkF m 37 #[.val (.ref p0), .val (.ref p1), .val (.ref b2), .val (.int i)] [(.ref p0), (.long (List.getD M (i).toNatClampNeg (0 : Int64))), (.long (List.getD G ((List.getD W (i).toNatClampNeg (0 : Int32))).toNatClampNeg (0 : Int64))), (.int (List.getD W (i).toNatClampNeg (0 : Int32))), (.ref b2)]))
        obtain ⟨T61, X61, e61, st61⟩ := getF X59 hx hZ hown (host := "") (Or.inl (hw _ (List.mem_of_getElem? (i := 23) rfl))) Via.refl e59 F25 (g := (mkF m 37 #[.val (.ref p0), .val (.ref p1), .val (.ref b2), .val (.int i)] [(.ref p0), (.long (List.getD M (i).toNatClampNeg (0 : Int64))), (.long (List.getD G ((List.getD W (i).toNatClampNeg (0 : Int32))).toNatClampNeg (0 : Int64))), (.int (List.getD W (i).toNatClampNeg (0 : Int32))), (.ref b2)])) rfl rfl (hb hby d7_37)
        refine Go.back st61 ?_
        show Go p.tables e below (P7 Z p0 p1 o1 o2 o3 w ms W S M h0 n0 s) (T61.setTop (mkF m 40 #[.val (.ref p0), .val (.ref p1), .val (.ref b2), .val (.int i)] [(.ref o2), (.long (List.getD M (i).toNatClampNeg (0 : Int64))), (.long (List.getD G ((List.getD W (i).toNatClampNeg (0 : Int32))).toNatClampNeg (0 : Int64))), (.int (List.getD W (i).toNatClampNeg (0 : Int32))), (.ref b2)]))
        refine Go.back (fun t k => XS.iloadN X61.here hx rfl (hb hby d7_40) rfl  k) ?_
        show Go p.tables e below (P7 Z p0 p1 o1 o2 o3 w ms W S M h0 n0 s) (T61.setTop (mkF m 41 #[.val (.ref p0), .val (.ref p1), .val (.ref b2), .val (.int i)] [(.int i), (.ref o2), (.long (List.getD M (i).toNatClampNeg (0 : Int64))), (.long (List.getD G ((List.getD W (i).toNatClampNeg (0 : Int32))).toNatClampNeg (0 : Int64))), (.int (List.getD W (i).toNatClampNeg (0 : Int32))), (.ref b2)]))
        obtain ⟨cl62, Ar62, hi62, ha62⟩ := F29.get (j := i) (own_jb_nn hbd) (v := (.int (List.getD S (i).toNatClampNeg (0 : Int32)))) (getI S (own_jb_in hbd hS))
        refine Go.back (fun t k => X61.iaload hx (j := i) (v := (.int (List.getD S (i).toNatClampNeg (0 : Int32)))) (by rw [e61]; exact Ar62.1) (State.isArrayOf_alike hZ.alike Ar62.2.1) Ar62.2.2 hi62 ha62 (g := (mkF m 41 #[.val (.ref p0), .val (.ref p1), .val (.ref b2), .val (.int i)] [(.int i), (.ref o2), (.long (List.getD M (i).toNatClampNeg (0 : Int64))), (.long (List.getD G ((List.getD W (i).toNatClampNeg (0 : Int32))).toNatClampNeg (0 : Int64))), (.int (List.getD W (i).toNatClampNeg (0 : Int32))), (.ref b2)])) rfl rfl (hb hby d7_41) t k) ?_
        show Go p.tables e below (P7 Z p0 p1 o1 o2 o3 w ms W S M h0 n0 s) (T61.setTop (mkF m 42 #[.val (.ref p0), .val (.ref p1), .val (.ref b2), .val (.int i)] [(.int (List.getD S (i).toNatClampNeg (0 : Int32))), (.long (List.getD M (i).toNatClampNeg (0 : Int64))), (.long (List.getD G ((List.getD W (i).toNatClampNeg (0 : Int32))).toNatClampNeg (0 : Int64))), (.int (List.getD W (i).toNatClampNeg (0 : Int32))), (.ref b2)]))
        refine Go.back (fun t k => XS.lshl X61.here hx rfl (hb hby d7_42) rfl k) ?_
        show Go p.tables e below (P7 Z p0 p1 o1 o2 o3 w ms W S M h0 n0 s) (T61.setTop (mkF m 43 #[.val (.ref p0), .val (.ref p1), .val (.ref b2), .val (.int i)] [(.long (((List.getD M (i).toNatClampNeg (0 : Int64)) <<< ((List.getD S (i).toNatClampNeg (0 : Int32)) &&& 0x3f).toInt64))), (.long (List.getD G ((List.getD W (i).toNatClampNeg (0 : Int32))).toNatClampNeg (0 : Int64))), (.int (List.getD W (i).toNatClampNeg (0 : Int32))), (.ref b2)]))
        refine Go.back (fun t k => XS.lor X61.here hx rfl (hb hby d7_43) rfl k) ?_
        show Go p.tables e below (P7 Z p0 p1 o1 o2 o3 w ms W S M h0 n0 s) (T61.setTop (mkF m 44 #[.val (.ref p0), .val (.ref p1), .val (.ref b2), .val (.int i)] [(.long ((List.getD G ((List.getD W (i).toNatClampNeg (0 : Int32))).toNatClampNeg (0 : Int64)) ||| (((List.getD M (i).toNatClampNeg (0 : Int64)) <<< ((List.getD S (i).toNatClampNeg (0 : Int32)) &&& 0x3f).toInt64)))), (.int (List.getD W (i).toNatClampNeg (0 : Int32))), (.ref b2)]))
        obtain ⟨cl63, Ar63, hi63, -⟩ := F33.at (j := (List.getD W (i).toNatClampNeg (0 : Int32))) (own_jw hbd hW hwb).1 (by simpa using (own_jw2 hbd hW hwb))
        obtain ⟨T63, h63, X63, e63, W63, st63⟩ := stJ X61 hx hZ e61 Ar63 (j := (List.getD W (i).toNatClampNeg (0 : Int32))) hi63 (g := (mkF m 44 #[.val (.ref p0), .val (.ref p1), .val (.ref b2), .val (.int i)] [(.long ((List.getD G ((List.getD W (i).toNatClampNeg (0 : Int32))).toNatClampNeg (0 : Int64)) ||| (((List.getD M (i).toNatClampNeg (0 : Int64)) <<< ((List.getD S (i).toNatClampNeg (0 : Int32)) &&& 0x3f).toInt64)))), (.int (List.getD W (i).toNatClampNeg (0 : Int32))), (.ref b2)])) rfl rfl (hb hby d7_44)
        have F64 : Fld Z h63 p0 "com/example/onward/onward/explore/Packing" "words" "I" (.int w) := F23.other W63 (Or.inl ne3)
        have F65 : Fld Z h63 p0 "com/example/onward/onward/explore/Packing" "word" "[I" (.ref o1) := F24.other W63 (Or.inl ne3)
        have F66 : Fld Z h63 p0 "com/example/onward/onward/explore/Packing" "shift" "[I" (.ref o2) := F25.other W63 (Or.inl ne3)
        have F67 : Fld Z h63 p0 "com/example/onward/onward/explore/Packing" "mask" "[J" (.ref o3) := F26.other W63 (Or.inl ne3)
        have F68 : ArL Z h63 p1 .boolean (List.map Value.int ms) := F27.other W63 ne4
        have F69 : ArL Z h63 o1 .int (List.map Value.int W) := F28.other W63 ne5
        have F70 : ArL Z h63 o2 .int (List.map Value.int S) := F29.other W63 ne6
        have F71 : ArL Z h63 o3 .long (List.map Value.long M) := F30.other W63 ne7
        have F72 : n0 ≤ h63.size := Nat.le_trans F31 (Keep.of_wr W63).1
        have F73 : Keep h0 h63 [] := F32.wr W63 (Or.inr sz9)
        have F74 : ArL Z h63 b2 .long (List.map Value.long (List.set G ((List.getD W (i).toNatClampNeg (0 : Int32))).toNatClampNeg ((List.getD G ((List.getD W (i).toNatClampNeg (0 : Int32))).toNatClampNeg (0 : Int64)) ||| (((List.getD M (i).toNatClampNeg (0 : Int64)) <<< ((List.getD S (i).toNatClampNeg (0 : Int32)) &&& 0x3f).toInt64))))) := ArL.setJ (xs := G) F33 W63
        obtain ⟨Lo63, Y63, N63⟩ := pk X63 (Fr.snoc X63 N22 g8)
        refine Go.back st63 ?_
        show Go p.tables e below (P7 Z p0 p1 o1 o2 o3 w ms W S M h0 n0 s) (T63.setTop (mkF m 45 #[.val (.ref p0), .val (.ref p1), .val (.ref b2), .val (.int i)] []))
        exact J38 _ _ Y63 N63 h63 e63 (List.set G ((List.getD W (i).toNatClampNeg (0 : Int32))).toNatClampNeg ((List.getD G ((List.getD W (i).toNatClampNeg (0 : Int32))).toNatClampNeg (0 : Int64)) ||| (((List.getD M (i).toNatClampNeg (0 : Int64)) <<< ((List.getD S (i).toNatClampNeg (0 : Int32)) &&& 0x3f).toInt64)))) r55.symm F64 F65 F66 F67 F68 F69 F70 F71 F72 F73 F74
  exact LOOP21 5 (0 : Int32) (List.replicate (w).toNatClampNeg (0 : Int64)) _ _ X2 N0 h2 e2 F10 F11 F12 F13 F14 F15 F16 F17 F18 F19 F20 (own_jb0 hw3) rfl
theorem own_inv_next {j : Nat} {u w b : Int32} {m : Bool} {es : List Int64} (h : own_inv j u w) (hb : 0 ≤ b.toInt ∧ b.toInt ≤ 31) (hj : j ≤ 4 := by decide) : own_inv (j + 1) (g2_2 b m u w es) (g2_3 b m u w es) := own_inv_step h hb hj
theorem own_g2_len (b : Int32) (m : Bool) (u w : Int32) (es : List Int64) : (g2_1 b m u w es).length = es.length := by
  unfold g2_1; dsimp only; split
  · split
    · simp
    · rfl
  · rfl
def f0 (p0 : Int64) (p1 : Int32) (p2 : Int32) (p3 : Int32) (p4 : Int32) (p5 : Int32) : Bool := (let z2 : Int32 := (((p0 &&& (31 : Int64))).toInt32); (let z5 : Int32 := ((((((p0).toUInt64 >>> ((5 : Int32) &&& 0x3f).toInt64.toUInt64).toInt64) &&& (31 : Int64))).toInt32); (let z8 : Int32 := ((((((p0).toUInt64 >>> ((10 : Int32) &&& 0x3f).toInt64.toUInt64).toInt64) &&& (31 : Int64))).toInt32); (let z11 : Int32 := ((((((p0).toUInt64 >>> ((15 : Int32) &&& 0x3f).toInt64.toUInt64).toInt64) &&& (31 : Int64))).toInt32); (let z14 : Int32 := ((((((p0).toUInt64 >>> ((20 : Int32) &&& 0x3f).toInt64.toUInt64).toInt64) &&& (31 : Int64))).toInt32); (let z17 : Int32 := (((((p0).toUInt64 >>> ((25 : Int32) &&& 0x3f).toInt64.toUInt64).toInt64)).toInt32); (let z21 : Bool := (if (z17 &&& (1 : Int32)) = (0 : Int32) then false else true); (let z25 : Bool := (if (z17 &&& (2 : Int32)) = (0 : Int32) then false else true); (let z29 : Bool := (if (z17 &&& (4 : Int32)) = (0 : Int32) then false else true); (let z33 : Bool := (if (z17 &&& (8 : Int32)) = (0 : Int32) then false else true); (let z37 : Bool := (if (z17 &&& (16 : Int32)) = (0 : Int32) then false else true); (let z64 : List Int32 := [(f1 z2 p1), (f1 z5 p2), (f1 z8 p3), (f1 z11 p4), (f1 z14 p5)]; (let z94 : List Int32 := [(b2i z21), (b2i z25), (b2i z29), (b2i z33), (b2i z37)]; (let z135 : List Int64 := (g2_1 z2 z21 (0 : Int32) (1 : Int32) [(0 : Int64), (0 : Int64), (0 : Int64)]); let z137 : Int32 := (g2_2 z2 z21 (0 : Int32) (1 : Int32) [(0 : Int64), (0 : Int64), (0 : Int64)]); let z138 : Int32 := (g2_3 z2 z21 (0 : Int32) (1 : Int32) [(0 : Int64), (0 : Int64), (0 : Int64)]); (let z148 : List Int64 := (g2_1 z5 z25 z137 z138 z135); let z150 : Int32 := (g2_2 z5 z25 z137 z138 z135); let z151 : Int32 := (g2_3 z5 z25 z137 z138 z135); (let z161 : List Int64 := (g2_1 z8 z29 z150 z151 z148); let z163 : Int32 := (g2_2 z8 z29 z150 z151 z148); let z164 : Int32 := (g2_3 z8 z29 z150 z151 z148); (let z174 : List Int64 := (g2_1 z11 z33 z163 z164 z161); let z176 : Int32 := (g2_2 z11 z33 z163 z164 z161); let z177 : Int32 := (g2_3 z11 z33 z163 z164 z161); (let z187 : List Int64 := (g2_1 z14 z37 z176 z177 z174); let z189 : Int32 := (g2_2 z14 z37 z176 z177 z174); let z190 : Int32 := (g2_3 z14 z37 z176 z177 z174); (let z277 : List Int64 := (own_bitsr z94 (own_pkr z64).2.1 (own_pkr z64).2.2.1 (own_pkr z64).2.2.2 (own_pkr z64).1); (if (List.length z277).toInt32 = z190 then (let z287 : Bool := (if (f8 (0 : Int32) z277 z187 ((List.length z277).toInt32)) = true then (if (f8 (1 : Int32) z277 z187 ((List.length z277).toInt32)) = true then (if (f8 (2 : Int32) z277 z187 ((List.length z277).toInt32)) = true then true else false) else false) else false); z287) else false))))))))))))))))))))
def Q0 (Z : State) (p0 : Int64) (p1 : Int32) (p2 : Int32) (p3 : Int32) (p4 : Int32) (p5 : Int32) (h0 : Heap) (n0 : Nat) (v : Option Value) (h : Heap) (L : List Loc) : Prop := v = some (.int (b2i (f0 p0 p1 p2 p3 p4 p5))) ∧ Fr n0 L
abbrev P0 (Z : State) (p0 : Int64) (p1 : Int32) (p2 : Int32) (p3 : Int32) (p4 : Int32) (p5 : Int32) (h0 : Heap) (n0 : Nat) (s : State) : Outcome → State → Prop := fun o U' => ∃ v L, o = .returned v ∧ Q0 Z p0 p1 p2 p3 p4 p5 h0 n0 v U'.heap L ∧ FrameEnd s o U' L room_1.cells room_1.slots
theorem pn_0 : plainName "com/example/onward/onward/explore/PackingBitsOfPinLaw" = true := by first | (simp [plainName, overriddenIn]; done) | decide +kernel
theorem ef_0 (m : MethodId) (p0 : Int64) (p1 : Int32) (p2 : Int32) (p3 : Int32) (p4 : Int32) (p5 : Int32) : entryFrame m #[(.long p0), (.int p1), (.int p2), (.int p3), (.int p4), (.int p5)] maxLocals = mkF m 0 #[.val (.long p0), .second, .val (.int p1), .val (.int p2), .val (.int p3), .val (.int p4), .val (.int p5), .unset, .unset, .unset, .unset, .unset, .unset, .unset, .unset, .unset, .unset, .unset, .unset, .unset, .unset, .unset, .unset] [] := by first | (simp [entryFrame, mkF, argsToLocals, Value.category, maxLocals]; done) | rfl
set_option maxRecDepth 65536 in
set_option maxHeartbeats 40000000 in
theorem rm0 (l : Launch) (Z : State) (a0 : Array Value) (hw : ∀ d ∈ tables_1, d.before a0 Z = true) (ws : List Jvm.Cond) (p0 : Int64) (p1 : Int32) (p2 : Int32) (p3 : Int32) (p4 : Int32) (p5 : Int32) (h0 : Heap) (n0 : Nat) (Z0 : n0 ≤ h0.size) :
    MetFree l x (head1 (Jvm.Cond.code x code maxLocals ret :: ws) room_1) (fun a U => a = #[(.long p0), (.int p1), (.int p2), (.int p3), (.int p4), (.int p5)] ∧ Z.Warmed39 U.vm ∧ U.heap = h0) (fun _ _ _ _ _ => True) (fun _ U o U' => ∃ v L, o = .returned v ∧ Q0 Z p0 p1 p2 p3 p4 p5 h0 n0 v U'.heap L ∧ FrameEnd U o U' L room_1.cells room_1.slots) := by
  refine MetFree.of_bodySF (plainFor_of_name pn_0) hisR ?_
  intro p e s m args below meth c s₁ Bd hml0 hP hK
  obtain ⟨rfl, hZ, hh⟩ := hP
  have hx := Bd.exec
  have hby := Bd.bytes
  have hml : c.maxLocals = 23 := hml0
  have hown : s.vm.findClass "com/example/onward/onward/explore/PackingBitsOfPinLaw" = some m.cls := findClass_of_methodNamed Bd.named
  have hnm := (name_of_methodNamed Bd.named Bd.method).1
  have X0 : Stand p l e room_1 s m #[(.long p0), (.int p1), (.int p2), (.int p3), (.int p4), (.int p5)] below meth c s₁ [] 0 0 := Stand.of_body Bd
  have e0 : s₁.heap = h0 := by rw [← hh, Bd.state]; rfl
  have N0 := Fr.nil n0
  show Go p.tables e below (P0 Z p0 p1 p2 p3 p4 p5 h0 n0 s) (s₁.setTop (entryFrame m #[(.long p0), (.int p1), (.int p2), (.int p3), (.int p4), (.int p5)] maxLocals))
  refine Go.back (fun t k => castTop (ef_0 m p0 p1 p2 p3 p4 p5) k) ?_
  show Go p.tables e below (P0 Z p0 p1 p2 p3 p4 p5 h0 n0 s) (s₁.setTop (mkF m 0 #[.val (.long p0), .second, .val (.int p1), .val (.int p2), .val (.int p3), .val (.int p4), .val (.int p5), .unset, .unset, .unset, .unset, .unset, .unset, .unset, .unset, .unset, .unset, .unset, .unset, .unset, .unset, .unset, .unset] []))
  have hf0 : f0 p0 p1 p2 p3 p4 p5 = (let z2 : Int32 := (((p0 &&& (31 : Int64))).toInt32); (let z5 : Int32 := ((((((p0).toUInt64 >>> ((5 : Int32) &&& 0x3f).toInt64.toUInt64).toInt64) &&& (31 : Int64))).toInt32); (let z8 : Int32 := ((((((p0).toUInt64 >>> ((10 : Int32) &&& 0x3f).toInt64.toUInt64).toInt64) &&& (31 : Int64))).toInt32); (let z11 : Int32 := ((((((p0).toUInt64 >>> ((15 : Int32) &&& 0x3f).toInt64.toUInt64).toInt64) &&& (31 : Int64))).toInt32); (let z14 : Int32 := ((((((p0).toUInt64 >>> ((20 : Int32) &&& 0x3f).toInt64.toUInt64).toInt64) &&& (31 : Int64))).toInt32); (let z17 : Int32 := (((((p0).toUInt64 >>> ((25 : Int32) &&& 0x3f).toInt64.toUInt64).toInt64)).toInt32); (let z21 : Bool := (if (z17 &&& (1 : Int32)) = (0 : Int32) then false else true); (let z25 : Bool := (if (z17 &&& (2 : Int32)) = (0 : Int32) then false else true); (let z29 : Bool := (if (z17 &&& (4 : Int32)) = (0 : Int32) then false else true); (let z33 : Bool := (if (z17 &&& (8 : Int32)) = (0 : Int32) then false else true); (let z37 : Bool := (if (z17 &&& (16 : Int32)) = (0 : Int32) then false else true); (let z64 : List Int32 := [(f1 z2 p1), (f1 z5 p2), (f1 z8 p3), (f1 z11 p4), (f1 z14 p5)]; (let z94 : List Int32 := [(b2i z21), (b2i z25), (b2i z29), (b2i z33), (b2i z37)]; (let z135 : List Int64 := (g2_1 z2 z21 (0 : Int32) (1 : Int32) [(0 : Int64), (0 : Int64), (0 : Int64)]); let z137 : Int32 := (g2_2 z2 z21 (0 : Int32) (1 : Int32) [(0 : Int64), (0 : Int64), (0 : Int64)]); let z138 : Int32 := (g2_3 z2 z21 (0 : Int32) (1 : Int32) [(0 : Int64), (0 : Int64), (0 : Int64)]); (let z148 : List Int64 := (g2_1 z5 z25 z137 z138 z135); let z150 : Int32 := (g2_2 z5 z25 z137 z138 z135); let z151 : Int32 := (g2_3 z5 z25 z137 z138 z135); (let z161 : List Int64 := (g2_1 z8 z29 z150 z151 z148); let z163 : Int32 := (g2_2 z8 z29 z150 z151 z148); let z164 : Int32 := (g2_3 z8 z29 z150 z151 z148); (let z174 : List Int64 := (g2_1 z11 z33 z163 z164 z161); let z176 : Int32 := (g2_2 z11 z33 z163 z164 z161); let z177 : Int32 := (g2_3 z11 z33 z163 z164 z161); (let z187 : List Int64 := (g2_1 z14 z37 z176 z177 z174); let z189 : Int32 := (g2_2 z14 z37 z176 z177 z174); let z190 : Int32 := (g2_3 z14 z37 z176 z177 z174); (let z277 : List Int64 := (own_bitsr z94 (own_pkr z64).2.1 (own_pkr z64).2.2.1 (own_pkr z64).2.2.2 (own_pkr z64).1); (if (List.length z277).toInt32 = z190 then (let z287 : Bool := (if (f8 (0 : Int32) z277 z187 ((List.length z277).toInt32)) = true then (if (f8 (1 : Int32) z277 z187 ((List.length z277).toInt32)) = true then (if (f8 (2 : Int32) z277 z187 ((List.length z277).toInt32)) = true then true else false) else false) else false); z287) else false)))))))))))))))))))) := rfl
  refine Go.back (fun t k => XS.lloadN X0.here hx rfl (hb hby at_0) rfl  k) ?_
  show Go p.tables e below (P0 Z p0 p1 p2 p3 p4 p5 h0 n0 s) (s₁.setTop (mkF m 1 #[.val (.long p0), .second, .val (.int p1), .val (.int p2), .val (.int p3), .val (.int p4), .val (.int p5), .unset, .unset, .unset, .unset, .unset, .unset, .unset, .unset, .unset, .unset, .unset, .unset, .unset, .unset, .unset, .unset] [(.long p0)]))
  refine Go.back (fun t k => X0.ldc2Long hx hown (mvT hZ (hw _ (List.mem_of_getElem? (i := 0) rfl))) (g := (mkF m 1 #[.val (.long p0), .second, .val (.int p1), .val (.int p2), .val (.int p3), .val (.int p4), .val (.int p5), .unset, .unset, .unset, .unset, .unset, .unset, .unset, .unset, .unset, .unset, .unset, .unset, .unset, .unset, .unset, .unset] [(.long p0)])) rfl (hb hby at_1) t k) ?_
  show Go p.tables e below (P0 Z p0 p1 p2 p3 p4 p5 h0 n0 s) (s₁.setTop (mkF m 4 #[.val (.long p0), .second, .val (.int p1), .val (.int p2), .val (.int p3), .val (.int p4), .val (.int p5), .unset, .unset, .unset, .unset, .unset, .unset, .unset, .unset, .unset, .unset, .unset, .unset, .unset, .unset, .unset, .unset] [(.long (31 : Int64)), (.long p0)]))
  refine Go.back (fun t k => XS.land X0.here hx rfl (hb hby at_4) rfl k) ?_
  show Go p.tables e below (P0 Z p0 p1 p2 p3 p4 p5 h0 n0 s) (s₁.setTop (mkF m 5 #[.val (.long p0), .second, .val (.int p1), .val (.int p2), .val (.int p3), .val (.int p4), .val (.int p5), .unset, .unset, .unset, .unset, .unset, .unset, .unset, .unset, .unset, .unset, .unset, .unset, .unset, .unset, .unset, .unset] [(.long (p0 &&& (31 : Int64)))]))
  refine Go.back (fun t k => XS.l2i X0.here hx rfl (hb hby at_5) rfl k) ?_
  show Go p.tables e below (P0 Z p0 p1 p2 p3 p4 p5 h0 n0 s) (s₁.setTop (mkF m 6 #[.val (.long p0), .second, .val (.int p1), .val (.int p2), .val (.int p3), .val (.int p4), .val (.int p5), .unset, .unset, .unset, .unset, .unset, .unset, .unset, .unset, .unset, .unset, .unset, .unset, .unset, .unset, .unset, .unset] [(.int (((p0 &&& (31 : Int64))).toInt32))]))
  refine Go.back (fun t k => XS.istore X0.here hx rfl (hb hby at_6) rfl (l' := #[.val (.long p0), .second, .val (.int p1), .val (.int p2), .val (.int p3), .val (.int p4), .val (.int p5), .val (.int (((p0 &&& (31 : Int64))).toInt32)), .unset, .unset, .unset, .unset, .unset, .unset, .unset, .unset, .unset, .unset, .unset, .unset, .unset, .unset, .unset]) rfl k) ?_
  show Go p.tables e below (P0 Z p0 p1 p2 p3 p4 p5 h0 n0 s) (s₁.setTop (mkF m 8 #[.val (.long p0), .second, .val (.int p1), .val (.int p2), .val (.int p3), .val (.int p4), .val (.int p5), .val (.int (((p0 &&& (31 : Int64))).toInt32)), .unset, .unset, .unset, .unset, .unset, .unset, .unset, .unset, .unset, .unset, .unset, .unset, .unset, .unset, .unset] []))
  have J1 : ∀ (z2 : Int32) (hz2 : z2 = (((p0 &&& (31 : Int64))).toInt32)), Go p.tables e below (P0 Z p0 p1 p2 p3 p4 p5 h0 n0 s) (s₁.setTop (mkF m 8 #[.val (.long p0), .second, .val (.int p1), .val (.int p2), .val (.int p3), .val (.int p4), .val (.int p5), .val (.int z2), .unset, .unset, .unset, .unset, .unset, .unset, .unset, .unset, .unset, .unset, .unset, .unset, .unset, .unset, .unset] [])) := by
    intro z2 hz2
    have r3 : f0 p0 p1 p2 p3 p4 p5 = (let z5 : Int32 := ((((((p0).toUInt64 >>> ((5 : Int32) &&& 0x3f).toInt64.toUInt64).toInt64) &&& (31 : Int64))).toInt32); (let z8 : Int32 := ((((((p0).toUInt64 >>> ((10 : Int32) &&& 0x3f).toInt64.toUInt64).toInt64) &&& (31 : Int64))).toInt32); (let z11 : Int32 := ((((((p0).toUInt64 >>> ((15 : Int32) &&& 0x3f).toInt64.toUInt64).toInt64) &&& (31 : Int64))).toInt32); (let z14 : Int32 := ((((((p0).toUInt64 >>> ((20 : Int32) &&& 0x3f).toInt64.toUInt64).toInt64) &&& (31 : Int64))).toInt32); (let z17 : Int32 := (((((p0).toUInt64 >>> ((25 : Int32) &&& 0x3f).toInt64.toUInt64).toInt64)).toInt32); (let z21 : Bool := (if (z17 &&& (1 : Int32)) = (0 : Int32) then false else true); (let z25 : Bool := (if (z17 &&& (2 : Int32)) = (0 : Int32) then false else true); (let z29 : Bool := (if (z17 &&& (4 : Int32)) = (0 : Int32) then false else true); (let z33 : Bool := (if (z17 &&& (8 : Int32)) = (0 : Int32) then false else true); (let z37 : Bool := (if (z17 &&& (16 : Int32)) = (0 : Int32) then false else true); (let z64 : List Int32 := [(f1 z2 p1), (f1 z5 p2), (f1 z8 p3), (f1 z11 p4), (f1 z14 p5)]; (let z94 : List Int32 := [(b2i z21), (b2i z25), (b2i z29), (b2i z33), (b2i z37)]; (let z135 : List Int64 := (g2_1 z2 z21 (0 : Int32) (1 : Int32) [(0 : Int64), (0 : Int64), (0 : Int64)]); let z137 : Int32 := (g2_2 z2 z21 (0 : Int32) (1 : Int32) [(0 : Int64), (0 : Int64), (0 : Int64)]); let z138 : Int32 := (g2_3 z2 z21 (0 : Int32) (1 : Int32) [(0 : Int64), (0 : Int64), (0 : Int64)]); (let z148 : List Int64 := (g2_1 z5 z25 z137 z138 z135); let z150 : Int32 := (g2_2 z5 z25 z137 z138 z135); let z151 : Int32 := (g2_3 z5 z25 z137 z138 z135); (let z161 : List Int64 := (g2_1 z8 z29 z150 z151 z148); let z163 : Int32 := (g2_2 z8 z29 z150 z151 z148); let z164 : Int32 := (g2_3 z8 z29 z150 z151 z148); (let z174 : List Int64 := (g2_1 z11 z33 z163 z164 z161); let z176 : Int32 := (g2_2 z11 z33 z163 z164 z161); let z177 : Int32 := (g2_3 z11 z33 z163 z164 z161); (let z187 : List Int64 := (g2_1 z14 z37 z176 z177 z174); let z189 : Int32 := (g2_2 z14 z37 z176 z177 z174); let z190 : Int32 := (g2_3 z14 z37 z176 z177 z174); (let z277 : List Int64 := (own_bitsr z94 (own_pkr z64).2.1 (own_pkr z64).2.2.1 (own_pkr z64).2.2.2 (own_pkr z64).1); (if (List.length z277).toInt32 = z190 then (let z287 : Bool := (if (f8 (0 : Int32) z277 z187 ((List.length z277).toInt32)) = true then (if (f8 (1 : Int32) z277 z187 ((List.length z277).toInt32)) = true then (if (f8 (2 : Int32) z277 z187 ((List.length z277).toInt32)) = true then true else false) else false) else false); z287) else false))))))))))))))))))) := by subst hz2; exact hf0
    show Go p.tables e below (P0 Z p0 p1 p2 p3 p4 p5 h0 n0 s) (s₁.setTop (mkF m 8 #[.val (.long p0), .second, .val (.int p1), .val (.int p2), .val (.int p3), .val (.int p4), .val (.int p5), .val (.int z2), .unset, .unset, .unset, .unset, .unset, .unset, .unset, .unset, .unset, .unset, .unset, .unset, .unset, .unset, .unset] []))
    refine Go.back (fun t k => XS.lloadN X0.here hx rfl (hb hby at_8) rfl  k) ?_
    show Go p.tables e below (P0 Z p0 p1 p2 p3 p4 p5 h0 n0 s) (s₁.setTop (mkF m 9 #[.val (.long p0), .second, .val (.int p1), .val (.int p2), .val (.int p3), .val (.int p4), .val (.int p5), .val (.int z2), .unset, .unset, .unset, .unset, .unset, .unset, .unset, .unset, .unset, .unset, .unset, .unset, .unset, .unset, .unset] [(.long p0)]))
    refine Go.back (fun t k => XS.iconst X0.here hx rfl (hb hby at_9) k) ?_
    show Go p.tables e below (P0 Z p0 p1 p2 p3 p4 p5 h0 n0 s) (s₁.setTop (mkF m 10 #[.val (.long p0), .second, .val (.int p1), .val (.int p2), .val (.int p3), .val (.int p4), .val (.int p5), .val (.int z2), .unset, .unset, .unset, .unset, .unset, .unset, .unset, .unset, .unset, .unset, .unset, .unset, .unset, .unset, .unset] [(.int (5 : Int32)), (.long p0)]))
    refine Go.back (fun t k => XS.lushr X0.here hx rfl (hb hby at_10) rfl k) ?_
    show Go p.tables e below (P0 Z p0 p1 p2 p3 p4 p5 h0 n0 s) (s₁.setTop (mkF m 11 #[.val (.long p0), .second, .val (.int p1), .val (.int p2), .val (.int p3), .val (.int p4), .val (.int p5), .val (.int z2), .unset, .unset, .unset, .unset, .unset, .unset, .unset, .unset, .unset, .unset, .unset, .unset, .unset, .unset, .unset] [(.long (((p0).toUInt64 >>> ((5 : Int32) &&& 0x3f).toInt64.toUInt64).toInt64))]))
    refine Go.back (fun t k => X0.ldc2Long hx hown (mvT hZ (hw _ (List.mem_of_getElem? (i := 0) rfl))) (g := (mkF m 11 #[.val (.long p0), .second, .val (.int p1), .val (.int p2), .val (.int p3), .val (.int p4), .val (.int p5), .val (.int z2), .unset, .unset, .unset, .unset, .unset, .unset, .unset, .unset, .unset, .unset, .unset, .unset, .unset, .unset, .unset] [(.long (((p0).toUInt64 >>> ((5 : Int32) &&& 0x3f).toInt64.toUInt64).toInt64))])) rfl (hb hby at_11) t k) ?_
    show Go p.tables e below (P0 Z p0 p1 p2 p3 p4 p5 h0 n0 s) (s₁.setTop (mkF m 14 #[.val (.long p0), .second, .val (.int p1), .val (.int p2), .val (.int p3), .val (.int p4), .val (.int p5), .val (.int z2), .unset, .unset, .unset, .unset, .unset, .unset, .unset, .unset, .unset, .unset, .unset, .unset, .unset, .unset, .unset] [(.long (31 : Int64)), (.long (((p0).toUInt64 >>> ((5 : Int32) &&& 0x3f).toInt64.toUInt64).toInt64))]))
    refine Go.back (fun t k => XS.land X0.here hx rfl (hb hby at_14) rfl k) ?_
    show Go p.tables e below (P0 Z p0 p1 p2 p3 p4 p5 h0 n0 s) (s₁.setTop (mkF m 15 #[.val (.long p0), .second, .val (.int p1), .val (.int p2), .val (.int p3), .val (.int p4), .val (.int p5), .val (.int z2), .unset, .unset, .unset, .unset, .unset, .unset, .unset, .unset, .unset, .unset, .unset, .unset, .unset, .unset, .unset] [(.long ((((p0).toUInt64 >>> ((5 : Int32) &&& 0x3f).toInt64.toUInt64).toInt64) &&& (31 : Int64)))]))
    refine Go.back (fun t k => XS.l2i X0.here hx rfl (hb hby at_15) rfl k) ?_
    show Go p.tables e below (P0 Z p0 p1 p2 p3 p4 p5 h0 n0 s) (s₁.setTop (mkF m 16 #[.val (.long p0), .second, .val (.int p1), .val (.int p2), .val (.int p3), .val (.int p4), .val (.int p5), .val (.int z2), .unset, .unset, .unset, .unset, .unset, .unset, .unset, .unset, .unset, .unset, .unset, .unset, .unset, .unset, .unset] [(.int ((((((p0).toUInt64 >>> ((5 : Int32) &&& 0x3f).toInt64.toUInt64).toInt64) &&& (31 : Int64))).toInt32))]))
    refine Go.back (fun t k => XS.istore X0.here hx rfl (hb hby at_16) rfl (l' := #[.val (.long p0), .second, .val (.int p1), .val (.int p2), .val (.int p3), .val (.int p4), .val (.int p5), .val (.int z2), .val (.int ((((((p0).toUInt64 >>> ((5 : Int32) &&& 0x3f).toInt64.toUInt64).toInt64) &&& (31 : Int64))).toInt32)), .unset, .unset, .unset, .unset, .unset, .unset, .unset, .unset, .unset, .unset, .unset, .unset, .unset, .unset]) rfl k) ?_
    show Go p.tables e below (P0 Z p0 p1 p2 p3 p4 p5 h0 n0 s) (s₁.setTop (mkF m 18 #[.val (.long p0), .second, .val (.int p1), .val (.int p2), .val (.int p3), .val (.int p4), .val (.int p5), .val (.int z2), .val (.int ((((((p0).toUInt64 >>> ((5 : Int32) &&& 0x3f).toInt64.toUInt64).toInt64) &&& (31 : Int64))).toInt32)), .unset, .unset, .unset, .unset, .unset, .unset, .unset, .unset, .unset, .unset, .unset, .unset, .unset, .unset] []))
    have J4 : ∀ (z5 : Int32) (hz5 : z5 = ((((((p0).toUInt64 >>> ((5 : Int32) &&& 0x3f).toInt64.toUInt64).toInt64) &&& (31 : Int64))).toInt32)), Go p.tables e below (P0 Z p0 p1 p2 p3 p4 p5 h0 n0 s) (s₁.setTop (mkF m 18 #[.val (.long p0), .second, .val (.int p1), .val (.int p2), .val (.int p3), .val (.int p4), .val (.int p5), .val (.int z2), .val (.int z5), .unset, .unset, .unset, .unset, .unset, .unset, .unset, .unset, .unset, .unset, .unset, .unset, .unset, .unset] [])) := by
      intro z5 hz5
      have r6 : f0 p0 p1 p2 p3 p4 p5 = (let z8 : Int32 := ((((((p0).toUInt64 >>> ((10 : Int32) &&& 0x3f).toInt64.toUInt64).toInt64) &&& (31 : Int64))).toInt32); (let z11 : Int32 := ((((((p0).toUInt64 >>> ((15 : Int32) &&& 0x3f).toInt64.toUInt64).toInt64) &&& (31 : Int64))).toInt32); (let z14 : Int32 := ((((((p0).toUInt64 >>> ((20 : Int32) &&& 0x3f).toInt64.toUInt64).toInt64) &&& (31 : Int64))).toInt32); (let z17 : Int32 := (((((p0).toUInt64 >>> ((25 : Int32) &&& 0x3f).toInt64.toUInt64).toInt64)).toInt32); (let z21 : Bool := (if (z17 &&& (1 : Int32)) = (0 : Int32) then false else true); (let z25 : Bool := (if (z17 &&& (2 : Int32)) = (0 : Int32) then false else true); (let z29 : Bool := (if (z17 &&& (4 : Int32)) = (0 : Int32) then false else true); (let z33 : Bool := (if (z17 &&& (8 : Int32)) = (0 : Int32) then false else true); (let z37 : Bool := (if (z17 &&& (16 : Int32)) = (0 : Int32) then false else true); (let z64 : List Int32 := [(f1 z2 p1), (f1 z5 p2), (f1 z8 p3), (f1 z11 p4), (f1 z14 p5)]; (let z94 : List Int32 := [(b2i z21), (b2i z25), (b2i z29), (b2i z33), (b2i z37)]; (let z135 : List Int64 := (g2_1 z2 z21 (0 : Int32) (1 : Int32) [(0 : Int64), (0 : Int64), (0 : Int64)]); let z137 : Int32 := (g2_2 z2 z21 (0 : Int32) (1 : Int32) [(0 : Int64), (0 : Int64), (0 : Int64)]); let z138 : Int32 := (g2_3 z2 z21 (0 : Int32) (1 : Int32) [(0 : Int64), (0 : Int64), (0 : Int64)]); (let z148 : List Int64 := (g2_1 z5 z25 z137 z138 z135); let z150 : Int32 := (g2_2 z5 z25 z137 z138 z135); let z151 : Int32 := (g2_3 z5 z25 z137 z138 z135); (let z161 : List Int64 := (g2_1 z8 z29 z150 z151 z148); let z163 : Int32 := (g2_2 z8 z29 z150 z151 z148); let z164 : Int32 := (g2_3 z8 z29 z150 z151 z148); (let z174 : List Int64 := (g2_1 z11 z33 z163 z164 z161); let z176 : Int32 := (g2_2 z11 z33 z163 z164 z161); let z177 : Int32 := (g2_3 z11 z33 z163 z164 z161); (let z187 : List Int64 := (g2_1 z14 z37 z176 z177 z174); let z189 : Int32 := (g2_2 z14 z37 z176 z177 z174); let z190 : Int32 := (g2_3 z14 z37 z176 z177 z174); (let z277 : List Int64 := (own_bitsr z94 (own_pkr z64).2.1 (own_pkr z64).2.2.1 (own_pkr z64).2.2.2 (own_pkr z64).1); (if (List.length z277).toInt32 = z190 then (let z287 : Bool := (if (f8 (0 : Int32) z277 z187 ((List.length z277).toInt32)) = true then (if (f8 (1 : Int32) z277 z187 ((List.length z277).toInt32)) = true then (if (f8 (2 : Int32) z277 z187 ((List.length z277).toInt32)) = true then true else false) else false) else false); z287) else false)))))))))))))))))) := by subst hz5; exact r3
      show Go p.tables e below (P0 Z p0 p1 p2 p3 p4 p5 h0 n0 s) (s₁.setTop (mkF m 18 #[.val (.long p0), .second, .val (.int p1), .val (.int p2), .val (.int p3), .val (.int p4), .val (.int p5), .val (.int z2), .val (.int z5), .unset, .unset, .unset, .unset, .unset, .unset, .unset, .unset, .unset, .unset, .unset, .unset, .unset, .unset] []))
      refine Go.back (fun t k => XS.lloadN X0.here hx rfl (hb hby at_18) rfl  k) ?_
      show Go p.tables e below (P0 Z p0 p1 p2 p3 p4 p5 h0 n0 s) (s₁.setTop (mkF m 19 #[.val (.long p0), .second, .val (.int p1), .val (.int p2), .val (.int p3), .val (.int p4), .val (.int p5), .val (.int z2), .val (.int z5), .unset, .unset, .unset, .unset, .unset, .unset, .unset, .unset, .unset, .unset, .unset, .unset, .unset, .unset] [(.long p0)]))
      refine Go.back (fun t k => XS.bipush X0.here hx rfl (hb hby at_19) k) ?_
      show Go p.tables e below (P0 Z p0 p1 p2 p3 p4 p5 h0 n0 s) (s₁.setTop (mkF m 21 #[.val (.long p0), .second, .val (.int p1), .val (.int p2), .val (.int p3), .val (.int p4), .val (.int p5), .val (.int z2), .val (.int z5), .unset, .unset, .unset, .unset, .unset, .unset, .unset, .unset, .unset, .unset, .unset, .unset, .unset, .unset] [(.int (10 : Int32)), (.long p0)]))
      refine Go.back (fun t k => XS.lushr X0.here hx rfl (hb hby at_21) rfl k) ?_
      show Go p.tables e below (P0 Z p0 p1 p2 p3 p4 p5 h0 n0 s) (s₁.setTop (mkF m 22 #[.val (.long p0), .second, .val (.int p1), .val (.int p2), .val (.int p3), .val (.int p4), .val (.int p5), .val (.int z2), .val (.int z5), .unset, .unset, .unset, .unset, .unset, .unset, .unset, .unset, .unset, .unset, .unset, .unset, .unset, .unset] [(.long (((p0).toUInt64 >>> ((10 : Int32) &&& 0x3f).toInt64.toUInt64).toInt64))]))
      refine Go.back (fun t k => X0.ldc2Long hx hown (mvT hZ (hw _ (List.mem_of_getElem? (i := 0) rfl))) (g := (mkF m 22 #[.val (.long p0), .second, .val (.int p1), .val (.int p2), .val (.int p3), .val (.int p4), .val (.int p5), .val (.int z2), .val (.int z5), .unset, .unset, .unset, .unset, .unset, .unset, .unset, .unset, .unset, .unset, .unset, .unset, .unset, .unset] [(.long (((p0).toUInt64 >>> ((10 : Int32) &&& 0x3f).toInt64.toUInt64).toInt64))])) rfl (hb hby at_22) t k) ?_
      show Go p.tables e below (P0 Z p0 p1 p2 p3 p4 p5 h0 n0 s) (s₁.setTop (mkF m 25 #[.val (.long p0), .second, .val (.int p1), .val (.int p2), .val (.int p3), .val (.int p4), .val (.int p5), .val (.int z2), .val (.int z5), .unset, .unset, .unset, .unset, .unset, .unset, .unset, .unset, .unset, .unset, .unset, .unset, .unset, .unset] [(.long (31 : Int64)), (.long (((p0).toUInt64 >>> ((10 : Int32) &&& 0x3f).toInt64.toUInt64).toInt64))]))
      refine Go.back (fun t k => XS.land X0.here hx rfl (hb hby at_25) rfl k) ?_
      show Go p.tables e below (P0 Z p0 p1 p2 p3 p4 p5 h0 n0 s) (s₁.setTop (mkF m 26 #[.val (.long p0), .second, .val (.int p1), .val (.int p2), .val (.int p3), .val (.int p4), .val (.int p5), .val (.int z2), .val (.int z5), .unset, .unset, .unset, .unset, .unset, .unset, .unset, .unset, .unset, .unset, .unset, .unset, .unset, .unset] [(.long ((((p0).toUInt64 >>> ((10 : Int32) &&& 0x3f).toInt64.toUInt64).toInt64) &&& (31 : Int64)))]))
      refine Go.back (fun t k => XS.l2i X0.here hx rfl (hb hby at_26) rfl k) ?_
      show Go p.tables e below (P0 Z p0 p1 p2 p3 p4 p5 h0 n0 s) (s₁.setTop (mkF m 27 #[.val (.long p0), .second, .val (.int p1), .val (.int p2), .val (.int p3), .val (.int p4), .val (.int p5), .val (.int z2), .val (.int z5), .unset, .unset, .unset, .unset, .unset, .unset, .unset, .unset, .unset, .unset, .unset, .unset, .unset, .unset] [(.int ((((((p0).toUInt64 >>> ((10 : Int32) &&& 0x3f).toInt64.toUInt64).toInt64) &&& (31 : Int64))).toInt32))]))
      refine Go.back (fun t k => XS.istore X0.here hx rfl (hb hby at_27) rfl (l' := #[.val (.long p0), .second, .val (.int p1), .val (.int p2), .val (.int p3), .val (.int p4), .val (.int p5), .val (.int z2), .val (.int z5), .val (.int ((((((p0).toUInt64 >>> ((10 : Int32) &&& 0x3f).toInt64.toUInt64).toInt64) &&& (31 : Int64))).toInt32)), .unset, .unset, .unset, .unset, .unset, .unset, .unset, .unset, .unset, .unset, .unset, .unset, .unset]) rfl k) ?_
      show Go p.tables e below (P0 Z p0 p1 p2 p3 p4 p5 h0 n0 s) (s₁.setTop (mkF m 29 #[.val (.long p0), .second, .val (.int p1), .val (.int p2), .val (.int p3), .val (.int p4), .val (.int p5), .val (.int z2), .val (.int z5), .val (.int ((((((p0).toUInt64 >>> ((10 : Int32) &&& 0x3f).toInt64.toUInt64).toInt64) &&& (31 : Int64))).toInt32)), .unset, .unset, .unset, .unset, .unset, .unset, .unset, .unset, .unset, .unset, .unset, .unset, .unset] []))
      have J7 : ∀ (z8 : Int32) (hz8 : z8 = ((((((p0).toUInt64 >>> ((10 : Int32) &&& 0x3f).toInt64.toUInt64).toInt64) &&& (31 : Int64))).toInt32)), Go p.tables e below (P0 Z p0 p1 p2 p3 p4 p5 h0 n0 s) (s₁.setTop (mkF m 29 #[.val (.long p0), .second, .val (.int p1), .val (.int p2), .val (.int p3), .val (.int p4), .val (.int p5), .val (.int z2), .val (.int z5), .val (.int z8), .unset, .unset, .unset, .unset, .unset, .unset, .unset, .unset, .unset, .unset, .unset, .unset, .unset] [])) := by
        intro z8 hz8
        have r9 : f0 p0 p1 p2 p3 p4 p5 = (let z11 : Int32 := ((((((p0).toUInt64 >>> ((15 : Int32) &&& 0x3f).toInt64.toUInt64).toInt64) &&& (31 : Int64))).toInt32); (let z14 : Int32 := ((((((p0).toUInt64 >>> ((20 : Int32) &&& 0x3f).toInt64.toUInt64).toInt64) &&& (31 : Int64))).toInt32); (let z17 : Int32 := (((((p0).toUInt64 >>> ((25 : Int32) &&& 0x3f).toInt64.toUInt64).toInt64)).toInt32); (let z21 : Bool := (if (z17 &&& (1 : Int32)) = (0 : Int32) then false else true); (let z25 : Bool := (if (z17 &&& (2 : Int32)) = (0 : Int32) then false else true); (let z29 : Bool := (if (z17 &&& (4 : Int32)) = (0 : Int32) then false else true); (let z33 : Bool := (if (z17 &&& (8 : Int32)) = (0 : Int32) then false else true); (let z37 : Bool := (if (z17 &&& (16 : Int32)) = (0 : Int32) then false else true); (let z64 : List Int32 := [(f1 z2 p1), (f1 z5 p2), (f1 z8 p3), (f1 z11 p4), (f1 z14 p5)]; (let z94 : List Int32 := [(b2i z21), (b2i z25), (b2i z29), (b2i z33), (b2i z37)]; (let z135 : List Int64 := (g2_1 z2 z21 (0 : Int32) (1 : Int32) [(0 : Int64), (0 : Int64), (0 : Int64)]); let z137 : Int32 := (g2_2 z2 z21 (0 : Int32) (1 : Int32) [(0 : Int64), (0 : Int64), (0 : Int64)]); let z138 : Int32 := (g2_3 z2 z21 (0 : Int32) (1 : Int32) [(0 : Int64), (0 : Int64), (0 : Int64)]); (let z148 : List Int64 := (g2_1 z5 z25 z137 z138 z135); let z150 : Int32 := (g2_2 z5 z25 z137 z138 z135); let z151 : Int32 := (g2_3 z5 z25 z137 z138 z135); (let z161 : List Int64 := (g2_1 z8 z29 z150 z151 z148); let z163 : Int32 := (g2_2 z8 z29 z150 z151 z148); let z164 : Int32 := (g2_3 z8 z29 z150 z151 z148); (let z174 : List Int64 := (g2_1 z11 z33 z163 z164 z161); let z176 : Int32 := (g2_2 z11 z33 z163 z164 z161); let z177 : Int32 := (g2_3 z11 z33 z163 z164 z161); (let z187 : List Int64 := (g2_1 z14 z37 z176 z177 z174); let z189 : Int32 := (g2_2 z14 z37 z176 z177 z174); let z190 : Int32 := (g2_3 z14 z37 z176 z177 z174); (let z277 : List Int64 := (own_bitsr z94 (own_pkr z64).2.1 (own_pkr z64).2.2.1 (own_pkr z64).2.2.2 (own_pkr z64).1); (if (List.length z277).toInt32 = z190 then (let z287 : Bool := (if (f8 (0 : Int32) z277 z187 ((List.length z277).toInt32)) = true then (if (f8 (1 : Int32) z277 z187 ((List.length z277).toInt32)) = true then (if (f8 (2 : Int32) z277 z187 ((List.length z277).toInt32)) = true then true else false) else false) else false); z287) else false))))))))))))))))) := by subst hz8; exact r6
        show Go p.tables e below (P0 Z p0 p1 p2 p3 p4 p5 h0 n0 s) (s₁.setTop (mkF m 29 #[.val (.long p0), .second, .val (.int p1), .val (.int p2), .val (.int p3), .val (.int p4), .val (.int p5), .val (.int z2), .val (.int z5), .val (.int z8), .unset, .unset, .unset, .unset, .unset, .unset, .unset, .unset, .unset, .unset, .unset, .unset, .unset] []))
        refine Go.back (fun t k => XS.lloadN X0.here hx rfl (hb hby at_29) rfl  k) ?_
        show Go p.tables e below (P0 Z p0 p1 p2 p3 p4 p5 h0 n0 s) (s₁.setTop (mkF m 30 #[.val (.long p0), .second, .val (.int p1), .val (.int p2), .val (.int p3), .val (.int p4), .val (.int p5), .val (.int z2), .val (.int z5), .val (.int z8), .unset, .unset, .unset, .unset, .unset, .unset, .unset, .unset, .unset, .unset, .unset, .unset, .unset] [(.long p0)]))
        refine Go.back (fun t k => XS.bipush X0.here hx rfl (hb hby at_30) k) ?_
        show Go p.tables e below (P0 Z p0 p1 p2 p3 p4 p5 h0 n0 s) (s₁.setTop (mkF m 32 #[.val (.long p0), .second, .val (.int p1), .val (.int p2), .val (.int p3), .val (.int p4), .val (.int p5), .val (.int z2), .val (.int z5), .val (.int z8), .unset, .unset, .unset, .unset, .unset, .unset, .unset, .unset, .unset, .unset, .unset, .unset, .unset] [(.int (15 : Int32)), (.long p0)]))
        refine Go.back (fun t k => XS.lushr X0.here hx rfl (hb hby at_32) rfl k) ?_
        show Go p.tables e below (P0 Z p0 p1 p2 p3 p4 p5 h0 n0 s) (s₁.setTop (mkF m 33 #[.val (.long p0), .second, .val (.int p1), .val (.int p2), .val (.int p3), .val (.int p4), .val (.int p5), .val (.int z2), .val (.int z5), .val (.int z8), .unset, .unset, .unset, .unset, .unset, .unset, .unset, .unset, .unset, .unset, .unset, .unset, .unset] [(.long (((p0).toUInt64 >>> ((15 : Int32) &&& 0x3f).toInt64.toUInt64).toInt64))]))
        refine Go.back (fun t k => X0.ldc2Long hx hown (mvT hZ (hw _ (List.mem_of_getElem? (i := 0) rfl))) (g := (mkF m 33 #[.val (.long p0), .second, .val (.int p1), .val (.int p2), .val (.int p3), .val (.int p4), .val (.int p5), .val (.int z2), .val (.int z5), .val (.int z8), .unset, .unset, .unset, .unset, .unset, .unset, .unset, .unset, .unset, .unset, .unset, .unset, .unset] [(.long (((p0).toUInt64 >>> ((15 : Int32) &&& 0x3f).toInt64.toUInt64).toInt64))])) rfl (hb hby at_33) t k) ?_
        show Go p.tables e below (P0 Z p0 p1 p2 p3 p4 p5 h0 n0 s) (s₁.setTop (mkF m 36 #[.val (.long p0), .second, .val (.int p1), .val (.int p2), .val (.int p3), .val (.int p4), .val (.int p5), .val (.int z2), .val (.int z5), .val (.int z8), .unset, .unset, .unset, .unset, .unset, .unset, .unset, .unset, .unset, .unset, .unset, .unset, .unset] [(.long (31 : Int64)), (.long (((p0).toUInt64 >>> ((15 : Int32) &&& 0x3f).toInt64.toUInt64).toInt64))]))
        refine Go.back (fun t k => XS.land X0.here hx rfl (hb hby at_36) rfl k) ?_
        show Go p.tables e below (P0 Z p0 p1 p2 p3 p4 p5 h0 n0 s) (s₁.setTop (mkF m 37 #[.val (.long p0), .second, .val (.int p1), .val (.int p2), .val (.int p3), .val (.int p4), .val (.int p5), .val (.int z2), .val (.int z5), .val (.int z8), .unset, .unset, .unset, .unset, .unset, .unset, .unset, .unset, .unset, .unset, .unset, .unset, .unset] [(.long ((((p0).toUInt64 >>> ((15 : Int32) &&& 0x3f).toInt64.toUInt64).toInt64) &&& (31 : Int64)))]))
        refine Go.back (fun t k => XS.l2i X0.here hx rfl (hb hby at_37) rfl k) ?_
        show Go p.tables e below (P0 Z p0 p1 p2 p3 p4 p5 h0 n0 s) (s₁.setTop (mkF m 38 #[.val (.long p0), .second, .val (.int p1), .val (.int p2), .val (.int p3), .val (.int p4), .val (.int p5), .val (.int z2), .val (.int z5), .val (.int z8), .unset, .unset, .unset, .unset, .unset, .unset, .unset, .unset, .unset, .unset, .unset, .unset, .unset] [(.int ((((((p0).toUInt64 >>> ((15 : Int32) &&& 0x3f).toInt64.toUInt64).toInt64) &&& (31 : Int64))).toInt32))]))
        refine Go.back (fun t k => XS.istore X0.here hx rfl (hb hby at_38) rfl (l' := #[.val (.long p0), .second, .val (.int p1), .val (.int p2), .val (.int p3), .val (.int p4), .val (.int p5), .val (.int z2), .val (.int z5), .val (.int z8), .val (.int ((((((p0).toUInt64 >>> ((15 : Int32) &&& 0x3f).toInt64.toUInt64).toInt64) &&& (31 : Int64))).toInt32)), .unset, .unset, .unset, .unset, .unset, .unset, .unset, .unset, .unset, .unset, .unset, .unset]) rfl k) ?_
        show Go p.tables e below (P0 Z p0 p1 p2 p3 p4 p5 h0 n0 s) (s₁.setTop (mkF m 40 #[.val (.long p0), .second, .val (.int p1), .val (.int p2), .val (.int p3), .val (.int p4), .val (.int p5), .val (.int z2), .val (.int z5), .val (.int z8), .val (.int ((((((p0).toUInt64 >>> ((15 : Int32) &&& 0x3f).toInt64.toUInt64).toInt64) &&& (31 : Int64))).toInt32)), .unset, .unset, .unset, .unset, .unset, .unset, .unset, .unset, .unset, .unset, .unset, .unset] []))
        have J10 : ∀ (z11 : Int32) (hz11 : z11 = ((((((p0).toUInt64 >>> ((15 : Int32) &&& 0x3f).toInt64.toUInt64).toInt64) &&& (31 : Int64))).toInt32)), Go p.tables e below (P0 Z p0 p1 p2 p3 p4 p5 h0 n0 s) (s₁.setTop (mkF m 40 #[.val (.long p0), .second, .val (.int p1), .val (.int p2), .val (.int p3), .val (.int p4), .val (.int p5), .val (.int z2), .val (.int z5), .val (.int z8), .val (.int z11), .unset, .unset, .unset, .unset, .unset, .unset, .unset, .unset, .unset, .unset, .unset, .unset] [])) := by
          intro z11 hz11
          have r12 : f0 p0 p1 p2 p3 p4 p5 = (let z14 : Int32 := ((((((p0).toUInt64 >>> ((20 : Int32) &&& 0x3f).toInt64.toUInt64).toInt64) &&& (31 : Int64))).toInt32); (let z17 : Int32 := (((((p0).toUInt64 >>> ((25 : Int32) &&& 0x3f).toInt64.toUInt64).toInt64)).toInt32); (let z21 : Bool := (if (z17 &&& (1 : Int32)) = (0 : Int32) then false else true); (let z25 : Bool := (if (z17 &&& (2 : Int32)) = (0 : Int32) then false else true); (let z29 : Bool := (if (z17 &&& (4 : Int32)) = (0 : Int32) then false else true); (let z33 : Bool := (if (z17 &&& (8 : Int32)) = (0 : Int32) then false else true); (let z37 : Bool := (if (z17 &&& (16 : Int32)) = (0 : Int32) then false else true); (let z64 : List Int32 := [(f1 z2 p1), (f1 z5 p2), (f1 z8 p3), (f1 z11 p4), (f1 z14 p5)]; (let z94 : List Int32 := [(b2i z21), (b2i z25), (b2i z29), (b2i z33), (b2i z37)]; (let z135 : List Int64 := (g2_1 z2 z21 (0 : Int32) (1 : Int32) [(0 : Int64), (0 : Int64), (0 : Int64)]); let z137 : Int32 := (g2_2 z2 z21 (0 : Int32) (1 : Int32) [(0 : Int64), (0 : Int64), (0 : Int64)]); let z138 : Int32 := (g2_3 z2 z21 (0 : Int32) (1 : Int32) [(0 : Int64), (0 : Int64), (0 : Int64)]); (let z148 : List Int64 := (g2_1 z5 z25 z137 z138 z135); let z150 : Int32 := (g2_2 z5 z25 z137 z138 z135); let z151 : Int32 := (g2_3 z5 z25 z137 z138 z135); (let z161 : List Int64 := (g2_1 z8 z29 z150 z151 z148); let z163 : Int32 := (g2_2 z8 z29 z150 z151 z148); let z164 : Int32 := (g2_3 z8 z29 z150 z151 z148); (let z174 : List Int64 := (g2_1 z11 z33 z163 z164 z161); let z176 : Int32 := (g2_2 z11 z33 z163 z164 z161); let z177 : Int32 := (g2_3 z11 z33 z163 z164 z161); (let z187 : List Int64 := (g2_1 z14 z37 z176 z177 z174); let z189 : Int32 := (g2_2 z14 z37 z176 z177 z174); let z190 : Int32 := (g2_3 z14 z37 z176 z177 z174); (let z277 : List Int64 := (own_bitsr z94 (own_pkr z64).2.1 (own_pkr z64).2.2.1 (own_pkr z64).2.2.2 (own_pkr z64).1); (if (List.length z277).toInt32 = z190 then (let z287 : Bool := (if (f8 (0 : Int32) z277 z187 ((List.length z277).toInt32)) = true then (if (f8 (1 : Int32) z277 z187 ((List.length z277).toInt32)) = true then (if (f8 (2 : Int32) z277 z187 ((List.length z277).toInt32)) = true then true else false) else false) else false); z287) else false)))))))))))))))) := by subst hz11; exact r9
          show Go p.tables e below (P0 Z p0 p1 p2 p3 p4 p5 h0 n0 s) (s₁.setTop (mkF m 40 #[.val (.long p0), .second, .val (.int p1), .val (.int p2), .val (.int p3), .val (.int p4), .val (.int p5), .val (.int z2), .val (.int z5), .val (.int z8), .val (.int z11), .unset, .unset, .unset, .unset, .unset, .unset, .unset, .unset, .unset, .unset, .unset, .unset] []))
          refine Go.back (fun t k => XS.lloadN X0.here hx rfl (hb hby at_40) rfl  k) ?_
          show Go p.tables e below (P0 Z p0 p1 p2 p3 p4 p5 h0 n0 s) (s₁.setTop (mkF m 41 #[.val (.long p0), .second, .val (.int p1), .val (.int p2), .val (.int p3), .val (.int p4), .val (.int p5), .val (.int z2), .val (.int z5), .val (.int z8), .val (.int z11), .unset, .unset, .unset, .unset, .unset, .unset, .unset, .unset, .unset, .unset, .unset, .unset] [(.long p0)]))
          refine Go.back (fun t k => XS.bipush X0.here hx rfl (hb hby at_41) k) ?_
          show Go p.tables e below (P0 Z p0 p1 p2 p3 p4 p5 h0 n0 s) (s₁.setTop (mkF m 43 #[.val (.long p0), .second, .val (.int p1), .val (.int p2), .val (.int p3), .val (.int p4), .val (.int p5), .val (.int z2), .val (.int z5), .val (.int z8), .val (.int z11), .unset, .unset, .unset, .unset, .unset, .unset, .unset, .unset, .unset, .unset, .unset, .unset] [(.int (20 : Int32)), (.long p0)]))
          refine Go.back (fun t k => XS.lushr X0.here hx rfl (hb hby at_43) rfl k) ?_
          show Go p.tables e below (P0 Z p0 p1 p2 p3 p4 p5 h0 n0 s) (s₁.setTop (mkF m 44 #[.val (.long p0), .second, .val (.int p1), .val (.int p2), .val (.int p3), .val (.int p4), .val (.int p5), .val (.int z2), .val (.int z5), .val (.int z8), .val (.int z11), .unset, .unset, .unset, .unset, .unset, .unset, .unset, .unset, .unset, .unset, .unset, .unset] [(.long (((p0).toUInt64 >>> ((20 : Int32) &&& 0x3f).toInt64.toUInt64).toInt64))]))
          refine Go.back (fun t k => X0.ldc2Long hx hown (mvT hZ (hw _ (List.mem_of_getElem? (i := 0) rfl))) (g := (mkF m 44 #[.val (.long p0), .second, .val (.int p1), .val (.int p2), .val (.int p3), .val (.int p4), .val (.int p5), .val (.int z2), .val (.int z5), .val (.int z8), .val (.int z11), .unset, .unset, .unset, .unset, .unset, .unset, .unset, .unset, .unset, .unset, .unset, .unset] [(.long (((p0).toUInt64 >>> ((20 : Int32) &&& 0x3f).toInt64.toUInt64).toInt64))])) rfl (hb hby at_44) t k) ?_
          show Go p.tables e below (P0 Z p0 p1 p2 p3 p4 p5 h0 n0 s) (s₁.setTop (mkF m 47 #[.val (.long p0), .second, .val (.int p1), .val (.int p2), .val (.int p3), .val (.int p4), .val (.int p5), .val (.int z2), .val (.int z5), .val (.int z8), .val (.int z11), .unset, .unset, .unset, .unset, .unset, .unset, .unset, .unset, .unset, .unset, .unset, .unset] [(.long (31 : Int64)), (.long (((p0).toUInt64 >>> ((20 : Int32) &&& 0x3f).toInt64.toUInt64).toInt64))]))
          refine Go.back (fun t k => XS.land X0.here hx rfl (hb hby at_47) rfl k) ?_
          show Go p.tables e below (P0 Z p0 p1 p2 p3 p4 p5 h0 n0 s) (s₁.setTop (mkF m 48 #[.val (.long p0), .second, .val (.int p1), .val (.int p2), .val (.int p3), .val (.int p4), .val (.int p5), .val (.int z2), .val (.int z5), .val (.int z8), .val (.int z11), .unset, .unset, .unset, .unset, .unset, .unset, .unset, .unset, .unset, .unset, .unset, .unset] [(.long ((((p0).toUInt64 >>> ((20 : Int32) &&& 0x3f).toInt64.toUInt64).toInt64) &&& (31 : Int64)))]))
          refine Go.back (fun t k => XS.l2i X0.here hx rfl (hb hby at_48) rfl k) ?_
          show Go p.tables e below (P0 Z p0 p1 p2 p3 p4 p5 h0 n0 s) (s₁.setTop (mkF m 49 #[.val (.long p0), .second, .val (.int p1), .val (.int p2), .val (.int p3), .val (.int p4), .val (.int p5), .val (.int z2), .val (.int z5), .val (.int z8), .val (.int z11), .unset, .unset, .unset, .unset, .unset, .unset, .unset, .unset, .unset, .unset, .unset, .unset] [(.int ((((((p0).toUInt64 >>> ((20 : Int32) &&& 0x3f).toInt64.toUInt64).toInt64) &&& (31 : Int64))).toInt32))]))
          refine Go.back (fun t k => XS.istore X0.here hx rfl (hb hby at_49) rfl (l' := #[.val (.long p0), .second, .val (.int p1), .val (.int p2), .val (.int p3), .val (.int p4), .val (.int p5), .val (.int z2), .val (.int z5), .val (.int z8), .val (.int z11), .val (.int ((((((p0).toUInt64 >>> ((20 : Int32) &&& 0x3f).toInt64.toUInt64).toInt64) &&& (31 : Int64))).toInt32)), .unset, .unset, .unset, .unset, .unset, .unset, .unset, .unset, .unset, .unset, .unset]) rfl k) ?_
          show Go p.tables e below (P0 Z p0 p1 p2 p3 p4 p5 h0 n0 s) (s₁.setTop (mkF m 51 #[.val (.long p0), .second, .val (.int p1), .val (.int p2), .val (.int p3), .val (.int p4), .val (.int p5), .val (.int z2), .val (.int z5), .val (.int z8), .val (.int z11), .val (.int ((((((p0).toUInt64 >>> ((20 : Int32) &&& 0x3f).toInt64.toUInt64).toInt64) &&& (31 : Int64))).toInt32)), .unset, .unset, .unset, .unset, .unset, .unset, .unset, .unset, .unset, .unset, .unset] []))
          have J13 : ∀ (z14 : Int32) (hz14 : z14 = ((((((p0).toUInt64 >>> ((20 : Int32) &&& 0x3f).toInt64.toUInt64).toInt64) &&& (31 : Int64))).toInt32)), Go p.tables e below (P0 Z p0 p1 p2 p3 p4 p5 h0 n0 s) (s₁.setTop (mkF m 51 #[.val (.long p0), .second, .val (.int p1), .val (.int p2), .val (.int p3), .val (.int p4), .val (.int p5), .val (.int z2), .val (.int z5), .val (.int z8), .val (.int z11), .val (.int z14), .unset, .unset, .unset, .unset, .unset, .unset, .unset, .unset, .unset, .unset, .unset] [])) := by
            intro z14 hz14
            have r15 : f0 p0 p1 p2 p3 p4 p5 = (let z17 : Int32 := (((((p0).toUInt64 >>> ((25 : Int32) &&& 0x3f).toInt64.toUInt64).toInt64)).toInt32); (let z21 : Bool := (if (z17 &&& (1 : Int32)) = (0 : Int32) then false else true); (let z25 : Bool := (if (z17 &&& (2 : Int32)) = (0 : Int32) then false else true); (let z29 : Bool := (if (z17 &&& (4 : Int32)) = (0 : Int32) then false else true); (let z33 : Bool := (if (z17 &&& (8 : Int32)) = (0 : Int32) then false else true); (let z37 : Bool := (if (z17 &&& (16 : Int32)) = (0 : Int32) then false else true); (let z64 : List Int32 := [(f1 z2 p1), (f1 z5 p2), (f1 z8 p3), (f1 z11 p4), (f1 z14 p5)]; (let z94 : List Int32 := [(b2i z21), (b2i z25), (b2i z29), (b2i z33), (b2i z37)]; (let z135 : List Int64 := (g2_1 z2 z21 (0 : Int32) (1 : Int32) [(0 : Int64), (0 : Int64), (0 : Int64)]); let z137 : Int32 := (g2_2 z2 z21 (0 : Int32) (1 : Int32) [(0 : Int64), (0 : Int64), (0 : Int64)]); let z138 : Int32 := (g2_3 z2 z21 (0 : Int32) (1 : Int32) [(0 : Int64), (0 : Int64), (0 : Int64)]); (let z148 : List Int64 := (g2_1 z5 z25 z137 z138 z135); let z150 : Int32 := (g2_2 z5 z25 z137 z138 z135); let z151 : Int32 := (g2_3 z5 z25 z137 z138 z135); (let z161 : List Int64 := (g2_1 z8 z29 z150 z151 z148); let z163 : Int32 := (g2_2 z8 z29 z150 z151 z148); let z164 : Int32 := (g2_3 z8 z29 z150 z151 z148); (let z174 : List Int64 := (g2_1 z11 z33 z163 z164 z161); let z176 : Int32 := (g2_2 z11 z33 z163 z164 z161); let z177 : Int32 := (g2_3 z11 z33 z163 z164 z161); (let z187 : List Int64 := (g2_1 z14 z37 z176 z177 z174); let z189 : Int32 := (g2_2 z14 z37 z176 z177 z174); let z190 : Int32 := (g2_3 z14 z37 z176 z177 z174); (let z277 : List Int64 := (own_bitsr z94 (own_pkr z64).2.1 (own_pkr z64).2.2.1 (own_pkr z64).2.2.2 (own_pkr z64).1); (if (List.length z277).toInt32 = z190 then (let z287 : Bool := (if (f8 (0 : Int32) z277 z187 ((List.length z277).toInt32)) = true then (if (f8 (1 : Int32) z277 z187 ((List.length z277).toInt32)) = true then (if (f8 (2 : Int32) z277 z187 ((List.length z277).toInt32)) = true then true else false) else false) else false); z287) else false))))))))))))))) := by subst hz14; exact r12
            show Go p.tables e below (P0 Z p0 p1 p2 p3 p4 p5 h0 n0 s) (s₁.setTop (mkF m 51 #[.val (.long p0), .second, .val (.int p1), .val (.int p2), .val (.int p3), .val (.int p4), .val (.int p5), .val (.int z2), .val (.int z5), .val (.int z8), .val (.int z11), .val (.int z14), .unset, .unset, .unset, .unset, .unset, .unset, .unset, .unset, .unset, .unset, .unset] []))
            refine Go.back (fun t k => XS.lloadN X0.here hx rfl (hb hby at_51) rfl  k) ?_
            show Go p.tables e below (P0 Z p0 p1 p2 p3 p4 p5 h0 n0 s) (s₁.setTop (mkF m 52 #[.val (.long p0), .second, .val (.int p1), .val (.int p2), .val (.int p3), .val (.int p4), .val (.int p5), .val (.int z2), .val (.int z5), .val (.int z8), .val (.int z11), .val (.int z14), .unset, .unset, .unset, .unset, .unset, .unset, .unset, .unset, .unset, .unset, .unset] [(.long p0)]))
            refine Go.back (fun t k => XS.bipush X0.here hx rfl (hb hby at_52) k) ?_
            show Go p.tables e below (P0 Z p0 p1 p2 p3 p4 p5 h0 n0 s) (s₁.setTop (mkF m 54 #[.val (.long p0), .second, .val (.int p1), .val (.int p2), .val (.int p3), .val (.int p4), .val (.int p5), .val (.int z2), .val (.int z5), .val (.int z8), .val (.int z11), .val (.int z14), .unset, .unset, .unset, .unset, .unset, .unset, .unset, .unset, .unset, .unset, .unset] [(.int (25 : Int32)), (.long p0)]))
            refine Go.back (fun t k => XS.lushr X0.here hx rfl (hb hby at_54) rfl k) ?_
            show Go p.tables e below (P0 Z p0 p1 p2 p3 p4 p5 h0 n0 s) (s₁.setTop (mkF m 55 #[.val (.long p0), .second, .val (.int p1), .val (.int p2), .val (.int p3), .val (.int p4), .val (.int p5), .val (.int z2), .val (.int z5), .val (.int z8), .val (.int z11), .val (.int z14), .unset, .unset, .unset, .unset, .unset, .unset, .unset, .unset, .unset, .unset, .unset] [(.long (((p0).toUInt64 >>> ((25 : Int32) &&& 0x3f).toInt64.toUInt64).toInt64))]))
            refine Go.back (fun t k => XS.l2i X0.here hx rfl (hb hby at_55) rfl k) ?_
            show Go p.tables e below (P0 Z p0 p1 p2 p3 p4 p5 h0 n0 s) (s₁.setTop (mkF m 56 #[.val (.long p0), .second, .val (.int p1), .val (.int p2), .val (.int p3), .val (.int p4), .val (.int p5), .val (.int z2), .val (.int z5), .val (.int z8), .val (.int z11), .val (.int z14), .unset, .unset, .unset, .unset, .unset, .unset, .unset, .unset, .unset, .unset, .unset] [(.int (((((p0).toUInt64 >>> ((25 : Int32) &&& 0x3f).toInt64.toUInt64).toInt64)).toInt32))]))
            refine Go.back (fun t k => XS.istore X0.here hx rfl (hb hby at_56) rfl (l' := #[.val (.long p0), .second, .val (.int p1), .val (.int p2), .val (.int p3), .val (.int p4), .val (.int p5), .val (.int z2), .val (.int z5), .val (.int z8), .val (.int z11), .val (.int z14), .val (.int (((((p0).toUInt64 >>> ((25 : Int32) &&& 0x3f).toInt64.toUInt64).toInt64)).toInt32)), .unset, .unset, .unset, .unset, .unset, .unset, .unset, .unset, .unset, .unset]) rfl k) ?_
            show Go p.tables e below (P0 Z p0 p1 p2 p3 p4 p5 h0 n0 s) (s₁.setTop (mkF m 58 #[.val (.long p0), .second, .val (.int p1), .val (.int p2), .val (.int p3), .val (.int p4), .val (.int p5), .val (.int z2), .val (.int z5), .val (.int z8), .val (.int z11), .val (.int z14), .val (.int (((((p0).toUInt64 >>> ((25 : Int32) &&& 0x3f).toInt64.toUInt64).toInt64)).toInt32)), .unset, .unset, .unset, .unset, .unset, .unset, .unset, .unset, .unset, .unset] []))
            have J16 : ∀ (z17 : Int32) (hz17 : z17 = (((((p0).toUInt64 >>> ((25 : Int32) &&& 0x3f).toInt64.toUInt64).toInt64)).toInt32)), Go p.tables e below (P0 Z p0 p1 p2 p3 p4 p5 h0 n0 s) (s₁.setTop (mkF m 58 #[.val (.long p0), .second, .val (.int p1), .val (.int p2), .val (.int p3), .val (.int p4), .val (.int p5), .val (.int z2), .val (.int z5), .val (.int z8), .val (.int z11), .val (.int z14), .val (.int z17), .unset, .unset, .unset, .unset, .unset, .unset, .unset, .unset, .unset, .unset] [])) := by
              intro z17 hz17
              have r18 : f0 p0 p1 p2 p3 p4 p5 = (let z21 : Bool := (if (z17 &&& (1 : Int32)) = (0 : Int32) then false else true); (let z25 : Bool := (if (z17 &&& (2 : Int32)) = (0 : Int32) then false else true); (let z29 : Bool := (if (z17 &&& (4 : Int32)) = (0 : Int32) then false else true); (let z33 : Bool := (if (z17 &&& (8 : Int32)) = (0 : Int32) then false else true); (let z37 : Bool := (if (z17 &&& (16 : Int32)) = (0 : Int32) then false else true); (let z64 : List Int32 := [(f1 z2 p1), (f1 z5 p2), (f1 z8 p3), (f1 z11 p4), (f1 z14 p5)]; (let z94 : List Int32 := [(b2i z21), (b2i z25), (b2i z29), (b2i z33), (b2i z37)]; (let z135 : List Int64 := (g2_1 z2 z21 (0 : Int32) (1 : Int32) [(0 : Int64), (0 : Int64), (0 : Int64)]); let z137 : Int32 := (g2_2 z2 z21 (0 : Int32) (1 : Int32) [(0 : Int64), (0 : Int64), (0 : Int64)]); let z138 : Int32 := (g2_3 z2 z21 (0 : Int32) (1 : Int32) [(0 : Int64), (0 : Int64), (0 : Int64)]); (let z148 : List Int64 := (g2_1 z5 z25 z137 z138 z135); let z150 : Int32 := (g2_2 z5 z25 z137 z138 z135); let z151 : Int32 := (g2_3 z5 z25 z137 z138 z135); (let z161 : List Int64 := (g2_1 z8 z29 z150 z151 z148); let z163 : Int32 := (g2_2 z8 z29 z150 z151 z148); let z164 : Int32 := (g2_3 z8 z29 z150 z151 z148); (let z174 : List Int64 := (g2_1 z11 z33 z163 z164 z161); let z176 : Int32 := (g2_2 z11 z33 z163 z164 z161); let z177 : Int32 := (g2_3 z11 z33 z163 z164 z161); (let z187 : List Int64 := (g2_1 z14 z37 z176 z177 z174); let z189 : Int32 := (g2_2 z14 z37 z176 z177 z174); let z190 : Int32 := (g2_3 z14 z37 z176 z177 z174); (let z277 : List Int64 := (own_bitsr z94 (own_pkr z64).2.1 (own_pkr z64).2.2.1 (own_pkr z64).2.2.2 (own_pkr z64).1); (if (List.length z277).toInt32 = z190 then (let z287 : Bool := (if (f8 (0 : Int32) z277 z187 ((List.length z277).toInt32)) = true then (if (f8 (1 : Int32) z277 z187 ((List.length z277).toInt32)) = true then (if (f8 (2 : Int32) z277 z187 ((List.length z277).toInt32)) = true then true else false) else false) else false); z287) else false)))))))))))))) := by subst hz17; exact r15
              show Go p.tables e below (P0 Z p0 p1 p2 p3 p4 p5 h0 n0 s) (s₁.setTop (mkF m 58 #[.val (.long p0), .second, .val (.int p1), .val (.int p2), .val (.int p3), .val (.int p4), .val (.int p5), .val (.int z2), .val (.int z5), .val (.int z8), .val (.int z11), .val (.int z14), .val (.int z17), .unset, .unset, .unset, .unset, .unset, .unset, .unset, .unset, .unset, .unset] []))
              refine Go.back (fun t k => XS.iload X0.here hx rfl (hb hby at_58) rfl  k) ?_
              show Go p.tables e below (P0 Z p0 p1 p2 p3 p4 p5 h0 n0 s) (s₁.setTop (mkF m 60 #[.val (.long p0), .second, .val (.int p1), .val (.int p2), .val (.int p3), .val (.int p4), .val (.int p5), .val (.int z2), .val (.int z5), .val (.int z8), .val (.int z11), .val (.int z14), .val (.int z17), .unset, .unset, .unset, .unset, .unset, .unset, .unset, .unset, .unset, .unset] [(.int z17)]))
              refine Go.back (fun t k => XS.iconst X0.here hx rfl (hb hby at_60) k) ?_
              show Go p.tables e below (P0 Z p0 p1 p2 p3 p4 p5 h0 n0 s) (s₁.setTop (mkF m 61 #[.val (.long p0), .second, .val (.int p1), .val (.int p2), .val (.int p3), .val (.int p4), .val (.int p5), .val (.int z2), .val (.int z5), .val (.int z8), .val (.int z11), .val (.int z14), .val (.int z17), .unset, .unset, .unset, .unset, .unset, .unset, .unset, .unset, .unset, .unset] [(.int (1 : Int32)), (.int z17)]))
              refine Go.back (fun t k => XS.iand X0.here hx rfl (hb hby at_61) rfl k) ?_
              show Go p.tables e below (P0 Z p0 p1 p2 p3 p4 p5 h0 n0 s) (s₁.setTop (mkF m 62 #[.val (.long p0), .second, .val (.int p1), .val (.int p2), .val (.int p3), .val (.int p4), .val (.int p5), .val (.int z2), .val (.int z5), .val (.int z8), .val (.int z11), .val (.int z14), .val (.int z17), .unset, .unset, .unset, .unset, .unset, .unset, .unset, .unset, .unset, .unset] [(.int (z17 &&& (1 : Int32)))]))
              have J20 : ∀ (z21 : Bool) (hz21 : z21 = (if (z17 &&& (1 : Int32)) = (0 : Int32) then false else true)), Go p.tables e below (P0 Z p0 p1 p2 p3 p4 p5 h0 n0 s) (s₁.setTop (mkF m 70 #[.val (.long p0), .second, .val (.int p1), .val (.int p2), .val (.int p3), .val (.int p4), .val (.int p5), .val (.int z2), .val (.int z5), .val (.int z8), .val (.int z11), .val (.int z14), .val (.int z17), .unset, .unset, .unset, .unset, .unset, .unset, .unset, .unset, .unset, .unset] [(.int (b2i z21))])) := by
                intro z21 hz21
                have r22 : f0 p0 p1 p2 p3 p4 p5 = (let z25 : Bool := (if (z17 &&& (2 : Int32)) = (0 : Int32) then false else true); (let z29 : Bool := (if (z17 &&& (4 : Int32)) = (0 : Int32) then false else true); (let z33 : Bool := (if (z17 &&& (8 : Int32)) = (0 : Int32) then false else true); (let z37 : Bool := (if (z17 &&& (16 : Int32)) = (0 : Int32) then false else true); (let z64 : List Int32 := [(f1 z2 p1), (f1 z5 p2), (f1 z8 p3), (f1 z11 p4), (f1 z14 p5)]; (let z94 : List Int32 := [(b2i z21), (b2i z25), (b2i z29), (b2i z33), (b2i z37)]; (let z135 : List Int64 := (g2_1 z2 z21 (0 : Int32) (1 : Int32) [(0 : Int64), (0 : Int64), (0 : Int64)]); let z137 : Int32 := (g2_2 z2 z21 (0 : Int32) (1 : Int32) [(0 : Int64), (0 : Int64), (0 : Int64)]); let z138 : Int32 := (g2_3 z2 z21 (0 : Int32) (1 : Int32) [(0 : Int64), (0 : Int64), (0 : Int64)]); (let z148 : List Int64 := (g2_1 z5 z25 z137 z138 z135); let z150 : Int32 := (g2_2 z5 z25 z137 z138 z135); let z151 : Int32 := (g2_3 z5 z25 z137 z138 z135); (let z161 : List Int64 := (g2_1 z8 z29 z150 z151 z148); let z163 : Int32 := (g2_2 z8 z29 z150 z151 z148); let z164 : Int32 := (g2_3 z8 z29 z150 z151 z148); (let z174 : List Int64 := (g2_1 z11 z33 z163 z164 z161); let z176 : Int32 := (g2_2 z11 z33 z163 z164 z161); let z177 : Int32 := (g2_3 z11 z33 z163 z164 z161); (let z187 : List Int64 := (g2_1 z14 z37 z176 z177 z174); let z189 : Int32 := (g2_2 z14 z37 z176 z177 z174); let z190 : Int32 := (g2_3 z14 z37 z176 z177 z174); (let z277 : List Int64 := (own_bitsr z94 (own_pkr z64).2.1 (own_pkr z64).2.2.1 (own_pkr z64).2.2.2 (own_pkr z64).1); (if (List.length z277).toInt32 = z190 then (let z287 : Bool := (if (f8 (0 : Int32) z277 z187 ((List.length z277).toInt32)) = true then (if (f8 (1 : Int32) z277 z187 ((List.length z277).toInt32)) = true then (if (f8 (2 : Int32) z277 z187 ((List.length z277).toInt32)) = true then true else false) else false) else false); z287) else false))))))))))))) := by subst hz21; exact r18
                show Go p.tables e below (P0 Z p0 p1 p2 p3 p4 p5 h0 n0 s) (s₁.setTop (mkF m 70 #[.val (.long p0), .second, .val (.int p1), .val (.int p2), .val (.int p3), .val (.int p4), .val (.int p5), .val (.int z2), .val (.int z5), .val (.int z8), .val (.int z11), .val (.int z14), .val (.int z17), .unset, .unset, .unset, .unset, .unset, .unset, .unset, .unset, .unset, .unset] [(.int (b2i z21))]))
                refine Go.back (fun t k => XS.istore X0.here hx rfl (hb hby at_70) rfl (l' := #[.val (.long p0), .second, .val (.int p1), .val (.int p2), .val (.int p3), .val (.int p4), .val (.int p5), .val (.int z2), .val (.int z5), .val (.int z8), .val (.int z11), .val (.int z14), .val (.int z17), .val (.int (b2i z21)), .unset, .unset, .unset, .unset, .unset, .unset, .unset, .unset, .unset]) rfl k) ?_
                show Go p.tables e below (P0 Z p0 p1 p2 p3 p4 p5 h0 n0 s) (s₁.setTop (mkF m 72 #[.val (.long p0), .second, .val (.int p1), .val (.int p2), .val (.int p3), .val (.int p4), .val (.int p5), .val (.int z2), .val (.int z5), .val (.int z8), .val (.int z11), .val (.int z14), .val (.int z17), .val (.int (b2i z21)), .unset, .unset, .unset, .unset, .unset, .unset, .unset, .unset, .unset] []))
                refine Go.back (fun t k => XS.iload X0.here hx rfl (hb hby at_72) rfl  k) ?_
                show Go p.tables e below (P0 Z p0 p1 p2 p3 p4 p5 h0 n0 s) (s₁.setTop (mkF m 74 #[.val (.long p0), .second, .val (.int p1), .val (.int p2), .val (.int p3), .val (.int p4), .val (.int p5), .val (.int z2), .val (.int z5), .val (.int z8), .val (.int z11), .val (.int z14), .val (.int z17), .val (.int (b2i z21)), .unset, .unset, .unset, .unset, .unset, .unset, .unset, .unset, .unset] [(.int z17)]))
                refine Go.back (fun t k => XS.iconst X0.here hx rfl (hb hby at_74) k) ?_
                show Go p.tables e below (P0 Z p0 p1 p2 p3 p4 p5 h0 n0 s) (s₁.setTop (mkF m 75 #[.val (.long p0), .second, .val (.int p1), .val (.int p2), .val (.int p3), .val (.int p4), .val (.int p5), .val (.int z2), .val (.int z5), .val (.int z8), .val (.int z11), .val (.int z14), .val (.int z17), .val (.int (b2i z21)), .unset, .unset, .unset, .unset, .unset, .unset, .unset, .unset, .unset] [(.int (2 : Int32)), (.int z17)]))
                refine Go.back (fun t k => XS.iand X0.here hx rfl (hb hby at_75) rfl k) ?_
                show Go p.tables e below (P0 Z p0 p1 p2 p3 p4 p5 h0 n0 s) (s₁.setTop (mkF m 76 #[.val (.long p0), .second, .val (.int p1), .val (.int p2), .val (.int p3), .val (.int p4), .val (.int p5), .val (.int z2), .val (.int z5), .val (.int z8), .val (.int z11), .val (.int z14), .val (.int z17), .val (.int (b2i z21)), .unset, .unset, .unset, .unset, .unset, .unset, .unset, .unset, .unset] [(.int (z17 &&& (2 : Int32)))]))
                have J24 : ∀ (z25 : Bool) (hz25 : z25 = (if (z17 &&& (2 : Int32)) = (0 : Int32) then false else true)), Go p.tables e below (P0 Z p0 p1 p2 p3 p4 p5 h0 n0 s) (s₁.setTop (mkF m 84 #[.val (.long p0), .second, .val (.int p1), .val (.int p2), .val (.int p3), .val (.int p4), .val (.int p5), .val (.int z2), .val (.int z5), .val (.int z8), .val (.int z11), .val (.int z14), .val (.int z17), .val (.int (b2i z21)), .unset, .unset, .unset, .unset, .unset, .unset, .unset, .unset, .unset] [(.int (b2i z25))])) := by
                  intro z25 hz25
                  have r26 : f0 p0 p1 p2 p3 p4 p5 = (let z29 : Bool := (if (z17 &&& (4 : Int32)) = (0 : Int32) then false else true); (let z33 : Bool := (if (z17 &&& (8 : Int32)) = (0 : Int32) then false else true); (let z37 : Bool := (if (z17 &&& (16 : Int32)) = (0 : Int32) then false else true); (let z64 : List Int32 := [(f1 z2 p1), (f1 z5 p2), (f1 z8 p3), (f1 z11 p4), (f1 z14 p5)]; (let z94 : List Int32 := [(b2i z21), (b2i z25), (b2i z29), (b2i z33), (b2i z37)]; (let z135 : List Int64 := (g2_1 z2 z21 (0 : Int32) (1 : Int32) [(0 : Int64), (0 : Int64), (0 : Int64)]); let z137 : Int32 := (g2_2 z2 z21 (0 : Int32) (1 : Int32) [(0 : Int64), (0 : Int64), (0 : Int64)]); let z138 : Int32 := (g2_3 z2 z21 (0 : Int32) (1 : Int32) [(0 : Int64), (0 : Int64), (0 : Int64)]); (let z148 : List Int64 := (g2_1 z5 z25 z137 z138 z135); let z150 : Int32 := (g2_2 z5 z25 z137 z138 z135); let z151 : Int32 := (g2_3 z5 z25 z137 z138 z135); (let z161 : List Int64 := (g2_1 z8 z29 z150 z151 z148); let z163 : Int32 := (g2_2 z8 z29 z150 z151 z148); let z164 : Int32 := (g2_3 z8 z29 z150 z151 z148); (let z174 : List Int64 := (g2_1 z11 z33 z163 z164 z161); let z176 : Int32 := (g2_2 z11 z33 z163 z164 z161); let z177 : Int32 := (g2_3 z11 z33 z163 z164 z161); (let z187 : List Int64 := (g2_1 z14 z37 z176 z177 z174); let z189 : Int32 := (g2_2 z14 z37 z176 z177 z174); let z190 : Int32 := (g2_3 z14 z37 z176 z177 z174); (let z277 : List Int64 := (own_bitsr z94 (own_pkr z64).2.1 (own_pkr z64).2.2.1 (own_pkr z64).2.2.2 (own_pkr z64).1); (if (List.length z277).toInt32 = z190 then (let z287 : Bool := (if (f8 (0 : Int32) z277 z187 ((List.length z277).toInt32)) = true then (if (f8 (1 : Int32) z277 z187 ((List.length z277).toInt32)) = true then (if (f8 (2 : Int32) z277 z187 ((List.length z277).toInt32)) = true then true else false) else false) else false); z287) else false)))))))))))) := by subst hz25; exact r22
                  show Go p.tables e below (P0 Z p0 p1 p2 p3 p4 p5 h0 n0 s) (s₁.setTop (mkF m 84 #[.val (.long p0), .second, .val (.int p1), .val (.int p2), .val (.int p3), .val (.int p4), .val (.int p5), .val (.int z2), .val (.int z5), .val (.int z8), .val (.int z11), .val (.int z14), .val (.int z17), .val (.int (b2i z21)), .unset, .unset, .unset, .unset, .unset, .unset, .unset, .unset, .unset] [(.int (b2i z25))]))
                  refine Go.back (fun t k => XS.istore X0.here hx rfl (hb hby at_84) rfl (l' := #[.val (.long p0), .second, .val (.int p1), .val (.int p2), .val (.int p3), .val (.int p4), .val (.int p5), .val (.int z2), .val (.int z5), .val (.int z8), .val (.int z11), .val (.int z14), .val (.int z17), .val (.int (b2i z21)), .val (.int (b2i z25)), .unset, .unset, .unset, .unset, .unset, .unset, .unset, .unset]) rfl k) ?_
                  show Go p.tables e below (P0 Z p0 p1 p2 p3 p4 p5 h0 n0 s) (s₁.setTop (mkF m 86 #[.val (.long p0), .second, .val (.int p1), .val (.int p2), .val (.int p3), .val (.int p4), .val (.int p5), .val (.int z2), .val (.int z5), .val (.int z8), .val (.int z11), .val (.int z14), .val (.int z17), .val (.int (b2i z21)), .val (.int (b2i z25)), .unset, .unset, .unset, .unset, .unset, .unset, .unset, .unset] []))
                  refine Go.back (fun t k => XS.iload X0.here hx rfl (hb hby at_86) rfl  k) ?_
                  show Go p.tables e below (P0 Z p0 p1 p2 p3 p4 p5 h0 n0 s) (s₁.setTop (mkF m 88 #[.val (.long p0), .second, .val (.int p1), .val (.int p2), .val (.int p3), .val (.int p4), .val (.int p5), .val (.int z2), .val (.int z5), .val (.int z8), .val (.int z11), .val (.int z14), .val (.int z17), .val (.int (b2i z21)), .val (.int (b2i z25)), .unset, .unset, .unset, .unset, .unset, .unset, .unset, .unset] [(.int z17)]))
                  refine Go.back (fun t k => XS.iconst X0.here hx rfl (hb hby at_88) k) ?_
                  show Go p.tables e below (P0 Z p0 p1 p2 p3 p4 p5 h0 n0 s) (s₁.setTop (mkF m 89 #[.val (.long p0), .second, .val (.int p1), .val (.int p2), .val (.int p3), .val (.int p4), .val (.int p5), .val (.int z2), .val (.int z5), .val (.int z8), .val (.int z11), .val (.int z14), .val (.int z17), .val (.int (b2i z21)), .val (.int (b2i z25)), .unset, .unset, .unset, .unset, .unset, .unset, .unset, .unset] [(.int (4 : Int32)), (.int z17)]))
                  refine Go.back (fun t k => XS.iand X0.here hx rfl (hb hby at_89) rfl k) ?_
                  show Go p.tables e below (P0 Z p0 p1 p2 p3 p4 p5 h0 n0 s) (s₁.setTop (mkF m 90 #[.val (.long p0), .second, .val (.int p1), .val (.int p2), .val (.int p3), .val (.int p4), .val (.int p5), .val (.int z2), .val (.int z5), .val (.int z8), .val (.int z11), .val (.int z14), .val (.int z17), .val (.int (b2i z21)), .val (.int (b2i z25)), .unset, .unset, .unset, .unset, .unset, .unset, .unset, .unset] [(.int (z17 &&& (4 : Int32)))]))
                  have J28 : ∀ (z29 : Bool) (hz29 : z29 = (if (z17 &&& (4 : Int32)) = (0 : Int32) then false else true)), Go p.tables e below (P0 Z p0 p1 p2 p3 p4 p5 h0 n0 s) (s₁.setTop (mkF m 98 #[.val (.long p0), .second, .val (.int p1), .val (.int p2), .val (.int p3), .val (.int p4), .val (.int p5), .val (.int z2), .val (.int z5), .val (.int z8), .val (.int z11), .val (.int z14), .val (.int z17), .val (.int (b2i z21)), .val (.int (b2i z25)), .unset, .unset, .unset, .unset, .unset, .unset, .unset, .unset] [(.int (b2i z29))])) := by
                    intro z29 hz29
                    have r30 : f0 p0 p1 p2 p3 p4 p5 = (let z33 : Bool := (if (z17 &&& (8 : Int32)) = (0 : Int32) then false else true); (let z37 : Bool := (if (z17 &&& (16 : Int32)) = (0 : Int32) then false else true); (let z64 : List Int32 := [(f1 z2 p1), (f1 z5 p2), (f1 z8 p3), (f1 z11 p4), (f1 z14 p5)]; (let z94 : List Int32 := [(b2i z21), (b2i z25), (b2i z29), (b2i z33), (b2i z37)]; (let z135 : List Int64 := (g2_1 z2 z21 (0 : Int32) (1 : Int32) [(0 : Int64), (0 : Int64), (0 : Int64)]); let z137 : Int32 := (g2_2 z2 z21 (0 : Int32) (1 : Int32) [(0 : Int64), (0 : Int64), (0 : Int64)]); let z138 : Int32 := (g2_3 z2 z21 (0 : Int32) (1 : Int32) [(0 : Int64), (0 : Int64), (0 : Int64)]); (let z148 : List Int64 := (g2_1 z5 z25 z137 z138 z135); let z150 : Int32 := (g2_2 z5 z25 z137 z138 z135); let z151 : Int32 := (g2_3 z5 z25 z137 z138 z135); (let z161 : List Int64 := (g2_1 z8 z29 z150 z151 z148); let z163 : Int32 := (g2_2 z8 z29 z150 z151 z148); let z164 : Int32 := (g2_3 z8 z29 z150 z151 z148); (let z174 : List Int64 := (g2_1 z11 z33 z163 z164 z161); let z176 : Int32 := (g2_2 z11 z33 z163 z164 z161); let z177 : Int32 := (g2_3 z11 z33 z163 z164 z161); (let z187 : List Int64 := (g2_1 z14 z37 z176 z177 z174); let z189 : Int32 := (g2_2 z14 z37 z176 z177 z174); let z190 : Int32 := (g2_3 z14 z37 z176 z177 z174); (let z277 : List Int64 := (own_bitsr z94 (own_pkr z64).2.1 (own_pkr z64).2.2.1 (own_pkr z64).2.2.2 (own_pkr z64).1); (if (List.length z277).toInt32 = z190 then (let z287 : Bool := (if (f8 (0 : Int32) z277 z187 ((List.length z277).toInt32)) = true then (if (f8 (1 : Int32) z277 z187 ((List.length z277).toInt32)) = true then (if (f8 (2 : Int32) z277 z187 ((List.length z277).toInt32)) = true then true else false) else false) else false); z287) else false))))))))))) := by subst hz29; exact r26
                    show Go p.tables e below (P0 Z p0 p1 p2 p3 p4 p5 h0 n0 s) (s₁.setTop (mkF m 98 #[.val (.long p0), .second, .val (.int p1), .val (.int p2), .val (.int p3), .val (.int p4), .val (.int p5), .val (.int z2), .val (.int z5), .val (.int z8), .val (.int z11), .val (.int z14), .val (.int z17), .val (.int (b2i z21)), .val (.int (b2i z25)), .unset, .unset, .unset, .unset, .unset, .unset, .unset, .unset] [(.int (b2i z29))]))
                    refine Go.back (fun t k => XS.istore X0.here hx rfl (hb hby at_98) rfl (l' := #[.val (.long p0), .second, .val (.int p1), .val (.int p2), .val (.int p3), .val (.int p4), .val (.int p5), .val (.int z2), .val (.int z5), .val (.int z8), .val (.int z11), .val (.int z14), .val (.int z17), .val (.int (b2i z21)), .val (.int (b2i z25)), .val (.int (b2i z29)), .unset, .unset, .unset, .unset, .unset, .unset, .unset]) rfl k) ?_
                    show Go p.tables e below (P0 Z p0 p1 p2 p3 p4 p5 h0 n0 s) (s₁.setTop (mkF m 100 #[.val (.long p0), .second, .val (.int p1), .val (.int p2), .val (.int p3), .val (.int p4), .val (.int p5), .val (.int z2), .val (.int z5), .val (.int z8), .val (.int z11), .val (.int z14), .val (.int z17), .val (.int (b2i z21)), .val (.int (b2i z25)), .val (.int (b2i z29)), .unset, .unset, .unset, .unset, .unset, .unset, .unset] []))
                    refine Go.back (fun t k => XS.iload X0.here hx rfl (hb hby at_100) rfl  k) ?_
                    show Go p.tables e below (P0 Z p0 p1 p2 p3 p4 p5 h0 n0 s) (s₁.setTop (mkF m 102 #[.val (.long p0), .second, .val (.int p1), .val (.int p2), .val (.int p3), .val (.int p4), .val (.int p5), .val (.int z2), .val (.int z5), .val (.int z8), .val (.int z11), .val (.int z14), .val (.int z17), .val (.int (b2i z21)), .val (.int (b2i z25)), .val (.int (b2i z29)), .unset, .unset, .unset, .unset, .unset, .unset, .unset] [(.int z17)]))
                    refine Go.back (fun t k => XS.bipush X0.here hx rfl (hb hby at_102) k) ?_
                    show Go p.tables e below (P0 Z p0 p1 p2 p3 p4 p5 h0 n0 s) (s₁.setTop (mkF m 104 #[.val (.long p0), .second, .val (.int p1), .val (.int p2), .val (.int p3), .val (.int p4), .val (.int p5), .val (.int z2), .val (.int z5), .val (.int z8), .val (.int z11), .val (.int z14), .val (.int z17), .val (.int (b2i z21)), .val (.int (b2i z25)), .val (.int (b2i z29)), .unset, .unset, .unset, .unset, .unset, .unset, .unset] [(.int (8 : Int32)), (.int z17)]))
                    refine Go.back (fun t k => XS.iand X0.here hx rfl (hb hby at_104) rfl k) ?_
                    show Go p.tables e below (P0 Z p0 p1 p2 p3 p4 p5 h0 n0 s) (s₁.setTop (mkF m 105 #[.val (.long p0), .second, .val (.int p1), .val (.int p2), .val (.int p3), .val (.int p4), .val (.int p5), .val (.int z2), .val (.int z5), .val (.int z8), .val (.int z11), .val (.int z14), .val (.int z17), .val (.int (b2i z21)), .val (.int (b2i z25)), .val (.int (b2i z29)), .unset, .unset, .unset, .unset, .unset, .unset, .unset] [(.int (z17 &&& (8 : Int32)))]))
                    have J32 : ∀ (z33 : Bool) (hz33 : z33 = (if (z17 &&& (8 : Int32)) = (0 : Int32) then false else true)), Go p.tables e below (P0 Z p0 p1 p2 p3 p4 p5 h0 n0 s) (s₁.setTop (mkF m 113 #[.val (.long p0), .second, .val (.int p1), .val (.int p2), .val (.int p3), .val (.int p4), .val (.int p5), .val (.int z2), .val (.int z5), .val (.int z8), .val (.int z11), .val (.int z14), .val (.int z17), .val (.int (b2i z21)), .val (.int (b2i z25)), .val (.int (b2i z29)), .unset, .unset, .unset, .unset, .unset, .unset, .unset] [(.int (b2i z33))])) := by
                      intro z33 hz33
                      have r34 : f0 p0 p1 p2 p3 p4 p5 = (let z37 : Bool := (if (z17 &&& (16 : Int32)) = (0 : Int32) then false else true); (let z64 : List Int32 := [(f1 z2 p1), (f1 z5 p2), (f1 z8 p3), (f1 z11 p4), (f1 z14 p5)]; (let z94 : List Int32 := [(b2i z21), (b2i z25), (b2i z29), (b2i z33), (b2i z37)]; (let z135 : List Int64 := (g2_1 z2 z21 (0 : Int32) (1 : Int32) [(0 : Int64), (0 : Int64), (0 : Int64)]); let z137 : Int32 := (g2_2 z2 z21 (0 : Int32) (1 : Int32) [(0 : Int64), (0 : Int64), (0 : Int64)]); let z138 : Int32 := (g2_3 z2 z21 (0 : Int32) (1 : Int32) [(0 : Int64), (0 : Int64), (0 : Int64)]); (let z148 : List Int64 := (g2_1 z5 z25 z137 z138 z135); let z150 : Int32 := (g2_2 z5 z25 z137 z138 z135); let z151 : Int32 := (g2_3 z5 z25 z137 z138 z135); (let z161 : List Int64 := (g2_1 z8 z29 z150 z151 z148); let z163 : Int32 := (g2_2 z8 z29 z150 z151 z148); let z164 : Int32 := (g2_3 z8 z29 z150 z151 z148); (let z174 : List Int64 := (g2_1 z11 z33 z163 z164 z161); let z176 : Int32 := (g2_2 z11 z33 z163 z164 z161); let z177 : Int32 := (g2_3 z11 z33 z163 z164 z161); (let z187 : List Int64 := (g2_1 z14 z37 z176 z177 z174); let z189 : Int32 := (g2_2 z14 z37 z176 z177 z174); let z190 : Int32 := (g2_3 z14 z37 z176 z177 z174); (let z277 : List Int64 := (own_bitsr z94 (own_pkr z64).2.1 (own_pkr z64).2.2.1 (own_pkr z64).2.2.2 (own_pkr z64).1); (if (List.length z277).toInt32 = z190 then (let z287 : Bool := (if (f8 (0 : Int32) z277 z187 ((List.length z277).toInt32)) = true then (if (f8 (1 : Int32) z277 z187 ((List.length z277).toInt32)) = true then (if (f8 (2 : Int32) z277 z187 ((List.length z277).toInt32)) = true then true else false) else false) else false); z287) else false)))))))))) := by subst hz33; exact r30
                      show Go p.tables e below (P0 Z p0 p1 p2 p3 p4 p5 h0 n0 s) (s₁.setTop (mkF m 113 #[.val (.long p0), .second, .val (.int p1), .val (.int p2), .val (.int p3), .val (.int p4), .val (.int p5), .val (.int z2), .val (.int z5), .val (.int z8), .val (.int z11), .val (.int z14), .val (.int z17), .val (.int (b2i z21)), .val (.int (b2i z25)), .val (.int (b2i z29)), .unset, .unset, .unset, .unset, .unset, .unset, .unset] [(.int (b2i z33))]))
                      refine Go.back (fun t k => XS.istore X0.here hx rfl (hb hby at_113) rfl (l' := #[.val (.long p0), .second, .val (.int p1), .val (.int p2), .val (.int p3), .val (.int p4), .val (.int p5), .val (.int z2), .val (.int z5), .val (.int z8), .val (.int z11), .val (.int z14), .val (.int z17), .val (.int (b2i z21)), .val (.int (b2i z25)), .val (.int (b2i z29)), .val (.int (b2i z33)), .unset, .unset, .unset, .unset, .unset, .unset]) rfl k) ?_
                      show Go p.tables e below (P0 Z p0 p1 p2 p3 p4 p5 h0 n0 s) (s₁.setTop (mkF m 115 #[.val (.long p0), .second, .val (.int p1), .val (.int p2), .val (.int p3), .val (.int p4), .val (.int p5), .val (.int z2), .val (.int z5), .val (.int z8), .val (.int z11), .val (.int z14), .val (.int z17), .val (.int (b2i z21)), .val (.int (b2i z25)), .val (.int (b2i z29)), .val (.int (b2i z33)), .unset, .unset, .unset, .unset, .unset, .unset] []))
                      refine Go.back (fun t k => XS.iload X0.here hx rfl (hb hby at_115) rfl  k) ?_
                      show Go p.tables e below (P0 Z p0 p1 p2 p3 p4 p5 h0 n0 s) (s₁.setTop (mkF m 117 #[.val (.long p0), .second, .val (.int p1), .val (.int p2), .val (.int p3), .val (.int p4), .val (.int p5), .val (.int z2), .val (.int z5), .val (.int z8), .val (.int z11), .val (.int z14), .val (.int z17), .val (.int (b2i z21)), .val (.int (b2i z25)), .val (.int (b2i z29)), .val (.int (b2i z33)), .unset, .unset, .unset, .unset, .unset, .unset] [(.int z17)]))
                      refine Go.back (fun t k => XS.bipush X0.here hx rfl (hb hby at_117) k) ?_
                      show Go p.tables e below (P0 Z p0 p1 p2 p3 p4 p5 h0 n0 s) (s₁.setTop (mkF m 119 #[.val (.long p0), .second, .val (.int p1), .val (.int p2), .val (.int p3), .val (.int p4), .val (.int p5), .val (.int z2), .val (.int z5), .val (.int z8), .val (.int z11), .val (.int z14), .val (.int z17), .val (.int (b2i z21)), .val (.int (b2i z25)), .val (.int (b2i z29)), .val (.int (b2i z33)), .unset, .unset, .unset, .unset, .unset, .unset] [(.int (16 : Int32)), (.int z17)]))
                      refine Go.back (fun t k => XS.iand X0.here hx rfl (hb hby at_119) rfl k) ?_
                      show Go p.tables e below (P0 Z p0 p1 p2 p3 p4 p5 h0 n0 s) (s₁.setTop (mkF m 120 #[.val (.long p0), .second, .val (.int p1), .val (.int p2), .val (.int p3), .val (.int p4), .val (.int p5), .val (.int z2), .val (.int z5), .val (.int z8), .val (.int z11), .val (.int z14), .val (.int z17), .val (.int (b2i z21)), .val (.int (b2i z25)), .val (.int (b2i z29)), .val (.int (b2i z33)), .unset, .unset, .unset, .unset, .unset, .unset] [(.int (z17 &&& (16 : Int32)))]))
                      have J36 : ∀ (z37 : Bool) (hz37 : z37 = (if (z17 &&& (16 : Int32)) = (0 : Int32) then false else true)), Go p.tables e below (P0 Z p0 p1 p2 p3 p4 p5 h0 n0 s) (s₁.setTop (mkF m 128 #[.val (.long p0), .second, .val (.int p1), .val (.int p2), .val (.int p3), .val (.int p4), .val (.int p5), .val (.int z2), .val (.int z5), .val (.int z8), .val (.int z11), .val (.int z14), .val (.int z17), .val (.int (b2i z21)), .val (.int (b2i z25)), .val (.int (b2i z29)), .val (.int (b2i z33)), .unset, .unset, .unset, .unset, .unset, .unset] [(.int (b2i z37))])) := by
                        intro z37 hz37
                        have r38 : f0 p0 p1 p2 p3 p4 p5 = (let z64 : List Int32 := [(f1 z2 p1), (f1 z5 p2), (f1 z8 p3), (f1 z11 p4), (f1 z14 p5)]; (let z94 : List Int32 := [(b2i z21), (b2i z25), (b2i z29), (b2i z33), (b2i z37)]; (let z135 : List Int64 := (g2_1 z2 z21 (0 : Int32) (1 : Int32) [(0 : Int64), (0 : Int64), (0 : Int64)]); let z137 : Int32 := (g2_2 z2 z21 (0 : Int32) (1 : Int32) [(0 : Int64), (0 : Int64), (0 : Int64)]); let z138 : Int32 := (g2_3 z2 z21 (0 : Int32) (1 : Int32) [(0 : Int64), (0 : Int64), (0 : Int64)]); (let z148 : List Int64 := (g2_1 z5 z25 z137 z138 z135); let z150 : Int32 := (g2_2 z5 z25 z137 z138 z135); let z151 : Int32 := (g2_3 z5 z25 z137 z138 z135); (let z161 : List Int64 := (g2_1 z8 z29 z150 z151 z148); let z163 : Int32 := (g2_2 z8 z29 z150 z151 z148); let z164 : Int32 := (g2_3 z8 z29 z150 z151 z148); (let z174 : List Int64 := (g2_1 z11 z33 z163 z164 z161); let z176 : Int32 := (g2_2 z11 z33 z163 z164 z161); let z177 : Int32 := (g2_3 z11 z33 z163 z164 z161); (let z187 : List Int64 := (g2_1 z14 z37 z176 z177 z174); let z189 : Int32 := (g2_2 z14 z37 z176 z177 z174); let z190 : Int32 := (g2_3 z14 z37 z176 z177 z174); (let z277 : List Int64 := (own_bitsr z94 (own_pkr z64).2.1 (own_pkr z64).2.2.1 (own_pkr z64).2.2.2 (own_pkr z64).1); (if (List.length z277).toInt32 = z190 then (let z287 : Bool := (if (f8 (0 : Int32) z277 z187 ((List.length z277).toInt32)) = true then (if (f8 (1 : Int32) z277 z187 ((List.length z277).toInt32)) = true then (if (f8 (2 : Int32) z277 z187 ((List.length z277).toInt32)) = true then true else false) else false) else false); z287) else false))))))))) := by subst hz37; exact r34
                        show Go p.tables e below (P0 Z p0 p1 p2 p3 p4 p5 h0 n0 s) (s₁.setTop (mkF m 128 #[.val (.long p0), .second, .val (.int p1), .val (.int p2), .val (.int p3), .val (.int p4), .val (.int p5), .val (.int z2), .val (.int z5), .val (.int z8), .val (.int z11), .val (.int z14), .val (.int z17), .val (.int (b2i z21)), .val (.int (b2i z25)), .val (.int (b2i z29)), .val (.int (b2i z33)), .unset, .unset, .unset, .unset, .unset, .unset] [(.int (b2i z37))]))
                        refine Go.back (fun t k => XS.istore X0.here hx rfl (hb hby at_128) rfl (l' := #[.val (.long p0), .second, .val (.int p1), .val (.int p2), .val (.int p3), .val (.int p4), .val (.int p5), .val (.int z2), .val (.int z5), .val (.int z8), .val (.int z11), .val (.int z14), .val (.int z17), .val (.int (b2i z21)), .val (.int (b2i z25)), .val (.int (b2i z29)), .val (.int (b2i z33)), .val (.int (b2i z37)), .unset, .unset, .unset, .unset, .unset]) rfl k) ?_
                        show Go p.tables e below (P0 Z p0 p1 p2 p3 p4 p5 h0 n0 s) (s₁.setTop (mkF m 130 #[.val (.long p0), .second, .val (.int p1), .val (.int p2), .val (.int p3), .val (.int p4), .val (.int p5), .val (.int z2), .val (.int z5), .val (.int z8), .val (.int z11), .val (.int z14), .val (.int z17), .val (.int (b2i z21)), .val (.int (b2i z25)), .val (.int (b2i z29)), .val (.int (b2i z33)), .val (.int (b2i z37)), .unset, .unset, .unset, .unset, .unset] []))
                        refine Go.back (fun t k => XS.iconst X0.here hx rfl (hb hby at_130) k) ?_
                        show Go p.tables e below (P0 Z p0 p1 p2 p3 p4 p5 h0 n0 s) (s₁.setTop (mkF m 131 #[.val (.long p0), .second, .val (.int p1), .val (.int p2), .val (.int p3), .val (.int p4), .val (.int p5), .val (.int z2), .val (.int z5), .val (.int z8), .val (.int z11), .val (.int z14), .val (.int z17), .val (.int (b2i z21)), .val (.int (b2i z25)), .val (.int (b2i z29)), .val (.int (b2i z33)), .val (.int (b2i z37)), .unset, .unset, .unset, .unset, .unset] [(.int (5 : Int32))]))
                        obtain ⟨T39, h39, k39, X39, e39, E39, A39, st39⟩ := newP X0 hx hZ (hw _ (List.mem_of_getElem? (i := 1) rfl)) e0 (g := (mkF m 131 #[.val (.long p0), .second, .val (.int p1), .val (.int p2), .val (.int p3), .val (.int p4), .val (.int p5), .val (.int z2), .val (.int z5), .val (.int z8), .val (.int z11), .val (.int z14), .val (.int z17), .val (.int (b2i z21)), .val (.int (b2i z25)), .val (.int (b2i z29)), .val (.int (b2i z33)), .val (.int (b2i z37)), .unset, .unset, .unset, .unset, .unset] [(.int (5 : Int32))])) rfl (hb hby at_131) rfl (by decide) (cap := 5) (by decide) (by decide) (by decide) (by decide)
                        obtain ⟨b39, g39⟩ : ∃ z, z = h0.size := ⟨_, rfl⟩
                        rw [← g39] at A39 st39
                        have g40 : n0 ≤ b39 := Nat.le_trans Z0 (Nat.le_of_eq g39.symm)
                        have F41 : n0 ≤ h39.size := Nat.le_trans Z0 E39.1
                        have F42 : ArL Z h39 b39 .int [(.int (0 : Int32)), (.int (0 : Int32)), (.int (0 : Int32)), (.int (0 : Int32)), (.int (0 : Int32))] := ArL.new (ty := .int) A39 (n := 5) rfl
                        refine Go.back st39 ?_
                        show Go p.tables e below (P0 Z p0 p1 p2 p3 p4 p5 h0 n0 s) (T39.setTop (mkF m 133 #[.val (.long p0), .second, .val (.int p1), .val (.int p2), .val (.int p3), .val (.int p4), .val (.int p5), .val (.int z2), .val (.int z5), .val (.int z8), .val (.int z11), .val (.int z14), .val (.int z17), .val (.int (b2i z21)), .val (.int (b2i z25)), .val (.int (b2i z29)), .val (.int (b2i z33)), .val (.int (b2i z37)), .unset, .unset, .unset, .unset, .unset] [(.ref b39)]))
                        refine Go.back (fun t k => XS.dup X39.here hx rfl (hb hby at_133) rfl rfl k) ?_
                        show Go p.tables e below (P0 Z p0 p1 p2 p3 p4 p5 h0 n0 s) (T39.setTop (mkF m 134 #[.val (.long p0), .second, .val (.int p1), .val (.int p2), .val (.int p3), .val (.int p4), .val (.int p5), .val (.int z2), .val (.int z5), .val (.int z8), .val (.int z11), .val (.int z14), .val (.int z17), .val (.int (b2i z21)), .val (.int (b2i z25)), .val (.int (b2i z29)), .val (.int (b2i z33)), .val (.int (b2i z37)), .unset, .unset, .unset, .unset, .unset] [(.ref b39), (.ref b39)]))
                        refine Go.back (fun t k => XS.iconst X39.here hx rfl (hb hby at_134) k) ?_
                        show Go p.tables e below (P0 Z p0 p1 p2 p3 p4 p5 h0 n0 s) (T39.setTop (mkF m 135 #[.val (.long p0), .second, .val (.int p1), .val (.int p2), .val (.int p3), .val (.int p4), .val (.int p5), .val (.int z2), .val (.int z5), .val (.int z8), .val (.int z11), .val (.int z14), .val (.int z17), .val (.int (b2i z21)), .val (.int (b2i z25)), .val (.int (b2i z29)), .val (.int (b2i z33)), .val (.int (b2i z37)), .unset, .unset, .unset, .unset, .unset] [(.int (0 : Int32)), (.ref b39), (.ref b39)]))
                        refine Go.back (fun t k => XS.iload X39.here hx rfl (hb hby at_135) rfl  k) ?_
                        show Go p.tables e below (P0 Z p0 p1 p2 p3 p4 p5 h0 n0 s) (T39.setTop (mkF m 137 #[.val (.long p0), .second, .val (.int p1), .val (.int p2), .val (.int p3), .val (.int p4), .val (.int p5), .val (.int z2), .val (.int z5), .val (.int z8), .val (.int z11), .val (.int z14), .val (.int z17), .val (.int (b2i z21)), .val (.int (b2i z25)), .val (.int (b2i z29)), .val (.int (b2i z33)), .val (.int (b2i z37)), .unset, .unset, .unset, .unset, .unset] [(.int z2), (.int (0 : Int32)), (.ref b39), (.ref b39)]))
                        refine Go.back (fun t k => XS.iloadN X39.here hx rfl (hb hby at_137) rfl  k) ?_
                        show Go p.tables e below (P0 Z p0 p1 p2 p3 p4 p5 h0 n0 s) (T39.setTop (mkF m 138 #[.val (.long p0), .second, .val (.int p1), .val (.int p2), .val (.int p3), .val (.int p4), .val (.int p5), .val (.int z2), .val (.int z5), .val (.int z8), .val (.int z11), .val (.int z14), .val (.int z17), .val (.int (b2i z21)), .val (.int (b2i z25)), .val (.int (b2i z29)), .val (.int (b2i z33)), .val (.int (b2i z37)), .unset, .unset, .unset, .unset, .unset] [(.int p1), (.int z2), (.int (0 : Int32)), (.ref b39), (.ref b39)]))
                        obtain ⟨_, _, ⟨T43, L43, k43, n43⟩, -, X43, ⟨Lc43, hQ43, l43, y43, z43⟩, st43⟩ := Jvm.LawKit.callS X39 hx (y := (⟨"com/example/onward/onward/explore/PackingBitsOfPinLaw", "sizeFor", "(II)I"⟩ : MethodName)) hown (mvT hZ (hw _ (List.mem_of_getElem? (i := 2) rfl))) (mvT hZ (hw _ (List.mem_of_getElem? (i := 3) rfl))) (mvT hZ (hw _ (List.mem_of_getElem? (i := 4) rfl))) (mvT hZ (hw _ (List.mem_of_getElem? (i := 5) rfl))) (by decide) (backOf (W := 3) (rm1 l Z a0 hw [] z2 p1 h39 n0) hZ (hw _ (List.mem_of_getElem? (i := 5) rfl)) (hw _ (List.mem_of_getElem? (i := 4) rfl)) (by decide) (by decide)) (g := (mkF m 138 #[.val (.long p0), .second, .val (.int p1), .val (.int p2), .val (.int p3), .val (.int p4), .val (.int p5), .val (.int z2), .val (.int z5), .val (.int z8), .val (.int z11), .val (.int z14), .val (.int z17), .val (.int (b2i z21)), .val (.int (b2i z25)), .val (.int (b2i z29)), .val (.int (b2i z33)), .val (.int (b2i z37)), .unset, .unset, .unset, .unset, .unset] [(.int p1), (.int z2), (.int (0 : Int32)), (.ref b39), (.ref b39)])) rfl (by rw [hml]; rfl) (argsL := [(.int z2), (.int p1)]) (rest := [(.int (0 : Int32)), (.ref b39), (.ref b39)]) (lenOf pd_0 rfl) rfl (by show 2 * 0 + _ ≤ _; exact Nat.le_of_eq rfl) (hb hby at_138) (fun _ _ => ⟨rfl, e39, (by decide : 1 + 0 ≤ _), (by decide : 5 + 0 ≤ _)⟩)
                        dsimp only [Pt.U, Pt.locs, Pt.cells, Pt.slots] at X43 l43 y43 z43 st43 hQ43
                        subst l43 y43 z43
                        obtain ⟨rfl, N43q, e43⟩ := hQ43
                        obtain ⟨Lo43, Y43, N43⟩ := pk X43 (Fr.app N0 N43q)
                        refine Go.back st43 ?_
                        show Go p.tables e below (P0 Z p0 p1 p2 p3 p4 p5 h0 n0 s) (T43.setTop (mkF m 141 #[.val (.long p0), .second, .val (.int p1), .val (.int p2), .val (.int p3), .val (.int p4), .val (.int p5), .val (.int z2), .val (.int z5), .val (.int z8), .val (.int z11), .val (.int z14), .val (.int z17), .val (.int (b2i z21)), .val (.int (b2i z25)), .val (.int (b2i z29)), .val (.int (b2i z33)), .val (.int (b2i z37)), .unset, .unset, .unset, .unset, .unset] [(.int (f1 z2 p1)), (.int (0 : Int32)), (.ref b39), (.ref b39)]))
                        obtain ⟨cl44, Ar44, hi44, -⟩ := F42.at (j := (0 : Int32)) (by decide) (Nat.le_of_ble_eq_true rfl)
                        obtain ⟨T44, h44, X44, e44, W44, st44⟩ := stI Y43 hx hZ e43 Ar44 (j := (0 : Int32)) hi44 (g := (mkF m 141 #[.val (.long p0), .second, .val (.int p1), .val (.int p2), .val (.int p3), .val (.int p4), .val (.int p5), .val (.int z2), .val (.int z5), .val (.int z8), .val (.int z11), .val (.int z14), .val (.int z17), .val (.int (b2i z21)), .val (.int (b2i z25)), .val (.int (b2i z29)), .val (.int (b2i z33)), .val (.int (b2i z37)), .unset, .unset, .unset, .unset, .unset] [(.int (f1 z2 p1)), (.int (0 : Int32)), (.ref b39), (.ref b39)])) rfl rfl (hb hby at_141)
                        have F45 : n0 ≤ h44.size := Nat.le_trans F41 (Keep.of_wr W44).1
                        have F46 : ArL Z h44 b39 .int [(.int (f1 z2 p1)), (.int (0 : Int32)), (.int (0 : Int32)), (.int (0 : Int32)), (.int (0 : Int32))] := F42.set W44
                        obtain ⟨Lo44, Y44, N44⟩ := pk X44 (Fr.snoc X44 N43 g40)
                        refine Go.back st44 ?_
                        show Go p.tables e below (P0 Z p0 p1 p2 p3 p4 p5 h0 n0 s) (T44.setTop (mkF m 142 #[.val (.long p0), .second, .val (.int p1), .val (.int p2), .val (.int p3), .val (.int p4), .val (.int p5), .val (.int z2), .val (.int z5), .val (.int z8), .val (.int z11), .val (.int z14), .val (.int z17), .val (.int (b2i z21)), .val (.int (b2i z25)), .val (.int (b2i z29)), .val (.int (b2i z33)), .val (.int (b2i z37)), .unset, .unset, .unset, .unset, .unset] [(.ref b39)]))
                        refine Go.back (fun t k => XS.dup Y44.here hx rfl (hb hby at_142) rfl rfl k) ?_
                        show Go p.tables e below (P0 Z p0 p1 p2 p3 p4 p5 h0 n0 s) (T44.setTop (mkF m 143 #[.val (.long p0), .second, .val (.int p1), .val (.int p2), .val (.int p3), .val (.int p4), .val (.int p5), .val (.int z2), .val (.int z5), .val (.int z8), .val (.int z11), .val (.int z14), .val (.int z17), .val (.int (b2i z21)), .val (.int (b2i z25)), .val (.int (b2i z29)), .val (.int (b2i z33)), .val (.int (b2i z37)), .unset, .unset, .unset, .unset, .unset] [(.ref b39), (.ref b39)]))
                        refine Go.back (fun t k => XS.iconst Y44.here hx rfl (hb hby at_143) k) ?_
                        show Go p.tables e below (P0 Z p0 p1 p2 p3 p4 p5 h0 n0 s) (T44.setTop (mkF m 144 #[.val (.long p0), .second, .val (.int p1), .val (.int p2), .val (.int p3), .val (.int p4), .val (.int p5), .val (.int z2), .val (.int z5), .val (.int z8), .val (.int z11), .val (.int z14), .val (.int z17), .val (.int (b2i z21)), .val (.int (b2i z25)), .val (.int (b2i z29)), .val (.int (b2i z33)), .val (.int (b2i z37)), .unset, .unset, .unset, .unset, .unset] [(.int (1 : Int32)), (.ref b39), (.ref b39)]))
                        refine Go.back (fun t k => XS.iload Y44.here hx rfl (hb hby at_144) rfl  k) ?_
                        show Go p.tables e below (P0 Z p0 p1 p2 p3 p4 p5 h0 n0 s) (T44.setTop (mkF m 146 #[.val (.long p0), .second, .val (.int p1), .val (.int p2), .val (.int p3), .val (.int p4), .val (.int p5), .val (.int z2), .val (.int z5), .val (.int z8), .val (.int z11), .val (.int z14), .val (.int z17), .val (.int (b2i z21)), .val (.int (b2i z25)), .val (.int (b2i z29)), .val (.int (b2i z33)), .val (.int (b2i z37)), .unset, .unset, .unset, .unset, .unset] [(.int z5), (.int (1 : Int32)), (.ref b39), (.ref b39)]))
                        refine Go.back (fun t k => XS.iloadN Y44.here hx rfl (hb hby at_146) rfl  k) ?_
                        show Go p.tables e below (P0 Z p0 p1 p2 p3 p4 p5 h0 n0 s) (T44.setTop (mkF m 147 #[.val (.long p0), .second, .val (.int p1), .val (.int p2), .val (.int p3), .val (.int p4), .val (.int p5), .val (.int z2), .val (.int z5), .val (.int z8), .val (.int z11), .val (.int z14), .val (.int z17), .val (.int (b2i z21)), .val (.int (b2i z25)), .val (.int (b2i z29)), .val (.int (b2i z33)), .val (.int (b2i z37)), .unset, .unset, .unset, .unset, .unset] [(.int p2), (.int z5), (.int (1 : Int32)), (.ref b39), (.ref b39)]))
                        obtain ⟨_, _, ⟨T47, L47, k47, n47⟩, -, X47, ⟨Lc47, hQ47, l47, y47, z47⟩, st47⟩ := Jvm.LawKit.callS Y44 hx (y := (⟨"com/example/onward/onward/explore/PackingBitsOfPinLaw", "sizeFor", "(II)I"⟩ : MethodName)) hown (mvT hZ (hw _ (List.mem_of_getElem? (i := 2) rfl))) (mvT hZ (hw _ (List.mem_of_getElem? (i := 3) rfl))) (mvT hZ (hw _ (List.mem_of_getElem? (i := 4) rfl))) (mvT hZ (hw _ (List.mem_of_getElem? (i := 5) rfl))) (by decide) (backOf (W := 3) (rm1 l Z a0 hw [] z5 p2 h44 n0) hZ (hw _ (List.mem_of_getElem? (i := 5) rfl)) (hw _ (List.mem_of_getElem? (i := 4) rfl)) (by decide) (by decide)) (g := (mkF m 147 #[.val (.long p0), .second, .val (.int p1), .val (.int p2), .val (.int p3), .val (.int p4), .val (.int p5), .val (.int z2), .val (.int z5), .val (.int z8), .val (.int z11), .val (.int z14), .val (.int z17), .val (.int (b2i z21)), .val (.int (b2i z25)), .val (.int (b2i z29)), .val (.int (b2i z33)), .val (.int (b2i z37)), .unset, .unset, .unset, .unset, .unset] [(.int p2), (.int z5), (.int (1 : Int32)), (.ref b39), (.ref b39)])) rfl (by rw [hml]; rfl) (argsL := [(.int z5), (.int p2)]) (rest := [(.int (1 : Int32)), (.ref b39), (.ref b39)]) (lenOf pd_0 rfl) rfl (by show 2 * 0 + _ ≤ _; exact Nat.le_of_eq rfl) (hb hby at_147) (fun _ _ => ⟨rfl, e44, (by decide : 1 + 0 ≤ _), (by decide : 5 + 0 ≤ _)⟩)
                        dsimp only [Pt.U, Pt.locs, Pt.cells, Pt.slots] at X47 l47 y47 z47 st47 hQ47
                        subst l47 y47 z47
                        obtain ⟨rfl, N47q, e47⟩ := hQ47
                        obtain ⟨Lo47, Y47, N47⟩ := pk X47 (Fr.app N44 N47q)
                        refine Go.back st47 ?_
                        show Go p.tables e below (P0 Z p0 p1 p2 p3 p4 p5 h0 n0 s) (T47.setTop (mkF m 150 #[.val (.long p0), .second, .val (.int p1), .val (.int p2), .val (.int p3), .val (.int p4), .val (.int p5), .val (.int z2), .val (.int z5), .val (.int z8), .val (.int z11), .val (.int z14), .val (.int z17), .val (.int (b2i z21)), .val (.int (b2i z25)), .val (.int (b2i z29)), .val (.int (b2i z33)), .val (.int (b2i z37)), .unset, .unset, .unset, .unset, .unset] [(.int (f1 z5 p2)), (.int (1 : Int32)), (.ref b39), (.ref b39)]))
                        obtain ⟨cl48, Ar48, hi48, -⟩ := F46.at (j := (1 : Int32)) (by decide) (Nat.le_of_ble_eq_true rfl)
                        obtain ⟨T48, h48, X48, e48, W48, st48⟩ := stI Y47 hx hZ e47 Ar48 (j := (1 : Int32)) hi48 (g := (mkF m 150 #[.val (.long p0), .second, .val (.int p1), .val (.int p2), .val (.int p3), .val (.int p4), .val (.int p5), .val (.int z2), .val (.int z5), .val (.int z8), .val (.int z11), .val (.int z14), .val (.int z17), .val (.int (b2i z21)), .val (.int (b2i z25)), .val (.int (b2i z29)), .val (.int (b2i z33)), .val (.int (b2i z37)), .unset, .unset, .unset, .unset, .unset] [(.int (f1 z5 p2)), (.int (1 : Int32)), (.ref b39), (.ref b39)])) rfl rfl (hb hby at_150)
                        have F49 : n0 ≤ h48.size := Nat.le_trans F45 (Keep.of_wr W48).1
                        have F50 : ArL Z h48 b39 .int [(.int (f1 z2 p1)), (.int (f1 z5 p2)), (.int (0 : Int32)), (.int (0 : Int32)), (.int (0 : Int32))] := F46.set W48
                        obtain ⟨Lo48, Y48, N48⟩ := pk X48 (Fr.snoc X48 N47 g40)
                        refine Go.back st48 ?_
                        show Go p.tables e below (P0 Z p0 p1 p2 p3 p4 p5 h0 n0 s) (T48.setTop (mkF m 151 #[.val (.long p0), .second, .val (.int p1), .val (.int p2), .val (.int p3), .val (.int p4), .val (.int p5), .val (.int z2), .val (.int z5), .val (.int z8), .val (.int z11), .val (.int z14), .val (.int z17), .val (.int (b2i z21)), .val (.int (b2i z25)), .val (.int (b2i z29)), .val (.int (b2i z33)), .val (.int (b2i z37)), .unset, .unset, .unset, .unset, .unset] [(.ref b39)]))
                        refine Go.back (fun t k => XS.dup Y48.here hx rfl (hb hby at_151) rfl rfl k) ?_
                        show Go p.tables e below (P0 Z p0 p1 p2 p3 p4 p5 h0 n0 s) (T48.setTop (mkF m 152 #[.val (.long p0), .second, .val (.int p1), .val (.int p2), .val (.int p3), .val (.int p4), .val (.int p5), .val (.int z2), .val (.int z5), .val (.int z8), .val (.int z11), .val (.int z14), .val (.int z17), .val (.int (b2i z21)), .val (.int (b2i z25)), .val (.int (b2i z29)), .val (.int (b2i z33)), .val (.int (b2i z37)), .unset, .unset, .unset, .unset, .unset] [(.ref b39), (.ref b39)]))
                        refine Go.back (fun t k => XS.iconst Y48.here hx rfl (hb hby at_152) k) ?_
                        show Go p.tables e below (P0 Z p0 p1 p2 p3 p4 p5 h0 n0 s) (T48.setTop (mkF m 153 #[.val (.long p0), .second, .val (.int p1), .val (.int p2), .val (.int p3), .val (.int p4), .val (.int p5), .val (.int z2), .val (.int z5), .val (.int z8), .val (.int z11), .val (.int z14), .val (.int z17), .val (.int (b2i z21)), .val (.int (b2i z25)), .val (.int (b2i z29)), .val (.int (b2i z33)), .val (.int (b2i z37)), .unset, .unset, .unset, .unset, .unset] [(.int (2 : Int32)), (.ref b39), (.ref b39)]))
                        refine Go.back (fun t k => XS.iload Y48.here hx rfl (hb hby at_153) rfl  k) ?_
                        show Go p.tables e below (P0 Z p0 p1 p2 p3 p4 p5 h0 n0 s) (T48.setTop (mkF m 155 #[.val (.long p0), .second, .val (.int p1), .val (.int p2), .val (.int p3), .val (.int p4), .val (.int p5), .val (.int z2), .val (.int z5), .val (.int z8), .val (.int z11), .val (.int z14), .val (.int z17), .val (.int (b2i z21)), .val (.int (b2i z25)), .val (.int (b2i z29)), .val (.int (b2i z33)), .val (.int (b2i z37)), .unset, .unset, .unset, .unset, .unset] [(.int z8), (.int (2 : Int32)), (.ref b39), (.ref b39)]))
                        refine Go.back (fun t k => XS.iload Y48.here hx rfl (hb hby at_155) rfl  k) ?_
                        show Go p.tables e below (P0 Z p0 p1 p2 p3 p4 p5 h0 n0 s) (T48.setTop (mkF m 157 #[.val (.long p0), .second, .val (.int p1), .val (.int p2), .val (.int p3), .val (.int p4), .val (.int p5), .val (.int z2), .val (.int z5), .val (.int z8), .val (.int z11), .val (.int z14), .val (.int z17), .val (.int (b2i z21)), .val (.int (b2i z25)), .val (.int (b2i z29)), .val (.int (b2i z33)), .val (.int (b2i z37)), .unset, .unset, .unset, .unset, .unset] [(.int p3), (.int z8), (.int (2 : Int32)), (.ref b39), (.ref b39)]))
                        obtain ⟨_, _, ⟨T51, L51, k51, n51⟩, -, X51, ⟨Lc51, hQ51, l51, y51, z51⟩, st51⟩ := Jvm.LawKit.callS Y48 hx (y := (⟨"com/example/onward/onward/explore/PackingBitsOfPinLaw", "sizeFor", "(II)I"⟩ : MethodName)) hown (mvT hZ (hw _ (List.mem_of_getElem? (i := 2) rfl))) (mvT hZ (hw _ (List.mem_of_getElem? (i := 3) rfl))) (mvT hZ (hw _ (List.mem_of_getElem? (i := 4) rfl))) (mvT hZ (hw _ (List.mem_of_getElem? (i := 5) rfl))) (by decide) (backOf (W := 3) (rm1 l Z a0 hw [] z8 p3 h48 n0) hZ (hw _ (List.mem_of_getElem? (i := 5) rfl)) (hw _ (List.mem_of_getElem? (i := 4) rfl)) (by decide) (by decide)) (g := (mkF m 157 #[.val (.long p0), .second, .val (.int p1), .val (.int p2), .val (.int p3), .val (.int p4), .val (.int p5), .val (.int z2), .val (.int z5), .val (.int z8), .val (.int z11), .val (.int z14), .val (.int z17), .val (.int (b2i z21)), .val (.int (b2i z25)), .val (.int (b2i z29)), .val (.int (b2i z33)), .val (.int (b2i z37)), .unset, .unset, .unset, .unset, .unset] [(.int p3), (.int z8), (.int (2 : Int32)), (.ref b39), (.ref b39)])) rfl (by rw [hml]; rfl) (argsL := [(.int z8), (.int p3)]) (rest := [(.int (2 : Int32)), (.ref b39), (.ref b39)]) (lenOf pd_0 rfl) rfl (by show 2 * 0 + _ ≤ _; exact Nat.le_of_eq rfl) (hb hby at_157) (fun _ _ => ⟨rfl, e48, (by decide : 1 + 0 ≤ _), (by decide : 5 + 0 ≤ _)⟩)
                        dsimp only [Pt.U, Pt.locs, Pt.cells, Pt.slots] at X51 l51 y51 z51 st51 hQ51
                        subst l51 y51 z51
                        obtain ⟨rfl, N51q, e51⟩ := hQ51
                        obtain ⟨Lo51, Y51, N51⟩ := pk X51 (Fr.app N48 N51q)
                        refine Go.back st51 ?_
                        show Go p.tables e below (P0 Z p0 p1 p2 p3 p4 p5 h0 n0 s) (T51.setTop (mkF m 160 #[.val (.long p0), .second, .val (.int p1), .val (.int p2), .val (.int p3), .val (.int p4), .val (.int p5), .val (.int z2), .val (.int z5), .val (.int z8), .val (.int z11), .val (.int z14), .val (.int z17), .val (.int (b2i z21)), .val (.int (b2i z25)), .val (.int (b2i z29)), .val (.int (b2i z33)), .val (.int (b2i z37)), .unset, .unset, .unset, .unset, .unset] [(.int (f1 z8 p3)), (.int (2 : Int32)), (.ref b39), (.ref b39)]))
                        obtain ⟨cl52, Ar52, hi52, -⟩ := F50.at (j := (2 : Int32)) (by decide) (Nat.le_of_ble_eq_true rfl)
                        obtain ⟨T52, h52, X52, e52, W52, st52⟩ := stI Y51 hx hZ e51 Ar52 (j := (2 : Int32)) hi52 (g := (mkF m 160 #[.val (.long p0), .second, .val (.int p1), .val (.int p2), .val (.int p3), .val (.int p4), .val (.int p5), .val (.int z2), .val (.int z5), .val (.int z8), .val (.int z11), .val (.int z14), .val (.int z17), .val (.int (b2i z21)), .val (.int (b2i z25)), .val (.int (b2i z29)), .val (.int (b2i z33)), .val (.int (b2i z37)), .unset, .unset, .unset, .unset, .unset] [(.int (f1 z8 p3)), (.int (2 : Int32)), (.ref b39), (.ref b39)])) rfl rfl (hb hby at_160)
                        have F53 : n0 ≤ h52.size := Nat.le_trans F49 (Keep.of_wr W52).1
                        have F54 : ArL Z h52 b39 .int [(.int (f1 z2 p1)), (.int (f1 z5 p2)), (.int (f1 z8 p3)), (.int (0 : Int32)), (.int (0 : Int32))] := F50.set W52
                        obtain ⟨Lo52, Y52, N52⟩ := pk X52 (Fr.snoc X52 N51 g40)
                        refine Go.back st52 ?_
                        show Go p.tables e below (P0 Z p0 p1 p2 p3 p4 p5 h0 n0 s) (T52.setTop (mkF m 161 #[.val (.long p0), .second, .val (.int p1), .val (.int p2), .val (.int p3), .val (.int p4), .val (.int p5), .val (.int z2), .val (.int z5), .val (.int z8), .val (.int z11), .val (.int z14), .val (.int z17), .val (.int (b2i z21)), .val (.int (b2i z25)), .val (.int (b2i z29)), .val (.int (b2i z33)), .val (.int (b2i z37)), .unset, .unset, .unset, .unset, .unset] [(.ref b39)]))
                        refine Go.back (fun t k => XS.dup Y52.here hx rfl (hb hby at_161) rfl rfl k) ?_
                        show Go p.tables e below (P0 Z p0 p1 p2 p3 p4 p5 h0 n0 s) (T52.setTop (mkF m 162 #[.val (.long p0), .second, .val (.int p1), .val (.int p2), .val (.int p3), .val (.int p4), .val (.int p5), .val (.int z2), .val (.int z5), .val (.int z8), .val (.int z11), .val (.int z14), .val (.int z17), .val (.int (b2i z21)), .val (.int (b2i z25)), .val (.int (b2i z29)), .val (.int (b2i z33)), .val (.int (b2i z37)), .unset, .unset, .unset, .unset, .unset] [(.ref b39), (.ref b39)]))
                        refine Go.back (fun t k => XS.iconst Y52.here hx rfl (hb hby at_162) k) ?_
                        show Go p.tables e below (P0 Z p0 p1 p2 p3 p4 p5 h0 n0 s) (T52.setTop (mkF m 163 #[.val (.long p0), .second, .val (.int p1), .val (.int p2), .val (.int p3), .val (.int p4), .val (.int p5), .val (.int z2), .val (.int z5), .val (.int z8), .val (.int z11), .val (.int z14), .val (.int z17), .val (.int (b2i z21)), .val (.int (b2i z25)), .val (.int (b2i z29)), .val (.int (b2i z33)), .val (.int (b2i z37)), .unset, .unset, .unset, .unset, .unset] [(.int (3 : Int32)), (.ref b39), (.ref b39)]))
                        refine Go.back (fun t k => XS.iload Y52.here hx rfl (hb hby at_163) rfl  k) ?_
                        show Go p.tables e below (P0 Z p0 p1 p2 p3 p4 p5 h0 n0 s) (T52.setTop (mkF m 165 #[.val (.long p0), .second, .val (.int p1), .val (.int p2), .val (.int p3), .val (.int p4), .val (.int p5), .val (.int z2), .val (.int z5), .val (.int z8), .val (.int z11), .val (.int z14), .val (.int z17), .val (.int (b2i z21)), .val (.int (b2i z25)), .val (.int (b2i z29)), .val (.int (b2i z33)), .val (.int (b2i z37)), .unset, .unset, .unset, .unset, .unset] [(.int z11), (.int (3 : Int32)), (.ref b39), (.ref b39)]))
                        refine Go.back (fun t k => XS.iload Y52.here hx rfl (hb hby at_165) rfl  k) ?_
                        show Go p.tables e below (P0 Z p0 p1 p2 p3 p4 p5 h0 n0 s) (T52.setTop (mkF m 167 #[.val (.long p0), .second, .val (.int p1), .val (.int p2), .val (.int p3), .val (.int p4), .val (.int p5), .val (.int z2), .val (.int z5), .val (.int z8), .val (.int z11), .val (.int z14), .val (.int z17), .val (.int (b2i z21)), .val (.int (b2i z25)), .val (.int (b2i z29)), .val (.int (b2i z33)), .val (.int (b2i z37)), .unset, .unset, .unset, .unset, .unset] [(.int p4), (.int z11), (.int (3 : Int32)), (.ref b39), (.ref b39)]))
                        obtain ⟨_, _, ⟨T55, L55, k55, n55⟩, -, X55, ⟨Lc55, hQ55, l55, y55, z55⟩, st55⟩ := Jvm.LawKit.callS Y52 hx (y := (⟨"com/example/onward/onward/explore/PackingBitsOfPinLaw", "sizeFor", "(II)I"⟩ : MethodName)) hown (mvT hZ (hw _ (List.mem_of_getElem? (i := 2) rfl))) (mvT hZ (hw _ (List.mem_of_getElem? (i := 3) rfl))) (mvT hZ (hw _ (List.mem_of_getElem? (i := 4) rfl))) (mvT hZ (hw _ (List.mem_of_getElem? (i := 5) rfl))) (by decide) (backOf (W := 3) (rm1 l Z a0 hw [] z11 p4 h52 n0) hZ (hw _ (List.mem_of_getElem? (i := 5) rfl)) (hw _ (List.mem_of_getElem? (i := 4) rfl)) (by decide) (by decide)) (g := (mkF m 167 #[.val (.long p0), .second, .val (.int p1), .val (.int p2), .val (.int p3), .val (.int p4), .val (.int p5), .val (.int z2), .val (.int z5), .val (.int z8), .val (.int z11), .val (.int z14), .val (.int z17), .val (.int (b2i z21)), .val (.int (b2i z25)), .val (.int (b2i z29)), .val (.int (b2i z33)), .val (.int (b2i z37)), .unset, .unset, .unset, .unset, .unset] [(.int p4), (.int z11), (.int (3 : Int32)), (.ref b39), (.ref b39)])) rfl (by rw [hml]; rfl) (argsL := [(.int z11), (.int p4)]) (rest := [(.int (3 : Int32)), (.ref b39), (.ref b39)]) (lenOf pd_0 rfl) rfl (by show 2 * 0 + _ ≤ _; exact Nat.le_of_eq rfl) (hb hby at_167) (fun _ _ => ⟨rfl, e52, (by decide : 1 + 0 ≤ _), (by decide : 5 + 0 ≤ _)⟩)
                        dsimp only [Pt.U, Pt.locs, Pt.cells, Pt.slots] at X55 l55 y55 z55 st55 hQ55
                        subst l55 y55 z55
                        obtain ⟨rfl, N55q, e55⟩ := hQ55
                        obtain ⟨Lo55, Y55, N55⟩ := pk X55 (Fr.app N52 N55q)
                        refine Go.back st55 ?_
                        show Go p.tables e below (P0 Z p0 p1 p2 p3 p4 p5 h0 n0 s) (T55.setTop (mkF m 170 #[.val (.long p0), .second, .val (.int p1), .val (.int p2), .val (.int p3), .val (.int p4), .val (.int p5), .val (.int z2), .val (.int z5), .val (.int z8), .val (.int z11), .val (.int z14), .val (.int z17), .val (.int (b2i z21)), .val (.int (b2i z25)), .val (.int (b2i z29)), .val (.int (b2i z33)), .val (.int (b2i z37)), .unset, .unset, .unset, .unset, .unset] [(.int (f1 z11 p4)), (.int (3 : Int32)), (.ref b39), (.ref b39)]))
                        obtain ⟨cl56, Ar56, hi56, -⟩ := F54.at (j := (3 : Int32)) (by decide) (Nat.le_of_ble_eq_true rfl)
                        obtain ⟨T56, h56, X56, e56, W56, st56⟩ := stI Y55 hx hZ e55 Ar56 (j := (3 : Int32)) hi56 (g := (mkF m 170 #[.val (.long p0), .second, .val (.int p1), .val (.int p2), .val (.int p3), .val (.int p4), .val (.int p5), .val (.int z2), .val (.int z5), .val (.int z8), .val (.int z11), .val (.int z14), .val (.int z17), .val (.int (b2i z21)), .val (.int (b2i z25)), .val (.int (b2i z29)), .val (.int (b2i z33)), .val (.int (b2i z37)), .unset, .unset, .unset, .unset, .unset] [(.int (f1 z11 p4)), (.int (3 : Int32)), (.ref b39), (.ref b39)])) rfl rfl (hb hby at_170)
                        have F57 : n0 ≤ h56.size := Nat.le_trans F53 (Keep.of_wr W56).1
                        have F58 : ArL Z h56 b39 .int [(.int (f1 z2 p1)), (.int (f1 z5 p2)), (.int (f1 z8 p3)), (.int (f1 z11 p4)), (.int (0 : Int32))] := F54.set W56
                        obtain ⟨Lo56, Y56, N56⟩ := pk X56 (Fr.snoc X56 N55 g40)
                        refine Go.back st56 ?_
                        show Go p.tables e below (P0 Z p0 p1 p2 p3 p4 p5 h0 n0 s) (T56.setTop (mkF m 171 #[.val (.long p0), .second, .val (.int p1), .val (.int p2), .val (.int p3), .val (.int p4), .val (.int p5), .val (.int z2), .val (.int z5), .val (.int z8), .val (.int z11), .val (.int z14), .val (.int z17), .val (.int (b2i z21)), .val (.int (b2i z25)), .val (.int (b2i z29)), .val (.int (b2i z33)), .val (.int (b2i z37)), .unset, .unset, .unset, .unset, .unset] [(.ref b39)]))
                        refine Go.back (fun t k => XS.dup Y56.here hx rfl (hb hby at_171) rfl rfl k) ?_
                        show Go p.tables e below (P0 Z p0 p1 p2 p3 p4 p5 h0 n0 s) (T56.setTop (mkF m 172 #[.val (.long p0), .second, .val (.int p1), .val (.int p2), .val (.int p3), .val (.int p4), .val (.int p5), .val (.int z2), .val (.int z5), .val (.int z8), .val (.int z11), .val (.int z14), .val (.int z17), .val (.int (b2i z21)), .val (.int (b2i z25)), .val (.int (b2i z29)), .val (.int (b2i z33)), .val (.int (b2i z37)), .unset, .unset, .unset, .unset, .unset] [(.ref b39), (.ref b39)]))
                        refine Go.back (fun t k => XS.iconst Y56.here hx rfl (hb hby at_172) k) ?_
                        show Go p.tables e below (P0 Z p0 p1 p2 p3 p4 p5 h0 n0 s) (T56.setTop (mkF m 173 #[.val (.long p0), .second, .val (.int p1), .val (.int p2), .val (.int p3), .val (.int p4), .val (.int p5), .val (.int z2), .val (.int z5), .val (.int z8), .val (.int z11), .val (.int z14), .val (.int z17), .val (.int (b2i z21)), .val (.int (b2i z25)), .val (.int (b2i z29)), .val (.int (b2i z33)), .val (.int (b2i z37)), .unset, .unset, .unset, .unset, .unset] [(.int (4 : Int32)), (.ref b39), (.ref b39)]))
                        refine Go.back (fun t k => XS.iload Y56.here hx rfl (hb hby at_173) rfl  k) ?_
                        show Go p.tables e below (P0 Z p0 p1 p2 p3 p4 p5 h0 n0 s) (T56.setTop (mkF m 175 #[.val (.long p0), .second, .val (.int p1), .val (.int p2), .val (.int p3), .val (.int p4), .val (.int p5), .val (.int z2), .val (.int z5), .val (.int z8), .val (.int z11), .val (.int z14), .val (.int z17), .val (.int (b2i z21)), .val (.int (b2i z25)), .val (.int (b2i z29)), .val (.int (b2i z33)), .val (.int (b2i z37)), .unset, .unset, .unset, .unset, .unset] [(.int z14), (.int (4 : Int32)), (.ref b39), (.ref b39)]))
                        refine Go.back (fun t k => XS.iload Y56.here hx rfl (hb hby at_175) rfl  k) ?_
                        show Go p.tables e below (P0 Z p0 p1 p2 p3 p4 p5 h0 n0 s) (T56.setTop (mkF m 177 #[.val (.long p0), .second, .val (.int p1), .val (.int p2), .val (.int p3), .val (.int p4), .val (.int p5), .val (.int z2), .val (.int z5), .val (.int z8), .val (.int z11), .val (.int z14), .val (.int z17), .val (.int (b2i z21)), .val (.int (b2i z25)), .val (.int (b2i z29)), .val (.int (b2i z33)), .val (.int (b2i z37)), .unset, .unset, .unset, .unset, .unset] [(.int p5), (.int z14), (.int (4 : Int32)), (.ref b39), (.ref b39)]))
                        obtain ⟨_, _, ⟨T59, L59, k59, n59⟩, -, X59, ⟨Lc59, hQ59, l59, y59, z59⟩, st59⟩ := Jvm.LawKit.callS Y56 hx (y := (⟨"com/example/onward/onward/explore/PackingBitsOfPinLaw", "sizeFor", "(II)I"⟩ : MethodName)) hown (mvT hZ (hw _ (List.mem_of_getElem? (i := 2) rfl))) (mvT hZ (hw _ (List.mem_of_getElem? (i := 3) rfl))) (mvT hZ (hw _ (List.mem_of_getElem? (i := 4) rfl))) (mvT hZ (hw _ (List.mem_of_getElem? (i := 5) rfl))) (by decide) (backOf (W := 3) (rm1 l Z a0 hw [] z14 p5 h56 n0) hZ (hw _ (List.mem_of_getElem? (i := 5) rfl)) (hw _ (List.mem_of_getElem? (i := 4) rfl)) (by decide) (by decide)) (g := (mkF m 177 #[.val (.long p0), .second, .val (.int p1), .val (.int p2), .val (.int p3), .val (.int p4), .val (.int p5), .val (.int z2), .val (.int z5), .val (.int z8), .val (.int z11), .val (.int z14), .val (.int z17), .val (.int (b2i z21)), .val (.int (b2i z25)), .val (.int (b2i z29)), .val (.int (b2i z33)), .val (.int (b2i z37)), .unset, .unset, .unset, .unset, .unset] [(.int p5), (.int z14), (.int (4 : Int32)), (.ref b39), (.ref b39)])) rfl (by rw [hml]; rfl) (argsL := [(.int z14), (.int p5)]) (rest := [(.int (4 : Int32)), (.ref b39), (.ref b39)]) (lenOf pd_0 rfl) rfl (by show 2 * 0 + _ ≤ _; exact Nat.le_of_eq rfl) (hb hby at_177) (fun _ _ => ⟨rfl, e56, (by decide : 1 + 0 ≤ _), (by decide : 5 + 0 ≤ _)⟩)
                        dsimp only [Pt.U, Pt.locs, Pt.cells, Pt.slots] at X59 l59 y59 z59 st59 hQ59
                        subst l59 y59 z59
                        obtain ⟨rfl, N59q, e59⟩ := hQ59
                        obtain ⟨Lo59, Y59, N59⟩ := pk X59 (Fr.app N56 N59q)
                        refine Go.back st59 ?_
                        show Go p.tables e below (P0 Z p0 p1 p2 p3 p4 p5 h0 n0 s) (T59.setTop (mkF m 180 #[.val (.long p0), .second, .val (.int p1), .val (.int p2), .val (.int p3), .val (.int p4), .val (.int p5), .val (.int z2), .val (.int z5), .val (.int z8), .val (.int z11), .val (.int z14), .val (.int z17), .val (.int (b2i z21)), .val (.int (b2i z25)), .val (.int (b2i z29)), .val (.int (b2i z33)), .val (.int (b2i z37)), .unset, .unset, .unset, .unset, .unset] [(.int (f1 z14 p5)), (.int (4 : Int32)), (.ref b39), (.ref b39)]))
                        obtain ⟨cl60, Ar60, hi60, -⟩ := F58.at (j := (4 : Int32)) (by decide) (Nat.le_of_ble_eq_true rfl)
                        obtain ⟨T60, h60, X60, e60, W60, st60⟩ := stI Y59 hx hZ e59 Ar60 (j := (4 : Int32)) hi60 (g := (mkF m 180 #[.val (.long p0), .second, .val (.int p1), .val (.int p2), .val (.int p3), .val (.int p4), .val (.int p5), .val (.int z2), .val (.int z5), .val (.int z8), .val (.int z11), .val (.int z14), .val (.int z17), .val (.int (b2i z21)), .val (.int (b2i z25)), .val (.int (b2i z29)), .val (.int (b2i z33)), .val (.int (b2i z37)), .unset, .unset, .unset, .unset, .unset] [(.int (f1 z14 p5)), (.int (4 : Int32)), (.ref b39), (.ref b39)])) rfl rfl (hb hby at_180)
                        have F61 : n0 ≤ h60.size := Nat.le_trans F57 (Keep.of_wr W60).1
                        have F62 : ArL Z h60 b39 .int [(.int (f1 z2 p1)), (.int (f1 z5 p2)), (.int (f1 z8 p3)), (.int (f1 z11 p4)), (.int (f1 z14 p5))] := F58.set W60
                        obtain ⟨Lo60, Y60, N60⟩ := pk X60 (Fr.snoc X60 N59 g40)
                        refine Go.back st60 ?_
                        show Go p.tables e below (P0 Z p0 p1 p2 p3 p4 p5 h0 n0 s) (T60.setTop (mkF m 181 #[.val (.long p0), .second, .val (.int p1), .val (.int p2), .val (.int p3), .val (.int p4), .val (.int p5), .val (.int z2), .val (.int z5), .val (.int z8), .val (.int z11), .val (.int z14), .val (.int z17), .val (.int (b2i z21)), .val (.int (b2i z25)), .val (.int (b2i z29)), .val (.int (b2i z33)), .val (.int (b2i z37)), .unset, .unset, .unset, .unset, .unset] [(.ref b39)]))
                        refine Go.back (fun t k => XS.astore Y60.here hx rfl (hb hby at_181) rfl rfl (l' := #[.val (.long p0), .second, .val (.int p1), .val (.int p2), .val (.int p3), .val (.int p4), .val (.int p5), .val (.int z2), .val (.int z5), .val (.int z8), .val (.int z11), .val (.int z14), .val (.int z17), .val (.int (b2i z21)), .val (.int (b2i z25)), .val (.int (b2i z29)), .val (.int (b2i z33)), .val (.int (b2i z37)), .val (.ref b39), .unset, .unset, .unset, .unset]) rfl k) ?_
                        show Go p.tables e below (P0 Z p0 p1 p2 p3 p4 p5 h0 n0 s) (T60.setTop (mkF m 183 #[.val (.long p0), .second, .val (.int p1), .val (.int p2), .val (.int p3), .val (.int p4), .val (.int p5), .val (.int z2), .val (.int z5), .val (.int z8), .val (.int z11), .val (.int z14), .val (.int z17), .val (.int (b2i z21)), .val (.int (b2i z25)), .val (.int (b2i z29)), .val (.int (b2i z33)), .val (.int (b2i z37)), .val (.ref b39), .unset, .unset, .unset, .unset] []))
                        have J63 : ∀ (z64 : List Int32) (hz64 : z64 = [(f1 z2 p1), (f1 z5 p2), (f1 z8 p3), (f1 z11 p4), (f1 z14 p5)]) (F65 : ArL Z h60 b39 .int (List.map Value.int z64)), Go p.tables e below (P0 Z p0 p1 p2 p3 p4 p5 h0 n0 s) (T60.setTop (mkF m 183 #[.val (.long p0), .second, .val (.int p1), .val (.int p2), .val (.int p3), .val (.int p4), .val (.int p5), .val (.int z2), .val (.int z5), .val (.int z8), .val (.int z11), .val (.int z14), .val (.int z17), .val (.int (b2i z21)), .val (.int (b2i z25)), .val (.int (b2i z29)), .val (.int (b2i z33)), .val (.int (b2i z37)), .val (.ref b39), .unset, .unset, .unset, .unset] [])) := by
                          intro z64 hz64 F65
                          have r66 : f0 p0 p1 p2 p3 p4 p5 = (let z94 : List Int32 := [(b2i z21), (b2i z25), (b2i z29), (b2i z33), (b2i z37)]; (let z135 : List Int64 := (g2_1 z2 z21 (0 : Int32) (1 : Int32) [(0 : Int64), (0 : Int64), (0 : Int64)]); let z137 : Int32 := (g2_2 z2 z21 (0 : Int32) (1 : Int32) [(0 : Int64), (0 : Int64), (0 : Int64)]); let z138 : Int32 := (g2_3 z2 z21 (0 : Int32) (1 : Int32) [(0 : Int64), (0 : Int64), (0 : Int64)]); (let z148 : List Int64 := (g2_1 z5 z25 z137 z138 z135); let z150 : Int32 := (g2_2 z5 z25 z137 z138 z135); let z151 : Int32 := (g2_3 z5 z25 z137 z138 z135); (let z161 : List Int64 := (g2_1 z8 z29 z150 z151 z148); let z163 : Int32 := (g2_2 z8 z29 z150 z151 z148); let z164 : Int32 := (g2_3 z8 z29 z150 z151 z148); (let z174 : List Int64 := (g2_1 z11 z33 z163 z164 z161); let z176 : Int32 := (g2_2 z11 z33 z163 z164 z161); let z177 : Int32 := (g2_3 z11 z33 z163 z164 z161); (let z187 : List Int64 := (g2_1 z14 z37 z176 z177 z174); let z189 : Int32 := (g2_2 z14 z37 z176 z177 z174); let z190 : Int32 := (g2_3 z14 z37 z176 z177 z174); (let z277 : List Int64 := (own_bitsr z94 (own_pkr z64).2.1 (own_pkr z64).2.2.1 (own_pkr z64).2.2.2 (own_pkr z64).1); (if (List.length z277).toInt32 = z190 then (let z287 : Bool := (if (f8 (0 : Int32) z277 z187 ((List.length z277).toInt32)) = true then (if (f8 (1 : Int32) z277 z187 ((List.length z277).toInt32)) = true then (if (f8 (2 : Int32) z277 z187 ((List.length z277).toInt32)) = true then true else false) else false) else false); z287) else false)))))))) := by subst hz64; exact r38
                          show Go p.tables e below (P0 Z p0 p1 p2 p3 p4 p5 h0 n0 s) (T60.setTop (mkF m 183 #[.val (.long p0), .second, .val (.int p1), .val (.int p2), .val (.int p3), .val (.int p4), .val (.int p5), .val (.int z2), .val (.int z5), .val (.int z8), .val (.int z11), .val (.int z14), .val (.int z17), .val (.int (b2i z21)), .val (.int (b2i z25)), .val (.int (b2i z29)), .val (.int (b2i z33)), .val (.int (b2i z37)), .val (.ref b39), .unset, .unset, .unset, .unset] []))
                          refine Go.back (fun t k => XS.iconst Y60.here hx rfl (hb hby at_183) k) ?_
                          show Go p.tables e below (P0 Z p0 p1 p2 p3 p4 p5 h0 n0 s) (T60.setTop (mkF m 184 #[.val (.long p0), .second, .val (.int p1), .val (.int p2), .val (.int p3), .val (.int p4), .val (.int p5), .val (.int z2), .val (.int z5), .val (.int z8), .val (.int z11), .val (.int z14), .val (.int z17), .val (.int (b2i z21)), .val (.int (b2i z25)), .val (.int (b2i z29)), .val (.int (b2i z33)), .val (.int (b2i z37)), .val (.ref b39), .unset, .unset, .unset, .unset] [(.int (5 : Int32))]))
                          obtain ⟨T67, h67, k67, X67, e67, E67, A67, st67⟩ := newP Y60 hx hZ (hw _ (List.mem_of_getElem? (i := 7) rfl)) e60 (g := (mkF m 184 #[.val (.long p0), .second, .val (.int p1), .val (.int p2), .val (.int p3), .val (.int p4), .val (.int p5), .val (.int z2), .val (.int z5), .val (.int z8), .val (.int z11), .val (.int z14), .val (.int z17), .val (.int (b2i z21)), .val (.int (b2i z25)), .val (.int (b2i z29)), .val (.int (b2i z33)), .val (.int (b2i z37)), .val (.ref b39), .unset, .unset, .unset, .unset] [(.int (5 : Int32))])) rfl (hb hby at_184) rfl (by decide) (cap := 5) (by decide) (by decide) (by decide) (by decide)
                          obtain ⟨b67, g67⟩ : ∃ z, z = h60.size := ⟨_, rfl⟩
                          rw [← g67] at A67 st67
                          have ne68 : b39 ≠ b67 := Nat.ne_of_lt (Nat.lt_of_lt_of_le F65.lt (Nat.le_of_eq g67.symm))
                          have g69 : n0 ≤ b67 := Nat.le_trans F61 (Nat.le_of_eq g67.symm)
                          have F70 : n0 ≤ h67.size := Nat.le_trans F61 E67.1
                          have F71 : ArL Z h67 b39 .int (List.map Value.int z64) := F65.ext E67
                          have F72 : ArL Z h67 b67 .boolean [(.int (b2i false)), (.int (b2i false)), (.int (b2i false)), (.int (b2i false)), (.int (b2i false))] := ArL.new (ty := .boolean) A67 (n := 5) rfl
                          refine Go.back st67 ?_
                          show Go p.tables e below (P0 Z p0 p1 p2 p3 p4 p5 h0 n0 s) (T67.setTop (mkF m 186 #[.val (.long p0), .second, .val (.int p1), .val (.int p2), .val (.int p3), .val (.int p4), .val (.int p5), .val (.int z2), .val (.int z5), .val (.int z8), .val (.int z11), .val (.int z14), .val (.int z17), .val (.int (b2i z21)), .val (.int (b2i z25)), .val (.int (b2i z29)), .val (.int (b2i z33)), .val (.int (b2i z37)), .val (.ref b39), .unset, .unset, .unset, .unset] [(.ref b67)]))
                          refine Go.back (fun t k => XS.dup X67.here hx rfl (hb hby at_186) rfl rfl k) ?_
                          show Go p.tables e below (P0 Z p0 p1 p2 p3 p4 p5 h0 n0 s) (T67.setTop (mkF m 187 #[.val (.long p0), .second, .val (.int p1), .val (.int p2), .val (.int p3), .val (.int p4), .val (.int p5), .val (.int z2), .val (.int z5), .val (.int z8), .val (.int z11), .val (.int z14), .val (.int z17), .val (.int (b2i z21)), .val (.int (b2i z25)), .val (.int (b2i z29)), .val (.int (b2i z33)), .val (.int (b2i z37)), .val (.ref b39), .unset, .unset, .unset, .unset] [(.ref b67), (.ref b67)]))
                          refine Go.back (fun t k => XS.iconst X67.here hx rfl (hb hby at_187) k) ?_
                          show Go p.tables e below (P0 Z p0 p1 p2 p3 p4 p5 h0 n0 s) (T67.setTop (mkF m 188 #[.val (.long p0), .second, .val (.int p1), .val (.int p2), .val (.int p3), .val (.int p4), .val (.int p5), .val (.int z2), .val (.int z5), .val (.int z8), .val (.int z11), .val (.int z14), .val (.int z17), .val (.int (b2i z21)), .val (.int (b2i z25)), .val (.int (b2i z29)), .val (.int (b2i z33)), .val (.int (b2i z37)), .val (.ref b39), .unset, .unset, .unset, .unset] [(.int (0 : Int32)), (.ref b67), (.ref b67)]))
                          refine Go.back (fun t k => XS.iload X67.here hx rfl (hb hby at_188) rfl  k) ?_
                          show Go p.tables e below (P0 Z p0 p1 p2 p3 p4 p5 h0 n0 s) (T67.setTop (mkF m 190 #[.val (.long p0), .second, .val (.int p1), .val (.int p2), .val (.int p3), .val (.int p4), .val (.int p5), .val (.int z2), .val (.int z5), .val (.int z8), .val (.int z11), .val (.int z14), .val (.int z17), .val (.int (b2i z21)), .val (.int (b2i z25)), .val (.int (b2i z29)), .val (.int (b2i z33)), .val (.int (b2i z37)), .val (.ref b39), .unset, .unset, .unset, .unset] [(.int (b2i z21)), (.int (0 : Int32)), (.ref b67), (.ref b67)]))
                          obtain ⟨cl73, Ar73, hi73, -⟩ := F72.at (j := (0 : Int32)) (by decide) (Nat.le_of_ble_eq_true rfl)
                          obtain ⟨T73, h73, X73, e73, W73, st73⟩ := stZ X67 hx hZ e67 Ar73 (j := (0 : Int32)) hi73 (g := (mkF m 190 #[.val (.long p0), .second, .val (.int p1), .val (.int p2), .val (.int p3), .val (.int p4), .val (.int p5), .val (.int z2), .val (.int z5), .val (.int z8), .val (.int z11), .val (.int z14), .val (.int z17), .val (.int (b2i z21)), .val (.int (b2i z25)), .val (.int (b2i z29)), .val (.int (b2i z33)), .val (.int (b2i z37)), .val (.ref b39), .unset, .unset, .unset, .unset] [(.int (b2i z21)), (.int (0 : Int32)), (.ref b67), (.ref b67)])) rfl rfl (hb hby at_190)
                          rw [nar_b2i] at W73
                          have F74 : n0 ≤ h73.size := Nat.le_trans F70 (Keep.of_wr W73).1
                          have F75 : ArL Z h73 b39 .int (List.map Value.int z64) := F71.other W73 ne68
                          have F76 : ArL Z h73 b67 .boolean [(.int (b2i z21)), (.int (b2i false)), (.int (b2i false)), (.int (b2i false)), (.int (b2i false))] := F72.set W73
                          obtain ⟨Lo73, Y73, N73⟩ := pk X73 (Fr.snoc X73 N60 g69)
                          refine Go.back st73 ?_
                          show Go p.tables e below (P0 Z p0 p1 p2 p3 p4 p5 h0 n0 s) (T73.setTop (mkF m 191 #[.val (.long p0), .second, .val (.int p1), .val (.int p2), .val (.int p3), .val (.int p4), .val (.int p5), .val (.int z2), .val (.int z5), .val (.int z8), .val (.int z11), .val (.int z14), .val (.int z17), .val (.int (b2i z21)), .val (.int (b2i z25)), .val (.int (b2i z29)), .val (.int (b2i z33)), .val (.int (b2i z37)), .val (.ref b39), .unset, .unset, .unset, .unset] [(.ref b67)]))
                          refine Go.back (fun t k => XS.dup Y73.here hx rfl (hb hby at_191) rfl rfl k) ?_
                          show Go p.tables e below (P0 Z p0 p1 p2 p3 p4 p5 h0 n0 s) (T73.setTop (mkF m 192 #[.val (.long p0), .second, .val (.int p1), .val (.int p2), .val (.int p3), .val (.int p4), .val (.int p5), .val (.int z2), .val (.int z5), .val (.int z8), .val (.int z11), .val (.int z14), .val (.int z17), .val (.int (b2i z21)), .val (.int (b2i z25)), .val (.int (b2i z29)), .val (.int (b2i z33)), .val (.int (b2i z37)), .val (.ref b39), .unset, .unset, .unset, .unset] [(.ref b67), (.ref b67)]))
                          refine Go.back (fun t k => XS.iconst Y73.here hx rfl (hb hby at_192) k) ?_
                          show Go p.tables e below (P0 Z p0 p1 p2 p3 p4 p5 h0 n0 s) (T73.setTop (mkF m 193 #[.val (.long p0), .second, .val (.int p1), .val (.int p2), .val (.int p3), .val (.int p4), .val (.int p5), .val (.int z2), .val (.int z5), .val (.int z8), .val (.int z11), .val (.int z14), .val (.int z17), .val (.int (b2i z21)), .val (.int (b2i z25)), .val (.int (b2i z29)), .val (.int (b2i z33)), .val (.int (b2i z37)), .val (.ref b39), .unset, .unset, .unset, .unset] [(.int (1 : Int32)), (.ref b67), (.ref b67)]))
                          refine Go.back (fun t k => XS.iload Y73.here hx rfl (hb hby at_193) rfl  k) ?_
                          show Go p.tables e below (P0 Z p0 p1 p2 p3 p4 p5 h0 n0 s) (T73.setTop (mkF m 195 #[.val (.long p0), .second, .val (.int p1), .val (.int p2), .val (.int p3), .val (.int p4), .val (.int p5), .val (.int z2), .val (.int z5), .val (.int z8), .val (.int z11), .val (.int z14), .val (.int z17), .val (.int (b2i z21)), .val (.int (b2i z25)), .val (.int (b2i z29)), .val (.int (b2i z33)), .val (.int (b2i z37)), .val (.ref b39), .unset, .unset, .unset, .unset] [(.int (b2i z25)), (.int (1 : Int32)), (.ref b67), (.ref b67)]))
                          obtain ⟨cl77, Ar77, hi77, -⟩ := F76.at (j := (1 : Int32)) (by decide) (Nat.le_of_ble_eq_true rfl)
                          obtain ⟨T77, h77, X77, e77, W77, st77⟩ := stZ Y73 hx hZ e73 Ar77 (j := (1 : Int32)) hi77 (g := (mkF m 195 #[.val (.long p0), .second, .val (.int p1), .val (.int p2), .val (.int p3), .val (.int p4), .val (.int p5), .val (.int z2), .val (.int z5), .val (.int z8), .val (.int z11), .val (.int z14), .val (.int z17), .val (.int (b2i z21)), .val (.int (b2i z25)), .val (.int (b2i z29)), .val (.int (b2i z33)), .val (.int (b2i z37)), .val (.ref b39), .unset, .unset, .unset, .unset] [(.int (b2i z25)), (.int (1 : Int32)), (.ref b67), (.ref b67)])) rfl rfl (hb hby at_195)
                          rw [nar_b2i] at W77
                          have F78 : n0 ≤ h77.size := Nat.le_trans F74 (Keep.of_wr W77).1
                          have F79 : ArL Z h77 b39 .int (List.map Value.int z64) := F75.other W77 ne68
                          have F80 : ArL Z h77 b67 .boolean [(.int (b2i z21)), (.int (b2i z25)), (.int (b2i false)), (.int (b2i false)), (.int (b2i false))] := F76.set W77
                          obtain ⟨Lo77, Y77, N77⟩ := pk X77 (Fr.snoc X77 N73 g69)
                          refine Go.back st77 ?_
                          show Go p.tables e below (P0 Z p0 p1 p2 p3 p4 p5 h0 n0 s) (T77.setTop (mkF m 196 #[.val (.long p0), .second, .val (.int p1), .val (.int p2), .val (.int p3), .val (.int p4), .val (.int p5), .val (.int z2), .val (.int z5), .val (.int z8), .val (.int z11), .val (.int z14), .val (.int z17), .val (.int (b2i z21)), .val (.int (b2i z25)), .val (.int (b2i z29)), .val (.int (b2i z33)), .val (.int (b2i z37)), .val (.ref b39), .unset, .unset, .unset, .unset] [(.ref b67)]))
                          refine Go.back (fun t k => XS.dup Y77.here hx rfl (hb hby at_196) rfl rfl k) ?_
                          show Go p.tables e below (P0 Z p0 p1 p2 p3 p4 p5 h0 n0 s) (T77.setTop (mkF m 197 #[.val (.long p0), .second, .val (.int p1), .val (.int p2), .val (.int p3), .val (.int p4), .val (.int p5), .val (.int z2), .val (.int z5), .val (.int z8), .val (.int z11), .val (.int z14), .val (.int z17), .val (.int (b2i z21)), .val (.int (b2i z25)), .val (.int (b2i z29)), .val (.int (b2i z33)), .val (.int (b2i z37)), .val (.ref b39), .unset, .unset, .unset, .unset] [(.ref b67), (.ref b67)]))
                          refine Go.back (fun t k => XS.iconst Y77.here hx rfl (hb hby at_197) k) ?_
                          show Go p.tables e below (P0 Z p0 p1 p2 p3 p4 p5 h0 n0 s) (T77.setTop (mkF m 198 #[.val (.long p0), .second, .val (.int p1), .val (.int p2), .val (.int p3), .val (.int p4), .val (.int p5), .val (.int z2), .val (.int z5), .val (.int z8), .val (.int z11), .val (.int z14), .val (.int z17), .val (.int (b2i z21)), .val (.int (b2i z25)), .val (.int (b2i z29)), .val (.int (b2i z33)), .val (.int (b2i z37)), .val (.ref b39), .unset, .unset, .unset, .unset] [(.int (2 : Int32)), (.ref b67), (.ref b67)]))
                          refine Go.back (fun t k => XS.iload Y77.here hx rfl (hb hby at_198) rfl  k) ?_
                          show Go p.tables e below (P0 Z p0 p1 p2 p3 p4 p5 h0 n0 s) (T77.setTop (mkF m 200 #[.val (.long p0), .second, .val (.int p1), .val (.int p2), .val (.int p3), .val (.int p4), .val (.int p5), .val (.int z2), .val (.int z5), .val (.int z8), .val (.int z11), .val (.int z14), .val (.int z17), .val (.int (b2i z21)), .val (.int (b2i z25)), .val (.int (b2i z29)), .val (.int (b2i z33)), .val (.int (b2i z37)), .val (.ref b39), .unset, .unset, .unset, .unset] [(.int (b2i z29)), (.int (2 : Int32)), (.ref b67), (.ref b67)]))
                          obtain ⟨cl81, Ar81, hi81, -⟩ := F80.at (j := (2 : Int32)) (by decide) (Nat.le_of_ble_eq_true rfl)
                          obtain ⟨T81, h81, X81, e81, W81, st81⟩ := stZ Y77 hx hZ e77 Ar81 (j := (2 : Int32)) hi81 (g := (mkF m 200 #[.val (.long p0), .second, .val (.int p1), .val (.int p2), .val (.int p3), .val (.int p4), .val (.int p5), .val (.int z2), .val (.int z5), .val (.int z8), .val (.int z11), .val (.int z14), .val (.int z17), .val (.int (b2i z21)), .val (.int (b2i z25)), .val (.int (b2i z29)), .val (.int (b2i z33)), .val (.int (b2i z37)), .val (.ref b39), .unset, .unset, .unset, .unset] [(.int (b2i z29)), (.int (2 : Int32)), (.ref b67), (.ref b67)])) rfl rfl (hb hby at_200)
                          rw [nar_b2i] at W81
                          have F82 : n0 ≤ h81.size := Nat.le_trans F78 (Keep.of_wr W81).1
                          have F83 : ArL Z h81 b39 .int (List.map Value.int z64) := F79.other W81 ne68
                          have F84 : ArL Z h81 b67 .boolean [(.int (b2i z21)), (.int (b2i z25)), (.int (b2i z29)), (.int (b2i false)), (.int (b2i false))] := F80.set W81
                          obtain ⟨Lo81, Y81, N81⟩ := pk X81 (Fr.snoc X81 N77 g69)
                          refine Go.back st81 ?_
                          show Go p.tables e below (P0 Z p0 p1 p2 p3 p4 p5 h0 n0 s) (T81.setTop (mkF m 201 #[.val (.long p0), .second, .val (.int p1), .val (.int p2), .val (.int p3), .val (.int p4), .val (.int p5), .val (.int z2), .val (.int z5), .val (.int z8), .val (.int z11), .val (.int z14), .val (.int z17), .val (.int (b2i z21)), .val (.int (b2i z25)), .val (.int (b2i z29)), .val (.int (b2i z33)), .val (.int (b2i z37)), .val (.ref b39), .unset, .unset, .unset, .unset] [(.ref b67)]))
                          refine Go.back (fun t k => XS.dup Y81.here hx rfl (hb hby at_201) rfl rfl k) ?_
                          show Go p.tables e below (P0 Z p0 p1 p2 p3 p4 p5 h0 n0 s) (T81.setTop (mkF m 202 #[.val (.long p0), .second, .val (.int p1), .val (.int p2), .val (.int p3), .val (.int p4), .val (.int p5), .val (.int z2), .val (.int z5), .val (.int z8), .val (.int z11), .val (.int z14), .val (.int z17), .val (.int (b2i z21)), .val (.int (b2i z25)), .val (.int (b2i z29)), .val (.int (b2i z33)), .val (.int (b2i z37)), .val (.ref b39), .unset, .unset, .unset, .unset] [(.ref b67), (.ref b67)]))
                          refine Go.back (fun t k => XS.iconst Y81.here hx rfl (hb hby at_202) k) ?_
                          show Go p.tables e below (P0 Z p0 p1 p2 p3 p4 p5 h0 n0 s) (T81.setTop (mkF m 203 #[.val (.long p0), .second, .val (.int p1), .val (.int p2), .val (.int p3), .val (.int p4), .val (.int p5), .val (.int z2), .val (.int z5), .val (.int z8), .val (.int z11), .val (.int z14), .val (.int z17), .val (.int (b2i z21)), .val (.int (b2i z25)), .val (.int (b2i z29)), .val (.int (b2i z33)), .val (.int (b2i z37)), .val (.ref b39), .unset, .unset, .unset, .unset] [(.int (3 : Int32)), (.ref b67), (.ref b67)]))
                          refine Go.back (fun t k => XS.iload Y81.here hx rfl (hb hby at_203) rfl  k) ?_
                          show Go p.tables e below (P0 Z p0 p1 p2 p3 p4 p5 h0 n0 s) (T81.setTop (mkF m 205 #[.val (.long p0), .second, .val (.int p1), .val (.int p2), .val (.int p3), .val (.int p4), .val (.int p5), .val (.int z2), .val (.int z5), .val (.int z8), .val (.int z11), .val (.int z14), .val (.int z17), .val (.int (b2i z21)), .val (.int (b2i z25)), .val (.int (b2i z29)), .val (.int (b2i z33)), .val (.int (b2i z37)), .val (.ref b39), .unset, .unset, .unset, .unset] [(.int (b2i z33)), (.int (3 : Int32)), (.ref b67), (.ref b67)]))
                          obtain ⟨cl85, Ar85, hi85, -⟩ := F84.at (j := (3 : Int32)) (by decide) (Nat.le_of_ble_eq_true rfl)
                          obtain ⟨T85, h85, X85, e85, W85, st85⟩ := stZ Y81 hx hZ e81 Ar85 (j := (3 : Int32)) hi85 (g := (mkF m 205 #[.val (.long p0), .second, .val (.int p1), .val (.int p2), .val (.int p3), .val (.int p4), .val (.int p5), .val (.int z2), .val (.int z5), .val (.int z8), .val (.int z11), .val (.int z14), .val (.int z17), .val (.int (b2i z21)), .val (.int (b2i z25)), .val (.int (b2i z29)), .val (.int (b2i z33)), .val (.int (b2i z37)), .val (.ref b39), .unset, .unset, .unset, .unset] [(.int (b2i z33)), (.int (3 : Int32)), (.ref b67), (.ref b67)])) rfl rfl (hb hby at_205)
                          rw [nar_b2i] at W85
                          have F86 : n0 ≤ h85.size := Nat.le_trans F82 (Keep.of_wr W85).1
                          have F87 : ArL Z h85 b39 .int (List.map Value.int z64) := F83.other W85 ne68
                          have F88 : ArL Z h85 b67 .boolean [(.int (b2i z21)), (.int (b2i z25)), (.int (b2i z29)), (.int (b2i z33)), (.int (b2i false))] := F84.set W85
                          obtain ⟨Lo85, Y85, N85⟩ := pk X85 (Fr.snoc X85 N81 g69)
                          refine Go.back st85 ?_
                          show Go p.tables e below (P0 Z p0 p1 p2 p3 p4 p5 h0 n0 s) (T85.setTop (mkF m 206 #[.val (.long p0), .second, .val (.int p1), .val (.int p2), .val (.int p3), .val (.int p4), .val (.int p5), .val (.int z2), .val (.int z5), .val (.int z8), .val (.int z11), .val (.int z14), .val (.int z17), .val (.int (b2i z21)), .val (.int (b2i z25)), .val (.int (b2i z29)), .val (.int (b2i z33)), .val (.int (b2i z37)), .val (.ref b39), .unset, .unset, .unset, .unset] [(.ref b67)]))
                          refine Go.back (fun t k => XS.dup Y85.here hx rfl (hb hby at_206) rfl rfl k) ?_
                          show Go p.tables e below (P0 Z p0 p1 p2 p3 p4 p5 h0 n0 s) (T85.setTop (mkF m 207 #[.val (.long p0), .second, .val (.int p1), .val (.int p2), .val (.int p3), .val (.int p4), .val (.int p5), .val (.int z2), .val (.int z5), .val (.int z8), .val (.int z11), .val (.int z14), .val (.int z17), .val (.int (b2i z21)), .val (.int (b2i z25)), .val (.int (b2i z29)), .val (.int (b2i z33)), .val (.int (b2i z37)), .val (.ref b39), .unset, .unset, .unset, .unset] [(.ref b67), (.ref b67)]))
                          refine Go.back (fun t k => XS.iconst Y85.here hx rfl (hb hby at_207) k) ?_
                          show Go p.tables e below (P0 Z p0 p1 p2 p3 p4 p5 h0 n0 s) (T85.setTop (mkF m 208 #[.val (.long p0), .second, .val (.int p1), .val (.int p2), .val (.int p3), .val (.int p4), .val (.int p5), .val (.int z2), .val (.int z5), .val (.int z8), .val (.int z11), .val (.int z14), .val (.int z17), .val (.int (b2i z21)), .val (.int (b2i z25)), .val (.int (b2i z29)), .val (.int (b2i z33)), .val (.int (b2i z37)), .val (.ref b39), .unset, .unset, .unset, .unset] [(.int (4 : Int32)), (.ref b67), (.ref b67)]))
                          refine Go.back (fun t k => XS.iload Y85.here hx rfl (hb hby at_208) rfl  k) ?_
                          show Go p.tables e below (P0 Z p0 p1 p2 p3 p4 p5 h0 n0 s) (T85.setTop (mkF m 210 #[.val (.long p0), .second, .val (.int p1), .val (.int p2), .val (.int p3), .val (.int p4), .val (.int p5), .val (.int z2), .val (.int z5), .val (.int z8), .val (.int z11), .val (.int z14), .val (.int z17), .val (.int (b2i z21)), .val (.int (b2i z25)), .val (.int (b2i z29)), .val (.int (b2i z33)), .val (.int (b2i z37)), .val (.ref b39), .unset, .unset, .unset, .unset] [(.int (b2i z37)), (.int (4 : Int32)), (.ref b67), (.ref b67)]))
                          obtain ⟨cl89, Ar89, hi89, -⟩ := F88.at (j := (4 : Int32)) (by decide) (Nat.le_of_ble_eq_true rfl)
                          obtain ⟨T89, h89, X89, e89, W89, st89⟩ := stZ Y85 hx hZ e85 Ar89 (j := (4 : Int32)) hi89 (g := (mkF m 210 #[.val (.long p0), .second, .val (.int p1), .val (.int p2), .val (.int p3), .val (.int p4), .val (.int p5), .val (.int z2), .val (.int z5), .val (.int z8), .val (.int z11), .val (.int z14), .val (.int z17), .val (.int (b2i z21)), .val (.int (b2i z25)), .val (.int (b2i z29)), .val (.int (b2i z33)), .val (.int (b2i z37)), .val (.ref b39), .unset, .unset, .unset, .unset] [(.int (b2i z37)), (.int (4 : Int32)), (.ref b67), (.ref b67)])) rfl rfl (hb hby at_210)
                          rw [nar_b2i] at W89
                          have F90 : n0 ≤ h89.size := Nat.le_trans F86 (Keep.of_wr W89).1
                          have F91 : ArL Z h89 b39 .int (List.map Value.int z64) := F87.other W89 ne68
                          have F92 : ArL Z h89 b67 .boolean [(.int (b2i z21)), (.int (b2i z25)), (.int (b2i z29)), (.int (b2i z33)), (.int (b2i z37))] := F88.set W89
                          obtain ⟨Lo89, Y89, N89⟩ := pk X89 (Fr.snoc X89 N85 g69)
                          refine Go.back st89 ?_
                          show Go p.tables e below (P0 Z p0 p1 p2 p3 p4 p5 h0 n0 s) (T89.setTop (mkF m 211 #[.val (.long p0), .second, .val (.int p1), .val (.int p2), .val (.int p3), .val (.int p4), .val (.int p5), .val (.int z2), .val (.int z5), .val (.int z8), .val (.int z11), .val (.int z14), .val (.int z17), .val (.int (b2i z21)), .val (.int (b2i z25)), .val (.int (b2i z29)), .val (.int (b2i z33)), .val (.int (b2i z37)), .val (.ref b39), .unset, .unset, .unset, .unset] [(.ref b67)]))
                          refine Go.back (fun t k => XS.astore Y89.here hx rfl (hb hby at_211) rfl rfl (l' := #[.val (.long p0), .second, .val (.int p1), .val (.int p2), .val (.int p3), .val (.int p4), .val (.int p5), .val (.int z2), .val (.int z5), .val (.int z8), .val (.int z11), .val (.int z14), .val (.int z17), .val (.int (b2i z21)), .val (.int (b2i z25)), .val (.int (b2i z29)), .val (.int (b2i z33)), .val (.int (b2i z37)), .val (.ref b39), .val (.ref b67), .unset, .unset, .unset]) rfl k) ?_
                          show Go p.tables e below (P0 Z p0 p1 p2 p3 p4 p5 h0 n0 s) (T89.setTop (mkF m 213 #[.val (.long p0), .second, .val (.int p1), .val (.int p2), .val (.int p3), .val (.int p4), .val (.int p5), .val (.int z2), .val (.int z5), .val (.int z8), .val (.int z11), .val (.int z14), .val (.int z17), .val (.int (b2i z21)), .val (.int (b2i z25)), .val (.int (b2i z29)), .val (.int (b2i z33)), .val (.int (b2i z37)), .val (.ref b39), .val (.ref b67), .unset, .unset, .unset] []))
                          have J93 : ∀ (z94 : List Int32) (hz94 : z94 = [(b2i z21), (b2i z25), (b2i z29), (b2i z33), (b2i z37)]) (F95 : ArL Z h89 b67 .boolean (List.map Value.int z94)), Go p.tables e below (P0 Z p0 p1 p2 p3 p4 p5 h0 n0 s) (T89.setTop (mkF m 213 #[.val (.long p0), .second, .val (.int p1), .val (.int p2), .val (.int p3), .val (.int p4), .val (.int p5), .val (.int z2), .val (.int z5), .val (.int z8), .val (.int z11), .val (.int z14), .val (.int z17), .val (.int (b2i z21)), .val (.int (b2i z25)), .val (.int (b2i z29)), .val (.int (b2i z33)), .val (.int (b2i z37)), .val (.ref b39), .val (.ref b67), .unset, .unset, .unset] [])) := by
                            intro z94 hz94 F95
                            have r96 : f0 p0 p1 p2 p3 p4 p5 = (let z135 : List Int64 := (g2_1 z2 z21 (0 : Int32) (1 : Int32) [(0 : Int64), (0 : Int64), (0 : Int64)]); let z137 : Int32 := (g2_2 z2 z21 (0 : Int32) (1 : Int32) [(0 : Int64), (0 : Int64), (0 : Int64)]); let z138 : Int32 := (g2_3 z2 z21 (0 : Int32) (1 : Int32) [(0 : Int64), (0 : Int64), (0 : Int64)]); (let z148 : List Int64 := (g2_1 z5 z25 z137 z138 z135); let z150 : Int32 := (g2_2 z5 z25 z137 z138 z135); let z151 : Int32 := (g2_3 z5 z25 z137 z138 z135); (let z161 : List Int64 := (g2_1 z8 z29 z150 z151 z148); let z163 : Int32 := (g2_2 z8 z29 z150 z151 z148); let z164 : Int32 := (g2_3 z8 z29 z150 z151 z148); (let z174 : List Int64 := (g2_1 z11 z33 z163 z164 z161); let z176 : Int32 := (g2_2 z11 z33 z163 z164 z161); let z177 : Int32 := (g2_3 z11 z33 z163 z164 z161); (let z187 : List Int64 := (g2_1 z14 z37 z176 z177 z174); let z189 : Int32 := (g2_2 z14 z37 z176 z177 z174); let z190 : Int32 := (g2_3 z14 z37 z176 z177 z174); (let z277 : List Int64 := (own_bitsr z94 (own_pkr z64).2.1 (own_pkr z64).2.2.1 (own_pkr z64).2.2.2 (own_pkr z64).1); (if (List.length z277).toInt32 = z190 then (let z287 : Bool := (if (f8 (0 : Int32) z277 z187 ((List.length z277).toInt32)) = true then (if (f8 (1 : Int32) z277 z187 ((List.length z277).toInt32)) = true then (if (f8 (2 : Int32) z277 z187 ((List.length z277).toInt32)) = true then true else false) else false) else false); z287) else false))))))) := by subst hz94; exact r66
                            show Go p.tables e below (P0 Z p0 p1 p2 p3 p4 p5 h0 n0 s) (T89.setTop (mkF m 213 #[.val (.long p0), .second, .val (.int p1), .val (.int p2), .val (.int p3), .val (.int p4), .val (.int p5), .val (.int z2), .val (.int z5), .val (.int z8), .val (.int z11), .val (.int z14), .val (.int z17), .val (.int (b2i z21)), .val (.int (b2i z25)), .val (.int (b2i z29)), .val (.int (b2i z33)), .val (.int (b2i z37)), .val (.ref b39), .val (.ref b67), .unset, .unset, .unset] []))
                            refine Go.back (fun t k => XS.iconst Y89.here hx rfl (hb hby at_213) k) ?_
                            show Go p.tables e below (P0 Z p0 p1 p2 p3 p4 p5 h0 n0 s) (T89.setTop (mkF m 214 #[.val (.long p0), .second, .val (.int p1), .val (.int p2), .val (.int p3), .val (.int p4), .val (.int p5), .val (.int z2), .val (.int z5), .val (.int z8), .val (.int z11), .val (.int z14), .val (.int z17), .val (.int (b2i z21)), .val (.int (b2i z25)), .val (.int (b2i z29)), .val (.int (b2i z33)), .val (.int (b2i z37)), .val (.ref b39), .val (.ref b67), .unset, .unset, .unset] [(.int (3 : Int32))]))
                            obtain ⟨T97, h97, k97, X97, e97, E97, A97, st97⟩ := newP Y89 hx hZ (hw _ (List.mem_of_getElem? (i := 8) rfl)) e89 (g := (mkF m 214 #[.val (.long p0), .second, .val (.int p1), .val (.int p2), .val (.int p3), .val (.int p4), .val (.int p5), .val (.int z2), .val (.int z5), .val (.int z8), .val (.int z11), .val (.int z14), .val (.int z17), .val (.int (b2i z21)), .val (.int (b2i z25)), .val (.int (b2i z29)), .val (.int (b2i z33)), .val (.int (b2i z37)), .val (.ref b39), .val (.ref b67), .unset, .unset, .unset] [(.int (3 : Int32))])) rfl (hb hby at_214) rfl (by decide) (cap := 3) (by decide) (by decide) (by decide) (by decide)
                            obtain ⟨b97, g97⟩ : ∃ z, z = h89.size := ⟨_, rfl⟩
                            rw [← g97] at A97 st97
                            have ne98 : b39 ≠ b97 := Nat.ne_of_lt (Nat.lt_of_lt_of_le F91.lt (Nat.le_of_eq g97.symm))
                            have ne99 : b67 ≠ b97 := Nat.ne_of_lt (Nat.lt_of_lt_of_le F95.lt (Nat.le_of_eq g97.symm))
                            have g100 : n0 ≤ b97 := Nat.le_trans F90 (Nat.le_of_eq g97.symm)
                            have F101 : n0 ≤ h97.size := Nat.le_trans F90 E97.1
                            have F102 : ArL Z h97 b39 .int (List.map Value.int z64) := F91.ext E97
                            have F103 : ArL Z h97 b67 .boolean (List.map Value.int z94) := F95.ext E97
                            have F104 : ArL Z h97 b97 .long [(.long (0 : Int64)), (.long (0 : Int64)), (.long (0 : Int64))] := ArL.new (ty := .long) A97 (n := 3) rfl
                            refine Go.back st97 ?_
                            show Go p.tables e below (P0 Z p0 p1 p2 p3 p4 p5 h0 n0 s) (T97.setTop (mkF m 216 #[.val (.long p0), .second, .val (.int p1), .val (.int p2), .val (.int p3), .val (.int p4), .val (.int p5), .val (.int z2), .val (.int z5), .val (.int z8), .val (.int z11), .val (.int z14), .val (.int z17), .val (.int (b2i z21)), .val (.int (b2i z25)), .val (.int (b2i z29)), .val (.int (b2i z33)), .val (.int (b2i z37)), .val (.ref b39), .val (.ref b67), .unset, .unset, .unset] [(.ref b97)]))
                            refine Go.back (fun t k => XS.astore X97.here hx rfl (hb hby at_216) rfl rfl (l' := #[.val (.long p0), .second, .val (.int p1), .val (.int p2), .val (.int p3), .val (.int p4), .val (.int p5), .val (.int z2), .val (.int z5), .val (.int z8), .val (.int z11), .val (.int z14), .val (.int z17), .val (.int (b2i z21)), .val (.int (b2i z25)), .val (.int (b2i z29)), .val (.int (b2i z33)), .val (.int (b2i z37)), .val (.ref b39), .val (.ref b67), .val (.ref b97), .unset, .unset]) rfl k) ?_
                            show Go p.tables e below (P0 Z p0 p1 p2 p3 p4 p5 h0 n0 s) (T97.setTop (mkF m 218 #[.val (.long p0), .second, .val (.int p1), .val (.int p2), .val (.int p3), .val (.int p4), .val (.int p5), .val (.int z2), .val (.int z5), .val (.int z8), .val (.int z11), .val (.int z14), .val (.int z17), .val (.int (b2i z21)), .val (.int (b2i z25)), .val (.int (b2i z29)), .val (.int (b2i z33)), .val (.int (b2i z37)), .val (.ref b39), .val (.ref b67), .val (.ref b97), .unset, .unset] []))
                            refine Go.back (fun t k => XS.iconst X97.here hx rfl (hb hby at_218) k) ?_
                            show Go p.tables e below (P0 Z p0 p1 p2 p3 p4 p5 h0 n0 s) (T97.setTop (mkF m 219 #[.val (.long p0), .second, .val (.int p1), .val (.int p2), .val (.int p3), .val (.int p4), .val (.int p5), .val (.int z2), .val (.int z5), .val (.int z8), .val (.int z11), .val (.int z14), .val (.int z17), .val (.int (b2i z21)), .val (.int (b2i z25)), .val (.int (b2i z29)), .val (.int (b2i z33)), .val (.int (b2i z37)), .val (.ref b39), .val (.ref b67), .val (.ref b97), .unset, .unset] [(.int (2 : Int32))]))
                            obtain ⟨T105, h105, k105, X105, e105, E105, A105, st105⟩ := newP X97 hx hZ (hw _ (List.mem_of_getElem? (i := 1) rfl)) e97 (g := (mkF m 219 #[.val (.long p0), .second, .val (.int p1), .val (.int p2), .val (.int p3), .val (.int p4), .val (.int p5), .val (.int z2), .val (.int z5), .val (.int z8), .val (.int z11), .val (.int z14), .val (.int z17), .val (.int (b2i z21)), .val (.int (b2i z25)), .val (.int (b2i z29)), .val (.int (b2i z33)), .val (.int (b2i z37)), .val (.ref b39), .val (.ref b67), .val (.ref b97), .unset, .unset] [(.int (2 : Int32))])) rfl (hb hby at_219) rfl (by decide) (cap := 2) (by decide) (by decide) (by decide) (by decide)
                            obtain ⟨b105, g105⟩ : ∃ z, z = h97.size := ⟨_, rfl⟩
                            rw [← g105] at A105 st105
                            have ne106 : b39 ≠ b105 := Nat.ne_of_lt (Nat.lt_of_lt_of_le F102.lt (Nat.le_of_eq g105.symm))
                            have ne107 : b67 ≠ b105 := Nat.ne_of_lt (Nat.lt_of_lt_of_le F103.lt (Nat.le_of_eq g105.symm))
                            have ne108 : b97 ≠ b105 := Nat.ne_of_lt (Nat.lt_of_lt_of_le F104.lt (Nat.le_of_eq g105.symm))
                            have g109 : n0 ≤ b105 := Nat.le_trans F101 (Nat.le_of_eq g105.symm)
                            have F110 : n0 ≤ h105.size := Nat.le_trans F101 E105.1
                            have F111 : ArL Z h105 b39 .int (List.map Value.int z64) := F102.ext E105
                            have F112 : ArL Z h105 b67 .boolean (List.map Value.int z94) := F103.ext E105
                            have F113 : ArL Z h105 b97 .long [(.long (0 : Int64)), (.long (0 : Int64)), (.long (0 : Int64))] := F104.ext E105
                            have F114 : ArL Z h105 b105 .int [(.int (0 : Int32)), (.int (0 : Int32))] := ArL.new (ty := .int) A105 (n := 2) rfl
                            refine Go.back st105 ?_
                            show Go p.tables e below (P0 Z p0 p1 p2 p3 p4 p5 h0 n0 s) (T105.setTop (mkF m 221 #[.val (.long p0), .second, .val (.int p1), .val (.int p2), .val (.int p3), .val (.int p4), .val (.int p5), .val (.int z2), .val (.int z5), .val (.int z8), .val (.int z11), .val (.int z14), .val (.int z17), .val (.int (b2i z21)), .val (.int (b2i z25)), .val (.int (b2i z29)), .val (.int (b2i z33)), .val (.int (b2i z37)), .val (.ref b39), .val (.ref b67), .val (.ref b97), .unset, .unset] [(.ref b105)]))
                            refine Go.back (fun t k => XS.dup X105.here hx rfl (hb hby at_221) rfl rfl k) ?_
                            show Go p.tables e below (P0 Z p0 p1 p2 p3 p4 p5 h0 n0 s) (T105.setTop (mkF m 222 #[.val (.long p0), .second, .val (.int p1), .val (.int p2), .val (.int p3), .val (.int p4), .val (.int p5), .val (.int z2), .val (.int z5), .val (.int z8), .val (.int z11), .val (.int z14), .val (.int z17), .val (.int (b2i z21)), .val (.int (b2i z25)), .val (.int (b2i z29)), .val (.int (b2i z33)), .val (.int (b2i z37)), .val (.ref b39), .val (.ref b67), .val (.ref b97), .unset, .unset] [(.ref b105), (.ref b105)]))
                            refine Go.back (fun t k => XS.iconst X105.here hx rfl (hb hby at_222) k) ?_
                            show Go p.tables e below (P0 Z p0 p1 p2 p3 p4 p5 h0 n0 s) (T105.setTop (mkF m 223 #[.val (.long p0), .second, .val (.int p1), .val (.int p2), .val (.int p3), .val (.int p4), .val (.int p5), .val (.int z2), .val (.int z5), .val (.int z8), .val (.int z11), .val (.int z14), .val (.int z17), .val (.int (b2i z21)), .val (.int (b2i z25)), .val (.int (b2i z29)), .val (.int (b2i z33)), .val (.int (b2i z37)), .val (.ref b39), .val (.ref b67), .val (.ref b97), .unset, .unset] [(.int (0 : Int32)), (.ref b105), (.ref b105)]))
                            refine Go.back (fun t k => XS.iconst X105.here hx rfl (hb hby at_223) k) ?_
                            show Go p.tables e below (P0 Z p0 p1 p2 p3 p4 p5 h0 n0 s) (T105.setTop (mkF m 224 #[.val (.long p0), .second, .val (.int p1), .val (.int p2), .val (.int p3), .val (.int p4), .val (.int p5), .val (.int z2), .val (.int z5), .val (.int z8), .val (.int z11), .val (.int z14), .val (.int z17), .val (.int (b2i z21)), .val (.int (b2i z25)), .val (.int (b2i z29)), .val (.int (b2i z33)), .val (.int (b2i z37)), .val (.ref b39), .val (.ref b67), .val (.ref b97), .unset, .unset] [(.int (0 : Int32)), (.int (0 : Int32)), (.ref b105), (.ref b105)]))
                            obtain ⟨cl115, Ar115, hi115, -⟩ := F114.at (j := (0 : Int32)) (by decide) (Nat.le_of_ble_eq_true rfl)
                            obtain ⟨T115, h115, X115, e115, W115, st115⟩ := stI X105 hx hZ e105 Ar115 (j := (0 : Int32)) hi115 (g := (mkF m 224 #[.val (.long p0), .second, .val (.int p1), .val (.int p2), .val (.int p3), .val (.int p4), .val (.int p5), .val (.int z2), .val (.int z5), .val (.int z8), .val (.int z11), .val (.int z14), .val (.int z17), .val (.int (b2i z21)), .val (.int (b2i z25)), .val (.int (b2i z29)), .val (.int (b2i z33)), .val (.int (b2i z37)), .val (.ref b39), .val (.ref b67), .val (.ref b97), .unset, .unset] [(.int (0 : Int32)), (.int (0 : Int32)), (.ref b105), (.ref b105)])) rfl rfl (hb hby at_224)
                            have F116 : n0 ≤ h115.size := Nat.le_trans F110 (Keep.of_wr W115).1
                            have F117 : ArL Z h115 b39 .int (List.map Value.int z64) := F111.other W115 ne106
                            have F118 : ArL Z h115 b67 .boolean (List.map Value.int z94) := F112.other W115 ne107
                            have F119 : ArL Z h115 b97 .long [(.long (0 : Int64)), (.long (0 : Int64)), (.long (0 : Int64))] := F113.other W115 ne108
                            have F120 : ArL Z h115 b105 .int [(.int (0 : Int32)), (.int (0 : Int32))] := F114.set W115
                            obtain ⟨Lo115, Y115, N115⟩ := pk X115 (Fr.snoc X115 N89 g109)
                            refine Go.back st115 ?_
                            show Go p.tables e below (P0 Z p0 p1 p2 p3 p4 p5 h0 n0 s) (T115.setTop (mkF m 225 #[.val (.long p0), .second, .val (.int p1), .val (.int p2), .val (.int p3), .val (.int p4), .val (.int p5), .val (.int z2), .val (.int z5), .val (.int z8), .val (.int z11), .val (.int z14), .val (.int z17), .val (.int (b2i z21)), .val (.int (b2i z25)), .val (.int (b2i z29)), .val (.int (b2i z33)), .val (.int (b2i z37)), .val (.ref b39), .val (.ref b67), .val (.ref b97), .unset, .unset] [(.ref b105)]))
                            refine Go.back (fun t k => XS.dup Y115.here hx rfl (hb hby at_225) rfl rfl k) ?_
                            show Go p.tables e below (P0 Z p0 p1 p2 p3 p4 p5 h0 n0 s) (T115.setTop (mkF m 226 #[.val (.long p0), .second, .val (.int p1), .val (.int p2), .val (.int p3), .val (.int p4), .val (.int p5), .val (.int z2), .val (.int z5), .val (.int z8), .val (.int z11), .val (.int z14), .val (.int z17), .val (.int (b2i z21)), .val (.int (b2i z25)), .val (.int (b2i z29)), .val (.int (b2i z33)), .val (.int (b2i z37)), .val (.ref b39), .val (.ref b67), .val (.ref b97), .unset, .unset] [(.ref b105), (.ref b105)]))
                            refine Go.back (fun t k => XS.iconst Y115.here hx rfl (hb hby at_226) k) ?_
                            show Go p.tables e below (P0 Z p0 p1 p2 p3 p4 p5 h0 n0 s) (T115.setTop (mkF m 227 #[.val (.long p0), .second, .val (.int p1), .val (.int p2), .val (.int p3), .val (.int p4), .val (.int p5), .val (.int z2), .val (.int z5), .val (.int z8), .val (.int z11), .val (.int z14), .val (.int z17), .val (.int (b2i z21)), .val (.int (b2i z25)), .val (.int (b2i z29)), .val (.int (b2i z33)), .val (.int (b2i z37)), .val (.ref b39), .val (.ref b67), .val (.ref b97), .unset, .unset] [(.int (1 : Int32)), (.ref b105), (.ref b105)]))
                            refine Go.back (fun t k => XS.iconst Y115.here hx rfl (hb hby at_227) k) ?_
                            show Go p.tables e below (P0 Z p0 p1 p2 p3 p4 p5 h0 n0 s) (T115.setTop (mkF m 228 #[.val (.long p0), .second, .val (.int p1), .val (.int p2), .val (.int p3), .val (.int p4), .val (.int p5), .val (.int z2), .val (.int z5), .val (.int z8), .val (.int z11), .val (.int z14), .val (.int z17), .val (.int (b2i z21)), .val (.int (b2i z25)), .val (.int (b2i z29)), .val (.int (b2i z33)), .val (.int (b2i z37)), .val (.ref b39), .val (.ref b67), .val (.ref b97), .unset, .unset] [(.int (1 : Int32)), (.int (1 : Int32)), (.ref b105), (.ref b105)]))
                            obtain ⟨cl121, Ar121, hi121, -⟩ := F120.at (j := (1 : Int32)) (by decide) (Nat.le_of_ble_eq_true rfl)
                            obtain ⟨T121, h121, X121, e121, W121, st121⟩ := stI Y115 hx hZ e115 Ar121 (j := (1 : Int32)) hi121 (g := (mkF m 228 #[.val (.long p0), .second, .val (.int p1), .val (.int p2), .val (.int p3), .val (.int p4), .val (.int p5), .val (.int z2), .val (.int z5), .val (.int z8), .val (.int z11), .val (.int z14), .val (.int z17), .val (.int (b2i z21)), .val (.int (b2i z25)), .val (.int (b2i z29)), .val (.int (b2i z33)), .val (.int (b2i z37)), .val (.ref b39), .val (.ref b67), .val (.ref b97), .unset, .unset] [(.int (1 : Int32)), (.int (1 : Int32)), (.ref b105), (.ref b105)])) rfl rfl (hb hby at_228)
                            have F122 : n0 ≤ h121.size := Nat.le_trans F116 (Keep.of_wr W121).1
                            have F123 : ArL Z h121 b39 .int (List.map Value.int z64) := F117.other W121 ne106
                            have F124 : ArL Z h121 b67 .boolean (List.map Value.int z94) := F118.other W121 ne107
                            have F125 : ArL Z h121 b97 .long [(.long (0 : Int64)), (.long (0 : Int64)), (.long (0 : Int64))] := F119.other W121 ne108
                            have F126 : ArL Z h121 b105 .int [(.int (0 : Int32)), (.int (1 : Int32))] := F120.set W121
                            obtain ⟨Lo121, Y121, N121⟩ := pk X121 (Fr.snoc X121 N115 g109)
                            refine Go.back st121 ?_
                            show Go p.tables e below (P0 Z p0 p1 p2 p3 p4 p5 h0 n0 s) (T121.setTop (mkF m 229 #[.val (.long p0), .second, .val (.int p1), .val (.int p2), .val (.int p3), .val (.int p4), .val (.int p5), .val (.int z2), .val (.int z5), .val (.int z8), .val (.int z11), .val (.int z14), .val (.int z17), .val (.int (b2i z21)), .val (.int (b2i z25)), .val (.int (b2i z29)), .val (.int (b2i z33)), .val (.int (b2i z37)), .val (.ref b39), .val (.ref b67), .val (.ref b97), .unset, .unset] [(.ref b105)]))
                            refine Go.back (fun t k => XS.astore Y121.here hx rfl (hb hby at_229) rfl rfl (l' := #[.val (.long p0), .second, .val (.int p1), .val (.int p2), .val (.int p3), .val (.int p4), .val (.int p5), .val (.int z2), .val (.int z5), .val (.int z8), .val (.int z11), .val (.int z14), .val (.int z17), .val (.int (b2i z21)), .val (.int (b2i z25)), .val (.int (b2i z29)), .val (.int (b2i z33)), .val (.int (b2i z37)), .val (.ref b39), .val (.ref b67), .val (.ref b97), .val (.ref b105), .unset]) rfl k) ?_
                            show Go p.tables e below (P0 Z p0 p1 p2 p3 p4 p5 h0 n0 s) (T121.setTop (mkF m 231 #[.val (.long p0), .second, .val (.int p1), .val (.int p2), .val (.int p3), .val (.int p4), .val (.int p5), .val (.int z2), .val (.int z5), .val (.int z8), .val (.int z11), .val (.int z14), .val (.int z17), .val (.int (b2i z21)), .val (.int (b2i z25)), .val (.int (b2i z29)), .val (.int (b2i z33)), .val (.int (b2i z37)), .val (.ref b39), .val (.ref b67), .val (.ref b97), .val (.ref b105), .unset] []))
                            refine Go.back (fun t k => XS.iload Y121.here hx rfl (hb hby at_231) rfl  k) ?_
                            show Go p.tables e below (P0 Z p0 p1 p2 p3 p4 p5 h0 n0 s) (T121.setTop (mkF m 233 #[.val (.long p0), .second, .val (.int p1), .val (.int p2), .val (.int p3), .val (.int p4), .val (.int p5), .val (.int z2), .val (.int z5), .val (.int z8), .val (.int z11), .val (.int z14), .val (.int z17), .val (.int (b2i z21)), .val (.int (b2i z25)), .val (.int (b2i z29)), .val (.int (b2i z33)), .val (.int (b2i z37)), .val (.ref b39), .val (.ref b67), .val (.ref b97), .val (.ref b105), .unset] [(.int z2)]))
                            refine Go.back (fun t k => XS.iload Y121.here hx rfl (hb hby at_233) rfl  k) ?_
                            show Go p.tables e below (P0 Z p0 p1 p2 p3 p4 p5 h0 n0 s) (T121.setTop (mkF m 235 #[.val (.long p0), .second, .val (.int p1), .val (.int p2), .val (.int p3), .val (.int p4), .val (.int p5), .val (.int z2), .val (.int z5), .val (.int z8), .val (.int z11), .val (.int z14), .val (.int z17), .val (.int (b2i z21)), .val (.int (b2i z25)), .val (.int (b2i z29)), .val (.int (b2i z33)), .val (.int (b2i z37)), .val (.ref b39), .val (.ref b67), .val (.ref b97), .val (.ref b105), .unset] [(.int (b2i z21)), (.int z2)]))
                            refine Go.back (fun t k => XS.aload Y121.here hx rfl (hb hby at_235) rfl rfl  k) ?_
                            show Go p.tables e below (P0 Z p0 p1 p2 p3 p4 p5 h0 n0 s) (T121.setTop (mkF m 237 #[.val (.long p0), .second, .val (.int p1), .val (.int p2), .val (.int p3), .val (.int p4), .val (.int p5), .val (.int z2), .val (.int z5), .val (.int z8), .val (.int z11), .val (.int z14), .val (.int z17), .val (.int (b2i z21)), .val (.int (b2i z25)), .val (.int (b2i z29)), .val (.int (b2i z33)), .val (.int (b2i z37)), .val (.ref b39), .val (.ref b67), .val (.ref b97), .val (.ref b105), .unset] [(.ref b97), (.int (b2i z21)), (.int z2)]))
                            refine Go.back (fun t k => XS.aload Y121.here hx rfl (hb hby at_237) rfl rfl  k) ?_
                            show Go p.tables e below (P0 Z p0 p1 p2 p3 p4 p5 h0 n0 s) (T121.setTop (mkF m 239 #[.val (.long p0), .second, .val (.int p1), .val (.int p2), .val (.int p3), .val (.int p4), .val (.int p5), .val (.int z2), .val (.int z5), .val (.int z8), .val (.int z11), .val (.int z14), .val (.int z17), .val (.int (b2i z21)), .val (.int (b2i z25)), .val (.int (b2i z29)), .val (.int (b2i z33)), .val (.int (b2i z37)), .val (.ref b39), .val (.ref b67), .val (.ref b97), .val (.ref b105), .unset] [(.ref b105), (.ref b97), (.int (b2i z21)), (.int z2)]))
                            obtain ⟨_, _, ⟨T127, L127, k127, n127⟩, -, X127, ⟨Lc127, hQ127, l127, y127, z127⟩, st127⟩ := Jvm.LawKit.callS Y121 hx (y := (⟨"com/example/onward/onward/explore/PackingBitsOfPinLaw", "place", "(IZ[J[I)V"⟩ : MethodName)) hown (mvT hZ (hw _ (List.mem_of_getElem? (i := 9) rfl))) (mvT hZ (hw _ (List.mem_of_getElem? (i := 10) rfl))) (mvT hZ (hw _ (List.mem_of_getElem? (i := 4) rfl))) (mvT hZ (hw _ (List.mem_of_getElem? (i := 11) rfl))) (by decide) (backOf (W := 0) (rm2 l Z a0 hw [] z2 z21 b97 b105 (0 : Int32) (1 : Int32) [(0 : Int64), (0 : Int64), (0 : Int64)] h121 n0 F122 F125 F126 g100 g109 ne108 (own_pb_of own_inv0 (by rw [hz2]; exact own_b31 _) (by decide) (by simp [hz64, hz94, own_g2_len]))) hZ (hw _ (List.mem_of_getElem? (i := 11) rfl)) (hw _ (List.mem_of_getElem? (i := 4) rfl)) (by decide) (by decide)) (g := (mkF m 239 #[.val (.long p0), .second, .val (.int p1), .val (.int p2), .val (.int p3), .val (.int p4), .val (.int p5), .val (.int z2), .val (.int z5), .val (.int z8), .val (.int z11), .val (.int z14), .val (.int z17), .val (.int (b2i z21)), .val (.int (b2i z25)), .val (.int (b2i z29)), .val (.int (b2i z33)), .val (.int (b2i z37)), .val (.ref b39), .val (.ref b67), .val (.ref b97), .val (.ref b105), .unset] [(.ref b105), (.ref b97), (.int (b2i z21)), (.int z2)])) rfl (by rw [hml]; rfl) (argsL := [(.int z2), (.int (b2i z21)), (.ref b97), (.ref b105)]) (rest := []) (lenOf pd_2 rfl) rfl (by show 2 * 0 + _ ≤ _; exact Nat.le_of_eq rfl) (hb hby at_239) (fun _ _ => ⟨rfl, e121, (by decide : 4 + 0 ≤ _), (by decide : 15 + 0 ≤ _)⟩)
                            dsimp only [Pt.U, Pt.locs, Pt.cells, Pt.slots] at X127 l127 y127 z127 st127 hQ127
                            subst l127 y127 z127
                            obtain ⟨h127, e127⟩ : ∃ z, T127.heap = z := ⟨_, rfl⟩
                            rw [e127] at hQ127
                            obtain ⟨rfl, N127q, K127, F131, F132⟩ := hQ127
                            obtain ⟨Lo127, Y127, N127⟩ := pk X127 (Fr.app N121 N127q)
                            have F128 : n0 ≤ h127.size := Nat.le_trans F122 K127.1
                            have F129 : ArL Z h127 b39 .int (List.map Value.int z64) := F123.keep K127 (ninS ne98 (ninS ne106 nin0))
                            have F130 : ArL Z h127 b67 .boolean (List.map Value.int z94) := F124.keep K127 (ninS ne99 (ninS ne107 nin0))
                            refine Go.back st127 ?_
                            show Go p.tables e below (P0 Z p0 p1 p2 p3 p4 p5 h0 n0 s) (T127.setTop (mkF m 242 #[.val (.long p0), .second, .val (.int p1), .val (.int p2), .val (.int p3), .val (.int p4), .val (.int p5), .val (.int z2), .val (.int z5), .val (.int z8), .val (.int z11), .val (.int z14), .val (.int z17), .val (.int (b2i z21)), .val (.int (b2i z25)), .val (.int (b2i z29)), .val (.int (b2i z33)), .val (.int (b2i z37)), .val (.ref b39), .val (.ref b67), .val (.ref b97), .val (.ref b105), .unset] []))
                            have J133 : ∀ (z135 : List Int64) (z137 : Int32) (z138 : Int32) (hz135 : z135 = (g2_1 z2 z21 (0 : Int32) (1 : Int32) [(0 : Int64), (0 : Int64), (0 : Int64)])) (hz137 : z137 = (g2_2 z2 z21 (0 : Int32) (1 : Int32) [(0 : Int64), (0 : Int64), (0 : Int64)])) (hz138 : z138 = (g2_3 z2 z21 (0 : Int32) (1 : Int32) [(0 : Int64), (0 : Int64), (0 : Int64)])) (F134 : ArL Z h127 b97 .long (List.map Value.long z135)) (F136 : ArL Z h127 b105 .int [(.int z137), (.int z138)]), Go p.tables e below (P0 Z p0 p1 p2 p3 p4 p5 h0 n0 s) (T127.setTop (mkF m 242 #[.val (.long p0), .second, .val (.int p1), .val (.int p2), .val (.int p3), .val (.int p4), .val (.int p5), .val (.int z2), .val (.int z5), .val (.int z8), .val (.int z11), .val (.int z14), .val (.int z17), .val (.int (b2i z21)), .val (.int (b2i z25)), .val (.int (b2i z29)), .val (.int (b2i z33)), .val (.int (b2i z37)), .val (.ref b39), .val (.ref b67), .val (.ref b97), .val (.ref b105), .unset] [])) := by
                              intro z135 z137 z138 hz135 hz137 hz138 F134 F136
                              have r139 : f0 p0 p1 p2 p3 p4 p5 = (let z148 : List Int64 := (g2_1 z5 z25 z137 z138 z135); let z150 : Int32 := (g2_2 z5 z25 z137 z138 z135); let z151 : Int32 := (g2_3 z5 z25 z137 z138 z135); (let z161 : List Int64 := (g2_1 z8 z29 z150 z151 z148); let z163 : Int32 := (g2_2 z8 z29 z150 z151 z148); let z164 : Int32 := (g2_3 z8 z29 z150 z151 z148); (let z174 : List Int64 := (g2_1 z11 z33 z163 z164 z161); let z176 : Int32 := (g2_2 z11 z33 z163 z164 z161); let z177 : Int32 := (g2_3 z11 z33 z163 z164 z161); (let z187 : List Int64 := (g2_1 z14 z37 z176 z177 z174); let z189 : Int32 := (g2_2 z14 z37 z176 z177 z174); let z190 : Int32 := (g2_3 z14 z37 z176 z177 z174); (let z277 : List Int64 := (own_bitsr z94 (own_pkr z64).2.1 (own_pkr z64).2.2.1 (own_pkr z64).2.2.2 (own_pkr z64).1); (if (List.length z277).toInt32 = z190 then (let z287 : Bool := (if (f8 (0 : Int32) z277 z187 ((List.length z277).toInt32)) = true then (if (f8 (1 : Int32) z277 z187 ((List.length z277).toInt32)) = true then (if (f8 (2 : Int32) z277 z187 ((List.length z277).toInt32)) = true then true else false) else false) else false); z287) else false)))))) := by subst hz138; subst hz137; subst hz135; exact r96
                              show Go p.tables e below (P0 Z p0 p1 p2 p3 p4 p5 h0 n0 s) (T127.setTop (mkF m 242 #[.val (.long p0), .second, .val (.int p1), .val (.int p2), .val (.int p3), .val (.int p4), .val (.int p5), .val (.int z2), .val (.int z5), .val (.int z8), .val (.int z11), .val (.int z14), .val (.int z17), .val (.int (b2i z21)), .val (.int (b2i z25)), .val (.int (b2i z29)), .val (.int (b2i z33)), .val (.int (b2i z37)), .val (.ref b39), .val (.ref b67), .val (.ref b97), .val (.ref b105), .unset] []))
                              refine Go.back (fun t k => XS.iload Y127.here hx rfl (hb hby at_242) rfl  k) ?_
                              show Go p.tables e below (P0 Z p0 p1 p2 p3 p4 p5 h0 n0 s) (T127.setTop (mkF m 244 #[.val (.long p0), .second, .val (.int p1), .val (.int p2), .val (.int p3), .val (.int p4), .val (.int p5), .val (.int z2), .val (.int z5), .val (.int z8), .val (.int z11), .val (.int z14), .val (.int z17), .val (.int (b2i z21)), .val (.int (b2i z25)), .val (.int (b2i z29)), .val (.int (b2i z33)), .val (.int (b2i z37)), .val (.ref b39), .val (.ref b67), .val (.ref b97), .val (.ref b105), .unset] [(.int z5)]))
                              have hi1 : own_inv 1 z137 z138 := by rw [hz137, hz138]; exact own_inv_next own_inv0 (by rw [hz2]; exact own_b31 _)
                              refine Go.back (fun t k => XS.iload Y127.here hx rfl (hb hby at_244) rfl  k) ?_
                              show Go p.tables e below (P0 Z p0 p1 p2 p3 p4 p5 h0 n0 s) (T127.setTop (mkF m 246 #[.val (.long p0), .second, .val (.int p1), .val (.int p2), .val (.int p3), .val (.int p4), .val (.int p5), .val (.int z2), .val (.int z5), .val (.int z8), .val (.int z11), .val (.int z14), .val (.int z17), .val (.int (b2i z21)), .val (.int (b2i z25)), .val (.int (b2i z29)), .val (.int (b2i z33)), .val (.int (b2i z37)), .val (.ref b39), .val (.ref b67), .val (.ref b97), .val (.ref b105), .unset] [(.int (b2i z25)), (.int z5)]))
                              refine Go.back (fun t k => XS.aload Y127.here hx rfl (hb hby at_246) rfl rfl  k) ?_
                              show Go p.tables e below (P0 Z p0 p1 p2 p3 p4 p5 h0 n0 s) (T127.setTop (mkF m 248 #[.val (.long p0), .second, .val (.int p1), .val (.int p2), .val (.int p3), .val (.int p4), .val (.int p5), .val (.int z2), .val (.int z5), .val (.int z8), .val (.int z11), .val (.int z14), .val (.int z17), .val (.int (b2i z21)), .val (.int (b2i z25)), .val (.int (b2i z29)), .val (.int (b2i z33)), .val (.int (b2i z37)), .val (.ref b39), .val (.ref b67), .val (.ref b97), .val (.ref b105), .unset] [(.ref b97), (.int (b2i z25)), (.int z5)]))
                              refine Go.back (fun t k => XS.aload Y127.here hx rfl (hb hby at_248) rfl rfl  k) ?_
                              show Go p.tables e below (P0 Z p0 p1 p2 p3 p4 p5 h0 n0 s) (T127.setTop (mkF m 250 #[.val (.long p0), .second, .val (.int p1), .val (.int p2), .val (.int p3), .val (.int p4), .val (.int p5), .val (.int z2), .val (.int z5), .val (.int z8), .val (.int z11), .val (.int z14), .val (.int z17), .val (.int (b2i z21)), .val (.int (b2i z25)), .val (.int (b2i z29)), .val (.int (b2i z33)), .val (.int (b2i z37)), .val (.ref b39), .val (.ref b67), .val (.ref b97), .val (.ref b105), .unset] [(.ref b105), (.ref b97), (.int (b2i z25)), (.int z5)]))
                              obtain ⟨_, _, ⟨T140, L140, k140, n140⟩, -, X140, ⟨Lc140, hQ140, l140, y140, z140⟩, st140⟩ := Jvm.LawKit.callS Y127 hx (y := (⟨"com/example/onward/onward/explore/PackingBitsOfPinLaw", "place", "(IZ[J[I)V"⟩ : MethodName)) hown (mvT hZ (hw _ (List.mem_of_getElem? (i := 9) rfl))) (mvT hZ (hw _ (List.mem_of_getElem? (i := 10) rfl))) (mvT hZ (hw _ (List.mem_of_getElem? (i := 4) rfl))) (mvT hZ (hw _ (List.mem_of_getElem? (i := 11) rfl))) (by decide) (backOf (W := 0) (rm2 l Z a0 hw [] z5 z25 b97 b105 z137 z138 z135 h127 n0 F128 F134 F136 g100 g109 ne108 (own_pb_of hi1 (by rw [hz5]; exact own_b31 _) (by decide) (by simp [hz64, hz94, hz135, own_g2_len]))) hZ (hw _ (List.mem_of_getElem? (i := 11) rfl)) (hw _ (List.mem_of_getElem? (i := 4) rfl)) (by decide) (by decide)) (g := (mkF m 250 #[.val (.long p0), .second, .val (.int p1), .val (.int p2), .val (.int p3), .val (.int p4), .val (.int p5), .val (.int z2), .val (.int z5), .val (.int z8), .val (.int z11), .val (.int z14), .val (.int z17), .val (.int (b2i z21)), .val (.int (b2i z25)), .val (.int (b2i z29)), .val (.int (b2i z33)), .val (.int (b2i z37)), .val (.ref b39), .val (.ref b67), .val (.ref b97), .val (.ref b105), .unset] [(.ref b105), (.ref b97), (.int (b2i z25)), (.int z5)])) rfl (by rw [hml]; rfl) (argsL := [(.int z5), (.int (b2i z25)), (.ref b97), (.ref b105)]) (rest := []) (lenOf pd_2 rfl) rfl (by show 2 * 0 + _ ≤ _; exact Nat.le_of_eq rfl) (hb hby at_250) (fun _ _ => ⟨rfl, e127, (by decide : 4 + 0 ≤ _), (by decide : 15 + 0 ≤ _)⟩)
                              dsimp only [Pt.U, Pt.locs, Pt.cells, Pt.slots] at X140 l140 y140 z140 st140 hQ140
                              subst l140 y140 z140
                              obtain ⟨h140, e140⟩ : ∃ z, T140.heap = z := ⟨_, rfl⟩
                              rw [e140] at hQ140
                              obtain ⟨rfl, N140q, K140, F144, F145⟩ := hQ140
                              obtain ⟨Lo140, Y140, N140⟩ := pk X140 (Fr.app N127 N140q)
                              have F141 : n0 ≤ h140.size := Nat.le_trans F128 K140.1
                              have F142 : ArL Z h140 b39 .int (List.map Value.int z64) := F129.keep K140 (ninS ne98 (ninS ne106 nin0))
                              have F143 : ArL Z h140 b67 .boolean (List.map Value.int z94) := F130.keep K140 (ninS ne99 (ninS ne107 nin0))
                              refine Go.back st140 ?_
                              show Go p.tables e below (P0 Z p0 p1 p2 p3 p4 p5 h0 n0 s) (T140.setTop (mkF m 253 #[.val (.long p0), .second, .val (.int p1), .val (.int p2), .val (.int p3), .val (.int p4), .val (.int p5), .val (.int z2), .val (.int z5), .val (.int z8), .val (.int z11), .val (.int z14), .val (.int z17), .val (.int (b2i z21)), .val (.int (b2i z25)), .val (.int (b2i z29)), .val (.int (b2i z33)), .val (.int (b2i z37)), .val (.ref b39), .val (.ref b67), .val (.ref b97), .val (.ref b105), .unset] []))
                              have J146 : ∀ (z148 : List Int64) (z150 : Int32) (z151 : Int32) (hz148 : z148 = (g2_1 z5 z25 z137 z138 z135)) (hz150 : z150 = (g2_2 z5 z25 z137 z138 z135)) (hz151 : z151 = (g2_3 z5 z25 z137 z138 z135)) (F147 : ArL Z h140 b97 .long (List.map Value.long z148)) (F149 : ArL Z h140 b105 .int [(.int z150), (.int z151)]), Go p.tables e below (P0 Z p0 p1 p2 p3 p4 p5 h0 n0 s) (T140.setTop (mkF m 253 #[.val (.long p0), .second, .val (.int p1), .val (.int p2), .val (.int p3), .val (.int p4), .val (.int p5), .val (.int z2), .val (.int z5), .val (.int z8), .val (.int z11), .val (.int z14), .val (.int z17), .val (.int (b2i z21)), .val (.int (b2i z25)), .val (.int (b2i z29)), .val (.int (b2i z33)), .val (.int (b2i z37)), .val (.ref b39), .val (.ref b67), .val (.ref b97), .val (.ref b105), .unset] [])) := by
                                intro z148 z150 z151 hz148 hz150 hz151 F147 F149
                                have r152 : f0 p0 p1 p2 p3 p4 p5 = (let z161 : List Int64 := (g2_1 z8 z29 z150 z151 z148); let z163 : Int32 := (g2_2 z8 z29 z150 z151 z148); let z164 : Int32 := (g2_3 z8 z29 z150 z151 z148); (let z174 : List Int64 := (g2_1 z11 z33 z163 z164 z161); let z176 : Int32 := (g2_2 z11 z33 z163 z164 z161); let z177 : Int32 := (g2_3 z11 z33 z163 z164 z161); (let z187 : List Int64 := (g2_1 z14 z37 z176 z177 z174); let z189 : Int32 := (g2_2 z14 z37 z176 z177 z174); let z190 : Int32 := (g2_3 z14 z37 z176 z177 z174); (let z277 : List Int64 := (own_bitsr z94 (own_pkr z64).2.1 (own_pkr z64).2.2.1 (own_pkr z64).2.2.2 (own_pkr z64).1); (if (List.length z277).toInt32 = z190 then (let z287 : Bool := (if (f8 (0 : Int32) z277 z187 ((List.length z277).toInt32)) = true then (if (f8 (1 : Int32) z277 z187 ((List.length z277).toInt32)) = true then (if (f8 (2 : Int32) z277 z187 ((List.length z277).toInt32)) = true then true else false) else false) else false); z287) else false))))) := by subst hz151; subst hz150; subst hz148; exact r139
                                show Go p.tables e below (P0 Z p0 p1 p2 p3 p4 p5 h0 n0 s) (T140.setTop (mkF m 253 #[.val (.long p0), .second, .val (.int p1), .val (.int p2), .val (.int p3), .val (.int p4), .val (.int p5), .val (.int z2), .val (.int z5), .val (.int z8), .val (.int z11), .val (.int z14), .val (.int z17), .val (.int (b2i z21)), .val (.int (b2i z25)), .val (.int (b2i z29)), .val (.int (b2i z33)), .val (.int (b2i z37)), .val (.ref b39), .val (.ref b67), .val (.ref b97), .val (.ref b105), .unset] []))
                                refine Go.back (fun t k => XS.iload Y140.here hx rfl (hb hby at_253) rfl  k) ?_
                                show Go p.tables e below (P0 Z p0 p1 p2 p3 p4 p5 h0 n0 s) (T140.setTop (mkF m 255 #[.val (.long p0), .second, .val (.int p1), .val (.int p2), .val (.int p3), .val (.int p4), .val (.int p5), .val (.int z2), .val (.int z5), .val (.int z8), .val (.int z11), .val (.int z14), .val (.int z17), .val (.int (b2i z21)), .val (.int (b2i z25)), .val (.int (b2i z29)), .val (.int (b2i z33)), .val (.int (b2i z37)), .val (.ref b39), .val (.ref b67), .val (.ref b97), .val (.ref b105), .unset] [(.int z8)]))
                                have hi2 : own_inv 2 z150 z151 := by rw [hz150, hz151]; exact own_inv_next hi1 (by rw [hz5]; exact own_b31 _)
                                refine Go.back (fun t k => XS.iload Y140.here hx rfl (hb hby at_255) rfl  k) ?_
                                show Go p.tables e below (P0 Z p0 p1 p2 p3 p4 p5 h0 n0 s) (T140.setTop (mkF m 257 #[.val (.long p0), .second, .val (.int p1), .val (.int p2), .val (.int p3), .val (.int p4), .val (.int p5), .val (.int z2), .val (.int z5), .val (.int z8), .val (.int z11), .val (.int z14), .val (.int z17), .val (.int (b2i z21)), .val (.int (b2i z25)), .val (.int (b2i z29)), .val (.int (b2i z33)), .val (.int (b2i z37)), .val (.ref b39), .val (.ref b67), .val (.ref b97), .val (.ref b105), .unset] [(.int (b2i z29)), (.int z8)]))
                                refine Go.back (fun t k => XS.aload Y140.here hx rfl (hb hby at_257) rfl rfl  k) ?_
                                show Go p.tables e below (P0 Z p0 p1 p2 p3 p4 p5 h0 n0 s) (T140.setTop (mkF m 259 #[.val (.long p0), .second, .val (.int p1), .val (.int p2), .val (.int p3), .val (.int p4), .val (.int p5), .val (.int z2), .val (.int z5), .val (.int z8), .val (.int z11), .val (.int z14), .val (.int z17), .val (.int (b2i z21)), .val (.int (b2i z25)), .val (.int (b2i z29)), .val (.int (b2i z33)), .val (.int (b2i z37)), .val (.ref b39), .val (.ref b67), .val (.ref b97), .val (.ref b105), .unset] [(.ref b97), (.int (b2i z29)), (.int z8)]))
                                refine Go.back (fun t k => XS.aload Y140.here hx rfl (hb hby at_259) rfl rfl  k) ?_
                                show Go p.tables e below (P0 Z p0 p1 p2 p3 p4 p5 h0 n0 s) (T140.setTop (mkF m 261 #[.val (.long p0), .second, .val (.int p1), .val (.int p2), .val (.int p3), .val (.int p4), .val (.int p5), .val (.int z2), .val (.int z5), .val (.int z8), .val (.int z11), .val (.int z14), .val (.int z17), .val (.int (b2i z21)), .val (.int (b2i z25)), .val (.int (b2i z29)), .val (.int (b2i z33)), .val (.int (b2i z37)), .val (.ref b39), .val (.ref b67), .val (.ref b97), .val (.ref b105), .unset] [(.ref b105), (.ref b97), (.int (b2i z29)), (.int z8)]))
                                obtain ⟨_, _, ⟨T153, L153, k153, n153⟩, -, X153, ⟨Lc153, hQ153, l153, y153, z153⟩, st153⟩ := Jvm.LawKit.callS Y140 hx (y := (⟨"com/example/onward/onward/explore/PackingBitsOfPinLaw", "place", "(IZ[J[I)V"⟩ : MethodName)) hown (mvT hZ (hw _ (List.mem_of_getElem? (i := 9) rfl))) (mvT hZ (hw _ (List.mem_of_getElem? (i := 10) rfl))) (mvT hZ (hw _ (List.mem_of_getElem? (i := 4) rfl))) (mvT hZ (hw _ (List.mem_of_getElem? (i := 11) rfl))) (by decide) (backOf (W := 0) (rm2 l Z a0 hw [] z8 z29 b97 b105 z150 z151 z148 h140 n0 F141 F147 F149 g100 g109 ne108 (own_pb_of hi2 (by rw [hz8]; exact own_b31 _) (by decide) (by simp [hz64, hz94, hz135, hz148, own_g2_len]))) hZ (hw _ (List.mem_of_getElem? (i := 11) rfl)) (hw _ (List.mem_of_getElem? (i := 4) rfl)) (by decide) (by decide)) (g := (mkF m 261 #[.val (.long p0), .second, .val (.int p1), .val (.int p2), .val (.int p3), .val (.int p4), .val (.int p5), .val (.int z2), .val (.int z5), .val (.int z8), .val (.int z11), .val (.int z14), .val (.int z17), .val (.int (b2i z21)), .val (.int (b2i z25)), .val (.int (b2i z29)), .val (.int (b2i z33)), .val (.int (b2i z37)), .val (.ref b39), .val (.ref b67), .val (.ref b97), .val (.ref b105), .unset] [(.ref b105), (.ref b97), (.int (b2i z29)), (.int z8)])) rfl (by rw [hml]; rfl) (argsL := [(.int z8), (.int (b2i z29)), (.ref b97), (.ref b105)]) (rest := []) (lenOf pd_2 rfl) rfl (by show 2 * 0 + _ ≤ _; exact Nat.le_of_eq rfl) (hb hby at_261) (fun _ _ => ⟨rfl, e140, (by decide : 4 + 0 ≤ _), (by decide : 15 + 0 ≤ _)⟩)
                                dsimp only [Pt.U, Pt.locs, Pt.cells, Pt.slots] at X153 l153 y153 z153 st153 hQ153
                                subst l153 y153 z153
                                obtain ⟨h153, e153⟩ : ∃ z, T153.heap = z := ⟨_, rfl⟩
                                rw [e153] at hQ153
                                obtain ⟨rfl, N153q, K153, F157, F158⟩ := hQ153
                                obtain ⟨Lo153, Y153, N153⟩ := pk X153 (Fr.app N140 N153q)
                                have F154 : n0 ≤ h153.size := Nat.le_trans F141 K153.1
                                have F155 : ArL Z h153 b39 .int (List.map Value.int z64) := F142.keep K153 (ninS ne98 (ninS ne106 nin0))
                                have F156 : ArL Z h153 b67 .boolean (List.map Value.int z94) := F143.keep K153 (ninS ne99 (ninS ne107 nin0))
                                refine Go.back st153 ?_
                                show Go p.tables e below (P0 Z p0 p1 p2 p3 p4 p5 h0 n0 s) (T153.setTop (mkF m 264 #[.val (.long p0), .second, .val (.int p1), .val (.int p2), .val (.int p3), .val (.int p4), .val (.int p5), .val (.int z2), .val (.int z5), .val (.int z8), .val (.int z11), .val (.int z14), .val (.int z17), .val (.int (b2i z21)), .val (.int (b2i z25)), .val (.int (b2i z29)), .val (.int (b2i z33)), .val (.int (b2i z37)), .val (.ref b39), .val (.ref b67), .val (.ref b97), .val (.ref b105), .unset] []))
                                have J159 : ∀ (z161 : List Int64) (z163 : Int32) (z164 : Int32) (hz161 : z161 = (g2_1 z8 z29 z150 z151 z148)) (hz163 : z163 = (g2_2 z8 z29 z150 z151 z148)) (hz164 : z164 = (g2_3 z8 z29 z150 z151 z148)) (F160 : ArL Z h153 b97 .long (List.map Value.long z161)) (F162 : ArL Z h153 b105 .int [(.int z163), (.int z164)]), Go p.tables e below (P0 Z p0 p1 p2 p3 p4 p5 h0 n0 s) (T153.setTop (mkF m 264 #[.val (.long p0), .second, .val (.int p1), .val (.int p2), .val (.int p3), .val (.int p4), .val (.int p5), .val (.int z2), .val (.int z5), .val (.int z8), .val (.int z11), .val (.int z14), .val (.int z17), .val (.int (b2i z21)), .val (.int (b2i z25)), .val (.int (b2i z29)), .val (.int (b2i z33)), .val (.int (b2i z37)), .val (.ref b39), .val (.ref b67), .val (.ref b97), .val (.ref b105), .unset] [])) := by
                                  intro z161 z163 z164 hz161 hz163 hz164 F160 F162
                                  have r165 : f0 p0 p1 p2 p3 p4 p5 = (let z174 : List Int64 := (g2_1 z11 z33 z163 z164 z161); let z176 : Int32 := (g2_2 z11 z33 z163 z164 z161); let z177 : Int32 := (g2_3 z11 z33 z163 z164 z161); (let z187 : List Int64 := (g2_1 z14 z37 z176 z177 z174); let z189 : Int32 := (g2_2 z14 z37 z176 z177 z174); let z190 : Int32 := (g2_3 z14 z37 z176 z177 z174); (let z277 : List Int64 := (own_bitsr z94 (own_pkr z64).2.1 (own_pkr z64).2.2.1 (own_pkr z64).2.2.2 (own_pkr z64).1); (if (List.length z277).toInt32 = z190 then (let z287 : Bool := (if (f8 (0 : Int32) z277 z187 ((List.length z277).toInt32)) = true then (if (f8 (1 : Int32) z277 z187 ((List.length z277).toInt32)) = true then (if (f8 (2 : Int32) z277 z187 ((List.length z277).toInt32)) = true then true else false) else false) else false); z287) else false)))) := by subst hz164; subst hz163; subst hz161; exact r152
                                  show Go p.tables e below (P0 Z p0 p1 p2 p3 p4 p5 h0 n0 s) (T153.setTop (mkF m 264 #[.val (.long p0), .second, .val (.int p1), .val (.int p2), .val (.int p3), .val (.int p4), .val (.int p5), .val (.int z2), .val (.int z5), .val (.int z8), .val (.int z11), .val (.int z14), .val (.int z17), .val (.int (b2i z21)), .val (.int (b2i z25)), .val (.int (b2i z29)), .val (.int (b2i z33)), .val (.int (b2i z37)), .val (.ref b39), .val (.ref b67), .val (.ref b97), .val (.ref b105), .unset] []))
                                  refine Go.back (fun t k => XS.iload Y153.here hx rfl (hb hby at_264) rfl  k) ?_
                                  show Go p.tables e below (P0 Z p0 p1 p2 p3 p4 p5 h0 n0 s) (T153.setTop (mkF m 266 #[.val (.long p0), .second, .val (.int p1), .val (.int p2), .val (.int p3), .val (.int p4), .val (.int p5), .val (.int z2), .val (.int z5), .val (.int z8), .val (.int z11), .val (.int z14), .val (.int z17), .val (.int (b2i z21)), .val (.int (b2i z25)), .val (.int (b2i z29)), .val (.int (b2i z33)), .val (.int (b2i z37)), .val (.ref b39), .val (.ref b67), .val (.ref b97), .val (.ref b105), .unset] [(.int z11)]))
                                  have hi3 : own_inv 3 z163 z164 := by rw [hz163, hz164]; exact own_inv_next hi2 (by rw [hz8]; exact own_b31 _)
                                  refine Go.back (fun t k => XS.iload Y153.here hx rfl (hb hby at_266) rfl  k) ?_
                                  show Go p.tables e below (P0 Z p0 p1 p2 p3 p4 p5 h0 n0 s) (T153.setTop (mkF m 268 #[.val (.long p0), .second, .val (.int p1), .val (.int p2), .val (.int p3), .val (.int p4), .val (.int p5), .val (.int z2), .val (.int z5), .val (.int z8), .val (.int z11), .val (.int z14), .val (.int z17), .val (.int (b2i z21)), .val (.int (b2i z25)), .val (.int (b2i z29)), .val (.int (b2i z33)), .val (.int (b2i z37)), .val (.ref b39), .val (.ref b67), .val (.ref b97), .val (.ref b105), .unset] [(.int (b2i z33)), (.int z11)]))
                                  refine Go.back (fun t k => XS.aload Y153.here hx rfl (hb hby at_268) rfl rfl  k) ?_
                                  show Go p.tables e below (P0 Z p0 p1 p2 p3 p4 p5 h0 n0 s) (T153.setTop (mkF m 270 #[.val (.long p0), .second, .val (.int p1), .val (.int p2), .val (.int p3), .val (.int p4), .val (.int p5), .val (.int z2), .val (.int z5), .val (.int z8), .val (.int z11), .val (.int z14), .val (.int z17), .val (.int (b2i z21)), .val (.int (b2i z25)), .val (.int (b2i z29)), .val (.int (b2i z33)), .val (.int (b2i z37)), .val (.ref b39), .val (.ref b67), .val (.ref b97), .val (.ref b105), .unset] [(.ref b97), (.int (b2i z33)), (.int z11)]))
                                  refine Go.back (fun t k => XS.aload Y153.here hx rfl (hb hby at_270) rfl rfl  k) ?_
                                  show Go p.tables e below (P0 Z p0 p1 p2 p3 p4 p5 h0 n0 s) (T153.setTop (mkF m 272 #[.val (.long p0), .second, .val (.int p1), .val (.int p2), .val (.int p3), .val (.int p4), .val (.int p5), .val (.int z2), .val (.int z5), .val (.int z8), .val (.int z11), .val (.int z14), .val (.int z17), .val (.int (b2i z21)), .val (.int (b2i z25)), .val (.int (b2i z29)), .val (.int (b2i z33)), .val (.int (b2i z37)), .val (.ref b39), .val (.ref b67), .val (.ref b97), .val (.ref b105), .unset] [(.ref b105), (.ref b97), (.int (b2i z33)), (.int z11)]))
                                  obtain ⟨_, _, ⟨T166, L166, k166, n166⟩, -, X166, ⟨Lc166, hQ166, l166, y166, z166⟩, st166⟩ := Jvm.LawKit.callS Y153 hx (y := (⟨"com/example/onward/onward/explore/PackingBitsOfPinLaw", "place", "(IZ[J[I)V"⟩ : MethodName)) hown (mvT hZ (hw _ (List.mem_of_getElem? (i := 9) rfl))) (mvT hZ (hw _ (List.mem_of_getElem? (i := 10) rfl))) (mvT hZ (hw _ (List.mem_of_getElem? (i := 4) rfl))) (mvT hZ (hw _ (List.mem_of_getElem? (i := 11) rfl))) (by decide) (backOf (W := 0) (rm2 l Z a0 hw [] z11 z33 b97 b105 z163 z164 z161 h153 n0 F154 F160 F162 g100 g109 ne108 (own_pb_of hi3 (by rw [hz11]; exact own_b31 _) (by decide) (by simp [hz64, hz94, hz135, hz148, hz161, own_g2_len]))) hZ (hw _ (List.mem_of_getElem? (i := 11) rfl)) (hw _ (List.mem_of_getElem? (i := 4) rfl)) (by decide) (by decide)) (g := (mkF m 272 #[.val (.long p0), .second, .val (.int p1), .val (.int p2), .val (.int p3), .val (.int p4), .val (.int p5), .val (.int z2), .val (.int z5), .val (.int z8), .val (.int z11), .val (.int z14), .val (.int z17), .val (.int (b2i z21)), .val (.int (b2i z25)), .val (.int (b2i z29)), .val (.int (b2i z33)), .val (.int (b2i z37)), .val (.ref b39), .val (.ref b67), .val (.ref b97), .val (.ref b105), .unset] [(.ref b105), (.ref b97), (.int (b2i z33)), (.int z11)])) rfl (by rw [hml]; rfl) (argsL := [(.int z11), (.int (b2i z33)), (.ref b97), (.ref b105)]) (rest := []) (lenOf pd_2 rfl) rfl (by show 2 * 0 + _ ≤ _; exact Nat.le_of_eq rfl) (hb hby at_272) (fun _ _ => ⟨rfl, e153, (by decide : 4 + 0 ≤ _), (by decide : 15 + 0 ≤ _)⟩)
                                  dsimp only [Pt.U, Pt.locs, Pt.cells, Pt.slots] at X166 l166 y166 z166 st166 hQ166
                                  subst l166 y166 z166
                                  obtain ⟨h166, e166⟩ : ∃ z, T166.heap = z := ⟨_, rfl⟩
                                  rw [e166] at hQ166
                                  obtain ⟨rfl, N166q, K166, F170, F171⟩ := hQ166
                                  obtain ⟨Lo166, Y166, N166⟩ := pk X166 (Fr.app N153 N166q)
                                  have F167 : n0 ≤ h166.size := Nat.le_trans F154 K166.1
                                  have F168 : ArL Z h166 b39 .int (List.map Value.int z64) := F155.keep K166 (ninS ne98 (ninS ne106 nin0))
                                  have F169 : ArL Z h166 b67 .boolean (List.map Value.int z94) := F156.keep K166 (ninS ne99 (ninS ne107 nin0))
                                  refine Go.back st166 ?_
                                  show Go p.tables e below (P0 Z p0 p1 p2 p3 p4 p5 h0 n0 s) (T166.setTop (mkF m 275 #[.val (.long p0), .second, .val (.int p1), .val (.int p2), .val (.int p3), .val (.int p4), .val (.int p5), .val (.int z2), .val (.int z5), .val (.int z8), .val (.int z11), .val (.int z14), .val (.int z17), .val (.int (b2i z21)), .val (.int (b2i z25)), .val (.int (b2i z29)), .val (.int (b2i z33)), .val (.int (b2i z37)), .val (.ref b39), .val (.ref b67), .val (.ref b97), .val (.ref b105), .unset] []))
                                  have J172 : ∀ (z174 : List Int64) (z176 : Int32) (z177 : Int32) (hz174 : z174 = (g2_1 z11 z33 z163 z164 z161)) (hz176 : z176 = (g2_2 z11 z33 z163 z164 z161)) (hz177 : z177 = (g2_3 z11 z33 z163 z164 z161)) (F173 : ArL Z h166 b97 .long (List.map Value.long z174)) (F175 : ArL Z h166 b105 .int [(.int z176), (.int z177)]), Go p.tables e below (P0 Z p0 p1 p2 p3 p4 p5 h0 n0 s) (T166.setTop (mkF m 275 #[.val (.long p0), .second, .val (.int p1), .val (.int p2), .val (.int p3), .val (.int p4), .val (.int p5), .val (.int z2), .val (.int z5), .val (.int z8), .val (.int z11), .val (.int z14), .val (.int z17), .val (.int (b2i z21)), .val (.int (b2i z25)), .val (.int (b2i z29)), .val (.int (b2i z33)), .val (.int (b2i z37)), .val (.ref b39), .val (.ref b67), .val (.ref b97), .val (.ref b105), .unset] [])) := by
                                    intro z174 z176 z177 hz174 hz176 hz177 F173 F175
                                    have r178 : f0 p0 p1 p2 p3 p4 p5 = (let z187 : List Int64 := (g2_1 z14 z37 z176 z177 z174); let z189 : Int32 := (g2_2 z14 z37 z176 z177 z174); let z190 : Int32 := (g2_3 z14 z37 z176 z177 z174); (let z277 : List Int64 := (own_bitsr z94 (own_pkr z64).2.1 (own_pkr z64).2.2.1 (own_pkr z64).2.2.2 (own_pkr z64).1); (if (List.length z277).toInt32 = z190 then (let z287 : Bool := (if (f8 (0 : Int32) z277 z187 ((List.length z277).toInt32)) = true then (if (f8 (1 : Int32) z277 z187 ((List.length z277).toInt32)) = true then (if (f8 (2 : Int32) z277 z187 ((List.length z277).toInt32)) = true then true else false) else false) else false); z287) else false))) := by subst hz177; subst hz176; subst hz174; exact r165
                                    show Go p.tables e below (P0 Z p0 p1 p2 p3 p4 p5 h0 n0 s) (T166.setTop (mkF m 275 #[.val (.long p0), .second, .val (.int p1), .val (.int p2), .val (.int p3), .val (.int p4), .val (.int p5), .val (.int z2), .val (.int z5), .val (.int z8), .val (.int z11), .val (.int z14), .val (.int z17), .val (.int (b2i z21)), .val (.int (b2i z25)), .val (.int (b2i z29)), .val (.int (b2i z33)), .val (.int (b2i z37)), .val (.ref b39), .val (.ref b67), .val (.ref b97), .val (.ref b105), .unset] []))
                                    refine Go.back (fun t k => XS.iload Y166.here hx rfl (hb hby at_275) rfl  k) ?_
                                    show Go p.tables e below (P0 Z p0 p1 p2 p3 p4 p5 h0 n0 s) (T166.setTop (mkF m 277 #[.val (.long p0), .second, .val (.int p1), .val (.int p2), .val (.int p3), .val (.int p4), .val (.int p5), .val (.int z2), .val (.int z5), .val (.int z8), .val (.int z11), .val (.int z14), .val (.int z17), .val (.int (b2i z21)), .val (.int (b2i z25)), .val (.int (b2i z29)), .val (.int (b2i z33)), .val (.int (b2i z37)), .val (.ref b39), .val (.ref b67), .val (.ref b97), .val (.ref b105), .unset] [(.int z14)]))
                                    have hi4 : own_inv 4 z176 z177 := by rw [hz176, hz177]; exact own_inv_next hi3 (by rw [hz11]; exact own_b31 _)
                                    refine Go.back (fun t k => XS.iload Y166.here hx rfl (hb hby at_277) rfl  k) ?_
                                    show Go p.tables e below (P0 Z p0 p1 p2 p3 p4 p5 h0 n0 s) (T166.setTop (mkF m 279 #[.val (.long p0), .second, .val (.int p1), .val (.int p2), .val (.int p3), .val (.int p4), .val (.int p5), .val (.int z2), .val (.int z5), .val (.int z8), .val (.int z11), .val (.int z14), .val (.int z17), .val (.int (b2i z21)), .val (.int (b2i z25)), .val (.int (b2i z29)), .val (.int (b2i z33)), .val (.int (b2i z37)), .val (.ref b39), .val (.ref b67), .val (.ref b97), .val (.ref b105), .unset] [(.int (b2i z37)), (.int z14)]))
                                    refine Go.back (fun t k => XS.aload Y166.here hx rfl (hb hby at_279) rfl rfl  k) ?_
                                    show Go p.tables e below (P0 Z p0 p1 p2 p3 p4 p5 h0 n0 s) (T166.setTop (mkF m 281 #[.val (.long p0), .second, .val (.int p1), .val (.int p2), .val (.int p3), .val (.int p4), .val (.int p5), .val (.int z2), .val (.int z5), .val (.int z8), .val (.int z11), .val (.int z14), .val (.int z17), .val (.int (b2i z21)), .val (.int (b2i z25)), .val (.int (b2i z29)), .val (.int (b2i z33)), .val (.int (b2i z37)), .val (.ref b39), .val (.ref b67), .val (.ref b97), .val (.ref b105), .unset] [(.ref b97), (.int (b2i z37)), (.int z14)]))
                                    refine Go.back (fun t k => XS.aload Y166.here hx rfl (hb hby at_281) rfl rfl  k) ?_
                                    show Go p.tables e below (P0 Z p0 p1 p2 p3 p4 p5 h0 n0 s) (T166.setTop (mkF m 283 #[.val (.long p0), .second, .val (.int p1), .val (.int p2), .val (.int p3), .val (.int p4), .val (.int p5), .val (.int z2), .val (.int z5), .val (.int z8), .val (.int z11), .val (.int z14), .val (.int z17), .val (.int (b2i z21)), .val (.int (b2i z25)), .val (.int (b2i z29)), .val (.int (b2i z33)), .val (.int (b2i z37)), .val (.ref b39), .val (.ref b67), .val (.ref b97), .val (.ref b105), .unset] [(.ref b105), (.ref b97), (.int (b2i z37)), (.int z14)]))
                                    obtain ⟨_, _, ⟨T179, L179, k179, n179⟩, -, X179, ⟨Lc179, hQ179, l179, y179, z179⟩, st179⟩ := Jvm.LawKit.callS Y166 hx (y := (⟨"com/example/onward/onward/explore/PackingBitsOfPinLaw", "place", "(IZ[J[I)V"⟩ : MethodName)) hown (mvT hZ (hw _ (List.mem_of_getElem? (i := 9) rfl))) (mvT hZ (hw _ (List.mem_of_getElem? (i := 10) rfl))) (mvT hZ (hw _ (List.mem_of_getElem? (i := 4) rfl))) (mvT hZ (hw _ (List.mem_of_getElem? (i := 11) rfl))) (by decide) (backOf (W := 0) (rm2 l Z a0 hw [] z14 z37 b97 b105 z176 z177 z174 h166 n0 F167 F173 F175 g100 g109 ne108 (own_pb_of hi4 (by rw [hz14]; exact own_b31 _) (by decide) (by simp [hz64, hz94, hz135, hz148, hz161, hz174, own_g2_len]))) hZ (hw _ (List.mem_of_getElem? (i := 11) rfl)) (hw _ (List.mem_of_getElem? (i := 4) rfl)) (by decide) (by decide)) (g := (mkF m 283 #[.val (.long p0), .second, .val (.int p1), .val (.int p2), .val (.int p3), .val (.int p4), .val (.int p5), .val (.int z2), .val (.int z5), .val (.int z8), .val (.int z11), .val (.int z14), .val (.int z17), .val (.int (b2i z21)), .val (.int (b2i z25)), .val (.int (b2i z29)), .val (.int (b2i z33)), .val (.int (b2i z37)), .val (.ref b39), .val (.ref b67), .val (.ref b97), .val (.ref b105), .unset] [(.ref b105), (.ref b97), (.int (b2i z37)), (.int z14)])) rfl (by rw [hml]; rfl) (argsL := [(.int z14), (.int (b2i z37)), (.ref b97), (.ref b105)]) (rest := []) (lenOf pd_2 rfl) rfl (by show 2 * 0 + _ ≤ _; exact Nat.le_of_eq rfl) (hb hby at_283) (fun _ _ => ⟨rfl, e166, (by decide : 4 + 0 ≤ _), (by decide : 15 + 0 ≤ _)⟩)
                                    dsimp only [Pt.U, Pt.locs, Pt.cells, Pt.slots] at X179 l179 y179 z179 st179 hQ179
                                    subst l179 y179 z179
                                    obtain ⟨h179, e179⟩ : ∃ z, T179.heap = z := ⟨_, rfl⟩
                                    rw [e179] at hQ179
                                    obtain ⟨rfl, N179q, K179, F183, F184⟩ := hQ179
                                    obtain ⟨Lo179, Y179, N179⟩ := pk X179 (Fr.app N166 N179q)
                                    have F180 : n0 ≤ h179.size := Nat.le_trans F167 K179.1
                                    have F181 : ArL Z h179 b39 .int (List.map Value.int z64) := F168.keep K179 (ninS ne98 (ninS ne106 nin0))
                                    have F182 : ArL Z h179 b67 .boolean (List.map Value.int z94) := F169.keep K179 (ninS ne99 (ninS ne107 nin0))
                                    refine Go.back st179 ?_
                                    show Go p.tables e below (P0 Z p0 p1 p2 p3 p4 p5 h0 n0 s) (T179.setTop (mkF m 286 #[.val (.long p0), .second, .val (.int p1), .val (.int p2), .val (.int p3), .val (.int p4), .val (.int p5), .val (.int z2), .val (.int z5), .val (.int z8), .val (.int z11), .val (.int z14), .val (.int z17), .val (.int (b2i z21)), .val (.int (b2i z25)), .val (.int (b2i z29)), .val (.int (b2i z33)), .val (.int (b2i z37)), .val (.ref b39), .val (.ref b67), .val (.ref b97), .val (.ref b105), .unset] []))
                                    have J185 : ∀ (z187 : List Int64) (z189 : Int32) (z190 : Int32) (hz187 : z187 = (g2_1 z14 z37 z176 z177 z174)) (hz189 : z189 = (g2_2 z14 z37 z176 z177 z174)) (hz190 : z190 = (g2_3 z14 z37 z176 z177 z174)) (F186 : ArL Z h179 b97 .long (List.map Value.long z187)) (F188 : ArL Z h179 b105 .int [(.int z189), (.int z190)]), Go p.tables e below (P0 Z p0 p1 p2 p3 p4 p5 h0 n0 s) (T179.setTop (mkF m 286 #[.val (.long p0), .second, .val (.int p1), .val (.int p2), .val (.int p3), .val (.int p4), .val (.int p5), .val (.int z2), .val (.int z5), .val (.int z8), .val (.int z11), .val (.int z14), .val (.int z17), .val (.int (b2i z21)), .val (.int (b2i z25)), .val (.int (b2i z29)), .val (.int (b2i z33)), .val (.int (b2i z37)), .val (.ref b39), .val (.ref b67), .val (.ref b97), .val (.ref b105), .unset] [])) := by
                                      intro z187 z189 z190 hz187 hz189 hz190 F186 F188
                                      have r191 : f0 p0 p1 p2 p3 p4 p5 = (let z277 : List Int64 := (own_bitsr z94 (own_pkr z64).2.1 (own_pkr z64).2.2.1 (own_pkr z64).2.2.2 (own_pkr z64).1); (if (List.length z277).toInt32 = z190 then (let z287 : Bool := (if (f8 (0 : Int32) z277 z187 ((List.length z277).toInt32)) = true then (if (f8 (1 : Int32) z277 z187 ((List.length z277).toInt32)) = true then (if (f8 (2 : Int32) z277 z187 ((List.length z277).toInt32)) = true then true else false) else false) else false); z287) else false)) := by subst hz190; subst hz189; subst hz187; exact r178
                                      show Go p.tables e below (P0 Z p0 p1 p2 p3 p4 p5 h0 n0 s) (T179.setTop (mkF m 286 #[.val (.long p0), .second, .val (.int p1), .val (.int p2), .val (.int p3), .val (.int p4), .val (.int p5), .val (.int z2), .val (.int z5), .val (.int z8), .val (.int z11), .val (.int z14), .val (.int z17), .val (.int (b2i z21)), .val (.int (b2i z25)), .val (.int (b2i z29)), .val (.int (b2i z33)), .val (.int (b2i z37)), .val (.ref b39), .val (.ref b67), .val (.ref b97), .val (.ref b105), .unset] []))
                                      obtain ⟨T192, h192, X192, e192, E192, A192, D192, -, st192⟩ := newO Y179 hx hZ hown (hw _ (List.mem_of_getElem? (i := 12) rfl)) (hw _ (List.mem_of_getElem? (i := 13) rfl)) (hw _ (List.mem_of_getElem? (i := 14) rfl)) e179 (g := (mkF m 286 #[.val (.long p0), .second, .val (.int p1), .val (.int p2), .val (.int p3), .val (.int p4), .val (.int p5), .val (.int z2), .val (.int z5), .val (.int z8), .val (.int z11), .val (.int z14), .val (.int z17), .val (.int (b2i z21)), .val (.int (b2i z25)), .val (.int (b2i z29)), .val (.int (b2i z33)), .val (.int (b2i z37)), .val (.ref b39), .val (.ref b67), .val (.ref b97), .val (.ref b105), .unset] [])) rfl (hb hby at_286) (by decide) (by decide)
                                      obtain ⟨b192, g192⟩ : ∃ z, z = h179.size := ⟨_, rfl⟩
                                      rw [← g192] at A192 D192 st192
                                      have ne193 : b39 ≠ b192 := Nat.ne_of_lt (Nat.lt_of_lt_of_le F181.lt (Nat.le_of_eq g192.symm))
                                      have ne194 : b67 ≠ b192 := Nat.ne_of_lt (Nat.lt_of_lt_of_le F182.lt (Nat.le_of_eq g192.symm))
                                      have ne195 : b97 ≠ b192 := Nat.ne_of_lt (Nat.lt_of_lt_of_le F186.lt (Nat.le_of_eq g192.symm))
                                      have ne196 : b105 ≠ b192 := Nat.ne_of_lt (Nat.lt_of_lt_of_le F188.lt (Nat.le_of_eq g192.symm))
                                      have g197 : n0 ≤ b192 := Nat.le_trans F180 (Nat.le_of_eq g192.symm)
                                      have F198 : n0 ≤ h192.size := Nat.le_trans F180 E192.1
                                      have F199 : ArL Z h192 b39 .int (List.map Value.int z64) := F181.ext E192
                                      have F200 : ArL Z h192 b67 .boolean (List.map Value.int z94) := F182.ext E192
                                      have F201 : ArL Z h192 b97 .long (List.map Value.long z187) := F186.ext E192
                                      have F202 : ArL Z h192 b105 .int [(.int z189), (.int z190)] := F188.ext E192
                                      have F203 : Fld Z h192 b192 "com/example/onward/onward/explore/Packing" "word" "[I" .null := D192 (Or.inr (hw _ (List.mem_of_getElem? (i := 22) rfl))) (ty := (.array .int)) (by decide)
                                      have F204 : Fld Z h192 b192 "com/example/onward/onward/explore/Packing" "shift" "[I" .null := D192 (Or.inr (hw _ (List.mem_of_getElem? (i := 24) rfl))) (ty := (.array .int)) (by decide)
                                      have F205 : Fld Z h192 b192 "com/example/onward/onward/explore/Packing" "mask" "[J" .null := D192 (Or.inr (hw _ (List.mem_of_getElem? (i := 26) rfl))) (ty := (.array .long)) (by decide)
                                      have F206 : Fld Z h192 b192 "com/example/onward/onward/explore/Packing" "words" "I" (.int (0 : Int32)) := D192 (Or.inr (hw _ (List.mem_of_getElem? (i := 37) rfl))) (ty := .int) (by decide)
                                      refine Go.back st192 ?_
                                      show Go p.tables e below (P0 Z p0 p1 p2 p3 p4 p5 h0 n0 s) (T192.setTop (mkF m 289 #[.val (.long p0), .second, .val (.int p1), .val (.int p2), .val (.int p3), .val (.int p4), .val (.int p5), .val (.int z2), .val (.int z5), .val (.int z8), .val (.int z11), .val (.int z14), .val (.int z17), .val (.int (b2i z21)), .val (.int (b2i z25)), .val (.int (b2i z29)), .val (.int (b2i z33)), .val (.int (b2i z37)), .val (.ref b39), .val (.ref b67), .val (.ref b97), .val (.ref b105), .unset] [(.ref b192)]))
                                      refine Go.back (fun t k => XS.dup X192.here hx rfl (hb hby at_289) rfl rfl k) ?_
                                      show Go p.tables e below (P0 Z p0 p1 p2 p3 p4 p5 h0 n0 s) (T192.setTop (mkF m 290 #[.val (.long p0), .second, .val (.int p1), .val (.int p2), .val (.int p3), .val (.int p4), .val (.int p5), .val (.int z2), .val (.int z5), .val (.int z8), .val (.int z11), .val (.int z14), .val (.int z17), .val (.int (b2i z21)), .val (.int (b2i z25)), .val (.int (b2i z29)), .val (.int (b2i z33)), .val (.int (b2i z37)), .val (.ref b39), .val (.ref b67), .val (.ref b97), .val (.ref b105), .unset] [(.ref b192), (.ref b192)]))
                                      refine Go.back (fun t k => XS.aload X192.here hx rfl (hb hby at_290) rfl rfl  k) ?_
                                      show Go p.tables e below (P0 Z p0 p1 p2 p3 p4 p5 h0 n0 s) (T192.setTop (mkF m 292 #[.val (.long p0), .second, .val (.int p1), .val (.int p2), .val (.int p3), .val (.int p4), .val (.int p5), .val (.int z2), .val (.int z5), .val (.int z8), .val (.int z11), .val (.int z14), .val (.int z17), .val (.int (b2i z21)), .val (.int (b2i z25)), .val (.int (b2i z29)), .val (.int (b2i z33)), .val (.int (b2i z37)), .val (.ref b39), .val (.ref b67), .val (.ref b97), .val (.ref b105), .unset] [(.ref b39), (.ref b192), (.ref b192)]))
                                      obtain ⟨_, _, ⟨T207, L207, k207, n207⟩, -, X207, ⟨Lc207, hQ207, l207, y207, z207⟩, st207⟩ := X192.specialBack hx (y := (⟨"com/example/onward/onward/explore/Packing", "<init>", "([I)V"⟩ : MethodName)) rfl hown (mvT hZ (hw _ (List.mem_of_getElem? (i := 15) rfl))) (mvT hZ (hw _ (List.mem_of_getElem? (i := 16) rfl))) (mvT hZ (hw _ (List.mem_of_getElem? (i := 17) rfl))) (by decide) (backOf (W := 1) (rm3 l Z a0 hw [] b192 b39 z64 h192 n0 F198 A192 F203 F204 F205 F206 F199 g197 (Ne.symm ne193) (by rw [hz64]; rfl)) hZ (hw _ (List.mem_of_getElem? (i := 17) rfl)) (hw _ (List.mem_of_getElem? (i := 14) rfl)) (by decide) (by decide)) (g := (mkF m 292 #[.val (.long p0), .second, .val (.int p1), .val (.int p2), .val (.int p3), .val (.int p4), .val (.int p5), .val (.int z2), .val (.int z5), .val (.int z8), .val (.int z11), .val (.int z14), .val (.int z17), .val (.int (b2i z21)), .val (.int (b2i z25)), .val (.int (b2i z29)), .val (.int (b2i z33)), .val (.int (b2i z37)), .val (.ref b39), .val (.ref b67), .val (.ref b97), .val (.ref b105), .unset] [(.ref b39), (.ref b192), (.ref b192)])) rfl (by rw [hml]; rfl) (Steps.refl _) (a := b192) (argsL := [(.ref b39)]) (rest := [(.ref b192)]) (lenOf pd_3 rfl) rfl (by show 2 * 0 + _ ≤ _; exact Nat.le_of_eq rfl) (hb hby at_292) (fun _ _ => ⟨rfl, e192, (by decide : 5 + 3 ≤ _), (by decide : 19 + 15 ≤ _)⟩)
                                      dsimp only [Pt.U, Pt.locs, Pt.cells, Pt.slots] at X207 l207 y207 z207 st207 hQ207
                                      subst l207 y207 z207
                                      obtain ⟨h207, e207⟩ : ∃ z, T207.heap = z := ⟨_, rfl⟩
                                      rw [e207] at hQ207
                                      obtain ⟨rfl, N207q, K207, o214, o215, o216, sz217, sz218, sz219, ne220, ne221, ne222, F241, F242, F243, F244, t245, t246, t247, t248⟩ := hQ207
                                      obtain ⟨Lo207, Y207, N207⟩ := pk X207 (Fr.app N179 N207q)
                                      have F208 : n0 ≤ h207.size := Nat.le_trans F198 K207.1
                                      have F209 : ArL Z h207 b39 .int (List.map Value.int z64) := F199.keep K207 (ninS ne193 nin0)
                                      have F210 : ArL Z h207 b67 .boolean (List.map Value.int z94) := F200.keep K207 (ninS ne194 nin0)
                                      have F211 : ArL Z h207 b97 .long (List.map Value.long z187) := F201.keep K207 (ninS ne195 nin0)
                                      have F212 : ArL Z h207 b105 .int [(.int z189), (.int z190)] := F202.keep K207 (ninS ne196 nin0)
                                      have F213 : Exa Z h207 b192 "com/example/onward/onward/explore/Packing" := A192.keep K207
                                      have g223 : n0 ≤ o214 := Nat.le_trans F198 sz217
                                      have ne224 : b39 ≠ o214 := Nat.ne_of_lt (Nat.lt_of_lt_of_le F199.lt sz217)
                                      have ne225 : b67 ≠ o214 := Nat.ne_of_lt (Nat.lt_of_lt_of_le F200.lt sz217)
                                      have ne226 : b97 ≠ o214 := Nat.ne_of_lt (Nat.lt_of_lt_of_le F201.lt sz217)
                                      have ne227 : b105 ≠ o214 := Nat.ne_of_lt (Nat.lt_of_lt_of_le F202.lt sz217)
                                      have ne228 : b192 ≠ o214 := Nat.ne_of_lt (Nat.lt_of_lt_of_le A192.lt sz217)
                                      have g229 : n0 ≤ o215 := Nat.le_trans F198 sz218
                                      have ne230 : b39 ≠ o215 := Nat.ne_of_lt (Nat.lt_of_lt_of_le F199.lt sz218)
                                      have ne231 : b67 ≠ o215 := Nat.ne_of_lt (Nat.lt_of_lt_of_le F200.lt sz218)
                                      have ne232 : b97 ≠ o215 := Nat.ne_of_lt (Nat.lt_of_lt_of_le F201.lt sz218)
                                      have ne233 : b105 ≠ o215 := Nat.ne_of_lt (Nat.lt_of_lt_of_le F202.lt sz218)
                                      have ne234 : b192 ≠ o215 := Nat.ne_of_lt (Nat.lt_of_lt_of_le A192.lt sz218)
                                      have g235 : n0 ≤ o216 := Nat.le_trans F198 sz219
                                      have ne236 : b39 ≠ o216 := Nat.ne_of_lt (Nat.lt_of_lt_of_le F199.lt sz219)
                                      have ne237 : b67 ≠ o216 := Nat.ne_of_lt (Nat.lt_of_lt_of_le F200.lt sz219)
                                      have ne238 : b97 ≠ o216 := Nat.ne_of_lt (Nat.lt_of_lt_of_le F201.lt sz219)
                                      have ne239 : b105 ≠ o216 := Nat.ne_of_lt (Nat.lt_of_lt_of_le F202.lt sz219)
                                      have ne240 : b192 ≠ o216 := Nat.ne_of_lt (Nat.lt_of_lt_of_le A192.lt sz219)
                                      refine Go.trans st207 ?_
                                      show Go p.tables e below (P0 Z p0 p1 p2 p3 p4 p5 h0 n0 s) (T207.setTop (mkF m 295 #[.val (.long p0), .second, .val (.int p1), .val (.int p2), .val (.int p3), .val (.int p4), .val (.int p5), .val (.int z2), .val (.int z5), .val (.int z8), .val (.int z11), .val (.int z14), .val (.int z17), .val (.int (b2i z21)), .val (.int (b2i z25)), .val (.int (b2i z29)), .val (.int (b2i z33)), .val (.int (b2i z37)), .val (.ref b39), .val (.ref b67), .val (.ref b97), .val (.ref b105), .unset] [(.ref b192)]))
                                      refine Go.back (fun t k => XS.aload Y207.here hx rfl (hb hby at_295) rfl rfl  k) ?_
                                      show Go p.tables e below (P0 Z p0 p1 p2 p3 p4 p5 h0 n0 s) (T207.setTop (mkF m 297 #[.val (.long p0), .second, .val (.int p1), .val (.int p2), .val (.int p3), .val (.int p4), .val (.int p5), .val (.int z2), .val (.int z5), .val (.int z8), .val (.int z11), .val (.int z14), .val (.int z17), .val (.int (b2i z21)), .val (.int (b2i z25)), .val (.int (b2i z29)), .val (.int (b2i z33)), .val (.int (b2i z37)), .val (.ref b39), .val (.ref b67), .val (.ref b97), .val (.ref b105), .unset] [(.ref b67), (.ref b192)]))
                                      obtain ⟨cq249, kq249, q249a, q249b, q249c⟩ := isOf hZ e207 F241
                                      obtain ⟨_, _, ⟨T249, L249, k249, n249⟩, -, X249, ⟨Lc249, hQ249, l249, y249, z249⟩, st249⟩ := Y207.virtualBack hx (y := (⟨"com/example/onward/onward/explore/Packing", "bitsOf", "([Z)[J"⟩ : MethodName)) (z := (⟨"com/example/onward/onward/explore/Packing", "bitsOf", "([Z)[J"⟩ : MethodName)) hown (mvT hZ (hw _ (List.mem_of_getElem? (i := 38) rfl))) (mvT hZ (hw _ (List.mem_of_getElem? (i := 39) rfl))) (notFace_of_selects (args := #[]) (mvT hZ (hw _ (List.mem_of_getElem? (i := 41) rfl)))) (mvT hZ (hw _ (List.mem_of_getElem? (i := 41) rfl))) (mvT hZ (hw _ (List.mem_of_getElem? (i := 40) rfl))) (by decide) (backOf (W := 0) (rm7 l Z a0 hw [] b192 b67 o214 o215 o216 ((own_pkr z64).1) z94 ((own_pkr z64).2.1) ((own_pkr z64).2.2.1) ((own_pkr z64).2.2.2) h207 n0 F208 t248 F242 F243 F244 F210 t245 t246 t247 (by rw [hz94]; rfl) (own_pkr_ok _).1 (own_pkr_ok _).2.1 (own_pkr_ok _).2.2.1 (own_pkr_ok _).2.2.2.1 (own_pkr_ok _).2.2.2.2) hZ (hw _ (List.mem_of_getElem? (i := 42) rfl)) (hw _ (List.mem_of_getElem? (i := 14) rfl)) (by decide) (by decide)) q249a q249c (g := (mkF m 297 #[.val (.long p0), .second, .val (.int p1), .val (.int p2), .val (.int p3), .val (.int p4), .val (.int p5), .val (.int z2), .val (.int z5), .val (.int z8), .val (.int z11), .val (.int z14), .val (.int z17), .val (.int (b2i z21)), .val (.int (b2i z25)), .val (.int (b2i z29)), .val (.int (b2i z33)), .val (.int (b2i z37)), .val (.ref b39), .val (.ref b67), .val (.ref b97), .val (.ref b105), .unset] [(.ref b67), (.ref b192)])) rfl (by rw [hml]; rfl) (Steps.refl _) (argsL := [(.ref b67)]) (rest := []) (lenOf pd_4 rfl) rfl (by show 2 * 0 + _ ≤ _; exact Nat.le_of_eq rfl) (hb hby at_297) (fun _ _ => ⟨rfl, e207, (by decide : 8 + 1 ≤ _), (by decide : 34 + 3 ≤ _)⟩)
                                      dsimp only [Pt.U, Pt.locs, Pt.cells, Pt.slots] at X249 l249 y249 z249 st249 hQ249
                                      subst l249 y249 z249
                                      obtain ⟨h249, e249⟩ : ∃ z, T249.heap = z := ⟨_, rfl⟩
                                      rw [e249] at hQ249
                                      obtain ⟨-, N249q, K249, o263, sz264, t274, t275⟩ := hQ249
                                      obtain ⟨Lo249, Y249, N249⟩ := pk X249 (Fr.app N207 N249q)
                                      subst t274
                                      have F250 : n0 ≤ h249.size := Nat.le_trans F208 K249.1
                                      have F251 : ArL Z h249 b39 .int (List.map Value.int z64) := F209.keep K249 nin0
                                      have F252 : ArL Z h249 b67 .boolean (List.map Value.int z94) := F210.keep K249 nin0
                                      have F253 : ArL Z h249 b97 .long (List.map Value.long z187) := F211.keep K249 nin0
                                      have F254 : ArL Z h249 b105 .int [(.int z189), (.int z190)] := F212.keep K249 nin0
                                      have F255 : Exa Z h249 b192 "com/example/onward/onward/explore/Packing" := F241.keep K249
                                      have F256 : Fld Z h249 b192 "com/example/onward/onward/explore/Packing" "word" "[I" (.ref o214) := F242.keep K249 nin0
                                      have F257 : Fld Z h249 b192 "com/example/onward/onward/explore/Packing" "shift" "[I" (.ref o215) := F243.keep K249 nin0
                                      have F258 : Fld Z h249 b192 "com/example/onward/onward/explore/Packing" "mask" "[J" (.ref o216) := F244.keep K249 nin0
                                      have F259 : ArL Z h249 o214 .int (List.map Value.int (own_pkr z64).2.1) := t245.keep K249 nin0
                                      have F260 : ArL Z h249 o215 .int (List.map Value.int (own_pkr z64).2.2.1) := t246.keep K249 nin0
                                      have F261 : ArL Z h249 o216 .long (List.map Value.long (own_pkr z64).2.2.2) := t247.keep K249 nin0
                                      have F262 : Fld Z h249 b192 "com/example/onward/onward/explore/Packing" "words" "I" (.int (own_pkr z64).1) := t248.keep K249 nin0
                                      have g265 : n0 ≤ o263 := Nat.le_trans F208 sz264
                                      have ne266 : b39 ≠ o263 := Nat.ne_of_lt (Nat.lt_of_lt_of_le F209.lt sz264)
                                      have ne267 : b67 ≠ o263 := Nat.ne_of_lt (Nat.lt_of_lt_of_le F210.lt sz264)
                                      have ne268 : b97 ≠ o263 := Nat.ne_of_lt (Nat.lt_of_lt_of_le F211.lt sz264)
                                      have ne269 : b105 ≠ o263 := Nat.ne_of_lt (Nat.lt_of_lt_of_le F212.lt sz264)
                                      have ne270 : b192 ≠ o263 := Nat.ne_of_lt (Nat.lt_of_lt_of_le F241.lt sz264)
                                      have ne271 : o214 ≠ o263 := Nat.ne_of_lt (Nat.lt_of_lt_of_le t245.lt sz264)
                                      have ne272 : o215 ≠ o263 := Nat.ne_of_lt (Nat.lt_of_lt_of_le t246.lt sz264)
                                      have ne273 : o216 ≠ o263 := Nat.ne_of_lt (Nat.lt_of_lt_of_le t247.lt sz264)
                                      refine Go.trans st249 ?_
                                      show Go p.tables e below (P0 Z p0 p1 p2 p3 p4 p5 h0 n0 s) (T249.setTop (mkF m 300 #[.val (.long p0), .second, .val (.int p1), .val (.int p2), .val (.int p3), .val (.int p4), .val (.int p5), .val (.int z2), .val (.int z5), .val (.int z8), .val (.int z11), .val (.int z14), .val (.int z17), .val (.int (b2i z21)), .val (.int (b2i z25)), .val (.int (b2i z29)), .val (.int (b2i z33)), .val (.int (b2i z37)), .val (.ref b39), .val (.ref b67), .val (.ref b97), .val (.ref b105), .unset] [(.ref o263)]))
                                      refine Go.back (fun t k => XS.astore Y249.here hx rfl (hb hby at_300) rfl rfl (l' := #[.val (.long p0), .second, .val (.int p1), .val (.int p2), .val (.int p3), .val (.int p4), .val (.int p5), .val (.int z2), .val (.int z5), .val (.int z8), .val (.int z11), .val (.int z14), .val (.int z17), .val (.int (b2i z21)), .val (.int (b2i z25)), .val (.int (b2i z29)), .val (.int (b2i z33)), .val (.int (b2i z37)), .val (.ref b39), .val (.ref b67), .val (.ref b97), .val (.ref b105), .val (.ref o263)]) rfl k) ?_
                                      show Go p.tables e below (P0 Z p0 p1 p2 p3 p4 p5 h0 n0 s) (T249.setTop (mkF m 302 #[.val (.long p0), .second, .val (.int p1), .val (.int p2), .val (.int p3), .val (.int p4), .val (.int p5), .val (.int z2), .val (.int z5), .val (.int z8), .val (.int z11), .val (.int z14), .val (.int z17), .val (.int (b2i z21)), .val (.int (b2i z25)), .val (.int (b2i z29)), .val (.int (b2i z33)), .val (.int (b2i z37)), .val (.ref b39), .val (.ref b67), .val (.ref b97), .val (.ref b105), .val (.ref o263)] []))
                                      have J276 : ∀ (z277 : List Int64) (hz277 : z277 = (own_bitsr z94 (own_pkr z64).2.1 (own_pkr z64).2.2.1 (own_pkr z64).2.2.2 (own_pkr z64).1)) (F278 : ArL Z h249 o263 .long (List.map Value.long z277)), Go p.tables e below (P0 Z p0 p1 p2 p3 p4 p5 h0 n0 s) (T249.setTop (mkF m 302 #[.val (.long p0), .second, .val (.int p1), .val (.int p2), .val (.int p3), .val (.int p4), .val (.int p5), .val (.int z2), .val (.int z5), .val (.int z8), .val (.int z11), .val (.int z14), .val (.int z17), .val (.int (b2i z21)), .val (.int (b2i z25)), .val (.int (b2i z29)), .val (.int (b2i z33)), .val (.int (b2i z37)), .val (.ref b39), .val (.ref b67), .val (.ref b97), .val (.ref b105), .val (.ref o263)] [])) := by
                                        intro z277 hz277 F278
                                        have r279 : f0 p0 p1 p2 p3 p4 p5 = (if (List.length z277).toInt32 = z190 then (let z287 : Bool := (if (f8 (0 : Int32) z277 z187 ((List.length z277).toInt32)) = true then (if (f8 (1 : Int32) z277 z187 ((List.length z277).toInt32)) = true then (if (f8 (2 : Int32) z277 z187 ((List.length z277).toInt32)) = true then true else false) else false) else false); z287) else false) := by subst hz277; exact r191
                                        show Go p.tables e below (P0 Z p0 p1 p2 p3 p4 p5 h0 n0 s) (T249.setTop (mkF m 302 #[.val (.long p0), .second, .val (.int p1), .val (.int p2), .val (.int p3), .val (.int p4), .val (.int p5), .val (.int z2), .val (.int z5), .val (.int z8), .val (.int z11), .val (.int z14), .val (.int z17), .val (.int (b2i z21)), .val (.int (b2i z25)), .val (.int (b2i z29)), .val (.int (b2i z33)), .val (.int (b2i z37)), .val (.ref b39), .val (.ref b67), .val (.ref b97), .val (.ref b105), .val (.ref o263)] []))
                                        refine Go.back (fun t k => XS.aload Y249.here hx rfl (hb hby at_302) rfl rfl  k) ?_
                                        show Go p.tables e below (P0 Z p0 p1 p2 p3 p4 p5 h0 n0 s) (T249.setTop (mkF m 304 #[.val (.long p0), .second, .val (.int p1), .val (.int p2), .val (.int p3), .val (.int p4), .val (.int p5), .val (.int z2), .val (.int z5), .val (.int z8), .val (.int z11), .val (.int z14), .val (.int z17), .val (.int (b2i z21)), .val (.int (b2i z25)), .val (.int (b2i z29)), .val (.int (b2i z33)), .val (.int (b2i z37)), .val (.ref b39), .val (.ref b67), .val (.ref b97), .val (.ref b105), .val (.ref o263)] [(.ref o263)]))
                                        obtain ⟨cl280, Ar280, S280⟩ := F278.len
                                        refine Go.back (fun t k => Y249.arraylength hx (by rw [e249]; exact Ar280.1) (State.isArrayOf_alike hZ.alike Ar280.2.1) (g := (mkF m 304 #[.val (.long p0), .second, .val (.int p1), .val (.int p2), .val (.int p3), .val (.int p4), .val (.int p5), .val (.int z2), .val (.int z5), .val (.int z8), .val (.int z11), .val (.int z14), .val (.int z17), .val (.int (b2i z21)), .val (.int (b2i z25)), .val (.int (b2i z29)), .val (.int (b2i z33)), .val (.int (b2i z37)), .val (.ref b39), .val (.ref b67), .val (.ref b97), .val (.ref b105), .val (.ref o263)] [(.ref o263)])) rfl rfl (hb hby at_304) t k) ?_
                                        rw [S280]
                                        rw [List.length_map]
                                        show Go p.tables e below (P0 Z p0 p1 p2 p3 p4 p5 h0 n0 s) (T249.setTop (mkF m 305 #[.val (.long p0), .second, .val (.int p1), .val (.int p2), .val (.int p3), .val (.int p4), .val (.int p5), .val (.int z2), .val (.int z5), .val (.int z8), .val (.int z11), .val (.int z14), .val (.int z17), .val (.int (b2i z21)), .val (.int (b2i z25)), .val (.int (b2i z29)), .val (.int (b2i z33)), .val (.int (b2i z37)), .val (.ref b39), .val (.ref b67), .val (.ref b97), .val (.ref b105), .val (.ref o263)] [(.int (List.length z277).toInt32)]))
                                        refine Go.back (fun t k => XS.aload Y249.here hx rfl (hb hby at_305) rfl rfl  k) ?_
                                        show Go p.tables e below (P0 Z p0 p1 p2 p3 p4 p5 h0 n0 s) (T249.setTop (mkF m 307 #[.val (.long p0), .second, .val (.int p1), .val (.int p2), .val (.int p3), .val (.int p4), .val (.int p5), .val (.int z2), .val (.int z5), .val (.int z8), .val (.int z11), .val (.int z14), .val (.int z17), .val (.int (b2i z21)), .val (.int (b2i z25)), .val (.int (b2i z29)), .val (.int (b2i z33)), .val (.int (b2i z37)), .val (.ref b39), .val (.ref b67), .val (.ref b97), .val (.ref b105), .val (.ref o263)] [(.ref b105), (.int (List.length z277).toInt32)]))
                                        refine Go.back (fun t k => XS.iconst Y249.here hx rfl (hb hby at_307) k) ?_
                                        show Go p.tables e below (P0 Z p0 p1 p2 p3 p4 p5 h0 n0 s) (T249.setTop (mkF m 308 #[.val (.long p0), .second, .val (.int p1), .val (.int p2), .val (.int p3), .val (.int p4), .val (.int p5), .val (.int z2), .val (.int z5), .val (.int z8), .val (.int z11), .val (.int z14), .val (.int z17), .val (.int (b2i z21)), .val (.int (b2i z25)), .val (.int (b2i z29)), .val (.int (b2i z33)), .val (.int (b2i z37)), .val (.ref b39), .val (.ref b67), .val (.ref b97), .val (.ref b105), .val (.ref o263)] [(.int (1 : Int32)), (.ref b105), (.int (List.length z277).toInt32)]))
                                        obtain ⟨cl281, Ar281, hi281, ha281⟩ := F254.get (j := (1 : Int32)) (by decide) (v := (.int z190)) rfl
                                        refine Go.back (fun t k => Y249.iaload hx (j := (1 : Int32)) (v := (.int z190)) (by rw [e249]; exact Ar281.1) (State.isArrayOf_alike hZ.alike Ar281.2.1) Ar281.2.2 hi281 ha281 (g := (mkF m 308 #[.val (.long p0), .second, .val (.int p1), .val (.int p2), .val (.int p3), .val (.int p4), .val (.int p5), .val (.int z2), .val (.int z5), .val (.int z8), .val (.int z11), .val (.int z14), .val (.int z17), .val (.int (b2i z21)), .val (.int (b2i z25)), .val (.int (b2i z29)), .val (.int (b2i z33)), .val (.int (b2i z37)), .val (.ref b39), .val (.ref b67), .val (.ref b97), .val (.ref b105), .val (.ref o263)] [(.int (1 : Int32)), (.ref b105), (.int (List.length z277).toInt32)])) rfl rfl (hb hby at_308) t k) ?_
                                        show Go p.tables e below (P0 Z p0 p1 p2 p3 p4 p5 h0 n0 s) (T249.setTop (mkF m 309 #[.val (.long p0), .second, .val (.int p1), .val (.int p2), .val (.int p3), .val (.int p4), .val (.int p5), .val (.int z2), .val (.int z5), .val (.int z8), .val (.int z11), .val (.int z14), .val (.int z17), .val (.int (b2i z21)), .val (.int (b2i z25)), .val (.int (b2i z29)), .val (.int (b2i z33)), .val (.int (b2i z37)), .val (.ref b39), .val (.ref b67), .val (.ref b97), .val (.ref b105), .val (.ref o263)] [(.int z190), (.int (List.length z277).toInt32)]))
                                        by_cases hc282 : (List.length z277).toInt32 = z190
                                        · have r283 := r279.trans (if_pos hc282)
                                          refine Go.back (fun t k => XS.icmpYes Y249.here hx rfl (pc0 := 309) (pc' := 314) rfl (hb hby at_309) rfl (teq hc282).1 (by decide) (by decide) k) ?_
                                          show Go p.tables e below (P0 Z p0 p1 p2 p3 p4 p5 h0 n0 s) (T249.setTop (mkF m 314 #[.val (.long p0), .second, .val (.int p1), .val (.int p2), .val (.int p3), .val (.int p4), .val (.int p5), .val (.int z2), .val (.int z5), .val (.int z8), .val (.int z11), .val (.int z14), .val (.int z17), .val (.int (b2i z21)), .val (.int (b2i z25)), .val (.int (b2i z29)), .val (.int (b2i z33)), .val (.int (b2i z37)), .val (.ref b39), .val (.ref b67), .val (.ref b97), .val (.ref b105), .val (.ref o263)] []))
                                          refine Go.back (fun t k => XS.aload Y249.here hx rfl (hb hby at_314) rfl rfl  k) ?_
                                          show Go p.tables e below (P0 Z p0 p1 p2 p3 p4 p5 h0 n0 s) (T249.setTop (mkF m 316 #[.val (.long p0), .second, .val (.int p1), .val (.int p2), .val (.int p3), .val (.int p4), .val (.int p5), .val (.int z2), .val (.int z5), .val (.int z8), .val (.int z11), .val (.int z14), .val (.int z17), .val (.int (b2i z21)), .val (.int (b2i z25)), .val (.int (b2i z29)), .val (.int (b2i z33)), .val (.int (b2i z37)), .val (.ref b39), .val (.ref b67), .val (.ref b97), .val (.ref b105), .val (.ref o263)] [(.ref o263)]))
                                          refine Go.back (fun t k => XS.aload Y249.here hx rfl (hb hby at_316) rfl rfl  k) ?_
                                          show Go p.tables e below (P0 Z p0 p1 p2 p3 p4 p5 h0 n0 s) (T249.setTop (mkF m 318 #[.val (.long p0), .second, .val (.int p1), .val (.int p2), .val (.int p3), .val (.int p4), .val (.int p5), .val (.int z2), .val (.int z5), .val (.int z8), .val (.int z11), .val (.int z14), .val (.int z17), .val (.int (b2i z21)), .val (.int (b2i z25)), .val (.int (b2i z29)), .val (.int (b2i z33)), .val (.int (b2i z37)), .val (.ref b39), .val (.ref b67), .val (.ref b97), .val (.ref b105), .val (.ref o263)] [(.ref b97), (.ref o263)]))
                                          refine Go.back (fun t k => XS.iconst Y249.here hx rfl (hb hby at_318) k) ?_
                                          show Go p.tables e below (P0 Z p0 p1 p2 p3 p4 p5 h0 n0 s) (T249.setTop (mkF m 319 #[.val (.long p0), .second, .val (.int p1), .val (.int p2), .val (.int p3), .val (.int p4), .val (.int p5), .val (.int z2), .val (.int z5), .val (.int z8), .val (.int z11), .val (.int z14), .val (.int z17), .val (.int (b2i z21)), .val (.int (b2i z25)), .val (.int (b2i z29)), .val (.int (b2i z33)), .val (.int (b2i z37)), .val (.ref b39), .val (.ref b67), .val (.ref b97), .val (.ref b105), .val (.ref o263)] [(.int (0 : Int32)), (.ref b97), (.ref o263)]))
                                          obtain ⟨_, _, ⟨T284, L284, k284, n284⟩, -, X284, ⟨Lc284, hQ284, l284, y284, z284⟩, st284⟩ := Jvm.LawKit.callS Y249 hx (y := (⟨"com/example/onward/onward/explore/PackingBitsOfPinLaw", "same", "([J[JI)Z"⟩ : MethodName)) hown (mvT hZ (hw _ (List.mem_of_getElem? (i := 43) rfl))) (mvT hZ (hw _ (List.mem_of_getElem? (i := 44) rfl))) (mvT hZ (hw _ (List.mem_of_getElem? (i := 4) rfl))) (mvT hZ (hw _ (List.mem_of_getElem? (i := 45) rfl))) (by decide) (backOf (W := 0) (rm8 l Z a0 hw [] o263 b97 (0 : Int32) z277 z187 ((List.length z277).toInt32) h249 n0 F250 F278 F253 rfl (by decide) (Nat.lt_of_lt_of_eq (by decide : ((0 : Int32)).toNatClampNeg < 3) (Eq.symm (by simp [hz64, hz94, hz135, hz148, hz161, hz174, hz187, hz277, own_g2_len])))) hZ (hw _ (List.mem_of_getElem? (i := 45) rfl)) (hw _ (List.mem_of_getElem? (i := 4) rfl)) (by decide) (by decide)) (g := (mkF m 319 #[.val (.long p0), .second, .val (.int p1), .val (.int p2), .val (.int p3), .val (.int p4), .val (.int p5), .val (.int z2), .val (.int z5), .val (.int z8), .val (.int z11), .val (.int z14), .val (.int z17), .val (.int (b2i z21)), .val (.int (b2i z25)), .val (.int (b2i z29)), .val (.int (b2i z33)), .val (.int (b2i z37)), .val (.ref b39), .val (.ref b67), .val (.ref b97), .val (.ref b105), .val (.ref o263)] [(.int (0 : Int32)), (.ref b97), (.ref o263)])) rfl (by rw [hml]; rfl) (argsL := [(.ref o263), (.ref b97), (.int (0 : Int32))]) (rest := []) (lenOf pd_5 rfl) rfl (by show 2 * 0 + _ ≤ _; exact Nat.le_of_eq rfl) (hb hby at_319) (fun _ _ => ⟨rfl, e249, (by decide : 9 + 0 ≤ _), (by decide : 37 + 0 ≤ _)⟩)
                                          dsimp only [Pt.U, Pt.locs, Pt.cells, Pt.slots] at X284 l284 y284 z284 st284 hQ284
                                          subst l284 y284 z284
                                          obtain ⟨rfl, N284q, e284⟩ := hQ284
                                          obtain ⟨Lo284, Y284, N284⟩ := pk X284 (Fr.app N249 N284q)
                                          refine Go.back st284 ?_
                                          show Go p.tables e below (P0 Z p0 p1 p2 p3 p4 p5 h0 n0 s) (T284.setTop (mkF m 322 #[.val (.long p0), .second, .val (.int p1), .val (.int p2), .val (.int p3), .val (.int p4), .val (.int p5), .val (.int z2), .val (.int z5), .val (.int z8), .val (.int z11), .val (.int z14), .val (.int z17), .val (.int (b2i z21)), .val (.int (b2i z25)), .val (.int (b2i z29)), .val (.int (b2i z33)), .val (.int (b2i z37)), .val (.ref b39), .val (.ref b67), .val (.ref b97), .val (.ref b105), .val (.ref o263)] [(.int (b2i (f8 (0 : Int32) z277 z187 ((List.length z277).toInt32))))]))
                                          have J286 : ∀ (T288 : State) (L288 : List Loc) (X288 : Stand p l e room_1 s m #[(.long p0), (.int p1), (.int p2), (.int p3), (.int p4), (.int p5)] below meth c T288 L288 9 37) (N288 : Fr n0 L288) (e288 : T288.heap = h249) (z287 : Bool) (hz287 : z287 = (if (f8 (0 : Int32) z277 z187 ((List.length z277).toInt32)) = true then (if (f8 (1 : Int32) z277 z187 ((List.length z277).toInt32)) = true then (if (f8 (2 : Int32) z277 z187 ((List.length z277).toInt32)) = true then true else false) else false) else false)), Go p.tables e below (P0 Z p0 p1 p2 p3 p4 p5 h0 n0 s) (T288.setTop (mkF m 352 #[.val (.long p0), .second, .val (.int p1), .val (.int p2), .val (.int p3), .val (.int p4), .val (.int p5), .val (.int z2), .val (.int z5), .val (.int z8), .val (.int z11), .val (.int z14), .val (.int z17), .val (.int (b2i z21)), .val (.int (b2i z25)), .val (.int (b2i z29)), .val (.int (b2i z33)), .val (.int (b2i z37)), .val (.ref b39), .val (.ref b67), .val (.ref b97), .val (.ref b105), .val (.ref o263)] [(.int (b2i z287))])) := by
                                            intro T288 L288 X288 N288 e288 z287 hz287
                                            have r289 : f0 p0 p1 p2 p3 p4 p5 = z287 := by subst hz287; exact r283
                                            show Go p.tables e below (P0 Z p0 p1 p2 p3 p4 p5 h0 n0 s) (T288.setTop (mkF m 352 #[.val (.long p0), .second, .val (.int p1), .val (.int p2), .val (.int p3), .val (.int p4), .val (.int p5), .val (.int z2), .val (.int z5), .val (.int z8), .val (.int z11), .val (.int z14), .val (.int z17), .val (.int (b2i z21)), .val (.int (b2i z25)), .val (.int (b2i z29)), .val (.int (b2i z33)), .val (.int (b2i z37)), .val (.ref b39), .val (.ref b67), .val (.ref b97), .val (.ref b105), .val (.ref o263)] [(.int (b2i z287))]))
                                            exact Go.retB (b := z287) X288 hx Bd.returns (hb hby at_352) Bd.notSynchronized ⟨by rw [r289], N288⟩ (by decide) (by decide)
                                          have r290 : (if (f8 (0 : Int32) z277 z187 ((List.length z277).toInt32)) = true then (if (f8 (1 : Int32) z277 z187 ((List.length z277).toInt32)) = true then (if (f8 (2 : Int32) z277 z187 ((List.length z277).toInt32)) = true then true else false) else false) else false) = (if (f8 (0 : Int32) z277 z187 ((List.length z277).toInt32)) = true then (if (f8 (1 : Int32) z277 z187 ((List.length z277).toInt32)) = true then (if (f8 (2 : Int32) z277 z187 ((List.length z277).toInt32)) = true then true else false) else false) else false) := rfl
                                          by_cases hc285 : (f8 (0 : Int32) z277 z187 ((List.length z277).toInt32)) = true
                                          · have r291 := r290.trans (if_pos hc285)
                                            refine Go.back (fun t k => XS.ifNo Y284.here hx rfl (hb hby at_322) rfl ((if0 _ _).trans (feq (b2i_t hc285)).1) k) ?_
                                            show Go p.tables e below (P0 Z p0 p1 p2 p3 p4 p5 h0 n0 s) (T284.setTop (mkF m 325 #[.val (.long p0), .second, .val (.int p1), .val (.int p2), .val (.int p3), .val (.int p4), .val (.int p5), .val (.int z2), .val (.int z5), .val (.int z8), .val (.int z11), .val (.int z14), .val (.int z17), .val (.int (b2i z21)), .val (.int (b2i z25)), .val (.int (b2i z29)), .val (.int (b2i z33)), .val (.int (b2i z37)), .val (.ref b39), .val (.ref b67), .val (.ref b97), .val (.ref b105), .val (.ref o263)] []))
                                            refine Go.back (fun t k => XS.aload Y284.here hx rfl (hb hby at_325) rfl rfl  k) ?_
                                            show Go p.tables e below (P0 Z p0 p1 p2 p3 p4 p5 h0 n0 s) (T284.setTop (mkF m 327 #[.val (.long p0), .second, .val (.int p1), .val (.int p2), .val (.int p3), .val (.int p4), .val (.int p5), .val (.int z2), .val (.int z5), .val (.int z8), .val (.int z11), .val (.int z14), .val (.int z17), .val (.int (b2i z21)), .val (.int (b2i z25)), .val (.int (b2i z29)), .val (.int (b2i z33)), .val (.int (b2i z37)), .val (.ref b39), .val (.ref b67), .val (.ref b97), .val (.ref b105), .val (.ref o263)] [(.ref o263)]))
                                            refine Go.back (fun t k => XS.aload Y284.here hx rfl (hb hby at_327) rfl rfl  k) ?_
                                            show Go p.tables e below (P0 Z p0 p1 p2 p3 p4 p5 h0 n0 s) (T284.setTop (mkF m 329 #[.val (.long p0), .second, .val (.int p1), .val (.int p2), .val (.int p3), .val (.int p4), .val (.int p5), .val (.int z2), .val (.int z5), .val (.int z8), .val (.int z11), .val (.int z14), .val (.int z17), .val (.int (b2i z21)), .val (.int (b2i z25)), .val (.int (b2i z29)), .val (.int (b2i z33)), .val (.int (b2i z37)), .val (.ref b39), .val (.ref b67), .val (.ref b97), .val (.ref b105), .val (.ref o263)] [(.ref b97), (.ref o263)]))
                                            refine Go.back (fun t k => XS.iconst Y284.here hx rfl (hb hby at_329) k) ?_
                                            show Go p.tables e below (P0 Z p0 p1 p2 p3 p4 p5 h0 n0 s) (T284.setTop (mkF m 330 #[.val (.long p0), .second, .val (.int p1), .val (.int p2), .val (.int p3), .val (.int p4), .val (.int p5), .val (.int z2), .val (.int z5), .val (.int z8), .val (.int z11), .val (.int z14), .val (.int z17), .val (.int (b2i z21)), .val (.int (b2i z25)), .val (.int (b2i z29)), .val (.int (b2i z33)), .val (.int (b2i z37)), .val (.ref b39), .val (.ref b67), .val (.ref b97), .val (.ref b105), .val (.ref o263)] [(.int (1 : Int32)), (.ref b97), (.ref o263)]))
                                            obtain ⟨_, _, ⟨T292, L292, k292, n292⟩, -, X292, ⟨Lc292, hQ292, l292, y292, z292⟩, st292⟩ := Jvm.LawKit.callS Y284 hx (y := (⟨"com/example/onward/onward/explore/PackingBitsOfPinLaw", "same", "([J[JI)Z"⟩ : MethodName)) hown (mvT hZ (hw _ (List.mem_of_getElem? (i := 43) rfl))) (mvT hZ (hw _ (List.mem_of_getElem? (i := 44) rfl))) (mvT hZ (hw _ (List.mem_of_getElem? (i := 4) rfl))) (mvT hZ (hw _ (List.mem_of_getElem? (i := 45) rfl))) (by decide) (backOf (W := 0) (rm8 l Z a0 hw [] o263 b97 (1 : Int32) z277 z187 ((List.length z277).toInt32) h249 n0 F250 F278 F253 rfl (by decide) (Nat.lt_of_lt_of_eq (by decide : ((1 : Int32)).toNatClampNeg < 3) (Eq.symm (by simp [hz64, hz94, hz135, hz148, hz161, hz174, hz187, hz277, own_g2_len])))) hZ (hw _ (List.mem_of_getElem? (i := 45) rfl)) (hw _ (List.mem_of_getElem? (i := 4) rfl)) (by decide) (by decide)) (g := (mkF m 330 #[.val (.long p0), .second, .val (.int p1), .val (.int p2), .val (.int p3), .val (.int p4), .val (.int p5), .val (.int z2), .val (.int z5), .val (.int z8), .val (.int z11), .val (.int z14), .val (.int z17), .val (.int (b2i z21)), .val (.int (b2i z25)), .val (.int (b2i z29)), .val (.int (b2i z33)), .val (.int (b2i z37)), .val (.ref b39), .val (.ref b67), .val (.ref b97), .val (.ref b105), .val (.ref o263)] [(.int (1 : Int32)), (.ref b97), (.ref o263)])) rfl (by rw [hml]; rfl) (argsL := [(.ref o263), (.ref b97), (.int (1 : Int32))]) (rest := []) (lenOf pd_5 rfl) rfl (by show 2 * 0 + _ ≤ _; exact Nat.le_of_eq rfl) (hb hby at_330) (fun _ _ => ⟨rfl, e284, (by decide : 9 + 0 ≤ _), (by decide : 37 + 0 ≤ _)⟩)
                                            dsimp only [Pt.U, Pt.locs, Pt.cells, Pt.slots] at X292 l292 y292 z292 st292 hQ292
                                            subst l292 y292 z292
                                            obtain ⟨rfl, N292q, e292⟩ := hQ292
                                            obtain ⟨Lo292, Y292, N292⟩ := pk X292 (Fr.app N284 N292q)
                                            refine Go.back st292 ?_
                                            show Go p.tables e below (P0 Z p0 p1 p2 p3 p4 p5 h0 n0 s) (T292.setTop (mkF m 333 #[.val (.long p0), .second, .val (.int p1), .val (.int p2), .val (.int p3), .val (.int p4), .val (.int p5), .val (.int z2), .val (.int z5), .val (.int z8), .val (.int z11), .val (.int z14), .val (.int z17), .val (.int (b2i z21)), .val (.int (b2i z25)), .val (.int (b2i z29)), .val (.int (b2i z33)), .val (.int (b2i z37)), .val (.ref b39), .val (.ref b67), .val (.ref b97), .val (.ref b105), .val (.ref o263)] [(.int (b2i (f8 (1 : Int32) z277 z187 ((List.length z277).toInt32))))]))
                                            by_cases hc293 : (f8 (1 : Int32) z277 z187 ((List.length z277).toInt32)) = true
                                            · have r294 := r291.trans (if_pos hc293)
                                              refine Go.back (fun t k => XS.ifNo Y292.here hx rfl (hb hby at_333) rfl ((if0 _ _).trans (feq (b2i_t hc293)).1) k) ?_
                                              show Go p.tables e below (P0 Z p0 p1 p2 p3 p4 p5 h0 n0 s) (T292.setTop (mkF m 336 #[.val (.long p0), .second, .val (.int p1), .val (.int p2), .val (.int p3), .val (.int p4), .val (.int p5), .val (.int z2), .val (.int z5), .val (.int z8), .val (.int z11), .val (.int z14), .val (.int z17), .val (.int (b2i z21)), .val (.int (b2i z25)), .val (.int (b2i z29)), .val (.int (b2i z33)), .val (.int (b2i z37)), .val (.ref b39), .val (.ref b67), .val (.ref b97), .val (.ref b105), .val (.ref o263)] []))
                                              refine Go.back (fun t k => XS.aload Y292.here hx rfl (hb hby at_336) rfl rfl  k) ?_
                                              show Go p.tables e below (P0 Z p0 p1 p2 p3 p4 p5 h0 n0 s) (T292.setTop (mkF m 338 #[.val (.long p0), .second, .val (.int p1), .val (.int p2), .val (.int p3), .val (.int p4), .val (.int p5), .val (.int z2), .val (.int z5), .val (.int z8), .val (.int z11), .val (.int z14), .val (.int z17), .val (.int (b2i z21)), .val (.int (b2i z25)), .val (.int (b2i z29)), .val (.int (b2i z33)), .val (.int (b2i z37)), .val (.ref b39), .val (.ref b67), .val (.ref b97), .val (.ref b105), .val (.ref o263)] [(.ref o263)]))
                                              refine Go.back (fun t k => XS.aload Y292.here hx rfl (hb hby at_338) rfl rfl  k) ?_
                                              show Go p.tables e below (P0 Z p0 p1 p2 p3 p4 p5 h0 n0 s) (T292.setTop (mkF m 340 #[.val (.long p0), .second, .val (.int p1), .val (.int p2), .val (.int p3), .val (.int p4), .val (.int p5), .val (.int z2), .val (.int z5), .val (.int z8), .val (.int z11), .val (.int z14), .val (.int z17), .val (.int (b2i z21)), .val (.int (b2i z25)), .val (.int (b2i z29)), .val (.int (b2i z33)), .val (.int (b2i z37)), .val (.ref b39), .val (.ref b67), .val (.ref b97), .val (.ref b105), .val (.ref o263)] [(.ref b97), (.ref o263)]))
                                              refine Go.back (fun t k => XS.iconst Y292.here hx rfl (hb hby at_340) k) ?_
                                              show Go p.tables e below (P0 Z p0 p1 p2 p3 p4 p5 h0 n0 s) (T292.setTop (mkF m 341 #[.val (.long p0), .second, .val (.int p1), .val (.int p2), .val (.int p3), .val (.int p4), .val (.int p5), .val (.int z2), .val (.int z5), .val (.int z8), .val (.int z11), .val (.int z14), .val (.int z17), .val (.int (b2i z21)), .val (.int (b2i z25)), .val (.int (b2i z29)), .val (.int (b2i z33)), .val (.int (b2i z37)), .val (.ref b39), .val (.ref b67), .val (.ref b97), .val (.ref b105), .val (.ref o263)] [(.int (2 : Int32)), (.ref b97), (.ref o263)]))
                                              obtain ⟨_, _, ⟨T295, L295, k295, n295⟩, -, X295, ⟨Lc295, hQ295, l295, y295, z295⟩, st295⟩ := Jvm.LawKit.callS Y292 hx (y := (⟨"com/example/onward/onward/explore/PackingBitsOfPinLaw", "same", "([J[JI)Z"⟩ : MethodName)) hown (mvT hZ (hw _ (List.mem_of_getElem? (i := 43) rfl))) (mvT hZ (hw _ (List.mem_of_getElem? (i := 44) rfl))) (mvT hZ (hw _ (List.mem_of_getElem? (i := 4) rfl))) (mvT hZ (hw _ (List.mem_of_getElem? (i := 45) rfl))) (by decide) (backOf (W := 0) (rm8 l Z a0 hw [] o263 b97 (2 : Int32) z277 z187 ((List.length z277).toInt32) h249 n0 F250 F278 F253 rfl (by decide) (Nat.lt_of_lt_of_eq (by decide : ((2 : Int32)).toNatClampNeg < 3) (Eq.symm (by simp [hz64, hz94, hz135, hz148, hz161, hz174, hz187, hz277, own_g2_len])))) hZ (hw _ (List.mem_of_getElem? (i := 45) rfl)) (hw _ (List.mem_of_getElem? (i := 4) rfl)) (by decide) (by decide)) (g := (mkF m 341 #[.val (.long p0), .second, .val (.int p1), .val (.int p2), .val (.int p3), .val (.int p4), .val (.int p5), .val (.int z2), .val (.int z5), .val (.int z8), .val (.int z11), .val (.int z14), .val (.int z17), .val (.int (b2i z21)), .val (.int (b2i z25)), .val (.int (b2i z29)), .val (.int (b2i z33)), .val (.int (b2i z37)), .val (.ref b39), .val (.ref b67), .val (.ref b97), .val (.ref b105), .val (.ref o263)] [(.int (2 : Int32)), (.ref b97), (.ref o263)])) rfl (by rw [hml]; rfl) (argsL := [(.ref o263), (.ref b97), (.int (2 : Int32))]) (rest := []) (lenOf pd_5 rfl) rfl (by show 2 * 0 + _ ≤ _; exact Nat.le_of_eq rfl) (hb hby at_341) (fun _ _ => ⟨rfl, e292, (by decide : 9 + 0 ≤ _), (by decide : 37 + 0 ≤ _)⟩)
                                              dsimp only [Pt.U, Pt.locs, Pt.cells, Pt.slots] at X295 l295 y295 z295 st295 hQ295
                                              subst l295 y295 z295
                                              obtain ⟨rfl, N295q, e295⟩ := hQ295
                                              obtain ⟨Lo295, Y295, N295⟩ := pk X295 (Fr.app N292 N295q)
                                              refine Go.back st295 ?_
                                              show Go p.tables e below (P0 Z p0 p1 p2 p3 p4 p5 h0 n0 s) (T295.setTop (mkF m 344 #[.val (.long p0), .second, .val (.int p1), .val (.int p2), .val (.int p3), .val (.int p4), .val (.int p5), .val (.int z2), .val (.int z5), .val (.int z8), .val (.int z11), .val (.int z14), .val (.int z17), .val (.int (b2i z21)), .val (.int (b2i z25)), .val (.int (b2i z29)), .val (.int (b2i z33)), .val (.int (b2i z37)), .val (.ref b39), .val (.ref b67), .val (.ref b97), .val (.ref b105), .val (.ref o263)] [(.int (b2i (f8 (2 : Int32) z277 z187 ((List.length z277).toInt32))))]))
                                              by_cases hc296 : (f8 (2 : Int32) z277 z187 ((List.length z277).toInt32)) = true
                                              · have r297 := r294.trans (if_pos hc296)
                                                refine Go.back (fun t k => XS.ifNo Y295.here hx rfl (hb hby at_344) rfl ((if0 _ _).trans (feq (b2i_t hc296)).1) k) ?_
                                                show Go p.tables e below (P0 Z p0 p1 p2 p3 p4 p5 h0 n0 s) (T295.setTop (mkF m 347 #[.val (.long p0), .second, .val (.int p1), .val (.int p2), .val (.int p3), .val (.int p4), .val (.int p5), .val (.int z2), .val (.int z5), .val (.int z8), .val (.int z11), .val (.int z14), .val (.int z17), .val (.int (b2i z21)), .val (.int (b2i z25)), .val (.int (b2i z29)), .val (.int (b2i z33)), .val (.int (b2i z37)), .val (.ref b39), .val (.ref b67), .val (.ref b97), .val (.ref b105), .val (.ref o263)] []))
                                                refine Go.back (fun t k => XS.iconst Y295.here hx rfl (hb hby at_347) k) ?_
                                                show Go p.tables e below (P0 Z p0 p1 p2 p3 p4 p5 h0 n0 s) (T295.setTop (mkF m 348 #[.val (.long p0), .second, .val (.int p1), .val (.int p2), .val (.int p3), .val (.int p4), .val (.int p5), .val (.int z2), .val (.int z5), .val (.int z8), .val (.int z11), .val (.int z14), .val (.int z17), .val (.int (b2i z21)), .val (.int (b2i z25)), .val (.int (b2i z29)), .val (.int (b2i z33)), .val (.int (b2i z37)), .val (.ref b39), .val (.ref b67), .val (.ref b97), .val (.ref b105), .val (.ref o263)] [(.int (1 : Int32))]))
                                                refine Go.back (fun t k => XS.goto Y295.here hx rfl (pc0 := 348) (pc' := 352) rfl (hb hby at_348) (by decide) (by decide) k) ?_
                                                show Go p.tables e below (P0 Z p0 p1 p2 p3 p4 p5 h0 n0 s) (T295.setTop (mkF m 352 #[.val (.long p0), .second, .val (.int p1), .val (.int p2), .val (.int p3), .val (.int p4), .val (.int p5), .val (.int z2), .val (.int z5), .val (.int z8), .val (.int z11), .val (.int z14), .val (.int z17), .val (.int (b2i z21)), .val (.int (b2i z25)), .val (.int (b2i z29)), .val (.int (b2i z33)), .val (.int (b2i z37)), .val (.ref b39), .val (.ref b67), .val (.ref b97), .val (.ref b105), .val (.ref o263)] [(.int (1 : Int32))]))
                                                exact J286 _ _ Y295 N295 e295 true r297.symm
                                              · have r298 := r294.trans (if_neg hc296)
                                                refine Go.back (fun t k => XS.ifYes Y295.here hx rfl (pc0 := 344) (pc' := 351) rfl (hb hby at_344) rfl ((if0 _ _).trans (teq (b2i_f hc296)).1) (by decide) (by decide) k) ?_
                                                show Go p.tables e below (P0 Z p0 p1 p2 p3 p4 p5 h0 n0 s) (T295.setTop (mkF m 351 #[.val (.long p0), .second, .val (.int p1), .val (.int p2), .val (.int p3), .val (.int p4), .val (.int p5), .val (.int z2), .val (.int z5), .val (.int z8), .val (.int z11), .val (.int z14), .val (.int z17), .val (.int (b2i z21)), .val (.int (b2i z25)), .val (.int (b2i z29)), .val (.int (b2i z33)), .val (.int (b2i z37)), .val (.ref b39), .val (.ref b67), .val (.ref b97), .val (.ref b105), .val (.ref o263)] []))
                                                refine Go.back (fun t k => XS.iconst Y295.here hx rfl (hb hby at_351) k) ?_
                                                show Go p.tables e below (P0 Z p0 p1 p2 p3 p4 p5 h0 n0 s) (T295.setTop (mkF m 352 #[.val (.long p0), .second, .val (.int p1), .val (.int p2), .val (.int p3), .val (.int p4), .val (.int p5), .val (.int z2), .val (.int z5), .val (.int z8), .val (.int z11), .val (.int z14), .val (.int z17), .val (.int (b2i z21)), .val (.int (b2i z25)), .val (.int (b2i z29)), .val (.int (b2i z33)), .val (.int (b2i z37)), .val (.ref b39), .val (.ref b67), .val (.ref b97), .val (.ref b105), .val (.ref o263)] [(.int (0 : Int32))]))
                                                exact J286 _ _ Y295 N295 e295 false r298.symm
                                            · have r299 := r291.trans (if_neg hc293)
                                              refine Go.back (fun t k => XS.ifYes Y292.here hx rfl (pc0 := 333) (pc' := 351) rfl (hb hby at_333) rfl ((if0 _ _).trans (teq (b2i_f hc293)).1) (by decide) (by decide) k) ?_
                                              show Go p.tables e below (P0 Z p0 p1 p2 p3 p4 p5 h0 n0 s) (T292.setTop (mkF m 351 #[.val (.long p0), .second, .val (.int p1), .val (.int p2), .val (.int p3), .val (.int p4), .val (.int p5), .val (.int z2), .val (.int z5), .val (.int z8), .val (.int z11), .val (.int z14), .val (.int z17), .val (.int (b2i z21)), .val (.int (b2i z25)), .val (.int (b2i z29)), .val (.int (b2i z33)), .val (.int (b2i z37)), .val (.ref b39), .val (.ref b67), .val (.ref b97), .val (.ref b105), .val (.ref o263)] []))
                                              refine Go.back (fun t k => XS.iconst Y292.here hx rfl (hb hby at_351) k) ?_
                                              show Go p.tables e below (P0 Z p0 p1 p2 p3 p4 p5 h0 n0 s) (T292.setTop (mkF m 352 #[.val (.long p0), .second, .val (.int p1), .val (.int p2), .val (.int p3), .val (.int p4), .val (.int p5), .val (.int z2), .val (.int z5), .val (.int z8), .val (.int z11), .val (.int z14), .val (.int z17), .val (.int (b2i z21)), .val (.int (b2i z25)), .val (.int (b2i z29)), .val (.int (b2i z33)), .val (.int (b2i z37)), .val (.ref b39), .val (.ref b67), .val (.ref b97), .val (.ref b105), .val (.ref o263)] [(.int (0 : Int32))]))
                                              exact J286 _ _ Y292 N292 e292 false r299.symm
                                          · have r300 := r290.trans (if_neg hc285)
                                            refine Go.back (fun t k => XS.ifYes Y284.here hx rfl (pc0 := 322) (pc' := 351) rfl (hb hby at_322) rfl ((if0 _ _).trans (teq (b2i_f hc285)).1) (by decide) (by decide) k) ?_
                                            show Go p.tables e below (P0 Z p0 p1 p2 p3 p4 p5 h0 n0 s) (T284.setTop (mkF m 351 #[.val (.long p0), .second, .val (.int p1), .val (.int p2), .val (.int p3), .val (.int p4), .val (.int p5), .val (.int z2), .val (.int z5), .val (.int z8), .val (.int z11), .val (.int z14), .val (.int z17), .val (.int (b2i z21)), .val (.int (b2i z25)), .val (.int (b2i z29)), .val (.int (b2i z33)), .val (.int (b2i z37)), .val (.ref b39), .val (.ref b67), .val (.ref b97), .val (.ref b105), .val (.ref o263)] []))
                                            refine Go.back (fun t k => XS.iconst Y284.here hx rfl (hb hby at_351) k) ?_
                                            show Go p.tables e below (P0 Z p0 p1 p2 p3 p4 p5 h0 n0 s) (T284.setTop (mkF m 352 #[.val (.long p0), .second, .val (.int p1), .val (.int p2), .val (.int p3), .val (.int p4), .val (.int p5), .val (.int z2), .val (.int z5), .val (.int z8), .val (.int z11), .val (.int z14), .val (.int z17), .val (.int (b2i z21)), .val (.int (b2i z25)), .val (.int (b2i z29)), .val (.int (b2i z33)), .val (.int (b2i z37)), .val (.ref b39), .val (.ref b67), .val (.ref b97), .val (.ref b105), .val (.ref o263)] [(.int (0 : Int32))]))
                                            exact J286 _ _ Y284 N284 e284 false r300.symm
                                        · have r301 := r279.trans (if_neg hc282)
                                          refine Go.back (fun t k => XS.icmpNo Y249.here hx rfl (hb hby at_309) rfl (feq hc282).1 k) ?_
                                          show Go p.tables e below (P0 Z p0 p1 p2 p3 p4 p5 h0 n0 s) (T249.setTop (mkF m 312 #[.val (.long p0), .second, .val (.int p1), .val (.int p2), .val (.int p3), .val (.int p4), .val (.int p5), .val (.int z2), .val (.int z5), .val (.int z8), .val (.int z11), .val (.int z14), .val (.int z17), .val (.int (b2i z21)), .val (.int (b2i z25)), .val (.int (b2i z29)), .val (.int (b2i z33)), .val (.int (b2i z37)), .val (.ref b39), .val (.ref b67), .val (.ref b97), .val (.ref b105), .val (.ref o263)] []))
                                          refine Go.back (fun t k => XS.iconst Y249.here hx rfl (hb hby at_312) k) ?_
                                          show Go p.tables e below (P0 Z p0 p1 p2 p3 p4 p5 h0 n0 s) (T249.setTop (mkF m 313 #[.val (.long p0), .second, .val (.int p1), .val (.int p2), .val (.int p3), .val (.int p4), .val (.int p5), .val (.int z2), .val (.int z5), .val (.int z8), .val (.int z11), .val (.int z14), .val (.int z17), .val (.int (b2i z21)), .val (.int (b2i z25)), .val (.int (b2i z29)), .val (.int (b2i z33)), .val (.int (b2i z37)), .val (.ref b39), .val (.ref b67), .val (.ref b97), .val (.ref b105), .val (.ref o263)] [(.int (0 : Int32))]))
                                          exact Go.retB (b := false) Y249 hx Bd.returns (hb hby at_313) Bd.notSynchronized ⟨by rw [r301], N249⟩ (by decide) (by decide)
                                      exact J276 _ rfl t275
                                    exact J185 _ _ _ rfl rfl rfl F183 F184
                                  exact J172 _ _ _ rfl rfl rfl F170 F171
                                exact J159 _ _ _ rfl rfl rfl F157 F158
                              exact J146 _ _ _ rfl rfl rfl F144 F145
                            exact J133 _ _ _ rfl rfl rfl F131 F132
                          exact J93 _ rfl F92
                        exact J63 _ rfl F62
                      have r302 : (if (z17 &&& (16 : Int32)) = (0 : Int32) then false else true) = (if (z17 &&& (16 : Int32)) = (0 : Int32) then false else true) := rfl
                      by_cases hc35 : (z17 &&& (16 : Int32)) = (0 : Int32)
                      · have r303 := r302.trans (if_pos hc35)
                        refine Go.back (fun t k => XS.ifYes X0.here hx rfl (pc0 := 120) (pc' := 127) rfl (hb hby at_120) rfl ((if0 _ _).trans (teq hc35).1) (by decide) (by decide) k) ?_
                        show Go p.tables e below (P0 Z p0 p1 p2 p3 p4 p5 h0 n0 s) (s₁.setTop (mkF m 127 #[.val (.long p0), .second, .val (.int p1), .val (.int p2), .val (.int p3), .val (.int p4), .val (.int p5), .val (.int z2), .val (.int z5), .val (.int z8), .val (.int z11), .val (.int z14), .val (.int z17), .val (.int (b2i z21)), .val (.int (b2i z25)), .val (.int (b2i z29)), .val (.int (b2i z33)), .unset, .unset, .unset, .unset, .unset, .unset] []))
                        refine Go.back (fun t k => XS.iconst X0.here hx rfl (hb hby at_127) k) ?_
                        show Go p.tables e below (P0 Z p0 p1 p2 p3 p4 p5 h0 n0 s) (s₁.setTop (mkF m 128 #[.val (.long p0), .second, .val (.int p1), .val (.int p2), .val (.int p3), .val (.int p4), .val (.int p5), .val (.int z2), .val (.int z5), .val (.int z8), .val (.int z11), .val (.int z14), .val (.int z17), .val (.int (b2i z21)), .val (.int (b2i z25)), .val (.int (b2i z29)), .val (.int (b2i z33)), .unset, .unset, .unset, .unset, .unset, .unset] [(.int (0 : Int32))]))
                        exact J36 false r303.symm
                      · have r304 := r302.trans (if_neg hc35)
                        refine Go.back (fun t k => XS.ifNo X0.here hx rfl (hb hby at_120) rfl ((if0 _ _).trans (feq hc35).1) k) ?_
                        show Go p.tables e below (P0 Z p0 p1 p2 p3 p4 p5 h0 n0 s) (s₁.setTop (mkF m 123 #[.val (.long p0), .second, .val (.int p1), .val (.int p2), .val (.int p3), .val (.int p4), .val (.int p5), .val (.int z2), .val (.int z5), .val (.int z8), .val (.int z11), .val (.int z14), .val (.int z17), .val (.int (b2i z21)), .val (.int (b2i z25)), .val (.int (b2i z29)), .val (.int (b2i z33)), .unset, .unset, .unset, .unset, .unset, .unset] []))
                        refine Go.back (fun t k => XS.iconst X0.here hx rfl (hb hby at_123) k) ?_
                        show Go p.tables e below (P0 Z p0 p1 p2 p3 p4 p5 h0 n0 s) (s₁.setTop (mkF m 124 #[.val (.long p0), .second, .val (.int p1), .val (.int p2), .val (.int p3), .val (.int p4), .val (.int p5), .val (.int z2), .val (.int z5), .val (.int z8), .val (.int z11), .val (.int z14), .val (.int z17), .val (.int (b2i z21)), .val (.int (b2i z25)), .val (.int (b2i z29)), .val (.int (b2i z33)), .unset, .unset, .unset, .unset, .unset, .unset] [(.int (1 : Int32))]))
                        refine Go.back (fun t k => XS.goto X0.here hx rfl (pc0 := 124) (pc' := 128) rfl (hb hby at_124) (by decide) (by decide) k) ?_
                        show Go p.tables e below (P0 Z p0 p1 p2 p3 p4 p5 h0 n0 s) (s₁.setTop (mkF m 128 #[.val (.long p0), .second, .val (.int p1), .val (.int p2), .val (.int p3), .val (.int p4), .val (.int p5), .val (.int z2), .val (.int z5), .val (.int z8), .val (.int z11), .val (.int z14), .val (.int z17), .val (.int (b2i z21)), .val (.int (b2i z25)), .val (.int (b2i z29)), .val (.int (b2i z33)), .unset, .unset, .unset, .unset, .unset, .unset] [(.int (1 : Int32))]))
                        exact J36 true r304.symm
                    have r305 : (if (z17 &&& (8 : Int32)) = (0 : Int32) then false else true) = (if (z17 &&& (8 : Int32)) = (0 : Int32) then false else true) := rfl
                    by_cases hc31 : (z17 &&& (8 : Int32)) = (0 : Int32)
                    · have r306 := r305.trans (if_pos hc31)
                      refine Go.back (fun t k => XS.ifYes X0.here hx rfl (pc0 := 105) (pc' := 112) rfl (hb hby at_105) rfl ((if0 _ _).trans (teq hc31).1) (by decide) (by decide) k) ?_
                      show Go p.tables e below (P0 Z p0 p1 p2 p3 p4 p5 h0 n0 s) (s₁.setTop (mkF m 112 #[.val (.long p0), .second, .val (.int p1), .val (.int p2), .val (.int p3), .val (.int p4), .val (.int p5), .val (.int z2), .val (.int z5), .val (.int z8), .val (.int z11), .val (.int z14), .val (.int z17), .val (.int (b2i z21)), .val (.int (b2i z25)), .val (.int (b2i z29)), .unset, .unset, .unset, .unset, .unset, .unset, .unset] []))
                      refine Go.back (fun t k => XS.iconst X0.here hx rfl (hb hby at_112) k) ?_
                      show Go p.tables e below (P0 Z p0 p1 p2 p3 p4 p5 h0 n0 s) (s₁.setTop (mkF m 113 #[.val (.long p0), .second, .val (.int p1), .val (.int p2), .val (.int p3), .val (.int p4), .val (.int p5), .val (.int z2), .val (.int z5), .val (.int z8), .val (.int z11), .val (.int z14), .val (.int z17), .val (.int (b2i z21)), .val (.int (b2i z25)), .val (.int (b2i z29)), .unset, .unset, .unset, .unset, .unset, .unset, .unset] [(.int (0 : Int32))]))
                      exact J32 false r306.symm
                    · have r307 := r305.trans (if_neg hc31)
                      refine Go.back (fun t k => XS.ifNo X0.here hx rfl (hb hby at_105) rfl ((if0 _ _).trans (feq hc31).1) k) ?_
                      show Go p.tables e below (P0 Z p0 p1 p2 p3 p4 p5 h0 n0 s) (s₁.setTop (mkF m 108 #[.val (.long p0), .second, .val (.int p1), .val (.int p2), .val (.int p3), .val (.int p4), .val (.int p5), .val (.int z2), .val (.int z5), .val (.int z8), .val (.int z11), .val (.int z14), .val (.int z17), .val (.int (b2i z21)), .val (.int (b2i z25)), .val (.int (b2i z29)), .unset, .unset, .unset, .unset, .unset, .unset, .unset] []))
                      refine Go.back (fun t k => XS.iconst X0.here hx rfl (hb hby at_108) k) ?_
                      show Go p.tables e below (P0 Z p0 p1 p2 p3 p4 p5 h0 n0 s) (s₁.setTop (mkF m 109 #[.val (.long p0), .second, .val (.int p1), .val (.int p2), .val (.int p3), .val (.int p4), .val (.int p5), .val (.int z2), .val (.int z5), .val (.int z8), .val (.int z11), .val (.int z14), .val (.int z17), .val (.int (b2i z21)), .val (.int (b2i z25)), .val (.int (b2i z29)), .unset, .unset, .unset, .unset, .unset, .unset, .unset] [(.int (1 : Int32))]))
                      refine Go.back (fun t k => XS.goto X0.here hx rfl (pc0 := 109) (pc' := 113) rfl (hb hby at_109) (by decide) (by decide) k) ?_
                      show Go p.tables e below (P0 Z p0 p1 p2 p3 p4 p5 h0 n0 s) (s₁.setTop (mkF m 113 #[.val (.long p0), .second, .val (.int p1), .val (.int p2), .val (.int p3), .val (.int p4), .val (.int p5), .val (.int z2), .val (.int z5), .val (.int z8), .val (.int z11), .val (.int z14), .val (.int z17), .val (.int (b2i z21)), .val (.int (b2i z25)), .val (.int (b2i z29)), .unset, .unset, .unset, .unset, .unset, .unset, .unset] [(.int (1 : Int32))]))
                      exact J32 true r307.symm
                  have r308 : (if (z17 &&& (4 : Int32)) = (0 : Int32) then false else true) = (if (z17 &&& (4 : Int32)) = (0 : Int32) then false else true) := rfl
                  by_cases hc27 : (z17 &&& (4 : Int32)) = (0 : Int32)
                  · have r309 := r308.trans (if_pos hc27)
                    refine Go.back (fun t k => XS.ifYes X0.here hx rfl (pc0 := 90) (pc' := 97) rfl (hb hby at_90) rfl ((if0 _ _).trans (teq hc27).1) (by decide) (by decide) k) ?_
                    show Go p.tables e below (P0 Z p0 p1 p2 p3 p4 p5 h0 n0 s) (s₁.setTop (mkF m 97 #[.val (.long p0), .second, .val (.int p1), .val (.int p2), .val (.int p3), .val (.int p4), .val (.int p5), .val (.int z2), .val (.int z5), .val (.int z8), .val (.int z11), .val (.int z14), .val (.int z17), .val (.int (b2i z21)), .val (.int (b2i z25)), .unset, .unset, .unset, .unset, .unset, .unset, .unset, .unset] []))
                    refine Go.back (fun t k => XS.iconst X0.here hx rfl (hb hby at_97) k) ?_
                    show Go p.tables e below (P0 Z p0 p1 p2 p3 p4 p5 h0 n0 s) (s₁.setTop (mkF m 98 #[.val (.long p0), .second, .val (.int p1), .val (.int p2), .val (.int p3), .val (.int p4), .val (.int p5), .val (.int z2), .val (.int z5), .val (.int z8), .val (.int z11), .val (.int z14), .val (.int z17), .val (.int (b2i z21)), .val (.int (b2i z25)), .unset, .unset, .unset, .unset, .unset, .unset, .unset, .unset] [(.int (0 : Int32))]))
                    exact J28 false r309.symm
                  · have r310 := r308.trans (if_neg hc27)
                    refine Go.back (fun t k => XS.ifNo X0.here hx rfl (hb hby at_90) rfl ((if0 _ _).trans (feq hc27).1) k) ?_
                    show Go p.tables e below (P0 Z p0 p1 p2 p3 p4 p5 h0 n0 s) (s₁.setTop (mkF m 93 #[.val (.long p0), .second, .val (.int p1), .val (.int p2), .val (.int p3), .val (.int p4), .val (.int p5), .val (.int z2), .val (.int z5), .val (.int z8), .val (.int z11), .val (.int z14), .val (.int z17), .val (.int (b2i z21)), .val (.int (b2i z25)), .unset, .unset, .unset, .unset, .unset, .unset, .unset, .unset] []))
                    refine Go.back (fun t k => XS.iconst X0.here hx rfl (hb hby at_93) k) ?_
                    show Go p.tables e below (P0 Z p0 p1 p2 p3 p4 p5 h0 n0 s) (s₁.setTop (mkF m 94 #[.val (.long p0), .second, .val (.int p1), .val (.int p2), .val (.int p3), .val (.int p4), .val (.int p5), .val (.int z2), .val (.int z5), .val (.int z8), .val (.int z11), .val (.int z14), .val (.int z17), .val (.int (b2i z21)), .val (.int (b2i z25)), .unset, .unset, .unset, .unset, .unset, .unset, .unset, .unset] [(.int (1 : Int32))]))
                    refine Go.back (fun t k => XS.goto X0.here hx rfl (pc0 := 94) (pc' := 98) rfl (hb hby at_94) (by decide) (by decide) k) ?_
                    show Go p.tables e below (P0 Z p0 p1 p2 p3 p4 p5 h0 n0 s) (s₁.setTop (mkF m 98 #[.val (.long p0), .second, .val (.int p1), .val (.int p2), .val (.int p3), .val (.int p4), .val (.int p5), .val (.int z2), .val (.int z5), .val (.int z8), .val (.int z11), .val (.int z14), .val (.int z17), .val (.int (b2i z21)), .val (.int (b2i z25)), .unset, .unset, .unset, .unset, .unset, .unset, .unset, .unset] [(.int (1 : Int32))]))
                    exact J28 true r310.symm
                have r311 : (if (z17 &&& (2 : Int32)) = (0 : Int32) then false else true) = (if (z17 &&& (2 : Int32)) = (0 : Int32) then false else true) := rfl
                by_cases hc23 : (z17 &&& (2 : Int32)) = (0 : Int32)
                · have r312 := r311.trans (if_pos hc23)
                  refine Go.back (fun t k => XS.ifYes X0.here hx rfl (pc0 := 76) (pc' := 83) rfl (hb hby at_76) rfl ((if0 _ _).trans (teq hc23).1) (by decide) (by decide) k) ?_
                  show Go p.tables e below (P0 Z p0 p1 p2 p3 p4 p5 h0 n0 s) (s₁.setTop (mkF m 83 #[.val (.long p0), .second, .val (.int p1), .val (.int p2), .val (.int p3), .val (.int p4), .val (.int p5), .val (.int z2), .val (.int z5), .val (.int z8), .val (.int z11), .val (.int z14), .val (.int z17), .val (.int (b2i z21)), .unset, .unset, .unset, .unset, .unset, .unset, .unset, .unset, .unset] []))
                  refine Go.back (fun t k => XS.iconst X0.here hx rfl (hb hby at_83) k) ?_
                  show Go p.tables e below (P0 Z p0 p1 p2 p3 p4 p5 h0 n0 s) (s₁.setTop (mkF m 84 #[.val (.long p0), .second, .val (.int p1), .val (.int p2), .val (.int p3), .val (.int p4), .val (.int p5), .val (.int z2), .val (.int z5), .val (.int z8), .val (.int z11), .val (.int z14), .val (.int z17), .val (.int (b2i z21)), .unset, .unset, .unset, .unset, .unset, .unset, .unset, .unset, .unset] [(.int (0 : Int32))]))
                  exact J24 false r312.symm
                · have r313 := r311.trans (if_neg hc23)
                  refine Go.back (fun t k => XS.ifNo X0.here hx rfl (hb hby at_76) rfl ((if0 _ _).trans (feq hc23).1) k) ?_
                  show Go p.tables e below (P0 Z p0 p1 p2 p3 p4 p5 h0 n0 s) (s₁.setTop (mkF m 79 #[.val (.long p0), .second, .val (.int p1), .val (.int p2), .val (.int p3), .val (.int p4), .val (.int p5), .val (.int z2), .val (.int z5), .val (.int z8), .val (.int z11), .val (.int z14), .val (.int z17), .val (.int (b2i z21)), .unset, .unset, .unset, .unset, .unset, .unset, .unset, .unset, .unset] []))
                  refine Go.back (fun t k => XS.iconst X0.here hx rfl (hb hby at_79) k) ?_
                  show Go p.tables e below (P0 Z p0 p1 p2 p3 p4 p5 h0 n0 s) (s₁.setTop (mkF m 80 #[.val (.long p0), .second, .val (.int p1), .val (.int p2), .val (.int p3), .val (.int p4), .val (.int p5), .val (.int z2), .val (.int z5), .val (.int z8), .val (.int z11), .val (.int z14), .val (.int z17), .val (.int (b2i z21)), .unset, .unset, .unset, .unset, .unset, .unset, .unset, .unset, .unset] [(.int (1 : Int32))]))
                  refine Go.back (fun t k => XS.goto X0.here hx rfl (pc0 := 80) (pc' := 84) rfl (hb hby at_80) (by decide) (by decide) k) ?_
                  show Go p.tables e below (P0 Z p0 p1 p2 p3 p4 p5 h0 n0 s) (s₁.setTop (mkF m 84 #[.val (.long p0), .second, .val (.int p1), .val (.int p2), .val (.int p3), .val (.int p4), .val (.int p5), .val (.int z2), .val (.int z5), .val (.int z8), .val (.int z11), .val (.int z14), .val (.int z17), .val (.int (b2i z21)), .unset, .unset, .unset, .unset, .unset, .unset, .unset, .unset, .unset] [(.int (1 : Int32))]))
                  exact J24 true r313.symm
              have r314 : (if (z17 &&& (1 : Int32)) = (0 : Int32) then false else true) = (if (z17 &&& (1 : Int32)) = (0 : Int32) then false else true) := rfl
              by_cases hc19 : (z17 &&& (1 : Int32)) = (0 : Int32)
              · have r315 := r314.trans (if_pos hc19)
                refine Go.back (fun t k => XS.ifYes X0.here hx rfl (pc0 := 62) (pc' := 69) rfl (hb hby at_62) rfl ((if0 _ _).trans (teq hc19).1) (by decide) (by decide) k) ?_
                show Go p.tables e below (P0 Z p0 p1 p2 p3 p4 p5 h0 n0 s) (s₁.setTop (mkF m 69 #[.val (.long p0), .second, .val (.int p1), .val (.int p2), .val (.int p3), .val (.int p4), .val (.int p5), .val (.int z2), .val (.int z5), .val (.int z8), .val (.int z11), .val (.int z14), .val (.int z17), .unset, .unset, .unset, .unset, .unset, .unset, .unset, .unset, .unset, .unset] []))
                refine Go.back (fun t k => XS.iconst X0.here hx rfl (hb hby at_69) k) ?_
                show Go p.tables e below (P0 Z p0 p1 p2 p3 p4 p5 h0 n0 s) (s₁.setTop (mkF m 70 #[.val (.long p0), .second, .val (.int p1), .val (.int p2), .val (.int p3), .val (.int p4), .val (.int p5), .val (.int z2), .val (.int z5), .val (.int z8), .val (.int z11), .val (.int z14), .val (.int z17), .unset, .unset, .unset, .unset, .unset, .unset, .unset, .unset, .unset, .unset] [(.int (0 : Int32))]))
                exact J20 false r315.symm
              · have r316 := r314.trans (if_neg hc19)
                refine Go.back (fun t k => XS.ifNo X0.here hx rfl (hb hby at_62) rfl ((if0 _ _).trans (feq hc19).1) k) ?_
                show Go p.tables e below (P0 Z p0 p1 p2 p3 p4 p5 h0 n0 s) (s₁.setTop (mkF m 65 #[.val (.long p0), .second, .val (.int p1), .val (.int p2), .val (.int p3), .val (.int p4), .val (.int p5), .val (.int z2), .val (.int z5), .val (.int z8), .val (.int z11), .val (.int z14), .val (.int z17), .unset, .unset, .unset, .unset, .unset, .unset, .unset, .unset, .unset, .unset] []))
                refine Go.back (fun t k => XS.iconst X0.here hx rfl (hb hby at_65) k) ?_
                show Go p.tables e below (P0 Z p0 p1 p2 p3 p4 p5 h0 n0 s) (s₁.setTop (mkF m 66 #[.val (.long p0), .second, .val (.int p1), .val (.int p2), .val (.int p3), .val (.int p4), .val (.int p5), .val (.int z2), .val (.int z5), .val (.int z8), .val (.int z11), .val (.int z14), .val (.int z17), .unset, .unset, .unset, .unset, .unset, .unset, .unset, .unset, .unset, .unset] [(.int (1 : Int32))]))
                refine Go.back (fun t k => XS.goto X0.here hx rfl (pc0 := 66) (pc' := 70) rfl (hb hby at_66) (by decide) (by decide) k) ?_
                show Go p.tables e below (P0 Z p0 p1 p2 p3 p4 p5 h0 n0 s) (s₁.setTop (mkF m 70 #[.val (.long p0), .second, .val (.int p1), .val (.int p2), .val (.int p3), .val (.int p4), .val (.int p5), .val (.int z2), .val (.int z5), .val (.int z8), .val (.int z11), .val (.int z14), .val (.int z17), .unset, .unset, .unset, .unset, .unset, .unset, .unset, .unset, .unset, .unset] [(.int (1 : Int32))]))
                exact J20 true r316.symm
            exact J16 _ rfl
          exact J13 _ rfl
        exact J10 _ rfl
      exact J7 _ rfl
    exact J4 _ rfl
  exact J1 _ rfl
def own_R (G es : List Int64) (n : Nat) : Prop := G.length = n ∧ es.length = 3 ∧ n ≤ 3 ∧ (∀ k, k < n → List.getD G k (0 : Int64) = List.getD es k (0 : Int64)) ∧ (∀ k, n ≤ k → List.getD es k (0 : Int64) = (0 : Int64))
theorem own_masks : ∀ k : Fin 31, ((((-1 : Int64)).toUInt64 >>> (((64 : Int32) - Int32.ofNat (k.val + 1)) &&& 0x3f).toInt64.toUInt64).toInt64) = ((1 : Int64) <<< (Int32.ofNat (k.val + 1) &&& 0x3f).toInt64) - (1 : Int64) := by decide +kernel
theorem own_mask (b : Int32) (h0 : 0 < b.toInt) (h1 : b.toInt ≤ 31) : ((((-1 : Int64)).toUInt64 >>> (((64 : Int32) - b) &&& 0x3f).toInt64.toUInt64).toInt64) = ((1 : Int64) <<< (b &&& 0x3f).toInt64) - (1 : Int64) := by
  have e : b = Int32.ofNat ((b.toInt.toNat - 1) + 1) := by
    apply Int32.toInt_inj.mp
    rw [Int32.toInt_ofNat_of_lt (by omega)]; omega
  have q := own_masks ⟨b.toInt.toNat - 1, by omega⟩
  simp only at q
  rw [← e] at q; exact q
theorem own_zero_shl (x : Int64) : (0 : Int64) <<< x = 0 := by
  apply Int64.toBitVec_inj.mp
  simp
theorem own_R_step {G es : List Int64} {n : Nat} {b w u : Int32} {m : Bool} (R : own_R G es n) (hb : 0 ≤ b.toInt ∧ b.toInt ≤ 31) (h1 : 1 ≤ w.toInt) (h2 : w.toInt ≤ n) :
    own_R (if b2i m = (0 : Int32) then G else (List.set G (w - (1 : Int32)).toNatClampNeg ((List.getD G (w - (1 : Int32)).toNatClampNeg (0 : Int64)) ||| ((((1 : Int64) <<< (b &&& 0x3f).toInt64) - (1 : Int64)) <<< (u &&& 0x3f).toInt64))))
      (if m = true then (if (0 : Int32) < b then (List.set es ((w - (1 : Int32))).toNatClampNeg ((List.getD es ((w - (1 : Int32))).toNatClampNeg (0 : Int64)) ||| ((((((-1 : Int64)).toUInt64 >>> (((64 : Int32) - b) &&& 0x3f).toInt64.toUInt64).toInt64) <<< (u &&& 0x3f).toInt64)))) else es) else es) n := by
  obtain ⟨r1, r2, r3, r4, r5⟩ := R
  have ix : (w - (1 : Int32)).toNatClampNeg = w.toInt.toNat - 1 := by simp only [Int32.toNatClampNeg]; rw [own_sub1 h1]; omega
  rw [ix]
  cases m
  · exact ⟨r1, r2, r3, r4, r5⟩
  · rw [if_neg (by decide), if_pos rfl]
    by_cases c : (0 : Int32) < b
    · rw [if_pos c]
      rw [Int32.lt_iff_toInt_lt, own_l0] at c
      rw [own_mask b c hb.2, r4 _ (by omega)]
      refine ⟨by simp [r1], by simp [r2], r3, fun k hk => ?_, fun k hk => ?_⟩
      · rw [own_gset _ _ _ _ _ (by omega), own_gset _ _ _ _ _ (by omega)]
        split
        · rfl
        · exact r4 k hk
      · rw [own_gset _ _ _ _ _ (by omega), if_neg (by omega)]; exact r5 k hk
    · rw [if_neg c]
      rw [Int32.lt_iff_toInt_lt, own_l0] at c
      have b0 : b = (0 : Int32) := Int32.toInt_inj.mp (by rw [own_l0]; omega)
      subst b0
      have z : ((1 : Int64) <<< ((0 : Int32) &&& 0x3f).toInt64) - (1 : Int64) = 0 := by decide +kernel
      rw [z, own_zero_shl, Int64.or_zero]
      refine ⟨by simp [r1], r2, r3, fun k hk => ?_, r5⟩
      rw [own_gset _ _ _ _ _ (by omega)]
      split
      · rename_i e; rw [← e]; exact r4 _ (by omega)
      · exact r4 k hk
theorem own_pk_step {xs : List Int32} {n : Nat} {i w u b w' v u' : Int32} {W S : List Int32} {M : List Int64} (k : Nat) (hi : (i).toNatClampNeg = k) (hb : own_bw (List.getD xs k (0 : Int32)) = b) (hw : w' = if (64 : Int32) < (u + b) then (w + (1 : Int32)) else w) (hv : v = if (64 : Int32) < (u + b) then (0 : Int32) else u) (hu : u' = v + b) : own_pk xs (n + 1) i w u W S M = own_pk xs n (i + (1 : Int32)) w' u' (List.set W k (w' - (1 : Int32))) (List.set S k v) (List.set M k (((1 : Int64) <<< (b &&& 0x3f).toInt64) - (1 : Int64))) := by
  rw [own_pk_eq, hi, hb, ← hw, ← hv, ← hu]
theorem own_bits_step {ms W S : List Int32} {M G : List Int64} {n : Nat} {i w v : Int32} {m : Bool} {q : Int64} (k : Nat) (hi : (i).toNatClampNeg = k) (h1 : List.getD ms k (0 : Int32) = b2i m) (h2 : List.getD W k (0 : Int32) = w - (1 : Int32)) (h3 : List.getD S k (0 : Int32) = v) (h4 : List.getD M k (0 : Int64) = q) : own_bits ms W S M (n + 1) i G = own_bits ms W S M n (i + (1 : Int32)) (if b2i m = (0 : Int32) then G else (List.set G (w - (1 : Int32)).toNatClampNeg ((List.getD G (w - (1 : Int32)).toNatClampNeg (0 : Int64)) ||| (q <<< (v &&& 0x3f).toInt64)))) := by
  rw [own_bits, hi, h1, h2, h3, h4]
theorem own_hI_val (n : Int) (k : Nat) (hk : k ≤ 30) (h1 : ((2 ^ k : Nat) : Int) ≤ n) (h2 : n < ((2 ^ (k + 1) : Nat) : Int)) : own_hI n = 31 - k := by
  have hc : k = 0 ∨ k = 1 ∨ k = 2 ∨ k = 3 ∨ k = 4 ∨ k = 5 ∨ k = 6 ∨ k = 7 ∨ k = 8 ∨ k = 9 ∨ k = 10 ∨ k = 11 ∨ k = 12 ∨ k = 13 ∨ k = 14 ∨ k = 15 ∨ k = 16 ∨ k = 17 ∨ k = 18 ∨ k = 19 ∨ k = 20 ∨ k = 21 ∨ k = 22 ∨ k = 23 ∨ k = 24 ∨ k = 25 ∨ k = 26 ∨ k = 27 ∨ k = 28 ∨ k = 29 ∨ k = 30 := by omega
  unfold own_hI
  rcases hc with rfl | rfl | rfl | rfl | rfl | rfl | rfl | rfl | rfl | rfl | rfl | rfl | rfl | rfl | rfl | rfl | rfl | rfl | rfl | rfl | rfl | rfl | rfl | rfl | rfl | rfl | rfl | rfl | rfl | rfl | rfl <;> simp only [Nat.reducePow, Nat.reduceAdd] at h1 h2 <;> dsimp only <;> repeat' split <;> omega
theorem own_lows : ∀ k : Fin 31, ((1 : Int32) <<< ((Int32.ofNat (k.val + 1) - (1 : Int32)) &&& 31)) = Int32.ofNat (2 ^ k.val) ∧ (Int32.ofNat (2 ^ k.val)).toInt = (2 ^ k.val : Nat) ∧ (Int32.ofNat (2 ^ k.val) - (1 : Int32)).toBitVec.toNat = 2 ^ k.val - 1 ∧ 2 ^ (k.val + 1) = 2 * 2 ^ k.val ∧ 2 ^ k.val ≤ 1073741824 ∧ (k.val < 30 → 2 ^ k.val ≤ 536870912) ∧ 1 ≤ 2 ^ k.val := by decide +kernel
theorem own_size (b r : Int32) (h : 0 ≤ b.toInt ∧ b.toInt ≤ 31) : own_bw (f1 b r) = b := by
  by_cases c : b = (0 : Int32)
  · subst c
    have a := c_and r 1 (by decide); rw [own_l1] at a
    have e := c_isub (r &&& (1 : Int32)) 1; have q := rng32 ((r &&& (1 : Int32)) - (1 : Int32)); rw [own_l1] at e
    refine own_bw0 _ ?_
    show ¬ 0 < ((r &&& (1 : Int32)) - (1 : Int32)).toInt
    omega
  · have bp : 0 < b.toInt := by
      rcases Int.lt_or_le 0 b.toInt with q | q
      · exact q
      · exact absurd (Int32.toInt_inj.mp (by rw [own_l0]; omega)) c
    obtain ⟨k, hk⟩ : ∃ k : Fin 31, b = Int32.ofNat (k.val + 1) := ⟨⟨b.toInt.toNat - 1, by omega⟩, by
      apply Int32.toInt_inj.mp
      rw [Int32.toInt_ofNat_of_lt (by show b.toInt.toNat - 1 + 1 < _; omega)]; show b.toInt = ((b.toInt.toNat - 1 + 1 : Nat) : Int); omega⟩
    have hb : b.toInt = k.val + 1 := by rw [hk, Int32.toInt_ofNat_of_lt (by have := k.isLt; omega)]; rfl
    obtain ⟨q1, q2, q3, q4, q5, q6, q7⟩ := own_lows k
    unfold f1
    rw [if_neg c, hk, q1]
    generalize Int32.ofNat (2 ^ k.val) = low at *
    have m := c_mask r (low - (1 : Int32)) k.val (by have := k.isLt; omega) q3
    have ml := Int.emod_lt_of_pos r.toInt (show 0 < ((2 ^ k.val : Nat) : Int) by omega)
    have mn := Int.emod_nonneg r.toInt (show ((2 ^ k.val : Nat) : Int) ≠ 0 by omega)
    have o := c_or low (r &&& (low - (1 : Int32))) k.val (by have := k.isLt; omega) _ rfl (by rw [q2]; exact Int.emod_self) (by rw [m]; exact mn) (by rw [m]; exact ml)
    have R := rng32 (low ||| (r &&& (low - (1 : Int32))))
    rw [m, q2] at o
    dsimp only
    generalize (low ||| (r &&& (low - (1 : Int32)))) = v at *
    generalize hP : ((2 ^ k.val : Nat) : Int) = P at *
    have v1 : P ≤ v.toInt ∧ v.toInt < 2 * P := by
      have : P ≤ 1073741824 := by omega
      omega
    have lm : (2147483647 : Int32).toInt = 2147483647 := rfl
    have key : ∀ z : Int32, P ≤ z.toInt → z.toInt < 2 * P → own_bw (z + (1 : Int32)) = Int32.ofNat (k.val + 1) := fun z z1 z2 => by
      have s : z + (1 : Int32) - (1 : Int32) = z := Int32.add_sub_cancel z 1
      have w := own_bw1 (z + (1 : Int32)) (by rw [s]; omega)
      rw [s, own_hI_val z.toInt k.val (by have := k.isLt; omega) (by omega) (by rw [q4]; omega)] at w
      apply Int32.toInt_inj.mp
      rw [w, ← hk, hb]; have := k.isLt; omega
    by_cases mx : v = (2147483647 : Int32)
    · rw [if_pos mx]
      have e : (v - (1 : Int32)).toInt = 2147483646 := by rw [mx]; decide
      have vm : v.toInt = 2147483647 := by rw [mx]; exact lm
      exact key _ (by rw [e]; have : P ≤ 1073741824 := by omega
                      omega) (by rw [e]; omega)
    · rw [if_neg mx]; exact key _ v1.1 v1.2
theorem own_mono {w b u w' : Int32} (h1 : 1 ≤ w.toInt) (h3 : w.toInt ≤ 3) (h : w' = if (64 : Int32) < (u + b) then (w + (1 : Int32)) else w) : w.toInt ≤ w'.toInt := by
  rw [h]
  split
  · have e1 := c_iadd w 1; have r1 := rng32 (w + 1); rw [own_l1] at e1; omega
  · omega
theorem own_same {G es : List Int64} {n : Nat} (R : own_R G es n) (p nl : Int32) (hp : 0 ≤ p.toInt) (hn : nl.toInt = n) : f8 p G es nl = true := by
  obtain ⟨r1, r2, r3, r4, r5⟩ := R
  unfold f8
  by_cases c : p < nl
  · rw [if_pos c]
    rw [Int32.lt_iff_toInt_lt] at c
    dsimp only
    rw [if_pos (r4 _ (by simp only [Int32.toNatClampNeg]; omega))]
  · rw [if_neg c]
    rw [Int32.lt_iff_toInt_lt] at c
    dsimp only
    rw [if_pos (r5 _ (by simp only [Int32.toNatClampNeg]; omega))]
set_option maxHeartbeats 2000000 in
theorem own_core (b0 b1 b2 b3 b4 : Int32) (m0 m1 m2 m3 m4 : Bool) (p1 p2 p3 p4 p5 : Int32) (h0 : 0 ≤ b0.toInt ∧ b0.toInt ≤ 31) (h1 : 0 ≤ b1.toInt ∧ b1.toInt ≤ 31) (h2 : 0 ≤ b2.toInt ∧ b2.toInt ≤ 31) (h3 : 0 ≤ b3.toInt ∧ b3.toInt ≤ 31) (h4 : 0 ≤ b4.toInt ∧ b4.toInt ≤ 31) : (let z64 : List Int32 := [(f1 b0 p1), (f1 b1 p2), (f1 b2 p3), (f1 b3 p4), (f1 b4 p5)]; (let z94 : List Int32 := [(b2i m0), (b2i m1), (b2i m2), (b2i m3), (b2i m4)]; (let z135 : List Int64 := (g2_1 b0 m0 (0 : Int32) (1 : Int32) [(0 : Int64), (0 : Int64), (0 : Int64)]); let z137 : Int32 := (g2_2 b0 m0 (0 : Int32) (1 : Int32) [(0 : Int64), (0 : Int64), (0 : Int64)]); let z138 : Int32 := (g2_3 b0 m0 (0 : Int32) (1 : Int32) [(0 : Int64), (0 : Int64), (0 : Int64)]); (let z148 : List Int64 := (g2_1 b1 m1 z137 z138 z135); let z150 : Int32 := (g2_2 b1 m1 z137 z138 z135); let z151 : Int32 := (g2_3 b1 m1 z137 z138 z135); (let z161 : List Int64 := (g2_1 b2 m2 z150 z151 z148); let z163 : Int32 := (g2_2 b2 m2 z150 z151 z148); let z164 : Int32 := (g2_3 b2 m2 z150 z151 z148); (let z174 : List Int64 := (g2_1 b3 m3 z163 z164 z161); let z176 : Int32 := (g2_2 b3 m3 z163 z164 z161); let z177 : Int32 := (g2_3 b3 m3 z163 z164 z161); (let z187 : List Int64 := (g2_1 b4 m4 z176 z177 z174); let z189 : Int32 := (g2_2 b4 m4 z176 z177 z174); let z190 : Int32 := (g2_3 b4 m4 z176 z177 z174); (let z277 : List Int64 := (own_bitsr z94 (own_pkr z64).2.1 (own_pkr z64).2.2.1 (own_pkr z64).2.2.2 (own_pkr z64).1); (if (List.length z277).toInt32 = z190 then (let z287 : Bool := (if (f8 (0 : Int32) z277 z187 ((List.length z277).toInt32)) = true then (if (f8 (1 : Int32) z277 z187 ((List.length z277).toInt32)) = true then (if (f8 (2 : Int32) z277 z187 ((List.length z277).toInt32)) = true then true else false) else false) else false); z287) else false))))))))) = true := by
  dsimp only
  have i1 := own_inv_next (b := b0) (m := m0) (es := [(0 : Int64), (0 : Int64), (0 : Int64)]) own_inv0 h0
  obtain ⟨v1, hv1⟩ : ∃ v, v = (if (64 : Int32) < ((0 : Int32) + b0) then (0 : Int32) else (0 : Int32)) := ⟨_, rfl⟩
  obtain ⟨w1, hw1⟩ : ∃ w, w = g2_3 b0 m0 (0 : Int32) (1 : Int32) [(0 : Int64), (0 : Int64), (0 : Int64)] := ⟨_, rfl⟩
  obtain ⟨u1, hu1⟩ : ∃ u, u = g2_2 b0 m0 (0 : Int32) (1 : Int32) [(0 : Int64), (0 : Int64), (0 : Int64)] := ⟨_, rfl⟩
  obtain ⟨e1, he1⟩ : ∃ z, z = g2_1 b0 m0 (0 : Int32) (1 : Int32) [(0 : Int64), (0 : Int64), (0 : Int64)] := ⟨_, rfl⟩
  rw [← hw1, ← hu1] at i1
  rw [← hw1, ← hu1, ← he1]
  have kw1 : w1 = (if (64 : Int32) < ((0 : Int32) + b0) then ((1 : Int32) + (1 : Int32)) else (1 : Int32)) := hw1
  have ku1 : u1 = v1 + b0 := by rw [hu1, hv1]; rfl
  have d1 := own_inv_bd i1
  have i2 := own_inv_next (b := b1) (m := m1) (es := e1) i1 h1
  obtain ⟨v2, hv2⟩ : ∃ v, v = (if (64 : Int32) < (u1 + b1) then (0 : Int32) else u1) := ⟨_, rfl⟩
  obtain ⟨w2, hw2⟩ : ∃ w, w = g2_3 b1 m1 u1 w1 e1 := ⟨_, rfl⟩
  obtain ⟨u2, hu2⟩ : ∃ u, u = g2_2 b1 m1 u1 w1 e1 := ⟨_, rfl⟩
  obtain ⟨e2, he2⟩ : ∃ z, z = g2_1 b1 m1 u1 w1 e1 := ⟨_, rfl⟩
  rw [← hw2, ← hu2] at i2
  rw [← hw2, ← hu2, ← he2]
  have kw2 : w2 = (if (64 : Int32) < (u1 + b1) then (w1 + (1 : Int32)) else w1) := hw2
  have ku2 : u2 = v2 + b1 := by rw [hu2, hv2]; rfl
  have d2 := own_inv_bd i2
  have n2 := own_mono d1.2.2.1 d1.2.2.2.2.1 kw2
  have i3 := own_inv_next (b := b2) (m := m2) (es := e2) i2 h2
  obtain ⟨v3, hv3⟩ : ∃ v, v = (if (64 : Int32) < (u2 + b2) then (0 : Int32) else u2) := ⟨_, rfl⟩
  obtain ⟨w3, hw3⟩ : ∃ w, w = g2_3 b2 m2 u2 w2 e2 := ⟨_, rfl⟩
  obtain ⟨u3, hu3⟩ : ∃ u, u = g2_2 b2 m2 u2 w2 e2 := ⟨_, rfl⟩
  obtain ⟨e3, he3⟩ : ∃ z, z = g2_1 b2 m2 u2 w2 e2 := ⟨_, rfl⟩
  rw [← hw3, ← hu3] at i3
  rw [← hw3, ← hu3, ← he3]
  have kw3 : w3 = (if (64 : Int32) < (u2 + b2) then (w2 + (1 : Int32)) else w2) := hw3
  have ku3 : u3 = v3 + b2 := by rw [hu3, hv3]; rfl
  have d3 := own_inv_bd i3
  have n3 := own_mono d2.2.2.1 d2.2.2.2.2.1 kw3
  have i4 := own_inv_next (b := b3) (m := m3) (es := e3) i3 h3
  obtain ⟨v4, hv4⟩ : ∃ v, v = (if (64 : Int32) < (u3 + b3) then (0 : Int32) else u3) := ⟨_, rfl⟩
  obtain ⟨w4, hw4⟩ : ∃ w, w = g2_3 b3 m3 u3 w3 e3 := ⟨_, rfl⟩
  obtain ⟨u4, hu4⟩ : ∃ u, u = g2_2 b3 m3 u3 w3 e3 := ⟨_, rfl⟩
  obtain ⟨e4, he4⟩ : ∃ z, z = g2_1 b3 m3 u3 w3 e3 := ⟨_, rfl⟩
  rw [← hw4, ← hu4] at i4
  rw [← hw4, ← hu4, ← he4]
  have kw4 : w4 = (if (64 : Int32) < (u3 + b3) then (w3 + (1 : Int32)) else w3) := hw4
  have ku4 : u4 = v4 + b3 := by rw [hu4, hv4]; rfl
  have d4 := own_inv_bd i4
  have n4 := own_mono d3.2.2.1 d3.2.2.2.2.1 kw4
  have i5 := own_inv_next (b := b4) (m := m4) (es := e4) i4 h4
  obtain ⟨v5, hv5⟩ : ∃ v, v = (if (64 : Int32) < (u4 + b4) then (0 : Int32) else u4) := ⟨_, rfl⟩
  obtain ⟨w5, hw5⟩ : ∃ w, w = g2_3 b4 m4 u4 w4 e4 := ⟨_, rfl⟩
  obtain ⟨u5, hu5⟩ : ∃ u, u = g2_2 b4 m4 u4 w4 e4 := ⟨_, rfl⟩
  obtain ⟨e5, he5⟩ : ∃ z, z = g2_1 b4 m4 u4 w4 e4 := ⟨_, rfl⟩
  rw [← hw5, ← hu5] at i5
  rw [← he5, ← hw5]
  have kw5 : w5 = (if (64 : Int32) < (u4 + b4) then (w4 + (1 : Int32)) else w4) := hw5
  have ku5 : u5 = v5 + b4 := by rw [hu5, hv5]; rfl
  have d5 := own_inv_bd i5
  have n5 := own_mono d4.2.2.1 d4.2.2.2.2.1 kw5
  have pk : own_pkr [(f1 b0 p1), (f1 b1 p2), (f1 b2 p3), (f1 b3 p4), (f1 b4 p5)] = (w5, [w1 - (1 : Int32), w2 - (1 : Int32), w3 - (1 : Int32), w4 - (1 : Int32), w5 - (1 : Int32)], [v1, v2, v3, v4, v5], [((1 : Int64) <<< (b0 &&& 0x3f).toInt64) - (1 : Int64), ((1 : Int64) <<< (b1 &&& 0x3f).toInt64) - (1 : Int64), ((1 : Int64) <<< (b2 &&& 0x3f).toInt64) - (1 : Int64), ((1 : Int64) <<< (b3 &&& 0x3f).toInt64) - (1 : Int64), ((1 : Int64) <<< (b4 &&& 0x3f).toInt64) - (1 : Int64)]) := by
    obtain ⟨xs, hxs⟩ : ∃ z, z = [(f1 b0 p1), (f1 b1 p2), (f1 b2 p3), (f1 b3 p4), (f1 b4 p5)] := ⟨_, rfl⟩
    rw [← hxs]
    have g0 : own_bw (List.getD xs 0 (0 : Int32)) = b0 := by rw [hxs]; simp only [List.getD_cons_zero, List.getD_cons_succ]; exact own_size b0 p1 h0
    have g1 : own_bw (List.getD xs 1 (0 : Int32)) = b1 := by rw [hxs]; simp only [List.getD_cons_zero, List.getD_cons_succ]; exact own_size b1 p2 h1
    have g2 : own_bw (List.getD xs 2 (0 : Int32)) = b2 := by rw [hxs]; simp only [List.getD_cons_zero, List.getD_cons_succ]; exact own_size b2 p3 h2
    have g3 : own_bw (List.getD xs 3 (0 : Int32)) = b3 := by rw [hxs]; simp only [List.getD_cons_zero, List.getD_cons_succ]; exact own_size b3 p4 h3
    have g4 : own_bw (List.getD xs 4 (0 : Int32)) = b4 := by rw [hxs]; simp only [List.getD_cons_zero, List.getD_cons_succ]; exact own_size b4 p5 h4
    clear hxs
    unfold own_pkr
    rw [own_pk_step (xs := xs) 0 rfl g0 kw1 hv1 ku1, own_pk_step (xs := xs) 1 rfl g1 kw2 hv2 ku2, own_pk_step (xs := xs) 2 rfl g2 kw3 hv3 ku3, own_pk_step (xs := xs) 3 rfl g3 kw4 hv4 ku4, own_pk_step (xs := xs) 4 rfl g4 kw5 hv5 ku5]
    rfl
  rw [pk]
  dsimp only
  have R0 : own_R (List.replicate (w5).toNatClampNeg (0 : Int64)) [(0 : Int64), (0 : Int64), (0 : Int64)] w5.toNatClampNeg := by
    refine ⟨by simp, rfl, by simp only [Int32.toNatClampNeg]; omega, fun k hk => ?_, fun k hk => ?_⟩
    · rw [List.getD_eq_getElem?_getD, List.getElem?_replicate, if_pos hk]; match k with | 0 => rfl | 1 => rfl | 2 => rfl | k + 3 => rfl
    · match k with | 0 => rfl | 1 => rfl | 2 => rfl | k + 3 => rfl
  have R1 := own_R_step (b := b0) (w := w1) (u := v1) (m := m0) R0 h0 d1.2.2.1 (by simp only [Int32.toNatClampNeg]; omega)
  rw [show (if m0 = true then (if (0 : Int32) < b0 then (List.set [(0 : Int64), (0 : Int64), (0 : Int64)] ((w1 - (1 : Int32))).toNatClampNeg ((List.getD [(0 : Int64), (0 : Int64), (0 : Int64)] ((w1 - (1 : Int32))).toNatClampNeg (0 : Int64)) ||| ((((((-1 : Int64)).toUInt64 >>> (((64 : Int32) - b0) &&& 0x3f).toInt64.toUInt64).toInt64) <<< (v1 &&& 0x3f).toInt64)))) else [(0 : Int64), (0 : Int64), (0 : Int64)]) else [(0 : Int64), (0 : Int64), (0 : Int64)]) = e1 by rw [he1, kw1, hv1]; rfl] at R1
  have R2 := own_R_step (b := b1) (w := w2) (u := v2) (m := m1) R1 h1 d2.2.2.1 (by simp only [Int32.toNatClampNeg]; omega)
  rw [show (if m1 = true then (if (0 : Int32) < b1 then (List.set e1 ((w2 - (1 : Int32))).toNatClampNeg ((List.getD e1 ((w2 - (1 : Int32))).toNatClampNeg (0 : Int64)) ||| ((((((-1 : Int64)).toUInt64 >>> (((64 : Int32) - b1) &&& 0x3f).toInt64.toUInt64).toInt64) <<< (v2 &&& 0x3f).toInt64)))) else e1) else e1) = e2 by rw [he2, kw2, hv2]; rfl] at R2
  have R3 := own_R_step (b := b2) (w := w3) (u := v3) (m := m2) R2 h2 d3.2.2.1 (by simp only [Int32.toNatClampNeg]; omega)
  rw [show (if m2 = true then (if (0 : Int32) < b2 then (List.set e2 ((w3 - (1 : Int32))).toNatClampNeg ((List.getD e2 ((w3 - (1 : Int32))).toNatClampNeg (0 : Int64)) ||| ((((((-1 : Int64)).toUInt64 >>> (((64 : Int32) - b2) &&& 0x3f).toInt64.toUInt64).toInt64) <<< (v3 &&& 0x3f).toInt64)))) else e2) else e2) = e3 by rw [he3, kw3, hv3]; rfl] at R3
  have R4 := own_R_step (b := b3) (w := w4) (u := v4) (m := m3) R3 h3 d4.2.2.1 (by simp only [Int32.toNatClampNeg]; omega)
  rw [show (if m3 = true then (if (0 : Int32) < b3 then (List.set e3 ((w4 - (1 : Int32))).toNatClampNeg ((List.getD e3 ((w4 - (1 : Int32))).toNatClampNeg (0 : Int64)) ||| ((((((-1 : Int64)).toUInt64 >>> (((64 : Int32) - b3) &&& 0x3f).toInt64.toUInt64).toInt64) <<< (v4 &&& 0x3f).toInt64)))) else e3) else e3) = e4 by rw [he4, kw4, hv4]; rfl] at R4
  have R5 := own_R_step (b := b4) (w := w5) (u := v5) (m := m4) R4 h4 d5.2.2.1 (by simp only [Int32.toNatClampNeg]; omega)
  rw [show (if m4 = true then (if (0 : Int32) < b4 then (List.set e4 ((w5 - (1 : Int32))).toNatClampNeg ((List.getD e4 ((w5 - (1 : Int32))).toNatClampNeg (0 : Int64)) ||| ((((((-1 : Int64)).toUInt64 >>> (((64 : Int32) - b4) &&& 0x3f).toInt64.toUInt64).toInt64) <<< (v5 &&& 0x3f).toInt64)))) else e4) else e4) = e5 by rw [he5, kw5, hv5]; rfl] at R5
  have bt : ∃ G, own_bitsr [(b2i m0), (b2i m1), (b2i m2), (b2i m3), (b2i m4)] [w1 - (1 : Int32), w2 - (1 : Int32), w3 - (1 : Int32), w4 - (1 : Int32), w5 - (1 : Int32)] [v1, v2, v3, v4, v5] [((1 : Int64) <<< (b0 &&& 0x3f).toInt64) - (1 : Int64), ((1 : Int64) <<< (b1 &&& 0x3f).toInt64) - (1 : Int64), ((1 : Int64) <<< (b2 &&& 0x3f).toInt64) - (1 : Int64), ((1 : Int64) <<< (b3 &&& 0x3f).toInt64) - (1 : Int64), ((1 : Int64) <<< (b4 &&& 0x3f).toInt64) - (1 : Int64)] w5 = G ∧ own_R G e5 w5.toNatClampNeg := by
    obtain ⟨ms, hms⟩ : ∃ z, z = [(b2i m0), (b2i m1), (b2i m2), (b2i m3), (b2i m4)] := ⟨_, rfl⟩
    obtain ⟨WW, hWW⟩ : ∃ z, z = [w1 - (1 : Int32), w2 - (1 : Int32), w3 - (1 : Int32), w4 - (1 : Int32), w5 - (1 : Int32)] := ⟨_, rfl⟩
    obtain ⟨SS, hSS⟩ : ∃ z, z = [v1, v2, v3, v4, v5] := ⟨_, rfl⟩
    obtain ⟨MM, hMM⟩ : ∃ z, z = [((1 : Int64) <<< (b0 &&& 0x3f).toInt64) - (1 : Int64), ((1 : Int64) <<< (b1 &&& 0x3f).toInt64) - (1 : Int64), ((1 : Int64) <<< (b2 &&& 0x3f).toInt64) - (1 : Int64), ((1 : Int64) <<< (b3 &&& 0x3f).toInt64) - (1 : Int64), ((1 : Int64) <<< (b4 &&& 0x3f).toInt64) - (1 : Int64)] := ⟨_, rfl⟩
    rw [← hms, ← hWW, ← hSS, ← hMM]
    have a0 : List.getD ms 0 (0 : Int32) = b2i m0 := by rw [hms]; simp only [List.getD_cons_zero, List.getD_cons_succ]
    have c0 : List.getD WW 0 (0 : Int32) = w1 - (1 : Int32) := by rw [hWW]; simp only [List.getD_cons_zero, List.getD_cons_succ]
    have t0 : List.getD SS 0 (0 : Int32) = v1 := by rw [hSS]; simp only [List.getD_cons_zero, List.getD_cons_succ]
    have q0 : List.getD MM 0 (0 : Int64) = ((1 : Int64) <<< (b0 &&& 0x3f).toInt64) - (1 : Int64) := by rw [hMM]; simp only [List.getD_cons_zero, List.getD_cons_succ]
    have a1 : List.getD ms 1 (0 : Int32) = b2i m1 := by rw [hms]; simp only [List.getD_cons_zero, List.getD_cons_succ]
    have c1 : List.getD WW 1 (0 : Int32) = w2 - (1 : Int32) := by rw [hWW]; simp only [List.getD_cons_zero, List.getD_cons_succ]
    have t1 : List.getD SS 1 (0 : Int32) = v2 := by rw [hSS]; simp only [List.getD_cons_zero, List.getD_cons_succ]
    have q1 : List.getD MM 1 (0 : Int64) = ((1 : Int64) <<< (b1 &&& 0x3f).toInt64) - (1 : Int64) := by rw [hMM]; simp only [List.getD_cons_zero, List.getD_cons_succ]
    have a2 : List.getD ms 2 (0 : Int32) = b2i m2 := by rw [hms]; simp only [List.getD_cons_zero, List.getD_cons_succ]
    have c2 : List.getD WW 2 (0 : Int32) = w3 - (1 : Int32) := by rw [hWW]; simp only [List.getD_cons_zero, List.getD_cons_succ]
    have t2 : List.getD SS 2 (0 : Int32) = v3 := by rw [hSS]; simp only [List.getD_cons_zero, List.getD_cons_succ]
    have q2 : List.getD MM 2 (0 : Int64) = ((1 : Int64) <<< (b2 &&& 0x3f).toInt64) - (1 : Int64) := by rw [hMM]; simp only [List.getD_cons_zero, List.getD_cons_succ]
    have a3 : List.getD ms 3 (0 : Int32) = b2i m3 := by rw [hms]; simp only [List.getD_cons_zero, List.getD_cons_succ]
    have c3 : List.getD WW 3 (0 : Int32) = w4 - (1 : Int32) := by rw [hWW]; simp only [List.getD_cons_zero, List.getD_cons_succ]
    have t3 : List.getD SS 3 (0 : Int32) = v4 := by rw [hSS]; simp only [List.getD_cons_zero, List.getD_cons_succ]
    have q3 : List.getD MM 3 (0 : Int64) = ((1 : Int64) <<< (b3 &&& 0x3f).toInt64) - (1 : Int64) := by rw [hMM]; simp only [List.getD_cons_zero, List.getD_cons_succ]
    have a4 : List.getD ms 4 (0 : Int32) = b2i m4 := by rw [hms]; simp only [List.getD_cons_zero, List.getD_cons_succ]
    have c4 : List.getD WW 4 (0 : Int32) = w5 - (1 : Int32) := by rw [hWW]; simp only [List.getD_cons_zero, List.getD_cons_succ]
    have t4 : List.getD SS 4 (0 : Int32) = v5 := by rw [hSS]; simp only [List.getD_cons_zero, List.getD_cons_succ]
    have q4 : List.getD MM 4 (0 : Int64) = ((1 : Int64) <<< (b4 &&& 0x3f).toInt64) - (1 : Int64) := by rw [hMM]; simp only [List.getD_cons_zero, List.getD_cons_succ]
    refine ⟨_, rfl, ?_⟩
    unfold own_bitsr
    rw [own_bits_step (ms := ms) (W := WW) (S := SS) (M := MM) 0 rfl a0 c0 t0 q0, own_bits_step (ms := ms) (W := WW) (S := SS) (M := MM) 1 rfl a1 c1 t1 q1, own_bits_step (ms := ms) (W := WW) (S := SS) (M := MM) 2 rfl a2 c2 t2 q2, own_bits_step (ms := ms) (W := WW) (S := SS) (M := MM) 3 rfl a3 c3 t3 q3, own_bits_step (ms := ms) (W := WW) (S := SS) (M := MM) 4 rfl a4 c4 t4 q4, own_bits]
    exact R5
  clear R5
  obtain ⟨G5, hG, R5⟩ := bt
  rw [hG]
  have hl : (List.length G5).toInt32 = w5 := by rw [R5.1]; exact (back32 (by rw [Int32.lt_iff_toInt_lt, own_l0]; omega)).1
  have hn : w5.toInt = (w5.toNatClampNeg : Nat) := by simp only [Int32.toNatClampNeg]; omega
  rw [hl, if_pos rfl, own_same R5 0 w5 (by decide) hn, own_same R5 1 w5 (by decide) hn, own_same R5 2 w5 (by decide) hn]
  rfl
theorem own_law (p0 : Int64) (p1 p2 p3 p4 p5 : Int32) : f0 p0 p1 p2 p3 p4 p5 = true := own_core _ _ _ _ _ _ _ _ _ _ _ _ _ _ _ (own_b31 _) (own_b31 _) (own_b31 _) (own_b31 _) (own_b31 _)
set_option maxRecDepth 65536 in
set_option maxHeartbeats 40000000 in
theorem comes_1 {Post : Tables → Env → Array Value → State → Outcome → State → Prop} (hpost : ∀ tb e args s v u, (limb_1_1.after args s (.returned v) u = true ∧ limb_1_2.after args s (.returned v) u = true ∧ True) → FrameEnd s (.returned v) u (Jvm.fieldLocs frame_1_writes args s ++ Jvm.arrayLocs frame_1_arrays args s ++ Jvm.staticLocs frame_1_statics s) 32 192 → Post tb e args s (.returned v) u) :
    ArmFor flags0 classFile x code maxLocals ret World_1 tables_1 room_1 Calls_1 rest_1 Pre_1 Post := by
  intro l hfl _ _ p e ha hc hk s m args below hf hA hF happ hP
  obtain ⟨hcalls, hrest, hpre⟩ := hP
  obtain ⟨-, -, -, hnamed, -, -, -, hat⟩ := (Spec.applies_iff hf).mp happ
  obtain ⟨hg, hn⟩ := and_e (Cond.before_iff.mp (show (Jvm.Cond.and given_1 narrow_1).before args s = true from hpre))
  obtain ⟨g1, g2⟩ := and_e hg
  obtain ⟨g3, g4⟩ := and_e g2
  obtain ⟨g5, g6⟩ := and_e g4
  obtain ⟨g7, g8⟩ := and_e g6
  obtain ⟨g9, g10⟩ := and_e g8
  obtain ⟨g11, g12⟩ := and_e g10
  obtain ⟨w0, w1, w2, w3, w4, w5, rfl⟩ : ∃ w0 w1 w2 w3 w4 w5 : Value, args = #[w0, w1, w2, w3, w4, w5] := by
    have hs : args.size = 6 := by simpa [Cond.value, given_1] using g1
    obtain ⟨L⟩ := args
    match L, hs with
    | [w0, w1, w2, w3, w4, w5], _ => exact ⟨w0, w1, w2, w3, w4, w5, rfl⟩
  have hw := fun d (hd : d ∈ tables_1) => atoms_spec (ws := Jvm.Cond.code x code maxLocals ret :: tables_1) hat d (List.mem_cons_of_mem _ hd)
  have hfit : Fit s := fun {y c} hc i hi => by
    obtain ⟨ha, rfl⟩ := Array.getElem?_eq_some_iff.mp hc
    have q := List.all_eq_true.mp ((Array.all_eq_true_iff_forall_mem.mp hF) _ (Array.getElem_mem ha)) i (List.mem_range.mpr hi)
    simpa [Array.getElem?_eq_getElem hi] using q
  obtain ⟨i0, ei0⟩ := isL_v g3
  obtain rfl : w0 = (.long i0) := Option.some.inj ei0
  obtain ⟨i1, ei1⟩ := is_v g5
  obtain rfl : w1 = (.int i1) := Option.some.inj ei1
  obtain ⟨i2, ei2⟩ := is_v g7
  obtain rfl : w2 = (.int i2) := Option.some.inj ei2
  obtain ⟨i3, ei3⟩ := is_v g9
  obtain rfl : w3 = (.int i3) := Option.some.inj ei3
  obtain ⟨i4, ei4⟩ := is_v g11
  obtain rfl : w4 = (.int i4) := Option.some.inj ei4
  obtain ⟨i5, ei5⟩ := is_v g12
  obtain rfl : w5 = (.int i5) := Option.some.inj ei5
  obtain ⟨n, o, h1, h2, h3, v, L, rfl, hQ, hq⟩ := rm0 l s _ hw tables_1 i0 i1 i2 i3 i4 i5 s.heap s.heap.size (Nat.le_refl _) p e ha hc hk s m _ below hf ((Spec.applies_iff_loose hf).mp happ).1 ⟨rfl, State.Warmed39.refl s, rfl⟩ trivial
  have hv : v = some (.int (b2i (f0 i0 i1 i2 i3 i4 i5))) := hQ.1
  rw [own_law i0 i1 i2 i3 i4 i5] at hv
  subst hv
  have N : Fr s.heap.size L := by first | exact hQ.2.1 | exact hQ.2
  refine ⟨n, _, h1, h2, h3, hpost _ _ _ _ _ _ ⟨Cond.after_iff.mpr rfl, Cond.after_iff.mpr (eq_i res_at (Term.int_eval (1)) rfl), trivial⟩ ⟨hq.1, hq.2.1, (hq.2.2.sift fun y hy => Or.inr (N y hy)).mono (by decide) (by decide)⟩⟩
theorem main_1_1 : Claimed_1_1 := comes_1 fun _ _ _ _ _ _ h hF => ⟨h.1, hF⟩
theorem main_1_2 : Claimed_1_2 := comes_1 fun _ _ _ _ _ _ h hF => ⟨h.2.1, hF⟩
end Jvm.Pilot.@@N@@
namespace Jvm.Pilot.@@N@@
open Jvm Jvm.ClassFile Sem Op Lib Jvm.Free Jvm.Stand Jvm.Pilot.@@N@@.Jvm.D
/-! MADE BY PROGRAM (witnessworld.py) out of the Statement's table words and the real class files: 19 classes; the members and pool entries that the words name. The judged class is class 1, her method 1. -/
namespace start1
open Jvm.ClassFile
def u (s : String) : CpInfo := .utf8 (stringToUtf16 s)
/-- a pool by its gaps: so many unusable entries, then the entry; so many at the end -/
def gap : Nat → List CpInfo → List CpInfo
  | 0, r => r
  | n + 1, r => .unusable :: gap n r
def poolList (es : List (Nat × CpInfo)) (last : Nat) : List CpInfo := es.foldr (fun e r => gap e.1 (e.2 :: r)) (gap last [])
def pool (es : List (Nat × CpInfo)) (last : Nat) : Array CpInfo := ⟨poolList es last⟩
def fileOf (pool : Array CpInfo) (this : Nat) (attrs : Array Attribute := #[]) (ms : Array MethodInfo := #[]) (fl : Nat := 33) (sup : Nat := 0) (ifs : Array Nat := #[]) (fds : Array FieldInfo := #[]) : ClassFile where
  minorVersion := 0
  majorVersion := 65
  constantPool := pool
  accessFlags := fl
  thisClass := this
  superClass := sup
  interfaces := ifs
  fields := fds
  methods := ms
  attributes := attrs
def plain (name : String) (sup : Option ClassId) : Class where
  name := name
  kind := .ordinary
  loader := none
  accessFlags := 33
  super := sup
  interfaces := #[]
  cf := none
  fields := #[]
  methods := #[]
  instanceTypes := #[]
  staticTypes := #[]
  resolved := #[]
  callSites := []
  init := .initialized
  statics := none
  mirror := none

def pool0 : Array CpInfo := pool [(5, u "<init>"), (0, u "()V"), (1, .class_ 10), (1, u "java/lang/Object")] 113

def k0c0 : Code := { maxStack := 0, maxLocals := 1, code := object_method_1_code, exceptionTable := #[], attributes := #[] }
def k0m0 : Method := { name := "<init>", desc := "()V", sig := { parameters := [], returnType := none }, accessFlags := 1, code := some k0c0 }
/-- java/lang/Object -/
def k0 : Class := { plain "java/lang/Object" none with
  accessFlags := 33
  interfaces := #[]
  cf := some (fileOf pool0 8 #[] #[{ accessFlags := 1, nameIndex := 5, descriptorIndex := 6, attributes := #[] }] 33 0 #[] #[])
  fields := #[]
  methods := #[k0m0]
  instanceTypes := #[]
  staticTypes := #[]
  resolved := Array.replicate 124 none
  statics := none }

def pool1 : Array CpInfo := pool [(2, .class_ 4), (1, u "java/lang/Object"), (0, u "<init>"), (0, u "()V"), (0, .long 31), (1, .methodref 10 11), (0, .class_ 12), (0, .nameAndType 13 14), (0, u "com/example/onward/onward/explore/PackingBitsOfPinLaw"), (0, u "sizeFor"), (0, u "(II)I"), (0, .methodref 10 16), (0, .nameAndType 17 18), (0, u "place"), (0, u "(IZ[J[I)V"), (0, .class_ 20), (0, u "com/example/onward/onward/explore/Packing"), (0, .methodref 19 22), (0, .nameAndType 5 23), (0, u "([I)V"), (0, .methodref 19 25), (0, .nameAndType 26 27), (0, u "bitsOf"), (0, u "([Z)[J"), (0, .methodref 10 29), (0, .nameAndType 30 31), (0, u "same"), (0, u "([J[JI)Z"), (2, .integer 2147483647), (0, .long 18446744073709551615), (3, u "law"), (0, u "(JIIIII)Z")] 9

def k1m0 : Method := { name := "<init>", desc := "()V", sig := { parameters := [], returnType := none }, accessFlags := 1, code := none }
def k1c1 : Code := { maxStack := 5, maxLocals := 23, code := code, exceptionTable := #[], attributes := #[] }
def k1m1 : Method := { name := "law", desc := "(JIIIII)Z", sig := { parameters := [.long, .int, .int, .int, .int, .int], returnType := some .boolean }, accessFlags := 9, code := some k1c1 }
def k1c2 : Code := { maxStack := 4, maxLocals := 3, code := method_3_code, exceptionTable := #[], attributes := #[] }
def k1m2 : Method := { name := "same", desc := "([J[JI)Z", sig := { parameters := [(.array .long), (.array .long), .int], returnType := some .boolean }, accessFlags := 10, code := some k1c2 }
def k1c3 : Code := { maxStack := 4, maxLocals := 4, code := method_4_code, exceptionTable := #[], attributes := #[] }
def k1m3 : Method := { name := "sizeFor", desc := "(II)I", sig := { parameters := [.int, .int], returnType := some .int }, accessFlags := 10, code := some k1c3 }
def k1c4 : Code := { maxStack := 8, maxLocals := 4, code := method_5_code, exceptionTable := #[], attributes := #[] }
def k1m4 : Method := { name := "place", desc := "(IZ[J[I)V", sig := { parameters := [.int, .boolean, (.array .long), (.array .int)], returnType := none }, accessFlags := 10, code := some k1c4 }
/-- com/example/onward/onward/explore/PackingBitsOfPinLaw -/
def k1 : Class := { plain "com/example/onward/onward/explore/PackingBitsOfPinLaw" (some 0) with
  accessFlags := 49
  interfaces := #[]
  cf := some (fileOf pool1 10 #[] #[{ accessFlags := 1, nameIndex := 5, descriptorIndex := 6, attributes := #[] }, { accessFlags := 9, nameIndex := 39, descriptorIndex := 40, attributes := #[] }, { accessFlags := 10, nameIndex := 30, descriptorIndex := 31, attributes := #[] }, { accessFlags := 10, nameIndex := 13, descriptorIndex := 14, attributes := #[] }, { accessFlags := 10, nameIndex := 17, descriptorIndex := 18, attributes := #[] }] 49 2 #[] #[])
  fields := #[]
  methods := #[k1m0, k1m1, k1m2, k1m3, k1m4]
  instanceTypes := #[]
  staticTypes := #[]
  resolved := Array.replicate 50 none
  statics := none }

def pool2 : Array CpInfo := pool [(1, .methodref 2 3), (0, .class_ 4), (0, .nameAndType 5 6), (0, u "java/lang/Object"), (0, u "<init>"), (0, u "()V"), (0, .fieldref 8 9), (0, .class_ 10), (0, .nameAndType 11 12), (0, u "com/example/onward/onward/explore/Packing"), (0, u "word"), (0, u "[I"), (0, .fieldref 8 14), (0, .nameAndType 15 12), (0, u "shift"), (0, .fieldref 8 17), (0, .nameAndType 18 19), (0, u "mask"), (0, u "[J"), (0, .methodref 21 22), (0, .class_ 23), (0, .nameAndType 24 25), (0, u "java/lang/Math"), (0, u "max"), (0, u "(II)I"), (0, .methodref 27 28), (0, .class_ 29), (0, .nameAndType 30 31), (0, u "java/lang/Integer"), (0, u "numberOfLeadingZeros"), (0, u "(I)I"), (2, .fieldref 8 35), (0, .nameAndType 36 37), (0, u "words"), (0, u "I"), (12, u "bitsOf"), (0, u "([Z)[J"), (2, u "([I)V")] 16

def k2c0 : Code := { maxStack := 6, maxLocals := 6, code := prog_122_method_1_code, exceptionTable := #[], attributes := #[] }
def k2m0 : Method := { name := "<init>", desc := "([I)V", sig := { parameters := [(.array .int)], returnType := none }, accessFlags := 0, code := some k2c0 }
def k2c1 : Code := { maxStack := 8, maxLocals := 4, code := prog_122_method_5_code, exceptionTable := #[], attributes := #[] }
def k2m1 : Method := { name := "bitsOf", desc := "([Z)[J", sig := { parameters := [(.array .boolean)], returnType := some (.array .long) }, accessFlags := 0, code := some k2c1 }
/-- com/example/onward/onward/explore/Packing -/
def k2 : Class := { plain "com/example/onward/onward/explore/Packing" (some 0) with
  accessFlags := 48
  interfaces := #[]
  cf := some (fileOf pool2 8 #[] #[{ accessFlags := 0, nameIndex := 5, descriptorIndex := 54, attributes := #[] }, { accessFlags := 0, nameIndex := 50, descriptorIndex := 51, attributes := #[] }] 48 2 #[] #[{ accessFlags := 18, nameIndex := 11, descriptorIndex := 12, attributes := #[] }, { accessFlags := 18, nameIndex := 15, descriptorIndex := 12, attributes := #[] }, { accessFlags := 18, nameIndex := 18, descriptorIndex := 19, attributes := #[] }, { accessFlags := 18, nameIndex := 36, descriptorIndex := 37, attributes := #[] }])
  fields := #[{ name := "word", type := (.array .int), accessFlags := 18, slot := 0, constantValue := 0 }, { name := "shift", type := (.array .int), accessFlags := 18, slot := 1, constantValue := 0 }, { name := "mask", type := (.array .long), accessFlags := 18, slot := 2, constantValue := 0 }, { name := "words", type := .int, accessFlags := 18, slot := 3, constantValue := 0 }]
  methods := #[k2m0, k2m1]
  instanceTypes := #[(.array .int), (.array .int), (.array .long), .int]
  staticTypes := #[]
  resolved := Array.replicate 71 none
  statics := none }

def pool3 : Array CpInfo := pool [(1, .class_ 2), (0, u "java/lang/Math"), (1, .class_ 6), (1, u "java/lang/Object"), (0, u "<init>"), (0, u "()V"), (89, .class_ 100), (1, u "java/lang/Math$RandomNumberGeneratorHolder"), (71, u "negativeZeroFloatBits"), (0, u "J"), (2, u "negativeZeroDoubleBits"), (21, u "max"), (46, u "$assertionsDisabled"), (0, u "Z"), (88, u "(II)I"), (2, u "twoToTheDoubleScaleDown"), (0, u "D"), (4, u "twoToTheDoubleScaleUp"), (9, u "E"), (3, u "PI"), (2, u "TAU"), (2, u "DEGREES_TO_RADIANS"), (0, u "RADIANS_TO_DEGREES")] 94

def k3m0 : Method := { name := "<init>", desc := "()V", sig := { parameters := [], returnType := none }, accessFlags := 2, code := none }
def k3c1 : Code := { maxStack := 2, maxLocals := 2, code := jdk_29_method_65_code, exceptionTable := #[], attributes := #[] }
def k3m1 : Method := { name := "max", desc := "(II)I", sig := { parameters := [.int, .int], returnType := some .int }, accessFlags := 9, code := some k3c1 }
/-- java/lang/Math -/
def k3 : Class := { plain "java/lang/Math" (some 0) with
  accessFlags := 49
  interfaces := #[]
  cf := some (fileOf pool3 1 #[.nestMembers #[98]] #[{ accessFlags := 2, nameIndex := 7, descriptorIndex := 8, attributes := #[] }, { accessFlags := 9, nameIndex := 198, descriptorIndex := 335, attributes := #[] }] 49 4 #[] #[{ accessFlags := 25, nameIndex := 354, descriptorIndex := 339, attributes := #[] }, { accessFlags := 25, nameIndex := 358, descriptorIndex := 339, attributes := #[] }, { accessFlags := 25, nameIndex := 361, descriptorIndex := 339, attributes := #[] }, { accessFlags := 26, nameIndex := 364, descriptorIndex := 339, attributes := #[] }, { accessFlags := 26, nameIndex := 365, descriptorIndex := 339, attributes := #[] }, { accessFlags := 26, nameIndex := 172, descriptorIndex := 173, attributes := #[] }, { accessFlags := 26, nameIndex := 176, descriptorIndex := 173, attributes := #[] }, { accessFlags := 8, nameIndex := 344, descriptorIndex := 339, attributes := #[] }, { accessFlags := 8, nameIndex := 338, descriptorIndex := 339, attributes := #[] }, { accessFlags := 4120, nameIndex := 245, descriptorIndex := 246, attributes := #[] }])
  fields := #[{ name := "E", type := .double, accessFlags := 25, slot := 0, constantValue := 0 }, { name := "PI", type := .double, accessFlags := 25, slot := 1, constantValue := 0 }, { name := "TAU", type := .double, accessFlags := 25, slot := 2, constantValue := 0 }, { name := "DEGREES_TO_RADIANS", type := .double, accessFlags := 26, slot := 3, constantValue := 0 }, { name := "RADIANS_TO_DEGREES", type := .double, accessFlags := 26, slot := 4, constantValue := 0 }, { name := "negativeZeroFloatBits", type := .long, accessFlags := 26, slot := 5, constantValue := 0 }, { name := "negativeZeroDoubleBits", type := .long, accessFlags := 26, slot := 6, constantValue := 0 }, { name := "twoToTheDoubleScaleUp", type := .double, accessFlags := 8, slot := 7, constantValue := 0 }, { name := "twoToTheDoubleScaleDown", type := .double, accessFlags := 8, slot := 8, constantValue := 0 }, { name := "$assertionsDisabled", type := .boolean, accessFlags := 4120, slot := 9, constantValue := 0 }]
  methods := #[k3m0, k3m1]
  instanceTypes := #[]
  staticTypes := #[.double, .double, .double, .double, .double, .long, .long, .double, .double, .boolean]
  resolved := Array.replicate 460 none
  statics := none }

def pool4 : Array CpInfo := pool [(1, .class_ 2), (0, u "java/io/Serializable"), (0, .class_ 4), (0, u "java/lang/Object")] 2

/-- java/io/Serializable -/
def k4 : Class := { plain "java/io/Serializable" (some 0) with
  accessFlags := 1537
  interfaces := #[]
  cf := some (fileOf pool4 1 #[] #[] 1537 3 #[] #[])
  fields := #[]
  methods := #[]
  instanceTypes := #[]
  staticTypes := #[]
  resolved := Array.replicate 7 none
  statics := none }

def pool5 : Array CpInfo := pool [(2, .class_ 4), (1, u "java/lang/Object"), (0, u "<init>"), (0, u "()V"), (1, .class_ 10), (1, u "java/lang/Number"), (2, .class_ 14), (0, u "java/io/Serializable"), (0, u "serialVersionUID"), (0, u "J")] 20

def k5m0 : Method := { name := "<init>", desc := "()V", sig := { parameters := [], returnType := none }, accessFlags := 1, code := none }
/-- java/lang/Number -/
def k5 : Class := { plain "java/lang/Number" (some 0) with
  accessFlags := 1057
  interfaces := #[4]
  cf := some (fileOf pool5 8 #[] #[{ accessFlags := 1, nameIndex := 5, descriptorIndex := 6, attributes := #[] }] 1057 2 #[13] #[{ accessFlags := 26, nameIndex := 15, descriptorIndex := 16, attributes := #[] }])
  fields := #[{ name := "serialVersionUID", type := .long, accessFlags := 26, slot := 0, constantValue := 0 }]
  methods := #[k5m0]
  instanceTypes := #[]
  staticTypes := #[.long]
  resolved := Array.replicate 37 none
  statics := none }

def pool6 : Array CpInfo := pool [(1, .class_ 2), (0, u "java/lang/Comparable"), (0, .class_ 4), (0, u "java/lang/Object")] 7

/-- java/lang/Comparable -/
def k6 : Class := { plain "java/lang/Comparable" (some 0) with
  accessFlags := 1537
  interfaces := #[]
  cf := some (fileOf pool6 1 #[] #[] 1537 3 #[] #[])
  fields := #[]
  methods := #[]
  instanceTypes := #[]
  staticTypes := #[]
  resolved := Array.replicate 12 none
  statics := none }

def pool7 : Array CpInfo := pool [(1, .class_ 2), (0, u "java/lang/constant/Constable"), (0, .class_ 4), (0, u "java/lang/Object")] 6

/-- java/lang/constant/Constable -/
def k7 : Class := { plain "java/lang/constant/Constable" (some 0) with
  accessFlags := 1537
  interfaces := #[]
  cf := some (fileOf pool7 1 #[] #[] 1537 3 #[] #[])
  fields := #[]
  methods := #[]
  instanceTypes := #[]
  staticTypes := #[]
  resolved := Array.replicate 11 none
  statics := none }

def pool8 : Array CpInfo := pool [(1, .class_ 2), (0, u "java/lang/constant/ConstantDesc"), (0, .class_ 4), (0, u "java/lang/Object")] 32

/-- java/lang/constant/ConstantDesc -/
def k8 : Class := { plain "java/lang/constant/ConstantDesc" (some 0) with
  accessFlags := 1537
  interfaces := #[]
  cf := some (fileOf pool8 1 #[] #[] 1537 3 #[] #[])
  fields := #[]
  methods := #[]
  instanceTypes := #[]
  staticTypes := #[]
  resolved := Array.replicate 37 none
  statics := none }

def pool9 : Array CpInfo := pool [(1, .class_ 2), (0, u "java/lang/Integer"), (16, u "digits"), (0, u "[C"), (32, u "numberOfLeadingZeros"), (0, u "(I)I"), (30, u "DigitOnes"), (0, u "[B"), (2, u "DigitTens"), (99, .class_ 190), (0, u "java/lang/Integer$IntegerCache"), (3, u "I"), (8, .class_ 204), (0, u "java/lang/Number"), (2, u "value"), (56, .integer 65536), (37, u "TYPE"), (0, u "Ljava/lang/Class;"), (0, .class_ 305), (0, u "java/lang/Comparable"), (0, .class_ 307), (0, u "java/lang/constant/Constable"), (0, .class_ 309), (0, u "java/lang/constant/ConstantDesc"), (0, u "MIN_VALUE"), (1, u "MAX_VALUE"), (3, u "SIZE"), (1, u "BYTES"), (1, u "serialVersionUID"), (0, u "J")] 131

def k9c0 : Code := { maxStack := 3, maxLocals := 2, code := jdk_33_method_47_code, exceptionTable := #[], attributes := #[] }
def k9m0 : Method := { name := "numberOfLeadingZeros", desc := "(I)I", sig := { parameters := [.int], returnType := some .int }, accessFlags := 9, code := some k9c0 }
/-- java/lang/Integer -/
def k9 : Class := { plain "java/lang/Integer" (some 5) with
  accessFlags := 49
  interfaces := #[6, 7, 8]
  cf := some (fileOf pool9 1 #[.nestMembers #[189]] #[{ accessFlags := 9, nameIndex := 53, descriptorIndex := 54, attributes := #[] }] 49 203 #[304, 306, 308] #[{ accessFlags := 25, nameIndex := 310, descriptorIndex := 194, attributes := #[] }, { accessFlags := 25, nameIndex := 312, descriptorIndex := 194, attributes := #[] }, { accessFlags := 25, nameIndex := 302, descriptorIndex := 303, attributes := #[] }, { accessFlags := 24, nameIndex := 19, descriptorIndex := 20, attributes := #[] }, { accessFlags := 24, nameIndex := 89, descriptorIndex := 86, attributes := #[] }, { accessFlags := 24, nameIndex := 85, descriptorIndex := 86, attributes := #[] }, { accessFlags := 18, nameIndex := 207, descriptorIndex := 194, attributes := #[] }, { accessFlags := 25, nameIndex := 316, descriptorIndex := 194, attributes := #[] }, { accessFlags := 25, nameIndex := 318, descriptorIndex := 194, attributes := #[] }, { accessFlags := 26, nameIndex := 320, descriptorIndex := 321, attributes := #[] }])
  fields := #[{ name := "MIN_VALUE", type := .int, accessFlags := 25, slot := 0, constantValue := 0 }, { name := "MAX_VALUE", type := .int, accessFlags := 25, slot := 1, constantValue := 0 }, { name := "TYPE", type := (.object "java/lang/Class"), accessFlags := 25, slot := 2, constantValue := 0 }, { name := "digits", type := (.array .char), accessFlags := 24, slot := 3, constantValue := 0 }, { name := "DigitTens", type := (.array .byte), accessFlags := 24, slot := 4, constantValue := 0 }, { name := "DigitOnes", type := (.array .byte), accessFlags := 24, slot := 5, constantValue := 0 }, { name := "value", type := .int, accessFlags := 18, slot := 0, constantValue := 0 }, { name := "SIZE", type := .int, accessFlags := 25, slot := 6, constantValue := 0 }, { name := "BYTES", type := .int, accessFlags := 25, slot := 7, constantValue := 0 }, { name := "serialVersionUID", type := .long, accessFlags := 26, slot := 8, constantValue := 0 }]
  methods := #[k9m0]
  instanceTypes := #[.int]
  staticTypes := #[.int, .int, (.object "java/lang/Class"), (.array .char), (.array .byte), (.array .byte), .int, .int, .long]
  resolved := Array.replicate 453 none
  statics := none }

def pool10 : Array CpInfo := pool [(1, u "java/lang/Cloneable"), (0, .class_ 1), (0, u "java/lang/Object"), (0, .class_ 3)] 3

/-- java/lang/Cloneable -/
def k10 : Class := { plain "java/lang/Cloneable" (some 0) with
  accessFlags := 1537
  interfaces := #[]
  cf := some (fileOf pool10 2 #[] #[] 1537 4 #[] #[])
  fields := #[]
  methods := #[]
  instanceTypes := #[]
  staticTypes := #[]
  resolved := Array.replicate 8 none
  statics := none }

/-- the primitive boolean -/
def k11 : Class := { plain "boolean" none with kind := .primitive 'Z', accessFlags := 0x411 }
/-- [Z -/
def k12 : Class := { plain "[Z" (some 0) with kind := .array 11 .boolean, interfaces := #[10, 4], accessFlags := 1041 }

/-- the primitive byte -/
def k13 : Class := { plain "byte" none with kind := .primitive 'B', accessFlags := 0x411 }
/-- [B -/
def k14 : Class := { plain "[B" (some 0) with kind := .array 13 .byte, interfaces := #[10, 4], accessFlags := 1041 }

/-- the primitive int -/
def k15 : Class := { plain "int" none with kind := .primitive 'I', accessFlags := 0x411 }
/-- [I -/
def k16 : Class := { plain "[I" (some 0) with kind := .array 15 .int, interfaces := #[10, 4], accessFlags := 1041 }

/-- the primitive long -/
def k17 : Class := { plain "long" none with kind := .primitive 'J', accessFlags := 0x411 }
/-- [J -/
def k18 : Class := { plain "[J" (some 0) with kind := .array 17 .long, interfaces := #[10, 4], accessFlags := 1041 }

def heap : Heap := #[]
def classes : Array Class := #[k0, k1, k2, k3, k4, k5, k6, k7, k8, k9, k10, k11, k12, k13, k14, k15, k16, k17, k18]
def interned : List (Array UInt16 × Addr) := []
def slotsUsed : Nat := 0
def theMethod : MethodId := ⟨1, 1⟩
def args0 : Array Value := #[.long 5, .int 7, .int 1, .int 3, .int 8, .int 9]
def aboutOver (below : List Frame) : State where
  vm := { classes := classes, interned := interned.toArray }
  heap := heap
  slotsUsed := slotsUsed
  threads := #[{ frames := .invoking theMethod args0 :: below }]
def below0 : List Frame := [.native { method := ⟨0, 0⟩, args := #[] }]
def about1 : State := aboutOver below0
def p0 : Program := .bare "" "" ""
def e0 : Env := launch0.env 0 0 0
theorem w_frames : about1.frames = Frame.invoking theMethod args0 :: below0 := rfl
set_option maxRecDepth 65536 in
theorem w_args : argsFit about1.vm theMethod args0 = true := by decide +kernel
set_option maxRecDepth 65536 in
theorem w_heap : heapFits about1 = true := by decide +kernel
set_option maxRecDepth 65536 in
theorem w_runnable : about1.curStatus? = some .runnable := by decide +kernel
set_option maxRecDepth 65536 in
theorem w_alone : about1.alone = true := by decide +kernel
set_option maxRecDepth 65536 in
theorem w_named : about1.methodNamed? x = some theMethod := by decide +kernel
set_option maxRecDepth 65536 in
theorem w_hears : about1.hears theMethod below0 = true := by decide +kernel
set_option maxRecDepth 65536 in
theorem w_ripe : about1.ripe theMethod args0 below0 = true := by decide +kernel
theorem w_running : about1.status = .running := rfl
set_option maxRecDepth 65536 in
theorem w_room : about1.hasRoom e0.platform room_1 = true :=
  launch0.hasRoom_least _ room_1 (by decide +kernel) (by decide +kernel) (by decide +kernel) (by decide +kernel) (by decide +kernel) (by decide +kernel)
theorem allAtoms_all (ts : List Jvm.Cond) (a : Array Jvm.Value) (st : Jvm.State) : (allAtoms ts).before a st = ts.all (fun c => c.before a st) := by
  induction ts with
  | nil => rfl
  | cons c t ih =>
    show (Jvm.Cond.and c (allAtoms t)).before a st = _
    rw [Jvm.Cond.before_and, ih, List.all_cons]
def words1 : List Jvm.Cond := Jvm.Cond.code x code maxLocals ret :: tables_1
/-- a 'code' word, met by the world's own term for the bytes: nothing is compared byte by byte -/
theorem code_word {y : MethodName} {bytes : ByteArray} {mx : Nat} {rt : Option FieldType} {a : Array Value} {s : State} {m : MethodId} {meth : Method} {c : Code} (h1 : s.methodNamed? y = some m) (h2 : s.vm.method? m = some meth) (h3 : meth.code = some c) (h4 : c.code = bytes)
    (h5 : (c.maxLocals == mx && c.exceptionTable.isEmpty && decide (c.maxStack ≤ mostOperands) && decide (meth.sig.returnType = rt) && !meth.locks && decide (parseMethodDescriptor y.desc = some meth.sig)) = true) : (Jvm.Cond.code y bytes mx rt).before a s = true := by
  simp only [Bool.and_eq_true, beq_iff_eq, Bool.not_eq_true', decide_eq_true_eq] at h5
  obtain ⟨⟨⟨⟨⟨g1, g2⟩, g3⟩, g4⟩, g5⟩, g6⟩ := h5
  simp [Cond.before, Cond.holds, Cond.value, h1, h2, h3, h4, g1, g2, g3, g4, g5, g6]
def isCode : Jvm.Cond → Bool
  | .code _ _ _ _ => true
  | _ => false
theorem all_split {L : List Jvm.Cond} {P : Jvm.Cond → Bool} (h1 : L.all (fun c => isCode c || P c) = true) (h2 : ∀ c ∈ L.filter isCode, P c = true) : L.all P = true := by
  refine List.all_eq_true.mpr fun c hc => ?_
  have h := List.all_eq_true.mp h1 c hc
  rcases Bool.eq_false_or_eq_true (isCode c) with hi | hi
  · exact h2 c (List.mem_filter.mpr ⟨hc, hi⟩)
  · simpa [hi] using h
set_option maxRecDepth 65536 in
theorem w_c0 : (Jvm.Cond.code x code maxLocals ret).before args0 about1 = true := code_word (m := ⟨1, 1⟩) (meth := k1m1) (c := k1c1) (by decide +kernel) rfl rfl rfl (by decide +kernel)
set_option maxRecDepth 65536 in
theorem w_c1 : (Jvm.Cond.code ({ cls := "com/example/onward/onward/explore/PackingBitsOfPinLaw", name := "sizeFor", desc := "(II)I" } : Jvm.MethodName) method_4_code (4 : Nat) (Option.some Jvm.ClassFile.FieldType.int)).before args0 about1 = true := code_word (m := ⟨1, 3⟩) (meth := k1m3) (c := k1c3) (by decide +kernel) rfl rfl rfl (by decide +kernel)
set_option maxRecDepth 65536 in
theorem w_c2 : (Jvm.Cond.code ({ cls := "com/example/onward/onward/explore/PackingBitsOfPinLaw", name := "place", desc := "(IZ[J[I)V" } : Jvm.MethodName) method_5_code (4 : Nat) (Option.none : Option Jvm.ClassFile.FieldType)).before args0 about1 = true := code_word (m := ⟨1, 4⟩) (meth := k1m4) (c := k1c4) (by decide +kernel) rfl rfl rfl (by decide +kernel)
set_option maxRecDepth 65536 in
theorem w_c3 : (Jvm.Cond.code ({ cls := "com/example/onward/onward/explore/Packing", name := "<init>", desc := "([I)V" } : Jvm.MethodName) prog_122_method_1_code (6 : Nat) (Option.none : Option Jvm.ClassFile.FieldType)).before args0 about1 = true := code_word (m := ⟨2, 0⟩) (meth := k2m0) (c := k2c0) (by decide +kernel) rfl rfl rfl (by decide +kernel)
set_option maxRecDepth 65536 in
theorem w_c4 : (Jvm.Cond.code ({ cls := "java/lang/Object", name := "<init>", desc := "()V" } : Jvm.MethodName) object_method_1_code (1 : Nat) (Option.none : Option Jvm.ClassFile.FieldType)).before args0 about1 = true := code_word (m := ⟨0, 0⟩) (meth := k0m0) (c := k0c0) (by decide +kernel) rfl rfl rfl (by decide +kernel)
set_option maxRecDepth 65536 in
theorem w_c5 : (Jvm.Cond.code ({ cls := "java/lang/Math", name := "max", desc := "(II)I" } : Jvm.MethodName) jdk_29_method_65_code (2 : Nat) (Option.some Jvm.ClassFile.FieldType.int)).before args0 about1 = true := code_word (m := ⟨3, 1⟩) (meth := k3m1) (c := k3c1) (by decide +kernel) rfl rfl rfl (by decide +kernel)
set_option maxRecDepth 65536 in
theorem w_c6 : (Jvm.Cond.code ({ cls := "java/lang/Integer", name := "numberOfLeadingZeros", desc := "(I)I" } : Jvm.MethodName) jdk_33_method_47_code (2 : Nat) (Option.some Jvm.ClassFile.FieldType.int)).before args0 about1 = true := code_word (m := ⟨9, 0⟩) (meth := k9m0) (c := k9c0) (by decide +kernel) rfl rfl rfl (by decide +kernel)
set_option maxRecDepth 65536 in
theorem w_c7 : (Jvm.Cond.code ({ cls := "com/example/onward/onward/explore/Packing", name := "bitsOf", desc := "([Z)[J" } : Jvm.MethodName) prog_122_method_5_code (4 : Nat) (Option.some (Jvm.ClassFile.FieldType.array Jvm.ClassFile.FieldType.long))).before args0 about1 = true := code_word (m := ⟨2, 1⟩) (meth := k2m1) (c := k2c1) (by decide +kernel) rfl rfl rfl (by decide +kernel)
set_option maxRecDepth 65536 in
theorem w_c8 : (Jvm.Cond.code ({ cls := "com/example/onward/onward/explore/PackingBitsOfPinLaw", name := "same", desc := "([J[JI)Z" } : Jvm.MethodName) method_3_code (3 : Nat) (Option.some Jvm.ClassFile.FieldType.boolean)).before args0 about1 = true := code_word (m := ⟨1, 2⟩) (meth := k1m2) (c := k1c2) (by decide +kernel) rfl rfl rfl (by decide +kernel)
def codes1 : List Jvm.Cond := [Jvm.Cond.code x code maxLocals ret, Jvm.Cond.code ({ cls := "com/example/onward/onward/explore/PackingBitsOfPinLaw", name := "sizeFor", desc := "(II)I" } : Jvm.MethodName) method_4_code (4 : Nat) (Option.some Jvm.ClassFile.FieldType.int), Jvm.Cond.code ({ cls := "com/example/onward/onward/explore/PackingBitsOfPinLaw", name := "place", desc := "(IZ[J[I)V" } : Jvm.MethodName) method_5_code (4 : Nat) (Option.none : Option Jvm.ClassFile.FieldType), Jvm.Cond.code ({ cls := "com/example/onward/onward/explore/Packing", name := "<init>", desc := "([I)V" } : Jvm.MethodName) prog_122_method_1_code (6 : Nat) (Option.none : Option Jvm.ClassFile.FieldType), Jvm.Cond.code ({ cls := "java/lang/Object", name := "<init>", desc := "()V" } : Jvm.MethodName) object_method_1_code (1 : Nat) (Option.none : Option Jvm.ClassFile.FieldType), Jvm.Cond.code ({ cls := "java/lang/Math", name := "max", desc := "(II)I" } : Jvm.MethodName) jdk_29_method_65_code (2 : Nat) (Option.some Jvm.ClassFile.FieldType.int), Jvm.Cond.code ({ cls := "java/lang/Integer", name := "numberOfLeadingZeros", desc := "(I)I" } : Jvm.MethodName) jdk_33_method_47_code (2 : Nat) (Option.some Jvm.ClassFile.FieldType.int), Jvm.Cond.code ({ cls := "com/example/onward/onward/explore/Packing", name := "bitsOf", desc := "([Z)[J" } : Jvm.MethodName) prog_122_method_5_code (4 : Nat) (Option.some (Jvm.ClassFile.FieldType.array Jvm.ClassFile.FieldType.long)), Jvm.Cond.code ({ cls := "com/example/onward/onward/explore/PackingBitsOfPinLaw", name := "same", desc := "([J[JI)Z" } : Jvm.MethodName) method_3_code (3 : Nat) (Option.some Jvm.ClassFile.FieldType.boolean)]
set_option maxRecDepth 65536 in
theorem codes_eq : words1.filter isCode = codes1 := rfl
theorem w_codes : ∀ c ∈ words1.filter isCode, c.before args0 about1 = true := by
  rw [codes_eq]
  intro c hc
  simp only [codes1, List.mem_cons, List.not_mem_nil, or_false] at hc
  rcases hc with rfl | rfl | rfl | rfl | rfl | rfl | rfl | rfl | rfl
  · exact w_c0
  · exact w_c1
  · exact w_c2
  · exact w_c3
  · exact w_c4
  · exact w_c5
  · exact w_c6
  · exact w_c7
  · exact w_c8
set_option maxRecDepth 65536 in
theorem w_t1 : (words1.take 24).all (fun c => isCode c || c.before args0 about1) = true := by decide +kernel
set_option maxRecDepth 65536 in
theorem w_t2 : (words1.drop 24).all (fun c => isCode c || c.before args0 about1) = true := by decide +kernel
theorem w_tables : (allAtoms (Jvm.Cond.code x code maxLocals ret :: tables_1)).before args0 about1 = true := by
  rw [allAtoms_all]
  show words1.all (fun c => c.before args0 about1) = true
  refine all_split ?_ w_codes
  rw [← List.take_append_drop 24 words1, List.all_append, w_t1, w_t2]
  rfl
set_option maxRecDepth 65536 in
theorem w_case : (Jvm.Cond.and given_1 narrow_1).before args0 about1 = true := by decide +kernel
theorem w_applies : (headSpec (Jvm.Cond.code x code maxLocals ret :: tables_1) room_1).applies x e0.platform about1 = true :=
  (Spec.applies_iff w_frames).mpr ⟨w_running, w_runnable, w_alone, w_named, w_hears, w_ripe, w_room, w_tables⟩
theorem atStart : AtStart classFile x code maxLocals ret World_1 tables_1 room_1 Calls_1 rest_1 Pre_1 launch0 p0 e0 about1 theMethod args0 below0 :=
  ⟨lists_1, trivial, launch0.admits_env _ _ _, launch0.least_env, fairChoices_fair.cas, fairChoices_fair.clock, w_frames, w_args, w_heap, w_applies, trivial, trivial, w_case⟩
end start1
theorem witness_1 : WitnessClaimed_1 := ⟨start1.p0, start1.e0, start1.about1, start1.theMethod, start1.args0, start1.below0, start1.atStart⟩
end Jvm.Pilot.@@N@@
