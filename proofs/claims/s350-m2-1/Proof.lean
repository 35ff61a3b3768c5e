import JvmDerived
import JvmDerived.Pilot.@@N@@Statement
import JvmDerived.Pilot.@@N@@Code
set_option linter.unusedVariables false
set_option linter.unusedSimpArgs false
namespace Jvm.RoadKit
open Sem ClassFile Op Lib Jvm.Stand Jvm.Free Jvm.LawKit
section OwnKit
variable {p : Program} {l : Launch} {e : Env} {R : Room} {s : State} {m : MethodId} {args : Array Value} {below : List Frame} {meth : Method} {c : Code} {T : State} {locs : List Loc} {cells slots : Nat}
/-- a boolean as the machine's int -/
def b2i (b : Bool) : Int32 := bif b then 1 else 0
theorem b2i_t {b : Bool} (h : b = true) : ¬ b2i b = 0 := by subst h; decide
theorem b2i_f {b : Bool} (h : ¬ b = true) : b2i b = 0 := by cases b <;> first | rfl | exact absurd rfl h
theorem b2i_inj {a b : Bool} (h : b2i a = b2i b) : a = b := by cases a <;> cases b <;> first | rfl | exact absurd h (by decide)
theorem nar_b2i (b : Bool) : nar .boolean (b2i b) = b2i b := by cases b <;> decide
theorem let_of {α β : Type} {x : β} {z v : α} {b : α → β} (hz : z = v) (r : x = (let y := v; b y)) : x = b z := by subst hz; exact r
/-- from the state U the walk comes to an end that P holds of -/
def Go (tb : Tables) (e : Env) (below : List Frame) (P : Outcome → State → Prop) (U : State) : Prop := ∃ s₂ o, Steps tb e below U s₂ ∧ s₂.status = .running ∧ Ended s₂ below o ∧ P o s₂
theorem Go.back {tb : Tables} {P : Outcome → State → Prop} {U V : State} (h : ∀ t, Steps tb e below V t → Steps tb e below U t) (k : Go tb e below P V) : Go tb e below P U := by
  obtain ⟨s2, o, h1, h2⟩ := k
  exact ⟨s2, o, h _ h1, h2⟩
theorem Go.trans {tb : Tables} {P : Outcome → State → Prop} {U V : State} (h : Steps tb e below U V) (k : Go tb e below P V) : Go tb e below P U := by
  obtain ⟨s2, o, h1, h2⟩ := k
  exact ⟨s2, o, Steps.trans h h1, h2⟩
abbrev Fin (s : State) (Q : Option Value → Heap → List Loc → Prop) (K S : Nat) : Outcome → State → Prop := fun o U' => ∃ v L, o = .returned v ∧ Q v U'.heap L ∧ FrameEnd s o U' L K S
theorem retI0 (X : Stand p l e R s m args below meth c T locs cells slots) (hx : p.tables.exec = Jvm.exec) {pc : Nat} {Ls : Array Slot} {z : Int32} {rest : List Value} (hret : meth.sig.returnType = some .int) (hd : decode c.code pc = .ok (.ireturn, 1)) {fs : List Frame}
    (hl : ∀ (f : JFrame) (acts : List Action), f.method = m → f.locked = none → f.entered = [] → (doReturn e (T.setTop f) acts (some (.int z))).1 = T.setFrames fs) : Steps p.tables e below (T.setTop (mkF m pc Ls (.int z :: rest))) (T.setFrames fs) := by
  have hm' : T.vm.method? m = some meth := X.method'
  have hn : narrow .int (.int z) = .int z := rfl
  show Steps p.tables e below (T.setTop { method := m, pc := pc, locals := Ls, stack := _ :: rest, locked := none }) _
  jvm_step X.here [X.here.top, hx, hd, hm', hret, hn]
  first | (intro acts; rw [hl _ acts rfl rfl rfl]) | rw [hl _ _ rfl rfl rfl]
  exact Steps.refl _
theorem Go.retI (X : Stand p l e R s m args below meth c T locs cells slots) (hx : p.tables.exec = Jvm.exec) {pc : Nat} {Ls : Array Slot} {z : Int32} {rest : List Value} (hret : meth.sig.returnType = some .int) (hd : decode c.code pc = .ok (.ireturn, 1)) (hlk : meth.locks = false) {Q : Option Value → Heap → List Loc → Prop} {K S : Nat} (hQ : Q (some (.int z)) T.heap locs) (hc : cells ≤ K) (hs : slots ≤ S) :
    Go p.tables e below (Fin s Q K S) (T.setTop (mkF m pc Ls (.int z :: rest))) := by
  obtain ⟨fs, hr, hrun, hended, hW, hsame⟩ := X.leave (v := some (.int z)) (fun h => by rw [hret] at h; cases h) hlk
  exact ⟨_, _, retI0 X hx hret hd hr, hrun, hended, _, _, rfl, hQ, ⟨_, rfl⟩, hW, hsame.mono hc hs⟩
theorem Go.retN (X : Stand p l e R s m args below meth c T locs cells slots) (hx : p.tables.exec = Jvm.exec) {pc : Nat} {Ls : Array Slot} {z : Int32} {rest : List Value} {t : FieldType} (hret : meth.sig.returnType = some t) (ht : t = .boolean ∨ t = .byte ∨ t = .char ∨ t = .short) (hd : decode c.code pc = .ok (.ireturn, 1)) (hlk : meth.locks = false) {Q : Option Value → Heap → List Loc → Prop} {K S : Nat} (hQ : Q (some (.int (nar t z))) T.heap locs) (hc : cells ≤ K) (hs : slots ≤ S) :
    Go p.tables e below (Fin s Q K S) (T.setTop (mkF m pc Ls (.int z :: rest))) := by
  obtain ⟨fs, hr, hrun, hended, hW, hsame⟩ := X.leave (v := some (.int (nar t z))) (fun h => by rw [hret] at h; cases h) hlk
  exact ⟨_, _, Jvm.RoadKit.retN X hx hret ht hd hr, hrun, hended, _, _, rfl, hQ, ⟨_, rfl⟩, hW, hsame.mono hc hs⟩
theorem Go.retB (X : Stand p l e R s m args below meth c T locs cells slots) (hx : p.tables.exec = Jvm.exec) {pc : Nat} {Ls : Array Slot} {b : Bool} {rest : List Value} (hret : meth.sig.returnType = some .boolean) (hd : decode c.code pc = .ok (.ireturn, 1)) (hlk : meth.locks = false) {Q : Option Value → Heap → List Loc → Prop} {K S : Nat} (hQ : Q (some (.int (b2i b))) T.heap locs) (hc : cells ≤ K) (hs : slots ≤ S) :
    Go p.tables e below (Fin s Q K S) (T.setTop (mkF m pc Ls (.int (b2i b) :: rest))) := Go.retN X hx hret (Or.inl rfl) hd hlk (by rw [nar_b2i]; exact hQ) hc hs
theorem Go.retJ (X : Stand p l e R s m args below meth c T locs cells slots) (hx : p.tables.exec = Jvm.exec) {pc : Nat} {Ls : Array Slot} {z : Int64} (hret : meth.sig.returnType = some .long) (hd : decode c.code pc = .ok (.lreturn, 1)) (hlk : meth.locks = false) {Q : Option Value → Heap → List Loc → Prop} {K S : Nat} (hQ : Q (some (.long z)) T.heap locs) (hc : cells ≤ K) (hs : slots ≤ S) :
    Go p.tables e below (Fin s Q K S) (T.setTop (mkF m pc Ls [.long z])) := by
  obtain ⟨fs, hr, hrun, hended, hW, hsame⟩ := X.leave (v := some (.long z)) (fun h => by rw [hret] at h; cases h) hlk
  exact ⟨_, _, X.lreturnOut hx hret hd hr, hrun, hended, _, _, rfl, hQ, ⟨_, rfl⟩, hW, hsame.mono hc hs⟩
theorem Go.retR (X : Stand p l e R s m args below meth c T locs cells slots) (hx : p.tables.exec = Jvm.exec) {pc : Nat} {Ls : Array Slot} {a : Addr} {t : FieldType} (hret : meth.sig.returnType = some t) (ht : t.isReference = true) (hd : decode c.code pc = .ok (.areturn, 1)) (hlk : meth.locks = false) {Q : Option Value → Heap → List Loc → Prop} {K S : Nat} (hQ : Q (some (.ref a)) T.heap locs) (hc : cells ≤ K) (hs : slots ≤ S) :
    Go p.tables e below (Fin s Q K S) (T.setTop (mkF m pc Ls [.ref a])) := by
  obtain ⟨fs, hr, hrun, hended, hW, hsame⟩ := X.leave (v := some (.ref a)) (fun h => by rw [hret] at h; cases h) hlk
  exact ⟨_, _, X.areturnOut hx rfl hret ht hd hr, hrun, hended, _, _, rfl, hQ, ⟨_, rfl⟩, hW, hsame.mono hc hs⟩
theorem Go.retV (X : Stand p l e R s m args below meth c T locs cells slots) (hx : p.tables.exec = Jvm.exec) {pc : Nat} {Ls : Array Slot} (hret : meth.sig.returnType = none) (hd : decode c.code pc = .ok (.return_, 1)) (hlk : meth.locks = false) {Q : Option Value → Heap → List Loc → Prop} {K S : Nat} (hQ : Q none T.heap locs) (hc : cells ≤ K) (hs : slots ≤ S) :
    Go p.tables e below (Fin s Q K S) (T.setTop (mkF m pc Ls [])) := by
  obtain ⟨fs, hr, hrun, hended, hW, hsame⟩ := X.leave (v := none) (fun _ => rfl) hlk
  exact ⟨_, _, X.returnOut hx hret hd hr, hrun, hended, _, _, rfl, hQ, ⟨_, rfl⟩, hW, hsame.mono hc hs⟩
theorem lremM {g : JFrame} {target : State} (X : Stand p l e R s m args below meth c T locs cells slots) (hx : p.tables.exec = Jvm.exec) (hg : g.method = m) {x y : Int64} {rest : List Value} (hd : decode c.code g.pc = .ok (.lrem, 1)) (hs : g.stack = .long y :: .long x :: rest) (hy : y ≠ 0)
    (hr : Steps p.tables e below (T.setTop { g with pc := g.pc + 1, stack := .long (x % y) :: rest }) target) : Steps p.tables e below (T.setTop g) target :=
  XS.lrem X.here hx hg hd hs hy (by rw [lrem_mod x y]; exact hr)
/-- the slots written so far get a name -/
theorem pk (X : Stand p l e R s m args below meth c T locs cells slots) {k : Nat} (N : Fr k locs) : ∃ L, Stand p l e R s m args below meth c T L cells slots ∧ Fr k L := ⟨_, X, N⟩
theorem storeS_i {ls l' : Array Slot} {k : Nat} {o : Slot} {x : Int32} (hold : ls[k]? = some o) (h : One o) (q : ls.setIfInBounds k (.val (.int x)) = l') : storeLocals ls k (.int x) = some l' := by
  rw [XS.store1 hold h rfl, q]
theorem storeS_a {ls l' : Array Slot} {k : Nat} {o : Slot} {a : Addr} (hold : ls[k]? = some o) (h : One o) (q : ls.setIfInBounds k (.val (.ref a)) = l') : storeLocals ls k (.ref a) = some l' := by
  rw [XS.store1 hold h rfl, q]
end OwnKit
section OwnArr
variable {p : Program} {l : Launch} {e : Env} {R : Room} {s : State} {m : MethodId} {args : Array Value} {below : List Frame} {meth : Method} {c : Code} {T : State} {locs : List Loc} {cells slots : Nat} {Z : State} {h h' : Heap} {a b : Addr} {ty : FieldType} {vs : List Value} {v : Value} {sl : Nat} {ws : List Addr}
/-- the array at a, of the kind ty, holds just this list -/
def ArL (Z : State) (h : Heap) (a : Addr) (ty : FieldType) (vs : List Value) : Prop := ∃ c : Cell, Arr Z h a c ty ∧ c.slots.toList = vs
theorem ArL.lt (F : ArL Z h a ty vs) : a < h.size := by obtain ⟨c, A, -⟩ := F; exact A.lt
theorem ArL.ext (F : ArL Z h a ty vs) (E : Ext h h') : ArL Z h' a ty vs := by obtain ⟨c, A, r⟩ := F; exact ⟨c, A.ext E, r⟩
theorem ArL.other (F : ArL Z h b ty vs) (W : Wr h h' a sl v) (q : b ≠ a) : ArL Z h' b ty vs := by obtain ⟨c, A, r⟩ := F; exact ⟨c, A.other W q, r⟩
theorem ArL.keep (F : ArL Z h a ty vs) (K : Keep h h' ws) (q : a ∉ ws) : ArL Z h' a ty vs := by obtain ⟨c, A, r⟩ := F; exact ⟨c, ⟨K.2.1 a c A.1 q, A.2⟩, r⟩
theorem ArL.new {k : ClassId} {z : Int32} (A : Arr Z h a (newA k ty z) ty) {n : Nat} (q : z.toNatClampNeg = n) : ArL Z h a ty (List.replicate n (defaultValue ty)) := ⟨_, A, by subst q; simp [newA]⟩
theorem ArL.set (F : ArL Z h a ty vs) (W : Wr h h' a sl v) : ArL Z h' a ty (vs.set sl v) := by
  obtain ⟨c, A, r⟩ := F
  exact ⟨_, A.same W, by subst r; simp [Cell.setSlot]⟩
/-- a place of it: what a load and a store ask -/
theorem ArL.at (F : ArL Z h a ty vs) {j : Int32} (h0 : ¬ j < 0) (hj : j.toNatClampNeg < vs.length) : ∃ c : Cell, Arr Z h a c ty ∧ ¬ (j < 0 ∨ c.slots.size ≤ j.toNatClampNeg) ∧ c.slots[j.toNatClampNeg]? = some (vs[j.toNatClampNeg]'hj) := by
  obtain ⟨c, A, rfl⟩ := F
  have q : j.toNatClampNeg < c.slots.size := by simpa using hj
  refine ⟨c, A, fun z => z.elim h0 (fun y => absurd q (Nat.not_lt.mpr y)), ?_⟩
  rw [Array.getElem?_eq_getElem q]
  simp
theorem ArL.get (F : ArL Z h a ty vs) {j : Int32} (h0 : ¬ j < 0) (hv : vs[j.toNatClampNeg]? = some v) : ∃ c : Cell, Arr Z h a c ty ∧ ¬ (j < 0 ∨ c.slots.size ≤ j.toNatClampNeg) ∧ c.slots[j.toNatClampNeg]? = some v := by
  obtain ⟨hj, rfl⟩ := List.getElem?_eq_some_iff.mp hv
  exact F.at h0 hj
theorem ArL.setI {xs : List Int32} {x : Int32} {i : Nat} (F : ArL Z h a ty (List.map Value.int xs)) (W : Wr h h' a i (.int x)) : ArL Z h' a ty (List.map Value.int (xs.set i x)) := by
  rw [List.map_set]; exact F.set W
theorem ArL.setJ {xs : List Int64} {x : Int64} {i : Nat} (F : ArL Z h a ty (List.map Value.long xs)) (W : Wr h h' a i (.long x)) : ArL Z h' a ty (List.map Value.long (xs.set i x)) := by
  rw [List.map_set]; exact F.set W
theorem ArL.newI {k : ClassId} {z : Int32} (A : Arr Z h a (newA k ty z) ty) {n : Nat} (q : z.toNatClampNeg = n) (hd : defaultValue ty = .int 0 := by rfl) : ArL Z h a ty (List.map Value.int (List.replicate n (0 : Int32))) := by
  rw [List.map_replicate, ← hd]; exact ArL.new A q
theorem ArL.newJ {k : ClassId} {z : Int32} (A : Arr Z h a (newA k ty z) ty) {n : Nat} (q : z.toNatClampNeg = n) (hd : defaultValue ty = .long 0 := by rfl) : ArL Z h a ty (List.map Value.long (List.replicate n (0 : Int64))) := by
  rw [List.map_replicate, ← hd]; exact ArL.new A q
theorem getI (xs : List Int32) {i : Nat} (q : i < xs.length) : (List.map Value.int xs)[i]? = some (.int (xs.getD i 0)) := by
  rw [List.getElem?_map, List.getD_eq_getElem?_getD, List.getElem?_eq_getElem q]; rfl
theorem getJ (xs : List Int64) {i : Nat} (q : i < xs.length) : (List.map Value.long xs)[i]? = some (.long (xs.getD i 0)) := by
  rw [List.getElem?_map, List.getD_eq_getElem?_getD, List.getElem?_eq_getElem q]; rfl
theorem ArL.len (F : ArL Z h a ty vs) : ∃ c : Cell, Arr Z h a c ty ∧ c.slots.size = vs.length := by
  obtain ⟨c, A, rfl⟩ := F
  exact ⟨c, A, by simp⟩
end OwnArr
end Jvm.RoadKit
namespace Jvm.Pilot.@@N@@
open Jvm Jvm.ClassFile Sem Op Lib Jvm.Free Jvm.Stand Jvm.LawKit Jvm.RoadKit Bundle Jvm.Pilot.@@N@@.Jvm.D
theorem pd_0 : parseMethodDescriptor "(II)I" = some ⟨[.int, .int], some .int⟩ := by decide +kernel
theorem pd_1 : parseMethodDescriptor "(I)I" = some ⟨[.int], some .int⟩ := by decide +kernel
theorem pd_2 : parseMethodDescriptor "(III)V" = some ⟨[.int, .int, .int], none⟩ := by decide +kernel
theorem pd_3 : parseMethodDescriptor "([JIIJ)V" = some ⟨[(.array .long), .int, .int, .long], none⟩ := by decide +kernel
theorem pd_4 : parseMethodDescriptor "(JI)I" = some ⟨[.long, .int], some .int⟩ := by decide +kernel
theorem pd_5 : parseMethodDescriptor "([I)V" = some ⟨[(.array .int)], none⟩ := by decide +kernel
theorem pd_6 : parseMethodDescriptor "()I" = some ⟨[], some .int⟩ := by decide +kernel
theorem pd_7 : parseMethodDescriptor "([I[JI)V" = some ⟨[(.array .int), (.array .long), .int], none⟩ := by decide +kernel
theorem pd_8 : parseMethodDescriptor "([JII[I)V" = some ⟨[(.array .long), .int, .int, (.array .int)], none⟩ := by decide +kernel
theorem d5_0 : decode jdk_29_method_65_code 0 = .ok (.iload_n 0, 1) := by decide +kernel
theorem d5_1 : decode jdk_29_method_65_code 1 = .ok (.iload_n 1, 1) := by decide +kernel
theorem d5_2 : decode jdk_29_method_65_code 2 = .ok (.if_icmp .lt 7, 3) := by decide +kernel
theorem d5_5 : decode jdk_29_method_65_code 5 = .ok (.iload_n 0, 1) := by decide +kernel
theorem d5_6 : decode jdk_29_method_65_code 6 = .ok (.goto 4, 3) := by decide +kernel
theorem d5_9 : decode jdk_29_method_65_code 9 = .ok (.iload_n 1, 1) := by decide +kernel
theorem d5_10 : decode jdk_29_method_65_code 10 = .ok (.ireturn, 1) := by decide +kernel
def f5 (p0 : Int32) (p1 : Int32) : Int32 := (let z3 : Int32 := (if p0 < p1 then p1 else p0); z3)
def Q5 (p0 : Int32) (p1 : Int32) (h0 : Heap) (n0 : Nat) (v : Option Value) (h : Heap) (L : List Loc) : Prop := v = some (.int (f5 p0 p1)) ∧ Fr n0 L ∧ h = h0
abbrev rmm5 : Room := { frames := 0, cells := 0, slots := 0, locals := 0 }
abbrev P5 (p0 : Int32) (p1 : Int32) (h0 : Heap) (n0 : Nat) (s : State) : Outcome → State → Prop := fun o U' => ∃ v L, o = .returned v ∧ Q5 p0 p1 h0 n0 v U'.heap L ∧ FrameEnd s o U' L rmm5.cells rmm5.slots
theorem ef_5 (m : MethodId) (p0 : Int32) (p1 : Int32) : entryFrame m #[(.int p0), (.int p1)] 2 = mkF m 0 #[.val (.int p0), .val (.int p1)] [] := by first | (simp [entryFrame, mkF, argsToLocals, Value.category]; done) | rfl
set_option maxRecDepth 65536 in
set_option maxHeartbeats 40000000 in
theorem rm5 (l : Launch) (Z : State) (a0 : Array Value) (hw : ∀ d ∈ tables_1, d.before a0 Z = true) (ws : List Jvm.Cond) (p0 : Int32) (p1 : Int32) (h0 : Heap) (n0 : Nat) :
    MetFree l (⟨"java/lang/Math", "max", "(II)I"⟩ : MethodName) (head1 (Jvm.Cond.code (⟨"java/lang/Math", "max", "(II)I"⟩ : MethodName) jdk_29_method_65_code 2 (some .int) :: ws) rmm5) (fun a U => a = #[(.int p0), (.int p1)] ∧ Z.Warmed39 U.vm ∧ U.heap = h0) (fun _ _ _ _ _ => True) (fun _ U o U' => ∃ v L, o = .returned v ∧ Q5 p0 p1 h0 n0 v U'.heap L ∧ FrameEnd U o U' L rmm5.cells rmm5.slots) := by
  refine MetFree.of_bodySF (Jvm.Free.JP.mathPlain rfl (by decide +kernel)) hisR ?_
  intro p e s m args below meth c s₁ Bd hml0 hP hK
  obtain ⟨rfl, hZ, hh⟩ := hP
  have hx := Bd.exec
  have hby := Bd.bytes
  have hml : c.maxLocals = 2 := hml0
  have hown : s.vm.findClass "java/lang/Math" = some m.cls := findClass_of_methodNamed Bd.named
  have hnm := (name_of_methodNamed Bd.named Bd.method).1
  have X0 : Stand p l e rmm5 s m #[(.int p0), (.int p1)] below meth c s₁ [] 0 0 := Stand.of_body Bd
  have e0 : s₁.heap = h0 := by rw [← hh, Bd.state]; rfl
  have N0 := Fr.nil n0
  show Go p.tables e below (P5 p0 p1 h0 n0 s) (s₁.setTop (entryFrame m #[(.int p0), (.int p1)] 2))
  refine Go.back (fun t k => castTop (ef_5 m p0 p1) k) ?_
  show Go p.tables e below (P5 p0 p1 h0 n0 s) (s₁.setTop (mkF m 0 #[.val (.int p0), .val (.int p1)] []))
  have hf : f5 p0 p1 = (let z3 : Int32 := (if p0 < p1 then p1 else p0); z3) := rfl
  refine Go.back (fun t k => XS.iloadN X0.here hx rfl (hb hby d5_0) rfl  k) ?_
  show Go p.tables e below (P5 p0 p1 h0 n0 s) (s₁.setTop (mkF m 1 #[.val (.int p0), .val (.int p1)] [(.int p0)]))
  refine Go.back (fun t k => XS.iloadN X0.here hx rfl (hb hby d5_1) rfl  k) ?_
  show Go p.tables e below (P5 p0 p1 h0 n0 s) (s₁.setTop (mkF m 2 #[.val (.int p0), .val (.int p1)] [(.int p1), (.int p0)]))
  have J2 : ∀ (z3 : Int32) (hz3 : z3 = (if p0 < p1 then p1 else p0)), Go p.tables e below (P5 p0 p1 h0 n0 s) (s₁.setTop (mkF m 10 #[.val (.int p0), .val (.int p1)] [(.int z3)])) := by
    intro z3 hz3
    have r4 : f5 p0 p1 = z3 := by subst hz3; exact hf
    show Go p.tables e below (P5 p0 p1 h0 n0 s) (s₁.setTop (mkF m 10 #[.val (.int p0), .val (.int p1)] [(.int z3)]))
    exact Go.retI X0 hx Bd.returns (hb hby d5_10) Bd.notSynchronized ⟨by rw [r4], N0, e0⟩ (by decide) (by decide)
  have r5 : (if p0 < p1 then p1 else p0) = (if p0 < p1 then p1 else p0) := rfl
  by_cases hc1 : p0 < p1
  · have r6 := r5.trans (if_pos hc1)
    refine Go.back (fun t k => XS.icmpYes X0.here hx rfl (pc0 := 2) (pc' := 9) rfl (hb hby d5_2) rfl (tlt hc1).1 (by decide) (by decide) k) ?_
    show Go p.tables e below (P5 p0 p1 h0 n0 s) (s₁.setTop (mkF m 9 #[.val (.int p0), .val (.int p1)] []))
    refine Go.back (fun t k => XS.iloadN X0.here hx rfl (hb hby d5_9) rfl  k) ?_
    show Go p.tables e below (P5 p0 p1 h0 n0 s) (s₁.setTop (mkF m 10 #[.val (.int p0), .val (.int p1)] [(.int p1)]))
    exact J2 p1 r6.symm
  · have r7 := r5.trans (if_neg hc1)
    refine Go.back (fun t k => XS.icmpNo X0.here hx rfl (hb hby d5_2) rfl (flt hc1).1 k) ?_
    show Go p.tables e below (P5 p0 p1 h0 n0 s) (s₁.setTop (mkF m 5 #[.val (.int p0), .val (.int p1)] []))
    refine Go.back (fun t k => XS.iloadN X0.here hx rfl (hb hby d5_5) rfl  k) ?_
    show Go p.tables e below (P5 p0 p1 h0 n0 s) (s₁.setTop (mkF m 6 #[.val (.int p0), .val (.int p1)] [(.int p0)]))
    refine Go.back (fun t k => XS.goto X0.here hx rfl (pc0 := 6) (pc' := 10) rfl (hb hby d5_6) (by decide) (by decide) k) ?_
    show Go p.tables e below (P5 p0 p1 h0 n0 s) (s₁.setTop (mkF m 10 #[.val (.int p0), .val (.int p1)] [(.int p0)]))
    exact J2 p0 r7.symm
theorem d6_0 : decode jdk_33_method_47_code 0 = .ok (.iload_n 0, 1) := by decide +kernel
theorem d6_1 : decode jdk_33_method_47_code 1 = .ok (.ifCond .gt 14, 3) := by decide +kernel
theorem d6_4 : decode jdk_33_method_47_code 4 = .ok (.iload_n 0, 1) := by decide +kernel
theorem d6_5 : decode jdk_33_method_47_code 5 = .ok (.ifCond .ne 8, 3) := by decide +kernel
theorem d6_8 : decode jdk_33_method_47_code 8 = .ok (.bipush 32, 2) := by decide +kernel
theorem d6_10 : decode jdk_33_method_47_code 10 = .ok (.goto 4, 3) := by decide +kernel
theorem d6_13 : decode jdk_33_method_47_code 13 = .ok (.iconst 0, 1) := by decide +kernel
theorem d6_14 : decode jdk_33_method_47_code 14 = .ok (.ireturn, 1) := by decide +kernel
theorem d6_15 : decode jdk_33_method_47_code 15 = .ok (.bipush 31, 2) := by decide +kernel
theorem d6_17 : decode jdk_33_method_47_code 17 = .ok (.istore_n 1, 1) := by decide +kernel
theorem d6_18 : decode jdk_33_method_47_code 18 = .ok (.iload_n 0, 1) := by decide +kernel
theorem d6_19 : decode jdk_33_method_47_code 19 = .ok (.ldc_w 264, 3) := by decide +kernel
theorem d6_22 : decode jdk_33_method_47_code 22 = .ok (.if_icmp .lt 11, 3) := by decide +kernel
theorem d6_25 : decode jdk_33_method_47_code 25 = .ok (.iinc 1 (-16), 3) := by decide +kernel
theorem d6_28 : decode jdk_33_method_47_code 28 = .ok (.iload_n 0, 1) := by decide +kernel
theorem d6_29 : decode jdk_33_method_47_code 29 = .ok (.bipush 16, 2) := by decide +kernel
theorem d6_31 : decode jdk_33_method_47_code 31 = .ok (.iushr, 1) := by decide +kernel
theorem d6_32 : decode jdk_33_method_47_code 32 = .ok (.istore_n 0, 1) := by decide +kernel
theorem d6_33 : decode jdk_33_method_47_code 33 = .ok (.iload_n 0, 1) := by decide +kernel
theorem d6_34 : decode jdk_33_method_47_code 34 = .ok (.sipush 256, 3) := by decide +kernel
theorem d6_37 : decode jdk_33_method_47_code 37 = .ok (.if_icmp .lt 11, 3) := by decide +kernel
theorem d6_40 : decode jdk_33_method_47_code 40 = .ok (.iinc 1 (-8), 3) := by decide +kernel
theorem d6_43 : decode jdk_33_method_47_code 43 = .ok (.iload_n 0, 1) := by decide +kernel
theorem d6_44 : decode jdk_33_method_47_code 44 = .ok (.bipush 8, 2) := by decide +kernel
theorem d6_46 : decode jdk_33_method_47_code 46 = .ok (.iushr, 1) := by decide +kernel
theorem d6_47 : decode jdk_33_method_47_code 47 = .ok (.istore_n 0, 1) := by decide +kernel
theorem d6_48 : decode jdk_33_method_47_code 48 = .ok (.iload_n 0, 1) := by decide +kernel
theorem d6_49 : decode jdk_33_method_47_code 49 = .ok (.bipush 16, 2) := by decide +kernel
theorem d6_51 : decode jdk_33_method_47_code 51 = .ok (.if_icmp .lt 10, 3) := by decide +kernel
theorem d6_54 : decode jdk_33_method_47_code 54 = .ok (.iinc 1 (-4), 3) := by decide +kernel
theorem d6_57 : decode jdk_33_method_47_code 57 = .ok (.iload_n 0, 1) := by decide +kernel
theorem d6_58 : decode jdk_33_method_47_code 58 = .ok (.iconst 4, 1) := by decide +kernel
theorem d6_59 : decode jdk_33_method_47_code 59 = .ok (.iushr, 1) := by decide +kernel
theorem d6_60 : decode jdk_33_method_47_code 60 = .ok (.istore_n 0, 1) := by decide +kernel
theorem d6_61 : decode jdk_33_method_47_code 61 = .ok (.iload_n 0, 1) := by decide +kernel
theorem d6_62 : decode jdk_33_method_47_code 62 = .ok (.iconst 4, 1) := by decide +kernel
theorem d6_63 : decode jdk_33_method_47_code 63 = .ok (.if_icmp .lt 10, 3) := by decide +kernel
theorem d6_66 : decode jdk_33_method_47_code 66 = .ok (.iinc 1 (-2), 3) := by decide +kernel
theorem d6_69 : decode jdk_33_method_47_code 69 = .ok (.iload_n 0, 1) := by decide +kernel
theorem d6_70 : decode jdk_33_method_47_code 70 = .ok (.iconst 2, 1) := by decide +kernel
theorem d6_71 : decode jdk_33_method_47_code 71 = .ok (.iushr, 1) := by decide +kernel
theorem d6_72 : decode jdk_33_method_47_code 72 = .ok (.istore_n 0, 1) := by decide +kernel
theorem d6_73 : decode jdk_33_method_47_code 73 = .ok (.iload_n 1, 1) := by decide +kernel
theorem d6_74 : decode jdk_33_method_47_code 74 = .ok (.iload_n 0, 1) := by decide +kernel
theorem d6_75 : decode jdk_33_method_47_code 75 = .ok (.iconst 1, 1) := by decide +kernel
theorem d6_76 : decode jdk_33_method_47_code 76 = .ok (.iushr, 1) := by decide +kernel
theorem d6_77 : decode jdk_33_method_47_code 77 = .ok (.isub, 1) := by decide +kernel
theorem d6_78 : decode jdk_33_method_47_code 78 = .ok (.ireturn, 1) := by decide +kernel
def f6 (p0 : Int32) : Int32 := (if (0 : Int32) < p0 then (let z5 : Int32 := (if p0 < (65536 : Int32) then p0 else (let z5 : Int32 := (((p0).toUInt32 >>> ((16 : Int32) &&& 31).toUInt32).toInt32); z5)); let z6 : Int32 := (if p0 < (65536 : Int32) then (31 : Int32) else (let z5 : Int32 := (((p0).toUInt32 >>> ((16 : Int32) &&& 31).toUInt32).toInt32); ((31 : Int32) + (-16 : Int32)))); (let z10 : Int32 := (if z5 < (256 : Int32) then z5 else (let z10 : Int32 := (((z5).toUInt32 >>> ((8 : Int32) &&& 31).toUInt32).toInt32); z10)); let z11 : Int32 := (if z5 < (256 : Int32) then z6 else (let z10 : Int32 := (((z5).toUInt32 >>> ((8 : Int32) &&& 31).toUInt32).toInt32); (z6 + (-8 : Int32)))); (let z15 : Int32 := (if z10 < (16 : Int32) then z10 else (let z15 : Int32 := (((z10).toUInt32 >>> ((4 : Int32) &&& 31).toUInt32).toInt32); z15)); let z16 : Int32 := (if z10 < (16 : Int32) then z11 else (let z15 : Int32 := (((z10).toUInt32 >>> ((4 : Int32) &&& 31).toUInt32).toInt32); (z11 + (-4 : Int32)))); (let z20 : Int32 := (if z15 < (4 : Int32) then z15 else (let z20 : Int32 := (((z15).toUInt32 >>> ((2 : Int32) &&& 31).toUInt32).toInt32); z20)); let z21 : Int32 := (if z15 < (4 : Int32) then z16 else (let z20 : Int32 := (((z15).toUInt32 >>> ((2 : Int32) &&& 31).toUInt32).toInt32); (z16 + (-2 : Int32)))); (z21 - (((z20).toUInt32 >>> ((1 : Int32) &&& 31).toUInt32).toInt32)))))) else (let z66 : Int32 := (if p0 = (0 : Int32) then (32 : Int32) else (0 : Int32)); z66))
def Q6 (p0 : Int32) (h0 : Heap) (n0 : Nat) (v : Option Value) (h : Heap) (L : List Loc) : Prop := v = some (.int (f6 p0)) ∧ Fr n0 L ∧ h = h0
abbrev rmm6 : Room := { frames := 0, cells := 0, slots := 0, locals := 0 }
abbrev P6 (p0 : Int32) (h0 : Heap) (n0 : Nat) (s : State) : Outcome → State → Prop := fun o U' => ∃ v L, o = .returned v ∧ Q6 p0 h0 n0 v U'.heap L ∧ FrameEnd s o U' L rmm6.cells rmm6.slots
theorem pn_6 : plainName "java/lang/Integer" = true := by first | (simp [plainName, overriddenIn]; done) | decide +kernel
theorem ef_6 (m : MethodId) (p0 : Int32) : entryFrame m #[(.int p0)] 2 = mkF m 0 #[.val (.int p0), .unset] [] := by first | (simp [entryFrame, mkF, argsToLocals, Value.category]; done) | rfl
set_option maxRecDepth 65536 in
set_option maxHeartbeats 40000000 in
theorem rm6 (l : Launch) (Z : State) (a0 : Array Value) (hw : ∀ d ∈ tables_1, d.before a0 Z = true) (ws : List Jvm.Cond) (p0 : Int32) (h0 : Heap) (n0 : Nat) :
    MetFree l (⟨"java/lang/Integer", "numberOfLeadingZeros", "(I)I"⟩ : MethodName) (head1 (Jvm.Cond.code (⟨"java/lang/Integer", "numberOfLeadingZeros", "(I)I"⟩ : MethodName) jdk_33_method_47_code 2 (some .int) :: ws) rmm6) (fun a U => a = #[(.int p0)] ∧ Z.Warmed39 U.vm ∧ U.heap = h0) (fun _ _ _ _ _ => True) (fun _ U o U' => ∃ v L, o = .returned v ∧ Q6 p0 h0 n0 v U'.heap L ∧ FrameEnd U o U' L rmm6.cells rmm6.slots) := by
  refine MetFree.of_bodySF (plainFor_of_name pn_6) hisR ?_
  intro p e s m args below meth c s₁ Bd hml0 hP hK
  obtain ⟨rfl, hZ, hh⟩ := hP
  have hx := Bd.exec
  have hby := Bd.bytes
  have hml : c.maxLocals = 2 := hml0
  have hown : s.vm.findClass "java/lang/Integer" = some m.cls := findClass_of_methodNamed Bd.named
  have hnm := (name_of_methodNamed Bd.named Bd.method).1
  have X0 : Stand p l e rmm6 s m #[(.int p0)] below meth c s₁ [] 0 0 := Stand.of_body Bd
  have e0 : s₁.heap = h0 := by rw [← hh, Bd.state]; rfl
  have N0 := Fr.nil n0
  show Go p.tables e below (P6 p0 h0 n0 s) (s₁.setTop (entryFrame m #[(.int p0)] 2))
  refine Go.back (fun t k => castTop (ef_6 m p0) k) ?_
  show Go p.tables e below (P6 p0 h0 n0 s) (s₁.setTop (mkF m 0 #[.val (.int p0), .unset] []))
  have hf : f6 p0 = (if (0 : Int32) < p0 then (let z5 : Int32 := (if p0 < (65536 : Int32) then p0 else (let z5 : Int32 := (((p0).toUInt32 >>> ((16 : Int32) &&& 31).toUInt32).toInt32); z5)); let z6 : Int32 := (if p0 < (65536 : Int32) then (31 : Int32) else (let z5 : Int32 := (((p0).toUInt32 >>> ((16 : Int32) &&& 31).toUInt32).toInt32); ((31 : Int32) + (-16 : Int32)))); (let z10 : Int32 := (if z5 < (256 : Int32) then z5 else (let z10 : Int32 := (((z5).toUInt32 >>> ((8 : Int32) &&& 31).toUInt32).toInt32); z10)); let z11 : Int32 := (if z5 < (256 : Int32) then z6 else (let z10 : Int32 := (((z5).toUInt32 >>> ((8 : Int32) &&& 31).toUInt32).toInt32); (z6 + (-8 : Int32)))); (let z15 : Int32 := (if z10 < (16 : Int32) then z10 else (let z15 : Int32 := (((z10).toUInt32 >>> ((4 : Int32) &&& 31).toUInt32).toInt32); z15)); let z16 : Int32 := (if z10 < (16 : Int32) then z11 else (let z15 : Int32 := (((z10).toUInt32 >>> ((4 : Int32) &&& 31).toUInt32).toInt32); (z11 + (-4 : Int32)))); (let z20 : Int32 := (if z15 < (4 : Int32) then z15 else (let z20 : Int32 := (((z15).toUInt32 >>> ((2 : Int32) &&& 31).toUInt32).toInt32); z20)); let z21 : Int32 := (if z15 < (4 : Int32) then z16 else (let z20 : Int32 := (((z15).toUInt32 >>> ((2 : Int32) &&& 31).toUInt32).toInt32); (z16 + (-2 : Int32)))); (z21 - (((z20).toUInt32 >>> ((1 : Int32) &&& 31).toUInt32).toInt32)))))) else (let z66 : Int32 := (if p0 = (0 : Int32) then (32 : Int32) else (0 : Int32)); z66)) := rfl
  refine Go.back (fun t k => XS.iloadN X0.here hx rfl (hb hby d6_0) rfl  k) ?_
  show Go p.tables e below (P6 p0 h0 n0 s) (s₁.setTop (mkF m 1 #[.val (.int p0), .unset] [(.int p0)]))
  by_cases hc1 : (0 : Int32) < p0
  · have r2 := hf.trans (if_pos hc1)
    refine Go.back (fun t k => XS.ifYes X0.here hx rfl (pc0 := 1) (pc' := 15) rfl (hb hby d6_1) rfl ((if0 _ _).trans (tlt hc1).2.2.1) (by decide) (by decide) k) ?_
    show Go p.tables e below (P6 p0 h0 n0 s) (s₁.setTop (mkF m 15 #[.val (.int p0), .unset] []))
    refine Go.back (fun t k => XS.bipush X0.here hx rfl (hb hby d6_15) k) ?_
    show Go p.tables e below (P6 p0 h0 n0 s) (s₁.setTop (mkF m 17 #[.val (.int p0), .unset] [(.int (31 : Int32))]))
    refine Go.back (fun t k => XS.istoreN X0.here hx rfl (hb hby d6_17) rfl (l' := #[.val (.int p0), .val (.int (31 : Int32))]) rfl k) ?_
    show Go p.tables e below (P6 p0 h0 n0 s) (s₁.setTop (mkF m 18 #[.val (.int p0), .val (.int (31 : Int32))] []))
    refine Go.back (fun t k => XS.iloadN X0.here hx rfl (hb hby d6_18) rfl  k) ?_
    show Go p.tables e below (P6 p0 h0 n0 s) (s₁.setTop (mkF m 19 #[.val (.int p0), .val (.int (31 : Int32))] [(.int p0)]))
    refine Go.back (fun t k => X0.ldcwInt hx hown (mvT hZ (hw _ (List.mem_of_getElem? (i := 34) rfl))) (g := (mkF m 19 #[.val (.int p0), .val (.int (31 : Int32))] [(.int p0)])) rfl (hb hby d6_19) t k) ?_
    show Go p.tables e below (P6 p0 h0 n0 s) (s₁.setTop (mkF m 22 #[.val (.int p0), .val (.int (31 : Int32))] [(.int (65536 : Int32)), (.int p0)]))
    have J4 : ∀ (z5 : Int32) (z6 : Int32) (hz5 : z5 = (if p0 < (65536 : Int32) then p0 else (let z5 : Int32 := (((p0).toUInt32 >>> ((16 : Int32) &&& 31).toUInt32).toInt32); z5))) (hz6 : z6 = (if p0 < (65536 : Int32) then (31 : Int32) else (let z5 : Int32 := (((p0).toUInt32 >>> ((16 : Int32) &&& 31).toUInt32).toInt32); ((31 : Int32) + (-16 : Int32))))), Go p.tables e below (P6 p0 h0 n0 s) (s₁.setTop (mkF m 33 #[.val (.int z5), .val (.int z6)] [])) := by
      intro z5 z6 hz5 hz6
      have r7 : f6 p0 = (let z10 : Int32 := (if z5 < (256 : Int32) then z5 else (let z10 : Int32 := (((z5).toUInt32 >>> ((8 : Int32) &&& 31).toUInt32).toInt32); z10)); let z11 : Int32 := (if z5 < (256 : Int32) then z6 else (let z10 : Int32 := (((z5).toUInt32 >>> ((8 : Int32) &&& 31).toUInt32).toInt32); (z6 + (-8 : Int32)))); (let z15 : Int32 := (if z10 < (16 : Int32) then z10 else (let z15 : Int32 := (((z10).toUInt32 >>> ((4 : Int32) &&& 31).toUInt32).toInt32); z15)); let z16 : Int32 := (if z10 < (16 : Int32) then z11 else (let z15 : Int32 := (((z10).toUInt32 >>> ((4 : Int32) &&& 31).toUInt32).toInt32); (z11 + (-4 : Int32)))); (let z20 : Int32 := (if z15 < (4 : Int32) then z15 else (let z20 : Int32 := (((z15).toUInt32 >>> ((2 : Int32) &&& 31).toUInt32).toInt32); z20)); let z21 : Int32 := (if z15 < (4 : Int32) then z16 else (let z20 : Int32 := (((z15).toUInt32 >>> ((2 : Int32) &&& 31).toUInt32).toInt32); (z16 + (-2 : Int32)))); (z21 - (((z20).toUInt32 >>> ((1 : Int32) &&& 31).toUInt32).toInt32))))) := by subst hz6; subst hz5; exact r2
      show Go p.tables e below (P6 p0 h0 n0 s) (s₁.setTop (mkF m 33 #[.val (.int z5), .val (.int z6)] []))
      refine Go.back (fun t k => XS.iloadN X0.here hx rfl (hb hby d6_33) rfl  k) ?_
      show Go p.tables e below (P6 p0 h0 n0 s) (s₁.setTop (mkF m 34 #[.val (.int z5), .val (.int z6)] [(.int z5)]))
      refine Go.back (fun t k => XS.sipush X0.here hx rfl (hb hby d6_34) k) ?_
      show Go p.tables e below (P6 p0 h0 n0 s) (s₁.setTop (mkF m 37 #[.val (.int z5), .val (.int z6)] [(.int (256 : Int32)), (.int z5)]))
      have J9 : ∀ (z10 : Int32) (z11 : Int32) (hz10 : z10 = (if z5 < (256 : Int32) then z5 else (let z10 : Int32 := (((z5).toUInt32 >>> ((8 : Int32) &&& 31).toUInt32).toInt32); z10))) (hz11 : z11 = (if z5 < (256 : Int32) then z6 else (let z10 : Int32 := (((z5).toUInt32 >>> ((8 : Int32) &&& 31).toUInt32).toInt32); (z6 + (-8 : Int32))))), Go p.tables e below (P6 p0 h0 n0 s) (s₁.setTop (mkF m 48 #[.val (.int z10), .val (.int z11)] [])) := by
        intro z10 z11 hz10 hz11
        have r12 : f6 p0 = (let z15 : Int32 := (if z10 < (16 : Int32) then z10 else (let z15 : Int32 := (((z10).toUInt32 >>> ((4 : Int32) &&& 31).toUInt32).toInt32); z15)); let z16 : Int32 := (if z10 < (16 : Int32) then z11 else (let z15 : Int32 := (((z10).toUInt32 >>> ((4 : Int32) &&& 31).toUInt32).toInt32); (z11 + (-4 : Int32)))); (let z20 : Int32 := (if z15 < (4 : Int32) then z15 else (let z20 : Int32 := (((z15).toUInt32 >>> ((2 : Int32) &&& 31).toUInt32).toInt32); z20)); let z21 : Int32 := (if z15 < (4 : Int32) then z16 else (let z20 : Int32 := (((z15).toUInt32 >>> ((2 : Int32) &&& 31).toUInt32).toInt32); (z16 + (-2 : Int32)))); (z21 - (((z20).toUInt32 >>> ((1 : Int32) &&& 31).toUInt32).toInt32)))) := by subst hz11; subst hz10; exact r7
        show Go p.tables e below (P6 p0 h0 n0 s) (s₁.setTop (mkF m 48 #[.val (.int z10), .val (.int z11)] []))
        refine Go.back (fun t k => XS.iloadN X0.here hx rfl (hb hby d6_48) rfl  k) ?_
        show Go p.tables e below (P6 p0 h0 n0 s) (s₁.setTop (mkF m 49 #[.val (.int z10), .val (.int z11)] [(.int z10)]))
        refine Go.back (fun t k => XS.bipush X0.here hx rfl (hb hby d6_49) k) ?_
        show Go p.tables e below (P6 p0 h0 n0 s) (s₁.setTop (mkF m 51 #[.val (.int z10), .val (.int z11)] [(.int (16 : Int32)), (.int z10)]))
        have J14 : ∀ (z15 : Int32) (z16 : Int32) (hz15 : z15 = (if z10 < (16 : Int32) then z10 else (let z15 : Int32 := (((z10).toUInt32 >>> ((4 : Int32) &&& 31).toUInt32).toInt32); z15))) (hz16 : z16 = (if z10 < (16 : Int32) then z11 else (let z15 : Int32 := (((z10).toUInt32 >>> ((4 : Int32) &&& 31).toUInt32).toInt32); (z11 + (-4 : Int32))))), Go p.tables e below (P6 p0 h0 n0 s) (s₁.setTop (mkF m 61 #[.val (.int z15), .val (.int z16)] [])) := by
          intro z15 z16 hz15 hz16
          have r17 : f6 p0 = (let z20 : Int32 := (if z15 < (4 : Int32) then z15 else (let z20 : Int32 := (((z15).toUInt32 >>> ((2 : Int32) &&& 31).toUInt32).toInt32); z20)); let z21 : Int32 := (if z15 < (4 : Int32) then z16 else (let z20 : Int32 := (((z15).toUInt32 >>> ((2 : Int32) &&& 31).toUInt32).toInt32); (z16 + (-2 : Int32)))); (z21 - (((z20).toUInt32 >>> ((1 : Int32) &&& 31).toUInt32).toInt32))) := by subst hz16; subst hz15; exact r12
          show Go p.tables e below (P6 p0 h0 n0 s) (s₁.setTop (mkF m 61 #[.val (.int z15), .val (.int z16)] []))
          refine Go.back (fun t k => XS.iloadN X0.here hx rfl (hb hby d6_61) rfl  k) ?_
          show Go p.tables e below (P6 p0 h0 n0 s) (s₁.setTop (mkF m 62 #[.val (.int z15), .val (.int z16)] [(.int z15)]))
          refine Go.back (fun t k => XS.iconst X0.here hx rfl (hb hby d6_62) k) ?_
          show Go p.tables e below (P6 p0 h0 n0 s) (s₁.setTop (mkF m 63 #[.val (.int z15), .val (.int z16)] [(.int (4 : Int32)), (.int z15)]))
          have J19 : ∀ (z20 : Int32) (z21 : Int32) (hz20 : z20 = (if z15 < (4 : Int32) then z15 else (let z20 : Int32 := (((z15).toUInt32 >>> ((2 : Int32) &&& 31).toUInt32).toInt32); z20))) (hz21 : z21 = (if z15 < (4 : Int32) then z16 else (let z20 : Int32 := (((z15).toUInt32 >>> ((2 : Int32) &&& 31).toUInt32).toInt32); (z16 + (-2 : Int32))))), Go p.tables e below (P6 p0 h0 n0 s) (s₁.setTop (mkF m 73 #[.val (.int z20), .val (.int z21)] [])) := by
            intro z20 z21 hz20 hz21
            have r22 : f6 p0 = (z21 - (((z20).toUInt32 >>> ((1 : Int32) &&& 31).toUInt32).toInt32)) := by subst hz21; subst hz20; exact r17
            show Go p.tables e below (P6 p0 h0 n0 s) (s₁.setTop (mkF m 73 #[.val (.int z20), .val (.int z21)] []))
            refine Go.back (fun t k => XS.iloadN X0.here hx rfl (hb hby d6_73) rfl  k) ?_
            show Go p.tables e below (P6 p0 h0 n0 s) (s₁.setTop (mkF m 74 #[.val (.int z20), .val (.int z21)] [(.int z21)]))
            refine Go.back (fun t k => XS.iloadN X0.here hx rfl (hb hby d6_74) rfl  k) ?_
            show Go p.tables e below (P6 p0 h0 n0 s) (s₁.setTop (mkF m 75 #[.val (.int z20), .val (.int z21)] [(.int z20), (.int z21)]))
            refine Go.back (fun t k => XS.iconst X0.here hx rfl (hb hby d6_75) k) ?_
            show Go p.tables e below (P6 p0 h0 n0 s) (s₁.setTop (mkF m 76 #[.val (.int z20), .val (.int z21)] [(.int (1 : Int32)), (.int z20), (.int z21)]))
            refine Go.back (fun t k => XS.iushr X0.here hx rfl (hb hby d6_76) rfl k) ?_
            show Go p.tables e below (P6 p0 h0 n0 s) (s₁.setTop (mkF m 77 #[.val (.int z20), .val (.int z21)] [(.int (((z20).toUInt32 >>> ((1 : Int32) &&& 31).toUInt32).toInt32)), (.int z21)]))
            refine Go.back (fun t k => XS.isub X0.here hx rfl (hb hby d6_77) rfl k) ?_
            show Go p.tables e below (P6 p0 h0 n0 s) (s₁.setTop (mkF m 78 #[.val (.int z20), .val (.int z21)] [(.int (z21 - (((z20).toUInt32 >>> ((1 : Int32) &&& 31).toUInt32).toInt32)))]))
            exact Go.retI X0 hx Bd.returns (hb hby d6_78) Bd.notSynchronized ⟨by rw [r22], N0, e0⟩ (by decide) (by decide)
          have r23 : (if z15 < (4 : Int32) then z15 else (let z20 : Int32 := (((z15).toUInt32 >>> ((2 : Int32) &&& 31).toUInt32).toInt32); z20)) = (if z15 < (4 : Int32) then z15 else (let z20 : Int32 := (((z15).toUInt32 >>> ((2 : Int32) &&& 31).toUInt32).toInt32); z20)) := rfl
          have r24 : (if z15 < (4 : Int32) then z16 else (let z20 : Int32 := (((z15).toUInt32 >>> ((2 : Int32) &&& 31).toUInt32).toInt32); (z16 + (-2 : Int32)))) = (if z15 < (4 : Int32) then z16 else (let z20 : Int32 := (((z15).toUInt32 >>> ((2 : Int32) &&& 31).toUInt32).toInt32); (z16 + (-2 : Int32)))) := rfl
          by_cases hc18 : z15 < (4 : Int32)
          · have r25 := r23.trans (if_pos hc18)
            have r26 := r24.trans (if_pos hc18)
            refine Go.back (fun t k => XS.icmpYes X0.here hx rfl (pc0 := 63) (pc' := 73) rfl (hb hby d6_63) rfl (tlt hc18).1 (by decide) (by decide) k) ?_
            show Go p.tables e below (P6 p0 h0 n0 s) (s₁.setTop (mkF m 73 #[.val (.int z15), .val (.int z16)] []))
            exact J19 z15 z16 r25.symm r26.symm
          · have r27 := r23.trans (if_neg hc18)
            have r28 := r24.trans (if_neg hc18)
            refine Go.back (fun t k => XS.icmpNo X0.here hx rfl (hb hby d6_63) rfl (flt hc18).1 k) ?_
            show Go p.tables e below (P6 p0 h0 n0 s) (s₁.setTop (mkF m 66 #[.val (.int z15), .val (.int z16)] []))
            refine Go.back (fun t k => XS.iinc X0.here hx rfl (hb hby d6_66) rfl (l' := #[.val (.int z15), .val (.int (z16 + (-2 : Int32)))]) rfl k) ?_
            show Go p.tables e below (P6 p0 h0 n0 s) (s₁.setTop (mkF m 69 #[.val (.int z15), .val (.int (z16 + (-2 : Int32)))] []))
            refine Go.back (fun t k => XS.iloadN X0.here hx rfl (hb hby d6_69) rfl  k) ?_
            show Go p.tables e below (P6 p0 h0 n0 s) (s₁.setTop (mkF m 70 #[.val (.int z15), .val (.int (z16 + (-2 : Int32)))] [(.int z15)]))
            refine Go.back (fun t k => XS.iconst X0.here hx rfl (hb hby d6_70) k) ?_
            show Go p.tables e below (P6 p0 h0 n0 s) (s₁.setTop (mkF m 71 #[.val (.int z15), .val (.int (z16 + (-2 : Int32)))] [(.int (2 : Int32)), (.int z15)]))
            refine Go.back (fun t k => XS.iushr X0.here hx rfl (hb hby d6_71) rfl k) ?_
            show Go p.tables e below (P6 p0 h0 n0 s) (s₁.setTop (mkF m 72 #[.val (.int z15), .val (.int (z16 + (-2 : Int32)))] [(.int (((z15).toUInt32 >>> ((2 : Int32) &&& 31).toUInt32).toInt32))]))
            refine Go.back (fun t k => XS.istoreN X0.here hx rfl (hb hby d6_72) rfl (l' := #[.val (.int (((z15).toUInt32 >>> ((2 : Int32) &&& 31).toUInt32).toInt32)), .val (.int (z16 + (-2 : Int32)))]) rfl k) ?_
            show Go p.tables e below (P6 p0 h0 n0 s) (s₁.setTop (mkF m 73 #[.val (.int (((z15).toUInt32 >>> ((2 : Int32) &&& 31).toUInt32).toInt32)), .val (.int (z16 + (-2 : Int32)))] []))
            have J29 : ∀ (z30 : Int32) (hz30 : z30 = (((z15).toUInt32 >>> ((2 : Int32) &&& 31).toUInt32).toInt32)), Go p.tables e below (P6 p0 h0 n0 s) (s₁.setTop (mkF m 73 #[.val (.int z30), .val (.int (z16 + (-2 : Int32)))] [])) := by
              intro z30 hz30
              have r31 : (if z15 < (4 : Int32) then z15 else (let z20 : Int32 := (((z15).toUInt32 >>> ((2 : Int32) &&& 31).toUInt32).toInt32); z20)) = z30 := by subst hz30; exact r27
              have r32 : (if z15 < (4 : Int32) then z16 else (let z20 : Int32 := (((z15).toUInt32 >>> ((2 : Int32) &&& 31).toUInt32).toInt32); (z16 + (-2 : Int32)))) = (z16 + (-2 : Int32)) := by subst hz30; exact r28
              show Go p.tables e below (P6 p0 h0 n0 s) (s₁.setTop (mkF m 73 #[.val (.int z30), .val (.int (z16 + (-2 : Int32)))] []))
              exact J19 z30 (z16 + (-2 : Int32)) r31.symm r32.symm
            exact J29 _ rfl
        have r33 : (if z10 < (16 : Int32) then z10 else (let z15 : Int32 := (((z10).toUInt32 >>> ((4 : Int32) &&& 31).toUInt32).toInt32); z15)) = (if z10 < (16 : Int32) then z10 else (let z15 : Int32 := (((z10).toUInt32 >>> ((4 : Int32) &&& 31).toUInt32).toInt32); z15)) := rfl
        have r34 : (if z10 < (16 : Int32) then z11 else (let z15 : Int32 := (((z10).toUInt32 >>> ((4 : Int32) &&& 31).toUInt32).toInt32); (z11 + (-4 : Int32)))) = (if z10 < (16 : Int32) then z11 else (let z15 : Int32 := (((z10).toUInt32 >>> ((4 : Int32) &&& 31).toUInt32).toInt32); (z11 + (-4 : Int32)))) := rfl
        by_cases hc13 : z10 < (16 : Int32)
        · have r35 := r33.trans (if_pos hc13)
          have r36 := r34.trans (if_pos hc13)
          refine Go.back (fun t k => XS.icmpYes X0.here hx rfl (pc0 := 51) (pc' := 61) rfl (hb hby d6_51) rfl (tlt hc13).1 (by decide) (by decide) k) ?_
          show Go p.tables e below (P6 p0 h0 n0 s) (s₁.setTop (mkF m 61 #[.val (.int z10), .val (.int z11)] []))
          exact J14 z10 z11 r35.symm r36.symm
        · have r37 := r33.trans (if_neg hc13)
          have r38 := r34.trans (if_neg hc13)
          refine Go.back (fun t k => XS.icmpNo X0.here hx rfl (hb hby d6_51) rfl (flt hc13).1 k) ?_
          show Go p.tables e below (P6 p0 h0 n0 s) (s₁.setTop (mkF m 54 #[.val (.int z10), .val (.int z11)] []))
          refine Go.back (fun t k => XS.iinc X0.here hx rfl (hb hby d6_54) rfl (l' := #[.val (.int z10), .val (.int (z11 + (-4 : Int32)))]) rfl k) ?_
          show Go p.tables e below (P6 p0 h0 n0 s) (s₁.setTop (mkF m 57 #[.val (.int z10), .val (.int (z11 + (-4 : Int32)))] []))
          refine Go.back (fun t k => XS.iloadN X0.here hx rfl (hb hby d6_57) rfl  k) ?_
          show Go p.tables e below (P6 p0 h0 n0 s) (s₁.setTop (mkF m 58 #[.val (.int z10), .val (.int (z11 + (-4 : Int32)))] [(.int z10)]))
          refine Go.back (fun t k => XS.iconst X0.here hx rfl (hb hby d6_58) k) ?_
          show Go p.tables e below (P6 p0 h0 n0 s) (s₁.setTop (mkF m 59 #[.val (.int z10), .val (.int (z11 + (-4 : Int32)))] [(.int (4 : Int32)), (.int z10)]))
          refine Go.back (fun t k => XS.iushr X0.here hx rfl (hb hby d6_59) rfl k) ?_
          show Go p.tables e below (P6 p0 h0 n0 s) (s₁.setTop (mkF m 60 #[.val (.int z10), .val (.int (z11 + (-4 : Int32)))] [(.int (((z10).toUInt32 >>> ((4 : Int32) &&& 31).toUInt32).toInt32))]))
          refine Go.back (fun t k => XS.istoreN X0.here hx rfl (hb hby d6_60) rfl (l' := #[.val (.int (((z10).toUInt32 >>> ((4 : Int32) &&& 31).toUInt32).toInt32)), .val (.int (z11 + (-4 : Int32)))]) rfl k) ?_
          show Go p.tables e below (P6 p0 h0 n0 s) (s₁.setTop (mkF m 61 #[.val (.int (((z10).toUInt32 >>> ((4 : Int32) &&& 31).toUInt32).toInt32)), .val (.int (z11 + (-4 : Int32)))] []))
          have J39 : ∀ (z40 : Int32) (hz40 : z40 = (((z10).toUInt32 >>> ((4 : Int32) &&& 31).toUInt32).toInt32)), Go p.tables e below (P6 p0 h0 n0 s) (s₁.setTop (mkF m 61 #[.val (.int z40), .val (.int (z11 + (-4 : Int32)))] [])) := by
            intro z40 hz40
            have r41 : (if z10 < (16 : Int32) then z10 else (let z15 : Int32 := (((z10).toUInt32 >>> ((4 : Int32) &&& 31).toUInt32).toInt32); z15)) = z40 := by subst hz40; exact r37
            have r42 : (if z10 < (16 : Int32) then z11 else (let z15 : Int32 := (((z10).toUInt32 >>> ((4 : Int32) &&& 31).toUInt32).toInt32); (z11 + (-4 : Int32)))) = (z11 + (-4 : Int32)) := by subst hz40; exact r38
            show Go p.tables e below (P6 p0 h0 n0 s) (s₁.setTop (mkF m 61 #[.val (.int z40), .val (.int (z11 + (-4 : Int32)))] []))
            exact J14 z40 (z11 + (-4 : Int32)) r41.symm r42.symm
          exact J39 _ rfl
      have r43 : (if z5 < (256 : Int32) then z5 else (let z10 : Int32 := (((z5).toUInt32 >>> ((8 : Int32) &&& 31).toUInt32).toInt32); z10)) = (if z5 < (256 : Int32) then z5 else (let z10 : Int32 := (((z5).toUInt32 >>> ((8 : Int32) &&& 31).toUInt32).toInt32); z10)) := rfl
      have r44 : (if z5 < (256 : Int32) then z6 else (let z10 : Int32 := (((z5).toUInt32 >>> ((8 : Int32) &&& 31).toUInt32).toInt32); (z6 + (-8 : Int32)))) = (if z5 < (256 : Int32) then z6 else (let z10 : Int32 := (((z5).toUInt32 >>> ((8 : Int32) &&& 31).toUInt32).toInt32); (z6 + (-8 : Int32)))) := rfl
      by_cases hc8 : z5 < (256 : Int32)
      · have r45 := r43.trans (if_pos hc8)
        have r46 := r44.trans (if_pos hc8)
        refine Go.back (fun t k => XS.icmpYes X0.here hx rfl (pc0 := 37) (pc' := 48) rfl (hb hby d6_37) rfl (tlt hc8).1 (by decide) (by decide) k) ?_
        show Go p.tables e below (P6 p0 h0 n0 s) (s₁.setTop (mkF m 48 #[.val (.int z5), .val (.int z6)] []))
        exact J9 z5 z6 r45.symm r46.symm
      · have r47 := r43.trans (if_neg hc8)
        have r48 := r44.trans (if_neg hc8)
        refine Go.back (fun t k => XS.icmpNo X0.here hx rfl (hb hby d6_37) rfl (flt hc8).1 k) ?_
        show Go p.tables e below (P6 p0 h0 n0 s) (s₁.setTop (mkF m 40 #[.val (.int z5), .val (.int z6)] []))
        refine Go.back (fun t k => XS.iinc X0.here hx rfl (hb hby d6_40) rfl (l' := #[.val (.int z5), .val (.int (z6 + (-8 : Int32)))]) rfl k) ?_
        show Go p.tables e below (P6 p0 h0 n0 s) (s₁.setTop (mkF m 43 #[.val (.int z5), .val (.int (z6 + (-8 : Int32)))] []))
        refine Go.back (fun t k => XS.iloadN X0.here hx rfl (hb hby d6_43) rfl  k) ?_
        show Go p.tables e below (P6 p0 h0 n0 s) (s₁.setTop (mkF m 44 #[.val (.int z5), .val (.int (z6 + (-8 : Int32)))] [(.int z5)]))
        refine Go.back (fun t k => XS.bipush X0.here hx rfl (hb hby d6_44) k) ?_
        show Go p.tables e below (P6 p0 h0 n0 s) (s₁.setTop (mkF m 46 #[.val (.int z5), .val (.int (z6 + (-8 : Int32)))] [(.int (8 : Int32)), (.int z5)]))
        refine Go.back (fun t k => XS.iushr X0.here hx rfl (hb hby d6_46) rfl k) ?_
        show Go p.tables e below (P6 p0 h0 n0 s) (s₁.setTop (mkF m 47 #[.val (.int z5), .val (.int (z6 + (-8 : Int32)))] [(.int (((z5).toUInt32 >>> ((8 : Int32) &&& 31).toUInt32).toInt32))]))
        refine Go.back (fun t k => XS.istoreN X0.here hx rfl (hb hby d6_47) rfl (l' := #[.val (.int (((z5).toUInt32 >>> ((8 : Int32) &&& 31).toUInt32).toInt32)), .val (.int (z6 + (-8 : Int32)))]) rfl k) ?_
        show Go p.tables e below (P6 p0 h0 n0 s) (s₁.setTop (mkF m 48 #[.val (.int (((z5).toUInt32 >>> ((8 : Int32) &&& 31).toUInt32).toInt32)), .val (.int (z6 + (-8 : Int32)))] []))
        have J49 : ∀ (z50 : Int32) (hz50 : z50 = (((z5).toUInt32 >>> ((8 : Int32) &&& 31).toUInt32).toInt32)), Go p.tables e below (P6 p0 h0 n0 s) (s₁.setTop (mkF m 48 #[.val (.int z50), .val (.int (z6 + (-8 : Int32)))] [])) := by
          intro z50 hz50
          have r51 : (if z5 < (256 : Int32) then z5 else (let z10 : Int32 := (((z5).toUInt32 >>> ((8 : Int32) &&& 31).toUInt32).toInt32); z10)) = z50 := by subst hz50; exact r47
          have r52 : (if z5 < (256 : Int32) then z6 else (let z10 : Int32 := (((z5).toUInt32 >>> ((8 : Int32) &&& 31).toUInt32).toInt32); (z6 + (-8 : Int32)))) = (z6 + (-8 : Int32)) := by subst hz50; exact r48
          show Go p.tables e below (P6 p0 h0 n0 s) (s₁.setTop (mkF m 48 #[.val (.int z50), .val (.int (z6 + (-8 : Int32)))] []))
          exact J9 z50 (z6 + (-8 : Int32)) r51.symm r52.symm
        exact J49 _ rfl
    have r53 : (if p0 < (65536 : Int32) then p0 else (let z5 : Int32 := (((p0).toUInt32 >>> ((16 : Int32) &&& 31).toUInt32).toInt32); z5)) = (if p0 < (65536 : Int32) then p0 else (let z5 : Int32 := (((p0).toUInt32 >>> ((16 : Int32) &&& 31).toUInt32).toInt32); z5)) := rfl
    have r54 : (if p0 < (65536 : Int32) then (31 : Int32) else (let z5 : Int32 := (((p0).toUInt32 >>> ((16 : Int32) &&& 31).toUInt32).toInt32); ((31 : Int32) + (-16 : Int32)))) = (if p0 < (65536 : Int32) then (31 : Int32) else (let z5 : Int32 := (((p0).toUInt32 >>> ((16 : Int32) &&& 31).toUInt32).toInt32); ((31 : Int32) + (-16 : Int32)))) := rfl
    by_cases hc3 : p0 < (65536 : Int32)
    · have r55 := r53.trans (if_pos hc3)
      have r56 := r54.trans (if_pos hc3)
      refine Go.back (fun t k => XS.icmpYes X0.here hx rfl (pc0 := 22) (pc' := 33) rfl (hb hby d6_22) rfl (tlt hc3).1 (by decide) (by decide) k) ?_
      show Go p.tables e below (P6 p0 h0 n0 s) (s₁.setTop (mkF m 33 #[.val (.int p0), .val (.int (31 : Int32))] []))
      exact J4 p0 (31 : Int32) r55.symm r56.symm
    · have r57 := r53.trans (if_neg hc3)
      have r58 := r54.trans (if_neg hc3)
      refine Go.back (fun t k => XS.icmpNo X0.here hx rfl (hb hby d6_22) rfl (flt hc3).1 k) ?_
      show Go p.tables e below (P6 p0 h0 n0 s) (s₁.setTop (mkF m 25 #[.val (.int p0), .val (.int (31 : Int32))] []))
      refine Go.back (fun t k => XS.iinc X0.here hx rfl (hb hby d6_25) rfl (l' := #[.val (.int p0), .val (.int ((31 : Int32) + (-16 : Int32)))]) rfl k) ?_
      show Go p.tables e below (P6 p0 h0 n0 s) (s₁.setTop (mkF m 28 #[.val (.int p0), .val (.int ((31 : Int32) + (-16 : Int32)))] []))
      refine Go.back (fun t k => XS.iloadN X0.here hx rfl (hb hby d6_28) rfl  k) ?_
      show Go p.tables e below (P6 p0 h0 n0 s) (s₁.setTop (mkF m 29 #[.val (.int p0), .val (.int ((31 : Int32) + (-16 : Int32)))] [(.int p0)]))
      refine Go.back (fun t k => XS.bipush X0.here hx rfl (hb hby d6_29) k) ?_
      show Go p.tables e below (P6 p0 h0 n0 s) (s₁.setTop (mkF m 31 #[.val (.int p0), .val (.int ((31 : Int32) + (-16 : Int32)))] [(.int (16 : Int32)), (.int p0)]))
      refine Go.back (fun t k => XS.iushr X0.here hx rfl (hb hby d6_31) rfl k) ?_
      show Go p.tables e below (P6 p0 h0 n0 s) (s₁.setTop (mkF m 32 #[.val (.int p0), .val (.int ((31 : Int32) + (-16 : Int32)))] [(.int (((p0).toUInt32 >>> ((16 : Int32) &&& 31).toUInt32).toInt32))]))
      refine Go.back (fun t k => XS.istoreN X0.here hx rfl (hb hby d6_32) rfl (l' := #[.val (.int (((p0).toUInt32 >>> ((16 : Int32) &&& 31).toUInt32).toInt32)), .val (.int ((31 : Int32) + (-16 : Int32)))]) rfl k) ?_
      show Go p.tables e below (P6 p0 h0 n0 s) (s₁.setTop (mkF m 33 #[.val (.int (((p0).toUInt32 >>> ((16 : Int32) &&& 31).toUInt32).toInt32)), .val (.int ((31 : Int32) + (-16 : Int32)))] []))
      have J59 : ∀ (z60 : Int32) (hz60 : z60 = (((p0).toUInt32 >>> ((16 : Int32) &&& 31).toUInt32).toInt32)), Go p.tables e below (P6 p0 h0 n0 s) (s₁.setTop (mkF m 33 #[.val (.int z60), .val (.int ((31 : Int32) + (-16 : Int32)))] [])) := by
        intro z60 hz60
        have r61 : (if p0 < (65536 : Int32) then p0 else (let z5 : Int32 := (((p0).toUInt32 >>> ((16 : Int32) &&& 31).toUInt32).toInt32); z5)) = z60 := by subst hz60; exact r57
        have r62 : (if p0 < (65536 : Int32) then (31 : Int32) else (let z5 : Int32 := (((p0).toUInt32 >>> ((16 : Int32) &&& 31).toUInt32).toInt32); ((31 : Int32) + (-16 : Int32)))) = ((31 : Int32) + (-16 : Int32)) := by subst hz60; exact r58
        show Go p.tables e below (P6 p0 h0 n0 s) (s₁.setTop (mkF m 33 #[.val (.int z60), .val (.int ((31 : Int32) + (-16 : Int32)))] []))
        exact J4 z60 ((31 : Int32) + (-16 : Int32)) r61.symm r62.symm
      exact J59 _ rfl
  · have r63 := hf.trans (if_neg hc1)
    refine Go.back (fun t k => XS.ifNo X0.here hx rfl (hb hby d6_1) rfl ((if0 _ _).trans (flt hc1).2.2.1) k) ?_
    show Go p.tables e below (P6 p0 h0 n0 s) (s₁.setTop (mkF m 4 #[.val (.int p0), .unset] []))
    refine Go.back (fun t k => XS.iloadN X0.here hx rfl (hb hby d6_4) rfl  k) ?_
    show Go p.tables e below (P6 p0 h0 n0 s) (s₁.setTop (mkF m 5 #[.val (.int p0), .unset] [(.int p0)]))
    have J65 : ∀ (z66 : Int32) (hz66 : z66 = (if p0 = (0 : Int32) then (32 : Int32) else (0 : Int32))), Go p.tables e below (P6 p0 h0 n0 s) (s₁.setTop (mkF m 14 #[.val (.int p0), .unset] [(.int z66)])) := by
      intro z66 hz66
      have r67 : f6 p0 = z66 := by subst hz66; exact r63
      show Go p.tables e below (P6 p0 h0 n0 s) (s₁.setTop (mkF m 14 #[.val (.int p0), .unset] [(.int z66)]))
      exact Go.retI X0 hx Bd.returns (hb hby d6_14) Bd.notSynchronized ⟨by rw [r67], N0, e0⟩ (by decide) (by decide)
    have r68 : (if p0 = (0 : Int32) then (32 : Int32) else (0 : Int32)) = (if p0 = (0 : Int32) then (32 : Int32) else (0 : Int32)) := rfl
    by_cases hc64 : p0 = (0 : Int32)
    · have r69 := r68.trans (if_pos hc64)
      refine Go.back (fun t k => XS.ifNo X0.here hx rfl (hb hby d6_5) rfl ((if0 _ _).trans (teq hc64).2) k) ?_
      show Go p.tables e below (P6 p0 h0 n0 s) (s₁.setTop (mkF m 8 #[.val (.int p0), .unset] []))
      refine Go.back (fun t k => XS.bipush X0.here hx rfl (hb hby d6_8) k) ?_
      show Go p.tables e below (P6 p0 h0 n0 s) (s₁.setTop (mkF m 10 #[.val (.int p0), .unset] [(.int (32 : Int32))]))
      refine Go.back (fun t k => XS.goto X0.here hx rfl (pc0 := 10) (pc' := 14) rfl (hb hby d6_10) (by decide) (by decide) k) ?_
      show Go p.tables e below (P6 p0 h0 n0 s) (s₁.setTop (mkF m 14 #[.val (.int p0), .unset] [(.int (32 : Int32))]))
      exact J65 (32 : Int32) r69.symm
    · have r70 := r68.trans (if_neg hc64)
      refine Go.back (fun t k => XS.ifYes X0.here hx rfl (pc0 := 5) (pc' := 13) rfl (hb hby d6_5) rfl ((if0 _ _).trans (feq hc64).2) (by decide) (by decide) k) ?_
      show Go p.tables e below (P6 p0 h0 n0 s) (s₁.setTop (mkF m 13 #[.val (.int p0), .unset] []))
      refine Go.back (fun t k => XS.iconst X0.here hx rfl (hb hby d6_13) k) ?_
      show Go p.tables e below (P6 p0 h0 n0 s) (s₁.setTop (mkF m 14 #[.val (.int p0), .unset] [(.int (0 : Int32))]))
      exact J65 (0 : Int32) r70.symm
theorem d2_0 : decode jdk_29_method_69_code 0 = .ok (.iload_n 0, 1) := by decide +kernel
theorem d2_1 : decode jdk_29_method_69_code 1 = .ok (.iload_n 1, 1) := by decide +kernel
theorem d2_2 : decode jdk_29_method_69_code 2 = .ok (.if_icmp .gt 7, 3) := by decide +kernel
theorem d2_5 : decode jdk_29_method_69_code 5 = .ok (.iload_n 0, 1) := by decide +kernel
theorem d2_6 : decode jdk_29_method_69_code 6 = .ok (.goto 4, 3) := by decide +kernel
theorem d2_9 : decode jdk_29_method_69_code 9 = .ok (.iload_n 1, 1) := by decide +kernel
theorem d2_10 : decode jdk_29_method_69_code 10 = .ok (.ireturn, 1) := by decide +kernel
def f2 (p0 : Int32) (p1 : Int32) : Int32 := (let z3 : Int32 := (if p1 < p0 then p1 else p0); z3)
def Q2 (p0 : Int32) (p1 : Int32) (h0 : Heap) (n0 : Nat) (v : Option Value) (h : Heap) (L : List Loc) : Prop := v = some (.int (f2 p0 p1)) ∧ Fr n0 L ∧ h = h0
abbrev rmm2 : Room := { frames := 0, cells := 0, slots := 0, locals := 0 }
abbrev P2 (p0 : Int32) (p1 : Int32) (h0 : Heap) (n0 : Nat) (s : State) : Outcome → State → Prop := fun o U' => ∃ v L, o = .returned v ∧ Q2 p0 p1 h0 n0 v U'.heap L ∧ FrameEnd s o U' L rmm2.cells rmm2.slots
theorem ef_2 (m : MethodId) (p0 : Int32) (p1 : Int32) : entryFrame m #[(.int p0), (.int p1)] 2 = mkF m 0 #[.val (.int p0), .val (.int p1)] [] := by first | (simp [entryFrame, mkF, argsToLocals, Value.category]; done) | rfl
set_option maxRecDepth 65536 in
set_option maxHeartbeats 40000000 in
theorem rm2 (l : Launch) (Z : State) (a0 : Array Value) (hw : ∀ d ∈ tables_1, d.before a0 Z = true) (ws : List Jvm.Cond) (p0 : Int32) (p1 : Int32) (h0 : Heap) (n0 : Nat) :
    MetFree l (⟨"java/lang/Math", "min", "(II)I"⟩ : MethodName) (head1 (Jvm.Cond.code (⟨"java/lang/Math", "min", "(II)I"⟩ : MethodName) jdk_29_method_69_code 2 (some .int) :: ws) rmm2) (fun a U => a = #[(.int p0), (.int p1)] ∧ Z.Warmed39 U.vm ∧ U.heap = h0) (fun _ _ _ _ _ => True) (fun _ U o U' => ∃ v L, o = .returned v ∧ Q2 p0 p1 h0 n0 v U'.heap L ∧ FrameEnd U o U' L rmm2.cells rmm2.slots) := by
  refine MetFree.of_bodySF (Jvm.Free.JP.mathPlain rfl (by decide +kernel)) hisR ?_
  intro p e s m args below meth c s₁ Bd hml0 hP hK
  obtain ⟨rfl, hZ, hh⟩ := hP
  have hx := Bd.exec
  have hby := Bd.bytes
  have hml : c.maxLocals = 2 := hml0
  have hown : s.vm.findClass "java/lang/Math" = some m.cls := findClass_of_methodNamed Bd.named
  have hnm := (name_of_methodNamed Bd.named Bd.method).1
  have X0 : Stand p l e rmm2 s m #[(.int p0), (.int p1)] below meth c s₁ [] 0 0 := Stand.of_body Bd
  have e0 : s₁.heap = h0 := by rw [← hh, Bd.state]; rfl
  have N0 := Fr.nil n0
  show Go p.tables e below (P2 p0 p1 h0 n0 s) (s₁.setTop (entryFrame m #[(.int p0), (.int p1)] 2))
  refine Go.back (fun t k => castTop (ef_2 m p0 p1) k) ?_
  show Go p.tables e below (P2 p0 p1 h0 n0 s) (s₁.setTop (mkF m 0 #[.val (.int p0), .val (.int p1)] []))
  have hf : f2 p0 p1 = (let z3 : Int32 := (if p1 < p0 then p1 else p0); z3) := rfl
  refine Go.back (fun t k => XS.iloadN X0.here hx rfl (hb hby d2_0) rfl  k) ?_
  show Go p.tables e below (P2 p0 p1 h0 n0 s) (s₁.setTop (mkF m 1 #[.val (.int p0), .val (.int p1)] [(.int p0)]))
  refine Go.back (fun t k => XS.iloadN X0.here hx rfl (hb hby d2_1) rfl  k) ?_
  show Go p.tables e below (P2 p0 p1 h0 n0 s) (s₁.setTop (mkF m 2 #[.val (.int p0), .val (.int p1)] [(.int p1), (.int p0)]))
  have J2 : ∀ (z3 : Int32) (hz3 : z3 = (if p1 < p0 then p1 else p0)), Go p.tables e below (P2 p0 p1 h0 n0 s) (s₁.setTop (mkF m 10 #[.val (.int p0), .val (.int p1)] [(.int z3)])) := by
    intro z3 hz3
    have r4 : f2 p0 p1 = z3 := by subst hz3; exact hf
    show Go p.tables e below (P2 p0 p1 h0 n0 s) (s₁.setTop (mkF m 10 #[.val (.int p0), .val (.int p1)] [(.int z3)]))
    exact Go.retI X0 hx Bd.returns (hb hby d2_10) Bd.notSynchronized ⟨by rw [r4], N0, e0⟩ (by decide) (by decide)
  have r5 : (if p1 < p0 then p1 else p0) = (if p1 < p0 then p1 else p0) := rfl
  by_cases hc1 : p1 < p0
  · have r6 := r5.trans (if_pos hc1)
    refine Go.back (fun t k => XS.icmpYes X0.here hx rfl (pc0 := 2) (pc' := 9) rfl (hb hby d2_2) rfl (tlt hc1).2.2.1 (by decide) (by decide) k) ?_
    show Go p.tables e below (P2 p0 p1 h0 n0 s) (s₁.setTop (mkF m 9 #[.val (.int p0), .val (.int p1)] []))
    refine Go.back (fun t k => XS.iloadN X0.here hx rfl (hb hby d2_9) rfl  k) ?_
    show Go p.tables e below (P2 p0 p1 h0 n0 s) (s₁.setTop (mkF m 10 #[.val (.int p0), .val (.int p1)] [(.int p1)]))
    exact J2 p1 r6.symm
  · have r7 := r5.trans (if_neg hc1)
    refine Go.back (fun t k => XS.icmpNo X0.here hx rfl (hb hby d2_2) rfl (flt hc1).2.2.1 k) ?_
    show Go p.tables e below (P2 p0 p1 h0 n0 s) (s₁.setTop (mkF m 5 #[.val (.int p0), .val (.int p1)] []))
    refine Go.back (fun t k => XS.iloadN X0.here hx rfl (hb hby d2_5) rfl  k) ?_
    show Go p.tables e below (P2 p0 p1 h0 n0 s) (s₁.setTop (mkF m 6 #[.val (.int p0), .val (.int p1)] [(.int p0)]))
    refine Go.back (fun t k => XS.goto X0.here hx rfl (pc0 := 6) (pc' := 10) rfl (hb hby d2_6) (by decide) (by decide) k) ?_
    show Go p.tables e below (P2 p0 p1 h0 n0 s) (s₁.setTop (mkF m 10 #[.val (.int p0), .val (.int p1)] [(.int p0)]))
    exact J2 p0 r7.symm
def own_pk (xs : List Int32) : Nat → Int32 → Int32 → Int32 → List Int32 → List Int32 → List Int64 → Int32 × List Int32 × List Int32 × List Int64
  | 0, _, w, _, W, S, M => (w, W, S, M)
  | n + 1, i, w, u, W, S, M =>
    let b : Int32 := ((32 : Int32) - (f6 (f5 (0 : Int32) ((List.getD xs (i).toNatClampNeg (0 : Int32)) - (1 : Int32)))))
    let w' : Int32 := (if (64 : Int32) < (u + b) then (w + (1 : Int32)) else w)
    let u' : Int32 := (if (64 : Int32) < (u + b) then (0 : Int32) else u)
    own_pk xs n (i + (1 : Int32)) w' (u' + b) (List.set W (i).toNatClampNeg (w' - (1 : Int32))) (List.set S (i).toNatClampNeg u') (List.set M (i).toNatClampNeg (((1 : Int64) <<< (b &&& 0x3f).toInt64) - (1 : Int64)))
def own_pkr (xs : List Int32) : Int32 × List Int32 × List Int32 × List Int64 := own_pk xs 3 (0 : Int32) (1 : Int32) (0 : Int32) [(0 : Int32), (0 : Int32), (0 : Int32)] [(0 : Int32), (0 : Int32), (0 : Int32)] [(0 : Int64), (0 : Int64), (0 : Int64)]
def own_ib (LEN : Nat) (n : Nat) (i : Int32) (W S : List Int32) (M : List Int64) : Prop := 0 ≤ i.toInt ∧ i.toInt + n = LEN ∧ LEN < 1000 ∧ W.length = LEN ∧ S.length = LEN ∧ M.length = LEN
theorem own_ib_nn {LEN n : Nat} {i : Int32} {W S : List Int32} {M : List Int64} (h : own_ib LEN (n + 1) i W S M) : ¬ i < (0 : Int32) := by
  rw [Int32.lt_iff_toInt_lt]; have := h.1; have l0 : (0 : Int32).toInt = 0 := rfl; omega
theorem own_ib_in {LEN n : Nat} {i : Int32} {W S : List Int32} {M : List Int64} (h : own_ib LEN (n + 1) i W S M) {k : Nat} (hk : k = LEN) : i.toNatClampNeg < k := by
  have := h.1; have := h.2.1; simp only [Int32.toNatClampNeg]; omega
theorem own_ib_z {LEN : Nat} {i q : Int32} {W S : List Int32} {M : List Int64} (h : own_ib LEN 0 i W S M) (hq : q.toInt = LEN) : ¬ i < q := by
  rw [Int32.lt_iff_toInt_lt]; have := h.2.1; omega
theorem own_ib_s {LEN n : Nat} {i q : Int32} {W S : List Int32} {M : List Int64} (h : own_ib LEN (n + 1) i W S M) (hq : q.toInt = LEN) : i < q := by
  rw [Int32.lt_iff_toInt_lt]; have := h.2.1; omega
theorem own_ib_next {LEN n : Nat} {i : Int32} {W S W' S' : List Int32} {M M' : List Int64} (h : own_ib LEN (n + 1) i W S M) (h1 : W'.length = W.length) (h2 : S'.length = S.length) (h3 : M'.length = M.length) : own_ib LEN n (i + (1 : Int32)) W' S' M' := by
  have e := c_iadd i 1; have r := rng32 (i + 1); have l1 : (1 : Int32).toInt = 1 := rfl
  have := h.1; have := h.2.1; have := h.2.2.1
  rw [l1] at e
  exact ⟨by omega, by omega, by omega, by rw [h1]; exact h.2.2.2.1, by rw [h2]; exact h.2.2.2.2.1, by rw [h3]; exact h.2.2.2.2.2⟩
theorem own_l0 : (0 : Int32).toInt = 0 := rfl
theorem own_l1 : (1 : Int32).toInt = 1 := rfl
def own_hI (n : Int) : Int :=
  let a : Int := if n < 65536 then n else n / 65536
  let c : Int := if n < 65536 then 31 else 31 - 16
  let a2 : Int := if a < 256 then a else a / 256
  let c2 : Int := if a < 256 then c else c - 8
  let a3 : Int := if a2 < 16 then a2 else a2 / 16
  let c3 : Int := if a2 < 16 then c2 else c2 - 4
  let a4 : Int := if a3 < 4 then a3 else a3 / 4
  let c4 : Int := if a3 < 4 then c3 else c3 - 2
  c4 - a4 / 2
theorem own_shr (x q : Int32) (k : Nat) (P : Int) (hk : q.toBitVec.toNat % 32 = k) (h0 : 0 < k) (hP : ((2 ^ k : Nat) : Int) = P) (h : 0 ≤ x.toInt) : ((x.toUInt32 >>> (q &&& 31).toUInt32).toInt32).toInt = x.toInt / P := by
  rw [c_iushr x q k hk h0, hP, Int.emod_eq_of_lt h (by have := (rng32 x).2; omega)]
theorem own_st (x q T : Int32) (k : Nat) (P : Int) (hk : q.toBitVec.toNat % 32 = k) (h0 : 0 < k) (hP : ((2 ^ k : Nat) : Int) = P) (hT : T.toInt = P) (h : 0 ≤ x.toInt) : (if x < T then x else (x.toUInt32 >>> (q &&& 31).toUInt32).toInt32).toInt = if x.toInt < P then x.toInt else x.toInt / P := by
  simp only [Int32.lt_iff_toInt_lt, hT]
  split
  · rfl
  · exact own_shr x q k P hk h0 hP h
theorem own_sc (x T c d : Int32) (P D : Int) (hT : T.toInt = P) (hd : d.toInt = -D) (hD : 0 ≤ D) (h1 : 0 ≤ c.toInt - D) : (if x < T then c else c + d).toInt = if x.toInt < P then c.toInt else c.toInt - D := by
  simp only [Int32.lt_iff_toInt_lt, hT]
  split
  · rfl
  · have e := c_iadd c d; have r := rng32 (c + d); have r2 := rng32 c; rw [hd] at e; omega
theorem own_nlz (v : Int32) (hv : 0 < v.toInt) : (f6 v).toInt = own_hI v.toInt := by
  have c0 : (0 : Int32) < v := by rw [Int32.lt_iff_toInt_lt, own_l0]; exact hv
  unfold f6 own_hI
  rw [if_pos c0]
  dsimp only
  have s1 := own_st v 16 65536 16 65536 (by decide) (by decide) rfl rfl (by omega)
  have t1 := own_sc v 65536 31 (-16) 65536 16 rfl rfl (by decide) (by decide)
  rw [show (31 : Int32).toInt = 31 from rfl] at t1
  generalize (if v < (65536 : Int32) then v else (v.toUInt32 >>> ((16 : Int32) &&& 31).toUInt32).toInt32) = x1 at *
  generalize (if v < (65536 : Int32) then (31 : Int32) else (31 : Int32) + (-16 : Int32)) = y1 at *
  have b1 : 0 ≤ x1.toInt := by rw [s1]; split <;> omega
  have s2 := own_st x1 8 256 8 256 (by decide) (by decide) rfl rfl b1
  have t2 := own_sc x1 256 y1 (-8) 256 8 rfl rfl (by decide) (by rw [t1]; split <;> omega)
  generalize (if x1 < (256 : Int32) then x1 else (x1.toUInt32 >>> ((8 : Int32) &&& 31).toUInt32).toInt32) = x2 at *
  generalize (if x1 < (256 : Int32) then y1 else y1 + (-8 : Int32)) = y2 at *
  have b2 : 0 ≤ x2.toInt := by rw [s2]; split <;> omega
  have s3 := own_st x2 4 16 4 16 (by decide) (by decide) rfl rfl b2
  have t3 := own_sc x2 16 y2 (-4) 16 4 rfl rfl (by decide) (by rw [t2, t1]; repeat' split <;> omega)
  generalize (if x2 < (16 : Int32) then x2 else (x2.toUInt32 >>> ((4 : Int32) &&& 31).toUInt32).toInt32) = x3 at *
  generalize (if x2 < (16 : Int32) then y2 else y2 + (-4 : Int32)) = y3 at *
  have b3 : 0 ≤ x3.toInt := by rw [s3]; split <;> omega
  have s4 := own_st x3 2 4 2 4 (by decide) (by decide) rfl rfl b3
  have t4 := own_sc x3 4 y3 (-2) 4 2 rfl rfl (by decide) (by rw [t3, t2, t1]; repeat' split <;> omega)
  generalize (if x3 < (4 : Int32) then x3 else (x3.toUInt32 >>> ((2 : Int32) &&& 31).toUInt32).toInt32) = x4 at *
  generalize (if x3 < (4 : Int32) then y3 else y3 + (-2 : Int32)) = y4 at *
  have b4 : 0 ≤ x4.toInt := by rw [s4]; split <;> omega
  have s5 := own_shr x4 1 1 2 (by decide) (by decide) rfl b4
  have e := c_isub y4 ((x4.toUInt32 >>> ((1 : Int32) &&& 31).toUInt32).toInt32)
  have r := rng32 (y4 - ((x4.toUInt32 >>> ((1 : Int32) &&& 31).toUInt32).toInt32))
  rw [s5] at e
  rw [← t1, ← s1, ← t2, ← s2, ← t3, ← s3, ← t4, ← s4]
  have lo : 0 ≤ y4.toInt ∧ y4.toInt ≤ 31 := by rw [t4, t3, t2, t1]; repeat' split <;> omega
  have hi := (rng32 x4).2
  omega
theorem own_hI_rng (n : Int) (h : 0 < n) (h2 : n < 2147483648) : 1 ≤ own_hI n ∧ own_hI n ≤ 31 := by
  unfold own_hI
  dsimp only
  repeat' split
  all_goals omega
theorem own_max (a : Int32) : (f5 (0 : Int32) a).toInt = if 0 < a.toInt then a.toInt else 0 := by
  unfold f5; simp only [Int32.lt_iff_toInt_lt, own_l0]; split <;> rfl
/-- the bits of a size, its least one taken off -/
def own_bw (x : Int32) : Int32 := ((32 : Int32) - (f6 (f5 (0 : Int32) (x - (1 : Int32)))))
theorem own_bw0 (x : Int32) (h : ¬ 0 < (x - (1 : Int32)).toInt) : own_bw x = (0 : Int32) := by
  have m := own_max (x - (1 : Int32))
  rw [if_neg h] at m
  have e : f5 (0 : Int32) (x - (1 : Int32)) = (0 : Int32) := Int32.toInt_inj.mp m
  unfold own_bw; rw [e]; decide +kernel
theorem own_bw1 (x : Int32) (h : 0 < (x - (1 : Int32)).toInt) : (own_bw x).toInt = 32 - own_hI (x - (1 : Int32)).toInt := by
  have m := own_max (x - (1 : Int32))
  rw [if_pos h] at m
  have n := own_nlz (f5 (0 : Int32) (x - (1 : Int32))) (by omega)
  rw [m] at n
  have g := own_hI_rng _ h (by have := (rng32 (x - (1 : Int32))).2; omega)
  unfold own_bw
  have e := c_isub (32 : Int32) (f6 (f5 (0 : Int32) (x - (1 : Int32))))
  have r := rng32 ((32 : Int32) - (f6 (f5 (0 : Int32) (x - (1 : Int32)))))
  rw [n, show (32 : Int32).toInt = 32 from rfl] at e
  omega
theorem own_bw_rng (x : Int32) : 0 ≤ (own_bw x).toInt ∧ (own_bw x).toInt ≤ 31 := by
  by_cases h : 0 < (x - (1 : Int32)).toInt
  · have g := own_hI_rng _ h (by have := (rng32 (x - (1 : Int32))).2; omega)
    rw [own_bw1 x h]; omega
  · rw [own_bw0 x h]; decide
/-- how far the packing has come behind j fields: at least two fields lie in every word that is full -/
def own_inv (j : Nat) (u w : Int32) : Prop := j ≤ 5 ∧ ((j = 0 ∧ u.toInt = 0 ∧ w.toInt = 1) ∨ ∃ k : Int, 1 ≤ k ∧ 0 ≤ u.toInt ∧ u.toInt ≤ 31 * k ∧ 1 ≤ w.toInt ∧ 2 * (w.toInt - 1) + k ≤ j)
theorem own_inv0 : own_inv 0 (0 : Int32) (1 : Int32) := ⟨by decide, Or.inl ⟨rfl, rfl, rfl⟩⟩
theorem own_inv_bd {j : Nat} {u w : Int32} (h : own_inv j u w) : 0 ≤ u.toInt ∧ u.toInt ≤ 155 ∧ 1 ≤ w.toInt ∧ 2 * w.toInt ≤ j + 2 ∧ w.toInt ≤ 3 ∧ (0 < j → 2 * w.toInt ≤ j + 1) := by
  obtain ⟨h5, h | ⟨k, h1, h2, h3, h4, h6⟩⟩ := h
  · omega
  · omega
theorem own_inv_step {j : Nat} {u w b : Int32} (h : own_inv j u w) (hb : 0 ≤ b.toInt ∧ b.toInt ≤ 31) (hj : j ≤ 4) : own_inv (j + 1) ((if (64 : Int32) < (u + b) then (0 : Int32) else u) + b) (if (64 : Int32) < (u + b) then (w + (1 : Int32)) else w) := by
  have d := own_inv_bd h
  have e := c_iadd u b; have r := rng32 (u + b)
  have eu : (u + b).toInt = u.toInt + b.toInt := by omega
  have l64 : (64 : Int32).toInt = 64 := rfl
  refine ⟨by omega, ?_⟩
  by_cases c : (64 : Int32) < (u + b)
  · simp only [if_pos c]
    rw [Int32.lt_iff_toInt_lt, l64, eu] at c
    have e0 : ((0 : Int32) + b).toInt = b.toInt := by rw [Int32.zero_add]
    have e1 := c_iadd w 1; have r1 := rng32 (w + 1); rw [own_l1] at e1
    rw [e0]
    obtain ⟨-, h | ⟨k, h1, h2, h3, h4, h6⟩⟩ := h
    · omega
    · exact Or.inr ⟨1, by omega, by omega, by omega, by omega, by omega⟩
  · simp only [if_neg c]
    rw [eu]
    obtain ⟨-, h | ⟨k, h1, h2, h3, h4, h6⟩⟩ := h
    · exact Or.inr ⟨1, by omega, by omega, by omega, by omega, by omega⟩
    · exact Or.inr ⟨k + 1, by omega, by omega, by omega, by omega, by omega⟩
theorem own_sub1 {w : Int32} (h : 1 ≤ w.toInt) : (w - (1 : Int32)).toInt = w.toInt - 1 := by
  have e := c_isub w 1; have r := rng32 (w - 1); have r2 := rng32 w; rw [own_l1] at e; omega
theorem own_pk_eq (xs : List Int32) (n : Nat) (i w u : Int32) (W S : List Int32) (M : List Int64) : own_pk xs (n + 1) i w u W S M = own_pk xs n (i + (1 : Int32)) (if (64 : Int32) < (u + own_bw (List.getD xs (i).toNatClampNeg (0 : Int32))) then (w + (1 : Int32)) else w) ((if (64 : Int32) < (u + own_bw (List.getD xs (i).toNatClampNeg (0 : Int32))) then (0 : Int32) else u) + own_bw (List.getD xs (i).toNatClampNeg (0 : Int32))) (List.set W (i).toNatClampNeg ((if (64 : Int32) < (u + own_bw (List.getD xs (i).toNatClampNeg (0 : Int32))) then (w + (1 : Int32)) else w) - (1 : Int32))) (List.set S (i).toNatClampNeg (if (64 : Int32) < (u + own_bw (List.getD xs (i).toNatClampNeg (0 : Int32))) then (0 : Int32) else u)) (List.set M (i).toNatClampNeg (((1 : Int64) <<< (own_bw (List.getD xs (i).toNatClampNeg (0 : Int32)) &&& 0x3f).toInt64) - (1 : Int64))) := rfl
theorem own_pk_zero (xs : List Int32) (i w u : Int32) (W S : List Int32) (M : List Int64) : own_pk xs 0 i w u W S M = (w, W, S, M) := rfl
theorem d3_0 : decode prog_122_method_1_code 0 = .ok (.aload_n 0, 1) := by decide +kernel
theorem d3_1 : decode prog_122_method_1_code 1 = .ok (.invokespecial 1, 3) := by decide +kernel
theorem d3_4 : decode prog_122_method_1_code 4 = .ok (.aload_n 0, 1) := by decide +kernel
theorem d3_5 : decode prog_122_method_1_code 5 = .ok (.aload_n 1, 1) := by decide +kernel
theorem d3_6 : decode prog_122_method_1_code 6 = .ok (.arraylength, 1) := by decide +kernel
theorem d3_7 : decode prog_122_method_1_code 7 = .ok (.newarray .int, 2) := by decide +kernel
theorem d3_9 : decode prog_122_method_1_code 9 = .ok (.putfield 7, 3) := by decide +kernel
theorem d3_12 : decode prog_122_method_1_code 12 = .ok (.aload_n 0, 1) := by decide +kernel
theorem d3_13 : decode prog_122_method_1_code 13 = .ok (.aload_n 1, 1) := by decide +kernel
theorem d3_14 : decode prog_122_method_1_code 14 = .ok (.arraylength, 1) := by decide +kernel
theorem d3_15 : decode prog_122_method_1_code 15 = .ok (.newarray .int, 2) := by decide +kernel
theorem d3_17 : decode prog_122_method_1_code 17 = .ok (.putfield 13, 3) := by decide +kernel
theorem d3_20 : decode prog_122_method_1_code 20 = .ok (.aload_n 0, 1) := by decide +kernel
theorem d3_21 : decode prog_122_method_1_code 21 = .ok (.aload_n 1, 1) := by decide +kernel
theorem d3_22 : decode prog_122_method_1_code 22 = .ok (.arraylength, 1) := by decide +kernel
theorem d3_23 : decode prog_122_method_1_code 23 = .ok (.newarray .long, 2) := by decide +kernel
theorem d3_25 : decode prog_122_method_1_code 25 = .ok (.putfield 16, 3) := by decide +kernel
theorem d3_28 : decode prog_122_method_1_code 28 = .ok (.iconst 1, 1) := by decide +kernel
theorem d3_29 : decode prog_122_method_1_code 29 = .ok (.istore_n 2, 1) := by decide +kernel
theorem d3_30 : decode prog_122_method_1_code 30 = .ok (.iconst 0, 1) := by decide +kernel
theorem d3_31 : decode prog_122_method_1_code 31 = .ok (.istore_n 3, 1) := by decide +kernel
theorem d3_32 : decode prog_122_method_1_code 32 = .ok (.iconst 0, 1) := by decide +kernel
theorem d3_33 : decode prog_122_method_1_code 33 = .ok (.istore 4, 2) := by decide +kernel
theorem d3_35 : decode prog_122_method_1_code 35 = .ok (.iload 4, 2) := by decide +kernel
theorem d3_37 : decode prog_122_method_1_code 37 = .ok (.aload_n 1, 1) := by decide +kernel
theorem d3_38 : decode prog_122_method_1_code 38 = .ok (.arraylength, 1) := by decide +kernel
theorem d3_39 : decode prog_122_method_1_code 39 = .ok (.if_icmp .ge 77, 3) := by decide +kernel
theorem d3_42 : decode prog_122_method_1_code 42 = .ok (.bipush 32, 2) := by decide +kernel
theorem d3_44 : decode prog_122_method_1_code 44 = .ok (.iconst 0, 1) := by decide +kernel
theorem d3_45 : decode prog_122_method_1_code 45 = .ok (.aload_n 1, 1) := by decide +kernel
theorem d3_46 : decode prog_122_method_1_code 46 = .ok (.iload 4, 2) := by decide +kernel
theorem d3_48 : decode prog_122_method_1_code 48 = .ok (.iaload, 1) := by decide +kernel
theorem d3_49 : decode prog_122_method_1_code 49 = .ok (.iconst 1, 1) := by decide +kernel
theorem d3_50 : decode prog_122_method_1_code 50 = .ok (.isub, 1) := by decide +kernel
theorem d3_51 : decode prog_122_method_1_code 51 = .ok (.invokestatic 20, 3) := by decide +kernel
theorem d3_54 : decode prog_122_method_1_code 54 = .ok (.invokestatic 26, 3) := by decide +kernel
theorem d3_57 : decode prog_122_method_1_code 57 = .ok (.isub, 1) := by decide +kernel
theorem d3_58 : decode prog_122_method_1_code 58 = .ok (.istore 5, 2) := by decide +kernel
theorem d3_60 : decode prog_122_method_1_code 60 = .ok (.iload_n 3, 1) := by decide +kernel
theorem d3_61 : decode prog_122_method_1_code 61 = .ok (.iload 5, 2) := by decide +kernel
theorem d3_63 : decode prog_122_method_1_code 63 = .ok (.iadd, 1) := by decide +kernel
theorem d3_64 : decode prog_122_method_1_code 64 = .ok (.bipush 64, 2) := by decide +kernel
theorem d3_66 : decode prog_122_method_1_code 66 = .ok (.if_icmp .le 8, 3) := by decide +kernel
theorem d3_69 : decode prog_122_method_1_code 69 = .ok (.iinc 2 1, 3) := by decide +kernel
theorem d3_72 : decode prog_122_method_1_code 72 = .ok (.iconst 0, 1) := by decide +kernel
theorem d3_73 : decode prog_122_method_1_code 73 = .ok (.istore_n 3, 1) := by decide +kernel
theorem d3_74 : decode prog_122_method_1_code 74 = .ok (.aload_n 0, 1) := by decide +kernel
theorem d3_75 : decode prog_122_method_1_code 75 = .ok (.getfield 7, 3) := by decide +kernel
theorem d3_78 : decode prog_122_method_1_code 78 = .ok (.iload 4, 2) := by decide +kernel
theorem d3_80 : decode prog_122_method_1_code 80 = .ok (.iload_n 2, 1) := by decide +kernel
theorem d3_81 : decode prog_122_method_1_code 81 = .ok (.iconst 1, 1) := by decide +kernel
theorem d3_82 : decode prog_122_method_1_code 82 = .ok (.isub, 1) := by decide +kernel
theorem d3_83 : decode prog_122_method_1_code 83 = .ok (.iastore, 1) := by decide +kernel
theorem d3_84 : decode prog_122_method_1_code 84 = .ok (.aload_n 0, 1) := by decide +kernel
theorem d3_85 : decode prog_122_method_1_code 85 = .ok (.getfield 13, 3) := by decide +kernel
theorem d3_88 : decode prog_122_method_1_code 88 = .ok (.iload 4, 2) := by decide +kernel
theorem d3_90 : decode prog_122_method_1_code 90 = .ok (.iload_n 3, 1) := by decide +kernel
theorem d3_91 : decode prog_122_method_1_code 91 = .ok (.iastore, 1) := by decide +kernel
theorem d3_92 : decode prog_122_method_1_code 92 = .ok (.aload_n 0, 1) := by decide +kernel
theorem d3_93 : decode prog_122_method_1_code 93 = .ok (.getfield 16, 3) := by decide +kernel
theorem d3_96 : decode prog_122_method_1_code 96 = .ok (.iload 4, 2) := by decide +kernel
theorem d3_98 : decode prog_122_method_1_code 98 = .ok (.lconst 1, 1) := by decide +kernel
theorem d3_99 : decode prog_122_method_1_code 99 = .ok (.iload 5, 2) := by decide +kernel
theorem d3_101 : decode prog_122_method_1_code 101 = .ok (.lshl, 1) := by decide +kernel
theorem d3_102 : decode prog_122_method_1_code 102 = .ok (.lconst 1, 1) := by decide +kernel
theorem d3_103 : decode prog_122_method_1_code 103 = .ok (.lsub, 1) := by decide +kernel
theorem d3_104 : decode prog_122_method_1_code 104 = .ok (.lastore, 1) := by decide +kernel
theorem d3_105 : decode prog_122_method_1_code 105 = .ok (.iload_n 3, 1) := by decide +kernel
theorem d3_106 : decode prog_122_method_1_code 106 = .ok (.iload 5, 2) := by decide +kernel
theorem d3_108 : decode prog_122_method_1_code 108 = .ok (.iadd, 1) := by decide +kernel
theorem d3_109 : decode prog_122_method_1_code 109 = .ok (.istore_n 3, 1) := by decide +kernel
theorem d3_110 : decode prog_122_method_1_code 110 = .ok (.iinc 4 1, 3) := by decide +kernel
theorem d3_113 : decode prog_122_method_1_code 113 = .ok (.goto (-78), 3) := by decide +kernel
theorem d3_116 : decode prog_122_method_1_code 116 = .ok (.aload_n 0, 1) := by decide +kernel
theorem d3_117 : decode prog_122_method_1_code 117 = .ok (.iload_n 2, 1) := by decide +kernel
theorem d3_118 : decode prog_122_method_1_code 118 = .ok (.putfield 34, 3) := by decide +kernel
theorem d3_121 : decode prog_122_method_1_code 121 = .ok (.return_, 1) := by decide +kernel
def Q3 (Z : State) (p0 : Addr) (p1 : Addr) (xs : List Int32) (h0 : Heap) (n0 : Nat) (v : Option Value) (h : Heap) (L : List Loc) : Prop := v = none ∧ Fr n0 L ∧ Keep h0 h [p0] ∧ ∃ o1 o2 o3 : Addr, h0.size ≤ o1 ∧ h0.size ≤ o2 ∧ h0.size ≤ o3 ∧ o1 ≠ o2 ∧ o1 ≠ o3 ∧ o2 ≠ o3 ∧ Exa Z h p0 "com/example/onward/onward/explore/Packing" ∧ Fld Z h p0 "com/example/onward/onward/explore/Packing" "word" "[I" (.ref o1) ∧ Fld Z h p0 "com/example/onward/onward/explore/Packing" "shift" "[I" (.ref o2) ∧ Fld Z h p0 "com/example/onward/onward/explore/Packing" "mask" "[J" (.ref o3) ∧ ArL Z h o1 .int (List.map Value.int (own_pkr xs).2.1) ∧ ArL Z h o2 .int (List.map Value.int (own_pkr xs).2.2.1) ∧ ArL Z h o3 .long (List.map Value.long (own_pkr xs).2.2.2) ∧ Fld Z h p0 "com/example/onward/onward/explore/Packing" "words" "I" (.int (own_pkr xs).1)
abbrev rmm3 : Room := { frames := 1, cells := 3, slots := 9, locals := 14 }
abbrev P3 (Z : State) (p0 : Addr) (p1 : Addr) (xs : List Int32) (h0 : Heap) (n0 : Nat) (s : State) : Outcome → State → Prop := fun o U' => ∃ v L, o = .returned v ∧ Q3 Z p0 p1 xs h0 n0 v U'.heap L ∧ FrameEnd s o U' L rmm3.cells rmm3.slots
theorem pn_3 : plainName "com/example/onward/onward/explore/Packing" = true := by first | (simp [plainName, overriddenIn]; done) | decide +kernel
theorem ef_3 (m : MethodId) (p0 : Addr) (p1 : Addr) : entryFrame m #[(.ref p0), (.ref p1)] 6 = mkF m 0 #[.val (.ref p0), .val (.ref p1), .unset, .unset, .unset, .unset] [] := by first | (simp [entryFrame, mkF, argsToLocals, Value.category]; done) | rfl
set_option maxRecDepth 65536 in
set_option maxHeartbeats 40000000 in
theorem rm3 (l : Launch) (Z : State) (a0 : Array Value) (hw : ∀ d ∈ tables_1, d.before a0 Z = true) (ws : List Jvm.Cond) (p0 : Addr) (p1 : Addr) (xs : List Int32) (h0 : Heap) (n0 : Nat) (Z0 : n0 ≤ h0.size) (H0 : Exa Z h0 p0 "com/example/onward/onward/explore/Packing") (H1 : Fld Z h0 p0 "com/example/onward/onward/explore/Packing" "word" "[I" .null) (H2 : Fld Z h0 p0 "com/example/onward/onward/explore/Packing" "shift" "[I" .null) (H3 : Fld Z h0 p0 "com/example/onward/onward/explore/Packing" "mask" "[J" .null) (H4 : Fld Z h0 p0 "com/example/onward/onward/explore/Packing" "words" "I" (.int (0 : Int32))) (H5 : ArL Z h0 p1 .int (List.map Value.int xs)) (H6 : n0 ≤ p0) (H7 : p0 ≠ p1) (hl : xs.length = 3) :
    MetFree l (⟨"com/example/onward/onward/explore/Packing", "<init>", "([I)V"⟩ : MethodName) (head1 (Jvm.Cond.code (⟨"com/example/onward/onward/explore/Packing", "<init>", "([I)V"⟩ : MethodName) prog_122_method_1_code 6 none :: ws) rmm3) (fun a U => a = #[(.ref p0), (.ref p1)] ∧ Z.Warmed39 U.vm ∧ U.heap = h0) (fun _ _ _ _ _ => True) (fun _ U o U' => ∃ v L, o = .returned v ∧ Q3 Z p0 p1 xs h0 n0 v U'.heap L ∧ FrameEnd U o U' L rmm3.cells rmm3.slots) := by
  refine MetFree.of_bodySF (plainFor_of_name pn_3) hisR ?_
  intro p e s m args below meth c s₁ Bd hml0 hP hK
  obtain ⟨rfl, hZ, hh⟩ := hP
  have hx := Bd.exec
  have hby := Bd.bytes
  have hml : c.maxLocals = 6 := hml0
  have hown : s.vm.findClass "com/example/onward/onward/explore/Packing" = some m.cls := findClass_of_methodNamed Bd.named
  have hnm := (name_of_methodNamed Bd.named Bd.method).1
  have X0 : Stand p l e rmm3 s m #[(.ref p0), (.ref p1)] below meth c s₁ [] 0 0 := Stand.of_body Bd
  have e0 : s₁.heap = h0 := by rw [← hh, Bd.state]; rfl
  have N0 := Fr.nil n0
  show Go p.tables e below (P3 Z p0 p1 xs h0 n0 s) (s₁.setTop (entryFrame m #[(.ref p0), (.ref p1)] 6))
  refine Go.back (fun t k => castTop (ef_3 m p0 p1) k) ?_
  show Go p.tables e below (P3 Z p0 p1 xs h0 n0 s) (s₁.setTop (mkF m 0 #[.val (.ref p0), .val (.ref p1), .unset, .unset, .unset, .unset] []))
  refine Go.back (fun t k => XS.aloadN X0.here hx rfl (hb hby d3_0) rfl rfl  k) ?_
  show Go p.tables e below (P3 Z p0 p1 xs h0 n0 s) (s₁.setTop (mkF m 1 #[.val (.ref p0), .val (.ref p1), .unset, .unset, .unset, .unset] [(.ref p0)]))
  obtain ⟨T1, X1, e1, st1⟩ := initO X0 hx hZ hown (hw _ (List.mem_of_getElem? (i := 17) rfl)) (hw _ (List.mem_of_getElem? (i := 18) rfl)) (hw _ (List.mem_of_getElem? (i := 19) rfl)) e0 (g := (mkF m 1 #[.val (.ref p0), .val (.ref p1), .unset, .unset, .unset, .unset] [(.ref p0)])) rfl (by rw [hml]; rfl) rfl (hb hby d3_1) (by decide) (W := 0) (by show 2 * 0 + _ ≤ _; exact Nat.le_of_eq rfl) (by decide)
  refine Go.back st1 ?_
  show Go p.tables e below (P3 Z p0 p1 xs h0 n0 s) (T1.setTop (mkF m 4 #[.val (.ref p0), .val (.ref p1), .unset, .unset, .unset, .unset] []))
  refine Go.back (fun t k => XS.aloadN X1.here hx rfl (hb hby d3_4) rfl rfl  k) ?_
  show Go p.tables e below (P3 Z p0 p1 xs h0 n0 s) (T1.setTop (mkF m 5 #[.val (.ref p0), .val (.ref p1), .unset, .unset, .unset, .unset] [(.ref p0)]))
  refine Go.back (fun t k => XS.aloadN X1.here hx rfl (hb hby d3_5) rfl rfl  k) ?_
  show Go p.tables e below (P3 Z p0 p1 xs h0 n0 s) (T1.setTop (mkF m 6 #[.val (.ref p0), .val (.ref p1), .unset, .unset, .unset, .unset] [(.ref p1), (.ref p0)]))
  obtain ⟨cl2, Ar2, S2⟩ := H5.len
  refine Go.back (fun t k => X1.arraylength hx (by rw [e1]; exact Ar2.1) (State.isArrayOf_alike hZ.alike Ar2.2.1) (g := (mkF m 6 #[.val (.ref p0), .val (.ref p1), .unset, .unset, .unset, .unset] [(.ref p1), (.ref p0)])) rfl rfl (hb hby d3_6) t k) ?_
  rw [S2]
  rw [List.length_map, hl]
  show Go p.tables e below (P3 Z p0 p1 xs h0 n0 s) (T1.setTop (mkF m 7 #[.val (.ref p0), .val (.ref p1), .unset, .unset, .unset, .unset] [(.int (3 : Int32)), (.ref p0)]))
  obtain ⟨T3, h3, k3, X3, e3, E3, A3, st3⟩ := newP X1 hx hZ (hw _ (List.mem_of_getElem? (i := 0) rfl)) e1 (g := (mkF m 7 #[.val (.ref p0), .val (.ref p1), .unset, .unset, .unset, .unset] [(.int (3 : Int32)), (.ref p0)])) rfl (hb hby d3_7) rfl (by decide) (cap := 3) (by decide) (by decide) (by decide) (by decide)
  obtain ⟨b3, g3⟩ : ∃ z, z = h0.size := ⟨_, rfl⟩
  rw [← g3] at A3 st3
  have ne4 : p0 ≠ b3 := Nat.ne_of_lt (Nat.lt_of_lt_of_le H0.lt (Nat.le_of_eq g3.symm))
  have ne5 : p1 ≠ b3 := Nat.ne_of_lt (Nat.lt_of_lt_of_le H5.lt (Nat.le_of_eq g3.symm))
  have g6 : n0 ≤ b3 := Nat.le_trans Z0 (Nat.le_of_eq g3.symm)
  have sz7 : h0.size ≤ b3 := Nat.le_trans (Keep.refl h0 [p0]).1 (Nat.le_of_eq g3.symm)
  have F8 : Exa Z h3 p0 "com/example/onward/onward/explore/Packing" := H0.ext E3
  have F9 : Fld Z h3 p0 "com/example/onward/onward/explore/Packing" "word" "[I" .null := H1.ext E3
  have F10 : Fld Z h3 p0 "com/example/onward/onward/explore/Packing" "shift" "[I" .null := H2.ext E3
  have F11 : Fld Z h3 p0 "com/example/onward/onward/explore/Packing" "mask" "[J" .null := H3.ext E3
  have F12 : Fld Z h3 p0 "com/example/onward/onward/explore/Packing" "words" "I" (.int (0 : Int32)) := H4.ext E3
  have F13 : ArL Z h3 p1 .int (List.map Value.int xs) := H5.ext E3
  have F14 : n0 ≤ h3.size := Nat.le_trans Z0 E3.1
  have F15 : Keep h0 h3 [p0] := (Keep.refl h0 [p0]).ext E3
  have F16 : ArL Z h3 b3 .int [(.int (0 : Int32)), (.int (0 : Int32)), (.int (0 : Int32))] := ArL.new (ty := .int) A3 (n := 3) rfl
  refine Go.back st3 ?_
  show Go p.tables e below (P3 Z p0 p1 xs h0 n0 s) (T3.setTop (mkF m 9 #[.val (.ref p0), .val (.ref p1), .unset, .unset, .unset, .unset] [(.ref b3), (.ref p0)]))
  obtain ⟨T17, h17, X17, e17, W17, st17⟩ := putF X3 hx hZ hown (host := "") (Or.inl (hw _ (List.mem_of_getElem? (i := 20) rfl))) Via.refl e3 F9 F8 (Or.inr ⟨(hw _ (List.mem_of_getElem? (i := 21) rfl)), rfl, hnm⟩) (hw _ (List.mem_of_getElem? (i := 12) rfl)) (ty := (.array .int)) (by decide) rfl rfl (g := (mkF m 9 #[.val (.ref p0), .val (.ref p1), .unset, .unset, .unset, .unset] [(.ref b3), (.ref p0)])) rfl rfl (hb hby d3_9)
  have F18 : Exa Z h17 p0 "com/example/onward/onward/explore/Packing" := F8.wr W17
  have F19 : Fld Z h17 p0 "com/example/onward/onward/explore/Packing" "word" "[I" (.ref b3) := F9.same W17
  have F20 : Fld Z h17 p0 "com/example/onward/onward/explore/Packing" "shift" "[I" .null := F10.other W17 (Or.inr (slot_ne (Or.inr (hw _ (List.mem_of_getElem? (i := 23) rfl))) (Or.inr (hw _ (List.mem_of_getElem? (i := 21) rfl))) (by decide) (t := (.array .int)) (t' := (.array .int)) (by decide) (by decide)))
  have F21 : Fld Z h17 p0 "com/example/onward/onward/explore/Packing" "mask" "[J" .null := F11.other W17 (Or.inr (slot_ne (Or.inr (hw _ (List.mem_of_getElem? (i := 26) rfl))) (Or.inr (hw _ (List.mem_of_getElem? (i := 21) rfl))) (by decide) (t := (.array .long)) (t' := (.array .int)) (by decide) (by decide)))
  have F22 : Fld Z h17 p0 "com/example/onward/onward/explore/Packing" "words" "I" (.int (0 : Int32)) := F12.other W17 (Or.inr (slot_ne (Or.inr (hw _ (List.mem_of_getElem? (i := 36) rfl))) (Or.inr (hw _ (List.mem_of_getElem? (i := 21) rfl))) (by decide) (t := .int) (t' := (.array .int)) (by decide) (by decide)))
  have F23 : ArL Z h17 p1 .int (List.map Value.int xs) := F13.other W17 (Ne.symm H7)
  have F24 : n0 ≤ h17.size := Nat.le_trans F14 (Keep.of_wr W17).1
  have F25 : Keep h0 h17 [p0] := F15.wr W17 (Or.inl (List.mem_of_getElem? (i := 0) rfl))
  have F26 : ArL Z h17 b3 .int [(.int (0 : Int32)), (.int (0 : Int32)), (.int (0 : Int32))] := F16.other W17 (Ne.symm ne4)
  obtain ⟨Lo17, Y17, N17⟩ := pk X17 (Fr.snoc X17 N0 H6)
  refine Go.back st17 ?_
  show Go p.tables e below (P3 Z p0 p1 xs h0 n0 s) (T17.setTop (mkF m 12 #[.val (.ref p0), .val (.ref p1), .unset, .unset, .unset, .unset] []))
  refine Go.back (fun t k => XS.aloadN Y17.here hx rfl (hb hby d3_12) rfl rfl  k) ?_
  show Go p.tables e below (P3 Z p0 p1 xs h0 n0 s) (T17.setTop (mkF m 13 #[.val (.ref p0), .val (.ref p1), .unset, .unset, .unset, .unset] [(.ref p0)]))
  refine Go.back (fun t k => XS.aloadN Y17.here hx rfl (hb hby d3_13) rfl rfl  k) ?_
  show Go p.tables e below (P3 Z p0 p1 xs h0 n0 s) (T17.setTop (mkF m 14 #[.val (.ref p0), .val (.ref p1), .unset, .unset, .unset, .unset] [(.ref p1), (.ref p0)]))
  obtain ⟨cl27, Ar27, S27⟩ := F23.len
  refine Go.back (fun t k => Y17.arraylength hx (by rw [e17]; exact Ar27.1) (State.isArrayOf_alike hZ.alike Ar27.2.1) (g := (mkF m 14 #[.val (.ref p0), .val (.ref p1), .unset, .unset, .unset, .unset] [(.ref p1), (.ref p0)])) rfl rfl (hb hby d3_14) t k) ?_
  rw [S27]
  rw [List.length_map, hl]
  show Go p.tables e below (P3 Z p0 p1 xs h0 n0 s) (T17.setTop (mkF m 15 #[.val (.ref p0), .val (.ref p1), .unset, .unset, .unset, .unset] [(.int (3 : Int32)), (.ref p0)]))
  obtain ⟨T28, h28, k28, X28, e28, E28, A28, st28⟩ := newP Y17 hx hZ (hw _ (List.mem_of_getElem? (i := 0) rfl)) e17 (g := (mkF m 15 #[.val (.ref p0), .val (.ref p1), .unset, .unset, .unset, .unset] [(.int (3 : Int32)), (.ref p0)])) rfl (hb hby d3_15) rfl (by decide) (cap := 3) (by decide) (by decide) (by decide) (by decide)
  obtain ⟨b28, g28⟩ : ∃ z, z = h17.size := ⟨_, rfl⟩
  rw [← g28] at A28 st28
  have ne29 : p0 ≠ b28 := Nat.ne_of_lt (Nat.lt_of_lt_of_le F18.lt (Nat.le_of_eq g28.symm))
  have ne30 : p1 ≠ b28 := Nat.ne_of_lt (Nat.lt_of_lt_of_le F23.lt (Nat.le_of_eq g28.symm))
  have ne31 : b3 ≠ b28 := Nat.ne_of_lt (Nat.lt_of_lt_of_le F26.lt (Nat.le_of_eq g28.symm))
  have g32 : n0 ≤ b28 := Nat.le_trans F24 (Nat.le_of_eq g28.symm)
  have sz33 : h0.size ≤ b28 := Nat.le_trans F25.1 (Nat.le_of_eq g28.symm)
  have F34 : Exa Z h28 p0 "com/example/onward/onward/explore/Packing" := F18.ext E28
  have F35 : Fld Z h28 p0 "com/example/onward/onward/explore/Packing" "word" "[I" (.ref b3) := F19.ext E28
  have F36 : Fld Z h28 p0 "com/example/onward/onward/explore/Packing" "shift" "[I" .null := F20.ext E28
  have F37 : Fld Z h28 p0 "com/example/onward/onward/explore/Packing" "mask" "[J" .null := F21.ext E28
  have F38 : Fld Z h28 p0 "com/example/onward/onward/explore/Packing" "words" "I" (.int (0 : Int32)) := F22.ext E28
  have F39 : ArL Z h28 p1 .int (List.map Value.int xs) := F23.ext E28
  have F40 : n0 ≤ h28.size := Nat.le_trans F24 E28.1
  have F41 : Keep h0 h28 [p0] := F25.ext E28
  have F42 : ArL Z h28 b3 .int [(.int (0 : Int32)), (.int (0 : Int32)), (.int (0 : Int32))] := F26.ext E28
  have F43 : ArL Z h28 b28 .int [(.int (0 : Int32)), (.int (0 : Int32)), (.int (0 : Int32))] := ArL.new (ty := .int) A28 (n := 3) rfl
  refine Go.back st28 ?_
  show Go p.tables e below (P3 Z p0 p1 xs h0 n0 s) (T28.setTop (mkF m 17 #[.val (.ref p0), .val (.ref p1), .unset, .unset, .unset, .unset] [(.ref b28), (.ref p0)]))
  obtain ⟨T44, h44, X44, e44, W44, st44⟩ := putF X28 hx hZ hown (host := "") (Or.inl (hw _ (List.mem_of_getElem? (i := 22) rfl))) Via.refl e28 F36 F34 (Or.inr ⟨(hw _ (List.mem_of_getElem? (i := 23) rfl)), rfl, hnm⟩) (hw _ (List.mem_of_getElem? (i := 12) rfl)) (ty := (.array .int)) (by decide) rfl rfl (g := (mkF m 17 #[.val (.ref p0), .val (.ref p1), .unset, .unset, .unset, .unset] [(.ref b28), (.ref p0)])) rfl rfl (hb hby d3_17)
  have F45 : Exa Z h44 p0 "com/example/onward/onward/explore/Packing" := F34.wr W44
  have F46 : Fld Z h44 p0 "com/example/onward/onward/explore/Packing" "word" "[I" (.ref b3) := F35.other W44 (Or.inr (slot_ne (Or.inr (hw _ (List.mem_of_getElem? (i := 21) rfl))) (Or.inr (hw _ (List.mem_of_getElem? (i := 23) rfl))) (by decide) (t := (.array .int)) (t' := (.array .int)) (by decide) (by decide)))
  have F47 : Fld Z h44 p0 "com/example/onward/onward/explore/Packing" "shift" "[I" (.ref b28) := F36.same W44
  have F48 : Fld Z h44 p0 "com/example/onward/onward/explore/Packing" "mask" "[J" .null := F37.other W44 (Or.inr (slot_ne (Or.inr (hw _ (List.mem_of_getElem? (i := 26) rfl))) (Or.inr (hw _ (List.mem_of_getElem? (i := 23) rfl))) (by decide) (t := (.array .long)) (t' := (.array .int)) (by decide) (by decide)))
  have F49 : Fld Z h44 p0 "com/example/onward/onward/explore/Packing" "words" "I" (.int (0 : Int32)) := F38.other W44 (Or.inr (slot_ne (Or.inr (hw _ (List.mem_of_getElem? (i := 36) rfl))) (Or.inr (hw _ (List.mem_of_getElem? (i := 23) rfl))) (by decide) (t := .int) (t' := (.array .int)) (by decide) (by decide)))
  have F50 : ArL Z h44 p1 .int (List.map Value.int xs) := F39.other W44 (Ne.symm H7)
  have F51 : n0 ≤ h44.size := Nat.le_trans F40 (Keep.of_wr W44).1
  have F52 : Keep h0 h44 [p0] := F41.wr W44 (Or.inl (List.mem_of_getElem? (i := 0) rfl))
  have F53 : ArL Z h44 b3 .int [(.int (0 : Int32)), (.int (0 : Int32)), (.int (0 : Int32))] := F42.other W44 (Ne.symm ne4)
  have F54 : ArL Z h44 b28 .int [(.int (0 : Int32)), (.int (0 : Int32)), (.int (0 : Int32))] := F43.other W44 (Ne.symm ne29)
  obtain ⟨Lo44, Y44, N44⟩ := pk X44 (Fr.snoc X44 N17 H6)
  refine Go.back st44 ?_
  show Go p.tables e below (P3 Z p0 p1 xs h0 n0 s) (T44.setTop (mkF m 20 #[.val (.ref p0), .val (.ref p1), .unset, .unset, .unset, .unset] []))
  refine Go.back (fun t k => XS.aloadN Y44.here hx rfl (hb hby d3_20) rfl rfl  k) ?_
  show Go p.tables e below (P3 Z p0 p1 xs h0 n0 s) (T44.setTop (mkF m 21 #[.val (.ref p0), .val (.ref p1), .unset, .unset, .unset, .unset] [(.ref p0)]))
  refine Go.back (fun t k => XS.aloadN Y44.here hx rfl (hb hby d3_21) rfl rfl  k) ?_
  show Go p.tables e below (P3 Z p0 p1 xs h0 n0 s) (T44.setTop (mkF m 22 #[.val (.ref p0), .val (.ref p1), .unset, .unset, .unset, .unset] [(.ref p1), (.ref p0)]))
  obtain ⟨cl55, Ar55, S55⟩ := F50.len
  refine Go.back (fun t k => Y44.arraylength hx (by rw [e44]; exact Ar55.1) (State.isArrayOf_alike hZ.alike Ar55.2.1) (g := (mkF m 22 #[.val (.ref p0), .val (.ref p1), .unset, .unset, .unset, .unset] [(.ref p1), (.ref p0)])) rfl rfl (hb hby d3_22) t k) ?_
  rw [S55]
  rw [List.length_map, hl]
  show Go p.tables e below (P3 Z p0 p1 xs h0 n0 s) (T44.setTop (mkF m 23 #[.val (.ref p0), .val (.ref p1), .unset, .unset, .unset, .unset] [(.int (3 : Int32)), (.ref p0)]))
  obtain ⟨T56, h56, k56, X56, e56, E56, A56, st56⟩ := newP Y44 hx hZ (hw _ (List.mem_of_getElem? (i := 24) rfl)) e44 (g := (mkF m 23 #[.val (.ref p0), .val (.ref p1), .unset, .unset, .unset, .unset] [(.int (3 : Int32)), (.ref p0)])) rfl (hb hby d3_23) rfl (by decide) (cap := 3) (by decide) (by decide) (by decide) (by decide)
  obtain ⟨b56, g56⟩ : ∃ z, z = h44.size := ⟨_, rfl⟩
  rw [← g56] at A56 st56
  have ne57 : p0 ≠ b56 := Nat.ne_of_lt (Nat.lt_of_lt_of_le F45.lt (Nat.le_of_eq g56.symm))
  have ne58 : p1 ≠ b56 := Nat.ne_of_lt (Nat.lt_of_lt_of_le F50.lt (Nat.le_of_eq g56.symm))
  have ne59 : b3 ≠ b56 := Nat.ne_of_lt (Nat.lt_of_lt_of_le F53.lt (Nat.le_of_eq g56.symm))
  have ne60 : b28 ≠ b56 := Nat.ne_of_lt (Nat.lt_of_lt_of_le F54.lt (Nat.le_of_eq g56.symm))
  have g61 : n0 ≤ b56 := Nat.le_trans F51 (Nat.le_of_eq g56.symm)
  have sz62 : h0.size ≤ b56 := Nat.le_trans F52.1 (Nat.le_of_eq g56.symm)
  have F63 : Exa Z h56 p0 "com/example/onward/onward/explore/Packing" := F45.ext E56
  have F64 : Fld Z h56 p0 "com/example/onward/onward/explore/Packing" "word" "[I" (.ref b3) := F46.ext E56
  have F65 : Fld Z h56 p0 "com/example/onward/onward/explore/Packing" "shift" "[I" (.ref b28) := F47.ext E56
  have F66 : Fld Z h56 p0 "com/example/onward/onward/explore/Packing" "mask" "[J" .null := F48.ext E56
  have F67 : Fld Z h56 p0 "com/example/onward/onward/explore/Packing" "words" "I" (.int (0 : Int32)) := F49.ext E56
  have F68 : ArL Z h56 p1 .int (List.map Value.int xs) := F50.ext E56
  have F69 : n0 ≤ h56.size := Nat.le_trans F51 E56.1
  have F70 : Keep h0 h56 [p0] := F52.ext E56
  have F71 : ArL Z h56 b3 .int [(.int (0 : Int32)), (.int (0 : Int32)), (.int (0 : Int32))] := F53.ext E56
  have F72 : ArL Z h56 b28 .int [(.int (0 : Int32)), (.int (0 : Int32)), (.int (0 : Int32))] := F54.ext E56
  have F73 : ArL Z h56 b56 .long [(.long (0 : Int64)), (.long (0 : Int64)), (.long (0 : Int64))] := ArL.new (ty := .long) A56 (n := 3) rfl
  refine Go.back st56 ?_
  show Go p.tables e below (P3 Z p0 p1 xs h0 n0 s) (T56.setTop (mkF m 25 #[.val (.ref p0), .val (.ref p1), .unset, .unset, .unset, .unset] [(.ref b56), (.ref p0)]))
  obtain ⟨T74, h74, X74, e74, W74, st74⟩ := putF X56 hx hZ hown (host := "") (Or.inl (hw _ (List.mem_of_getElem? (i := 25) rfl))) Via.refl e56 F66 F63 (Or.inr ⟨(hw _ (List.mem_of_getElem? (i := 26) rfl)), rfl, hnm⟩) (hw _ (List.mem_of_getElem? (i := 12) rfl)) (ty := (.array .long)) (by decide) rfl rfl (g := (mkF m 25 #[.val (.ref p0), .val (.ref p1), .unset, .unset, .unset, .unset] [(.ref b56), (.ref p0)])) rfl rfl (hb hby d3_25)
  have F75 : Exa Z h74 p0 "com/example/onward/onward/explore/Packing" := F63.wr W74
  have F76 : Fld Z h74 p0 "com/example/onward/onward/explore/Packing" "word" "[I" (.ref b3) := F64.other W74 (Or.inr (slot_ne (Or.inr (hw _ (List.mem_of_getElem? (i := 21) rfl))) (Or.inr (hw _ (List.mem_of_getElem? (i := 26) rfl))) (by decide) (t := (.array .int)) (t' := (.array .long)) (by decide) (by decide)))
  have F77 : Fld Z h74 p0 "com/example/onward/onward/explore/Packing" "shift" "[I" (.ref b28) := F65.other W74 (Or.inr (slot_ne (Or.inr (hw _ (List.mem_of_getElem? (i := 23) rfl))) (Or.inr (hw _ (List.mem_of_getElem? (i := 26) rfl))) (by decide) (t := (.array .int)) (t' := (.array .long)) (by decide) (by decide)))
  have F78 : Fld Z h74 p0 "com/example/onward/onward/explore/Packing" "mask" "[J" (.ref b56) := F66.same W74
  have F79 : Fld Z h74 p0 "com/example/onward/onward/explore/Packing" "words" "I" (.int (0 : Int32)) := F67.other W74 (Or.inr (slot_ne (Or.inr (hw _ (List.mem_of_getElem? (i := 36) rfl))) (Or.inr (hw _ (List.mem_of_getElem? (i := 26) rfl))) (by decide) (t := .int) (t' := (.array .long)) (by decide) (by decide)))
  have F80 : ArL Z h74 p1 .int (List.map Value.int xs) := F68.other W74 (Ne.symm H7)
  have F81 : n0 ≤ h74.size := Nat.le_trans F69 (Keep.of_wr W74).1
  have F82 : Keep h0 h74 [p0] := F70.wr W74 (Or.inl (List.mem_of_getElem? (i := 0) rfl))
  have F83 : ArL Z h74 b3 .int [(.int (0 : Int32)), (.int (0 : Int32)), (.int (0 : Int32))] := F71.other W74 (Ne.symm ne4)
  have F84 : ArL Z h74 b28 .int [(.int (0 : Int32)), (.int (0 : Int32)), (.int (0 : Int32))] := F72.other W74 (Ne.symm ne29)
  have F85 : ArL Z h74 b56 .long [(.long (0 : Int64)), (.long (0 : Int64)), (.long (0 : Int64))] := F73.other W74 (Ne.symm ne57)
  obtain ⟨Lo74, Y74, N74⟩ := pk X74 (Fr.snoc X74 N44 H6)
  refine Go.back st74 ?_
  show Go p.tables e below (P3 Z p0 p1 xs h0 n0 s) (T74.setTop (mkF m 28 #[.val (.ref p0), .val (.ref p1), .unset, .unset, .unset, .unset] []))
  refine Go.back (fun t k => XS.iconst Y74.here hx rfl (hb hby d3_28) k) ?_
  show Go p.tables e below (P3 Z p0 p1 xs h0 n0 s) (T74.setTop (mkF m 29 #[.val (.ref p0), .val (.ref p1), .unset, .unset, .unset, .unset] [(.int (1 : Int32))]))
  refine Go.back (fun t k => XS.istoreN Y74.here hx rfl (hb hby d3_29) rfl (l' := #[.val (.ref p0), .val (.ref p1), .val (.int (1 : Int32)), .unset, .unset, .unset]) rfl k) ?_
  show Go p.tables e below (P3 Z p0 p1 xs h0 n0 s) (T74.setTop (mkF m 30 #[.val (.ref p0), .val (.ref p1), .val (.int (1 : Int32)), .unset, .unset, .unset] []))
  refine Go.back (fun t k => XS.iconst Y74.here hx rfl (hb hby d3_30) k) ?_
  show Go p.tables e below (P3 Z p0 p1 xs h0 n0 s) (T74.setTop (mkF m 31 #[.val (.ref p0), .val (.ref p1), .val (.int (1 : Int32)), .unset, .unset, .unset] [(.int (0 : Int32))]))
  refine Go.back (fun t k => XS.istoreN Y74.here hx rfl (hb hby d3_31) rfl (l' := #[.val (.ref p0), .val (.ref p1), .val (.int (1 : Int32)), .val (.int (0 : Int32)), .unset, .unset]) rfl k) ?_
  show Go p.tables e below (P3 Z p0 p1 xs h0 n0 s) (T74.setTop (mkF m 32 #[.val (.ref p0), .val (.ref p1), .val (.int (1 : Int32)), .val (.int (0 : Int32)), .unset, .unset] []))
  refine Go.back (fun t k => XS.iconst Y74.here hx rfl (hb hby d3_32) k) ?_
  show Go p.tables e below (P3 Z p0 p1 xs h0 n0 s) (T74.setTop (mkF m 33 #[.val (.ref p0), .val (.ref p1), .val (.int (1 : Int32)), .val (.int (0 : Int32)), .unset, .unset] [(.int (0 : Int32))]))
  refine Go.back (fun t k => XS.istore Y74.here hx rfl (hb hby d3_33) rfl (l' := #[.val (.ref p0), .val (.ref p1), .val (.int (1 : Int32)), .val (.int (0 : Int32)), .val (.int (0 : Int32)), .unset]) rfl k) ?_
  show Go p.tables e below (P3 Z p0 p1 xs h0 n0 s) (T74.setTop (mkF m 35 #[.val (.ref p0), .val (.ref p1), .val (.int (1 : Int32)), .val (.int (0 : Int32)), .val (.int (0 : Int32)), .unset] []))
  have LOOP86 : ∀ (n : Nat) (w : Int32) (u : Int32) (i : Int32) (s5 : Slot) (hs5 : One s5) (W : List Int32) (S : List Int32) (M : List Int64) (T87 : State) (L87 : List Loc) (X87 : Stand p l e rmm3 s m #[(.ref p0), (.ref p1)] below meth c T87 L87 3 9) (N87 : Fr n0 L87) (h87 : Heap) (e87 : T87.heap = h87) (F88 : Exa Z h87 p0 "com/example/onward/onward/explore/Packing") (F89 : Fld Z h87 p0 "com/example/onward/onward/explore/Packing" "word" "[I" (.ref b3)) (F90 : Fld Z h87 p0 "com/example/onward/onward/explore/Packing" "shift" "[I" (.ref b28)) (F91 : Fld Z h87 p0 "com/example/onward/onward/explore/Packing" "mask" "[J" (.ref b56)) (F92 : Fld Z h87 p0 "com/example/onward/onward/explore/Packing" "words" "I" (.int (0 : Int32))) (F93 : ArL Z h87 p1 .int (List.map Value.int xs)) (F94 : n0 ≤ h87.size) (F95 : Keep h0 h87 [p0]) (F96 : ArL Z h87 b3 .int (List.map Value.int W)) (F97 : ArL Z h87 b28 .int (List.map Value.int S)) (F98 : ArL Z h87 b56 .long (List.map Value.long M)) (hbd : own_ib 3 n i W S M) (hr : (own_pkr xs) = own_pk xs n i w u W S M), Go p.tables e below (P3 Z p0 p1 xs h0 n0 s) (T87.setTop (mkF m 35 #[.val (.ref p0), .val (.ref p1), .val (.int w), .val (.int u), .val (.int i), s5] [])) := by
    intro n
    induction n with
    | zero =>
      intro w u i s5 hs5 W S M T87 L87 X87 N87 h87 e87 F88 F89 F90 F91 F92 F93 F94 F95 F96 F97 F98 hbd hr
      show Go p.tables e below (P3 Z p0 p1 xs h0 n0 s) (T87.setTop (mkF m 35 #[.val (.ref p0), .val (.ref p1), .val (.int w), .val (.int u), .val (.int i), s5] []))
      refine Go.back (fun t k => XS.iload X87.here hx rfl (hb hby d3_35) rfl  k) ?_
      show Go p.tables e below (P3 Z p0 p1 xs h0 n0 s) (T87.setTop (mkF m 37 #[.val (.ref p0), .val (.ref p1), .val (.int w), .val (.int u), .val (.int i), s5] [(.int i)]))
      refine Go.back (fun t k => XS.aloadN X87.here hx rfl (hb hby d3_37) rfl rfl  k) ?_
      show Go p.tables e below (P3 Z p0 p1 xs h0 n0 s) (T87.setTop (mkF m 38 #[.val (.ref p0), .val (.ref p1), .val (.int w), .val (.int u), .val (.int i), s5] [(.ref p1), (.int i)]))
      obtain ⟨cl99, Ar99, S99⟩ := F93.len
      refine Go.back (fun t k => X87.arraylength hx (by rw [e87]; exact Ar99.1) (State.isArrayOf_alike hZ.alike Ar99.2.1) (g := (mkF m 38 #[.val (.ref p0), .val (.ref p1), .val (.int w), .val (.int u), .val (.int i), s5] [(.ref p1), (.int i)])) rfl rfl (hb hby d3_38) t k) ?_
      rw [S99]
      rw [List.length_map, hl]
      show Go p.tables e below (P3 Z p0 p1 xs h0 n0 s) (T87.setTop (mkF m 39 #[.val (.ref p0), .val (.ref p1), .val (.int w), .val (.int u), .val (.int i), s5] [(.int (3 : Int32)), (.int i)]))
      refine Go.back (fun t k => XS.icmpYes X87.here hx rfl (pc0 := 39) (pc' := 116) rfl (hb hby d3_39) rfl (flt (own_ib_z hbd rfl)).2.1 (by decide) (by decide) k) ?_
      show Go p.tables e below (P3 Z p0 p1 xs h0 n0 s) (T87.setTop (mkF m 116 #[.val (.ref p0), .val (.ref p1), .val (.int w), .val (.int u), .val (.int i), s5] []))
      refine Go.back (fun t k => XS.aloadN X87.here hx rfl (hb hby d3_116) rfl rfl  k) ?_
      show Go p.tables e below (P3 Z p0 p1 xs h0 n0 s) (T87.setTop (mkF m 117 #[.val (.ref p0), .val (.ref p1), .val (.int w), .val (.int u), .val (.int i), s5] [(.ref p0)]))
      refine Go.back (fun t k => XS.iloadN X87.here hx rfl (hb hby d3_117) rfl  k) ?_
      show Go p.tables e below (P3 Z p0 p1 xs h0 n0 s) (T87.setTop (mkF m 118 #[.val (.ref p0), .val (.ref p1), .val (.int w), .val (.int u), .val (.int i), s5] [(.int w), (.ref p0)]))
      obtain ⟨T100, h100, X100, e100, W100, st100⟩ := putF X87 hx hZ hown (host := "") (Or.inl (hw _ (List.mem_of_getElem? (i := 35) rfl))) Via.refl e87 F92 F88 (Or.inr ⟨(hw _ (List.mem_of_getElem? (i := 36) rfl)), rfl, hnm⟩) (hw _ (List.mem_of_getElem? (i := 12) rfl)) (ty := .int) (by decide) rfl rfl (g := (mkF m 118 #[.val (.ref p0), .val (.ref p1), .val (.int w), .val (.int u), .val (.int i), s5] [(.int w), (.ref p0)])) rfl rfl (hb hby d3_118)
      have F101 : Exa Z h100 p0 "com/example/onward/onward/explore/Packing" := F88.wr W100
      have F102 : Fld Z h100 p0 "com/example/onward/onward/explore/Packing" "word" "[I" (.ref b3) := F89.other W100 (Or.inr (slot_ne (Or.inr (hw _ (List.mem_of_getElem? (i := 21) rfl))) (Or.inr (hw _ (List.mem_of_getElem? (i := 36) rfl))) (by decide) (t := (.array .int)) (t' := .int) (by decide) (by decide)))
      have F103 : Fld Z h100 p0 "com/example/onward/onward/explore/Packing" "shift" "[I" (.ref b28) := F90.other W100 (Or.inr (slot_ne (Or.inr (hw _ (List.mem_of_getElem? (i := 23) rfl))) (Or.inr (hw _ (List.mem_of_getElem? (i := 36) rfl))) (by decide) (t := (.array .int)) (t' := .int) (by decide) (by decide)))
      have F104 : Fld Z h100 p0 "com/example/onward/onward/explore/Packing" "mask" "[J" (.ref b56) := F91.other W100 (Or.inr (slot_ne (Or.inr (hw _ (List.mem_of_getElem? (i := 26) rfl))) (Or.inr (hw _ (List.mem_of_getElem? (i := 36) rfl))) (by decide) (t := (.array .long)) (t' := .int) (by decide) (by decide)))
      have F105 : Fld Z h100 p0 "com/example/onward/onward/explore/Packing" "words" "I" (.int w) := F92.same W100
      have F106 : ArL Z h100 p1 .int (List.map Value.int xs) := F93.other W100 (Ne.symm H7)
      have F107 : n0 ≤ h100.size := Nat.le_trans F94 (Keep.of_wr W100).1
      have F108 : Keep h0 h100 [p0] := F95.wr W100 (Or.inl (List.mem_of_getElem? (i := 0) rfl))
      have F109 : ArL Z h100 b3 .int (List.map Value.int W) := F96.other W100 (Ne.symm ne4)
      have F110 : ArL Z h100 b28 .int (List.map Value.int S) := F97.other W100 (Ne.symm ne29)
      have F111 : ArL Z h100 b56 .long (List.map Value.long M) := F98.other W100 (Ne.symm ne57)
      obtain ⟨Lo100, Y100, N100⟩ := pk X100 (Fr.snoc X100 N87 H6)
      refine Go.back st100 ?_
      show Go p.tables e below (P3 Z p0 p1 xs h0 n0 s) (T100.setTop (mkF m 121 #[.val (.ref p0), .val (.ref p1), .val (.int w), .val (.int u), .val (.int i), s5] []))
      exact Go.retV Y100 hx Bd.returns (hb hby d3_121) Bd.notSynchronized ⟨rfl, N100, (by rw [e100]; exact F108), b3, b28, b56, sz7, sz33, sz62, ne31, ne59, ne60, (by rw [e100]; exact F101), (by rw [e100]; exact F102), (by rw [e100]; exact F103), (by rw [e100]; exact F104), (by rw [e100, hr]; exact F109), (by rw [e100, hr]; exact F110), (by rw [e100, hr]; exact F111), (by rw [e100, hr]; exact F105)⟩ (by decide) (by decide)
    | succ n ih =>
      intro w u i s5 hs5 W S M T87 L87 X87 N87 h87 e87 F88 F89 F90 F91 F92 F93 F94 F95 F96 F97 F98 hbd hr
      show Go p.tables e below (P3 Z p0 p1 xs h0 n0 s) (T87.setTop (mkF m 35 #[.val (.ref p0), .val (.ref p1), .val (.int w), .val (.int u), .val (.int i), s5] []))
      refine Go.back (fun t k => XS.iload X87.here hx rfl (hb hby d3_35) rfl  k) ?_
      show Go p.tables e below (P3 Z p0 p1 xs h0 n0 s) (T87.setTop (mkF m 37 #[.val (.ref p0), .val (.ref p1), .val (.int w), .val (.int u), .val (.int i), s5] [(.int i)]))
      refine Go.back (fun t k => XS.aloadN X87.here hx rfl (hb hby d3_37) rfl rfl  k) ?_
      show Go p.tables e below (P3 Z p0 p1 xs h0 n0 s) (T87.setTop (mkF m 38 #[.val (.ref p0), .val (.ref p1), .val (.int w), .val (.int u), .val (.int i), s5] [(.ref p1), (.int i)]))
      obtain ⟨cl112, Ar112, S112⟩ := F93.len
      refine Go.back (fun t k => X87.arraylength hx (by rw [e87]; exact Ar112.1) (State.isArrayOf_alike hZ.alike Ar112.2.1) (g := (mkF m 38 #[.val (.ref p0), .val (.ref p1), .val (.int w), .val (.int u), .val (.int i), s5] [(.ref p1), (.int i)])) rfl rfl (hb hby d3_38) t k) ?_
      rw [S112]
      rw [List.length_map, hl]
      show Go p.tables e below (P3 Z p0 p1 xs h0 n0 s) (T87.setTop (mkF m 39 #[.val (.ref p0), .val (.ref p1), .val (.int w), .val (.int u), .val (.int i), s5] [(.int (3 : Int32)), (.int i)]))
      refine Go.back (fun t k => XS.icmpNo X87.here hx rfl (hb hby d3_39) rfl (tlt (own_ib_s hbd rfl)).2.1 k) ?_
      show Go p.tables e below (P3 Z p0 p1 xs h0 n0 s) (T87.setTop (mkF m 42 #[.val (.ref p0), .val (.ref p1), .val (.int w), .val (.int u), .val (.int i), s5] []))
      refine Go.back (fun t k => XS.bipush X87.here hx rfl (hb hby d3_42) k) ?_
      show Go p.tables e below (P3 Z p0 p1 xs h0 n0 s) (T87.setTop (mkF m 44 #[.val (.ref p0), .val (.ref p1), .val (.int w), .val (.int u), .val (.int i), s5] [(.int (32 : Int32))]))
      refine Go.back (fun t k => XS.iconst X87.here hx rfl (hb hby d3_44) k) ?_
      show Go p.tables e below (P3 Z p0 p1 xs h0 n0 s) (T87.setTop (mkF m 45 #[.val (.ref p0), .val (.ref p1), .val (.int w), .val (.int u), .val (.int i), s5] [(.int (0 : Int32)), (.int (32 : Int32))]))
      refine Go.back (fun t k => XS.aloadN X87.here hx rfl (hb hby d3_45) rfl rfl  k) ?_
      show Go p.tables e below (P3 Z p0 p1 xs h0 n0 s) (T87.setTop (mkF m 46 #[.val (.ref p0), .val (.ref p1), .val (.int w), .val (.int u), .val (.int i), s5] [(.ref p1), (.int (0 : Int32)), (.int (32 : Int32))]))
      refine Go.back (fun t k => XS.iload X87.here hx rfl (hb hby d3_46) rfl  k) ?_
      show Go p.tables e below (P3 Z p0 p1 xs h0 n0 s) (T87.setTop (mkF m 48 #[.val (.ref p0), .val (.ref p1), .val (.int w), .val (.int u), .val (.int i), s5] [(.int i), (.ref p1), (.int (0 : Int32)), (.int (32 : Int32))]))
      obtain ⟨cl113, Ar113, hi113, ha113⟩ := F93.get (j := i) (own_ib_nn hbd) (v := (.int (List.getD xs (i).toNatClampNeg (0 : Int32)))) (getI xs (own_ib_in hbd hl))
      refine Go.back (fun t k => X87.iaload hx (j := i) (v := (.int (List.getD xs (i).toNatClampNeg (0 : Int32)))) (by rw [e87]; exact Ar113.1) (State.isArrayOf_alike hZ.alike Ar113.2.1) Ar113.2.2 hi113 ha113 (g := (mkF m 48 #[.val (.ref p0), .val (.ref p1), .val (.int w), .val (.int u), .val (.int i), s5] [(.int i), (.ref p1), (.int (0 : Int32)), (.int (32 : Int32))])) rfl rfl (hb hby d3_48) t k) ?_
      show Go p.tables e below (P3 Z p0 p1 xs h0 n0 s) (T87.setTop (mkF m 49 #[.val (.ref p0), .val (.ref p1), .val (.int w), .val (.int u), .val (.int i), s5] [(.int (List.getD xs (i).toNatClampNeg (0 : Int32))), (.int (0 : Int32)), (.int (32 : Int32))]))
      refine Go.back (fun t k => XS.iconst X87.here hx rfl (hb hby d3_49) k) ?_
      show Go p.tables e below (P3 Z p0 p1 xs h0 n0 s) (T87.setTop (mkF m 50 #[.val (.ref p0), .val (.ref p1), .val (.int w), .val (.int u), .val (.int i), s5] [(.int (1 : Int32)), (.int (List.getD xs (i).toNatClampNeg (0 : Int32))), (.int (0 : Int32)), (.int (32 : Int32))]))
      refine Go.back (fun t k => XS.isub X87.here hx rfl (hb hby d3_50) rfl k) ?_
      show Go p.tables e below (P3 Z p0 p1 xs h0 n0 s) (T87.setTop (mkF m 51 #[.val (.ref p0), .val (.ref p1), .val (.int w), .val (.int u), .val (.int i), s5] [(.int ((List.getD xs (i).toNatClampNeg (0 : Int32)) - (1 : Int32))), (.int (0 : Int32)), (.int (32 : Int32))]))
      obtain ⟨_, _, ⟨T114, L114, k114, n114⟩, -, X114, ⟨Lc114, hQ114, l114, y114, z114⟩, st114⟩ := Jvm.LawKit.callS X87 hx (y := (⟨"java/lang/Math", "max", "(II)I"⟩ : MethodName)) hown (mvT hZ (hw _ (List.mem_of_getElem? (i := 27) rfl))) (mvT hZ (hw _ (List.mem_of_getElem? (i := 28) rfl))) (mvT hZ (hw _ (List.mem_of_getElem? (i := 9) rfl))) (mvT hZ (hw _ (List.mem_of_getElem? (i := 29) rfl))) (by decide) (backOf (W := 1) (rm5 l Z a0 hw [] (0 : Int32) ((List.getD xs (i).toNatClampNeg (0 : Int32)) - (1 : Int32)) h87 n0) hZ (hw _ (List.mem_of_getElem? (i := 29) rfl)) (hw _ (List.mem_of_getElem? (i := 9) rfl)) (by decide) (by decide)) (g := (mkF m 51 #[.val (.ref p0), .val (.ref p1), .val (.int w), .val (.int u), .val (.int i), s5] [(.int ((List.getD xs (i).toNatClampNeg (0 : Int32)) - (1 : Int32))), (.int (0 : Int32)), (.int (32 : Int32))])) rfl (by rw [hml]; rfl) (argsL := [(.int (0 : Int32)), (.int ((List.getD xs (i).toNatClampNeg (0 : Int32)) - (1 : Int32)))]) (rest := [(.int (32 : Int32))]) (lenOf pd_0 rfl) rfl (by show 2 * 0 + _ ≤ _; exact Nat.le_of_eq rfl) (hb hby d3_51) (fun _ _ => ⟨rfl, e87, (by decide : 3 + 0 ≤ _), (by decide : 9 + 0 ≤ _)⟩)
      dsimp only [Pt.U, Pt.locs, Pt.cells, Pt.slots] at X114 l114 y114 z114 st114 hQ114
      subst l114 y114 z114
      obtain ⟨rfl, N114q, e114⟩ := hQ114
      obtain ⟨Lo114, Y114, N114⟩ := pk X114 (Fr.app N87 N114q)
      refine Go.back st114 ?_
      show Go p.tables e below (P3 Z p0 p1 xs h0 n0 s) (T114.setTop (mkF m 54 #[.val (.ref p0), .val (.ref p1), .val (.int w), .val (.int u), .val (.int i), s5] [(.int (f5 (0 : Int32) ((List.getD xs (i).toNatClampNeg (0 : Int32)) - (1 : Int32)))), (.int (32 : Int32))]))
      obtain ⟨_, _, ⟨T115, L115, k115, n115⟩, -, X115, ⟨Lc115, hQ115, l115, y115, z115⟩, st115⟩ := Jvm.LawKit.callS Y114 hx (y := (⟨"java/lang/Integer", "numberOfLeadingZeros", "(I)I"⟩ : MethodName)) hown (mvT hZ (hw _ (List.mem_of_getElem? (i := 30) rfl))) (mvT hZ (hw _ (List.mem_of_getElem? (i := 31) rfl))) (mvT hZ (hw _ (List.mem_of_getElem? (i := 32) rfl))) (mvT hZ (hw _ (List.mem_of_getElem? (i := 33) rfl))) (by decide) (backOf (W := 1) (rm6 l Z a0 hw [] (f5 (0 : Int32) ((List.getD xs (i).toNatClampNeg (0 : Int32)) - (1 : Int32))) h87 n0) hZ (hw _ (List.mem_of_getElem? (i := 33) rfl)) (hw _ (List.mem_of_getElem? (i := 32) rfl)) (by decide) (by decide)) (g := (mkF m 54 #[.val (.ref p0), .val (.ref p1), .val (.int w), .val (.int u), .val (.int i), s5] [(.int (f5 (0 : Int32) ((List.getD xs (i).toNatClampNeg (0 : Int32)) - (1 : Int32)))), (.int (32 : Int32))])) rfl (by rw [hml]; rfl) (argsL := [(.int (f5 (0 : Int32) ((List.getD xs (i).toNatClampNeg (0 : Int32)) - (1 : Int32))))]) (rest := [(.int (32 : Int32))]) (lenOf pd_1 rfl) rfl (by show 2 * 0 + _ ≤ _; exact Nat.le_of_eq rfl) (hb hby d3_54) (fun _ _ => ⟨rfl, e114, (by decide : 3 + 0 ≤ _), (by decide : 9 + 0 ≤ _)⟩)
      dsimp only [Pt.U, Pt.locs, Pt.cells, Pt.slots] at X115 l115 y115 z115 st115 hQ115
      subst l115 y115 z115
      obtain ⟨rfl, N115q, e115⟩ := hQ115
      obtain ⟨Lo115, Y115, N115⟩ := pk X115 (Fr.app N114 N115q)
      refine Go.back st115 ?_
      show Go p.tables e below (P3 Z p0 p1 xs h0 n0 s) (T115.setTop (mkF m 57 #[.val (.ref p0), .val (.ref p1), .val (.int w), .val (.int u), .val (.int i), s5] [(.int (f6 (f5 (0 : Int32) ((List.getD xs (i).toNatClampNeg (0 : Int32)) - (1 : Int32))))), (.int (32 : Int32))]))
      refine Go.back (fun t k => XS.isub Y115.here hx rfl (hb hby d3_57) rfl k) ?_
      show Go p.tables e below (P3 Z p0 p1 xs h0 n0 s) (T115.setTop (mkF m 58 #[.val (.ref p0), .val (.ref p1), .val (.int w), .val (.int u), .val (.int i), s5] [(.int ((32 : Int32) - (f6 (f5 (0 : Int32) ((List.getD xs (i).toNatClampNeg (0 : Int32)) - (1 : Int32))))))]))
      refine Go.back (fun t k => XS.istore Y115.here hx rfl (hb hby d3_58) rfl (l' := #[.val (.ref p0), .val (.ref p1), .val (.int w), .val (.int u), .val (.int i), .val (.int ((32 : Int32) - (f6 (f5 (0 : Int32) ((List.getD xs (i).toNatClampNeg (0 : Int32)) - (1 : Int32))))))]) (storeS_i rfl hs5 rfl) k) ?_
      show Go p.tables e below (P3 Z p0 p1 xs h0 n0 s) (T115.setTop (mkF m 60 #[.val (.ref p0), .val (.ref p1), .val (.int w), .val (.int u), .val (.int i), .val (.int ((32 : Int32) - (f6 (f5 (0 : Int32) ((List.getD xs (i).toNatClampNeg (0 : Int32)) - (1 : Int32))))))] []))
      have J116 : ∀ (z117 : Int32) (hz117 : z117 = ((32 : Int32) - (f6 (f5 (0 : Int32) ((List.getD xs (i).toNatClampNeg (0 : Int32)) - (1 : Int32)))))), Go p.tables e below (P3 Z p0 p1 xs h0 n0 s) (T115.setTop (mkF m 60 #[.val (.ref p0), .val (.ref p1), .val (.int w), .val (.int u), .val (.int i), .val (.int z117)] [])) := by
        intro z117 hz117
        show Go p.tables e below (P3 Z p0 p1 xs h0 n0 s) (T115.setTop (mkF m 60 #[.val (.ref p0), .val (.ref p1), .val (.int w), .val (.int u), .val (.int i), .val (.int z117)] []))
        refine Go.back (fun t k => XS.iloadN Y115.here hx rfl (hb hby d3_60) rfl  k) ?_
        show Go p.tables e below (P3 Z p0 p1 xs h0 n0 s) (T115.setTop (mkF m 61 #[.val (.ref p0), .val (.ref p1), .val (.int w), .val (.int u), .val (.int i), .val (.int z117)] [(.int u)]))
        refine Go.back (fun t k => XS.iload Y115.here hx rfl (hb hby d3_61) rfl  k) ?_
        show Go p.tables e below (P3 Z p0 p1 xs h0 n0 s) (T115.setTop (mkF m 63 #[.val (.ref p0), .val (.ref p1), .val (.int w), .val (.int u), .val (.int i), .val (.int z117)] [(.int z117), (.int u)]))
        refine Go.back (fun t k => XS.iadd Y115.here hx rfl (hb hby d3_63) rfl k) ?_
        show Go p.tables e below (P3 Z p0 p1 xs h0 n0 s) (T115.setTop (mkF m 64 #[.val (.ref p0), .val (.ref p1), .val (.int w), .val (.int u), .val (.int i), .val (.int z117)] [(.int (u + z117))]))
        refine Go.back (fun t k => XS.bipush Y115.here hx rfl (hb hby d3_64) k) ?_
        show Go p.tables e below (P3 Z p0 p1 xs h0 n0 s) (T115.setTop (mkF m 66 #[.val (.ref p0), .val (.ref p1), .val (.int w), .val (.int u), .val (.int i), .val (.int z117)] [(.int (64 : Int32)), (.int (u + z117))]))
        have J119 : ∀ (z120 : Int32) (z121 : Int32) (hz120 : z120 = (if (64 : Int32) < (u + z117) then (w + (1 : Int32)) else w)) (hz121 : z121 = (if (64 : Int32) < (u + z117) then (0 : Int32) else u)), Go p.tables e below (P3 Z p0 p1 xs h0 n0 s) (T115.setTop (mkF m 74 #[.val (.ref p0), .val (.ref p1), .val (.int z120), .val (.int z121), .val (.int i), .val (.int z117)] [])) := by
          intro z120 z121 hz120 hz121
          show Go p.tables e below (P3 Z p0 p1 xs h0 n0 s) (T115.setTop (mkF m 74 #[.val (.ref p0), .val (.ref p1), .val (.int z120), .val (.int z121), .val (.int i), .val (.int z117)] []))
          refine Go.back (fun t k => XS.aloadN Y115.here hx rfl (hb hby d3_74) rfl rfl  k) ?_
          show Go p.tables e below (P3 Z p0 p1 xs h0 n0 s) (T115.setTop (mkF m 75 #[.val (.ref p0), .val (.ref p1), .val (.int z120), .val (.int z121), .val (.int i), .val (.int z117)] [(.ref p0)]))
          obtain ⟨T122, X122, e122, st122⟩ := getF Y115 hx hZ hown (host := "") (Or.inl (hw _ (List.mem_of_getElem? (i := 20) rfl))) Via.refl e115 F89 (g := (mkF m 75 #[.val (.ref p0), .val (.ref p1), .val (.int z120), .val (.int z121), .val (.int i), .val (.int z117)] [(.ref p0)])) rfl rfl (hb hby d3_75)
          refine Go.back st122 ?_
          show Go p.tables e below (P3 Z p0 p1 xs h0 n0 s) (T122.setTop (mkF m 78 #[.val (.ref p0), .val (.ref p1), .val (.int z120), .val (.int z121), .val (.int i), .val (.int z117)] [(.ref b3)]))
          refine Go.back (fun t k => XS.iload X122.here hx rfl (hb hby d3_78) rfl  k) ?_
          show Go p.tables e below (P3 Z p0 p1 xs h0 n0 s) (T122.setTop (mkF m 80 #[.val (.ref p0), .val (.ref p1), .val (.int z120), .val (.int z121), .val (.int i), .val (.int z117)] [(.int i), (.ref b3)]))
          refine Go.back (fun t k => XS.iloadN X122.here hx rfl (hb hby d3_80) rfl  k) ?_
          show Go p.tables e below (P3 Z p0 p1 xs h0 n0 s) (T122.setTop (mkF m 81 #[.val (.ref p0), .val (.ref p1), .val (.int z120), .val (.int z121), .val (.int i), .val (.int z117)] [(.int z120), (.int i), (.ref b3)]))
          refine Go.back (fun t k => XS.iconst X122.here hx rfl (hb hby d3_81) k) ?_
          show Go p.tables e below (P3 Z p0 p1 xs h0 n0 s) (T122.setTop (mkF m 82 #[.val (.ref p0), .val (.ref p1), .val (.int z120), .val (.int z121), .val (.int i), .val (.int z117)] [(.int (1 : Int32)), (.int z120), (.int i), (.ref b3)]))
          refine Go.back (fun t k => XS.isub X122.here hx rfl (hb hby d3_82) rfl k) ?_
          show Go p.tables e below (P3 Z p0 p1 xs h0 n0 s) (T122.setTop (mkF m 83 #[.val (.ref p0), .val (.ref p1), .val (.int z120), .val (.int z121), .val (.int i), .val (.int z117)] [(.int (z120 - (1 : Int32))), (.int i), (.ref b3)]))
          obtain ⟨cl123, Ar123, hi123, -⟩ := F96.at (j := i) (own_ib_nn hbd) (by simpa using (own_ib_in hbd hbd.2.2.2.1))
          obtain ⟨T123, h123, X123, e123, W123, st123⟩ := stI X122 hx hZ e122 Ar123 (j := i) hi123 (g := (mkF m 83 #[.val (.ref p0), .val (.ref p1), .val (.int z120), .val (.int z121), .val (.int i), .val (.int z117)] [(.int (z120 - (1 : Int32))), (.int i), (.ref b3)])) rfl rfl (hb hby d3_83)
          have F124 : Exa Z h123 p0 "com/example/onward/onward/explore/Packing" := F88.wr W123
          have F125 : Fld Z h123 p0 "com/example/onward/onward/explore/Packing" "word" "[I" (.ref b3) := F89.other W123 (Or.inl ne4)
          have F126 : Fld Z h123 p0 "com/example/onward/onward/explore/Packing" "shift" "[I" (.ref b28) := F90.other W123 (Or.inl ne4)
          have F127 : Fld Z h123 p0 "com/example/onward/onward/explore/Packing" "mask" "[J" (.ref b56) := F91.other W123 (Or.inl ne4)
          have F128 : Fld Z h123 p0 "com/example/onward/onward/explore/Packing" "words" "I" (.int (0 : Int32)) := F92.other W123 (Or.inl ne4)
          have F129 : ArL Z h123 p1 .int (List.map Value.int xs) := F93.other W123 ne5
          have F130 : n0 ≤ h123.size := Nat.le_trans F94 (Keep.of_wr W123).1
          have F131 : Keep h0 h123 [p0] := F95.wr W123 (Or.inr sz7)
          have F132 : ArL Z h123 b3 .int (List.map Value.int (List.set W (i).toNatClampNeg (z120 - (1 : Int32)))) := ArL.setI (xs := W) F96 W123
          have F133 : ArL Z h123 b28 .int (List.map Value.int S) := F97.other W123 (Ne.symm ne31)
          have F134 : ArL Z h123 b56 .long (List.map Value.long M) := F98.other W123 (Ne.symm ne59)
          obtain ⟨Lo123, Y123, N123⟩ := pk X123 (Fr.snoc X123 N115 g6)
          refine Go.back st123 ?_
          show Go p.tables e below (P3 Z p0 p1 xs h0 n0 s) (T123.setTop (mkF m 84 #[.val (.ref p0), .val (.ref p1), .val (.int z120), .val (.int z121), .val (.int i), .val (.int z117)] []))
          refine Go.back (fun t k => XS.aloadN Y123.here hx rfl (hb hby d3_84) rfl rfl  k) ?_
          show Go p.tables e below (P3 Z p0 p1 xs h0 n0 s) (T123.setTop (mkF m 85 #[.val (.ref p0), .val (.ref p1), .val (.int z120), .val (.int z121), .val (.int i), .val (.int z117)] [(.ref p0)]))
          obtain ⟨T135, X135, e135, st135⟩ := getF Y123 hx hZ hown (host := "") (Or.inl (hw _ (List.mem_of_getElem? (i := 22) rfl))) Via.refl e123 F126 (g := (mkF m 85 #[.val (.ref p0), .val (.ref p1), .val (.int z120), .val (.int z121), .val (.int i), .val (.int z117)] [(.ref p0)])) rfl rfl (hb hby d3_85)
          refine Go.back st135 ?_
          show Go p.tables e below (P3 Z p0 p1 xs h0 n0 s) (T135.setTop (mkF m 88 #[.val (.ref p0), .val (.ref p1), .val (.int z120), .val (.int z121), .val (.int i), .val (.int z117)] [(.ref b28)]))
          refine Go.back (fun t k => XS.iload X135.here hx rfl (hb hby d3_88) rfl  k) ?_
          show Go p.tables e below (P3 Z p0 p1 xs h0 n0 s) (T135.setTop (mkF m 90 #[.val (.ref p0), .val (.ref p1), .val (.int z120), .val (.int z121), .val (.int i), .val (.int z117)] [(.int i), (.ref b28)]))
          refine Go.back (fun t k => XS.iloadN X135.here hx rfl (hb hby d3_90) rfl  k) ?_
          show Go p.tables e below (P3 Z p0 p1 xs h0 n0 s) (T135.setTop (mkF m 91 #[.val (.ref p0), .val (.ref p1), .val (.int z120), .val (.int z121), .val (.int i), .val (.int z117)] [(.int z121), (.int i), (.ref b28)]))
          obtain ⟨cl136, Ar136, hi136, -⟩ := F133.at (j := i) (own_ib_nn hbd) (by simpa using (own_ib_in hbd hbd.2.2.2.2.1))
          obtain ⟨T136, h136, X136, e136, W136, st136⟩ := stI X135 hx hZ e135 Ar136 (j := i) hi136 (g := (mkF m 91 #[.val (.ref p0), .val (.ref p1), .val (.int z120), .val (.int z121), .val (.int i), .val (.int z117)] [(.int z121), (.int i), (.ref b28)])) rfl rfl (hb hby d3_91)
          have F137 : Exa Z h136 p0 "com/example/onward/onward/explore/Packing" := F124.wr W136
          have F138 : Fld Z h136 p0 "com/example/onward/onward/explore/Packing" "word" "[I" (.ref b3) := F125.other W136 (Or.inl ne29)
          have F139 : Fld Z h136 p0 "com/example/onward/onward/explore/Packing" "shift" "[I" (.ref b28) := F126.other W136 (Or.inl ne29)
          have F140 : Fld Z h136 p0 "com/example/onward/onward/explore/Packing" "mask" "[J" (.ref b56) := F127.other W136 (Or.inl ne29)
          have F141 : Fld Z h136 p0 "com/example/onward/onward/explore/Packing" "words" "I" (.int (0 : Int32)) := F128.other W136 (Or.inl ne29)
          have F142 : ArL Z h136 p1 .int (List.map Value.int xs) := F129.other W136 ne30
          have F143 : n0 ≤ h136.size := Nat.le_trans F130 (Keep.of_wr W136).1
          have F144 : Keep h0 h136 [p0] := F131.wr W136 (Or.inr sz33)
          have F145 : ArL Z h136 b3 .int (List.map Value.int (List.set W (i).toNatClampNeg (z120 - (1 : Int32)))) := F132.other W136 ne31
          have F146 : ArL Z h136 b28 .int (List.map Value.int (List.set S (i).toNatClampNeg z121)) := ArL.setI (xs := S) F133 W136
          have F147 : ArL Z h136 b56 .long (List.map Value.long M) := F134.other W136 (Ne.symm ne60)
          obtain ⟨Lo136, Y136, N136⟩ := pk X136 (Fr.snoc X136 N123 g32)
          refine Go.back st136 ?_
          show Go p.tables e below (P3 Z p0 p1 xs h0 n0 s) (T136.setTop (mkF m 92 #[.val (.ref p0), .val (.ref p1), .val (.int z120), .val (.int z121), .val (.int i), .val (.int z117)] []))
          refine Go.back (fun t k => XS.aloadN Y136.here hx rfl (hb hby d3_92) rfl rfl  k) ?_
          show Go p.tables e below (P3 Z p0 p1 xs h0 n0 s) (T136.setTop (mkF m 93 #[.val (.ref p0), .val (.ref p1), .val (.int z120), .val (.int z121), .val (.int i), .val (.int z117)] [(.ref p0)]))
          obtain ⟨T148, X148, e148, st148⟩ := getF Y136 hx hZ hown (host := "") (Or.inl (hw _ (List.mem_of_getElem? (i := 25) rfl))) Via.refl e136 F140 (g := (mkF m 93 #[.val (.ref p0), .val (.ref p1), .val (.int z120), .val (.int z121), .val (.int i), .val (.int z117)] [(.ref p0)])) rfl rfl (hb hby d3_93)
          refine Go.back st148 ?_
          show Go p.tables e below (P3 Z p0 p1 xs h0 n0 s) (T148.setTop (mkF m 96 #[.val (.ref p0), .val (.ref p1), .val (.int z120), .val (.int z121), .val (.int i), .val (.int z117)] [(.ref b56)]))
          refine Go.back (fun t k => XS.iload X148.here hx rfl (hb hby d3_96) rfl  k) ?_
          show Go p.tables e below (P3 Z p0 p1 xs h0 n0 s) (T148.setTop (mkF m 98 #[.val (.ref p0), .val (.ref p1), .val (.int z120), .val (.int z121), .val (.int i), .val (.int z117)] [(.int i), (.ref b56)]))
          refine Go.back (fun t k => XS.lconst X148.here hx rfl (hb hby d3_98) k) ?_
          show Go p.tables e below (P3 Z p0 p1 xs h0 n0 s) (T148.setTop (mkF m 99 #[.val (.ref p0), .val (.ref p1), .val (.int z120), .val (.int z121), .val (.int i), .val (.int z117)] [(.long (1 : Int64)), (.int i), (.ref b56)]))
          refine Go.back (fun t k => XS.iload X148.here hx rfl (hb hby d3_99) rfl  k) ?_
          show Go p.tables e below (P3 Z p0 p1 xs h0 n0 s) (T148.setTop (mkF m 101 #[.val (.ref p0), .val (.ref p1), .val (.int z120), .val (.int z121), .val (.int i), .val (.int z117)] [(.int z117), (.long (1 : Int64)), (.int i), (.ref b56)]))
          refine Go.back (fun t k => XS.lshl X148.here hx rfl (hb hby d3_101) rfl k) ?_
          show Go p.tables e below (P3 Z p0 p1 xs h0 n0 s) (T148.setTop (mkF m 102 #[.val (.ref p0), .val (.ref p1), .val (.int z120), .val (.int z121), .val (.int i), .val (.int z117)] [(.long (((1 : Int64) <<< (z117 &&& 0x3f).toInt64))), (.int i), (.ref b56)]))
          refine Go.back (fun t k => XS.lconst X148.here hx rfl (hb hby d3_102) k) ?_
          show Go p.tables e below (P3 Z p0 p1 xs h0 n0 s) (T148.setTop (mkF m 103 #[.val (.ref p0), .val (.ref p1), .val (.int z120), .val (.int z121), .val (.int i), .val (.int z117)] [(.long (1 : Int64)), (.long (((1 : Int64) <<< (z117 &&& 0x3f).toInt64))), (.int i), (.ref b56)]))
          refine Go.back (fun t k => XS.lsub X148.here hx rfl (hb hby d3_103) rfl k) ?_
          show Go p.tables e below (P3 Z p0 p1 xs h0 n0 s) (T148.setTop (mkF m 104 #[.val (.ref p0), .val (.ref p1), .val (.int z120), .val (.int z121), .val (.int i), .val (.int z117)] [(.long ((((1 : Int64) <<< (z117 &&& 0x3f).toInt64)) - (1 : Int64))), (.int i), (.ref b56)]))
          obtain ⟨cl149, Ar149, hi149, -⟩ := F147.at (j := i) (own_ib_nn hbd) (by simpa using (own_ib_in hbd hbd.2.2.2.2.2))
          obtain ⟨T149, h149, X149, e149, W149, st149⟩ := stJ X148 hx hZ e148 Ar149 (j := i) hi149 (g := (mkF m 104 #[.val (.ref p0), .val (.ref p1), .val (.int z120), .val (.int z121), .val (.int i), .val (.int z117)] [(.long ((((1 : Int64) <<< (z117 &&& 0x3f).toInt64)) - (1 : Int64))), (.int i), (.ref b56)])) rfl rfl (hb hby d3_104)
          have F150 : Exa Z h149 p0 "com/example/onward/onward/explore/Packing" := F137.wr W149
          have F151 : Fld Z h149 p0 "com/example/onward/onward/explore/Packing" "word" "[I" (.ref b3) := F138.other W149 (Or.inl ne57)
          have F152 : Fld Z h149 p0 "com/example/onward/onward/explore/Packing" "shift" "[I" (.ref b28) := F139.other W149 (Or.inl ne57)
          have F153 : Fld Z h149 p0 "com/example/onward/onward/explore/Packing" "mask" "[J" (.ref b56) := F140.other W149 (Or.inl ne57)
          have F154 : Fld Z h149 p0 "com/example/onward/onward/explore/Packing" "words" "I" (.int (0 : Int32)) := F141.other W149 (Or.inl ne57)
          have F155 : ArL Z h149 p1 .int (List.map Value.int xs) := F142.other W149 ne58
          have F156 : n0 ≤ h149.size := Nat.le_trans F143 (Keep.of_wr W149).1
          have F157 : Keep h0 h149 [p0] := F144.wr W149 (Or.inr sz62)
          have F158 : ArL Z h149 b3 .int (List.map Value.int (List.set W (i).toNatClampNeg (z120 - (1 : Int32)))) := F145.other W149 ne59
          have F159 : ArL Z h149 b28 .int (List.map Value.int (List.set S (i).toNatClampNeg z121)) := F146.other W149 ne60
          have F160 : ArL Z h149 b56 .long (List.map Value.long (List.set M (i).toNatClampNeg ((((1 : Int64) <<< (z117 &&& 0x3f).toInt64)) - (1 : Int64)))) := ArL.setJ (xs := M) F147 W149
          obtain ⟨Lo149, Y149, N149⟩ := pk X149 (Fr.snoc X149 N136 g61)
          refine Go.back st149 ?_
          show Go p.tables e below (P3 Z p0 p1 xs h0 n0 s) (T149.setTop (mkF m 105 #[.val (.ref p0), .val (.ref p1), .val (.int z120), .val (.int z121), .val (.int i), .val (.int z117)] []))
          refine Go.back (fun t k => XS.iloadN Y149.here hx rfl (hb hby d3_105) rfl  k) ?_
          show Go p.tables e below (P3 Z p0 p1 xs h0 n0 s) (T149.setTop (mkF m 106 #[.val (.ref p0), .val (.ref p1), .val (.int z120), .val (.int z121), .val (.int i), .val (.int z117)] [(.int z121)]))
          refine Go.back (fun t k => XS.iload Y149.here hx rfl (hb hby d3_106) rfl  k) ?_
          show Go p.tables e below (P3 Z p0 p1 xs h0 n0 s) (T149.setTop (mkF m 108 #[.val (.ref p0), .val (.ref p1), .val (.int z120), .val (.int z121), .val (.int i), .val (.int z117)] [(.int z117), (.int z121)]))
          refine Go.back (fun t k => XS.iadd Y149.here hx rfl (hb hby d3_108) rfl k) ?_
          show Go p.tables e below (P3 Z p0 p1 xs h0 n0 s) (T149.setTop (mkF m 109 #[.val (.ref p0), .val (.ref p1), .val (.int z120), .val (.int z121), .val (.int i), .val (.int z117)] [(.int (z121 + z117))]))
          refine Go.back (fun t k => XS.istoreN Y149.here hx rfl (hb hby d3_109) rfl (l' := #[.val (.ref p0), .val (.ref p1), .val (.int z120), .val (.int (z121 + z117)), .val (.int i), .val (.int z117)]) rfl k) ?_
          show Go p.tables e below (P3 Z p0 p1 xs h0 n0 s) (T149.setTop (mkF m 110 #[.val (.ref p0), .val (.ref p1), .val (.int z120), .val (.int (z121 + z117)), .val (.int i), .val (.int z117)] []))
          refine Go.back (fun t k => XS.iinc Y149.here hx rfl (hb hby d3_110) rfl (l' := #[.val (.ref p0), .val (.ref p1), .val (.int z120), .val (.int (z121 + z117)), .val (.int (i + (1 : Int32))), .val (.int z117)]) rfl k) ?_
          show Go p.tables e below (P3 Z p0 p1 xs h0 n0 s) (T149.setTop (mkF m 113 #[.val (.ref p0), .val (.ref p1), .val (.int z120), .val (.int (z121 + z117)), .val (.int (i + (1 : Int32))), .val (.int z117)] []))
          refine Go.back (fun t k => XS.goto Y149.here hx rfl (pc0 := 113) (pc' := 35) rfl (hb hby d3_113) (by decide) (by decide) k) ?_
          show Go p.tables e below (P3 Z p0 p1 xs h0 n0 s) (T149.setTop (mkF m 35 #[.val (.ref p0), .val (.ref p1), .val (.int z120), .val (.int (z121 + z117)), .val (.int (i + (1 : Int32))), .val (.int z117)] []))
          exact ih z120 (z121 + z117) (i + (1 : Int32)) (.val (.int z117)) (One.val rfl) (List.set W (i).toNatClampNeg (z120 - (1 : Int32))) (List.set S (i).toNatClampNeg z121) (List.set M (i).toNatClampNeg ((((1 : Int64) <<< (z117 &&& 0x3f).toInt64)) - (1 : Int64))) _ _ Y149 N149 h149 e149 F150 F151 F152 F153 F154 F155 F156 F157 F158 F159 F160 (own_ib_next hbd (by simp) (by simp) (by simp)) (by subst hz121; subst hz120; subst hz117; exact hr)
        have r161 : (if (64 : Int32) < (u + z117) then (w + (1 : Int32)) else w) = (if (64 : Int32) < (u + z117) then (w + (1 : Int32)) else w) := rfl
        have r162 : (if (64 : Int32) < (u + z117) then (0 : Int32) else u) = (if (64 : Int32) < (u + z117) then (0 : Int32) else u) := rfl
        by_cases hc118 : (64 : Int32) < (u + z117)
        · have r163 := r161.trans (if_pos hc118)
          have r164 := r162.trans (if_pos hc118)
          refine Go.back (fun t k => XS.icmpNo Y115.here hx rfl (hb hby d3_66) rfl (tlt hc118).2.2.2 k) ?_
          show Go p.tables e below (P3 Z p0 p1 xs h0 n0 s) (T115.setTop (mkF m 69 #[.val (.ref p0), .val (.ref p1), .val (.int w), .val (.int u), .val (.int i), .val (.int z117)] []))
          refine Go.back (fun t k => XS.iinc Y115.here hx rfl (hb hby d3_69) rfl (l' := #[.val (.ref p0), .val (.ref p1), .val (.int (w + (1 : Int32))), .val (.int u), .val (.int i), .val (.int z117)]) rfl k) ?_
          show Go p.tables e below (P3 Z p0 p1 xs h0 n0 s) (T115.setTop (mkF m 72 #[.val (.ref p0), .val (.ref p1), .val (.int (w + (1 : Int32))), .val (.int u), .val (.int i), .val (.int z117)] []))
          refine Go.back (fun t k => XS.iconst Y115.here hx rfl (hb hby d3_72) k) ?_
          show Go p.tables e below (P3 Z p0 p1 xs h0 n0 s) (T115.setTop (mkF m 73 #[.val (.ref p0), .val (.ref p1), .val (.int (w + (1 : Int32))), .val (.int u), .val (.int i), .val (.int z117)] [(.int (0 : Int32))]))
          refine Go.back (fun t k => XS.istoreN Y115.here hx rfl (hb hby d3_73) rfl (l' := #[.val (.ref p0), .val (.ref p1), .val (.int (w + (1 : Int32))), .val (.int (0 : Int32)), .val (.int i), .val (.int z117)]) rfl k) ?_
          show Go p.tables e below (P3 Z p0 p1 xs h0 n0 s) (T115.setTop (mkF m 74 #[.val (.ref p0), .val (.ref p1), .val (.int (w + (1 : Int32))), .val (.int (0 : Int32)), .val (.int i), .val (.int z117)] []))
          exact J119 (w + (1 : Int32)) (0 : Int32) r163.symm r164.symm
        · have r165 := r161.trans (if_neg hc118)
          have r166 := r162.trans (if_neg hc118)
          refine Go.back (fun t k => XS.icmpYes Y115.here hx rfl (pc0 := 66) (pc' := 74) rfl (hb hby d3_66) rfl (flt hc118).2.2.2 (by decide) (by decide) k) ?_
          show Go p.tables e below (P3 Z p0 p1 xs h0 n0 s) (T115.setTop (mkF m 74 #[.val (.ref p0), .val (.ref p1), .val (.int w), .val (.int u), .val (.int i), .val (.int z117)] []))
          exact J119 w u r165.symm r166.symm
      exact J116 _ rfl
  exact LOOP86 3 (1 : Int32) (0 : Int32) (0 : Int32) (.unset) One.u [(0 : Int32), (0 : Int32), (0 : Int32)] [(0 : Int32), (0 : Int32), (0 : Int32)] [(0 : Int64), (0 : Int64), (0 : Int64)] _ _ Y74 N74 h74 e74 F75 F76 F77 F78 F79 F80 F81 F82 F83 F84 F85 ⟨by decide, by decide, by decide, rfl, rfl, rfl⟩ rfl
theorem own_pos_ne {z : Int32} (h : (0 : Int32) < z) : ¬ (z.toInt64 = (0 : Int64)) := fun e => by
  have q := congrArg Int64.toInt e
  rw [c_i2l] at q
  rw [Int32.lt_iff_toInt_lt, own_l0] at h
  have : (0 : Int64).toInt = 0 := rfl
  omega
def own_w2 (w : Int32) : Prop := 1 ≤ w.toInt ∧ w.toInt ≤ 2
def own_wb (W : List Int32) (w : Int32) : Prop := ∀ k, k < W.length → 0 ≤ (List.getD W k (0 : Int32)).toInt ∧ (List.getD W k (0 : Int32)).toInt < w.toInt
def own_fill (v : Int64) : Nat → Int32 → List Int64 → List Int64
  | 0, _, K => K
  | n + 1, i, K => own_fill v n (i + (1 : Int32)) (List.set K (i).toNatClampNeg v)
def own_fb (n : Nat) (i to : Int32) (K : List Int64) : Prop := 0 ≤ i.toInt ∧ i.toInt + n = to.toInt ∧ to.toInt ≤ K.length
theorem own_fb_nn {n : Nat} {i to : Int32} {K : List Int64} (h : own_fb (n + 1) i to K) : ¬ i < (0 : Int32) := by rw [Int32.lt_iff_toInt_lt, own_l0]; have := h.1; omega
theorem own_fb_in {n : Nat} {i to : Int32} {K : List Int64} (h : own_fb (n + 1) i to K) : i.toNatClampNeg < K.length := by have := h.1; have := h.2.1; have := h.2.2; simp only [Int32.toNatClampNeg]; omega
theorem own_fb_z {i to : Int32} {K : List Int64} (h : own_fb 0 i to K) : ¬ i < to := by rw [Int32.lt_iff_toInt_lt]; have := h.2.1; omega
theorem own_fb_s {n : Nat} {i to : Int32} {K : List Int64} (h : own_fb (n + 1) i to K) : i < to := by rw [Int32.lt_iff_toInt_lt]; have := h.2.1; omega
theorem own_fb_next {n : Nat} {i to : Int32} {K K' : List Int64} (h : own_fb (n + 1) i to K) (hl : K'.length = K.length) : own_fb n (i + (1 : Int32)) to K' := by
  have e := c_iadd i 1; have r := rng32 (i + 1); have r2 := rng32 to; rw [own_l1] at e
  have := h.1; have := h.2.1; have := h.2.2
  exact ⟨by omega, by omega, by rw [hl]; omega⟩
theorem own_fill_len (v : Int64) : ∀ (n : Nat) (i : Int32) (K : List Int64), (own_fill v n i K).length = K.length
  | 0, _, _ => rfl
  | n + 1, i, K => by rw [own_fill, own_fill_len v n]; simp
def own_pack (ts W S : List Int32) (a : Int32) : Nat → Int32 → List Int64 → List Int64
  | 0, _, K => K
  | n + 1, i, K => own_pack ts W S a n (i + (1 : Int32)) (List.set K ((a + (List.getD W (i).toNatClampNeg (0 : Int32)))).toNatClampNeg ((List.getD K ((a + (List.getD W (i).toNatClampNeg (0 : Int32)))).toNatClampNeg (0 : Int64)) ||| (((List.getD ts (i).toNatClampNeg (0 : Int32)).toInt64 <<< ((List.getD S (i).toNatClampNeg (0 : Int32)) &&& 0x3f).toInt64))))
def own_packr (ts W S : List Int32) (a w : Int32) (ks : List Int64) : List Int64 := own_pack ts W S a 3 (0 : Int32) (own_fill (0 : Int64) (w).toNatClampNeg a ks)
theorem own_pack_len (ts W S : List Int32) (a : Int32) : ∀ (n : Nat) (i : Int32) (K : List Int64), (own_pack ts W S a n i K).length = K.length
  | 0, _, _ => rfl
  | n + 1, i, K => by rw [own_pack, own_pack_len ts W S a n]; simp
theorem own_packr_len (ts W S : List Int32) (a w : Int32) (ks : List Int64) : (own_packr ts W S a w ks).length = ks.length := by rw [own_packr, own_pack_len, own_fill_len]
def own_pq (a w : Int32) (ks : List Int64) : Prop := 0 ≤ a.toInt ∧ own_w2 w ∧ a.toInt + w.toInt ≤ ks.length ∧ ks.length ≤ 4
theorem own_pq_add {a w : Int32} {ks : List Int64} (h : own_pq a w ks) : (a + w).toInt = a.toInt + w.toInt := by
  have e := c_iadd a w; have r := rng32 (a + w); have := h.1; have := h.2.1.1; have := h.2.2.1; have := h.2.2.2; omega
theorem own_pq1 {a w : Int32} {ks : List Int64} (h : own_pq a w ks) : ¬ (a + w) < a := by rw [Int32.lt_iff_toInt_lt, own_pq_add h]; have := h.2.1.1; omega
theorem own_pq2 {a w : Int32} {ks : List Int64} (h : own_pq a w ks) : ¬ a < (0 : Int32) := by rw [Int32.lt_iff_toInt_lt, own_l0]; have := h.1; omega
theorem own_len32 (n : Nat) (h : n ≤ 4) : (Nat.toInt32 n).toInt = n := by
  have e : (Nat.toInt32 n).toInt = (n : Int).bmod (2 ^ 32) := Int32.toInt_ofNat
  rw [e, Int.bmod]; split <;> omega
theorem own_pq3 {a w : Int32} {ks : List Int64} (h : own_pq a w ks) : ¬ (List.length ks).toInt32 < (a + w) := by rw [Int32.lt_iff_toInt_lt, own_pq_add h, own_len32 _ h.2.2.2]; have := h.2.2.1; omega
theorem own_pq4 {a w : Int32} {ks : List Int64} (h : own_pq a w ks) : own_fb (w).toNatClampNeg a (a + w) ks := by
  have := h.1; have := h.2.1.1
  refine ⟨h.1, ?_, ?_⟩
  · rw [own_pq_add h]; simp only [Int32.toNatClampNeg]; omega
  · rw [own_pq_add h]; exact h.2.2.1
def own_kb (n : Nat) (i : Int32) (K ks : List Int64) : Prop := 0 ≤ i.toInt ∧ i.toInt + n = 3 ∧ K.length = ks.length
theorem own_kb0 (v : Int64) (n : Nat) (a : Int32) (ks : List Int64) : own_kb 3 (0 : Int32) (own_fill v n a ks) ks := ⟨by decide, by decide, own_fill_len v n a ks⟩
theorem own_kb_nn {n : Nat} {i : Int32} {K ks : List Int64} (h : own_kb (n + 1) i K ks) : ¬ i < (0 : Int32) := by rw [Int32.lt_iff_toInt_lt, own_l0]; have := h.1; omega
theorem own_kb_in {n k : Nat} {i : Int32} {K ks : List Int64} (h : own_kb (n + 1) i K ks) (hk : k = 3) : i.toNatClampNeg < k := by have := h.1; have := h.2.1; simp only [Int32.toNatClampNeg]; omega
theorem own_kb_z {i : Int32} {K ks : List Int64} (h : own_kb 0 i K ks) : ¬ i < (3 : Int32) := by rw [Int32.lt_iff_toInt_lt, show (3 : Int32).toInt = 3 from rfl]; have := h.2.1; omega
theorem own_kb_s {n : Nat} {i : Int32} {K ks : List Int64} (h : own_kb (n + 1) i K ks) : i < (3 : Int32) := by rw [Int32.lt_iff_toInt_lt, show (3 : Int32).toInt = 3 from rfl]; have := h.2.1; omega
theorem own_kb_next {n : Nat} {i : Int32} {K K' ks : List Int64} (h : own_kb (n + 1) i K ks) (hl : K'.length = K.length) : own_kb n (i + (1 : Int32)) K' ks := by
  have e := c_iadd i 1; have r := rng32 (i + 1); rw [own_l1] at e
  have := h.1; have := h.2.1
  exact ⟨by omega, by omega, by rw [hl]; exact h.2.2⟩
theorem own_kx {n : Nat} {i a w : Int32} {K ks : List Int64} {W : List Int32} (h : own_kb (n + 1) i K ks) (q : own_pq a w ks) (hW : W.length = 3) (hwb : own_wb W w) : 0 ≤ (a + (List.getD W (i).toNatClampNeg (0 : Int32))).toInt ∧ (a + (List.getD W (i).toNatClampNeg (0 : Int32))).toInt < K.length := by
  have b := hwb i.toNatClampNeg (own_kb_in h hW)
  have e := c_iadd a (List.getD W (i).toNatClampNeg (0 : Int32)); have r := rng32 (a + (List.getD W (i).toNatClampNeg (0 : Int32)))
  have := q.1; have := q.2.1.2; have := q.2.2.1; have := q.2.2.2; have := h.2.2
  omega
theorem own_kx1 {n : Nat} {i a w : Int32} {K ks : List Int64} {W : List Int32} (h : own_kb (n + 1) i K ks) (q : own_pq a w ks) (hW : W.length = 3) (hwb : own_wb W w) : ¬ (a + (List.getD W (i).toNatClampNeg (0 : Int32))) < (0 : Int32) := by
  rw [Int32.lt_iff_toInt_lt, own_l0]; have := own_kx h q hW hwb; omega
theorem own_kx2 {n : Nat} {i a w : Int32} {K ks : List Int64} {W : List Int32} (h : own_kb (n + 1) i K ks) (q : own_pq a w ks) (hW : W.length = 3) (hwb : own_wb W w) : (a + (List.getD W (i).toNatClampNeg (0 : Int32))).toNatClampNeg < K.length := by
  have := own_kx h q hW hwb; show (a + (List.getD W (i).toNatClampNeg (0 : Int32))).toInt.toNat < K.length; omega
def own_sts (wi si : Int32) (mi : Int64) (w : Int32) (ks : List Int64) : Nat → Int32 → List Int32 → List Int32
  | 0, _, O => O
  | n + 1, k, O => own_sts wi si mi w ks n (k + (1 : Int32)) (List.set O (k).toNatClampNeg ((((List.getD ks (((k * w) + wi)).toNatClampNeg (0 : Int64)).toUInt64 >>> (si &&& 0x3f).toInt64.toUInt64).toInt64 &&& mi).toInt32))
theorem own_sts_len (wi si : Int32) (mi : Int64) (w : Int32) (ks : List Int64) : ∀ (n : Nat) (k : Int32) (O : List Int32), (own_sts wi si mi w ks n k O).length = O.length
  | 0, _, _ => rfl
  | n + 1, k, O => by rw [own_sts, own_sts_len wi si mi w ks n]; simp
def own_i3 (i : Int32) : Prop := ¬ i < (0 : Int32) ∧ i.toInt < 3
theorem own_ix {i : Int32} {k : Nat} (h : own_i3 i) (hk : k = 3) : i.toNatClampNeg < k := by have := h.2; simp only [Int32.toNatClampNeg]; omega
def own_hs (c w wi : Int32) (ks : List Int64) : Prop := 0 ≤ c.toInt ∧ c.toInt ≤ 2 ∧ own_w2 w ∧ 0 ≤ wi.toInt ∧ wi.toInt < w.toInt ∧ (ks.length : Int) = 2 * w.toInt
def own_sb (n : Nat) (k c : Int32) (O : List Int32) : Prop := 0 ≤ k.toInt ∧ k.toInt + n = c.toInt ∧ c.toInt ≤ 2 ∧ O.length = 3
theorem own_sb0 {c w wi : Int32} {ks : List Int64} {os : List Int32} (h : own_hs c w wi ks) (ho : os.length = 3) : own_sb (c).toNatClampNeg (0 : Int32) c os := ⟨by decide, by rw [own_l0]; simp only [Int32.toNatClampNeg]; have := h.1; omega, h.2.1, ho⟩
theorem own_sb_nn {n : Nat} {k c : Int32} {O : List Int32} (h : own_sb (n + 1) k c O) : ¬ k < (0 : Int32) := by rw [Int32.lt_iff_toInt_lt, own_l0]; have := h.1; omega
theorem own_sb_in {n : Nat} {k c : Int32} {O : List Int32} (h : own_sb (n + 1) k c O) : k.toNatClampNeg < O.length := by have := h.1; have := h.2.1; have := h.2.2.1; rw [h.2.2.2]; simp only [Int32.toNatClampNeg]; omega
theorem own_sb_z {k c : Int32} {O : List Int32} (h : own_sb 0 k c O) : ¬ k < c := by rw [Int32.lt_iff_toInt_lt]; have := h.2.1; omega
theorem own_sb_s {n : Nat} {k c : Int32} {O : List Int32} (h : own_sb (n + 1) k c O) : k < c := by rw [Int32.lt_iff_toInt_lt]; have := h.2.1; omega
theorem own_sb_next {n : Nat} {k c : Int32} {O O' : List Int32} (h : own_sb (n + 1) k c O) (hl : O'.length = O.length) : own_sb n (k + (1 : Int32)) c O' := by
  have e := c_iadd k 1; have r := rng32 (k + 1); rw [own_l1] at e
  have := h.1; have := h.2.1; have := h.2.2.1
  exact ⟨by omega, by omega, by omega, by rw [hl]; exact h.2.2.2⟩
theorem own_sx {n : Nat} {k c w wi : Int32} {O : List Int32} {ks : List Int64} (h : own_sb (n + 1) k c O) (q : own_hs c w wi ks) : ((k * w) + wi).toInt = k.toInt * w.toInt + wi.toInt ∧ 0 ≤ k.toInt * w.toInt + wi.toInt ∧ k.toInt * w.toInt + wi.toInt < 2 * w.toInt := by
  obtain ⟨q1, q2, q3, q4, q5, q6⟩ := q
  have := h.1; have := h.2.1; have := q3.1; have := q3.2
  have e1 := c_imul k w; have r1 := rng32 (k * w)
  have e2 := c_iadd (k * w) wi; have r2 := rng32 ((k * w) + wi)
  have hk : k.toInt = 0 ∨ k.toInt = 1 := by omega
  rcases hk with hk | hk <;> rw [hk] at e1 ⊢ <;> omega
theorem own_sx1 {n : Nat} {k c w wi : Int32} {O : List Int32} {ks : List Int64} (h : own_sb (n + 1) k c O) (q : own_hs c w wi ks) : ¬ ((k * w) + wi) < (0 : Int32) := by
  rw [Int32.lt_iff_toInt_lt, own_l0]; have := own_sx h q; omega
theorem own_sx2 {n : Nat} {k c w wi : Int32} {O : List Int32} {ks : List Int64} (h : own_sb (n + 1) k c O) (q : own_hs c w wi ks) : ((k * w) + wi).toNatClampNeg < ks.length := by
  have := own_sx h q; have := q.2.2.2.2.2; simp only [Int32.toNatClampNeg]; omega
theorem own_gset {α : Type} (xs : List α) (d : α) (i k : Nat) (v : α) (h : i < xs.length) : List.getD (List.set xs i v) k d = if i = k then v else List.getD xs k d := by
  rw [List.getD_eq_getElem?_getD, List.getElem?_set, List.getD_eq_getElem?_getD]
  by_cases e : i = k
  · subst e; simp [h]
  · simp [e]
theorem own_pk_ok (xs : List Int32) : ∀ (n j : Nat) (i w u : Int32) (W S : List Int32) (M : List Int64), own_inv j u w → j + n = 3 → i.toInt = j → W.length = 3 → S.length = 3 → M.length = 3 → (∀ k, k < j → 0 ≤ (List.getD W k (0 : Int32)).toInt ∧ (List.getD W k (0 : Int32)).toInt < w.toInt) →
    (own_pk xs n i w u W S M).2.1.length = 3 ∧ (own_pk xs n i w u W S M).2.2.1.length = 3 ∧ (own_pk xs n i w u W S M).2.2.2.length = 3 ∧ own_w2 (own_pk xs n i w u W S M).1 ∧ own_wb (own_pk xs n i w u W S M).2.1 (own_pk xs n i w u W S M).1
  | 0, j, i, w, u, W, S, M, h, hj, hi, h1, h2, h3, h4 => by
    have d := own_inv_bd h
    rw [own_pk_zero]
    exact ⟨h1, h2, h3, ⟨d.2.2.1, by have := d.2.2.2.2.2 (by omega); show w.toInt ≤ 2; omega⟩, fun k hk => h4 k (by have : k < W.length := hk; omega)⟩
  | n + 1, j, i, w, u, W, S, M, h, hj, hi, h1, h2, h3, h4 => by
    rw [own_pk_eq]
    have hb := own_bw_rng (List.getD xs (i).toNatClampNeg (0 : Int32))
    generalize own_bw (List.getD xs (i).toNatClampNeg (0 : Int32)) = b at *
    have s := own_inv_step h hb (by omega)
    have d := own_inv_bd s
    have d0 := own_inv_bd h
    have e := c_iadd i 1; have r := rng32 (i + 1); rw [own_l1] at e
    have ix : i.toNatClampNeg = j := by simp only [Int32.toNatClampNeg]; omega
    have mono : w.toInt ≤ (if (64 : Int32) < (u + b) then (w + (1 : Int32)) else w).toInt := by
      split
      · have e1 := c_iadd w 1; have r1 := rng32 (w + 1); rw [own_l1] at e1; omega
      · omega
    refine own_pk_ok xs n (j + 1) _ _ _ _ _ _ s (by omega) (by omega) (by simp [h1]) (by simp [h2]) (by simp [h3]) (fun k hk => ?_)
    rw [ix, own_gset _ _ _ _ _ (by omega)]
    split
    · rw [own_sub1 d.2.2.1]; omega
    · have := h4 k (by omega); omega
theorem own_pkr_ok (xs : List Int32) : (own_pkr xs).2.1.length = 3 ∧ (own_pkr xs).2.2.1.length = 3 ∧ (own_pkr xs).2.2.2.length = 3 ∧ own_w2 (own_pkr xs).1 ∧ own_wb (own_pkr xs).2.1 (own_pkr xs).1 :=
  own_pk_ok xs 3 0 0 1 0 _ _ _ own_inv0 rfl rfl rfl rfl rfl (fun k hk => absurd hk (Nat.not_lt_zero _))
theorem own_two {w : Int32} (h : own_w2 w) : ((2 : Int32) * w).toInt = 2 * w.toInt := by
  have e := c_imul 2 w; have r := rng32 (2 * w); have := h.1; have := h.2; rw [show (2 : Int32).toInt = 2 from rfl] at e; omega
theorem d1_0 : decode method_2_code 0 = .ok (.iload_n 2, 1) := by decide +kernel
theorem d1_1 : decode method_2_code 1 = .ok (.ifCond .gt 5, 3) := by decide +kernel
theorem d1_4 : decode method_2_code 4 = .ok (.iconst 0, 1) := by decide +kernel
theorem d1_5 : decode method_2_code 5 = .ok (.ireturn, 1) := by decide +kernel
theorem d1_6 : decode method_2_code 6 = .ok (.lload_n 0, 1) := by decide +kernel
theorem d1_7 : decode method_2_code 7 = .ok (.ldc2_w 7, 3) := by decide +kernel
theorem d1_10 : decode method_2_code 10 = .ok (.land, 1) := by decide +kernel
theorem d1_11 : decode method_2_code 11 = .ok (.iload_n 2, 1) := by decide +kernel
theorem d1_12 : decode method_2_code 12 = .ok (.i2l, 1) := by decide +kernel
theorem d1_13 : decode method_2_code 13 = .ok (.lrem, 1) := by decide +kernel
theorem d1_14 : decode method_2_code 14 = .ok (.l2i, 1) := by decide +kernel
theorem d1_15 : decode method_2_code 15 = .ok (.ireturn, 1) := by decide +kernel
def f1 (p0 : Int64) (p1 : Int32) : Int32 := (if (0 : Int32) < p1 then ((((p0 &&& (2147483647 : Int64)) % ((p1).toInt64))).toInt32) else (0 : Int32))
def Q1 (p0 : Int64) (p1 : Int32) (h0 : Heap) (n0 : Nat) (v : Option Value) (h : Heap) (L : List Loc) : Prop := v = some (.int (f1 p0 p1)) ∧ Fr n0 L ∧ h = h0
abbrev rmm1 : Room := { frames := 0, cells := 0, slots := 0, locals := 0 }
abbrev P1 (p0 : Int64) (p1 : Int32) (h0 : Heap) (n0 : Nat) (s : State) : Outcome → State → Prop := fun o U' => ∃ v L, o = .returned v ∧ Q1 p0 p1 h0 n0 v U'.heap L ∧ FrameEnd s o U' L rmm1.cells rmm1.slots
theorem pn_1 : plainName "com/example/onward/onward/explore/PackingStatesPinLaw" = true := by first | (simp [plainName, overriddenIn]; done) | decide +kernel
theorem ef_1 (m : MethodId) (p0 : Int64) (p1 : Int32) : entryFrame m #[(.long p0), (.int p1)] 3 = mkF m 0 #[.val (.long p0), .second, .val (.int p1)] [] := by first | (simp [entryFrame, mkF, argsToLocals, Value.category]; done) | rfl
set_option maxRecDepth 65536 in
set_option maxHeartbeats 40000000 in
theorem rm1 (l : Launch) (Z : State) (a0 : Array Value) (hw : ∀ d ∈ tables_1, d.before a0 Z = true) (ws : List Jvm.Cond) (p0 : Int64) (p1 : Int32) (h0 : Heap) (n0 : Nat) :
    MetFree l (⟨"com/example/onward/onward/explore/PackingStatesPinLaw", "st", "(JI)I"⟩ : MethodName) (head1 (Jvm.Cond.code (⟨"com/example/onward/onward/explore/PackingStatesPinLaw", "st", "(JI)I"⟩ : MethodName) method_2_code 3 (some .int) :: ws) rmm1) (fun a U => a = #[(.long p0), (.int p1)] ∧ Z.Warmed39 U.vm ∧ U.heap = h0) (fun _ _ _ _ _ => True) (fun _ U o U' => ∃ v L, o = .returned v ∧ Q1 p0 p1 h0 n0 v U'.heap L ∧ FrameEnd U o U' L rmm1.cells rmm1.slots) := by
  refine MetFree.of_bodySF (plainFor_of_name pn_1) hisR ?_
  intro p e s m args below meth c s₁ Bd hml0 hP hK
  obtain ⟨rfl, hZ, hh⟩ := hP
  have hx := Bd.exec
  have hby := Bd.bytes
  have hml : c.maxLocals = 3 := hml0
  have hown : s.vm.findClass "com/example/onward/onward/explore/PackingStatesPinLaw" = some m.cls := findClass_of_methodNamed Bd.named
  have hnm := (name_of_methodNamed Bd.named Bd.method).1
  have X0 : Stand p l e rmm1 s m #[(.long p0), (.int p1)] below meth c s₁ [] 0 0 := Stand.of_body Bd
  have e0 : s₁.heap = h0 := by rw [← hh, Bd.state]; rfl
  have N0 := Fr.nil n0
  show Go p.tables e below (P1 p0 p1 h0 n0 s) (s₁.setTop (entryFrame m #[(.long p0), (.int p1)] 3))
  refine Go.back (fun t k => castTop (ef_1 m p0 p1) k) ?_
  show Go p.tables e below (P1 p0 p1 h0 n0 s) (s₁.setTop (mkF m 0 #[.val (.long p0), .second, .val (.int p1)] []))
  have hf : f1 p0 p1 = (if (0 : Int32) < p1 then ((((p0 &&& (2147483647 : Int64)) % ((p1).toInt64))).toInt32) else (0 : Int32)) := rfl
  refine Go.back (fun t k => XS.iloadN X0.here hx rfl (hb hby d1_0) rfl  k) ?_
  show Go p.tables e below (P1 p0 p1 h0 n0 s) (s₁.setTop (mkF m 1 #[.val (.long p0), .second, .val (.int p1)] [(.int p1)]))
  by_cases hc1 : (0 : Int32) < p1
  · have r2 := hf.trans (if_pos hc1)
    refine Go.back (fun t k => XS.ifYes X0.here hx rfl (pc0 := 1) (pc' := 6) rfl (hb hby d1_1) rfl ((if0 _ _).trans (tlt hc1).2.2.1) (by decide) (by decide) k) ?_
    show Go p.tables e below (P1 p0 p1 h0 n0 s) (s₁.setTop (mkF m 6 #[.val (.long p0), .second, .val (.int p1)] []))
    refine Go.back (fun t k => XS.lloadN X0.here hx rfl (hb hby d1_6) rfl  k) ?_
    show Go p.tables e below (P1 p0 p1 h0 n0 s) (s₁.setTop (mkF m 7 #[.val (.long p0), .second, .val (.int p1)] [(.long p0)]))
    refine Go.back (fun t k => X0.ldc2Long hx hown (mvT hZ (hw _ (List.mem_of_getElem? (i := 5) rfl))) (g := (mkF m 7 #[.val (.long p0), .second, .val (.int p1)] [(.long p0)])) rfl (hb hby d1_7) t k) ?_
    show Go p.tables e below (P1 p0 p1 h0 n0 s) (s₁.setTop (mkF m 10 #[.val (.long p0), .second, .val (.int p1)] [(.long (2147483647 : Int64)), (.long p0)]))
    refine Go.back (fun t k => XS.land X0.here hx rfl (hb hby d1_10) rfl k) ?_
    show Go p.tables e below (P1 p0 p1 h0 n0 s) (s₁.setTop (mkF m 11 #[.val (.long p0), .second, .val (.int p1)] [(.long (p0 &&& (2147483647 : Int64)))]))
    refine Go.back (fun t k => XS.iloadN X0.here hx rfl (hb hby d1_11) rfl  k) ?_
    show Go p.tables e below (P1 p0 p1 h0 n0 s) (s₁.setTop (mkF m 12 #[.val (.long p0), .second, .val (.int p1)] [(.int p1), (.long (p0 &&& (2147483647 : Int64)))]))
    refine Go.back (fun t k => XS.i2l X0.here hx rfl (hb hby d1_12) rfl k) ?_
    show Go p.tables e below (P1 p0 p1 h0 n0 s) (s₁.setTop (mkF m 13 #[.val (.long p0), .second, .val (.int p1)] [(.long ((p1).toInt64)), (.long (p0 &&& (2147483647 : Int64)))]))
    refine Go.back (fun t k => lremM X0 hx rfl (hb hby d1_13) rfl (own_pos_ne hc1) k) ?_
    show Go p.tables e below (P1 p0 p1 h0 n0 s) (s₁.setTop (mkF m 14 #[.val (.long p0), .second, .val (.int p1)] [(.long ((p0 &&& (2147483647 : Int64)) % ((p1).toInt64)))]))
    refine Go.back (fun t k => XS.l2i X0.here hx rfl (hb hby d1_14) rfl k) ?_
    show Go p.tables e below (P1 p0 p1 h0 n0 s) (s₁.setTop (mkF m 15 #[.val (.long p0), .second, .val (.int p1)] [(.int ((((p0 &&& (2147483647 : Int64)) % ((p1).toInt64))).toInt32))]))
    exact Go.retI X0 hx Bd.returns (hb hby d1_15) Bd.notSynchronized ⟨by rw [r2], N0, e0⟩ (by decide) (by decide)
  · have r3 := hf.trans (if_neg hc1)
    refine Go.back (fun t k => XS.ifNo X0.here hx rfl (hb hby d1_1) rfl ((if0 _ _).trans (flt hc1).2.2.1) k) ?_
    show Go p.tables e below (P1 p0 p1 h0 n0 s) (s₁.setTop (mkF m 4 #[.val (.long p0), .second, .val (.int p1)] []))
    refine Go.back (fun t k => XS.iconst X0.here hx rfl (hb hby d1_4) k) ?_
    show Go p.tables e below (P1 p0 p1 h0 n0 s) (s₁.setTop (mkF m 5 #[.val (.long p0), .second, .val (.int p1)] [(.int (0 : Int32))]))
    exact Go.retI X0 hx Bd.returns (hb hby d1_5) Bd.notSynchronized ⟨by rw [r3], N0, e0⟩ (by decide) (by decide)
theorem d7_0 : decode prog_122_method_2_code 0 = .ok (.aload_n 0, 1) := by decide +kernel
theorem d7_1 : decode prog_122_method_2_code 1 = .ok (.getfield 34, 3) := by decide +kernel
theorem d7_4 : decode prog_122_method_2_code 4 = .ok (.ireturn, 1) := by decide +kernel
def f7 (w : Int32) : Int32 := w
def Q7 (Z : State) (p0 : Addr) (w : Int32) (h0 : Heap) (n0 : Nat) (v : Option Value) (h : Heap) (L : List Loc) : Prop := v = some (.int (f7 w)) ∧ Fr n0 L ∧ h = h0
abbrev rmm7 : Room := { frames := 0, cells := 0, slots := 0, locals := 0 }
abbrev P7 (Z : State) (p0 : Addr) (w : Int32) (h0 : Heap) (n0 : Nat) (s : State) : Outcome → State → Prop := fun o U' => ∃ v L, o = .returned v ∧ Q7 Z p0 w h0 n0 v U'.heap L ∧ FrameEnd s o U' L rmm7.cells rmm7.slots
theorem pn_7 : plainName "com/example/onward/onward/explore/Packing" = true := by first | (simp [plainName, overriddenIn]; done) | decide +kernel
theorem ef_7 (m : MethodId) (p0 : Addr) : entryFrame m #[(.ref p0)] 1 = mkF m 0 #[.val (.ref p0)] [] := by first | (simp [entryFrame, mkF, argsToLocals, Value.category]; done) | rfl
set_option maxRecDepth 65536 in
set_option maxHeartbeats 40000000 in
theorem rm7 (l : Launch) (Z : State) (a0 : Array Value) (hw : ∀ d ∈ tables_1, d.before a0 Z = true) (ws : List Jvm.Cond) (p0 : Addr) (w : Int32) (h0 : Heap) (n0 : Nat) (Z0 : n0 ≤ h0.size) (H0 : Fld Z h0 p0 "com/example/onward/onward/explore/Packing" "words" "I" (.int w)) :
    MetFree l (⟨"com/example/onward/onward/explore/Packing", "words", "()I"⟩ : MethodName) (head1 (Jvm.Cond.code (⟨"com/example/onward/onward/explore/Packing", "words", "()I"⟩ : MethodName) prog_122_method_2_code 1 (some .int) :: ws) rmm7) (fun a U => a = #[(.ref p0)] ∧ Z.Warmed39 U.vm ∧ U.heap = h0) (fun _ _ _ _ _ => True) (fun _ U o U' => ∃ v L, o = .returned v ∧ Q7 Z p0 w h0 n0 v U'.heap L ∧ FrameEnd U o U' L rmm7.cells rmm7.slots) := by
  refine MetFree.of_bodySF (plainFor_of_name pn_7) hisR ?_
  intro p e s m args below meth c s₁ Bd hml0 hP hK
  obtain ⟨rfl, hZ, hh⟩ := hP
  have hx := Bd.exec
  have hby := Bd.bytes
  have hml : c.maxLocals = 1 := hml0
  have hown : s.vm.findClass "com/example/onward/onward/explore/Packing" = some m.cls := findClass_of_methodNamed Bd.named
  have hnm := (name_of_methodNamed Bd.named Bd.method).1
  have X0 : Stand p l e rmm7 s m #[(.ref p0)] below meth c s₁ [] 0 0 := Stand.of_body Bd
  have e0 : s₁.heap = h0 := by rw [← hh, Bd.state]; rfl
  have N0 := Fr.nil n0
  show Go p.tables e below (P7 Z p0 w h0 n0 s) (s₁.setTop (entryFrame m #[(.ref p0)] 1))
  refine Go.back (fun t k => castTop (ef_7 m p0) k) ?_
  show Go p.tables e below (P7 Z p0 w h0 n0 s) (s₁.setTop (mkF m 0 #[.val (.ref p0)] []))
  have hf0 : f7 w = w := rfl
  refine Go.back (fun t k => XS.aloadN X0.here hx rfl (hb hby d7_0) rfl rfl  k) ?_
  show Go p.tables e below (P7 Z p0 w h0 n0 s) (s₁.setTop (mkF m 1 #[.val (.ref p0)] [(.ref p0)]))
  obtain ⟨T1, X1, e1, st1⟩ := getF X0 hx hZ hown (host := "") (Or.inl (hw _ (List.mem_of_getElem? (i := 35) rfl))) Via.refl e0 H0 (g := (mkF m 1 #[.val (.ref p0)] [(.ref p0)])) rfl rfl (hb hby d7_1)
  refine Go.back st1 ?_
  show Go p.tables e below (P7 Z p0 w h0 n0 s) (T1.setTop (mkF m 4 #[.val (.ref p0)] [(.int w)]))
  exact Go.retI X1 hx Bd.returns (hb hby d7_4) Bd.notSynchronized ⟨by rw [hf0], N0, e1⟩ (by decide) (by decide)
theorem d10_0 : decode jdk_65_method_30_code 0 = .ok (.iload_n 1, 1) := by decide +kernel
theorem d10_1 : decode jdk_65_method_30_code 1 = .ok (.iload_n 2, 1) := by decide +kernel
theorem d10_2 : decode jdk_65_method_30_code 2 = .ok (.if_icmp .le 44, 3) := by decide +kernel
theorem d10_46 : decode jdk_65_method_30_code 46 = .ok (.iload_n 1, 1) := by decide +kernel
theorem d10_47 : decode jdk_65_method_30_code 47 = .ok (.ifCond .ge 12, 3) := by decide +kernel
theorem d10_59 : decode jdk_65_method_30_code 59 = .ok (.iload_n 2, 1) := by decide +kernel
theorem d10_60 : decode jdk_65_method_30_code 60 = .ok (.iload_n 0, 1) := by decide +kernel
theorem d10_61 : decode jdk_65_method_30_code 61 = .ok (.if_icmp .le 12, 3) := by decide +kernel
theorem d10_73 : decode jdk_65_method_30_code 73 = .ok (.return_, 1) := by decide +kernel
def Q10 (Z : State) (p0 : Int32) (p1 : Int32) (p2 : Int32) (h0 : Heap) (n0 : Nat) (v : Option Value) (h : Heap) (L : List Loc) : Prop := v = none ∧ Fr n0 L ∧ h = h0
abbrev rmm10 : Room := { frames := 0, cells := 0, slots := 0, locals := 0 }
abbrev P10 (Z : State) (p0 : Int32) (p1 : Int32) (p2 : Int32) (h0 : Heap) (n0 : Nat) (s : State) : Outcome → State → Prop := fun o U' => ∃ v L, o = .returned v ∧ Q10 Z p0 p1 p2 h0 n0 v U'.heap L ∧ FrameEnd s o U' L rmm10.cells rmm10.slots
theorem pn_10 : plainName "java/util/Arrays" = true := by first | (simp [plainName, overriddenIn]; done) | decide +kernel
theorem ef_10 (m : MethodId) (p0 : Int32) (p1 : Int32) (p2 : Int32) : entryFrame m #[(.int p0), (.int p1), (.int p2)] 3 = mkF m 0 #[.val (.int p0), .val (.int p1), .val (.int p2)] [] := by first | (simp [entryFrame, mkF, argsToLocals, Value.category]; done) | rfl
set_option maxRecDepth 65536 in
set_option maxHeartbeats 40000000 in
theorem rm10 (l : Launch) (Z : State) (a0 : Array Value) (hw : ∀ d ∈ tables_1, d.before a0 Z = true) (ws : List Jvm.Cond) (p0 : Int32) (p1 : Int32) (p2 : Int32) (h0 : Heap) (n0 : Nat) (Z0 : n0 ≤ h0.size) (a1 : ¬ p2 < p1) (a2 : ¬ p1 < (0 : Int32)) (a3 : ¬ p0 < p2) :
    MetFree l (⟨"java/util/Arrays", "rangeCheck", "(III)V"⟩ : MethodName) (head1 (Jvm.Cond.code (⟨"java/util/Arrays", "rangeCheck", "(III)V"⟩ : MethodName) jdk_65_method_30_code 3 none :: ws) rmm10) (fun a U => a = #[(.int p0), (.int p1), (.int p2)] ∧ Z.Warmed39 U.vm ∧ U.heap = h0) (fun _ _ _ _ _ => True) (fun _ U o U' => ∃ v L, o = .returned v ∧ Q10 Z p0 p1 p2 h0 n0 v U'.heap L ∧ FrameEnd U o U' L rmm10.cells rmm10.slots) := by
  refine MetFree.of_bodySF (plainFor_of_name pn_10) hisR ?_
  intro p e s m args below meth c s₁ Bd hml0 hP hK
  obtain ⟨rfl, hZ, hh⟩ := hP
  have hx := Bd.exec
  have hby := Bd.bytes
  have hml : c.maxLocals = 3 := hml0
  have hown : s.vm.findClass "java/util/Arrays" = some m.cls := findClass_of_methodNamed Bd.named
  have hnm := (name_of_methodNamed Bd.named Bd.method).1
  have X0 : Stand p l e rmm10 s m #[(.int p0), (.int p1), (.int p2)] below meth c s₁ [] 0 0 := Stand.of_body Bd
  have e0 : s₁.heap = h0 := by rw [← hh, Bd.state]; rfl
  have N0 := Fr.nil n0
  show Go p.tables e below (P10 Z p0 p1 p2 h0 n0 s) (s₁.setTop (entryFrame m #[(.int p0), (.int p1), (.int p2)] 3))
  refine Go.back (fun t k => castTop (ef_10 m p0 p1 p2) k) ?_
  show Go p.tables e below (P10 Z p0 p1 p2 h0 n0 s) (s₁.setTop (mkF m 0 #[.val (.int p0), .val (.int p1), .val (.int p2)] []))
  refine Go.back (fun t k => XS.iloadN X0.here hx rfl (hb hby d10_0) rfl  k) ?_
  show Go p.tables e below (P10 Z p0 p1 p2 h0 n0 s) (s₁.setTop (mkF m 1 #[.val (.int p0), .val (.int p1), .val (.int p2)] [(.int p1)]))
  refine Go.back (fun t k => XS.iloadN X0.here hx rfl (hb hby d10_1) rfl  k) ?_
  show Go p.tables e below (P10 Z p0 p1 p2 h0 n0 s) (s₁.setTop (mkF m 2 #[.val (.int p0), .val (.int p1), .val (.int p2)] [(.int p2), (.int p1)]))
  refine Go.back (fun t k => XS.icmpYes X0.here hx rfl (pc0 := 2) (pc' := 46) rfl (hb hby d10_2) rfl (flt a1).2.2.2 (by decide) (by decide) k) ?_
  show Go p.tables e below (P10 Z p0 p1 p2 h0 n0 s) (s₁.setTop (mkF m 46 #[.val (.int p0), .val (.int p1), .val (.int p2)] []))
  refine Go.back (fun t k => XS.iloadN X0.here hx rfl (hb hby d10_46) rfl  k) ?_
  show Go p.tables e below (P10 Z p0 p1 p2 h0 n0 s) (s₁.setTop (mkF m 47 #[.val (.int p0), .val (.int p1), .val (.int p2)] [(.int p1)]))
  refine Go.back (fun t k => XS.ifYes X0.here hx rfl (pc0 := 47) (pc' := 59) rfl (hb hby d10_47) rfl ((if0 _ _).trans (flt a2).2.1) (by decide) (by decide) k) ?_
  show Go p.tables e below (P10 Z p0 p1 p2 h0 n0 s) (s₁.setTop (mkF m 59 #[.val (.int p0), .val (.int p1), .val (.int p2)] []))
  refine Go.back (fun t k => XS.iloadN X0.here hx rfl (hb hby d10_59) rfl  k) ?_
  show Go p.tables e below (P10 Z p0 p1 p2 h0 n0 s) (s₁.setTop (mkF m 60 #[.val (.int p0), .val (.int p1), .val (.int p2)] [(.int p2)]))
  refine Go.back (fun t k => XS.iloadN X0.here hx rfl (hb hby d10_60) rfl  k) ?_
  show Go p.tables e below (P10 Z p0 p1 p2 h0 n0 s) (s₁.setTop (mkF m 61 #[.val (.int p0), .val (.int p1), .val (.int p2)] [(.int p0), (.int p2)]))
  refine Go.back (fun t k => XS.icmpYes X0.here hx rfl (pc0 := 61) (pc' := 73) rfl (hb hby d10_61) rfl (flt a3).2.2.2 (by decide) (by decide) k) ?_
  show Go p.tables e below (P10 Z p0 p1 p2 h0 n0 s) (s₁.setTop (mkF m 73 #[.val (.int p0), .val (.int p1), .val (.int p2)] []))
  exact Go.retV X0 hx Bd.returns (hb hby d10_73) Bd.notSynchronized ⟨rfl, N0, e0⟩ (by decide) (by decide)
theorem d9_0 : decode jdk_65_method_102_code 0 = .ok (.aload_n 0, 1) := by decide +kernel
theorem d9_1 : decode jdk_65_method_102_code 1 = .ok (.arraylength, 1) := by decide +kernel
theorem d9_2 : decode jdk_65_method_102_code 2 = .ok (.iload_n 1, 1) := by decide +kernel
theorem d9_3 : decode jdk_65_method_102_code 3 = .ok (.iload_n 2, 1) := by decide +kernel
theorem d9_4 : decode jdk_65_method_102_code 4 = .ok (.invokestatic 13, 3) := by decide +kernel
theorem d9_7 : decode jdk_65_method_102_code 7 = .ok (.iload_n 1, 1) := by decide +kernel
theorem d9_8 : decode jdk_65_method_102_code 8 = .ok (.istore 5, 2) := by decide +kernel
theorem d9_10 : decode jdk_65_method_102_code 10 = .ok (.iload 5, 2) := by decide +kernel
theorem d9_12 : decode jdk_65_method_102_code 12 = .ok (.iload_n 2, 1) := by decide +kernel
theorem d9_13 : decode jdk_65_method_102_code 13 = .ok (.if_icmp .ge 14, 3) := by decide +kernel
theorem d9_16 : decode jdk_65_method_102_code 16 = .ok (.aload_n 0, 1) := by decide +kernel
theorem d9_17 : decode jdk_65_method_102_code 17 = .ok (.iload 5, 2) := by decide +kernel
theorem d9_19 : decode jdk_65_method_102_code 19 = .ok (.lload_n 3, 1) := by decide +kernel
theorem d9_20 : decode jdk_65_method_102_code 20 = .ok (.lastore, 1) := by decide +kernel
theorem d9_21 : decode jdk_65_method_102_code 21 = .ok (.iinc 5 1, 3) := by decide +kernel
theorem d9_24 : decode jdk_65_method_102_code 24 = .ok (.goto (-14), 3) := by decide +kernel
theorem d9_27 : decode jdk_65_method_102_code 27 = .ok (.return_, 1) := by decide +kernel
def Q9 (Z : State) (p0 : Addr) (p1 : Int32) (p2 : Int32) (p3 : Int64) (ks : List Int64) (nl : Int32) (nn : Nat) (h0 : Heap) (n0 : Nat) (v : Option Value) (h : Heap) (L : List Loc) : Prop := v = none ∧ Fr n0 L ∧ Keep h0 h [p0] ∧ ArL Z h p0 .long (List.map Value.long (own_fill p3 nn p1 ks))
abbrev rmm9 : Room := { frames := 1, cells := 0, slots := 0, locals := 14 }
abbrev P9 (Z : State) (p0 : Addr) (p1 : Int32) (p2 : Int32) (p3 : Int64) (ks : List Int64) (nl : Int32) (nn : Nat) (h0 : Heap) (n0 : Nat) (s : State) : Outcome → State → Prop := fun o U' => ∃ v L, o = .returned v ∧ Q9 Z p0 p1 p2 p3 ks nl nn h0 n0 v U'.heap L ∧ FrameEnd s o U' L rmm9.cells rmm9.slots
theorem pn_9 : plainName "java/util/Arrays" = true := by first | (simp [plainName, overriddenIn]; done) | decide +kernel
theorem ef_9 (m : MethodId) (p0 : Addr) (p1 : Int32) (p2 : Int32) (p3 : Int64) : entryFrame m #[(.ref p0), (.int p1), (.int p2), (.long p3)] 6 = mkF m 0 #[.val (.ref p0), .val (.int p1), .val (.int p2), .val (.long p3), .second, .unset] [] := by first | (simp [entryFrame, mkF, argsToLocals, Value.category]; done) | rfl
set_option maxRecDepth 65536 in
set_option maxHeartbeats 40000000 in
theorem rm9 (l : Launch) (Z : State) (a0 : Array Value) (hw : ∀ d ∈ tables_1, d.before a0 Z = true) (ws : List Jvm.Cond) (p0 : Addr) (p1 : Int32) (p2 : Int32) (p3 : Int64) (ks : List Int64) (nl : Int32) (nn : Nat) (h0 : Heap) (n0 : Nat) (Z0 : n0 ≤ h0.size) (H0 : ArL Z h0 p0 .long (List.map Value.long ks)) (H1 : n0 ≤ p0) (hl : (List.length ks).toInt32 = nl) (a1 : ¬ p2 < p1) (a2 : ¬ p1 < (0 : Int32)) (a3 : ¬ nl < p2) (hb0 : own_fb nn p1 p2 ks) :
    MetFree l (⟨"java/util/Arrays", "fill", "([JIIJ)V"⟩ : MethodName) (head1 (Jvm.Cond.code (⟨"java/util/Arrays", "fill", "([JIIJ)V"⟩ : MethodName) jdk_65_method_102_code 6 none :: ws) rmm9) (fun a U => a = #[(.ref p0), (.int p1), (.int p2), (.long p3)] ∧ Z.Warmed39 U.vm ∧ U.heap = h0) (fun _ _ _ _ _ => True) (fun _ U o U' => ∃ v L, o = .returned v ∧ Q9 Z p0 p1 p2 p3 ks nl nn h0 n0 v U'.heap L ∧ FrameEnd U o U' L rmm9.cells rmm9.slots) := by
  refine MetFree.of_bodySF (plainFor_of_name pn_9) hisR ?_
  intro p e s m args below meth c s₁ Bd hml0 hP hK
  obtain ⟨rfl, hZ, hh⟩ := hP
  have hx := Bd.exec
  have hby := Bd.bytes
  have hml : c.maxLocals = 6 := hml0
  have hown : s.vm.findClass "java/util/Arrays" = some m.cls := findClass_of_methodNamed Bd.named
  have hnm := (name_of_methodNamed Bd.named Bd.method).1
  have X0 : Stand p l e rmm9 s m #[(.ref p0), (.int p1), (.int p2), (.long p3)] below meth c s₁ [] 0 0 := Stand.of_body Bd
  have e0 : s₁.heap = h0 := by rw [← hh, Bd.state]; rfl
  have N0 := Fr.nil n0
  show Go p.tables e below (P9 Z p0 p1 p2 p3 ks nl nn h0 n0 s) (s₁.setTop (entryFrame m #[(.ref p0), (.int p1), (.int p2), (.long p3)] 6))
  refine Go.back (fun t k => castTop (ef_9 m p0 p1 p2 p3) k) ?_
  show Go p.tables e below (P9 Z p0 p1 p2 p3 ks nl nn h0 n0 s) (s₁.setTop (mkF m 0 #[.val (.ref p0), .val (.int p1), .val (.int p2), .val (.long p3), .second, .unset] []))
  refine Go.back (fun t k => XS.aloadN X0.here hx rfl (hb hby d9_0) rfl rfl  k) ?_
  show Go p.tables e below (P9 Z p0 p1 p2 p3 ks nl nn h0 n0 s) (s₁.setTop (mkF m 1 #[.val (.ref p0), .val (.int p1), .val (.int p2), .val (.long p3), .second, .unset] [(.ref p0)]))
  obtain ⟨cl1, Ar1, S1⟩ := H0.len
  refine Go.back (fun t k => X0.arraylength hx (by rw [e0]; exact Ar1.1) (State.isArrayOf_alike hZ.alike Ar1.2.1) (g := (mkF m 1 #[.val (.ref p0), .val (.int p1), .val (.int p2), .val (.long p3), .second, .unset] [(.ref p0)])) rfl rfl (hb hby d9_1) t k) ?_
  rw [S1]
  rw [List.length_map, hl]
  show Go p.tables e below (P9 Z p0 p1 p2 p3 ks nl nn h0 n0 s) (s₁.setTop (mkF m 2 #[.val (.ref p0), .val (.int p1), .val (.int p2), .val (.long p3), .second, .unset] [(.int nl)]))
  refine Go.back (fun t k => XS.iloadN X0.here hx rfl (hb hby d9_2) rfl  k) ?_
  show Go p.tables e below (P9 Z p0 p1 p2 p3 ks nl nn h0 n0 s) (s₁.setTop (mkF m 3 #[.val (.ref p0), .val (.int p1), .val (.int p2), .val (.long p3), .second, .unset] [(.int p1), (.int nl)]))
  refine Go.back (fun t k => XS.iloadN X0.here hx rfl (hb hby d9_3) rfl  k) ?_
  show Go p.tables e below (P9 Z p0 p1 p2 p3 ks nl nn h0 n0 s) (s₁.setTop (mkF m 4 #[.val (.ref p0), .val (.int p1), .val (.int p2), .val (.long p3), .second, .unset] [(.int p2), (.int p1), (.int nl)]))
  obtain ⟨_, _, ⟨T2, L2, k2, n2⟩, -, X2, ⟨Lc2, hQ2, l2, y2, z2⟩, st2⟩ := Jvm.LawKit.callS X0 hx (y := (⟨"java/util/Arrays", "rangeCheck", "(III)V"⟩ : MethodName)) hown (mvT hZ (hw _ (List.mem_of_getElem? (i := 51) rfl))) (mvT hZ (hw _ (List.mem_of_getElem? (i := 52) rfl))) (mvT hZ (hw _ (List.mem_of_getElem? (i := 49) rfl))) (mvT hZ (hw _ (List.mem_of_getElem? (i := 53) rfl))) (by decide) (backOf (W := 0) (rm10 l Z a0 hw [] nl p1 p2 h0 n0 Z0 a1 a2 a3) hZ (hw _ (List.mem_of_getElem? (i := 53) rfl)) (hw _ (List.mem_of_getElem? (i := 49) rfl)) (by decide) (by decide)) (g := (mkF m 4 #[.val (.ref p0), .val (.int p1), .val (.int p2), .val (.long p3), .second, .unset] [(.int p2), (.int p1), (.int nl)])) rfl (by rw [hml]; rfl) (argsL := [(.int nl), (.int p1), (.int p2)]) (rest := []) (lenOf pd_2 rfl) rfl (by show 2 * 0 + _ ≤ _; exact Nat.le_of_eq rfl) (hb hby d9_4) (fun _ _ => ⟨rfl, e0, (by decide : 0 + 0 ≤ _), (by decide : 0 + 0 ≤ _)⟩)
  dsimp only [Pt.U, Pt.locs, Pt.cells, Pt.slots] at X2 l2 y2 z2 st2 hQ2
  subst l2 y2 z2
  obtain ⟨rfl, N2q, e2⟩ := hQ2
  obtain ⟨Lo2, Y2, N2⟩ := pk X2 (Fr.app N0 N2q)
  refine Go.back st2 ?_
  show Go p.tables e below (P9 Z p0 p1 p2 p3 ks nl nn h0 n0 s) (T2.setTop (mkF m 7 #[.val (.ref p0), .val (.int p1), .val (.int p2), .val (.long p3), .second, .unset] []))
  refine Go.back (fun t k => XS.iloadN Y2.here hx rfl (hb hby d9_7) rfl  k) ?_
  show Go p.tables e below (P9 Z p0 p1 p2 p3 ks nl nn h0 n0 s) (T2.setTop (mkF m 8 #[.val (.ref p0), .val (.int p1), .val (.int p2), .val (.long p3), .second, .unset] [(.int p1)]))
  refine Go.back (fun t k => XS.istore Y2.here hx rfl (hb hby d9_8) rfl (l' := #[.val (.ref p0), .val (.int p1), .val (.int p2), .val (.long p3), .second, .val (.int p1)]) rfl k) ?_
  show Go p.tables e below (P9 Z p0 p1 p2 p3 ks nl nn h0 n0 s) (T2.setTop (mkF m 10 #[.val (.ref p0), .val (.int p1), .val (.int p2), .val (.long p3), .second, .val (.int p1)] []))
  have LOOP3 : ∀ (n : Nat) (i : Int32) (K : List Int64) (T4 : State) (L4 : List Loc) (X4 : Stand p l e rmm9 s m #[(.ref p0), (.int p1), (.int p2), (.long p3)] below meth c T4 L4 0 0) (N4 : Fr n0 L4) (h4 : Heap) (e4 : T4.heap = h4) (F5 : ArL Z h4 p0 .long (List.map Value.long K)) (F6 : n0 ≤ h4.size) (F7 : Keep h0 h4 [p0]) (hbd : own_fb n i p2 K) (hr : (own_fill p3 nn p1 ks) = own_fill p3 n i K), Go p.tables e below (P9 Z p0 p1 p2 p3 ks nl nn h0 n0 s) (T4.setTop (mkF m 10 #[.val (.ref p0), .val (.int p1), .val (.int p2), .val (.long p3), .second, .val (.int i)] [])) := by
    intro n
    induction n with
    | zero =>
      intro i K T4 L4 X4 N4 h4 e4 F5 F6 F7 hbd hr
      show Go p.tables e below (P9 Z p0 p1 p2 p3 ks nl nn h0 n0 s) (T4.setTop (mkF m 10 #[.val (.ref p0), .val (.int p1), .val (.int p2), .val (.long p3), .second, .val (.int i)] []))
      refine Go.back (fun t k => XS.iload X4.here hx rfl (hb hby d9_10) rfl  k) ?_
      show Go p.tables e below (P9 Z p0 p1 p2 p3 ks nl nn h0 n0 s) (T4.setTop (mkF m 12 #[.val (.ref p0), .val (.int p1), .val (.int p2), .val (.long p3), .second, .val (.int i)] [(.int i)]))
      refine Go.back (fun t k => XS.iloadN X4.here hx rfl (hb hby d9_12) rfl  k) ?_
      show Go p.tables e below (P9 Z p0 p1 p2 p3 ks nl nn h0 n0 s) (T4.setTop (mkF m 13 #[.val (.ref p0), .val (.int p1), .val (.int p2), .val (.long p3), .second, .val (.int i)] [(.int p2), (.int i)]))
      refine Go.back (fun t k => XS.icmpYes X4.here hx rfl (pc0 := 13) (pc' := 27) rfl (hb hby d9_13) rfl (flt (own_fb_z hbd)).2.1 (by decide) (by decide) k) ?_
      show Go p.tables e below (P9 Z p0 p1 p2 p3 ks nl nn h0 n0 s) (T4.setTop (mkF m 27 #[.val (.ref p0), .val (.int p1), .val (.int p2), .val (.long p3), .second, .val (.int i)] []))
      exact Go.retV X4 hx Bd.returns (hb hby d9_27) Bd.notSynchronized ⟨rfl, N4, (by rw [e4]; exact F7), (by rw [e4, hr]; exact F5)⟩ (by decide) (by decide)
    | succ n ih =>
      intro i K T4 L4 X4 N4 h4 e4 F5 F6 F7 hbd hr
      show Go p.tables e below (P9 Z p0 p1 p2 p3 ks nl nn h0 n0 s) (T4.setTop (mkF m 10 #[.val (.ref p0), .val (.int p1), .val (.int p2), .val (.long p3), .second, .val (.int i)] []))
      refine Go.back (fun t k => XS.iload X4.here hx rfl (hb hby d9_10) rfl  k) ?_
      show Go p.tables e below (P9 Z p0 p1 p2 p3 ks nl nn h0 n0 s) (T4.setTop (mkF m 12 #[.val (.ref p0), .val (.int p1), .val (.int p2), .val (.long p3), .second, .val (.int i)] [(.int i)]))
      refine Go.back (fun t k => XS.iloadN X4.here hx rfl (hb hby d9_12) rfl  k) ?_
      show Go p.tables e below (P9 Z p0 p1 p2 p3 ks nl nn h0 n0 s) (T4.setTop (mkF m 13 #[.val (.ref p0), .val (.int p1), .val (.int p2), .val (.long p3), .second, .val (.int i)] [(.int p2), (.int i)]))
      refine Go.back (fun t k => XS.icmpNo X4.here hx rfl (hb hby d9_13) rfl (tlt (own_fb_s hbd)).2.1 k) ?_
      show Go p.tables e below (P9 Z p0 p1 p2 p3 ks nl nn h0 n0 s) (T4.setTop (mkF m 16 #[.val (.ref p0), .val (.int p1), .val (.int p2), .val (.long p3), .second, .val (.int i)] []))
      refine Go.back (fun t k => XS.aloadN X4.here hx rfl (hb hby d9_16) rfl rfl  k) ?_
      show Go p.tables e below (P9 Z p0 p1 p2 p3 ks nl nn h0 n0 s) (T4.setTop (mkF m 17 #[.val (.ref p0), .val (.int p1), .val (.int p2), .val (.long p3), .second, .val (.int i)] [(.ref p0)]))
      refine Go.back (fun t k => XS.iload X4.here hx rfl (hb hby d9_17) rfl  k) ?_
      show Go p.tables e below (P9 Z p0 p1 p2 p3 ks nl nn h0 n0 s) (T4.setTop (mkF m 19 #[.val (.ref p0), .val (.int p1), .val (.int p2), .val (.long p3), .second, .val (.int i)] [(.int i), (.ref p0)]))
      refine Go.back (fun t k => XS.lloadN X4.here hx rfl (hb hby d9_19) rfl  k) ?_
      show Go p.tables e below (P9 Z p0 p1 p2 p3 ks nl nn h0 n0 s) (T4.setTop (mkF m 20 #[.val (.ref p0), .val (.int p1), .val (.int p2), .val (.long p3), .second, .val (.int i)] [(.long p3), (.int i), (.ref p0)]))
      obtain ⟨cl8, Ar8, hi8, -⟩ := F5.at (j := i) (own_fb_nn hbd) (by simpa using (own_fb_in hbd))
      obtain ⟨T8, h8, X8, e8, W8, st8⟩ := stJ X4 hx hZ e4 Ar8 (j := i) hi8 (g := (mkF m 20 #[.val (.ref p0), .val (.int p1), .val (.int p2), .val (.long p3), .second, .val (.int i)] [(.long p3), (.int i), (.ref p0)])) rfl rfl (hb hby d9_20)
      have F9 : ArL Z h8 p0 .long (List.map Value.long (List.set K (i).toNatClampNeg p3)) := ArL.setJ (xs := K) F5 W8
      have F10 : n0 ≤ h8.size := Nat.le_trans F6 (Keep.of_wr W8).1
      have F11 : Keep h0 h8 [p0] := F7.wr W8 (Or.inl (List.mem_of_getElem? (i := 0) rfl))
      obtain ⟨Lo8, Y8, N8⟩ := pk X8 (Fr.snoc X8 N4 H1)
      refine Go.back st8 ?_
      show Go p.tables e below (P9 Z p0 p1 p2 p3 ks nl nn h0 n0 s) (T8.setTop (mkF m 21 #[.val (.ref p0), .val (.int p1), .val (.int p2), .val (.long p3), .second, .val (.int i)] []))
      refine Go.back (fun t k => XS.iinc Y8.here hx rfl (hb hby d9_21) rfl (l' := #[.val (.ref p0), .val (.int p1), .val (.int p2), .val (.long p3), .second, .val (.int (i + (1 : Int32)))]) rfl k) ?_
      show Go p.tables e below (P9 Z p0 p1 p2 p3 ks nl nn h0 n0 s) (T8.setTop (mkF m 24 #[.val (.ref p0), .val (.int p1), .val (.int p2), .val (.long p3), .second, .val (.int (i + (1 : Int32)))] []))
      refine Go.back (fun t k => XS.goto Y8.here hx rfl (pc0 := 24) (pc' := 10) rfl (hb hby d9_24) (by decide) (by decide) k) ?_
      show Go p.tables e below (P9 Z p0 p1 p2 p3 ks nl nn h0 n0 s) (T8.setTop (mkF m 10 #[.val (.ref p0), .val (.int p1), .val (.int p2), .val (.long p3), .second, .val (.int (i + (1 : Int32)))] []))
      exact ih (i + (1 : Int32)) (List.set K (i).toNatClampNeg p3) _ _ Y8 N8 h8 e8 F9 F10 F11 (own_fb_next hbd (by simp)) hr
  exact LOOP3 nn p1 ks _ _ Y2 N2 h0 e2 H0 Z0 (Keep.refl h0 [p0]) hb0 rfl
theorem d8_0 : decode prog_122_method_4_code 0 = .ok (.aload_n 2, 1) := by decide +kernel
theorem d8_1 : decode prog_122_method_4_code 1 = .ok (.iload_n 3, 1) := by decide +kernel
theorem d8_2 : decode prog_122_method_4_code 2 = .ok (.iload_n 3, 1) := by decide +kernel
theorem d8_3 : decode prog_122_method_4_code 3 = .ok (.aload_n 0, 1) := by decide +kernel
theorem d8_4 : decode prog_122_method_4_code 4 = .ok (.getfield 34, 3) := by decide +kernel
theorem d8_7 : decode prog_122_method_4_code 7 = .ok (.iadd, 1) := by decide +kernel
theorem d8_8 : decode prog_122_method_4_code 8 = .ok (.lconst 0, 1) := by decide +kernel
theorem d8_9 : decode prog_122_method_4_code 9 = .ok (.invokestatic 42, 3) := by decide +kernel
theorem d8_12 : decode prog_122_method_4_code 12 = .ok (.iconst 0, 1) := by decide +kernel
theorem d8_13 : decode prog_122_method_4_code 13 = .ok (.istore 4, 2) := by decide +kernel
theorem d8_15 : decode prog_122_method_4_code 15 = .ok (.iload 4, 2) := by decide +kernel
theorem d8_17 : decode prog_122_method_4_code 17 = .ok (.aload_n 1, 1) := by decide +kernel
theorem d8_18 : decode prog_122_method_4_code 18 = .ok (.arraylength, 1) := by decide +kernel
theorem d8_19 : decode prog_122_method_4_code 19 = .ok (.if_icmp .ge 36, 3) := by decide +kernel
theorem d8_22 : decode prog_122_method_4_code 22 = .ok (.aload_n 2, 1) := by decide +kernel
theorem d8_23 : decode prog_122_method_4_code 23 = .ok (.iload_n 3, 1) := by decide +kernel
theorem d8_24 : decode prog_122_method_4_code 24 = .ok (.aload_n 0, 1) := by decide +kernel
theorem d8_25 : decode prog_122_method_4_code 25 = .ok (.getfield 7, 3) := by decide +kernel
theorem d8_28 : decode prog_122_method_4_code 28 = .ok (.iload 4, 2) := by decide +kernel
theorem d8_30 : decode prog_122_method_4_code 30 = .ok (.iaload, 1) := by decide +kernel
theorem d8_31 : decode prog_122_method_4_code 31 = .ok (.iadd, 1) := by decide +kernel
theorem d8_32 : decode prog_122_method_4_code 32 = .ok (.dup2, 1) := by decide +kernel
theorem d8_33 : decode prog_122_method_4_code 33 = .ok (.laload, 1) := by decide +kernel
theorem d8_34 : decode prog_122_method_4_code 34 = .ok (.aload_n 1, 1) := by decide +kernel
theorem d8_35 : decode prog_122_method_4_code 35 = .ok (.iload 4, 2) := by decide +kernel
theorem d8_37 : decode prog_122_method_4_code 37 = .ok (.iaload, 1) := by decide +kernel
theorem d8_38 : decode prog_122_method_4_code 38 = .ok (.i2l, 1) := by decide +kernel
theorem d8_39 : decode prog_122_method_4_code 39 = .ok (.aload_n 0, 1) := by decide +kernel
theorem d8_40 : decode prog_122_method_4_code 40 = .ok (.getfield 13, 3) := by decide +kernel
theorem d8_43 : decode prog_122_method_4_code 43 = .ok (.iload 4, 2) := by decide +kernel
theorem d8_45 : decode prog_122_method_4_code 45 = .ok (.iaload, 1) := by decide +kernel
theorem d8_46 : decode prog_122_method_4_code 46 = .ok (.lshl, 1) := by decide +kernel
theorem d8_47 : decode prog_122_method_4_code 47 = .ok (.lor, 1) := by decide +kernel
theorem d8_48 : decode prog_122_method_4_code 48 = .ok (.lastore, 1) := by decide +kernel
theorem d8_49 : decode prog_122_method_4_code 49 = .ok (.iinc 4 1, 3) := by decide +kernel
theorem d8_52 : decode prog_122_method_4_code 52 = .ok (.goto (-37), 3) := by decide +kernel
theorem d8_55 : decode prog_122_method_4_code 55 = .ok (.return_, 1) := by decide +kernel
def Q8 (Z : State) (p0 : Addr) (p1 : Addr) (p2 : Addr) (p3 : Int32) (w : Int32) (o1 : Addr) (o2 : Addr) (ts : List Int32) (W : List Int32) (S : List Int32) (ks : List Int64) (h0 : Heap) (n0 : Nat) (v : Option Value) (h : Heap) (L : List Loc) : Prop := v = none ∧ Fr n0 L ∧ Keep h0 h [p2] ∧ ArL Z h p2 .long (List.map Value.long (own_packr ts W S p3 w ks))
abbrev rmm8 : Room := { frames := 2, cells := 0, slots := 0, locals := 31 }
abbrev P8 (Z : State) (p0 : Addr) (p1 : Addr) (p2 : Addr) (p3 : Int32) (w : Int32) (o1 : Addr) (o2 : Addr) (ts : List Int32) (W : List Int32) (S : List Int32) (ks : List Int64) (h0 : Heap) (n0 : Nat) (s : State) : Outcome → State → Prop := fun o U' => ∃ v L, o = .returned v ∧ Q8 Z p0 p1 p2 p3 w o1 o2 ts W S ks h0 n0 v U'.heap L ∧ FrameEnd s o U' L rmm8.cells rmm8.slots
theorem pn_8 : plainName "com/example/onward/onward/explore/Packing" = true := by first | (simp [plainName, overriddenIn]; done) | decide +kernel
theorem ef_8 (m : MethodId) (p0 : Addr) (p1 : Addr) (p2 : Addr) (p3 : Int32) : entryFrame m #[(.ref p0), (.ref p1), (.ref p2), (.int p3)] 5 = mkF m 0 #[.val (.ref p0), .val (.ref p1), .val (.ref p2), .val (.int p3), .unset] [] := by first | (simp [entryFrame, mkF, argsToLocals, Value.category]; done) | rfl
set_option maxRecDepth 65536 in
set_option maxHeartbeats 40000000 in
theorem rm8 (l : Launch) (Z : State) (a0 : Array Value) (hw : ∀ d ∈ tables_1, d.before a0 Z = true) (ws : List Jvm.Cond) (p0 : Addr) (p1 : Addr) (p2 : Addr) (p3 : Int32) (w : Int32) (o1 : Addr) (o2 : Addr) (ts : List Int32) (W : List Int32) (S : List Int32) (ks : List Int64) (h0 : Heap) (n0 : Nat) (Z0 : n0 ≤ h0.size) (H0 : Fld Z h0 p0 "com/example/onward/onward/explore/Packing" "words" "I" (.int w)) (H1 : Fld Z h0 p0 "com/example/onward/onward/explore/Packing" "word" "[I" (.ref o1)) (H2 : Fld Z h0 p0 "com/example/onward/onward/explore/Packing" "shift" "[I" (.ref o2)) (H3 : ArL Z h0 p1 .int (List.map Value.int ts)) (H4 : ArL Z h0 o1 .int (List.map Value.int W)) (H5 : ArL Z h0 o2 .int (List.map Value.int S)) (H6 : ArL Z h0 p2 .long (List.map Value.long ks)) (H7 : n0 ≤ p2) (H8 : p0 ≠ p2) (H9 : p1 ≠ p2) (H10 : o1 ≠ p2) (H11 : o2 ≠ p2) (hl : ts.length = 3) (hW : W.length = 3) (hS : S.length = 3) (hwb : own_wb W w) (hq : own_pq p3 w ks) :
    MetFree l (⟨"com/example/onward/onward/explore/Packing", "pack", "([I[JI)V"⟩ : MethodName) (head1 (Jvm.Cond.code (⟨"com/example/onward/onward/explore/Packing", "pack", "([I[JI)V"⟩ : MethodName) prog_122_method_4_code 5 none :: ws) rmm8) (fun a U => a = #[(.ref p0), (.ref p1), (.ref p2), (.int p3)] ∧ Z.Warmed39 U.vm ∧ U.heap = h0) (fun _ _ _ _ _ => True) (fun _ U o U' => ∃ v L, o = .returned v ∧ Q8 Z p0 p1 p2 p3 w o1 o2 ts W S ks h0 n0 v U'.heap L ∧ FrameEnd U o U' L rmm8.cells rmm8.slots) := by
  refine MetFree.of_bodySF (plainFor_of_name pn_8) hisR ?_
  intro p e s m args below meth c s₁ Bd hml0 hP hK
  obtain ⟨rfl, hZ, hh⟩ := hP
  have hx := Bd.exec
  have hby := Bd.bytes
  have hml : c.maxLocals = 5 := hml0
  have hown : s.vm.findClass "com/example/onward/onward/explore/Packing" = some m.cls := findClass_of_methodNamed Bd.named
  have hnm := (name_of_methodNamed Bd.named Bd.method).1
  have X0 : Stand p l e rmm8 s m #[(.ref p0), (.ref p1), (.ref p2), (.int p3)] below meth c s₁ [] 0 0 := Stand.of_body Bd
  have e0 : s₁.heap = h0 := by rw [← hh, Bd.state]; rfl
  have N0 := Fr.nil n0
  show Go p.tables e below (P8 Z p0 p1 p2 p3 w o1 o2 ts W S ks h0 n0 s) (s₁.setTop (entryFrame m #[(.ref p0), (.ref p1), (.ref p2), (.int p3)] 5))
  refine Go.back (fun t k => castTop (ef_8 m p0 p1 p2 p3) k) ?_
  show Go p.tables e below (P8 Z p0 p1 p2 p3 w o1 o2 ts W S ks h0 n0 s) (s₁.setTop (mkF m 0 #[.val (.ref p0), .val (.ref p1), .val (.ref p2), .val (.int p3), .unset] []))
  refine Go.back (fun t k => XS.aloadN X0.here hx rfl (hb hby d8_0) rfl rfl  k) ?_
  show Go p.tables e below (P8 Z p0 p1 p2 p3 w o1 o2 ts W S ks h0 n0 s) (s₁.setTop (mkF m 1 #[.val (.ref p0), .val (.ref p1), .val (.ref p2), .val (.int p3), .unset] [(.ref p2)]))
  refine Go.back (fun t k => XS.iloadN X0.here hx rfl (hb hby d8_1) rfl  k) ?_
  show Go p.tables e below (P8 Z p0 p1 p2 p3 w o1 o2 ts W S ks h0 n0 s) (s₁.setTop (mkF m 2 #[.val (.ref p0), .val (.ref p1), .val (.ref p2), .val (.int p3), .unset] [(.int p3), (.ref p2)]))
  refine Go.back (fun t k => XS.iloadN X0.here hx rfl (hb hby d8_2) rfl  k) ?_
  show Go p.tables e below (P8 Z p0 p1 p2 p3 w o1 o2 ts W S ks h0 n0 s) (s₁.setTop (mkF m 3 #[.val (.ref p0), .val (.ref p1), .val (.ref p2), .val (.int p3), .unset] [(.int p3), (.int p3), (.ref p2)]))
  refine Go.back (fun t k => XS.aloadN X0.here hx rfl (hb hby d8_3) rfl rfl  k) ?_
  show Go p.tables e below (P8 Z p0 p1 p2 p3 w o1 o2 ts W S ks h0 n0 s) (s₁.setTop (mkF m 4 #[.val (.ref p0), .val (.ref p1), .val (.ref p2), .val (.int p3), .unset] [(.ref p0), (.int p3), (.int p3), (.ref p2)]))
  obtain ⟨T1, X1, e1, st1⟩ := getF X0 hx hZ hown (host := "") (Or.inl (hw _ (List.mem_of_getElem? (i := 35) rfl))) Via.refl e0 H0 (g := (mkF m 4 #[.val (.ref p0), .val (.ref p1), .val (.ref p2), .val (.int p3), .unset] [(.ref p0), (.int p3), (.int p3), (.ref p2)])) rfl rfl (hb hby d8_4)
  refine Go.back st1 ?_
  show Go p.tables e below (P8 Z p0 p1 p2 p3 w o1 o2 ts W S ks h0 n0 s) (T1.setTop (mkF m 7 #[.val (.ref p0), .val (.ref p1), .val (.ref p2), .val (.int p3), .unset] [(.int w), (.int p3), (.int p3), (.ref p2)]))
  refine Go.back (fun t k => XS.iadd X1.here hx rfl (hb hby d8_7) rfl k) ?_
  show Go p.tables e below (P8 Z p0 p1 p2 p3 w o1 o2 ts W S ks h0 n0 s) (T1.setTop (mkF m 8 #[.val (.ref p0), .val (.ref p1), .val (.ref p2), .val (.int p3), .unset] [(.int (p3 + w)), (.int p3), (.ref p2)]))
  refine Go.back (fun t k => XS.lconst X1.here hx rfl (hb hby d8_8) k) ?_
  show Go p.tables e below (P8 Z p0 p1 p2 p3 w o1 o2 ts W S ks h0 n0 s) (T1.setTop (mkF m 9 #[.val (.ref p0), .val (.ref p1), .val (.ref p2), .val (.int p3), .unset] [(.long (0 : Int64)), (.int (p3 + w)), (.int p3), (.ref p2)]))
  obtain ⟨_, _, ⟨T2, L2, k2, n2⟩, -, X2, ⟨Lc2, hQ2, l2, y2, z2⟩, st2⟩ := Jvm.LawKit.callS X1 hx (y := (⟨"java/util/Arrays", "fill", "([JIIJ)V"⟩ : MethodName)) hown (mvT hZ (hw _ (List.mem_of_getElem? (i := 47) rfl))) (mvT hZ (hw _ (List.mem_of_getElem? (i := 48) rfl))) (mvT hZ (hw _ (List.mem_of_getElem? (i := 49) rfl))) (mvT hZ (hw _ (List.mem_of_getElem? (i := 50) rfl))) (by decide) (backOf (W := 0) (rm9 l Z a0 hw [] p2 p3 (p3 + w) (0 : Int64) ks ((List.length ks).toInt32) ((w).toNatClampNeg) h0 n0 Z0 H6 H7 rfl (own_pq1 hq) (own_pq2 hq) (own_pq3 hq) (own_pq4 hq)) hZ (hw _ (List.mem_of_getElem? (i := 50) rfl)) (hw _ (List.mem_of_getElem? (i := 49) rfl)) (by decide) (by decide)) (g := (mkF m 9 #[.val (.ref p0), .val (.ref p1), .val (.ref p2), .val (.int p3), .unset] [(.long (0 : Int64)), (.int (p3 + w)), (.int p3), (.ref p2)])) rfl (by rw [hml]; rfl) (argsL := [(.ref p2), (.int p3), (.int (p3 + w)), (.long (0 : Int64))]) (rest := []) (lenOf pd_3 rfl) rfl (by show 2 * 0 + _ ≤ _; exact Nat.le_of_eq rfl) (hb hby d8_9) (fun _ _ => ⟨rfl, e1, (by decide : 0 + 0 ≤ _), (by decide : 0 + 0 ≤ _)⟩)
  dsimp only [Pt.U, Pt.locs, Pt.cells, Pt.slots] at X2 l2 y2 z2 st2 hQ2
  subst l2 y2 z2
  obtain ⟨h2, e2⟩ : ∃ z, T2.heap = z := ⟨_, rfl⟩
  rw [e2] at hQ2
  obtain ⟨rfl, N2q, K2, t11⟩ := hQ2
  obtain ⟨Lo2, Y2, N2⟩ := pk X2 (Fr.app N0 N2q)
  have F3 : Fld Z h2 p0 "com/example/onward/onward/explore/Packing" "words" "I" (.int w) := H0.keep K2 (ninS H8 nin0)
  have F4 : Fld Z h2 p0 "com/example/onward/onward/explore/Packing" "word" "[I" (.ref o1) := H1.keep K2 (ninS H8 nin0)
  have F5 : Fld Z h2 p0 "com/example/onward/onward/explore/Packing" "shift" "[I" (.ref o2) := H2.keep K2 (ninS H8 nin0)
  have F6 : ArL Z h2 p1 .int (List.map Value.int ts) := H3.keep K2 (ninS H9 nin0)
  have F7 : ArL Z h2 o1 .int (List.map Value.int W) := H4.keep K2 (ninS H10 nin0)
  have F8 : ArL Z h2 o2 .int (List.map Value.int S) := H5.keep K2 (ninS H11 nin0)
  have F9 : n0 ≤ h2.size := Nat.le_trans Z0 K2.1
  have F10 : Keep h0 h2 [p2] := (Keep.refl h0 [p2]).trans K2 (allS (P := fun x => x ∈ [p2] ∨ h0.size ≤ x) (Or.inl (List.mem_of_getElem? (i := 0) rfl)) all0)
  refine Go.back st2 ?_
  show Go p.tables e below (P8 Z p0 p1 p2 p3 w o1 o2 ts W S ks h0 n0 s) (T2.setTop (mkF m 12 #[.val (.ref p0), .val (.ref p1), .val (.ref p2), .val (.int p3), .unset] []))
  refine Go.back (fun t k => XS.iconst Y2.here hx rfl (hb hby d8_12) k) ?_
  show Go p.tables e below (P8 Z p0 p1 p2 p3 w o1 o2 ts W S ks h0 n0 s) (T2.setTop (mkF m 13 #[.val (.ref p0), .val (.ref p1), .val (.ref p2), .val (.int p3), .unset] [(.int (0 : Int32))]))
  refine Go.back (fun t k => XS.istore Y2.here hx rfl (hb hby d8_13) rfl (l' := #[.val (.ref p0), .val (.ref p1), .val (.ref p2), .val (.int p3), .val (.int (0 : Int32))]) rfl k) ?_
  show Go p.tables e below (P8 Z p0 p1 p2 p3 w o1 o2 ts W S ks h0 n0 s) (T2.setTop (mkF m 15 #[.val (.ref p0), .val (.ref p1), .val (.ref p2), .val (.int p3), .val (.int (0 : Int32))] []))
  have LOOP12 : ∀ (n : Nat) (i : Int32) (K : List Int64) (T13 : State) (L13 : List Loc) (X13 : Stand p l e rmm8 s m #[(.ref p0), (.ref p1), (.ref p2), (.int p3)] below meth c T13 L13 0 0) (N13 : Fr n0 L13) (h13 : Heap) (e13 : T13.heap = h13) (F14 : Fld Z h13 p0 "com/example/onward/onward/explore/Packing" "words" "I" (.int w)) (F15 : Fld Z h13 p0 "com/example/onward/onward/explore/Packing" "word" "[I" (.ref o1)) (F16 : Fld Z h13 p0 "com/example/onward/onward/explore/Packing" "shift" "[I" (.ref o2)) (F17 : ArL Z h13 p1 .int (List.map Value.int ts)) (F18 : ArL Z h13 o1 .int (List.map Value.int W)) (F19 : ArL Z h13 o2 .int (List.map Value.int S)) (F20 : n0 ≤ h13.size) (F21 : Keep h0 h13 [p2]) (F22 : ArL Z h13 p2 .long (List.map Value.long K)) (hbd : own_kb n i K ks) (hr : (own_packr ts W S p3 w ks) = own_pack ts W S p3 n i K), Go p.tables e below (P8 Z p0 p1 p2 p3 w o1 o2 ts W S ks h0 n0 s) (T13.setTop (mkF m 15 #[.val (.ref p0), .val (.ref p1), .val (.ref p2), .val (.int p3), .val (.int i)] [])) := by
    intro n
    induction n with
    | zero =>
      intro i K T13 L13 X13 N13 h13 e13 F14 F15 F16 F17 F18 F19 F20 F21 F22 hbd hr
      show Go p.tables e below (P8 Z p0 p1 p2 p3 w o1 o2 ts W S ks h0 n0 s) (T13.setTop (mkF m 15 #[.val (.ref p0), .val (.ref p1), .val (.ref p2), .val (.int p3), .val (.int i)] []))
      refine Go.back (fun t k => XS.iload X13.here hx rfl (hb hby d8_15) rfl  k) ?_
      show Go p.tables e below (P8 Z p0 p1 p2 p3 w o1 o2 ts W S ks h0 n0 s) (T13.setTop (mkF m 17 #[.val (.ref p0), .val (.ref p1), .val (.ref p2), .val (.int p3), .val (.int i)] [(.int i)]))
      refine Go.back (fun t k => XS.aloadN X13.here hx rfl (hb hby d8_17) rfl rfl  k) ?_
      show Go p.tables e below (P8 Z p0 p1 p2 p3 w o1 o2 ts W S ks h0 n0 s) (T13.setTop (mkF m 18 #[.val (.ref p0), .val (.ref p1), .val (.ref p2), .val (.int p3), .val (.int i)] [(.ref p1), (.int i)]))
      obtain ⟨cl23, Ar23, S23⟩ := F17.len
      refine Go.back (fun t k => X13.arraylength hx (by rw [e13]; exact Ar23.1) (State.isArrayOf_alike hZ.alike Ar23.2.1) (g := (mkF m 18 #[.val (.ref p0), .val (.ref p1), .val (.ref p2), .val (.int p3), .val (.int i)] [(.ref p1), (.int i)])) rfl rfl (hb hby d8_18) t k) ?_
      rw [S23]
      rw [List.length_map, hl]
      show Go p.tables e below (P8 Z p0 p1 p2 p3 w o1 o2 ts W S ks h0 n0 s) (T13.setTop (mkF m 19 #[.val (.ref p0), .val (.ref p1), .val (.ref p2), .val (.int p3), .val (.int i)] [(.int (3 : Int32)), (.int i)]))
      refine Go.back (fun t k => XS.icmpYes X13.here hx rfl (pc0 := 19) (pc' := 55) rfl (hb hby d8_19) rfl (flt (own_kb_z hbd)).2.1 (by decide) (by decide) k) ?_
      show Go p.tables e below (P8 Z p0 p1 p2 p3 w o1 o2 ts W S ks h0 n0 s) (T13.setTop (mkF m 55 #[.val (.ref p0), .val (.ref p1), .val (.ref p2), .val (.int p3), .val (.int i)] []))
      exact Go.retV X13 hx Bd.returns (hb hby d8_55) Bd.notSynchronized ⟨rfl, N13, (by rw [e13]; exact F21), (by rw [e13, hr]; exact F22)⟩ (by decide) (by decide)
    | succ n ih =>
      intro i K T13 L13 X13 N13 h13 e13 F14 F15 F16 F17 F18 F19 F20 F21 F22 hbd hr
      show Go p.tables e below (P8 Z p0 p1 p2 p3 w o1 o2 ts W S ks h0 n0 s) (T13.setTop (mkF m 15 #[.val (.ref p0), .val (.ref p1), .val (.ref p2), .val (.int p3), .val (.int i)] []))
      refine Go.back (fun t k => XS.iload X13.here hx rfl (hb hby d8_15) rfl  k) ?_
      show Go p.tables e below (P8 Z p0 p1 p2 p3 w o1 o2 ts W S ks h0 n0 s) (T13.setTop (mkF m 17 #[.val (.ref p0), .val (.ref p1), .val (.ref p2), .val (.int p3), .val (.int i)] [(.int i)]))
      refine Go.back (fun t k => XS.aloadN X13.here hx rfl (hb hby d8_17) rfl rfl  k) ?_
      show Go p.tables e below (P8 Z p0 p1 p2 p3 w o1 o2 ts W S ks h0 n0 s) (T13.setTop (mkF m 18 #[.val (.ref p0), .val (.ref p1), .val (.ref p2), .val (.int p3), .val (.int i)] [(.ref p1), (.int i)]))
      obtain ⟨cl24, Ar24, S24⟩ := F17.len
      refine Go.back (fun t k => X13.arraylength hx (by rw [e13]; exact Ar24.1) (State.isArrayOf_alike hZ.alike Ar24.2.1) (g := (mkF m 18 #[.val (.ref p0), .val (.ref p1), .val (.ref p2), .val (.int p3), .val (.int i)] [(.ref p1), (.int i)])) rfl rfl (hb hby d8_18) t k) ?_
      rw [S24]
      rw [List.length_map, hl]
      show Go p.tables e below (P8 Z p0 p1 p2 p3 w o1 o2 ts W S ks h0 n0 s) (T13.setTop (mkF m 19 #[.val (.ref p0), .val (.ref p1), .val (.ref p2), .val (.int p3), .val (.int i)] [(.int (3 : Int32)), (.int i)]))
      refine Go.back (fun t k => XS.icmpNo X13.here hx rfl (hb hby d8_19) rfl (tlt (own_kb_s hbd)).2.1 k) ?_
      show Go p.tables e below (P8 Z p0 p1 p2 p3 w o1 o2 ts W S ks h0 n0 s) (T13.setTop (mkF m 22 #[.val (.ref p0), .val (.ref p1), .val (.ref p2), .val (.int p3), .val (.int i)] []))
      refine Go.back (fun t k => XS.aloadN X13.here hx rfl (hb hby d8_22) rfl rfl  k) ?_
      show Go p.tables e below (P8 Z p0 p1 p2 p3 w o1 o2 ts W S ks h0 n0 s) (T13.setTop (mkF m 23 #[.val (.ref p0), .val (.ref p1), .val (.ref p2), .val (.int p3), .val (.int i)] [(.ref p2)]))
      refine Go.back (fun t k => XS.iloadN X13.here hx rfl (hb hby d8_23) rfl  k) ?_
      show Go p.tables e below (P8 Z p0 p1 p2 p3 w o1 o2 ts W S ks h0 n0 s) (T13.setTop (mkF m 24 #[.val (.ref p0), .val (.ref p1), .val (.ref p2), .val (.int p3), .val (.int i)] [(.int p3), (.ref p2)]))
      refine Go.back (fun t k => XS.aloadN X13.here hx rfl (hb hby d8_24) rfl rfl  k) ?_
      show Go p.tables e below (P8 Z p0 p1 p2 p3 w o1 o2 ts W S ks h0 n0 s) (T13.setTop (mkF m 25 #[.val (.ref p0), .val (.ref p1), .val (.ref p2), .val (.int p3), .val (.int i)] [(.ref p0), (.int p3), (.ref p2)]))
      obtain ⟨T25, X25, e25, st25⟩ := getF X13 hx hZ hown (host := "") (Or.inl (hw _ (List.mem_of_getElem? (i := 20) rfl))) Via.refl e13 F15 (g := (mkF m 25 #[.val (.ref p0), .val (.ref p1), .val (.ref p2), .val (.int p3), .val (.int i)] [(.ref p0), (.int p3), (.ref p2)])) rfl rfl (hb hby d8_25)
      refine Go.back st25 ?_
      show Go p.tables e below (P8 Z p0 p1 p2 p3 w o1 o2 ts W S ks h0 n0 s) (T25.setTop (mkF m 28 #[.val (.ref p0), .val (.ref p1), .val (.ref p2), .val (.int p3), .val (.int i)] [(.ref o1), (.int p3), (.ref p2)]))
      refine Go.back (fun t k => XS.iload X25.here hx rfl (hb hby d8_28) rfl  k) ?_
      show Go p.tables e below (P8 Z p0 p1 p2 p3 w o1 o2 ts W S ks h0 n0 s) (T25.setTop (mkF m 30 #[.val (.ref p0), .val (.ref p1), .val (.ref p2), .val (.int p3), .val (.int i)] [(.int i), (.ref o1), (.int p3), (.ref p2)]))
      obtain ⟨cl26, Ar26, hi26, ha26⟩ := F18.get (j := i) (own_kb_nn hbd) (v := (.int (List.getD W (i).toNatClampNeg (0 : Int32)))) (getI W (own_kb_in hbd hW))
      refine Go.back (fun t k => X25.iaload hx (j := i) (v := (.int (List.getD W (i).toNatClampNeg (0 : Int32)))) (by rw [e25]; exact Ar26.1) (State.isArrayOf_alike hZ.alike Ar26.2.1) Ar26.2.2 hi26 ha26 (g := (mkF m 30 #[.val (.ref p0), .val (.ref p1), .val (.ref p2), .val (.int p3), .val (.int i)] [(.int i), (.ref o1), (.int p3), (.ref p2)])) rfl rfl (hb hby d8_30) t k) ?_
      show Go p.tables e below (P8 Z p0 p1 p2 p3 w o1 o2 ts W S ks h0 n0 s) (T25.setTop (mkF m 31 #[.val (.ref p0), .val (.ref p1), .val (.ref p2), .val (.int p3), .val (.int i)] [(.int (List.getD W (i).toNatClampNeg (0 : Int32))), (.int p3), (.ref p2)]))
      refine Go.back (fun t k => XS.iadd X25.here hx rfl (hb hby d8_31) rfl k) ?_
      show Go p.tables e below (P8 Z p0 p1 p2 p3 w o1 o2 ts W S ks h0 n0 s) (T25.setTop (mkF m 32 #[.val (.ref p0), .val (.ref p1), .val (.ref p2), .val (.int p3), .val (.int i)] [(.int (p3 + (List.getD W (i).toNatClampNeg (0 : Int32)))), (.ref p2)]))
      refine Go.back (fun t k => Jvm.Free.XT.dup2 X25.here hx rfl (hb hby d8_32) rfl rfl rfl k) ?_
      show Go p.tables e below (P8 Z p0 p1 p2 p3 w o1 o2 ts W S ks h0 n0 s) (T25.setTop (mkF m 33 #[.val (.ref p0), .val (.ref p1), .val (.ref p2), .val (.int p3), .val (.int i)] [(.int (p3 + (List.getD W (i).toNatClampNeg (0 : Int32)))), (.ref p2), (.int (p3 + (List.getD W (i).toNatClampNeg (0 : Int32)))), (.ref p2)]))
      obtain ⟨cl27, Ar27, hi27, ha27⟩ := F22.get (j := (p3 + (List.getD W (i).toNatClampNeg (0 : Int32)))) (own_kx1 hbd hq hW hwb) (v := (.long (List.getD K ((p3 + (List.getD W (i).toNatClampNeg (0 : Int32)))).toNatClampNeg (0 : Int64)))) (getJ K (own_kx2 hbd hq hW hwb))
      refine Go.back (fun t k => X25.laload hx (j := (p3 + (List.getD W (i).toNatClampNeg (0 : Int32)))) (v := (.long (List.getD K ((p3 + (List.getD W (i).toNatClampNeg (0 : Int32)))).toNatClampNeg (0 : Int64)))) (by rw [e25]; exact Ar27.1) (State.isArrayOf_alike hZ.alike Ar27.2.1) Ar27.2.2 hi27 ha27 (g := (mkF m 33 #[.val (.ref p0), .val (.ref p1), .val (.ref p2), .val (.int p3), .val (.int i)] [(.int (p3 + (List.getD W (i).toNatClampNeg (0 : Int32)))), (.ref p2), (.int (p3 + (List.getD W (i).toNatClampNeg (0 : Int32)))), (.ref p2)])) rfl rfl (hb hby d8_33) t k) ?_
      show Go p.tables e below (P8 Z p0 p1 p2 p3 w o1 o2 ts W S ks h0 n0 s) (T25.setTop (mkF m 34 #[.val (.ref p0), .val (.ref p1), .val (.ref p2), .val (.int p3), .val (.int i)] [(.long (List.getD K ((p3 + (List.getD W (i).toNatClampNeg (0 : Int32)))).toNatClampNeg (0 : Int64))), (.int (p3 + (List.getD W (i).toNatClampNeg (0 : Int32)))), (.ref p2)]))
      refine Go.back (fun t k => XS.aloadN X25.here hx rfl (hb hby d8_34) rfl rfl  k) ?_
      show Go p.tables e below (P8 Z p0 p1 p2 p3 w o1 o2 ts W S ks h0 n0 s) (T25.setTop (mkF m 35 #[.val (.ref p0), .val (.ref p1), .val (.ref p2), .val (.int p3), .val (.int i)] [(.ref p1), (.long (List.getD K ((p3 + (List.getD W (i).toNatClampNeg (0 : Int32)))).toNatClampNeg (0 : Int64))), (.int (p3 + (List.getD W (i).toNatClampNeg (0 : Int32)))), (.ref p2)]))
      refine Go.back (fun t k => XS.iload X25.here hx rfl (hb hby d8_35) rfl  k) ?_
      show Go p.tables e below (P8 Z p0 p1 p2 p3 w o1 o2 ts W S ks h0 n0 s) (T25.setTop (mkF m 37 #[.val (.ref p0), .val (.ref p1), .val (.ref p2), .val (.int p3), .val (.int i)] [(.int i), (.ref p1), (.long (List.getD K ((p3 + (List.getD W (i).toNatClampNeg (0 : Int32)))).toNatClampNeg (0 : Int64))), (.int (p3 + (List.getD W (i).toNatClampNeg (0 : Int32)))), (.ref p2)]))
      obtain ⟨cl28, Ar28, hi28, ha28⟩ := F17.get (j := i) (own_kb_nn hbd) (v := (.int (List.getD ts (i).toNatClampNeg (0 : Int32)))) (getI ts (own_kb_in hbd hl))
      refine Go.back (fun t k => X25.iaload hx (j := i) (v := (.int (List.getD ts (i).toNatClampNeg (0 : Int32)))) (by rw [e25]; exact Ar28.1) (State.isArrayOf_alike hZ.alike Ar28.2.1) Ar28.2.2 hi28 ha28 (g := (mkF m 37 #[.val (.ref p0), .val (.ref p1), .val (.ref p2), .val (.int p3), .val (.int i)] [(.int i), (.ref p1), (.long (List.getD K ((p3 + (List.getD W (i).toNatClampNeg (0 : Int32)))).toNatClampNeg (0 : Int64))), (.int (p3 + (List.getD W (i).toNatClampNeg (0 : Int32)))), (.ref p2)])) rfl rfl (hb hby d8_37) t k) ?_
      show Go p.tables e below (P8 Z p0 p1 p2 p3 w o1 o2 ts W S ks h0 n0 s) (T25.setTop (mkF m 38 #[.val (.ref p0), .val (.ref p1), .val (.ref p2), .val (.int p3), .val (.int i)] [(.int (List.getD ts (i).toNatClampNeg (0 : Int32))), (.long (List.getD K ((p3 + (List.getD W (i).toNatClampNeg (0 : Int32)))).toNatClampNeg (0 : Int64))), (.int (p3 + (List.getD W (i).toNatClampNeg (0 : Int32)))), (.ref p2)]))
      refine Go.back (fun t k => XS.i2l X25.here hx rfl (hb hby d8_38) rfl k) ?_
      show Go p.tables e below (P8 Z p0 p1 p2 p3 w o1 o2 ts W S ks h0 n0 s) (T25.setTop (mkF m 39 #[.val (.ref p0), .val (.ref p1), .val (.ref p2), .val (.int p3), .val (.int i)] [(.long (((List.getD ts (i).toNatClampNeg (0 : Int32))).toInt64)), (.long (List.getD K ((p3 + (List.getD W (i).toNatClampNeg (0 : Int32)))).toNatClampNeg (0 : Int64))), (.int (p3 + (List.getD W (i).toNatClampNeg (0 : Int32)))), (.ref p2)]))
      refine Go.back (fun t k => XS.aloadN X25.here hx rfl (hb hby d8_39) rfl rfl  k) ?_
      show Go p.tables e below (P8 Z p0 p1 p2 p3 w o1 o2 ts W S ks h0 n0 s) (T25.setTop (mkF m 40 #[.val (.ref p0), .val (.ref p1), .val (.ref p2), .val (.int p3), .val (.int i)] [(.ref p0), (.long (((List.getD ts (i).toNatClampNeg (0 : Int32))).toInt64)), (.long (List.getD K ((p3 + (List.getD W (i).toNatClampNeg (0 : Int32)))).toNatClampNeg (0 : Int64))), (.int (p3 + (List.getD W (i).toNatClampNeg (0 : Int32)))), (.ref p2)]))
      obtain ⟨T29, X29, e29, st29⟩ := getF X25 hx hZ hown (host := "") (Or.inl (hw _ (List.mem_of_getElem? (i := 22) rfl))) Via.refl e25 F16 (g := (mkF m 40 #[.val (.ref p0), .val (.ref p1), .val (.ref p2), .val (.int p3), .val (.int i)] [(.ref p0), (.long (((List.getD ts (i).toNatClampNeg (0 : Int32))).toInt64)), (.long (List.getD K ((p3 + (List.getD W (i).toNatClampNeg (0 : Int32)))).toNatClampNeg (0 : Int64))), (.int (p3 + (List.getD W (i).toNatClampNeg (0 : Int32)))), (.ref p2)])) rfl rfl (hb hby d8_40)
      refine Go.back st29 ?_
      show Go p.tables e below (P8 Z p0 p1 p2 p3 w o1 o2 ts W S ks h0 n0 s) (T29.setTop (mkF m 43 #[.val (.ref p0), .val (.ref p1), .val (.ref p2), .val (.int p3), .val (.int i)] [(.ref o2), (.long (((List.getD ts (i).toNatClampNeg (0 : Int32))).toInt64)), (.long (List.getD K ((p3 + (List.getD W (i).toNatClampNeg (0 : Int32)))).toNatClampNeg (0 : Int64))), (.int (p3 + (List.getD W (i).toNatClampNeg (0 : Int32)))), (.ref p2)]))
      refine Go.back (fun t k => XS.iload X29.here hx rfl (hb hby d8_43) rfl  k) ?_
      show Go p.tables e below (P8 Z p0 p1 p2 p3 w o1 o2 ts W S ks h0 n0 s) (T29.setTop (mkF m 45 #[.val (.ref p0), .val (.ref p1), .val (.ref p2), .val (.int p3), .val (.int i)] [(.int i), (.ref o2), (.long (((List.getD ts (i).toNatClampNeg (0 : Int32))).toInt64)), (.long (List.getD K ((p3 + (List.getD W (i).toNatClampNeg (0 : Int32)))).toNatClampNeg (0 : Int64))), (.int (p3 + (List.getD W (i).toNatClampNeg (0 : Int32)))), (.ref p2)]))
      obtain ⟨cl30, Ar30, hi30, ha30⟩ := F19.get (j := i) (own_kb_nn hbd) (v := (.int (List.getD S (i).toNatClampNeg (0 : Int32)))) (getI S (own_kb_in hbd hS))
      refine Go.back (fun t k => X29.iaload hx (j := i) (v := (.int (List.getD S (i).toNatClampNeg (0 : Int32)))) (by rw [e29]; exact Ar30.1) (State.isArrayOf_alike hZ.alike Ar30.2.1) Ar30.2.2 hi30 ha30 (g := (mkF m 45 #[.val (.ref p0), .val (.ref p1), .val (.ref p2), .val (.int p3), .val (.int i)] [(.int i), (.ref o2), (.long (((List.getD ts (i).toNatClampNeg (0 : Int32))).toInt64)), (.long (List.getD K ((p3 + (List.getD W (i).toNatClampNeg (0 : Int32)))).toNatClampNeg (0 : Int64))), (.int (p3 + (List.getD W (i).toNatClampNeg (0 : Int32)))), (.ref p2)])) rfl rfl (hb hby d8_45) t k) ?_
      show Go p.tables e below (P8 Z p0 p1 p2 p3 w o1 o2 ts W S ks h0 n0 s) (T29.setTop (mkF m 46 #[.val (.ref p0), .val (.ref p1), .val (.ref p2), .val (.int p3), .val (.int i)] [(.int (List.getD S (i).toNatClampNeg (0 : Int32))), (.long (((List.getD ts (i).toNatClampNeg (0 : Int32))).toInt64)), (.long (List.getD K ((p3 + (List.getD W (i).toNatClampNeg (0 : Int32)))).toNatClampNeg (0 : Int64))), (.int (p3 + (List.getD W (i).toNatClampNeg (0 : Int32)))), (.ref p2)]))
      refine Go.back (fun t k => XS.lshl X29.here hx rfl (hb hby d8_46) rfl k) ?_
      show Go p.tables e below (P8 Z p0 p1 p2 p3 w o1 o2 ts W S ks h0 n0 s) (T29.setTop (mkF m 47 #[.val (.ref p0), .val (.ref p1), .val (.ref p2), .val (.int p3), .val (.int i)] [(.long (((((List.getD ts (i).toNatClampNeg (0 : Int32))).toInt64) <<< ((List.getD S (i).toNatClampNeg (0 : Int32)) &&& 0x3f).toInt64))), (.long (List.getD K ((p3 + (List.getD W (i).toNatClampNeg (0 : Int32)))).toNatClampNeg (0 : Int64))), (.int (p3 + (List.getD W (i).toNatClampNeg (0 : Int32)))), (.ref p2)]))
      refine Go.back (fun t k => XS.lor X29.here hx rfl (hb hby d8_47) rfl k) ?_
      show Go p.tables e below (P8 Z p0 p1 p2 p3 w o1 o2 ts W S ks h0 n0 s) (T29.setTop (mkF m 48 #[.val (.ref p0), .val (.ref p1), .val (.ref p2), .val (.int p3), .val (.int i)] [(.long ((List.getD K ((p3 + (List.getD W (i).toNatClampNeg (0 : Int32)))).toNatClampNeg (0 : Int64)) ||| (((((List.getD ts (i).toNatClampNeg (0 : Int32))).toInt64) <<< ((List.getD S (i).toNatClampNeg (0 : Int32)) &&& 0x3f).toInt64)))), (.int (p3 + (List.getD W (i).toNatClampNeg (0 : Int32)))), (.ref p2)]))
      obtain ⟨cl31, Ar31, hi31, -⟩ := F22.at (j := (p3 + (List.getD W (i).toNatClampNeg (0 : Int32)))) (own_kx1 hbd hq hW hwb) (by simpa using (own_kx2 hbd hq hW hwb))
      obtain ⟨T31, h31, X31, e31, W31, st31⟩ := stJ X29 hx hZ e29 Ar31 (j := (p3 + (List.getD W (i).toNatClampNeg (0 : Int32)))) hi31 (g := (mkF m 48 #[.val (.ref p0), .val (.ref p1), .val (.ref p2), .val (.int p3), .val (.int i)] [(.long ((List.getD K ((p3 + (List.getD W (i).toNatClampNeg (0 : Int32)))).toNatClampNeg (0 : Int64)) ||| (((((List.getD ts (i).toNatClampNeg (0 : Int32))).toInt64) <<< ((List.getD S (i).toNatClampNeg (0 : Int32)) &&& 0x3f).toInt64)))), (.int (p3 + (List.getD W (i).toNatClampNeg (0 : Int32)))), (.ref p2)])) rfl rfl (hb hby d8_48)
      have F32 : Fld Z h31 p0 "com/example/onward/onward/explore/Packing" "words" "I" (.int w) := F14.other W31 (Or.inl H8)
      have F33 : Fld Z h31 p0 "com/example/onward/onward/explore/Packing" "word" "[I" (.ref o1) := F15.other W31 (Or.inl H8)
      have F34 : Fld Z h31 p0 "com/example/onward/onward/explore/Packing" "shift" "[I" (.ref o2) := F16.other W31 (Or.inl H8)
      have F35 : ArL Z h31 p1 .int (List.map Value.int ts) := F17.other W31 H9
      have F36 : ArL Z h31 o1 .int (List.map Value.int W) := F18.other W31 H10
      have F37 : ArL Z h31 o2 .int (List.map Value.int S) := F19.other W31 H11
      have F38 : n0 ≤ h31.size := Nat.le_trans F20 (Keep.of_wr W31).1
      have F39 : Keep h0 h31 [p2] := F21.wr W31 (Or.inl (List.mem_of_getElem? (i := 0) rfl))
      have F40 : ArL Z h31 p2 .long (List.map Value.long (List.set K ((p3 + (List.getD W (i).toNatClampNeg (0 : Int32)))).toNatClampNeg ((List.getD K ((p3 + (List.getD W (i).toNatClampNeg (0 : Int32)))).toNatClampNeg (0 : Int64)) ||| (((((List.getD ts (i).toNatClampNeg (0 : Int32))).toInt64) <<< ((List.getD S (i).toNatClampNeg (0 : Int32)) &&& 0x3f).toInt64))))) := ArL.setJ (xs := K) F22 W31
      obtain ⟨Lo31, Y31, N31⟩ := pk X31 (Fr.snoc X31 N13 H7)
      refine Go.back st31 ?_
      show Go p.tables e below (P8 Z p0 p1 p2 p3 w o1 o2 ts W S ks h0 n0 s) (T31.setTop (mkF m 49 #[.val (.ref p0), .val (.ref p1), .val (.ref p2), .val (.int p3), .val (.int i)] []))
      refine Go.back (fun t k => XS.iinc Y31.here hx rfl (hb hby d8_49) rfl (l' := #[.val (.ref p0), .val (.ref p1), .val (.ref p2), .val (.int p3), .val (.int (i + (1 : Int32)))]) rfl k) ?_
      show Go p.tables e below (P8 Z p0 p1 p2 p3 w o1 o2 ts W S ks h0 n0 s) (T31.setTop (mkF m 52 #[.val (.ref p0), .val (.ref p1), .val (.ref p2), .val (.int p3), .val (.int (i + (1 : Int32)))] []))
      refine Go.back (fun t k => XS.goto Y31.here hx rfl (pc0 := 52) (pc' := 15) rfl (hb hby d8_52) (by decide) (by decide) k) ?_
      show Go p.tables e below (P8 Z p0 p1 p2 p3 w o1 o2 ts W S ks h0 n0 s) (T31.setTop (mkF m 15 #[.val (.ref p0), .val (.ref p1), .val (.ref p2), .val (.int p3), .val (.int (i + (1 : Int32)))] []))
      exact ih (i + (1 : Int32)) (List.set K ((p3 + (List.getD W (i).toNatClampNeg (0 : Int32)))).toNatClampNeg ((List.getD K ((p3 + (List.getD W (i).toNatClampNeg (0 : Int32)))).toNatClampNeg (0 : Int64)) ||| (((((List.getD ts (i).toNatClampNeg (0 : Int32))).toInt64) <<< ((List.getD S (i).toNatClampNeg (0 : Int32)) &&& 0x3f).toInt64)))) _ _ Y31 N31 h31 e31 F32 F33 F34 F35 F36 F37 F38 F39 F40 (own_kb_next hbd (by simp)) hr
  exact LOOP12 3 (0 : Int32) (own_fill (0 : Int64) (w).toNatClampNeg p3 ks) _ _ Y2 N2 h2 e2 F3 F4 F5 F6 F7 F8 F9 F10 t11 (own_kb0 _ _ _ _) rfl
theorem d11_0 : decode prog_122_method_8_code 0 = .ok (.aload_n 0, 1) := by decide +kernel
theorem d11_1 : decode prog_122_method_8_code 1 = .ok (.getfield 7, 3) := by decide +kernel
theorem d11_4 : decode prog_122_method_8_code 4 = .ok (.iload_n 3, 1) := by decide +kernel
theorem d11_5 : decode prog_122_method_8_code 5 = .ok (.iaload, 1) := by decide +kernel
theorem d11_6 : decode prog_122_method_8_code 6 = .ok (.istore 5, 2) := by decide +kernel
theorem d11_8 : decode prog_122_method_8_code 8 = .ok (.aload_n 0, 1) := by decide +kernel
theorem d11_9 : decode prog_122_method_8_code 9 = .ok (.getfield 13, 3) := by decide +kernel
theorem d11_12 : decode prog_122_method_8_code 12 = .ok (.iload_n 3, 1) := by decide +kernel
theorem d11_13 : decode prog_122_method_8_code 13 = .ok (.iaload, 1) := by decide +kernel
theorem d11_14 : decode prog_122_method_8_code 14 = .ok (.istore 6, 2) := by decide +kernel
theorem d11_16 : decode prog_122_method_8_code 16 = .ok (.aload_n 0, 1) := by decide +kernel
theorem d11_17 : decode prog_122_method_8_code 17 = .ok (.getfield 16, 3) := by decide +kernel
theorem d11_20 : decode prog_122_method_8_code 20 = .ok (.iload_n 3, 1) := by decide +kernel
theorem d11_21 : decode prog_122_method_8_code 21 = .ok (.laload, 1) := by decide +kernel
theorem d11_22 : decode prog_122_method_8_code 22 = .ok (.lstore 7, 2) := by decide +kernel
theorem d11_24 : decode prog_122_method_8_code 24 = .ok (.iconst 0, 1) := by decide +kernel
theorem d11_25 : decode prog_122_method_8_code 25 = .ok (.istore 9, 2) := by decide +kernel
theorem d11_27 : decode prog_122_method_8_code 27 = .ok (.iload 9, 2) := by decide +kernel
theorem d11_29 : decode prog_122_method_8_code 29 = .ok (.iload_n 2, 1) := by decide +kernel
theorem d11_30 : decode prog_122_method_8_code 30 = .ok (.if_icmp .ge 33, 3) := by decide +kernel
theorem d11_33 : decode prog_122_method_8_code 33 = .ok (.aload 4, 2) := by decide +kernel
theorem d11_35 : decode prog_122_method_8_code 35 = .ok (.iload 9, 2) := by decide +kernel
theorem d11_37 : decode prog_122_method_8_code 37 = .ok (.aload_n 1, 1) := by decide +kernel
theorem d11_38 : decode prog_122_method_8_code 38 = .ok (.iload 9, 2) := by decide +kernel
theorem d11_40 : decode prog_122_method_8_code 40 = .ok (.aload_n 0, 1) := by decide +kernel
theorem d11_41 : decode prog_122_method_8_code 41 = .ok (.getfield 34, 3) := by decide +kernel
theorem d11_44 : decode prog_122_method_8_code 44 = .ok (.imul, 1) := by decide +kernel
theorem d11_45 : decode prog_122_method_8_code 45 = .ok (.iload 5, 2) := by decide +kernel
theorem d11_47 : decode prog_122_method_8_code 47 = .ok (.iadd, 1) := by decide +kernel
theorem d11_48 : decode prog_122_method_8_code 48 = .ok (.laload, 1) := by decide +kernel
theorem d11_49 : decode prog_122_method_8_code 49 = .ok (.iload 6, 2) := by decide +kernel
theorem d11_51 : decode prog_122_method_8_code 51 = .ok (.lushr, 1) := by decide +kernel
theorem d11_52 : decode prog_122_method_8_code 52 = .ok (.lload 7, 2) := by decide +kernel
theorem d11_54 : decode prog_122_method_8_code 54 = .ok (.land, 1) := by decide +kernel
theorem d11_55 : decode prog_122_method_8_code 55 = .ok (.l2i, 1) := by decide +kernel
theorem d11_56 : decode prog_122_method_8_code 56 = .ok (.iastore, 1) := by decide +kernel
theorem d11_57 : decode prog_122_method_8_code 57 = .ok (.iinc 9 1, 3) := by decide +kernel
theorem d11_60 : decode prog_122_method_8_code 60 = .ok (.goto (-33), 3) := by decide +kernel
theorem d11_63 : decode prog_122_method_8_code 63 = .ok (.return_, 1) := by decide +kernel
def Q11 (Z : State) (p0 : Addr) (p1 : Addr) (p2 : Int32) (p3 : Int32) (p4 : Addr) (w : Int32) (o1 : Addr) (o2 : Addr) (o3 : Addr) (W : List Int32) (S : List Int32) (M : List Int64) (ks : List Int64) (os : List Int32) (h0 : Heap) (n0 : Nat) (v : Option Value) (h : Heap) (L : List Loc) : Prop := v = none ∧ Fr n0 L ∧ Keep h0 h [p4] ∧ ArL Z h p4 .int (List.map Value.int (own_sts (List.getD W (p3).toNatClampNeg (0 : Int32)) (List.getD S (p3).toNatClampNeg (0 : Int32)) (List.getD M (p3).toNatClampNeg (0 : Int64)) w ks (p2).toNatClampNeg (0 : Int32) os))
abbrev rmm11 : Room := { frames := 0, cells := 0, slots := 0, locals := 0 }
abbrev P11 (Z : State) (p0 : Addr) (p1 : Addr) (p2 : Int32) (p3 : Int32) (p4 : Addr) (w : Int32) (o1 : Addr) (o2 : Addr) (o3 : Addr) (W : List Int32) (S : List Int32) (M : List Int64) (ks : List Int64) (os : List Int32) (h0 : Heap) (n0 : Nat) (s : State) : Outcome → State → Prop := fun o U' => ∃ v L, o = .returned v ∧ Q11 Z p0 p1 p2 p3 p4 w o1 o2 o3 W S M ks os h0 n0 v U'.heap L ∧ FrameEnd s o U' L rmm11.cells rmm11.slots
theorem pn_11 : plainName "com/example/onward/onward/explore/Packing" = true := by first | (simp [plainName, overriddenIn]; done) | decide +kernel
theorem ef_11 (m : MethodId) (p0 : Addr) (p1 : Addr) (p2 : Int32) (p3 : Int32) (p4 : Addr) : entryFrame m #[(.ref p0), (.ref p1), (.int p2), (.int p3), (.ref p4)] 10 = mkF m 0 #[.val (.ref p0), .val (.ref p1), .val (.int p2), .val (.int p3), .val (.ref p4), .unset, .unset, .unset, .unset, .unset] [] := by first | (simp [entryFrame, mkF, argsToLocals, Value.category]; done) | rfl
set_option maxRecDepth 65536 in
set_option maxHeartbeats 40000000 in
theorem rm11 (l : Launch) (Z : State) (a0 : Array Value) (hw : ∀ d ∈ tables_1, d.before a0 Z = true) (ws : List Jvm.Cond) (p0 : Addr) (p1 : Addr) (p2 : Int32) (p3 : Int32) (p4 : Addr) (w : Int32) (o1 : Addr) (o2 : Addr) (o3 : Addr) (W : List Int32) (S : List Int32) (M : List Int64) (ks : List Int64) (os : List Int32) (h0 : Heap) (n0 : Nat) (Z0 : n0 ≤ h0.size) (H0 : Fld Z h0 p0 "com/example/onward/onward/explore/Packing" "words" "I" (.int w)) (H1 : Fld Z h0 p0 "com/example/onward/onward/explore/Packing" "word" "[I" (.ref o1)) (H2 : Fld Z h0 p0 "com/example/onward/onward/explore/Packing" "shift" "[I" (.ref o2)) (H3 : Fld Z h0 p0 "com/example/onward/onward/explore/Packing" "mask" "[J" (.ref o3)) (H4 : ArL Z h0 o1 .int (List.map Value.int W)) (H5 : ArL Z h0 o2 .int (List.map Value.int S)) (H6 : ArL Z h0 o3 .long (List.map Value.long M)) (H7 : ArL Z h0 p1 .long (List.map Value.long ks)) (H8 : ArL Z h0 p4 .int (List.map Value.int os)) (H9 : n0 ≤ p4) (H10 : p0 ≠ p4) (H11 : p1 ≠ p4) (H12 : o1 ≠ p4) (H13 : o2 ≠ p4) (H14 : o3 ≠ p4) (hW : W.length = 3) (hS : S.length = 3) (hM : M.length = 3) (hi : own_i3 p3) (hs : own_hs p2 w (List.getD W (p3).toNatClampNeg (0 : Int32)) ks) (ho : os.length = 3) :
    MetFree l (⟨"com/example/onward/onward/explore/Packing", "states", "([JII[I)V"⟩ : MethodName) (head1 (Jvm.Cond.code (⟨"com/example/onward/onward/explore/Packing", "states", "([JII[I)V"⟩ : MethodName) prog_122_method_8_code 10 none :: ws) rmm11) (fun a U => a = #[(.ref p0), (.ref p1), (.int p2), (.int p3), (.ref p4)] ∧ Z.Warmed39 U.vm ∧ U.heap = h0) (fun _ _ _ _ _ => True) (fun _ U o U' => ∃ v L, o = .returned v ∧ Q11 Z p0 p1 p2 p3 p4 w o1 o2 o3 W S M ks os h0 n0 v U'.heap L ∧ FrameEnd U o U' L rmm11.cells rmm11.slots) := by
  refine MetFree.of_bodySF (plainFor_of_name pn_11) hisR ?_
  intro p e s m args below meth c s₁ Bd hml0 hP hK
  obtain ⟨rfl, hZ, hh⟩ := hP
  have hx := Bd.exec
  have hby := Bd.bytes
  have hml : c.maxLocals = 10 := hml0
  have hown : s.vm.findClass "com/example/onward/onward/explore/Packing" = some m.cls := findClass_of_methodNamed Bd.named
  have hnm := (name_of_methodNamed Bd.named Bd.method).1
  have X0 : Stand p l e rmm11 s m #[(.ref p0), (.ref p1), (.int p2), (.int p3), (.ref p4)] below meth c s₁ [] 0 0 := Stand.of_body Bd
  have e0 : s₁.heap = h0 := by rw [← hh, Bd.state]; rfl
  have N0 := Fr.nil n0
  show Go p.tables e below (P11 Z p0 p1 p2 p3 p4 w o1 o2 o3 W S M ks os h0 n0 s) (s₁.setTop (entryFrame m #[(.ref p0), (.ref p1), (.int p2), (.int p3), (.ref p4)] 10))
  refine Go.back (fun t k => castTop (ef_11 m p0 p1 p2 p3 p4) k) ?_
  show Go p.tables e below (P11 Z p0 p1 p2 p3 p4 w o1 o2 o3 W S M ks os h0 n0 s) (s₁.setTop (mkF m 0 #[.val (.ref p0), .val (.ref p1), .val (.int p2), .val (.int p3), .val (.ref p4), .unset, .unset, .unset, .unset, .unset] []))
  refine Go.back (fun t k => XS.aloadN X0.here hx rfl (hb hby d11_0) rfl rfl  k) ?_
  show Go p.tables e below (P11 Z p0 p1 p2 p3 p4 w o1 o2 o3 W S M ks os h0 n0 s) (s₁.setTop (mkF m 1 #[.val (.ref p0), .val (.ref p1), .val (.int p2), .val (.int p3), .val (.ref p4), .unset, .unset, .unset, .unset, .unset] [(.ref p0)]))
  obtain ⟨T1, X1, e1, st1⟩ := getF X0 hx hZ hown (host := "") (Or.inl (hw _ (List.mem_of_getElem? (i := 20) rfl))) Via.refl e0 H1 (g := (mkF m 1 #[.val (.ref p0), .val (.ref p1), .val (.int p2), .val (.int p3), .val (.ref p4), .unset, .unset, .unset, .unset, .unset] [(.ref p0)])) rfl rfl (hb hby d11_1)
  refine Go.back st1 ?_
  show Go p.tables e below (P11 Z p0 p1 p2 p3 p4 w o1 o2 o3 W S M ks os h0 n0 s) (T1.setTop (mkF m 4 #[.val (.ref p0), .val (.ref p1), .val (.int p2), .val (.int p3), .val (.ref p4), .unset, .unset, .unset, .unset, .unset] [(.ref o1)]))
  refine Go.back (fun t k => XS.iloadN X1.here hx rfl (hb hby d11_4) rfl  k) ?_
  show Go p.tables e below (P11 Z p0 p1 p2 p3 p4 w o1 o2 o3 W S M ks os h0 n0 s) (T1.setTop (mkF m 5 #[.val (.ref p0), .val (.ref p1), .val (.int p2), .val (.int p3), .val (.ref p4), .unset, .unset, .unset, .unset, .unset] [(.int p3), (.ref o1)]))
  obtain ⟨cl2, Ar2, hi2, ha2⟩ := H4.get (j := p3) hi.1 (v := (.int (List.getD W (p3).toNatClampNeg (0 : Int32)))) (getI W (own_ix hi hW))
  refine Go.back (fun t k => X1.iaload hx (j := p3) (v := (.int (List.getD W (p3).toNatClampNeg (0 : Int32)))) (by rw [e1]; exact Ar2.1) (State.isArrayOf_alike hZ.alike Ar2.2.1) Ar2.2.2 hi2 ha2 (g := (mkF m 5 #[.val (.ref p0), .val (.ref p1), .val (.int p2), .val (.int p3), .val (.ref p4), .unset, .unset, .unset, .unset, .unset] [(.int p3), (.ref o1)])) rfl rfl (hb hby d11_5) t k) ?_
  show Go p.tables e below (P11 Z p0 p1 p2 p3 p4 w o1 o2 o3 W S M ks os h0 n0 s) (T1.setTop (mkF m 6 #[.val (.ref p0), .val (.ref p1), .val (.int p2), .val (.int p3), .val (.ref p4), .unset, .unset, .unset, .unset, .unset] [(.int (List.getD W (p3).toNatClampNeg (0 : Int32)))]))
  refine Go.back (fun t k => XS.istore X1.here hx rfl (hb hby d11_6) rfl (l' := #[.val (.ref p0), .val (.ref p1), .val (.int p2), .val (.int p3), .val (.ref p4), .val (.int (List.getD W (p3).toNatClampNeg (0 : Int32))), .unset, .unset, .unset, .unset]) rfl k) ?_
  show Go p.tables e below (P11 Z p0 p1 p2 p3 p4 w o1 o2 o3 W S M ks os h0 n0 s) (T1.setTop (mkF m 8 #[.val (.ref p0), .val (.ref p1), .val (.int p2), .val (.int p3), .val (.ref p4), .val (.int (List.getD W (p3).toNatClampNeg (0 : Int32))), .unset, .unset, .unset, .unset] []))
  refine Go.back (fun t k => XS.aloadN X1.here hx rfl (hb hby d11_8) rfl rfl  k) ?_
  show Go p.tables e below (P11 Z p0 p1 p2 p3 p4 w o1 o2 o3 W S M ks os h0 n0 s) (T1.setTop (mkF m 9 #[.val (.ref p0), .val (.ref p1), .val (.int p2), .val (.int p3), .val (.ref p4), .val (.int (List.getD W (p3).toNatClampNeg (0 : Int32))), .unset, .unset, .unset, .unset] [(.ref p0)]))
  obtain ⟨T3, X3, e3, st3⟩ := getF X1 hx hZ hown (host := "") (Or.inl (hw _ (List.mem_of_getElem? (i := 22) rfl))) Via.refl e1 H2 (g := (mkF m 9 #[.val (.ref p0), .val (.ref p1), .val (.int p2), .val (.int p3), .val (.ref p4), .val (.int (List.getD W (p3).toNatClampNeg (0 : Int32))), .unset, .unset, .unset, .unset] [(.ref p0)])) rfl rfl (hb hby d11_9)
  refine Go.back st3 ?_
  show Go p.tables e below (P11 Z p0 p1 p2 p3 p4 w o1 o2 o3 W S M ks os h0 n0 s) (T3.setTop (mkF m 12 #[.val (.ref p0), .val (.ref p1), .val (.int p2), .val (.int p3), .val (.ref p4), .val (.int (List.getD W (p3).toNatClampNeg (0 : Int32))), .unset, .unset, .unset, .unset] [(.ref o2)]))
  refine Go.back (fun t k => XS.iloadN X3.here hx rfl (hb hby d11_12) rfl  k) ?_
  show Go p.tables e below (P11 Z p0 p1 p2 p3 p4 w o1 o2 o3 W S M ks os h0 n0 s) (T3.setTop (mkF m 13 #[.val (.ref p0), .val (.ref p1), .val (.int p2), .val (.int p3), .val (.ref p4), .val (.int (List.getD W (p3).toNatClampNeg (0 : Int32))), .unset, .unset, .unset, .unset] [(.int p3), (.ref o2)]))
  obtain ⟨cl4, Ar4, hi4, ha4⟩ := H5.get (j := p3) hi.1 (v := (.int (List.getD S (p3).toNatClampNeg (0 : Int32)))) (getI S (own_ix hi hS))
  refine Go.back (fun t k => X3.iaload hx (j := p3) (v := (.int (List.getD S (p3).toNatClampNeg (0 : Int32)))) (by rw [e3]; exact Ar4.1) (State.isArrayOf_alike hZ.alike Ar4.2.1) Ar4.2.2 hi4 ha4 (g := (mkF m 13 #[.val (.ref p0), .val (.ref p1), .val (.int p2), .val (.int p3), .val (.ref p4), .val (.int (List.getD W (p3).toNatClampNeg (0 : Int32))), .unset, .unset, .unset, .unset] [(.int p3), (.ref o2)])) rfl rfl (hb hby d11_13) t k) ?_
  show Go p.tables e below (P11 Z p0 p1 p2 p3 p4 w o1 o2 o3 W S M ks os h0 n0 s) (T3.setTop (mkF m 14 #[.val (.ref p0), .val (.ref p1), .val (.int p2), .val (.int p3), .val (.ref p4), .val (.int (List.getD W (p3).toNatClampNeg (0 : Int32))), .unset, .unset, .unset, .unset] [(.int (List.getD S (p3).toNatClampNeg (0 : Int32)))]))
  refine Go.back (fun t k => XS.istore X3.here hx rfl (hb hby d11_14) rfl (l' := #[.val (.ref p0), .val (.ref p1), .val (.int p2), .val (.int p3), .val (.ref p4), .val (.int (List.getD W (p3).toNatClampNeg (0 : Int32))), .val (.int (List.getD S (p3).toNatClampNeg (0 : Int32))), .unset, .unset, .unset]) rfl k) ?_
  show Go p.tables e below (P11 Z p0 p1 p2 p3 p4 w o1 o2 o3 W S M ks os h0 n0 s) (T3.setTop (mkF m 16 #[.val (.ref p0), .val (.ref p1), .val (.int p2), .val (.int p3), .val (.ref p4), .val (.int (List.getD W (p3).toNatClampNeg (0 : Int32))), .val (.int (List.getD S (p3).toNatClampNeg (0 : Int32))), .unset, .unset, .unset] []))
  refine Go.back (fun t k => XS.aloadN X3.here hx rfl (hb hby d11_16) rfl rfl  k) ?_
  show Go p.tables e below (P11 Z p0 p1 p2 p3 p4 w o1 o2 o3 W S M ks os h0 n0 s) (T3.setTop (mkF m 17 #[.val (.ref p0), .val (.ref p1), .val (.int p2), .val (.int p3), .val (.ref p4), .val (.int (List.getD W (p3).toNatClampNeg (0 : Int32))), .val (.int (List.getD S (p3).toNatClampNeg (0 : Int32))), .unset, .unset, .unset] [(.ref p0)]))
  obtain ⟨T5, X5, e5, st5⟩ := getF X3 hx hZ hown (host := "") (Or.inl (hw _ (List.mem_of_getElem? (i := 25) rfl))) Via.refl e3 H3 (g := (mkF m 17 #[.val (.ref p0), .val (.ref p1), .val (.int p2), .val (.int p3), .val (.ref p4), .val (.int (List.getD W (p3).toNatClampNeg (0 : Int32))), .val (.int (List.getD S (p3).toNatClampNeg (0 : Int32))), .unset, .unset, .unset] [(.ref p0)])) rfl rfl (hb hby d11_17)
  refine Go.back st5 ?_
  show Go p.tables e below (P11 Z p0 p1 p2 p3 p4 w o1 o2 o3 W S M ks os h0 n0 s) (T5.setTop (mkF m 20 #[.val (.ref p0), .val (.ref p1), .val (.int p2), .val (.int p3), .val (.ref p4), .val (.int (List.getD W (p3).toNatClampNeg (0 : Int32))), .val (.int (List.getD S (p3).toNatClampNeg (0 : Int32))), .unset, .unset, .unset] [(.ref o3)]))
  refine Go.back (fun t k => XS.iloadN X5.here hx rfl (hb hby d11_20) rfl  k) ?_
  show Go p.tables e below (P11 Z p0 p1 p2 p3 p4 w o1 o2 o3 W S M ks os h0 n0 s) (T5.setTop (mkF m 21 #[.val (.ref p0), .val (.ref p1), .val (.int p2), .val (.int p3), .val (.ref p4), .val (.int (List.getD W (p3).toNatClampNeg (0 : Int32))), .val (.int (List.getD S (p3).toNatClampNeg (0 : Int32))), .unset, .unset, .unset] [(.int p3), (.ref o3)]))
  obtain ⟨cl6, Ar6, hi6, ha6⟩ := H6.get (j := p3) hi.1 (v := (.long (List.getD M (p3).toNatClampNeg (0 : Int64)))) (getJ M (own_ix hi hM))
  refine Go.back (fun t k => X5.laload hx (j := p3) (v := (.long (List.getD M (p3).toNatClampNeg (0 : Int64)))) (by rw [e5]; exact Ar6.1) (State.isArrayOf_alike hZ.alike Ar6.2.1) Ar6.2.2 hi6 ha6 (g := (mkF m 21 #[.val (.ref p0), .val (.ref p1), .val (.int p2), .val (.int p3), .val (.ref p4), .val (.int (List.getD W (p3).toNatClampNeg (0 : Int32))), .val (.int (List.getD S (p3).toNatClampNeg (0 : Int32))), .unset, .unset, .unset] [(.int p3), (.ref o3)])) rfl rfl (hb hby d11_21) t k) ?_
  show Go p.tables e below (P11 Z p0 p1 p2 p3 p4 w o1 o2 o3 W S M ks os h0 n0 s) (T5.setTop (mkF m 22 #[.val (.ref p0), .val (.ref p1), .val (.int p2), .val (.int p3), .val (.ref p4), .val (.int (List.getD W (p3).toNatClampNeg (0 : Int32))), .val (.int (List.getD S (p3).toNatClampNeg (0 : Int32))), .unset, .unset, .unset] [(.long (List.getD M (p3).toNatClampNeg (0 : Int64)))]))
  refine Go.back (fun t k => XS.lstore X5.here hx rfl (hb hby d11_22) rfl (l' := #[.val (.ref p0), .val (.ref p1), .val (.int p2), .val (.int p3), .val (.ref p4), .val (.int (List.getD W (p3).toNatClampNeg (0 : Int32))), .val (.int (List.getD S (p3).toNatClampNeg (0 : Int32))), .val (.long (List.getD M (p3).toNatClampNeg (0 : Int64))), .second, .unset]) rfl k) ?_
  show Go p.tables e below (P11 Z p0 p1 p2 p3 p4 w o1 o2 o3 W S M ks os h0 n0 s) (T5.setTop (mkF m 24 #[.val (.ref p0), .val (.ref p1), .val (.int p2), .val (.int p3), .val (.ref p4), .val (.int (List.getD W (p3).toNatClampNeg (0 : Int32))), .val (.int (List.getD S (p3).toNatClampNeg (0 : Int32))), .val (.long (List.getD M (p3).toNatClampNeg (0 : Int64))), .second, .unset] []))
  refine Go.back (fun t k => XS.iconst X5.here hx rfl (hb hby d11_24) k) ?_
  show Go p.tables e below (P11 Z p0 p1 p2 p3 p4 w o1 o2 o3 W S M ks os h0 n0 s) (T5.setTop (mkF m 25 #[.val (.ref p0), .val (.ref p1), .val (.int p2), .val (.int p3), .val (.ref p4), .val (.int (List.getD W (p3).toNatClampNeg (0 : Int32))), .val (.int (List.getD S (p3).toNatClampNeg (0 : Int32))), .val (.long (List.getD M (p3).toNatClampNeg (0 : Int64))), .second, .unset] [(.int (0 : Int32))]))
  refine Go.back (fun t k => XS.istore X5.here hx rfl (hb hby d11_25) rfl (l' := #[.val (.ref p0), .val (.ref p1), .val (.int p2), .val (.int p3), .val (.ref p4), .val (.int (List.getD W (p3).toNatClampNeg (0 : Int32))), .val (.int (List.getD S (p3).toNatClampNeg (0 : Int32))), .val (.long (List.getD M (p3).toNatClampNeg (0 : Int64))), .second, .val (.int (0 : Int32))]) rfl k) ?_
  show Go p.tables e below (P11 Z p0 p1 p2 p3 p4 w o1 o2 o3 W S M ks os h0 n0 s) (T5.setTop (mkF m 27 #[.val (.ref p0), .val (.ref p1), .val (.int p2), .val (.int p3), .val (.ref p4), .val (.int (List.getD W (p3).toNatClampNeg (0 : Int32))), .val (.int (List.getD S (p3).toNatClampNeg (0 : Int32))), .val (.long (List.getD M (p3).toNatClampNeg (0 : Int64))), .second, .val (.int (0 : Int32))] []))
  have LOOP7 : ∀ (n : Nat) (kk : Int32) (O : List Int32) (T8 : State) (L8 : List Loc) (X8 : Stand p l e rmm11 s m #[(.ref p0), (.ref p1), (.int p2), (.int p3), (.ref p4)] below meth c T8 L8 0 0) (N8 : Fr n0 L8) (h8 : Heap) (e8 : T8.heap = h8) (F9 : Fld Z h8 p0 "com/example/onward/onward/explore/Packing" "words" "I" (.int w)) (F10 : Fld Z h8 p0 "com/example/onward/onward/explore/Packing" "word" "[I" (.ref o1)) (F11 : Fld Z h8 p0 "com/example/onward/onward/explore/Packing" "shift" "[I" (.ref o2)) (F12 : Fld Z h8 p0 "com/example/onward/onward/explore/Packing" "mask" "[J" (.ref o3)) (F13 : ArL Z h8 o1 .int (List.map Value.int W)) (F14 : ArL Z h8 o2 .int (List.map Value.int S)) (F15 : ArL Z h8 o3 .long (List.map Value.long M)) (F16 : ArL Z h8 p1 .long (List.map Value.long ks)) (F17 : ArL Z h8 p4 .int (List.map Value.int O)) (F18 : n0 ≤ h8.size) (F19 : Keep h0 h8 [p4]) (hbd : own_sb n kk p2 O) (hr : (own_sts (List.getD W (p3).toNatClampNeg (0 : Int32)) (List.getD S (p3).toNatClampNeg (0 : Int32)) (List.getD M (p3).toNatClampNeg (0 : Int64)) w ks (p2).toNatClampNeg (0 : Int32) os) = own_sts (List.getD W (p3).toNatClampNeg (0 : Int32)) (List.getD S (p3).toNatClampNeg (0 : Int32)) (List.getD M (p3).toNatClampNeg (0 : Int64)) w ks n kk O), Go p.tables e below (P11 Z p0 p1 p2 p3 p4 w o1 o2 o3 W S M ks os h0 n0 s) (T8.setTop (mkF m 27 #[.val (.ref p0), .val (.ref p1), .val (.int p2), .val (.int p3), .val (.ref p4), .val (.int (List.getD W (p3).toNatClampNeg (0 : Int32))), .val (.int (List.getD S (p3).toNatClampNeg (0 : Int32))), .val (.long (List.getD M (p3).toNatClampNeg (0 : Int64))), .second, .val (.int kk)] [])) := by
    intro n
    induction n with
    | zero =>
      intro kk O T8 L8 X8 N8 h8 e8 F9 F10 F11 F12 F13 F14 F15 F16 F17 F18 F19 hbd hr
      show Go p.tables e below (P11 Z p0 p1 p2 p3 p4 w o1 o2 o3 W S M ks os h0 n0 s) (T8.setTop (mkF m 27 #[.val (.ref p0), .val (.ref p1), .val (.int p2), .val (.int p3), .val (.ref p4), .val (.int (List.getD W (p3).toNatClampNeg (0 : Int32))), .val (.int (List.getD S (p3).toNatClampNeg (0 : Int32))), .val (.long (List.getD M (p3).toNatClampNeg (0 : Int64))), .second, .val (.int kk)] []))
      refine Go.back (fun t k => XS.iload X8.here hx rfl (hb hby d11_27) rfl  k) ?_
      show Go p.tables e below (P11 Z p0 p1 p2 p3 p4 w o1 o2 o3 W S M ks os h0 n0 s) (T8.setTop (mkF m 29 #[.val (.ref p0), .val (.ref p1), .val (.int p2), .val (.int p3), .val (.ref p4), .val (.int (List.getD W (p3).toNatClampNeg (0 : Int32))), .val (.int (List.getD S (p3).toNatClampNeg (0 : Int32))), .val (.long (List.getD M (p3).toNatClampNeg (0 : Int64))), .second, .val (.int kk)] [(.int kk)]))
      refine Go.back (fun t k => XS.iloadN X8.here hx rfl (hb hby d11_29) rfl  k) ?_
      show Go p.tables e below (P11 Z p0 p1 p2 p3 p4 w o1 o2 o3 W S M ks os h0 n0 s) (T8.setTop (mkF m 30 #[.val (.ref p0), .val (.ref p1), .val (.int p2), .val (.int p3), .val (.ref p4), .val (.int (List.getD W (p3).toNatClampNeg (0 : Int32))), .val (.int (List.getD S (p3).toNatClampNeg (0 : Int32))), .val (.long (List.getD M (p3).toNatClampNeg (0 : Int64))), .second, .val (.int kk)] [(.int p2), (.int kk)]))
      refine Go.back (fun t k => XS.icmpYes X8.here hx rfl (pc0 := 30) (pc' := 63) rfl (hb hby d11_30) rfl (flt (own_sb_z hbd)).2.1 (by decide) (by decide) k) ?_
      show Go p.tables e below (P11 Z p0 p1 p2 p3 p4 w o1 o2 o3 W S M ks os h0 n0 s) (T8.setTop (mkF m 63 #[.val (.ref p0), .val (.ref p1), .val (.int p2), .val (.int p3), .val (.ref p4), .val (.int (List.getD W (p3).toNatClampNeg (0 : Int32))), .val (.int (List.getD S (p3).toNatClampNeg (0 : Int32))), .val (.long (List.getD M (p3).toNatClampNeg (0 : Int64))), .second, .val (.int kk)] []))
      exact Go.retV X8 hx Bd.returns (hb hby d11_63) Bd.notSynchronized ⟨rfl, N8, (by rw [e8]; exact F19), (by rw [e8, hr]; exact F17)⟩ (by decide) (by decide)
    | succ n ih =>
      intro kk O T8 L8 X8 N8 h8 e8 F9 F10 F11 F12 F13 F14 F15 F16 F17 F18 F19 hbd hr
      show Go p.tables e below (P11 Z p0 p1 p2 p3 p4 w o1 o2 o3 W S M ks os h0 n0 s) (T8.setTop (mkF m 27 #[.val (.ref p0), .val (.ref p1), .val (.int p2), .val (.int p3), .val (.ref p4), .val (.int (List.getD W (p3).toNatClampNeg (0 : Int32))), .val (.int (List.getD S (p3).toNatClampNeg (0 : Int32))), .val (.long (List.getD M (p3).toNatClampNeg (0 : Int64))), .second, .val (.int kk)] []))
      refine Go.back (fun t k => XS.iload X8.here hx rfl (hb hby d11_27) rfl  k) ?_
      show Go p.tables e below (P11 Z p0 p1 p2 p3 p4 w o1 o2 o3 W S M ks os h0 n0 s) (T8.setTop (mkF m 29 #[.val (.ref p0), .val (.ref p1), .val (.int p2), .val (.int p3), .val (.ref p4), .val (.int (List.getD W (p3).toNatClampNeg (0 : Int32))), .val (.int (List.getD S (p3).toNatClampNeg (0 : Int32))), .val (.long (List.getD M (p3).toNatClampNeg (0 : Int64))), .second, .val (.int kk)] [(.int kk)]))
      refine Go.back (fun t k => XS.iloadN X8.here hx rfl (hb hby d11_29) rfl  k) ?_
      show Go p.tables e below (P11 Z p0 p1 p2 p3 p4 w o1 o2 o3 W S M ks os h0 n0 s) (T8.setTop (mkF m 30 #[.val (.ref p0), .val (.ref p1), .val (.int p2), .val (.int p3), .val (.ref p4), .val (.int (List.getD W (p3).toNatClampNeg (0 : Int32))), .val (.int (List.getD S (p3).toNatClampNeg (0 : Int32))), .val (.long (List.getD M (p3).toNatClampNeg (0 : Int64))), .second, .val (.int kk)] [(.int p2), (.int kk)]))
      refine Go.back (fun t k => XS.icmpNo X8.here hx rfl (hb hby d11_30) rfl (tlt (own_sb_s hbd)).2.1 k) ?_
      show Go p.tables e below (P11 Z p0 p1 p2 p3 p4 w o1 o2 o3 W S M ks os h0 n0 s) (T8.setTop (mkF m 33 #[.val (.ref p0), .val (.ref p1), .val (.int p2), .val (.int p3), .val (.ref p4), .val (.int (List.getD W (p3).toNatClampNeg (0 : Int32))), .val (.int (List.getD S (p3).toNatClampNeg (0 : Int32))), .val (.long (List.getD M (p3).toNatClampNeg (0 : Int64))), .second, .val (.int kk)] []))
      refine Go.back (fun t k => XS.aload X8.here hx rfl (hb hby d11_33) rfl rfl  k) ?_
      show Go p.tables e below (P11 Z p0 p1 p2 p3 p4 w o1 o2 o3 W S M ks os h0 n0 s) (T8.setTop (mkF m 35 #[.val (.ref p0), .val (.ref p1), .val (.int p2), .val (.int p3), .val (.ref p4), .val (.int (List.getD W (p3).toNatClampNeg (0 : Int32))), .val (.int (List.getD S (p3).toNatClampNeg (0 : Int32))), .val (.long (List.getD M (p3).toNatClampNeg (0 : Int64))), .second, .val (.int kk)] [(.ref p4)]))
      refine Go.back (fun t k => XS.iload X8.here hx rfl (hb hby d11_35) rfl  k) ?_
      show Go p.tables e below (P11 Z p0 p1 p2 p3 p4 w o1 o2 o3 W S M ks os h0 n0 s) (T8.setTop (mkF m 37 #[.val (.ref p0), .val (.ref p1), .val (.int p2), .val (.int p3), .val (.ref p4), .val (.int (List.getD W (p3).toNatClampNeg (0 : Int32))), .val (.int (List.getD S (p3).toNatClampNeg (0 : Int32))), .val (.long (List.getD M (p3).toNatClampNeg (0 : Int64))), .second, .val (.int kk)] [(.int kk), (.ref p4)]))
      refine Go.back (fun t k => XS.aloadN X8.here hx rfl (hb hby d11_37) rfl rfl  k) ?_
      show Go p.tables e below (P11 Z p0 p1 p2 p3 p4 w o1 o2 o3 W S M ks os h0 n0 s) (T8.setTop (mkF m 38 #[.val (.ref p0), .val (.ref p1), .val (.int p2), .val (.int p3), .val (.ref p4), .val (.int (List.getD W (p3).toNatClampNeg (0 : Int32))), .val (.int (List.getD S (p3).toNatClampNeg (0 : Int32))), .val (.long (List.getD M (p3).toNatClampNeg (0 : Int64))), .second, .val (.int kk)] [(.ref p1), (.int kk), (.ref p4)]))
      refine Go.back (fun t k => XS.iload X8.here hx rfl (hb hby d11_38) rfl  k) ?_
      show Go p.tables e below (P11 Z p0 p1 p2 p3 p4 w o1 o2 o3 W S M ks os h0 n0 s) (T8.setTop (mkF m 40 #[.val (.ref p0), .val (.ref p1), .val (.int p2), .val (.int p3), .val (.ref p4), .val (.int (List.getD W (p3).toNatClampNeg (0 : Int32))), .val (.int (List.getD S (p3).toNatClampNeg (0 : Int32))), .val (.long (List.getD M (p3).toNatClampNeg (0 : Int64))), .second, .val (.int kk)] [(.int kk), (.ref p1), (.int kk), (.ref p4)]))
      refine Go.back (fun t k => XS.aloadN X8.here hx rfl (hb hby d11_40) rfl rfl  k) ?_
      show Go p.tables e below (P11 Z p0 p1 p2 p3 p4 w o1 o2 o3 W S M ks os h0 n0 s) (T8.setTop (mkF m 41 #[.val (.ref p0), .val (.ref p1), .val (.int p2), .val (.int p3), .val (.ref p4), .val (.int (List.getD W (p3).toNatClampNeg (0 : Int32))), .val (.int (List.getD S (p3).toNatClampNeg (0 : Int32))), .val (.long (List.getD M (p3).toNatClampNeg (0 : Int64))), .second, .val (.int kk)] [(.ref p0), (.int kk), (.ref p1), (.int kk), (.ref p4)]))
      obtain ⟨T20, X20, e20, st20⟩ := getF X8 hx hZ hown (host := "") (Or.inl (hw _ (List.mem_of_getElem? (i := 35) rfl))) Via.refl e8 F9 (g := (mkF m 41 #[.val (.ref p0), .val (.ref p1), .val (.int p2), .val (.int p3), .val (.ref p4), .val (.int (List.getD W (p3).toNatClampNeg (0 : Int32))), .val (.int (List.getD S (p3).toNatClampNeg (0 : Int32))), .val (.long (List.getD M (p3).toNatClampNeg (0 : Int64))), .second, .val (.int kk)] [(.ref p0), (.int kk), (.ref p1), (.int kk), (.ref p4)])) rfl rfl (hb hby d11_41)
      refine Go.back st20 ?_
      show Go p.tables e below (P11 Z p0 p1 p2 p3 p4 w o1 o2 o3 W S M ks os h0 n0 s) (T20.setTop (mkF m 44 #[.val (.ref p0), .val (.ref p1), .val (.int p2), .val (.int p3), .val (.ref p4), .val (.int (List.getD W (p3).toNatClampNeg (0 : Int32))), .val (.int (List.getD S (p3).toNatClampNeg (0 : Int32))), .val (.long (List.getD M (p3).toNatClampNeg (0 : Int64))), .second, .val (.int kk)] [(.int w), (.int kk), (.ref p1), (.int kk), (.ref p4)]))
      refine Go.back (fun t k => XS.imul X20.here hx rfl (hb hby d11_44) rfl k) ?_
      show Go p.tables e below (P11 Z p0 p1 p2 p3 p4 w o1 o2 o3 W S M ks os h0 n0 s) (T20.setTop (mkF m 45 #[.val (.ref p0), .val (.ref p1), .val (.int p2), .val (.int p3), .val (.ref p4), .val (.int (List.getD W (p3).toNatClampNeg (0 : Int32))), .val (.int (List.getD S (p3).toNatClampNeg (0 : Int32))), .val (.long (List.getD M (p3).toNatClampNeg (0 : Int64))), .second, .val (.int kk)] [(.int (kk * w)), (.ref p1), (.int kk), (.ref p4)]))
      refine Go.back (fun t k => XS.iload X20.here hx rfl (hb hby d11_45) rfl  k) ?_
      show Go p.tables e below (P11 Z p0 p1 p2 p3 p4 w o1 o2 o3 W S M ks os h0 n0 s) (T20.setTop (mkF m 47 #[.val (.ref p0), .val (.ref p1), .val (.int p2), .val (.int p3), .val (.ref p4), .val (.int (List.getD W (p3).toNatClampNeg (0 : Int32))), .val (.int (List.getD S (p3).toNatClampNeg (0 : Int32))), .val (.long (List.getD M (p3).toNatClampNeg (0 : Int64))), .second, .val (.int kk)] [(.int (List.getD W (p3).toNatClampNeg (0 : Int32))), (.int (kk * w)), (.ref p1), (.int kk), (.ref p4)]))
      refine Go.back (fun t k => XS.iadd X20.here hx rfl (hb hby d11_47) rfl k) ?_
      show Go p.tables e below (P11 Z p0 p1 p2 p3 p4 w o1 o2 o3 W S M ks os h0 n0 s) (T20.setTop (mkF m 48 #[.val (.ref p0), .val (.ref p1), .val (.int p2), .val (.int p3), .val (.ref p4), .val (.int (List.getD W (p3).toNatClampNeg (0 : Int32))), .val (.int (List.getD S (p3).toNatClampNeg (0 : Int32))), .val (.long (List.getD M (p3).toNatClampNeg (0 : Int64))), .second, .val (.int kk)] [(.int ((kk * w) + (List.getD W (p3).toNatClampNeg (0 : Int32)))), (.ref p1), (.int kk), (.ref p4)]))
      obtain ⟨cl21, Ar21, hi21, ha21⟩ := F16.get (j := ((kk * w) + (List.getD W (p3).toNatClampNeg (0 : Int32)))) (own_sx1 hbd hs) (v := (.long (List.getD ks (((kk * w) + (List.getD W (p3).toNatClampNeg (0 : Int32)))).toNatClampNeg (0 : Int64)))) (getJ ks (own_sx2 hbd hs))
      refine Go.back (fun t k => X20.laload hx (j := ((kk * w) + (List.getD W (p3).toNatClampNeg (0 : Int32)))) (v := (.long (List.getD ks (((kk * w) + (List.getD W (p3).toNatClampNeg (0 : Int32)))).toNatClampNeg (0 : Int64)))) (by rw [e20]; exact Ar21.1) (State.isArrayOf_alike hZ.alike Ar21.2.1) Ar21.2.2 hi21 ha21 (g := (mkF m 48 #[.val (.ref p0), .val (.ref p1), .val (.int p2), .val (.int p3), .val (.ref p4), .val (.int (List.getD W (p3).toNatClampNeg (0 : Int32))), .val (.int (List.getD S (p3).toNatClampNeg (0 : Int32))), .val (.long (List.getD M (p3).toNatClampNeg (0 : Int64))), .second, .val (.int kk)] [(.int ((kk * w) + (List.getD W (p3).toNatClampNeg (0 : Int32)))), (.ref p1), (.int kk), (.ref p4)])) rfl rfl (hb hby d11_48) t k) ?_
      show Go p.tables e below (P11 Z p0 p1 p2 p3 p4 w o1 o2 o3 W S M ks os h0 n0 s) (T20.setTop (mkF m 49 #[.val (.ref p0), .val (.ref p1), .val (.int p2), .val (.int p3), .val (.ref p4), .val (.int (List.getD W (p3).toNatClampNeg (0 : Int32))), .val (.int (List.getD S (p3).toNatClampNeg (0 : Int32))), .val (.long (List.getD M (p3).toNatClampNeg (0 : Int64))), .second, .val (.int kk)] [(.long (List.getD ks (((kk * w) + (List.getD W (p3).toNatClampNeg (0 : Int32)))).toNatClampNeg (0 : Int64))), (.int kk), (.ref p4)]))
      refine Go.back (fun t k => XS.iload X20.here hx rfl (hb hby d11_49) rfl  k) ?_
      show Go p.tables e below (P11 Z p0 p1 p2 p3 p4 w o1 o2 o3 W S M ks os h0 n0 s) (T20.setTop (mkF m 51 #[.val (.ref p0), .val (.ref p1), .val (.int p2), .val (.int p3), .val (.ref p4), .val (.int (List.getD W (p3).toNatClampNeg (0 : Int32))), .val (.int (List.getD S (p3).toNatClampNeg (0 : Int32))), .val (.long (List.getD M (p3).toNatClampNeg (0 : Int64))), .second, .val (.int kk)] [(.int (List.getD S (p3).toNatClampNeg (0 : Int32))), (.long (List.getD ks (((kk * w) + (List.getD W (p3).toNatClampNeg (0 : Int32)))).toNatClampNeg (0 : Int64))), (.int kk), (.ref p4)]))
      refine Go.back (fun t k => XS.lushr X20.here hx rfl (hb hby d11_51) rfl k) ?_
      show Go p.tables e below (P11 Z p0 p1 p2 p3 p4 w o1 o2 o3 W S M ks os h0 n0 s) (T20.setTop (mkF m 52 #[.val (.ref p0), .val (.ref p1), .val (.int p2), .val (.int p3), .val (.ref p4), .val (.int (List.getD W (p3).toNatClampNeg (0 : Int32))), .val (.int (List.getD S (p3).toNatClampNeg (0 : Int32))), .val (.long (List.getD M (p3).toNatClampNeg (0 : Int64))), .second, .val (.int kk)] [(.long ((((List.getD ks (((kk * w) + (List.getD W (p3).toNatClampNeg (0 : Int32)))).toNatClampNeg (0 : Int64))).toUInt64 >>> ((List.getD S (p3).toNatClampNeg (0 : Int32)) &&& 0x3f).toInt64.toUInt64).toInt64)), (.int kk), (.ref p4)]))
      refine Go.back (fun t k => XS.lload X20.here hx rfl (hb hby d11_52) rfl  k) ?_
      show Go p.tables e below (P11 Z p0 p1 p2 p3 p4 w o1 o2 o3 W S M ks os h0 n0 s) (T20.setTop (mkF m 54 #[.val (.ref p0), .val (.ref p1), .val (.int p2), .val (.int p3), .val (.ref p4), .val (.int (List.getD W (p3).toNatClampNeg (0 : Int32))), .val (.int (List.getD S (p3).toNatClampNeg (0 : Int32))), .val (.long (List.getD M (p3).toNatClampNeg (0 : Int64))), .second, .val (.int kk)] [(.long (List.getD M (p3).toNatClampNeg (0 : Int64))), (.long ((((List.getD ks (((kk * w) + (List.getD W (p3).toNatClampNeg (0 : Int32)))).toNatClampNeg (0 : Int64))).toUInt64 >>> ((List.getD S (p3).toNatClampNeg (0 : Int32)) &&& 0x3f).toInt64.toUInt64).toInt64)), (.int kk), (.ref p4)]))
      refine Go.back (fun t k => XS.land X20.here hx rfl (hb hby d11_54) rfl k) ?_
      show Go p.tables e below (P11 Z p0 p1 p2 p3 p4 w o1 o2 o3 W S M ks os h0 n0 s) (T20.setTop (mkF m 55 #[.val (.ref p0), .val (.ref p1), .val (.int p2), .val (.int p3), .val (.ref p4), .val (.int (List.getD W (p3).toNatClampNeg (0 : Int32))), .val (.int (List.getD S (p3).toNatClampNeg (0 : Int32))), .val (.long (List.getD M (p3).toNatClampNeg (0 : Int64))), .second, .val (.int kk)] [(.long (((((List.getD ks (((kk * w) + (List.getD W (p3).toNatClampNeg (0 : Int32)))).toNatClampNeg (0 : Int64))).toUInt64 >>> ((List.getD S (p3).toNatClampNeg (0 : Int32)) &&& 0x3f).toInt64.toUInt64).toInt64) &&& (List.getD M (p3).toNatClampNeg (0 : Int64)))), (.int kk), (.ref p4)]))
      refine Go.back (fun t k => XS.l2i X20.here hx rfl (hb hby d11_55) rfl k) ?_
      show Go p.tables e below (P11 Z p0 p1 p2 p3 p4 w o1 o2 o3 W S M ks os h0 n0 s) (T20.setTop (mkF m 56 #[.val (.ref p0), .val (.ref p1), .val (.int p2), .val (.int p3), .val (.ref p4), .val (.int (List.getD W (p3).toNatClampNeg (0 : Int32))), .val (.int (List.getD S (p3).toNatClampNeg (0 : Int32))), .val (.long (List.getD M (p3).toNatClampNeg (0 : Int64))), .second, .val (.int kk)] [(.int (((((((List.getD ks (((kk * w) + (List.getD W (p3).toNatClampNeg (0 : Int32)))).toNatClampNeg (0 : Int64))).toUInt64 >>> ((List.getD S (p3).toNatClampNeg (0 : Int32)) &&& 0x3f).toInt64.toUInt64).toInt64) &&& (List.getD M (p3).toNatClampNeg (0 : Int64)))).toInt32)), (.int kk), (.ref p4)]))
      obtain ⟨cl22, Ar22, hi22, -⟩ := F17.at (j := kk) (own_sb_nn hbd) (by simpa using (own_sb_in hbd))
      obtain ⟨T22, h22, X22, e22, W22, st22⟩ := stI X20 hx hZ e20 Ar22 (j := kk) hi22 (g := (mkF m 56 #[.val (.ref p0), .val (.ref p1), .val (.int p2), .val (.int p3), .val (.ref p4), .val (.int (List.getD W (p3).toNatClampNeg (0 : Int32))), .val (.int (List.getD S (p3).toNatClampNeg (0 : Int32))), .val (.long (List.getD M (p3).toNatClampNeg (0 : Int64))), .second, .val (.int kk)] [(.int (((((((List.getD ks (((kk * w) + (List.getD W (p3).toNatClampNeg (0 : Int32)))).toNatClampNeg (0 : Int64))).toUInt64 >>> ((List.getD S (p3).toNatClampNeg (0 : Int32)) &&& 0x3f).toInt64.toUInt64).toInt64) &&& (List.getD M (p3).toNatClampNeg (0 : Int64)))).toInt32)), (.int kk), (.ref p4)])) rfl rfl (hb hby d11_56)
      have F23 : Fld Z h22 p0 "com/example/onward/onward/explore/Packing" "words" "I" (.int w) := F9.other W22 (Or.inl H10)
      have F24 : Fld Z h22 p0 "com/example/onward/onward/explore/Packing" "word" "[I" (.ref o1) := F10.other W22 (Or.inl H10)
      have F25 : Fld Z h22 p0 "com/example/onward/onward/explore/Packing" "shift" "[I" (.ref o2) := F11.other W22 (Or.inl H10)
      have F26 : Fld Z h22 p0 "com/example/onward/onward/explore/Packing" "mask" "[J" (.ref o3) := F12.other W22 (Or.inl H10)
      have F27 : ArL Z h22 o1 .int (List.map Value.int W) := F13.other W22 H12
      have F28 : ArL Z h22 o2 .int (List.map Value.int S) := F14.other W22 H13
      have F29 : ArL Z h22 o3 .long (List.map Value.long M) := F15.other W22 H14
      have F30 : ArL Z h22 p1 .long (List.map Value.long ks) := F16.other W22 H11
      have F31 : ArL Z h22 p4 .int (List.map Value.int (List.set O (kk).toNatClampNeg (((((((List.getD ks (((kk * w) + (List.getD W (p3).toNatClampNeg (0 : Int32)))).toNatClampNeg (0 : Int64))).toUInt64 >>> ((List.getD S (p3).toNatClampNeg (0 : Int32)) &&& 0x3f).toInt64.toUInt64).toInt64) &&& (List.getD M (p3).toNatClampNeg (0 : Int64)))).toInt32))) := ArL.setI (xs := O) F17 W22
      have F32 : n0 ≤ h22.size := Nat.le_trans F18 (Keep.of_wr W22).1
      have F33 : Keep h0 h22 [p4] := F19.wr W22 (Or.inl (List.mem_of_getElem? (i := 0) rfl))
      obtain ⟨Lo22, Y22, N22⟩ := pk X22 (Fr.snoc X22 N8 H9)
      refine Go.back st22 ?_
      show Go p.tables e below (P11 Z p0 p1 p2 p3 p4 w o1 o2 o3 W S M ks os h0 n0 s) (T22.setTop (mkF m 57 #[.val (.ref p0), .val (.ref p1), .val (.int p2), .val (.int p3), .val (.ref p4), .val (.int (List.getD W (p3).toNatClampNeg (0 : Int32))), .val (.int (List.getD S (p3).toNatClampNeg (0 : Int32))), .val (.long (List.getD M (p3).toNatClampNeg (0 : Int64))), .second, .val (.int kk)] []))
      refine Go.back (fun t k => XS.iinc Y22.here hx rfl (hb hby d11_57) rfl (l' := #[.val (.ref p0), .val (.ref p1), .val (.int p2), .val (.int p3), .val (.ref p4), .val (.int (List.getD W (p3).toNatClampNeg (0 : Int32))), .val (.int (List.getD S (p3).toNatClampNeg (0 : Int32))), .val (.long (List.getD M (p3).toNatClampNeg (0 : Int64))), .second, .val (.int (kk + (1 : Int32)))]) rfl k) ?_
      show Go p.tables e below (P11 Z p0 p1 p2 p3 p4 w o1 o2 o3 W S M ks os h0 n0 s) (T22.setTop (mkF m 60 #[.val (.ref p0), .val (.ref p1), .val (.int p2), .val (.int p3), .val (.ref p4), .val (.int (List.getD W (p3).toNatClampNeg (0 : Int32))), .val (.int (List.getD S (p3).toNatClampNeg (0 : Int32))), .val (.long (List.getD M (p3).toNatClampNeg (0 : Int64))), .second, .val (.int (kk + (1 : Int32)))] []))
      refine Go.back (fun t k => XS.goto Y22.here hx rfl (pc0 := 60) (pc' := 27) rfl (hb hby d11_60) (by decide) (by decide) k) ?_
      show Go p.tables e below (P11 Z p0 p1 p2 p3 p4 w o1 o2 o3 W S M ks os h0 n0 s) (T22.setTop (mkF m 27 #[.val (.ref p0), .val (.ref p1), .val (.int p2), .val (.int p3), .val (.ref p4), .val (.int (List.getD W (p3).toNatClampNeg (0 : Int32))), .val (.int (List.getD S (p3).toNatClampNeg (0 : Int32))), .val (.long (List.getD M (p3).toNatClampNeg (0 : Int64))), .second, .val (.int (kk + (1 : Int32)))] []))
      exact ih (kk + (1 : Int32)) (List.set O (kk).toNatClampNeg (((((((List.getD ks (((kk * w) + (List.getD W (p3).toNatClampNeg (0 : Int32)))).toNatClampNeg (0 : Int64))).toUInt64 >>> ((List.getD S (p3).toNatClampNeg (0 : Int32)) &&& 0x3f).toInt64.toUInt64).toInt64) &&& (List.getD M (p3).toNatClampNeg (0 : Int64)))).toInt32)) _ _ Y22 N22 h22 e22 F23 F24 F25 F26 F27 F28 F29 F30 F31 F32 F33 (own_sb_next hbd (by simp)) hr
  exact LOOP7 (p2).toNatClampNeg (0 : Int32) os _ _ X5 N0 h0 e5 H0 H1 H2 H3 H4 H5 H6 H7 H8 Z0 (Keep.refl h0 [p4]) (own_sb0 hs ho) rfl
theorem own_z_eq {z : Int32} {xs : List Int32} (h : z = (f7 ((own_pkr xs).1))) : z = (own_pkr xs).1 := h
theorem own_2w_nn {z : Int32} {xs : List Int32} (h : z = (f7 ((own_pkr xs).1))) : ¬ ((2 : Int32) * z) < (0 : Int32) := by
  rw [own_z_eq h, Int32.lt_iff_toInt_lt, own_l0, own_two (own_pkr_ok xs).2.2.2.1]; have := (own_pkr_ok xs).2.2.2.1.1; omega
theorem own_2w_cap {z : Int32} {xs : List Int32} (h : z = (f7 ((own_pkr xs).1))) : ((2 : Int32) * z).toNatClampNeg ≤ 4 := by
  simp only [Int32.toNatClampNeg]; rw [own_z_eq h, own_two (own_pkr_ok xs).2.2.2.1]; have := (own_pkr_ok xs).2.2.2.1.2; omega
theorem own_2w_len {z : Int32} {xs : List Int32} {n : Nat} (h : z = (f7 ((own_pkr xs).1))) (hl : n = ((2 : Int32) * z).toNatClampNeg) : (n : Int) = 2 * (own_pkr xs).1.toInt := by
  rw [hl]; simp only [Int32.toNatClampNeg]; rw [own_z_eq h, own_two (own_pkr_ok xs).2.2.2.1]; have := (own_pkr_ok xs).2.2.2.1.1; omega
theorem own_pq_of0 {z : Int32} {xs : List Int32} {ks : List Int64} (h : z = (f7 ((own_pkr xs).1))) (hl : ks.length = ((2 : Int32) * z).toNatClampNeg) : own_pq (0 : Int32) (own_pkr xs).1 ks := by
  have e := own_2w_len h hl; have k := (own_pkr_ok xs).2.2.2.1
  have := k.1; have := k.2
  exact ⟨by decide, k, by rw [own_l0]; omega, by omega⟩
theorem own_pq_of1 {z : Int32} {xs : List Int32} {ks : List Int64} (h : z = (f7 ((own_pkr xs).1))) (hl : ks.length = ((2 : Int32) * z).toNatClampNeg) : own_pq z (own_pkr xs).1 ks := by
  have e := own_2w_len h hl; have k := (own_pkr_ok xs).2.2.2.1
  have := k.1; have := k.2
  rw [own_z_eq h]
  exact ⟨by omega, k, by omega, by omega⟩
theorem own_i3_of {i p : Int32} (h : i = ((p &&& (2147483647 : Int32)) % (3 : Int32))) : own_i3 i := by
  have mask : (p &&& (2147483647 : Int32)).toInt = p.toInt % (2 ^ 31 : Nat) := c_mask p _ 31 (by decide) (by decide)
  have q := (c_irem (p &&& (2147483647 : Int32)) 3 3 rfl).1 (by omega)
  rw [h]
  exact ⟨by rw [Int32.lt_iff_toInt_lt, own_l0]; omega, by omega⟩
theorem own_min2 (a : Int32) (h : 0 ≤ a.toInt) : 0 ≤ (f2 (2 : Int32) a).toInt ∧ (f2 (2 : Int32) a).toInt ≤ 2 := by
  have l2 : (2 : Int32).toInt = 2 := rfl
  unfold f2; simp only [Int32.lt_iff_toInt_lt, l2]; split
  · omega
  · rw [l2]; omega
theorem own_cnt {c p : Int32} (h : c = (f2 (2 : Int32) ((((p).toUInt32 >>> ((4 : Int32) &&& 31).toUInt32).toInt32) &&& (3 : Int32)))) : 0 ≤ c.toInt ∧ c.toInt ≤ 2 := by
  rw [h]; exact own_min2 _ (c_and _ 3 (by decide)).1
theorem own_hs_of {c i z p q : Int32} {xs : List Int32} {ks : List Int64} (h1 : c = (f2 (2 : Int32) ((((p).toUInt32 >>> ((4 : Int32) &&& 31).toUInt32).toInt32) &&& (3 : Int32)))) (h2 : i = ((q &&& (2147483647 : Int32)) % (3 : Int32))) (h3 : z = (f7 ((own_pkr xs).1))) (hl : ks.length = ((2 : Int32) * z).toNatClampNeg) : own_hs c (own_pkr xs).1 (List.getD (own_pkr xs).2.1 (i).toNatClampNeg (0 : Int32)) ks := by
  obtain ⟨k1, k2, k3, k4, k5⟩ := own_pkr_ok xs
  have b := k5 i.toNatClampNeg (own_ix (own_i3_of h2) k1)
  exact ⟨(own_cnt h1).1, (own_cnt h1).2, k4, b.1, b.2, own_2w_len h3 hl⟩
def f0 (p0 : Int32) (p1 : Int32) (p2 : Int32) (p3 : Int64) (p4 : Int64) (p5 : Int32) : Bool := (let z15 : List Int32 := [p0, p1, p2]; (let z40 : List Int32 := [(f1 p3 p0), (f1 (((p3).toUInt64 >>> ((32 : Int32) &&& 0x3f).toInt64.toUInt64).toInt64) p1), (f1 (((p3).toUInt64 >>> ((16 : Int32) &&& 0x3f).toInt64.toUInt64).toInt64) p2)]; (let z70 : List Int32 := [(f1 p4 p0), (f1 (((p4).toUInt64 >>> ((32 : Int32) &&& 0x3f).toInt64.toUInt64).toInt64) p1), (f1 (((p4).toUInt64 >>> ((16 : Int32) &&& 0x3f).toInt64.toUInt64).toInt64) p2)]; (let z74 : Int32 := ((p5 &&& (2147483647 : Int32)) % (3 : Int32)); (let z78 : Int32 := (f2 (2 : Int32) ((((p5).toUInt32 >>> ((4 : Int32) &&& 31).toUInt32).toInt32) &&& (3 : Int32))); (let z133 : Int32 := (f7 ((own_pkr z15).1)); (let z173 : List Int64 := (own_packr z40 (own_pkr z15).2.1 (own_pkr z15).2.2.1 (0 : Int32) (own_pkr z15).1 (List.replicate (((2 : Int32) * z133)).toNatClampNeg (0 : Int64))); (let z191 : List Int64 := (own_packr z70 (own_pkr z15).2.1 (own_pkr z15).2.2.1 z133 (own_pkr z15).1 z173); (let z279 : List Int32 := (own_sts (List.getD (own_pkr z15).2.1 (z74).toNatClampNeg (0 : Int32)) (List.getD (own_pkr z15).2.2.1 (z74).toNatClampNeg (0 : Int32)) (List.getD (own_pkr z15).2.2.2 (z74).toNatClampNeg (0 : Int64)) (own_pkr z15).1 z191 (z78).toNatClampNeg (0 : Int32) [(-7 : Int32), (-7 : Int32), (-7 : Int32)]); (let z283 : Bool := (if (0 : Int32) < z78 then (if (List.getD z279 ((0 : Int32)).toNatClampNeg (0 : Int32)) = (List.getD z40 (z74).toNatClampNeg (0 : Int32)) then true else false) else (if (List.getD z279 ((0 : Int32)).toNatClampNeg (0 : Int32)) = (-7 : Int32) then true else false)); (let z287 : Bool := (if (1 : Int32) < z78 then (if (List.getD z279 ((1 : Int32)).toNatClampNeg (0 : Int32)) = (List.getD z70 (z74).toNatClampNeg (0 : Int32)) then true else false) else (if (List.getD z279 ((1 : Int32)).toNatClampNeg (0 : Int32)) = (-7 : Int32) then true else false)); (let z292 : Bool := (if (List.getD z279 ((2 : Int32)).toNatClampNeg (0 : Int32)) = (-7 : Int32) then true else false); (let z296 : Bool := (if z283 = true then (if z287 = true then (if z292 = true then true else false) else false) else false); z296)))))))))))))
def Q0 (Z : State) (p0 : Int32) (p1 : Int32) (p2 : Int32) (p3 : Int64) (p4 : Int64) (p5 : Int32) (h0 : Heap) (n0 : Nat) (v : Option Value) (h : Heap) (L : List Loc) : Prop := v = some (.int (b2i (f0 p0 p1 p2 p3 p4 p5))) ∧ Fr n0 L
abbrev P0 (Z : State) (p0 : Int32) (p1 : Int32) (p2 : Int32) (p3 : Int64) (p4 : Int64) (p5 : Int32) (h0 : Heap) (n0 : Nat) (s : State) : Outcome → State → Prop := fun o U' => ∃ v L, o = .returned v ∧ Q0 Z p0 p1 p2 p3 p4 p5 h0 n0 v U'.heap L ∧ FrameEnd s o U' L room_1.cells room_1.slots
theorem pn_0 : plainName "com/example/onward/onward/explore/PackingStatesPinLaw" = true := by first | (simp [plainName, overriddenIn]; done) | decide +kernel
theorem ef_0 (m : MethodId) (p0 : Int32) (p1 : Int32) (p2 : Int32) (p3 : Int64) (p4 : Int64) (p5 : Int32) : entryFrame m #[(.int p0), (.int p1), (.int p2), (.long p3), (.long p4), (.int p5)] maxLocals = mkF m 0 #[.val (.int p0), .val (.int p1), .val (.int p2), .val (.long p3), .second, .val (.long p4), .second, .val (.int p5), .unset, .unset, .unset, .unset, .unset, .unset, .unset, .unset, .unset, .unset, .unset, .unset, .unset] [] := by first | (simp [entryFrame, mkF, argsToLocals, Value.category, maxLocals]; done) | rfl
set_option maxRecDepth 65536 in
set_option maxHeartbeats 40000000 in
theorem rm0 (l : Launch) (Z : State) (a0 : Array Value) (hw : ∀ d ∈ tables_1, d.before a0 Z = true) (ws : List Jvm.Cond) (p0 : Int32) (p1 : Int32) (p2 : Int32) (p3 : Int64) (p4 : Int64) (p5 : Int32) (h0 : Heap) (n0 : Nat) (Z0 : n0 ≤ h0.size) :
    MetFree l x (head1 (Jvm.Cond.code x code maxLocals ret :: ws) room_1) (fun a U => a = #[(.int p0), (.int p1), (.int p2), (.long p3), (.long p4), (.int p5)] ∧ Z.Warmed39 U.vm ∧ U.heap = h0) (fun _ _ _ _ _ => True) (fun _ U o U' => ∃ v L, o = .returned v ∧ Q0 Z p0 p1 p2 p3 p4 p5 h0 n0 v U'.heap L ∧ FrameEnd U o U' L room_1.cells room_1.slots) := by
  refine MetFree.of_bodySF (plainFor_of_name pn_0) hisR ?_
  intro p e s m args below meth c s₁ Bd hml0 hP hK
  obtain ⟨rfl, hZ, hh⟩ := hP
  have hx := Bd.exec
  have hby := Bd.bytes
  have hml : c.maxLocals = 21 := hml0
  have hown : s.vm.findClass "com/example/onward/onward/explore/PackingStatesPinLaw" = some m.cls := findClass_of_methodNamed Bd.named
  have hnm := (name_of_methodNamed Bd.named Bd.method).1
  have X0 : Stand p l e room_1 s m #[(.int p0), (.int p1), (.int p2), (.long p3), (.long p4), (.int p5)] below meth c s₁ [] 0 0 := Stand.of_body Bd
  have e0 : s₁.heap = h0 := by rw [← hh, Bd.state]; rfl
  have N0 := Fr.nil n0
  show Go p.tables e below (P0 Z p0 p1 p2 p3 p4 p5 h0 n0 s) (s₁.setTop (entryFrame m #[(.int p0), (.int p1), (.int p2), (.long p3), (.long p4), (.int p5)] maxLocals))
  refine Go.back (fun t k => castTop (ef_0 m p0 p1 p2 p3 p4 p5) k) ?_
  show Go p.tables e below (P0 Z p0 p1 p2 p3 p4 p5 h0 n0 s) (s₁.setTop (mkF m 0 #[.val (.int p0), .val (.int p1), .val (.int p2), .val (.long p3), .second, .val (.long p4), .second, .val (.int p5), .unset, .unset, .unset, .unset, .unset, .unset, .unset, .unset, .unset, .unset, .unset, .unset, .unset] []))
  have hf0 : f0 p0 p1 p2 p3 p4 p5 = (let z15 : List Int32 := [p0, p1, p2]; (let z40 : List Int32 := [(f1 p3 p0), (f1 (((p3).toUInt64 >>> ((32 : Int32) &&& 0x3f).toInt64.toUInt64).toInt64) p1), (f1 (((p3).toUInt64 >>> ((16 : Int32) &&& 0x3f).toInt64.toUInt64).toInt64) p2)]; (let z70 : List Int32 := [(f1 p4 p0), (f1 (((p4).toUInt64 >>> ((32 : Int32) &&& 0x3f).toInt64.toUInt64).toInt64) p1), (f1 (((p4).toUInt64 >>> ((16 : Int32) &&& 0x3f).toInt64.toUInt64).toInt64) p2)]; (let z74 : Int32 := ((p5 &&& (2147483647 : Int32)) % (3 : Int32)); (let z78 : Int32 := (f2 (2 : Int32) ((((p5).toUInt32 >>> ((4 : Int32) &&& 31).toUInt32).toInt32) &&& (3 : Int32))); (let z133 : Int32 := (f7 ((own_pkr z15).1)); (let z173 : List Int64 := (own_packr z40 (own_pkr z15).2.1 (own_pkr z15).2.2.1 (0 : Int32) (own_pkr z15).1 (List.replicate (((2 : Int32) * z133)).toNatClampNeg (0 : Int64))); (let z191 : List Int64 := (own_packr z70 (own_pkr z15).2.1 (own_pkr z15).2.2.1 z133 (own_pkr z15).1 z173); (let z279 : List Int32 := (own_sts (List.getD (own_pkr z15).2.1 (z74).toNatClampNeg (0 : Int32)) (List.getD (own_pkr z15).2.2.1 (z74).toNatClampNeg (0 : Int32)) (List.getD (own_pkr z15).2.2.2 (z74).toNatClampNeg (0 : Int64)) (own_pkr z15).1 z191 (z78).toNatClampNeg (0 : Int32) [(-7 : Int32), (-7 : Int32), (-7 : Int32)]); (let z283 : Bool := (if (0 : Int32) < z78 then (if (List.getD z279 ((0 : Int32)).toNatClampNeg (0 : Int32)) = (List.getD z40 (z74).toNatClampNeg (0 : Int32)) then true else false) else (if (List.getD z279 ((0 : Int32)).toNatClampNeg (0 : Int32)) = (-7 : Int32) then true else false)); (let z287 : Bool := (if (1 : Int32) < z78 then (if (List.getD z279 ((1 : Int32)).toNatClampNeg (0 : Int32)) = (List.getD z70 (z74).toNatClampNeg (0 : Int32)) then true else false) else (if (List.getD z279 ((1 : Int32)).toNatClampNeg (0 : Int32)) = (-7 : Int32) then true else false)); (let z292 : Bool := (if (List.getD z279 ((2 : Int32)).toNatClampNeg (0 : Int32)) = (-7 : Int32) then true else false); (let z296 : Bool := (if z283 = true then (if z287 = true then (if z292 = true then true else false) else false) else false); z296))))))))))))) := rfl
  refine Go.back (fun t k => XS.iconst X0.here hx rfl (hb hby at_0) k) ?_
  show Go p.tables e below (P0 Z p0 p1 p2 p3 p4 p5 h0 n0 s) (s₁.setTop (mkF m 1 #[.val (.int p0), .val (.int p1), .val (.int p2), .val (.long p3), .second, .val (.long p4), .second, .val (.int p5), .unset, .unset, .unset, .unset, .unset, .unset, .unset, .unset, .unset, .unset, .unset, .unset, .unset] [(.int (3 : Int32))]))
  obtain ⟨T1, h1, k1, X1, e1, E1, A1, st1⟩ := newP X0 hx hZ (hw _ (List.mem_of_getElem? (i := 0) rfl)) e0 (g := (mkF m 1 #[.val (.int p0), .val (.int p1), .val (.int p2), .val (.long p3), .second, .val (.long p4), .second, .val (.int p5), .unset, .unset, .unset, .unset, .unset, .unset, .unset, .unset, .unset, .unset, .unset, .unset, .unset] [(.int (3 : Int32))])) rfl (hb hby at_1) rfl (by decide) (cap := 3) (by decide) (by decide) (by decide) (by decide)
  obtain ⟨b1, g1⟩ : ∃ z, z = h0.size := ⟨_, rfl⟩
  rw [← g1] at A1 st1
  have g2 : n0 ≤ b1 := Nat.le_trans Z0 (Nat.le_of_eq g1.symm)
  have F3 : n0 ≤ h1.size := Nat.le_trans Z0 E1.1
  have F4 : ArL Z h1 b1 .int [(.int (0 : Int32)), (.int (0 : Int32)), (.int (0 : Int32))] := ArL.new (ty := .int) A1 (n := 3) rfl
  refine Go.back st1 ?_
  show Go p.tables e below (P0 Z p0 p1 p2 p3 p4 p5 h0 n0 s) (T1.setTop (mkF m 3 #[.val (.int p0), .val (.int p1), .val (.int p2), .val (.long p3), .second, .val (.long p4), .second, .val (.int p5), .unset, .unset, .unset, .unset, .unset, .unset, .unset, .unset, .unset, .unset, .unset, .unset, .unset] [(.ref b1)]))
  refine Go.back (fun t k => XS.dup X1.here hx rfl (hb hby at_3) rfl rfl k) ?_
  show Go p.tables e below (P0 Z p0 p1 p2 p3 p4 p5 h0 n0 s) (T1.setTop (mkF m 4 #[.val (.int p0), .val (.int p1), .val (.int p2), .val (.long p3), .second, .val (.long p4), .second, .val (.int p5), .unset, .unset, .unset, .unset, .unset, .unset, .unset, .unset, .unset, .unset, .unset, .unset, .unset] [(.ref b1), (.ref b1)]))
  refine Go.back (fun t k => XS.iconst X1.here hx rfl (hb hby at_4) k) ?_
  show Go p.tables e below (P0 Z p0 p1 p2 p3 p4 p5 h0 n0 s) (T1.setTop (mkF m 5 #[.val (.int p0), .val (.int p1), .val (.int p2), .val (.long p3), .second, .val (.long p4), .second, .val (.int p5), .unset, .unset, .unset, .unset, .unset, .unset, .unset, .unset, .unset, .unset, .unset, .unset, .unset] [(.int (0 : Int32)), (.ref b1), (.ref b1)]))
  refine Go.back (fun t k => XS.iloadN X1.here hx rfl (hb hby at_5) rfl  k) ?_
  show Go p.tables e below (P0 Z p0 p1 p2 p3 p4 p5 h0 n0 s) (T1.setTop (mkF m 6 #[.val (.int p0), .val (.int p1), .val (.int p2), .val (.long p3), .second, .val (.long p4), .second, .val (.int p5), .unset, .unset, .unset, .unset, .unset, .unset, .unset, .unset, .unset, .unset, .unset, .unset, .unset] [(.int p0), (.int (0 : Int32)), (.ref b1), (.ref b1)]))
  obtain ⟨cl5, Ar5, hi5, -⟩ := F4.at (j := (0 : Int32)) (by decide) (Nat.le_of_ble_eq_true rfl)
  obtain ⟨T5, h5, X5, e5, W5, st5⟩ := stI X1 hx hZ e1 Ar5 (j := (0 : Int32)) hi5 (g := (mkF m 6 #[.val (.int p0), .val (.int p1), .val (.int p2), .val (.long p3), .second, .val (.long p4), .second, .val (.int p5), .unset, .unset, .unset, .unset, .unset, .unset, .unset, .unset, .unset, .unset, .unset, .unset, .unset] [(.int p0), (.int (0 : Int32)), (.ref b1), (.ref b1)])) rfl rfl (hb hby at_6)
  have F6 : n0 ≤ h5.size := Nat.le_trans F3 (Keep.of_wr W5).1
  have F7 : ArL Z h5 b1 .int [(.int p0), (.int (0 : Int32)), (.int (0 : Int32))] := F4.set W5
  obtain ⟨Lo5, Y5, N5⟩ := pk X5 (Fr.snoc X5 N0 g2)
  refine Go.back st5 ?_
  show Go p.tables e below (P0 Z p0 p1 p2 p3 p4 p5 h0 n0 s) (T5.setTop (mkF m 7 #[.val (.int p0), .val (.int p1), .val (.int p2), .val (.long p3), .second, .val (.long p4), .second, .val (.int p5), .unset, .unset, .unset, .unset, .unset, .unset, .unset, .unset, .unset, .unset, .unset, .unset, .unset] [(.ref b1)]))
  refine Go.back (fun t k => XS.dup Y5.here hx rfl (hb hby at_7) rfl rfl k) ?_
  show Go p.tables e below (P0 Z p0 p1 p2 p3 p4 p5 h0 n0 s) (T5.setTop (mkF m 8 #[.val (.int p0), .val (.int p1), .val (.int p2), .val (.long p3), .second, .val (.long p4), .second, .val (.int p5), .unset, .unset, .unset, .unset, .unset, .unset, .unset, .unset, .unset, .unset, .unset, .unset, .unset] [(.ref b1), (.ref b1)]))
  refine Go.back (fun t k => XS.iconst Y5.here hx rfl (hb hby at_8) k) ?_
  show Go p.tables e below (P0 Z p0 p1 p2 p3 p4 p5 h0 n0 s) (T5.setTop (mkF m 9 #[.val (.int p0), .val (.int p1), .val (.int p2), .val (.long p3), .second, .val (.long p4), .second, .val (.int p5), .unset, .unset, .unset, .unset, .unset, .unset, .unset, .unset, .unset, .unset, .unset, .unset, .unset] [(.int (1 : Int32)), (.ref b1), (.ref b1)]))
  refine Go.back (fun t k => XS.iloadN Y5.here hx rfl (hb hby at_9) rfl  k) ?_
  show Go p.tables e below (P0 Z p0 p1 p2 p3 p4 p5 h0 n0 s) (T5.setTop (mkF m 10 #[.val (.int p0), .val (.int p1), .val (.int p2), .val (.long p3), .second, .val (.long p4), .second, .val (.int p5), .unset, .unset, .unset, .unset, .unset, .unset, .unset, .unset, .unset, .unset, .unset, .unset, .unset] [(.int p1), (.int (1 : Int32)), (.ref b1), (.ref b1)]))
  obtain ⟨cl8, Ar8, hi8, -⟩ := F7.at (j := (1 : Int32)) (by decide) (Nat.le_of_ble_eq_true rfl)
  obtain ⟨T8, h8, X8, e8, W8, st8⟩ := stI Y5 hx hZ e5 Ar8 (j := (1 : Int32)) hi8 (g := (mkF m 10 #[.val (.int p0), .val (.int p1), .val (.int p2), .val (.long p3), .second, .val (.long p4), .second, .val (.int p5), .unset, .unset, .unset, .unset, .unset, .unset, .unset, .unset, .unset, .unset, .unset, .unset, .unset] [(.int p1), (.int (1 : Int32)), (.ref b1), (.ref b1)])) rfl rfl (hb hby at_10)
  have F9 : n0 ≤ h8.size := Nat.le_trans F6 (Keep.of_wr W8).1
  have F10 : ArL Z h8 b1 .int [(.int p0), (.int p1), (.int (0 : Int32))] := F7.set W8
  obtain ⟨Lo8, Y8, N8⟩ := pk X8 (Fr.snoc X8 N5 g2)
  refine Go.back st8 ?_
  show Go p.tables e below (P0 Z p0 p1 p2 p3 p4 p5 h0 n0 s) (T8.setTop (mkF m 11 #[.val (.int p0), .val (.int p1), .val (.int p2), .val (.long p3), .second, .val (.long p4), .second, .val (.int p5), .unset, .unset, .unset, .unset, .unset, .unset, .unset, .unset, .unset, .unset, .unset, .unset, .unset] [(.ref b1)]))
  refine Go.back (fun t k => XS.dup Y8.here hx rfl (hb hby at_11) rfl rfl k) ?_
  show Go p.tables e below (P0 Z p0 p1 p2 p3 p4 p5 h0 n0 s) (T8.setTop (mkF m 12 #[.val (.int p0), .val (.int p1), .val (.int p2), .val (.long p3), .second, .val (.long p4), .second, .val (.int p5), .unset, .unset, .unset, .unset, .unset, .unset, .unset, .unset, .unset, .unset, .unset, .unset, .unset] [(.ref b1), (.ref b1)]))
  refine Go.back (fun t k => XS.iconst Y8.here hx rfl (hb hby at_12) k) ?_
  show Go p.tables e below (P0 Z p0 p1 p2 p3 p4 p5 h0 n0 s) (T8.setTop (mkF m 13 #[.val (.int p0), .val (.int p1), .val (.int p2), .val (.long p3), .second, .val (.long p4), .second, .val (.int p5), .unset, .unset, .unset, .unset, .unset, .unset, .unset, .unset, .unset, .unset, .unset, .unset, .unset] [(.int (2 : Int32)), (.ref b1), (.ref b1)]))
  refine Go.back (fun t k => XS.iloadN Y8.here hx rfl (hb hby at_13) rfl  k) ?_
  show Go p.tables e below (P0 Z p0 p1 p2 p3 p4 p5 h0 n0 s) (T8.setTop (mkF m 14 #[.val (.int p0), .val (.int p1), .val (.int p2), .val (.long p3), .second, .val (.long p4), .second, .val (.int p5), .unset, .unset, .unset, .unset, .unset, .unset, .unset, .unset, .unset, .unset, .unset, .unset, .unset] [(.int p2), (.int (2 : Int32)), (.ref b1), (.ref b1)]))
  obtain ⟨cl11, Ar11, hi11, -⟩ := F10.at (j := (2 : Int32)) (by decide) (Nat.le_of_ble_eq_true rfl)
  obtain ⟨T11, h11, X11, e11, W11, st11⟩ := stI Y8 hx hZ e8 Ar11 (j := (2 : Int32)) hi11 (g := (mkF m 14 #[.val (.int p0), .val (.int p1), .val (.int p2), .val (.long p3), .second, .val (.long p4), .second, .val (.int p5), .unset, .unset, .unset, .unset, .unset, .unset, .unset, .unset, .unset, .unset, .unset, .unset, .unset] [(.int p2), (.int (2 : Int32)), (.ref b1), (.ref b1)])) rfl rfl (hb hby at_14)
  have F12 : n0 ≤ h11.size := Nat.le_trans F9 (Keep.of_wr W11).1
  have F13 : ArL Z h11 b1 .int [(.int p0), (.int p1), (.int p2)] := F10.set W11
  obtain ⟨Lo11, Y11, N11⟩ := pk X11 (Fr.snoc X11 N8 g2)
  refine Go.back st11 ?_
  show Go p.tables e below (P0 Z p0 p1 p2 p3 p4 p5 h0 n0 s) (T11.setTop (mkF m 15 #[.val (.int p0), .val (.int p1), .val (.int p2), .val (.long p3), .second, .val (.long p4), .second, .val (.int p5), .unset, .unset, .unset, .unset, .unset, .unset, .unset, .unset, .unset, .unset, .unset, .unset, .unset] [(.ref b1)]))
  refine Go.back (fun t k => XS.astore Y11.here hx rfl (hb hby at_15) rfl rfl (l' := #[.val (.int p0), .val (.int p1), .val (.int p2), .val (.long p3), .second, .val (.long p4), .second, .val (.int p5), .val (.ref b1), .unset, .unset, .unset, .unset, .unset, .unset, .unset, .unset, .unset, .unset, .unset, .unset]) rfl k) ?_
  show Go p.tables e below (P0 Z p0 p1 p2 p3 p4 p5 h0 n0 s) (T11.setTop (mkF m 17 #[.val (.int p0), .val (.int p1), .val (.int p2), .val (.long p3), .second, .val (.long p4), .second, .val (.int p5), .val (.ref b1), .unset, .unset, .unset, .unset, .unset, .unset, .unset, .unset, .unset, .unset, .unset, .unset] []))
  have J14 : ∀ (z15 : List Int32) (hz15 : z15 = [p0, p1, p2]) (F16 : ArL Z h11 b1 .int (List.map Value.int z15)), Go p.tables e below (P0 Z p0 p1 p2 p3 p4 p5 h0 n0 s) (T11.setTop (mkF m 17 #[.val (.int p0), .val (.int p1), .val (.int p2), .val (.long p3), .second, .val (.long p4), .second, .val (.int p5), .val (.ref b1), .unset, .unset, .unset, .unset, .unset, .unset, .unset, .unset, .unset, .unset, .unset, .unset] [])) := by
    intro z15 hz15 F16
    have r17 : f0 p0 p1 p2 p3 p4 p5 = (let z40 : List Int32 := [(f1 p3 p0), (f1 (((p3).toUInt64 >>> ((32 : Int32) &&& 0x3f).toInt64.toUInt64).toInt64) p1), (f1 (((p3).toUInt64 >>> ((16 : Int32) &&& 0x3f).toInt64.toUInt64).toInt64) p2)]; (let z70 : List Int32 := [(f1 p4 p0), (f1 (((p4).toUInt64 >>> ((32 : Int32) &&& 0x3f).toInt64.toUInt64).toInt64) p1), (f1 (((p4).toUInt64 >>> ((16 : Int32) &&& 0x3f).toInt64.toUInt64).toInt64) p2)]; (let z74 : Int32 := ((p5 &&& (2147483647 : Int32)) % (3 : Int32)); (let z78 : Int32 := (f2 (2 : Int32) ((((p5).toUInt32 >>> ((4 : Int32) &&& 31).toUInt32).toInt32) &&& (3 : Int32))); (let z133 : Int32 := (f7 ((own_pkr z15).1)); (let z173 : List Int64 := (own_packr z40 (own_pkr z15).2.1 (own_pkr z15).2.2.1 (0 : Int32) (own_pkr z15).1 (List.replicate (((2 : Int32) * z133)).toNatClampNeg (0 : Int64))); (let z191 : List Int64 := (own_packr z70 (own_pkr z15).2.1 (own_pkr z15).2.2.1 z133 (own_pkr z15).1 z173); (let z279 : List Int32 := (own_sts (List.getD (own_pkr z15).2.1 (z74).toNatClampNeg (0 : Int32)) (List.getD (own_pkr z15).2.2.1 (z74).toNatClampNeg (0 : Int32)) (List.getD (own_pkr z15).2.2.2 (z74).toNatClampNeg (0 : Int64)) (own_pkr z15).1 z191 (z78).toNatClampNeg (0 : Int32) [(-7 : Int32), (-7 : Int32), (-7 : Int32)]); (let z283 : Bool := (if (0 : Int32) < z78 then (if (List.getD z279 ((0 : Int32)).toNatClampNeg (0 : Int32)) = (List.getD z40 (z74).toNatClampNeg (0 : Int32)) then true else false) else (if (List.getD z279 ((0 : Int32)).toNatClampNeg (0 : Int32)) = (-7 : Int32) then true else false)); (let z287 : Bool := (if (1 : Int32) < z78 then (if (List.getD z279 ((1 : Int32)).toNatClampNeg (0 : Int32)) = (List.getD z70 (z74).toNatClampNeg (0 : Int32)) then true else false) else (if (List.getD z279 ((1 : Int32)).toNatClampNeg (0 : Int32)) = (-7 : Int32) then true else false)); (let z292 : Bool := (if (List.getD z279 ((2 : Int32)).toNatClampNeg (0 : Int32)) = (-7 : Int32) then true else false); (let z296 : Bool := (if z283 = true then (if z287 = true then (if z292 = true then true else false) else false) else false); z296)))))))))))) := by first | (have q0 : f0 p0 p1 p2 p3 p4 p5 = ((let z40 : List Int32 := [(f1 p3 p0), (f1 (((p3).toUInt64 >>> ((32 : Int32) &&& 0x3f).toInt64.toUInt64).toInt64) p1), (f1 (((p3).toUInt64 >>> ((16 : Int32) &&& 0x3f).toInt64.toUInt64).toInt64) p2)]; (let z70 : List Int32 := [(f1 p4 p0), (f1 (((p4).toUInt64 >>> ((32 : Int32) &&& 0x3f).toInt64.toUInt64).toInt64) p1), (f1 (((p4).toUInt64 >>> ((16 : Int32) &&& 0x3f).toInt64.toUInt64).toInt64) p2)]; (let z74 : Int32 := ((p5 &&& (2147483647 : Int32)) % (3 : Int32)); (let z78 : Int32 := (f2 (2 : Int32) ((((p5).toUInt32 >>> ((4 : Int32) &&& 31).toUInt32).toInt32) &&& (3 : Int32))); (let z133 : Int32 := (f7 ((own_pkr z15).1)); (let z173 : List Int64 := (own_packr z40 (own_pkr z15).2.1 (own_pkr z15).2.2.1 (0 : Int32) (own_pkr z15).1 (List.replicate (((2 : Int32) * z133)).toNatClampNeg (0 : Int64))); (let z191 : List Int64 := (own_packr z70 (own_pkr z15).2.1 (own_pkr z15).2.2.1 z133 (own_pkr z15).1 z173); (let z279 : List Int32 := (own_sts (List.getD (own_pkr z15).2.1 (z74).toNatClampNeg (0 : Int32)) (List.getD (own_pkr z15).2.2.1 (z74).toNatClampNeg (0 : Int32)) (List.getD (own_pkr z15).2.2.2 (z74).toNatClampNeg (0 : Int64)) (own_pkr z15).1 z191 (z78).toNatClampNeg (0 : Int32) [(-7 : Int32), (-7 : Int32), (-7 : Int32)]); (let z283 : Bool := (if (0 : Int32) < z78 then (if (List.getD z279 ((0 : Int32)).toNatClampNeg (0 : Int32)) = (List.getD z40 (z74).toNatClampNeg (0 : Int32)) then true else false) else (if (List.getD z279 ((0 : Int32)).toNatClampNeg (0 : Int32)) = (-7 : Int32) then true else false)); (let z287 : Bool := (if (1 : Int32) < z78 then (if (List.getD z279 ((1 : Int32)).toNatClampNeg (0 : Int32)) = (List.getD z70 (z74).toNatClampNeg (0 : Int32)) then true else false) else (if (List.getD z279 ((1 : Int32)).toNatClampNeg (0 : Int32)) = (-7 : Int32) then true else false)); (let z292 : Bool := (if (List.getD z279 ((2 : Int32)).toNatClampNeg (0 : Int32)) = (-7 : Int32) then true else false); (let z296 : Bool := (if z283 = true then (if z287 = true then (if z292 = true then true else false) else false) else false); z296))))))))))))) := let_of (b := fun (z15 : List Int32) => ((let z40 : List Int32 := [(f1 p3 p0), (f1 (((p3).toUInt64 >>> ((32 : Int32) &&& 0x3f).toInt64.toUInt64).toInt64) p1), (f1 (((p3).toUInt64 >>> ((16 : Int32) &&& 0x3f).toInt64.toUInt64).toInt64) p2)]; (let z70 : List Int32 := [(f1 p4 p0), (f1 (((p4).toUInt64 >>> ((32 : Int32) &&& 0x3f).toInt64.toUInt64).toInt64) p1), (f1 (((p4).toUInt64 >>> ((16 : Int32) &&& 0x3f).toInt64.toUInt64).toInt64) p2)]; (let z74 : Int32 := ((p5 &&& (2147483647 : Int32)) % (3 : Int32)); (let z78 : Int32 := (f2 (2 : Int32) ((((p5).toUInt32 >>> ((4 : Int32) &&& 31).toUInt32).toInt32) &&& (3 : Int32))); (let z133 : Int32 := (f7 ((own_pkr z15).1)); (let z173 : List Int64 := (own_packr z40 (own_pkr z15).2.1 (own_pkr z15).2.2.1 (0 : Int32) (own_pkr z15).1 (List.replicate (((2 : Int32) * z133)).toNatClampNeg (0 : Int64))); (let z191 : List Int64 := (own_packr z70 (own_pkr z15).2.1 (own_pkr z15).2.2.1 z133 (own_pkr z15).1 z173); (let z279 : List Int32 := (own_sts (List.getD (own_pkr z15).2.1 (z74).toNatClampNeg (0 : Int32)) (List.getD (own_pkr z15).2.2.1 (z74).toNatClampNeg (0 : Int32)) (List.getD (own_pkr z15).2.2.2 (z74).toNatClampNeg (0 : Int64)) (own_pkr z15).1 z191 (z78).toNatClampNeg (0 : Int32) [(-7 : Int32), (-7 : Int32), (-7 : Int32)]); (let z283 : Bool := (if (0 : Int32) < z78 then (if (List.getD z279 ((0 : Int32)).toNatClampNeg (0 : Int32)) = (List.getD z40 (z74).toNatClampNeg (0 : Int32)) then true else false) else (if (List.getD z279 ((0 : Int32)).toNatClampNeg (0 : Int32)) = (-7 : Int32) then true else false)); (let z287 : Bool := (if (1 : Int32) < z78 then (if (List.getD z279 ((1 : Int32)).toNatClampNeg (0 : Int32)) = (List.getD z70 (z74).toNatClampNeg (0 : Int32)) then true else false) else (if (List.getD z279 ((1 : Int32)).toNatClampNeg (0 : Int32)) = (-7 : Int32) then true else false)); (let z292 : Bool := (if (List.getD z279 ((2 : Int32)).toNatClampNeg (0 : Int32)) = (-7 : Int32) then true else false); (let z296 : Bool := (if z283 = true then (if z287 = true then (if z292 = true then true else false) else false) else false); z296)))))))))))))) hz15 hf0; exact q0) | (subst hz15; exact hf0)
    show Go p.tables e below (P0 Z p0 p1 p2 p3 p4 p5 h0 n0 s) (T11.setTop (mkF m 17 #[.val (.int p0), .val (.int p1), .val (.int p2), .val (.long p3), .second, .val (.long p4), .second, .val (.int p5), .val (.ref b1), .unset, .unset, .unset, .unset, .unset, .unset, .unset, .unset, .unset, .unset, .unset, .unset] []))
    refine Go.back (fun t k => XS.iconst Y11.here hx rfl (hb hby at_17) k) ?_
    show Go p.tables e below (P0 Z p0 p1 p2 p3 p4 p5 h0 n0 s) (T11.setTop (mkF m 18 #[.val (.int p0), .val (.int p1), .val (.int p2), .val (.long p3), .second, .val (.long p4), .second, .val (.int p5), .val (.ref b1), .unset, .unset, .unset, .unset, .unset, .unset, .unset, .unset, .unset, .unset, .unset, .unset] [(.int (3 : Int32))]))
    obtain ⟨T18, h18, k18, X18, e18, E18, A18, st18⟩ := newP Y11 hx hZ (hw _ (List.mem_of_getElem? (i := 0) rfl)) e11 (g := (mkF m 18 #[.val (.int p0), .val (.int p1), .val (.int p2), .val (.long p3), .second, .val (.long p4), .second, .val (.int p5), .val (.ref b1), .unset, .unset, .unset, .unset, .unset, .unset, .unset, .unset, .unset, .unset, .unset, .unset] [(.int (3 : Int32))])) rfl (hb hby at_18) rfl (by decide) (cap := 3) (by decide) (by decide) (by decide) (by decide)
    obtain ⟨b18, g18⟩ : ∃ z, z = h11.size := ⟨_, rfl⟩
    rw [← g18] at A18 st18
    have ne19 : b1 ≠ b18 := Nat.ne_of_lt (Nat.lt_of_lt_of_le F16.lt (Nat.le_of_eq g18.symm))
    have g20 : n0 ≤ b18 := Nat.le_trans F12 (Nat.le_of_eq g18.symm)
    have F21 : n0 ≤ h18.size := Nat.le_trans F12 E18.1
    have F22 : ArL Z h18 b1 .int (List.map Value.int z15) := F16.ext E18
    have F23 : ArL Z h18 b18 .int [(.int (0 : Int32)), (.int (0 : Int32)), (.int (0 : Int32))] := ArL.new (ty := .int) A18 (n := 3) rfl
    refine Go.back st18 ?_
    show Go p.tables e below (P0 Z p0 p1 p2 p3 p4 p5 h0 n0 s) (T18.setTop (mkF m 20 #[.val (.int p0), .val (.int p1), .val (.int p2), .val (.long p3), .second, .val (.long p4), .second, .val (.int p5), .val (.ref b1), .unset, .unset, .unset, .unset, .unset, .unset, .unset, .unset, .unset, .unset, .unset, .unset] [(.ref b18)]))
    refine Go.back (fun t k => XS.dup X18.here hx rfl (hb hby at_20) rfl rfl k) ?_
    show Go p.tables e below (P0 Z p0 p1 p2 p3 p4 p5 h0 n0 s) (T18.setTop (mkF m 21 #[.val (.int p0), .val (.int p1), .val (.int p2), .val (.long p3), .second, .val (.long p4), .second, .val (.int p5), .val (.ref b1), .unset, .unset, .unset, .unset, .unset, .unset, .unset, .unset, .unset, .unset, .unset, .unset] [(.ref b18), (.ref b18)]))
    refine Go.back (fun t k => XS.iconst X18.here hx rfl (hb hby at_21) k) ?_
    show Go p.tables e below (P0 Z p0 p1 p2 p3 p4 p5 h0 n0 s) (T18.setTop (mkF m 22 #[.val (.int p0), .val (.int p1), .val (.int p2), .val (.long p3), .second, .val (.long p4), .second, .val (.int p5), .val (.ref b1), .unset, .unset, .unset, .unset, .unset, .unset, .unset, .unset, .unset, .unset, .unset, .unset] [(.int (0 : Int32)), (.ref b18), (.ref b18)]))
    refine Go.back (fun t k => XS.lloadN X18.here hx rfl (hb hby at_22) rfl  k) ?_
    show Go p.tables e below (P0 Z p0 p1 p2 p3 p4 p5 h0 n0 s) (T18.setTop (mkF m 23 #[.val (.int p0), .val (.int p1), .val (.int p2), .val (.long p3), .second, .val (.long p4), .second, .val (.int p5), .val (.ref b1), .unset, .unset, .unset, .unset, .unset, .unset, .unset, .unset, .unset, .unset, .unset, .unset] [(.long p3), (.int (0 : Int32)), (.ref b18), (.ref b18)]))
    refine Go.back (fun t k => XS.iloadN X18.here hx rfl (hb hby at_23) rfl  k) ?_
    show Go p.tables e below (P0 Z p0 p1 p2 p3 p4 p5 h0 n0 s) (T18.setTop (mkF m 24 #[.val (.int p0), .val (.int p1), .val (.int p2), .val (.long p3), .second, .val (.long p4), .second, .val (.int p5), .val (.ref b1), .unset, .unset, .unset, .unset, .unset, .unset, .unset, .unset, .unset, .unset, .unset, .unset] [(.int p0), (.long p3), (.int (0 : Int32)), (.ref b18), (.ref b18)]))
    obtain ⟨_, _, ⟨T24, L24, k24, n24⟩, -, X24, ⟨Lc24, hQ24, l24, y24, z24⟩, st24⟩ := Jvm.LawKit.callS X18 hx (y := (⟨"com/example/onward/onward/explore/PackingStatesPinLaw", "st", "(JI)I"⟩ : MethodName)) hown (mvT hZ (hw _ (List.mem_of_getElem? (i := 1) rfl))) (mvT hZ (hw _ (List.mem_of_getElem? (i := 2) rfl))) (mvT hZ (hw _ (List.mem_of_getElem? (i := 3) rfl))) (mvT hZ (hw _ (List.mem_of_getElem? (i := 4) rfl))) (by decide) (backOf (W := 3) (rm1 l Z a0 hw [] p3 p0 h18 n0) hZ (hw _ (List.mem_of_getElem? (i := 4) rfl)) (hw _ (List.mem_of_getElem? (i := 3) rfl)) (by decide) (by decide)) (g := (mkF m 24 #[.val (.int p0), .val (.int p1), .val (.int p2), .val (.long p3), .second, .val (.long p4), .second, .val (.int p5), .val (.ref b1), .unset, .unset, .unset, .unset, .unset, .unset, .unset, .unset, .unset, .unset, .unset, .unset] [(.int p0), (.long p3), (.int (0 : Int32)), (.ref b18), (.ref b18)])) rfl (by rw [hml]; rfl) (argsL := [(.long p3), (.int p0)]) (rest := [(.int (0 : Int32)), (.ref b18), (.ref b18)]) (lenOf pd_4 rfl) rfl (by show 2 * 0 + _ ≤ _; exact Nat.le_of_eq rfl) (hb hby at_24) (fun _ _ => ⟨rfl, e18, (by decide : 2 + 0 ≤ _), (by decide : 6 + 0 ≤ _)⟩)
    dsimp only [Pt.U, Pt.locs, Pt.cells, Pt.slots] at X24 l24 y24 z24 st24 hQ24
    subst l24 y24 z24
    obtain ⟨rfl, N24q, e24⟩ := hQ24
    obtain ⟨Lo24, Y24, N24⟩ := pk X24 (Fr.app N11 N24q)
    refine Go.back st24 ?_
    show Go p.tables e below (P0 Z p0 p1 p2 p3 p4 p5 h0 n0 s) (T24.setTop (mkF m 27 #[.val (.int p0), .val (.int p1), .val (.int p2), .val (.long p3), .second, .val (.long p4), .second, .val (.int p5), .val (.ref b1), .unset, .unset, .unset, .unset, .unset, .unset, .unset, .unset, .unset, .unset, .unset, .unset] [(.int (f1 p3 p0)), (.int (0 : Int32)), (.ref b18), (.ref b18)]))
    obtain ⟨cl25, Ar25, hi25, -⟩ := F23.at (j := (0 : Int32)) (by decide) (Nat.le_of_ble_eq_true rfl)
    obtain ⟨T25, h25, X25, e25, W25, st25⟩ := stI Y24 hx hZ e24 Ar25 (j := (0 : Int32)) hi25 (g := (mkF m 27 #[.val (.int p0), .val (.int p1), .val (.int p2), .val (.long p3), .second, .val (.long p4), .second, .val (.int p5), .val (.ref b1), .unset, .unset, .unset, .unset, .unset, .unset, .unset, .unset, .unset, .unset, .unset, .unset] [(.int (f1 p3 p0)), (.int (0 : Int32)), (.ref b18), (.ref b18)])) rfl rfl (hb hby at_27)
    have F26 : n0 ≤ h25.size := Nat.le_trans F21 (Keep.of_wr W25).1
    have F27 : ArL Z h25 b1 .int (List.map Value.int z15) := F22.other W25 ne19
    have F28 : ArL Z h25 b18 .int [(.int (f1 p3 p0)), (.int (0 : Int32)), (.int (0 : Int32))] := F23.set W25
    obtain ⟨Lo25, Y25, N25⟩ := pk X25 (Fr.snoc X25 N24 g20)
    refine Go.back st25 ?_
    show Go p.tables e below (P0 Z p0 p1 p2 p3 p4 p5 h0 n0 s) (T25.setTop (mkF m 28 #[.val (.int p0), .val (.int p1), .val (.int p2), .val (.long p3), .second, .val (.long p4), .second, .val (.int p5), .val (.ref b1), .unset, .unset, .unset, .unset, .unset, .unset, .unset, .unset, .unset, .unset, .unset, .unset] [(.ref b18)]))
    refine Go.back (fun t k => XS.dup Y25.here hx rfl (hb hby at_28) rfl rfl k) ?_
    show Go p.tables e below (P0 Z p0 p1 p2 p3 p4 p5 h0 n0 s) (T25.setTop (mkF m 29 #[.val (.int p0), .val (.int p1), .val (.int p2), .val (.long p3), .second, .val (.long p4), .second, .val (.int p5), .val (.ref b1), .unset, .unset, .unset, .unset, .unset, .unset, .unset, .unset, .unset, .unset, .unset, .unset] [(.ref b18), (.ref b18)]))
    refine Go.back (fun t k => XS.iconst Y25.here hx rfl (hb hby at_29) k) ?_
    show Go p.tables e below (P0 Z p0 p1 p2 p3 p4 p5 h0 n0 s) (T25.setTop (mkF m 30 #[.val (.int p0), .val (.int p1), .val (.int p2), .val (.long p3), .second, .val (.long p4), .second, .val (.int p5), .val (.ref b1), .unset, .unset, .unset, .unset, .unset, .unset, .unset, .unset, .unset, .unset, .unset, .unset] [(.int (1 : Int32)), (.ref b18), (.ref b18)]))
    refine Go.back (fun t k => XS.lloadN Y25.here hx rfl (hb hby at_30) rfl  k) ?_
    show Go p.tables e below (P0 Z p0 p1 p2 p3 p4 p5 h0 n0 s) (T25.setTop (mkF m 31 #[.val (.int p0), .val (.int p1), .val (.int p2), .val (.long p3), .second, .val (.long p4), .second, .val (.int p5), .val (.ref b1), .unset, .unset, .unset, .unset, .unset, .unset, .unset, .unset, .unset, .unset, .unset, .unset] [(.long p3), (.int (1 : Int32)), (.ref b18), (.ref b18)]))
    refine Go.back (fun t k => XS.bipush Y25.here hx rfl (hb hby at_31) k) ?_
    show Go p.tables e below (P0 Z p0 p1 p2 p3 p4 p5 h0 n0 s) (T25.setTop (mkF m 33 #[.val (.int p0), .val (.int p1), .val (.int p2), .val (.long p3), .second, .val (.long p4), .second, .val (.int p5), .val (.ref b1), .unset, .unset, .unset, .unset, .unset, .unset, .unset, .unset, .unset, .unset, .unset, .unset] [(.int (32 : Int32)), (.long p3), (.int (1 : Int32)), (.ref b18), (.ref b18)]))
    refine Go.back (fun t k => XS.lushr Y25.here hx rfl (hb hby at_33) rfl k) ?_
    show Go p.tables e below (P0 Z p0 p1 p2 p3 p4 p5 h0 n0 s) (T25.setTop (mkF m 34 #[.val (.int p0), .val (.int p1), .val (.int p2), .val (.long p3), .second, .val (.long p4), .second, .val (.int p5), .val (.ref b1), .unset, .unset, .unset, .unset, .unset, .unset, .unset, .unset, .unset, .unset, .unset, .unset] [(.long (((p3).toUInt64 >>> ((32 : Int32) &&& 0x3f).toInt64.toUInt64).toInt64)), (.int (1 : Int32)), (.ref b18), (.ref b18)]))
    refine Go.back (fun t k => XS.iloadN Y25.here hx rfl (hb hby at_34) rfl  k) ?_
    show Go p.tables e below (P0 Z p0 p1 p2 p3 p4 p5 h0 n0 s) (T25.setTop (mkF m 35 #[.val (.int p0), .val (.int p1), .val (.int p2), .val (.long p3), .second, .val (.long p4), .second, .val (.int p5), .val (.ref b1), .unset, .unset, .unset, .unset, .unset, .unset, .unset, .unset, .unset, .unset, .unset, .unset] [(.int p1), (.long (((p3).toUInt64 >>> ((32 : Int32) &&& 0x3f).toInt64.toUInt64).toInt64)), (.int (1 : Int32)), (.ref b18), (.ref b18)]))
    obtain ⟨_, _, ⟨T29, L29, k29, n29⟩, -, X29, ⟨Lc29, hQ29, l29, y29, z29⟩, st29⟩ := Jvm.LawKit.callS Y25 hx (y := (⟨"com/example/onward/onward/explore/PackingStatesPinLaw", "st", "(JI)I"⟩ : MethodName)) hown (mvT hZ (hw _ (List.mem_of_getElem? (i := 1) rfl))) (mvT hZ (hw _ (List.mem_of_getElem? (i := 2) rfl))) (mvT hZ (hw _ (List.mem_of_getElem? (i := 3) rfl))) (mvT hZ (hw _ (List.mem_of_getElem? (i := 4) rfl))) (by decide) (backOf (W := 3) (rm1 l Z a0 hw [] (((p3).toUInt64 >>> ((32 : Int32) &&& 0x3f).toInt64.toUInt64).toInt64) p1 h25 n0) hZ (hw _ (List.mem_of_getElem? (i := 4) rfl)) (hw _ (List.mem_of_getElem? (i := 3) rfl)) (by decide) (by decide)) (g := (mkF m 35 #[.val (.int p0), .val (.int p1), .val (.int p2), .val (.long p3), .second, .val (.long p4), .second, .val (.int p5), .val (.ref b1), .unset, .unset, .unset, .unset, .unset, .unset, .unset, .unset, .unset, .unset, .unset, .unset] [(.int p1), (.long (((p3).toUInt64 >>> ((32 : Int32) &&& 0x3f).toInt64.toUInt64).toInt64)), (.int (1 : Int32)), (.ref b18), (.ref b18)])) rfl (by rw [hml]; rfl) (argsL := [(.long (((p3).toUInt64 >>> ((32 : Int32) &&& 0x3f).toInt64.toUInt64).toInt64)), (.int p1)]) (rest := [(.int (1 : Int32)), (.ref b18), (.ref b18)]) (lenOf pd_4 rfl) rfl (by show 2 * 0 + _ ≤ _; exact Nat.le_of_eq rfl) (hb hby at_35) (fun _ _ => ⟨rfl, e25, (by decide : 2 + 0 ≤ _), (by decide : 6 + 0 ≤ _)⟩)
    dsimp only [Pt.U, Pt.locs, Pt.cells, Pt.slots] at X29 l29 y29 z29 st29 hQ29
    subst l29 y29 z29
    obtain ⟨rfl, N29q, e29⟩ := hQ29
    obtain ⟨Lo29, Y29, N29⟩ := pk X29 (Fr.app N25 N29q)
    refine Go.back st29 ?_
    show Go p.tables e below (P0 Z p0 p1 p2 p3 p4 p5 h0 n0 s) (T29.setTop (mkF m 38 #[.val (.int p0), .val (.int p1), .val (.int p2), .val (.long p3), .second, .val (.long p4), .second, .val (.int p5), .val (.ref b1), .unset, .unset, .unset, .unset, .unset, .unset, .unset, .unset, .unset, .unset, .unset, .unset] [(.int (f1 (((p3).toUInt64 >>> ((32 : Int32) &&& 0x3f).toInt64.toUInt64).toInt64) p1)), (.int (1 : Int32)), (.ref b18), (.ref b18)]))
    obtain ⟨cl30, Ar30, hi30, -⟩ := F28.at (j := (1 : Int32)) (by decide) (Nat.le_of_ble_eq_true rfl)
    obtain ⟨T30, h30, X30, e30, W30, st30⟩ := stI Y29 hx hZ e29 Ar30 (j := (1 : Int32)) hi30 (g := (mkF m 38 #[.val (.int p0), .val (.int p1), .val (.int p2), .val (.long p3), .second, .val (.long p4), .second, .val (.int p5), .val (.ref b1), .unset, .unset, .unset, .unset, .unset, .unset, .unset, .unset, .unset, .unset, .unset, .unset] [(.int (f1 (((p3).toUInt64 >>> ((32 : Int32) &&& 0x3f).toInt64.toUInt64).toInt64) p1)), (.int (1 : Int32)), (.ref b18), (.ref b18)])) rfl rfl (hb hby at_38)
    have F31 : n0 ≤ h30.size := Nat.le_trans F26 (Keep.of_wr W30).1
    have F32 : ArL Z h30 b1 .int (List.map Value.int z15) := F27.other W30 ne19
    have F33 : ArL Z h30 b18 .int [(.int (f1 p3 p0)), (.int (f1 (((p3).toUInt64 >>> ((32 : Int32) &&& 0x3f).toInt64.toUInt64).toInt64) p1)), (.int (0 : Int32))] := F28.set W30
    obtain ⟨Lo30, Y30, N30⟩ := pk X30 (Fr.snoc X30 N29 g20)
    refine Go.back st30 ?_
    show Go p.tables e below (P0 Z p0 p1 p2 p3 p4 p5 h0 n0 s) (T30.setTop (mkF m 39 #[.val (.int p0), .val (.int p1), .val (.int p2), .val (.long p3), .second, .val (.long p4), .second, .val (.int p5), .val (.ref b1), .unset, .unset, .unset, .unset, .unset, .unset, .unset, .unset, .unset, .unset, .unset, .unset] [(.ref b18)]))
    refine Go.back (fun t k => XS.dup Y30.here hx rfl (hb hby at_39) rfl rfl k) ?_
    show Go p.tables e below (P0 Z p0 p1 p2 p3 p4 p5 h0 n0 s) (T30.setTop (mkF m 40 #[.val (.int p0), .val (.int p1), .val (.int p2), .val (.long p3), .second, .val (.long p4), .second, .val (.int p5), .val (.ref b1), .unset, .unset, .unset, .unset, .unset, .unset, .unset, .unset, .unset, .unset, .unset, .unset] [(.ref b18), (.ref b18)]))
    refine Go.back (fun t k => XS.iconst Y30.here hx rfl (hb hby at_40) k) ?_
    show Go p.tables e below (P0 Z p0 p1 p2 p3 p4 p5 h0 n0 s) (T30.setTop (mkF m 41 #[.val (.int p0), .val (.int p1), .val (.int p2), .val (.long p3), .second, .val (.long p4), .second, .val (.int p5), .val (.ref b1), .unset, .unset, .unset, .unset, .unset, .unset, .unset, .unset, .unset, .unset, .unset, .unset] [(.int (2 : Int32)), (.ref b18), (.ref b18)]))
    refine Go.back (fun t k => XS.lloadN Y30.here hx rfl (hb hby at_41) rfl  k) ?_
    show Go p.tables e below (P0 Z p0 p1 p2 p3 p4 p5 h0 n0 s) (T30.setTop (mkF m 42 #[.val (.int p0), .val (.int p1), .val (.int p2), .val (.long p3), .second, .val (.long p4), .second, .val (.int p5), .val (.ref b1), .unset, .unset, .unset, .unset, .unset, .unset, .unset, .unset, .unset, .unset, .unset, .unset] [(.long p3), (.int (2 : Int32)), (.ref b18), (.ref b18)]))
    refine Go.back (fun t k => XS.bipush Y30.here hx rfl (hb hby at_42) k) ?_
    show Go p.tables e below (P0 Z p0 p1 p2 p3 p4 p5 h0 n0 s) (T30.setTop (mkF m 44 #[.val (.int p0), .val (.int p1), .val (.int p2), .val (.long p3), .second, .val (.long p4), .second, .val (.int p5), .val (.ref b1), .unset, .unset, .unset, .unset, .unset, .unset, .unset, .unset, .unset, .unset, .unset, .unset] [(.int (16 : Int32)), (.long p3), (.int (2 : Int32)), (.ref b18), (.ref b18)]))
    refine Go.back (fun t k => XS.lushr Y30.here hx rfl (hb hby at_44) rfl k) ?_
    show Go p.tables e below (P0 Z p0 p1 p2 p3 p4 p5 h0 n0 s) (T30.setTop (mkF m 45 #[.val (.int p0), .val (.int p1), .val (.int p2), .val (.long p3), .second, .val (.long p4), .second, .val (.int p5), .val (.ref b1), .unset, .unset, .unset, .unset, .unset, .unset, .unset, .unset, .unset, .unset, .unset, .unset] [(.long (((p3).toUInt64 >>> ((16 : Int32) &&& 0x3f).toInt64.toUInt64).toInt64)), (.int (2 : Int32)), (.ref b18), (.ref b18)]))
    refine Go.back (fun t k => XS.iloadN Y30.here hx rfl (hb hby at_45) rfl  k) ?_
    show Go p.tables e below (P0 Z p0 p1 p2 p3 p4 p5 h0 n0 s) (T30.setTop (mkF m 46 #[.val (.int p0), .val (.int p1), .val (.int p2), .val (.long p3), .second, .val (.long p4), .second, .val (.int p5), .val (.ref b1), .unset, .unset, .unset, .unset, .unset, .unset, .unset, .unset, .unset, .unset, .unset, .unset] [(.int p2), (.long (((p3).toUInt64 >>> ((16 : Int32) &&& 0x3f).toInt64.toUInt64).toInt64)), (.int (2 : Int32)), (.ref b18), (.ref b18)]))
    obtain ⟨_, _, ⟨T34, L34, k34, n34⟩, -, X34, ⟨Lc34, hQ34, l34, y34, z34⟩, st34⟩ := Jvm.LawKit.callS Y30 hx (y := (⟨"com/example/onward/onward/explore/PackingStatesPinLaw", "st", "(JI)I"⟩ : MethodName)) hown (mvT hZ (hw _ (List.mem_of_getElem? (i := 1) rfl))) (mvT hZ (hw _ (List.mem_of_getElem? (i := 2) rfl))) (mvT hZ (hw _ (List.mem_of_getElem? (i := 3) rfl))) (mvT hZ (hw _ (List.mem_of_getElem? (i := 4) rfl))) (by decide) (backOf (W := 3) (rm1 l Z a0 hw [] (((p3).toUInt64 >>> ((16 : Int32) &&& 0x3f).toInt64.toUInt64).toInt64) p2 h30 n0) hZ (hw _ (List.mem_of_getElem? (i := 4) rfl)) (hw _ (List.mem_of_getElem? (i := 3) rfl)) (by decide) (by decide)) (g := (mkF m 46 #[.val (.int p0), .val (.int p1), .val (.int p2), .val (.long p3), .second, .val (.long p4), .second, .val (.int p5), .val (.ref b1), .unset, .unset, .unset, .unset, .unset, .unset, .unset, .unset, .unset, .unset, .unset, .unset] [(.int p2), (.long (((p3).toUInt64 >>> ((16 : Int32) &&& 0x3f).toInt64.toUInt64).toInt64)), (.int (2 : Int32)), (.ref b18), (.ref b18)])) rfl (by rw [hml]; rfl) (argsL := [(.long (((p3).toUInt64 >>> ((16 : Int32) &&& 0x3f).toInt64.toUInt64).toInt64)), (.int p2)]) (rest := [(.int (2 : Int32)), (.ref b18), (.ref b18)]) (lenOf pd_4 rfl) rfl (by show 2 * 0 + _ ≤ _; exact Nat.le_of_eq rfl) (hb hby at_46) (fun _ _ => ⟨rfl, e30, (by decide : 2 + 0 ≤ _), (by decide : 6 + 0 ≤ _)⟩)
    dsimp only [Pt.U, Pt.locs, Pt.cells, Pt.slots] at X34 l34 y34 z34 st34 hQ34
    subst l34 y34 z34
    obtain ⟨rfl, N34q, e34⟩ := hQ34
    obtain ⟨Lo34, Y34, N34⟩ := pk X34 (Fr.app N30 N34q)
    refine Go.back st34 ?_
    show Go p.tables e below (P0 Z p0 p1 p2 p3 p4 p5 h0 n0 s) (T34.setTop (mkF m 49 #[.val (.int p0), .val (.int p1), .val (.int p2), .val (.long p3), .second, .val (.long p4), .second, .val (.int p5), .val (.ref b1), .unset, .unset, .unset, .unset, .unset, .unset, .unset, .unset, .unset, .unset, .unset, .unset] [(.int (f1 (((p3).toUInt64 >>> ((16 : Int32) &&& 0x3f).toInt64.toUInt64).toInt64) p2)), (.int (2 : Int32)), (.ref b18), (.ref b18)]))
    obtain ⟨cl35, Ar35, hi35, -⟩ := F33.at (j := (2 : Int32)) (by decide) (Nat.le_of_ble_eq_true rfl)
    obtain ⟨T35, h35, X35, e35, W35, st35⟩ := stI Y34 hx hZ e34 Ar35 (j := (2 : Int32)) hi35 (g := (mkF m 49 #[.val (.int p0), .val (.int p1), .val (.int p2), .val (.long p3), .second, .val (.long p4), .second, .val (.int p5), .val (.ref b1), .unset, .unset, .unset, .unset, .unset, .unset, .unset, .unset, .unset, .unset, .unset, .unset] [(.int (f1 (((p3).toUInt64 >>> ((16 : Int32) &&& 0x3f).toInt64.toUInt64).toInt64) p2)), (.int (2 : Int32)), (.ref b18), (.ref b18)])) rfl rfl (hb hby at_49)
    have F36 : n0 ≤ h35.size := Nat.le_trans F31 (Keep.of_wr W35).1
    have F37 : ArL Z h35 b1 .int (List.map Value.int z15) := F32.other W35 ne19
    have F38 : ArL Z h35 b18 .int [(.int (f1 p3 p0)), (.int (f1 (((p3).toUInt64 >>> ((32 : Int32) &&& 0x3f).toInt64.toUInt64).toInt64) p1)), (.int (f1 (((p3).toUInt64 >>> ((16 : Int32) &&& 0x3f).toInt64.toUInt64).toInt64) p2))] := F33.set W35
    obtain ⟨Lo35, Y35, N35⟩ := pk X35 (Fr.snoc X35 N34 g20)
    refine Go.back st35 ?_
    show Go p.tables e below (P0 Z p0 p1 p2 p3 p4 p5 h0 n0 s) (T35.setTop (mkF m 50 #[.val (.int p0), .val (.int p1), .val (.int p2), .val (.long p3), .second, .val (.long p4), .second, .val (.int p5), .val (.ref b1), .unset, .unset, .unset, .unset, .unset, .unset, .unset, .unset, .unset, .unset, .unset, .unset] [(.ref b18)]))
    refine Go.back (fun t k => XS.astore Y35.here hx rfl (hb hby at_50) rfl rfl (l' := #[.val (.int p0), .val (.int p1), .val (.int p2), .val (.long p3), .second, .val (.long p4), .second, .val (.int p5), .val (.ref b1), .val (.ref b18), .unset, .unset, .unset, .unset, .unset, .unset, .unset, .unset, .unset, .unset, .unset]) rfl k) ?_
    show Go p.tables e below (P0 Z p0 p1 p2 p3 p4 p5 h0 n0 s) (T35.setTop (mkF m 52 #[.val (.int p0), .val (.int p1), .val (.int p2), .val (.long p3), .second, .val (.long p4), .second, .val (.int p5), .val (.ref b1), .val (.ref b18), .unset, .unset, .unset, .unset, .unset, .unset, .unset, .unset, .unset, .unset, .unset] []))
    have J39 : ∀ (z40 : List Int32) (hz40 : z40 = [(f1 p3 p0), (f1 (((p3).toUInt64 >>> ((32 : Int32) &&& 0x3f).toInt64.toUInt64).toInt64) p1), (f1 (((p3).toUInt64 >>> ((16 : Int32) &&& 0x3f).toInt64.toUInt64).toInt64) p2)]) (F41 : ArL Z h35 b18 .int (List.map Value.int z40)), Go p.tables e below (P0 Z p0 p1 p2 p3 p4 p5 h0 n0 s) (T35.setTop (mkF m 52 #[.val (.int p0), .val (.int p1), .val (.int p2), .val (.long p3), .second, .val (.long p4), .second, .val (.int p5), .val (.ref b1), .val (.ref b18), .unset, .unset, .unset, .unset, .unset, .unset, .unset, .unset, .unset, .unset, .unset] [])) := by
      intro z40 hz40 F41
      have r42 : f0 p0 p1 p2 p3 p4 p5 = (let z70 : List Int32 := [(f1 p4 p0), (f1 (((p4).toUInt64 >>> ((32 : Int32) &&& 0x3f).toInt64.toUInt64).toInt64) p1), (f1 (((p4).toUInt64 >>> ((16 : Int32) &&& 0x3f).toInt64.toUInt64).toInt64) p2)]; (let z74 : Int32 := ((p5 &&& (2147483647 : Int32)) % (3 : Int32)); (let z78 : Int32 := (f2 (2 : Int32) ((((p5).toUInt32 >>> ((4 : Int32) &&& 31).toUInt32).toInt32) &&& (3 : Int32))); (let z133 : Int32 := (f7 ((own_pkr z15).1)); (let z173 : List Int64 := (own_packr z40 (own_pkr z15).2.1 (own_pkr z15).2.2.1 (0 : Int32) (own_pkr z15).1 (List.replicate (((2 : Int32) * z133)).toNatClampNeg (0 : Int64))); (let z191 : List Int64 := (own_packr z70 (own_pkr z15).2.1 (own_pkr z15).2.2.1 z133 (own_pkr z15).1 z173); (let z279 : List Int32 := (own_sts (List.getD (own_pkr z15).2.1 (z74).toNatClampNeg (0 : Int32)) (List.getD (own_pkr z15).2.2.1 (z74).toNatClampNeg (0 : Int32)) (List.getD (own_pkr z15).2.2.2 (z74).toNatClampNeg (0 : Int64)) (own_pkr z15).1 z191 (z78).toNatClampNeg (0 : Int32) [(-7 : Int32), (-7 : Int32), (-7 : Int32)]); (let z283 : Bool := (if (0 : Int32) < z78 then (if (List.getD z279 ((0 : Int32)).toNatClampNeg (0 : Int32)) = (List.getD z40 (z74).toNatClampNeg (0 : Int32)) then true else false) else (if (List.getD z279 ((0 : Int32)).toNatClampNeg (0 : Int32)) = (-7 : Int32) then true else false)); (let z287 : Bool := (if (1 : Int32) < z78 then (if (List.getD z279 ((1 : Int32)).toNatClampNeg (0 : Int32)) = (List.getD z70 (z74).toNatClampNeg (0 : Int32)) then true else false) else (if (List.getD z279 ((1 : Int32)).toNatClampNeg (0 : Int32)) = (-7 : Int32) then true else false)); (let z292 : Bool := (if (List.getD z279 ((2 : Int32)).toNatClampNeg (0 : Int32)) = (-7 : Int32) then true else false); (let z296 : Bool := (if z283 = true then (if z287 = true then (if z292 = true then true else false) else false) else false); z296))))))))))) := by first | (have q0 : f0 p0 p1 p2 p3 p4 p5 = ((let z70 : List Int32 := [(f1 p4 p0), (f1 (((p4).toUInt64 >>> ((32 : Int32) &&& 0x3f).toInt64.toUInt64).toInt64) p1), (f1 (((p4).toUInt64 >>> ((16 : Int32) &&& 0x3f).toInt64.toUInt64).toInt64) p2)]; (let z74 : Int32 := ((p5 &&& (2147483647 : Int32)) % (3 : Int32)); (let z78 : Int32 := (f2 (2 : Int32) ((((p5).toUInt32 >>> ((4 : Int32) &&& 31).toUInt32).toInt32) &&& (3 : Int32))); (let z133 : Int32 := (f7 ((own_pkr z15).1)); (let z173 : List Int64 := (own_packr z40 (own_pkr z15).2.1 (own_pkr z15).2.2.1 (0 : Int32) (own_pkr z15).1 (List.replicate (((2 : Int32) * z133)).toNatClampNeg (0 : Int64))); (let z191 : List Int64 := (own_packr z70 (own_pkr z15).2.1 (own_pkr z15).2.2.1 z133 (own_pkr z15).1 z173); (let z279 : List Int32 := (own_sts (List.getD (own_pkr z15).2.1 (z74).toNatClampNeg (0 : Int32)) (List.getD (own_pkr z15).2.2.1 (z74).toNatClampNeg (0 : Int32)) (List.getD (own_pkr z15).2.2.2 (z74).toNatClampNeg (0 : Int64)) (own_pkr z15).1 z191 (z78).toNatClampNeg (0 : Int32) [(-7 : Int32), (-7 : Int32), (-7 : Int32)]); (let z283 : Bool := (if (0 : Int32) < z78 then (if (List.getD z279 ((0 : Int32)).toNatClampNeg (0 : Int32)) = (List.getD z40 (z74).toNatClampNeg (0 : Int32)) then true else false) else (if (List.getD z279 ((0 : Int32)).toNatClampNeg (0 : Int32)) = (-7 : Int32) then true else false)); (let z287 : Bool := (if (1 : Int32) < z78 then (if (List.getD z279 ((1 : Int32)).toNatClampNeg (0 : Int32)) = (List.getD z70 (z74).toNatClampNeg (0 : Int32)) then true else false) else (if (List.getD z279 ((1 : Int32)).toNatClampNeg (0 : Int32)) = (-7 : Int32) then true else false)); (let z292 : Bool := (if (List.getD z279 ((2 : Int32)).toNatClampNeg (0 : Int32)) = (-7 : Int32) then true else false); (let z296 : Bool := (if z283 = true then (if z287 = true then (if z292 = true then true else false) else false) else false); z296)))))))))))) := let_of (b := fun (z40 : List Int32) => ((let z70 : List Int32 := [(f1 p4 p0), (f1 (((p4).toUInt64 >>> ((32 : Int32) &&& 0x3f).toInt64.toUInt64).toInt64) p1), (f1 (((p4).toUInt64 >>> ((16 : Int32) &&& 0x3f).toInt64.toUInt64).toInt64) p2)]; (let z74 : Int32 := ((p5 &&& (2147483647 : Int32)) % (3 : Int32)); (let z78 : Int32 := (f2 (2 : Int32) ((((p5).toUInt32 >>> ((4 : Int32) &&& 31).toUInt32).toInt32) &&& (3 : Int32))); (let z133 : Int32 := (f7 ((own_pkr z15).1)); (let z173 : List Int64 := (own_packr z40 (own_pkr z15).2.1 (own_pkr z15).2.2.1 (0 : Int32) (own_pkr z15).1 (List.replicate (((2 : Int32) * z133)).toNatClampNeg (0 : Int64))); (let z191 : List Int64 := (own_packr z70 (own_pkr z15).2.1 (own_pkr z15).2.2.1 z133 (own_pkr z15).1 z173); (let z279 : List Int32 := (own_sts (List.getD (own_pkr z15).2.1 (z74).toNatClampNeg (0 : Int32)) (List.getD (own_pkr z15).2.2.1 (z74).toNatClampNeg (0 : Int32)) (List.getD (own_pkr z15).2.2.2 (z74).toNatClampNeg (0 : Int64)) (own_pkr z15).1 z191 (z78).toNatClampNeg (0 : Int32) [(-7 : Int32), (-7 : Int32), (-7 : Int32)]); (let z283 : Bool := (if (0 : Int32) < z78 then (if (List.getD z279 ((0 : Int32)).toNatClampNeg (0 : Int32)) = (List.getD z40 (z74).toNatClampNeg (0 : Int32)) then true else false) else (if (List.getD z279 ((0 : Int32)).toNatClampNeg (0 : Int32)) = (-7 : Int32) then true else false)); (let z287 : Bool := (if (1 : Int32) < z78 then (if (List.getD z279 ((1 : Int32)).toNatClampNeg (0 : Int32)) = (List.getD z70 (z74).toNatClampNeg (0 : Int32)) then true else false) else (if (List.getD z279 ((1 : Int32)).toNatClampNeg (0 : Int32)) = (-7 : Int32) then true else false)); (let z292 : Bool := (if (List.getD z279 ((2 : Int32)).toNatClampNeg (0 : Int32)) = (-7 : Int32) then true else false); (let z296 : Bool := (if z283 = true then (if z287 = true then (if z292 = true then true else false) else false) else false); z296))))))))))))) hz40 r17; exact q0) | (subst hz40; exact r17)
      show Go p.tables e below (P0 Z p0 p1 p2 p3 p4 p5 h0 n0 s) (T35.setTop (mkF m 52 #[.val (.int p0), .val (.int p1), .val (.int p2), .val (.long p3), .second, .val (.long p4), .second, .val (.int p5), .val (.ref b1), .val (.ref b18), .unset, .unset, .unset, .unset, .unset, .unset, .unset, .unset, .unset, .unset, .unset] []))
      refine Go.back (fun t k => XS.iconst Y35.here hx rfl (hb hby at_52) k) ?_
      show Go p.tables e below (P0 Z p0 p1 p2 p3 p4 p5 h0 n0 s) (T35.setTop (mkF m 53 #[.val (.int p0), .val (.int p1), .val (.int p2), .val (.long p3), .second, .val (.long p4), .second, .val (.int p5), .val (.ref b1), .val (.ref b18), .unset, .unset, .unset, .unset, .unset, .unset, .unset, .unset, .unset, .unset, .unset] [(.int (3 : Int32))]))
      obtain ⟨T43, h43, k43, X43, e43, E43, A43, st43⟩ := newP Y35 hx hZ (hw _ (List.mem_of_getElem? (i := 0) rfl)) e35 (g := (mkF m 53 #[.val (.int p0), .val (.int p1), .val (.int p2), .val (.long p3), .second, .val (.long p4), .second, .val (.int p5), .val (.ref b1), .val (.ref b18), .unset, .unset, .unset, .unset, .unset, .unset, .unset, .unset, .unset, .unset, .unset] [(.int (3 : Int32))])) rfl (hb hby at_53) rfl (by decide) (cap := 3) (by decide) (by decide) (by decide) (by decide)
      obtain ⟨b43, g43⟩ : ∃ z, z = h35.size := ⟨_, rfl⟩
      rw [← g43] at A43 st43
      have ne44 : b1 ≠ b43 := Nat.ne_of_lt (Nat.lt_of_lt_of_le F37.lt (Nat.le_of_eq g43.symm))
      have ne45 : b18 ≠ b43 := Nat.ne_of_lt (Nat.lt_of_lt_of_le F41.lt (Nat.le_of_eq g43.symm))
      have g46 : n0 ≤ b43 := Nat.le_trans F36 (Nat.le_of_eq g43.symm)
      have F47 : n0 ≤ h43.size := Nat.le_trans F36 E43.1
      have F48 : ArL Z h43 b1 .int (List.map Value.int z15) := F37.ext E43
      have F49 : ArL Z h43 b18 .int (List.map Value.int z40) := F41.ext E43
      have F50 : ArL Z h43 b43 .int [(.int (0 : Int32)), (.int (0 : Int32)), (.int (0 : Int32))] := ArL.new (ty := .int) A43 (n := 3) rfl
      refine Go.back st43 ?_
      show Go p.tables e below (P0 Z p0 p1 p2 p3 p4 p5 h0 n0 s) (T43.setTop (mkF m 55 #[.val (.int p0), .val (.int p1), .val (.int p2), .val (.long p3), .second, .val (.long p4), .second, .val (.int p5), .val (.ref b1), .val (.ref b18), .unset, .unset, .unset, .unset, .unset, .unset, .unset, .unset, .unset, .unset, .unset] [(.ref b43)]))
      refine Go.back (fun t k => XS.dup X43.here hx rfl (hb hby at_55) rfl rfl k) ?_
      show Go p.tables e below (P0 Z p0 p1 p2 p3 p4 p5 h0 n0 s) (T43.setTop (mkF m 56 #[.val (.int p0), .val (.int p1), .val (.int p2), .val (.long p3), .second, .val (.long p4), .second, .val (.int p5), .val (.ref b1), .val (.ref b18), .unset, .unset, .unset, .unset, .unset, .unset, .unset, .unset, .unset, .unset, .unset] [(.ref b43), (.ref b43)]))
      refine Go.back (fun t k => XS.iconst X43.here hx rfl (hb hby at_56) k) ?_
      show Go p.tables e below (P0 Z p0 p1 p2 p3 p4 p5 h0 n0 s) (T43.setTop (mkF m 57 #[.val (.int p0), .val (.int p1), .val (.int p2), .val (.long p3), .second, .val (.long p4), .second, .val (.int p5), .val (.ref b1), .val (.ref b18), .unset, .unset, .unset, .unset, .unset, .unset, .unset, .unset, .unset, .unset, .unset] [(.int (0 : Int32)), (.ref b43), (.ref b43)]))
      refine Go.back (fun t k => XS.lload X43.here hx rfl (hb hby at_57) rfl  k) ?_
      show Go p.tables e below (P0 Z p0 p1 p2 p3 p4 p5 h0 n0 s) (T43.setTop (mkF m 59 #[.val (.int p0), .val (.int p1), .val (.int p2), .val (.long p3), .second, .val (.long p4), .second, .val (.int p5), .val (.ref b1), .val (.ref b18), .unset, .unset, .unset, .unset, .unset, .unset, .unset, .unset, .unset, .unset, .unset] [(.long p4), (.int (0 : Int32)), (.ref b43), (.ref b43)]))
      refine Go.back (fun t k => XS.iloadN X43.here hx rfl (hb hby at_59) rfl  k) ?_
      show Go p.tables e below (P0 Z p0 p1 p2 p3 p4 p5 h0 n0 s) (T43.setTop (mkF m 60 #[.val (.int p0), .val (.int p1), .val (.int p2), .val (.long p3), .second, .val (.long p4), .second, .val (.int p5), .val (.ref b1), .val (.ref b18), .unset, .unset, .unset, .unset, .unset, .unset, .unset, .unset, .unset, .unset, .unset] [(.int p0), (.long p4), (.int (0 : Int32)), (.ref b43), (.ref b43)]))
      obtain ⟨_, _, ⟨T51, L51, k51, n51⟩, -, X51, ⟨Lc51, hQ51, l51, y51, z51⟩, st51⟩ := Jvm.LawKit.callS X43 hx (y := (⟨"com/example/onward/onward/explore/PackingStatesPinLaw", "st", "(JI)I"⟩ : MethodName)) hown (mvT hZ (hw _ (List.mem_of_getElem? (i := 1) rfl))) (mvT hZ (hw _ (List.mem_of_getElem? (i := 2) rfl))) (mvT hZ (hw _ (List.mem_of_getElem? (i := 3) rfl))) (mvT hZ (hw _ (List.mem_of_getElem? (i := 4) rfl))) (by decide) (backOf (W := 3) (rm1 l Z a0 hw [] p4 p0 h43 n0) hZ (hw _ (List.mem_of_getElem? (i := 4) rfl)) (hw _ (List.mem_of_getElem? (i := 3) rfl)) (by decide) (by decide)) (g := (mkF m 60 #[.val (.int p0), .val (.int p1), .val (.int p2), .val (.long p3), .second, .val (.long p4), .second, .val (.int p5), .val (.ref b1), .val (.ref b18), .unset, .unset, .unset, .unset, .unset, .unset, .unset, .unset, .unset, .unset, .unset] [(.int p0), (.long p4), (.int (0 : Int32)), (.ref b43), (.ref b43)])) rfl (by rw [hml]; rfl) (argsL := [(.long p4), (.int p0)]) (rest := [(.int (0 : Int32)), (.ref b43), (.ref b43)]) (lenOf pd_4 rfl) rfl (by show 2 * 0 + _ ≤ _; exact Nat.le_of_eq rfl) (hb hby at_60) (fun _ _ => ⟨rfl, e43, (by decide : 3 + 0 ≤ _), (by decide : 9 + 0 ≤ _)⟩)
      dsimp only [Pt.U, Pt.locs, Pt.cells, Pt.slots] at X51 l51 y51 z51 st51 hQ51
      subst l51 y51 z51
      obtain ⟨rfl, N51q, e51⟩ := hQ51
      obtain ⟨Lo51, Y51, N51⟩ := pk X51 (Fr.app N35 N51q)
      refine Go.back st51 ?_
      show Go p.tables e below (P0 Z p0 p1 p2 p3 p4 p5 h0 n0 s) (T51.setTop (mkF m 63 #[.val (.int p0), .val (.int p1), .val (.int p2), .val (.long p3), .second, .val (.long p4), .second, .val (.int p5), .val (.ref b1), .val (.ref b18), .unset, .unset, .unset, .unset, .unset, .unset, .unset, .unset, .unset, .unset, .unset] [(.int (f1 p4 p0)), (.int (0 : Int32)), (.ref b43), (.ref b43)]))
      obtain ⟨cl52, Ar52, hi52, -⟩ := F50.at (j := (0 : Int32)) (by decide) (Nat.le_of_ble_eq_true rfl)
      obtain ⟨T52, h52, X52, e52, W52, st52⟩ := stI Y51 hx hZ e51 Ar52 (j := (0 : Int32)) hi52 (g := (mkF m 63 #[.val (.int p0), .val (.int p1), .val (.int p2), .val (.long p3), .second, .val (.long p4), .second, .val (.int p5), .val (.ref b1), .val (.ref b18), .unset, .unset, .unset, .unset, .unset, .unset, .unset, .unset, .unset, .unset, .unset] [(.int (f1 p4 p0)), (.int (0 : Int32)), (.ref b43), (.ref b43)])) rfl rfl (hb hby at_63)
      have F53 : n0 ≤ h52.size := Nat.le_trans F47 (Keep.of_wr W52).1
      have F54 : ArL Z h52 b1 .int (List.map Value.int z15) := F48.other W52 ne44
      have F55 : ArL Z h52 b18 .int (List.map Value.int z40) := F49.other W52 ne45
      have F56 : ArL Z h52 b43 .int [(.int (f1 p4 p0)), (.int (0 : Int32)), (.int (0 : Int32))] := F50.set W52
      obtain ⟨Lo52, Y52, N52⟩ := pk X52 (Fr.snoc X52 N51 g46)
      refine Go.back st52 ?_
      show Go p.tables e below (P0 Z p0 p1 p2 p3 p4 p5 h0 n0 s) (T52.setTop (mkF m 64 #[.val (.int p0), .val (.int p1), .val (.int p2), .val (.long p3), .second, .val (.long p4), .second, .val (.int p5), .val (.ref b1), .val (.ref b18), .unset, .unset, .unset, .unset, .unset, .unset, .unset, .unset, .unset, .unset, .unset] [(.ref b43)]))
      refine Go.back (fun t k => XS.dup Y52.here hx rfl (hb hby at_64) rfl rfl k) ?_
      show Go p.tables e below (P0 Z p0 p1 p2 p3 p4 p5 h0 n0 s) (T52.setTop (mkF m 65 #[.val (.int p0), .val (.int p1), .val (.int p2), .val (.long p3), .second, .val (.long p4), .second, .val (.int p5), .val (.ref b1), .val (.ref b18), .unset, .unset, .unset, .unset, .unset, .unset, .unset, .unset, .unset, .unset, .unset] [(.ref b43), (.ref b43)]))
      refine Go.back (fun t k => XS.iconst Y52.here hx rfl (hb hby at_65) k) ?_
      show Go p.tables e below (P0 Z p0 p1 p2 p3 p4 p5 h0 n0 s) (T52.setTop (mkF m 66 #[.val (.int p0), .val (.int p1), .val (.int p2), .val (.long p3), .second, .val (.long p4), .second, .val (.int p5), .val (.ref b1), .val (.ref b18), .unset, .unset, .unset, .unset, .unset, .unset, .unset, .unset, .unset, .unset, .unset] [(.int (1 : Int32)), (.ref b43), (.ref b43)]))
      refine Go.back (fun t k => XS.lload Y52.here hx rfl (hb hby at_66) rfl  k) ?_
      show Go p.tables e below (P0 Z p0 p1 p2 p3 p4 p5 h0 n0 s) (T52.setTop (mkF m 68 #[.val (.int p0), .val (.int p1), .val (.int p2), .val (.long p3), .second, .val (.long p4), .second, .val (.int p5), .val (.ref b1), .val (.ref b18), .unset, .unset, .unset, .unset, .unset, .unset, .unset, .unset, .unset, .unset, .unset] [(.long p4), (.int (1 : Int32)), (.ref b43), (.ref b43)]))
      refine Go.back (fun t k => XS.bipush Y52.here hx rfl (hb hby at_68) k) ?_
      show Go p.tables e below (P0 Z p0 p1 p2 p3 p4 p5 h0 n0 s) (T52.setTop (mkF m 70 #[.val (.int p0), .val (.int p1), .val (.int p2), .val (.long p3), .second, .val (.long p4), .second, .val (.int p5), .val (.ref b1), .val (.ref b18), .unset, .unset, .unset, .unset, .unset, .unset, .unset, .unset, .unset, .unset, .unset] [(.int (32 : Int32)), (.long p4), (.int (1 : Int32)), (.ref b43), (.ref b43)]))
      refine Go.back (fun t k => XS.lushr Y52.here hx rfl (hb hby at_70) rfl k) ?_
      show Go p.tables e below (P0 Z p0 p1 p2 p3 p4 p5 h0 n0 s) (T52.setTop (mkF m 71 #[.val (.int p0), .val (.int p1), .val (.int p2), .val (.long p3), .second, .val (.long p4), .second, .val (.int p5), .val (.ref b1), .val (.ref b18), .unset, .unset, .unset, .unset, .unset, .unset, .unset, .unset, .unset, .unset, .unset] [(.long (((p4).toUInt64 >>> ((32 : Int32) &&& 0x3f).toInt64.toUInt64).toInt64)), (.int (1 : Int32)), (.ref b43), (.ref b43)]))
      refine Go.back (fun t k => XS.iloadN Y52.here hx rfl (hb hby at_71) rfl  k) ?_
      show Go p.tables e below (P0 Z p0 p1 p2 p3 p4 p5 h0 n0 s) (T52.setTop (mkF m 72 #[.val (.int p0), .val (.int p1), .val (.int p2), .val (.long p3), .second, .val (.long p4), .second, .val (.int p5), .val (.ref b1), .val (.ref b18), .unset, .unset, .unset, .unset, .unset, .unset, .unset, .unset, .unset, .unset, .unset] [(.int p1), (.long (((p4).toUInt64 >>> ((32 : Int32) &&& 0x3f).toInt64.toUInt64).toInt64)), (.int (1 : Int32)), (.ref b43), (.ref b43)]))
      obtain ⟨_, _, ⟨T57, L57, k57, n57⟩, -, X57, ⟨Lc57, hQ57, l57, y57, z57⟩, st57⟩ := Jvm.LawKit.callS Y52 hx (y := (⟨"com/example/onward/onward/explore/PackingStatesPinLaw", "st", "(JI)I"⟩ : MethodName)) hown (mvT hZ (hw _ (List.mem_of_getElem? (i := 1) rfl))) (mvT hZ (hw _ (List.mem_of_getElem? (i := 2) rfl))) (mvT hZ (hw _ (List.mem_of_getElem? (i := 3) rfl))) (mvT hZ (hw _ (List.mem_of_getElem? (i := 4) rfl))) (by decide) (backOf (W := 3) (rm1 l Z a0 hw [] (((p4).toUInt64 >>> ((32 : Int32) &&& 0x3f).toInt64.toUInt64).toInt64) p1 h52 n0) hZ (hw _ (List.mem_of_getElem? (i := 4) rfl)) (hw _ (List.mem_of_getElem? (i := 3) rfl)) (by decide) (by decide)) (g := (mkF m 72 #[.val (.int p0), .val (.int p1), .val (.int p2), .val (.long p3), .second, .val (.long p4), .second, .val (.int p5), .val (.ref b1), .val (.ref b18), .unset, .unset, .unset, .unset, .unset, .unset, .unset, .unset, .unset, .unset, .unset] [(.int p1), (.long (((p4).toUInt64 >>> ((32 : Int32) &&& 0x3f).toInt64.toUInt64).toInt64)), (.int (1 : Int32)), (.ref b43), (.ref b43)])) rfl (by rw [hml]; rfl) (argsL := [(.long (((p4).toUInt64 >>> ((32 : Int32) &&& 0x3f).toInt64.toUInt64).toInt64)), (.int p1)]) (rest := [(.int (1 : Int32)), (.ref b43), (.ref b43)]) (lenOf pd_4 rfl) rfl (by show 2 * 0 + _ ≤ _; exact Nat.le_of_eq rfl) (hb hby at_72) (fun _ _ => ⟨rfl, e52, (by decide : 3 + 0 ≤ _), (by decide : 9 + 0 ≤ _)⟩)
      dsimp only [Pt.U, Pt.locs, Pt.cells, Pt.slots] at X57 l57 y57 z57 st57 hQ57
      subst l57 y57 z57
      obtain ⟨rfl, N57q, e57⟩ := hQ57
      obtain ⟨Lo57, Y57, N57⟩ := pk X57 (Fr.app N52 N57q)
      refine Go.back st57 ?_
      show Go p.tables e below (P0 Z p0 p1 p2 p3 p4 p5 h0 n0 s) (T57.setTop (mkF m 75 #[.val (.int p0), .val (.int p1), .val (.int p2), .val (.long p3), .second, .val (.long p4), .second, .val (.int p5), .val (.ref b1), .val (.ref b18), .unset, .unset, .unset, .unset, .unset, .unset, .unset, .unset, .unset, .unset, .unset] [(.int (f1 (((p4).toUInt64 >>> ((32 : Int32) &&& 0x3f).toInt64.toUInt64).toInt64) p1)), (.int (1 : Int32)), (.ref b43), (.ref b43)]))
      obtain ⟨cl58, Ar58, hi58, -⟩ := F56.at (j := (1 : Int32)) (by decide) (Nat.le_of_ble_eq_true rfl)
      obtain ⟨T58, h58, X58, e58, W58, st58⟩ := stI Y57 hx hZ e57 Ar58 (j := (1 : Int32)) hi58 (g := (mkF m 75 #[.val (.int p0), .val (.int p1), .val (.int p2), .val (.long p3), .second, .val (.long p4), .second, .val (.int p5), .val (.ref b1), .val (.ref b18), .unset, .unset, .unset, .unset, .unset, .unset, .unset, .unset, .unset, .unset, .unset] [(.int (f1 (((p4).toUInt64 >>> ((32 : Int32) &&& 0x3f).toInt64.toUInt64).toInt64) p1)), (.int (1 : Int32)), (.ref b43), (.ref b43)])) rfl rfl (hb hby at_75)
      have F59 : n0 ≤ h58.size := Nat.le_trans F53 (Keep.of_wr W58).1
      have F60 : ArL Z h58 b1 .int (List.map Value.int z15) := F54.other W58 ne44
      have F61 : ArL Z h58 b18 .int (List.map Value.int z40) := F55.other W58 ne45
      have F62 : ArL Z h58 b43 .int [(.int (f1 p4 p0)), (.int (f1 (((p4).toUInt64 >>> ((32 : Int32) &&& 0x3f).toInt64.toUInt64).toInt64) p1)), (.int (0 : Int32))] := F56.set W58
      obtain ⟨Lo58, Y58, N58⟩ := pk X58 (Fr.snoc X58 N57 g46)
      refine Go.back st58 ?_
      show Go p.tables e below (P0 Z p0 p1 p2 p3 p4 p5 h0 n0 s) (T58.setTop (mkF m 76 #[.val (.int p0), .val (.int p1), .val (.int p2), .val (.long p3), .second, .val (.long p4), .second, .val (.int p5), .val (.ref b1), .val (.ref b18), .unset, .unset, .unset, .unset, .unset, .unset, .unset, .unset, .unset, .unset, .unset] [(.ref b43)]))
      refine Go.back (fun t k => XS.dup Y58.here hx rfl (hb hby at_76) rfl rfl k) ?_
      show Go p.tables e below (P0 Z p0 p1 p2 p3 p4 p5 h0 n0 s) (T58.setTop (mkF m 77 #[.val (.int p0), .val (.int p1), .val (.int p2), .val (.long p3), .second, .val (.long p4), .second, .val (.int p5), .val (.ref b1), .val (.ref b18), .unset, .unset, .unset, .unset, .unset, .unset, .unset, .unset, .unset, .unset, .unset] [(.ref b43), (.ref b43)]))
      refine Go.back (fun t k => XS.iconst Y58.here hx rfl (hb hby at_77) k) ?_
      show Go p.tables e below (P0 Z p0 p1 p2 p3 p4 p5 h0 n0 s) (T58.setTop (mkF m 78 #[.val (.int p0), .val (.int p1), .val (.int p2), .val (.long p3), .second, .val (.long p4), .second, .val (.int p5), .val (.ref b1), .val (.ref b18), .unset, .unset, .unset, .unset, .unset, .unset, .unset, .unset, .unset, .unset, .unset] [(.int (2 : Int32)), (.ref b43), (.ref b43)]))
      refine Go.back (fun t k => XS.lload Y58.here hx rfl (hb hby at_78) rfl  k) ?_
      show Go p.tables e below (P0 Z p0 p1 p2 p3 p4 p5 h0 n0 s) (T58.setTop (mkF m 80 #[.val (.int p0), .val (.int p1), .val (.int p2), .val (.long p3), .second, .val (.long p4), .second, .val (.int p5), .val (.ref b1), .val (.ref b18), .unset, .unset, .unset, .unset, .unset, .unset, .unset, .unset, .unset, .unset, .unset] [(.long p4), (.int (2 : Int32)), (.ref b43), (.ref b43)]))
      refine Go.back (fun t k => XS.bipush Y58.here hx rfl (hb hby at_80) k) ?_
      show Go p.tables e below (P0 Z p0 p1 p2 p3 p4 p5 h0 n0 s) (T58.setTop (mkF m 82 #[.val (.int p0), .val (.int p1), .val (.int p2), .val (.long p3), .second, .val (.long p4), .second, .val (.int p5), .val (.ref b1), .val (.ref b18), .unset, .unset, .unset, .unset, .unset, .unset, .unset, .unset, .unset, .unset, .unset] [(.int (16 : Int32)), (.long p4), (.int (2 : Int32)), (.ref b43), (.ref b43)]))
      refine Go.back (fun t k => XS.lushr Y58.here hx rfl (hb hby at_82) rfl k) ?_
      show Go p.tables e below (P0 Z p0 p1 p2 p3 p4 p5 h0 n0 s) (T58.setTop (mkF m 83 #[.val (.int p0), .val (.int p1), .val (.int p2), .val (.long p3), .second, .val (.long p4), .second, .val (.int p5), .val (.ref b1), .val (.ref b18), .unset, .unset, .unset, .unset, .unset, .unset, .unset, .unset, .unset, .unset, .unset] [(.long (((p4).toUInt64 >>> ((16 : Int32) &&& 0x3f).toInt64.toUInt64).toInt64)), (.int (2 : Int32)), (.ref b43), (.ref b43)]))
      refine Go.back (fun t k => XS.iloadN Y58.here hx rfl (hb hby at_83) rfl  k) ?_
      show Go p.tables e below (P0 Z p0 p1 p2 p3 p4 p5 h0 n0 s) (T58.setTop (mkF m 84 #[.val (.int p0), .val (.int p1), .val (.int p2), .val (.long p3), .second, .val (.long p4), .second, .val (.int p5), .val (.ref b1), .val (.ref b18), .unset, .unset, .unset, .unset, .unset, .unset, .unset, .unset, .unset, .unset, .unset] [(.int p2), (.long (((p4).toUInt64 >>> ((16 : Int32) &&& 0x3f).toInt64.toUInt64).toInt64)), (.int (2 : Int32)), (.ref b43), (.ref b43)]))
      obtain ⟨_, _, ⟨T63, L63, k63, n63⟩, -, X63, ⟨Lc63, hQ63, l63, y63, z63⟩, st63⟩ := Jvm.LawKit.callS Y58 hx (y := (⟨"com/example/onward/onward/explore/PackingStatesPinLaw", "st", "(JI)I"⟩ : MethodName)) hown (mvT hZ (hw _ (List.mem_of_getElem? (i := 1) rfl))) (mvT hZ (hw _ (List.mem_of_getElem? (i := 2) rfl))) (mvT hZ (hw _ (List.mem_of_getElem? (i := 3) rfl))) (mvT hZ (hw _ (List.mem_of_getElem? (i := 4) rfl))) (by decide) (backOf (W := 3) (rm1 l Z a0 hw [] (((p4).toUInt64 >>> ((16 : Int32) &&& 0x3f).toInt64.toUInt64).toInt64) p2 h58 n0) hZ (hw _ (List.mem_of_getElem? (i := 4) rfl)) (hw _ (List.mem_of_getElem? (i := 3) rfl)) (by decide) (by decide)) (g := (mkF m 84 #[.val (.int p0), .val (.int p1), .val (.int p2), .val (.long p3), .second, .val (.long p4), .second, .val (.int p5), .val (.ref b1), .val (.ref b18), .unset, .unset, .unset, .unset, .unset, .unset, .unset, .unset, .unset, .unset, .unset] [(.int p2), (.long (((p4).toUInt64 >>> ((16 : Int32) &&& 0x3f).toInt64.toUInt64).toInt64)), (.int (2 : Int32)), (.ref b43), (.ref b43)])) rfl (by rw [hml]; rfl) (argsL := [(.long (((p4).toUInt64 >>> ((16 : Int32) &&& 0x3f).toInt64.toUInt64).toInt64)), (.int p2)]) (rest := [(.int (2 : Int32)), (.ref b43), (.ref b43)]) (lenOf pd_4 rfl) rfl (by show 2 * 0 + _ ≤ _; exact Nat.le_of_eq rfl) (hb hby at_84) (fun _ _ => ⟨rfl, e58, (by decide : 3 + 0 ≤ _), (by decide : 9 + 0 ≤ _)⟩)
      dsimp only [Pt.U, Pt.locs, Pt.cells, Pt.slots] at X63 l63 y63 z63 st63 hQ63
      subst l63 y63 z63
      obtain ⟨rfl, N63q, e63⟩ := hQ63
      obtain ⟨Lo63, Y63, N63⟩ := pk X63 (Fr.app N58 N63q)
      refine Go.back st63 ?_
      show Go p.tables e below (P0 Z p0 p1 p2 p3 p4 p5 h0 n0 s) (T63.setTop (mkF m 87 #[.val (.int p0), .val (.int p1), .val (.int p2), .val (.long p3), .second, .val (.long p4), .second, .val (.int p5), .val (.ref b1), .val (.ref b18), .unset, .unset, .unset, .unset, .unset, .unset, .unset, .unset, .unset, .unset, .unset] [(.int (f1 (((p4).toUInt64 >>> ((16 : Int32) &&& 0x3f).toInt64.toUInt64).toInt64) p2)), (.int (2 : Int32)), (.ref b43), (.ref b43)]))
      obtain ⟨cl64, Ar64, hi64, -⟩ := F62.at (j := (2 : Int32)) (by decide) (Nat.le_of_ble_eq_true rfl)
      obtain ⟨T64, h64, X64, e64, W64, st64⟩ := stI Y63 hx hZ e63 Ar64 (j := (2 : Int32)) hi64 (g := (mkF m 87 #[.val (.int p0), .val (.int p1), .val (.int p2), .val (.long p3), .second, .val (.long p4), .second, .val (.int p5), .val (.ref b1), .val (.ref b18), .unset, .unset, .unset, .unset, .unset, .unset, .unset, .unset, .unset, .unset, .unset] [(.int (f1 (((p4).toUInt64 >>> ((16 : Int32) &&& 0x3f).toInt64.toUInt64).toInt64) p2)), (.int (2 : Int32)), (.ref b43), (.ref b43)])) rfl rfl (hb hby at_87)
      have F65 : n0 ≤ h64.size := Nat.le_trans F59 (Keep.of_wr W64).1
      have F66 : ArL Z h64 b1 .int (List.map Value.int z15) := F60.other W64 ne44
      have F67 : ArL Z h64 b18 .int (List.map Value.int z40) := F61.other W64 ne45
      have F68 : ArL Z h64 b43 .int [(.int (f1 p4 p0)), (.int (f1 (((p4).toUInt64 >>> ((32 : Int32) &&& 0x3f).toInt64.toUInt64).toInt64) p1)), (.int (f1 (((p4).toUInt64 >>> ((16 : Int32) &&& 0x3f).toInt64.toUInt64).toInt64) p2))] := F62.set W64
      obtain ⟨Lo64, Y64, N64⟩ := pk X64 (Fr.snoc X64 N63 g46)
      refine Go.back st64 ?_
      show Go p.tables e below (P0 Z p0 p1 p2 p3 p4 p5 h0 n0 s) (T64.setTop (mkF m 88 #[.val (.int p0), .val (.int p1), .val (.int p2), .val (.long p3), .second, .val (.long p4), .second, .val (.int p5), .val (.ref b1), .val (.ref b18), .unset, .unset, .unset, .unset, .unset, .unset, .unset, .unset, .unset, .unset, .unset] [(.ref b43)]))
      refine Go.back (fun t k => XS.astore Y64.here hx rfl (hb hby at_88) rfl rfl (l' := #[.val (.int p0), .val (.int p1), .val (.int p2), .val (.long p3), .second, .val (.long p4), .second, .val (.int p5), .val (.ref b1), .val (.ref b18), .val (.ref b43), .unset, .unset, .unset, .unset, .unset, .unset, .unset, .unset, .unset, .unset]) rfl k) ?_
      show Go p.tables e below (P0 Z p0 p1 p2 p3 p4 p5 h0 n0 s) (T64.setTop (mkF m 90 #[.val (.int p0), .val (.int p1), .val (.int p2), .val (.long p3), .second, .val (.long p4), .second, .val (.int p5), .val (.ref b1), .val (.ref b18), .val (.ref b43), .unset, .unset, .unset, .unset, .unset, .unset, .unset, .unset, .unset, .unset] []))
      have J69 : ∀ (z70 : List Int32) (hz70 : z70 = [(f1 p4 p0), (f1 (((p4).toUInt64 >>> ((32 : Int32) &&& 0x3f).toInt64.toUInt64).toInt64) p1), (f1 (((p4).toUInt64 >>> ((16 : Int32) &&& 0x3f).toInt64.toUInt64).toInt64) p2)]) (F71 : ArL Z h64 b43 .int (List.map Value.int z70)), Go p.tables e below (P0 Z p0 p1 p2 p3 p4 p5 h0 n0 s) (T64.setTop (mkF m 90 #[.val (.int p0), .val (.int p1), .val (.int p2), .val (.long p3), .second, .val (.long p4), .second, .val (.int p5), .val (.ref b1), .val (.ref b18), .val (.ref b43), .unset, .unset, .unset, .unset, .unset, .unset, .unset, .unset, .unset, .unset] [])) := by
        intro z70 hz70 F71
        have r72 : f0 p0 p1 p2 p3 p4 p5 = (let z74 : Int32 := ((p5 &&& (2147483647 : Int32)) % (3 : Int32)); (let z78 : Int32 := (f2 (2 : Int32) ((((p5).toUInt32 >>> ((4 : Int32) &&& 31).toUInt32).toInt32) &&& (3 : Int32))); (let z133 : Int32 := (f7 ((own_pkr z15).1)); (let z173 : List Int64 := (own_packr z40 (own_pkr z15).2.1 (own_pkr z15).2.2.1 (0 : Int32) (own_pkr z15).1 (List.replicate (((2 : Int32) * z133)).toNatClampNeg (0 : Int64))); (let z191 : List Int64 := (own_packr z70 (own_pkr z15).2.1 (own_pkr z15).2.2.1 z133 (own_pkr z15).1 z173); (let z279 : List Int32 := (own_sts (List.getD (own_pkr z15).2.1 (z74).toNatClampNeg (0 : Int32)) (List.getD (own_pkr z15).2.2.1 (z74).toNatClampNeg (0 : Int32)) (List.getD (own_pkr z15).2.2.2 (z74).toNatClampNeg (0 : Int64)) (own_pkr z15).1 z191 (z78).toNatClampNeg (0 : Int32) [(-7 : Int32), (-7 : Int32), (-7 : Int32)]); (let z283 : Bool := (if (0 : Int32) < z78 then (if (List.getD z279 ((0 : Int32)).toNatClampNeg (0 : Int32)) = (List.getD z40 (z74).toNatClampNeg (0 : Int32)) then true else false) else (if (List.getD z279 ((0 : Int32)).toNatClampNeg (0 : Int32)) = (-7 : Int32) then true else false)); (let z287 : Bool := (if (1 : Int32) < z78 then (if (List.getD z279 ((1 : Int32)).toNatClampNeg (0 : Int32)) = (List.getD z70 (z74).toNatClampNeg (0 : Int32)) then true else false) else (if (List.getD z279 ((1 : Int32)).toNatClampNeg (0 : Int32)) = (-7 : Int32) then true else false)); (let z292 : Bool := (if (List.getD z279 ((2 : Int32)).toNatClampNeg (0 : Int32)) = (-7 : Int32) then true else false); (let z296 : Bool := (if z283 = true then (if z287 = true then (if z292 = true then true else false) else false) else false); z296)))))))))) := by first | (have q0 : f0 p0 p1 p2 p3 p4 p5 = ((let z74 : Int32 := ((p5 &&& (2147483647 : Int32)) % (3 : Int32)); (let z78 : Int32 := (f2 (2 : Int32) ((((p5).toUInt32 >>> ((4 : Int32) &&& 31).toUInt32).toInt32) &&& (3 : Int32))); (let z133 : Int32 := (f7 ((own_pkr z15).1)); (let z173 : List Int64 := (own_packr z40 (own_pkr z15).2.1 (own_pkr z15).2.2.1 (0 : Int32) (own_pkr z15).1 (List.replicate (((2 : Int32) * z133)).toNatClampNeg (0 : Int64))); (let z191 : List Int64 := (own_packr z70 (own_pkr z15).2.1 (own_pkr z15).2.2.1 z133 (own_pkr z15).1 z173); (let z279 : List Int32 := (own_sts (List.getD (own_pkr z15).2.1 (z74).toNatClampNeg (0 : Int32)) (List.getD (own_pkr z15).2.2.1 (z74).toNatClampNeg (0 : Int32)) (List.getD (own_pkr z15).2.2.2 (z74).toNatClampNeg (0 : Int64)) (own_pkr z15).1 z191 (z78).toNatClampNeg (0 : Int32) [(-7 : Int32), (-7 : Int32), (-7 : Int32)]); (let z283 : Bool := (if (0 : Int32) < z78 then (if (List.getD z279 ((0 : Int32)).toNatClampNeg (0 : Int32)) = (List.getD z40 (z74).toNatClampNeg (0 : Int32)) then true else false) else (if (List.getD z279 ((0 : Int32)).toNatClampNeg (0 : Int32)) = (-7 : Int32) then true else false)); (let z287 : Bool := (if (1 : Int32) < z78 then (if (List.getD z279 ((1 : Int32)).toNatClampNeg (0 : Int32)) = (List.getD z70 (z74).toNatClampNeg (0 : Int32)) then true else false) else (if (List.getD z279 ((1 : Int32)).toNatClampNeg (0 : Int32)) = (-7 : Int32) then true else false)); (let z292 : Bool := (if (List.getD z279 ((2 : Int32)).toNatClampNeg (0 : Int32)) = (-7 : Int32) then true else false); (let z296 : Bool := (if z283 = true then (if z287 = true then (if z292 = true then true else false) else false) else false); z296))))))))))) := let_of (b := fun (z70 : List Int32) => ((let z74 : Int32 := ((p5 &&& (2147483647 : Int32)) % (3 : Int32)); (let z78 : Int32 := (f2 (2 : Int32) ((((p5).toUInt32 >>> ((4 : Int32) &&& 31).toUInt32).toInt32) &&& (3 : Int32))); (let z133 : Int32 := (f7 ((own_pkr z15).1)); (let z173 : List Int64 := (own_packr z40 (own_pkr z15).2.1 (own_pkr z15).2.2.1 (0 : Int32) (own_pkr z15).1 (List.replicate (((2 : Int32) * z133)).toNatClampNeg (0 : Int64))); (let z191 : List Int64 := (own_packr z70 (own_pkr z15).2.1 (own_pkr z15).2.2.1 z133 (own_pkr z15).1 z173); (let z279 : List Int32 := (own_sts (List.getD (own_pkr z15).2.1 (z74).toNatClampNeg (0 : Int32)) (List.getD (own_pkr z15).2.2.1 (z74).toNatClampNeg (0 : Int32)) (List.getD (own_pkr z15).2.2.2 (z74).toNatClampNeg (0 : Int64)) (own_pkr z15).1 z191 (z78).toNatClampNeg (0 : Int32) [(-7 : Int32), (-7 : Int32), (-7 : Int32)]); (let z283 : Bool := (if (0 : Int32) < z78 then (if (List.getD z279 ((0 : Int32)).toNatClampNeg (0 : Int32)) = (List.getD z40 (z74).toNatClampNeg (0 : Int32)) then true else false) else (if (List.getD z279 ((0 : Int32)).toNatClampNeg (0 : Int32)) = (-7 : Int32) then true else false)); (let z287 : Bool := (if (1 : Int32) < z78 then (if (List.getD z279 ((1 : Int32)).toNatClampNeg (0 : Int32)) = (List.getD z70 (z74).toNatClampNeg (0 : Int32)) then true else false) else (if (List.getD z279 ((1 : Int32)).toNatClampNeg (0 : Int32)) = (-7 : Int32) then true else false)); (let z292 : Bool := (if (List.getD z279 ((2 : Int32)).toNatClampNeg (0 : Int32)) = (-7 : Int32) then true else false); (let z296 : Bool := (if z283 = true then (if z287 = true then (if z292 = true then true else false) else false) else false); z296)))))))))))) hz70 r42; exact q0) | (subst hz70; exact r42)
        show Go p.tables e below (P0 Z p0 p1 p2 p3 p4 p5 h0 n0 s) (T64.setTop (mkF m 90 #[.val (.int p0), .val (.int p1), .val (.int p2), .val (.long p3), .second, .val (.long p4), .second, .val (.int p5), .val (.ref b1), .val (.ref b18), .val (.ref b43), .unset, .unset, .unset, .unset, .unset, .unset, .unset, .unset, .unset, .unset] []))
        refine Go.back (fun t k => XS.iload Y64.here hx rfl (hb hby at_90) rfl  k) ?_
        show Go p.tables e below (P0 Z p0 p1 p2 p3 p4 p5 h0 n0 s) (T64.setTop (mkF m 92 #[.val (.int p0), .val (.int p1), .val (.int p2), .val (.long p3), .second, .val (.long p4), .second, .val (.int p5), .val (.ref b1), .val (.ref b18), .val (.ref b43), .unset, .unset, .unset, .unset, .unset, .unset, .unset, .unset, .unset, .unset] [(.int p5)]))
        refine Go.back (fun t k => Y64.ldcInt hx hown (mvT hZ (hw _ (List.mem_of_getElem? (i := 6) rfl))) (g := (mkF m 92 #[.val (.int p0), .val (.int p1), .val (.int p2), .val (.long p3), .second, .val (.long p4), .second, .val (.int p5), .val (.ref b1), .val (.ref b18), .val (.ref b43), .unset, .unset, .unset, .unset, .unset, .unset, .unset, .unset, .unset, .unset] [(.int p5)])) rfl (hb hby at_92) t k) ?_
        show Go p.tables e below (P0 Z p0 p1 p2 p3 p4 p5 h0 n0 s) (T64.setTop (mkF m 94 #[.val (.int p0), .val (.int p1), .val (.int p2), .val (.long p3), .second, .val (.long p4), .second, .val (.int p5), .val (.ref b1), .val (.ref b18), .val (.ref b43), .unset, .unset, .unset, .unset, .unset, .unset, .unset, .unset, .unset, .unset] [(.int (2147483647 : Int32)), (.int p5)]))
        refine Go.back (fun t k => XS.iand Y64.here hx rfl (hb hby at_94) rfl k) ?_
        show Go p.tables e below (P0 Z p0 p1 p2 p3 p4 p5 h0 n0 s) (T64.setTop (mkF m 95 #[.val (.int p0), .val (.int p1), .val (.int p2), .val (.long p3), .second, .val (.long p4), .second, .val (.int p5), .val (.ref b1), .val (.ref b18), .val (.ref b43), .unset, .unset, .unset, .unset, .unset, .unset, .unset, .unset, .unset, .unset] [(.int (p5 &&& (2147483647 : Int32)))]))
        refine Go.back (fun t k => XS.iconst Y64.here hx rfl (hb hby at_95) k) ?_
        show Go p.tables e below (P0 Z p0 p1 p2 p3 p4 p5 h0 n0 s) (T64.setTop (mkF m 96 #[.val (.int p0), .val (.int p1), .val (.int p2), .val (.long p3), .second, .val (.long p4), .second, .val (.int p5), .val (.ref b1), .val (.ref b18), .val (.ref b43), .unset, .unset, .unset, .unset, .unset, .unset, .unset, .unset, .unset, .unset] [(.int (3 : Int32)), (.int (p5 &&& (2147483647 : Int32)))]))
        refine Go.back (fun t k => iremM Y64 hx rfl (hb hby at_96) rfl (by decide) k) ?_
        show Go p.tables e below (P0 Z p0 p1 p2 p3 p4 p5 h0 n0 s) (T64.setTop (mkF m 97 #[.val (.int p0), .val (.int p1), .val (.int p2), .val (.long p3), .second, .val (.long p4), .second, .val (.int p5), .val (.ref b1), .val (.ref b18), .val (.ref b43), .unset, .unset, .unset, .unset, .unset, .unset, .unset, .unset, .unset, .unset] [(.int ((p5 &&& (2147483647 : Int32)) % (3 : Int32)))]))
        refine Go.back (fun t k => XS.istore Y64.here hx rfl (hb hby at_97) rfl (l' := #[.val (.int p0), .val (.int p1), .val (.int p2), .val (.long p3), .second, .val (.long p4), .second, .val (.int p5), .val (.ref b1), .val (.ref b18), .val (.ref b43), .val (.int ((p5 &&& (2147483647 : Int32)) % (3 : Int32))), .unset, .unset, .unset, .unset, .unset, .unset, .unset, .unset, .unset]) rfl k) ?_
        show Go p.tables e below (P0 Z p0 p1 p2 p3 p4 p5 h0 n0 s) (T64.setTop (mkF m 99 #[.val (.int p0), .val (.int p1), .val (.int p2), .val (.long p3), .second, .val (.long p4), .second, .val (.int p5), .val (.ref b1), .val (.ref b18), .val (.ref b43), .val (.int ((p5 &&& (2147483647 : Int32)) % (3 : Int32))), .unset, .unset, .unset, .unset, .unset, .unset, .unset, .unset, .unset] []))
        have J73 : ∀ (z74 : Int32) (hz74 : z74 = ((p5 &&& (2147483647 : Int32)) % (3 : Int32))), Go p.tables e below (P0 Z p0 p1 p2 p3 p4 p5 h0 n0 s) (T64.setTop (mkF m 99 #[.val (.int p0), .val (.int p1), .val (.int p2), .val (.long p3), .second, .val (.long p4), .second, .val (.int p5), .val (.ref b1), .val (.ref b18), .val (.ref b43), .val (.int z74), .unset, .unset, .unset, .unset, .unset, .unset, .unset, .unset, .unset] [])) := by
          intro z74 hz74
          have r75 : f0 p0 p1 p2 p3 p4 p5 = (let z78 : Int32 := (f2 (2 : Int32) ((((p5).toUInt32 >>> ((4 : Int32) &&& 31).toUInt32).toInt32) &&& (3 : Int32))); (let z133 : Int32 := (f7 ((own_pkr z15).1)); (let z173 : List Int64 := (own_packr z40 (own_pkr z15).2.1 (own_pkr z15).2.2.1 (0 : Int32) (own_pkr z15).1 (List.replicate (((2 : Int32) * z133)).toNatClampNeg (0 : Int64))); (let z191 : List Int64 := (own_packr z70 (own_pkr z15).2.1 (own_pkr z15).2.2.1 z133 (own_pkr z15).1 z173); (let z279 : List Int32 := (own_sts (List.getD (own_pkr z15).2.1 (z74).toNatClampNeg (0 : Int32)) (List.getD (own_pkr z15).2.2.1 (z74).toNatClampNeg (0 : Int32)) (List.getD (own_pkr z15).2.2.2 (z74).toNatClampNeg (0 : Int64)) (own_pkr z15).1 z191 (z78).toNatClampNeg (0 : Int32) [(-7 : Int32), (-7 : Int32), (-7 : Int32)]); (let z283 : Bool := (if (0 : Int32) < z78 then (if (List.getD z279 ((0 : Int32)).toNatClampNeg (0 : Int32)) = (List.getD z40 (z74).toNatClampNeg (0 : Int32)) then true else false) else (if (List.getD z279 ((0 : Int32)).toNatClampNeg (0 : Int32)) = (-7 : Int32) then true else false)); (let z287 : Bool := (if (1 : Int32) < z78 then (if (List.getD z279 ((1 : Int32)).toNatClampNeg (0 : Int32)) = (List.getD z70 (z74).toNatClampNeg (0 : Int32)) then true else false) else (if (List.getD z279 ((1 : Int32)).toNatClampNeg (0 : Int32)) = (-7 : Int32) then true else false)); (let z292 : Bool := (if (List.getD z279 ((2 : Int32)).toNatClampNeg (0 : Int32)) = (-7 : Int32) then true else false); (let z296 : Bool := (if z283 = true then (if z287 = true then (if z292 = true then true else false) else false) else false); z296))))))))) := by first | (have q0 : f0 p0 p1 p2 p3 p4 p5 = ((let z78 : Int32 := (f2 (2 : Int32) ((((p5).toUInt32 >>> ((4 : Int32) &&& 31).toUInt32).toInt32) &&& (3 : Int32))); (let z133 : Int32 := (f7 ((own_pkr z15).1)); (let z173 : List Int64 := (own_packr z40 (own_pkr z15).2.1 (own_pkr z15).2.2.1 (0 : Int32) (own_pkr z15).1 (List.replicate (((2 : Int32) * z133)).toNatClampNeg (0 : Int64))); (let z191 : List Int64 := (own_packr z70 (own_pkr z15).2.1 (own_pkr z15).2.2.1 z133 (own_pkr z15).1 z173); (let z279 : List Int32 := (own_sts (List.getD (own_pkr z15).2.1 (z74).toNatClampNeg (0 : Int32)) (List.getD (own_pkr z15).2.2.1 (z74).toNatClampNeg (0 : Int32)) (List.getD (own_pkr z15).2.2.2 (z74).toNatClampNeg (0 : Int64)) (own_pkr z15).1 z191 (z78).toNatClampNeg (0 : Int32) [(-7 : Int32), (-7 : Int32), (-7 : Int32)]); (let z283 : Bool := (if (0 : Int32) < z78 then (if (List.getD z279 ((0 : Int32)).toNatClampNeg (0 : Int32)) = (List.getD z40 (z74).toNatClampNeg (0 : Int32)) then true else false) else (if (List.getD z279 ((0 : Int32)).toNatClampNeg (0 : Int32)) = (-7 : Int32) then true else false)); (let z287 : Bool := (if (1 : Int32) < z78 then (if (List.getD z279 ((1 : Int32)).toNatClampNeg (0 : Int32)) = (List.getD z70 (z74).toNatClampNeg (0 : Int32)) then true else false) else (if (List.getD z279 ((1 : Int32)).toNatClampNeg (0 : Int32)) = (-7 : Int32) then true else false)); (let z292 : Bool := (if (List.getD z279 ((2 : Int32)).toNatClampNeg (0 : Int32)) = (-7 : Int32) then true else false); (let z296 : Bool := (if z283 = true then (if z287 = true then (if z292 = true then true else false) else false) else false); z296)))))))))) := let_of (b := fun (z74 : Int32) => ((let z78 : Int32 := (f2 (2 : Int32) ((((p5).toUInt32 >>> ((4 : Int32) &&& 31).toUInt32).toInt32) &&& (3 : Int32))); (let z133 : Int32 := (f7 ((own_pkr z15).1)); (let z173 : List Int64 := (own_packr z40 (own_pkr z15).2.1 (own_pkr z15).2.2.1 (0 : Int32) (own_pkr z15).1 (List.replicate (((2 : Int32) * z133)).toNatClampNeg (0 : Int64))); (let z191 : List Int64 := (own_packr z70 (own_pkr z15).2.1 (own_pkr z15).2.2.1 z133 (own_pkr z15).1 z173); (let z279 : List Int32 := (own_sts (List.getD (own_pkr z15).2.1 (z74).toNatClampNeg (0 : Int32)) (List.getD (own_pkr z15).2.2.1 (z74).toNatClampNeg (0 : Int32)) (List.getD (own_pkr z15).2.2.2 (z74).toNatClampNeg (0 : Int64)) (own_pkr z15).1 z191 (z78).toNatClampNeg (0 : Int32) [(-7 : Int32), (-7 : Int32), (-7 : Int32)]); (let z283 : Bool := (if (0 : Int32) < z78 then (if (List.getD z279 ((0 : Int32)).toNatClampNeg (0 : Int32)) = (List.getD z40 (z74).toNatClampNeg (0 : Int32)) then true else false) else (if (List.getD z279 ((0 : Int32)).toNatClampNeg (0 : Int32)) = (-7 : Int32) then true else false)); (let z287 : Bool := (if (1 : Int32) < z78 then (if (List.getD z279 ((1 : Int32)).toNatClampNeg (0 : Int32)) = (List.getD z70 (z74).toNatClampNeg (0 : Int32)) then true else false) else (if (List.getD z279 ((1 : Int32)).toNatClampNeg (0 : Int32)) = (-7 : Int32) then true else false)); (let z292 : Bool := (if (List.getD z279 ((2 : Int32)).toNatClampNeg (0 : Int32)) = (-7 : Int32) then true else false); (let z296 : Bool := (if z283 = true then (if z287 = true then (if z292 = true then true else false) else false) else false); z296))))))))))) hz74 r72; exact q0) | (subst hz74; exact r72)
          show Go p.tables e below (P0 Z p0 p1 p2 p3 p4 p5 h0 n0 s) (T64.setTop (mkF m 99 #[.val (.int p0), .val (.int p1), .val (.int p2), .val (.long p3), .second, .val (.long p4), .second, .val (.int p5), .val (.ref b1), .val (.ref b18), .val (.ref b43), .val (.int z74), .unset, .unset, .unset, .unset, .unset, .unset, .unset, .unset, .unset] []))
          refine Go.back (fun t k => XS.iconst Y64.here hx rfl (hb hby at_99) k) ?_
          show Go p.tables e below (P0 Z p0 p1 p2 p3 p4 p5 h0 n0 s) (T64.setTop (mkF m 100 #[.val (.int p0), .val (.int p1), .val (.int p2), .val (.long p3), .second, .val (.long p4), .second, .val (.int p5), .val (.ref b1), .val (.ref b18), .val (.ref b43), .val (.int z74), .unset, .unset, .unset, .unset, .unset, .unset, .unset, .unset, .unset] [(.int (2 : Int32))]))
          refine Go.back (fun t k => XS.iload Y64.here hx rfl (hb hby at_100) rfl  k) ?_
          show Go p.tables e below (P0 Z p0 p1 p2 p3 p4 p5 h0 n0 s) (T64.setTop (mkF m 102 #[.val (.int p0), .val (.int p1), .val (.int p2), .val (.long p3), .second, .val (.long p4), .second, .val (.int p5), .val (.ref b1), .val (.ref b18), .val (.ref b43), .val (.int z74), .unset, .unset, .unset, .unset, .unset, .unset, .unset, .unset, .unset] [(.int p5), (.int (2 : Int32))]))
          refine Go.back (fun t k => XS.iconst Y64.here hx rfl (hb hby at_102) k) ?_
          show Go p.tables e below (P0 Z p0 p1 p2 p3 p4 p5 h0 n0 s) (T64.setTop (mkF m 103 #[.val (.int p0), .val (.int p1), .val (.int p2), .val (.long p3), .second, .val (.long p4), .second, .val (.int p5), .val (.ref b1), .val (.ref b18), .val (.ref b43), .val (.int z74), .unset, .unset, .unset, .unset, .unset, .unset, .unset, .unset, .unset] [(.int (4 : Int32)), (.int p5), (.int (2 : Int32))]))
          refine Go.back (fun t k => XS.iushr Y64.here hx rfl (hb hby at_103) rfl k) ?_
          show Go p.tables e below (P0 Z p0 p1 p2 p3 p4 p5 h0 n0 s) (T64.setTop (mkF m 104 #[.val (.int p0), .val (.int p1), .val (.int p2), .val (.long p3), .second, .val (.long p4), .second, .val (.int p5), .val (.ref b1), .val (.ref b18), .val (.ref b43), .val (.int z74), .unset, .unset, .unset, .unset, .unset, .unset, .unset, .unset, .unset] [(.int (((p5).toUInt32 >>> ((4 : Int32) &&& 31).toUInt32).toInt32)), (.int (2 : Int32))]))
          refine Go.back (fun t k => XS.iconst Y64.here hx rfl (hb hby at_104) k) ?_
          show Go p.tables e below (P0 Z p0 p1 p2 p3 p4 p5 h0 n0 s) (T64.setTop (mkF m 105 #[.val (.int p0), .val (.int p1), .val (.int p2), .val (.long p3), .second, .val (.long p4), .second, .val (.int p5), .val (.ref b1), .val (.ref b18), .val (.ref b43), .val (.int z74), .unset, .unset, .unset, .unset, .unset, .unset, .unset, .unset, .unset] [(.int (3 : Int32)), (.int (((p5).toUInt32 >>> ((4 : Int32) &&& 31).toUInt32).toInt32)), (.int (2 : Int32))]))
          refine Go.back (fun t k => XS.iand Y64.here hx rfl (hb hby at_105) rfl k) ?_
          show Go p.tables e below (P0 Z p0 p1 p2 p3 p4 p5 h0 n0 s) (T64.setTop (mkF m 106 #[.val (.int p0), .val (.int p1), .val (.int p2), .val (.long p3), .second, .val (.long p4), .second, .val (.int p5), .val (.ref b1), .val (.ref b18), .val (.ref b43), .val (.int z74), .unset, .unset, .unset, .unset, .unset, .unset, .unset, .unset, .unset] [(.int ((((p5).toUInt32 >>> ((4 : Int32) &&& 31).toUInt32).toInt32) &&& (3 : Int32))), (.int (2 : Int32))]))
          obtain ⟨_, _, ⟨T76, L76, k76, n76⟩, -, X76, ⟨Lc76, hQ76, l76, y76, z76⟩, st76⟩ := Jvm.LawKit.callS Y64 hx (y := (⟨"java/lang/Math", "min", "(II)I"⟩ : MethodName)) hown (mvT hZ (hw _ (List.mem_of_getElem? (i := 7) rfl))) (mvT hZ (hw _ (List.mem_of_getElem? (i := 8) rfl))) (mvT hZ (hw _ (List.mem_of_getElem? (i := 9) rfl))) (mvT hZ (hw _ (List.mem_of_getElem? (i := 10) rfl))) (by decide) (backOf (W := 0) (rm2 l Z a0 hw [] (2 : Int32) ((((p5).toUInt32 >>> ((4 : Int32) &&& 31).toUInt32).toInt32) &&& (3 : Int32)) h64 n0) hZ (hw _ (List.mem_of_getElem? (i := 10) rfl)) (hw _ (List.mem_of_getElem? (i := 9) rfl)) (by decide) (by decide)) (g := (mkF m 106 #[.val (.int p0), .val (.int p1), .val (.int p2), .val (.long p3), .second, .val (.long p4), .second, .val (.int p5), .val (.ref b1), .val (.ref b18), .val (.ref b43), .val (.int z74), .unset, .unset, .unset, .unset, .unset, .unset, .unset, .unset, .unset] [(.int ((((p5).toUInt32 >>> ((4 : Int32) &&& 31).toUInt32).toInt32) &&& (3 : Int32))), (.int (2 : Int32))])) rfl (by rw [hml]; rfl) (argsL := [(.int (2 : Int32)), (.int ((((p5).toUInt32 >>> ((4 : Int32) &&& 31).toUInt32).toInt32) &&& (3 : Int32)))]) (rest := []) (lenOf pd_0 rfl) rfl (by show 2 * 0 + _ ≤ _; exact Nat.le_of_eq rfl) (hb hby at_106) (fun _ _ => ⟨rfl, e64, (by decide : 3 + 0 ≤ _), (by decide : 9 + 0 ≤ _)⟩)
          dsimp only [Pt.U, Pt.locs, Pt.cells, Pt.slots] at X76 l76 y76 z76 st76 hQ76
          subst l76 y76 z76
          obtain ⟨rfl, N76q, e76⟩ := hQ76
          obtain ⟨Lo76, Y76, N76⟩ := pk X76 (Fr.app N64 N76q)
          refine Go.back st76 ?_
          show Go p.tables e below (P0 Z p0 p1 p2 p3 p4 p5 h0 n0 s) (T76.setTop (mkF m 109 #[.val (.int p0), .val (.int p1), .val (.int p2), .val (.long p3), .second, .val (.long p4), .second, .val (.int p5), .val (.ref b1), .val (.ref b18), .val (.ref b43), .val (.int z74), .unset, .unset, .unset, .unset, .unset, .unset, .unset, .unset, .unset] [(.int (f2 (2 : Int32) ((((p5).toUInt32 >>> ((4 : Int32) &&& 31).toUInt32).toInt32) &&& (3 : Int32))))]))
          refine Go.back (fun t k => XS.istore Y76.here hx rfl (hb hby at_109) rfl (l' := #[.val (.int p0), .val (.int p1), .val (.int p2), .val (.long p3), .second, .val (.long p4), .second, .val (.int p5), .val (.ref b1), .val (.ref b18), .val (.ref b43), .val (.int z74), .val (.int (f2 (2 : Int32) ((((p5).toUInt32 >>> ((4 : Int32) &&& 31).toUInt32).toInt32) &&& (3 : Int32)))), .unset, .unset, .unset, .unset, .unset, .unset, .unset, .unset]) rfl k) ?_
          show Go p.tables e below (P0 Z p0 p1 p2 p3 p4 p5 h0 n0 s) (T76.setTop (mkF m 111 #[.val (.int p0), .val (.int p1), .val (.int p2), .val (.long p3), .second, .val (.long p4), .second, .val (.int p5), .val (.ref b1), .val (.ref b18), .val (.ref b43), .val (.int z74), .val (.int (f2 (2 : Int32) ((((p5).toUInt32 >>> ((4 : Int32) &&& 31).toUInt32).toInt32) &&& (3 : Int32)))), .unset, .unset, .unset, .unset, .unset, .unset, .unset, .unset] []))
          have J77 : ∀ (z78 : Int32) (hz78 : z78 = (f2 (2 : Int32) ((((p5).toUInt32 >>> ((4 : Int32) &&& 31).toUInt32).toInt32) &&& (3 : Int32)))), Go p.tables e below (P0 Z p0 p1 p2 p3 p4 p5 h0 n0 s) (T76.setTop (mkF m 111 #[.val (.int p0), .val (.int p1), .val (.int p2), .val (.long p3), .second, .val (.long p4), .second, .val (.int p5), .val (.ref b1), .val (.ref b18), .val (.ref b43), .val (.int z74), .val (.int z78), .unset, .unset, .unset, .unset, .unset, .unset, .unset, .unset] [])) := by
            intro z78 hz78
            have r79 : f0 p0 p1 p2 p3 p4 p5 = (let z133 : Int32 := (f7 ((own_pkr z15).1)); (let z173 : List Int64 := (own_packr z40 (own_pkr z15).2.1 (own_pkr z15).2.2.1 (0 : Int32) (own_pkr z15).1 (List.replicate (((2 : Int32) * z133)).toNatClampNeg (0 : Int64))); (let z191 : List Int64 := (own_packr z70 (own_pkr z15).2.1 (own_pkr z15).2.2.1 z133 (own_pkr z15).1 z173); (let z279 : List Int32 := (own_sts (List.getD (own_pkr z15).2.1 (z74).toNatClampNeg (0 : Int32)) (List.getD (own_pkr z15).2.2.1 (z74).toNatClampNeg (0 : Int32)) (List.getD (own_pkr z15).2.2.2 (z74).toNatClampNeg (0 : Int64)) (own_pkr z15).1 z191 (z78).toNatClampNeg (0 : Int32) [(-7 : Int32), (-7 : Int32), (-7 : Int32)]); (let z283 : Bool := (if (0 : Int32) < z78 then (if (List.getD z279 ((0 : Int32)).toNatClampNeg (0 : Int32)) = (List.getD z40 (z74).toNatClampNeg (0 : Int32)) then true else false) else (if (List.getD z279 ((0 : Int32)).toNatClampNeg (0 : Int32)) = (-7 : Int32) then true else false)); (let z287 : Bool := (if (1 : Int32) < z78 then (if (List.getD z279 ((1 : Int32)).toNatClampNeg (0 : Int32)) = (List.getD z70 (z74).toNatClampNeg (0 : Int32)) then true else false) else (if (List.getD z279 ((1 : Int32)).toNatClampNeg (0 : Int32)) = (-7 : Int32) then true else false)); (let z292 : Bool := (if (List.getD z279 ((2 : Int32)).toNatClampNeg (0 : Int32)) = (-7 : Int32) then true else false); (let z296 : Bool := (if z283 = true then (if z287 = true then (if z292 = true then true else false) else false) else false); z296)))))))) := by first | (have q0 : f0 p0 p1 p2 p3 p4 p5 = ((let z133 : Int32 := (f7 ((own_pkr z15).1)); (let z173 : List Int64 := (own_packr z40 (own_pkr z15).2.1 (own_pkr z15).2.2.1 (0 : Int32) (own_pkr z15).1 (List.replicate (((2 : Int32) * z133)).toNatClampNeg (0 : Int64))); (let z191 : List Int64 := (own_packr z70 (own_pkr z15).2.1 (own_pkr z15).2.2.1 z133 (own_pkr z15).1 z173); (let z279 : List Int32 := (own_sts (List.getD (own_pkr z15).2.1 (z74).toNatClampNeg (0 : Int32)) (List.getD (own_pkr z15).2.2.1 (z74).toNatClampNeg (0 : Int32)) (List.getD (own_pkr z15).2.2.2 (z74).toNatClampNeg (0 : Int64)) (own_pkr z15).1 z191 (z78).toNatClampNeg (0 : Int32) [(-7 : Int32), (-7 : Int32), (-7 : Int32)]); (let z283 : Bool := (if (0 : Int32) < z78 then (if (List.getD z279 ((0 : Int32)).toNatClampNeg (0 : Int32)) = (List.getD z40 (z74).toNatClampNeg (0 : Int32)) then true else false) else (if (List.getD z279 ((0 : Int32)).toNatClampNeg (0 : Int32)) = (-7 : Int32) then true else false)); (let z287 : Bool := (if (1 : Int32) < z78 then (if (List.getD z279 ((1 : Int32)).toNatClampNeg (0 : Int32)) = (List.getD z70 (z74).toNatClampNeg (0 : Int32)) then true else false) else (if (List.getD z279 ((1 : Int32)).toNatClampNeg (0 : Int32)) = (-7 : Int32) then true else false)); (let z292 : Bool := (if (List.getD z279 ((2 : Int32)).toNatClampNeg (0 : Int32)) = (-7 : Int32) then true else false); (let z296 : Bool := (if z283 = true then (if z287 = true then (if z292 = true then true else false) else false) else false); z296))))))))) := let_of (b := fun (z78 : Int32) => ((let z133 : Int32 := (f7 ((own_pkr z15).1)); (let z173 : List Int64 := (own_packr z40 (own_pkr z15).2.1 (own_pkr z15).2.2.1 (0 : Int32) (own_pkr z15).1 (List.replicate (((2 : Int32) * z133)).toNatClampNeg (0 : Int64))); (let z191 : List Int64 := (own_packr z70 (own_pkr z15).2.1 (own_pkr z15).2.2.1 z133 (own_pkr z15).1 z173); (let z279 : List Int32 := (own_sts (List.getD (own_pkr z15).2.1 (z74).toNatClampNeg (0 : Int32)) (List.getD (own_pkr z15).2.2.1 (z74).toNatClampNeg (0 : Int32)) (List.getD (own_pkr z15).2.2.2 (z74).toNatClampNeg (0 : Int64)) (own_pkr z15).1 z191 (z78).toNatClampNeg (0 : Int32) [(-7 : Int32), (-7 : Int32), (-7 : Int32)]); (let z283 : Bool := (if (0 : Int32) < z78 then (if (List.getD z279 ((0 : Int32)).toNatClampNeg (0 : Int32)) = (List.getD z40 (z74).toNatClampNeg (0 : Int32)) then true else false) else (if (List.getD z279 ((0 : Int32)).toNatClampNeg (0 : Int32)) = (-7 : Int32) then true else false)); (let z287 : Bool := (if (1 : Int32) < z78 then (if (List.getD z279 ((1 : Int32)).toNatClampNeg (0 : Int32)) = (List.getD z70 (z74).toNatClampNeg (0 : Int32)) then true else false) else (if (List.getD z279 ((1 : Int32)).toNatClampNeg (0 : Int32)) = (-7 : Int32) then true else false)); (let z292 : Bool := (if (List.getD z279 ((2 : Int32)).toNatClampNeg (0 : Int32)) = (-7 : Int32) then true else false); (let z296 : Bool := (if z283 = true then (if z287 = true then (if z292 = true then true else false) else false) else false); z296)))))))))) hz78 r75; exact q0) | (subst hz78; exact r75)
            show Go p.tables e below (P0 Z p0 p1 p2 p3 p4 p5 h0 n0 s) (T76.setTop (mkF m 111 #[.val (.int p0), .val (.int p1), .val (.int p2), .val (.long p3), .second, .val (.long p4), .second, .val (.int p5), .val (.ref b1), .val (.ref b18), .val (.ref b43), .val (.int z74), .val (.int z78), .unset, .unset, .unset, .unset, .unset, .unset, .unset, .unset] []))
            obtain ⟨T80, h80, X80, e80, E80, A80, D80, -, st80⟩ := newO Y76 hx hZ hown (hw _ (List.mem_of_getElem? (i := 11) rfl)) (hw _ (List.mem_of_getElem? (i := 12) rfl)) (hw _ (List.mem_of_getElem? (i := 13) rfl)) e76 (g := (mkF m 111 #[.val (.int p0), .val (.int p1), .val (.int p2), .val (.long p3), .second, .val (.long p4), .second, .val (.int p5), .val (.ref b1), .val (.ref b18), .val (.ref b43), .val (.int z74), .val (.int z78), .unset, .unset, .unset, .unset, .unset, .unset, .unset, .unset] [])) rfl (hb hby at_111) (by decide) (by decide)
            obtain ⟨b80, g80⟩ : ∃ z, z = h64.size := ⟨_, rfl⟩
            rw [← g80] at A80 D80 st80
            have ne81 : b1 ≠ b80 := Nat.ne_of_lt (Nat.lt_of_lt_of_le F66.lt (Nat.le_of_eq g80.symm))
            have ne82 : b18 ≠ b80 := Nat.ne_of_lt (Nat.lt_of_lt_of_le F67.lt (Nat.le_of_eq g80.symm))
            have ne83 : b43 ≠ b80 := Nat.ne_of_lt (Nat.lt_of_lt_of_le F71.lt (Nat.le_of_eq g80.symm))
            have g84 : n0 ≤ b80 := Nat.le_trans F65 (Nat.le_of_eq g80.symm)
            have F85 : n0 ≤ h80.size := Nat.le_trans F65 E80.1
            have F86 : ArL Z h80 b1 .int (List.map Value.int z15) := F66.ext E80
            have F87 : ArL Z h80 b18 .int (List.map Value.int z40) := F67.ext E80
            have F88 : ArL Z h80 b43 .int (List.map Value.int z70) := F71.ext E80
            have F89 : Fld Z h80 b80 "com/example/onward/onward/explore/Packing" "word" "[I" .null := D80 (Or.inr (hw _ (List.mem_of_getElem? (i := 21) rfl))) (ty := (.array .int)) (by decide)
            have F90 : Fld Z h80 b80 "com/example/onward/onward/explore/Packing" "shift" "[I" .null := D80 (Or.inr (hw _ (List.mem_of_getElem? (i := 23) rfl))) (ty := (.array .int)) (by decide)
            have F91 : Fld Z h80 b80 "com/example/onward/onward/explore/Packing" "mask" "[J" .null := D80 (Or.inr (hw _ (List.mem_of_getElem? (i := 26) rfl))) (ty := (.array .long)) (by decide)
            have F92 : Fld Z h80 b80 "com/example/onward/onward/explore/Packing" "words" "I" (.int (0 : Int32)) := D80 (Or.inr (hw _ (List.mem_of_getElem? (i := 36) rfl))) (ty := .int) (by decide)
            refine Go.back st80 ?_
            show Go p.tables e below (P0 Z p0 p1 p2 p3 p4 p5 h0 n0 s) (T80.setTop (mkF m 114 #[.val (.int p0), .val (.int p1), .val (.int p2), .val (.long p3), .second, .val (.long p4), .second, .val (.int p5), .val (.ref b1), .val (.ref b18), .val (.ref b43), .val (.int z74), .val (.int z78), .unset, .unset, .unset, .unset, .unset, .unset, .unset, .unset] [(.ref b80)]))
            refine Go.back (fun t k => XS.dup X80.here hx rfl (hb hby at_114) rfl rfl k) ?_
            show Go p.tables e below (P0 Z p0 p1 p2 p3 p4 p5 h0 n0 s) (T80.setTop (mkF m 115 #[.val (.int p0), .val (.int p1), .val (.int p2), .val (.long p3), .second, .val (.long p4), .second, .val (.int p5), .val (.ref b1), .val (.ref b18), .val (.ref b43), .val (.int z74), .val (.int z78), .unset, .unset, .unset, .unset, .unset, .unset, .unset, .unset] [(.ref b80), (.ref b80)]))
            refine Go.back (fun t k => XS.aload X80.here hx rfl (hb hby at_115) rfl rfl  k) ?_
            show Go p.tables e below (P0 Z p0 p1 p2 p3 p4 p5 h0 n0 s) (T80.setTop (mkF m 117 #[.val (.int p0), .val (.int p1), .val (.int p2), .val (.long p3), .second, .val (.long p4), .second, .val (.int p5), .val (.ref b1), .val (.ref b18), .val (.ref b43), .val (.int z74), .val (.int z78), .unset, .unset, .unset, .unset, .unset, .unset, .unset, .unset] [(.ref b1), (.ref b80), (.ref b80)]))
            obtain ⟨_, _, ⟨T93, L93, k93, n93⟩, -, X93, ⟨Lc93, hQ93, l93, y93, z93⟩, st93⟩ := X80.specialBack hx (y := (⟨"com/example/onward/onward/explore/Packing", "<init>", "([I)V"⟩ : MethodName)) rfl hown (mvT hZ (hw _ (List.mem_of_getElem? (i := 14) rfl))) (mvT hZ (hw _ (List.mem_of_getElem? (i := 15) rfl))) (mvT hZ (hw _ (List.mem_of_getElem? (i := 16) rfl))) (by decide) (backOf (W := 1) (rm3 l Z a0 hw [] b80 b1 z15 h80 n0 F85 A80 F89 F90 F91 F92 F86 g84 (Ne.symm ne81) (by rw [hz15]; rfl)) hZ (hw _ (List.mem_of_getElem? (i := 16) rfl)) (hw _ (List.mem_of_getElem? (i := 13) rfl)) (by decide) (by decide)) (g := (mkF m 117 #[.val (.int p0), .val (.int p1), .val (.int p2), .val (.long p3), .second, .val (.long p4), .second, .val (.int p5), .val (.ref b1), .val (.ref b18), .val (.ref b43), .val (.int z74), .val (.int z78), .unset, .unset, .unset, .unset, .unset, .unset, .unset, .unset] [(.ref b1), (.ref b80), (.ref b80)])) rfl (by rw [hml]; rfl) (Steps.refl _) (a := b80) (argsL := [(.ref b1)]) (rest := [(.ref b80)]) (lenOf pd_5 rfl) rfl (by show 2 * 0 + _ ≤ _; exact Nat.le_of_eq rfl) (hb hby at_117) (fun _ _ => ⟨rfl, e80, (by decide : 4 + 3 ≤ _), (by decide : 13 + 9 ≤ _)⟩)
            dsimp only [Pt.U, Pt.locs, Pt.cells, Pt.slots] at X93 l93 y93 z93 st93 hQ93
            subst l93 y93 z93
            obtain ⟨h93, e93⟩ : ∃ z, T93.heap = z := ⟨_, rfl⟩
            rw [e93] at hQ93
            obtain ⟨rfl, N93q, K93, o99, o100, o101, sz102, sz103, sz104, ne105, ne106, ne107, F123, F124, F125, F126, t127, t128, t129, t130⟩ := hQ93
            obtain ⟨Lo93, Y93, N93⟩ := pk X93 (Fr.app N76 N93q)
            have F94 : n0 ≤ h93.size := Nat.le_trans F85 K93.1
            have F95 : ArL Z h93 b1 .int (List.map Value.int z15) := F86.keep K93 (ninS ne81 nin0)
            have F96 : ArL Z h93 b18 .int (List.map Value.int z40) := F87.keep K93 (ninS ne82 nin0)
            have F97 : ArL Z h93 b43 .int (List.map Value.int z70) := F88.keep K93 (ninS ne83 nin0)
            have F98 : Exa Z h93 b80 "com/example/onward/onward/explore/Packing" := A80.keep K93
            have g108 : n0 ≤ o99 := Nat.le_trans F85 sz102
            have ne109 : b1 ≠ o99 := Nat.ne_of_lt (Nat.lt_of_lt_of_le F86.lt sz102)
            have ne110 : b18 ≠ o99 := Nat.ne_of_lt (Nat.lt_of_lt_of_le F87.lt sz102)
            have ne111 : b43 ≠ o99 := Nat.ne_of_lt (Nat.lt_of_lt_of_le F88.lt sz102)
            have ne112 : b80 ≠ o99 := Nat.ne_of_lt (Nat.lt_of_lt_of_le A80.lt sz102)
            have g113 : n0 ≤ o100 := Nat.le_trans F85 sz103
            have ne114 : b1 ≠ o100 := Nat.ne_of_lt (Nat.lt_of_lt_of_le F86.lt sz103)
            have ne115 : b18 ≠ o100 := Nat.ne_of_lt (Nat.lt_of_lt_of_le F87.lt sz103)
            have ne116 : b43 ≠ o100 := Nat.ne_of_lt (Nat.lt_of_lt_of_le F88.lt sz103)
            have ne117 : b80 ≠ o100 := Nat.ne_of_lt (Nat.lt_of_lt_of_le A80.lt sz103)
            have g118 : n0 ≤ o101 := Nat.le_trans F85 sz104
            have ne119 : b1 ≠ o101 := Nat.ne_of_lt (Nat.lt_of_lt_of_le F86.lt sz104)
            have ne120 : b18 ≠ o101 := Nat.ne_of_lt (Nat.lt_of_lt_of_le F87.lt sz104)
            have ne121 : b43 ≠ o101 := Nat.ne_of_lt (Nat.lt_of_lt_of_le F88.lt sz104)
            have ne122 : b80 ≠ o101 := Nat.ne_of_lt (Nat.lt_of_lt_of_le A80.lt sz104)
            refine Go.trans st93 ?_
            show Go p.tables e below (P0 Z p0 p1 p2 p3 p4 p5 h0 n0 s) (T93.setTop (mkF m 120 #[.val (.int p0), .val (.int p1), .val (.int p2), .val (.long p3), .second, .val (.long p4), .second, .val (.int p5), .val (.ref b1), .val (.ref b18), .val (.ref b43), .val (.int z74), .val (.int z78), .unset, .unset, .unset, .unset, .unset, .unset, .unset, .unset] [(.ref b80)]))
            refine Go.back (fun t k => XS.astore Y93.here hx rfl (hb hby at_120) rfl rfl (l' := #[.val (.int p0), .val (.int p1), .val (.int p2), .val (.long p3), .second, .val (.long p4), .second, .val (.int p5), .val (.ref b1), .val (.ref b18), .val (.ref b43), .val (.int z74), .val (.int z78), .val (.ref b80), .unset, .unset, .unset, .unset, .unset, .unset, .unset]) rfl k) ?_
            show Go p.tables e below (P0 Z p0 p1 p2 p3 p4 p5 h0 n0 s) (T93.setTop (mkF m 122 #[.val (.int p0), .val (.int p1), .val (.int p2), .val (.long p3), .second, .val (.long p4), .second, .val (.int p5), .val (.ref b1), .val (.ref b18), .val (.ref b43), .val (.int z74), .val (.int z78), .val (.ref b80), .unset, .unset, .unset, .unset, .unset, .unset, .unset] []))
            refine Go.back (fun t k => XS.aload Y93.here hx rfl (hb hby at_122) rfl rfl  k) ?_
            show Go p.tables e below (P0 Z p0 p1 p2 p3 p4 p5 h0 n0 s) (T93.setTop (mkF m 124 #[.val (.int p0), .val (.int p1), .val (.int p2), .val (.long p3), .second, .val (.long p4), .second, .val (.int p5), .val (.ref b1), .val (.ref b18), .val (.ref b43), .val (.int z74), .val (.int z78), .val (.ref b80), .unset, .unset, .unset, .unset, .unset, .unset, .unset] [(.ref b80)]))
            obtain ⟨cq131, kq131, q131a, q131b, q131c⟩ := isOf hZ e93 F123
            obtain ⟨_, _, ⟨T131, L131, k131, n131⟩, -, X131, ⟨Lc131, hQ131, l131, y131, z131⟩, st131⟩ := Y93.virtualBack hx (y := (⟨"com/example/onward/onward/explore/Packing", "words", "()I"⟩ : MethodName)) (z := (⟨"com/example/onward/onward/explore/Packing", "words", "()I"⟩ : MethodName)) hown (mvT hZ (hw _ (List.mem_of_getElem? (i := 37) rfl))) (mvT hZ (hw _ (List.mem_of_getElem? (i := 38) rfl))) (notFace_of_selects (args := #[]) (mvT hZ (hw _ (List.mem_of_getElem? (i := 40) rfl)))) (mvT hZ (hw _ (List.mem_of_getElem? (i := 40) rfl))) (mvT hZ (hw _ (List.mem_of_getElem? (i := 39) rfl))) (by decide) (backOf (W := 0) (rm7 l Z a0 hw [] b80 ((own_pkr z15).1) h93 n0 F94 t130) hZ (hw _ (List.mem_of_getElem? (i := 41) rfl)) (hw _ (List.mem_of_getElem? (i := 13) rfl)) (by decide) (by decide)) q131a q131c (g := (mkF m 124 #[.val (.int p0), .val (.int p1), .val (.int p2), .val (.long p3), .second, .val (.long p4), .second, .val (.int p5), .val (.ref b1), .val (.ref b18), .val (.ref b43), .val (.int z74), .val (.int z78), .val (.ref b80), .unset, .unset, .unset, .unset, .unset, .unset, .unset] [(.ref b80)])) rfl (by rw [hml]; rfl) (Steps.refl _) (argsL := []) (rest := []) (lenOf pd_6 rfl) rfl (by show 2 * 0 + _ ≤ _; exact Nat.le_of_eq rfl) (hb hby at_124) (fun _ _ => ⟨rfl, e93, (by decide : 7 + 0 ≤ _), (by decide : 22 + 0 ≤ _)⟩)
            dsimp only [Pt.U, Pt.locs, Pt.cells, Pt.slots] at X131 l131 y131 z131 st131 hQ131
            subst l131 y131 z131
            obtain ⟨rfl, N131q, e131⟩ := hQ131
            obtain ⟨Lo131, Y131, N131⟩ := pk X131 (Fr.app N93 N131q)
            refine Go.trans st131 ?_
            show Go p.tables e below (P0 Z p0 p1 p2 p3 p4 p5 h0 n0 s) (T131.setTop (mkF m 127 #[.val (.int p0), .val (.int p1), .val (.int p2), .val (.long p3), .second, .val (.long p4), .second, .val (.int p5), .val (.ref b1), .val (.ref b18), .val (.ref b43), .val (.int z74), .val (.int z78), .val (.ref b80), .unset, .unset, .unset, .unset, .unset, .unset, .unset] [(.int (f7 ((own_pkr z15).1)))]))
            refine Go.back (fun t k => XS.istore Y131.here hx rfl (hb hby at_127) rfl (l' := #[.val (.int p0), .val (.int p1), .val (.int p2), .val (.long p3), .second, .val (.long p4), .second, .val (.int p5), .val (.ref b1), .val (.ref b18), .val (.ref b43), .val (.int z74), .val (.int z78), .val (.ref b80), .val (.int (f7 ((own_pkr z15).1))), .unset, .unset, .unset, .unset, .unset, .unset]) rfl k) ?_
            show Go p.tables e below (P0 Z p0 p1 p2 p3 p4 p5 h0 n0 s) (T131.setTop (mkF m 129 #[.val (.int p0), .val (.int p1), .val (.int p2), .val (.long p3), .second, .val (.long p4), .second, .val (.int p5), .val (.ref b1), .val (.ref b18), .val (.ref b43), .val (.int z74), .val (.int z78), .val (.ref b80), .val (.int (f7 ((own_pkr z15).1))), .unset, .unset, .unset, .unset, .unset, .unset] []))
            have J132 : ∀ (z133 : Int32) (hz133 : z133 = (f7 ((own_pkr z15).1))), Go p.tables e below (P0 Z p0 p1 p2 p3 p4 p5 h0 n0 s) (T131.setTop (mkF m 129 #[.val (.int p0), .val (.int p1), .val (.int p2), .val (.long p3), .second, .val (.long p4), .second, .val (.int p5), .val (.ref b1), .val (.ref b18), .val (.ref b43), .val (.int z74), .val (.int z78), .val (.ref b80), .val (.int z133), .unset, .unset, .unset, .unset, .unset, .unset] [])) := by
              intro z133 hz133
              have r134 : f0 p0 p1 p2 p3 p4 p5 = (let z173 : List Int64 := (own_packr z40 (own_pkr z15).2.1 (own_pkr z15).2.2.1 (0 : Int32) (own_pkr z15).1 (List.replicate (((2 : Int32) * z133)).toNatClampNeg (0 : Int64))); (let z191 : List Int64 := (own_packr z70 (own_pkr z15).2.1 (own_pkr z15).2.2.1 z133 (own_pkr z15).1 z173); (let z279 : List Int32 := (own_sts (List.getD (own_pkr z15).2.1 (z74).toNatClampNeg (0 : Int32)) (List.getD (own_pkr z15).2.2.1 (z74).toNatClampNeg (0 : Int32)) (List.getD (own_pkr z15).2.2.2 (z74).toNatClampNeg (0 : Int64)) (own_pkr z15).1 z191 (z78).toNatClampNeg (0 : Int32) [(-7 : Int32), (-7 : Int32), (-7 : Int32)]); (let z283 : Bool := (if (0 : Int32) < z78 then (if (List.getD z279 ((0 : Int32)).toNatClampNeg (0 : Int32)) = (List.getD z40 (z74).toNatClampNeg (0 : Int32)) then true else false) else (if (List.getD z279 ((0 : Int32)).toNatClampNeg (0 : Int32)) = (-7 : Int32) then true else false)); (let z287 : Bool := (if (1 : Int32) < z78 then (if (List.getD z279 ((1 : Int32)).toNatClampNeg (0 : Int32)) = (List.getD z70 (z74).toNatClampNeg (0 : Int32)) then true else false) else (if (List.getD z279 ((1 : Int32)).toNatClampNeg (0 : Int32)) = (-7 : Int32) then true else false)); (let z292 : Bool := (if (List.getD z279 ((2 : Int32)).toNatClampNeg (0 : Int32)) = (-7 : Int32) then true else false); (let z296 : Bool := (if z283 = true then (if z287 = true then (if z292 = true then true else false) else false) else false); z296))))))) := by first | (have q0 : f0 p0 p1 p2 p3 p4 p5 = ((let z173 : List Int64 := (own_packr z40 (own_pkr z15).2.1 (own_pkr z15).2.2.1 (0 : Int32) (own_pkr z15).1 (List.replicate (((2 : Int32) * z133)).toNatClampNeg (0 : Int64))); (let z191 : List Int64 := (own_packr z70 (own_pkr z15).2.1 (own_pkr z15).2.2.1 z133 (own_pkr z15).1 z173); (let z279 : List Int32 := (own_sts (List.getD (own_pkr z15).2.1 (z74).toNatClampNeg (0 : Int32)) (List.getD (own_pkr z15).2.2.1 (z74).toNatClampNeg (0 : Int32)) (List.getD (own_pkr z15).2.2.2 (z74).toNatClampNeg (0 : Int64)) (own_pkr z15).1 z191 (z78).toNatClampNeg (0 : Int32) [(-7 : Int32), (-7 : Int32), (-7 : Int32)]); (let z283 : Bool := (if (0 : Int32) < z78 then (if (List.getD z279 ((0 : Int32)).toNatClampNeg (0 : Int32)) = (List.getD z40 (z74).toNatClampNeg (0 : Int32)) then true else false) else (if (List.getD z279 ((0 : Int32)).toNatClampNeg (0 : Int32)) = (-7 : Int32) then true else false)); (let z287 : Bool := (if (1 : Int32) < z78 then (if (List.getD z279 ((1 : Int32)).toNatClampNeg (0 : Int32)) = (List.getD z70 (z74).toNatClampNeg (0 : Int32)) then true else false) else (if (List.getD z279 ((1 : Int32)).toNatClampNeg (0 : Int32)) = (-7 : Int32) then true else false)); (let z292 : Bool := (if (List.getD z279 ((2 : Int32)).toNatClampNeg (0 : Int32)) = (-7 : Int32) then true else false); (let z296 : Bool := (if z283 = true then (if z287 = true then (if z292 = true then true else false) else false) else false); z296)))))))) := let_of (b := fun (z133 : Int32) => ((let z173 : List Int64 := (own_packr z40 (own_pkr z15).2.1 (own_pkr z15).2.2.1 (0 : Int32) (own_pkr z15).1 (List.replicate (((2 : Int32) * z133)).toNatClampNeg (0 : Int64))); (let z191 : List Int64 := (own_packr z70 (own_pkr z15).2.1 (own_pkr z15).2.2.1 z133 (own_pkr z15).1 z173); (let z279 : List Int32 := (own_sts (List.getD (own_pkr z15).2.1 (z74).toNatClampNeg (0 : Int32)) (List.getD (own_pkr z15).2.2.1 (z74).toNatClampNeg (0 : Int32)) (List.getD (own_pkr z15).2.2.2 (z74).toNatClampNeg (0 : Int64)) (own_pkr z15).1 z191 (z78).toNatClampNeg (0 : Int32) [(-7 : Int32), (-7 : Int32), (-7 : Int32)]); (let z283 : Bool := (if (0 : Int32) < z78 then (if (List.getD z279 ((0 : Int32)).toNatClampNeg (0 : Int32)) = (List.getD z40 (z74).toNatClampNeg (0 : Int32)) then true else false) else (if (List.getD z279 ((0 : Int32)).toNatClampNeg (0 : Int32)) = (-7 : Int32) then true else false)); (let z287 : Bool := (if (1 : Int32) < z78 then (if (List.getD z279 ((1 : Int32)).toNatClampNeg (0 : Int32)) = (List.getD z70 (z74).toNatClampNeg (0 : Int32)) then true else false) else (if (List.getD z279 ((1 : Int32)).toNatClampNeg (0 : Int32)) = (-7 : Int32) then true else false)); (let z292 : Bool := (if (List.getD z279 ((2 : Int32)).toNatClampNeg (0 : Int32)) = (-7 : Int32) then true else false); (let z296 : Bool := (if z283 = true then (if z287 = true then (if z292 = true then true else false) else false) else false); z296))))))))) hz133 r79; exact q0) | (subst hz133; exact r79)
              show Go p.tables e below (P0 Z p0 p1 p2 p3 p4 p5 h0 n0 s) (T131.setTop (mkF m 129 #[.val (.int p0), .val (.int p1), .val (.int p2), .val (.long p3), .second, .val (.long p4), .second, .val (.int p5), .val (.ref b1), .val (.ref b18), .val (.ref b43), .val (.int z74), .val (.int z78), .val (.ref b80), .val (.int z133), .unset, .unset, .unset, .unset, .unset, .unset] []))
              refine Go.back (fun t k => XS.iconst Y131.here hx rfl (hb hby at_129) k) ?_
              show Go p.tables e below (P0 Z p0 p1 p2 p3 p4 p5 h0 n0 s) (T131.setTop (mkF m 130 #[.val (.int p0), .val (.int p1), .val (.int p2), .val (.long p3), .second, .val (.long p4), .second, .val (.int p5), .val (.ref b1), .val (.ref b18), .val (.ref b43), .val (.int z74), .val (.int z78), .val (.ref b80), .val (.int z133), .unset, .unset, .unset, .unset, .unset, .unset] [(.int (2 : Int32))]))
              refine Go.back (fun t k => XS.iload Y131.here hx rfl (hb hby at_130) rfl  k) ?_
              show Go p.tables e below (P0 Z p0 p1 p2 p3 p4 p5 h0 n0 s) (T131.setTop (mkF m 132 #[.val (.int p0), .val (.int p1), .val (.int p2), .val (.long p3), .second, .val (.long p4), .second, .val (.int p5), .val (.ref b1), .val (.ref b18), .val (.ref b43), .val (.int z74), .val (.int z78), .val (.ref b80), .val (.int z133), .unset, .unset, .unset, .unset, .unset, .unset] [(.int z133), (.int (2 : Int32))]))
              refine Go.back (fun t k => XS.imul Y131.here hx rfl (hb hby at_132) rfl k) ?_
              show Go p.tables e below (P0 Z p0 p1 p2 p3 p4 p5 h0 n0 s) (T131.setTop (mkF m 133 #[.val (.int p0), .val (.int p1), .val (.int p2), .val (.long p3), .second, .val (.long p4), .second, .val (.int p5), .val (.ref b1), .val (.ref b18), .val (.ref b43), .val (.int z74), .val (.int z78), .val (.ref b80), .val (.int z133), .unset, .unset, .unset, .unset, .unset, .unset] [(.int ((2 : Int32) * z133))]))
              obtain ⟨T135, h135, k135, X135, e135, E135, A135, st135⟩ := newP Y131 hx hZ (hw _ (List.mem_of_getElem? (i := 24) rfl)) e131 (g := (mkF m 133 #[.val (.int p0), .val (.int p1), .val (.int p2), .val (.long p3), .second, .val (.long p4), .second, .val (.int p5), .val (.ref b1), .val (.ref b18), .val (.ref b43), .val (.int z74), .val (.int z78), .val (.ref b80), .val (.int z133), .unset, .unset, .unset, .unset, .unset, .unset] [(.int ((2 : Int32) * z133))])) rfl (hb hby at_133) rfl (own_2w_nn hz133) (cap := 4) (own_2w_cap hz133) (by decide) (by decide) (by decide)
              obtain ⟨b135, g135⟩ : ∃ z, z = h93.size := ⟨_, rfl⟩
              rw [← g135] at A135 st135
              have ne136 : b1 ≠ b135 := Nat.ne_of_lt (Nat.lt_of_lt_of_le F95.lt (Nat.le_of_eq g135.symm))
              have ne137 : b18 ≠ b135 := Nat.ne_of_lt (Nat.lt_of_lt_of_le F96.lt (Nat.le_of_eq g135.symm))
              have ne138 : b43 ≠ b135 := Nat.ne_of_lt (Nat.lt_of_lt_of_le F97.lt (Nat.le_of_eq g135.symm))
              have ne139 : b80 ≠ b135 := Nat.ne_of_lt (Nat.lt_of_lt_of_le F123.lt (Nat.le_of_eq g135.symm))
              have ne140 : o99 ≠ b135 := Nat.ne_of_lt (Nat.lt_of_lt_of_le t127.lt (Nat.le_of_eq g135.symm))
              have ne141 : o100 ≠ b135 := Nat.ne_of_lt (Nat.lt_of_lt_of_le t128.lt (Nat.le_of_eq g135.symm))
              have ne142 : o101 ≠ b135 := Nat.ne_of_lt (Nat.lt_of_lt_of_le t129.lt (Nat.le_of_eq g135.symm))
              have g143 : n0 ≤ b135 := Nat.le_trans F94 (Nat.le_of_eq g135.symm)
              have F144 : n0 ≤ h135.size := Nat.le_trans F94 E135.1
              have F145 : ArL Z h135 b1 .int (List.map Value.int z15) := F95.ext E135
              have F146 : ArL Z h135 b18 .int (List.map Value.int z40) := F96.ext E135
              have F147 : ArL Z h135 b43 .int (List.map Value.int z70) := F97.ext E135
              have F148 : Exa Z h135 b80 "com/example/onward/onward/explore/Packing" := F123.ext E135
              have F149 : Fld Z h135 b80 "com/example/onward/onward/explore/Packing" "word" "[I" (.ref o99) := F124.ext E135
              have F150 : Fld Z h135 b80 "com/example/onward/onward/explore/Packing" "shift" "[I" (.ref o100) := F125.ext E135
              have F151 : Fld Z h135 b80 "com/example/onward/onward/explore/Packing" "mask" "[J" (.ref o101) := F126.ext E135
              have F152 : ArL Z h135 o99 .int (List.map Value.int (own_pkr z15).2.1) := t127.ext E135
              have F153 : ArL Z h135 o100 .int (List.map Value.int (own_pkr z15).2.2.1) := t128.ext E135
              have F154 : ArL Z h135 o101 .long (List.map Value.long (own_pkr z15).2.2.2) := t129.ext E135
              have F155 : Fld Z h135 b80 "com/example/onward/onward/explore/Packing" "words" "I" (.int (own_pkr z15).1) := t130.ext E135
              have F156 : ArL Z h135 b135 .long (List.map Value.long (List.replicate (((2 : Int32) * z133)).toNatClampNeg (0 : Int64))) := ArL.newJ (ty := .long) A135 (n := (((2 : Int32) * z133)).toNatClampNeg) rfl
              refine Go.back st135 ?_
              show Go p.tables e below (P0 Z p0 p1 p2 p3 p4 p5 h0 n0 s) (T135.setTop (mkF m 135 #[.val (.int p0), .val (.int p1), .val (.int p2), .val (.long p3), .second, .val (.long p4), .second, .val (.int p5), .val (.ref b1), .val (.ref b18), .val (.ref b43), .val (.int z74), .val (.int z78), .val (.ref b80), .val (.int z133), .unset, .unset, .unset, .unset, .unset, .unset] [(.ref b135)]))
              refine Go.back (fun t k => XS.astore X135.here hx rfl (hb hby at_135) rfl rfl (l' := #[.val (.int p0), .val (.int p1), .val (.int p2), .val (.long p3), .second, .val (.long p4), .second, .val (.int p5), .val (.ref b1), .val (.ref b18), .val (.ref b43), .val (.int z74), .val (.int z78), .val (.ref b80), .val (.int z133), .val (.ref b135), .unset, .unset, .unset, .unset, .unset]) rfl k) ?_
              show Go p.tables e below (P0 Z p0 p1 p2 p3 p4 p5 h0 n0 s) (T135.setTop (mkF m 137 #[.val (.int p0), .val (.int p1), .val (.int p2), .val (.long p3), .second, .val (.long p4), .second, .val (.int p5), .val (.ref b1), .val (.ref b18), .val (.ref b43), .val (.int z74), .val (.int z78), .val (.ref b80), .val (.int z133), .val (.ref b135), .unset, .unset, .unset, .unset, .unset] []))
              refine Go.back (fun t k => XS.aload X135.here hx rfl (hb hby at_137) rfl rfl  k) ?_
              show Go p.tables e below (P0 Z p0 p1 p2 p3 p4 p5 h0 n0 s) (T135.setTop (mkF m 139 #[.val (.int p0), .val (.int p1), .val (.int p2), .val (.long p3), .second, .val (.long p4), .second, .val (.int p5), .val (.ref b1), .val (.ref b18), .val (.ref b43), .val (.int z74), .val (.int z78), .val (.ref b80), .val (.int z133), .val (.ref b135), .unset, .unset, .unset, .unset, .unset] [(.ref b80)]))
              refine Go.back (fun t k => XS.aload X135.here hx rfl (hb hby at_139) rfl rfl  k) ?_
              show Go p.tables e below (P0 Z p0 p1 p2 p3 p4 p5 h0 n0 s) (T135.setTop (mkF m 141 #[.val (.int p0), .val (.int p1), .val (.int p2), .val (.long p3), .second, .val (.long p4), .second, .val (.int p5), .val (.ref b1), .val (.ref b18), .val (.ref b43), .val (.int z74), .val (.int z78), .val (.ref b80), .val (.int z133), .val (.ref b135), .unset, .unset, .unset, .unset, .unset] [(.ref b18), (.ref b80)]))
              refine Go.back (fun t k => XS.aload X135.here hx rfl (hb hby at_141) rfl rfl  k) ?_
              show Go p.tables e below (P0 Z p0 p1 p2 p3 p4 p5 h0 n0 s) (T135.setTop (mkF m 143 #[.val (.int p0), .val (.int p1), .val (.int p2), .val (.long p3), .second, .val (.long p4), .second, .val (.int p5), .val (.ref b1), .val (.ref b18), .val (.ref b43), .val (.int z74), .val (.int z78), .val (.ref b80), .val (.int z133), .val (.ref b135), .unset, .unset, .unset, .unset, .unset] [(.ref b135), (.ref b18), (.ref b80)]))
              refine Go.back (fun t k => XS.iconst X135.here hx rfl (hb hby at_143) k) ?_
              show Go p.tables e below (P0 Z p0 p1 p2 p3 p4 p5 h0 n0 s) (T135.setTop (mkF m 144 #[.val (.int p0), .val (.int p1), .val (.int p2), .val (.long p3), .second, .val (.long p4), .second, .val (.int p5), .val (.ref b1), .val (.ref b18), .val (.ref b43), .val (.int z74), .val (.int z78), .val (.ref b80), .val (.int z133), .val (.ref b135), .unset, .unset, .unset, .unset, .unset] [(.int (0 : Int32)), (.ref b135), (.ref b18), (.ref b80)]))
              obtain ⟨cq157, kq157, q157a, q157b, q157c⟩ := isOf hZ e135 F148
              obtain ⟨_, _, ⟨T157, L157, k157, n157⟩, -, X157, ⟨Lc157, hQ157, l157, y157, z157⟩, st157⟩ := X135.virtualBack hx (y := (⟨"com/example/onward/onward/explore/Packing", "pack", "([I[JI)V"⟩ : MethodName)) (z := (⟨"com/example/onward/onward/explore/Packing", "pack", "([I[JI)V"⟩ : MethodName)) hown (mvT hZ (hw _ (List.mem_of_getElem? (i := 42) rfl))) (mvT hZ (hw _ (List.mem_of_getElem? (i := 43) rfl))) (notFace_of_selects (args := #[]) (mvT hZ (hw _ (List.mem_of_getElem? (i := 45) rfl)))) (mvT hZ (hw _ (List.mem_of_getElem? (i := 45) rfl))) (mvT hZ (hw _ (List.mem_of_getElem? (i := 44) rfl))) (by decide) (backOf (W := 0) (rm8 l Z a0 hw [] b80 b18 b135 (0 : Int32) ((own_pkr z15).1) o99 o100 z40 ((own_pkr z15).2.1) ((own_pkr z15).2.2.1) (List.replicate (((2 : Int32) * z133)).toNatClampNeg (0 : Int64)) h135 n0 F144 F155 F149 F150 F146 F152 F153 F156 g143 ne139 ne137 ne140 ne141 (by rw [hz40]; rfl) (own_pkr_ok _).1 (own_pkr_ok _).2.1 (own_pkr_ok _).2.2.2.2 (own_pq_of0 hz133 (by rw [List.length_replicate]))) hZ (hw _ (List.mem_of_getElem? (i := 46) rfl)) (hw _ (List.mem_of_getElem? (i := 13) rfl)) (by decide) (by decide)) q157a q157c (g := (mkF m 144 #[.val (.int p0), .val (.int p1), .val (.int p2), .val (.long p3), .second, .val (.long p4), .second, .val (.int p5), .val (.ref b1), .val (.ref b18), .val (.ref b43), .val (.int z74), .val (.int z78), .val (.ref b80), .val (.int z133), .val (.ref b135), .unset, .unset, .unset, .unset, .unset] [(.int (0 : Int32)), (.ref b135), (.ref b18), (.ref b80)])) rfl (by rw [hml]; rfl) (Steps.refl _) (argsL := [(.ref b18), (.ref b135), (.int (0 : Int32))]) (rest := []) (lenOf pd_7 rfl) rfl (by show 2 * 0 + _ ≤ _; exact Nat.le_of_eq rfl) (hb hby at_144) (fun _ _ => ⟨rfl, e135, (by decide : 8 + 0 ≤ _), (by decide : 26 + 0 ≤ _)⟩)
              dsimp only [Pt.U, Pt.locs, Pt.cells, Pt.slots] at X157 l157 y157 z157 st157 hQ157
              subst l157 y157 z157
              obtain ⟨h157, e157⟩ : ∃ z, T157.heap = z := ⟨_, rfl⟩
              rw [e157] at hQ157
              obtain ⟨rfl, N157q, K157, t170⟩ := hQ157
              obtain ⟨Lo157, Y157, N157⟩ := pk X157 (Fr.app N131 N157q)
              have F158 : n0 ≤ h157.size := Nat.le_trans F144 K157.1
              have F159 : ArL Z h157 b1 .int (List.map Value.int z15) := F145.keep K157 (ninS ne136 nin0)
              have F160 : ArL Z h157 b18 .int (List.map Value.int z40) := F146.keep K157 (ninS ne137 nin0)
              have F161 : ArL Z h157 b43 .int (List.map Value.int z70) := F147.keep K157 (ninS ne138 nin0)
              have F162 : Exa Z h157 b80 "com/example/onward/onward/explore/Packing" := F148.keep K157
              have F163 : Fld Z h157 b80 "com/example/onward/onward/explore/Packing" "word" "[I" (.ref o99) := F149.keep K157 (ninS ne139 nin0)
              have F164 : Fld Z h157 b80 "com/example/onward/onward/explore/Packing" "shift" "[I" (.ref o100) := F150.keep K157 (ninS ne139 nin0)
              have F165 : Fld Z h157 b80 "com/example/onward/onward/explore/Packing" "mask" "[J" (.ref o101) := F151.keep K157 (ninS ne139 nin0)
              have F166 : ArL Z h157 o99 .int (List.map Value.int (own_pkr z15).2.1) := F152.keep K157 (ninS ne140 nin0)
              have F167 : ArL Z h157 o100 .int (List.map Value.int (own_pkr z15).2.2.1) := F153.keep K157 (ninS ne141 nin0)
              have F168 : ArL Z h157 o101 .long (List.map Value.long (own_pkr z15).2.2.2) := F154.keep K157 (ninS ne142 nin0)
              have F169 : Fld Z h157 b80 "com/example/onward/onward/explore/Packing" "words" "I" (.int (own_pkr z15).1) := F155.keep K157 (ninS ne139 nin0)
              refine Go.trans st157 ?_
              show Go p.tables e below (P0 Z p0 p1 p2 p3 p4 p5 h0 n0 s) (T157.setTop (mkF m 147 #[.val (.int p0), .val (.int p1), .val (.int p2), .val (.long p3), .second, .val (.long p4), .second, .val (.int p5), .val (.ref b1), .val (.ref b18), .val (.ref b43), .val (.int z74), .val (.int z78), .val (.ref b80), .val (.int z133), .val (.ref b135), .unset, .unset, .unset, .unset, .unset] []))
              have J171 : ∀ (z173 : List Int64) (hz173 : z173 = (own_packr z40 (own_pkr z15).2.1 (own_pkr z15).2.2.1 (0 : Int32) (own_pkr z15).1 (List.replicate (((2 : Int32) * z133)).toNatClampNeg (0 : Int64)))) (F172 : ArL Z h157 b135 .long (List.map Value.long z173)), Go p.tables e below (P0 Z p0 p1 p2 p3 p4 p5 h0 n0 s) (T157.setTop (mkF m 147 #[.val (.int p0), .val (.int p1), .val (.int p2), .val (.long p3), .second, .val (.long p4), .second, .val (.int p5), .val (.ref b1), .val (.ref b18), .val (.ref b43), .val (.int z74), .val (.int z78), .val (.ref b80), .val (.int z133), .val (.ref b135), .unset, .unset, .unset, .unset, .unset] [])) := by
                intro z173 hz173 F172
                have r174 : f0 p0 p1 p2 p3 p4 p5 = (let z191 : List Int64 := (own_packr z70 (own_pkr z15).2.1 (own_pkr z15).2.2.1 z133 (own_pkr z15).1 z173); (let z279 : List Int32 := (own_sts (List.getD (own_pkr z15).2.1 (z74).toNatClampNeg (0 : Int32)) (List.getD (own_pkr z15).2.2.1 (z74).toNatClampNeg (0 : Int32)) (List.getD (own_pkr z15).2.2.2 (z74).toNatClampNeg (0 : Int64)) (own_pkr z15).1 z191 (z78).toNatClampNeg (0 : Int32) [(-7 : Int32), (-7 : Int32), (-7 : Int32)]); (let z283 : Bool := (if (0 : Int32) < z78 then (if (List.getD z279 ((0 : Int32)).toNatClampNeg (0 : Int32)) = (List.getD z40 (z74).toNatClampNeg (0 : Int32)) then true else false) else (if (List.getD z279 ((0 : Int32)).toNatClampNeg (0 : Int32)) = (-7 : Int32) then true else false)); (let z287 : Bool := (if (1 : Int32) < z78 then (if (List.getD z279 ((1 : Int32)).toNatClampNeg (0 : Int32)) = (List.getD z70 (z74).toNatClampNeg (0 : Int32)) then true else false) else (if (List.getD z279 ((1 : Int32)).toNatClampNeg (0 : Int32)) = (-7 : Int32) then true else false)); (let z292 : Bool := (if (List.getD z279 ((2 : Int32)).toNatClampNeg (0 : Int32)) = (-7 : Int32) then true else false); (let z296 : Bool := (if z283 = true then (if z287 = true then (if z292 = true then true else false) else false) else false); z296)))))) := by first | (have q0 : f0 p0 p1 p2 p3 p4 p5 = ((let z191 : List Int64 := (own_packr z70 (own_pkr z15).2.1 (own_pkr z15).2.2.1 z133 (own_pkr z15).1 z173); (let z279 : List Int32 := (own_sts (List.getD (own_pkr z15).2.1 (z74).toNatClampNeg (0 : Int32)) (List.getD (own_pkr z15).2.2.1 (z74).toNatClampNeg (0 : Int32)) (List.getD (own_pkr z15).2.2.2 (z74).toNatClampNeg (0 : Int64)) (own_pkr z15).1 z191 (z78).toNatClampNeg (0 : Int32) [(-7 : Int32), (-7 : Int32), (-7 : Int32)]); (let z283 : Bool := (if (0 : Int32) < z78 then (if (List.getD z279 ((0 : Int32)).toNatClampNeg (0 : Int32)) = (List.getD z40 (z74).toNatClampNeg (0 : Int32)) then true else false) else (if (List.getD z279 ((0 : Int32)).toNatClampNeg (0 : Int32)) = (-7 : Int32) then true else false)); (let z287 : Bool := (if (1 : Int32) < z78 then (if (List.getD z279 ((1 : Int32)).toNatClampNeg (0 : Int32)) = (List.getD z70 (z74).toNatClampNeg (0 : Int32)) then true else false) else (if (List.getD z279 ((1 : Int32)).toNatClampNeg (0 : Int32)) = (-7 : Int32) then true else false)); (let z292 : Bool := (if (List.getD z279 ((2 : Int32)).toNatClampNeg (0 : Int32)) = (-7 : Int32) then true else false); (let z296 : Bool := (if z283 = true then (if z287 = true then (if z292 = true then true else false) else false) else false); z296))))))) := let_of (b := fun (z173 : List Int64) => ((let z191 : List Int64 := (own_packr z70 (own_pkr z15).2.1 (own_pkr z15).2.2.1 z133 (own_pkr z15).1 z173); (let z279 : List Int32 := (own_sts (List.getD (own_pkr z15).2.1 (z74).toNatClampNeg (0 : Int32)) (List.getD (own_pkr z15).2.2.1 (z74).toNatClampNeg (0 : Int32)) (List.getD (own_pkr z15).2.2.2 (z74).toNatClampNeg (0 : Int64)) (own_pkr z15).1 z191 (z78).toNatClampNeg (0 : Int32) [(-7 : Int32), (-7 : Int32), (-7 : Int32)]); (let z283 : Bool := (if (0 : Int32) < z78 then (if (List.getD z279 ((0 : Int32)).toNatClampNeg (0 : Int32)) = (List.getD z40 (z74).toNatClampNeg (0 : Int32)) then true else false) else (if (List.getD z279 ((0 : Int32)).toNatClampNeg (0 : Int32)) = (-7 : Int32) then true else false)); (let z287 : Bool := (if (1 : Int32) < z78 then (if (List.getD z279 ((1 : Int32)).toNatClampNeg (0 : Int32)) = (List.getD z70 (z74).toNatClampNeg (0 : Int32)) then true else false) else (if (List.getD z279 ((1 : Int32)).toNatClampNeg (0 : Int32)) = (-7 : Int32) then true else false)); (let z292 : Bool := (if (List.getD z279 ((2 : Int32)).toNatClampNeg (0 : Int32)) = (-7 : Int32) then true else false); (let z296 : Bool := (if z283 = true then (if z287 = true then (if z292 = true then true else false) else false) else false); z296)))))))) hz173 r134; exact q0) | (subst hz173; exact r134)
                show Go p.tables e below (P0 Z p0 p1 p2 p3 p4 p5 h0 n0 s) (T157.setTop (mkF m 147 #[.val (.int p0), .val (.int p1), .val (.int p2), .val (.long p3), .second, .val (.long p4), .second, .val (.int p5), .val (.ref b1), .val (.ref b18), .val (.ref b43), .val (.int z74), .val (.int z78), .val (.ref b80), .val (.int z133), .val (.ref b135), .unset, .unset, .unset, .unset, .unset] []))
                refine Go.back (fun t k => XS.aload Y157.here hx rfl (hb hby at_147) rfl rfl  k) ?_
                show Go p.tables e below (P0 Z p0 p1 p2 p3 p4 p5 h0 n0 s) (T157.setTop (mkF m 149 #[.val (.int p0), .val (.int p1), .val (.int p2), .val (.long p3), .second, .val (.long p4), .second, .val (.int p5), .val (.ref b1), .val (.ref b18), .val (.ref b43), .val (.int z74), .val (.int z78), .val (.ref b80), .val (.int z133), .val (.ref b135), .unset, .unset, .unset, .unset, .unset] [(.ref b80)]))
                refine Go.back (fun t k => XS.aload Y157.here hx rfl (hb hby at_149) rfl rfl  k) ?_
                show Go p.tables e below (P0 Z p0 p1 p2 p3 p4 p5 h0 n0 s) (T157.setTop (mkF m 151 #[.val (.int p0), .val (.int p1), .val (.int p2), .val (.long p3), .second, .val (.long p4), .second, .val (.int p5), .val (.ref b1), .val (.ref b18), .val (.ref b43), .val (.int z74), .val (.int z78), .val (.ref b80), .val (.int z133), .val (.ref b135), .unset, .unset, .unset, .unset, .unset] [(.ref b43), (.ref b80)]))
                refine Go.back (fun t k => XS.aload Y157.here hx rfl (hb hby at_151) rfl rfl  k) ?_
                show Go p.tables e below (P0 Z p0 p1 p2 p3 p4 p5 h0 n0 s) (T157.setTop (mkF m 153 #[.val (.int p0), .val (.int p1), .val (.int p2), .val (.long p3), .second, .val (.long p4), .second, .val (.int p5), .val (.ref b1), .val (.ref b18), .val (.ref b43), .val (.int z74), .val (.int z78), .val (.ref b80), .val (.int z133), .val (.ref b135), .unset, .unset, .unset, .unset, .unset] [(.ref b135), (.ref b43), (.ref b80)]))
                refine Go.back (fun t k => XS.iload Y157.here hx rfl (hb hby at_153) rfl  k) ?_
                show Go p.tables e below (P0 Z p0 p1 p2 p3 p4 p5 h0 n0 s) (T157.setTop (mkF m 155 #[.val (.int p0), .val (.int p1), .val (.int p2), .val (.long p3), .second, .val (.long p4), .second, .val (.int p5), .val (.ref b1), .val (.ref b18), .val (.ref b43), .val (.int z74), .val (.int z78), .val (.ref b80), .val (.int z133), .val (.ref b135), .unset, .unset, .unset, .unset, .unset] [(.int z133), (.ref b135), (.ref b43), (.ref b80)]))
                obtain ⟨cq175, kq175, q175a, q175b, q175c⟩ := isOf hZ e157 F162
                obtain ⟨_, _, ⟨T175, L175, k175, n175⟩, -, X175, ⟨Lc175, hQ175, l175, y175, z175⟩, st175⟩ := Y157.virtualBack hx (y := (⟨"com/example/onward/onward/explore/Packing", "pack", "([I[JI)V"⟩ : MethodName)) (z := (⟨"com/example/onward/onward/explore/Packing", "pack", "([I[JI)V"⟩ : MethodName)) hown (mvT hZ (hw _ (List.mem_of_getElem? (i := 42) rfl))) (mvT hZ (hw _ (List.mem_of_getElem? (i := 43) rfl))) (notFace_of_selects (args := #[]) (mvT hZ (hw _ (List.mem_of_getElem? (i := 45) rfl)))) (mvT hZ (hw _ (List.mem_of_getElem? (i := 45) rfl))) (mvT hZ (hw _ (List.mem_of_getElem? (i := 44) rfl))) (by decide) (backOf (W := 0) (rm8 l Z a0 hw [] b80 b43 b135 z133 ((own_pkr z15).1) o99 o100 z70 ((own_pkr z15).2.1) ((own_pkr z15).2.2.1) z173 h157 n0 F158 F169 F163 F164 F161 F166 F167 F172 g143 ne139 ne138 ne140 ne141 (by rw [hz70]; rfl) (own_pkr_ok _).1 (own_pkr_ok _).2.1 (own_pkr_ok _).2.2.2.2 (own_pq_of1 hz133 (by rw [hz173, own_packr_len, List.length_replicate]))) hZ (hw _ (List.mem_of_getElem? (i := 46) rfl)) (hw _ (List.mem_of_getElem? (i := 13) rfl)) (by decide) (by decide)) q175a q175c (g := (mkF m 155 #[.val (.int p0), .val (.int p1), .val (.int p2), .val (.long p3), .second, .val (.long p4), .second, .val (.int p5), .val (.ref b1), .val (.ref b18), .val (.ref b43), .val (.int z74), .val (.int z78), .val (.ref b80), .val (.int z133), .val (.ref b135), .unset, .unset, .unset, .unset, .unset] [(.int z133), (.ref b135), (.ref b43), (.ref b80)])) rfl (by rw [hml]; rfl) (Steps.refl _) (argsL := [(.ref b43), (.ref b135), (.int z133)]) (rest := []) (lenOf pd_7 rfl) rfl (by show 2 * 0 + _ ≤ _; exact Nat.le_of_eq rfl) (hb hby at_155) (fun _ _ => ⟨rfl, e157, (by decide : 8 + 0 ≤ _), (by decide : 26 + 0 ≤ _)⟩)
                dsimp only [Pt.U, Pt.locs, Pt.cells, Pt.slots] at X175 l175 y175 z175 st175 hQ175
                subst l175 y175 z175
                obtain ⟨h175, e175⟩ : ∃ z, T175.heap = z := ⟨_, rfl⟩
                rw [e175] at hQ175
                obtain ⟨rfl, N175q, K175, t188⟩ := hQ175
                obtain ⟨Lo175, Y175, N175⟩ := pk X175 (Fr.app N157 N175q)
                have F176 : n0 ≤ h175.size := Nat.le_trans F158 K175.1
                have F177 : ArL Z h175 b1 .int (List.map Value.int z15) := F159.keep K175 (ninS ne136 nin0)
                have F178 : ArL Z h175 b18 .int (List.map Value.int z40) := F160.keep K175 (ninS ne137 nin0)
                have F179 : ArL Z h175 b43 .int (List.map Value.int z70) := F161.keep K175 (ninS ne138 nin0)
                have F180 : Exa Z h175 b80 "com/example/onward/onward/explore/Packing" := F162.keep K175
                have F181 : Fld Z h175 b80 "com/example/onward/onward/explore/Packing" "word" "[I" (.ref o99) := F163.keep K175 (ninS ne139 nin0)
                have F182 : Fld Z h175 b80 "com/example/onward/onward/explore/Packing" "shift" "[I" (.ref o100) := F164.keep K175 (ninS ne139 nin0)
                have F183 : Fld Z h175 b80 "com/example/onward/onward/explore/Packing" "mask" "[J" (.ref o101) := F165.keep K175 (ninS ne139 nin0)
                have F184 : ArL Z h175 o99 .int (List.map Value.int (own_pkr z15).2.1) := F166.keep K175 (ninS ne140 nin0)
                have F185 : ArL Z h175 o100 .int (List.map Value.int (own_pkr z15).2.2.1) := F167.keep K175 (ninS ne141 nin0)
                have F186 : ArL Z h175 o101 .long (List.map Value.long (own_pkr z15).2.2.2) := F168.keep K175 (ninS ne142 nin0)
                have F187 : Fld Z h175 b80 "com/example/onward/onward/explore/Packing" "words" "I" (.int (own_pkr z15).1) := F169.keep K175 (ninS ne139 nin0)
                refine Go.trans st175 ?_
                show Go p.tables e below (P0 Z p0 p1 p2 p3 p4 p5 h0 n0 s) (T175.setTop (mkF m 158 #[.val (.int p0), .val (.int p1), .val (.int p2), .val (.long p3), .second, .val (.long p4), .second, .val (.int p5), .val (.ref b1), .val (.ref b18), .val (.ref b43), .val (.int z74), .val (.int z78), .val (.ref b80), .val (.int z133), .val (.ref b135), .unset, .unset, .unset, .unset, .unset] []))
                have J189 : ∀ (z191 : List Int64) (hz191 : z191 = (own_packr z70 (own_pkr z15).2.1 (own_pkr z15).2.2.1 z133 (own_pkr z15).1 z173)) (F190 : ArL Z h175 b135 .long (List.map Value.long z191)), Go p.tables e below (P0 Z p0 p1 p2 p3 p4 p5 h0 n0 s) (T175.setTop (mkF m 158 #[.val (.int p0), .val (.int p1), .val (.int p2), .val (.long p3), .second, .val (.long p4), .second, .val (.int p5), .val (.ref b1), .val (.ref b18), .val (.ref b43), .val (.int z74), .val (.int z78), .val (.ref b80), .val (.int z133), .val (.ref b135), .unset, .unset, .unset, .unset, .unset] [])) := by
                  intro z191 hz191 F190
                  have r192 : f0 p0 p1 p2 p3 p4 p5 = (let z279 : List Int32 := (own_sts (List.getD (own_pkr z15).2.1 (z74).toNatClampNeg (0 : Int32)) (List.getD (own_pkr z15).2.2.1 (z74).toNatClampNeg (0 : Int32)) (List.getD (own_pkr z15).2.2.2 (z74).toNatClampNeg (0 : Int64)) (own_pkr z15).1 z191 (z78).toNatClampNeg (0 : Int32) [(-7 : Int32), (-7 : Int32), (-7 : Int32)]); (let z283 : Bool := (if (0 : Int32) < z78 then (if (List.getD z279 ((0 : Int32)).toNatClampNeg (0 : Int32)) = (List.getD z40 (z74).toNatClampNeg (0 : Int32)) then true else false) else (if (List.getD z279 ((0 : Int32)).toNatClampNeg (0 : Int32)) = (-7 : Int32) then true else false)); (let z287 : Bool := (if (1 : Int32) < z78 then (if (List.getD z279 ((1 : Int32)).toNatClampNeg (0 : Int32)) = (List.getD z70 (z74).toNatClampNeg (0 : Int32)) then true else false) else (if (List.getD z279 ((1 : Int32)).toNatClampNeg (0 : Int32)) = (-7 : Int32) then true else false)); (let z292 : Bool := (if (List.getD z279 ((2 : Int32)).toNatClampNeg (0 : Int32)) = (-7 : Int32) then true else false); (let z296 : Bool := (if z283 = true then (if z287 = true then (if z292 = true then true else false) else false) else false); z296))))) := by first | (have q0 : f0 p0 p1 p2 p3 p4 p5 = ((let z279 : List Int32 := (own_sts (List.getD (own_pkr z15).2.1 (z74).toNatClampNeg (0 : Int32)) (List.getD (own_pkr z15).2.2.1 (z74).toNatClampNeg (0 : Int32)) (List.getD (own_pkr z15).2.2.2 (z74).toNatClampNeg (0 : Int64)) (own_pkr z15).1 z191 (z78).toNatClampNeg (0 : Int32) [(-7 : Int32), (-7 : Int32), (-7 : Int32)]); (let z283 : Bool := (if (0 : Int32) < z78 then (if (List.getD z279 ((0 : Int32)).toNatClampNeg (0 : Int32)) = (List.getD z40 (z74).toNatClampNeg (0 : Int32)) then true else false) else (if (List.getD z279 ((0 : Int32)).toNatClampNeg (0 : Int32)) = (-7 : Int32) then true else false)); (let z287 : Bool := (if (1 : Int32) < z78 then (if (List.getD z279 ((1 : Int32)).toNatClampNeg (0 : Int32)) = (List.getD z70 (z74).toNatClampNeg (0 : Int32)) then true else false) else (if (List.getD z279 ((1 : Int32)).toNatClampNeg (0 : Int32)) = (-7 : Int32) then true else false)); (let z292 : Bool := (if (List.getD z279 ((2 : Int32)).toNatClampNeg (0 : Int32)) = (-7 : Int32) then true else false); (let z296 : Bool := (if z283 = true then (if z287 = true then (if z292 = true then true else false) else false) else false); z296)))))) := let_of (b := fun (z191 : List Int64) => ((let z279 : List Int32 := (own_sts (List.getD (own_pkr z15).2.1 (z74).toNatClampNeg (0 : Int32)) (List.getD (own_pkr z15).2.2.1 (z74).toNatClampNeg (0 : Int32)) (List.getD (own_pkr z15).2.2.2 (z74).toNatClampNeg (0 : Int64)) (own_pkr z15).1 z191 (z78).toNatClampNeg (0 : Int32) [(-7 : Int32), (-7 : Int32), (-7 : Int32)]); (let z283 : Bool := (if (0 : Int32) < z78 then (if (List.getD z279 ((0 : Int32)).toNatClampNeg (0 : Int32)) = (List.getD z40 (z74).toNatClampNeg (0 : Int32)) then true else false) else (if (List.getD z279 ((0 : Int32)).toNatClampNeg (0 : Int32)) = (-7 : Int32) then true else false)); (let z287 : Bool := (if (1 : Int32) < z78 then (if (List.getD z279 ((1 : Int32)).toNatClampNeg (0 : Int32)) = (List.getD z70 (z74).toNatClampNeg (0 : Int32)) then true else false) else (if (List.getD z279 ((1 : Int32)).toNatClampNeg (0 : Int32)) = (-7 : Int32) then true else false)); (let z292 : Bool := (if (List.getD z279 ((2 : Int32)).toNatClampNeg (0 : Int32)) = (-7 : Int32) then true else false); (let z296 : Bool := (if z283 = true then (if z287 = true then (if z292 = true then true else false) else false) else false); z296))))))) hz191 r174; exact q0) | (subst hz191; exact r174)
                  show Go p.tables e below (P0 Z p0 p1 p2 p3 p4 p5 h0 n0 s) (T175.setTop (mkF m 158 #[.val (.int p0), .val (.int p1), .val (.int p2), .val (.long p3), .second, .val (.long p4), .second, .val (.int p5), .val (.ref b1), .val (.ref b18), .val (.ref b43), .val (.int z74), .val (.int z78), .val (.ref b80), .val (.int z133), .val (.ref b135), .unset, .unset, .unset, .unset, .unset] []))
                  refine Go.back (fun t k => XS.bipush Y175.here hx rfl (hb hby at_158) k) ?_
                  show Go p.tables e below (P0 Z p0 p1 p2 p3 p4 p5 h0 n0 s) (T175.setTop (mkF m 160 #[.val (.int p0), .val (.int p1), .val (.int p2), .val (.long p3), .second, .val (.long p4), .second, .val (.int p5), .val (.ref b1), .val (.ref b18), .val (.ref b43), .val (.int z74), .val (.int z78), .val (.ref b80), .val (.int z133), .val (.ref b135), .unset, .unset, .unset, .unset, .unset] [(.int (-7 : Int32))]))
                  refine Go.back (fun t k => XS.istore Y175.here hx rfl (hb hby at_160) rfl (l' := #[.val (.int p0), .val (.int p1), .val (.int p2), .val (.long p3), .second, .val (.long p4), .second, .val (.int p5), .val (.ref b1), .val (.ref b18), .val (.ref b43), .val (.int z74), .val (.int z78), .val (.ref b80), .val (.int z133), .val (.ref b135), .val (.int (-7 : Int32)), .unset, .unset, .unset, .unset]) rfl k) ?_
                  show Go p.tables e below (P0 Z p0 p1 p2 p3 p4 p5 h0 n0 s) (T175.setTop (mkF m 162 #[.val (.int p0), .val (.int p1), .val (.int p2), .val (.long p3), .second, .val (.long p4), .second, .val (.int p5), .val (.ref b1), .val (.ref b18), .val (.ref b43), .val (.int z74), .val (.int z78), .val (.ref b80), .val (.int z133), .val (.ref b135), .val (.int (-7 : Int32)), .unset, .unset, .unset, .unset] []))
                  refine Go.back (fun t k => XS.iconst Y175.here hx rfl (hb hby at_162) k) ?_
                  show Go p.tables e below (P0 Z p0 p1 p2 p3 p4 p5 h0 n0 s) (T175.setTop (mkF m 163 #[.val (.int p0), .val (.int p1), .val (.int p2), .val (.long p3), .second, .val (.long p4), .second, .val (.int p5), .val (.ref b1), .val (.ref b18), .val (.ref b43), .val (.int z74), .val (.int z78), .val (.ref b80), .val (.int z133), .val (.ref b135), .val (.int (-7 : Int32)), .unset, .unset, .unset, .unset] [(.int (3 : Int32))]))
                  obtain ⟨T193, h193, k193, X193, e193, E193, A193, st193⟩ := newP Y175 hx hZ (hw _ (List.mem_of_getElem? (i := 0) rfl)) e175 (g := (mkF m 163 #[.val (.int p0), .val (.int p1), .val (.int p2), .val (.long p3), .second, .val (.long p4), .second, .val (.int p5), .val (.ref b1), .val (.ref b18), .val (.ref b43), .val (.int z74), .val (.int z78), .val (.ref b80), .val (.int z133), .val (.ref b135), .val (.int (-7 : Int32)), .unset, .unset, .unset, .unset] [(.int (3 : Int32))])) rfl (hb hby at_163) rfl (by decide) (cap := 3) (by decide) (by decide) (by decide) (by decide)
                  obtain ⟨b193, g193⟩ : ∃ z, z = h175.size := ⟨_, rfl⟩
                  rw [← g193] at A193 st193
                  have ne194 : b1 ≠ b193 := Nat.ne_of_lt (Nat.lt_of_lt_of_le F177.lt (Nat.le_of_eq g193.symm))
                  have ne195 : b18 ≠ b193 := Nat.ne_of_lt (Nat.lt_of_lt_of_le F178.lt (Nat.le_of_eq g193.symm))
                  have ne196 : b43 ≠ b193 := Nat.ne_of_lt (Nat.lt_of_lt_of_le F179.lt (Nat.le_of_eq g193.symm))
                  have ne197 : b80 ≠ b193 := Nat.ne_of_lt (Nat.lt_of_lt_of_le F180.lt (Nat.le_of_eq g193.symm))
                  have ne198 : o99 ≠ b193 := Nat.ne_of_lt (Nat.lt_of_lt_of_le F184.lt (Nat.le_of_eq g193.symm))
                  have ne199 : o100 ≠ b193 := Nat.ne_of_lt (Nat.lt_of_lt_of_le F185.lt (Nat.le_of_eq g193.symm))
                  have ne200 : o101 ≠ b193 := Nat.ne_of_lt (Nat.lt_of_lt_of_le F186.lt (Nat.le_of_eq g193.symm))
                  have ne201 : b135 ≠ b193 := Nat.ne_of_lt (Nat.lt_of_lt_of_le F190.lt (Nat.le_of_eq g193.symm))
                  have g202 : n0 ≤ b193 := Nat.le_trans F176 (Nat.le_of_eq g193.symm)
                  have F203 : n0 ≤ h193.size := Nat.le_trans F176 E193.1
                  have F204 : ArL Z h193 b1 .int (List.map Value.int z15) := F177.ext E193
                  have F205 : ArL Z h193 b18 .int (List.map Value.int z40) := F178.ext E193
                  have F206 : ArL Z h193 b43 .int (List.map Value.int z70) := F179.ext E193
                  have F207 : Exa Z h193 b80 "com/example/onward/onward/explore/Packing" := F180.ext E193
                  have F208 : Fld Z h193 b80 "com/example/onward/onward/explore/Packing" "word" "[I" (.ref o99) := F181.ext E193
                  have F209 : Fld Z h193 b80 "com/example/onward/onward/explore/Packing" "shift" "[I" (.ref o100) := F182.ext E193
                  have F210 : Fld Z h193 b80 "com/example/onward/onward/explore/Packing" "mask" "[J" (.ref o101) := F183.ext E193
                  have F211 : ArL Z h193 o99 .int (List.map Value.int (own_pkr z15).2.1) := F184.ext E193
                  have F212 : ArL Z h193 o100 .int (List.map Value.int (own_pkr z15).2.2.1) := F185.ext E193
                  have F213 : ArL Z h193 o101 .long (List.map Value.long (own_pkr z15).2.2.2) := F186.ext E193
                  have F214 : Fld Z h193 b80 "com/example/onward/onward/explore/Packing" "words" "I" (.int (own_pkr z15).1) := F187.ext E193
                  have F215 : ArL Z h193 b135 .long (List.map Value.long z191) := F190.ext E193
                  have F216 : ArL Z h193 b193 .int [(.int (0 : Int32)), (.int (0 : Int32)), (.int (0 : Int32))] := ArL.new (ty := .int) A193 (n := 3) rfl
                  refine Go.back st193 ?_
                  show Go p.tables e below (P0 Z p0 p1 p2 p3 p4 p5 h0 n0 s) (T193.setTop (mkF m 165 #[.val (.int p0), .val (.int p1), .val (.int p2), .val (.long p3), .second, .val (.long p4), .second, .val (.int p5), .val (.ref b1), .val (.ref b18), .val (.ref b43), .val (.int z74), .val (.int z78), .val (.ref b80), .val (.int z133), .val (.ref b135), .val (.int (-7 : Int32)), .unset, .unset, .unset, .unset] [(.ref b193)]))
                  refine Go.back (fun t k => XS.dup X193.here hx rfl (hb hby at_165) rfl rfl k) ?_
                  show Go p.tables e below (P0 Z p0 p1 p2 p3 p4 p5 h0 n0 s) (T193.setTop (mkF m 166 #[.val (.int p0), .val (.int p1), .val (.int p2), .val (.long p3), .second, .val (.long p4), .second, .val (.int p5), .val (.ref b1), .val (.ref b18), .val (.ref b43), .val (.int z74), .val (.int z78), .val (.ref b80), .val (.int z133), .val (.ref b135), .val (.int (-7 : Int32)), .unset, .unset, .unset, .unset] [(.ref b193), (.ref b193)]))
                  refine Go.back (fun t k => XS.iconst X193.here hx rfl (hb hby at_166) k) ?_
                  show Go p.tables e below (P0 Z p0 p1 p2 p3 p4 p5 h0 n0 s) (T193.setTop (mkF m 167 #[.val (.int p0), .val (.int p1), .val (.int p2), .val (.long p3), .second, .val (.long p4), .second, .val (.int p5), .val (.ref b1), .val (.ref b18), .val (.ref b43), .val (.int z74), .val (.int z78), .val (.ref b80), .val (.int z133), .val (.ref b135), .val (.int (-7 : Int32)), .unset, .unset, .unset, .unset] [(.int (0 : Int32)), (.ref b193), (.ref b193)]))
                  refine Go.back (fun t k => XS.iload X193.here hx rfl (hb hby at_167) rfl  k) ?_
                  show Go p.tables e below (P0 Z p0 p1 p2 p3 p4 p5 h0 n0 s) (T193.setTop (mkF m 169 #[.val (.int p0), .val (.int p1), .val (.int p2), .val (.long p3), .second, .val (.long p4), .second, .val (.int p5), .val (.ref b1), .val (.ref b18), .val (.ref b43), .val (.int z74), .val (.int z78), .val (.ref b80), .val (.int z133), .val (.ref b135), .val (.int (-7 : Int32)), .unset, .unset, .unset, .unset] [(.int (-7 : Int32)), (.int (0 : Int32)), (.ref b193), (.ref b193)]))
                  obtain ⟨cl217, Ar217, hi217, -⟩ := F216.at (j := (0 : Int32)) (by decide) (Nat.le_of_ble_eq_true rfl)
                  obtain ⟨T217, h217, X217, e217, W217, st217⟩ := stI X193 hx hZ e193 Ar217 (j := (0 : Int32)) hi217 (g := (mkF m 169 #[.val (.int p0), .val (.int p1), .val (.int p2), .val (.long p3), .second, .val (.long p4), .second, .val (.int p5), .val (.ref b1), .val (.ref b18), .val (.ref b43), .val (.int z74), .val (.int z78), .val (.ref b80), .val (.int z133), .val (.ref b135), .val (.int (-7 : Int32)), .unset, .unset, .unset, .unset] [(.int (-7 : Int32)), (.int (0 : Int32)), (.ref b193), (.ref b193)])) rfl rfl (hb hby at_169)
                  have F218 : n0 ≤ h217.size := Nat.le_trans F203 (Keep.of_wr W217).1
                  have F219 : ArL Z h217 b1 .int (List.map Value.int z15) := F204.other W217 ne194
                  have F220 : ArL Z h217 b18 .int (List.map Value.int z40) := F205.other W217 ne195
                  have F221 : ArL Z h217 b43 .int (List.map Value.int z70) := F206.other W217 ne196
                  have F222 : Exa Z h217 b80 "com/example/onward/onward/explore/Packing" := F207.wr W217
                  have F223 : Fld Z h217 b80 "com/example/onward/onward/explore/Packing" "word" "[I" (.ref o99) := F208.other W217 (Or.inl ne197)
                  have F224 : Fld Z h217 b80 "com/example/onward/onward/explore/Packing" "shift" "[I" (.ref o100) := F209.other W217 (Or.inl ne197)
                  have F225 : Fld Z h217 b80 "com/example/onward/onward/explore/Packing" "mask" "[J" (.ref o101) := F210.other W217 (Or.inl ne197)
                  have F226 : ArL Z h217 o99 .int (List.map Value.int (own_pkr z15).2.1) := F211.other W217 ne198
                  have F227 : ArL Z h217 o100 .int (List.map Value.int (own_pkr z15).2.2.1) := F212.other W217 ne199
                  have F228 : ArL Z h217 o101 .long (List.map Value.long (own_pkr z15).2.2.2) := F213.other W217 ne200
                  have F229 : Fld Z h217 b80 "com/example/onward/onward/explore/Packing" "words" "I" (.int (own_pkr z15).1) := F214.other W217 (Or.inl ne197)
                  have F230 : ArL Z h217 b135 .long (List.map Value.long z191) := F215.other W217 ne201
                  have F231 : ArL Z h217 b193 .int [(.int (-7 : Int32)), (.int (0 : Int32)), (.int (0 : Int32))] := F216.set W217
                  obtain ⟨Lo217, Y217, N217⟩ := pk X217 (Fr.snoc X217 N175 g202)
                  refine Go.back st217 ?_
                  show Go p.tables e below (P0 Z p0 p1 p2 p3 p4 p5 h0 n0 s) (T217.setTop (mkF m 170 #[.val (.int p0), .val (.int p1), .val (.int p2), .val (.long p3), .second, .val (.long p4), .second, .val (.int p5), .val (.ref b1), .val (.ref b18), .val (.ref b43), .val (.int z74), .val (.int z78), .val (.ref b80), .val (.int z133), .val (.ref b135), .val (.int (-7 : Int32)), .unset, .unset, .unset, .unset] [(.ref b193)]))
                  refine Go.back (fun t k => XS.dup Y217.here hx rfl (hb hby at_170) rfl rfl k) ?_
                  show Go p.tables e below (P0 Z p0 p1 p2 p3 p4 p5 h0 n0 s) (T217.setTop (mkF m 171 #[.val (.int p0), .val (.int p1), .val (.int p2), .val (.long p3), .second, .val (.long p4), .second, .val (.int p5), .val (.ref b1), .val (.ref b18), .val (.ref b43), .val (.int z74), .val (.int z78), .val (.ref b80), .val (.int z133), .val (.ref b135), .val (.int (-7 : Int32)), .unset, .unset, .unset, .unset] [(.ref b193), (.ref b193)]))
                  refine Go.back (fun t k => XS.iconst Y217.here hx rfl (hb hby at_171) k) ?_
                  show Go p.tables e below (P0 Z p0 p1 p2 p3 p4 p5 h0 n0 s) (T217.setTop (mkF m 172 #[.val (.int p0), .val (.int p1), .val (.int p2), .val (.long p3), .second, .val (.long p4), .second, .val (.int p5), .val (.ref b1), .val (.ref b18), .val (.ref b43), .val (.int z74), .val (.int z78), .val (.ref b80), .val (.int z133), .val (.ref b135), .val (.int (-7 : Int32)), .unset, .unset, .unset, .unset] [(.int (1 : Int32)), (.ref b193), (.ref b193)]))
                  refine Go.back (fun t k => XS.iload Y217.here hx rfl (hb hby at_172) rfl  k) ?_
                  show Go p.tables e below (P0 Z p0 p1 p2 p3 p4 p5 h0 n0 s) (T217.setTop (mkF m 174 #[.val (.int p0), .val (.int p1), .val (.int p2), .val (.long p3), .second, .val (.long p4), .second, .val (.int p5), .val (.ref b1), .val (.ref b18), .val (.ref b43), .val (.int z74), .val (.int z78), .val (.ref b80), .val (.int z133), .val (.ref b135), .val (.int (-7 : Int32)), .unset, .unset, .unset, .unset] [(.int (-7 : Int32)), (.int (1 : Int32)), (.ref b193), (.ref b193)]))
                  obtain ⟨cl232, Ar232, hi232, -⟩ := F231.at (j := (1 : Int32)) (by decide) (Nat.le_of_ble_eq_true rfl)
                  obtain ⟨T232, h232, X232, e232, W232, st232⟩ := stI Y217 hx hZ e217 Ar232 (j := (1 : Int32)) hi232 (g := (mkF m 174 #[.val (.int p0), .val (.int p1), .val (.int p2), .val (.long p3), .second, .val (.long p4), .second, .val (.int p5), .val (.ref b1), .val (.ref b18), .val (.ref b43), .val (.int z74), .val (.int z78), .val (.ref b80), .val (.int z133), .val (.ref b135), .val (.int (-7 : Int32)), .unset, .unset, .unset, .unset] [(.int (-7 : Int32)), (.int (1 : Int32)), (.ref b193), (.ref b193)])) rfl rfl (hb hby at_174)
                  have F233 : n0 ≤ h232.size := Nat.le_trans F218 (Keep.of_wr W232).1
                  have F234 : ArL Z h232 b1 .int (List.map Value.int z15) := F219.other W232 ne194
                  have F235 : ArL Z h232 b18 .int (List.map Value.int z40) := F220.other W232 ne195
                  have F236 : ArL Z h232 b43 .int (List.map Value.int z70) := F221.other W232 ne196
                  have F237 : Exa Z h232 b80 "com/example/onward/onward/explore/Packing" := F222.wr W232
                  have F238 : Fld Z h232 b80 "com/example/onward/onward/explore/Packing" "word" "[I" (.ref o99) := F223.other W232 (Or.inl ne197)
                  have F239 : Fld Z h232 b80 "com/example/onward/onward/explore/Packing" "shift" "[I" (.ref o100) := F224.other W232 (Or.inl ne197)
                  have F240 : Fld Z h232 b80 "com/example/onward/onward/explore/Packing" "mask" "[J" (.ref o101) := F225.other W232 (Or.inl ne197)
                  have F241 : ArL Z h232 o99 .int (List.map Value.int (own_pkr z15).2.1) := F226.other W232 ne198
                  have F242 : ArL Z h232 o100 .int (List.map Value.int (own_pkr z15).2.2.1) := F227.other W232 ne199
                  have F243 : ArL Z h232 o101 .long (List.map Value.long (own_pkr z15).2.2.2) := F228.other W232 ne200
                  have F244 : Fld Z h232 b80 "com/example/onward/onward/explore/Packing" "words" "I" (.int (own_pkr z15).1) := F229.other W232 (Or.inl ne197)
                  have F245 : ArL Z h232 b135 .long (List.map Value.long z191) := F230.other W232 ne201
                  have F246 : ArL Z h232 b193 .int [(.int (-7 : Int32)), (.int (-7 : Int32)), (.int (0 : Int32))] := F231.set W232
                  obtain ⟨Lo232, Y232, N232⟩ := pk X232 (Fr.snoc X232 N217 g202)
                  refine Go.back st232 ?_
                  show Go p.tables e below (P0 Z p0 p1 p2 p3 p4 p5 h0 n0 s) (T232.setTop (mkF m 175 #[.val (.int p0), .val (.int p1), .val (.int p2), .val (.long p3), .second, .val (.long p4), .second, .val (.int p5), .val (.ref b1), .val (.ref b18), .val (.ref b43), .val (.int z74), .val (.int z78), .val (.ref b80), .val (.int z133), .val (.ref b135), .val (.int (-7 : Int32)), .unset, .unset, .unset, .unset] [(.ref b193)]))
                  refine Go.back (fun t k => XS.dup Y232.here hx rfl (hb hby at_175) rfl rfl k) ?_
                  show Go p.tables e below (P0 Z p0 p1 p2 p3 p4 p5 h0 n0 s) (T232.setTop (mkF m 176 #[.val (.int p0), .val (.int p1), .val (.int p2), .val (.long p3), .second, .val (.long p4), .second, .val (.int p5), .val (.ref b1), .val (.ref b18), .val (.ref b43), .val (.int z74), .val (.int z78), .val (.ref b80), .val (.int z133), .val (.ref b135), .val (.int (-7 : Int32)), .unset, .unset, .unset, .unset] [(.ref b193), (.ref b193)]))
                  refine Go.back (fun t k => XS.iconst Y232.here hx rfl (hb hby at_176) k) ?_
                  show Go p.tables e below (P0 Z p0 p1 p2 p3 p4 p5 h0 n0 s) (T232.setTop (mkF m 177 #[.val (.int p0), .val (.int p1), .val (.int p2), .val (.long p3), .second, .val (.long p4), .second, .val (.int p5), .val (.ref b1), .val (.ref b18), .val (.ref b43), .val (.int z74), .val (.int z78), .val (.ref b80), .val (.int z133), .val (.ref b135), .val (.int (-7 : Int32)), .unset, .unset, .unset, .unset] [(.int (2 : Int32)), (.ref b193), (.ref b193)]))
                  refine Go.back (fun t k => XS.iload Y232.here hx rfl (hb hby at_177) rfl  k) ?_
                  show Go p.tables e below (P0 Z p0 p1 p2 p3 p4 p5 h0 n0 s) (T232.setTop (mkF m 179 #[.val (.int p0), .val (.int p1), .val (.int p2), .val (.long p3), .second, .val (.long p4), .second, .val (.int p5), .val (.ref b1), .val (.ref b18), .val (.ref b43), .val (.int z74), .val (.int z78), .val (.ref b80), .val (.int z133), .val (.ref b135), .val (.int (-7 : Int32)), .unset, .unset, .unset, .unset] [(.int (-7 : Int32)), (.int (2 : Int32)), (.ref b193), (.ref b193)]))
                  obtain ⟨cl247, Ar247, hi247, -⟩ := F246.at (j := (2 : Int32)) (by decide) (Nat.le_of_ble_eq_true rfl)
                  obtain ⟨T247, h247, X247, e247, W247, st247⟩ := stI Y232 hx hZ e232 Ar247 (j := (2 : Int32)) hi247 (g := (mkF m 179 #[.val (.int p0), .val (.int p1), .val (.int p2), .val (.long p3), .second, .val (.long p4), .second, .val (.int p5), .val (.ref b1), .val (.ref b18), .val (.ref b43), .val (.int z74), .val (.int z78), .val (.ref b80), .val (.int z133), .val (.ref b135), .val (.int (-7 : Int32)), .unset, .unset, .unset, .unset] [(.int (-7 : Int32)), (.int (2 : Int32)), (.ref b193), (.ref b193)])) rfl rfl (hb hby at_179)
                  have F248 : n0 ≤ h247.size := Nat.le_trans F233 (Keep.of_wr W247).1
                  have F249 : ArL Z h247 b1 .int (List.map Value.int z15) := F234.other W247 ne194
                  have F250 : ArL Z h247 b18 .int (List.map Value.int z40) := F235.other W247 ne195
                  have F251 : ArL Z h247 b43 .int (List.map Value.int z70) := F236.other W247 ne196
                  have F252 : Exa Z h247 b80 "com/example/onward/onward/explore/Packing" := F237.wr W247
                  have F253 : Fld Z h247 b80 "com/example/onward/onward/explore/Packing" "word" "[I" (.ref o99) := F238.other W247 (Or.inl ne197)
                  have F254 : Fld Z h247 b80 "com/example/onward/onward/explore/Packing" "shift" "[I" (.ref o100) := F239.other W247 (Or.inl ne197)
                  have F255 : Fld Z h247 b80 "com/example/onward/onward/explore/Packing" "mask" "[J" (.ref o101) := F240.other W247 (Or.inl ne197)
                  have F256 : ArL Z h247 o99 .int (List.map Value.int (own_pkr z15).2.1) := F241.other W247 ne198
                  have F257 : ArL Z h247 o100 .int (List.map Value.int (own_pkr z15).2.2.1) := F242.other W247 ne199
                  have F258 : ArL Z h247 o101 .long (List.map Value.long (own_pkr z15).2.2.2) := F243.other W247 ne200
                  have F259 : Fld Z h247 b80 "com/example/onward/onward/explore/Packing" "words" "I" (.int (own_pkr z15).1) := F244.other W247 (Or.inl ne197)
                  have F260 : ArL Z h247 b135 .long (List.map Value.long z191) := F245.other W247 ne201
                  have F261 : ArL Z h247 b193 .int [(.int (-7 : Int32)), (.int (-7 : Int32)), (.int (-7 : Int32))] := F246.set W247
                  obtain ⟨Lo247, Y247, N247⟩ := pk X247 (Fr.snoc X247 N232 g202)
                  refine Go.back st247 ?_
                  show Go p.tables e below (P0 Z p0 p1 p2 p3 p4 p5 h0 n0 s) (T247.setTop (mkF m 180 #[.val (.int p0), .val (.int p1), .val (.int p2), .val (.long p3), .second, .val (.long p4), .second, .val (.int p5), .val (.ref b1), .val (.ref b18), .val (.ref b43), .val (.int z74), .val (.int z78), .val (.ref b80), .val (.int z133), .val (.ref b135), .val (.int (-7 : Int32)), .unset, .unset, .unset, .unset] [(.ref b193)]))
                  refine Go.back (fun t k => XS.astore Y247.here hx rfl (hb hby at_180) rfl rfl (l' := #[.val (.int p0), .val (.int p1), .val (.int p2), .val (.long p3), .second, .val (.long p4), .second, .val (.int p5), .val (.ref b1), .val (.ref b18), .val (.ref b43), .val (.int z74), .val (.int z78), .val (.ref b80), .val (.int z133), .val (.ref b135), .val (.int (-7 : Int32)), .val (.ref b193), .unset, .unset, .unset]) rfl k) ?_
                  show Go p.tables e below (P0 Z p0 p1 p2 p3 p4 p5 h0 n0 s) (T247.setTop (mkF m 182 #[.val (.int p0), .val (.int p1), .val (.int p2), .val (.long p3), .second, .val (.long p4), .second, .val (.int p5), .val (.ref b1), .val (.ref b18), .val (.ref b43), .val (.int z74), .val (.int z78), .val (.ref b80), .val (.int z133), .val (.ref b135), .val (.int (-7 : Int32)), .val (.ref b193), .unset, .unset, .unset] []))
                  refine Go.back (fun t k => XS.aload Y247.here hx rfl (hb hby at_182) rfl rfl  k) ?_
                  show Go p.tables e below (P0 Z p0 p1 p2 p3 p4 p5 h0 n0 s) (T247.setTop (mkF m 184 #[.val (.int p0), .val (.int p1), .val (.int p2), .val (.long p3), .second, .val (.long p4), .second, .val (.int p5), .val (.ref b1), .val (.ref b18), .val (.ref b43), .val (.int z74), .val (.int z78), .val (.ref b80), .val (.int z133), .val (.ref b135), .val (.int (-7 : Int32)), .val (.ref b193), .unset, .unset, .unset] [(.ref b80)]))
                  refine Go.back (fun t k => XS.aload Y247.here hx rfl (hb hby at_184) rfl rfl  k) ?_
                  show Go p.tables e below (P0 Z p0 p1 p2 p3 p4 p5 h0 n0 s) (T247.setTop (mkF m 186 #[.val (.int p0), .val (.int p1), .val (.int p2), .val (.long p3), .second, .val (.long p4), .second, .val (.int p5), .val (.ref b1), .val (.ref b18), .val (.ref b43), .val (.int z74), .val (.int z78), .val (.ref b80), .val (.int z133), .val (.ref b135), .val (.int (-7 : Int32)), .val (.ref b193), .unset, .unset, .unset] [(.ref b135), (.ref b80)]))
                  refine Go.back (fun t k => XS.iload Y247.here hx rfl (hb hby at_186) rfl  k) ?_
                  show Go p.tables e below (P0 Z p0 p1 p2 p3 p4 p5 h0 n0 s) (T247.setTop (mkF m 188 #[.val (.int p0), .val (.int p1), .val (.int p2), .val (.long p3), .second, .val (.long p4), .second, .val (.int p5), .val (.ref b1), .val (.ref b18), .val (.ref b43), .val (.int z74), .val (.int z78), .val (.ref b80), .val (.int z133), .val (.ref b135), .val (.int (-7 : Int32)), .val (.ref b193), .unset, .unset, .unset] [(.int z78), (.ref b135), (.ref b80)]))
                  refine Go.back (fun t k => XS.iload Y247.here hx rfl (hb hby at_188) rfl  k) ?_
                  show Go p.tables e below (P0 Z p0 p1 p2 p3 p4 p5 h0 n0 s) (T247.setTop (mkF m 190 #[.val (.int p0), .val (.int p1), .val (.int p2), .val (.long p3), .second, .val (.long p4), .second, .val (.int p5), .val (.ref b1), .val (.ref b18), .val (.ref b43), .val (.int z74), .val (.int z78), .val (.ref b80), .val (.int z133), .val (.ref b135), .val (.int (-7 : Int32)), .val (.ref b193), .unset, .unset, .unset] [(.int z74), (.int z78), (.ref b135), (.ref b80)]))
                  refine Go.back (fun t k => XS.aload Y247.here hx rfl (hb hby at_190) rfl rfl  k) ?_
                  show Go p.tables e below (P0 Z p0 p1 p2 p3 p4 p5 h0 n0 s) (T247.setTop (mkF m 192 #[.val (.int p0), .val (.int p1), .val (.int p2), .val (.long p3), .second, .val (.long p4), .second, .val (.int p5), .val (.ref b1), .val (.ref b18), .val (.ref b43), .val (.int z74), .val (.int z78), .val (.ref b80), .val (.int z133), .val (.ref b135), .val (.int (-7 : Int32)), .val (.ref b193), .unset, .unset, .unset] [(.ref b193), (.int z74), (.int z78), (.ref b135), (.ref b80)]))
                  obtain ⟨cq262, kq262, q262a, q262b, q262c⟩ := isOf hZ e247 F252
                  obtain ⟨_, _, ⟨T262, L262, k262, n262⟩, -, X262, ⟨Lc262, hQ262, l262, y262, z262⟩, st262⟩ := Y247.virtualBack hx (y := (⟨"com/example/onward/onward/explore/Packing", "states", "([JII[I)V"⟩ : MethodName)) (z := (⟨"com/example/onward/onward/explore/Packing", "states", "([JII[I)V"⟩ : MethodName)) hown (mvT hZ (hw _ (List.mem_of_getElem? (i := 54) rfl))) (mvT hZ (hw _ (List.mem_of_getElem? (i := 55) rfl))) (notFace_of_selects (args := #[]) (mvT hZ (hw _ (List.mem_of_getElem? (i := 57) rfl)))) (mvT hZ (hw _ (List.mem_of_getElem? (i := 57) rfl))) (mvT hZ (hw _ (List.mem_of_getElem? (i := 56) rfl))) (by decide) (backOf (W := 0) (rm11 l Z a0 hw [] b80 b135 z78 z74 b193 ((own_pkr z15).1) o99 o100 o101 ((own_pkr z15).2.1) ((own_pkr z15).2.2.1) ((own_pkr z15).2.2.2) z191 [(-7 : Int32), (-7 : Int32), (-7 : Int32)] h247 n0 F248 F259 F253 F254 F255 F256 F257 F258 F260 F261 g202 ne197 ne201 ne198 ne199 ne200 (own_pkr_ok _).1 (own_pkr_ok _).2.1 (own_pkr_ok _).2.2.1 (own_i3_of hz74) (own_hs_of hz78 hz74 hz133 (by rw [hz191, own_packr_len, hz173, own_packr_len, List.length_replicate])) rfl) hZ (hw _ (List.mem_of_getElem? (i := 58) rfl)) (hw _ (List.mem_of_getElem? (i := 13) rfl)) (by decide) (by decide)) q262a q262c (g := (mkF m 192 #[.val (.int p0), .val (.int p1), .val (.int p2), .val (.long p3), .second, .val (.long p4), .second, .val (.int p5), .val (.ref b1), .val (.ref b18), .val (.ref b43), .val (.int z74), .val (.int z78), .val (.ref b80), .val (.int z133), .val (.ref b135), .val (.int (-7 : Int32)), .val (.ref b193), .unset, .unset, .unset] [(.ref b193), (.int z74), (.int z78), (.ref b135), (.ref b80)])) rfl (by rw [hml]; rfl) (Steps.refl _) (argsL := [(.ref b135), (.int z78), (.int z74), (.ref b193)]) (rest := []) (lenOf pd_8 rfl) rfl (by show 2 * 0 + _ ≤ _; exact Nat.le_of_eq rfl) (hb hby at_192) (fun _ _ => ⟨rfl, e247, (by decide : 9 + 0 ≤ _), (by decide : 29 + 0 ≤ _)⟩)
                  dsimp only [Pt.U, Pt.locs, Pt.cells, Pt.slots] at X262 l262 y262 z262 st262 hQ262
                  subst l262 y262 z262
                  obtain ⟨h262, e262⟩ : ∃ z, T262.heap = z := ⟨_, rfl⟩
                  rw [e262] at hQ262
                  obtain ⟨rfl, N262q, K262, t276⟩ := hQ262
                  obtain ⟨Lo262, Y262, N262⟩ := pk X262 (Fr.app N247 N262q)
                  have F263 : n0 ≤ h262.size := Nat.le_trans F248 K262.1
                  have F264 : ArL Z h262 b1 .int (List.map Value.int z15) := F249.keep K262 (ninS ne194 nin0)
                  have F265 : ArL Z h262 b18 .int (List.map Value.int z40) := F250.keep K262 (ninS ne195 nin0)
                  have F266 : ArL Z h262 b43 .int (List.map Value.int z70) := F251.keep K262 (ninS ne196 nin0)
                  have F267 : Exa Z h262 b80 "com/example/onward/onward/explore/Packing" := F252.keep K262
                  have F268 : Fld Z h262 b80 "com/example/onward/onward/explore/Packing" "word" "[I" (.ref o99) := F253.keep K262 (ninS ne197 nin0)
                  have F269 : Fld Z h262 b80 "com/example/onward/onward/explore/Packing" "shift" "[I" (.ref o100) := F254.keep K262 (ninS ne197 nin0)
                  have F270 : Fld Z h262 b80 "com/example/onward/onward/explore/Packing" "mask" "[J" (.ref o101) := F255.keep K262 (ninS ne197 nin0)
                  have F271 : ArL Z h262 o99 .int (List.map Value.int (own_pkr z15).2.1) := F256.keep K262 (ninS ne198 nin0)
                  have F272 : ArL Z h262 o100 .int (List.map Value.int (own_pkr z15).2.2.1) := F257.keep K262 (ninS ne199 nin0)
                  have F273 : ArL Z h262 o101 .long (List.map Value.long (own_pkr z15).2.2.2) := F258.keep K262 (ninS ne200 nin0)
                  have F274 : Fld Z h262 b80 "com/example/onward/onward/explore/Packing" "words" "I" (.int (own_pkr z15).1) := F259.keep K262 (ninS ne197 nin0)
                  have F275 : ArL Z h262 b135 .long (List.map Value.long z191) := F260.keep K262 (ninS ne201 nin0)
                  refine Go.trans st262 ?_
                  show Go p.tables e below (P0 Z p0 p1 p2 p3 p4 p5 h0 n0 s) (T262.setTop (mkF m 195 #[.val (.int p0), .val (.int p1), .val (.int p2), .val (.long p3), .second, .val (.long p4), .second, .val (.int p5), .val (.ref b1), .val (.ref b18), .val (.ref b43), .val (.int z74), .val (.int z78), .val (.ref b80), .val (.int z133), .val (.ref b135), .val (.int (-7 : Int32)), .val (.ref b193), .unset, .unset, .unset] []))
                  have J277 : ∀ (z279 : List Int32) (hz279 : z279 = (own_sts (List.getD (own_pkr z15).2.1 (z74).toNatClampNeg (0 : Int32)) (List.getD (own_pkr z15).2.2.1 (z74).toNatClampNeg (0 : Int32)) (List.getD (own_pkr z15).2.2.2 (z74).toNatClampNeg (0 : Int64)) (own_pkr z15).1 z191 (z78).toNatClampNeg (0 : Int32) [(-7 : Int32), (-7 : Int32), (-7 : Int32)])) (F278 : ArL Z h262 b193 .int (List.map Value.int z279)), Go p.tables e below (P0 Z p0 p1 p2 p3 p4 p5 h0 n0 s) (T262.setTop (mkF m 195 #[.val (.int p0), .val (.int p1), .val (.int p2), .val (.long p3), .second, .val (.long p4), .second, .val (.int p5), .val (.ref b1), .val (.ref b18), .val (.ref b43), .val (.int z74), .val (.int z78), .val (.ref b80), .val (.int z133), .val (.ref b135), .val (.int (-7 : Int32)), .val (.ref b193), .unset, .unset, .unset] [])) := by
                    intro z279 hz279 F278
                    have r280 : f0 p0 p1 p2 p3 p4 p5 = (let z283 : Bool := (if (0 : Int32) < z78 then (if (List.getD z279 ((0 : Int32)).toNatClampNeg (0 : Int32)) = (List.getD z40 (z74).toNatClampNeg (0 : Int32)) then true else false) else (if (List.getD z279 ((0 : Int32)).toNatClampNeg (0 : Int32)) = (-7 : Int32) then true else false)); (let z287 : Bool := (if (1 : Int32) < z78 then (if (List.getD z279 ((1 : Int32)).toNatClampNeg (0 : Int32)) = (List.getD z70 (z74).toNatClampNeg (0 : Int32)) then true else false) else (if (List.getD z279 ((1 : Int32)).toNatClampNeg (0 : Int32)) = (-7 : Int32) then true else false)); (let z292 : Bool := (if (List.getD z279 ((2 : Int32)).toNatClampNeg (0 : Int32)) = (-7 : Int32) then true else false); (let z296 : Bool := (if z283 = true then (if z287 = true then (if z292 = true then true else false) else false) else false); z296)))) := by first | (have q0 : f0 p0 p1 p2 p3 p4 p5 = ((let z283 : Bool := (if (0 : Int32) < z78 then (if (List.getD z279 ((0 : Int32)).toNatClampNeg (0 : Int32)) = (List.getD z40 (z74).toNatClampNeg (0 : Int32)) then true else false) else (if (List.getD z279 ((0 : Int32)).toNatClampNeg (0 : Int32)) = (-7 : Int32) then true else false)); (let z287 : Bool := (if (1 : Int32) < z78 then (if (List.getD z279 ((1 : Int32)).toNatClampNeg (0 : Int32)) = (List.getD z70 (z74).toNatClampNeg (0 : Int32)) then true else false) else (if (List.getD z279 ((1 : Int32)).toNatClampNeg (0 : Int32)) = (-7 : Int32) then true else false)); (let z292 : Bool := (if (List.getD z279 ((2 : Int32)).toNatClampNeg (0 : Int32)) = (-7 : Int32) then true else false); (let z296 : Bool := (if z283 = true then (if z287 = true then (if z292 = true then true else false) else false) else false); z296))))) := let_of (b := fun (z279 : List Int32) => ((let z283 : Bool := (if (0 : Int32) < z78 then (if (List.getD z279 ((0 : Int32)).toNatClampNeg (0 : Int32)) = (List.getD z40 (z74).toNatClampNeg (0 : Int32)) then true else false) else (if (List.getD z279 ((0 : Int32)).toNatClampNeg (0 : Int32)) = (-7 : Int32) then true else false)); (let z287 : Bool := (if (1 : Int32) < z78 then (if (List.getD z279 ((1 : Int32)).toNatClampNeg (0 : Int32)) = (List.getD z70 (z74).toNatClampNeg (0 : Int32)) then true else false) else (if (List.getD z279 ((1 : Int32)).toNatClampNeg (0 : Int32)) = (-7 : Int32) then true else false)); (let z292 : Bool := (if (List.getD z279 ((2 : Int32)).toNatClampNeg (0 : Int32)) = (-7 : Int32) then true else false); (let z296 : Bool := (if z283 = true then (if z287 = true then (if z292 = true then true else false) else false) else false); z296)))))) hz279 r192; exact q0) | (subst hz279; exact r192)
                    show Go p.tables e below (P0 Z p0 p1 p2 p3 p4 p5 h0 n0 s) (T262.setTop (mkF m 195 #[.val (.int p0), .val (.int p1), .val (.int p2), .val (.long p3), .second, .val (.long p4), .second, .val (.int p5), .val (.ref b1), .val (.ref b18), .val (.ref b43), .val (.int z74), .val (.int z78), .val (.ref b80), .val (.int z133), .val (.ref b135), .val (.int (-7 : Int32)), .val (.ref b193), .unset, .unset, .unset] []))
                    refine Go.back (fun t k => XS.iload Y262.here hx rfl (hb hby at_195) rfl  k) ?_
                    show Go p.tables e below (P0 Z p0 p1 p2 p3 p4 p5 h0 n0 s) (T262.setTop (mkF m 197 #[.val (.int p0), .val (.int p1), .val (.int p2), .val (.long p3), .second, .val (.long p4), .second, .val (.int p5), .val (.ref b1), .val (.ref b18), .val (.ref b43), .val (.int z74), .val (.int z78), .val (.ref b80), .val (.int z133), .val (.ref b135), .val (.int (-7 : Int32)), .val (.ref b193), .unset, .unset, .unset] [(.int z78)]))
                    have J282 : ∀ (z283 : Bool) (hz283 : z283 = (if (0 : Int32) < z78 then (if (List.getD z279 ((0 : Int32)).toNatClampNeg (0 : Int32)) = (List.getD z40 (z74).toNatClampNeg (0 : Int32)) then true else false) else (if (List.getD z279 ((0 : Int32)).toNatClampNeg (0 : Int32)) = (-7 : Int32) then true else false))), Go p.tables e below (P0 Z p0 p1 p2 p3 p4 p5 h0 n0 s) (T262.setTop (mkF m 234 #[.val (.int p0), .val (.int p1), .val (.int p2), .val (.long p3), .second, .val (.long p4), .second, .val (.int p5), .val (.ref b1), .val (.ref b18), .val (.ref b43), .val (.int z74), .val (.int z78), .val (.ref b80), .val (.int z133), .val (.ref b135), .val (.int (-7 : Int32)), .val (.ref b193), .unset, .unset, .unset] [(.int (b2i z283))])) := by
                      intro z283 hz283
                      have r284 : f0 p0 p1 p2 p3 p4 p5 = (let z287 : Bool := (if (1 : Int32) < z78 then (if (List.getD z279 ((1 : Int32)).toNatClampNeg (0 : Int32)) = (List.getD z70 (z74).toNatClampNeg (0 : Int32)) then true else false) else (if (List.getD z279 ((1 : Int32)).toNatClampNeg (0 : Int32)) = (-7 : Int32) then true else false)); (let z292 : Bool := (if (List.getD z279 ((2 : Int32)).toNatClampNeg (0 : Int32)) = (-7 : Int32) then true else false); (let z296 : Bool := (if z283 = true then (if z287 = true then (if z292 = true then true else false) else false) else false); z296))) := by subst hz283; exact r280
                      show Go p.tables e below (P0 Z p0 p1 p2 p3 p4 p5 h0 n0 s) (T262.setTop (mkF m 234 #[.val (.int p0), .val (.int p1), .val (.int p2), .val (.long p3), .second, .val (.long p4), .second, .val (.int p5), .val (.ref b1), .val (.ref b18), .val (.ref b43), .val (.int z74), .val (.int z78), .val (.ref b80), .val (.int z133), .val (.ref b135), .val (.int (-7 : Int32)), .val (.ref b193), .unset, .unset, .unset] [(.int (b2i z283))]))
                      refine Go.back (fun t k => XS.istore Y262.here hx rfl (hb hby at_234) rfl (l' := #[.val (.int p0), .val (.int p1), .val (.int p2), .val (.long p3), .second, .val (.long p4), .second, .val (.int p5), .val (.ref b1), .val (.ref b18), .val (.ref b43), .val (.int z74), .val (.int z78), .val (.ref b80), .val (.int z133), .val (.ref b135), .val (.int (-7 : Int32)), .val (.ref b193), .val (.int (b2i z283)), .unset, .unset]) rfl k) ?_
                      show Go p.tables e below (P0 Z p0 p1 p2 p3 p4 p5 h0 n0 s) (T262.setTop (mkF m 236 #[.val (.int p0), .val (.int p1), .val (.int p2), .val (.long p3), .second, .val (.long p4), .second, .val (.int p5), .val (.ref b1), .val (.ref b18), .val (.ref b43), .val (.int z74), .val (.int z78), .val (.ref b80), .val (.int z133), .val (.ref b135), .val (.int (-7 : Int32)), .val (.ref b193), .val (.int (b2i z283)), .unset, .unset] []))
                      refine Go.back (fun t k => XS.iload Y262.here hx rfl (hb hby at_236) rfl  k) ?_
                      show Go p.tables e below (P0 Z p0 p1 p2 p3 p4 p5 h0 n0 s) (T262.setTop (mkF m 238 #[.val (.int p0), .val (.int p1), .val (.int p2), .val (.long p3), .second, .val (.long p4), .second, .val (.int p5), .val (.ref b1), .val (.ref b18), .val (.ref b43), .val (.int z74), .val (.int z78), .val (.ref b80), .val (.int z133), .val (.ref b135), .val (.int (-7 : Int32)), .val (.ref b193), .val (.int (b2i z283)), .unset, .unset] [(.int z78)]))
                      refine Go.back (fun t k => XS.iconst Y262.here hx rfl (hb hby at_238) k) ?_
                      show Go p.tables e below (P0 Z p0 p1 p2 p3 p4 p5 h0 n0 s) (T262.setTop (mkF m 239 #[.val (.int p0), .val (.int p1), .val (.int p2), .val (.long p3), .second, .val (.long p4), .second, .val (.int p5), .val (.ref b1), .val (.ref b18), .val (.ref b43), .val (.int z74), .val (.int z78), .val (.ref b80), .val (.int z133), .val (.ref b135), .val (.int (-7 : Int32)), .val (.ref b193), .val (.int (b2i z283)), .unset, .unset] [(.int (1 : Int32)), (.int z78)]))
                      have J286 : ∀ (z287 : Bool) (hz287 : z287 = (if (1 : Int32) < z78 then (if (List.getD z279 ((1 : Int32)).toNatClampNeg (0 : Int32)) = (List.getD z70 (z74).toNatClampNeg (0 : Int32)) then true else false) else (if (List.getD z279 ((1 : Int32)).toNatClampNeg (0 : Int32)) = (-7 : Int32) then true else false))), Go p.tables e below (P0 Z p0 p1 p2 p3 p4 p5 h0 n0 s) (T262.setTop (mkF m 276 #[.val (.int p0), .val (.int p1), .val (.int p2), .val (.long p3), .second, .val (.long p4), .second, .val (.int p5), .val (.ref b1), .val (.ref b18), .val (.ref b43), .val (.int z74), .val (.int z78), .val (.ref b80), .val (.int z133), .val (.ref b135), .val (.int (-7 : Int32)), .val (.ref b193), .val (.int (b2i z283)), .unset, .unset] [(.int (b2i z287))])) := by
                        intro z287 hz287
                        have r288 : f0 p0 p1 p2 p3 p4 p5 = (let z292 : Bool := (if (List.getD z279 ((2 : Int32)).toNatClampNeg (0 : Int32)) = (-7 : Int32) then true else false); (let z296 : Bool := (if z283 = true then (if z287 = true then (if z292 = true then true else false) else false) else false); z296)) := by subst hz287; exact r284
                        show Go p.tables e below (P0 Z p0 p1 p2 p3 p4 p5 h0 n0 s) (T262.setTop (mkF m 276 #[.val (.int p0), .val (.int p1), .val (.int p2), .val (.long p3), .second, .val (.long p4), .second, .val (.int p5), .val (.ref b1), .val (.ref b18), .val (.ref b43), .val (.int z74), .val (.int z78), .val (.ref b80), .val (.int z133), .val (.ref b135), .val (.int (-7 : Int32)), .val (.ref b193), .val (.int (b2i z283)), .unset, .unset] [(.int (b2i z287))]))
                        refine Go.back (fun t k => XS.istore Y262.here hx rfl (hb hby at_276) rfl (l' := #[.val (.int p0), .val (.int p1), .val (.int p2), .val (.long p3), .second, .val (.long p4), .second, .val (.int p5), .val (.ref b1), .val (.ref b18), .val (.ref b43), .val (.int z74), .val (.int z78), .val (.ref b80), .val (.int z133), .val (.ref b135), .val (.int (-7 : Int32)), .val (.ref b193), .val (.int (b2i z283)), .val (.int (b2i z287)), .unset]) rfl k) ?_
                        show Go p.tables e below (P0 Z p0 p1 p2 p3 p4 p5 h0 n0 s) (T262.setTop (mkF m 278 #[.val (.int p0), .val (.int p1), .val (.int p2), .val (.long p3), .second, .val (.long p4), .second, .val (.int p5), .val (.ref b1), .val (.ref b18), .val (.ref b43), .val (.int z74), .val (.int z78), .val (.ref b80), .val (.int z133), .val (.ref b135), .val (.int (-7 : Int32)), .val (.ref b193), .val (.int (b2i z283)), .val (.int (b2i z287)), .unset] []))
                        refine Go.back (fun t k => XS.aload Y262.here hx rfl (hb hby at_278) rfl rfl  k) ?_
                        show Go p.tables e below (P0 Z p0 p1 p2 p3 p4 p5 h0 n0 s) (T262.setTop (mkF m 280 #[.val (.int p0), .val (.int p1), .val (.int p2), .val (.long p3), .second, .val (.long p4), .second, .val (.int p5), .val (.ref b1), .val (.ref b18), .val (.ref b43), .val (.int z74), .val (.int z78), .val (.ref b80), .val (.int z133), .val (.ref b135), .val (.int (-7 : Int32)), .val (.ref b193), .val (.int (b2i z283)), .val (.int (b2i z287)), .unset] [(.ref b193)]))
                        refine Go.back (fun t k => XS.iconst Y262.here hx rfl (hb hby at_280) k) ?_
                        show Go p.tables e below (P0 Z p0 p1 p2 p3 p4 p5 h0 n0 s) (T262.setTop (mkF m 281 #[.val (.int p0), .val (.int p1), .val (.int p2), .val (.long p3), .second, .val (.long p4), .second, .val (.int p5), .val (.ref b1), .val (.ref b18), .val (.ref b43), .val (.int z74), .val (.int z78), .val (.ref b80), .val (.int z133), .val (.ref b135), .val (.int (-7 : Int32)), .val (.ref b193), .val (.int (b2i z283)), .val (.int (b2i z287)), .unset] [(.int (2 : Int32)), (.ref b193)]))
                        obtain ⟨cl289, Ar289, hi289, ha289⟩ := F278.get (j := (2 : Int32)) (by decide) (v := (.int (List.getD z279 ((2 : Int32)).toNatClampNeg (0 : Int32)))) (getI z279 (Nat.lt_of_lt_of_eq (by decide : ((2 : Int32)).toNatClampNeg < 3) (Eq.symm (by rw [hz279, own_sts_len]; rfl))))
                        refine Go.back (fun t k => Y262.iaload hx (j := (2 : Int32)) (v := (.int (List.getD z279 ((2 : Int32)).toNatClampNeg (0 : Int32)))) (by rw [e262]; exact Ar289.1) (State.isArrayOf_alike hZ.alike Ar289.2.1) Ar289.2.2 hi289 ha289 (g := (mkF m 281 #[.val (.int p0), .val (.int p1), .val (.int p2), .val (.long p3), .second, .val (.long p4), .second, .val (.int p5), .val (.ref b1), .val (.ref b18), .val (.ref b43), .val (.int z74), .val (.int z78), .val (.ref b80), .val (.int z133), .val (.ref b135), .val (.int (-7 : Int32)), .val (.ref b193), .val (.int (b2i z283)), .val (.int (b2i z287)), .unset] [(.int (2 : Int32)), (.ref b193)])) rfl rfl (hb hby at_281) t k) ?_
                        show Go p.tables e below (P0 Z p0 p1 p2 p3 p4 p5 h0 n0 s) (T262.setTop (mkF m 282 #[.val (.int p0), .val (.int p1), .val (.int p2), .val (.long p3), .second, .val (.long p4), .second, .val (.int p5), .val (.ref b1), .val (.ref b18), .val (.ref b43), .val (.int z74), .val (.int z78), .val (.ref b80), .val (.int z133), .val (.ref b135), .val (.int (-7 : Int32)), .val (.ref b193), .val (.int (b2i z283)), .val (.int (b2i z287)), .unset] [(.int (List.getD z279 ((2 : Int32)).toNatClampNeg (0 : Int32)))]))
                        refine Go.back (fun t k => XS.iload Y262.here hx rfl (hb hby at_282) rfl  k) ?_
                        show Go p.tables e below (P0 Z p0 p1 p2 p3 p4 p5 h0 n0 s) (T262.setTop (mkF m 284 #[.val (.int p0), .val (.int p1), .val (.int p2), .val (.long p3), .second, .val (.long p4), .second, .val (.int p5), .val (.ref b1), .val (.ref b18), .val (.ref b43), .val (.int z74), .val (.int z78), .val (.ref b80), .val (.int z133), .val (.ref b135), .val (.int (-7 : Int32)), .val (.ref b193), .val (.int (b2i z283)), .val (.int (b2i z287)), .unset] [(.int (-7 : Int32)), (.int (List.getD z279 ((2 : Int32)).toNatClampNeg (0 : Int32)))]))
                        have J291 : ∀ (z292 : Bool) (hz292 : z292 = (if (List.getD z279 ((2 : Int32)).toNatClampNeg (0 : Int32)) = (-7 : Int32) then true else false)), Go p.tables e below (P0 Z p0 p1 p2 p3 p4 p5 h0 n0 s) (T262.setTop (mkF m 292 #[.val (.int p0), .val (.int p1), .val (.int p2), .val (.long p3), .second, .val (.long p4), .second, .val (.int p5), .val (.ref b1), .val (.ref b18), .val (.ref b43), .val (.int z74), .val (.int z78), .val (.ref b80), .val (.int z133), .val (.ref b135), .val (.int (-7 : Int32)), .val (.ref b193), .val (.int (b2i z283)), .val (.int (b2i z287)), .unset] [(.int (b2i z292))])) := by
                          intro z292 hz292
                          have r293 : f0 p0 p1 p2 p3 p4 p5 = (let z296 : Bool := (if z283 = true then (if z287 = true then (if z292 = true then true else false) else false) else false); z296) := by subst hz292; exact r288
                          show Go p.tables e below (P0 Z p0 p1 p2 p3 p4 p5 h0 n0 s) (T262.setTop (mkF m 292 #[.val (.int p0), .val (.int p1), .val (.int p2), .val (.long p3), .second, .val (.long p4), .second, .val (.int p5), .val (.ref b1), .val (.ref b18), .val (.ref b43), .val (.int z74), .val (.int z78), .val (.ref b80), .val (.int z133), .val (.ref b135), .val (.int (-7 : Int32)), .val (.ref b193), .val (.int (b2i z283)), .val (.int (b2i z287)), .unset] [(.int (b2i z292))]))
                          refine Go.back (fun t k => XS.istore Y262.here hx rfl (hb hby at_292) rfl (l' := #[.val (.int p0), .val (.int p1), .val (.int p2), .val (.long p3), .second, .val (.long p4), .second, .val (.int p5), .val (.ref b1), .val (.ref b18), .val (.ref b43), .val (.int z74), .val (.int z78), .val (.ref b80), .val (.int z133), .val (.ref b135), .val (.int (-7 : Int32)), .val (.ref b193), .val (.int (b2i z283)), .val (.int (b2i z287)), .val (.int (b2i z292))]) rfl k) ?_
                          show Go p.tables e below (P0 Z p0 p1 p2 p3 p4 p5 h0 n0 s) (T262.setTop (mkF m 294 #[.val (.int p0), .val (.int p1), .val (.int p2), .val (.long p3), .second, .val (.long p4), .second, .val (.int p5), .val (.ref b1), .val (.ref b18), .val (.ref b43), .val (.int z74), .val (.int z78), .val (.ref b80), .val (.int z133), .val (.ref b135), .val (.int (-7 : Int32)), .val (.ref b193), .val (.int (b2i z283)), .val (.int (b2i z287)), .val (.int (b2i z292))] []))
                          refine Go.back (fun t k => XS.iload Y262.here hx rfl (hb hby at_294) rfl  k) ?_
                          show Go p.tables e below (P0 Z p0 p1 p2 p3 p4 p5 h0 n0 s) (T262.setTop (mkF m 296 #[.val (.int p0), .val (.int p1), .val (.int p2), .val (.long p3), .second, .val (.long p4), .second, .val (.int p5), .val (.ref b1), .val (.ref b18), .val (.ref b43), .val (.int z74), .val (.int z78), .val (.ref b80), .val (.int z133), .val (.ref b135), .val (.int (-7 : Int32)), .val (.ref b193), .val (.int (b2i z283)), .val (.int (b2i z287)), .val (.int (b2i z292))] [(.int (b2i z283))]))
                          have J295 : ∀ (z296 : Bool) (hz296 : z296 = (if z283 = true then (if z287 = true then (if z292 = true then true else false) else false) else false)), Go p.tables e below (P0 Z p0 p1 p2 p3 p4 p5 h0 n0 s) (T262.setTop (mkF m 314 #[.val (.int p0), .val (.int p1), .val (.int p2), .val (.long p3), .second, .val (.long p4), .second, .val (.int p5), .val (.ref b1), .val (.ref b18), .val (.ref b43), .val (.int z74), .val (.int z78), .val (.ref b80), .val (.int z133), .val (.ref b135), .val (.int (-7 : Int32)), .val (.ref b193), .val (.int (b2i z283)), .val (.int (b2i z287)), .val (.int (b2i z292))] [(.int (b2i z296))])) := by
                            intro z296 hz296
                            have r297 : f0 p0 p1 p2 p3 p4 p5 = z296 := by subst hz296; exact r293
                            show Go p.tables e below (P0 Z p0 p1 p2 p3 p4 p5 h0 n0 s) (T262.setTop (mkF m 314 #[.val (.int p0), .val (.int p1), .val (.int p2), .val (.long p3), .second, .val (.long p4), .second, .val (.int p5), .val (.ref b1), .val (.ref b18), .val (.ref b43), .val (.int z74), .val (.int z78), .val (.ref b80), .val (.int z133), .val (.ref b135), .val (.int (-7 : Int32)), .val (.ref b193), .val (.int (b2i z283)), .val (.int (b2i z287)), .val (.int (b2i z292))] [(.int (b2i z296))]))
                            exact Go.retB (b := z296) Y262 hx Bd.returns (hb hby at_314) Bd.notSynchronized ⟨by rw [r297], N262⟩ (by decide) (by decide)
                          have r298 : (if z283 = true then (if z287 = true then (if z292 = true then true else false) else false) else false) = (if z283 = true then (if z287 = true then (if z292 = true then true else false) else false) else false) := rfl
                          by_cases hc294 : z283 = true
                          · have r299 := r298.trans (if_pos hc294)
                            refine Go.back (fun t k => XS.ifNo Y262.here hx rfl (hb hby at_296) rfl ((if0 _ _).trans (feq (b2i_t hc294)).1) k) ?_
                            show Go p.tables e below (P0 Z p0 p1 p2 p3 p4 p5 h0 n0 s) (T262.setTop (mkF m 299 #[.val (.int p0), .val (.int p1), .val (.int p2), .val (.long p3), .second, .val (.long p4), .second, .val (.int p5), .val (.ref b1), .val (.ref b18), .val (.ref b43), .val (.int z74), .val (.int z78), .val (.ref b80), .val (.int z133), .val (.ref b135), .val (.int (-7 : Int32)), .val (.ref b193), .val (.int (b2i z283)), .val (.int (b2i z287)), .val (.int (b2i z292))] []))
                            refine Go.back (fun t k => XS.iload Y262.here hx rfl (hb hby at_299) rfl  k) ?_
                            show Go p.tables e below (P0 Z p0 p1 p2 p3 p4 p5 h0 n0 s) (T262.setTop (mkF m 301 #[.val (.int p0), .val (.int p1), .val (.int p2), .val (.long p3), .second, .val (.long p4), .second, .val (.int p5), .val (.ref b1), .val (.ref b18), .val (.ref b43), .val (.int z74), .val (.int z78), .val (.ref b80), .val (.int z133), .val (.ref b135), .val (.int (-7 : Int32)), .val (.ref b193), .val (.int (b2i z283)), .val (.int (b2i z287)), .val (.int (b2i z292))] [(.int (b2i z287))]))
                            by_cases hc300 : z287 = true
                            · have r301 := r299.trans (if_pos hc300)
                              refine Go.back (fun t k => XS.ifNo Y262.here hx rfl (hb hby at_301) rfl ((if0 _ _).trans (feq (b2i_t hc300)).1) k) ?_
                              show Go p.tables e below (P0 Z p0 p1 p2 p3 p4 p5 h0 n0 s) (T262.setTop (mkF m 304 #[.val (.int p0), .val (.int p1), .val (.int p2), .val (.long p3), .second, .val (.long p4), .second, .val (.int p5), .val (.ref b1), .val (.ref b18), .val (.ref b43), .val (.int z74), .val (.int z78), .val (.ref b80), .val (.int z133), .val (.ref b135), .val (.int (-7 : Int32)), .val (.ref b193), .val (.int (b2i z283)), .val (.int (b2i z287)), .val (.int (b2i z292))] []))
                              refine Go.back (fun t k => XS.iload Y262.here hx rfl (hb hby at_304) rfl  k) ?_
                              show Go p.tables e below (P0 Z p0 p1 p2 p3 p4 p5 h0 n0 s) (T262.setTop (mkF m 306 #[.val (.int p0), .val (.int p1), .val (.int p2), .val (.long p3), .second, .val (.long p4), .second, .val (.int p5), .val (.ref b1), .val (.ref b18), .val (.ref b43), .val (.int z74), .val (.int z78), .val (.ref b80), .val (.int z133), .val (.ref b135), .val (.int (-7 : Int32)), .val (.ref b193), .val (.int (b2i z283)), .val (.int (b2i z287)), .val (.int (b2i z292))] [(.int (b2i z292))]))
                              by_cases hc302 : z292 = true
                              · have r303 := r301.trans (if_pos hc302)
                                refine Go.back (fun t k => XS.ifNo Y262.here hx rfl (hb hby at_306) rfl ((if0 _ _).trans (feq (b2i_t hc302)).1) k) ?_
                                show Go p.tables e below (P0 Z p0 p1 p2 p3 p4 p5 h0 n0 s) (T262.setTop (mkF m 309 #[.val (.int p0), .val (.int p1), .val (.int p2), .val (.long p3), .second, .val (.long p4), .second, .val (.int p5), .val (.ref b1), .val (.ref b18), .val (.ref b43), .val (.int z74), .val (.int z78), .val (.ref b80), .val (.int z133), .val (.ref b135), .val (.int (-7 : Int32)), .val (.ref b193), .val (.int (b2i z283)), .val (.int (b2i z287)), .val (.int (b2i z292))] []))
                                refine Go.back (fun t k => XS.iconst Y262.here hx rfl (hb hby at_309) k) ?_
                                show Go p.tables e below (P0 Z p0 p1 p2 p3 p4 p5 h0 n0 s) (T262.setTop (mkF m 310 #[.val (.int p0), .val (.int p1), .val (.int p2), .val (.long p3), .second, .val (.long p4), .second, .val (.int p5), .val (.ref b1), .val (.ref b18), .val (.ref b43), .val (.int z74), .val (.int z78), .val (.ref b80), .val (.int z133), .val (.ref b135), .val (.int (-7 : Int32)), .val (.ref b193), .val (.int (b2i z283)), .val (.int (b2i z287)), .val (.int (b2i z292))] [(.int (1 : Int32))]))
                                refine Go.back (fun t k => XS.goto Y262.here hx rfl (pc0 := 310) (pc' := 314) rfl (hb hby at_310) (by decide) (by decide) k) ?_
                                show Go p.tables e below (P0 Z p0 p1 p2 p3 p4 p5 h0 n0 s) (T262.setTop (mkF m 314 #[.val (.int p0), .val (.int p1), .val (.int p2), .val (.long p3), .second, .val (.long p4), .second, .val (.int p5), .val (.ref b1), .val (.ref b18), .val (.ref b43), .val (.int z74), .val (.int z78), .val (.ref b80), .val (.int z133), .val (.ref b135), .val (.int (-7 : Int32)), .val (.ref b193), .val (.int (b2i z283)), .val (.int (b2i z287)), .val (.int (b2i z292))] [(.int (1 : Int32))]))
                                exact J295 true r303.symm
                              · have r304 := r301.trans (if_neg hc302)
                                refine Go.back (fun t k => XS.ifYes Y262.here hx rfl (pc0 := 306) (pc' := 313) rfl (hb hby at_306) rfl ((if0 _ _).trans (teq (b2i_f hc302)).1) (by decide) (by decide) k) ?_
                                show Go p.tables e below (P0 Z p0 p1 p2 p3 p4 p5 h0 n0 s) (T262.setTop (mkF m 313 #[.val (.int p0), .val (.int p1), .val (.int p2), .val (.long p3), .second, .val (.long p4), .second, .val (.int p5), .val (.ref b1), .val (.ref b18), .val (.ref b43), .val (.int z74), .val (.int z78), .val (.ref b80), .val (.int z133), .val (.ref b135), .val (.int (-7 : Int32)), .val (.ref b193), .val (.int (b2i z283)), .val (.int (b2i z287)), .val (.int (b2i z292))] []))
                                refine Go.back (fun t k => XS.iconst Y262.here hx rfl (hb hby at_313) k) ?_
                                show Go p.tables e below (P0 Z p0 p1 p2 p3 p4 p5 h0 n0 s) (T262.setTop (mkF m 314 #[.val (.int p0), .val (.int p1), .val (.int p2), .val (.long p3), .second, .val (.long p4), .second, .val (.int p5), .val (.ref b1), .val (.ref b18), .val (.ref b43), .val (.int z74), .val (.int z78), .val (.ref b80), .val (.int z133), .val (.ref b135), .val (.int (-7 : Int32)), .val (.ref b193), .val (.int (b2i z283)), .val (.int (b2i z287)), .val (.int (b2i z292))] [(.int (0 : Int32))]))
                                exact J295 false r304.symm
                            · have r305 := r299.trans (if_neg hc300)
                              refine Go.back (fun t k => XS.ifYes Y262.here hx rfl (pc0 := 301) (pc' := 313) rfl (hb hby at_301) rfl ((if0 _ _).trans (teq (b2i_f hc300)).1) (by decide) (by decide) k) ?_
                              show Go p.tables e below (P0 Z p0 p1 p2 p3 p4 p5 h0 n0 s) (T262.setTop (mkF m 313 #[.val (.int p0), .val (.int p1), .val (.int p2), .val (.long p3), .second, .val (.long p4), .second, .val (.int p5), .val (.ref b1), .val (.ref b18), .val (.ref b43), .val (.int z74), .val (.int z78), .val (.ref b80), .val (.int z133), .val (.ref b135), .val (.int (-7 : Int32)), .val (.ref b193), .val (.int (b2i z283)), .val (.int (b2i z287)), .val (.int (b2i z292))] []))
                              refine Go.back (fun t k => XS.iconst Y262.here hx rfl (hb hby at_313) k) ?_
                              show Go p.tables e below (P0 Z p0 p1 p2 p3 p4 p5 h0 n0 s) (T262.setTop (mkF m 314 #[.val (.int p0), .val (.int p1), .val (.int p2), .val (.long p3), .second, .val (.long p4), .second, .val (.int p5), .val (.ref b1), .val (.ref b18), .val (.ref b43), .val (.int z74), .val (.int z78), .val (.ref b80), .val (.int z133), .val (.ref b135), .val (.int (-7 : Int32)), .val (.ref b193), .val (.int (b2i z283)), .val (.int (b2i z287)), .val (.int (b2i z292))] [(.int (0 : Int32))]))
                              exact J295 false r305.symm
                          · have r306 := r298.trans (if_neg hc294)
                            refine Go.back (fun t k => XS.ifYes Y262.here hx rfl (pc0 := 296) (pc' := 313) rfl (hb hby at_296) rfl ((if0 _ _).trans (teq (b2i_f hc294)).1) (by decide) (by decide) k) ?_
                            show Go p.tables e below (P0 Z p0 p1 p2 p3 p4 p5 h0 n0 s) (T262.setTop (mkF m 313 #[.val (.int p0), .val (.int p1), .val (.int p2), .val (.long p3), .second, .val (.long p4), .second, .val (.int p5), .val (.ref b1), .val (.ref b18), .val (.ref b43), .val (.int z74), .val (.int z78), .val (.ref b80), .val (.int z133), .val (.ref b135), .val (.int (-7 : Int32)), .val (.ref b193), .val (.int (b2i z283)), .val (.int (b2i z287)), .val (.int (b2i z292))] []))
                            refine Go.back (fun t k => XS.iconst Y262.here hx rfl (hb hby at_313) k) ?_
                            show Go p.tables e below (P0 Z p0 p1 p2 p3 p4 p5 h0 n0 s) (T262.setTop (mkF m 314 #[.val (.int p0), .val (.int p1), .val (.int p2), .val (.long p3), .second, .val (.long p4), .second, .val (.int p5), .val (.ref b1), .val (.ref b18), .val (.ref b43), .val (.int z74), .val (.int z78), .val (.ref b80), .val (.int z133), .val (.ref b135), .val (.int (-7 : Int32)), .val (.ref b193), .val (.int (b2i z283)), .val (.int (b2i z287)), .val (.int (b2i z292))] [(.int (0 : Int32))]))
                            exact J295 false r306.symm
                        have r307 : (if (List.getD z279 ((2 : Int32)).toNatClampNeg (0 : Int32)) = (-7 : Int32) then true else false) = (if (List.getD z279 ((2 : Int32)).toNatClampNeg (0 : Int32)) = (-7 : Int32) then true else false) := rfl
                        by_cases hc290 : (List.getD z279 ((2 : Int32)).toNatClampNeg (0 : Int32)) = (-7 : Int32)
                        · have r308 := r307.trans (if_pos hc290)
                          refine Go.back (fun t k => XS.icmpNo Y262.here hx rfl (hb hby at_284) rfl (teq hc290).2 k) ?_
                          show Go p.tables e below (P0 Z p0 p1 p2 p3 p4 p5 h0 n0 s) (T262.setTop (mkF m 287 #[.val (.int p0), .val (.int p1), .val (.int p2), .val (.long p3), .second, .val (.long p4), .second, .val (.int p5), .val (.ref b1), .val (.ref b18), .val (.ref b43), .val (.int z74), .val (.int z78), .val (.ref b80), .val (.int z133), .val (.ref b135), .val (.int (-7 : Int32)), .val (.ref b193), .val (.int (b2i z283)), .val (.int (b2i z287)), .unset] []))
                          refine Go.back (fun t k => XS.iconst Y262.here hx rfl (hb hby at_287) k) ?_
                          show Go p.tables e below (P0 Z p0 p1 p2 p3 p4 p5 h0 n0 s) (T262.setTop (mkF m 288 #[.val (.int p0), .val (.int p1), .val (.int p2), .val (.long p3), .second, .val (.long p4), .second, .val (.int p5), .val (.ref b1), .val (.ref b18), .val (.ref b43), .val (.int z74), .val (.int z78), .val (.ref b80), .val (.int z133), .val (.ref b135), .val (.int (-7 : Int32)), .val (.ref b193), .val (.int (b2i z283)), .val (.int (b2i z287)), .unset] [(.int (1 : Int32))]))
                          refine Go.back (fun t k => XS.goto Y262.here hx rfl (pc0 := 288) (pc' := 292) rfl (hb hby at_288) (by decide) (by decide) k) ?_
                          show Go p.tables e below (P0 Z p0 p1 p2 p3 p4 p5 h0 n0 s) (T262.setTop (mkF m 292 #[.val (.int p0), .val (.int p1), .val (.int p2), .val (.long p3), .second, .val (.long p4), .second, .val (.int p5), .val (.ref b1), .val (.ref b18), .val (.ref b43), .val (.int z74), .val (.int z78), .val (.ref b80), .val (.int z133), .val (.ref b135), .val (.int (-7 : Int32)), .val (.ref b193), .val (.int (b2i z283)), .val (.int (b2i z287)), .unset] [(.int (1 : Int32))]))
                          exact J291 true r308.symm
                        · have r309 := r307.trans (if_neg hc290)
                          refine Go.back (fun t k => XS.icmpYes Y262.here hx rfl (pc0 := 284) (pc' := 291) rfl (hb hby at_284) rfl (feq hc290).2 (by decide) (by decide) k) ?_
                          show Go p.tables e below (P0 Z p0 p1 p2 p3 p4 p5 h0 n0 s) (T262.setTop (mkF m 291 #[.val (.int p0), .val (.int p1), .val (.int p2), .val (.long p3), .second, .val (.long p4), .second, .val (.int p5), .val (.ref b1), .val (.ref b18), .val (.ref b43), .val (.int z74), .val (.int z78), .val (.ref b80), .val (.int z133), .val (.ref b135), .val (.int (-7 : Int32)), .val (.ref b193), .val (.int (b2i z283)), .val (.int (b2i z287)), .unset] []))
                          refine Go.back (fun t k => XS.iconst Y262.here hx rfl (hb hby at_291) k) ?_
                          show Go p.tables e below (P0 Z p0 p1 p2 p3 p4 p5 h0 n0 s) (T262.setTop (mkF m 292 #[.val (.int p0), .val (.int p1), .val (.int p2), .val (.long p3), .second, .val (.long p4), .second, .val (.int p5), .val (.ref b1), .val (.ref b18), .val (.ref b43), .val (.int z74), .val (.int z78), .val (.ref b80), .val (.int z133), .val (.ref b135), .val (.int (-7 : Int32)), .val (.ref b193), .val (.int (b2i z283)), .val (.int (b2i z287)), .unset] [(.int (0 : Int32))]))
                          exact J291 false r309.symm
                      have r310 : (if (1 : Int32) < z78 then (if (List.getD z279 ((1 : Int32)).toNatClampNeg (0 : Int32)) = (List.getD z70 (z74).toNatClampNeg (0 : Int32)) then true else false) else (if (List.getD z279 ((1 : Int32)).toNatClampNeg (0 : Int32)) = (-7 : Int32) then true else false)) = (if (1 : Int32) < z78 then (if (List.getD z279 ((1 : Int32)).toNatClampNeg (0 : Int32)) = (List.getD z70 (z74).toNatClampNeg (0 : Int32)) then true else false) else (if (List.getD z279 ((1 : Int32)).toNatClampNeg (0 : Int32)) = (-7 : Int32) then true else false)) := rfl
                      by_cases hc285 : (1 : Int32) < z78
                      · have r311 := r310.trans (if_pos hc285)
                        refine Go.back (fun t k => XS.icmpNo Y262.here hx rfl (hb hby at_239) rfl (tlt hc285).2.2.2 k) ?_
                        show Go p.tables e below (P0 Z p0 p1 p2 p3 p4 p5 h0 n0 s) (T262.setTop (mkF m 242 #[.val (.int p0), .val (.int p1), .val (.int p2), .val (.long p3), .second, .val (.long p4), .second, .val (.int p5), .val (.ref b1), .val (.ref b18), .val (.ref b43), .val (.int z74), .val (.int z78), .val (.ref b80), .val (.int z133), .val (.ref b135), .val (.int (-7 : Int32)), .val (.ref b193), .val (.int (b2i z283)), .unset, .unset] []))
                        refine Go.back (fun t k => XS.aload Y262.here hx rfl (hb hby at_242) rfl rfl  k) ?_
                        show Go p.tables e below (P0 Z p0 p1 p2 p3 p4 p5 h0 n0 s) (T262.setTop (mkF m 244 #[.val (.int p0), .val (.int p1), .val (.int p2), .val (.long p3), .second, .val (.long p4), .second, .val (.int p5), .val (.ref b1), .val (.ref b18), .val (.ref b43), .val (.int z74), .val (.int z78), .val (.ref b80), .val (.int z133), .val (.ref b135), .val (.int (-7 : Int32)), .val (.ref b193), .val (.int (b2i z283)), .unset, .unset] [(.ref b193)]))
                        refine Go.back (fun t k => XS.iconst Y262.here hx rfl (hb hby at_244) k) ?_
                        show Go p.tables e below (P0 Z p0 p1 p2 p3 p4 p5 h0 n0 s) (T262.setTop (mkF m 245 #[.val (.int p0), .val (.int p1), .val (.int p2), .val (.long p3), .second, .val (.long p4), .second, .val (.int p5), .val (.ref b1), .val (.ref b18), .val (.ref b43), .val (.int z74), .val (.int z78), .val (.ref b80), .val (.int z133), .val (.ref b135), .val (.int (-7 : Int32)), .val (.ref b193), .val (.int (b2i z283)), .unset, .unset] [(.int (1 : Int32)), (.ref b193)]))
                        obtain ⟨cl312, Ar312, hi312, ha312⟩ := F278.get (j := (1 : Int32)) (by decide) (v := (.int (List.getD z279 ((1 : Int32)).toNatClampNeg (0 : Int32)))) (getI z279 (Nat.lt_of_lt_of_eq (by decide : ((1 : Int32)).toNatClampNeg < 3) (Eq.symm (by rw [hz279, own_sts_len]; rfl))))
                        refine Go.back (fun t k => Y262.iaload hx (j := (1 : Int32)) (v := (.int (List.getD z279 ((1 : Int32)).toNatClampNeg (0 : Int32)))) (by rw [e262]; exact Ar312.1) (State.isArrayOf_alike hZ.alike Ar312.2.1) Ar312.2.2 hi312 ha312 (g := (mkF m 245 #[.val (.int p0), .val (.int p1), .val (.int p2), .val (.long p3), .second, .val (.long p4), .second, .val (.int p5), .val (.ref b1), .val (.ref b18), .val (.ref b43), .val (.int z74), .val (.int z78), .val (.ref b80), .val (.int z133), .val (.ref b135), .val (.int (-7 : Int32)), .val (.ref b193), .val (.int (b2i z283)), .unset, .unset] [(.int (1 : Int32)), (.ref b193)])) rfl rfl (hb hby at_245) t k) ?_
                        show Go p.tables e below (P0 Z p0 p1 p2 p3 p4 p5 h0 n0 s) (T262.setTop (mkF m 246 #[.val (.int p0), .val (.int p1), .val (.int p2), .val (.long p3), .second, .val (.long p4), .second, .val (.int p5), .val (.ref b1), .val (.ref b18), .val (.ref b43), .val (.int z74), .val (.int z78), .val (.ref b80), .val (.int z133), .val (.ref b135), .val (.int (-7 : Int32)), .val (.ref b193), .val (.int (b2i z283)), .unset, .unset] [(.int (List.getD z279 ((1 : Int32)).toNatClampNeg (0 : Int32)))]))
                        refine Go.back (fun t k => XS.aload Y262.here hx rfl (hb hby at_246) rfl rfl  k) ?_
                        show Go p.tables e below (P0 Z p0 p1 p2 p3 p4 p5 h0 n0 s) (T262.setTop (mkF m 248 #[.val (.int p0), .val (.int p1), .val (.int p2), .val (.long p3), .second, .val (.long p4), .second, .val (.int p5), .val (.ref b1), .val (.ref b18), .val (.ref b43), .val (.int z74), .val (.int z78), .val (.ref b80), .val (.int z133), .val (.ref b135), .val (.int (-7 : Int32)), .val (.ref b193), .val (.int (b2i z283)), .unset, .unset] [(.ref b43), (.int (List.getD z279 ((1 : Int32)).toNatClampNeg (0 : Int32)))]))
                        refine Go.back (fun t k => XS.iload Y262.here hx rfl (hb hby at_248) rfl  k) ?_
                        show Go p.tables e below (P0 Z p0 p1 p2 p3 p4 p5 h0 n0 s) (T262.setTop (mkF m 250 #[.val (.int p0), .val (.int p1), .val (.int p2), .val (.long p3), .second, .val (.long p4), .second, .val (.int p5), .val (.ref b1), .val (.ref b18), .val (.ref b43), .val (.int z74), .val (.int z78), .val (.ref b80), .val (.int z133), .val (.ref b135), .val (.int (-7 : Int32)), .val (.ref b193), .val (.int (b2i z283)), .unset, .unset] [(.int z74), (.ref b43), (.int (List.getD z279 ((1 : Int32)).toNatClampNeg (0 : Int32)))]))
                        obtain ⟨cl313, Ar313, hi313, ha313⟩ := F266.get (j := z74) (own_i3_of hz74).1 (v := (.int (List.getD z70 (z74).toNatClampNeg (0 : Int32)))) (getI z70 (own_ix (own_i3_of hz74) (by rw [hz70]; rfl)))
                        refine Go.back (fun t k => Y262.iaload hx (j := z74) (v := (.int (List.getD z70 (z74).toNatClampNeg (0 : Int32)))) (by rw [e262]; exact Ar313.1) (State.isArrayOf_alike hZ.alike Ar313.2.1) Ar313.2.2 hi313 ha313 (g := (mkF m 250 #[.val (.int p0), .val (.int p1), .val (.int p2), .val (.long p3), .second, .val (.long p4), .second, .val (.int p5), .val (.ref b1), .val (.ref b18), .val (.ref b43), .val (.int z74), .val (.int z78), .val (.ref b80), .val (.int z133), .val (.ref b135), .val (.int (-7 : Int32)), .val (.ref b193), .val (.int (b2i z283)), .unset, .unset] [(.int z74), (.ref b43), (.int (List.getD z279 ((1 : Int32)).toNatClampNeg (0 : Int32)))])) rfl rfl (hb hby at_250) t k) ?_
                        show Go p.tables e below (P0 Z p0 p1 p2 p3 p4 p5 h0 n0 s) (T262.setTop (mkF m 251 #[.val (.int p0), .val (.int p1), .val (.int p2), .val (.long p3), .second, .val (.long p4), .second, .val (.int p5), .val (.ref b1), .val (.ref b18), .val (.ref b43), .val (.int z74), .val (.int z78), .val (.ref b80), .val (.int z133), .val (.ref b135), .val (.int (-7 : Int32)), .val (.ref b193), .val (.int (b2i z283)), .unset, .unset] [(.int (List.getD z70 (z74).toNatClampNeg (0 : Int32))), (.int (List.getD z279 ((1 : Int32)).toNatClampNeg (0 : Int32)))]))
                        by_cases hc314 : (List.getD z279 ((1 : Int32)).toNatClampNeg (0 : Int32)) = (List.getD z70 (z74).toNatClampNeg (0 : Int32))
                        · have r315 := r311.trans (if_pos hc314)
                          refine Go.back (fun t k => XS.icmpNo Y262.here hx rfl (hb hby at_251) rfl (teq hc314).2 k) ?_
                          show Go p.tables e below (P0 Z p0 p1 p2 p3 p4 p5 h0 n0 s) (T262.setTop (mkF m 254 #[.val (.int p0), .val (.int p1), .val (.int p2), .val (.long p3), .second, .val (.long p4), .second, .val (.int p5), .val (.ref b1), .val (.ref b18), .val (.ref b43), .val (.int z74), .val (.int z78), .val (.ref b80), .val (.int z133), .val (.ref b135), .val (.int (-7 : Int32)), .val (.ref b193), .val (.int (b2i z283)), .unset, .unset] []))
                          refine Go.back (fun t k => XS.iconst Y262.here hx rfl (hb hby at_254) k) ?_
                          show Go p.tables e below (P0 Z p0 p1 p2 p3 p4 p5 h0 n0 s) (T262.setTop (mkF m 255 #[.val (.int p0), .val (.int p1), .val (.int p2), .val (.long p3), .second, .val (.long p4), .second, .val (.int p5), .val (.ref b1), .val (.ref b18), .val (.ref b43), .val (.int z74), .val (.int z78), .val (.ref b80), .val (.int z133), .val (.ref b135), .val (.int (-7 : Int32)), .val (.ref b193), .val (.int (b2i z283)), .unset, .unset] [(.int (1 : Int32))]))
                          refine Go.back (fun t k => XS.goto Y262.here hx rfl (pc0 := 255) (pc' := 276) rfl (hb hby at_255) (by decide) (by decide) k) ?_
                          show Go p.tables e below (P0 Z p0 p1 p2 p3 p4 p5 h0 n0 s) (T262.setTop (mkF m 276 #[.val (.int p0), .val (.int p1), .val (.int p2), .val (.long p3), .second, .val (.long p4), .second, .val (.int p5), .val (.ref b1), .val (.ref b18), .val (.ref b43), .val (.int z74), .val (.int z78), .val (.ref b80), .val (.int z133), .val (.ref b135), .val (.int (-7 : Int32)), .val (.ref b193), .val (.int (b2i z283)), .unset, .unset] [(.int (1 : Int32))]))
                          exact J286 true r315.symm
                        · have r316 := r311.trans (if_neg hc314)
                          refine Go.back (fun t k => XS.icmpYes Y262.here hx rfl (pc0 := 251) (pc' := 258) rfl (hb hby at_251) rfl (feq hc314).2 (by decide) (by decide) k) ?_
                          show Go p.tables e below (P0 Z p0 p1 p2 p3 p4 p5 h0 n0 s) (T262.setTop (mkF m 258 #[.val (.int p0), .val (.int p1), .val (.int p2), .val (.long p3), .second, .val (.long p4), .second, .val (.int p5), .val (.ref b1), .val (.ref b18), .val (.ref b43), .val (.int z74), .val (.int z78), .val (.ref b80), .val (.int z133), .val (.ref b135), .val (.int (-7 : Int32)), .val (.ref b193), .val (.int (b2i z283)), .unset, .unset] []))
                          refine Go.back (fun t k => XS.iconst Y262.here hx rfl (hb hby at_258) k) ?_
                          show Go p.tables e below (P0 Z p0 p1 p2 p3 p4 p5 h0 n0 s) (T262.setTop (mkF m 259 #[.val (.int p0), .val (.int p1), .val (.int p2), .val (.long p3), .second, .val (.long p4), .second, .val (.int p5), .val (.ref b1), .val (.ref b18), .val (.ref b43), .val (.int z74), .val (.int z78), .val (.ref b80), .val (.int z133), .val (.ref b135), .val (.int (-7 : Int32)), .val (.ref b193), .val (.int (b2i z283)), .unset, .unset] [(.int (0 : Int32))]))
                          refine Go.back (fun t k => XS.goto Y262.here hx rfl (pc0 := 259) (pc' := 276) rfl (hb hby at_259) (by decide) (by decide) k) ?_
                          show Go p.tables e below (P0 Z p0 p1 p2 p3 p4 p5 h0 n0 s) (T262.setTop (mkF m 276 #[.val (.int p0), .val (.int p1), .val (.int p2), .val (.long p3), .second, .val (.long p4), .second, .val (.int p5), .val (.ref b1), .val (.ref b18), .val (.ref b43), .val (.int z74), .val (.int z78), .val (.ref b80), .val (.int z133), .val (.ref b135), .val (.int (-7 : Int32)), .val (.ref b193), .val (.int (b2i z283)), .unset, .unset] [(.int (0 : Int32))]))
                          exact J286 false r316.symm
                      · have r317 := r310.trans (if_neg hc285)
                        refine Go.back (fun t k => XS.icmpYes Y262.here hx rfl (pc0 := 239) (pc' := 262) rfl (hb hby at_239) rfl (flt hc285).2.2.2 (by decide) (by decide) k) ?_
                        show Go p.tables e below (P0 Z p0 p1 p2 p3 p4 p5 h0 n0 s) (T262.setTop (mkF m 262 #[.val (.int p0), .val (.int p1), .val (.int p2), .val (.long p3), .second, .val (.long p4), .second, .val (.int p5), .val (.ref b1), .val (.ref b18), .val (.ref b43), .val (.int z74), .val (.int z78), .val (.ref b80), .val (.int z133), .val (.ref b135), .val (.int (-7 : Int32)), .val (.ref b193), .val (.int (b2i z283)), .unset, .unset] []))
                        refine Go.back (fun t k => XS.aload Y262.here hx rfl (hb hby at_262) rfl rfl  k) ?_
                        show Go p.tables e below (P0 Z p0 p1 p2 p3 p4 p5 h0 n0 s) (T262.setTop (mkF m 264 #[.val (.int p0), .val (.int p1), .val (.int p2), .val (.long p3), .second, .val (.long p4), .second, .val (.int p5), .val (.ref b1), .val (.ref b18), .val (.ref b43), .val (.int z74), .val (.int z78), .val (.ref b80), .val (.int z133), .val (.ref b135), .val (.int (-7 : Int32)), .val (.ref b193), .val (.int (b2i z283)), .unset, .unset] [(.ref b193)]))
                        refine Go.back (fun t k => XS.iconst Y262.here hx rfl (hb hby at_264) k) ?_
                        show Go p.tables e below (P0 Z p0 p1 p2 p3 p4 p5 h0 n0 s) (T262.setTop (mkF m 265 #[.val (.int p0), .val (.int p1), .val (.int p2), .val (.long p3), .second, .val (.long p4), .second, .val (.int p5), .val (.ref b1), .val (.ref b18), .val (.ref b43), .val (.int z74), .val (.int z78), .val (.ref b80), .val (.int z133), .val (.ref b135), .val (.int (-7 : Int32)), .val (.ref b193), .val (.int (b2i z283)), .unset, .unset] [(.int (1 : Int32)), (.ref b193)]))
                        obtain ⟨cl318, Ar318, hi318, ha318⟩ := F278.get (j := (1 : Int32)) (by decide) (v := (.int (List.getD z279 ((1 : Int32)).toNatClampNeg (0 : Int32)))) (getI z279 (Nat.lt_of_lt_of_eq (by decide : ((1 : Int32)).toNatClampNeg < 3) (Eq.symm (by rw [hz279, own_sts_len]; rfl))))
                        refine Go.back (fun t k => Y262.iaload hx (j := (1 : Int32)) (v := (.int (List.getD z279 ((1 : Int32)).toNatClampNeg (0 : Int32)))) (by rw [e262]; exact Ar318.1) (State.isArrayOf_alike hZ.alike Ar318.2.1) Ar318.2.2 hi318 ha318 (g := (mkF m 265 #[.val (.int p0), .val (.int p1), .val (.int p2), .val (.long p3), .second, .val (.long p4), .second, .val (.int p5), .val (.ref b1), .val (.ref b18), .val (.ref b43), .val (.int z74), .val (.int z78), .val (.ref b80), .val (.int z133), .val (.ref b135), .val (.int (-7 : Int32)), .val (.ref b193), .val (.int (b2i z283)), .unset, .unset] [(.int (1 : Int32)), (.ref b193)])) rfl rfl (hb hby at_265) t k) ?_
                        show Go p.tables e below (P0 Z p0 p1 p2 p3 p4 p5 h0 n0 s) (T262.setTop (mkF m 266 #[.val (.int p0), .val (.int p1), .val (.int p2), .val (.long p3), .second, .val (.long p4), .second, .val (.int p5), .val (.ref b1), .val (.ref b18), .val (.ref b43), .val (.int z74), .val (.int z78), .val (.ref b80), .val (.int z133), .val (.ref b135), .val (.int (-7 : Int32)), .val (.ref b193), .val (.int (b2i z283)), .unset, .unset] [(.int (List.getD z279 ((1 : Int32)).toNatClampNeg (0 : Int32)))]))
                        refine Go.back (fun t k => XS.iload Y262.here hx rfl (hb hby at_266) rfl  k) ?_
                        show Go p.tables e below (P0 Z p0 p1 p2 p3 p4 p5 h0 n0 s) (T262.setTop (mkF m 268 #[.val (.int p0), .val (.int p1), .val (.int p2), .val (.long p3), .second, .val (.long p4), .second, .val (.int p5), .val (.ref b1), .val (.ref b18), .val (.ref b43), .val (.int z74), .val (.int z78), .val (.ref b80), .val (.int z133), .val (.ref b135), .val (.int (-7 : Int32)), .val (.ref b193), .val (.int (b2i z283)), .unset, .unset] [(.int (-7 : Int32)), (.int (List.getD z279 ((1 : Int32)).toNatClampNeg (0 : Int32)))]))
                        by_cases hc319 : (List.getD z279 ((1 : Int32)).toNatClampNeg (0 : Int32)) = (-7 : Int32)
                        · have r320 := r317.trans (if_pos hc319)
                          refine Go.back (fun t k => XS.icmpNo Y262.here hx rfl (hb hby at_268) rfl (teq hc319).2 k) ?_
                          show Go p.tables e below (P0 Z p0 p1 p2 p3 p4 p5 h0 n0 s) (T262.setTop (mkF m 271 #[.val (.int p0), .val (.int p1), .val (.int p2), .val (.long p3), .second, .val (.long p4), .second, .val (.int p5), .val (.ref b1), .val (.ref b18), .val (.ref b43), .val (.int z74), .val (.int z78), .val (.ref b80), .val (.int z133), .val (.ref b135), .val (.int (-7 : Int32)), .val (.ref b193), .val (.int (b2i z283)), .unset, .unset] []))
                          refine Go.back (fun t k => XS.iconst Y262.here hx rfl (hb hby at_271) k) ?_
                          show Go p.tables e below (P0 Z p0 p1 p2 p3 p4 p5 h0 n0 s) (T262.setTop (mkF m 272 #[.val (.int p0), .val (.int p1), .val (.int p2), .val (.long p3), .second, .val (.long p4), .second, .val (.int p5), .val (.ref b1), .val (.ref b18), .val (.ref b43), .val (.int z74), .val (.int z78), .val (.ref b80), .val (.int z133), .val (.ref b135), .val (.int (-7 : Int32)), .val (.ref b193), .val (.int (b2i z283)), .unset, .unset] [(.int (1 : Int32))]))
                          refine Go.back (fun t k => XS.goto Y262.here hx rfl (pc0 := 272) (pc' := 276) rfl (hb hby at_272) (by decide) (by decide) k) ?_
                          show Go p.tables e below (P0 Z p0 p1 p2 p3 p4 p5 h0 n0 s) (T262.setTop (mkF m 276 #[.val (.int p0), .val (.int p1), .val (.int p2), .val (.long p3), .second, .val (.long p4), .second, .val (.int p5), .val (.ref b1), .val (.ref b18), .val (.ref b43), .val (.int z74), .val (.int z78), .val (.ref b80), .val (.int z133), .val (.ref b135), .val (.int (-7 : Int32)), .val (.ref b193), .val (.int (b2i z283)), .unset, .unset] [(.int (1 : Int32))]))
                          exact J286 true r320.symm
                        · have r321 := r317.trans (if_neg hc319)
                          refine Go.back (fun t k => XS.icmpYes Y262.here hx rfl (pc0 := 268) (pc' := 275) rfl (hb hby at_268) rfl (feq hc319).2 (by decide) (by decide) k) ?_
                          show Go p.tables e below (P0 Z p0 p1 p2 p3 p4 p5 h0 n0 s) (T262.setTop (mkF m 275 #[.val (.int p0), .val (.int p1), .val (.int p2), .val (.long p3), .second, .val (.long p4), .second, .val (.int p5), .val (.ref b1), .val (.ref b18), .val (.ref b43), .val (.int z74), .val (.int z78), .val (.ref b80), .val (.int z133), .val (.ref b135), .val (.int (-7 : Int32)), .val (.ref b193), .val (.int (b2i z283)), .unset, .unset] []))
                          refine Go.back (fun t k => XS.iconst Y262.here hx rfl (hb hby at_275) k) ?_
                          show Go p.tables e below (P0 Z p0 p1 p2 p3 p4 p5 h0 n0 s) (T262.setTop (mkF m 276 #[.val (.int p0), .val (.int p1), .val (.int p2), .val (.long p3), .second, .val (.long p4), .second, .val (.int p5), .val (.ref b1), .val (.ref b18), .val (.ref b43), .val (.int z74), .val (.int z78), .val (.ref b80), .val (.int z133), .val (.ref b135), .val (.int (-7 : Int32)), .val (.ref b193), .val (.int (b2i z283)), .unset, .unset] [(.int (0 : Int32))]))
                          exact J286 false r321.symm
                    have r322 : (if (0 : Int32) < z78 then (if (List.getD z279 ((0 : Int32)).toNatClampNeg (0 : Int32)) = (List.getD z40 (z74).toNatClampNeg (0 : Int32)) then true else false) else (if (List.getD z279 ((0 : Int32)).toNatClampNeg (0 : Int32)) = (-7 : Int32) then true else false)) = (if (0 : Int32) < z78 then (if (List.getD z279 ((0 : Int32)).toNatClampNeg (0 : Int32)) = (List.getD z40 (z74).toNatClampNeg (0 : Int32)) then true else false) else (if (List.getD z279 ((0 : Int32)).toNatClampNeg (0 : Int32)) = (-7 : Int32) then true else false)) := rfl
                    by_cases hc281 : (0 : Int32) < z78
                    · have r323 := r322.trans (if_pos hc281)
                      refine Go.back (fun t k => XS.ifNo Y262.here hx rfl (hb hby at_197) rfl ((if0 _ _).trans (tlt hc281).2.2.2) k) ?_
                      show Go p.tables e below (P0 Z p0 p1 p2 p3 p4 p5 h0 n0 s) (T262.setTop (mkF m 200 #[.val (.int p0), .val (.int p1), .val (.int p2), .val (.long p3), .second, .val (.long p4), .second, .val (.int p5), .val (.ref b1), .val (.ref b18), .val (.ref b43), .val (.int z74), .val (.int z78), .val (.ref b80), .val (.int z133), .val (.ref b135), .val (.int (-7 : Int32)), .val (.ref b193), .unset, .unset, .unset] []))
                      refine Go.back (fun t k => XS.aload Y262.here hx rfl (hb hby at_200) rfl rfl  k) ?_
                      show Go p.tables e below (P0 Z p0 p1 p2 p3 p4 p5 h0 n0 s) (T262.setTop (mkF m 202 #[.val (.int p0), .val (.int p1), .val (.int p2), .val (.long p3), .second, .val (.long p4), .second, .val (.int p5), .val (.ref b1), .val (.ref b18), .val (.ref b43), .val (.int z74), .val (.int z78), .val (.ref b80), .val (.int z133), .val (.ref b135), .val (.int (-7 : Int32)), .val (.ref b193), .unset, .unset, .unset] [(.ref b193)]))
                      refine Go.back (fun t k => XS.iconst Y262.here hx rfl (hb hby at_202) k) ?_
                      show Go p.tables e below (P0 Z p0 p1 p2 p3 p4 p5 h0 n0 s) (T262.setTop (mkF m 203 #[.val (.int p0), .val (.int p1), .val (.int p2), .val (.long p3), .second, .val (.long p4), .second, .val (.int p5), .val (.ref b1), .val (.ref b18), .val (.ref b43), .val (.int z74), .val (.int z78), .val (.ref b80), .val (.int z133), .val (.ref b135), .val (.int (-7 : Int32)), .val (.ref b193), .unset, .unset, .unset] [(.int (0 : Int32)), (.ref b193)]))
                      obtain ⟨cl324, Ar324, hi324, ha324⟩ := F278.get (j := (0 : Int32)) (by decide) (v := (.int (List.getD z279 ((0 : Int32)).toNatClampNeg (0 : Int32)))) (getI z279 (Nat.lt_of_lt_of_eq (by decide : ((0 : Int32)).toNatClampNeg < 3) (Eq.symm (by rw [hz279, own_sts_len]; rfl))))
                      refine Go.back (fun t k => Y262.iaload hx (j := (0 : Int32)) (v := (.int (List.getD z279 ((0 : Int32)).toNatClampNeg (0 : Int32)))) (by rw [e262]; exact Ar324.1) (State.isArrayOf_alike hZ.alike Ar324.2.1) Ar324.2.2 hi324 ha324 (g := (mkF m 203 #[.val (.int p0), .val (.int p1), .val (.int p2), .val (.long p3), .second, .val (.long p4), .second, .val (.int p5), .val (.ref b1), .val (.ref b18), .val (.ref b43), .val (.int z74), .val (.int z78), .val (.ref b80), .val (.int z133), .val (.ref b135), .val (.int (-7 : Int32)), .val (.ref b193), .unset, .unset, .unset] [(.int (0 : Int32)), (.ref b193)])) rfl rfl (hb hby at_203) t k) ?_
                      show Go p.tables e below (P0 Z p0 p1 p2 p3 p4 p5 h0 n0 s) (T262.setTop (mkF m 204 #[.val (.int p0), .val (.int p1), .val (.int p2), .val (.long p3), .second, .val (.long p4), .second, .val (.int p5), .val (.ref b1), .val (.ref b18), .val (.ref b43), .val (.int z74), .val (.int z78), .val (.ref b80), .val (.int z133), .val (.ref b135), .val (.int (-7 : Int32)), .val (.ref b193), .unset, .unset, .unset] [(.int (List.getD z279 ((0 : Int32)).toNatClampNeg (0 : Int32)))]))
                      refine Go.back (fun t k => XS.aload Y262.here hx rfl (hb hby at_204) rfl rfl  k) ?_
                      show Go p.tables e below (P0 Z p0 p1 p2 p3 p4 p5 h0 n0 s) (T262.setTop (mkF m 206 #[.val (.int p0), .val (.int p1), .val (.int p2), .val (.long p3), .second, .val (.long p4), .second, .val (.int p5), .val (.ref b1), .val (.ref b18), .val (.ref b43), .val (.int z74), .val (.int z78), .val (.ref b80), .val (.int z133), .val (.ref b135), .val (.int (-7 : Int32)), .val (.ref b193), .unset, .unset, .unset] [(.ref b18), (.int (List.getD z279 ((0 : Int32)).toNatClampNeg (0 : Int32)))]))
                      refine Go.back (fun t k => XS.iload Y262.here hx rfl (hb hby at_206) rfl  k) ?_
                      show Go p.tables e below (P0 Z p0 p1 p2 p3 p4 p5 h0 n0 s) (T262.setTop (mkF m 208 #[.val (.int p0), .val (.int p1), .val (.int p2), .val (.long p3), .second, .val (.long p4), .second, .val (.int p5), .val (.ref b1), .val (.ref b18), .val (.ref b43), .val (.int z74), .val (.int z78), .val (.ref b80), .val (.int z133), .val (.ref b135), .val (.int (-7 : Int32)), .val (.ref b193), .unset, .unset, .unset] [(.int z74), (.ref b18), (.int (List.getD z279 ((0 : Int32)).toNatClampNeg (0 : Int32)))]))
                      obtain ⟨cl325, Ar325, hi325, ha325⟩ := F265.get (j := z74) (own_i3_of hz74).1 (v := (.int (List.getD z40 (z74).toNatClampNeg (0 : Int32)))) (getI z40 (own_ix (own_i3_of hz74) (by rw [hz40]; rfl)))
                      refine Go.back (fun t k => Y262.iaload hx (j := z74) (v := (.int (List.getD z40 (z74).toNatClampNeg (0 : Int32)))) (by rw [e262]; exact Ar325.1) (State.isArrayOf_alike hZ.alike Ar325.2.1) Ar325.2.2 hi325 ha325 (g := (mkF m 208 #[.val (.int p0), .val (.int p1), .val (.int p2), .val (.long p3), .second, .val (.long p4), .second, .val (.int p5), .val (.ref b1), .val (.ref b18), .val (.ref b43), .val (.int z74), .val (.int z78), .val (.ref b80), .val (.int z133), .val (.ref b135), .val (.int (-7 : Int32)), .val (.ref b193), .unset, .unset, .unset] [(.int z74), (.ref b18), (.int (List.getD z279 ((0 : Int32)).toNatClampNeg (0 : Int32)))])) rfl rfl (hb hby at_208) t k) ?_
                      show Go p.tables e below (P0 Z p0 p1 p2 p3 p4 p5 h0 n0 s) (T262.setTop (mkF m 209 #[.val (.int p0), .val (.int p1), .val (.int p2), .val (.long p3), .second, .val (.long p4), .second, .val (.int p5), .val (.ref b1), .val (.ref b18), .val (.ref b43), .val (.int z74), .val (.int z78), .val (.ref b80), .val (.int z133), .val (.ref b135), .val (.int (-7 : Int32)), .val (.ref b193), .unset, .unset, .unset] [(.int (List.getD z40 (z74).toNatClampNeg (0 : Int32))), (.int (List.getD z279 ((0 : Int32)).toNatClampNeg (0 : Int32)))]))
                      by_cases hc326 : (List.getD z279 ((0 : Int32)).toNatClampNeg (0 : Int32)) = (List.getD z40 (z74).toNatClampNeg (0 : Int32))
                      · have r327 := r323.trans (if_pos hc326)
                        refine Go.back (fun t k => XS.icmpNo Y262.here hx rfl (hb hby at_209) rfl (teq hc326).2 k) ?_
                        show Go p.tables e below (P0 Z p0 p1 p2 p3 p4 p5 h0 n0 s) (T262.setTop (mkF m 212 #[.val (.int p0), .val (.int p1), .val (.int p2), .val (.long p3), .second, .val (.long p4), .second, .val (.int p5), .val (.ref b1), .val (.ref b18), .val (.ref b43), .val (.int z74), .val (.int z78), .val (.ref b80), .val (.int z133), .val (.ref b135), .val (.int (-7 : Int32)), .val (.ref b193), .unset, .unset, .unset] []))
                        refine Go.back (fun t k => XS.iconst Y262.here hx rfl (hb hby at_212) k) ?_
                        show Go p.tables e below (P0 Z p0 p1 p2 p3 p4 p5 h0 n0 s) (T262.setTop (mkF m 213 #[.val (.int p0), .val (.int p1), .val (.int p2), .val (.long p3), .second, .val (.long p4), .second, .val (.int p5), .val (.ref b1), .val (.ref b18), .val (.ref b43), .val (.int z74), .val (.int z78), .val (.ref b80), .val (.int z133), .val (.ref b135), .val (.int (-7 : Int32)), .val (.ref b193), .unset, .unset, .unset] [(.int (1 : Int32))]))
                        refine Go.back (fun t k => XS.goto Y262.here hx rfl (pc0 := 213) (pc' := 234) rfl (hb hby at_213) (by decide) (by decide) k) ?_
                        show Go p.tables e below (P0 Z p0 p1 p2 p3 p4 p5 h0 n0 s) (T262.setTop (mkF m 234 #[.val (.int p0), .val (.int p1), .val (.int p2), .val (.long p3), .second, .val (.long p4), .second, .val (.int p5), .val (.ref b1), .val (.ref b18), .val (.ref b43), .val (.int z74), .val (.int z78), .val (.ref b80), .val (.int z133), .val (.ref b135), .val (.int (-7 : Int32)), .val (.ref b193), .unset, .unset, .unset] [(.int (1 : Int32))]))
                        exact J282 true r327.symm
                      · have r328 := r323.trans (if_neg hc326)
                        refine Go.back (fun t k => XS.icmpYes Y262.here hx rfl (pc0 := 209) (pc' := 216) rfl (hb hby at_209) rfl (feq hc326).2 (by decide) (by decide) k) ?_
                        show Go p.tables e below (P0 Z p0 p1 p2 p3 p4 p5 h0 n0 s) (T262.setTop (mkF m 216 #[.val (.int p0), .val (.int p1), .val (.int p2), .val (.long p3), .second, .val (.long p4), .second, .val (.int p5), .val (.ref b1), .val (.ref b18), .val (.ref b43), .val (.int z74), .val (.int z78), .val (.ref b80), .val (.int z133), .val (.ref b135), .val (.int (-7 : Int32)), .val (.ref b193), .unset, .unset, .unset] []))
                        refine Go.back (fun t k => XS.iconst Y262.here hx rfl (hb hby at_216) k) ?_
                        show Go p.tables e below (P0 Z p0 p1 p2 p3 p4 p5 h0 n0 s) (T262.setTop (mkF m 217 #[.val (.int p0), .val (.int p1), .val (.int p2), .val (.long p3), .second, .val (.long p4), .second, .val (.int p5), .val (.ref b1), .val (.ref b18), .val (.ref b43), .val (.int z74), .val (.int z78), .val (.ref b80), .val (.int z133), .val (.ref b135), .val (.int (-7 : Int32)), .val (.ref b193), .unset, .unset, .unset] [(.int (0 : Int32))]))
                        refine Go.back (fun t k => XS.goto Y262.here hx rfl (pc0 := 217) (pc' := 234) rfl (hb hby at_217) (by decide) (by decide) k) ?_
                        show Go p.tables e below (P0 Z p0 p1 p2 p3 p4 p5 h0 n0 s) (T262.setTop (mkF m 234 #[.val (.int p0), .val (.int p1), .val (.int p2), .val (.long p3), .second, .val (.long p4), .second, .val (.int p5), .val (.ref b1), .val (.ref b18), .val (.ref b43), .val (.int z74), .val (.int z78), .val (.ref b80), .val (.int z133), .val (.ref b135), .val (.int (-7 : Int32)), .val (.ref b193), .unset, .unset, .unset] [(.int (0 : Int32))]))
                        exact J282 false r328.symm
                    · have r329 := r322.trans (if_neg hc281)
                      refine Go.back (fun t k => XS.ifYes Y262.here hx rfl (pc0 := 197) (pc' := 220) rfl (hb hby at_197) rfl ((if0 _ _).trans (flt hc281).2.2.2) (by decide) (by decide) k) ?_
                      show Go p.tables e below (P0 Z p0 p1 p2 p3 p4 p5 h0 n0 s) (T262.setTop (mkF m 220 #[.val (.int p0), .val (.int p1), .val (.int p2), .val (.long p3), .second, .val (.long p4), .second, .val (.int p5), .val (.ref b1), .val (.ref b18), .val (.ref b43), .val (.int z74), .val (.int z78), .val (.ref b80), .val (.int z133), .val (.ref b135), .val (.int (-7 : Int32)), .val (.ref b193), .unset, .unset, .unset] []))
                      refine Go.back (fun t k => XS.aload Y262.here hx rfl (hb hby at_220) rfl rfl  k) ?_
                      show Go p.tables e below (P0 Z p0 p1 p2 p3 p4 p5 h0 n0 s) (T262.setTop (mkF m 222 #[.val (.int p0), .val (.int p1), .val (.int p2), .val (.long p3), .second, .val (.long p4), .second, .val (.int p5), .val (.ref b1), .val (.ref b18), .val (.ref b43), .val (.int z74), .val (.int z78), .val (.ref b80), .val (.int z133), .val (.ref b135), .val (.int (-7 : Int32)), .val (.ref b193), .unset, .unset, .unset] [(.ref b193)]))
                      refine Go.back (fun t k => XS.iconst Y262.here hx rfl (hb hby at_222) k) ?_
                      show Go p.tables e below (P0 Z p0 p1 p2 p3 p4 p5 h0 n0 s) (T262.setTop (mkF m 223 #[.val (.int p0), .val (.int p1), .val (.int p2), .val (.long p3), .second, .val (.long p4), .second, .val (.int p5), .val (.ref b1), .val (.ref b18), .val (.ref b43), .val (.int z74), .val (.int z78), .val (.ref b80), .val (.int z133), .val (.ref b135), .val (.int (-7 : Int32)), .val (.ref b193), .unset, .unset, .unset] [(.int (0 : Int32)), (.ref b193)]))
                      obtain ⟨cl330, Ar330, hi330, ha330⟩ := F278.get (j := (0 : Int32)) (by decide) (v := (.int (List.getD z279 ((0 : Int32)).toNatClampNeg (0 : Int32)))) (getI z279 (Nat.lt_of_lt_of_eq (by decide : ((0 : Int32)).toNatClampNeg < 3) (Eq.symm (by rw [hz279, own_sts_len]; rfl))))
                      refine Go.back (fun t k => Y262.iaload hx (j := (0 : Int32)) (v := (.int (List.getD z279 ((0 : Int32)).toNatClampNeg (0 : Int32)))) (by rw [e262]; exact Ar330.1) (State.isArrayOf_alike hZ.alike Ar330.2.1) Ar330.2.2 hi330 ha330 (g := (mkF m 223 #[.val (.int p0), .val (.int p1), .val (.int p2), .val (.long p3), .second, .val (.long p4), .second, .val (.int p5), .val (.ref b1), .val (.ref b18), .val (.ref b43), .val (.int z74), .val (.int z78), .val (.ref b80), .val (.int z133), .val (.ref b135), .val (.int (-7 : Int32)), .val (.ref b193), .unset, .unset, .unset] [(.int (0 : Int32)), (.ref b193)])) rfl rfl (hb hby at_223) t k) ?_
                      show Go p.tables e below (P0 Z p0 p1 p2 p3 p4 p5 h0 n0 s) (T262.setTop (mkF m 224 #[.val (.int p0), .val (.int p1), .val (.int p2), .val (.long p3), .second, .val (.long p4), .second, .val (.int p5), .val (.ref b1), .val (.ref b18), .val (.ref b43), .val (.int z74), .val (.int z78), .val (.ref b80), .val (.int z133), .val (.ref b135), .val (.int (-7 : Int32)), .val (.ref b193), .unset, .unset, .unset] [(.int (List.getD z279 ((0 : Int32)).toNatClampNeg (0 : Int32)))]))
                      refine Go.back (fun t k => XS.iload Y262.here hx rfl (hb hby at_224) rfl  k) ?_
                      show Go p.tables e below (P0 Z p0 p1 p2 p3 p4 p5 h0 n0 s) (T262.setTop (mkF m 226 #[.val (.int p0), .val (.int p1), .val (.int p2), .val (.long p3), .second, .val (.long p4), .second, .val (.int p5), .val (.ref b1), .val (.ref b18), .val (.ref b43), .val (.int z74), .val (.int z78), .val (.ref b80), .val (.int z133), .val (.ref b135), .val (.int (-7 : Int32)), .val (.ref b193), .unset, .unset, .unset] [(.int (-7 : Int32)), (.int (List.getD z279 ((0 : Int32)).toNatClampNeg (0 : Int32)))]))
                      by_cases hc331 : (List.getD z279 ((0 : Int32)).toNatClampNeg (0 : Int32)) = (-7 : Int32)
                      · have r332 := r329.trans (if_pos hc331)
                        refine Go.back (fun t k => XS.icmpNo Y262.here hx rfl (hb hby at_226) rfl (teq hc331).2 k) ?_
                        show Go p.tables e below (P0 Z p0 p1 p2 p3 p4 p5 h0 n0 s) (T262.setTop (mkF m 229 #[.val (.int p0), .val (.int p1), .val (.int p2), .val (.long p3), .second, .val (.long p4), .second, .val (.int p5), .val (.ref b1), .val (.ref b18), .val (.ref b43), .val (.int z74), .val (.int z78), .val (.ref b80), .val (.int z133), .val (.ref b135), .val (.int (-7 : Int32)), .val (.ref b193), .unset, .unset, .unset] []))
                        refine Go.back (fun t k => XS.iconst Y262.here hx rfl (hb hby at_229) k) ?_
                        show Go p.tables e below (P0 Z p0 p1 p2 p3 p4 p5 h0 n0 s) (T262.setTop (mkF m 230 #[.val (.int p0), .val (.int p1), .val (.int p2), .val (.long p3), .second, .val (.long p4), .second, .val (.int p5), .val (.ref b1), .val (.ref b18), .val (.ref b43), .val (.int z74), .val (.int z78), .val (.ref b80), .val (.int z133), .val (.ref b135), .val (.int (-7 : Int32)), .val (.ref b193), .unset, .unset, .unset] [(.int (1 : Int32))]))
                        refine Go.back (fun t k => XS.goto Y262.here hx rfl (pc0 := 230) (pc' := 234) rfl (hb hby at_230) (by decide) (by decide) k) ?_
                        show Go p.tables e below (P0 Z p0 p1 p2 p3 p4 p5 h0 n0 s) (T262.setTop (mkF m 234 #[.val (.int p0), .val (.int p1), .val (.int p2), .val (.long p3), .second, .val (.long p4), .second, .val (.int p5), .val (.ref b1), .val (.ref b18), .val (.ref b43), .val (.int z74), .val (.int z78), .val (.ref b80), .val (.int z133), .val (.ref b135), .val (.int (-7 : Int32)), .val (.ref b193), .unset, .unset, .unset] [(.int (1 : Int32))]))
                        exact J282 true r332.symm
                      · have r333 := r329.trans (if_neg hc331)
                        refine Go.back (fun t k => XS.icmpYes Y262.here hx rfl (pc0 := 226) (pc' := 233) rfl (hb hby at_226) rfl (feq hc331).2 (by decide) (by decide) k) ?_
                        show Go p.tables e below (P0 Z p0 p1 p2 p3 p4 p5 h0 n0 s) (T262.setTop (mkF m 233 #[.val (.int p0), .val (.int p1), .val (.int p2), .val (.long p3), .second, .val (.long p4), .second, .val (.int p5), .val (.ref b1), .val (.ref b18), .val (.ref b43), .val (.int z74), .val (.int z78), .val (.ref b80), .val (.int z133), .val (.ref b135), .val (.int (-7 : Int32)), .val (.ref b193), .unset, .unset, .unset] []))
                        refine Go.back (fun t k => XS.iconst Y262.here hx rfl (hb hby at_233) k) ?_
                        show Go p.tables e below (P0 Z p0 p1 p2 p3 p4 p5 h0 n0 s) (T262.setTop (mkF m 234 #[.val (.int p0), .val (.int p1), .val (.int p2), .val (.long p3), .second, .val (.long p4), .second, .val (.int p5), .val (.ref b1), .val (.ref b18), .val (.ref b43), .val (.int z74), .val (.int z78), .val (.ref b80), .val (.int z133), .val (.ref b135), .val (.int (-7 : Int32)), .val (.ref b193), .unset, .unset, .unset] [(.int (0 : Int32))]))
                        exact J282 false r333.symm
                  exact J277 _ rfl t276
                exact J189 _ rfl t188
              exact J171 _ rfl t170
            exact J132 _ rfl
          exact J77 _ rfl
        exact J73 _ rfl
      exact J69 _ rfl F68
    exact J39 _ rfl F38
  exact J14 _ rfl F13
theorem own_hI_val (n : Int) (k : Nat) (hk : k ≤ 30) (h1 : ((2 ^ k : Nat) : Int) ≤ n) (h2 : n < ((2 ^ (k + 1) : Nat) : Int)) : own_hI n = 31 - k := by
  have hc : k = 0 ∨ k = 1 ∨ k = 2 ∨ k = 3 ∨ k = 4 ∨ k = 5 ∨ k = 6 ∨ k = 7 ∨ k = 8 ∨ k = 9 ∨ k = 10 ∨ k = 11 ∨ k = 12 ∨ k = 13 ∨ k = 14 ∨ k = 15 ∨ k = 16 ∨ k = 17 ∨ k = 18 ∨ k = 19 ∨ k = 20 ∨ k = 21 ∨ k = 22 ∨ k = 23 ∨ k = 24 ∨ k = 25 ∨ k = 26 ∨ k = 27 ∨ k = 28 ∨ k = 29 ∨ k = 30 := by omega
  unfold own_hI
  rcases hc with rfl | rfl | rfl | rfl | rfl | rfl | rfl | rfl | rfl | rfl | rfl | rfl | rfl | rfl | rfl | rfl | rfl | rfl | rfl | rfl | rfl | rfl | rfl | rfl | rfl | rfl | rfl | rfl | rfl | rfl | rfl <;> simp only [Nat.reducePow, Nat.reduceAdd] at h1 h2 <;> dsimp only <;> repeat' split <;> omega
theorem own_bw_lt (x : Int32) (h : 0 < (x - (1 : Int32)).toInt) : (x - (1 : Int32)).toInt < ((2 ^ (own_bw x).toInt.toNat : Nat) : Int) := by
  have hx := (rng32 (x - (1 : Int32))).2
  have e := own_bw1 x h
  generalize (x - (1 : Int32)).toInt = n at *
  have h1 := Nat.log2_self_le (n := n.toNat) (by omega)
  have h2 := @Nat.lt_log2_self n.toNat
  generalize hk : n.toNat.log2 = k at *
  have kk : k ≤ 30 := by
    rcases Nat.lt_or_ge k 31 with q | q
    · omega
    · have := Nat.pow_le_pow_right (show 0 < 2 by decide) q
      have : 2 ^ 31 = 2147483648 := by decide
      omega
  have v := own_hI_val n k kk (by omega) (by omega)
  rw [e, v, show (32 - (31 - (k : Int))).toNat = k + 1 by omega]
  omega
theorem own_stb (v : Int64) (x : Int32) : 0 ≤ (f1 v x).toInt ∧ (f1 v x).toInt < ((2 ^ (own_bw x).toInt.toNat : Nat) : Int) := by
  have pos : (0 : Int) < ((2 ^ (own_bw x).toInt.toNat : Nat) : Int) := by have := Nat.two_pow_pos (own_bw x).toInt.toNat; omega
  unfold f1
  by_cases c : (0 : Int32) < x
  · rw [if_pos c]
    rw [Int32.lt_iff_toInt_lt, own_l0] at c
    have m := c_maskL v 2147483647 31 (by decide) (by decide)
    have e : ((v &&& (2147483647 : Int64)) % x.toInt64).toInt = (v &&& (2147483647 : Int64)).toInt % x.toInt := by
      rw [Int64.toInt_mod, c_i2l]; exact Int.tmod_eq_emod_of_nonneg (by omega)
    have l := Int.emod_lt_of_pos (v &&& (2147483647 : Int64)).toInt c
    have g := Int.emod_nonneg (v &&& (2147483647 : Int64)).toInt (show x.toInt ≠ 0 by omega)
    have q := c_l2i ((v &&& (2147483647 : Int64)) % x.toInt64); have r := rng32 (((v &&& (2147483647 : Int64)) % x.toInt64).toInt32)
    have rx := rng32 x
    rw [e] at q
    have s := c_isub x 1; have rs := rng32 (x - 1); rw [own_l1] at s
    have xs : (x - (1 : Int32)).toInt = x.toInt - 1 := by omega
    have val : (((v &&& (2147483647 : Int64)) % x.toInt64).toInt32).toInt = (v &&& (2147483647 : Int64)).toInt % x.toInt := by omega
    rw [val]
    refine ⟨g, ?_⟩
    by_cases d : 0 < (x - (1 : Int32)).toInt
    · have := own_bw_lt x d; omega
    · omega
  · rw [if_neg c]; exact ⟨by decide, by rw [own_l0]; exact pos⟩
theorem own_Uor (x y : Int64) : (x ||| y).toBitVec.toNat = x.toBitVec.toNat ||| y.toBitVec.toNat := by show (x.toBitVec ||| y.toBitVec).toNat = _; rw [BitVec.toNat_or]
theorem own_Ushl (x : Int64) (q : Int32) (k : Nat) (hk : q.toBitVec.toNat % 64 = k) : (x <<< (q &&& 0x3f).toInt64).toBitVec.toNat = x.toBitVec.toNat * 2 ^ k % 2 ^ 64 := by
  show (x.toBitVec <<< ((q &&& 0x3f).toInt64.toBitVec.smod 64)).toNat = _
  rw [BitVec.shiftLeft_eq', (sm64 q k hk).1, smod64 k (sm64 q k hk).2, BitVec.toNat_shiftLeft, Nat.shiftLeft_eq]
theorem own_Ushr (x : Int64) (q : Int32) (k : Nat) (hk : q.toBitVec.toNat % 64 = k) : ((x.toUInt64 >>> (q &&& 0x3f).toInt64.toUInt64).toInt64).toBitVec.toNat = x.toBitVec.toNat / 2 ^ k := by
  have h5 := (sm64 q k hk).2
  show (x.toBitVec >>> ((q &&& 0x3f).toInt64.toBitVec % 64)).toNat = _
  rw [BitVec.ushiftRight_eq', BitVec.toNat_ushiftRight, Nat.shiftRight_eq_div_pow, BitVec.toNat_umod, (sm64 q k hk).1, BitVec.toNat_ofNat]; congr 2; show k % 2 ^ 64 % 64 = k; omega
theorem own_Uint (t : Int32) (h : 0 ≤ t.toInt) : t.toInt64.toBitVec.toNat = t.toInt.toNat := by
  have e : t.toInt64.toBitVec.toInt = t.toInt := c_i2l t
  rw [BitVec.toInt_eq_toNat_cond] at e
  have := t.toInt64.toBitVec.isLt
  split at e <;> omega
theorem own_nat32 (b : Int32) (h : 0 ≤ b.toInt) : b.toBitVec.toNat = b.toInt.toNat := by
  have e : b.toBitVec.toInt = b.toInt := rfl
  rw [BitVec.toInt_eq_toNat_cond] at e
  have := b.toBitVec.isLt
  split at e <;> omega
theorem own_mks : ∀ k : Fin 32, (((1 : Int64) <<< (Int32.ofNat k.val &&& 0x3f).toInt64) - (1 : Int64)).toBitVec.toNat = 2 ^ k.val - 1 := by decide +kernel
theorem own_ext (x : Int64) (si bi : Int32) (s : Nat) (hs : si.toBitVec.toNat % 64 = s) (hb : 0 ≤ bi.toInt ∧ bi.toInt ≤ 31) (t : Int32) (ht : 0 ≤ t.toInt) (h : x.toBitVec.toNat / 2 ^ s % 2 ^ bi.toInt.toNat = t.toInt.toNat) : (((x.toUInt64 >>> (si &&& 0x3f).toInt64.toUInt64).toInt64 &&& (((1 : Int64) <<< (bi &&& 0x3f).toInt64) - (1 : Int64))).toInt32) = t := by
  have eb : bi = Int32.ofNat bi.toInt.toNat := by
    apply Int32.toInt_inj.mp
    rw [Int32.toInt_ofNat_of_lt (by omega)]; omega
  have mk := own_mks ⟨bi.toInt.toNat, by omega⟩
  simp only at mk
  rw [← eb] at mk
  have u : ((x.toUInt64 >>> (si &&& 0x3f).toInt64.toUInt64).toInt64 &&& (((1 : Int64) <<< (bi &&& 0x3f).toInt64) - (1 : Int64))).toBitVec.toNat = t.toInt.toNat := by
    show (((x.toUInt64 >>> (si &&& 0x3f).toInt64.toUInt64).toInt64).toBitVec &&& (((1 : Int64) <<< (bi &&& 0x3f).toInt64) - (1 : Int64)).toBitVec).toNat = _
    rw [BitVec.toNat_and, mk, Nat.and_two_pow_sub_one_eq_mod, own_Ushr x si s hs]; exact h
  have q : ((x.toUInt64 >>> (si &&& 0x3f).toInt64.toUInt64).toInt64 &&& (((1 : Int64) <<< (bi &&& 0x3f).toInt64) - (1 : Int64))) = t.toInt64 := by
    apply Int64.toBitVec_inj.mp
    apply BitVec.eq_of_toNat_eq
    rw [u, own_Uint t ht]
  rw [q]; exact Int32.toInt32_toInt64 t
theorem own_pk_step {xs : List Int32} {n : Nat} {i w u b w' v u' : Int32} {W S : List Int32} {M : List Int64} (k : Nat) (hi : (i).toNatClampNeg = k) (hb : own_bw (List.getD xs k (0 : Int32)) = b) (hw : w' = if (64 : Int32) < (u + b) then (w + (1 : Int32)) else w) (hv : v = if (64 : Int32) < (u + b) then (0 : Int32) else u) (hu : u' = v + b) : own_pk xs (n + 1) i w u W S M = own_pk xs n (i + (1 : Int32)) w' u' (List.set W k (w' - (1 : Int32))) (List.set S k v) (List.set M k (((1 : Int64) <<< (b &&& 0x3f).toInt64) - (1 : Int64))) := by
  rw [own_pk_eq, hi, hb, ← hw, ← hv, ← hu]
theorem own_layout (x0 x1 x2 : Int32) : ∃ w v : Int32, own_pkr [x0, x1, x2] = (w, [(0 : Int32), (0 : Int32), w - (1 : Int32)], [(0 : Int32), own_bw x0, v], [((1 : Int64) <<< (own_bw x0 &&& 0x3f).toInt64) - (1 : Int64), ((1 : Int64) <<< (own_bw x1 &&& 0x3f).toInt64) - (1 : Int64), ((1 : Int64) <<< (own_bw x2 &&& 0x3f).toInt64) - (1 : Int64)]) ∧ ((w = (1 : Int32) ∧ v.toInt = (own_bw x0).toInt + (own_bw x1).toInt ∧ (own_bw x0).toInt + (own_bw x1).toInt + (own_bw x2).toInt ≤ 64) ∨ (w = (2 : Int32) ∧ v = (0 : Int32))) := by
  have r0 := own_bw_rng x0; have r1 := own_bw_rng x1; have r2 := own_bw_rng x2
  have g0 : own_bw (List.getD [x0, x1, x2] 0 (0 : Int32)) = own_bw x0 := rfl
  have g1 : own_bw (List.getD [x0, x1, x2] 1 (0 : Int32)) = own_bw x1 := rfl
  have g2 : own_bw (List.getD [x0, x1, x2] 2 (0 : Int32)) = own_bw x2 := rfl
  generalize own_bw x0 = b0 at *
  generalize own_bw x1 = b1 at *
  generalize own_bw x2 = b2 at *
  have l64 : (64 : Int32).toInt = 64 := rfl
  have n0 : ¬ (64 : Int32) < ((0 : Int32) + b0) := by rw [Int32.zero_add, Int32.lt_iff_toInt_lt, l64]; omega
  have e1 := c_iadd b0 b1; have q1 := rng32 (b0 + b1)
  have a1 : (b0 + b1).toInt = b0.toInt + b1.toInt := by omega
  have n1 : ¬ (64 : Int32) < (b0 + b1) := by rw [Int32.lt_iff_toInt_lt, l64, a1]; omega
  have e2 := c_iadd (b0 + b1) b2; have q2 := rng32 (b0 + b1 + b2)
  have a2 : (b0 + b1 + b2).toInt = b0.toInt + b1.toInt + b2.toInt := by omega
  refine ⟨if (64 : Int32) < (b0 + b1 + b2) then ((1 : Int32) + (1 : Int32)) else (1 : Int32), if (64 : Int32) < (b0 + b1 + b2) then (0 : Int32) else (b0 + b1), ?_, ?_⟩
  · generalize [x0, x1, x2] = xs at *
    unfold own_pkr
    rw [own_pk_step (xs := xs) (w' := (1 : Int32)) (v := (0 : Int32)) (u' := b0) 0 rfl g0 (by rw [if_neg n0]) (by rw [if_neg n0]) (by rw [Int32.zero_add]), own_pk_step (xs := xs) (w' := (1 : Int32)) (v := b0) (u' := b0 + b1) 1 rfl g1 (by rw [if_neg n1]) (by rw [if_neg n1]) rfl, own_pk_step (xs := xs) 2 rfl g2 rfl rfl rfl]
    rfl
  · by_cases c : (64 : Int32) < (b0 + b1 + b2)
    · rw [if_pos c, if_pos c]; exact Or.inr ⟨by decide, rfl⟩
    · rw [if_neg c, if_neg c]
      rw [Int32.lt_iff_toInt_lt, l64, a2] at c
      exact Or.inl ⟨rfl, a1, by omega⟩
theorem own_or2 (T0 T1 B0 : Nat) (h0 : T0 < 2 ^ B0) : T0 ||| (T1 * 2 ^ B0) = T0 + T1 * 2 ^ B0 := by
  rw [Nat.or_comm, Nat.mul_comm, ← Nat.two_pow_add_eq_or_of_lt h0 T1, Nat.add_comm]
theorem own_lt2 (T0 T1 B0 B1 : Nat) (h0 : T0 < 2 ^ B0) (h1 : T1 < 2 ^ B1) : T0 + T1 * 2 ^ B0 < 2 ^ (B0 + B1) := by
  have := Nat.mul_le_mul_right (2 ^ B0) (show T1 + 1 ≤ 2 ^ B1 from h1)
  rw [Nat.pow_add, Nat.mul_comm (2 ^ B0)]
  rw [Nat.add_mul] at this
  omega
theorem own_dm (a b : Nat) (B : Nat) (h : a < 2 ^ B) : (a + b * 2 ^ B) % 2 ^ B = a ∧ (a + b * 2 ^ B) / 2 ^ B = b := by
  rw [Nat.add_mul_mod_self_right, Nat.mod_eq_of_lt h, Nat.add_mul_div_right _ _ (Nat.two_pow_pos B), Nat.div_eq_of_lt h]
  exact ⟨rfl, by omega⟩
/-- the first two fields of a word -/
theorem own_Y (t0 t1 b0 b1 : Int32) (r0 : 0 ≤ b0.toInt ∧ b0.toInt ≤ 31) (r1 : 0 ≤ b1.toInt ∧ b1.toInt ≤ 31) (h0 : 0 ≤ t0.toInt ∧ t0.toInt < ((2 ^ b0.toInt.toNat : Nat) : Int)) (h1 : 0 ≤ t1.toInt ∧ t1.toInt < ((2 ^ b1.toInt.toNat : Nat) : Int)) :
    (((0 : Int64) ||| (t0.toInt64 <<< ((0 : Int32) &&& 0x3f).toInt64)) ||| (t1.toInt64 <<< (b0 &&& 0x3f).toInt64)).toBitVec.toNat = t0.toInt.toNat + t1.toInt.toNat * 2 ^ b0.toInt.toNat ∧ t0.toInt.toNat + t1.toInt.toNat * 2 ^ b0.toInt.toNat < 2 ^ (b0.toInt.toNat + b1.toInt.toNat) := by
  have l := own_lt2 t0.toInt.toNat t1.toInt.toNat b0.toInt.toNat b1.toInt.toNat (by omega) (by omega)
  have c0 := Nat.pow_le_pow_right (show 0 < 2 by decide) (show b0.toInt.toNat + b1.toInt.toNat ≤ 62 by omega)
  have p62 : 2 ^ 62 = 4611686018427387904 := by decide
  have z : (0 : Int64).toBitVec.toNat = 0 := rfl
  refine ⟨?_, l⟩
  rw [own_Uor, own_Uor, z, own_Ushl _ 0 0 rfl, own_Ushl _ b0 b0.toInt.toNat (by rw [own_nat32 b0 r0.1]; omega), own_Uint t0 h0.1, own_Uint t1 h1.1, Nat.zero_or, Nat.pow_zero, Nat.mul_one, Nat.mod_eq_of_lt (show t0.toInt.toNat < 2 ^ 64 by omega), Nat.mod_eq_of_lt (show t1.toInt.toNat * 2 ^ b0.toInt.toNat < 2 ^ 64 by omega), own_or2 _ _ _ (by omega)]
theorem own_X (t0 t1 t2 b0 b1 b2 v : Int32) (r0 : 0 ≤ b0.toInt ∧ b0.toInt ≤ 31) (r1 : 0 ≤ b1.toInt ∧ b1.toInt ≤ 31) (r2 : 0 ≤ b2.toInt ∧ b2.toInt ≤ 31) (hv : v.toInt = b0.toInt + b1.toInt) (hs : b0.toInt + b1.toInt + b2.toInt ≤ 64) (h0 : 0 ≤ t0.toInt ∧ t0.toInt < ((2 ^ b0.toInt.toNat : Nat) : Int)) (h1 : 0 ≤ t1.toInt ∧ t1.toInt < ((2 ^ b1.toInt.toNat : Nat) : Int)) (h2 : 0 ≤ t2.toInt ∧ t2.toInt < ((2 ^ b2.toInt.toNat : Nat) : Int)) :
    ((((0 : Int64) ||| (t0.toInt64 <<< ((0 : Int32) &&& 0x3f).toInt64)) ||| (t1.toInt64 <<< (b0 &&& 0x3f).toInt64)) ||| (t2.toInt64 <<< (v &&& 0x3f).toInt64)).toBitVec.toNat = (t0.toInt.toNat + t1.toInt.toNat * 2 ^ b0.toInt.toNat) + t2.toInt.toNat * 2 ^ (b0.toInt.toNat + b1.toInt.toNat) := by
  obtain ⟨y, l⟩ := own_Y t0 t1 b0 b1 r0 r1 h0 h1
  have l2 := own_lt2 _ t2.toInt.toNat _ b2.toInt.toNat l (by omega)
  have c0 := Nat.pow_le_pow_right (show 0 < 2 by decide) (show b0.toInt.toNat + b1.toInt.toNat + b2.toInt.toNat ≤ 64 by omega)
  rw [own_Uor, y, own_Ushl _ v (b0.toInt.toNat + b1.toInt.toNat) (by rw [own_nat32 v (by omega)]; omega), own_Uint t2 h2.1, Nat.mod_eq_of_lt (show t2.toInt.toNat * 2 ^ (b0.toInt.toNat + b1.toInt.toNat) < 2 ^ 64 by omega), own_or2 _ _ _ l]
def own_e (si : Int32) (mi x : Int64) : Int32 := ((x.toUInt64 >>> (si &&& 0x3f).toInt64.toUInt64).toInt64 &&& mi).toInt32
def own_chk (O : List Int32) (c t u : Int32) : Bool :=
  let a : Bool := (if (0 : Int32) < c then (if (List.getD O ((0 : Int32)).toNatClampNeg (0 : Int32)) = t then true else false) else (if (List.getD O ((0 : Int32)).toNatClampNeg (0 : Int32)) = (-7 : Int32) then true else false))
  let b : Bool := (if (1 : Int32) < c then (if (List.getD O ((1 : Int32)).toNatClampNeg (0 : Int32)) = u then true else false) else (if (List.getD O ((1 : Int32)).toNatClampNeg (0 : Int32)) = (-7 : Int32) then true else false))
  let d : Bool := (if (List.getD O ((2 : Int32)).toNatClampNeg (0 : Int32)) = (-7 : Int32) then true else false)
  (if a = true then (if b = true then (if d = true then true else false) else false) else false)
theorem own_chk0 (t u : Int32) : own_chk [(-7 : Int32), (-7 : Int32), (-7 : Int32)] (0 : Int32) t u = true := rfl
theorem own_chk1 (t u : Int32) : own_chk [t, (-7 : Int32), (-7 : Int32)] (1 : Int32) t u = true := by
  have e0 : List.getD [t, (-7 : Int32), (-7 : Int32)] ((0 : Int32)).toNatClampNeg (0 : Int32) = t := rfl
  have e1 : List.getD [t, (-7 : Int32), (-7 : Int32)] ((1 : Int32)).toNatClampNeg (0 : Int32) = (-7 : Int32) := rfl
  have e2 : List.getD [t, (-7 : Int32), (-7 : Int32)] ((2 : Int32)).toNatClampNeg (0 : Int32) = (-7 : Int32) := rfl
  unfold own_chk
  dsimp only
  rw [e0, e1, e2, if_pos (show (0 : Int32) < (1 : Int32) by decide), if_neg (show ¬ (1 : Int32) < (1 : Int32) by decide), if_pos rfl, if_pos rfl]; rfl
theorem own_chk2 (t u : Int32) : own_chk [t, u, (-7 : Int32)] (2 : Int32) t u = true := by
  have e0 : List.getD [t, u, (-7 : Int32)] ((0 : Int32)).toNatClampNeg (0 : Int32) = t := rfl
  have e1 : List.getD [t, u, (-7 : Int32)] ((1 : Int32)).toNatClampNeg (0 : Int32) = u := rfl
  have e2 : List.getD [t, u, (-7 : Int32)] ((2 : Int32)).toNatClampNeg (0 : Int32) = (-7 : Int32) := rfl
  unfold own_chk
  dsimp only
  rw [e0, e1, e2, if_pos (show (0 : Int32) < (2 : Int32) by decide), if_pos (show (1 : Int32) < (2 : Int32) by decide)]
  simp only [if_true]
theorem own_out (wi si w : Int32) (mi : Int64) (ks : List Int64) (c : Int32) (hc : c = (0 : Int32) ∨ c = (1 : Int32) ∨ c = (2 : Int32)) (t u : Int32) (h0 : own_e si mi (List.getD ks (((0 : Int32) * w) + wi).toNatClampNeg (0 : Int64)) = t) (h1 : own_e si mi (List.getD ks ((((0 : Int32) + (1 : Int32)) * w) + wi).toNatClampNeg (0 : Int64)) = u) : own_chk (own_sts wi si mi w ks (c).toNatClampNeg (0 : Int32) [(-7 : Int32), (-7 : Int32), (-7 : Int32)]) c t u = true := by
  rcases hc with rfl | rfl | rfl
  · exact own_chk0 t u
  · have e : own_sts wi si mi w ks ((1 : Int32)).toNatClampNeg (0 : Int32) [(-7 : Int32), (-7 : Int32), (-7 : Int32)] = [own_e si mi (List.getD ks (((0 : Int32) * w) + wi).toNatClampNeg (0 : Int64)), (-7 : Int32), (-7 : Int32)] := rfl
    rw [e, h0]; exact own_chk1 t u
  · have e : own_sts wi si mi w ks ((2 : Int32)).toNatClampNeg (0 : Int32) [(-7 : Int32), (-7 : Int32), (-7 : Int32)] = [own_e si mi (List.getD ks (((0 : Int32) * w) + wi).toNatClampNeg (0 : Int64)), own_e si mi (List.getD ks ((((0 : Int32) + (1 : Int32)) * w) + wi).toNatClampNeg (0 : Int64)), (-7 : Int32)] := rfl
    rw [e, h0, h1]; exact own_chk2 t u
def own_W2 (t0 t1 b0 : Int32) : Int64 := ((0 : Int64) ||| (t0.toInt64 <<< ((0 : Int32) &&& 0x3f).toInt64)) ||| (t1.toInt64 <<< (b0 &&& 0x3f).toInt64)
def own_W3 (t0 t1 t2 b0 v : Int32) : Int64 := own_W2 t0 t1 b0 ||| (t2.toInt64 <<< (v &&& 0x3f).toInt64)
def own_W1 (t2 : Int32) : Int64 := (0 : Int64) ||| (t2.toInt64 <<< ((0 : Int32) &&& 0x3f).toInt64)
theorem own_K1 (t0 t1 t2 b0 v : Int32) : own_packr [t0, t1, t2] [(0 : Int32), (0 : Int32), (1 : Int32) - (1 : Int32)] [(0 : Int32), b0, v] (0 : Int32) (1 : Int32) [(0 : Int64), (0 : Int64)] = [own_W3 t0 t1 t2 b0 v, (0 : Int64)] := rfl
theorem own_K1b (t0 t1 t2 b0 v : Int32) (X : Int64) : own_packr [t0, t1, t2] [(0 : Int32), (0 : Int32), (1 : Int32) - (1 : Int32)] [(0 : Int32), b0, v] (1 : Int32) (1 : Int32) [X, (0 : Int64)] = [X, own_W3 t0 t1 t2 b0 v] := rfl
theorem own_K2 (t0 t1 t2 b0 : Int32) : own_packr [t0, t1, t2] [(0 : Int32), (0 : Int32), (2 : Int32) - (1 : Int32)] [(0 : Int32), b0, (0 : Int32)] (0 : Int32) (2 : Int32) [(0 : Int64), (0 : Int64), (0 : Int64), (0 : Int64)] = [own_W2 t0 t1 b0, own_W1 t2, (0 : Int64), (0 : Int64)] := rfl
theorem own_K2b (t0 t1 t2 b0 : Int32) (X Y : Int64) : own_packr [t0, t1, t2] [(0 : Int32), (0 : Int32), (2 : Int32) - (1 : Int32)] [(0 : Int32), b0, (0 : Int32)] (2 : Int32) (2 : Int32) [X, Y, (0 : Int64), (0 : Int64)] = [X, Y, own_W2 t0 t1 b0, own_W1 t2] := rfl
abbrev own_bd (t b : Int32) : Prop := 0 ≤ t.toInt ∧ t.toInt < ((2 ^ b.toInt.toNat : Nat) : Int)
abbrev own_br (b : Int32) : Prop := 0 ≤ b.toInt ∧ b.toInt ≤ 31
abbrev own_mk (b : Int32) : Int64 := ((1 : Int64) <<< (b &&& 0x3f).toInt64) - (1 : Int64)
theorem own_x0 {t0 t1 t2 b0 b1 b2 v : Int32} (r0 : own_br b0) (r1 : own_br b1) (r2 : own_br b2) (hv : v.toInt = b0.toInt + b1.toInt) (hs : b0.toInt + b1.toInt + b2.toInt ≤ 64) (h0 : own_bd t0 b0) (h1 : own_bd t1 b1) (h2 : own_bd t2 b2) : own_e (0 : Int32) (own_mk b0) (own_W3 t0 t1 t2 b0 v) = t0 ∧ own_e b0 (own_mk b1) (own_W3 t0 t1 t2 b0 v) = t1 ∧ own_e v (own_mk b2) (own_W3 t0 t1 t2 b0 v) = t2 := by
  have x := own_X t0 t1 t2 b0 b1 b2 v r0 r1 r2 hv hs h0 h1 h2
  obtain ⟨-, l⟩ := own_Y t0 t1 b0 b1 r0 r1 h0 h1
  have d0 : t0.toInt.toNat < 2 ^ b0.toInt.toNat := by have := h0.1; have := h0.2; omega
  have d1 : t1.toInt.toNat < 2 ^ b1.toInt.toNat := by have := h1.1; have := h1.2; omega
  have d2 : t2.toInt.toNat < 2 ^ b2.toInt.toNat := by have := h2.1; have := h2.2; omega
  have sp : (t0.toInt.toNat + t1.toInt.toNat * 2 ^ b0.toInt.toNat) + t2.toInt.toNat * 2 ^ (b0.toInt.toNat + b1.toInt.toNat) = t0.toInt.toNat + (t1.toInt.toNat + t2.toInt.toNat * 2 ^ b1.toInt.toNat) * 2 ^ b0.toInt.toNat := by
    rw [Nat.pow_add, Nat.add_mul, Nat.mul_assoc, Nat.mul_comm (2 ^ b1.toInt.toNat), Nat.add_assoc]
  refine ⟨own_ext _ _ _ 0 rfl r0 _ h0.1 ?_, own_ext _ _ _ b0.toInt.toNat (by rw [own_nat32 b0 r0.1]; have := r0.1; have := r0.2; omega) r1 _ h1.1 ?_, own_ext _ _ _ (b0.toInt.toNat + b1.toInt.toNat) (by rw [own_nat32 v (by have := r0.1; have := r1.1; omega)]; have := r0.1; have := r0.2; have := r1.1; have := r1.2; omega) r2 _ h2.1 ?_⟩
  · show (_ : Int64).toBitVec.toNat / _ % _ = _
    unfold own_W3 own_W2
    rw [x, sp, Nat.pow_zero, Nat.div_one]; exact (own_dm _ _ _ d0).1
  · unfold own_W3 own_W2
    rw [x, sp, (own_dm _ _ _ d0).2]; exact (own_dm _ _ _ d1).1
  · unfold own_W3 own_W2
    rw [x, (own_dm _ _ _ l).2, Nat.mod_eq_of_lt d2]
theorem own_y0 {t0 t1 b0 b1 : Int32} (r0 : own_br b0) (r1 : own_br b1) (h0 : own_bd t0 b0) (h1 : own_bd t1 b1) : own_e (0 : Int32) (own_mk b0) (own_W2 t0 t1 b0) = t0 ∧ own_e b0 (own_mk b1) (own_W2 t0 t1 b0) = t1 := by
  obtain ⟨x, l⟩ := own_Y t0 t1 b0 b1 r0 r1 h0 h1
  have d0 : t0.toInt.toNat < 2 ^ b0.toInt.toNat := by have := h0.1; have := h0.2; omega
  have d1 : t1.toInt.toNat < 2 ^ b1.toInt.toNat := by have := h1.1; have := h1.2; omega
  refine ⟨own_ext _ _ _ 0 rfl r0 _ h0.1 ?_, own_ext _ _ _ b0.toInt.toNat (by rw [own_nat32 b0 r0.1]; have := r0.1; have := r0.2; omega) r1 _ h1.1 ?_⟩
  · unfold own_W2
    rw [x, Nat.pow_zero, Nat.div_one]; exact (own_dm _ _ _ d0).1
  · unfold own_W2
    rw [x, (own_dm _ _ _ d0).2, Nat.mod_eq_of_lt d1]
theorem own_z0 {t2 b2 : Int32} (r2 : own_br b2) (h2 : own_bd t2 b2) : own_e (0 : Int32) (own_mk b2) (own_W1 t2) = t2 := by
  have d2 : t2.toInt.toNat < 2 ^ b2.toInt.toNat := by have := h2.1; have := h2.2; omega
  have c0 := Nat.pow_le_pow_right (show 0 < 2 by decide) (show b2.toInt.toNat ≤ 31 by have := r2.1; have := r2.2; omega)
  have p31 : 2 ^ 31 = 2147483648 := by decide
  refine own_ext _ _ _ 0 rfl r2 _ h2.1 ?_
  unfold own_W1
  rw [own_Uor, own_Ushl _ 0 0 rfl, own_Uint t2 h2.1, show (0 : Int64).toBitVec.toNat = 0 from rfl, Nat.zero_or, Nat.pow_zero, Nat.mul_one, Nat.div_one, Nat.mod_eq_of_lt (show t2.toInt.toNat < 2 ^ 64 by omega), Nat.mod_eq_of_lt d2]
theorem own_three {i : Int32} (h : own_i3 i) : i = (0 : Int32) ∨ i = (1 : Int32) ∨ i = (2 : Int32) := by
  have h1 := h.1; rw [Int32.lt_iff_toInt_lt, own_l0] at h1; have h2 := h.2
  have : i.toInt = 0 ∨ i.toInt = 1 ∨ i.toInt = 2 := by omega
  rcases this with q | q | q
  · exact Or.inl (Int32.toInt_inj.mp q)
  · exact Or.inr (Or.inl (Int32.toInt_inj.mp q))
  · exact Or.inr (Or.inr (Int32.toInt_inj.mp q))
set_option maxHeartbeats 2000000 in
theorem own_core (t0 t1 t2 s0 s1 s2 b0 b1 b2 v w i c : Int32) (r0 : own_br b0) (r1 : own_br b1) (r2 : own_br b2) (h0 : own_bd t0 b0) (h1 : own_bd t1 b1) (h2 : own_bd t2 b2) (g0 : own_bd s0 b0) (g1 : own_bd s1 b1) (g2 : own_bd s2 b2) (hl : (w = (1 : Int32) ∧ v.toInt = b0.toInt + b1.toInt ∧ b0.toInt + b1.toInt + b2.toInt ≤ 64) ∨ (w = (2 : Int32) ∧ v = (0 : Int32))) (hi : i = (0 : Int32) ∨ i = (1 : Int32) ∨ i = (2 : Int32)) (hc : c = (0 : Int32) ∨ c = (1 : Int32) ∨ c = (2 : Int32)) :
    own_chk (own_sts (List.getD [(0 : Int32), (0 : Int32), w - (1 : Int32)] (i).toNatClampNeg (0 : Int32)) (List.getD [(0 : Int32), b0, v] (i).toNatClampNeg (0 : Int32)) (List.getD [own_mk b0, own_mk b1, own_mk b2] (i).toNatClampNeg (0 : Int64)) w (own_packr [s0, s1, s2] [(0 : Int32), (0 : Int32), w - (1 : Int32)] [(0 : Int32), b0, v] w w (own_packr [t0, t1, t2] [(0 : Int32), (0 : Int32), w - (1 : Int32)] [(0 : Int32), b0, v] (0 : Int32) w (List.replicate (((2 : Int32) * w)).toNatClampNeg (0 : Int64)))) (c).toNatClampNeg (0 : Int32) [(-7 : Int32), (-7 : Int32), (-7 : Int32)]) c (List.getD [t0, t1, t2] (i).toNatClampNeg (0 : Int32)) (List.getD [s0, s1, s2] (i).toNatClampNeg (0 : Int32)) = true := by
  rcases hl with ⟨rfl, hv, hs⟩ | ⟨rfl, rfl⟩
  · rw [show List.replicate (((2 : Int32) * (1 : Int32))).toNatClampNeg (0 : Int64) = [(0 : Int64), (0 : Int64)] from rfl, own_K1, own_K1b]
    obtain ⟨a0, a1, a2⟩ := own_x0 r0 r1 r2 hv hs h0 h1 h2
    obtain ⟨c0, c1, c2⟩ := own_x0 r0 r1 r2 hv hs g0 g1 g2
    generalize own_W3 t0 t1 t2 b0 v = X at *
    generalize own_W3 s0 s1 s2 b0 v = Y at *
    rcases hi with rfl | rfl | rfl
    · exact own_out (0 : Int32) (0 : Int32) (1 : Int32) (own_mk b0) [X, Y] c hc t0 s0 a0 c0
    · exact own_out (0 : Int32) b0 (1 : Int32) (own_mk b1) [X, Y] c hc t1 s1 a1 c1
    · exact own_out ((1 : Int32) - (1 : Int32)) v (1 : Int32) (own_mk b2) [X, Y] c hc t2 s2 a2 c2
  · rw [show List.replicate (((2 : Int32) * (2 : Int32))).toNatClampNeg (0 : Int64) = [(0 : Int64), (0 : Int64), (0 : Int64), (0 : Int64)] from rfl, own_K2, own_K2b]
    obtain ⟨a0, a1⟩ := own_y0 r0 r1 h0 h1
    obtain ⟨c0, c1⟩ := own_y0 r0 r1 g0 g1
    have a2 := own_z0 r2 h2
    have c2 := own_z0 r2 g2
    generalize own_W2 t0 t1 b0 = X at *
    generalize own_W2 s0 s1 b0 = Y at *
    generalize own_W1 t2 = X' at *
    generalize own_W1 s2 = Y' at *
    rcases hi with rfl | rfl | rfl
    · exact own_out (0 : Int32) (0 : Int32) (2 : Int32) (own_mk b0) [X, X', Y, Y'] c hc t0 s0 a0 c0
    · exact own_out (0 : Int32) b0 (2 : Int32) (own_mk b1) [X, X', Y, Y'] c hc t1 s1 a1 c1
    · exact own_out ((2 : Int32) - (1 : Int32)) (0 : Int32) (2 : Int32) (own_mk b2) [X, X', Y, Y'] c hc t2 s2 a2 c2
theorem own_law (p0 p1 p2 : Int32) (p3 p4 : Int64) (p5 : Int32) : f0 p0 p1 p2 p3 p4 p5 = true := by
  unfold f0
  have hi := own_three (own_i3_of (rfl : ((p5 &&& (2147483647 : Int32)) % (3 : Int32)) = _))
  have hc : (f2 (2 : Int32) ((((p5).toUInt32 >>> ((4 : Int32) &&& 31).toUInt32).toInt32) &&& (3 : Int32))) = (0 : Int32) ∨ (f2 (2 : Int32) ((((p5).toUInt32 >>> ((4 : Int32) &&& 31).toUInt32).toInt32) &&& (3 : Int32))) = (1 : Int32) ∨ (f2 (2 : Int32) ((((p5).toUInt32 >>> ((4 : Int32) &&& 31).toUInt32).toInt32) &&& (3 : Int32))) = (2 : Int32) := by
    have q := own_cnt (rfl : (f2 (2 : Int32) ((((p5).toUInt32 >>> ((4 : Int32) &&& 31).toUInt32).toInt32) &&& (3 : Int32))) = _)
    exact own_three ⟨by rw [Int32.lt_iff_toInt_lt, own_l0]; omega, by omega⟩
  obtain ⟨w, v, hp, hl⟩ := own_layout p0 p1 p2
  dsimp only
  rw [hp]
  dsimp only
  rw [show f7 w = w from rfl]
  exact own_core _ _ _ _ _ _ _ _ _ v w _ _ (own_bw_rng p0) (own_bw_rng p1) (own_bw_rng p2) (own_stb _ p0) (own_stb _ p1) (own_stb _ p2) (own_stb _ p0) (own_stb _ p1) (own_stb _ p2) hl hi hc
set_option maxRecDepth 65536 in
set_option maxHeartbeats 40000000 in
theorem comes_1 {Post : Tables → Env → Array Value → State → Outcome → State → Prop} (hpost : ∀ tb e args s v u, (limb_1_1.after args s (.returned v) u = true ∧ limb_1_2.after args s (.returned v) u = true ∧ True) → FrameEnd s (.returned v) u (Jvm.fieldLocs frame_1_writes args s ++ Jvm.arrayLocs frame_1_arrays args s ++ Jvm.staticLocs frame_1_statics s) 32 128 → Post tb e args s (.returned v) u) :
    ArmFor flags0 classFile x code maxLocals ret World_1 tables_1 room_1 Calls_1 rest_1 Pre_1 Post := by
  intro l hfl _ _ p e ha hc hk s m args below hf hA hF happ hP
  obtain ⟨hcalls, hrest, hpre⟩ := hP
  obtain ⟨-, -, -, hnamed, -, -, -, hat⟩ := (Spec.applies_iff hf).mp happ
  obtain ⟨hg, hn⟩ := and_e (Cond.before_iff.mp (show (Jvm.Cond.and given_1 narrow_1).before args s = true from hpre))
  obtain ⟨g1, g2⟩ := and_e hg
  obtain ⟨g3, g4⟩ := and_e g2
  obtain ⟨g5, g6⟩ := and_e g4
  obtain ⟨g7, g8⟩ := and_e g6
  obtain ⟨g9, g10⟩ := and_e g8
  obtain ⟨g11, g12⟩ := and_e g10
  obtain ⟨w0, w1, w2, w3, w4, w5, rfl⟩ : ∃ w0 w1 w2 w3 w4 w5 : Value, args = #[w0, w1, w2, w3, w4, w5] := by
    have hs : args.size = 6 := by simpa [Cond.value, given_1] using g1
    obtain ⟨L⟩ := args
    match L, hs with
    | [w0, w1, w2, w3, w4, w5], _ => exact ⟨w0, w1, w2, w3, w4, w5, rfl⟩
  have hw := fun d (hd : d ∈ tables_1) => atoms_spec (ws := Jvm.Cond.code x code maxLocals ret :: tables_1) hat d (List.mem_cons_of_mem _ hd)
  have hfit : Fit s := fun {y c} hc i hi => by
    obtain ⟨ha, rfl⟩ := Array.getElem?_eq_some_iff.mp hc
    have q := List.all_eq_true.mp ((Array.all_eq_true_iff_forall_mem.mp hF) _ (Array.getElem_mem ha)) i (List.mem_range.mpr hi)
    simpa [Array.getElem?_eq_getElem hi] using q
  obtain ⟨i0, ei0⟩ := is_v g3
  obtain rfl : w0 = (.int i0) := Option.some.inj ei0
  obtain ⟨i1, ei1⟩ := is_v g5
  obtain rfl : w1 = (.int i1) := Option.some.inj ei1
  obtain ⟨i2, ei2⟩ := is_v g7
  obtain rfl : w2 = (.int i2) := Option.some.inj ei2
  obtain ⟨i3, ei3⟩ := isL_v g9
  obtain rfl : w3 = (.long i3) := Option.some.inj ei3
  obtain ⟨i4, ei4⟩ := isL_v g11
  obtain rfl : w4 = (.long i4) := Option.some.inj ei4
  obtain ⟨i5, ei5⟩ := is_v g12
  obtain rfl : w5 = (.int i5) := Option.some.inj ei5
  obtain ⟨n, o, h1, h2, h3, v, L, rfl, hQ, hq⟩ := rm0 l s _ hw tables_1 i0 i1 i2 i3 i4 i5 s.heap s.heap.size (Nat.le_refl _) p e ha hc hk s m _ below hf ((Spec.applies_iff_loose hf).mp happ).1 ⟨rfl, State.Warmed39.refl s, rfl⟩ trivial
  have hv : v = some (.int (b2i (f0 i0 i1 i2 i3 i4 i5))) := hQ.1
  rw [own_law i0 i1 i2 i3 i4 i5] at hv
  subst hv
  have N : Fr s.heap.size L := by first | exact hQ.2.1 | exact hQ.2
  refine ⟨n, _, h1, h2, h3, hpost _ _ _ _ _ _ ⟨Cond.after_iff.mpr rfl, Cond.after_iff.mpr (eq_i res_at (Term.int_eval (1)) rfl), trivial⟩ ⟨hq.1, hq.2.1, (hq.2.2.sift fun y hy => Or.inr (N y hy)).mono (by decide) (by decide)⟩⟩
theorem main_1_1 : Claimed_1_1 := comes_1 fun _ _ _ _ _ _ h hF => ⟨h.1, hF⟩
theorem main_1_2 : Claimed_1_2 := comes_1 fun _ _ _ _ _ _ h hF => ⟨h.2.1, hF⟩
end Jvm.Pilot.@@N@@
namespace Jvm.Pilot.@@N@@
open Jvm Jvm.ClassFile Sem Op Lib Jvm.Free Jvm.Stand Jvm.Pilot.@@N@@.Jvm.D
/-! MADE BY PROGRAM (witnessworld.py) out of the Statement's table words and the real class files: 18 classes; the members and pool entries that the words name. The judged class is class 1, her method 2. -/
namespace start1
open Jvm.ClassFile
def u (s : String) : CpInfo := .utf8 (stringToUtf16 s)
/-- a pool by its gaps: so many unusable entries, then the entry; so many at the end -/
def gap : Nat → List CpInfo → List CpInfo
  | 0, r => r
  | n + 1, r => .unusable :: gap n r
def poolList (es : List (Nat × CpInfo)) (last : Nat) : List CpInfo := es.foldr (fun e r => gap e.1 (e.2 :: r)) (gap last [])
def pool (es : List (Nat × CpInfo)) (last : Nat) : Array CpInfo := ⟨poolList es last⟩
def fileOf (pool : Array CpInfo) (this : Nat) (attrs : Array Attribute := #[]) (ms : Array MethodInfo := #[]) (fl : Nat := 33) (sup : Nat := 0) (ifs : Array Nat := #[]) (fds : Array FieldInfo := #[]) : ClassFile where
  minorVersion := 0
  majorVersion := 65
  constantPool := pool
  accessFlags := fl
  thisClass := this
  superClass := sup
  interfaces := ifs
  fields := fds
  methods := ms
  attributes := attrs
def plain (name : String) (sup : Option ClassId) : Class where
  name := name
  kind := .ordinary
  loader := none
  accessFlags := 33
  super := sup
  interfaces := #[]
  cf := none
  fields := #[]
  methods := #[]
  instanceTypes := #[]
  staticTypes := #[]
  resolved := #[]
  callSites := []
  init := .initialized
  statics := none
  mirror := none

def pool0 : Array CpInfo := pool [(5, u "<init>"), (0, u "()V"), (1, .class_ 10), (1, u "java/lang/Object")] 113

def k0c0 : Code := { maxStack := 0, maxLocals := 1, code := object_method_1_code, exceptionTable := #[], attributes := #[] }
def k0m0 : Method := { name := "<init>", desc := "()V", sig := { parameters := [], returnType := none }, accessFlags := 1, code := some k0c0 }
/-- java/lang/Object -/
def k0 : Class := { plain "java/lang/Object" none with
  accessFlags := 33
  interfaces := #[]
  cf := some (fileOf pool0 8 #[] #[{ accessFlags := 1, nameIndex := 5, descriptorIndex := 6, attributes := #[] }] 33 0 #[] #[])
  fields := #[]
  methods := #[k0m0]
  instanceTypes := #[]
  staticTypes := #[]
  resolved := Array.replicate 124 none
  statics := none }

def pool1 : Array CpInfo := pool [(2, .class_ 4), (1, u "java/lang/Object"), (0, u "<init>"), (0, u "()V"), (0, .long 2147483647), (1, .methodref 10 11), (0, .class_ 12), (0, .nameAndType 13 14), (0, u "com/example/onward/onward/explore/PackingStatesPinLaw"), (0, u "st"), (0, u "(JI)I"), (0, .integer 2147483647), (0, .methodref 17 18), (0, .class_ 19), (0, .nameAndType 20 21), (0, u "java/lang/Math"), (0, u "min"), (0, u "(II)I"), (0, .class_ 23), (0, u "com/example/onward/onward/explore/Packing"), (0, .methodref 22 25), (0, .nameAndType 5 26), (0, u "([I)V"), (0, .methodref 22 28), (0, .nameAndType 29 30), (0, u "words"), (0, u "()I"), (0, .methodref 22 32), (0, .nameAndType 33 34), (0, u "pack"), (0, u "([I[JI)V"), (0, .methodref 22 36), (0, .nameAndType 37 38), (0, u "states"), (0, u "([JII[I)V"), (3, u "law"), (0, u "(IIIJJI)Z")] 6

def k1m0 : Method := { name := "<init>", desc := "()V", sig := { parameters := [], returnType := none }, accessFlags := 1, code := none }
def k1c1 : Code := { maxStack := 4, maxLocals := 3, code := method_2_code, exceptionTable := #[], attributes := #[] }
def k1m1 : Method := { name := "st", desc := "(JI)I", sig := { parameters := [.long, .int], returnType := some .int }, accessFlags := 10, code := some k1c1 }
def k1c2 : Code := { maxStack := 6, maxLocals := 21, code := code, exceptionTable := #[], attributes := #[] }
def k1m2 : Method := { name := "law", desc := "(IIIJJI)Z", sig := { parameters := [.int, .int, .int, .long, .long, .int], returnType := some .boolean }, accessFlags := 9, code := some k1c2 }
/-- com/example/onward/onward/explore/PackingStatesPinLaw -/
def k1 : Class := { plain "com/example/onward/onward/explore/PackingStatesPinLaw" (some 0) with
  accessFlags := 49
  interfaces := #[]
  cf := some (fileOf pool1 10 #[] #[{ accessFlags := 1, nameIndex := 5, descriptorIndex := 6, attributes := #[] }, { accessFlags := 10, nameIndex := 13, descriptorIndex := 14, attributes := #[] }, { accessFlags := 9, nameIndex := 42, descriptorIndex := 43, attributes := #[] }] 49 2 #[] #[])
  fields := #[]
  methods := #[k1m0, k1m1, k1m2]
  instanceTypes := #[]
  staticTypes := #[]
  resolved := Array.replicate 50 none
  statics := none }

def pool2 : Array CpInfo := pool [(1, .class_ 2), (0, u "java/lang/Math"), (1, .class_ 6), (1, u "java/lang/Object"), (0, u "<init>"), (0, u "()V"), (89, .class_ 100), (1, u "java/lang/Math$RandomNumberGeneratorHolder"), (71, u "negativeZeroFloatBits"), (0, u "J"), (2, u "negativeZeroDoubleBits"), (21, u "max"), (2, u "min"), (43, u "$assertionsDisabled"), (0, u "Z"), (88, u "(II)I"), (2, u "twoToTheDoubleScaleDown"), (0, u "D"), (4, u "twoToTheDoubleScaleUp"), (9, u "E"), (3, u "PI"), (2, u "TAU"), (2, u "DEGREES_TO_RADIANS"), (0, u "RADIANS_TO_DEGREES")] 94

def k2m0 : Method := { name := "<init>", desc := "()V", sig := { parameters := [], returnType := none }, accessFlags := 2, code := none }
def k2c1 : Code := { maxStack := 2, maxLocals := 2, code := jdk_29_method_65_code, exceptionTable := #[], attributes := #[] }
def k2m1 : Method := { name := "max", desc := "(II)I", sig := { parameters := [.int, .int], returnType := some .int }, accessFlags := 9, code := some k2c1 }
def k2c2 : Code := { maxStack := 2, maxLocals := 2, code := jdk_29_method_69_code, exceptionTable := #[], attributes := #[] }
def k2m2 : Method := { name := "min", desc := "(II)I", sig := { parameters := [.int, .int], returnType := some .int }, accessFlags := 9, code := some k2c2 }
/-- java/lang/Math -/
def k2 : Class := { plain "java/lang/Math" (some 0) with
  accessFlags := 49
  interfaces := #[]
  cf := some (fileOf pool2 1 #[.nestMembers #[98]] #[{ accessFlags := 2, nameIndex := 7, descriptorIndex := 8, attributes := #[] }, { accessFlags := 9, nameIndex := 198, descriptorIndex := 335, attributes := #[] }, { accessFlags := 9, nameIndex := 201, descriptorIndex := 335, attributes := #[] }] 49 4 #[] #[{ accessFlags := 25, nameIndex := 354, descriptorIndex := 339, attributes := #[] }, { accessFlags := 25, nameIndex := 358, descriptorIndex := 339, attributes := #[] }, { accessFlags := 25, nameIndex := 361, descriptorIndex := 339, attributes := #[] }, { accessFlags := 26, nameIndex := 364, descriptorIndex := 339, attributes := #[] }, { accessFlags := 26, nameIndex := 365, descriptorIndex := 339, attributes := #[] }, { accessFlags := 26, nameIndex := 172, descriptorIndex := 173, attributes := #[] }, { accessFlags := 26, nameIndex := 176, descriptorIndex := 173, attributes := #[] }, { accessFlags := 8, nameIndex := 344, descriptorIndex := 339, attributes := #[] }, { accessFlags := 8, nameIndex := 338, descriptorIndex := 339, attributes := #[] }, { accessFlags := 4120, nameIndex := 245, descriptorIndex := 246, attributes := #[] }])
  fields := #[{ name := "E", type := .double, accessFlags := 25, slot := 0, constantValue := 0 }, { name := "PI", type := .double, accessFlags := 25, slot := 1, constantValue := 0 }, { name := "TAU", type := .double, accessFlags := 25, slot := 2, constantValue := 0 }, { name := "DEGREES_TO_RADIANS", type := .double, accessFlags := 26, slot := 3, constantValue := 0 }, { name := "RADIANS_TO_DEGREES", type := .double, accessFlags := 26, slot := 4, constantValue := 0 }, { name := "negativeZeroFloatBits", type := .long, accessFlags := 26, slot := 5, constantValue := 0 }, { name := "negativeZeroDoubleBits", type := .long, accessFlags := 26, slot := 6, constantValue := 0 }, { name := "twoToTheDoubleScaleUp", type := .double, accessFlags := 8, slot := 7, constantValue := 0 }, { name := "twoToTheDoubleScaleDown", type := .double, accessFlags := 8, slot := 8, constantValue := 0 }, { name := "$assertionsDisabled", type := .boolean, accessFlags := 4120, slot := 9, constantValue := 0 }]
  methods := #[k2m0, k2m1, k2m2]
  instanceTypes := #[]
  staticTypes := #[.double, .double, .double, .double, .double, .long, .long, .double, .double, .boolean]
  resolved := Array.replicate 460 none
  statics := none }

def pool3 : Array CpInfo := pool [(1, .methodref 2 3), (0, .class_ 4), (0, .nameAndType 5 6), (0, u "java/lang/Object"), (0, u "<init>"), (0, u "()V"), (0, .fieldref 8 9), (0, .class_ 10), (0, .nameAndType 11 12), (0, u "com/example/onward/onward/explore/Packing"), (0, u "word"), (0, u "[I"), (0, .fieldref 8 14), (0, .nameAndType 15 12), (0, u "shift"), (0, .fieldref 8 17), (0, .nameAndType 18 19), (0, u "mask"), (0, u "[J"), (0, .methodref 21 22), (0, .class_ 23), (0, .nameAndType 24 25), (0, u "java/lang/Math"), (0, u "max"), (0, u "(II)I"), (0, .methodref 27 28), (0, .class_ 29), (0, .nameAndType 30 31), (0, u "java/lang/Integer"), (0, u "numberOfLeadingZeros"), (0, u "(I)I"), (2, .fieldref 8 35), (0, .nameAndType 36 37), (0, u "words"), (0, u "I"), (2, u "pack"), (0, u "([I[JI)V"), (0, .methodref 43 44), (0, .class_ 45), (0, .nameAndType 46 47), (0, u "java/util/Arrays"), (0, u "fill"), (0, u "([JIIJ)V"), (6, u "([I)V"), (4, u "()I"), (5, u "states"), (0, u "([JII[I)V")] 4

def k3c0 : Code := { maxStack := 6, maxLocals := 6, code := prog_122_method_1_code, exceptionTable := #[], attributes := #[] }
def k3m0 : Method := { name := "<init>", desc := "([I)V", sig := { parameters := [(.array .int)], returnType := none }, accessFlags := 0, code := some k3c0 }
def k3c1 : Code := { maxStack := 1, maxLocals := 1, code := prog_122_method_2_code, exceptionTable := #[], attributes := #[] }
def k3m1 : Method := { name := "words", desc := "()I", sig := { parameters := [], returnType := some .int }, accessFlags := 0, code := some k3c1 }
def k3c2 : Code := { maxStack := 8, maxLocals := 5, code := prog_122_method_4_code, exceptionTable := #[], attributes := #[] }
def k3m2 : Method := { name := "pack", desc := "([I[JI)V", sig := { parameters := [(.array .int), (.array .long), .int], returnType := none }, accessFlags := 0, code := some k3c2 }
def k3c3 : Code := { maxStack := 6, maxLocals := 10, code := prog_122_method_8_code, exceptionTable := #[], attributes := #[] }
def k3m3 : Method := { name := "states", desc := "([JII[I)V", sig := { parameters := [(.array .long), .int, .int, (.array .int)], returnType := none }, accessFlags := 0, code := some k3c3 }
/-- com/example/onward/onward/explore/Packing -/
def k3 : Class := { plain "com/example/onward/onward/explore/Packing" (some 0) with
  accessFlags := 48
  interfaces := #[]
  cf := some (fileOf pool3 8 #[] #[{ accessFlags := 0, nameIndex := 5, descriptorIndex := 54, attributes := #[] }, { accessFlags := 0, nameIndex := 36, descriptorIndex := 59, attributes := #[] }, { accessFlags := 0, nameIndex := 40, descriptorIndex := 41, attributes := #[] }, { accessFlags := 0, nameIndex := 65, descriptorIndex := 66, attributes := #[] }] 48 2 #[] #[{ accessFlags := 18, nameIndex := 11, descriptorIndex := 12, attributes := #[] }, { accessFlags := 18, nameIndex := 15, descriptorIndex := 12, attributes := #[] }, { accessFlags := 18, nameIndex := 18, descriptorIndex := 19, attributes := #[] }, { accessFlags := 18, nameIndex := 36, descriptorIndex := 37, attributes := #[] }])
  fields := #[{ name := "word", type := (.array .int), accessFlags := 18, slot := 0, constantValue := 0 }, { name := "shift", type := (.array .int), accessFlags := 18, slot := 1, constantValue := 0 }, { name := "mask", type := (.array .long), accessFlags := 18, slot := 2, constantValue := 0 }, { name := "words", type := .int, accessFlags := 18, slot := 3, constantValue := 0 }]
  methods := #[k3m0, k3m1, k3m2, k3m3]
  instanceTypes := #[(.array .int), (.array .int), (.array .long), .int]
  staticTypes := #[]
  resolved := Array.replicate 71 none
  statics := none }

def pool4 : Array CpInfo := pool [(1, .class_ 2), (0, u "java/io/Serializable"), (0, .class_ 4), (0, u "java/lang/Object")] 2

/-- java/io/Serializable -/
def k4 : Class := { plain "java/io/Serializable" (some 0) with
  accessFlags := 1537
  interfaces := #[]
  cf := some (fileOf pool4 1 #[] #[] 1537 3 #[] #[])
  fields := #[]
  methods := #[]
  instanceTypes := #[]
  staticTypes := #[]
  resolved := Array.replicate 7 none
  statics := none }

def pool5 : Array CpInfo := pool [(2, .class_ 4), (1, u "java/lang/Object"), (0, u "<init>"), (0, u "()V"), (1, .class_ 10), (1, u "java/lang/Number"), (2, .class_ 14), (0, u "java/io/Serializable"), (0, u "serialVersionUID"), (0, u "J")] 20

def k5m0 : Method := { name := "<init>", desc := "()V", sig := { parameters := [], returnType := none }, accessFlags := 1, code := none }
/-- java/lang/Number -/
def k5 : Class := { plain "java/lang/Number" (some 0) with
  accessFlags := 1057
  interfaces := #[4]
  cf := some (fileOf pool5 8 #[] #[{ accessFlags := 1, nameIndex := 5, descriptorIndex := 6, attributes := #[] }] 1057 2 #[13] #[{ accessFlags := 26, nameIndex := 15, descriptorIndex := 16, attributes := #[] }])
  fields := #[{ name := "serialVersionUID", type := .long, accessFlags := 26, slot := 0, constantValue := 0 }]
  methods := #[k5m0]
  instanceTypes := #[]
  staticTypes := #[.long]
  resolved := Array.replicate 37 none
  statics := none }

def pool6 : Array CpInfo := pool [(1, .class_ 2), (0, u "java/lang/Comparable"), (0, .class_ 4), (0, u "java/lang/Object")] 7

/-- java/lang/Comparable -/
def k6 : Class := { plain "java/lang/Comparable" (some 0) with
  accessFlags := 1537
  interfaces := #[]
  cf := some (fileOf pool6 1 #[] #[] 1537 3 #[] #[])
  fields := #[]
  methods := #[]
  instanceTypes := #[]
  staticTypes := #[]
  resolved := Array.replicate 12 none
  statics := none }

def pool7 : Array CpInfo := pool [(1, .class_ 2), (0, u "java/lang/constant/Constable"), (0, .class_ 4), (0, u "java/lang/Object")] 6

/-- java/lang/constant/Constable -/
def k7 : Class := { plain "java/lang/constant/Constable" (some 0) with
  accessFlags := 1537
  interfaces := #[]
  cf := some (fileOf pool7 1 #[] #[] 1537 3 #[] #[])
  fields := #[]
  methods := #[]
  instanceTypes := #[]
  staticTypes := #[]
  resolved := Array.replicate 11 none
  statics := none }

def pool8 : Array CpInfo := pool [(1, .class_ 2), (0, u "java/lang/constant/ConstantDesc"), (0, .class_ 4), (0, u "java/lang/Object")] 32

/-- java/lang/constant/ConstantDesc -/
def k8 : Class := { plain "java/lang/constant/ConstantDesc" (some 0) with
  accessFlags := 1537
  interfaces := #[]
  cf := some (fileOf pool8 1 #[] #[] 1537 3 #[] #[])
  fields := #[]
  methods := #[]
  instanceTypes := #[]
  staticTypes := #[]
  resolved := Array.replicate 37 none
  statics := none }

def pool9 : Array CpInfo := pool [(1, .class_ 2), (0, u "java/lang/Integer"), (16, u "digits"), (0, u "[C"), (32, u "numberOfLeadingZeros"), (0, u "(I)I"), (30, u "DigitOnes"), (0, u "[B"), (2, u "DigitTens"), (99, .class_ 190), (0, u "java/lang/Integer$IntegerCache"), (3, u "I"), (8, .class_ 204), (0, u "java/lang/Number"), (2, u "value"), (56, .integer 65536), (37, u "TYPE"), (0, u "Ljava/lang/Class;"), (0, .class_ 305), (0, u "java/lang/Comparable"), (0, .class_ 307), (0, u "java/lang/constant/Constable"), (0, .class_ 309), (0, u "java/lang/constant/ConstantDesc"), (0, u "MIN_VALUE"), (1, u "MAX_VALUE"), (3, u "SIZE"), (1, u "BYTES"), (1, u "serialVersionUID"), (0, u "J")] 131

def k9c0 : Code := { maxStack := 3, maxLocals := 2, code := jdk_33_method_47_code, exceptionTable := #[], attributes := #[] }
def k9m0 : Method := { name := "numberOfLeadingZeros", desc := "(I)I", sig := { parameters := [.int], returnType := some .int }, accessFlags := 9, code := some k9c0 }
/-- java/lang/Integer -/
def k9 : Class := { plain "java/lang/Integer" (some 5) with
  accessFlags := 49
  interfaces := #[6, 7, 8]
  cf := some (fileOf pool9 1 #[.nestMembers #[189]] #[{ accessFlags := 9, nameIndex := 53, descriptorIndex := 54, attributes := #[] }] 49 203 #[304, 306, 308] #[{ accessFlags := 25, nameIndex := 310, descriptorIndex := 194, attributes := #[] }, { accessFlags := 25, nameIndex := 312, descriptorIndex := 194, attributes := #[] }, { accessFlags := 25, nameIndex := 302, descriptorIndex := 303, attributes := #[] }, { accessFlags := 24, nameIndex := 19, descriptorIndex := 20, attributes := #[] }, { accessFlags := 24, nameIndex := 89, descriptorIndex := 86, attributes := #[] }, { accessFlags := 24, nameIndex := 85, descriptorIndex := 86, attributes := #[] }, { accessFlags := 18, nameIndex := 207, descriptorIndex := 194, attributes := #[] }, { accessFlags := 25, nameIndex := 316, descriptorIndex := 194, attributes := #[] }, { accessFlags := 25, nameIndex := 318, descriptorIndex := 194, attributes := #[] }, { accessFlags := 26, nameIndex := 320, descriptorIndex := 321, attributes := #[] }])
  fields := #[{ name := "MIN_VALUE", type := .int, accessFlags := 25, slot := 0, constantValue := 0 }, { name := "MAX_VALUE", type := .int, accessFlags := 25, slot := 1, constantValue := 0 }, { name := "TYPE", type := (.object "java/lang/Class"), accessFlags := 25, slot := 2, constantValue := 0 }, { name := "digits", type := (.array .char), accessFlags := 24, slot := 3, constantValue := 0 }, { name := "DigitTens", type := (.array .byte), accessFlags := 24, slot := 4, constantValue := 0 }, { name := "DigitOnes", type := (.array .byte), accessFlags := 24, slot := 5, constantValue := 0 }, { name := "value", type := .int, accessFlags := 18, slot := 0, constantValue := 0 }, { name := "SIZE", type := .int, accessFlags := 25, slot := 6, constantValue := 0 }, { name := "BYTES", type := .int, accessFlags := 25, slot := 7, constantValue := 0 }, { name := "serialVersionUID", type := .long, accessFlags := 26, slot := 8, constantValue := 0 }]
  methods := #[k9m0]
  instanceTypes := #[.int]
  staticTypes := #[.int, .int, (.object "java/lang/Class"), (.array .char), (.array .byte), (.array .byte), .int, .int, .long]
  resolved := Array.replicate 453 none
  statics := none }

def pool10 : Array CpInfo := pool [(2, .class_ 4), (1, u "java/lang/Object"), (0, u "<init>"), (0, u "()V"), (6, .methodref 14 15), (0, .class_ 16), (0, .nameAndType 17 18), (0, u "java/util/Arrays"), (0, u "rangeCheck"), (0, u "(III)V"), (55, .class_ 76), (1, u "java/util/Arrays$NaturalOrder"), (36, .class_ 115), (1, u "java/util/Arrays$LegacyMergeSort"), (1, u "Z"), (257, .class_ 376), (0, u "java/util/Arrays$ArrayList"), (68, u "$assertionsDisabled"), (269, u "MIN_ARRAY_SORT_GRAN"), (0, u "I"), (2, u "INSERTIONSORT_THRESHOLD"), (120, u "fill"), (3, u "([JIIJ)V"), (130, .class_ 976), (0, u "java/util/Arrays$ArrayItr")] 52

def k10m0 : Method := { name := "<init>", desc := "()V", sig := { parameters := [], returnType := none }, accessFlags := 2, code := none }
def k10c1 : Code := { maxStack := 4, maxLocals := 3, code := jdk_65_method_30_code, exceptionTable := #[], attributes := #[] }
def k10m1 : Method := { name := "rangeCheck", desc := "(III)V", sig := { parameters := [.int, .int, .int], returnType := none }, accessFlags := 8, code := some k10c1 }
def k10c2 : Code := { maxStack := 4, maxLocals := 6, code := jdk_65_method_102_code, exceptionTable := #[], attributes := #[] }
def k10m2 : Method := { name := "fill", desc := "([JIIJ)V", sig := { parameters := [(.array .long), .int, .int, .long], returnType := none }, accessFlags := 9, code := some k10c2 }
/-- java/util/Arrays -/
def k10 : Class := { plain "java/util/Arrays" (some 0) with
  accessFlags := 49
  interfaces := #[]
  cf := some (fileOf pool10 14 #[.nestMembers #[975, 375, 113, 74]] #[{ accessFlags := 2, nameIndex := 5, descriptorIndex := 6, attributes := #[] }, { accessFlags := 8, nameIndex := 17, descriptorIndex := 18, attributes := #[] }, { accessFlags := 9, nameIndex := 840, descriptorIndex := 844, attributes := #[] }] 49 2 #[] #[{ accessFlags := 26, nameIndex := 715, descriptorIndex := 716, attributes := #[] }, { accessFlags := 26, nameIndex := 719, descriptorIndex := 716, attributes := #[] }, { accessFlags := 4120, nameIndex := 445, descriptorIndex := 117, attributes := #[] }])
  fields := #[{ name := "MIN_ARRAY_SORT_GRAN", type := .int, accessFlags := 26, slot := 0, constantValue := 0 }, { name := "INSERTIONSORT_THRESHOLD", type := .int, accessFlags := 26, slot := 1, constantValue := 0 }, { name := "$assertionsDisabled", type := .boolean, accessFlags := 4120, slot := 2, constantValue := 0 }]
  methods := #[k10m0, k10m1, k10m2]
  instanceTypes := #[]
  staticTypes := #[.int, .int, .boolean]
  resolved := Array.replicate 1029 none
  statics := none }

def pool11 : Array CpInfo := pool [(1, u "java/lang/Cloneable"), (0, .class_ 1), (0, u "java/lang/Object"), (0, .class_ 3)] 3

/-- java/lang/Cloneable -/
def k11 : Class := { plain "java/lang/Cloneable" (some 0) with
  accessFlags := 1537
  interfaces := #[]
  cf := some (fileOf pool11 2 #[] #[] 1537 4 #[] #[])
  fields := #[]
  methods := #[]
  instanceTypes := #[]
  staticTypes := #[]
  resolved := Array.replicate 8 none
  statics := none }

/-- the primitive byte -/
def k12 : Class := { plain "byte" none with kind := .primitive 'B', accessFlags := 0x411 }
/-- [B -/
def k13 : Class := { plain "[B" (some 0) with kind := .array 12 .byte, interfaces := #[11, 4], accessFlags := 1041 }

/-- the primitive int -/
def k14 : Class := { plain "int" none with kind := .primitive 'I', accessFlags := 0x411 }
/-- [I -/
def k15 : Class := { plain "[I" (some 0) with kind := .array 14 .int, interfaces := #[11, 4], accessFlags := 1041 }

/-- the primitive long -/
def k16 : Class := { plain "long" none with kind := .primitive 'J', accessFlags := 0x411 }
/-- [J -/
def k17 : Class := { plain "[J" (some 0) with kind := .array 16 .long, interfaces := #[11, 4], accessFlags := 1041 }

def heap : Heap := #[]
def classes : Array Class := #[k0, k1, k2, k3, k4, k5, k6, k7, k8, k9, k10, k11, k12, k13, k14, k15, k16, k17]
def interned : List (Array UInt16 × Addr) := []
def slotsUsed : Nat := 0
def theMethod : MethodId := ⟨1, 2⟩
def args0 : Array Value := #[.int 5, .int 7, .int 1, .long 3, .long 8, .int 9]
def aboutOver (below : List Frame) : State where
  vm := { classes := classes, interned := interned.toArray }
  heap := heap
  slotsUsed := slotsUsed
  threads := #[{ frames := .invoking theMethod args0 :: below }]
def below0 : List Frame := [.native { method := ⟨0, 0⟩, args := #[] }]
def about1 : State := aboutOver below0
def p0 : Program := .bare "" "" ""
def e0 : Env := launch0.env 0 0 0
theorem w_frames : about1.frames = Frame.invoking theMethod args0 :: below0 := rfl
set_option maxRecDepth 65536 in
theorem w_args : argsFit about1.vm theMethod args0 = true := by decide +kernel
set_option maxRecDepth 65536 in
theorem w_heap : heapFits about1 = true := by decide +kernel
set_option maxRecDepth 65536 in
theorem w_runnable : about1.curStatus? = some .runnable := by decide +kernel
set_option maxRecDepth 65536 in
theorem w_alone : about1.alone = true := by decide +kernel
set_option maxRecDepth 65536 in
theorem w_named : about1.methodNamed? x = some theMethod := by decide +kernel
set_option maxRecDepth 65536 in
theorem w_hears : about1.hears theMethod below0 = true := by decide +kernel
set_option maxRecDepth 65536 in
theorem w_ripe : about1.ripe theMethod args0 below0 = true := by decide +kernel
theorem w_running : about1.status = .running := rfl
set_option maxRecDepth 65536 in
theorem w_room : about1.hasRoom e0.platform room_1 = true :=
  launch0.hasRoom_least _ room_1 (by decide +kernel) (by decide +kernel) (by decide +kernel) (by decide +kernel) (by decide +kernel) (by decide +kernel)
theorem allAtoms_all (ts : List Jvm.Cond) (a : Array Jvm.Value) (st : Jvm.State) : (allAtoms ts).before a st = ts.all (fun c => c.before a st) := by
  induction ts with
  | nil => rfl
  | cons c t ih =>
    show (Jvm.Cond.and c (allAtoms t)).before a st = _
    rw [Jvm.Cond.before_and, ih, List.all_cons]
def words1 : List Jvm.Cond := Jvm.Cond.code x code maxLocals ret :: tables_1
/-- a 'code' word, met by the world's own term for the bytes: nothing is compared byte by byte -/
theorem code_word {y : MethodName} {bytes : ByteArray} {mx : Nat} {rt : Option FieldType} {a : Array Value} {s : State} {m : MethodId} {meth : Method} {c : Code} (h1 : s.methodNamed? y = some m) (h2 : s.vm.method? m = some meth) (h3 : meth.code = some c) (h4 : c.code = bytes)
    (h5 : (c.maxLocals == mx && c.exceptionTable.isEmpty && decide (c.maxStack ≤ mostOperands) && decide (meth.sig.returnType = rt) && !meth.locks && decide (parseMethodDescriptor y.desc = some meth.sig)) = true) : (Jvm.Cond.code y bytes mx rt).before a s = true := by
  simp only [Bool.and_eq_true, beq_iff_eq, Bool.not_eq_true', decide_eq_true_eq] at h5
  obtain ⟨⟨⟨⟨⟨g1, g2⟩, g3⟩, g4⟩, g5⟩, g6⟩ := h5
  simp [Cond.before, Cond.holds, Cond.value, h1, h2, h3, h4, g1, g2, g3, g4, g5, g6]
def isCode : Jvm.Cond → Bool
  | .code _ _ _ _ => true
  | _ => false
theorem all_split {L : List Jvm.Cond} {P : Jvm.Cond → Bool} (h1 : L.all (fun c => isCode c || P c) = true) (h2 : ∀ c ∈ L.filter isCode, P c = true) : L.all P = true := by
  refine List.all_eq_true.mpr fun c hc => ?_
  have h := List.all_eq_true.mp h1 c hc
  rcases Bool.eq_false_or_eq_true (isCode c) with hi | hi
  · exact h2 c (List.mem_filter.mpr ⟨hc, hi⟩)
  · simpa [hi] using h
set_option maxRecDepth 65536 in
theorem w_c0 : (Jvm.Cond.code x code maxLocals ret).before args0 about1 = true := code_word (m := ⟨1, 2⟩) (meth := k1m2) (c := k1c2) (by decide +kernel) rfl rfl rfl (by decide +kernel)
set_option maxRecDepth 65536 in
theorem w_c1 : (Jvm.Cond.code ({ cls := "com/example/onward/onward/explore/PackingStatesPinLaw", name := "st", desc := "(JI)I" } : Jvm.MethodName) method_2_code (3 : Nat) (Option.some Jvm.ClassFile.FieldType.int)).before args0 about1 = true := code_word (m := ⟨1, 1⟩) (meth := k1m1) (c := k1c1) (by decide +kernel) rfl rfl rfl (by decide +kernel)
set_option maxRecDepth 65536 in
theorem w_c2 : (Jvm.Cond.code ({ cls := "java/lang/Math", name := "min", desc := "(II)I" } : Jvm.MethodName) jdk_29_method_69_code (2 : Nat) (Option.some Jvm.ClassFile.FieldType.int)).before args0 about1 = true := code_word (m := ⟨2, 2⟩) (meth := k2m2) (c := k2c2) (by decide +kernel) rfl rfl rfl (by decide +kernel)
set_option maxRecDepth 65536 in
theorem w_c3 : (Jvm.Cond.code ({ cls := "com/example/onward/onward/explore/Packing", name := "<init>", desc := "([I)V" } : Jvm.MethodName) prog_122_method_1_code (6 : Nat) (Option.none : Option Jvm.ClassFile.FieldType)).before args0 about1 = true := code_word (m := ⟨3, 0⟩) (meth := k3m0) (c := k3c0) (by decide +kernel) rfl rfl rfl (by decide +kernel)
set_option maxRecDepth 65536 in
theorem w_c4 : (Jvm.Cond.code ({ cls := "java/lang/Object", name := "<init>", desc := "()V" } : Jvm.MethodName) object_method_1_code (1 : Nat) (Option.none : Option Jvm.ClassFile.FieldType)).before args0 about1 = true := code_word (m := ⟨0, 0⟩) (meth := k0m0) (c := k0c0) (by decide +kernel) rfl rfl rfl (by decide +kernel)
set_option maxRecDepth 65536 in
theorem w_c5 : (Jvm.Cond.code ({ cls := "java/lang/Math", name := "max", desc := "(II)I" } : Jvm.MethodName) jdk_29_method_65_code (2 : Nat) (Option.some Jvm.ClassFile.FieldType.int)).before args0 about1 = true := code_word (m := ⟨2, 1⟩) (meth := k2m1) (c := k2c1) (by decide +kernel) rfl rfl rfl (by decide +kernel)
set_option maxRecDepth 65536 in
theorem w_c6 : (Jvm.Cond.code ({ cls := "java/lang/Integer", name := "numberOfLeadingZeros", desc := "(I)I" } : Jvm.MethodName) jdk_33_method_47_code (2 : Nat) (Option.some Jvm.ClassFile.FieldType.int)).before args0 about1 = true := code_word (m := ⟨9, 0⟩) (meth := k9m0) (c := k9c0) (by decide +kernel) rfl rfl rfl (by decide +kernel)
set_option maxRecDepth 65536 in
theorem w_c7 : (Jvm.Cond.code ({ cls := "com/example/onward/onward/explore/Packing", name := "words", desc := "()I" } : Jvm.MethodName) prog_122_method_2_code (1 : Nat) (Option.some Jvm.ClassFile.FieldType.int)).before args0 about1 = true := code_word (m := ⟨3, 1⟩) (meth := k3m1) (c := k3c1) (by decide +kernel) rfl rfl rfl (by decide +kernel)
set_option maxRecDepth 65536 in
theorem w_c8 : (Jvm.Cond.code ({ cls := "com/example/onward/onward/explore/Packing", name := "pack", desc := "([I[JI)V" } : Jvm.MethodName) prog_122_method_4_code (5 : Nat) (Option.none : Option Jvm.ClassFile.FieldType)).before args0 about1 = true := code_word (m := ⟨3, 2⟩) (meth := k3m2) (c := k3c2) (by decide +kernel) rfl rfl rfl (by decide +kernel)
set_option maxRecDepth 65536 in
theorem w_c9 : (Jvm.Cond.code ({ cls := "java/util/Arrays", name := "fill", desc := "([JIIJ)V" } : Jvm.MethodName) jdk_65_method_102_code (6 : Nat) (Option.none : Option Jvm.ClassFile.FieldType)).before args0 about1 = true := code_word (m := ⟨10, 2⟩) (meth := k10m2) (c := k10c2) (by decide +kernel) rfl rfl rfl (by decide +kernel)
set_option maxRecDepth 65536 in
theorem w_c10 : (Jvm.Cond.code ({ cls := "java/util/Arrays", name := "rangeCheck", desc := "(III)V" } : Jvm.MethodName) jdk_65_method_30_code (3 : Nat) (Option.none : Option Jvm.ClassFile.FieldType)).before args0 about1 = true := code_word (m := ⟨10, 1⟩) (meth := k10m1) (c := k10c1) (by decide +kernel) rfl rfl rfl (by decide +kernel)
set_option maxRecDepth 65536 in
theorem w_c11 : (Jvm.Cond.code ({ cls := "com/example/onward/onward/explore/Packing", name := "states", desc := "([JII[I)V" } : Jvm.MethodName) prog_122_method_8_code (10 : Nat) (Option.none : Option Jvm.ClassFile.FieldType)).before args0 about1 = true := code_word (m := ⟨3, 3⟩) (meth := k3m3) (c := k3c3) (by decide +kernel) rfl rfl rfl (by decide +kernel)
def codes1 : List Jvm.Cond := [Jvm.Cond.code x code maxLocals ret, Jvm.Cond.code ({ cls := "com/example/onward/onward/explore/PackingStatesPinLaw", name := "st", desc := "(JI)I" } : Jvm.MethodName) method_2_code (3 : Nat) (Option.some Jvm.ClassFile.FieldType.int), Jvm.Cond.code ({ cls := "java/lang/Math", name := "min", desc := "(II)I" } : Jvm.MethodName) jdk_29_method_69_code (2 : Nat) (Option.some Jvm.ClassFile.FieldType.int), Jvm.Cond.code ({ cls := "com/example/onward/onward/explore/Packing", name := "<init>", desc := "([I)V" } : Jvm.MethodName) prog_122_method_1_code (6 : Nat) (Option.none : Option Jvm.ClassFile.FieldType), Jvm.Cond.code ({ cls := "java/lang/Object", name := "<init>", desc := "()V" } : Jvm.MethodName) object_method_1_code (1 : Nat) (Option.none : Option Jvm.ClassFile.FieldType), Jvm.Cond.code ({ cls := "java/lang/Math", name := "max", desc := "(II)I" } : Jvm.MethodName) jdk_29_method_65_code (2 : Nat) (Option.some Jvm.ClassFile.FieldType.int), Jvm.Cond.code ({ cls := "java/lang/Integer", name := "numberOfLeadingZeros", desc := "(I)I" } : Jvm.MethodName) jdk_33_method_47_code (2 : Nat) (Option.some Jvm.ClassFile.FieldType.int), Jvm.Cond.code ({ cls := "com/example/onward/onward/explore/Packing", name := "words", desc := "()I" } : Jvm.MethodName) prog_122_method_2_code (1 : Nat) (Option.some Jvm.ClassFile.FieldType.int), Jvm.Cond.code ({ cls := "com/example/onward/onward/explore/Packing", name := "pack", desc := "([I[JI)V" } : Jvm.MethodName) prog_122_method_4_code (5 : Nat) (Option.none : Option Jvm.ClassFile.FieldType), Jvm.Cond.code ({ cls := "java/util/Arrays", name := "fill", desc := "([JIIJ)V" } : Jvm.MethodName) jdk_65_method_102_code (6 : Nat) (Option.none : Option Jvm.ClassFile.FieldType), Jvm.Cond.code ({ cls := "java/util/Arrays", name := "rangeCheck", desc := "(III)V" } : Jvm.MethodName) jdk_65_method_30_code (3 : Nat) (Option.none : Option Jvm.ClassFile.FieldType), Jvm.Cond.code ({ cls := "com/example/onward/onward/explore/Packing", name := "states", desc := "([JII[I)V" } : Jvm.MethodName) prog_122_method_8_code (10 : Nat) (Option.none : Option Jvm.ClassFile.FieldType)]
set_option maxRecDepth 65536 in
theorem codes_eq : words1.filter isCode = codes1 := rfl
theorem w_codes : ∀ c ∈ words1.filter isCode, c.before args0 about1 = true := by
  rw [codes_eq]
  intro c hc
  simp only [codes1, List.mem_cons, List.not_mem_nil, or_false] at hc
  rcases hc with rfl | rfl | rfl | rfl | rfl | rfl | rfl | rfl | rfl | rfl | rfl | rfl
  · exact w_c0
  · exact w_c1
  · exact w_c2
  · exact w_c3
  · exact w_c4
  · exact w_c5
  · exact w_c6
  · exact w_c7
  · exact w_c8
  · exact w_c9
  · exact w_c10
  · exact w_c11
set_option maxRecDepth 65536 in
theorem w_t1 : (words1.take 24).all (fun c => isCode c || c.before args0 about1) = true := by decide +kernel
set_option maxRecDepth 65536 in
theorem w_t2 : ((words1.drop 24).take 24).all (fun c => isCode c || c.before args0 about1) = true := by decide +kernel
set_option maxRecDepth 65536 in
theorem w_t3 : ((words1.drop 24).drop 24).all (fun c => isCode c || c.before args0 about1) = true := by decide +kernel
theorem w_tables : (allAtoms (Jvm.Cond.code x code maxLocals ret :: tables_1)).before args0 about1 = true := by
  rw [allAtoms_all]
  show words1.all (fun c => c.before args0 about1) = true
  refine all_split ?_ w_codes
  rw [← List.take_append_drop 24 words1, List.all_append, w_t1, ← List.take_append_drop 24 (words1.drop 24), List.all_append, w_t2, w_t3]
  rfl
set_option maxRecDepth 65536 in
theorem w_case : (Jvm.Cond.and given_1 narrow_1).before args0 about1 = true := by decide +kernel
theorem w_applies : (headSpec (Jvm.Cond.code x code maxLocals ret :: tables_1) room_1).applies x e0.platform about1 = true :=
  (Spec.applies_iff w_frames).mpr ⟨w_running, w_runnable, w_alone, w_named, w_hears, w_ripe, w_room, w_tables⟩
theorem atStart : AtStart classFile x code maxLocals ret World_1 tables_1 room_1 Calls_1 rest_1 Pre_1 launch0 p0 e0 about1 theMethod args0 below0 :=
  ⟨lists_1, trivial, launch0.admits_env _ _ _, launch0.least_env, fairChoices_fair.cas, fairChoices_fair.clock, w_frames, w_args, w_heap, w_applies, trivial, trivial, w_case⟩
end start1
theorem witness_1 : WitnessClaimed_1 := ⟨start1.p0, start1.e0, start1.about1, start1.theMethod, start1.args0, start1.below0, start1.atStart⟩
end Jvm.Pilot.@@N@@
