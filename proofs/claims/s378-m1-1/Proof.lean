import JvmDerived
import JvmDerived.Pilot.@@N@@Statement
import JvmDerived.Pilot.@@N@@Code
set_option linter.unusedVariables false
set_option linter.unusedSimpArgs false
namespace Jvm.RoadKit
open Sem ClassFile Op Lib Jvm.Stand Jvm.Free Jvm.LawKit
section OwnKit
variable {p : Program} {l : Launch} {e : Env} {R : Room} {s : State} {m : MethodId} {args : Array Value} {below : List Frame} {meth : Method} {c : Code} {T : State} {locs : List Loc} {cells slots : Nat}
/-- a boolean as the machine's int -/
def b2i (b : Bool) : Int32 := bif b then 1 else 0
theorem b2i_t {b : Bool} (h : b = true) : ¬ b2i b = 0 := by subst h; decide
theorem b2i_f {b : Bool} (h : ¬ b = true) : b2i b = 0 := by cases b <;> first | rfl | exact absurd rfl h
theorem b2i_inj {a b : Bool} (h : b2i a = b2i b) : a = b := by cases a <;> cases b <;> first | rfl | exact absurd h (by decide)
theorem nar_b2i (b : Bool) : nar .boolean (b2i b) = b2i b := by cases b <;> decide
/-- from the state U the walk comes to an end that P holds of -/
def Go (tb : Tables) (e : Env) (below : List Frame) (P : Outcome → State → Prop) (U : State) : Prop := ∃ s₂ o, Steps tb e below U s₂ ∧ s₂.status = .running ∧ Ended s₂ below o ∧ P o s₂
theorem Go.back {tb : Tables} {P : Outcome → State → Prop} {U V : State} (h : ∀ t, Steps tb e below V t → Steps tb e below U t) (k : Go tb e below P V) : Go tb e below P U := by
  obtain ⟨s2, o, h1, h2⟩ := k
  exact ⟨s2, o, h _ h1, h2⟩
theorem Go.trans {tb : Tables} {P : Outcome → State → Prop} {U V : State} (h : Steps tb e below U V) (k : Go tb e below P V) : Go tb e below P U := by
  obtain ⟨s2, o, h1, h2⟩ := k
  exact ⟨s2, o, Steps.trans h h1, h2⟩
abbrev Fin (s : State) (Q : Option Value → Heap → List Loc → Prop) (K S : Nat) : Outcome → State → Prop := fun o U' => ∃ v L, o = .returned v ∧ Q v U'.heap L ∧ FrameEnd s o U' L K S
theorem retI0 (X : Stand p l e R s m args below meth c T locs cells slots) (hx : p.tables.exec = Jvm.exec) {pc : Nat} {Ls : Array Slot} {z : Int32} {rest : List Value} (hret : meth.sig.returnType = some .int) (hd : decode c.code pc = .ok (.ireturn, 1)) {fs : List Frame}
    (hl : ∀ (f : JFrame) (acts : List Action), f.method = m → f.locked = none → f.entered = [] → (doReturn e (T.setTop f) acts (some (.int z))).1 = T.setFrames fs) : Steps p.tables e below (T.setTop (mkF m pc Ls (.int z :: rest))) (T.setFrames fs) := by
  have hm' : T.vm.method? m = some meth := X.method'
  have hn : narrow .int (.int z) = .int z := rfl
  show Steps p.tables e below (T.setTop { method := m, pc := pc, locals := Ls, stack := _ :: rest, locked := none }) _
  jvm_step X.here [X.here.top, hx, hd, hm', hret, hn]
  first | (intro acts; rw [hl _ acts rfl rfl rfl]) | rw [hl _ _ rfl rfl rfl]
  exact Steps.refl _
theorem Go.retI (X : Stand p l e R s m args below meth c T locs cells slots) (hx : p.tables.exec = Jvm.exec) {pc : Nat} {Ls : Array Slot} {z : Int32} {rest : List Value} (hret : meth.sig.returnType = some .int) (hd : decode c.code pc = .ok (.ireturn, 1)) (hlk : meth.locks = false) {Q : Option Value → Heap → List Loc → Prop} {K S : Nat} (hQ : Q (some (.int z)) T.heap locs) (hc : cells ≤ K) (hs : slots ≤ S) :
    Go p.tables e below (Fin s Q K S) (T.setTop (mkF m pc Ls (.int z :: rest))) := by
  obtain ⟨fs, hr, hrun, hended, hW, hsame⟩ := X.leave (v := some (.int z)) (fun h => by rw [hret] at h; cases h) hlk
  exact ⟨_, _, retI0 X hx hret hd hr, hrun, hended, _, _, rfl, hQ, ⟨_, rfl⟩, hW, hsame.mono hc hs⟩
theorem Go.retN (X : Stand p l e R s m args below meth c T locs cells slots) (hx : p.tables.exec = Jvm.exec) {pc : Nat} {Ls : Array Slot} {z : Int32} {rest : List Value} {t : FieldType} (hret : meth.sig.returnType = some t) (ht : t = .boolean ∨ t = .byte ∨ t = .char ∨ t = .short) (hd : decode c.code pc = .ok (.ireturn, 1)) (hlk : meth.locks = false) {Q : Option Value → Heap → List Loc → Prop} {K S : Nat} (hQ : Q (some (.int (nar t z))) T.heap locs) (hc : cells ≤ K) (hs : slots ≤ S) :
    Go p.tables e below (Fin s Q K S) (T.setTop (mkF m pc Ls (.int z :: rest))) := by
  obtain ⟨fs, hr, hrun, hended, hW, hsame⟩ := X.leave (v := some (.int (nar t z))) (fun h => by rw [hret] at h; cases h) hlk
  exact ⟨_, _, Jvm.RoadKit.retN X hx hret ht hd hr, hrun, hended, _, _, rfl, hQ, ⟨_, rfl⟩, hW, hsame.mono hc hs⟩
theorem Go.retB (X : Stand p l e R s m args below meth c T locs cells slots) (hx : p.tables.exec = Jvm.exec) {pc : Nat} {Ls : Array Slot} {b : Bool} {rest : List Value} (hret : meth.sig.returnType = some .boolean) (hd : decode c.code pc = .ok (.ireturn, 1)) (hlk : meth.locks = false) {Q : Option Value → Heap → List Loc → Prop} {K S : Nat} (hQ : Q (some (.int (b2i b))) T.heap locs) (hc : cells ≤ K) (hs : slots ≤ S) :
    Go p.tables e below (Fin s Q K S) (T.setTop (mkF m pc Ls (.int (b2i b) :: rest))) := Go.retN X hx hret (Or.inl rfl) hd hlk (by rw [nar_b2i]; exact hQ) hc hs
theorem Go.retJ (X : Stand p l e R s m args below meth c T locs cells slots) (hx : p.tables.exec = Jvm.exec) {pc : Nat} {Ls : Array Slot} {z : Int64} (hret : meth.sig.returnType = some .long) (hd : decode c.code pc = .ok (.lreturn, 1)) (hlk : meth.locks = false) {Q : Option Value → Heap → List Loc → Prop} {K S : Nat} (hQ : Q (some (.long z)) T.heap locs) (hc : cells ≤ K) (hs : slots ≤ S) :
    Go p.tables e below (Fin s Q K S) (T.setTop (mkF m pc Ls [.long z])) := by
  obtain ⟨fs, hr, hrun, hended, hW, hsame⟩ := X.leave (v := some (.long z)) (fun h => by rw [hret] at h; cases h) hlk
  exact ⟨_, _, X.lreturnOut hx hret hd hr, hrun, hended, _, _, rfl, hQ, ⟨_, rfl⟩, hW, hsame.mono hc hs⟩
theorem Go.retR (X : Stand p l e R s m args below meth c T locs cells slots) (hx : p.tables.exec = Jvm.exec) {pc : Nat} {Ls : Array Slot} {a : Addr} {t : FieldType} (hret : meth.sig.returnType = some t) (ht : t.isReference = true) (hd : decode c.code pc = .ok (.areturn, 1)) (hlk : meth.locks = false) {Q : Option Value → Heap → List Loc → Prop} {K S : Nat} (hQ : Q (some (.ref a)) T.heap locs) (hc : cells ≤ K) (hs : slots ≤ S) :
    Go p.tables e below (Fin s Q K S) (T.setTop (mkF m pc Ls [.ref a])) := by
  obtain ⟨fs, hr, hrun, hended, hW, hsame⟩ := X.leave (v := some (.ref a)) (fun h => by rw [hret] at h; cases h) hlk
  exact ⟨_, _, X.areturnOut hx rfl hret ht hd hr, hrun, hended, _, _, rfl, hQ, ⟨_, rfl⟩, hW, hsame.mono hc hs⟩
theorem Go.retV (X : Stand p l e R s m args below meth c T locs cells slots) (hx : p.tables.exec = Jvm.exec) {pc : Nat} {Ls : Array Slot} (hret : meth.sig.returnType = none) (hd : decode c.code pc = .ok (.return_, 1)) (hlk : meth.locks = false) {Q : Option Value → Heap → List Loc → Prop} {K S : Nat} (hQ : Q none T.heap locs) (hc : cells ≤ K) (hs : slots ≤ S) :
    Go p.tables e below (Fin s Q K S) (T.setTop (mkF m pc Ls [])) := by
  obtain ⟨fs, hr, hrun, hended, hW, hsame⟩ := X.leave (v := none) (fun _ => rfl) hlk
  exact ⟨_, _, X.returnOut hx hret hd hr, hrun, hended, _, _, rfl, hQ, ⟨_, rfl⟩, hW, hsame.mono hc hs⟩
theorem lremM {g : JFrame} {target : State} (X : Stand p l e R s m args below meth c T locs cells slots) (hx : p.tables.exec = Jvm.exec) (hg : g.method = m) {x y : Int64} {rest : List Value} (hd : decode c.code g.pc = .ok (.lrem, 1)) (hs : g.stack = .long y :: .long x :: rest) (hy : y ≠ 0)
    (hr : Steps p.tables e below (T.setTop { g with pc := g.pc + 1, stack := .long (x % y) :: rest }) target) : Steps p.tables e below (T.setTop g) target :=
  XS.lrem X.here hx hg hd hs hy (by rw [lrem_mod x y]; exact hr)
/-- the slots written so far get a name -/
theorem pk (X : Stand p l e R s m args below meth c T locs cells slots) {k : Nat} (N : Fr k locs) : ∃ L, Stand p l e R s m args below meth c T L cells slots ∧ Fr k L := ⟨_, X, N⟩
theorem storeS_i {ls l' : Array Slot} {k : Nat} {o : Slot} {x : Int32} (hold : ls[k]? = some o) (h : One o) (q : ls.setIfInBounds k (.val (.int x)) = l') : storeLocals ls k (.int x) = some l' := by
  rw [XS.store1 hold h rfl, q]
theorem storeS_a {ls l' : Array Slot} {k : Nat} {o : Slot} {a : Addr} (hold : ls[k]? = some o) (h : One o) (q : ls.setIfInBounds k (.val (.ref a)) = l') : storeLocals ls k (.ref a) = some l' := by
  rw [XS.store1 hold h rfl, q]
end OwnKit
section OwnArr
variable {p : Program} {l : Launch} {e : Env} {R : Room} {s : State} {m : MethodId} {args : Array Value} {below : List Frame} {meth : Method} {c : Code} {T : State} {locs : List Loc} {cells slots : Nat} {Z : State} {h h' : Heap} {a b : Addr} {ty : FieldType} {vs : List Value} {v : Value} {sl : Nat} {ws : List Addr}
/-- the array at a, of the kind ty, holds just this list -/
def ArL (Z : State) (h : Heap) (a : Addr) (ty : FieldType) (vs : List Value) : Prop := ∃ c : Cell, Arr Z h a c ty ∧ c.slots.toList = vs
theorem ArL.lt (F : ArL Z h a ty vs) : a < h.size := by obtain ⟨c, A, -⟩ := F; exact A.lt
theorem ArL.ext (F : ArL Z h a ty vs) (E : Ext h h') : ArL Z h' a ty vs := by obtain ⟨c, A, r⟩ := F; exact ⟨c, A.ext E, r⟩
theorem ArL.other (F : ArL Z h b ty vs) (W : Wr h h' a sl v) (q : b ≠ a) : ArL Z h' b ty vs := by obtain ⟨c, A, r⟩ := F; exact ⟨c, A.other W q, r⟩
theorem ArL.keep (F : ArL Z h a ty vs) (K : Keep h h' ws) (q : a ∉ ws) : ArL Z h' a ty vs := by obtain ⟨c, A, r⟩ := F; exact ⟨c, ⟨K.2.1 a c A.1 q, A.2⟩, r⟩
theorem ArL.new {k : ClassId} {z : Int32} (A : Arr Z h a (newA k ty z) ty) {n : Nat} (q : z.toNatClampNeg = n) : ArL Z h a ty (List.replicate n (defaultValue ty)) := ⟨_, A, by subst q; simp [newA]⟩
theorem ArL.set (F : ArL Z h a ty vs) (W : Wr h h' a sl v) : ArL Z h' a ty (vs.set sl v) := by
  obtain ⟨c, A, r⟩ := F
  exact ⟨_, A.same W, by subst r; simp [Cell.setSlot]⟩
/-- a place of it: what a load and a store ask -/
theorem ArL.at (F : ArL Z h a ty vs) {j : Int32} (h0 : ¬ j < 0) (hj : j.toNatClampNeg < vs.length) : ∃ c : Cell, Arr Z h a c ty ∧ ¬ (j < 0 ∨ c.slots.size ≤ j.toNatClampNeg) ∧ c.slots[j.toNatClampNeg]? = some (vs[j.toNatClampNeg]'hj) := by
  obtain ⟨c, A, rfl⟩ := F
  have q : j.toNatClampNeg < c.slots.size := by simpa using hj
  refine ⟨c, A, fun z => z.elim h0 (fun y => absurd q (Nat.not_lt.mpr y)), ?_⟩
  rw [Array.getElem?_eq_getElem q]
  simp
theorem ArL.get (F : ArL Z h a ty vs) {j : Int32} (h0 : ¬ j < 0) (hv : vs[j.toNatClampNeg]? = some v) : ∃ c : Cell, Arr Z h a c ty ∧ ¬ (j < 0 ∨ c.slots.size ≤ j.toNatClampNeg) ∧ c.slots[j.toNatClampNeg]? = some v := by
  obtain ⟨hj, rfl⟩ := List.getElem?_eq_some_iff.mp hv
  exact F.at h0 hj
theorem ArL.setI {xs : List Int32} {x : Int32} {i : Nat} (F : ArL Z h a ty (List.map Value.int xs)) (W : Wr h h' a i (.int x)) : ArL Z h' a ty (List.map Value.int (xs.set i x)) := by
  rw [List.map_set]; exact F.set W
theorem ArL.setJ {xs : List Int64} {x : Int64} {i : Nat} (F : ArL Z h a ty (List.map Value.long xs)) (W : Wr h h' a i (.long x)) : ArL Z h' a ty (List.map Value.long (xs.set i x)) := by
  rw [List.map_set]; exact F.set W
theorem ArL.newI {k : ClassId} {z : Int32} (A : Arr Z h a (newA k ty z) ty) {n : Nat} (q : z.toNatClampNeg = n) (hd : defaultValue ty = .int 0 := by rfl) : ArL Z h a ty (List.map Value.int (List.replicate n (0 : Int32))) := by
  rw [List.map_replicate, ← hd]; exact ArL.new A q
theorem ArL.newJ {k : ClassId} {z : Int32} (A : Arr Z h a (newA k ty z) ty) {n : Nat} (q : z.toNatClampNeg = n) (hd : defaultValue ty = .long 0 := by rfl) : ArL Z h a ty (List.map Value.long (List.replicate n (0 : Int64))) := by
  rw [List.map_replicate, ← hd]; exact ArL.new A q
theorem getI (xs : List Int32) {i : Nat} (q : i < xs.length) : (List.map Value.int xs)[i]? = some (.int (xs.getD i 0)) := by
  rw [List.getElem?_map, List.getD_eq_getElem?_getD, List.getElem?_eq_getElem q]; rfl
theorem getJ (xs : List Int64) {i : Nat} (q : i < xs.length) : (List.map Value.long xs)[i]? = some (.long (xs.getD i 0)) := by
  rw [List.getElem?_map, List.getD_eq_getElem?_getD, List.getElem?_eq_getElem q]; rfl
theorem ArL.len (F : ArL Z h a ty vs) : ∃ c : Cell, Arr Z h a c ty ∧ c.slots.size = vs.length := by
  obtain ⟨c, A, rfl⟩ := F
  exact ⟨c, A, by simp⟩
end OwnArr
end Jvm.RoadKit
namespace Jvm.Pilot.@@N@@
open Jvm Jvm.ClassFile Sem Op Lib Jvm.Free Jvm.Stand Jvm.LawKit Jvm.RoadKit Bundle Jvm.Pilot.@@N@@.Jvm.D
theorem pd_0 : parseMethodDescriptor "(JIJ)Z" = some ⟨[.long, .int, .long], some .boolean⟩ := by decide +kernel
theorem pd_1 : parseMethodDescriptor "(IZ)I" = some ⟨[.int, .boolean], some .int⟩ := by decide +kernel
theorem pd_2 : parseMethodDescriptor "([JIJI)Z" = some ⟨[(.array .long), .int, .long, .int], some .boolean⟩ := by decide +kernel
theorem d1_0 : decode prog_11_method_5_code 0 = .ok (.iload_n 0, 1) := by decide +kernel
theorem d1_1 : decode prog_11_method_5_code 1 = .ok (.ldc 76, 2) := by decide +kernel
theorem d1_3 : decode prog_11_method_5_code 3 = .ok (.imul, 1) := by decide +kernel
theorem d1_4 : decode prog_11_method_5_code 4 = .ok (.iload_n 1, 1) := by decide +kernel
theorem d1_5 : decode prog_11_method_5_code 5 = .ok (.ifCond .eq 8, 3) := by decide +kernel
theorem d1_8 : decode prog_11_method_5_code 8 = .ok (.ldc 77, 2) := by decide +kernel
theorem d1_10 : decode prog_11_method_5_code 10 = .ok (.goto 4, 3) := by decide +kernel
theorem d1_13 : decode prog_11_method_5_code 13 = .ok (.iconst 0, 1) := by decide +kernel
theorem d1_14 : decode prog_11_method_5_code 14 = .ok (.iadd, 1) := by decide +kernel
theorem d1_15 : decode prog_11_method_5_code 15 = .ok (.bipush 20, 2) := by decide +kernel
theorem d1_17 : decode prog_11_method_5_code 17 = .ok (.ishr, 1) := by decide +kernel
theorem d1_18 : decode prog_11_method_5_code 18 = .ok (.ireturn, 1) := by decide +kernel
def f1 (p0 : Int32) (p1 : Bool) : Int32 := (let z3 : Int32 := (if p1 = true then (-131008 : Int32) else (0 : Int32)); ((((p0 * (315653 : Int32)) + z3) >>> ((20 : Int32) &&& 31))))
def Q1 (p0 : Int32) (p1 : Bool) (h0 : Heap) (n0 : Nat) (v : Option Value) (h : Heap) (L : List Loc) : Prop := v = some (.int (f1 p0 p1)) ∧ Fr n0 L ∧ h = h0
abbrev rmm1 : Room := { frames := 0, cells := 0, slots := 0, locals := 0 }
abbrev P1 (p0 : Int32) (p1 : Bool) (h0 : Heap) (n0 : Nat) (s : State) : Outcome → State → Prop := fun o U' => ∃ v L, o = .returned v ∧ Q1 p0 p1 h0 n0 v U'.heap L ∧ FrameEnd s o U' L rmm1.cells rmm1.slots
theorem pn_1 : plainName "com/example/spillway/spillway/ShortestDecimal" = true := by first | (simp [plainName, overriddenIn]; done) | decide +kernel
theorem ef_1 (m : MethodId) (p0 : Int32) (p1 : Bool) : entryFrame m #[(.int p0), (.int (b2i p1))] 2 = mkF m 0 #[.val (.int p0), .val (.int (b2i p1))] [] := by first | (simp [entryFrame, mkF, argsToLocals, Value.category]; done) | rfl
set_option maxRecDepth 65536 in
set_option maxHeartbeats 40000000 in
theorem rm1 (l : Launch) (Z : State) (a0 : Array Value) (hw : ∀ d ∈ tables_1, d.before a0 Z = true) (ws : List Jvm.Cond) (p0 : Int32) (p1 : Bool) (h0 : Heap) (n0 : Nat) :
    MetFree l (⟨"com/example/spillway/spillway/ShortestDecimal", "scale", "(IZ)I"⟩ : MethodName) (head1 (Jvm.Cond.code (⟨"com/example/spillway/spillway/ShortestDecimal", "scale", "(IZ)I"⟩ : MethodName) prog_11_method_5_code 2 (some .int) :: ws) rmm1) (fun a U => a = #[(.int p0), (.int (b2i p1))] ∧ Z.Warmed39 U.vm ∧ U.heap = h0) (fun _ _ _ _ _ => True) (fun _ U o U' => ∃ v L, o = .returned v ∧ Q1 p0 p1 h0 n0 v U'.heap L ∧ FrameEnd U o U' L rmm1.cells rmm1.slots) := by
  refine MetFree.of_bodySF (plainFor_of_name pn_1) hisR ?_
  intro p e s m args below meth c s₁ Bd hml0 hP hK
  obtain ⟨rfl, hZ, hh⟩ := hP
  have hx := Bd.exec
  have hby := Bd.bytes
  have hml : c.maxLocals = 2 := hml0
  have hown : s.vm.findClass "com/example/spillway/spillway/ShortestDecimal" = some m.cls := findClass_of_methodNamed Bd.named
  have hnm := (name_of_methodNamed Bd.named Bd.method).1
  have X0 : Stand p l e rmm1 s m #[(.int p0), (.int (b2i p1))] below meth c s₁ [] 0 0 := Stand.of_body Bd
  have e0 : s₁.heap = h0 := by rw [← hh, Bd.state]; rfl
  have N0 := Fr.nil n0
  show Go p.tables e below (P1 p0 p1 h0 n0 s) (s₁.setTop (entryFrame m #[(.int p0), (.int (b2i p1))] 2))
  refine Go.back (fun t k => castTop (ef_1 m p0 p1) k) ?_
  show Go p.tables e below (P1 p0 p1 h0 n0 s) (s₁.setTop (mkF m 0 #[.val (.int p0), .val (.int (b2i p1))] []))
  have hf : f1 p0 p1 = (let z3 : Int32 := (if p1 = true then (-131008 : Int32) else (0 : Int32)); ((((p0 * (315653 : Int32)) + z3) >>> ((20 : Int32) &&& 31)))) := rfl
  refine Go.back (fun t k => XS.iloadN X0.here hx rfl (hb hby d1_0) rfl  k) ?_
  show Go p.tables e below (P1 p0 p1 h0 n0 s) (s₁.setTop (mkF m 1 #[.val (.int p0), .val (.int (b2i p1))] [(.int p0)]))
  refine Go.back (fun t k => X0.ldcInt hx hown (mvT hZ (hw _ (List.mem_of_getElem? (i := 34) rfl))) (g := (mkF m 1 #[.val (.int p0), .val (.int (b2i p1))] [(.int p0)])) rfl (hb hby d1_1) t k) ?_
  show Go p.tables e below (P1 p0 p1 h0 n0 s) (s₁.setTop (mkF m 3 #[.val (.int p0), .val (.int (b2i p1))] [(.int (315653 : Int32)), (.int p0)]))
  refine Go.back (fun t k => XS.imul X0.here hx rfl (hb hby d1_3) rfl k) ?_
  show Go p.tables e below (P1 p0 p1 h0 n0 s) (s₁.setTop (mkF m 4 #[.val (.int p0), .val (.int (b2i p1))] [(.int (p0 * (315653 : Int32)))]))
  refine Go.back (fun t k => XS.iloadN X0.here hx rfl (hb hby d1_4) rfl  k) ?_
  show Go p.tables e below (P1 p0 p1 h0 n0 s) (s₁.setTop (mkF m 5 #[.val (.int p0), .val (.int (b2i p1))] [(.int (b2i p1)), (.int (p0 * (315653 : Int32)))]))
  have J2 : ∀ (z3 : Int32) (hz3 : z3 = (if p1 = true then (-131008 : Int32) else (0 : Int32))), Go p.tables e below (P1 p0 p1 h0 n0 s) (s₁.setTop (mkF m 14 #[.val (.int p0), .val (.int (b2i p1))] [(.int z3), (.int (p0 * (315653 : Int32)))])) := by
    intro z3 hz3
    have r4 : f1 p0 p1 = ((((p0 * (315653 : Int32)) + z3) >>> ((20 : Int32) &&& 31))) := by subst hz3; exact hf
    show Go p.tables e below (P1 p0 p1 h0 n0 s) (s₁.setTop (mkF m 14 #[.val (.int p0), .val (.int (b2i p1))] [(.int z3), (.int (p0 * (315653 : Int32)))]))
    refine Go.back (fun t k => XS.iadd X0.here hx rfl (hb hby d1_14) rfl k) ?_
    show Go p.tables e below (P1 p0 p1 h0 n0 s) (s₁.setTop (mkF m 15 #[.val (.int p0), .val (.int (b2i p1))] [(.int ((p0 * (315653 : Int32)) + z3))]))
    refine Go.back (fun t k => XS.bipush X0.here hx rfl (hb hby d1_15) k) ?_
    show Go p.tables e below (P1 p0 p1 h0 n0 s) (s₁.setTop (mkF m 17 #[.val (.int p0), .val (.int (b2i p1))] [(.int (20 : Int32)), (.int ((p0 * (315653 : Int32)) + z3))]))
    refine Go.back (fun t k => XS.ishr X0.here hx rfl (hb hby d1_17) rfl k) ?_
    show Go p.tables e below (P1 p0 p1 h0 n0 s) (s₁.setTop (mkF m 18 #[.val (.int p0), .val (.int (b2i p1))] [(.int ((((p0 * (315653 : Int32)) + z3) >>> ((20 : Int32) &&& 31))))]))
    exact Go.retI X0 hx Bd.returns (hb hby d1_18) Bd.notSynchronized ⟨by rw [r4], N0, e0⟩ (by decide) (by decide)
  have r5 : (if p1 = true then (-131008 : Int32) else (0 : Int32)) = (if p1 = true then (-131008 : Int32) else (0 : Int32)) := rfl
  by_cases hc1 : p1 = true
  · have r6 := r5.trans (if_pos hc1)
    refine Go.back (fun t k => XS.ifNo X0.here hx rfl (hb hby d1_5) rfl ((if0 _ _).trans (feq (b2i_t hc1)).1) k) ?_
    show Go p.tables e below (P1 p0 p1 h0 n0 s) (s₁.setTop (mkF m 8 #[.val (.int p0), .val (.int (b2i p1))] [(.int (p0 * (315653 : Int32)))]))
    refine Go.back (fun t k => X0.ldcInt hx hown (mvT hZ (hw _ (List.mem_of_getElem? (i := 35) rfl))) (g := (mkF m 8 #[.val (.int p0), .val (.int (b2i p1))] [(.int (p0 * (315653 : Int32)))])) rfl (hb hby d1_8) t k) ?_
    show Go p.tables e below (P1 p0 p1 h0 n0 s) (s₁.setTop (mkF m 10 #[.val (.int p0), .val (.int (b2i p1))] [(.int (-131008 : Int32)), (.int (p0 * (315653 : Int32)))]))
    refine Go.back (fun t k => XS.goto X0.here hx rfl (pc0 := 10) (pc' := 14) rfl (hb hby d1_10) (by decide) (by decide) k) ?_
    show Go p.tables e below (P1 p0 p1 h0 n0 s) (s₁.setTop (mkF m 14 #[.val (.int p0), .val (.int (b2i p1))] [(.int (-131008 : Int32)), (.int (p0 * (315653 : Int32)))]))
    exact J2 (-131008 : Int32) r6.symm
  · have r7 := r5.trans (if_neg hc1)
    refine Go.back (fun t k => XS.ifYes X0.here hx rfl (pc0 := 5) (pc' := 13) rfl (hb hby d1_5) rfl ((if0 _ _).trans (teq (b2i_f hc1)).1) (by decide) (by decide) k) ?_
    show Go p.tables e below (P1 p0 p1 h0 n0 s) (s₁.setTop (mkF m 13 #[.val (.int p0), .val (.int (b2i p1))] [(.int (p0 * (315653 : Int32)))]))
    refine Go.back (fun t k => XS.iconst X0.here hx rfl (hb hby d1_13) k) ?_
    show Go p.tables e below (P1 p0 p1 h0 n0 s) (s₁.setTop (mkF m 14 #[.val (.int p0), .val (.int (b2i p1))] [(.int (0 : Int32)), (.int (p0 * (315653 : Int32)))]))
    exact J2 (0 : Int32) r7.symm
theorem d3_0 : decode method_4_code 0 = .ok (.ldc2_w 82, 3) := by decide +kernel
theorem d3_3 : decode method_4_code 3 = .ok (.lstore 5, 2) := by decide +kernel
theorem d3_5 : decode method_4_code 5 = .ok (.iload_n 2, 1) := by decide +kernel
theorem d3_6 : decode method_4_code 6 = .ok (.ifCond .lt 36, 3) := by decide +kernel
theorem d3_9 : decode method_4_code 9 = .ok (.iload_n 2, 1) := by decide +kernel
theorem d3_10 : decode method_4_code 10 = .ok (.bipush 63, 2) := by decide +kernel
theorem d3_12 : decode method_4_code 12 = .ok (.if_icmp .lt 5, 3) := by decide +kernel
theorem d3_15 : decode method_4_code 15 = .ok (.iconst 1, 1) := by decide +kernel
theorem d3_16 : decode method_4_code 16 = .ok (.ireturn, 1) := by decide +kernel
theorem d3_17 : decode method_4_code 17 = .ok (.lload_n 0, 1) := by decide +kernel
theorem d3_18 : decode method_4_code 18 = .ok (.lload 5, 2) := by decide +kernel
theorem d3_20 : decode method_4_code 20 = .ok (.iload_n 2, 1) := by decide +kernel
theorem d3_21 : decode method_4_code 21 = .ok (.lshr, 1) := by decide +kernel
theorem d3_22 : decode method_4_code 22 = .ok (.lcmp, 1) := by decide +kernel
theorem d3_23 : decode method_4_code 23 = .ok (.ifCond .le 5, 3) := by decide +kernel
theorem d3_26 : decode method_4_code 26 = .ok (.iconst 1, 1) := by decide +kernel
theorem d3_27 : decode method_4_code 27 = .ok (.ireturn, 1) := by decide +kernel
theorem d3_28 : decode method_4_code 28 = .ok (.lload_n 0, 1) := by decide +kernel
theorem d3_29 : decode method_4_code 29 = .ok (.iload_n 2, 1) := by decide +kernel
theorem d3_30 : decode method_4_code 30 = .ok (.lshl, 1) := by decide +kernel
theorem d3_31 : decode method_4_code 31 = .ok (.lload_n 3, 1) := by decide +kernel
theorem d3_32 : decode method_4_code 32 = .ok (.lcmp, 1) := by decide +kernel
theorem d3_33 : decode method_4_code 33 = .ok (.ifCond .lt 7, 3) := by decide +kernel
theorem d3_36 : decode method_4_code 36 = .ok (.iconst 1, 1) := by decide +kernel
theorem d3_37 : decode method_4_code 37 = .ok (.goto 4, 3) := by decide +kernel
theorem d3_40 : decode method_4_code 40 = .ok (.iconst 0, 1) := by decide +kernel
theorem d3_41 : decode method_4_code 41 = .ok (.ireturn, 1) := by decide +kernel
theorem d3_42 : decode method_4_code 42 = .ok (.iload_n 2, 1) := by decide +kernel
theorem d3_43 : decode method_4_code 43 = .ok (.ineg, 1) := by decide +kernel
theorem d3_44 : decode method_4_code 44 = .ok (.istore 7, 2) := by decide +kernel
theorem d3_46 : decode method_4_code 46 = .ok (.iload 7, 2) := by decide +kernel
theorem d3_48 : decode method_4_code 48 = .ok (.bipush 63, 2) := by decide +kernel
theorem d3_50 : decode method_4_code 50 = .ok (.if_icmp .lt 5, 3) := by decide +kernel
theorem d3_53 : decode method_4_code 53 = .ok (.iconst 0, 1) := by decide +kernel
theorem d3_54 : decode method_4_code 54 = .ok (.ireturn, 1) := by decide +kernel
theorem d3_55 : decode method_4_code 55 = .ok (.lload_n 3, 1) := by decide +kernel
theorem d3_56 : decode method_4_code 56 = .ok (.lload 5, 2) := by decide +kernel
theorem d3_58 : decode method_4_code 58 = .ok (.iload 7, 2) := by decide +kernel
theorem d3_60 : decode method_4_code 60 = .ok (.lshr, 1) := by decide +kernel
theorem d3_61 : decode method_4_code 61 = .ok (.lcmp, 1) := by decide +kernel
theorem d3_62 : decode method_4_code 62 = .ok (.ifCond .le 5, 3) := by decide +kernel
theorem d3_65 : decode method_4_code 65 = .ok (.iconst 0, 1) := by decide +kernel
theorem d3_66 : decode method_4_code 66 = .ok (.ireturn, 1) := by decide +kernel
theorem d3_67 : decode method_4_code 67 = .ok (.lload_n 0, 1) := by decide +kernel
theorem d3_68 : decode method_4_code 68 = .ok (.lload_n 3, 1) := by decide +kernel
theorem d3_69 : decode method_4_code 69 = .ok (.iload 7, 2) := by decide +kernel
theorem d3_71 : decode method_4_code 71 = .ok (.lshl, 1) := by decide +kernel
theorem d3_72 : decode method_4_code 72 = .ok (.lcmp, 1) := by decide +kernel
theorem d3_73 : decode method_4_code 73 = .ok (.ifCond .lt 7, 3) := by decide +kernel
theorem d3_76 : decode method_4_code 76 = .ok (.iconst 1, 1) := by decide +kernel
theorem d3_77 : decode method_4_code 77 = .ok (.goto 4, 3) := by decide +kernel
theorem d3_80 : decode method_4_code 80 = .ok (.iconst 0, 1) := by decide +kernel
theorem d3_81 : decode method_4_code 81 = .ok (.ireturn, 1) := by decide +kernel
def f3 (p0 : Int64) (p1 : Int32) (p2 : Int64) : Bool := (if p1 < (0 : Int32) then (if ((-p1)) < (63 : Int32) then (if (((9223372036854775807 : Int64) >>> (((-p1)) &&& 0x3f).toInt64)) < p2 then false else (let z10 : Bool := (if p0 < ((p2 <<< (((-p1)) &&& 0x3f).toInt64)) then false else true); z10)) else false) else (if p1 < (63 : Int32) then (if (((9223372036854775807 : Int64) >>> (p1 &&& 0x3f).toInt64)) < p0 then true else (let z24 : Bool := (if ((p0 <<< (p1 &&& 0x3f).toInt64)) < p2 then false else true); z24)) else true))
def Q3 (p0 : Int64) (p1 : Int32) (p2 : Int64) (h0 : Heap) (n0 : Nat) (v : Option Value) (h : Heap) (L : List Loc) : Prop := v = some (.int (b2i (f3 p0 p1 p2))) ∧ Fr n0 L ∧ h = h0
abbrev rmm3 : Room := { frames := 0, cells := 0, slots := 0, locals := 0 }
abbrev P3 (p0 : Int64) (p1 : Int32) (p2 : Int64) (h0 : Heap) (n0 : Nat) (s : State) : Outcome → State → Prop := fun o U' => ∃ v L, o = .returned v ∧ Q3 p0 p1 p2 h0 n0 v U'.heap L ∧ FrameEnd s o U' L rmm3.cells rmm3.slots
theorem pn_3 : plainName "com/example/spillway/spillway/ShortestDecimalScalePinLaw" = true := by first | (simp [plainName, overriddenIn]; done) | decide +kernel
theorem ef_3 (m : MethodId) (p0 : Int64) (p1 : Int32) (p2 : Int64) : entryFrame m #[(.long p0), (.int p1), (.long p2)] 8 = mkF m 0 #[.val (.long p0), .second, .val (.int p1), .val (.long p2), .second, .unset, .unset, .unset] [] := by first | (simp [entryFrame, mkF, argsToLocals, Value.category]; done) | rfl
set_option maxRecDepth 65536 in
set_option maxHeartbeats 40000000 in
theorem rm3 (l : Launch) (Z : State) (a0 : Array Value) (hw : ∀ d ∈ tables_1, d.before a0 Z = true) (ws : List Jvm.Cond) (p0 : Int64) (p1 : Int32) (p2 : Int64) (h0 : Heap) (n0 : Nat) :
    MetFree l (⟨"com/example/spillway/spillway/ShortestDecimalScalePinLaw", "ge", "(JIJ)Z"⟩ : MethodName) (head1 (Jvm.Cond.code (⟨"com/example/spillway/spillway/ShortestDecimalScalePinLaw", "ge", "(JIJ)Z"⟩ : MethodName) method_4_code 8 (some .boolean) :: ws) rmm3) (fun a U => a = #[(.long p0), (.int p1), (.long p2)] ∧ Z.Warmed39 U.vm ∧ U.heap = h0) (fun _ _ _ _ _ => True) (fun _ U o U' => ∃ v L, o = .returned v ∧ Q3 p0 p1 p2 h0 n0 v U'.heap L ∧ FrameEnd U o U' L rmm3.cells rmm3.slots) := by
  refine MetFree.of_bodySF (plainFor_of_name pn_3) hisR ?_
  intro p e s m args below meth c s₁ Bd hml0 hP hK
  obtain ⟨rfl, hZ, hh⟩ := hP
  have hx := Bd.exec
  have hby := Bd.bytes
  have hml : c.maxLocals = 8 := hml0
  have hown : s.vm.findClass "com/example/spillway/spillway/ShortestDecimalScalePinLaw" = some m.cls := findClass_of_methodNamed Bd.named
  have hnm := (name_of_methodNamed Bd.named Bd.method).1
  have X0 : Stand p l e rmm3 s m #[(.long p0), (.int p1), (.long p2)] below meth c s₁ [] 0 0 := Stand.of_body Bd
  have e0 : s₁.heap = h0 := by rw [← hh, Bd.state]; rfl
  have N0 := Fr.nil n0
  show Go p.tables e below (P3 p0 p1 p2 h0 n0 s) (s₁.setTop (entryFrame m #[(.long p0), (.int p1), (.long p2)] 8))
  refine Go.back (fun t k => castTop (ef_3 m p0 p1 p2) k) ?_
  show Go p.tables e below (P3 p0 p1 p2 h0 n0 s) (s₁.setTop (mkF m 0 #[.val (.long p0), .second, .val (.int p1), .val (.long p2), .second, .unset, .unset, .unset] []))
  have hf : f3 p0 p1 p2 = (if p1 < (0 : Int32) then (if ((-p1)) < (63 : Int32) then (if (((9223372036854775807 : Int64) >>> (((-p1)) &&& 0x3f).toInt64)) < p2 then false else (let z10 : Bool := (if p0 < ((p2 <<< (((-p1)) &&& 0x3f).toInt64)) then false else true); z10)) else false) else (if p1 < (63 : Int32) then (if (((9223372036854775807 : Int64) >>> (p1 &&& 0x3f).toInt64)) < p0 then true else (let z24 : Bool := (if ((p0 <<< (p1 &&& 0x3f).toInt64)) < p2 then false else true); z24)) else true)) := rfl
  refine Go.back (fun t k => X0.ldc2Long hx hown (mvT hZ (hw _ (List.mem_of_getElem? (i := 43) rfl))) (g := (mkF m 0 #[.val (.long p0), .second, .val (.int p1), .val (.long p2), .second, .unset, .unset, .unset] [])) rfl (hb hby d3_0) t k) ?_
  show Go p.tables e below (P3 p0 p1 p2 h0 n0 s) (s₁.setTop (mkF m 3 #[.val (.long p0), .second, .val (.int p1), .val (.long p2), .second, .unset, .unset, .unset] [(.long (9223372036854775807 : Int64))]))
  refine Go.back (fun t k => XS.lstore X0.here hx rfl (hb hby d3_3) rfl (l' := #[.val (.long p0), .second, .val (.int p1), .val (.long p2), .second, .val (.long (9223372036854775807 : Int64)), .second, .unset]) rfl k) ?_
  show Go p.tables e below (P3 p0 p1 p2 h0 n0 s) (s₁.setTop (mkF m 5 #[.val (.long p0), .second, .val (.int p1), .val (.long p2), .second, .val (.long (9223372036854775807 : Int64)), .second, .unset] []))
  refine Go.back (fun t k => XS.iloadN X0.here hx rfl (hb hby d3_5) rfl  k) ?_
  show Go p.tables e below (P3 p0 p1 p2 h0 n0 s) (s₁.setTop (mkF m 6 #[.val (.long p0), .second, .val (.int p1), .val (.long p2), .second, .val (.long (9223372036854775807 : Int64)), .second, .unset] [(.int p1)]))
  by_cases hc1 : p1 < (0 : Int32)
  · have r2 := hf.trans (if_pos hc1)
    refine Go.back (fun t k => XS.ifYes X0.here hx rfl (pc0 := 6) (pc' := 42) rfl (hb hby d3_6) rfl ((if0 _ _).trans (tlt hc1).1) (by decide) (by decide) k) ?_
    show Go p.tables e below (P3 p0 p1 p2 h0 n0 s) (s₁.setTop (mkF m 42 #[.val (.long p0), .second, .val (.int p1), .val (.long p2), .second, .val (.long (9223372036854775807 : Int64)), .second, .unset] []))
    refine Go.back (fun t k => XS.iloadN X0.here hx rfl (hb hby d3_42) rfl  k) ?_
    show Go p.tables e below (P3 p0 p1 p2 h0 n0 s) (s₁.setTop (mkF m 43 #[.val (.long p0), .second, .val (.int p1), .val (.long p2), .second, .val (.long (9223372036854775807 : Int64)), .second, .unset] [(.int p1)]))
    refine Go.back (fun t k => XS.ineg X0.here hx rfl (hb hby d3_43) rfl k) ?_
    show Go p.tables e below (P3 p0 p1 p2 h0 n0 s) (s₁.setTop (mkF m 44 #[.val (.long p0), .second, .val (.int p1), .val (.long p2), .second, .val (.long (9223372036854775807 : Int64)), .second, .unset] [(.int ((-p1)))]))
    refine Go.back (fun t k => XS.istore X0.here hx rfl (hb hby d3_44) rfl (l' := #[.val (.long p0), .second, .val (.int p1), .val (.long p2), .second, .val (.long (9223372036854775807 : Int64)), .second, .val (.int ((-p1)))]) rfl k) ?_
    show Go p.tables e below (P3 p0 p1 p2 h0 n0 s) (s₁.setTop (mkF m 46 #[.val (.long p0), .second, .val (.int p1), .val (.long p2), .second, .val (.long (9223372036854775807 : Int64)), .second, .val (.int ((-p1)))] []))
    refine Go.back (fun t k => XS.iload X0.here hx rfl (hb hby d3_46) rfl  k) ?_
    show Go p.tables e below (P3 p0 p1 p2 h0 n0 s) (s₁.setTop (mkF m 48 #[.val (.long p0), .second, .val (.int p1), .val (.long p2), .second, .val (.long (9223372036854775807 : Int64)), .second, .val (.int ((-p1)))] [(.int ((-p1)))]))
    refine Go.back (fun t k => XS.bipush X0.here hx rfl (hb hby d3_48) k) ?_
    show Go p.tables e below (P3 p0 p1 p2 h0 n0 s) (s₁.setTop (mkF m 50 #[.val (.long p0), .second, .val (.int p1), .val (.long p2), .second, .val (.long (9223372036854775807 : Int64)), .second, .val (.int ((-p1)))] [(.int (63 : Int32)), (.int ((-p1)))]))
    by_cases hc3 : ((-p1)) < (63 : Int32)
    · have r4 := r2.trans (if_pos hc3)
      refine Go.back (fun t k => XS.icmpYes X0.here hx rfl (pc0 := 50) (pc' := 55) rfl (hb hby d3_50) rfl (tlt hc3).1 (by decide) (by decide) k) ?_
      show Go p.tables e below (P3 p0 p1 p2 h0 n0 s) (s₁.setTop (mkF m 55 #[.val (.long p0), .second, .val (.int p1), .val (.long p2), .second, .val (.long (9223372036854775807 : Int64)), .second, .val (.int ((-p1)))] []))
      refine Go.back (fun t k => XS.lloadN X0.here hx rfl (hb hby d3_55) rfl  k) ?_
      show Go p.tables e below (P3 p0 p1 p2 h0 n0 s) (s₁.setTop (mkF m 56 #[.val (.long p0), .second, .val (.int p1), .val (.long p2), .second, .val (.long (9223372036854775807 : Int64)), .second, .val (.int ((-p1)))] [(.long p2)]))
      refine Go.back (fun t k => XS.lload X0.here hx rfl (hb hby d3_56) rfl  k) ?_
      show Go p.tables e below (P3 p0 p1 p2 h0 n0 s) (s₁.setTop (mkF m 58 #[.val (.long p0), .second, .val (.int p1), .val (.long p2), .second, .val (.long (9223372036854775807 : Int64)), .second, .val (.int ((-p1)))] [(.long (9223372036854775807 : Int64)), (.long p2)]))
      refine Go.back (fun t k => XS.iload X0.here hx rfl (hb hby d3_58) rfl  k) ?_
      show Go p.tables e below (P3 p0 p1 p2 h0 n0 s) (s₁.setTop (mkF m 60 #[.val (.long p0), .second, .val (.int p1), .val (.long p2), .second, .val (.long (9223372036854775807 : Int64)), .second, .val (.int ((-p1)))] [(.int ((-p1))), (.long (9223372036854775807 : Int64)), (.long p2)]))
      refine Go.back (fun t k => XS.lshr X0.here hx rfl (hb hby d3_60) rfl k) ?_
      show Go p.tables e below (P3 p0 p1 p2 h0 n0 s) (s₁.setTop (mkF m 61 #[.val (.long p0), .second, .val (.int p1), .val (.long p2), .second, .val (.long (9223372036854775807 : Int64)), .second, .val (.int ((-p1)))] [(.long (((9223372036854775807 : Int64) >>> (((-p1)) &&& 0x3f).toInt64))), (.long p2)]))
      refine Go.back (fun t k => XS.lcmp X0.here hx rfl (hb hby d3_61) rfl k) ?_
      show Go p.tables e below (P3 p0 p1 p2 h0 n0 s) (s₁.setTop (mkF m 62 #[.val (.long p0), .second, .val (.int p1), .val (.long p2), .second, .val (.long (9223372036854775807 : Int64)), .second, .val (.int ((-p1)))] [(.int (lcmpW p2 (((9223372036854775807 : Int64) >>> (((-p1)) &&& 0x3f).toInt64))))]))
      by_cases hc5 : (((9223372036854775807 : Int64) >>> (((-p1)) &&& 0x3f).toInt64)) < p2
      · have r6 := r4.trans (if_pos hc5)
        refine Go.back (fun t k => XS.ifNo X0.here hx rfl (hb hby d3_62) rfl ((if0 _ _).trans (tlt ((lw_gt _ _).mpr hc5)).2.2.2) k) ?_
        show Go p.tables e below (P3 p0 p1 p2 h0 n0 s) (s₁.setTop (mkF m 65 #[.val (.long p0), .second, .val (.int p1), .val (.long p2), .second, .val (.long (9223372036854775807 : Int64)), .second, .val (.int ((-p1)))] []))
        refine Go.back (fun t k => XS.iconst X0.here hx rfl (hb hby d3_65) k) ?_
        show Go p.tables e below (P3 p0 p1 p2 h0 n0 s) (s₁.setTop (mkF m 66 #[.val (.long p0), .second, .val (.int p1), .val (.long p2), .second, .val (.long (9223372036854775807 : Int64)), .second, .val (.int ((-p1)))] [(.int (0 : Int32))]))
        exact Go.retB (b := false) X0 hx Bd.returns (hb hby d3_66) Bd.notSynchronized ⟨by rw [r6], N0, e0⟩ (by decide) (by decide)
      · have r7 := r4.trans (if_neg hc5)
        refine Go.back (fun t k => XS.ifYes X0.here hx rfl (pc0 := 62) (pc' := 67) rfl (hb hby d3_62) rfl ((if0 _ _).trans (flt (fun q => hc5 ((lw_gt _ _).mp q))).2.2.2) (by decide) (by decide) k) ?_
        show Go p.tables e below (P3 p0 p1 p2 h0 n0 s) (s₁.setTop (mkF m 67 #[.val (.long p0), .second, .val (.int p1), .val (.long p2), .second, .val (.long (9223372036854775807 : Int64)), .second, .val (.int ((-p1)))] []))
        refine Go.back (fun t k => XS.lloadN X0.here hx rfl (hb hby d3_67) rfl  k) ?_
        show Go p.tables e below (P3 p0 p1 p2 h0 n0 s) (s₁.setTop (mkF m 68 #[.val (.long p0), .second, .val (.int p1), .val (.long p2), .second, .val (.long (9223372036854775807 : Int64)), .second, .val (.int ((-p1)))] [(.long p0)]))
        refine Go.back (fun t k => XS.lloadN X0.here hx rfl (hb hby d3_68) rfl  k) ?_
        show Go p.tables e below (P3 p0 p1 p2 h0 n0 s) (s₁.setTop (mkF m 69 #[.val (.long p0), .second, .val (.int p1), .val (.long p2), .second, .val (.long (9223372036854775807 : Int64)), .second, .val (.int ((-p1)))] [(.long p2), (.long p0)]))
        refine Go.back (fun t k => XS.iload X0.here hx rfl (hb hby d3_69) rfl  k) ?_
        show Go p.tables e below (P3 p0 p1 p2 h0 n0 s) (s₁.setTop (mkF m 71 #[.val (.long p0), .second, .val (.int p1), .val (.long p2), .second, .val (.long (9223372036854775807 : Int64)), .second, .val (.int ((-p1)))] [(.int ((-p1))), (.long p2), (.long p0)]))
        refine Go.back (fun t k => XS.lshl X0.here hx rfl (hb hby d3_71) rfl k) ?_
        show Go p.tables e below (P3 p0 p1 p2 h0 n0 s) (s₁.setTop (mkF m 72 #[.val (.long p0), .second, .val (.int p1), .val (.long p2), .second, .val (.long (9223372036854775807 : Int64)), .second, .val (.int ((-p1)))] [(.long ((p2 <<< (((-p1)) &&& 0x3f).toInt64))), (.long p0)]))
        refine Go.back (fun t k => XS.lcmp X0.here hx rfl (hb hby d3_72) rfl k) ?_
        show Go p.tables e below (P3 p0 p1 p2 h0 n0 s) (s₁.setTop (mkF m 73 #[.val (.long p0), .second, .val (.int p1), .val (.long p2), .second, .val (.long (9223372036854775807 : Int64)), .second, .val (.int ((-p1)))] [(.int (lcmpW p0 ((p2 <<< (((-p1)) &&& 0x3f).toInt64))))]))
        have J9 : ∀ (z10 : Bool) (hz10 : z10 = (if p0 < ((p2 <<< (((-p1)) &&& 0x3f).toInt64)) then false else true)), Go p.tables e below (P3 p0 p1 p2 h0 n0 s) (s₁.setTop (mkF m 81 #[.val (.long p0), .second, .val (.int p1), .val (.long p2), .second, .val (.long (9223372036854775807 : Int64)), .second, .val (.int ((-p1)))] [(.int (b2i z10))])) := by
          intro z10 hz10
          have r11 : f3 p0 p1 p2 = z10 := by subst hz10; exact r7
          show Go p.tables e below (P3 p0 p1 p2 h0 n0 s) (s₁.setTop (mkF m 81 #[.val (.long p0), .second, .val (.int p1), .val (.long p2), .second, .val (.long (9223372036854775807 : Int64)), .second, .val (.int ((-p1)))] [(.int (b2i z10))]))
          exact Go.retB (b := z10) X0 hx Bd.returns (hb hby d3_81) Bd.notSynchronized ⟨by rw [r11], N0, e0⟩ (by decide) (by decide)
        have r12 : (if p0 < ((p2 <<< (((-p1)) &&& 0x3f).toInt64)) then false else true) = (if p0 < ((p2 <<< (((-p1)) &&& 0x3f).toInt64)) then false else true) := rfl
        by_cases hc8 : p0 < ((p2 <<< (((-p1)) &&& 0x3f).toInt64))
        · have r13 := r12.trans (if_pos hc8)
          refine Go.back (fun t k => XS.ifYes X0.here hx rfl (pc0 := 73) (pc' := 80) rfl (hb hby d3_73) rfl ((if0 _ _).trans (tlt ((lw_lt _ _).mpr hc8)).1) (by decide) (by decide) k) ?_
          show Go p.tables e below (P3 p0 p1 p2 h0 n0 s) (s₁.setTop (mkF m 80 #[.val (.long p0), .second, .val (.int p1), .val (.long p2), .second, .val (.long (9223372036854775807 : Int64)), .second, .val (.int ((-p1)))] []))
          refine Go.back (fun t k => XS.iconst X0.here hx rfl (hb hby d3_80) k) ?_
          show Go p.tables e below (P3 p0 p1 p2 h0 n0 s) (s₁.setTop (mkF m 81 #[.val (.long p0), .second, .val (.int p1), .val (.long p2), .second, .val (.long (9223372036854775807 : Int64)), .second, .val (.int ((-p1)))] [(.int (0 : Int32))]))
          exact J9 false r13.symm
        · have r14 := r12.trans (if_neg hc8)
          refine Go.back (fun t k => XS.ifNo X0.here hx rfl (hb hby d3_73) rfl ((if0 _ _).trans (flt (fun q => hc8 ((lw_lt _ _).mp q))).1) k) ?_
          show Go p.tables e below (P3 p0 p1 p2 h0 n0 s) (s₁.setTop (mkF m 76 #[.val (.long p0), .second, .val (.int p1), .val (.long p2), .second, .val (.long (9223372036854775807 : Int64)), .second, .val (.int ((-p1)))] []))
          refine Go.back (fun t k => XS.iconst X0.here hx rfl (hb hby d3_76) k) ?_
          show Go p.tables e below (P3 p0 p1 p2 h0 n0 s) (s₁.setTop (mkF m 77 #[.val (.long p0), .second, .val (.int p1), .val (.long p2), .second, .val (.long (9223372036854775807 : Int64)), .second, .val (.int ((-p1)))] [(.int (1 : Int32))]))
          refine Go.back (fun t k => XS.goto X0.here hx rfl (pc0 := 77) (pc' := 81) rfl (hb hby d3_77) (by decide) (by decide) k) ?_
          show Go p.tables e below (P3 p0 p1 p2 h0 n0 s) (s₁.setTop (mkF m 81 #[.val (.long p0), .second, .val (.int p1), .val (.long p2), .second, .val (.long (9223372036854775807 : Int64)), .second, .val (.int ((-p1)))] [(.int (1 : Int32))]))
          exact J9 true r14.symm
    · have r15 := r2.trans (if_neg hc3)
      refine Go.back (fun t k => XS.icmpNo X0.here hx rfl (hb hby d3_50) rfl (flt hc3).1 k) ?_
      show Go p.tables e below (P3 p0 p1 p2 h0 n0 s) (s₁.setTop (mkF m 53 #[.val (.long p0), .second, .val (.int p1), .val (.long p2), .second, .val (.long (9223372036854775807 : Int64)), .second, .val (.int ((-p1)))] []))
      refine Go.back (fun t k => XS.iconst X0.here hx rfl (hb hby d3_53) k) ?_
      show Go p.tables e below (P3 p0 p1 p2 h0 n0 s) (s₁.setTop (mkF m 54 #[.val (.long p0), .second, .val (.int p1), .val (.long p2), .second, .val (.long (9223372036854775807 : Int64)), .second, .val (.int ((-p1)))] [(.int (0 : Int32))]))
      exact Go.retB (b := false) X0 hx Bd.returns (hb hby d3_54) Bd.notSynchronized ⟨by rw [r15], N0, e0⟩ (by decide) (by decide)
  · have r16 := hf.trans (if_neg hc1)
    refine Go.back (fun t k => XS.ifNo X0.here hx rfl (hb hby d3_6) rfl ((if0 _ _).trans (flt hc1).1) k) ?_
    show Go p.tables e below (P3 p0 p1 p2 h0 n0 s) (s₁.setTop (mkF m 9 #[.val (.long p0), .second, .val (.int p1), .val (.long p2), .second, .val (.long (9223372036854775807 : Int64)), .second, .unset] []))
    refine Go.back (fun t k => XS.iloadN X0.here hx rfl (hb hby d3_9) rfl  k) ?_
    show Go p.tables e below (P3 p0 p1 p2 h0 n0 s) (s₁.setTop (mkF m 10 #[.val (.long p0), .second, .val (.int p1), .val (.long p2), .second, .val (.long (9223372036854775807 : Int64)), .second, .unset] [(.int p1)]))
    refine Go.back (fun t k => XS.bipush X0.here hx rfl (hb hby d3_10) k) ?_
    show Go p.tables e below (P3 p0 p1 p2 h0 n0 s) (s₁.setTop (mkF m 12 #[.val (.long p0), .second, .val (.int p1), .val (.long p2), .second, .val (.long (9223372036854775807 : Int64)), .second, .unset] [(.int (63 : Int32)), (.int p1)]))
    by_cases hc17 : p1 < (63 : Int32)
    · have r18 := r16.trans (if_pos hc17)
      refine Go.back (fun t k => XS.icmpYes X0.here hx rfl (pc0 := 12) (pc' := 17) rfl (hb hby d3_12) rfl (tlt hc17).1 (by decide) (by decide) k) ?_
      show Go p.tables e below (P3 p0 p1 p2 h0 n0 s) (s₁.setTop (mkF m 17 #[.val (.long p0), .second, .val (.int p1), .val (.long p2), .second, .val (.long (9223372036854775807 : Int64)), .second, .unset] []))
      refine Go.back (fun t k => XS.lloadN X0.here hx rfl (hb hby d3_17) rfl  k) ?_
      show Go p.tables e below (P3 p0 p1 p2 h0 n0 s) (s₁.setTop (mkF m 18 #[.val (.long p0), .second, .val (.int p1), .val (.long p2), .second, .val (.long (9223372036854775807 : Int64)), .second, .unset] [(.long p0)]))
      refine Go.back (fun t k => XS.lload X0.here hx rfl (hb hby d3_18) rfl  k) ?_
      show Go p.tables e below (P3 p0 p1 p2 h0 n0 s) (s₁.setTop (mkF m 20 #[.val (.long p0), .second, .val (.int p1), .val (.long p2), .second, .val (.long (9223372036854775807 : Int64)), .second, .unset] [(.long (9223372036854775807 : Int64)), (.long p0)]))
      refine Go.back (fun t k => XS.iloadN X0.here hx rfl (hb hby d3_20) rfl  k) ?_
      show Go p.tables e below (P3 p0 p1 p2 h0 n0 s) (s₁.setTop (mkF m 21 #[.val (.long p0), .second, .val (.int p1), .val (.long p2), .second, .val (.long (9223372036854775807 : Int64)), .second, .unset] [(.int p1), (.long (9223372036854775807 : Int64)), (.long p0)]))
      refine Go.back (fun t k => XS.lshr X0.here hx rfl (hb hby d3_21) rfl k) ?_
      show Go p.tables e below (P3 p0 p1 p2 h0 n0 s) (s₁.setTop (mkF m 22 #[.val (.long p0), .second, .val (.int p1), .val (.long p2), .second, .val (.long (9223372036854775807 : Int64)), .second, .unset] [(.long (((9223372036854775807 : Int64) >>> (p1 &&& 0x3f).toInt64))), (.long p0)]))
      refine Go.back (fun t k => XS.lcmp X0.here hx rfl (hb hby d3_22) rfl k) ?_
      show Go p.tables e below (P3 p0 p1 p2 h0 n0 s) (s₁.setTop (mkF m 23 #[.val (.long p0), .second, .val (.int p1), .val (.long p2), .second, .val (.long (9223372036854775807 : Int64)), .second, .unset] [(.int (lcmpW p0 (((9223372036854775807 : Int64) >>> (p1 &&& 0x3f).toInt64))))]))
      by_cases hc19 : (((9223372036854775807 : Int64) >>> (p1 &&& 0x3f).toInt64)) < p0
      · have r20 := r18.trans (if_pos hc19)
        refine Go.back (fun t k => XS.ifNo X0.here hx rfl (hb hby d3_23) rfl ((if0 _ _).trans (tlt ((lw_gt _ _).mpr hc19)).2.2.2) k) ?_
        show Go p.tables e below (P3 p0 p1 p2 h0 n0 s) (s₁.setTop (mkF m 26 #[.val (.long p0), .second, .val (.int p1), .val (.long p2), .second, .val (.long (9223372036854775807 : Int64)), .second, .unset] []))
        refine Go.back (fun t k => XS.iconst X0.here hx rfl (hb hby d3_26) k) ?_
        show Go p.tables e below (P3 p0 p1 p2 h0 n0 s) (s₁.setTop (mkF m 27 #[.val (.long p0), .second, .val (.int p1), .val (.long p2), .second, .val (.long (9223372036854775807 : Int64)), .second, .unset] [(.int (1 : Int32))]))
        exact Go.retB (b := true) X0 hx Bd.returns (hb hby d3_27) Bd.notSynchronized ⟨by rw [r20], N0, e0⟩ (by decide) (by decide)
      · have r21 := r18.trans (if_neg hc19)
        refine Go.back (fun t k => XS.ifYes X0.here hx rfl (pc0 := 23) (pc' := 28) rfl (hb hby d3_23) rfl ((if0 _ _).trans (flt (fun q => hc19 ((lw_gt _ _).mp q))).2.2.2) (by decide) (by decide) k) ?_
        show Go p.tables e below (P3 p0 p1 p2 h0 n0 s) (s₁.setTop (mkF m 28 #[.val (.long p0), .second, .val (.int p1), .val (.long p2), .second, .val (.long (9223372036854775807 : Int64)), .second, .unset] []))
        refine Go.back (fun t k => XS.lloadN X0.here hx rfl (hb hby d3_28) rfl  k) ?_
        show Go p.tables e below (P3 p0 p1 p2 h0 n0 s) (s₁.setTop (mkF m 29 #[.val (.long p0), .second, .val (.int p1), .val (.long p2), .second, .val (.long (9223372036854775807 : Int64)), .second, .unset] [(.long p0)]))
        refine Go.back (fun t k => XS.iloadN X0.here hx rfl (hb hby d3_29) rfl  k) ?_
        show Go p.tables e below (P3 p0 p1 p2 h0 n0 s) (s₁.setTop (mkF m 30 #[.val (.long p0), .second, .val (.int p1), .val (.long p2), .second, .val (.long (9223372036854775807 : Int64)), .second, .unset] [(.int p1), (.long p0)]))
        refine Go.back (fun t k => XS.lshl X0.here hx rfl (hb hby d3_30) rfl k) ?_
        show Go p.tables e below (P3 p0 p1 p2 h0 n0 s) (s₁.setTop (mkF m 31 #[.val (.long p0), .second, .val (.int p1), .val (.long p2), .second, .val (.long (9223372036854775807 : Int64)), .second, .unset] [(.long ((p0 <<< (p1 &&& 0x3f).toInt64)))]))
        refine Go.back (fun t k => XS.lloadN X0.here hx rfl (hb hby d3_31) rfl  k) ?_
        show Go p.tables e below (P3 p0 p1 p2 h0 n0 s) (s₁.setTop (mkF m 32 #[.val (.long p0), .second, .val (.int p1), .val (.long p2), .second, .val (.long (9223372036854775807 : Int64)), .second, .unset] [(.long p2), (.long ((p0 <<< (p1 &&& 0x3f).toInt64)))]))
        refine Go.back (fun t k => XS.lcmp X0.here hx rfl (hb hby d3_32) rfl k) ?_
        show Go p.tables e below (P3 p0 p1 p2 h0 n0 s) (s₁.setTop (mkF m 33 #[.val (.long p0), .second, .val (.int p1), .val (.long p2), .second, .val (.long (9223372036854775807 : Int64)), .second, .unset] [(.int (lcmpW ((p0 <<< (p1 &&& 0x3f).toInt64)) p2))]))
        have J23 : ∀ (z24 : Bool) (hz24 : z24 = (if ((p0 <<< (p1 &&& 0x3f).toInt64)) < p2 then false else true)), Go p.tables e below (P3 p0 p1 p2 h0 n0 s) (s₁.setTop (mkF m 41 #[.val (.long p0), .second, .val (.int p1), .val (.long p2), .second, .val (.long (9223372036854775807 : Int64)), .second, .unset] [(.int (b2i z24))])) := by
          intro z24 hz24
          have r25 : f3 p0 p1 p2 = z24 := by subst hz24; exact r21
          show Go p.tables e below (P3 p0 p1 p2 h0 n0 s) (s₁.setTop (mkF m 41 #[.val (.long p0), .second, .val (.int p1), .val (.long p2), .second, .val (.long (9223372036854775807 : Int64)), .second, .unset] [(.int (b2i z24))]))
          exact Go.retB (b := z24) X0 hx Bd.returns (hb hby d3_41) Bd.notSynchronized ⟨by rw [r25], N0, e0⟩ (by decide) (by decide)
        have r26 : (if ((p0 <<< (p1 &&& 0x3f).toInt64)) < p2 then false else true) = (if ((p0 <<< (p1 &&& 0x3f).toInt64)) < p2 then false else true) := rfl
        by_cases hc22 : ((p0 <<< (p1 &&& 0x3f).toInt64)) < p2
        · have r27 := r26.trans (if_pos hc22)
          refine Go.back (fun t k => XS.ifYes X0.here hx rfl (pc0 := 33) (pc' := 40) rfl (hb hby d3_33) rfl ((if0 _ _).trans (tlt ((lw_lt _ _).mpr hc22)).1) (by decide) (by decide) k) ?_
          show Go p.tables e below (P3 p0 p1 p2 h0 n0 s) (s₁.setTop (mkF m 40 #[.val (.long p0), .second, .val (.int p1), .val (.long p2), .second, .val (.long (9223372036854775807 : Int64)), .second, .unset] []))
          refine Go.back (fun t k => XS.iconst X0.here hx rfl (hb hby d3_40) k) ?_
          show Go p.tables e below (P3 p0 p1 p2 h0 n0 s) (s₁.setTop (mkF m 41 #[.val (.long p0), .second, .val (.int p1), .val (.long p2), .second, .val (.long (9223372036854775807 : Int64)), .second, .unset] [(.int (0 : Int32))]))
          exact J23 false r27.symm
        · have r28 := r26.trans (if_neg hc22)
          refine Go.back (fun t k => XS.ifNo X0.here hx rfl (hb hby d3_33) rfl ((if0 _ _).trans (flt (fun q => hc22 ((lw_lt _ _).mp q))).1) k) ?_
          show Go p.tables e below (P3 p0 p1 p2 h0 n0 s) (s₁.setTop (mkF m 36 #[.val (.long p0), .second, .val (.int p1), .val (.long p2), .second, .val (.long (9223372036854775807 : Int64)), .second, .unset] []))
          refine Go.back (fun t k => XS.iconst X0.here hx rfl (hb hby d3_36) k) ?_
          show Go p.tables e below (P3 p0 p1 p2 h0 n0 s) (s₁.setTop (mkF m 37 #[.val (.long p0), .second, .val (.int p1), .val (.long p2), .second, .val (.long (9223372036854775807 : Int64)), .second, .unset] [(.int (1 : Int32))]))
          refine Go.back (fun t k => XS.goto X0.here hx rfl (pc0 := 37) (pc' := 41) rfl (hb hby d3_37) (by decide) (by decide) k) ?_
          show Go p.tables e below (P3 p0 p1 p2 h0 n0 s) (s₁.setTop (mkF m 41 #[.val (.long p0), .second, .val (.int p1), .val (.long p2), .second, .val (.long (9223372036854775807 : Int64)), .second, .unset] [(.int (1 : Int32))]))
          exact J23 true r28.symm
    · have r29 := r16.trans (if_neg hc17)
      refine Go.back (fun t k => XS.icmpNo X0.here hx rfl (hb hby d3_12) rfl (flt hc17).1 k) ?_
      show Go p.tables e below (P3 p0 p1 p2 h0 n0 s) (s₁.setTop (mkF m 15 #[.val (.long p0), .second, .val (.int p1), .val (.long p2), .second, .val (.long (9223372036854775807 : Int64)), .second, .unset] []))
      refine Go.back (fun t k => XS.iconst X0.here hx rfl (hb hby d3_15) k) ?_
      show Go p.tables e below (P3 p0 p1 p2 h0 n0 s) (s₁.setTop (mkF m 16 #[.val (.long p0), .second, .val (.int p1), .val (.long p2), .second, .val (.long (9223372036854775807 : Int64)), .second, .unset] [(.int (1 : Int32))]))
      exact Go.retB (b := true) X0 hx Bd.returns (hb hby d3_16) Bd.notSynchronized ⟨by rw [r29], N0, e0⟩ (by decide) (by decide)
def own_longs : List Int64 := [1, 5, 25, 125, 625, 3125, 15625, 78125, 390625, 1953125, 9765625, 48828125, 244140625, 1220703125, 6103515625, 30517578125, 152587890625, 762939453125, 3814697265625, 19073486328125, 95367431640625, 476837158203125, 2384185791015625, 11920928955078125, 59604644775390625, 298023223876953125, 1490116119384765625, 7450580596923828125]
def own_p5 : List Value := own_longs.map Value.long
def own_get (j : Int32) : Int64 := own_longs.getD j.toNatClampNeg 0
def own_ok (n : Int32) : Prop := -27 ≤ n.toInt ∧ n.toInt ≤ 27
theorem own_len : own_longs.length = 28 := rfl
theorem own_at (j : Int32) (h : j.toNatClampNeg < 28) : own_p5[j.toNatClampNeg]? = some (.long (own_get j)) := by
  have q : j.toNatClampNeg < own_longs.length := h
  unfold own_p5 own_get
  rw [List.getElem?_map, List.getD_eq_getElem?_getD, List.getElem?_eq_getElem q]
  rfl
theorem own_ix1 {n : Int32} (h : ¬ n < (0 : Int32)) (k : own_ok n) : n.toNatClampNeg < 28 := by
  have := k.2; simp only [Int32.toNatClampNeg]; omega
theorem own_neg {n : Int32} (k : own_ok n) : (-n).toInt = -n.toInt := by
  have e := c_ineg n; have r := rng32 (-n); have := k.1; have := k.2; omega
theorem own_ix2 {n : Int32} (h : n < (0 : Int32)) (k : own_ok n) : (-n).toNatClampNeg < 28 := by
  have := own_neg k; have := k.1; simp only [Int32.toNatClampNeg]; omega
theorem own_ng {n : Int32} (h : n < (0 : Int32)) (k : own_ok n) : ¬ (-n) < (0 : Int32) := by
  have := own_neg k
  rw [Int32.lt_iff_toInt_lt] at h ⊢
  have l0 : (0 : Int32).toInt = 0 := rfl
  omega
theorem own_k1 {k : Int32} (h1 : ¬ k < (-26 : Int32)) (h2 : ¬ (26 : Int32) < k) : own_ok k := by
  rw [Int32.lt_iff_toInt_lt] at h1 h2
  have l1 : (-26 : Int32).toInt = -26 := rfl
  have l2 : (26 : Int32).toInt = 26 := rfl
  unfold own_ok; omega
theorem own_k2 {k : Int32} (h1 : ¬ k < (-26 : Int32)) (h2 : ¬ (26 : Int32) < k) : own_ok (k + (1 : Int32)) := by
  rw [Int32.lt_iff_toInt_lt] at h1 h2
  have l1 : (-26 : Int32).toInt = -26 := rfl
  have l2 : (26 : Int32).toInt = 26 := rfl
  have l3 : (1 : Int32).toInt = 1 := rfl
  have e := c_iadd k 1; have r := rng32 (k + 1)
  unfold own_ok; omega
theorem d2_0 : decode method_3_code 0 = .ok (.iload 4, 2) := by decide +kernel
theorem d2_2 : decode method_3_code 2 = .ok (.iconst 2, 1) := by decide +kernel
theorem d2_3 : decode method_3_code 3 = .ok (.isub, 1) := by decide +kernel
theorem d2_4 : decode method_3_code 4 = .ok (.iload_n 1, 1) := by decide +kernel
theorem d2_5 : decode method_3_code 5 = .ok (.isub, 1) := by decide +kernel
theorem d2_6 : decode method_3_code 6 = .ok (.istore 5, 2) := by decide +kernel
theorem d2_8 : decode method_3_code 8 = .ok (.iload_n 1, 1) := by decide +kernel
theorem d2_9 : decode method_3_code 9 = .ok (.ifCond .lt 13, 3) := by decide +kernel
theorem d2_12 : decode method_3_code 12 = .ok (.lload_n 2, 1) := by decide +kernel
theorem d2_13 : decode method_3_code 13 = .ok (.iload 5, 2) := by decide +kernel
theorem d2_15 : decode method_3_code 15 = .ok (.aload_n 0, 1) := by decide +kernel
theorem d2_16 : decode method_3_code 16 = .ok (.iload_n 1, 1) := by decide +kernel
theorem d2_17 : decode method_3_code 17 = .ok (.laload, 1) := by decide +kernel
theorem d2_18 : decode method_3_code 18 = .ok (.invokestatic 78, 3) := by decide +kernel
theorem d2_21 : decode method_3_code 21 = .ok (.ireturn, 1) := by decide +kernel
theorem d2_22 : decode method_3_code 22 = .ok (.lload_n 2, 1) := by decide +kernel
theorem d2_23 : decode method_3_code 23 = .ok (.aload_n 0, 1) := by decide +kernel
theorem d2_24 : decode method_3_code 24 = .ok (.iload_n 1, 1) := by decide +kernel
theorem d2_25 : decode method_3_code 25 = .ok (.ineg, 1) := by decide +kernel
theorem d2_26 : decode method_3_code 26 = .ok (.laload, 1) := by decide +kernel
theorem d2_27 : decode method_3_code 27 = .ok (.lmul, 1) := by decide +kernel
theorem d2_28 : decode method_3_code 28 = .ok (.iload 5, 2) := by decide +kernel
theorem d2_30 : decode method_3_code 30 = .ok (.lconst 1, 1) := by decide +kernel
theorem d2_31 : decode method_3_code 31 = .ok (.invokestatic 78, 3) := by decide +kernel
theorem d2_34 : decode method_3_code 34 = .ok (.ireturn, 1) := by decide +kernel
def f2 (p1 : Int32) (p2 : Int64) (p3 : Int32) : Bool := (if p1 < (0 : Int32) then (f3 (p2 * (own_get (-p1))) ((p3 - (2 : Int32)) - p1) (1 : Int64)) else (f3 p2 ((p3 - (2 : Int32)) - p1) (own_get p1)))
def Q2 (Z : State) (p0 : Addr) (p1 : Int32) (p2 : Int64) (p3 : Int32) (h0 : Heap) (n0 : Nat) (v : Option Value) (h : Heap) (L : List Loc) : Prop := v = some (.int (b2i (f2 p1 p2 p3))) ∧ Fr n0 L ∧ h = h0
abbrev rmm2 : Room := { frames := 1, cells := 0, slots := 0, locals := 19 }
abbrev P2 (Z : State) (p0 : Addr) (p1 : Int32) (p2 : Int64) (p3 : Int32) (h0 : Heap) (n0 : Nat) (s : State) : Outcome → State → Prop := fun o U' => ∃ v L, o = .returned v ∧ Q2 Z p0 p1 p2 p3 h0 n0 v U'.heap L ∧ FrameEnd s o U' L rmm2.cells rmm2.slots
theorem pn_2 : plainName "com/example/spillway/spillway/ShortestDecimalScalePinLaw" = true := by first | (simp [plainName, overriddenIn]; done) | decide +kernel
theorem ef_2 (m : MethodId) (p0 : Addr) (p1 : Int32) (p2 : Int64) (p3 : Int32) : entryFrame m #[(.ref p0), (.int p1), (.long p2), (.int p3)] 6 = mkF m 0 #[.val (.ref p0), .val (.int p1), .val (.long p2), .second, .val (.int p3), .unset] [] := by first | (simp [entryFrame, mkF, argsToLocals, Value.category]; done) | rfl
set_option maxRecDepth 65536 in
set_option maxHeartbeats 40000000 in
theorem rm2 (l : Launch) (Z : State) (a0 : Array Value) (hw : ∀ d ∈ tables_1, d.before a0 Z = true) (ws : List Jvm.Cond) (p0 : Addr) (p1 : Int32) (p2 : Int64) (p3 : Int32) (h0 : Heap) (n0 : Nat) (Z0 : n0 ≤ h0.size) (H0 : ArL Z h0 p0 .long own_p5) (hn : own_ok p1) :
    MetFree l (⟨"com/example/spillway/spillway/ShortestDecimalScalePinLaw", "atMost", "([JIJI)Z"⟩ : MethodName) (head1 (Jvm.Cond.code (⟨"com/example/spillway/spillway/ShortestDecimalScalePinLaw", "atMost", "([JIJI)Z"⟩ : MethodName) method_3_code 6 (some .boolean) :: ws) rmm2) (fun a U => a = #[(.ref p0), (.int p1), (.long p2), (.int p3)] ∧ Z.Warmed39 U.vm ∧ U.heap = h0) (fun _ _ _ _ _ => True) (fun _ U o U' => ∃ v L, o = .returned v ∧ Q2 Z p0 p1 p2 p3 h0 n0 v U'.heap L ∧ FrameEnd U o U' L rmm2.cells rmm2.slots) := by
  refine MetFree.of_bodySF (plainFor_of_name pn_2) hisR ?_
  intro p e s m args below meth c s₁ Bd hml0 hP hK
  obtain ⟨rfl, hZ, hh⟩ := hP
  have hx := Bd.exec
  have hby := Bd.bytes
  have hml : c.maxLocals = 6 := hml0
  have hown : s.vm.findClass "com/example/spillway/spillway/ShortestDecimalScalePinLaw" = some m.cls := findClass_of_methodNamed Bd.named
  have hnm := (name_of_methodNamed Bd.named Bd.method).1
  have X0 : Stand p l e rmm2 s m #[(.ref p0), (.int p1), (.long p2), (.int p3)] below meth c s₁ [] 0 0 := Stand.of_body Bd
  have e0 : s₁.heap = h0 := by rw [← hh, Bd.state]; rfl
  have N0 := Fr.nil n0
  show Go p.tables e below (P2 Z p0 p1 p2 p3 h0 n0 s) (s₁.setTop (entryFrame m #[(.ref p0), (.int p1), (.long p2), (.int p3)] 6))
  refine Go.back (fun t k => castTop (ef_2 m p0 p1 p2 p3) k) ?_
  show Go p.tables e below (P2 Z p0 p1 p2 p3 h0 n0 s) (s₁.setTop (mkF m 0 #[.val (.ref p0), .val (.int p1), .val (.long p2), .second, .val (.int p3), .unset] []))
  have hf0 : f2 p1 p2 p3 = (if p1 < (0 : Int32) then (f3 (p2 * (own_get (-p1))) ((p3 - (2 : Int32)) - p1) (1 : Int64)) else (f3 p2 ((p3 - (2 : Int32)) - p1) (own_get p1))) := rfl
  refine Go.back (fun t k => XS.iload X0.here hx rfl (hb hby d2_0) rfl  k) ?_
  show Go p.tables e below (P2 Z p0 p1 p2 p3 h0 n0 s) (s₁.setTop (mkF m 2 #[.val (.ref p0), .val (.int p1), .val (.long p2), .second, .val (.int p3), .unset] [(.int p3)]))
  refine Go.back (fun t k => XS.iconst X0.here hx rfl (hb hby d2_2) k) ?_
  show Go p.tables e below (P2 Z p0 p1 p2 p3 h0 n0 s) (s₁.setTop (mkF m 3 #[.val (.ref p0), .val (.int p1), .val (.long p2), .second, .val (.int p3), .unset] [(.int (2 : Int32)), (.int p3)]))
  refine Go.back (fun t k => XS.isub X0.here hx rfl (hb hby d2_3) rfl k) ?_
  show Go p.tables e below (P2 Z p0 p1 p2 p3 h0 n0 s) (s₁.setTop (mkF m 4 #[.val (.ref p0), .val (.int p1), .val (.long p2), .second, .val (.int p3), .unset] [(.int (p3 - (2 : Int32)))]))
  refine Go.back (fun t k => XS.iloadN X0.here hx rfl (hb hby d2_4) rfl  k) ?_
  show Go p.tables e below (P2 Z p0 p1 p2 p3 h0 n0 s) (s₁.setTop (mkF m 5 #[.val (.ref p0), .val (.int p1), .val (.long p2), .second, .val (.int p3), .unset] [(.int p1), (.int (p3 - (2 : Int32)))]))
  refine Go.back (fun t k => XS.isub X0.here hx rfl (hb hby d2_5) rfl k) ?_
  show Go p.tables e below (P2 Z p0 p1 p2 p3 h0 n0 s) (s₁.setTop (mkF m 6 #[.val (.ref p0), .val (.int p1), .val (.long p2), .second, .val (.int p3), .unset] [(.int ((p3 - (2 : Int32)) - p1))]))
  refine Go.back (fun t k => XS.istore X0.here hx rfl (hb hby d2_6) rfl (l' := #[.val (.ref p0), .val (.int p1), .val (.long p2), .second, .val (.int p3), .val (.int ((p3 - (2 : Int32)) - p1))]) rfl k) ?_
  show Go p.tables e below (P2 Z p0 p1 p2 p3 h0 n0 s) (s₁.setTop (mkF m 8 #[.val (.ref p0), .val (.int p1), .val (.long p2), .second, .val (.int p3), .val (.int ((p3 - (2 : Int32)) - p1))] []))
  refine Go.back (fun t k => XS.iloadN X0.here hx rfl (hb hby d2_8) rfl  k) ?_
  show Go p.tables e below (P2 Z p0 p1 p2 p3 h0 n0 s) (s₁.setTop (mkF m 9 #[.val (.ref p0), .val (.int p1), .val (.long p2), .second, .val (.int p3), .val (.int ((p3 - (2 : Int32)) - p1))] [(.int p1)]))
  by_cases hc1 : p1 < (0 : Int32)
  · have r2 := hf0.trans (if_pos hc1)
    refine Go.back (fun t k => XS.ifYes X0.here hx rfl (pc0 := 9) (pc' := 22) rfl (hb hby d2_9) rfl ((if0 _ _).trans (tlt hc1).1) (by decide) (by decide) k) ?_
    show Go p.tables e below (P2 Z p0 p1 p2 p3 h0 n0 s) (s₁.setTop (mkF m 22 #[.val (.ref p0), .val (.int p1), .val (.long p2), .second, .val (.int p3), .val (.int ((p3 - (2 : Int32)) - p1))] []))
    refine Go.back (fun t k => XS.lloadN X0.here hx rfl (hb hby d2_22) rfl  k) ?_
    show Go p.tables e below (P2 Z p0 p1 p2 p3 h0 n0 s) (s₁.setTop (mkF m 23 #[.val (.ref p0), .val (.int p1), .val (.long p2), .second, .val (.int p3), .val (.int ((p3 - (2 : Int32)) - p1))] [(.long p2)]))
    refine Go.back (fun t k => XS.aloadN X0.here hx rfl (hb hby d2_23) rfl rfl  k) ?_
    show Go p.tables e below (P2 Z p0 p1 p2 p3 h0 n0 s) (s₁.setTop (mkF m 24 #[.val (.ref p0), .val (.int p1), .val (.long p2), .second, .val (.int p3), .val (.int ((p3 - (2 : Int32)) - p1))] [(.ref p0), (.long p2)]))
    refine Go.back (fun t k => XS.iloadN X0.here hx rfl (hb hby d2_24) rfl  k) ?_
    show Go p.tables e below (P2 Z p0 p1 p2 p3 h0 n0 s) (s₁.setTop (mkF m 25 #[.val (.ref p0), .val (.int p1), .val (.long p2), .second, .val (.int p3), .val (.int ((p3 - (2 : Int32)) - p1))] [(.int p1), (.ref p0), (.long p2)]))
    refine Go.back (fun t k => XS.ineg X0.here hx rfl (hb hby d2_25) rfl k) ?_
    show Go p.tables e below (P2 Z p0 p1 p2 p3 h0 n0 s) (s₁.setTop (mkF m 26 #[.val (.ref p0), .val (.int p1), .val (.long p2), .second, .val (.int p3), .val (.int ((p3 - (2 : Int32)) - p1))] [(.int ((-p1))), (.ref p0), (.long p2)]))
    obtain ⟨cl3, Ar3, hi3, ha3⟩ := H0.get (j := ((-p1))) (own_ng hc1 hn) (v := (.long (own_get (-p1)))) (own_at (-p1) (own_ix2 hc1 hn))
    refine Go.back (fun t k => X0.laload hx (j := ((-p1))) (v := (.long (own_get (-p1)))) (by rw [e0]; exact Ar3.1) (State.isArrayOf_alike hZ.alike Ar3.2.1) Ar3.2.2 hi3 ha3 (g := (mkF m 26 #[.val (.ref p0), .val (.int p1), .val (.long p2), .second, .val (.int p3), .val (.int ((p3 - (2 : Int32)) - p1))] [(.int ((-p1))), (.ref p0), (.long p2)])) rfl rfl (hb hby d2_26) t k) ?_
    show Go p.tables e below (P2 Z p0 p1 p2 p3 h0 n0 s) (s₁.setTop (mkF m 27 #[.val (.ref p0), .val (.int p1), .val (.long p2), .second, .val (.int p3), .val (.int ((p3 - (2 : Int32)) - p1))] [(.long (own_get (-p1))), (.long p2)]))
    refine Go.back (fun t k => XS.lmul X0.here hx rfl (hb hby d2_27) rfl k) ?_
    show Go p.tables e below (P2 Z p0 p1 p2 p3 h0 n0 s) (s₁.setTop (mkF m 28 #[.val (.ref p0), .val (.int p1), .val (.long p2), .second, .val (.int p3), .val (.int ((p3 - (2 : Int32)) - p1))] [(.long (p2 * (own_get (-p1))))]))
    refine Go.back (fun t k => XS.iload X0.here hx rfl (hb hby d2_28) rfl  k) ?_
    show Go p.tables e below (P2 Z p0 p1 p2 p3 h0 n0 s) (s₁.setTop (mkF m 30 #[.val (.ref p0), .val (.int p1), .val (.long p2), .second, .val (.int p3), .val (.int ((p3 - (2 : Int32)) - p1))] [(.int ((p3 - (2 : Int32)) - p1)), (.long (p2 * (own_get (-p1))))]))
    refine Go.back (fun t k => XS.lconst X0.here hx rfl (hb hby d2_30) k) ?_
    show Go p.tables e below (P2 Z p0 p1 p2 p3 h0 n0 s) (s₁.setTop (mkF m 31 #[.val (.ref p0), .val (.int p1), .val (.long p2), .second, .val (.int p3), .val (.int ((p3 - (2 : Int32)) - p1))] [(.long (1 : Int64)), (.int ((p3 - (2 : Int32)) - p1)), (.long (p2 * (own_get (-p1))))]))
    obtain ⟨_, _, ⟨T4, L4, k4, n4⟩, -, X4, ⟨Lc4, hQ4, l4, y4, z4⟩, st4⟩ := Jvm.LawKit.callS X0 hx (y := (⟨"com/example/spillway/spillway/ShortestDecimalScalePinLaw", "ge", "(JIJ)Z"⟩ : MethodName)) hown (mvT hZ (hw _ (List.mem_of_getElem? (i := 40) rfl))) (mvT hZ (hw _ (List.mem_of_getElem? (i := 41) rfl))) (mvT hZ (hw _ (List.mem_of_getElem? (i := 38) rfl))) (mvT hZ (hw _ (List.mem_of_getElem? (i := 42) rfl))) (by decide) (backOf (W := 0) (rm3 l Z a0 hw [] (p2 * (own_get (-p1))) ((p3 - (2 : Int32)) - p1) (1 : Int64) h0 n0) hZ (hw _ (List.mem_of_getElem? (i := 42) rfl)) (hw _ (List.mem_of_getElem? (i := 38) rfl)) (by decide) (by decide)) (g := (mkF m 31 #[.val (.ref p0), .val (.int p1), .val (.long p2), .second, .val (.int p3), .val (.int ((p3 - (2 : Int32)) - p1))] [(.long (1 : Int64)), (.int ((p3 - (2 : Int32)) - p1)), (.long (p2 * (own_get (-p1))))])) rfl (by rw [hml]; rfl) (argsL := [(.long (p2 * (own_get (-p1)))), (.int ((p3 - (2 : Int32)) - p1)), (.long (1 : Int64))]) (rest := []) (lenOf pd_0 rfl) rfl (by show 2 * 0 + _ ≤ _; exact Nat.le_of_eq rfl) (hb hby d2_31) (fun _ _ => ⟨rfl, e0, (by decide : 0 + 0 ≤ _), (by decide : 0 + 0 ≤ _)⟩)
    dsimp only [Pt.U, Pt.locs, Pt.cells, Pt.slots] at X4 l4 y4 z4 st4 hQ4
    subst l4 y4 z4
    obtain ⟨rfl, N4q, e4⟩ := hQ4
    obtain ⟨Lo4, Y4, N4⟩ := pk X4 (Fr.app N0 N4q)
    refine Go.back st4 ?_
    show Go p.tables e below (P2 Z p0 p1 p2 p3 h0 n0 s) (T4.setTop (mkF m 34 #[.val (.ref p0), .val (.int p1), .val (.long p2), .second, .val (.int p3), .val (.int ((p3 - (2 : Int32)) - p1))] [(.int (b2i (f3 (p2 * (own_get (-p1))) ((p3 - (2 : Int32)) - p1) (1 : Int64))))]))
    exact Go.retB (b := (f3 (p2 * (own_get (-p1))) ((p3 - (2 : Int32)) - p1) (1 : Int64))) Y4 hx Bd.returns (hb hby d2_34) Bd.notSynchronized ⟨by rw [r2], N4, e4⟩ (by decide) (by decide)
  · have r5 := hf0.trans (if_neg hc1)
    refine Go.back (fun t k => XS.ifNo X0.here hx rfl (hb hby d2_9) rfl ((if0 _ _).trans (flt hc1).1) k) ?_
    show Go p.tables e below (P2 Z p0 p1 p2 p3 h0 n0 s) (s₁.setTop (mkF m 12 #[.val (.ref p0), .val (.int p1), .val (.long p2), .second, .val (.int p3), .val (.int ((p3 - (2 : Int32)) - p1))] []))
    refine Go.back (fun t k => XS.lloadN X0.here hx rfl (hb hby d2_12) rfl  k) ?_
    show Go p.tables e below (P2 Z p0 p1 p2 p3 h0 n0 s) (s₁.setTop (mkF m 13 #[.val (.ref p0), .val (.int p1), .val (.long p2), .second, .val (.int p3), .val (.int ((p3 - (2 : Int32)) - p1))] [(.long p2)]))
    refine Go.back (fun t k => XS.iload X0.here hx rfl (hb hby d2_13) rfl  k) ?_
    show Go p.tables e below (P2 Z p0 p1 p2 p3 h0 n0 s) (s₁.setTop (mkF m 15 #[.val (.ref p0), .val (.int p1), .val (.long p2), .second, .val (.int p3), .val (.int ((p3 - (2 : Int32)) - p1))] [(.int ((p3 - (2 : Int32)) - p1)), (.long p2)]))
    refine Go.back (fun t k => XS.aloadN X0.here hx rfl (hb hby d2_15) rfl rfl  k) ?_
    show Go p.tables e below (P2 Z p0 p1 p2 p3 h0 n0 s) (s₁.setTop (mkF m 16 #[.val (.ref p0), .val (.int p1), .val (.long p2), .second, .val (.int p3), .val (.int ((p3 - (2 : Int32)) - p1))] [(.ref p0), (.int ((p3 - (2 : Int32)) - p1)), (.long p2)]))
    refine Go.back (fun t k => XS.iloadN X0.here hx rfl (hb hby d2_16) rfl  k) ?_
    show Go p.tables e below (P2 Z p0 p1 p2 p3 h0 n0 s) (s₁.setTop (mkF m 17 #[.val (.ref p0), .val (.int p1), .val (.long p2), .second, .val (.int p3), .val (.int ((p3 - (2 : Int32)) - p1))] [(.int p1), (.ref p0), (.int ((p3 - (2 : Int32)) - p1)), (.long p2)]))
    obtain ⟨cl6, Ar6, hi6, ha6⟩ := H0.get (j := p1) hc1 (v := (.long (own_get p1))) (own_at p1 (own_ix1 hc1 hn))
    refine Go.back (fun t k => X0.laload hx (j := p1) (v := (.long (own_get p1))) (by rw [e0]; exact Ar6.1) (State.isArrayOf_alike hZ.alike Ar6.2.1) Ar6.2.2 hi6 ha6 (g := (mkF m 17 #[.val (.ref p0), .val (.int p1), .val (.long p2), .second, .val (.int p3), .val (.int ((p3 - (2 : Int32)) - p1))] [(.int p1), (.ref p0), (.int ((p3 - (2 : Int32)) - p1)), (.long p2)])) rfl rfl (hb hby d2_17) t k) ?_
    show Go p.tables e below (P2 Z p0 p1 p2 p3 h0 n0 s) (s₁.setTop (mkF m 18 #[.val (.ref p0), .val (.int p1), .val (.long p2), .second, .val (.int p3), .val (.int ((p3 - (2 : Int32)) - p1))] [(.long (own_get p1)), (.int ((p3 - (2 : Int32)) - p1)), (.long p2)]))
    obtain ⟨_, _, ⟨T7, L7, k7, n7⟩, -, X7, ⟨Lc7, hQ7, l7, y7, z7⟩, st7⟩ := Jvm.LawKit.callS X0 hx (y := (⟨"com/example/spillway/spillway/ShortestDecimalScalePinLaw", "ge", "(JIJ)Z"⟩ : MethodName)) hown (mvT hZ (hw _ (List.mem_of_getElem? (i := 40) rfl))) (mvT hZ (hw _ (List.mem_of_getElem? (i := 41) rfl))) (mvT hZ (hw _ (List.mem_of_getElem? (i := 38) rfl))) (mvT hZ (hw _ (List.mem_of_getElem? (i := 42) rfl))) (by decide) (backOf (W := 0) (rm3 l Z a0 hw [] p2 ((p3 - (2 : Int32)) - p1) (own_get p1) h0 n0) hZ (hw _ (List.mem_of_getElem? (i := 42) rfl)) (hw _ (List.mem_of_getElem? (i := 38) rfl)) (by decide) (by decide)) (g := (mkF m 18 #[.val (.ref p0), .val (.int p1), .val (.long p2), .second, .val (.int p3), .val (.int ((p3 - (2 : Int32)) - p1))] [(.long (own_get p1)), (.int ((p3 - (2 : Int32)) - p1)), (.long p2)])) rfl (by rw [hml]; rfl) (argsL := [(.long p2), (.int ((p3 - (2 : Int32)) - p1)), (.long (own_get p1))]) (rest := []) (lenOf pd_0 rfl) rfl (by show 2 * 0 + _ ≤ _; exact Nat.le_of_eq rfl) (hb hby d2_18) (fun _ _ => ⟨rfl, e0, (by decide : 0 + 0 ≤ _), (by decide : 0 + 0 ≤ _)⟩)
    dsimp only [Pt.U, Pt.locs, Pt.cells, Pt.slots] at X7 l7 y7 z7 st7 hQ7
    subst l7 y7 z7
    obtain ⟨rfl, N7q, e7⟩ := hQ7
    obtain ⟨Lo7, Y7, N7⟩ := pk X7 (Fr.app N0 N7q)
    refine Go.back st7 ?_
    show Go p.tables e below (P2 Z p0 p1 p2 p3 h0 n0 s) (T7.setTop (mkF m 21 #[.val (.ref p0), .val (.int p1), .val (.long p2), .second, .val (.int p3), .val (.int ((p3 - (2 : Int32)) - p1))] [(.int (b2i (f3 p2 ((p3 - (2 : Int32)) - p1) (own_get p1))))]))
    exact Go.retB (b := (f3 p2 ((p3 - (2 : Int32)) - p1) (own_get p1))) Y7 hx Bd.returns (hb hby d2_21) Bd.notSynchronized ⟨by rw [r5], N7, e7⟩ (by decide) (by decide)
def f0 (p0 : Int32) (p1 : Int32) : Bool := (let z2 : Int32 := (((p0 &&& (2147483647 : Int32)) % (175 : Int32)) - (85 : Int32)); (let z6 : Bool := (if (p1 &&& (1 : Int32)) = (0 : Int32) then false else true); (let z10 : Int64 := (if z6 = true then (3 : Int64) else (4 : Int64)); (let z102 : Int32 := (f1 z2 z6); (if z102 < (-26 : Int32) then false else (if (26 : Int32) < z102 then false else (let z113 : Bool := (if (f2 z102 z10 z2) = true then (if (f2 (z102 + (1 : Int32)) z10 z2) = true then false else true) else false); z113)))))))
def Q0 (Z : State) (p0 : Int32) (p1 : Int32) (h0 : Heap) (n0 : Nat) (v : Option Value) (h : Heap) (L : List Loc) : Prop := v = some (.int (b2i (f0 p0 p1))) ∧ Fr n0 L
abbrev P0 (Z : State) (p0 : Int32) (p1 : Int32) (h0 : Heap) (n0 : Nat) (s : State) : Outcome → State → Prop := fun o U' => ∃ v L, o = .returned v ∧ Q0 Z p0 p1 h0 n0 v U'.heap L ∧ FrameEnd s o U' L room_1.cells room_1.slots
theorem pn_0 : plainName "com/example/spillway/spillway/ShortestDecimalScalePinLaw" = true := by first | (simp [plainName, overriddenIn]; done) | decide +kernel
theorem ef_0 (m : MethodId) (p0 : Int32) (p1 : Int32) : entryFrame m #[(.int p0), (.int p1)] maxLocals = mkF m 0 #[.val (.int p0), .val (.int p1), .unset, .unset, .unset, .unset, .unset, .unset] [] := by first | (simp [entryFrame, mkF, argsToLocals, Value.category, maxLocals]; done) | rfl
set_option maxRecDepth 65536 in
set_option maxHeartbeats 40000000 in
theorem rm0 (l : Launch) (Z : State) (a0 : Array Value) (hw : ∀ d ∈ tables_1, d.before a0 Z = true) (ws : List Jvm.Cond) (p0 : Int32) (p1 : Int32) (h0 : Heap) (n0 : Nat) (Z0 : n0 ≤ h0.size) :
    MetFree l x (head1 (Jvm.Cond.code x code maxLocals ret :: ws) room_1) (fun a U => a = #[(.int p0), (.int p1)] ∧ Z.Warmed39 U.vm ∧ U.heap = h0) (fun _ _ _ _ _ => True) (fun _ U o U' => ∃ v L, o = .returned v ∧ Q0 Z p0 p1 h0 n0 v U'.heap L ∧ FrameEnd U o U' L room_1.cells room_1.slots) := by
  refine MetFree.of_bodySF (plainFor_of_name pn_0) hisR ?_
  intro p e s m args below meth c s₁ Bd hml0 hP hK
  obtain ⟨rfl, hZ, hh⟩ := hP
  have hx := Bd.exec
  have hby := Bd.bytes
  have hml : c.maxLocals = 8 := hml0
  have hown : s.vm.findClass "com/example/spillway/spillway/ShortestDecimalScalePinLaw" = some m.cls := findClass_of_methodNamed Bd.named
  have hnm := (name_of_methodNamed Bd.named Bd.method).1
  have X0 : Stand p l e room_1 s m #[(.int p0), (.int p1)] below meth c s₁ [] 0 0 := Stand.of_body Bd
  have e0 : s₁.heap = h0 := by rw [← hh, Bd.state]; rfl
  have N0 := Fr.nil n0
  show Go p.tables e below (P0 Z p0 p1 h0 n0 s) (s₁.setTop (entryFrame m #[(.int p0), (.int p1)] maxLocals))
  refine Go.back (fun t k => castTop (ef_0 m p0 p1) k) ?_
  show Go p.tables e below (P0 Z p0 p1 h0 n0 s) (s₁.setTop (mkF m 0 #[.val (.int p0), .val (.int p1), .unset, .unset, .unset, .unset, .unset, .unset] []))
  have hf0 : f0 p0 p1 = (let z2 : Int32 := (((p0 &&& (2147483647 : Int32)) % (175 : Int32)) - (85 : Int32)); (let z6 : Bool := (if (p1 &&& (1 : Int32)) = (0 : Int32) then false else true); (let z10 : Int64 := (if z6 = true then (3 : Int64) else (4 : Int64)); (let z102 : Int32 := (f1 z2 z6); (if z102 < (-26 : Int32) then false else (if (26 : Int32) < z102 then false else (let z113 : Bool := (if (f2 z102 z10 z2) = true then (if (f2 (z102 + (1 : Int32)) z10 z2) = true then false else true) else false); z113))))))) := rfl
  refine Go.back (fun t k => XS.iloadN X0.here hx rfl (hb hby at_0) rfl  k) ?_
  show Go p.tables e below (P0 Z p0 p1 h0 n0 s) (s₁.setTop (mkF m 1 #[.val (.int p0), .val (.int p1), .unset, .unset, .unset, .unset, .unset, .unset] [(.int p0)]))
  refine Go.back (fun t k => X0.ldcInt hx hown (mvT hZ (hw _ (List.mem_of_getElem? (i := 0) rfl))) (g := (mkF m 1 #[.val (.int p0), .val (.int p1), .unset, .unset, .unset, .unset, .unset, .unset] [(.int p0)])) rfl (hb hby at_1) t k) ?_
  show Go p.tables e below (P0 Z p0 p1 h0 n0 s) (s₁.setTop (mkF m 3 #[.val (.int p0), .val (.int p1), .unset, .unset, .unset, .unset, .unset, .unset] [(.int (2147483647 : Int32)), (.int p0)]))
  refine Go.back (fun t k => XS.iand X0.here hx rfl (hb hby at_3) rfl k) ?_
  show Go p.tables e below (P0 Z p0 p1 h0 n0 s) (s₁.setTop (mkF m 4 #[.val (.int p0), .val (.int p1), .unset, .unset, .unset, .unset, .unset, .unset] [(.int (p0 &&& (2147483647 : Int32)))]))
  refine Go.back (fun t k => XS.sipush X0.here hx rfl (hb hby at_4) k) ?_
  show Go p.tables e below (P0 Z p0 p1 h0 n0 s) (s₁.setTop (mkF m 7 #[.val (.int p0), .val (.int p1), .unset, .unset, .unset, .unset, .unset, .unset] [(.int (175 : Int32)), (.int (p0 &&& (2147483647 : Int32)))]))
  refine Go.back (fun t k => iremM X0 hx rfl (hb hby at_7) rfl (by decide) k) ?_
  show Go p.tables e below (P0 Z p0 p1 h0 n0 s) (s₁.setTop (mkF m 8 #[.val (.int p0), .val (.int p1), .unset, .unset, .unset, .unset, .unset, .unset] [(.int ((p0 &&& (2147483647 : Int32)) % (175 : Int32)))]))
  refine Go.back (fun t k => XS.bipush X0.here hx rfl (hb hby at_8) k) ?_
  show Go p.tables e below (P0 Z p0 p1 h0 n0 s) (s₁.setTop (mkF m 10 #[.val (.int p0), .val (.int p1), .unset, .unset, .unset, .unset, .unset, .unset] [(.int (85 : Int32)), (.int ((p0 &&& (2147483647 : Int32)) % (175 : Int32)))]))
  refine Go.back (fun t k => XS.isub X0.here hx rfl (hb hby at_10) rfl k) ?_
  show Go p.tables e below (P0 Z p0 p1 h0 n0 s) (s₁.setTop (mkF m 11 #[.val (.int p0), .val (.int p1), .unset, .unset, .unset, .unset, .unset, .unset] [(.int (((p0 &&& (2147483647 : Int32)) % (175 : Int32)) - (85 : Int32)))]))
  refine Go.back (fun t k => XS.istoreN X0.here hx rfl (hb hby at_11) rfl (l' := #[.val (.int p0), .val (.int p1), .val (.int (((p0 &&& (2147483647 : Int32)) % (175 : Int32)) - (85 : Int32))), .unset, .unset, .unset, .unset, .unset]) rfl k) ?_
  show Go p.tables e below (P0 Z p0 p1 h0 n0 s) (s₁.setTop (mkF m 12 #[.val (.int p0), .val (.int p1), .val (.int (((p0 &&& (2147483647 : Int32)) % (175 : Int32)) - (85 : Int32))), .unset, .unset, .unset, .unset, .unset] []))
  have J1 : ∀ (z2 : Int32) (hz2 : z2 = (((p0 &&& (2147483647 : Int32)) % (175 : Int32)) - (85 : Int32))), Go p.tables e below (P0 Z p0 p1 h0 n0 s) (s₁.setTop (mkF m 12 #[.val (.int p0), .val (.int p1), .val (.int z2), .unset, .unset, .unset, .unset, .unset] [])) := by
    intro z2 hz2
    have r3 : f0 p0 p1 = (let z6 : Bool := (if (p1 &&& (1 : Int32)) = (0 : Int32) then false else true); (let z10 : Int64 := (if z6 = true then (3 : Int64) else (4 : Int64)); (let z102 : Int32 := (f1 z2 z6); (if z102 < (-26 : Int32) then false else (if (26 : Int32) < z102 then false else (let z113 : Bool := (if (f2 z102 z10 z2) = true then (if (f2 (z102 + (1 : Int32)) z10 z2) = true then false else true) else false); z113)))))) := by subst hz2; exact hf0
    show Go p.tables e below (P0 Z p0 p1 h0 n0 s) (s₁.setTop (mkF m 12 #[.val (.int p0), .val (.int p1), .val (.int z2), .unset, .unset, .unset, .unset, .unset] []))
    refine Go.back (fun t k => XS.iloadN X0.here hx rfl (hb hby at_12) rfl  k) ?_
    show Go p.tables e below (P0 Z p0 p1 h0 n0 s) (s₁.setTop (mkF m 13 #[.val (.int p0), .val (.int p1), .val (.int z2), .unset, .unset, .unset, .unset, .unset] [(.int p1)]))
    refine Go.back (fun t k => XS.iconst X0.here hx rfl (hb hby at_13) k) ?_
    show Go p.tables e below (P0 Z p0 p1 h0 n0 s) (s₁.setTop (mkF m 14 #[.val (.int p0), .val (.int p1), .val (.int z2), .unset, .unset, .unset, .unset, .unset] [(.int (1 : Int32)), (.int p1)]))
    refine Go.back (fun t k => XS.iand X0.here hx rfl (hb hby at_14) rfl k) ?_
    show Go p.tables e below (P0 Z p0 p1 h0 n0 s) (s₁.setTop (mkF m 15 #[.val (.int p0), .val (.int p1), .val (.int z2), .unset, .unset, .unset, .unset, .unset] [(.int (p1 &&& (1 : Int32)))]))
    have J5 : ∀ (z6 : Bool) (hz6 : z6 = (if (p1 &&& (1 : Int32)) = (0 : Int32) then false else true)), Go p.tables e below (P0 Z p0 p1 h0 n0 s) (s₁.setTop (mkF m 23 #[.val (.int p0), .val (.int p1), .val (.int z2), .unset, .unset, .unset, .unset, .unset] [(.int (b2i z6))])) := by
      intro z6 hz6
      have r7 : f0 p0 p1 = (let z10 : Int64 := (if z6 = true then (3 : Int64) else (4 : Int64)); (let z102 : Int32 := (f1 z2 z6); (if z102 < (-26 : Int32) then false else (if (26 : Int32) < z102 then false else (let z113 : Bool := (if (f2 z102 z10 z2) = true then (if (f2 (z102 + (1 : Int32)) z10 z2) = true then false else true) else false); z113))))) := by subst hz6; exact r3
      show Go p.tables e below (P0 Z p0 p1 h0 n0 s) (s₁.setTop (mkF m 23 #[.val (.int p0), .val (.int p1), .val (.int z2), .unset, .unset, .unset, .unset, .unset] [(.int (b2i z6))]))
      refine Go.back (fun t k => XS.istoreN X0.here hx rfl (hb hby at_23) rfl (l' := #[.val (.int p0), .val (.int p1), .val (.int z2), .val (.int (b2i z6)), .unset, .unset, .unset, .unset]) rfl k) ?_
      show Go p.tables e below (P0 Z p0 p1 h0 n0 s) (s₁.setTop (mkF m 24 #[.val (.int p0), .val (.int p1), .val (.int z2), .val (.int (b2i z6)), .unset, .unset, .unset, .unset] []))
      refine Go.back (fun t k => XS.iloadN X0.here hx rfl (hb hby at_24) rfl  k) ?_
      show Go p.tables e below (P0 Z p0 p1 h0 n0 s) (s₁.setTop (mkF m 25 #[.val (.int p0), .val (.int p1), .val (.int z2), .val (.int (b2i z6)), .unset, .unset, .unset, .unset] [(.int (b2i z6))]))
      have J9 : ∀ (z10 : Int64) (hz10 : z10 = (if z6 = true then (3 : Int64) else (4 : Int64))), Go p.tables e below (P0 Z p0 p1 h0 n0 s) (s₁.setTop (mkF m 37 #[.val (.int p0), .val (.int p1), .val (.int z2), .val (.int (b2i z6)), .unset, .unset, .unset, .unset] [(.long z10)])) := by
        intro z10 hz10
        have r11 : f0 p0 p1 = (let z102 : Int32 := (f1 z2 z6); (if z102 < (-26 : Int32) then false else (if (26 : Int32) < z102 then false else (let z113 : Bool := (if (f2 z102 z10 z2) = true then (if (f2 (z102 + (1 : Int32)) z10 z2) = true then false else true) else false); z113)))) := by subst hz10; exact r7
        show Go p.tables e below (P0 Z p0 p1 h0 n0 s) (s₁.setTop (mkF m 37 #[.val (.int p0), .val (.int p1), .val (.int z2), .val (.int (b2i z6)), .unset, .unset, .unset, .unset] [(.long z10)]))
        refine Go.back (fun t k => XS.lstore X0.here hx rfl (hb hby at_37) rfl (l' := #[.val (.int p0), .val (.int p1), .val (.int z2), .val (.int (b2i z6)), .val (.long z10), .second, .unset, .unset]) rfl k) ?_
        show Go p.tables e below (P0 Z p0 p1 h0 n0 s) (s₁.setTop (mkF m 39 #[.val (.int p0), .val (.int p1), .val (.int z2), .val (.int (b2i z6)), .val (.long z10), .second, .unset, .unset] []))
        refine Go.back (fun t k => XS.bipush X0.here hx rfl (hb hby at_39) k) ?_
        show Go p.tables e below (P0 Z p0 p1 h0 n0 s) (s₁.setTop (mkF m 41 #[.val (.int p0), .val (.int p1), .val (.int z2), .val (.int (b2i z6)), .val (.long z10), .second, .unset, .unset] [(.int (28 : Int32))]))
        obtain ⟨T12, h12, k12, X12, e12, E12, A12, st12⟩ := newP X0 hx hZ (hw _ (List.mem_of_getElem? (i := 2) rfl)) e0 (g := (mkF m 41 #[.val (.int p0), .val (.int p1), .val (.int z2), .val (.int (b2i z6)), .val (.long z10), .second, .unset, .unset] [(.int (28 : Int32))])) rfl (hb hby at_41) rfl (by decide) (cap := 28) (by decide) (by decide) (by decide) (by decide)
        obtain ⟨b12, g12⟩ : ∃ z, z = h0.size := ⟨_, rfl⟩
        rw [← g12] at A12 st12
        have g13 : n0 ≤ b12 := Nat.le_trans Z0 (Nat.le_of_eq g12.symm)
        have F14 : n0 ≤ h12.size := Nat.le_trans Z0 E12.1
        have F15 : ArL Z h12 b12 .long [(.long (0 : Int64)), (.long (0 : Int64)), (.long (0 : Int64)), (.long (0 : Int64)), (.long (0 : Int64)), (.long (0 : Int64)), (.long (0 : Int64)), (.long (0 : Int64)), (.long (0 : Int64)), (.long (0 : Int64)), (.long (0 : Int64)), (.long (0 : Int64)), (.long (0 : Int64)), (.long (0 : Int64)), (.long (0 : Int64)), (.long (0 : Int64)), (.long (0 : Int64)), (.long (0 : Int64)), (.long (0 : Int64)), (.long (0 : Int64)), (.long (0 : Int64)), (.long (0 : Int64)), (.long (0 : Int64)), (.long (0 : Int64)), (.long (0 : Int64)), (.long (0 : Int64)), (.long (0 : Int64)), (.long (0 : Int64))] := ArL.new (ty := .long) A12 (n := 28) rfl
        refine Go.back st12 ?_
        show Go p.tables e below (P0 Z p0 p1 h0 n0 s) (T12.setTop (mkF m 43 #[.val (.int p0), .val (.int p1), .val (.int z2), .val (.int (b2i z6)), .val (.long z10), .second, .unset, .unset] [(.ref b12)]))
        refine Go.back (fun t k => XS.dup X12.here hx rfl (hb hby at_43) rfl rfl k) ?_
        show Go p.tables e below (P0 Z p0 p1 h0 n0 s) (T12.setTop (mkF m 44 #[.val (.int p0), .val (.int p1), .val (.int z2), .val (.int (b2i z6)), .val (.long z10), .second, .unset, .unset] [(.ref b12), (.ref b12)]))
        refine Go.back (fun t k => XS.iconst X12.here hx rfl (hb hby at_44) k) ?_
        show Go p.tables e below (P0 Z p0 p1 h0 n0 s) (T12.setTop (mkF m 45 #[.val (.int p0), .val (.int p1), .val (.int z2), .val (.int (b2i z6)), .val (.long z10), .second, .unset, .unset] [(.int (0 : Int32)), (.ref b12), (.ref b12)]))
        refine Go.back (fun t k => XS.lconst X12.here hx rfl (hb hby at_45) k) ?_
        show Go p.tables e below (P0 Z p0 p1 h0 n0 s) (T12.setTop (mkF m 46 #[.val (.int p0), .val (.int p1), .val (.int z2), .val (.int (b2i z6)), .val (.long z10), .second, .unset, .unset] [(.long (1 : Int64)), (.int (0 : Int32)), (.ref b12), (.ref b12)]))
        obtain ⟨cl16, Ar16, hi16, -⟩ := F15.at (j := (0 : Int32)) (by decide) (Nat.le_of_ble_eq_true rfl)
        obtain ⟨T16, h16, X16, e16, W16, st16⟩ := stJ X12 hx hZ e12 Ar16 (j := (0 : Int32)) hi16 (g := (mkF m 46 #[.val (.int p0), .val (.int p1), .val (.int z2), .val (.int (b2i z6)), .val (.long z10), .second, .unset, .unset] [(.long (1 : Int64)), (.int (0 : Int32)), (.ref b12), (.ref b12)])) rfl rfl (hb hby at_46)
        have F17 : n0 ≤ h16.size := Nat.le_trans F14 (Keep.of_wr W16).1
        have F18 : ArL Z h16 b12 .long [(.long (1 : Int64)), (.long (0 : Int64)), (.long (0 : Int64)), (.long (0 : Int64)), (.long (0 : Int64)), (.long (0 : Int64)), (.long (0 : Int64)), (.long (0 : Int64)), (.long (0 : Int64)), (.long (0 : Int64)), (.long (0 : Int64)), (.long (0 : Int64)), (.long (0 : Int64)), (.long (0 : Int64)), (.long (0 : Int64)), (.long (0 : Int64)), (.long (0 : Int64)), (.long (0 : Int64)), (.long (0 : Int64)), (.long (0 : Int64)), (.long (0 : Int64)), (.long (0 : Int64)), (.long (0 : Int64)), (.long (0 : Int64)), (.long (0 : Int64)), (.long (0 : Int64)), (.long (0 : Int64)), (.long (0 : Int64))] := F15.set W16
        obtain ⟨Lo16, Y16, N16⟩ := pk X16 (Fr.snoc X16 N0 g13)
        refine Go.back st16 ?_
        show Go p.tables e below (P0 Z p0 p1 h0 n0 s) (T16.setTop (mkF m 47 #[.val (.int p0), .val (.int p1), .val (.int z2), .val (.int (b2i z6)), .val (.long z10), .second, .unset, .unset] [(.ref b12)]))
        refine Go.back (fun t k => XS.dup Y16.here hx rfl (hb hby at_47) rfl rfl k) ?_
        show Go p.tables e below (P0 Z p0 p1 h0 n0 s) (T16.setTop (mkF m 48 #[.val (.int p0), .val (.int p1), .val (.int z2), .val (.int (b2i z6)), .val (.long z10), .second, .unset, .unset] [(.ref b12), (.ref b12)]))
        refine Go.back (fun t k => XS.iconst Y16.here hx rfl (hb hby at_48) k) ?_
        show Go p.tables e below (P0 Z p0 p1 h0 n0 s) (T16.setTop (mkF m 49 #[.val (.int p0), .val (.int p1), .val (.int z2), .val (.int (b2i z6)), .val (.long z10), .second, .unset, .unset] [(.int (1 : Int32)), (.ref b12), (.ref b12)]))
        refine Go.back (fun t k => Y16.ldc2Long hx hown (mvT hZ (hw _ (List.mem_of_getElem? (i := 3) rfl))) (g := (mkF m 49 #[.val (.int p0), .val (.int p1), .val (.int z2), .val (.int (b2i z6)), .val (.long z10), .second, .unset, .unset] [(.int (1 : Int32)), (.ref b12), (.ref b12)])) rfl (hb hby at_49) t k) ?_
        show Go p.tables e below (P0 Z p0 p1 h0 n0 s) (T16.setTop (mkF m 52 #[.val (.int p0), .val (.int p1), .val (.int z2), .val (.int (b2i z6)), .val (.long z10), .second, .unset, .unset] [(.long (5 : Int64)), (.int (1 : Int32)), (.ref b12), (.ref b12)]))
        obtain ⟨cl19, Ar19, hi19, -⟩ := F18.at (j := (1 : Int32)) (by decide) (Nat.le_of_ble_eq_true rfl)
        obtain ⟨T19, h19, X19, e19, W19, st19⟩ := stJ Y16 hx hZ e16 Ar19 (j := (1 : Int32)) hi19 (g := (mkF m 52 #[.val (.int p0), .val (.int p1), .val (.int z2), .val (.int (b2i z6)), .val (.long z10), .second, .unset, .unset] [(.long (5 : Int64)), (.int (1 : Int32)), (.ref b12), (.ref b12)])) rfl rfl (hb hby at_52)
        have F20 : n0 ≤ h19.size := Nat.le_trans F17 (Keep.of_wr W19).1
        have F21 : ArL Z h19 b12 .long [(.long (1 : Int64)), (.long (5 : Int64)), (.long (0 : Int64)), (.long (0 : Int64)), (.long (0 : Int64)), (.long (0 : Int64)), (.long (0 : Int64)), (.long (0 : Int64)), (.long (0 : Int64)), (.long (0 : Int64)), (.long (0 : Int64)), (.long (0 : Int64)), (.long (0 : Int64)), (.long (0 : Int64)), (.long (0 : Int64)), (.long (0 : Int64)), (.long (0 : Int64)), (.long (0 : Int64)), (.long (0 : Int64)), (.long (0 : Int64)), (.long (0 : Int64)), (.long (0 : Int64)), (.long (0 : Int64)), (.long (0 : Int64)), (.long (0 : Int64)), (.long (0 : Int64)), (.long (0 : Int64)), (.long (0 : Int64))] := F18.set W19
        obtain ⟨Lo19, Y19, N19⟩ := pk X19 (Fr.snoc X19 N16 g13)
        refine Go.back st19 ?_
        show Go p.tables e below (P0 Z p0 p1 h0 n0 s) (T19.setTop (mkF m 53 #[.val (.int p0), .val (.int p1), .val (.int z2), .val (.int (b2i z6)), .val (.long z10), .second, .unset, .unset] [(.ref b12)]))
        refine Go.back (fun t k => XS.dup Y19.here hx rfl (hb hby at_53) rfl rfl k) ?_
        show Go p.tables e below (P0 Z p0 p1 h0 n0 s) (T19.setTop (mkF m 54 #[.val (.int p0), .val (.int p1), .val (.int z2), .val (.int (b2i z6)), .val (.long z10), .second, .unset, .unset] [(.ref b12), (.ref b12)]))
        refine Go.back (fun t k => XS.iconst Y19.here hx rfl (hb hby at_54) k) ?_
        show Go p.tables e below (P0 Z p0 p1 h0 n0 s) (T19.setTop (mkF m 55 #[.val (.int p0), .val (.int p1), .val (.int z2), .val (.int (b2i z6)), .val (.long z10), .second, .unset, .unset] [(.int (2 : Int32)), (.ref b12), (.ref b12)]))
        refine Go.back (fun t k => Y19.ldc2Long hx hown (mvT hZ (hw _ (List.mem_of_getElem? (i := 4) rfl))) (g := (mkF m 55 #[.val (.int p0), .val (.int p1), .val (.int z2), .val (.int (b2i z6)), .val (.long z10), .second, .unset, .unset] [(.int (2 : Int32)), (.ref b12), (.ref b12)])) rfl (hb hby at_55) t k) ?_
        show Go p.tables e below (P0 Z p0 p1 h0 n0 s) (T19.setTop (mkF m 58 #[.val (.int p0), .val (.int p1), .val (.int z2), .val (.int (b2i z6)), .val (.long z10), .second, .unset, .unset] [(.long (25 : Int64)), (.int (2 : Int32)), (.ref b12), (.ref b12)]))
        obtain ⟨cl22, Ar22, hi22, -⟩ := F21.at (j := (2 : Int32)) (by decide) (Nat.le_of_ble_eq_true rfl)
        obtain ⟨T22, h22, X22, e22, W22, st22⟩ := stJ Y19 hx hZ e19 Ar22 (j := (2 : Int32)) hi22 (g := (mkF m 58 #[.val (.int p0), .val (.int p1), .val (.int z2), .val (.int (b2i z6)), .val (.long z10), .second, .unset, .unset] [(.long (25 : Int64)), (.int (2 : Int32)), (.ref b12), (.ref b12)])) rfl rfl (hb hby at_58)
        have F23 : n0 ≤ h22.size := Nat.le_trans F20 (Keep.of_wr W22).1
        have F24 : ArL Z h22 b12 .long [(.long (1 : Int64)), (.long (5 : Int64)), (.long (25 : Int64)), (.long (0 : Int64)), (.long (0 : Int64)), (.long (0 : Int64)), (.long (0 : Int64)), (.long (0 : Int64)), (.long (0 : Int64)), (.long (0 : Int64)), (.long (0 : Int64)), (.long (0 : Int64)), (.long (0 : Int64)), (.long (0 : Int64)), (.long (0 : Int64)), (.long (0 : Int64)), (.long (0 : Int64)), (.long (0 : Int64)), (.long (0 : Int64)), (.long (0 : Int64)), (.long (0 : Int64)), (.long (0 : Int64)), (.long (0 : Int64)), (.long (0 : Int64)), (.long (0 : Int64)), (.long (0 : Int64)), (.long (0 : Int64)), (.long (0 : Int64))] := F21.set W22
        obtain ⟨Lo22, Y22, N22⟩ := pk X22 (Fr.snoc X22 N19 g13)
        refine Go.back st22 ?_
        show Go p.tables e below (P0 Z p0 p1 h0 n0 s) (T22.setTop (mkF m 59 #[.val (.int p0), .val (.int p1), .val (.int z2), .val (.int (b2i z6)), .val (.long z10), .second, .unset, .unset] [(.ref b12)]))
        refine Go.back (fun t k => XS.dup Y22.here hx rfl (hb hby at_59) rfl rfl k) ?_
        show Go p.tables e below (P0 Z p0 p1 h0 n0 s) (T22.setTop (mkF m 60 #[.val (.int p0), .val (.int p1), .val (.int z2), .val (.int (b2i z6)), .val (.long z10), .second, .unset, .unset] [(.ref b12), (.ref b12)]))
        refine Go.back (fun t k => XS.iconst Y22.here hx rfl (hb hby at_60) k) ?_
        show Go p.tables e below (P0 Z p0 p1 h0 n0 s) (T22.setTop (mkF m 61 #[.val (.int p0), .val (.int p1), .val (.int z2), .val (.int (b2i z6)), .val (.long z10), .second, .unset, .unset] [(.int (3 : Int32)), (.ref b12), (.ref b12)]))
        refine Go.back (fun t k => Y22.ldc2Long hx hown (mvT hZ (hw _ (List.mem_of_getElem? (i := 5) rfl))) (g := (mkF m 61 #[.val (.int p0), .val (.int p1), .val (.int z2), .val (.int (b2i z6)), .val (.long z10), .second, .unset, .unset] [(.int (3 : Int32)), (.ref b12), (.ref b12)])) rfl (hb hby at_61) t k) ?_
        show Go p.tables e below (P0 Z p0 p1 h0 n0 s) (T22.setTop (mkF m 64 #[.val (.int p0), .val (.int p1), .val (.int z2), .val (.int (b2i z6)), .val (.long z10), .second, .unset, .unset] [(.long (125 : Int64)), (.int (3 : Int32)), (.ref b12), (.ref b12)]))
        obtain ⟨cl25, Ar25, hi25, -⟩ := F24.at (j := (3 : Int32)) (by decide) (Nat.le_of_ble_eq_true rfl)
        obtain ⟨T25, h25, X25, e25, W25, st25⟩ := stJ Y22 hx hZ e22 Ar25 (j := (3 : Int32)) hi25 (g := (mkF m 64 #[.val (.int p0), .val (.int p1), .val (.int z2), .val (.int (b2i z6)), .val (.long z10), .second, .unset, .unset] [(.long (125 : Int64)), (.int (3 : Int32)), (.ref b12), (.ref b12)])) rfl rfl (hb hby at_64)
        have F26 : n0 ≤ h25.size := Nat.le_trans F23 (Keep.of_wr W25).1
        have F27 : ArL Z h25 b12 .long [(.long (1 : Int64)), (.long (5 : Int64)), (.long (25 : Int64)), (.long (125 : Int64)), (.long (0 : Int64)), (.long (0 : Int64)), (.long (0 : Int64)), (.long (0 : Int64)), (.long (0 : Int64)), (.long (0 : Int64)), (.long (0 : Int64)), (.long (0 : Int64)), (.long (0 : Int64)), (.long (0 : Int64)), (.long (0 : Int64)), (.long (0 : Int64)), (.long (0 : Int64)), (.long (0 : Int64)), (.long (0 : Int64)), (.long (0 : Int64)), (.long (0 : Int64)), (.long (0 : Int64)), (.long (0 : Int64)), (.long (0 : Int64)), (.long (0 : Int64)), (.long (0 : Int64)), (.long (0 : Int64)), (.long (0 : Int64))] := F24.set W25
        obtain ⟨Lo25, Y25, N25⟩ := pk X25 (Fr.snoc X25 N22 g13)
        refine Go.back st25 ?_
        show Go p.tables e below (P0 Z p0 p1 h0 n0 s) (T25.setTop (mkF m 65 #[.val (.int p0), .val (.int p1), .val (.int z2), .val (.int (b2i z6)), .val (.long z10), .second, .unset, .unset] [(.ref b12)]))
        refine Go.back (fun t k => XS.dup Y25.here hx rfl (hb hby at_65) rfl rfl k) ?_
        show Go p.tables e below (P0 Z p0 p1 h0 n0 s) (T25.setTop (mkF m 66 #[.val (.int p0), .val (.int p1), .val (.int z2), .val (.int (b2i z6)), .val (.long z10), .second, .unset, .unset] [(.ref b12), (.ref b12)]))
        refine Go.back (fun t k => XS.iconst Y25.here hx rfl (hb hby at_66) k) ?_
        show Go p.tables e below (P0 Z p0 p1 h0 n0 s) (T25.setTop (mkF m 67 #[.val (.int p0), .val (.int p1), .val (.int z2), .val (.int (b2i z6)), .val (.long z10), .second, .unset, .unset] [(.int (4 : Int32)), (.ref b12), (.ref b12)]))
        refine Go.back (fun t k => Y25.ldc2Long hx hown (mvT hZ (hw _ (List.mem_of_getElem? (i := 6) rfl))) (g := (mkF m 67 #[.val (.int p0), .val (.int p1), .val (.int z2), .val (.int (b2i z6)), .val (.long z10), .second, .unset, .unset] [(.int (4 : Int32)), (.ref b12), (.ref b12)])) rfl (hb hby at_67) t k) ?_
        show Go p.tables e below (P0 Z p0 p1 h0 n0 s) (T25.setTop (mkF m 70 #[.val (.int p0), .val (.int p1), .val (.int z2), .val (.int (b2i z6)), .val (.long z10), .second, .unset, .unset] [(.long (625 : Int64)), (.int (4 : Int32)), (.ref b12), (.ref b12)]))
        obtain ⟨cl28, Ar28, hi28, -⟩ := F27.at (j := (4 : Int32)) (by decide) (Nat.le_of_ble_eq_true rfl)
        obtain ⟨T28, h28, X28, e28, W28, st28⟩ := stJ Y25 hx hZ e25 Ar28 (j := (4 : Int32)) hi28 (g := (mkF m 70 #[.val (.int p0), .val (.int p1), .val (.int z2), .val (.int (b2i z6)), .val (.long z10), .second, .unset, .unset] [(.long (625 : Int64)), (.int (4 : Int32)), (.ref b12), (.ref b12)])) rfl rfl (hb hby at_70)
        have F29 : n0 ≤ h28.size := Nat.le_trans F26 (Keep.of_wr W28).1
        have F30 : ArL Z h28 b12 .long [(.long (1 : Int64)), (.long (5 : Int64)), (.long (25 : Int64)), (.long (125 : Int64)), (.long (625 : Int64)), (.long (0 : Int64)), (.long (0 : Int64)), (.long (0 : Int64)), (.long (0 : Int64)), (.long (0 : Int64)), (.long (0 : Int64)), (.long (0 : Int64)), (.long (0 : Int64)), (.long (0 : Int64)), (.long (0 : Int64)), (.long (0 : Int64)), (.long (0 : Int64)), (.long (0 : Int64)), (.long (0 : Int64)), (.long (0 : Int64)), (.long (0 : Int64)), (.long (0 : Int64)), (.long (0 : Int64)), (.long (0 : Int64)), (.long (0 : Int64)), (.long (0 : Int64)), (.long (0 : Int64)), (.long (0 : Int64))] := F27.set W28
        obtain ⟨Lo28, Y28, N28⟩ := pk X28 (Fr.snoc X28 N25 g13)
        refine Go.back st28 ?_
        show Go p.tables e below (P0 Z p0 p1 h0 n0 s) (T28.setTop (mkF m 71 #[.val (.int p0), .val (.int p1), .val (.int z2), .val (.int (b2i z6)), .val (.long z10), .second, .unset, .unset] [(.ref b12)]))
        refine Go.back (fun t k => XS.dup Y28.here hx rfl (hb hby at_71) rfl rfl k) ?_
        show Go p.tables e below (P0 Z p0 p1 h0 n0 s) (T28.setTop (mkF m 72 #[.val (.int p0), .val (.int p1), .val (.int z2), .val (.int (b2i z6)), .val (.long z10), .second, .unset, .unset] [(.ref b12), (.ref b12)]))
        refine Go.back (fun t k => XS.iconst Y28.here hx rfl (hb hby at_72) k) ?_
        show Go p.tables e below (P0 Z p0 p1 h0 n0 s) (T28.setTop (mkF m 73 #[.val (.int p0), .val (.int p1), .val (.int z2), .val (.int (b2i z6)), .val (.long z10), .second, .unset, .unset] [(.int (5 : Int32)), (.ref b12), (.ref b12)]))
        refine Go.back (fun t k => Y28.ldc2Long hx hown (mvT hZ (hw _ (List.mem_of_getElem? (i := 7) rfl))) (g := (mkF m 73 #[.val (.int p0), .val (.int p1), .val (.int z2), .val (.int (b2i z6)), .val (.long z10), .second, .unset, .unset] [(.int (5 : Int32)), (.ref b12), (.ref b12)])) rfl (hb hby at_73) t k) ?_
        show Go p.tables e below (P0 Z p0 p1 h0 n0 s) (T28.setTop (mkF m 76 #[.val (.int p0), .val (.int p1), .val (.int z2), .val (.int (b2i z6)), .val (.long z10), .second, .unset, .unset] [(.long (3125 : Int64)), (.int (5 : Int32)), (.ref b12), (.ref b12)]))
        obtain ⟨cl31, Ar31, hi31, -⟩ := F30.at (j := (5 : Int32)) (by decide) (Nat.le_of_ble_eq_true rfl)
        obtain ⟨T31, h31, X31, e31, W31, st31⟩ := stJ Y28 hx hZ e28 Ar31 (j := (5 : Int32)) hi31 (g := (mkF m 76 #[.val (.int p0), .val (.int p1), .val (.int z2), .val (.int (b2i z6)), .val (.long z10), .second, .unset, .unset] [(.long (3125 : Int64)), (.int (5 : Int32)), (.ref b12), (.ref b12)])) rfl rfl (hb hby at_76)
        have F32 : n0 ≤ h31.size := Nat.le_trans F29 (Keep.of_wr W31).1
        have F33 : ArL Z h31 b12 .long [(.long (1 : Int64)), (.long (5 : Int64)), (.long (25 : Int64)), (.long (125 : Int64)), (.long (625 : Int64)), (.long (3125 : Int64)), (.long (0 : Int64)), (.long (0 : Int64)), (.long (0 : Int64)), (.long (0 : Int64)), (.long (0 : Int64)), (.long (0 : Int64)), (.long (0 : Int64)), (.long (0 : Int64)), (.long (0 : Int64)), (.long (0 : Int64)), (.long (0 : Int64)), (.long (0 : Int64)), (.long (0 : Int64)), (.long (0 : Int64)), (.long (0 : Int64)), (.long (0 : Int64)), (.long (0 : Int64)), (.long (0 : Int64)), (.long (0 : Int64)), (.long (0 : Int64)), (.long (0 : Int64)), (.long (0 : Int64))] := F30.set W31
        obtain ⟨Lo31, Y31, N31⟩ := pk X31 (Fr.snoc X31 N28 g13)
        refine Go.back st31 ?_
        show Go p.tables e below (P0 Z p0 p1 h0 n0 s) (T31.setTop (mkF m 77 #[.val (.int p0), .val (.int p1), .val (.int z2), .val (.int (b2i z6)), .val (.long z10), .second, .unset, .unset] [(.ref b12)]))
        refine Go.back (fun t k => XS.dup Y31.here hx rfl (hb hby at_77) rfl rfl k) ?_
        show Go p.tables e below (P0 Z p0 p1 h0 n0 s) (T31.setTop (mkF m 78 #[.val (.int p0), .val (.int p1), .val (.int z2), .val (.int (b2i z6)), .val (.long z10), .second, .unset, .unset] [(.ref b12), (.ref b12)]))
        refine Go.back (fun t k => XS.bipush Y31.here hx rfl (hb hby at_78) k) ?_
        show Go p.tables e below (P0 Z p0 p1 h0 n0 s) (T31.setTop (mkF m 80 #[.val (.int p0), .val (.int p1), .val (.int z2), .val (.int (b2i z6)), .val (.long z10), .second, .unset, .unset] [(.int (6 : Int32)), (.ref b12), (.ref b12)]))
        refine Go.back (fun t k => Y31.ldc2Long hx hown (mvT hZ (hw _ (List.mem_of_getElem? (i := 8) rfl))) (g := (mkF m 80 #[.val (.int p0), .val (.int p1), .val (.int z2), .val (.int (b2i z6)), .val (.long z10), .second, .unset, .unset] [(.int (6 : Int32)), (.ref b12), (.ref b12)])) rfl (hb hby at_80) t k) ?_
        show Go p.tables e below (P0 Z p0 p1 h0 n0 s) (T31.setTop (mkF m 83 #[.val (.int p0), .val (.int p1), .val (.int z2), .val (.int (b2i z6)), .val (.long z10), .second, .unset, .unset] [(.long (15625 : Int64)), (.int (6 : Int32)), (.ref b12), (.ref b12)]))
        obtain ⟨cl34, Ar34, hi34, -⟩ := F33.at (j := (6 : Int32)) (by decide) (Nat.le_of_ble_eq_true rfl)
        obtain ⟨T34, h34, X34, e34, W34, st34⟩ := stJ Y31 hx hZ e31 Ar34 (j := (6 : Int32)) hi34 (g := (mkF m 83 #[.val (.int p0), .val (.int p1), .val (.int z2), .val (.int (b2i z6)), .val (.long z10), .second, .unset, .unset] [(.long (15625 : Int64)), (.int (6 : Int32)), (.ref b12), (.ref b12)])) rfl rfl (hb hby at_83)
        have F35 : n0 ≤ h34.size := Nat.le_trans F32 (Keep.of_wr W34).1
        have F36 : ArL Z h34 b12 .long [(.long (1 : Int64)), (.long (5 : Int64)), (.long (25 : Int64)), (.long (125 : Int64)), (.long (625 : Int64)), (.long (3125 : Int64)), (.long (15625 : Int64)), (.long (0 : Int64)), (.long (0 : Int64)), (.long (0 : Int64)), (.long (0 : Int64)), (.long (0 : Int64)), (.long (0 : Int64)), (.long (0 : Int64)), (.long (0 : Int64)), (.long (0 : Int64)), (.long (0 : Int64)), (.long (0 : Int64)), (.long (0 : Int64)), (.long (0 : Int64)), (.long (0 : Int64)), (.long (0 : Int64)), (.long (0 : Int64)), (.long (0 : Int64)), (.long (0 : Int64)), (.long (0 : Int64)), (.long (0 : Int64)), (.long (0 : Int64))] := F33.set W34
        obtain ⟨Lo34, Y34, N34⟩ := pk X34 (Fr.snoc X34 N31 g13)
        refine Go.back st34 ?_
        show Go p.tables e below (P0 Z p0 p1 h0 n0 s) (T34.setTop (mkF m 84 #[.val (.int p0), .val (.int p1), .val (.int z2), .val (.int (b2i z6)), .val (.long z10), .second, .unset, .unset] [(.ref b12)]))
        refine Go.back (fun t k => XS.dup Y34.here hx rfl (hb hby at_84) rfl rfl k) ?_
        show Go p.tables e below (P0 Z p0 p1 h0 n0 s) (T34.setTop (mkF m 85 #[.val (.int p0), .val (.int p1), .val (.int z2), .val (.int (b2i z6)), .val (.long z10), .second, .unset, .unset] [(.ref b12), (.ref b12)]))
        refine Go.back (fun t k => XS.bipush Y34.here hx rfl (hb hby at_85) k) ?_
        show Go p.tables e below (P0 Z p0 p1 h0 n0 s) (T34.setTop (mkF m 87 #[.val (.int p0), .val (.int p1), .val (.int z2), .val (.int (b2i z6)), .val (.long z10), .second, .unset, .unset] [(.int (7 : Int32)), (.ref b12), (.ref b12)]))
        refine Go.back (fun t k => Y34.ldc2Long hx hown (mvT hZ (hw _ (List.mem_of_getElem? (i := 9) rfl))) (g := (mkF m 87 #[.val (.int p0), .val (.int p1), .val (.int z2), .val (.int (b2i z6)), .val (.long z10), .second, .unset, .unset] [(.int (7 : Int32)), (.ref b12), (.ref b12)])) rfl (hb hby at_87) t k) ?_
        show Go p.tables e below (P0 Z p0 p1 h0 n0 s) (T34.setTop (mkF m 90 #[.val (.int p0), .val (.int p1), .val (.int z2), .val (.int (b2i z6)), .val (.long z10), .second, .unset, .unset] [(.long (78125 : Int64)), (.int (7 : Int32)), (.ref b12), (.ref b12)]))
        obtain ⟨cl37, Ar37, hi37, -⟩ := F36.at (j := (7 : Int32)) (by decide) (Nat.le_of_ble_eq_true rfl)
        obtain ⟨T37, h37, X37, e37, W37, st37⟩ := stJ Y34 hx hZ e34 Ar37 (j := (7 : Int32)) hi37 (g := (mkF m 90 #[.val (.int p0), .val (.int p1), .val (.int z2), .val (.int (b2i z6)), .val (.long z10), .second, .unset, .unset] [(.long (78125 : Int64)), (.int (7 : Int32)), (.ref b12), (.ref b12)])) rfl rfl (hb hby at_90)
        have F38 : n0 ≤ h37.size := Nat.le_trans F35 (Keep.of_wr W37).1
        have F39 : ArL Z h37 b12 .long [(.long (1 : Int64)), (.long (5 : Int64)), (.long (25 : Int64)), (.long (125 : Int64)), (.long (625 : Int64)), (.long (3125 : Int64)), (.long (15625 : Int64)), (.long (78125 : Int64)), (.long (0 : Int64)), (.long (0 : Int64)), (.long (0 : Int64)), (.long (0 : Int64)), (.long (0 : Int64)), (.long (0 : Int64)), (.long (0 : Int64)), (.long (0 : Int64)), (.long (0 : Int64)), (.long (0 : Int64)), (.long (0 : Int64)), (.long (0 : Int64)), (.long (0 : Int64)), (.long (0 : Int64)), (.long (0 : Int64)), (.long (0 : Int64)), (.long (0 : Int64)), (.long (0 : Int64)), (.long (0 : Int64)), (.long (0 : Int64))] := F36.set W37
        obtain ⟨Lo37, Y37, N37⟩ := pk X37 (Fr.snoc X37 N34 g13)
        refine Go.back st37 ?_
        show Go p.tables e below (P0 Z p0 p1 h0 n0 s) (T37.setTop (mkF m 91 #[.val (.int p0), .val (.int p1), .val (.int z2), .val (.int (b2i z6)), .val (.long z10), .second, .unset, .unset] [(.ref b12)]))
        refine Go.back (fun t k => XS.dup Y37.here hx rfl (hb hby at_91) rfl rfl k) ?_
        show Go p.tables e below (P0 Z p0 p1 h0 n0 s) (T37.setTop (mkF m 92 #[.val (.int p0), .val (.int p1), .val (.int z2), .val (.int (b2i z6)), .val (.long z10), .second, .unset, .unset] [(.ref b12), (.ref b12)]))
        refine Go.back (fun t k => XS.bipush Y37.here hx rfl (hb hby at_92) k) ?_
        show Go p.tables e below (P0 Z p0 p1 h0 n0 s) (T37.setTop (mkF m 94 #[.val (.int p0), .val (.int p1), .val (.int z2), .val (.int (b2i z6)), .val (.long z10), .second, .unset, .unset] [(.int (8 : Int32)), (.ref b12), (.ref b12)]))
        refine Go.back (fun t k => Y37.ldc2Long hx hown (mvT hZ (hw _ (List.mem_of_getElem? (i := 10) rfl))) (g := (mkF m 94 #[.val (.int p0), .val (.int p1), .val (.int z2), .val (.int (b2i z6)), .val (.long z10), .second, .unset, .unset] [(.int (8 : Int32)), (.ref b12), (.ref b12)])) rfl (hb hby at_94) t k) ?_
        show Go p.tables e below (P0 Z p0 p1 h0 n0 s) (T37.setTop (mkF m 97 #[.val (.int p0), .val (.int p1), .val (.int z2), .val (.int (b2i z6)), .val (.long z10), .second, .unset, .unset] [(.long (390625 : Int64)), (.int (8 : Int32)), (.ref b12), (.ref b12)]))
        obtain ⟨cl40, Ar40, hi40, -⟩ := F39.at (j := (8 : Int32)) (by decide) (Nat.le_of_ble_eq_true rfl)
        obtain ⟨T40, h40, X40, e40, W40, st40⟩ := stJ Y37 hx hZ e37 Ar40 (j := (8 : Int32)) hi40 (g := (mkF m 97 #[.val (.int p0), .val (.int p1), .val (.int z2), .val (.int (b2i z6)), .val (.long z10), .second, .unset, .unset] [(.long (390625 : Int64)), (.int (8 : Int32)), (.ref b12), (.ref b12)])) rfl rfl (hb hby at_97)
        have F41 : n0 ≤ h40.size := Nat.le_trans F38 (Keep.of_wr W40).1
        have F42 : ArL Z h40 b12 .long [(.long (1 : Int64)), (.long (5 : Int64)), (.long (25 : Int64)), (.long (125 : Int64)), (.long (625 : Int64)), (.long (3125 : Int64)), (.long (15625 : Int64)), (.long (78125 : Int64)), (.long (390625 : Int64)), (.long (0 : Int64)), (.long (0 : Int64)), (.long (0 : Int64)), (.long (0 : Int64)), (.long (0 : Int64)), (.long (0 : Int64)), (.long (0 : Int64)), (.long (0 : Int64)), (.long (0 : Int64)), (.long (0 : Int64)), (.long (0 : Int64)), (.long (0 : Int64)), (.long (0 : Int64)), (.long (0 : Int64)), (.long (0 : Int64)), (.long (0 : Int64)), (.long (0 : Int64)), (.long (0 : Int64)), (.long (0 : Int64))] := F39.set W40
        obtain ⟨Lo40, Y40, N40⟩ := pk X40 (Fr.snoc X40 N37 g13)
        refine Go.back st40 ?_
        show Go p.tables e below (P0 Z p0 p1 h0 n0 s) (T40.setTop (mkF m 98 #[.val (.int p0), .val (.int p1), .val (.int z2), .val (.int (b2i z6)), .val (.long z10), .second, .unset, .unset] [(.ref b12)]))
        refine Go.back (fun t k => XS.dup Y40.here hx rfl (hb hby at_98) rfl rfl k) ?_
        show Go p.tables e below (P0 Z p0 p1 h0 n0 s) (T40.setTop (mkF m 99 #[.val (.int p0), .val (.int p1), .val (.int z2), .val (.int (b2i z6)), .val (.long z10), .second, .unset, .unset] [(.ref b12), (.ref b12)]))
        refine Go.back (fun t k => XS.bipush Y40.here hx rfl (hb hby at_99) k) ?_
        show Go p.tables e below (P0 Z p0 p1 h0 n0 s) (T40.setTop (mkF m 101 #[.val (.int p0), .val (.int p1), .val (.int z2), .val (.int (b2i z6)), .val (.long z10), .second, .unset, .unset] [(.int (9 : Int32)), (.ref b12), (.ref b12)]))
        refine Go.back (fun t k => Y40.ldc2Long hx hown (mvT hZ (hw _ (List.mem_of_getElem? (i := 11) rfl))) (g := (mkF m 101 #[.val (.int p0), .val (.int p1), .val (.int z2), .val (.int (b2i z6)), .val (.long z10), .second, .unset, .unset] [(.int (9 : Int32)), (.ref b12), (.ref b12)])) rfl (hb hby at_101) t k) ?_
        show Go p.tables e below (P0 Z p0 p1 h0 n0 s) (T40.setTop (mkF m 104 #[.val (.int p0), .val (.int p1), .val (.int z2), .val (.int (b2i z6)), .val (.long z10), .second, .unset, .unset] [(.long (1953125 : Int64)), (.int (9 : Int32)), (.ref b12), (.ref b12)]))
        obtain ⟨cl43, Ar43, hi43, -⟩ := F42.at (j := (9 : Int32)) (by decide) (Nat.le_of_ble_eq_true rfl)
        obtain ⟨T43, h43, X43, e43, W43, st43⟩ := stJ Y40 hx hZ e40 Ar43 (j := (9 : Int32)) hi43 (g := (mkF m 104 #[.val (.int p0), .val (.int p1), .val (.int z2), .val (.int (b2i z6)), .val (.long z10), .second, .unset, .unset] [(.long (1953125 : Int64)), (.int (9 : Int32)), (.ref b12), (.ref b12)])) rfl rfl (hb hby at_104)
        have F44 : n0 ≤ h43.size := Nat.le_trans F41 (Keep.of_wr W43).1
        have F45 : ArL Z h43 b12 .long [(.long (1 : Int64)), (.long (5 : Int64)), (.long (25 : Int64)), (.long (125 : Int64)), (.long (625 : Int64)), (.long (3125 : Int64)), (.long (15625 : Int64)), (.long (78125 : Int64)), (.long (390625 : Int64)), (.long (1953125 : Int64)), (.long (0 : Int64)), (.long (0 : Int64)), (.long (0 : Int64)), (.long (0 : Int64)), (.long (0 : Int64)), (.long (0 : Int64)), (.long (0 : Int64)), (.long (0 : Int64)), (.long (0 : Int64)), (.long (0 : Int64)), (.long (0 : Int64)), (.long (0 : Int64)), (.long (0 : Int64)), (.long (0 : Int64)), (.long (0 : Int64)), (.long (0 : Int64)), (.long (0 : Int64)), (.long (0 : Int64))] := F42.set W43
        obtain ⟨Lo43, Y43, N43⟩ := pk X43 (Fr.snoc X43 N40 g13)
        refine Go.back st43 ?_
        show Go p.tables e below (P0 Z p0 p1 h0 n0 s) (T43.setTop (mkF m 105 #[.val (.int p0), .val (.int p1), .val (.int z2), .val (.int (b2i z6)), .val (.long z10), .second, .unset, .unset] [(.ref b12)]))
        refine Go.back (fun t k => XS.dup Y43.here hx rfl (hb hby at_105) rfl rfl k) ?_
        show Go p.tables e below (P0 Z p0 p1 h0 n0 s) (T43.setTop (mkF m 106 #[.val (.int p0), .val (.int p1), .val (.int z2), .val (.int (b2i z6)), .val (.long z10), .second, .unset, .unset] [(.ref b12), (.ref b12)]))
        refine Go.back (fun t k => XS.bipush Y43.here hx rfl (hb hby at_106) k) ?_
        show Go p.tables e below (P0 Z p0 p1 h0 n0 s) (T43.setTop (mkF m 108 #[.val (.int p0), .val (.int p1), .val (.int z2), .val (.int (b2i z6)), .val (.long z10), .second, .unset, .unset] [(.int (10 : Int32)), (.ref b12), (.ref b12)]))
        refine Go.back (fun t k => Y43.ldc2Long hx hown (mvT hZ (hw _ (List.mem_of_getElem? (i := 12) rfl))) (g := (mkF m 108 #[.val (.int p0), .val (.int p1), .val (.int z2), .val (.int (b2i z6)), .val (.long z10), .second, .unset, .unset] [(.int (10 : Int32)), (.ref b12), (.ref b12)])) rfl (hb hby at_108) t k) ?_
        show Go p.tables e below (P0 Z p0 p1 h0 n0 s) (T43.setTop (mkF m 111 #[.val (.int p0), .val (.int p1), .val (.int z2), .val (.int (b2i z6)), .val (.long z10), .second, .unset, .unset] [(.long (9765625 : Int64)), (.int (10 : Int32)), (.ref b12), (.ref b12)]))
        obtain ⟨cl46, Ar46, hi46, -⟩ := F45.at (j := (10 : Int32)) (by decide) (Nat.le_of_ble_eq_true rfl)
        obtain ⟨T46, h46, X46, e46, W46, st46⟩ := stJ Y43 hx hZ e43 Ar46 (j := (10 : Int32)) hi46 (g := (mkF m 111 #[.val (.int p0), .val (.int p1), .val (.int z2), .val (.int (b2i z6)), .val (.long z10), .second, .unset, .unset] [(.long (9765625 : Int64)), (.int (10 : Int32)), (.ref b12), (.ref b12)])) rfl rfl (hb hby at_111)
        have F47 : n0 ≤ h46.size := Nat.le_trans F44 (Keep.of_wr W46).1
        have F48 : ArL Z h46 b12 .long [(.long (1 : Int64)), (.long (5 : Int64)), (.long (25 : Int64)), (.long (125 : Int64)), (.long (625 : Int64)), (.long (3125 : Int64)), (.long (15625 : Int64)), (.long (78125 : Int64)), (.long (390625 : Int64)), (.long (1953125 : Int64)), (.long (9765625 : Int64)), (.long (0 : Int64)), (.long (0 : Int64)), (.long (0 : Int64)), (.long (0 : Int64)), (.long (0 : Int64)), (.long (0 : Int64)), (.long (0 : Int64)), (.long (0 : Int64)), (.long (0 : Int64)), (.long (0 : Int64)), (.long (0 : Int64)), (.long (0 : Int64)), (.long (0 : Int64)), (.long (0 : Int64)), (.long (0 : Int64)), (.long (0 : Int64)), (.long (0 : Int64))] := F45.set W46
        obtain ⟨Lo46, Y46, N46⟩ := pk X46 (Fr.snoc X46 N43 g13)
        refine Go.back st46 ?_
        show Go p.tables e below (P0 Z p0 p1 h0 n0 s) (T46.setTop (mkF m 112 #[.val (.int p0), .val (.int p1), .val (.int z2), .val (.int (b2i z6)), .val (.long z10), .second, .unset, .unset] [(.ref b12)]))
        refine Go.back (fun t k => XS.dup Y46.here hx rfl (hb hby at_112) rfl rfl k) ?_
        show Go p.tables e below (P0 Z p0 p1 h0 n0 s) (T46.setTop (mkF m 113 #[.val (.int p0), .val (.int p1), .val (.int z2), .val (.int (b2i z6)), .val (.long z10), .second, .unset, .unset] [(.ref b12), (.ref b12)]))
        refine Go.back (fun t k => XS.bipush Y46.here hx rfl (hb hby at_113) k) ?_
        show Go p.tables e below (P0 Z p0 p1 h0 n0 s) (T46.setTop (mkF m 115 #[.val (.int p0), .val (.int p1), .val (.int z2), .val (.int (b2i z6)), .val (.long z10), .second, .unset, .unset] [(.int (11 : Int32)), (.ref b12), (.ref b12)]))
        refine Go.back (fun t k => Y46.ldc2Long hx hown (mvT hZ (hw _ (List.mem_of_getElem? (i := 13) rfl))) (g := (mkF m 115 #[.val (.int p0), .val (.int p1), .val (.int z2), .val (.int (b2i z6)), .val (.long z10), .second, .unset, .unset] [(.int (11 : Int32)), (.ref b12), (.ref b12)])) rfl (hb hby at_115) t k) ?_
        show Go p.tables e below (P0 Z p0 p1 h0 n0 s) (T46.setTop (mkF m 118 #[.val (.int p0), .val (.int p1), .val (.int z2), .val (.int (b2i z6)), .val (.long z10), .second, .unset, .unset] [(.long (48828125 : Int64)), (.int (11 : Int32)), (.ref b12), (.ref b12)]))
        obtain ⟨cl49, Ar49, hi49, -⟩ := F48.at (j := (11 : Int32)) (by decide) (Nat.le_of_ble_eq_true rfl)
        obtain ⟨T49, h49, X49, e49, W49, st49⟩ := stJ Y46 hx hZ e46 Ar49 (j := (11 : Int32)) hi49 (g := (mkF m 118 #[.val (.int p0), .val (.int p1), .val (.int z2), .val (.int (b2i z6)), .val (.long z10), .second, .unset, .unset] [(.long (48828125 : Int64)), (.int (11 : Int32)), (.ref b12), (.ref b12)])) rfl rfl (hb hby at_118)
        have F50 : n0 ≤ h49.size := Nat.le_trans F47 (Keep.of_wr W49).1
        have F51 : ArL Z h49 b12 .long [(.long (1 : Int64)), (.long (5 : Int64)), (.long (25 : Int64)), (.long (125 : Int64)), (.long (625 : Int64)), (.long (3125 : Int64)), (.long (15625 : Int64)), (.long (78125 : Int64)), (.long (390625 : Int64)), (.long (1953125 : Int64)), (.long (9765625 : Int64)), (.long (48828125 : Int64)), (.long (0 : Int64)), (.long (0 : Int64)), (.long (0 : Int64)), (.long (0 : Int64)), (.long (0 : Int64)), (.long (0 : Int64)), (.long (0 : Int64)), (.long (0 : Int64)), (.long (0 : Int64)), (.long (0 : Int64)), (.long (0 : Int64)), (.long (0 : Int64)), (.long (0 : Int64)), (.long (0 : Int64)), (.long (0 : Int64)), (.long (0 : Int64))] := F48.set W49
        obtain ⟨Lo49, Y49, N49⟩ := pk X49 (Fr.snoc X49 N46 g13)
        refine Go.back st49 ?_
        show Go p.tables e below (P0 Z p0 p1 h0 n0 s) (T49.setTop (mkF m 119 #[.val (.int p0), .val (.int p1), .val (.int z2), .val (.int (b2i z6)), .val (.long z10), .second, .unset, .unset] [(.ref b12)]))
        refine Go.back (fun t k => XS.dup Y49.here hx rfl (hb hby at_119) rfl rfl k) ?_
        show Go p.tables e below (P0 Z p0 p1 h0 n0 s) (T49.setTop (mkF m 120 #[.val (.int p0), .val (.int p1), .val (.int z2), .val (.int (b2i z6)), .val (.long z10), .second, .unset, .unset] [(.ref b12), (.ref b12)]))
        refine Go.back (fun t k => XS.bipush Y49.here hx rfl (hb hby at_120) k) ?_
        show Go p.tables e below (P0 Z p0 p1 h0 n0 s) (T49.setTop (mkF m 122 #[.val (.int p0), .val (.int p1), .val (.int z2), .val (.int (b2i z6)), .val (.long z10), .second, .unset, .unset] [(.int (12 : Int32)), (.ref b12), (.ref b12)]))
        refine Go.back (fun t k => Y49.ldc2Long hx hown (mvT hZ (hw _ (List.mem_of_getElem? (i := 14) rfl))) (g := (mkF m 122 #[.val (.int p0), .val (.int p1), .val (.int z2), .val (.int (b2i z6)), .val (.long z10), .second, .unset, .unset] [(.int (12 : Int32)), (.ref b12), (.ref b12)])) rfl (hb hby at_122) t k) ?_
        show Go p.tables e below (P0 Z p0 p1 h0 n0 s) (T49.setTop (mkF m 125 #[.val (.int p0), .val (.int p1), .val (.int z2), .val (.int (b2i z6)), .val (.long z10), .second, .unset, .unset] [(.long (244140625 : Int64)), (.int (12 : Int32)), (.ref b12), (.ref b12)]))
        obtain ⟨cl52, Ar52, hi52, -⟩ := F51.at (j := (12 : Int32)) (by decide) (Nat.le_of_ble_eq_true rfl)
        obtain ⟨T52, h52, X52, e52, W52, st52⟩ := stJ Y49 hx hZ e49 Ar52 (j := (12 : Int32)) hi52 (g := (mkF m 125 #[.val (.int p0), .val (.int p1), .val (.int z2), .val (.int (b2i z6)), .val (.long z10), .second, .unset, .unset] [(.long (244140625 : Int64)), (.int (12 : Int32)), (.ref b12), (.ref b12)])) rfl rfl (hb hby at_125)
        have F53 : n0 ≤ h52.size := Nat.le_trans F50 (Keep.of_wr W52).1
        have F54 : ArL Z h52 b12 .long [(.long (1 : Int64)), (.long (5 : Int64)), (.long (25 : Int64)), (.long (125 : Int64)), (.long (625 : Int64)), (.long (3125 : Int64)), (.long (15625 : Int64)), (.long (78125 : Int64)), (.long (390625 : Int64)), (.long (1953125 : Int64)), (.long (9765625 : Int64)), (.long (48828125 : Int64)), (.long (244140625 : Int64)), (.long (0 : Int64)), (.long (0 : Int64)), (.long (0 : Int64)), (.long (0 : Int64)), (.long (0 : Int64)), (.long (0 : Int64)), (.long (0 : Int64)), (.long (0 : Int64)), (.long (0 : Int64)), (.long (0 : Int64)), (.long (0 : Int64)), (.long (0 : Int64)), (.long (0 : Int64)), (.long (0 : Int64)), (.long (0 : Int64))] := F51.set W52
        obtain ⟨Lo52, Y52, N52⟩ := pk X52 (Fr.snoc X52 N49 g13)
        refine Go.back st52 ?_
        show Go p.tables e below (P0 Z p0 p1 h0 n0 s) (T52.setTop (mkF m 126 #[.val (.int p0), .val (.int p1), .val (.int z2), .val (.int (b2i z6)), .val (.long z10), .second, .unset, .unset] [(.ref b12)]))
        refine Go.back (fun t k => XS.dup Y52.here hx rfl (hb hby at_126) rfl rfl k) ?_
        show Go p.tables e below (P0 Z p0 p1 h0 n0 s) (T52.setTop (mkF m 127 #[.val (.int p0), .val (.int p1), .val (.int z2), .val (.int (b2i z6)), .val (.long z10), .second, .unset, .unset] [(.ref b12), (.ref b12)]))
        refine Go.back (fun t k => XS.bipush Y52.here hx rfl (hb hby at_127) k) ?_
        show Go p.tables e below (P0 Z p0 p1 h0 n0 s) (T52.setTop (mkF m 129 #[.val (.int p0), .val (.int p1), .val (.int z2), .val (.int (b2i z6)), .val (.long z10), .second, .unset, .unset] [(.int (13 : Int32)), (.ref b12), (.ref b12)]))
        refine Go.back (fun t k => Y52.ldc2Long hx hown (mvT hZ (hw _ (List.mem_of_getElem? (i := 15) rfl))) (g := (mkF m 129 #[.val (.int p0), .val (.int p1), .val (.int z2), .val (.int (b2i z6)), .val (.long z10), .second, .unset, .unset] [(.int (13 : Int32)), (.ref b12), (.ref b12)])) rfl (hb hby at_129) t k) ?_
        show Go p.tables e below (P0 Z p0 p1 h0 n0 s) (T52.setTop (mkF m 132 #[.val (.int p0), .val (.int p1), .val (.int z2), .val (.int (b2i z6)), .val (.long z10), .second, .unset, .unset] [(.long (1220703125 : Int64)), (.int (13 : Int32)), (.ref b12), (.ref b12)]))
        obtain ⟨cl55, Ar55, hi55, -⟩ := F54.at (j := (13 : Int32)) (by decide) (Nat.le_of_ble_eq_true rfl)
        obtain ⟨T55, h55, X55, e55, W55, st55⟩ := stJ Y52 hx hZ e52 Ar55 (j := (13 : Int32)) hi55 (g := (mkF m 132 #[.val (.int p0), .val (.int p1), .val (.int z2), .val (.int (b2i z6)), .val (.long z10), .second, .unset, .unset] [(.long (1220703125 : Int64)), (.int (13 : Int32)), (.ref b12), (.ref b12)])) rfl rfl (hb hby at_132)
        have F56 : n0 ≤ h55.size := Nat.le_trans F53 (Keep.of_wr W55).1
        have F57 : ArL Z h55 b12 .long [(.long (1 : Int64)), (.long (5 : Int64)), (.long (25 : Int64)), (.long (125 : Int64)), (.long (625 : Int64)), (.long (3125 : Int64)), (.long (15625 : Int64)), (.long (78125 : Int64)), (.long (390625 : Int64)), (.long (1953125 : Int64)), (.long (9765625 : Int64)), (.long (48828125 : Int64)), (.long (244140625 : Int64)), (.long (1220703125 : Int64)), (.long (0 : Int64)), (.long (0 : Int64)), (.long (0 : Int64)), (.long (0 : Int64)), (.long (0 : Int64)), (.long (0 : Int64)), (.long (0 : Int64)), (.long (0 : Int64)), (.long (0 : Int64)), (.long (0 : Int64)), (.long (0 : Int64)), (.long (0 : Int64)), (.long (0 : Int64)), (.long (0 : Int64))] := F54.set W55
        obtain ⟨Lo55, Y55, N55⟩ := pk X55 (Fr.snoc X55 N52 g13)
        refine Go.back st55 ?_
        show Go p.tables e below (P0 Z p0 p1 h0 n0 s) (T55.setTop (mkF m 133 #[.val (.int p0), .val (.int p1), .val (.int z2), .val (.int (b2i z6)), .val (.long z10), .second, .unset, .unset] [(.ref b12)]))
        refine Go.back (fun t k => XS.dup Y55.here hx rfl (hb hby at_133) rfl rfl k) ?_
        show Go p.tables e below (P0 Z p0 p1 h0 n0 s) (T55.setTop (mkF m 134 #[.val (.int p0), .val (.int p1), .val (.int z2), .val (.int (b2i z6)), .val (.long z10), .second, .unset, .unset] [(.ref b12), (.ref b12)]))
        refine Go.back (fun t k => XS.bipush Y55.here hx rfl (hb hby at_134) k) ?_
        show Go p.tables e below (P0 Z p0 p1 h0 n0 s) (T55.setTop (mkF m 136 #[.val (.int p0), .val (.int p1), .val (.int z2), .val (.int (b2i z6)), .val (.long z10), .second, .unset, .unset] [(.int (14 : Int32)), (.ref b12), (.ref b12)]))
        refine Go.back (fun t k => Y55.ldc2Long hx hown (mvT hZ (hw _ (List.mem_of_getElem? (i := 16) rfl))) (g := (mkF m 136 #[.val (.int p0), .val (.int p1), .val (.int z2), .val (.int (b2i z6)), .val (.long z10), .second, .unset, .unset] [(.int (14 : Int32)), (.ref b12), (.ref b12)])) rfl (hb hby at_136) t k) ?_
        show Go p.tables e below (P0 Z p0 p1 h0 n0 s) (T55.setTop (mkF m 139 #[.val (.int p0), .val (.int p1), .val (.int z2), .val (.int (b2i z6)), .val (.long z10), .second, .unset, .unset] [(.long (6103515625 : Int64)), (.int (14 : Int32)), (.ref b12), (.ref b12)]))
        obtain ⟨cl58, Ar58, hi58, -⟩ := F57.at (j := (14 : Int32)) (by decide) (Nat.le_of_ble_eq_true rfl)
        obtain ⟨T58, h58, X58, e58, W58, st58⟩ := stJ Y55 hx hZ e55 Ar58 (j := (14 : Int32)) hi58 (g := (mkF m 139 #[.val (.int p0), .val (.int p1), .val (.int z2), .val (.int (b2i z6)), .val (.long z10), .second, .unset, .unset] [(.long (6103515625 : Int64)), (.int (14 : Int32)), (.ref b12), (.ref b12)])) rfl rfl (hb hby at_139)
        have F59 : n0 ≤ h58.size := Nat.le_trans F56 (Keep.of_wr W58).1
        have F60 : ArL Z h58 b12 .long [(.long (1 : Int64)), (.long (5 : Int64)), (.long (25 : Int64)), (.long (125 : Int64)), (.long (625 : Int64)), (.long (3125 : Int64)), (.long (15625 : Int64)), (.long (78125 : Int64)), (.long (390625 : Int64)), (.long (1953125 : Int64)), (.long (9765625 : Int64)), (.long (48828125 : Int64)), (.long (244140625 : Int64)), (.long (1220703125 : Int64)), (.long (6103515625 : Int64)), (.long (0 : Int64)), (.long (0 : Int64)), (.long (0 : Int64)), (.long (0 : Int64)), (.long (0 : Int64)), (.long (0 : Int64)), (.long (0 : Int64)), (.long (0 : Int64)), (.long (0 : Int64)), (.long (0 : Int64)), (.long (0 : Int64)), (.long (0 : Int64)), (.long (0 : Int64))] := F57.set W58
        obtain ⟨Lo58, Y58, N58⟩ := pk X58 (Fr.snoc X58 N55 g13)
        refine Go.back st58 ?_
        show Go p.tables e below (P0 Z p0 p1 h0 n0 s) (T58.setTop (mkF m 140 #[.val (.int p0), .val (.int p1), .val (.int z2), .val (.int (b2i z6)), .val (.long z10), .second, .unset, .unset] [(.ref b12)]))
        refine Go.back (fun t k => XS.dup Y58.here hx rfl (hb hby at_140) rfl rfl k) ?_
        show Go p.tables e below (P0 Z p0 p1 h0 n0 s) (T58.setTop (mkF m 141 #[.val (.int p0), .val (.int p1), .val (.int z2), .val (.int (b2i z6)), .val (.long z10), .second, .unset, .unset] [(.ref b12), (.ref b12)]))
        refine Go.back (fun t k => XS.bipush Y58.here hx rfl (hb hby at_141) k) ?_
        show Go p.tables e below (P0 Z p0 p1 h0 n0 s) (T58.setTop (mkF m 143 #[.val (.int p0), .val (.int p1), .val (.int z2), .val (.int (b2i z6)), .val (.long z10), .second, .unset, .unset] [(.int (15 : Int32)), (.ref b12), (.ref b12)]))
        refine Go.back (fun t k => Y58.ldc2Long hx hown (mvT hZ (hw _ (List.mem_of_getElem? (i := 17) rfl))) (g := (mkF m 143 #[.val (.int p0), .val (.int p1), .val (.int z2), .val (.int (b2i z6)), .val (.long z10), .second, .unset, .unset] [(.int (15 : Int32)), (.ref b12), (.ref b12)])) rfl (hb hby at_143) t k) ?_
        show Go p.tables e below (P0 Z p0 p1 h0 n0 s) (T58.setTop (mkF m 146 #[.val (.int p0), .val (.int p1), .val (.int z2), .val (.int (b2i z6)), .val (.long z10), .second, .unset, .unset] [(.long (30517578125 : Int64)), (.int (15 : Int32)), (.ref b12), (.ref b12)]))
        obtain ⟨cl61, Ar61, hi61, -⟩ := F60.at (j := (15 : Int32)) (by decide) (Nat.le_of_ble_eq_true rfl)
        obtain ⟨T61, h61, X61, e61, W61, st61⟩ := stJ Y58 hx hZ e58 Ar61 (j := (15 : Int32)) hi61 (g := (mkF m 146 #[.val (.int p0), .val (.int p1), .val (.int z2), .val (.int (b2i z6)), .val (.long z10), .second, .unset, .unset] [(.long (30517578125 : Int64)), (.int (15 : Int32)), (.ref b12), (.ref b12)])) rfl rfl (hb hby at_146)
        have F62 : n0 ≤ h61.size := Nat.le_trans F59 (Keep.of_wr W61).1
        have F63 : ArL Z h61 b12 .long [(.long (1 : Int64)), (.long (5 : Int64)), (.long (25 : Int64)), (.long (125 : Int64)), (.long (625 : Int64)), (.long (3125 : Int64)), (.long (15625 : Int64)), (.long (78125 : Int64)), (.long (390625 : Int64)), (.long (1953125 : Int64)), (.long (9765625 : Int64)), (.long (48828125 : Int64)), (.long (244140625 : Int64)), (.long (1220703125 : Int64)), (.long (6103515625 : Int64)), (.long (30517578125 : Int64)), (.long (0 : Int64)), (.long (0 : Int64)), (.long (0 : Int64)), (.long (0 : Int64)), (.long (0 : Int64)), (.long (0 : Int64)), (.long (0 : Int64)), (.long (0 : Int64)), (.long (0 : Int64)), (.long (0 : Int64)), (.long (0 : Int64)), (.long (0 : Int64))] := F60.set W61
        obtain ⟨Lo61, Y61, N61⟩ := pk X61 (Fr.snoc X61 N58 g13)
        refine Go.back st61 ?_
        show Go p.tables e below (P0 Z p0 p1 h0 n0 s) (T61.setTop (mkF m 147 #[.val (.int p0), .val (.int p1), .val (.int z2), .val (.int (b2i z6)), .val (.long z10), .second, .unset, .unset] [(.ref b12)]))
        refine Go.back (fun t k => XS.dup Y61.here hx rfl (hb hby at_147) rfl rfl k) ?_
        show Go p.tables e below (P0 Z p0 p1 h0 n0 s) (T61.setTop (mkF m 148 #[.val (.int p0), .val (.int p1), .val (.int z2), .val (.int (b2i z6)), .val (.long z10), .second, .unset, .unset] [(.ref b12), (.ref b12)]))
        refine Go.back (fun t k => XS.bipush Y61.here hx rfl (hb hby at_148) k) ?_
        show Go p.tables e below (P0 Z p0 p1 h0 n0 s) (T61.setTop (mkF m 150 #[.val (.int p0), .val (.int p1), .val (.int z2), .val (.int (b2i z6)), .val (.long z10), .second, .unset, .unset] [(.int (16 : Int32)), (.ref b12), (.ref b12)]))
        refine Go.back (fun t k => Y61.ldc2Long hx hown (mvT hZ (hw _ (List.mem_of_getElem? (i := 18) rfl))) (g := (mkF m 150 #[.val (.int p0), .val (.int p1), .val (.int z2), .val (.int (b2i z6)), .val (.long z10), .second, .unset, .unset] [(.int (16 : Int32)), (.ref b12), (.ref b12)])) rfl (hb hby at_150) t k) ?_
        show Go p.tables e below (P0 Z p0 p1 h0 n0 s) (T61.setTop (mkF m 153 #[.val (.int p0), .val (.int p1), .val (.int z2), .val (.int (b2i z6)), .val (.long z10), .second, .unset, .unset] [(.long (152587890625 : Int64)), (.int (16 : Int32)), (.ref b12), (.ref b12)]))
        obtain ⟨cl64, Ar64, hi64, -⟩ := F63.at (j := (16 : Int32)) (by decide) (Nat.le_of_ble_eq_true rfl)
        obtain ⟨T64, h64, X64, e64, W64, st64⟩ := stJ Y61 hx hZ e61 Ar64 (j := (16 : Int32)) hi64 (g := (mkF m 153 #[.val (.int p0), .val (.int p1), .val (.int z2), .val (.int (b2i z6)), .val (.long z10), .second, .unset, .unset] [(.long (152587890625 : Int64)), (.int (16 : Int32)), (.ref b12), (.ref b12)])) rfl rfl (hb hby at_153)
        have F65 : n0 ≤ h64.size := Nat.le_trans F62 (Keep.of_wr W64).1
        have F66 : ArL Z h64 b12 .long [(.long (1 : Int64)), (.long (5 : Int64)), (.long (25 : Int64)), (.long (125 : Int64)), (.long (625 : Int64)), (.long (3125 : Int64)), (.long (15625 : Int64)), (.long (78125 : Int64)), (.long (390625 : Int64)), (.long (1953125 : Int64)), (.long (9765625 : Int64)), (.long (48828125 : Int64)), (.long (244140625 : Int64)), (.long (1220703125 : Int64)), (.long (6103515625 : Int64)), (.long (30517578125 : Int64)), (.long (152587890625 : Int64)), (.long (0 : Int64)), (.long (0 : Int64)), (.long (0 : Int64)), (.long (0 : Int64)), (.long (0 : Int64)), (.long (0 : Int64)), (.long (0 : Int64)), (.long (0 : Int64)), (.long (0 : Int64)), (.long (0 : Int64)), (.long (0 : Int64))] := F63.set W64
        obtain ⟨Lo64, Y64, N64⟩ := pk X64 (Fr.snoc X64 N61 g13)
        refine Go.back st64 ?_
        show Go p.tables e below (P0 Z p0 p1 h0 n0 s) (T64.setTop (mkF m 154 #[.val (.int p0), .val (.int p1), .val (.int z2), .val (.int (b2i z6)), .val (.long z10), .second, .unset, .unset] [(.ref b12)]))
        refine Go.back (fun t k => XS.dup Y64.here hx rfl (hb hby at_154) rfl rfl k) ?_
        show Go p.tables e below (P0 Z p0 p1 h0 n0 s) (T64.setTop (mkF m 155 #[.val (.int p0), .val (.int p1), .val (.int z2), .val (.int (b2i z6)), .val (.long z10), .second, .unset, .unset] [(.ref b12), (.ref b12)]))
        refine Go.back (fun t k => XS.bipush Y64.here hx rfl (hb hby at_155) k) ?_
        show Go p.tables e below (P0 Z p0 p1 h0 n0 s) (T64.setTop (mkF m 157 #[.val (.int p0), .val (.int p1), .val (.int z2), .val (.int (b2i z6)), .val (.long z10), .second, .unset, .unset] [(.int (17 : Int32)), (.ref b12), (.ref b12)]))
        refine Go.back (fun t k => Y64.ldc2Long hx hown (mvT hZ (hw _ (List.mem_of_getElem? (i := 19) rfl))) (g := (mkF m 157 #[.val (.int p0), .val (.int p1), .val (.int z2), .val (.int (b2i z6)), .val (.long z10), .second, .unset, .unset] [(.int (17 : Int32)), (.ref b12), (.ref b12)])) rfl (hb hby at_157) t k) ?_
        show Go p.tables e below (P0 Z p0 p1 h0 n0 s) (T64.setTop (mkF m 160 #[.val (.int p0), .val (.int p1), .val (.int z2), .val (.int (b2i z6)), .val (.long z10), .second, .unset, .unset] [(.long (762939453125 : Int64)), (.int (17 : Int32)), (.ref b12), (.ref b12)]))
        obtain ⟨cl67, Ar67, hi67, -⟩ := F66.at (j := (17 : Int32)) (by decide) (Nat.le_of_ble_eq_true rfl)
        obtain ⟨T67, h67, X67, e67, W67, st67⟩ := stJ Y64 hx hZ e64 Ar67 (j := (17 : Int32)) hi67 (g := (mkF m 160 #[.val (.int p0), .val (.int p1), .val (.int z2), .val (.int (b2i z6)), .val (.long z10), .second, .unset, .unset] [(.long (762939453125 : Int64)), (.int (17 : Int32)), (.ref b12), (.ref b12)])) rfl rfl (hb hby at_160)
        have F68 : n0 ≤ h67.size := Nat.le_trans F65 (Keep.of_wr W67).1
        have F69 : ArL Z h67 b12 .long [(.long (1 : Int64)), (.long (5 : Int64)), (.long (25 : Int64)), (.long (125 : Int64)), (.long (625 : Int64)), (.long (3125 : Int64)), (.long (15625 : Int64)), (.long (78125 : Int64)), (.long (390625 : Int64)), (.long (1953125 : Int64)), (.long (9765625 : Int64)), (.long (48828125 : Int64)), (.long (244140625 : Int64)), (.long (1220703125 : Int64)), (.long (6103515625 : Int64)), (.long (30517578125 : Int64)), (.long (152587890625 : Int64)), (.long (762939453125 : Int64)), (.long (0 : Int64)), (.long (0 : Int64)), (.long (0 : Int64)), (.long (0 : Int64)), (.long (0 : Int64)), (.long (0 : Int64)), (.long (0 : Int64)), (.long (0 : Int64)), (.long (0 : Int64)), (.long (0 : Int64))] := F66.set W67
        obtain ⟨Lo67, Y67, N67⟩ := pk X67 (Fr.snoc X67 N64 g13)
        refine Go.back st67 ?_
        show Go p.tables e below (P0 Z p0 p1 h0 n0 s) (T67.setTop (mkF m 161 #[.val (.int p0), .val (.int p1), .val (.int z2), .val (.int (b2i z6)), .val (.long z10), .second, .unset, .unset] [(.ref b12)]))
        refine Go.back (fun t k => XS.dup Y67.here hx rfl (hb hby at_161) rfl rfl k) ?_
        show Go p.tables e below (P0 Z p0 p1 h0 n0 s) (T67.setTop (mkF m 162 #[.val (.int p0), .val (.int p1), .val (.int z2), .val (.int (b2i z6)), .val (.long z10), .second, .unset, .unset] [(.ref b12), (.ref b12)]))
        refine Go.back (fun t k => XS.bipush Y67.here hx rfl (hb hby at_162) k) ?_
        show Go p.tables e below (P0 Z p0 p1 h0 n0 s) (T67.setTop (mkF m 164 #[.val (.int p0), .val (.int p1), .val (.int z2), .val (.int (b2i z6)), .val (.long z10), .second, .unset, .unset] [(.int (18 : Int32)), (.ref b12), (.ref b12)]))
        refine Go.back (fun t k => Y67.ldc2Long hx hown (mvT hZ (hw _ (List.mem_of_getElem? (i := 20) rfl))) (g := (mkF m 164 #[.val (.int p0), .val (.int p1), .val (.int z2), .val (.int (b2i z6)), .val (.long z10), .second, .unset, .unset] [(.int (18 : Int32)), (.ref b12), (.ref b12)])) rfl (hb hby at_164) t k) ?_
        show Go p.tables e below (P0 Z p0 p1 h0 n0 s) (T67.setTop (mkF m 167 #[.val (.int p0), .val (.int p1), .val (.int z2), .val (.int (b2i z6)), .val (.long z10), .second, .unset, .unset] [(.long (3814697265625 : Int64)), (.int (18 : Int32)), (.ref b12), (.ref b12)]))
        obtain ⟨cl70, Ar70, hi70, -⟩ := F69.at (j := (18 : Int32)) (by decide) (Nat.le_of_ble_eq_true rfl)
        obtain ⟨T70, h70, X70, e70, W70, st70⟩ := stJ Y67 hx hZ e67 Ar70 (j := (18 : Int32)) hi70 (g := (mkF m 167 #[.val (.int p0), .val (.int p1), .val (.int z2), .val (.int (b2i z6)), .val (.long z10), .second, .unset, .unset] [(.long (3814697265625 : Int64)), (.int (18 : Int32)), (.ref b12), (.ref b12)])) rfl rfl (hb hby at_167)
        have F71 : n0 ≤ h70.size := Nat.le_trans F68 (Keep.of_wr W70).1
        have F72 : ArL Z h70 b12 .long [(.long (1 : Int64)), (.long (5 : Int64)), (.long (25 : Int64)), (.long (125 : Int64)), (.long (625 : Int64)), (.long (3125 : Int64)), (.long (15625 : Int64)), (.long (78125 : Int64)), (.long (390625 : Int64)), (.long (1953125 : Int64)), (.long (9765625 : Int64)), (.long (48828125 : Int64)), (.long (244140625 : Int64)), (.long (1220703125 : Int64)), (.long (6103515625 : Int64)), (.long (30517578125 : Int64)), (.long (152587890625 : Int64)), (.long (762939453125 : Int64)), (.long (3814697265625 : Int64)), (.long (0 : Int64)), (.long (0 : Int64)), (.long (0 : Int64)), (.long (0 : Int64)), (.long (0 : Int64)), (.long (0 : Int64)), (.long (0 : Int64)), (.long (0 : Int64)), (.long (0 : Int64))] := F69.set W70
        obtain ⟨Lo70, Y70, N70⟩ := pk X70 (Fr.snoc X70 N67 g13)
        refine Go.back st70 ?_
        show Go p.tables e below (P0 Z p0 p1 h0 n0 s) (T70.setTop (mkF m 168 #[.val (.int p0), .val (.int p1), .val (.int z2), .val (.int (b2i z6)), .val (.long z10), .second, .unset, .unset] [(.ref b12)]))
        refine Go.back (fun t k => XS.dup Y70.here hx rfl (hb hby at_168) rfl rfl k) ?_
        show Go p.tables e below (P0 Z p0 p1 h0 n0 s) (T70.setTop (mkF m 169 #[.val (.int p0), .val (.int p1), .val (.int z2), .val (.int (b2i z6)), .val (.long z10), .second, .unset, .unset] [(.ref b12), (.ref b12)]))
        refine Go.back (fun t k => XS.bipush Y70.here hx rfl (hb hby at_169) k) ?_
        show Go p.tables e below (P0 Z p0 p1 h0 n0 s) (T70.setTop (mkF m 171 #[.val (.int p0), .val (.int p1), .val (.int z2), .val (.int (b2i z6)), .val (.long z10), .second, .unset, .unset] [(.int (19 : Int32)), (.ref b12), (.ref b12)]))
        refine Go.back (fun t k => Y70.ldc2Long hx hown (mvT hZ (hw _ (List.mem_of_getElem? (i := 21) rfl))) (g := (mkF m 171 #[.val (.int p0), .val (.int p1), .val (.int z2), .val (.int (b2i z6)), .val (.long z10), .second, .unset, .unset] [(.int (19 : Int32)), (.ref b12), (.ref b12)])) rfl (hb hby at_171) t k) ?_
        show Go p.tables e below (P0 Z p0 p1 h0 n0 s) (T70.setTop (mkF m 174 #[.val (.int p0), .val (.int p1), .val (.int z2), .val (.int (b2i z6)), .val (.long z10), .second, .unset, .unset] [(.long (19073486328125 : Int64)), (.int (19 : Int32)), (.ref b12), (.ref b12)]))
        obtain ⟨cl73, Ar73, hi73, -⟩ := F72.at (j := (19 : Int32)) (by decide) (Nat.le_of_ble_eq_true rfl)
        obtain ⟨T73, h73, X73, e73, W73, st73⟩ := stJ Y70 hx hZ e70 Ar73 (j := (19 : Int32)) hi73 (g := (mkF m 174 #[.val (.int p0), .val (.int p1), .val (.int z2), .val (.int (b2i z6)), .val (.long z10), .second, .unset, .unset] [(.long (19073486328125 : Int64)), (.int (19 : Int32)), (.ref b12), (.ref b12)])) rfl rfl (hb hby at_174)
        have F74 : n0 ≤ h73.size := Nat.le_trans F71 (Keep.of_wr W73).1
        have F75 : ArL Z h73 b12 .long [(.long (1 : Int64)), (.long (5 : Int64)), (.long (25 : Int64)), (.long (125 : Int64)), (.long (625 : Int64)), (.long (3125 : Int64)), (.long (15625 : Int64)), (.long (78125 : Int64)), (.long (390625 : Int64)), (.long (1953125 : Int64)), (.long (9765625 : Int64)), (.long (48828125 : Int64)), (.long (244140625 : Int64)), (.long (1220703125 : Int64)), (.long (6103515625 : Int64)), (.long (30517578125 : Int64)), (.long (152587890625 : Int64)), (.long (762939453125 : Int64)), (.long (3814697265625 : Int64)), (.long (19073486328125 : Int64)), (.long (0 : Int64)), (.long (0 : Int64)), (.long (0 : Int64)), (.long (0 : Int64)), (.long (0 : Int64)), (.long (0 : Int64)), (.long (0 : Int64)), (.long (0 : Int64))] := F72.set W73
        obtain ⟨Lo73, Y73, N73⟩ := pk X73 (Fr.snoc X73 N70 g13)
        refine Go.back st73 ?_
        show Go p.tables e below (P0 Z p0 p1 h0 n0 s) (T73.setTop (mkF m 175 #[.val (.int p0), .val (.int p1), .val (.int z2), .val (.int (b2i z6)), .val (.long z10), .second, .unset, .unset] [(.ref b12)]))
        refine Go.back (fun t k => XS.dup Y73.here hx rfl (hb hby at_175) rfl rfl k) ?_
        show Go p.tables e below (P0 Z p0 p1 h0 n0 s) (T73.setTop (mkF m 176 #[.val (.int p0), .val (.int p1), .val (.int z2), .val (.int (b2i z6)), .val (.long z10), .second, .unset, .unset] [(.ref b12), (.ref b12)]))
        refine Go.back (fun t k => XS.bipush Y73.here hx rfl (hb hby at_176) k) ?_
        show Go p.tables e below (P0 Z p0 p1 h0 n0 s) (T73.setTop (mkF m 178 #[.val (.int p0), .val (.int p1), .val (.int z2), .val (.int (b2i z6)), .val (.long z10), .second, .unset, .unset] [(.int (20 : Int32)), (.ref b12), (.ref b12)]))
        refine Go.back (fun t k => Y73.ldc2Long hx hown (mvT hZ (hw _ (List.mem_of_getElem? (i := 22) rfl))) (g := (mkF m 178 #[.val (.int p0), .val (.int p1), .val (.int z2), .val (.int (b2i z6)), .val (.long z10), .second, .unset, .unset] [(.int (20 : Int32)), (.ref b12), (.ref b12)])) rfl (hb hby at_178) t k) ?_
        show Go p.tables e below (P0 Z p0 p1 h0 n0 s) (T73.setTop (mkF m 181 #[.val (.int p0), .val (.int p1), .val (.int z2), .val (.int (b2i z6)), .val (.long z10), .second, .unset, .unset] [(.long (95367431640625 : Int64)), (.int (20 : Int32)), (.ref b12), (.ref b12)]))
        obtain ⟨cl76, Ar76, hi76, -⟩ := F75.at (j := (20 : Int32)) (by decide) (Nat.le_of_ble_eq_true rfl)
        obtain ⟨T76, h76, X76, e76, W76, st76⟩ := stJ Y73 hx hZ e73 Ar76 (j := (20 : Int32)) hi76 (g := (mkF m 181 #[.val (.int p0), .val (.int p1), .val (.int z2), .val (.int (b2i z6)), .val (.long z10), .second, .unset, .unset] [(.long (95367431640625 : Int64)), (.int (20 : Int32)), (.ref b12), (.ref b12)])) rfl rfl (hb hby at_181)
        have F77 : n0 ≤ h76.size := Nat.le_trans F74 (Keep.of_wr W76).1
        have F78 : ArL Z h76 b12 .long [(.long (1 : Int64)), (.long (5 : Int64)), (.long (25 : Int64)), (.long (125 : Int64)), (.long (625 : Int64)), (.long (3125 : Int64)), (.long (15625 : Int64)), (.long (78125 : Int64)), (.long (390625 : Int64)), (.long (1953125 : Int64)), (.long (9765625 : Int64)), (.long (48828125 : Int64)), (.long (244140625 : Int64)), (.long (1220703125 : Int64)), (.long (6103515625 : Int64)), (.long (30517578125 : Int64)), (.long (152587890625 : Int64)), (.long (762939453125 : Int64)), (.long (3814697265625 : Int64)), (.long (19073486328125 : Int64)), (.long (95367431640625 : Int64)), (.long (0 : Int64)), (.long (0 : Int64)), (.long (0 : Int64)), (.long (0 : Int64)), (.long (0 : Int64)), (.long (0 : Int64)), (.long (0 : Int64))] := F75.set W76
        obtain ⟨Lo76, Y76, N76⟩ := pk X76 (Fr.snoc X76 N73 g13)
        refine Go.back st76 ?_
        show Go p.tables e below (P0 Z p0 p1 h0 n0 s) (T76.setTop (mkF m 182 #[.val (.int p0), .val (.int p1), .val (.int z2), .val (.int (b2i z6)), .val (.long z10), .second, .unset, .unset] [(.ref b12)]))
        refine Go.back (fun t k => XS.dup Y76.here hx rfl (hb hby at_182) rfl rfl k) ?_
        show Go p.tables e below (P0 Z p0 p1 h0 n0 s) (T76.setTop (mkF m 183 #[.val (.int p0), .val (.int p1), .val (.int z2), .val (.int (b2i z6)), .val (.long z10), .second, .unset, .unset] [(.ref b12), (.ref b12)]))
        refine Go.back (fun t k => XS.bipush Y76.here hx rfl (hb hby at_183) k) ?_
        show Go p.tables e below (P0 Z p0 p1 h0 n0 s) (T76.setTop (mkF m 185 #[.val (.int p0), .val (.int p1), .val (.int z2), .val (.int (b2i z6)), .val (.long z10), .second, .unset, .unset] [(.int (21 : Int32)), (.ref b12), (.ref b12)]))
        refine Go.back (fun t k => Y76.ldc2Long hx hown (mvT hZ (hw _ (List.mem_of_getElem? (i := 23) rfl))) (g := (mkF m 185 #[.val (.int p0), .val (.int p1), .val (.int z2), .val (.int (b2i z6)), .val (.long z10), .second, .unset, .unset] [(.int (21 : Int32)), (.ref b12), (.ref b12)])) rfl (hb hby at_185) t k) ?_
        show Go p.tables e below (P0 Z p0 p1 h0 n0 s) (T76.setTop (mkF m 188 #[.val (.int p0), .val (.int p1), .val (.int z2), .val (.int (b2i z6)), .val (.long z10), .second, .unset, .unset] [(.long (476837158203125 : Int64)), (.int (21 : Int32)), (.ref b12), (.ref b12)]))
        obtain ⟨cl79, Ar79, hi79, -⟩ := F78.at (j := (21 : Int32)) (by decide) (Nat.le_of_ble_eq_true rfl)
        obtain ⟨T79, h79, X79, e79, W79, st79⟩ := stJ Y76 hx hZ e76 Ar79 (j := (21 : Int32)) hi79 (g := (mkF m 188 #[.val (.int p0), .val (.int p1), .val (.int z2), .val (.int (b2i z6)), .val (.long z10), .second, .unset, .unset] [(.long (476837158203125 : Int64)), (.int (21 : Int32)), (.ref b12), (.ref b12)])) rfl rfl (hb hby at_188)
        have F80 : n0 ≤ h79.size := Nat.le_trans F77 (Keep.of_wr W79).1
        have F81 : ArL Z h79 b12 .long [(.long (1 : Int64)), (.long (5 : Int64)), (.long (25 : Int64)), (.long (125 : Int64)), (.long (625 : Int64)), (.long (3125 : Int64)), (.long (15625 : Int64)), (.long (78125 : Int64)), (.long (390625 : Int64)), (.long (1953125 : Int64)), (.long (9765625 : Int64)), (.long (48828125 : Int64)), (.long (244140625 : Int64)), (.long (1220703125 : Int64)), (.long (6103515625 : Int64)), (.long (30517578125 : Int64)), (.long (152587890625 : Int64)), (.long (762939453125 : Int64)), (.long (3814697265625 : Int64)), (.long (19073486328125 : Int64)), (.long (95367431640625 : Int64)), (.long (476837158203125 : Int64)), (.long (0 : Int64)), (.long (0 : Int64)), (.long (0 : Int64)), (.long (0 : Int64)), (.long (0 : Int64)), (.long (0 : Int64))] := F78.set W79
        obtain ⟨Lo79, Y79, N79⟩ := pk X79 (Fr.snoc X79 N76 g13)
        refine Go.back st79 ?_
        show Go p.tables e below (P0 Z p0 p1 h0 n0 s) (T79.setTop (mkF m 189 #[.val (.int p0), .val (.int p1), .val (.int z2), .val (.int (b2i z6)), .val (.long z10), .second, .unset, .unset] [(.ref b12)]))
        refine Go.back (fun t k => XS.dup Y79.here hx rfl (hb hby at_189) rfl rfl k) ?_
        show Go p.tables e below (P0 Z p0 p1 h0 n0 s) (T79.setTop (mkF m 190 #[.val (.int p0), .val (.int p1), .val (.int z2), .val (.int (b2i z6)), .val (.long z10), .second, .unset, .unset] [(.ref b12), (.ref b12)]))
        refine Go.back (fun t k => XS.bipush Y79.here hx rfl (hb hby at_190) k) ?_
        show Go p.tables e below (P0 Z p0 p1 h0 n0 s) (T79.setTop (mkF m 192 #[.val (.int p0), .val (.int p1), .val (.int z2), .val (.int (b2i z6)), .val (.long z10), .second, .unset, .unset] [(.int (22 : Int32)), (.ref b12), (.ref b12)]))
        refine Go.back (fun t k => Y79.ldc2Long hx hown (mvT hZ (hw _ (List.mem_of_getElem? (i := 24) rfl))) (g := (mkF m 192 #[.val (.int p0), .val (.int p1), .val (.int z2), .val (.int (b2i z6)), .val (.long z10), .second, .unset, .unset] [(.int (22 : Int32)), (.ref b12), (.ref b12)])) rfl (hb hby at_192) t k) ?_
        show Go p.tables e below (P0 Z p0 p1 h0 n0 s) (T79.setTop (mkF m 195 #[.val (.int p0), .val (.int p1), .val (.int z2), .val (.int (b2i z6)), .val (.long z10), .second, .unset, .unset] [(.long (2384185791015625 : Int64)), (.int (22 : Int32)), (.ref b12), (.ref b12)]))
        obtain ⟨cl82, Ar82, hi82, -⟩ := F81.at (j := (22 : Int32)) (by decide) (Nat.le_of_ble_eq_true rfl)
        obtain ⟨T82, h82, X82, e82, W82, st82⟩ := stJ Y79 hx hZ e79 Ar82 (j := (22 : Int32)) hi82 (g := (mkF m 195 #[.val (.int p0), .val (.int p1), .val (.int z2), .val (.int (b2i z6)), .val (.long z10), .second, .unset, .unset] [(.long (2384185791015625 : Int64)), (.int (22 : Int32)), (.ref b12), (.ref b12)])) rfl rfl (hb hby at_195)
        have F83 : n0 ≤ h82.size := Nat.le_trans F80 (Keep.of_wr W82).1
        have F84 : ArL Z h82 b12 .long [(.long (1 : Int64)), (.long (5 : Int64)), (.long (25 : Int64)), (.long (125 : Int64)), (.long (625 : Int64)), (.long (3125 : Int64)), (.long (15625 : Int64)), (.long (78125 : Int64)), (.long (390625 : Int64)), (.long (1953125 : Int64)), (.long (9765625 : Int64)), (.long (48828125 : Int64)), (.long (244140625 : Int64)), (.long (1220703125 : Int64)), (.long (6103515625 : Int64)), (.long (30517578125 : Int64)), (.long (152587890625 : Int64)), (.long (762939453125 : Int64)), (.long (3814697265625 : Int64)), (.long (19073486328125 : Int64)), (.long (95367431640625 : Int64)), (.long (476837158203125 : Int64)), (.long (2384185791015625 : Int64)), (.long (0 : Int64)), (.long (0 : Int64)), (.long (0 : Int64)), (.long (0 : Int64)), (.long (0 : Int64))] := F81.set W82
        obtain ⟨Lo82, Y82, N82⟩ := pk X82 (Fr.snoc X82 N79 g13)
        refine Go.back st82 ?_
        show Go p.tables e below (P0 Z p0 p1 h0 n0 s) (T82.setTop (mkF m 196 #[.val (.int p0), .val (.int p1), .val (.int z2), .val (.int (b2i z6)), .val (.long z10), .second, .unset, .unset] [(.ref b12)]))
        refine Go.back (fun t k => XS.dup Y82.here hx rfl (hb hby at_196) rfl rfl k) ?_
        show Go p.tables e below (P0 Z p0 p1 h0 n0 s) (T82.setTop (mkF m 197 #[.val (.int p0), .val (.int p1), .val (.int z2), .val (.int (b2i z6)), .val (.long z10), .second, .unset, .unset] [(.ref b12), (.ref b12)]))
        refine Go.back (fun t k => XS.bipush Y82.here hx rfl (hb hby at_197) k) ?_
        show Go p.tables e below (P0 Z p0 p1 h0 n0 s) (T82.setTop (mkF m 199 #[.val (.int p0), .val (.int p1), .val (.int z2), .val (.int (b2i z6)), .val (.long z10), .second, .unset, .unset] [(.int (23 : Int32)), (.ref b12), (.ref b12)]))
        refine Go.back (fun t k => Y82.ldc2Long hx hown (mvT hZ (hw _ (List.mem_of_getElem? (i := 25) rfl))) (g := (mkF m 199 #[.val (.int p0), .val (.int p1), .val (.int z2), .val (.int (b2i z6)), .val (.long z10), .second, .unset, .unset] [(.int (23 : Int32)), (.ref b12), (.ref b12)])) rfl (hb hby at_199) t k) ?_
        show Go p.tables e below (P0 Z p0 p1 h0 n0 s) (T82.setTop (mkF m 202 #[.val (.int p0), .val (.int p1), .val (.int z2), .val (.int (b2i z6)), .val (.long z10), .second, .unset, .unset] [(.long (11920928955078125 : Int64)), (.int (23 : Int32)), (.ref b12), (.ref b12)]))
        obtain ⟨cl85, Ar85, hi85, -⟩ := F84.at (j := (23 : Int32)) (by decide) (Nat.le_of_ble_eq_true rfl)
        obtain ⟨T85, h85, X85, e85, W85, st85⟩ := stJ Y82 hx hZ e82 Ar85 (j := (23 : Int32)) hi85 (g := (mkF m 202 #[.val (.int p0), .val (.int p1), .val (.int z2), .val (.int (b2i z6)), .val (.long z10), .second, .unset, .unset] [(.long (11920928955078125 : Int64)), (.int (23 : Int32)), (.ref b12), (.ref b12)])) rfl rfl (hb hby at_202)
        have F86 : n0 ≤ h85.size := Nat.le_trans F83 (Keep.of_wr W85).1
        have F87 : ArL Z h85 b12 .long [(.long (1 : Int64)), (.long (5 : Int64)), (.long (25 : Int64)), (.long (125 : Int64)), (.long (625 : Int64)), (.long (3125 : Int64)), (.long (15625 : Int64)), (.long (78125 : Int64)), (.long (390625 : Int64)), (.long (1953125 : Int64)), (.long (9765625 : Int64)), (.long (48828125 : Int64)), (.long (244140625 : Int64)), (.long (1220703125 : Int64)), (.long (6103515625 : Int64)), (.long (30517578125 : Int64)), (.long (152587890625 : Int64)), (.long (762939453125 : Int64)), (.long (3814697265625 : Int64)), (.long (19073486328125 : Int64)), (.long (95367431640625 : Int64)), (.long (476837158203125 : Int64)), (.long (2384185791015625 : Int64)), (.long (11920928955078125 : Int64)), (.long (0 : Int64)), (.long (0 : Int64)), (.long (0 : Int64)), (.long (0 : Int64))] := F84.set W85
        obtain ⟨Lo85, Y85, N85⟩ := pk X85 (Fr.snoc X85 N82 g13)
        refine Go.back st85 ?_
        show Go p.tables e below (P0 Z p0 p1 h0 n0 s) (T85.setTop (mkF m 203 #[.val (.int p0), .val (.int p1), .val (.int z2), .val (.int (b2i z6)), .val (.long z10), .second, .unset, .unset] [(.ref b12)]))
        refine Go.back (fun t k => XS.dup Y85.here hx rfl (hb hby at_203) rfl rfl k) ?_
        show Go p.tables e below (P0 Z p0 p1 h0 n0 s) (T85.setTop (mkF m 204 #[.val (.int p0), .val (.int p1), .val (.int z2), .val (.int (b2i z6)), .val (.long z10), .second, .unset, .unset] [(.ref b12), (.ref b12)]))
        refine Go.back (fun t k => XS.bipush Y85.here hx rfl (hb hby at_204) k) ?_
        show Go p.tables e below (P0 Z p0 p1 h0 n0 s) (T85.setTop (mkF m 206 #[.val (.int p0), .val (.int p1), .val (.int z2), .val (.int (b2i z6)), .val (.long z10), .second, .unset, .unset] [(.int (24 : Int32)), (.ref b12), (.ref b12)]))
        refine Go.back (fun t k => Y85.ldc2Long hx hown (mvT hZ (hw _ (List.mem_of_getElem? (i := 26) rfl))) (g := (mkF m 206 #[.val (.int p0), .val (.int p1), .val (.int z2), .val (.int (b2i z6)), .val (.long z10), .second, .unset, .unset] [(.int (24 : Int32)), (.ref b12), (.ref b12)])) rfl (hb hby at_206) t k) ?_
        show Go p.tables e below (P0 Z p0 p1 h0 n0 s) (T85.setTop (mkF m 209 #[.val (.int p0), .val (.int p1), .val (.int z2), .val (.int (b2i z6)), .val (.long z10), .second, .unset, .unset] [(.long (59604644775390625 : Int64)), (.int (24 : Int32)), (.ref b12), (.ref b12)]))
        obtain ⟨cl88, Ar88, hi88, -⟩ := F87.at (j := (24 : Int32)) (by decide) (Nat.le_of_ble_eq_true rfl)
        obtain ⟨T88, h88, X88, e88, W88, st88⟩ := stJ Y85 hx hZ e85 Ar88 (j := (24 : Int32)) hi88 (g := (mkF m 209 #[.val (.int p0), .val (.int p1), .val (.int z2), .val (.int (b2i z6)), .val (.long z10), .second, .unset, .unset] [(.long (59604644775390625 : Int64)), (.int (24 : Int32)), (.ref b12), (.ref b12)])) rfl rfl (hb hby at_209)
        have F89 : n0 ≤ h88.size := Nat.le_trans F86 (Keep.of_wr W88).1
        have F90 : ArL Z h88 b12 .long [(.long (1 : Int64)), (.long (5 : Int64)), (.long (25 : Int64)), (.long (125 : Int64)), (.long (625 : Int64)), (.long (3125 : Int64)), (.long (15625 : Int64)), (.long (78125 : Int64)), (.long (390625 : Int64)), (.long (1953125 : Int64)), (.long (9765625 : Int64)), (.long (48828125 : Int64)), (.long (244140625 : Int64)), (.long (1220703125 : Int64)), (.long (6103515625 : Int64)), (.long (30517578125 : Int64)), (.long (152587890625 : Int64)), (.long (762939453125 : Int64)), (.long (3814697265625 : Int64)), (.long (19073486328125 : Int64)), (.long (95367431640625 : Int64)), (.long (476837158203125 : Int64)), (.long (2384185791015625 : Int64)), (.long (11920928955078125 : Int64)), (.long (59604644775390625 : Int64)), (.long (0 : Int64)), (.long (0 : Int64)), (.long (0 : Int64))] := F87.set W88
        obtain ⟨Lo88, Y88, N88⟩ := pk X88 (Fr.snoc X88 N85 g13)
        refine Go.back st88 ?_
        show Go p.tables e below (P0 Z p0 p1 h0 n0 s) (T88.setTop (mkF m 210 #[.val (.int p0), .val (.int p1), .val (.int z2), .val (.int (b2i z6)), .val (.long z10), .second, .unset, .unset] [(.ref b12)]))
        refine Go.back (fun t k => XS.dup Y88.here hx rfl (hb hby at_210) rfl rfl k) ?_
        show Go p.tables e below (P0 Z p0 p1 h0 n0 s) (T88.setTop (mkF m 211 #[.val (.int p0), .val (.int p1), .val (.int z2), .val (.int (b2i z6)), .val (.long z10), .second, .unset, .unset] [(.ref b12), (.ref b12)]))
        refine Go.back (fun t k => XS.bipush Y88.here hx rfl (hb hby at_211) k) ?_
        show Go p.tables e below (P0 Z p0 p1 h0 n0 s) (T88.setTop (mkF m 213 #[.val (.int p0), .val (.int p1), .val (.int z2), .val (.int (b2i z6)), .val (.long z10), .second, .unset, .unset] [(.int (25 : Int32)), (.ref b12), (.ref b12)]))
        refine Go.back (fun t k => Y88.ldc2Long hx hown (mvT hZ (hw _ (List.mem_of_getElem? (i := 27) rfl))) (g := (mkF m 213 #[.val (.int p0), .val (.int p1), .val (.int z2), .val (.int (b2i z6)), .val (.long z10), .second, .unset, .unset] [(.int (25 : Int32)), (.ref b12), (.ref b12)])) rfl (hb hby at_213) t k) ?_
        show Go p.tables e below (P0 Z p0 p1 h0 n0 s) (T88.setTop (mkF m 216 #[.val (.int p0), .val (.int p1), .val (.int z2), .val (.int (b2i z6)), .val (.long z10), .second, .unset, .unset] [(.long (298023223876953125 : Int64)), (.int (25 : Int32)), (.ref b12), (.ref b12)]))
        obtain ⟨cl91, Ar91, hi91, -⟩ := F90.at (j := (25 : Int32)) (by decide) (Nat.le_of_ble_eq_true rfl)
        obtain ⟨T91, h91, X91, e91, W91, st91⟩ := stJ Y88 hx hZ e88 Ar91 (j := (25 : Int32)) hi91 (g := (mkF m 216 #[.val (.int p0), .val (.int p1), .val (.int z2), .val (.int (b2i z6)), .val (.long z10), .second, .unset, .unset] [(.long (298023223876953125 : Int64)), (.int (25 : Int32)), (.ref b12), (.ref b12)])) rfl rfl (hb hby at_216)
        have F92 : n0 ≤ h91.size := Nat.le_trans F89 (Keep.of_wr W91).1
        have F93 : ArL Z h91 b12 .long [(.long (1 : Int64)), (.long (5 : Int64)), (.long (25 : Int64)), (.long (125 : Int64)), (.long (625 : Int64)), (.long (3125 : Int64)), (.long (15625 : Int64)), (.long (78125 : Int64)), (.long (390625 : Int64)), (.long (1953125 : Int64)), (.long (9765625 : Int64)), (.long (48828125 : Int64)), (.long (244140625 : Int64)), (.long (1220703125 : Int64)), (.long (6103515625 : Int64)), (.long (30517578125 : Int64)), (.long (152587890625 : Int64)), (.long (762939453125 : Int64)), (.long (3814697265625 : Int64)), (.long (19073486328125 : Int64)), (.long (95367431640625 : Int64)), (.long (476837158203125 : Int64)), (.long (2384185791015625 : Int64)), (.long (11920928955078125 : Int64)), (.long (59604644775390625 : Int64)), (.long (298023223876953125 : Int64)), (.long (0 : Int64)), (.long (0 : Int64))] := F90.set W91
        obtain ⟨Lo91, Y91, N91⟩ := pk X91 (Fr.snoc X91 N88 g13)
        refine Go.back st91 ?_
        show Go p.tables e below (P0 Z p0 p1 h0 n0 s) (T91.setTop (mkF m 217 #[.val (.int p0), .val (.int p1), .val (.int z2), .val (.int (b2i z6)), .val (.long z10), .second, .unset, .unset] [(.ref b12)]))
        refine Go.back (fun t k => XS.dup Y91.here hx rfl (hb hby at_217) rfl rfl k) ?_
        show Go p.tables e below (P0 Z p0 p1 h0 n0 s) (T91.setTop (mkF m 218 #[.val (.int p0), .val (.int p1), .val (.int z2), .val (.int (b2i z6)), .val (.long z10), .second, .unset, .unset] [(.ref b12), (.ref b12)]))
        refine Go.back (fun t k => XS.bipush Y91.here hx rfl (hb hby at_218) k) ?_
        show Go p.tables e below (P0 Z p0 p1 h0 n0 s) (T91.setTop (mkF m 220 #[.val (.int p0), .val (.int p1), .val (.int z2), .val (.int (b2i z6)), .val (.long z10), .second, .unset, .unset] [(.int (26 : Int32)), (.ref b12), (.ref b12)]))
        refine Go.back (fun t k => Y91.ldc2Long hx hown (mvT hZ (hw _ (List.mem_of_getElem? (i := 28) rfl))) (g := (mkF m 220 #[.val (.int p0), .val (.int p1), .val (.int z2), .val (.int (b2i z6)), .val (.long z10), .second, .unset, .unset] [(.int (26 : Int32)), (.ref b12), (.ref b12)])) rfl (hb hby at_220) t k) ?_
        show Go p.tables e below (P0 Z p0 p1 h0 n0 s) (T91.setTop (mkF m 223 #[.val (.int p0), .val (.int p1), .val (.int z2), .val (.int (b2i z6)), .val (.long z10), .second, .unset, .unset] [(.long (1490116119384765625 : Int64)), (.int (26 : Int32)), (.ref b12), (.ref b12)]))
        obtain ⟨cl94, Ar94, hi94, -⟩ := F93.at (j := (26 : Int32)) (by decide) (Nat.le_of_ble_eq_true rfl)
        obtain ⟨T94, h94, X94, e94, W94, st94⟩ := stJ Y91 hx hZ e91 Ar94 (j := (26 : Int32)) hi94 (g := (mkF m 223 #[.val (.int p0), .val (.int p1), .val (.int z2), .val (.int (b2i z6)), .val (.long z10), .second, .unset, .unset] [(.long (1490116119384765625 : Int64)), (.int (26 : Int32)), (.ref b12), (.ref b12)])) rfl rfl (hb hby at_223)
        have F95 : n0 ≤ h94.size := Nat.le_trans F92 (Keep.of_wr W94).1
        have F96 : ArL Z h94 b12 .long [(.long (1 : Int64)), (.long (5 : Int64)), (.long (25 : Int64)), (.long (125 : Int64)), (.long (625 : Int64)), (.long (3125 : Int64)), (.long (15625 : Int64)), (.long (78125 : Int64)), (.long (390625 : Int64)), (.long (1953125 : Int64)), (.long (9765625 : Int64)), (.long (48828125 : Int64)), (.long (244140625 : Int64)), (.long (1220703125 : Int64)), (.long (6103515625 : Int64)), (.long (30517578125 : Int64)), (.long (152587890625 : Int64)), (.long (762939453125 : Int64)), (.long (3814697265625 : Int64)), (.long (19073486328125 : Int64)), (.long (95367431640625 : Int64)), (.long (476837158203125 : Int64)), (.long (2384185791015625 : Int64)), (.long (11920928955078125 : Int64)), (.long (59604644775390625 : Int64)), (.long (298023223876953125 : Int64)), (.long (1490116119384765625 : Int64)), (.long (0 : Int64))] := F93.set W94
        obtain ⟨Lo94, Y94, N94⟩ := pk X94 (Fr.snoc X94 N91 g13)
        refine Go.back st94 ?_
        show Go p.tables e below (P0 Z p0 p1 h0 n0 s) (T94.setTop (mkF m 224 #[.val (.int p0), .val (.int p1), .val (.int z2), .val (.int (b2i z6)), .val (.long z10), .second, .unset, .unset] [(.ref b12)]))
        refine Go.back (fun t k => XS.dup Y94.here hx rfl (hb hby at_224) rfl rfl k) ?_
        show Go p.tables e below (P0 Z p0 p1 h0 n0 s) (T94.setTop (mkF m 225 #[.val (.int p0), .val (.int p1), .val (.int z2), .val (.int (b2i z6)), .val (.long z10), .second, .unset, .unset] [(.ref b12), (.ref b12)]))
        refine Go.back (fun t k => XS.bipush Y94.here hx rfl (hb hby at_225) k) ?_
        show Go p.tables e below (P0 Z p0 p1 h0 n0 s) (T94.setTop (mkF m 227 #[.val (.int p0), .val (.int p1), .val (.int z2), .val (.int (b2i z6)), .val (.long z10), .second, .unset, .unset] [(.int (27 : Int32)), (.ref b12), (.ref b12)]))
        refine Go.back (fun t k => Y94.ldc2Long hx hown (mvT hZ (hw _ (List.mem_of_getElem? (i := 29) rfl))) (g := (mkF m 227 #[.val (.int p0), .val (.int p1), .val (.int z2), .val (.int (b2i z6)), .val (.long z10), .second, .unset, .unset] [(.int (27 : Int32)), (.ref b12), (.ref b12)])) rfl (hb hby at_227) t k) ?_
        show Go p.tables e below (P0 Z p0 p1 h0 n0 s) (T94.setTop (mkF m 230 #[.val (.int p0), .val (.int p1), .val (.int z2), .val (.int (b2i z6)), .val (.long z10), .second, .unset, .unset] [(.long (7450580596923828125 : Int64)), (.int (27 : Int32)), (.ref b12), (.ref b12)]))
        obtain ⟨cl97, Ar97, hi97, -⟩ := F96.at (j := (27 : Int32)) (by decide) (Nat.le_of_ble_eq_true rfl)
        obtain ⟨T97, h97, X97, e97, W97, st97⟩ := stJ Y94 hx hZ e94 Ar97 (j := (27 : Int32)) hi97 (g := (mkF m 230 #[.val (.int p0), .val (.int p1), .val (.int z2), .val (.int (b2i z6)), .val (.long z10), .second, .unset, .unset] [(.long (7450580596923828125 : Int64)), (.int (27 : Int32)), (.ref b12), (.ref b12)])) rfl rfl (hb hby at_230)
        have F98 : n0 ≤ h97.size := Nat.le_trans F95 (Keep.of_wr W97).1
        have F99 : ArL Z h97 b12 .long [(.long (1 : Int64)), (.long (5 : Int64)), (.long (25 : Int64)), (.long (125 : Int64)), (.long (625 : Int64)), (.long (3125 : Int64)), (.long (15625 : Int64)), (.long (78125 : Int64)), (.long (390625 : Int64)), (.long (1953125 : Int64)), (.long (9765625 : Int64)), (.long (48828125 : Int64)), (.long (244140625 : Int64)), (.long (1220703125 : Int64)), (.long (6103515625 : Int64)), (.long (30517578125 : Int64)), (.long (152587890625 : Int64)), (.long (762939453125 : Int64)), (.long (3814697265625 : Int64)), (.long (19073486328125 : Int64)), (.long (95367431640625 : Int64)), (.long (476837158203125 : Int64)), (.long (2384185791015625 : Int64)), (.long (11920928955078125 : Int64)), (.long (59604644775390625 : Int64)), (.long (298023223876953125 : Int64)), (.long (1490116119384765625 : Int64)), (.long (7450580596923828125 : Int64))] := F96.set W97
        obtain ⟨Lo97, Y97, N97⟩ := pk X97 (Fr.snoc X97 N94 g13)
        refine Go.back st97 ?_
        show Go p.tables e below (P0 Z p0 p1 h0 n0 s) (T97.setTop (mkF m 231 #[.val (.int p0), .val (.int p1), .val (.int z2), .val (.int (b2i z6)), .val (.long z10), .second, .unset, .unset] [(.ref b12)]))
        refine Go.back (fun t k => XS.astore Y97.here hx rfl (hb hby at_231) rfl rfl (l' := #[.val (.int p0), .val (.int p1), .val (.int z2), .val (.int (b2i z6)), .val (.long z10), .second, .val (.ref b12), .unset]) rfl k) ?_
        show Go p.tables e below (P0 Z p0 p1 h0 n0 s) (T97.setTop (mkF m 233 #[.val (.int p0), .val (.int p1), .val (.int z2), .val (.int (b2i z6)), .val (.long z10), .second, .val (.ref b12), .unset] []))
        refine Go.back (fun t k => XS.iloadN Y97.here hx rfl (hb hby at_233) rfl  k) ?_
        show Go p.tables e below (P0 Z p0 p1 h0 n0 s) (T97.setTop (mkF m 234 #[.val (.int p0), .val (.int p1), .val (.int z2), .val (.int (b2i z6)), .val (.long z10), .second, .val (.ref b12), .unset] [(.int z2)]))
        refine Go.back (fun t k => XS.iloadN Y97.here hx rfl (hb hby at_234) rfl  k) ?_
        show Go p.tables e below (P0 Z p0 p1 h0 n0 s) (T97.setTop (mkF m 235 #[.val (.int p0), .val (.int p1), .val (.int z2), .val (.int (b2i z6)), .val (.long z10), .second, .val (.ref b12), .unset] [(.int (b2i z6)), (.int z2)]))
        obtain ⟨_, _, ⟨T100, L100, k100, n100⟩, -, X100, ⟨Lc100, hQ100, l100, y100, z100⟩, st100⟩ := Jvm.LawKit.callS Y97 hx (y := (⟨"com/example/spillway/spillway/ShortestDecimal", "scale", "(IZ)I"⟩ : MethodName)) hown (mvT hZ (hw _ (List.mem_of_getElem? (i := 30) rfl))) (mvT hZ (hw _ (List.mem_of_getElem? (i := 31) rfl))) (mvT hZ (hw _ (List.mem_of_getElem? (i := 32) rfl))) (mvT hZ (hw _ (List.mem_of_getElem? (i := 33) rfl))) (by decide) (backOf (W := 0) (rm1 l Z a0 hw [] z2 z6 h97 n0) hZ (hw _ (List.mem_of_getElem? (i := 33) rfl)) (hw _ (List.mem_of_getElem? (i := 32) rfl)) (by decide) (by decide)) (g := (mkF m 235 #[.val (.int p0), .val (.int p1), .val (.int z2), .val (.int (b2i z6)), .val (.long z10), .second, .val (.ref b12), .unset] [(.int (b2i z6)), (.int z2)])) rfl (by rw [hml]; rfl) (argsL := [(.int z2), (.int (b2i z6))]) (rest := []) (lenOf pd_1 rfl) rfl (by show 2 * 0 + _ ≤ _; exact Nat.le_of_eq rfl) (hb hby at_235) (fun _ _ => ⟨rfl, e97, (by decide : 1 + 0 ≤ _), (by decide : 28 + 0 ≤ _)⟩)
        dsimp only [Pt.U, Pt.locs, Pt.cells, Pt.slots] at X100 l100 y100 z100 st100 hQ100
        subst l100 y100 z100
        obtain ⟨rfl, N100q, e100⟩ := hQ100
        obtain ⟨Lo100, Y100, N100⟩ := pk X100 (Fr.app N97 N100q)
        refine Go.back st100 ?_
        show Go p.tables e below (P0 Z p0 p1 h0 n0 s) (T100.setTop (mkF m 238 #[.val (.int p0), .val (.int p1), .val (.int z2), .val (.int (b2i z6)), .val (.long z10), .second, .val (.ref b12), .unset] [(.int (f1 z2 z6))]))
        refine Go.back (fun t k => XS.istore Y100.here hx rfl (hb hby at_238) rfl (l' := #[.val (.int p0), .val (.int p1), .val (.int z2), .val (.int (b2i z6)), .val (.long z10), .second, .val (.ref b12), .val (.int (f1 z2 z6))]) rfl k) ?_
        show Go p.tables e below (P0 Z p0 p1 h0 n0 s) (T100.setTop (mkF m 240 #[.val (.int p0), .val (.int p1), .val (.int z2), .val (.int (b2i z6)), .val (.long z10), .second, .val (.ref b12), .val (.int (f1 z2 z6))] []))
        have J101 : ∀ (z102 : Int32) (hz102 : z102 = (f1 z2 z6)), Go p.tables e below (P0 Z p0 p1 h0 n0 s) (T100.setTop (mkF m 240 #[.val (.int p0), .val (.int p1), .val (.int z2), .val (.int (b2i z6)), .val (.long z10), .second, .val (.ref b12), .val (.int z102)] [])) := by
          intro z102 hz102
          have r103 : f0 p0 p1 = (if z102 < (-26 : Int32) then false else (if (26 : Int32) < z102 then false else (let z113 : Bool := (if (f2 z102 z10 z2) = true then (if (f2 (z102 + (1 : Int32)) z10 z2) = true then false else true) else false); z113))) := by subst hz102; exact r11
          show Go p.tables e below (P0 Z p0 p1 h0 n0 s) (T100.setTop (mkF m 240 #[.val (.int p0), .val (.int p1), .val (.int z2), .val (.int (b2i z6)), .val (.long z10), .second, .val (.ref b12), .val (.int z102)] []))
          refine Go.back (fun t k => XS.iload Y100.here hx rfl (hb hby at_240) rfl  k) ?_
          show Go p.tables e below (P0 Z p0 p1 h0 n0 s) (T100.setTop (mkF m 242 #[.val (.int p0), .val (.int p1), .val (.int z2), .val (.int (b2i z6)), .val (.long z10), .second, .val (.ref b12), .val (.int z102)] [(.int z102)]))
          refine Go.back (fun t k => XS.bipush Y100.here hx rfl (hb hby at_242) k) ?_
          show Go p.tables e below (P0 Z p0 p1 h0 n0 s) (T100.setTop (mkF m 244 #[.val (.int p0), .val (.int p1), .val (.int z2), .val (.int (b2i z6)), .val (.long z10), .second, .val (.ref b12), .val (.int z102)] [(.int (-26 : Int32)), (.int z102)]))
          by_cases hc104 : z102 < (-26 : Int32)
          · have r105 := r103.trans (if_pos hc104)
            refine Go.back (fun t k => XS.icmpYes Y100.here hx rfl (pc0 := 244) (pc' := 254) rfl (hb hby at_244) rfl (tlt hc104).1 (by decide) (by decide) k) ?_
            show Go p.tables e below (P0 Z p0 p1 h0 n0 s) (T100.setTop (mkF m 254 #[.val (.int p0), .val (.int p1), .val (.int z2), .val (.int (b2i z6)), .val (.long z10), .second, .val (.ref b12), .val (.int z102)] []))
            refine Go.back (fun t k => XS.iconst Y100.here hx rfl (hb hby at_254) k) ?_
            show Go p.tables e below (P0 Z p0 p1 h0 n0 s) (T100.setTop (mkF m 255 #[.val (.int p0), .val (.int p1), .val (.int z2), .val (.int (b2i z6)), .val (.long z10), .second, .val (.ref b12), .val (.int z102)] [(.int (0 : Int32))]))
            exact Go.retB (b := false) Y100 hx Bd.returns (hb hby at_255) Bd.notSynchronized ⟨by rw [r105], N100⟩ (by decide) (by decide)
          · have r106 := r103.trans (if_neg hc104)
            refine Go.back (fun t k => XS.icmpNo Y100.here hx rfl (hb hby at_244) rfl (flt hc104).1 k) ?_
            show Go p.tables e below (P0 Z p0 p1 h0 n0 s) (T100.setTop (mkF m 247 #[.val (.int p0), .val (.int p1), .val (.int z2), .val (.int (b2i z6)), .val (.long z10), .second, .val (.ref b12), .val (.int z102)] []))
            refine Go.back (fun t k => XS.iload Y100.here hx rfl (hb hby at_247) rfl  k) ?_
            show Go p.tables e below (P0 Z p0 p1 h0 n0 s) (T100.setTop (mkF m 249 #[.val (.int p0), .val (.int p1), .val (.int z2), .val (.int (b2i z6)), .val (.long z10), .second, .val (.ref b12), .val (.int z102)] [(.int z102)]))
            refine Go.back (fun t k => XS.bipush Y100.here hx rfl (hb hby at_249) k) ?_
            show Go p.tables e below (P0 Z p0 p1 h0 n0 s) (T100.setTop (mkF m 251 #[.val (.int p0), .val (.int p1), .val (.int z2), .val (.int (b2i z6)), .val (.long z10), .second, .val (.ref b12), .val (.int z102)] [(.int (26 : Int32)), (.int z102)]))
            by_cases hc107 : (26 : Int32) < z102
            · have r108 := r106.trans (if_pos hc107)
              refine Go.back (fun t k => XS.icmpNo Y100.here hx rfl (hb hby at_251) rfl (tlt hc107).2.2.2 k) ?_
              show Go p.tables e below (P0 Z p0 p1 h0 n0 s) (T100.setTop (mkF m 254 #[.val (.int p0), .val (.int p1), .val (.int z2), .val (.int (b2i z6)), .val (.long z10), .second, .val (.ref b12), .val (.int z102)] []))
              refine Go.back (fun t k => XS.iconst Y100.here hx rfl (hb hby at_254) k) ?_
              show Go p.tables e below (P0 Z p0 p1 h0 n0 s) (T100.setTop (mkF m 255 #[.val (.int p0), .val (.int p1), .val (.int z2), .val (.int (b2i z6)), .val (.long z10), .second, .val (.ref b12), .val (.int z102)] [(.int (0 : Int32))]))
              exact Go.retB (b := false) Y100 hx Bd.returns (hb hby at_255) Bd.notSynchronized ⟨by rw [r108], N100⟩ (by decide) (by decide)
            · have r109 := r106.trans (if_neg hc107)
              refine Go.back (fun t k => XS.icmpYes Y100.here hx rfl (pc0 := 251) (pc' := 256) rfl (hb hby at_251) rfl (flt hc107).2.2.2 (by decide) (by decide) k) ?_
              show Go p.tables e below (P0 Z p0 p1 h0 n0 s) (T100.setTop (mkF m 256 #[.val (.int p0), .val (.int p1), .val (.int z2), .val (.int (b2i z6)), .val (.long z10), .second, .val (.ref b12), .val (.int z102)] []))
              refine Go.back (fun t k => XS.aload Y100.here hx rfl (hb hby at_256) rfl rfl  k) ?_
              show Go p.tables e below (P0 Z p0 p1 h0 n0 s) (T100.setTop (mkF m 258 #[.val (.int p0), .val (.int p1), .val (.int z2), .val (.int (b2i z6)), .val (.long z10), .second, .val (.ref b12), .val (.int z102)] [(.ref b12)]))
              refine Go.back (fun t k => XS.iload Y100.here hx rfl (hb hby at_258) rfl  k) ?_
              show Go p.tables e below (P0 Z p0 p1 h0 n0 s) (T100.setTop (mkF m 260 #[.val (.int p0), .val (.int p1), .val (.int z2), .val (.int (b2i z6)), .val (.long z10), .second, .val (.ref b12), .val (.int z102)] [(.int z102), (.ref b12)]))
              refine Go.back (fun t k => XS.lload Y100.here hx rfl (hb hby at_260) rfl  k) ?_
              show Go p.tables e below (P0 Z p0 p1 h0 n0 s) (T100.setTop (mkF m 262 #[.val (.int p0), .val (.int p1), .val (.int z2), .val (.int (b2i z6)), .val (.long z10), .second, .val (.ref b12), .val (.int z102)] [(.long z10), (.int z102), (.ref b12)]))
              refine Go.back (fun t k => XS.iloadN Y100.here hx rfl (hb hby at_262) rfl  k) ?_
              show Go p.tables e below (P0 Z p0 p1 h0 n0 s) (T100.setTop (mkF m 263 #[.val (.int p0), .val (.int p1), .val (.int z2), .val (.int (b2i z6)), .val (.long z10), .second, .val (.ref b12), .val (.int z102)] [(.int z2), (.long z10), (.int z102), (.ref b12)]))
              obtain ⟨_, _, ⟨T110, L110, k110, n110⟩, -, X110, ⟨Lc110, hQ110, l110, y110, z110⟩, st110⟩ := Jvm.LawKit.callS Y100 hx (y := (⟨"com/example/spillway/spillway/ShortestDecimalScalePinLaw", "atMost", "([JIJI)Z"⟩ : MethodName)) hown (mvT hZ (hw _ (List.mem_of_getElem? (i := 36) rfl))) (mvT hZ (hw _ (List.mem_of_getElem? (i := 37) rfl))) (mvT hZ (hw _ (List.mem_of_getElem? (i := 38) rfl))) (mvT hZ (hw _ (List.mem_of_getElem? (i := 39) rfl))) (by decide) (backOf (W := 0) (rm2 l Z a0 hw [] b12 z102 z10 z2 h97 n0 F98 F99 (own_k1 hc104 hc107)) hZ (hw _ (List.mem_of_getElem? (i := 39) rfl)) (hw _ (List.mem_of_getElem? (i := 38) rfl)) (by decide) (by decide)) (g := (mkF m 263 #[.val (.int p0), .val (.int p1), .val (.int z2), .val (.int (b2i z6)), .val (.long z10), .second, .val (.ref b12), .val (.int z102)] [(.int z2), (.long z10), (.int z102), (.ref b12)])) rfl (by rw [hml]; rfl) (argsL := [(.ref b12), (.int z102), (.long z10), (.int z2)]) (rest := []) (lenOf pd_2 rfl) rfl (by show 2 * 0 + _ ≤ _; exact Nat.le_of_eq rfl) (hb hby at_263) (fun _ _ => ⟨rfl, e100, (by decide : 1 + 0 ≤ _), (by decide : 28 + 0 ≤ _)⟩)
              dsimp only [Pt.U, Pt.locs, Pt.cells, Pt.slots] at X110 l110 y110 z110 st110 hQ110
              subst l110 y110 z110
              obtain ⟨rfl, N110q, e110⟩ := hQ110
              obtain ⟨Lo110, Y110, N110⟩ := pk X110 (Fr.app N100 N110q)
              refine Go.back st110 ?_
              show Go p.tables e below (P0 Z p0 p1 h0 n0 s) (T110.setTop (mkF m 266 #[.val (.int p0), .val (.int p1), .val (.int z2), .val (.int (b2i z6)), .val (.long z10), .second, .val (.ref b12), .val (.int z102)] [(.int (b2i (f2 z102 z10 z2)))]))
              have J112 : ∀ (T114 : State) (L114 : List Loc) (X114 : Stand p l e room_1 s m #[(.int p0), (.int p1)] below meth c T114 L114 1 28) (N114 : Fr n0 L114) (e114 : T114.heap = h97) (z113 : Bool) (hz113 : z113 = (if (f2 z102 z10 z2) = true then (if (f2 (z102 + (1 : Int32)) z10 z2) = true then false else true) else false)), Go p.tables e below (P0 Z p0 p1 h0 n0 s) (T114.setTop (mkF m 289 #[.val (.int p0), .val (.int p1), .val (.int z2), .val (.int (b2i z6)), .val (.long z10), .second, .val (.ref b12), .val (.int z102)] [(.int (b2i z113))])) := by
                intro T114 L114 X114 N114 e114 z113 hz113
                have r115 : f0 p0 p1 = z113 := by subst hz113; exact r109
                show Go p.tables e below (P0 Z p0 p1 h0 n0 s) (T114.setTop (mkF m 289 #[.val (.int p0), .val (.int p1), .val (.int z2), .val (.int (b2i z6)), .val (.long z10), .second, .val (.ref b12), .val (.int z102)] [(.int (b2i z113))]))
                exact Go.retB (b := z113) X114 hx Bd.returns (hb hby at_289) Bd.notSynchronized ⟨by rw [r115], N114⟩ (by decide) (by decide)
              have r116 : (if (f2 z102 z10 z2) = true then (if (f2 (z102 + (1 : Int32)) z10 z2) = true then false else true) else false) = (if (f2 z102 z10 z2) = true then (if (f2 (z102 + (1 : Int32)) z10 z2) = true then false else true) else false) := rfl
              by_cases hc111 : (f2 z102 z10 z2) = true
              · have r117 := r116.trans (if_pos hc111)
                refine Go.back (fun t k => XS.ifNo Y110.here hx rfl (hb hby at_266) rfl ((if0 _ _).trans (feq (b2i_t hc111)).1) k) ?_
                show Go p.tables e below (P0 Z p0 p1 h0 n0 s) (T110.setTop (mkF m 269 #[.val (.int p0), .val (.int p1), .val (.int z2), .val (.int (b2i z6)), .val (.long z10), .second, .val (.ref b12), .val (.int z102)] []))
                refine Go.back (fun t k => XS.aload Y110.here hx rfl (hb hby at_269) rfl rfl  k) ?_
                show Go p.tables e below (P0 Z p0 p1 h0 n0 s) (T110.setTop (mkF m 271 #[.val (.int p0), .val (.int p1), .val (.int z2), .val (.int (b2i z6)), .val (.long z10), .second, .val (.ref b12), .val (.int z102)] [(.ref b12)]))
                refine Go.back (fun t k => XS.iload Y110.here hx rfl (hb hby at_271) rfl  k) ?_
                show Go p.tables e below (P0 Z p0 p1 h0 n0 s) (T110.setTop (mkF m 273 #[.val (.int p0), .val (.int p1), .val (.int z2), .val (.int (b2i z6)), .val (.long z10), .second, .val (.ref b12), .val (.int z102)] [(.int z102), (.ref b12)]))
                refine Go.back (fun t k => XS.iconst Y110.here hx rfl (hb hby at_273) k) ?_
                show Go p.tables e below (P0 Z p0 p1 h0 n0 s) (T110.setTop (mkF m 274 #[.val (.int p0), .val (.int p1), .val (.int z2), .val (.int (b2i z6)), .val (.long z10), .second, .val (.ref b12), .val (.int z102)] [(.int (1 : Int32)), (.int z102), (.ref b12)]))
                refine Go.back (fun t k => XS.iadd Y110.here hx rfl (hb hby at_274) rfl k) ?_
                show Go p.tables e below (P0 Z p0 p1 h0 n0 s) (T110.setTop (mkF m 275 #[.val (.int p0), .val (.int p1), .val (.int z2), .val (.int (b2i z6)), .val (.long z10), .second, .val (.ref b12), .val (.int z102)] [(.int (z102 + (1 : Int32))), (.ref b12)]))
                refine Go.back (fun t k => XS.lload Y110.here hx rfl (hb hby at_275) rfl  k) ?_
                show Go p.tables e below (P0 Z p0 p1 h0 n0 s) (T110.setTop (mkF m 277 #[.val (.int p0), .val (.int p1), .val (.int z2), .val (.int (b2i z6)), .val (.long z10), .second, .val (.ref b12), .val (.int z102)] [(.long z10), (.int (z102 + (1 : Int32))), (.ref b12)]))
                refine Go.back (fun t k => XS.iloadN Y110.here hx rfl (hb hby at_277) rfl  k) ?_
                show Go p.tables e below (P0 Z p0 p1 h0 n0 s) (T110.setTop (mkF m 278 #[.val (.int p0), .val (.int p1), .val (.int z2), .val (.int (b2i z6)), .val (.long z10), .second, .val (.ref b12), .val (.int z102)] [(.int z2), (.long z10), (.int (z102 + (1 : Int32))), (.ref b12)]))
                obtain ⟨_, _, ⟨T118, L118, k118, n118⟩, -, X118, ⟨Lc118, hQ118, l118, y118, z118⟩, st118⟩ := Jvm.LawKit.callS Y110 hx (y := (⟨"com/example/spillway/spillway/ShortestDecimalScalePinLaw", "atMost", "([JIJI)Z"⟩ : MethodName)) hown (mvT hZ (hw _ (List.mem_of_getElem? (i := 36) rfl))) (mvT hZ (hw _ (List.mem_of_getElem? (i := 37) rfl))) (mvT hZ (hw _ (List.mem_of_getElem? (i := 38) rfl))) (mvT hZ (hw _ (List.mem_of_getElem? (i := 39) rfl))) (by decide) (backOf (W := 0) (rm2 l Z a0 hw [] b12 (z102 + (1 : Int32)) z10 z2 h97 n0 F98 F99 (own_k2 hc104 hc107)) hZ (hw _ (List.mem_of_getElem? (i := 39) rfl)) (hw _ (List.mem_of_getElem? (i := 38) rfl)) (by decide) (by decide)) (g := (mkF m 278 #[.val (.int p0), .val (.int p1), .val (.int z2), .val (.int (b2i z6)), .val (.long z10), .second, .val (.ref b12), .val (.int z102)] [(.int z2), (.long z10), (.int (z102 + (1 : Int32))), (.ref b12)])) rfl (by rw [hml]; rfl) (argsL := [(.ref b12), (.int (z102 + (1 : Int32))), (.long z10), (.int z2)]) (rest := []) (lenOf pd_2 rfl) rfl (by show 2 * 0 + _ ≤ _; exact Nat.le_of_eq rfl) (hb hby at_278) (fun _ _ => ⟨rfl, e110, (by decide : 1 + 0 ≤ _), (by decide : 28 + 0 ≤ _)⟩)
                dsimp only [Pt.U, Pt.locs, Pt.cells, Pt.slots] at X118 l118 y118 z118 st118 hQ118
                subst l118 y118 z118
                obtain ⟨rfl, N118q, e118⟩ := hQ118
                obtain ⟨Lo118, Y118, N118⟩ := pk X118 (Fr.app N110 N118q)
                refine Go.back st118 ?_
                show Go p.tables e below (P0 Z p0 p1 h0 n0 s) (T118.setTop (mkF m 281 #[.val (.int p0), .val (.int p1), .val (.int z2), .val (.int (b2i z6)), .val (.long z10), .second, .val (.ref b12), .val (.int z102)] [(.int (b2i (f2 (z102 + (1 : Int32)) z10 z2)))]))
                by_cases hc119 : (f2 (z102 + (1 : Int32)) z10 z2) = true
                · have r120 := r117.trans (if_pos hc119)
                  refine Go.back (fun t k => XS.ifYes Y118.here hx rfl (pc0 := 281) (pc' := 288) rfl (hb hby at_281) rfl ((if0 _ _).trans (feq (b2i_t hc119)).2) (by decide) (by decide) k) ?_
                  show Go p.tables e below (P0 Z p0 p1 h0 n0 s) (T118.setTop (mkF m 288 #[.val (.int p0), .val (.int p1), .val (.int z2), .val (.int (b2i z6)), .val (.long z10), .second, .val (.ref b12), .val (.int z102)] []))
                  refine Go.back (fun t k => XS.iconst Y118.here hx rfl (hb hby at_288) k) ?_
                  show Go p.tables e below (P0 Z p0 p1 h0 n0 s) (T118.setTop (mkF m 289 #[.val (.int p0), .val (.int p1), .val (.int z2), .val (.int (b2i z6)), .val (.long z10), .second, .val (.ref b12), .val (.int z102)] [(.int (0 : Int32))]))
                  exact J112 _ _ Y118 N118 e118 false r120.symm
                · have r121 := r117.trans (if_neg hc119)
                  refine Go.back (fun t k => XS.ifNo Y118.here hx rfl (hb hby at_281) rfl ((if0 _ _).trans (teq (b2i_f hc119)).2) k) ?_
                  show Go p.tables e below (P0 Z p0 p1 h0 n0 s) (T118.setTop (mkF m 284 #[.val (.int p0), .val (.int p1), .val (.int z2), .val (.int (b2i z6)), .val (.long z10), .second, .val (.ref b12), .val (.int z102)] []))
                  refine Go.back (fun t k => XS.iconst Y118.here hx rfl (hb hby at_284) k) ?_
                  show Go p.tables e below (P0 Z p0 p1 h0 n0 s) (T118.setTop (mkF m 285 #[.val (.int p0), .val (.int p1), .val (.int z2), .val (.int (b2i z6)), .val (.long z10), .second, .val (.ref b12), .val (.int z102)] [(.int (1 : Int32))]))
                  refine Go.back (fun t k => XS.goto Y118.here hx rfl (pc0 := 285) (pc' := 289) rfl (hb hby at_285) (by decide) (by decide) k) ?_
                  show Go p.tables e below (P0 Z p0 p1 h0 n0 s) (T118.setTop (mkF m 289 #[.val (.int p0), .val (.int p1), .val (.int z2), .val (.int (b2i z6)), .val (.long z10), .second, .val (.ref b12), .val (.int z102)] [(.int (1 : Int32))]))
                  exact J112 _ _ Y118 N118 e118 true r121.symm
              · have r122 := r116.trans (if_neg hc111)
                refine Go.back (fun t k => XS.ifYes Y110.here hx rfl (pc0 := 266) (pc' := 288) rfl (hb hby at_266) rfl ((if0 _ _).trans (teq (b2i_f hc111)).1) (by decide) (by decide) k) ?_
                show Go p.tables e below (P0 Z p0 p1 h0 n0 s) (T110.setTop (mkF m 288 #[.val (.int p0), .val (.int p1), .val (.int z2), .val (.int (b2i z6)), .val (.long z10), .second, .val (.ref b12), .val (.int z102)] []))
                refine Go.back (fun t k => XS.iconst Y110.here hx rfl (hb hby at_288) k) ?_
                show Go p.tables e below (P0 Z p0 p1 h0 n0 s) (T110.setTop (mkF m 289 #[.val (.int p0), .val (.int p1), .val (.int z2), .val (.int (b2i z6)), .val (.long z10), .second, .val (.ref b12), .val (.int z102)] [(.int (0 : Int32))]))
                exact J112 _ _ Y110 N110 e110 false r122.symm
        exact J101 _ rfl
      have r123 : (if z6 = true then (3 : Int64) else (4 : Int64)) = (if z6 = true then (3 : Int64) else (4 : Int64)) := rfl
      by_cases hc8 : z6 = true
      · have r124 := r123.trans (if_pos hc8)
        refine Go.back (fun t k => XS.ifNo X0.here hx rfl (hb hby at_25) rfl ((if0 _ _).trans (feq (b2i_t hc8)).1) k) ?_
        show Go p.tables e below (P0 Z p0 p1 h0 n0 s) (s₁.setTop (mkF m 28 #[.val (.int p0), .val (.int p1), .val (.int z2), .val (.int (b2i z6)), .unset, .unset, .unset, .unset] []))
        refine Go.back (fun t k => X0.ldc2Long hx hown (mvT hZ (hw _ (List.mem_of_getElem? (i := 1) rfl))) (g := (mkF m 28 #[.val (.int p0), .val (.int p1), .val (.int z2), .val (.int (b2i z6)), .unset, .unset, .unset, .unset] [])) rfl (hb hby at_28) t k) ?_
        show Go p.tables e below (P0 Z p0 p1 h0 n0 s) (s₁.setTop (mkF m 31 #[.val (.int p0), .val (.int p1), .val (.int z2), .val (.int (b2i z6)), .unset, .unset, .unset, .unset] [(.long (3 : Int64))]))
        refine Go.back (fun t k => XS.goto X0.here hx rfl (pc0 := 31) (pc' := 37) rfl (hb hby at_31) (by decide) (by decide) k) ?_
        show Go p.tables e below (P0 Z p0 p1 h0 n0 s) (s₁.setTop (mkF m 37 #[.val (.int p0), .val (.int p1), .val (.int z2), .val (.int (b2i z6)), .unset, .unset, .unset, .unset] [(.long (3 : Int64))]))
        exact J9 (3 : Int64) r124.symm
      · have r125 := r123.trans (if_neg hc8)
        refine Go.back (fun t k => XS.ifYes X0.here hx rfl (pc0 := 25) (pc' := 34) rfl (hb hby at_25) rfl ((if0 _ _).trans (teq (b2i_f hc8)).1) (by decide) (by decide) k) ?_
        show Go p.tables e below (P0 Z p0 p1 h0 n0 s) (s₁.setTop (mkF m 34 #[.val (.int p0), .val (.int p1), .val (.int z2), .val (.int (b2i z6)), .unset, .unset, .unset, .unset] []))
        refine Go.back (fun t k => X0.ldc2Long hx hown (mvT hZ (hw _ (List.mem_of_getElem? (i := 44) rfl))) (g := (mkF m 34 #[.val (.int p0), .val (.int p1), .val (.int z2), .val (.int (b2i z6)), .unset, .unset, .unset, .unset] [])) rfl (hb hby at_34) t k) ?_
        show Go p.tables e below (P0 Z p0 p1 h0 n0 s) (s₁.setTop (mkF m 37 #[.val (.int p0), .val (.int p1), .val (.int z2), .val (.int (b2i z6)), .unset, .unset, .unset, .unset] [(.long (4 : Int64))]))
        exact J9 (4 : Int64) r125.symm
    have r126 : (if (p1 &&& (1 : Int32)) = (0 : Int32) then false else true) = (if (p1 &&& (1 : Int32)) = (0 : Int32) then false else true) := rfl
    by_cases hc4 : (p1 &&& (1 : Int32)) = (0 : Int32)
    · have r127 := r126.trans (if_pos hc4)
      refine Go.back (fun t k => XS.ifYes X0.here hx rfl (pc0 := 15) (pc' := 22) rfl (hb hby at_15) rfl ((if0 _ _).trans (teq hc4).1) (by decide) (by decide) k) ?_
      show Go p.tables e below (P0 Z p0 p1 h0 n0 s) (s₁.setTop (mkF m 22 #[.val (.int p0), .val (.int p1), .val (.int z2), .unset, .unset, .unset, .unset, .unset] []))
      refine Go.back (fun t k => XS.iconst X0.here hx rfl (hb hby at_22) k) ?_
      show Go p.tables e below (P0 Z p0 p1 h0 n0 s) (s₁.setTop (mkF m 23 #[.val (.int p0), .val (.int p1), .val (.int z2), .unset, .unset, .unset, .unset, .unset] [(.int (0 : Int32))]))
      exact J5 false r127.symm
    · have r128 := r126.trans (if_neg hc4)
      refine Go.back (fun t k => XS.ifNo X0.here hx rfl (hb hby at_15) rfl ((if0 _ _).trans (feq hc4).1) k) ?_
      show Go p.tables e below (P0 Z p0 p1 h0 n0 s) (s₁.setTop (mkF m 18 #[.val (.int p0), .val (.int p1), .val (.int z2), .unset, .unset, .unset, .unset, .unset] []))
      refine Go.back (fun t k => XS.iconst X0.here hx rfl (hb hby at_18) k) ?_
      show Go p.tables e below (P0 Z p0 p1 h0 n0 s) (s₁.setTop (mkF m 19 #[.val (.int p0), .val (.int p1), .val (.int z2), .unset, .unset, .unset, .unset, .unset] [(.int (1 : Int32))]))
      refine Go.back (fun t k => XS.goto X0.here hx rfl (pc0 := 19) (pc' := 23) rfl (hb hby at_19) (by decide) (by decide) k) ?_
      show Go p.tables e below (P0 Z p0 p1 h0 n0 s) (s₁.setTop (mkF m 23 #[.val (.int p0), .val (.int p1), .val (.int z2), .unset, .unset, .unset, .unset, .unset] [(.int (1 : Int32))]))
      exact J5 true r128.symm
  exact J1 _ rfl
def own_g (r : Int32) (b : Bool) : Bool :=
  let q := r - (85 : Int32)
  let c : Int64 := if b = true then 3 else 4
  let k := f1 q b
  if k < (-26 : Int32) then false else if (26 : Int32) < k then false else if (f2 k c q) = true then (if (f2 (k + (1 : Int32)) c q) = true then false else true) else false
theorem own_core : ∀ (i : Fin 175) (b : Bool), own_g (Int32.ofNat i.val) b = true := by decide +kernel
theorem own_rem (p0 : Int32) : ∃ i : Fin 175, (p0 &&& (2147483647 : Int32)) % (175 : Int32) = Int32.ofNat i.val := by
  have mask : (p0 &&& (2147483647 : Int32)).toInt = p0.toInt % (2 ^ 31 : Nat) := c_mask p0 _ 31 (by decide) (by decide)
  have q := (c_irem (p0 &&& (2147483647 : Int32)) 175 175 rfl).1 (by omega)
  refine ⟨⟨((p0 &&& (2147483647 : Int32)) % (175 : Int32)).toInt.toNat, by omega⟩, ?_⟩
  apply Int32.toInt_inj.mp
  rw [Int32.toInt_ofNat_of_lt (by show _ < 2 ^ 31; simp only; omega)]
  simp only; omega
theorem own_law (p0 p1 : Int32) : f0 p0 p1 = true := by
  obtain ⟨i, hi⟩ := own_rem p0
  have k := own_core i (if (p1 &&& (1 : Int32)) = (0 : Int32) then false else true)
  unfold own_g at k
  unfold f0
  rw [hi]
  exact k
set_option maxRecDepth 65536 in
set_option maxHeartbeats 40000000 in
theorem comes_1 {Post : Tables → Env → Array Value → State → Outcome → State → Prop} (hpost : ∀ tb e args s v u, (limb_1_1.after args s (.returned v) u = true ∧ limb_1_2.after args s (.returned v) u = true ∧ True) → FrameEnd s (.returned v) u (Jvm.fieldLocs frame_1_writes args s ++ Jvm.arrayLocs frame_1_arrays args s ++ Jvm.staticLocs frame_1_statics s) 16 128 → Post tb e args s (.returned v) u) :
    ArmFor flags0 classFile x code maxLocals ret World_1 tables_1 room_1 Calls_1 rest_1 Pre_1 Post := by
  intro l hfl _ _ p e ha hc hk s m args below hf hA hF happ hP
  obtain ⟨hcalls, hrest, hpre⟩ := hP
  obtain ⟨-, -, -, hnamed, -, -, -, hat⟩ := (Spec.applies_iff hf).mp happ
  obtain ⟨hg, hn⟩ := and_e (Cond.before_iff.mp (show (Jvm.Cond.and given_1 narrow_1).before args s = true from hpre))
  obtain ⟨g1, g2⟩ := and_e hg
  obtain ⟨g3, g4⟩ := and_e g2
  obtain ⟨w0, w1, rfl⟩ : ∃ w0 w1 : Value, args = #[w0, w1] := by
    have hs : args.size = 2 := by simpa [Cond.value, given_1] using g1
    obtain ⟨L⟩ := args
    match L, hs with
    | [w0, w1], _ => exact ⟨w0, w1, rfl⟩
  have hw := fun d (hd : d ∈ tables_1) => atoms_spec (ws := Jvm.Cond.code x code maxLocals ret :: tables_1) hat d (List.mem_cons_of_mem _ hd)
  have hfit : Fit s := fun {y c} hc i hi => by
    obtain ⟨ha, rfl⟩ := Array.getElem?_eq_some_iff.mp hc
    have q := List.all_eq_true.mp ((Array.all_eq_true_iff_forall_mem.mp hF) _ (Array.getElem_mem ha)) i (List.mem_range.mpr hi)
    simpa [Array.getElem?_eq_getElem hi] using q
  obtain ⟨i0, ei0⟩ := is_v g3
  obtain rfl : w0 = (.int i0) := Option.some.inj ei0
  obtain ⟨i1, ei1⟩ := is_v g4
  obtain rfl : w1 = (.int i1) := Option.some.inj ei1
  obtain ⟨n, o, h1, h2, h3, v, L, rfl, hQ, hq⟩ := rm0 l s _ hw tables_1 i0 i1 s.heap s.heap.size (Nat.le_refl _) p e ha hc hk s m _ below hf ((Spec.applies_iff_loose hf).mp happ).1 ⟨rfl, State.Warmed39.refl s, rfl⟩ trivial
  have hv : v = some (.int (b2i (f0 i0 i1))) := hQ.1
  rw [own_law i0 i1] at hv
  subst hv
  have N : Fr s.heap.size L := by first | exact hQ.2.1 | exact hQ.2
  refine ⟨n, _, h1, h2, h3, hpost _ _ _ _ _ _ ⟨Cond.after_iff.mpr rfl, Cond.after_iff.mpr (eq_i res_at (Term.int_eval (1)) rfl), trivial⟩ ⟨hq.1, hq.2.1, (hq.2.2.sift fun y hy => Or.inr (N y hy)).mono (by decide) (by decide)⟩⟩
theorem main_1_1 : Claimed_1_1 := comes_1 fun _ _ _ _ _ _ h hF => ⟨h.1, hF⟩
theorem main_1_2 : Claimed_1_2 := comes_1 fun _ _ _ _ _ _ h hF => ⟨h.2.1, hF⟩
end Jvm.Pilot.@@N@@
namespace Jvm.Pilot.@@N@@
open Jvm Jvm.ClassFile Sem Op Lib Jvm.Free Jvm.Stand Jvm.Pilot.@@N@@.Jvm.D
/-! MADE BY PROGRAM (witnessworld.py) out of the Statement's table words and the real class files: 11 classes; the members and pool entries that the words name. The judged class is class 1, her method 1. -/
namespace start1
open Jvm.ClassFile
def u (s : String) : CpInfo := .utf8 (stringToUtf16 s)
/-- a pool by its gaps: so many unusable entries, then the entry; so many at the end -/
def gap : Nat → List CpInfo → List CpInfo
  | 0, r => r
  | n + 1, r => .unusable :: gap n r
def poolList (es : List (Nat × CpInfo)) (last : Nat) : List CpInfo := es.foldr (fun e r => gap e.1 (e.2 :: r)) (gap last [])
def pool (es : List (Nat × CpInfo)) (last : Nat) : Array CpInfo := ⟨poolList es last⟩
def fileOf (pool : Array CpInfo) (this : Nat) (attrs : Array Attribute := #[]) (ms : Array MethodInfo := #[]) (fl : Nat := 33) (sup : Nat := 0) (ifs : Array Nat := #[]) (fds : Array FieldInfo := #[]) : ClassFile where
  minorVersion := 0
  majorVersion := 65
  constantPool := pool
  accessFlags := fl
  thisClass := this
  superClass := sup
  interfaces := ifs
  fields := fds
  methods := ms
  attributes := attrs
def plain (name : String) (sup : Option ClassId) : Class where
  name := name
  kind := .ordinary
  loader := none
  accessFlags := 33
  super := sup
  interfaces := #[]
  cf := none
  fields := #[]
  methods := #[]
  instanceTypes := #[]
  staticTypes := #[]
  resolved := #[]
  callSites := []
  init := .initialized
  statics := none
  mirror := none

def pool0 : Array CpInfo := pool [(5, u "<init>"), (0, u "()V"), (1, .class_ 10), (1, u "java/lang/Object")] 113

def k0m0 : Method := { name := "<init>", desc := "()V", sig := { parameters := [], returnType := none }, accessFlags := 1, code := none }
/-- java/lang/Object -/
def k0 : Class := { plain "java/lang/Object" none with
  accessFlags := 33
  interfaces := #[]
  cf := some (fileOf pool0 8 #[] #[{ accessFlags := 1, nameIndex := 5, descriptorIndex := 6, attributes := #[] }] 33 0 #[] #[])
  fields := #[]
  methods := #[k0m0]
  instanceTypes := #[]
  staticTypes := #[]
  resolved := Array.replicate 124 none
  statics := none }

def pool1 : Array CpInfo := pool [(2, .class_ 4), (1, u "java/lang/Object"), (0, u "<init>"), (0, u "()V"), (0, .integer 2147483647), (0, .long 3), (1, .long 4), (1, .long 5), (1, .long 25), (1, .long 125), (1, .long 625), (1, .long 3125), (1, .long 15625), (1, .long 78125), (1, .long 390625), (1, .long 1953125), (1, .long 9765625), (1, .long 48828125), (1, .long 244140625), (1, .long 1220703125), (1, .long 6103515625), (1, .long 30517578125), (1, .long 152587890625), (1, .long 762939453125), (1, .long 3814697265625), (1, .long 19073486328125), (1, .long 95367431640625), (1, .long 476837158203125), (1, .long 2384185791015625), (1, .long 11920928955078125), (1, .long 59604644775390625), (1, .long 298023223876953125), (1, .long 1490116119384765625), (1, .long 7450580596923828125), (1, .methodref 67 68), (0, .class_ 69), (0, .nameAndType 70 71), (0, u "com/example/spillway/spillway/ShortestDecimal"), (0, u "scale"), (0, u "(IZ)I"), (0, .methodref 73 74), (0, .class_ 75), (0, .nameAndType 76 77), (0, u "com/example/spillway/spillway/ShortestDecimalScalePinLaw"), (0, u "atMost"), (0, u "([JIJI)Z"), (0, .methodref 73 79), (0, .nameAndType 80 81), (0, u "ge"), (0, u "(JIJ)Z"), (0, .long 9223372036854775807), (3, u "law"), (0, u "(II)Z")] 5

def k1m0 : Method := { name := "<init>", desc := "()V", sig := { parameters := [], returnType := none }, accessFlags := 2, code := none }
def k1c1 : Code := { maxStack := 5, maxLocals := 8, code := code, exceptionTable := #[], attributes := #[] }
def k1m1 : Method := { name := "law", desc := "(II)Z", sig := { parameters := [.int, .int], returnType := some .boolean }, accessFlags := 9, code := some k1c1 }
def k1c2 : Code := { maxStack := 5, maxLocals := 6, code := method_3_code, exceptionTable := #[], attributes := #[] }
def k1m2 : Method := { name := "atMost", desc := "([JIJI)Z", sig := { parameters := [(.array .long), .int, .long, .int], returnType := some .boolean }, accessFlags := 10, code := some k1c2 }
def k1c3 : Code := { maxStack := 5, maxLocals := 8, code := method_4_code, exceptionTable := #[], attributes := #[] }
def k1m3 : Method := { name := "ge", desc := "(JIJ)Z", sig := { parameters := [.long, .int, .long], returnType := some .boolean }, accessFlags := 10, code := some k1c3 }
/-- com/example/spillway/spillway/ShortestDecimalScalePinLaw -/
def k1 : Class := { plain "com/example/spillway/spillway/ShortestDecimalScalePinLaw" (some 0) with
  accessFlags := 49
  interfaces := #[]
  cf := some (fileOf pool1 73 #[] #[{ accessFlags := 2, nameIndex := 5, descriptorIndex := 6, attributes := #[] }, { accessFlags := 9, nameIndex := 86, descriptorIndex := 87, attributes := #[] }, { accessFlags := 10, nameIndex := 76, descriptorIndex := 77, attributes := #[] }, { accessFlags := 10, nameIndex := 80, descriptorIndex := 81, attributes := #[] }] 49 2 #[] #[])
  fields := #[]
  methods := #[k1m0, k1m1, k1m2, k1m3]
  instanceTypes := #[]
  staticTypes := #[]
  resolved := Array.replicate 93 none
  statics := none }

def pool2 : Array CpInfo := pool [(2, .class_ 4), (1, u "java/lang/Object"), (0, u "<init>"), (0, u "()V"), (26, .class_ 35), (1, u "com/example/spillway/spillway/ShortestDecimal"), (26, u "scale"), (0, u "(IZ)I"), (12, .integer 315653), (0, .integer 4294836288), (5, .class_ 85), (1, u "com/example/spillway/spillway/ShortestDecimal$Power"), (1, u "I"), (31, u "POWERS"), (0, u "[Lcom/example/spillway/spillway/ShortestDecimal$Power;"), (49, u "K_MIN"), (2, u "K_MAX"), (1, u "LOG10_2"), (0, u "LOG10_3_4")] 10

def k2m0 : Method := { name := "<init>", desc := "()V", sig := { parameters := [], returnType := none }, accessFlags := 2, code := none }
def k2c1 : Code := { maxStack := 2, maxLocals := 2, code := prog_11_method_5_code, exceptionTable := #[], attributes := #[] }
def k2m1 : Method := { name := "scale", desc := "(IZ)I", sig := { parameters := [.int, .boolean], returnType := some .int }, accessFlags := 8, code := some k2c1 }
/-- com/example/spillway/spillway/ShortestDecimal -/
def k2 : Class := { plain "com/example/spillway/spillway/ShortestDecimal" (some 0) with
  accessFlags := 48
  interfaces := #[]
  cf := some (fileOf pool2 33 #[.nestMembers #[83]] #[{ accessFlags := 2, nameIndex := 5, descriptorIndex := 6, attributes := #[] }, { accessFlags := 8, nameIndex := 62, descriptorIndex := 63, attributes := #[] }] 48 2 #[] #[{ accessFlags := 26, nameIndex := 170, descriptorIndex := 87, attributes := #[] }, { accessFlags := 26, nameIndex := 173, descriptorIndex := 87, attributes := #[] }, { accessFlags := 26, nameIndex := 175, descriptorIndex := 87, attributes := #[] }, { accessFlags := 26, nameIndex := 176, descriptorIndex := 87, attributes := #[] }, { accessFlags := 26, nameIndex := 119, descriptorIndex := 120, attributes := #[] }])
  fields := #[{ name := "K_MIN", type := .int, accessFlags := 26, slot := 0, constantValue := 0 }, { name := "K_MAX", type := .int, accessFlags := 26, slot := 1, constantValue := 0 }, { name := "LOG10_2", type := .int, accessFlags := 26, slot := 2, constantValue := 0 }, { name := "LOG10_3_4", type := .int, accessFlags := 26, slot := 3, constantValue := 0 }, { name := "POWERS", type := (.array (.object "com/example/spillway/spillway/ShortestDecimal$Power")), accessFlags := 26, slot := 4, constantValue := 0 }]
  methods := #[k2m0, k2m1]
  instanceTypes := #[]
  staticTypes := #[.int, .int, .int, .int, (.array (.object "com/example/spillway/spillway/ShortestDecimal$Power"))]
  resolved := Array.replicate 187 none
  statics := none }

def pool3 : Array CpInfo := pool [(1, u "java/lang/Cloneable"), (0, .class_ 1), (0, u "java/lang/Object"), (0, .class_ 3)] 3

/-- java/lang/Cloneable -/
def k3 : Class := { plain "java/lang/Cloneable" (some 0) with
  accessFlags := 1537
  interfaces := #[]
  cf := some (fileOf pool3 2 #[] #[] 1537 4 #[] #[])
  fields := #[]
  methods := #[]
  instanceTypes := #[]
  staticTypes := #[]
  resolved := Array.replicate 8 none
  statics := none }

def pool4 : Array CpInfo := pool [(1, u "java/io/Serializable"), (0, .class_ 1), (0, u "java/lang/Object"), (0, .class_ 3)] 3

/-- java/io/Serializable -/
def k4 : Class := { plain "java/io/Serializable" (some 0) with
  accessFlags := 1537
  interfaces := #[]
  cf := some (fileOf pool4 2 #[] #[] 1537 4 #[] #[])
  fields := #[]
  methods := #[]
  instanceTypes := #[]
  staticTypes := #[]
  resolved := Array.replicate 8 none
  statics := none }

/-- the primitive byte -/
def k5 : Class := { plain "byte" none with kind := .primitive 'B', accessFlags := 0x411 }
/-- [B -/
def k6 : Class := { plain "[B" (some 0) with kind := .array 5 .byte, interfaces := #[3, 4], accessFlags := 1041 }

/-- the primitive int -/
def k7 : Class := { plain "int" none with kind := .primitive 'I', accessFlags := 0x411 }
/-- [I -/
def k8 : Class := { plain "[I" (some 0) with kind := .array 7 .int, interfaces := #[3, 4], accessFlags := 1041 }

/-- the primitive long -/
def k9 : Class := { plain "long" none with kind := .primitive 'J', accessFlags := 0x411 }
/-- [J -/
def k10 : Class := { plain "[J" (some 0) with kind := .array 9 .long, interfaces := #[3, 4], accessFlags := 1041 }

def heap : Heap := #[]
def classes : Array Class := #[k0, k1, k2, k3, k4, k5, k6, k7, k8, k9, k10]
def interned : List (Array UInt16 × Addr) := []
def slotsUsed : Nat := 0
def theMethod : MethodId := ⟨1, 1⟩
def args0 : Array Value := #[.int 5, .int 7]
def aboutOver (below : List Frame) : State where
  vm := { classes := classes, interned := interned.toArray }
  heap := heap
  slotsUsed := slotsUsed
  threads := #[{ frames := .invoking theMethod args0 :: below }]
def below0 : List Frame := [.native { method := ⟨0, 0⟩, args := #[] }]
def about1 : State := aboutOver below0
def p0 : Program := .bare "" "" ""
def e0 : Env := launch0.env 0 0 0
theorem w_frames : about1.frames = Frame.invoking theMethod args0 :: below0 := rfl
set_option maxRecDepth 65536 in
theorem w_args : argsFit about1.vm theMethod args0 = true := by decide +kernel
set_option maxRecDepth 65536 in
theorem w_heap : heapFits about1 = true := by decide +kernel
set_option maxRecDepth 65536 in
theorem w_runnable : about1.curStatus? = some .runnable := by decide +kernel
set_option maxRecDepth 65536 in
theorem w_alone : about1.alone = true := by decide +kernel
set_option maxRecDepth 65536 in
theorem w_named : about1.methodNamed? x = some theMethod := by decide +kernel
set_option maxRecDepth 65536 in
theorem w_hears : about1.hears theMethod below0 = true := by decide +kernel
set_option maxRecDepth 65536 in
theorem w_ripe : about1.ripe theMethod args0 below0 = true := by decide +kernel
theorem w_running : about1.status = .running := rfl
set_option maxRecDepth 65536 in
theorem w_room : about1.hasRoom e0.platform room_1 = true :=
  launch0.hasRoom_least _ room_1 (by decide +kernel) (by decide +kernel) (by decide +kernel) (by decide +kernel) (by decide +kernel) (by decide +kernel)
theorem allAtoms_all (ts : List Jvm.Cond) (a : Array Jvm.Value) (st : Jvm.State) : (allAtoms ts).before a st = ts.all (fun c => c.before a st) := by
  induction ts with
  | nil => rfl
  | cons c t ih =>
    show (Jvm.Cond.and c (allAtoms t)).before a st = _
    rw [Jvm.Cond.before_and, ih, List.all_cons]
def words1 : List Jvm.Cond := Jvm.Cond.code x code maxLocals ret :: tables_1
/-- a 'code' word, met by the world's own term for the bytes: nothing is compared byte by byte -/
theorem code_word {y : MethodName} {bytes : ByteArray} {mx : Nat} {rt : Option FieldType} {a : Array Value} {s : State} {m : MethodId} {meth : Method} {c : Code} (h1 : s.methodNamed? y = some m) (h2 : s.vm.method? m = some meth) (h3 : meth.code = some c) (h4 : c.code = bytes)
    (h5 : (c.maxLocals == mx && c.exceptionTable.isEmpty && decide (c.maxStack ≤ mostOperands) && decide (meth.sig.returnType = rt) && !meth.locks && decide (parseMethodDescriptor y.desc = some meth.sig)) = true) : (Jvm.Cond.code y bytes mx rt).before a s = true := by
  simp only [Bool.and_eq_true, beq_iff_eq, Bool.not_eq_true', decide_eq_true_eq] at h5
  obtain ⟨⟨⟨⟨⟨g1, g2⟩, g3⟩, g4⟩, g5⟩, g6⟩ := h5
  simp [Cond.before, Cond.holds, Cond.value, h1, h2, h3, h4, g1, g2, g3, g4, g5, g6]
def isCode : Jvm.Cond → Bool
  | .code _ _ _ _ => true
  | _ => false
theorem all_split {L : List Jvm.Cond} {P : Jvm.Cond → Bool} (h1 : L.all (fun c => isCode c || P c) = true) (h2 : ∀ c ∈ L.filter isCode, P c = true) : L.all P = true := by
  refine List.all_eq_true.mpr fun c hc => ?_
  have h := List.all_eq_true.mp h1 c hc
  rcases Bool.eq_false_or_eq_true (isCode c) with hi | hi
  · exact h2 c (List.mem_filter.mpr ⟨hc, hi⟩)
  · simpa [hi] using h
set_option maxRecDepth 65536 in
theorem w_c0 : (Jvm.Cond.code x code maxLocals ret).before args0 about1 = true := code_word (m := ⟨1, 1⟩) (meth := k1m1) (c := k1c1) (by decide +kernel) rfl rfl rfl (by decide +kernel)
set_option maxRecDepth 65536 in
theorem w_c1 : (Jvm.Cond.code ({ cls := "com/example/spillway/spillway/ShortestDecimal", name := "scale", desc := "(IZ)I" } : Jvm.MethodName) prog_11_method_5_code (2 : Nat) (Option.some Jvm.ClassFile.FieldType.int)).before args0 about1 = true := code_word (m := ⟨2, 1⟩) (meth := k2m1) (c := k2c1) (by decide +kernel) rfl rfl rfl (by decide +kernel)
set_option maxRecDepth 65536 in
theorem w_c2 : (Jvm.Cond.code ({ cls := "com/example/spillway/spillway/ShortestDecimalScalePinLaw", name := "atMost", desc := "([JIJI)Z" } : Jvm.MethodName) method_3_code (6 : Nat) (Option.some Jvm.ClassFile.FieldType.boolean)).before args0 about1 = true := code_word (m := ⟨1, 2⟩) (meth := k1m2) (c := k1c2) (by decide +kernel) rfl rfl rfl (by decide +kernel)
set_option maxRecDepth 65536 in
theorem w_c3 : (Jvm.Cond.code ({ cls := "com/example/spillway/spillway/ShortestDecimalScalePinLaw", name := "ge", desc := "(JIJ)Z" } : Jvm.MethodName) method_4_code (8 : Nat) (Option.some Jvm.ClassFile.FieldType.boolean)).before args0 about1 = true := code_word (m := ⟨1, 3⟩) (meth := k1m3) (c := k1c3) (by decide +kernel) rfl rfl rfl (by decide +kernel)
def codes1 : List Jvm.Cond := [Jvm.Cond.code x code maxLocals ret, Jvm.Cond.code ({ cls := "com/example/spillway/spillway/ShortestDecimal", name := "scale", desc := "(IZ)I" } : Jvm.MethodName) prog_11_method_5_code (2 : Nat) (Option.some Jvm.ClassFile.FieldType.int), Jvm.Cond.code ({ cls := "com/example/spillway/spillway/ShortestDecimalScalePinLaw", name := "atMost", desc := "([JIJI)Z" } : Jvm.MethodName) method_3_code (6 : Nat) (Option.some Jvm.ClassFile.FieldType.boolean), Jvm.Cond.code ({ cls := "com/example/spillway/spillway/ShortestDecimalScalePinLaw", name := "ge", desc := "(JIJ)Z" } : Jvm.MethodName) method_4_code (8 : Nat) (Option.some Jvm.ClassFile.FieldType.boolean)]
set_option maxRecDepth 65536 in
theorem codes_eq : words1.filter isCode = codes1 := rfl
theorem w_codes : ∀ c ∈ words1.filter isCode, c.before args0 about1 = true := by
  rw [codes_eq]
  intro c hc
  simp only [codes1, List.mem_cons, List.not_mem_nil, or_false] at hc
  rcases hc with rfl | rfl | rfl | rfl
  · exact w_c0
  · exact w_c1
  · exact w_c2
  · exact w_c3
set_option maxRecDepth 65536 in
theorem w_t1 : (words1.take 24).all (fun c => isCode c || c.before args0 about1) = true := by decide +kernel
set_option maxRecDepth 65536 in
theorem w_t2 : (words1.drop 24).all (fun c => isCode c || c.before args0 about1) = true := by decide +kernel
theorem w_tables : (allAtoms (Jvm.Cond.code x code maxLocals ret :: tables_1)).before args0 about1 = true := by
  rw [allAtoms_all]
  show words1.all (fun c => c.before args0 about1) = true
  refine all_split ?_ w_codes
  rw [← List.take_append_drop 24 words1, List.all_append, w_t1, w_t2]
  rfl
set_option maxRecDepth 65536 in
theorem w_case : (Jvm.Cond.and given_1 narrow_1).before args0 about1 = true := by decide +kernel
theorem w_applies : (headSpec (Jvm.Cond.code x code maxLocals ret :: tables_1) room_1).applies x e0.platform about1 = true :=
  (Spec.applies_iff w_frames).mpr ⟨w_running, w_runnable, w_alone, w_named, w_hears, w_ripe, w_room, w_tables⟩
theorem atStart : AtStart classFile x code maxLocals ret World_1 tables_1 room_1 Calls_1 rest_1 Pre_1 launch0 p0 e0 about1 theMethod args0 below0 :=
  ⟨lists_1, trivial, launch0.admits_env _ _ _, launch0.least_env, fairChoices_fair.cas, fairChoices_fair.clock, w_frames, w_args, w_heap, w_applies, trivial, trivial, w_case⟩
end start1
theorem witness_1 : WitnessClaimed_1 := ⟨start1.p0, start1.e0, start1.about1, start1.theMethod, start1.args0, start1.below0, start1.atStart⟩
end Jvm.Pilot.@@N@@
