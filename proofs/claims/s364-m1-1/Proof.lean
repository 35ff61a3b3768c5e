import JvmDerived
import JvmDerived.Pilot.@@N@@Statement
import JvmDerived.Pilot.@@N@@Code
set_option linter.unusedVariables false
set_option linter.unusedSimpArgs false
namespace Jvm.RoadKit
open Sem ClassFile Op Lib Jvm.Stand Jvm.Free Jvm.LawKit
section OwnKit
variable {p : Program} {l : Launch} {e : Env} {R : Room} {s : State} {m : MethodId} {args : Array Value} {below : List Frame} {meth : Method} {c : Code} {T : State} {locs : List Loc} {cells slots : Nat}
/-- a boolean as the machine's int -/
def b2i (b : Bool) : Int32 := bif b then 1 else 0
theorem b2i_t {b : Bool} (h : b = true) : ¬ b2i b = 0 := by subst h; decide
theorem b2i_f {b : Bool} (h : ¬ b = true) : b2i b = 0 := by cases b <;> first | rfl | exact absurd rfl h
theorem b2i_inj {a b : Bool} (h : b2i a = b2i b) : a = b := by cases a <;> cases b <;> first | rfl | exact absurd h (by decide)
theorem nar_b2i (b : Bool) : nar .boolean (b2i b) = b2i b := by cases b <;> decide
/-- from the state U the walk comes to an end that P holds of -/
def Go (tb : Tables) (e : Env) (below : List Frame) (P : Outcome → State → Prop) (U : State) : Prop := ∃ s₂ o, Steps tb e below U s₂ ∧ s₂.status = .running ∧ Ended s₂ below o ∧ P o s₂
theorem Go.back {tb : Tables} {P : Outcome → State → Prop} {U V : State} (h : ∀ t, Steps tb e below V t → Steps tb e below U t) (k : Go tb e below P V) : Go tb e below P U := by
  obtain ⟨s2, o, h1, h2⟩ := k
  exact ⟨s2, o, h _ h1, h2⟩
theorem Go.trans {tb : Tables} {P : Outcome → State → Prop} {U V : State} (h : Steps tb e below U V) (k : Go tb e below P V) : Go tb e below P U := by
  obtain ⟨s2, o, h1, h2⟩ := k
  exact ⟨s2, o, Steps.trans h h1, h2⟩
abbrev Fin (s : State) (Q : Option Value → Heap → List Loc → Prop) (K S : Nat) : Outcome → State → Prop := fun o U' => ∃ v L, o = .returned v ∧ Q v U'.heap L ∧ FrameEnd s o U' L K S
theorem retI0 (X : Stand p l e R s m args below meth c T locs cells slots) (hx : p.tables.exec = Jvm.exec) {pc : Nat} {Ls : Array Slot} {z : Int32} {rest : List Value} (hret : meth.sig.returnType = some .int) (hd : decode c.code pc = .ok (.ireturn, 1)) {fs : List Frame}
    (hl : ∀ (f : JFrame) (acts : List Action), f.method = m → f.locked = none → f.entered = [] → (doReturn e (T.setTop f) acts (some (.int z))).1 = T.setFrames fs) : Steps p.tables e below (T.setTop (mkF m pc Ls (.int z :: rest))) (T.setFrames fs) := by
  have hm' : T.vm.method? m = some meth := X.method'
  have hn : narrow .int (.int z) = .int z := rfl
  show Steps p.tables e below (T.setTop { method := m, pc := pc, locals := Ls, stack := _ :: rest, locked := none }) _
  jvm_step X.here [X.here.top, hx, hd, hm', hret, hn]
  first | (intro acts; rw [hl _ acts rfl rfl rfl]) | rw [hl _ _ rfl rfl rfl]
  exact Steps.refl _
theorem Go.retI (X : Stand p l e R s m args below meth c T locs cells slots) (hx : p.tables.exec = Jvm.exec) {pc : Nat} {Ls : Array Slot} {z : Int32} {rest : List Value} (hret : meth.sig.returnType = some .int) (hd : decode c.code pc = .ok (.ireturn, 1)) (hlk : meth.locks = false) {Q : Option Value → Heap → List Loc → Prop} {K S : Nat} (hQ : Q (some (.int z)) T.heap locs) (hc : cells ≤ K) (hs : slots ≤ S) :
    Go p.tables e below (Fin s Q K S) (T.setTop (mkF m pc Ls (.int z :: rest))) := by
  obtain ⟨fs, hr, hrun, hended, hW, hsame⟩ := X.leave (v := some (.int z)) (fun h => by rw [hret] at h; cases h) hlk
  exact ⟨_, _, retI0 X hx hret hd hr, hrun, hended, _, _, rfl, hQ, ⟨_, rfl⟩, hW, hsame.mono hc hs⟩
theorem Go.retN (X : Stand p l e R s m args below meth c T locs cells slots) (hx : p.tables.exec = Jvm.exec) {pc : Nat} {Ls : Array Slot} {z : Int32} {rest : List Value} {t : FieldType} (hret : meth.sig.returnType = some t) (ht : t = .boolean ∨ t = .byte ∨ t = .char ∨ t = .short) (hd : decode c.code pc = .ok (.ireturn, 1)) (hlk : meth.locks = false) {Q : Option Value → Heap → List Loc → Prop} {K S : Nat} (hQ : Q (some (.int (nar t z))) T.heap locs) (hc : cells ≤ K) (hs : slots ≤ S) :
    Go p.tables e below (Fin s Q K S) (T.setTop (mkF m pc Ls (.int z :: rest))) := by
  obtain ⟨fs, hr, hrun, hended, hW, hsame⟩ := X.leave (v := some (.int (nar t z))) (fun h => by rw [hret] at h; cases h) hlk
  exact ⟨_, _, Jvm.RoadKit.retN X hx hret ht hd hr, hrun, hended, _, _, rfl, hQ, ⟨_, rfl⟩, hW, hsame.mono hc hs⟩
theorem Go.retB (X : Stand p l e R s m args below meth c T locs cells slots) (hx : p.tables.exec = Jvm.exec) {pc : Nat} {Ls : Array Slot} {b : Bool} {rest : List Value} (hret : meth.sig.returnType = some .boolean) (hd : decode c.code pc = .ok (.ireturn, 1)) (hlk : meth.locks = false) {Q : Option Value → Heap → List Loc → Prop} {K S : Nat} (hQ : Q (some (.int (b2i b))) T.heap locs) (hc : cells ≤ K) (hs : slots ≤ S) :
    Go p.tables e below (Fin s Q K S) (T.setTop (mkF m pc Ls (.int (b2i b) :: rest))) := Go.retN X hx hret (Or.inl rfl) hd hlk (by rw [nar_b2i]; exact hQ) hc hs
theorem Go.retJ (X : Stand p l e R s m args below meth c T locs cells slots) (hx : p.tables.exec = Jvm.exec) {pc : Nat} {Ls : Array Slot} {z : Int64} (hret : meth.sig.returnType = some .long) (hd : decode c.code pc = .ok (.lreturn, 1)) (hlk : meth.locks = false) {Q : Option Value → Heap → List Loc → Prop} {K S : Nat} (hQ : Q (some (.long z)) T.heap locs) (hc : cells ≤ K) (hs : slots ≤ S) :
    Go p.tables e below (Fin s Q K S) (T.setTop (mkF m pc Ls [.long z])) := by
  obtain ⟨fs, hr, hrun, hended, hW, hsame⟩ := X.leave (v := some (.long z)) (fun h => by rw [hret] at h; cases h) hlk
  exact ⟨_, _, X.lreturnOut hx hret hd hr, hrun, hended, _, _, rfl, hQ, ⟨_, rfl⟩, hW, hsame.mono hc hs⟩
theorem Go.retR (X : Stand p l e R s m args below meth c T locs cells slots) (hx : p.tables.exec = Jvm.exec) {pc : Nat} {Ls : Array Slot} {a : Addr} {t : FieldType} (hret : meth.sig.returnType = some t) (ht : t.isReference = true) (hd : decode c.code pc = .ok (.areturn, 1)) (hlk : meth.locks = false) {Q : Option Value → Heap → List Loc → Prop} {K S : Nat} (hQ : Q (some (.ref a)) T.heap locs) (hc : cells ≤ K) (hs : slots ≤ S) :
    Go p.tables e below (Fin s Q K S) (T.setTop (mkF m pc Ls [.ref a])) := by
  obtain ⟨fs, hr, hrun, hended, hW, hsame⟩ := X.leave (v := some (.ref a)) (fun h => by rw [hret] at h; cases h) hlk
  exact ⟨_, _, X.areturnOut hx rfl hret ht hd hr, hrun, hended, _, _, rfl, hQ, ⟨_, rfl⟩, hW, hsame.mono hc hs⟩
theorem Go.retV (X : Stand p l e R s m args below meth c T locs cells slots) (hx : p.tables.exec = Jvm.exec) {pc : Nat} {Ls : Array Slot} (hret : meth.sig.returnType = none) (hd : decode c.code pc = .ok (.return_, 1)) (hlk : meth.locks = false) {Q : Option Value → Heap → List Loc → Prop} {K S : Nat} (hQ : Q none T.heap locs) (hc : cells ≤ K) (hs : slots ≤ S) :
    Go p.tables e below (Fin s Q K S) (T.setTop (mkF m pc Ls [])) := by
  obtain ⟨fs, hr, hrun, hended, hW, hsame⟩ := X.leave (v := none) (fun _ => rfl) hlk
  exact ⟨_, _, X.returnOut hx hret hd hr, hrun, hended, _, _, rfl, hQ, ⟨_, rfl⟩, hW, hsame.mono hc hs⟩
theorem lremM {g : JFrame} {target : State} (X : Stand p l e R s m args below meth c T locs cells slots) (hx : p.tables.exec = Jvm.exec) (hg : g.method = m) {x y : Int64} {rest : List Value} (hd : decode c.code g.pc = .ok (.lrem, 1)) (hs : g.stack = .long y :: .long x :: rest) (hy : y ≠ 0)
    (hr : Steps p.tables e below (T.setTop { g with pc := g.pc + 1, stack := .long (x % y) :: rest }) target) : Steps p.tables e below (T.setTop g) target :=
  XS.lrem X.here hx hg hd hs hy (by rw [lrem_mod x y]; exact hr)
theorem storeS_i {ls l' : Array Slot} {k : Nat} {o : Slot} {x : Int32} (hold : ls[k]? = some o) (h : One o) (q : ls.setIfInBounds k (.val (.int x)) = l') : storeLocals ls k (.int x) = some l' := by
  rw [XS.store1 hold h rfl, q]
theorem storeS_a {ls l' : Array Slot} {k : Nat} {o : Slot} {a : Addr} (hold : ls[k]? = some o) (h : One o) (q : ls.setIfInBounds k (.val (.ref a)) = l') : storeLocals ls k (.ref a) = some l' := by
  rw [XS.store1 hold h rfl, q]
end OwnKit
section OwnArr
variable {p : Program} {l : Launch} {e : Env} {R : Room} {s : State} {m : MethodId} {args : Array Value} {below : List Frame} {meth : Method} {c : Code} {T : State} {locs : List Loc} {cells slots : Nat} {Z : State} {h h' : Heap} {a b : Addr} {ty : FieldType} {vs : List Value} {v : Value} {sl : Nat} {ws : List Addr}
/-- the array at a, of the kind ty, holds just this list -/
def ArL (Z : State) (h : Heap) (a : Addr) (ty : FieldType) (vs : List Value) : Prop := ∃ c : Cell, Arr Z h a c ty ∧ c.slots.toList = vs
theorem ArL.lt (F : ArL Z h a ty vs) : a < h.size := by obtain ⟨c, A, -⟩ := F; exact A.lt
theorem ArL.ext (F : ArL Z h a ty vs) (E : Ext h h') : ArL Z h' a ty vs := by obtain ⟨c, A, r⟩ := F; exact ⟨c, A.ext E, r⟩
theorem ArL.other (F : ArL Z h b ty vs) (W : Wr h h' a sl v) (q : b ≠ a) : ArL Z h' b ty vs := by obtain ⟨c, A, r⟩ := F; exact ⟨c, A.other W q, r⟩
theorem ArL.keep (F : ArL Z h a ty vs) (K : Keep h h' ws) (q : a ∉ ws) : ArL Z h' a ty vs := by obtain ⟨c, A, r⟩ := F; exact ⟨c, ⟨K.2.1 a c A.1 q, A.2⟩, r⟩
theorem ArL.new {k : ClassId} {z : Int32} (A : Arr Z h a (newA k ty z) ty) {n : Nat} (q : z.toNatClampNeg = n) : ArL Z h a ty (List.replicate n (defaultValue ty)) := ⟨_, A, by subst q; simp [newA]⟩
theorem ArL.set (F : ArL Z h a ty vs) (W : Wr h h' a sl v) : ArL Z h' a ty (vs.set sl v) := by
  obtain ⟨c, A, r⟩ := F
  exact ⟨_, A.same W, by subst r; simp [Cell.setSlot]⟩
/-- a place of it: what a load and a store ask -/
theorem ArL.at (F : ArL Z h a ty vs) {j : Int32} (h0 : ¬ j < 0) (hj : j.toNatClampNeg < vs.length) : ∃ c : Cell, Arr Z h a c ty ∧ ¬ (j < 0 ∨ c.slots.size ≤ j.toNatClampNeg) ∧ c.slots[j.toNatClampNeg]? = some (vs[j.toNatClampNeg]'hj) := by
  obtain ⟨c, A, rfl⟩ := F
  have q : j.toNatClampNeg < c.slots.size := by simpa using hj
  refine ⟨c, A, fun z => z.elim h0 (fun y => absurd q (Nat.not_lt.mpr y)), ?_⟩
  rw [Array.getElem?_eq_getElem q]
  simp
theorem ArL.get (F : ArL Z h a ty vs) {j : Int32} (h0 : ¬ j < 0) (hv : vs[j.toNatClampNeg]? = some v) : ∃ c : Cell, Arr Z h a c ty ∧ ¬ (j < 0 ∨ c.slots.size ≤ j.toNatClampNeg) ∧ c.slots[j.toNatClampNeg]? = some v := by
  obtain ⟨hj, rfl⟩ := List.getElem?_eq_some_iff.mp hv
  exact F.at h0 hj
theorem ArL.setI {xs : List Int32} {x : Int32} {i : Nat} (F : ArL Z h a ty (List.map Value.int xs)) (W : Wr h h' a i (.int x)) : ArL Z h' a ty (List.map Value.int (xs.set i x)) := by
  rw [List.map_set]; exact F.set W
theorem ArL.setJ {xs : List Int64} {x : Int64} {i : Nat} (F : ArL Z h a ty (List.map Value.long xs)) (W : Wr h h' a i (.long x)) : ArL Z h' a ty (List.map Value.long (xs.set i x)) := by
  rw [List.map_set]; exact F.set W
theorem ArL.newI {k : ClassId} {z : Int32} (A : Arr Z h a (newA k ty z) ty) {n : Nat} (q : z.toNatClampNeg = n) (hd : defaultValue ty = .int 0 := by rfl) : ArL Z h a ty (List.map Value.int (List.replicate n (0 : Int32))) := by
  rw [List.map_replicate, ← hd]; exact ArL.new A q
theorem ArL.newJ {k : ClassId} {z : Int32} (A : Arr Z h a (newA k ty z) ty) {n : Nat} (q : z.toNatClampNeg = n) (hd : defaultValue ty = .long 0 := by rfl) : ArL Z h a ty (List.map Value.long (List.replicate n (0 : Int64))) := by
  rw [List.map_replicate, ← hd]; exact ArL.new A q
theorem getI (xs : List Int32) {i : Nat} (q : i < xs.length) : (List.map Value.int xs)[i]? = some (.int (xs.getD i 0)) := by
  rw [List.getElem?_map, List.getD_eq_getElem?_getD, List.getElem?_eq_getElem q]; rfl
theorem getJ (xs : List Int64) {i : Nat} (q : i < xs.length) : (List.map Value.long xs)[i]? = some (.long (xs.getD i 0)) := by
  rw [List.getElem?_map, List.getD_eq_getElem?_getD, List.getElem?_eq_getElem q]; rfl
theorem ArL.len (F : ArL Z h a ty vs) : ∃ c : Cell, Arr Z h a c ty ∧ c.slots.size = vs.length := by
  obtain ⟨c, A, rfl⟩ := F
  exact ⟨c, A, by simp⟩
end OwnArr
end Jvm.RoadKit
namespace Jvm.Pilot.@@N@@
open Jvm Jvm.ClassFile Sem Op Lib Jvm.Free Jvm.Stand Jvm.LawKit Jvm.RoadKit Bundle Jvm.Pilot.@@N@@.Jvm.D
theorem pd_0 : parseMethodDescriptor "(J)V" = some ⟨[.long], none⟩ := by decide +kernel
theorem pd_1 : parseMethodDescriptor "()J" = some ⟨[], some .long⟩ := by decide +kernel
theorem d1_0 : decode prog_33_method_1_code 0 = .ok (.aload_n 0, 1) := by decide +kernel
theorem d1_1 : decode prog_33_method_1_code 1 = .ok (.invokespecial 5, 3) := by decide +kernel
theorem d1_4 : decode prog_33_method_1_code 4 = .ok (.aload_n 0, 1) := by decide +kernel
theorem d1_5 : decode prog_33_method_1_code 5 = .ok (.lload_n 1, 1) := by decide +kernel
theorem d1_6 : decode prog_33_method_1_code 6 = .ok (.putfield 11, 3) := by decide +kernel
theorem d1_9 : decode prog_33_method_1_code 9 = .ok (.return_, 1) := by decide +kernel
def Q1 (Z : State) (p0 : Addr) (p1 : Int64) (h0 : Heap) (n0 : Nat) (v : Option Value) (h : Heap) (L : List Loc) : Prop := v = none ∧ Fr n0 L ∧ Keep h0 h [p0] ∧ Exa Z h p0 "org/trentasette/Spinner" ∧ Fld Z h p0 "org/trentasette/Spinner" "state" "J" (.long p1)
abbrev rmm1 : Room := { frames := 1, cells := 0, slots := 0, locals := 12 }
abbrev P1 (Z : State) (p0 : Addr) (p1 : Int64) (h0 : Heap) (n0 : Nat) (s : State) : Outcome → State → Prop := fun o U' => ∃ v L, o = .returned v ∧ Q1 Z p0 p1 h0 n0 v U'.heap L ∧ FrameEnd s o U' L rmm1.cells rmm1.slots
theorem pn_1 : plainName "org/trentasette/Spinner" = true := by first | (simp [plainName, overriddenIn]; done) | decide +kernel
theorem ef_1 (m : MethodId) (p0 : Addr) (p1 : Int64) : entryFrame m #[(.ref p0), (.long p1)] 3 = mkF m 0 #[.val (.ref p0), .val (.long p1), .second] [] := by first | (simp [entryFrame, mkF, argsToLocals, Value.category]; done) | rfl
set_option maxRecDepth 65536 in
set_option maxHeartbeats 40000000 in
theorem rm1 (l : Launch) (Z : State) (a0 : Array Value) (hw : ∀ d ∈ tables_1, d.before a0 Z = true) (ws : List Jvm.Cond) (p0 : Addr) (p1 : Int64) (h0 : Heap) (n0 : Nat) (Z0 : n0 ≤ h0.size) (H0 : Exa Z h0 p0 "org/trentasette/Spinner") (H1 : Fld Z h0 p0 "org/trentasette/Spinner" "state" "J" (.long (0 : Int64))) (H2 : n0 ≤ p0) :
    MetFree l (⟨"org/trentasette/Spinner", "<init>", "(J)V"⟩ : MethodName) (head1 (Jvm.Cond.code (⟨"org/trentasette/Spinner", "<init>", "(J)V"⟩ : MethodName) prog_33_method_1_code 3 none :: ws) rmm1) (fun a U => a = #[(.ref p0), (.long p1)] ∧ Z.Warmed39 U.vm ∧ U.heap = h0) (fun _ _ _ _ _ => True) (fun _ U o U' => ∃ v L, o = .returned v ∧ Q1 Z p0 p1 h0 n0 v U'.heap L ∧ FrameEnd U o U' L rmm1.cells rmm1.slots) := by
  refine MetFree.of_bodySF (plainFor_of_name pn_1) hisR ?_
  intro p e s m args below meth c s₁ Bd hml0 hP hK
  obtain ⟨rfl, hZ, hh⟩ := hP
  have hx := Bd.exec
  have hby := Bd.bytes
  have hml : c.maxLocals = 3 := hml0
  have hown : s.vm.findClass "org/trentasette/Spinner" = some m.cls := findClass_of_methodNamed Bd.named
  have hnm := (name_of_methodNamed Bd.named Bd.method).1
  have X0 : Stand p l e rmm1 s m #[(.ref p0), (.long p1)] below meth c s₁ [] 0 0 := Stand.of_body Bd
  have e0 : s₁.heap = h0 := by rw [← hh, Bd.state]; rfl
  have N0 := Fr.nil n0
  show Go p.tables e below (P1 Z p0 p1 h0 n0 s) (s₁.setTop (entryFrame m #[(.ref p0), (.long p1)] 3))
  refine Go.back (fun t k => castTop (ef_1 m p0 p1) k) ?_
  show Go p.tables e below (P1 Z p0 p1 h0 n0 s) (s₁.setTop (mkF m 0 #[.val (.ref p0), .val (.long p1), .second] []))
  refine Go.back (fun t k => XS.aloadN X0.here hx rfl (hb hby d1_0) rfl rfl  k) ?_
  show Go p.tables e below (P1 Z p0 p1 h0 n0 s) (s₁.setTop (mkF m 1 #[.val (.ref p0), .val (.long p1), .second] [(.ref p0)]))
  obtain ⟨T1, X1, e1, st1⟩ := initO X0 hx hZ hown (hw _ (List.mem_of_getElem? (i := 7) rfl)) (hw _ (List.mem_of_getElem? (i := 8) rfl)) (hw _ (List.mem_of_getElem? (i := 9) rfl)) e0 (g := (mkF m 1 #[.val (.ref p0), .val (.long p1), .second] [(.ref p0)])) rfl (by rw [hml]; rfl) rfl (hb hby d1_1) (by decide) (W := 0) (by show 2 * 0 + _ ≤ _; exact Nat.le_of_eq rfl) (by decide)
  refine Go.back st1 ?_
  show Go p.tables e below (P1 Z p0 p1 h0 n0 s) (T1.setTop (mkF m 4 #[.val (.ref p0), .val (.long p1), .second] []))
  refine Go.back (fun t k => XS.aloadN X1.here hx rfl (hb hby d1_4) rfl rfl  k) ?_
  show Go p.tables e below (P1 Z p0 p1 h0 n0 s) (T1.setTop (mkF m 5 #[.val (.ref p0), .val (.long p1), .second] [(.ref p0)]))
  refine Go.back (fun t k => XS.lloadN X1.here hx rfl (hb hby d1_5) rfl  k) ?_
  show Go p.tables e below (P1 Z p0 p1 h0 n0 s) (T1.setTop (mkF m 6 #[.val (.ref p0), .val (.long p1), .second] [(.long p1), (.ref p0)]))
  obtain ⟨T2, h2, X2, e2, W2, st2⟩ := putF X1 hx hZ hown (host := "") (Or.inl (hw _ (List.mem_of_getElem? (i := 10) rfl))) Via.refl e1 H1 H0 (Or.inl (hw _ (List.mem_of_getElem? (i := 11) rfl))) (hw _ (List.mem_of_getElem? (i := 2) rfl)) (ty := .long) (by decide) rfl rfl (g := (mkF m 6 #[.val (.ref p0), .val (.long p1), .second] [(.long p1), (.ref p0)])) rfl rfl (hb hby d1_6)
  have F3 : Exa Z h2 p0 "org/trentasette/Spinner" := H0.wr W2
  have F4 : Fld Z h2 p0 "org/trentasette/Spinner" "state" "J" (.long p1) := H1.same W2
  have F5 : n0 ≤ h2.size := Nat.le_trans Z0 (Keep.of_wr W2).1
  have F6 : Keep h0 h2 [p0] := (Keep.refl h0 [p0]).wr W2 (Or.inl (List.mem_of_getElem? (i := 0) rfl))
  have N2 := Fr.snoc X2 N0 H2
  refine Go.back st2 ?_
  show Go p.tables e below (P1 Z p0 p1 h0 n0 s) (T2.setTop (mkF m 9 #[.val (.ref p0), .val (.long p1), .second] []))
  exact Go.retV X2 hx Bd.returns (hb hby d1_9) Bd.notSynchronized ⟨rfl, N2, (by rw [e2]; exact F6), (by rw [e2]; exact F3), (by rw [e2]; exact F4)⟩ (by decide) (by decide)
theorem d3_0 : decode prog_33_method_3_code 0 = .ok (.aload_n 0, 1) := by decide +kernel
theorem d3_1 : decode prog_33_method_3_code 1 = .ok (.dup, 1) := by decide +kernel
theorem d3_2 : decode prog_33_method_3_code 2 = .ok (.getfield 11, 3) := by decide +kernel
theorem d3_5 : decode prog_33_method_3_code 5 = .ok (.ldc2_w 25, 3) := by decide +kernel
theorem d3_8 : decode prog_33_method_3_code 8 = .ok (.ladd, 1) := by decide +kernel
theorem d3_9 : decode prog_33_method_3_code 9 = .ok (.putfield 11, 3) := by decide +kernel
theorem d3_12 : decode prog_33_method_3_code 12 = .ok (.aload_n 0, 1) := by decide +kernel
theorem d3_13 : decode prog_33_method_3_code 13 = .ok (.getfield 11, 3) := by decide +kernel
theorem d3_16 : decode prog_33_method_3_code 16 = .ok (.lstore_n 1, 1) := by decide +kernel
theorem d3_17 : decode prog_33_method_3_code 17 = .ok (.lload_n 1, 1) := by decide +kernel
theorem d3_18 : decode prog_33_method_3_code 18 = .ok (.lload_n 1, 1) := by decide +kernel
theorem d3_19 : decode prog_33_method_3_code 19 = .ok (.bipush 30, 2) := by decide +kernel
theorem d3_21 : decode prog_33_method_3_code 21 = .ok (.lushr, 1) := by decide +kernel
theorem d3_22 : decode prog_33_method_3_code 22 = .ok (.lxor, 1) := by decide +kernel
theorem d3_23 : decode prog_33_method_3_code 23 = .ok (.ldc2_w 27, 3) := by decide +kernel
theorem d3_26 : decode prog_33_method_3_code 26 = .ok (.lmul, 1) := by decide +kernel
theorem d3_27 : decode prog_33_method_3_code 27 = .ok (.lstore_n 1, 1) := by decide +kernel
theorem d3_28 : decode prog_33_method_3_code 28 = .ok (.lload_n 1, 1) := by decide +kernel
theorem d3_29 : decode prog_33_method_3_code 29 = .ok (.lload_n 1, 1) := by decide +kernel
theorem d3_30 : decode prog_33_method_3_code 30 = .ok (.bipush 27, 2) := by decide +kernel
theorem d3_32 : decode prog_33_method_3_code 32 = .ok (.lushr, 1) := by decide +kernel
theorem d3_33 : decode prog_33_method_3_code 33 = .ok (.lxor, 1) := by decide +kernel
theorem d3_34 : decode prog_33_method_3_code 34 = .ok (.ldc2_w 29, 3) := by decide +kernel
theorem d3_37 : decode prog_33_method_3_code 37 = .ok (.lmul, 1) := by decide +kernel
theorem d3_38 : decode prog_33_method_3_code 38 = .ok (.lstore_n 1, 1) := by decide +kernel
theorem d3_39 : decode prog_33_method_3_code 39 = .ok (.lload_n 1, 1) := by decide +kernel
theorem d3_40 : decode prog_33_method_3_code 40 = .ok (.lload_n 1, 1) := by decide +kernel
theorem d3_41 : decode prog_33_method_3_code 41 = .ok (.bipush 31, 2) := by decide +kernel
theorem d3_43 : decode prog_33_method_3_code 43 = .ok (.lushr, 1) := by decide +kernel
theorem d3_44 : decode prog_33_method_3_code 44 = .ok (.lxor, 1) := by decide +kernel
theorem d3_45 : decode prog_33_method_3_code 45 = .ok (.lreturn, 1) := by decide +kernel
def f3 (q : Int64) : Int64 := (let z9 : Int64 := (q + (-7046029254386353131 : Int64)); (let z12 : Int64 := ((z9 ^^^ (((z9).toUInt64 >>> ((30 : Int32) &&& 0x3f).toInt64.toUInt64).toInt64)) * (-4658895280553007687 : Int64)); (let z15 : Int64 := ((z12 ^^^ (((z12).toUInt64 >>> ((27 : Int32) &&& 0x3f).toInt64.toUInt64).toInt64)) * (-7723592293110705685 : Int64)); (z15 ^^^ (((z15).toUInt64 >>> ((31 : Int32) &&& 0x3f).toInt64.toUInt64).toInt64)))))
def Q3 (Z : State) (p0 : Addr) (q : Int64) (h0 : Heap) (n0 : Nat) (v : Option Value) (h : Heap) (L : List Loc) : Prop := v = some (.long (f3 q)) ∧ Fr n0 L ∧ Keep h0 h [p0] ∧ Exa Z h p0 "org/trentasette/Spinner" ∧ Fld Z h p0 "org/trentasette/Spinner" "state" "J" (.long (q + (-7046029254386353131 : Int64)))
abbrev rmm3 : Room := { frames := 0, cells := 0, slots := 0, locals := 0 }
abbrev P3 (Z : State) (p0 : Addr) (q : Int64) (h0 : Heap) (n0 : Nat) (s : State) : Outcome → State → Prop := fun o U' => ∃ v L, o = .returned v ∧ Q3 Z p0 q h0 n0 v U'.heap L ∧ FrameEnd s o U' L rmm3.cells rmm3.slots
theorem pn_3 : plainName "org/trentasette/Spinner" = true := by first | (simp [plainName, overriddenIn]; done) | decide +kernel
theorem ef_3 (m : MethodId) (p0 : Addr) : entryFrame m #[(.ref p0)] 3 = mkF m 0 #[.val (.ref p0), .unset, .unset] [] := by first | (simp [entryFrame, mkF, argsToLocals, Value.category]; done) | rfl
set_option maxRecDepth 65536 in
set_option maxHeartbeats 40000000 in
theorem rm3 (l : Launch) (Z : State) (a0 : Array Value) (hw : ∀ d ∈ tables_1, d.before a0 Z = true) (ws : List Jvm.Cond) (p0 : Addr) (q : Int64) (h0 : Heap) (n0 : Nat) (Z0 : n0 ≤ h0.size) (H0 : Exa Z h0 p0 "org/trentasette/Spinner") (H1 : Fld Z h0 p0 "org/trentasette/Spinner" "state" "J" (.long q)) (H2 : n0 ≤ p0) :
    MetFree l (⟨"org/trentasette/Spinner", "next", "()J"⟩ : MethodName) (head1 (Jvm.Cond.code (⟨"org/trentasette/Spinner", "next", "()J"⟩ : MethodName) prog_33_method_3_code 3 (some .long) :: ws) rmm3) (fun a U => a = #[(.ref p0)] ∧ Z.Warmed39 U.vm ∧ U.heap = h0) (fun _ _ _ _ _ => True) (fun _ U o U' => ∃ v L, o = .returned v ∧ Q3 Z p0 q h0 n0 v U'.heap L ∧ FrameEnd U o U' L rmm3.cells rmm3.slots) := by
  refine MetFree.of_bodySF (plainFor_of_name pn_3) hisR ?_
  intro p e s m args below meth c s₁ Bd hml0 hP hK
  obtain ⟨rfl, hZ, hh⟩ := hP
  have hx := Bd.exec
  have hby := Bd.bytes
  have hml : c.maxLocals = 3 := hml0
  have hown : s.vm.findClass "org/trentasette/Spinner" = some m.cls := findClass_of_methodNamed Bd.named
  have hnm := (name_of_methodNamed Bd.named Bd.method).1
  have X0 : Stand p l e rmm3 s m #[(.ref p0)] below meth c s₁ [] 0 0 := Stand.of_body Bd
  have e0 : s₁.heap = h0 := by rw [← hh, Bd.state]; rfl
  have N0 := Fr.nil n0
  show Go p.tables e below (P3 Z p0 q h0 n0 s) (s₁.setTop (entryFrame m #[(.ref p0)] 3))
  refine Go.back (fun t k => castTop (ef_3 m p0) k) ?_
  show Go p.tables e below (P3 Z p0 q h0 n0 s) (s₁.setTop (mkF m 0 #[.val (.ref p0), .unset, .unset] []))
  have hf0 : f3 q = (let z9 : Int64 := (q + (-7046029254386353131 : Int64)); (let z12 : Int64 := ((z9 ^^^ (((z9).toUInt64 >>> ((30 : Int32) &&& 0x3f).toInt64.toUInt64).toInt64)) * (-4658895280553007687 : Int64)); (let z15 : Int64 := ((z12 ^^^ (((z12).toUInt64 >>> ((27 : Int32) &&& 0x3f).toInt64.toUInt64).toInt64)) * (-7723592293110705685 : Int64)); (z15 ^^^ (((z15).toUInt64 >>> ((31 : Int32) &&& 0x3f).toInt64.toUInt64).toInt64))))) := rfl
  refine Go.back (fun t k => XS.aloadN X0.here hx rfl (hb hby d3_0) rfl rfl  k) ?_
  show Go p.tables e below (P3 Z p0 q h0 n0 s) (s₁.setTop (mkF m 1 #[.val (.ref p0), .unset, .unset] [(.ref p0)]))
  refine Go.back (fun t k => XS.dup X0.here hx rfl (hb hby d3_1) rfl rfl k) ?_
  show Go p.tables e below (P3 Z p0 q h0 n0 s) (s₁.setTop (mkF m 2 #[.val (.ref p0), .unset, .unset] [(.ref p0), (.ref p0)]))
  obtain ⟨T1, X1, e1, st1⟩ := getF X0 hx hZ hown (host := "") (Or.inl (hw _ (List.mem_of_getElem? (i := 10) rfl))) Via.refl e0 H1 (g := (mkF m 2 #[.val (.ref p0), .unset, .unset] [(.ref p0), (.ref p0)])) rfl rfl (hb hby d3_2)
  refine Go.back st1 ?_
  show Go p.tables e below (P3 Z p0 q h0 n0 s) (T1.setTop (mkF m 5 #[.val (.ref p0), .unset, .unset] [(.long q), (.ref p0)]))
  refine Go.back (fun t k => X1.ldc2Long hx hown (mvT hZ (hw _ (List.mem_of_getElem? (i := 17) rfl))) (g := (mkF m 5 #[.val (.ref p0), .unset, .unset] [(.long q), (.ref p0)])) rfl (hb hby d3_5) t k) ?_
  show Go p.tables e below (P3 Z p0 q h0 n0 s) (T1.setTop (mkF m 8 #[.val (.ref p0), .unset, .unset] [(.long (-7046029254386353131 : Int64)), (.long q), (.ref p0)]))
  refine Go.back (fun t k => XS.ladd X1.here hx rfl (hb hby d3_8) rfl k) ?_
  show Go p.tables e below (P3 Z p0 q h0 n0 s) (T1.setTop (mkF m 9 #[.val (.ref p0), .unset, .unset] [(.long (q + (-7046029254386353131 : Int64))), (.ref p0)]))
  obtain ⟨T2, h2, X2, e2, W2, st2⟩ := putF X1 hx hZ hown (host := "") (Or.inl (hw _ (List.mem_of_getElem? (i := 10) rfl))) Via.refl e1 H1 H0 (Or.inl (hw _ (List.mem_of_getElem? (i := 11) rfl))) (hw _ (List.mem_of_getElem? (i := 2) rfl)) (ty := .long) (by decide) rfl rfl (g := (mkF m 9 #[.val (.ref p0), .unset, .unset] [(.long (q + (-7046029254386353131 : Int64))), (.ref p0)])) rfl rfl (hb hby d3_9)
  have F3 : Exa Z h2 p0 "org/trentasette/Spinner" := H0.wr W2
  have F4 : Fld Z h2 p0 "org/trentasette/Spinner" "state" "J" (.long (q + (-7046029254386353131 : Int64))) := H1.same W2
  have F5 : n0 ≤ h2.size := Nat.le_trans Z0 (Keep.of_wr W2).1
  have F6 : Keep h0 h2 [p0] := (Keep.refl h0 [p0]).wr W2 (Or.inl (List.mem_of_getElem? (i := 0) rfl))
  have N2 := Fr.snoc X2 N0 H2
  refine Go.back st2 ?_
  show Go p.tables e below (P3 Z p0 q h0 n0 s) (T2.setTop (mkF m 12 #[.val (.ref p0), .unset, .unset] []))
  refine Go.back (fun t k => XS.aloadN X2.here hx rfl (hb hby d3_12) rfl rfl  k) ?_
  show Go p.tables e below (P3 Z p0 q h0 n0 s) (T2.setTop (mkF m 13 #[.val (.ref p0), .unset, .unset] [(.ref p0)]))
  obtain ⟨T7, X7, e7, st7⟩ := getF X2 hx hZ hown (host := "") (Or.inl (hw _ (List.mem_of_getElem? (i := 10) rfl))) Via.refl e2 F4 (g := (mkF m 13 #[.val (.ref p0), .unset, .unset] [(.ref p0)])) rfl rfl (hb hby d3_13)
  refine Go.back st7 ?_
  show Go p.tables e below (P3 Z p0 q h0 n0 s) (T7.setTop (mkF m 16 #[.val (.ref p0), .unset, .unset] [(.long (q + (-7046029254386353131 : Int64)))]))
  refine Go.back (fun t k => XS.lstoreN X7.here hx rfl (hb hby d3_16) rfl (l' := #[.val (.ref p0), .val (.long (q + (-7046029254386353131 : Int64))), .second]) rfl k) ?_
  show Go p.tables e below (P3 Z p0 q h0 n0 s) (T7.setTop (mkF m 17 #[.val (.ref p0), .val (.long (q + (-7046029254386353131 : Int64))), .second] []))
  have J8 : ∀ (z9 : Int64) (hz9 : z9 = (q + (-7046029254386353131 : Int64))), Go p.tables e below (P3 Z p0 q h0 n0 s) (T7.setTop (mkF m 17 #[.val (.ref p0), .val (.long z9), .second] [])) := by
    intro z9 hz9
    have r10 : f3 q = (let z12 : Int64 := ((z9 ^^^ (((z9).toUInt64 >>> ((30 : Int32) &&& 0x3f).toInt64.toUInt64).toInt64)) * (-4658895280553007687 : Int64)); (let z15 : Int64 := ((z12 ^^^ (((z12).toUInt64 >>> ((27 : Int32) &&& 0x3f).toInt64.toUInt64).toInt64)) * (-7723592293110705685 : Int64)); (z15 ^^^ (((z15).toUInt64 >>> ((31 : Int32) &&& 0x3f).toInt64.toUInt64).toInt64)))) := by subst hz9; exact hf0
    show Go p.tables e below (P3 Z p0 q h0 n0 s) (T7.setTop (mkF m 17 #[.val (.ref p0), .val (.long z9), .second] []))
    refine Go.back (fun t k => XS.lloadN X7.here hx rfl (hb hby d3_17) rfl  k) ?_
    show Go p.tables e below (P3 Z p0 q h0 n0 s) (T7.setTop (mkF m 18 #[.val (.ref p0), .val (.long z9), .second] [(.long z9)]))
    refine Go.back (fun t k => XS.lloadN X7.here hx rfl (hb hby d3_18) rfl  k) ?_
    show Go p.tables e below (P3 Z p0 q h0 n0 s) (T7.setTop (mkF m 19 #[.val (.ref p0), .val (.long z9), .second] [(.long z9), (.long z9)]))
    refine Go.back (fun t k => XS.bipush X7.here hx rfl (hb hby d3_19) k) ?_
    show Go p.tables e below (P3 Z p0 q h0 n0 s) (T7.setTop (mkF m 21 #[.val (.ref p0), .val (.long z9), .second] [(.int (30 : Int32)), (.long z9), (.long z9)]))
    refine Go.back (fun t k => XS.lushr X7.here hx rfl (hb hby d3_21) rfl k) ?_
    show Go p.tables e below (P3 Z p0 q h0 n0 s) (T7.setTop (mkF m 22 #[.val (.ref p0), .val (.long z9), .second] [(.long (((z9).toUInt64 >>> ((30 : Int32) &&& 0x3f).toInt64.toUInt64).toInt64)), (.long z9)]))
    refine Go.back (fun t k => XS.lxor X7.here hx rfl (hb hby d3_22) rfl k) ?_
    show Go p.tables e below (P3 Z p0 q h0 n0 s) (T7.setTop (mkF m 23 #[.val (.ref p0), .val (.long z9), .second] [(.long (z9 ^^^ (((z9).toUInt64 >>> ((30 : Int32) &&& 0x3f).toInt64.toUInt64).toInt64)))]))
    refine Go.back (fun t k => X7.ldc2Long hx hown (mvT hZ (hw _ (List.mem_of_getElem? (i := 18) rfl))) (g := (mkF m 23 #[.val (.ref p0), .val (.long z9), .second] [(.long (z9 ^^^ (((z9).toUInt64 >>> ((30 : Int32) &&& 0x3f).toInt64.toUInt64).toInt64)))])) rfl (hb hby d3_23) t k) ?_
    show Go p.tables e below (P3 Z p0 q h0 n0 s) (T7.setTop (mkF m 26 #[.val (.ref p0), .val (.long z9), .second] [(.long (-4658895280553007687 : Int64)), (.long (z9 ^^^ (((z9).toUInt64 >>> ((30 : Int32) &&& 0x3f).toInt64.toUInt64).toInt64)))]))
    refine Go.back (fun t k => XS.lmul X7.here hx rfl (hb hby d3_26) rfl k) ?_
    show Go p.tables e below (P3 Z p0 q h0 n0 s) (T7.setTop (mkF m 27 #[.val (.ref p0), .val (.long z9), .second] [(.long ((z9 ^^^ (((z9).toUInt64 >>> ((30 : Int32) &&& 0x3f).toInt64.toUInt64).toInt64)) * (-4658895280553007687 : Int64)))]))
    refine Go.back (fun t k => XS.lstoreN X7.here hx rfl (hb hby d3_27) rfl (l' := #[.val (.ref p0), .val (.long ((z9 ^^^ (((z9).toUInt64 >>> ((30 : Int32) &&& 0x3f).toInt64.toUInt64).toInt64)) * (-4658895280553007687 : Int64))), .second]) rfl k) ?_
    show Go p.tables e below (P3 Z p0 q h0 n0 s) (T7.setTop (mkF m 28 #[.val (.ref p0), .val (.long ((z9 ^^^ (((z9).toUInt64 >>> ((30 : Int32) &&& 0x3f).toInt64.toUInt64).toInt64)) * (-4658895280553007687 : Int64))), .second] []))
    have J11 : ∀ (z12 : Int64) (hz12 : z12 = ((z9 ^^^ (((z9).toUInt64 >>> ((30 : Int32) &&& 0x3f).toInt64.toUInt64).toInt64)) * (-4658895280553007687 : Int64))), Go p.tables e below (P3 Z p0 q h0 n0 s) (T7.setTop (mkF m 28 #[.val (.ref p0), .val (.long z12), .second] [])) := by
      intro z12 hz12
      have r13 : f3 q = (let z15 : Int64 := ((z12 ^^^ (((z12).toUInt64 >>> ((27 : Int32) &&& 0x3f).toInt64.toUInt64).toInt64)) * (-7723592293110705685 : Int64)); (z15 ^^^ (((z15).toUInt64 >>> ((31 : Int32) &&& 0x3f).toInt64.toUInt64).toInt64))) := by subst hz12; exact r10
      show Go p.tables e below (P3 Z p0 q h0 n0 s) (T7.setTop (mkF m 28 #[.val (.ref p0), .val (.long z12), .second] []))
      refine Go.back (fun t k => XS.lloadN X7.here hx rfl (hb hby d3_28) rfl  k) ?_
      show Go p.tables e below (P3 Z p0 q h0 n0 s) (T7.setTop (mkF m 29 #[.val (.ref p0), .val (.long z12), .second] [(.long z12)]))
      refine Go.back (fun t k => XS.lloadN X7.here hx rfl (hb hby d3_29) rfl  k) ?_
      show Go p.tables e below (P3 Z p0 q h0 n0 s) (T7.setTop (mkF m 30 #[.val (.ref p0), .val (.long z12), .second] [(.long z12), (.long z12)]))
      refine Go.back (fun t k => XS.bipush X7.here hx rfl (hb hby d3_30) k) ?_
      show Go p.tables e below (P3 Z p0 q h0 n0 s) (T7.setTop (mkF m 32 #[.val (.ref p0), .val (.long z12), .second] [(.int (27 : Int32)), (.long z12), (.long z12)]))
      refine Go.back (fun t k => XS.lushr X7.here hx rfl (hb hby d3_32) rfl k) ?_
      show Go p.tables e below (P3 Z p0 q h0 n0 s) (T7.setTop (mkF m 33 #[.val (.ref p0), .val (.long z12), .second] [(.long (((z12).toUInt64 >>> ((27 : Int32) &&& 0x3f).toInt64.toUInt64).toInt64)), (.long z12)]))
      refine Go.back (fun t k => XS.lxor X7.here hx rfl (hb hby d3_33) rfl k) ?_
      show Go p.tables e below (P3 Z p0 q h0 n0 s) (T7.setTop (mkF m 34 #[.val (.ref p0), .val (.long z12), .second] [(.long (z12 ^^^ (((z12).toUInt64 >>> ((27 : Int32) &&& 0x3f).toInt64.toUInt64).toInt64)))]))
      refine Go.back (fun t k => X7.ldc2Long hx hown (mvT hZ (hw _ (List.mem_of_getElem? (i := 19) rfl))) (g := (mkF m 34 #[.val (.ref p0), .val (.long z12), .second] [(.long (z12 ^^^ (((z12).toUInt64 >>> ((27 : Int32) &&& 0x3f).toInt64.toUInt64).toInt64)))])) rfl (hb hby d3_34) t k) ?_
      show Go p.tables e below (P3 Z p0 q h0 n0 s) (T7.setTop (mkF m 37 #[.val (.ref p0), .val (.long z12), .second] [(.long (-7723592293110705685 : Int64)), (.long (z12 ^^^ (((z12).toUInt64 >>> ((27 : Int32) &&& 0x3f).toInt64.toUInt64).toInt64)))]))
      refine Go.back (fun t k => XS.lmul X7.here hx rfl (hb hby d3_37) rfl k) ?_
      show Go p.tables e below (P3 Z p0 q h0 n0 s) (T7.setTop (mkF m 38 #[.val (.ref p0), .val (.long z12), .second] [(.long ((z12 ^^^ (((z12).toUInt64 >>> ((27 : Int32) &&& 0x3f).toInt64.toUInt64).toInt64)) * (-7723592293110705685 : Int64)))]))
      refine Go.back (fun t k => XS.lstoreN X7.here hx rfl (hb hby d3_38) rfl (l' := #[.val (.ref p0), .val (.long ((z12 ^^^ (((z12).toUInt64 >>> ((27 : Int32) &&& 0x3f).toInt64.toUInt64).toInt64)) * (-7723592293110705685 : Int64))), .second]) rfl k) ?_
      show Go p.tables e below (P3 Z p0 q h0 n0 s) (T7.setTop (mkF m 39 #[.val (.ref p0), .val (.long ((z12 ^^^ (((z12).toUInt64 >>> ((27 : Int32) &&& 0x3f).toInt64.toUInt64).toInt64)) * (-7723592293110705685 : Int64))), .second] []))
      have J14 : ∀ (z15 : Int64) (hz15 : z15 = ((z12 ^^^ (((z12).toUInt64 >>> ((27 : Int32) &&& 0x3f).toInt64.toUInt64).toInt64)) * (-7723592293110705685 : Int64))), Go p.tables e below (P3 Z p0 q h0 n0 s) (T7.setTop (mkF m 39 #[.val (.ref p0), .val (.long z15), .second] [])) := by
        intro z15 hz15
        have r16 : f3 q = (z15 ^^^ (((z15).toUInt64 >>> ((31 : Int32) &&& 0x3f).toInt64.toUInt64).toInt64)) := by subst hz15; exact r13
        show Go p.tables e below (P3 Z p0 q h0 n0 s) (T7.setTop (mkF m 39 #[.val (.ref p0), .val (.long z15), .second] []))
        refine Go.back (fun t k => XS.lloadN X7.here hx rfl (hb hby d3_39) rfl  k) ?_
        show Go p.tables e below (P3 Z p0 q h0 n0 s) (T7.setTop (mkF m 40 #[.val (.ref p0), .val (.long z15), .second] [(.long z15)]))
        refine Go.back (fun t k => XS.lloadN X7.here hx rfl (hb hby d3_40) rfl  k) ?_
        show Go p.tables e below (P3 Z p0 q h0 n0 s) (T7.setTop (mkF m 41 #[.val (.ref p0), .val (.long z15), .second] [(.long z15), (.long z15)]))
        refine Go.back (fun t k => XS.bipush X7.here hx rfl (hb hby d3_41) k) ?_
        show Go p.tables e below (P3 Z p0 q h0 n0 s) (T7.setTop (mkF m 43 #[.val (.ref p0), .val (.long z15), .second] [(.int (31 : Int32)), (.long z15), (.long z15)]))
        refine Go.back (fun t k => XS.lushr X7.here hx rfl (hb hby d3_43) rfl k) ?_
        show Go p.tables e below (P3 Z p0 q h0 n0 s) (T7.setTop (mkF m 44 #[.val (.ref p0), .val (.long z15), .second] [(.long (((z15).toUInt64 >>> ((31 : Int32) &&& 0x3f).toInt64.toUInt64).toInt64)), (.long z15)]))
        refine Go.back (fun t k => XS.lxor X7.here hx rfl (hb hby d3_44) rfl k) ?_
        show Go p.tables e below (P3 Z p0 q h0 n0 s) (T7.setTop (mkF m 45 #[.val (.ref p0), .val (.long z15), .second] [(.long (z15 ^^^ (((z15).toUInt64 >>> ((31 : Int32) &&& 0x3f).toInt64.toUInt64).toInt64)))]))
        exact Go.retJ X7 hx Bd.returns (hb hby d3_45) Bd.notSynchronized ⟨by rw [r16], N2, (by rw [e7]; exact F6), (by rw [e7]; exact F3), (by rw [e7]; exact F4)⟩ (by decide) (by decide)
      exact J14 _ rfl
    exact J11 _ rfl
  exact J8 _ rfl
def f0 (p0 : Int64) (p1 : Int64) (p2 : Int32) : Bool := (let z3 : Int64 := (if (p2 &&& (1 : Int32)) = (0 : Int32) then p1 else p0); (let z94 : Int64 := (f3 (p0 + (-7046029254386353131 : Int64))); (let z108 : Int64 := (f3 (p0 + (-7046029254386353131 : Int64))); (let z133 : Int64 := (f3 ((-(-7046029254386353131 : Int64)))); (let z137 : Bool := (if z94 = z108 then true else false); (let z141 : Bool := (if (f3 z3) = (f3 p0) then true else false); (let z145 : Bool := (if z3 = p0 then true else false); (let z149 : Bool := (if z141 = z145 then true else false); (let z153 : Bool := (if z133 = (0 : Int64) then true else false); (let z157 : Bool := (if z137 = true then (if z149 = true then (if z153 = true then true else false) else false) else false); z157))))))))))
def Q0 (Z : State) (p0 : Int64) (p1 : Int64) (p2 : Int32) (h0 : Heap) (n0 : Nat) (v : Option Value) (h : Heap) (L : List Loc) : Prop := v = some (.int (b2i (f0 p0 p1 p2))) ∧ Fr n0 L
abbrev P0 (Z : State) (p0 : Int64) (p1 : Int64) (p2 : Int32) (h0 : Heap) (n0 : Nat) (s : State) : Outcome → State → Prop := fun o U' => ∃ v L, o = .returned v ∧ Q0 Z p0 p1 p2 h0 n0 v U'.heap L ∧ FrameEnd s o U' L room_1.cells room_1.slots
theorem pn_0 : plainName "org/trentasette/SpinnerNextPinLaw" = true := by first | (simp [plainName, overriddenIn]; done) | decide +kernel
theorem ef_0 (m : MethodId) (p0 : Int64) (p1 : Int64) (p2 : Int32) : entryFrame m #[(.long p0), (.long p1), (.int p2)] maxLocals = mkF m 0 #[.val (.long p0), .second, .val (.long p1), .second, .val (.int p2), .unset, .unset, .unset, .unset, .unset, .unset, .unset, .unset, .unset, .unset, .unset, .unset, .unset, .unset, .unset, .unset, .unset, .unset, .unset, .unset, .unset] [] := by first | (simp [entryFrame, mkF, argsToLocals, Value.category, maxLocals]; done) | rfl
set_option maxRecDepth 65536 in
set_option maxHeartbeats 40000000 in
theorem rm0 (l : Launch) (Z : State) (a0 : Array Value) (hw : ∀ d ∈ tables_1, d.before a0 Z = true) (ws : List Jvm.Cond) (p0 : Int64) (p1 : Int64) (p2 : Int32) (h0 : Heap) (n0 : Nat) (Z0 : n0 ≤ h0.size) :
    MetFree l x (head1 (Jvm.Cond.code x code maxLocals ret :: ws) room_1) (fun a U => a = #[(.long p0), (.long p1), (.int p2)] ∧ Z.Warmed39 U.vm ∧ U.heap = h0) (fun _ _ _ _ _ => True) (fun _ U o U' => ∃ v L, o = .returned v ∧ Q0 Z p0 p1 p2 h0 n0 v U'.heap L ∧ FrameEnd U o U' L room_1.cells room_1.slots) := by
  refine MetFree.of_bodySF (plainFor_of_name pn_0) hisR ?_
  intro p e s m args below meth c s₁ Bd hml0 hP hK
  obtain ⟨rfl, hZ, hh⟩ := hP
  have hx := Bd.exec
  have hby := Bd.bytes
  have hml : c.maxLocals = 26 := hml0
  have hown : s.vm.findClass "org/trentasette/SpinnerNextPinLaw" = some m.cls := findClass_of_methodNamed Bd.named
  have hnm := (name_of_methodNamed Bd.named Bd.method).1
  have X0 : Stand p l e room_1 s m #[(.long p0), (.long p1), (.int p2)] below meth c s₁ [] 0 0 := Stand.of_body Bd
  have e0 : s₁.heap = h0 := by rw [← hh, Bd.state]; rfl
  have N0 := Fr.nil n0
  show Go p.tables e below (P0 Z p0 p1 p2 h0 n0 s) (s₁.setTop (entryFrame m #[(.long p0), (.long p1), (.int p2)] maxLocals))
  refine Go.back (fun t k => castTop (ef_0 m p0 p1 p2) k) ?_
  show Go p.tables e below (P0 Z p0 p1 p2 h0 n0 s) (s₁.setTop (mkF m 0 #[.val (.long p0), .second, .val (.long p1), .second, .val (.int p2), .unset, .unset, .unset, .unset, .unset, .unset, .unset, .unset, .unset, .unset, .unset, .unset, .unset, .unset, .unset, .unset, .unset, .unset, .unset, .unset, .unset] []))
  have hf0 : f0 p0 p1 p2 = (let z3 : Int64 := (if (p2 &&& (1 : Int32)) = (0 : Int32) then p1 else p0); (let z94 : Int64 := (f3 (p0 + (-7046029254386353131 : Int64))); (let z108 : Int64 := (f3 (p0 + (-7046029254386353131 : Int64))); (let z133 : Int64 := (f3 ((-(-7046029254386353131 : Int64)))); (let z137 : Bool := (if z94 = z108 then true else false); (let z141 : Bool := (if (f3 z3) = (f3 p0) then true else false); (let z145 : Bool := (if z3 = p0 then true else false); (let z149 : Bool := (if z141 = z145 then true else false); (let z153 : Bool := (if z133 = (0 : Int64) then true else false); (let z157 : Bool := (if z137 = true then (if z149 = true then (if z153 = true then true else false) else false) else false); z157)))))))))) := rfl
  refine Go.back (fun t k => X0.ldc2Long hx hown (mvT hZ (hw _ (List.mem_of_getElem? (i := 0) rfl))) (g := (mkF m 0 #[.val (.long p0), .second, .val (.long p1), .second, .val (.int p2), .unset, .unset, .unset, .unset, .unset, .unset, .unset, .unset, .unset, .unset, .unset, .unset, .unset, .unset, .unset, .unset, .unset, .unset, .unset, .unset, .unset] [])) rfl (hb hby at_0) t k) ?_
  show Go p.tables e below (P0 Z p0 p1 p2 h0 n0 s) (s₁.setTop (mkF m 3 #[.val (.long p0), .second, .val (.long p1), .second, .val (.int p2), .unset, .unset, .unset, .unset, .unset, .unset, .unset, .unset, .unset, .unset, .unset, .unset, .unset, .unset, .unset, .unset, .unset, .unset, .unset, .unset, .unset] [(.long (-7046029254386353131 : Int64))]))
  refine Go.back (fun t k => XS.lstore X0.here hx rfl (hb hby at_3) rfl (l' := #[.val (.long p0), .second, .val (.long p1), .second, .val (.int p2), .val (.long (-7046029254386353131 : Int64)), .second, .unset, .unset, .unset, .unset, .unset, .unset, .unset, .unset, .unset, .unset, .unset, .unset, .unset, .unset, .unset, .unset, .unset, .unset, .unset]) rfl k) ?_
  show Go p.tables e below (P0 Z p0 p1 p2 h0 n0 s) (s₁.setTop (mkF m 5 #[.val (.long p0), .second, .val (.long p1), .second, .val (.int p2), .val (.long (-7046029254386353131 : Int64)), .second, .unset, .unset, .unset, .unset, .unset, .unset, .unset, .unset, .unset, .unset, .unset, .unset, .unset, .unset, .unset, .unset, .unset, .unset, .unset] []))
  refine Go.back (fun t k => XS.iload X0.here hx rfl (hb hby at_5) rfl  k) ?_
  show Go p.tables e below (P0 Z p0 p1 p2 h0 n0 s) (s₁.setTop (mkF m 7 #[.val (.long p0), .second, .val (.long p1), .second, .val (.int p2), .val (.long (-7046029254386353131 : Int64)), .second, .unset, .unset, .unset, .unset, .unset, .unset, .unset, .unset, .unset, .unset, .unset, .unset, .unset, .unset, .unset, .unset, .unset, .unset, .unset] [(.int p2)]))
  refine Go.back (fun t k => XS.iconst X0.here hx rfl (hb hby at_7) k) ?_
  show Go p.tables e below (P0 Z p0 p1 p2 h0 n0 s) (s₁.setTop (mkF m 8 #[.val (.long p0), .second, .val (.long p1), .second, .val (.int p2), .val (.long (-7046029254386353131 : Int64)), .second, .unset, .unset, .unset, .unset, .unset, .unset, .unset, .unset, .unset, .unset, .unset, .unset, .unset, .unset, .unset, .unset, .unset, .unset, .unset] [(.int (1 : Int32)), (.int p2)]))
  refine Go.back (fun t k => XS.iand X0.here hx rfl (hb hby at_8) rfl k) ?_
  show Go p.tables e below (P0 Z p0 p1 p2 h0 n0 s) (s₁.setTop (mkF m 9 #[.val (.long p0), .second, .val (.long p1), .second, .val (.int p2), .val (.long (-7046029254386353131 : Int64)), .second, .unset, .unset, .unset, .unset, .unset, .unset, .unset, .unset, .unset, .unset, .unset, .unset, .unset, .unset, .unset, .unset, .unset, .unset, .unset] [(.int (p2 &&& (1 : Int32)))]))
  have J2 : ∀ (z3 : Int64) (hz3 : z3 = (if (p2 &&& (1 : Int32)) = (0 : Int32) then p1 else p0)), Go p.tables e below (P0 Z p0 p1 p2 h0 n0 s) (s₁.setTop (mkF m 17 #[.val (.long p0), .second, .val (.long p1), .second, .val (.int p2), .val (.long (-7046029254386353131 : Int64)), .second, .unset, .unset, .unset, .unset, .unset, .unset, .unset, .unset, .unset, .unset, .unset, .unset, .unset, .unset, .unset, .unset, .unset, .unset, .unset] [(.long z3)])) := by
    intro z3 hz3
    have r4 : f0 p0 p1 p2 = (let z94 : Int64 := (f3 (p0 + (-7046029254386353131 : Int64))); (let z108 : Int64 := (f3 (p0 + (-7046029254386353131 : Int64))); (let z133 : Int64 := (f3 ((-(-7046029254386353131 : Int64)))); (let z137 : Bool := (if z94 = z108 then true else false); (let z141 : Bool := (if (f3 z3) = (f3 p0) then true else false); (let z145 : Bool := (if z3 = p0 then true else false); (let z149 : Bool := (if z141 = z145 then true else false); (let z153 : Bool := (if z133 = (0 : Int64) then true else false); (let z157 : Bool := (if z137 = true then (if z149 = true then (if z153 = true then true else false) else false) else false); z157))))))))) := by subst hz3; exact hf0
    show Go p.tables e below (P0 Z p0 p1 p2 h0 n0 s) (s₁.setTop (mkF m 17 #[.val (.long p0), .second, .val (.long p1), .second, .val (.int p2), .val (.long (-7046029254386353131 : Int64)), .second, .unset, .unset, .unset, .unset, .unset, .unset, .unset, .unset, .unset, .unset, .unset, .unset, .unset, .unset, .unset, .unset, .unset, .unset, .unset] [(.long z3)]))
    refine Go.back (fun t k => XS.lstore X0.here hx rfl (hb hby at_17) rfl (l' := #[.val (.long p0), .second, .val (.long p1), .second, .val (.int p2), .val (.long (-7046029254386353131 : Int64)), .second, .val (.long z3), .second, .unset, .unset, .unset, .unset, .unset, .unset, .unset, .unset, .unset, .unset, .unset, .unset, .unset, .unset, .unset, .unset, .unset]) rfl k) ?_
    show Go p.tables e below (P0 Z p0 p1 p2 h0 n0 s) (s₁.setTop (mkF m 19 #[.val (.long p0), .second, .val (.long p1), .second, .val (.int p2), .val (.long (-7046029254386353131 : Int64)), .second, .val (.long z3), .second, .unset, .unset, .unset, .unset, .unset, .unset, .unset, .unset, .unset, .unset, .unset, .unset, .unset, .unset, .unset, .unset, .unset] []))
    obtain ⟨T5, h5, X5, e5, E5, A5, D5, -, st5⟩ := newO X0 hx hZ hown (hw _ (List.mem_of_getElem? (i := 1) rfl)) (hw _ (List.mem_of_getElem? (i := 2) rfl)) (hw _ (List.mem_of_getElem? (i := 3) rfl)) e0 (g := (mkF m 19 #[.val (.long p0), .second, .val (.long p1), .second, .val (.int p2), .val (.long (-7046029254386353131 : Int64)), .second, .val (.long z3), .second, .unset, .unset, .unset, .unset, .unset, .unset, .unset, .unset, .unset, .unset, .unset, .unset, .unset, .unset, .unset, .unset, .unset] [])) rfl (hb hby at_19) (by decide) (by decide)
    obtain ⟨b5, g5⟩ : ∃ z, z = h0.size := ⟨_, rfl⟩
    rw [← g5] at A5 D5 st5
    have g6 : n0 ≤ b5 := Nat.le_trans Z0 (Nat.le_of_eq g5.symm)
    have F7 : n0 ≤ h5.size := Nat.le_trans Z0 E5.1
    have F8 : Fld Z h5 b5 "org/trentasette/Spinner" "state" "J" (.long (0 : Int64)) := D5 (Or.inl (hw _ (List.mem_of_getElem? (i := 11) rfl))) (ty := .long) (by decide)
    refine Go.back st5 ?_
    show Go p.tables e below (P0 Z p0 p1 p2 h0 n0 s) (T5.setTop (mkF m 22 #[.val (.long p0), .second, .val (.long p1), .second, .val (.int p2), .val (.long (-7046029254386353131 : Int64)), .second, .val (.long z3), .second, .unset, .unset, .unset, .unset, .unset, .unset, .unset, .unset, .unset, .unset, .unset, .unset, .unset, .unset, .unset, .unset, .unset] [(.ref b5)]))
    refine Go.back (fun t k => XS.dup X5.here hx rfl (hb hby at_22) rfl rfl k) ?_
    show Go p.tables e below (P0 Z p0 p1 p2 h0 n0 s) (T5.setTop (mkF m 23 #[.val (.long p0), .second, .val (.long p1), .second, .val (.int p2), .val (.long (-7046029254386353131 : Int64)), .second, .val (.long z3), .second, .unset, .unset, .unset, .unset, .unset, .unset, .unset, .unset, .unset, .unset, .unset, .unset, .unset, .unset, .unset, .unset, .unset] [(.ref b5), (.ref b5)]))
    refine Go.back (fun t k => XS.lloadN X5.here hx rfl (hb hby at_23) rfl  k) ?_
    show Go p.tables e below (P0 Z p0 p1 p2 h0 n0 s) (T5.setTop (mkF m 24 #[.val (.long p0), .second, .val (.long p1), .second, .val (.int p2), .val (.long (-7046029254386353131 : Int64)), .second, .val (.long z3), .second, .unset, .unset, .unset, .unset, .unset, .unset, .unset, .unset, .unset, .unset, .unset, .unset, .unset, .unset, .unset, .unset, .unset] [(.long p0), (.ref b5), (.ref b5)]))
    obtain ⟨_, _, ⟨T9, L9, k9, n9⟩, -, X9, ⟨Lc9, hQ9, l9, y9, z9⟩, st9⟩ := X5.specialBack hx (y := (⟨"org/trentasette/Spinner", "<init>", "(J)V"⟩ : MethodName)) rfl hown (mvT hZ (hw _ (List.mem_of_getElem? (i := 4) rfl))) (mvT hZ (hw _ (List.mem_of_getElem? (i := 5) rfl))) (mvT hZ (hw _ (List.mem_of_getElem? (i := 6) rfl))) (by decide) (backOf (W := 1) (rm1 l Z a0 hw [] b5 p0 h5 n0 F7 A5 F8 g6) hZ (hw _ (List.mem_of_getElem? (i := 6) rfl)) (hw _ (List.mem_of_getElem? (i := 3) rfl)) (by decide) (by decide)) (g := (mkF m 24 #[.val (.long p0), .second, .val (.long p1), .second, .val (.int p2), .val (.long (-7046029254386353131 : Int64)), .second, .val (.long z3), .second, .unset, .unset, .unset, .unset, .unset, .unset, .unset, .unset, .unset, .unset, .unset, .unset, .unset, .unset, .unset, .unset, .unset] [(.long p0), (.ref b5), (.ref b5)])) rfl (by rw [hml]; rfl) (Steps.refl _) (a := b5) (argsL := [(.long p0)]) (rest := [(.ref b5)]) (lenOf pd_0 rfl) rfl (by show 2 * 0 + _ ≤ _; exact Nat.le_of_eq rfl) (hb hby at_24) (fun _ _ => ⟨rfl, e5, (by decide : 1 + 0 ≤ _), (by decide : 1 + 0 ≤ _)⟩)
    dsimp only [Pt.U, Pt.locs, Pt.cells, Pt.slots] at X9 l9 y9 z9 st9 hQ9
    subst l9 y9 z9
    obtain ⟨h9, e9⟩ : ∃ z, T9.heap = z := ⟨_, rfl⟩
    rw [e9] at hQ9
    obtain ⟨rfl, N9q, K9, F12, F13⟩ := hQ9
    have N9 := Fr.app N0 N9q
    have F10 : n0 ≤ h9.size := Nat.le_trans F7 K9.1
    have F11 : Exa Z h9 b5 "org/trentasette/Spinner" := A5.keep K9
    refine Go.trans st9 ?_
    show Go p.tables e below (P0 Z p0 p1 p2 h0 n0 s) (T9.setTop (mkF m 27 #[.val (.long p0), .second, .val (.long p1), .second, .val (.int p2), .val (.long (-7046029254386353131 : Int64)), .second, .val (.long z3), .second, .unset, .unset, .unset, .unset, .unset, .unset, .unset, .unset, .unset, .unset, .unset, .unset, .unset, .unset, .unset, .unset, .unset] [(.ref b5)]))
    refine Go.back (fun t k => XS.astore X9.here hx rfl (hb hby at_27) rfl rfl (l' := #[.val (.long p0), .second, .val (.long p1), .second, .val (.int p2), .val (.long (-7046029254386353131 : Int64)), .second, .val (.long z3), .second, .val (.ref b5), .unset, .unset, .unset, .unset, .unset, .unset, .unset, .unset, .unset, .unset, .unset, .unset, .unset, .unset, .unset, .unset]) rfl k) ?_
    show Go p.tables e below (P0 Z p0 p1 p2 h0 n0 s) (T9.setTop (mkF m 29 #[.val (.long p0), .second, .val (.long p1), .second, .val (.int p2), .val (.long (-7046029254386353131 : Int64)), .second, .val (.long z3), .second, .val (.ref b5), .unset, .unset, .unset, .unset, .unset, .unset, .unset, .unset, .unset, .unset, .unset, .unset, .unset, .unset, .unset, .unset] []))
    obtain ⟨T14, h14, X14, e14, E14, A14, D14, -, st14⟩ := newO X9 hx hZ hown (hw _ (List.mem_of_getElem? (i := 1) rfl)) (hw _ (List.mem_of_getElem? (i := 2) rfl)) (hw _ (List.mem_of_getElem? (i := 3) rfl)) e9 (g := (mkF m 29 #[.val (.long p0), .second, .val (.long p1), .second, .val (.int p2), .val (.long (-7046029254386353131 : Int64)), .second, .val (.long z3), .second, .val (.ref b5), .unset, .unset, .unset, .unset, .unset, .unset, .unset, .unset, .unset, .unset, .unset, .unset, .unset, .unset, .unset, .unset] [])) rfl (hb hby at_29) (by decide) (by decide)
    obtain ⟨b14, g14⟩ : ∃ z, z = h9.size := ⟨_, rfl⟩
    rw [← g14] at A14 D14 st14
    have ne15 : b5 ≠ b14 := Nat.ne_of_lt (Nat.lt_of_lt_of_le F12.lt (Nat.le_of_eq g14.symm))
    have g16 : n0 ≤ b14 := Nat.le_trans F10 (Nat.le_of_eq g14.symm)
    have F17 : n0 ≤ h14.size := Nat.le_trans F10 E14.1
    have F18 : Exa Z h14 b5 "org/trentasette/Spinner" := F12.ext E14
    have F19 : Fld Z h14 b5 "org/trentasette/Spinner" "state" "J" (.long p0) := F13.ext E14
    have F20 : Fld Z h14 b14 "org/trentasette/Spinner" "state" "J" (.long (0 : Int64)) := D14 (Or.inl (hw _ (List.mem_of_getElem? (i := 11) rfl))) (ty := .long) (by decide)
    refine Go.back st14 ?_
    show Go p.tables e below (P0 Z p0 p1 p2 h0 n0 s) (T14.setTop (mkF m 32 #[.val (.long p0), .second, .val (.long p1), .second, .val (.int p2), .val (.long (-7046029254386353131 : Int64)), .second, .val (.long z3), .second, .val (.ref b5), .unset, .unset, .unset, .unset, .unset, .unset, .unset, .unset, .unset, .unset, .unset, .unset, .unset, .unset, .unset, .unset] [(.ref b14)]))
    refine Go.back (fun t k => XS.dup X14.here hx rfl (hb hby at_32) rfl rfl k) ?_
    show Go p.tables e below (P0 Z p0 p1 p2 h0 n0 s) (T14.setTop (mkF m 33 #[.val (.long p0), .second, .val (.long p1), .second, .val (.int p2), .val (.long (-7046029254386353131 : Int64)), .second, .val (.long z3), .second, .val (.ref b5), .unset, .unset, .unset, .unset, .unset, .unset, .unset, .unset, .unset, .unset, .unset, .unset, .unset, .unset, .unset, .unset] [(.ref b14), (.ref b14)]))
    refine Go.back (fun t k => XS.lloadN X14.here hx rfl (hb hby at_33) rfl  k) ?_
    show Go p.tables e below (P0 Z p0 p1 p2 h0 n0 s) (T14.setTop (mkF m 34 #[.val (.long p0), .second, .val (.long p1), .second, .val (.int p2), .val (.long (-7046029254386353131 : Int64)), .second, .val (.long z3), .second, .val (.ref b5), .unset, .unset, .unset, .unset, .unset, .unset, .unset, .unset, .unset, .unset, .unset, .unset, .unset, .unset, .unset, .unset] [(.long p0), (.ref b14), (.ref b14)]))
    refine Go.back (fun t k => XS.lload X14.here hx rfl (hb hby at_34) rfl  k) ?_
    show Go p.tables e below (P0 Z p0 p1 p2 h0 n0 s) (T14.setTop (mkF m 36 #[.val (.long p0), .second, .val (.long p1), .second, .val (.int p2), .val (.long (-7046029254386353131 : Int64)), .second, .val (.long z3), .second, .val (.ref b5), .unset, .unset, .unset, .unset, .unset, .unset, .unset, .unset, .unset, .unset, .unset, .unset, .unset, .unset, .unset, .unset] [(.long (-7046029254386353131 : Int64)), (.long p0), (.ref b14), (.ref b14)]))
    refine Go.back (fun t k => XS.ladd X14.here hx rfl (hb hby at_36) rfl k) ?_
    show Go p.tables e below (P0 Z p0 p1 p2 h0 n0 s) (T14.setTop (mkF m 37 #[.val (.long p0), .second, .val (.long p1), .second, .val (.int p2), .val (.long (-7046029254386353131 : Int64)), .second, .val (.long z3), .second, .val (.ref b5), .unset, .unset, .unset, .unset, .unset, .unset, .unset, .unset, .unset, .unset, .unset, .unset, .unset, .unset, .unset, .unset] [(.long (p0 + (-7046029254386353131 : Int64))), (.ref b14), (.ref b14)]))
    obtain ⟨_, _, ⟨T21, L21, k21, n21⟩, -, X21, ⟨Lc21, hQ21, l21, y21, z21⟩, st21⟩ := X14.specialBack hx (y := (⟨"org/trentasette/Spinner", "<init>", "(J)V"⟩ : MethodName)) rfl hown (mvT hZ (hw _ (List.mem_of_getElem? (i := 4) rfl))) (mvT hZ (hw _ (List.mem_of_getElem? (i := 5) rfl))) (mvT hZ (hw _ (List.mem_of_getElem? (i := 6) rfl))) (by decide) (backOf (W := 1) (rm1 l Z a0 hw [] b14 (p0 + (-7046029254386353131 : Int64)) h14 n0 F17 A14 F20 g16) hZ (hw _ (List.mem_of_getElem? (i := 6) rfl)) (hw _ (List.mem_of_getElem? (i := 3) rfl)) (by decide) (by decide)) (g := (mkF m 37 #[.val (.long p0), .second, .val (.long p1), .second, .val (.int p2), .val (.long (-7046029254386353131 : Int64)), .second, .val (.long z3), .second, .val (.ref b5), .unset, .unset, .unset, .unset, .unset, .unset, .unset, .unset, .unset, .unset, .unset, .unset, .unset, .unset, .unset, .unset] [(.long (p0 + (-7046029254386353131 : Int64))), (.ref b14), (.ref b14)])) rfl (by rw [hml]; rfl) (Steps.refl _) (a := b14) (argsL := [(.long (p0 + (-7046029254386353131 : Int64)))]) (rest := [(.ref b14)]) (lenOf pd_0 rfl) rfl (by show 2 * 0 + _ ≤ _; exact Nat.le_of_eq rfl) (hb hby at_37) (fun _ _ => ⟨rfl, e14, (by decide : 2 + 0 ≤ _), (by decide : 2 + 0 ≤ _)⟩)
    dsimp only [Pt.U, Pt.locs, Pt.cells, Pt.slots] at X21 l21 y21 z21 st21 hQ21
    subst l21 y21 z21
    obtain ⟨h21, e21⟩ : ∃ z, T21.heap = z := ⟨_, rfl⟩
    rw [e21] at hQ21
    obtain ⟨rfl, N21q, K21, F26, F27⟩ := hQ21
    have N21 := Fr.app N9 N21q
    have F22 : n0 ≤ h21.size := Nat.le_trans F17 K21.1
    have F23 : Exa Z h21 b5 "org/trentasette/Spinner" := F18.keep K21
    have F24 : Fld Z h21 b5 "org/trentasette/Spinner" "state" "J" (.long p0) := F19.keep K21 (ninS ne15 nin0)
    have F25 : Exa Z h21 b14 "org/trentasette/Spinner" := A14.keep K21
    refine Go.trans st21 ?_
    show Go p.tables e below (P0 Z p0 p1 p2 h0 n0 s) (T21.setTop (mkF m 40 #[.val (.long p0), .second, .val (.long p1), .second, .val (.int p2), .val (.long (-7046029254386353131 : Int64)), .second, .val (.long z3), .second, .val (.ref b5), .unset, .unset, .unset, .unset, .unset, .unset, .unset, .unset, .unset, .unset, .unset, .unset, .unset, .unset, .unset, .unset] [(.ref b14)]))
    refine Go.back (fun t k => XS.astore X21.here hx rfl (hb hby at_40) rfl rfl (l' := #[.val (.long p0), .second, .val (.long p1), .second, .val (.int p2), .val (.long (-7046029254386353131 : Int64)), .second, .val (.long z3), .second, .val (.ref b5), .val (.ref b14), .unset, .unset, .unset, .unset, .unset, .unset, .unset, .unset, .unset, .unset, .unset, .unset, .unset, .unset, .unset]) rfl k) ?_
    show Go p.tables e below (P0 Z p0 p1 p2 h0 n0 s) (T21.setTop (mkF m 42 #[.val (.long p0), .second, .val (.long p1), .second, .val (.int p2), .val (.long (-7046029254386353131 : Int64)), .second, .val (.long z3), .second, .val (.ref b5), .val (.ref b14), .unset, .unset, .unset, .unset, .unset, .unset, .unset, .unset, .unset, .unset, .unset, .unset, .unset, .unset, .unset] []))
    obtain ⟨T28, h28, X28, e28, E28, A28, D28, -, st28⟩ := newO X21 hx hZ hown (hw _ (List.mem_of_getElem? (i := 1) rfl)) (hw _ (List.mem_of_getElem? (i := 2) rfl)) (hw _ (List.mem_of_getElem? (i := 3) rfl)) e21 (g := (mkF m 42 #[.val (.long p0), .second, .val (.long p1), .second, .val (.int p2), .val (.long (-7046029254386353131 : Int64)), .second, .val (.long z3), .second, .val (.ref b5), .val (.ref b14), .unset, .unset, .unset, .unset, .unset, .unset, .unset, .unset, .unset, .unset, .unset, .unset, .unset, .unset, .unset] [])) rfl (hb hby at_42) (by decide) (by decide)
    obtain ⟨b28, g28⟩ : ∃ z, z = h21.size := ⟨_, rfl⟩
    rw [← g28] at A28 D28 st28
    have ne29 : b5 ≠ b28 := Nat.ne_of_lt (Nat.lt_of_lt_of_le F23.lt (Nat.le_of_eq g28.symm))
    have ne30 : b14 ≠ b28 := Nat.ne_of_lt (Nat.lt_of_lt_of_le F26.lt (Nat.le_of_eq g28.symm))
    have g31 : n0 ≤ b28 := Nat.le_trans F22 (Nat.le_of_eq g28.symm)
    have F32 : n0 ≤ h28.size := Nat.le_trans F22 E28.1
    have F33 : Exa Z h28 b5 "org/trentasette/Spinner" := F23.ext E28
    have F34 : Fld Z h28 b5 "org/trentasette/Spinner" "state" "J" (.long p0) := F24.ext E28
    have F35 : Exa Z h28 b14 "org/trentasette/Spinner" := F26.ext E28
    have F36 : Fld Z h28 b14 "org/trentasette/Spinner" "state" "J" (.long (p0 + (-7046029254386353131 : Int64))) := F27.ext E28
    have F37 : Fld Z h28 b28 "org/trentasette/Spinner" "state" "J" (.long (0 : Int64)) := D28 (Or.inl (hw _ (List.mem_of_getElem? (i := 11) rfl))) (ty := .long) (by decide)
    refine Go.back st28 ?_
    show Go p.tables e below (P0 Z p0 p1 p2 h0 n0 s) (T28.setTop (mkF m 45 #[.val (.long p0), .second, .val (.long p1), .second, .val (.int p2), .val (.long (-7046029254386353131 : Int64)), .second, .val (.long z3), .second, .val (.ref b5), .val (.ref b14), .unset, .unset, .unset, .unset, .unset, .unset, .unset, .unset, .unset, .unset, .unset, .unset, .unset, .unset, .unset] [(.ref b28)]))
    refine Go.back (fun t k => XS.dup X28.here hx rfl (hb hby at_45) rfl rfl k) ?_
    show Go p.tables e below (P0 Z p0 p1 p2 h0 n0 s) (T28.setTop (mkF m 46 #[.val (.long p0), .second, .val (.long p1), .second, .val (.int p2), .val (.long (-7046029254386353131 : Int64)), .second, .val (.long z3), .second, .val (.ref b5), .val (.ref b14), .unset, .unset, .unset, .unset, .unset, .unset, .unset, .unset, .unset, .unset, .unset, .unset, .unset, .unset, .unset] [(.ref b28), (.ref b28)]))
    refine Go.back (fun t k => XS.lload X28.here hx rfl (hb hby at_46) rfl  k) ?_
    show Go p.tables e below (P0 Z p0 p1 p2 h0 n0 s) (T28.setTop (mkF m 48 #[.val (.long p0), .second, .val (.long p1), .second, .val (.int p2), .val (.long (-7046029254386353131 : Int64)), .second, .val (.long z3), .second, .val (.ref b5), .val (.ref b14), .unset, .unset, .unset, .unset, .unset, .unset, .unset, .unset, .unset, .unset, .unset, .unset, .unset, .unset, .unset] [(.long z3), (.ref b28), (.ref b28)]))
    obtain ⟨_, _, ⟨T38, L38, k38, n38⟩, -, X38, ⟨Lc38, hQ38, l38, y38, z38⟩, st38⟩ := X28.specialBack hx (y := (⟨"org/trentasette/Spinner", "<init>", "(J)V"⟩ : MethodName)) rfl hown (mvT hZ (hw _ (List.mem_of_getElem? (i := 4) rfl))) (mvT hZ (hw _ (List.mem_of_getElem? (i := 5) rfl))) (mvT hZ (hw _ (List.mem_of_getElem? (i := 6) rfl))) (by decide) (backOf (W := 1) (rm1 l Z a0 hw [] b28 z3 h28 n0 F32 A28 F37 g31) hZ (hw _ (List.mem_of_getElem? (i := 6) rfl)) (hw _ (List.mem_of_getElem? (i := 3) rfl)) (by decide) (by decide)) (g := (mkF m 48 #[.val (.long p0), .second, .val (.long p1), .second, .val (.int p2), .val (.long (-7046029254386353131 : Int64)), .second, .val (.long z3), .second, .val (.ref b5), .val (.ref b14), .unset, .unset, .unset, .unset, .unset, .unset, .unset, .unset, .unset, .unset, .unset, .unset, .unset, .unset, .unset] [(.long z3), (.ref b28), (.ref b28)])) rfl (by rw [hml]; rfl) (Steps.refl _) (a := b28) (argsL := [(.long z3)]) (rest := [(.ref b28)]) (lenOf pd_0 rfl) rfl (by show 2 * 0 + _ ≤ _; exact Nat.le_of_eq rfl) (hb hby at_48) (fun _ _ => ⟨rfl, e28, (by decide : 3 + 0 ≤ _), (by decide : 3 + 0 ≤ _)⟩)
    dsimp only [Pt.U, Pt.locs, Pt.cells, Pt.slots] at X38 l38 y38 z38 st38 hQ38
    subst l38 y38 z38
    obtain ⟨h38, e38⟩ : ∃ z, T38.heap = z := ⟨_, rfl⟩
    rw [e38] at hQ38
    obtain ⟨rfl, N38q, K38, F45, F46⟩ := hQ38
    have N38 := Fr.app N21 N38q
    have F39 : n0 ≤ h38.size := Nat.le_trans F32 K38.1
    have F40 : Exa Z h38 b5 "org/trentasette/Spinner" := F33.keep K38
    have F41 : Fld Z h38 b5 "org/trentasette/Spinner" "state" "J" (.long p0) := F34.keep K38 (ninS ne29 nin0)
    have F42 : Exa Z h38 b14 "org/trentasette/Spinner" := F35.keep K38
    have F43 : Fld Z h38 b14 "org/trentasette/Spinner" "state" "J" (.long (p0 + (-7046029254386353131 : Int64))) := F36.keep K38 (ninS ne30 nin0)
    have F44 : Exa Z h38 b28 "org/trentasette/Spinner" := A28.keep K38
    refine Go.trans st38 ?_
    show Go p.tables e below (P0 Z p0 p1 p2 h0 n0 s) (T38.setTop (mkF m 51 #[.val (.long p0), .second, .val (.long p1), .second, .val (.int p2), .val (.long (-7046029254386353131 : Int64)), .second, .val (.long z3), .second, .val (.ref b5), .val (.ref b14), .unset, .unset, .unset, .unset, .unset, .unset, .unset, .unset, .unset, .unset, .unset, .unset, .unset, .unset, .unset] [(.ref b28)]))
    refine Go.back (fun t k => XS.astore X38.here hx rfl (hb hby at_51) rfl rfl (l' := #[.val (.long p0), .second, .val (.long p1), .second, .val (.int p2), .val (.long (-7046029254386353131 : Int64)), .second, .val (.long z3), .second, .val (.ref b5), .val (.ref b14), .val (.ref b28), .unset, .unset, .unset, .unset, .unset, .unset, .unset, .unset, .unset, .unset, .unset, .unset, .unset, .unset]) rfl k) ?_
    show Go p.tables e below (P0 Z p0 p1 p2 h0 n0 s) (T38.setTop (mkF m 53 #[.val (.long p0), .second, .val (.long p1), .second, .val (.int p2), .val (.long (-7046029254386353131 : Int64)), .second, .val (.long z3), .second, .val (.ref b5), .val (.ref b14), .val (.ref b28), .unset, .unset, .unset, .unset, .unset, .unset, .unset, .unset, .unset, .unset, .unset, .unset, .unset, .unset] []))
    obtain ⟨T47, h47, X47, e47, E47, A47, D47, -, st47⟩ := newO X38 hx hZ hown (hw _ (List.mem_of_getElem? (i := 1) rfl)) (hw _ (List.mem_of_getElem? (i := 2) rfl)) (hw _ (List.mem_of_getElem? (i := 3) rfl)) e38 (g := (mkF m 53 #[.val (.long p0), .second, .val (.long p1), .second, .val (.int p2), .val (.long (-7046029254386353131 : Int64)), .second, .val (.long z3), .second, .val (.ref b5), .val (.ref b14), .val (.ref b28), .unset, .unset, .unset, .unset, .unset, .unset, .unset, .unset, .unset, .unset, .unset, .unset, .unset, .unset] [])) rfl (hb hby at_53) (by decide) (by decide)
    obtain ⟨b47, g47⟩ : ∃ z, z = h38.size := ⟨_, rfl⟩
    rw [← g47] at A47 D47 st47
    have ne48 : b5 ≠ b47 := Nat.ne_of_lt (Nat.lt_of_lt_of_le F40.lt (Nat.le_of_eq g47.symm))
    have ne49 : b14 ≠ b47 := Nat.ne_of_lt (Nat.lt_of_lt_of_le F42.lt (Nat.le_of_eq g47.symm))
    have ne50 : b28 ≠ b47 := Nat.ne_of_lt (Nat.lt_of_lt_of_le F45.lt (Nat.le_of_eq g47.symm))
    have g51 : n0 ≤ b47 := Nat.le_trans F39 (Nat.le_of_eq g47.symm)
    have F52 : n0 ≤ h47.size := Nat.le_trans F39 E47.1
    have F53 : Exa Z h47 b5 "org/trentasette/Spinner" := F40.ext E47
    have F54 : Fld Z h47 b5 "org/trentasette/Spinner" "state" "J" (.long p0) := F41.ext E47
    have F55 : Exa Z h47 b14 "org/trentasette/Spinner" := F42.ext E47
    have F56 : Fld Z h47 b14 "org/trentasette/Spinner" "state" "J" (.long (p0 + (-7046029254386353131 : Int64))) := F43.ext E47
    have F57 : Exa Z h47 b28 "org/trentasette/Spinner" := F45.ext E47
    have F58 : Fld Z h47 b28 "org/trentasette/Spinner" "state" "J" (.long z3) := F46.ext E47
    have F59 : Fld Z h47 b47 "org/trentasette/Spinner" "state" "J" (.long (0 : Int64)) := D47 (Or.inl (hw _ (List.mem_of_getElem? (i := 11) rfl))) (ty := .long) (by decide)
    refine Go.back st47 ?_
    show Go p.tables e below (P0 Z p0 p1 p2 h0 n0 s) (T47.setTop (mkF m 56 #[.val (.long p0), .second, .val (.long p1), .second, .val (.int p2), .val (.long (-7046029254386353131 : Int64)), .second, .val (.long z3), .second, .val (.ref b5), .val (.ref b14), .val (.ref b28), .unset, .unset, .unset, .unset, .unset, .unset, .unset, .unset, .unset, .unset, .unset, .unset, .unset, .unset] [(.ref b47)]))
    refine Go.back (fun t k => XS.dup X47.here hx rfl (hb hby at_56) rfl rfl k) ?_
    show Go p.tables e below (P0 Z p0 p1 p2 h0 n0 s) (T47.setTop (mkF m 57 #[.val (.long p0), .second, .val (.long p1), .second, .val (.int p2), .val (.long (-7046029254386353131 : Int64)), .second, .val (.long z3), .second, .val (.ref b5), .val (.ref b14), .val (.ref b28), .unset, .unset, .unset, .unset, .unset, .unset, .unset, .unset, .unset, .unset, .unset, .unset, .unset, .unset] [(.ref b47), (.ref b47)]))
    refine Go.back (fun t k => XS.lload X47.here hx rfl (hb hby at_57) rfl  k) ?_
    show Go p.tables e below (P0 Z p0 p1 p2 h0 n0 s) (T47.setTop (mkF m 59 #[.val (.long p0), .second, .val (.long p1), .second, .val (.int p2), .val (.long (-7046029254386353131 : Int64)), .second, .val (.long z3), .second, .val (.ref b5), .val (.ref b14), .val (.ref b28), .unset, .unset, .unset, .unset, .unset, .unset, .unset, .unset, .unset, .unset, .unset, .unset, .unset, .unset] [(.long (-7046029254386353131 : Int64)), (.ref b47), (.ref b47)]))
    refine Go.back (fun t k => XS.lneg X47.here hx rfl (hb hby at_59) rfl k) ?_
    show Go p.tables e below (P0 Z p0 p1 p2 h0 n0 s) (T47.setTop (mkF m 60 #[.val (.long p0), .second, .val (.long p1), .second, .val (.int p2), .val (.long (-7046029254386353131 : Int64)), .second, .val (.long z3), .second, .val (.ref b5), .val (.ref b14), .val (.ref b28), .unset, .unset, .unset, .unset, .unset, .unset, .unset, .unset, .unset, .unset, .unset, .unset, .unset, .unset] [(.long ((-(-7046029254386353131 : Int64)))), (.ref b47), (.ref b47)]))
    obtain ⟨_, _, ⟨T60, L60, k60, n60⟩, -, X60, ⟨Lc60, hQ60, l60, y60, z60⟩, st60⟩ := X47.specialBack hx (y := (⟨"org/trentasette/Spinner", "<init>", "(J)V"⟩ : MethodName)) rfl hown (mvT hZ (hw _ (List.mem_of_getElem? (i := 4) rfl))) (mvT hZ (hw _ (List.mem_of_getElem? (i := 5) rfl))) (mvT hZ (hw _ (List.mem_of_getElem? (i := 6) rfl))) (by decide) (backOf (W := 1) (rm1 l Z a0 hw [] b47 ((-(-7046029254386353131 : Int64))) h47 n0 F52 A47 F59 g51) hZ (hw _ (List.mem_of_getElem? (i := 6) rfl)) (hw _ (List.mem_of_getElem? (i := 3) rfl)) (by decide) (by decide)) (g := (mkF m 60 #[.val (.long p0), .second, .val (.long p1), .second, .val (.int p2), .val (.long (-7046029254386353131 : Int64)), .second, .val (.long z3), .second, .val (.ref b5), .val (.ref b14), .val (.ref b28), .unset, .unset, .unset, .unset, .unset, .unset, .unset, .unset, .unset, .unset, .unset, .unset, .unset, .unset] [(.long ((-(-7046029254386353131 : Int64)))), (.ref b47), (.ref b47)])) rfl (by rw [hml]; rfl) (Steps.refl _) (a := b47) (argsL := [(.long ((-(-7046029254386353131 : Int64))))]) (rest := [(.ref b47)]) (lenOf pd_0 rfl) rfl (by show 2 * 0 + _ ≤ _; exact Nat.le_of_eq rfl) (hb hby at_60) (fun _ _ => ⟨rfl, e47, (by decide : 4 + 0 ≤ _), (by decide : 4 + 0 ≤ _)⟩)
    dsimp only [Pt.U, Pt.locs, Pt.cells, Pt.slots] at X60 l60 y60 z60 st60 hQ60
    subst l60 y60 z60
    obtain ⟨h60, e60⟩ : ∃ z, T60.heap = z := ⟨_, rfl⟩
    rw [e60] at hQ60
    obtain ⟨rfl, N60q, K60, F69, F70⟩ := hQ60
    have N60 := Fr.app N38 N60q
    have F61 : n0 ≤ h60.size := Nat.le_trans F52 K60.1
    have F62 : Exa Z h60 b5 "org/trentasette/Spinner" := F53.keep K60
    have F63 : Fld Z h60 b5 "org/trentasette/Spinner" "state" "J" (.long p0) := F54.keep K60 (ninS ne48 nin0)
    have F64 : Exa Z h60 b14 "org/trentasette/Spinner" := F55.keep K60
    have F65 : Fld Z h60 b14 "org/trentasette/Spinner" "state" "J" (.long (p0 + (-7046029254386353131 : Int64))) := F56.keep K60 (ninS ne49 nin0)
    have F66 : Exa Z h60 b28 "org/trentasette/Spinner" := F57.keep K60
    have F67 : Fld Z h60 b28 "org/trentasette/Spinner" "state" "J" (.long z3) := F58.keep K60 (ninS ne50 nin0)
    have F68 : Exa Z h60 b47 "org/trentasette/Spinner" := A47.keep K60
    refine Go.trans st60 ?_
    show Go p.tables e below (P0 Z p0 p1 p2 h0 n0 s) (T60.setTop (mkF m 63 #[.val (.long p0), .second, .val (.long p1), .second, .val (.int p2), .val (.long (-7046029254386353131 : Int64)), .second, .val (.long z3), .second, .val (.ref b5), .val (.ref b14), .val (.ref b28), .unset, .unset, .unset, .unset, .unset, .unset, .unset, .unset, .unset, .unset, .unset, .unset, .unset, .unset] [(.ref b47)]))
    refine Go.back (fun t k => XS.astore X60.here hx rfl (hb hby at_63) rfl rfl (l' := #[.val (.long p0), .second, .val (.long p1), .second, .val (.int p2), .val (.long (-7046029254386353131 : Int64)), .second, .val (.long z3), .second, .val (.ref b5), .val (.ref b14), .val (.ref b28), .val (.ref b47), .unset, .unset, .unset, .unset, .unset, .unset, .unset, .unset, .unset, .unset, .unset, .unset, .unset]) rfl k) ?_
    show Go p.tables e below (P0 Z p0 p1 p2 h0 n0 s) (T60.setTop (mkF m 65 #[.val (.long p0), .second, .val (.long p1), .second, .val (.int p2), .val (.long (-7046029254386353131 : Int64)), .second, .val (.long z3), .second, .val (.ref b5), .val (.ref b14), .val (.ref b28), .val (.ref b47), .unset, .unset, .unset, .unset, .unset, .unset, .unset, .unset, .unset, .unset, .unset, .unset, .unset] []))
    refine Go.back (fun t k => XS.aload X60.here hx rfl (hb hby at_65) rfl rfl  k) ?_
    show Go p.tables e below (P0 Z p0 p1 p2 h0 n0 s) (T60.setTop (mkF m 67 #[.val (.long p0), .second, .val (.long p1), .second, .val (.int p2), .val (.long (-7046029254386353131 : Int64)), .second, .val (.long z3), .second, .val (.ref b5), .val (.ref b14), .val (.ref b28), .val (.ref b47), .unset, .unset, .unset, .unset, .unset, .unset, .unset, .unset, .unset, .unset, .unset, .unset, .unset] [(.ref b5)]))
    obtain ⟨cq71, kq71, q71a, q71b, q71c⟩ := isOf hZ e60 F62
    obtain ⟨_, _, ⟨T71, L71, k71, n71⟩, -, X71, ⟨Lc71, hQ71, l71, y71, z71⟩, st71⟩ := X60.virtualBack hx (y := (⟨"org/trentasette/Spinner", "next", "()J"⟩ : MethodName)) (z := (⟨"org/trentasette/Spinner", "next", "()J"⟩ : MethodName)) hown (mvT hZ (hw _ (List.mem_of_getElem? (i := 12) rfl))) (mvT hZ (hw _ (List.mem_of_getElem? (i := 13) rfl))) (notFace_of_selects (args := #[]) (mvT hZ (hw _ (List.mem_of_getElem? (i := 15) rfl)))) (mvT hZ (hw _ (List.mem_of_getElem? (i := 15) rfl))) (mvT hZ (hw _ (List.mem_of_getElem? (i := 14) rfl))) (by decide) (backOf (W := 0) (rm3 l Z a0 hw [] b5 p0 h60 n0 F61 F62 F63 g6) hZ (hw _ (List.mem_of_getElem? (i := 16) rfl)) (hw _ (List.mem_of_getElem? (i := 3) rfl)) (by decide) (by decide)) q71a q71c (g := (mkF m 67 #[.val (.long p0), .second, .val (.long p1), .second, .val (.int p2), .val (.long (-7046029254386353131 : Int64)), .second, .val (.long z3), .second, .val (.ref b5), .val (.ref b14), .val (.ref b28), .val (.ref b47), .unset, .unset, .unset, .unset, .unset, .unset, .unset, .unset, .unset, .unset, .unset, .unset, .unset] [(.ref b5)])) rfl (by rw [hml]; rfl) (Steps.refl _) (argsL := []) (rest := []) (lenOf pd_1 rfl) rfl (by show 2 * 0 + _ ≤ _; exact Nat.le_of_eq rfl) (hb hby at_67) (fun _ _ => ⟨rfl, e60, (by decide : 4 + 0 ≤ _), (by decide : 4 + 0 ≤ _)⟩)
    dsimp only [Pt.U, Pt.locs, Pt.cells, Pt.slots] at X71 l71 y71 z71 st71 hQ71
    subst l71 y71 z71
    obtain ⟨h71, e71⟩ : ∃ z, T71.heap = z := ⟨_, rfl⟩
    rw [e71] at hQ71
    obtain ⟨rfl, N71q, K71, F80, F81⟩ := hQ71
    have N71 := Fr.app N60 N71q
    have F72 : n0 ≤ h71.size := Nat.le_trans F61 K71.1
    have F73 : Exa Z h71 b5 "org/trentasette/Spinner" := F62.keep K71
    have F74 : Exa Z h71 b14 "org/trentasette/Spinner" := F64.keep K71
    have F75 : Fld Z h71 b14 "org/trentasette/Spinner" "state" "J" (.long (p0 + (-7046029254386353131 : Int64))) := F65.keep K71 (ninS (Ne.symm ne15) nin0)
    have F76 : Exa Z h71 b28 "org/trentasette/Spinner" := F66.keep K71
    have F77 : Fld Z h71 b28 "org/trentasette/Spinner" "state" "J" (.long z3) := F67.keep K71 (ninS (Ne.symm ne29) nin0)
    have F78 : Exa Z h71 b47 "org/trentasette/Spinner" := F69.keep K71
    have F79 : Fld Z h71 b47 "org/trentasette/Spinner" "state" "J" (.long ((-(-7046029254386353131 : Int64)))) := F70.keep K71 (ninS (Ne.symm ne48) nin0)
    refine Go.trans st71 ?_
    show Go p.tables e below (P0 Z p0 p1 p2 h0 n0 s) (T71.setTop (mkF m 70 #[.val (.long p0), .second, .val (.long p1), .second, .val (.int p2), .val (.long (-7046029254386353131 : Int64)), .second, .val (.long z3), .second, .val (.ref b5), .val (.ref b14), .val (.ref b28), .val (.ref b47), .unset, .unset, .unset, .unset, .unset, .unset, .unset, .unset, .unset, .unset, .unset, .unset, .unset] [(.long (f3 p0))]))
    refine Go.back (fun t k => XS.lstore X71.here hx rfl (hb hby at_70) rfl (l' := #[.val (.long p0), .second, .val (.long p1), .second, .val (.int p2), .val (.long (-7046029254386353131 : Int64)), .second, .val (.long z3), .second, .val (.ref b5), .val (.ref b14), .val (.ref b28), .val (.ref b47), .val (.long (f3 p0)), .second, .unset, .unset, .unset, .unset, .unset, .unset, .unset, .unset, .unset, .unset, .unset]) rfl k) ?_
    show Go p.tables e below (P0 Z p0 p1 p2 h0 n0 s) (T71.setTop (mkF m 72 #[.val (.long p0), .second, .val (.long p1), .second, .val (.int p2), .val (.long (-7046029254386353131 : Int64)), .second, .val (.long z3), .second, .val (.ref b5), .val (.ref b14), .val (.ref b28), .val (.ref b47), .val (.long (f3 p0)), .second, .unset, .unset, .unset, .unset, .unset, .unset, .unset, .unset, .unset, .unset, .unset] []))
    refine Go.back (fun t k => XS.aload X71.here hx rfl (hb hby at_72) rfl rfl  k) ?_
    show Go p.tables e below (P0 Z p0 p1 p2 h0 n0 s) (T71.setTop (mkF m 74 #[.val (.long p0), .second, .val (.long p1), .second, .val (.int p2), .val (.long (-7046029254386353131 : Int64)), .second, .val (.long z3), .second, .val (.ref b5), .val (.ref b14), .val (.ref b28), .val (.ref b47), .val (.long (f3 p0)), .second, .unset, .unset, .unset, .unset, .unset, .unset, .unset, .unset, .unset, .unset, .unset] [(.ref b5)]))
    obtain ⟨cq82, kq82, q82a, q82b, q82c⟩ := isOf hZ e71 F80
    obtain ⟨_, _, ⟨T82, L82, k82, n82⟩, -, X82, ⟨Lc82, hQ82, l82, y82, z82⟩, st82⟩ := X71.virtualBack hx (y := (⟨"org/trentasette/Spinner", "next", "()J"⟩ : MethodName)) (z := (⟨"org/trentasette/Spinner", "next", "()J"⟩ : MethodName)) hown (mvT hZ (hw _ (List.mem_of_getElem? (i := 12) rfl))) (mvT hZ (hw _ (List.mem_of_getElem? (i := 13) rfl))) (notFace_of_selects (args := #[]) (mvT hZ (hw _ (List.mem_of_getElem? (i := 15) rfl)))) (mvT hZ (hw _ (List.mem_of_getElem? (i := 15) rfl))) (mvT hZ (hw _ (List.mem_of_getElem? (i := 14) rfl))) (by decide) (backOf (W := 0) (rm3 l Z a0 hw [] b5 (p0 + (-7046029254386353131 : Int64)) h71 n0 F72 F80 F81 g6) hZ (hw _ (List.mem_of_getElem? (i := 16) rfl)) (hw _ (List.mem_of_getElem? (i := 3) rfl)) (by decide) (by decide)) q82a q82c (g := (mkF m 74 #[.val (.long p0), .second, .val (.long p1), .second, .val (.int p2), .val (.long (-7046029254386353131 : Int64)), .second, .val (.long z3), .second, .val (.ref b5), .val (.ref b14), .val (.ref b28), .val (.ref b47), .val (.long (f3 p0)), .second, .unset, .unset, .unset, .unset, .unset, .unset, .unset, .unset, .unset, .unset, .unset] [(.ref b5)])) rfl (by rw [hml]; rfl) (Steps.refl _) (argsL := []) (rest := []) (lenOf pd_1 rfl) rfl (by show 2 * 0 + _ ≤ _; exact Nat.le_of_eq rfl) (hb hby at_74) (fun _ _ => ⟨rfl, e71, (by decide : 4 + 0 ≤ _), (by decide : 4 + 0 ≤ _)⟩)
    dsimp only [Pt.U, Pt.locs, Pt.cells, Pt.slots] at X82 l82 y82 z82 st82 hQ82
    subst l82 y82 z82
    obtain ⟨h82, e82⟩ : ∃ z, T82.heap = z := ⟨_, rfl⟩
    rw [e82] at hQ82
    obtain ⟨rfl, N82q, K82, F91, F92⟩ := hQ82
    have N82 := Fr.app N71 N82q
    have F83 : n0 ≤ h82.size := Nat.le_trans F72 K82.1
    have F84 : Exa Z h82 b5 "org/trentasette/Spinner" := F80.keep K82
    have F85 : Exa Z h82 b14 "org/trentasette/Spinner" := F74.keep K82
    have F86 : Fld Z h82 b14 "org/trentasette/Spinner" "state" "J" (.long (p0 + (-7046029254386353131 : Int64))) := F75.keep K82 (ninS (Ne.symm ne15) nin0)
    have F87 : Exa Z h82 b28 "org/trentasette/Spinner" := F76.keep K82
    have F88 : Fld Z h82 b28 "org/trentasette/Spinner" "state" "J" (.long z3) := F77.keep K82 (ninS (Ne.symm ne29) nin0)
    have F89 : Exa Z h82 b47 "org/trentasette/Spinner" := F78.keep K82
    have F90 : Fld Z h82 b47 "org/trentasette/Spinner" "state" "J" (.long ((-(-7046029254386353131 : Int64)))) := F79.keep K82 (ninS (Ne.symm ne48) nin0)
    refine Go.trans st82 ?_
    show Go p.tables e below (P0 Z p0 p1 p2 h0 n0 s) (T82.setTop (mkF m 77 #[.val (.long p0), .second, .val (.long p1), .second, .val (.int p2), .val (.long (-7046029254386353131 : Int64)), .second, .val (.long z3), .second, .val (.ref b5), .val (.ref b14), .val (.ref b28), .val (.ref b47), .val (.long (f3 p0)), .second, .unset, .unset, .unset, .unset, .unset, .unset, .unset, .unset, .unset, .unset, .unset] [(.long (f3 (p0 + (-7046029254386353131 : Int64))))]))
    refine Go.back (fun t k => XS.lstore X82.here hx rfl (hb hby at_77) rfl (l' := #[.val (.long p0), .second, .val (.long p1), .second, .val (.int p2), .val (.long (-7046029254386353131 : Int64)), .second, .val (.long z3), .second, .val (.ref b5), .val (.ref b14), .val (.ref b28), .val (.ref b47), .val (.long (f3 p0)), .second, .val (.long (f3 (p0 + (-7046029254386353131 : Int64)))), .second, .unset, .unset, .unset, .unset, .unset, .unset, .unset, .unset, .unset]) rfl k) ?_
    show Go p.tables e below (P0 Z p0 p1 p2 h0 n0 s) (T82.setTop (mkF m 79 #[.val (.long p0), .second, .val (.long p1), .second, .val (.int p2), .val (.long (-7046029254386353131 : Int64)), .second, .val (.long z3), .second, .val (.ref b5), .val (.ref b14), .val (.ref b28), .val (.ref b47), .val (.long (f3 p0)), .second, .val (.long (f3 (p0 + (-7046029254386353131 : Int64)))), .second, .unset, .unset, .unset, .unset, .unset, .unset, .unset, .unset, .unset] []))
    have J93 : ∀ (z94 : Int64) (hz94 : z94 = (f3 (p0 + (-7046029254386353131 : Int64)))), Go p.tables e below (P0 Z p0 p1 p2 h0 n0 s) (T82.setTop (mkF m 79 #[.val (.long p0), .second, .val (.long p1), .second, .val (.int p2), .val (.long (-7046029254386353131 : Int64)), .second, .val (.long z3), .second, .val (.ref b5), .val (.ref b14), .val (.ref b28), .val (.ref b47), .val (.long (f3 p0)), .second, .val (.long z94), .second, .unset, .unset, .unset, .unset, .unset, .unset, .unset, .unset, .unset] [])) := by
      intro z94 hz94
      have r95 : f0 p0 p1 p2 = (let z108 : Int64 := (f3 (p0 + (-7046029254386353131 : Int64))); (let z133 : Int64 := (f3 ((-(-7046029254386353131 : Int64)))); (let z137 : Bool := (if z94 = z108 then true else false); (let z141 : Bool := (if (f3 z3) = (f3 p0) then true else false); (let z145 : Bool := (if z3 = p0 then true else false); (let z149 : Bool := (if z141 = z145 then true else false); (let z153 : Bool := (if z133 = (0 : Int64) then true else false); (let z157 : Bool := (if z137 = true then (if z149 = true then (if z153 = true then true else false) else false) else false); z157)))))))) := by subst hz94; exact r4
      show Go p.tables e below (P0 Z p0 p1 p2 h0 n0 s) (T82.setTop (mkF m 79 #[.val (.long p0), .second, .val (.long p1), .second, .val (.int p2), .val (.long (-7046029254386353131 : Int64)), .second, .val (.long z3), .second, .val (.ref b5), .val (.ref b14), .val (.ref b28), .val (.ref b47), .val (.long (f3 p0)), .second, .val (.long z94), .second, .unset, .unset, .unset, .unset, .unset, .unset, .unset, .unset, .unset] []))
      refine Go.back (fun t k => XS.aload X82.here hx rfl (hb hby at_79) rfl rfl  k) ?_
      show Go p.tables e below (P0 Z p0 p1 p2 h0 n0 s) (T82.setTop (mkF m 81 #[.val (.long p0), .second, .val (.long p1), .second, .val (.int p2), .val (.long (-7046029254386353131 : Int64)), .second, .val (.long z3), .second, .val (.ref b5), .val (.ref b14), .val (.ref b28), .val (.ref b47), .val (.long (f3 p0)), .second, .val (.long z94), .second, .unset, .unset, .unset, .unset, .unset, .unset, .unset, .unset, .unset] [(.ref b14)]))
      obtain ⟨cq96, kq96, q96a, q96b, q96c⟩ := isOf hZ e82 F85
      obtain ⟨_, _, ⟨T96, L96, k96, n96⟩, -, X96, ⟨Lc96, hQ96, l96, y96, z96⟩, st96⟩ := X82.virtualBack hx (y := (⟨"org/trentasette/Spinner", "next", "()J"⟩ : MethodName)) (z := (⟨"org/trentasette/Spinner", "next", "()J"⟩ : MethodName)) hown (mvT hZ (hw _ (List.mem_of_getElem? (i := 12) rfl))) (mvT hZ (hw _ (List.mem_of_getElem? (i := 13) rfl))) (notFace_of_selects (args := #[]) (mvT hZ (hw _ (List.mem_of_getElem? (i := 15) rfl)))) (mvT hZ (hw _ (List.mem_of_getElem? (i := 15) rfl))) (mvT hZ (hw _ (List.mem_of_getElem? (i := 14) rfl))) (by decide) (backOf (W := 0) (rm3 l Z a0 hw [] b14 (p0 + (-7046029254386353131 : Int64)) h82 n0 F83 F85 F86 g16) hZ (hw _ (List.mem_of_getElem? (i := 16) rfl)) (hw _ (List.mem_of_getElem? (i := 3) rfl)) (by decide) (by decide)) q96a q96c (g := (mkF m 81 #[.val (.long p0), .second, .val (.long p1), .second, .val (.int p2), .val (.long (-7046029254386353131 : Int64)), .second, .val (.long z3), .second, .val (.ref b5), .val (.ref b14), .val (.ref b28), .val (.ref b47), .val (.long (f3 p0)), .second, .val (.long z94), .second, .unset, .unset, .unset, .unset, .unset, .unset, .unset, .unset, .unset] [(.ref b14)])) rfl (by rw [hml]; rfl) (Steps.refl _) (argsL := []) (rest := []) (lenOf pd_1 rfl) rfl (by show 2 * 0 + _ ≤ _; exact Nat.le_of_eq rfl) (hb hby at_81) (fun _ _ => ⟨rfl, e82, (by decide : 4 + 0 ≤ _), (by decide : 4 + 0 ≤ _)⟩)
      dsimp only [Pt.U, Pt.locs, Pt.cells, Pt.slots] at X96 l96 y96 z96 st96 hQ96
      subst l96 y96 z96
      obtain ⟨h96, e96⟩ : ∃ z, T96.heap = z := ⟨_, rfl⟩
      rw [e96] at hQ96
      obtain ⟨rfl, N96q, K96, F105, F106⟩ := hQ96
      have N96 := Fr.app N82 N96q
      have F97 : n0 ≤ h96.size := Nat.le_trans F83 K96.1
      have F98 : Exa Z h96 b5 "org/trentasette/Spinner" := F91.keep K96
      have F99 : Exa Z h96 b14 "org/trentasette/Spinner" := F85.keep K96
      have F100 : Exa Z h96 b28 "org/trentasette/Spinner" := F87.keep K96
      have F101 : Fld Z h96 b28 "org/trentasette/Spinner" "state" "J" (.long z3) := F88.keep K96 (ninS (Ne.symm ne30) nin0)
      have F102 : Exa Z h96 b47 "org/trentasette/Spinner" := F89.keep K96
      have F103 : Fld Z h96 b47 "org/trentasette/Spinner" "state" "J" (.long ((-(-7046029254386353131 : Int64)))) := F90.keep K96 (ninS (Ne.symm ne49) nin0)
      have F104 : Fld Z h96 b5 "org/trentasette/Spinner" "state" "J" (.long ((p0 + (-7046029254386353131 : Int64)) + (-7046029254386353131 : Int64))) := F92.keep K96 (ninS ne15 nin0)
      refine Go.trans st96 ?_
      show Go p.tables e below (P0 Z p0 p1 p2 h0 n0 s) (T96.setTop (mkF m 84 #[.val (.long p0), .second, .val (.long p1), .second, .val (.int p2), .val (.long (-7046029254386353131 : Int64)), .second, .val (.long z3), .second, .val (.ref b5), .val (.ref b14), .val (.ref b28), .val (.ref b47), .val (.long (f3 p0)), .second, .val (.long z94), .second, .unset, .unset, .unset, .unset, .unset, .unset, .unset, .unset, .unset] [(.long (f3 (p0 + (-7046029254386353131 : Int64))))]))
      refine Go.back (fun t k => XS.lstore X96.here hx rfl (hb hby at_84) rfl (l' := #[.val (.long p0), .second, .val (.long p1), .second, .val (.int p2), .val (.long (-7046029254386353131 : Int64)), .second, .val (.long z3), .second, .val (.ref b5), .val (.ref b14), .val (.ref b28), .val (.ref b47), .val (.long (f3 p0)), .second, .val (.long z94), .second, .val (.long (f3 (p0 + (-7046029254386353131 : Int64)))), .second, .unset, .unset, .unset, .unset, .unset, .unset, .unset]) rfl k) ?_
      show Go p.tables e below (P0 Z p0 p1 p2 h0 n0 s) (T96.setTop (mkF m 86 #[.val (.long p0), .second, .val (.long p1), .second, .val (.int p2), .val (.long (-7046029254386353131 : Int64)), .second, .val (.long z3), .second, .val (.ref b5), .val (.ref b14), .val (.ref b28), .val (.ref b47), .val (.long (f3 p0)), .second, .val (.long z94), .second, .val (.long (f3 (p0 + (-7046029254386353131 : Int64)))), .second, .unset, .unset, .unset, .unset, .unset, .unset, .unset] []))
      have J107 : ∀ (z108 : Int64) (hz108 : z108 = (f3 (p0 + (-7046029254386353131 : Int64)))), Go p.tables e below (P0 Z p0 p1 p2 h0 n0 s) (T96.setTop (mkF m 86 #[.val (.long p0), .second, .val (.long p1), .second, .val (.int p2), .val (.long (-7046029254386353131 : Int64)), .second, .val (.long z3), .second, .val (.ref b5), .val (.ref b14), .val (.ref b28), .val (.ref b47), .val (.long (f3 p0)), .second, .val (.long z94), .second, .val (.long z108), .second, .unset, .unset, .unset, .unset, .unset, .unset, .unset] [])) := by
        intro z108 hz108
        have r109 : f0 p0 p1 p2 = (let z133 : Int64 := (f3 ((-(-7046029254386353131 : Int64)))); (let z137 : Bool := (if z94 = z108 then true else false); (let z141 : Bool := (if (f3 z3) = (f3 p0) then true else false); (let z145 : Bool := (if z3 = p0 then true else false); (let z149 : Bool := (if z141 = z145 then true else false); (let z153 : Bool := (if z133 = (0 : Int64) then true else false); (let z157 : Bool := (if z137 = true then (if z149 = true then (if z153 = true then true else false) else false) else false); z157))))))) := by subst hz108; exact r95
        show Go p.tables e below (P0 Z p0 p1 p2 h0 n0 s) (T96.setTop (mkF m 86 #[.val (.long p0), .second, .val (.long p1), .second, .val (.int p2), .val (.long (-7046029254386353131 : Int64)), .second, .val (.long z3), .second, .val (.ref b5), .val (.ref b14), .val (.ref b28), .val (.ref b47), .val (.long (f3 p0)), .second, .val (.long z94), .second, .val (.long z108), .second, .unset, .unset, .unset, .unset, .unset, .unset, .unset] []))
        refine Go.back (fun t k => XS.aload X96.here hx rfl (hb hby at_86) rfl rfl  k) ?_
        show Go p.tables e below (P0 Z p0 p1 p2 h0 n0 s) (T96.setTop (mkF m 88 #[.val (.long p0), .second, .val (.long p1), .second, .val (.int p2), .val (.long (-7046029254386353131 : Int64)), .second, .val (.long z3), .second, .val (.ref b5), .val (.ref b14), .val (.ref b28), .val (.ref b47), .val (.long (f3 p0)), .second, .val (.long z94), .second, .val (.long z108), .second, .unset, .unset, .unset, .unset, .unset, .unset, .unset] [(.ref b28)]))
        obtain ⟨cq110, kq110, q110a, q110b, q110c⟩ := isOf hZ e96 F100
        obtain ⟨_, _, ⟨T110, L110, k110, n110⟩, -, X110, ⟨Lc110, hQ110, l110, y110, z110⟩, st110⟩ := X96.virtualBack hx (y := (⟨"org/trentasette/Spinner", "next", "()J"⟩ : MethodName)) (z := (⟨"org/trentasette/Spinner", "next", "()J"⟩ : MethodName)) hown (mvT hZ (hw _ (List.mem_of_getElem? (i := 12) rfl))) (mvT hZ (hw _ (List.mem_of_getElem? (i := 13) rfl))) (notFace_of_selects (args := #[]) (mvT hZ (hw _ (List.mem_of_getElem? (i := 15) rfl)))) (mvT hZ (hw _ (List.mem_of_getElem? (i := 15) rfl))) (mvT hZ (hw _ (List.mem_of_getElem? (i := 14) rfl))) (by decide) (backOf (W := 0) (rm3 l Z a0 hw [] b28 z3 h96 n0 F97 F100 F101 g31) hZ (hw _ (List.mem_of_getElem? (i := 16) rfl)) (hw _ (List.mem_of_getElem? (i := 3) rfl)) (by decide) (by decide)) q110a q110c (g := (mkF m 88 #[.val (.long p0), .second, .val (.long p1), .second, .val (.int p2), .val (.long (-7046029254386353131 : Int64)), .second, .val (.long z3), .second, .val (.ref b5), .val (.ref b14), .val (.ref b28), .val (.ref b47), .val (.long (f3 p0)), .second, .val (.long z94), .second, .val (.long z108), .second, .unset, .unset, .unset, .unset, .unset, .unset, .unset] [(.ref b28)])) rfl (by rw [hml]; rfl) (Steps.refl _) (argsL := []) (rest := []) (lenOf pd_1 rfl) rfl (by show 2 * 0 + _ ≤ _; exact Nat.le_of_eq rfl) (hb hby at_88) (fun _ _ => ⟨rfl, e96, (by decide : 4 + 0 ≤ _), (by decide : 4 + 0 ≤ _)⟩)
        dsimp only [Pt.U, Pt.locs, Pt.cells, Pt.slots] at X110 l110 y110 z110 st110 hQ110
        subst l110 y110 z110
        obtain ⟨h110, e110⟩ : ∃ z, T110.heap = z := ⟨_, rfl⟩
        rw [e110] at hQ110
        obtain ⟨rfl, N110q, K110, F119, F120⟩ := hQ110
        have N110 := Fr.app N96 N110q
        have F111 : n0 ≤ h110.size := Nat.le_trans F97 K110.1
        have F112 : Exa Z h110 b5 "org/trentasette/Spinner" := F98.keep K110
        have F113 : Exa Z h110 b14 "org/trentasette/Spinner" := F105.keep K110
        have F114 : Exa Z h110 b28 "org/trentasette/Spinner" := F100.keep K110
        have F115 : Exa Z h110 b47 "org/trentasette/Spinner" := F102.keep K110
        have F116 : Fld Z h110 b47 "org/trentasette/Spinner" "state" "J" (.long ((-(-7046029254386353131 : Int64)))) := F103.keep K110 (ninS (Ne.symm ne50) nin0)
        have F117 : Fld Z h110 b5 "org/trentasette/Spinner" "state" "J" (.long ((p0 + (-7046029254386353131 : Int64)) + (-7046029254386353131 : Int64))) := F104.keep K110 (ninS ne29 nin0)
        have F118 : Fld Z h110 b14 "org/trentasette/Spinner" "state" "J" (.long ((p0 + (-7046029254386353131 : Int64)) + (-7046029254386353131 : Int64))) := F106.keep K110 (ninS ne30 nin0)
        refine Go.trans st110 ?_
        show Go p.tables e below (P0 Z p0 p1 p2 h0 n0 s) (T110.setTop (mkF m 91 #[.val (.long p0), .second, .val (.long p1), .second, .val (.int p2), .val (.long (-7046029254386353131 : Int64)), .second, .val (.long z3), .second, .val (.ref b5), .val (.ref b14), .val (.ref b28), .val (.ref b47), .val (.long (f3 p0)), .second, .val (.long z94), .second, .val (.long z108), .second, .unset, .unset, .unset, .unset, .unset, .unset, .unset] [(.long (f3 z3))]))
        refine Go.back (fun t k => XS.lstore X110.here hx rfl (hb hby at_91) rfl (l' := #[.val (.long p0), .second, .val (.long p1), .second, .val (.int p2), .val (.long (-7046029254386353131 : Int64)), .second, .val (.long z3), .second, .val (.ref b5), .val (.ref b14), .val (.ref b28), .val (.ref b47), .val (.long (f3 p0)), .second, .val (.long z94), .second, .val (.long z108), .second, .val (.long (f3 z3)), .second, .unset, .unset, .unset, .unset, .unset]) rfl k) ?_
        show Go p.tables e below (P0 Z p0 p1 p2 h0 n0 s) (T110.setTop (mkF m 93 #[.val (.long p0), .second, .val (.long p1), .second, .val (.int p2), .val (.long (-7046029254386353131 : Int64)), .second, .val (.long z3), .second, .val (.ref b5), .val (.ref b14), .val (.ref b28), .val (.ref b47), .val (.long (f3 p0)), .second, .val (.long z94), .second, .val (.long z108), .second, .val (.long (f3 z3)), .second, .unset, .unset, .unset, .unset, .unset] []))
        refine Go.back (fun t k => XS.aload X110.here hx rfl (hb hby at_93) rfl rfl  k) ?_
        show Go p.tables e below (P0 Z p0 p1 p2 h0 n0 s) (T110.setTop (mkF m 95 #[.val (.long p0), .second, .val (.long p1), .second, .val (.int p2), .val (.long (-7046029254386353131 : Int64)), .second, .val (.long z3), .second, .val (.ref b5), .val (.ref b14), .val (.ref b28), .val (.ref b47), .val (.long (f3 p0)), .second, .val (.long z94), .second, .val (.long z108), .second, .val (.long (f3 z3)), .second, .unset, .unset, .unset, .unset, .unset] [(.ref b47)]))
        obtain ⟨cq121, kq121, q121a, q121b, q121c⟩ := isOf hZ e110 F115
        obtain ⟨_, _, ⟨T121, L121, k121, n121⟩, -, X121, ⟨Lc121, hQ121, l121, y121, z121⟩, st121⟩ := X110.virtualBack hx (y := (⟨"org/trentasette/Spinner", "next", "()J"⟩ : MethodName)) (z := (⟨"org/trentasette/Spinner", "next", "()J"⟩ : MethodName)) hown (mvT hZ (hw _ (List.mem_of_getElem? (i := 12) rfl))) (mvT hZ (hw _ (List.mem_of_getElem? (i := 13) rfl))) (notFace_of_selects (args := #[]) (mvT hZ (hw _ (List.mem_of_getElem? (i := 15) rfl)))) (mvT hZ (hw _ (List.mem_of_getElem? (i := 15) rfl))) (mvT hZ (hw _ (List.mem_of_getElem? (i := 14) rfl))) (by decide) (backOf (W := 0) (rm3 l Z a0 hw [] b47 ((-(-7046029254386353131 : Int64))) h110 n0 F111 F115 F116 g51) hZ (hw _ (List.mem_of_getElem? (i := 16) rfl)) (hw _ (List.mem_of_getElem? (i := 3) rfl)) (by decide) (by decide)) q121a q121c (g := (mkF m 95 #[.val (.long p0), .second, .val (.long p1), .second, .val (.int p2), .val (.long (-7046029254386353131 : Int64)), .second, .val (.long z3), .second, .val (.ref b5), .val (.ref b14), .val (.ref b28), .val (.ref b47), .val (.long (f3 p0)), .second, .val (.long z94), .second, .val (.long z108), .second, .val (.long (f3 z3)), .second, .unset, .unset, .unset, .unset, .unset] [(.ref b47)])) rfl (by rw [hml]; rfl) (Steps.refl _) (argsL := []) (rest := []) (lenOf pd_1 rfl) rfl (by show 2 * 0 + _ ≤ _; exact Nat.le_of_eq rfl) (hb hby at_95) (fun _ _ => ⟨rfl, e110, (by decide : 4 + 0 ≤ _), (by decide : 4 + 0 ≤ _)⟩)
        dsimp only [Pt.U, Pt.locs, Pt.cells, Pt.slots] at X121 l121 y121 z121 st121 hQ121
        subst l121 y121 z121
        obtain ⟨h121, e121⟩ : ∃ z, T121.heap = z := ⟨_, rfl⟩
        rw [e121] at hQ121
        obtain ⟨rfl, N121q, K121, F130, F131⟩ := hQ121
        have N121 := Fr.app N110 N121q
        have F122 : n0 ≤ h121.size := Nat.le_trans F111 K121.1
        have F123 : Exa Z h121 b5 "org/trentasette/Spinner" := F112.keep K121
        have F124 : Exa Z h121 b14 "org/trentasette/Spinner" := F113.keep K121
        have F125 : Exa Z h121 b28 "org/trentasette/Spinner" := F119.keep K121
        have F126 : Exa Z h121 b47 "org/trentasette/Spinner" := F115.keep K121
        have F127 : Fld Z h121 b5 "org/trentasette/Spinner" "state" "J" (.long ((p0 + (-7046029254386353131 : Int64)) + (-7046029254386353131 : Int64))) := F117.keep K121 (ninS ne48 nin0)
        have F128 : Fld Z h121 b14 "org/trentasette/Spinner" "state" "J" (.long ((p0 + (-7046029254386353131 : Int64)) + (-7046029254386353131 : Int64))) := F118.keep K121 (ninS ne49 nin0)
        have F129 : Fld Z h121 b28 "org/trentasette/Spinner" "state" "J" (.long (z3 + (-7046029254386353131 : Int64))) := F120.keep K121 (ninS ne50 nin0)
        refine Go.trans st121 ?_
        show Go p.tables e below (P0 Z p0 p1 p2 h0 n0 s) (T121.setTop (mkF m 98 #[.val (.long p0), .second, .val (.long p1), .second, .val (.int p2), .val (.long (-7046029254386353131 : Int64)), .second, .val (.long z3), .second, .val (.ref b5), .val (.ref b14), .val (.ref b28), .val (.ref b47), .val (.long (f3 p0)), .second, .val (.long z94), .second, .val (.long z108), .second, .val (.long (f3 z3)), .second, .unset, .unset, .unset, .unset, .unset] [(.long (f3 ((-(-7046029254386353131 : Int64)))))]))
        refine Go.back (fun t k => XS.lstore X121.here hx rfl (hb hby at_98) rfl (l' := #[.val (.long p0), .second, .val (.long p1), .second, .val (.int p2), .val (.long (-7046029254386353131 : Int64)), .second, .val (.long z3), .second, .val (.ref b5), .val (.ref b14), .val (.ref b28), .val (.ref b47), .val (.long (f3 p0)), .second, .val (.long z94), .second, .val (.long z108), .second, .val (.long (f3 z3)), .second, .val (.long (f3 ((-(-7046029254386353131 : Int64))))), .second, .unset, .unset, .unset]) rfl k) ?_
        show Go p.tables e below (P0 Z p0 p1 p2 h0 n0 s) (T121.setTop (mkF m 100 #[.val (.long p0), .second, .val (.long p1), .second, .val (.int p2), .val (.long (-7046029254386353131 : Int64)), .second, .val (.long z3), .second, .val (.ref b5), .val (.ref b14), .val (.ref b28), .val (.ref b47), .val (.long (f3 p0)), .second, .val (.long z94), .second, .val (.long z108), .second, .val (.long (f3 z3)), .second, .val (.long (f3 ((-(-7046029254386353131 : Int64))))), .second, .unset, .unset, .unset] []))
        have J132 : ∀ (z133 : Int64) (hz133 : z133 = (f3 ((-(-7046029254386353131 : Int64))))), Go p.tables e below (P0 Z p0 p1 p2 h0 n0 s) (T121.setTop (mkF m 100 #[.val (.long p0), .second, .val (.long p1), .second, .val (.int p2), .val (.long (-7046029254386353131 : Int64)), .second, .val (.long z3), .second, .val (.ref b5), .val (.ref b14), .val (.ref b28), .val (.ref b47), .val (.long (f3 p0)), .second, .val (.long z94), .second, .val (.long z108), .second, .val (.long (f3 z3)), .second, .val (.long z133), .second, .unset, .unset, .unset] [])) := by
          intro z133 hz133
          have r134 : f0 p0 p1 p2 = (let z137 : Bool := (if z94 = z108 then true else false); (let z141 : Bool := (if (f3 z3) = (f3 p0) then true else false); (let z145 : Bool := (if z3 = p0 then true else false); (let z149 : Bool := (if z141 = z145 then true else false); (let z153 : Bool := (if z133 = (0 : Int64) then true else false); (let z157 : Bool := (if z137 = true then (if z149 = true then (if z153 = true then true else false) else false) else false); z157)))))) := by subst hz133; exact r109
          show Go p.tables e below (P0 Z p0 p1 p2 h0 n0 s) (T121.setTop (mkF m 100 #[.val (.long p0), .second, .val (.long p1), .second, .val (.int p2), .val (.long (-7046029254386353131 : Int64)), .second, .val (.long z3), .second, .val (.ref b5), .val (.ref b14), .val (.ref b28), .val (.ref b47), .val (.long (f3 p0)), .second, .val (.long z94), .second, .val (.long z108), .second, .val (.long (f3 z3)), .second, .val (.long z133), .second, .unset, .unset, .unset] []))
          refine Go.back (fun t k => XS.lload X121.here hx rfl (hb hby at_100) rfl  k) ?_
          show Go p.tables e below (P0 Z p0 p1 p2 h0 n0 s) (T121.setTop (mkF m 102 #[.val (.long p0), .second, .val (.long p1), .second, .val (.int p2), .val (.long (-7046029254386353131 : Int64)), .second, .val (.long z3), .second, .val (.ref b5), .val (.ref b14), .val (.ref b28), .val (.ref b47), .val (.long (f3 p0)), .second, .val (.long z94), .second, .val (.long z108), .second, .val (.long (f3 z3)), .second, .val (.long z133), .second, .unset, .unset, .unset] [(.long z94)]))
          refine Go.back (fun t k => XS.lload X121.here hx rfl (hb hby at_102) rfl  k) ?_
          show Go p.tables e below (P0 Z p0 p1 p2 h0 n0 s) (T121.setTop (mkF m 104 #[.val (.long p0), .second, .val (.long p1), .second, .val (.int p2), .val (.long (-7046029254386353131 : Int64)), .second, .val (.long z3), .second, .val (.ref b5), .val (.ref b14), .val (.ref b28), .val (.ref b47), .val (.long (f3 p0)), .second, .val (.long z94), .second, .val (.long z108), .second, .val (.long (f3 z3)), .second, .val (.long z133), .second, .unset, .unset, .unset] [(.long z108), (.long z94)]))
          refine Go.back (fun t k => XS.lcmp X121.here hx rfl (hb hby at_104) rfl k) ?_
          show Go p.tables e below (P0 Z p0 p1 p2 h0 n0 s) (T121.setTop (mkF m 105 #[.val (.long p0), .second, .val (.long p1), .second, .val (.int p2), .val (.long (-7046029254386353131 : Int64)), .second, .val (.long z3), .second, .val (.ref b5), .val (.ref b14), .val (.ref b28), .val (.ref b47), .val (.long (f3 p0)), .second, .val (.long z94), .second, .val (.long z108), .second, .val (.long (f3 z3)), .second, .val (.long z133), .second, .unset, .unset, .unset] [(.int (lcmpW z94 z108))]))
          have J136 : ∀ (z137 : Bool) (hz137 : z137 = (if z94 = z108 then true else false)), Go p.tables e below (P0 Z p0 p1 p2 h0 n0 s) (T121.setTop (mkF m 113 #[.val (.long p0), .second, .val (.long p1), .second, .val (.int p2), .val (.long (-7046029254386353131 : Int64)), .second, .val (.long z3), .second, .val (.ref b5), .val (.ref b14), .val (.ref b28), .val (.ref b47), .val (.long (f3 p0)), .second, .val (.long z94), .second, .val (.long z108), .second, .val (.long (f3 z3)), .second, .val (.long z133), .second, .unset, .unset, .unset] [(.int (b2i z137))])) := by
            intro z137 hz137
            have r138 : f0 p0 p1 p2 = (let z141 : Bool := (if (f3 z3) = (f3 p0) then true else false); (let z145 : Bool := (if z3 = p0 then true else false); (let z149 : Bool := (if z141 = z145 then true else false); (let z153 : Bool := (if z133 = (0 : Int64) then true else false); (let z157 : Bool := (if z137 = true then (if z149 = true then (if z153 = true then true else false) else false) else false); z157))))) := by subst hz137; exact r134
            show Go p.tables e below (P0 Z p0 p1 p2 h0 n0 s) (T121.setTop (mkF m 113 #[.val (.long p0), .second, .val (.long p1), .second, .val (.int p2), .val (.long (-7046029254386353131 : Int64)), .second, .val (.long z3), .second, .val (.ref b5), .val (.ref b14), .val (.ref b28), .val (.ref b47), .val (.long (f3 p0)), .second, .val (.long z94), .second, .val (.long z108), .second, .val (.long (f3 z3)), .second, .val (.long z133), .second, .unset, .unset, .unset] [(.int (b2i z137))]))
            refine Go.back (fun t k => XS.istore X121.here hx rfl (hb hby at_113) rfl (l' := #[.val (.long p0), .second, .val (.long p1), .second, .val (.int p2), .val (.long (-7046029254386353131 : Int64)), .second, .val (.long z3), .second, .val (.ref b5), .val (.ref b14), .val (.ref b28), .val (.ref b47), .val (.long (f3 p0)), .second, .val (.long z94), .second, .val (.long z108), .second, .val (.long (f3 z3)), .second, .val (.long z133), .second, .val (.int (b2i z137)), .unset, .unset]) rfl k) ?_
            show Go p.tables e below (P0 Z p0 p1 p2 h0 n0 s) (T121.setTop (mkF m 115 #[.val (.long p0), .second, .val (.long p1), .second, .val (.int p2), .val (.long (-7046029254386353131 : Int64)), .second, .val (.long z3), .second, .val (.ref b5), .val (.ref b14), .val (.ref b28), .val (.ref b47), .val (.long (f3 p0)), .second, .val (.long z94), .second, .val (.long z108), .second, .val (.long (f3 z3)), .second, .val (.long z133), .second, .val (.int (b2i z137)), .unset, .unset] []))
            refine Go.back (fun t k => XS.lload X121.here hx rfl (hb hby at_115) rfl  k) ?_
            show Go p.tables e below (P0 Z p0 p1 p2 h0 n0 s) (T121.setTop (mkF m 117 #[.val (.long p0), .second, .val (.long p1), .second, .val (.int p2), .val (.long (-7046029254386353131 : Int64)), .second, .val (.long z3), .second, .val (.ref b5), .val (.ref b14), .val (.ref b28), .val (.ref b47), .val (.long (f3 p0)), .second, .val (.long z94), .second, .val (.long z108), .second, .val (.long (f3 z3)), .second, .val (.long z133), .second, .val (.int (b2i z137)), .unset, .unset] [(.long (f3 z3))]))
            refine Go.back (fun t k => XS.lload X121.here hx rfl (hb hby at_117) rfl  k) ?_
            show Go p.tables e below (P0 Z p0 p1 p2 h0 n0 s) (T121.setTop (mkF m 119 #[.val (.long p0), .second, .val (.long p1), .second, .val (.int p2), .val (.long (-7046029254386353131 : Int64)), .second, .val (.long z3), .second, .val (.ref b5), .val (.ref b14), .val (.ref b28), .val (.ref b47), .val (.long (f3 p0)), .second, .val (.long z94), .second, .val (.long z108), .second, .val (.long (f3 z3)), .second, .val (.long z133), .second, .val (.int (b2i z137)), .unset, .unset] [(.long (f3 p0)), (.long (f3 z3))]))
            refine Go.back (fun t k => XS.lcmp X121.here hx rfl (hb hby at_119) rfl k) ?_
            show Go p.tables e below (P0 Z p0 p1 p2 h0 n0 s) (T121.setTop (mkF m 120 #[.val (.long p0), .second, .val (.long p1), .second, .val (.int p2), .val (.long (-7046029254386353131 : Int64)), .second, .val (.long z3), .second, .val (.ref b5), .val (.ref b14), .val (.ref b28), .val (.ref b47), .val (.long (f3 p0)), .second, .val (.long z94), .second, .val (.long z108), .second, .val (.long (f3 z3)), .second, .val (.long z133), .second, .val (.int (b2i z137)), .unset, .unset] [(.int (lcmpW (f3 z3) (f3 p0)))]))
            have J140 : ∀ (z141 : Bool) (hz141 : z141 = (if (f3 z3) = (f3 p0) then true else false)), Go p.tables e below (P0 Z p0 p1 p2 h0 n0 s) (T121.setTop (mkF m 128 #[.val (.long p0), .second, .val (.long p1), .second, .val (.int p2), .val (.long (-7046029254386353131 : Int64)), .second, .val (.long z3), .second, .val (.ref b5), .val (.ref b14), .val (.ref b28), .val (.ref b47), .val (.long (f3 p0)), .second, .val (.long z94), .second, .val (.long z108), .second, .val (.long (f3 z3)), .second, .val (.long z133), .second, .val (.int (b2i z137)), .unset, .unset] [(.int (b2i z141))])) := by
              intro z141 hz141
              have r142 : f0 p0 p1 p2 = (let z145 : Bool := (if z3 = p0 then true else false); (let z149 : Bool := (if z141 = z145 then true else false); (let z153 : Bool := (if z133 = (0 : Int64) then true else false); (let z157 : Bool := (if z137 = true then (if z149 = true then (if z153 = true then true else false) else false) else false); z157)))) := by subst hz141; exact r138
              show Go p.tables e below (P0 Z p0 p1 p2 h0 n0 s) (T121.setTop (mkF m 128 #[.val (.long p0), .second, .val (.long p1), .second, .val (.int p2), .val (.long (-7046029254386353131 : Int64)), .second, .val (.long z3), .second, .val (.ref b5), .val (.ref b14), .val (.ref b28), .val (.ref b47), .val (.long (f3 p0)), .second, .val (.long z94), .second, .val (.long z108), .second, .val (.long (f3 z3)), .second, .val (.long z133), .second, .val (.int (b2i z137)), .unset, .unset] [(.int (b2i z141))]))
              refine Go.back (fun t k => XS.lload X121.here hx rfl (hb hby at_128) rfl  k) ?_
              show Go p.tables e below (P0 Z p0 p1 p2 h0 n0 s) (T121.setTop (mkF m 130 #[.val (.long p0), .second, .val (.long p1), .second, .val (.int p2), .val (.long (-7046029254386353131 : Int64)), .second, .val (.long z3), .second, .val (.ref b5), .val (.ref b14), .val (.ref b28), .val (.ref b47), .val (.long (f3 p0)), .second, .val (.long z94), .second, .val (.long z108), .second, .val (.long (f3 z3)), .second, .val (.long z133), .second, .val (.int (b2i z137)), .unset, .unset] [(.long z3), (.int (b2i z141))]))
              refine Go.back (fun t k => XS.lloadN X121.here hx rfl (hb hby at_130) rfl  k) ?_
              show Go p.tables e below (P0 Z p0 p1 p2 h0 n0 s) (T121.setTop (mkF m 131 #[.val (.long p0), .second, .val (.long p1), .second, .val (.int p2), .val (.long (-7046029254386353131 : Int64)), .second, .val (.long z3), .second, .val (.ref b5), .val (.ref b14), .val (.ref b28), .val (.ref b47), .val (.long (f3 p0)), .second, .val (.long z94), .second, .val (.long z108), .second, .val (.long (f3 z3)), .second, .val (.long z133), .second, .val (.int (b2i z137)), .unset, .unset] [(.long p0), (.long z3), (.int (b2i z141))]))
              refine Go.back (fun t k => XS.lcmp X121.here hx rfl (hb hby at_131) rfl k) ?_
              show Go p.tables e below (P0 Z p0 p1 p2 h0 n0 s) (T121.setTop (mkF m 132 #[.val (.long p0), .second, .val (.long p1), .second, .val (.int p2), .val (.long (-7046029254386353131 : Int64)), .second, .val (.long z3), .second, .val (.ref b5), .val (.ref b14), .val (.ref b28), .val (.ref b47), .val (.long (f3 p0)), .second, .val (.long z94), .second, .val (.long z108), .second, .val (.long (f3 z3)), .second, .val (.long z133), .second, .val (.int (b2i z137)), .unset, .unset] [(.int (lcmpW z3 p0)), (.int (b2i z141))]))
              have J144 : ∀ (z145 : Bool) (hz145 : z145 = (if z3 = p0 then true else false)), Go p.tables e below (P0 Z p0 p1 p2 h0 n0 s) (T121.setTop (mkF m 140 #[.val (.long p0), .second, .val (.long p1), .second, .val (.int p2), .val (.long (-7046029254386353131 : Int64)), .second, .val (.long z3), .second, .val (.ref b5), .val (.ref b14), .val (.ref b28), .val (.ref b47), .val (.long (f3 p0)), .second, .val (.long z94), .second, .val (.long z108), .second, .val (.long (f3 z3)), .second, .val (.long z133), .second, .val (.int (b2i z137)), .unset, .unset] [(.int (b2i z145)), (.int (b2i z141))])) := by
                intro z145 hz145
                have r146 : f0 p0 p1 p2 = (let z149 : Bool := (if z141 = z145 then true else false); (let z153 : Bool := (if z133 = (0 : Int64) then true else false); (let z157 : Bool := (if z137 = true then (if z149 = true then (if z153 = true then true else false) else false) else false); z157))) := by subst hz145; exact r142
                show Go p.tables e below (P0 Z p0 p1 p2 h0 n0 s) (T121.setTop (mkF m 140 #[.val (.long p0), .second, .val (.long p1), .second, .val (.int p2), .val (.long (-7046029254386353131 : Int64)), .second, .val (.long z3), .second, .val (.ref b5), .val (.ref b14), .val (.ref b28), .val (.ref b47), .val (.long (f3 p0)), .second, .val (.long z94), .second, .val (.long z108), .second, .val (.long (f3 z3)), .second, .val (.long z133), .second, .val (.int (b2i z137)), .unset, .unset] [(.int (b2i z145)), (.int (b2i z141))]))
                have J148 : ∀ (z149 : Bool) (hz149 : z149 = (if z141 = z145 then true else false)), Go p.tables e below (P0 Z p0 p1 p2 h0 n0 s) (T121.setTop (mkF m 148 #[.val (.long p0), .second, .val (.long p1), .second, .val (.int p2), .val (.long (-7046029254386353131 : Int64)), .second, .val (.long z3), .second, .val (.ref b5), .val (.ref b14), .val (.ref b28), .val (.ref b47), .val (.long (f3 p0)), .second, .val (.long z94), .second, .val (.long z108), .second, .val (.long (f3 z3)), .second, .val (.long z133), .second, .val (.int (b2i z137)), .unset, .unset] [(.int (b2i z149))])) := by
                  intro z149 hz149
                  have r150 : f0 p0 p1 p2 = (let z153 : Bool := (if z133 = (0 : Int64) then true else false); (let z157 : Bool := (if z137 = true then (if z149 = true then (if z153 = true then true else false) else false) else false); z157)) := by subst hz149; exact r146
                  show Go p.tables e below (P0 Z p0 p1 p2 h0 n0 s) (T121.setTop (mkF m 148 #[.val (.long p0), .second, .val (.long p1), .second, .val (.int p2), .val (.long (-7046029254386353131 : Int64)), .second, .val (.long z3), .second, .val (.ref b5), .val (.ref b14), .val (.ref b28), .val (.ref b47), .val (.long (f3 p0)), .second, .val (.long z94), .second, .val (.long z108), .second, .val (.long (f3 z3)), .second, .val (.long z133), .second, .val (.int (b2i z137)), .unset, .unset] [(.int (b2i z149))]))
                  refine Go.back (fun t k => XS.istore X121.here hx rfl (hb hby at_148) rfl (l' := #[.val (.long p0), .second, .val (.long p1), .second, .val (.int p2), .val (.long (-7046029254386353131 : Int64)), .second, .val (.long z3), .second, .val (.ref b5), .val (.ref b14), .val (.ref b28), .val (.ref b47), .val (.long (f3 p0)), .second, .val (.long z94), .second, .val (.long z108), .second, .val (.long (f3 z3)), .second, .val (.long z133), .second, .val (.int (b2i z137)), .val (.int (b2i z149)), .unset]) rfl k) ?_
                  show Go p.tables e below (P0 Z p0 p1 p2 h0 n0 s) (T121.setTop (mkF m 150 #[.val (.long p0), .second, .val (.long p1), .second, .val (.int p2), .val (.long (-7046029254386353131 : Int64)), .second, .val (.long z3), .second, .val (.ref b5), .val (.ref b14), .val (.ref b28), .val (.ref b47), .val (.long (f3 p0)), .second, .val (.long z94), .second, .val (.long z108), .second, .val (.long (f3 z3)), .second, .val (.long z133), .second, .val (.int (b2i z137)), .val (.int (b2i z149)), .unset] []))
                  refine Go.back (fun t k => XS.lload X121.here hx rfl (hb hby at_150) rfl  k) ?_
                  show Go p.tables e below (P0 Z p0 p1 p2 h0 n0 s) (T121.setTop (mkF m 152 #[.val (.long p0), .second, .val (.long p1), .second, .val (.int p2), .val (.long (-7046029254386353131 : Int64)), .second, .val (.long z3), .second, .val (.ref b5), .val (.ref b14), .val (.ref b28), .val (.ref b47), .val (.long (f3 p0)), .second, .val (.long z94), .second, .val (.long z108), .second, .val (.long (f3 z3)), .second, .val (.long z133), .second, .val (.int (b2i z137)), .val (.int (b2i z149)), .unset] [(.long z133)]))
                  refine Go.back (fun t k => XS.lconst X121.here hx rfl (hb hby at_152) k) ?_
                  show Go p.tables e below (P0 Z p0 p1 p2 h0 n0 s) (T121.setTop (mkF m 153 #[.val (.long p0), .second, .val (.long p1), .second, .val (.int p2), .val (.long (-7046029254386353131 : Int64)), .second, .val (.long z3), .second, .val (.ref b5), .val (.ref b14), .val (.ref b28), .val (.ref b47), .val (.long (f3 p0)), .second, .val (.long z94), .second, .val (.long z108), .second, .val (.long (f3 z3)), .second, .val (.long z133), .second, .val (.int (b2i z137)), .val (.int (b2i z149)), .unset] [(.long (0 : Int64)), (.long z133)]))
                  refine Go.back (fun t k => XS.lcmp X121.here hx rfl (hb hby at_153) rfl k) ?_
                  show Go p.tables e below (P0 Z p0 p1 p2 h0 n0 s) (T121.setTop (mkF m 154 #[.val (.long p0), .second, .val (.long p1), .second, .val (.int p2), .val (.long (-7046029254386353131 : Int64)), .second, .val (.long z3), .second, .val (.ref b5), .val (.ref b14), .val (.ref b28), .val (.ref b47), .val (.long (f3 p0)), .second, .val (.long z94), .second, .val (.long z108), .second, .val (.long (f3 z3)), .second, .val (.long z133), .second, .val (.int (b2i z137)), .val (.int (b2i z149)), .unset] [(.int (lcmpW z133 (0 : Int64)))]))
                  have J152 : ∀ (z153 : Bool) (hz153 : z153 = (if z133 = (0 : Int64) then true else false)), Go p.tables e below (P0 Z p0 p1 p2 h0 n0 s) (T121.setTop (mkF m 162 #[.val (.long p0), .second, .val (.long p1), .second, .val (.int p2), .val (.long (-7046029254386353131 : Int64)), .second, .val (.long z3), .second, .val (.ref b5), .val (.ref b14), .val (.ref b28), .val (.ref b47), .val (.long (f3 p0)), .second, .val (.long z94), .second, .val (.long z108), .second, .val (.long (f3 z3)), .second, .val (.long z133), .second, .val (.int (b2i z137)), .val (.int (b2i z149)), .unset] [(.int (b2i z153))])) := by
                    intro z153 hz153
                    have r154 : f0 p0 p1 p2 = (let z157 : Bool := (if z137 = true then (if z149 = true then (if z153 = true then true else false) else false) else false); z157) := by subst hz153; exact r150
                    show Go p.tables e below (P0 Z p0 p1 p2 h0 n0 s) (T121.setTop (mkF m 162 #[.val (.long p0), .second, .val (.long p1), .second, .val (.int p2), .val (.long (-7046029254386353131 : Int64)), .second, .val (.long z3), .second, .val (.ref b5), .val (.ref b14), .val (.ref b28), .val (.ref b47), .val (.long (f3 p0)), .second, .val (.long z94), .second, .val (.long z108), .second, .val (.long (f3 z3)), .second, .val (.long z133), .second, .val (.int (b2i z137)), .val (.int (b2i z149)), .unset] [(.int (b2i z153))]))
                    refine Go.back (fun t k => XS.istore X121.here hx rfl (hb hby at_162) rfl (l' := #[.val (.long p0), .second, .val (.long p1), .second, .val (.int p2), .val (.long (-7046029254386353131 : Int64)), .second, .val (.long z3), .second, .val (.ref b5), .val (.ref b14), .val (.ref b28), .val (.ref b47), .val (.long (f3 p0)), .second, .val (.long z94), .second, .val (.long z108), .second, .val (.long (f3 z3)), .second, .val (.long z133), .second, .val (.int (b2i z137)), .val (.int (b2i z149)), .val (.int (b2i z153))]) rfl k) ?_
                    show Go p.tables e below (P0 Z p0 p1 p2 h0 n0 s) (T121.setTop (mkF m 164 #[.val (.long p0), .second, .val (.long p1), .second, .val (.int p2), .val (.long (-7046029254386353131 : Int64)), .second, .val (.long z3), .second, .val (.ref b5), .val (.ref b14), .val (.ref b28), .val (.ref b47), .val (.long (f3 p0)), .second, .val (.long z94), .second, .val (.long z108), .second, .val (.long (f3 z3)), .second, .val (.long z133), .second, .val (.int (b2i z137)), .val (.int (b2i z149)), .val (.int (b2i z153))] []))
                    refine Go.back (fun t k => XS.iload X121.here hx rfl (hb hby at_164) rfl  k) ?_
                    show Go p.tables e below (P0 Z p0 p1 p2 h0 n0 s) (T121.setTop (mkF m 166 #[.val (.long p0), .second, .val (.long p1), .second, .val (.int p2), .val (.long (-7046029254386353131 : Int64)), .second, .val (.long z3), .second, .val (.ref b5), .val (.ref b14), .val (.ref b28), .val (.ref b47), .val (.long (f3 p0)), .second, .val (.long z94), .second, .val (.long z108), .second, .val (.long (f3 z3)), .second, .val (.long z133), .second, .val (.int (b2i z137)), .val (.int (b2i z149)), .val (.int (b2i z153))] [(.int (b2i z137))]))
                    have J156 : ∀ (z157 : Bool) (hz157 : z157 = (if z137 = true then (if z149 = true then (if z153 = true then true else false) else false) else false)), Go p.tables e below (P0 Z p0 p1 p2 h0 n0 s) (T121.setTop (mkF m 184 #[.val (.long p0), .second, .val (.long p1), .second, .val (.int p2), .val (.long (-7046029254386353131 : Int64)), .second, .val (.long z3), .second, .val (.ref b5), .val (.ref b14), .val (.ref b28), .val (.ref b47), .val (.long (f3 p0)), .second, .val (.long z94), .second, .val (.long z108), .second, .val (.long (f3 z3)), .second, .val (.long z133), .second, .val (.int (b2i z137)), .val (.int (b2i z149)), .val (.int (b2i z153))] [(.int (b2i z157))])) := by
                      intro z157 hz157
                      have r158 : f0 p0 p1 p2 = z157 := by subst hz157; exact r154
                      show Go p.tables e below (P0 Z p0 p1 p2 h0 n0 s) (T121.setTop (mkF m 184 #[.val (.long p0), .second, .val (.long p1), .second, .val (.int p2), .val (.long (-7046029254386353131 : Int64)), .second, .val (.long z3), .second, .val (.ref b5), .val (.ref b14), .val (.ref b28), .val (.ref b47), .val (.long (f3 p0)), .second, .val (.long z94), .second, .val (.long z108), .second, .val (.long (f3 z3)), .second, .val (.long z133), .second, .val (.int (b2i z137)), .val (.int (b2i z149)), .val (.int (b2i z153))] [(.int (b2i z157))]))
                      exact Go.retB (b := z157) X121 hx Bd.returns (hb hby at_184) Bd.notSynchronized ⟨by rw [r158], N121⟩ (by decide) (by decide)
                    have r159 : (if z137 = true then (if z149 = true then (if z153 = true then true else false) else false) else false) = (if z137 = true then (if z149 = true then (if z153 = true then true else false) else false) else false) := rfl
                    by_cases hc155 : z137 = true
                    · have r160 := r159.trans (if_pos hc155)
                      refine Go.back (fun t k => XS.ifNo X121.here hx rfl (hb hby at_166) rfl ((if0 _ _).trans (feq (b2i_t hc155)).1) k) ?_
                      show Go p.tables e below (P0 Z p0 p1 p2 h0 n0 s) (T121.setTop (mkF m 169 #[.val (.long p0), .second, .val (.long p1), .second, .val (.int p2), .val (.long (-7046029254386353131 : Int64)), .second, .val (.long z3), .second, .val (.ref b5), .val (.ref b14), .val (.ref b28), .val (.ref b47), .val (.long (f3 p0)), .second, .val (.long z94), .second, .val (.long z108), .second, .val (.long (f3 z3)), .second, .val (.long z133), .second, .val (.int (b2i z137)), .val (.int (b2i z149)), .val (.int (b2i z153))] []))
                      refine Go.back (fun t k => XS.iload X121.here hx rfl (hb hby at_169) rfl  k) ?_
                      show Go p.tables e below (P0 Z p0 p1 p2 h0 n0 s) (T121.setTop (mkF m 171 #[.val (.long p0), .second, .val (.long p1), .second, .val (.int p2), .val (.long (-7046029254386353131 : Int64)), .second, .val (.long z3), .second, .val (.ref b5), .val (.ref b14), .val (.ref b28), .val (.ref b47), .val (.long (f3 p0)), .second, .val (.long z94), .second, .val (.long z108), .second, .val (.long (f3 z3)), .second, .val (.long z133), .second, .val (.int (b2i z137)), .val (.int (b2i z149)), .val (.int (b2i z153))] [(.int (b2i z149))]))
                      by_cases hc161 : z149 = true
                      · have r162 := r160.trans (if_pos hc161)
                        refine Go.back (fun t k => XS.ifNo X121.here hx rfl (hb hby at_171) rfl ((if0 _ _).trans (feq (b2i_t hc161)).1) k) ?_
                        show Go p.tables e below (P0 Z p0 p1 p2 h0 n0 s) (T121.setTop (mkF m 174 #[.val (.long p0), .second, .val (.long p1), .second, .val (.int p2), .val (.long (-7046029254386353131 : Int64)), .second, .val (.long z3), .second, .val (.ref b5), .val (.ref b14), .val (.ref b28), .val (.ref b47), .val (.long (f3 p0)), .second, .val (.long z94), .second, .val (.long z108), .second, .val (.long (f3 z3)), .second, .val (.long z133), .second, .val (.int (b2i z137)), .val (.int (b2i z149)), .val (.int (b2i z153))] []))
                        refine Go.back (fun t k => XS.iload X121.here hx rfl (hb hby at_174) rfl  k) ?_
                        show Go p.tables e below (P0 Z p0 p1 p2 h0 n0 s) (T121.setTop (mkF m 176 #[.val (.long p0), .second, .val (.long p1), .second, .val (.int p2), .val (.long (-7046029254386353131 : Int64)), .second, .val (.long z3), .second, .val (.ref b5), .val (.ref b14), .val (.ref b28), .val (.ref b47), .val (.long (f3 p0)), .second, .val (.long z94), .second, .val (.long z108), .second, .val (.long (f3 z3)), .second, .val (.long z133), .second, .val (.int (b2i z137)), .val (.int (b2i z149)), .val (.int (b2i z153))] [(.int (b2i z153))]))
                        by_cases hc163 : z153 = true
                        · have r164 := r162.trans (if_pos hc163)
                          refine Go.back (fun t k => XS.ifNo X121.here hx rfl (hb hby at_176) rfl ((if0 _ _).trans (feq (b2i_t hc163)).1) k) ?_
                          show Go p.tables e below (P0 Z p0 p1 p2 h0 n0 s) (T121.setTop (mkF m 179 #[.val (.long p0), .second, .val (.long p1), .second, .val (.int p2), .val (.long (-7046029254386353131 : Int64)), .second, .val (.long z3), .second, .val (.ref b5), .val (.ref b14), .val (.ref b28), .val (.ref b47), .val (.long (f3 p0)), .second, .val (.long z94), .second, .val (.long z108), .second, .val (.long (f3 z3)), .second, .val (.long z133), .second, .val (.int (b2i z137)), .val (.int (b2i z149)), .val (.int (b2i z153))] []))
                          refine Go.back (fun t k => XS.iconst X121.here hx rfl (hb hby at_179) k) ?_
                          show Go p.tables e below (P0 Z p0 p1 p2 h0 n0 s) (T121.setTop (mkF m 180 #[.val (.long p0), .second, .val (.long p1), .second, .val (.int p2), .val (.long (-7046029254386353131 : Int64)), .second, .val (.long z3), .second, .val (.ref b5), .val (.ref b14), .val (.ref b28), .val (.ref b47), .val (.long (f3 p0)), .second, .val (.long z94), .second, .val (.long z108), .second, .val (.long (f3 z3)), .second, .val (.long z133), .second, .val (.int (b2i z137)), .val (.int (b2i z149)), .val (.int (b2i z153))] [(.int (1 : Int32))]))
                          refine Go.back (fun t k => XS.goto X121.here hx rfl (pc0 := 180) (pc' := 184) rfl (hb hby at_180) (by decide) (by decide) k) ?_
                          show Go p.tables e below (P0 Z p0 p1 p2 h0 n0 s) (T121.setTop (mkF m 184 #[.val (.long p0), .second, .val (.long p1), .second, .val (.int p2), .val (.long (-7046029254386353131 : Int64)), .second, .val (.long z3), .second, .val (.ref b5), .val (.ref b14), .val (.ref b28), .val (.ref b47), .val (.long (f3 p0)), .second, .val (.long z94), .second, .val (.long z108), .second, .val (.long (f3 z3)), .second, .val (.long z133), .second, .val (.int (b2i z137)), .val (.int (b2i z149)), .val (.int (b2i z153))] [(.int (1 : Int32))]))
                          exact J156 true r164.symm
                        · have r165 := r162.trans (if_neg hc163)
                          refine Go.back (fun t k => XS.ifYes X121.here hx rfl (pc0 := 176) (pc' := 183) rfl (hb hby at_176) rfl ((if0 _ _).trans (teq (b2i_f hc163)).1) (by decide) (by decide) k) ?_
                          show Go p.tables e below (P0 Z p0 p1 p2 h0 n0 s) (T121.setTop (mkF m 183 #[.val (.long p0), .second, .val (.long p1), .second, .val (.int p2), .val (.long (-7046029254386353131 : Int64)), .second, .val (.long z3), .second, .val (.ref b5), .val (.ref b14), .val (.ref b28), .val (.ref b47), .val (.long (f3 p0)), .second, .val (.long z94), .second, .val (.long z108), .second, .val (.long (f3 z3)), .second, .val (.long z133), .second, .val (.int (b2i z137)), .val (.int (b2i z149)), .val (.int (b2i z153))] []))
                          refine Go.back (fun t k => XS.iconst X121.here hx rfl (hb hby at_183) k) ?_
                          show Go p.tables e below (P0 Z p0 p1 p2 h0 n0 s) (T121.setTop (mkF m 184 #[.val (.long p0), .second, .val (.long p1), .second, .val (.int p2), .val (.long (-7046029254386353131 : Int64)), .second, .val (.long z3), .second, .val (.ref b5), .val (.ref b14), .val (.ref b28), .val (.ref b47), .val (.long (f3 p0)), .second, .val (.long z94), .second, .val (.long z108), .second, .val (.long (f3 z3)), .second, .val (.long z133), .second, .val (.int (b2i z137)), .val (.int (b2i z149)), .val (.int (b2i z153))] [(.int (0 : Int32))]))
                          exact J156 false r165.symm
                      · have r166 := r160.trans (if_neg hc161)
                        refine Go.back (fun t k => XS.ifYes X121.here hx rfl (pc0 := 171) (pc' := 183) rfl (hb hby at_171) rfl ((if0 _ _).trans (teq (b2i_f hc161)).1) (by decide) (by decide) k) ?_
                        show Go p.tables e below (P0 Z p0 p1 p2 h0 n0 s) (T121.setTop (mkF m 183 #[.val (.long p0), .second, .val (.long p1), .second, .val (.int p2), .val (.long (-7046029254386353131 : Int64)), .second, .val (.long z3), .second, .val (.ref b5), .val (.ref b14), .val (.ref b28), .val (.ref b47), .val (.long (f3 p0)), .second, .val (.long z94), .second, .val (.long z108), .second, .val (.long (f3 z3)), .second, .val (.long z133), .second, .val (.int (b2i z137)), .val (.int (b2i z149)), .val (.int (b2i z153))] []))
                        refine Go.back (fun t k => XS.iconst X121.here hx rfl (hb hby at_183) k) ?_
                        show Go p.tables e below (P0 Z p0 p1 p2 h0 n0 s) (T121.setTop (mkF m 184 #[.val (.long p0), .second, .val (.long p1), .second, .val (.int p2), .val (.long (-7046029254386353131 : Int64)), .second, .val (.long z3), .second, .val (.ref b5), .val (.ref b14), .val (.ref b28), .val (.ref b47), .val (.long (f3 p0)), .second, .val (.long z94), .second, .val (.long z108), .second, .val (.long (f3 z3)), .second, .val (.long z133), .second, .val (.int (b2i z137)), .val (.int (b2i z149)), .val (.int (b2i z153))] [(.int (0 : Int32))]))
                        exact J156 false r166.symm
                    · have r167 := r159.trans (if_neg hc155)
                      refine Go.back (fun t k => XS.ifYes X121.here hx rfl (pc0 := 166) (pc' := 183) rfl (hb hby at_166) rfl ((if0 _ _).trans (teq (b2i_f hc155)).1) (by decide) (by decide) k) ?_
                      show Go p.tables e below (P0 Z p0 p1 p2 h0 n0 s) (T121.setTop (mkF m 183 #[.val (.long p0), .second, .val (.long p1), .second, .val (.int p2), .val (.long (-7046029254386353131 : Int64)), .second, .val (.long z3), .second, .val (.ref b5), .val (.ref b14), .val (.ref b28), .val (.ref b47), .val (.long (f3 p0)), .second, .val (.long z94), .second, .val (.long z108), .second, .val (.long (f3 z3)), .second, .val (.long z133), .second, .val (.int (b2i z137)), .val (.int (b2i z149)), .val (.int (b2i z153))] []))
                      refine Go.back (fun t k => XS.iconst X121.here hx rfl (hb hby at_183) k) ?_
                      show Go p.tables e below (P0 Z p0 p1 p2 h0 n0 s) (T121.setTop (mkF m 184 #[.val (.long p0), .second, .val (.long p1), .second, .val (.int p2), .val (.long (-7046029254386353131 : Int64)), .second, .val (.long z3), .second, .val (.ref b5), .val (.ref b14), .val (.ref b28), .val (.ref b47), .val (.long (f3 p0)), .second, .val (.long z94), .second, .val (.long z108), .second, .val (.long (f3 z3)), .second, .val (.long z133), .second, .val (.int (b2i z137)), .val (.int (b2i z149)), .val (.int (b2i z153))] [(.int (0 : Int32))]))
                      exact J156 false r167.symm
                  have r168 : (if z133 = (0 : Int64) then true else false) = (if z133 = (0 : Int64) then true else false) := rfl
                  by_cases hc151 : z133 = (0 : Int64)
                  · have r169 := r168.trans (if_pos hc151)
                    refine Go.back (fun t k => XS.ifNo X121.here hx rfl (hb hby at_154) rfl ((if0 _ _).trans (teq ((lw_eq _ _).mpr hc151)).2) k) ?_
                    show Go p.tables e below (P0 Z p0 p1 p2 h0 n0 s) (T121.setTop (mkF m 157 #[.val (.long p0), .second, .val (.long p1), .second, .val (.int p2), .val (.long (-7046029254386353131 : Int64)), .second, .val (.long z3), .second, .val (.ref b5), .val (.ref b14), .val (.ref b28), .val (.ref b47), .val (.long (f3 p0)), .second, .val (.long z94), .second, .val (.long z108), .second, .val (.long (f3 z3)), .second, .val (.long z133), .second, .val (.int (b2i z137)), .val (.int (b2i z149)), .unset] []))
                    refine Go.back (fun t k => XS.iconst X121.here hx rfl (hb hby at_157) k) ?_
                    show Go p.tables e below (P0 Z p0 p1 p2 h0 n0 s) (T121.setTop (mkF m 158 #[.val (.long p0), .second, .val (.long p1), .second, .val (.int p2), .val (.long (-7046029254386353131 : Int64)), .second, .val (.long z3), .second, .val (.ref b5), .val (.ref b14), .val (.ref b28), .val (.ref b47), .val (.long (f3 p0)), .second, .val (.long z94), .second, .val (.long z108), .second, .val (.long (f3 z3)), .second, .val (.long z133), .second, .val (.int (b2i z137)), .val (.int (b2i z149)), .unset] [(.int (1 : Int32))]))
                    refine Go.back (fun t k => XS.goto X121.here hx rfl (pc0 := 158) (pc' := 162) rfl (hb hby at_158) (by decide) (by decide) k) ?_
                    show Go p.tables e below (P0 Z p0 p1 p2 h0 n0 s) (T121.setTop (mkF m 162 #[.val (.long p0), .second, .val (.long p1), .second, .val (.int p2), .val (.long (-7046029254386353131 : Int64)), .second, .val (.long z3), .second, .val (.ref b5), .val (.ref b14), .val (.ref b28), .val (.ref b47), .val (.long (f3 p0)), .second, .val (.long z94), .second, .val (.long z108), .second, .val (.long (f3 z3)), .second, .val (.long z133), .second, .val (.int (b2i z137)), .val (.int (b2i z149)), .unset] [(.int (1 : Int32))]))
                    exact J152 true r169.symm
                  · have r170 := r168.trans (if_neg hc151)
                    refine Go.back (fun t k => XS.ifYes X121.here hx rfl (pc0 := 154) (pc' := 161) rfl (hb hby at_154) rfl ((if0 _ _).trans (feq (fun q => hc151 ((lw_eq _ _).mp q))).2) (by decide) (by decide) k) ?_
                    show Go p.tables e below (P0 Z p0 p1 p2 h0 n0 s) (T121.setTop (mkF m 161 #[.val (.long p0), .second, .val (.long p1), .second, .val (.int p2), .val (.long (-7046029254386353131 : Int64)), .second, .val (.long z3), .second, .val (.ref b5), .val (.ref b14), .val (.ref b28), .val (.ref b47), .val (.long (f3 p0)), .second, .val (.long z94), .second, .val (.long z108), .second, .val (.long (f3 z3)), .second, .val (.long z133), .second, .val (.int (b2i z137)), .val (.int (b2i z149)), .unset] []))
                    refine Go.back (fun t k => XS.iconst X121.here hx rfl (hb hby at_161) k) ?_
                    show Go p.tables e below (P0 Z p0 p1 p2 h0 n0 s) (T121.setTop (mkF m 162 #[.val (.long p0), .second, .val (.long p1), .second, .val (.int p2), .val (.long (-7046029254386353131 : Int64)), .second, .val (.long z3), .second, .val (.ref b5), .val (.ref b14), .val (.ref b28), .val (.ref b47), .val (.long (f3 p0)), .second, .val (.long z94), .second, .val (.long z108), .second, .val (.long (f3 z3)), .second, .val (.long z133), .second, .val (.int (b2i z137)), .val (.int (b2i z149)), .unset] [(.int (0 : Int32))]))
                    exact J152 false r170.symm
                have r171 : (if z141 = z145 then true else false) = (if z141 = z145 then true else false) := rfl
                by_cases hc147 : z141 = z145
                · have r172 := r171.trans (if_pos hc147)
                  refine Go.back (fun t k => XS.icmpNo X121.here hx rfl (hb hby at_140) rfl (teq (congrArg b2i hc147)).2 k) ?_
                  show Go p.tables e below (P0 Z p0 p1 p2 h0 n0 s) (T121.setTop (mkF m 143 #[.val (.long p0), .second, .val (.long p1), .second, .val (.int p2), .val (.long (-7046029254386353131 : Int64)), .second, .val (.long z3), .second, .val (.ref b5), .val (.ref b14), .val (.ref b28), .val (.ref b47), .val (.long (f3 p0)), .second, .val (.long z94), .second, .val (.long z108), .second, .val (.long (f3 z3)), .second, .val (.long z133), .second, .val (.int (b2i z137)), .unset, .unset] []))
                  refine Go.back (fun t k => XS.iconst X121.here hx rfl (hb hby at_143) k) ?_
                  show Go p.tables e below (P0 Z p0 p1 p2 h0 n0 s) (T121.setTop (mkF m 144 #[.val (.long p0), .second, .val (.long p1), .second, .val (.int p2), .val (.long (-7046029254386353131 : Int64)), .second, .val (.long z3), .second, .val (.ref b5), .val (.ref b14), .val (.ref b28), .val (.ref b47), .val (.long (f3 p0)), .second, .val (.long z94), .second, .val (.long z108), .second, .val (.long (f3 z3)), .second, .val (.long z133), .second, .val (.int (b2i z137)), .unset, .unset] [(.int (1 : Int32))]))
                  refine Go.back (fun t k => XS.goto X121.here hx rfl (pc0 := 144) (pc' := 148) rfl (hb hby at_144) (by decide) (by decide) k) ?_
                  show Go p.tables e below (P0 Z p0 p1 p2 h0 n0 s) (T121.setTop (mkF m 148 #[.val (.long p0), .second, .val (.long p1), .second, .val (.int p2), .val (.long (-7046029254386353131 : Int64)), .second, .val (.long z3), .second, .val (.ref b5), .val (.ref b14), .val (.ref b28), .val (.ref b47), .val (.long (f3 p0)), .second, .val (.long z94), .second, .val (.long z108), .second, .val (.long (f3 z3)), .second, .val (.long z133), .second, .val (.int (b2i z137)), .unset, .unset] [(.int (1 : Int32))]))
                  exact J148 true r172.symm
                · have r173 := r171.trans (if_neg hc147)
                  refine Go.back (fun t k => XS.icmpYes X121.here hx rfl (pc0 := 140) (pc' := 147) rfl (hb hby at_140) rfl (feq (fun q => hc147 (b2i_inj q))).2 (by decide) (by decide) k) ?_
                  show Go p.tables e below (P0 Z p0 p1 p2 h0 n0 s) (T121.setTop (mkF m 147 #[.val (.long p0), .second, .val (.long p1), .second, .val (.int p2), .val (.long (-7046029254386353131 : Int64)), .second, .val (.long z3), .second, .val (.ref b5), .val (.ref b14), .val (.ref b28), .val (.ref b47), .val (.long (f3 p0)), .second, .val (.long z94), .second, .val (.long z108), .second, .val (.long (f3 z3)), .second, .val (.long z133), .second, .val (.int (b2i z137)), .unset, .unset] []))
                  refine Go.back (fun t k => XS.iconst X121.here hx rfl (hb hby at_147) k) ?_
                  show Go p.tables e below (P0 Z p0 p1 p2 h0 n0 s) (T121.setTop (mkF m 148 #[.val (.long p0), .second, .val (.long p1), .second, .val (.int p2), .val (.long (-7046029254386353131 : Int64)), .second, .val (.long z3), .second, .val (.ref b5), .val (.ref b14), .val (.ref b28), .val (.ref b47), .val (.long (f3 p0)), .second, .val (.long z94), .second, .val (.long z108), .second, .val (.long (f3 z3)), .second, .val (.long z133), .second, .val (.int (b2i z137)), .unset, .unset] [(.int (0 : Int32))]))
                  exact J148 false r173.symm
              have r174 : (if z3 = p0 then true else false) = (if z3 = p0 then true else false) := rfl
              by_cases hc143 : z3 = p0
              · have r175 := r174.trans (if_pos hc143)
                refine Go.back (fun t k => XS.ifNo X121.here hx rfl (hb hby at_132) rfl ((if0 _ _).trans (teq ((lw_eq _ _).mpr hc143)).2) k) ?_
                show Go p.tables e below (P0 Z p0 p1 p2 h0 n0 s) (T121.setTop (mkF m 135 #[.val (.long p0), .second, .val (.long p1), .second, .val (.int p2), .val (.long (-7046029254386353131 : Int64)), .second, .val (.long z3), .second, .val (.ref b5), .val (.ref b14), .val (.ref b28), .val (.ref b47), .val (.long (f3 p0)), .second, .val (.long z94), .second, .val (.long z108), .second, .val (.long (f3 z3)), .second, .val (.long z133), .second, .val (.int (b2i z137)), .unset, .unset] [(.int (b2i z141))]))
                refine Go.back (fun t k => XS.iconst X121.here hx rfl (hb hby at_135) k) ?_
                show Go p.tables e below (P0 Z p0 p1 p2 h0 n0 s) (T121.setTop (mkF m 136 #[.val (.long p0), .second, .val (.long p1), .second, .val (.int p2), .val (.long (-7046029254386353131 : Int64)), .second, .val (.long z3), .second, .val (.ref b5), .val (.ref b14), .val (.ref b28), .val (.ref b47), .val (.long (f3 p0)), .second, .val (.long z94), .second, .val (.long z108), .second, .val (.long (f3 z3)), .second, .val (.long z133), .second, .val (.int (b2i z137)), .unset, .unset] [(.int (1 : Int32)), (.int (b2i z141))]))
                refine Go.back (fun t k => XS.goto X121.here hx rfl (pc0 := 136) (pc' := 140) rfl (hb hby at_136) (by decide) (by decide) k) ?_
                show Go p.tables e below (P0 Z p0 p1 p2 h0 n0 s) (T121.setTop (mkF m 140 #[.val (.long p0), .second, .val (.long p1), .second, .val (.int p2), .val (.long (-7046029254386353131 : Int64)), .second, .val (.long z3), .second, .val (.ref b5), .val (.ref b14), .val (.ref b28), .val (.ref b47), .val (.long (f3 p0)), .second, .val (.long z94), .second, .val (.long z108), .second, .val (.long (f3 z3)), .second, .val (.long z133), .second, .val (.int (b2i z137)), .unset, .unset] [(.int (1 : Int32)), (.int (b2i z141))]))
                exact J144 true r175.symm
              · have r176 := r174.trans (if_neg hc143)
                refine Go.back (fun t k => XS.ifYes X121.here hx rfl (pc0 := 132) (pc' := 139) rfl (hb hby at_132) rfl ((if0 _ _).trans (feq (fun q => hc143 ((lw_eq _ _).mp q))).2) (by decide) (by decide) k) ?_
                show Go p.tables e below (P0 Z p0 p1 p2 h0 n0 s) (T121.setTop (mkF m 139 #[.val (.long p0), .second, .val (.long p1), .second, .val (.int p2), .val (.long (-7046029254386353131 : Int64)), .second, .val (.long z3), .second, .val (.ref b5), .val (.ref b14), .val (.ref b28), .val (.ref b47), .val (.long (f3 p0)), .second, .val (.long z94), .second, .val (.long z108), .second, .val (.long (f3 z3)), .second, .val (.long z133), .second, .val (.int (b2i z137)), .unset, .unset] [(.int (b2i z141))]))
                refine Go.back (fun t k => XS.iconst X121.here hx rfl (hb hby at_139) k) ?_
                show Go p.tables e below (P0 Z p0 p1 p2 h0 n0 s) (T121.setTop (mkF m 140 #[.val (.long p0), .second, .val (.long p1), .second, .val (.int p2), .val (.long (-7046029254386353131 : Int64)), .second, .val (.long z3), .second, .val (.ref b5), .val (.ref b14), .val (.ref b28), .val (.ref b47), .val (.long (f3 p0)), .second, .val (.long z94), .second, .val (.long z108), .second, .val (.long (f3 z3)), .second, .val (.long z133), .second, .val (.int (b2i z137)), .unset, .unset] [(.int (0 : Int32)), (.int (b2i z141))]))
                exact J144 false r176.symm
            have r177 : (if (f3 z3) = (f3 p0) then true else false) = (if (f3 z3) = (f3 p0) then true else false) := rfl
            by_cases hc139 : (f3 z3) = (f3 p0)
            · have r178 := r177.trans (if_pos hc139)
              refine Go.back (fun t k => XS.ifNo X121.here hx rfl (hb hby at_120) rfl ((if0 _ _).trans (teq ((lw_eq _ _).mpr hc139)).2) k) ?_
              show Go p.tables e below (P0 Z p0 p1 p2 h0 n0 s) (T121.setTop (mkF m 123 #[.val (.long p0), .second, .val (.long p1), .second, .val (.int p2), .val (.long (-7046029254386353131 : Int64)), .second, .val (.long z3), .second, .val (.ref b5), .val (.ref b14), .val (.ref b28), .val (.ref b47), .val (.long (f3 p0)), .second, .val (.long z94), .second, .val (.long z108), .second, .val (.long (f3 z3)), .second, .val (.long z133), .second, .val (.int (b2i z137)), .unset, .unset] []))
              refine Go.back (fun t k => XS.iconst X121.here hx rfl (hb hby at_123) k) ?_
              show Go p.tables e below (P0 Z p0 p1 p2 h0 n0 s) (T121.setTop (mkF m 124 #[.val (.long p0), .second, .val (.long p1), .second, .val (.int p2), .val (.long (-7046029254386353131 : Int64)), .second, .val (.long z3), .second, .val (.ref b5), .val (.ref b14), .val (.ref b28), .val (.ref b47), .val (.long (f3 p0)), .second, .val (.long z94), .second, .val (.long z108), .second, .val (.long (f3 z3)), .second, .val (.long z133), .second, .val (.int (b2i z137)), .unset, .unset] [(.int (1 : Int32))]))
              refine Go.back (fun t k => XS.goto X121.here hx rfl (pc0 := 124) (pc' := 128) rfl (hb hby at_124) (by decide) (by decide) k) ?_
              show Go p.tables e below (P0 Z p0 p1 p2 h0 n0 s) (T121.setTop (mkF m 128 #[.val (.long p0), .second, .val (.long p1), .second, .val (.int p2), .val (.long (-7046029254386353131 : Int64)), .second, .val (.long z3), .second, .val (.ref b5), .val (.ref b14), .val (.ref b28), .val (.ref b47), .val (.long (f3 p0)), .second, .val (.long z94), .second, .val (.long z108), .second, .val (.long (f3 z3)), .second, .val (.long z133), .second, .val (.int (b2i z137)), .unset, .unset] [(.int (1 : Int32))]))
              exact J140 true r178.symm
            · have r179 := r177.trans (if_neg hc139)
              refine Go.back (fun t k => XS.ifYes X121.here hx rfl (pc0 := 120) (pc' := 127) rfl (hb hby at_120) rfl ((if0 _ _).trans (feq (fun q => hc139 ((lw_eq _ _).mp q))).2) (by decide) (by decide) k) ?_
              show Go p.tables e below (P0 Z p0 p1 p2 h0 n0 s) (T121.setTop (mkF m 127 #[.val (.long p0), .second, .val (.long p1), .second, .val (.int p2), .val (.long (-7046029254386353131 : Int64)), .second, .val (.long z3), .second, .val (.ref b5), .val (.ref b14), .val (.ref b28), .val (.ref b47), .val (.long (f3 p0)), .second, .val (.long z94), .second, .val (.long z108), .second, .val (.long (f3 z3)), .second, .val (.long z133), .second, .val (.int (b2i z137)), .unset, .unset] []))
              refine Go.back (fun t k => XS.iconst X121.here hx rfl (hb hby at_127) k) ?_
              show Go p.tables e below (P0 Z p0 p1 p2 h0 n0 s) (T121.setTop (mkF m 128 #[.val (.long p0), .second, .val (.long p1), .second, .val (.int p2), .val (.long (-7046029254386353131 : Int64)), .second, .val (.long z3), .second, .val (.ref b5), .val (.ref b14), .val (.ref b28), .val (.ref b47), .val (.long (f3 p0)), .second, .val (.long z94), .second, .val (.long z108), .second, .val (.long (f3 z3)), .second, .val (.long z133), .second, .val (.int (b2i z137)), .unset, .unset] [(.int (0 : Int32))]))
              exact J140 false r179.symm
          have r180 : (if z94 = z108 then true else false) = (if z94 = z108 then true else false) := rfl
          by_cases hc135 : z94 = z108
          · have r181 := r180.trans (if_pos hc135)
            refine Go.back (fun t k => XS.ifNo X121.here hx rfl (hb hby at_105) rfl ((if0 _ _).trans (teq ((lw_eq _ _).mpr hc135)).2) k) ?_
            show Go p.tables e below (P0 Z p0 p1 p2 h0 n0 s) (T121.setTop (mkF m 108 #[.val (.long p0), .second, .val (.long p1), .second, .val (.int p2), .val (.long (-7046029254386353131 : Int64)), .second, .val (.long z3), .second, .val (.ref b5), .val (.ref b14), .val (.ref b28), .val (.ref b47), .val (.long (f3 p0)), .second, .val (.long z94), .second, .val (.long z108), .second, .val (.long (f3 z3)), .second, .val (.long z133), .second, .unset, .unset, .unset] []))
            refine Go.back (fun t k => XS.iconst X121.here hx rfl (hb hby at_108) k) ?_
            show Go p.tables e below (P0 Z p0 p1 p2 h0 n0 s) (T121.setTop (mkF m 109 #[.val (.long p0), .second, .val (.long p1), .second, .val (.int p2), .val (.long (-7046029254386353131 : Int64)), .second, .val (.long z3), .second, .val (.ref b5), .val (.ref b14), .val (.ref b28), .val (.ref b47), .val (.long (f3 p0)), .second, .val (.long z94), .second, .val (.long z108), .second, .val (.long (f3 z3)), .second, .val (.long z133), .second, .unset, .unset, .unset] [(.int (1 : Int32))]))
            refine Go.back (fun t k => XS.goto X121.here hx rfl (pc0 := 109) (pc' := 113) rfl (hb hby at_109) (by decide) (by decide) k) ?_
            show Go p.tables e below (P0 Z p0 p1 p2 h0 n0 s) (T121.setTop (mkF m 113 #[.val (.long p0), .second, .val (.long p1), .second, .val (.int p2), .val (.long (-7046029254386353131 : Int64)), .second, .val (.long z3), .second, .val (.ref b5), .val (.ref b14), .val (.ref b28), .val (.ref b47), .val (.long (f3 p0)), .second, .val (.long z94), .second, .val (.long z108), .second, .val (.long (f3 z3)), .second, .val (.long z133), .second, .unset, .unset, .unset] [(.int (1 : Int32))]))
            exact J136 true r181.symm
          · have r182 := r180.trans (if_neg hc135)
            refine Go.back (fun t k => XS.ifYes X121.here hx rfl (pc0 := 105) (pc' := 112) rfl (hb hby at_105) rfl ((if0 _ _).trans (feq (fun q => hc135 ((lw_eq _ _).mp q))).2) (by decide) (by decide) k) ?_
            show Go p.tables e below (P0 Z p0 p1 p2 h0 n0 s) (T121.setTop (mkF m 112 #[.val (.long p0), .second, .val (.long p1), .second, .val (.int p2), .val (.long (-7046029254386353131 : Int64)), .second, .val (.long z3), .second, .val (.ref b5), .val (.ref b14), .val (.ref b28), .val (.ref b47), .val (.long (f3 p0)), .second, .val (.long z94), .second, .val (.long z108), .second, .val (.long (f3 z3)), .second, .val (.long z133), .second, .unset, .unset, .unset] []))
            refine Go.back (fun t k => XS.iconst X121.here hx rfl (hb hby at_112) k) ?_
            show Go p.tables e below (P0 Z p0 p1 p2 h0 n0 s) (T121.setTop (mkF m 113 #[.val (.long p0), .second, .val (.long p1), .second, .val (.int p2), .val (.long (-7046029254386353131 : Int64)), .second, .val (.long z3), .second, .val (.ref b5), .val (.ref b14), .val (.ref b28), .val (.ref b47), .val (.long (f3 p0)), .second, .val (.long z94), .second, .val (.long z108), .second, .val (.long (f3 z3)), .second, .val (.long z133), .second, .unset, .unset, .unset] [(.int (0 : Int32))]))
            exact J136 false r182.symm
        exact J132 _ rfl
      exact J107 _ rfl
    exact J93 _ rfl
  have r183 : (if (p2 &&& (1 : Int32)) = (0 : Int32) then p1 else p0) = (if (p2 &&& (1 : Int32)) = (0 : Int32) then p1 else p0) := rfl
  by_cases hc1 : (p2 &&& (1 : Int32)) = (0 : Int32)
  · have r184 := r183.trans (if_pos hc1)
    refine Go.back (fun t k => XS.ifYes X0.here hx rfl (pc0 := 9) (pc' := 16) rfl (hb hby at_9) rfl ((if0 _ _).trans (teq hc1).1) (by decide) (by decide) k) ?_
    show Go p.tables e below (P0 Z p0 p1 p2 h0 n0 s) (s₁.setTop (mkF m 16 #[.val (.long p0), .second, .val (.long p1), .second, .val (.int p2), .val (.long (-7046029254386353131 : Int64)), .second, .unset, .unset, .unset, .unset, .unset, .unset, .unset, .unset, .unset, .unset, .unset, .unset, .unset, .unset, .unset, .unset, .unset, .unset, .unset] []))
    refine Go.back (fun t k => XS.lloadN X0.here hx rfl (hb hby at_16) rfl  k) ?_
    show Go p.tables e below (P0 Z p0 p1 p2 h0 n0 s) (s₁.setTop (mkF m 17 #[.val (.long p0), .second, .val (.long p1), .second, .val (.int p2), .val (.long (-7046029254386353131 : Int64)), .second, .unset, .unset, .unset, .unset, .unset, .unset, .unset, .unset, .unset, .unset, .unset, .unset, .unset, .unset, .unset, .unset, .unset, .unset, .unset] [(.long p1)]))
    exact J2 p1 r184.symm
  · have r185 := r183.trans (if_neg hc1)
    refine Go.back (fun t k => XS.ifNo X0.here hx rfl (hb hby at_9) rfl ((if0 _ _).trans (feq hc1).1) k) ?_
    show Go p.tables e below (P0 Z p0 p1 p2 h0 n0 s) (s₁.setTop (mkF m 12 #[.val (.long p0), .second, .val (.long p1), .second, .val (.int p2), .val (.long (-7046029254386353131 : Int64)), .second, .unset, .unset, .unset, .unset, .unset, .unset, .unset, .unset, .unset, .unset, .unset, .unset, .unset, .unset, .unset, .unset, .unset, .unset, .unset] []))
    refine Go.back (fun t k => XS.lloadN X0.here hx rfl (hb hby at_12) rfl  k) ?_
    show Go p.tables e below (P0 Z p0 p1 p2 h0 n0 s) (s₁.setTop (mkF m 13 #[.val (.long p0), .second, .val (.long p1), .second, .val (.int p2), .val (.long (-7046029254386353131 : Int64)), .second, .unset, .unset, .unset, .unset, .unset, .unset, .unset, .unset, .unset, .unset, .unset, .unset, .unset, .unset, .unset, .unset, .unset, .unset, .unset] [(.long p0)]))
    refine Go.back (fun t k => XS.goto X0.here hx rfl (pc0 := 13) (pc' := 17) rfl (hb hby at_13) (by decide) (by decide) k) ?_
    show Go p.tables e below (P0 Z p0 p1 p2 h0 n0 s) (s₁.setTop (mkF m 17 #[.val (.long p0), .second, .val (.long p1), .second, .val (.int p2), .val (.long (-7046029254386353131 : Int64)), .second, .unset, .unset, .unset, .unset, .unset, .unset, .unset, .unset, .unset, .unset, .unset, .unset, .unset, .unset, .unset, .unset, .unset, .unset, .unset] [(.long p0)]))
    exact J2 p0 r185.symm
theorem own_shr (k : Nat) (x y : BitVec 64) : (x ^^^ y) >>> k = (x >>> k) ^^^ (y >>> k) := BitVec.ushiftRight_xor_distrib x y k
theorem own_xs (k : Nat) (hk : 22 ≤ k) (x y : BitVec 64) (h : x ^^^ (x >>> k) = y ^^^ (y >>> k)) : x = y := by
  have d : x ^^^ y = (x ^^^ y) >>> k := by
    rw [own_shr]
    have e : (x ^^^ (x >>> k)) ^^^ (y ^^^ (y >>> k)) = 0#64 := by rw [h, BitVec.xor_self]
    have e2 : (x ^^^ y) ^^^ ((x >>> k) ^^^ (y >>> k)) = 0#64 := by
      rw [← e]; apply BitVec.eq_of_getLsbD_eq; intro i hi; simp only [BitVec.getLsbD_xor]
      cases x.getLsbD i <;> cases y.getLsbD i <;> cases (x >>> k).getLsbD i <;> cases (y >>> k).getLsbD i <;> rfl
    have e3 : ((x ^^^ y) ^^^ ((x >>> k) ^^^ (y >>> k))) ^^^ ((x >>> k) ^^^ (y >>> k)) = 0#64 ^^^ ((x >>> k) ^^^ (y >>> k)) := by rw [e2]
    rw [BitVec.xor_assoc, BitVec.xor_self, BitVec.xor_zero, BitVec.zero_xor] at e3
    exact e3
  have z : x ^^^ y = 0#64 := by
    generalize x ^^^ y = D at d
    have e2 : D = D >>> (k + k) := by rw [BitVec.shiftRight_add]; rw [← d]; exact d
    have e3 : D = D >>> (k + k + k) := by rw [BitVec.shiftRight_add]; rw [← e2]; exact d
    apply BitVec.eq_of_toNat_eq
    rw [e3, BitVec.toNat_ushiftRight, Nat.shiftRight_eq_div_pow]
    have := D.isLt
    rw [Nat.div_eq_of_lt (Nat.lt_of_lt_of_le this (Nat.pow_le_pow_right (by decide) (by omega)))]
    rfl
  have : x ^^^ (x ^^^ y) = x ^^^ 0#64 := by rw [z]
  rw [← BitVec.xor_assoc, BitVec.xor_self, BitVec.zero_xor, BitVec.xor_zero] at this
  exact this.symm
theorem own_x30 (x y : Int64) (h : x ^^^ (((x).toUInt64 >>> ((30 : Int32) &&& 0x3f).toInt64.toUInt64).toInt64) = y ^^^ (((y).toUInt64 >>> ((30 : Int32) &&& 0x3f).toInt64.toUInt64).toInt64)) : x = y :=
  Int64.toBitVec_inj.mp (own_xs 30 (by decide) _ _ (congrArg Int64.toBitVec h))
theorem own_x27 (x y : Int64) (h : x ^^^ (((x).toUInt64 >>> ((27 : Int32) &&& 0x3f).toInt64.toUInt64).toInt64) = y ^^^ (((y).toUInt64 >>> ((27 : Int32) &&& 0x3f).toInt64.toUInt64).toInt64)) : x = y :=
  Int64.toBitVec_inj.mp (own_xs 27 (by decide) _ _ (congrArg Int64.toBitVec h))
theorem own_x31 (x y : Int64) (h : x ^^^ (((x).toUInt64 >>> ((31 : Int32) &&& 0x3f).toInt64.toUInt64).toInt64) = y ^^^ (((y).toUInt64 >>> ((31 : Int32) &&& 0x3f).toInt64.toUInt64).toInt64)) : x = y :=
  Int64.toBitVec_inj.mp (own_xs 31 (by decide) _ _ (congrArg Int64.toBitVec h))
theorem own_mul (c d : Int64) (hcd : c * d = 1) (x y : Int64) (h : x * c = y * c) : x = y := by
  have e : x * c * d = y * c * d := by rw [h]
  rw [Int64.mul_assoc, Int64.mul_assoc, hcd, Int64.mul_one, Int64.mul_one] at e
  exact e
theorem own_inj (a b : Int64) (h : f3 a = f3 b) : a = b := by
  unfold f3 at h
  have h1 := own_x31 _ _ h
  have h2 := own_x27 _ _ (own_mul _ (3573116690164977347 : Int64) (by decide +kernel) _ _ h1)
  have h3 := own_x30 _ _ (own_mul _ (-7575587736534282103 : Int64) (by decide +kernel) _ _ h2)
  have e : a + (-7046029254386353131 : Int64) - (-7046029254386353131 : Int64) = b + (-7046029254386353131 : Int64) - (-7046029254386353131 : Int64) := by rw [h3]
  rw [Int64.add_sub_cancel, Int64.add_sub_cancel] at e
  exact e
theorem own_law (p0 p1 : Int64) (p2 : Int32) : f0 p0 p1 p2 = true := by
  have z : f3 (-(-7046029254386353131 : Int64)) = (0 : Int64) := by decide +kernel
  unfold f0
  generalize (if (p2 &&& (1 : Int32)) = (0 : Int32) then p1 else p0) = t
  have i : (f3 t = f3 p0) = (t = p0) := propext ⟨own_inj t p0, fun e => by rw [e]⟩
  simp only [i, z, if_true]
set_option maxRecDepth 65536 in
set_option maxHeartbeats 40000000 in
theorem comes_1 {Post : Tables → Env → Array Value → State → Outcome → State → Prop} (hpost : ∀ tb e args s v u, (limb_1_1.after args s (.returned v) u = true ∧ limb_1_2.after args s (.returned v) u = true ∧ True) → FrameEnd s (.returned v) u (Jvm.fieldLocs frame_1_writes args s ++ Jvm.arrayLocs frame_1_arrays args s ++ Jvm.staticLocs frame_1_statics s) 16 128 → Post tb e args s (.returned v) u) :
    ArmFor flags0 classFile x code maxLocals ret World_1 tables_1 room_1 Calls_1 rest_1 Pre_1 Post := by
  intro l hfl _ _ p e ha hc hk s m args below hf hA hF happ hP
  obtain ⟨hcalls, hrest, hpre⟩ := hP
  obtain ⟨-, -, -, hnamed, -, -, -, hat⟩ := (Spec.applies_iff hf).mp happ
  obtain ⟨hg, hn⟩ := and_e (Cond.before_iff.mp (show (Jvm.Cond.and given_1 narrow_1).before args s = true from hpre))
  obtain ⟨g1, g2⟩ := and_e hg
  obtain ⟨g3, g4⟩ := and_e g2
  obtain ⟨g5, g6⟩ := and_e g4
  obtain ⟨w0, w1, w2, rfl⟩ : ∃ w0 w1 w2 : Value, args = #[w0, w1, w2] := by
    have hs : args.size = 3 := by simpa [Cond.value, given_1] using g1
    obtain ⟨L⟩ := args
    match L, hs with
    | [w0, w1, w2], _ => exact ⟨w0, w1, w2, rfl⟩
  have hw := fun d (hd : d ∈ tables_1) => atoms_spec (ws := Jvm.Cond.code x code maxLocals ret :: tables_1) hat d (List.mem_cons_of_mem _ hd)
  have hfit : Fit s := fun {y c} hc i hi => by
    obtain ⟨ha, rfl⟩ := Array.getElem?_eq_some_iff.mp hc
    have q := List.all_eq_true.mp ((Array.all_eq_true_iff_forall_mem.mp hF) _ (Array.getElem_mem ha)) i (List.mem_range.mpr hi)
    simpa [Array.getElem?_eq_getElem hi] using q
  obtain ⟨i0, ei0⟩ := isL_v g3
  obtain rfl : w0 = (.long i0) := Option.some.inj ei0
  obtain ⟨i1, ei1⟩ := isL_v g5
  obtain rfl : w1 = (.long i1) := Option.some.inj ei1
  obtain ⟨i2, ei2⟩ := is_v g6
  obtain rfl : w2 = (.int i2) := Option.some.inj ei2
  obtain ⟨n, o, h1, h2, h3, v, L, rfl, hQ, hq⟩ := rm0 l s _ hw tables_1 i0 i1 i2 s.heap s.heap.size (Nat.le_refl _) p e ha hc hk s m _ below hf ((Spec.applies_iff_loose hf).mp happ).1 ⟨rfl, State.Warmed39.refl s, rfl⟩ trivial
  have hv : v = some (.int (b2i (f0 i0 i1 i2))) := hQ.1
  rw [own_law i0 i1 i2] at hv
  subst hv
  have N : Fr s.heap.size L := by first | exact hQ.2.1 | exact hQ.2
  refine ⟨n, _, h1, h2, h3, hpost _ _ _ _ _ _ ⟨Cond.after_iff.mpr rfl, Cond.after_iff.mpr (eq_i res_at (Term.int_eval (1)) rfl), trivial⟩ ⟨hq.1, hq.2.1, (hq.2.2.sift fun y hy => Or.inr (N y hy)).mono (by decide) (by decide)⟩⟩
theorem main_1_1 : Claimed_1_1 := comes_1 fun _ _ _ _ _ _ h hF => ⟨h.1, hF⟩
theorem main_1_2 : Claimed_1_2 := comes_1 fun _ _ _ _ _ _ h hF => ⟨h.2.1, hF⟩
end Jvm.Pilot.@@N@@
namespace Jvm.Pilot.@@N@@
open Jvm Jvm.ClassFile Sem Op Lib Jvm.Free Jvm.Stand Jvm.Pilot.@@N@@.Jvm.D
/-! MADE BY PROGRAM (witnessworld.py) out of the Statement's table words and the real class files: 9 classes; the members and pool entries that the words name. The judged class is class 1, her method 1. -/
namespace start1
open Jvm.ClassFile
def u (s : String) : CpInfo := .utf8 (stringToUtf16 s)
/-- a pool by its gaps: so many unusable entries, then the entry; so many at the end -/
def gap : Nat → List CpInfo → List CpInfo
  | 0, r => r
  | n + 1, r => .unusable :: gap n r
def poolList (es : List (Nat × CpInfo)) (last : Nat) : List CpInfo := es.foldr (fun e r => gap e.1 (e.2 :: r)) (gap last [])
def pool (es : List (Nat × CpInfo)) (last : Nat) : Array CpInfo := ⟨poolList es last⟩
def fileOf (pool : Array CpInfo) (this : Nat) (attrs : Array Attribute := #[]) (ms : Array MethodInfo := #[]) (fl : Nat := 33) (sup : Nat := 0) (ifs : Array Nat := #[]) (fds : Array FieldInfo := #[]) : ClassFile where
  minorVersion := 0
  majorVersion := 65
  constantPool := pool
  accessFlags := fl
  thisClass := this
  superClass := sup
  interfaces := ifs
  fields := fds
  methods := ms
  attributes := attrs
def plain (name : String) (sup : Option ClassId) : Class where
  name := name
  kind := .ordinary
  loader := none
  accessFlags := 33
  super := sup
  interfaces := #[]
  cf := none
  fields := #[]
  methods := #[]
  instanceTypes := #[]
  staticTypes := #[]
  resolved := #[]
  callSites := []
  init := .initialized
  statics := none
  mirror := none

def pool0 : Array CpInfo := pool [(5, u "<init>"), (0, u "()V"), (1, .class_ 10), (1, u "java/lang/Object")] 113

def k0c0 : Code := { maxStack := 0, maxLocals := 1, code := object_method_1_code, exceptionTable := #[], attributes := #[] }
def k0m0 : Method := { name := "<init>", desc := "()V", sig := { parameters := [], returnType := none }, accessFlags := 1, code := some k0c0 }
/-- java/lang/Object -/
def k0 : Class := { plain "java/lang/Object" none with
  accessFlags := 33
  interfaces := #[]
  cf := some (fileOf pool0 8 #[] #[{ accessFlags := 1, nameIndex := 5, descriptorIndex := 6, attributes := #[] }] 33 0 #[] #[])
  fields := #[]
  methods := #[k0m0]
  instanceTypes := #[]
  staticTypes := #[]
  resolved := Array.replicate 124 none
  statics := none }

def pool1 : Array CpInfo := pool [(2, .class_ 4), (1, u "java/lang/Object"), (0, u "<init>"), (0, u "()V"), (0, .long 11400714819323198485), (1, .class_ 10), (0, u "org/trentasette/Spinner"), (0, .methodref 9 12), (0, .nameAndType 5 13), (0, u "(J)V"), (0, .methodref 9 15), (0, .nameAndType 16 17), (0, u "next"), (0, u "()J"), (0, .class_ 19), (0, u "org/trentasette/SpinnerNextPinLaw"), (2, u "law"), (0, u "(JJI)Z")] 3

def k1m0 : Method := { name := "<init>", desc := "()V", sig := { parameters := [], returnType := none }, accessFlags := 1, code := none }
def k1c1 : Code := { maxStack := 6, maxLocals := 26, code := code, exceptionTable := #[], attributes := #[] }
def k1m1 : Method := { name := "law", desc := "(JJI)Z", sig := { parameters := [.long, .long, .int], returnType := some .boolean }, accessFlags := 9, code := some k1c1 }
/-- org/trentasette/SpinnerNextPinLaw -/
def k1 : Class := { plain "org/trentasette/SpinnerNextPinLaw" (some 0) with
  accessFlags := 49
  interfaces := #[]
  cf := some (fileOf pool1 18 #[] #[{ accessFlags := 1, nameIndex := 5, descriptorIndex := 6, attributes := #[] }, { accessFlags := 9, nameIndex := 22, descriptorIndex := 23, attributes := #[] }] 49 2 #[] #[])
  fields := #[]
  methods := #[k1m0, k1m1]
  instanceTypes := #[]
  staticTypes := #[]
  resolved := Array.replicate 27 none
  statics := none }

def pool2 : Array CpInfo := pool [(5, .methodref 6 7), (0, .class_ 8), (0, .nameAndType 9 10), (0, u "java/lang/Object"), (0, u "<init>"), (0, u "()V"), (0, .fieldref 12 13), (0, .class_ 14), (0, .nameAndType 15 16), (0, u "org/trentasette/Spinner"), (0, u "state"), (0, u "J"), (2, u "next"), (0, u "()J"), (4, .long 11400714819323198485), (1, .long 13787848793156543929), (1, .long 10723151780598845931), (1, u "GAMMA"), (1, u "LIMIT"), (0, u "(J)V")] 7

def k2c0 : Code := { maxStack := 3, maxLocals := 3, code := prog_33_method_1_code, exceptionTable := #[], attributes := #[] }
def k2m0 : Method := { name := "<init>", desc := "(J)V", sig := { parameters := [.long], returnType := none }, accessFlags := 0, code := some k2c0 }
def k2c1 : Code := { maxStack := 5, maxLocals := 3, code := prog_33_method_3_code, exceptionTable := #[], attributes := #[] }
def k2m1 : Method := { name := "next", desc := "()J", sig := { parameters := [], returnType := some .long }, accessFlags := 0, code := some k2c1 }
/-- org/trentasette/Spinner -/
def k2 : Class := { plain "org/trentasette/Spinner" (some 0) with
  accessFlags := 48
  interfaces := #[]
  cf := some (fileOf pool2 12 #[] #[{ accessFlags := 0, nameIndex := 9, descriptorIndex := 34, attributes := #[] }, { accessFlags := 0, nameIndex := 19, descriptorIndex := 20, attributes := #[] }] 48 6 #[] #[{ accessFlags := 26, nameIndex := 31, descriptorIndex := 16, attributes := #[] }, { accessFlags := 26, nameIndex := 33, descriptorIndex := 16, attributes := #[] }, { accessFlags := 2, nameIndex := 15, descriptorIndex := 16, attributes := #[] }])
  fields := #[{ name := "GAMMA", type := .long, accessFlags := 26, slot := 0, constantValue := 0 }, { name := "LIMIT", type := .long, accessFlags := 26, slot := 1, constantValue := 0 }, { name := "state", type := .long, accessFlags := 2, slot := 0, constantValue := 0 }]
  methods := #[k2m0, k2m1]
  instanceTypes := #[.long]
  staticTypes := #[.long, .long]
  resolved := Array.replicate 42 none
  statics := none }

def pool3 : Array CpInfo := pool [(1, u "java/lang/Cloneable"), (0, .class_ 1), (0, u "java/lang/Object"), (0, .class_ 3)] 3

/-- java/lang/Cloneable -/
def k3 : Class := { plain "java/lang/Cloneable" (some 0) with
  accessFlags := 1537
  interfaces := #[]
  cf := some (fileOf pool3 2 #[] #[] 1537 4 #[] #[])
  fields := #[]
  methods := #[]
  instanceTypes := #[]
  staticTypes := #[]
  resolved := Array.replicate 8 none
  statics := none }

def pool4 : Array CpInfo := pool [(1, u "java/io/Serializable"), (0, .class_ 1), (0, u "java/lang/Object"), (0, .class_ 3)] 3

/-- java/io/Serializable -/
def k4 : Class := { plain "java/io/Serializable" (some 0) with
  accessFlags := 1537
  interfaces := #[]
  cf := some (fileOf pool4 2 #[] #[] 1537 4 #[] #[])
  fields := #[]
  methods := #[]
  instanceTypes := #[]
  staticTypes := #[]
  resolved := Array.replicate 8 none
  statics := none }

/-- the primitive byte -/
def k5 : Class := { plain "byte" none with kind := .primitive 'B', accessFlags := 0x411 }
/-- [B -/
def k6 : Class := { plain "[B" (some 0) with kind := .array 5 .byte, interfaces := #[3, 4], accessFlags := 1041 }

/-- the primitive int -/
def k7 : Class := { plain "int" none with kind := .primitive 'I', accessFlags := 0x411 }
/-- [I -/
def k8 : Class := { plain "[I" (some 0) with kind := .array 7 .int, interfaces := #[3, 4], accessFlags := 1041 }

def heap : Heap := #[]
def classes : Array Class := #[k0, k1, k2, k3, k4, k5, k6, k7, k8]
def interned : List (Array UInt16 × Addr) := []
def slotsUsed : Nat := 0
def theMethod : MethodId := ⟨1, 1⟩
def args0 : Array Value := #[.long 5, .long 7, .int 3]
def aboutOver (below : List Frame) : State where
  vm := { classes := classes, interned := interned.toArray }
  heap := heap
  slotsUsed := slotsUsed
  threads := #[{ frames := .invoking theMethod args0 :: below }]
def below0 : List Frame := [.native { method := ⟨0, 0⟩, args := #[] }]
def about1 : State := aboutOver below0
def p0 : Program := .bare "" "" ""
def e0 : Env := launch0.env 0 0 0
theorem w_frames : about1.frames = Frame.invoking theMethod args0 :: below0 := rfl
set_option maxRecDepth 65536 in
theorem w_args : argsFit about1.vm theMethod args0 = true := by decide +kernel
set_option maxRecDepth 65536 in
theorem w_heap : heapFits about1 = true := by decide +kernel
set_option maxRecDepth 65536 in
theorem w_runnable : about1.curStatus? = some .runnable := by decide +kernel
set_option maxRecDepth 65536 in
theorem w_alone : about1.alone = true := by decide +kernel
set_option maxRecDepth 65536 in
theorem w_named : about1.methodNamed? x = some theMethod := by decide +kernel
set_option maxRecDepth 65536 in
theorem w_hears : about1.hears theMethod below0 = true := by decide +kernel
set_option maxRecDepth 65536 in
theorem w_ripe : about1.ripe theMethod args0 below0 = true := by decide +kernel
theorem w_running : about1.status = .running := rfl
set_option maxRecDepth 65536 in
theorem w_room : about1.hasRoom e0.platform room_1 = true :=
  launch0.hasRoom_least _ room_1 (by decide +kernel) (by decide +kernel) (by decide +kernel) (by decide +kernel) (by decide +kernel) (by decide +kernel)
theorem allAtoms_all (ts : List Jvm.Cond) (a : Array Jvm.Value) (st : Jvm.State) : (allAtoms ts).before a st = ts.all (fun c => c.before a st) := by
  induction ts with
  | nil => rfl
  | cons c t ih =>
    show (Jvm.Cond.and c (allAtoms t)).before a st = _
    rw [Jvm.Cond.before_and, ih, List.all_cons]
def words1 : List Jvm.Cond := Jvm.Cond.code x code maxLocals ret :: tables_1
/-- a 'code' word, met by the world's own term for the bytes: nothing is compared byte by byte -/
theorem code_word {y : MethodName} {bytes : ByteArray} {mx : Nat} {rt : Option FieldType} {a : Array Value} {s : State} {m : MethodId} {meth : Method} {c : Code} (h1 : s.methodNamed? y = some m) (h2 : s.vm.method? m = some meth) (h3 : meth.code = some c) (h4 : c.code = bytes)
    (h5 : (c.maxLocals == mx && c.exceptionTable.isEmpty && decide (c.maxStack ≤ mostOperands) && decide (meth.sig.returnType = rt) && !meth.locks && decide (parseMethodDescriptor y.desc = some meth.sig)) = true) : (Jvm.Cond.code y bytes mx rt).before a s = true := by
  simp only [Bool.and_eq_true, beq_iff_eq, Bool.not_eq_true', decide_eq_true_eq] at h5
  obtain ⟨⟨⟨⟨⟨g1, g2⟩, g3⟩, g4⟩, g5⟩, g6⟩ := h5
  simp [Cond.before, Cond.holds, Cond.value, h1, h2, h3, h4, g1, g2, g3, g4, g5, g6]
def isCode : Jvm.Cond → Bool
  | .code _ _ _ _ => true
  | _ => false
theorem all_split {L : List Jvm.Cond} {P : Jvm.Cond → Bool} (h1 : L.all (fun c => isCode c || P c) = true) (h2 : ∀ c ∈ L.filter isCode, P c = true) : L.all P = true := by
  refine List.all_eq_true.mpr fun c hc => ?_
  have h := List.all_eq_true.mp h1 c hc
  rcases Bool.eq_false_or_eq_true (isCode c) with hi | hi
  · exact h2 c (List.mem_filter.mpr ⟨hc, hi⟩)
  · simpa [hi] using h
set_option maxRecDepth 65536 in
theorem w_c0 : (Jvm.Cond.code x code maxLocals ret).before args0 about1 = true := code_word (m := ⟨1, 1⟩) (meth := k1m1) (c := k1c1) (by decide +kernel) rfl rfl rfl (by decide +kernel)
set_option maxRecDepth 65536 in
theorem w_c1 : (Jvm.Cond.code ({ cls := "org/trentasette/Spinner", name := "<init>", desc := "(J)V" } : Jvm.MethodName) prog_33_method_1_code (3 : Nat) (Option.none : Option Jvm.ClassFile.FieldType)).before args0 about1 = true := code_word (m := ⟨2, 0⟩) (meth := k2m0) (c := k2c0) (by decide +kernel) rfl rfl rfl (by decide +kernel)
set_option maxRecDepth 65536 in
theorem w_c2 : (Jvm.Cond.code ({ cls := "java/lang/Object", name := "<init>", desc := "()V" } : Jvm.MethodName) object_method_1_code (1 : Nat) (Option.none : Option Jvm.ClassFile.FieldType)).before args0 about1 = true := code_word (m := ⟨0, 0⟩) (meth := k0m0) (c := k0c0) (by decide +kernel) rfl rfl rfl (by decide +kernel)
set_option maxRecDepth 65536 in
theorem w_c3 : (Jvm.Cond.code ({ cls := "org/trentasette/Spinner", name := "next", desc := "()J" } : Jvm.MethodName) prog_33_method_3_code (3 : Nat) (Option.some Jvm.ClassFile.FieldType.long)).before args0 about1 = true := code_word (m := ⟨2, 1⟩) (meth := k2m1) (c := k2c1) (by decide +kernel) rfl rfl rfl (by decide +kernel)
def codes1 : List Jvm.Cond := [Jvm.Cond.code x code maxLocals ret, Jvm.Cond.code ({ cls := "org/trentasette/Spinner", name := "<init>", desc := "(J)V" } : Jvm.MethodName) prog_33_method_1_code (3 : Nat) (Option.none : Option Jvm.ClassFile.FieldType), Jvm.Cond.code ({ cls := "java/lang/Object", name := "<init>", desc := "()V" } : Jvm.MethodName) object_method_1_code (1 : Nat) (Option.none : Option Jvm.ClassFile.FieldType), Jvm.Cond.code ({ cls := "org/trentasette/Spinner", name := "next", desc := "()J" } : Jvm.MethodName) prog_33_method_3_code (3 : Nat) (Option.some Jvm.ClassFile.FieldType.long)]
set_option maxRecDepth 65536 in
theorem codes_eq : words1.filter isCode = codes1 := rfl
theorem w_codes : ∀ c ∈ words1.filter isCode, c.before args0 about1 = true := by
  rw [codes_eq]
  intro c hc
  simp only [codes1, List.mem_cons, List.not_mem_nil, or_false] at hc
  rcases hc with rfl | rfl | rfl | rfl
  · exact w_c0
  · exact w_c1
  · exact w_c2
  · exact w_c3
set_option maxRecDepth 65536 in
theorem w_t1 : words1.all (fun c => isCode c || c.before args0 about1) = true := by decide +kernel
theorem w_tables : (allAtoms (Jvm.Cond.code x code maxLocals ret :: tables_1)).before args0 about1 = true := by
  rw [allAtoms_all]
  show words1.all (fun c => c.before args0 about1) = true
  refine all_split ?_ w_codes
  rw [w_t1]
set_option maxRecDepth 65536 in
theorem w_case : (Jvm.Cond.and given_1 narrow_1).before args0 about1 = true := by decide +kernel
theorem w_applies : (headSpec (Jvm.Cond.code x code maxLocals ret :: tables_1) room_1).applies x e0.platform about1 = true :=
  (Spec.applies_iff w_frames).mpr ⟨w_running, w_runnable, w_alone, w_named, w_hears, w_ripe, w_room, w_tables⟩
theorem atStart : AtStart classFile x code maxLocals ret World_1 tables_1 room_1 Calls_1 rest_1 Pre_1 launch0 p0 e0 about1 theMethod args0 below0 :=
  ⟨lists_1, trivial, launch0.admits_env _ _ _, launch0.least_env, fairChoices_fair.cas, fairChoices_fair.clock, w_frames, w_args, w_heap, w_applies, trivial, trivial, w_case⟩
end start1
theorem witness_1 : WitnessClaimed_1 := ⟨start1.p0, start1.e0, start1.about1, start1.theMethod, start1.args0, start1.below0, start1.atStart⟩
end Jvm.Pilot.@@N@@
