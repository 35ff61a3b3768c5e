import JvmDerived
import JvmDerived.Pilot.@@N@@Statement
import JvmDerived.Pilot.@@N@@Code
set_option linter.unusedVariables false
set_option linter.unusedSimpArgs false
namespace Jvm.RoadKit
open Sem ClassFile Op Lib Jvm.Stand Jvm.Free Jvm.LawKit
section OwnKit
variable {p : Program} {l : Launch} {e : Env} {R : Room} {s : State} {m : MethodId} {args : Array Value} {below : List Frame} {meth : Method} {c : Code} {T : State} {locs : List Loc} {cells slots : Nat}
/-- a boolean as the machine's int -/
def b2i (b : Bool) : Int32 := bif b then 1 else 0
theorem b2i_t {b : Bool} (h : b = true) : ¬ b2i b = 0 := by subst h; decide
theorem b2i_f {b : Bool} (h : ¬ b = true) : b2i b = 0 := by cases b <;> first | rfl | exact absurd rfl h
theorem b2i_inj {a b : Bool} (h : b2i a = b2i b) : a = b := by cases a <;> cases b <;> first | rfl | exact absurd h (by decide)
theorem nar_b2i (b : Bool) : nar .boolean (b2i b) = b2i b := by cases b <;> decide
/-- from the state U the walk comes to an end that P holds of -/
def Go (tb : Tables) (e : Env) (below : List Frame) (P : Outcome → State → Prop) (U : State) : Prop := ∃ s₂ o, Steps tb e below U s₂ ∧ s₂.status = .running ∧ Ended s₂ below o ∧ P o s₂
theorem Go.back {tb : Tables} {P : Outcome → State → Prop} {U V : State} (h : ∀ t, Steps tb e below V t → Steps tb e below U t) (k : Go tb e below P V) : Go tb e below P U := by
  obtain ⟨s2, o, h1, h2⟩ := k
  exact ⟨s2, o, h _ h1, h2⟩
theorem Go.trans {tb : Tables} {P : Outcome → State → Prop} {U V : State} (h : Steps tb e below U V) (k : Go tb e below P V) : Go tb e below P U := by
  obtain ⟨s2, o, h1, h2⟩ := k
  exact ⟨s2, o, Steps.trans h h1, h2⟩
abbrev Fin (s : State) (Q : Option Value → Heap → List Loc → Prop) (K S : Nat) : Outcome → State → Prop := fun o U' => ∃ v L, o = .returned v ∧ Q v U'.heap L ∧ FrameEnd s o U' L K S
theorem retI0 (X : Stand p l e R s m args below meth c T locs cells slots) (hx : p.tables.exec = Jvm.exec) {pc : Nat} {Ls : Array Slot} {z : Int32} {rest : List Value} (hret : meth.sig.returnType = some .int) (hd : decode c.code pc = .ok (.ireturn, 1)) {fs : List Frame}
    (hl : ∀ (f : JFrame) (acts : List Action), f.method = m → f.locked = none → f.entered = [] → (doReturn e (T.setTop f) acts (some (.int z))).1 = T.setFrames fs) : Steps p.tables e below (T.setTop (mkF m pc Ls (.int z :: rest))) (T.setFrames fs) := by
  have hm' : T.vm.method? m = some meth := X.method'
  have hn : narrow .int (.int z) = .int z := rfl
  show Steps p.tables e below (T.setTop { method := m, pc := pc, locals := Ls, stack := _ :: rest, locked := none }) _
  jvm_step X.here [X.here.top, hx, hd, hm', hret, hn]
  first | (intro acts; rw [hl _ acts rfl rfl rfl]) | rw [hl _ _ rfl rfl rfl]
  exact Steps.refl _
theorem Go.retI (X : Stand p l e R s m args below meth c T locs cells slots) (hx : p.tables.exec = Jvm.exec) {pc : Nat} {Ls : Array Slot} {z : Int32} {rest : List Value} (hret : meth.sig.returnType = some .int) (hd : decode c.code pc = .ok (.ireturn, 1)) (hlk : meth.locks = false) {Q : Option Value → Heap → List Loc → Prop} {K S : Nat} (hQ : Q (some (.int z)) T.heap locs) (hc : cells ≤ K) (hs : slots ≤ S) :
    Go p.tables e below (Fin s Q K S) (T.setTop (mkF m pc Ls (.int z :: rest))) := by
  obtain ⟨fs, hr, hrun, hended, hW, hsame⟩ := X.leave (v := some (.int z)) (fun h => by rw [hret] at h; cases h) hlk
  exact ⟨_, _, retI0 X hx hret hd hr, hrun, hended, _, _, rfl, hQ, ⟨_, rfl⟩, hW, hsame.mono hc hs⟩
theorem Go.retN (X : Stand p l e R s m args below meth c T locs cells slots) (hx : p.tables.exec = Jvm.exec) {pc : Nat} {Ls : Array Slot} {z : Int32} {rest : List Value} {t : FieldType} (hret : meth.sig.returnType = some t) (ht : t = .boolean ∨ t = .byte ∨ t = .char ∨ t = .short) (hd : decode c.code pc = .ok (.ireturn, 1)) (hlk : meth.locks = false) {Q : Option Value → Heap → List Loc → Prop} {K S : Nat} (hQ : Q (some (.int (nar t z))) T.heap locs) (hc : cells ≤ K) (hs : slots ≤ S) :
    Go p.tables e below (Fin s Q K S) (T.setTop (mkF m pc Ls (.int z :: rest))) := by
  obtain ⟨fs, hr, hrun, hended, hW, hsame⟩ := X.leave (v := some (.int (nar t z))) (fun h => by rw [hret] at h; cases h) hlk
  exact ⟨_, _, Jvm.RoadKit.retN X hx hret ht hd hr, hrun, hended, _, _, rfl, hQ, ⟨_, rfl⟩, hW, hsame.mono hc hs⟩
theorem Go.retB (X : Stand p l e R s m args below meth c T locs cells slots) (hx : p.tables.exec = Jvm.exec) {pc : Nat} {Ls : Array Slot} {b : Bool} {rest : List Value} (hret : meth.sig.returnType = some .boolean) (hd : decode c.code pc = .ok (.ireturn, 1)) (hlk : meth.locks = false) {Q : Option Value → Heap → List Loc → Prop} {K S : Nat} (hQ : Q (some (.int (b2i b))) T.heap locs) (hc : cells ≤ K) (hs : slots ≤ S) :
    Go p.tables e below (Fin s Q K S) (T.setTop (mkF m pc Ls (.int (b2i b) :: rest))) := Go.retN X hx hret (Or.inl rfl) hd hlk (by rw [nar_b2i]; exact hQ) hc hs
theorem Go.retJ (X : Stand p l e R s m args below meth c T locs cells slots) (hx : p.tables.exec = Jvm.exec) {pc : Nat} {Ls : Array Slot} {z : Int64} (hret : meth.sig.returnType = some .long) (hd : decode c.code pc = .ok (.lreturn, 1)) (hlk : meth.locks = false) {Q : Option Value → Heap → List Loc → Prop} {K S : Nat} (hQ : Q (some (.long z)) T.heap locs) (hc : cells ≤ K) (hs : slots ≤ S) :
    Go p.tables e below (Fin s Q K S) (T.setTop (mkF m pc Ls [.long z])) := by
  obtain ⟨fs, hr, hrun, hended, hW, hsame⟩ := X.leave (v := some (.long z)) (fun h => by rw [hret] at h; cases h) hlk
  exact ⟨_, _, X.lreturnOut hx hret hd hr, hrun, hended, _, _, rfl, hQ, ⟨_, rfl⟩, hW, hsame.mono hc hs⟩
theorem Go.retR (X : Stand p l e R s m args below meth c T locs cells slots) (hx : p.tables.exec = Jvm.exec) {pc : Nat} {Ls : Array Slot} {a : Addr} {t : FieldType} (hret : meth.sig.returnType = some t) (ht : t.isReference = true) (hd : decode c.code pc = .ok (.areturn, 1)) (hlk : meth.locks = false) {Q : Option Value → Heap → List Loc → Prop} {K S : Nat} (hQ : Q (some (.ref a)) T.heap locs) (hc : cells ≤ K) (hs : slots ≤ S) :
    Go p.tables e below (Fin s Q K S) (T.setTop (mkF m pc Ls [.ref a])) := by
  obtain ⟨fs, hr, hrun, hended, hW, hsame⟩ := X.leave (v := some (.ref a)) (fun h => by rw [hret] at h; cases h) hlk
  exact ⟨_, _, X.areturnOut hx rfl hret ht hd hr, hrun, hended, _, _, rfl, hQ, ⟨_, rfl⟩, hW, hsame.mono hc hs⟩
theorem Go.retV (X : Stand p l e R s m args below meth c T locs cells slots) (hx : p.tables.exec = Jvm.exec) {pc : Nat} {Ls : Array Slot} (hret : meth.sig.returnType = none) (hd : decode c.code pc = .ok (.return_, 1)) (hlk : meth.locks = false) {Q : Option Value → Heap → List Loc → Prop} {K S : Nat} (hQ : Q none T.heap locs) (hc : cells ≤ K) (hs : slots ≤ S) :
    Go p.tables e below (Fin s Q K S) (T.setTop (mkF m pc Ls [])) := by
  obtain ⟨fs, hr, hrun, hended, hW, hsame⟩ := X.leave (v := none) (fun _ => rfl) hlk
  exact ⟨_, _, X.returnOut hx hret hd hr, hrun, hended, _, _, rfl, hQ, ⟨_, rfl⟩, hW, hsame.mono hc hs⟩
theorem lremM {g : JFrame} {target : State} (X : Stand p l e R s m args below meth c T locs cells slots) (hx : p.tables.exec = Jvm.exec) (hg : g.method = m) {x y : Int64} {rest : List Value} (hd : decode c.code g.pc = .ok (.lrem, 1)) (hs : g.stack = .long y :: .long x :: rest) (hy : y ≠ 0)
    (hr : Steps p.tables e below (T.setTop { g with pc := g.pc + 1, stack := .long (x % y) :: rest }) target) : Steps p.tables e below (T.setTop g) target :=
  XS.lrem X.here hx hg hd hs hy (by rw [lrem_mod x y]; exact hr)
/-- the slots written so far get a name -/
theorem pk (X : Stand p l e R s m args below meth c T locs cells slots) {k : Nat} (N : Fr k locs) : ∃ L, Stand p l e R s m args below meth c T L cells slots ∧ Fr k L := ⟨_, X, N⟩
theorem storeS_i {ls l' : Array Slot} {k : Nat} {o : Slot} {x : Int32} (hold : ls[k]? = some o) (h : One o) (q : ls.setIfInBounds k (.val (.int x)) = l') : storeLocals ls k (.int x) = some l' := by
  rw [XS.store1 hold h rfl, q]
theorem storeS_a {ls l' : Array Slot} {k : Nat} {o : Slot} {a : Addr} (hold : ls[k]? = some o) (h : One o) (q : ls.setIfInBounds k (.val (.ref a)) = l') : storeLocals ls k (.ref a) = some l' := by
  rw [XS.store1 hold h rfl, q]
end OwnKit
section OwnArr
variable {p : Program} {l : Launch} {e : Env} {R : Room} {s : State} {m : MethodId} {args : Array Value} {below : List Frame} {meth : Method} {c : Code} {T : State} {locs : List Loc} {cells slots : Nat} {Z : State} {h h' : Heap} {a b : Addr} {ty : FieldType} {vs : List Value} {v : Value} {sl : Nat} {ws : List Addr}
/-- the array at a, of the kind ty, holds just this list -/
def ArL (Z : State) (h : Heap) (a : Addr) (ty : FieldType) (vs : List Value) : Prop := ∃ c : Cell, Arr Z h a c ty ∧ c.slots.toList = vs
theorem ArL.lt (F : ArL Z h a ty vs) : a < h.size := by obtain ⟨c, A, -⟩ := F; exact A.lt
theorem ArL.ext (F : ArL Z h a ty vs) (E : Ext h h') : ArL Z h' a ty vs := by obtain ⟨c, A, r⟩ := F; exact ⟨c, A.ext E, r⟩
theorem ArL.other (F : ArL Z h b ty vs) (W : Wr h h' a sl v) (q : b ≠ a) : ArL Z h' b ty vs := by obtain ⟨c, A, r⟩ := F; exact ⟨c, A.other W q, r⟩
theorem ArL.keep (F : ArL Z h a ty vs) (K : Keep h h' ws) (q : a ∉ ws) : ArL Z h' a ty vs := by obtain ⟨c, A, r⟩ := F; exact ⟨c, ⟨K.2.1 a c A.1 q, A.2⟩, r⟩
theorem ArL.new {k : ClassId} {z : Int32} (A : Arr Z h a (newA k ty z) ty) {n : Nat} (q : z.toNatClampNeg = n) : ArL Z h a ty (List.replicate n (defaultValue ty)) := ⟨_, A, by subst q; simp [newA]⟩
theorem ArL.set (F : ArL Z h a ty vs) (W : Wr h h' a sl v) : ArL Z h' a ty (vs.set sl v) := by
  obtain ⟨c, A, r⟩ := F
  exact ⟨_, A.same W, by subst r; simp [Cell.setSlot]⟩
/-- a place of it: what a load and a store ask -/
theorem ArL.at (F : ArL Z h a ty vs) {j : Int32} (h0 : ¬ j < 0) (hj : j.toNatClampNeg < vs.length) : ∃ c : Cell, Arr Z h a c ty ∧ ¬ (j < 0 ∨ c.slots.size ≤ j.toNatClampNeg) ∧ c.slots[j.toNatClampNeg]? = some (vs[j.toNatClampNeg]'hj) := by
  obtain ⟨c, A, rfl⟩ := F
  have q : j.toNatClampNeg < c.slots.size := by simpa using hj
  refine ⟨c, A, fun z => z.elim h0 (fun y => absurd q (Nat.not_lt.mpr y)), ?_⟩
  rw [Array.getElem?_eq_getElem q]
  simp
theorem ArL.get (F : ArL Z h a ty vs) {j : Int32} (h0 : ¬ j < 0) (hv : vs[j.toNatClampNeg]? = some v) : ∃ c : Cell, Arr Z h a c ty ∧ ¬ (j < 0 ∨ c.slots.size ≤ j.toNatClampNeg) ∧ c.slots[j.toNatClampNeg]? = some v := by
  obtain ⟨hj, rfl⟩ := List.getElem?_eq_some_iff.mp hv
  exact F.at h0 hj
theorem ArL.setI {xs : List Int32} {x : Int32} {i : Nat} (F : ArL Z h a ty (List.map Value.int xs)) (W : Wr h h' a i (.int x)) : ArL Z h' a ty (List.map Value.int (xs.set i x)) := by
  rw [List.map_set]; exact F.set W
theorem ArL.setJ {xs : List Int64} {x : Int64} {i : Nat} (F : ArL Z h a ty (List.map Value.long xs)) (W : Wr h h' a i (.long x)) : ArL Z h' a ty (List.map Value.long (xs.set i x)) := by
  rw [List.map_set]; exact F.set W
theorem ArL.newI {k : ClassId} {z : Int32} (A : Arr Z h a (newA k ty z) ty) {n : Nat} (q : z.toNatClampNeg = n) (hd : defaultValue ty = .int 0 := by rfl) : ArL Z h a ty (List.map Value.int (List.replicate n (0 : Int32))) := by
  rw [List.map_replicate, ← hd]; exact ArL.new A q
theorem ArL.newJ {k : ClassId} {z : Int32} (A : Arr Z h a (newA k ty z) ty) {n : Nat} (q : z.toNatClampNeg = n) (hd : defaultValue ty = .long 0 := by rfl) : ArL Z h a ty (List.map Value.long (List.replicate n (0 : Int64))) := by
  rw [List.map_replicate, ← hd]; exact ArL.new A q
theorem getI (xs : List Int32) {i : Nat} (q : i < xs.length) : (List.map Value.int xs)[i]? = some (.int (xs.getD i 0)) := by
  rw [List.getElem?_map, List.getD_eq_getElem?_getD, List.getElem?_eq_getElem q]; rfl
theorem getJ (xs : List Int64) {i : Nat} (q : i < xs.length) : (List.map Value.long xs)[i]? = some (.long (xs.getD i 0)) := by
  rw [List.getElem?_map, List.getD_eq_getElem?_getD, List.getElem?_eq_getElem q]; rfl
theorem ArL.len (F : ArL Z h a ty vs) : ∃ c : Cell, Arr Z h a c ty ∧ c.slots.size = vs.length := by
  obtain ⟨c, A, rfl⟩ := F
  exact ⟨c, A, by simp⟩
end OwnArr
end Jvm.RoadKit
namespace Jvm.Pilot.@@N@@
open Jvm Jvm.ClassFile Sem Op Lib Jvm.Free Jvm.Stand Jvm.LawKit Jvm.RoadKit Bundle Jvm.Pilot.@@N@@.Jvm.D
theorem pd_0 : parseMethodDescriptor "()J" = some ⟨[], some .long⟩ := by decide +kernel
theorem pd_1 : parseMethodDescriptor "(J)V" = some ⟨[.long], none⟩ := by decide +kernel
theorem pd_2 : parseMethodDescriptor "()I" = some ⟨[], some .int⟩ := by decide +kernel
theorem pd_3 : parseMethodDescriptor "(Lorg/trentasette/Spinner;)I" = some ⟨[(.object "org/trentasette/Spinner")], some .int⟩ := by decide +kernel
theorem d1_0 : decode prog_33_method_1_code 0 = .ok (.aload_n 0, 1) := by decide +kernel
theorem d1_1 : decode prog_33_method_1_code 1 = .ok (.invokespecial 5, 3) := by decide +kernel
theorem d1_4 : decode prog_33_method_1_code 4 = .ok (.aload_n 0, 1) := by decide +kernel
theorem d1_5 : decode prog_33_method_1_code 5 = .ok (.lload_n 1, 1) := by decide +kernel
theorem d1_6 : decode prog_33_method_1_code 6 = .ok (.putfield 11, 3) := by decide +kernel
theorem d1_9 : decode prog_33_method_1_code 9 = .ok (.return_, 1) := by decide +kernel
def Q1 (Z : State) (p0 : Addr) (p1 : Int64) (h0 : Heap) (n0 : Nat) (v : Option Value) (h : Heap) (L : List Loc) : Prop := v = none ∧ Fr n0 L ∧ Keep h0 h [p0] ∧ Exa Z h p0 "org/trentasette/Spinner" ∧ Fld Z h p0 "org/trentasette/Spinner" "state" "J" (.long p1)
abbrev rmm1 : Room := { frames := 1, cells := 0, slots := 0, locals := 12 }
abbrev P1 (Z : State) (p0 : Addr) (p1 : Int64) (h0 : Heap) (n0 : Nat) (s : State) : Outcome → State → Prop := fun o U' => ∃ v L, o = .returned v ∧ Q1 Z p0 p1 h0 n0 v U'.heap L ∧ FrameEnd s o U' L rmm1.cells rmm1.slots
theorem pn_1 : plainName "org/trentasette/Spinner" = true := by first | (simp [plainName, overriddenIn]; done) | decide +kernel
theorem ef_1 (m : MethodId) (p0 : Addr) (p1 : Int64) : entryFrame m #[(.ref p0), (.long p1)] 3 = mkF m 0 #[.val (.ref p0), .val (.long p1), .second] [] := by first | (simp [entryFrame, mkF, argsToLocals, Value.category]; done) | rfl
set_option maxRecDepth 65536 in
set_option maxHeartbeats 40000000 in
theorem rm1 (l : Launch) (Z : State) (a0 : Array Value) (hw : ∀ d ∈ tables_1, d.before a0 Z = true) (ws : List Jvm.Cond) (p0 : Addr) (p1 : Int64) (h0 : Heap) (n0 : Nat) (Z0 : n0 ≤ h0.size) (H0 : Exa Z h0 p0 "org/trentasette/Spinner") (H1 : Fld Z h0 p0 "org/trentasette/Spinner" "state" "J" (.long (0 : Int64))) (H2 : n0 ≤ p0) :
    MetFree l (⟨"org/trentasette/Spinner", "<init>", "(J)V"⟩ : MethodName) (head1 (Jvm.Cond.code (⟨"org/trentasette/Spinner", "<init>", "(J)V"⟩ : MethodName) prog_33_method_1_code 3 none :: ws) rmm1) (fun a U => a = #[(.ref p0), (.long p1)] ∧ Z.Warmed39 U.vm ∧ U.heap = h0) (fun _ _ _ _ _ => True) (fun _ U o U' => ∃ v L, o = .returned v ∧ Q1 Z p0 p1 h0 n0 v U'.heap L ∧ FrameEnd U o U' L rmm1.cells rmm1.slots) := by
  refine MetFree.of_bodySF (plainFor_of_name pn_1) hisR ?_
  intro p e s m args below meth c s₁ Bd hml0 hP hK
  obtain ⟨rfl, hZ, hh⟩ := hP
  have hx := Bd.exec
  have hby := Bd.bytes
  have hml : c.maxLocals = 3 := hml0
  have hown : s.vm.findClass "org/trentasette/Spinner" = some m.cls := findClass_of_methodNamed Bd.named
  have hnm := (name_of_methodNamed Bd.named Bd.method).1
  have X0 : Stand p l e rmm1 s m #[(.ref p0), (.long p1)] below meth c s₁ [] 0 0 := Stand.of_body Bd
  have e0 : s₁.heap = h0 := by rw [← hh, Bd.state]; rfl
  have N0 := Fr.nil n0
  show Go p.tables e below (P1 Z p0 p1 h0 n0 s) (s₁.setTop (entryFrame m #[(.ref p0), (.long p1)] 3))
  refine Go.back (fun t k => castTop (ef_1 m p0 p1) k) ?_
  show Go p.tables e below (P1 Z p0 p1 h0 n0 s) (s₁.setTop (mkF m 0 #[.val (.ref p0), .val (.long p1), .second] []))
  refine Go.back (fun t k => XS.aloadN X0.here hx rfl (hb hby d1_0) rfl rfl  k) ?_
  show Go p.tables e below (P1 Z p0 p1 h0 n0 s) (s₁.setTop (mkF m 1 #[.val (.ref p0), .val (.long p1), .second] [(.ref p0)]))
  obtain ⟨T1, X1, e1, st1⟩ := initO X0 hx hZ hown (hw _ (List.mem_of_getElem? (i := 6) rfl)) (hw _ (List.mem_of_getElem? (i := 7) rfl)) (hw _ (List.mem_of_getElem? (i := 8) rfl)) e0 (g := (mkF m 1 #[.val (.ref p0), .val (.long p1), .second] [(.ref p0)])) rfl (by rw [hml]; rfl) rfl (hb hby d1_1) (by decide) (W := 0) (by show 2 * 0 + _ ≤ _; exact Nat.le_of_eq rfl) (by decide)
  refine Go.back st1 ?_
  show Go p.tables e below (P1 Z p0 p1 h0 n0 s) (T1.setTop (mkF m 4 #[.val (.ref p0), .val (.long p1), .second] []))
  refine Go.back (fun t k => XS.aloadN X1.here hx rfl (hb hby d1_4) rfl rfl  k) ?_
  show Go p.tables e below (P1 Z p0 p1 h0 n0 s) (T1.setTop (mkF m 5 #[.val (.ref p0), .val (.long p1), .second] [(.ref p0)]))
  refine Go.back (fun t k => XS.lloadN X1.here hx rfl (hb hby d1_5) rfl  k) ?_
  show Go p.tables e below (P1 Z p0 p1 h0 n0 s) (T1.setTop (mkF m 6 #[.val (.ref p0), .val (.long p1), .second] [(.long p1), (.ref p0)]))
  obtain ⟨T2, h2, X2, e2, W2, st2⟩ := putF X1 hx hZ hown (host := "") (Or.inl (hw _ (List.mem_of_getElem? (i := 9) rfl))) Via.refl e1 H1 H0 (Or.inl (hw _ (List.mem_of_getElem? (i := 10) rfl))) (hw _ (List.mem_of_getElem? (i := 1) rfl)) (ty := .long) (by decide) rfl rfl (g := (mkF m 6 #[.val (.ref p0), .val (.long p1), .second] [(.long p1), (.ref p0)])) rfl rfl (hb hby d1_6)
  have F3 : Exa Z h2 p0 "org/trentasette/Spinner" := H0.wr W2
  have F4 : Fld Z h2 p0 "org/trentasette/Spinner" "state" "J" (.long p1) := H1.same W2
  have F5 : n0 ≤ h2.size := Nat.le_trans Z0 (Keep.of_wr W2).1
  have F6 : Keep h0 h2 [p0] := (Keep.refl h0 [p0]).wr W2 (Or.inl (List.mem_of_getElem? (i := 0) rfl))
  obtain ⟨Lo2, Y2, N2⟩ := pk X2 (Fr.snoc X2 N0 H2)
  refine Go.back st2 ?_
  show Go p.tables e below (P1 Z p0 p1 h0 n0 s) (T2.setTop (mkF m 9 #[.val (.ref p0), .val (.long p1), .second] []))
  exact Go.retV Y2 hx Bd.returns (hb hby d1_9) Bd.notSynchronized ⟨rfl, N2, (by rw [e2]; exact F6), (by rw [e2]; exact F3), (by rw [e2]; exact F4)⟩ (by decide) (by decide)
theorem d4_0 : decode prog_33_method_3_code 0 = .ok (.aload_n 0, 1) := by decide +kernel
theorem d4_1 : decode prog_33_method_3_code 1 = .ok (.dup, 1) := by decide +kernel
theorem d4_2 : decode prog_33_method_3_code 2 = .ok (.getfield 11, 3) := by decide +kernel
theorem d4_5 : decode prog_33_method_3_code 5 = .ok (.ldc2_w 25, 3) := by decide +kernel
theorem d4_8 : decode prog_33_method_3_code 8 = .ok (.ladd, 1) := by decide +kernel
theorem d4_9 : decode prog_33_method_3_code 9 = .ok (.putfield 11, 3) := by decide +kernel
theorem d4_12 : decode prog_33_method_3_code 12 = .ok (.aload_n 0, 1) := by decide +kernel
theorem d4_13 : decode prog_33_method_3_code 13 = .ok (.getfield 11, 3) := by decide +kernel
theorem d4_16 : decode prog_33_method_3_code 16 = .ok (.lstore_n 1, 1) := by decide +kernel
theorem d4_17 : decode prog_33_method_3_code 17 = .ok (.lload_n 1, 1) := by decide +kernel
theorem d4_18 : decode prog_33_method_3_code 18 = .ok (.lload_n 1, 1) := by decide +kernel
theorem d4_19 : decode prog_33_method_3_code 19 = .ok (.bipush 30, 2) := by decide +kernel
theorem d4_21 : decode prog_33_method_3_code 21 = .ok (.lushr, 1) := by decide +kernel
theorem d4_22 : decode prog_33_method_3_code 22 = .ok (.lxor, 1) := by decide +kernel
theorem d4_23 : decode prog_33_method_3_code 23 = .ok (.ldc2_w 27, 3) := by decide +kernel
theorem d4_26 : decode prog_33_method_3_code 26 = .ok (.lmul, 1) := by decide +kernel
theorem d4_27 : decode prog_33_method_3_code 27 = .ok (.lstore_n 1, 1) := by decide +kernel
theorem d4_28 : decode prog_33_method_3_code 28 = .ok (.lload_n 1, 1) := by decide +kernel
theorem d4_29 : decode prog_33_method_3_code 29 = .ok (.lload_n 1, 1) := by decide +kernel
theorem d4_30 : decode prog_33_method_3_code 30 = .ok (.bipush 27, 2) := by decide +kernel
theorem d4_32 : decode prog_33_method_3_code 32 = .ok (.lushr, 1) := by decide +kernel
theorem d4_33 : decode prog_33_method_3_code 33 = .ok (.lxor, 1) := by decide +kernel
theorem d4_34 : decode prog_33_method_3_code 34 = .ok (.ldc2_w 29, 3) := by decide +kernel
theorem d4_37 : decode prog_33_method_3_code 37 = .ok (.lmul, 1) := by decide +kernel
theorem d4_38 : decode prog_33_method_3_code 38 = .ok (.lstore_n 1, 1) := by decide +kernel
theorem d4_39 : decode prog_33_method_3_code 39 = .ok (.lload_n 1, 1) := by decide +kernel
theorem d4_40 : decode prog_33_method_3_code 40 = .ok (.lload_n 1, 1) := by decide +kernel
theorem d4_41 : decode prog_33_method_3_code 41 = .ok (.bipush 31, 2) := by decide +kernel
theorem d4_43 : decode prog_33_method_3_code 43 = .ok (.lushr, 1) := by decide +kernel
theorem d4_44 : decode prog_33_method_3_code 44 = .ok (.lxor, 1) := by decide +kernel
theorem d4_45 : decode prog_33_method_3_code 45 = .ok (.lreturn, 1) := by decide +kernel
def f4 (q : Int64) : Int64 := (let z9 : Int64 := (q + (-7046029254386353131 : Int64)); (let z12 : Int64 := ((z9 ^^^ (((z9).toUInt64 >>> ((30 : Int32) &&& 0x3f).toInt64.toUInt64).toInt64)) * (-4658895280553007687 : Int64)); (let z15 : Int64 := ((z12 ^^^ (((z12).toUInt64 >>> ((27 : Int32) &&& 0x3f).toInt64.toUInt64).toInt64)) * (-7723592293110705685 : Int64)); (z15 ^^^ (((z15).toUInt64 >>> ((31 : Int32) &&& 0x3f).toInt64.toUInt64).toInt64)))))
def Q4 (Z : State) (p0 : Addr) (q : Int64) (h0 : Heap) (n0 : Nat) (v : Option Value) (h : Heap) (L : List Loc) : Prop := v = some (.long (f4 q)) ∧ Fr n0 L ∧ Keep h0 h [p0] ∧ Exa Z h p0 "org/trentasette/Spinner" ∧ Fld Z h p0 "org/trentasette/Spinner" "state" "J" (.long (q + (-7046029254386353131 : Int64)))
abbrev rmm4 : Room := { frames := 0, cells := 0, slots := 0, locals := 0 }
abbrev P4 (Z : State) (p0 : Addr) (q : Int64) (h0 : Heap) (n0 : Nat) (s : State) : Outcome → State → Prop := fun o U' => ∃ v L, o = .returned v ∧ Q4 Z p0 q h0 n0 v U'.heap L ∧ FrameEnd s o U' L rmm4.cells rmm4.slots
theorem pn_4 : plainName "org/trentasette/Spinner" = true := by first | (simp [plainName, overriddenIn]; done) | decide +kernel
theorem ef_4 (m : MethodId) (p0 : Addr) : entryFrame m #[(.ref p0)] 3 = mkF m 0 #[.val (.ref p0), .unset, .unset] [] := by first | (simp [entryFrame, mkF, argsToLocals, Value.category]; done) | rfl
set_option maxRecDepth 65536 in
set_option maxHeartbeats 40000000 in
theorem rm4 (l : Launch) (Z : State) (a0 : Array Value) (hw : ∀ d ∈ tables_1, d.before a0 Z = true) (ws : List Jvm.Cond) (p0 : Addr) (q : Int64) (h0 : Heap) (n0 : Nat) (Z0 : n0 ≤ h0.size) (H0 : Exa Z h0 p0 "org/trentasette/Spinner") (H1 : Fld Z h0 p0 "org/trentasette/Spinner" "state" "J" (.long q)) (H2 : n0 ≤ p0) :
    MetFree l (⟨"org/trentasette/Spinner", "next", "()J"⟩ : MethodName) (head1 (Jvm.Cond.code (⟨"org/trentasette/Spinner", "next", "()J"⟩ : MethodName) prog_33_method_3_code 3 (some .long) :: ws) rmm4) (fun a U => a = #[(.ref p0)] ∧ Z.Warmed39 U.vm ∧ U.heap = h0) (fun _ _ _ _ _ => True) (fun _ U o U' => ∃ v L, o = .returned v ∧ Q4 Z p0 q h0 n0 v U'.heap L ∧ FrameEnd U o U' L rmm4.cells rmm4.slots) := by
  refine MetFree.of_bodySF (plainFor_of_name pn_4) hisR ?_
  intro p e s m args below meth c s₁ Bd hml0 hP hK
  obtain ⟨rfl, hZ, hh⟩ := hP
  have hx := Bd.exec
  have hby := Bd.bytes
  have hml : c.maxLocals = 3 := hml0
  have hown : s.vm.findClass "org/trentasette/Spinner" = some m.cls := findClass_of_methodNamed Bd.named
  have hnm := (name_of_methodNamed Bd.named Bd.method).1
  have X0 : Stand p l e rmm4 s m #[(.ref p0)] below meth c s₁ [] 0 0 := Stand.of_body Bd
  have e0 : s₁.heap = h0 := by rw [← hh, Bd.state]; rfl
  have N0 := Fr.nil n0
  show Go p.tables e below (P4 Z p0 q h0 n0 s) (s₁.setTop (entryFrame m #[(.ref p0)] 3))
  refine Go.back (fun t k => castTop (ef_4 m p0) k) ?_
  show Go p.tables e below (P4 Z p0 q h0 n0 s) (s₁.setTop (mkF m 0 #[.val (.ref p0), .unset, .unset] []))
  have hf0 : f4 q = (let z9 : Int64 := (q + (-7046029254386353131 : Int64)); (let z12 : Int64 := ((z9 ^^^ (((z9).toUInt64 >>> ((30 : Int32) &&& 0x3f).toInt64.toUInt64).toInt64)) * (-4658895280553007687 : Int64)); (let z15 : Int64 := ((z12 ^^^ (((z12).toUInt64 >>> ((27 : Int32) &&& 0x3f).toInt64.toUInt64).toInt64)) * (-7723592293110705685 : Int64)); (z15 ^^^ (((z15).toUInt64 >>> ((31 : Int32) &&& 0x3f).toInt64.toUInt64).toInt64))))) := rfl
  refine Go.back (fun t k => XS.aloadN X0.here hx rfl (hb hby d4_0) rfl rfl  k) ?_
  show Go p.tables e below (P4 Z p0 q h0 n0 s) (s₁.setTop (mkF m 1 #[.val (.ref p0), .unset, .unset] [(.ref p0)]))
  refine Go.back (fun t k => XS.dup X0.here hx rfl (hb hby d4_1) rfl rfl k) ?_
  show Go p.tables e below (P4 Z p0 q h0 n0 s) (s₁.setTop (mkF m 2 #[.val (.ref p0), .unset, .unset] [(.ref p0), (.ref p0)]))
  obtain ⟨T1, X1, e1, st1⟩ := getF X0 hx hZ hown (host := "") (Or.inl (hw _ (List.mem_of_getElem? (i := 9) rfl))) Via.refl e0 H1 (g := (mkF m 2 #[.val (.ref p0), .unset, .unset] [(.ref p0), (.ref p0)])) rfl rfl (hb hby d4_2)
  refine Go.back st1 ?_
  show Go p.tables e below (P4 Z p0 q h0 n0 s) (T1.setTop (mkF m 5 #[.val (.ref p0), .unset, .unset] [(.long q), (.ref p0)]))
  refine Go.back (fun t k => X1.ldc2Long hx hown (mvT hZ (hw _ (List.mem_of_getElem? (i := 21) rfl))) (g := (mkF m 5 #[.val (.ref p0), .unset, .unset] [(.long q), (.ref p0)])) rfl (hb hby d4_5) t k) ?_
  show Go p.tables e below (P4 Z p0 q h0 n0 s) (T1.setTop (mkF m 8 #[.val (.ref p0), .unset, .unset] [(.long (-7046029254386353131 : Int64)), (.long q), (.ref p0)]))
  refine Go.back (fun t k => XS.ladd X1.here hx rfl (hb hby d4_8) rfl k) ?_
  show Go p.tables e below (P4 Z p0 q h0 n0 s) (T1.setTop (mkF m 9 #[.val (.ref p0), .unset, .unset] [(.long (q + (-7046029254386353131 : Int64))), (.ref p0)]))
  obtain ⟨T2, h2, X2, e2, W2, st2⟩ := putF X1 hx hZ hown (host := "") (Or.inl (hw _ (List.mem_of_getElem? (i := 9) rfl))) Via.refl e1 H1 H0 (Or.inl (hw _ (List.mem_of_getElem? (i := 10) rfl))) (hw _ (List.mem_of_getElem? (i := 1) rfl)) (ty := .long) (by decide) rfl rfl (g := (mkF m 9 #[.val (.ref p0), .unset, .unset] [(.long (q + (-7046029254386353131 : Int64))), (.ref p0)])) rfl rfl (hb hby d4_9)
  have F3 : Exa Z h2 p0 "org/trentasette/Spinner" := H0.wr W2
  have F4 : Fld Z h2 p0 "org/trentasette/Spinner" "state" "J" (.long (q + (-7046029254386353131 : Int64))) := H1.same W2
  have F5 : n0 ≤ h2.size := Nat.le_trans Z0 (Keep.of_wr W2).1
  have F6 : Keep h0 h2 [p0] := (Keep.refl h0 [p0]).wr W2 (Or.inl (List.mem_of_getElem? (i := 0) rfl))
  obtain ⟨Lo2, Y2, N2⟩ := pk X2 (Fr.snoc X2 N0 H2)
  refine Go.back st2 ?_
  show Go p.tables e below (P4 Z p0 q h0 n0 s) (T2.setTop (mkF m 12 #[.val (.ref p0), .unset, .unset] []))
  refine Go.back (fun t k => XS.aloadN Y2.here hx rfl (hb hby d4_12) rfl rfl  k) ?_
  show Go p.tables e below (P4 Z p0 q h0 n0 s) (T2.setTop (mkF m 13 #[.val (.ref p0), .unset, .unset] [(.ref p0)]))
  obtain ⟨T7, X7, e7, st7⟩ := getF Y2 hx hZ hown (host := "") (Or.inl (hw _ (List.mem_of_getElem? (i := 9) rfl))) Via.refl e2 F4 (g := (mkF m 13 #[.val (.ref p0), .unset, .unset] [(.ref p0)])) rfl rfl (hb hby d4_13)
  refine Go.back st7 ?_
  show Go p.tables e below (P4 Z p0 q h0 n0 s) (T7.setTop (mkF m 16 #[.val (.ref p0), .unset, .unset] [(.long (q + (-7046029254386353131 : Int64)))]))
  refine Go.back (fun t k => XS.lstoreN X7.here hx rfl (hb hby d4_16) rfl (l' := #[.val (.ref p0), .val (.long (q + (-7046029254386353131 : Int64))), .second]) rfl k) ?_
  show Go p.tables e below (P4 Z p0 q h0 n0 s) (T7.setTop (mkF m 17 #[.val (.ref p0), .val (.long (q + (-7046029254386353131 : Int64))), .second] []))
  have J8 : ∀ (z9 : Int64) (hz9 : z9 = (q + (-7046029254386353131 : Int64))), Go p.tables e below (P4 Z p0 q h0 n0 s) (T7.setTop (mkF m 17 #[.val (.ref p0), .val (.long z9), .second] [])) := by
    intro z9 hz9
    have r10 : f4 q = (let z12 : Int64 := ((z9 ^^^ (((z9).toUInt64 >>> ((30 : Int32) &&& 0x3f).toInt64.toUInt64).toInt64)) * (-4658895280553007687 : Int64)); (let z15 : Int64 := ((z12 ^^^ (((z12).toUInt64 >>> ((27 : Int32) &&& 0x3f).toInt64.toUInt64).toInt64)) * (-7723592293110705685 : Int64)); (z15 ^^^ (((z15).toUInt64 >>> ((31 : Int32) &&& 0x3f).toInt64.toUInt64).toInt64)))) := by subst hz9; exact hf0
    show Go p.tables e below (P4 Z p0 q h0 n0 s) (T7.setTop (mkF m 17 #[.val (.ref p0), .val (.long z9), .second] []))
    refine Go.back (fun t k => XS.lloadN X7.here hx rfl (hb hby d4_17) rfl  k) ?_
    show Go p.tables e below (P4 Z p0 q h0 n0 s) (T7.setTop (mkF m 18 #[.val (.ref p0), .val (.long z9), .second] [(.long z9)]))
    refine Go.back (fun t k => XS.lloadN X7.here hx rfl (hb hby d4_18) rfl  k) ?_
    show Go p.tables e below (P4 Z p0 q h0 n0 s) (T7.setTop (mkF m 19 #[.val (.ref p0), .val (.long z9), .second] [(.long z9), (.long z9)]))
    refine Go.back (fun t k => XS.bipush X7.here hx rfl (hb hby d4_19) k) ?_
    show Go p.tables e below (P4 Z p0 q h0 n0 s) (T7.setTop (mkF m 21 #[.val (.ref p0), .val (.long z9), .second] [(.int (30 : Int32)), (.long z9), (.long z9)]))
    refine Go.back (fun t k => XS.lushr X7.here hx rfl (hb hby d4_21) rfl k) ?_
    show Go p.tables e below (P4 Z p0 q h0 n0 s) (T7.setTop (mkF m 22 #[.val (.ref p0), .val (.long z9), .second] [(.long (((z9).toUInt64 >>> ((30 : Int32) &&& 0x3f).toInt64.toUInt64).toInt64)), (.long z9)]))
    refine Go.back (fun t k => XS.lxor X7.here hx rfl (hb hby d4_22) rfl k) ?_
    show Go p.tables e below (P4 Z p0 q h0 n0 s) (T7.setTop (mkF m 23 #[.val (.ref p0), .val (.long z9), .second] [(.long (z9 ^^^ (((z9).toUInt64 >>> ((30 : Int32) &&& 0x3f).toInt64.toUInt64).toInt64)))]))
    refine Go.back (fun t k => X7.ldc2Long hx hown (mvT hZ (hw _ (List.mem_of_getElem? (i := 22) rfl))) (g := (mkF m 23 #[.val (.ref p0), .val (.long z9), .second] [(.long (z9 ^^^ (((z9).toUInt64 >>> ((30 : Int32) &&& 0x3f).toInt64.toUInt64).toInt64)))])) rfl (hb hby d4_23) t k) ?_
    show Go p.tables e below (P4 Z p0 q h0 n0 s) (T7.setTop (mkF m 26 #[.val (.ref p0), .val (.long z9), .second] [(.long (-4658895280553007687 : Int64)), (.long (z9 ^^^ (((z9).toUInt64 >>> ((30 : Int32) &&& 0x3f).toInt64.toUInt64).toInt64)))]))
    refine Go.back (fun t k => XS.lmul X7.here hx rfl (hb hby d4_26) rfl k) ?_
    show Go p.tables e below (P4 Z p0 q h0 n0 s) (T7.setTop (mkF m 27 #[.val (.ref p0), .val (.long z9), .second] [(.long ((z9 ^^^ (((z9).toUInt64 >>> ((30 : Int32) &&& 0x3f).toInt64.toUInt64).toInt64)) * (-4658895280553007687 : Int64)))]))
    refine Go.back (fun t k => XS.lstoreN X7.here hx rfl (hb hby d4_27) rfl (l' := #[.val (.ref p0), .val (.long ((z9 ^^^ (((z9).toUInt64 >>> ((30 : Int32) &&& 0x3f).toInt64.toUInt64).toInt64)) * (-4658895280553007687 : Int64))), .second]) rfl k) ?_
    show Go p.tables e below (P4 Z p0 q h0 n0 s) (T7.setTop (mkF m 28 #[.val (.ref p0), .val (.long ((z9 ^^^ (((z9).toUInt64 >>> ((30 : Int32) &&& 0x3f).toInt64.toUInt64).toInt64)) * (-4658895280553007687 : Int64))), .second] []))
    have J11 : ∀ (z12 : Int64) (hz12 : z12 = ((z9 ^^^ (((z9).toUInt64 >>> ((30 : Int32) &&& 0x3f).toInt64.toUInt64).toInt64)) * (-4658895280553007687 : Int64))), Go p.tables e below (P4 Z p0 q h0 n0 s) (T7.setTop (mkF m 28 #[.val (.ref p0), .val (.long z12), .second] [])) := by
      intro z12 hz12
      have r13 : f4 q = (let z15 : Int64 := ((z12 ^^^ (((z12).toUInt64 >>> ((27 : Int32) &&& 0x3f).toInt64.toUInt64).toInt64)) * (-7723592293110705685 : Int64)); (z15 ^^^ (((z15).toUInt64 >>> ((31 : Int32) &&& 0x3f).toInt64.toUInt64).toInt64))) := by subst hz12; exact r10
      show Go p.tables e below (P4 Z p0 q h0 n0 s) (T7.setTop (mkF m 28 #[.val (.ref p0), .val (.long z12), .second] []))
      refine Go.back (fun t k => XS.lloadN X7.here hx rfl (hb hby d4_28) rfl  k) ?_
      show Go p.tables e below (P4 Z p0 q h0 n0 s) (T7.setTop (mkF m 29 #[.val (.ref p0), .val (.long z12), .second] [(.long z12)]))
      refine Go.back (fun t k => XS.lloadN X7.here hx rfl (hb hby d4_29) rfl  k) ?_
      show Go p.tables e below (P4 Z p0 q h0 n0 s) (T7.setTop (mkF m 30 #[.val (.ref p0), .val (.long z12), .second] [(.long z12), (.long z12)]))
      refine Go.back (fun t k => XS.bipush X7.here hx rfl (hb hby d4_30) k) ?_
      show Go p.tables e below (P4 Z p0 q h0 n0 s) (T7.setTop (mkF m 32 #[.val (.ref p0), .val (.long z12), .second] [(.int (27 : Int32)), (.long z12), (.long z12)]))
      refine Go.back (fun t k => XS.lushr X7.here hx rfl (hb hby d4_32) rfl k) ?_
      show Go p.tables e below (P4 Z p0 q h0 n0 s) (T7.setTop (mkF m 33 #[.val (.ref p0), .val (.long z12), .second] [(.long (((z12).toUInt64 >>> ((27 : Int32) &&& 0x3f).toInt64.toUInt64).toInt64)), (.long z12)]))
      refine Go.back (fun t k => XS.lxor X7.here hx rfl (hb hby d4_33) rfl k) ?_
      show Go p.tables e below (P4 Z p0 q h0 n0 s) (T7.setTop (mkF m 34 #[.val (.ref p0), .val (.long z12), .second] [(.long (z12 ^^^ (((z12).toUInt64 >>> ((27 : Int32) &&& 0x3f).toInt64.toUInt64).toInt64)))]))
      refine Go.back (fun t k => X7.ldc2Long hx hown (mvT hZ (hw _ (List.mem_of_getElem? (i := 23) rfl))) (g := (mkF m 34 #[.val (.ref p0), .val (.long z12), .second] [(.long (z12 ^^^ (((z12).toUInt64 >>> ((27 : Int32) &&& 0x3f).toInt64.toUInt64).toInt64)))])) rfl (hb hby d4_34) t k) ?_
      show Go p.tables e below (P4 Z p0 q h0 n0 s) (T7.setTop (mkF m 37 #[.val (.ref p0), .val (.long z12), .second] [(.long (-7723592293110705685 : Int64)), (.long (z12 ^^^ (((z12).toUInt64 >>> ((27 : Int32) &&& 0x3f).toInt64.toUInt64).toInt64)))]))
      refine Go.back (fun t k => XS.lmul X7.here hx rfl (hb hby d4_37) rfl k) ?_
      show Go p.tables e below (P4 Z p0 q h0 n0 s) (T7.setTop (mkF m 38 #[.val (.ref p0), .val (.long z12), .second] [(.long ((z12 ^^^ (((z12).toUInt64 >>> ((27 : Int32) &&& 0x3f).toInt64.toUInt64).toInt64)) * (-7723592293110705685 : Int64)))]))
      refine Go.back (fun t k => XS.lstoreN X7.here hx rfl (hb hby d4_38) rfl (l' := #[.val (.ref p0), .val (.long ((z12 ^^^ (((z12).toUInt64 >>> ((27 : Int32) &&& 0x3f).toInt64.toUInt64).toInt64)) * (-7723592293110705685 : Int64))), .second]) rfl k) ?_
      show Go p.tables e below (P4 Z p0 q h0 n0 s) (T7.setTop (mkF m 39 #[.val (.ref p0), .val (.long ((z12 ^^^ (((z12).toUInt64 >>> ((27 : Int32) &&& 0x3f).toInt64.toUInt64).toInt64)) * (-7723592293110705685 : Int64))), .second] []))
      have J14 : ∀ (z15 : Int64) (hz15 : z15 = ((z12 ^^^ (((z12).toUInt64 >>> ((27 : Int32) &&& 0x3f).toInt64.toUInt64).toInt64)) * (-7723592293110705685 : Int64))), Go p.tables e below (P4 Z p0 q h0 n0 s) (T7.setTop (mkF m 39 #[.val (.ref p0), .val (.long z15), .second] [])) := by
        intro z15 hz15
        have r16 : f4 q = (z15 ^^^ (((z15).toUInt64 >>> ((31 : Int32) &&& 0x3f).toInt64.toUInt64).toInt64)) := by subst hz15; exact r13
        show Go p.tables e below (P4 Z p0 q h0 n0 s) (T7.setTop (mkF m 39 #[.val (.ref p0), .val (.long z15), .second] []))
        refine Go.back (fun t k => XS.lloadN X7.here hx rfl (hb hby d4_39) rfl  k) ?_
        show Go p.tables e below (P4 Z p0 q h0 n0 s) (T7.setTop (mkF m 40 #[.val (.ref p0), .val (.long z15), .second] [(.long z15)]))
        refine Go.back (fun t k => XS.lloadN X7.here hx rfl (hb hby d4_40) rfl  k) ?_
        show Go p.tables e below (P4 Z p0 q h0 n0 s) (T7.setTop (mkF m 41 #[.val (.ref p0), .val (.long z15), .second] [(.long z15), (.long z15)]))
        refine Go.back (fun t k => XS.bipush X7.here hx rfl (hb hby d4_41) k) ?_
        show Go p.tables e below (P4 Z p0 q h0 n0 s) (T7.setTop (mkF m 43 #[.val (.ref p0), .val (.long z15), .second] [(.int (31 : Int32)), (.long z15), (.long z15)]))
        refine Go.back (fun t k => XS.lushr X7.here hx rfl (hb hby d4_43) rfl k) ?_
        show Go p.tables e below (P4 Z p0 q h0 n0 s) (T7.setTop (mkF m 44 #[.val (.ref p0), .val (.long z15), .second] [(.long (((z15).toUInt64 >>> ((31 : Int32) &&& 0x3f).toInt64.toUInt64).toInt64)), (.long z15)]))
        refine Go.back (fun t k => XS.lxor X7.here hx rfl (hb hby d4_44) rfl k) ?_
        show Go p.tables e below (P4 Z p0 q h0 n0 s) (T7.setTop (mkF m 45 #[.val (.ref p0), .val (.long z15), .second] [(.long (z15 ^^^ (((z15).toUInt64 >>> ((31 : Int32) &&& 0x3f).toInt64.toUInt64).toInt64)))]))
        exact Go.retJ X7 hx Bd.returns (hb hby d4_45) Bd.notSynchronized ⟨by rw [r16], N2, (by rw [e7]; exact F6), (by rw [e7]; exact F3), (by rw [e7]; exact F4)⟩ (by decide) (by decide)
      exact J14 _ rfl
    exact J11 _ rfl
  exact J8 _ rfl
theorem own_shr (k : Nat) (x y : BitVec 64) : (x ^^^ y) >>> k = (x >>> k) ^^^ (y >>> k) := BitVec.ushiftRight_xor_distrib x y k
theorem own_xs (k : Nat) (hk : 22 ≤ k) (x y : BitVec 64) (h : x ^^^ (x >>> k) = y ^^^ (y >>> k)) : x = y := by
  have d : x ^^^ y = (x ^^^ y) >>> k := by
    rw [own_shr]
    have e : (x ^^^ (x >>> k)) ^^^ (y ^^^ (y >>> k)) = 0#64 := by rw [h, BitVec.xor_self]
    have e2 : (x ^^^ y) ^^^ ((x >>> k) ^^^ (y >>> k)) = 0#64 := by
      rw [← e]; apply BitVec.eq_of_getLsbD_eq; intro i hi; simp only [BitVec.getLsbD_xor]
      cases x.getLsbD i <;> cases y.getLsbD i <;> cases (x >>> k).getLsbD i <;> cases (y >>> k).getLsbD i <;> rfl
    have e3 : ((x ^^^ y) ^^^ ((x >>> k) ^^^ (y >>> k))) ^^^ ((x >>> k) ^^^ (y >>> k)) = 0#64 ^^^ ((x >>> k) ^^^ (y >>> k)) := by rw [e2]
    rw [BitVec.xor_assoc, BitVec.xor_self, BitVec.xor_zero, BitVec.zero_xor] at e3
    exact e3
  have z : x ^^^ y = 0#64 := by
    generalize x ^^^ y = D at d
    have e2 : D = D >>> (k + k) := by rw [BitVec.shiftRight_add]; rw [← d]; exact d
    have e3 : D = D >>> (k + k + k) := by rw [BitVec.shiftRight_add]; rw [← e2]; exact d
    apply BitVec.eq_of_toNat_eq
    rw [e3, BitVec.toNat_ushiftRight, Nat.shiftRight_eq_div_pow]
    have := D.isLt
    rw [Nat.div_eq_of_lt (Nat.lt_of_lt_of_le this (Nat.pow_le_pow_right (by decide) (by omega)))]
    rfl
  have : x ^^^ (x ^^^ y) = x ^^^ 0#64 := by rw [z]
  rw [← BitVec.xor_assoc, BitVec.xor_self, BitVec.zero_xor, BitVec.xor_zero] at this
  exact this.symm
theorem own_x30 (x y : Int64) (h : x ^^^ (((x).toUInt64 >>> ((30 : Int32) &&& 0x3f).toInt64.toUInt64).toInt64) = y ^^^ (((y).toUInt64 >>> ((30 : Int32) &&& 0x3f).toInt64.toUInt64).toInt64)) : x = y :=
  Int64.toBitVec_inj.mp (own_xs 30 (by decide) _ _ (congrArg Int64.toBitVec h))
theorem own_x27 (x y : Int64) (h : x ^^^ (((x).toUInt64 >>> ((27 : Int32) &&& 0x3f).toInt64.toUInt64).toInt64) = y ^^^ (((y).toUInt64 >>> ((27 : Int32) &&& 0x3f).toInt64.toUInt64).toInt64)) : x = y :=
  Int64.toBitVec_inj.mp (own_xs 27 (by decide) _ _ (congrArg Int64.toBitVec h))
theorem own_x31 (x y : Int64) (h : x ^^^ (((x).toUInt64 >>> ((31 : Int32) &&& 0x3f).toInt64.toUInt64).toInt64) = y ^^^ (((y).toUInt64 >>> ((31 : Int32) &&& 0x3f).toInt64.toUInt64).toInt64)) : x = y :=
  Int64.toBitVec_inj.mp (own_xs 31 (by decide) _ _ (congrArg Int64.toBitVec h))
theorem own_mul (c d : Int64) (hcd : c * d = 1) (x y : Int64) (h : x * c = y * c) : x = y := by
  have e : x * c * d = y * c * d := by rw [h]
  rw [Int64.mul_assoc, Int64.mul_assoc, hcd, Int64.mul_one, Int64.mul_one] at e
  exact e
theorem own_inj (a b : Int64) (h : f4 a = f4 b) : a = b := by
  unfold f4 at h
  have h1 := own_x31 _ _ h
  have h2 := own_x27 _ _ (own_mul _ (3573116690164977347 : Int64) (by decide +kernel) _ _ h1)
  have h3 := own_x30 _ _ (own_mul _ (-7575587736534282103 : Int64) (by decide +kernel) _ _ h2)
  have e : a + (-7046029254386353131 : Int64) - (-7046029254386353131 : Int64) = b + (-7046029254386353131 : Int64) - (-7046029254386353131 : Int64) := by rw [h3]
  rw [Int64.add_sub_cancel, Int64.add_sub_cancel] at e
  exact e
def own_b (q : Int64) : Int64 := ((((f4 q)).toUInt64 >>> ((1 : Int32) &&& 0x3f).toInt64.toUInt64).toInt64)
def own_spin : Nat → Int64 → Int32 × Int64
  | 0, q => (0, q)
  | n + 1, q => if own_b q < (9223372036854775802 : Int64) then ((own_b q % (37 : Int64)).toInt32, q + (-7046029254386353131 : Int64)) else own_spin n (q + (-7046029254386353131 : Int64))
def own_good : Nat → Int64 → Prop
  | 0, _ => False
  | n + 1, q => own_b q < (9223372036854775802 : Int64) ∨ own_good n (q + (-7046029254386353131 : Int64))
theorem own_none (q : Int64) : ¬ own_good 0 q := fun h => h
theorem own_spin_pos {n : Nat} {q : Int64} (h : own_b q < (9223372036854775802 : Int64)) : own_spin (n + 1) q = ((own_b q % (37 : Int64)).toInt32, q + (-7046029254386353131 : Int64)) := if_pos h
theorem own_spin_neg {n : Nat} {q : Int64} (h : ¬ own_b q < (9223372036854775802 : Int64)) : own_spin (n + 1) q = own_spin n (q + (-7046029254386353131 : Int64)) := if_neg h
theorem own_good_next {n : Nat} {q : Int64} (g : own_good (n + 1) q) (h : ¬ own_b q < (9223372036854775802 : Int64)) : own_good n (q + (-7046029254386353131 : Int64)) := g.resolve_left h
theorem own_php : ∀ (n : Nat) (f : Nat → Nat), (∀ i, i ≤ n → f i < n) → (∀ i j, i ≤ n → j ≤ n → f i = f j → i = j) → False
  | 0, f, h, _ => absurd (h 0 (Nat.le_refl _)) (Nat.not_lt_zero _)
  | n + 1, f, h, inj => by
    refine own_php n (fun i => if f i = n then f (n + 1) else f i) (fun i hi => ?_) (fun i j hi hj e => ?_)
    · have a := h i (by omega); have b := h (n + 1) (by omega)
      split
      · rename_i c
        have : f (n + 1) ≠ n := fun y => by have := inj i (n + 1) (by omega) (by omega) (by rw [c, y]); omega
        omega
      · omega
    · split at e <;> split at e
      · rename_i c d; exact inj i j (by omega) (by omega) (by rw [c, d])
      · have := inj (n + 1) j (by omega) (by omega) e; omega
      · have := inj i (n + 1) (by omega) (by omega) e; omega
      · exact inj i j (by omega) (by omega) e
def own_itg (g : Int64) : Nat → Int64 → Int64
  | 0, q => q
  | n + 1, q => own_itg g n (q + g)
theorem own_itg_eq (g : Int64) : ∀ (n : Nat) (q : Int64), own_itg g n q = q + Int64.ofNat n * g
  | 0, q => by rw [own_itg, show Int64.ofNat 0 = 0 from rfl, Int64.zero_mul, Int64.add_zero]
  | n + 1, q => by
    have e : Int64.ofNat (n + 1) * g = g + Int64.ofNat n * g := by rw [Int64.ofNat_add, Int64.add_mul, show Int64.ofNat 1 = 1 from rfl, Int64.one_mul, Int64.add_comm]
    rw [own_itg, own_itg_eq g n, e, Int64.add_assoc]
abbrev own_it (n : Nat) (q : Int64) : Int64 := own_itg (-7046029254386353131 : Int64) n q
theorem own_it_eq (n : Nat) (q : Int64) : own_it n q = q + Int64.ofNat n * (-7046029254386353131 : Int64) := own_itg_eq _ n q
theorem own_itg0 (g q : Int64) : own_itg g 0 q = q := rfl
theorem own_itg1 (g : Int64) (k : Nat) (q : Int64) : own_itg g (k + 1) q = own_itg g k (q + g) := by rw [own_itg]
theorem own_it0 (q : Int64) : own_it 0 q = q := own_itg0 _ q
theorem own_it1 (k : Nat) (q : Int64) : own_it (k + 1) q = own_it k (q + (-7046029254386353131 : Int64)) := own_itg1 _ k q
theorem own_good_iff (n : Nat) (q : Int64) : own_good (n + 1) q = (own_b q < (9223372036854775802 : Int64) ∨ own_good n (q + (-7046029254386353131 : Int64))) := rfl
theorem own_bad (n : Nat) : ∀ (q : Int64), ¬ own_good n q → ∀ k, k < n → ¬ own_b (own_it k q) < (9223372036854775802 : Int64) := by
  induction n with
  | zero => intro q _ k hk; exact absurd hk (Nat.not_lt_zero _)
  | succ n ih =>
    intro q h k hk
    rw [own_good_iff] at h
    cases k with
    | zero => rw [own_it0]; exact fun y => h (Or.inl y)
    | succ k => rw [own_it1]; exact ih _ (fun y => h (Or.inr y)) k (by omega)
theorem own_bval (x : Int64) : (own_b x).toInt = ((f4 x).toInt % 18446744073709551616) / 2 := c_lushr (f4 x) 1 1 (by decide) (by decide)
theorem own_step : ∀ i j : Fin 13, Int64.ofNat i.val * (-7046029254386353131 : Int64) = Int64.ofNat j.val * (-7046029254386353131 : Int64) → i = j := by decide +kernel
theorem own_all (q : Int64) : own_good 13 q := by
  refine Classical.byContradiction fun h => ?_
  have bad := own_bad 13 q h
  have lim : (9223372036854775802 : Int64).toInt = 9223372036854775802 := rfl
  have val : ∀ k, k < 13 → 18446744073709551604 ≤ (f4 (own_it k q)).toInt % 18446744073709551616 := fun k hk => by
    have b := bad k hk
    rw [Int64.lt_iff_toInt_lt, lim, own_bval] at b
    omega
  refine own_php 12 (fun k => ((f4 (own_it k q)).toInt % 18446744073709551616 - 18446744073709551604).toNat) (fun i hi => ?_) (fun i j hi hj e => ?_)
  · have := val i (by omega); omega
  · have v1 := val i (by omega); have v2 := val j (by omega)
    have r1 := rng64 (f4 (own_it i q)); have r2 := rng64 (f4 (own_it j q))
    have e1 : f4 (own_it i q) = f4 (own_it j q) := Int64.toInt_inj.mp (by omega)
    have e2 := own_inj _ _ e1
    rw [own_it_eq, own_it_eq] at e2
    have e3 : Int64.ofNat i * (-7046029254386353131 : Int64) = Int64.ofNat j * (-7046029254386353131 : Int64) := by
      have := congrArg (fun z => z - q) e2
      simpa [Int64.add_comm q, Int64.add_sub_cancel] using this
    have := own_step ⟨i, by omega⟩ ⟨j, by omega⟩ e3
    exact congrArg Fin.val this
theorem d3_0 : decode prog_33_method_2_code 0 = .ok (.aload_n 0, 1) := by decide +kernel
theorem d3_1 : decode prog_33_method_2_code 1 = .ok (.invokevirtual 17, 3) := by decide +kernel
theorem d3_4 : decode prog_33_method_2_code 4 = .ok (.iconst 1, 1) := by decide +kernel
theorem d3_5 : decode prog_33_method_2_code 5 = .ok (.lushr, 1) := by decide +kernel
theorem d3_6 : decode prog_33_method_2_code 6 = .ok (.lstore_n 1, 1) := by decide +kernel
theorem d3_7 : decode prog_33_method_2_code 7 = .ok (.lload_n 1, 1) := by decide +kernel
theorem d3_8 : decode prog_33_method_2_code 8 = .ok (.ldc2_w 21, 3) := by decide +kernel
theorem d3_11 : decode prog_33_method_2_code 11 = .ok (.lcmp, 1) := by decide +kernel
theorem d3_12 : decode prog_33_method_2_code 12 = .ok (.ifCond .ge 10, 3) := by decide +kernel
theorem d3_15 : decode prog_33_method_2_code 15 = .ok (.lload_n 1, 1) := by decide +kernel
theorem d3_16 : decode prog_33_method_2_code 16 = .ok (.ldc2_w 23, 3) := by decide +kernel
theorem d3_19 : decode prog_33_method_2_code 19 = .ok (.lrem, 1) := by decide +kernel
theorem d3_20 : decode prog_33_method_2_code 20 = .ok (.l2i, 1) := by decide +kernel
theorem d3_21 : decode prog_33_method_2_code 21 = .ok (.ireturn, 1) := by decide +kernel
theorem d3_22 : decode prog_33_method_2_code 22 = .ok (.goto (-22), 3) := by decide +kernel
def Q3 (Z : State) (p0 : Addr) (q : Int64) (h0 : Heap) (n0 : Nat) (v : Option Value) (h : Heap) (L : List Loc) : Prop := v = some (.int (own_spin 13 q).1) ∧ Fr n0 L ∧ Keep h0 h [p0] ∧ Exa Z h p0 "org/trentasette/Spinner" ∧ Fld Z h p0 "org/trentasette/Spinner" "state" "J" (.long (own_spin 13 q).2)
abbrev rmm3 : Room := { frames := 1, cells := 0, slots := 0, locals := 14 }
abbrev P3 (Z : State) (p0 : Addr) (q : Int64) (h0 : Heap) (n0 : Nat) (s : State) : Outcome → State → Prop := fun o U' => ∃ v L, o = .returned v ∧ Q3 Z p0 q h0 n0 v U'.heap L ∧ FrameEnd s o U' L rmm3.cells rmm3.slots
theorem pn_3 : plainName "org/trentasette/Spinner" = true := by first | (simp [plainName, overriddenIn]; done) | decide +kernel
theorem ef_3 (m : MethodId) (p0 : Addr) : entryFrame m #[(.ref p0)] 3 = mkF m 0 #[.val (.ref p0), .unset, .unset] [] := by first | (simp [entryFrame, mkF, argsToLocals, Value.category]; done) | rfl
set_option maxRecDepth 65536 in
set_option maxHeartbeats 40000000 in
theorem rm3 (l : Launch) (Z : State) (a0 : Array Value) (hw : ∀ d ∈ tables_1, d.before a0 Z = true) (ws : List Jvm.Cond) (p0 : Addr) (q : Int64) (h0 : Heap) (n0 : Nat) (Z0 : n0 ≤ h0.size) (H0 : Exa Z h0 p0 "org/trentasette/Spinner") (H1 : Fld Z h0 p0 "org/trentasette/Spinner" "state" "J" (.long q)) (H2 : n0 ≤ p0) (hg0 : own_good 13 q) :
    MetFree l (⟨"org/trentasette/Spinner", "spin", "()I"⟩ : MethodName) (head1 (Jvm.Cond.code (⟨"org/trentasette/Spinner", "spin", "()I"⟩ : MethodName) prog_33_method_2_code 3 (some .int) :: ws) rmm3) (fun a U => a = #[(.ref p0)] ∧ Z.Warmed39 U.vm ∧ U.heap = h0) (fun _ _ _ _ _ => True) (fun _ U o U' => ∃ v L, o = .returned v ∧ Q3 Z p0 q h0 n0 v U'.heap L ∧ FrameEnd U o U' L rmm3.cells rmm3.slots) := by
  refine MetFree.of_bodySF (plainFor_of_name pn_3) hisR ?_
  intro p e s m args below meth c s₁ Bd hml0 hP hK
  obtain ⟨rfl, hZ, hh⟩ := hP
  have hx := Bd.exec
  have hby := Bd.bytes
  have hml : c.maxLocals = 3 := hml0
  have hown : s.vm.findClass "org/trentasette/Spinner" = some m.cls := findClass_of_methodNamed Bd.named
  have hnm := (name_of_methodNamed Bd.named Bd.method).1
  have X0 : Stand p l e rmm3 s m #[(.ref p0)] below meth c s₁ [] 0 0 := Stand.of_body Bd
  have e0 : s₁.heap = h0 := by rw [← hh, Bd.state]; rfl
  have N0 := Fr.nil n0
  show Go p.tables e below (P3 Z p0 q h0 n0 s) (s₁.setTop (entryFrame m #[(.ref p0)] 3))
  refine Go.back (fun t k => castTop (ef_3 m p0) k) ?_
  show Go p.tables e below (P3 Z p0 q h0 n0 s) (s₁.setTop (mkF m 0 #[.val (.ref p0), .unset, .unset] []))
  have LOOP1 : ∀ (n : Nat) (b : Int64) (qq : Int64) (T2 : State) (L2 : List Loc) (X2 : Stand p l e rmm3 s m #[(.ref p0)] below meth c T2 L2 0 0) (N2 : Fr n0 L2) (h2 : Heap) (e2 : T2.heap = h2) (F3 : Exa Z h2 p0 "org/trentasette/Spinner") (F4 : Fld Z h2 p0 "org/trentasette/Spinner" "state" "J" (.long qq)) (F5 : n0 ≤ h2.size) (F6 : Keep h0 h2 [p0]) (hg : own_good n qq) (hr : own_spin 13 q = own_spin n qq), Go p.tables e below (P3 Z p0 q h0 n0 s) (T2.setTop (mkF m 0 #[.val (.ref p0), .val (.long b), .second] [])) := by
    intro n
    induction n with
    | zero =>
      intro b qq T2 L2 X2 N2 h2 e2 F3 F4 F5 F6 hg hr
      show Go p.tables e below (P3 Z p0 q h0 n0 s) (T2.setTop (mkF m 0 #[.val (.ref p0), .val (.long b), .second] []))
      exact absurd hg (own_none _)
    | succ n ih =>
      intro b qq T2 L2 X2 N2 h2 e2 F3 F4 F5 F6 hg hr
      show Go p.tables e below (P3 Z p0 q h0 n0 s) (T2.setTop (mkF m 0 #[.val (.ref p0), .val (.long b), .second] []))
      refine Go.back (fun t k => XS.aloadN X2.here hx rfl (hb hby d3_0) rfl rfl  k) ?_
      show Go p.tables e below (P3 Z p0 q h0 n0 s) (T2.setTop (mkF m 1 #[.val (.ref p0), .val (.long b), .second] [(.ref p0)]))
      obtain ⟨cq7, kq7, q7a, q7b, q7c⟩ := isOf hZ e2 F3
      obtain ⟨_, _, ⟨T7, L7, k7, n7⟩, -, X7, ⟨Lc7, hQ7, l7, y7, z7⟩, st7⟩ := X2.virtualBack hx (y := (⟨"org/trentasette/Spinner", "next", "()J"⟩ : MethodName)) (z := (⟨"org/trentasette/Spinner", "next", "()J"⟩ : MethodName)) hown (mvT hZ (hw _ (List.mem_of_getElem? (i := 16) rfl))) (mvT hZ (hw _ (List.mem_of_getElem? (i := 17) rfl))) (notFace_of_selects (args := #[]) (mvT hZ (hw _ (List.mem_of_getElem? (i := 19) rfl)))) (mvT hZ (hw _ (List.mem_of_getElem? (i := 19) rfl))) (mvT hZ (hw _ (List.mem_of_getElem? (i := 18) rfl))) (by decide) (backOf (W := 0) (rm4 l Z a0 hw [] p0 qq h2 n0 F5 F3 F4 H2) hZ (hw _ (List.mem_of_getElem? (i := 20) rfl)) (hw _ (List.mem_of_getElem? (i := 2) rfl)) (by decide) (by decide)) q7a q7c (g := (mkF m 1 #[.val (.ref p0), .val (.long b), .second] [(.ref p0)])) rfl (by rw [hml]; rfl) (Steps.refl _) (argsL := []) (rest := []) (lenOf pd_0 rfl) rfl (by show 2 * 0 + _ ≤ _; exact Nat.le_of_eq rfl) (hb hby d3_1) (fun _ _ => ⟨rfl, e2, (by decide : 0 + 0 ≤ _), (by decide : 0 + 0 ≤ _)⟩)
      dsimp only [Pt.U, Pt.locs, Pt.cells, Pt.slots] at X7 l7 y7 z7 st7 hQ7
      subst l7 y7 z7
      obtain ⟨h7, e7⟩ : ∃ z, T7.heap = z := ⟨_, rfl⟩
      rw [e7] at hQ7
      obtain ⟨rfl, N7q, K7, F11, F12⟩ := hQ7
      obtain ⟨Lo7, Y7, N7⟩ := pk X7 (Fr.app N2 N7q)
      have F8 : Exa Z h7 p0 "org/trentasette/Spinner" := F3.keep K7
      have F9 : n0 ≤ h7.size := Nat.le_trans F5 K7.1
      have F10 : Keep h0 h7 [p0] := F6.trans K7 (allS (P := fun x => x ∈ [p0] ∨ h0.size ≤ x) (Or.inl (List.mem_of_getElem? (i := 0) rfl)) all0)
      refine Go.trans st7 ?_
      show Go p.tables e below (P3 Z p0 q h0 n0 s) (T7.setTop (mkF m 4 #[.val (.ref p0), .val (.long b), .second] [(.long (f4 qq))]))
      refine Go.back (fun t k => XS.iconst Y7.here hx rfl (hb hby d3_4) k) ?_
      show Go p.tables e below (P3 Z p0 q h0 n0 s) (T7.setTop (mkF m 5 #[.val (.ref p0), .val (.long b), .second] [(.int (1 : Int32)), (.long (f4 qq))]))
      refine Go.back (fun t k => XS.lushr Y7.here hx rfl (hb hby d3_5) rfl k) ?_
      show Go p.tables e below (P3 Z p0 q h0 n0 s) (T7.setTop (mkF m 6 #[.val (.ref p0), .val (.long b), .second] [(.long ((((f4 qq)).toUInt64 >>> ((1 : Int32) &&& 0x3f).toInt64.toUInt64).toInt64))]))
      refine Go.back (fun t k => XS.lstoreN Y7.here hx rfl (hb hby d3_6) rfl (l' := #[.val (.ref p0), .val (.long ((((f4 qq)).toUInt64 >>> ((1 : Int32) &&& 0x3f).toInt64.toUInt64).toInt64)), .second]) rfl k) ?_
      show Go p.tables e below (P3 Z p0 q h0 n0 s) (T7.setTop (mkF m 7 #[.val (.ref p0), .val (.long ((((f4 qq)).toUInt64 >>> ((1 : Int32) &&& 0x3f).toInt64.toUInt64).toInt64)), .second] []))
      refine Go.back (fun t k => XS.lloadN Y7.here hx rfl (hb hby d3_7) rfl  k) ?_
      show Go p.tables e below (P3 Z p0 q h0 n0 s) (T7.setTop (mkF m 8 #[.val (.ref p0), .val (.long ((((f4 qq)).toUInt64 >>> ((1 : Int32) &&& 0x3f).toInt64.toUInt64).toInt64)), .second] [(.long ((((f4 qq)).toUInt64 >>> ((1 : Int32) &&& 0x3f).toInt64.toUInt64).toInt64))]))
      refine Go.back (fun t k => Y7.ldc2Long hx hown (mvT hZ (hw _ (List.mem_of_getElem? (i := 24) rfl))) (g := (mkF m 8 #[.val (.ref p0), .val (.long ((((f4 qq)).toUInt64 >>> ((1 : Int32) &&& 0x3f).toInt64.toUInt64).toInt64)), .second] [(.long ((((f4 qq)).toUInt64 >>> ((1 : Int32) &&& 0x3f).toInt64.toUInt64).toInt64))])) rfl (hb hby d3_8) t k) ?_
      show Go p.tables e below (P3 Z p0 q h0 n0 s) (T7.setTop (mkF m 11 #[.val (.ref p0), .val (.long ((((f4 qq)).toUInt64 >>> ((1 : Int32) &&& 0x3f).toInt64.toUInt64).toInt64)), .second] [(.long (9223372036854775802 : Int64)), (.long ((((f4 qq)).toUInt64 >>> ((1 : Int32) &&& 0x3f).toInt64.toUInt64).toInt64))]))
      refine Go.back (fun t k => XS.lcmp Y7.here hx rfl (hb hby d3_11) rfl k) ?_
      show Go p.tables e below (P3 Z p0 q h0 n0 s) (T7.setTop (mkF m 12 #[.val (.ref p0), .val (.long ((((f4 qq)).toUInt64 >>> ((1 : Int32) &&& 0x3f).toInt64.toUInt64).toInt64)), .second] [(.int (lcmpW ((((f4 qq)).toUInt64 >>> ((1 : Int32) &&& 0x3f).toInt64.toUInt64).toInt64) (9223372036854775802 : Int64)))]))
      by_cases hc13 : ((((f4 qq)).toUInt64 >>> ((1 : Int32) &&& 0x3f).toInt64.toUInt64).toInt64) < (9223372036854775802 : Int64)
      · refine Go.back (fun t k => XS.ifNo Y7.here hx rfl (hb hby d3_12) rfl ((if0 _ _).trans (tlt ((lw_lt _ _).mpr hc13)).2.1) k) ?_
        show Go p.tables e below (P3 Z p0 q h0 n0 s) (T7.setTop (mkF m 15 #[.val (.ref p0), .val (.long ((((f4 qq)).toUInt64 >>> ((1 : Int32) &&& 0x3f).toInt64.toUInt64).toInt64)), .second] []))
        refine Go.back (fun t k => XS.lloadN Y7.here hx rfl (hb hby d3_15) rfl  k) ?_
        show Go p.tables e below (P3 Z p0 q h0 n0 s) (T7.setTop (mkF m 16 #[.val (.ref p0), .val (.long ((((f4 qq)).toUInt64 >>> ((1 : Int32) &&& 0x3f).toInt64.toUInt64).toInt64)), .second] [(.long ((((f4 qq)).toUInt64 >>> ((1 : Int32) &&& 0x3f).toInt64.toUInt64).toInt64))]))
        refine Go.back (fun t k => Y7.ldc2Long hx hown (mvT hZ (hw _ (List.mem_of_getElem? (i := 25) rfl))) (g := (mkF m 16 #[.val (.ref p0), .val (.long ((((f4 qq)).toUInt64 >>> ((1 : Int32) &&& 0x3f).toInt64.toUInt64).toInt64)), .second] [(.long ((((f4 qq)).toUInt64 >>> ((1 : Int32) &&& 0x3f).toInt64.toUInt64).toInt64))])) rfl (hb hby d3_16) t k) ?_
        show Go p.tables e below (P3 Z p0 q h0 n0 s) (T7.setTop (mkF m 19 #[.val (.ref p0), .val (.long ((((f4 qq)).toUInt64 >>> ((1 : Int32) &&& 0x3f).toInt64.toUInt64).toInt64)), .second] [(.long (37 : Int64)), (.long ((((f4 qq)).toUInt64 >>> ((1 : Int32) &&& 0x3f).toInt64.toUInt64).toInt64))]))
        refine Go.back (fun t k => lremM Y7 hx rfl (hb hby d3_19) rfl (by decide) k) ?_
        show Go p.tables e below (P3 Z p0 q h0 n0 s) (T7.setTop (mkF m 20 #[.val (.ref p0), .val (.long ((((f4 qq)).toUInt64 >>> ((1 : Int32) &&& 0x3f).toInt64.toUInt64).toInt64)), .second] [(.long (((((f4 qq)).toUInt64 >>> ((1 : Int32) &&& 0x3f).toInt64.toUInt64).toInt64) % (37 : Int64)))]))
        refine Go.back (fun t k => XS.l2i Y7.here hx rfl (hb hby d3_20) rfl k) ?_
        show Go p.tables e below (P3 Z p0 q h0 n0 s) (T7.setTop (mkF m 21 #[.val (.ref p0), .val (.long ((((f4 qq)).toUInt64 >>> ((1 : Int32) &&& 0x3f).toInt64.toUInt64).toInt64)), .second] [(.int (((((((f4 qq)).toUInt64 >>> ((1 : Int32) &&& 0x3f).toInt64.toUInt64).toInt64) % (37 : Int64))).toInt32))]))
        exact Go.retI Y7 hx Bd.returns (hb hby d3_21) Bd.notSynchronized ⟨by rw [hr, own_spin_pos hc13]; rfl, N7, (by rw [e7]; exact F10), (by rw [e7]; exact F11), (by rw [e7, hr, own_spin_pos hc13]; exact F12)⟩ (by decide) (by decide)
      · refine Go.back (fun t k => XS.ifYes Y7.here hx rfl (pc0 := 12) (pc' := 22) rfl (hb hby d3_12) rfl ((if0 _ _).trans (flt (fun q => hc13 ((lw_lt _ _).mp q))).2.1) (by decide) (by decide) k) ?_
        show Go p.tables e below (P3 Z p0 q h0 n0 s) (T7.setTop (mkF m 22 #[.val (.ref p0), .val (.long ((((f4 qq)).toUInt64 >>> ((1 : Int32) &&& 0x3f).toInt64.toUInt64).toInt64)), .second] []))
        refine Go.back (fun t k => XS.goto Y7.here hx rfl (pc0 := 22) (pc' := 0) rfl (hb hby d3_22) (by decide) (by decide) k) ?_
        show Go p.tables e below (P3 Z p0 q h0 n0 s) (T7.setTop (mkF m 0 #[.val (.ref p0), .val (.long ((((f4 qq)).toUInt64 >>> ((1 : Int32) &&& 0x3f).toInt64.toUInt64).toInt64)), .second] []))
        exact ih ((((f4 qq)).toUInt64 >>> ((1 : Int32) &&& 0x3f).toInt64.toUInt64).toInt64) (qq + (-7046029254386353131 : Int64)) _ _ Y7 N7 h7 e7 F11 F12 F9 F10 (own_good_next hg hc13) (hr.trans (own_spin_neg hc13))
  have hr : own_spin 13 q = own_spin (12 + 1) q := rfl
  refine Go.back (fun t k => XS.aloadN X0.here hx rfl (hb hby d3_0) rfl rfl  k) ?_
  show Go p.tables e below (P3 Z p0 q h0 n0 s) (s₁.setTop (mkF m 1 #[.val (.ref p0), .unset, .unset] [(.ref p0)]))
  obtain ⟨cq14, kq14, q14a, q14b, q14c⟩ := isOf hZ e0 H0
  obtain ⟨_, _, ⟨T14, L14, k14, n14⟩, -, X14, ⟨Lc14, hQ14, l14, y14, z14⟩, st14⟩ := X0.virtualBack hx (y := (⟨"org/trentasette/Spinner", "next", "()J"⟩ : MethodName)) (z := (⟨"org/trentasette/Spinner", "next", "()J"⟩ : MethodName)) hown (mvT hZ (hw _ (List.mem_of_getElem? (i := 16) rfl))) (mvT hZ (hw _ (List.mem_of_getElem? (i := 17) rfl))) (notFace_of_selects (args := #[]) (mvT hZ (hw _ (List.mem_of_getElem? (i := 19) rfl)))) (mvT hZ (hw _ (List.mem_of_getElem? (i := 19) rfl))) (mvT hZ (hw _ (List.mem_of_getElem? (i := 18) rfl))) (by decide) (backOf (W := 0) (rm4 l Z a0 hw [] p0 q h0 n0 Z0 H0 H1 H2) hZ (hw _ (List.mem_of_getElem? (i := 20) rfl)) (hw _ (List.mem_of_getElem? (i := 2) rfl)) (by decide) (by decide)) q14a q14c (g := (mkF m 1 #[.val (.ref p0), .unset, .unset] [(.ref p0)])) rfl (by rw [hml]; rfl) (Steps.refl _) (argsL := []) (rest := []) (lenOf pd_0 rfl) rfl (by show 2 * 0 + _ ≤ _; exact Nat.le_of_eq rfl) (hb hby d3_1) (fun _ _ => ⟨rfl, e0, (by decide : 0 + 0 ≤ _), (by decide : 0 + 0 ≤ _)⟩)
  dsimp only [Pt.U, Pt.locs, Pt.cells, Pt.slots] at X14 l14 y14 z14 st14 hQ14
  subst l14 y14 z14
  obtain ⟨h14, e14⟩ : ∃ z, T14.heap = z := ⟨_, rfl⟩
  rw [e14] at hQ14
  obtain ⟨rfl, N14q, K14, F18, F19⟩ := hQ14
  obtain ⟨Lo14, Y14, N14⟩ := pk X14 (Fr.app N0 N14q)
  have F15 : Exa Z h14 p0 "org/trentasette/Spinner" := H0.keep K14
  have F16 : n0 ≤ h14.size := Nat.le_trans Z0 K14.1
  have F17 : Keep h0 h14 [p0] := (Keep.refl h0 [p0]).trans K14 (allS (P := fun x => x ∈ [p0] ∨ h0.size ≤ x) (Or.inl (List.mem_of_getElem? (i := 0) rfl)) all0)
  refine Go.trans st14 ?_
  show Go p.tables e below (P3 Z p0 q h0 n0 s) (T14.setTop (mkF m 4 #[.val (.ref p0), .unset, .unset] [(.long (f4 q))]))
  refine Go.back (fun t k => XS.iconst Y14.here hx rfl (hb hby d3_4) k) ?_
  show Go p.tables e below (P3 Z p0 q h0 n0 s) (T14.setTop (mkF m 5 #[.val (.ref p0), .unset, .unset] [(.int (1 : Int32)), (.long (f4 q))]))
  refine Go.back (fun t k => XS.lushr Y14.here hx rfl (hb hby d3_5) rfl k) ?_
  show Go p.tables e below (P3 Z p0 q h0 n0 s) (T14.setTop (mkF m 6 #[.val (.ref p0), .unset, .unset] [(.long ((((f4 q)).toUInt64 >>> ((1 : Int32) &&& 0x3f).toInt64.toUInt64).toInt64))]))
  refine Go.back (fun t k => XS.lstoreN Y14.here hx rfl (hb hby d3_6) rfl (l' := #[.val (.ref p0), .val (.long ((((f4 q)).toUInt64 >>> ((1 : Int32) &&& 0x3f).toInt64.toUInt64).toInt64)), .second]) rfl k) ?_
  show Go p.tables e below (P3 Z p0 q h0 n0 s) (T14.setTop (mkF m 7 #[.val (.ref p0), .val (.long ((((f4 q)).toUInt64 >>> ((1 : Int32) &&& 0x3f).toInt64.toUInt64).toInt64)), .second] []))
  refine Go.back (fun t k => XS.lloadN Y14.here hx rfl (hb hby d3_7) rfl  k) ?_
  show Go p.tables e below (P3 Z p0 q h0 n0 s) (T14.setTop (mkF m 8 #[.val (.ref p0), .val (.long ((((f4 q)).toUInt64 >>> ((1 : Int32) &&& 0x3f).toInt64.toUInt64).toInt64)), .second] [(.long ((((f4 q)).toUInt64 >>> ((1 : Int32) &&& 0x3f).toInt64.toUInt64).toInt64))]))
  refine Go.back (fun t k => Y14.ldc2Long hx hown (mvT hZ (hw _ (List.mem_of_getElem? (i := 24) rfl))) (g := (mkF m 8 #[.val (.ref p0), .val (.long ((((f4 q)).toUInt64 >>> ((1 : Int32) &&& 0x3f).toInt64.toUInt64).toInt64)), .second] [(.long ((((f4 q)).toUInt64 >>> ((1 : Int32) &&& 0x3f).toInt64.toUInt64).toInt64))])) rfl (hb hby d3_8) t k) ?_
  show Go p.tables e below (P3 Z p0 q h0 n0 s) (T14.setTop (mkF m 11 #[.val (.ref p0), .val (.long ((((f4 q)).toUInt64 >>> ((1 : Int32) &&& 0x3f).toInt64.toUInt64).toInt64)), .second] [(.long (9223372036854775802 : Int64)), (.long ((((f4 q)).toUInt64 >>> ((1 : Int32) &&& 0x3f).toInt64.toUInt64).toInt64))]))
  refine Go.back (fun t k => XS.lcmp Y14.here hx rfl (hb hby d3_11) rfl k) ?_
  show Go p.tables e below (P3 Z p0 q h0 n0 s) (T14.setTop (mkF m 12 #[.val (.ref p0), .val (.long ((((f4 q)).toUInt64 >>> ((1 : Int32) &&& 0x3f).toInt64.toUInt64).toInt64)), .second] [(.int (lcmpW ((((f4 q)).toUInt64 >>> ((1 : Int32) &&& 0x3f).toInt64.toUInt64).toInt64) (9223372036854775802 : Int64)))]))
  by_cases hc20 : ((((f4 q)).toUInt64 >>> ((1 : Int32) &&& 0x3f).toInt64.toUInt64).toInt64) < (9223372036854775802 : Int64)
  · refine Go.back (fun t k => XS.ifNo Y14.here hx rfl (hb hby d3_12) rfl ((if0 _ _).trans (tlt ((lw_lt _ _).mpr hc20)).2.1) k) ?_
    show Go p.tables e below (P3 Z p0 q h0 n0 s) (T14.setTop (mkF m 15 #[.val (.ref p0), .val (.long ((((f4 q)).toUInt64 >>> ((1 : Int32) &&& 0x3f).toInt64.toUInt64).toInt64)), .second] []))
    refine Go.back (fun t k => XS.lloadN Y14.here hx rfl (hb hby d3_15) rfl  k) ?_
    show Go p.tables e below (P3 Z p0 q h0 n0 s) (T14.setTop (mkF m 16 #[.val (.ref p0), .val (.long ((((f4 q)).toUInt64 >>> ((1 : Int32) &&& 0x3f).toInt64.toUInt64).toInt64)), .second] [(.long ((((f4 q)).toUInt64 >>> ((1 : Int32) &&& 0x3f).toInt64.toUInt64).toInt64))]))
    refine Go.back (fun t k => Y14.ldc2Long hx hown (mvT hZ (hw _ (List.mem_of_getElem? (i := 25) rfl))) (g := (mkF m 16 #[.val (.ref p0), .val (.long ((((f4 q)).toUInt64 >>> ((1 : Int32) &&& 0x3f).toInt64.toUInt64).toInt64)), .second] [(.long ((((f4 q)).toUInt64 >>> ((1 : Int32) &&& 0x3f).toInt64.toUInt64).toInt64))])) rfl (hb hby d3_16) t k) ?_
    show Go p.tables e below (P3 Z p0 q h0 n0 s) (T14.setTop (mkF m 19 #[.val (.ref p0), .val (.long ((((f4 q)).toUInt64 >>> ((1 : Int32) &&& 0x3f).toInt64.toUInt64).toInt64)), .second] [(.long (37 : Int64)), (.long ((((f4 q)).toUInt64 >>> ((1 : Int32) &&& 0x3f).toInt64.toUInt64).toInt64))]))
    refine Go.back (fun t k => lremM Y14 hx rfl (hb hby d3_19) rfl (by decide) k) ?_
    show Go p.tables e below (P3 Z p0 q h0 n0 s) (T14.setTop (mkF m 20 #[.val (.ref p0), .val (.long ((((f4 q)).toUInt64 >>> ((1 : Int32) &&& 0x3f).toInt64.toUInt64).toInt64)), .second] [(.long (((((f4 q)).toUInt64 >>> ((1 : Int32) &&& 0x3f).toInt64.toUInt64).toInt64) % (37 : Int64)))]))
    refine Go.back (fun t k => XS.l2i Y14.here hx rfl (hb hby d3_20) rfl k) ?_
    show Go p.tables e below (P3 Z p0 q h0 n0 s) (T14.setTop (mkF m 21 #[.val (.ref p0), .val (.long ((((f4 q)).toUInt64 >>> ((1 : Int32) &&& 0x3f).toInt64.toUInt64).toInt64)), .second] [(.int (((((((f4 q)).toUInt64 >>> ((1 : Int32) &&& 0x3f).toInt64.toUInt64).toInt64) % (37 : Int64))).toInt32))]))
    exact Go.retI Y14 hx Bd.returns (hb hby d3_21) Bd.notSynchronized ⟨by rw [hr, own_spin_pos hc20]; rfl, N14, (by rw [e14]; exact F17), (by rw [e14]; exact F18), (by rw [e14, hr, own_spin_pos hc20]; exact F19)⟩ (by decide) (by decide)
  · refine Go.back (fun t k => XS.ifYes Y14.here hx rfl (pc0 := 12) (pc' := 22) rfl (hb hby d3_12) rfl ((if0 _ _).trans (flt (fun q => hc20 ((lw_lt _ _).mp q))).2.1) (by decide) (by decide) k) ?_
    show Go p.tables e below (P3 Z p0 q h0 n0 s) (T14.setTop (mkF m 22 #[.val (.ref p0), .val (.long ((((f4 q)).toUInt64 >>> ((1 : Int32) &&& 0x3f).toInt64.toUInt64).toInt64)), .second] []))
    refine Go.back (fun t k => XS.goto Y14.here hx rfl (pc0 := 22) (pc' := 0) rfl (hb hby d3_22) (by decide) (by decide) k) ?_
    show Go p.tables e below (P3 Z p0 q h0 n0 s) (T14.setTop (mkF m 0 #[.val (.ref p0), .val (.long ((((f4 q)).toUInt64 >>> ((1 : Int32) &&& 0x3f).toInt64.toUInt64).toInt64)), .second] []))
    exact LOOP1 12 ((((f4 q)).toUInt64 >>> ((1 : Int32) &&& 0x3f).toInt64.toUInt64).toInt64) (q + (-7046029254386353131 : Int64)) _ _ Y14 N14 h14 e14 F18 F19 F16 F17 (own_good_next hg0 hc20) (hr.trans (own_spin_neg hc20))
theorem d5_0 : decode method_2_code 0 = .ok (.ldc2_w 9, 3) := by decide +kernel
theorem d5_3 : decode method_2_code 3 = .ok (.lstore_n 1, 1) := by decide +kernel
theorem d5_4 : decode method_2_code 4 = .ok (.aload_n 0, 1) := by decide +kernel
theorem d5_5 : decode method_2_code 5 = .ok (.invokevirtual 11, 3) := by decide +kernel
theorem d5_8 : decode method_2_code 8 = .ok (.iconst 1, 1) := by decide +kernel
theorem d5_9 : decode method_2_code 9 = .ok (.lushr, 1) := by decide +kernel
theorem d5_10 : decode method_2_code 10 = .ok (.lstore_n 3, 1) := by decide +kernel
theorem d5_11 : decode method_2_code 11 = .ok (.lload_n 3, 1) := by decide +kernel
theorem d5_12 : decode method_2_code 12 = .ok (.lload_n 1, 1) := by decide +kernel
theorem d5_13 : decode method_2_code 13 = .ok (.lcmp, 1) := by decide +kernel
theorem d5_14 : decode method_2_code 14 = .ok (.ifCond .ge 10, 3) := by decide +kernel
theorem d5_17 : decode method_2_code 17 = .ok (.lload_n 3, 1) := by decide +kernel
theorem d5_18 : decode method_2_code 18 = .ok (.ldc2_w 17, 3) := by decide +kernel
theorem d5_21 : decode method_2_code 21 = .ok (.lrem, 1) := by decide +kernel
theorem d5_22 : decode method_2_code 22 = .ok (.l2i, 1) := by decide +kernel
theorem d5_23 : decode method_2_code 23 = .ok (.ireturn, 1) := by decide +kernel
theorem d5_24 : decode method_2_code 24 = .ok (.aload_n 0, 1) := by decide +kernel
theorem d5_25 : decode method_2_code 25 = .ok (.invokevirtual 11, 3) := by decide +kernel
theorem d5_28 : decode method_2_code 28 = .ok (.iconst 1, 1) := by decide +kernel
theorem d5_29 : decode method_2_code 29 = .ok (.lushr, 1) := by decide +kernel
theorem d5_30 : decode method_2_code 30 = .ok (.lstore 5, 2) := by decide +kernel
theorem d5_32 : decode method_2_code 32 = .ok (.lload 5, 2) := by decide +kernel
theorem d5_34 : decode method_2_code 34 = .ok (.lload_n 1, 1) := by decide +kernel
theorem d5_35 : decode method_2_code 35 = .ok (.lcmp, 1) := by decide +kernel
theorem d5_36 : decode method_2_code 36 = .ok (.ifCond .ge 11, 3) := by decide +kernel
theorem d5_39 : decode method_2_code 39 = .ok (.lload 5, 2) := by decide +kernel
theorem d5_41 : decode method_2_code 41 = .ok (.ldc2_w 17, 3) := by decide +kernel
theorem d5_44 : decode method_2_code 44 = .ok (.lrem, 1) := by decide +kernel
theorem d5_45 : decode method_2_code 45 = .ok (.l2i, 1) := by decide +kernel
theorem d5_46 : decode method_2_code 46 = .ok (.ireturn, 1) := by decide +kernel
theorem d5_47 : decode method_2_code 47 = .ok (.iconst (-1), 1) := by decide +kernel
theorem d5_48 : decode method_2_code 48 = .ok (.ireturn, 1) := by decide +kernel
def f5 (q : Int64) : Int32 := (let z8 : Int64 := ((((f4 q)).toUInt64 >>> ((1 : Int32) &&& 0x3f).toInt64.toUInt64).toInt64); (if z8 < (9223372036854775802 : Int64) then (((z8 % (37 : Int64))).toInt32) else (let z23 : Int64 := ((((f4 (q + (-7046029254386353131 : Int64)))).toUInt64 >>> ((1 : Int32) &&& 0x3f).toInt64.toUInt64).toInt64); (if z23 < (9223372036854775802 : Int64) then (((z23 % (37 : Int64))).toInt32) else (-1 : Int32)))))
def g5_1 (q : Int64) : Int64 := (let z8 : Int64 := ((((f4 q)).toUInt64 >>> ((1 : Int32) &&& 0x3f).toInt64.toUInt64).toInt64); (if z8 < (9223372036854775802 : Int64) then (q + (-7046029254386353131 : Int64)) else (let z23 : Int64 := ((((f4 (q + (-7046029254386353131 : Int64)))).toUInt64 >>> ((1 : Int32) &&& 0x3f).toInt64.toUInt64).toInt64); (if z23 < (9223372036854775802 : Int64) then ((q + (-7046029254386353131 : Int64)) + (-7046029254386353131 : Int64)) else ((q + (-7046029254386353131 : Int64)) + (-7046029254386353131 : Int64))))))
def Q5 (Z : State) (p0 : Addr) (q : Int64) (h0 : Heap) (n0 : Nat) (v : Option Value) (h : Heap) (L : List Loc) : Prop := v = some (.int (f5 q)) ∧ Fr n0 L ∧ Keep h0 h [p0] ∧ Exa Z h p0 "org/trentasette/Spinner" ∧ Fld Z h p0 "org/trentasette/Spinner" "state" "J" (.long (g5_1 q))
abbrev rmm5 : Room := { frames := 1, cells := 0, slots := 0, locals := 14 }
abbrev P5 (Z : State) (p0 : Addr) (q : Int64) (h0 : Heap) (n0 : Nat) (s : State) : Outcome → State → Prop := fun o U' => ∃ v L, o = .returned v ∧ Q5 Z p0 q h0 n0 v U'.heap L ∧ FrameEnd s o U' L rmm5.cells rmm5.slots
theorem pn_5 : plainName "org/trentasette/SpinnerSpinPinLaw" = true := by first | (simp [plainName, overriddenIn]; done) | decide +kernel
theorem ef_5 (m : MethodId) (p0 : Addr) : entryFrame m #[(.ref p0)] 7 = mkF m 0 #[.val (.ref p0), .unset, .unset, .unset, .unset, .unset, .unset] [] := by first | (simp [entryFrame, mkF, argsToLocals, Value.category]; done) | rfl
set_option maxRecDepth 65536 in
set_option maxHeartbeats 40000000 in
theorem rm5 (l : Launch) (Z : State) (a0 : Array Value) (hw : ∀ d ∈ tables_1, d.before a0 Z = true) (ws : List Jvm.Cond) (p0 : Addr) (q : Int64) (h0 : Heap) (n0 : Nat) (Z0 : n0 ≤ h0.size) (H0 : Exa Z h0 p0 "org/trentasette/Spinner") (H1 : Fld Z h0 p0 "org/trentasette/Spinner" "state" "J" (.long q)) (H2 : n0 ≤ p0) :
    MetFree l (⟨"org/trentasette/SpinnerSpinPinLaw", "ref", "(Lorg/trentasette/Spinner;)I"⟩ : MethodName) (head1 (Jvm.Cond.code (⟨"org/trentasette/SpinnerSpinPinLaw", "ref", "(Lorg/trentasette/Spinner;)I"⟩ : MethodName) method_2_code 7 (some .int) :: ws) rmm5) (fun a U => a = #[(.ref p0)] ∧ Z.Warmed39 U.vm ∧ U.heap = h0) (fun _ _ _ _ _ => True) (fun _ U o U' => ∃ v L, o = .returned v ∧ Q5 Z p0 q h0 n0 v U'.heap L ∧ FrameEnd U o U' L rmm5.cells rmm5.slots) := by
  refine MetFree.of_bodySF (plainFor_of_name pn_5) hisR ?_
  intro p e s m args below meth c s₁ Bd hml0 hP hK
  obtain ⟨rfl, hZ, hh⟩ := hP
  have hx := Bd.exec
  have hby := Bd.bytes
  have hml : c.maxLocals = 7 := hml0
  have hown : s.vm.findClass "org/trentasette/SpinnerSpinPinLaw" = some m.cls := findClass_of_methodNamed Bd.named
  have hnm := (name_of_methodNamed Bd.named Bd.method).1
  have X0 : Stand p l e rmm5 s m #[(.ref p0)] below meth c s₁ [] 0 0 := Stand.of_body Bd
  have e0 : s₁.heap = h0 := by rw [← hh, Bd.state]; rfl
  have N0 := Fr.nil n0
  show Go p.tables e below (P5 Z p0 q h0 n0 s) (s₁.setTop (entryFrame m #[(.ref p0)] 7))
  refine Go.back (fun t k => castTop (ef_5 m p0) k) ?_
  show Go p.tables e below (P5 Z p0 q h0 n0 s) (s₁.setTop (mkF m 0 #[.val (.ref p0), .unset, .unset, .unset, .unset, .unset, .unset] []))
  have hf0 : f5 q = (let z8 : Int64 := ((((f4 q)).toUInt64 >>> ((1 : Int32) &&& 0x3f).toInt64.toUInt64).toInt64); (if z8 < (9223372036854775802 : Int64) then (((z8 % (37 : Int64))).toInt32) else (let z23 : Int64 := ((((f4 (q + (-7046029254386353131 : Int64)))).toUInt64 >>> ((1 : Int32) &&& 0x3f).toInt64.toUInt64).toInt64); (if z23 < (9223372036854775802 : Int64) then (((z23 % (37 : Int64))).toInt32) else (-1 : Int32))))) := rfl
  have hf1 : g5_1 q = (let z8 : Int64 := ((((f4 q)).toUInt64 >>> ((1 : Int32) &&& 0x3f).toInt64.toUInt64).toInt64); (if z8 < (9223372036854775802 : Int64) then (q + (-7046029254386353131 : Int64)) else (let z23 : Int64 := ((((f4 (q + (-7046029254386353131 : Int64)))).toUInt64 >>> ((1 : Int32) &&& 0x3f).toInt64.toUInt64).toInt64); (if z23 < (9223372036854775802 : Int64) then ((q + (-7046029254386353131 : Int64)) + (-7046029254386353131 : Int64)) else ((q + (-7046029254386353131 : Int64)) + (-7046029254386353131 : Int64)))))) := rfl
  refine Go.back (fun t k => X0.ldc2Long hx hown (mvT hZ (hw _ (List.mem_of_getElem? (i := 30) rfl))) (g := (mkF m 0 #[.val (.ref p0), .unset, .unset, .unset, .unset, .unset, .unset] [])) rfl (hb hby d5_0) t k) ?_
  show Go p.tables e below (P5 Z p0 q h0 n0 s) (s₁.setTop (mkF m 3 #[.val (.ref p0), .unset, .unset, .unset, .unset, .unset, .unset] [(.long (9223372036854775802 : Int64))]))
  refine Go.back (fun t k => XS.lstoreN X0.here hx rfl (hb hby d5_3) rfl (l' := #[.val (.ref p0), .val (.long (9223372036854775802 : Int64)), .second, .unset, .unset, .unset, .unset]) rfl k) ?_
  show Go p.tables e below (P5 Z p0 q h0 n0 s) (s₁.setTop (mkF m 4 #[.val (.ref p0), .val (.long (9223372036854775802 : Int64)), .second, .unset, .unset, .unset, .unset] []))
  refine Go.back (fun t k => XS.aloadN X0.here hx rfl (hb hby d5_4) rfl rfl  k) ?_
  show Go p.tables e below (P5 Z p0 q h0 n0 s) (s₁.setTop (mkF m 5 #[.val (.ref p0), .val (.long (9223372036854775802 : Int64)), .second, .unset, .unset, .unset, .unset] [(.ref p0)]))
  obtain ⟨cq1, kq1, q1a, q1b, q1c⟩ := isOf hZ e0 H0
  obtain ⟨_, _, ⟨T1, L1, k1, n1⟩, -, X1, ⟨Lc1, hQ1, l1, y1, z1⟩, st1⟩ := X0.virtualBack hx (y := (⟨"org/trentasette/Spinner", "next", "()J"⟩ : MethodName)) (z := (⟨"org/trentasette/Spinner", "next", "()J"⟩ : MethodName)) hown (mvT hZ (hw _ (List.mem_of_getElem? (i := 31) rfl))) (mvT hZ (hw _ (List.mem_of_getElem? (i := 17) rfl))) (notFace_of_selects (args := #[]) (mvT hZ (hw _ (List.mem_of_getElem? (i := 19) rfl)))) (mvT hZ (hw _ (List.mem_of_getElem? (i := 19) rfl))) (mvT hZ (hw _ (List.mem_of_getElem? (i := 18) rfl))) (by decide) (backOf (W := 0) (rm4 l Z a0 hw [] p0 q h0 n0 Z0 H0 H1 H2) hZ (hw _ (List.mem_of_getElem? (i := 20) rfl)) (hw _ (List.mem_of_getElem? (i := 2) rfl)) (by decide) (by decide)) q1a q1c (g := (mkF m 5 #[.val (.ref p0), .val (.long (9223372036854775802 : Int64)), .second, .unset, .unset, .unset, .unset] [(.ref p0)])) rfl (by rw [hml]; rfl) (Steps.refl _) (argsL := []) (rest := []) (lenOf pd_0 rfl) rfl (by show 2 * 0 + _ ≤ _; exact Nat.le_of_eq rfl) (hb hby d5_5) (fun _ _ => ⟨rfl, e0, (by decide : 0 + 0 ≤ _), (by decide : 0 + 0 ≤ _)⟩)
  dsimp only [Pt.U, Pt.locs, Pt.cells, Pt.slots] at X1 l1 y1 z1 st1 hQ1
  subst l1 y1 z1
  obtain ⟨h1, e1⟩ : ∃ z, T1.heap = z := ⟨_, rfl⟩
  rw [e1] at hQ1
  obtain ⟨rfl, N1q, K1, F5, F6⟩ := hQ1
  obtain ⟨Lo1, Y1, N1⟩ := pk X1 (Fr.app N0 N1q)
  have F2 : Exa Z h1 p0 "org/trentasette/Spinner" := H0.keep K1
  have F3 : n0 ≤ h1.size := Nat.le_trans Z0 K1.1
  have F4 : Keep h0 h1 [p0] := (Keep.refl h0 [p0]).trans K1 (allS (P := fun x => x ∈ [p0] ∨ h0.size ≤ x) (Or.inl (List.mem_of_getElem? (i := 0) rfl)) all0)
  refine Go.trans st1 ?_
  show Go p.tables e below (P5 Z p0 q h0 n0 s) (T1.setTop (mkF m 8 #[.val (.ref p0), .val (.long (9223372036854775802 : Int64)), .second, .unset, .unset, .unset, .unset] [(.long (f4 q))]))
  refine Go.back (fun t k => XS.iconst Y1.here hx rfl (hb hby d5_8) k) ?_
  show Go p.tables e below (P5 Z p0 q h0 n0 s) (T1.setTop (mkF m 9 #[.val (.ref p0), .val (.long (9223372036854775802 : Int64)), .second, .unset, .unset, .unset, .unset] [(.int (1 : Int32)), (.long (f4 q))]))
  refine Go.back (fun t k => XS.lushr Y1.here hx rfl (hb hby d5_9) rfl k) ?_
  show Go p.tables e below (P5 Z p0 q h0 n0 s) (T1.setTop (mkF m 10 #[.val (.ref p0), .val (.long (9223372036854775802 : Int64)), .second, .unset, .unset, .unset, .unset] [(.long ((((f4 q)).toUInt64 >>> ((1 : Int32) &&& 0x3f).toInt64.toUInt64).toInt64))]))
  refine Go.back (fun t k => XS.lstoreN Y1.here hx rfl (hb hby d5_10) rfl (l' := #[.val (.ref p0), .val (.long (9223372036854775802 : Int64)), .second, .val (.long ((((f4 q)).toUInt64 >>> ((1 : Int32) &&& 0x3f).toInt64.toUInt64).toInt64)), .second, .unset, .unset]) rfl k) ?_
  show Go p.tables e below (P5 Z p0 q h0 n0 s) (T1.setTop (mkF m 11 #[.val (.ref p0), .val (.long (9223372036854775802 : Int64)), .second, .val (.long ((((f4 q)).toUInt64 >>> ((1 : Int32) &&& 0x3f).toInt64.toUInt64).toInt64)), .second, .unset, .unset] []))
  have J7 : ∀ (z8 : Int64) (hz8 : z8 = ((((f4 q)).toUInt64 >>> ((1 : Int32) &&& 0x3f).toInt64.toUInt64).toInt64)), Go p.tables e below (P5 Z p0 q h0 n0 s) (T1.setTop (mkF m 11 #[.val (.ref p0), .val (.long (9223372036854775802 : Int64)), .second, .val (.long z8), .second, .unset, .unset] [])) := by
    intro z8 hz8
    have r9 : f5 q = (if z8 < (9223372036854775802 : Int64) then (((z8 % (37 : Int64))).toInt32) else (let z23 : Int64 := ((((f4 (q + (-7046029254386353131 : Int64)))).toUInt64 >>> ((1 : Int32) &&& 0x3f).toInt64.toUInt64).toInt64); (if z23 < (9223372036854775802 : Int64) then (((z23 % (37 : Int64))).toInt32) else (-1 : Int32)))) := by subst hz8; exact hf0
    have r10 : g5_1 q = (if z8 < (9223372036854775802 : Int64) then (q + (-7046029254386353131 : Int64)) else (let z23 : Int64 := ((((f4 (q + (-7046029254386353131 : Int64)))).toUInt64 >>> ((1 : Int32) &&& 0x3f).toInt64.toUInt64).toInt64); (if z23 < (9223372036854775802 : Int64) then ((q + (-7046029254386353131 : Int64)) + (-7046029254386353131 : Int64)) else ((q + (-7046029254386353131 : Int64)) + (-7046029254386353131 : Int64))))) := by subst hz8; exact hf1
    show Go p.tables e below (P5 Z p0 q h0 n0 s) (T1.setTop (mkF m 11 #[.val (.ref p0), .val (.long (9223372036854775802 : Int64)), .second, .val (.long z8), .second, .unset, .unset] []))
    refine Go.back (fun t k => XS.lloadN Y1.here hx rfl (hb hby d5_11) rfl  k) ?_
    show Go p.tables e below (P5 Z p0 q h0 n0 s) (T1.setTop (mkF m 12 #[.val (.ref p0), .val (.long (9223372036854775802 : Int64)), .second, .val (.long z8), .second, .unset, .unset] [(.long z8)]))
    refine Go.back (fun t k => XS.lloadN Y1.here hx rfl (hb hby d5_12) rfl  k) ?_
    show Go p.tables e below (P5 Z p0 q h0 n0 s) (T1.setTop (mkF m 13 #[.val (.ref p0), .val (.long (9223372036854775802 : Int64)), .second, .val (.long z8), .second, .unset, .unset] [(.long (9223372036854775802 : Int64)), (.long z8)]))
    refine Go.back (fun t k => XS.lcmp Y1.here hx rfl (hb hby d5_13) rfl k) ?_
    show Go p.tables e below (P5 Z p0 q h0 n0 s) (T1.setTop (mkF m 14 #[.val (.ref p0), .val (.long (9223372036854775802 : Int64)), .second, .val (.long z8), .second, .unset, .unset] [(.int (lcmpW z8 (9223372036854775802 : Int64)))]))
    by_cases hc11 : z8 < (9223372036854775802 : Int64)
    · have r12 := r9.trans (if_pos hc11)
      have r13 := r10.trans (if_pos hc11)
      refine Go.back (fun t k => XS.ifNo Y1.here hx rfl (hb hby d5_14) rfl ((if0 _ _).trans (tlt ((lw_lt _ _).mpr hc11)).2.1) k) ?_
      show Go p.tables e below (P5 Z p0 q h0 n0 s) (T1.setTop (mkF m 17 #[.val (.ref p0), .val (.long (9223372036854775802 : Int64)), .second, .val (.long z8), .second, .unset, .unset] []))
      refine Go.back (fun t k => XS.lloadN Y1.here hx rfl (hb hby d5_17) rfl  k) ?_
      show Go p.tables e below (P5 Z p0 q h0 n0 s) (T1.setTop (mkF m 18 #[.val (.ref p0), .val (.long (9223372036854775802 : Int64)), .second, .val (.long z8), .second, .unset, .unset] [(.long z8)]))
      refine Go.back (fun t k => Y1.ldc2Long hx hown (mvT hZ (hw _ (List.mem_of_getElem? (i := 32) rfl))) (g := (mkF m 18 #[.val (.ref p0), .val (.long (9223372036854775802 : Int64)), .second, .val (.long z8), .second, .unset, .unset] [(.long z8)])) rfl (hb hby d5_18) t k) ?_
      show Go p.tables e below (P5 Z p0 q h0 n0 s) (T1.setTop (mkF m 21 #[.val (.ref p0), .val (.long (9223372036854775802 : Int64)), .second, .val (.long z8), .second, .unset, .unset] [(.long (37 : Int64)), (.long z8)]))
      refine Go.back (fun t k => lremM Y1 hx rfl (hb hby d5_21) rfl (by decide) k) ?_
      show Go p.tables e below (P5 Z p0 q h0 n0 s) (T1.setTop (mkF m 22 #[.val (.ref p0), .val (.long (9223372036854775802 : Int64)), .second, .val (.long z8), .second, .unset, .unset] [(.long (z8 % (37 : Int64)))]))
      refine Go.back (fun t k => XS.l2i Y1.here hx rfl (hb hby d5_22) rfl k) ?_
      show Go p.tables e below (P5 Z p0 q h0 n0 s) (T1.setTop (mkF m 23 #[.val (.ref p0), .val (.long (9223372036854775802 : Int64)), .second, .val (.long z8), .second, .unset, .unset] [(.int (((z8 % (37 : Int64))).toInt32))]))
      exact Go.retI Y1 hx Bd.returns (hb hby d5_23) Bd.notSynchronized ⟨by rw [r12], N1, (by rw [e1]; exact F4), (by rw [e1]; exact F5), (by rw [e1, r13]; exact F6)⟩ (by decide) (by decide)
    · have r14 := r9.trans (if_neg hc11)
      have r15 := r10.trans (if_neg hc11)
      refine Go.back (fun t k => XS.ifYes Y1.here hx rfl (pc0 := 14) (pc' := 24) rfl (hb hby d5_14) rfl ((if0 _ _).trans (flt (fun q => hc11 ((lw_lt _ _).mp q))).2.1) (by decide) (by decide) k) ?_
      show Go p.tables e below (P5 Z p0 q h0 n0 s) (T1.setTop (mkF m 24 #[.val (.ref p0), .val (.long (9223372036854775802 : Int64)), .second, .val (.long z8), .second, .unset, .unset] []))
      refine Go.back (fun t k => XS.aloadN Y1.here hx rfl (hb hby d5_24) rfl rfl  k) ?_
      show Go p.tables e below (P5 Z p0 q h0 n0 s) (T1.setTop (mkF m 25 #[.val (.ref p0), .val (.long (9223372036854775802 : Int64)), .second, .val (.long z8), .second, .unset, .unset] [(.ref p0)]))
      obtain ⟨cq16, kq16, q16a, q16b, q16c⟩ := isOf hZ e1 F5
      obtain ⟨_, _, ⟨T16, L16, k16, n16⟩, -, X16, ⟨Lc16, hQ16, l16, y16, z16⟩, st16⟩ := Y1.virtualBack hx (y := (⟨"org/trentasette/Spinner", "next", "()J"⟩ : MethodName)) (z := (⟨"org/trentasette/Spinner", "next", "()J"⟩ : MethodName)) hown (mvT hZ (hw _ (List.mem_of_getElem? (i := 31) rfl))) (mvT hZ (hw _ (List.mem_of_getElem? (i := 17) rfl))) (notFace_of_selects (args := #[]) (mvT hZ (hw _ (List.mem_of_getElem? (i := 19) rfl)))) (mvT hZ (hw _ (List.mem_of_getElem? (i := 19) rfl))) (mvT hZ (hw _ (List.mem_of_getElem? (i := 18) rfl))) (by decide) (backOf (W := 0) (rm4 l Z a0 hw [] p0 (q + (-7046029254386353131 : Int64)) h1 n0 F3 F5 F6 H2) hZ (hw _ (List.mem_of_getElem? (i := 20) rfl)) (hw _ (List.mem_of_getElem? (i := 2) rfl)) (by decide) (by decide)) q16a q16c (g := (mkF m 25 #[.val (.ref p0), .val (.long (9223372036854775802 : Int64)), .second, .val (.long z8), .second, .unset, .unset] [(.ref p0)])) rfl (by rw [hml]; rfl) (Steps.refl _) (argsL := []) (rest := []) (lenOf pd_0 rfl) rfl (by show 2 * 0 + _ ≤ _; exact Nat.le_of_eq rfl) (hb hby d5_25) (fun _ _ => ⟨rfl, e1, (by decide : 0 + 0 ≤ _), (by decide : 0 + 0 ≤ _)⟩)
      dsimp only [Pt.U, Pt.locs, Pt.cells, Pt.slots] at X16 l16 y16 z16 st16 hQ16
      subst l16 y16 z16
      obtain ⟨h16, e16⟩ : ∃ z, T16.heap = z := ⟨_, rfl⟩
      rw [e16] at hQ16
      obtain ⟨rfl, N16q, K16, F20, F21⟩ := hQ16
      obtain ⟨Lo16, Y16, N16⟩ := pk X16 (Fr.app N1 N16q)
      have F17 : Exa Z h16 p0 "org/trentasette/Spinner" := F5.keep K16
      have F18 : n0 ≤ h16.size := Nat.le_trans F3 K16.1
      have F19 : Keep h0 h16 [p0] := F4.trans K16 (allS (P := fun x => x ∈ [p0] ∨ h0.size ≤ x) (Or.inl (List.mem_of_getElem? (i := 0) rfl)) all0)
      refine Go.trans st16 ?_
      show Go p.tables e below (P5 Z p0 q h0 n0 s) (T16.setTop (mkF m 28 #[.val (.ref p0), .val (.long (9223372036854775802 : Int64)), .second, .val (.long z8), .second, .unset, .unset] [(.long (f4 (q + (-7046029254386353131 : Int64))))]))
      refine Go.back (fun t k => XS.iconst Y16.here hx rfl (hb hby d5_28) k) ?_
      show Go p.tables e below (P5 Z p0 q h0 n0 s) (T16.setTop (mkF m 29 #[.val (.ref p0), .val (.long (9223372036854775802 : Int64)), .second, .val (.long z8), .second, .unset, .unset] [(.int (1 : Int32)), (.long (f4 (q + (-7046029254386353131 : Int64))))]))
      refine Go.back (fun t k => XS.lushr Y16.here hx rfl (hb hby d5_29) rfl k) ?_
      show Go p.tables e below (P5 Z p0 q h0 n0 s) (T16.setTop (mkF m 30 #[.val (.ref p0), .val (.long (9223372036854775802 : Int64)), .second, .val (.long z8), .second, .unset, .unset] [(.long ((((f4 (q + (-7046029254386353131 : Int64)))).toUInt64 >>> ((1 : Int32) &&& 0x3f).toInt64.toUInt64).toInt64))]))
      refine Go.back (fun t k => XS.lstore Y16.here hx rfl (hb hby d5_30) rfl (l' := #[.val (.ref p0), .val (.long (9223372036854775802 : Int64)), .second, .val (.long z8), .second, .val (.long ((((f4 (q + (-7046029254386353131 : Int64)))).toUInt64 >>> ((1 : Int32) &&& 0x3f).toInt64.toUInt64).toInt64)), .second]) rfl k) ?_
      show Go p.tables e below (P5 Z p0 q h0 n0 s) (T16.setTop (mkF m 32 #[.val (.ref p0), .val (.long (9223372036854775802 : Int64)), .second, .val (.long z8), .second, .val (.long ((((f4 (q + (-7046029254386353131 : Int64)))).toUInt64 >>> ((1 : Int32) &&& 0x3f).toInt64.toUInt64).toInt64)), .second] []))
      have J22 : ∀ (z23 : Int64) (hz23 : z23 = ((((f4 (q + (-7046029254386353131 : Int64)))).toUInt64 >>> ((1 : Int32) &&& 0x3f).toInt64.toUInt64).toInt64)), Go p.tables e below (P5 Z p0 q h0 n0 s) (T16.setTop (mkF m 32 #[.val (.ref p0), .val (.long (9223372036854775802 : Int64)), .second, .val (.long z8), .second, .val (.long z23), .second] [])) := by
        intro z23 hz23
        have r24 : f5 q = (if z23 < (9223372036854775802 : Int64) then (((z23 % (37 : Int64))).toInt32) else (-1 : Int32)) := by subst hz23; exact r14
        have r25 : g5_1 q = (if z23 < (9223372036854775802 : Int64) then ((q + (-7046029254386353131 : Int64)) + (-7046029254386353131 : Int64)) else ((q + (-7046029254386353131 : Int64)) + (-7046029254386353131 : Int64))) := by subst hz23; exact r15
        show Go p.tables e below (P5 Z p0 q h0 n0 s) (T16.setTop (mkF m 32 #[.val (.ref p0), .val (.long (9223372036854775802 : Int64)), .second, .val (.long z8), .second, .val (.long z23), .second] []))
        refine Go.back (fun t k => XS.lload Y16.here hx rfl (hb hby d5_32) rfl  k) ?_
        show Go p.tables e below (P5 Z p0 q h0 n0 s) (T16.setTop (mkF m 34 #[.val (.ref p0), .val (.long (9223372036854775802 : Int64)), .second, .val (.long z8), .second, .val (.long z23), .second] [(.long z23)]))
        refine Go.back (fun t k => XS.lloadN Y16.here hx rfl (hb hby d5_34) rfl  k) ?_
        show Go p.tables e below (P5 Z p0 q h0 n0 s) (T16.setTop (mkF m 35 #[.val (.ref p0), .val (.long (9223372036854775802 : Int64)), .second, .val (.long z8), .second, .val (.long z23), .second] [(.long (9223372036854775802 : Int64)), (.long z23)]))
        refine Go.back (fun t k => XS.lcmp Y16.here hx rfl (hb hby d5_35) rfl k) ?_
        show Go p.tables e below (P5 Z p0 q h0 n0 s) (T16.setTop (mkF m 36 #[.val (.ref p0), .val (.long (9223372036854775802 : Int64)), .second, .val (.long z8), .second, .val (.long z23), .second] [(.int (lcmpW z23 (9223372036854775802 : Int64)))]))
        by_cases hc26 : z23 < (9223372036854775802 : Int64)
        · have r27 := r24.trans (if_pos hc26)
          have r28 := r25.trans (if_pos hc26)
          refine Go.back (fun t k => XS.ifNo Y16.here hx rfl (hb hby d5_36) rfl ((if0 _ _).trans (tlt ((lw_lt _ _).mpr hc26)).2.1) k) ?_
          show Go p.tables e below (P5 Z p0 q h0 n0 s) (T16.setTop (mkF m 39 #[.val (.ref p0), .val (.long (9223372036854775802 : Int64)), .second, .val (.long z8), .second, .val (.long z23), .second] []))
          refine Go.back (fun t k => XS.lload Y16.here hx rfl (hb hby d5_39) rfl  k) ?_
          show Go p.tables e below (P5 Z p0 q h0 n0 s) (T16.setTop (mkF m 41 #[.val (.ref p0), .val (.long (9223372036854775802 : Int64)), .second, .val (.long z8), .second, .val (.long z23), .second] [(.long z23)]))
          refine Go.back (fun t k => Y16.ldc2Long hx hown (mvT hZ (hw _ (List.mem_of_getElem? (i := 32) rfl))) (g := (mkF m 41 #[.val (.ref p0), .val (.long (9223372036854775802 : Int64)), .second, .val (.long z8), .second, .val (.long z23), .second] [(.long z23)])) rfl (hb hby d5_41) t k) ?_
          show Go p.tables e below (P5 Z p0 q h0 n0 s) (T16.setTop (mkF m 44 #[.val (.ref p0), .val (.long (9223372036854775802 : Int64)), .second, .val (.long z8), .second, .val (.long z23), .second] [(.long (37 : Int64)), (.long z23)]))
          refine Go.back (fun t k => lremM Y16 hx rfl (hb hby d5_44) rfl (by decide) k) ?_
          show Go p.tables e below (P5 Z p0 q h0 n0 s) (T16.setTop (mkF m 45 #[.val (.ref p0), .val (.long (9223372036854775802 : Int64)), .second, .val (.long z8), .second, .val (.long z23), .second] [(.long (z23 % (37 : Int64)))]))
          refine Go.back (fun t k => XS.l2i Y16.here hx rfl (hb hby d5_45) rfl k) ?_
          show Go p.tables e below (P5 Z p0 q h0 n0 s) (T16.setTop (mkF m 46 #[.val (.ref p0), .val (.long (9223372036854775802 : Int64)), .second, .val (.long z8), .second, .val (.long z23), .second] [(.int (((z23 % (37 : Int64))).toInt32))]))
          exact Go.retI Y16 hx Bd.returns (hb hby d5_46) Bd.notSynchronized ⟨by rw [r27], N16, (by rw [e16]; exact F19), (by rw [e16]; exact F20), (by rw [e16, r28]; exact F21)⟩ (by decide) (by decide)
        · have r29 := r24.trans (if_neg hc26)
          have r30 := r25.trans (if_neg hc26)
          refine Go.back (fun t k => XS.ifYes Y16.here hx rfl (pc0 := 36) (pc' := 47) rfl (hb hby d5_36) rfl ((if0 _ _).trans (flt (fun q => hc26 ((lw_lt _ _).mp q))).2.1) (by decide) (by decide) k) ?_
          show Go p.tables e below (P5 Z p0 q h0 n0 s) (T16.setTop (mkF m 47 #[.val (.ref p0), .val (.long (9223372036854775802 : Int64)), .second, .val (.long z8), .second, .val (.long z23), .second] []))
          refine Go.back (fun t k => XS.iconst Y16.here hx rfl (hb hby d5_47) k) ?_
          show Go p.tables e below (P5 Z p0 q h0 n0 s) (T16.setTop (mkF m 48 #[.val (.ref p0), .val (.long (9223372036854775802 : Int64)), .second, .val (.long z8), .second, .val (.long z23), .second] [(.int (-1 : Int32))]))
          exact Go.retI Y16 hx Bd.returns (hb hby d5_48) Bd.notSynchronized ⟨by rw [r29], N16, (by rw [e16]; exact F19), (by rw [e16]; exact F20), (by rw [e16, r30]; exact F21)⟩ (by decide) (by decide)
      exact J22 _ rfl
  exact J7 _ rfl
def f0 (p0 : Int64) : Bool := (if (f5 p0) < (0 : Int32) then true else (if (own_spin 13 p0).1 = (f5 p0) then (if (own_spin 13 p0).1 < (0 : Int32) then false else (if (36 : Int32) < (own_spin 13 p0).1 then false else (let z57 : Int32 := (own_spin 13 (own_spin 13 p0).2).1; (if (f5 (g5_1 p0)) < (0 : Int32) then true else (if z57 = (f5 (g5_1 p0)) then (if z57 < (0 : Int32) then false else (if (36 : Int32) < z57 then false else (let z93 : Bool := (if (f4 ((own_spin 13 (own_spin 13 p0).2).2)) = (f4 (g5_1 (g5_1 p0))) then true else false); z93))) else false))))) else false))
def Q0 (Z : State) (p0 : Int64) (h0 : Heap) (n0 : Nat) (v : Option Value) (h : Heap) (L : List Loc) : Prop := v = some (.int (b2i (f0 p0))) ∧ Fr n0 L
abbrev P0 (Z : State) (p0 : Int64) (h0 : Heap) (n0 : Nat) (s : State) : Outcome → State → Prop := fun o U' => ∃ v L, o = .returned v ∧ Q0 Z p0 h0 n0 v U'.heap L ∧ FrameEnd s o U' L room_1.cells room_1.slots
theorem pn_0 : plainName "org/trentasette/SpinnerSpinPinLaw" = true := by first | (simp [plainName, overriddenIn]; done) | decide +kernel
theorem ef_0 (m : MethodId) (p0 : Int64) : entryFrame m #[(.long p0)] maxLocals = mkF m 0 #[.val (.long p0), .second, .unset, .unset, .unset, .unset, .unset, .unset] [] := by first | (simp [entryFrame, mkF, argsToLocals, Value.category, maxLocals]; done) | rfl
set_option maxRecDepth 65536 in
set_option maxHeartbeats 40000000 in
theorem rm0 (l : Launch) (Z : State) (a0 : Array Value) (hw : ∀ d ∈ tables_1, d.before a0 Z = true) (ws : List Jvm.Cond) (p0 : Int64) (h0 : Heap) (n0 : Nat) (Z0 : n0 ≤ h0.size) :
    MetFree l x (head1 (Jvm.Cond.code x code maxLocals ret :: ws) room_1) (fun a U => a = #[(.long p0)] ∧ Z.Warmed39 U.vm ∧ U.heap = h0) (fun _ _ _ _ _ => True) (fun _ U o U' => ∃ v L, o = .returned v ∧ Q0 Z p0 h0 n0 v U'.heap L ∧ FrameEnd U o U' L room_1.cells room_1.slots) := by
  refine MetFree.of_bodySF (plainFor_of_name pn_0) hisR ?_
  intro p e s m args below meth c s₁ Bd hml0 hP hK
  obtain ⟨rfl, hZ, hh⟩ := hP
  have hx := Bd.exec
  have hby := Bd.bytes
  have hml : c.maxLocals = 8 := hml0
  have hown : s.vm.findClass "org/trentasette/SpinnerSpinPinLaw" = some m.cls := findClass_of_methodNamed Bd.named
  have hnm := (name_of_methodNamed Bd.named Bd.method).1
  have X0 : Stand p l e room_1 s m #[(.long p0)] below meth c s₁ [] 0 0 := Stand.of_body Bd
  have e0 : s₁.heap = h0 := by rw [← hh, Bd.state]; rfl
  have N0 := Fr.nil n0
  show Go p.tables e below (P0 Z p0 h0 n0 s) (s₁.setTop (entryFrame m #[(.long p0)] maxLocals))
  refine Go.back (fun t k => castTop (ef_0 m p0) k) ?_
  show Go p.tables e below (P0 Z p0 h0 n0 s) (s₁.setTop (mkF m 0 #[.val (.long p0), .second, .unset, .unset, .unset, .unset, .unset, .unset] []))
  have hf0 : f0 p0 = (if (f5 p0) < (0 : Int32) then true else (if (own_spin 13 p0).1 = (f5 p0) then (if (own_spin 13 p0).1 < (0 : Int32) then false else (if (36 : Int32) < (own_spin 13 p0).1 then false else (let z57 : Int32 := (own_spin 13 (own_spin 13 p0).2).1; (if (f5 (g5_1 p0)) < (0 : Int32) then true else (if z57 = (f5 (g5_1 p0)) then (if z57 < (0 : Int32) then false else (if (36 : Int32) < z57 then false else (let z93 : Bool := (if (f4 ((own_spin 13 (own_spin 13 p0).2).2)) = (f4 (g5_1 (g5_1 p0))) then true else false); z93))) else false))))) else false)) := rfl
  obtain ⟨T1, h1, X1, e1, E1, A1, D1, -, st1⟩ := newO X0 hx hZ hown (hw _ (List.mem_of_getElem? (i := 0) rfl)) (hw _ (List.mem_of_getElem? (i := 1) rfl)) (hw _ (List.mem_of_getElem? (i := 2) rfl)) e0 (g := (mkF m 0 #[.val (.long p0), .second, .unset, .unset, .unset, .unset, .unset, .unset] [])) rfl (hb hby at_0) (by decide) (by decide)
  obtain ⟨b1, g1⟩ : ∃ z, z = h0.size := ⟨_, rfl⟩
  rw [← g1] at A1 D1 st1
  have g2 : n0 ≤ b1 := Nat.le_trans Z0 (Nat.le_of_eq g1.symm)
  have F3 : n0 ≤ h1.size := Nat.le_trans Z0 E1.1
  have F4 : Fld Z h1 b1 "org/trentasette/Spinner" "state" "J" (.long (0 : Int64)) := D1 (Or.inl (hw _ (List.mem_of_getElem? (i := 10) rfl))) (ty := .long) (by decide)
  refine Go.back st1 ?_
  show Go p.tables e below (P0 Z p0 h0 n0 s) (T1.setTop (mkF m 3 #[.val (.long p0), .second, .unset, .unset, .unset, .unset, .unset, .unset] [(.ref b1)]))
  refine Go.back (fun t k => XS.dup X1.here hx rfl (hb hby at_3) rfl rfl k) ?_
  show Go p.tables e below (P0 Z p0 h0 n0 s) (T1.setTop (mkF m 4 #[.val (.long p0), .second, .unset, .unset, .unset, .unset, .unset, .unset] [(.ref b1), (.ref b1)]))
  refine Go.back (fun t k => XS.lloadN X1.here hx rfl (hb hby at_4) rfl  k) ?_
  show Go p.tables e below (P0 Z p0 h0 n0 s) (T1.setTop (mkF m 5 #[.val (.long p0), .second, .unset, .unset, .unset, .unset, .unset, .unset] [(.long p0), (.ref b1), (.ref b1)]))
  obtain ⟨_, _, ⟨T5, L5, k5, n5⟩, -, X5, ⟨Lc5, hQ5, l5, y5, z5⟩, st5⟩ := X1.specialBack hx (y := (⟨"org/trentasette/Spinner", "<init>", "(J)V"⟩ : MethodName)) rfl hown (mvT hZ (hw _ (List.mem_of_getElem? (i := 3) rfl))) (mvT hZ (hw _ (List.mem_of_getElem? (i := 4) rfl))) (mvT hZ (hw _ (List.mem_of_getElem? (i := 5) rfl))) (by decide) (backOf (W := 1) (rm1 l Z a0 hw [] b1 p0 h1 n0 F3 A1 F4 g2) hZ (hw _ (List.mem_of_getElem? (i := 5) rfl)) (hw _ (List.mem_of_getElem? (i := 2) rfl)) (by decide) (by decide)) (g := (mkF m 5 #[.val (.long p0), .second, .unset, .unset, .unset, .unset, .unset, .unset] [(.long p0), (.ref b1), (.ref b1)])) rfl (by rw [hml]; rfl) (Steps.refl _) (a := b1) (argsL := [(.long p0)]) (rest := [(.ref b1)]) (lenOf pd_1 rfl) rfl (by show 2 * 0 + _ ≤ _; exact Nat.le_of_eq rfl) (hb hby at_5) (fun _ _ => ⟨rfl, e1, (by decide : 1 + 0 ≤ _), (by decide : 1 + 0 ≤ _)⟩)
  dsimp only [Pt.U, Pt.locs, Pt.cells, Pt.slots] at X5 l5 y5 z5 st5 hQ5
  subst l5 y5 z5
  obtain ⟨h5, e5⟩ : ∃ z, T5.heap = z := ⟨_, rfl⟩
  rw [e5] at hQ5
  obtain ⟨rfl, N5q, K5, F8, F9⟩ := hQ5
  obtain ⟨Lo5, Y5, N5⟩ := pk X5 (Fr.app N0 N5q)
  have F6 : n0 ≤ h5.size := Nat.le_trans F3 K5.1
  have F7 : Exa Z h5 b1 "org/trentasette/Spinner" := A1.keep K5
  refine Go.trans st5 ?_
  show Go p.tables e below (P0 Z p0 h0 n0 s) (T5.setTop (mkF m 8 #[.val (.long p0), .second, .unset, .unset, .unset, .unset, .unset, .unset] [(.ref b1)]))
  refine Go.back (fun t k => XS.astoreN Y5.here hx rfl (hb hby at_8) rfl rfl (l' := #[.val (.long p0), .second, .val (.ref b1), .unset, .unset, .unset, .unset, .unset]) rfl k) ?_
  show Go p.tables e below (P0 Z p0 h0 n0 s) (T5.setTop (mkF m 9 #[.val (.long p0), .second, .val (.ref b1), .unset, .unset, .unset, .unset, .unset] []))
  obtain ⟨T10, h10, X10, e10, E10, A10, D10, -, st10⟩ := newO Y5 hx hZ hown (hw _ (List.mem_of_getElem? (i := 0) rfl)) (hw _ (List.mem_of_getElem? (i := 1) rfl)) (hw _ (List.mem_of_getElem? (i := 2) rfl)) e5 (g := (mkF m 9 #[.val (.long p0), .second, .val (.ref b1), .unset, .unset, .unset, .unset, .unset] [])) rfl (hb hby at_9) (by decide) (by decide)
  obtain ⟨b10, g10⟩ : ∃ z, z = h5.size := ⟨_, rfl⟩
  rw [← g10] at A10 D10 st10
  have ne11 : b1 ≠ b10 := Nat.ne_of_lt (Nat.lt_of_lt_of_le F8.lt (Nat.le_of_eq g10.symm))
  have g12 : n0 ≤ b10 := Nat.le_trans F6 (Nat.le_of_eq g10.symm)
  have F13 : n0 ≤ h10.size := Nat.le_trans F6 E10.1
  have F14 : Exa Z h10 b1 "org/trentasette/Spinner" := F8.ext E10
  have F15 : Fld Z h10 b1 "org/trentasette/Spinner" "state" "J" (.long p0) := F9.ext E10
  have F16 : Fld Z h10 b10 "org/trentasette/Spinner" "state" "J" (.long (0 : Int64)) := D10 (Or.inl (hw _ (List.mem_of_getElem? (i := 10) rfl))) (ty := .long) (by decide)
  refine Go.back st10 ?_
  show Go p.tables e below (P0 Z p0 h0 n0 s) (T10.setTop (mkF m 12 #[.val (.long p0), .second, .val (.ref b1), .unset, .unset, .unset, .unset, .unset] [(.ref b10)]))
  refine Go.back (fun t k => XS.dup X10.here hx rfl (hb hby at_12) rfl rfl k) ?_
  show Go p.tables e below (P0 Z p0 h0 n0 s) (T10.setTop (mkF m 13 #[.val (.long p0), .second, .val (.ref b1), .unset, .unset, .unset, .unset, .unset] [(.ref b10), (.ref b10)]))
  refine Go.back (fun t k => XS.lloadN X10.here hx rfl (hb hby at_13) rfl  k) ?_
  show Go p.tables e below (P0 Z p0 h0 n0 s) (T10.setTop (mkF m 14 #[.val (.long p0), .second, .val (.ref b1), .unset, .unset, .unset, .unset, .unset] [(.long p0), (.ref b10), (.ref b10)]))
  obtain ⟨_, _, ⟨T17, L17, k17, n17⟩, -, X17, ⟨Lc17, hQ17, l17, y17, z17⟩, st17⟩ := X10.specialBack hx (y := (⟨"org/trentasette/Spinner", "<init>", "(J)V"⟩ : MethodName)) rfl hown (mvT hZ (hw _ (List.mem_of_getElem? (i := 3) rfl))) (mvT hZ (hw _ (List.mem_of_getElem? (i := 4) rfl))) (mvT hZ (hw _ (List.mem_of_getElem? (i := 5) rfl))) (by decide) (backOf (W := 1) (rm1 l Z a0 hw [] b10 p0 h10 n0 F13 A10 F16 g12) hZ (hw _ (List.mem_of_getElem? (i := 5) rfl)) (hw _ (List.mem_of_getElem? (i := 2) rfl)) (by decide) (by decide)) (g := (mkF m 14 #[.val (.long p0), .second, .val (.ref b1), .unset, .unset, .unset, .unset, .unset] [(.long p0), (.ref b10), (.ref b10)])) rfl (by rw [hml]; rfl) (Steps.refl _) (a := b10) (argsL := [(.long p0)]) (rest := [(.ref b10)]) (lenOf pd_1 rfl) rfl (by show 2 * 0 + _ ≤ _; exact Nat.le_of_eq rfl) (hb hby at_14) (fun _ _ => ⟨rfl, e10, (by decide : 2 + 0 ≤ _), (by decide : 2 + 0 ≤ _)⟩)
  dsimp only [Pt.U, Pt.locs, Pt.cells, Pt.slots] at X17 l17 y17 z17 st17 hQ17
  subst l17 y17 z17
  obtain ⟨h17, e17⟩ : ∃ z, T17.heap = z := ⟨_, rfl⟩
  rw [e17] at hQ17
  obtain ⟨rfl, N17q, K17, F22, F23⟩ := hQ17
  obtain ⟨Lo17, Y17, N17⟩ := pk X17 (Fr.app N5 N17q)
  have F18 : n0 ≤ h17.size := Nat.le_trans F13 K17.1
  have F19 : Exa Z h17 b1 "org/trentasette/Spinner" := F14.keep K17
  have F20 : Fld Z h17 b1 "org/trentasette/Spinner" "state" "J" (.long p0) := F15.keep K17 (ninS ne11 nin0)
  have F21 : Exa Z h17 b10 "org/trentasette/Spinner" := A10.keep K17
  refine Go.trans st17 ?_
  show Go p.tables e below (P0 Z p0 h0 n0 s) (T17.setTop (mkF m 17 #[.val (.long p0), .second, .val (.ref b1), .unset, .unset, .unset, .unset, .unset] [(.ref b10)]))
  refine Go.back (fun t k => XS.astoreN Y17.here hx rfl (hb hby at_17) rfl rfl (l' := #[.val (.long p0), .second, .val (.ref b1), .val (.ref b10), .unset, .unset, .unset, .unset]) rfl k) ?_
  show Go p.tables e below (P0 Z p0 h0 n0 s) (T17.setTop (mkF m 18 #[.val (.long p0), .second, .val (.ref b1), .val (.ref b10), .unset, .unset, .unset, .unset] []))
  refine Go.back (fun t k => XS.aloadN Y17.here hx rfl (hb hby at_18) rfl rfl  k) ?_
  show Go p.tables e below (P0 Z p0 h0 n0 s) (T17.setTop (mkF m 19 #[.val (.long p0), .second, .val (.ref b1), .val (.ref b10), .unset, .unset, .unset, .unset] [(.ref b1)]))
  obtain ⟨cq24, kq24, q24a, q24b, q24c⟩ := isOf hZ e17 F19
  obtain ⟨_, _, ⟨T24, L24, k24, n24⟩, -, X24, ⟨Lc24, hQ24, l24, y24, z24⟩, st24⟩ := Y17.virtualBack hx (y := (⟨"org/trentasette/Spinner", "spin", "()I"⟩ : MethodName)) (z := (⟨"org/trentasette/Spinner", "spin", "()I"⟩ : MethodName)) hown (mvT hZ (hw _ (List.mem_of_getElem? (i := 11) rfl))) (mvT hZ (hw _ (List.mem_of_getElem? (i := 12) rfl))) (notFace_of_selects (args := #[]) (mvT hZ (hw _ (List.mem_of_getElem? (i := 14) rfl)))) (mvT hZ (hw _ (List.mem_of_getElem? (i := 14) rfl))) (mvT hZ (hw _ (List.mem_of_getElem? (i := 13) rfl))) (by decide) (backOf (W := 0) (rm3 l Z a0 hw [] b1 p0 h17 n0 F18 F19 F20 g2 (own_all p0)) hZ (hw _ (List.mem_of_getElem? (i := 15) rfl)) (hw _ (List.mem_of_getElem? (i := 2) rfl)) (by decide) (by decide)) q24a q24c (g := (mkF m 19 #[.val (.long p0), .second, .val (.ref b1), .val (.ref b10), .unset, .unset, .unset, .unset] [(.ref b1)])) rfl (by rw [hml]; rfl) (Steps.refl _) (argsL := []) (rest := []) (lenOf pd_2 rfl) rfl (by show 2 * 0 + _ ≤ _; exact Nat.le_of_eq rfl) (hb hby at_19) (fun _ _ => ⟨rfl, e17, (by decide : 2 + 0 ≤ _), (by decide : 2 + 0 ≤ _)⟩)
  dsimp only [Pt.U, Pt.locs, Pt.cells, Pt.slots] at X24 l24 y24 z24 st24 hQ24
  subst l24 y24 z24
  obtain ⟨h24, e24⟩ : ∃ z, T24.heap = z := ⟨_, rfl⟩
  rw [e24] at hQ24
  obtain ⟨rfl, N24q, K24, F29, t30⟩ := hQ24
  obtain ⟨Lo24, Y24, N24⟩ := pk X24 (Fr.app N17 N24q)
  have F25 : n0 ≤ h24.size := Nat.le_trans F18 K24.1
  have F26 : Exa Z h24 b1 "org/trentasette/Spinner" := F19.keep K24
  have F27 : Exa Z h24 b10 "org/trentasette/Spinner" := F22.keep K24
  have F28 : Fld Z h24 b10 "org/trentasette/Spinner" "state" "J" (.long p0) := F23.keep K24 (ninS (Ne.symm ne11) nin0)
  refine Go.trans st24 ?_
  show Go p.tables e below (P0 Z p0 h0 n0 s) (T24.setTop (mkF m 22 #[.val (.long p0), .second, .val (.ref b1), .val (.ref b10), .unset, .unset, .unset, .unset] [(.int (own_spin 13 p0).1)]))
  refine Go.back (fun t k => XS.istore Y24.here hx rfl (hb hby at_22) rfl (l' := #[.val (.long p0), .second, .val (.ref b1), .val (.ref b10), .val (.int (own_spin 13 p0).1), .unset, .unset, .unset]) rfl k) ?_
  show Go p.tables e below (P0 Z p0 h0 n0 s) (T24.setTop (mkF m 24 #[.val (.long p0), .second, .val (.ref b1), .val (.ref b10), .val (.int (own_spin 13 p0).1), .unset, .unset, .unset] []))
  refine Go.back (fun t k => XS.aloadN Y24.here hx rfl (hb hby at_24) rfl rfl  k) ?_
  show Go p.tables e below (P0 Z p0 h0 n0 s) (T24.setTop (mkF m 25 #[.val (.long p0), .second, .val (.ref b1), .val (.ref b10), .val (.int (own_spin 13 p0).1), .unset, .unset, .unset] [(.ref b10)]))
  obtain ⟨_, _, ⟨T31, L31, k31, n31⟩, -, X31, ⟨Lc31, hQ31, l31, y31, z31⟩, st31⟩ := Jvm.LawKit.callS Y24 hx (y := (⟨"org/trentasette/SpinnerSpinPinLaw", "ref", "(Lorg/trentasette/Spinner;)I"⟩ : MethodName)) hown (mvT hZ (hw _ (List.mem_of_getElem? (i := 26) rfl))) (mvT hZ (hw _ (List.mem_of_getElem? (i := 27) rfl))) (mvT hZ (hw _ (List.mem_of_getElem? (i := 28) rfl))) (mvT hZ (hw _ (List.mem_of_getElem? (i := 29) rfl))) (by decide) (backOf (W := 0) (rm5 l Z a0 hw [] b10 p0 h24 n0 F25 F27 F28 g12) hZ (hw _ (List.mem_of_getElem? (i := 29) rfl)) (hw _ (List.mem_of_getElem? (i := 28) rfl)) (by decide) (by decide)) (g := (mkF m 25 #[.val (.long p0), .second, .val (.ref b1), .val (.ref b10), .val (.int (own_spin 13 p0).1), .unset, .unset, .unset] [(.ref b10)])) rfl (by rw [hml]; rfl) (argsL := [(.ref b10)]) (rest := []) (lenOf pd_3 rfl) rfl (by show 2 * 0 + _ ≤ _; exact Nat.le_of_eq rfl) (hb hby at_25) (fun _ _ => ⟨rfl, e24, (by decide : 2 + 0 ≤ _), (by decide : 2 + 0 ≤ _)⟩)
  dsimp only [Pt.U, Pt.locs, Pt.cells, Pt.slots] at X31 l31 y31 z31 st31 hQ31
  subst l31 y31 z31
  obtain ⟨h31, e31⟩ : ∃ z, T31.heap = z := ⟨_, rfl⟩
  rw [e31] at hQ31
  obtain ⟨rfl, N31q, K31, F36, F37⟩ := hQ31
  obtain ⟨Lo31, Y31, N31⟩ := pk X31 (Fr.app N24 N31q)
  have F32 : n0 ≤ h31.size := Nat.le_trans F25 K31.1
  have F33 : Exa Z h31 b1 "org/trentasette/Spinner" := F29.keep K31
  have F34 : Exa Z h31 b10 "org/trentasette/Spinner" := F27.keep K31
  have F35 : Fld Z h31 b1 "org/trentasette/Spinner" "state" "J" (.long (own_spin 13 p0).2) := t30.keep K31 (ninS ne11 nin0)
  refine Go.back st31 ?_
  show Go p.tables e below (P0 Z p0 h0 n0 s) (T31.setTop (mkF m 28 #[.val (.long p0), .second, .val (.ref b1), .val (.ref b10), .val (.int (own_spin 13 p0).1), .unset, .unset, .unset] [(.int (f5 p0))]))
  refine Go.back (fun t k => XS.istore Y31.here hx rfl (hb hby at_28) rfl (l' := #[.val (.long p0), .second, .val (.ref b1), .val (.ref b10), .val (.int (own_spin 13 p0).1), .val (.int (f5 p0)), .unset, .unset]) rfl k) ?_
  show Go p.tables e below (P0 Z p0 h0 n0 s) (T31.setTop (mkF m 30 #[.val (.long p0), .second, .val (.ref b1), .val (.ref b10), .val (.int (own_spin 13 p0).1), .val (.int (f5 p0)), .unset, .unset] []))
  refine Go.back (fun t k => XS.iload Y31.here hx rfl (hb hby at_30) rfl  k) ?_
  show Go p.tables e below (P0 Z p0 h0 n0 s) (T31.setTop (mkF m 32 #[.val (.long p0), .second, .val (.ref b1), .val (.ref b10), .val (.int (own_spin 13 p0).1), .val (.int (f5 p0)), .unset, .unset] [(.int (f5 p0))]))
  by_cases hc38 : (f5 p0) < (0 : Int32)
  · have r39 := hf0.trans (if_pos hc38)
    refine Go.back (fun t k => XS.ifNo Y31.here hx rfl (hb hby at_32) rfl ((if0 _ _).trans (tlt hc38).2.1) k) ?_
    show Go p.tables e below (P0 Z p0 h0 n0 s) (T31.setTop (mkF m 35 #[.val (.long p0), .second, .val (.ref b1), .val (.ref b10), .val (.int (own_spin 13 p0).1), .val (.int (f5 p0)), .unset, .unset] []))
    refine Go.back (fun t k => XS.iconst Y31.here hx rfl (hb hby at_35) k) ?_
    show Go p.tables e below (P0 Z p0 h0 n0 s) (T31.setTop (mkF m 36 #[.val (.long p0), .second, .val (.ref b1), .val (.ref b10), .val (.int (own_spin 13 p0).1), .val (.int (f5 p0)), .unset, .unset] [(.int (1 : Int32))]))
    exact Go.retB (b := true) Y31 hx Bd.returns (hb hby at_36) Bd.notSynchronized ⟨by rw [r39], N31⟩ (by decide) (by decide)
  · have r40 := hf0.trans (if_neg hc38)
    refine Go.back (fun t k => XS.ifYes Y31.here hx rfl (pc0 := 32) (pc' := 37) rfl (hb hby at_32) rfl ((if0 _ _).trans (flt hc38).2.1) (by decide) (by decide) k) ?_
    show Go p.tables e below (P0 Z p0 h0 n0 s) (T31.setTop (mkF m 37 #[.val (.long p0), .second, .val (.ref b1), .val (.ref b10), .val (.int (own_spin 13 p0).1), .val (.int (f5 p0)), .unset, .unset] []))
    refine Go.back (fun t k => XS.iload Y31.here hx rfl (hb hby at_37) rfl  k) ?_
    show Go p.tables e below (P0 Z p0 h0 n0 s) (T31.setTop (mkF m 39 #[.val (.long p0), .second, .val (.ref b1), .val (.ref b10), .val (.int (own_spin 13 p0).1), .val (.int (f5 p0)), .unset, .unset] [(.int (own_spin 13 p0).1)]))
    refine Go.back (fun t k => XS.iload Y31.here hx rfl (hb hby at_39) rfl  k) ?_
    show Go p.tables e below (P0 Z p0 h0 n0 s) (T31.setTop (mkF m 41 #[.val (.long p0), .second, .val (.ref b1), .val (.ref b10), .val (.int (own_spin 13 p0).1), .val (.int (f5 p0)), .unset, .unset] [(.int (f5 p0)), (.int (own_spin 13 p0).1)]))
    by_cases hc41 : (own_spin 13 p0).1 = (f5 p0)
    · have r42 := r40.trans (if_pos hc41)
      refine Go.back (fun t k => XS.icmpNo Y31.here hx rfl (hb hby at_41) rfl (teq hc41).2 k) ?_
      show Go p.tables e below (P0 Z p0 h0 n0 s) (T31.setTop (mkF m 44 #[.val (.long p0), .second, .val (.ref b1), .val (.ref b10), .val (.int (own_spin 13 p0).1), .val (.int (f5 p0)), .unset, .unset] []))
      refine Go.back (fun t k => XS.iload Y31.here hx rfl (hb hby at_44) rfl  k) ?_
      show Go p.tables e below (P0 Z p0 h0 n0 s) (T31.setTop (mkF m 46 #[.val (.long p0), .second, .val (.ref b1), .val (.ref b10), .val (.int (own_spin 13 p0).1), .val (.int (f5 p0)), .unset, .unset] [(.int (own_spin 13 p0).1)]))
      by_cases hc43 : (own_spin 13 p0).1 < (0 : Int32)
      · have r44 := r42.trans (if_pos hc43)
        refine Go.back (fun t k => XS.ifYes Y31.here hx rfl (pc0 := 46) (pc' := 56) rfl (hb hby at_46) rfl ((if0 _ _).trans (tlt hc43).1) (by decide) (by decide) k) ?_
        show Go p.tables e below (P0 Z p0 h0 n0 s) (T31.setTop (mkF m 56 #[.val (.long p0), .second, .val (.ref b1), .val (.ref b10), .val (.int (own_spin 13 p0).1), .val (.int (f5 p0)), .unset, .unset] []))
        refine Go.back (fun t k => XS.iconst Y31.here hx rfl (hb hby at_56) k) ?_
        show Go p.tables e below (P0 Z p0 h0 n0 s) (T31.setTop (mkF m 57 #[.val (.long p0), .second, .val (.ref b1), .val (.ref b10), .val (.int (own_spin 13 p0).1), .val (.int (f5 p0)), .unset, .unset] [(.int (0 : Int32))]))
        exact Go.retB (b := false) Y31 hx Bd.returns (hb hby at_57) Bd.notSynchronized ⟨by rw [r44], N31⟩ (by decide) (by decide)
      · have r45 := r42.trans (if_neg hc43)
        refine Go.back (fun t k => XS.ifNo Y31.here hx rfl (hb hby at_46) rfl ((if0 _ _).trans (flt hc43).1) k) ?_
        show Go p.tables e below (P0 Z p0 h0 n0 s) (T31.setTop (mkF m 49 #[.val (.long p0), .second, .val (.ref b1), .val (.ref b10), .val (.int (own_spin 13 p0).1), .val (.int (f5 p0)), .unset, .unset] []))
        refine Go.back (fun t k => XS.iload Y31.here hx rfl (hb hby at_49) rfl  k) ?_
        show Go p.tables e below (P0 Z p0 h0 n0 s) (T31.setTop (mkF m 51 #[.val (.long p0), .second, .val (.ref b1), .val (.ref b10), .val (.int (own_spin 13 p0).1), .val (.int (f5 p0)), .unset, .unset] [(.int (own_spin 13 p0).1)]))
        refine Go.back (fun t k => XS.bipush Y31.here hx rfl (hb hby at_51) k) ?_
        show Go p.tables e below (P0 Z p0 h0 n0 s) (T31.setTop (mkF m 53 #[.val (.long p0), .second, .val (.ref b1), .val (.ref b10), .val (.int (own_spin 13 p0).1), .val (.int (f5 p0)), .unset, .unset] [(.int (36 : Int32)), (.int (own_spin 13 p0).1)]))
        by_cases hc46 : (36 : Int32) < (own_spin 13 p0).1
        · have r47 := r45.trans (if_pos hc46)
          refine Go.back (fun t k => XS.icmpNo Y31.here hx rfl (hb hby at_53) rfl (tlt hc46).2.2.2 k) ?_
          show Go p.tables e below (P0 Z p0 h0 n0 s) (T31.setTop (mkF m 56 #[.val (.long p0), .second, .val (.ref b1), .val (.ref b10), .val (.int (own_spin 13 p0).1), .val (.int (f5 p0)), .unset, .unset] []))
          refine Go.back (fun t k => XS.iconst Y31.here hx rfl (hb hby at_56) k) ?_
          show Go p.tables e below (P0 Z p0 h0 n0 s) (T31.setTop (mkF m 57 #[.val (.long p0), .second, .val (.ref b1), .val (.ref b10), .val (.int (own_spin 13 p0).1), .val (.int (f5 p0)), .unset, .unset] [(.int (0 : Int32))]))
          exact Go.retB (b := false) Y31 hx Bd.returns (hb hby at_57) Bd.notSynchronized ⟨by rw [r47], N31⟩ (by decide) (by decide)
        · have r48 := r45.trans (if_neg hc46)
          refine Go.back (fun t k => XS.icmpYes Y31.here hx rfl (pc0 := 53) (pc' := 58) rfl (hb hby at_53) rfl (flt hc46).2.2.2 (by decide) (by decide) k) ?_
          show Go p.tables e below (P0 Z p0 h0 n0 s) (T31.setTop (mkF m 58 #[.val (.long p0), .second, .val (.ref b1), .val (.ref b10), .val (.int (own_spin 13 p0).1), .val (.int (f5 p0)), .unset, .unset] []))
          refine Go.back (fun t k => XS.aloadN Y31.here hx rfl (hb hby at_58) rfl rfl  k) ?_
          show Go p.tables e below (P0 Z p0 h0 n0 s) (T31.setTop (mkF m 59 #[.val (.long p0), .second, .val (.ref b1), .val (.ref b10), .val (.int (own_spin 13 p0).1), .val (.int (f5 p0)), .unset, .unset] [(.ref b1)]))
          obtain ⟨cq49, kq49, q49a, q49b, q49c⟩ := isOf hZ e31 F33
          obtain ⟨_, _, ⟨T49, L49, k49, n49⟩, -, X49, ⟨Lc49, hQ49, l49, y49, z49⟩, st49⟩ := Y31.virtualBack hx (y := (⟨"org/trentasette/Spinner", "spin", "()I"⟩ : MethodName)) (z := (⟨"org/trentasette/Spinner", "spin", "()I"⟩ : MethodName)) hown (mvT hZ (hw _ (List.mem_of_getElem? (i := 11) rfl))) (mvT hZ (hw _ (List.mem_of_getElem? (i := 12) rfl))) (notFace_of_selects (args := #[]) (mvT hZ (hw _ (List.mem_of_getElem? (i := 14) rfl)))) (mvT hZ (hw _ (List.mem_of_getElem? (i := 14) rfl))) (mvT hZ (hw _ (List.mem_of_getElem? (i := 13) rfl))) (by decide) (backOf (W := 0) (rm3 l Z a0 hw [] b1 ((own_spin 13 p0).2) h31 n0 F32 F33 F35 g2 (own_all (own_spin 13 p0).2)) hZ (hw _ (List.mem_of_getElem? (i := 15) rfl)) (hw _ (List.mem_of_getElem? (i := 2) rfl)) (by decide) (by decide)) q49a q49c (g := (mkF m 59 #[.val (.long p0), .second, .val (.ref b1), .val (.ref b10), .val (.int (own_spin 13 p0).1), .val (.int (f5 p0)), .unset, .unset] [(.ref b1)])) rfl (by rw [hml]; rfl) (Steps.refl _) (argsL := []) (rest := []) (lenOf pd_2 rfl) rfl (by show 2 * 0 + _ ≤ _; exact Nat.le_of_eq rfl) (hb hby at_59) (fun _ _ => ⟨rfl, e31, (by decide : 2 + 0 ≤ _), (by decide : 2 + 0 ≤ _)⟩)
          dsimp only [Pt.U, Pt.locs, Pt.cells, Pt.slots] at X49 l49 y49 z49 st49 hQ49
          subst l49 y49 z49
          obtain ⟨h49, e49⟩ : ∃ z, T49.heap = z := ⟨_, rfl⟩
          rw [e49] at hQ49
          obtain ⟨rfl, N49q, K49, F54, t55⟩ := hQ49
          obtain ⟨Lo49, Y49, N49⟩ := pk X49 (Fr.app N31 N49q)
          have F50 : n0 ≤ h49.size := Nat.le_trans F32 K49.1
          have F51 : Exa Z h49 b1 "org/trentasette/Spinner" := F33.keep K49
          have F52 : Exa Z h49 b10 "org/trentasette/Spinner" := F36.keep K49
          have F53 : Fld Z h49 b10 "org/trentasette/Spinner" "state" "J" (.long (g5_1 p0)) := F37.keep K49 (ninS (Ne.symm ne11) nin0)
          refine Go.trans st49 ?_
          show Go p.tables e below (P0 Z p0 h0 n0 s) (T49.setTop (mkF m 62 #[.val (.long p0), .second, .val (.ref b1), .val (.ref b10), .val (.int (own_spin 13 p0).1), .val (.int (f5 p0)), .unset, .unset] [(.int (own_spin 13 (own_spin 13 p0).2).1)]))
          refine Go.back (fun t k => XS.istore Y49.here hx rfl (hb hby at_62) rfl (l' := #[.val (.long p0), .second, .val (.ref b1), .val (.ref b10), .val (.int (own_spin 13 p0).1), .val (.int (f5 p0)), .val (.int (own_spin 13 (own_spin 13 p0).2).1), .unset]) rfl k) ?_
          show Go p.tables e below (P0 Z p0 h0 n0 s) (T49.setTop (mkF m 64 #[.val (.long p0), .second, .val (.ref b1), .val (.ref b10), .val (.int (own_spin 13 p0).1), .val (.int (f5 p0)), .val (.int (own_spin 13 (own_spin 13 p0).2).1), .unset] []))
          have J56 : ∀ (z57 : Int32) (hz57 : z57 = (own_spin 13 (own_spin 13 p0).2).1), Go p.tables e below (P0 Z p0 h0 n0 s) (T49.setTop (mkF m 64 #[.val (.long p0), .second, .val (.ref b1), .val (.ref b10), .val (.int (own_spin 13 p0).1), .val (.int (f5 p0)), .val (.int z57), .unset] [])) := by
            intro z57 hz57
            have r58 : f0 p0 = (if (f5 (g5_1 p0)) < (0 : Int32) then true else (if z57 = (f5 (g5_1 p0)) then (if z57 < (0 : Int32) then false else (if (36 : Int32) < z57 then false else (let z93 : Bool := (if (f4 ((own_spin 13 (own_spin 13 p0).2).2)) = (f4 (g5_1 (g5_1 p0))) then true else false); z93))) else false)) := by subst hz57; exact r48
            show Go p.tables e below (P0 Z p0 h0 n0 s) (T49.setTop (mkF m 64 #[.val (.long p0), .second, .val (.ref b1), .val (.ref b10), .val (.int (own_spin 13 p0).1), .val (.int (f5 p0)), .val (.int z57), .unset] []))
            refine Go.back (fun t k => XS.aloadN Y49.here hx rfl (hb hby at_64) rfl rfl  k) ?_
            show Go p.tables e below (P0 Z p0 h0 n0 s) (T49.setTop (mkF m 65 #[.val (.long p0), .second, .val (.ref b1), .val (.ref b10), .val (.int (own_spin 13 p0).1), .val (.int (f5 p0)), .val (.int z57), .unset] [(.ref b10)]))
            obtain ⟨_, _, ⟨T59, L59, k59, n59⟩, -, X59, ⟨Lc59, hQ59, l59, y59, z59⟩, st59⟩ := Jvm.LawKit.callS Y49 hx (y := (⟨"org/trentasette/SpinnerSpinPinLaw", "ref", "(Lorg/trentasette/Spinner;)I"⟩ : MethodName)) hown (mvT hZ (hw _ (List.mem_of_getElem? (i := 26) rfl))) (mvT hZ (hw _ (List.mem_of_getElem? (i := 27) rfl))) (mvT hZ (hw _ (List.mem_of_getElem? (i := 28) rfl))) (mvT hZ (hw _ (List.mem_of_getElem? (i := 29) rfl))) (by decide) (backOf (W := 0) (rm5 l Z a0 hw [] b10 (g5_1 p0) h49 n0 F50 F52 F53 g12) hZ (hw _ (List.mem_of_getElem? (i := 29) rfl)) (hw _ (List.mem_of_getElem? (i := 28) rfl)) (by decide) (by decide)) (g := (mkF m 65 #[.val (.long p0), .second, .val (.ref b1), .val (.ref b10), .val (.int (own_spin 13 p0).1), .val (.int (f5 p0)), .val (.int z57), .unset] [(.ref b10)])) rfl (by rw [hml]; rfl) (argsL := [(.ref b10)]) (rest := []) (lenOf pd_3 rfl) rfl (by show 2 * 0 + _ ≤ _; exact Nat.le_of_eq rfl) (hb hby at_65) (fun _ _ => ⟨rfl, e49, (by decide : 2 + 0 ≤ _), (by decide : 2 + 0 ≤ _)⟩)
            dsimp only [Pt.U, Pt.locs, Pt.cells, Pt.slots] at X59 l59 y59 z59 st59 hQ59
            subst l59 y59 z59
            obtain ⟨h59, e59⟩ : ∃ z, T59.heap = z := ⟨_, rfl⟩
            rw [e59] at hQ59
            obtain ⟨rfl, N59q, K59, F64, F65⟩ := hQ59
            obtain ⟨Lo59, Y59, N59⟩ := pk X59 (Fr.app N49 N59q)
            have F60 : n0 ≤ h59.size := Nat.le_trans F50 K59.1
            have F61 : Exa Z h59 b1 "org/trentasette/Spinner" := F54.keep K59
            have F62 : Exa Z h59 b10 "org/trentasette/Spinner" := F52.keep K59
            have F63 : Fld Z h59 b1 "org/trentasette/Spinner" "state" "J" (.long (own_spin 13 (own_spin 13 p0).2).2) := t55.keep K59 (ninS ne11 nin0)
            refine Go.back st59 ?_
            show Go p.tables e below (P0 Z p0 h0 n0 s) (T59.setTop (mkF m 68 #[.val (.long p0), .second, .val (.ref b1), .val (.ref b10), .val (.int (own_spin 13 p0).1), .val (.int (f5 p0)), .val (.int z57), .unset] [(.int (f5 (g5_1 p0)))]))
            refine Go.back (fun t k => XS.istore Y59.here hx rfl (hb hby at_68) rfl (l' := #[.val (.long p0), .second, .val (.ref b1), .val (.ref b10), .val (.int (own_spin 13 p0).1), .val (.int (f5 p0)), .val (.int z57), .val (.int (f5 (g5_1 p0)))]) rfl k) ?_
            show Go p.tables e below (P0 Z p0 h0 n0 s) (T59.setTop (mkF m 70 #[.val (.long p0), .second, .val (.ref b1), .val (.ref b10), .val (.int (own_spin 13 p0).1), .val (.int (f5 p0)), .val (.int z57), .val (.int (f5 (g5_1 p0)))] []))
            refine Go.back (fun t k => XS.iload Y59.here hx rfl (hb hby at_70) rfl  k) ?_
            show Go p.tables e below (P0 Z p0 h0 n0 s) (T59.setTop (mkF m 72 #[.val (.long p0), .second, .val (.ref b1), .val (.ref b10), .val (.int (own_spin 13 p0).1), .val (.int (f5 p0)), .val (.int z57), .val (.int (f5 (g5_1 p0)))] [(.int (f5 (g5_1 p0)))]))
            by_cases hc66 : (f5 (g5_1 p0)) < (0 : Int32)
            · have r67 := r58.trans (if_pos hc66)
              refine Go.back (fun t k => XS.ifNo Y59.here hx rfl (hb hby at_72) rfl ((if0 _ _).trans (tlt hc66).2.1) k) ?_
              show Go p.tables e below (P0 Z p0 h0 n0 s) (T59.setTop (mkF m 75 #[.val (.long p0), .second, .val (.ref b1), .val (.ref b10), .val (.int (own_spin 13 p0).1), .val (.int (f5 p0)), .val (.int z57), .val (.int (f5 (g5_1 p0)))] []))
              refine Go.back (fun t k => XS.iconst Y59.here hx rfl (hb hby at_75) k) ?_
              show Go p.tables e below (P0 Z p0 h0 n0 s) (T59.setTop (mkF m 76 #[.val (.long p0), .second, .val (.ref b1), .val (.ref b10), .val (.int (own_spin 13 p0).1), .val (.int (f5 p0)), .val (.int z57), .val (.int (f5 (g5_1 p0)))] [(.int (1 : Int32))]))
              exact Go.retB (b := true) Y59 hx Bd.returns (hb hby at_76) Bd.notSynchronized ⟨by rw [r67], N59⟩ (by decide) (by decide)
            · have r68 := r58.trans (if_neg hc66)
              refine Go.back (fun t k => XS.ifYes Y59.here hx rfl (pc0 := 72) (pc' := 77) rfl (hb hby at_72) rfl ((if0 _ _).trans (flt hc66).2.1) (by decide) (by decide) k) ?_
              show Go p.tables e below (P0 Z p0 h0 n0 s) (T59.setTop (mkF m 77 #[.val (.long p0), .second, .val (.ref b1), .val (.ref b10), .val (.int (own_spin 13 p0).1), .val (.int (f5 p0)), .val (.int z57), .val (.int (f5 (g5_1 p0)))] []))
              refine Go.back (fun t k => XS.iload Y59.here hx rfl (hb hby at_77) rfl  k) ?_
              show Go p.tables e below (P0 Z p0 h0 n0 s) (T59.setTop (mkF m 79 #[.val (.long p0), .second, .val (.ref b1), .val (.ref b10), .val (.int (own_spin 13 p0).1), .val (.int (f5 p0)), .val (.int z57), .val (.int (f5 (g5_1 p0)))] [(.int z57)]))
              refine Go.back (fun t k => XS.iload Y59.here hx rfl (hb hby at_79) rfl  k) ?_
              show Go p.tables e below (P0 Z p0 h0 n0 s) (T59.setTop (mkF m 81 #[.val (.long p0), .second, .val (.ref b1), .val (.ref b10), .val (.int (own_spin 13 p0).1), .val (.int (f5 p0)), .val (.int z57), .val (.int (f5 (g5_1 p0)))] [(.int (f5 (g5_1 p0))), (.int z57)]))
              by_cases hc69 : z57 = (f5 (g5_1 p0))
              · have r70 := r68.trans (if_pos hc69)
                refine Go.back (fun t k => XS.icmpNo Y59.here hx rfl (hb hby at_81) rfl (teq hc69).2 k) ?_
                show Go p.tables e below (P0 Z p0 h0 n0 s) (T59.setTop (mkF m 84 #[.val (.long p0), .second, .val (.ref b1), .val (.ref b10), .val (.int (own_spin 13 p0).1), .val (.int (f5 p0)), .val (.int z57), .val (.int (f5 (g5_1 p0)))] []))
                refine Go.back (fun t k => XS.iload Y59.here hx rfl (hb hby at_84) rfl  k) ?_
                show Go p.tables e below (P0 Z p0 h0 n0 s) (T59.setTop (mkF m 86 #[.val (.long p0), .second, .val (.ref b1), .val (.ref b10), .val (.int (own_spin 13 p0).1), .val (.int (f5 p0)), .val (.int z57), .val (.int (f5 (g5_1 p0)))] [(.int z57)]))
                by_cases hc71 : z57 < (0 : Int32)
                · have r72 := r70.trans (if_pos hc71)
                  refine Go.back (fun t k => XS.ifYes Y59.here hx rfl (pc0 := 86) (pc' := 96) rfl (hb hby at_86) rfl ((if0 _ _).trans (tlt hc71).1) (by decide) (by decide) k) ?_
                  show Go p.tables e below (P0 Z p0 h0 n0 s) (T59.setTop (mkF m 96 #[.val (.long p0), .second, .val (.ref b1), .val (.ref b10), .val (.int (own_spin 13 p0).1), .val (.int (f5 p0)), .val (.int z57), .val (.int (f5 (g5_1 p0)))] []))
                  refine Go.back (fun t k => XS.iconst Y59.here hx rfl (hb hby at_96) k) ?_
                  show Go p.tables e below (P0 Z p0 h0 n0 s) (T59.setTop (mkF m 97 #[.val (.long p0), .second, .val (.ref b1), .val (.ref b10), .val (.int (own_spin 13 p0).1), .val (.int (f5 p0)), .val (.int z57), .val (.int (f5 (g5_1 p0)))] [(.int (0 : Int32))]))
                  exact Go.retB (b := false) Y59 hx Bd.returns (hb hby at_97) Bd.notSynchronized ⟨by rw [r72], N59⟩ (by decide) (by decide)
                · have r73 := r70.trans (if_neg hc71)
                  refine Go.back (fun t k => XS.ifNo Y59.here hx rfl (hb hby at_86) rfl ((if0 _ _).trans (flt hc71).1) k) ?_
                  show Go p.tables e below (P0 Z p0 h0 n0 s) (T59.setTop (mkF m 89 #[.val (.long p0), .second, .val (.ref b1), .val (.ref b10), .val (.int (own_spin 13 p0).1), .val (.int (f5 p0)), .val (.int z57), .val (.int (f5 (g5_1 p0)))] []))
                  refine Go.back (fun t k => XS.iload Y59.here hx rfl (hb hby at_89) rfl  k) ?_
                  show Go p.tables e below (P0 Z p0 h0 n0 s) (T59.setTop (mkF m 91 #[.val (.long p0), .second, .val (.ref b1), .val (.ref b10), .val (.int (own_spin 13 p0).1), .val (.int (f5 p0)), .val (.int z57), .val (.int (f5 (g5_1 p0)))] [(.int z57)]))
                  refine Go.back (fun t k => XS.bipush Y59.here hx rfl (hb hby at_91) k) ?_
                  show Go p.tables e below (P0 Z p0 h0 n0 s) (T59.setTop (mkF m 93 #[.val (.long p0), .second, .val (.ref b1), .val (.ref b10), .val (.int (own_spin 13 p0).1), .val (.int (f5 p0)), .val (.int z57), .val (.int (f5 (g5_1 p0)))] [(.int (36 : Int32)), (.int z57)]))
                  by_cases hc74 : (36 : Int32) < z57
                  · have r75 := r73.trans (if_pos hc74)
                    refine Go.back (fun t k => XS.icmpNo Y59.here hx rfl (hb hby at_93) rfl (tlt hc74).2.2.2 k) ?_
                    show Go p.tables e below (P0 Z p0 h0 n0 s) (T59.setTop (mkF m 96 #[.val (.long p0), .second, .val (.ref b1), .val (.ref b10), .val (.int (own_spin 13 p0).1), .val (.int (f5 p0)), .val (.int z57), .val (.int (f5 (g5_1 p0)))] []))
                    refine Go.back (fun t k => XS.iconst Y59.here hx rfl (hb hby at_96) k) ?_
                    show Go p.tables e below (P0 Z p0 h0 n0 s) (T59.setTop (mkF m 97 #[.val (.long p0), .second, .val (.ref b1), .val (.ref b10), .val (.int (own_spin 13 p0).1), .val (.int (f5 p0)), .val (.int z57), .val (.int (f5 (g5_1 p0)))] [(.int (0 : Int32))]))
                    exact Go.retB (b := false) Y59 hx Bd.returns (hb hby at_97) Bd.notSynchronized ⟨by rw [r75], N59⟩ (by decide) (by decide)
                  · have r76 := r73.trans (if_neg hc74)
                    refine Go.back (fun t k => XS.icmpYes Y59.here hx rfl (pc0 := 93) (pc' := 98) rfl (hb hby at_93) rfl (flt hc74).2.2.2 (by decide) (by decide) k) ?_
                    show Go p.tables e below (P0 Z p0 h0 n0 s) (T59.setTop (mkF m 98 #[.val (.long p0), .second, .val (.ref b1), .val (.ref b10), .val (.int (own_spin 13 p0).1), .val (.int (f5 p0)), .val (.int z57), .val (.int (f5 (g5_1 p0)))] []))
                    refine Go.back (fun t k => XS.aloadN Y59.here hx rfl (hb hby at_98) rfl rfl  k) ?_
                    show Go p.tables e below (P0 Z p0 h0 n0 s) (T59.setTop (mkF m 99 #[.val (.long p0), .second, .val (.ref b1), .val (.ref b10), .val (.int (own_spin 13 p0).1), .val (.int (f5 p0)), .val (.int z57), .val (.int (f5 (g5_1 p0)))] [(.ref b1)]))
                    obtain ⟨cq77, kq77, q77a, q77b, q77c⟩ := isOf hZ e59 F61
                    obtain ⟨_, _, ⟨T77, L77, k77, n77⟩, -, X77, ⟨Lc77, hQ77, l77, y77, z77⟩, st77⟩ := Y59.virtualBack hx (y := (⟨"org/trentasette/Spinner", "next", "()J"⟩ : MethodName)) (z := (⟨"org/trentasette/Spinner", "next", "()J"⟩ : MethodName)) hown (mvT hZ (hw _ (List.mem_of_getElem? (i := 31) rfl))) (mvT hZ (hw _ (List.mem_of_getElem? (i := 17) rfl))) (notFace_of_selects (args := #[]) (mvT hZ (hw _ (List.mem_of_getElem? (i := 19) rfl)))) (mvT hZ (hw _ (List.mem_of_getElem? (i := 19) rfl))) (mvT hZ (hw _ (List.mem_of_getElem? (i := 18) rfl))) (by decide) (backOf (W := 0) (rm4 l Z a0 hw [] b1 ((own_spin 13 (own_spin 13 p0).2).2) h59 n0 F60 F61 F63 g2) hZ (hw _ (List.mem_of_getElem? (i := 20) rfl)) (hw _ (List.mem_of_getElem? (i := 2) rfl)) (by decide) (by decide)) q77a q77c (g := (mkF m 99 #[.val (.long p0), .second, .val (.ref b1), .val (.ref b10), .val (.int (own_spin 13 p0).1), .val (.int (f5 p0)), .val (.int z57), .val (.int (f5 (g5_1 p0)))] [(.ref b1)])) rfl (by rw [hml]; rfl) (Steps.refl _) (argsL := []) (rest := []) (lenOf pd_0 rfl) rfl (by show 2 * 0 + _ ≤ _; exact Nat.le_of_eq rfl) (hb hby at_99) (fun _ _ => ⟨rfl, e59, (by decide : 2 + 0 ≤ _), (by decide : 2 + 0 ≤ _)⟩)
                    dsimp only [Pt.U, Pt.locs, Pt.cells, Pt.slots] at X77 l77 y77 z77 st77 hQ77
                    subst l77 y77 z77
                    obtain ⟨h77, e77⟩ : ∃ z, T77.heap = z := ⟨_, rfl⟩
                    rw [e77] at hQ77
                    obtain ⟨rfl, N77q, K77, F82, F83⟩ := hQ77
                    obtain ⟨Lo77, Y77, N77⟩ := pk X77 (Fr.app N59 N77q)
                    have F78 : n0 ≤ h77.size := Nat.le_trans F60 K77.1
                    have F79 : Exa Z h77 b1 "org/trentasette/Spinner" := F61.keep K77
                    have F80 : Exa Z h77 b10 "org/trentasette/Spinner" := F64.keep K77
                    have F81 : Fld Z h77 b10 "org/trentasette/Spinner" "state" "J" (.long (g5_1 (g5_1 p0))) := F65.keep K77 (ninS (Ne.symm ne11) nin0)
                    refine Go.trans st77 ?_
                    show Go p.tables e below (P0 Z p0 h0 n0 s) (T77.setTop (mkF m 102 #[.val (.long p0), .second, .val (.ref b1), .val (.ref b10), .val (.int (own_spin 13 p0).1), .val (.int (f5 p0)), .val (.int z57), .val (.int (f5 (g5_1 p0)))] [(.long (f4 ((own_spin 13 (own_spin 13 p0).2).2)))]))
                    refine Go.back (fun t k => XS.aloadN Y77.here hx rfl (hb hby at_102) rfl rfl  k) ?_
                    show Go p.tables e below (P0 Z p0 h0 n0 s) (T77.setTop (mkF m 103 #[.val (.long p0), .second, .val (.ref b1), .val (.ref b10), .val (.int (own_spin 13 p0).1), .val (.int (f5 p0)), .val (.int z57), .val (.int (f5 (g5_1 p0)))] [(.ref b10), (.long (f4 ((own_spin 13 (own_spin 13 p0).2).2)))]))
                    obtain ⟨cq84, kq84, q84a, q84b, q84c⟩ := isOf hZ e77 F80
                    obtain ⟨_, _, ⟨T84, L84, k84, n84⟩, -, X84, ⟨Lc84, hQ84, l84, y84, z84⟩, st84⟩ := Y77.virtualBack hx (y := (⟨"org/trentasette/Spinner", "next", "()J"⟩ : MethodName)) (z := (⟨"org/trentasette/Spinner", "next", "()J"⟩ : MethodName)) hown (mvT hZ (hw _ (List.mem_of_getElem? (i := 31) rfl))) (mvT hZ (hw _ (List.mem_of_getElem? (i := 17) rfl))) (notFace_of_selects (args := #[]) (mvT hZ (hw _ (List.mem_of_getElem? (i := 19) rfl)))) (mvT hZ (hw _ (List.mem_of_getElem? (i := 19) rfl))) (mvT hZ (hw _ (List.mem_of_getElem? (i := 18) rfl))) (by decide) (backOf (W := 2) (rm4 l Z a0 hw [] b10 (g5_1 (g5_1 p0)) h77 n0 F78 F80 F81 g12) hZ (hw _ (List.mem_of_getElem? (i := 20) rfl)) (hw _ (List.mem_of_getElem? (i := 2) rfl)) (by decide) (by decide)) q84a q84c (g := (mkF m 103 #[.val (.long p0), .second, .val (.ref b1), .val (.ref b10), .val (.int (own_spin 13 p0).1), .val (.int (f5 p0)), .val (.int z57), .val (.int (f5 (g5_1 p0)))] [(.ref b10), (.long (f4 ((own_spin 13 (own_spin 13 p0).2).2)))])) rfl (by rw [hml]; rfl) (Steps.refl _) (argsL := []) (rest := [(.long (f4 ((own_spin 13 (own_spin 13 p0).2).2)))]) (lenOf pd_0 rfl) rfl (by show 2 * 0 + _ ≤ _; exact Nat.le_of_eq rfl) (hb hby at_103) (fun _ _ => ⟨rfl, e77, (by decide : 2 + 0 ≤ _), (by decide : 2 + 0 ≤ _)⟩)
                    dsimp only [Pt.U, Pt.locs, Pt.cells, Pt.slots] at X84 l84 y84 z84 st84 hQ84
                    subst l84 y84 z84
                    obtain ⟨h84, e84⟩ : ∃ z, T84.heap = z := ⟨_, rfl⟩
                    rw [e84] at hQ84
                    obtain ⟨rfl, N84q, K84, F89, F90⟩ := hQ84
                    obtain ⟨Lo84, Y84, N84⟩ := pk X84 (Fr.app N77 N84q)
                    have F85 : n0 ≤ h84.size := Nat.le_trans F78 K84.1
                    have F86 : Exa Z h84 b1 "org/trentasette/Spinner" := F82.keep K84
                    have F87 : Exa Z h84 b10 "org/trentasette/Spinner" := F80.keep K84
                    have F88 : Fld Z h84 b1 "org/trentasette/Spinner" "state" "J" (.long ((own_spin 13 (own_spin 13 p0).2).2 + (-7046029254386353131 : Int64))) := F83.keep K84 (ninS ne11 nin0)
                    refine Go.trans st84 ?_
                    show Go p.tables e below (P0 Z p0 h0 n0 s) (T84.setTop (mkF m 106 #[.val (.long p0), .second, .val (.ref b1), .val (.ref b10), .val (.int (own_spin 13 p0).1), .val (.int (f5 p0)), .val (.int z57), .val (.int (f5 (g5_1 p0)))] [(.long (f4 (g5_1 (g5_1 p0)))), (.long (f4 ((own_spin 13 (own_spin 13 p0).2).2)))]))
                    refine Go.back (fun t k => XS.lcmp Y84.here hx rfl (hb hby at_106) rfl k) ?_
                    show Go p.tables e below (P0 Z p0 h0 n0 s) (T84.setTop (mkF m 107 #[.val (.long p0), .second, .val (.ref b1), .val (.ref b10), .val (.int (own_spin 13 p0).1), .val (.int (f5 p0)), .val (.int z57), .val (.int (f5 (g5_1 p0)))] [(.int (lcmpW (f4 ((own_spin 13 (own_spin 13 p0).2).2)) (f4 (g5_1 (g5_1 p0)))))]))
                    have J92 : ∀ (z93 : Bool) (hz93 : z93 = (if (f4 ((own_spin 13 (own_spin 13 p0).2).2)) = (f4 (g5_1 (g5_1 p0))) then true else false)), Go p.tables e below (P0 Z p0 h0 n0 s) (T84.setTop (mkF m 115 #[.val (.long p0), .second, .val (.ref b1), .val (.ref b10), .val (.int (own_spin 13 p0).1), .val (.int (f5 p0)), .val (.int z57), .val (.int (f5 (g5_1 p0)))] [(.int (b2i z93))])) := by
                      intro z93 hz93
                      have r94 : f0 p0 = z93 := by subst hz93; exact r76
                      show Go p.tables e below (P0 Z p0 h0 n0 s) (T84.setTop (mkF m 115 #[.val (.long p0), .second, .val (.ref b1), .val (.ref b10), .val (.int (own_spin 13 p0).1), .val (.int (f5 p0)), .val (.int z57), .val (.int (f5 (g5_1 p0)))] [(.int (b2i z93))]))
                      exact Go.retB (b := z93) Y84 hx Bd.returns (hb hby at_115) Bd.notSynchronized ⟨by rw [r94], N84⟩ (by decide) (by decide)
                    have r95 : (if (f4 ((own_spin 13 (own_spin 13 p0).2).2)) = (f4 (g5_1 (g5_1 p0))) then true else false) = (if (f4 ((own_spin 13 (own_spin 13 p0).2).2)) = (f4 (g5_1 (g5_1 p0))) then true else false) := rfl
                    by_cases hc91 : (f4 ((own_spin 13 (own_spin 13 p0).2).2)) = (f4 (g5_1 (g5_1 p0)))
                    · have r96 := r95.trans (if_pos hc91)
                      refine Go.back (fun t k => XS.ifNo Y84.here hx rfl (hb hby at_107) rfl ((if0 _ _).trans (teq ((lw_eq _ _).mpr hc91)).2) k) ?_
                      show Go p.tables e below (P0 Z p0 h0 n0 s) (T84.setTop (mkF m 110 #[.val (.long p0), .second, .val (.ref b1), .val (.ref b10), .val (.int (own_spin 13 p0).1), .val (.int (f5 p0)), .val (.int z57), .val (.int (f5 (g5_1 p0)))] []))
                      refine Go.back (fun t k => XS.iconst Y84.here hx rfl (hb hby at_110) k) ?_
                      show Go p.tables e below (P0 Z p0 h0 n0 s) (T84.setTop (mkF m 111 #[.val (.long p0), .second, .val (.ref b1), .val (.ref b10), .val (.int (own_spin 13 p0).1), .val (.int (f5 p0)), .val (.int z57), .val (.int (f5 (g5_1 p0)))] [(.int (1 : Int32))]))
                      refine Go.back (fun t k => XS.goto Y84.here hx rfl (pc0 := 111) (pc' := 115) rfl (hb hby at_111) (by decide) (by decide) k) ?_
                      show Go p.tables e below (P0 Z p0 h0 n0 s) (T84.setTop (mkF m 115 #[.val (.long p0), .second, .val (.ref b1), .val (.ref b10), .val (.int (own_spin 13 p0).1), .val (.int (f5 p0)), .val (.int z57), .val (.int (f5 (g5_1 p0)))] [(.int (1 : Int32))]))
                      exact J92 true r96.symm
                    · have r97 := r95.trans (if_neg hc91)
                      refine Go.back (fun t k => XS.ifYes Y84.here hx rfl (pc0 := 107) (pc' := 114) rfl (hb hby at_107) rfl ((if0 _ _).trans (feq (fun q => hc91 ((lw_eq _ _).mp q))).2) (by decide) (by decide) k) ?_
                      show Go p.tables e below (P0 Z p0 h0 n0 s) (T84.setTop (mkF m 114 #[.val (.long p0), .second, .val (.ref b1), .val (.ref b10), .val (.int (own_spin 13 p0).1), .val (.int (f5 p0)), .val (.int z57), .val (.int (f5 (g5_1 p0)))] []))
                      refine Go.back (fun t k => XS.iconst Y84.here hx rfl (hb hby at_114) k) ?_
                      show Go p.tables e below (P0 Z p0 h0 n0 s) (T84.setTop (mkF m 115 #[.val (.long p0), .second, .val (.ref b1), .val (.ref b10), .val (.int (own_spin 13 p0).1), .val (.int (f5 p0)), .val (.int z57), .val (.int (f5 (g5_1 p0)))] [(.int (0 : Int32))]))
                      exact J92 false r97.symm
              · have r98 := r68.trans (if_neg hc69)
                refine Go.back (fun t k => XS.icmpYes Y59.here hx rfl (pc0 := 81) (pc' := 96) rfl (hb hby at_81) rfl (feq hc69).2 (by decide) (by decide) k) ?_
                show Go p.tables e below (P0 Z p0 h0 n0 s) (T59.setTop (mkF m 96 #[.val (.long p0), .second, .val (.ref b1), .val (.ref b10), .val (.int (own_spin 13 p0).1), .val (.int (f5 p0)), .val (.int z57), .val (.int (f5 (g5_1 p0)))] []))
                refine Go.back (fun t k => XS.iconst Y59.here hx rfl (hb hby at_96) k) ?_
                show Go p.tables e below (P0 Z p0 h0 n0 s) (T59.setTop (mkF m 97 #[.val (.long p0), .second, .val (.ref b1), .val (.ref b10), .val (.int (own_spin 13 p0).1), .val (.int (f5 p0)), .val (.int z57), .val (.int (f5 (g5_1 p0)))] [(.int (0 : Int32))]))
                exact Go.retB (b := false) Y59 hx Bd.returns (hb hby at_97) Bd.notSynchronized ⟨by rw [r98], N59⟩ (by decide) (by decide)
          exact J56 _ rfl
    · have r99 := r40.trans (if_neg hc41)
      refine Go.back (fun t k => XS.icmpYes Y31.here hx rfl (pc0 := 41) (pc' := 56) rfl (hb hby at_41) rfl (feq hc41).2 (by decide) (by decide) k) ?_
      show Go p.tables e below (P0 Z p0 h0 n0 s) (T31.setTop (mkF m 56 #[.val (.long p0), .second, .val (.ref b1), .val (.ref b10), .val (.int (own_spin 13 p0).1), .val (.int (f5 p0)), .unset, .unset] []))
      refine Go.back (fun t k => XS.iconst Y31.here hx rfl (hb hby at_56) k) ?_
      show Go p.tables e below (P0 Z p0 h0 n0 s) (T31.setTop (mkF m 57 #[.val (.long p0), .second, .val (.ref b1), .val (.ref b10), .val (.int (own_spin 13 p0).1), .val (.int (f5 p0)), .unset, .unset] [(.int (0 : Int32))]))
      exact Go.retB (b := false) Y31 hx Bd.returns (hb hby at_57) Bd.notSynchronized ⟨by rw [r99], N31⟩ (by decide) (by decide)
theorem own_mod (b : Int64) (h : 0 ≤ b.toInt) : 0 ≤ ((b % (37 : Int64)).toInt32).toInt ∧ ((b % (37 : Int64)).toInt32).toInt ≤ 36 := by
  have e : (b % (37 : Int64)).toInt = b.toInt % 37 := by rw [Int64.toInt_mod]; exact Int.tmod_eq_emod_of_nonneg h
  have q := c_l2i (b % (37 : Int64)); have r := rng32 ((b % (37 : Int64)).toInt32)
  rw [e] at q
  omega
theorem own_bnn (x : Int64) : 0 ≤ (own_b x).toInt := by rw [own_bval]; omega
theorem own_cases (q : Int64) : (f5 q < (0 : Int32)) ∨ (own_spin 13 q = (f5 q, g5_1 q) ∧ ¬ f5 q < (0 : Int32) ∧ ¬ (36 : Int32) < f5 q) := by
  have m1 := own_mod (own_b q) (own_bnn q)
  have m2 := own_mod (own_b (q + (-7046029254386353131 : Int64))) (own_bnn _)
  have l0 : (0 : Int32).toInt = 0 := rfl
  have l36 : (36 : Int32).toInt = 36 := rfl
  by_cases h1 : own_b q < (9223372036854775802 : Int64)
  · right
    have a : f5 q = (own_b q % (37 : Int64)).toInt32 := if_pos h1
    have b : g5_1 q = q + (-7046029254386353131 : Int64) := if_pos h1
    rw [own_spin_pos (n := 12) h1, a, b, Int32.lt_iff_toInt_lt, Int32.lt_iff_toInt_lt, l0, l36]
    exact ⟨rfl, by omega, by omega⟩
  · by_cases h2 : own_b (q + (-7046029254386353131 : Int64)) < (9223372036854775802 : Int64)
    · right
      have a : f5 q = (own_b (q + (-7046029254386353131 : Int64)) % (37 : Int64)).toInt32 := (if_neg h1).trans (if_pos h2)
      have b : g5_1 q = q + (-7046029254386353131 : Int64) + (-7046029254386353131 : Int64) := (if_neg h1).trans (if_pos h2)
      rw [own_spin_neg (n := 12) h1, own_spin_pos (n := 11) h2, a, b, Int32.lt_iff_toInt_lt, Int32.lt_iff_toInt_lt, l0, l36]
      exact ⟨rfl, by omega, by omega⟩
    · left
      have a : f5 q = (-1 : Int32) := (if_neg h1).trans (if_neg h2)
      rw [a]; decide
theorem own_law (p0 : Int64) : f0 p0 = true := by
  unfold f0
  have c1 := own_cases p0
  have c2 := own_cases (g5_1 p0)
  generalize own_spin 13 = S at *
  generalize f5 = F at *
  generalize g5_1 = G at *
  generalize f4 = H at *
  rcases c1 with h | ⟨e, h1, h2⟩
  · rw [if_pos h]
  · rw [if_neg h1, e]
    simp only [if_true, if_neg h1, if_neg h2]
    rcases c2 with h | ⟨e', h1', h2'⟩
    · rw [if_pos h]
    · rw [if_neg h1', e']
      simp only [if_true, if_neg h1', if_neg h2']
set_option maxRecDepth 65536 in
set_option maxHeartbeats 40000000 in
theorem comes_1 {Post : Tables → Env → Array Value → State → Outcome → State → Prop} (hpost : ∀ tb e args s v u, (limb_1_1.after args s (.returned v) u = true ∧ limb_1_2.after args s (.returned v) u = true ∧ True) → FrameEnd s (.returned v) u (Jvm.fieldLocs frame_1_writes args s ++ Jvm.arrayLocs frame_1_arrays args s ++ Jvm.staticLocs frame_1_statics s) 16 128 → Post tb e args s (.returned v) u) :
    ArmFor flags0 classFile x code maxLocals ret World_1 tables_1 room_1 Calls_1 rest_1 Pre_1 Post := by
  intro l hfl _ _ p e ha hc hk s m args below hf hA hF happ hP
  obtain ⟨hcalls, hrest, hpre⟩ := hP
  obtain ⟨-, -, -, hnamed, -, -, -, hat⟩ := (Spec.applies_iff hf).mp happ
  obtain ⟨hg, hn⟩ := and_e (Cond.before_iff.mp (show (Jvm.Cond.and given_1 narrow_1).before args s = true from hpre))
  obtain ⟨g1, g2⟩ := and_e hg
  obtain ⟨w0, rfl⟩ : ∃ w0 : Value, args = #[w0] := by
    have hs : args.size = 1 := by simpa [Cond.value, given_1] using g1
    obtain ⟨L⟩ := args
    match L, hs with
    | [w0], _ => exact ⟨w0, rfl⟩
  have hw := fun d (hd : d ∈ tables_1) => atoms_spec (ws := Jvm.Cond.code x code maxLocals ret :: tables_1) hat d (List.mem_cons_of_mem _ hd)
  have hfit : Fit s := fun {y c} hc i hi => by
    obtain ⟨ha, rfl⟩ := Array.getElem?_eq_some_iff.mp hc
    have q := List.all_eq_true.mp ((Array.all_eq_true_iff_forall_mem.mp hF) _ (Array.getElem_mem ha)) i (List.mem_range.mpr hi)
    simpa [Array.getElem?_eq_getElem hi] using q
  obtain ⟨i0, ei0⟩ := isL_v g2
  obtain rfl : w0 = (.long i0) := Option.some.inj ei0
  obtain ⟨n, o, h1, h2, h3, v, L, rfl, hQ, hq⟩ := rm0 l s _ hw tables_1 i0 s.heap s.heap.size (Nat.le_refl _) p e ha hc hk s m _ below hf ((Spec.applies_iff_loose hf).mp happ).1 ⟨rfl, State.Warmed39.refl s, rfl⟩ trivial
  have hv : v = some (.int (b2i (f0 i0))) := hQ.1
  rw [own_law i0] at hv
  subst hv
  have N : Fr s.heap.size L := by first | exact hQ.2.1 | exact hQ.2
  refine ⟨n, _, h1, h2, h3, hpost _ _ _ _ _ _ ⟨Cond.after_iff.mpr rfl, Cond.after_iff.mpr (eq_i res_at (Term.int_eval (1)) rfl), trivial⟩ ⟨hq.1, hq.2.1, (hq.2.2.sift fun y hy => Or.inr (N y hy)).mono (by decide) (by decide)⟩⟩
theorem main_1_1 : Claimed_1_1 := comes_1 fun _ _ _ _ _ _ h hF => ⟨h.1, hF⟩
theorem main_1_2 : Claimed_1_2 := comes_1 fun _ _ _ _ _ _ h hF => ⟨h.2.1, hF⟩
end Jvm.Pilot.@@N@@
namespace Jvm.Pilot.@@N@@
open Jvm Jvm.ClassFile Sem Op Lib Jvm.Free Jvm.Stand Jvm.Pilot.@@N@@.Jvm.D
/-! MADE BY PROGRAM (witnessworld.py) out of the Statement's table words and the real class files: 9 classes; the members and pool entries that the words name. The judged class is class 1, her method 2. -/
namespace start1
open Jvm.ClassFile
def u (s : String) : CpInfo := .utf8 (stringToUtf16 s)
/-- a pool by its gaps: so many unusable entries, then the entry; so many at the end -/
def gap : Nat → List CpInfo → List CpInfo
  | 0, r => r
  | n + 1, r => .unusable :: gap n r
def poolList (es : List (Nat × CpInfo)) (last : Nat) : List CpInfo := es.foldr (fun e r => gap e.1 (e.2 :: r)) (gap last [])
def pool (es : List (Nat × CpInfo)) (last : Nat) : Array CpInfo := ⟨poolList es last⟩
def fileOf (pool : Array CpInfo) (this : Nat) (attrs : Array Attribute := #[]) (ms : Array MethodInfo := #[]) (fl : Nat := 33) (sup : Nat := 0) (ifs : Array Nat := #[]) (fds : Array FieldInfo := #[]) : ClassFile where
  minorVersion := 0
  majorVersion := 65
  constantPool := pool
  accessFlags := fl
  thisClass := this
  superClass := sup
  interfaces := ifs
  fields := fds
  methods := ms
  attributes := attrs
def plain (name : String) (sup : Option ClassId) : Class where
  name := name
  kind := .ordinary
  loader := none
  accessFlags := 33
  super := sup
  interfaces := #[]
  cf := none
  fields := #[]
  methods := #[]
  instanceTypes := #[]
  staticTypes := #[]
  resolved := #[]
  callSites := []
  init := .initialized
  statics := none
  mirror := none

def pool0 : Array CpInfo := pool [(5, u "<init>"), (0, u "()V"), (1, .class_ 10), (1, u "java/lang/Object")] 113

def k0c0 : Code := { maxStack := 0, maxLocals := 1, code := object_method_1_code, exceptionTable := #[], attributes := #[] }
def k0m0 : Method := { name := "<init>", desc := "()V", sig := { parameters := [], returnType := none }, accessFlags := 1, code := some k0c0 }
/-- java/lang/Object -/
def k0 : Class := { plain "java/lang/Object" none with
  accessFlags := 33
  interfaces := #[]
  cf := some (fileOf pool0 8 #[] #[{ accessFlags := 1, nameIndex := 5, descriptorIndex := 6, attributes := #[] }] 33 0 #[] #[])
  fields := #[]
  methods := #[k0m0]
  instanceTypes := #[]
  staticTypes := #[]
  resolved := Array.replicate 124 none
  statics := none }

def pool1 : Array CpInfo := pool [(2, .class_ 4), (1, u "java/lang/Object"), (0, u "<init>"), (0, u "()V"), (2, .long 9223372036854775802), (1, .methodref 12 13), (0, .class_ 14), (0, .nameAndType 15 16), (0, u "org/trentasette/Spinner"), (0, u "next"), (0, u "()J"), (0, .long 37), (1, .methodref 12 20), (0, .nameAndType 5 21), (0, u "(J)V"), (0, .methodref 12 23), (0, .nameAndType 24 25), (0, u "spin"), (0, u "()I"), (0, .methodref 27 28), (0, .class_ 29), (0, .nameAndType 30 31), (0, u "org/trentasette/SpinnerSpinPinLaw"), (0, u "ref"), (0, u "(Lorg/trentasette/Spinner;)I"), (3, u "law"), (0, u "(J)Z")] 2

def k1m0 : Method := { name := "<init>", desc := "()V", sig := { parameters := [], returnType := none }, accessFlags := 2, code := none }
def k1c1 : Code := { maxStack := 4, maxLocals := 7, code := method_2_code, exceptionTable := #[], attributes := #[] }
def k1m1 : Method := { name := "ref", desc := "(Lorg/trentasette/Spinner;)I", sig := { parameters := [(.object "org/trentasette/Spinner")], returnType := some .int }, accessFlags := 10, code := some k1c1 }
def k1c2 : Code := { maxStack := 4, maxLocals := 8, code := code, exceptionTable := #[], attributes := #[] }
def k1m2 : Method := { name := "law", desc := "(J)Z", sig := { parameters := [.long], returnType := some .boolean }, accessFlags := 9, code := some k1c2 }
/-- org/trentasette/SpinnerSpinPinLaw -/
def k1 : Class := { plain "org/trentasette/SpinnerSpinPinLaw" (some 0) with
  accessFlags := 49
  interfaces := #[]
  cf := some (fileOf pool1 27 #[] #[{ accessFlags := 2, nameIndex := 5, descriptorIndex := 6, attributes := #[] }, { accessFlags := 10, nameIndex := 30, descriptorIndex := 31, attributes := #[] }, { accessFlags := 9, nameIndex := 35, descriptorIndex := 36, attributes := #[] }] 49 2 #[] #[])
  fields := #[]
  methods := #[k1m0, k1m1, k1m2]
  instanceTypes := #[]
  staticTypes := #[]
  resolved := Array.replicate 39 none
  statics := none }

def pool2 : Array CpInfo := pool [(5, .methodref 6 7), (0, .class_ 8), (0, .nameAndType 9 10), (0, u "java/lang/Object"), (0, u "<init>"), (0, u "()V"), (0, .fieldref 12 13), (0, .class_ 14), (0, .nameAndType 15 16), (0, u "org/trentasette/Spinner"), (0, u "state"), (0, u "J"), (0, .methodref 12 18), (0, .nameAndType 19 20), (0, u "next"), (0, u "()J"), (0, .long 9223372036854775802), (1, .long 37), (1, .long 11400714819323198485), (1, .long 13787848793156543929), (1, .long 10723151780598845931), (1, u "GAMMA"), (1, u "LIMIT"), (0, u "(J)V"), (2, u "spin"), (0, u "()I")] 3

def k2c0 : Code := { maxStack := 3, maxLocals := 3, code := prog_33_method_1_code, exceptionTable := #[], attributes := #[] }
def k2m0 : Method := { name := "<init>", desc := "(J)V", sig := { parameters := [.long], returnType := none }, accessFlags := 0, code := some k2c0 }
def k2c1 : Code := { maxStack := 4, maxLocals := 3, code := prog_33_method_2_code, exceptionTable := #[], attributes := #[] }
def k2m1 : Method := { name := "spin", desc := "()I", sig := { parameters := [], returnType := some .int }, accessFlags := 0, code := some k2c1 }
def k2c2 : Code := { maxStack := 5, maxLocals := 3, code := prog_33_method_3_code, exceptionTable := #[], attributes := #[] }
def k2m2 : Method := { name := "next", desc := "()J", sig := { parameters := [], returnType := some .long }, accessFlags := 0, code := some k2c2 }
/-- org/trentasette/Spinner -/
def k2 : Class := { plain "org/trentasette/Spinner" (some 0) with
  accessFlags := 48
  interfaces := #[]
  cf := some (fileOf pool2 12 #[] #[{ accessFlags := 0, nameIndex := 9, descriptorIndex := 34, attributes := #[] }, { accessFlags := 0, nameIndex := 37, descriptorIndex := 38, attributes := #[] }, { accessFlags := 0, nameIndex := 19, descriptorIndex := 20, attributes := #[] }] 48 6 #[] #[{ accessFlags := 26, nameIndex := 31, descriptorIndex := 16, attributes := #[] }, { accessFlags := 26, nameIndex := 33, descriptorIndex := 16, attributes := #[] }, { accessFlags := 2, nameIndex := 15, descriptorIndex := 16, attributes := #[] }])
  fields := #[{ name := "GAMMA", type := .long, accessFlags := 26, slot := 0, constantValue := 0 }, { name := "LIMIT", type := .long, accessFlags := 26, slot := 1, constantValue := 0 }, { name := "state", type := .long, accessFlags := 2, slot := 0, constantValue := 0 }]
  methods := #[k2m0, k2m1, k2m2]
  instanceTypes := #[.long]
  staticTypes := #[.long, .long]
  resolved := Array.replicate 42 none
  statics := none }

def pool3 : Array CpInfo := pool [(1, u "java/lang/Cloneable"), (0, .class_ 1), (0, u "java/lang/Object"), (0, .class_ 3)] 3

/-- java/lang/Cloneable -/
def k3 : Class := { plain "java/lang/Cloneable" (some 0) with
  accessFlags := 1537
  interfaces := #[]
  cf := some (fileOf pool3 2 #[] #[] 1537 4 #[] #[])
  fields := #[]
  methods := #[]
  instanceTypes := #[]
  staticTypes := #[]
  resolved := Array.replicate 8 none
  statics := none }

def pool4 : Array CpInfo := pool [(1, u "java/io/Serializable"), (0, .class_ 1), (0, u "java/lang/Object"), (0, .class_ 3)] 3

/-- java/io/Serializable -/
def k4 : Class := { plain "java/io/Serializable" (some 0) with
  accessFlags := 1537
  interfaces := #[]
  cf := some (fileOf pool4 2 #[] #[] 1537 4 #[] #[])
  fields := #[]
  methods := #[]
  instanceTypes := #[]
  staticTypes := #[]
  resolved := Array.replicate 8 none
  statics := none }

/-- the primitive byte -/
def k5 : Class := { plain "byte" none with kind := .primitive 'B', accessFlags := 0x411 }
/-- [B -/
def k6 : Class := { plain "[B" (some 0) with kind := .array 5 .byte, interfaces := #[3, 4], accessFlags := 1041 }

/-- the primitive int -/
def k7 : Class := { plain "int" none with kind := .primitive 'I', accessFlags := 0x411 }
/-- [I -/
def k8 : Class := { plain "[I" (some 0) with kind := .array 7 .int, interfaces := #[3, 4], accessFlags := 1041 }

def heap : Heap := #[]
def classes : Array Class := #[k0, k1, k2, k3, k4, k5, k6, k7, k8]
def interned : List (Array UInt16 × Addr) := []
def slotsUsed : Nat := 0
def theMethod : MethodId := ⟨1, 2⟩
def args0 : Array Value := #[.long 5]
def aboutOver (below : List Frame) : State where
  vm := { classes := classes, interned := interned.toArray }
  heap := heap
  slotsUsed := slotsUsed
  threads := #[{ frames := .invoking theMethod args0 :: below }]
def below0 : List Frame := [.native { method := ⟨0, 0⟩, args := #[] }]
def about1 : State := aboutOver below0
def p0 : Program := .bare "" "" ""
def e0 : Env := launch0.env 0 0 0
theorem w_frames : about1.frames = Frame.invoking theMethod args0 :: below0 := rfl
set_option maxRecDepth 65536 in
theorem w_args : argsFit about1.vm theMethod args0 = true := by decide +kernel
set_option maxRecDepth 65536 in
theorem w_heap : heapFits about1 = true := by decide +kernel
set_option maxRecDepth 65536 in
theorem w_runnable : about1.curStatus? = some .runnable := by decide +kernel
set_option maxRecDepth 65536 in
theorem w_alone : about1.alone = true := by decide +kernel
set_option maxRecDepth 65536 in
theorem w_named : about1.methodNamed? x = some theMethod := by decide +kernel
set_option maxRecDepth 65536 in
theorem w_hears : about1.hears theMethod below0 = true := by decide +kernel
set_option maxRecDepth 65536 in
theorem w_ripe : about1.ripe theMethod args0 below0 = true := by decide +kernel
theorem w_running : about1.status = .running := rfl
set_option maxRecDepth 65536 in
theorem w_room : about1.hasRoom e0.platform room_1 = true :=
  launch0.hasRoom_least _ room_1 (by decide +kernel) (by decide +kernel) (by decide +kernel) (by decide +kernel) (by decide +kernel) (by decide +kernel)
theorem allAtoms_all (ts : List Jvm.Cond) (a : Array Jvm.Value) (st : Jvm.State) : (allAtoms ts).before a st = ts.all (fun c => c.before a st) := by
  induction ts with
  | nil => rfl
  | cons c t ih =>
    show (Jvm.Cond.and c (allAtoms t)).before a st = _
    rw [Jvm.Cond.before_and, ih, List.all_cons]
def words1 : List Jvm.Cond := Jvm.Cond.code x code maxLocals ret :: tables_1
/-- a 'code' word, met by the world's own term for the bytes: nothing is compared byte by byte -/
theorem code_word {y : MethodName} {bytes : ByteArray} {mx : Nat} {rt : Option FieldType} {a : Array Value} {s : State} {m : MethodId} {meth : Method} {c : Code} (h1 : s.methodNamed? y = some m) (h2 : s.vm.method? m = some meth) (h3 : meth.code = some c) (h4 : c.code = bytes)
    (h5 : (c.maxLocals == mx && c.exceptionTable.isEmpty && decide (c.maxStack ≤ mostOperands) && decide (meth.sig.returnType = rt) && !meth.locks && decide (parseMethodDescriptor y.desc = some meth.sig)) = true) : (Jvm.Cond.code y bytes mx rt).before a s = true := by
  simp only [Bool.and_eq_true, beq_iff_eq, Bool.not_eq_true', decide_eq_true_eq] at h5
  obtain ⟨⟨⟨⟨⟨g1, g2⟩, g3⟩, g4⟩, g5⟩, g6⟩ := h5
  simp [Cond.before, Cond.holds, Cond.value, h1, h2, h3, h4, g1, g2, g3, g4, g5, g6]
def isCode : Jvm.Cond → Bool
  | .code _ _ _ _ => true
  | _ => false
theorem all_split {L : List Jvm.Cond} {P : Jvm.Cond → Bool} (h1 : L.all (fun c => isCode c || P c) = true) (h2 : ∀ c ∈ L.filter isCode, P c = true) : L.all P = true := by
  refine List.all_eq_true.mpr fun c hc => ?_
  have h := List.all_eq_true.mp h1 c hc
  rcases Bool.eq_false_or_eq_true (isCode c) with hi | hi
  · exact h2 c (List.mem_filter.mpr ⟨hc, hi⟩)
  · simpa [hi] using h
set_option maxRecDepth 65536 in
theorem w_c0 : (Jvm.Cond.code x code maxLocals ret).before args0 about1 = true := code_word (m := ⟨1, 2⟩) (meth := k1m2) (c := k1c2) (by decide +kernel) rfl rfl rfl (by decide +kernel)
set_option maxRecDepth 65536 in
theorem w_c1 : (Jvm.Cond.code ({ cls := "org/trentasette/Spinner", name := "<init>", desc := "(J)V" } : Jvm.MethodName) prog_33_method_1_code (3 : Nat) (Option.none : Option Jvm.ClassFile.FieldType)).before args0 about1 = true := code_word (m := ⟨2, 0⟩) (meth := k2m0) (c := k2c0) (by decide +kernel) rfl rfl rfl (by decide +kernel)
set_option maxRecDepth 65536 in
theorem w_c2 : (Jvm.Cond.code ({ cls := "java/lang/Object", name := "<init>", desc := "()V" } : Jvm.MethodName) object_method_1_code (1 : Nat) (Option.none : Option Jvm.ClassFile.FieldType)).before args0 about1 = true := code_word (m := ⟨0, 0⟩) (meth := k0m0) (c := k0c0) (by decide +kernel) rfl rfl rfl (by decide +kernel)
set_option maxRecDepth 65536 in
theorem w_c3 : (Jvm.Cond.code ({ cls := "org/trentasette/Spinner", name := "spin", desc := "()I" } : Jvm.MethodName) prog_33_method_2_code (3 : Nat) (Option.some Jvm.ClassFile.FieldType.int)).before args0 about1 = true := code_word (m := ⟨2, 1⟩) (meth := k2m1) (c := k2c1) (by decide +kernel) rfl rfl rfl (by decide +kernel)
set_option maxRecDepth 65536 in
theorem w_c4 : (Jvm.Cond.code ({ cls := "org/trentasette/Spinner", name := "next", desc := "()J" } : Jvm.MethodName) prog_33_method_3_code (3 : Nat) (Option.some Jvm.ClassFile.FieldType.long)).before args0 about1 = true := code_word (m := ⟨2, 2⟩) (meth := k2m2) (c := k2c2) (by decide +kernel) rfl rfl rfl (by decide +kernel)
set_option maxRecDepth 65536 in
theorem w_c5 : (Jvm.Cond.code ({ cls := "org/trentasette/SpinnerSpinPinLaw", name := "ref", desc := "(Lorg/trentasette/Spinner;)I" } : Jvm.MethodName) method_2_code (7 : Nat) (Option.some Jvm.ClassFile.FieldType.int)).before args0 about1 = true := code_word (m := ⟨1, 1⟩) (meth := k1m1) (c := k1c1) (by decide +kernel) rfl rfl rfl (by decide +kernel)
def codes1 : List Jvm.Cond := [Jvm.Cond.code x code maxLocals ret, Jvm.Cond.code ({ cls := "org/trentasette/Spinner", name := "<init>", desc := "(J)V" } : Jvm.MethodName) prog_33_method_1_code (3 : Nat) (Option.none : Option Jvm.ClassFile.FieldType), Jvm.Cond.code ({ cls := "java/lang/Object", name := "<init>", desc := "()V" } : Jvm.MethodName) object_method_1_code (1 : Nat) (Option.none : Option Jvm.ClassFile.FieldType), Jvm.Cond.code ({ cls := "org/trentasette/Spinner", name := "spin", desc := "()I" } : Jvm.MethodName) prog_33_method_2_code (3 : Nat) (Option.some Jvm.ClassFile.FieldType.int), Jvm.Cond.code ({ cls := "org/trentasette/Spinner", name := "next", desc := "()J" } : Jvm.MethodName) prog_33_method_3_code (3 : Nat) (Option.some Jvm.ClassFile.FieldType.long), Jvm.Cond.code ({ cls := "org/trentasette/SpinnerSpinPinLaw", name := "ref", desc := "(Lorg/trentasette/Spinner;)I" } : Jvm.MethodName) method_2_code (7 : Nat) (Option.some Jvm.ClassFile.FieldType.int)]
set_option maxRecDepth 65536 in
theorem codes_eq : words1.filter isCode = codes1 := rfl
theorem w_codes : ∀ c ∈ words1.filter isCode, c.before args0 about1 = true := by
  rw [codes_eq]
  intro c hc
  simp only [codes1, List.mem_cons, List.not_mem_nil, or_false] at hc
  rcases hc with rfl | rfl | rfl | rfl | rfl | rfl
  · exact w_c0
  · exact w_c1
  · exact w_c2
  · exact w_c3
  · exact w_c4
  · exact w_c5
set_option maxRecDepth 65536 in
theorem w_t1 : (words1.take 24).all (fun c => isCode c || c.before args0 about1) = true := by decide +kernel
set_option maxRecDepth 65536 in
theorem w_t2 : (words1.drop 24).all (fun c => isCode c || c.before args0 about1) = true := by decide +kernel
theorem w_tables : (allAtoms (Jvm.Cond.code x code maxLocals ret :: tables_1)).before args0 about1 = true := by
  rw [allAtoms_all]
  show words1.all (fun c => c.before args0 about1) = true
  refine all_split ?_ w_codes
  rw [← List.take_append_drop 24 words1, List.all_append, w_t1, w_t2]
  rfl
set_option maxRecDepth 65536 in
theorem w_case : (Jvm.Cond.and given_1 narrow_1).before args0 about1 = true := by decide +kernel
theorem w_applies : (headSpec (Jvm.Cond.code x code maxLocals ret :: tables_1) room_1).applies x e0.platform about1 = true :=
  (Spec.applies_iff w_frames).mpr ⟨w_running, w_runnable, w_alone, w_named, w_hears, w_ripe, w_room, w_tables⟩
theorem atStart : AtStart classFile x code maxLocals ret World_1 tables_1 room_1 Calls_1 rest_1 Pre_1 launch0 p0 e0 about1 theMethod args0 below0 :=
  ⟨lists_1, trivial, launch0.admits_env _ _ _, launch0.least_env, fairChoices_fair.cas, fairChoices_fair.clock, w_frames, w_args, w_heap, w_applies, trivial, trivial, w_case⟩
end start1
theorem witness_1 : WitnessClaimed_1 := ⟨start1.p0, start1.e0, start1.about1, start1.theMethod, start1.args0, start1.below0, start1.atStart⟩
end Jvm.Pilot.@@N@@
