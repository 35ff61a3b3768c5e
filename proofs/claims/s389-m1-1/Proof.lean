import JvmDerived
import JvmDerived.Pilot.@@N@@Statement
import JvmDerived.Pilot.@@N@@Code
set_option linter.unusedVariables false
set_option linter.unusedSimpArgs false
namespace Jvm.RoadKit
open Sem ClassFile Op Lib Jvm.Stand Jvm.Free Jvm.LawKit
section OwnKit
variable {p : Program} {l : Launch} {e : Env} {R : Room} {s : State} {m : MethodId} {args : Array Value} {below : List Frame} {meth : Method} {c : Code} {T : State} {locs : List Loc} {cells slots : Nat}
/-- a boolean as the machine's int -/
def b2i (b : Bool) : Int32 := bif b then 1 else 0
theorem b2i_t {b : Bool} (h : b = true) : ¬ b2i b = 0 := by subst h; decide
theorem b2i_f {b : Bool} (h : ¬ b = true) : b2i b = 0 := by cases b <;> first | rfl | exact absurd rfl h
theorem b2i_inj {a b : Bool} (h : b2i a = b2i b) : a = b := by cases a <;> cases b <;> first | rfl | exact absurd h (by decide)
theorem nar_b2i (b : Bool) : nar .boolean (b2i b) = b2i b := by cases b <;> decide
/-- from the state U the walk comes to an end that P holds of -/
def Go (tb : Tables) (e : Env) (below : List Frame) (P : Outcome → State → Prop) (U : State) : Prop := ∃ s₂ o, Steps tb e below U s₂ ∧ s₂.status = .running ∧ Ended s₂ below o ∧ P o s₂
theorem Go.back {tb : Tables} {P : Outcome → State → Prop} {U V : State} (h : ∀ t, Steps tb e below V t → Steps tb e below U t) (k : Go tb e below P V) : Go tb e below P U := by
  obtain ⟨s2, o, h1, h2⟩ := k
  exact ⟨s2, o, h _ h1, h2⟩
theorem Go.trans {tb : Tables} {P : Outcome → State → Prop} {U V : State} (h : Steps tb e below U V) (k : Go tb e below P V) : Go tb e below P U := by
  obtain ⟨s2, o, h1, h2⟩ := k
  exact ⟨s2, o, Steps.trans h h1, h2⟩
abbrev Fin (s : State) (Q : Option Value → Heap → List Loc → Prop) (K S : Nat) : Outcome → State → Prop := fun o U' => ∃ v L, o = .returned v ∧ Q v U'.heap L ∧ FrameEnd s o U' L K S
theorem retI0 (X : Stand p l e R s m args below meth c T locs cells slots) (hx : p.tables.exec = Jvm.exec) {pc : Nat} {Ls : Array Slot} {z : Int32} {rest : List Value} (hret : meth.sig.returnType = some .int) (hd : decode c.code pc = .ok (.ireturn, 1)) {fs : List Frame}
    (hl : ∀ (f : JFrame) (acts : List Action), f.method = m → f.locked = none → f.entered = [] → (doReturn e (T.setTop f) acts (some (.int z))).1 = T.setFrames fs) : Steps p.tables e below (T.setTop (mkF m pc Ls (.int z :: rest))) (T.setFrames fs) := by
  have hm' : T.vm.method? m = some meth := X.method'
  have hn : narrow .int (.int z) = .int z := rfl
  show Steps p.tables e below (T.setTop { method := m, pc := pc, locals := Ls, stack := _ :: rest, locked := none }) _
  jvm_step X.here [X.here.top, hx, hd, hm', hret, hn]
  first | (intro acts; rw [hl _ acts rfl rfl rfl]) | rw [hl _ _ rfl rfl rfl]
  exact Steps.refl _
theorem Go.retI (X : Stand p l e R s m args below meth c T locs cells slots) (hx : p.tables.exec = Jvm.exec) {pc : Nat} {Ls : Array Slot} {z : Int32} {rest : List Value} (hret : meth.sig.returnType = some .int) (hd : decode c.code pc = .ok (.ireturn, 1)) (hlk : meth.locks = false) {Q : Option Value → Heap → List Loc → Prop} {K S : Nat} (hQ : Q (some (.int z)) T.heap locs) (hc : cells ≤ K) (hs : slots ≤ S) :
    Go p.tables e below (Fin s Q K S) (T.setTop (mkF m pc Ls (.int z :: rest))) := by
  obtain ⟨fs, hr, hrun, hended, hW, hsame⟩ := X.leave (v := some (.int z)) (fun h => by rw [hret] at h; cases h) hlk
  exact ⟨_, _, retI0 X hx hret hd hr, hrun, hended, _, _, rfl, hQ, ⟨_, rfl⟩, hW, hsame.mono hc hs⟩
theorem Go.retN (X : Stand p l e R s m args below meth c T locs cells slots) (hx : p.tables.exec = Jvm.exec) {pc : Nat} {Ls : Array Slot} {z : Int32} {rest : List Value} {t : FieldType} (hret : meth.sig.returnType = some t) (ht : t = .boolean ∨ t = .byte ∨ t = .char ∨ t = .short) (hd : decode c.code pc = .ok (.ireturn, 1)) (hlk : meth.locks = false) {Q : Option Value → Heap → List Loc → Prop} {K S : Nat} (hQ : Q (some (.int (nar t z))) T.heap locs) (hc : cells ≤ K) (hs : slots ≤ S) :
    Go p.tables e below (Fin s Q K S) (T.setTop (mkF m pc Ls (.int z :: rest))) := by
  obtain ⟨fs, hr, hrun, hended, hW, hsame⟩ := X.leave (v := some (.int (nar t z))) (fun h => by rw [hret] at h; cases h) hlk
  exact ⟨_, _, Jvm.RoadKit.retN X hx hret ht hd hr, hrun, hended, _, _, rfl, hQ, ⟨_, rfl⟩, hW, hsame.mono hc hs⟩
theorem Go.retB (X : Stand p l e R s m args below meth c T locs cells slots) (hx : p.tables.exec = Jvm.exec) {pc : Nat} {Ls : Array Slot} {b : Bool} {rest : List Value} (hret : meth.sig.returnType = some .boolean) (hd : decode c.code pc = .ok (.ireturn, 1)) (hlk : meth.locks = false) {Q : Option Value → Heap → List Loc → Prop} {K S : Nat} (hQ : Q (some (.int (b2i b))) T.heap locs) (hc : cells ≤ K) (hs : slots ≤ S) :
    Go p.tables e below (Fin s Q K S) (T.setTop (mkF m pc Ls (.int (b2i b) :: rest))) := Go.retN X hx hret (Or.inl rfl) hd hlk (by rw [nar_b2i]; exact hQ) hc hs
theorem Go.retJ (X : Stand p l e R s m args below meth c T locs cells slots) (hx : p.tables.exec = Jvm.exec) {pc : Nat} {Ls : Array Slot} {z : Int64} (hret : meth.sig.returnType = some .long) (hd : decode c.code pc = .ok (.lreturn, 1)) (hlk : meth.locks = false) {Q : Option Value → Heap → List Loc → Prop} {K S : Nat} (hQ : Q (some (.long z)) T.heap locs) (hc : cells ≤ K) (hs : slots ≤ S) :
    Go p.tables e below (Fin s Q K S) (T.setTop (mkF m pc Ls [.long z])) := by
  obtain ⟨fs, hr, hrun, hended, hW, hsame⟩ := X.leave (v := some (.long z)) (fun h => by rw [hret] at h; cases h) hlk
  exact ⟨_, _, X.lreturnOut hx hret hd hr, hrun, hended, _, _, rfl, hQ, ⟨_, rfl⟩, hW, hsame.mono hc hs⟩
theorem Go.retR (X : Stand p l e R s m args below meth c T locs cells slots) (hx : p.tables.exec = Jvm.exec) {pc : Nat} {Ls : Array Slot} {a : Addr} {t : FieldType} (hret : meth.sig.returnType = some t) (ht : t.isReference = true) (hd : decode c.code pc = .ok (.areturn, 1)) (hlk : meth.locks = false) {Q : Option Value → Heap → List Loc → Prop} {K S : Nat} (hQ : Q (some (.ref a)) T.heap locs) (hc : cells ≤ K) (hs : slots ≤ S) :
    Go p.tables e below (Fin s Q K S) (T.setTop (mkF m pc Ls [.ref a])) := by
  obtain ⟨fs, hr, hrun, hended, hW, hsame⟩ := X.leave (v := some (.ref a)) (fun h => by rw [hret] at h; cases h) hlk
  exact ⟨_, _, X.areturnOut hx rfl hret ht hd hr, hrun, hended, _, _, rfl, hQ, ⟨_, rfl⟩, hW, hsame.mono hc hs⟩
theorem Go.retV (X : Stand p l e R s m args below meth c T locs cells slots) (hx : p.tables.exec = Jvm.exec) {pc : Nat} {Ls : Array Slot} (hret : meth.sig.returnType = none) (hd : decode c.code pc = .ok (.return_, 1)) (hlk : meth.locks = false) {Q : Option Value → Heap → List Loc → Prop} {K S : Nat} (hQ : Q none T.heap locs) (hc : cells ≤ K) (hs : slots ≤ S) :
    Go p.tables e below (Fin s Q K S) (T.setTop (mkF m pc Ls [])) := by
  obtain ⟨fs, hr, hrun, hended, hW, hsame⟩ := X.leave (v := none) (fun _ => rfl) hlk
  exact ⟨_, _, X.returnOut hx hret hd hr, hrun, hended, _, _, rfl, hQ, ⟨_, rfl⟩, hW, hsame.mono hc hs⟩
theorem lremM {g : JFrame} {target : State} (X : Stand p l e R s m args below meth c T locs cells slots) (hx : p.tables.exec = Jvm.exec) (hg : g.method = m) {x y : Int64} {rest : List Value} (hd : decode c.code g.pc = .ok (.lrem, 1)) (hs : g.stack = .long y :: .long x :: rest) (hy : y ≠ 0)
    (hr : Steps p.tables e below (T.setTop { g with pc := g.pc + 1, stack := .long (x % y) :: rest }) target) : Steps p.tables e below (T.setTop g) target :=
  XS.lrem X.here hx hg hd hs hy (by rw [lrem_mod x y]; exact hr)
theorem storeS_i {ls l' : Array Slot} {k : Nat} {o : Slot} {x : Int32} (hold : ls[k]? = some o) (h : One o) (q : ls.setIfInBounds k (.val (.int x)) = l') : storeLocals ls k (.int x) = some l' := by
  rw [XS.store1 hold h rfl, q]
theorem storeS_a {ls l' : Array Slot} {k : Nat} {o : Slot} {a : Addr} (hold : ls[k]? = some o) (h : One o) (q : ls.setIfInBounds k (.val (.ref a)) = l') : storeLocals ls k (.ref a) = some l' := by
  rw [XS.store1 hold h rfl, q]
end OwnKit
section OwnArr
variable {p : Program} {l : Launch} {e : Env} {R : Room} {s : State} {m : MethodId} {args : Array Value} {below : List Frame} {meth : Method} {c : Code} {T : State} {locs : List Loc} {cells slots : Nat} {Z : State} {h h' : Heap} {a b : Addr} {ty : FieldType} {vs : List Value} {v : Value} {sl : Nat} {ws : List Addr}
/-- the array at a, of the kind ty, holds just this list -/
def ArL (Z : State) (h : Heap) (a : Addr) (ty : FieldType) (vs : List Value) : Prop := ∃ c : Cell, Arr Z h a c ty ∧ c.slots.toList = vs
theorem ArL.lt (F : ArL Z h a ty vs) : a < h.size := by obtain ⟨c, A, -⟩ := F; exact A.lt
theorem ArL.ext (F : ArL Z h a ty vs) (E : Ext h h') : ArL Z h' a ty vs := by obtain ⟨c, A, r⟩ := F; exact ⟨c, A.ext E, r⟩
theorem ArL.other (F : ArL Z h b ty vs) (W : Wr h h' a sl v) (q : b ≠ a) : ArL Z h' b ty vs := by obtain ⟨c, A, r⟩ := F; exact ⟨c, A.other W q, r⟩
theorem ArL.keep (F : ArL Z h a ty vs) (K : Keep h h' ws) (q : a ∉ ws) : ArL Z h' a ty vs := by obtain ⟨c, A, r⟩ := F; exact ⟨c, ⟨K.2.1 a c A.1 q, A.2⟩, r⟩
theorem ArL.new {k : ClassId} {z : Int32} (A : Arr Z h a (newA k ty z) ty) {n : Nat} (q : z.toNatClampNeg = n) : ArL Z h a ty (List.replicate n (defaultValue ty)) := ⟨_, A, by subst q; simp [newA]⟩
theorem ArL.set (F : ArL Z h a ty vs) (W : Wr h h' a sl v) : ArL Z h' a ty (vs.set sl v) := by
  obtain ⟨c, A, r⟩ := F
  exact ⟨_, A.same W, by subst r; simp [Cell.setSlot]⟩
/-- a place of it: what a load and a store ask -/
theorem ArL.at (F : ArL Z h a ty vs) {j : Int32} (h0 : ¬ j < 0) (hj : j.toNatClampNeg < vs.length) : ∃ c : Cell, Arr Z h a c ty ∧ ¬ (j < 0 ∨ c.slots.size ≤ j.toNatClampNeg) ∧ c.slots[j.toNatClampNeg]? = some (vs[j.toNatClampNeg]'hj) := by
  obtain ⟨c, A, rfl⟩ := F
  have q : j.toNatClampNeg < c.slots.size := by simpa using hj
  refine ⟨c, A, fun z => z.elim h0 (fun y => absurd q (Nat.not_lt.mpr y)), ?_⟩
  rw [Array.getElem?_eq_getElem q]
  simp
theorem ArL.get (F : ArL Z h a ty vs) {j : Int32} (h0 : ¬ j < 0) (hv : vs[j.toNatClampNeg]? = some v) : ∃ c : Cell, Arr Z h a c ty ∧ ¬ (j < 0 ∨ c.slots.size ≤ j.toNatClampNeg) ∧ c.slots[j.toNatClampNeg]? = some v := by
  obtain ⟨hj, rfl⟩ := List.getElem?_eq_some_iff.mp hv
  exact F.at h0 hj
theorem ArL.setI {xs : List Int32} {x : Int32} {i : Nat} (F : ArL Z h a ty (List.map Value.int xs)) (W : Wr h h' a i (.int x)) : ArL Z h' a ty (List.map Value.int (xs.set i x)) := by
  rw [List.map_set]; exact F.set W
theorem ArL.setJ {xs : List Int64} {x : Int64} {i : Nat} (F : ArL Z h a ty (List.map Value.long xs)) (W : Wr h h' a i (.long x)) : ArL Z h' a ty (List.map Value.long (xs.set i x)) := by
  rw [List.map_set]; exact F.set W
theorem ArL.newI {k : ClassId} {z : Int32} (A : Arr Z h a (newA k ty z) ty) {n : Nat} (q : z.toNatClampNeg = n) (hd : defaultValue ty = .int 0 := by rfl) : ArL Z h a ty (List.map Value.int (List.replicate n (0 : Int32))) := by
  rw [List.map_replicate, ← hd]; exact ArL.new A q
theorem ArL.newJ {k : ClassId} {z : Int32} (A : Arr Z h a (newA k ty z) ty) {n : Nat} (q : z.toNatClampNeg = n) (hd : defaultValue ty = .long 0 := by rfl) : ArL Z h a ty (List.map Value.long (List.replicate n (0 : Int64))) := by
  rw [List.map_replicate, ← hd]; exact ArL.new A q
theorem getI (xs : List Int32) {i : Nat} (q : i < xs.length) : (List.map Value.int xs)[i]? = some (.int (xs.getD i 0)) := by
  rw [List.getElem?_map, List.getD_eq_getElem?_getD, List.getElem?_eq_getElem q]; rfl
theorem getJ (xs : List Int64) {i : Nat} (q : i < xs.length) : (List.map Value.long xs)[i]? = some (.long (xs.getD i 0)) := by
  rw [List.getElem?_map, List.getD_eq_getElem?_getD, List.getElem?_eq_getElem q]; rfl
theorem ArL.len (F : ArL Z h a ty vs) : ∃ c : Cell, Arr Z h a c ty ∧ c.slots.size = vs.length := by
  obtain ⟨c, A, rfl⟩ := F
  exact ⟨c, A, by simp⟩
end OwnArr
end Jvm.RoadKit
namespace Jvm.Pilot.@@N@@
open Jvm Jvm.ClassFile Sem Op Lib Jvm.Free Jvm.Stand Jvm.LawKit Jvm.RoadKit Bundle Jvm.Pilot.@@N@@.Jvm.D
theorem pd_0 : parseMethodDescriptor "(C)Z" = some ⟨[.char], some .boolean⟩ := by decide +kernel
theorem d1_0 : decode prog_5_method_4_code 0 = .ok (.iload_n 0, 1) := by decide +kernel
theorem d1_1 : decode prog_5_method_4_code 1 = .ok (.bipush 9, 2) := by decide +kernel
theorem d1_3 : decode prog_5_method_4_code 3 = .ok (.if_icmp .eq 29, 3) := by decide +kernel
theorem d1_6 : decode prog_5_method_4_code 6 = .ok (.iload_n 0, 1) := by decide +kernel
theorem d1_7 : decode prog_5_method_4_code 7 = .ok (.bipush 32, 2) := by decide +kernel
theorem d1_9 : decode prog_5_method_4_code 9 = .ok (.if_icmp .lt 9, 3) := by decide +kernel
theorem d1_12 : decode prog_5_method_4_code 12 = .ok (.iload_n 0, 1) := by decide +kernel
theorem d1_13 : decode prog_5_method_4_code 13 = .ok (.bipush 126, 2) := by decide +kernel
theorem d1_15 : decode prog_5_method_4_code 15 = .ok (.if_icmp .le 17, 3) := by decide +kernel
theorem d1_18 : decode prog_5_method_4_code 18 = .ok (.iload_n 0, 1) := by decide +kernel
theorem d1_19 : decode prog_5_method_4_code 19 = .ok (.sipush 128, 3) := by decide +kernel
theorem d1_22 : decode prog_5_method_4_code 22 = .ok (.if_icmp .lt 14, 3) := by decide +kernel
theorem d1_25 : decode prog_5_method_4_code 25 = .ok (.iload_n 0, 1) := by decide +kernel
theorem d1_26 : decode prog_5_method_4_code 26 = .ok (.sipush 255, 3) := by decide +kernel
theorem d1_29 : decode prog_5_method_4_code 29 = .ok (.if_icmp .gt 7, 3) := by decide +kernel
theorem d1_32 : decode prog_5_method_4_code 32 = .ok (.iconst 1, 1) := by decide +kernel
theorem d1_33 : decode prog_5_method_4_code 33 = .ok (.goto 4, 3) := by decide +kernel
theorem d1_36 : decode prog_5_method_4_code 36 = .ok (.iconst 0, 1) := by decide +kernel
theorem d1_37 : decode prog_5_method_4_code 37 = .ok (.ireturn, 1) := by decide +kernel
def f1 (p0 : Int32) : Bool := (let z3 : Bool := (if p0 = (9 : Int32) then true else (if p0 < (32 : Int32) then (if p0 < (128 : Int32) then false else (if (255 : Int32) < p0 then false else true)) else (if (126 : Int32) < p0 then (if p0 < (128 : Int32) then false else (if (255 : Int32) < p0 then false else true)) else true))); z3)
def Q1 (p0 : Int32) (h0 : Heap) (n0 : Nat) (v : Option Value) (h : Heap) (L : List Loc) : Prop := v = some (.int (b2i (f1 p0))) ∧ Fr n0 L ∧ h = h0
abbrev rmm1 : Room := { frames := 0, cells := 0, slots := 0, locals := 0 }
abbrev P1 (p0 : Int32) (h0 : Heap) (n0 : Nat) (s : State) : Outcome → State → Prop := fun o U' => ∃ v L, o = .returned v ∧ Q1 p0 h0 n0 v U'.heap L ∧ FrameEnd s o U' L rmm1.cells rmm1.slots
theorem pn_1 : plainName "com/example/paylode/paylode/header/HeaderSyntax" = true := by first | (simp [plainName, overriddenIn]; done) | decide +kernel
theorem ef_1 (m : MethodId) (p0 : Int32) : entryFrame m #[(.int p0)] 1 = mkF m 0 #[.val (.int p0)] [] := by first | (simp [entryFrame, mkF, argsToLocals, Value.category]; done) | rfl
set_option maxRecDepth 65536 in
set_option maxHeartbeats 40000000 in
theorem rm1 (l : Launch) (Z : State) (a0 : Array Value) (hw : ∀ d ∈ tables_1, d.before a0 Z = true) (ws : List Jvm.Cond) (p0 : Int32) (h0 : Heap) (n0 : Nat) :
    MetFree l (⟨"com/example/paylode/paylode/header/HeaderSyntax", "isQuotable", "(C)Z"⟩ : MethodName) (head1 (Jvm.Cond.code (⟨"com/example/paylode/paylode/header/HeaderSyntax", "isQuotable", "(C)Z"⟩ : MethodName) prog_5_method_4_code 1 (some .boolean) :: ws) rmm1) (fun a U => a = #[(.int p0)] ∧ Z.Warmed39 U.vm ∧ U.heap = h0) (fun _ _ _ _ _ => True) (fun _ U o U' => ∃ v L, o = .returned v ∧ Q1 p0 h0 n0 v U'.heap L ∧ FrameEnd U o U' L rmm1.cells rmm1.slots) := by
  refine MetFree.of_bodySF (plainFor_of_name pn_1) hisR ?_
  intro p e s m args below meth c s₁ Bd hml0 hP hK
  obtain ⟨rfl, hZ, hh⟩ := hP
  have hx := Bd.exec
  have hby := Bd.bytes
  have hml : c.maxLocals = 1 := hml0
  have hown : s.vm.findClass "com/example/paylode/paylode/header/HeaderSyntax" = some m.cls := findClass_of_methodNamed Bd.named
  have hnm := (name_of_methodNamed Bd.named Bd.method).1
  have X0 : Stand p l e rmm1 s m #[(.int p0)] below meth c s₁ [] 0 0 := Stand.of_body Bd
  have e0 : s₁.heap = h0 := by rw [← hh, Bd.state]; rfl
  have N0 := Fr.nil n0
  show Go p.tables e below (P1 p0 h0 n0 s) (s₁.setTop (entryFrame m #[(.int p0)] 1))
  refine Go.back (fun t k => castTop (ef_1 m p0) k) ?_
  show Go p.tables e below (P1 p0 h0 n0 s) (s₁.setTop (mkF m 0 #[.val (.int p0)] []))
  have hf : f1 p0 = (let z3 : Bool := (if p0 = (9 : Int32) then true else (if p0 < (32 : Int32) then (if p0 < (128 : Int32) then false else (if (255 : Int32) < p0 then false else true)) else (if (126 : Int32) < p0 then (if p0 < (128 : Int32) then false else (if (255 : Int32) < p0 then false else true)) else true))); z3) := rfl
  refine Go.back (fun t k => XS.iloadN X0.here hx rfl (hb hby d1_0) rfl  k) ?_
  show Go p.tables e below (P1 p0 h0 n0 s) (s₁.setTop (mkF m 1 #[.val (.int p0)] [(.int p0)]))
  refine Go.back (fun t k => XS.bipush X0.here hx rfl (hb hby d1_1) k) ?_
  show Go p.tables e below (P1 p0 h0 n0 s) (s₁.setTop (mkF m 3 #[.val (.int p0)] [(.int (9 : Int32)), (.int p0)]))
  have J2 : ∀ (z3 : Bool) (hz3 : z3 = (if p0 = (9 : Int32) then true else (if p0 < (32 : Int32) then (if p0 < (128 : Int32) then false else (if (255 : Int32) < p0 then false else true)) else (if (126 : Int32) < p0 then (if p0 < (128 : Int32) then false else (if (255 : Int32) < p0 then false else true)) else true)))), Go p.tables e below (P1 p0 h0 n0 s) (s₁.setTop (mkF m 37 #[.val (.int p0)] [(.int (b2i z3))])) := by
    intro z3 hz3
    have r4 : f1 p0 = z3 := by subst hz3; exact hf
    show Go p.tables e below (P1 p0 h0 n0 s) (s₁.setTop (mkF m 37 #[.val (.int p0)] [(.int (b2i z3))]))
    exact Go.retB (b := z3) X0 hx Bd.returns (hb hby d1_37) Bd.notSynchronized ⟨by rw [r4], N0, e0⟩ (by decide) (by decide)
  have r5 : (if p0 = (9 : Int32) then true else (if p0 < (32 : Int32) then (if p0 < (128 : Int32) then false else (if (255 : Int32) < p0 then false else true)) else (if (126 : Int32) < p0 then (if p0 < (128 : Int32) then false else (if (255 : Int32) < p0 then false else true)) else true))) = (if p0 = (9 : Int32) then true else (if p0 < (32 : Int32) then (if p0 < (128 : Int32) then false else (if (255 : Int32) < p0 then false else true)) else (if (126 : Int32) < p0 then (if p0 < (128 : Int32) then false else (if (255 : Int32) < p0 then false else true)) else true))) := rfl
  by_cases hc1 : p0 = (9 : Int32)
  · have r6 := r5.trans (if_pos hc1)
    refine Go.back (fun t k => XS.icmpYes X0.here hx rfl (pc0 := 3) (pc' := 32) rfl (hb hby d1_3) rfl (teq hc1).1 (by decide) (by decide) k) ?_
    show Go p.tables e below (P1 p0 h0 n0 s) (s₁.setTop (mkF m 32 #[.val (.int p0)] []))
    refine Go.back (fun t k => XS.iconst X0.here hx rfl (hb hby d1_32) k) ?_
    show Go p.tables e below (P1 p0 h0 n0 s) (s₁.setTop (mkF m 33 #[.val (.int p0)] [(.int (1 : Int32))]))
    refine Go.back (fun t k => XS.goto X0.here hx rfl (pc0 := 33) (pc' := 37) rfl (hb hby d1_33) (by decide) (by decide) k) ?_
    show Go p.tables e below (P1 p0 h0 n0 s) (s₁.setTop (mkF m 37 #[.val (.int p0)] [(.int (1 : Int32))]))
    exact J2 true r6.symm
  · have r7 := r5.trans (if_neg hc1)
    refine Go.back (fun t k => XS.icmpNo X0.here hx rfl (hb hby d1_3) rfl (feq hc1).1 k) ?_
    show Go p.tables e below (P1 p0 h0 n0 s) (s₁.setTop (mkF m 6 #[.val (.int p0)] []))
    refine Go.back (fun t k => XS.iloadN X0.here hx rfl (hb hby d1_6) rfl  k) ?_
    show Go p.tables e below (P1 p0 h0 n0 s) (s₁.setTop (mkF m 7 #[.val (.int p0)] [(.int p0)]))
    refine Go.back (fun t k => XS.bipush X0.here hx rfl (hb hby d1_7) k) ?_
    show Go p.tables e below (P1 p0 h0 n0 s) (s₁.setTop (mkF m 9 #[.val (.int p0)] [(.int (32 : Int32)), (.int p0)]))
    by_cases hc8 : p0 < (32 : Int32)
    · have r9 := r7.trans (if_pos hc8)
      refine Go.back (fun t k => XS.icmpYes X0.here hx rfl (pc0 := 9) (pc' := 18) rfl (hb hby d1_9) rfl (tlt hc8).1 (by decide) (by decide) k) ?_
      show Go p.tables e below (P1 p0 h0 n0 s) (s₁.setTop (mkF m 18 #[.val (.int p0)] []))
      refine Go.back (fun t k => XS.iloadN X0.here hx rfl (hb hby d1_18) rfl  k) ?_
      show Go p.tables e below (P1 p0 h0 n0 s) (s₁.setTop (mkF m 19 #[.val (.int p0)] [(.int p0)]))
      refine Go.back (fun t k => XS.sipush X0.here hx rfl (hb hby d1_19) k) ?_
      show Go p.tables e below (P1 p0 h0 n0 s) (s₁.setTop (mkF m 22 #[.val (.int p0)] [(.int (128 : Int32)), (.int p0)]))
      by_cases hc10 : p0 < (128 : Int32)
      · have r11 := r9.trans (if_pos hc10)
        refine Go.back (fun t k => XS.icmpYes X0.here hx rfl (pc0 := 22) (pc' := 36) rfl (hb hby d1_22) rfl (tlt hc10).1 (by decide) (by decide) k) ?_
        show Go p.tables e below (P1 p0 h0 n0 s) (s₁.setTop (mkF m 36 #[.val (.int p0)] []))
        refine Go.back (fun t k => XS.iconst X0.here hx rfl (hb hby d1_36) k) ?_
        show Go p.tables e below (P1 p0 h0 n0 s) (s₁.setTop (mkF m 37 #[.val (.int p0)] [(.int (0 : Int32))]))
        exact J2 false r11.symm
      · have r12 := r9.trans (if_neg hc10)
        refine Go.back (fun t k => XS.icmpNo X0.here hx rfl (hb hby d1_22) rfl (flt hc10).1 k) ?_
        show Go p.tables e below (P1 p0 h0 n0 s) (s₁.setTop (mkF m 25 #[.val (.int p0)] []))
        refine Go.back (fun t k => XS.iloadN X0.here hx rfl (hb hby d1_25) rfl  k) ?_
        show Go p.tables e below (P1 p0 h0 n0 s) (s₁.setTop (mkF m 26 #[.val (.int p0)] [(.int p0)]))
        refine Go.back (fun t k => XS.sipush X0.here hx rfl (hb hby d1_26) k) ?_
        show Go p.tables e below (P1 p0 h0 n0 s) (s₁.setTop (mkF m 29 #[.val (.int p0)] [(.int (255 : Int32)), (.int p0)]))
        by_cases hc13 : (255 : Int32) < p0
        · have r14 := r12.trans (if_pos hc13)
          refine Go.back (fun t k => XS.icmpYes X0.here hx rfl (pc0 := 29) (pc' := 36) rfl (hb hby d1_29) rfl (tlt hc13).2.2.1 (by decide) (by decide) k) ?_
          show Go p.tables e below (P1 p0 h0 n0 s) (s₁.setTop (mkF m 36 #[.val (.int p0)] []))
          refine Go.back (fun t k => XS.iconst X0.here hx rfl (hb hby d1_36) k) ?_
          show Go p.tables e below (P1 p0 h0 n0 s) (s₁.setTop (mkF m 37 #[.val (.int p0)] [(.int (0 : Int32))]))
          exact J2 false r14.symm
        · have r15 := r12.trans (if_neg hc13)
          refine Go.back (fun t k => XS.icmpNo X0.here hx rfl (hb hby d1_29) rfl (flt hc13).2.2.1 k) ?_
          show Go p.tables e below (P1 p0 h0 n0 s) (s₁.setTop (mkF m 32 #[.val (.int p0)] []))
          refine Go.back (fun t k => XS.iconst X0.here hx rfl (hb hby d1_32) k) ?_
          show Go p.tables e below (P1 p0 h0 n0 s) (s₁.setTop (mkF m 33 #[.val (.int p0)] [(.int (1 : Int32))]))
          refine Go.back (fun t k => XS.goto X0.here hx rfl (pc0 := 33) (pc' := 37) rfl (hb hby d1_33) (by decide) (by decide) k) ?_
          show Go p.tables e below (P1 p0 h0 n0 s) (s₁.setTop (mkF m 37 #[.val (.int p0)] [(.int (1 : Int32))]))
          exact J2 true r15.symm
    · have r16 := r7.trans (if_neg hc8)
      refine Go.back (fun t k => XS.icmpNo X0.here hx rfl (hb hby d1_9) rfl (flt hc8).1 k) ?_
      show Go p.tables e below (P1 p0 h0 n0 s) (s₁.setTop (mkF m 12 #[.val (.int p0)] []))
      refine Go.back (fun t k => XS.iloadN X0.here hx rfl (hb hby d1_12) rfl  k) ?_
      show Go p.tables e below (P1 p0 h0 n0 s) (s₁.setTop (mkF m 13 #[.val (.int p0)] [(.int p0)]))
      refine Go.back (fun t k => XS.bipush X0.here hx rfl (hb hby d1_13) k) ?_
      show Go p.tables e below (P1 p0 h0 n0 s) (s₁.setTop (mkF m 15 #[.val (.int p0)] [(.int (126 : Int32)), (.int p0)]))
      by_cases hc17 : (126 : Int32) < p0
      · have r18 := r16.trans (if_pos hc17)
        refine Go.back (fun t k => XS.icmpNo X0.here hx rfl (hb hby d1_15) rfl (tlt hc17).2.2.2 k) ?_
        show Go p.tables e below (P1 p0 h0 n0 s) (s₁.setTop (mkF m 18 #[.val (.int p0)] []))
        refine Go.back (fun t k => XS.iloadN X0.here hx rfl (hb hby d1_18) rfl  k) ?_
        show Go p.tables e below (P1 p0 h0 n0 s) (s₁.setTop (mkF m 19 #[.val (.int p0)] [(.int p0)]))
        refine Go.back (fun t k => XS.sipush X0.here hx rfl (hb hby d1_19) k) ?_
        show Go p.tables e below (P1 p0 h0 n0 s) (s₁.setTop (mkF m 22 #[.val (.int p0)] [(.int (128 : Int32)), (.int p0)]))
        by_cases hc19 : p0 < (128 : Int32)
        · have r20 := r18.trans (if_pos hc19)
          refine Go.back (fun t k => XS.icmpYes X0.here hx rfl (pc0 := 22) (pc' := 36) rfl (hb hby d1_22) rfl (tlt hc19).1 (by decide) (by decide) k) ?_
          show Go p.tables e below (P1 p0 h0 n0 s) (s₁.setTop (mkF m 36 #[.val (.int p0)] []))
          refine Go.back (fun t k => XS.iconst X0.here hx rfl (hb hby d1_36) k) ?_
          show Go p.tables e below (P1 p0 h0 n0 s) (s₁.setTop (mkF m 37 #[.val (.int p0)] [(.int (0 : Int32))]))
          exact J2 false r20.symm
        · have r21 := r18.trans (if_neg hc19)
          refine Go.back (fun t k => XS.icmpNo X0.here hx rfl (hb hby d1_22) rfl (flt hc19).1 k) ?_
          show Go p.tables e below (P1 p0 h0 n0 s) (s₁.setTop (mkF m 25 #[.val (.int p0)] []))
          refine Go.back (fun t k => XS.iloadN X0.here hx rfl (hb hby d1_25) rfl  k) ?_
          show Go p.tables e below (P1 p0 h0 n0 s) (s₁.setTop (mkF m 26 #[.val (.int p0)] [(.int p0)]))
          refine Go.back (fun t k => XS.sipush X0.here hx rfl (hb hby d1_26) k) ?_
          show Go p.tables e below (P1 p0 h0 n0 s) (s₁.setTop (mkF m 29 #[.val (.int p0)] [(.int (255 : Int32)), (.int p0)]))
          by_cases hc22 : (255 : Int32) < p0
          · have r23 := r21.trans (if_pos hc22)
            refine Go.back (fun t k => XS.icmpYes X0.here hx rfl (pc0 := 29) (pc' := 36) rfl (hb hby d1_29) rfl (tlt hc22).2.2.1 (by decide) (by decide) k) ?_
            show Go p.tables e below (P1 p0 h0 n0 s) (s₁.setTop (mkF m 36 #[.val (.int p0)] []))
            refine Go.back (fun t k => XS.iconst X0.here hx rfl (hb hby d1_36) k) ?_
            show Go p.tables e below (P1 p0 h0 n0 s) (s₁.setTop (mkF m 37 #[.val (.int p0)] [(.int (0 : Int32))]))
            exact J2 false r23.symm
          · have r24 := r21.trans (if_neg hc22)
            refine Go.back (fun t k => XS.icmpNo X0.here hx rfl (hb hby d1_29) rfl (flt hc22).2.2.1 k) ?_
            show Go p.tables e below (P1 p0 h0 n0 s) (s₁.setTop (mkF m 32 #[.val (.int p0)] []))
            refine Go.back (fun t k => XS.iconst X0.here hx rfl (hb hby d1_32) k) ?_
            show Go p.tables e below (P1 p0 h0 n0 s) (s₁.setTop (mkF m 33 #[.val (.int p0)] [(.int (1 : Int32))]))
            refine Go.back (fun t k => XS.goto X0.here hx rfl (pc0 := 33) (pc' := 37) rfl (hb hby d1_33) (by decide) (by decide) k) ?_
            show Go p.tables e below (P1 p0 h0 n0 s) (s₁.setTop (mkF m 37 #[.val (.int p0)] [(.int (1 : Int32))]))
            exact J2 true r24.symm
      · have r25 := r16.trans (if_neg hc17)
        refine Go.back (fun t k => XS.icmpYes X0.here hx rfl (pc0 := 15) (pc' := 32) rfl (hb hby d1_15) rfl (flt hc17).2.2.2 (by decide) (by decide) k) ?_
        show Go p.tables e below (P1 p0 h0 n0 s) (s₁.setTop (mkF m 32 #[.val (.int p0)] []))
        refine Go.back (fun t k => XS.iconst X0.here hx rfl (hb hby d1_32) k) ?_
        show Go p.tables e below (P1 p0 h0 n0 s) (s₁.setTop (mkF m 33 #[.val (.int p0)] [(.int (1 : Int32))]))
        refine Go.back (fun t k => XS.goto X0.here hx rfl (pc0 := 33) (pc' := 37) rfl (hb hby d1_33) (by decide) (by decide) k) ?_
        show Go p.tables e below (P1 p0 h0 n0 s) (s₁.setTop (mkF m 37 #[.val (.int p0)] [(.int (1 : Int32))]))
        exact J2 true r25.symm
def f0 (p0 : Int32) : Bool := (let z2 : Int32 := ((p0).toUInt32.toUInt16.toUInt32.toInt32); (let z6 : Bool := (if (255 : Int32) < z2 then true else (if z2 = (127 : Int32) then true else (if z2 < (32 : Int32) then (if z2 = (9 : Int32) then false else true) else false))); (let z11 : Bool := (if z6 = true then false else true); (let z15 : Bool := (if (f1 z2) = z11 then true else false); z15))))
def Q0 (p0 : Int32) (h0 : Heap) (n0 : Nat) (v : Option Value) (h : Heap) (L : List Loc) : Prop := v = some (.int (b2i (f0 p0))) ∧ Fr n0 L ∧ h = h0
abbrev P0 (p0 : Int32) (h0 : Heap) (n0 : Nat) (s : State) : Outcome → State → Prop := fun o U' => ∃ v L, o = .returned v ∧ Q0 p0 h0 n0 v U'.heap L ∧ FrameEnd s o U' L room_1.cells room_1.slots
theorem pn_0 : plainName "com/example/paylode/paylode/header/HeaderSyntaxIsQuotablePinLaw" = true := by first | (simp [plainName, overriddenIn]; done) | decide +kernel
theorem ef_0 (m : MethodId) (p0 : Int32) : entryFrame m #[(.int p0)] maxLocals = mkF m 0 #[.val (.int p0), .unset, .unset, .unset] [] := by first | (simp [entryFrame, mkF, argsToLocals, Value.category, maxLocals]; done) | rfl
set_option maxRecDepth 65536 in
set_option maxHeartbeats 40000000 in
theorem rm0 (l : Launch) (Z : State) (a0 : Array Value) (hw : ∀ d ∈ tables_1, d.before a0 Z = true) (ws : List Jvm.Cond) (p0 : Int32) (h0 : Heap) (n0 : Nat) :
    MetFree l x (head1 (Jvm.Cond.code x code maxLocals ret :: ws) room_1) (fun a U => a = #[(.int p0)] ∧ Z.Warmed39 U.vm ∧ U.heap = h0) (fun _ _ _ _ _ => True) (fun _ U o U' => ∃ v L, o = .returned v ∧ Q0 p0 h0 n0 v U'.heap L ∧ FrameEnd U o U' L room_1.cells room_1.slots) := by
  refine MetFree.of_bodySF (plainFor_of_name pn_0) hisR ?_
  intro p e s m args below meth c s₁ Bd hml0 hP hK
  obtain ⟨rfl, hZ, hh⟩ := hP
  have hx := Bd.exec
  have hby := Bd.bytes
  have hml : c.maxLocals = 4 := hml0
  have hown : s.vm.findClass "com/example/paylode/paylode/header/HeaderSyntaxIsQuotablePinLaw" = some m.cls := findClass_of_methodNamed Bd.named
  have hnm := (name_of_methodNamed Bd.named Bd.method).1
  have X0 : Stand p l e room_1 s m #[(.int p0)] below meth c s₁ [] 0 0 := Stand.of_body Bd
  have e0 : s₁.heap = h0 := by rw [← hh, Bd.state]; rfl
  have N0 := Fr.nil n0
  show Go p.tables e below (P0 p0 h0 n0 s) (s₁.setTop (entryFrame m #[(.int p0)] maxLocals))
  refine Go.back (fun t k => castTop (ef_0 m p0) k) ?_
  show Go p.tables e below (P0 p0 h0 n0 s) (s₁.setTop (mkF m 0 #[.val (.int p0), .unset, .unset, .unset] []))
  have hf : f0 p0 = (let z2 : Int32 := ((p0).toUInt32.toUInt16.toUInt32.toInt32); (let z6 : Bool := (if (255 : Int32) < z2 then true else (if z2 = (127 : Int32) then true else (if z2 < (32 : Int32) then (if z2 = (9 : Int32) then false else true) else false))); (let z11 : Bool := (if z6 = true then false else true); (let z15 : Bool := (if (f1 z2) = z11 then true else false); z15)))) := rfl
  refine Go.back (fun t k => XS.iloadN X0.here hx rfl (hb hby at_0) rfl  k) ?_
  show Go p.tables e below (P0 p0 h0 n0 s) (s₁.setTop (mkF m 1 #[.val (.int p0), .unset, .unset, .unset] [(.int p0)]))
  refine Go.back (fun t k => XS.i2c X0.here hx rfl (hb hby at_1) rfl k) ?_
  show Go p.tables e below (P0 p0 h0 n0 s) (s₁.setTop (mkF m 2 #[.val (.int p0), .unset, .unset, .unset] [(.int ((p0).toUInt32.toUInt16.toUInt32.toInt32))]))
  refine Go.back (fun t k => XS.istoreN X0.here hx rfl (hb hby at_2) rfl (l' := #[.val (.int p0), .val (.int ((p0).toUInt32.toUInt16.toUInt32.toInt32)), .unset, .unset]) rfl k) ?_
  show Go p.tables e below (P0 p0 h0 n0 s) (s₁.setTop (mkF m 3 #[.val (.int p0), .val (.int ((p0).toUInt32.toUInt16.toUInt32.toInt32)), .unset, .unset] []))
  have J1 : ∀ (z2 : Int32) (hz2 : z2 = ((p0).toUInt32.toUInt16.toUInt32.toInt32)), Go p.tables e below (P0 p0 h0 n0 s) (s₁.setTop (mkF m 3 #[.val (.int p0), .val (.int z2), .unset, .unset] [])) := by
    intro z2 hz2
    have r3 : f0 p0 = (let z6 : Bool := (if (255 : Int32) < z2 then true else (if z2 = (127 : Int32) then true else (if z2 < (32 : Int32) then (if z2 = (9 : Int32) then false else true) else false))); (let z11 : Bool := (if z6 = true then false else true); (let z15 : Bool := (if (f1 z2) = z11 then true else false); z15))) := by subst hz2; exact hf
    show Go p.tables e below (P0 p0 h0 n0 s) (s₁.setTop (mkF m 3 #[.val (.int p0), .val (.int z2), .unset, .unset] []))
    refine Go.back (fun t k => XS.iloadN X0.here hx rfl (hb hby at_3) rfl  k) ?_
    show Go p.tables e below (P0 p0 h0 n0 s) (s₁.setTop (mkF m 4 #[.val (.int p0), .val (.int z2), .unset, .unset] [(.int z2)]))
    refine Go.back (fun t k => XS.istoreN X0.here hx rfl (hb hby at_4) rfl (l' := #[.val (.int p0), .val (.int z2), .val (.int z2), .unset]) rfl k) ?_
    show Go p.tables e below (P0 p0 h0 n0 s) (s₁.setTop (mkF m 5 #[.val (.int p0), .val (.int z2), .val (.int z2), .unset] []))
    refine Go.back (fun t k => XS.iloadN X0.here hx rfl (hb hby at_5) rfl  k) ?_
    show Go p.tables e below (P0 p0 h0 n0 s) (s₁.setTop (mkF m 6 #[.val (.int p0), .val (.int z2), .val (.int z2), .unset] [(.int z2)]))
    refine Go.back (fun t k => XS.sipush X0.here hx rfl (hb hby at_6) k) ?_
    show Go p.tables e below (P0 p0 h0 n0 s) (s₁.setTop (mkF m 9 #[.val (.int p0), .val (.int z2), .val (.int z2), .unset] [(.int (255 : Int32)), (.int z2)]))
    have J5 : ∀ (z6 : Bool) (hz6 : z6 = (if (255 : Int32) < z2 then true else (if z2 = (127 : Int32) then true else (if z2 < (32 : Int32) then (if z2 = (9 : Int32) then false else true) else false)))), Go p.tables e below (P0 p0 h0 n0 s) (s₁.setTop (mkF m 35 #[.val (.int p0), .val (.int z2), .val (.int z2), .unset] [(.int (b2i z6))])) := by
      intro z6 hz6
      have r7 : f0 p0 = (let z11 : Bool := (if z6 = true then false else true); (let z15 : Bool := (if (f1 z2) = z11 then true else false); z15)) := by subst hz6; exact r3
      show Go p.tables e below (P0 p0 h0 n0 s) (s₁.setTop (mkF m 35 #[.val (.int p0), .val (.int z2), .val (.int z2), .unset] [(.int (b2i z6))]))
      refine Go.back (fun t k => XS.istoreN X0.here hx rfl (hb hby at_35) rfl (l' := #[.val (.int p0), .val (.int z2), .val (.int z2), .val (.int (b2i z6))]) rfl k) ?_
      show Go p.tables e below (P0 p0 h0 n0 s) (s₁.setTop (mkF m 36 #[.val (.int p0), .val (.int z2), .val (.int z2), .val (.int (b2i z6))] []))
      refine Go.back (fun t k => XS.iloadN X0.here hx rfl (hb hby at_36) rfl  k) ?_
      show Go p.tables e below (P0 p0 h0 n0 s) (s₁.setTop (mkF m 37 #[.val (.int p0), .val (.int z2), .val (.int z2), .val (.int (b2i z6))] [(.int z2)]))
      obtain ⟨_, _, ⟨T8, L8, k8, n8⟩, -, X8, ⟨Lc8, hQ8, l8, y8, z8⟩, st8⟩ := Jvm.LawKit.callS X0 hx (y := (⟨"com/example/paylode/paylode/header/HeaderSyntax", "isQuotable", "(C)Z"⟩ : MethodName)) hown (mvT hZ (hw _ (List.mem_of_getElem? (i := 0) rfl))) (mvT hZ (hw _ (List.mem_of_getElem? (i := 1) rfl))) (mvT hZ (hw _ (List.mem_of_getElem? (i := 2) rfl))) (mvT hZ (hw _ (List.mem_of_getElem? (i := 3) rfl))) (by decide) (backOf (W := 0) (rm1 l Z a0 hw [] z2 h0 n0) hZ (hw _ (List.mem_of_getElem? (i := 3) rfl)) (hw _ (List.mem_of_getElem? (i := 2) rfl)) (by decide) (by decide)) (g := (mkF m 37 #[.val (.int p0), .val (.int z2), .val (.int z2), .val (.int (b2i z6))] [(.int z2)])) rfl (by rw [hml]; rfl) (argsL := [(.int z2)]) (rest := []) (lenOf pd_0 rfl) rfl (by show 2 * 0 + _ ≤ _; exact Nat.le_of_eq rfl) (hb hby at_37) (fun _ _ => ⟨rfl, e0, (by decide : 0 + 0 ≤ _), (by decide : 0 + 0 ≤ _)⟩)
      dsimp only [Pt.U, Pt.locs, Pt.cells, Pt.slots] at X8 l8 y8 z8 st8 hQ8
      subst l8 y8 z8
      obtain ⟨rfl, N8q, e8⟩ := hQ8
      have N8 := Fr.app N0 N8q
      refine Go.back st8 ?_
      show Go p.tables e below (P0 p0 h0 n0 s) (T8.setTop (mkF m 40 #[.val (.int p0), .val (.int z2), .val (.int z2), .val (.int (b2i z6))] [(.int (b2i (f1 z2)))]))
      refine Go.back (fun t k => XS.iloadN X8.here hx rfl (hb hby at_40) rfl  k) ?_
      show Go p.tables e below (P0 p0 h0 n0 s) (T8.setTop (mkF m 41 #[.val (.int p0), .val (.int z2), .val (.int z2), .val (.int (b2i z6))] [(.int (b2i z6)), (.int (b2i (f1 z2)))]))
      have J10 : ∀ (z11 : Bool) (hz11 : z11 = (if z6 = true then false else true)), Go p.tables e below (P0 p0 h0 n0 s) (T8.setTop (mkF m 49 #[.val (.int p0), .val (.int z2), .val (.int z2), .val (.int (b2i z6))] [(.int (b2i z11)), (.int (b2i (f1 z2)))])) := by
        intro z11 hz11
        have r12 : f0 p0 = (let z15 : Bool := (if (f1 z2) = z11 then true else false); z15) := by subst hz11; exact r7
        show Go p.tables e below (P0 p0 h0 n0 s) (T8.setTop (mkF m 49 #[.val (.int p0), .val (.int z2), .val (.int z2), .val (.int (b2i z6))] [(.int (b2i z11)), (.int (b2i (f1 z2)))]))
        have J14 : ∀ (z15 : Bool) (hz15 : z15 = (if (f1 z2) = z11 then true else false)), Go p.tables e below (P0 p0 h0 n0 s) (T8.setTop (mkF m 57 #[.val (.int p0), .val (.int z2), .val (.int z2), .val (.int (b2i z6))] [(.int (b2i z15))])) := by
          intro z15 hz15
          have r16 : f0 p0 = z15 := by subst hz15; exact r12
          show Go p.tables e below (P0 p0 h0 n0 s) (T8.setTop (mkF m 57 #[.val (.int p0), .val (.int z2), .val (.int z2), .val (.int (b2i z6))] [(.int (b2i z15))]))
          exact Go.retB (b := z15) X8 hx Bd.returns (hb hby at_57) Bd.notSynchronized ⟨by rw [r16], N8, e8⟩ (by decide) (by decide)
        have r17 : (if (f1 z2) = z11 then true else false) = (if (f1 z2) = z11 then true else false) := rfl
        by_cases hc13 : (f1 z2) = z11
        · have r18 := r17.trans (if_pos hc13)
          refine Go.back (fun t k => XS.icmpNo X8.here hx rfl (hb hby at_49) rfl (teq (congrArg b2i hc13)).2 k) ?_
          show Go p.tables e below (P0 p0 h0 n0 s) (T8.setTop (mkF m 52 #[.val (.int p0), .val (.int z2), .val (.int z2), .val (.int (b2i z6))] []))
          refine Go.back (fun t k => XS.iconst X8.here hx rfl (hb hby at_52) k) ?_
          show Go p.tables e below (P0 p0 h0 n0 s) (T8.setTop (mkF m 53 #[.val (.int p0), .val (.int z2), .val (.int z2), .val (.int (b2i z6))] [(.int (1 : Int32))]))
          refine Go.back (fun t k => XS.goto X8.here hx rfl (pc0 := 53) (pc' := 57) rfl (hb hby at_53) (by decide) (by decide) k) ?_
          show Go p.tables e below (P0 p0 h0 n0 s) (T8.setTop (mkF m 57 #[.val (.int p0), .val (.int z2), .val (.int z2), .val (.int (b2i z6))] [(.int (1 : Int32))]))
          exact J14 true r18.symm
        · have r19 := r17.trans (if_neg hc13)
          refine Go.back (fun t k => XS.icmpYes X8.here hx rfl (pc0 := 49) (pc' := 56) rfl (hb hby at_49) rfl (feq (fun q => hc13 (b2i_inj q))).2 (by decide) (by decide) k) ?_
          show Go p.tables e below (P0 p0 h0 n0 s) (T8.setTop (mkF m 56 #[.val (.int p0), .val (.int z2), .val (.int z2), .val (.int (b2i z6))] []))
          refine Go.back (fun t k => XS.iconst X8.here hx rfl (hb hby at_56) k) ?_
          show Go p.tables e below (P0 p0 h0 n0 s) (T8.setTop (mkF m 57 #[.val (.int p0), .val (.int z2), .val (.int z2), .val (.int (b2i z6))] [(.int (0 : Int32))]))
          exact J14 false r19.symm
      have r20 : (if z6 = true then false else true) = (if z6 = true then false else true) := rfl
      by_cases hc9 : z6 = true
      · have r21 := r20.trans (if_pos hc9)
        refine Go.back (fun t k => XS.ifYes X8.here hx rfl (pc0 := 41) (pc' := 48) rfl (hb hby at_41) rfl ((if0 _ _).trans (feq (b2i_t hc9)).2) (by decide) (by decide) k) ?_
        show Go p.tables e below (P0 p0 h0 n0 s) (T8.setTop (mkF m 48 #[.val (.int p0), .val (.int z2), .val (.int z2), .val (.int (b2i z6))] [(.int (b2i (f1 z2)))]))
        refine Go.back (fun t k => XS.iconst X8.here hx rfl (hb hby at_48) k) ?_
        show Go p.tables e below (P0 p0 h0 n0 s) (T8.setTop (mkF m 49 #[.val (.int p0), .val (.int z2), .val (.int z2), .val (.int (b2i z6))] [(.int (0 : Int32)), (.int (b2i (f1 z2)))]))
        exact J10 false r21.symm
      · have r22 := r20.trans (if_neg hc9)
        refine Go.back (fun t k => XS.ifNo X8.here hx rfl (hb hby at_41) rfl ((if0 _ _).trans (teq (b2i_f hc9)).2) k) ?_
        show Go p.tables e below (P0 p0 h0 n0 s) (T8.setTop (mkF m 44 #[.val (.int p0), .val (.int z2), .val (.int z2), .val (.int (b2i z6))] [(.int (b2i (f1 z2)))]))
        refine Go.back (fun t k => XS.iconst X8.here hx rfl (hb hby at_44) k) ?_
        show Go p.tables e below (P0 p0 h0 n0 s) (T8.setTop (mkF m 45 #[.val (.int p0), .val (.int z2), .val (.int z2), .val (.int (b2i z6))] [(.int (1 : Int32)), (.int (b2i (f1 z2)))]))
        refine Go.back (fun t k => XS.goto X8.here hx rfl (pc0 := 45) (pc' := 49) rfl (hb hby at_45) (by decide) (by decide) k) ?_
        show Go p.tables e below (P0 p0 h0 n0 s) (T8.setTop (mkF m 49 #[.val (.int p0), .val (.int z2), .val (.int z2), .val (.int (b2i z6))] [(.int (1 : Int32)), (.int (b2i (f1 z2)))]))
        exact J10 true r22.symm
    have r23 : (if (255 : Int32) < z2 then true else (if z2 = (127 : Int32) then true else (if z2 < (32 : Int32) then (if z2 = (9 : Int32) then false else true) else false))) = (if (255 : Int32) < z2 then true else (if z2 = (127 : Int32) then true else (if z2 < (32 : Int32) then (if z2 = (9 : Int32) then false else true) else false))) := rfl
    by_cases hc4 : (255 : Int32) < z2
    · have r24 := r23.trans (if_pos hc4)
      refine Go.back (fun t k => XS.icmpYes X0.here hx rfl (pc0 := 9) (pc' := 30) rfl (hb hby at_9) rfl (tlt hc4).2.2.1 (by decide) (by decide) k) ?_
      show Go p.tables e below (P0 p0 h0 n0 s) (s₁.setTop (mkF m 30 #[.val (.int p0), .val (.int z2), .val (.int z2), .unset] []))
      refine Go.back (fun t k => XS.iconst X0.here hx rfl (hb hby at_30) k) ?_
      show Go p.tables e below (P0 p0 h0 n0 s) (s₁.setTop (mkF m 31 #[.val (.int p0), .val (.int z2), .val (.int z2), .unset] [(.int (1 : Int32))]))
      refine Go.back (fun t k => XS.goto X0.here hx rfl (pc0 := 31) (pc' := 35) rfl (hb hby at_31) (by decide) (by decide) k) ?_
      show Go p.tables e below (P0 p0 h0 n0 s) (s₁.setTop (mkF m 35 #[.val (.int p0), .val (.int z2), .val (.int z2), .unset] [(.int (1 : Int32))]))
      exact J5 true r24.symm
    · have r25 := r23.trans (if_neg hc4)
      refine Go.back (fun t k => XS.icmpNo X0.here hx rfl (hb hby at_9) rfl (flt hc4).2.2.1 k) ?_
      show Go p.tables e below (P0 p0 h0 n0 s) (s₁.setTop (mkF m 12 #[.val (.int p0), .val (.int z2), .val (.int z2), .unset] []))
      refine Go.back (fun t k => XS.iloadN X0.here hx rfl (hb hby at_12) rfl  k) ?_
      show Go p.tables e below (P0 p0 h0 n0 s) (s₁.setTop (mkF m 13 #[.val (.int p0), .val (.int z2), .val (.int z2), .unset] [(.int z2)]))
      refine Go.back (fun t k => XS.bipush X0.here hx rfl (hb hby at_13) k) ?_
      show Go p.tables e below (P0 p0 h0 n0 s) (s₁.setTop (mkF m 15 #[.val (.int p0), .val (.int z2), .val (.int z2), .unset] [(.int (127 : Int32)), (.int z2)]))
      by_cases hc26 : z2 = (127 : Int32)
      · have r27 := r25.trans (if_pos hc26)
        refine Go.back (fun t k => XS.icmpYes X0.here hx rfl (pc0 := 15) (pc' := 30) rfl (hb hby at_15) rfl (teq hc26).1 (by decide) (by decide) k) ?_
        show Go p.tables e below (P0 p0 h0 n0 s) (s₁.setTop (mkF m 30 #[.val (.int p0), .val (.int z2), .val (.int z2), .unset] []))
        refine Go.back (fun t k => XS.iconst X0.here hx rfl (hb hby at_30) k) ?_
        show Go p.tables e below (P0 p0 h0 n0 s) (s₁.setTop (mkF m 31 #[.val (.int p0), .val (.int z2), .val (.int z2), .unset] [(.int (1 : Int32))]))
        refine Go.back (fun t k => XS.goto X0.here hx rfl (pc0 := 31) (pc' := 35) rfl (hb hby at_31) (by decide) (by decide) k) ?_
        show Go p.tables e below (P0 p0 h0 n0 s) (s₁.setTop (mkF m 35 #[.val (.int p0), .val (.int z2), .val (.int z2), .unset] [(.int (1 : Int32))]))
        exact J5 true r27.symm
      · have r28 := r25.trans (if_neg hc26)
        refine Go.back (fun t k => XS.icmpNo X0.here hx rfl (hb hby at_15) rfl (feq hc26).1 k) ?_
        show Go p.tables e below (P0 p0 h0 n0 s) (s₁.setTop (mkF m 18 #[.val (.int p0), .val (.int z2), .val (.int z2), .unset] []))
        refine Go.back (fun t k => XS.iloadN X0.here hx rfl (hb hby at_18) rfl  k) ?_
        show Go p.tables e below (P0 p0 h0 n0 s) (s₁.setTop (mkF m 19 #[.val (.int p0), .val (.int z2), .val (.int z2), .unset] [(.int z2)]))
        refine Go.back (fun t k => XS.bipush X0.here hx rfl (hb hby at_19) k) ?_
        show Go p.tables e below (P0 p0 h0 n0 s) (s₁.setTop (mkF m 21 #[.val (.int p0), .val (.int z2), .val (.int z2), .unset] [(.int (32 : Int32)), (.int z2)]))
        by_cases hc29 : z2 < (32 : Int32)
        · have r30 := r28.trans (if_pos hc29)
          refine Go.back (fun t k => XS.icmpNo X0.here hx rfl (hb hby at_21) rfl (tlt hc29).2.1 k) ?_
          show Go p.tables e below (P0 p0 h0 n0 s) (s₁.setTop (mkF m 24 #[.val (.int p0), .val (.int z2), .val (.int z2), .unset] []))
          refine Go.back (fun t k => XS.iloadN X0.here hx rfl (hb hby at_24) rfl  k) ?_
          show Go p.tables e below (P0 p0 h0 n0 s) (s₁.setTop (mkF m 25 #[.val (.int p0), .val (.int z2), .val (.int z2), .unset] [(.int z2)]))
          refine Go.back (fun t k => XS.bipush X0.here hx rfl (hb hby at_25) k) ?_
          show Go p.tables e below (P0 p0 h0 n0 s) (s₁.setTop (mkF m 27 #[.val (.int p0), .val (.int z2), .val (.int z2), .unset] [(.int (9 : Int32)), (.int z2)]))
          by_cases hc31 : z2 = (9 : Int32)
          · have r32 := r30.trans (if_pos hc31)
            refine Go.back (fun t k => XS.icmpYes X0.here hx rfl (pc0 := 27) (pc' := 34) rfl (hb hby at_27) rfl (teq hc31).1 (by decide) (by decide) k) ?_
            show Go p.tables e below (P0 p0 h0 n0 s) (s₁.setTop (mkF m 34 #[.val (.int p0), .val (.int z2), .val (.int z2), .unset] []))
            refine Go.back (fun t k => XS.iconst X0.here hx rfl (hb hby at_34) k) ?_
            show Go p.tables e below (P0 p0 h0 n0 s) (s₁.setTop (mkF m 35 #[.val (.int p0), .val (.int z2), .val (.int z2), .unset] [(.int (0 : Int32))]))
            exact J5 false r32.symm
          · have r33 := r30.trans (if_neg hc31)
            refine Go.back (fun t k => XS.icmpNo X0.here hx rfl (hb hby at_27) rfl (feq hc31).1 k) ?_
            show Go p.tables e below (P0 p0 h0 n0 s) (s₁.setTop (mkF m 30 #[.val (.int p0), .val (.int z2), .val (.int z2), .unset] []))
            refine Go.back (fun t k => XS.iconst X0.here hx rfl (hb hby at_30) k) ?_
            show Go p.tables e below (P0 p0 h0 n0 s) (s₁.setTop (mkF m 31 #[.val (.int p0), .val (.int z2), .val (.int z2), .unset] [(.int (1 : Int32))]))
            refine Go.back (fun t k => XS.goto X0.here hx rfl (pc0 := 31) (pc' := 35) rfl (hb hby at_31) (by decide) (by decide) k) ?_
            show Go p.tables e below (P0 p0 h0 n0 s) (s₁.setTop (mkF m 35 #[.val (.int p0), .val (.int z2), .val (.int z2), .unset] [(.int (1 : Int32))]))
            exact J5 true r33.symm
        · have r34 := r28.trans (if_neg hc29)
          refine Go.back (fun t k => XS.icmpYes X0.here hx rfl (pc0 := 21) (pc' := 34) rfl (hb hby at_21) rfl (flt hc29).2.1 (by decide) (by decide) k) ?_
          show Go p.tables e below (P0 p0 h0 n0 s) (s₁.setTop (mkF m 34 #[.val (.int p0), .val (.int z2), .val (.int z2), .unset] []))
          refine Go.back (fun t k => XS.iconst X0.here hx rfl (hb hby at_34) k) ?_
          show Go p.tables e below (P0 p0 h0 n0 s) (s₁.setTop (mkF m 35 #[.val (.int p0), .val (.int z2), .val (.int z2), .unset] [(.int (0 : Int32))]))
          exact J5 false r34.symm
  exact J1 _ rfl
theorem own_law (p0 : Int32) : f0 p0 = true := by
  unfold f0 f1
  generalize p0.toUInt32.toUInt16.toUInt32.toInt32 = c
  have l9 : (9 : Int32).toInt = 9 := rfl
  have l32 : (32 : Int32).toInt = 32 := rfl
  have l126 : (126 : Int32).toInt = 126 := rfl
  have l127 : (127 : Int32).toInt = 127 := rfl
  have l128 : (128 : Int32).toInt = 128 := rfl
  have l255 : (255 : Int32).toInt = 255 := rfl
  simp only [Int32.lt_iff_toInt_lt, ← Int32.toInt_inj, l9, l32, l126, l127, l128, l255]
  generalize c.toInt = n
  repeat' split
  all_goals first | rfl | (exfalso; omega) | simp_all | (exfalso; simp_all; omega)
set_option maxRecDepth 65536 in
set_option maxHeartbeats 40000000 in
theorem comes_1 {Post : Tables → Env → Array Value → State → Outcome → State → Prop} (hpost : ∀ tb e args s v u, (limb_1_1.after args s (.returned v) u = true ∧ limb_1_2.after args s (.returned v) u = true ∧ True) → FrameEnd s (.returned v) u (Jvm.fieldLocs frame_1_writes args s ++ Jvm.arrayLocs frame_1_arrays args s ++ Jvm.staticLocs frame_1_statics s) 0 0 → Post tb e args s (.returned v) u) :
    ArmFor flags0 classFile x code maxLocals ret World_1 tables_1 room_1 Calls_1 rest_1 Pre_1 Post := by
  intro l hfl _ _ p e ha hc hk s m args below hf hA hF happ hP
  obtain ⟨hcalls, hrest, hpre⟩ := hP
  obtain ⟨-, -, -, hnamed, -, -, -, hat⟩ := (Spec.applies_iff hf).mp happ
  obtain ⟨hg, hn⟩ := and_e (Cond.before_iff.mp (show (Jvm.Cond.and given_1 narrow_1).before args s = true from hpre))
  obtain ⟨g1, g2⟩ := and_e hg
  obtain ⟨w0, rfl⟩ : ∃ w0 : Value, args = #[w0] := by
    have hs : args.size = 1 := by simpa [Cond.value, given_1] using g1
    obtain ⟨L⟩ := args
    match L, hs with
    | [w0], _ => exact ⟨w0, rfl⟩
  have hw := fun d (hd : d ∈ tables_1) => atoms_spec (ws := Jvm.Cond.code x code maxLocals ret :: tables_1) hat d (List.mem_cons_of_mem _ hd)
  have hfit : Fit s := fun {y c} hc i hi => by
    obtain ⟨ha, rfl⟩ := Array.getElem?_eq_some_iff.mp hc
    have q := List.all_eq_true.mp ((Array.all_eq_true_iff_forall_mem.mp hF) _ (Array.getElem_mem ha)) i (List.mem_range.mpr hi)
    simpa [Array.getElem?_eq_getElem hi] using q
  obtain ⟨i0, ei0⟩ := is_v g2
  obtain rfl : w0 = (.int i0) := Option.some.inj ei0
  obtain ⟨n, o, h1, h2, h3, v, L, rfl, hQ, hq⟩ := rm0 l s _ hw tables_1 i0 s.heap s.heap.size p e ha hc hk s m _ below hf ((Spec.applies_iff_loose hf).mp happ).1 ⟨rfl, State.Warmed39.refl s, rfl⟩ trivial
  have hv : v = some (.int (b2i (f0 i0))) := hQ.1
  rw [own_law i0] at hv
  subst hv
  have N := hQ.2.1
  refine ⟨n, _, h1, h2, h3, hpost _ _ _ _ _ _ ⟨Cond.after_iff.mpr rfl, Cond.after_iff.mpr (eq_i res_at (Term.int_eval (1)) rfl), trivial⟩ ⟨hq.1, hq.2.1, (hq.2.2.sift fun y hy => Or.inr (N y hy)).mono (by decide) (by decide)⟩⟩
theorem main_1_1 : Claimed_1_1 := comes_1 fun _ _ _ _ _ _ h hF => ⟨h.1, hF⟩
theorem main_1_2 : Claimed_1_2 := comes_1 fun _ _ _ _ _ _ h hF => ⟨h.2.1, hF⟩
end Jvm.Pilot.@@N@@
namespace Jvm.Pilot.@@N@@
open Jvm Jvm.ClassFile Sem Op Lib Jvm.Free Jvm.Stand Jvm.Pilot.@@N@@.Jvm.D
/-! MADE BY PROGRAM (witnessworld.py) out of the Statement's table words and the real class files: 9 classes; the members and pool entries that the words name. The judged class is class 1, her method 1. -/
namespace start1
open Jvm.ClassFile
def u (s : String) : CpInfo := .utf8 (stringToUtf16 s)
/-- a pool by its gaps: so many unusable entries, then the entry; so many at the end -/
def gap : Nat → List CpInfo → List CpInfo
  | 0, r => r
  | n + 1, r => .unusable :: gap n r
def poolList (es : List (Nat × CpInfo)) (last : Nat) : List CpInfo := es.foldr (fun e r => gap e.1 (e.2 :: r)) (gap last [])
def pool (es : List (Nat × CpInfo)) (last : Nat) : Array CpInfo := ⟨poolList es last⟩
def fileOf (pool : Array CpInfo) (this : Nat) (attrs : Array Attribute := #[]) (ms : Array MethodInfo := #[]) (fl : Nat := 33) (sup : Nat := 0) (ifs : Array Nat := #[]) (fds : Array FieldInfo := #[]) : ClassFile where
  minorVersion := 0
  majorVersion := 65
  constantPool := pool
  accessFlags := fl
  thisClass := this
  superClass := sup
  interfaces := ifs
  fields := fds
  methods := ms
  attributes := attrs
def plain (name : String) (sup : Option ClassId) : Class where
  name := name
  kind := .ordinary
  loader := none
  accessFlags := 33
  super := sup
  interfaces := #[]
  cf := none
  fields := #[]
  methods := #[]
  instanceTypes := #[]
  staticTypes := #[]
  resolved := #[]
  callSites := []
  init := .initialized
  statics := none
  mirror := none

def pool0 : Array CpInfo := pool [(5, u "<init>"), (0, u "()V"), (1, .class_ 10), (1, u "java/lang/Object")] 113

def k0m0 : Method := { name := "<init>", desc := "()V", sig := { parameters := [], returnType := none }, accessFlags := 1, code := none }
/-- java/lang/Object -/
def k0 : Class := { plain "java/lang/Object" none with
  accessFlags := 33
  interfaces := #[]
  cf := some (fileOf pool0 8 #[] #[{ accessFlags := 1, nameIndex := 5, descriptorIndex := 6, attributes := #[] }] 33 0 #[] #[])
  fields := #[]
  methods := #[k0m0]
  instanceTypes := #[]
  staticTypes := #[]
  resolved := Array.replicate 124 none
  statics := none }

def pool1 : Array CpInfo := pool [(2, .class_ 4), (1, u "java/lang/Object"), (0, u "<init>"), (0, u "()V"), (0, .methodref 8 9), (0, .class_ 10), (0, .nameAndType 11 12), (0, u "com/example/paylode/paylode/header/HeaderSyntax"), (0, u "isQuotable"), (0, u "(C)Z"), (0, .class_ 14), (0, u "com/example/paylode/paylode/header/HeaderSyntaxIsQuotablePinLaw"), (2, u "law"), (0, u "(I)Z")] 3

def k1m0 : Method := { name := "<init>", desc := "()V", sig := { parameters := [], returnType := none }, accessFlags := 2, code := none }
def k1c1 : Code := { maxStack := 2, maxLocals := 4, code := code, exceptionTable := #[], attributes := #[] }
def k1m1 : Method := { name := "law", desc := "(I)Z", sig := { parameters := [.int], returnType := some .boolean }, accessFlags := 9, code := some k1c1 }
/-- com/example/paylode/paylode/header/HeaderSyntaxIsQuotablePinLaw -/
def k1 : Class := { plain "com/example/paylode/paylode/header/HeaderSyntaxIsQuotablePinLaw" (some 0) with
  accessFlags := 49
  interfaces := #[]
  cf := some (fileOf pool1 13 #[] #[{ accessFlags := 2, nameIndex := 5, descriptorIndex := 6, attributes := #[] }, { accessFlags := 9, nameIndex := 17, descriptorIndex := 18, attributes := #[] }] 49 2 #[] #[])
  fields := #[]
  methods := #[k1m0, k1m1]
  instanceTypes := #[]
  staticTypes := #[]
  resolved := Array.replicate 22 none
  statics := none }

def pool2 : Array CpInfo := pool [(2, .class_ 4), (1, u "java/lang/Object"), (0, u "<init>"), (0, u "()V"), (0, .class_ 8), (0, u "com/example/paylode/paylode/header/HeaderSyntax"), (23, u "(C)Z"), (44, u "isQuotable"), (3, u "TOKEN_SYMBOLS"), (0, u "Ljava/lang/String;")] 29

def k2m0 : Method := { name := "<init>", desc := "()V", sig := { parameters := [], returnType := none }, accessFlags := 2, code := none }
def k2c1 : Code := { maxStack := 2, maxLocals := 1, code := prog_5_method_4_code, exceptionTable := #[], attributes := #[] }
def k2m1 : Method := { name := "isQuotable", desc := "(C)Z", sig := { parameters := [.char], returnType := some .boolean }, accessFlags := 8, code := some k2c1 }
/-- com/example/paylode/paylode/header/HeaderSyntax -/
def k2 : Class := { plain "com/example/paylode/paylode/header/HeaderSyntax" (some 0) with
  accessFlags := 48
  interfaces := #[]
  cf := some (fileOf pool2 7 #[] #[{ accessFlags := 2, nameIndex := 5, descriptorIndex := 6, attributes := #[] }, { accessFlags := 8, nameIndex := 77, descriptorIndex := 32, attributes := #[] }] 48 2 #[] #[{ accessFlags := 26, nameIndex := 81, descriptorIndex := 82, attributes := #[] }])
  fields := #[{ name := "TOKEN_SYMBOLS", type := (.object "java/lang/String"), accessFlags := 26, slot := 0, constantValue := 0 }]
  methods := #[k2m0, k2m1]
  instanceTypes := #[]
  staticTypes := #[(.object "java/lang/String")]
  resolved := Array.replicate 112 none
  statics := none }

def pool3 : Array CpInfo := pool [(1, u "java/lang/Cloneable"), (0, .class_ 1), (0, u "java/lang/Object"), (0, .class_ 3)] 3

/-- java/lang/Cloneable -/
def k3 : Class := { plain "java/lang/Cloneable" (some 0) with
  accessFlags := 1537
  interfaces := #[]
  cf := some (fileOf pool3 2 #[] #[] 1537 4 #[] #[])
  fields := #[]
  methods := #[]
  instanceTypes := #[]
  staticTypes := #[]
  resolved := Array.replicate 8 none
  statics := none }

def pool4 : Array CpInfo := pool [(1, u "java/io/Serializable"), (0, .class_ 1), (0, u "java/lang/Object"), (0, .class_ 3)] 3

/-- java/io/Serializable -/
def k4 : Class := { plain "java/io/Serializable" (some 0) with
  accessFlags := 1537
  interfaces := #[]
  cf := some (fileOf pool4 2 #[] #[] 1537 4 #[] #[])
  fields := #[]
  methods := #[]
  instanceTypes := #[]
  staticTypes := #[]
  resolved := Array.replicate 8 none
  statics := none }

/-- the primitive byte -/
def k5 : Class := { plain "byte" none with kind := .primitive 'B', accessFlags := 0x411 }
/-- [B -/
def k6 : Class := { plain "[B" (some 0) with kind := .array 5 .byte, interfaces := #[3, 4], accessFlags := 1041 }

/-- the primitive int -/
def k7 : Class := { plain "int" none with kind := .primitive 'I', accessFlags := 0x411 }
/-- [I -/
def k8 : Class := { plain "[I" (some 0) with kind := .array 7 .int, interfaces := #[3, 4], accessFlags := 1041 }

def heap : Heap := #[]
def classes : Array Class := #[k0, k1, k2, k3, k4, k5, k6, k7, k8]
def interned : List (Array UInt16 × Addr) := []
def slotsUsed : Nat := 0
def theMethod : MethodId := ⟨1, 1⟩
def args0 : Array Value := #[.int 5]
def aboutOver (below : List Frame) : State where
  vm := { classes := classes, interned := interned.toArray }
  heap := heap
  slotsUsed := slotsUsed
  threads := #[{ frames := .invoking theMethod args0 :: below }]
def below0 : List Frame := [.native { method := ⟨0, 0⟩, args := #[] }]
def about1 : State := aboutOver below0
def p0 : Program := .bare "" "" ""
def e0 : Env := launch0.env 0 0 0
theorem w_frames : about1.frames = Frame.invoking theMethod args0 :: below0 := rfl
set_option maxRecDepth 65536 in
theorem w_args : argsFit about1.vm theMethod args0 = true := by decide +kernel
set_option maxRecDepth 65536 in
theorem w_heap : heapFits about1 = true := by decide +kernel
set_option maxRecDepth 65536 in
theorem w_runnable : about1.curStatus? = some .runnable := by decide +kernel
set_option maxRecDepth 65536 in
theorem w_alone : about1.alone = true := by decide +kernel
set_option maxRecDepth 65536 in
theorem w_named : about1.methodNamed? x = some theMethod := by decide +kernel
set_option maxRecDepth 65536 in
theorem w_hears : about1.hears theMethod below0 = true := by decide +kernel
set_option maxRecDepth 65536 in
theorem w_ripe : about1.ripe theMethod args0 below0 = true := by decide +kernel
theorem w_running : about1.status = .running := rfl
set_option maxRecDepth 65536 in
theorem w_room : about1.hasRoom e0.platform room_1 = true :=
  launch0.hasRoom_least _ room_1 (by decide +kernel) (by decide +kernel) (by decide +kernel) (by decide +kernel) (by decide +kernel) (by decide +kernel)
theorem allAtoms_all (ts : List Jvm.Cond) (a : Array Jvm.Value) (st : Jvm.State) : (allAtoms ts).before a st = ts.all (fun c => c.before a st) := by
  induction ts with
  | nil => rfl
  | cons c t ih =>
    show (Jvm.Cond.and c (allAtoms t)).before a st = _
    rw [Jvm.Cond.before_and, ih, List.all_cons]
def words1 : List Jvm.Cond := Jvm.Cond.code x code maxLocals ret :: tables_1
/-- a 'code' word, met by the world's own term for the bytes: nothing is compared byte by byte -/
theorem code_word {y : MethodName} {bytes : ByteArray} {mx : Nat} {rt : Option FieldType} {a : Array Value} {s : State} {m : MethodId} {meth : Method} {c : Code} (h1 : s.methodNamed? y = some m) (h2 : s.vm.method? m = some meth) (h3 : meth.code = some c) (h4 : c.code = bytes)
    (h5 : (c.maxLocals == mx && c.exceptionTable.isEmpty && decide (c.maxStack ≤ mostOperands) && decide (meth.sig.returnType = rt) && !meth.locks && decide (parseMethodDescriptor y.desc = some meth.sig)) = true) : (Jvm.Cond.code y bytes mx rt).before a s = true := by
  simp only [Bool.and_eq_true, beq_iff_eq, Bool.not_eq_true', decide_eq_true_eq] at h5
  obtain ⟨⟨⟨⟨⟨g1, g2⟩, g3⟩, g4⟩, g5⟩, g6⟩ := h5
  simp [Cond.before, Cond.holds, Cond.value, h1, h2, h3, h4, g1, g2, g3, g4, g5, g6]
def isCode : Jvm.Cond → Bool
  | .code _ _ _ _ => true
  | _ => false
theorem all_split {L : List Jvm.Cond} {P : Jvm.Cond → Bool} (h1 : L.all (fun c => isCode c || P c) = true) (h2 : ∀ c ∈ L.filter isCode, P c = true) : L.all P = true := by
  refine List.all_eq_true.mpr fun c hc => ?_
  have h := List.all_eq_true.mp h1 c hc
  rcases Bool.eq_false_or_eq_true (isCode c) with hi | hi
  · exact h2 c (List.mem_filter.mpr ⟨hc, hi⟩)
  · simpa [hi] using h
set_option maxRecDepth 65536 in
theorem w_c0 : (Jvm.Cond.code x code maxLocals ret).before args0 about1 = true := code_word (m := ⟨1, 1⟩) (meth := k1m1) (c := k1c1) (by decide +kernel) rfl rfl rfl (by decide +kernel)
set_option maxRecDepth 65536 in
theorem w_c1 : (Jvm.Cond.code ({ cls := "com/example/paylode/paylode/header/HeaderSyntax", name := "isQuotable", desc := "(C)Z" } : Jvm.MethodName) prog_5_method_4_code (1 : Nat) (Option.some Jvm.ClassFile.FieldType.boolean)).before args0 about1 = true := code_word (m := ⟨2, 1⟩) (meth := k2m1) (c := k2c1) (by decide +kernel) rfl rfl rfl (by decide +kernel)
def codes1 : List Jvm.Cond := [Jvm.Cond.code x code maxLocals ret, Jvm.Cond.code ({ cls := "com/example/paylode/paylode/header/HeaderSyntax", name := "isQuotable", desc := "(C)Z" } : Jvm.MethodName) prog_5_method_4_code (1 : Nat) (Option.some Jvm.ClassFile.FieldType.boolean)]
set_option maxRecDepth 65536 in
theorem codes_eq : words1.filter isCode = codes1 := rfl
theorem w_codes : ∀ c ∈ words1.filter isCode, c.before args0 about1 = true := by
  rw [codes_eq]
  intro c hc
  simp only [codes1, List.mem_cons, List.not_mem_nil, or_false] at hc
  rcases hc with rfl | rfl
  · exact w_c0
  · exact w_c1
set_option maxRecDepth 65536 in
theorem w_t1 : words1.all (fun c => isCode c || c.before args0 about1) = true := by decide +kernel
theorem w_tables : (allAtoms (Jvm.Cond.code x code maxLocals ret :: tables_1)).before args0 about1 = true := by
  rw [allAtoms_all]
  show words1.all (fun c => c.before args0 about1) = true
  refine all_split ?_ w_codes
  rw [w_t1]
set_option maxRecDepth 65536 in
theorem w_case : (Jvm.Cond.and given_1 narrow_1).before args0 about1 = true := by decide +kernel
theorem w_applies : (headSpec (Jvm.Cond.code x code maxLocals ret :: tables_1) room_1).applies x e0.platform about1 = true :=
  (Spec.applies_iff w_frames).mpr ⟨w_running, w_runnable, w_alone, w_named, w_hears, w_ripe, w_room, w_tables⟩
theorem atStart : AtStart classFile x code maxLocals ret World_1 tables_1 room_1 Calls_1 rest_1 Pre_1 launch0 p0 e0 about1 theMethod args0 below0 :=
  ⟨lists_1, trivial, launch0.admits_env _ _ _, launch0.least_env, fairChoices_fair.cas, fairChoices_fair.clock, w_frames, w_args, w_heap, w_applies, trivial, trivial, w_case⟩
end start1
theorem witness_1 : WitnessClaimed_1 := ⟨start1.p0, start1.e0, start1.about1, start1.theMethod, start1.args0, start1.below0, start1.atStart⟩
end Jvm.Pilot.@@N@@
