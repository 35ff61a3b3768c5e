import JvmDerived
import JvmDerived.Pilot.@@N@@Statement
import JvmDerived.Pilot.@@N@@Code
set_option linter.unusedVariables false
set_option linter.unusedSimpArgs false
namespace Jvm.RoadKit
open Sem ClassFile Op Lib Jvm.Stand Jvm.Free Jvm.LawKit
section OwnKit
variable {p : Program} {l : Launch} {e : Env} {R : Room} {s : State} {m : MethodId} {args : Array Value} {below : List Frame} {meth : Method} {c : Code} {T : State} {locs : List Loc} {cells slots : Nat}
/-- a boolean as the machine's int -/
def b2i (b : Bool) : Int32 := bif b then 1 else 0
theorem b2i_t {b : Bool} (h : b = true) : ¬ b2i b = 0 := by subst h; decide
theorem b2i_f {b : Bool} (h : ¬ b = true) : b2i b = 0 := by cases b <;> first | rfl | exact absurd rfl h
theorem b2i_inj {a b : Bool} (h : b2i a = b2i b) : a = b := by cases a <;> cases b <;> first | rfl | exact absurd h (by decide)
theorem nar_b2i (b : Bool) : nar .boolean (b2i b) = b2i b := by cases b <;> decide
/-- from the state U the walk comes to an end that P holds of -/
def Go (tb : Tables) (e : Env) (below : List Frame) (P : Outcome → State → Prop) (U : State) : Prop := ∃ s₂ o, Steps tb e below U s₂ ∧ s₂.status = .running ∧ Ended s₂ below o ∧ P o s₂
theorem Go.back {tb : Tables} {P : Outcome → State → Prop} {U V : State} (h : ∀ t, Steps tb e below V t → Steps tb e below U t) (k : Go tb e below P V) : Go tb e below P U := by
  obtain ⟨s2, o, h1, h2⟩ := k
  exact ⟨s2, o, h _ h1, h2⟩
theorem Go.trans {tb : Tables} {P : Outcome → State → Prop} {U V : State} (h : Steps tb e below U V) (k : Go tb e below P V) : Go tb e below P U := by
  obtain ⟨s2, o, h1, h2⟩ := k
  exact ⟨s2, o, Steps.trans h h1, h2⟩
abbrev Fin (s : State) (Q : Option Value → Heap → List Loc → Prop) (K S : Nat) : Outcome → State → Prop := fun o U' => ∃ v L, o = .returned v ∧ Q v U'.heap L ∧ FrameEnd s o U' L K S
theorem retI0 (X : Stand p l e R s m args below meth c T locs cells slots) (hx : p.tables.exec = Jvm.exec) {pc : Nat} {Ls : Array Slot} {z : Int32} {rest : List Value} (hret : meth.sig.returnType = some .int) (hd : decode c.code pc = .ok (.ireturn, 1)) {fs : List Frame}
    (hl : ∀ (f : JFrame) (acts : List Action), f.method = m → f.locked = none → f.entered = [] → (doReturn e (T.setTop f) acts (some (.int z))).1 = T.setFrames fs) : Steps p.tables e below (T.setTop (mkF m pc Ls (.int z :: rest))) (T.setFrames fs) := by
  have hm' : T.vm.method? m = some meth := X.method'
  have hn : narrow .int (.int z) = .int z := rfl
  show Steps p.tables e below (T.setTop { method := m, pc := pc, locals := Ls, stack := _ :: rest, locked := none }) _
  jvm_step X.here [X.here.top, hx, hd, hm', hret, hn]
  first | (intro acts; rw [hl _ acts rfl rfl rfl]) | rw [hl _ _ rfl rfl rfl]
  exact Steps.refl _
theorem Go.retI (X : Stand p l e R s m args below meth c T locs cells slots) (hx : p.tables.exec = Jvm.exec) {pc : Nat} {Ls : Array Slot} {z : Int32} {rest : List Value} (hret : meth.sig.returnType = some .int) (hd : decode c.code pc = .ok (.ireturn, 1)) (hlk : meth.locks = false) {Q : Option Value → Heap → List Loc → Prop} {K S : Nat} (hQ : Q (some (.int z)) T.heap locs) (hc : cells ≤ K) (hs : slots ≤ S) :
    Go p.tables e below (Fin s Q K S) (T.setTop (mkF m pc Ls (.int z :: rest))) := by
  obtain ⟨fs, hr, hrun, hended, hW, hsame⟩ := X.leave (v := some (.int z)) (fun h => by rw [hret] at h; cases h) hlk
  exact ⟨_, _, retI0 X hx hret hd hr, hrun, hended, _, _, rfl, hQ, ⟨_, rfl⟩, hW, hsame.mono hc hs⟩
theorem Go.retN (X : Stand p l e R s m args below meth c T locs cells slots) (hx : p.tables.exec = Jvm.exec) {pc : Nat} {Ls : Array Slot} {z : Int32} {rest : List Value} {t : FieldType} (hret : meth.sig.returnType = some t) (ht : t = .boolean ∨ t = .byte ∨ t = .char ∨ t = .short) (hd : decode c.code pc = .ok (.ireturn, 1)) (hlk : meth.locks = false) {Q : Option Value → Heap → List Loc → Prop} {K S : Nat} (hQ : Q (some (.int (nar t z))) T.heap locs) (hc : cells ≤ K) (hs : slots ≤ S) :
    Go p.tables e below (Fin s Q K S) (T.setTop (mkF m pc Ls (.int z :: rest))) := by
  obtain ⟨fs, hr, hrun, hended, hW, hsame⟩ := X.leave (v := some (.int (nar t z))) (fun h => by rw [hret] at h; cases h) hlk
  exact ⟨_, _, Jvm.RoadKit.retN X hx hret ht hd hr, hrun, hended, _, _, rfl, hQ, ⟨_, rfl⟩, hW, hsame.mono hc hs⟩
theorem Go.retB (X : Stand p l e R s m args below meth c T locs cells slots) (hx : p.tables.exec = Jvm.exec) {pc : Nat} {Ls : Array Slot} {b : Bool} {rest : List Value} (hret : meth.sig.returnType = some .boolean) (hd : decode c.code pc = .ok (.ireturn, 1)) (hlk : meth.locks = false) {Q : Option Value → Heap → List Loc → Prop} {K S : Nat} (hQ : Q (some (.int (b2i b))) T.heap locs) (hc : cells ≤ K) (hs : slots ≤ S) :
    Go p.tables e below (Fin s Q K S) (T.setTop (mkF m pc Ls (.int (b2i b) :: rest))) := Go.retN X hx hret (Or.inl rfl) hd hlk (by rw [nar_b2i]; exact hQ) hc hs
theorem Go.retJ (X : Stand p l e R s m args below meth c T locs cells slots) (hx : p.tables.exec = Jvm.exec) {pc : Nat} {Ls : Array Slot} {z : Int64} (hret : meth.sig.returnType = some .long) (hd : decode c.code pc = .ok (.lreturn, 1)) (hlk : meth.locks = false) {Q : Option Value → Heap → List Loc → Prop} {K S : Nat} (hQ : Q (some (.long z)) T.heap locs) (hc : cells ≤ K) (hs : slots ≤ S) :
    Go p.tables e below (Fin s Q K S) (T.setTop (mkF m pc Ls [.long z])) := by
  obtain ⟨fs, hr, hrun, hended, hW, hsame⟩ := X.leave (v := some (.long z)) (fun h => by rw [hret] at h; cases h) hlk
  exact ⟨_, _, X.lreturnOut hx hret hd hr, hrun, hended, _, _, rfl, hQ, ⟨_, rfl⟩, hW, hsame.mono hc hs⟩
theorem Go.retR (X : Stand p l e R s m args below meth c T locs cells slots) (hx : p.tables.exec = Jvm.exec) {pc : Nat} {Ls : Array Slot} {a : Addr} {t : FieldType} (hret : meth.sig.returnType = some t) (ht : t.isReference = true) (hd : decode c.code pc = .ok (.areturn, 1)) (hlk : meth.locks = false) {Q : Option Value → Heap → List Loc → Prop} {K S : Nat} (hQ : Q (some (.ref a)) T.heap locs) (hc : cells ≤ K) (hs : slots ≤ S) :
    Go p.tables e below (Fin s Q K S) (T.setTop (mkF m pc Ls [.ref a])) := by
  obtain ⟨fs, hr, hrun, hended, hW, hsame⟩ := X.leave (v := some (.ref a)) (fun h => by rw [hret] at h; cases h) hlk
  exact ⟨_, _, X.areturnOut hx rfl hret ht hd hr, hrun, hended, _, _, rfl, hQ, ⟨_, rfl⟩, hW, hsame.mono hc hs⟩
theorem Go.retV (X : Stand p l e R s m args below meth c T locs cells slots) (hx : p.tables.exec = Jvm.exec) {pc : Nat} {Ls : Array Slot} (hret : meth.sig.returnType = none) (hd : decode c.code pc = .ok (.return_, 1)) (hlk : meth.locks = false) {Q : Option Value → Heap → List Loc → Prop} {K S : Nat} (hQ : Q none T.heap locs) (hc : cells ≤ K) (hs : slots ≤ S) :
    Go p.tables e below (Fin s Q K S) (T.setTop (mkF m pc Ls [])) := by
  obtain ⟨fs, hr, hrun, hended, hW, hsame⟩ := X.leave (v := none) (fun _ => rfl) hlk
  exact ⟨_, _, X.returnOut hx hret hd hr, hrun, hended, _, _, rfl, hQ, ⟨_, rfl⟩, hW, hsame.mono hc hs⟩
theorem lremM {g : JFrame} {target : State} (X : Stand p l e R s m args below meth c T locs cells slots) (hx : p.tables.exec = Jvm.exec) (hg : g.method = m) {x y : Int64} {rest : List Value} (hd : decode c.code g.pc = .ok (.lrem, 1)) (hs : g.stack = .long y :: .long x :: rest) (hy : y ≠ 0)
    (hr : Steps p.tables e below (T.setTop { g with pc := g.pc + 1, stack := .long (x % y) :: rest }) target) : Steps p.tables e below (T.setTop g) target :=
  XS.lrem X.here hx hg hd hs hy (by rw [lrem_mod x y]; exact hr)
theorem storeS_i {ls l' : Array Slot} {k : Nat} {o : Slot} {x : Int32} (hold : ls[k]? = some o) (h : One o) (q : ls.setIfInBounds k (.val (.int x)) = l') : storeLocals ls k (.int x) = some l' := by
  rw [XS.store1 hold h rfl, q]
theorem storeS_a {ls l' : Array Slot} {k : Nat} {o : Slot} {a : Addr} (hold : ls[k]? = some o) (h : One o) (q : ls.setIfInBounds k (.val (.ref a)) = l') : storeLocals ls k (.ref a) = some l' := by
  rw [XS.store1 hold h rfl, q]
end OwnKit
section OwnArr
variable {p : Program} {l : Launch} {e : Env} {R : Room} {s : State} {m : MethodId} {args : Array Value} {below : List Frame} {meth : Method} {c : Code} {T : State} {locs : List Loc} {cells slots : Nat} {Z : State} {h h' : Heap} {a b : Addr} {ty : FieldType} {vs : List Value} {v : Value} {sl : Nat} {ws : List Addr}
/-- the array at a, of the kind ty, holds just this list -/
def ArL (Z : State) (h : Heap) (a : Addr) (ty : FieldType) (vs : List Value) : Prop := ∃ c : Cell, Arr Z h a c ty ∧ c.slots.toList = vs
theorem ArL.lt (F : ArL Z h a ty vs) : a < h.size := by obtain ⟨c, A, -⟩ := F; exact A.lt
theorem ArL.ext (F : ArL Z h a ty vs) (E : Ext h h') : ArL Z h' a ty vs := by obtain ⟨c, A, r⟩ := F; exact ⟨c, A.ext E, r⟩
theorem ArL.other (F : ArL Z h b ty vs) (W : Wr h h' a sl v) (q : b ≠ a) : ArL Z h' b ty vs := by obtain ⟨c, A, r⟩ := F; exact ⟨c, A.other W q, r⟩
theorem ArL.keep (F : ArL Z h a ty vs) (K : Keep h h' ws) (q : a ∉ ws) : ArL Z h' a ty vs := by obtain ⟨c, A, r⟩ := F; exact ⟨c, ⟨K.2.1 a c A.1 q, A.2⟩, r⟩
theorem ArL.new {k : ClassId} {z : Int32} (A : Arr Z h a (newA k ty z) ty) {n : Nat} (q : z.toNatClampNeg = n) : ArL Z h a ty (List.replicate n (defaultValue ty)) := ⟨_, A, by subst q; simp [newA]⟩
theorem ArL.set (F : ArL Z h a ty vs) (W : Wr h h' a sl v) : ArL Z h' a ty (vs.set sl v) := by
  obtain ⟨c, A, r⟩ := F
  exact ⟨_, A.same W, by subst r; simp [Cell.setSlot]⟩
/-- a place of it: what a load and a store ask -/
theorem ArL.at (F : ArL Z h a ty vs) {j : Int32} (h0 : ¬ j < 0) (hj : j.toNatClampNeg < vs.length) : ∃ c : Cell, Arr Z h a c ty ∧ ¬ (j < 0 ∨ c.slots.size ≤ j.toNatClampNeg) ∧ c.slots[j.toNatClampNeg]? = some (vs[j.toNatClampNeg]'hj) := by
  obtain ⟨c, A, rfl⟩ := F
  have q : j.toNatClampNeg < c.slots.size := by simpa using hj
  refine ⟨c, A, fun z => z.elim h0 (fun y => absurd q (Nat.not_lt.mpr y)), ?_⟩
  rw [Array.getElem?_eq_getElem q]
  simp
theorem ArL.get (F : ArL Z h a ty vs) {j : Int32} (h0 : ¬ j < 0) (hv : vs[j.toNatClampNeg]? = some v) : ∃ c : Cell, Arr Z h a c ty ∧ ¬ (j < 0 ∨ c.slots.size ≤ j.toNatClampNeg) ∧ c.slots[j.toNatClampNeg]? = some v := by
  obtain ⟨hj, rfl⟩ := List.getElem?_eq_some_iff.mp hv
  exact F.at h0 hj
theorem ArL.setI {xs : List Int32} {x : Int32} {i : Nat} (F : ArL Z h a ty (List.map Value.int xs)) (W : Wr h h' a i (.int x)) : ArL Z h' a ty (List.map Value.int (xs.set i x)) := by
  rw [List.map_set]; exact F.set W
theorem ArL.setJ {xs : List Int64} {x : Int64} {i : Nat} (F : ArL Z h a ty (List.map Value.long xs)) (W : Wr h h' a i (.long x)) : ArL Z h' a ty (List.map Value.long (xs.set i x)) := by
  rw [List.map_set]; exact F.set W
theorem ArL.newI {k : ClassId} {z : Int32} (A : Arr Z h a (newA k ty z) ty) {n : Nat} (q : z.toNatClampNeg = n) (hd : defaultValue ty = .int 0 := by rfl) : ArL Z h a ty (List.map Value.int (List.replicate n (0 : Int32))) := by
  rw [List.map_replicate, ← hd]; exact ArL.new A q
theorem ArL.newJ {k : ClassId} {z : Int32} (A : Arr Z h a (newA k ty z) ty) {n : Nat} (q : z.toNatClampNeg = n) (hd : defaultValue ty = .long 0 := by rfl) : ArL Z h a ty (List.map Value.long (List.replicate n (0 : Int64))) := by
  rw [List.map_replicate, ← hd]; exact ArL.new A q
theorem getI (xs : List Int32) {i : Nat} (q : i < xs.length) : (List.map Value.int xs)[i]? = some (.int (xs.getD i 0)) := by
  rw [List.getElem?_map, List.getD_eq_getElem?_getD, List.getElem?_eq_getElem q]; rfl
theorem getJ (xs : List Int64) {i : Nat} (q : i < xs.length) : (List.map Value.long xs)[i]? = some (.long (xs.getD i 0)) := by
  rw [List.getElem?_map, List.getD_eq_getElem?_getD, List.getElem?_eq_getElem q]; rfl
theorem ArL.len (F : ArL Z h a ty vs) : ∃ c : Cell, Arr Z h a c ty ∧ c.slots.size = vs.length := by
  obtain ⟨c, A, rfl⟩ := F
  exact ⟨c, A, by simp⟩
end OwnArr
end Jvm.RoadKit
namespace Jvm.Pilot.@@N@@
open Jvm Jvm.ClassFile Sem Op Lib Jvm.Free Jvm.Stand Jvm.LawKit Jvm.RoadKit Bundle Jvm.Pilot.@@N@@.Jvm.D
theorem pd_0 : parseMethodDescriptor "(JJ)J" = some ⟨[.long, .long], some .long⟩ := by decide +kernel
theorem pd_1 : parseMethodDescriptor "(JI)I" = some ⟨[.long, .int], some .int⟩ := by decide +kernel
theorem d2_0 : decode jdk_29_method_66_code 0 = .ok (.lload_n 0, 1) := by decide +kernel
theorem d2_1 : decode jdk_29_method_66_code 1 = .ok (.lload_n 2, 1) := by decide +kernel
theorem d2_2 : decode jdk_29_method_66_code 2 = .ok (.lcmp, 1) := by decide +kernel
theorem d2_3 : decode jdk_29_method_66_code 3 = .ok (.ifCond .lt 7, 3) := by decide +kernel
theorem d2_6 : decode jdk_29_method_66_code 6 = .ok (.lload_n 0, 1) := by decide +kernel
theorem d2_7 : decode jdk_29_method_66_code 7 = .ok (.goto 4, 3) := by decide +kernel
theorem d2_10 : decode jdk_29_method_66_code 10 = .ok (.lload_n 2, 1) := by decide +kernel
theorem d2_11 : decode jdk_29_method_66_code 11 = .ok (.lreturn, 1) := by decide +kernel
def f2 (p0 : Int64) (p1 : Int64) : Int64 := (let z3 : Int64 := (if p0 < p1 then p1 else p0); z3)
def Q2 (p0 : Int64) (p1 : Int64) (h0 : Heap) (n0 : Nat) (v : Option Value) (h : Heap) (L : List Loc) : Prop := v = some (.long (f2 p0 p1)) ∧ Fr n0 L ∧ h = h0
abbrev rmm2 : Room := { frames := 0, cells := 0, slots := 0, locals := 0 }
abbrev P2 (p0 : Int64) (p1 : Int64) (h0 : Heap) (n0 : Nat) (s : State) : Outcome → State → Prop := fun o U' => ∃ v L, o = .returned v ∧ Q2 p0 p1 h0 n0 v U'.heap L ∧ FrameEnd s o U' L rmm2.cells rmm2.slots
theorem ef_2 (m : MethodId) (p0 : Int64) (p1 : Int64) : entryFrame m #[(.long p0), (.long p1)] 4 = mkF m 0 #[.val (.long p0), .second, .val (.long p1), .second] [] := by first | (simp [entryFrame, mkF, argsToLocals, Value.category]; done) | rfl
set_option maxRecDepth 65536 in
set_option maxHeartbeats 40000000 in
theorem rm2 (l : Launch) (Z : State) (a0 : Array Value) (hw : ∀ d ∈ tables_1, d.before a0 Z = true) (ws : List Jvm.Cond) (p0 : Int64) (p1 : Int64) (h0 : Heap) (n0 : Nat) :
    MetFree l (⟨"java/lang/Math", "max", "(JJ)J"⟩ : MethodName) (head1 (Jvm.Cond.code (⟨"java/lang/Math", "max", "(JJ)J"⟩ : MethodName) jdk_29_method_66_code 4 (some .long) :: ws) rmm2) (fun a U => a = #[(.long p0), (.long p1)] ∧ Z.Warmed39 U.vm ∧ U.heap = h0) (fun _ _ _ _ _ => True) (fun _ U o U' => ∃ v L, o = .returned v ∧ Q2 p0 p1 h0 n0 v U'.heap L ∧ FrameEnd U o U' L rmm2.cells rmm2.slots) := by
  refine MetFree.of_bodySF (Jvm.Free.JP.mathPlain rfl (by decide +kernel)) hisR ?_
  intro p e s m args below meth c s₁ Bd hml0 hP hK
  obtain ⟨rfl, hZ, hh⟩ := hP
  have hx := Bd.exec
  have hby := Bd.bytes
  have hml : c.maxLocals = 4 := hml0
  have hown : s.vm.findClass "java/lang/Math" = some m.cls := findClass_of_methodNamed Bd.named
  have hnm := (name_of_methodNamed Bd.named Bd.method).1
  have X0 : Stand p l e rmm2 s m #[(.long p0), (.long p1)] below meth c s₁ [] 0 0 := Stand.of_body Bd
  have e0 : s₁.heap = h0 := by rw [← hh, Bd.state]; rfl
  have N0 := Fr.nil n0
  show Go p.tables e below (P2 p0 p1 h0 n0 s) (s₁.setTop (entryFrame m #[(.long p0), (.long p1)] 4))
  refine Go.back (fun t k => castTop (ef_2 m p0 p1) k) ?_
  show Go p.tables e below (P2 p0 p1 h0 n0 s) (s₁.setTop (mkF m 0 #[.val (.long p0), .second, .val (.long p1), .second] []))
  have hf : f2 p0 p1 = (let z3 : Int64 := (if p0 < p1 then p1 else p0); z3) := rfl
  refine Go.back (fun t k => XS.lloadN X0.here hx rfl (hb hby d2_0) rfl  k) ?_
  show Go p.tables e below (P2 p0 p1 h0 n0 s) (s₁.setTop (mkF m 1 #[.val (.long p0), .second, .val (.long p1), .second] [(.long p0)]))
  refine Go.back (fun t k => XS.lloadN X0.here hx rfl (hb hby d2_1) rfl  k) ?_
  show Go p.tables e below (P2 p0 p1 h0 n0 s) (s₁.setTop (mkF m 2 #[.val (.long p0), .second, .val (.long p1), .second] [(.long p1), (.long p0)]))
  refine Go.back (fun t k => XS.lcmp X0.here hx rfl (hb hby d2_2) rfl k) ?_
  show Go p.tables e below (P2 p0 p1 h0 n0 s) (s₁.setTop (mkF m 3 #[.val (.long p0), .second, .val (.long p1), .second] [(.int (lcmpW p0 p1))]))
  have J2 : ∀ (z3 : Int64) (hz3 : z3 = (if p0 < p1 then p1 else p0)), Go p.tables e below (P2 p0 p1 h0 n0 s) (s₁.setTop (mkF m 11 #[.val (.long p0), .second, .val (.long p1), .second] [(.long z3)])) := by
    intro z3 hz3
    have r4 : f2 p0 p1 = z3 := by subst hz3; exact hf
    show Go p.tables e below (P2 p0 p1 h0 n0 s) (s₁.setTop (mkF m 11 #[.val (.long p0), .second, .val (.long p1), .second] [(.long z3)]))
    exact Go.retJ X0 hx Bd.returns (hb hby d2_11) Bd.notSynchronized ⟨by rw [r4], N0, e0⟩ (by decide) (by decide)
  have r5 : (if p0 < p1 then p1 else p0) = (if p0 < p1 then p1 else p0) := rfl
  by_cases hc1 : p0 < p1
  · have r6 := r5.trans (if_pos hc1)
    refine Go.back (fun t k => XS.ifYes X0.here hx rfl (pc0 := 3) (pc' := 10) rfl (hb hby d2_3) rfl ((if0 _ _).trans (tlt ((lw_lt _ _).mpr hc1)).1) (by decide) (by decide) k) ?_
    show Go p.tables e below (P2 p0 p1 h0 n0 s) (s₁.setTop (mkF m 10 #[.val (.long p0), .second, .val (.long p1), .second] []))
    refine Go.back (fun t k => XS.lloadN X0.here hx rfl (hb hby d2_10) rfl  k) ?_
    show Go p.tables e below (P2 p0 p1 h0 n0 s) (s₁.setTop (mkF m 11 #[.val (.long p0), .second, .val (.long p1), .second] [(.long p1)]))
    exact J2 p1 r6.symm
  · have r7 := r5.trans (if_neg hc1)
    refine Go.back (fun t k => XS.ifNo X0.here hx rfl (hb hby d2_3) rfl ((if0 _ _).trans (flt (fun q => hc1 ((lw_lt _ _).mp q))).1) k) ?_
    show Go p.tables e below (P2 p0 p1 h0 n0 s) (s₁.setTop (mkF m 6 #[.val (.long p0), .second, .val (.long p1), .second] []))
    refine Go.back (fun t k => XS.lloadN X0.here hx rfl (hb hby d2_6) rfl  k) ?_
    show Go p.tables e below (P2 p0 p1 h0 n0 s) (s₁.setTop (mkF m 7 #[.val (.long p0), .second, .val (.long p1), .second] [(.long p0)]))
    refine Go.back (fun t k => XS.goto X0.here hx rfl (pc0 := 7) (pc' := 11) rfl (hb hby d2_7) (by decide) (by decide) k) ?_
    show Go p.tables e below (P2 p0 p1 h0 n0 s) (s₁.setTop (mkF m 11 #[.val (.long p0), .second, .val (.long p1), .second] [(.long p0)]))
    exact J2 p0 r7.symm
theorem d3_0 : decode jdk_29_method_70_code 0 = .ok (.lload_n 0, 1) := by decide +kernel
theorem d3_1 : decode jdk_29_method_70_code 1 = .ok (.lload_n 2, 1) := by decide +kernel
theorem d3_2 : decode jdk_29_method_70_code 2 = .ok (.lcmp, 1) := by decide +kernel
theorem d3_3 : decode jdk_29_method_70_code 3 = .ok (.ifCond .gt 7, 3) := by decide +kernel
theorem d3_6 : decode jdk_29_method_70_code 6 = .ok (.lload_n 0, 1) := by decide +kernel
theorem d3_7 : decode jdk_29_method_70_code 7 = .ok (.goto 4, 3) := by decide +kernel
theorem d3_10 : decode jdk_29_method_70_code 10 = .ok (.lload_n 2, 1) := by decide +kernel
theorem d3_11 : decode jdk_29_method_70_code 11 = .ok (.lreturn, 1) := by decide +kernel
def f3 (p0 : Int64) (p1 : Int64) : Int64 := (let z3 : Int64 := (if p1 < p0 then p1 else p0); z3)
def Q3 (p0 : Int64) (p1 : Int64) (h0 : Heap) (n0 : Nat) (v : Option Value) (h : Heap) (L : List Loc) : Prop := v = some (.long (f3 p0 p1)) ∧ Fr n0 L ∧ h = h0
abbrev rmm3 : Room := { frames := 0, cells := 0, slots := 0, locals := 0 }
abbrev P3 (p0 : Int64) (p1 : Int64) (h0 : Heap) (n0 : Nat) (s : State) : Outcome → State → Prop := fun o U' => ∃ v L, o = .returned v ∧ Q3 p0 p1 h0 n0 v U'.heap L ∧ FrameEnd s o U' L rmm3.cells rmm3.slots
theorem ef_3 (m : MethodId) (p0 : Int64) (p1 : Int64) : entryFrame m #[(.long p0), (.long p1)] 4 = mkF m 0 #[.val (.long p0), .second, .val (.long p1), .second] [] := by first | (simp [entryFrame, mkF, argsToLocals, Value.category]; done) | rfl
set_option maxRecDepth 65536 in
set_option maxHeartbeats 40000000 in
theorem rm3 (l : Launch) (Z : State) (a0 : Array Value) (hw : ∀ d ∈ tables_1, d.before a0 Z = true) (ws : List Jvm.Cond) (p0 : Int64) (p1 : Int64) (h0 : Heap) (n0 : Nat) :
    MetFree l (⟨"java/lang/Math", "min", "(JJ)J"⟩ : MethodName) (head1 (Jvm.Cond.code (⟨"java/lang/Math", "min", "(JJ)J"⟩ : MethodName) jdk_29_method_70_code 4 (some .long) :: ws) rmm3) (fun a U => a = #[(.long p0), (.long p1)] ∧ Z.Warmed39 U.vm ∧ U.heap = h0) (fun _ _ _ _ _ => True) (fun _ U o U' => ∃ v L, o = .returned v ∧ Q3 p0 p1 h0 n0 v U'.heap L ∧ FrameEnd U o U' L rmm3.cells rmm3.slots) := by
  refine MetFree.of_bodySF (Jvm.Free.JP.mathPlain rfl (by decide +kernel)) hisR ?_
  intro p e s m args below meth c s₁ Bd hml0 hP hK
  obtain ⟨rfl, hZ, hh⟩ := hP
  have hx := Bd.exec
  have hby := Bd.bytes
  have hml : c.maxLocals = 4 := hml0
  have hown : s.vm.findClass "java/lang/Math" = some m.cls := findClass_of_methodNamed Bd.named
  have hnm := (name_of_methodNamed Bd.named Bd.method).1
  have X0 : Stand p l e rmm3 s m #[(.long p0), (.long p1)] below meth c s₁ [] 0 0 := Stand.of_body Bd
  have e0 : s₁.heap = h0 := by rw [← hh, Bd.state]; rfl
  have N0 := Fr.nil n0
  show Go p.tables e below (P3 p0 p1 h0 n0 s) (s₁.setTop (entryFrame m #[(.long p0), (.long p1)] 4))
  refine Go.back (fun t k => castTop (ef_3 m p0 p1) k) ?_
  show Go p.tables e below (P3 p0 p1 h0 n0 s) (s₁.setTop (mkF m 0 #[.val (.long p0), .second, .val (.long p1), .second] []))
  have hf : f3 p0 p1 = (let z3 : Int64 := (if p1 < p0 then p1 else p0); z3) := rfl
  refine Go.back (fun t k => XS.lloadN X0.here hx rfl (hb hby d3_0) rfl  k) ?_
  show Go p.tables e below (P3 p0 p1 h0 n0 s) (s₁.setTop (mkF m 1 #[.val (.long p0), .second, .val (.long p1), .second] [(.long p0)]))
  refine Go.back (fun t k => XS.lloadN X0.here hx rfl (hb hby d3_1) rfl  k) ?_
  show Go p.tables e below (P3 p0 p1 h0 n0 s) (s₁.setTop (mkF m 2 #[.val (.long p0), .second, .val (.long p1), .second] [(.long p1), (.long p0)]))
  refine Go.back (fun t k => XS.lcmp X0.here hx rfl (hb hby d3_2) rfl k) ?_
  show Go p.tables e below (P3 p0 p1 h0 n0 s) (s₁.setTop (mkF m 3 #[.val (.long p0), .second, .val (.long p1), .second] [(.int (lcmpW p0 p1))]))
  have J2 : ∀ (z3 : Int64) (hz3 : z3 = (if p1 < p0 then p1 else p0)), Go p.tables e below (P3 p0 p1 h0 n0 s) (s₁.setTop (mkF m 11 #[.val (.long p0), .second, .val (.long p1), .second] [(.long z3)])) := by
    intro z3 hz3
    have r4 : f3 p0 p1 = z3 := by subst hz3; exact hf
    show Go p.tables e below (P3 p0 p1 h0 n0 s) (s₁.setTop (mkF m 11 #[.val (.long p0), .second, .val (.long p1), .second] [(.long z3)]))
    exact Go.retJ X0 hx Bd.returns (hb hby d3_11) Bd.notSynchronized ⟨by rw [r4], N0, e0⟩ (by decide) (by decide)
  have r5 : (if p1 < p0 then p1 else p0) = (if p1 < p0 then p1 else p0) := rfl
  by_cases hc1 : p1 < p0
  · have r6 := r5.trans (if_pos hc1)
    refine Go.back (fun t k => XS.ifYes X0.here hx rfl (pc0 := 3) (pc' := 10) rfl (hb hby d3_3) rfl ((if0 _ _).trans (tlt ((lw_gt _ _).mpr hc1)).2.2.1) (by decide) (by decide) k) ?_
    show Go p.tables e below (P3 p0 p1 h0 n0 s) (s₁.setTop (mkF m 10 #[.val (.long p0), .second, .val (.long p1), .second] []))
    refine Go.back (fun t k => XS.lloadN X0.here hx rfl (hb hby d3_10) rfl  k) ?_
    show Go p.tables e below (P3 p0 p1 h0 n0 s) (s₁.setTop (mkF m 11 #[.val (.long p0), .second, .val (.long p1), .second] [(.long p1)]))
    exact J2 p1 r6.symm
  · have r7 := r5.trans (if_neg hc1)
    refine Go.back (fun t k => XS.ifNo X0.here hx rfl (hb hby d3_3) rfl ((if0 _ _).trans (flt (fun q => hc1 ((lw_gt _ _).mp q))).2.2.1) k) ?_
    show Go p.tables e below (P3 p0 p1 h0 n0 s) (s₁.setTop (mkF m 6 #[.val (.long p0), .second, .val (.long p1), .second] []))
    refine Go.back (fun t k => XS.lloadN X0.here hx rfl (hb hby d3_6) rfl  k) ?_
    show Go p.tables e below (P3 p0 p1 h0 n0 s) (s₁.setTop (mkF m 7 #[.val (.long p0), .second, .val (.long p1), .second] [(.long p0)]))
    refine Go.back (fun t k => XS.goto X0.here hx rfl (pc0 := 7) (pc' := 11) rfl (hb hby d3_7) (by decide) (by decide) k) ?_
    show Go p.tables e below (P3 p0 p1 h0 n0 s) (s₁.setTop (mkF m 11 #[.val (.long p0), .second, .val (.long p1), .second] [(.long p0)]))
    exact J2 p0 r7.symm
theorem d1_0 : decode prog_3_method_2_code 0 = .ok (.lload_n 0, 1) := by decide +kernel
theorem d1_1 : decode prog_3_method_2_code 1 = .ok (.ldc2_w 9, 3) := by decide +kernel
theorem d1_4 : decode prog_3_method_2_code 4 = .ok (.iload_n 2, 1) := by decide +kernel
theorem d1_5 : decode prog_3_method_2_code 5 = .ok (.i2l, 1) := by decide +kernel
theorem d1_6 : decode prog_3_method_2_code 6 = .ok (.lmul, 1) := by decide +kernel
theorem d1_7 : decode prog_3_method_2_code 7 = .ok (.invokestatic 11, 3) := by decide +kernel
theorem d1_10 : decode prog_3_method_2_code 10 = .ok (.ldc2_w 19, 3) := by decide +kernel
theorem d1_13 : decode prog_3_method_2_code 13 = .ok (.invokestatic 21, 3) := by decide +kernel
theorem d1_16 : decode prog_3_method_2_code 16 = .ok (.l2i, 1) := by decide +kernel
theorem d1_17 : decode prog_3_method_2_code 17 = .ok (.ireturn, 1) := by decide +kernel
def f1 (p0 : Int64) (p1 : Int32) : Int32 := (((f3 (f2 p0 ((2 : Int64) * ((p1).toInt64))) (2147483639 : Int64))).toInt32)
def Q1 (p0 : Int64) (p1 : Int32) (h0 : Heap) (n0 : Nat) (v : Option Value) (h : Heap) (L : List Loc) : Prop := v = some (.int (f1 p0 p1)) ∧ Fr n0 L ∧ h = h0
abbrev rmm1 : Room := { frames := 1, cells := 0, slots := 0, locals := 15 }
abbrev P1 (p0 : Int64) (p1 : Int32) (h0 : Heap) (n0 : Nat) (s : State) : Outcome → State → Prop := fun o U' => ∃ v L, o = .returned v ∧ Q1 p0 p1 h0 n0 v U'.heap L ∧ FrameEnd s o U' L rmm1.cells rmm1.slots
theorem pn_1 : plainName "com/example/spillway/spillway/Io" = true := by first | (simp [plainName, overriddenIn]; done) | decide +kernel
theorem ef_1 (m : MethodId) (p0 : Int64) (p1 : Int32) : entryFrame m #[(.long p0), (.int p1)] 3 = mkF m 0 #[.val (.long p0), .second, .val (.int p1)] [] := by first | (simp [entryFrame, mkF, argsToLocals, Value.category]; done) | rfl
set_option maxRecDepth 65536 in
set_option maxHeartbeats 40000000 in
theorem rm1 (l : Launch) (Z : State) (a0 : Array Value) (hw : ∀ d ∈ tables_1, d.before a0 Z = true) (ws : List Jvm.Cond) (p0 : Int64) (p1 : Int32) (h0 : Heap) (n0 : Nat) :
    MetFree l (⟨"com/example/spillway/spillway/Io", "grownCapacity", "(JI)I"⟩ : MethodName) (head1 (Jvm.Cond.code (⟨"com/example/spillway/spillway/Io", "grownCapacity", "(JI)I"⟩ : MethodName) prog_3_method_2_code 3 (some .int) :: ws) rmm1) (fun a U => a = #[(.long p0), (.int p1)] ∧ Z.Warmed39 U.vm ∧ U.heap = h0) (fun _ _ _ _ _ => True) (fun _ U o U' => ∃ v L, o = .returned v ∧ Q1 p0 p1 h0 n0 v U'.heap L ∧ FrameEnd U o U' L rmm1.cells rmm1.slots) := by
  refine MetFree.of_bodySF (plainFor_of_name pn_1) hisR ?_
  intro p e s m args below meth c s₁ Bd hml0 hP hK
  obtain ⟨rfl, hZ, hh⟩ := hP
  have hx := Bd.exec
  have hby := Bd.bytes
  have hml : c.maxLocals = 3 := hml0
  have hown : s.vm.findClass "com/example/spillway/spillway/Io" = some m.cls := findClass_of_methodNamed Bd.named
  have hnm := (name_of_methodNamed Bd.named Bd.method).1
  have X0 : Stand p l e rmm1 s m #[(.long p0), (.int p1)] below meth c s₁ [] 0 0 := Stand.of_body Bd
  have e0 : s₁.heap = h0 := by rw [← hh, Bd.state]; rfl
  have N0 := Fr.nil n0
  show Go p.tables e below (P1 p0 p1 h0 n0 s) (s₁.setTop (entryFrame m #[(.long p0), (.int p1)] 3))
  refine Go.back (fun t k => castTop (ef_1 m p0 p1) k) ?_
  show Go p.tables e below (P1 p0 p1 h0 n0 s) (s₁.setTop (mkF m 0 #[.val (.long p0), .second, .val (.int p1)] []))
  have hf : f1 p0 p1 = (((f3 (f2 p0 ((2 : Int64) * ((p1).toInt64))) (2147483639 : Int64))).toInt32) := rfl
  refine Go.back (fun t k => XS.lloadN X0.here hx rfl (hb hby d1_0) rfl  k) ?_
  show Go p.tables e below (P1 p0 p1 h0 n0 s) (s₁.setTop (mkF m 1 #[.val (.long p0), .second, .val (.int p1)] [(.long p0)]))
  refine Go.back (fun t k => X0.ldc2Long hx hown (mvT hZ (hw _ (List.mem_of_getElem? (i := 5) rfl))) (g := (mkF m 1 #[.val (.long p0), .second, .val (.int p1)] [(.long p0)])) rfl (hb hby d1_1) t k) ?_
  show Go p.tables e below (P1 p0 p1 h0 n0 s) (s₁.setTop (mkF m 4 #[.val (.long p0), .second, .val (.int p1)] [(.long (2 : Int64)), (.long p0)]))
  refine Go.back (fun t k => XS.iloadN X0.here hx rfl (hb hby d1_4) rfl  k) ?_
  show Go p.tables e below (P1 p0 p1 h0 n0 s) (s₁.setTop (mkF m 5 #[.val (.long p0), .second, .val (.int p1)] [(.int p1), (.long (2 : Int64)), (.long p0)]))
  refine Go.back (fun t k => XS.i2l X0.here hx rfl (hb hby d1_5) rfl k) ?_
  show Go p.tables e below (P1 p0 p1 h0 n0 s) (s₁.setTop (mkF m 6 #[.val (.long p0), .second, .val (.int p1)] [(.long ((p1).toInt64)), (.long (2 : Int64)), (.long p0)]))
  refine Go.back (fun t k => XS.lmul X0.here hx rfl (hb hby d1_6) rfl k) ?_
  show Go p.tables e below (P1 p0 p1 h0 n0 s) (s₁.setTop (mkF m 7 #[.val (.long p0), .second, .val (.int p1)] [(.long ((2 : Int64) * ((p1).toInt64))), (.long p0)]))
  obtain ⟨_, _, ⟨T1, L1, k1, n1⟩, -, X1, ⟨Lc1, hQ1, l1, y1, z1⟩, st1⟩ := Jvm.LawKit.callS X0 hx (y := (⟨"java/lang/Math", "max", "(JJ)J"⟩ : MethodName)) hown (mvT hZ (hw _ (List.mem_of_getElem? (i := 6) rfl))) (mvT hZ (hw _ (List.mem_of_getElem? (i := 7) rfl))) (mvT hZ (hw _ (List.mem_of_getElem? (i := 8) rfl))) (mvT hZ (hw _ (List.mem_of_getElem? (i := 9) rfl))) (by decide) (backOf (W := 0) (rm2 l Z a0 hw [] p0 ((2 : Int64) * ((p1).toInt64)) h0 n0) hZ (hw _ (List.mem_of_getElem? (i := 9) rfl)) (hw _ (List.mem_of_getElem? (i := 8) rfl)) (by decide) (by decide)) (g := (mkF m 7 #[.val (.long p0), .second, .val (.int p1)] [(.long ((2 : Int64) * ((p1).toInt64))), (.long p0)])) rfl (by rw [hml]; rfl) (argsL := [(.long p0), (.long ((2 : Int64) * ((p1).toInt64)))]) (rest := []) (lenOf pd_0 rfl) rfl (by show 2 * 0 + _ ≤ _; exact Nat.le_of_eq rfl) (hb hby d1_7) (fun _ _ => ⟨rfl, e0, (by decide : 0 + 0 ≤ _), (by decide : 0 + 0 ≤ _)⟩)
  dsimp only [Pt.U, Pt.locs, Pt.cells, Pt.slots] at X1 l1 y1 z1 st1 hQ1
  subst l1 y1 z1
  obtain ⟨rfl, N1q, e1⟩ := hQ1
  have N1 := Fr.app N0 N1q
  refine Go.back st1 ?_
  show Go p.tables e below (P1 p0 p1 h0 n0 s) (T1.setTop (mkF m 10 #[.val (.long p0), .second, .val (.int p1)] [(.long (f2 p0 ((2 : Int64) * ((p1).toInt64))))]))
  refine Go.back (fun t k => X1.ldc2Long hx hown (mvT hZ (hw _ (List.mem_of_getElem? (i := 10) rfl))) (g := (mkF m 10 #[.val (.long p0), .second, .val (.int p1)] [(.long (f2 p0 ((2 : Int64) * ((p1).toInt64))))])) rfl (hb hby d1_10) t k) ?_
  show Go p.tables e below (P1 p0 p1 h0 n0 s) (T1.setTop (mkF m 13 #[.val (.long p0), .second, .val (.int p1)] [(.long (2147483639 : Int64)), (.long (f2 p0 ((2 : Int64) * ((p1).toInt64))))]))
  obtain ⟨_, _, ⟨T2, L2, k2, n2⟩, -, X2, ⟨Lc2, hQ2, l2, y2, z2⟩, st2⟩ := Jvm.LawKit.callS X1 hx (y := (⟨"java/lang/Math", "min", "(JJ)J"⟩ : MethodName)) hown (mvT hZ (hw _ (List.mem_of_getElem? (i := 11) rfl))) (mvT hZ (hw _ (List.mem_of_getElem? (i := 12) rfl))) (mvT hZ (hw _ (List.mem_of_getElem? (i := 8) rfl))) (mvT hZ (hw _ (List.mem_of_getElem? (i := 13) rfl))) (by decide) (backOf (W := 0) (rm3 l Z a0 hw [] (f2 p0 ((2 : Int64) * ((p1).toInt64))) (2147483639 : Int64) h0 n0) hZ (hw _ (List.mem_of_getElem? (i := 13) rfl)) (hw _ (List.mem_of_getElem? (i := 8) rfl)) (by decide) (by decide)) (g := (mkF m 13 #[.val (.long p0), .second, .val (.int p1)] [(.long (2147483639 : Int64)), (.long (f2 p0 ((2 : Int64) * ((p1).toInt64))))])) rfl (by rw [hml]; rfl) (argsL := [(.long (f2 p0 ((2 : Int64) * ((p1).toInt64)))), (.long (2147483639 : Int64))]) (rest := []) (lenOf pd_0 rfl) rfl (by show 2 * 0 + _ ≤ _; exact Nat.le_of_eq rfl) (hb hby d1_13) (fun _ _ => ⟨rfl, e1, (by decide : 0 + 0 ≤ _), (by decide : 0 + 0 ≤ _)⟩)
  dsimp only [Pt.U, Pt.locs, Pt.cells, Pt.slots] at X2 l2 y2 z2 st2 hQ2
  subst l2 y2 z2
  obtain ⟨rfl, N2q, e2⟩ := hQ2
  have N2 := Fr.app N1 N2q
  refine Go.back st2 ?_
  show Go p.tables e below (P1 p0 p1 h0 n0 s) (T2.setTop (mkF m 16 #[.val (.long p0), .second, .val (.int p1)] [(.long (f3 (f2 p0 ((2 : Int64) * ((p1).toInt64))) (2147483639 : Int64)))]))
  refine Go.back (fun t k => XS.l2i X2.here hx rfl (hb hby d1_16) rfl k) ?_
  show Go p.tables e below (P1 p0 p1 h0 n0 s) (T2.setTop (mkF m 17 #[.val (.long p0), .second, .val (.int p1)] [(.int (((f3 (f2 p0 ((2 : Int64) * ((p1).toInt64))) (2147483639 : Int64))).toInt32))]))
  exact Go.retI X2 hx Bd.returns (hb hby d1_17) Bd.notSynchronized ⟨by rw [hf], N2, e2⟩ (by decide) (by decide)
def f0 (p0 : Int64) (p1 : Int32) (p2 : Int32) (p3 : Int32) : Bool := (let z2 : Int64 := ((((p1 &&& (2147483647 : Int32))).toInt64) + (((p1 &&& (2147483647 : Int32))).toInt64)); (let z6 : Int64 := (if (p2 &&& (3 : Int32)) = (1 : Int32) then (z2 + ((p3).toInt64)) else (if (p2 &&& (3 : Int32)) = (2 : Int32) then (let z7 : Int64 := ((2147483639 : Int64) + ((p3).toInt64)); z7) else p0)); (let z10 : Int32 := (f1 z6 (p1 &&& (2147483647 : Int32))); (let z14 : Bool := (if (2147483639 : Int64) < ((z10).toInt64) then false else true); (let z19 : Bool := (if ((z10).toInt64) < (f3 z6 (2147483639 : Int64)) then false else true); (let z24 : Bool := (if ((z10).toInt64) < (f3 z2 (2147483639 : Int64)) then false else true); (let z28 : Bool := (if ((z10).toInt64) = z6 then true else (if ((z10).toInt64) = z2 then true else (if ((z10).toInt64) = (2147483639 : Int64) then true else false))); (let z32 : Bool := (if z14 = true then (if z19 = true then (if z24 = true then (if z28 = true then true else false) else false) else false) else false); z32))))))))
def Q0 (p0 : Int64) (p1 : Int32) (p2 : Int32) (p3 : Int32) (h0 : Heap) (n0 : Nat) (v : Option Value) (h : Heap) (L : List Loc) : Prop := v = some (.int (b2i (f0 p0 p1 p2 p3))) ∧ Fr n0 L ∧ h = h0
abbrev P0 (p0 : Int64) (p1 : Int32) (p2 : Int32) (p3 : Int32) (h0 : Heap) (n0 : Nat) (s : State) : Outcome → State → Prop := fun o U' => ∃ v L, o = .returned v ∧ Q0 p0 p1 p2 p3 h0 n0 v U'.heap L ∧ FrameEnd s o U' L room_1.cells room_1.slots
theorem pn_0 : plainName "com/example/spillway/spillway/IoGrownCapacityPinLaw" = true := by first | (simp [plainName, overriddenIn]; done) | decide +kernel
theorem ef_0 (m : MethodId) (p0 : Int64) (p1 : Int32) (p2 : Int32) (p3 : Int32) : entryFrame m #[(.long p0), (.int p1), (.int p2), (.int p3)] maxLocals = mkF m 0 #[.val (.long p0), .second, .val (.int p1), .val (.int p2), .val (.int p3), .unset, .unset, .unset, .unset, .unset, .unset, .unset, .unset, .unset, .unset, .unset, .unset, .unset, .unset, .unset] [] := by first | (simp [entryFrame, mkF, argsToLocals, Value.category, maxLocals]; done) | rfl
set_option maxRecDepth 65536 in
set_option maxHeartbeats 40000000 in
theorem rm0 (l : Launch) (Z : State) (a0 : Array Value) (hw : ∀ d ∈ tables_1, d.before a0 Z = true) (ws : List Jvm.Cond) (p0 : Int64) (p1 : Int32) (p2 : Int32) (p3 : Int32) (h0 : Heap) (n0 : Nat) :
    MetFree l x (head1 (Jvm.Cond.code x code maxLocals ret :: ws) room_1) (fun a U => a = #[(.long p0), (.int p1), (.int p2), (.int p3)] ∧ Z.Warmed39 U.vm ∧ U.heap = h0) (fun _ _ _ _ _ => True) (fun _ U o U' => ∃ v L, o = .returned v ∧ Q0 p0 p1 p2 p3 h0 n0 v U'.heap L ∧ FrameEnd U o U' L room_1.cells room_1.slots) := by
  refine MetFree.of_bodySF (plainFor_of_name pn_0) hisR ?_
  intro p e s m args below meth c s₁ Bd hml0 hP hK
  obtain ⟨rfl, hZ, hh⟩ := hP
  have hx := Bd.exec
  have hby := Bd.bytes
  have hml : c.maxLocals = 20 := hml0
  have hown : s.vm.findClass "com/example/spillway/spillway/IoGrownCapacityPinLaw" = some m.cls := findClass_of_methodNamed Bd.named
  have hnm := (name_of_methodNamed Bd.named Bd.method).1
  have X0 : Stand p l e room_1 s m #[(.long p0), (.int p1), (.int p2), (.int p3)] below meth c s₁ [] 0 0 := Stand.of_body Bd
  have e0 : s₁.heap = h0 := by rw [← hh, Bd.state]; rfl
  have N0 := Fr.nil n0
  show Go p.tables e below (P0 p0 p1 p2 p3 h0 n0 s) (s₁.setTop (entryFrame m #[(.long p0), (.int p1), (.int p2), (.int p3)] maxLocals))
  refine Go.back (fun t k => castTop (ef_0 m p0 p1 p2 p3) k) ?_
  show Go p.tables e below (P0 p0 p1 p2 p3 h0 n0 s) (s₁.setTop (mkF m 0 #[.val (.long p0), .second, .val (.int p1), .val (.int p2), .val (.int p3), .unset, .unset, .unset, .unset, .unset, .unset, .unset, .unset, .unset, .unset, .unset, .unset, .unset, .unset, .unset] []))
  have hf : f0 p0 p1 p2 p3 = (let z2 : Int64 := ((((p1 &&& (2147483647 : Int32))).toInt64) + (((p1 &&& (2147483647 : Int32))).toInt64)); (let z6 : Int64 := (if (p2 &&& (3 : Int32)) = (1 : Int32) then (z2 + ((p3).toInt64)) else (if (p2 &&& (3 : Int32)) = (2 : Int32) then (let z7 : Int64 := ((2147483639 : Int64) + ((p3).toInt64)); z7) else p0)); (let z10 : Int32 := (f1 z6 (p1 &&& (2147483647 : Int32))); (let z14 : Bool := (if (2147483639 : Int64) < ((z10).toInt64) then false else true); (let z19 : Bool := (if ((z10).toInt64) < (f3 z6 (2147483639 : Int64)) then false else true); (let z24 : Bool := (if ((z10).toInt64) < (f3 z2 (2147483639 : Int64)) then false else true); (let z28 : Bool := (if ((z10).toInt64) = z6 then true else (if ((z10).toInt64) = z2 then true else (if ((z10).toInt64) = (2147483639 : Int64) then true else false))); (let z32 : Bool := (if z14 = true then (if z19 = true then (if z24 = true then (if z28 = true then true else false) else false) else false) else false); z32)))))))) := rfl
  refine Go.back (fun t k => XS.iloadN X0.here hx rfl (hb hby at_0) rfl  k) ?_
  show Go p.tables e below (P0 p0 p1 p2 p3 h0 n0 s) (s₁.setTop (mkF m 1 #[.val (.long p0), .second, .val (.int p1), .val (.int p2), .val (.int p3), .unset, .unset, .unset, .unset, .unset, .unset, .unset, .unset, .unset, .unset, .unset, .unset, .unset, .unset, .unset] [(.int p1)]))
  refine Go.back (fun t k => X0.ldcInt hx hown (mvT hZ (hw _ (List.mem_of_getElem? (i := 0) rfl))) (g := (mkF m 1 #[.val (.long p0), .second, .val (.int p1), .val (.int p2), .val (.int p3), .unset, .unset, .unset, .unset, .unset, .unset, .unset, .unset, .unset, .unset, .unset, .unset, .unset, .unset, .unset] [(.int p1)])) rfl (hb hby at_1) t k) ?_
  show Go p.tables e below (P0 p0 p1 p2 p3 h0 n0 s) (s₁.setTop (mkF m 3 #[.val (.long p0), .second, .val (.int p1), .val (.int p2), .val (.int p3), .unset, .unset, .unset, .unset, .unset, .unset, .unset, .unset, .unset, .unset, .unset, .unset, .unset, .unset, .unset] [(.int (2147483647 : Int32)), (.int p1)]))
  refine Go.back (fun t k => XS.iand X0.here hx rfl (hb hby at_3) rfl k) ?_
  show Go p.tables e below (P0 p0 p1 p2 p3 h0 n0 s) (s₁.setTop (mkF m 4 #[.val (.long p0), .second, .val (.int p1), .val (.int p2), .val (.int p3), .unset, .unset, .unset, .unset, .unset, .unset, .unset, .unset, .unset, .unset, .unset, .unset, .unset, .unset, .unset] [(.int (p1 &&& (2147483647 : Int32)))]))
  refine Go.back (fun t k => XS.istore X0.here hx rfl (hb hby at_4) rfl (l' := #[.val (.long p0), .second, .val (.int p1), .val (.int p2), .val (.int p3), .val (.int (p1 &&& (2147483647 : Int32))), .unset, .unset, .unset, .unset, .unset, .unset, .unset, .unset, .unset, .unset, .unset, .unset, .unset, .unset]) rfl k) ?_
  show Go p.tables e below (P0 p0 p1 p2 p3 h0 n0 s) (s₁.setTop (mkF m 6 #[.val (.long p0), .second, .val (.int p1), .val (.int p2), .val (.int p3), .val (.int (p1 &&& (2147483647 : Int32))), .unset, .unset, .unset, .unset, .unset, .unset, .unset, .unset, .unset, .unset, .unset, .unset, .unset, .unset] []))
  refine Go.back (fun t k => XS.iload X0.here hx rfl (hb hby at_6) rfl  k) ?_
  show Go p.tables e below (P0 p0 p1 p2 p3 h0 n0 s) (s₁.setTop (mkF m 8 #[.val (.long p0), .second, .val (.int p1), .val (.int p2), .val (.int p3), .val (.int (p1 &&& (2147483647 : Int32))), .unset, .unset, .unset, .unset, .unset, .unset, .unset, .unset, .unset, .unset, .unset, .unset, .unset, .unset] [(.int (p1 &&& (2147483647 : Int32)))]))
  refine Go.back (fun t k => XS.i2l X0.here hx rfl (hb hby at_8) rfl k) ?_
  show Go p.tables e below (P0 p0 p1 p2 p3 h0 n0 s) (s₁.setTop (mkF m 9 #[.val (.long p0), .second, .val (.int p1), .val (.int p2), .val (.int p3), .val (.int (p1 &&& (2147483647 : Int32))), .unset, .unset, .unset, .unset, .unset, .unset, .unset, .unset, .unset, .unset, .unset, .unset, .unset, .unset] [(.long (((p1 &&& (2147483647 : Int32))).toInt64))]))
  refine Go.back (fun t k => XS.iload X0.here hx rfl (hb hby at_9) rfl  k) ?_
  show Go p.tables e below (P0 p0 p1 p2 p3 h0 n0 s) (s₁.setTop (mkF m 11 #[.val (.long p0), .second, .val (.int p1), .val (.int p2), .val (.int p3), .val (.int (p1 &&& (2147483647 : Int32))), .unset, .unset, .unset, .unset, .unset, .unset, .unset, .unset, .unset, .unset, .unset, .unset, .unset, .unset] [(.int (p1 &&& (2147483647 : Int32))), (.long (((p1 &&& (2147483647 : Int32))).toInt64))]))
  refine Go.back (fun t k => XS.i2l X0.here hx rfl (hb hby at_11) rfl k) ?_
  show Go p.tables e below (P0 p0 p1 p2 p3 h0 n0 s) (s₁.setTop (mkF m 12 #[.val (.long p0), .second, .val (.int p1), .val (.int p2), .val (.int p3), .val (.int (p1 &&& (2147483647 : Int32))), .unset, .unset, .unset, .unset, .unset, .unset, .unset, .unset, .unset, .unset, .unset, .unset, .unset, .unset] [(.long (((p1 &&& (2147483647 : Int32))).toInt64)), (.long (((p1 &&& (2147483647 : Int32))).toInt64))]))
  refine Go.back (fun t k => XS.ladd X0.here hx rfl (hb hby at_12) rfl k) ?_
  show Go p.tables e below (P0 p0 p1 p2 p3 h0 n0 s) (s₁.setTop (mkF m 13 #[.val (.long p0), .second, .val (.int p1), .val (.int p2), .val (.int p3), .val (.int (p1 &&& (2147483647 : Int32))), .unset, .unset, .unset, .unset, .unset, .unset, .unset, .unset, .unset, .unset, .unset, .unset, .unset, .unset] [(.long ((((p1 &&& (2147483647 : Int32))).toInt64) + (((p1 &&& (2147483647 : Int32))).toInt64)))]))
  refine Go.back (fun t k => XS.lstore X0.here hx rfl (hb hby at_13) rfl (l' := #[.val (.long p0), .second, .val (.int p1), .val (.int p2), .val (.int p3), .val (.int (p1 &&& (2147483647 : Int32))), .val (.long ((((p1 &&& (2147483647 : Int32))).toInt64) + (((p1 &&& (2147483647 : Int32))).toInt64))), .second, .unset, .unset, .unset, .unset, .unset, .unset, .unset, .unset, .unset, .unset, .unset, .unset]) rfl k) ?_
  show Go p.tables e below (P0 p0 p1 p2 p3 h0 n0 s) (s₁.setTop (mkF m 15 #[.val (.long p0), .second, .val (.int p1), .val (.int p2), .val (.int p3), .val (.int (p1 &&& (2147483647 : Int32))), .val (.long ((((p1 &&& (2147483647 : Int32))).toInt64) + (((p1 &&& (2147483647 : Int32))).toInt64))), .second, .unset, .unset, .unset, .unset, .unset, .unset, .unset, .unset, .unset, .unset, .unset, .unset] []))
  have J1 : ∀ (z2 : Int64) (hz2 : z2 = ((((p1 &&& (2147483647 : Int32))).toInt64) + (((p1 &&& (2147483647 : Int32))).toInt64))), Go p.tables e below (P0 p0 p1 p2 p3 h0 n0 s) (s₁.setTop (mkF m 15 #[.val (.long p0), .second, .val (.int p1), .val (.int p2), .val (.int p3), .val (.int (p1 &&& (2147483647 : Int32))), .val (.long z2), .second, .unset, .unset, .unset, .unset, .unset, .unset, .unset, .unset, .unset, .unset, .unset, .unset] [])) := by
    intro z2 hz2
    have r3 : f0 p0 p1 p2 p3 = (let z6 : Int64 := (if (p2 &&& (3 : Int32)) = (1 : Int32) then (z2 + ((p3).toInt64)) else (if (p2 &&& (3 : Int32)) = (2 : Int32) then (let z7 : Int64 := ((2147483639 : Int64) + ((p3).toInt64)); z7) else p0)); (let z10 : Int32 := (f1 z6 (p1 &&& (2147483647 : Int32))); (let z14 : Bool := (if (2147483639 : Int64) < ((z10).toInt64) then false else true); (let z19 : Bool := (if ((z10).toInt64) < (f3 z6 (2147483639 : Int64)) then false else true); (let z24 : Bool := (if ((z10).toInt64) < (f3 z2 (2147483639 : Int64)) then false else true); (let z28 : Bool := (if ((z10).toInt64) = z6 then true else (if ((z10).toInt64) = z2 then true else (if ((z10).toInt64) = (2147483639 : Int64) then true else false))); (let z32 : Bool := (if z14 = true then (if z19 = true then (if z24 = true then (if z28 = true then true else false) else false) else false) else false); z32))))))) := by subst hz2; exact hf
    show Go p.tables e below (P0 p0 p1 p2 p3 h0 n0 s) (s₁.setTop (mkF m 15 #[.val (.long p0), .second, .val (.int p1), .val (.int p2), .val (.int p3), .val (.int (p1 &&& (2147483647 : Int32))), .val (.long z2), .second, .unset, .unset, .unset, .unset, .unset, .unset, .unset, .unset, .unset, .unset, .unset, .unset] []))
    refine Go.back (fun t k => XS.iloadN X0.here hx rfl (hb hby at_15) rfl  k) ?_
    show Go p.tables e below (P0 p0 p1 p2 p3 h0 n0 s) (s₁.setTop (mkF m 16 #[.val (.long p0), .second, .val (.int p1), .val (.int p2), .val (.int p3), .val (.int (p1 &&& (2147483647 : Int32))), .val (.long z2), .second, .unset, .unset, .unset, .unset, .unset, .unset, .unset, .unset, .unset, .unset, .unset, .unset] [(.int p2)]))
    refine Go.back (fun t k => XS.iconst X0.here hx rfl (hb hby at_16) k) ?_
    show Go p.tables e below (P0 p0 p1 p2 p3 h0 n0 s) (s₁.setTop (mkF m 17 #[.val (.long p0), .second, .val (.int p1), .val (.int p2), .val (.int p3), .val (.int (p1 &&& (2147483647 : Int32))), .val (.long z2), .second, .unset, .unset, .unset, .unset, .unset, .unset, .unset, .unset, .unset, .unset, .unset, .unset] [(.int (3 : Int32)), (.int p2)]))
    refine Go.back (fun t k => XS.iand X0.here hx rfl (hb hby at_17) rfl k) ?_
    show Go p.tables e below (P0 p0 p1 p2 p3 h0 n0 s) (s₁.setTop (mkF m 18 #[.val (.long p0), .second, .val (.int p1), .val (.int p2), .val (.int p3), .val (.int (p1 &&& (2147483647 : Int32))), .val (.long z2), .second, .unset, .unset, .unset, .unset, .unset, .unset, .unset, .unset, .unset, .unset, .unset, .unset] [(.int (p2 &&& (3 : Int32)))]))
    refine Go.back (fun t k => XS.istore X0.here hx rfl (hb hby at_18) rfl (l' := #[.val (.long p0), .second, .val (.int p1), .val (.int p2), .val (.int p3), .val (.int (p1 &&& (2147483647 : Int32))), .val (.long z2), .second, .val (.int (p2 &&& (3 : Int32))), .unset, .unset, .unset, .unset, .unset, .unset, .unset, .unset, .unset, .unset, .unset]) rfl k) ?_
    show Go p.tables e below (P0 p0 p1 p2 p3 h0 n0 s) (s₁.setTop (mkF m 20 #[.val (.long p0), .second, .val (.int p1), .val (.int p2), .val (.int p3), .val (.int (p1 &&& (2147483647 : Int32))), .val (.long z2), .second, .val (.int (p2 &&& (3 : Int32))), .unset, .unset, .unset, .unset, .unset, .unset, .unset, .unset, .unset, .unset, .unset] []))
    refine Go.back (fun t k => XS.lloadN X0.here hx rfl (hb hby at_20) rfl  k) ?_
    show Go p.tables e below (P0 p0 p1 p2 p3 h0 n0 s) (s₁.setTop (mkF m 21 #[.val (.long p0), .second, .val (.int p1), .val (.int p2), .val (.int p3), .val (.int (p1 &&& (2147483647 : Int32))), .val (.long z2), .second, .val (.int (p2 &&& (3 : Int32))), .unset, .unset, .unset, .unset, .unset, .unset, .unset, .unset, .unset, .unset, .unset] [(.long p0)]))
    refine Go.back (fun t k => XS.lstore X0.here hx rfl (hb hby at_21) rfl (l' := #[.val (.long p0), .second, .val (.int p1), .val (.int p2), .val (.int p3), .val (.int (p1 &&& (2147483647 : Int32))), .val (.long z2), .second, .val (.int (p2 &&& (3 : Int32))), .val (.long p0), .second, .unset, .unset, .unset, .unset, .unset, .unset, .unset, .unset, .unset]) rfl k) ?_
    show Go p.tables e below (P0 p0 p1 p2 p3 h0 n0 s) (s₁.setTop (mkF m 23 #[.val (.long p0), .second, .val (.int p1), .val (.int p2), .val (.int p3), .val (.int (p1 &&& (2147483647 : Int32))), .val (.long z2), .second, .val (.int (p2 &&& (3 : Int32))), .val (.long p0), .second, .unset, .unset, .unset, .unset, .unset, .unset, .unset, .unset, .unset] []))
    refine Go.back (fun t k => XS.iload X0.here hx rfl (hb hby at_23) rfl  k) ?_
    show Go p.tables e below (P0 p0 p1 p2 p3 h0 n0 s) (s₁.setTop (mkF m 25 #[.val (.long p0), .second, .val (.int p1), .val (.int p2), .val (.int p3), .val (.int (p1 &&& (2147483647 : Int32))), .val (.long z2), .second, .val (.int (p2 &&& (3 : Int32))), .val (.long p0), .second, .unset, .unset, .unset, .unset, .unset, .unset, .unset, .unset, .unset] [(.int (p2 &&& (3 : Int32)))]))
    refine Go.back (fun t k => XS.iconst X0.here hx rfl (hb hby at_25) k) ?_
    show Go p.tables e below (P0 p0 p1 p2 p3 h0 n0 s) (s₁.setTop (mkF m 26 #[.val (.long p0), .second, .val (.int p1), .val (.int p2), .val (.int p3), .val (.int (p1 &&& (2147483647 : Int32))), .val (.long z2), .second, .val (.int (p2 &&& (3 : Int32))), .val (.long p0), .second, .unset, .unset, .unset, .unset, .unset, .unset, .unset, .unset, .unset] [(.int (1 : Int32)), (.int (p2 &&& (3 : Int32)))]))
    have J5 : ∀ (z6 : Int64) (hz6 : z6 = (if (p2 &&& (3 : Int32)) = (1 : Int32) then (z2 + ((p3).toInt64)) else (if (p2 &&& (3 : Int32)) = (2 : Int32) then (let z7 : Int64 := ((2147483639 : Int64) + ((p3).toInt64)); z7) else p0))), Go p.tables e below (P0 p0 p1 p2 p3 h0 n0 s) (s₁.setTop (mkF m 55 #[.val (.long p0), .second, .val (.int p1), .val (.int p2), .val (.int p3), .val (.int (p1 &&& (2147483647 : Int32))), .val (.long z2), .second, .val (.int (p2 &&& (3 : Int32))), .val (.long z6), .second, .unset, .unset, .unset, .unset, .unset, .unset, .unset, .unset, .unset] [])) := by
      intro z6 hz6
      have r7 : f0 p0 p1 p2 p3 = (let z10 : Int32 := (f1 z6 (p1 &&& (2147483647 : Int32))); (let z14 : Bool := (if (2147483639 : Int64) < ((z10).toInt64) then false else true); (let z19 : Bool := (if ((z10).toInt64) < (f3 z6 (2147483639 : Int64)) then false else true); (let z24 : Bool := (if ((z10).toInt64) < (f3 z2 (2147483639 : Int64)) then false else true); (let z28 : Bool := (if ((z10).toInt64) = z6 then true else (if ((z10).toInt64) = z2 then true else (if ((z10).toInt64) = (2147483639 : Int64) then true else false))); (let z32 : Bool := (if z14 = true then (if z19 = true then (if z24 = true then (if z28 = true then true else false) else false) else false) else false); z32)))))) := by subst hz6; exact r3
      show Go p.tables e below (P0 p0 p1 p2 p3 h0 n0 s) (s₁.setTop (mkF m 55 #[.val (.long p0), .second, .val (.int p1), .val (.int p2), .val (.int p3), .val (.int (p1 &&& (2147483647 : Int32))), .val (.long z2), .second, .val (.int (p2 &&& (3 : Int32))), .val (.long z6), .second, .unset, .unset, .unset, .unset, .unset, .unset, .unset, .unset, .unset] []))
      refine Go.back (fun t k => XS.lload X0.here hx rfl (hb hby at_55) rfl  k) ?_
      show Go p.tables e below (P0 p0 p1 p2 p3 h0 n0 s) (s₁.setTop (mkF m 57 #[.val (.long p0), .second, .val (.int p1), .val (.int p2), .val (.int p3), .val (.int (p1 &&& (2147483647 : Int32))), .val (.long z2), .second, .val (.int (p2 &&& (3 : Int32))), .val (.long z6), .second, .unset, .unset, .unset, .unset, .unset, .unset, .unset, .unset, .unset] [(.long z6)]))
      refine Go.back (fun t k => XS.iload X0.here hx rfl (hb hby at_57) rfl  k) ?_
      show Go p.tables e below (P0 p0 p1 p2 p3 h0 n0 s) (s₁.setTop (mkF m 59 #[.val (.long p0), .second, .val (.int p1), .val (.int p2), .val (.int p3), .val (.int (p1 &&& (2147483647 : Int32))), .val (.long z2), .second, .val (.int (p2 &&& (3 : Int32))), .val (.long z6), .second, .unset, .unset, .unset, .unset, .unset, .unset, .unset, .unset, .unset] [(.int (p1 &&& (2147483647 : Int32))), (.long z6)]))
      obtain ⟨_, _, ⟨T8, L8, k8, n8⟩, -, X8, ⟨Lc8, hQ8, l8, y8, z8⟩, st8⟩ := Jvm.LawKit.callS X0 hx (y := (⟨"com/example/spillway/spillway/Io", "grownCapacity", "(JI)I"⟩ : MethodName)) hown (mvT hZ (hw _ (List.mem_of_getElem? (i := 1) rfl))) (mvT hZ (hw _ (List.mem_of_getElem? (i := 2) rfl))) (mvT hZ (hw _ (List.mem_of_getElem? (i := 3) rfl))) (mvT hZ (hw _ (List.mem_of_getElem? (i := 4) rfl))) (by decide) (backOf (W := 0) (rm1 l Z a0 hw [] z6 (p1 &&& (2147483647 : Int32)) h0 n0) hZ (hw _ (List.mem_of_getElem? (i := 4) rfl)) (hw _ (List.mem_of_getElem? (i := 3) rfl)) (by decide) (by decide)) (g := (mkF m 59 #[.val (.long p0), .second, .val (.int p1), .val (.int p2), .val (.int p3), .val (.int (p1 &&& (2147483647 : Int32))), .val (.long z2), .second, .val (.int (p2 &&& (3 : Int32))), .val (.long z6), .second, .unset, .unset, .unset, .unset, .unset, .unset, .unset, .unset, .unset] [(.int (p1 &&& (2147483647 : Int32))), (.long z6)])) rfl (by rw [hml]; rfl) (argsL := [(.long z6), (.int (p1 &&& (2147483647 : Int32)))]) (rest := []) (lenOf pd_1 rfl) rfl (by show 2 * 0 + _ ≤ _; exact Nat.le_of_eq rfl) (hb hby at_59) (fun _ _ => ⟨rfl, e0, (by decide : 0 + 0 ≤ _), (by decide : 0 + 0 ≤ _)⟩)
      dsimp only [Pt.U, Pt.locs, Pt.cells, Pt.slots] at X8 l8 y8 z8 st8 hQ8
      subst l8 y8 z8
      obtain ⟨rfl, N8q, e8⟩ := hQ8
      have N8 := Fr.app N0 N8q
      refine Go.back st8 ?_
      show Go p.tables e below (P0 p0 p1 p2 p3 h0 n0 s) (T8.setTop (mkF m 62 #[.val (.long p0), .second, .val (.int p1), .val (.int p2), .val (.int p3), .val (.int (p1 &&& (2147483647 : Int32))), .val (.long z2), .second, .val (.int (p2 &&& (3 : Int32))), .val (.long z6), .second, .unset, .unset, .unset, .unset, .unset, .unset, .unset, .unset, .unset] [(.int (f1 z6 (p1 &&& (2147483647 : Int32))))]))
      refine Go.back (fun t k => XS.istore X8.here hx rfl (hb hby at_62) rfl (l' := #[.val (.long p0), .second, .val (.int p1), .val (.int p2), .val (.int p3), .val (.int (p1 &&& (2147483647 : Int32))), .val (.long z2), .second, .val (.int (p2 &&& (3 : Int32))), .val (.long z6), .second, .val (.int (f1 z6 (p1 &&& (2147483647 : Int32)))), .unset, .unset, .unset, .unset, .unset, .unset, .unset, .unset]) rfl k) ?_
      show Go p.tables e below (P0 p0 p1 p2 p3 h0 n0 s) (T8.setTop (mkF m 64 #[.val (.long p0), .second, .val (.int p1), .val (.int p2), .val (.int p3), .val (.int (p1 &&& (2147483647 : Int32))), .val (.long z2), .second, .val (.int (p2 &&& (3 : Int32))), .val (.long z6), .second, .val (.int (f1 z6 (p1 &&& (2147483647 : Int32)))), .unset, .unset, .unset, .unset, .unset, .unset, .unset, .unset] []))
      have J9 : ∀ (z10 : Int32) (hz10 : z10 = (f1 z6 (p1 &&& (2147483647 : Int32)))), Go p.tables e below (P0 p0 p1 p2 p3 h0 n0 s) (T8.setTop (mkF m 64 #[.val (.long p0), .second, .val (.int p1), .val (.int p2), .val (.int p3), .val (.int (p1 &&& (2147483647 : Int32))), .val (.long z2), .second, .val (.int (p2 &&& (3 : Int32))), .val (.long z6), .second, .val (.int z10), .unset, .unset, .unset, .unset, .unset, .unset, .unset, .unset] [])) := by
        intro z10 hz10
        have r11 : f0 p0 p1 p2 p3 = (let z14 : Bool := (if (2147483639 : Int64) < ((z10).toInt64) then false else true); (let z19 : Bool := (if ((z10).toInt64) < (f3 z6 (2147483639 : Int64)) then false else true); (let z24 : Bool := (if ((z10).toInt64) < (f3 z2 (2147483639 : Int64)) then false else true); (let z28 : Bool := (if ((z10).toInt64) = z6 then true else (if ((z10).toInt64) = z2 then true else (if ((z10).toInt64) = (2147483639 : Int64) then true else false))); (let z32 : Bool := (if z14 = true then (if z19 = true then (if z24 = true then (if z28 = true then true else false) else false) else false) else false); z32))))) := by subst hz10; exact r7
        show Go p.tables e below (P0 p0 p1 p2 p3 h0 n0 s) (T8.setTop (mkF m 64 #[.val (.long p0), .second, .val (.int p1), .val (.int p2), .val (.int p3), .val (.int (p1 &&& (2147483647 : Int32))), .val (.long z2), .second, .val (.int (p2 &&& (3 : Int32))), .val (.long z6), .second, .val (.int z10), .unset, .unset, .unset, .unset, .unset, .unset, .unset, .unset] []))
        refine Go.back (fun t k => X8.ldc2Long hx hown (mvT hZ (hw _ (List.mem_of_getElem? (i := 14) rfl))) (g := (mkF m 64 #[.val (.long p0), .second, .val (.int p1), .val (.int p2), .val (.int p3), .val (.int (p1 &&& (2147483647 : Int32))), .val (.long z2), .second, .val (.int (p2 &&& (3 : Int32))), .val (.long z6), .second, .val (.int z10), .unset, .unset, .unset, .unset, .unset, .unset, .unset, .unset] [])) rfl (hb hby at_64) t k) ?_
        show Go p.tables e below (P0 p0 p1 p2 p3 h0 n0 s) (T8.setTop (mkF m 67 #[.val (.long p0), .second, .val (.int p1), .val (.int p2), .val (.int p3), .val (.int (p1 &&& (2147483647 : Int32))), .val (.long z2), .second, .val (.int (p2 &&& (3 : Int32))), .val (.long z6), .second, .val (.int z10), .unset, .unset, .unset, .unset, .unset, .unset, .unset, .unset] [(.long (2147483639 : Int64))]))
        refine Go.back (fun t k => XS.lstore X8.here hx rfl (hb hby at_67) rfl (l' := #[.val (.long p0), .second, .val (.int p1), .val (.int p2), .val (.int p3), .val (.int (p1 &&& (2147483647 : Int32))), .val (.long z2), .second, .val (.int (p2 &&& (3 : Int32))), .val (.long z6), .second, .val (.int z10), .val (.long (2147483639 : Int64)), .second, .unset, .unset, .unset, .unset, .unset, .unset]) rfl k) ?_
        show Go p.tables e below (P0 p0 p1 p2 p3 h0 n0 s) (T8.setTop (mkF m 69 #[.val (.long p0), .second, .val (.int p1), .val (.int p2), .val (.int p3), .val (.int (p1 &&& (2147483647 : Int32))), .val (.long z2), .second, .val (.int (p2 &&& (3 : Int32))), .val (.long z6), .second, .val (.int z10), .val (.long (2147483639 : Int64)), .second, .unset, .unset, .unset, .unset, .unset, .unset] []))
        refine Go.back (fun t k => XS.iload X8.here hx rfl (hb hby at_69) rfl  k) ?_
        show Go p.tables e below (P0 p0 p1 p2 p3 h0 n0 s) (T8.setTop (mkF m 71 #[.val (.long p0), .second, .val (.int p1), .val (.int p2), .val (.int p3), .val (.int (p1 &&& (2147483647 : Int32))), .val (.long z2), .second, .val (.int (p2 &&& (3 : Int32))), .val (.long z6), .second, .val (.int z10), .val (.long (2147483639 : Int64)), .second, .unset, .unset, .unset, .unset, .unset, .unset] [(.int z10)]))
        refine Go.back (fun t k => XS.i2l X8.here hx rfl (hb hby at_71) rfl k) ?_
        show Go p.tables e below (P0 p0 p1 p2 p3 h0 n0 s) (T8.setTop (mkF m 72 #[.val (.long p0), .second, .val (.int p1), .val (.int p2), .val (.int p3), .val (.int (p1 &&& (2147483647 : Int32))), .val (.long z2), .second, .val (.int (p2 &&& (3 : Int32))), .val (.long z6), .second, .val (.int z10), .val (.long (2147483639 : Int64)), .second, .unset, .unset, .unset, .unset, .unset, .unset] [(.long ((z10).toInt64))]))
        refine Go.back (fun t k => XS.lstore X8.here hx rfl (hb hby at_72) rfl (l' := #[.val (.long p0), .second, .val (.int p1), .val (.int p2), .val (.int p3), .val (.int (p1 &&& (2147483647 : Int32))), .val (.long z2), .second, .val (.int (p2 &&& (3 : Int32))), .val (.long z6), .second, .val (.int z10), .val (.long (2147483639 : Int64)), .second, .val (.long ((z10).toInt64)), .second, .unset, .unset, .unset, .unset]) rfl k) ?_
        show Go p.tables e below (P0 p0 p1 p2 p3 h0 n0 s) (T8.setTop (mkF m 74 #[.val (.long p0), .second, .val (.int p1), .val (.int p2), .val (.int p3), .val (.int (p1 &&& (2147483647 : Int32))), .val (.long z2), .second, .val (.int (p2 &&& (3 : Int32))), .val (.long z6), .second, .val (.int z10), .val (.long (2147483639 : Int64)), .second, .val (.long ((z10).toInt64)), .second, .unset, .unset, .unset, .unset] []))
        refine Go.back (fun t k => XS.lload X8.here hx rfl (hb hby at_74) rfl  k) ?_
        show Go p.tables e below (P0 p0 p1 p2 p3 h0 n0 s) (T8.setTop (mkF m 76 #[.val (.long p0), .second, .val (.int p1), .val (.int p2), .val (.int p3), .val (.int (p1 &&& (2147483647 : Int32))), .val (.long z2), .second, .val (.int (p2 &&& (3 : Int32))), .val (.long z6), .second, .val (.int z10), .val (.long (2147483639 : Int64)), .second, .val (.long ((z10).toInt64)), .second, .unset, .unset, .unset, .unset] [(.long ((z10).toInt64))]))
        refine Go.back (fun t k => XS.lload X8.here hx rfl (hb hby at_76) rfl  k) ?_
        show Go p.tables e below (P0 p0 p1 p2 p3 h0 n0 s) (T8.setTop (mkF m 78 #[.val (.long p0), .second, .val (.int p1), .val (.int p2), .val (.int p3), .val (.int (p1 &&& (2147483647 : Int32))), .val (.long z2), .second, .val (.int (p2 &&& (3 : Int32))), .val (.long z6), .second, .val (.int z10), .val (.long (2147483639 : Int64)), .second, .val (.long ((z10).toInt64)), .second, .unset, .unset, .unset, .unset] [(.long (2147483639 : Int64)), (.long ((z10).toInt64))]))
        refine Go.back (fun t k => XS.lcmp X8.here hx rfl (hb hby at_78) rfl k) ?_
        show Go p.tables e below (P0 p0 p1 p2 p3 h0 n0 s) (T8.setTop (mkF m 79 #[.val (.long p0), .second, .val (.int p1), .val (.int p2), .val (.int p3), .val (.int (p1 &&& (2147483647 : Int32))), .val (.long z2), .second, .val (.int (p2 &&& (3 : Int32))), .val (.long z6), .second, .val (.int z10), .val (.long (2147483639 : Int64)), .second, .val (.long ((z10).toInt64)), .second, .unset, .unset, .unset, .unset] [(.int (lcmpW ((z10).toInt64) (2147483639 : Int64)))]))
        have J13 : ∀ (z14 : Bool) (hz14 : z14 = (if (2147483639 : Int64) < ((z10).toInt64) then false else true)), Go p.tables e below (P0 p0 p1 p2 p3 h0 n0 s) (T8.setTop (mkF m 87 #[.val (.long p0), .second, .val (.int p1), .val (.int p2), .val (.int p3), .val (.int (p1 &&& (2147483647 : Int32))), .val (.long z2), .second, .val (.int (p2 &&& (3 : Int32))), .val (.long z6), .second, .val (.int z10), .val (.long (2147483639 : Int64)), .second, .val (.long ((z10).toInt64)), .second, .unset, .unset, .unset, .unset] [(.int (b2i z14))])) := by
          intro z14 hz14
          have r15 : f0 p0 p1 p2 p3 = (let z19 : Bool := (if ((z10).toInt64) < (f3 z6 (2147483639 : Int64)) then false else true); (let z24 : Bool := (if ((z10).toInt64) < (f3 z2 (2147483639 : Int64)) then false else true); (let z28 : Bool := (if ((z10).toInt64) = z6 then true else (if ((z10).toInt64) = z2 then true else (if ((z10).toInt64) = (2147483639 : Int64) then true else false))); (let z32 : Bool := (if z14 = true then (if z19 = true then (if z24 = true then (if z28 = true then true else false) else false) else false) else false); z32)))) := by subst hz14; exact r11
          show Go p.tables e below (P0 p0 p1 p2 p3 h0 n0 s) (T8.setTop (mkF m 87 #[.val (.long p0), .second, .val (.int p1), .val (.int p2), .val (.int p3), .val (.int (p1 &&& (2147483647 : Int32))), .val (.long z2), .second, .val (.int (p2 &&& (3 : Int32))), .val (.long z6), .second, .val (.int z10), .val (.long (2147483639 : Int64)), .second, .val (.long ((z10).toInt64)), .second, .unset, .unset, .unset, .unset] [(.int (b2i z14))]))
          refine Go.back (fun t k => XS.istore X8.here hx rfl (hb hby at_87) rfl (l' := #[.val (.long p0), .second, .val (.int p1), .val (.int p2), .val (.int p3), .val (.int (p1 &&& (2147483647 : Int32))), .val (.long z2), .second, .val (.int (p2 &&& (3 : Int32))), .val (.long z6), .second, .val (.int z10), .val (.long (2147483639 : Int64)), .second, .val (.long ((z10).toInt64)), .second, .val (.int (b2i z14)), .unset, .unset, .unset]) rfl k) ?_
          show Go p.tables e below (P0 p0 p1 p2 p3 h0 n0 s) (T8.setTop (mkF m 89 #[.val (.long p0), .second, .val (.int p1), .val (.int p2), .val (.int p3), .val (.int (p1 &&& (2147483647 : Int32))), .val (.long z2), .second, .val (.int (p2 &&& (3 : Int32))), .val (.long z6), .second, .val (.int z10), .val (.long (2147483639 : Int64)), .second, .val (.long ((z10).toInt64)), .second, .val (.int (b2i z14)), .unset, .unset, .unset] []))
          refine Go.back (fun t k => XS.lload X8.here hx rfl (hb hby at_89) rfl  k) ?_
          show Go p.tables e below (P0 p0 p1 p2 p3 h0 n0 s) (T8.setTop (mkF m 91 #[.val (.long p0), .second, .val (.int p1), .val (.int p2), .val (.int p3), .val (.int (p1 &&& (2147483647 : Int32))), .val (.long z2), .second, .val (.int (p2 &&& (3 : Int32))), .val (.long z6), .second, .val (.int z10), .val (.long (2147483639 : Int64)), .second, .val (.long ((z10).toInt64)), .second, .val (.int (b2i z14)), .unset, .unset, .unset] [(.long ((z10).toInt64))]))
          refine Go.back (fun t k => XS.lload X8.here hx rfl (hb hby at_91) rfl  k) ?_
          show Go p.tables e below (P0 p0 p1 p2 p3 h0 n0 s) (T8.setTop (mkF m 93 #[.val (.long p0), .second, .val (.int p1), .val (.int p2), .val (.int p3), .val (.int (p1 &&& (2147483647 : Int32))), .val (.long z2), .second, .val (.int (p2 &&& (3 : Int32))), .val (.long z6), .second, .val (.int z10), .val (.long (2147483639 : Int64)), .second, .val (.long ((z10).toInt64)), .second, .val (.int (b2i z14)), .unset, .unset, .unset] [(.long z6), (.long ((z10).toInt64))]))
          refine Go.back (fun t k => XS.lload X8.here hx rfl (hb hby at_93) rfl  k) ?_
          show Go p.tables e below (P0 p0 p1 p2 p3 h0 n0 s) (T8.setTop (mkF m 95 #[.val (.long p0), .second, .val (.int p1), .val (.int p2), .val (.int p3), .val (.int (p1 &&& (2147483647 : Int32))), .val (.long z2), .second, .val (.int (p2 &&& (3 : Int32))), .val (.long z6), .second, .val (.int z10), .val (.long (2147483639 : Int64)), .second, .val (.long ((z10).toInt64)), .second, .val (.int (b2i z14)), .unset, .unset, .unset] [(.long (2147483639 : Int64)), (.long z6), (.long ((z10).toInt64))]))
          obtain ⟨_, _, ⟨T16, L16, k16, n16⟩, -, X16, ⟨Lc16, hQ16, l16, y16, z16⟩, st16⟩ := Jvm.LawKit.callS X8 hx (y := (⟨"java/lang/Math", "min", "(JJ)J"⟩ : MethodName)) hown (mvT hZ (hw _ (List.mem_of_getElem? (i := 15) rfl))) (mvT hZ (hw _ (List.mem_of_getElem? (i := 12) rfl))) (mvT hZ (hw _ (List.mem_of_getElem? (i := 8) rfl))) (mvT hZ (hw _ (List.mem_of_getElem? (i := 13) rfl))) (by decide) (backOf (W := 2) (rm3 l Z a0 hw [] z6 (2147483639 : Int64) h0 n0) hZ (hw _ (List.mem_of_getElem? (i := 13) rfl)) (hw _ (List.mem_of_getElem? (i := 8) rfl)) (by decide) (by decide)) (g := (mkF m 95 #[.val (.long p0), .second, .val (.int p1), .val (.int p2), .val (.int p3), .val (.int (p1 &&& (2147483647 : Int32))), .val (.long z2), .second, .val (.int (p2 &&& (3 : Int32))), .val (.long z6), .second, .val (.int z10), .val (.long (2147483639 : Int64)), .second, .val (.long ((z10).toInt64)), .second, .val (.int (b2i z14)), .unset, .unset, .unset] [(.long (2147483639 : Int64)), (.long z6), (.long ((z10).toInt64))])) rfl (by rw [hml]; rfl) (argsL := [(.long z6), (.long (2147483639 : Int64))]) (rest := [(.long ((z10).toInt64))]) (lenOf pd_0 rfl) rfl (by show 2 * 0 + _ ≤ _; exact Nat.le_of_eq rfl) (hb hby at_95) (fun _ _ => ⟨rfl, e8, (by decide : 0 + 0 ≤ _), (by decide : 0 + 0 ≤ _)⟩)
          dsimp only [Pt.U, Pt.locs, Pt.cells, Pt.slots] at X16 l16 y16 z16 st16 hQ16
          subst l16 y16 z16
          obtain ⟨rfl, N16q, e16⟩ := hQ16
          have N16 := Fr.app N8 N16q
          refine Go.back st16 ?_
          show Go p.tables e below (P0 p0 p1 p2 p3 h0 n0 s) (T16.setTop (mkF m 98 #[.val (.long p0), .second, .val (.int p1), .val (.int p2), .val (.int p3), .val (.int (p1 &&& (2147483647 : Int32))), .val (.long z2), .second, .val (.int (p2 &&& (3 : Int32))), .val (.long z6), .second, .val (.int z10), .val (.long (2147483639 : Int64)), .second, .val (.long ((z10).toInt64)), .second, .val (.int (b2i z14)), .unset, .unset, .unset] [(.long (f3 z6 (2147483639 : Int64))), (.long ((z10).toInt64))]))
          refine Go.back (fun t k => XS.lcmp X16.here hx rfl (hb hby at_98) rfl k) ?_
          show Go p.tables e below (P0 p0 p1 p2 p3 h0 n0 s) (T16.setTop (mkF m 99 #[.val (.long p0), .second, .val (.int p1), .val (.int p2), .val (.int p3), .val (.int (p1 &&& (2147483647 : Int32))), .val (.long z2), .second, .val (.int (p2 &&& (3 : Int32))), .val (.long z6), .second, .val (.int z10), .val (.long (2147483639 : Int64)), .second, .val (.long ((z10).toInt64)), .second, .val (.int (b2i z14)), .unset, .unset, .unset] [(.int (lcmpW ((z10).toInt64) (f3 z6 (2147483639 : Int64))))]))
          have J18 : ∀ (z19 : Bool) (hz19 : z19 = (if ((z10).toInt64) < (f3 z6 (2147483639 : Int64)) then false else true)), Go p.tables e below (P0 p0 p1 p2 p3 h0 n0 s) (T16.setTop (mkF m 107 #[.val (.long p0), .second, .val (.int p1), .val (.int p2), .val (.int p3), .val (.int (p1 &&& (2147483647 : Int32))), .val (.long z2), .second, .val (.int (p2 &&& (3 : Int32))), .val (.long z6), .second, .val (.int z10), .val (.long (2147483639 : Int64)), .second, .val (.long ((z10).toInt64)), .second, .val (.int (b2i z14)), .unset, .unset, .unset] [(.int (b2i z19))])) := by
            intro z19 hz19
            have r20 : f0 p0 p1 p2 p3 = (let z24 : Bool := (if ((z10).toInt64) < (f3 z2 (2147483639 : Int64)) then false else true); (let z28 : Bool := (if ((z10).toInt64) = z6 then true else (if ((z10).toInt64) = z2 then true else (if ((z10).toInt64) = (2147483639 : Int64) then true else false))); (let z32 : Bool := (if z14 = true then (if z19 = true then (if z24 = true then (if z28 = true then true else false) else false) else false) else false); z32))) := by subst hz19; exact r15
            show Go p.tables e below (P0 p0 p1 p2 p3 h0 n0 s) (T16.setTop (mkF m 107 #[.val (.long p0), .second, .val (.int p1), .val (.int p2), .val (.int p3), .val (.int (p1 &&& (2147483647 : Int32))), .val (.long z2), .second, .val (.int (p2 &&& (3 : Int32))), .val (.long z6), .second, .val (.int z10), .val (.long (2147483639 : Int64)), .second, .val (.long ((z10).toInt64)), .second, .val (.int (b2i z14)), .unset, .unset, .unset] [(.int (b2i z19))]))
            refine Go.back (fun t k => XS.istore X16.here hx rfl (hb hby at_107) rfl (l' := #[.val (.long p0), .second, .val (.int p1), .val (.int p2), .val (.int p3), .val (.int (p1 &&& (2147483647 : Int32))), .val (.long z2), .second, .val (.int (p2 &&& (3 : Int32))), .val (.long z6), .second, .val (.int z10), .val (.long (2147483639 : Int64)), .second, .val (.long ((z10).toInt64)), .second, .val (.int (b2i z14)), .val (.int (b2i z19)), .unset, .unset]) rfl k) ?_
            show Go p.tables e below (P0 p0 p1 p2 p3 h0 n0 s) (T16.setTop (mkF m 109 #[.val (.long p0), .second, .val (.int p1), .val (.int p2), .val (.int p3), .val (.int (p1 &&& (2147483647 : Int32))), .val (.long z2), .second, .val (.int (p2 &&& (3 : Int32))), .val (.long z6), .second, .val (.int z10), .val (.long (2147483639 : Int64)), .second, .val (.long ((z10).toInt64)), .second, .val (.int (b2i z14)), .val (.int (b2i z19)), .unset, .unset] []))
            refine Go.back (fun t k => XS.lload X16.here hx rfl (hb hby at_109) rfl  k) ?_
            show Go p.tables e below (P0 p0 p1 p2 p3 h0 n0 s) (T16.setTop (mkF m 111 #[.val (.long p0), .second, .val (.int p1), .val (.int p2), .val (.int p3), .val (.int (p1 &&& (2147483647 : Int32))), .val (.long z2), .second, .val (.int (p2 &&& (3 : Int32))), .val (.long z6), .second, .val (.int z10), .val (.long (2147483639 : Int64)), .second, .val (.long ((z10).toInt64)), .second, .val (.int (b2i z14)), .val (.int (b2i z19)), .unset, .unset] [(.long ((z10).toInt64))]))
            refine Go.back (fun t k => XS.lload X16.here hx rfl (hb hby at_111) rfl  k) ?_
            show Go p.tables e below (P0 p0 p1 p2 p3 h0 n0 s) (T16.setTop (mkF m 113 #[.val (.long p0), .second, .val (.int p1), .val (.int p2), .val (.int p3), .val (.int (p1 &&& (2147483647 : Int32))), .val (.long z2), .second, .val (.int (p2 &&& (3 : Int32))), .val (.long z6), .second, .val (.int z10), .val (.long (2147483639 : Int64)), .second, .val (.long ((z10).toInt64)), .second, .val (.int (b2i z14)), .val (.int (b2i z19)), .unset, .unset] [(.long z2), (.long ((z10).toInt64))]))
            refine Go.back (fun t k => XS.lload X16.here hx rfl (hb hby at_113) rfl  k) ?_
            show Go p.tables e below (P0 p0 p1 p2 p3 h0 n0 s) (T16.setTop (mkF m 115 #[.val (.long p0), .second, .val (.int p1), .val (.int p2), .val (.int p3), .val (.int (p1 &&& (2147483647 : Int32))), .val (.long z2), .second, .val (.int (p2 &&& (3 : Int32))), .val (.long z6), .second, .val (.int z10), .val (.long (2147483639 : Int64)), .second, .val (.long ((z10).toInt64)), .second, .val (.int (b2i z14)), .val (.int (b2i z19)), .unset, .unset] [(.long (2147483639 : Int64)), (.long z2), (.long ((z10).toInt64))]))
            obtain ⟨_, _, ⟨T21, L21, k21, n21⟩, -, X21, ⟨Lc21, hQ21, l21, y21, z21⟩, st21⟩ := Jvm.LawKit.callS X16 hx (y := (⟨"java/lang/Math", "min", "(JJ)J"⟩ : MethodName)) hown (mvT hZ (hw _ (List.mem_of_getElem? (i := 15) rfl))) (mvT hZ (hw _ (List.mem_of_getElem? (i := 12) rfl))) (mvT hZ (hw _ (List.mem_of_getElem? (i := 8) rfl))) (mvT hZ (hw _ (List.mem_of_getElem? (i := 13) rfl))) (by decide) (backOf (W := 2) (rm3 l Z a0 hw [] z2 (2147483639 : Int64) h0 n0) hZ (hw _ (List.mem_of_getElem? (i := 13) rfl)) (hw _ (List.mem_of_getElem? (i := 8) rfl)) (by decide) (by decide)) (g := (mkF m 115 #[.val (.long p0), .second, .val (.int p1), .val (.int p2), .val (.int p3), .val (.int (p1 &&& (2147483647 : Int32))), .val (.long z2), .second, .val (.int (p2 &&& (3 : Int32))), .val (.long z6), .second, .val (.int z10), .val (.long (2147483639 : Int64)), .second, .val (.long ((z10).toInt64)), .second, .val (.int (b2i z14)), .val (.int (b2i z19)), .unset, .unset] [(.long (2147483639 : Int64)), (.long z2), (.long ((z10).toInt64))])) rfl (by rw [hml]; rfl) (argsL := [(.long z2), (.long (2147483639 : Int64))]) (rest := [(.long ((z10).toInt64))]) (lenOf pd_0 rfl) rfl (by show 2 * 0 + _ ≤ _; exact Nat.le_of_eq rfl) (hb hby at_115) (fun _ _ => ⟨rfl, e16, (by decide : 0 + 0 ≤ _), (by decide : 0 + 0 ≤ _)⟩)
            dsimp only [Pt.U, Pt.locs, Pt.cells, Pt.slots] at X21 l21 y21 z21 st21 hQ21
            subst l21 y21 z21
            obtain ⟨rfl, N21q, e21⟩ := hQ21
            have N21 := Fr.app N16 N21q
            refine Go.back st21 ?_
            show Go p.tables e below (P0 p0 p1 p2 p3 h0 n0 s) (T21.setTop (mkF m 118 #[.val (.long p0), .second, .val (.int p1), .val (.int p2), .val (.int p3), .val (.int (p1 &&& (2147483647 : Int32))), .val (.long z2), .second, .val (.int (p2 &&& (3 : Int32))), .val (.long z6), .second, .val (.int z10), .val (.long (2147483639 : Int64)), .second, .val (.long ((z10).toInt64)), .second, .val (.int (b2i z14)), .val (.int (b2i z19)), .unset, .unset] [(.long (f3 z2 (2147483639 : Int64))), (.long ((z10).toInt64))]))
            refine Go.back (fun t k => XS.lcmp X21.here hx rfl (hb hby at_118) rfl k) ?_
            show Go p.tables e below (P0 p0 p1 p2 p3 h0 n0 s) (T21.setTop (mkF m 119 #[.val (.long p0), .second, .val (.int p1), .val (.int p2), .val (.int p3), .val (.int (p1 &&& (2147483647 : Int32))), .val (.long z2), .second, .val (.int (p2 &&& (3 : Int32))), .val (.long z6), .second, .val (.int z10), .val (.long (2147483639 : Int64)), .second, .val (.long ((z10).toInt64)), .second, .val (.int (b2i z14)), .val (.int (b2i z19)), .unset, .unset] [(.int (lcmpW ((z10).toInt64) (f3 z2 (2147483639 : Int64))))]))
            have J23 : ∀ (z24 : Bool) (hz24 : z24 = (if ((z10).toInt64) < (f3 z2 (2147483639 : Int64)) then false else true)), Go p.tables e below (P0 p0 p1 p2 p3 h0 n0 s) (T21.setTop (mkF m 127 #[.val (.long p0), .second, .val (.int p1), .val (.int p2), .val (.int p3), .val (.int (p1 &&& (2147483647 : Int32))), .val (.long z2), .second, .val (.int (p2 &&& (3 : Int32))), .val (.long z6), .second, .val (.int z10), .val (.long (2147483639 : Int64)), .second, .val (.long ((z10).toInt64)), .second, .val (.int (b2i z14)), .val (.int (b2i z19)), .unset, .unset] [(.int (b2i z24))])) := by
              intro z24 hz24
              have r25 : f0 p0 p1 p2 p3 = (let z28 : Bool := (if ((z10).toInt64) = z6 then true else (if ((z10).toInt64) = z2 then true else (if ((z10).toInt64) = (2147483639 : Int64) then true else false))); (let z32 : Bool := (if z14 = true then (if z19 = true then (if z24 = true then (if z28 = true then true else false) else false) else false) else false); z32)) := by subst hz24; exact r20
              show Go p.tables e below (P0 p0 p1 p2 p3 h0 n0 s) (T21.setTop (mkF m 127 #[.val (.long p0), .second, .val (.int p1), .val (.int p2), .val (.int p3), .val (.int (p1 &&& (2147483647 : Int32))), .val (.long z2), .second, .val (.int (p2 &&& (3 : Int32))), .val (.long z6), .second, .val (.int z10), .val (.long (2147483639 : Int64)), .second, .val (.long ((z10).toInt64)), .second, .val (.int (b2i z14)), .val (.int (b2i z19)), .unset, .unset] [(.int (b2i z24))]))
              refine Go.back (fun t k => XS.istore X21.here hx rfl (hb hby at_127) rfl (l' := #[.val (.long p0), .second, .val (.int p1), .val (.int p2), .val (.int p3), .val (.int (p1 &&& (2147483647 : Int32))), .val (.long z2), .second, .val (.int (p2 &&& (3 : Int32))), .val (.long z6), .second, .val (.int z10), .val (.long (2147483639 : Int64)), .second, .val (.long ((z10).toInt64)), .second, .val (.int (b2i z14)), .val (.int (b2i z19)), .val (.int (b2i z24)), .unset]) rfl k) ?_
              show Go p.tables e below (P0 p0 p1 p2 p3 h0 n0 s) (T21.setTop (mkF m 129 #[.val (.long p0), .second, .val (.int p1), .val (.int p2), .val (.int p3), .val (.int (p1 &&& (2147483647 : Int32))), .val (.long z2), .second, .val (.int (p2 &&& (3 : Int32))), .val (.long z6), .second, .val (.int z10), .val (.long (2147483639 : Int64)), .second, .val (.long ((z10).toInt64)), .second, .val (.int (b2i z14)), .val (.int (b2i z19)), .val (.int (b2i z24)), .unset] []))
              refine Go.back (fun t k => XS.lload X21.here hx rfl (hb hby at_129) rfl  k) ?_
              show Go p.tables e below (P0 p0 p1 p2 p3 h0 n0 s) (T21.setTop (mkF m 131 #[.val (.long p0), .second, .val (.int p1), .val (.int p2), .val (.int p3), .val (.int (p1 &&& (2147483647 : Int32))), .val (.long z2), .second, .val (.int (p2 &&& (3 : Int32))), .val (.long z6), .second, .val (.int z10), .val (.long (2147483639 : Int64)), .second, .val (.long ((z10).toInt64)), .second, .val (.int (b2i z14)), .val (.int (b2i z19)), .val (.int (b2i z24)), .unset] [(.long ((z10).toInt64))]))
              refine Go.back (fun t k => XS.lload X21.here hx rfl (hb hby at_131) rfl  k) ?_
              show Go p.tables e below (P0 p0 p1 p2 p3 h0 n0 s) (T21.setTop (mkF m 133 #[.val (.long p0), .second, .val (.int p1), .val (.int p2), .val (.int p3), .val (.int (p1 &&& (2147483647 : Int32))), .val (.long z2), .second, .val (.int (p2 &&& (3 : Int32))), .val (.long z6), .second, .val (.int z10), .val (.long (2147483639 : Int64)), .second, .val (.long ((z10).toInt64)), .second, .val (.int (b2i z14)), .val (.int (b2i z19)), .val (.int (b2i z24)), .unset] [(.long z6), (.long ((z10).toInt64))]))
              refine Go.back (fun t k => XS.lcmp X21.here hx rfl (hb hby at_133) rfl k) ?_
              show Go p.tables e below (P0 p0 p1 p2 p3 h0 n0 s) (T21.setTop (mkF m 134 #[.val (.long p0), .second, .val (.int p1), .val (.int p2), .val (.int p3), .val (.int (p1 &&& (2147483647 : Int32))), .val (.long z2), .second, .val (.int (p2 &&& (3 : Int32))), .val (.long z6), .second, .val (.int z10), .val (.long (2147483639 : Int64)), .second, .val (.long ((z10).toInt64)), .second, .val (.int (b2i z14)), .val (.int (b2i z19)), .val (.int (b2i z24)), .unset] [(.int (lcmpW ((z10).toInt64) z6))]))
              have J27 : ∀ (z28 : Bool) (hz28 : z28 = (if ((z10).toInt64) = z6 then true else (if ((z10).toInt64) = z2 then true else (if ((z10).toInt64) = (2147483639 : Int64) then true else false)))), Go p.tables e below (P0 p0 p1 p2 p3 h0 n0 s) (T21.setTop (mkF m 158 #[.val (.long p0), .second, .val (.int p1), .val (.int p2), .val (.int p3), .val (.int (p1 &&& (2147483647 : Int32))), .val (.long z2), .second, .val (.int (p2 &&& (3 : Int32))), .val (.long z6), .second, .val (.int z10), .val (.long (2147483639 : Int64)), .second, .val (.long ((z10).toInt64)), .second, .val (.int (b2i z14)), .val (.int (b2i z19)), .val (.int (b2i z24)), .unset] [(.int (b2i z28))])) := by
                intro z28 hz28
                have r29 : f0 p0 p1 p2 p3 = (let z32 : Bool := (if z14 = true then (if z19 = true then (if z24 = true then (if z28 = true then true else false) else false) else false) else false); z32) := by subst hz28; exact r25
                show Go p.tables e below (P0 p0 p1 p2 p3 h0 n0 s) (T21.setTop (mkF m 158 #[.val (.long p0), .second, .val (.int p1), .val (.int p2), .val (.int p3), .val (.int (p1 &&& (2147483647 : Int32))), .val (.long z2), .second, .val (.int (p2 &&& (3 : Int32))), .val (.long z6), .second, .val (.int z10), .val (.long (2147483639 : Int64)), .second, .val (.long ((z10).toInt64)), .second, .val (.int (b2i z14)), .val (.int (b2i z19)), .val (.int (b2i z24)), .unset] [(.int (b2i z28))]))
                refine Go.back (fun t k => XS.istore X21.here hx rfl (hb hby at_158) rfl (l' := #[.val (.long p0), .second, .val (.int p1), .val (.int p2), .val (.int p3), .val (.int (p1 &&& (2147483647 : Int32))), .val (.long z2), .second, .val (.int (p2 &&& (3 : Int32))), .val (.long z6), .second, .val (.int z10), .val (.long (2147483639 : Int64)), .second, .val (.long ((z10).toInt64)), .second, .val (.int (b2i z14)), .val (.int (b2i z19)), .val (.int (b2i z24)), .val (.int (b2i z28))]) rfl k) ?_
                show Go p.tables e below (P0 p0 p1 p2 p3 h0 n0 s) (T21.setTop (mkF m 160 #[.val (.long p0), .second, .val (.int p1), .val (.int p2), .val (.int p3), .val (.int (p1 &&& (2147483647 : Int32))), .val (.long z2), .second, .val (.int (p2 &&& (3 : Int32))), .val (.long z6), .second, .val (.int z10), .val (.long (2147483639 : Int64)), .second, .val (.long ((z10).toInt64)), .second, .val (.int (b2i z14)), .val (.int (b2i z19)), .val (.int (b2i z24)), .val (.int (b2i z28))] []))
                refine Go.back (fun t k => XS.iload X21.here hx rfl (hb hby at_160) rfl  k) ?_
                show Go p.tables e below (P0 p0 p1 p2 p3 h0 n0 s) (T21.setTop (mkF m 162 #[.val (.long p0), .second, .val (.int p1), .val (.int p2), .val (.int p3), .val (.int (p1 &&& (2147483647 : Int32))), .val (.long z2), .second, .val (.int (p2 &&& (3 : Int32))), .val (.long z6), .second, .val (.int z10), .val (.long (2147483639 : Int64)), .second, .val (.long ((z10).toInt64)), .second, .val (.int (b2i z14)), .val (.int (b2i z19)), .val (.int (b2i z24)), .val (.int (b2i z28))] [(.int (b2i z14))]))
                have J31 : ∀ (z32 : Bool) (hz32 : z32 = (if z14 = true then (if z19 = true then (if z24 = true then (if z28 = true then true else false) else false) else false) else false)), Go p.tables e below (P0 p0 p1 p2 p3 h0 n0 s) (T21.setTop (mkF m 185 #[.val (.long p0), .second, .val (.int p1), .val (.int p2), .val (.int p3), .val (.int (p1 &&& (2147483647 : Int32))), .val (.long z2), .second, .val (.int (p2 &&& (3 : Int32))), .val (.long z6), .second, .val (.int z10), .val (.long (2147483639 : Int64)), .second, .val (.long ((z10).toInt64)), .second, .val (.int (b2i z14)), .val (.int (b2i z19)), .val (.int (b2i z24)), .val (.int (b2i z28))] [(.int (b2i z32))])) := by
                  intro z32 hz32
                  have r33 : f0 p0 p1 p2 p3 = z32 := by subst hz32; exact r29
                  show Go p.tables e below (P0 p0 p1 p2 p3 h0 n0 s) (T21.setTop (mkF m 185 #[.val (.long p0), .second, .val (.int p1), .val (.int p2), .val (.int p3), .val (.int (p1 &&& (2147483647 : Int32))), .val (.long z2), .second, .val (.int (p2 &&& (3 : Int32))), .val (.long z6), .second, .val (.int z10), .val (.long (2147483639 : Int64)), .second, .val (.long ((z10).toInt64)), .second, .val (.int (b2i z14)), .val (.int (b2i z19)), .val (.int (b2i z24)), .val (.int (b2i z28))] [(.int (b2i z32))]))
                  exact Go.retB (b := z32) X21 hx Bd.returns (hb hby at_185) Bd.notSynchronized ⟨by rw [r33], N21, e21⟩ (by decide) (by decide)
                have r34 : (if z14 = true then (if z19 = true then (if z24 = true then (if z28 = true then true else false) else false) else false) else false) = (if z14 = true then (if z19 = true then (if z24 = true then (if z28 = true then true else false) else false) else false) else false) := rfl
                by_cases hc30 : z14 = true
                · have r35 := r34.trans (if_pos hc30)
                  refine Go.back (fun t k => XS.ifNo X21.here hx rfl (hb hby at_162) rfl ((if0 _ _).trans (feq (b2i_t hc30)).1) k) ?_
                  show Go p.tables e below (P0 p0 p1 p2 p3 h0 n0 s) (T21.setTop (mkF m 165 #[.val (.long p0), .second, .val (.int p1), .val (.int p2), .val (.int p3), .val (.int (p1 &&& (2147483647 : Int32))), .val (.long z2), .second, .val (.int (p2 &&& (3 : Int32))), .val (.long z6), .second, .val (.int z10), .val (.long (2147483639 : Int64)), .second, .val (.long ((z10).toInt64)), .second, .val (.int (b2i z14)), .val (.int (b2i z19)), .val (.int (b2i z24)), .val (.int (b2i z28))] []))
                  refine Go.back (fun t k => XS.iload X21.here hx rfl (hb hby at_165) rfl  k) ?_
                  show Go p.tables e below (P0 p0 p1 p2 p3 h0 n0 s) (T21.setTop (mkF m 167 #[.val (.long p0), .second, .val (.int p1), .val (.int p2), .val (.int p3), .val (.int (p1 &&& (2147483647 : Int32))), .val (.long z2), .second, .val (.int (p2 &&& (3 : Int32))), .val (.long z6), .second, .val (.int z10), .val (.long (2147483639 : Int64)), .second, .val (.long ((z10).toInt64)), .second, .val (.int (b2i z14)), .val (.int (b2i z19)), .val (.int (b2i z24)), .val (.int (b2i z28))] [(.int (b2i z19))]))
                  by_cases hc36 : z19 = true
                  · have r37 := r35.trans (if_pos hc36)
                    refine Go.back (fun t k => XS.ifNo X21.here hx rfl (hb hby at_167) rfl ((if0 _ _).trans (feq (b2i_t hc36)).1) k) ?_
                    show Go p.tables e below (P0 p0 p1 p2 p3 h0 n0 s) (T21.setTop (mkF m 170 #[.val (.long p0), .second, .val (.int p1), .val (.int p2), .val (.int p3), .val (.int (p1 &&& (2147483647 : Int32))), .val (.long z2), .second, .val (.int (p2 &&& (3 : Int32))), .val (.long z6), .second, .val (.int z10), .val (.long (2147483639 : Int64)), .second, .val (.long ((z10).toInt64)), .second, .val (.int (b2i z14)), .val (.int (b2i z19)), .val (.int (b2i z24)), .val (.int (b2i z28))] []))
                    refine Go.back (fun t k => XS.iload X21.here hx rfl (hb hby at_170) rfl  k) ?_
                    show Go p.tables e below (P0 p0 p1 p2 p3 h0 n0 s) (T21.setTop (mkF m 172 #[.val (.long p0), .second, .val (.int p1), .val (.int p2), .val (.int p3), .val (.int (p1 &&& (2147483647 : Int32))), .val (.long z2), .second, .val (.int (p2 &&& (3 : Int32))), .val (.long z6), .second, .val (.int z10), .val (.long (2147483639 : Int64)), .second, .val (.long ((z10).toInt64)), .second, .val (.int (b2i z14)), .val (.int (b2i z19)), .val (.int (b2i z24)), .val (.int (b2i z28))] [(.int (b2i z24))]))
                    by_cases hc38 : z24 = true
                    · have r39 := r37.trans (if_pos hc38)
                      refine Go.back (fun t k => XS.ifNo X21.here hx rfl (hb hby at_172) rfl ((if0 _ _).trans (feq (b2i_t hc38)).1) k) ?_
                      show Go p.tables e below (P0 p0 p1 p2 p3 h0 n0 s) (T21.setTop (mkF m 175 #[.val (.long p0), .second, .val (.int p1), .val (.int p2), .val (.int p3), .val (.int (p1 &&& (2147483647 : Int32))), .val (.long z2), .second, .val (.int (p2 &&& (3 : Int32))), .val (.long z6), .second, .val (.int z10), .val (.long (2147483639 : Int64)), .second, .val (.long ((z10).toInt64)), .second, .val (.int (b2i z14)), .val (.int (b2i z19)), .val (.int (b2i z24)), .val (.int (b2i z28))] []))
                      refine Go.back (fun t k => XS.iload X21.here hx rfl (hb hby at_175) rfl  k) ?_
                      show Go p.tables e below (P0 p0 p1 p2 p3 h0 n0 s) (T21.setTop (mkF m 177 #[.val (.long p0), .second, .val (.int p1), .val (.int p2), .val (.int p3), .val (.int (p1 &&& (2147483647 : Int32))), .val (.long z2), .second, .val (.int (p2 &&& (3 : Int32))), .val (.long z6), .second, .val (.int z10), .val (.long (2147483639 : Int64)), .second, .val (.long ((z10).toInt64)), .second, .val (.int (b2i z14)), .val (.int (b2i z19)), .val (.int (b2i z24)), .val (.int (b2i z28))] [(.int (b2i z28))]))
                      by_cases hc40 : z28 = true
                      · have r41 := r39.trans (if_pos hc40)
                        refine Go.back (fun t k => XS.ifNo X21.here hx rfl (hb hby at_177) rfl ((if0 _ _).trans (feq (b2i_t hc40)).1) k) ?_
                        show Go p.tables e below (P0 p0 p1 p2 p3 h0 n0 s) (T21.setTop (mkF m 180 #[.val (.long p0), .second, .val (.int p1), .val (.int p2), .val (.int p3), .val (.int (p1 &&& (2147483647 : Int32))), .val (.long z2), .second, .val (.int (p2 &&& (3 : Int32))), .val (.long z6), .second, .val (.int z10), .val (.long (2147483639 : Int64)), .second, .val (.long ((z10).toInt64)), .second, .val (.int (b2i z14)), .val (.int (b2i z19)), .val (.int (b2i z24)), .val (.int (b2i z28))] []))
                        refine Go.back (fun t k => XS.iconst X21.here hx rfl (hb hby at_180) k) ?_
                        show Go p.tables e below (P0 p0 p1 p2 p3 h0 n0 s) (T21.setTop (mkF m 181 #[.val (.long p0), .second, .val (.int p1), .val (.int p2), .val (.int p3), .val (.int (p1 &&& (2147483647 : Int32))), .val (.long z2), .second, .val (.int (p2 &&& (3 : Int32))), .val (.long z6), .second, .val (.int z10), .val (.long (2147483639 : Int64)), .second, .val (.long ((z10).toInt64)), .second, .val (.int (b2i z14)), .val (.int (b2i z19)), .val (.int (b2i z24)), .val (.int (b2i z28))] [(.int (1 : Int32))]))
                        refine Go.back (fun t k => XS.goto X21.here hx rfl (pc0 := 181) (pc' := 185) rfl (hb hby at_181) (by decide) (by decide) k) ?_
                        show Go p.tables e below (P0 p0 p1 p2 p3 h0 n0 s) (T21.setTop (mkF m 185 #[.val (.long p0), .second, .val (.int p1), .val (.int p2), .val (.int p3), .val (.int (p1 &&& (2147483647 : Int32))), .val (.long z2), .second, .val (.int (p2 &&& (3 : Int32))), .val (.long z6), .second, .val (.int z10), .val (.long (2147483639 : Int64)), .second, .val (.long ((z10).toInt64)), .second, .val (.int (b2i z14)), .val (.int (b2i z19)), .val (.int (b2i z24)), .val (.int (b2i z28))] [(.int (1 : Int32))]))
                        exact J31 true r41.symm
                      · have r42 := r39.trans (if_neg hc40)
                        refine Go.back (fun t k => XS.ifYes X21.here hx rfl (pc0 := 177) (pc' := 184) rfl (hb hby at_177) rfl ((if0 _ _).trans (teq (b2i_f hc40)).1) (by decide) (by decide) k) ?_
                        show Go p.tables e below (P0 p0 p1 p2 p3 h0 n0 s) (T21.setTop (mkF m 184 #[.val (.long p0), .second, .val (.int p1), .val (.int p2), .val (.int p3), .val (.int (p1 &&& (2147483647 : Int32))), .val (.long z2), .second, .val (.int (p2 &&& (3 : Int32))), .val (.long z6), .second, .val (.int z10), .val (.long (2147483639 : Int64)), .second, .val (.long ((z10).toInt64)), .second, .val (.int (b2i z14)), .val (.int (b2i z19)), .val (.int (b2i z24)), .val (.int (b2i z28))] []))
                        refine Go.back (fun t k => XS.iconst X21.here hx rfl (hb hby at_184) k) ?_
                        show Go p.tables e below (P0 p0 p1 p2 p3 h0 n0 s) (T21.setTop (mkF m 185 #[.val (.long p0), .second, .val (.int p1), .val (.int p2), .val (.int p3), .val (.int (p1 &&& (2147483647 : Int32))), .val (.long z2), .second, .val (.int (p2 &&& (3 : Int32))), .val (.long z6), .second, .val (.int z10), .val (.long (2147483639 : Int64)), .second, .val (.long ((z10).toInt64)), .second, .val (.int (b2i z14)), .val (.int (b2i z19)), .val (.int (b2i z24)), .val (.int (b2i z28))] [(.int (0 : Int32))]))
                        exact J31 false r42.symm
                    · have r43 := r37.trans (if_neg hc38)
                      refine Go.back (fun t k => XS.ifYes X21.here hx rfl (pc0 := 172) (pc' := 184) rfl (hb hby at_172) rfl ((if0 _ _).trans (teq (b2i_f hc38)).1) (by decide) (by decide) k) ?_
                      show Go p.tables e below (P0 p0 p1 p2 p3 h0 n0 s) (T21.setTop (mkF m 184 #[.val (.long p0), .second, .val (.int p1), .val (.int p2), .val (.int p3), .val (.int (p1 &&& (2147483647 : Int32))), .val (.long z2), .second, .val (.int (p2 &&& (3 : Int32))), .val (.long z6), .second, .val (.int z10), .val (.long (2147483639 : Int64)), .second, .val (.long ((z10).toInt64)), .second, .val (.int (b2i z14)), .val (.int (b2i z19)), .val (.int (b2i z24)), .val (.int (b2i z28))] []))
                      refine Go.back (fun t k => XS.iconst X21.here hx rfl (hb hby at_184) k) ?_
                      show Go p.tables e below (P0 p0 p1 p2 p3 h0 n0 s) (T21.setTop (mkF m 185 #[.val (.long p0), .second, .val (.int p1), .val (.int p2), .val (.int p3), .val (.int (p1 &&& (2147483647 : Int32))), .val (.long z2), .second, .val (.int (p2 &&& (3 : Int32))), .val (.long z6), .second, .val (.int z10), .val (.long (2147483639 : Int64)), .second, .val (.long ((z10).toInt64)), .second, .val (.int (b2i z14)), .val (.int (b2i z19)), .val (.int (b2i z24)), .val (.int (b2i z28))] [(.int (0 : Int32))]))
                      exact J31 false r43.symm
                  · have r44 := r35.trans (if_neg hc36)
                    refine Go.back (fun t k => XS.ifYes X21.here hx rfl (pc0 := 167) (pc' := 184) rfl (hb hby at_167) rfl ((if0 _ _).trans (teq (b2i_f hc36)).1) (by decide) (by decide) k) ?_
                    show Go p.tables e below (P0 p0 p1 p2 p3 h0 n0 s) (T21.setTop (mkF m 184 #[.val (.long p0), .second, .val (.int p1), .val (.int p2), .val (.int p3), .val (.int (p1 &&& (2147483647 : Int32))), .val (.long z2), .second, .val (.int (p2 &&& (3 : Int32))), .val (.long z6), .second, .val (.int z10), .val (.long (2147483639 : Int64)), .second, .val (.long ((z10).toInt64)), .second, .val (.int (b2i z14)), .val (.int (b2i z19)), .val (.int (b2i z24)), .val (.int (b2i z28))] []))
                    refine Go.back (fun t k => XS.iconst X21.here hx rfl (hb hby at_184) k) ?_
                    show Go p.tables e below (P0 p0 p1 p2 p3 h0 n0 s) (T21.setTop (mkF m 185 #[.val (.long p0), .second, .val (.int p1), .val (.int p2), .val (.int p3), .val (.int (p1 &&& (2147483647 : Int32))), .val (.long z2), .second, .val (.int (p2 &&& (3 : Int32))), .val (.long z6), .second, .val (.int z10), .val (.long (2147483639 : Int64)), .second, .val (.long ((z10).toInt64)), .second, .val (.int (b2i z14)), .val (.int (b2i z19)), .val (.int (b2i z24)), .val (.int (b2i z28))] [(.int (0 : Int32))]))
                    exact J31 false r44.symm
                · have r45 := r34.trans (if_neg hc30)
                  refine Go.back (fun t k => XS.ifYes X21.here hx rfl (pc0 := 162) (pc' := 184) rfl (hb hby at_162) rfl ((if0 _ _).trans (teq (b2i_f hc30)).1) (by decide) (by decide) k) ?_
                  show Go p.tables e below (P0 p0 p1 p2 p3 h0 n0 s) (T21.setTop (mkF m 184 #[.val (.long p0), .second, .val (.int p1), .val (.int p2), .val (.int p3), .val (.int (p1 &&& (2147483647 : Int32))), .val (.long z2), .second, .val (.int (p2 &&& (3 : Int32))), .val (.long z6), .second, .val (.int z10), .val (.long (2147483639 : Int64)), .second, .val (.long ((z10).toInt64)), .second, .val (.int (b2i z14)), .val (.int (b2i z19)), .val (.int (b2i z24)), .val (.int (b2i z28))] []))
                  refine Go.back (fun t k => XS.iconst X21.here hx rfl (hb hby at_184) k) ?_
                  show Go p.tables e below (P0 p0 p1 p2 p3 h0 n0 s) (T21.setTop (mkF m 185 #[.val (.long p0), .second, .val (.int p1), .val (.int p2), .val (.int p3), .val (.int (p1 &&& (2147483647 : Int32))), .val (.long z2), .second, .val (.int (p2 &&& (3 : Int32))), .val (.long z6), .second, .val (.int z10), .val (.long (2147483639 : Int64)), .second, .val (.long ((z10).toInt64)), .second, .val (.int (b2i z14)), .val (.int (b2i z19)), .val (.int (b2i z24)), .val (.int (b2i z28))] [(.int (0 : Int32))]))
                  exact J31 false r45.symm
              have r46 : (if ((z10).toInt64) = z6 then true else (if ((z10).toInt64) = z2 then true else (if ((z10).toInt64) = (2147483639 : Int64) then true else false))) = (if ((z10).toInt64) = z6 then true else (if ((z10).toInt64) = z2 then true else (if ((z10).toInt64) = (2147483639 : Int64) then true else false))) := rfl
              by_cases hc26 : ((z10).toInt64) = z6
              · have r47 := r46.trans (if_pos hc26)
                refine Go.back (fun t k => XS.ifYes X21.here hx rfl (pc0 := 134) (pc' := 153) rfl (hb hby at_134) rfl ((if0 _ _).trans (teq ((lw_eq _ _).mpr hc26)).1) (by decide) (by decide) k) ?_
                show Go p.tables e below (P0 p0 p1 p2 p3 h0 n0 s) (T21.setTop (mkF m 153 #[.val (.long p0), .second, .val (.int p1), .val (.int p2), .val (.int p3), .val (.int (p1 &&& (2147483647 : Int32))), .val (.long z2), .second, .val (.int (p2 &&& (3 : Int32))), .val (.long z6), .second, .val (.int z10), .val (.long (2147483639 : Int64)), .second, .val (.long ((z10).toInt64)), .second, .val (.int (b2i z14)), .val (.int (b2i z19)), .val (.int (b2i z24)), .unset] []))
                refine Go.back (fun t k => XS.iconst X21.here hx rfl (hb hby at_153) k) ?_
                show Go p.tables e below (P0 p0 p1 p2 p3 h0 n0 s) (T21.setTop (mkF m 154 #[.val (.long p0), .second, .val (.int p1), .val (.int p2), .val (.int p3), .val (.int (p1 &&& (2147483647 : Int32))), .val (.long z2), .second, .val (.int (p2 &&& (3 : Int32))), .val (.long z6), .second, .val (.int z10), .val (.long (2147483639 : Int64)), .second, .val (.long ((z10).toInt64)), .second, .val (.int (b2i z14)), .val (.int (b2i z19)), .val (.int (b2i z24)), .unset] [(.int (1 : Int32))]))
                refine Go.back (fun t k => XS.goto X21.here hx rfl (pc0 := 154) (pc' := 158) rfl (hb hby at_154) (by decide) (by decide) k) ?_
                show Go p.tables e below (P0 p0 p1 p2 p3 h0 n0 s) (T21.setTop (mkF m 158 #[.val (.long p0), .second, .val (.int p1), .val (.int p2), .val (.int p3), .val (.int (p1 &&& (2147483647 : Int32))), .val (.long z2), .second, .val (.int (p2 &&& (3 : Int32))), .val (.long z6), .second, .val (.int z10), .val (.long (2147483639 : Int64)), .second, .val (.long ((z10).toInt64)), .second, .val (.int (b2i z14)), .val (.int (b2i z19)), .val (.int (b2i z24)), .unset] [(.int (1 : Int32))]))
                exact J27 true r47.symm
              · have r48 := r46.trans (if_neg hc26)
                refine Go.back (fun t k => XS.ifNo X21.here hx rfl (hb hby at_134) rfl ((if0 _ _).trans (feq (fun q => hc26 ((lw_eq _ _).mp q))).1) k) ?_
                show Go p.tables e below (P0 p0 p1 p2 p3 h0 n0 s) (T21.setTop (mkF m 137 #[.val (.long p0), .second, .val (.int p1), .val (.int p2), .val (.int p3), .val (.int (p1 &&& (2147483647 : Int32))), .val (.long z2), .second, .val (.int (p2 &&& (3 : Int32))), .val (.long z6), .second, .val (.int z10), .val (.long (2147483639 : Int64)), .second, .val (.long ((z10).toInt64)), .second, .val (.int (b2i z14)), .val (.int (b2i z19)), .val (.int (b2i z24)), .unset] []))
                refine Go.back (fun t k => XS.lload X21.here hx rfl (hb hby at_137) rfl  k) ?_
                show Go p.tables e below (P0 p0 p1 p2 p3 h0 n0 s) (T21.setTop (mkF m 139 #[.val (.long p0), .second, .val (.int p1), .val (.int p2), .val (.int p3), .val (.int (p1 &&& (2147483647 : Int32))), .val (.long z2), .second, .val (.int (p2 &&& (3 : Int32))), .val (.long z6), .second, .val (.int z10), .val (.long (2147483639 : Int64)), .second, .val (.long ((z10).toInt64)), .second, .val (.int (b2i z14)), .val (.int (b2i z19)), .val (.int (b2i z24)), .unset] [(.long ((z10).toInt64))]))
                refine Go.back (fun t k => XS.lload X21.here hx rfl (hb hby at_139) rfl  k) ?_
                show Go p.tables e below (P0 p0 p1 p2 p3 h0 n0 s) (T21.setTop (mkF m 141 #[.val (.long p0), .second, .val (.int p1), .val (.int p2), .val (.int p3), .val (.int (p1 &&& (2147483647 : Int32))), .val (.long z2), .second, .val (.int (p2 &&& (3 : Int32))), .val (.long z6), .second, .val (.int z10), .val (.long (2147483639 : Int64)), .second, .val (.long ((z10).toInt64)), .second, .val (.int (b2i z14)), .val (.int (b2i z19)), .val (.int (b2i z24)), .unset] [(.long z2), (.long ((z10).toInt64))]))
                refine Go.back (fun t k => XS.lcmp X21.here hx rfl (hb hby at_141) rfl k) ?_
                show Go p.tables e below (P0 p0 p1 p2 p3 h0 n0 s) (T21.setTop (mkF m 142 #[.val (.long p0), .second, .val (.int p1), .val (.int p2), .val (.int p3), .val (.int (p1 &&& (2147483647 : Int32))), .val (.long z2), .second, .val (.int (p2 &&& (3 : Int32))), .val (.long z6), .second, .val (.int z10), .val (.long (2147483639 : Int64)), .second, .val (.long ((z10).toInt64)), .second, .val (.int (b2i z14)), .val (.int (b2i z19)), .val (.int (b2i z24)), .unset] [(.int (lcmpW ((z10).toInt64) z2))]))
                by_cases hc49 : ((z10).toInt64) = z2
                · have r50 := r48.trans (if_pos hc49)
                  refine Go.back (fun t k => XS.ifYes X21.here hx rfl (pc0 := 142) (pc' := 153) rfl (hb hby at_142) rfl ((if0 _ _).trans (teq ((lw_eq _ _).mpr hc49)).1) (by decide) (by decide) k) ?_
                  show Go p.tables e below (P0 p0 p1 p2 p3 h0 n0 s) (T21.setTop (mkF m 153 #[.val (.long p0), .second, .val (.int p1), .val (.int p2), .val (.int p3), .val (.int (p1 &&& (2147483647 : Int32))), .val (.long z2), .second, .val (.int (p2 &&& (3 : Int32))), .val (.long z6), .second, .val (.int z10), .val (.long (2147483639 : Int64)), .second, .val (.long ((z10).toInt64)), .second, .val (.int (b2i z14)), .val (.int (b2i z19)), .val (.int (b2i z24)), .unset] []))
                  refine Go.back (fun t k => XS.iconst X21.here hx rfl (hb hby at_153) k) ?_
                  show Go p.tables e below (P0 p0 p1 p2 p3 h0 n0 s) (T21.setTop (mkF m 154 #[.val (.long p0), .second, .val (.int p1), .val (.int p2), .val (.int p3), .val (.int (p1 &&& (2147483647 : Int32))), .val (.long z2), .second, .val (.int (p2 &&& (3 : Int32))), .val (.long z6), .second, .val (.int z10), .val (.long (2147483639 : Int64)), .second, .val (.long ((z10).toInt64)), .second, .val (.int (b2i z14)), .val (.int (b2i z19)), .val (.int (b2i z24)), .unset] [(.int (1 : Int32))]))
                  refine Go.back (fun t k => XS.goto X21.here hx rfl (pc0 := 154) (pc' := 158) rfl (hb hby at_154) (by decide) (by decide) k) ?_
                  show Go p.tables e below (P0 p0 p1 p2 p3 h0 n0 s) (T21.setTop (mkF m 158 #[.val (.long p0), .second, .val (.int p1), .val (.int p2), .val (.int p3), .val (.int (p1 &&& (2147483647 : Int32))), .val (.long z2), .second, .val (.int (p2 &&& (3 : Int32))), .val (.long z6), .second, .val (.int z10), .val (.long (2147483639 : Int64)), .second, .val (.long ((z10).toInt64)), .second, .val (.int (b2i z14)), .val (.int (b2i z19)), .val (.int (b2i z24)), .unset] [(.int (1 : Int32))]))
                  exact J27 true r50.symm
                · have r51 := r48.trans (if_neg hc49)
                  refine Go.back (fun t k => XS.ifNo X21.here hx rfl (hb hby at_142) rfl ((if0 _ _).trans (feq (fun q => hc49 ((lw_eq _ _).mp q))).1) k) ?_
                  show Go p.tables e below (P0 p0 p1 p2 p3 h0 n0 s) (T21.setTop (mkF m 145 #[.val (.long p0), .second, .val (.int p1), .val (.int p2), .val (.int p3), .val (.int (p1 &&& (2147483647 : Int32))), .val (.long z2), .second, .val (.int (p2 &&& (3 : Int32))), .val (.long z6), .second, .val (.int z10), .val (.long (2147483639 : Int64)), .second, .val (.long ((z10).toInt64)), .second, .val (.int (b2i z14)), .val (.int (b2i z19)), .val (.int (b2i z24)), .unset] []))
                  refine Go.back (fun t k => XS.lload X21.here hx rfl (hb hby at_145) rfl  k) ?_
                  show Go p.tables e below (P0 p0 p1 p2 p3 h0 n0 s) (T21.setTop (mkF m 147 #[.val (.long p0), .second, .val (.int p1), .val (.int p2), .val (.int p3), .val (.int (p1 &&& (2147483647 : Int32))), .val (.long z2), .second, .val (.int (p2 &&& (3 : Int32))), .val (.long z6), .second, .val (.int z10), .val (.long (2147483639 : Int64)), .second, .val (.long ((z10).toInt64)), .second, .val (.int (b2i z14)), .val (.int (b2i z19)), .val (.int (b2i z24)), .unset] [(.long ((z10).toInt64))]))
                  refine Go.back (fun t k => XS.lload X21.here hx rfl (hb hby at_147) rfl  k) ?_
                  show Go p.tables e below (P0 p0 p1 p2 p3 h0 n0 s) (T21.setTop (mkF m 149 #[.val (.long p0), .second, .val (.int p1), .val (.int p2), .val (.int p3), .val (.int (p1 &&& (2147483647 : Int32))), .val (.long z2), .second, .val (.int (p2 &&& (3 : Int32))), .val (.long z6), .second, .val (.int z10), .val (.long (2147483639 : Int64)), .second, .val (.long ((z10).toInt64)), .second, .val (.int (b2i z14)), .val (.int (b2i z19)), .val (.int (b2i z24)), .unset] [(.long (2147483639 : Int64)), (.long ((z10).toInt64))]))
                  refine Go.back (fun t k => XS.lcmp X21.here hx rfl (hb hby at_149) rfl k) ?_
                  show Go p.tables e below (P0 p0 p1 p2 p3 h0 n0 s) (T21.setTop (mkF m 150 #[.val (.long p0), .second, .val (.int p1), .val (.int p2), .val (.int p3), .val (.int (p1 &&& (2147483647 : Int32))), .val (.long z2), .second, .val (.int (p2 &&& (3 : Int32))), .val (.long z6), .second, .val (.int z10), .val (.long (2147483639 : Int64)), .second, .val (.long ((z10).toInt64)), .second, .val (.int (b2i z14)), .val (.int (b2i z19)), .val (.int (b2i z24)), .unset] [(.int (lcmpW ((z10).toInt64) (2147483639 : Int64)))]))
                  by_cases hc52 : ((z10).toInt64) = (2147483639 : Int64)
                  · have r53 := r51.trans (if_pos hc52)
                    refine Go.back (fun t k => XS.ifNo X21.here hx rfl (hb hby at_150) rfl ((if0 _ _).trans (teq ((lw_eq _ _).mpr hc52)).2) k) ?_
                    show Go p.tables e below (P0 p0 p1 p2 p3 h0 n0 s) (T21.setTop (mkF m 153 #[.val (.long p0), .second, .val (.int p1), .val (.int p2), .val (.int p3), .val (.int (p1 &&& (2147483647 : Int32))), .val (.long z2), .second, .val (.int (p2 &&& (3 : Int32))), .val (.long z6), .second, .val (.int z10), .val (.long (2147483639 : Int64)), .second, .val (.long ((z10).toInt64)), .second, .val (.int (b2i z14)), .val (.int (b2i z19)), .val (.int (b2i z24)), .unset] []))
                    refine Go.back (fun t k => XS.iconst X21.here hx rfl (hb hby at_153) k) ?_
                    show Go p.tables e below (P0 p0 p1 p2 p3 h0 n0 s) (T21.setTop (mkF m 154 #[.val (.long p0), .second, .val (.int p1), .val (.int p2), .val (.int p3), .val (.int (p1 &&& (2147483647 : Int32))), .val (.long z2), .second, .val (.int (p2 &&& (3 : Int32))), .val (.long z6), .second, .val (.int z10), .val (.long (2147483639 : Int64)), .second, .val (.long ((z10).toInt64)), .second, .val (.int (b2i z14)), .val (.int (b2i z19)), .val (.int (b2i z24)), .unset] [(.int (1 : Int32))]))
                    refine Go.back (fun t k => XS.goto X21.here hx rfl (pc0 := 154) (pc' := 158) rfl (hb hby at_154) (by decide) (by decide) k) ?_
                    show Go p.tables e below (P0 p0 p1 p2 p3 h0 n0 s) (T21.setTop (mkF m 158 #[.val (.long p0), .second, .val (.int p1), .val (.int p2), .val (.int p3), .val (.int (p1 &&& (2147483647 : Int32))), .val (.long z2), .second, .val (.int (p2 &&& (3 : Int32))), .val (.long z6), .second, .val (.int z10), .val (.long (2147483639 : Int64)), .second, .val (.long ((z10).toInt64)), .second, .val (.int (b2i z14)), .val (.int (b2i z19)), .val (.int (b2i z24)), .unset] [(.int (1 : Int32))]))
                    exact J27 true r53.symm
                  · have r54 := r51.trans (if_neg hc52)
                    refine Go.back (fun t k => XS.ifYes X21.here hx rfl (pc0 := 150) (pc' := 157) rfl (hb hby at_150) rfl ((if0 _ _).trans (feq (fun q => hc52 ((lw_eq _ _).mp q))).2) (by decide) (by decide) k) ?_
                    show Go p.tables e below (P0 p0 p1 p2 p3 h0 n0 s) (T21.setTop (mkF m 157 #[.val (.long p0), .second, .val (.int p1), .val (.int p2), .val (.int p3), .val (.int (p1 &&& (2147483647 : Int32))), .val (.long z2), .second, .val (.int (p2 &&& (3 : Int32))), .val (.long z6), .second, .val (.int z10), .val (.long (2147483639 : Int64)), .second, .val (.long ((z10).toInt64)), .second, .val (.int (b2i z14)), .val (.int (b2i z19)), .val (.int (b2i z24)), .unset] []))
                    refine Go.back (fun t k => XS.iconst X21.here hx rfl (hb hby at_157) k) ?_
                    show Go p.tables e below (P0 p0 p1 p2 p3 h0 n0 s) (T21.setTop (mkF m 158 #[.val (.long p0), .second, .val (.int p1), .val (.int p2), .val (.int p3), .val (.int (p1 &&& (2147483647 : Int32))), .val (.long z2), .second, .val (.int (p2 &&& (3 : Int32))), .val (.long z6), .second, .val (.int z10), .val (.long (2147483639 : Int64)), .second, .val (.long ((z10).toInt64)), .second, .val (.int (b2i z14)), .val (.int (b2i z19)), .val (.int (b2i z24)), .unset] [(.int (0 : Int32))]))
                    exact J27 false r54.symm
            have r55 : (if ((z10).toInt64) < (f3 z2 (2147483639 : Int64)) then false else true) = (if ((z10).toInt64) < (f3 z2 (2147483639 : Int64)) then false else true) := rfl
            by_cases hc22 : ((z10).toInt64) < (f3 z2 (2147483639 : Int64))
            · have r56 := r55.trans (if_pos hc22)
              refine Go.back (fun t k => XS.ifYes X21.here hx rfl (pc0 := 119) (pc' := 126) rfl (hb hby at_119) rfl ((if0 _ _).trans (tlt ((lw_lt _ _).mpr hc22)).1) (by decide) (by decide) k) ?_
              show Go p.tables e below (P0 p0 p1 p2 p3 h0 n0 s) (T21.setTop (mkF m 126 #[.val (.long p0), .second, .val (.int p1), .val (.int p2), .val (.int p3), .val (.int (p1 &&& (2147483647 : Int32))), .val (.long z2), .second, .val (.int (p2 &&& (3 : Int32))), .val (.long z6), .second, .val (.int z10), .val (.long (2147483639 : Int64)), .second, .val (.long ((z10).toInt64)), .second, .val (.int (b2i z14)), .val (.int (b2i z19)), .unset, .unset] []))
              refine Go.back (fun t k => XS.iconst X21.here hx rfl (hb hby at_126) k) ?_
              show Go p.tables e below (P0 p0 p1 p2 p3 h0 n0 s) (T21.setTop (mkF m 127 #[.val (.long p0), .second, .val (.int p1), .val (.int p2), .val (.int p3), .val (.int (p1 &&& (2147483647 : Int32))), .val (.long z2), .second, .val (.int (p2 &&& (3 : Int32))), .val (.long z6), .second, .val (.int z10), .val (.long (2147483639 : Int64)), .second, .val (.long ((z10).toInt64)), .second, .val (.int (b2i z14)), .val (.int (b2i z19)), .unset, .unset] [(.int (0 : Int32))]))
              exact J23 false r56.symm
            · have r57 := r55.trans (if_neg hc22)
              refine Go.back (fun t k => XS.ifNo X21.here hx rfl (hb hby at_119) rfl ((if0 _ _).trans (flt (fun q => hc22 ((lw_lt _ _).mp q))).1) k) ?_
              show Go p.tables e below (P0 p0 p1 p2 p3 h0 n0 s) (T21.setTop (mkF m 122 #[.val (.long p0), .second, .val (.int p1), .val (.int p2), .val (.int p3), .val (.int (p1 &&& (2147483647 : Int32))), .val (.long z2), .second, .val (.int (p2 &&& (3 : Int32))), .val (.long z6), .second, .val (.int z10), .val (.long (2147483639 : Int64)), .second, .val (.long ((z10).toInt64)), .second, .val (.int (b2i z14)), .val (.int (b2i z19)), .unset, .unset] []))
              refine Go.back (fun t k => XS.iconst X21.here hx rfl (hb hby at_122) k) ?_
              show Go p.tables e below (P0 p0 p1 p2 p3 h0 n0 s) (T21.setTop (mkF m 123 #[.val (.long p0), .second, .val (.int p1), .val (.int p2), .val (.int p3), .val (.int (p1 &&& (2147483647 : Int32))), .val (.long z2), .second, .val (.int (p2 &&& (3 : Int32))), .val (.long z6), .second, .val (.int z10), .val (.long (2147483639 : Int64)), .second, .val (.long ((z10).toInt64)), .second, .val (.int (b2i z14)), .val (.int (b2i z19)), .unset, .unset] [(.int (1 : Int32))]))
              refine Go.back (fun t k => XS.goto X21.here hx rfl (pc0 := 123) (pc' := 127) rfl (hb hby at_123) (by decide) (by decide) k) ?_
              show Go p.tables e below (P0 p0 p1 p2 p3 h0 n0 s) (T21.setTop (mkF m 127 #[.val (.long p0), .second, .val (.int p1), .val (.int p2), .val (.int p3), .val (.int (p1 &&& (2147483647 : Int32))), .val (.long z2), .second, .val (.int (p2 &&& (3 : Int32))), .val (.long z6), .second, .val (.int z10), .val (.long (2147483639 : Int64)), .second, .val (.long ((z10).toInt64)), .second, .val (.int (b2i z14)), .val (.int (b2i z19)), .unset, .unset] [(.int (1 : Int32))]))
              exact J23 true r57.symm
          have r58 : (if ((z10).toInt64) < (f3 z6 (2147483639 : Int64)) then false else true) = (if ((z10).toInt64) < (f3 z6 (2147483639 : Int64)) then false else true) := rfl
          by_cases hc17 : ((z10).toInt64) < (f3 z6 (2147483639 : Int64))
          · have r59 := r58.trans (if_pos hc17)
            refine Go.back (fun t k => XS.ifYes X16.here hx rfl (pc0 := 99) (pc' := 106) rfl (hb hby at_99) rfl ((if0 _ _).trans (tlt ((lw_lt _ _).mpr hc17)).1) (by decide) (by decide) k) ?_
            show Go p.tables e below (P0 p0 p1 p2 p3 h0 n0 s) (T16.setTop (mkF m 106 #[.val (.long p0), .second, .val (.int p1), .val (.int p2), .val (.int p3), .val (.int (p1 &&& (2147483647 : Int32))), .val (.long z2), .second, .val (.int (p2 &&& (3 : Int32))), .val (.long z6), .second, .val (.int z10), .val (.long (2147483639 : Int64)), .second, .val (.long ((z10).toInt64)), .second, .val (.int (b2i z14)), .unset, .unset, .unset] []))
            refine Go.back (fun t k => XS.iconst X16.here hx rfl (hb hby at_106) k) ?_
            show Go p.tables e below (P0 p0 p1 p2 p3 h0 n0 s) (T16.setTop (mkF m 107 #[.val (.long p0), .second, .val (.int p1), .val (.int p2), .val (.int p3), .val (.int (p1 &&& (2147483647 : Int32))), .val (.long z2), .second, .val (.int (p2 &&& (3 : Int32))), .val (.long z6), .second, .val (.int z10), .val (.long (2147483639 : Int64)), .second, .val (.long ((z10).toInt64)), .second, .val (.int (b2i z14)), .unset, .unset, .unset] [(.int (0 : Int32))]))
            exact J18 false r59.symm
          · have r60 := r58.trans (if_neg hc17)
            refine Go.back (fun t k => XS.ifNo X16.here hx rfl (hb hby at_99) rfl ((if0 _ _).trans (flt (fun q => hc17 ((lw_lt _ _).mp q))).1) k) ?_
            show Go p.tables e below (P0 p0 p1 p2 p3 h0 n0 s) (T16.setTop (mkF m 102 #[.val (.long p0), .second, .val (.int p1), .val (.int p2), .val (.int p3), .val (.int (p1 &&& (2147483647 : Int32))), .val (.long z2), .second, .val (.int (p2 &&& (3 : Int32))), .val (.long z6), .second, .val (.int z10), .val (.long (2147483639 : Int64)), .second, .val (.long ((z10).toInt64)), .second, .val (.int (b2i z14)), .unset, .unset, .unset] []))
            refine Go.back (fun t k => XS.iconst X16.here hx rfl (hb hby at_102) k) ?_
            show Go p.tables e below (P0 p0 p1 p2 p3 h0 n0 s) (T16.setTop (mkF m 103 #[.val (.long p0), .second, .val (.int p1), .val (.int p2), .val (.int p3), .val (.int (p1 &&& (2147483647 : Int32))), .val (.long z2), .second, .val (.int (p2 &&& (3 : Int32))), .val (.long z6), .second, .val (.int z10), .val (.long (2147483639 : Int64)), .second, .val (.long ((z10).toInt64)), .second, .val (.int (b2i z14)), .unset, .unset, .unset] [(.int (1 : Int32))]))
            refine Go.back (fun t k => XS.goto X16.here hx rfl (pc0 := 103) (pc' := 107) rfl (hb hby at_103) (by decide) (by decide) k) ?_
            show Go p.tables e below (P0 p0 p1 p2 p3 h0 n0 s) (T16.setTop (mkF m 107 #[.val (.long p0), .second, .val (.int p1), .val (.int p2), .val (.int p3), .val (.int (p1 &&& (2147483647 : Int32))), .val (.long z2), .second, .val (.int (p2 &&& (3 : Int32))), .val (.long z6), .second, .val (.int z10), .val (.long (2147483639 : Int64)), .second, .val (.long ((z10).toInt64)), .second, .val (.int (b2i z14)), .unset, .unset, .unset] [(.int (1 : Int32))]))
            exact J18 true r60.symm
        have r61 : (if (2147483639 : Int64) < ((z10).toInt64) then false else true) = (if (2147483639 : Int64) < ((z10).toInt64) then false else true) := rfl
        by_cases hc12 : (2147483639 : Int64) < ((z10).toInt64)
        · have r62 := r61.trans (if_pos hc12)
          refine Go.back (fun t k => XS.ifYes X8.here hx rfl (pc0 := 79) (pc' := 86) rfl (hb hby at_79) rfl ((if0 _ _).trans (tlt ((lw_gt _ _).mpr hc12)).2.2.1) (by decide) (by decide) k) ?_
          show Go p.tables e below (P0 p0 p1 p2 p3 h0 n0 s) (T8.setTop (mkF m 86 #[.val (.long p0), .second, .val (.int p1), .val (.int p2), .val (.int p3), .val (.int (p1 &&& (2147483647 : Int32))), .val (.long z2), .second, .val (.int (p2 &&& (3 : Int32))), .val (.long z6), .second, .val (.int z10), .val (.long (2147483639 : Int64)), .second, .val (.long ((z10).toInt64)), .second, .unset, .unset, .unset, .unset] []))
          refine Go.back (fun t k => XS.iconst X8.here hx rfl (hb hby at_86) k) ?_
          show Go p.tables e below (P0 p0 p1 p2 p3 h0 n0 s) (T8.setTop (mkF m 87 #[.val (.long p0), .second, .val (.int p1), .val (.int p2), .val (.int p3), .val (.int (p1 &&& (2147483647 : Int32))), .val (.long z2), .second, .val (.int (p2 &&& (3 : Int32))), .val (.long z6), .second, .val (.int z10), .val (.long (2147483639 : Int64)), .second, .val (.long ((z10).toInt64)), .second, .unset, .unset, .unset, .unset] [(.int (0 : Int32))]))
          exact J13 false r62.symm
        · have r63 := r61.trans (if_neg hc12)
          refine Go.back (fun t k => XS.ifNo X8.here hx rfl (hb hby at_79) rfl ((if0 _ _).trans (flt (fun q => hc12 ((lw_gt _ _).mp q))).2.2.1) k) ?_
          show Go p.tables e below (P0 p0 p1 p2 p3 h0 n0 s) (T8.setTop (mkF m 82 #[.val (.long p0), .second, .val (.int p1), .val (.int p2), .val (.int p3), .val (.int (p1 &&& (2147483647 : Int32))), .val (.long z2), .second, .val (.int (p2 &&& (3 : Int32))), .val (.long z6), .second, .val (.int z10), .val (.long (2147483639 : Int64)), .second, .val (.long ((z10).toInt64)), .second, .unset, .unset, .unset, .unset] []))
          refine Go.back (fun t k => XS.iconst X8.here hx rfl (hb hby at_82) k) ?_
          show Go p.tables e below (P0 p0 p1 p2 p3 h0 n0 s) (T8.setTop (mkF m 83 #[.val (.long p0), .second, .val (.int p1), .val (.int p2), .val (.int p3), .val (.int (p1 &&& (2147483647 : Int32))), .val (.long z2), .second, .val (.int (p2 &&& (3 : Int32))), .val (.long z6), .second, .val (.int z10), .val (.long (2147483639 : Int64)), .second, .val (.long ((z10).toInt64)), .second, .unset, .unset, .unset, .unset] [(.int (1 : Int32))]))
          refine Go.back (fun t k => XS.goto X8.here hx rfl (pc0 := 83) (pc' := 87) rfl (hb hby at_83) (by decide) (by decide) k) ?_
          show Go p.tables e below (P0 p0 p1 p2 p3 h0 n0 s) (T8.setTop (mkF m 87 #[.val (.long p0), .second, .val (.int p1), .val (.int p2), .val (.int p3), .val (.int (p1 &&& (2147483647 : Int32))), .val (.long z2), .second, .val (.int (p2 &&& (3 : Int32))), .val (.long z6), .second, .val (.int z10), .val (.long (2147483639 : Int64)), .second, .val (.long ((z10).toInt64)), .second, .unset, .unset, .unset, .unset] [(.int (1 : Int32))]))
          exact J13 true r63.symm
      exact J9 _ rfl
    have r64 : (if (p2 &&& (3 : Int32)) = (1 : Int32) then (z2 + ((p3).toInt64)) else (if (p2 &&& (3 : Int32)) = (2 : Int32) then (let z7 : Int64 := ((2147483639 : Int64) + ((p3).toInt64)); z7) else p0)) = (if (p2 &&& (3 : Int32)) = (1 : Int32) then (z2 + ((p3).toInt64)) else (if (p2 &&& (3 : Int32)) = (2 : Int32) then (let z7 : Int64 := ((2147483639 : Int64) + ((p3).toInt64)); z7) else p0)) := rfl
    by_cases hc4 : (p2 &&& (3 : Int32)) = (1 : Int32)
    · have r65 := r64.trans (if_pos hc4)
      refine Go.back (fun t k => XS.icmpNo X0.here hx rfl (hb hby at_26) rfl (teq hc4).2 k) ?_
      show Go p.tables e below (P0 p0 p1 p2 p3 h0 n0 s) (s₁.setTop (mkF m 29 #[.val (.long p0), .second, .val (.int p1), .val (.int p2), .val (.int p3), .val (.int (p1 &&& (2147483647 : Int32))), .val (.long z2), .second, .val (.int (p2 &&& (3 : Int32))), .val (.long p0), .second, .unset, .unset, .unset, .unset, .unset, .unset, .unset, .unset, .unset] []))
      refine Go.back (fun t k => XS.lload X0.here hx rfl (hb hby at_29) rfl  k) ?_
      show Go p.tables e below (P0 p0 p1 p2 p3 h0 n0 s) (s₁.setTop (mkF m 31 #[.val (.long p0), .second, .val (.int p1), .val (.int p2), .val (.int p3), .val (.int (p1 &&& (2147483647 : Int32))), .val (.long z2), .second, .val (.int (p2 &&& (3 : Int32))), .val (.long p0), .second, .unset, .unset, .unset, .unset, .unset, .unset, .unset, .unset, .unset] [(.long z2)]))
      refine Go.back (fun t k => XS.iload X0.here hx rfl (hb hby at_31) rfl  k) ?_
      show Go p.tables e below (P0 p0 p1 p2 p3 h0 n0 s) (s₁.setTop (mkF m 33 #[.val (.long p0), .second, .val (.int p1), .val (.int p2), .val (.int p3), .val (.int (p1 &&& (2147483647 : Int32))), .val (.long z2), .second, .val (.int (p2 &&& (3 : Int32))), .val (.long p0), .second, .unset, .unset, .unset, .unset, .unset, .unset, .unset, .unset, .unset] [(.int p3), (.long z2)]))
      refine Go.back (fun t k => XS.i2l X0.here hx rfl (hb hby at_33) rfl k) ?_
      show Go p.tables e below (P0 p0 p1 p2 p3 h0 n0 s) (s₁.setTop (mkF m 34 #[.val (.long p0), .second, .val (.int p1), .val (.int p2), .val (.int p3), .val (.int (p1 &&& (2147483647 : Int32))), .val (.long z2), .second, .val (.int (p2 &&& (3 : Int32))), .val (.long p0), .second, .unset, .unset, .unset, .unset, .unset, .unset, .unset, .unset, .unset] [(.long ((p3).toInt64)), (.long z2)]))
      refine Go.back (fun t k => XS.ladd X0.here hx rfl (hb hby at_34) rfl k) ?_
      show Go p.tables e below (P0 p0 p1 p2 p3 h0 n0 s) (s₁.setTop (mkF m 35 #[.val (.long p0), .second, .val (.int p1), .val (.int p2), .val (.int p3), .val (.int (p1 &&& (2147483647 : Int32))), .val (.long z2), .second, .val (.int (p2 &&& (3 : Int32))), .val (.long p0), .second, .unset, .unset, .unset, .unset, .unset, .unset, .unset, .unset, .unset] [(.long (z2 + ((p3).toInt64)))]))
      refine Go.back (fun t k => XS.lstore X0.here hx rfl (hb hby at_35) rfl (l' := #[.val (.long p0), .second, .val (.int p1), .val (.int p2), .val (.int p3), .val (.int (p1 &&& (2147483647 : Int32))), .val (.long z2), .second, .val (.int (p2 &&& (3 : Int32))), .val (.long (z2 + ((p3).toInt64))), .second, .unset, .unset, .unset, .unset, .unset, .unset, .unset, .unset, .unset]) rfl k) ?_
      show Go p.tables e below (P0 p0 p1 p2 p3 h0 n0 s) (s₁.setTop (mkF m 37 #[.val (.long p0), .second, .val (.int p1), .val (.int p2), .val (.int p3), .val (.int (p1 &&& (2147483647 : Int32))), .val (.long z2), .second, .val (.int (p2 &&& (3 : Int32))), .val (.long (z2 + ((p3).toInt64))), .second, .unset, .unset, .unset, .unset, .unset, .unset, .unset, .unset, .unset] []))
      refine Go.back (fun t k => XS.goto X0.here hx rfl (pc0 := 37) (pc' := 55) rfl (hb hby at_37) (by decide) (by decide) k) ?_
      show Go p.tables e below (P0 p0 p1 p2 p3 h0 n0 s) (s₁.setTop (mkF m 55 #[.val (.long p0), .second, .val (.int p1), .val (.int p2), .val (.int p3), .val (.int (p1 &&& (2147483647 : Int32))), .val (.long z2), .second, .val (.int (p2 &&& (3 : Int32))), .val (.long (z2 + ((p3).toInt64))), .second, .unset, .unset, .unset, .unset, .unset, .unset, .unset, .unset, .unset] []))
      exact J5 (z2 + ((p3).toInt64)) r65.symm
    · have r66 := r64.trans (if_neg hc4)
      refine Go.back (fun t k => XS.icmpYes X0.here hx rfl (pc0 := 26) (pc' := 40) rfl (hb hby at_26) rfl (feq hc4).2 (by decide) (by decide) k) ?_
      show Go p.tables e below (P0 p0 p1 p2 p3 h0 n0 s) (s₁.setTop (mkF m 40 #[.val (.long p0), .second, .val (.int p1), .val (.int p2), .val (.int p3), .val (.int (p1 &&& (2147483647 : Int32))), .val (.long z2), .second, .val (.int (p2 &&& (3 : Int32))), .val (.long p0), .second, .unset, .unset, .unset, .unset, .unset, .unset, .unset, .unset, .unset] []))
      refine Go.back (fun t k => XS.iload X0.here hx rfl (hb hby at_40) rfl  k) ?_
      show Go p.tables e below (P0 p0 p1 p2 p3 h0 n0 s) (s₁.setTop (mkF m 42 #[.val (.long p0), .second, .val (.int p1), .val (.int p2), .val (.int p3), .val (.int (p1 &&& (2147483647 : Int32))), .val (.long z2), .second, .val (.int (p2 &&& (3 : Int32))), .val (.long p0), .second, .unset, .unset, .unset, .unset, .unset, .unset, .unset, .unset, .unset] [(.int (p2 &&& (3 : Int32)))]))
      refine Go.back (fun t k => XS.iconst X0.here hx rfl (hb hby at_42) k) ?_
      show Go p.tables e below (P0 p0 p1 p2 p3 h0 n0 s) (s₁.setTop (mkF m 43 #[.val (.long p0), .second, .val (.int p1), .val (.int p2), .val (.int p3), .val (.int (p1 &&& (2147483647 : Int32))), .val (.long z2), .second, .val (.int (p2 &&& (3 : Int32))), .val (.long p0), .second, .unset, .unset, .unset, .unset, .unset, .unset, .unset, .unset, .unset] [(.int (2 : Int32)), (.int (p2 &&& (3 : Int32)))]))
      by_cases hc67 : (p2 &&& (3 : Int32)) = (2 : Int32)
      · have r68 := r66.trans (if_pos hc67)
        refine Go.back (fun t k => XS.icmpNo X0.here hx rfl (hb hby at_43) rfl (teq hc67).2 k) ?_
        show Go p.tables e below (P0 p0 p1 p2 p3 h0 n0 s) (s₁.setTop (mkF m 46 #[.val (.long p0), .second, .val (.int p1), .val (.int p2), .val (.int p3), .val (.int (p1 &&& (2147483647 : Int32))), .val (.long z2), .second, .val (.int (p2 &&& (3 : Int32))), .val (.long p0), .second, .unset, .unset, .unset, .unset, .unset, .unset, .unset, .unset, .unset] []))
        refine Go.back (fun t k => X0.ldc2Long hx hown (mvT hZ (hw _ (List.mem_of_getElem? (i := 14) rfl))) (g := (mkF m 46 #[.val (.long p0), .second, .val (.int p1), .val (.int p2), .val (.int p3), .val (.int (p1 &&& (2147483647 : Int32))), .val (.long z2), .second, .val (.int (p2 &&& (3 : Int32))), .val (.long p0), .second, .unset, .unset, .unset, .unset, .unset, .unset, .unset, .unset, .unset] [])) rfl (hb hby at_46) t k) ?_
        show Go p.tables e below (P0 p0 p1 p2 p3 h0 n0 s) (s₁.setTop (mkF m 49 #[.val (.long p0), .second, .val (.int p1), .val (.int p2), .val (.int p3), .val (.int (p1 &&& (2147483647 : Int32))), .val (.long z2), .second, .val (.int (p2 &&& (3 : Int32))), .val (.long p0), .second, .unset, .unset, .unset, .unset, .unset, .unset, .unset, .unset, .unset] [(.long (2147483639 : Int64))]))
        refine Go.back (fun t k => XS.iload X0.here hx rfl (hb hby at_49) rfl  k) ?_
        show Go p.tables e below (P0 p0 p1 p2 p3 h0 n0 s) (s₁.setTop (mkF m 51 #[.val (.long p0), .second, .val (.int p1), .val (.int p2), .val (.int p3), .val (.int (p1 &&& (2147483647 : Int32))), .val (.long z2), .second, .val (.int (p2 &&& (3 : Int32))), .val (.long p0), .second, .unset, .unset, .unset, .unset, .unset, .unset, .unset, .unset, .unset] [(.int p3), (.long (2147483639 : Int64))]))
        refine Go.back (fun t k => XS.i2l X0.here hx rfl (hb hby at_51) rfl k) ?_
        show Go p.tables e below (P0 p0 p1 p2 p3 h0 n0 s) (s₁.setTop (mkF m 52 #[.val (.long p0), .second, .val (.int p1), .val (.int p2), .val (.int p3), .val (.int (p1 &&& (2147483647 : Int32))), .val (.long z2), .second, .val (.int (p2 &&& (3 : Int32))), .val (.long p0), .second, .unset, .unset, .unset, .unset, .unset, .unset, .unset, .unset, .unset] [(.long ((p3).toInt64)), (.long (2147483639 : Int64))]))
        refine Go.back (fun t k => XS.ladd X0.here hx rfl (hb hby at_52) rfl k) ?_
        show Go p.tables e below (P0 p0 p1 p2 p3 h0 n0 s) (s₁.setTop (mkF m 53 #[.val (.long p0), .second, .val (.int p1), .val (.int p2), .val (.int p3), .val (.int (p1 &&& (2147483647 : Int32))), .val (.long z2), .second, .val (.int (p2 &&& (3 : Int32))), .val (.long p0), .second, .unset, .unset, .unset, .unset, .unset, .unset, .unset, .unset, .unset] [(.long ((2147483639 : Int64) + ((p3).toInt64)))]))
        refine Go.back (fun t k => XS.lstore X0.here hx rfl (hb hby at_53) rfl (l' := #[.val (.long p0), .second, .val (.int p1), .val (.int p2), .val (.int p3), .val (.int (p1 &&& (2147483647 : Int32))), .val (.long z2), .second, .val (.int (p2 &&& (3 : Int32))), .val (.long ((2147483639 : Int64) + ((p3).toInt64))), .second, .unset, .unset, .unset, .unset, .unset, .unset, .unset, .unset, .unset]) rfl k) ?_
        show Go p.tables e below (P0 p0 p1 p2 p3 h0 n0 s) (s₁.setTop (mkF m 55 #[.val (.long p0), .second, .val (.int p1), .val (.int p2), .val (.int p3), .val (.int (p1 &&& (2147483647 : Int32))), .val (.long z2), .second, .val (.int (p2 &&& (3 : Int32))), .val (.long ((2147483639 : Int64) + ((p3).toInt64))), .second, .unset, .unset, .unset, .unset, .unset, .unset, .unset, .unset, .unset] []))
        have J69 : ∀ (z70 : Int64) (hz70 : z70 = ((2147483639 : Int64) + ((p3).toInt64))), Go p.tables e below (P0 p0 p1 p2 p3 h0 n0 s) (s₁.setTop (mkF m 55 #[.val (.long p0), .second, .val (.int p1), .val (.int p2), .val (.int p3), .val (.int (p1 &&& (2147483647 : Int32))), .val (.long z2), .second, .val (.int (p2 &&& (3 : Int32))), .val (.long z70), .second, .unset, .unset, .unset, .unset, .unset, .unset, .unset, .unset, .unset] [])) := by
          intro z70 hz70
          have r71 : (if (p2 &&& (3 : Int32)) = (1 : Int32) then (z2 + ((p3).toInt64)) else (if (p2 &&& (3 : Int32)) = (2 : Int32) then (let z7 : Int64 := ((2147483639 : Int64) + ((p3).toInt64)); z7) else p0)) = z70 := by subst hz70; exact r68
          show Go p.tables e below (P0 p0 p1 p2 p3 h0 n0 s) (s₁.setTop (mkF m 55 #[.val (.long p0), .second, .val (.int p1), .val (.int p2), .val (.int p3), .val (.int (p1 &&& (2147483647 : Int32))), .val (.long z2), .second, .val (.int (p2 &&& (3 : Int32))), .val (.long z70), .second, .unset, .unset, .unset, .unset, .unset, .unset, .unset, .unset, .unset] []))
          exact J5 z70 r71.symm
        exact J69 _ rfl
      · have r72 := r66.trans (if_neg hc67)
        refine Go.back (fun t k => XS.icmpYes X0.here hx rfl (pc0 := 43) (pc' := 55) rfl (hb hby at_43) rfl (feq hc67).2 (by decide) (by decide) k) ?_
        show Go p.tables e below (P0 p0 p1 p2 p3 h0 n0 s) (s₁.setTop (mkF m 55 #[.val (.long p0), .second, .val (.int p1), .val (.int p2), .val (.int p3), .val (.int (p1 &&& (2147483647 : Int32))), .val (.long z2), .second, .val (.int (p2 &&& (3 : Int32))), .val (.long p0), .second, .unset, .unset, .unset, .unset, .unset, .unset, .unset, .unset, .unset] []))
        exact J5 p0 r72.symm
  exact J1 _ rfl
theorem own_max (a b : Int64) : (f2 a b).toInt = if a.toInt < b.toInt then b.toInt else a.toInt := by
  unfold f2; simp only [Int64.lt_iff_toInt_lt]; split <;> rfl
theorem own_min (a b : Int64) : (f3 a b).toInt = if b.toInt < a.toInt then b.toInt else a.toInt := by
  unfold f3; simp only [Int64.lt_iff_toInt_lt]; split <;> rfl
theorem own_core (w : Int64) (c : Int32) (hc : 0 ≤ c.toInt) : ((f1 w c).toInt64).toInt = if 2147483639 < (if w.toInt < 2 * c.toInt then 2 * c.toInt else w.toInt) then 2147483639 else (if w.toInt < 2 * c.toInt then 2 * c.toInt else w.toInt) := by
  unfold f1
  have e1 := c_lmul (2 : Int64) (c.toInt64)
  have e2 := c_i2l c
  have l2 : (2 : Int64).toInt = 2 := rfl
  have lb : (2147483639 : Int64).toInt = 2147483639 := rfl
  have r := rng32 c
  have r2 := rng64 ((2 : Int64) * c.toInt64)
  have e3 : ((2 : Int64) * c.toInt64).toInt = 2 * c.toInt := by rw [l2, e2] at e1; omega
  have m := own_max w ((2 : Int64) * c.toInt64)
  have n := own_min (f2 w ((2 : Int64) * c.toInt64)) 2147483639
  rw [lb, m, e3] at n
  have q := c_l2i (f3 (f2 w ((2 : Int64) * c.toInt64)) 2147483639)
  have q2 := c_i2l ((f3 (f2 w ((2 : Int64) * c.toInt64)) 2147483639).toInt32)
  have r3 := rng32 ((f3 (f2 w ((2 : Int64) * c.toInt64)) 2147483639).toInt32)
  rw [n] at q
  rw [q2]
  repeat' split at q
  all_goals (repeat' split) <;> omega
theorem own_law (p0 : Int64) (p1 p2 p3 : Int32) : f0 p0 p1 p2 p3 = true := by
  have mask : (p1 &&& (2147483647 : Int32)).toInt = p1.toInt % (2 ^ 31 : Nat) := c_mask p1 _ 31 (by decide) (by decide)
  have hc : 0 ≤ (p1 &&& (2147483647 : Int32)).toInt := by omega
  unfold f0
  generalize (p1 &&& (2147483647 : Int32)) = c at *
  have r := rng32 c
  have t1 : (c.toInt64 + c.toInt64).toInt = 2 * c.toInt := by
    have e := c_ladd c.toInt64 c.toInt64; have e2 := c_i2l c; have := rng64 (c.toInt64 + c.toInt64); rw [e2] at e; omega
  generalize c.toInt64 + c.toInt64 = tw at *
  simp only
  generalize (if (p2 &&& (3 : Int32)) = (1 : Int32) then (tw + ((p3).toInt64)) else (if (p2 &&& (3 : Int32)) = (2 : Int32) then ((2147483639 : Int64) + ((p3).toInt64)) else p0)) = w
  have k := own_core w c hc
  have m1 := own_min w 2147483639
  have m2 := own_min tw 2147483639
  have lb : (2147483639 : Int64).toInt = 2147483639 := rfl
  rw [lb] at m1 m2
  rw [t1] at m2
  generalize hr : (f1 w c).toInt64 = r at *
  generalize hx : f3 w (2147483639 : Int64) = x at *
  generalize hy : f3 tw (2147483639 : Int64) = y at *
  have a1 : ¬ (2147483639 : Int64) < r := by rw [Int64.lt_iff_toInt_lt, lb, k]; split <;> omega
  have a2 : ¬ r < x := by rw [Int64.lt_iff_toInt_lt, k, m1]; (repeat' split) <;> omega
  have a3 : ¬ r < y := by rw [Int64.lt_iff_toInt_lt, k, m2]; (repeat' split) <;> omega
  have a4 : r = w ∨ r = tw ∨ r = (2147483639 : Int64) := by
    simp only [← Int64.toInt_inj, lb, k, t1]
    by_cases u : w.toInt < 2 * c.toInt
    · rw [if_pos u]
      by_cases v : 2147483639 < 2 * c.toInt
      · rw [if_pos v]; exact Or.inr (Or.inr rfl)
      · rw [if_neg v]; exact Or.inr (Or.inl rfl)
    · rw [if_neg u]
      by_cases v : 2147483639 < w.toInt
      · rw [if_pos v]; exact Or.inr (Or.inr rfl)
      · rw [if_neg v]; exact Or.inl rfl
  simp only [if_neg a1, if_neg a2, if_neg a3, if_true]
  rcases a4 with h | h | h
  · rw [if_pos h]; rfl
  · by_cases g : r = w
    · rw [if_pos g]; rfl
    · rw [if_neg g, if_pos h]; rfl
  · by_cases g : r = w
    · rw [if_pos g]; rfl
    · rw [if_neg g]
      by_cases g2 : r = tw
      · rw [if_pos g2]; rfl
      · rw [if_neg g2, if_pos h]; rfl
set_option maxRecDepth 65536 in
set_option maxHeartbeats 40000000 in
theorem comes_1 {Post : Tables → Env → Array Value → State → Outcome → State → Prop} (hpost : ∀ tb e args s v u, (limb_1_1.after args s (.returned v) u = true ∧ limb_1_2.after args s (.returned v) u = true ∧ True) → FrameEnd s (.returned v) u (Jvm.fieldLocs frame_1_writes args s ++ Jvm.arrayLocs frame_1_arrays args s ++ Jvm.staticLocs frame_1_statics s) 0 0 → Post tb e args s (.returned v) u) :
    ArmFor flags0 classFile x code maxLocals ret World_1 tables_1 room_1 Calls_1 rest_1 Pre_1 Post := by
  intro l hfl _ _ p e ha hc hk s m args below hf hA hF happ hP
  obtain ⟨hcalls, hrest, hpre⟩ := hP
  obtain ⟨-, -, -, hnamed, -, -, -, hat⟩ := (Spec.applies_iff hf).mp happ
  obtain ⟨hg, hn⟩ := and_e (Cond.before_iff.mp (show (Jvm.Cond.and given_1 narrow_1).before args s = true from hpre))
  obtain ⟨g1, g2⟩ := and_e hg
  obtain ⟨g3, g4⟩ := and_e g2
  obtain ⟨g5, g6⟩ := and_e g4
  obtain ⟨g7, g8⟩ := and_e g6
  obtain ⟨w0, w1, w2, w3, rfl⟩ : ∃ w0 w1 w2 w3 : Value, args = #[w0, w1, w2, w3] := by
    have hs : args.size = 4 := by simpa [Cond.value, given_1] using g1
    obtain ⟨L⟩ := args
    match L, hs with
    | [w0, w1, w2, w3], _ => exact ⟨w0, w1, w2, w3, rfl⟩
  have hw := fun d (hd : d ∈ tables_1) => atoms_spec (ws := Jvm.Cond.code x code maxLocals ret :: tables_1) hat d (List.mem_cons_of_mem _ hd)
  have hfit : Fit s := fun {y c} hc i hi => by
    obtain ⟨ha, rfl⟩ := Array.getElem?_eq_some_iff.mp hc
    have q := List.all_eq_true.mp ((Array.all_eq_true_iff_forall_mem.mp hF) _ (Array.getElem_mem ha)) i (List.mem_range.mpr hi)
    simpa [Array.getElem?_eq_getElem hi] using q
  obtain ⟨i0, ei0⟩ := isL_v g3
  obtain rfl : w0 = (.long i0) := Option.some.inj ei0
  obtain ⟨i1, ei1⟩ := is_v g5
  obtain rfl : w1 = (.int i1) := Option.some.inj ei1
  obtain ⟨i2, ei2⟩ := is_v g7
  obtain rfl : w2 = (.int i2) := Option.some.inj ei2
  obtain ⟨i3, ei3⟩ := is_v g8
  obtain rfl : w3 = (.int i3) := Option.some.inj ei3
  obtain ⟨n, o, h1, h2, h3, v, L, rfl, hQ, hq⟩ := rm0 l s _ hw tables_1 i0 i1 i2 i3 s.heap s.heap.size p e ha hc hk s m _ below hf ((Spec.applies_iff_loose hf).mp happ).1 ⟨rfl, State.Warmed39.refl s, rfl⟩ trivial
  have hv : v = some (.int (b2i (f0 i0 i1 i2 i3))) := hQ.1
  rw [own_law i0 i1 i2 i3] at hv
  subst hv
  have N : Fr s.heap.size L := by first | exact hQ.2.1 | exact hQ.2
  refine ⟨n, _, h1, h2, h3, hpost _ _ _ _ _ _ ⟨Cond.after_iff.mpr rfl, Cond.after_iff.mpr (eq_i res_at (Term.int_eval (1)) rfl), trivial⟩ ⟨hq.1, hq.2.1, (hq.2.2.sift fun y hy => Or.inr (N y hy)).mono (by decide) (by decide)⟩⟩
theorem main_1_1 : Claimed_1_1 := comes_1 fun _ _ _ _ _ _ h hF => ⟨h.1, hF⟩
theorem main_1_2 : Claimed_1_2 := comes_1 fun _ _ _ _ _ _ h hF => ⟨h.2.1, hF⟩
end Jvm.Pilot.@@N@@
namespace Jvm.Pilot.@@N@@
open Jvm Jvm.ClassFile Sem Op Lib Jvm.Free Jvm.Stand Jvm.Pilot.@@N@@.Jvm.D
/-! MADE BY PROGRAM (witnessworld.py) out of the Statement's table words and the real class files: 10 classes; the members and pool entries that the words name. The judged class is class 1, her method 1. -/
namespace start1
open Jvm.ClassFile
def u (s : String) : CpInfo := .utf8 (stringToUtf16 s)
/-- a pool by its gaps: so many unusable entries, then the entry; so many at the end -/
def gap : Nat → List CpInfo → List CpInfo
  | 0, r => r
  | n + 1, r => .unusable :: gap n r
def poolList (es : List (Nat × CpInfo)) (last : Nat) : List CpInfo := es.foldr (fun e r => gap e.1 (e.2 :: r)) (gap last [])
def pool (es : List (Nat × CpInfo)) (last : Nat) : Array CpInfo := ⟨poolList es last⟩
def fileOf (pool : Array CpInfo) (this : Nat) (attrs : Array Attribute := #[]) (ms : Array MethodInfo := #[]) (fl : Nat := 33) (sup : Nat := 0) (ifs : Array Nat := #[]) (fds : Array FieldInfo := #[]) : ClassFile where
  minorVersion := 0
  majorVersion := 65
  constantPool := pool
  accessFlags := fl
  thisClass := this
  superClass := sup
  interfaces := ifs
  fields := fds
  methods := ms
  attributes := attrs
def plain (name : String) (sup : Option ClassId) : Class where
  name := name
  kind := .ordinary
  loader := none
  accessFlags := 33
  super := sup
  interfaces := #[]
  cf := none
  fields := #[]
  methods := #[]
  instanceTypes := #[]
  staticTypes := #[]
  resolved := #[]
  callSites := []
  init := .initialized
  statics := none
  mirror := none

def pool0 : Array CpInfo := pool [(5, u "<init>"), (0, u "()V"), (1, .class_ 10), (1, u "java/lang/Object")] 113

def k0m0 : Method := { name := "<init>", desc := "()V", sig := { parameters := [], returnType := none }, accessFlags := 1, code := none }
/-- java/lang/Object -/
def k0 : Class := { plain "java/lang/Object" none with
  accessFlags := 33
  interfaces := #[]
  cf := some (fileOf pool0 8 #[] #[{ accessFlags := 1, nameIndex := 5, descriptorIndex := 6, attributes := #[] }] 33 0 #[] #[])
  fields := #[]
  methods := #[k0m0]
  instanceTypes := #[]
  staticTypes := #[]
  resolved := Array.replicate 124 none
  statics := none }

def pool1 : Array CpInfo := pool [(2, .class_ 4), (1, u "java/lang/Object"), (0, u "<init>"), (0, u "()V"), (0, .integer 2147483647), (0, .long 2147483639), (1, .methodref 11 12), (0, .class_ 13), (0, .nameAndType 14 15), (0, u "com/example/spillway/spillway/Io"), (0, u "grownCapacity"), (0, u "(JI)I"), (0, .methodref 17 18), (0, .class_ 19), (0, .nameAndType 20 21), (0, u "java/lang/Math"), (0, u "min"), (0, u "(JJ)J"), (0, .class_ 23), (0, u "com/example/spillway/spillway/IoGrownCapacityPinLaw"), (2, u "law"), (0, u "(JIII)Z")] 3

def k1m0 : Method := { name := "<init>", desc := "()V", sig := { parameters := [], returnType := none }, accessFlags := 2, code := none }
def k1c1 : Code := { maxStack := 6, maxLocals := 20, code := code, exceptionTable := #[], attributes := #[] }
def k1m1 : Method := { name := "law", desc := "(JIII)Z", sig := { parameters := [.long, .int, .int, .int], returnType := some .boolean }, accessFlags := 9, code := some k1c1 }
/-- com/example/spillway/spillway/IoGrownCapacityPinLaw -/
def k1 : Class := { plain "com/example/spillway/spillway/IoGrownCapacityPinLaw" (some 0) with
  accessFlags := 49
  interfaces := #[]
  cf := some (fileOf pool1 22 #[] #[{ accessFlags := 2, nameIndex := 5, descriptorIndex := 6, attributes := #[] }, { accessFlags := 9, nameIndex := 26, descriptorIndex := 27, attributes := #[] }] 49 2 #[] #[])
  fields := #[]
  methods := #[k1m0, k1m1]
  instanceTypes := #[]
  staticTypes := #[]
  resolved := Array.replicate 31 none
  statics := none }

def pool2 : Array CpInfo := pool [(4, .class_ 6), (1, u "java/lang/Object"), (0, u "<init>"), (0, u "()V"), (0, .long 2), (1, .methodref 12 13), (0, .class_ 14), (0, .nameAndType 15 16), (0, u "java/lang/Math"), (0, u "max"), (0, u "(JJ)J"), (0, .class_ 18), (0, u "com/example/spillway/spillway/Io"), (0, .long 2147483639), (1, .methodref 12 22), (0, .nameAndType 23 16), (0, u "min"), (72, u "BUFFER_SIZE"), (0, u "I"), (2, u "CHARACTERS"), (1, u "MAX_ARRAY"), (3, u "grownCapacity"), (0, u "(JI)I")] 26

def k2m0 : Method := { name := "<init>", desc := "()V", sig := { parameters := [], returnType := none }, accessFlags := 2, code := none }
def k2c1 : Code := { maxStack := 6, maxLocals := 3, code := prog_3_method_2_code, exceptionTable := #[], attributes := #[] }
def k2m1 : Method := { name := "grownCapacity", desc := "(JI)I", sig := { parameters := [.long, .int], returnType := some .int }, accessFlags := 8, code := some k2c1 }
/-- com/example/spillway/spillway/Io -/
def k2 : Class := { plain "com/example/spillway/spillway/Io" (some 0) with
  accessFlags := 48
  interfaces := #[]
  cf := some (fileOf pool2 17 #[] #[{ accessFlags := 2, nameIndex := 7, descriptorIndex := 8, attributes := #[] }, { accessFlags := 8, nameIndex := 106, descriptorIndex := 107, attributes := #[] }] 48 4 #[] #[{ accessFlags := 24, nameIndex := 96, descriptorIndex := 97, attributes := #[] }, { accessFlags := 24, nameIndex := 100, descriptorIndex := 97, attributes := #[] }, { accessFlags := 24, nameIndex := 102, descriptorIndex := 97, attributes := #[] }])
  fields := #[{ name := "BUFFER_SIZE", type := .int, accessFlags := 24, slot := 0, constantValue := 0 }, { name := "CHARACTERS", type := .int, accessFlags := 24, slot := 1, constantValue := 0 }, { name := "MAX_ARRAY", type := .int, accessFlags := 24, slot := 2, constantValue := 0 }]
  methods := #[k2m0, k2m1]
  instanceTypes := #[]
  staticTypes := #[.int, .int, .int]
  resolved := Array.replicate 134 none
  statics := none }

def pool3 : Array CpInfo := pool [(1, .class_ 2), (0, u "java/lang/Math"), (1, .class_ 6), (1, u "java/lang/Object"), (0, u "<init>"), (0, u "()V"), (89, .class_ 100), (1, u "java/lang/Math$RandomNumberGeneratorHolder"), (20, u "(JJ)J"), (50, u "negativeZeroFloatBits"), (0, u "J"), (2, u "negativeZeroDoubleBits"), (21, u "max"), (2, u "min"), (43, u "$assertionsDisabled"), (0, u "Z"), (91, u "twoToTheDoubleScaleDown"), (0, u "D"), (4, u "twoToTheDoubleScaleUp"), (9, u "E"), (3, u "PI"), (2, u "TAU"), (2, u "DEGREES_TO_RADIANS"), (0, u "RADIANS_TO_DEGREES")] 94

def k3m0 : Method := { name := "<init>", desc := "()V", sig := { parameters := [], returnType := none }, accessFlags := 2, code := none }
def k3c1 : Code := { maxStack := 4, maxLocals := 4, code := jdk_29_method_66_code, exceptionTable := #[], attributes := #[] }
def k3m1 : Method := { name := "max", desc := "(JJ)J", sig := { parameters := [.long, .long], returnType := some .long }, accessFlags := 9, code := some k3c1 }
def k3c2 : Code := { maxStack := 4, maxLocals := 4, code := jdk_29_method_70_code, exceptionTable := #[], attributes := #[] }
def k3m2 : Method := { name := "min", desc := "(JJ)J", sig := { parameters := [.long, .long], returnType := some .long }, accessFlags := 9, code := some k3c2 }
/-- java/lang/Math -/
def k3 : Class := { plain "java/lang/Math" (some 0) with
  accessFlags := 49
  interfaces := #[]
  cf := some (fileOf pool3 1 #[.nestMembers #[98]] #[{ accessFlags := 2, nameIndex := 7, descriptorIndex := 8, attributes := #[] }, { accessFlags := 9, nameIndex := 198, descriptorIndex := 121, attributes := #[] }, { accessFlags := 9, nameIndex := 201, descriptorIndex := 121, attributes := #[] }] 49 4 #[] #[{ accessFlags := 25, nameIndex := 354, descriptorIndex := 339, attributes := #[] }, { accessFlags := 25, nameIndex := 358, descriptorIndex := 339, attributes := #[] }, { accessFlags := 25, nameIndex := 361, descriptorIndex := 339, attributes := #[] }, { accessFlags := 26, nameIndex := 364, descriptorIndex := 339, attributes := #[] }, { accessFlags := 26, nameIndex := 365, descriptorIndex := 339, attributes := #[] }, { accessFlags := 26, nameIndex := 172, descriptorIndex := 173, attributes := #[] }, { accessFlags := 26, nameIndex := 176, descriptorIndex := 173, attributes := #[] }, { accessFlags := 8, nameIndex := 344, descriptorIndex := 339, attributes := #[] }, { accessFlags := 8, nameIndex := 338, descriptorIndex := 339, attributes := #[] }, { accessFlags := 4120, nameIndex := 245, descriptorIndex := 246, attributes := #[] }])
  fields := #[{ name := "E", type := .double, accessFlags := 25, slot := 0, constantValue := 0 }, { name := "PI", type := .double, accessFlags := 25, slot := 1, constantValue := 0 }, { name := "TAU", type := .double, accessFlags := 25, slot := 2, constantValue := 0 }, { name := "DEGREES_TO_RADIANS", type := .double, accessFlags := 26, slot := 3, constantValue := 0 }, { name := "RADIANS_TO_DEGREES", type := .double, accessFlags := 26, slot := 4, constantValue := 0 }, { name := "negativeZeroFloatBits", type := .long, accessFlags := 26, slot := 5, constantValue := 0 }, { name := "negativeZeroDoubleBits", type := .long, accessFlags := 26, slot := 6, constantValue := 0 }, { name := "twoToTheDoubleScaleUp", type := .double, accessFlags := 8, slot := 7, constantValue := 0 }, { name := "twoToTheDoubleScaleDown", type := .double, accessFlags := 8, slot := 8, constantValue := 0 }, { name := "$assertionsDisabled", type := .boolean, accessFlags := 4120, slot := 9, constantValue := 0 }]
  methods := #[k3m0, k3m1, k3m2]
  instanceTypes := #[]
  staticTypes := #[.double, .double, .double, .double, .double, .long, .long, .double, .double, .boolean]
  resolved := Array.replicate 460 none
  statics := none }

def pool4 : Array CpInfo := pool [(1, u "java/lang/Cloneable"), (0, .class_ 1), (0, u "java/lang/Object"), (0, .class_ 3)] 3

/-- java/lang/Cloneable -/
def k4 : Class := { plain "java/lang/Cloneable" (some 0) with
  accessFlags := 1537
  interfaces := #[]
  cf := some (fileOf pool4 2 #[] #[] 1537 4 #[] #[])
  fields := #[]
  methods := #[]
  instanceTypes := #[]
  staticTypes := #[]
  resolved := Array.replicate 8 none
  statics := none }

def pool5 : Array CpInfo := pool [(1, u "java/io/Serializable"), (0, .class_ 1), (0, u "java/lang/Object"), (0, .class_ 3)] 3

/-- java/io/Serializable -/
def k5 : Class := { plain "java/io/Serializable" (some 0) with
  accessFlags := 1537
  interfaces := #[]
  cf := some (fileOf pool5 2 #[] #[] 1537 4 #[] #[])
  fields := #[]
  methods := #[]
  instanceTypes := #[]
  staticTypes := #[]
  resolved := Array.replicate 8 none
  statics := none }

/-- the primitive byte -/
def k6 : Class := { plain "byte" none with kind := .primitive 'B', accessFlags := 0x411 }
/-- [B -/
def k7 : Class := { plain "[B" (some 0) with kind := .array 6 .byte, interfaces := #[4, 5], accessFlags := 1041 }

/-- the primitive int -/
def k8 : Class := { plain "int" none with kind := .primitive 'I', accessFlags := 0x411 }
/-- [I -/
def k9 : Class := { plain "[I" (some 0) with kind := .array 8 .int, interfaces := #[4, 5], accessFlags := 1041 }

def heap : Heap := #[]
def classes : Array Class := #[k0, k1, k2, k3, k4, k5, k6, k7, k8, k9]
def interned : List (Array UInt16 × Addr) := []
def slotsUsed : Nat := 0
def theMethod : MethodId := ⟨1, 1⟩
def args0 : Array Value := #[.long 5, .int 7, .int 1, .int 3]
def aboutOver (below : List Frame) : State where
  vm := { classes := classes, interned := interned.toArray }
  heap := heap
  slotsUsed := slotsUsed
  threads := #[{ frames := .invoking theMethod args0 :: below }]
def below0 : List Frame := [.native { method := ⟨0, 0⟩, args := #[] }]
def about1 : State := aboutOver below0
def p0 : Program := .bare "" "" ""
def e0 : Env := launch0.env 0 0 0
theorem w_frames : about1.frames = Frame.invoking theMethod args0 :: below0 := rfl
set_option maxRecDepth 65536 in
theorem w_args : argsFit about1.vm theMethod args0 = true := by decide +kernel
set_option maxRecDepth 65536 in
theorem w_heap : heapFits about1 = true := by decide +kernel
set_option maxRecDepth 65536 in
theorem w_runnable : about1.curStatus? = some .runnable := by decide +kernel
set_option maxRecDepth 65536 in
theorem w_alone : about1.alone = true := by decide +kernel
set_option maxRecDepth 65536 in
theorem w_named : about1.methodNamed? x = some theMethod := by decide +kernel
set_option maxRecDepth 65536 in
theorem w_hears : about1.hears theMethod below0 = true := by decide +kernel
set_option maxRecDepth 65536 in
theorem w_ripe : about1.ripe theMethod args0 below0 = true := by decide +kernel
theorem w_running : about1.status = .running := rfl
set_option maxRecDepth 65536 in
theorem w_room : about1.hasRoom e0.platform room_1 = true :=
  launch0.hasRoom_least _ room_1 (by decide +kernel) (by decide +kernel) (by decide +kernel) (by decide +kernel) (by decide +kernel) (by decide +kernel)
theorem allAtoms_all (ts : List Jvm.Cond) (a : Array Jvm.Value) (st : Jvm.State) : (allAtoms ts).before a st = ts.all (fun c => c.before a st) := by
  induction ts with
  | nil => rfl
  | cons c t ih =>
    show (Jvm.Cond.and c (allAtoms t)).before a st = _
    rw [Jvm.Cond.before_and, ih, List.all_cons]
def words1 : List Jvm.Cond := Jvm.Cond.code x code maxLocals ret :: tables_1
/-- a 'code' word, met by the world's own term for the bytes: nothing is compared byte by byte -/
theorem code_word {y : MethodName} {bytes : ByteArray} {mx : Nat} {rt : Option FieldType} {a : Array Value} {s : State} {m : MethodId} {meth : Method} {c : Code} (h1 : s.methodNamed? y = some m) (h2 : s.vm.method? m = some meth) (h3 : meth.code = some c) (h4 : c.code = bytes)
    (h5 : (c.maxLocals == mx && c.exceptionTable.isEmpty && decide (c.maxStack ≤ mostOperands) && decide (meth.sig.returnType = rt) && !meth.locks && decide (parseMethodDescriptor y.desc = some meth.sig)) = true) : (Jvm.Cond.code y bytes mx rt).before a s = true := by
  simp only [Bool.and_eq_true, beq_iff_eq, Bool.not_eq_true', decide_eq_true_eq] at h5
  obtain ⟨⟨⟨⟨⟨g1, g2⟩, g3⟩, g4⟩, g5⟩, g6⟩ := h5
  simp [Cond.before, Cond.holds, Cond.value, h1, h2, h3, h4, g1, g2, g3, g4, g5, g6]
def isCode : Jvm.Cond → Bool
  | .code _ _ _ _ => true
  | _ => false
theorem all_split {L : List Jvm.Cond} {P : Jvm.Cond → Bool} (h1 : L.all (fun c => isCode c || P c) = true) (h2 : ∀ c ∈ L.filter isCode, P c = true) : L.all P = true := by
  refine List.all_eq_true.mpr fun c hc => ?_
  have h := List.all_eq_true.mp h1 c hc
  rcases Bool.eq_false_or_eq_true (isCode c) with hi | hi
  · exact h2 c (List.mem_filter.mpr ⟨hc, hi⟩)
  · simpa [hi] using h
set_option maxRecDepth 65536 in
theorem w_c0 : (Jvm.Cond.code x code maxLocals ret).before args0 about1 = true := code_word (m := ⟨1, 1⟩) (meth := k1m1) (c := k1c1) (by decide +kernel) rfl rfl rfl (by decide +kernel)
set_option maxRecDepth 65536 in
theorem w_c1 : (Jvm.Cond.code ({ cls := "com/example/spillway/spillway/Io", name := "grownCapacity", desc := "(JI)I" } : Jvm.MethodName) prog_3_method_2_code (3 : Nat) (Option.some Jvm.ClassFile.FieldType.int)).before args0 about1 = true := code_word (m := ⟨2, 1⟩) (meth := k2m1) (c := k2c1) (by decide +kernel) rfl rfl rfl (by decide +kernel)
set_option maxRecDepth 65536 in
theorem w_c2 : (Jvm.Cond.code ({ cls := "java/lang/Math", name := "max", desc := "(JJ)J" } : Jvm.MethodName) jdk_29_method_66_code (4 : Nat) (Option.some Jvm.ClassFile.FieldType.long)).before args0 about1 = true := code_word (m := ⟨3, 1⟩) (meth := k3m1) (c := k3c1) (by decide +kernel) rfl rfl rfl (by decide +kernel)
set_option maxRecDepth 65536 in
theorem w_c3 : (Jvm.Cond.code ({ cls := "java/lang/Math", name := "min", desc := "(JJ)J" } : Jvm.MethodName) jdk_29_method_70_code (4 : Nat) (Option.some Jvm.ClassFile.FieldType.long)).before args0 about1 = true := code_word (m := ⟨3, 2⟩) (meth := k3m2) (c := k3c2) (by decide +kernel) rfl rfl rfl (by decide +kernel)
def codes1 : List Jvm.Cond := [Jvm.Cond.code x code maxLocals ret, Jvm.Cond.code ({ cls := "com/example/spillway/spillway/Io", name := "grownCapacity", desc := "(JI)I" } : Jvm.MethodName) prog_3_method_2_code (3 : Nat) (Option.some Jvm.ClassFile.FieldType.int), Jvm.Cond.code ({ cls := "java/lang/Math", name := "max", desc := "(JJ)J" } : Jvm.MethodName) jdk_29_method_66_code (4 : Nat) (Option.some Jvm.ClassFile.FieldType.long), Jvm.Cond.code ({ cls := "java/lang/Math", name := "min", desc := "(JJ)J" } : Jvm.MethodName) jdk_29_method_70_code (4 : Nat) (Option.some Jvm.ClassFile.FieldType.long)]
set_option maxRecDepth 65536 in
theorem codes_eq : words1.filter isCode = codes1 := rfl
theorem w_codes : ∀ c ∈ words1.filter isCode, c.before args0 about1 = true := by
  rw [codes_eq]
  intro c hc
  simp only [codes1, List.mem_cons, List.not_mem_nil, or_false] at hc
  rcases hc with rfl | rfl | rfl | rfl
  · exact w_c0
  · exact w_c1
  · exact w_c2
  · exact w_c3
set_option maxRecDepth 65536 in
theorem w_t1 : words1.all (fun c => isCode c || c.before args0 about1) = true := by decide +kernel
theorem w_tables : (allAtoms (Jvm.Cond.code x code maxLocals ret :: tables_1)).before args0 about1 = true := by
  rw [allAtoms_all]
  show words1.all (fun c => c.before args0 about1) = true
  refine all_split ?_ w_codes
  rw [w_t1]
set_option maxRecDepth 65536 in
theorem w_case : (Jvm.Cond.and given_1 narrow_1).before args0 about1 = true := by decide +kernel
theorem w_applies : (headSpec (Jvm.Cond.code x code maxLocals ret :: tables_1) room_1).applies x e0.platform about1 = true :=
  (Spec.applies_iff w_frames).mpr ⟨w_running, w_runnable, w_alone, w_named, w_hears, w_ripe, w_room, w_tables⟩
theorem atStart : AtStart classFile x code maxLocals ret World_1 tables_1 room_1 Calls_1 rest_1 Pre_1 launch0 p0 e0 about1 theMethod args0 below0 :=
  ⟨lists_1, trivial, launch0.admits_env _ _ _, launch0.least_env, fairChoices_fair.cas, fairChoices_fair.clock, w_frames, w_args, w_heap, w_applies, trivial, trivial, w_case⟩
end start1
theorem witness_1 : WitnessClaimed_1 := ⟨start1.p0, start1.e0, start1.about1, start1.theMethod, start1.args0, start1.below0, start1.atStart⟩
end Jvm.Pilot.@@N@@
