import JvmDerived
import JvmDerived.Pilot.@@N@@Statement
import JvmDerived.Pilot.@@N@@Code
set_option linter.unusedVariables false
set_option linter.unusedSimpArgs false
namespace Jvm.RoadKit
open Sem ClassFile Op Lib Jvm.Stand Jvm.Free Jvm.LawKit
section OwnKit
variable {p : Program} {l : Launch} {e : Env} {R : Room} {s : State} {m : MethodId} {args : Array Value} {below : List Frame} {meth : Method} {c : Code} {T : State} {locs : List Loc} {cells slots : Nat}
/-- a boolean as the machine's int -/
def b2i (b : Bool) : Int32 := bif b then 1 else 0
theorem b2i_t {b : Bool} (h : b = true) : ¬ b2i b = 0 := by subst h; decide
theorem b2i_f {b : Bool} (h : ¬ b = true) : b2i b = 0 := by cases b <;> first | rfl | exact absurd rfl h
theorem b2i_inj {a b : Bool} (h : b2i a = b2i b) : a = b := by cases a <;> cases b <;> first | rfl | exact absurd h (by decide)
theorem nar_b2i (b : Bool) : nar .boolean (b2i b) = b2i b := by cases b <;> decide
/-- from the state U the walk comes to an end that P holds of -/
def Go (tb : Tables) (e : Env) (below : List Frame) (P : Outcome → State → Prop) (U : State) : Prop := ∃ s₂ o, Steps tb e below U s₂ ∧ s₂.status = .running ∧ Ended s₂ below o ∧ P o s₂
theorem Go.back {tb : Tables} {P : Outcome → State → Prop} {U V : State} (h : ∀ t, Steps tb e below V t → Steps tb e below U t) (k : Go tb e below P V) : Go tb e below P U := by
  obtain ⟨s2, o, h1, h2⟩ := k
  exact ⟨s2, o, h _ h1, h2⟩
theorem Go.trans {tb : Tables} {P : Outcome → State → Prop} {U V : State} (h : Steps tb e below U V) (k : Go tb e below P V) : Go tb e below P U := by
  obtain ⟨s2, o, h1, h2⟩ := k
  exact ⟨s2, o, Steps.trans h h1, h2⟩
abbrev Fin (s : State) (Q : Option Value → Heap → List Loc → Prop) (K S : Nat) : Outcome → State → Prop := fun o U' => ∃ v L, o = .returned v ∧ Q v U'.heap L ∧ FrameEnd s o U' L K S
theorem retI0 (X : Stand p l e R s m args below meth c T locs cells slots) (hx : p.tables.exec = Jvm.exec) {pc : Nat} {Ls : Array Slot} {z : Int32} {rest : List Value} (hret : meth.sig.returnType = some .int) (hd : decode c.code pc = .ok (.ireturn, 1)) {fs : List Frame}
    (hl : ∀ (f : JFrame) (acts : List Action), f.method = m → f.locked = none → f.entered = [] → (doReturn e (T.setTop f) acts (some (.int z))).1 = T.setFrames fs) : Steps p.tables e below (T.setTop (mkF m pc Ls (.int z :: rest))) (T.setFrames fs) := by
  have hm' : T.vm.method? m = some meth := X.method'
  have hn : narrow .int (.int z) = .int z := rfl
  show Steps p.tables e below (T.setTop { method := m, pc := pc, locals := Ls, stack := _ :: rest, locked := none }) _
  jvm_step X.here [X.here.top, hx, hd, hm', hret, hn]
  first | (intro acts; rw [hl _ acts rfl rfl rfl]) | rw [hl _ _ rfl rfl rfl]
  exact Steps.refl _
theorem Go.retI (X : Stand p l e R s m args below meth c T locs cells slots) (hx : p.tables.exec = Jvm.exec) {pc : Nat} {Ls : Array Slot} {z : Int32} {rest : List Value} (hret : meth.sig.returnType = some .int) (hd : decode c.code pc = .ok (.ireturn, 1)) (hlk : meth.locks = false) {Q : Option Value → Heap → List Loc → Prop} {K S : Nat} (hQ : Q (some (.int z)) T.heap locs) (hc : cells ≤ K) (hs : slots ≤ S) :
    Go p.tables e below (Fin s Q K S) (T.setTop (mkF m pc Ls (.int z :: rest))) := by
  obtain ⟨fs, hr, hrun, hended, hW, hsame⟩ := X.leave (v := some (.int z)) (fun h => by rw [hret] at h; cases h) hlk
  exact ⟨_, _, retI0 X hx hret hd hr, hrun, hended, _, _, rfl, hQ, ⟨_, rfl⟩, hW, hsame.mono hc hs⟩
theorem Go.retN (X : Stand p l e R s m args below meth c T locs cells slots) (hx : p.tables.exec = Jvm.exec) {pc : Nat} {Ls : Array Slot} {z : Int32} {rest : List Value} {t : FieldType} (hret : meth.sig.returnType = some t) (ht : t = .boolean ∨ t = .byte ∨ t = .char ∨ t = .short) (hd : decode c.code pc = .ok (.ireturn, 1)) (hlk : meth.locks = false) {Q : Option Value → Heap → List Loc → Prop} {K S : Nat} (hQ : Q (some (.int (nar t z))) T.heap locs) (hc : cells ≤ K) (hs : slots ≤ S) :
    Go p.tables e below (Fin s Q K S) (T.setTop (mkF m pc Ls (.int z :: rest))) := by
  obtain ⟨fs, hr, hrun, hended, hW, hsame⟩ := X.leave (v := some (.int (nar t z))) (fun h => by rw [hret] at h; cases h) hlk
  exact ⟨_, _, Jvm.RoadKit.retN X hx hret ht hd hr, hrun, hended, _, _, rfl, hQ, ⟨_, rfl⟩, hW, hsame.mono hc hs⟩
theorem Go.retB (X : Stand p l e R s m args below meth c T locs cells slots) (hx : p.tables.exec = Jvm.exec) {pc : Nat} {Ls : Array Slot} {b : Bool} {rest : List Value} (hret : meth.sig.returnType = some .boolean) (hd : decode c.code pc = .ok (.ireturn, 1)) (hlk : meth.locks = false) {Q : Option Value → Heap → List Loc → Prop} {K S : Nat} (hQ : Q (some (.int (b2i b))) T.heap locs) (hc : cells ≤ K) (hs : slots ≤ S) :
    Go p.tables e below (Fin s Q K S) (T.setTop (mkF m pc Ls (.int (b2i b) :: rest))) := Go.retN X hx hret (Or.inl rfl) hd hlk (by rw [nar_b2i]; exact hQ) hc hs
theorem Go.retJ (X : Stand p l e R s m args below meth c T locs cells slots) (hx : p.tables.exec = Jvm.exec) {pc : Nat} {Ls : Array Slot} {z : Int64} (hret : meth.sig.returnType = some .long) (hd : decode c.code pc = .ok (.lreturn, 1)) (hlk : meth.locks = false) {Q : Option Value → Heap → List Loc → Prop} {K S : Nat} (hQ : Q (some (.long z)) T.heap locs) (hc : cells ≤ K) (hs : slots ≤ S) :
    Go p.tables e below (Fin s Q K S) (T.setTop (mkF m pc Ls [.long z])) := by
  obtain ⟨fs, hr, hrun, hended, hW, hsame⟩ := X.leave (v := some (.long z)) (fun h => by rw [hret] at h; cases h) hlk
  exact ⟨_, _, X.lreturnOut hx hret hd hr, hrun, hended, _, _, rfl, hQ, ⟨_, rfl⟩, hW, hsame.mono hc hs⟩
theorem Go.retR (X : Stand p l e R s m args below meth c T locs cells slots) (hx : p.tables.exec = Jvm.exec) {pc : Nat} {Ls : Array Slot} {a : Addr} {t : FieldType} (hret : meth.sig.returnType = some t) (ht : t.isReference = true) (hd : decode c.code pc = .ok (.areturn, 1)) (hlk : meth.locks = false) {Q : Option Value → Heap → List Loc → Prop} {K S : Nat} (hQ : Q (some (.ref a)) T.heap locs) (hc : cells ≤ K) (hs : slots ≤ S) :
    Go p.tables e below (Fin s Q K S) (T.setTop (mkF m pc Ls [.ref a])) := by
  obtain ⟨fs, hr, hrun, hended, hW, hsame⟩ := X.leave (v := some (.ref a)) (fun h => by rw [hret] at h; cases h) hlk
  exact ⟨_, _, X.areturnOut hx rfl hret ht hd hr, hrun, hended, _, _, rfl, hQ, ⟨_, rfl⟩, hW, hsame.mono hc hs⟩
theorem Go.retV (X : Stand p l e R s m args below meth c T locs cells slots) (hx : p.tables.exec = Jvm.exec) {pc : Nat} {Ls : Array Slot} (hret : meth.sig.returnType = none) (hd : decode c.code pc = .ok (.return_, 1)) (hlk : meth.locks = false) {Q : Option Value → Heap → List Loc → Prop} {K S : Nat} (hQ : Q none T.heap locs) (hc : cells ≤ K) (hs : slots ≤ S) :
    Go p.tables e below (Fin s Q K S) (T.setTop (mkF m pc Ls [])) := by
  obtain ⟨fs, hr, hrun, hended, hW, hsame⟩ := X.leave (v := none) (fun _ => rfl) hlk
  exact ⟨_, _, X.returnOut hx hret hd hr, hrun, hended, _, _, rfl, hQ, ⟨_, rfl⟩, hW, hsame.mono hc hs⟩
theorem lremM {g : JFrame} {target : State} (X : Stand p l e R s m args below meth c T locs cells slots) (hx : p.tables.exec = Jvm.exec) (hg : g.method = m) {x y : Int64} {rest : List Value} (hd : decode c.code g.pc = .ok (.lrem, 1)) (hs : g.stack = .long y :: .long x :: rest) (hy : y ≠ 0)
    (hr : Steps p.tables e below (T.setTop { g with pc := g.pc + 1, stack := .long (x % y) :: rest }) target) : Steps p.tables e below (T.setTop g) target :=
  XS.lrem X.here hx hg hd hs hy (by rw [lrem_mod x y]; exact hr)
theorem storeS_i {ls l' : Array Slot} {k : Nat} {o : Slot} {x : Int32} (hold : ls[k]? = some o) (h : One o) (q : ls.setIfInBounds k (.val (.int x)) = l') : storeLocals ls k (.int x) = some l' := by
  rw [XS.store1 hold h rfl, q]
theorem storeS_a {ls l' : Array Slot} {k : Nat} {o : Slot} {a : Addr} (hold : ls[k]? = some o) (h : One o) (q : ls.setIfInBounds k (.val (.ref a)) = l') : storeLocals ls k (.ref a) = some l' := by
  rw [XS.store1 hold h rfl, q]
end OwnKit
section OwnArr
variable {p : Program} {l : Launch} {e : Env} {R : Room} {s : State} {m : MethodId} {args : Array Value} {below : List Frame} {meth : Method} {c : Code} {T : State} {locs : List Loc} {cells slots : Nat} {Z : State} {h h' : Heap} {a b : Addr} {ty : FieldType} {vs : List Value} {v : Value} {sl : Nat} {ws : List Addr}
/-- the array at a, of the kind ty, holds just this list -/
def ArL (Z : State) (h : Heap) (a : Addr) (ty : FieldType) (vs : List Value) : Prop := ∃ c : Cell, Arr Z h a c ty ∧ c.slots.toList = vs
theorem ArL.lt (F : ArL Z h a ty vs) : a < h.size := by obtain ⟨c, A, -⟩ := F; exact A.lt
theorem ArL.ext (F : ArL Z h a ty vs) (E : Ext h h') : ArL Z h' a ty vs := by obtain ⟨c, A, r⟩ := F; exact ⟨c, A.ext E, r⟩
theorem ArL.other (F : ArL Z h b ty vs) (W : Wr h h' a sl v) (q : b ≠ a) : ArL Z h' b ty vs := by obtain ⟨c, A, r⟩ := F; exact ⟨c, A.other W q, r⟩
theorem ArL.keep (F : ArL Z h a ty vs) (K : Keep h h' ws) (q : a ∉ ws) : ArL Z h' a ty vs := by obtain ⟨c, A, r⟩ := F; exact ⟨c, ⟨K.2.1 a c A.1 q, A.2⟩, r⟩
theorem ArL.new {k : ClassId} {z : Int32} (A : Arr Z h a (newA k ty z) ty) {n : Nat} (q : z.toNatClampNeg = n) : ArL Z h a ty (List.replicate n (defaultValue ty)) := ⟨_, A, by subst q; simp [newA]⟩
theorem ArL.set (F : ArL Z h a ty vs) (W : Wr h h' a sl v) : ArL Z h' a ty (vs.set sl v) := by
  obtain ⟨c, A, r⟩ := F
  exact ⟨_, A.same W, by subst r; simp [Cell.setSlot]⟩
/-- a place of it: what a load and a store ask -/
theorem ArL.at (F : ArL Z h a ty vs) {j : Int32} (h0 : ¬ j < 0) (hj : j.toNatClampNeg < vs.length) : ∃ c : Cell, Arr Z h a c ty ∧ ¬ (j < 0 ∨ c.slots.size ≤ j.toNatClampNeg) ∧ c.slots[j.toNatClampNeg]? = some (vs[j.toNatClampNeg]'hj) := by
  obtain ⟨c, A, rfl⟩ := F
  have q : j.toNatClampNeg < c.slots.size := by simpa using hj
  refine ⟨c, A, fun z => z.elim h0 (fun y => absurd q (Nat.not_lt.mpr y)), ?_⟩
  rw [Array.getElem?_eq_getElem q]
  simp
theorem ArL.get (F : ArL Z h a ty vs) {j : Int32} (h0 : ¬ j < 0) (hv : vs[j.toNatClampNeg]? = some v) : ∃ c : Cell, Arr Z h a c ty ∧ ¬ (j < 0 ∨ c.slots.size ≤ j.toNatClampNeg) ∧ c.slots[j.toNatClampNeg]? = some v := by
  obtain ⟨hj, rfl⟩ := List.getElem?_eq_some_iff.mp hv
  exact F.at h0 hj
theorem ArL.setI {xs : List Int32} {x : Int32} {i : Nat} (F : ArL Z h a ty (List.map Value.int xs)) (W : Wr h h' a i (.int x)) : ArL Z h' a ty (List.map Value.int (xs.set i x)) := by
  rw [List.map_set]; exact F.set W
theorem ArL.setJ {xs : List Int64} {x : Int64} {i : Nat} (F : ArL Z h a ty (List.map Value.long xs)) (W : Wr h h' a i (.long x)) : ArL Z h' a ty (List.map Value.long (xs.set i x)) := by
  rw [List.map_set]; exact F.set W
theorem ArL.newI {k : ClassId} {z : Int32} (A : Arr Z h a (newA k ty z) ty) {n : Nat} (q : z.toNatClampNeg = n) (hd : defaultValue ty = .int 0 := by rfl) : ArL Z h a ty (List.map Value.int (List.replicate n (0 : Int32))) := by
  rw [List.map_replicate, ← hd]; exact ArL.new A q
theorem ArL.newJ {k : ClassId} {z : Int32} (A : Arr Z h a (newA k ty z) ty) {n : Nat} (q : z.toNatClampNeg = n) (hd : defaultValue ty = .long 0 := by rfl) : ArL Z h a ty (List.map Value.long (List.replicate n (0 : Int64))) := by
  rw [List.map_replicate, ← hd]; exact ArL.new A q
theorem getI (xs : List Int32) {i : Nat} (q : i < xs.length) : (List.map Value.int xs)[i]? = some (.int (xs.getD i 0)) := by
  rw [List.getElem?_map, List.getD_eq_getElem?_getD, List.getElem?_eq_getElem q]; rfl
theorem getJ (xs : List Int64) {i : Nat} (q : i < xs.length) : (List.map Value.long xs)[i]? = some (.long (xs.getD i 0)) := by
  rw [List.getElem?_map, List.getD_eq_getElem?_getD, List.getElem?_eq_getElem q]; rfl
theorem ArL.len (F : ArL Z h a ty vs) : ∃ c : Cell, Arr Z h a c ty ∧ c.slots.size = vs.length := by
  obtain ⟨c, A, rfl⟩ := F
  exact ⟨c, A, by simp⟩
end OwnArr
end Jvm.RoadKit
namespace Jvm.Pilot.@@N@@
open Jvm Jvm.ClassFile Sem Op Lib Jvm.Free Jvm.Stand Jvm.LawKit Jvm.RoadKit Bundle Jvm.Pilot.@@N@@.Jvm.D
theorem pd_0 : parseMethodDescriptor "(I)Lcom/example/strict_schedule/strictschedule/locking/LockMode;" = some ⟨[.int], some (.object "com/example/strict_schedule/strictschedule/locking/LockMode")⟩ := by decide +kernel
theorem pd_1 : parseMethodDescriptor "(Lcom/example/strict_schedule/strictschedule/locking/LockMode;)Z" = some ⟨[(.object "com/example/strict_schedule/strictschedule/locking/LockMode")], some .boolean⟩ := by decide +kernel
theorem d1_0 : decode method_2_code 0 = .ok (.iload_n 0, 1) := by decide +kernel
theorem d1_1 : decode method_2_code 1 = .ok (.ifCond .ne 7, 3) := by decide +kernel
theorem d1_4 : decode method_2_code 4 = .ok (.getstatic 7, 3) := by decide +kernel
theorem d1_7 : decode method_2_code 7 = .ok (.areturn, 1) := by decide +kernel
theorem d1_8 : decode method_2_code 8 = .ok (.getstatic 13, 3) := by decide +kernel
theorem d1_11 : decode method_2_code 11 = .ok (.areturn, 1) := by decide +kernel
def f1 (p0 : Int32) (sh : Addr) (ex : Addr) : Addr := (if p0 = (0 : Int32) then sh else ex)
def Q1 (Z : State) (p0 : Int32) (sh : Addr) (ex : Addr) (h0 : Heap) (n0 : Nat) (v : Option Value) (h : Heap) (L : List Loc) : Prop := v = some (.ref (f1 p0 sh ex)) ∧ Fr n0 L ∧ h = h0
abbrev rmm1 : Room := { frames := 0, cells := 0, slots := 0, locals := 0 }
abbrev P1 (Z : State) (p0 : Int32) (sh : Addr) (ex : Addr) (h0 : Heap) (n0 : Nat) (s : State) : Outcome → State → Prop := fun o U' => ∃ v L, o = .returned v ∧ Q1 Z p0 sh ex h0 n0 v U'.heap L ∧ FrameEnd s o U' L rmm1.cells rmm1.slots
theorem pn_1 : plainName "com/example/strict_schedule/strictschedule/locking/LockModeCoversPinLaw" = true := by first | (simp [plainName, overriddenIn]; done) | decide +kernel
theorem ef_1 (m : MethodId) (p0 : Int32) : entryFrame m #[(.int p0)] 1 = mkF m 0 #[.val (.int p0)] [] := by first | (simp [entryFrame, mkF, argsToLocals, Value.category]; done) | rfl
set_option maxRecDepth 65536 in
set_option maxHeartbeats 40000000 in
theorem rm1 (l : Launch) (Z : State) (a0 : Array Value) (hw : ∀ d ∈ tables_1, d.before a0 Z = true) (ws : List Jvm.Cond) (p0 : Int32) (sh : Addr) (ex : Addr) (h0 : Heap) (n0 : Nat) (Z0 : n0 ≤ h0.size) (H0 : Sta Z h0 "com/example/strict_schedule/strictschedule/locking/LockMode" "SHARED" "Lcom/example/strict_schedule/strictschedule/locking/LockMode;" (.ref sh)) (H1 : Sta Z h0 "com/example/strict_schedule/strictschedule/locking/LockMode" "EXCLUSIVE" "Lcom/example/strict_schedule/strictschedule/locking/LockMode;" (.ref ex)) :
    MetFree l (⟨"com/example/strict_schedule/strictschedule/locking/LockModeCoversPinLaw", "mode", "(I)Lcom/example/strict_schedule/strictschedule/locking/LockMode;"⟩ : MethodName) (head1 (Jvm.Cond.code (⟨"com/example/strict_schedule/strictschedule/locking/LockModeCoversPinLaw", "mode", "(I)Lcom/example/strict_schedule/strictschedule/locking/LockMode;"⟩ : MethodName) method_2_code 1 (some (.object "com/example/strict_schedule/strictschedule/locking/LockMode")) :: ws) rmm1) (fun a U => a = #[(.int p0)] ∧ Z.Warmed39 U.vm ∧ U.heap = h0) (fun _ _ _ _ _ => True) (fun _ U o U' => ∃ v L, o = .returned v ∧ Q1 Z p0 sh ex h0 n0 v U'.heap L ∧ FrameEnd U o U' L rmm1.cells rmm1.slots) := by
  refine MetFree.of_bodySF (plainFor_of_name pn_1) hisR ?_
  intro p e s m args below meth c s₁ Bd hml0 hP hK
  obtain ⟨rfl, hZ, hh⟩ := hP
  have hx := Bd.exec
  have hby := Bd.bytes
  have hml : c.maxLocals = 1 := hml0
  have hown : s.vm.findClass "com/example/strict_schedule/strictschedule/locking/LockModeCoversPinLaw" = some m.cls := findClass_of_methodNamed Bd.named
  have hnm := (name_of_methodNamed Bd.named Bd.method).1
  have X0 : Stand p l e rmm1 s m #[(.int p0)] below meth c s₁ [] 0 0 := Stand.of_body Bd
  have e0 : s₁.heap = h0 := by rw [← hh, Bd.state]; rfl
  have N0 := Fr.nil n0
  show Go p.tables e below (P1 Z p0 sh ex h0 n0 s) (s₁.setTop (entryFrame m #[(.int p0)] 1))
  refine Go.back (fun t k => castTop (ef_1 m p0) k) ?_
  show Go p.tables e below (P1 Z p0 sh ex h0 n0 s) (s₁.setTop (mkF m 0 #[.val (.int p0)] []))
  have hf0 : f1 p0 sh ex = (if p0 = (0 : Int32) then sh else ex) := rfl
  refine Go.back (fun t k => XS.iloadN X0.here hx rfl (hb hby d1_0) rfl  k) ?_
  show Go p.tables e below (P1 Z p0 sh ex h0 n0 s) (s₁.setTop (mkF m 1 #[.val (.int p0)] [(.int p0)]))
  by_cases hc1 : p0 = (0 : Int32)
  · have r2 := hf0.trans (if_pos hc1)
    refine Go.back (fun t k => XS.ifNo X0.here hx rfl (hb hby d1_1) rfl ((if0 _ _).trans (teq hc1).2) k) ?_
    show Go p.tables e below (P1 Z p0 sh ex h0 n0 s) (s₁.setTop (mkF m 4 #[.val (.int p0)] []))
    obtain ⟨T3, X3, e3, st3⟩ := getS2 X0 hx hZ hown (host := "") (Or.inl (hw _ (List.mem_of_getElem? (i := 4) rfl))) Via.refl e0 H0 (g := (mkF m 4 #[.val (.int p0)] [])) rfl (hb hby d1_4)
    refine Go.back st3 ?_
    show Go p.tables e below (P1 Z p0 sh ex h0 n0 s) (T3.setTop (mkF m 7 #[.val (.int p0)] [(.ref sh)]))
    exact Go.retR X3 hx Bd.returns rfl (hb hby d1_7) Bd.notSynchronized ⟨by rw [r2], N0, e3⟩ (by decide) (by decide)
  · have r4 := hf0.trans (if_neg hc1)
    refine Go.back (fun t k => XS.ifYes X0.here hx rfl (pc0 := 1) (pc' := 8) rfl (hb hby d1_1) rfl ((if0 _ _).trans (feq hc1).2) (by decide) (by decide) k) ?_
    show Go p.tables e below (P1 Z p0 sh ex h0 n0 s) (s₁.setTop (mkF m 8 #[.val (.int p0)] []))
    obtain ⟨T5, X5, e5, st5⟩ := getS2 X0 hx hZ hown (host := "") (Or.inl (hw _ (List.mem_of_getElem? (i := 7) rfl))) Via.refl e0 H1 (g := (mkF m 8 #[.val (.int p0)] [])) rfl (hb hby d1_8)
    refine Go.back st5 ?_
    show Go p.tables e below (P1 Z p0 sh ex h0 n0 s) (T5.setTop (mkF m 11 #[.val (.int p0)] [(.ref ex)]))
    exact Go.retR X5 hx Bd.returns rfl (hb hby d1_11) Bd.notSynchronized ⟨by rw [r4], N0, e5⟩ (by decide) (by decide)
theorem d2_0 : decode prog_58_method_5_code 0 = .ok (.aload_n 0, 1) := by decide +kernel
theorem d2_1 : decode prog_58_method_5_code 1 = .ok (.getstatic 7, 3) := by decide +kernel
theorem d2_4 : decode prog_58_method_5_code 4 = .ok (.if_acmp .eq 10, 3) := by decide +kernel
theorem d2_7 : decode prog_58_method_5_code 7 = .ok (.aload_n 1, 1) := by decide +kernel
theorem d2_8 : decode prog_58_method_5_code 8 = .ok (.getstatic 3, 3) := by decide +kernel
theorem d2_11 : decode prog_58_method_5_code 11 = .ok (.if_acmp .ne 7, 3) := by decide +kernel
theorem d2_14 : decode prog_58_method_5_code 14 = .ok (.iconst 1, 1) := by decide +kernel
theorem d2_15 : decode prog_58_method_5_code 15 = .ok (.goto 4, 3) := by decide +kernel
theorem d2_18 : decode prog_58_method_5_code 18 = .ok (.iconst 0, 1) := by decide +kernel
theorem d2_19 : decode prog_58_method_5_code 19 = .ok (.ireturn, 1) := by decide +kernel
def f2 (p0 : Addr) (p1 : Addr) (sh : Addr) (ex : Addr) : Bool := (let z4 : Bool := (if p0 = ex then true else (if p1 = sh then true else false)); z4)
def Q2 (Z : State) (p0 : Addr) (p1 : Addr) (sh : Addr) (ex : Addr) (h0 : Heap) (n0 : Nat) (v : Option Value) (h : Heap) (L : List Loc) : Prop := v = some (.int (b2i (f2 p0 p1 sh ex))) ∧ Fr n0 L ∧ h = h0
abbrev rmm2 : Room := { frames := 0, cells := 0, slots := 0, locals := 0 }
abbrev P2 (Z : State) (p0 : Addr) (p1 : Addr) (sh : Addr) (ex : Addr) (h0 : Heap) (n0 : Nat) (s : State) : Outcome → State → Prop := fun o U' => ∃ v L, o = .returned v ∧ Q2 Z p0 p1 sh ex h0 n0 v U'.heap L ∧ FrameEnd s o U' L rmm2.cells rmm2.slots
theorem pn_2 : plainName "com/example/strict_schedule/strictschedule/locking/LockMode" = true := by first | (simp [plainName, overriddenIn]; done) | decide +kernel
theorem ef_2 (m : MethodId) (p0 : Addr) (p1 : Addr) : entryFrame m #[(.ref p0), (.ref p1)] 2 = mkF m 0 #[.val (.ref p0), .val (.ref p1)] [] := by first | (simp [entryFrame, mkF, argsToLocals, Value.category]; done) | rfl
set_option maxRecDepth 65536 in
set_option maxHeartbeats 40000000 in
theorem rm2 (l : Launch) (Z : State) (a0 : Array Value) (hw : ∀ d ∈ tables_1, d.before a0 Z = true) (ws : List Jvm.Cond) (p0 : Addr) (p1 : Addr) (sh : Addr) (ex : Addr) (h0 : Heap) (n0 : Nat) (Z0 : n0 ≤ h0.size) (H0 : Sta Z h0 "com/example/strict_schedule/strictschedule/locking/LockMode" "SHARED" "Lcom/example/strict_schedule/strictschedule/locking/LockMode;" (.ref sh)) (H1 : Sta Z h0 "com/example/strict_schedule/strictschedule/locking/LockMode" "EXCLUSIVE" "Lcom/example/strict_schedule/strictschedule/locking/LockMode;" (.ref ex)) :
    MetFree l (⟨"com/example/strict_schedule/strictschedule/locking/LockMode", "covers", "(Lcom/example/strict_schedule/strictschedule/locking/LockMode;)Z"⟩ : MethodName) (head1 (Jvm.Cond.code (⟨"com/example/strict_schedule/strictschedule/locking/LockMode", "covers", "(Lcom/example/strict_schedule/strictschedule/locking/LockMode;)Z"⟩ : MethodName) prog_58_method_5_code 2 (some .boolean) :: ws) rmm2) (fun a U => a = #[(.ref p0), (.ref p1)] ∧ Z.Warmed39 U.vm ∧ U.heap = h0) (fun _ _ _ _ _ => True) (fun _ U o U' => ∃ v L, o = .returned v ∧ Q2 Z p0 p1 sh ex h0 n0 v U'.heap L ∧ FrameEnd U o U' L rmm2.cells rmm2.slots) := by
  refine MetFree.of_bodySF (plainFor_of_name pn_2) hisR ?_
  intro p e s m args below meth c s₁ Bd hml0 hP hK
  obtain ⟨rfl, hZ, hh⟩ := hP
  have hx := Bd.exec
  have hby := Bd.bytes
  have hml : c.maxLocals = 2 := hml0
  have hown : s.vm.findClass "com/example/strict_schedule/strictschedule/locking/LockMode" = some m.cls := findClass_of_methodNamed Bd.named
  have hnm := (name_of_methodNamed Bd.named Bd.method).1
  have X0 : Stand p l e rmm2 s m #[(.ref p0), (.ref p1)] below meth c s₁ [] 0 0 := Stand.of_body Bd
  have e0 : s₁.heap = h0 := by rw [← hh, Bd.state]; rfl
  have N0 := Fr.nil n0
  show Go p.tables e below (P2 Z p0 p1 sh ex h0 n0 s) (s₁.setTop (entryFrame m #[(.ref p0), (.ref p1)] 2))
  refine Go.back (fun t k => castTop (ef_2 m p0 p1) k) ?_
  show Go p.tables e below (P2 Z p0 p1 sh ex h0 n0 s) (s₁.setTop (mkF m 0 #[.val (.ref p0), .val (.ref p1)] []))
  have hf0 : f2 p0 p1 sh ex = (let z4 : Bool := (if p0 = ex then true else (if p1 = sh then true else false)); z4) := rfl
  refine Go.back (fun t k => XS.aloadN X0.here hx rfl (hb hby d2_0) rfl rfl  k) ?_
  show Go p.tables e below (P2 Z p0 p1 sh ex h0 n0 s) (s₁.setTop (mkF m 1 #[.val (.ref p0), .val (.ref p1)] [(.ref p0)]))
  obtain ⟨T1, X1, e1, st1⟩ := getS2 X0 hx hZ hown (host := "") (Or.inl (hw _ (List.mem_of_getElem? (i := 14) rfl))) Via.refl e0 H1 (g := (mkF m 1 #[.val (.ref p0), .val (.ref p1)] [(.ref p0)])) rfl (hb hby d2_1)
  refine Go.back st1 ?_
  show Go p.tables e below (P2 Z p0 p1 sh ex h0 n0 s) (T1.setTop (mkF m 4 #[.val (.ref p0), .val (.ref p1)] [(.ref ex), (.ref p0)]))
  have J3 : ∀ (T5 : State) (L5 : List Loc) (X5 : Stand p l e rmm2 s m #[(.ref p0), (.ref p1)] below meth c T5 L5 0 0) (N5 : Fr n0 L5) (e5 : T5.heap = h0) (z4 : Bool) (hz4 : z4 = (if p0 = ex then true else (if p1 = sh then true else false))), Go p.tables e below (P2 Z p0 p1 sh ex h0 n0 s) (T5.setTop (mkF m 19 #[.val (.ref p0), .val (.ref p1)] [(.int (b2i z4))])) := by
    intro T5 L5 X5 N5 e5 z4 hz4
    have r6 : f2 p0 p1 sh ex = z4 := by subst hz4; exact hf0
    show Go p.tables e below (P2 Z p0 p1 sh ex h0 n0 s) (T5.setTop (mkF m 19 #[.val (.ref p0), .val (.ref p1)] [(.int (b2i z4))]))
    exact Go.retB (b := z4) X5 hx Bd.returns (hb hby d2_19) Bd.notSynchronized ⟨by rw [r6], N5, e5⟩ (by decide) (by decide)
  have r7 : (if p0 = ex then true else (if p1 = sh then true else false)) = (if p0 = ex then true else (if p1 = sh then true else false)) := rfl
  by_cases hc2 : p0 = ex
  · have r8 := r7.trans (if_pos hc2)
    refine Go.back (fun t k => Jvm.RoadKit.acmp (g := (mkF m 4 #[.val (.ref p0), .val (.ref p1)] [(.ref ex), (.ref p0)])) X1 hx rfl rfl rfl (pc0 := 4) (pc' := 14) (same := true) rfl (hb hby d2_4) rfl ((decide_eq_true (congrArg Value.ref hc2))) (by decide) (by decide) k) ?_
    show Go p.tables e below (P2 Z p0 p1 sh ex h0 n0 s) (T1.setTop (mkF m 14 #[.val (.ref p0), .val (.ref p1)] []))
    refine Go.back (fun t k => XS.iconst X1.here hx rfl (hb hby d2_14) k) ?_
    show Go p.tables e below (P2 Z p0 p1 sh ex h0 n0 s) (T1.setTop (mkF m 15 #[.val (.ref p0), .val (.ref p1)] [(.int (1 : Int32))]))
    refine Go.back (fun t k => XS.goto X1.here hx rfl (pc0 := 15) (pc' := 19) rfl (hb hby d2_15) (by decide) (by decide) k) ?_
    show Go p.tables e below (P2 Z p0 p1 sh ex h0 n0 s) (T1.setTop (mkF m 19 #[.val (.ref p0), .val (.ref p1)] [(.int (1 : Int32))]))
    exact J3 _ _ X1 N0 e1 true r8.symm
  · have r9 := r7.trans (if_neg hc2)
    refine Go.back (fun t k => Jvm.RoadKit.acmp (g := (mkF m 4 #[.val (.ref p0), .val (.ref p1)] [(.ref ex), (.ref p0)])) X1 hx rfl rfl rfl (pc0 := 4) (pc' := 7) (same := false) rfl (hb hby d2_4) rfl ((decide_eq_false fun q => hc2 (Value.ref.inj q))) (by decide) (by decide) k) ?_
    show Go p.tables e below (P2 Z p0 p1 sh ex h0 n0 s) (T1.setTop (mkF m 7 #[.val (.ref p0), .val (.ref p1)] []))
    refine Go.back (fun t k => XS.aloadN X1.here hx rfl (hb hby d2_7) rfl rfl  k) ?_
    show Go p.tables e below (P2 Z p0 p1 sh ex h0 n0 s) (T1.setTop (mkF m 8 #[.val (.ref p0), .val (.ref p1)] [(.ref p1)]))
    obtain ⟨T10, X10, e10, st10⟩ := getS2 X1 hx hZ hown (host := "") (Or.inl (hw _ (List.mem_of_getElem? (i := 15) rfl))) Via.refl e1 H0 (g := (mkF m 8 #[.val (.ref p0), .val (.ref p1)] [(.ref p1)])) rfl (hb hby d2_8)
    refine Go.back st10 ?_
    show Go p.tables e below (P2 Z p0 p1 sh ex h0 n0 s) (T10.setTop (mkF m 11 #[.val (.ref p0), .val (.ref p1)] [(.ref sh), (.ref p1)]))
    by_cases hc11 : p1 = sh
    · have r12 := r9.trans (if_pos hc11)
      refine Go.back (fun t k => Jvm.RoadKit.acmp (g := (mkF m 11 #[.val (.ref p0), .val (.ref p1)] [(.ref sh), (.ref p1)])) X10 hx rfl rfl rfl (pc0 := 11) (pc' := 14) (same := true) rfl (hb hby d2_11) rfl ((decide_eq_true (congrArg Value.ref hc11))) (by decide) (by decide) k) ?_
      show Go p.tables e below (P2 Z p0 p1 sh ex h0 n0 s) (T10.setTop (mkF m 14 #[.val (.ref p0), .val (.ref p1)] []))
      refine Go.back (fun t k => XS.iconst X10.here hx rfl (hb hby d2_14) k) ?_
      show Go p.tables e below (P2 Z p0 p1 sh ex h0 n0 s) (T10.setTop (mkF m 15 #[.val (.ref p0), .val (.ref p1)] [(.int (1 : Int32))]))
      refine Go.back (fun t k => XS.goto X10.here hx rfl (pc0 := 15) (pc' := 19) rfl (hb hby d2_15) (by decide) (by decide) k) ?_
      show Go p.tables e below (P2 Z p0 p1 sh ex h0 n0 s) (T10.setTop (mkF m 19 #[.val (.ref p0), .val (.ref p1)] [(.int (1 : Int32))]))
      exact J3 _ _ X10 N0 e10 true r12.symm
    · have r13 := r9.trans (if_neg hc11)
      refine Go.back (fun t k => Jvm.RoadKit.acmp (g := (mkF m 11 #[.val (.ref p0), .val (.ref p1)] [(.ref sh), (.ref p1)])) X10 hx rfl rfl rfl (pc0 := 11) (pc' := 18) (same := false) rfl (hb hby d2_11) rfl ((decide_eq_false fun q => hc11 (Value.ref.inj q))) (by decide) (by decide) k) ?_
      show Go p.tables e below (P2 Z p0 p1 sh ex h0 n0 s) (T10.setTop (mkF m 18 #[.val (.ref p0), .val (.ref p1)] []))
      refine Go.back (fun t k => XS.iconst X10.here hx rfl (hb hby d2_18) k) ?_
      show Go p.tables e below (P2 Z p0 p1 sh ex h0 n0 s) (T10.setTop (mkF m 19 #[.val (.ref p0), .val (.ref p1)] [(.int (0 : Int32))]))
      exact J3 _ _ X10 N0 e10 false r13.symm
def f0 (p0 : Int32) (p1 : Int32) (sh : Addr) (ex : Addr) : Bool := (let z7 : Bool := (if (p0 &&& (1 : Int32)) < (p1 &&& (1 : Int32)) then false else true); (let z11 : Bool := (if (f2 (f1 (p0 &&& (1 : Int32)) sh ex) (f1 (p1 &&& (1 : Int32)) sh ex) sh ex) = z7 then true else false); z11))
def Q0 (Z : State) (p0 : Int32) (p1 : Int32) (sh : Addr) (ex : Addr) (h0 : Heap) (n0 : Nat) (v : Option Value) (h : Heap) (L : List Loc) : Prop := v = some (.int (b2i (f0 p0 p1 sh ex))) ∧ Fr n0 L ∧ h = h0
abbrev P0 (Z : State) (p0 : Int32) (p1 : Int32) (sh : Addr) (ex : Addr) (h0 : Heap) (n0 : Nat) (s : State) : Outcome → State → Prop := fun o U' => ∃ v L, o = .returned v ∧ Q0 Z p0 p1 sh ex h0 n0 v U'.heap L ∧ FrameEnd s o U' L room_1.cells room_1.slots
theorem pn_0 : plainName "com/example/strict_schedule/strictschedule/locking/LockModeCoversPinLaw" = true := by first | (simp [plainName, overriddenIn]; done) | decide +kernel
theorem ef_0 (m : MethodId) (p0 : Int32) (p1 : Int32) : entryFrame m #[(.int p0), (.int p1)] maxLocals = mkF m 0 #[.val (.int p0), .val (.int p1), .unset, .unset, .unset, .unset] [] := by first | (simp [entryFrame, mkF, argsToLocals, Value.category, maxLocals]; done) | rfl
set_option maxRecDepth 65536 in
set_option maxHeartbeats 40000000 in
theorem rm0 (l : Launch) (Z : State) (a0 : Array Value) (hw : ∀ d ∈ tables_1, d.before a0 Z = true) (ws : List Jvm.Cond) (p0 : Int32) (p1 : Int32) (sh : Addr) (ex : Addr) (h0 : Heap) (n0 : Nat) (Z0 : n0 ≤ h0.size) (H0 : Sta Z h0 "com/example/strict_schedule/strictschedule/locking/LockMode" "SHARED" "Lcom/example/strict_schedule/strictschedule/locking/LockMode;" (.ref sh)) (H1 : Sta Z h0 "com/example/strict_schedule/strictschedule/locking/LockMode" "EXCLUSIVE" "Lcom/example/strict_schedule/strictschedule/locking/LockMode;" (.ref ex)) (H2 : Exa Z h0 sh "com/example/strict_schedule/strictschedule/locking/LockMode") (H3 : Exa Z h0 ex "com/example/strict_schedule/strictschedule/locking/LockMode") :
    MetFree l x (head1 (Jvm.Cond.code x code maxLocals ret :: ws) room_1) (fun a U => a = #[(.int p0), (.int p1)] ∧ Z.Warmed39 U.vm ∧ U.heap = h0) (fun _ _ _ _ _ => True) (fun _ U o U' => ∃ v L, o = .returned v ∧ Q0 Z p0 p1 sh ex h0 n0 v U'.heap L ∧ FrameEnd U o U' L room_1.cells room_1.slots) := by
  refine MetFree.of_bodySF (plainFor_of_name pn_0) hisR ?_
  intro p e s m args below meth c s₁ Bd hml0 hP hK
  obtain ⟨rfl, hZ, hh⟩ := hP
  have hx := Bd.exec
  have hby := Bd.bytes
  have hml : c.maxLocals = 6 := hml0
  have hown : s.vm.findClass "com/example/strict_schedule/strictschedule/locking/LockModeCoversPinLaw" = some m.cls := findClass_of_methodNamed Bd.named
  have hnm := (name_of_methodNamed Bd.named Bd.method).1
  have X0 : Stand p l e room_1 s m #[(.int p0), (.int p1)] below meth c s₁ [] 0 0 := Stand.of_body Bd
  have e0 : s₁.heap = h0 := by rw [← hh, Bd.state]; rfl
  have N0 := Fr.nil n0
  show Go p.tables e below (P0 Z p0 p1 sh ex h0 n0 s) (s₁.setTop (entryFrame m #[(.int p0), (.int p1)] maxLocals))
  refine Go.back (fun t k => castTop (ef_0 m p0 p1) k) ?_
  show Go p.tables e below (P0 Z p0 p1 sh ex h0 n0 s) (s₁.setTop (mkF m 0 #[.val (.int p0), .val (.int p1), .unset, .unset, .unset, .unset] []))
  have hf0 : f0 p0 p1 sh ex = (let z7 : Bool := (if (p0 &&& (1 : Int32)) < (p1 &&& (1 : Int32)) then false else true); (let z11 : Bool := (if (f2 (f1 (p0 &&& (1 : Int32)) sh ex) (f1 (p1 &&& (1 : Int32)) sh ex) sh ex) = z7 then true else false); z11)) := rfl
  refine Go.back (fun t k => XS.iloadN X0.here hx rfl (hb hby at_0) rfl  k) ?_
  show Go p.tables e below (P0 Z p0 p1 sh ex h0 n0 s) (s₁.setTop (mkF m 1 #[.val (.int p0), .val (.int p1), .unset, .unset, .unset, .unset] [(.int p0)]))
  refine Go.back (fun t k => XS.iconst X0.here hx rfl (hb hby at_1) k) ?_
  show Go p.tables e below (P0 Z p0 p1 sh ex h0 n0 s) (s₁.setTop (mkF m 2 #[.val (.int p0), .val (.int p1), .unset, .unset, .unset, .unset] [(.int (1 : Int32)), (.int p0)]))
  refine Go.back (fun t k => XS.iand X0.here hx rfl (hb hby at_2) rfl k) ?_
  show Go p.tables e below (P0 Z p0 p1 sh ex h0 n0 s) (s₁.setTop (mkF m 3 #[.val (.int p0), .val (.int p1), .unset, .unset, .unset, .unset] [(.int (p0 &&& (1 : Int32)))]))
  refine Go.back (fun t k => XS.istoreN X0.here hx rfl (hb hby at_3) rfl (l' := #[.val (.int p0), .val (.int p1), .val (.int (p0 &&& (1 : Int32))), .unset, .unset, .unset]) rfl k) ?_
  show Go p.tables e below (P0 Z p0 p1 sh ex h0 n0 s) (s₁.setTop (mkF m 4 #[.val (.int p0), .val (.int p1), .val (.int (p0 &&& (1 : Int32))), .unset, .unset, .unset] []))
  refine Go.back (fun t k => XS.iloadN X0.here hx rfl (hb hby at_4) rfl  k) ?_
  show Go p.tables e below (P0 Z p0 p1 sh ex h0 n0 s) (s₁.setTop (mkF m 5 #[.val (.int p0), .val (.int p1), .val (.int (p0 &&& (1 : Int32))), .unset, .unset, .unset] [(.int p1)]))
  refine Go.back (fun t k => XS.iconst X0.here hx rfl (hb hby at_5) k) ?_
  show Go p.tables e below (P0 Z p0 p1 sh ex h0 n0 s) (s₁.setTop (mkF m 6 #[.val (.int p0), .val (.int p1), .val (.int (p0 &&& (1 : Int32))), .unset, .unset, .unset] [(.int (1 : Int32)), (.int p1)]))
  refine Go.back (fun t k => XS.iand X0.here hx rfl (hb hby at_6) rfl k) ?_
  show Go p.tables e below (P0 Z p0 p1 sh ex h0 n0 s) (s₁.setTop (mkF m 7 #[.val (.int p0), .val (.int p1), .val (.int (p0 &&& (1 : Int32))), .unset, .unset, .unset] [(.int (p1 &&& (1 : Int32)))]))
  refine Go.back (fun t k => XS.istoreN X0.here hx rfl (hb hby at_7) rfl (l' := #[.val (.int p0), .val (.int p1), .val (.int (p0 &&& (1 : Int32))), .val (.int (p1 &&& (1 : Int32))), .unset, .unset]) rfl k) ?_
  show Go p.tables e below (P0 Z p0 p1 sh ex h0 n0 s) (s₁.setTop (mkF m 8 #[.val (.int p0), .val (.int p1), .val (.int (p0 &&& (1 : Int32))), .val (.int (p1 &&& (1 : Int32))), .unset, .unset] []))
  refine Go.back (fun t k => XS.iloadN X0.here hx rfl (hb hby at_8) rfl  k) ?_
  show Go p.tables e below (P0 Z p0 p1 sh ex h0 n0 s) (s₁.setTop (mkF m 9 #[.val (.int p0), .val (.int p1), .val (.int (p0 &&& (1 : Int32))), .val (.int (p1 &&& (1 : Int32))), .unset, .unset] [(.int (p0 &&& (1 : Int32)))]))
  obtain ⟨_, _, ⟨T1, L1, k1, n1⟩, -, X1, ⟨Lc1, hQ1, l1, y1, z1⟩, st1⟩ := Jvm.LawKit.callS X0 hx (y := (⟨"com/example/strict_schedule/strictschedule/locking/LockModeCoversPinLaw", "mode", "(I)Lcom/example/strict_schedule/strictschedule/locking/LockMode;"⟩ : MethodName)) hown (mvT hZ (hw _ (List.mem_of_getElem? (i := 0) rfl))) (mvT hZ (hw _ (List.mem_of_getElem? (i := 1) rfl))) (mvT hZ (hw _ (List.mem_of_getElem? (i := 2) rfl))) (mvT hZ (hw _ (List.mem_of_getElem? (i := 3) rfl))) (by decide) (backOf (W := 0) (rm1 l Z a0 hw [] (p0 &&& (1 : Int32)) sh ex h0 n0 Z0 H0 H1) hZ (hw _ (List.mem_of_getElem? (i := 3) rfl)) (hw _ (List.mem_of_getElem? (i := 2) rfl)) (by decide) (by decide)) (g := (mkF m 9 #[.val (.int p0), .val (.int p1), .val (.int (p0 &&& (1 : Int32))), .val (.int (p1 &&& (1 : Int32))), .unset, .unset] [(.int (p0 &&& (1 : Int32)))])) rfl (by rw [hml]; rfl) (argsL := [(.int (p0 &&& (1 : Int32)))]) (rest := []) (lenOf pd_0 rfl) rfl (by show 2 * 0 + _ ≤ _; exact Nat.le_of_eq rfl) (hb hby at_9) (fun _ _ => ⟨rfl, e0, (by decide : 0 + 0 ≤ _), (by decide : 0 + 0 ≤ _)⟩)
  dsimp only [Pt.U, Pt.locs, Pt.cells, Pt.slots] at X1 l1 y1 z1 st1 hQ1
  subst l1 y1 z1
  obtain ⟨rfl, N1q, e1⟩ := hQ1
  have N1 := Fr.app N0 N1q
  refine Go.back st1 ?_
  show Go p.tables e below (P0 Z p0 p1 sh ex h0 n0 s) (T1.setTop (mkF m 12 #[.val (.int p0), .val (.int p1), .val (.int (p0 &&& (1 : Int32))), .val (.int (p1 &&& (1 : Int32))), .unset, .unset] [(.ref (f1 (p0 &&& (1 : Int32)) sh ex))]))
  refine Go.back (fun t k => XS.iloadN X1.here hx rfl (hb hby at_12) rfl  k) ?_
  show Go p.tables e below (P0 Z p0 p1 sh ex h0 n0 s) (T1.setTop (mkF m 13 #[.val (.int p0), .val (.int p1), .val (.int (p0 &&& (1 : Int32))), .val (.int (p1 &&& (1 : Int32))), .unset, .unset] [(.int (p1 &&& (1 : Int32))), (.ref (f1 (p0 &&& (1 : Int32)) sh ex))]))
  obtain ⟨_, _, ⟨T2, L2, k2, n2⟩, -, X2, ⟨Lc2, hQ2, l2, y2, z2⟩, st2⟩ := Jvm.LawKit.callS X1 hx (y := (⟨"com/example/strict_schedule/strictschedule/locking/LockModeCoversPinLaw", "mode", "(I)Lcom/example/strict_schedule/strictschedule/locking/LockMode;"⟩ : MethodName)) hown (mvT hZ (hw _ (List.mem_of_getElem? (i := 0) rfl))) (mvT hZ (hw _ (List.mem_of_getElem? (i := 1) rfl))) (mvT hZ (hw _ (List.mem_of_getElem? (i := 2) rfl))) (mvT hZ (hw _ (List.mem_of_getElem? (i := 3) rfl))) (by decide) (backOf (W := 1) (rm1 l Z a0 hw [] (p1 &&& (1 : Int32)) sh ex h0 n0 Z0 H0 H1) hZ (hw _ (List.mem_of_getElem? (i := 3) rfl)) (hw _ (List.mem_of_getElem? (i := 2) rfl)) (by decide) (by decide)) (g := (mkF m 13 #[.val (.int p0), .val (.int p1), .val (.int (p0 &&& (1 : Int32))), .val (.int (p1 &&& (1 : Int32))), .unset, .unset] [(.int (p1 &&& (1 : Int32))), (.ref (f1 (p0 &&& (1 : Int32)) sh ex))])) rfl (by rw [hml]; rfl) (argsL := [(.int (p1 &&& (1 : Int32)))]) (rest := [(.ref (f1 (p0 &&& (1 : Int32)) sh ex))]) (lenOf pd_0 rfl) rfl (by show 2 * 0 + _ ≤ _; exact Nat.le_of_eq rfl) (hb hby at_13) (fun _ _ => ⟨rfl, e1, (by decide : 0 + 0 ≤ _), (by decide : 0 + 0 ≤ _)⟩)
  dsimp only [Pt.U, Pt.locs, Pt.cells, Pt.slots] at X2 l2 y2 z2 st2 hQ2
  subst l2 y2 z2
  obtain ⟨rfl, N2q, e2⟩ := hQ2
  have N2 := Fr.app N1 N2q
  refine Go.back st2 ?_
  show Go p.tables e below (P0 Z p0 p1 sh ex h0 n0 s) (T2.setTop (mkF m 16 #[.val (.int p0), .val (.int p1), .val (.int (p0 &&& (1 : Int32))), .val (.int (p1 &&& (1 : Int32))), .unset, .unset] [(.ref (f1 (p1 &&& (1 : Int32)) sh ex)), (.ref (f1 (p0 &&& (1 : Int32)) sh ex))]))
  have F3 : Exa Z h0 (f1 (p0 &&& (1 : Int32)) sh ex) "com/example/strict_schedule/strictschedule/locking/LockMode" := by unfold f1; split <;> assumption
  obtain ⟨cq4, kq4, q4a, q4b, q4c⟩ := isOf hZ e2 F3
  obtain ⟨_, _, ⟨T4, L4, k4, n4⟩, -, X4, ⟨Lc4, hQ4, l4, y4, z4⟩, st4⟩ := X2.virtualBack hx (y := (⟨"com/example/strict_schedule/strictschedule/locking/LockMode", "covers", "(Lcom/example/strict_schedule/strictschedule/locking/LockMode;)Z"⟩ : MethodName)) (z := (⟨"com/example/strict_schedule/strictschedule/locking/LockMode", "covers", "(Lcom/example/strict_schedule/strictschedule/locking/LockMode;)Z"⟩ : MethodName)) hown (mvT hZ (hw _ (List.mem_of_getElem? (i := 9) rfl))) (mvT hZ (hw _ (List.mem_of_getElem? (i := 10) rfl))) (notFace_of_selects (args := #[]) (mvT hZ (hw _ (List.mem_of_getElem? (i := 12) rfl)))) (mvT hZ (hw _ (List.mem_of_getElem? (i := 12) rfl))) (mvT hZ (hw _ (List.mem_of_getElem? (i := 11) rfl))) (by decide) (backOf (W := 0) (rm2 l Z a0 hw [] (f1 (p0 &&& (1 : Int32)) sh ex) (f1 (p1 &&& (1 : Int32)) sh ex) sh ex h0 n0 Z0 H0 H1) hZ (hw _ (List.mem_of_getElem? (i := 13) rfl)) (hw _ (List.mem_of_getElem? (i := 5) rfl)) (by decide) (by decide)) q4a q4c (g := (mkF m 16 #[.val (.int p0), .val (.int p1), .val (.int (p0 &&& (1 : Int32))), .val (.int (p1 &&& (1 : Int32))), .unset, .unset] [(.ref (f1 (p1 &&& (1 : Int32)) sh ex)), (.ref (f1 (p0 &&& (1 : Int32)) sh ex))])) rfl (by rw [hml]; rfl) (Steps.refl _) (argsL := [(.ref (f1 (p1 &&& (1 : Int32)) sh ex))]) (rest := []) (lenOf pd_1 rfl) rfl (by show 2 * 0 + _ ≤ _; exact Nat.le_of_eq rfl) (hb hby at_16) (fun _ _ => ⟨rfl, e2, (by decide : 0 + 0 ≤ _), (by decide : 0 + 0 ≤ _)⟩)
  dsimp only [Pt.U, Pt.locs, Pt.cells, Pt.slots] at X4 l4 y4 z4 st4 hQ4
  subst l4 y4 z4
  obtain ⟨rfl, N4q, e4⟩ := hQ4
  have N4 := Fr.app N2 N4q
  refine Go.trans st4 ?_
  show Go p.tables e below (P0 Z p0 p1 sh ex h0 n0 s) (T4.setTop (mkF m 19 #[.val (.int p0), .val (.int p1), .val (.int (p0 &&& (1 : Int32))), .val (.int (p1 &&& (1 : Int32))), .unset, .unset] [(.int (b2i (f2 (f1 (p0 &&& (1 : Int32)) sh ex) (f1 (p1 &&& (1 : Int32)) sh ex) sh ex)))]))
  refine Go.back (fun t k => XS.istore X4.here hx rfl (hb hby at_19) rfl (l' := #[.val (.int p0), .val (.int p1), .val (.int (p0 &&& (1 : Int32))), .val (.int (p1 &&& (1 : Int32))), .val (.int (b2i (f2 (f1 (p0 &&& (1 : Int32)) sh ex) (f1 (p1 &&& (1 : Int32)) sh ex) sh ex))), .unset]) rfl k) ?_
  show Go p.tables e below (P0 Z p0 p1 sh ex h0 n0 s) (T4.setTop (mkF m 21 #[.val (.int p0), .val (.int p1), .val (.int (p0 &&& (1 : Int32))), .val (.int (p1 &&& (1 : Int32))), .val (.int (b2i (f2 (f1 (p0 &&& (1 : Int32)) sh ex) (f1 (p1 &&& (1 : Int32)) sh ex) sh ex))), .unset] []))
  refine Go.back (fun t k => XS.iloadN X4.here hx rfl (hb hby at_21) rfl  k) ?_
  show Go p.tables e below (P0 Z p0 p1 sh ex h0 n0 s) (T4.setTop (mkF m 22 #[.val (.int p0), .val (.int p1), .val (.int (p0 &&& (1 : Int32))), .val (.int (p1 &&& (1 : Int32))), .val (.int (b2i (f2 (f1 (p0 &&& (1 : Int32)) sh ex) (f1 (p1 &&& (1 : Int32)) sh ex) sh ex))), .unset] [(.int (p1 &&& (1 : Int32)))]))
  refine Go.back (fun t k => XS.iloadN X4.here hx rfl (hb hby at_22) rfl  k) ?_
  show Go p.tables e below (P0 Z p0 p1 sh ex h0 n0 s) (T4.setTop (mkF m 23 #[.val (.int p0), .val (.int p1), .val (.int (p0 &&& (1 : Int32))), .val (.int (p1 &&& (1 : Int32))), .val (.int (b2i (f2 (f1 (p0 &&& (1 : Int32)) sh ex) (f1 (p1 &&& (1 : Int32)) sh ex) sh ex))), .unset] [(.int (p0 &&& (1 : Int32))), (.int (p1 &&& (1 : Int32)))]))
  have J6 : ∀ (z7 : Bool) (hz7 : z7 = (if (p0 &&& (1 : Int32)) < (p1 &&& (1 : Int32)) then false else true)), Go p.tables e below (P0 Z p0 p1 sh ex h0 n0 s) (T4.setTop (mkF m 31 #[.val (.int p0), .val (.int p1), .val (.int (p0 &&& (1 : Int32))), .val (.int (p1 &&& (1 : Int32))), .val (.int (b2i (f2 (f1 (p0 &&& (1 : Int32)) sh ex) (f1 (p1 &&& (1 : Int32)) sh ex) sh ex))), .unset] [(.int (b2i z7))])) := by
    intro z7 hz7
    have r8 : f0 p0 p1 sh ex = (let z11 : Bool := (if (f2 (f1 (p0 &&& (1 : Int32)) sh ex) (f1 (p1 &&& (1 : Int32)) sh ex) sh ex) = z7 then true else false); z11) := by subst hz7; exact hf0
    show Go p.tables e below (P0 Z p0 p1 sh ex h0 n0 s) (T4.setTop (mkF m 31 #[.val (.int p0), .val (.int p1), .val (.int (p0 &&& (1 : Int32))), .val (.int (p1 &&& (1 : Int32))), .val (.int (b2i (f2 (f1 (p0 &&& (1 : Int32)) sh ex) (f1 (p1 &&& (1 : Int32)) sh ex) sh ex))), .unset] [(.int (b2i z7))]))
    refine Go.back (fun t k => XS.istore X4.here hx rfl (hb hby at_31) rfl (l' := #[.val (.int p0), .val (.int p1), .val (.int (p0 &&& (1 : Int32))), .val (.int (p1 &&& (1 : Int32))), .val (.int (b2i (f2 (f1 (p0 &&& (1 : Int32)) sh ex) (f1 (p1 &&& (1 : Int32)) sh ex) sh ex))), .val (.int (b2i z7))]) rfl k) ?_
    show Go p.tables e below (P0 Z p0 p1 sh ex h0 n0 s) (T4.setTop (mkF m 33 #[.val (.int p0), .val (.int p1), .val (.int (p0 &&& (1 : Int32))), .val (.int (p1 &&& (1 : Int32))), .val (.int (b2i (f2 (f1 (p0 &&& (1 : Int32)) sh ex) (f1 (p1 &&& (1 : Int32)) sh ex) sh ex))), .val (.int (b2i z7))] []))
    refine Go.back (fun t k => XS.iload X4.here hx rfl (hb hby at_33) rfl  k) ?_
    show Go p.tables e below (P0 Z p0 p1 sh ex h0 n0 s) (T4.setTop (mkF m 35 #[.val (.int p0), .val (.int p1), .val (.int (p0 &&& (1 : Int32))), .val (.int (p1 &&& (1 : Int32))), .val (.int (b2i (f2 (f1 (p0 &&& (1 : Int32)) sh ex) (f1 (p1 &&& (1 : Int32)) sh ex) sh ex))), .val (.int (b2i z7))] [(.int (b2i (f2 (f1 (p0 &&& (1 : Int32)) sh ex) (f1 (p1 &&& (1 : Int32)) sh ex) sh ex)))]))
    refine Go.back (fun t k => XS.iload X4.here hx rfl (hb hby at_35) rfl  k) ?_
    show Go p.tables e below (P0 Z p0 p1 sh ex h0 n0 s) (T4.setTop (mkF m 37 #[.val (.int p0), .val (.int p1), .val (.int (p0 &&& (1 : Int32))), .val (.int (p1 &&& (1 : Int32))), .val (.int (b2i (f2 (f1 (p0 &&& (1 : Int32)) sh ex) (f1 (p1 &&& (1 : Int32)) sh ex) sh ex))), .val (.int (b2i z7))] [(.int (b2i z7)), (.int (b2i (f2 (f1 (p0 &&& (1 : Int32)) sh ex) (f1 (p1 &&& (1 : Int32)) sh ex) sh ex)))]))
    have J10 : ∀ (z11 : Bool) (hz11 : z11 = (if (f2 (f1 (p0 &&& (1 : Int32)) sh ex) (f1 (p1 &&& (1 : Int32)) sh ex) sh ex) = z7 then true else false)), Go p.tables e below (P0 Z p0 p1 sh ex h0 n0 s) (T4.setTop (mkF m 45 #[.val (.int p0), .val (.int p1), .val (.int (p0 &&& (1 : Int32))), .val (.int (p1 &&& (1 : Int32))), .val (.int (b2i (f2 (f1 (p0 &&& (1 : Int32)) sh ex) (f1 (p1 &&& (1 : Int32)) sh ex) sh ex))), .val (.int (b2i z7))] [(.int (b2i z11))])) := by
      intro z11 hz11
      have r12 : f0 p0 p1 sh ex = z11 := by subst hz11; exact r8
      show Go p.tables e below (P0 Z p0 p1 sh ex h0 n0 s) (T4.setTop (mkF m 45 #[.val (.int p0), .val (.int p1), .val (.int (p0 &&& (1 : Int32))), .val (.int (p1 &&& (1 : Int32))), .val (.int (b2i (f2 (f1 (p0 &&& (1 : Int32)) sh ex) (f1 (p1 &&& (1 : Int32)) sh ex) sh ex))), .val (.int (b2i z7))] [(.int (b2i z11))]))
      exact Go.retB (b := z11) X4 hx Bd.returns (hb hby at_45) Bd.notSynchronized ⟨by rw [r12], N4, e4⟩ (by decide) (by decide)
    have r13 : (if (f2 (f1 (p0 &&& (1 : Int32)) sh ex) (f1 (p1 &&& (1 : Int32)) sh ex) sh ex) = z7 then true else false) = (if (f2 (f1 (p0 &&& (1 : Int32)) sh ex) (f1 (p1 &&& (1 : Int32)) sh ex) sh ex) = z7 then true else false) := rfl
    by_cases hc9 : (f2 (f1 (p0 &&& (1 : Int32)) sh ex) (f1 (p1 &&& (1 : Int32)) sh ex) sh ex) = z7
    · have r14 := r13.trans (if_pos hc9)
      refine Go.back (fun t k => XS.icmpNo X4.here hx rfl (hb hby at_37) rfl (teq (congrArg b2i hc9)).2 k) ?_
      show Go p.tables e below (P0 Z p0 p1 sh ex h0 n0 s) (T4.setTop (mkF m 40 #[.val (.int p0), .val (.int p1), .val (.int (p0 &&& (1 : Int32))), .val (.int (p1 &&& (1 : Int32))), .val (.int (b2i (f2 (f1 (p0 &&& (1 : Int32)) sh ex) (f1 (p1 &&& (1 : Int32)) sh ex) sh ex))), .val (.int (b2i z7))] []))
      refine Go.back (fun t k => XS.iconst X4.here hx rfl (hb hby at_40) k) ?_
      show Go p.tables e below (P0 Z p0 p1 sh ex h0 n0 s) (T4.setTop (mkF m 41 #[.val (.int p0), .val (.int p1), .val (.int (p0 &&& (1 : Int32))), .val (.int (p1 &&& (1 : Int32))), .val (.int (b2i (f2 (f1 (p0 &&& (1 : Int32)) sh ex) (f1 (p1 &&& (1 : Int32)) sh ex) sh ex))), .val (.int (b2i z7))] [(.int (1 : Int32))]))
      refine Go.back (fun t k => XS.goto X4.here hx rfl (pc0 := 41) (pc' := 45) rfl (hb hby at_41) (by decide) (by decide) k) ?_
      show Go p.tables e below (P0 Z p0 p1 sh ex h0 n0 s) (T4.setTop (mkF m 45 #[.val (.int p0), .val (.int p1), .val (.int (p0 &&& (1 : Int32))), .val (.int (p1 &&& (1 : Int32))), .val (.int (b2i (f2 (f1 (p0 &&& (1 : Int32)) sh ex) (f1 (p1 &&& (1 : Int32)) sh ex) sh ex))), .val (.int (b2i z7))] [(.int (1 : Int32))]))
      exact J10 true r14.symm
    · have r15 := r13.trans (if_neg hc9)
      refine Go.back (fun t k => XS.icmpYes X4.here hx rfl (pc0 := 37) (pc' := 44) rfl (hb hby at_37) rfl (feq (fun q => hc9 (b2i_inj q))).2 (by decide) (by decide) k) ?_
      show Go p.tables e below (P0 Z p0 p1 sh ex h0 n0 s) (T4.setTop (mkF m 44 #[.val (.int p0), .val (.int p1), .val (.int (p0 &&& (1 : Int32))), .val (.int (p1 &&& (1 : Int32))), .val (.int (b2i (f2 (f1 (p0 &&& (1 : Int32)) sh ex) (f1 (p1 &&& (1 : Int32)) sh ex) sh ex))), .val (.int (b2i z7))] []))
      refine Go.back (fun t k => XS.iconst X4.here hx rfl (hb hby at_44) k) ?_
      show Go p.tables e below (P0 Z p0 p1 sh ex h0 n0 s) (T4.setTop (mkF m 45 #[.val (.int p0), .val (.int p1), .val (.int (p0 &&& (1 : Int32))), .val (.int (p1 &&& (1 : Int32))), .val (.int (b2i (f2 (f1 (p0 &&& (1 : Int32)) sh ex) (f1 (p1 &&& (1 : Int32)) sh ex) sh ex))), .val (.int (b2i z7))] [(.int (0 : Int32))]))
      exact J10 false r15.symm
  have r16 : (if (p0 &&& (1 : Int32)) < (p1 &&& (1 : Int32)) then false else true) = (if (p0 &&& (1 : Int32)) < (p1 &&& (1 : Int32)) then false else true) := rfl
  by_cases hc5 : (p0 &&& (1 : Int32)) < (p1 &&& (1 : Int32))
  · have r17 := r16.trans (if_pos hc5)
    refine Go.back (fun t k => XS.icmpYes X4.here hx rfl (pc0 := 23) (pc' := 30) rfl (hb hby at_23) rfl (tlt hc5).2.2.1 (by decide) (by decide) k) ?_
    show Go p.tables e below (P0 Z p0 p1 sh ex h0 n0 s) (T4.setTop (mkF m 30 #[.val (.int p0), .val (.int p1), .val (.int (p0 &&& (1 : Int32))), .val (.int (p1 &&& (1 : Int32))), .val (.int (b2i (f2 (f1 (p0 &&& (1 : Int32)) sh ex) (f1 (p1 &&& (1 : Int32)) sh ex) sh ex))), .unset] []))
    refine Go.back (fun t k => XS.iconst X4.here hx rfl (hb hby at_30) k) ?_
    show Go p.tables e below (P0 Z p0 p1 sh ex h0 n0 s) (T4.setTop (mkF m 31 #[.val (.int p0), .val (.int p1), .val (.int (p0 &&& (1 : Int32))), .val (.int (p1 &&& (1 : Int32))), .val (.int (b2i (f2 (f1 (p0 &&& (1 : Int32)) sh ex) (f1 (p1 &&& (1 : Int32)) sh ex) sh ex))), .unset] [(.int (0 : Int32))]))
    exact J6 false r17.symm
  · have r18 := r16.trans (if_neg hc5)
    refine Go.back (fun t k => XS.icmpNo X4.here hx rfl (hb hby at_23) rfl (flt hc5).2.2.1 k) ?_
    show Go p.tables e below (P0 Z p0 p1 sh ex h0 n0 s) (T4.setTop (mkF m 26 #[.val (.int p0), .val (.int p1), .val (.int (p0 &&& (1 : Int32))), .val (.int (p1 &&& (1 : Int32))), .val (.int (b2i (f2 (f1 (p0 &&& (1 : Int32)) sh ex) (f1 (p1 &&& (1 : Int32)) sh ex) sh ex))), .unset] []))
    refine Go.back (fun t k => XS.iconst X4.here hx rfl (hb hby at_26) k) ?_
    show Go p.tables e below (P0 Z p0 p1 sh ex h0 n0 s) (T4.setTop (mkF m 27 #[.val (.int p0), .val (.int p1), .val (.int (p0 &&& (1 : Int32))), .val (.int (p1 &&& (1 : Int32))), .val (.int (b2i (f2 (f1 (p0 &&& (1 : Int32)) sh ex) (f1 (p1 &&& (1 : Int32)) sh ex) sh ex))), .unset] [(.int (1 : Int32))]))
    refine Go.back (fun t k => XS.goto X4.here hx rfl (pc0 := 27) (pc' := 31) rfl (hb hby at_27) (by decide) (by decide) k) ?_
    show Go p.tables e below (P0 Z p0 p1 sh ex h0 n0 s) (T4.setTop (mkF m 31 #[.val (.int p0), .val (.int p1), .val (.int (p0 &&& (1 : Int32))), .val (.int (p1 &&& (1 : Int32))), .val (.int (b2i (f2 (f1 (p0 &&& (1 : Int32)) sh ex) (f1 (p1 &&& (1 : Int32)) sh ex) sh ex))), .unset] [(.int (1 : Int32))]))
    exact J6 true r18.symm
theorem own_ne {args : Array Value} {s : State} {t u : Term} {a b : Addr} (ht : t.eval args s none [] s = some (.ref a)) (hu : u.eval args s none [] s = some (.ref b)) (h1 : (Jvm.Cond.eq (Jvm.Term.field t "java/lang/Enum" "ordinal" "I") (Jvm.Term.int (0 : Int32))).value args s none s [] = some true) (h2 : (Jvm.Cond.eq (Jvm.Term.field u "java/lang/Enum" "ordinal" "I") (Jvm.Term.int (1 : Int32))).value args s none s [] = some true) : a ≠ b := by
  intro e
  subst e
  simp only [Cond.value, Term.eval, ht, hu, Option.bind_eq_bind, Option.bind_some] at h1 h2
  cases hf : s.fieldOf? a "java/lang/Enum" "ordinal" "I" with
  | none => simp [hf] at h1
  | some v =>
    cases v <;> simp [hf] at h1 h2
    subst h1
    exact absurd h2 (by decide)
theorem own_bit (p : Int32) : p &&& (1 : Int32) = (0 : Int32) ∨ p &&& (1 : Int32) = (1 : Int32) := by
  have h := c_and p 1 (by decide)
  have l1 : (1 : Int32).toInt = 1 := rfl
  rw [l1] at h
  have : (p &&& (1 : Int32)).toInt = 0 ∨ (p &&& (1 : Int32)).toInt = 1 := by omega
  rcases this with q | q
  · exact Or.inl (Int32.toInt_inj.mp q)
  · exact Or.inr (Int32.toInt_inj.mp q)
theorem own_law (p0 p1 : Int32) (sh ex : Addr) (hne : sh ≠ ex) : f0 p0 p1 sh ex = true := by
  unfold f0 f1 f2
  rcases own_bit p0 with h | h <;> rcases own_bit p1 with k | k <;> rw [h, k] <;> simp [hne, hne.symm, show ¬ (0 : Int32) < (0 : Int32) by decide, show (0 : Int32) < (1 : Int32) by decide, show ¬ (1 : Int32) < (0 : Int32) by decide, show ¬ (1 : Int32) < (1 : Int32) by decide]
set_option maxRecDepth 65536 in
set_option maxHeartbeats 40000000 in
theorem comes_1 {Post : Tables → Env → Array Value → State → Outcome → State → Prop} (hpost : ∀ tb e args s v u, (limb_1_1.after args s (.returned v) u = true ∧ limb_1_2.after args s (.returned v) u = true ∧ True) → FrameEnd s (.returned v) u (Jvm.fieldLocs frame_1_writes args s ++ Jvm.arrayLocs frame_1_arrays args s ++ Jvm.staticLocs frame_1_statics s) 0 0 → Post tb e args s (.returned v) u) :
    ArmFor flags0 classFile x code maxLocals ret World_1 tables_1 room_1 Calls_1 rest_1 Pre_1 Post := by
  intro l hfl _ _ p e ha hc hk s m args below hf hA hF happ hP
  obtain ⟨hcalls, hrest, hpre⟩ := hP
  obtain ⟨-, -, -, hnamed, -, -, -, hat⟩ := (Spec.applies_iff hf).mp happ
  obtain ⟨hg, hn⟩ := and_e (Cond.before_iff.mp (show (Jvm.Cond.and given_1 narrow_1).before args s = true from hpre))
  obtain ⟨g1, g2⟩ := and_e hg
  obtain ⟨g3, g4⟩ := and_e g2
  obtain ⟨w0, w1, rfl⟩ : ∃ w0 w1 : Value, args = #[w0, w1] := by
    have hs : args.size = 2 := by simpa [Cond.value, given_1] using g1
    obtain ⟨L⟩ := args
    match L, hs with
    | [w0, w1], _ => exact ⟨w0, w1, rfl⟩
  have hw := fun d (hd : d ∈ tables_1) => atoms_spec (ws := Jvm.Cond.code x code maxLocals ret :: tables_1) hat d (List.mem_cons_of_mem _ hd)
  have hfit : Fit s := fun {y c} hc i hi => by
    obtain ⟨ha, rfl⟩ := Array.getElem?_eq_some_iff.mp hc
    have q := List.all_eq_true.mp ((Array.all_eq_true_iff_forall_mem.mp hF) _ (Array.getElem_mem ha)) i (List.mem_range.mpr hi)
    simpa [Array.getElem?_eq_getElem hi] using q
  obtain ⟨i0, ei0⟩ := is_v g3
  obtain rfl : w0 = (.int i0) := Option.some.inj ei0
  obtain ⟨i1, ei1⟩ := is_v g4
  obtain rfl : w1 = (.int i1) := Option.some.inj ei1
  obtain ⟨n1, n2⟩ := and_e hn
  obtain ⟨n2, n3⟩ := and_e n2
  obtain ⟨n3, n4⟩ := and_e n3
  obtain ⟨sh, _, _, _, esh, -⟩ := Cond.exactly_spec (Cond.before_iff.mpr n1)
  obtain ⟨ex, _, _, _, eex, -⟩ := Cond.exactly_spec (Cond.before_iff.mpr n2)
  have S1 := Sta.start esh (Or.inr ⟨(hw _ (List.mem_of_getElem? (i := 5) rfl)), (hw _ (List.mem_of_getElem? (i := 6) rfl))⟩)
  have S2 := Sta.start eex (Or.inr ⟨(hw _ (List.mem_of_getElem? (i := 5) rfl)), (hw _ (List.mem_of_getElem? (i := 8) rfl))⟩)
  have E1 := Exa.start esh n1
  have E2 := Exa.start eex n2
  have hne : sh ≠ ex := own_ne esh eex n3 n4
  obtain ⟨n, o, h1, h2, h3, v, L, rfl, hQ, hq⟩ := rm0 l s _ hw tables_1 i0 i1 sh ex s.heap s.heap.size (Nat.le_refl _) S1 S2 E1 E2 p e ha hc hk s m _ below hf ((Spec.applies_iff_loose hf).mp happ).1 ⟨rfl, State.Warmed39.refl s, rfl⟩ trivial
  have hv : v = some (.int (b2i (f0 i0 i1 sh ex))) := hQ.1
  rw [own_law i0 i1 sh ex hne] at hv
  subst hv
  have N : Fr s.heap.size L := by first | exact hQ.2.1 | exact hQ.2
  refine ⟨n, _, h1, h2, h3, hpost _ _ _ _ _ _ ⟨Cond.after_iff.mpr rfl, Cond.after_iff.mpr (eq_i res_at (Term.int_eval (1)) rfl), trivial⟩ ⟨hq.1, hq.2.1, (hq.2.2.sift fun y hy => Or.inr (N y hy)).mono (by decide) (by decide)⟩⟩
theorem main_1_1 : Claimed_1_1 := comes_1 fun _ _ _ _ _ _ h hF => ⟨h.1, hF⟩
theorem main_1_2 : Claimed_1_2 := comes_1 fun _ _ _ _ _ _ h hF => ⟨h.2.1, hF⟩
end Jvm.Pilot.@@N@@
namespace Jvm.Pilot.@@N@@
open Jvm Jvm.ClassFile Sem Op Lib Jvm.Free Jvm.Stand Jvm.Pilot.@@N@@.Jvm.D
/-! MADE BY PROGRAM (witnessworld.py) out of the Statement's table words and the real class files: 12 classes; the members and pool entries that the words name. The judged class is class 1, her method 2. -/
namespace start1
open Jvm.ClassFile
def u (s : String) : CpInfo := .utf8 (stringToUtf16 s)
/-- a pool by its gaps: so many unusable entries, then the entry; so many at the end -/
def gap : Nat → List CpInfo → List CpInfo
  | 0, r => r
  | n + 1, r => .unusable :: gap n r
def poolList (es : List (Nat × CpInfo)) (last : Nat) : List CpInfo := es.foldr (fun e r => gap e.1 (e.2 :: r)) (gap last [])
def pool (es : List (Nat × CpInfo)) (last : Nat) : Array CpInfo := ⟨poolList es last⟩
def fileOf (pool : Array CpInfo) (this : Nat) (attrs : Array Attribute := #[]) (ms : Array MethodInfo := #[]) (fl : Nat := 33) (sup : Nat := 0) (ifs : Array Nat := #[]) (fds : Array FieldInfo := #[]) : ClassFile where
  minorVersion := 0
  majorVersion := 65
  constantPool := pool
  accessFlags := fl
  thisClass := this
  superClass := sup
  interfaces := ifs
  fields := fds
  methods := ms
  attributes := attrs
def plain (name : String) (sup : Option ClassId) : Class where
  name := name
  kind := .ordinary
  loader := none
  accessFlags := 33
  super := sup
  interfaces := #[]
  cf := none
  fields := #[]
  methods := #[]
  instanceTypes := #[]
  staticTypes := #[]
  resolved := #[]
  callSites := []
  init := .initialized
  statics := none
  mirror := none

def pool0 : Array CpInfo := pool [(5, u "<init>"), (0, u "()V"), (1, .class_ 10), (1, u "java/lang/Object")] 113

def k0m0 : Method := { name := "<init>", desc := "()V", sig := { parameters := [], returnType := none }, accessFlags := 1, code := none }
/-- java/lang/Object -/
def k0 : Class := { plain "java/lang/Object" none with
  accessFlags := 33
  interfaces := #[]
  cf := some (fileOf pool0 8 #[] #[{ accessFlags := 1, nameIndex := 5, descriptorIndex := 6, attributes := #[] }] 33 0 #[] #[])
  fields := #[]
  methods := #[k0m0]
  instanceTypes := #[]
  staticTypes := #[]
  resolved := Array.replicate 124 none
  statics := none }

def pool1 : Array CpInfo := pool [(2, .class_ 4), (1, u "java/lang/Object"), (0, u "<init>"), (0, u "()V"), (0, .fieldref 8 9), (0, .class_ 10), (0, .nameAndType 11 12), (0, u "com/example/strict_schedule/strictschedule/locking/LockMode"), (0, u "SHARED"), (0, u "Lcom/example/strict_schedule/strictschedule/locking/LockMode;"), (0, .fieldref 8 14), (0, .nameAndType 15 12), (0, u "EXCLUSIVE"), (0, .methodref 17 18), (0, .class_ 19), (0, .nameAndType 20 21), (0, u "com/example/strict_schedule/strictschedule/locking/LockModeCoversPinLaw"), (0, u "mode"), (0, u "(I)Lcom/example/strict_schedule/strictschedule/locking/LockMode;"), (0, .methodref 8 23), (0, .nameAndType 24 25), (0, u "covers"), (0, u "(Lcom/example/strict_schedule/strictschedule/locking/LockMode;)Z"), (3, u "law"), (0, u "(II)Z")] 2

def k1m0 : Method := { name := "<init>", desc := "()V", sig := { parameters := [], returnType := none }, accessFlags := 1, code := none }
def k1c1 : Code := { maxStack := 1, maxLocals := 1, code := method_2_code, exceptionTable := #[], attributes := #[] }
def k1m1 : Method := { name := "mode", desc := "(I)Lcom/example/strict_schedule/strictschedule/locking/LockMode;", sig := { parameters := [.int], returnType := some (.object "com/example/strict_schedule/strictschedule/locking/LockMode") }, accessFlags := 10, code := some k1c1 }
def k1c2 : Code := { maxStack := 2, maxLocals := 6, code := code, exceptionTable := #[], attributes := #[] }
def k1m2 : Method := { name := "law", desc := "(II)Z", sig := { parameters := [.int, .int], returnType := some .boolean }, accessFlags := 9, code := some k1c2 }
/-- com/example/strict_schedule/strictschedule/locking/LockModeCoversPinLaw -/
def k1 : Class := { plain "com/example/strict_schedule/strictschedule/locking/LockModeCoversPinLaw" (some 0) with
  accessFlags := 49
  interfaces := #[]
  cf := some (fileOf pool1 17 #[] #[{ accessFlags := 1, nameIndex := 5, descriptorIndex := 6, attributes := #[] }, { accessFlags := 10, nameIndex := 20, descriptorIndex := 21, attributes := #[] }, { accessFlags := 9, nameIndex := 29, descriptorIndex := 30, attributes := #[] }] 49 2 #[] #[])
  fields := #[]
  methods := #[k1m0, k1m1, k1m2]
  instanceTypes := #[]
  staticTypes := #[]
  resolved := Array.replicate 33 none
  statics := none }

def pool2 : Array CpInfo := pool [(1, .class_ 2), (0, u "java/lang/constant/Constable"), (0, .class_ 4), (0, u "java/lang/Object")] 6

/-- java/lang/constant/Constable -/
def k2 : Class := { plain "java/lang/constant/Constable" (some 0) with
  accessFlags := 1537
  interfaces := #[]
  cf := some (fileOf pool2 1 #[] #[] 1537 3 #[] #[])
  fields := #[]
  methods := #[]
  instanceTypes := #[]
  staticTypes := #[]
  resolved := Array.replicate 11 none
  statics := none }

def pool3 : Array CpInfo := pool [(1, .class_ 2), (0, u "java/lang/Comparable"), (0, .class_ 4), (0, u "java/lang/Object")] 7

/-- java/lang/Comparable -/
def k3 : Class := { plain "java/lang/Comparable" (some 0) with
  accessFlags := 1537
  interfaces := #[]
  cf := some (fileOf pool3 1 #[] #[] 1537 3 #[] #[])
  fields := #[]
  methods := #[]
  instanceTypes := #[]
  staticTypes := #[]
  resolved := Array.replicate 12 none
  statics := none }

def pool4 : Array CpInfo := pool [(1, .class_ 2), (0, u "java/io/Serializable"), (0, .class_ 4), (0, u "java/lang/Object")] 2

/-- java/io/Serializable -/
def k4 : Class := { plain "java/io/Serializable" (some 0) with
  accessFlags := 1537
  interfaces := #[]
  cf := some (fileOf pool4 1 #[] #[] 1537 3 #[] #[])
  fields := #[]
  methods := #[]
  instanceTypes := #[]
  staticTypes := #[]
  resolved := Array.replicate 7 none
  statics := none }

def pool5 : Array CpInfo := pool [(2, .class_ 4), (1, u "java/lang/Enum"), (0, u "name"), (0, u "Ljava/lang/String;"), (2, u "ordinal"), (0, u "I"), (1, .class_ 14), (1, u "java/lang/Object"), (4, u "hash"), (86, .class_ 108), (1, u "java/lang/Enum$EnumDesc"), (2, .class_ 112), (0, u "java/lang/constant/Constable"), (0, .class_ 114), (0, u "java/lang/Comparable"), (0, .class_ 116), (0, u "java/io/Serializable")] 87

/-- java/lang/Enum -/
def k5 : Class := { plain "java/lang/Enum" (some 0) with
  accessFlags := 1057
  interfaces := #[2, 3, 4]
  cf := some (fileOf pool5 2 #[.nestMembers #[106]] #[] 1057 12 #[111, 113, 115] #[{ accessFlags := 18, nameIndex := 5, descriptorIndex := 6, attributes := #[] }, { accessFlags := 18, nameIndex := 9, descriptorIndex := 10, attributes := #[] }, { accessFlags := 2, nameIndex := 19, descriptorIndex := 10, attributes := #[] }])
  fields := #[{ name := "name", type := (.object "java/lang/String"), accessFlags := 18, slot := 0, constantValue := 0 }, { name := "ordinal", type := .int, accessFlags := 18, slot := 1, constantValue := 0 }, { name := "hash", type := .int, accessFlags := 2, slot := 2, constantValue := 0 }]
  methods := #[]
  instanceTypes := #[(.object "java/lang/String"), .int, .int]
  staticTypes := #[]
  resolved := Array.replicate 204 none
  statics := none }

def pool6 : Array CpInfo := pool [(1, .class_ 2), (0, u "com/example/strict_schedule/strictschedule/locking/LockMode"), (0, .fieldref 1 4), (0, .nameAndType 5 6), (0, u "SHARED"), (0, u "Lcom/example/strict_schedule/strictschedule/locking/LockMode;"), (0, .fieldref 1 8), (0, .nameAndType 9 6), (0, u "EXCLUSIVE"), (2, u "$VALUES"), (0, u "[Lcom/example/strict_schedule/strictschedule/locking/LockMode;"), (6, .class_ 22), (1, u "java/lang/Enum"), (21, u "(Lcom/example/strict_schedule/strictschedule/locking/LockMode;)Z"), (1, u "covers")] 4

def k6c0 : Code := { maxStack := 2, maxLocals := 2, code := prog_58_method_5_code, exceptionTable := #[], attributes := #[] }
def k6m0 : Method := { name := "covers", desc := "(Lcom/example/strict_schedule/strictschedule/locking/LockMode;)Z", sig := { parameters := [(.object "com/example/strict_schedule/strictschedule/locking/LockMode")], returnType := some .boolean }, accessFlags := 1, code := some k6c0 }
/-- com/example/strict_schedule/strictschedule/locking/LockMode -/
def k6 : Class := { plain "com/example/strict_schedule/strictschedule/locking/LockMode" (some 5) with
  accessFlags := 16433
  interfaces := #[]
  cf := some (fileOf pool6 1 #[] #[{ accessFlags := 1, nameIndex := 46, descriptorIndex := 44, attributes := #[] }] 16433 20 #[] #[{ accessFlags := 16409, nameIndex := 5, descriptorIndex := 6, attributes := #[] }, { accessFlags := 16409, nameIndex := 9, descriptorIndex := 6, attributes := #[] }, { accessFlags := 4122, nameIndex := 12, descriptorIndex := 13, attributes := #[] }])
  fields := #[{ name := "SHARED", type := (.object "com/example/strict_schedule/strictschedule/locking/LockMode"), accessFlags := 16409, slot := 0, constantValue := 0 }, { name := "EXCLUSIVE", type := (.object "com/example/strict_schedule/strictschedule/locking/LockMode"), accessFlags := 16409, slot := 1, constantValue := 0 }, { name := "$VALUES", type := (.array (.object "com/example/strict_schedule/strictschedule/locking/LockMode")), accessFlags := 4122, slot := 2, constantValue := 0 }]
  methods := #[k6m0]
  instanceTypes := #[(.object "java/lang/String"), .int, .int]
  staticTypes := #[(.object "com/example/strict_schedule/strictschedule/locking/LockMode"), (.object "com/example/strict_schedule/strictschedule/locking/LockMode"), (.array (.object "com/example/strict_schedule/strictschedule/locking/LockMode"))]
  resolved := Array.replicate 51 none
  statics := some 0 }

def pool7 : Array CpInfo := pool [(1, u "java/lang/Cloneable"), (0, .class_ 1), (0, u "java/lang/Object"), (0, .class_ 3)] 3

/-- java/lang/Cloneable -/
def k7 : Class := { plain "java/lang/Cloneable" (some 0) with
  accessFlags := 1537
  interfaces := #[]
  cf := some (fileOf pool7 2 #[] #[] 1537 4 #[] #[])
  fields := #[]
  methods := #[]
  instanceTypes := #[]
  staticTypes := #[]
  resolved := Array.replicate 8 none
  statics := none }

/-- the primitive byte -/
def k8 : Class := { plain "byte" none with kind := .primitive 'B', accessFlags := 0x411 }
/-- [B -/
def k9 : Class := { plain "[B" (some 0) with kind := .array 8 .byte, interfaces := #[7, 4], accessFlags := 1041 }

/-- the primitive int -/
def k10 : Class := { plain "int" none with kind := .primitive 'I', accessFlags := 0x411 }
/-- [I -/
def k11 : Class := { plain "[I" (some 0) with kind := .array 10 .int, interfaces := #[7, 4], accessFlags := 1041 }

def heap : Heap := #[{ cls := 6, slots := #[.ref 1, .ref 2, .null], vm := .statics 6 },
  { cls := 6, slots := #[.null, .int 0, .int 0], vm := .none },
  { cls := 6, slots := #[.null, .int 1, .int 0], vm := .none }]
def classes : Array Class := #[k0, k1, k2, k3, k4, k5, k6, k7, k8, k9, k10, k11]
def interned : List (Array UInt16 × Addr) := []
def slotsUsed : Nat := 9
def theMethod : MethodId := ⟨1, 2⟩
def args0 : Array Value := #[.int 5, .int 6]
def aboutOver (below : List Frame) : State where
  vm := { classes := classes, interned := interned.toArray }
  heap := heap
  slotsUsed := slotsUsed
  threads := #[{ frames := .invoking theMethod args0 :: below }]
def below0 : List Frame := [.native { method := ⟨0, 0⟩, args := #[] }]
def about1 : State := aboutOver below0
def p0 : Program := .bare "" "" ""
def e0 : Env := launch0.env 0 0 0
theorem w_frames : about1.frames = Frame.invoking theMethod args0 :: below0 := rfl
set_option maxRecDepth 65536 in
theorem w_args : argsFit about1.vm theMethod args0 = true := by decide +kernel
set_option maxRecDepth 65536 in
theorem w_heap : heapFits about1 = true := by decide +kernel
set_option maxRecDepth 65536 in
theorem w_runnable : about1.curStatus? = some .runnable := by decide +kernel
set_option maxRecDepth 65536 in
theorem w_alone : about1.alone = true := by decide +kernel
set_option maxRecDepth 65536 in
theorem w_named : about1.methodNamed? x = some theMethod := by decide +kernel
set_option maxRecDepth 65536 in
theorem w_hears : about1.hears theMethod below0 = true := by decide +kernel
set_option maxRecDepth 65536 in
theorem w_ripe : about1.ripe theMethod args0 below0 = true := by decide +kernel
theorem w_running : about1.status = .running := rfl
set_option maxRecDepth 65536 in
theorem w_room : about1.hasRoom e0.platform room_1 = true :=
  launch0.hasRoom_least _ room_1 (by decide +kernel) (by decide +kernel) (by decide +kernel) (by decide +kernel) (by decide +kernel) (by decide +kernel)
theorem allAtoms_all (ts : List Jvm.Cond) (a : Array Jvm.Value) (st : Jvm.State) : (allAtoms ts).before a st = ts.all (fun c => c.before a st) := by
  induction ts with
  | nil => rfl
  | cons c t ih =>
    show (Jvm.Cond.and c (allAtoms t)).before a st = _
    rw [Jvm.Cond.before_and, ih, List.all_cons]
def words1 : List Jvm.Cond := Jvm.Cond.code x code maxLocals ret :: tables_1
/-- a 'code' word, met by the world's own term for the bytes: nothing is compared byte by byte -/
theorem code_word {y : MethodName} {bytes : ByteArray} {mx : Nat} {rt : Option FieldType} {a : Array Value} {s : State} {m : MethodId} {meth : Method} {c : Code} (h1 : s.methodNamed? y = some m) (h2 : s.vm.method? m = some meth) (h3 : meth.code = some c) (h4 : c.code = bytes)
    (h5 : (c.maxLocals == mx && c.exceptionTable.isEmpty && decide (c.maxStack ≤ mostOperands) && decide (meth.sig.returnType = rt) && !meth.locks && decide (parseMethodDescriptor y.desc = some meth.sig)) = true) : (Jvm.Cond.code y bytes mx rt).before a s = true := by
  simp only [Bool.and_eq_true, beq_iff_eq, Bool.not_eq_true', decide_eq_true_eq] at h5
  obtain ⟨⟨⟨⟨⟨g1, g2⟩, g3⟩, g4⟩, g5⟩, g6⟩ := h5
  simp [Cond.before, Cond.holds, Cond.value, h1, h2, h3, h4, g1, g2, g3, g4, g5, g6]
def isCode : Jvm.Cond → Bool
  | .code _ _ _ _ => true
  | _ => false
theorem all_split {L : List Jvm.Cond} {P : Jvm.Cond → Bool} (h1 : L.all (fun c => isCode c || P c) = true) (h2 : ∀ c ∈ L.filter isCode, P c = true) : L.all P = true := by
  refine List.all_eq_true.mpr fun c hc => ?_
  have h := List.all_eq_true.mp h1 c hc
  rcases Bool.eq_false_or_eq_true (isCode c) with hi | hi
  · exact h2 c (List.mem_filter.mpr ⟨hc, hi⟩)
  · simpa [hi] using h
set_option maxRecDepth 65536 in
theorem w_c0 : (Jvm.Cond.code x code maxLocals ret).before args0 about1 = true := code_word (m := ⟨1, 2⟩) (meth := k1m2) (c := k1c2) (by decide +kernel) rfl rfl rfl (by decide +kernel)
set_option maxRecDepth 65536 in
theorem w_c1 : (Jvm.Cond.code ({ cls := "com/example/strict_schedule/strictschedule/locking/LockModeCoversPinLaw", name := "mode", desc := "(I)Lcom/example/strict_schedule/strictschedule/locking/LockMode;" } : Jvm.MethodName) method_2_code (1 : Nat) (Option.some (Jvm.ClassFile.FieldType.object "com/example/strict_schedule/strictschedule/locking/LockMode"))).before args0 about1 = true := code_word (m := ⟨1, 1⟩) (meth := k1m1) (c := k1c1) (by decide +kernel) rfl rfl rfl (by decide +kernel)
set_option maxRecDepth 65536 in
theorem w_c2 : (Jvm.Cond.code ({ cls := "com/example/strict_schedule/strictschedule/locking/LockMode", name := "covers", desc := "(Lcom/example/strict_schedule/strictschedule/locking/LockMode;)Z" } : Jvm.MethodName) prog_58_method_5_code (2 : Nat) (Option.some Jvm.ClassFile.FieldType.boolean)).before args0 about1 = true := code_word (m := ⟨6, 0⟩) (meth := k6m0) (c := k6c0) (by decide +kernel) rfl rfl rfl (by decide +kernel)
def codes1 : List Jvm.Cond := [Jvm.Cond.code x code maxLocals ret, Jvm.Cond.code ({ cls := "com/example/strict_schedule/strictschedule/locking/LockModeCoversPinLaw", name := "mode", desc := "(I)Lcom/example/strict_schedule/strictschedule/locking/LockMode;" } : Jvm.MethodName) method_2_code (1 : Nat) (Option.some (Jvm.ClassFile.FieldType.object "com/example/strict_schedule/strictschedule/locking/LockMode")), Jvm.Cond.code ({ cls := "com/example/strict_schedule/strictschedule/locking/LockMode", name := "covers", desc := "(Lcom/example/strict_schedule/strictschedule/locking/LockMode;)Z" } : Jvm.MethodName) prog_58_method_5_code (2 : Nat) (Option.some Jvm.ClassFile.FieldType.boolean)]
set_option maxRecDepth 65536 in
theorem codes_eq : words1.filter isCode = codes1 := rfl
theorem w_codes : ∀ c ∈ words1.filter isCode, c.before args0 about1 = true := by
  rw [codes_eq]
  intro c hc
  simp only [codes1, List.mem_cons, List.not_mem_nil, or_false] at hc
  rcases hc with rfl | rfl | rfl
  · exact w_c0
  · exact w_c1
  · exact w_c2
set_option maxRecDepth 65536 in
theorem w_t1 : words1.all (fun c => isCode c || c.before args0 about1) = true := by decide +kernel
theorem w_tables : (allAtoms (Jvm.Cond.code x code maxLocals ret :: tables_1)).before args0 about1 = true := by
  rw [allAtoms_all]
  show words1.all (fun c => c.before args0 about1) = true
  refine all_split ?_ w_codes
  rw [w_t1]
set_option maxRecDepth 65536 in
theorem w_case : (Jvm.Cond.and given_1 narrow_1).before args0 about1 = true := by decide +kernel
theorem w_applies : (headSpec (Jvm.Cond.code x code maxLocals ret :: tables_1) room_1).applies x e0.platform about1 = true :=
  (Spec.applies_iff w_frames).mpr ⟨w_running, w_runnable, w_alone, w_named, w_hears, w_ripe, w_room, w_tables⟩
theorem atStart : AtStart classFile x code maxLocals ret World_1 tables_1 room_1 Calls_1 rest_1 Pre_1 launch0 p0 e0 about1 theMethod args0 below0 :=
  ⟨lists_1, trivial, launch0.admits_env _ _ _, launch0.least_env, fairChoices_fair.cas, fairChoices_fair.clock, w_frames, w_args, w_heap, w_applies, trivial, trivial, w_case⟩
end start1
theorem witness_1 : WitnessClaimed_1 := ⟨start1.p0, start1.e0, start1.about1, start1.theMethod, start1.args0, start1.below0, start1.atStart⟩
end Jvm.Pilot.@@N@@
