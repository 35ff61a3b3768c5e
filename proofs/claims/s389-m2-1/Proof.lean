import JvmDerived
import JvmDerived.Pilot.@@N@@Statement
import JvmDerived.Pilot.@@N@@Code
set_option linter.unusedVariables false
set_option linter.unusedSimpArgs false
namespace Jvm.RoadKit
open Sem ClassFile Op Lib Jvm.Stand Jvm.Free Jvm.LawKit
section OwnKit
variable {p : Program} {l : Launch} {e : Env} {R : Room} {s : State} {m : MethodId} {args : Array Value} {below : List Frame} {meth : Method} {c : Code} {T : State} {locs : List Loc} {cells slots : Nat}
/-- a boolean as the machine's int -/
def b2i (b : Bool) : Int32 := bif b then 1 else 0
theorem b2i_t {b : Bool} (h : b = true) : ¬ b2i b = 0 := by subst h; decide
theorem b2i_f {b : Bool} (h : ¬ b = true) : b2i b = 0 := by cases b <;> first | rfl | exact absurd rfl h
theorem b2i_inj {a b : Bool} (h : b2i a = b2i b) : a = b := by cases a <;> cases b <;> first | rfl | exact absurd h (by decide)
theorem nar_b2i (b : Bool) : nar .boolean (b2i b) = b2i b := by cases b <;> decide
/-- from the state U the walk comes to an end that P holds of -/
def Go (tb : Tables) (e : Env) (below : List Frame) (P : Outcome → State → Prop) (U : State) : Prop := ∃ s₂ o, Steps tb e below U s₂ ∧ s₂.status = .running ∧ Ended s₂ below o ∧ P o s₂
theorem Go.back {tb : Tables} {P : Outcome → State → Prop} {U V : State} (h : ∀ t, Steps tb e below V t → Steps tb e below U t) (k : Go tb e below P V) : Go tb e below P U := by
  obtain ⟨s2, o, h1, h2⟩ := k
  exact ⟨s2, o, h _ h1, h2⟩
theorem Go.trans {tb : Tables} {P : Outcome → State → Prop} {U V : State} (h : Steps tb e below U V) (k : Go tb e below P V) : Go tb e below P U := by
  obtain ⟨s2, o, h1, h2⟩ := k
  exact ⟨s2, o, Steps.trans h h1, h2⟩
abbrev Fin (s : State) (Q : Option Value → Heap → List Loc → Prop) (K S : Nat) : Outcome → State → Prop := fun o U' => ∃ v L, o = .returned v ∧ Q v U'.heap L ∧ FrameEnd s o U' L K S
theorem retI0 (X : Stand p l e R s m args below meth c T locs cells slots) (hx : p.tables.exec = Jvm.exec) {pc : Nat} {Ls : Array Slot} {z : Int32} {rest : List Value} (hret : meth.sig.returnType = some .int) (hd : decode c.code pc = .ok (.ireturn, 1)) {fs : List Frame}
    (hl : ∀ (f : JFrame) (acts : List Action), f.method = m → f.locked = none → f.entered = [] → (doReturn e (T.setTop f) acts (some (.int z))).1 = T.setFrames fs) : Steps p.tables e below (T.setTop (mkF m pc Ls (.int z :: rest))) (T.setFrames fs) := by
  have hm' : T.vm.method? m = some meth := X.method'
  have hn : narrow .int (.int z) = .int z := rfl
  show Steps p.tables e below (T.setTop { method := m, pc := pc, locals := Ls, stack := _ :: rest, locked := none }) _
  jvm_step X.here [X.here.top, hx, hd, hm', hret, hn]
  first | (intro acts; rw [hl _ acts rfl rfl rfl]) | rw [hl _ _ rfl rfl rfl]
  exact Steps.refl _
theorem Go.retI (X : Stand p l e R s m args below meth c T locs cells slots) (hx : p.tables.exec = Jvm.exec) {pc : Nat} {Ls : Array Slot} {z : Int32} {rest : List Value} (hret : meth.sig.returnType = some .int) (hd : decode c.code pc = .ok (.ireturn, 1)) (hlk : meth.locks = false) {Q : Option Value → Heap → List Loc → Prop} {K S : Nat} (hQ : Q (some (.int z)) T.heap locs) (hc : cells ≤ K) (hs : slots ≤ S) :
    Go p.tables e below (Fin s Q K S) (T.setTop (mkF m pc Ls (.int z :: rest))) := by
  obtain ⟨fs, hr, hrun, hended, hW, hsame⟩ := X.leave (v := some (.int z)) (fun h => by rw [hret] at h; cases h) hlk
  exact ⟨_, _, retI0 X hx hret hd hr, hrun, hended, _, _, rfl, hQ, ⟨_, rfl⟩, hW, hsame.mono hc hs⟩
theorem Go.retN (X : Stand p l e R s m args below meth c T locs cells slots) (hx : p.tables.exec = Jvm.exec) {pc : Nat} {Ls : Array Slot} {z : Int32} {rest : List Value} {t : FieldType} (hret : meth.sig.returnType = some t) (ht : t = .boolean ∨ t = .byte ∨ t = .char ∨ t = .short) (hd : decode c.code pc = .ok (.ireturn, 1)) (hlk : meth.locks = false) {Q : Option Value → Heap → List Loc → Prop} {K S : Nat} (hQ : Q (some (.int (nar t z))) T.heap locs) (hc : cells ≤ K) (hs : slots ≤ S) :
    Go p.tables e below (Fin s Q K S) (T.setTop (mkF m pc Ls (.int z :: rest))) := by
  obtain ⟨fs, hr, hrun, hended, hW, hsame⟩ := X.leave (v := some (.int (nar t z))) (fun h => by rw [hret] at h; cases h) hlk
  exact ⟨_, _, Jvm.RoadKit.retN X hx hret ht hd hr, hrun, hended, _, _, rfl, hQ, ⟨_, rfl⟩, hW, hsame.mono hc hs⟩
theorem Go.retB (X : Stand p l e R s m args below meth c T locs cells slots) (hx : p.tables.exec = Jvm.exec) {pc : Nat} {Ls : Array Slot} {b : Bool} {rest : List Value} (hret : meth.sig.returnType = some .boolean) (hd : decode c.code pc = .ok (.ireturn, 1)) (hlk : meth.locks = false) {Q : Option Value → Heap → List Loc → Prop} {K S : Nat} (hQ : Q (some (.int (b2i b))) T.heap locs) (hc : cells ≤ K) (hs : slots ≤ S) :
    Go p.tables e below (Fin s Q K S) (T.setTop (mkF m pc Ls (.int (b2i b) :: rest))) := Go.retN X hx hret (Or.inl rfl) hd hlk (by rw [nar_b2i]; exact hQ) hc hs
theorem Go.retJ (X : Stand p l e R s m args below meth c T locs cells slots) (hx : p.tables.exec = Jvm.exec) {pc : Nat} {Ls : Array Slot} {z : Int64} (hret : meth.sig.returnType = some .long) (hd : decode c.code pc = .ok (.lreturn, 1)) (hlk : meth.locks = false) {Q : Option Value → Heap → List Loc → Prop} {K S : Nat} (hQ : Q (some (.long z)) T.heap locs) (hc : cells ≤ K) (hs : slots ≤ S) :
    Go p.tables e below (Fin s Q K S) (T.setTop (mkF m pc Ls [.long z])) := by
  obtain ⟨fs, hr, hrun, hended, hW, hsame⟩ := X.leave (v := some (.long z)) (fun h => by rw [hret] at h; cases h) hlk
  exact ⟨_, _, X.lreturnOut hx hret hd hr, hrun, hended, _, _, rfl, hQ, ⟨_, rfl⟩, hW, hsame.mono hc hs⟩
theorem Go.retR (X : Stand p l e R s m args below meth c T locs cells slots) (hx : p.tables.exec = Jvm.exec) {pc : Nat} {Ls : Array Slot} {a : Addr} {t : FieldType} (hret : meth.sig.returnType = some t) (ht : t.isReference = true) (hd : decode c.code pc = .ok (.areturn, 1)) (hlk : meth.locks = false) {Q : Option Value → Heap → List Loc → Prop} {K S : Nat} (hQ : Q (some (.ref a)) T.heap locs) (hc : cells ≤ K) (hs : slots ≤ S) :
    Go p.tables e below (Fin s Q K S) (T.setTop (mkF m pc Ls [.ref a])) := by
  obtain ⟨fs, hr, hrun, hended, hW, hsame⟩ := X.leave (v := some (.ref a)) (fun h => by rw [hret] at h; cases h) hlk
  exact ⟨_, _, X.areturnOut hx rfl hret ht hd hr, hrun, hended, _, _, rfl, hQ, ⟨_, rfl⟩, hW, hsame.mono hc hs⟩
theorem Go.retV (X : Stand p l e R s m args below meth c T locs cells slots) (hx : p.tables.exec = Jvm.exec) {pc : Nat} {Ls : Array Slot} (hret : meth.sig.returnType = none) (hd : decode c.code pc = .ok (.return_, 1)) (hlk : meth.locks = false) {Q : Option Value → Heap → List Loc → Prop} {K S : Nat} (hQ : Q none T.heap locs) (hc : cells ≤ K) (hs : slots ≤ S) :
    Go p.tables e below (Fin s Q K S) (T.setTop (mkF m pc Ls [])) := by
  obtain ⟨fs, hr, hrun, hended, hW, hsame⟩ := X.leave (v := none) (fun _ => rfl) hlk
  exact ⟨_, _, X.returnOut hx hret hd hr, hrun, hended, _, _, rfl, hQ, ⟨_, rfl⟩, hW, hsame.mono hc hs⟩
theorem lremM {g : JFrame} {target : State} (X : Stand p l e R s m args below meth c T locs cells slots) (hx : p.tables.exec = Jvm.exec) (hg : g.method = m) {x y : Int64} {rest : List Value} (hd : decode c.code g.pc = .ok (.lrem, 1)) (hs : g.stack = .long y :: .long x :: rest) (hy : y ≠ 0)
    (hr : Steps p.tables e below (T.setTop { g with pc := g.pc + 1, stack := .long (x % y) :: rest }) target) : Steps p.tables e below (T.setTop g) target :=
  XS.lrem X.here hx hg hd hs hy (by rw [lrem_mod x y]; exact hr)
/-- the slots written so far get a name -/
theorem pk (X : Stand p l e R s m args below meth c T locs cells slots) {k : Nat} (N : Fr k locs) : ∃ L, Stand p l e R s m args below meth c T L cells slots ∧ Fr k L := ⟨_, X, N⟩
theorem storeS_i {ls l' : Array Slot} {k : Nat} {o : Slot} {x : Int32} (hold : ls[k]? = some o) (h : One o) (q : ls.setIfInBounds k (.val (.int x)) = l') : storeLocals ls k (.int x) = some l' := by
  rw [XS.store1 hold h rfl, q]
theorem storeS_a {ls l' : Array Slot} {k : Nat} {o : Slot} {a : Addr} (hold : ls[k]? = some o) (h : One o) (q : ls.setIfInBounds k (.val (.ref a)) = l') : storeLocals ls k (.ref a) = some l' := by
  rw [XS.store1 hold h rfl, q]
end OwnKit
section OwnArr
variable {p : Program} {l : Launch} {e : Env} {R : Room} {s : State} {m : MethodId} {args : Array Value} {below : List Frame} {meth : Method} {c : Code} {T : State} {locs : List Loc} {cells slots : Nat} {Z : State} {h h' : Heap} {a b : Addr} {ty : FieldType} {vs : List Value} {v : Value} {sl : Nat} {ws : List Addr}
/-- the array at a, of the kind ty, holds just this list -/
def ArL (Z : State) (h : Heap) (a : Addr) (ty : FieldType) (vs : List Value) : Prop := ∃ c : Cell, Arr Z h a c ty ∧ c.slots.toList = vs
theorem ArL.lt (F : ArL Z h a ty vs) : a < h.size := by obtain ⟨c, A, -⟩ := F; exact A.lt
theorem ArL.ext (F : ArL Z h a ty vs) (E : Ext h h') : ArL Z h' a ty vs := by obtain ⟨c, A, r⟩ := F; exact ⟨c, A.ext E, r⟩
theorem ArL.other (F : ArL Z h b ty vs) (W : Wr h h' a sl v) (q : b ≠ a) : ArL Z h' b ty vs := by obtain ⟨c, A, r⟩ := F; exact ⟨c, A.other W q, r⟩
theorem ArL.keep (F : ArL Z h a ty vs) (K : Keep h h' ws) (q : a ∉ ws) : ArL Z h' a ty vs := by obtain ⟨c, A, r⟩ := F; exact ⟨c, ⟨K.2.1 a c A.1 q, A.2⟩, r⟩
theorem ArL.new {k : ClassId} {z : Int32} (A : Arr Z h a (newA k ty z) ty) {n : Nat} (q : z.toNatClampNeg = n) : ArL Z h a ty (List.replicate n (defaultValue ty)) := ⟨_, A, by subst q; simp [newA]⟩
theorem ArL.set (F : ArL Z h a ty vs) (W : Wr h h' a sl v) : ArL Z h' a ty (vs.set sl v) := by
  obtain ⟨c, A, r⟩ := F
  exact ⟨_, A.same W, by subst r; simp [Cell.setSlot]⟩
/-- a place of it: what a load and a store ask -/
theorem ArL.at (F : ArL Z h a ty vs) {j : Int32} (h0 : ¬ j < 0) (hj : j.toNatClampNeg < vs.length) : ∃ c : Cell, Arr Z h a c ty ∧ ¬ (j < 0 ∨ c.slots.size ≤ j.toNatClampNeg) ∧ c.slots[j.toNatClampNeg]? = some (vs[j.toNatClampNeg]'hj) := by
  obtain ⟨c, A, rfl⟩ := F
  have q : j.toNatClampNeg < c.slots.size := by simpa using hj
  refine ⟨c, A, fun z => z.elim h0 (fun y => absurd q (Nat.not_lt.mpr y)), ?_⟩
  rw [Array.getElem?_eq_getElem q]
  simp
theorem ArL.get (F : ArL Z h a ty vs) {j : Int32} (h0 : ¬ j < 0) (hv : vs[j.toNatClampNeg]? = some v) : ∃ c : Cell, Arr Z h a c ty ∧ ¬ (j < 0 ∨ c.slots.size ≤ j.toNatClampNeg) ∧ c.slots[j.toNatClampNeg]? = some v := by
  obtain ⟨hj, rfl⟩ := List.getElem?_eq_some_iff.mp hv
  exact F.at h0 hj
theorem ArL.setI {xs : List Int32} {x : Int32} {i : Nat} (F : ArL Z h a ty (List.map Value.int xs)) (W : Wr h h' a i (.int x)) : ArL Z h' a ty (List.map Value.int (xs.set i x)) := by
  rw [List.map_set]; exact F.set W
theorem ArL.setJ {xs : List Int64} {x : Int64} {i : Nat} (F : ArL Z h a ty (List.map Value.long xs)) (W : Wr h h' a i (.long x)) : ArL Z h' a ty (List.map Value.long (xs.set i x)) := by
  rw [List.map_set]; exact F.set W
theorem ArL.newI {k : ClassId} {z : Int32} (A : Arr Z h a (newA k ty z) ty) {n : Nat} (q : z.toNatClampNeg = n) (hd : defaultValue ty = .int 0 := by rfl) : ArL Z h a ty (List.map Value.int (List.replicate n (0 : Int32))) := by
  rw [List.map_replicate, ← hd]; exact ArL.new A q
theorem ArL.newJ {k : ClassId} {z : Int32} (A : Arr Z h a (newA k ty z) ty) {n : Nat} (q : z.toNatClampNeg = n) (hd : defaultValue ty = .long 0 := by rfl) : ArL Z h a ty (List.map Value.long (List.replicate n (0 : Int64))) := by
  rw [List.map_replicate, ← hd]; exact ArL.new A q
theorem getI (xs : List Int32) {i : Nat} (q : i < xs.length) : (List.map Value.int xs)[i]? = some (.int (xs.getD i 0)) := by
  rw [List.getElem?_map, List.getD_eq_getElem?_getD, List.getElem?_eq_getElem q]; rfl
theorem getJ (xs : List Int64) {i : Nat} (q : i < xs.length) : (List.map Value.long xs)[i]? = some (.long (xs.getD i 0)) := by
  rw [List.getElem?_map, List.getD_eq_getElem?_getD, List.getElem?_eq_getElem q]; rfl
theorem ArL.len (F : ArL Z h a ty vs) : ∃ c : Cell, Arr Z h a c ty ∧ c.slots.size = vs.length := by
  obtain ⟨c, A, rfl⟩ := F
  exact ⟨c, A, by simp⟩
end OwnArr
end Jvm.RoadKit
namespace Jvm.RoadKit
open Sem ClassFile Op Lib Jvm.Stand Jvm.Free Jvm.LawKit
section OwnCold
variable {p : Program} {l : Launch} {e : Env} {R : Room} {s : State} {m : MethodId} {args : Array Value} {below : List Frame} {meth : Method} {c : Code} {T : State} {locs : List Loc} {cells slots : Nat}
/-- the return of a boolean in a walk that may have interned -/
theorem Go.retBW {vm0 : Vm} (X : Stand p l e R (s.setVm vm0) m args below meth c T locs cells slots) (hx : p.tables.exec = Jvm.exec) {n : Nat} (hS : s.Since vm0 n) (hn : n ≤ T.heap.size) {pc : Nat} {Ls : Array Slot} {b : Bool} {rest : List Value} (hret : meth.sig.returnType = some .boolean) (hd : decode c.code pc = .ok (.ireturn, 1)) (hlk : meth.locks = false)
    {Qa : Option Value → Heap → List Loc → Prop} {Qb : Vm → Heap → Prop} {K S : Nat} (hQ : Qa (some (.int (b2i b))) T.heap locs) (hq : Qb T.vm T.heap) (hc : cells ≤ K) (hs : slots ≤ S) :
    Go p.tables e below (fun o U' => ∃ v L, o = .returned v ∧ Qa v U'.heap L ∧ Qb U'.vm U'.heap ∧ ReturnedEndW s o U' L K S) (T.setTop (mkF m pc Ls (.int (b2i b) :: rest))) := by
  obtain ⟨fs, hr, hrun, hended, e1, e2, e3, e4⟩ := X.leaveW hS hn (v := some (.int (nar .boolean (b2i b)))) (fun h => by rw [hret] at h; cases h) hlk
  rw [nar_b2i] at hended e1
  exact ⟨_, _, Jvm.RoadKit.retN X hx hret (Or.inl rfl) hd hr, hrun, hended, _, _, rfl, hQ, hq, e1, e2, e3, e4.mono hc hs⟩
theorem ArL.of_arv {Z : State} {h : Heap} {a : Addr} {k : ClassId} {ty : FieldType} {z : Int32} {vs : List Value} {d : Value} (F : Arv Z h a k ty z vs d) (hl : z.toNatClampNeg = vs.length) : ArL Z h a ty vs := by
  obtain ⟨c, A, -, hsz, -, H, -⟩ := F
  refine ⟨c, A, List.ext_getElem? fun i => ?_⟩
  rw [Array.getElem?_toList]
  by_cases q : i < c.slots.size
  · rw [H i q, List.getD_eq_getElem?_getD, List.getElem?_eq_getElem (by omega)]; rfl
  · rw [Array.getElem?_eq_none (by omega), List.getElem?_eq_none (by omega)]
end OwnCold
end Jvm.RoadKit
namespace Jvm.Pilot.@@N@@
open Jvm Jvm.ClassFile Sem Op Lib Jvm.Free Jvm.Stand Jvm.LawKit Jvm.RoadKit Bundle Jvm.Pilot.@@N@@.Jvm.D
theorem pd_0 : parseMethodDescriptor "(C)Z" = some ⟨[.char], some .boolean⟩ := by decide +kernel
theorem pd_1 : parseMethodDescriptor "()B" = some ⟨[], some .byte⟩ := by decide +kernel
theorem pd_2 : parseMethodDescriptor "(I)Z" = some ⟨[.int], some .boolean⟩ := by decide +kernel
theorem pd_3 : parseMethodDescriptor "(II)I" = some ⟨[.int, .int], some .int⟩ := by decide +kernel
theorem pd_4 : parseMethodDescriptor "([BIII)I" = some ⟨[(.array .byte), .int, .int, .int], some .int⟩ := by decide +kernel
theorem pd_5 : parseMethodDescriptor "()Z" = some ⟨[], some .boolean⟩ := by decide +kernel
theorem pd_6 : parseMethodDescriptor "()I" = some ⟨[], some .int⟩ := by decide +kernel
theorem pd_7 : parseMethodDescriptor "(I)I" = some ⟨[.int], some .int⟩ := by decide +kernel
theorem d13_0 : decode method_2_code 0 = .ok (.iload_n 0, 1) := by decide +kernel
theorem d13_1 : decode method_2_code 1 = .ok (.bipush 34, 2) := by decide +kernel
theorem d13_3 : decode method_2_code 3 = .ok (.if_icmp .eq 99, 3) := by decide +kernel
theorem d13_6 : decode method_2_code 6 = .ok (.iload_n 0, 1) := by decide +kernel
theorem d13_7 : decode method_2_code 7 = .ok (.bipush 40, 2) := by decide +kernel
theorem d13_9 : decode method_2_code 9 = .ok (.if_icmp .eq 93, 3) := by decide +kernel
theorem d13_12 : decode method_2_code 12 = .ok (.iload_n 0, 1) := by decide +kernel
theorem d13_13 : decode method_2_code 13 = .ok (.bipush 41, 2) := by decide +kernel
theorem d13_15 : decode method_2_code 15 = .ok (.if_icmp .eq 87, 3) := by decide +kernel
theorem d13_18 : decode method_2_code 18 = .ok (.iload_n 0, 1) := by decide +kernel
theorem d13_19 : decode method_2_code 19 = .ok (.bipush 44, 2) := by decide +kernel
theorem d13_21 : decode method_2_code 21 = .ok (.if_icmp .eq 81, 3) := by decide +kernel
theorem d13_24 : decode method_2_code 24 = .ok (.iload_n 0, 1) := by decide +kernel
theorem d13_25 : decode method_2_code 25 = .ok (.bipush 47, 2) := by decide +kernel
theorem d13_27 : decode method_2_code 27 = .ok (.if_icmp .eq 75, 3) := by decide +kernel
theorem d13_30 : decode method_2_code 30 = .ok (.iload_n 0, 1) := by decide +kernel
theorem d13_31 : decode method_2_code 31 = .ok (.bipush 58, 2) := by decide +kernel
theorem d13_33 : decode method_2_code 33 = .ok (.if_icmp .eq 69, 3) := by decide +kernel
theorem d13_36 : decode method_2_code 36 = .ok (.iload_n 0, 1) := by decide +kernel
theorem d13_37 : decode method_2_code 37 = .ok (.bipush 59, 2) := by decide +kernel
theorem d13_39 : decode method_2_code 39 = .ok (.if_icmp .eq 63, 3) := by decide +kernel
theorem d13_42 : decode method_2_code 42 = .ok (.iload_n 0, 1) := by decide +kernel
theorem d13_43 : decode method_2_code 43 = .ok (.bipush 60, 2) := by decide +kernel
theorem d13_45 : decode method_2_code 45 = .ok (.if_icmp .eq 57, 3) := by decide +kernel
theorem d13_48 : decode method_2_code 48 = .ok (.iload_n 0, 1) := by decide +kernel
theorem d13_49 : decode method_2_code 49 = .ok (.bipush 61, 2) := by decide +kernel
theorem d13_51 : decode method_2_code 51 = .ok (.if_icmp .eq 51, 3) := by decide +kernel
theorem d13_54 : decode method_2_code 54 = .ok (.iload_n 0, 1) := by decide +kernel
theorem d13_55 : decode method_2_code 55 = .ok (.bipush 62, 2) := by decide +kernel
theorem d13_57 : decode method_2_code 57 = .ok (.if_icmp .eq 45, 3) := by decide +kernel
theorem d13_60 : decode method_2_code 60 = .ok (.iload_n 0, 1) := by decide +kernel
theorem d13_61 : decode method_2_code 61 = .ok (.bipush 63, 2) := by decide +kernel
theorem d13_63 : decode method_2_code 63 = .ok (.if_icmp .eq 39, 3) := by decide +kernel
theorem d13_66 : decode method_2_code 66 = .ok (.iload_n 0, 1) := by decide +kernel
theorem d13_67 : decode method_2_code 67 = .ok (.bipush 64, 2) := by decide +kernel
theorem d13_69 : decode method_2_code 69 = .ok (.if_icmp .eq 33, 3) := by decide +kernel
theorem d13_72 : decode method_2_code 72 = .ok (.iload_n 0, 1) := by decide +kernel
theorem d13_73 : decode method_2_code 73 = .ok (.bipush 91, 2) := by decide +kernel
theorem d13_75 : decode method_2_code 75 = .ok (.if_icmp .eq 27, 3) := by decide +kernel
theorem d13_78 : decode method_2_code 78 = .ok (.iload_n 0, 1) := by decide +kernel
theorem d13_79 : decode method_2_code 79 = .ok (.bipush 92, 2) := by decide +kernel
theorem d13_81 : decode method_2_code 81 = .ok (.if_icmp .eq 21, 3) := by decide +kernel
theorem d13_84 : decode method_2_code 84 = .ok (.iload_n 0, 1) := by decide +kernel
theorem d13_85 : decode method_2_code 85 = .ok (.bipush 93, 2) := by decide +kernel
theorem d13_87 : decode method_2_code 87 = .ok (.if_icmp .eq 15, 3) := by decide +kernel
theorem d13_90 : decode method_2_code 90 = .ok (.iload_n 0, 1) := by decide +kernel
theorem d13_91 : decode method_2_code 91 = .ok (.bipush 123, 2) := by decide +kernel
theorem d13_93 : decode method_2_code 93 = .ok (.if_icmp .eq 9, 3) := by decide +kernel
theorem d13_96 : decode method_2_code 96 = .ok (.iload_n 0, 1) := by decide +kernel
theorem d13_97 : decode method_2_code 97 = .ok (.bipush 125, 2) := by decide +kernel
theorem d13_99 : decode method_2_code 99 = .ok (.if_icmp .ne 7, 3) := by decide +kernel
theorem d13_102 : decode method_2_code 102 = .ok (.iconst 1, 1) := by decide +kernel
theorem d13_103 : decode method_2_code 103 = .ok (.goto 4, 3) := by decide +kernel
theorem d13_106 : decode method_2_code 106 = .ok (.iconst 0, 1) := by decide +kernel
theorem d13_107 : decode method_2_code 107 = .ok (.ireturn, 1) := by decide +kernel
def f13 (p0 : Int32) : Bool := (let z3 : Bool := (if p0 = (34 : Int32) then true else (if p0 = (40 : Int32) then true else (if p0 = (41 : Int32) then true else (if p0 = (44 : Int32) then true else (if p0 = (47 : Int32) then true else (if p0 = (58 : Int32) then true else (if p0 = (59 : Int32) then true else (if p0 = (60 : Int32) then true else (if p0 = (61 : Int32) then true else (if p0 = (62 : Int32) then true else (if p0 = (63 : Int32) then true else (if p0 = (64 : Int32) then true else (if p0 = (91 : Int32) then true else (if p0 = (92 : Int32) then true else (if p0 = (93 : Int32) then true else (if p0 = (123 : Int32) then true else (if p0 = (125 : Int32) then true else false))))))))))))))))); z3)
def Q13 (p0 : Int32) (h0 : Heap) (n0 : Nat) (v : Option Value) (h : Heap) (L : List Loc) : Prop := v = some (.int (b2i (f13 p0))) ∧ Fr n0 L ∧ h = h0
abbrev rmm13 : Room := { frames := 0, cells := 0, slots := 0, locals := 0 }
abbrev P13 (p0 : Int32) (h0 : Heap) (n0 : Nat) (s : State) : Outcome → State → Prop := fun o U' => ∃ v L, o = .returned v ∧ Q13 p0 h0 n0 v U'.heap L ∧ FrameEnd s o U' L rmm13.cells rmm13.slots
theorem pn_13 : plainName "com/example/paylode/paylode/header/HeaderSyntaxIsTokenCharPinLaw" = true := by first | (simp [plainName, overriddenIn]; done) | decide +kernel
theorem ef_13 (m : MethodId) (p0 : Int32) : entryFrame m #[(.int p0)] 1 = mkF m 0 #[.val (.int p0)] [] := by first | (simp [entryFrame, mkF, argsToLocals, Value.category]; done) | rfl
set_option maxRecDepth 65536 in
set_option maxHeartbeats 40000000 in
theorem rm13 (l : Launch) (Z : State) (a0 : Array Value) (hw : ∀ d ∈ tables_1, d.before a0 Z = true) (ws : List Jvm.Cond) (p0 : Int32) (h0 : Heap) (n0 : Nat) :
    MetFree l (⟨"com/example/paylode/paylode/header/HeaderSyntaxIsTokenCharPinLaw", "isDelimiter", "(C)Z"⟩ : MethodName) (head1 (Jvm.Cond.code (⟨"com/example/paylode/paylode/header/HeaderSyntaxIsTokenCharPinLaw", "isDelimiter", "(C)Z"⟩ : MethodName) method_2_code 1 (some .boolean) :: ws) rmm13) (fun a U => a = #[(.int p0)] ∧ Z.Warmed39 U.vm ∧ U.heap = h0) (fun _ _ _ _ _ => True) (fun _ U o U' => ∃ v L, o = .returned v ∧ Q13 p0 h0 n0 v U'.heap L ∧ FrameEnd U o U' L rmm13.cells rmm13.slots) := by
  refine MetFree.of_bodySF (plainFor_of_name pn_13) hisR ?_
  intro p e s m args below meth c s₁ Bd hml0 hP hK
  obtain ⟨rfl, hZ, hh⟩ := hP
  have hx := Bd.exec
  have hby := Bd.bytes
  have hml : c.maxLocals = 1 := hml0
  have hown : s.vm.findClass "com/example/paylode/paylode/header/HeaderSyntaxIsTokenCharPinLaw" = some m.cls := findClass_of_methodNamed Bd.named
  have hnm := (name_of_methodNamed Bd.named Bd.method).1
  have X0 : Stand p l e rmm13 s m #[(.int p0)] below meth c s₁ [] 0 0 := Stand.of_body Bd
  have e0 : s₁.heap = h0 := by rw [← hh, Bd.state]; rfl
  have N0 := Fr.nil n0
  show Go p.tables e below (P13 p0 h0 n0 s) (s₁.setTop (entryFrame m #[(.int p0)] 1))
  refine Go.back (fun t k => castTop (ef_13 m p0) k) ?_
  show Go p.tables e below (P13 p0 h0 n0 s) (s₁.setTop (mkF m 0 #[.val (.int p0)] []))
  have hf : f13 p0 = (let z3 : Bool := (if p0 = (34 : Int32) then true else (if p0 = (40 : Int32) then true else (if p0 = (41 : Int32) then true else (if p0 = (44 : Int32) then true else (if p0 = (47 : Int32) then true else (if p0 = (58 : Int32) then true else (if p0 = (59 : Int32) then true else (if p0 = (60 : Int32) then true else (if p0 = (61 : Int32) then true else (if p0 = (62 : Int32) then true else (if p0 = (63 : Int32) then true else (if p0 = (64 : Int32) then true else (if p0 = (91 : Int32) then true else (if p0 = (92 : Int32) then true else (if p0 = (93 : Int32) then true else (if p0 = (123 : Int32) then true else (if p0 = (125 : Int32) then true else false))))))))))))))))); z3) := rfl
  refine Go.back (fun t k => XS.iloadN X0.here hx rfl (hb hby d13_0) rfl  k) ?_
  show Go p.tables e below (P13 p0 h0 n0 s) (s₁.setTop (mkF m 1 #[.val (.int p0)] [(.int p0)]))
  refine Go.back (fun t k => XS.bipush X0.here hx rfl (hb hby d13_1) k) ?_
  show Go p.tables e below (P13 p0 h0 n0 s) (s₁.setTop (mkF m 3 #[.val (.int p0)] [(.int (34 : Int32)), (.int p0)]))
  have J2 : ∀ (z3 : Bool) (hz3 : z3 = (if p0 = (34 : Int32) then true else (if p0 = (40 : Int32) then true else (if p0 = (41 : Int32) then true else (if p0 = (44 : Int32) then true else (if p0 = (47 : Int32) then true else (if p0 = (58 : Int32) then true else (if p0 = (59 : Int32) then true else (if p0 = (60 : Int32) then true else (if p0 = (61 : Int32) then true else (if p0 = (62 : Int32) then true else (if p0 = (63 : Int32) then true else (if p0 = (64 : Int32) then true else (if p0 = (91 : Int32) then true else (if p0 = (92 : Int32) then true else (if p0 = (93 : Int32) then true else (if p0 = (123 : Int32) then true else (if p0 = (125 : Int32) then true else false)))))))))))))))))), Go p.tables e below (P13 p0 h0 n0 s) (s₁.setTop (mkF m 107 #[.val (.int p0)] [(.int (b2i z3))])) := by
    intro z3 hz3
    have r4 : f13 p0 = z3 := by subst hz3; exact hf
    show Go p.tables e below (P13 p0 h0 n0 s) (s₁.setTop (mkF m 107 #[.val (.int p0)] [(.int (b2i z3))]))
    exact Go.retB (b := z3) X0 hx Bd.returns (hb hby d13_107) Bd.notSynchronized ⟨by rw [r4], N0, e0⟩ (by decide) (by decide)
  have r5 : (if p0 = (34 : Int32) then true else (if p0 = (40 : Int32) then true else (if p0 = (41 : Int32) then true else (if p0 = (44 : Int32) then true else (if p0 = (47 : Int32) then true else (if p0 = (58 : Int32) then true else (if p0 = (59 : Int32) then true else (if p0 = (60 : Int32) then true else (if p0 = (61 : Int32) then true else (if p0 = (62 : Int32) then true else (if p0 = (63 : Int32) then true else (if p0 = (64 : Int32) then true else (if p0 = (91 : Int32) then true else (if p0 = (92 : Int32) then true else (if p0 = (93 : Int32) then true else (if p0 = (123 : Int32) then true else (if p0 = (125 : Int32) then true else false))))))))))))))))) = (if p0 = (34 : Int32) then true else (if p0 = (40 : Int32) then true else (if p0 = (41 : Int32) then true else (if p0 = (44 : Int32) then true else (if p0 = (47 : Int32) then true else (if p0 = (58 : Int32) then true else (if p0 = (59 : Int32) then true else (if p0 = (60 : Int32) then true else (if p0 = (61 : Int32) then true else (if p0 = (62 : Int32) then true else (if p0 = (63 : Int32) then true else (if p0 = (64 : Int32) then true else (if p0 = (91 : Int32) then true else (if p0 = (92 : Int32) then true else (if p0 = (93 : Int32) then true else (if p0 = (123 : Int32) then true else (if p0 = (125 : Int32) then true else false))))))))))))))))) := rfl
  by_cases hc1 : p0 = (34 : Int32)
  · have r6 := r5.trans (if_pos hc1)
    refine Go.back (fun t k => XS.icmpYes X0.here hx rfl (pc0 := 3) (pc' := 102) rfl (hb hby d13_3) rfl (teq hc1).1 (by decide) (by decide) k) ?_
    show Go p.tables e below (P13 p0 h0 n0 s) (s₁.setTop (mkF m 102 #[.val (.int p0)] []))
    refine Go.back (fun t k => XS.iconst X0.here hx rfl (hb hby d13_102) k) ?_
    show Go p.tables e below (P13 p0 h0 n0 s) (s₁.setTop (mkF m 103 #[.val (.int p0)] [(.int (1 : Int32))]))
    refine Go.back (fun t k => XS.goto X0.here hx rfl (pc0 := 103) (pc' := 107) rfl (hb hby d13_103) (by decide) (by decide) k) ?_
    show Go p.tables e below (P13 p0 h0 n0 s) (s₁.setTop (mkF m 107 #[.val (.int p0)] [(.int (1 : Int32))]))
    exact J2 true r6.symm
  · have r7 := r5.trans (if_neg hc1)
    refine Go.back (fun t k => XS.icmpNo X0.here hx rfl (hb hby d13_3) rfl (feq hc1).1 k) ?_
    show Go p.tables e below (P13 p0 h0 n0 s) (s₁.setTop (mkF m 6 #[.val (.int p0)] []))
    refine Go.back (fun t k => XS.iloadN X0.here hx rfl (hb hby d13_6) rfl  k) ?_
    show Go p.tables e below (P13 p0 h0 n0 s) (s₁.setTop (mkF m 7 #[.val (.int p0)] [(.int p0)]))
    refine Go.back (fun t k => XS.bipush X0.here hx rfl (hb hby d13_7) k) ?_
    show Go p.tables e below (P13 p0 h0 n0 s) (s₁.setTop (mkF m 9 #[.val (.int p0)] [(.int (40 : Int32)), (.int p0)]))
    by_cases hc8 : p0 = (40 : Int32)
    · have r9 := r7.trans (if_pos hc8)
      refine Go.back (fun t k => XS.icmpYes X0.here hx rfl (pc0 := 9) (pc' := 102) rfl (hb hby d13_9) rfl (teq hc8).1 (by decide) (by decide) k) ?_
      show Go p.tables e below (P13 p0 h0 n0 s) (s₁.setTop (mkF m 102 #[.val (.int p0)] []))
      refine Go.back (fun t k => XS.iconst X0.here hx rfl (hb hby d13_102) k) ?_
      show Go p.tables e below (P13 p0 h0 n0 s) (s₁.setTop (mkF m 103 #[.val (.int p0)] [(.int (1 : Int32))]))
      refine Go.back (fun t k => XS.goto X0.here hx rfl (pc0 := 103) (pc' := 107) rfl (hb hby d13_103) (by decide) (by decide) k) ?_
      show Go p.tables e below (P13 p0 h0 n0 s) (s₁.setTop (mkF m 107 #[.val (.int p0)] [(.int (1 : Int32))]))
      exact J2 true r9.symm
    · have r10 := r7.trans (if_neg hc8)
      refine Go.back (fun t k => XS.icmpNo X0.here hx rfl (hb hby d13_9) rfl (feq hc8).1 k) ?_
      show Go p.tables e below (P13 p0 h0 n0 s) (s₁.setTop (mkF m 12 #[.val (.int p0)] []))
      refine Go.back (fun t k => XS.iloadN X0.here hx rfl (hb hby d13_12) rfl  k) ?_
      show Go p.tables e below (P13 p0 h0 n0 s) (s₁.setTop (mkF m 13 #[.val (.int p0)] [(.int p0)]))
      refine Go.back (fun t k => XS.bipush X0.here hx rfl (hb hby d13_13) k) ?_
      show Go p.tables e below (P13 p0 h0 n0 s) (s₁.setTop (mkF m 15 #[.val (.int p0)] [(.int (41 : Int32)), (.int p0)]))
      by_cases hc11 : p0 = (41 : Int32)
      · have r12 := r10.trans (if_pos hc11)
        refine Go.back (fun t k => XS.icmpYes X0.here hx rfl (pc0 := 15) (pc' := 102) rfl (hb hby d13_15) rfl (teq hc11).1 (by decide) (by decide) k) ?_
        show Go p.tables e below (P13 p0 h0 n0 s) (s₁.setTop (mkF m 102 #[.val (.int p0)] []))
        refine Go.back (fun t k => XS.iconst X0.here hx rfl (hb hby d13_102) k) ?_
        show Go p.tables e below (P13 p0 h0 n0 s) (s₁.setTop (mkF m 103 #[.val (.int p0)] [(.int (1 : Int32))]))
        refine Go.back (fun t k => XS.goto X0.here hx rfl (pc0 := 103) (pc' := 107) rfl (hb hby d13_103) (by decide) (by decide) k) ?_
        show Go p.tables e below (P13 p0 h0 n0 s) (s₁.setTop (mkF m 107 #[.val (.int p0)] [(.int (1 : Int32))]))
        exact J2 true r12.symm
      · have r13 := r10.trans (if_neg hc11)
        refine Go.back (fun t k => XS.icmpNo X0.here hx rfl (hb hby d13_15) rfl (feq hc11).1 k) ?_
        show Go p.tables e below (P13 p0 h0 n0 s) (s₁.setTop (mkF m 18 #[.val (.int p0)] []))
        refine Go.back (fun t k => XS.iloadN X0.here hx rfl (hb hby d13_18) rfl  k) ?_
        show Go p.tables e below (P13 p0 h0 n0 s) (s₁.setTop (mkF m 19 #[.val (.int p0)] [(.int p0)]))
        refine Go.back (fun t k => XS.bipush X0.here hx rfl (hb hby d13_19) k) ?_
        show Go p.tables e below (P13 p0 h0 n0 s) (s₁.setTop (mkF m 21 #[.val (.int p0)] [(.int (44 : Int32)), (.int p0)]))
        by_cases hc14 : p0 = (44 : Int32)
        · have r15 := r13.trans (if_pos hc14)
          refine Go.back (fun t k => XS.icmpYes X0.here hx rfl (pc0 := 21) (pc' := 102) rfl (hb hby d13_21) rfl (teq hc14).1 (by decide) (by decide) k) ?_
          show Go p.tables e below (P13 p0 h0 n0 s) (s₁.setTop (mkF m 102 #[.val (.int p0)] []))
          refine Go.back (fun t k => XS.iconst X0.here hx rfl (hb hby d13_102) k) ?_
          show Go p.tables e below (P13 p0 h0 n0 s) (s₁.setTop (mkF m 103 #[.val (.int p0)] [(.int (1 : Int32))]))
          refine Go.back (fun t k => XS.goto X0.here hx rfl (pc0 := 103) (pc' := 107) rfl (hb hby d13_103) (by decide) (by decide) k) ?_
          show Go p.tables e below (P13 p0 h0 n0 s) (s₁.setTop (mkF m 107 #[.val (.int p0)] [(.int (1 : Int32))]))
          exact J2 true r15.symm
        · have r16 := r13.trans (if_neg hc14)
          refine Go.back (fun t k => XS.icmpNo X0.here hx rfl (hb hby d13_21) rfl (feq hc14).1 k) ?_
          show Go p.tables e below (P13 p0 h0 n0 s) (s₁.setTop (mkF m 24 #[.val (.int p0)] []))
          refine Go.back (fun t k => XS.iloadN X0.here hx rfl (hb hby d13_24) rfl  k) ?_
          show Go p.tables e below (P13 p0 h0 n0 s) (s₁.setTop (mkF m 25 #[.val (.int p0)] [(.int p0)]))
          refine Go.back (fun t k => XS.bipush X0.here hx rfl (hb hby d13_25) k) ?_
          show Go p.tables e below (P13 p0 h0 n0 s) (s₁.setTop (mkF m 27 #[.val (.int p0)] [(.int (47 : Int32)), (.int p0)]))
          by_cases hc17 : p0 = (47 : Int32)
          · have r18 := r16.trans (if_pos hc17)
            refine Go.back (fun t k => XS.icmpYes X0.here hx rfl (pc0 := 27) (pc' := 102) rfl (hb hby d13_27) rfl (teq hc17).1 (by decide) (by decide) k) ?_
            show Go p.tables e below (P13 p0 h0 n0 s) (s₁.setTop (mkF m 102 #[.val (.int p0)] []))
            refine Go.back (fun t k => XS.iconst X0.here hx rfl (hb hby d13_102) k) ?_
            show Go p.tables e below (P13 p0 h0 n0 s) (s₁.setTop (mkF m 103 #[.val (.int p0)] [(.int (1 : Int32))]))
            refine Go.back (fun t k => XS.goto X0.here hx rfl (pc0 := 103) (pc' := 107) rfl (hb hby d13_103) (by decide) (by decide) k) ?_
            show Go p.tables e below (P13 p0 h0 n0 s) (s₁.setTop (mkF m 107 #[.val (.int p0)] [(.int (1 : Int32))]))
            exact J2 true r18.symm
          · have r19 := r16.trans (if_neg hc17)
            refine Go.back (fun t k => XS.icmpNo X0.here hx rfl (hb hby d13_27) rfl (feq hc17).1 k) ?_
            show Go p.tables e below (P13 p0 h0 n0 s) (s₁.setTop (mkF m 30 #[.val (.int p0)] []))
            refine Go.back (fun t k => XS.iloadN X0.here hx rfl (hb hby d13_30) rfl  k) ?_
            show Go p.tables e below (P13 p0 h0 n0 s) (s₁.setTop (mkF m 31 #[.val (.int p0)] [(.int p0)]))
            refine Go.back (fun t k => XS.bipush X0.here hx rfl (hb hby d13_31) k) ?_
            show Go p.tables e below (P13 p0 h0 n0 s) (s₁.setTop (mkF m 33 #[.val (.int p0)] [(.int (58 : Int32)), (.int p0)]))
            by_cases hc20 : p0 = (58 : Int32)
            · have r21 := r19.trans (if_pos hc20)
              refine Go.back (fun t k => XS.icmpYes X0.here hx rfl (pc0 := 33) (pc' := 102) rfl (hb hby d13_33) rfl (teq hc20).1 (by decide) (by decide) k) ?_
              show Go p.tables e below (P13 p0 h0 n0 s) (s₁.setTop (mkF m 102 #[.val (.int p0)] []))
              refine Go.back (fun t k => XS.iconst X0.here hx rfl (hb hby d13_102) k) ?_
              show Go p.tables e below (P13 p0 h0 n0 s) (s₁.setTop (mkF m 103 #[.val (.int p0)] [(.int (1 : Int32))]))
              refine Go.back (fun t k => XS.goto X0.here hx rfl (pc0 := 103) (pc' := 107) rfl (hb hby d13_103) (by decide) (by decide) k) ?_
              show Go p.tables e below (P13 p0 h0 n0 s) (s₁.setTop (mkF m 107 #[.val (.int p0)] [(.int (1 : Int32))]))
              exact J2 true r21.symm
            · have r22 := r19.trans (if_neg hc20)
              refine Go.back (fun t k => XS.icmpNo X0.here hx rfl (hb hby d13_33) rfl (feq hc20).1 k) ?_
              show Go p.tables e below (P13 p0 h0 n0 s) (s₁.setTop (mkF m 36 #[.val (.int p0)] []))
              refine Go.back (fun t k => XS.iloadN X0.here hx rfl (hb hby d13_36) rfl  k) ?_
              show Go p.tables e below (P13 p0 h0 n0 s) (s₁.setTop (mkF m 37 #[.val (.int p0)] [(.int p0)]))
              refine Go.back (fun t k => XS.bipush X0.here hx rfl (hb hby d13_37) k) ?_
              show Go p.tables e below (P13 p0 h0 n0 s) (s₁.setTop (mkF m 39 #[.val (.int p0)] [(.int (59 : Int32)), (.int p0)]))
              by_cases hc23 : p0 = (59 : Int32)
              · have r24 := r22.trans (if_pos hc23)
                refine Go.back (fun t k => XS.icmpYes X0.here hx rfl (pc0 := 39) (pc' := 102) rfl (hb hby d13_39) rfl (teq hc23).1 (by decide) (by decide) k) ?_
                show Go p.tables e below (P13 p0 h0 n0 s) (s₁.setTop (mkF m 102 #[.val (.int p0)] []))
                refine Go.back (fun t k => XS.iconst X0.here hx rfl (hb hby d13_102) k) ?_
                show Go p.tables e below (P13 p0 h0 n0 s) (s₁.setTop (mkF m 103 #[.val (.int p0)] [(.int (1 : Int32))]))
                refine Go.back (fun t k => XS.goto X0.here hx rfl (pc0 := 103) (pc' := 107) rfl (hb hby d13_103) (by decide) (by decide) k) ?_
                show Go p.tables e below (P13 p0 h0 n0 s) (s₁.setTop (mkF m 107 #[.val (.int p0)] [(.int (1 : Int32))]))
                exact J2 true r24.symm
              · have r25 := r22.trans (if_neg hc23)
                refine Go.back (fun t k => XS.icmpNo X0.here hx rfl (hb hby d13_39) rfl (feq hc23).1 k) ?_
                show Go p.tables e below (P13 p0 h0 n0 s) (s₁.setTop (mkF m 42 #[.val (.int p0)] []))
                refine Go.back (fun t k => XS.iloadN X0.here hx rfl (hb hby d13_42) rfl  k) ?_
                show Go p.tables e below (P13 p0 h0 n0 s) (s₁.setTop (mkF m 43 #[.val (.int p0)] [(.int p0)]))
                refine Go.back (fun t k => XS.bipush X0.here hx rfl (hb hby d13_43) k) ?_
                show Go p.tables e below (P13 p0 h0 n0 s) (s₁.setTop (mkF m 45 #[.val (.int p0)] [(.int (60 : Int32)), (.int p0)]))
                by_cases hc26 : p0 = (60 : Int32)
                · have r27 := r25.trans (if_pos hc26)
                  refine Go.back (fun t k => XS.icmpYes X0.here hx rfl (pc0 := 45) (pc' := 102) rfl (hb hby d13_45) rfl (teq hc26).1 (by decide) (by decide) k) ?_
                  show Go p.tables e below (P13 p0 h0 n0 s) (s₁.setTop (mkF m 102 #[.val (.int p0)] []))
                  refine Go.back (fun t k => XS.iconst X0.here hx rfl (hb hby d13_102) k) ?_
                  show Go p.tables e below (P13 p0 h0 n0 s) (s₁.setTop (mkF m 103 #[.val (.int p0)] [(.int (1 : Int32))]))
                  refine Go.back (fun t k => XS.goto X0.here hx rfl (pc0 := 103) (pc' := 107) rfl (hb hby d13_103) (by decide) (by decide) k) ?_
                  show Go p.tables e below (P13 p0 h0 n0 s) (s₁.setTop (mkF m 107 #[.val (.int p0)] [(.int (1 : Int32))]))
                  exact J2 true r27.symm
                · have r28 := r25.trans (if_neg hc26)
                  refine Go.back (fun t k => XS.icmpNo X0.here hx rfl (hb hby d13_45) rfl (feq hc26).1 k) ?_
                  show Go p.tables e below (P13 p0 h0 n0 s) (s₁.setTop (mkF m 48 #[.val (.int p0)] []))
                  refine Go.back (fun t k => XS.iloadN X0.here hx rfl (hb hby d13_48) rfl  k) ?_
                  show Go p.tables e below (P13 p0 h0 n0 s) (s₁.setTop (mkF m 49 #[.val (.int p0)] [(.int p0)]))
                  refine Go.back (fun t k => XS.bipush X0.here hx rfl (hb hby d13_49) k) ?_
                  show Go p.tables e below (P13 p0 h0 n0 s) (s₁.setTop (mkF m 51 #[.val (.int p0)] [(.int (61 : Int32)), (.int p0)]))
                  by_cases hc29 : p0 = (61 : Int32)
                  · have r30 := r28.trans (if_pos hc29)
                    refine Go.back (fun t k => XS.icmpYes X0.here hx rfl (pc0 := 51) (pc' := 102) rfl (hb hby d13_51) rfl (teq hc29).1 (by decide) (by decide) k) ?_
                    show Go p.tables e below (P13 p0 h0 n0 s) (s₁.setTop (mkF m 102 #[.val (.int p0)] []))
                    refine Go.back (fun t k => XS.iconst X0.here hx rfl (hb hby d13_102) k) ?_
                    show Go p.tables e below (P13 p0 h0 n0 s) (s₁.setTop (mkF m 103 #[.val (.int p0)] [(.int (1 : Int32))]))
                    refine Go.back (fun t k => XS.goto X0.here hx rfl (pc0 := 103) (pc' := 107) rfl (hb hby d13_103) (by decide) (by decide) k) ?_
                    show Go p.tables e below (P13 p0 h0 n0 s) (s₁.setTop (mkF m 107 #[.val (.int p0)] [(.int (1 : Int32))]))
                    exact J2 true r30.symm
                  · have r31 := r28.trans (if_neg hc29)
                    refine Go.back (fun t k => XS.icmpNo X0.here hx rfl (hb hby d13_51) rfl (feq hc29).1 k) ?_
                    show Go p.tables e below (P13 p0 h0 n0 s) (s₁.setTop (mkF m 54 #[.val (.int p0)] []))
                    refine Go.back (fun t k => XS.iloadN X0.here hx rfl (hb hby d13_54) rfl  k) ?_
                    show Go p.tables e below (P13 p0 h0 n0 s) (s₁.setTop (mkF m 55 #[.val (.int p0)] [(.int p0)]))
                    refine Go.back (fun t k => XS.bipush X0.here hx rfl (hb hby d13_55) k) ?_
                    show Go p.tables e below (P13 p0 h0 n0 s) (s₁.setTop (mkF m 57 #[.val (.int p0)] [(.int (62 : Int32)), (.int p0)]))
                    by_cases hc32 : p0 = (62 : Int32)
                    · have r33 := r31.trans (if_pos hc32)
                      refine Go.back (fun t k => XS.icmpYes X0.here hx rfl (pc0 := 57) (pc' := 102) rfl (hb hby d13_57) rfl (teq hc32).1 (by decide) (by decide) k) ?_
                      show Go p.tables e below (P13 p0 h0 n0 s) (s₁.setTop (mkF m 102 #[.val (.int p0)] []))
                      refine Go.back (fun t k => XS.iconst X0.here hx rfl (hb hby d13_102) k) ?_
                      show Go p.tables e below (P13 p0 h0 n0 s) (s₁.setTop (mkF m 103 #[.val (.int p0)] [(.int (1 : Int32))]))
                      refine Go.back (fun t k => XS.goto X0.here hx rfl (pc0 := 103) (pc' := 107) rfl (hb hby d13_103) (by decide) (by decide) k) ?_
                      show Go p.tables e below (P13 p0 h0 n0 s) (s₁.setTop (mkF m 107 #[.val (.int p0)] [(.int (1 : Int32))]))
                      exact J2 true r33.symm
                    · have r34 := r31.trans (if_neg hc32)
                      refine Go.back (fun t k => XS.icmpNo X0.here hx rfl (hb hby d13_57) rfl (feq hc32).1 k) ?_
                      show Go p.tables e below (P13 p0 h0 n0 s) (s₁.setTop (mkF m 60 #[.val (.int p0)] []))
                      refine Go.back (fun t k => XS.iloadN X0.here hx rfl (hb hby d13_60) rfl  k) ?_
                      show Go p.tables e below (P13 p0 h0 n0 s) (s₁.setTop (mkF m 61 #[.val (.int p0)] [(.int p0)]))
                      refine Go.back (fun t k => XS.bipush X0.here hx rfl (hb hby d13_61) k) ?_
                      show Go p.tables e below (P13 p0 h0 n0 s) (s₁.setTop (mkF m 63 #[.val (.int p0)] [(.int (63 : Int32)), (.int p0)]))
                      by_cases hc35 : p0 = (63 : Int32)
                      · have r36 := r34.trans (if_pos hc35)
                        refine Go.back (fun t k => XS.icmpYes X0.here hx rfl (pc0 := 63) (pc' := 102) rfl (hb hby d13_63) rfl (teq hc35).1 (by decide) (by decide) k) ?_
                        show Go p.tables e below (P13 p0 h0 n0 s) (s₁.setTop (mkF m 102 #[.val (.int p0)] []))
                        refine Go.back (fun t k => XS.iconst X0.here hx rfl (hb hby d13_102) k) ?_
                        show Go p.tables e below (P13 p0 h0 n0 s) (s₁.setTop (mkF m 103 #[.val (.int p0)] [(.int (1 : Int32))]))
                        refine Go.back (fun t k => XS.goto X0.here hx rfl (pc0 := 103) (pc' := 107) rfl (hb hby d13_103) (by decide) (by decide) k) ?_
                        show Go p.tables e below (P13 p0 h0 n0 s) (s₁.setTop (mkF m 107 #[.val (.int p0)] [(.int (1 : Int32))]))
                        exact J2 true r36.symm
                      · have r37 := r34.trans (if_neg hc35)
                        refine Go.back (fun t k => XS.icmpNo X0.here hx rfl (hb hby d13_63) rfl (feq hc35).1 k) ?_
                        show Go p.tables e below (P13 p0 h0 n0 s) (s₁.setTop (mkF m 66 #[.val (.int p0)] []))
                        refine Go.back (fun t k => XS.iloadN X0.here hx rfl (hb hby d13_66) rfl  k) ?_
                        show Go p.tables e below (P13 p0 h0 n0 s) (s₁.setTop (mkF m 67 #[.val (.int p0)] [(.int p0)]))
                        refine Go.back (fun t k => XS.bipush X0.here hx rfl (hb hby d13_67) k) ?_
                        show Go p.tables e below (P13 p0 h0 n0 s) (s₁.setTop (mkF m 69 #[.val (.int p0)] [(.int (64 : Int32)), (.int p0)]))
                        by_cases hc38 : p0 = (64 : Int32)
                        · have r39 := r37.trans (if_pos hc38)
                          refine Go.back (fun t k => XS.icmpYes X0.here hx rfl (pc0 := 69) (pc' := 102) rfl (hb hby d13_69) rfl (teq hc38).1 (by decide) (by decide) k) ?_
                          show Go p.tables e below (P13 p0 h0 n0 s) (s₁.setTop (mkF m 102 #[.val (.int p0)] []))
                          refine Go.back (fun t k => XS.iconst X0.here hx rfl (hb hby d13_102) k) ?_
                          show Go p.tables e below (P13 p0 h0 n0 s) (s₁.setTop (mkF m 103 #[.val (.int p0)] [(.int (1 : Int32))]))
                          refine Go.back (fun t k => XS.goto X0.here hx rfl (pc0 := 103) (pc' := 107) rfl (hb hby d13_103) (by decide) (by decide) k) ?_
                          show Go p.tables e below (P13 p0 h0 n0 s) (s₁.setTop (mkF m 107 #[.val (.int p0)] [(.int (1 : Int32))]))
                          exact J2 true r39.symm
                        · have r40 := r37.trans (if_neg hc38)
                          refine Go.back (fun t k => XS.icmpNo X0.here hx rfl (hb hby d13_69) rfl (feq hc38).1 k) ?_
                          show Go p.tables e below (P13 p0 h0 n0 s) (s₁.setTop (mkF m 72 #[.val (.int p0)] []))
                          refine Go.back (fun t k => XS.iloadN X0.here hx rfl (hb hby d13_72) rfl  k) ?_
                          show Go p.tables e below (P13 p0 h0 n0 s) (s₁.setTop (mkF m 73 #[.val (.int p0)] [(.int p0)]))
                          refine Go.back (fun t k => XS.bipush X0.here hx rfl (hb hby d13_73) k) ?_
                          show Go p.tables e below (P13 p0 h0 n0 s) (s₁.setTop (mkF m 75 #[.val (.int p0)] [(.int (91 : Int32)), (.int p0)]))
                          by_cases hc41 : p0 = (91 : Int32)
                          · have r42 := r40.trans (if_pos hc41)
                            refine Go.back (fun t k => XS.icmpYes X0.here hx rfl (pc0 := 75) (pc' := 102) rfl (hb hby d13_75) rfl (teq hc41).1 (by decide) (by decide) k) ?_
                            show Go p.tables e below (P13 p0 h0 n0 s) (s₁.setTop (mkF m 102 #[.val (.int p0)] []))
                            refine Go.back (fun t k => XS.iconst X0.here hx rfl (hb hby d13_102) k) ?_
                            show Go p.tables e below (P13 p0 h0 n0 s) (s₁.setTop (mkF m 103 #[.val (.int p0)] [(.int (1 : Int32))]))
                            refine Go.back (fun t k => XS.goto X0.here hx rfl (pc0 := 103) (pc' := 107) rfl (hb hby d13_103) (by decide) (by decide) k) ?_
                            show Go p.tables e below (P13 p0 h0 n0 s) (s₁.setTop (mkF m 107 #[.val (.int p0)] [(.int (1 : Int32))]))
                            exact J2 true r42.symm
                          · have r43 := r40.trans (if_neg hc41)
                            refine Go.back (fun t k => XS.icmpNo X0.here hx rfl (hb hby d13_75) rfl (feq hc41).1 k) ?_
                            show Go p.tables e below (P13 p0 h0 n0 s) (s₁.setTop (mkF m 78 #[.val (.int p0)] []))
                            refine Go.back (fun t k => XS.iloadN X0.here hx rfl (hb hby d13_78) rfl  k) ?_
                            show Go p.tables e below (P13 p0 h0 n0 s) (s₁.setTop (mkF m 79 #[.val (.int p0)] [(.int p0)]))
                            refine Go.back (fun t k => XS.bipush X0.here hx rfl (hb hby d13_79) k) ?_
                            show Go p.tables e below (P13 p0 h0 n0 s) (s₁.setTop (mkF m 81 #[.val (.int p0)] [(.int (92 : Int32)), (.int p0)]))
                            by_cases hc44 : p0 = (92 : Int32)
                            · have r45 := r43.trans (if_pos hc44)
                              refine Go.back (fun t k => XS.icmpYes X0.here hx rfl (pc0 := 81) (pc' := 102) rfl (hb hby d13_81) rfl (teq hc44).1 (by decide) (by decide) k) ?_
                              show Go p.tables e below (P13 p0 h0 n0 s) (s₁.setTop (mkF m 102 #[.val (.int p0)] []))
                              refine Go.back (fun t k => XS.iconst X0.here hx rfl (hb hby d13_102) k) ?_
                              show Go p.tables e below (P13 p0 h0 n0 s) (s₁.setTop (mkF m 103 #[.val (.int p0)] [(.int (1 : Int32))]))
                              refine Go.back (fun t k => XS.goto X0.here hx rfl (pc0 := 103) (pc' := 107) rfl (hb hby d13_103) (by decide) (by decide) k) ?_
                              show Go p.tables e below (P13 p0 h0 n0 s) (s₁.setTop (mkF m 107 #[.val (.int p0)] [(.int (1 : Int32))]))
                              exact J2 true r45.symm
                            · have r46 := r43.trans (if_neg hc44)
                              refine Go.back (fun t k => XS.icmpNo X0.here hx rfl (hb hby d13_81) rfl (feq hc44).1 k) ?_
                              show Go p.tables e below (P13 p0 h0 n0 s) (s₁.setTop (mkF m 84 #[.val (.int p0)] []))
                              refine Go.back (fun t k => XS.iloadN X0.here hx rfl (hb hby d13_84) rfl  k) ?_
                              show Go p.tables e below (P13 p0 h0 n0 s) (s₁.setTop (mkF m 85 #[.val (.int p0)] [(.int p0)]))
                              refine Go.back (fun t k => XS.bipush X0.here hx rfl (hb hby d13_85) k) ?_
                              show Go p.tables e below (P13 p0 h0 n0 s) (s₁.setTop (mkF m 87 #[.val (.int p0)] [(.int (93 : Int32)), (.int p0)]))
                              by_cases hc47 : p0 = (93 : Int32)
                              · have r48 := r46.trans (if_pos hc47)
                                refine Go.back (fun t k => XS.icmpYes X0.here hx rfl (pc0 := 87) (pc' := 102) rfl (hb hby d13_87) rfl (teq hc47).1 (by decide) (by decide) k) ?_
                                show Go p.tables e below (P13 p0 h0 n0 s) (s₁.setTop (mkF m 102 #[.val (.int p0)] []))
                                refine Go.back (fun t k => XS.iconst X0.here hx rfl (hb hby d13_102) k) ?_
                                show Go p.tables e below (P13 p0 h0 n0 s) (s₁.setTop (mkF m 103 #[.val (.int p0)] [(.int (1 : Int32))]))
                                refine Go.back (fun t k => XS.goto X0.here hx rfl (pc0 := 103) (pc' := 107) rfl (hb hby d13_103) (by decide) (by decide) k) ?_
                                show Go p.tables e below (P13 p0 h0 n0 s) (s₁.setTop (mkF m 107 #[.val (.int p0)] [(.int (1 : Int32))]))
                                exact J2 true r48.symm
                              · have r49 := r46.trans (if_neg hc47)
                                refine Go.back (fun t k => XS.icmpNo X0.here hx rfl (hb hby d13_87) rfl (feq hc47).1 k) ?_
                                show Go p.tables e below (P13 p0 h0 n0 s) (s₁.setTop (mkF m 90 #[.val (.int p0)] []))
                                refine Go.back (fun t k => XS.iloadN X0.here hx rfl (hb hby d13_90) rfl  k) ?_
                                show Go p.tables e below (P13 p0 h0 n0 s) (s₁.setTop (mkF m 91 #[.val (.int p0)] [(.int p0)]))
                                refine Go.back (fun t k => XS.bipush X0.here hx rfl (hb hby d13_91) k) ?_
                                show Go p.tables e below (P13 p0 h0 n0 s) (s₁.setTop (mkF m 93 #[.val (.int p0)] [(.int (123 : Int32)), (.int p0)]))
                                by_cases hc50 : p0 = (123 : Int32)
                                · have r51 := r49.trans (if_pos hc50)
                                  refine Go.back (fun t k => XS.icmpYes X0.here hx rfl (pc0 := 93) (pc' := 102) rfl (hb hby d13_93) rfl (teq hc50).1 (by decide) (by decide) k) ?_
                                  show Go p.tables e below (P13 p0 h0 n0 s) (s₁.setTop (mkF m 102 #[.val (.int p0)] []))
                                  refine Go.back (fun t k => XS.iconst X0.here hx rfl (hb hby d13_102) k) ?_
                                  show Go p.tables e below (P13 p0 h0 n0 s) (s₁.setTop (mkF m 103 #[.val (.int p0)] [(.int (1 : Int32))]))
                                  refine Go.back (fun t k => XS.goto X0.here hx rfl (pc0 := 103) (pc' := 107) rfl (hb hby d13_103) (by decide) (by decide) k) ?_
                                  show Go p.tables e below (P13 p0 h0 n0 s) (s₁.setTop (mkF m 107 #[.val (.int p0)] [(.int (1 : Int32))]))
                                  exact J2 true r51.symm
                                · have r52 := r49.trans (if_neg hc50)
                                  refine Go.back (fun t k => XS.icmpNo X0.here hx rfl (hb hby d13_93) rfl (feq hc50).1 k) ?_
                                  show Go p.tables e below (P13 p0 h0 n0 s) (s₁.setTop (mkF m 96 #[.val (.int p0)] []))
                                  refine Go.back (fun t k => XS.iloadN X0.here hx rfl (hb hby d13_96) rfl  k) ?_
                                  show Go p.tables e below (P13 p0 h0 n0 s) (s₁.setTop (mkF m 97 #[.val (.int p0)] [(.int p0)]))
                                  refine Go.back (fun t k => XS.bipush X0.here hx rfl (hb hby d13_97) k) ?_
                                  show Go p.tables e below (P13 p0 h0 n0 s) (s₁.setTop (mkF m 99 #[.val (.int p0)] [(.int (125 : Int32)), (.int p0)]))
                                  by_cases hc53 : p0 = (125 : Int32)
                                  · have r54 := r52.trans (if_pos hc53)
                                    refine Go.back (fun t k => XS.icmpNo X0.here hx rfl (hb hby d13_99) rfl (teq hc53).2 k) ?_
                                    show Go p.tables e below (P13 p0 h0 n0 s) (s₁.setTop (mkF m 102 #[.val (.int p0)] []))
                                    refine Go.back (fun t k => XS.iconst X0.here hx rfl (hb hby d13_102) k) ?_
                                    show Go p.tables e below (P13 p0 h0 n0 s) (s₁.setTop (mkF m 103 #[.val (.int p0)] [(.int (1 : Int32))]))
                                    refine Go.back (fun t k => XS.goto X0.here hx rfl (pc0 := 103) (pc' := 107) rfl (hb hby d13_103) (by decide) (by decide) k) ?_
                                    show Go p.tables e below (P13 p0 h0 n0 s) (s₁.setTop (mkF m 107 #[.val (.int p0)] [(.int (1 : Int32))]))
                                    exact J2 true r54.symm
                                  · have r55 := r52.trans (if_neg hc53)
                                    refine Go.back (fun t k => XS.icmpYes X0.here hx rfl (pc0 := 99) (pc' := 106) rfl (hb hby d13_99) rfl (feq hc53).2 (by decide) (by decide) k) ?_
                                    show Go p.tables e below (P13 p0 h0 n0 s) (s₁.setTop (mkF m 106 #[.val (.int p0)] []))
                                    refine Go.back (fun t k => XS.iconst X0.here hx rfl (hb hby d13_106) k) ?_
                                    show Go p.tables e below (P13 p0 h0 n0 s) (s₁.setTop (mkF m 107 #[.val (.int p0)] [(.int (0 : Int32))]))
                                    exact J2 false r55.symm
theorem d12_0 : decode method_3_code 0 = .ok (.iload_n 0, 1) := by decide +kernel
theorem d12_1 : decode method_3_code 1 = .ok (.bipush 33, 2) := by decide +kernel
theorem d12_3 : decode method_3_code 3 = .ok (.if_icmp .lt 9, 3) := by decide +kernel
theorem d12_6 : decode method_3_code 6 = .ok (.iload_n 0, 1) := by decide +kernel
theorem d12_7 : decode method_3_code 7 = .ok (.bipush 126, 2) := by decide +kernel
theorem d12_9 : decode method_3_code 9 = .ok (.if_icmp .le 5, 3) := by decide +kernel
theorem d12_12 : decode method_3_code 12 = .ok (.iconst 0, 1) := by decide +kernel
theorem d12_13 : decode method_3_code 13 = .ok (.ireturn, 1) := by decide +kernel
theorem d12_14 : decode method_3_code 14 = .ok (.iload_n 0, 1) := by decide +kernel
theorem d12_15 : decode method_3_code 15 = .ok (.invokestatic 7, 3) := by decide +kernel
theorem d12_18 : decode method_3_code 18 = .ok (.ifCond .ne 7, 3) := by decide +kernel
theorem d12_21 : decode method_3_code 21 = .ok (.iconst 1, 1) := by decide +kernel
theorem d12_22 : decode method_3_code 22 = .ok (.goto 4, 3) := by decide +kernel
theorem d12_25 : decode method_3_code 25 = .ok (.iconst 0, 1) := by decide +kernel
theorem d12_26 : decode method_3_code 26 = .ok (.ireturn, 1) := by decide +kernel
def f12 (p0 : Int32) : Bool := (if p0 < (33 : Int32) then false else (if (126 : Int32) < p0 then false else (let z10 : Bool := (if (f13 p0) = true then false else true); z10)))
def Q12 (p0 : Int32) (h0 : Heap) (n0 : Nat) (v : Option Value) (h : Heap) (L : List Loc) : Prop := v = some (.int (b2i (f12 p0))) ∧ Fr n0 L ∧ h = h0
abbrev rmm12 : Room := { frames := 1, cells := 0, slots := 0, locals := 12 }
abbrev P12 (p0 : Int32) (h0 : Heap) (n0 : Nat) (s : State) : Outcome → State → Prop := fun o U' => ∃ v L, o = .returned v ∧ Q12 p0 h0 n0 v U'.heap L ∧ FrameEnd s o U' L rmm12.cells rmm12.slots
theorem pn_12 : plainName "com/example/paylode/paylode/header/HeaderSyntaxIsTokenCharPinLaw" = true := by first | (simp [plainName, overriddenIn]; done) | decide +kernel
theorem ef_12 (m : MethodId) (p0 : Int32) : entryFrame m #[(.int p0)] 1 = mkF m 0 #[.val (.int p0)] [] := by first | (simp [entryFrame, mkF, argsToLocals, Value.category]; done) | rfl
set_option maxRecDepth 65536 in
set_option maxHeartbeats 40000000 in
theorem rm12 (l : Launch) (Z : State) (a0 : Array Value) (hw : ∀ d ∈ tables_1, d.before a0 Z = true) (ws : List Jvm.Cond) (p0 : Int32) (h0 : Heap) (n0 : Nat) :
    MetFree l (⟨"com/example/paylode/paylode/header/HeaderSyntaxIsTokenCharPinLaw", "expected", "(C)Z"⟩ : MethodName) (head1 (Jvm.Cond.code (⟨"com/example/paylode/paylode/header/HeaderSyntaxIsTokenCharPinLaw", "expected", "(C)Z"⟩ : MethodName) method_3_code 1 (some .boolean) :: ws) rmm12) (fun a U => a = #[(.int p0)] ∧ Z.Warmed39 U.vm ∧ U.heap = h0) (fun _ _ _ _ _ => True) (fun _ U o U' => ∃ v L, o = .returned v ∧ Q12 p0 h0 n0 v U'.heap L ∧ FrameEnd U o U' L rmm12.cells rmm12.slots) := by
  refine MetFree.of_bodySF (plainFor_of_name pn_12) hisR ?_
  intro p e s m args below meth c s₁ Bd hml0 hP hK
  obtain ⟨rfl, hZ, hh⟩ := hP
  have hx := Bd.exec
  have hby := Bd.bytes
  have hml : c.maxLocals = 1 := hml0
  have hown : s.vm.findClass "com/example/paylode/paylode/header/HeaderSyntaxIsTokenCharPinLaw" = some m.cls := findClass_of_methodNamed Bd.named
  have hnm := (name_of_methodNamed Bd.named Bd.method).1
  have X0 : Stand p l e rmm12 s m #[(.int p0)] below meth c s₁ [] 0 0 := Stand.of_body Bd
  have e0 : s₁.heap = h0 := by rw [← hh, Bd.state]; rfl
  have N0 := Fr.nil n0
  show Go p.tables e below (P12 p0 h0 n0 s) (s₁.setTop (entryFrame m #[(.int p0)] 1))
  refine Go.back (fun t k => castTop (ef_12 m p0) k) ?_
  show Go p.tables e below (P12 p0 h0 n0 s) (s₁.setTop (mkF m 0 #[.val (.int p0)] []))
  have hf : f12 p0 = (if p0 < (33 : Int32) then false else (if (126 : Int32) < p0 then false else (let z10 : Bool := (if (f13 p0) = true then false else true); z10))) := rfl
  refine Go.back (fun t k => XS.iloadN X0.here hx rfl (hb hby d12_0) rfl  k) ?_
  show Go p.tables e below (P12 p0 h0 n0 s) (s₁.setTop (mkF m 1 #[.val (.int p0)] [(.int p0)]))
  refine Go.back (fun t k => XS.bipush X0.here hx rfl (hb hby d12_1) k) ?_
  show Go p.tables e below (P12 p0 h0 n0 s) (s₁.setTop (mkF m 3 #[.val (.int p0)] [(.int (33 : Int32)), (.int p0)]))
  by_cases hc1 : p0 < (33 : Int32)
  · have r2 := hf.trans (if_pos hc1)
    refine Go.back (fun t k => XS.icmpYes X0.here hx rfl (pc0 := 3) (pc' := 12) rfl (hb hby d12_3) rfl (tlt hc1).1 (by decide) (by decide) k) ?_
    show Go p.tables e below (P12 p0 h0 n0 s) (s₁.setTop (mkF m 12 #[.val (.int p0)] []))
    refine Go.back (fun t k => XS.iconst X0.here hx rfl (hb hby d12_12) k) ?_
    show Go p.tables e below (P12 p0 h0 n0 s) (s₁.setTop (mkF m 13 #[.val (.int p0)] [(.int (0 : Int32))]))
    exact Go.retB (b := false) X0 hx Bd.returns (hb hby d12_13) Bd.notSynchronized ⟨by rw [r2], N0, e0⟩ (by decide) (by decide)
  · have r3 := hf.trans (if_neg hc1)
    refine Go.back (fun t k => XS.icmpNo X0.here hx rfl (hb hby d12_3) rfl (flt hc1).1 k) ?_
    show Go p.tables e below (P12 p0 h0 n0 s) (s₁.setTop (mkF m 6 #[.val (.int p0)] []))
    refine Go.back (fun t k => XS.iloadN X0.here hx rfl (hb hby d12_6) rfl  k) ?_
    show Go p.tables e below (P12 p0 h0 n0 s) (s₁.setTop (mkF m 7 #[.val (.int p0)] [(.int p0)]))
    refine Go.back (fun t k => XS.bipush X0.here hx rfl (hb hby d12_7) k) ?_
    show Go p.tables e below (P12 p0 h0 n0 s) (s₁.setTop (mkF m 9 #[.val (.int p0)] [(.int (126 : Int32)), (.int p0)]))
    by_cases hc4 : (126 : Int32) < p0
    · have r5 := r3.trans (if_pos hc4)
      refine Go.back (fun t k => XS.icmpNo X0.here hx rfl (hb hby d12_9) rfl (tlt hc4).2.2.2 k) ?_
      show Go p.tables e below (P12 p0 h0 n0 s) (s₁.setTop (mkF m 12 #[.val (.int p0)] []))
      refine Go.back (fun t k => XS.iconst X0.here hx rfl (hb hby d12_12) k) ?_
      show Go p.tables e below (P12 p0 h0 n0 s) (s₁.setTop (mkF m 13 #[.val (.int p0)] [(.int (0 : Int32))]))
      exact Go.retB (b := false) X0 hx Bd.returns (hb hby d12_13) Bd.notSynchronized ⟨by rw [r5], N0, e0⟩ (by decide) (by decide)
    · have r6 := r3.trans (if_neg hc4)
      refine Go.back (fun t k => XS.icmpYes X0.here hx rfl (pc0 := 9) (pc' := 14) rfl (hb hby d12_9) rfl (flt hc4).2.2.2 (by decide) (by decide) k) ?_
      show Go p.tables e below (P12 p0 h0 n0 s) (s₁.setTop (mkF m 14 #[.val (.int p0)] []))
      refine Go.back (fun t k => XS.iloadN X0.here hx rfl (hb hby d12_14) rfl  k) ?_
      show Go p.tables e below (P12 p0 h0 n0 s) (s₁.setTop (mkF m 15 #[.val (.int p0)] [(.int p0)]))
      obtain ⟨_, _, ⟨T7, L7, k7, n7⟩, -, X7, ⟨Lc7, hQ7, l7, y7, z7⟩, st7⟩ := Jvm.LawKit.callS X0 hx (y := (⟨"com/example/paylode/paylode/header/HeaderSyntaxIsTokenCharPinLaw", "isDelimiter", "(C)Z"⟩ : MethodName)) hown (mvT hZ (hw _ (List.mem_of_getElem? (i := 61) rfl))) (mvT hZ (hw _ (List.mem_of_getElem? (i := 62) rfl))) (mvT hZ (hw _ (List.mem_of_getElem? (i := 59) rfl))) (mvT hZ (hw _ (List.mem_of_getElem? (i := 63) rfl))) (by decide) (backOf (W := 0) (rm13 l Z a0 hw [] p0 h0 n0) hZ (hw _ (List.mem_of_getElem? (i := 63) rfl)) (hw _ (List.mem_of_getElem? (i := 59) rfl)) (by decide) (by decide)) (g := (mkF m 15 #[.val (.int p0)] [(.int p0)])) rfl (by rw [hml]; rfl) (argsL := [(.int p0)]) (rest := []) (lenOf pd_0 rfl) rfl (by show 2 * 0 + _ ≤ _; exact Nat.le_of_eq rfl) (hb hby d12_15) (fun _ _ => ⟨rfl, e0, (by decide : 0 + 0 ≤ _), (by decide : 0 + 0 ≤ _)⟩)
      dsimp only [Pt.U, Pt.locs, Pt.cells, Pt.slots] at X7 l7 y7 z7 st7 hQ7
      subst l7 y7 z7
      obtain ⟨rfl, N7q, e7⟩ := hQ7
      obtain ⟨Lo7, Y7, N7⟩ := pk X7 (Fr.app N0 N7q)
      refine Go.back st7 ?_
      show Go p.tables e below (P12 p0 h0 n0 s) (T7.setTop (mkF m 18 #[.val (.int p0)] [(.int (b2i (f13 p0)))]))
      have J9 : ∀ (z10 : Bool) (hz10 : z10 = (if (f13 p0) = true then false else true)), Go p.tables e below (P12 p0 h0 n0 s) (T7.setTop (mkF m 26 #[.val (.int p0)] [(.int (b2i z10))])) := by
        intro z10 hz10
        have r11 : f12 p0 = z10 := by subst hz10; exact r6
        show Go p.tables e below (P12 p0 h0 n0 s) (T7.setTop (mkF m 26 #[.val (.int p0)] [(.int (b2i z10))]))
        exact Go.retB (b := z10) Y7 hx Bd.returns (hb hby d12_26) Bd.notSynchronized ⟨by rw [r11], N7, e7⟩ (by decide) (by decide)
      have r12 : (if (f13 p0) = true then false else true) = (if (f13 p0) = true then false else true) := rfl
      by_cases hc8 : (f13 p0) = true
      · have r13 := r12.trans (if_pos hc8)
        refine Go.back (fun t k => XS.ifYes Y7.here hx rfl (pc0 := 18) (pc' := 25) rfl (hb hby d12_18) rfl ((if0 _ _).trans (feq (b2i_t hc8)).2) (by decide) (by decide) k) ?_
        show Go p.tables e below (P12 p0 h0 n0 s) (T7.setTop (mkF m 25 #[.val (.int p0)] []))
        refine Go.back (fun t k => XS.iconst Y7.here hx rfl (hb hby d12_25) k) ?_
        show Go p.tables e below (P12 p0 h0 n0 s) (T7.setTop (mkF m 26 #[.val (.int p0)] [(.int (0 : Int32))]))
        exact J9 false r13.symm
      · have r14 := r12.trans (if_neg hc8)
        refine Go.back (fun t k => XS.ifNo Y7.here hx rfl (hb hby d12_18) rfl ((if0 _ _).trans (teq (b2i_f hc8)).2) k) ?_
        show Go p.tables e below (P12 p0 h0 n0 s) (T7.setTop (mkF m 21 #[.val (.int p0)] []))
        refine Go.back (fun t k => XS.iconst Y7.here hx rfl (hb hby d12_21) k) ?_
        show Go p.tables e below (P12 p0 h0 n0 s) (T7.setTop (mkF m 22 #[.val (.int p0)] [(.int (1 : Int32))]))
        refine Go.back (fun t k => XS.goto Y7.here hx rfl (pc0 := 22) (pc' := 26) rfl (hb hby d12_22) (by decide) (by decide) k) ?_
        show Go p.tables e below (P12 p0 h0 n0 s) (T7.setTop (mkF m 26 #[.val (.int p0)] [(.int (1 : Int32))]))
        exact J9 true r14.symm
theorem d8_0 : decode jdk_43_method_4_code 0 = .ok (.iload_n 0, 1) := by decide +kernel
theorem d8_1 : decode jdk_43_method_4_code 1 = .ok (.ifCond .lt 14, 3) := by decide +kernel
theorem d8_4 : decode jdk_43_method_4_code 4 = .ok (.iload_n 0, 1) := by decide +kernel
theorem d8_5 : decode jdk_43_method_4_code 5 = .ok (.sipush 255, 3) := by decide +kernel
theorem d8_8 : decode jdk_43_method_4_code 8 = .ok (.if_icmp .gt 7, 3) := by decide +kernel
theorem d8_11 : decode jdk_43_method_4_code 11 = .ok (.iconst 1, 1) := by decide +kernel
theorem d8_12 : decode jdk_43_method_4_code 12 = .ok (.goto 4, 3) := by decide +kernel
theorem d8_15 : decode jdk_43_method_4_code 15 = .ok (.iconst 0, 1) := by decide +kernel
theorem d8_16 : decode jdk_43_method_4_code 16 = .ok (.ireturn, 1) := by decide +kernel
def f8 (p0 : Int32) : Bool := (let z3 : Bool := (if p0 < (0 : Int32) then false else (if (255 : Int32) < p0 then false else true)); z3)
def Q8 (p0 : Int32) (h0 : Heap) (n0 : Nat) (v : Option Value) (h : Heap) (L : List Loc) : Prop := v = some (.int (b2i (f8 p0))) ∧ Fr n0 L ∧ h = h0
abbrev rmm8 : Room := { frames := 0, cells := 0, slots := 0, locals := 0 }
abbrev P8 (p0 : Int32) (h0 : Heap) (n0 : Nat) (s : State) : Outcome → State → Prop := fun o U' => ∃ v L, o = .returned v ∧ Q8 p0 h0 n0 v U'.heap L ∧ FrameEnd s o U' L rmm8.cells rmm8.slots
theorem pn_8 : plainName "java/lang/StringLatin1" = true := by first | (simp [plainName, overriddenIn]; done) | decide +kernel
theorem ef_8 (m : MethodId) (p0 : Int32) : entryFrame m #[(.int p0)] 1 = mkF m 0 #[.val (.int p0)] [] := by first | (simp [entryFrame, mkF, argsToLocals, Value.category]; done) | rfl
set_option maxRecDepth 65536 in
set_option maxHeartbeats 40000000 in
theorem rm8 (l : Launch) (Z : State) (a0 : Array Value) (hw : ∀ d ∈ tables_1, d.before a0 Z = true) (ws : List Jvm.Cond) (p0 : Int32) (h0 : Heap) (n0 : Nat) :
    MetFree l (⟨"java/lang/StringLatin1", "canEncode", "(I)Z"⟩ : MethodName) (head1 (Jvm.Cond.code (⟨"java/lang/StringLatin1", "canEncode", "(I)Z"⟩ : MethodName) jdk_43_method_4_code 1 (some .boolean) :: ws) rmm8) (fun a U => a = #[(.int p0)] ∧ Z.Warmed39 U.vm ∧ U.heap = h0) (fun _ _ _ _ _ => True) (fun _ U o U' => ∃ v L, o = .returned v ∧ Q8 p0 h0 n0 v U'.heap L ∧ FrameEnd U o U' L rmm8.cells rmm8.slots) := by
  refine MetFree.of_bodySF (plainFor_of_name pn_8) hisR ?_
  intro p e s m args below meth c s₁ Bd hml0 hP hK
  obtain ⟨rfl, hZ, hh⟩ := hP
  have hx := Bd.exec
  have hby := Bd.bytes
  have hml : c.maxLocals = 1 := hml0
  have hown : s.vm.findClass "java/lang/StringLatin1" = some m.cls := findClass_of_methodNamed Bd.named
  have hnm := (name_of_methodNamed Bd.named Bd.method).1
  have X0 : Stand p l e rmm8 s m #[(.int p0)] below meth c s₁ [] 0 0 := Stand.of_body Bd
  have e0 : s₁.heap = h0 := by rw [← hh, Bd.state]; rfl
  have N0 := Fr.nil n0
  show Go p.tables e below (P8 p0 h0 n0 s) (s₁.setTop (entryFrame m #[(.int p0)] 1))
  refine Go.back (fun t k => castTop (ef_8 m p0) k) ?_
  show Go p.tables e below (P8 p0 h0 n0 s) (s₁.setTop (mkF m 0 #[.val (.int p0)] []))
  have hf : f8 p0 = (let z3 : Bool := (if p0 < (0 : Int32) then false else (if (255 : Int32) < p0 then false else true)); z3) := rfl
  refine Go.back (fun t k => XS.iloadN X0.here hx rfl (hb hby d8_0) rfl  k) ?_
  show Go p.tables e below (P8 p0 h0 n0 s) (s₁.setTop (mkF m 1 #[.val (.int p0)] [(.int p0)]))
  have J2 : ∀ (z3 : Bool) (hz3 : z3 = (if p0 < (0 : Int32) then false else (if (255 : Int32) < p0 then false else true))), Go p.tables e below (P8 p0 h0 n0 s) (s₁.setTop (mkF m 16 #[.val (.int p0)] [(.int (b2i z3))])) := by
    intro z3 hz3
    have r4 : f8 p0 = z3 := by subst hz3; exact hf
    show Go p.tables e below (P8 p0 h0 n0 s) (s₁.setTop (mkF m 16 #[.val (.int p0)] [(.int (b2i z3))]))
    exact Go.retB (b := z3) X0 hx Bd.returns (hb hby d8_16) Bd.notSynchronized ⟨by rw [r4], N0, e0⟩ (by decide) (by decide)
  have r5 : (if p0 < (0 : Int32) then false else (if (255 : Int32) < p0 then false else true)) = (if p0 < (0 : Int32) then false else (if (255 : Int32) < p0 then false else true)) := rfl
  by_cases hc1 : p0 < (0 : Int32)
  · have r6 := r5.trans (if_pos hc1)
    refine Go.back (fun t k => XS.ifYes X0.here hx rfl (pc0 := 1) (pc' := 15) rfl (hb hby d8_1) rfl ((if0 _ _).trans (tlt hc1).1) (by decide) (by decide) k) ?_
    show Go p.tables e below (P8 p0 h0 n0 s) (s₁.setTop (mkF m 15 #[.val (.int p0)] []))
    refine Go.back (fun t k => XS.iconst X0.here hx rfl (hb hby d8_15) k) ?_
    show Go p.tables e below (P8 p0 h0 n0 s) (s₁.setTop (mkF m 16 #[.val (.int p0)] [(.int (0 : Int32))]))
    exact J2 false r6.symm
  · have r7 := r5.trans (if_neg hc1)
    refine Go.back (fun t k => XS.ifNo X0.here hx rfl (hb hby d8_1) rfl ((if0 _ _).trans (flt hc1).1) k) ?_
    show Go p.tables e below (P8 p0 h0 n0 s) (s₁.setTop (mkF m 4 #[.val (.int p0)] []))
    refine Go.back (fun t k => XS.iloadN X0.here hx rfl (hb hby d8_4) rfl  k) ?_
    show Go p.tables e below (P8 p0 h0 n0 s) (s₁.setTop (mkF m 5 #[.val (.int p0)] [(.int p0)]))
    refine Go.back (fun t k => XS.sipush X0.here hx rfl (hb hby d8_5) k) ?_
    show Go p.tables e below (P8 p0 h0 n0 s) (s₁.setTop (mkF m 8 #[.val (.int p0)] [(.int (255 : Int32)), (.int p0)]))
    by_cases hc8 : (255 : Int32) < p0
    · have r9 := r7.trans (if_pos hc8)
      refine Go.back (fun t k => XS.icmpYes X0.here hx rfl (pc0 := 8) (pc' := 15) rfl (hb hby d8_8) rfl (tlt hc8).2.2.1 (by decide) (by decide) k) ?_
      show Go p.tables e below (P8 p0 h0 n0 s) (s₁.setTop (mkF m 15 #[.val (.int p0)] []))
      refine Go.back (fun t k => XS.iconst X0.here hx rfl (hb hby d8_15) k) ?_
      show Go p.tables e below (P8 p0 h0 n0 s) (s₁.setTop (mkF m 16 #[.val (.int p0)] [(.int (0 : Int32))]))
      exact J2 false r9.symm
    · have r10 := r7.trans (if_neg hc8)
      refine Go.back (fun t k => XS.icmpNo X0.here hx rfl (hb hby d8_8) rfl (flt hc8).2.2.1 k) ?_
      show Go p.tables e below (P8 p0 h0 n0 s) (s₁.setTop (mkF m 11 #[.val (.int p0)] []))
      refine Go.back (fun t k => XS.iconst X0.here hx rfl (hb hby d8_11) k) ?_
      show Go p.tables e below (P8 p0 h0 n0 s) (s₁.setTop (mkF m 12 #[.val (.int p0)] [(.int (1 : Int32))]))
      refine Go.back (fun t k => XS.goto X0.here hx rfl (pc0 := 12) (pc' := 16) rfl (hb hby d8_12) (by decide) (by decide) k) ?_
      show Go p.tables e below (P8 p0 h0 n0 s) (s₁.setTop (mkF m 16 #[.val (.int p0)] [(.int (1 : Int32))]))
      exact J2 true r10.symm
theorem d9_0 : decode jdk_29_method_65_code 0 = .ok (.iload_n 0, 1) := by decide +kernel
theorem d9_1 : decode jdk_29_method_65_code 1 = .ok (.iload_n 1, 1) := by decide +kernel
theorem d9_2 : decode jdk_29_method_65_code 2 = .ok (.if_icmp .lt 7, 3) := by decide +kernel
theorem d9_5 : decode jdk_29_method_65_code 5 = .ok (.iload_n 0, 1) := by decide +kernel
theorem d9_6 : decode jdk_29_method_65_code 6 = .ok (.goto 4, 3) := by decide +kernel
theorem d9_9 : decode jdk_29_method_65_code 9 = .ok (.iload_n 1, 1) := by decide +kernel
theorem d9_10 : decode jdk_29_method_65_code 10 = .ok (.ireturn, 1) := by decide +kernel
def f9 (p0 : Int32) (p1 : Int32) : Int32 := (let z3 : Int32 := (if p0 < p1 then p1 else p0); z3)
def Q9 (p0 : Int32) (p1 : Int32) (h0 : Heap) (n0 : Nat) (v : Option Value) (h : Heap) (L : List Loc) : Prop := v = some (.int (f9 p0 p1)) ∧ Fr n0 L ∧ h = h0
abbrev rmm9 : Room := { frames := 0, cells := 0, slots := 0, locals := 0 }
abbrev P9 (p0 : Int32) (p1 : Int32) (h0 : Heap) (n0 : Nat) (s : State) : Outcome → State → Prop := fun o U' => ∃ v L, o = .returned v ∧ Q9 p0 p1 h0 n0 v U'.heap L ∧ FrameEnd s o U' L rmm9.cells rmm9.slots
theorem ef_9 (m : MethodId) (p0 : Int32) (p1 : Int32) : entryFrame m #[(.int p0), (.int p1)] 2 = mkF m 0 #[.val (.int p0), .val (.int p1)] [] := by first | (simp [entryFrame, mkF, argsToLocals, Value.category]; done) | rfl
set_option maxRecDepth 65536 in
set_option maxHeartbeats 40000000 in
theorem rm9 (l : Launch) (Z : State) (a0 : Array Value) (hw : ∀ d ∈ tables_1, d.before a0 Z = true) (ws : List Jvm.Cond) (p0 : Int32) (p1 : Int32) (h0 : Heap) (n0 : Nat) :
    MetFree l (⟨"java/lang/Math", "max", "(II)I"⟩ : MethodName) (head1 (Jvm.Cond.code (⟨"java/lang/Math", "max", "(II)I"⟩ : MethodName) jdk_29_method_65_code 2 (some .int) :: ws) rmm9) (fun a U => a = #[(.int p0), (.int p1)] ∧ Z.Warmed39 U.vm ∧ U.heap = h0) (fun _ _ _ _ _ => True) (fun _ U o U' => ∃ v L, o = .returned v ∧ Q9 p0 p1 h0 n0 v U'.heap L ∧ FrameEnd U o U' L rmm9.cells rmm9.slots) := by
  refine MetFree.of_bodySF (Jvm.Free.JP.mathPlain rfl (by decide +kernel)) hisR ?_
  intro p e s m args below meth c s₁ Bd hml0 hP hK
  obtain ⟨rfl, hZ, hh⟩ := hP
  have hx := Bd.exec
  have hby := Bd.bytes
  have hml : c.maxLocals = 2 := hml0
  have hown : s.vm.findClass "java/lang/Math" = some m.cls := findClass_of_methodNamed Bd.named
  have hnm := (name_of_methodNamed Bd.named Bd.method).1
  have X0 : Stand p l e rmm9 s m #[(.int p0), (.int p1)] below meth c s₁ [] 0 0 := Stand.of_body Bd
  have e0 : s₁.heap = h0 := by rw [← hh, Bd.state]; rfl
  have N0 := Fr.nil n0
  show Go p.tables e below (P9 p0 p1 h0 n0 s) (s₁.setTop (entryFrame m #[(.int p0), (.int p1)] 2))
  refine Go.back (fun t k => castTop (ef_9 m p0 p1) k) ?_
  show Go p.tables e below (P9 p0 p1 h0 n0 s) (s₁.setTop (mkF m 0 #[.val (.int p0), .val (.int p1)] []))
  have hf : f9 p0 p1 = (let z3 : Int32 := (if p0 < p1 then p1 else p0); z3) := rfl
  refine Go.back (fun t k => XS.iloadN X0.here hx rfl (hb hby d9_0) rfl  k) ?_
  show Go p.tables e below (P9 p0 p1 h0 n0 s) (s₁.setTop (mkF m 1 #[.val (.int p0), .val (.int p1)] [(.int p0)]))
  refine Go.back (fun t k => XS.iloadN X0.here hx rfl (hb hby d9_1) rfl  k) ?_
  show Go p.tables e below (P9 p0 p1 h0 n0 s) (s₁.setTop (mkF m 2 #[.val (.int p0), .val (.int p1)] [(.int p1), (.int p0)]))
  have J2 : ∀ (z3 : Int32) (hz3 : z3 = (if p0 < p1 then p1 else p0)), Go p.tables e below (P9 p0 p1 h0 n0 s) (s₁.setTop (mkF m 10 #[.val (.int p0), .val (.int p1)] [(.int z3)])) := by
    intro z3 hz3
    have r4 : f9 p0 p1 = z3 := by subst hz3; exact hf
    show Go p.tables e below (P9 p0 p1 h0 n0 s) (s₁.setTop (mkF m 10 #[.val (.int p0), .val (.int p1)] [(.int z3)]))
    exact Go.retI X0 hx Bd.returns (hb hby d9_10) Bd.notSynchronized ⟨by rw [r4], N0, e0⟩ (by decide) (by decide)
  have r5 : (if p0 < p1 then p1 else p0) = (if p0 < p1 then p1 else p0) := rfl
  by_cases hc1 : p0 < p1
  · have r6 := r5.trans (if_pos hc1)
    refine Go.back (fun t k => XS.icmpYes X0.here hx rfl (pc0 := 2) (pc' := 9) rfl (hb hby d9_2) rfl (tlt hc1).1 (by decide) (by decide) k) ?_
    show Go p.tables e below (P9 p0 p1 h0 n0 s) (s₁.setTop (mkF m 9 #[.val (.int p0), .val (.int p1)] []))
    refine Go.back (fun t k => XS.iloadN X0.here hx rfl (hb hby d9_9) rfl  k) ?_
    show Go p.tables e below (P9 p0 p1 h0 n0 s) (s₁.setTop (mkF m 10 #[.val (.int p0), .val (.int p1)] [(.int p1)]))
    exact J2 p1 r6.symm
  · have r7 := r5.trans (if_neg hc1)
    refine Go.back (fun t k => XS.icmpNo X0.here hx rfl (hb hby d9_2) rfl (flt hc1).1 k) ?_
    show Go p.tables e below (P9 p0 p1 h0 n0 s) (s₁.setTop (mkF m 5 #[.val (.int p0), .val (.int p1)] []))
    refine Go.back (fun t k => XS.iloadN X0.here hx rfl (hb hby d9_5) rfl  k) ?_
    show Go p.tables e below (P9 p0 p1 h0 n0 s) (s₁.setTop (mkF m 6 #[.val (.int p0), .val (.int p1)] [(.int p0)]))
    refine Go.back (fun t k => XS.goto X0.here hx rfl (pc0 := 6) (pc' := 10) rfl (hb hby d9_6) (by decide) (by decide) k) ?_
    show Go p.tables e below (P9 p0 p1 h0 n0 s) (s₁.setTop (mkF m 10 #[.val (.int p0), .val (.int p1)] [(.int p0)]))
    exact J2 p0 r7.symm
theorem d10_0 : decode jdk_29_method_69_code 0 = .ok (.iload_n 0, 1) := by decide +kernel
theorem d10_1 : decode jdk_29_method_69_code 1 = .ok (.iload_n 1, 1) := by decide +kernel
theorem d10_2 : decode jdk_29_method_69_code 2 = .ok (.if_icmp .gt 7, 3) := by decide +kernel
theorem d10_5 : decode jdk_29_method_69_code 5 = .ok (.iload_n 0, 1) := by decide +kernel
theorem d10_6 : decode jdk_29_method_69_code 6 = .ok (.goto 4, 3) := by decide +kernel
theorem d10_9 : decode jdk_29_method_69_code 9 = .ok (.iload_n 1, 1) := by decide +kernel
theorem d10_10 : decode jdk_29_method_69_code 10 = .ok (.ireturn, 1) := by decide +kernel
def f10 (p0 : Int32) (p1 : Int32) : Int32 := (let z3 : Int32 := (if p1 < p0 then p1 else p0); z3)
def Q10 (p0 : Int32) (p1 : Int32) (h0 : Heap) (n0 : Nat) (v : Option Value) (h : Heap) (L : List Loc) : Prop := v = some (.int (f10 p0 p1)) ∧ Fr n0 L ∧ h = h0
abbrev rmm10 : Room := { frames := 0, cells := 0, slots := 0, locals := 0 }
abbrev P10 (p0 : Int32) (p1 : Int32) (h0 : Heap) (n0 : Nat) (s : State) : Outcome → State → Prop := fun o U' => ∃ v L, o = .returned v ∧ Q10 p0 p1 h0 n0 v U'.heap L ∧ FrameEnd s o U' L rmm10.cells rmm10.slots
theorem ef_10 (m : MethodId) (p0 : Int32) (p1 : Int32) : entryFrame m #[(.int p0), (.int p1)] 2 = mkF m 0 #[.val (.int p0), .val (.int p1)] [] := by first | (simp [entryFrame, mkF, argsToLocals, Value.category]; done) | rfl
set_option maxRecDepth 65536 in
set_option maxHeartbeats 40000000 in
theorem rm10 (l : Launch) (Z : State) (a0 : Array Value) (hw : ∀ d ∈ tables_1, d.before a0 Z = true) (ws : List Jvm.Cond) (p0 : Int32) (p1 : Int32) (h0 : Heap) (n0 : Nat) :
    MetFree l (⟨"java/lang/Math", "min", "(II)I"⟩ : MethodName) (head1 (Jvm.Cond.code (⟨"java/lang/Math", "min", "(II)I"⟩ : MethodName) jdk_29_method_69_code 2 (some .int) :: ws) rmm10) (fun a U => a = #[(.int p0), (.int p1)] ∧ Z.Warmed39 U.vm ∧ U.heap = h0) (fun _ _ _ _ _ => True) (fun _ U o U' => ∃ v L, o = .returned v ∧ Q10 p0 p1 h0 n0 v U'.heap L ∧ FrameEnd U o U' L rmm10.cells rmm10.slots) := by
  refine MetFree.of_bodySF (Jvm.Free.JP.mathPlain rfl (by decide +kernel)) hisR ?_
  intro p e s m args below meth c s₁ Bd hml0 hP hK
  obtain ⟨rfl, hZ, hh⟩ := hP
  have hx := Bd.exec
  have hby := Bd.bytes
  have hml : c.maxLocals = 2 := hml0
  have hown : s.vm.findClass "java/lang/Math" = some m.cls := findClass_of_methodNamed Bd.named
  have hnm := (name_of_methodNamed Bd.named Bd.method).1
  have X0 : Stand p l e rmm10 s m #[(.int p0), (.int p1)] below meth c s₁ [] 0 0 := Stand.of_body Bd
  have e0 : s₁.heap = h0 := by rw [← hh, Bd.state]; rfl
  have N0 := Fr.nil n0
  show Go p.tables e below (P10 p0 p1 h0 n0 s) (s₁.setTop (entryFrame m #[(.int p0), (.int p1)] 2))
  refine Go.back (fun t k => castTop (ef_10 m p0 p1) k) ?_
  show Go p.tables e below (P10 p0 p1 h0 n0 s) (s₁.setTop (mkF m 0 #[.val (.int p0), .val (.int p1)] []))
  have hf : f10 p0 p1 = (let z3 : Int32 := (if p1 < p0 then p1 else p0); z3) := rfl
  refine Go.back (fun t k => XS.iloadN X0.here hx rfl (hb hby d10_0) rfl  k) ?_
  show Go p.tables e below (P10 p0 p1 h0 n0 s) (s₁.setTop (mkF m 1 #[.val (.int p0), .val (.int p1)] [(.int p0)]))
  refine Go.back (fun t k => XS.iloadN X0.here hx rfl (hb hby d10_1) rfl  k) ?_
  show Go p.tables e below (P10 p0 p1 h0 n0 s) (s₁.setTop (mkF m 2 #[.val (.int p0), .val (.int p1)] [(.int p1), (.int p0)]))
  have J2 : ∀ (z3 : Int32) (hz3 : z3 = (if p1 < p0 then p1 else p0)), Go p.tables e below (P10 p0 p1 h0 n0 s) (s₁.setTop (mkF m 10 #[.val (.int p0), .val (.int p1)] [(.int z3)])) := by
    intro z3 hz3
    have r4 : f10 p0 p1 = z3 := by subst hz3; exact hf
    show Go p.tables e below (P10 p0 p1 h0 n0 s) (s₁.setTop (mkF m 10 #[.val (.int p0), .val (.int p1)] [(.int z3)]))
    exact Go.retI X0 hx Bd.returns (hb hby d10_10) Bd.notSynchronized ⟨by rw [r4], N0, e0⟩ (by decide) (by decide)
  have r5 : (if p1 < p0 then p1 else p0) = (if p1 < p0 then p1 else p0) := rfl
  by_cases hc1 : p1 < p0
  · have r6 := r5.trans (if_pos hc1)
    refine Go.back (fun t k => XS.icmpYes X0.here hx rfl (pc0 := 2) (pc' := 9) rfl (hb hby d10_2) rfl (tlt hc1).2.2.1 (by decide) (by decide) k) ?_
    show Go p.tables e below (P10 p0 p1 h0 n0 s) (s₁.setTop (mkF m 9 #[.val (.int p0), .val (.int p1)] []))
    refine Go.back (fun t k => XS.iloadN X0.here hx rfl (hb hby d10_9) rfl  k) ?_
    show Go p.tables e below (P10 p0 p1 h0 n0 s) (s₁.setTop (mkF m 10 #[.val (.int p0), .val (.int p1)] [(.int p1)]))
    exact J2 p1 r6.symm
  · have r7 := r5.trans (if_neg hc1)
    refine Go.back (fun t k => XS.icmpNo X0.here hx rfl (hb hby d10_2) rfl (flt hc1).2.2.1 k) ?_
    show Go p.tables e below (P10 p0 p1 h0 n0 s) (s₁.setTop (mkF m 5 #[.val (.int p0), .val (.int p1)] []))
    refine Go.back (fun t k => XS.iloadN X0.here hx rfl (hb hby d10_5) rfl  k) ?_
    show Go p.tables e below (P10 p0 p1 h0 n0 s) (s₁.setTop (mkF m 6 #[.val (.int p0), .val (.int p1)] [(.int p0)]))
    refine Go.back (fun t k => XS.goto X0.here hx rfl (pc0 := 6) (pc' := 10) rfl (hb hby d10_6) (by decide) (by decide) k) ?_
    show Go p.tables e below (P10 p0 p1 h0 n0 s) (s₁.setTop (mkF m 10 #[.val (.int p0), .val (.int p1)] [(.int p0)]))
    exact J2 p0 r7.symm
theorem d4_0 : decode jdk_42_method_154_code 0 = .ok (.getstatic 38, 3) := by decide +kernel
theorem d4_3 : decode jdk_42_method_154_code 3 = .ok (.ifCond .eq 14, 3) := by decide +kernel
theorem d4_6 : decode jdk_42_method_154_code 6 = .ok (.aload_n 0, 1) := by decide +kernel
theorem d4_7 : decode jdk_42_method_154_code 7 = .ok (.getfield 15, 3) := by decide +kernel
theorem d4_10 : decode jdk_42_method_154_code 10 = .ok (.ifCond .ne 7, 3) := by decide +kernel
theorem d4_13 : decode jdk_42_method_154_code 13 = .ok (.iconst 1, 1) := by decide +kernel
theorem d4_14 : decode jdk_42_method_154_code 14 = .ok (.goto 4, 3) := by decide +kernel
theorem d4_18 : decode jdk_42_method_154_code 18 = .ok (.ireturn, 1) := by decide +kernel
def Q4 (Z : State) (p0 : Addr) (cs : Int32) (h0 : Heap) (n0 : Nat) (v : Option Value) (h : Heap) (L : List Loc) : Prop := v = some (.int (b2i true)) ∧ Fr n0 L ∧ h = h0
abbrev rmm4 : Room := { frames := 0, cells := 0, slots := 0, locals := 0 }
abbrev P4 (Z : State) (p0 : Addr) (cs : Int32) (h0 : Heap) (n0 : Nat) (s : State) : Outcome → State → Prop := fun o U' => ∃ v L, o = .returned v ∧ Q4 Z p0 cs h0 n0 v U'.heap L ∧ FrameEnd s o U' L rmm4.cells rmm4.slots
theorem pn_4 : plainName "java/lang/String" = true := by first | (simp [plainName, overriddenIn]; done) | decide +kernel
theorem ef_4 (m : MethodId) (p0 : Addr) : entryFrame m #[(.ref p0)] 1 = mkF m 0 #[.val (.ref p0)] [] := by first | (simp [entryFrame, mkF, argsToLocals, Value.category]; done) | rfl
set_option maxRecDepth 65536 in
set_option maxHeartbeats 40000000 in
theorem rm4 (l : Launch) (Z : State) (a0 : Array Value) (hw : ∀ d ∈ tables_1, d.before a0 Z = true) (ws : List Jvm.Cond) (p0 : Addr) (cs : Int32) (h0 : Heap) (n0 : Nat) (Z0 : n0 ≤ h0.size) (H0 : Fld Z h0 p0 "java/lang/String" "coder" "B" (.int (0 : Int32))) (H1 : Sta Z h0 "java/lang/String" "COMPACT_STRINGS" "Z" (.int cs)) (hcs : ¬ cs = (0 : Int32)) :
    MetFree l (⟨"java/lang/String", "isLatin1", "()Z"⟩ : MethodName) (head1 (Jvm.Cond.code (⟨"java/lang/String", "isLatin1", "()Z"⟩ : MethodName) jdk_42_method_154_code 1 (some .boolean) :: ws) rmm4) (fun a U => a = #[(.ref p0)] ∧ Z.Warmed39 U.vm ∧ U.heap = h0) (fun _ _ _ _ _ => True) (fun _ U o U' => ∃ v L, o = .returned v ∧ Q4 Z p0 cs h0 n0 v U'.heap L ∧ FrameEnd U o U' L rmm4.cells rmm4.slots) := by
  refine MetFree.of_bodySF (plainFor_of_name pn_4) hisR ?_
  intro p e s m args below meth c s₁ Bd hml0 hP hK
  obtain ⟨rfl, hZ, hh⟩ := hP
  have hx := Bd.exec
  have hby := Bd.bytes
  have hml : c.maxLocals = 1 := hml0
  have hown : s.vm.findClass "java/lang/String" = some m.cls := findClass_of_methodNamed Bd.named
  have hnm := (name_of_methodNamed Bd.named Bd.method).1
  have X0 : Stand p l e rmm4 s m #[(.ref p0)] below meth c s₁ [] 0 0 := Stand.of_body Bd
  have e0 : s₁.heap = h0 := by rw [← hh, Bd.state]; rfl
  have N0 := Fr.nil n0
  show Go p.tables e below (P4 Z p0 cs h0 n0 s) (s₁.setTop (entryFrame m #[(.ref p0)] 1))
  refine Go.back (fun t k => castTop (ef_4 m p0) k) ?_
  show Go p.tables e below (P4 Z p0 cs h0 n0 s) (s₁.setTop (mkF m 0 #[.val (.ref p0)] []))
  obtain ⟨T1, X1, e1, st1⟩ := getS2 X0 hx hZ hown (host := "") (Or.inl (hw _ (List.mem_of_getElem? (i := 27) rfl))) Via.refl e0 H1 (g := (mkF m 0 #[.val (.ref p0)] [])) rfl (hb hby d4_0)
  refine Go.back st1 ?_
  show Go p.tables e below (P4 Z p0 cs h0 n0 s) (T1.setTop (mkF m 3 #[.val (.ref p0)] [(.int cs)]))
  refine Go.back (fun t k => XS.ifNo X1.here hx rfl (hb hby d4_3) rfl ((if0 _ _).trans (feq hcs).1) k) ?_
  show Go p.tables e below (P4 Z p0 cs h0 n0 s) (T1.setTop (mkF m 6 #[.val (.ref p0)] []))
  refine Go.back (fun t k => XS.aloadN X1.here hx rfl (hb hby d4_6) rfl rfl  k) ?_
  show Go p.tables e below (P4 Z p0 cs h0 n0 s) (T1.setTop (mkF m 7 #[.val (.ref p0)] [(.ref p0)]))
  obtain ⟨T2, X2, e2, st2⟩ := getF X1 hx hZ hown (host := "") (Or.inl (hw _ (List.mem_of_getElem? (i := 28) rfl))) Via.refl e1 H0 (g := (mkF m 7 #[.val (.ref p0)] [(.ref p0)])) rfl rfl (hb hby d4_7)
  refine Go.back st2 ?_
  show Go p.tables e below (P4 Z p0 cs h0 n0 s) (T2.setTop (mkF m 10 #[.val (.ref p0)] [(.int (0 : Int32))]))
  refine Go.back (fun t k => XS.ifNo X2.here hx rfl (hb hby d4_10) rfl ((if0 _ _).trans (teq (by decide)).2) k) ?_
  show Go p.tables e below (P4 Z p0 cs h0 n0 s) (T2.setTop (mkF m 13 #[.val (.ref p0)] []))
  refine Go.back (fun t k => XS.iconst X2.here hx rfl (hb hby d4_13) k) ?_
  show Go p.tables e below (P4 Z p0 cs h0 n0 s) (T2.setTop (mkF m 14 #[.val (.ref p0)] [(.int (1 : Int32))]))
  refine Go.back (fun t k => XS.goto X2.here hx rfl (pc0 := 14) (pc' := 18) rfl (hb hby d4_14) (by decide) (by decide) k) ?_
  show Go p.tables e below (P4 Z p0 cs h0 n0 s) (T2.setTop (mkF m 18 #[.val (.ref p0)] [(.int (1 : Int32))]))
  exact Go.retB (b := true) X2 hx Bd.returns (hb hby d4_18) Bd.notSynchronized ⟨(congrArg (fun z => some (Value.int z)) (by decide)), N0, e2⟩ (by decide) (by decide)
theorem d6_0 : decode jdk_42_method_152_code 0 = .ok (.getstatic 38, 3) := by decide +kernel
theorem d6_3 : decode jdk_42_method_152_code 3 = .ok (.ifCond .eq 10, 3) := by decide +kernel
theorem d6_6 : decode jdk_42_method_152_code 6 = .ok (.aload_n 0, 1) := by decide +kernel
theorem d6_7 : decode jdk_42_method_152_code 7 = .ok (.getfield 15, 3) := by decide +kernel
theorem d6_10 : decode jdk_42_method_152_code 10 = .ok (.goto 4, 3) := by decide +kernel
theorem d6_14 : decode jdk_42_method_152_code 14 = .ok (.ireturn, 1) := by decide +kernel
def Q6 (Z : State) (p0 : Addr) (cs : Int32) (h0 : Heap) (n0 : Nat) (v : Option Value) (h : Heap) (L : List Loc) : Prop := v = some (.int (0 : Int32)) ∧ Fr n0 L ∧ h = h0
abbrev rmm6 : Room := { frames := 0, cells := 0, slots := 0, locals := 0 }
abbrev P6 (Z : State) (p0 : Addr) (cs : Int32) (h0 : Heap) (n0 : Nat) (s : State) : Outcome → State → Prop := fun o U' => ∃ v L, o = .returned v ∧ Q6 Z p0 cs h0 n0 v U'.heap L ∧ FrameEnd s o U' L rmm6.cells rmm6.slots
theorem pn_6 : plainName "java/lang/String" = true := by first | (simp [plainName, overriddenIn]; done) | decide +kernel
theorem ef_6 (m : MethodId) (p0 : Addr) : entryFrame m #[(.ref p0)] 1 = mkF m 0 #[.val (.ref p0)] [] := by first | (simp [entryFrame, mkF, argsToLocals, Value.category]; done) | rfl
set_option maxRecDepth 65536 in
set_option maxHeartbeats 40000000 in
theorem rm6 (l : Launch) (Z : State) (a0 : Array Value) (hw : ∀ d ∈ tables_1, d.before a0 Z = true) (ws : List Jvm.Cond) (p0 : Addr) (cs : Int32) (h0 : Heap) (n0 : Nat) (Z0 : n0 ≤ h0.size) (H0 : Fld Z h0 p0 "java/lang/String" "coder" "B" (.int (0 : Int32))) (H1 : Sta Z h0 "java/lang/String" "COMPACT_STRINGS" "Z" (.int cs)) (hcs : ¬ cs = (0 : Int32)) :
    MetFree l (⟨"java/lang/String", "coder", "()B"⟩ : MethodName) (head1 (Jvm.Cond.code (⟨"java/lang/String", "coder", "()B"⟩ : MethodName) jdk_42_method_152_code 1 (some .byte) :: ws) rmm6) (fun a U => a = #[(.ref p0)] ∧ Z.Warmed39 U.vm ∧ U.heap = h0) (fun _ _ _ _ _ => True) (fun _ U o U' => ∃ v L, o = .returned v ∧ Q6 Z p0 cs h0 n0 v U'.heap L ∧ FrameEnd U o U' L rmm6.cells rmm6.slots) := by
  refine MetFree.of_bodySF (plainFor_of_name pn_6) hisR ?_
  intro p e s m args below meth c s₁ Bd hml0 hP hK
  obtain ⟨rfl, hZ, hh⟩ := hP
  have hx := Bd.exec
  have hby := Bd.bytes
  have hml : c.maxLocals = 1 := hml0
  have hown : s.vm.findClass "java/lang/String" = some m.cls := findClass_of_methodNamed Bd.named
  have hnm := (name_of_methodNamed Bd.named Bd.method).1
  have X0 : Stand p l e rmm6 s m #[(.ref p0)] below meth c s₁ [] 0 0 := Stand.of_body Bd
  have e0 : s₁.heap = h0 := by rw [← hh, Bd.state]; rfl
  have N0 := Fr.nil n0
  show Go p.tables e below (P6 Z p0 cs h0 n0 s) (s₁.setTop (entryFrame m #[(.ref p0)] 1))
  refine Go.back (fun t k => castTop (ef_6 m p0) k) ?_
  show Go p.tables e below (P6 Z p0 cs h0 n0 s) (s₁.setTop (mkF m 0 #[.val (.ref p0)] []))
  obtain ⟨T1, X1, e1, st1⟩ := getS2 X0 hx hZ hown (host := "") (Or.inl (hw _ (List.mem_of_getElem? (i := 27) rfl))) Via.refl e0 H1 (g := (mkF m 0 #[.val (.ref p0)] [])) rfl (hb hby d6_0)
  refine Go.back st1 ?_
  show Go p.tables e below (P6 Z p0 cs h0 n0 s) (T1.setTop (mkF m 3 #[.val (.ref p0)] [(.int cs)]))
  refine Go.back (fun t k => XS.ifNo X1.here hx rfl (hb hby d6_3) rfl ((if0 _ _).trans (feq hcs).1) k) ?_
  show Go p.tables e below (P6 Z p0 cs h0 n0 s) (T1.setTop (mkF m 6 #[.val (.ref p0)] []))
  refine Go.back (fun t k => XS.aloadN X1.here hx rfl (hb hby d6_6) rfl rfl  k) ?_
  show Go p.tables e below (P6 Z p0 cs h0 n0 s) (T1.setTop (mkF m 7 #[.val (.ref p0)] [(.ref p0)]))
  obtain ⟨T2, X2, e2, st2⟩ := getF X1 hx hZ hown (host := "") (Or.inl (hw _ (List.mem_of_getElem? (i := 28) rfl))) Via.refl e1 H0 (g := (mkF m 7 #[.val (.ref p0)] [(.ref p0)])) rfl rfl (hb hby d6_7)
  refine Go.back st2 ?_
  show Go p.tables e below (P6 Z p0 cs h0 n0 s) (T2.setTop (mkF m 10 #[.val (.ref p0)] [(.int (0 : Int32))]))
  refine Go.back (fun t k => XS.goto X2.here hx rfl (pc0 := 10) (pc' := 14) rfl (hb hby d6_10) (by decide) (by decide) k) ?_
  show Go p.tables e below (P6 Z p0 cs h0 n0 s) (T2.setTop (mkF m 14 #[.val (.ref p0)] [(.int (0 : Int32))]))
  exact Go.retN (t := .byte) X2 hx Bd.returns (by simp) (hb hby d6_14) Bd.notSynchronized ⟨(congrArg (fun z => some (Value.int z)) (by decide)), N0, e2⟩ (by decide) (by decide)
theorem d5_0 : decode jdk_42_method_54_code 0 = .ok (.aload_n 0, 1) := by decide +kernel
theorem d5_1 : decode jdk_42_method_54_code 1 = .ok (.getfield 9, 3) := by decide +kernel
theorem d5_4 : decode jdk_42_method_54_code 4 = .ok (.arraylength, 1) := by decide +kernel
theorem d5_5 : decode jdk_42_method_54_code 5 = .ok (.aload_n 0, 1) := by decide +kernel
theorem d5_6 : decode jdk_42_method_54_code 6 = .ok (.invokevirtual 335, 3) := by decide +kernel
theorem d5_9 : decode jdk_42_method_54_code 9 = .ok (.ishr, 1) := by decide +kernel
theorem d5_10 : decode jdk_42_method_54_code 10 = .ok (.ireturn, 1) := by decide +kernel
def Q5 (Z : State) (p0 : Addr) (vb : Addr) (cs : Int32) (h0 : Heap) (n0 : Nat) (v : Option Value) (h : Heap) (L : List Loc) : Prop := v = some (.int (15 : Int32)) ∧ Fr n0 L ∧ h = h0
abbrev rmm5 : Room := { frames := 1, cells := 0, slots := 0, locals := 13 }
abbrev P5 (Z : State) (p0 : Addr) (vb : Addr) (cs : Int32) (h0 : Heap) (n0 : Nat) (s : State) : Outcome → State → Prop := fun o U' => ∃ v L, o = .returned v ∧ Q5 Z p0 vb cs h0 n0 v U'.heap L ∧ FrameEnd s o U' L rmm5.cells rmm5.slots
theorem pn_5 : plainName "java/lang/String" = true := by first | (simp [plainName, overriddenIn]; done) | decide +kernel
theorem ef_5 (m : MethodId) (p0 : Addr) : entryFrame m #[(.ref p0)] 1 = mkF m 0 #[.val (.ref p0)] [] := by first | (simp [entryFrame, mkF, argsToLocals, Value.category]; done) | rfl
set_option maxRecDepth 65536 in
set_option maxHeartbeats 40000000 in
theorem rm5 (l : Launch) (Z : State) (a0 : Array Value) (hw : ∀ d ∈ tables_1, d.before a0 Z = true) (ws : List Jvm.Cond) (p0 : Addr) (vb : Addr) (cs : Int32) (h0 : Heap) (n0 : Nat) (Z0 : n0 ≤ h0.size) (H0 : Exa Z h0 p0 "java/lang/String") (H1 : Fld Z h0 p0 "java/lang/String" "coder" "B" (.int (0 : Int32))) (H2 : Fld Z h0 p0 "java/lang/String" "value" "[B" (.ref vb)) (H3 : ArL Z h0 vb .byte [(.int (33 : Int32)), (.int (35 : Int32)), (.int (36 : Int32)), (.int (37 : Int32)), (.int (38 : Int32)), (.int (39 : Int32)), (.int (42 : Int32)), (.int (43 : Int32)), (.int (45 : Int32)), (.int (46 : Int32)), (.int (94 : Int32)), (.int (95 : Int32)), (.int (96 : Int32)), (.int (124 : Int32)), (.int (126 : Int32))]) (H4 : Sta Z h0 "java/lang/String" "COMPACT_STRINGS" "Z" (.int cs)) (hcs : ¬ cs = (0 : Int32)) :
    MetFree l (⟨"java/lang/String", "length", "()I"⟩ : MethodName) (head1 (Jvm.Cond.code (⟨"java/lang/String", "length", "()I"⟩ : MethodName) jdk_42_method_54_code 1 (some .int) :: ws) rmm5) (fun a U => a = #[(.ref p0)] ∧ Z.Warmed39 U.vm ∧ U.heap = h0) (fun _ _ _ _ _ => True) (fun _ U o U' => ∃ v L, o = .returned v ∧ Q5 Z p0 vb cs h0 n0 v U'.heap L ∧ FrameEnd U o U' L rmm5.cells rmm5.slots) := by
  refine MetFree.of_bodySF (plainFor_of_name pn_5) hisR ?_
  intro p e s m args below meth c s₁ Bd hml0 hP hK
  obtain ⟨rfl, hZ, hh⟩ := hP
  have hx := Bd.exec
  have hby := Bd.bytes
  have hml : c.maxLocals = 1 := hml0
  have hown : s.vm.findClass "java/lang/String" = some m.cls := findClass_of_methodNamed Bd.named
  have hnm := (name_of_methodNamed Bd.named Bd.method).1
  have X0 : Stand p l e rmm5 s m #[(.ref p0)] below meth c s₁ [] 0 0 := Stand.of_body Bd
  have e0 : s₁.heap = h0 := by rw [← hh, Bd.state]; rfl
  have N0 := Fr.nil n0
  show Go p.tables e below (P5 Z p0 vb cs h0 n0 s) (s₁.setTop (entryFrame m #[(.ref p0)] 1))
  refine Go.back (fun t k => castTop (ef_5 m p0) k) ?_
  show Go p.tables e below (P5 Z p0 vb cs h0 n0 s) (s₁.setTop (mkF m 0 #[.val (.ref p0)] []))
  refine Go.back (fun t k => XS.aloadN X0.here hx rfl (hb hby d5_0) rfl rfl  k) ?_
  show Go p.tables e below (P5 Z p0 vb cs h0 n0 s) (s₁.setTop (mkF m 1 #[.val (.ref p0)] [(.ref p0)]))
  obtain ⟨T1, X1, e1, st1⟩ := getF X0 hx hZ hown (host := "") (Or.inl (hw _ (List.mem_of_getElem? (i := 29) rfl))) Via.refl e0 H2 (g := (mkF m 1 #[.val (.ref p0)] [(.ref p0)])) rfl rfl (hb hby d5_1)
  refine Go.back st1 ?_
  show Go p.tables e below (P5 Z p0 vb cs h0 n0 s) (T1.setTop (mkF m 4 #[.val (.ref p0)] [(.ref vb)]))
  obtain ⟨cl2, Ar2, S2⟩ := H3.len
  refine Go.back (fun t k => X1.arraylength hx (by rw [e1]; exact Ar2.1) (State.isArrayOf_alike hZ.alike Ar2.2.1) (g := (mkF m 4 #[.val (.ref p0)] [(.ref vb)])) rfl rfl (hb hby d5_4) t k) ?_
  rw [S2]
  show Go p.tables e below (P5 Z p0 vb cs h0 n0 s) (T1.setTop (mkF m 5 #[.val (.ref p0)] [(.int (15 : Int32))]))
  refine Go.back (fun t k => XS.aloadN X1.here hx rfl (hb hby d5_5) rfl rfl  k) ?_
  show Go p.tables e below (P5 Z p0 vb cs h0 n0 s) (T1.setTop (mkF m 6 #[.val (.ref p0)] [(.ref p0), (.int (15 : Int32))]))
  obtain ⟨cq3, kq3, q3a, q3b, q3c⟩ := isOf hZ e1 H0
  obtain ⟨_, _, ⟨T3, L3, k3, n3⟩, -, X3, ⟨Lc3, hQ3, l3, y3, z3⟩, st3⟩ := X1.virtualBack hx (y := (⟨"java/lang/String", "coder", "()B"⟩ : MethodName)) (z := (⟨"java/lang/String", "coder", "()B"⟩ : MethodName)) hown (mvT hZ (hw _ (List.mem_of_getElem? (i := 35) rfl))) (mvT hZ (hw _ (List.mem_of_getElem? (i := 36) rfl))) (notFace_of_selects (args := #[]) (mvT hZ (hw _ (List.mem_of_getElem? (i := 38) rfl)))) (mvT hZ (hw _ (List.mem_of_getElem? (i := 38) rfl))) (mvT hZ (hw _ (List.mem_of_getElem? (i := 37) rfl))) (by decide) (backOf (W := 1) (rm6 l Z a0 hw [] p0 cs h0 n0 Z0 H1 H4 hcs) hZ (hw _ (List.mem_of_getElem? (i := 39) rfl)) (hw _ (List.mem_of_getElem? (i := 5) rfl)) (by decide) (by decide)) q3a q3c (g := (mkF m 6 #[.val (.ref p0)] [(.ref p0), (.int (15 : Int32))])) rfl (by rw [hml]; rfl) (Steps.refl _) (argsL := []) (rest := [(.int (15 : Int32))]) (lenOf pd_1 rfl) rfl (by show 2 * 0 + _ ≤ _; exact Nat.le_of_eq rfl) (hb hby d5_6) (fun _ _ => ⟨rfl, e1, (by decide : 0 + 0 ≤ _), (by decide : 0 + 0 ≤ _)⟩)
  dsimp only [Pt.U, Pt.locs, Pt.cells, Pt.slots] at X3 l3 y3 z3 st3 hQ3
  subst l3 y3 z3
  obtain ⟨rfl, N3q, e3⟩ := hQ3
  obtain ⟨Lo3, Y3, N3⟩ := pk X3 (Fr.app N0 N3q)
  refine Go.trans st3 ?_
  show Go p.tables e below (P5 Z p0 vb cs h0 n0 s) (T3.setTop (mkF m 9 #[.val (.ref p0)] [(.int (0 : Int32)), (.int (15 : Int32))]))
  refine Go.back (fun t k => XS.ishr Y3.here hx rfl (hb hby d5_9) rfl k) ?_
  show Go p.tables e below (P5 Z p0 vb cs h0 n0 s) (T3.setTop (mkF m 10 #[.val (.ref p0)] [(.int (((15 : Int32) >>> ((0 : Int32) &&& 31))))]))
  exact Go.retI Y3 hx Bd.returns (hb hby d5_10) Bd.notSynchronized ⟨(congrArg (fun z => some (Value.int z)) (by decide)), N3, e3⟩ (by decide) (by decide)
theorem d11_0 : decode jdk_43_method_23_code 0 = .ok (.iload_n 1, 1) := by decide +kernel
theorem d11_1 : decode jdk_43_method_23_code 1 = .ok (.i2b, 1) := by decide +kernel
theorem d11_2 : decode jdk_43_method_23_code 2 = .ok (.istore 4, 2) := by decide +kernel
theorem d11_4 : decode jdk_43_method_23_code 4 = .ok (.iload_n 2, 1) := by decide +kernel
theorem d11_5 : decode jdk_43_method_23_code 5 = .ok (.istore 5, 2) := by decide +kernel
theorem d11_7 : decode jdk_43_method_23_code 7 = .ok (.iload 5, 2) := by decide +kernel
theorem d11_9 : decode jdk_43_method_23_code 9 = .ok (.iload_n 3, 1) := by decide +kernel
theorem d11_10 : decode jdk_43_method_23_code 10 = .ok (.if_icmp .ge 21, 3) := by decide +kernel
theorem d11_13 : decode jdk_43_method_23_code 13 = .ok (.aload_n 0, 1) := by decide +kernel
theorem d11_14 : decode jdk_43_method_23_code 14 = .ok (.iload 5, 2) := by decide +kernel
theorem d11_16 : decode jdk_43_method_23_code 16 = .ok (.baload, 1) := by decide +kernel
theorem d11_17 : decode jdk_43_method_23_code 17 = .ok (.iload 4, 2) := by decide +kernel
theorem d11_19 : decode jdk_43_method_23_code 19 = .ok (.if_icmp .ne 6, 3) := by decide +kernel
theorem d11_22 : decode jdk_43_method_23_code 22 = .ok (.iload 5, 2) := by decide +kernel
theorem d11_24 : decode jdk_43_method_23_code 24 = .ok (.ireturn, 1) := by decide +kernel
theorem d11_25 : decode jdk_43_method_23_code 25 = .ok (.iinc 5 1, 3) := by decide +kernel
theorem d11_28 : decode jdk_43_method_23_code 28 = .ok (.goto (-21), 3) := by decide +kernel
theorem d11_31 : decode jdk_43_method_23_code 31 = .ok (.iconst (-1), 1) := by decide +kernel
theorem d11_32 : decode jdk_43_method_23_code 32 = .ok (.ireturn, 1) := by decide +kernel
def f11 (p1 : Int32) : Int32 := (if (33 : Int32) = ((p1).toInt8.toInt32) then (0 : Int32) else (if (35 : Int32) = ((p1).toInt8.toInt32) then (1 : Int32) else (if (36 : Int32) = ((p1).toInt8.toInt32) then (2 : Int32) else (if (37 : Int32) = ((p1).toInt8.toInt32) then (3 : Int32) else (if (38 : Int32) = ((p1).toInt8.toInt32) then (4 : Int32) else (if (39 : Int32) = ((p1).toInt8.toInt32) then (5 : Int32) else (if (42 : Int32) = ((p1).toInt8.toInt32) then (6 : Int32) else (if (43 : Int32) = ((p1).toInt8.toInt32) then (7 : Int32) else (if (45 : Int32) = ((p1).toInt8.toInt32) then (8 : Int32) else (if (46 : Int32) = ((p1).toInt8.toInt32) then (9 : Int32) else (if (94 : Int32) = ((p1).toInt8.toInt32) then (10 : Int32) else (if (95 : Int32) = ((p1).toInt8.toInt32) then (11 : Int32) else (if (96 : Int32) = ((p1).toInt8.toInt32) then (12 : Int32) else (if (124 : Int32) = ((p1).toInt8.toInt32) then (13 : Int32) else (if (126 : Int32) = ((p1).toInt8.toInt32) then (14 : Int32) else (-1 : Int32))))))))))))))))
def Q11 (Z : State) (p0 : Addr) (p1 : Int32) (h0 : Heap) (n0 : Nat) (v : Option Value) (h : Heap) (L : List Loc) : Prop := v = some (.int (f11 p1)) ∧ Fr n0 L ∧ h = h0
abbrev rmm11 : Room := { frames := 0, cells := 0, slots := 0, locals := 0 }
abbrev P11 (Z : State) (p0 : Addr) (p1 : Int32) (h0 : Heap) (n0 : Nat) (s : State) : Outcome → State → Prop := fun o U' => ∃ v L, o = .returned v ∧ Q11 Z p0 p1 h0 n0 v U'.heap L ∧ FrameEnd s o U' L rmm11.cells rmm11.slots
theorem pn_11 : plainName "java/lang/StringLatin1" = true := by first | (simp [plainName, overriddenIn]; done) | decide +kernel
theorem ef_11 (m : MethodId) (p0 : Addr) (p1 : Int32) : entryFrame m #[(.ref p0), (.int p1), (.int (0 : Int32)), (.int (15 : Int32))] 6 = mkF m 0 #[.val (.ref p0), .val (.int p1), .val (.int (0 : Int32)), .val (.int (15 : Int32)), .unset, .unset] [] := by first | (simp [entryFrame, mkF, argsToLocals, Value.category]; done) | rfl
set_option maxRecDepth 65536 in
set_option maxHeartbeats 40000000 in
theorem rm11 (l : Launch) (Z : State) (a0 : Array Value) (hw : ∀ d ∈ tables_1, d.before a0 Z = true) (ws : List Jvm.Cond) (p0 : Addr) (p1 : Int32) (h0 : Heap) (n0 : Nat) (Z0 : n0 ≤ h0.size) (H0 : ArL Z h0 p0 .byte [(.int (33 : Int32)), (.int (35 : Int32)), (.int (36 : Int32)), (.int (37 : Int32)), (.int (38 : Int32)), (.int (39 : Int32)), (.int (42 : Int32)), (.int (43 : Int32)), (.int (45 : Int32)), (.int (46 : Int32)), (.int (94 : Int32)), (.int (95 : Int32)), (.int (96 : Int32)), (.int (124 : Int32)), (.int (126 : Int32))]) :
    MetFree l (⟨"java/lang/StringLatin1", "indexOfChar", "([BIII)I"⟩ : MethodName) (head1 (Jvm.Cond.code (⟨"java/lang/StringLatin1", "indexOfChar", "([BIII)I"⟩ : MethodName) jdk_43_method_23_code 6 (some .int) :: ws) rmm11) (fun a U => a = #[(.ref p0), (.int p1), (.int (0 : Int32)), (.int (15 : Int32))] ∧ Z.Warmed39 U.vm ∧ U.heap = h0) (fun _ _ _ _ _ => True) (fun _ U o U' => ∃ v L, o = .returned v ∧ Q11 Z p0 p1 h0 n0 v U'.heap L ∧ FrameEnd U o U' L rmm11.cells rmm11.slots) := by
  refine MetFree.of_bodySF (plainFor_of_name pn_11) hisR ?_
  intro p e s m args below meth c s₁ Bd hml0 hP hK
  obtain ⟨rfl, hZ, hh⟩ := hP
  have hx := Bd.exec
  have hby := Bd.bytes
  have hml : c.maxLocals = 6 := hml0
  have hown : s.vm.findClass "java/lang/StringLatin1" = some m.cls := findClass_of_methodNamed Bd.named
  have hnm := (name_of_methodNamed Bd.named Bd.method).1
  have X0 : Stand p l e rmm11 s m #[(.ref p0), (.int p1), (.int (0 : Int32)), (.int (15 : Int32))] below meth c s₁ [] 0 0 := Stand.of_body Bd
  have e0 : s₁.heap = h0 := by rw [← hh, Bd.state]; rfl
  have N0 := Fr.nil n0
  show Go p.tables e below (P11 Z p0 p1 h0 n0 s) (s₁.setTop (entryFrame m #[(.ref p0), (.int p1), (.int (0 : Int32)), (.int (15 : Int32))] 6))
  refine Go.back (fun t k => castTop (ef_11 m p0 p1) k) ?_
  show Go p.tables e below (P11 Z p0 p1 h0 n0 s) (s₁.setTop (mkF m 0 #[.val (.ref p0), .val (.int p1), .val (.int (0 : Int32)), .val (.int (15 : Int32)), .unset, .unset] []))
  have hf0 : f11 p1 = (if (33 : Int32) = ((p1).toInt8.toInt32) then (0 : Int32) else (if (35 : Int32) = ((p1).toInt8.toInt32) then (1 : Int32) else (if (36 : Int32) = ((p1).toInt8.toInt32) then (2 : Int32) else (if (37 : Int32) = ((p1).toInt8.toInt32) then (3 : Int32) else (if (38 : Int32) = ((p1).toInt8.toInt32) then (4 : Int32) else (if (39 : Int32) = ((p1).toInt8.toInt32) then (5 : Int32) else (if (42 : Int32) = ((p1).toInt8.toInt32) then (6 : Int32) else (if (43 : Int32) = ((p1).toInt8.toInt32) then (7 : Int32) else (if (45 : Int32) = ((p1).toInt8.toInt32) then (8 : Int32) else (if (46 : Int32) = ((p1).toInt8.toInt32) then (9 : Int32) else (if (94 : Int32) = ((p1).toInt8.toInt32) then (10 : Int32) else (if (95 : Int32) = ((p1).toInt8.toInt32) then (11 : Int32) else (if (96 : Int32) = ((p1).toInt8.toInt32) then (12 : Int32) else (if (124 : Int32) = ((p1).toInt8.toInt32) then (13 : Int32) else (if (126 : Int32) = ((p1).toInt8.toInt32) then (14 : Int32) else (-1 : Int32)))))))))))))))) := rfl
  refine Go.back (fun t k => XS.iloadN X0.here hx rfl (hb hby d11_0) rfl  k) ?_
  show Go p.tables e below (P11 Z p0 p1 h0 n0 s) (s₁.setTop (mkF m 1 #[.val (.ref p0), .val (.int p1), .val (.int (0 : Int32)), .val (.int (15 : Int32)), .unset, .unset] [(.int p1)]))
  refine Go.back (fun t k => XS.i2b X0.here hx rfl (hb hby d11_1) rfl k) ?_
  show Go p.tables e below (P11 Z p0 p1 h0 n0 s) (s₁.setTop (mkF m 2 #[.val (.ref p0), .val (.int p1), .val (.int (0 : Int32)), .val (.int (15 : Int32)), .unset, .unset] [(.int ((p1).toInt8.toInt32))]))
  refine Go.back (fun t k => XS.istore X0.here hx rfl (hb hby d11_2) rfl (l' := #[.val (.ref p0), .val (.int p1), .val (.int (0 : Int32)), .val (.int (15 : Int32)), .val (.int ((p1).toInt8.toInt32)), .unset]) rfl k) ?_
  show Go p.tables e below (P11 Z p0 p1 h0 n0 s) (s₁.setTop (mkF m 4 #[.val (.ref p0), .val (.int p1), .val (.int (0 : Int32)), .val (.int (15 : Int32)), .val (.int ((p1).toInt8.toInt32)), .unset] []))
  refine Go.back (fun t k => XS.iloadN X0.here hx rfl (hb hby d11_4) rfl  k) ?_
  show Go p.tables e below (P11 Z p0 p1 h0 n0 s) (s₁.setTop (mkF m 5 #[.val (.ref p0), .val (.int p1), .val (.int (0 : Int32)), .val (.int (15 : Int32)), .val (.int ((p1).toInt8.toInt32)), .unset] [(.int (0 : Int32))]))
  refine Go.back (fun t k => XS.istore X0.here hx rfl (hb hby d11_5) rfl (l' := #[.val (.ref p0), .val (.int p1), .val (.int (0 : Int32)), .val (.int (15 : Int32)), .val (.int ((p1).toInt8.toInt32)), .val (.int (0 : Int32))]) rfl k) ?_
  show Go p.tables e below (P11 Z p0 p1 h0 n0 s) (s₁.setTop (mkF m 7 #[.val (.ref p0), .val (.int p1), .val (.int (0 : Int32)), .val (.int (15 : Int32)), .val (.int ((p1).toInt8.toInt32)), .val (.int (0 : Int32))] []))
  refine Go.back (fun t k => XS.iload X0.here hx rfl (hb hby d11_7) rfl  k) ?_
  show Go p.tables e below (P11 Z p0 p1 h0 n0 s) (s₁.setTop (mkF m 9 #[.val (.ref p0), .val (.int p1), .val (.int (0 : Int32)), .val (.int (15 : Int32)), .val (.int ((p1).toInt8.toInt32)), .val (.int (0 : Int32))] [(.int (0 : Int32))]))
  refine Go.back (fun t k => XS.iloadN X0.here hx rfl (hb hby d11_9) rfl  k) ?_
  show Go p.tables e below (P11 Z p0 p1 h0 n0 s) (s₁.setTop (mkF m 10 #[.val (.ref p0), .val (.int p1), .val (.int (0 : Int32)), .val (.int (15 : Int32)), .val (.int ((p1).toInt8.toInt32)), .val (.int (0 : Int32))] [(.int (15 : Int32)), (.int (0 : Int32))]))
  refine Go.back (fun t k => XS.icmpNo X0.here hx rfl (hb hby d11_10) rfl (tlt (by decide)).2.1 k) ?_
  show Go p.tables e below (P11 Z p0 p1 h0 n0 s) (s₁.setTop (mkF m 13 #[.val (.ref p0), .val (.int p1), .val (.int (0 : Int32)), .val (.int (15 : Int32)), .val (.int ((p1).toInt8.toInt32)), .val (.int (0 : Int32))] []))
  refine Go.back (fun t k => XS.aloadN X0.here hx rfl (hb hby d11_13) rfl rfl  k) ?_
  show Go p.tables e below (P11 Z p0 p1 h0 n0 s) (s₁.setTop (mkF m 14 #[.val (.ref p0), .val (.int p1), .val (.int (0 : Int32)), .val (.int (15 : Int32)), .val (.int ((p1).toInt8.toInt32)), .val (.int (0 : Int32))] [(.ref p0)]))
  refine Go.back (fun t k => XS.iload X0.here hx rfl (hb hby d11_14) rfl  k) ?_
  show Go p.tables e below (P11 Z p0 p1 h0 n0 s) (s₁.setTop (mkF m 16 #[.val (.ref p0), .val (.int p1), .val (.int (0 : Int32)), .val (.int (15 : Int32)), .val (.int ((p1).toInt8.toInt32)), .val (.int (0 : Int32))] [(.int (0 : Int32)), (.ref p0)]))
  obtain ⟨cl1, Ar1, hi1, ha1⟩ := H0.get (j := (0 : Int32)) (by decide) (v := (.int (33 : Int32))) rfl
  refine Go.back (fun t k => X0.baloadBytes hx (j := (0 : Int32)) (v := (.int (33 : Int32))) (by rw [e0]; exact Ar1.1) (State.isArrayOf_alike hZ.alike Ar1.2.1) Ar1.2.2 hi1 ha1 (g := (mkF m 16 #[.val (.ref p0), .val (.int p1), .val (.int (0 : Int32)), .val (.int (15 : Int32)), .val (.int ((p1).toInt8.toInt32)), .val (.int (0 : Int32))] [(.int (0 : Int32)), (.ref p0)])) rfl rfl (hb hby d11_16) t k) ?_
  show Go p.tables e below (P11 Z p0 p1 h0 n0 s) (s₁.setTop (mkF m 17 #[.val (.ref p0), .val (.int p1), .val (.int (0 : Int32)), .val (.int (15 : Int32)), .val (.int ((p1).toInt8.toInt32)), .val (.int (0 : Int32))] [(.int (33 : Int32))]))
  refine Go.back (fun t k => XS.iload X0.here hx rfl (hb hby d11_17) rfl  k) ?_
  show Go p.tables e below (P11 Z p0 p1 h0 n0 s) (s₁.setTop (mkF m 19 #[.val (.ref p0), .val (.int p1), .val (.int (0 : Int32)), .val (.int (15 : Int32)), .val (.int ((p1).toInt8.toInt32)), .val (.int (0 : Int32))] [(.int ((p1).toInt8.toInt32)), (.int (33 : Int32))]))
  by_cases hc2 : (33 : Int32) = ((p1).toInt8.toInt32)
  · have r3 := hf0.trans (if_pos hc2)
    refine Go.back (fun t k => XS.icmpNo X0.here hx rfl (hb hby d11_19) rfl (teq hc2).2 k) ?_
    show Go p.tables e below (P11 Z p0 p1 h0 n0 s) (s₁.setTop (mkF m 22 #[.val (.ref p0), .val (.int p1), .val (.int (0 : Int32)), .val (.int (15 : Int32)), .val (.int ((p1).toInt8.toInt32)), .val (.int (0 : Int32))] []))
    refine Go.back (fun t k => XS.iload X0.here hx rfl (hb hby d11_22) rfl  k) ?_
    show Go p.tables e below (P11 Z p0 p1 h0 n0 s) (s₁.setTop (mkF m 24 #[.val (.ref p0), .val (.int p1), .val (.int (0 : Int32)), .val (.int (15 : Int32)), .val (.int ((p1).toInt8.toInt32)), .val (.int (0 : Int32))] [(.int (0 : Int32))]))
    exact Go.retI X0 hx Bd.returns (hb hby d11_24) Bd.notSynchronized ⟨by rw [r3], N0, e0⟩ (by decide) (by decide)
  · have r4 := hf0.trans (if_neg hc2)
    refine Go.back (fun t k => XS.icmpYes X0.here hx rfl (pc0 := 19) (pc' := 25) rfl (hb hby d11_19) rfl (feq hc2).2 (by decide) (by decide) k) ?_
    show Go p.tables e below (P11 Z p0 p1 h0 n0 s) (s₁.setTop (mkF m 25 #[.val (.ref p0), .val (.int p1), .val (.int (0 : Int32)), .val (.int (15 : Int32)), .val (.int ((p1).toInt8.toInt32)), .val (.int (0 : Int32))] []))
    refine Go.back (fun t k => XS.iinc X0.here hx rfl (hb hby d11_25) rfl (l' := #[.val (.ref p0), .val (.int p1), .val (.int (0 : Int32)), .val (.int (15 : Int32)), .val (.int ((p1).toInt8.toInt32)), .val (.int ((0 : Int32) + (1 : Int32)))]) rfl k) ?_
    show Go p.tables e below (P11 Z p0 p1 h0 n0 s) (s₁.setTop (mkF m 28 #[.val (.ref p0), .val (.int p1), .val (.int (0 : Int32)), .val (.int (15 : Int32)), .val (.int ((p1).toInt8.toInt32)), .val (.int ((0 : Int32) + (1 : Int32)))] []))
    refine Go.back (fun t k => XS.goto X0.here hx rfl (pc0 := 28) (pc' := 7) rfl (hb hby d11_28) (by decide) (by decide) k) ?_
    show Go p.tables e below (P11 Z p0 p1 h0 n0 s) (s₁.setTop (mkF m 7 #[.val (.ref p0), .val (.int p1), .val (.int (0 : Int32)), .val (.int (15 : Int32)), .val (.int ((p1).toInt8.toInt32)), .val (.int ((0 : Int32) + (1 : Int32)))] []))
    rw [show ((0 : Int32) + (1 : Int32)) = (1 : Int32) from by decide]
    refine Go.back (fun t k => XS.iload X0.here hx rfl (hb hby d11_7) rfl  k) ?_
    show Go p.tables e below (P11 Z p0 p1 h0 n0 s) (s₁.setTop (mkF m 9 #[.val (.ref p0), .val (.int p1), .val (.int (0 : Int32)), .val (.int (15 : Int32)), .val (.int ((p1).toInt8.toInt32)), .val (.int (1 : Int32))] [(.int (1 : Int32))]))
    refine Go.back (fun t k => XS.iloadN X0.here hx rfl (hb hby d11_9) rfl  k) ?_
    show Go p.tables e below (P11 Z p0 p1 h0 n0 s) (s₁.setTop (mkF m 10 #[.val (.ref p0), .val (.int p1), .val (.int (0 : Int32)), .val (.int (15 : Int32)), .val (.int ((p1).toInt8.toInt32)), .val (.int (1 : Int32))] [(.int (15 : Int32)), (.int (1 : Int32))]))
    refine Go.back (fun t k => XS.icmpNo X0.here hx rfl (hb hby d11_10) rfl (tlt (by decide)).2.1 k) ?_
    show Go p.tables e below (P11 Z p0 p1 h0 n0 s) (s₁.setTop (mkF m 13 #[.val (.ref p0), .val (.int p1), .val (.int (0 : Int32)), .val (.int (15 : Int32)), .val (.int ((p1).toInt8.toInt32)), .val (.int (1 : Int32))] []))
    refine Go.back (fun t k => XS.aloadN X0.here hx rfl (hb hby d11_13) rfl rfl  k) ?_
    show Go p.tables e below (P11 Z p0 p1 h0 n0 s) (s₁.setTop (mkF m 14 #[.val (.ref p0), .val (.int p1), .val (.int (0 : Int32)), .val (.int (15 : Int32)), .val (.int ((p1).toInt8.toInt32)), .val (.int (1 : Int32))] [(.ref p0)]))
    refine Go.back (fun t k => XS.iload X0.here hx rfl (hb hby d11_14) rfl  k) ?_
    show Go p.tables e below (P11 Z p0 p1 h0 n0 s) (s₁.setTop (mkF m 16 #[.val (.ref p0), .val (.int p1), .val (.int (0 : Int32)), .val (.int (15 : Int32)), .val (.int ((p1).toInt8.toInt32)), .val (.int (1 : Int32))] [(.int (1 : Int32)), (.ref p0)]))
    obtain ⟨cl5, Ar5, hi5, ha5⟩ := H0.get (j := (1 : Int32)) (by decide) (v := (.int (35 : Int32))) rfl
    refine Go.back (fun t k => X0.baloadBytes hx (j := (1 : Int32)) (v := (.int (35 : Int32))) (by rw [e0]; exact Ar5.1) (State.isArrayOf_alike hZ.alike Ar5.2.1) Ar5.2.2 hi5 ha5 (g := (mkF m 16 #[.val (.ref p0), .val (.int p1), .val (.int (0 : Int32)), .val (.int (15 : Int32)), .val (.int ((p1).toInt8.toInt32)), .val (.int (1 : Int32))] [(.int (1 : Int32)), (.ref p0)])) rfl rfl (hb hby d11_16) t k) ?_
    show Go p.tables e below (P11 Z p0 p1 h0 n0 s) (s₁.setTop (mkF m 17 #[.val (.ref p0), .val (.int p1), .val (.int (0 : Int32)), .val (.int (15 : Int32)), .val (.int ((p1).toInt8.toInt32)), .val (.int (1 : Int32))] [(.int (35 : Int32))]))
    refine Go.back (fun t k => XS.iload X0.here hx rfl (hb hby d11_17) rfl  k) ?_
    show Go p.tables e below (P11 Z p0 p1 h0 n0 s) (s₁.setTop (mkF m 19 #[.val (.ref p0), .val (.int p1), .val (.int (0 : Int32)), .val (.int (15 : Int32)), .val (.int ((p1).toInt8.toInt32)), .val (.int (1 : Int32))] [(.int ((p1).toInt8.toInt32)), (.int (35 : Int32))]))
    by_cases hc6 : (35 : Int32) = ((p1).toInt8.toInt32)
    · have r7 := r4.trans (if_pos hc6)
      refine Go.back (fun t k => XS.icmpNo X0.here hx rfl (hb hby d11_19) rfl (teq hc6).2 k) ?_
      show Go p.tables e below (P11 Z p0 p1 h0 n0 s) (s₁.setTop (mkF m 22 #[.val (.ref p0), .val (.int p1), .val (.int (0 : Int32)), .val (.int (15 : Int32)), .val (.int ((p1).toInt8.toInt32)), .val (.int (1 : Int32))] []))
      refine Go.back (fun t k => XS.iload X0.here hx rfl (hb hby d11_22) rfl  k) ?_
      show Go p.tables e below (P11 Z p0 p1 h0 n0 s) (s₁.setTop (mkF m 24 #[.val (.ref p0), .val (.int p1), .val (.int (0 : Int32)), .val (.int (15 : Int32)), .val (.int ((p1).toInt8.toInt32)), .val (.int (1 : Int32))] [(.int (1 : Int32))]))
      exact Go.retI X0 hx Bd.returns (hb hby d11_24) Bd.notSynchronized ⟨by rw [r7], N0, e0⟩ (by decide) (by decide)
    · have r8 := r4.trans (if_neg hc6)
      refine Go.back (fun t k => XS.icmpYes X0.here hx rfl (pc0 := 19) (pc' := 25) rfl (hb hby d11_19) rfl (feq hc6).2 (by decide) (by decide) k) ?_
      show Go p.tables e below (P11 Z p0 p1 h0 n0 s) (s₁.setTop (mkF m 25 #[.val (.ref p0), .val (.int p1), .val (.int (0 : Int32)), .val (.int (15 : Int32)), .val (.int ((p1).toInt8.toInt32)), .val (.int (1 : Int32))] []))
      refine Go.back (fun t k => XS.iinc X0.here hx rfl (hb hby d11_25) rfl (l' := #[.val (.ref p0), .val (.int p1), .val (.int (0 : Int32)), .val (.int (15 : Int32)), .val (.int ((p1).toInt8.toInt32)), .val (.int ((1 : Int32) + (1 : Int32)))]) rfl k) ?_
      show Go p.tables e below (P11 Z p0 p1 h0 n0 s) (s₁.setTop (mkF m 28 #[.val (.ref p0), .val (.int p1), .val (.int (0 : Int32)), .val (.int (15 : Int32)), .val (.int ((p1).toInt8.toInt32)), .val (.int ((1 : Int32) + (1 : Int32)))] []))
      refine Go.back (fun t k => XS.goto X0.here hx rfl (pc0 := 28) (pc' := 7) rfl (hb hby d11_28) (by decide) (by decide) k) ?_
      show Go p.tables e below (P11 Z p0 p1 h0 n0 s) (s₁.setTop (mkF m 7 #[.val (.ref p0), .val (.int p1), .val (.int (0 : Int32)), .val (.int (15 : Int32)), .val (.int ((p1).toInt8.toInt32)), .val (.int ((1 : Int32) + (1 : Int32)))] []))
      rw [show ((1 : Int32) + (1 : Int32)) = (2 : Int32) from by decide]
      refine Go.back (fun t k => XS.iload X0.here hx rfl (hb hby d11_7) rfl  k) ?_
      show Go p.tables e below (P11 Z p0 p1 h0 n0 s) (s₁.setTop (mkF m 9 #[.val (.ref p0), .val (.int p1), .val (.int (0 : Int32)), .val (.int (15 : Int32)), .val (.int ((p1).toInt8.toInt32)), .val (.int (2 : Int32))] [(.int (2 : Int32))]))
      refine Go.back (fun t k => XS.iloadN X0.here hx rfl (hb hby d11_9) rfl  k) ?_
      show Go p.tables e below (P11 Z p0 p1 h0 n0 s) (s₁.setTop (mkF m 10 #[.val (.ref p0), .val (.int p1), .val (.int (0 : Int32)), .val (.int (15 : Int32)), .val (.int ((p1).toInt8.toInt32)), .val (.int (2 : Int32))] [(.int (15 : Int32)), (.int (2 : Int32))]))
      refine Go.back (fun t k => XS.icmpNo X0.here hx rfl (hb hby d11_10) rfl (tlt (by decide)).2.1 k) ?_
      show Go p.tables e below (P11 Z p0 p1 h0 n0 s) (s₁.setTop (mkF m 13 #[.val (.ref p0), .val (.int p1), .val (.int (0 : Int32)), .val (.int (15 : Int32)), .val (.int ((p1).toInt8.toInt32)), .val (.int (2 : Int32))] []))
      refine Go.back (fun t k => XS.aloadN X0.here hx rfl (hb hby d11_13) rfl rfl  k) ?_
      show Go p.tables e below (P11 Z p0 p1 h0 n0 s) (s₁.setTop (mkF m 14 #[.val (.ref p0), .val (.int p1), .val (.int (0 : Int32)), .val (.int (15 : Int32)), .val (.int ((p1).toInt8.toInt32)), .val (.int (2 : Int32))] [(.ref p0)]))
      refine Go.back (fun t k => XS.iload X0.here hx rfl (hb hby d11_14) rfl  k) ?_
      show Go p.tables e below (P11 Z p0 p1 h0 n0 s) (s₁.setTop (mkF m 16 #[.val (.ref p0), .val (.int p1), .val (.int (0 : Int32)), .val (.int (15 : Int32)), .val (.int ((p1).toInt8.toInt32)), .val (.int (2 : Int32))] [(.int (2 : Int32)), (.ref p0)]))
      obtain ⟨cl9, Ar9, hi9, ha9⟩ := H0.get (j := (2 : Int32)) (by decide) (v := (.int (36 : Int32))) rfl
      refine Go.back (fun t k => X0.baloadBytes hx (j := (2 : Int32)) (v := (.int (36 : Int32))) (by rw [e0]; exact Ar9.1) (State.isArrayOf_alike hZ.alike Ar9.2.1) Ar9.2.2 hi9 ha9 (g := (mkF m 16 #[.val (.ref p0), .val (.int p1), .val (.int (0 : Int32)), .val (.int (15 : Int32)), .val (.int ((p1).toInt8.toInt32)), .val (.int (2 : Int32))] [(.int (2 : Int32)), (.ref p0)])) rfl rfl (hb hby d11_16) t k) ?_
      show Go p.tables e below (P11 Z p0 p1 h0 n0 s) (s₁.setTop (mkF m 17 #[.val (.ref p0), .val (.int p1), .val (.int (0 : Int32)), .val (.int (15 : Int32)), .val (.int ((p1).toInt8.toInt32)), .val (.int (2 : Int32))] [(.int (36 : Int32))]))
      refine Go.back (fun t k => XS.iload X0.here hx rfl (hb hby d11_17) rfl  k) ?_
      show Go p.tables e below (P11 Z p0 p1 h0 n0 s) (s₁.setTop (mkF m 19 #[.val (.ref p0), .val (.int p1), .val (.int (0 : Int32)), .val (.int (15 : Int32)), .val (.int ((p1).toInt8.toInt32)), .val (.int (2 : Int32))] [(.int ((p1).toInt8.toInt32)), (.int (36 : Int32))]))
      by_cases hc10 : (36 : Int32) = ((p1).toInt8.toInt32)
      · have r11 := r8.trans (if_pos hc10)
        refine Go.back (fun t k => XS.icmpNo X0.here hx rfl (hb hby d11_19) rfl (teq hc10).2 k) ?_
        show Go p.tables e below (P11 Z p0 p1 h0 n0 s) (s₁.setTop (mkF m 22 #[.val (.ref p0), .val (.int p1), .val (.int (0 : Int32)), .val (.int (15 : Int32)), .val (.int ((p1).toInt8.toInt32)), .val (.int (2 : Int32))] []))
        refine Go.back (fun t k => XS.iload X0.here hx rfl (hb hby d11_22) rfl  k) ?_
        show Go p.tables e below (P11 Z p0 p1 h0 n0 s) (s₁.setTop (mkF m 24 #[.val (.ref p0), .val (.int p1), .val (.int (0 : Int32)), .val (.int (15 : Int32)), .val (.int ((p1).toInt8.toInt32)), .val (.int (2 : Int32))] [(.int (2 : Int32))]))
        exact Go.retI X0 hx Bd.returns (hb hby d11_24) Bd.notSynchronized ⟨by rw [r11], N0, e0⟩ (by decide) (by decide)
      · have r12 := r8.trans (if_neg hc10)
        refine Go.back (fun t k => XS.icmpYes X0.here hx rfl (pc0 := 19) (pc' := 25) rfl (hb hby d11_19) rfl (feq hc10).2 (by decide) (by decide) k) ?_
        show Go p.tables e below (P11 Z p0 p1 h0 n0 s) (s₁.setTop (mkF m 25 #[.val (.ref p0), .val (.int p1), .val (.int (0 : Int32)), .val (.int (15 : Int32)), .val (.int ((p1).toInt8.toInt32)), .val (.int (2 : Int32))] []))
        refine Go.back (fun t k => XS.iinc X0.here hx rfl (hb hby d11_25) rfl (l' := #[.val (.ref p0), .val (.int p1), .val (.int (0 : Int32)), .val (.int (15 : Int32)), .val (.int ((p1).toInt8.toInt32)), .val (.int ((2 : Int32) + (1 : Int32)))]) rfl k) ?_
        show Go p.tables e below (P11 Z p0 p1 h0 n0 s) (s₁.setTop (mkF m 28 #[.val (.ref p0), .val (.int p1), .val (.int (0 : Int32)), .val (.int (15 : Int32)), .val (.int ((p1).toInt8.toInt32)), .val (.int ((2 : Int32) + (1 : Int32)))] []))
        refine Go.back (fun t k => XS.goto X0.here hx rfl (pc0 := 28) (pc' := 7) rfl (hb hby d11_28) (by decide) (by decide) k) ?_
        show Go p.tables e below (P11 Z p0 p1 h0 n0 s) (s₁.setTop (mkF m 7 #[.val (.ref p0), .val (.int p1), .val (.int (0 : Int32)), .val (.int (15 : Int32)), .val (.int ((p1).toInt8.toInt32)), .val (.int ((2 : Int32) + (1 : Int32)))] []))
        rw [show ((2 : Int32) + (1 : Int32)) = (3 : Int32) from by decide]
        refine Go.back (fun t k => XS.iload X0.here hx rfl (hb hby d11_7) rfl  k) ?_
        show Go p.tables e below (P11 Z p0 p1 h0 n0 s) (s₁.setTop (mkF m 9 #[.val (.ref p0), .val (.int p1), .val (.int (0 : Int32)), .val (.int (15 : Int32)), .val (.int ((p1).toInt8.toInt32)), .val (.int (3 : Int32))] [(.int (3 : Int32))]))
        refine Go.back (fun t k => XS.iloadN X0.here hx rfl (hb hby d11_9) rfl  k) ?_
        show Go p.tables e below (P11 Z p0 p1 h0 n0 s) (s₁.setTop (mkF m 10 #[.val (.ref p0), .val (.int p1), .val (.int (0 : Int32)), .val (.int (15 : Int32)), .val (.int ((p1).toInt8.toInt32)), .val (.int (3 : Int32))] [(.int (15 : Int32)), (.int (3 : Int32))]))
        refine Go.back (fun t k => XS.icmpNo X0.here hx rfl (hb hby d11_10) rfl (tlt (by decide)).2.1 k) ?_
        show Go p.tables e below (P11 Z p0 p1 h0 n0 s) (s₁.setTop (mkF m 13 #[.val (.ref p0), .val (.int p1), .val (.int (0 : Int32)), .val (.int (15 : Int32)), .val (.int ((p1).toInt8.toInt32)), .val (.int (3 : Int32))] []))
        refine Go.back (fun t k => XS.aloadN X0.here hx rfl (hb hby d11_13) rfl rfl  k) ?_
        show Go p.tables e below (P11 Z p0 p1 h0 n0 s) (s₁.setTop (mkF m 14 #[.val (.ref p0), .val (.int p1), .val (.int (0 : Int32)), .val (.int (15 : Int32)), .val (.int ((p1).toInt8.toInt32)), .val (.int (3 : Int32))] [(.ref p0)]))
        refine Go.back (fun t k => XS.iload X0.here hx rfl (hb hby d11_14) rfl  k) ?_
        show Go p.tables e below (P11 Z p0 p1 h0 n0 s) (s₁.setTop (mkF m 16 #[.val (.ref p0), .val (.int p1), .val (.int (0 : Int32)), .val (.int (15 : Int32)), .val (.int ((p1).toInt8.toInt32)), .val (.int (3 : Int32))] [(.int (3 : Int32)), (.ref p0)]))
        obtain ⟨cl13, Ar13, hi13, ha13⟩ := H0.get (j := (3 : Int32)) (by decide) (v := (.int (37 : Int32))) rfl
        refine Go.back (fun t k => X0.baloadBytes hx (j := (3 : Int32)) (v := (.int (37 : Int32))) (by rw [e0]; exact Ar13.1) (State.isArrayOf_alike hZ.alike Ar13.2.1) Ar13.2.2 hi13 ha13 (g := (mkF m 16 #[.val (.ref p0), .val (.int p1), .val (.int (0 : Int32)), .val (.int (15 : Int32)), .val (.int ((p1).toInt8.toInt32)), .val (.int (3 : Int32))] [(.int (3 : Int32)), (.ref p0)])) rfl rfl (hb hby d11_16) t k) ?_
        show Go p.tables e below (P11 Z p0 p1 h0 n0 s) (s₁.setTop (mkF m 17 #[.val (.ref p0), .val (.int p1), .val (.int (0 : Int32)), .val (.int (15 : Int32)), .val (.int ((p1).toInt8.toInt32)), .val (.int (3 : Int32))] [(.int (37 : Int32))]))
        refine Go.back (fun t k => XS.iload X0.here hx rfl (hb hby d11_17) rfl  k) ?_
        show Go p.tables e below (P11 Z p0 p1 h0 n0 s) (s₁.setTop (mkF m 19 #[.val (.ref p0), .val (.int p1), .val (.int (0 : Int32)), .val (.int (15 : Int32)), .val (.int ((p1).toInt8.toInt32)), .val (.int (3 : Int32))] [(.int ((p1).toInt8.toInt32)), (.int (37 : Int32))]))
        by_cases hc14 : (37 : Int32) = ((p1).toInt8.toInt32)
        · have r15 := r12.trans (if_pos hc14)
          refine Go.back (fun t k => XS.icmpNo X0.here hx rfl (hb hby d11_19) rfl (teq hc14).2 k) ?_
          show Go p.tables e below (P11 Z p0 p1 h0 n0 s) (s₁.setTop (mkF m 22 #[.val (.ref p0), .val (.int p1), .val (.int (0 : Int32)), .val (.int (15 : Int32)), .val (.int ((p1).toInt8.toInt32)), .val (.int (3 : Int32))] []))
          refine Go.back (fun t k => XS.iload X0.here hx rfl (hb hby d11_22) rfl  k) ?_
          show Go p.tables e below (P11 Z p0 p1 h0 n0 s) (s₁.setTop (mkF m 24 #[.val (.ref p0), .val (.int p1), .val (.int (0 : Int32)), .val (.int (15 : Int32)), .val (.int ((p1).toInt8.toInt32)), .val (.int (3 : Int32))] [(.int (3 : Int32))]))
          exact Go.retI X0 hx Bd.returns (hb hby d11_24) Bd.notSynchronized ⟨by rw [r15], N0, e0⟩ (by decide) (by decide)
        · have r16 := r12.trans (if_neg hc14)
          refine Go.back (fun t k => XS.icmpYes X0.here hx rfl (pc0 := 19) (pc' := 25) rfl (hb hby d11_19) rfl (feq hc14).2 (by decide) (by decide) k) ?_
          show Go p.tables e below (P11 Z p0 p1 h0 n0 s) (s₁.setTop (mkF m 25 #[.val (.ref p0), .val (.int p1), .val (.int (0 : Int32)), .val (.int (15 : Int32)), .val (.int ((p1).toInt8.toInt32)), .val (.int (3 : Int32))] []))
          refine Go.back (fun t k => XS.iinc X0.here hx rfl (hb hby d11_25) rfl (l' := #[.val (.ref p0), .val (.int p1), .val (.int (0 : Int32)), .val (.int (15 : Int32)), .val (.int ((p1).toInt8.toInt32)), .val (.int ((3 : Int32) + (1 : Int32)))]) rfl k) ?_
          show Go p.tables e below (P11 Z p0 p1 h0 n0 s) (s₁.setTop (mkF m 28 #[.val (.ref p0), .val (.int p1), .val (.int (0 : Int32)), .val (.int (15 : Int32)), .val (.int ((p1).toInt8.toInt32)), .val (.int ((3 : Int32) + (1 : Int32)))] []))
          refine Go.back (fun t k => XS.goto X0.here hx rfl (pc0 := 28) (pc' := 7) rfl (hb hby d11_28) (by decide) (by decide) k) ?_
          show Go p.tables e below (P11 Z p0 p1 h0 n0 s) (s₁.setTop (mkF m 7 #[.val (.ref p0), .val (.int p1), .val (.int (0 : Int32)), .val (.int (15 : Int32)), .val (.int ((p1).toInt8.toInt32)), .val (.int ((3 : Int32) + (1 : Int32)))] []))
          rw [show ((3 : Int32) + (1 : Int32)) = (4 : Int32) from by decide]
          refine Go.back (fun t k => XS.iload X0.here hx rfl (hb hby d11_7) rfl  k) ?_
          show Go p.tables e below (P11 Z p0 p1 h0 n0 s) (s₁.setTop (mkF m 9 #[.val (.ref p0), .val (.int p1), .val (.int (0 : Int32)), .val (.int (15 : Int32)), .val (.int ((p1).toInt8.toInt32)), .val (.int (4 : Int32))] [(.int (4 : Int32))]))
          refine Go.back (fun t k => XS.iloadN X0.here hx rfl (hb hby d11_9) rfl  k) ?_
          show Go p.tables e below (P11 Z p0 p1 h0 n0 s) (s₁.setTop (mkF m 10 #[.val (.ref p0), .val (.int p1), .val (.int (0 : Int32)), .val (.int (15 : Int32)), .val (.int ((p1).toInt8.toInt32)), .val (.int (4 : Int32))] [(.int (15 : Int32)), (.int (4 : Int32))]))
          refine Go.back (fun t k => XS.icmpNo X0.here hx rfl (hb hby d11_10) rfl (tlt (by decide)).2.1 k) ?_
          show Go p.tables e below (P11 Z p0 p1 h0 n0 s) (s₁.setTop (mkF m 13 #[.val (.ref p0), .val (.int p1), .val (.int (0 : Int32)), .val (.int (15 : Int32)), .val (.int ((p1).toInt8.toInt32)), .val (.int (4 : Int32))] []))
          refine Go.back (fun t k => XS.aloadN X0.here hx rfl (hb hby d11_13) rfl rfl  k) ?_
          show Go p.tables e below (P11 Z p0 p1 h0 n0 s) (s₁.setTop (mkF m 14 #[.val (.ref p0), .val (.int p1), .val (.int (0 : Int32)), .val (.int (15 : Int32)), .val (.int ((p1).toInt8.toInt32)), .val (.int (4 : Int32))] [(.ref p0)]))
          refine Go.back (fun t k => XS.iload X0.here hx rfl (hb hby d11_14) rfl  k) ?_
          show Go p.tables e below (P11 Z p0 p1 h0 n0 s) (s₁.setTop (mkF m 16 #[.val (.ref p0), .val (.int p1), .val (.int (0 : Int32)), .val (.int (15 : Int32)), .val (.int ((p1).toInt8.toInt32)), .val (.int (4 : Int32))] [(.int (4 : Int32)), (.ref p0)]))
          obtain ⟨cl17, Ar17, hi17, ha17⟩ := H0.get (j := (4 : Int32)) (by decide) (v := (.int (38 : Int32))) rfl
          refine Go.back (fun t k => X0.baloadBytes hx (j := (4 : Int32)) (v := (.int (38 : Int32))) (by rw [e0]; exact Ar17.1) (State.isArrayOf_alike hZ.alike Ar17.2.1) Ar17.2.2 hi17 ha17 (g := (mkF m 16 #[.val (.ref p0), .val (.int p1), .val (.int (0 : Int32)), .val (.int (15 : Int32)), .val (.int ((p1).toInt8.toInt32)), .val (.int (4 : Int32))] [(.int (4 : Int32)), (.ref p0)])) rfl rfl (hb hby d11_16) t k) ?_
          show Go p.tables e below (P11 Z p0 p1 h0 n0 s) (s₁.setTop (mkF m 17 #[.val (.ref p0), .val (.int p1), .val (.int (0 : Int32)), .val (.int (15 : Int32)), .val (.int ((p1).toInt8.toInt32)), .val (.int (4 : Int32))] [(.int (38 : Int32))]))
          refine Go.back (fun t k => XS.iload X0.here hx rfl (hb hby d11_17) rfl  k) ?_
          show Go p.tables e below (P11 Z p0 p1 h0 n0 s) (s₁.setTop (mkF m 19 #[.val (.ref p0), .val (.int p1), .val (.int (0 : Int32)), .val (.int (15 : Int32)), .val (.int ((p1).toInt8.toInt32)), .val (.int (4 : Int32))] [(.int ((p1).toInt8.toInt32)), (.int (38 : Int32))]))
          by_cases hc18 : (38 : Int32) = ((p1).toInt8.toInt32)
          · have r19 := r16.trans (if_pos hc18)
            refine Go.back (fun t k => XS.icmpNo X0.here hx rfl (hb hby d11_19) rfl (teq hc18).2 k) ?_
            show Go p.tables e below (P11 Z p0 p1 h0 n0 s) (s₁.setTop (mkF m 22 #[.val (.ref p0), .val (.int p1), .val (.int (0 : Int32)), .val (.int (15 : Int32)), .val (.int ((p1).toInt8.toInt32)), .val (.int (4 : Int32))] []))
            refine Go.back (fun t k => XS.iload X0.here hx rfl (hb hby d11_22) rfl  k) ?_
            show Go p.tables e below (P11 Z p0 p1 h0 n0 s) (s₁.setTop (mkF m 24 #[.val (.ref p0), .val (.int p1), .val (.int (0 : Int32)), .val (.int (15 : Int32)), .val (.int ((p1).toInt8.toInt32)), .val (.int (4 : Int32))] [(.int (4 : Int32))]))
            exact Go.retI X0 hx Bd.returns (hb hby d11_24) Bd.notSynchronized ⟨by rw [r19], N0, e0⟩ (by decide) (by decide)
          · have r20 := r16.trans (if_neg hc18)
            refine Go.back (fun t k => XS.icmpYes X0.here hx rfl (pc0 := 19) (pc' := 25) rfl (hb hby d11_19) rfl (feq hc18).2 (by decide) (by decide) k) ?_
            show Go p.tables e below (P11 Z p0 p1 h0 n0 s) (s₁.setTop (mkF m 25 #[.val (.ref p0), .val (.int p1), .val (.int (0 : Int32)), .val (.int (15 : Int32)), .val (.int ((p1).toInt8.toInt32)), .val (.int (4 : Int32))] []))
            refine Go.back (fun t k => XS.iinc X0.here hx rfl (hb hby d11_25) rfl (l' := #[.val (.ref p0), .val (.int p1), .val (.int (0 : Int32)), .val (.int (15 : Int32)), .val (.int ((p1).toInt8.toInt32)), .val (.int ((4 : Int32) + (1 : Int32)))]) rfl k) ?_
            show Go p.tables e below (P11 Z p0 p1 h0 n0 s) (s₁.setTop (mkF m 28 #[.val (.ref p0), .val (.int p1), .val (.int (0 : Int32)), .val (.int (15 : Int32)), .val (.int ((p1).toInt8.toInt32)), .val (.int ((4 : Int32) + (1 : Int32)))] []))
            refine Go.back (fun t k => XS.goto X0.here hx rfl (pc0 := 28) (pc' := 7) rfl (hb hby d11_28) (by decide) (by decide) k) ?_
            show Go p.tables e below (P11 Z p0 p1 h0 n0 s) (s₁.setTop (mkF m 7 #[.val (.ref p0), .val (.int p1), .val (.int (0 : Int32)), .val (.int (15 : Int32)), .val (.int ((p1).toInt8.toInt32)), .val (.int ((4 : Int32) + (1 : Int32)))] []))
            rw [show ((4 : Int32) + (1 : Int32)) = (5 : Int32) from by decide]
            refine Go.back (fun t k => XS.iload X0.here hx rfl (hb hby d11_7) rfl  k) ?_
            show Go p.tables e below (P11 Z p0 p1 h0 n0 s) (s₁.setTop (mkF m 9 #[.val (.ref p0), .val (.int p1), .val (.int (0 : Int32)), .val (.int (15 : Int32)), .val (.int ((p1).toInt8.toInt32)), .val (.int (5 : Int32))] [(.int (5 : Int32))]))
            refine Go.back (fun t k => XS.iloadN X0.here hx rfl (hb hby d11_9) rfl  k) ?_
            show Go p.tables e below (P11 Z p0 p1 h0 n0 s) (s₁.setTop (mkF m 10 #[.val (.ref p0), .val (.int p1), .val (.int (0 : Int32)), .val (.int (15 : Int32)), .val (.int ((p1).toInt8.toInt32)), .val (.int (5 : Int32))] [(.int (15 : Int32)), (.int (5 : Int32))]))
            refine Go.back (fun t k => XS.icmpNo X0.here hx rfl (hb hby d11_10) rfl (tlt (by decide)).2.1 k) ?_
            show Go p.tables e below (P11 Z p0 p1 h0 n0 s) (s₁.setTop (mkF m 13 #[.val (.ref p0), .val (.int p1), .val (.int (0 : Int32)), .val (.int (15 : Int32)), .val (.int ((p1).toInt8.toInt32)), .val (.int (5 : Int32))] []))
            refine Go.back (fun t k => XS.aloadN X0.here hx rfl (hb hby d11_13) rfl rfl  k) ?_
            show Go p.tables e below (P11 Z p0 p1 h0 n0 s) (s₁.setTop (mkF m 14 #[.val (.ref p0), .val (.int p1), .val (.int (0 : Int32)), .val (.int (15 : Int32)), .val (.int ((p1).toInt8.toInt32)), .val (.int (5 : Int32))] [(.ref p0)]))
            refine Go.back (fun t k => XS.iload X0.here hx rfl (hb hby d11_14) rfl  k) ?_
            show Go p.tables e below (P11 Z p0 p1 h0 n0 s) (s₁.setTop (mkF m 16 #[.val (.ref p0), .val (.int p1), .val (.int (0 : Int32)), .val (.int (15 : Int32)), .val (.int ((p1).toInt8.toInt32)), .val (.int (5 : Int32))] [(.int (5 : Int32)), (.ref p0)]))
            obtain ⟨cl21, Ar21, hi21, ha21⟩ := H0.get (j := (5 : Int32)) (by decide) (v := (.int (39 : Int32))) rfl
            refine Go.back (fun t k => X0.baloadBytes hx (j := (5 : Int32)) (v := (.int (39 : Int32))) (by rw [e0]; exact Ar21.1) (State.isArrayOf_alike hZ.alike Ar21.2.1) Ar21.2.2 hi21 ha21 (g := (mkF m 16 #[.val (.ref p0), .val (.int p1), .val (.int (0 : Int32)), .val (.int (15 : Int32)), .val (.int ((p1).toInt8.toInt32)), .val (.int (5 : Int32))] [(.int (5 : Int32)), (.ref p0)])) rfl rfl (hb hby d11_16) t k) ?_
            show Go p.tables e below (P11 Z p0 p1 h0 n0 s) (s₁.setTop (mkF m 17 #[.val (.ref p0), .val (.int p1), .val (.int (0 : Int32)), .val (.int (15 : Int32)), .val (.int ((p1).toInt8.toInt32)), .val (.int (5 : Int32))] [(.int (39 : Int32))]))
            refine Go.back (fun t k => XS.iload X0.here hx rfl (hb hby d11_17) rfl  k) ?_
            show Go p.tables e below (P11 Z p0 p1 h0 n0 s) (s₁.setTop (mkF m 19 #[.val (.ref p0), .val (.int p1), .val (.int (0 : Int32)), .val (.int (15 : Int32)), .val (.int ((p1).toInt8.toInt32)), .val (.int (5 : Int32))] [(.int ((p1).toInt8.toInt32)), (.int (39 : Int32))]))
            by_cases hc22 : (39 : Int32) = ((p1).toInt8.toInt32)
            · have r23 := r20.trans (if_pos hc22)
              refine Go.back (fun t k => XS.icmpNo X0.here hx rfl (hb hby d11_19) rfl (teq hc22).2 k) ?_
              show Go p.tables e below (P11 Z p0 p1 h0 n0 s) (s₁.setTop (mkF m 22 #[.val (.ref p0), .val (.int p1), .val (.int (0 : Int32)), .val (.int (15 : Int32)), .val (.int ((p1).toInt8.toInt32)), .val (.int (5 : Int32))] []))
              refine Go.back (fun t k => XS.iload X0.here hx rfl (hb hby d11_22) rfl  k) ?_
              show Go p.tables e below (P11 Z p0 p1 h0 n0 s) (s₁.setTop (mkF m 24 #[.val (.ref p0), .val (.int p1), .val (.int (0 : Int32)), .val (.int (15 : Int32)), .val (.int ((p1).toInt8.toInt32)), .val (.int (5 : Int32))] [(.int (5 : Int32))]))
              exact Go.retI X0 hx Bd.returns (hb hby d11_24) Bd.notSynchronized ⟨by rw [r23], N0, e0⟩ (by decide) (by decide)
            · have r24 := r20.trans (if_neg hc22)
              refine Go.back (fun t k => XS.icmpYes X0.here hx rfl (pc0 := 19) (pc' := 25) rfl (hb hby d11_19) rfl (feq hc22).2 (by decide) (by decide) k) ?_
              show Go p.tables e below (P11 Z p0 p1 h0 n0 s) (s₁.setTop (mkF m 25 #[.val (.ref p0), .val (.int p1), .val (.int (0 : Int32)), .val (.int (15 : Int32)), .val (.int ((p1).toInt8.toInt32)), .val (.int (5 : Int32))] []))
              refine Go.back (fun t k => XS.iinc X0.here hx rfl (hb hby d11_25) rfl (l' := #[.val (.ref p0), .val (.int p1), .val (.int (0 : Int32)), .val (.int (15 : Int32)), .val (.int ((p1).toInt8.toInt32)), .val (.int ((5 : Int32) + (1 : Int32)))]) rfl k) ?_
              show Go p.tables e below (P11 Z p0 p1 h0 n0 s) (s₁.setTop (mkF m 28 #[.val (.ref p0), .val (.int p1), .val (.int (0 : Int32)), .val (.int (15 : Int32)), .val (.int ((p1).toInt8.toInt32)), .val (.int ((5 : Int32) + (1 : Int32)))] []))
              refine Go.back (fun t k => XS.goto X0.here hx rfl (pc0 := 28) (pc' := 7) rfl (hb hby d11_28) (by decide) (by decide) k) ?_
              show Go p.tables e below (P11 Z p0 p1 h0 n0 s) (s₁.setTop (mkF m 7 #[.val (.ref p0), .val (.int p1), .val (.int (0 : Int32)), .val (.int (15 : Int32)), .val (.int ((p1).toInt8.toInt32)), .val (.int ((5 : Int32) + (1 : Int32)))] []))
              rw [show ((5 : Int32) + (1 : Int32)) = (6 : Int32) from by decide]
              refine Go.back (fun t k => XS.iload X0.here hx rfl (hb hby d11_7) rfl  k) ?_
              show Go p.tables e below (P11 Z p0 p1 h0 n0 s) (s₁.setTop (mkF m 9 #[.val (.ref p0), .val (.int p1), .val (.int (0 : Int32)), .val (.int (15 : Int32)), .val (.int ((p1).toInt8.toInt32)), .val (.int (6 : Int32))] [(.int (6 : Int32))]))
              refine Go.back (fun t k => XS.iloadN X0.here hx rfl (hb hby d11_9) rfl  k) ?_
              show Go p.tables e below (P11 Z p0 p1 h0 n0 s) (s₁.setTop (mkF m 10 #[.val (.ref p0), .val (.int p1), .val (.int (0 : Int32)), .val (.int (15 : Int32)), .val (.int ((p1).toInt8.toInt32)), .val (.int (6 : Int32))] [(.int (15 : Int32)), (.int (6 : Int32))]))
              refine Go.back (fun t k => XS.icmpNo X0.here hx rfl (hb hby d11_10) rfl (tlt (by decide)).2.1 k) ?_
              show Go p.tables e below (P11 Z p0 p1 h0 n0 s) (s₁.setTop (mkF m 13 #[.val (.ref p0), .val (.int p1), .val (.int (0 : Int32)), .val (.int (15 : Int32)), .val (.int ((p1).toInt8.toInt32)), .val (.int (6 : Int32))] []))
              refine Go.back (fun t k => XS.aloadN X0.here hx rfl (hb hby d11_13) rfl rfl  k) ?_
              show Go p.tables e below (P11 Z p0 p1 h0 n0 s) (s₁.setTop (mkF m 14 #[.val (.ref p0), .val (.int p1), .val (.int (0 : Int32)), .val (.int (15 : Int32)), .val (.int ((p1).toInt8.toInt32)), .val (.int (6 : Int32))] [(.ref p0)]))
              refine Go.back (fun t k => XS.iload X0.here hx rfl (hb hby d11_14) rfl  k) ?_
              show Go p.tables e below (P11 Z p0 p1 h0 n0 s) (s₁.setTop (mkF m 16 #[.val (.ref p0), .val (.int p1), .val (.int (0 : Int32)), .val (.int (15 : Int32)), .val (.int ((p1).toInt8.toInt32)), .val (.int (6 : Int32))] [(.int (6 : Int32)), (.ref p0)]))
              obtain ⟨cl25, Ar25, hi25, ha25⟩ := H0.get (j := (6 : Int32)) (by decide) (v := (.int (42 : Int32))) rfl
              refine Go.back (fun t k => X0.baloadBytes hx (j := (6 : Int32)) (v := (.int (42 : Int32))) (by rw [e0]; exact Ar25.1) (State.isArrayOf_alike hZ.alike Ar25.2.1) Ar25.2.2 hi25 ha25 (g := (mkF m 16 #[.val (.ref p0), .val (.int p1), .val (.int (0 : Int32)), .val (.int (15 : Int32)), .val (.int ((p1).toInt8.toInt32)), .val (.int (6 : Int32))] [(.int (6 : Int32)), (.ref p0)])) rfl rfl (hb hby d11_16) t k) ?_
              show Go p.tables e below (P11 Z p0 p1 h0 n0 s) (s₁.setTop (mkF m 17 #[.val (.ref p0), .val (.int p1), .val (.int (0 : Int32)), .val (.int (15 : Int32)), .val (.int ((p1).toInt8.toInt32)), .val (.int (6 : Int32))] [(.int (42 : Int32))]))
              refine Go.back (fun t k => XS.iload X0.here hx rfl (hb hby d11_17) rfl  k) ?_
              show Go p.tables e below (P11 Z p0 p1 h0 n0 s) (s₁.setTop (mkF m 19 #[.val (.ref p0), .val (.int p1), .val (.int (0 : Int32)), .val (.int (15 : Int32)), .val (.int ((p1).toInt8.toInt32)), .val (.int (6 : Int32))] [(.int ((p1).toInt8.toInt32)), (.int (42 : Int32))]))
              by_cases hc26 : (42 : Int32) = ((p1).toInt8.toInt32)
              · have r27 := r24.trans (if_pos hc26)
                refine Go.back (fun t k => XS.icmpNo X0.here hx rfl (hb hby d11_19) rfl (teq hc26).2 k) ?_
                show Go p.tables e below (P11 Z p0 p1 h0 n0 s) (s₁.setTop (mkF m 22 #[.val (.ref p0), .val (.int p1), .val (.int (0 : Int32)), .val (.int (15 : Int32)), .val (.int ((p1).toInt8.toInt32)), .val (.int (6 : Int32))] []))
                refine Go.back (fun t k => XS.iload X0.here hx rfl (hb hby d11_22) rfl  k) ?_
                show Go p.tables e below (P11 Z p0 p1 h0 n0 s) (s₁.setTop (mkF m 24 #[.val (.ref p0), .val (.int p1), .val (.int (0 : Int32)), .val (.int (15 : Int32)), .val (.int ((p1).toInt8.toInt32)), .val (.int (6 : Int32))] [(.int (6 : Int32))]))
                exact Go.retI X0 hx Bd.returns (hb hby d11_24) Bd.notSynchronized ⟨by rw [r27], N0, e0⟩ (by decide) (by decide)
              · have r28 := r24.trans (if_neg hc26)
                refine Go.back (fun t k => XS.icmpYes X0.here hx rfl (pc0 := 19) (pc' := 25) rfl (hb hby d11_19) rfl (feq hc26).2 (by decide) (by decide) k) ?_
                show Go p.tables e below (P11 Z p0 p1 h0 n0 s) (s₁.setTop (mkF m 25 #[.val (.ref p0), .val (.int p1), .val (.int (0 : Int32)), .val (.int (15 : Int32)), .val (.int ((p1).toInt8.toInt32)), .val (.int (6 : Int32))] []))
                refine Go.back (fun t k => XS.iinc X0.here hx rfl (hb hby d11_25) rfl (l' := #[.val (.ref p0), .val (.int p1), .val (.int (0 : Int32)), .val (.int (15 : Int32)), .val (.int ((p1).toInt8.toInt32)), .val (.int ((6 : Int32) + (1 : Int32)))]) rfl k) ?_
                show Go p.tables e below (P11 Z p0 p1 h0 n0 s) (s₁.setTop (mkF m 28 #[.val (.ref p0), .val (.int p1), .val (.int (0 : Int32)), .val (.int (15 : Int32)), .val (.int ((p1).toInt8.toInt32)), .val (.int ((6 : Int32) + (1 : Int32)))] []))
                refine Go.back (fun t k => XS.goto X0.here hx rfl (pc0 := 28) (pc' := 7) rfl (hb hby d11_28) (by decide) (by decide) k) ?_
                show Go p.tables e below (P11 Z p0 p1 h0 n0 s) (s₁.setTop (mkF m 7 #[.val (.ref p0), .val (.int p1), .val (.int (0 : Int32)), .val (.int (15 : Int32)), .val (.int ((p1).toInt8.toInt32)), .val (.int ((6 : Int32) + (1 : Int32)))] []))
                rw [show ((6 : Int32) + (1 : Int32)) = (7 : Int32) from by decide]
                refine Go.back (fun t k => XS.iload X0.here hx rfl (hb hby d11_7) rfl  k) ?_
                show Go p.tables e below (P11 Z p0 p1 h0 n0 s) (s₁.setTop (mkF m 9 #[.val (.ref p0), .val (.int p1), .val (.int (0 : Int32)), .val (.int (15 : Int32)), .val (.int ((p1).toInt8.toInt32)), .val (.int (7 : Int32))] [(.int (7 : Int32))]))
                refine Go.back (fun t k => XS.iloadN X0.here hx rfl (hb hby d11_9) rfl  k) ?_
                show Go p.tables e below (P11 Z p0 p1 h0 n0 s) (s₁.setTop (mkF m 10 #[.val (.ref p0), .val (.int p1), .val (.int (0 : Int32)), .val (.int (15 : Int32)), .val (.int ((p1).toInt8.toInt32)), .val (.int (7 : Int32))] [(.int (15 : Int32)), (.int (7 : Int32))]))
                refine Go.back (fun t k => XS.icmpNo X0.here hx rfl (hb hby d11_10) rfl (tlt (by decide)).2.1 k) ?_
                show Go p.tables e below (P11 Z p0 p1 h0 n0 s) (s₁.setTop (mkF m 13 #[.val (.ref p0), .val (.int p1), .val (.int (0 : Int32)), .val (.int (15 : Int32)), .val (.int ((p1).toInt8.toInt32)), .val (.int (7 : Int32))] []))
                refine Go.back (fun t k => XS.aloadN X0.here hx rfl (hb hby d11_13) rfl rfl  k) ?_
                show Go p.tables e below (P11 Z p0 p1 h0 n0 s) (s₁.setTop (mkF m 14 #[.val (.ref p0), .val (.int p1), .val (.int (0 : Int32)), .val (.int (15 : Int32)), .val (.int ((p1).toInt8.toInt32)), .val (.int (7 : Int32))] [(.ref p0)]))
                refine Go.back (fun t k => XS.iload X0.here hx rfl (hb hby d11_14) rfl  k) ?_
                show Go p.tables e below (P11 Z p0 p1 h0 n0 s) (s₁.setTop (mkF m 16 #[.val (.ref p0), .val (.int p1), .val (.int (0 : Int32)), .val (.int (15 : Int32)), .val (.int ((p1).toInt8.toInt32)), .val (.int (7 : Int32))] [(.int (7 : Int32)), (.ref p0)]))
                obtain ⟨cl29, Ar29, hi29, ha29⟩ := H0.get (j := (7 : Int32)) (by decide) (v := (.int (43 : Int32))) rfl
                refine Go.back (fun t k => X0.baloadBytes hx (j := (7 : Int32)) (v := (.int (43 : Int32))) (by rw [e0]; exact Ar29.1) (State.isArrayOf_alike hZ.alike Ar29.2.1) Ar29.2.2 hi29 ha29 (g := (mkF m 16 #[.val (.ref p0), .val (.int p1), .val (.int (0 : Int32)), .val (.int (15 : Int32)), .val (.int ((p1).toInt8.toInt32)), .val (.int (7 : Int32))] [(.int (7 : Int32)), (.ref p0)])) rfl rfl (hb hby d11_16) t k) ?_
                show Go p.tables e below (P11 Z p0 p1 h0 n0 s) (s₁.setTop (mkF m 17 #[.val (.ref p0), .val (.int p1), .val (.int (0 : Int32)), .val (.int (15 : Int32)), .val (.int ((p1).toInt8.toInt32)), .val (.int (7 : Int32))] [(.int (43 : Int32))]))
                refine Go.back (fun t k => XS.iload X0.here hx rfl (hb hby d11_17) rfl  k) ?_
                show Go p.tables e below (P11 Z p0 p1 h0 n0 s) (s₁.setTop (mkF m 19 #[.val (.ref p0), .val (.int p1), .val (.int (0 : Int32)), .val (.int (15 : Int32)), .val (.int ((p1).toInt8.toInt32)), .val (.int (7 : Int32))] [(.int ((p1).toInt8.toInt32)), (.int (43 : Int32))]))
                by_cases hc30 : (43 : Int32) = ((p1).toInt8.toInt32)
                · have r31 := r28.trans (if_pos hc30)
                  refine Go.back (fun t k => XS.icmpNo X0.here hx rfl (hb hby d11_19) rfl (teq hc30).2 k) ?_
                  show Go p.tables e below (P11 Z p0 p1 h0 n0 s) (s₁.setTop (mkF m 22 #[.val (.ref p0), .val (.int p1), .val (.int (0 : Int32)), .val (.int (15 : Int32)), .val (.int ((p1).toInt8.toInt32)), .val (.int (7 : Int32))] []))
                  refine Go.back (fun t k => XS.iload X0.here hx rfl (hb hby d11_22) rfl  k) ?_
                  show Go p.tables e below (P11 Z p0 p1 h0 n0 s) (s₁.setTop (mkF m 24 #[.val (.ref p0), .val (.int p1), .val (.int (0 : Int32)), .val (.int (15 : Int32)), .val (.int ((p1).toInt8.toInt32)), .val (.int (7 : Int32))] [(.int (7 : Int32))]))
                  exact Go.retI X0 hx Bd.returns (hb hby d11_24) Bd.notSynchronized ⟨by rw [r31], N0, e0⟩ (by decide) (by decide)
                · have r32 := r28.trans (if_neg hc30)
                  refine Go.back (fun t k => XS.icmpYes X0.here hx rfl (pc0 := 19) (pc' := 25) rfl (hb hby d11_19) rfl (feq hc30).2 (by decide) (by decide) k) ?_
                  show Go p.tables e below (P11 Z p0 p1 h0 n0 s) (s₁.setTop (mkF m 25 #[.val (.ref p0), .val (.int p1), .val (.int (0 : Int32)), .val (.int (15 : Int32)), .val (.int ((p1).toInt8.toInt32)), .val (.int (7 : Int32))] []))
                  refine Go.back (fun t k => XS.iinc X0.here hx rfl (hb hby d11_25) rfl (l' := #[.val (.ref p0), .val (.int p1), .val (.int (0 : Int32)), .val (.int (15 : Int32)), .val (.int ((p1).toInt8.toInt32)), .val (.int ((7 : Int32) + (1 : Int32)))]) rfl k) ?_
                  show Go p.tables e below (P11 Z p0 p1 h0 n0 s) (s₁.setTop (mkF m 28 #[.val (.ref p0), .val (.int p1), .val (.int (0 : Int32)), .val (.int (15 : Int32)), .val (.int ((p1).toInt8.toInt32)), .val (.int ((7 : Int32) + (1 : Int32)))] []))
                  refine Go.back (fun t k => XS.goto X0.here hx rfl (pc0 := 28) (pc' := 7) rfl (hb hby d11_28) (by decide) (by decide) k) ?_
                  show Go p.tables e below (P11 Z p0 p1 h0 n0 s) (s₁.setTop (mkF m 7 #[.val (.ref p0), .val (.int p1), .val (.int (0 : Int32)), .val (.int (15 : Int32)), .val (.int ((p1).toInt8.toInt32)), .val (.int ((7 : Int32) + (1 : Int32)))] []))
                  rw [show ((7 : Int32) + (1 : Int32)) = (8 : Int32) from by decide]
                  refine Go.back (fun t k => XS.iload X0.here hx rfl (hb hby d11_7) rfl  k) ?_
                  show Go p.tables e below (P11 Z p0 p1 h0 n0 s) (s₁.setTop (mkF m 9 #[.val (.ref p0), .val (.int p1), .val (.int (0 : Int32)), .val (.int (15 : Int32)), .val (.int ((p1).toInt8.toInt32)), .val (.int (8 : Int32))] [(.int (8 : Int32))]))
                  refine Go.back (fun t k => XS.iloadN X0.here hx rfl (hb hby d11_9) rfl  k) ?_
                  show Go p.tables e below (P11 Z p0 p1 h0 n0 s) (s₁.setTop (mkF m 10 #[.val (.ref p0), .val (.int p1), .val (.int (0 : Int32)), .val (.int (15 : Int32)), .val (.int ((p1).toInt8.toInt32)), .val (.int (8 : Int32))] [(.int (15 : Int32)), (.int (8 : Int32))]))
                  refine Go.back (fun t k => XS.icmpNo X0.here hx rfl (hb hby d11_10) rfl (tlt (by decide)).2.1 k) ?_
                  show Go p.tables e below (P11 Z p0 p1 h0 n0 s) (s₁.setTop (mkF m 13 #[.val (.ref p0), .val (.int p1), .val (.int (0 : Int32)), .val (.int (15 : Int32)), .val (.int ((p1).toInt8.toInt32)), .val (.int (8 : Int32))] []))
                  refine Go.back (fun t k => XS.aloadN X0.here hx rfl (hb hby d11_13) rfl rfl  k) ?_
                  show Go p.tables e below (P11 Z p0 p1 h0 n0 s) (s₁.setTop (mkF m 14 #[.val (.ref p0), .val (.int p1), .val (.int (0 : Int32)), .val (.int (15 : Int32)), .val (.int ((p1).toInt8.toInt32)), .val (.int (8 : Int32))] [(.ref p0)]))
                  refine Go.back (fun t k => XS.iload X0.here hx rfl (hb hby d11_14) rfl  k) ?_
                  show Go p.tables e below (P11 Z p0 p1 h0 n0 s) (s₁.setTop (mkF m 16 #[.val (.ref p0), .val (.int p1), .val (.int (0 : Int32)), .val (.int (15 : Int32)), .val (.int ((p1).toInt8.toInt32)), .val (.int (8 : Int32))] [(.int (8 : Int32)), (.ref p0)]))
                  obtain ⟨cl33, Ar33, hi33, ha33⟩ := H0.get (j := (8 : Int32)) (by decide) (v := (.int (45 : Int32))) rfl
                  refine Go.back (fun t k => X0.baloadBytes hx (j := (8 : Int32)) (v := (.int (45 : Int32))) (by rw [e0]; exact Ar33.1) (State.isArrayOf_alike hZ.alike Ar33.2.1) Ar33.2.2 hi33 ha33 (g := (mkF m 16 #[.val (.ref p0), .val (.int p1), .val (.int (0 : Int32)), .val (.int (15 : Int32)), .val (.int ((p1).toInt8.toInt32)), .val (.int (8 : Int32))] [(.int (8 : Int32)), (.ref p0)])) rfl rfl (hb hby d11_16) t k) ?_
                  show Go p.tables e below (P11 Z p0 p1 h0 n0 s) (s₁.setTop (mkF m 17 #[.val (.ref p0), .val (.int p1), .val (.int (0 : Int32)), .val (.int (15 : Int32)), .val (.int ((p1).toInt8.toInt32)), .val (.int (8 : Int32))] [(.int (45 : Int32))]))
                  refine Go.back (fun t k => XS.iload X0.here hx rfl (hb hby d11_17) rfl  k) ?_
                  show Go p.tables e below (P11 Z p0 p1 h0 n0 s) (s₁.setTop (mkF m 19 #[.val (.ref p0), .val (.int p1), .val (.int (0 : Int32)), .val (.int (15 : Int32)), .val (.int ((p1).toInt8.toInt32)), .val (.int (8 : Int32))] [(.int ((p1).toInt8.toInt32)), (.int (45 : Int32))]))
                  by_cases hc34 : (45 : Int32) = ((p1).toInt8.toInt32)
                  · have r35 := r32.trans (if_pos hc34)
                    refine Go.back (fun t k => XS.icmpNo X0.here hx rfl (hb hby d11_19) rfl (teq hc34).2 k) ?_
                    show Go p.tables e below (P11 Z p0 p1 h0 n0 s) (s₁.setTop (mkF m 22 #[.val (.ref p0), .val (.int p1), .val (.int (0 : Int32)), .val (.int (15 : Int32)), .val (.int ((p1).toInt8.toInt32)), .val (.int (8 : Int32))] []))
                    refine Go.back (fun t k => XS.iload X0.here hx rfl (hb hby d11_22) rfl  k) ?_
                    show Go p.tables e below (P11 Z p0 p1 h0 n0 s) (s₁.setTop (mkF m 24 #[.val (.ref p0), .val (.int p1), .val (.int (0 : Int32)), .val (.int (15 : Int32)), .val (.int ((p1).toInt8.toInt32)), .val (.int (8 : Int32))] [(.int (8 : Int32))]))
                    exact Go.retI X0 hx Bd.returns (hb hby d11_24) Bd.notSynchronized ⟨by rw [r35], N0, e0⟩ (by decide) (by decide)
                  · have r36 := r32.trans (if_neg hc34)
                    refine Go.back (fun t k => XS.icmpYes X0.here hx rfl (pc0 := 19) (pc' := 25) rfl (hb hby d11_19) rfl (feq hc34).2 (by decide) (by decide) k) ?_
                    show Go p.tables e below (P11 Z p0 p1 h0 n0 s) (s₁.setTop (mkF m 25 #[.val (.ref p0), .val (.int p1), .val (.int (0 : Int32)), .val (.int (15 : Int32)), .val (.int ((p1).toInt8.toInt32)), .val (.int (8 : Int32))] []))
                    refine Go.back (fun t k => XS.iinc X0.here hx rfl (hb hby d11_25) rfl (l' := #[.val (.ref p0), .val (.int p1), .val (.int (0 : Int32)), .val (.int (15 : Int32)), .val (.int ((p1).toInt8.toInt32)), .val (.int ((8 : Int32) + (1 : Int32)))]) rfl k) ?_
                    show Go p.tables e below (P11 Z p0 p1 h0 n0 s) (s₁.setTop (mkF m 28 #[.val (.ref p0), .val (.int p1), .val (.int (0 : Int32)), .val (.int (15 : Int32)), .val (.int ((p1).toInt8.toInt32)), .val (.int ((8 : Int32) + (1 : Int32)))] []))
                    refine Go.back (fun t k => XS.goto X0.here hx rfl (pc0 := 28) (pc' := 7) rfl (hb hby d11_28) (by decide) (by decide) k) ?_
                    show Go p.tables e below (P11 Z p0 p1 h0 n0 s) (s₁.setTop (mkF m 7 #[.val (.ref p0), .val (.int p1), .val (.int (0 : Int32)), .val (.int (15 : Int32)), .val (.int ((p1).toInt8.toInt32)), .val (.int ((8 : Int32) + (1 : Int32)))] []))
                    rw [show ((8 : Int32) + (1 : Int32)) = (9 : Int32) from by decide]
                    refine Go.back (fun t k => XS.iload X0.here hx rfl (hb hby d11_7) rfl  k) ?_
                    show Go p.tables e below (P11 Z p0 p1 h0 n0 s) (s₁.setTop (mkF m 9 #[.val (.ref p0), .val (.int p1), .val (.int (0 : Int32)), .val (.int (15 : Int32)), .val (.int ((p1).toInt8.toInt32)), .val (.int (9 : Int32))] [(.int (9 : Int32))]))
                    refine Go.back (fun t k => XS.iloadN X0.here hx rfl (hb hby d11_9) rfl  k) ?_
                    show Go p.tables e below (P11 Z p0 p1 h0 n0 s) (s₁.setTop (mkF m 10 #[.val (.ref p0), .val (.int p1), .val (.int (0 : Int32)), .val (.int (15 : Int32)), .val (.int ((p1).toInt8.toInt32)), .val (.int (9 : Int32))] [(.int (15 : Int32)), (.int (9 : Int32))]))
                    refine Go.back (fun t k => XS.icmpNo X0.here hx rfl (hb hby d11_10) rfl (tlt (by decide)).2.1 k) ?_
                    show Go p.tables e below (P11 Z p0 p1 h0 n0 s) (s₁.setTop (mkF m 13 #[.val (.ref p0), .val (.int p1), .val (.int (0 : Int32)), .val (.int (15 : Int32)), .val (.int ((p1).toInt8.toInt32)), .val (.int (9 : Int32))] []))
                    refine Go.back (fun t k => XS.aloadN X0.here hx rfl (hb hby d11_13) rfl rfl  k) ?_
                    show Go p.tables e below (P11 Z p0 p1 h0 n0 s) (s₁.setTop (mkF m 14 #[.val (.ref p0), .val (.int p1), .val (.int (0 : Int32)), .val (.int (15 : Int32)), .val (.int ((p1).toInt8.toInt32)), .val (.int (9 : Int32))] [(.ref p0)]))
                    refine Go.back (fun t k => XS.iload X0.here hx rfl (hb hby d11_14) rfl  k) ?_
                    show Go p.tables e below (P11 Z p0 p1 h0 n0 s) (s₁.setTop (mkF m 16 #[.val (.ref p0), .val (.int p1), .val (.int (0 : Int32)), .val (.int (15 : Int32)), .val (.int ((p1).toInt8.toInt32)), .val (.int (9 : Int32))] [(.int (9 : Int32)), (.ref p0)]))
                    obtain ⟨cl37, Ar37, hi37, ha37⟩ := H0.get (j := (9 : Int32)) (by decide) (v := (.int (46 : Int32))) rfl
                    refine Go.back (fun t k => X0.baloadBytes hx (j := (9 : Int32)) (v := (.int (46 : Int32))) (by rw [e0]; exact Ar37.1) (State.isArrayOf_alike hZ.alike Ar37.2.1) Ar37.2.2 hi37 ha37 (g := (mkF m 16 #[.val (.ref p0), .val (.int p1), .val (.int (0 : Int32)), .val (.int (15 : Int32)), .val (.int ((p1).toInt8.toInt32)), .val (.int (9 : Int32))] [(.int (9 : Int32)), (.ref p0)])) rfl rfl (hb hby d11_16) t k) ?_
                    show Go p.tables e below (P11 Z p0 p1 h0 n0 s) (s₁.setTop (mkF m 17 #[.val (.ref p0), .val (.int p1), .val (.int (0 : Int32)), .val (.int (15 : Int32)), .val (.int ((p1).toInt8.toInt32)), .val (.int (9 : Int32))] [(.int (46 : Int32))]))
                    refine Go.back (fun t k => XS.iload X0.here hx rfl (hb hby d11_17) rfl  k) ?_
                    show Go p.tables e below (P11 Z p0 p1 h0 n0 s) (s₁.setTop (mkF m 19 #[.val (.ref p0), .val (.int p1), .val (.int (0 : Int32)), .val (.int (15 : Int32)), .val (.int ((p1).toInt8.toInt32)), .val (.int (9 : Int32))] [(.int ((p1).toInt8.toInt32)), (.int (46 : Int32))]))
                    by_cases hc38 : (46 : Int32) = ((p1).toInt8.toInt32)
                    · have r39 := r36.trans (if_pos hc38)
                      refine Go.back (fun t k => XS.icmpNo X0.here hx rfl (hb hby d11_19) rfl (teq hc38).2 k) ?_
                      show Go p.tables e below (P11 Z p0 p1 h0 n0 s) (s₁.setTop (mkF m 22 #[.val (.ref p0), .val (.int p1), .val (.int (0 : Int32)), .val (.int (15 : Int32)), .val (.int ((p1).toInt8.toInt32)), .val (.int (9 : Int32))] []))
                      refine Go.back (fun t k => XS.iload X0.here hx rfl (hb hby d11_22) rfl  k) ?_
                      show Go p.tables e below (P11 Z p0 p1 h0 n0 s) (s₁.setTop (mkF m 24 #[.val (.ref p0), .val (.int p1), .val (.int (0 : Int32)), .val (.int (15 : Int32)), .val (.int ((p1).toInt8.toInt32)), .val (.int (9 : Int32))] [(.int (9 : Int32))]))
                      exact Go.retI X0 hx Bd.returns (hb hby d11_24) Bd.notSynchronized ⟨by rw [r39], N0, e0⟩ (by decide) (by decide)
                    · have r40 := r36.trans (if_neg hc38)
                      refine Go.back (fun t k => XS.icmpYes X0.here hx rfl (pc0 := 19) (pc' := 25) rfl (hb hby d11_19) rfl (feq hc38).2 (by decide) (by decide) k) ?_
                      show Go p.tables e below (P11 Z p0 p1 h0 n0 s) (s₁.setTop (mkF m 25 #[.val (.ref p0), .val (.int p1), .val (.int (0 : Int32)), .val (.int (15 : Int32)), .val (.int ((p1).toInt8.toInt32)), .val (.int (9 : Int32))] []))
                      refine Go.back (fun t k => XS.iinc X0.here hx rfl (hb hby d11_25) rfl (l' := #[.val (.ref p0), .val (.int p1), .val (.int (0 : Int32)), .val (.int (15 : Int32)), .val (.int ((p1).toInt8.toInt32)), .val (.int ((9 : Int32) + (1 : Int32)))]) rfl k) ?_
                      show Go p.tables e below (P11 Z p0 p1 h0 n0 s) (s₁.setTop (mkF m 28 #[.val (.ref p0), .val (.int p1), .val (.int (0 : Int32)), .val (.int (15 : Int32)), .val (.int ((p1).toInt8.toInt32)), .val (.int ((9 : Int32) + (1 : Int32)))] []))
                      refine Go.back (fun t k => XS.goto X0.here hx rfl (pc0 := 28) (pc' := 7) rfl (hb hby d11_28) (by decide) (by decide) k) ?_
                      show Go p.tables e below (P11 Z p0 p1 h0 n0 s) (s₁.setTop (mkF m 7 #[.val (.ref p0), .val (.int p1), .val (.int (0 : Int32)), .val (.int (15 : Int32)), .val (.int ((p1).toInt8.toInt32)), .val (.int ((9 : Int32) + (1 : Int32)))] []))
                      rw [show ((9 : Int32) + (1 : Int32)) = (10 : Int32) from by decide]
                      refine Go.back (fun t k => XS.iload X0.here hx rfl (hb hby d11_7) rfl  k) ?_
                      show Go p.tables e below (P11 Z p0 p1 h0 n0 s) (s₁.setTop (mkF m 9 #[.val (.ref p0), .val (.int p1), .val (.int (0 : Int32)), .val (.int (15 : Int32)), .val (.int ((p1).toInt8.toInt32)), .val (.int (10 : Int32))] [(.int (10 : Int32))]))
                      refine Go.back (fun t k => XS.iloadN X0.here hx rfl (hb hby d11_9) rfl  k) ?_
                      show Go p.tables e below (P11 Z p0 p1 h0 n0 s) (s₁.setTop (mkF m 10 #[.val (.ref p0), .val (.int p1), .val (.int (0 : Int32)), .val (.int (15 : Int32)), .val (.int ((p1).toInt8.toInt32)), .val (.int (10 : Int32))] [(.int (15 : Int32)), (.int (10 : Int32))]))
                      refine Go.back (fun t k => XS.icmpNo X0.here hx rfl (hb hby d11_10) rfl (tlt (by decide)).2.1 k) ?_
                      show Go p.tables e below (P11 Z p0 p1 h0 n0 s) (s₁.setTop (mkF m 13 #[.val (.ref p0), .val (.int p1), .val (.int (0 : Int32)), .val (.int (15 : Int32)), .val (.int ((p1).toInt8.toInt32)), .val (.int (10 : Int32))] []))
                      refine Go.back (fun t k => XS.aloadN X0.here hx rfl (hb hby d11_13) rfl rfl  k) ?_
                      show Go p.tables e below (P11 Z p0 p1 h0 n0 s) (s₁.setTop (mkF m 14 #[.val (.ref p0), .val (.int p1), .val (.int (0 : Int32)), .val (.int (15 : Int32)), .val (.int ((p1).toInt8.toInt32)), .val (.int (10 : Int32))] [(.ref p0)]))
                      refine Go.back (fun t k => XS.iload X0.here hx rfl (hb hby d11_14) rfl  k) ?_
                      show Go p.tables e below (P11 Z p0 p1 h0 n0 s) (s₁.setTop (mkF m 16 #[.val (.ref p0), .val (.int p1), .val (.int (0 : Int32)), .val (.int (15 : Int32)), .val (.int ((p1).toInt8.toInt32)), .val (.int (10 : Int32))] [(.int (10 : Int32)), (.ref p0)]))
                      obtain ⟨cl41, Ar41, hi41, ha41⟩ := H0.get (j := (10 : Int32)) (by decide) (v := (.int (94 : Int32))) rfl
                      refine Go.back (fun t k => X0.baloadBytes hx (j := (10 : Int32)) (v := (.int (94 : Int32))) (by rw [e0]; exact Ar41.1) (State.isArrayOf_alike hZ.alike Ar41.2.1) Ar41.2.2 hi41 ha41 (g := (mkF m 16 #[.val (.ref p0), .val (.int p1), .val (.int (0 : Int32)), .val (.int (15 : Int32)), .val (.int ((p1).toInt8.toInt32)), .val (.int (10 : Int32))] [(.int (10 : Int32)), (.ref p0)])) rfl rfl (hb hby d11_16) t k) ?_
                      show Go p.tables e below (P11 Z p0 p1 h0 n0 s) (s₁.setTop (mkF m 17 #[.val (.ref p0), .val (.int p1), .val (.int (0 : Int32)), .val (.int (15 : Int32)), .val (.int ((p1).toInt8.toInt32)), .val (.int (10 : Int32))] [(.int (94 : Int32))]))
                      refine Go.back (fun t k => XS.iload X0.here hx rfl (hb hby d11_17) rfl  k) ?_
                      show Go p.tables e below (P11 Z p0 p1 h0 n0 s) (s₁.setTop (mkF m 19 #[.val (.ref p0), .val (.int p1), .val (.int (0 : Int32)), .val (.int (15 : Int32)), .val (.int ((p1).toInt8.toInt32)), .val (.int (10 : Int32))] [(.int ((p1).toInt8.toInt32)), (.int (94 : Int32))]))
                      by_cases hc42 : (94 : Int32) = ((p1).toInt8.toInt32)
                      · have r43 := r40.trans (if_pos hc42)
                        refine Go.back (fun t k => XS.icmpNo X0.here hx rfl (hb hby d11_19) rfl (teq hc42).2 k) ?_
                        show Go p.tables e below (P11 Z p0 p1 h0 n0 s) (s₁.setTop (mkF m 22 #[.val (.ref p0), .val (.int p1), .val (.int (0 : Int32)), .val (.int (15 : Int32)), .val (.int ((p1).toInt8.toInt32)), .val (.int (10 : Int32))] []))
                        refine Go.back (fun t k => XS.iload X0.here hx rfl (hb hby d11_22) rfl  k) ?_
                        show Go p.tables e below (P11 Z p0 p1 h0 n0 s) (s₁.setTop (mkF m 24 #[.val (.ref p0), .val (.int p1), .val (.int (0 : Int32)), .val (.int (15 : Int32)), .val (.int ((p1).toInt8.toInt32)), .val (.int (10 : Int32))] [(.int (10 : Int32))]))
                        exact Go.retI X0 hx Bd.returns (hb hby d11_24) Bd.notSynchronized ⟨by rw [r43], N0, e0⟩ (by decide) (by decide)
                      · have r44 := r40.trans (if_neg hc42)
                        refine Go.back (fun t k => XS.icmpYes X0.here hx rfl (pc0 := 19) (pc' := 25) rfl (hb hby d11_19) rfl (feq hc42).2 (by decide) (by decide) k) ?_
                        show Go p.tables e below (P11 Z p0 p1 h0 n0 s) (s₁.setTop (mkF m 25 #[.val (.ref p0), .val (.int p1), .val (.int (0 : Int32)), .val (.int (15 : Int32)), .val (.int ((p1).toInt8.toInt32)), .val (.int (10 : Int32))] []))
                        refine Go.back (fun t k => XS.iinc X0.here hx rfl (hb hby d11_25) rfl (l' := #[.val (.ref p0), .val (.int p1), .val (.int (0 : Int32)), .val (.int (15 : Int32)), .val (.int ((p1).toInt8.toInt32)), .val (.int ((10 : Int32) + (1 : Int32)))]) rfl k) ?_
                        show Go p.tables e below (P11 Z p0 p1 h0 n0 s) (s₁.setTop (mkF m 28 #[.val (.ref p0), .val (.int p1), .val (.int (0 : Int32)), .val (.int (15 : Int32)), .val (.int ((p1).toInt8.toInt32)), .val (.int ((10 : Int32) + (1 : Int32)))] []))
                        refine Go.back (fun t k => XS.goto X0.here hx rfl (pc0 := 28) (pc' := 7) rfl (hb hby d11_28) (by decide) (by decide) k) ?_
                        show Go p.tables e below (P11 Z p0 p1 h0 n0 s) (s₁.setTop (mkF m 7 #[.val (.ref p0), .val (.int p1), .val (.int (0 : Int32)), .val (.int (15 : Int32)), .val (.int ((p1).toInt8.toInt32)), .val (.int ((10 : Int32) + (1 : Int32)))] []))
                        rw [show ((10 : Int32) + (1 : Int32)) = (11 : Int32) from by decide]
                        refine Go.back (fun t k => XS.iload X0.here hx rfl (hb hby d11_7) rfl  k) ?_
                        show Go p.tables e below (P11 Z p0 p1 h0 n0 s) (s₁.setTop (mkF m 9 #[.val (.ref p0), .val (.int p1), .val (.int (0 : Int32)), .val (.int (15 : Int32)), .val (.int ((p1).toInt8.toInt32)), .val (.int (11 : Int32))] [(.int (11 : Int32))]))
                        refine Go.back (fun t k => XS.iloadN X0.here hx rfl (hb hby d11_9) rfl  k) ?_
                        show Go p.tables e below (P11 Z p0 p1 h0 n0 s) (s₁.setTop (mkF m 10 #[.val (.ref p0), .val (.int p1), .val (.int (0 : Int32)), .val (.int (15 : Int32)), .val (.int ((p1).toInt8.toInt32)), .val (.int (11 : Int32))] [(.int (15 : Int32)), (.int (11 : Int32))]))
                        refine Go.back (fun t k => XS.icmpNo X0.here hx rfl (hb hby d11_10) rfl (tlt (by decide)).2.1 k) ?_
                        show Go p.tables e below (P11 Z p0 p1 h0 n0 s) (s₁.setTop (mkF m 13 #[.val (.ref p0), .val (.int p1), .val (.int (0 : Int32)), .val (.int (15 : Int32)), .val (.int ((p1).toInt8.toInt32)), .val (.int (11 : Int32))] []))
                        refine Go.back (fun t k => XS.aloadN X0.here hx rfl (hb hby d11_13) rfl rfl  k) ?_
                        show Go p.tables e below (P11 Z p0 p1 h0 n0 s) (s₁.setTop (mkF m 14 #[.val (.ref p0), .val (.int p1), .val (.int (0 : Int32)), .val (.int (15 : Int32)), .val (.int ((p1).toInt8.toInt32)), .val (.int (11 : Int32))] [(.ref p0)]))
                        refine Go.back (fun t k => XS.iload X0.here hx rfl (hb hby d11_14) rfl  k) ?_
                        show Go p.tables e below (P11 Z p0 p1 h0 n0 s) (s₁.setTop (mkF m 16 #[.val (.ref p0), .val (.int p1), .val (.int (0 : Int32)), .val (.int (15 : Int32)), .val (.int ((p1).toInt8.toInt32)), .val (.int (11 : Int32))] [(.int (11 : Int32)), (.ref p0)]))
                        obtain ⟨cl45, Ar45, hi45, ha45⟩ := H0.get (j := (11 : Int32)) (by decide) (v := (.int (95 : Int32))) rfl
                        refine Go.back (fun t k => X0.baloadBytes hx (j := (11 : Int32)) (v := (.int (95 : Int32))) (by rw [e0]; exact Ar45.1) (State.isArrayOf_alike hZ.alike Ar45.2.1) Ar45.2.2 hi45 ha45 (g := (mkF m 16 #[.val (.ref p0), .val (.int p1), .val (.int (0 : Int32)), .val (.int (15 : Int32)), .val (.int ((p1).toInt8.toInt32)), .val (.int (11 : Int32))] [(.int (11 : Int32)), (.ref p0)])) rfl rfl (hb hby d11_16) t k) ?_
                        show Go p.tables e below (P11 Z p0 p1 h0 n0 s) (s₁.setTop (mkF m 17 #[.val (.ref p0), .val (.int p1), .val (.int (0 : Int32)), .val (.int (15 : Int32)), .val (.int ((p1).toInt8.toInt32)), .val (.int (11 : Int32))] [(.int (95 : Int32))]))
                        refine Go.back (fun t k => XS.iload X0.here hx rfl (hb hby d11_17) rfl  k) ?_
                        show Go p.tables e below (P11 Z p0 p1 h0 n0 s) (s₁.setTop (mkF m 19 #[.val (.ref p0), .val (.int p1), .val (.int (0 : Int32)), .val (.int (15 : Int32)), .val (.int ((p1).toInt8.toInt32)), .val (.int (11 : Int32))] [(.int ((p1).toInt8.toInt32)), (.int (95 : Int32))]))
                        by_cases hc46 : (95 : Int32) = ((p1).toInt8.toInt32)
                        · have r47 := r44.trans (if_pos hc46)
                          refine Go.back (fun t k => XS.icmpNo X0.here hx rfl (hb hby d11_19) rfl (teq hc46).2 k) ?_
                          show Go p.tables e below (P11 Z p0 p1 h0 n0 s) (s₁.setTop (mkF m 22 #[.val (.ref p0), .val (.int p1), .val (.int (0 : Int32)), .val (.int (15 : Int32)), .val (.int ((p1).toInt8.toInt32)), .val (.int (11 : Int32))] []))
                          refine Go.back (fun t k => XS.iload X0.here hx rfl (hb hby d11_22) rfl  k) ?_
                          show Go p.tables e below (P11 Z p0 p1 h0 n0 s) (s₁.setTop (mkF m 24 #[.val (.ref p0), .val (.int p1), .val (.int (0 : Int32)), .val (.int (15 : Int32)), .val (.int ((p1).toInt8.toInt32)), .val (.int (11 : Int32))] [(.int (11 : Int32))]))
                          exact Go.retI X0 hx Bd.returns (hb hby d11_24) Bd.notSynchronized ⟨by rw [r47], N0, e0⟩ (by decide) (by decide)
                        · have r48 := r44.trans (if_neg hc46)
                          refine Go.back (fun t k => XS.icmpYes X0.here hx rfl (pc0 := 19) (pc' := 25) rfl (hb hby d11_19) rfl (feq hc46).2 (by decide) (by decide) k) ?_
                          show Go p.tables e below (P11 Z p0 p1 h0 n0 s) (s₁.setTop (mkF m 25 #[.val (.ref p0), .val (.int p1), .val (.int (0 : Int32)), .val (.int (15 : Int32)), .val (.int ((p1).toInt8.toInt32)), .val (.int (11 : Int32))] []))
                          refine Go.back (fun t k => XS.iinc X0.here hx rfl (hb hby d11_25) rfl (l' := #[.val (.ref p0), .val (.int p1), .val (.int (0 : Int32)), .val (.int (15 : Int32)), .val (.int ((p1).toInt8.toInt32)), .val (.int ((11 : Int32) + (1 : Int32)))]) rfl k) ?_
                          show Go p.tables e below (P11 Z p0 p1 h0 n0 s) (s₁.setTop (mkF m 28 #[.val (.ref p0), .val (.int p1), .val (.int (0 : Int32)), .val (.int (15 : Int32)), .val (.int ((p1).toInt8.toInt32)), .val (.int ((11 : Int32) + (1 : Int32)))] []))
                          refine Go.back (fun t k => XS.goto X0.here hx rfl (pc0 := 28) (pc' := 7) rfl (hb hby d11_28) (by decide) (by decide) k) ?_
                          show Go p.tables e below (P11 Z p0 p1 h0 n0 s) (s₁.setTop (mkF m 7 #[.val (.ref p0), .val (.int p1), .val (.int (0 : Int32)), .val (.int (15 : Int32)), .val (.int ((p1).toInt8.toInt32)), .val (.int ((11 : Int32) + (1 : Int32)))] []))
                          rw [show ((11 : Int32) + (1 : Int32)) = (12 : Int32) from by decide]
                          refine Go.back (fun t k => XS.iload X0.here hx rfl (hb hby d11_7) rfl  k) ?_
                          show Go p.tables e below (P11 Z p0 p1 h0 n0 s) (s₁.setTop (mkF m 9 #[.val (.ref p0), .val (.int p1), .val (.int (0 : Int32)), .val (.int (15 : Int32)), .val (.int ((p1).toInt8.toInt32)), .val (.int (12 : Int32))] [(.int (12 : Int32))]))
                          refine Go.back (fun t k => XS.iloadN X0.here hx rfl (hb hby d11_9) rfl  k) ?_
                          show Go p.tables e below (P11 Z p0 p1 h0 n0 s) (s₁.setTop (mkF m 10 #[.val (.ref p0), .val (.int p1), .val (.int (0 : Int32)), .val (.int (15 : Int32)), .val (.int ((p1).toInt8.toInt32)), .val (.int (12 : Int32))] [(.int (15 : Int32)), (.int (12 : Int32))]))
                          refine Go.back (fun t k => XS.icmpNo X0.here hx rfl (hb hby d11_10) rfl (tlt (by decide)).2.1 k) ?_
                          show Go p.tables e below (P11 Z p0 p1 h0 n0 s) (s₁.setTop (mkF m 13 #[.val (.ref p0), .val (.int p1), .val (.int (0 : Int32)), .val (.int (15 : Int32)), .val (.int ((p1).toInt8.toInt32)), .val (.int (12 : Int32))] []))
                          refine Go.back (fun t k => XS.aloadN X0.here hx rfl (hb hby d11_13) rfl rfl  k) ?_
                          show Go p.tables e below (P11 Z p0 p1 h0 n0 s) (s₁.setTop (mkF m 14 #[.val (.ref p0), .val (.int p1), .val (.int (0 : Int32)), .val (.int (15 : Int32)), .val (.int ((p1).toInt8.toInt32)), .val (.int (12 : Int32))] [(.ref p0)]))
                          refine Go.back (fun t k => XS.iload X0.here hx rfl (hb hby d11_14) rfl  k) ?_
                          show Go p.tables e below (P11 Z p0 p1 h0 n0 s) (s₁.setTop (mkF m 16 #[.val (.ref p0), .val (.int p1), .val (.int (0 : Int32)), .val (.int (15 : Int32)), .val (.int ((p1).toInt8.toInt32)), .val (.int (12 : Int32))] [(.int (12 : Int32)), (.ref p0)]))
                          obtain ⟨cl49, Ar49, hi49, ha49⟩ := H0.get (j := (12 : Int32)) (by decide) (v := (.int (96 : Int32))) rfl
                          refine Go.back (fun t k => X0.baloadBytes hx (j := (12 : Int32)) (v := (.int (96 : Int32))) (by rw [e0]; exact Ar49.1) (State.isArrayOf_alike hZ.alike Ar49.2.1) Ar49.2.2 hi49 ha49 (g := (mkF m 16 #[.val (.ref p0), .val (.int p1), .val (.int (0 : Int32)), .val (.int (15 : Int32)), .val (.int ((p1).toInt8.toInt32)), .val (.int (12 : Int32))] [(.int (12 : Int32)), (.ref p0)])) rfl rfl (hb hby d11_16) t k) ?_
                          show Go p.tables e below (P11 Z p0 p1 h0 n0 s) (s₁.setTop (mkF m 17 #[.val (.ref p0), .val (.int p1), .val (.int (0 : Int32)), .val (.int (15 : Int32)), .val (.int ((p1).toInt8.toInt32)), .val (.int (12 : Int32))] [(.int (96 : Int32))]))
                          refine Go.back (fun t k => XS.iload X0.here hx rfl (hb hby d11_17) rfl  k) ?_
                          show Go p.tables e below (P11 Z p0 p1 h0 n0 s) (s₁.setTop (mkF m 19 #[.val (.ref p0), .val (.int p1), .val (.int (0 : Int32)), .val (.int (15 : Int32)), .val (.int ((p1).toInt8.toInt32)), .val (.int (12 : Int32))] [(.int ((p1).toInt8.toInt32)), (.int (96 : Int32))]))
                          by_cases hc50 : (96 : Int32) = ((p1).toInt8.toInt32)
                          · have r51 := r48.trans (if_pos hc50)
                            refine Go.back (fun t k => XS.icmpNo X0.here hx rfl (hb hby d11_19) rfl (teq hc50).2 k) ?_
                            show Go p.tables e below (P11 Z p0 p1 h0 n0 s) (s₁.setTop (mkF m 22 #[.val (.ref p0), .val (.int p1), .val (.int (0 : Int32)), .val (.int (15 : Int32)), .val (.int ((p1).toInt8.toInt32)), .val (.int (12 : Int32))] []))
                            refine Go.back (fun t k => XS.iload X0.here hx rfl (hb hby d11_22) rfl  k) ?_
                            show Go p.tables e below (P11 Z p0 p1 h0 n0 s) (s₁.setTop (mkF m 24 #[.val (.ref p0), .val (.int p1), .val (.int (0 : Int32)), .val (.int (15 : Int32)), .val (.int ((p1).toInt8.toInt32)), .val (.int (12 : Int32))] [(.int (12 : Int32))]))
                            exact Go.retI X0 hx Bd.returns (hb hby d11_24) Bd.notSynchronized ⟨by rw [r51], N0, e0⟩ (by decide) (by decide)
                          · have r52 := r48.trans (if_neg hc50)
                            refine Go.back (fun t k => XS.icmpYes X0.here hx rfl (pc0 := 19) (pc' := 25) rfl (hb hby d11_19) rfl (feq hc50).2 (by decide) (by decide) k) ?_
                            show Go p.tables e below (P11 Z p0 p1 h0 n0 s) (s₁.setTop (mkF m 25 #[.val (.ref p0), .val (.int p1), .val (.int (0 : Int32)), .val (.int (15 : Int32)), .val (.int ((p1).toInt8.toInt32)), .val (.int (12 : Int32))] []))
                            refine Go.back (fun t k => XS.iinc X0.here hx rfl (hb hby d11_25) rfl (l' := #[.val (.ref p0), .val (.int p1), .val (.int (0 : Int32)), .val (.int (15 : Int32)), .val (.int ((p1).toInt8.toInt32)), .val (.int ((12 : Int32) + (1 : Int32)))]) rfl k) ?_
                            show Go p.tables e below (P11 Z p0 p1 h0 n0 s) (s₁.setTop (mkF m 28 #[.val (.ref p0), .val (.int p1), .val (.int (0 : Int32)), .val (.int (15 : Int32)), .val (.int ((p1).toInt8.toInt32)), .val (.int ((12 : Int32) + (1 : Int32)))] []))
                            refine Go.back (fun t k => XS.goto X0.here hx rfl (pc0 := 28) (pc' := 7) rfl (hb hby d11_28) (by decide) (by decide) k) ?_
                            show Go p.tables e below (P11 Z p0 p1 h0 n0 s) (s₁.setTop (mkF m 7 #[.val (.ref p0), .val (.int p1), .val (.int (0 : Int32)), .val (.int (15 : Int32)), .val (.int ((p1).toInt8.toInt32)), .val (.int ((12 : Int32) + (1 : Int32)))] []))
                            rw [show ((12 : Int32) + (1 : Int32)) = (13 : Int32) from by decide]
                            refine Go.back (fun t k => XS.iload X0.here hx rfl (hb hby d11_7) rfl  k) ?_
                            show Go p.tables e below (P11 Z p0 p1 h0 n0 s) (s₁.setTop (mkF m 9 #[.val (.ref p0), .val (.int p1), .val (.int (0 : Int32)), .val (.int (15 : Int32)), .val (.int ((p1).toInt8.toInt32)), .val (.int (13 : Int32))] [(.int (13 : Int32))]))
                            refine Go.back (fun t k => XS.iloadN X0.here hx rfl (hb hby d11_9) rfl  k) ?_
                            show Go p.tables e below (P11 Z p0 p1 h0 n0 s) (s₁.setTop (mkF m 10 #[.val (.ref p0), .val (.int p1), .val (.int (0 : Int32)), .val (.int (15 : Int32)), .val (.int ((p1).toInt8.toInt32)), .val (.int (13 : Int32))] [(.int (15 : Int32)), (.int (13 : Int32))]))
                            refine Go.back (fun t k => XS.icmpNo X0.here hx rfl (hb hby d11_10) rfl (tlt (by decide)).2.1 k) ?_
                            show Go p.tables e below (P11 Z p0 p1 h0 n0 s) (s₁.setTop (mkF m 13 #[.val (.ref p0), .val (.int p1), .val (.int (0 : Int32)), .val (.int (15 : Int32)), .val (.int ((p1).toInt8.toInt32)), .val (.int (13 : Int32))] []))
                            refine Go.back (fun t k => XS.aloadN X0.here hx rfl (hb hby d11_13) rfl rfl  k) ?_
                            show Go p.tables e below (P11 Z p0 p1 h0 n0 s) (s₁.setTop (mkF m 14 #[.val (.ref p0), .val (.int p1), .val (.int (0 : Int32)), .val (.int (15 : Int32)), .val (.int ((p1).toInt8.toInt32)), .val (.int (13 : Int32))] [(.ref p0)]))
                            refine Go.back (fun t k => XS.iload X0.here hx rfl (hb hby d11_14) rfl  k) ?_
                            show Go p.tables e below (P11 Z p0 p1 h0 n0 s) (s₁.setTop (mkF m 16 #[.val (.ref p0), .val (.int p1), .val (.int (0 : Int32)), .val (.int (15 : Int32)), .val (.int ((p1).toInt8.toInt32)), .val (.int (13 : Int32))] [(.int (13 : Int32)), (.ref p0)]))
                            obtain ⟨cl53, Ar53, hi53, ha53⟩ := H0.get (j := (13 : Int32)) (by decide) (v := (.int (124 : Int32))) rfl
                            refine Go.back (fun t k => X0.baloadBytes hx (j := (13 : Int32)) (v := (.int (124 : Int32))) (by rw [e0]; exact Ar53.1) (State.isArrayOf_alike hZ.alike Ar53.2.1) Ar53.2.2 hi53 ha53 (g := (mkF m 16 #[.val (.ref p0), .val (.int p1), .val (.int (0 : Int32)), .val (.int (15 : Int32)), .val (.int ((p1).toInt8.toInt32)), .val (.int (13 : Int32))] [(.int (13 : Int32)), (.ref p0)])) rfl rfl (hb hby d11_16) t k) ?_
                            show Go p.tables e below (P11 Z p0 p1 h0 n0 s) (s₁.setTop (mkF m 17 #[.val (.ref p0), .val (.int p1), .val (.int (0 : Int32)), .val (.int (15 : Int32)), .val (.int ((p1).toInt8.toInt32)), .val (.int (13 : Int32))] [(.int (124 : Int32))]))
                            refine Go.back (fun t k => XS.iload X0.here hx rfl (hb hby d11_17) rfl  k) ?_
                            show Go p.tables e below (P11 Z p0 p1 h0 n0 s) (s₁.setTop (mkF m 19 #[.val (.ref p0), .val (.int p1), .val (.int (0 : Int32)), .val (.int (15 : Int32)), .val (.int ((p1).toInt8.toInt32)), .val (.int (13 : Int32))] [(.int ((p1).toInt8.toInt32)), (.int (124 : Int32))]))
                            by_cases hc54 : (124 : Int32) = ((p1).toInt8.toInt32)
                            · have r55 := r52.trans (if_pos hc54)
                              refine Go.back (fun t k => XS.icmpNo X0.here hx rfl (hb hby d11_19) rfl (teq hc54).2 k) ?_
                              show Go p.tables e below (P11 Z p0 p1 h0 n0 s) (s₁.setTop (mkF m 22 #[.val (.ref p0), .val (.int p1), .val (.int (0 : Int32)), .val (.int (15 : Int32)), .val (.int ((p1).toInt8.toInt32)), .val (.int (13 : Int32))] []))
                              refine Go.back (fun t k => XS.iload X0.here hx rfl (hb hby d11_22) rfl  k) ?_
                              show Go p.tables e below (P11 Z p0 p1 h0 n0 s) (s₁.setTop (mkF m 24 #[.val (.ref p0), .val (.int p1), .val (.int (0 : Int32)), .val (.int (15 : Int32)), .val (.int ((p1).toInt8.toInt32)), .val (.int (13 : Int32))] [(.int (13 : Int32))]))
                              exact Go.retI X0 hx Bd.returns (hb hby d11_24) Bd.notSynchronized ⟨by rw [r55], N0, e0⟩ (by decide) (by decide)
                            · have r56 := r52.trans (if_neg hc54)
                              refine Go.back (fun t k => XS.icmpYes X0.here hx rfl (pc0 := 19) (pc' := 25) rfl (hb hby d11_19) rfl (feq hc54).2 (by decide) (by decide) k) ?_
                              show Go p.tables e below (P11 Z p0 p1 h0 n0 s) (s₁.setTop (mkF m 25 #[.val (.ref p0), .val (.int p1), .val (.int (0 : Int32)), .val (.int (15 : Int32)), .val (.int ((p1).toInt8.toInt32)), .val (.int (13 : Int32))] []))
                              refine Go.back (fun t k => XS.iinc X0.here hx rfl (hb hby d11_25) rfl (l' := #[.val (.ref p0), .val (.int p1), .val (.int (0 : Int32)), .val (.int (15 : Int32)), .val (.int ((p1).toInt8.toInt32)), .val (.int ((13 : Int32) + (1 : Int32)))]) rfl k) ?_
                              show Go p.tables e below (P11 Z p0 p1 h0 n0 s) (s₁.setTop (mkF m 28 #[.val (.ref p0), .val (.int p1), .val (.int (0 : Int32)), .val (.int (15 : Int32)), .val (.int ((p1).toInt8.toInt32)), .val (.int ((13 : Int32) + (1 : Int32)))] []))
                              refine Go.back (fun t k => XS.goto X0.here hx rfl (pc0 := 28) (pc' := 7) rfl (hb hby d11_28) (by decide) (by decide) k) ?_
                              show Go p.tables e below (P11 Z p0 p1 h0 n0 s) (s₁.setTop (mkF m 7 #[.val (.ref p0), .val (.int p1), .val (.int (0 : Int32)), .val (.int (15 : Int32)), .val (.int ((p1).toInt8.toInt32)), .val (.int ((13 : Int32) + (1 : Int32)))] []))
                              rw [show ((13 : Int32) + (1 : Int32)) = (14 : Int32) from by decide]
                              refine Go.back (fun t k => XS.iload X0.here hx rfl (hb hby d11_7) rfl  k) ?_
                              show Go p.tables e below (P11 Z p0 p1 h0 n0 s) (s₁.setTop (mkF m 9 #[.val (.ref p0), .val (.int p1), .val (.int (0 : Int32)), .val (.int (15 : Int32)), .val (.int ((p1).toInt8.toInt32)), .val (.int (14 : Int32))] [(.int (14 : Int32))]))
                              refine Go.back (fun t k => XS.iloadN X0.here hx rfl (hb hby d11_9) rfl  k) ?_
                              show Go p.tables e below (P11 Z p0 p1 h0 n0 s) (s₁.setTop (mkF m 10 #[.val (.ref p0), .val (.int p1), .val (.int (0 : Int32)), .val (.int (15 : Int32)), .val (.int ((p1).toInt8.toInt32)), .val (.int (14 : Int32))] [(.int (15 : Int32)), (.int (14 : Int32))]))
                              refine Go.back (fun t k => XS.icmpNo X0.here hx rfl (hb hby d11_10) rfl (tlt (by decide)).2.1 k) ?_
                              show Go p.tables e below (P11 Z p0 p1 h0 n0 s) (s₁.setTop (mkF m 13 #[.val (.ref p0), .val (.int p1), .val (.int (0 : Int32)), .val (.int (15 : Int32)), .val (.int ((p1).toInt8.toInt32)), .val (.int (14 : Int32))] []))
                              refine Go.back (fun t k => XS.aloadN X0.here hx rfl (hb hby d11_13) rfl rfl  k) ?_
                              show Go p.tables e below (P11 Z p0 p1 h0 n0 s) (s₁.setTop (mkF m 14 #[.val (.ref p0), .val (.int p1), .val (.int (0 : Int32)), .val (.int (15 : Int32)), .val (.int ((p1).toInt8.toInt32)), .val (.int (14 : Int32))] [(.ref p0)]))
                              refine Go.back (fun t k => XS.iload X0.here hx rfl (hb hby d11_14) rfl  k) ?_
                              show Go p.tables e below (P11 Z p0 p1 h0 n0 s) (s₁.setTop (mkF m 16 #[.val (.ref p0), .val (.int p1), .val (.int (0 : Int32)), .val (.int (15 : Int32)), .val (.int ((p1).toInt8.toInt32)), .val (.int (14 : Int32))] [(.int (14 : Int32)), (.ref p0)]))
                              obtain ⟨cl57, Ar57, hi57, ha57⟩ := H0.get (j := (14 : Int32)) (by decide) (v := (.int (126 : Int32))) rfl
                              refine Go.back (fun t k => X0.baloadBytes hx (j := (14 : Int32)) (v := (.int (126 : Int32))) (by rw [e0]; exact Ar57.1) (State.isArrayOf_alike hZ.alike Ar57.2.1) Ar57.2.2 hi57 ha57 (g := (mkF m 16 #[.val (.ref p0), .val (.int p1), .val (.int (0 : Int32)), .val (.int (15 : Int32)), .val (.int ((p1).toInt8.toInt32)), .val (.int (14 : Int32))] [(.int (14 : Int32)), (.ref p0)])) rfl rfl (hb hby d11_16) t k) ?_
                              show Go p.tables e below (P11 Z p0 p1 h0 n0 s) (s₁.setTop (mkF m 17 #[.val (.ref p0), .val (.int p1), .val (.int (0 : Int32)), .val (.int (15 : Int32)), .val (.int ((p1).toInt8.toInt32)), .val (.int (14 : Int32))] [(.int (126 : Int32))]))
                              refine Go.back (fun t k => XS.iload X0.here hx rfl (hb hby d11_17) rfl  k) ?_
                              show Go p.tables e below (P11 Z p0 p1 h0 n0 s) (s₁.setTop (mkF m 19 #[.val (.ref p0), .val (.int p1), .val (.int (0 : Int32)), .val (.int (15 : Int32)), .val (.int ((p1).toInt8.toInt32)), .val (.int (14 : Int32))] [(.int ((p1).toInt8.toInt32)), (.int (126 : Int32))]))
                              by_cases hc58 : (126 : Int32) = ((p1).toInt8.toInt32)
                              · have r59 := r56.trans (if_pos hc58)
                                refine Go.back (fun t k => XS.icmpNo X0.here hx rfl (hb hby d11_19) rfl (teq hc58).2 k) ?_
                                show Go p.tables e below (P11 Z p0 p1 h0 n0 s) (s₁.setTop (mkF m 22 #[.val (.ref p0), .val (.int p1), .val (.int (0 : Int32)), .val (.int (15 : Int32)), .val (.int ((p1).toInt8.toInt32)), .val (.int (14 : Int32))] []))
                                refine Go.back (fun t k => XS.iload X0.here hx rfl (hb hby d11_22) rfl  k) ?_
                                show Go p.tables e below (P11 Z p0 p1 h0 n0 s) (s₁.setTop (mkF m 24 #[.val (.ref p0), .val (.int p1), .val (.int (0 : Int32)), .val (.int (15 : Int32)), .val (.int ((p1).toInt8.toInt32)), .val (.int (14 : Int32))] [(.int (14 : Int32))]))
                                exact Go.retI X0 hx Bd.returns (hb hby d11_24) Bd.notSynchronized ⟨by rw [r59], N0, e0⟩ (by decide) (by decide)
                              · have r60 := r56.trans (if_neg hc58)
                                refine Go.back (fun t k => XS.icmpYes X0.here hx rfl (pc0 := 19) (pc' := 25) rfl (hb hby d11_19) rfl (feq hc58).2 (by decide) (by decide) k) ?_
                                show Go p.tables e below (P11 Z p0 p1 h0 n0 s) (s₁.setTop (mkF m 25 #[.val (.ref p0), .val (.int p1), .val (.int (0 : Int32)), .val (.int (15 : Int32)), .val (.int ((p1).toInt8.toInt32)), .val (.int (14 : Int32))] []))
                                refine Go.back (fun t k => XS.iinc X0.here hx rfl (hb hby d11_25) rfl (l' := #[.val (.ref p0), .val (.int p1), .val (.int (0 : Int32)), .val (.int (15 : Int32)), .val (.int ((p1).toInt8.toInt32)), .val (.int ((14 : Int32) + (1 : Int32)))]) rfl k) ?_
                                show Go p.tables e below (P11 Z p0 p1 h0 n0 s) (s₁.setTop (mkF m 28 #[.val (.ref p0), .val (.int p1), .val (.int (0 : Int32)), .val (.int (15 : Int32)), .val (.int ((p1).toInt8.toInt32)), .val (.int ((14 : Int32) + (1 : Int32)))] []))
                                refine Go.back (fun t k => XS.goto X0.here hx rfl (pc0 := 28) (pc' := 7) rfl (hb hby d11_28) (by decide) (by decide) k) ?_
                                show Go p.tables e below (P11 Z p0 p1 h0 n0 s) (s₁.setTop (mkF m 7 #[.val (.ref p0), .val (.int p1), .val (.int (0 : Int32)), .val (.int (15 : Int32)), .val (.int ((p1).toInt8.toInt32)), .val (.int ((14 : Int32) + (1 : Int32)))] []))
                                rw [show ((14 : Int32) + (1 : Int32)) = (15 : Int32) from by decide]
                                refine Go.back (fun t k => XS.iload X0.here hx rfl (hb hby d11_7) rfl  k) ?_
                                show Go p.tables e below (P11 Z p0 p1 h0 n0 s) (s₁.setTop (mkF m 9 #[.val (.ref p0), .val (.int p1), .val (.int (0 : Int32)), .val (.int (15 : Int32)), .val (.int ((p1).toInt8.toInt32)), .val (.int (15 : Int32))] [(.int (15 : Int32))]))
                                refine Go.back (fun t k => XS.iloadN X0.here hx rfl (hb hby d11_9) rfl  k) ?_
                                show Go p.tables e below (P11 Z p0 p1 h0 n0 s) (s₁.setTop (mkF m 10 #[.val (.ref p0), .val (.int p1), .val (.int (0 : Int32)), .val (.int (15 : Int32)), .val (.int ((p1).toInt8.toInt32)), .val (.int (15 : Int32))] [(.int (15 : Int32)), (.int (15 : Int32))]))
                                refine Go.back (fun t k => XS.icmpYes X0.here hx rfl (pc0 := 10) (pc' := 31) rfl (hb hby d11_10) rfl (flt (by decide)).2.1 (by decide) (by decide) k) ?_
                                show Go p.tables e below (P11 Z p0 p1 h0 n0 s) (s₁.setTop (mkF m 31 #[.val (.ref p0), .val (.int p1), .val (.int (0 : Int32)), .val (.int (15 : Int32)), .val (.int ((p1).toInt8.toInt32)), .val (.int (15 : Int32))] []))
                                refine Go.back (fun t k => XS.iconst X0.here hx rfl (hb hby d11_31) k) ?_
                                show Go p.tables e below (P11 Z p0 p1 h0 n0 s) (s₁.setTop (mkF m 32 #[.val (.ref p0), .val (.int p1), .val (.int (0 : Int32)), .val (.int (15 : Int32)), .val (.int ((p1).toInt8.toInt32)), .val (.int (15 : Int32))] [(.int (-1 : Int32))]))
                                exact Go.retI X0 hx Bd.returns (hb hby d11_32) Bd.notSynchronized ⟨by rw [r60], N0, e0⟩ (by decide) (by decide)
theorem d7_0 : decode jdk_43_method_22_code 0 = .ok (.iload_n 1, 1) := by decide +kernel
theorem d7_1 : decode jdk_43_method_22_code 1 = .ok (.invokestatic 88, 3) := by decide +kernel
theorem d7_4 : decode jdk_43_method_22_code 4 = .ok (.ifCond .ne 5, 3) := by decide +kernel
theorem d7_7 : decode jdk_43_method_22_code 7 = .ok (.iconst (-1), 1) := by decide +kernel
theorem d7_8 : decode jdk_43_method_22_code 8 = .ok (.ireturn, 1) := by decide +kernel
theorem d7_9 : decode jdk_43_method_22_code 9 = .ok (.iload_n 2, 1) := by decide +kernel
theorem d7_10 : decode jdk_43_method_22_code 10 = .ok (.iconst 0, 1) := by decide +kernel
theorem d7_11 : decode jdk_43_method_22_code 11 = .ok (.invokestatic 92, 3) := by decide +kernel
theorem d7_14 : decode jdk_43_method_22_code 14 = .ok (.istore_n 2, 1) := by decide +kernel
theorem d7_15 : decode jdk_43_method_22_code 15 = .ok (.iload_n 3, 1) := by decide +kernel
theorem d7_16 : decode jdk_43_method_22_code 16 = .ok (.aload_n 0, 1) := by decide +kernel
theorem d7_17 : decode jdk_43_method_22_code 17 = .ok (.arraylength, 1) := by decide +kernel
theorem d7_18 : decode jdk_43_method_22_code 18 = .ok (.invokestatic 38, 3) := by decide +kernel
theorem d7_21 : decode jdk_43_method_22_code 21 = .ok (.istore_n 3, 1) := by decide +kernel
theorem d7_22 : decode jdk_43_method_22_code 22 = .ok (.iload_n 2, 1) := by decide +kernel
theorem d7_23 : decode jdk_43_method_22_code 23 = .ok (.iload_n 3, 1) := by decide +kernel
theorem d7_24 : decode jdk_43_method_22_code 24 = .ok (.if_icmp .lt 5, 3) := by decide +kernel
theorem d7_29 : decode jdk_43_method_22_code 29 = .ok (.aload_n 0, 1) := by decide +kernel
theorem d7_30 : decode jdk_43_method_22_code 30 = .ok (.iload_n 1, 1) := by decide +kernel
theorem d7_31 : decode jdk_43_method_22_code 31 = .ok (.iload_n 2, 1) := by decide +kernel
theorem d7_32 : decode jdk_43_method_22_code 32 = .ok (.iload_n 3, 1) := by decide +kernel
theorem d7_33 : decode jdk_43_method_22_code 33 = .ok (.invokestatic 95, 3) := by decide +kernel
theorem d7_36 : decode jdk_43_method_22_code 36 = .ok (.ireturn, 1) := by decide +kernel
def f7 (p1 : Int32) : Int32 := (if (f8 p1) = true then (f11 p1) else (-1 : Int32))
def Q7 (Z : State) (p0 : Addr) (p1 : Int32) (h0 : Heap) (n0 : Nat) (v : Option Value) (h : Heap) (L : List Loc) : Prop := v = some (.int (f7 p1)) ∧ Fr n0 L ∧ h = h0
abbrev rmm7 : Room := { frames := 1, cells := 0, slots := 0, locals := 17 }
abbrev P7 (Z : State) (p0 : Addr) (p1 : Int32) (h0 : Heap) (n0 : Nat) (s : State) : Outcome → State → Prop := fun o U' => ∃ v L, o = .returned v ∧ Q7 Z p0 p1 h0 n0 v U'.heap L ∧ FrameEnd s o U' L rmm7.cells rmm7.slots
theorem pn_7 : plainName "java/lang/StringLatin1" = true := by first | (simp [plainName, overriddenIn]; done) | decide +kernel
theorem ef_7 (m : MethodId) (p0 : Addr) (p1 : Int32) : entryFrame m #[(.ref p0), (.int p1), (.int (0 : Int32)), (.int (15 : Int32))] 4 = mkF m 0 #[.val (.ref p0), .val (.int p1), .val (.int (0 : Int32)), .val (.int (15 : Int32))] [] := by first | (simp [entryFrame, mkF, argsToLocals, Value.category]; done) | rfl
set_option maxRecDepth 65536 in
set_option maxHeartbeats 40000000 in
theorem rm7 (l : Launch) (Z : State) (a0 : Array Value) (hw : ∀ d ∈ tables_1, d.before a0 Z = true) (ws : List Jvm.Cond) (p0 : Addr) (p1 : Int32) (h0 : Heap) (n0 : Nat) (Z0 : n0 ≤ h0.size) (H0 : ArL Z h0 p0 .byte [(.int (33 : Int32)), (.int (35 : Int32)), (.int (36 : Int32)), (.int (37 : Int32)), (.int (38 : Int32)), (.int (39 : Int32)), (.int (42 : Int32)), (.int (43 : Int32)), (.int (45 : Int32)), (.int (46 : Int32)), (.int (94 : Int32)), (.int (95 : Int32)), (.int (96 : Int32)), (.int (124 : Int32)), (.int (126 : Int32))]) :
    MetFree l (⟨"java/lang/StringLatin1", "indexOf", "([BIII)I"⟩ : MethodName) (head1 (Jvm.Cond.code (⟨"java/lang/StringLatin1", "indexOf", "([BIII)I"⟩ : MethodName) jdk_43_method_22_code 4 (some .int) :: ws) rmm7) (fun a U => a = #[(.ref p0), (.int p1), (.int (0 : Int32)), (.int (15 : Int32))] ∧ Z.Warmed39 U.vm ∧ U.heap = h0) (fun _ _ _ _ _ => True) (fun _ U o U' => ∃ v L, o = .returned v ∧ Q7 Z p0 p1 h0 n0 v U'.heap L ∧ FrameEnd U o U' L rmm7.cells rmm7.slots) := by
  refine MetFree.of_bodySF (plainFor_of_name pn_7) hisR ?_
  intro p e s m args below meth c s₁ Bd hml0 hP hK
  obtain ⟨rfl, hZ, hh⟩ := hP
  have hx := Bd.exec
  have hby := Bd.bytes
  have hml : c.maxLocals = 4 := hml0
  have hown : s.vm.findClass "java/lang/StringLatin1" = some m.cls := findClass_of_methodNamed Bd.named
  have hnm := (name_of_methodNamed Bd.named Bd.method).1
  have X0 : Stand p l e rmm7 s m #[(.ref p0), (.int p1), (.int (0 : Int32)), (.int (15 : Int32))] below meth c s₁ [] 0 0 := Stand.of_body Bd
  have e0 : s₁.heap = h0 := by rw [← hh, Bd.state]; rfl
  have N0 := Fr.nil n0
  show Go p.tables e below (P7 Z p0 p1 h0 n0 s) (s₁.setTop (entryFrame m #[(.ref p0), (.int p1), (.int (0 : Int32)), (.int (15 : Int32))] 4))
  refine Go.back (fun t k => castTop (ef_7 m p0 p1) k) ?_
  show Go p.tables e below (P7 Z p0 p1 h0 n0 s) (s₁.setTop (mkF m 0 #[.val (.ref p0), .val (.int p1), .val (.int (0 : Int32)), .val (.int (15 : Int32))] []))
  have hf0 : f7 p1 = (if (f8 p1) = true then (f11 p1) else (-1 : Int32)) := rfl
  refine Go.back (fun t k => XS.iloadN X0.here hx rfl (hb hby d7_0) rfl  k) ?_
  show Go p.tables e below (P7 Z p0 p1 h0 n0 s) (s₁.setTop (mkF m 1 #[.val (.ref p0), .val (.int p1), .val (.int (0 : Int32)), .val (.int (15 : Int32))] [(.int p1)]))
  obtain ⟨_, _, ⟨T1, L1, k1, n1⟩, -, X1, ⟨Lc1, hQ1, l1, y1, z1⟩, st1⟩ := Jvm.LawKit.callS X0 hx (y := (⟨"java/lang/StringLatin1", "canEncode", "(I)Z"⟩ : MethodName)) hown (mvT hZ (hw _ (List.mem_of_getElem? (i := 44) rfl))) (mvT hZ (hw _ (List.mem_of_getElem? (i := 45) rfl))) (mvT hZ (hw _ (List.mem_of_getElem? (i := 42) rfl))) (mvT hZ (hw _ (List.mem_of_getElem? (i := 46) rfl))) (by decide) (backOf (W := 0) (rm8 l Z a0 hw [] p1 h0 n0) hZ (hw _ (List.mem_of_getElem? (i := 46) rfl)) (hw _ (List.mem_of_getElem? (i := 42) rfl)) (by decide) (by decide)) (g := (mkF m 1 #[.val (.ref p0), .val (.int p1), .val (.int (0 : Int32)), .val (.int (15 : Int32))] [(.int p1)])) rfl (by rw [hml]; rfl) (argsL := [(.int p1)]) (rest := []) (lenOf pd_2 rfl) rfl (by show 2 * 0 + _ ≤ _; exact Nat.le_of_eq rfl) (hb hby d7_1) (fun _ _ => ⟨rfl, e0, (by decide : 0 + 0 ≤ _), (by decide : 0 + 0 ≤ _)⟩)
  dsimp only [Pt.U, Pt.locs, Pt.cells, Pt.slots] at X1 l1 y1 z1 st1 hQ1
  subst l1 y1 z1
  obtain ⟨rfl, N1q, e1⟩ := hQ1
  obtain ⟨Lo1, Y1, N1⟩ := pk X1 (Fr.app N0 N1q)
  refine Go.back st1 ?_
  show Go p.tables e below (P7 Z p0 p1 h0 n0 s) (T1.setTop (mkF m 4 #[.val (.ref p0), .val (.int p1), .val (.int (0 : Int32)), .val (.int (15 : Int32))] [(.int (b2i (f8 p1)))]))
  by_cases hc2 : (f8 p1) = true
  · have r3 := hf0.trans (if_pos hc2)
    refine Go.back (fun t k => XS.ifYes Y1.here hx rfl (pc0 := 4) (pc' := 9) rfl (hb hby d7_4) rfl ((if0 _ _).trans (feq (b2i_t hc2)).2) (by decide) (by decide) k) ?_
    show Go p.tables e below (P7 Z p0 p1 h0 n0 s) (T1.setTop (mkF m 9 #[.val (.ref p0), .val (.int p1), .val (.int (0 : Int32)), .val (.int (15 : Int32))] []))
    refine Go.back (fun t k => XS.iloadN Y1.here hx rfl (hb hby d7_9) rfl  k) ?_
    show Go p.tables e below (P7 Z p0 p1 h0 n0 s) (T1.setTop (mkF m 10 #[.val (.ref p0), .val (.int p1), .val (.int (0 : Int32)), .val (.int (15 : Int32))] [(.int (0 : Int32))]))
    refine Go.back (fun t k => XS.iconst Y1.here hx rfl (hb hby d7_10) k) ?_
    show Go p.tables e below (P7 Z p0 p1 h0 n0 s) (T1.setTop (mkF m 11 #[.val (.ref p0), .val (.int p1), .val (.int (0 : Int32)), .val (.int (15 : Int32))] [(.int (0 : Int32)), (.int (0 : Int32))]))
    obtain ⟨_, _, ⟨T4, L4, k4, n4⟩, -, X4, ⟨Lc4, hQ4, l4, y4, z4⟩, st4⟩ := Jvm.LawKit.callS Y1 hx (y := (⟨"java/lang/Math", "max", "(II)I"⟩ : MethodName)) hown (mvT hZ (hw _ (List.mem_of_getElem? (i := 47) rfl))) (mvT hZ (hw _ (List.mem_of_getElem? (i := 48) rfl))) (mvT hZ (hw _ (List.mem_of_getElem? (i := 49) rfl))) (mvT hZ (hw _ (List.mem_of_getElem? (i := 50) rfl))) (by decide) (backOf (W := 0) (rm9 l Z a0 hw [] (0 : Int32) (0 : Int32) h0 n0) hZ (hw _ (List.mem_of_getElem? (i := 50) rfl)) (hw _ (List.mem_of_getElem? (i := 49) rfl)) (by decide) (by decide)) (g := (mkF m 11 #[.val (.ref p0), .val (.int p1), .val (.int (0 : Int32)), .val (.int (15 : Int32))] [(.int (0 : Int32)), (.int (0 : Int32))])) rfl (by rw [hml]; rfl) (argsL := [(.int (0 : Int32)), (.int (0 : Int32))]) (rest := []) (lenOf pd_3 rfl) rfl (by show 2 * 0 + _ ≤ _; exact Nat.le_of_eq rfl) (hb hby d7_11) (fun _ _ => ⟨rfl, e1, (by decide : 0 + 0 ≤ _), (by decide : 0 + 0 ≤ _)⟩)
    dsimp only [Pt.U, Pt.locs, Pt.cells, Pt.slots] at X4 l4 y4 z4 st4 hQ4
    subst l4 y4 z4
    obtain ⟨rfl, N4q, e4⟩ := hQ4
    obtain ⟨Lo4, Y4, N4⟩ := pk X4 (Fr.app N1 N4q)
    refine Go.back st4 ?_
    rw [show (f9 (0 : Int32) (0 : Int32)) = (0 : Int32) from by decide]
    show Go p.tables e below (P7 Z p0 p1 h0 n0 s) (T4.setTop (mkF m 14 #[.val (.ref p0), .val (.int p1), .val (.int (0 : Int32)), .val (.int (15 : Int32))] [(.int (0 : Int32))]))
    refine Go.back (fun t k => XS.istoreN Y4.here hx rfl (hb hby d7_14) rfl (l' := #[.val (.ref p0), .val (.int p1), .val (.int (0 : Int32)), .val (.int (15 : Int32))]) rfl k) ?_
    show Go p.tables e below (P7 Z p0 p1 h0 n0 s) (T4.setTop (mkF m 15 #[.val (.ref p0), .val (.int p1), .val (.int (0 : Int32)), .val (.int (15 : Int32))] []))
    refine Go.back (fun t k => XS.iloadN Y4.here hx rfl (hb hby d7_15) rfl  k) ?_
    show Go p.tables e below (P7 Z p0 p1 h0 n0 s) (T4.setTop (mkF m 16 #[.val (.ref p0), .val (.int p1), .val (.int (0 : Int32)), .val (.int (15 : Int32))] [(.int (15 : Int32))]))
    refine Go.back (fun t k => XS.aloadN Y4.here hx rfl (hb hby d7_16) rfl rfl  k) ?_
    show Go p.tables e below (P7 Z p0 p1 h0 n0 s) (T4.setTop (mkF m 17 #[.val (.ref p0), .val (.int p1), .val (.int (0 : Int32)), .val (.int (15 : Int32))] [(.ref p0), (.int (15 : Int32))]))
    obtain ⟨cl5, Ar5, S5⟩ := H0.len
    refine Go.back (fun t k => Y4.arraylength hx (by rw [e4]; exact Ar5.1) (State.isArrayOf_alike hZ.alike Ar5.2.1) (g := (mkF m 17 #[.val (.ref p0), .val (.int p1), .val (.int (0 : Int32)), .val (.int (15 : Int32))] [(.ref p0), (.int (15 : Int32))])) rfl rfl (hb hby d7_17) t k) ?_
    rw [S5]
    show Go p.tables e below (P7 Z p0 p1 h0 n0 s) (T4.setTop (mkF m 18 #[.val (.ref p0), .val (.int p1), .val (.int (0 : Int32)), .val (.int (15 : Int32))] [(.int (15 : Int32)), (.int (15 : Int32))]))
    obtain ⟨_, _, ⟨T6, L6, k6, n6⟩, -, X6, ⟨Lc6, hQ6, l6, y6, z6⟩, st6⟩ := Jvm.LawKit.callS Y4 hx (y := (⟨"java/lang/Math", "min", "(II)I"⟩ : MethodName)) hown (mvT hZ (hw _ (List.mem_of_getElem? (i := 51) rfl))) (mvT hZ (hw _ (List.mem_of_getElem? (i := 52) rfl))) (mvT hZ (hw _ (List.mem_of_getElem? (i := 49) rfl))) (mvT hZ (hw _ (List.mem_of_getElem? (i := 53) rfl))) (by decide) (backOf (W := 0) (rm10 l Z a0 hw [] (15 : Int32) (15 : Int32) h0 n0) hZ (hw _ (List.mem_of_getElem? (i := 53) rfl)) (hw _ (List.mem_of_getElem? (i := 49) rfl)) (by decide) (by decide)) (g := (mkF m 18 #[.val (.ref p0), .val (.int p1), .val (.int (0 : Int32)), .val (.int (15 : Int32))] [(.int (15 : Int32)), (.int (15 : Int32))])) rfl (by rw [hml]; rfl) (argsL := [(.int (15 : Int32)), (.int (15 : Int32))]) (rest := []) (lenOf pd_3 rfl) rfl (by show 2 * 0 + _ ≤ _; exact Nat.le_of_eq rfl) (hb hby d7_18) (fun _ _ => ⟨rfl, e4, (by decide : 0 + 0 ≤ _), (by decide : 0 + 0 ≤ _)⟩)
    dsimp only [Pt.U, Pt.locs, Pt.cells, Pt.slots] at X6 l6 y6 z6 st6 hQ6
    subst l6 y6 z6
    obtain ⟨rfl, N6q, e6⟩ := hQ6
    obtain ⟨Lo6, Y6, N6⟩ := pk X6 (Fr.app N4 N6q)
    refine Go.back st6 ?_
    rw [show (f10 (15 : Int32) (15 : Int32)) = (15 : Int32) from by decide]
    show Go p.tables e below (P7 Z p0 p1 h0 n0 s) (T6.setTop (mkF m 21 #[.val (.ref p0), .val (.int p1), .val (.int (0 : Int32)), .val (.int (15 : Int32))] [(.int (15 : Int32))]))
    refine Go.back (fun t k => XS.istoreN Y6.here hx rfl (hb hby d7_21) rfl (l' := #[.val (.ref p0), .val (.int p1), .val (.int (0 : Int32)), .val (.int (15 : Int32))]) rfl k) ?_
    show Go p.tables e below (P7 Z p0 p1 h0 n0 s) (T6.setTop (mkF m 22 #[.val (.ref p0), .val (.int p1), .val (.int (0 : Int32)), .val (.int (15 : Int32))] []))
    refine Go.back (fun t k => XS.iloadN Y6.here hx rfl (hb hby d7_22) rfl  k) ?_
    show Go p.tables e below (P7 Z p0 p1 h0 n0 s) (T6.setTop (mkF m 23 #[.val (.ref p0), .val (.int p1), .val (.int (0 : Int32)), .val (.int (15 : Int32))] [(.int (0 : Int32))]))
    refine Go.back (fun t k => XS.iloadN Y6.here hx rfl (hb hby d7_23) rfl  k) ?_
    show Go p.tables e below (P7 Z p0 p1 h0 n0 s) (T6.setTop (mkF m 24 #[.val (.ref p0), .val (.int p1), .val (.int (0 : Int32)), .val (.int (15 : Int32))] [(.int (15 : Int32)), (.int (0 : Int32))]))
    refine Go.back (fun t k => XS.icmpYes Y6.here hx rfl (pc0 := 24) (pc' := 29) rfl (hb hby d7_24) rfl (tlt (by decide)).1 (by decide) (by decide) k) ?_
    show Go p.tables e below (P7 Z p0 p1 h0 n0 s) (T6.setTop (mkF m 29 #[.val (.ref p0), .val (.int p1), .val (.int (0 : Int32)), .val (.int (15 : Int32))] []))
    refine Go.back (fun t k => XS.aloadN Y6.here hx rfl (hb hby d7_29) rfl rfl  k) ?_
    show Go p.tables e below (P7 Z p0 p1 h0 n0 s) (T6.setTop (mkF m 30 #[.val (.ref p0), .val (.int p1), .val (.int (0 : Int32)), .val (.int (15 : Int32))] [(.ref p0)]))
    refine Go.back (fun t k => XS.iloadN Y6.here hx rfl (hb hby d7_30) rfl  k) ?_
    show Go p.tables e below (P7 Z p0 p1 h0 n0 s) (T6.setTop (mkF m 31 #[.val (.ref p0), .val (.int p1), .val (.int (0 : Int32)), .val (.int (15 : Int32))] [(.int p1), (.ref p0)]))
    refine Go.back (fun t k => XS.iloadN Y6.here hx rfl (hb hby d7_31) rfl  k) ?_
    show Go p.tables e below (P7 Z p0 p1 h0 n0 s) (T6.setTop (mkF m 32 #[.val (.ref p0), .val (.int p1), .val (.int (0 : Int32)), .val (.int (15 : Int32))] [(.int (0 : Int32)), (.int p1), (.ref p0)]))
    refine Go.back (fun t k => XS.iloadN Y6.here hx rfl (hb hby d7_32) rfl  k) ?_
    show Go p.tables e below (P7 Z p0 p1 h0 n0 s) (T6.setTop (mkF m 33 #[.val (.ref p0), .val (.int p1), .val (.int (0 : Int32)), .val (.int (15 : Int32))] [(.int (15 : Int32)), (.int (0 : Int32)), (.int p1), (.ref p0)]))
    obtain ⟨_, _, ⟨T7, L7, k7, n7⟩, -, X7, ⟨Lc7, hQ7, l7, y7, z7⟩, st7⟩ := Jvm.LawKit.callS Y6 hx (y := (⟨"java/lang/StringLatin1", "indexOfChar", "([BIII)I"⟩ : MethodName)) hown (mvT hZ (hw _ (List.mem_of_getElem? (i := 54) rfl))) (mvT hZ (hw _ (List.mem_of_getElem? (i := 55) rfl))) (mvT hZ (hw _ (List.mem_of_getElem? (i := 42) rfl))) (mvT hZ (hw _ (List.mem_of_getElem? (i := 56) rfl))) (by decide) (backOf (W := 0) (rm11 l Z a0 hw [] p0 p1 h0 n0 Z0 H0) hZ (hw _ (List.mem_of_getElem? (i := 56) rfl)) (hw _ (List.mem_of_getElem? (i := 42) rfl)) (by decide) (by decide)) (g := (mkF m 33 #[.val (.ref p0), .val (.int p1), .val (.int (0 : Int32)), .val (.int (15 : Int32))] [(.int (15 : Int32)), (.int (0 : Int32)), (.int p1), (.ref p0)])) rfl (by rw [hml]; rfl) (argsL := [(.ref p0), (.int p1), (.int (0 : Int32)), (.int (15 : Int32))]) (rest := []) (lenOf pd_4 rfl) rfl (by show 2 * 0 + _ ≤ _; exact Nat.le_of_eq rfl) (hb hby d7_33) (fun _ _ => ⟨rfl, e6, (by decide : 0 + 0 ≤ _), (by decide : 0 + 0 ≤ _)⟩)
    dsimp only [Pt.U, Pt.locs, Pt.cells, Pt.slots] at X7 l7 y7 z7 st7 hQ7
    subst l7 y7 z7
    obtain ⟨rfl, N7q, e7⟩ := hQ7
    obtain ⟨Lo7, Y7, N7⟩ := pk X7 (Fr.app N6 N7q)
    refine Go.back st7 ?_
    show Go p.tables e below (P7 Z p0 p1 h0 n0 s) (T7.setTop (mkF m 36 #[.val (.ref p0), .val (.int p1), .val (.int (0 : Int32)), .val (.int (15 : Int32))] [(.int (f11 p1))]))
    exact Go.retI Y7 hx Bd.returns (hb hby d7_36) Bd.notSynchronized ⟨by rw [r3], N7, e7⟩ (by decide) (by decide)
  · have r8 := hf0.trans (if_neg hc2)
    refine Go.back (fun t k => XS.ifNo Y1.here hx rfl (hb hby d7_4) rfl ((if0 _ _).trans (teq (b2i_f hc2)).2) k) ?_
    show Go p.tables e below (P7 Z p0 p1 h0 n0 s) (T1.setTop (mkF m 7 #[.val (.ref p0), .val (.int p1), .val (.int (0 : Int32)), .val (.int (15 : Int32))] []))
    refine Go.back (fun t k => XS.iconst Y1.here hx rfl (hb hby d7_7) k) ?_
    show Go p.tables e below (P7 Z p0 p1 h0 n0 s) (T1.setTop (mkF m 8 #[.val (.ref p0), .val (.int p1), .val (.int (0 : Int32)), .val (.int (15 : Int32))] [(.int (-1 : Int32))]))
    exact Go.retI Y1 hx Bd.returns (hb hby d7_8) Bd.notSynchronized ⟨by rw [r8], N1, e1⟩ (by decide) (by decide)
theorem d3_0 : decode jdk_42_method_80_code 0 = .ok (.aload_n 0, 1) := by decide +kernel
theorem d3_1 : decode jdk_42_method_80_code 1 = .ok (.invokevirtual 492, 3) := by decide +kernel
theorem d3_4 : decode jdk_42_method_80_code 4 = .ok (.ifCond .eq 19, 3) := by decide +kernel
theorem d3_7 : decode jdk_42_method_80_code 7 = .ok (.aload_n 0, 1) := by decide +kernel
theorem d3_8 : decode jdk_42_method_80_code 8 = .ok (.getfield 9, 3) := by decide +kernel
theorem d3_11 : decode jdk_42_method_80_code 11 = .ok (.iload_n 1, 1) := by decide +kernel
theorem d3_12 : decode jdk_42_method_80_code 12 = .ok (.iload_n 2, 1) := by decide +kernel
theorem d3_13 : decode jdk_42_method_80_code 13 = .ok (.aload_n 0, 1) := by decide +kernel
theorem d3_14 : decode jdk_42_method_80_code 14 = .ok (.invokevirtual 505, 3) := by decide +kernel
theorem d3_17 : decode jdk_42_method_80_code 17 = .ok (.invokestatic 637, 3) := by decide +kernel
theorem d3_20 : decode jdk_42_method_80_code 20 = .ok (.goto 16, 3) := by decide +kernel
theorem d3_36 : decode jdk_42_method_80_code 36 = .ok (.ireturn, 1) := by decide +kernel
def f3 (p1 : Int32) : Int32 := (f7 p1)
def Q3 (Z : State) (p0 : Addr) (p1 : Int32) (vb : Addr) (cs : Int32) (h0 : Heap) (n0 : Nat) (v : Option Value) (h : Heap) (L : List Loc) : Prop := v = some (.int (f3 p1)) ∧ Fr n0 L ∧ h = h0
abbrev rmm3 : Room := { frames := 2, cells := 0, slots := 0, locals := 32 }
abbrev P3 (Z : State) (p0 : Addr) (p1 : Int32) (vb : Addr) (cs : Int32) (h0 : Heap) (n0 : Nat) (s : State) : Outcome → State → Prop := fun o U' => ∃ v L, o = .returned v ∧ Q3 Z p0 p1 vb cs h0 n0 v U'.heap L ∧ FrameEnd s o U' L rmm3.cells rmm3.slots
theorem pn_3 : plainName "java/lang/String" = true := by first | (simp [plainName, overriddenIn]; done) | decide +kernel
theorem ef_3 (m : MethodId) (p0 : Addr) (p1 : Int32) : entryFrame m #[(.ref p0), (.int p1), (.int (0 : Int32))] 3 = mkF m 0 #[.val (.ref p0), .val (.int p1), .val (.int (0 : Int32))] [] := by first | (simp [entryFrame, mkF, argsToLocals, Value.category]; done) | rfl
set_option maxRecDepth 65536 in
set_option maxHeartbeats 40000000 in
theorem rm3 (l : Launch) (Z : State) (a0 : Array Value) (hw : ∀ d ∈ tables_1, d.before a0 Z = true) (ws : List Jvm.Cond) (p0 : Addr) (p1 : Int32) (vb : Addr) (cs : Int32) (h0 : Heap) (n0 : Nat) (Z0 : n0 ≤ h0.size) (H0 : Exa Z h0 p0 "java/lang/String") (H1 : Fld Z h0 p0 "java/lang/String" "coder" "B" (.int (0 : Int32))) (H2 : Fld Z h0 p0 "java/lang/String" "value" "[B" (.ref vb)) (H3 : ArL Z h0 vb .byte [(.int (33 : Int32)), (.int (35 : Int32)), (.int (36 : Int32)), (.int (37 : Int32)), (.int (38 : Int32)), (.int (39 : Int32)), (.int (42 : Int32)), (.int (43 : Int32)), (.int (45 : Int32)), (.int (46 : Int32)), (.int (94 : Int32)), (.int (95 : Int32)), (.int (96 : Int32)), (.int (124 : Int32)), (.int (126 : Int32))]) (H4 : Sta Z h0 "java/lang/String" "COMPACT_STRINGS" "Z" (.int cs)) (hcs : ¬ cs = (0 : Int32)) :
    MetFree l (⟨"java/lang/String", "indexOf", "(II)I"⟩ : MethodName) (head1 (Jvm.Cond.code (⟨"java/lang/String", "indexOf", "(II)I"⟩ : MethodName) jdk_42_method_80_code 3 (some .int) :: ws) rmm3) (fun a U => a = #[(.ref p0), (.int p1), (.int (0 : Int32))] ∧ Z.Warmed39 U.vm ∧ U.heap = h0) (fun _ _ _ _ _ => True) (fun _ U o U' => ∃ v L, o = .returned v ∧ Q3 Z p0 p1 vb cs h0 n0 v U'.heap L ∧ FrameEnd U o U' L rmm3.cells rmm3.slots) := by
  refine MetFree.of_bodySF (plainFor_of_name pn_3) hisR ?_
  intro p e s m args below meth c s₁ Bd hml0 hP hK
  obtain ⟨rfl, hZ, hh⟩ := hP
  have hx := Bd.exec
  have hby := Bd.bytes
  have hml : c.maxLocals = 3 := hml0
  have hown : s.vm.findClass "java/lang/String" = some m.cls := findClass_of_methodNamed Bd.named
  have hnm := (name_of_methodNamed Bd.named Bd.method).1
  have X0 : Stand p l e rmm3 s m #[(.ref p0), (.int p1), (.int (0 : Int32))] below meth c s₁ [] 0 0 := Stand.of_body Bd
  have e0 : s₁.heap = h0 := by rw [← hh, Bd.state]; rfl
  have N0 := Fr.nil n0
  show Go p.tables e below (P3 Z p0 p1 vb cs h0 n0 s) (s₁.setTop (entryFrame m #[(.ref p0), (.int p1), (.int (0 : Int32))] 3))
  refine Go.back (fun t k => castTop (ef_3 m p0 p1) k) ?_
  show Go p.tables e below (P3 Z p0 p1 vb cs h0 n0 s) (s₁.setTop (mkF m 0 #[.val (.ref p0), .val (.int p1), .val (.int (0 : Int32))] []))
  have hf0 : f3 p1 = (f7 p1) := rfl
  refine Go.back (fun t k => XS.aloadN X0.here hx rfl (hb hby d3_0) rfl rfl  k) ?_
  show Go p.tables e below (P3 Z p0 p1 vb cs h0 n0 s) (s₁.setTop (mkF m 1 #[.val (.ref p0), .val (.int p1), .val (.int (0 : Int32))] [(.ref p0)]))
  obtain ⟨cq1, kq1, q1a, q1b, q1c⟩ := isOf hZ e0 H0
  obtain ⟨_, _, ⟨T1, L1, k1, n1⟩, -, X1, ⟨Lc1, hQ1, l1, y1, z1⟩, st1⟩ := X0.virtualBack hx (y := (⟨"java/lang/String", "isLatin1", "()Z"⟩ : MethodName)) (z := (⟨"java/lang/String", "isLatin1", "()Z"⟩ : MethodName)) hown (mvT hZ (hw _ (List.mem_of_getElem? (i := 22) rfl))) (mvT hZ (hw _ (List.mem_of_getElem? (i := 23) rfl))) (notFace_of_selects (args := #[]) (mvT hZ (hw _ (List.mem_of_getElem? (i := 25) rfl)))) (mvT hZ (hw _ (List.mem_of_getElem? (i := 25) rfl))) (mvT hZ (hw _ (List.mem_of_getElem? (i := 24) rfl))) (by decide) (backOf (W := 0) (rm4 l Z a0 hw [] p0 cs h0 n0 Z0 H1 H4 hcs) hZ (hw _ (List.mem_of_getElem? (i := 26) rfl)) (hw _ (List.mem_of_getElem? (i := 5) rfl)) (by decide) (by decide)) q1a q1c (g := (mkF m 1 #[.val (.ref p0), .val (.int p1), .val (.int (0 : Int32))] [(.ref p0)])) rfl (by rw [hml]; rfl) (Steps.refl _) (argsL := []) (rest := []) (lenOf pd_5 rfl) rfl (by show 2 * 0 + _ ≤ _; exact Nat.le_of_eq rfl) (hb hby d3_1) (fun _ _ => ⟨rfl, e0, (by decide : 0 + 0 ≤ _), (by decide : 0 + 0 ≤ _)⟩)
  dsimp only [Pt.U, Pt.locs, Pt.cells, Pt.slots] at X1 l1 y1 z1 st1 hQ1
  subst l1 y1 z1
  obtain ⟨rfl, N1q, e1⟩ := hQ1
  obtain ⟨Lo1, Y1, N1⟩ := pk X1 (Fr.app N0 N1q)
  refine Go.trans st1 ?_
  show Go p.tables e below (P3 Z p0 p1 vb cs h0 n0 s) (T1.setTop (mkF m 4 #[.val (.ref p0), .val (.int p1), .val (.int (0 : Int32))] [(.int (b2i true))]))
  refine Go.back (fun t k => XS.ifNo Y1.here hx rfl (hb hby d3_4) rfl ((if0 _ _).trans (feq (b2i_t rfl)).1) k) ?_
  show Go p.tables e below (P3 Z p0 p1 vb cs h0 n0 s) (T1.setTop (mkF m 7 #[.val (.ref p0), .val (.int p1), .val (.int (0 : Int32))] []))
  refine Go.back (fun t k => XS.aloadN Y1.here hx rfl (hb hby d3_7) rfl rfl  k) ?_
  show Go p.tables e below (P3 Z p0 p1 vb cs h0 n0 s) (T1.setTop (mkF m 8 #[.val (.ref p0), .val (.int p1), .val (.int (0 : Int32))] [(.ref p0)]))
  obtain ⟨T2, X2, e2, st2⟩ := getF Y1 hx hZ hown (host := "") (Or.inl (hw _ (List.mem_of_getElem? (i := 29) rfl))) Via.refl e1 H2 (g := (mkF m 8 #[.val (.ref p0), .val (.int p1), .val (.int (0 : Int32))] [(.ref p0)])) rfl rfl (hb hby d3_8)
  refine Go.back st2 ?_
  show Go p.tables e below (P3 Z p0 p1 vb cs h0 n0 s) (T2.setTop (mkF m 11 #[.val (.ref p0), .val (.int p1), .val (.int (0 : Int32))] [(.ref vb)]))
  refine Go.back (fun t k => XS.iloadN X2.here hx rfl (hb hby d3_11) rfl  k) ?_
  show Go p.tables e below (P3 Z p0 p1 vb cs h0 n0 s) (T2.setTop (mkF m 12 #[.val (.ref p0), .val (.int p1), .val (.int (0 : Int32))] [(.int p1), (.ref vb)]))
  refine Go.back (fun t k => XS.iloadN X2.here hx rfl (hb hby d3_12) rfl  k) ?_
  show Go p.tables e below (P3 Z p0 p1 vb cs h0 n0 s) (T2.setTop (mkF m 13 #[.val (.ref p0), .val (.int p1), .val (.int (0 : Int32))] [(.int (0 : Int32)), (.int p1), (.ref vb)]))
  refine Go.back (fun t k => XS.aloadN X2.here hx rfl (hb hby d3_13) rfl rfl  k) ?_
  show Go p.tables e below (P3 Z p0 p1 vb cs h0 n0 s) (T2.setTop (mkF m 14 #[.val (.ref p0), .val (.int p1), .val (.int (0 : Int32))] [(.ref p0), (.int (0 : Int32)), (.int p1), (.ref vb)]))
  obtain ⟨cq3, kq3, q3a, q3b, q3c⟩ := isOf hZ e2 H0
  obtain ⟨_, _, ⟨T3, L3, k3, n3⟩, -, X3, ⟨Lc3, hQ3, l3, y3, z3⟩, st3⟩ := X2.virtualBack hx (y := (⟨"java/lang/String", "length", "()I"⟩ : MethodName)) (z := (⟨"java/lang/String", "length", "()I"⟩ : MethodName)) hown (mvT hZ (hw _ (List.mem_of_getElem? (i := 30) rfl))) (mvT hZ (hw _ (List.mem_of_getElem? (i := 31) rfl))) (notFace_of_selects (args := #[]) (mvT hZ (hw _ (List.mem_of_getElem? (i := 33) rfl)))) (mvT hZ (hw _ (List.mem_of_getElem? (i := 33) rfl))) (mvT hZ (hw _ (List.mem_of_getElem? (i := 32) rfl))) (by decide) (backOf (W := 3) (rm5 l Z a0 hw [] p0 vb cs h0 n0 Z0 H0 H1 H2 H3 H4 hcs) hZ (hw _ (List.mem_of_getElem? (i := 34) rfl)) (hw _ (List.mem_of_getElem? (i := 5) rfl)) (by decide) (by decide)) q3a q3c (g := (mkF m 14 #[.val (.ref p0), .val (.int p1), .val (.int (0 : Int32))] [(.ref p0), (.int (0 : Int32)), (.int p1), (.ref vb)])) rfl (by rw [hml]; rfl) (Steps.refl _) (argsL := []) (rest := [(.int (0 : Int32)), (.int p1), (.ref vb)]) (lenOf pd_6 rfl) rfl (by show 2 * 0 + _ ≤ _; exact Nat.le_of_eq rfl) (hb hby d3_14) (fun _ _ => ⟨rfl, e2, (by decide : 0 + 0 ≤ _), (by decide : 0 + 0 ≤ _)⟩)
  dsimp only [Pt.U, Pt.locs, Pt.cells, Pt.slots] at X3 l3 y3 z3 st3 hQ3
  subst l3 y3 z3
  obtain ⟨rfl, N3q, e3⟩ := hQ3
  obtain ⟨Lo3, Y3, N3⟩ := pk X3 (Fr.app N1 N3q)
  refine Go.trans st3 ?_
  show Go p.tables e below (P3 Z p0 p1 vb cs h0 n0 s) (T3.setTop (mkF m 17 #[.val (.ref p0), .val (.int p1), .val (.int (0 : Int32))] [(.int (15 : Int32)), (.int (0 : Int32)), (.int p1), (.ref vb)]))
  obtain ⟨_, _, ⟨T4, L4, k4, n4⟩, -, X4, ⟨Lc4, hQ4, l4, y4, z4⟩, st4⟩ := Jvm.LawKit.callS Y3 hx (y := (⟨"java/lang/StringLatin1", "indexOf", "([BIII)I"⟩ : MethodName)) hown (mvT hZ (hw _ (List.mem_of_getElem? (i := 40) rfl))) (mvT hZ (hw _ (List.mem_of_getElem? (i := 41) rfl))) (mvT hZ (hw _ (List.mem_of_getElem? (i := 42) rfl))) (mvT hZ (hw _ (List.mem_of_getElem? (i := 43) rfl))) (by decide) (backOf (W := 0) (rm7 l Z a0 hw [] vb p1 h0 n0 Z0 H3) hZ (hw _ (List.mem_of_getElem? (i := 43) rfl)) (hw _ (List.mem_of_getElem? (i := 42) rfl)) (by decide) (by decide)) (g := (mkF m 17 #[.val (.ref p0), .val (.int p1), .val (.int (0 : Int32))] [(.int (15 : Int32)), (.int (0 : Int32)), (.int p1), (.ref vb)])) rfl (by rw [hml]; rfl) (argsL := [(.ref vb), (.int p1), (.int (0 : Int32)), (.int (15 : Int32))]) (rest := []) (lenOf pd_4 rfl) rfl (by show 2 * 0 + _ ≤ _; exact Nat.le_of_eq rfl) (hb hby d3_17) (fun _ _ => ⟨rfl, e3, (by decide : 0 + 0 ≤ _), (by decide : 0 + 0 ≤ _)⟩)
  dsimp only [Pt.U, Pt.locs, Pt.cells, Pt.slots] at X4 l4 y4 z4 st4 hQ4
  subst l4 y4 z4
  obtain ⟨rfl, N4q, e4⟩ := hQ4
  obtain ⟨Lo4, Y4, N4⟩ := pk X4 (Fr.app N3 N4q)
  refine Go.back st4 ?_
  show Go p.tables e below (P3 Z p0 p1 vb cs h0 n0 s) (T4.setTop (mkF m 20 #[.val (.ref p0), .val (.int p1), .val (.int (0 : Int32))] [(.int (f7 p1))]))
  refine Go.back (fun t k => XS.goto Y4.here hx rfl (pc0 := 20) (pc' := 36) rfl (hb hby d3_20) (by decide) (by decide) k) ?_
  show Go p.tables e below (P3 Z p0 p1 vb cs h0 n0 s) (T4.setTop (mkF m 36 #[.val (.ref p0), .val (.int p1), .val (.int (0 : Int32))] [(.int (f7 p1))]))
  exact Go.retI Y4 hx Bd.returns (hb hby d3_36) Bd.notSynchronized ⟨by rw [hf0], N4, e4⟩ (by decide) (by decide)
theorem d2_0 : decode jdk_42_method_79_code 0 = .ok (.aload_n 0, 1) := by decide +kernel
theorem d2_1 : decode jdk_42_method_79_code 1 = .ok (.iload_n 1, 1) := by decide +kernel
theorem d2_2 : decode jdk_42_method_79_code 2 = .ok (.iconst 0, 1) := by decide +kernel
theorem d2_3 : decode jdk_42_method_79_code 3 = .ok (.invokevirtual 633, 3) := by decide +kernel
theorem d2_6 : decode jdk_42_method_79_code 6 = .ok (.ireturn, 1) := by decide +kernel
def f2 (p1 : Int32) : Int32 := (f3 p1)
def Q2 (Z : State) (p0 : Addr) (p1 : Int32) (vb : Addr) (cs : Int32) (h0 : Heap) (n0 : Nat) (v : Option Value) (h : Heap) (L : List Loc) : Prop := v = some (.int (f2 p1)) ∧ Fr n0 L ∧ h = h0
abbrev rmm2 : Room := { frames := 3, cells := 0, slots := 0, locals := 46 }
abbrev P2 (Z : State) (p0 : Addr) (p1 : Int32) (vb : Addr) (cs : Int32) (h0 : Heap) (n0 : Nat) (s : State) : Outcome → State → Prop := fun o U' => ∃ v L, o = .returned v ∧ Q2 Z p0 p1 vb cs h0 n0 v U'.heap L ∧ FrameEnd s o U' L rmm2.cells rmm2.slots
theorem pn_2 : plainName "java/lang/String" = true := by first | (simp [plainName, overriddenIn]; done) | decide +kernel
theorem ef_2 (m : MethodId) (p0 : Addr) (p1 : Int32) : entryFrame m #[(.ref p0), (.int p1)] 2 = mkF m 0 #[.val (.ref p0), .val (.int p1)] [] := by first | (simp [entryFrame, mkF, argsToLocals, Value.category]; done) | rfl
set_option maxRecDepth 65536 in
set_option maxHeartbeats 40000000 in
theorem rm2 (l : Launch) (Z : State) (a0 : Array Value) (hw : ∀ d ∈ tables_1, d.before a0 Z = true) (ws : List Jvm.Cond) (p0 : Addr) (p1 : Int32) (vb : Addr) (cs : Int32) (h0 : Heap) (n0 : Nat) (Z0 : n0 ≤ h0.size) (H0 : Exa Z h0 p0 "java/lang/String") (H1 : Fld Z h0 p0 "java/lang/String" "coder" "B" (.int (0 : Int32))) (H2 : Fld Z h0 p0 "java/lang/String" "value" "[B" (.ref vb)) (H3 : ArL Z h0 vb .byte [(.int (33 : Int32)), (.int (35 : Int32)), (.int (36 : Int32)), (.int (37 : Int32)), (.int (38 : Int32)), (.int (39 : Int32)), (.int (42 : Int32)), (.int (43 : Int32)), (.int (45 : Int32)), (.int (46 : Int32)), (.int (94 : Int32)), (.int (95 : Int32)), (.int (96 : Int32)), (.int (124 : Int32)), (.int (126 : Int32))]) (H4 : Sta Z h0 "java/lang/String" "COMPACT_STRINGS" "Z" (.int cs)) (hcs : ¬ cs = (0 : Int32)) :
    MetFree l (⟨"java/lang/String", "indexOf", "(I)I"⟩ : MethodName) (head1 (Jvm.Cond.code (⟨"java/lang/String", "indexOf", "(I)I"⟩ : MethodName) jdk_42_method_79_code 2 (some .int) :: ws) rmm2) (fun a U => a = #[(.ref p0), (.int p1)] ∧ Z.Warmed39 U.vm ∧ U.heap = h0) (fun _ _ _ _ _ => True) (fun _ U o U' => ∃ v L, o = .returned v ∧ Q2 Z p0 p1 vb cs h0 n0 v U'.heap L ∧ FrameEnd U o U' L rmm2.cells rmm2.slots) := by
  refine MetFree.of_bodySF (plainFor_of_name pn_2) hisR ?_
  intro p e s m args below meth c s₁ Bd hml0 hP hK
  obtain ⟨rfl, hZ, hh⟩ := hP
  have hx := Bd.exec
  have hby := Bd.bytes
  have hml : c.maxLocals = 2 := hml0
  have hown : s.vm.findClass "java/lang/String" = some m.cls := findClass_of_methodNamed Bd.named
  have hnm := (name_of_methodNamed Bd.named Bd.method).1
  have X0 : Stand p l e rmm2 s m #[(.ref p0), (.int p1)] below meth c s₁ [] 0 0 := Stand.of_body Bd
  have e0 : s₁.heap = h0 := by rw [← hh, Bd.state]; rfl
  have N0 := Fr.nil n0
  show Go p.tables e below (P2 Z p0 p1 vb cs h0 n0 s) (s₁.setTop (entryFrame m #[(.ref p0), (.int p1)] 2))
  refine Go.back (fun t k => castTop (ef_2 m p0 p1) k) ?_
  show Go p.tables e below (P2 Z p0 p1 vb cs h0 n0 s) (s₁.setTop (mkF m 0 #[.val (.ref p0), .val (.int p1)] []))
  have hf0 : f2 p1 = (f3 p1) := rfl
  refine Go.back (fun t k => XS.aloadN X0.here hx rfl (hb hby d2_0) rfl rfl  k) ?_
  show Go p.tables e below (P2 Z p0 p1 vb cs h0 n0 s) (s₁.setTop (mkF m 1 #[.val (.ref p0), .val (.int p1)] [(.ref p0)]))
  refine Go.back (fun t k => XS.iloadN X0.here hx rfl (hb hby d2_1) rfl  k) ?_
  show Go p.tables e below (P2 Z p0 p1 vb cs h0 n0 s) (s₁.setTop (mkF m 2 #[.val (.ref p0), .val (.int p1)] [(.int p1), (.ref p0)]))
  refine Go.back (fun t k => XS.iconst X0.here hx rfl (hb hby d2_2) k) ?_
  show Go p.tables e below (P2 Z p0 p1 vb cs h0 n0 s) (s₁.setTop (mkF m 3 #[.val (.ref p0), .val (.int p1)] [(.int (0 : Int32)), (.int p1), (.ref p0)]))
  obtain ⟨cq1, kq1, q1a, q1b, q1c⟩ := isOf hZ e0 H0
  obtain ⟨_, _, ⟨T1, L1, k1, n1⟩, -, X1, ⟨Lc1, hQ1, l1, y1, z1⟩, st1⟩ := X0.virtualBack hx (y := (⟨"java/lang/String", "indexOf", "(II)I"⟩ : MethodName)) (z := (⟨"java/lang/String", "indexOf", "(II)I"⟩ : MethodName)) hown (mvT hZ (hw _ (List.mem_of_getElem? (i := 17) rfl))) (mvT hZ (hw _ (List.mem_of_getElem? (i := 18) rfl))) (notFace_of_selects (args := #[]) (mvT hZ (hw _ (List.mem_of_getElem? (i := 20) rfl)))) (mvT hZ (hw _ (List.mem_of_getElem? (i := 20) rfl))) (mvT hZ (hw _ (List.mem_of_getElem? (i := 19) rfl))) (by decide) (backOf (W := 0) (rm3 l Z a0 hw [] p0 p1 vb cs h0 n0 Z0 H0 H1 H2 H3 H4 hcs) hZ (hw _ (List.mem_of_getElem? (i := 21) rfl)) (hw _ (List.mem_of_getElem? (i := 5) rfl)) (by decide) (by decide)) q1a q1c (g := (mkF m 3 #[.val (.ref p0), .val (.int p1)] [(.int (0 : Int32)), (.int p1), (.ref p0)])) rfl (by rw [hml]; rfl) (Steps.refl _) (argsL := [(.int p1), (.int (0 : Int32))]) (rest := []) (lenOf pd_3 rfl) rfl (by show 2 * 0 + _ ≤ _; exact Nat.le_of_eq rfl) (hb hby d2_3) (fun _ _ => ⟨rfl, e0, (by decide : 0 + 0 ≤ _), (by decide : 0 + 0 ≤ _)⟩)
  dsimp only [Pt.U, Pt.locs, Pt.cells, Pt.slots] at X1 l1 y1 z1 st1 hQ1
  subst l1 y1 z1
  obtain ⟨rfl, N1q, e1⟩ := hQ1
  obtain ⟨Lo1, Y1, N1⟩ := pk X1 (Fr.app N0 N1q)
  refine Go.trans st1 ?_
  show Go p.tables e below (P2 Z p0 p1 vb cs h0 n0 s) (T1.setTop (mkF m 6 #[.val (.ref p0), .val (.int p1)] [(.int (f3 p1))]))
  exact Go.retI Y1 hx Bd.returns (hb hby d2_6) Bd.notSynchronized ⟨by rw [hf0], N1, e1⟩ (by decide) (by decide)
abbrev EL1 : List (String × Nat) := [("com/example/paylode/paylode/header/HeaderSyntax", 9)]
theorem own_wS : ∀ a ∈ Bundle.stringAtoms, a ∈ tables_1 := by decide +kernel
theorem d1_0 : decode prog_5_method_2_code 0 = .ok (.iload_n 0, 1) := by decide +kernel
theorem d1_1 : decode prog_5_method_2_code 1 = .ok (.bipush 97, 2) := by decide +kernel
theorem d1_3 : decode prog_5_method_2_code 3 = .ok (.if_icmp .lt 9, 3) := by decide +kernel
theorem d1_6 : decode prog_5_method_2_code 6 = .ok (.iload_n 0, 1) := by decide +kernel
theorem d1_7 : decode prog_5_method_2_code 7 = .ok (.bipush 122, 2) := by decide +kernel
theorem d1_9 : decode prog_5_method_2_code 9 = .ok (.if_icmp .le 36, 3) := by decide +kernel
theorem d1_12 : decode prog_5_method_2_code 12 = .ok (.iload_n 0, 1) := by decide +kernel
theorem d1_13 : decode prog_5_method_2_code 13 = .ok (.bipush 65, 2) := by decide +kernel
theorem d1_15 : decode prog_5_method_2_code 15 = .ok (.if_icmp .lt 9, 3) := by decide +kernel
theorem d1_18 : decode prog_5_method_2_code 18 = .ok (.iload_n 0, 1) := by decide +kernel
theorem d1_19 : decode prog_5_method_2_code 19 = .ok (.bipush 90, 2) := by decide +kernel
theorem d1_21 : decode prog_5_method_2_code 21 = .ok (.if_icmp .le 24, 3) := by decide +kernel
theorem d1_24 : decode prog_5_method_2_code 24 = .ok (.iload_n 0, 1) := by decide +kernel
theorem d1_25 : decode prog_5_method_2_code 25 = .ok (.bipush 48, 2) := by decide +kernel
theorem d1_27 : decode prog_5_method_2_code 27 = .ok (.if_icmp .lt 9, 3) := by decide +kernel
theorem d1_30 : decode prog_5_method_2_code 30 = .ok (.iload_n 0, 1) := by decide +kernel
theorem d1_31 : decode prog_5_method_2_code 31 = .ok (.bipush 57, 2) := by decide +kernel
theorem d1_33 : decode prog_5_method_2_code 33 = .ok (.if_icmp .le 12, 3) := by decide +kernel
theorem d1_36 : decode prog_5_method_2_code 36 = .ok (.ldc 9, 2) := by decide +kernel
theorem d1_38 : decode prog_5_method_2_code 38 = .ok (.iload_n 0, 1) := by decide +kernel
theorem d1_39 : decode prog_5_method_2_code 39 = .ok (.invokevirtual 11, 3) := by decide +kernel
theorem d1_42 : decode prog_5_method_2_code 42 = .ok (.ifCond .lt 7, 3) := by decide +kernel
theorem d1_45 : decode prog_5_method_2_code 45 = .ok (.iconst 1, 1) := by decide +kernel
theorem d1_46 : decode prog_5_method_2_code 46 = .ok (.goto 4, 3) := by decide +kernel
theorem d1_49 : decode prog_5_method_2_code 49 = .ok (.iconst 0, 1) := by decide +kernel
theorem d1_50 : decode prog_5_method_2_code 50 = .ok (.ireturn, 1) := by decide +kernel
def f1 (p0 : Int32) : Bool := (if p0 < (97 : Int32) then (if p0 < (65 : Int32) then (if p0 < (48 : Int32) then (let z4 : Bool := (if (f2 p0) < (0 : Int32) then false else true); z4) else (if (57 : Int32) < p0 then (let z4 : Bool := (if (f2 p0) < (0 : Int32) then false else true); z4) else true)) else (if (90 : Int32) < p0 then (if p0 < (48 : Int32) then (let z4 : Bool := (if (f2 p0) < (0 : Int32) then false else true); z4) else (if (57 : Int32) < p0 then (let z4 : Bool := (if (f2 p0) < (0 : Int32) then false else true); z4) else true)) else true)) else (if (122 : Int32) < p0 then (if p0 < (65 : Int32) then (if p0 < (48 : Int32) then (let z4 : Bool := (if (f2 p0) < (0 : Int32) then false else true); z4) else (if (57 : Int32) < p0 then (let z4 : Bool := (if (f2 p0) < (0 : Int32) then false else true); z4) else true)) else (if (90 : Int32) < p0 then (if p0 < (48 : Int32) then (let z4 : Bool := (if (f2 p0) < (0 : Int32) then false else true); z4) else (if (57 : Int32) < p0 then (let z4 : Bool := (if (f2 p0) < (0 : Int32) then false else true); z4) else true)) else true)) else true))
abbrev rmm1 : Room := { frames := 4, cells := 2, slots := 64, locals := 59 }
theorem own_lit : (∀ c ∈ "!#$%&'*+-.^_`|~".toList, c.toNat < 256) ∧ "!#$%&'*+-.^_`|~".toList.map (fun c => Value.int (Jvm.Lit.byteI c.toNat.toUInt16)) = [(.int (33 : Int32)), (.int (35 : Int32)), (.int (36 : Int32)), (.int (37 : Int32)), (.int (38 : Int32)), (.int (39 : Int32)), (.int (42 : Int32)), (.int (43 : Int32)), (.int (45 : Int32)), (.int (46 : Int32)), (.int (94 : Int32)), (.int (95 : Int32)), (.int (96 : Int32)), (.int (124 : Int32)), (.int (126 : Int32))] := ⟨by decide +kernel, by rfl⟩
def Q1 (p0 : Int32) (h0 : Heap) (n0 : Nat) (v : Option Value) (h : Heap) (L : List Loc) : Prop := v = some (.int (b2i (f1 p0))) ∧ Fr n0 L
abbrev P1 (Z : State) (p0 : Int32) (h0 : Heap) (n0 : Nat) (s : State) : Outcome → State → Prop := fun o U' => ∃ v L, o = .returned v ∧ Q1 p0 h0 n0 v U'.heap L ∧ CHr Z EL1 s.vm s.heap U'.vm U'.heap ∧ ReturnedEndW s o U' L rmm1.cells rmm1.slots
theorem pn_1 : plainName "com/example/paylode/paylode/header/HeaderSyntax" = true := by first | (simp [plainName, overriddenIn]; done) | decide +kernel
theorem ef_1 (m : MethodId) (p0 : Int32) : entryFrame m #[(.int p0)] 1 = mkF m 0 #[.val (.int p0)] [] := by first | (simp [entryFrame, mkF, argsToLocals, Value.category]; done) | rfl
set_option maxRecDepth 65536 in
set_option maxHeartbeats 40000000 in
theorem rm1 (l : Launch) (Z : State) (a0 : Array Value) (hw : ∀ d ∈ tables_1, d.before a0 Z = true) (ws : List Jvm.Cond) (p0 : Int32) (cs : Int32) (h0 : Heap) (n0 : Nat) (Z0 : n0 ≤ h0.size) (hEL : EW Z a0 EL1) (S0 : Sta Z h0 "java/lang/String" "COMPACT_STRINGS" "Z" (.int cs)) (hcs : ¬ cs = (0 : Int32)) :
    MetFree l (⟨"com/example/paylode/paylode/header/HeaderSyntax", "isTokenChar", "(C)Z"⟩ : MethodName) (head1 [Jvm.Cond.code (⟨"com/example/paylode/paylode/header/HeaderSyntax", "isTokenChar", "(C)Z"⟩ : MethodName) prog_5_method_2_code 1 (some .boolean)] rmm1) (fun a U => a = #[(.int p0)] ∧ Z.Warmed39 U.vm ∧ U.heap = h0 ∧ CHv Z EL1 U.vm h0) (fun _ _ _ _ _ => True) (fun _ U o U' => ∃ v L, o = .returned v ∧ Q1 p0 h0 n0 v U'.heap L ∧ CHr Z EL1 U.vm U.heap U'.vm U'.heap ∧ ReturnedEndW U o U' L rmm1.cells rmm1.slots) := by
  refine MetFree.of_bodySF (plainFor_of_name pn_1) hisR ?_
  intro p e s m args below meth c s₁ Bd hml0 hP hK
  obtain ⟨rfl, hZ, hh, hCH⟩ := hP
  have hx := Bd.exec
  have hby := Bd.bytes
  have hml : c.maxLocals = 1 := hml0
  have hown : s.vm.findClass "com/example/paylode/paylode/header/HeaderSyntax" = some m.cls := findClass_of_methodNamed Bd.named
  have X0 : Stand p l e rmm1 s m #[(.int p0)] below meth c s₁ [] 0 0 := Stand.of_body Bd
  have e0 : s₁.heap = h0 := by rw [← hh, Bd.state]; rfl
  have N0 := Fr.nil n0
  show Go p.tables e below (P1 Z p0 h0 n0 s) (s₁.setTop (entryFrame m #[(.int p0)] 1))
  refine Go.back (fun t k => castTop (ef_1 m p0) k) ?_
  show Go p.tables e below (P1 Z p0 h0 n0 s) (s₁.setTop (mkF m 0 #[.val (.int p0)] []))
  have hf : f1 p0 = (if p0 < (97 : Int32) then (if p0 < (65 : Int32) then (if p0 < (48 : Int32) then (let z4 : Bool := (if (f2 p0) < (0 : Int32) then false else true); z4) else (if (57 : Int32) < p0 then (let z4 : Bool := (if (f2 p0) < (0 : Int32) then false else true); z4) else true)) else (if (90 : Int32) < p0 then (if p0 < (48 : Int32) then (let z4 : Bool := (if (f2 p0) < (0 : Int32) then false else true); z4) else (if (57 : Int32) < p0 then (let z4 : Bool := (if (f2 p0) < (0 : Int32) then false else true); z4) else true)) else true)) else (if (122 : Int32) < p0 then (if p0 < (65 : Int32) then (if p0 < (48 : Int32) then (let z4 : Bool := (if (f2 p0) < (0 : Int32) then false else true); z4) else (if (57 : Int32) < p0 then (let z4 : Bool := (if (f2 p0) < (0 : Int32) then false else true); z4) else true)) else (if (90 : Int32) < p0 then (if p0 < (48 : Int32) then (let z4 : Bool := (if (f2 p0) < (0 : Int32) then false else true); z4) else (if (57 : Int32) < p0 then (let z4 : Bool := (if (f2 p0) < (0 : Int32) then false else true); z4) else true)) else true)) else true)) := rfl
  have TAIL : f1 p0 = (let z4 : Bool := (if (f2 p0) < (0 : Int32) then false else true); z4) → Go p.tables e below (P1 Z p0 h0 n0 s) (s₁.setTop (mkF m 36 #[.val (.int p0)] [])) := by
    intro r0
    obtain ⟨acc, Tcc, hcc, kcc, bcc, kbcc, Xcc, ecc, Ecc, hScc, hkcc, hZcc, howncc, Ea, Fc, Fv, Ab0, -, -, hCr, -, -, stcc⟩ := ldcCH (s := s) (vm0 := s.vm) X0 hx hZ hown (hw _ (List.mem_of_getElem? (i := 4) rfl)) (fun d hd => hw d (own_wS d hd)) e0 ((State.WarmedH.refl s).since h0.size) (Nat.le_refl _) hEL (List.mem_of_getElem? (i := 0) rfl) hCH (vs := [(.int (33 : Int32)), (.int (35 : Int32)), (.int (36 : Int32)), (.int (37 : Int32)), (.int (38 : Int32)), (.int (39 : Int32)), (.int (42 : Int32)), (.int (43 : Int32)), (.int (45 : Int32)), (.int (46 : Int32)), (.int (94 : Int32)), (.int (95 : Int32)), (.int (96 : Int32)), (.int (124 : Int32)), (.int (126 : Int32))]) (z := 15) own_lit (by decide) rfl (g := (mkF m 36 #[.val (.int p0)] [])) rfl (hb hby d1_36) (n := 60) (by decide +kernel) (by decide) (by decide) (by decide)
    have Ab : ArL Z hcc bcc .byte [(.int (33 : Int32)), (.int (35 : Int32)), (.int (36 : Int32)), (.int (37 : Int32)), (.int (38 : Int32)), (.int (39 : Int32)), (.int (42 : Int32)), (.int (43 : Int32)), (.int (45 : Int32)), (.int (46 : Int32)), (.int (94 : Int32)), (.int (95 : Int32)), (.int (96 : Int32)), (.int (124 : Int32)), (.int (126 : Int32))] := ArL.of_arv Ab0 rfl
    have Scc := S0.ext Ecc
    have Zcc : n0 ≤ hcc.size := Nat.le_trans Z0 Ecc.1
    have hZ : Z.Warmed39 (s.setVm Tcc.vm).vm := hZcc
    have hown := howncc
    refine Go.back stcc ?_
    show Go p.tables e below (P1 Z p0 h0 n0 s) (Tcc.setTop (mkF m 38 #[.val (.int p0)] [(.ref acc)]))
    refine Go.back (fun t k => XS.iloadN Xcc.here hx rfl (hb hby d1_38) rfl  k) ?_
    show Go p.tables e below (P1 Z p0 h0 n0 s) (Tcc.setTop (mkF m 39 #[.val (.int p0)] [(.int p0), (.ref acc)]))
    obtain ⟨cq1, kq1, q1a, q1b, q1c⟩ := isOf hZ ecc Ea
    obtain ⟨_, _, ⟨T1, L1, k1, n1⟩, -, X1, ⟨Lc1, hQ1, l1, y1, z1⟩, st1⟩ := Xcc.virtualBack hx (y := (⟨"java/lang/String", "indexOf", "(I)I"⟩ : MethodName)) (z := (⟨"java/lang/String", "indexOf", "(I)I"⟩ : MethodName)) hown (mvT hZ (hw _ (List.mem_of_getElem? (i := 12) rfl))) (mvT hZ (hw _ (List.mem_of_getElem? (i := 13) rfl))) (notFace_of_selects (args := #[]) (mvT hZ (hw _ (List.mem_of_getElem? (i := 15) rfl)))) (mvT hZ (hw _ (List.mem_of_getElem? (i := 15) rfl))) (mvT hZ (hw _ (List.mem_of_getElem? (i := 14) rfl))) (by decide) (backOf (W := 0) (rm2 l Z a0 hw [] acc p0 bcc cs hcc n0 Zcc Ea Fc Fv Ab Scc hcs) hZ (hw _ (List.mem_of_getElem? (i := 16) rfl)) (hw _ (List.mem_of_getElem? (i := 5) rfl)) (by decide) (by decide)) q1a q1c (g := (mkF m 39 #[.val (.int p0)] [(.int p0), (.ref acc)])) rfl (by rw [hml]; rfl) (Steps.refl _) (argsL := [(.int p0)]) (rest := []) (lenOf pd_7 rfl) rfl (by show 2 * 0 + _ ≤ _; exact Nat.le_of_eq rfl) (hb hby d1_39) (fun _ _ => ⟨rfl, ecc, (by decide : 2 + 0 ≤ _), (by decide : 64 + 0 ≤ _)⟩)
    dsimp only [Pt.U, Pt.locs, Pt.cells, Pt.slots] at X1 l1 y1 z1 st1 hQ1
    subst l1 y1 z1
    obtain ⟨rfl, N1q, e1⟩ := hQ1
    obtain ⟨Lo1, Y1, N1⟩ := pk X1 (Fr.app N0 N1q)
    refine Go.trans st1 ?_
    show Go p.tables e below (P1 Z p0 h0 n0 s) (T1.setTop (mkF m 42 #[.val (.int p0)] [(.int (f2 p0))]))
    have J3 : ∀ (z4 : Bool) (hz4 : z4 = (if (f2 p0) < (0 : Int32) then false else true)), Go p.tables e below (P1 Z p0 h0 n0 s) (T1.setTop (mkF m 50 #[.val (.int p0)] [(.int (b2i z4))])) := by
      intro z4 hz4
      have r5 : f1 p0 = z4 := by subst hz4; exact r0
      show Go p.tables e below (P1 Z p0 h0 n0 s) (T1.setTop (mkF m 50 #[.val (.int p0)] [(.int (b2i z4))]))
      exact Go.retBW (s := s) (vm0 := Tcc.vm) (b := z4) (Qa := Q1 p0 h0 n0) (Qb := fun vm h => CHr Z EL1 s.vm s.heap vm h) Y1 hx hScc (by rw [e1]; exact hkcc) Bd.returns (hb hby d1_50) Bd.notSynchronized ⟨by rw [r5], N1⟩ (by rw [hh, e1]; exact hCr.trans (CHv.at (s := s) (vm0 := Tcc.vm) Y1 hZ hEL hCr.1)) (by decide) (by decide)
    have r6 : (if (f2 p0) < (0 : Int32) then false else true) = (if (f2 p0) < (0 : Int32) then false else true) := rfl
    by_cases hc2 : (f2 p0) < (0 : Int32)
    · have r7 := r6.trans (if_pos hc2)
      refine Go.back (fun t k => XS.ifYes Y1.here hx rfl (pc0 := 42) (pc' := 49) rfl (hb hby d1_42) rfl ((if0 _ _).trans (tlt hc2).1) (by decide) (by decide) k) ?_
      show Go p.tables e below (P1 Z p0 h0 n0 s) (T1.setTop (mkF m 49 #[.val (.int p0)] []))
      refine Go.back (fun t k => XS.iconst Y1.here hx rfl (hb hby d1_49) k) ?_
      show Go p.tables e below (P1 Z p0 h0 n0 s) (T1.setTop (mkF m 50 #[.val (.int p0)] [(.int (0 : Int32))]))
      exact J3 false r7.symm
    · have r8 := r6.trans (if_neg hc2)
      refine Go.back (fun t k => XS.ifNo Y1.here hx rfl (hb hby d1_42) rfl ((if0 _ _).trans (flt hc2).1) k) ?_
      show Go p.tables e below (P1 Z p0 h0 n0 s) (T1.setTop (mkF m 45 #[.val (.int p0)] []))
      refine Go.back (fun t k => XS.iconst Y1.here hx rfl (hb hby d1_45) k) ?_
      show Go p.tables e below (P1 Z p0 h0 n0 s) (T1.setTop (mkF m 46 #[.val (.int p0)] [(.int (1 : Int32))]))
      refine Go.back (fun t k => XS.goto Y1.here hx rfl (pc0 := 46) (pc' := 50) rfl (hb hby d1_46) (by decide) (by decide) k) ?_
      show Go p.tables e below (P1 Z p0 h0 n0 s) (T1.setTop (mkF m 50 #[.val (.int p0)] [(.int (1 : Int32))]))
      exact J3 true r8.symm
  refine Go.back (fun t k => XS.iloadN X0.here hx rfl (hb hby d1_0) rfl  k) ?_
  show Go p.tables e below (P1 Z p0 h0 n0 s) (s₁.setTop (mkF m 1 #[.val (.int p0)] [(.int p0)]))
  refine Go.back (fun t k => XS.bipush X0.here hx rfl (hb hby d1_1) k) ?_
  show Go p.tables e below (P1 Z p0 h0 n0 s) (s₁.setTop (mkF m 3 #[.val (.int p0)] [(.int (97 : Int32)), (.int p0)]))
  by_cases hc9 : p0 < (97 : Int32)
  · have r10 := hf.trans (if_pos hc9)
    refine Go.back (fun t k => XS.icmpYes X0.here hx rfl (pc0 := 3) (pc' := 12) rfl (hb hby d1_3) rfl (tlt hc9).1 (by decide) (by decide) k) ?_
    show Go p.tables e below (P1 Z p0 h0 n0 s) (s₁.setTop (mkF m 12 #[.val (.int p0)] []))
    refine Go.back (fun t k => XS.iloadN X0.here hx rfl (hb hby d1_12) rfl  k) ?_
    show Go p.tables e below (P1 Z p0 h0 n0 s) (s₁.setTop (mkF m 13 #[.val (.int p0)] [(.int p0)]))
    refine Go.back (fun t k => XS.bipush X0.here hx rfl (hb hby d1_13) k) ?_
    show Go p.tables e below (P1 Z p0 h0 n0 s) (s₁.setTop (mkF m 15 #[.val (.int p0)] [(.int (65 : Int32)), (.int p0)]))
    by_cases hc11 : p0 < (65 : Int32)
    · have r12 := r10.trans (if_pos hc11)
      refine Go.back (fun t k => XS.icmpYes X0.here hx rfl (pc0 := 15) (pc' := 24) rfl (hb hby d1_15) rfl (tlt hc11).1 (by decide) (by decide) k) ?_
      show Go p.tables e below (P1 Z p0 h0 n0 s) (s₁.setTop (mkF m 24 #[.val (.int p0)] []))
      refine Go.back (fun t k => XS.iloadN X0.here hx rfl (hb hby d1_24) rfl  k) ?_
      show Go p.tables e below (P1 Z p0 h0 n0 s) (s₁.setTop (mkF m 25 #[.val (.int p0)] [(.int p0)]))
      refine Go.back (fun t k => XS.bipush X0.here hx rfl (hb hby d1_25) k) ?_
      show Go p.tables e below (P1 Z p0 h0 n0 s) (s₁.setTop (mkF m 27 #[.val (.int p0)] [(.int (48 : Int32)), (.int p0)]))
      by_cases hc13 : p0 < (48 : Int32)
      · have r14 := r12.trans (if_pos hc13)
        refine Go.back (fun t k => XS.icmpYes X0.here hx rfl (pc0 := 27) (pc' := 36) rfl (hb hby d1_27) rfl (tlt hc13).1 (by decide) (by decide) k) ?_
        show Go p.tables e below (P1 Z p0 h0 n0 s) (s₁.setTop (mkF m 36 #[.val (.int p0)] []))
        exact TAIL r14
      · have r15 := r12.trans (if_neg hc13)
        refine Go.back (fun t k => XS.icmpNo X0.here hx rfl (hb hby d1_27) rfl (flt hc13).1 k) ?_
        show Go p.tables e below (P1 Z p0 h0 n0 s) (s₁.setTop (mkF m 30 #[.val (.int p0)] []))
        refine Go.back (fun t k => XS.iloadN X0.here hx rfl (hb hby d1_30) rfl  k) ?_
        show Go p.tables e below (P1 Z p0 h0 n0 s) (s₁.setTop (mkF m 31 #[.val (.int p0)] [(.int p0)]))
        refine Go.back (fun t k => XS.bipush X0.here hx rfl (hb hby d1_31) k) ?_
        show Go p.tables e below (P1 Z p0 h0 n0 s) (s₁.setTop (mkF m 33 #[.val (.int p0)] [(.int (57 : Int32)), (.int p0)]))
        by_cases hc16 : (57 : Int32) < p0
        · have r17 := r15.trans (if_pos hc16)
          refine Go.back (fun t k => XS.icmpNo X0.here hx rfl (hb hby d1_33) rfl (tlt hc16).2.2.2 k) ?_
          show Go p.tables e below (P1 Z p0 h0 n0 s) (s₁.setTop (mkF m 36 #[.val (.int p0)] []))
          exact TAIL r17
        · have r18 := r15.trans (if_neg hc16)
          refine Go.back (fun t k => XS.icmpYes X0.here hx rfl (pc0 := 33) (pc' := 45) rfl (hb hby d1_33) rfl (flt hc16).2.2.2 (by decide) (by decide) k) ?_
          show Go p.tables e below (P1 Z p0 h0 n0 s) (s₁.setTop (mkF m 45 #[.val (.int p0)] []))
          refine Go.back (fun t k => XS.iconst X0.here hx rfl (hb hby d1_45) k) ?_
          show Go p.tables e below (P1 Z p0 h0 n0 s) (s₁.setTop (mkF m 46 #[.val (.int p0)] [(.int (1 : Int32))]))
          refine Go.back (fun t k => XS.goto X0.here hx rfl (pc0 := 46) (pc' := 50) rfl (hb hby d1_46) (by decide) (by decide) k) ?_
          show Go p.tables e below (P1 Z p0 h0 n0 s) (s₁.setTop (mkF m 50 #[.val (.int p0)] [(.int (1 : Int32))]))
          exact Go.retBW (s := s) (vm0 := s.vm) (b := true) (Qa := Q1 p0 h0 n0) (Qb := fun vm h => CHr Z EL1 s.vm s.heap vm h) X0 hx ((State.WarmedH.refl s).since h0.size) (Nat.le_of_eq (by rw [e0])) Bd.returns (hb hby d1_50) Bd.notSynchronized ⟨by rw [r18], N0⟩ (by rw [hh, e0]; exact CHv.at (s := s) (vm0 := s.vm) X0 hZ hEL hCH) (by decide) (by decide)
    · have r19 := r10.trans (if_neg hc11)
      refine Go.back (fun t k => XS.icmpNo X0.here hx rfl (hb hby d1_15) rfl (flt hc11).1 k) ?_
      show Go p.tables e below (P1 Z p0 h0 n0 s) (s₁.setTop (mkF m 18 #[.val (.int p0)] []))
      refine Go.back (fun t k => XS.iloadN X0.here hx rfl (hb hby d1_18) rfl  k) ?_
      show Go p.tables e below (P1 Z p0 h0 n0 s) (s₁.setTop (mkF m 19 #[.val (.int p0)] [(.int p0)]))
      refine Go.back (fun t k => XS.bipush X0.here hx rfl (hb hby d1_19) k) ?_
      show Go p.tables e below (P1 Z p0 h0 n0 s) (s₁.setTop (mkF m 21 #[.val (.int p0)] [(.int (90 : Int32)), (.int p0)]))
      by_cases hc20 : (90 : Int32) < p0
      · have r21 := r19.trans (if_pos hc20)
        refine Go.back (fun t k => XS.icmpNo X0.here hx rfl (hb hby d1_21) rfl (tlt hc20).2.2.2 k) ?_
        show Go p.tables e below (P1 Z p0 h0 n0 s) (s₁.setTop (mkF m 24 #[.val (.int p0)] []))
        refine Go.back (fun t k => XS.iloadN X0.here hx rfl (hb hby d1_24) rfl  k) ?_
        show Go p.tables e below (P1 Z p0 h0 n0 s) (s₁.setTop (mkF m 25 #[.val (.int p0)] [(.int p0)]))
        refine Go.back (fun t k => XS.bipush X0.here hx rfl (hb hby d1_25) k) ?_
        show Go p.tables e below (P1 Z p0 h0 n0 s) (s₁.setTop (mkF m 27 #[.val (.int p0)] [(.int (48 : Int32)), (.int p0)]))
        by_cases hc22 : p0 < (48 : Int32)
        · have r23 := r21.trans (if_pos hc22)
          refine Go.back (fun t k => XS.icmpYes X0.here hx rfl (pc0 := 27) (pc' := 36) rfl (hb hby d1_27) rfl (tlt hc22).1 (by decide) (by decide) k) ?_
          show Go p.tables e below (P1 Z p0 h0 n0 s) (s₁.setTop (mkF m 36 #[.val (.int p0)] []))
          exact TAIL r23
        · have r24 := r21.trans (if_neg hc22)
          refine Go.back (fun t k => XS.icmpNo X0.here hx rfl (hb hby d1_27) rfl (flt hc22).1 k) ?_
          show Go p.tables e below (P1 Z p0 h0 n0 s) (s₁.setTop (mkF m 30 #[.val (.int p0)] []))
          refine Go.back (fun t k => XS.iloadN X0.here hx rfl (hb hby d1_30) rfl  k) ?_
          show Go p.tables e below (P1 Z p0 h0 n0 s) (s₁.setTop (mkF m 31 #[.val (.int p0)] [(.int p0)]))
          refine Go.back (fun t k => XS.bipush X0.here hx rfl (hb hby d1_31) k) ?_
          show Go p.tables e below (P1 Z p0 h0 n0 s) (s₁.setTop (mkF m 33 #[.val (.int p0)] [(.int (57 : Int32)), (.int p0)]))
          by_cases hc25 : (57 : Int32) < p0
          · have r26 := r24.trans (if_pos hc25)
            refine Go.back (fun t k => XS.icmpNo X0.here hx rfl (hb hby d1_33) rfl (tlt hc25).2.2.2 k) ?_
            show Go p.tables e below (P1 Z p0 h0 n0 s) (s₁.setTop (mkF m 36 #[.val (.int p0)] []))
            exact TAIL r26
          · have r27 := r24.trans (if_neg hc25)
            refine Go.back (fun t k => XS.icmpYes X0.here hx rfl (pc0 := 33) (pc' := 45) rfl (hb hby d1_33) rfl (flt hc25).2.2.2 (by decide) (by decide) k) ?_
            show Go p.tables e below (P1 Z p0 h0 n0 s) (s₁.setTop (mkF m 45 #[.val (.int p0)] []))
            refine Go.back (fun t k => XS.iconst X0.here hx rfl (hb hby d1_45) k) ?_
            show Go p.tables e below (P1 Z p0 h0 n0 s) (s₁.setTop (mkF m 46 #[.val (.int p0)] [(.int (1 : Int32))]))
            refine Go.back (fun t k => XS.goto X0.here hx rfl (pc0 := 46) (pc' := 50) rfl (hb hby d1_46) (by decide) (by decide) k) ?_
            show Go p.tables e below (P1 Z p0 h0 n0 s) (s₁.setTop (mkF m 50 #[.val (.int p0)] [(.int (1 : Int32))]))
            exact Go.retBW (s := s) (vm0 := s.vm) (b := true) (Qa := Q1 p0 h0 n0) (Qb := fun vm h => CHr Z EL1 s.vm s.heap vm h) X0 hx ((State.WarmedH.refl s).since h0.size) (Nat.le_of_eq (by rw [e0])) Bd.returns (hb hby d1_50) Bd.notSynchronized ⟨by rw [r27], N0⟩ (by rw [hh, e0]; exact CHv.at (s := s) (vm0 := s.vm) X0 hZ hEL hCH) (by decide) (by decide)
      · have r28 := r19.trans (if_neg hc20)
        refine Go.back (fun t k => XS.icmpYes X0.here hx rfl (pc0 := 21) (pc' := 45) rfl (hb hby d1_21) rfl (flt hc20).2.2.2 (by decide) (by decide) k) ?_
        show Go p.tables e below (P1 Z p0 h0 n0 s) (s₁.setTop (mkF m 45 #[.val (.int p0)] []))
        refine Go.back (fun t k => XS.iconst X0.here hx rfl (hb hby d1_45) k) ?_
        show Go p.tables e below (P1 Z p0 h0 n0 s) (s₁.setTop (mkF m 46 #[.val (.int p0)] [(.int (1 : Int32))]))
        refine Go.back (fun t k => XS.goto X0.here hx rfl (pc0 := 46) (pc' := 50) rfl (hb hby d1_46) (by decide) (by decide) k) ?_
        show Go p.tables e below (P1 Z p0 h0 n0 s) (s₁.setTop (mkF m 50 #[.val (.int p0)] [(.int (1 : Int32))]))
        exact Go.retBW (s := s) (vm0 := s.vm) (b := true) (Qa := Q1 p0 h0 n0) (Qb := fun vm h => CHr Z EL1 s.vm s.heap vm h) X0 hx ((State.WarmedH.refl s).since h0.size) (Nat.le_of_eq (by rw [e0])) Bd.returns (hb hby d1_50) Bd.notSynchronized ⟨by rw [r28], N0⟩ (by rw [hh, e0]; exact CHv.at (s := s) (vm0 := s.vm) X0 hZ hEL hCH) (by decide) (by decide)
  · have r29 := hf.trans (if_neg hc9)
    refine Go.back (fun t k => XS.icmpNo X0.here hx rfl (hb hby d1_3) rfl (flt hc9).1 k) ?_
    show Go p.tables e below (P1 Z p0 h0 n0 s) (s₁.setTop (mkF m 6 #[.val (.int p0)] []))
    refine Go.back (fun t k => XS.iloadN X0.here hx rfl (hb hby d1_6) rfl  k) ?_
    show Go p.tables e below (P1 Z p0 h0 n0 s) (s₁.setTop (mkF m 7 #[.val (.int p0)] [(.int p0)]))
    refine Go.back (fun t k => XS.bipush X0.here hx rfl (hb hby d1_7) k) ?_
    show Go p.tables e below (P1 Z p0 h0 n0 s) (s₁.setTop (mkF m 9 #[.val (.int p0)] [(.int (122 : Int32)), (.int p0)]))
    by_cases hc30 : (122 : Int32) < p0
    · have r31 := r29.trans (if_pos hc30)
      refine Go.back (fun t k => XS.icmpNo X0.here hx rfl (hb hby d1_9) rfl (tlt hc30).2.2.2 k) ?_
      show Go p.tables e below (P1 Z p0 h0 n0 s) (s₁.setTop (mkF m 12 #[.val (.int p0)] []))
      refine Go.back (fun t k => XS.iloadN X0.here hx rfl (hb hby d1_12) rfl  k) ?_
      show Go p.tables e below (P1 Z p0 h0 n0 s) (s₁.setTop (mkF m 13 #[.val (.int p0)] [(.int p0)]))
      refine Go.back (fun t k => XS.bipush X0.here hx rfl (hb hby d1_13) k) ?_
      show Go p.tables e below (P1 Z p0 h0 n0 s) (s₁.setTop (mkF m 15 #[.val (.int p0)] [(.int (65 : Int32)), (.int p0)]))
      by_cases hc32 : p0 < (65 : Int32)
      · have r33 := r31.trans (if_pos hc32)
        refine Go.back (fun t k => XS.icmpYes X0.here hx rfl (pc0 := 15) (pc' := 24) rfl (hb hby d1_15) rfl (tlt hc32).1 (by decide) (by decide) k) ?_
        show Go p.tables e below (P1 Z p0 h0 n0 s) (s₁.setTop (mkF m 24 #[.val (.int p0)] []))
        refine Go.back (fun t k => XS.iloadN X0.here hx rfl (hb hby d1_24) rfl  k) ?_
        show Go p.tables e below (P1 Z p0 h0 n0 s) (s₁.setTop (mkF m 25 #[.val (.int p0)] [(.int p0)]))
        refine Go.back (fun t k => XS.bipush X0.here hx rfl (hb hby d1_25) k) ?_
        show Go p.tables e below (P1 Z p0 h0 n0 s) (s₁.setTop (mkF m 27 #[.val (.int p0)] [(.int (48 : Int32)), (.int p0)]))
        by_cases hc34 : p0 < (48 : Int32)
        · have r35 := r33.trans (if_pos hc34)
          refine Go.back (fun t k => XS.icmpYes X0.here hx rfl (pc0 := 27) (pc' := 36) rfl (hb hby d1_27) rfl (tlt hc34).1 (by decide) (by decide) k) ?_
          show Go p.tables e below (P1 Z p0 h0 n0 s) (s₁.setTop (mkF m 36 #[.val (.int p0)] []))
          exact TAIL r35
        · have r36 := r33.trans (if_neg hc34)
          refine Go.back (fun t k => XS.icmpNo X0.here hx rfl (hb hby d1_27) rfl (flt hc34).1 k) ?_
          show Go p.tables e below (P1 Z p0 h0 n0 s) (s₁.setTop (mkF m 30 #[.val (.int p0)] []))
          refine Go.back (fun t k => XS.iloadN X0.here hx rfl (hb hby d1_30) rfl  k) ?_
          show Go p.tables e below (P1 Z p0 h0 n0 s) (s₁.setTop (mkF m 31 #[.val (.int p0)] [(.int p0)]))
          refine Go.back (fun t k => XS.bipush X0.here hx rfl (hb hby d1_31) k) ?_
          show Go p.tables e below (P1 Z p0 h0 n0 s) (s₁.setTop (mkF m 33 #[.val (.int p0)] [(.int (57 : Int32)), (.int p0)]))
          by_cases hc37 : (57 : Int32) < p0
          · have r38 := r36.trans (if_pos hc37)
            refine Go.back (fun t k => XS.icmpNo X0.here hx rfl (hb hby d1_33) rfl (tlt hc37).2.2.2 k) ?_
            show Go p.tables e below (P1 Z p0 h0 n0 s) (s₁.setTop (mkF m 36 #[.val (.int p0)] []))
            exact TAIL r38
          · have r39 := r36.trans (if_neg hc37)
            refine Go.back (fun t k => XS.icmpYes X0.here hx rfl (pc0 := 33) (pc' := 45) rfl (hb hby d1_33) rfl (flt hc37).2.2.2 (by decide) (by decide) k) ?_
            show Go p.tables e below (P1 Z p0 h0 n0 s) (s₁.setTop (mkF m 45 #[.val (.int p0)] []))
            refine Go.back (fun t k => XS.iconst X0.here hx rfl (hb hby d1_45) k) ?_
            show Go p.tables e below (P1 Z p0 h0 n0 s) (s₁.setTop (mkF m 46 #[.val (.int p0)] [(.int (1 : Int32))]))
            refine Go.back (fun t k => XS.goto X0.here hx rfl (pc0 := 46) (pc' := 50) rfl (hb hby d1_46) (by decide) (by decide) k) ?_
            show Go p.tables e below (P1 Z p0 h0 n0 s) (s₁.setTop (mkF m 50 #[.val (.int p0)] [(.int (1 : Int32))]))
            exact Go.retBW (s := s) (vm0 := s.vm) (b := true) (Qa := Q1 p0 h0 n0) (Qb := fun vm h => CHr Z EL1 s.vm s.heap vm h) X0 hx ((State.WarmedH.refl s).since h0.size) (Nat.le_of_eq (by rw [e0])) Bd.returns (hb hby d1_50) Bd.notSynchronized ⟨by rw [r39], N0⟩ (by rw [hh, e0]; exact CHv.at (s := s) (vm0 := s.vm) X0 hZ hEL hCH) (by decide) (by decide)
      · have r40 := r31.trans (if_neg hc32)
        refine Go.back (fun t k => XS.icmpNo X0.here hx rfl (hb hby d1_15) rfl (flt hc32).1 k) ?_
        show Go p.tables e below (P1 Z p0 h0 n0 s) (s₁.setTop (mkF m 18 #[.val (.int p0)] []))
        refine Go.back (fun t k => XS.iloadN X0.here hx rfl (hb hby d1_18) rfl  k) ?_
        show Go p.tables e below (P1 Z p0 h0 n0 s) (s₁.setTop (mkF m 19 #[.val (.int p0)] [(.int p0)]))
        refine Go.back (fun t k => XS.bipush X0.here hx rfl (hb hby d1_19) k) ?_
        show Go p.tables e below (P1 Z p0 h0 n0 s) (s₁.setTop (mkF m 21 #[.val (.int p0)] [(.int (90 : Int32)), (.int p0)]))
        by_cases hc41 : (90 : Int32) < p0
        · have r42 := r40.trans (if_pos hc41)
          refine Go.back (fun t k => XS.icmpNo X0.here hx rfl (hb hby d1_21) rfl (tlt hc41).2.2.2 k) ?_
          show Go p.tables e below (P1 Z p0 h0 n0 s) (s₁.setTop (mkF m 24 #[.val (.int p0)] []))
          refine Go.back (fun t k => XS.iloadN X0.here hx rfl (hb hby d1_24) rfl  k) ?_
          show Go p.tables e below (P1 Z p0 h0 n0 s) (s₁.setTop (mkF m 25 #[.val (.int p0)] [(.int p0)]))
          refine Go.back (fun t k => XS.bipush X0.here hx rfl (hb hby d1_25) k) ?_
          show Go p.tables e below (P1 Z p0 h0 n0 s) (s₁.setTop (mkF m 27 #[.val (.int p0)] [(.int (48 : Int32)), (.int p0)]))
          by_cases hc43 : p0 < (48 : Int32)
          · have r44 := r42.trans (if_pos hc43)
            refine Go.back (fun t k => XS.icmpYes X0.here hx rfl (pc0 := 27) (pc' := 36) rfl (hb hby d1_27) rfl (tlt hc43).1 (by decide) (by decide) k) ?_
            show Go p.tables e below (P1 Z p0 h0 n0 s) (s₁.setTop (mkF m 36 #[.val (.int p0)] []))
            exact TAIL r44
          · have r45 := r42.trans (if_neg hc43)
            refine Go.back (fun t k => XS.icmpNo X0.here hx rfl (hb hby d1_27) rfl (flt hc43).1 k) ?_
            show Go p.tables e below (P1 Z p0 h0 n0 s) (s₁.setTop (mkF m 30 #[.val (.int p0)] []))
            refine Go.back (fun t k => XS.iloadN X0.here hx rfl (hb hby d1_30) rfl  k) ?_
            show Go p.tables e below (P1 Z p0 h0 n0 s) (s₁.setTop (mkF m 31 #[.val (.int p0)] [(.int p0)]))
            refine Go.back (fun t k => XS.bipush X0.here hx rfl (hb hby d1_31) k) ?_
            show Go p.tables e below (P1 Z p0 h0 n0 s) (s₁.setTop (mkF m 33 #[.val (.int p0)] [(.int (57 : Int32)), (.int p0)]))
            by_cases hc46 : (57 : Int32) < p0
            · have r47 := r45.trans (if_pos hc46)
              refine Go.back (fun t k => XS.icmpNo X0.here hx rfl (hb hby d1_33) rfl (tlt hc46).2.2.2 k) ?_
              show Go p.tables e below (P1 Z p0 h0 n0 s) (s₁.setTop (mkF m 36 #[.val (.int p0)] []))
              exact TAIL r47
            · have r48 := r45.trans (if_neg hc46)
              refine Go.back (fun t k => XS.icmpYes X0.here hx rfl (pc0 := 33) (pc' := 45) rfl (hb hby d1_33) rfl (flt hc46).2.2.2 (by decide) (by decide) k) ?_
              show Go p.tables e below (P1 Z p0 h0 n0 s) (s₁.setTop (mkF m 45 #[.val (.int p0)] []))
              refine Go.back (fun t k => XS.iconst X0.here hx rfl (hb hby d1_45) k) ?_
              show Go p.tables e below (P1 Z p0 h0 n0 s) (s₁.setTop (mkF m 46 #[.val (.int p0)] [(.int (1 : Int32))]))
              refine Go.back (fun t k => XS.goto X0.here hx rfl (pc0 := 46) (pc' := 50) rfl (hb hby d1_46) (by decide) (by decide) k) ?_
              show Go p.tables e below (P1 Z p0 h0 n0 s) (s₁.setTop (mkF m 50 #[.val (.int p0)] [(.int (1 : Int32))]))
              exact Go.retBW (s := s) (vm0 := s.vm) (b := true) (Qa := Q1 p0 h0 n0) (Qb := fun vm h => CHr Z EL1 s.vm s.heap vm h) X0 hx ((State.WarmedH.refl s).since h0.size) (Nat.le_of_eq (by rw [e0])) Bd.returns (hb hby d1_50) Bd.notSynchronized ⟨by rw [r48], N0⟩ (by rw [hh, e0]; exact CHv.at (s := s) (vm0 := s.vm) X0 hZ hEL hCH) (by decide) (by decide)
        · have r49 := r40.trans (if_neg hc41)
          refine Go.back (fun t k => XS.icmpYes X0.here hx rfl (pc0 := 21) (pc' := 45) rfl (hb hby d1_21) rfl (flt hc41).2.2.2 (by decide) (by decide) k) ?_
          show Go p.tables e below (P1 Z p0 h0 n0 s) (s₁.setTop (mkF m 45 #[.val (.int p0)] []))
          refine Go.back (fun t k => XS.iconst X0.here hx rfl (hb hby d1_45) k) ?_
          show Go p.tables e below (P1 Z p0 h0 n0 s) (s₁.setTop (mkF m 46 #[.val (.int p0)] [(.int (1 : Int32))]))
          refine Go.back (fun t k => XS.goto X0.here hx rfl (pc0 := 46) (pc' := 50) rfl (hb hby d1_46) (by decide) (by decide) k) ?_
          show Go p.tables e below (P1 Z p0 h0 n0 s) (s₁.setTop (mkF m 50 #[.val (.int p0)] [(.int (1 : Int32))]))
          exact Go.retBW (s := s) (vm0 := s.vm) (b := true) (Qa := Q1 p0 h0 n0) (Qb := fun vm h => CHr Z EL1 s.vm s.heap vm h) X0 hx ((State.WarmedH.refl s).since h0.size) (Nat.le_of_eq (by rw [e0])) Bd.returns (hb hby d1_50) Bd.notSynchronized ⟨by rw [r49], N0⟩ (by rw [hh, e0]; exact CHv.at (s := s) (vm0 := s.vm) X0 hZ hEL hCH) (by decide) (by decide)
    · have r50 := r29.trans (if_neg hc30)
      refine Go.back (fun t k => XS.icmpYes X0.here hx rfl (pc0 := 9) (pc' := 45) rfl (hb hby d1_9) rfl (flt hc30).2.2.2 (by decide) (by decide) k) ?_
      show Go p.tables e below (P1 Z p0 h0 n0 s) (s₁.setTop (mkF m 45 #[.val (.int p0)] []))
      refine Go.back (fun t k => XS.iconst X0.here hx rfl (hb hby d1_45) k) ?_
      show Go p.tables e below (P1 Z p0 h0 n0 s) (s₁.setTop (mkF m 46 #[.val (.int p0)] [(.int (1 : Int32))]))
      refine Go.back (fun t k => XS.goto X0.here hx rfl (pc0 := 46) (pc' := 50) rfl (hb hby d1_46) (by decide) (by decide) k) ?_
      show Go p.tables e below (P1 Z p0 h0 n0 s) (s₁.setTop (mkF m 50 #[.val (.int p0)] [(.int (1 : Int32))]))
      exact Go.retBW (s := s) (vm0 := s.vm) (b := true) (Qa := Q1 p0 h0 n0) (Qb := fun vm h => CHr Z EL1 s.vm s.heap vm h) X0 hx ((State.WarmedH.refl s).since h0.size) (Nat.le_of_eq (by rw [e0])) Bd.returns (hb hby d1_50) Bd.notSynchronized ⟨by rw [r50], N0⟩ (by rw [hh, e0]; exact CHv.at (s := s) (vm0 := s.vm) X0 hZ hEL hCH) (by decide) (by decide)
def f0 (p0 : Int32) (p1 : Int32) : Bool := (let z3 : Bool := (if (p1 &&& (1 : Int32)) = (0 : Int32) then false else true); (let z7 : Int32 := (if z3 = true then (((p0 &&& (127 : Int32))).toUInt32.toUInt16.toUInt32.toInt32) else ((p0).toUInt32.toUInt16.toUInt32.toInt32)); (let z12 : Bool := (if (f1 z7) = (f12 z7) then true else false); z12)))
def Q0 (p0 : Int32) (p1 : Int32) (h0 : Heap) (n0 : Nat) (v : Option Value) (h : Heap) (L : List Loc) : Prop := v = some (.int (b2i (f0 p0 p1))) ∧ Fr n0 L
abbrev P0 (Z : State) (p0 : Int32) (p1 : Int32) (h0 : Heap) (n0 : Nat) (s : State) : Outcome → State → Prop := fun o U' => ∃ v L, o = .returned v ∧ Q0 p0 p1 h0 n0 v U'.heap L ∧ True ∧ ReturnedEndW s o U' L room_1.cells room_1.slots
theorem pn_0 : plainName "com/example/paylode/paylode/header/HeaderSyntaxIsTokenCharPinLaw" = true := by first | (simp [plainName, overriddenIn]; done) | decide +kernel
theorem ef_0 (m : MethodId) (p0 : Int32) (p1 : Int32) : entryFrame m #[(.int p0), (.int p1)] maxLocals = mkF m 0 #[.val (.int p0), .val (.int p1), .unset, .unset] [] := by first | (simp [entryFrame, mkF, argsToLocals, Value.category, maxLocals]; done) | rfl
set_option maxRecDepth 65536 in
set_option maxHeartbeats 40000000 in
theorem rm0 (l : Launch) (Z : State) (a0 : Array Value) (hw : ∀ d ∈ tables_1, d.before a0 Z = true) (ws : List Jvm.Cond) (p0 : Int32) (p1 : Int32) (cs : Int32) (h0 : Heap) (n0 : Nat) (Z0 : n0 ≤ h0.size) (hEL : EW Z a0 EL1) (S0 : Sta Z h0 "java/lang/String" "COMPACT_STRINGS" "Z" (.int cs)) (hcs : ¬ cs = (0 : Int32)) :
    MetFree l x (head1 (Jvm.Cond.code x code maxLocals ret :: ws) room_1) (fun a U => a = #[(.int p0), (.int p1)] ∧ Z.Warmed39 U.vm ∧ U.heap = h0 ∧ CHv Z EL1 U.vm h0) (fun _ _ _ _ _ => True) (fun _ U o U' => ∃ v L, o = .returned v ∧ Q0 p0 p1 h0 n0 v U'.heap L ∧ True ∧ ReturnedEndW U o U' L room_1.cells room_1.slots) := by
  refine MetFree.of_bodySF (plainFor_of_name pn_0) hisR ?_
  intro p e s m args below meth c s₁ Bd hml0 hP hK
  obtain ⟨rfl, hZ, hh, hCH⟩ := hP
  have hx := Bd.exec
  have hby := Bd.bytes
  have hml : c.maxLocals = 4 := hml0
  have hown : s.vm.findClass "com/example/paylode/paylode/header/HeaderSyntaxIsTokenCharPinLaw" = some m.cls := findClass_of_methodNamed Bd.named
  have X0 : Stand p l e room_1 s m #[(.int p0), (.int p1)] below meth c s₁ [] 0 0 := Stand.of_body Bd
  have e0 : s₁.heap = h0 := by rw [← hh, Bd.state]; rfl
  have N0 := Fr.nil n0
  show Go p.tables e below (P0 Z p0 p1 h0 n0 s) (s₁.setTop (entryFrame m #[(.int p0), (.int p1)] maxLocals))
  refine Go.back (fun t k => castTop (ef_0 m p0 p1) k) ?_
  show Go p.tables e below (P0 Z p0 p1 h0 n0 s) (s₁.setTop (mkF m 0 #[.val (.int p0), .val (.int p1), .unset, .unset] []))
  have hf : f0 p0 p1 = (let z3 : Bool := (if (p1 &&& (1 : Int32)) = (0 : Int32) then false else true); (let z7 : Int32 := (if z3 = true then (((p0 &&& (127 : Int32))).toUInt32.toUInt16.toUInt32.toInt32) else ((p0).toUInt32.toUInt16.toUInt32.toInt32)); (let z12 : Bool := (if (f1 z7) = (f12 z7) then true else false); z12))) := rfl
  refine Go.back (fun t k => XS.iloadN X0.here hx rfl (hb hby at_0) rfl  k) ?_
  show Go p.tables e below (P0 Z p0 p1 h0 n0 s) (s₁.setTop (mkF m 1 #[.val (.int p0), .val (.int p1), .unset, .unset] [(.int p1)]))
  refine Go.back (fun t k => XS.iconst X0.here hx rfl (hb hby at_1) k) ?_
  show Go p.tables e below (P0 Z p0 p1 h0 n0 s) (s₁.setTop (mkF m 2 #[.val (.int p0), .val (.int p1), .unset, .unset] [(.int (1 : Int32)), (.int p1)]))
  refine Go.back (fun t k => XS.iand X0.here hx rfl (hb hby at_2) rfl k) ?_
  show Go p.tables e below (P0 Z p0 p1 h0 n0 s) (s₁.setTop (mkF m 3 #[.val (.int p0), .val (.int p1), .unset, .unset] [(.int (p1 &&& (1 : Int32)))]))
  have J2 : ∀ (z3 : Bool) (hz3 : z3 = (if (p1 &&& (1 : Int32)) = (0 : Int32) then false else true)), Go p.tables e below (P0 Z p0 p1 h0 n0 s) (s₁.setTop (mkF m 11 #[.val (.int p0), .val (.int p1), .unset, .unset] [(.int (b2i z3))])) := by
    intro z3 hz3
    have r4 : f0 p0 p1 = (let z7 : Int32 := (if z3 = true then (((p0 &&& (127 : Int32))).toUInt32.toUInt16.toUInt32.toInt32) else ((p0).toUInt32.toUInt16.toUInt32.toInt32)); (let z12 : Bool := (if (f1 z7) = (f12 z7) then true else false); z12)) := by subst hz3; exact hf
    show Go p.tables e below (P0 Z p0 p1 h0 n0 s) (s₁.setTop (mkF m 11 #[.val (.int p0), .val (.int p1), .unset, .unset] [(.int (b2i z3))]))
    refine Go.back (fun t k => XS.istoreN X0.here hx rfl (hb hby at_11) rfl (l' := #[.val (.int p0), .val (.int p1), .val (.int (b2i z3)), .unset]) rfl k) ?_
    show Go p.tables e below (P0 Z p0 p1 h0 n0 s) (s₁.setTop (mkF m 12 #[.val (.int p0), .val (.int p1), .val (.int (b2i z3)), .unset] []))
    refine Go.back (fun t k => XS.iloadN X0.here hx rfl (hb hby at_12) rfl  k) ?_
    show Go p.tables e below (P0 Z p0 p1 h0 n0 s) (s₁.setTop (mkF m 13 #[.val (.int p0), .val (.int p1), .val (.int (b2i z3)), .unset] [(.int (b2i z3))]))
    have J6 : ∀ (z7 : Int32) (hz7 : z7 = (if z3 = true then (((p0 &&& (127 : Int32))).toUInt32.toUInt16.toUInt32.toInt32) else ((p0).toUInt32.toUInt16.toUInt32.toInt32))), Go p.tables e below (P0 Z p0 p1 h0 n0 s) (s₁.setTop (mkF m 26 #[.val (.int p0), .val (.int p1), .val (.int (b2i z3)), .unset] [(.int z7)])) := by
      intro z7 hz7
      have r8 : f0 p0 p1 = (let z12 : Bool := (if (f1 z7) = (f12 z7) then true else false); z12) := by subst hz7; exact r4
      show Go p.tables e below (P0 Z p0 p1 h0 n0 s) (s₁.setTop (mkF m 26 #[.val (.int p0), .val (.int p1), .val (.int (b2i z3)), .unset] [(.int z7)]))
      refine Go.back (fun t k => XS.istoreN X0.here hx rfl (hb hby at_26) rfl (l' := #[.val (.int p0), .val (.int p1), .val (.int (b2i z3)), .val (.int z7)]) rfl k) ?_
      show Go p.tables e below (P0 Z p0 p1 h0 n0 s) (s₁.setTop (mkF m 27 #[.val (.int p0), .val (.int p1), .val (.int (b2i z3)), .val (.int z7)] []))
      refine Go.back (fun t k => XS.iloadN X0.here hx rfl (hb hby at_27) rfl  k) ?_
      show Go p.tables e below (P0 Z p0 p1 h0 n0 s) (s₁.setTop (mkF m 28 #[.val (.int p0), .val (.int p1), .val (.int (b2i z3)), .val (.int z7)] [(.int z7)]))
      obtain ⟨_, vmww, ⟨Tww, Lww, kww, nww⟩, -, Xww, hSww, hgww, ⟨Lcww, hQww, lww, yww, zww, hCww⟩, stww⟩ := callSS X0 hx (y := (⟨"com/example/paylode/paylode/header/HeaderSyntax", "isTokenChar", "(C)Z"⟩ : MethodName)) hown (mvT hZ (hw _ (List.mem_of_getElem? (i := 0) rfl))) (mvT hZ (hw _ (List.mem_of_getElem? (i := 1) rfl))) (mvT hZ (hw _ (List.mem_of_getElem? (i := 2) rfl))) (mvT hZ (hw _ (List.mem_of_getElem? (i := 3) rfl))) (by decide) (backOfSH (s := s) (vm0 := s.vm) (W := 0) (rm1 l Z a0 hw [] z7 cs h0 n0 Z0 hEL S0 hcs) hZ (hw _ (List.mem_of_getElem? (i := 3) rfl)) (hw _ (List.mem_of_getElem? (i := 2) rfl)) (by decide) (by decide) hEL hCH) (g := (mkF m 28 #[.val (.int p0), .val (.int p1), .val (.int (b2i z3)), .val (.int z7)] [(.int z7)])) rfl (by rw [hml]; rfl) (argsL := [(.int z7)]) (rest := []) (lenOf pd_0 rfl) rfl (by show 2 * 0 + _ ≤ _; exact Nat.le_of_eq rfl) (hb hby at_28) (fun _ _ => ⟨rfl, e0, (by decide : 0 + 2 ≤ _), (by decide : 0 + 64 ≤ _)⟩)
      dsimp only [Pt.U, Pt.locs, Pt.cells, Pt.slots] at Xww hSww lww yww zww stww hQww
      subst lww yww zww
      obtain ⟨hww, eww⟩ : ∃ z, Tww.heap = z := ⟨_, rfl⟩
      obtain ⟨rfl, Nwwq⟩ := hQww
      obtain ⟨Loww, Yww, Nww⟩ := pk Xww (Fr.app N0 Nwwq)
      have hown : (s.setVm Tww.vm).vm.findClass "com/example/paylode/paylode/header/HeaderSyntaxIsTokenCharPinLaw" = some m.cls := by rw [show (s.setVm Tww.vm).vm = Tww.vm from rfl, hSww.1.alike.findClass]; exact hown
      have hZ : Z.Warmed39 (s.setVm Tww.vm).vm := State.Warmed39.trans (t := s) hZ hSww.1
      refine Go.trans stww ?_
      show Go p.tables e below (P0 Z p0 p1 h0 n0 s) (Tww.setTop (mkF m 31 #[.val (.int p0), .val (.int p1), .val (.int (b2i z3)), .val (.int z7)] [(.int (b2i (f1 z7)))]))
      refine Go.back (fun t k => XS.iloadN Yww.here hx rfl (hb hby at_31) rfl  k) ?_
      show Go p.tables e below (P0 Z p0 p1 h0 n0 s) (Tww.setTop (mkF m 32 #[.val (.int p0), .val (.int p1), .val (.int (b2i z3)), .val (.int z7)] [(.int z7), (.int (b2i (f1 z7)))]))
      obtain ⟨_, _, ⟨T9, L9, k9, n9⟩, -, X9, ⟨Lc9, hQ9, l9, y9, z9⟩, st9⟩ := Jvm.LawKit.callS Yww hx (y := (⟨"com/example/paylode/paylode/header/HeaderSyntaxIsTokenCharPinLaw", "expected", "(C)Z"⟩ : MethodName)) hown (mvT hZ (hw _ (List.mem_of_getElem? (i := 57) rfl))) (mvT hZ (hw _ (List.mem_of_getElem? (i := 58) rfl))) (mvT hZ (hw _ (List.mem_of_getElem? (i := 59) rfl))) (mvT hZ (hw _ (List.mem_of_getElem? (i := 60) rfl))) (by decide) (backOf (W := 1) (rm12 l Z a0 hw [] z7 hww n0) hZ (hw _ (List.mem_of_getElem? (i := 60) rfl)) (hw _ (List.mem_of_getElem? (i := 59) rfl)) (by decide) (by decide)) (g := (mkF m 32 #[.val (.int p0), .val (.int p1), .val (.int (b2i z3)), .val (.int z7)] [(.int z7), (.int (b2i (f1 z7)))])) rfl (by rw [hml]; rfl) (argsL := [(.int z7)]) (rest := [(.int (b2i (f1 z7)))]) (lenOf pd_0 rfl) rfl (by show 2 * 0 + _ ≤ _; exact Nat.le_of_eq rfl) (hb hby at_32) (fun _ _ => ⟨rfl, eww, (by decide : 2 + 0 ≤ _), (by decide : 64 + 0 ≤ _)⟩)
      dsimp only [Pt.U, Pt.locs, Pt.cells, Pt.slots] at X9 l9 y9 z9 st9 hQ9
      subst l9 y9 z9
      obtain ⟨rfl, N9q, e9⟩ := hQ9
      obtain ⟨Lo9, Y9, N9⟩ := pk X9 (Fr.app Nww N9q)
      refine Go.back st9 ?_
      show Go p.tables e below (P0 Z p0 p1 h0 n0 s) (T9.setTop (mkF m 35 #[.val (.int p0), .val (.int p1), .val (.int (b2i z3)), .val (.int z7)] [(.int (b2i (f12 z7))), (.int (b2i (f1 z7)))]))
      have J11 : ∀ (z12 : Bool) (hz12 : z12 = (if (f1 z7) = (f12 z7) then true else false)), Go p.tables e below (P0 Z p0 p1 h0 n0 s) (T9.setTop (mkF m 43 #[.val (.int p0), .val (.int p1), .val (.int (b2i z3)), .val (.int z7)] [(.int (b2i z12))])) := by
        intro z12 hz12
        have r13 : f0 p0 p1 = z12 := by subst hz12; exact r8
        show Go p.tables e below (P0 Z p0 p1 h0 n0 s) (T9.setTop (mkF m 43 #[.val (.int p0), .val (.int p1), .val (.int (b2i z3)), .val (.int z7)] [(.int (b2i z12))]))
        exact Go.retBW (s := s) (vm0 := Tww.vm) (b := z12) (Qa := Q0 p0 p1 h0 n0) (Qb := fun vm h => True) Y9 hx hSww (Nat.le_of_eq (by rw [e9, eww])) Bd.returns (hb hby at_43) Bd.notSynchronized ⟨by rw [r13], N9⟩ trivial (by decide) (by decide)
      have r14 : (if (f1 z7) = (f12 z7) then true else false) = (if (f1 z7) = (f12 z7) then true else false) := rfl
      by_cases hc10 : (f1 z7) = (f12 z7)
      · have r15 := r14.trans (if_pos hc10)
        refine Go.back (fun t k => XS.icmpNo Y9.here hx rfl (hb hby at_35) rfl (teq (congrArg b2i hc10)).2 k) ?_
        show Go p.tables e below (P0 Z p0 p1 h0 n0 s) (T9.setTop (mkF m 38 #[.val (.int p0), .val (.int p1), .val (.int (b2i z3)), .val (.int z7)] []))
        refine Go.back (fun t k => XS.iconst Y9.here hx rfl (hb hby at_38) k) ?_
        show Go p.tables e below (P0 Z p0 p1 h0 n0 s) (T9.setTop (mkF m 39 #[.val (.int p0), .val (.int p1), .val (.int (b2i z3)), .val (.int z7)] [(.int (1 : Int32))]))
        refine Go.back (fun t k => XS.goto Y9.here hx rfl (pc0 := 39) (pc' := 43) rfl (hb hby at_39) (by decide) (by decide) k) ?_
        show Go p.tables e below (P0 Z p0 p1 h0 n0 s) (T9.setTop (mkF m 43 #[.val (.int p0), .val (.int p1), .val (.int (b2i z3)), .val (.int z7)] [(.int (1 : Int32))]))
        exact J11 true r15.symm
      · have r16 := r14.trans (if_neg hc10)
        refine Go.back (fun t k => XS.icmpYes Y9.here hx rfl (pc0 := 35) (pc' := 42) rfl (hb hby at_35) rfl (feq (fun q => hc10 (b2i_inj q))).2 (by decide) (by decide) k) ?_
        show Go p.tables e below (P0 Z p0 p1 h0 n0 s) (T9.setTop (mkF m 42 #[.val (.int p0), .val (.int p1), .val (.int (b2i z3)), .val (.int z7)] []))
        refine Go.back (fun t k => XS.iconst Y9.here hx rfl (hb hby at_42) k) ?_
        show Go p.tables e below (P0 Z p0 p1 h0 n0 s) (T9.setTop (mkF m 43 #[.val (.int p0), .val (.int p1), .val (.int (b2i z3)), .val (.int z7)] [(.int (0 : Int32))]))
        exact J11 false r16.symm
    have r17 : (if z3 = true then (((p0 &&& (127 : Int32))).toUInt32.toUInt16.toUInt32.toInt32) else ((p0).toUInt32.toUInt16.toUInt32.toInt32)) = (if z3 = true then (((p0 &&& (127 : Int32))).toUInt32.toUInt16.toUInt32.toInt32) else ((p0).toUInt32.toUInt16.toUInt32.toInt32)) := rfl
    by_cases hc5 : z3 = true
    · have r18 := r17.trans (if_pos hc5)
      refine Go.back (fun t k => XS.ifNo X0.here hx rfl (hb hby at_13) rfl ((if0 _ _).trans (feq (b2i_t hc5)).1) k) ?_
      show Go p.tables e below (P0 Z p0 p1 h0 n0 s) (s₁.setTop (mkF m 16 #[.val (.int p0), .val (.int p1), .val (.int (b2i z3)), .unset] []))
      refine Go.back (fun t k => XS.iloadN X0.here hx rfl (hb hby at_16) rfl  k) ?_
      show Go p.tables e below (P0 Z p0 p1 h0 n0 s) (s₁.setTop (mkF m 17 #[.val (.int p0), .val (.int p1), .val (.int (b2i z3)), .unset] [(.int p0)]))
      refine Go.back (fun t k => XS.bipush X0.here hx rfl (hb hby at_17) k) ?_
      show Go p.tables e below (P0 Z p0 p1 h0 n0 s) (s₁.setTop (mkF m 19 #[.val (.int p0), .val (.int p1), .val (.int (b2i z3)), .unset] [(.int (127 : Int32)), (.int p0)]))
      refine Go.back (fun t k => XS.iand X0.here hx rfl (hb hby at_19) rfl k) ?_
      show Go p.tables e below (P0 Z p0 p1 h0 n0 s) (s₁.setTop (mkF m 20 #[.val (.int p0), .val (.int p1), .val (.int (b2i z3)), .unset] [(.int (p0 &&& (127 : Int32)))]))
      refine Go.back (fun t k => XS.i2c X0.here hx rfl (hb hby at_20) rfl k) ?_
      show Go p.tables e below (P0 Z p0 p1 h0 n0 s) (s₁.setTop (mkF m 21 #[.val (.int p0), .val (.int p1), .val (.int (b2i z3)), .unset] [(.int (((p0 &&& (127 : Int32))).toUInt32.toUInt16.toUInt32.toInt32))]))
      refine Go.back (fun t k => XS.goto X0.here hx rfl (pc0 := 21) (pc' := 26) rfl (hb hby at_21) (by decide) (by decide) k) ?_
      show Go p.tables e below (P0 Z p0 p1 h0 n0 s) (s₁.setTop (mkF m 26 #[.val (.int p0), .val (.int p1), .val (.int (b2i z3)), .unset] [(.int (((p0 &&& (127 : Int32))).toUInt32.toUInt16.toUInt32.toInt32))]))
      exact J6 (((p0 &&& (127 : Int32))).toUInt32.toUInt16.toUInt32.toInt32) r18.symm
    · have r19 := r17.trans (if_neg hc5)
      refine Go.back (fun t k => XS.ifYes X0.here hx rfl (pc0 := 13) (pc' := 24) rfl (hb hby at_13) rfl ((if0 _ _).trans (teq (b2i_f hc5)).1) (by decide) (by decide) k) ?_
      show Go p.tables e below (P0 Z p0 p1 h0 n0 s) (s₁.setTop (mkF m 24 #[.val (.int p0), .val (.int p1), .val (.int (b2i z3)), .unset] []))
      refine Go.back (fun t k => XS.iloadN X0.here hx rfl (hb hby at_24) rfl  k) ?_
      show Go p.tables e below (P0 Z p0 p1 h0 n0 s) (s₁.setTop (mkF m 25 #[.val (.int p0), .val (.int p1), .val (.int (b2i z3)), .unset] [(.int p0)]))
      refine Go.back (fun t k => XS.i2c X0.here hx rfl (hb hby at_25) rfl k) ?_
      show Go p.tables e below (P0 Z p0 p1 h0 n0 s) (s₁.setTop (mkF m 26 #[.val (.int p0), .val (.int p1), .val (.int (b2i z3)), .unset] [(.int ((p0).toUInt32.toUInt16.toUInt32.toInt32))]))
      exact J6 ((p0).toUInt32.toUInt16.toUInt32.toInt32) r19.symm
  have r20 : (if (p1 &&& (1 : Int32)) = (0 : Int32) then false else true) = (if (p1 &&& (1 : Int32)) = (0 : Int32) then false else true) := rfl
  by_cases hc1 : (p1 &&& (1 : Int32)) = (0 : Int32)
  · have r21 := r20.trans (if_pos hc1)
    refine Go.back (fun t k => XS.ifYes X0.here hx rfl (pc0 := 3) (pc' := 10) rfl (hb hby at_3) rfl ((if0 _ _).trans (teq hc1).1) (by decide) (by decide) k) ?_
    show Go p.tables e below (P0 Z p0 p1 h0 n0 s) (s₁.setTop (mkF m 10 #[.val (.int p0), .val (.int p1), .unset, .unset] []))
    refine Go.back (fun t k => XS.iconst X0.here hx rfl (hb hby at_10) k) ?_
    show Go p.tables e below (P0 Z p0 p1 h0 n0 s) (s₁.setTop (mkF m 11 #[.val (.int p0), .val (.int p1), .unset, .unset] [(.int (0 : Int32))]))
    exact J2 false r21.symm
  · have r22 := r20.trans (if_neg hc1)
    refine Go.back (fun t k => XS.ifNo X0.here hx rfl (hb hby at_3) rfl ((if0 _ _).trans (feq hc1).1) k) ?_
    show Go p.tables e below (P0 Z p0 p1 h0 n0 s) (s₁.setTop (mkF m 6 #[.val (.int p0), .val (.int p1), .unset, .unset] []))
    refine Go.back (fun t k => XS.iconst X0.here hx rfl (hb hby at_6) k) ?_
    show Go p.tables e below (P0 Z p0 p1 h0 n0 s) (s₁.setTop (mkF m 7 #[.val (.int p0), .val (.int p1), .unset, .unset] [(.int (1 : Int32))]))
    refine Go.back (fun t k => XS.goto X0.here hx rfl (pc0 := 7) (pc' := 11) rfl (hb hby at_7) (by decide) (by decide) k) ?_
    show Go p.tables e below (P0 Z p0 p1 h0 n0 s) (s₁.setTop (mkF m 11 #[.val (.int p0), .val (.int p1), .unset, .unset] [(.int (1 : Int32))]))
    exact J2 true r22.symm
set_option maxRecDepth 65536 in
theorem own_tab : ∀ t : Fin 256, f1 (Int32.ofNat t.1) = f12 (Int32.ofNat t.1) := by decide +kernel
theorem own_ltT {a b : Int32} (h : a.toInt < b.toInt) : a < b := Int32.lt_iff_toInt_lt.mpr h
theorem own_ltF {a b : Int32} (h : b.toInt ≤ a.toInt) : ¬ a < b := fun q => by have := Int32.lt_iff_toInt_lt.mp q; omega
theorem own_lo {c : Int32} (h : c < 0) : f1 c = f12 c := by
  have q := Int32.lt_iff_toInt_lt.mp h
  have z0 : (0 : Int32).toInt = 0 := by decide
  have a1 : c < 97 := own_ltT (by have : (97 : Int32).toInt = 97 := by decide
                                  omega)
  have a2 : c < 65 := own_ltT (by have : (65 : Int32).toInt = 65 := by decide
                                  omega)
  have a3 : c < 48 := own_ltT (by have : (48 : Int32).toInt = 48 := by decide
                                  omega)
  have a4 : c < 33 := own_ltT (by have : (33 : Int32).toInt = 33 := by decide
                                  omega)
  have h8 : f8 c = false := by simp only [f8, if_pos h]
  have h2 : f2 c < 0 := by simp only [f2, f3, f7, h8]; rw [if_neg (by decide)]; decide
  simp only [f1, f12, if_pos a1, if_pos a2, if_pos a3, if_pos a4, if_pos h2]
theorem own_hi {c : Int32} (h : 255 < c) : f1 c = f12 c := by
  have q := Int32.lt_iff_toInt_lt.mp h
  have z0 : (255 : Int32).toInt = 255 := by decide
  have a0 : ¬ c < 0 := own_ltF (by have : (0 : Int32).toInt = 0 := by decide
                                   omega)
  have a1 : ¬ c < 97 := own_ltF (by have : (97 : Int32).toInt = 97 := by decide
                                    omega)
  have a2 : ¬ c < 65 := own_ltF (by have : (65 : Int32).toInt = 65 := by decide
                                    omega)
  have a3 : ¬ c < 48 := own_ltF (by have : (48 : Int32).toInt = 48 := by decide
                                    omega)
  have a4 : ¬ c < 33 := own_ltF (by have : (33 : Int32).toInt = 33 := by decide
                                    omega)
  have b1 : 122 < c := own_ltT (by have : (122 : Int32).toInt = 122 := by decide
                                   omega)
  have b2 : 90 < c := own_ltT (by have : (90 : Int32).toInt = 90 := by decide
                                  omega)
  have b3 : 57 < c := own_ltT (by have : (57 : Int32).toInt = 57 := by decide
                                  omega)
  have b4 : 126 < c := own_ltT (by have : (126 : Int32).toInt = 126 := by decide
                                   omega)
  have h8 : f8 c = false := by simp only [f8, if_neg a0, if_pos h]
  have h2 : f2 c < 0 := by simp only [f2, f3, f7, h8]; rw [if_neg (by decide)]; decide
  simp only [f1, f12, if_neg a1, if_neg a2, if_neg a3, if_neg a4, if_pos b1, if_pos b2, if_pos b3, if_pos b4, if_pos h2]
theorem own_eq (c : Int32) : f1 c = f12 c := by
  by_cases h0 : c < 0
  · exact own_lo h0
  · by_cases h1 : 255 < c
    · exact own_hi h1
    · have q0 : 0 ≤ c.toInt := by
        by_cases z : c.toInt < 0
        · exact absurd (own_ltT (b := 0) (by simpa using z)) h0
        · omega
      have q1 : c.toInt ≤ 255 := by
        by_cases z : 255 < c.toInt
        · exact absurd (own_ltT (a := 255) (by have : (255 : Int32).toInt = 255 := by decide
                                               omega)) h1
        · omega
      have e : c = Int32.ofNat c.toInt.toNat := Int32.toInt_inj.mp (by rw [Int32.toInt_ofNat_small (by omega)]; omega)
      rw [e]
      exact own_tab ⟨c.toInt.toNat, by omega⟩
theorem own_law : ∀ (p0 p1 : Int32), f0 p0 p1 = true := fun p0 p1 => by
  simp only [f0, own_eq]
  exact if_pos trivial
set_option maxRecDepth 65536 in
set_option maxHeartbeats 40000000 in
theorem comes_1 {Post : Tables → Env → Array Value → State → Outcome → State → Prop} (hpost : ∀ tb e args s v u, (limb_1_1.after args s (.returned v) u = true ∧ limb_1_2.after args s (.returned v) u = true ∧ True) → FramedW s (.returned v) u (Jvm.fieldLocs frame_1_writes args s ++ Jvm.arrayLocs frame_1_arrays args s ++ Jvm.staticLocs frame_1_statics s) 8 1088 → Post tb e args s (.returned v) u) :
    ArmFor flags0 classFile x code maxLocals ret World_1 tables_1 room_1 Calls_1 rest_1 Pre_1 Post := by
  intro l hfl _ _ p e ha hc hk s m args below hf hA hF happ hP
  obtain ⟨hcalls, hrest, hpre⟩ := hP
  obtain ⟨-, -, -, hnamed, -, -, -, hat⟩ := (Spec.applies_iff hf).mp happ
  obtain ⟨hg, hn⟩ := and_e (Cond.before_iff.mp (show (Jvm.Cond.and given_1 narrow_1).before args s = true from hpre))
  obtain ⟨g1, g2⟩ := and_e hg
  obtain ⟨g3, g4⟩ := and_e g2
  obtain ⟨w0, w1, rfl⟩ : ∃ w0 w1 : Value, args = #[w0, w1] := by
    have hs : args.size = 2 := by simpa [Cond.value, given_1] using g1
    obtain ⟨L⟩ := args
    match L, hs with
    | [w0, w1], _ => exact ⟨w0, w1, rfl⟩
  have hw := fun d (hd : d ∈ tables_1) => atoms_spec (ws := Jvm.Cond.code x code maxLocals ret :: tables_1) hat d (List.mem_cons_of_mem _ hd)
  have hfit : Fit s := fun {y c} hc i hi => by
    obtain ⟨ha, rfl⟩ := Array.getElem?_eq_some_iff.mp hc
    have q := List.all_eq_true.mp ((Array.all_eq_true_iff_forall_mem.mp hF) _ (Array.getElem_mem ha)) i (List.mem_range.mpr hi)
    simpa [Array.getElem?_eq_getElem hi] using q
  obtain ⟨hsets, hown0⟩ := atoms_of _ (rest_1_c_eq ▸ (show rest_1_c.before _ s = true from hrest))
  have hr0 := Cond.before_iff.mp hown0
  obtain ⟨i0, ei0⟩ := is_v g3
  obtain rfl : w0 = (.int i0) := Option.some.inj ei0
  obtain ⟨i1, ei1⟩ := is_v g4
  obtain rfl : w1 = (.int i1) := Option.some.inj ei1
  have hcw : Jvm.Lit.compactW.before _ s = true := hsets _ (List.mem_of_getElem? (i := 2) rfl)
  obtain ⟨cs, hcs0⟩ := Cond.isInt_spec (hsets _ (List.mem_of_getElem? (i := 1) rfl))
  have hcs : ¬ cs = (0 : Int32) := fun h => by
    have q := hcw
    simp only [Jvm.Lit.compactW, Cond.before, Cond.holds, Cond.value, hcs0, h] at q
    simp [Term.eval] at q
  have S0 := Sta.start hcs0 (Or.inl (hsets _ (List.mem_of_getElem? (i := 0) rfl)))
  have hEL : EW s _ EL1 := EW.cons (hw _ (List.mem_of_getElem? (i := 4) rfl)) own_lit.1 EW.nil
  have hCH := CHv.start hEL (fun p hp => hcalls.1 p hp) hcw (hw _ (List.mem_of_getElem? (i := 7) rfl)) (hw _ (List.mem_of_getElem? (i := 6) rfl))
  obtain ⟨n, o, h1, h2, h3, v, L, rfl, hQ, -, hq⟩ := rm0 l s _ hw tables_1 i0 i1 cs s.heap s.heap.size (Nat.le_refl _) hEL S0 hcs p e ha hc hk s m _ below hf ((Spec.applies_iff_loose hf).mp happ).1 ⟨rfl, State.Warmed39.refl s, rfl, hCH⟩ trivial
  have hv : v = some (.int (b2i (f0 i0 i1))) := hQ.1
  rw [own_law i0 i1] at hv
  subst hv
  have N : Fr s.heap.size L := by first | exact hQ.2.1 | exact hQ.2
  refine ⟨n, _, h1, h2, h3, hpost _ _ _ _ _ _ ⟨Cond.after_iff.mpr rfl, Cond.after_iff.mpr (eq_i res_at (Term.int_eval (1)) rfl), trivial⟩ ⟨hq.1, hq.2.1, hq.2.2.1, (hq.2.2.2.sift fun y hy => Or.inr (N y hy)).mono (by decide) (by decide)⟩⟩
theorem main_1_1 : Claimed_1_1 := comes_1 fun _ _ _ _ _ _ h hF => ⟨h.1, hF⟩
theorem main_1_2 : Claimed_1_2 := comes_1 fun _ _ _ _ _ _ h hF => ⟨h.2.1, hF⟩
end Jvm.Pilot.@@N@@
namespace Jvm.Pilot.@@N@@
open Jvm Jvm.ClassFile Sem Op Lib Jvm.Free Jvm.Stand Jvm.Pilot.@@N@@.Jvm.D
/-! MADE BY PROGRAM (witnessworld.py) out of the Statement's table words and the real class files: 18 classes; the members and pool entries that the words name. The judged class is class 1, her method 3. -/
namespace start1
open Jvm.ClassFile
def u (s : String) : CpInfo := .utf8 (stringToUtf16 s)
/-- a pool by its gaps: so many unusable entries, then the entry; so many at the end -/
def gap : Nat → List CpInfo → List CpInfo
  | 0, r => r
  | n + 1, r => .unusable :: gap n r
def poolList (es : List (Nat × CpInfo)) (last : Nat) : List CpInfo := es.foldr (fun e r => gap e.1 (e.2 :: r)) (gap last [])
def pool (es : List (Nat × CpInfo)) (last : Nat) : Array CpInfo := ⟨poolList es last⟩
def fileOf (pool : Array CpInfo) (this : Nat) (attrs : Array Attribute := #[]) (ms : Array MethodInfo := #[]) (fl : Nat := 33) (sup : Nat := 0) (ifs : Array Nat := #[]) (fds : Array FieldInfo := #[]) : ClassFile where
  minorVersion := 0
  majorVersion := 65
  constantPool := pool
  accessFlags := fl
  thisClass := this
  superClass := sup
  interfaces := ifs
  fields := fds
  methods := ms
  attributes := attrs
def plain (name : String) (sup : Option ClassId) : Class where
  name := name
  kind := .ordinary
  loader := none
  accessFlags := 33
  super := sup
  interfaces := #[]
  cf := none
  fields := #[]
  methods := #[]
  instanceTypes := #[]
  staticTypes := #[]
  resolved := #[]
  callSites := []
  init := .initialized
  statics := none
  mirror := none

def pool0 : Array CpInfo := pool [(5, u "<init>"), (0, u "()V"), (1, .class_ 10), (1, u "java/lang/Object")] 113

def k0m0 : Method := { name := "<init>", desc := "()V", sig := { parameters := [], returnType := none }, accessFlags := 1, code := none }
/-- java/lang/Object -/
def k0 : Class := { plain "java/lang/Object" none with
  accessFlags := 33
  interfaces := #[]
  cf := some (fileOf pool0 8 #[] #[{ accessFlags := 1, nameIndex := 5, descriptorIndex := 6, attributes := #[] }] 33 0 #[] #[])
  fields := #[]
  methods := #[k0m0]
  instanceTypes := #[]
  staticTypes := #[]
  resolved := Array.replicate 124 none
  statics := none }

def pool1 : Array CpInfo := pool [(2, .class_ 4), (1, u "java/lang/Object"), (0, u "<init>"), (0, u "()V"), (0, .methodref 8 9), (0, .class_ 10), (0, .nameAndType 11 12), (0, u "com/example/paylode/paylode/header/HeaderSyntaxIsTokenCharPinLaw"), (0, u "isDelimiter"), (0, u "(C)Z"), (0, .methodref 14 15), (0, .class_ 16), (0, .nameAndType 17 12), (0, u "com/example/paylode/paylode/header/HeaderSyntax"), (0, u "isTokenChar"), (0, .methodref 8 19), (0, .nameAndType 20 12), (0, u "expected"), (3, u "law"), (0, u "(II)Z")] 2

def k1m0 : Method := { name := "<init>", desc := "()V", sig := { parameters := [], returnType := none }, accessFlags := 2, code := none }
def k1c1 : Code := { maxStack := 2, maxLocals := 1, code := method_2_code, exceptionTable := #[], attributes := #[] }
def k1m1 : Method := { name := "isDelimiter", desc := "(C)Z", sig := { parameters := [.char], returnType := some .boolean }, accessFlags := 10, code := some k1c1 }
def k1c2 : Code := { maxStack := 2, maxLocals := 1, code := method_3_code, exceptionTable := #[], attributes := #[] }
def k1m2 : Method := { name := "expected", desc := "(C)Z", sig := { parameters := [.char], returnType := some .boolean }, accessFlags := 10, code := some k1c2 }
def k1c3 : Code := { maxStack := 2, maxLocals := 4, code := code, exceptionTable := #[], attributes := #[] }
def k1m3 : Method := { name := "law", desc := "(II)Z", sig := { parameters := [.int, .int], returnType := some .boolean }, accessFlags := 9, code := some k1c3 }
/-- com/example/paylode/paylode/header/HeaderSyntaxIsTokenCharPinLaw -/
def k1 : Class := { plain "com/example/paylode/paylode/header/HeaderSyntaxIsTokenCharPinLaw" (some 0) with
  accessFlags := 49
  interfaces := #[]
  cf := some (fileOf pool1 8 #[] #[{ accessFlags := 2, nameIndex := 5, descriptorIndex := 6, attributes := #[] }, { accessFlags := 10, nameIndex := 11, descriptorIndex := 12, attributes := #[] }, { accessFlags := 10, nameIndex := 20, descriptorIndex := 12, attributes := #[] }, { accessFlags := 9, nameIndex := 24, descriptorIndex := 25, attributes := #[] }] 49 2 #[] #[])
  fields := #[]
  methods := #[k1m0, k1m1, k1m2, k1m3]
  instanceTypes := #[]
  staticTypes := #[]
  resolved := Array.replicate 28 none
  statics := none }

def pool2 : Array CpInfo := pool [(2, .class_ 4), (1, u "java/lang/Object"), (0, u "<init>"), (0, u "()V"), (0, .class_ 8), (0, u "com/example/paylode/paylode/header/HeaderSyntax"), (0, .string 10), (0, u "!#$%&'*+-.^_`|~"), (0, .methodref 12 13), (0, .class_ 14), (0, .nameAndType 15 16), (0, u "java/lang/String"), (0, u "indexOf"), (0, u "(I)I"), (14, u "isTokenChar"), (0, u "(C)Z"), (48, u "TOKEN_SYMBOLS"), (0, u "Ljava/lang/String;")] 29

def k2m0 : Method := { name := "<init>", desc := "()V", sig := { parameters := [], returnType := none }, accessFlags := 2, code := none }
def k2c1 : Code := { maxStack := 2, maxLocals := 1, code := prog_5_method_2_code, exceptionTable := #[], attributes := #[] }
def k2m1 : Method := { name := "isTokenChar", desc := "(C)Z", sig := { parameters := [.char], returnType := some .boolean }, accessFlags := 8, code := some k2c1 }
/-- com/example/paylode/paylode/header/HeaderSyntax -/
def k2 : Class := { plain "com/example/paylode/paylode/header/HeaderSyntax" (some 0) with
  accessFlags := 48
  interfaces := #[]
  cf := some (fileOf pool2 7 #[] #[{ accessFlags := 2, nameIndex := 5, descriptorIndex := 6, attributes := #[] }, { accessFlags := 8, nameIndex := 31, descriptorIndex := 32, attributes := #[] }] 48 2 #[] #[{ accessFlags := 26, nameIndex := 81, descriptorIndex := 82, attributes := #[] }])
  fields := #[{ name := "TOKEN_SYMBOLS", type := (.object "java/lang/String"), accessFlags := 26, slot := 0, constantValue := 0 }]
  methods := #[k2m0, k2m1]
  instanceTypes := #[]
  staticTypes := #[(.object "java/lang/String")]
  resolved := Array.replicate 112 none
  statics := none }

def pool3 : Array CpInfo := pool [(1, .class_ 2), (0, u "java/io/Serializable"), (0, .class_ 4), (0, u "java/lang/Object")] 2

/-- java/io/Serializable -/
def k3 : Class := { plain "java/io/Serializable" (some 0) with
  accessFlags := 1537
  interfaces := #[]
  cf := some (fileOf pool3 1 #[] #[] 1537 3 #[] #[])
  fields := #[]
  methods := #[]
  instanceTypes := #[]
  staticTypes := #[]
  resolved := Array.replicate 7 none
  statics := none }

def pool4 : Array CpInfo := pool [(1, .class_ 2), (0, u "java/lang/Comparable"), (0, .class_ 4), (0, u "java/lang/Object")] 7

/-- java/lang/Comparable -/
def k4 : Class := { plain "java/lang/Comparable" (some 0) with
  accessFlags := 1537
  interfaces := #[]
  cf := some (fileOf pool4 1 #[] #[] 1537 3 #[] #[])
  fields := #[]
  methods := #[]
  instanceTypes := #[]
  staticTypes := #[]
  resolved := Array.replicate 12 none
  statics := none }

def pool5 : Array CpInfo := pool [(2, .class_ 4), (1, u "java/lang/CharSequence"), (42, .class_ 48), (0, u "java/lang/CharSequence$1CodePointIterator"), (10, .class_ 60), (0, u "java/lang/CharSequence$1CharIterator"), (5, .class_ 67), (0, u "java/lang/Object")] 63

/-- java/lang/CharSequence -/
def k5 : Class := { plain "java/lang/CharSequence" (some 0) with
  accessFlags := 1537
  interfaces := #[]
  cf := some (fileOf pool5 2 #[.nestMembers #[47, 59]] #[] 1537 66 #[] #[])
  fields := #[]
  methods := #[]
  instanceTypes := #[]
  staticTypes := #[]
  resolved := Array.replicate 131 none
  statics := none }

def pool6 : Array CpInfo := pool [(1, .class_ 2), (0, u "java/lang/constant/Constable"), (0, .class_ 4), (0, u "java/lang/Object")] 6

/-- java/lang/constant/Constable -/
def k6 : Class := { plain "java/lang/constant/Constable" (some 0) with
  accessFlags := 1537
  interfaces := #[]
  cf := some (fileOf pool6 1 #[] #[] 1537 3 #[] #[])
  fields := #[]
  methods := #[]
  instanceTypes := #[]
  staticTypes := #[]
  resolved := Array.replicate 11 none
  statics := none }

def pool7 : Array CpInfo := pool [(1, .class_ 2), (0, u "java/lang/constant/ConstantDesc"), (0, .class_ 4), (0, u "java/lang/Object")] 32

/-- java/lang/constant/ConstantDesc -/
def k7 : Class := { plain "java/lang/constant/ConstantDesc" (some 0) with
  accessFlags := 1537
  interfaces := #[]
  cf := some (fileOf pool7 1 #[] #[] 1537 3 #[] #[])
  fields := #[]
  methods := #[]
  instanceTypes := #[]
  staticTypes := #[]
  resolved := Array.replicate 37 none
  statics := none }

def pool8 : Array CpInfo := pool [(2, .class_ 4), (1, u "java/lang/Object"), (0, u "<init>"), (0, u "()V"), (2, .fieldref 10 11), (0, .class_ 12), (0, .nameAndType 13 14), (0, u "java/lang/String"), (0, u "value"), (0, u "[B"), (0, .fieldref 10 16), (0, .nameAndType 17 18), (0, u "coder"), (0, u "B"), (2, u "hash"), (0, u "I"), (2, u "hashIsZero"), (0, u "Z"), (11, .fieldref 10 39), (0, .nameAndType 40 26), (0, u "COMPACT_STRINGS"), (66, .class_ 109), (1, u "java/lang/StringLatin1"), (32, u "()Z"), (191, u "()I"), (0, .methodref 10 336), (0, .nameAndType 17 337), (0, u "()B"), (154, .methodref 10 493), (0, .nameAndType 494 142), (0, u "isLatin1"), (10, .methodref 10 506), (0, .nameAndType 507 334), (0, u "length"), (67, .class_ 576), (0, u "java/lang/CharSequence"), (22, u "CASE_INSENSITIVE_ORDER"), (0, u "Ljava/util/Comparator;"), (32, .methodref 10 634), (0, .nameAndType 635 636), (0, u "indexOf"), (0, u "(II)I"), (0, .methodref 107 638), (0, .nameAndType 635 639), (0, u "([BIII)I"), (125, u "(I)I"), (335, u "serialPersistentFields"), (0, u "[Ljava/io/ObjectStreamField;"), (0, .class_ 1104), (0, u "java/lang/String$CaseInsensitiveComparator"), (1, .class_ 1107), (0, u "java/io/Serializable"), (0, .class_ 1109), (0, u "java/lang/Comparable"), (0, .class_ 1111), (0, u "java/lang/constant/Constable"), (0, .class_ 1113), (0, u "java/lang/constant/ConstantDesc"), (2, u "serialVersionUID"), (0, u "J"), (3, u "REPL"), (0, u "C"), (2, u "LATIN1"), (1, u "UTF16")] 323

def k8m0 : Method := { name := "<init>", desc := "()V", sig := { parameters := [], returnType := none }, accessFlags := 1, code := none }
def k8c1 : Code := { maxStack := 2, maxLocals := 1, code := jdk_42_method_54_code, exceptionTable := #[], attributes := #[] }
def k8m1 : Method := { name := "length", desc := "()I", sig := { parameters := [], returnType := some .int }, accessFlags := 1, code := some k8c1 }
def k8c2 : Code := { maxStack := 3, maxLocals := 2, code := jdk_42_method_79_code, exceptionTable := #[], attributes := #[] }
def k8m2 : Method := { name := "indexOf", desc := "(I)I", sig := { parameters := [.int], returnType := some .int }, accessFlags := 1, code := some k8c2 }
def k8c3 : Code := { maxStack := 4, maxLocals := 3, code := jdk_42_method_80_code, exceptionTable := #[], attributes := #[] }
def k8m3 : Method := { name := "indexOf", desc := "(II)I", sig := { parameters := [.int, .int], returnType := some .int }, accessFlags := 1, code := some k8c3 }
def k8c4 : Code := { maxStack := 1, maxLocals := 1, code := jdk_42_method_152_code, exceptionTable := #[], attributes := #[] }
def k8m4 : Method := { name := "coder", desc := "()B", sig := { parameters := [], returnType := some .byte }, accessFlags := 0, code := some k8c4 }
def k8c5 : Code := { maxStack := 1, maxLocals := 1, code := jdk_42_method_154_code, exceptionTable := #[], attributes := #[] }
def k8m5 : Method := { name := "isLatin1", desc := "()Z", sig := { parameters := [], returnType := some .boolean }, accessFlags := 0, code := some k8c5 }
/-- java/lang/String -/
def k8 : Class := { plain "java/lang/String" (some 0) with
  accessFlags := 49
  interfaces := #[3, 4, 5, 6, 7]
  cf := some (fileOf pool8 10 #[.nestMembers #[1103]] #[{ accessFlags := 1, nameIndex := 5, descriptorIndex := 6, attributes := #[] }, { accessFlags := 1, nameIndex := 507, descriptorIndex := 334, attributes := #[] }, { accessFlags := 1, nameIndex := 635, descriptorIndex := 765, attributes := #[] }, { accessFlags := 1, nameIndex := 635, descriptorIndex := 636, attributes := #[] }, { accessFlags := 0, nameIndex := 17, descriptorIndex := 337, attributes := #[] }, { accessFlags := 0, nameIndex := 494, descriptorIndex := 142, attributes := #[] }] 49 2 #[1106, 1108, 575, 1110, 1112] #[{ accessFlags := 18, nameIndex := 13, descriptorIndex := 14, attributes := #[] }, { accessFlags := 18, nameIndex := 17, descriptorIndex := 18, attributes := #[] }, { accessFlags := 2, nameIndex := 21, descriptorIndex := 22, attributes := #[] }, { accessFlags := 2, nameIndex := 25, descriptorIndex := 26, attributes := #[] }, { accessFlags := 26, nameIndex := 1116, descriptorIndex := 1117, attributes := #[] }, { accessFlags := 24, nameIndex := 40, descriptorIndex := 26, attributes := #[] }, { accessFlags := 26, nameIndex := 1101, descriptorIndex := 1102, attributes := #[] }, { accessFlags := 26, nameIndex := 1121, descriptorIndex := 1122, attributes := #[] }, { accessFlags := 25, nameIndex := 599, descriptorIndex := 600, attributes := #[] }, { accessFlags := 24, nameIndex := 1125, descriptorIndex := 18, attributes := #[] }, { accessFlags := 24, nameIndex := 1127, descriptorIndex := 18, attributes := #[] }])
  fields := #[{ name := "value", type := (.array .byte), accessFlags := 18, slot := 0, constantValue := 0 }, { name := "coder", type := .byte, accessFlags := 18, slot := 1, constantValue := 0 }, { name := "hash", type := .int, accessFlags := 2, slot := 2, constantValue := 0 }, { name := "hashIsZero", type := .boolean, accessFlags := 2, slot := 3, constantValue := 0 }, { name := "serialVersionUID", type := .long, accessFlags := 26, slot := 0, constantValue := 0 }, { name := "COMPACT_STRINGS", type := .boolean, accessFlags := 24, slot := 1, constantValue := 0 }, { name := "serialPersistentFields", type := (.array (.object "java/io/ObjectStreamField")), accessFlags := 26, slot := 2, constantValue := 0 }, { name := "REPL", type := .char, accessFlags := 26, slot := 3, constantValue := 0 }, { name := "CASE_INSENSITIVE_ORDER", type := (.object "java/util/Comparator"), accessFlags := 25, slot := 4, constantValue := 0 }, { name := "LATIN1", type := .byte, accessFlags := 24, slot := 5, constantValue := 0 }, { name := "UTF16", type := .byte, accessFlags := 24, slot := 6, constantValue := 0 }]
  methods := #[k8m0, k8m1, k8m2, k8m3, k8m4, k8m5]
  instanceTypes := #[(.array .byte), .byte, .int, .boolean]
  staticTypes := #[.long, .boolean, (.array (.object "java/io/ObjectStreamField")), .char, (.object "java/util/Comparator"), .byte, .byte]
  resolved := Array.replicate 1451 none
  statics := some 0 }

def pool9 : Array CpInfo := pool [(4, .class_ 6), (1, u "java/lang/Object"), (0, u "<init>"), (0, u "()V"), (5, .class_ 16), (1, u "java/lang/StringLatin1"), (21, .methodref 39 40), (0, .class_ 41), (0, .nameAndType 42 43), (0, u "java/lang/Math"), (0, u "min"), (0, u "(II)I"), (44, .methodref 14 89), (0, .nameAndType 90 91), (0, u "canEncode"), (0, u "(I)Z"), (0, .methodref 39 93), (0, .nameAndType 94 43), (0, u "max"), (0, .methodref 14 96), (0, .nameAndType 97 98), (0, u "indexOfChar"), (0, u "([BIII)I"), (2, u "indexOf"), (19, u "$assertionsDisabled"), (0, u "Z"), (98, .class_ 223), (1, u "java/lang/StringLatin1$LinesSpliterator"), (166, .class_ 391), (0, u "java/lang/StringLatin1$CharsSpliterator")] 3

def k9m0 : Method := { name := "<init>", desc := "()V", sig := { parameters := [], returnType := none }, accessFlags := 0, code := none }
def k9c1 : Code := { maxStack := 2, maxLocals := 1, code := jdk_43_method_4_code, exceptionTable := #[], attributes := #[] }
def k9m1 : Method := { name := "canEncode", desc := "(I)Z", sig := { parameters := [.int], returnType := some .boolean }, accessFlags := 9, code := some k9c1 }
def k9c2 : Code := { maxStack := 4, maxLocals := 4, code := jdk_43_method_22_code, exceptionTable := #[], attributes := #[] }
def k9m2 : Method := { name := "indexOf", desc := "([BIII)I", sig := { parameters := [(.array .byte), .int, .int, .int], returnType := some .int }, accessFlags := 9, code := some k9c2 }
def k9c3 : Code := { maxStack := 2, maxLocals := 6, code := jdk_43_method_23_code, exceptionTable := #[], attributes := #[] }
def k9m3 : Method := { name := "indexOfChar", desc := "([BIII)I", sig := { parameters := [(.array .byte), .int, .int, .int], returnType := some .int }, accessFlags := 10, code := some k9c3 }
/-- java/lang/StringLatin1 -/
def k9 : Class := { plain "java/lang/StringLatin1" (some 0) with
  accessFlags := 48
  interfaces := #[]
  cf := some (fileOf pool9 14 #[.nestMembers #[390, 221]] #[{ accessFlags := 0, nameIndex := 7, descriptorIndex := 8, attributes := #[] }, { accessFlags := 9, nameIndex := 90, descriptorIndex := 91, attributes := #[] }, { accessFlags := 9, nameIndex := 101, descriptorIndex := 98, attributes := #[] }, { accessFlags := 10, nameIndex := 97, descriptorIndex := 98, attributes := #[] }] 48 4 #[] #[{ accessFlags := 4120, nameIndex := 121, descriptorIndex := 122, attributes := #[] }])
  fields := #[{ name := "$assertionsDisabled", type := .boolean, accessFlags := 4120, slot := 0, constantValue := 0 }]
  methods := #[k9m0, k9m1, k9m2, k9m3]
  instanceTypes := #[]
  staticTypes := #[.boolean]
  resolved := Array.replicate 395 none
  statics := none }

def pool10 : Array CpInfo := pool [(1, .class_ 2), (0, u "java/lang/Math"), (1, .class_ 6), (1, u "java/lang/Object"), (0, u "<init>"), (0, u "()V"), (89, .class_ 100), (1, u "java/lang/Math$RandomNumberGeneratorHolder"), (71, u "negativeZeroFloatBits"), (0, u "J"), (2, u "negativeZeroDoubleBits"), (21, u "max"), (2, u "min"), (43, u "$assertionsDisabled"), (0, u "Z"), (88, u "(II)I"), (2, u "twoToTheDoubleScaleDown"), (0, u "D"), (4, u "twoToTheDoubleScaleUp"), (9, u "E"), (3, u "PI"), (2, u "TAU"), (2, u "DEGREES_TO_RADIANS"), (0, u "RADIANS_TO_DEGREES")] 94

def k10m0 : Method := { name := "<init>", desc := "()V", sig := { parameters := [], returnType := none }, accessFlags := 2, code := none }
def k10c1 : Code := { maxStack := 2, maxLocals := 2, code := jdk_29_method_65_code, exceptionTable := #[], attributes := #[] }
def k10m1 : Method := { name := "max", desc := "(II)I", sig := { parameters := [.int, .int], returnType := some .int }, accessFlags := 9, code := some k10c1 }
def k10c2 : Code := { maxStack := 2, maxLocals := 2, code := jdk_29_method_69_code, exceptionTable := #[], attributes := #[] }
def k10m2 : Method := { name := "min", desc := "(II)I", sig := { parameters := [.int, .int], returnType := some .int }, accessFlags := 9, code := some k10c2 }
/-- java/lang/Math -/
def k10 : Class := { plain "java/lang/Math" (some 0) with
  accessFlags := 49
  interfaces := #[]
  cf := some (fileOf pool10 1 #[.nestMembers #[98]] #[{ accessFlags := 2, nameIndex := 7, descriptorIndex := 8, attributes := #[] }, { accessFlags := 9, nameIndex := 198, descriptorIndex := 335, attributes := #[] }, { accessFlags := 9, nameIndex := 201, descriptorIndex := 335, attributes := #[] }] 49 4 #[] #[{ accessFlags := 25, nameIndex := 354, descriptorIndex := 339, attributes := #[] }, { accessFlags := 25, nameIndex := 358, descriptorIndex := 339, attributes := #[] }, { accessFlags := 25, nameIndex := 361, descriptorIndex := 339, attributes := #[] }, { accessFlags := 26, nameIndex := 364, descriptorIndex := 339, attributes := #[] }, { accessFlags := 26, nameIndex := 365, descriptorIndex := 339, attributes := #[] }, { accessFlags := 26, nameIndex := 172, descriptorIndex := 173, attributes := #[] }, { accessFlags := 26, nameIndex := 176, descriptorIndex := 173, attributes := #[] }, { accessFlags := 8, nameIndex := 344, descriptorIndex := 339, attributes := #[] }, { accessFlags := 8, nameIndex := 338, descriptorIndex := 339, attributes := #[] }, { accessFlags := 4120, nameIndex := 245, descriptorIndex := 246, attributes := #[] }])
  fields := #[{ name := "E", type := .double, accessFlags := 25, slot := 0, constantValue := 0 }, { name := "PI", type := .double, accessFlags := 25, slot := 1, constantValue := 0 }, { name := "TAU", type := .double, accessFlags := 25, slot := 2, constantValue := 0 }, { name := "DEGREES_TO_RADIANS", type := .double, accessFlags := 26, slot := 3, constantValue := 0 }, { name := "RADIANS_TO_DEGREES", type := .double, accessFlags := 26, slot := 4, constantValue := 0 }, { name := "negativeZeroFloatBits", type := .long, accessFlags := 26, slot := 5, constantValue := 0 }, { name := "negativeZeroDoubleBits", type := .long, accessFlags := 26, slot := 6, constantValue := 0 }, { name := "twoToTheDoubleScaleUp", type := .double, accessFlags := 8, slot := 7, constantValue := 0 }, { name := "twoToTheDoubleScaleDown", type := .double, accessFlags := 8, slot := 8, constantValue := 0 }, { name := "$assertionsDisabled", type := .boolean, accessFlags := 4120, slot := 9, constantValue := 0 }]
  methods := #[k10m0, k10m1, k10m2]
  instanceTypes := #[]
  staticTypes := #[.double, .double, .double, .double, .double, .long, .long, .double, .double, .boolean]
  resolved := Array.replicate 460 none
  statics := none }

def pool11 : Array CpInfo := pool [(2, .class_ 4), (1, u "java/lang/Object"), (0, u "<init>"), (0, u "()V"), (17, .class_ 26), (1, u "jdk/internal/util/Preconditions"), (28, .class_ 56), (0, u "jdk/internal/util/Preconditions$4"), (57, .class_ 115), (0, u "jdk/internal/util/Preconditions$1"), (7, u "SIOOBE_FORMATTER"), (0, u "Ljava/util/function/BiFunction;"), (0, .class_ 126), (0, u "jdk/internal/util/Preconditions$2"), (3, u "AIOOBE_FORMATTER"), (0, .class_ 132), (0, u "jdk/internal/util/Preconditions$3"), (3, u "IOOBE_FORMATTER")] 57

def k11m0 : Method := { name := "<init>", desc := "()V", sig := { parameters := [], returnType := none }, accessFlags := 1, code := none }
/-- jdk/internal/util/Preconditions -/
def k11 : Class := { plain "jdk/internal/util/Preconditions" (some 0) with
  accessFlags := 33
  interfaces := #[]
  cf := some (fileOf pool11 24 #[.nestMembers #[55, 131, 125, 114]] #[{ accessFlags := 1, nameIndex := 5, descriptorIndex := 6, attributes := #[] }] 33 2 #[] #[{ accessFlags := 25, nameIndex := 123, descriptorIndex := 124, attributes := #[] }, { accessFlags := 25, nameIndex := 130, descriptorIndex := 124, attributes := #[] }, { accessFlags := 25, nameIndex := 136, descriptorIndex := 124, attributes := #[] }])
  fields := #[{ name := "SIOOBE_FORMATTER", type := (.object "java/util/function/BiFunction"), accessFlags := 25, slot := 0, constantValue := 0 }, { name := "AIOOBE_FORMATTER", type := (.object "java/util/function/BiFunction"), accessFlags := 25, slot := 1, constantValue := 0 }, { name := "IOOBE_FORMATTER", type := (.object "java/util/function/BiFunction"), accessFlags := 25, slot := 2, constantValue := 0 }]
  methods := #[k11m0]
  instanceTypes := #[]
  staticTypes := #[(.object "java/util/function/BiFunction"), (.object "java/util/function/BiFunction"), (.object "java/util/function/BiFunction")]
  resolved := Array.replicate 194 none
  statics := some 1 }

def pool12 : Array CpInfo := pool [(9, u "<init>"), (6, .class_ 18), (1, u "java/lang/Object"), (0, u "()V"), (1, .class_ 23), (1, u "jdk/internal/util/ArraysSupport"), (0, u "LOG2_ARRAY_LONG_INDEX_SCALE"), (0, u "I"), (2, u "U"), (0, u "Ljdk/internal/misc/Unsafe;"), (8, u "BIG_ENDIAN"), (0, u "Z"), (8, u "LOG2_BYTE_BIT_SIZE"), (4, u "LOG2_ARRAY_INT_INDEX_SCALE"), (54, u "JLA"), (0, u "Ljdk/internal/access/JavaLangAccess;"), (11, u "LOG2_ARRAY_BOOLEAN_INDEX_SCALE"), (9, u "LOG2_ARRAY_BYTE_INDEX_SCALE"), (5, u "LOG2_ARRAY_CHAR_INDEX_SCALE"), (5, u "LOG2_ARRAY_SHORT_INDEX_SCALE"), (18, u "LOG2_ARRAY_FLOAT_INDEX_SCALE"), (24, u "LOG2_ARRAY_DOUBLE_INDEX_SCALE"), (89, u "T_BOOLEAN"), (2, u "T_CHAR"), (1, u "T_FLOAT"), (1, u "T_DOUBLE"), (1, u "T_BYTE"), (1, u "T_SHORT"), (1, u "T_INT"), (1, u "T_LONG"), (1, u "SOFT_MAX_ARRAY_LENGTH")] 83

def k12m0 : Method := { name := "<init>", desc := "()V", sig := { parameters := [], returnType := none }, accessFlags := 2, code := none }
/-- jdk/internal/util/ArraysSupport -/
def k12 : Class := { plain "jdk/internal/util/ArraysSupport" (some 0) with
  accessFlags := 33
  interfaces := #[]
  cf := some (fileOf pool12 21 #[] #[{ accessFlags := 2, nameIndex := 9, descriptorIndex := 19, attributes := #[] }] 33 16 #[] #[{ accessFlags := 24, nameIndex := 28, descriptorIndex := 29, attributes := #[] }, { accessFlags := 26, nameIndex := 38, descriptorIndex := 39, attributes := #[] }, { accessFlags := 25, nameIndex := 121, descriptorIndex := 25, attributes := #[] }, { accessFlags := 25, nameIndex := 131, descriptorIndex := 25, attributes := #[] }, { accessFlags := 25, nameIndex := 137, descriptorIndex := 25, attributes := #[] }, { accessFlags := 25, nameIndex := 143, descriptorIndex := 25, attributes := #[] }, { accessFlags := 25, nameIndex := 53, descriptorIndex := 25, attributes := #[] }, { accessFlags := 25, nameIndex := 24, descriptorIndex := 25, attributes := #[] }, { accessFlags := 25, nameIndex := 162, descriptorIndex := 25, attributes := #[] }, { accessFlags := 25, nameIndex := 187, descriptorIndex := 25, attributes := #[] }, { accessFlags := 26, nameIndex := 48, descriptorIndex := 25, attributes := #[] }, { accessFlags := 25, nameIndex := 277, descriptorIndex := 25, attributes := #[] }, { accessFlags := 25, nameIndex := 280, descriptorIndex := 25, attributes := #[] }, { accessFlags := 25, nameIndex := 282, descriptorIndex := 25, attributes := #[] }, { accessFlags := 25, nameIndex := 284, descriptorIndex := 25, attributes := #[] }, { accessFlags := 25, nameIndex := 286, descriptorIndex := 25, attributes := #[] }, { accessFlags := 25, nameIndex := 288, descriptorIndex := 25, attributes := #[] }, { accessFlags := 25, nameIndex := 290, descriptorIndex := 25, attributes := #[] }, { accessFlags := 25, nameIndex := 292, descriptorIndex := 25, attributes := #[] }, { accessFlags := 26, nameIndex := 108, descriptorIndex := 109, attributes := #[] }, { accessFlags := 25, nameIndex := 294, descriptorIndex := 25, attributes := #[] }])
  fields := #[{ name := "U", type := (.object "jdk/internal/misc/Unsafe"), accessFlags := 24, slot := 0, constantValue := 0 }, { name := "BIG_ENDIAN", type := .boolean, accessFlags := 26, slot := 1, constantValue := 0 }, { name := "LOG2_ARRAY_BOOLEAN_INDEX_SCALE", type := .int, accessFlags := 25, slot := 2, constantValue := 0 }, { name := "LOG2_ARRAY_BYTE_INDEX_SCALE", type := .int, accessFlags := 25, slot := 3, constantValue := 0 }, { name := "LOG2_ARRAY_CHAR_INDEX_SCALE", type := .int, accessFlags := 25, slot := 4, constantValue := 0 }, { name := "LOG2_ARRAY_SHORT_INDEX_SCALE", type := .int, accessFlags := 25, slot := 5, constantValue := 0 }, { name := "LOG2_ARRAY_INT_INDEX_SCALE", type := .int, accessFlags := 25, slot := 6, constantValue := 0 }, { name := "LOG2_ARRAY_LONG_INDEX_SCALE", type := .int, accessFlags := 25, slot := 7, constantValue := 0 }, { name := "LOG2_ARRAY_FLOAT_INDEX_SCALE", type := .int, accessFlags := 25, slot := 8, constantValue := 0 }, { name := "LOG2_ARRAY_DOUBLE_INDEX_SCALE", type := .int, accessFlags := 25, slot := 9, constantValue := 0 }, { name := "LOG2_BYTE_BIT_SIZE", type := .int, accessFlags := 26, slot := 10, constantValue := 0 }, { name := "T_BOOLEAN", type := .int, accessFlags := 25, slot := 11, constantValue := 0 }, { name := "T_CHAR", type := .int, accessFlags := 25, slot := 12, constantValue := 0 }, { name := "T_FLOAT", type := .int, accessFlags := 25, slot := 13, constantValue := 0 }, { name := "T_DOUBLE", type := .int, accessFlags := 25, slot := 14, constantValue := 0 }, { name := "T_BYTE", type := .int, accessFlags := 25, slot := 15, constantValue := 0 }, { name := "T_SHORT", type := .int, accessFlags := 25, slot := 16, constantValue := 0 }, { name := "T_INT", type := .int, accessFlags := 25, slot := 17, constantValue := 0 }, { name := "T_LONG", type := .int, accessFlags := 25, slot := 18, constantValue := 0 }, { name := "JLA", type := (.object "jdk/internal/access/JavaLangAccess"), accessFlags := 26, slot := 19, constantValue := 0 }, { name := "SOFT_MAX_ARRAY_LENGTH", type := .int, accessFlags := 25, slot := 20, constantValue := 0 }]
  methods := #[k12m0]
  instanceTypes := #[]
  staticTypes := #[(.object "jdk/internal/misc/Unsafe"), .boolean, .int, .int, .int, .int, .int, .int, .int, .int, .int, .int, .int, .int, .int, .int, .int, .int, .int, (.object "jdk/internal/access/JavaLangAccess"), .int]
  resolved := Array.replicate 378 none
  statics := none }

def pool13 : Array CpInfo := pool [(1, u "java/lang/Cloneable"), (0, .class_ 1), (0, u "java/lang/Object"), (0, .class_ 3)] 3

/-- java/lang/Cloneable -/
def k13 : Class := { plain "java/lang/Cloneable" (some 0) with
  accessFlags := 1537
  interfaces := #[]
  cf := some (fileOf pool13 2 #[] #[] 1537 4 #[] #[])
  fields := #[]
  methods := #[]
  instanceTypes := #[]
  staticTypes := #[]
  resolved := Array.replicate 8 none
  statics := none }

/-- the primitive byte -/
def k14 : Class := { plain "byte" none with kind := .primitive 'B', accessFlags := 0x411 }
/-- [B -/
def k15 : Class := { plain "[B" (some 0) with kind := .array 14 .byte, interfaces := #[13, 3], accessFlags := 1041 }

/-- the primitive int -/
def k16 : Class := { plain "int" none with kind := .primitive 'I', accessFlags := 0x411 }
/-- [I -/
def k17 : Class := { plain "[I" (some 0) with kind := .array 16 .int, interfaces := #[13, 3], accessFlags := 1041 }

def heap : Heap := #[{ cls := 8, slots := #[.long 0, .int 1, .null, .int 0, .null, .int 0, .int 0], vm := .statics 8 },
  { cls := 11, slots := #[.null, .null, .null], vm := .statics 11 }]
def classes : Array Class := #[k0, k1, k2, k3, k4, k5, k6, k7, k8, k9, k10, k11, k12, k13, k14, k15, k16, k17]
def interned : List (Array UInt16 × Addr) := []
def slotsUsed : Nat := 10
def theMethod : MethodId := ⟨1, 3⟩
def args0 : Array Value := #[.int 5, .int 6]
def aboutOver (below : List Frame) : State where
  vm := { classes := classes, interned := interned.toArray }
  heap := heap
  slotsUsed := slotsUsed
  threads := #[{ frames := .invoking theMethod args0 :: below }]
def below0 : List Frame := [.native { method := ⟨0, 0⟩, args := #[] }]
def about1 : State := aboutOver below0
def p0 : Program := .bare "" "" ""
def e0 : Env := launch0.env 0 0 0
theorem w_frames : about1.frames = Frame.invoking theMethod args0 :: below0 := rfl
set_option maxRecDepth 65536 in
theorem w_args : argsFit about1.vm theMethod args0 = true := by decide +kernel
set_option maxRecDepth 65536 in
theorem w_heap : heapFits about1 = true := by decide +kernel
set_option maxRecDepth 65536 in
theorem w_runnable : about1.curStatus? = some .runnable := by decide +kernel
set_option maxRecDepth 65536 in
theorem w_alone : about1.alone = true := by decide +kernel
set_option maxRecDepth 65536 in
theorem w_named : about1.methodNamed? x = some theMethod := by decide +kernel
set_option maxRecDepth 65536 in
theorem w_hears : about1.hears theMethod below0 = true := by decide +kernel
set_option maxRecDepth 65536 in
theorem w_ripe : about1.ripe theMethod args0 below0 = true := by decide +kernel
theorem w_running : about1.status = .running := rfl
set_option maxRecDepth 65536 in
theorem w_room : about1.hasRoom e0.platform room_1 = true :=
  launch0.hasRoom_least _ room_1 (by decide +kernel) (by decide +kernel) (by decide +kernel) (by decide +kernel) (by decide +kernel) (by decide +kernel)
theorem allAtoms_all (ts : List Jvm.Cond) (a : Array Jvm.Value) (st : Jvm.State) : (allAtoms ts).before a st = ts.all (fun c => c.before a st) := by
  induction ts with
  | nil => rfl
  | cons c t ih =>
    show (Jvm.Cond.and c (allAtoms t)).before a st = _
    rw [Jvm.Cond.before_and, ih, List.all_cons]
def words1 : List Jvm.Cond := Jvm.Cond.code x code maxLocals ret :: tables_1
/-- a 'code' word, met by the world's own term for the bytes: nothing is compared byte by byte -/
theorem code_word {y : MethodName} {bytes : ByteArray} {mx : Nat} {rt : Option FieldType} {a : Array Value} {s : State} {m : MethodId} {meth : Method} {c : Code} (h1 : s.methodNamed? y = some m) (h2 : s.vm.method? m = some meth) (h3 : meth.code = some c) (h4 : c.code = bytes)
    (h5 : (c.maxLocals == mx && c.exceptionTable.isEmpty && decide (c.maxStack ≤ mostOperands) && decide (meth.sig.returnType = rt) && !meth.locks && decide (parseMethodDescriptor y.desc = some meth.sig)) = true) : (Jvm.Cond.code y bytes mx rt).before a s = true := by
  simp only [Bool.and_eq_true, beq_iff_eq, Bool.not_eq_true', decide_eq_true_eq] at h5
  obtain ⟨⟨⟨⟨⟨g1, g2⟩, g3⟩, g4⟩, g5⟩, g6⟩ := h5
  simp [Cond.before, Cond.holds, Cond.value, h1, h2, h3, h4, g1, g2, g3, g4, g5, g6]
def isCode : Jvm.Cond → Bool
  | .code _ _ _ _ => true
  | _ => false
theorem all_split {L : List Jvm.Cond} {P : Jvm.Cond → Bool} (h1 : L.all (fun c => isCode c || P c) = true) (h2 : ∀ c ∈ L.filter isCode, P c = true) : L.all P = true := by
  refine List.all_eq_true.mpr fun c hc => ?_
  have h := List.all_eq_true.mp h1 c hc
  rcases Bool.eq_false_or_eq_true (isCode c) with hi | hi
  · exact h2 c (List.mem_filter.mpr ⟨hc, hi⟩)
  · simpa [hi] using h
set_option maxRecDepth 65536 in
theorem w_c0 : (Jvm.Cond.code x code maxLocals ret).before args0 about1 = true := code_word (m := ⟨1, 3⟩) (meth := k1m3) (c := k1c3) (by decide +kernel) rfl rfl rfl (by decide +kernel)
set_option maxRecDepth 65536 in
theorem w_c1 : (Jvm.Cond.code ({ cls := "com/example/paylode/paylode/header/HeaderSyntax", name := "isTokenChar", desc := "(C)Z" } : Jvm.MethodName) prog_5_method_2_code (1 : Nat) (Option.some Jvm.ClassFile.FieldType.boolean)).before args0 about1 = true := code_word (m := ⟨2, 1⟩) (meth := k2m1) (c := k2c1) (by decide +kernel) rfl rfl rfl (by decide +kernel)
set_option maxRecDepth 65536 in
theorem w_c2 : (Jvm.Cond.code ({ cls := "java/lang/String", name := "indexOf", desc := "(I)I" } : Jvm.MethodName) jdk_42_method_79_code (2 : Nat) (Option.some Jvm.ClassFile.FieldType.int)).before args0 about1 = true := code_word (m := ⟨8, 2⟩) (meth := k8m2) (c := k8c2) (by decide +kernel) rfl rfl rfl (by decide +kernel)
set_option maxRecDepth 65536 in
theorem w_c3 : (Jvm.Cond.code ({ cls := "java/lang/String", name := "indexOf", desc := "(II)I" } : Jvm.MethodName) jdk_42_method_80_code (3 : Nat) (Option.some Jvm.ClassFile.FieldType.int)).before args0 about1 = true := code_word (m := ⟨8, 3⟩) (meth := k8m3) (c := k8c3) (by decide +kernel) rfl rfl rfl (by decide +kernel)
set_option maxRecDepth 65536 in
theorem w_c4 : (Jvm.Cond.code ({ cls := "java/lang/String", name := "isLatin1", desc := "()Z" } : Jvm.MethodName) jdk_42_method_154_code (1 : Nat) (Option.some Jvm.ClassFile.FieldType.boolean)).before args0 about1 = true := code_word (m := ⟨8, 5⟩) (meth := k8m5) (c := k8c5) (by decide +kernel) rfl rfl rfl (by decide +kernel)
set_option maxRecDepth 65536 in
theorem w_c5 : (Jvm.Cond.code ({ cls := "java/lang/String", name := "length", desc := "()I" } : Jvm.MethodName) jdk_42_method_54_code (1 : Nat) (Option.some Jvm.ClassFile.FieldType.int)).before args0 about1 = true := code_word (m := ⟨8, 1⟩) (meth := k8m1) (c := k8c1) (by decide +kernel) rfl rfl rfl (by decide +kernel)
set_option maxRecDepth 65536 in
theorem w_c6 : (Jvm.Cond.code ({ cls := "java/lang/String", name := "coder", desc := "()B" } : Jvm.MethodName) jdk_42_method_152_code (1 : Nat) (Option.some Jvm.ClassFile.FieldType.byte)).before args0 about1 = true := code_word (m := ⟨8, 4⟩) (meth := k8m4) (c := k8c4) (by decide +kernel) rfl rfl rfl (by decide +kernel)
set_option maxRecDepth 65536 in
theorem w_c7 : (Jvm.Cond.code ({ cls := "java/lang/StringLatin1", name := "indexOf", desc := "([BIII)I" } : Jvm.MethodName) jdk_43_method_22_code (4 : Nat) (Option.some Jvm.ClassFile.FieldType.int)).before args0 about1 = true := code_word (m := ⟨9, 2⟩) (meth := k9m2) (c := k9c2) (by decide +kernel) rfl rfl rfl (by decide +kernel)
set_option maxRecDepth 65536 in
theorem w_c8 : (Jvm.Cond.code ({ cls := "java/lang/StringLatin1", name := "canEncode", desc := "(I)Z" } : Jvm.MethodName) jdk_43_method_4_code (1 : Nat) (Option.some Jvm.ClassFile.FieldType.boolean)).before args0 about1 = true := code_word (m := ⟨9, 1⟩) (meth := k9m1) (c := k9c1) (by decide +kernel) rfl rfl rfl (by decide +kernel)
set_option maxRecDepth 65536 in
theorem w_c9 : (Jvm.Cond.code ({ cls := "java/lang/Math", name := "max", desc := "(II)I" } : Jvm.MethodName) jdk_29_method_65_code (2 : Nat) (Option.some Jvm.ClassFile.FieldType.int)).before args0 about1 = true := code_word (m := ⟨10, 1⟩) (meth := k10m1) (c := k10c1) (by decide +kernel) rfl rfl rfl (by decide +kernel)
set_option maxRecDepth 65536 in
theorem w_c10 : (Jvm.Cond.code ({ cls := "java/lang/Math", name := "min", desc := "(II)I" } : Jvm.MethodName) jdk_29_method_69_code (2 : Nat) (Option.some Jvm.ClassFile.FieldType.int)).before args0 about1 = true := code_word (m := ⟨10, 2⟩) (meth := k10m2) (c := k10c2) (by decide +kernel) rfl rfl rfl (by decide +kernel)
set_option maxRecDepth 65536 in
theorem w_c11 : (Jvm.Cond.code ({ cls := "java/lang/StringLatin1", name := "indexOfChar", desc := "([BIII)I" } : Jvm.MethodName) jdk_43_method_23_code (6 : Nat) (Option.some Jvm.ClassFile.FieldType.int)).before args0 about1 = true := code_word (m := ⟨9, 3⟩) (meth := k9m3) (c := k9c3) (by decide +kernel) rfl rfl rfl (by decide +kernel)
set_option maxRecDepth 65536 in
theorem w_c12 : (Jvm.Cond.code ({ cls := "com/example/paylode/paylode/header/HeaderSyntaxIsTokenCharPinLaw", name := "expected", desc := "(C)Z" } : Jvm.MethodName) method_3_code (1 : Nat) (Option.some Jvm.ClassFile.FieldType.boolean)).before args0 about1 = true := code_word (m := ⟨1, 2⟩) (meth := k1m2) (c := k1c2) (by decide +kernel) rfl rfl rfl (by decide +kernel)
set_option maxRecDepth 65536 in
theorem w_c13 : (Jvm.Cond.code ({ cls := "com/example/paylode/paylode/header/HeaderSyntaxIsTokenCharPinLaw", name := "isDelimiter", desc := "(C)Z" } : Jvm.MethodName) method_2_code (1 : Nat) (Option.some Jvm.ClassFile.FieldType.boolean)).before args0 about1 = true := code_word (m := ⟨1, 1⟩) (meth := k1m1) (c := k1c1) (by decide +kernel) rfl rfl rfl (by decide +kernel)
def codes1 : List Jvm.Cond := [Jvm.Cond.code x code maxLocals ret, Jvm.Cond.code ({ cls := "com/example/paylode/paylode/header/HeaderSyntax", name := "isTokenChar", desc := "(C)Z" } : Jvm.MethodName) prog_5_method_2_code (1 : Nat) (Option.some Jvm.ClassFile.FieldType.boolean), Jvm.Cond.code ({ cls := "java/lang/String", name := "indexOf", desc := "(I)I" } : Jvm.MethodName) jdk_42_method_79_code (2 : Nat) (Option.some Jvm.ClassFile.FieldType.int), Jvm.Cond.code ({ cls := "java/lang/String", name := "indexOf", desc := "(II)I" } : Jvm.MethodName) jdk_42_method_80_code (3 : Nat) (Option.some Jvm.ClassFile.FieldType.int), Jvm.Cond.code ({ cls := "java/lang/String", name := "isLatin1", desc := "()Z" } : Jvm.MethodName) jdk_42_method_154_code (1 : Nat) (Option.some Jvm.ClassFile.FieldType.boolean), Jvm.Cond.code ({ cls := "java/lang/String", name := "length", desc := "()I" } : Jvm.MethodName) jdk_42_method_54_code (1 : Nat) (Option.some Jvm.ClassFile.FieldType.int), Jvm.Cond.code ({ cls := "java/lang/String", name := "coder", desc := "()B" } : Jvm.MethodName) jdk_42_method_152_code (1 : Nat) (Option.some Jvm.ClassFile.FieldType.byte), Jvm.Cond.code ({ cls := "java/lang/StringLatin1", name := "indexOf", desc := "([BIII)I" } : Jvm.MethodName) jdk_43_method_22_code (4 : Nat) (Option.some Jvm.ClassFile.FieldType.int), Jvm.Cond.code ({ cls := "java/lang/StringLatin1", name := "canEncode", desc := "(I)Z" } : Jvm.MethodName) jdk_43_method_4_code (1 : Nat) (Option.some Jvm.ClassFile.FieldType.boolean), Jvm.Cond.code ({ cls := "java/lang/Math", name := "max", desc := "(II)I" } : Jvm.MethodName) jdk_29_method_65_code (2 : Nat) (Option.some Jvm.ClassFile.FieldType.int), Jvm.Cond.code ({ cls := "java/lang/Math", name := "min", desc := "(II)I" } : Jvm.MethodName) jdk_29_method_69_code (2 : Nat) (Option.some Jvm.ClassFile.FieldType.int), Jvm.Cond.code ({ cls := "java/lang/StringLatin1", name := "indexOfChar", desc := "([BIII)I" } : Jvm.MethodName) jdk_43_method_23_code (6 : Nat) (Option.some Jvm.ClassFile.FieldType.int), Jvm.Cond.code ({ cls := "com/example/paylode/paylode/header/HeaderSyntaxIsTokenCharPinLaw", name := "expected", desc := "(C)Z" } : Jvm.MethodName) method_3_code (1 : Nat) (Option.some Jvm.ClassFile.FieldType.boolean), Jvm.Cond.code ({ cls := "com/example/paylode/paylode/header/HeaderSyntaxIsTokenCharPinLaw", name := "isDelimiter", desc := "(C)Z" } : Jvm.MethodName) method_2_code (1 : Nat) (Option.some Jvm.ClassFile.FieldType.boolean)]
set_option maxRecDepth 65536 in
theorem codes_eq : words1.filter isCode = codes1 := rfl
theorem w_codes : ∀ c ∈ words1.filter isCode, c.before args0 about1 = true := by
  rw [codes_eq]
  intro c hc
  simp only [codes1, List.mem_cons, List.not_mem_nil, or_false] at hc
  rcases hc with rfl | rfl | rfl | rfl | rfl | rfl | rfl | rfl | rfl | rfl | rfl | rfl | rfl | rfl
  · exact w_c0
  · exact w_c1
  · exact w_c2
  · exact w_c3
  · exact w_c4
  · exact w_c5
  · exact w_c6
  · exact w_c7
  · exact w_c8
  · exact w_c9
  · exact w_c10
  · exact w_c11
  · exact w_c12
  · exact w_c13
set_option maxRecDepth 65536 in
theorem w_t1 : (words1.take 24).all (fun c => isCode c || c.before args0 about1) = true := by decide +kernel
set_option maxRecDepth 65536 in
theorem w_t2 : ((words1.drop 24).take 24).all (fun c => isCode c || c.before args0 about1) = true := by decide +kernel
set_option maxRecDepth 65536 in
theorem w_t3 : ((words1.drop 24).drop 24).all (fun c => isCode c || c.before args0 about1) = true := by decide +kernel
theorem w_tables : (allAtoms (Jvm.Cond.code x code maxLocals ret :: tables_1)).before args0 about1 = true := by
  rw [allAtoms_all]
  show words1.all (fun c => c.before args0 about1) = true
  refine all_split ?_ w_codes
  rw [← List.take_append_drop 24 words1, List.all_append, w_t1, ← List.take_append_drop 24 (words1.drop 24), List.all_append, w_t2, w_t3]
  rfl
set_option maxRecDepth 65536 in
theorem w_rest : rest_1_c.before args0 about1 = true := by decide +kernel
set_option maxRecDepth 65536 in
theorem w_case : (Jvm.Cond.and given_1 narrow_1).before args0 about1 = true := by decide +kernel
set_option maxRecDepth 65536 in
theorem w_consts : constsHeld consts_1 about1 := Jvm.Lit.constsHeldB_iff.mp (by decide +kernel)
theorem w_applies : (headSpec (Jvm.Cond.code x code maxLocals ret :: tables_1) room_1).applies x e0.platform about1 = true :=
  (Spec.applies_iff w_frames).mpr ⟨w_running, w_runnable, w_alone, w_named, w_hears, w_ripe, w_room, w_tables⟩
theorem atStart : AtStart classFile x code maxLocals ret World_1 tables_1 room_1 Calls_1 rest_1 Pre_1 launch0 p0 e0 about1 theMethod args0 below0 :=
  ⟨lists_1, trivial, launch0.admits_env _ _ _, launch0.least_env, fairChoices_fair.cas, fairChoices_fair.clock, w_frames, w_args, w_heap, w_applies, ⟨w_consts, trivial⟩, w_rest, w_case⟩
end start1
theorem witness_1 : WitnessClaimed_1 := ⟨start1.p0, start1.e0, start1.about1, start1.theMethod, start1.args0, start1.below0, start1.atStart⟩
end Jvm.Pilot.@@N@@
