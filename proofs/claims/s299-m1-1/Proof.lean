import JvmDerived
import JvmDerived.Pilot.@@N@@Statement
import JvmDerived.Pilot.@@N@@Code
set_option linter.unusedVariables false
set_option linter.unusedSimpArgs false
namespace Jvm.RoadKit
open Sem ClassFile Op Lib Jvm.Stand Jvm.Free Jvm.LawKit
section OwnKit
variable {p : Program} {l : Launch} {e : Env} {R : Room} {s : State} {m : MethodId} {args : Array Value} {below : List Frame} {meth : Method} {c : Code} {T : State} {locs : List Loc} {cells slots : Nat}
/-- a boolean as the machine's int -/
def b2i (b : Bool) : Int32 := bif b then 1 else 0
theorem b2i_t {b : Bool} (h : b = true) : ¬ b2i b = 0 := by subst h; decide
theorem b2i_f {b : Bool} (h : ¬ b = true) : b2i b = 0 := by cases b <;> first | rfl | exact absurd rfl h
theorem b2i_inj {a b : Bool} (h : b2i a = b2i b) : a = b := by cases a <;> cases b <;> first | rfl | exact absurd h (by decide)
theorem nar_b2i (b : Bool) : nar .boolean (b2i b) = b2i b := by cases b <;> decide
/-- from the state U the walk comes to an end that P holds of -/
def Go (tb : Tables) (e : Env) (below : List Frame) (P : Outcome → State → Prop) (U : State) : Prop := ∃ s₂ o, Steps tb e below U s₂ ∧ s₂.status = .running ∧ Ended s₂ below o ∧ P o s₂
theorem Go.back {tb : Tables} {P : Outcome → State → Prop} {U V : State} (h : ∀ t, Steps tb e below V t → Steps tb e below U t) (k : Go tb e below P V) : Go tb e below P U := by
  obtain ⟨s2, o, h1, h2⟩ := k
  exact ⟨s2, o, h _ h1, h2⟩
theorem Go.trans {tb : Tables} {P : Outcome → State → Prop} {U V : State} (h : Steps tb e below U V) (k : Go tb e below P V) : Go tb e below P U := by
  obtain ⟨s2, o, h1, h2⟩ := k
  exact ⟨s2, o, Steps.trans h h1, h2⟩
abbrev Fin (s : State) (Q : Option Value → Heap → List Loc → Prop) (K S : Nat) : Outcome → State → Prop := fun o U' => ∃ v L, o = .returned v ∧ Q v U'.heap L ∧ FrameEnd s o U' L K S
theorem retI0 (X : Stand p l e R s m args below meth c T locs cells slots) (hx : p.tables.exec = Jvm.exec) {pc : Nat} {Ls : Array Slot} {z : Int32} {rest : List Value} (hret : meth.sig.returnType = some .int) (hd : decode c.code pc = .ok (.ireturn, 1)) {fs : List Frame}
    (hl : ∀ (f : JFrame) (acts : List Action), f.method = m → f.locked = none → f.entered = [] → (doReturn e (T.setTop f) acts (some (.int z))).1 = T.setFrames fs) : Steps p.tables e below (T.setTop (mkF m pc Ls (.int z :: rest))) (T.setFrames fs) := by
  have hm' : T.vm.method? m = some meth := X.method'
  have hn : narrow .int (.int z) = .int z := rfl
  show Steps p.tables e below (T.setTop { method := m, pc := pc, locals := Ls, stack := _ :: rest, locked := none }) _
  jvm_step X.here [X.here.top, hx, hd, hm', hret, hn]
  first | (intro acts; rw [hl _ acts rfl rfl rfl]) | rw [hl _ _ rfl rfl rfl]
  exact Steps.refl _
theorem Go.retI (X : Stand p l e R s m args below meth c T locs cells slots) (hx : p.tables.exec = Jvm.exec) {pc : Nat} {Ls : Array Slot} {z : Int32} {rest : List Value} (hret : meth.sig.returnType = some .int) (hd : decode c.code pc = .ok (.ireturn, 1)) (hlk : meth.locks = false) {Q : Option Value → Heap → List Loc → Prop} {K S : Nat} (hQ : Q (some (.int z)) T.heap locs) (hc : cells ≤ K) (hs : slots ≤ S) :
    Go p.tables e below (Fin s Q K S) (T.setTop (mkF m pc Ls (.int z :: rest))) := by
  obtain ⟨fs, hr, hrun, hended, hW, hsame⟩ := X.leave (v := some (.int z)) (fun h => by rw [hret] at h; cases h) hlk
  exact ⟨_, _, retI0 X hx hret hd hr, hrun, hended, _, _, rfl, hQ, ⟨_, rfl⟩, hW, hsame.mono hc hs⟩
theorem Go.retN (X : Stand p l e R s m args below meth c T locs cells slots) (hx : p.tables.exec = Jvm.exec) {pc : Nat} {Ls : Array Slot} {z : Int32} {rest : List Value} {t : FieldType} (hret : meth.sig.returnType = some t) (ht : t = .boolean ∨ t = .byte ∨ t = .char ∨ t = .short) (hd : decode c.code pc = .ok (.ireturn, 1)) (hlk : meth.locks = false) {Q : Option Value → Heap → List Loc → Prop} {K S : Nat} (hQ : Q (some (.int (nar t z))) T.heap locs) (hc : cells ≤ K) (hs : slots ≤ S) :
    Go p.tables e below (Fin s Q K S) (T.setTop (mkF m pc Ls (.int z :: rest))) := by
  obtain ⟨fs, hr, hrun, hended, hW, hsame⟩ := X.leave (v := some (.int (nar t z))) (fun h => by rw [hret] at h; cases h) hlk
  exact ⟨_, _, Jvm.RoadKit.retN X hx hret ht hd hr, hrun, hended, _, _, rfl, hQ, ⟨_, rfl⟩, hW, hsame.mono hc hs⟩
theorem Go.retB (X : Stand p l e R s m args below meth c T locs cells slots) (hx : p.tables.exec = Jvm.exec) {pc : Nat} {Ls : Array Slot} {b : Bool} {rest : List Value} (hret : meth.sig.returnType = some .boolean) (hd : decode c.code pc = .ok (.ireturn, 1)) (hlk : meth.locks = false) {Q : Option Value → Heap → List Loc → Prop} {K S : Nat} (hQ : Q (some (.int (b2i b))) T.heap locs) (hc : cells ≤ K) (hs : slots ≤ S) :
    Go p.tables e below (Fin s Q K S) (T.setTop (mkF m pc Ls (.int (b2i b) :: rest))) := Go.retN X hx hret (Or.inl rfl) hd hlk (by rw [nar_b2i]; exact hQ) hc hs
theorem Go.retJ (X : Stand p l e R s m args below meth c T locs cells slots) (hx : p.tables.exec = Jvm.exec) {pc : Nat} {Ls : Array Slot} {z : Int64} (hret : meth.sig.returnType = some .long) (hd : decode c.code pc = .ok (.lreturn, 1)) (hlk : meth.locks = false) {Q : Option Value → Heap → List Loc → Prop} {K S : Nat} (hQ : Q (some (.long z)) T.heap locs) (hc : cells ≤ K) (hs : slots ≤ S) :
    Go p.tables e below (Fin s Q K S) (T.setTop (mkF m pc Ls [.long z])) := by
  obtain ⟨fs, hr, hrun, hended, hW, hsame⟩ := X.leave (v := some (.long z)) (fun h => by rw [hret] at h; cases h) hlk
  exact ⟨_, _, X.lreturnOut hx hret hd hr, hrun, hended, _, _, rfl, hQ, ⟨_, rfl⟩, hW, hsame.mono hc hs⟩
theorem Go.retR (X : Stand p l e R s m args below meth c T locs cells slots) (hx : p.tables.exec = Jvm.exec) {pc : Nat} {Ls : Array Slot} {a : Addr} {t : FieldType} (hret : meth.sig.returnType = some t) (ht : t.isReference = true) (hd : decode c.code pc = .ok (.areturn, 1)) (hlk : meth.locks = false) {Q : Option Value → Heap → List Loc → Prop} {K S : Nat} (hQ : Q (some (.ref a)) T.heap locs) (hc : cells ≤ K) (hs : slots ≤ S) :
    Go p.tables e below (Fin s Q K S) (T.setTop (mkF m pc Ls [.ref a])) := by
  obtain ⟨fs, hr, hrun, hended, hW, hsame⟩ := X.leave (v := some (.ref a)) (fun h => by rw [hret] at h; cases h) hlk
  exact ⟨_, _, X.areturnOut hx rfl hret ht hd hr, hrun, hended, _, _, rfl, hQ, ⟨_, rfl⟩, hW, hsame.mono hc hs⟩
theorem Go.retV (X : Stand p l e R s m args below meth c T locs cells slots) (hx : p.tables.exec = Jvm.exec) {pc : Nat} {Ls : Array Slot} (hret : meth.sig.returnType = none) (hd : decode c.code pc = .ok (.return_, 1)) (hlk : meth.locks = false) {Q : Option Value → Heap → List Loc → Prop} {K S : Nat} (hQ : Q none T.heap locs) (hc : cells ≤ K) (hs : slots ≤ S) :
    Go p.tables e below (Fin s Q K S) (T.setTop (mkF m pc Ls [])) := by
  obtain ⟨fs, hr, hrun, hended, hW, hsame⟩ := X.leave (v := none) (fun _ => rfl) hlk
  exact ⟨_, _, X.returnOut hx hret hd hr, hrun, hended, _, _, rfl, hQ, ⟨_, rfl⟩, hW, hsame.mono hc hs⟩
theorem lremM {g : JFrame} {target : State} (X : Stand p l e R s m args below meth c T locs cells slots) (hx : p.tables.exec = Jvm.exec) (hg : g.method = m) {x y : Int64} {rest : List Value} (hd : decode c.code g.pc = .ok (.lrem, 1)) (hs : g.stack = .long y :: .long x :: rest) (hy : y ≠ 0)
    (hr : Steps p.tables e below (T.setTop { g with pc := g.pc + 1, stack := .long (x % y) :: rest }) target) : Steps p.tables e below (T.setTop g) target :=
  XS.lrem X.here hx hg hd hs hy (by rw [lrem_mod x y]; exact hr)
theorem storeS_i {ls l' : Array Slot} {k : Nat} {o : Slot} {x : Int32} (hold : ls[k]? = some o) (h : One o) (q : ls.setIfInBounds k (.val (.int x)) = l') : storeLocals ls k (.int x) = some l' := by
  rw [XS.store1 hold h rfl, q]
theorem storeS_a {ls l' : Array Slot} {k : Nat} {o : Slot} {a : Addr} (hold : ls[k]? = some o) (h : One o) (q : ls.setIfInBounds k (.val (.ref a)) = l') : storeLocals ls k (.ref a) = some l' := by
  rw [XS.store1 hold h rfl, q]
end OwnKit
section OwnArr
variable {p : Program} {l : Launch} {e : Env} {R : Room} {s : State} {m : MethodId} {args : Array Value} {below : List Frame} {meth : Method} {c : Code} {T : State} {locs : List Loc} {cells slots : Nat} {Z : State} {h h' : Heap} {a b : Addr} {ty : FieldType} {vs : List Value} {v : Value} {sl : Nat} {ws : List Addr}
/-- the array at a, of the kind ty, holds just this list -/
def ArL (Z : State) (h : Heap) (a : Addr) (ty : FieldType) (vs : List Value) : Prop := ∃ c : Cell, Arr Z h a c ty ∧ c.slots.toList = vs
theorem ArL.lt (F : ArL Z h a ty vs) : a < h.size := by obtain ⟨c, A, -⟩ := F; exact A.lt
theorem ArL.ext (F : ArL Z h a ty vs) (E : Ext h h') : ArL Z h' a ty vs := by obtain ⟨c, A, r⟩ := F; exact ⟨c, A.ext E, r⟩
theorem ArL.other (F : ArL Z h b ty vs) (W : Wr h h' a sl v) (q : b ≠ a) : ArL Z h' b ty vs := by obtain ⟨c, A, r⟩ := F; exact ⟨c, A.other W q, r⟩
theorem ArL.keep (F : ArL Z h a ty vs) (K : Keep h h' ws) (q : a ∉ ws) : ArL Z h' a ty vs := by obtain ⟨c, A, r⟩ := F; exact ⟨c, ⟨K.2.1 a c A.1 q, A.2⟩, r⟩
theorem ArL.new {k : ClassId} {z : Int32} (A : Arr Z h a (newA k ty z) ty) {n : Nat} (q : z.toNatClampNeg = n) : ArL Z h a ty (List.replicate n (defaultValue ty)) := ⟨_, A, by subst q; simp [newA]⟩
theorem ArL.set (F : ArL Z h a ty vs) (W : Wr h h' a sl v) : ArL Z h' a ty (vs.set sl v) := by
  obtain ⟨c, A, r⟩ := F
  exact ⟨_, A.same W, by subst r; simp [Cell.setSlot]⟩
/-- a place of it: what a load and a store ask -/
theorem ArL.at (F : ArL Z h a ty vs) {j : Int32} (h0 : ¬ j < 0) (hj : j.toNatClampNeg < vs.length) : ∃ c : Cell, Arr Z h a c ty ∧ ¬ (j < 0 ∨ c.slots.size ≤ j.toNatClampNeg) ∧ c.slots[j.toNatClampNeg]? = some (vs[j.toNatClampNeg]'hj) := by
  obtain ⟨c, A, rfl⟩ := F
  have q : j.toNatClampNeg < c.slots.size := by simpa using hj
  refine ⟨c, A, fun z => z.elim h0 (fun y => absurd q (Nat.not_lt.mpr y)), ?_⟩
  rw [Array.getElem?_eq_getElem q]
  simp
theorem ArL.get (F : ArL Z h a ty vs) {j : Int32} (h0 : ¬ j < 0) (hv : vs[j.toNatClampNeg]? = some v) : ∃ c : Cell, Arr Z h a c ty ∧ ¬ (j < 0 ∨ c.slots.size ≤ j.toNatClampNeg) ∧ c.slots[j.toNatClampNeg]? = some v := by
  obtain ⟨hj, rfl⟩ := List.getElem?_eq_some_iff.mp hv
  exact F.at h0 hj
theorem ArL.setI {xs : List Int32} {x : Int32} {i : Nat} (F : ArL Z h a ty (List.map Value.int xs)) (W : Wr h h' a i (.int x)) : ArL Z h' a ty (List.map Value.int (xs.set i x)) := by
  rw [List.map_set]; exact F.set W
theorem ArL.setJ {xs : List Int64} {x : Int64} {i : Nat} (F : ArL Z h a ty (List.map Value.long xs)) (W : Wr h h' a i (.long x)) : ArL Z h' a ty (List.map Value.long (xs.set i x)) := by
  rw [List.map_set]; exact F.set W
theorem ArL.newI {k : ClassId} {z : Int32} (A : Arr Z h a (newA k ty z) ty) {n : Nat} (q : z.toNatClampNeg = n) (hd : defaultValue ty = .int 0 := by rfl) : ArL Z h a ty (List.map Value.int (List.replicate n (0 : Int32))) := by
  rw [List.map_replicate, ← hd]; exact ArL.new A q
theorem ArL.newJ {k : ClassId} {z : Int32} (A : Arr Z h a (newA k ty z) ty) {n : Nat} (q : z.toNatClampNeg = n) (hd : defaultValue ty = .long 0 := by rfl) : ArL Z h a ty (List.map Value.long (List.replicate n (0 : Int64))) := by
  rw [List.map_replicate, ← hd]; exact ArL.new A q
theorem getI (xs : List Int32) {i : Nat} (q : i < xs.length) : (List.map Value.int xs)[i]? = some (.int (xs.getD i 0)) := by
  rw [List.getElem?_map, List.getD_eq_getElem?_getD, List.getElem?_eq_getElem q]; rfl
theorem getJ (xs : List Int64) {i : Nat} (q : i < xs.length) : (List.map Value.long xs)[i]? = some (.long (xs.getD i 0)) := by
  rw [List.getElem?_map, List.getD_eq_getElem?_getD, List.getElem?_eq_getElem q]; rfl
theorem ArL.len (F : ArL Z h a ty vs) : ∃ c : Cell, Arr Z h a c ty ∧ c.slots.size = vs.length := by
  obtain ⟨c, A, rfl⟩ := F
  exact ⟨c, A, by simp⟩
end OwnArr
end Jvm.RoadKit
namespace Jvm.Pilot.@@N@@
open Jvm Jvm.ClassFile Sem Op Lib Jvm.Free Jvm.Stand Jvm.LawKit Jvm.RoadKit Bundle Jvm.Pilot.@@N@@.Jvm.D
theorem pd_0 : parseMethodDescriptor "([B)V" = some ⟨[(.array .byte)], none⟩ := by decide +kernel
theorem pd_1 : parseMethodDescriptor "([BII)V" = some ⟨[(.array .byte), .int, .int], none⟩ := by decide +kernel
theorem pd_2 : parseMethodDescriptor "()I" = some ⟨[], some .int⟩ := by decide +kernel
theorem pd_3 : parseMethodDescriptor "(IIII)I" = some ⟨[.int, .int, .int, .int], some .int⟩ := by decide +kernel
def own_h (xs : List Int32) : Nat → Int32 → Int32 → Int32
  | 0, _, acc => acc
  | n + 1, i, acc => own_h xs n (i + (1 : Int32)) (((31 : Int32) * acc) + (List.getD xs (i).toNatClampNeg (0 : Int32)))
def own_hb (xs : List Int32) (n : Nat) (i to : Int32) : Prop := 0 ≤ i.toInt ∧ i.toInt + n = to.toInt ∧ to.toInt ≤ xs.length
theorem own_l0 : (0 : Int32).toInt = 0 := rfl
theorem own_l1 : (1 : Int32).toInt = 1 := rfl
theorem own_nn {xs : List Int32} {n : Nat} {i to : Int32} (hb : own_hb xs (n + 1) i to) : ¬ i < (0 : Int32) := by
  rw [Int32.lt_iff_toInt_lt, own_l0]; have := hb.1; omega
theorem own_ix {xs : List Int32} {n : Nat} {i to : Int32} (hb : own_hb xs (n + 1) i to) : i.toNatClampNeg < xs.length := by
  have := hb.1; have := hb.2.1; have := hb.2.2; simp only [Int32.toNatClampNeg]; omega
theorem own_z {xs : List Int32} {i to : Int32} (hb : own_hb xs 0 i to) : ¬ i < to := by
  rw [Int32.lt_iff_toInt_lt]; have := hb.2.1; omega
theorem own_s {xs : List Int32} {n : Nat} {i to : Int32} (hb : own_hb xs (n + 1) i to) : i < to := by
  rw [Int32.lt_iff_toInt_lt]; have := hb.2.1; omega
theorem own_hs {xs : List Int32} {n : Nat} {i to : Int32} (hb : own_hb xs (n + 1) i to) : own_hb xs n (i + (1 : Int32)) to := by
  have e := c_iadd i 1; have r := rng32 (i + 1); have r2 := rng32 to; rw [own_l1] at e
  have := hb.1; have h := hb.2.1; have := hb.2.2
  exact ⟨by omega, by omega, by omega⟩
theorem own_off (p : Int32) : 0 ≤ ((((p).toUInt32 >>> ((2 : Int32) &&& 31).toUInt32).toInt32) &&& (3 : Int32)).toInt ∧ ((((p).toUInt32 >>> ((2 : Int32) &&& 31).toUInt32).toInt32) &&& (3 : Int32)).toInt ≤ 3 := c_and _ 3 (by decide)
theorem own_n3 (p : Int32) : 0 ≤ (p &&& (3 : Int32)).toInt ∧ (p &&& (3 : Int32)).toInt ≤ 3 := c_and _ 3 (by decide)
theorem own_add {a k : Int32} (h : 0 ≤ a.toInt ∧ a.toInt ≤ 3) (hk : 0 ≤ k.toInt ∧ k.toInt ≤ 3) : (a + k).toInt = a.toInt + k.toInt := by
  have e := c_iadd a k; have r := rng32 (a + k); omega
theorem own_o0 {a : Int32} (h : 0 ≤ a.toInt ∧ a.toInt ≤ 3) : ¬ a < (0 : Int32) ∧ True := by rw [Int32.lt_iff_toInt_lt, own_l0]; exact ⟨by omega, trivial⟩
theorem own_o1 {a : Int32} (h : 0 ≤ a.toInt ∧ a.toInt ≤ 3) : ¬ (a + (1 : Int32)) < (0 : Int32) ∧ True := by rw [Int32.lt_iff_toInt_lt, own_l0, own_add h (by decide)]; exact ⟨by rw [own_l1]; omega, trivial⟩
theorem own_o2 {a : Int32} (h : 0 ≤ a.toInt ∧ a.toInt ≤ 3) : ¬ (a + (2 : Int32)) < (0 : Int32) ∧ True := by rw [Int32.lt_iff_toInt_lt, own_l0, own_add h (by decide)]; exact ⟨by rw [show (2 : Int32).toInt = 2 from rfl]; omega, trivial⟩
theorem own_b0 {a : Int32} {n : Nat} (h : 0 ≤ a.toInt ∧ a.toInt ≤ 3) (q : n = 7) : a.toNatClampNeg < n := by simp only [Int32.toNatClampNeg]; omega
theorem own_b1 {a : Int32} {n : Nat} (h : 0 ≤ a.toInt ∧ a.toInt ≤ 3) (q : n = 7) : (a + (1 : Int32)).toNatClampNeg < n := by simp only [Int32.toNatClampNeg]; rw [own_add h (by decide), own_l1]; omega
theorem own_b2 {a : Int32} {n : Nat} (h : 0 ≤ a.toInt ∧ a.toInt ≤ 3) (q : n = 7) : (a + (2 : Int32)).toNatClampNeg < n := by simp only [Int32.toNatClampNeg]; rw [own_add h (by decide), show (2 : Int32).toInt = 2 from rfl]; omega
theorem own_len7 (n : Nat) (q : n = 7) : n = 7 := q
theorem own_l7 {xs : List Int32} (q : xs.length = 7) : (List.length xs).toInt32 = (7 : Int32) := by rw [q]; rfl
theorem own_w3 (a b c : Int32) : own_hb [a, b, c] 3 (0 : Int32) (3 : Int32) := ⟨by decide, by decide, by show (3 : Int) ≤ 3; decide⟩
theorem own_wn {xs : List Int32} {n a : Int32} (hn : 0 ≤ n.toInt ∧ n.toInt ≤ 3) (ha : 0 ≤ a.toInt ∧ a.toInt ≤ 3) (q : xs.length = 7) : own_hb xs n.toNatClampNeg a (a + n) := by
  have e := own_add ha hn
  refine ⟨ha.1, ?_, ?_⟩
  · rw [e]; simp only [Int32.toNatClampNeg]; omega
  · rw [e, q]; omega
theorem d1_0 : decode prog_6_method_2_code 0 = .ok (.aload_n 0, 1) := by decide +kernel
theorem d1_1 : decode prog_6_method_2_code 1 = .ok (.invokespecial 7, 3) := by decide +kernel
theorem d1_4 : decode prog_6_method_2_code 4 = .ok (.aload_n 0, 1) := by decide +kernel
theorem d1_5 : decode prog_6_method_2_code 5 = .ok (.aload_n 1, 1) := by decide +kernel
theorem d1_6 : decode prog_6_method_2_code 6 = .ok (.putfield 12, 3) := by decide +kernel
theorem d1_9 : decode prog_6_method_2_code 9 = .ok (.aload_n 0, 1) := by decide +kernel
theorem d1_10 : decode prog_6_method_2_code 10 = .ok (.aload_n 1, 1) := by decide +kernel
theorem d1_11 : decode prog_6_method_2_code 11 = .ok (.arraylength, 1) := by decide +kernel
theorem d1_12 : decode prog_6_method_2_code 12 = .ok (.putfield 16, 3) := by decide +kernel
theorem d1_15 : decode prog_6_method_2_code 15 = .ok (.return_, 1) := by decide +kernel
def Q1 (Z : State) (p0 : Addr) (p1 : Addr) (xs : List Int32) (nl : Int32) (h0 : Heap) (n0 : Nat) (v : Option Value) (h : Heap) (L : List Loc) : Prop := v = none ∧ Fr n0 L ∧ Keep h0 h [p0] ∧ Exa Z h p0 "com/example/careful_audit/carefulaudit/ByteSlice" ∧ Fld Z h p0 "com/example/careful_audit/carefulaudit/ByteSlice" "bytes" "[B" (.ref p1) ∧ Fld Z h p0 "com/example/careful_audit/carefulaudit/ByteSlice" "from" "I" (.int (0 : Int32)) ∧ Fld Z h p0 "com/example/careful_audit/carefulaudit/ByteSlice" "to" "I" (.int nl)
abbrev rmm1 : Room := { frames := 1, cells := 0, slots := 0, locals := 12 }
abbrev P1 (Z : State) (p0 : Addr) (p1 : Addr) (xs : List Int32) (nl : Int32) (h0 : Heap) (n0 : Nat) (s : State) : Outcome → State → Prop := fun o U' => ∃ v L, o = .returned v ∧ Q1 Z p0 p1 xs nl h0 n0 v U'.heap L ∧ FrameEnd s o U' L rmm1.cells rmm1.slots
theorem pn_1 : plainName "com/example/careful_audit/carefulaudit/ByteSlice" = true := by first | (simp [plainName, overriddenIn]; done) | decide +kernel
theorem ef_1 (m : MethodId) (p0 : Addr) (p1 : Addr) : entryFrame m #[(.ref p0), (.ref p1)] 2 = mkF m 0 #[.val (.ref p0), .val (.ref p1)] [] := by first | (simp [entryFrame, mkF, argsToLocals, Value.category]; done) | rfl
set_option maxRecDepth 65536 in
set_option maxHeartbeats 40000000 in
theorem rm1 (l : Launch) (Z : State) (a0 : Array Value) (hw : ∀ d ∈ tables_1, d.before a0 Z = true) (ws : List Jvm.Cond) (p0 : Addr) (p1 : Addr) (xs : List Int32) (nl : Int32) (h0 : Heap) (n0 : Nat) (Z0 : n0 ≤ h0.size) (H0 : Exa Z h0 p0 "com/example/careful_audit/carefulaudit/ByteSlice") (H1 : Fld Z h0 p0 "com/example/careful_audit/carefulaudit/ByteSlice" "bytes" "[B" .null) (H2 : Fld Z h0 p0 "com/example/careful_audit/carefulaudit/ByteSlice" "to" "I" (.int (0 : Int32))) (H3 : Fld Z h0 p0 "com/example/careful_audit/carefulaudit/ByteSlice" "from" "I" (.int (0 : Int32))) (H4 : ArL Z h0 p1 .byte (List.map Value.int xs)) (H5 : n0 ≤ p0) (H6 : p0 ≠ p1) (hl : (List.length xs).toInt32 = nl) :
    MetFree l (⟨"com/example/careful_audit/carefulaudit/ByteSlice", "<init>", "([B)V"⟩ : MethodName) (head1 (Jvm.Cond.code (⟨"com/example/careful_audit/carefulaudit/ByteSlice", "<init>", "([B)V"⟩ : MethodName) prog_6_method_2_code 2 none :: ws) rmm1) (fun a U => a = #[(.ref p0), (.ref p1)] ∧ Z.Warmed39 U.vm ∧ U.heap = h0) (fun _ _ _ _ _ => True) (fun _ U o U' => ∃ v L, o = .returned v ∧ Q1 Z p0 p1 xs nl h0 n0 v U'.heap L ∧ FrameEnd U o U' L rmm1.cells rmm1.slots) := by
  refine MetFree.of_bodySF (plainFor_of_name pn_1) hisR ?_
  intro p e s m args below meth c s₁ Bd hml0 hP hK
  obtain ⟨rfl, hZ, hh⟩ := hP
  have hx := Bd.exec
  have hby := Bd.bytes
  have hml : c.maxLocals = 2 := hml0
  have hown : s.vm.findClass "com/example/careful_audit/carefulaudit/ByteSlice" = some m.cls := findClass_of_methodNamed Bd.named
  have hnm := (name_of_methodNamed Bd.named Bd.method).1
  have X0 : Stand p l e rmm1 s m #[(.ref p0), (.ref p1)] below meth c s₁ [] 0 0 := Stand.of_body Bd
  have e0 : s₁.heap = h0 := by rw [← hh, Bd.state]; rfl
  have N0 := Fr.nil n0
  show Go p.tables e below (P1 Z p0 p1 xs nl h0 n0 s) (s₁.setTop (entryFrame m #[(.ref p0), (.ref p1)] 2))
  refine Go.back (fun t k => castTop (ef_1 m p0 p1) k) ?_
  show Go p.tables e below (P1 Z p0 p1 xs nl h0 n0 s) (s₁.setTop (mkF m 0 #[.val (.ref p0), .val (.ref p1)] []))
  refine Go.back (fun t k => XS.aloadN X0.here hx rfl (hb hby d1_0) rfl rfl  k) ?_
  show Go p.tables e below (P1 Z p0 p1 xs nl h0 n0 s) (s₁.setTop (mkF m 1 #[.val (.ref p0), .val (.ref p1)] [(.ref p0)]))
  obtain ⟨T1, X1, e1, st1⟩ := initO X0 hx hZ hown (hw _ (List.mem_of_getElem? (i := 7) rfl)) (hw _ (List.mem_of_getElem? (i := 8) rfl)) (hw _ (List.mem_of_getElem? (i := 9) rfl)) e0 (g := (mkF m 1 #[.val (.ref p0), .val (.ref p1)] [(.ref p0)])) rfl (by rw [hml]; rfl) rfl (hb hby d1_1) (by decide) (W := 0) (by show 2 * 0 + _ ≤ _; exact Nat.le_of_eq rfl) (by decide)
  refine Go.back st1 ?_
  show Go p.tables e below (P1 Z p0 p1 xs nl h0 n0 s) (T1.setTop (mkF m 4 #[.val (.ref p0), .val (.ref p1)] []))
  refine Go.back (fun t k => XS.aloadN X1.here hx rfl (hb hby d1_4) rfl rfl  k) ?_
  show Go p.tables e below (P1 Z p0 p1 xs nl h0 n0 s) (T1.setTop (mkF m 5 #[.val (.ref p0), .val (.ref p1)] [(.ref p0)]))
  refine Go.back (fun t k => XS.aloadN X1.here hx rfl (hb hby d1_5) rfl rfl  k) ?_
  show Go p.tables e below (P1 Z p0 p1 xs nl h0 n0 s) (T1.setTop (mkF m 6 #[.val (.ref p0), .val (.ref p1)] [(.ref p1), (.ref p0)]))
  obtain ⟨T2, h2, X2, e2, W2, st2⟩ := putF X1 hx hZ hown (host := "") (Or.inl (hw _ (List.mem_of_getElem? (i := 10) rfl))) Via.refl e1 H1 H0 (Or.inl (hw _ (List.mem_of_getElem? (i := 11) rfl))) (hw _ (List.mem_of_getElem? (i := 2) rfl)) (ty := (.array .byte)) (by decide) rfl rfl (g := (mkF m 6 #[.val (.ref p0), .val (.ref p1)] [(.ref p1), (.ref p0)])) rfl rfl (hb hby d1_6)
  have F3 : Exa Z h2 p0 "com/example/careful_audit/carefulaudit/ByteSlice" := H0.wr W2
  have F4 : Fld Z h2 p0 "com/example/careful_audit/carefulaudit/ByteSlice" "bytes" "[B" (.ref p1) := H1.same W2
  have F5 : Fld Z h2 p0 "com/example/careful_audit/carefulaudit/ByteSlice" "to" "I" (.int (0 : Int32)) := H2.other W2 (Or.inr (slot_ne (Or.inl (hw _ (List.mem_of_getElem? (i := 13) rfl))) (Or.inl (hw _ (List.mem_of_getElem? (i := 11) rfl))) (by decide) (t := .int) (t' := (.array .byte)) (by decide) (by decide)))
  have F6 : Fld Z h2 p0 "com/example/careful_audit/carefulaudit/ByteSlice" "from" "I" (.int (0 : Int32)) := H3.other W2 (Or.inr (slot_ne (Or.inl (hw _ (List.mem_of_getElem? (i := 20) rfl))) (Or.inl (hw _ (List.mem_of_getElem? (i := 11) rfl))) (by decide) (t := .int) (t' := (.array .byte)) (by decide) (by decide)))
  have F7 : ArL Z h2 p1 .byte (List.map Value.int xs) := H4.other W2 (Ne.symm H6)
  have F8 : n0 ≤ h2.size := Nat.le_trans Z0 (Keep.of_wr W2).1
  have F9 : Keep h0 h2 [p0] := (Keep.refl h0 [p0]).wr W2 (Or.inl (List.mem_of_getElem? (i := 0) rfl))
  have N2 := Fr.snoc X2 N0 H5
  refine Go.back st2 ?_
  show Go p.tables e below (P1 Z p0 p1 xs nl h0 n0 s) (T2.setTop (mkF m 9 #[.val (.ref p0), .val (.ref p1)] []))
  refine Go.back (fun t k => XS.aloadN X2.here hx rfl (hb hby d1_9) rfl rfl  k) ?_
  show Go p.tables e below (P1 Z p0 p1 xs nl h0 n0 s) (T2.setTop (mkF m 10 #[.val (.ref p0), .val (.ref p1)] [(.ref p0)]))
  refine Go.back (fun t k => XS.aloadN X2.here hx rfl (hb hby d1_10) rfl rfl  k) ?_
  show Go p.tables e below (P1 Z p0 p1 xs nl h0 n0 s) (T2.setTop (mkF m 11 #[.val (.ref p0), .val (.ref p1)] [(.ref p1), (.ref p0)]))
  obtain ⟨cl10, Ar10, S10⟩ := F7.len
  refine Go.back (fun t k => X2.arraylength hx (by rw [e2]; exact Ar10.1) (State.isArrayOf_alike hZ.alike Ar10.2.1) (g := (mkF m 11 #[.val (.ref p0), .val (.ref p1)] [(.ref p1), (.ref p0)])) rfl rfl (hb hby d1_11) t k) ?_
  rw [S10]
  rw [List.length_map, hl]
  show Go p.tables e below (P1 Z p0 p1 xs nl h0 n0 s) (T2.setTop (mkF m 12 #[.val (.ref p0), .val (.ref p1)] [(.int nl), (.ref p0)]))
  obtain ⟨T11, h11, X11, e11, W11, st11⟩ := putF X2 hx hZ hown (host := "") (Or.inl (hw _ (List.mem_of_getElem? (i := 12) rfl))) Via.refl e2 F5 F3 (Or.inl (hw _ (List.mem_of_getElem? (i := 13) rfl))) (hw _ (List.mem_of_getElem? (i := 2) rfl)) (ty := .int) (by decide) rfl rfl (g := (mkF m 12 #[.val (.ref p0), .val (.ref p1)] [(.int nl), (.ref p0)])) rfl rfl (hb hby d1_12)
  have F12 : Exa Z h11 p0 "com/example/careful_audit/carefulaudit/ByteSlice" := F3.wr W11
  have F13 : Fld Z h11 p0 "com/example/careful_audit/carefulaudit/ByteSlice" "bytes" "[B" (.ref p1) := F4.other W11 (Or.inr (slot_ne (Or.inl (hw _ (List.mem_of_getElem? (i := 11) rfl))) (Or.inl (hw _ (List.mem_of_getElem? (i := 13) rfl))) (by decide) (t := (.array .byte)) (t' := .int) (by decide) (by decide)))
  have F14 : Fld Z h11 p0 "com/example/careful_audit/carefulaudit/ByteSlice" "to" "I" (.int nl) := F5.same W11
  have F15 : Fld Z h11 p0 "com/example/careful_audit/carefulaudit/ByteSlice" "from" "I" (.int (0 : Int32)) := F6.other W11 (Or.inr (slot_ne (Or.inl (hw _ (List.mem_of_getElem? (i := 20) rfl))) (Or.inl (hw _ (List.mem_of_getElem? (i := 13) rfl))) (by decide) (t := .int) (t' := .int) (by decide) (by decide)))
  have F16 : ArL Z h11 p1 .byte (List.map Value.int xs) := F7.other W11 (Ne.symm H6)
  have F17 : n0 ≤ h11.size := Nat.le_trans F8 (Keep.of_wr W11).1
  have F18 : Keep h0 h11 [p0] := F9.wr W11 (Or.inl (List.mem_of_getElem? (i := 0) rfl))
  have N11 := Fr.snoc X11 N2 H5
  refine Go.back st11 ?_
  show Go p.tables e below (P1 Z p0 p1 xs nl h0 n0 s) (T11.setTop (mkF m 15 #[.val (.ref p0), .val (.ref p1)] []))
  exact Go.retV X11 hx Bd.returns (hb hby d1_15) Bd.notSynchronized ⟨rfl, N11, (by rw [e11]; exact F18), (by rw [e11]; exact F12), (by rw [e11]; exact F13), (by rw [e11]; exact F15), (by rw [e11]; exact F14)⟩ (by decide) (by decide)
theorem d3_0 : decode prog_6_method_3_code 0 = .ok (.aload_n 0, 1) := by decide +kernel
theorem d3_1 : decode prog_6_method_3_code 1 = .ok (.aload_n 1, 1) := by decide +kernel
theorem d3_2 : decode prog_6_method_3_code 2 = .ok (.putfield 12, 3) := by decide +kernel
theorem d3_5 : decode prog_6_method_3_code 5 = .ok (.aload_n 0, 1) := by decide +kernel
theorem d3_6 : decode prog_6_method_3_code 6 = .ok (.iload_n 2, 1) := by decide +kernel
theorem d3_7 : decode prog_6_method_3_code 7 = .ok (.putfield 20, 3) := by decide +kernel
theorem d3_10 : decode prog_6_method_3_code 10 = .ok (.aload_n 0, 1) := by decide +kernel
theorem d3_11 : decode prog_6_method_3_code 11 = .ok (.iload_n 3, 1) := by decide +kernel
theorem d3_12 : decode prog_6_method_3_code 12 = .ok (.putfield 16, 3) := by decide +kernel
theorem d3_15 : decode prog_6_method_3_code 15 = .ok (.return_, 1) := by decide +kernel
def Q3 (Z : State) (p0 : Addr) (p1 : Addr) (p2 : Int32) (p3 : Int32) (ob : Addr) (of : Int32) (ot : Int32) (h0 : Heap) (n0 : Nat) (v : Option Value) (h : Heap) (L : List Loc) : Prop := v = none ∧ Fr n0 L ∧ Keep h0 h [p0] ∧ Exa Z h p0 "com/example/careful_audit/carefulaudit/ByteSlice" ∧ Fld Z h p0 "com/example/careful_audit/carefulaudit/ByteSlice" "bytes" "[B" (.ref p1) ∧ Fld Z h p0 "com/example/careful_audit/carefulaudit/ByteSlice" "from" "I" (.int p2) ∧ Fld Z h p0 "com/example/careful_audit/carefulaudit/ByteSlice" "to" "I" (.int p3)
abbrev rmm3 : Room := { frames := 0, cells := 0, slots := 0, locals := 0 }
abbrev P3 (Z : State) (p0 : Addr) (p1 : Addr) (p2 : Int32) (p3 : Int32) (ob : Addr) (of : Int32) (ot : Int32) (h0 : Heap) (n0 : Nat) (s : State) : Outcome → State → Prop := fun o U' => ∃ v L, o = .returned v ∧ Q3 Z p0 p1 p2 p3 ob of ot h0 n0 v U'.heap L ∧ FrameEnd s o U' L rmm3.cells rmm3.slots
theorem pn_3 : plainName "com/example/careful_audit/carefulaudit/ByteSlice" = true := by first | (simp [plainName, overriddenIn]; done) | decide +kernel
theorem ef_3 (m : MethodId) (p0 : Addr) (p1 : Addr) (p2 : Int32) (p3 : Int32) : entryFrame m #[(.ref p0), (.ref p1), (.int p2), (.int p3)] 4 = mkF m 0 #[.val (.ref p0), .val (.ref p1), .val (.int p2), .val (.int p3)] [] := by first | (simp [entryFrame, mkF, argsToLocals, Value.category]; done) | rfl
set_option maxRecDepth 65536 in
set_option maxHeartbeats 40000000 in
theorem rm3 (l : Launch) (Z : State) (a0 : Array Value) (hw : ∀ d ∈ tables_1, d.before a0 Z = true) (ws : List Jvm.Cond) (p0 : Addr) (p1 : Addr) (p2 : Int32) (p3 : Int32) (ob : Addr) (of : Int32) (ot : Int32) (h0 : Heap) (n0 : Nat) (Z0 : n0 ≤ h0.size) (H0 : Exa Z h0 p0 "com/example/careful_audit/carefulaudit/ByteSlice") (H1 : Fld Z h0 p0 "com/example/careful_audit/carefulaudit/ByteSlice" "bytes" "[B" (.ref ob)) (H2 : Fld Z h0 p0 "com/example/careful_audit/carefulaudit/ByteSlice" "from" "I" (.int of)) (H3 : Fld Z h0 p0 "com/example/careful_audit/carefulaudit/ByteSlice" "to" "I" (.int ot)) (H4 : n0 ≤ p0) :
    MetFree l (⟨"com/example/careful_audit/carefulaudit/ByteSlice", "point", "([BII)V"⟩ : MethodName) (head1 (Jvm.Cond.code (⟨"com/example/careful_audit/carefulaudit/ByteSlice", "point", "([BII)V"⟩ : MethodName) prog_6_method_3_code 4 none :: ws) rmm3) (fun a U => a = #[(.ref p0), (.ref p1), (.int p2), (.int p3)] ∧ Z.Warmed39 U.vm ∧ U.heap = h0) (fun _ _ _ _ _ => True) (fun _ U o U' => ∃ v L, o = .returned v ∧ Q3 Z p0 p1 p2 p3 ob of ot h0 n0 v U'.heap L ∧ FrameEnd U o U' L rmm3.cells rmm3.slots) := by
  refine MetFree.of_bodySF (plainFor_of_name pn_3) hisR ?_
  intro p e s m args below meth c s₁ Bd hml0 hP hK
  obtain ⟨rfl, hZ, hh⟩ := hP
  have hx := Bd.exec
  have hby := Bd.bytes
  have hml : c.maxLocals = 4 := hml0
  have hown : s.vm.findClass "com/example/careful_audit/carefulaudit/ByteSlice" = some m.cls := findClass_of_methodNamed Bd.named
  have hnm := (name_of_methodNamed Bd.named Bd.method).1
  have X0 : Stand p l e rmm3 s m #[(.ref p0), (.ref p1), (.int p2), (.int p3)] below meth c s₁ [] 0 0 := Stand.of_body Bd
  have e0 : s₁.heap = h0 := by rw [← hh, Bd.state]; rfl
  have N0 := Fr.nil n0
  show Go p.tables e below (P3 Z p0 p1 p2 p3 ob of ot h0 n0 s) (s₁.setTop (entryFrame m #[(.ref p0), (.ref p1), (.int p2), (.int p3)] 4))
  refine Go.back (fun t k => castTop (ef_3 m p0 p1 p2 p3) k) ?_
  show Go p.tables e below (P3 Z p0 p1 p2 p3 ob of ot h0 n0 s) (s₁.setTop (mkF m 0 #[.val (.ref p0), .val (.ref p1), .val (.int p2), .val (.int p3)] []))
  refine Go.back (fun t k => XS.aloadN X0.here hx rfl (hb hby d3_0) rfl rfl  k) ?_
  show Go p.tables e below (P3 Z p0 p1 p2 p3 ob of ot h0 n0 s) (s₁.setTop (mkF m 1 #[.val (.ref p0), .val (.ref p1), .val (.int p2), .val (.int p3)] [(.ref p0)]))
  refine Go.back (fun t k => XS.aloadN X0.here hx rfl (hb hby d3_1) rfl rfl  k) ?_
  show Go p.tables e below (P3 Z p0 p1 p2 p3 ob of ot h0 n0 s) (s₁.setTop (mkF m 2 #[.val (.ref p0), .val (.ref p1), .val (.int p2), .val (.int p3)] [(.ref p1), (.ref p0)]))
  obtain ⟨T1, h1, X1, e1, W1, st1⟩ := putF X0 hx hZ hown (host := "") (Or.inl (hw _ (List.mem_of_getElem? (i := 10) rfl))) Via.refl e0 H1 H0 (Or.inl (hw _ (List.mem_of_getElem? (i := 11) rfl))) (hw _ (List.mem_of_getElem? (i := 2) rfl)) (ty := (.array .byte)) (by decide) rfl rfl (g := (mkF m 2 #[.val (.ref p0), .val (.ref p1), .val (.int p2), .val (.int p3)] [(.ref p1), (.ref p0)])) rfl rfl (hb hby d3_2)
  have F2 : Exa Z h1 p0 "com/example/careful_audit/carefulaudit/ByteSlice" := H0.wr W1
  have F3 : Fld Z h1 p0 "com/example/careful_audit/carefulaudit/ByteSlice" "bytes" "[B" (.ref p1) := H1.same W1
  have F4 : Fld Z h1 p0 "com/example/careful_audit/carefulaudit/ByteSlice" "from" "I" (.int of) := H2.other W1 (Or.inr (slot_ne (Or.inl (hw _ (List.mem_of_getElem? (i := 20) rfl))) (Or.inl (hw _ (List.mem_of_getElem? (i := 11) rfl))) (by decide) (t := .int) (t' := (.array .byte)) (by decide) (by decide)))
  have F5 : Fld Z h1 p0 "com/example/careful_audit/carefulaudit/ByteSlice" "to" "I" (.int ot) := H3.other W1 (Or.inr (slot_ne (Or.inl (hw _ (List.mem_of_getElem? (i := 13) rfl))) (Or.inl (hw _ (List.mem_of_getElem? (i := 11) rfl))) (by decide) (t := .int) (t' := (.array .byte)) (by decide) (by decide)))
  have F6 : n0 ≤ h1.size := Nat.le_trans Z0 (Keep.of_wr W1).1
  have F7 : Keep h0 h1 [p0] := (Keep.refl h0 [p0]).wr W1 (Or.inl (List.mem_of_getElem? (i := 0) rfl))
  have N1 := Fr.snoc X1 N0 H4
  refine Go.back st1 ?_
  show Go p.tables e below (P3 Z p0 p1 p2 p3 ob of ot h0 n0 s) (T1.setTop (mkF m 5 #[.val (.ref p0), .val (.ref p1), .val (.int p2), .val (.int p3)] []))
  refine Go.back (fun t k => XS.aloadN X1.here hx rfl (hb hby d3_5) rfl rfl  k) ?_
  show Go p.tables e below (P3 Z p0 p1 p2 p3 ob of ot h0 n0 s) (T1.setTop (mkF m 6 #[.val (.ref p0), .val (.ref p1), .val (.int p2), .val (.int p3)] [(.ref p0)]))
  refine Go.back (fun t k => XS.iloadN X1.here hx rfl (hb hby d3_6) rfl  k) ?_
  show Go p.tables e below (P3 Z p0 p1 p2 p3 ob of ot h0 n0 s) (T1.setTop (mkF m 7 #[.val (.ref p0), .val (.ref p1), .val (.int p2), .val (.int p3)] [(.int p2), (.ref p0)]))
  obtain ⟨T8, h8, X8, e8, W8, st8⟩ := putF X1 hx hZ hown (host := "") (Or.inl (hw _ (List.mem_of_getElem? (i := 19) rfl))) Via.refl e1 F4 F2 (Or.inl (hw _ (List.mem_of_getElem? (i := 20) rfl))) (hw _ (List.mem_of_getElem? (i := 2) rfl)) (ty := .int) (by decide) rfl rfl (g := (mkF m 7 #[.val (.ref p0), .val (.ref p1), .val (.int p2), .val (.int p3)] [(.int p2), (.ref p0)])) rfl rfl (hb hby d3_7)
  have F9 : Exa Z h8 p0 "com/example/careful_audit/carefulaudit/ByteSlice" := F2.wr W8
  have F10 : Fld Z h8 p0 "com/example/careful_audit/carefulaudit/ByteSlice" "bytes" "[B" (.ref p1) := F3.other W8 (Or.inr (slot_ne (Or.inl (hw _ (List.mem_of_getElem? (i := 11) rfl))) (Or.inl (hw _ (List.mem_of_getElem? (i := 20) rfl))) (by decide) (t := (.array .byte)) (t' := .int) (by decide) (by decide)))
  have F11 : Fld Z h8 p0 "com/example/careful_audit/carefulaudit/ByteSlice" "from" "I" (.int p2) := F4.same W8
  have F12 : Fld Z h8 p0 "com/example/careful_audit/carefulaudit/ByteSlice" "to" "I" (.int ot) := F5.other W8 (Or.inr (slot_ne (Or.inl (hw _ (List.mem_of_getElem? (i := 13) rfl))) (Or.inl (hw _ (List.mem_of_getElem? (i := 20) rfl))) (by decide) (t := .int) (t' := .int) (by decide) (by decide)))
  have F13 : n0 ≤ h8.size := Nat.le_trans F6 (Keep.of_wr W8).1
  have F14 : Keep h0 h8 [p0] := F7.wr W8 (Or.inl (List.mem_of_getElem? (i := 0) rfl))
  have N8 := Fr.snoc X8 N1 H4
  refine Go.back st8 ?_
  show Go p.tables e below (P3 Z p0 p1 p2 p3 ob of ot h0 n0 s) (T8.setTop (mkF m 10 #[.val (.ref p0), .val (.ref p1), .val (.int p2), .val (.int p3)] []))
  refine Go.back (fun t k => XS.aloadN X8.here hx rfl (hb hby d3_10) rfl rfl  k) ?_
  show Go p.tables e below (P3 Z p0 p1 p2 p3 ob of ot h0 n0 s) (T8.setTop (mkF m 11 #[.val (.ref p0), .val (.ref p1), .val (.int p2), .val (.int p3)] [(.ref p0)]))
  refine Go.back (fun t k => XS.iloadN X8.here hx rfl (hb hby d3_11) rfl  k) ?_
  show Go p.tables e below (P3 Z p0 p1 p2 p3 ob of ot h0 n0 s) (T8.setTop (mkF m 12 #[.val (.ref p0), .val (.ref p1), .val (.int p2), .val (.int p3)] [(.int p3), (.ref p0)]))
  obtain ⟨T15, h15, X15, e15, W15, st15⟩ := putF X8 hx hZ hown (host := "") (Or.inl (hw _ (List.mem_of_getElem? (i := 12) rfl))) Via.refl e8 F12 F9 (Or.inl (hw _ (List.mem_of_getElem? (i := 13) rfl))) (hw _ (List.mem_of_getElem? (i := 2) rfl)) (ty := .int) (by decide) rfl rfl (g := (mkF m 12 #[.val (.ref p0), .val (.ref p1), .val (.int p2), .val (.int p3)] [(.int p3), (.ref p0)])) rfl rfl (hb hby d3_12)
  have F16 : Exa Z h15 p0 "com/example/careful_audit/carefulaudit/ByteSlice" := F9.wr W15
  have F17 : Fld Z h15 p0 "com/example/careful_audit/carefulaudit/ByteSlice" "bytes" "[B" (.ref p1) := F10.other W15 (Or.inr (slot_ne (Or.inl (hw _ (List.mem_of_getElem? (i := 11) rfl))) (Or.inl (hw _ (List.mem_of_getElem? (i := 13) rfl))) (by decide) (t := (.array .byte)) (t' := .int) (by decide) (by decide)))
  have F18 : Fld Z h15 p0 "com/example/careful_audit/carefulaudit/ByteSlice" "from" "I" (.int p2) := F11.other W15 (Or.inr (slot_ne (Or.inl (hw _ (List.mem_of_getElem? (i := 20) rfl))) (Or.inl (hw _ (List.mem_of_getElem? (i := 13) rfl))) (by decide) (t := .int) (t' := .int) (by decide) (by decide)))
  have F19 : Fld Z h15 p0 "com/example/careful_audit/carefulaudit/ByteSlice" "to" "I" (.int p3) := F12.same W15
  have F20 : n0 ≤ h15.size := Nat.le_trans F13 (Keep.of_wr W15).1
  have F21 : Keep h0 h15 [p0] := F14.wr W15 (Or.inl (List.mem_of_getElem? (i := 0) rfl))
  have N15 := Fr.snoc X15 N8 H4
  refine Go.back st15 ?_
  show Go p.tables e below (P3 Z p0 p1 p2 p3 ob of ot h0 n0 s) (T15.setTop (mkF m 15 #[.val (.ref p0), .val (.ref p1), .val (.int p2), .val (.int p3)] []))
  exact Go.retV X15 hx Bd.returns (hb hby d3_15) Bd.notSynchronized ⟨rfl, N15, (by rw [e15]; exact F21), (by rw [e15]; exact F16), (by rw [e15]; exact F17), (by rw [e15]; exact F18), (by rw [e15]; exact F19)⟩ (by decide) (by decide)
theorem d4_0 : decode prog_6_method_7_code 0 = .ok (.iconst 1, 1) := by decide +kernel
theorem d4_1 : decode prog_6_method_7_code 1 = .ok (.istore_n 1, 1) := by decide +kernel
theorem d4_2 : decode prog_6_method_7_code 2 = .ok (.aload_n 0, 1) := by decide +kernel
theorem d4_3 : decode prog_6_method_7_code 3 = .ok (.getfield 20, 3) := by decide +kernel
theorem d4_6 : decode prog_6_method_7_code 6 = .ok (.istore_n 2, 1) := by decide +kernel
theorem d4_7 : decode prog_6_method_7_code 7 = .ok (.iload_n 2, 1) := by decide +kernel
theorem d4_8 : decode prog_6_method_7_code 8 = .ok (.aload_n 0, 1) := by decide +kernel
theorem d4_9 : decode prog_6_method_7_code 9 = .ok (.getfield 16, 3) := by decide +kernel
theorem d4_12 : decode prog_6_method_7_code 12 = .ok (.if_icmp .ge 21, 3) := by decide +kernel
theorem d4_15 : decode prog_6_method_7_code 15 = .ok (.bipush 31, 2) := by decide +kernel
theorem d4_17 : decode prog_6_method_7_code 17 = .ok (.iload_n 1, 1) := by decide +kernel
theorem d4_18 : decode prog_6_method_7_code 18 = .ok (.imul, 1) := by decide +kernel
theorem d4_19 : decode prog_6_method_7_code 19 = .ok (.aload_n 0, 1) := by decide +kernel
theorem d4_20 : decode prog_6_method_7_code 20 = .ok (.getfield 12, 3) := by decide +kernel
theorem d4_23 : decode prog_6_method_7_code 23 = .ok (.iload_n 2, 1) := by decide +kernel
theorem d4_24 : decode prog_6_method_7_code 24 = .ok (.baload, 1) := by decide +kernel
theorem d4_25 : decode prog_6_method_7_code 25 = .ok (.iadd, 1) := by decide +kernel
theorem d4_26 : decode prog_6_method_7_code 26 = .ok (.istore_n 1, 1) := by decide +kernel
theorem d4_27 : decode prog_6_method_7_code 27 = .ok (.iinc 2 1, 3) := by decide +kernel
theorem d4_30 : decode prog_6_method_7_code 30 = .ok (.goto (-23), 3) := by decide +kernel
theorem d4_33 : decode prog_6_method_7_code 33 = .ok (.iload_n 1, 1) := by decide +kernel
theorem d4_34 : decode prog_6_method_7_code 34 = .ok (.ireturn, 1) := by decide +kernel
def Q4 (Z : State) (p0 : Addr) (by_ : Addr) (fr : Int32) (to : Int32) (xs : List Int32) (nn : Nat) (h0 : Heap) (n0 : Nat) (v : Option Value) (h : Heap) (L : List Loc) : Prop := v = some (.int (own_h xs nn fr 1)) ∧ Fr n0 L ∧ h = h0
abbrev rmm4 : Room := { frames := 0, cells := 0, slots := 0, locals := 0 }
abbrev P4 (Z : State) (p0 : Addr) (by_ : Addr) (fr : Int32) (to : Int32) (xs : List Int32) (nn : Nat) (h0 : Heap) (n0 : Nat) (s : State) : Outcome → State → Prop := fun o U' => ∃ v L, o = .returned v ∧ Q4 Z p0 by_ fr to xs nn h0 n0 v U'.heap L ∧ FrameEnd s o U' L rmm4.cells rmm4.slots
theorem pn_4 : plainName "com/example/careful_audit/carefulaudit/ByteSlice" = true := by first | (simp [plainName, overriddenIn]; done) | decide +kernel
theorem ef_4 (m : MethodId) (p0 : Addr) : entryFrame m #[(.ref p0)] 3 = mkF m 0 #[.val (.ref p0), .unset, .unset] [] := by first | (simp [entryFrame, mkF, argsToLocals, Value.category]; done) | rfl
set_option maxRecDepth 65536 in
set_option maxHeartbeats 40000000 in
theorem rm4 (l : Launch) (Z : State) (a0 : Array Value) (hw : ∀ d ∈ tables_1, d.before a0 Z = true) (ws : List Jvm.Cond) (p0 : Addr) (by_ : Addr) (fr : Int32) (to : Int32) (xs : List Int32) (nn : Nat) (h0 : Heap) (n0 : Nat) (Z0 : n0 ≤ h0.size) (H0 : Fld Z h0 p0 "com/example/careful_audit/carefulaudit/ByteSlice" "bytes" "[B" (.ref by_)) (H1 : Fld Z h0 p0 "com/example/careful_audit/carefulaudit/ByteSlice" "from" "I" (.int fr)) (H2 : Fld Z h0 p0 "com/example/careful_audit/carefulaudit/ByteSlice" "to" "I" (.int to)) (H3 : ArL Z h0 by_ .byte (List.map Value.int xs)) (hb0 : own_hb xs nn fr to) :
    MetFree l (⟨"com/example/careful_audit/carefulaudit/ByteSlice", "hashCode", "()I"⟩ : MethodName) (head1 (Jvm.Cond.code (⟨"com/example/careful_audit/carefulaudit/ByteSlice", "hashCode", "()I"⟩ : MethodName) prog_6_method_7_code 3 (some .int) :: ws) rmm4) (fun a U => a = #[(.ref p0)] ∧ Z.Warmed39 U.vm ∧ U.heap = h0) (fun _ _ _ _ _ => True) (fun _ U o U' => ∃ v L, o = .returned v ∧ Q4 Z p0 by_ fr to xs nn h0 n0 v U'.heap L ∧ FrameEnd U o U' L rmm4.cells rmm4.slots) := by
  refine MetFree.of_bodySF (plainFor_of_name pn_4) hisR ?_
  intro p e s m args below meth c s₁ Bd hml0 hP hK
  obtain ⟨rfl, hZ, hh⟩ := hP
  have hx := Bd.exec
  have hby := Bd.bytes
  have hml : c.maxLocals = 3 := hml0
  have hown : s.vm.findClass "com/example/careful_audit/carefulaudit/ByteSlice" = some m.cls := findClass_of_methodNamed Bd.named
  have hnm := (name_of_methodNamed Bd.named Bd.method).1
  have X0 : Stand p l e rmm4 s m #[(.ref p0)] below meth c s₁ [] 0 0 := Stand.of_body Bd
  have e0 : s₁.heap = h0 := by rw [← hh, Bd.state]; rfl
  have N0 := Fr.nil n0
  show Go p.tables e below (P4 Z p0 by_ fr to xs nn h0 n0 s) (s₁.setTop (entryFrame m #[(.ref p0)] 3))
  refine Go.back (fun t k => castTop (ef_4 m p0) k) ?_
  show Go p.tables e below (P4 Z p0 by_ fr to xs nn h0 n0 s) (s₁.setTop (mkF m 0 #[.val (.ref p0), .unset, .unset] []))
  refine Go.back (fun t k => XS.iconst X0.here hx rfl (hb hby d4_0) k) ?_
  show Go p.tables e below (P4 Z p0 by_ fr to xs nn h0 n0 s) (s₁.setTop (mkF m 1 #[.val (.ref p0), .unset, .unset] [(.int (1 : Int32))]))
  refine Go.back (fun t k => XS.istoreN X0.here hx rfl (hb hby d4_1) rfl (l' := #[.val (.ref p0), .val (.int (1 : Int32)), .unset]) rfl k) ?_
  show Go p.tables e below (P4 Z p0 by_ fr to xs nn h0 n0 s) (s₁.setTop (mkF m 2 #[.val (.ref p0), .val (.int (1 : Int32)), .unset] []))
  refine Go.back (fun t k => XS.aloadN X0.here hx rfl (hb hby d4_2) rfl rfl  k) ?_
  show Go p.tables e below (P4 Z p0 by_ fr to xs nn h0 n0 s) (s₁.setTop (mkF m 3 #[.val (.ref p0), .val (.int (1 : Int32)), .unset] [(.ref p0)]))
  obtain ⟨T1, X1, e1, st1⟩ := getF X0 hx hZ hown (host := "") (Or.inl (hw _ (List.mem_of_getElem? (i := 19) rfl))) Via.refl e0 H1 (g := (mkF m 3 #[.val (.ref p0), .val (.int (1 : Int32)), .unset] [(.ref p0)])) rfl rfl (hb hby d4_3)
  refine Go.back st1 ?_
  show Go p.tables e below (P4 Z p0 by_ fr to xs nn h0 n0 s) (T1.setTop (mkF m 6 #[.val (.ref p0), .val (.int (1 : Int32)), .unset] [(.int fr)]))
  refine Go.back (fun t k => XS.istoreN X1.here hx rfl (hb hby d4_6) rfl (l' := #[.val (.ref p0), .val (.int (1 : Int32)), .val (.int fr)]) rfl k) ?_
  show Go p.tables e below (P4 Z p0 by_ fr to xs nn h0 n0 s) (T1.setTop (mkF m 7 #[.val (.ref p0), .val (.int (1 : Int32)), .val (.int fr)] []))
  have LOOP2 : ∀ (n : Nat) (acc : Int32) (i : Int32) (T3 : State) (L3 : List Loc) (X3 : Stand p l e rmm4 s m #[(.ref p0)] below meth c T3 L3 0 0) (N3 : Fr n0 L3) (e3 : T3.heap = h0) (hbd : own_hb xs n i to) (hr : own_h xs nn fr 1 = own_h xs n i acc), Go p.tables e below (P4 Z p0 by_ fr to xs nn h0 n0 s) (T3.setTop (mkF m 7 #[.val (.ref p0), .val (.int acc), .val (.int i)] [])) := by
    intro n
    induction n with
    | zero =>
      intro acc i T3 L3 X3 N3 e3 hbd hr
      show Go p.tables e below (P4 Z p0 by_ fr to xs nn h0 n0 s) (T3.setTop (mkF m 7 #[.val (.ref p0), .val (.int acc), .val (.int i)] []))
      refine Go.back (fun t k => XS.iloadN X3.here hx rfl (hb hby d4_7) rfl  k) ?_
      show Go p.tables e below (P4 Z p0 by_ fr to xs nn h0 n0 s) (T3.setTop (mkF m 8 #[.val (.ref p0), .val (.int acc), .val (.int i)] [(.int i)]))
      refine Go.back (fun t k => XS.aloadN X3.here hx rfl (hb hby d4_8) rfl rfl  k) ?_
      show Go p.tables e below (P4 Z p0 by_ fr to xs nn h0 n0 s) (T3.setTop (mkF m 9 #[.val (.ref p0), .val (.int acc), .val (.int i)] [(.ref p0), (.int i)]))
      obtain ⟨T4, X4, e4, st4⟩ := getF X3 hx hZ hown (host := "") (Or.inl (hw _ (List.mem_of_getElem? (i := 12) rfl))) Via.refl e3 H2 (g := (mkF m 9 #[.val (.ref p0), .val (.int acc), .val (.int i)] [(.ref p0), (.int i)])) rfl rfl (hb hby d4_9)
      refine Go.back st4 ?_
      show Go p.tables e below (P4 Z p0 by_ fr to xs nn h0 n0 s) (T4.setTop (mkF m 12 #[.val (.ref p0), .val (.int acc), .val (.int i)] [(.int to), (.int i)]))
      refine Go.back (fun t k => XS.icmpYes X4.here hx rfl (pc0 := 12) (pc' := 33) rfl (hb hby d4_12) rfl (flt (own_z hbd)).2.1 (by decide) (by decide) k) ?_
      show Go p.tables e below (P4 Z p0 by_ fr to xs nn h0 n0 s) (T4.setTop (mkF m 33 #[.val (.ref p0), .val (.int acc), .val (.int i)] []))
      refine Go.back (fun t k => XS.iloadN X4.here hx rfl (hb hby d4_33) rfl  k) ?_
      show Go p.tables e below (P4 Z p0 by_ fr to xs nn h0 n0 s) (T4.setTop (mkF m 34 #[.val (.ref p0), .val (.int acc), .val (.int i)] [(.int acc)]))
      exact Go.retI X4 hx Bd.returns (hb hby d4_34) Bd.notSynchronized ⟨by rw [hr]; rfl, N3, e4⟩ (by decide) (by decide)
    | succ n ih =>
      intro acc i T3 L3 X3 N3 e3 hbd hr
      show Go p.tables e below (P4 Z p0 by_ fr to xs nn h0 n0 s) (T3.setTop (mkF m 7 #[.val (.ref p0), .val (.int acc), .val (.int i)] []))
      refine Go.back (fun t k => XS.iloadN X3.here hx rfl (hb hby d4_7) rfl  k) ?_
      show Go p.tables e below (P4 Z p0 by_ fr to xs nn h0 n0 s) (T3.setTop (mkF m 8 #[.val (.ref p0), .val (.int acc), .val (.int i)] [(.int i)]))
      refine Go.back (fun t k => XS.aloadN X3.here hx rfl (hb hby d4_8) rfl rfl  k) ?_
      show Go p.tables e below (P4 Z p0 by_ fr to xs nn h0 n0 s) (T3.setTop (mkF m 9 #[.val (.ref p0), .val (.int acc), .val (.int i)] [(.ref p0), (.int i)]))
      obtain ⟨T5, X5, e5, st5⟩ := getF X3 hx hZ hown (host := "") (Or.inl (hw _ (List.mem_of_getElem? (i := 12) rfl))) Via.refl e3 H2 (g := (mkF m 9 #[.val (.ref p0), .val (.int acc), .val (.int i)] [(.ref p0), (.int i)])) rfl rfl (hb hby d4_9)
      refine Go.back st5 ?_
      show Go p.tables e below (P4 Z p0 by_ fr to xs nn h0 n0 s) (T5.setTop (mkF m 12 #[.val (.ref p0), .val (.int acc), .val (.int i)] [(.int to), (.int i)]))
      refine Go.back (fun t k => XS.icmpNo X5.here hx rfl (hb hby d4_12) rfl (tlt (own_s hbd)).2.1 k) ?_
      show Go p.tables e below (P4 Z p0 by_ fr to xs nn h0 n0 s) (T5.setTop (mkF m 15 #[.val (.ref p0), .val (.int acc), .val (.int i)] []))
      refine Go.back (fun t k => XS.bipush X5.here hx rfl (hb hby d4_15) k) ?_
      show Go p.tables e below (P4 Z p0 by_ fr to xs nn h0 n0 s) (T5.setTop (mkF m 17 #[.val (.ref p0), .val (.int acc), .val (.int i)] [(.int (31 : Int32))]))
      refine Go.back (fun t k => XS.iloadN X5.here hx rfl (hb hby d4_17) rfl  k) ?_
      show Go p.tables e below (P4 Z p0 by_ fr to xs nn h0 n0 s) (T5.setTop (mkF m 18 #[.val (.ref p0), .val (.int acc), .val (.int i)] [(.int acc), (.int (31 : Int32))]))
      refine Go.back (fun t k => XS.imul X5.here hx rfl (hb hby d4_18) rfl k) ?_
      show Go p.tables e below (P4 Z p0 by_ fr to xs nn h0 n0 s) (T5.setTop (mkF m 19 #[.val (.ref p0), .val (.int acc), .val (.int i)] [(.int ((31 : Int32) * acc))]))
      refine Go.back (fun t k => XS.aloadN X5.here hx rfl (hb hby d4_19) rfl rfl  k) ?_
      show Go p.tables e below (P4 Z p0 by_ fr to xs nn h0 n0 s) (T5.setTop (mkF m 20 #[.val (.ref p0), .val (.int acc), .val (.int i)] [(.ref p0), (.int ((31 : Int32) * acc))]))
      obtain ⟨T6, X6, e6, st6⟩ := getF X5 hx hZ hown (host := "") (Or.inl (hw _ (List.mem_of_getElem? (i := 10) rfl))) Via.refl e5 H0 (g := (mkF m 20 #[.val (.ref p0), .val (.int acc), .val (.int i)] [(.ref p0), (.int ((31 : Int32) * acc))])) rfl rfl (hb hby d4_20)
      refine Go.back st6 ?_
      show Go p.tables e below (P4 Z p0 by_ fr to xs nn h0 n0 s) (T6.setTop (mkF m 23 #[.val (.ref p0), .val (.int acc), .val (.int i)] [(.ref by_), (.int ((31 : Int32) * acc))]))
      refine Go.back (fun t k => XS.iloadN X6.here hx rfl (hb hby d4_23) rfl  k) ?_
      show Go p.tables e below (P4 Z p0 by_ fr to xs nn h0 n0 s) (T6.setTop (mkF m 24 #[.val (.ref p0), .val (.int acc), .val (.int i)] [(.int i), (.ref by_), (.int ((31 : Int32) * acc))]))
      obtain ⟨cl7, Ar7, hi7, ha7⟩ := H3.get (j := i) (own_nn hbd) (v := (.int (List.getD xs (i).toNatClampNeg (0 : Int32)))) (getI xs (own_ix hbd))
      refine Go.back (fun t k => X6.baloadBytes hx (j := i) (v := (.int (List.getD xs (i).toNatClampNeg (0 : Int32)))) (by rw [e6]; exact Ar7.1) (State.isArrayOf_alike hZ.alike Ar7.2.1) Ar7.2.2 hi7 ha7 (g := (mkF m 24 #[.val (.ref p0), .val (.int acc), .val (.int i)] [(.int i), (.ref by_), (.int ((31 : Int32) * acc))])) rfl rfl (hb hby d4_24) t k) ?_
      show Go p.tables e below (P4 Z p0 by_ fr to xs nn h0 n0 s) (T6.setTop (mkF m 25 #[.val (.ref p0), .val (.int acc), .val (.int i)] [(.int (List.getD xs (i).toNatClampNeg (0 : Int32))), (.int ((31 : Int32) * acc))]))
      refine Go.back (fun t k => XS.iadd X6.here hx rfl (hb hby d4_25) rfl k) ?_
      show Go p.tables e below (P4 Z p0 by_ fr to xs nn h0 n0 s) (T6.setTop (mkF m 26 #[.val (.ref p0), .val (.int acc), .val (.int i)] [(.int (((31 : Int32) * acc) + (List.getD xs (i).toNatClampNeg (0 : Int32))))]))
      refine Go.back (fun t k => XS.istoreN X6.here hx rfl (hb hby d4_26) rfl (l' := #[.val (.ref p0), .val (.int (((31 : Int32) * acc) + (List.getD xs (i).toNatClampNeg (0 : Int32)))), .val (.int i)]) rfl k) ?_
      show Go p.tables e below (P4 Z p0 by_ fr to xs nn h0 n0 s) (T6.setTop (mkF m 27 #[.val (.ref p0), .val (.int (((31 : Int32) * acc) + (List.getD xs (i).toNatClampNeg (0 : Int32)))), .val (.int i)] []))
      have J8 : ∀ (z9 : Int32) (hz9 : z9 = (((31 : Int32) * acc) + (List.getD xs (i).toNatClampNeg (0 : Int32)))), Go p.tables e below (P4 Z p0 by_ fr to xs nn h0 n0 s) (T6.setTop (mkF m 27 #[.val (.ref p0), .val (.int z9), .val (.int i)] [])) := by
        intro z9 hz9
        show Go p.tables e below (P4 Z p0 by_ fr to xs nn h0 n0 s) (T6.setTop (mkF m 27 #[.val (.ref p0), .val (.int z9), .val (.int i)] []))
        refine Go.back (fun t k => XS.iinc X6.here hx rfl (hb hby d4_27) rfl (l' := #[.val (.ref p0), .val (.int z9), .val (.int (i + (1 : Int32)))]) rfl k) ?_
        show Go p.tables e below (P4 Z p0 by_ fr to xs nn h0 n0 s) (T6.setTop (mkF m 30 #[.val (.ref p0), .val (.int z9), .val (.int (i + (1 : Int32)))] []))
        refine Go.back (fun t k => XS.goto X6.here hx rfl (pc0 := 30) (pc' := 7) rfl (hb hby d4_30) (by decide) (by decide) k) ?_
        show Go p.tables e below (P4 Z p0 by_ fr to xs nn h0 n0 s) (T6.setTop (mkF m 7 #[.val (.ref p0), .val (.int z9), .val (.int (i + (1 : Int32)))] []))
        exact ih z9 (i + (1 : Int32)) _ _ X6 N3 e6 (own_hs hbd) (by subst hz9; exact hr)
      exact J8 _ rfl
  exact LOOP2 nn (1 : Int32) fr _ _ X1 N0 e1 hb0 rfl
theorem d5_0 : decode method_3_code 0 = .ok (.iload_n 0, 1) := by decide +kernel
theorem d5_1 : decode method_3_code 1 = .ok (.ifCond .ne 5, 3) := by decide +kernel
theorem d5_4 : decode method_3_code 4 = .ok (.iconst 1, 1) := by decide +kernel
theorem d5_5 : decode method_3_code 5 = .ok (.ireturn, 1) := by decide +kernel
theorem d5_6 : decode method_3_code 6 = .ok (.iload_n 0, 1) := by decide +kernel
theorem d5_7 : decode method_3_code 7 = .ok (.iconst 1, 1) := by decide +kernel
theorem d5_8 : decode method_3_code 8 = .ok (.if_icmp .ne 8, 3) := by decide +kernel
theorem d5_11 : decode method_3_code 11 = .ok (.bipush 31, 2) := by decide +kernel
theorem d5_13 : decode method_3_code 13 = .ok (.iload_n 1, 1) := by decide +kernel
theorem d5_14 : decode method_3_code 14 = .ok (.iadd, 1) := by decide +kernel
theorem d5_15 : decode method_3_code 15 = .ok (.ireturn, 1) := by decide +kernel
theorem d5_16 : decode method_3_code 16 = .ok (.iload_n 0, 1) := by decide +kernel
theorem d5_17 : decode method_3_code 17 = .ok (.iconst 2, 1) := by decide +kernel
theorem d5_18 : decode method_3_code 18 = .ok (.if_icmp .ne 14, 3) := by decide +kernel
theorem d5_21 : decode method_3_code 21 = .ok (.sipush 961, 3) := by decide +kernel
theorem d5_24 : decode method_3_code 24 = .ok (.bipush 31, 2) := by decide +kernel
theorem d5_26 : decode method_3_code 26 = .ok (.iload_n 1, 1) := by decide +kernel
theorem d5_27 : decode method_3_code 27 = .ok (.imul, 1) := by decide +kernel
theorem d5_28 : decode method_3_code 28 = .ok (.iadd, 1) := by decide +kernel
theorem d5_29 : decode method_3_code 29 = .ok (.iload_n 2, 1) := by decide +kernel
theorem d5_30 : decode method_3_code 30 = .ok (.iadd, 1) := by decide +kernel
theorem d5_31 : decode method_3_code 31 = .ok (.ireturn, 1) := by decide +kernel
theorem d5_32 : decode method_3_code 32 = .ok (.sipush 29791, 3) := by decide +kernel
theorem d5_35 : decode method_3_code 35 = .ok (.sipush 961, 3) := by decide +kernel
theorem d5_38 : decode method_3_code 38 = .ok (.iload_n 1, 1) := by decide +kernel
theorem d5_39 : decode method_3_code 39 = .ok (.imul, 1) := by decide +kernel
theorem d5_40 : decode method_3_code 40 = .ok (.iadd, 1) := by decide +kernel
theorem d5_41 : decode method_3_code 41 = .ok (.bipush 31, 2) := by decide +kernel
theorem d5_43 : decode method_3_code 43 = .ok (.iload_n 2, 1) := by decide +kernel
theorem d5_44 : decode method_3_code 44 = .ok (.imul, 1) := by decide +kernel
theorem d5_45 : decode method_3_code 45 = .ok (.iadd, 1) := by decide +kernel
theorem d5_46 : decode method_3_code 46 = .ok (.iload_n 3, 1) := by decide +kernel
theorem d5_47 : decode method_3_code 47 = .ok (.iadd, 1) := by decide +kernel
theorem d5_48 : decode method_3_code 48 = .ok (.ireturn, 1) := by decide +kernel
def f5 (p0 : Int32) (p1 : Int32) (p2 : Int32) (p3 : Int32) : Int32 := (if p0 = (0 : Int32) then (1 : Int32) else (if p0 = (1 : Int32) then ((31 : Int32) + p1) else (if p0 = (2 : Int32) then (((961 : Int32) + ((31 : Int32) * p1)) + p2) else ((((29791 : Int32) + ((961 : Int32) * p1)) + ((31 : Int32) * p2)) + p3))))
def Q5 (p0 : Int32) (p1 : Int32) (p2 : Int32) (p3 : Int32) (h0 : Heap) (n0 : Nat) (v : Option Value) (h : Heap) (L : List Loc) : Prop := v = some (.int (f5 p0 p1 p2 p3)) ∧ Fr n0 L ∧ h = h0
abbrev rmm5 : Room := { frames := 0, cells := 0, slots := 0, locals := 0 }
abbrev P5 (p0 : Int32) (p1 : Int32) (p2 : Int32) (p3 : Int32) (h0 : Heap) (n0 : Nat) (s : State) : Outcome → State → Prop := fun o U' => ∃ v L, o = .returned v ∧ Q5 p0 p1 p2 p3 h0 n0 v U'.heap L ∧ FrameEnd s o U' L rmm5.cells rmm5.slots
theorem pn_5 : plainName "com/example/careful_audit/carefulaudit/ByteSliceHashCodePinLaw" = true := by first | (simp [plainName, overriddenIn]; done) | decide +kernel
theorem ef_5 (m : MethodId) (p0 : Int32) (p1 : Int32) (p2 : Int32) (p3 : Int32) : entryFrame m #[(.int p0), (.int p1), (.int p2), (.int p3)] 4 = mkF m 0 #[.val (.int p0), .val (.int p1), .val (.int p2), .val (.int p3)] [] := by first | (simp [entryFrame, mkF, argsToLocals, Value.category]; done) | rfl
set_option maxRecDepth 65536 in
set_option maxHeartbeats 40000000 in
theorem rm5 (l : Launch) (Z : State) (a0 : Array Value) (hw : ∀ d ∈ tables_1, d.before a0 Z = true) (ws : List Jvm.Cond) (p0 : Int32) (p1 : Int32) (p2 : Int32) (p3 : Int32) (h0 : Heap) (n0 : Nat) :
    MetFree l (⟨"com/example/careful_audit/carefulaudit/ByteSliceHashCodePinLaw", "ref", "(IIII)I"⟩ : MethodName) (head1 (Jvm.Cond.code (⟨"com/example/careful_audit/carefulaudit/ByteSliceHashCodePinLaw", "ref", "(IIII)I"⟩ : MethodName) method_3_code 4 (some .int) :: ws) rmm5) (fun a U => a = #[(.int p0), (.int p1), (.int p2), (.int p3)] ∧ Z.Warmed39 U.vm ∧ U.heap = h0) (fun _ _ _ _ _ => True) (fun _ U o U' => ∃ v L, o = .returned v ∧ Q5 p0 p1 p2 p3 h0 n0 v U'.heap L ∧ FrameEnd U o U' L rmm5.cells rmm5.slots) := by
  refine MetFree.of_bodySF (plainFor_of_name pn_5) hisR ?_
  intro p e s m args below meth c s₁ Bd hml0 hP hK
  obtain ⟨rfl, hZ, hh⟩ := hP
  have hx := Bd.exec
  have hby := Bd.bytes
  have hml : c.maxLocals = 4 := hml0
  have hown : s.vm.findClass "com/example/careful_audit/carefulaudit/ByteSliceHashCodePinLaw" = some m.cls := findClass_of_methodNamed Bd.named
  have hnm := (name_of_methodNamed Bd.named Bd.method).1
  have X0 : Stand p l e rmm5 s m #[(.int p0), (.int p1), (.int p2), (.int p3)] below meth c s₁ [] 0 0 := Stand.of_body Bd
  have e0 : s₁.heap = h0 := by rw [← hh, Bd.state]; rfl
  have N0 := Fr.nil n0
  show Go p.tables e below (P5 p0 p1 p2 p3 h0 n0 s) (s₁.setTop (entryFrame m #[(.int p0), (.int p1), (.int p2), (.int p3)] 4))
  refine Go.back (fun t k => castTop (ef_5 m p0 p1 p2 p3) k) ?_
  show Go p.tables e below (P5 p0 p1 p2 p3 h0 n0 s) (s₁.setTop (mkF m 0 #[.val (.int p0), .val (.int p1), .val (.int p2), .val (.int p3)] []))
  have hf : f5 p0 p1 p2 p3 = (if p0 = (0 : Int32) then (1 : Int32) else (if p0 = (1 : Int32) then ((31 : Int32) + p1) else (if p0 = (2 : Int32) then (((961 : Int32) + ((31 : Int32) * p1)) + p2) else ((((29791 : Int32) + ((961 : Int32) * p1)) + ((31 : Int32) * p2)) + p3)))) := rfl
  refine Go.back (fun t k => XS.iloadN X0.here hx rfl (hb hby d5_0) rfl  k) ?_
  show Go p.tables e below (P5 p0 p1 p2 p3 h0 n0 s) (s₁.setTop (mkF m 1 #[.val (.int p0), .val (.int p1), .val (.int p2), .val (.int p3)] [(.int p0)]))
  by_cases hc1 : p0 = (0 : Int32)
  · have r2 := hf.trans (if_pos hc1)
    refine Go.back (fun t k => XS.ifNo X0.here hx rfl (hb hby d5_1) rfl ((if0 _ _).trans (teq hc1).2) k) ?_
    show Go p.tables e below (P5 p0 p1 p2 p3 h0 n0 s) (s₁.setTop (mkF m 4 #[.val (.int p0), .val (.int p1), .val (.int p2), .val (.int p3)] []))
    refine Go.back (fun t k => XS.iconst X0.here hx rfl (hb hby d5_4) k) ?_
    show Go p.tables e below (P5 p0 p1 p2 p3 h0 n0 s) (s₁.setTop (mkF m 5 #[.val (.int p0), .val (.int p1), .val (.int p2), .val (.int p3)] [(.int (1 : Int32))]))
    exact Go.retI X0 hx Bd.returns (hb hby d5_5) Bd.notSynchronized ⟨by rw [r2], N0, e0⟩ (by decide) (by decide)
  · have r3 := hf.trans (if_neg hc1)
    refine Go.back (fun t k => XS.ifYes X0.here hx rfl (pc0 := 1) (pc' := 6) rfl (hb hby d5_1) rfl ((if0 _ _).trans (feq hc1).2) (by decide) (by decide) k) ?_
    show Go p.tables e below (P5 p0 p1 p2 p3 h0 n0 s) (s₁.setTop (mkF m 6 #[.val (.int p0), .val (.int p1), .val (.int p2), .val (.int p3)] []))
    refine Go.back (fun t k => XS.iloadN X0.here hx rfl (hb hby d5_6) rfl  k) ?_
    show Go p.tables e below (P5 p0 p1 p2 p3 h0 n0 s) (s₁.setTop (mkF m 7 #[.val (.int p0), .val (.int p1), .val (.int p2), .val (.int p3)] [(.int p0)]))
    refine Go.back (fun t k => XS.iconst X0.here hx rfl (hb hby d5_7) k) ?_
    show Go p.tables e below (P5 p0 p1 p2 p3 h0 n0 s) (s₁.setTop (mkF m 8 #[.val (.int p0), .val (.int p1), .val (.int p2), .val (.int p3)] [(.int (1 : Int32)), (.int p0)]))
    by_cases hc4 : p0 = (1 : Int32)
    · have r5 := r3.trans (if_pos hc4)
      refine Go.back (fun t k => XS.icmpNo X0.here hx rfl (hb hby d5_8) rfl (teq hc4).2 k) ?_
      show Go p.tables e below (P5 p0 p1 p2 p3 h0 n0 s) (s₁.setTop (mkF m 11 #[.val (.int p0), .val (.int p1), .val (.int p2), .val (.int p3)] []))
      refine Go.back (fun t k => XS.bipush X0.here hx rfl (hb hby d5_11) k) ?_
      show Go p.tables e below (P5 p0 p1 p2 p3 h0 n0 s) (s₁.setTop (mkF m 13 #[.val (.int p0), .val (.int p1), .val (.int p2), .val (.int p3)] [(.int (31 : Int32))]))
      refine Go.back (fun t k => XS.iloadN X0.here hx rfl (hb hby d5_13) rfl  k) ?_
      show Go p.tables e below (P5 p0 p1 p2 p3 h0 n0 s) (s₁.setTop (mkF m 14 #[.val (.int p0), .val (.int p1), .val (.int p2), .val (.int p3)] [(.int p1), (.int (31 : Int32))]))
      refine Go.back (fun t k => XS.iadd X0.here hx rfl (hb hby d5_14) rfl k) ?_
      show Go p.tables e below (P5 p0 p1 p2 p3 h0 n0 s) (s₁.setTop (mkF m 15 #[.val (.int p0), .val (.int p1), .val (.int p2), .val (.int p3)] [(.int ((31 : Int32) + p1))]))
      exact Go.retI X0 hx Bd.returns (hb hby d5_15) Bd.notSynchronized ⟨by rw [r5], N0, e0⟩ (by decide) (by decide)
    · have r6 := r3.trans (if_neg hc4)
      refine Go.back (fun t k => XS.icmpYes X0.here hx rfl (pc0 := 8) (pc' := 16) rfl (hb hby d5_8) rfl (feq hc4).2 (by decide) (by decide) k) ?_
      show Go p.tables e below (P5 p0 p1 p2 p3 h0 n0 s) (s₁.setTop (mkF m 16 #[.val (.int p0), .val (.int p1), .val (.int p2), .val (.int p3)] []))
      refine Go.back (fun t k => XS.iloadN X0.here hx rfl (hb hby d5_16) rfl  k) ?_
      show Go p.tables e below (P5 p0 p1 p2 p3 h0 n0 s) (s₁.setTop (mkF m 17 #[.val (.int p0), .val (.int p1), .val (.int p2), .val (.int p3)] [(.int p0)]))
      refine Go.back (fun t k => XS.iconst X0.here hx rfl (hb hby d5_17) k) ?_
      show Go p.tables e below (P5 p0 p1 p2 p3 h0 n0 s) (s₁.setTop (mkF m 18 #[.val (.int p0), .val (.int p1), .val (.int p2), .val (.int p3)] [(.int (2 : Int32)), (.int p0)]))
      by_cases hc7 : p0 = (2 : Int32)
      · have r8 := r6.trans (if_pos hc7)
        refine Go.back (fun t k => XS.icmpNo X0.here hx rfl (hb hby d5_18) rfl (teq hc7).2 k) ?_
        show Go p.tables e below (P5 p0 p1 p2 p3 h0 n0 s) (s₁.setTop (mkF m 21 #[.val (.int p0), .val (.int p1), .val (.int p2), .val (.int p3)] []))
        refine Go.back (fun t k => XS.sipush X0.here hx rfl (hb hby d5_21) k) ?_
        show Go p.tables e below (P5 p0 p1 p2 p3 h0 n0 s) (s₁.setTop (mkF m 24 #[.val (.int p0), .val (.int p1), .val (.int p2), .val (.int p3)] [(.int (961 : Int32))]))
        refine Go.back (fun t k => XS.bipush X0.here hx rfl (hb hby d5_24) k) ?_
        show Go p.tables e below (P5 p0 p1 p2 p3 h0 n0 s) (s₁.setTop (mkF m 26 #[.val (.int p0), .val (.int p1), .val (.int p2), .val (.int p3)] [(.int (31 : Int32)), (.int (961 : Int32))]))
        refine Go.back (fun t k => XS.iloadN X0.here hx rfl (hb hby d5_26) rfl  k) ?_
        show Go p.tables e below (P5 p0 p1 p2 p3 h0 n0 s) (s₁.setTop (mkF m 27 #[.val (.int p0), .val (.int p1), .val (.int p2), .val (.int p3)] [(.int p1), (.int (31 : Int32)), (.int (961 : Int32))]))
        refine Go.back (fun t k => XS.imul X0.here hx rfl (hb hby d5_27) rfl k) ?_
        show Go p.tables e below (P5 p0 p1 p2 p3 h0 n0 s) (s₁.setTop (mkF m 28 #[.val (.int p0), .val (.int p1), .val (.int p2), .val (.int p3)] [(.int ((31 : Int32) * p1)), (.int (961 : Int32))]))
        refine Go.back (fun t k => XS.iadd X0.here hx rfl (hb hby d5_28) rfl k) ?_
        show Go p.tables e below (P5 p0 p1 p2 p3 h0 n0 s) (s₁.setTop (mkF m 29 #[.val (.int p0), .val (.int p1), .val (.int p2), .val (.int p3)] [(.int ((961 : Int32) + ((31 : Int32) * p1)))]))
        refine Go.back (fun t k => XS.iloadN X0.here hx rfl (hb hby d5_29) rfl  k) ?_
        show Go p.tables e below (P5 p0 p1 p2 p3 h0 n0 s) (s₁.setTop (mkF m 30 #[.val (.int p0), .val (.int p1), .val (.int p2), .val (.int p3)] [(.int p2), (.int ((961 : Int32) + ((31 : Int32) * p1)))]))
        refine Go.back (fun t k => XS.iadd X0.here hx rfl (hb hby d5_30) rfl k) ?_
        show Go p.tables e below (P5 p0 p1 p2 p3 h0 n0 s) (s₁.setTop (mkF m 31 #[.val (.int p0), .val (.int p1), .val (.int p2), .val (.int p3)] [(.int (((961 : Int32) + ((31 : Int32) * p1)) + p2))]))
        exact Go.retI X0 hx Bd.returns (hb hby d5_31) Bd.notSynchronized ⟨by rw [r8], N0, e0⟩ (by decide) (by decide)
      · have r9 := r6.trans (if_neg hc7)
        refine Go.back (fun t k => XS.icmpYes X0.here hx rfl (pc0 := 18) (pc' := 32) rfl (hb hby d5_18) rfl (feq hc7).2 (by decide) (by decide) k) ?_
        show Go p.tables e below (P5 p0 p1 p2 p3 h0 n0 s) (s₁.setTop (mkF m 32 #[.val (.int p0), .val (.int p1), .val (.int p2), .val (.int p3)] []))
        refine Go.back (fun t k => XS.sipush X0.here hx rfl (hb hby d5_32) k) ?_
        show Go p.tables e below (P5 p0 p1 p2 p3 h0 n0 s) (s₁.setTop (mkF m 35 #[.val (.int p0), .val (.int p1), .val (.int p2), .val (.int p3)] [(.int (29791 : Int32))]))
        refine Go.back (fun t k => XS.sipush X0.here hx rfl (hb hby d5_35) k) ?_
        show Go p.tables e below (P5 p0 p1 p2 p3 h0 n0 s) (s₁.setTop (mkF m 38 #[.val (.int p0), .val (.int p1), .val (.int p2), .val (.int p3)] [(.int (961 : Int32)), (.int (29791 : Int32))]))
        refine Go.back (fun t k => XS.iloadN X0.here hx rfl (hb hby d5_38) rfl  k) ?_
        show Go p.tables e below (P5 p0 p1 p2 p3 h0 n0 s) (s₁.setTop (mkF m 39 #[.val (.int p0), .val (.int p1), .val (.int p2), .val (.int p3)] [(.int p1), (.int (961 : Int32)), (.int (29791 : Int32))]))
        refine Go.back (fun t k => XS.imul X0.here hx rfl (hb hby d5_39) rfl k) ?_
        show Go p.tables e below (P5 p0 p1 p2 p3 h0 n0 s) (s₁.setTop (mkF m 40 #[.val (.int p0), .val (.int p1), .val (.int p2), .val (.int p3)] [(.int ((961 : Int32) * p1)), (.int (29791 : Int32))]))
        refine Go.back (fun t k => XS.iadd X0.here hx rfl (hb hby d5_40) rfl k) ?_
        show Go p.tables e below (P5 p0 p1 p2 p3 h0 n0 s) (s₁.setTop (mkF m 41 #[.val (.int p0), .val (.int p1), .val (.int p2), .val (.int p3)] [(.int ((29791 : Int32) + ((961 : Int32) * p1)))]))
        refine Go.back (fun t k => XS.bipush X0.here hx rfl (hb hby d5_41) k) ?_
        show Go p.tables e below (P5 p0 p1 p2 p3 h0 n0 s) (s₁.setTop (mkF m 43 #[.val (.int p0), .val (.int p1), .val (.int p2), .val (.int p3)] [(.int (31 : Int32)), (.int ((29791 : Int32) + ((961 : Int32) * p1)))]))
        refine Go.back (fun t k => XS.iloadN X0.here hx rfl (hb hby d5_43) rfl  k) ?_
        show Go p.tables e below (P5 p0 p1 p2 p3 h0 n0 s) (s₁.setTop (mkF m 44 #[.val (.int p0), .val (.int p1), .val (.int p2), .val (.int p3)] [(.int p2), (.int (31 : Int32)), (.int ((29791 : Int32) + ((961 : Int32) * p1)))]))
        refine Go.back (fun t k => XS.imul X0.here hx rfl (hb hby d5_44) rfl k) ?_
        show Go p.tables e below (P5 p0 p1 p2 p3 h0 n0 s) (s₁.setTop (mkF m 45 #[.val (.int p0), .val (.int p1), .val (.int p2), .val (.int p3)] [(.int ((31 : Int32) * p2)), (.int ((29791 : Int32) + ((961 : Int32) * p1)))]))
        refine Go.back (fun t k => XS.iadd X0.here hx rfl (hb hby d5_45) rfl k) ?_
        show Go p.tables e below (P5 p0 p1 p2 p3 h0 n0 s) (s₁.setTop (mkF m 46 #[.val (.int p0), .val (.int p1), .val (.int p2), .val (.int p3)] [(.int (((29791 : Int32) + ((961 : Int32) * p1)) + ((31 : Int32) * p2)))]))
        refine Go.back (fun t k => XS.iloadN X0.here hx rfl (hb hby d5_46) rfl  k) ?_
        show Go p.tables e below (P5 p0 p1 p2 p3 h0 n0 s) (s₁.setTop (mkF m 47 #[.val (.int p0), .val (.int p1), .val (.int p2), .val (.int p3)] [(.int p3), (.int (((29791 : Int32) + ((961 : Int32) * p1)) + ((31 : Int32) * p2)))]))
        refine Go.back (fun t k => XS.iadd X0.here hx rfl (hb hby d5_47) rfl k) ?_
        show Go p.tables e below (P5 p0 p1 p2 p3 h0 n0 s) (s₁.setTop (mkF m 48 #[.val (.int p0), .val (.int p1), .val (.int p2), .val (.int p3)] [(.int ((((29791 : Int32) + ((961 : Int32) * p1)) + ((31 : Int32) * p2)) + p3))]))
        exact Go.retI X0 hx Bd.returns (hb hby d5_48) Bd.notSynchronized ⟨by rw [r9], N0, e0⟩ (by decide) (by decide)
def f0 (p0 : Int32) (p1 : Int32) (p2 : Int32) (p3 : Int32) (p4 : Int32) (p5 : Int32) : Bool := (let z2 : Int32 := (p0 &&& (3 : Int32)); (let z5 : Int32 := ((((p0).toUInt32 >>> ((2 : Int32) &&& 31).toUInt32).toInt32) &&& (3 : Int32)); (let z8 : Int32 := ((p1).toInt8.toInt32); (let z11 : Int32 := ((p2).toInt8.toInt32); (let z14 : Int32 := ((p3).toInt8.toInt32); (let z64 : List Int32 := [(nar .byte ((p4).toInt8.toInt32)), (nar .byte ((((p4 >>> ((8 : Int32) &&& 31)))).toInt8.toInt32)), (nar .byte ((((p4 >>> ((16 : Int32) &&& 31)))).toInt8.toInt32)), (nar .byte ((((p4 >>> ((24 : Int32) &&& 31)))).toInt8.toInt32)), (nar .byte ((p5).toInt8.toInt32)), (nar .byte ((((p5 >>> ((8 : Int32) &&& 31)))).toInt8.toInt32)), (nar .byte ((((p5 >>> ((16 : Int32) &&& 31)))).toInt8.toInt32))]; (let z71 : List Int32 := (if (0 : Int32) < z2 then (List.set z64 (z5).toNatClampNeg (nar .byte z8)) else z64); (let z80 : List Int32 := (if (1 : Int32) < z2 then (List.set z71 ((z5 + (1 : Int32))).toNatClampNeg (nar .byte z11)) else z71); (let z89 : List Int32 := (if (2 : Int32) < z2 then (List.set z80 ((z5 + (2 : Int32))).toNatClampNeg (nar .byte z14)) else z80); (let z95 : List Int32 := z89; (let z162 : Bool := (if (own_h [(nar .byte z8), (nar .byte z11), (nar .byte z14)] 3 (0 : Int32) 1) = (f5 (3 : Int32) z8 z11 z14) then (if (own_h z95 (z2).toNatClampNeg z5 1) = (f5 z2 z8 z11 z14) then true else false) else false); z162)))))))))))
def Q0 (Z : State) (p0 : Int32) (p1 : Int32) (p2 : Int32) (p3 : Int32) (p4 : Int32) (p5 : Int32) (h0 : Heap) (n0 : Nat) (v : Option Value) (h : Heap) (L : List Loc) : Prop := v = some (.int (b2i (f0 p0 p1 p2 p3 p4 p5))) ∧ Fr n0 L
abbrev P0 (Z : State) (p0 : Int32) (p1 : Int32) (p2 : Int32) (p3 : Int32) (p4 : Int32) (p5 : Int32) (h0 : Heap) (n0 : Nat) (s : State) : Outcome → State → Prop := fun o U' => ∃ v L, o = .returned v ∧ Q0 Z p0 p1 p2 p3 p4 p5 h0 n0 v U'.heap L ∧ FrameEnd s o U' L room_1.cells room_1.slots
theorem pn_0 : plainName "com/example/careful_audit/carefulaudit/ByteSliceHashCodePinLaw" = true := by first | (simp [plainName, overriddenIn]; done) | decide +kernel
theorem ef_0 (m : MethodId) (p0 : Int32) (p1 : Int32) (p2 : Int32) (p3 : Int32) (p4 : Int32) (p5 : Int32) : entryFrame m #[(.int p0), (.int p1), (.int p2), (.int p3), (.int p4), (.int p5)] maxLocals = mkF m 0 #[.val (.int p0), .val (.int p1), .val (.int p2), .val (.int p3), .val (.int p4), .val (.int p5), .unset, .unset, .unset, .unset, .unset, .unset, .unset, .unset, .unset] [] := by first | (simp [entryFrame, mkF, argsToLocals, Value.category, maxLocals]; done) | rfl
set_option maxRecDepth 65536 in
set_option maxHeartbeats 40000000 in
theorem rm0 (l : Launch) (Z : State) (a0 : Array Value) (hw : ∀ d ∈ tables_1, d.before a0 Z = true) (ws : List Jvm.Cond) (p0 : Int32) (p1 : Int32) (p2 : Int32) (p3 : Int32) (p4 : Int32) (p5 : Int32) (h0 : Heap) (n0 : Nat) (Z0 : n0 ≤ h0.size) :
    MetFree l x (head1 (Jvm.Cond.code x code maxLocals ret :: ws) room_1) (fun a U => a = #[(.int p0), (.int p1), (.int p2), (.int p3), (.int p4), (.int p5)] ∧ Z.Warmed39 U.vm ∧ U.heap = h0) (fun _ _ _ _ _ => True) (fun _ U o U' => ∃ v L, o = .returned v ∧ Q0 Z p0 p1 p2 p3 p4 p5 h0 n0 v U'.heap L ∧ FrameEnd U o U' L room_1.cells room_1.slots) := by
  refine MetFree.of_bodySF (plainFor_of_name pn_0) hisR ?_
  intro p e s m args below meth c s₁ Bd hml0 hP hK
  obtain ⟨rfl, hZ, hh⟩ := hP
  have hx := Bd.exec
  have hby := Bd.bytes
  have hml : c.maxLocals = 15 := hml0
  have hown : s.vm.findClass "com/example/careful_audit/carefulaudit/ByteSliceHashCodePinLaw" = some m.cls := findClass_of_methodNamed Bd.named
  have hnm := (name_of_methodNamed Bd.named Bd.method).1
  have X0 : Stand p l e room_1 s m #[(.int p0), (.int p1), (.int p2), (.int p3), (.int p4), (.int p5)] below meth c s₁ [] 0 0 := Stand.of_body Bd
  have e0 : s₁.heap = h0 := by rw [← hh, Bd.state]; rfl
  have N0 := Fr.nil n0
  show Go p.tables e below (P0 Z p0 p1 p2 p3 p4 p5 h0 n0 s) (s₁.setTop (entryFrame m #[(.int p0), (.int p1), (.int p2), (.int p3), (.int p4), (.int p5)] maxLocals))
  refine Go.back (fun t k => castTop (ef_0 m p0 p1 p2 p3 p4 p5) k) ?_
  show Go p.tables e below (P0 Z p0 p1 p2 p3 p4 p5 h0 n0 s) (s₁.setTop (mkF m 0 #[.val (.int p0), .val (.int p1), .val (.int p2), .val (.int p3), .val (.int p4), .val (.int p5), .unset, .unset, .unset, .unset, .unset, .unset, .unset, .unset, .unset] []))
  have hf0 : f0 p0 p1 p2 p3 p4 p5 = (let z2 : Int32 := (p0 &&& (3 : Int32)); (let z5 : Int32 := ((((p0).toUInt32 >>> ((2 : Int32) &&& 31).toUInt32).toInt32) &&& (3 : Int32)); (let z8 : Int32 := ((p1).toInt8.toInt32); (let z11 : Int32 := ((p2).toInt8.toInt32); (let z14 : Int32 := ((p3).toInt8.toInt32); (let z64 : List Int32 := [(nar .byte ((p4).toInt8.toInt32)), (nar .byte ((((p4 >>> ((8 : Int32) &&& 31)))).toInt8.toInt32)), (nar .byte ((((p4 >>> ((16 : Int32) &&& 31)))).toInt8.toInt32)), (nar .byte ((((p4 >>> ((24 : Int32) &&& 31)))).toInt8.toInt32)), (nar .byte ((p5).toInt8.toInt32)), (nar .byte ((((p5 >>> ((8 : Int32) &&& 31)))).toInt8.toInt32)), (nar .byte ((((p5 >>> ((16 : Int32) &&& 31)))).toInt8.toInt32))]; (let z71 : List Int32 := (if (0 : Int32) < z2 then (List.set z64 (z5).toNatClampNeg (nar .byte z8)) else z64); (let z80 : List Int32 := (if (1 : Int32) < z2 then (List.set z71 ((z5 + (1 : Int32))).toNatClampNeg (nar .byte z11)) else z71); (let z89 : List Int32 := (if (2 : Int32) < z2 then (List.set z80 ((z5 + (2 : Int32))).toNatClampNeg (nar .byte z14)) else z80); (let z95 : List Int32 := z89; (let z162 : Bool := (if (own_h [(nar .byte z8), (nar .byte z11), (nar .byte z14)] 3 (0 : Int32) 1) = (f5 (3 : Int32) z8 z11 z14) then (if (own_h z95 (z2).toNatClampNeg z5 1) = (f5 z2 z8 z11 z14) then true else false) else false); z162))))))))))) := rfl
  refine Go.back (fun t k => XS.iloadN X0.here hx rfl (hb hby at_0) rfl  k) ?_
  show Go p.tables e below (P0 Z p0 p1 p2 p3 p4 p5 h0 n0 s) (s₁.setTop (mkF m 1 #[.val (.int p0), .val (.int p1), .val (.int p2), .val (.int p3), .val (.int p4), .val (.int p5), .unset, .unset, .unset, .unset, .unset, .unset, .unset, .unset, .unset] [(.int p0)]))
  refine Go.back (fun t k => XS.iconst X0.here hx rfl (hb hby at_1) k) ?_
  show Go p.tables e below (P0 Z p0 p1 p2 p3 p4 p5 h0 n0 s) (s₁.setTop (mkF m 2 #[.val (.int p0), .val (.int p1), .val (.int p2), .val (.int p3), .val (.int p4), .val (.int p5), .unset, .unset, .unset, .unset, .unset, .unset, .unset, .unset, .unset] [(.int (3 : Int32)), (.int p0)]))
  refine Go.back (fun t k => XS.iand X0.here hx rfl (hb hby at_2) rfl k) ?_
  show Go p.tables e below (P0 Z p0 p1 p2 p3 p4 p5 h0 n0 s) (s₁.setTop (mkF m 3 #[.val (.int p0), .val (.int p1), .val (.int p2), .val (.int p3), .val (.int p4), .val (.int p5), .unset, .unset, .unset, .unset, .unset, .unset, .unset, .unset, .unset] [(.int (p0 &&& (3 : Int32)))]))
  refine Go.back (fun t k => XS.istore X0.here hx rfl (hb hby at_3) rfl (l' := #[.val (.int p0), .val (.int p1), .val (.int p2), .val (.int p3), .val (.int p4), .val (.int p5), .val (.int (p0 &&& (3 : Int32))), .unset, .unset, .unset, .unset, .unset, .unset, .unset, .unset]) rfl k) ?_
  show Go p.tables e below (P0 Z p0 p1 p2 p3 p4 p5 h0 n0 s) (s₁.setTop (mkF m 5 #[.val (.int p0), .val (.int p1), .val (.int p2), .val (.int p3), .val (.int p4), .val (.int p5), .val (.int (p0 &&& (3 : Int32))), .unset, .unset, .unset, .unset, .unset, .unset, .unset, .unset] []))
  have J1 : ∀ (z2 : Int32) (hz2 : z2 = (p0 &&& (3 : Int32))), Go p.tables e below (P0 Z p0 p1 p2 p3 p4 p5 h0 n0 s) (s₁.setTop (mkF m 5 #[.val (.int p0), .val (.int p1), .val (.int p2), .val (.int p3), .val (.int p4), .val (.int p5), .val (.int z2), .unset, .unset, .unset, .unset, .unset, .unset, .unset, .unset] [])) := by
    intro z2 hz2
    have r3 : f0 p0 p1 p2 p3 p4 p5 = (let z5 : Int32 := ((((p0).toUInt32 >>> ((2 : Int32) &&& 31).toUInt32).toInt32) &&& (3 : Int32)); (let z8 : Int32 := ((p1).toInt8.toInt32); (let z11 : Int32 := ((p2).toInt8.toInt32); (let z14 : Int32 := ((p3).toInt8.toInt32); (let z64 : List Int32 := [(nar .byte ((p4).toInt8.toInt32)), (nar .byte ((((p4 >>> ((8 : Int32) &&& 31)))).toInt8.toInt32)), (nar .byte ((((p4 >>> ((16 : Int32) &&& 31)))).toInt8.toInt32)), (nar .byte ((((p4 >>> ((24 : Int32) &&& 31)))).toInt8.toInt32)), (nar .byte ((p5).toInt8.toInt32)), (nar .byte ((((p5 >>> ((8 : Int32) &&& 31)))).toInt8.toInt32)), (nar .byte ((((p5 >>> ((16 : Int32) &&& 31)))).toInt8.toInt32))]; (let z71 : List Int32 := (if (0 : Int32) < z2 then (List.set z64 (z5).toNatClampNeg (nar .byte z8)) else z64); (let z80 : List Int32 := (if (1 : Int32) < z2 then (List.set z71 ((z5 + (1 : Int32))).toNatClampNeg (nar .byte z11)) else z71); (let z89 : List Int32 := (if (2 : Int32) < z2 then (List.set z80 ((z5 + (2 : Int32))).toNatClampNeg (nar .byte z14)) else z80); (let z95 : List Int32 := z89; (let z162 : Bool := (if (own_h [(nar .byte z8), (nar .byte z11), (nar .byte z14)] 3 (0 : Int32) 1) = (f5 (3 : Int32) z8 z11 z14) then (if (own_h z95 (z2).toNatClampNeg z5 1) = (f5 z2 z8 z11 z14) then true else false) else false); z162)))))))))) := by subst hz2; exact hf0
    show Go p.tables e below (P0 Z p0 p1 p2 p3 p4 p5 h0 n0 s) (s₁.setTop (mkF m 5 #[.val (.int p0), .val (.int p1), .val (.int p2), .val (.int p3), .val (.int p4), .val (.int p5), .val (.int z2), .unset, .unset, .unset, .unset, .unset, .unset, .unset, .unset] []))
    refine Go.back (fun t k => XS.iloadN X0.here hx rfl (hb hby at_5) rfl  k) ?_
    show Go p.tables e below (P0 Z p0 p1 p2 p3 p4 p5 h0 n0 s) (s₁.setTop (mkF m 6 #[.val (.int p0), .val (.int p1), .val (.int p2), .val (.int p3), .val (.int p4), .val (.int p5), .val (.int z2), .unset, .unset, .unset, .unset, .unset, .unset, .unset, .unset] [(.int p0)]))
    refine Go.back (fun t k => XS.iconst X0.here hx rfl (hb hby at_6) k) ?_
    show Go p.tables e below (P0 Z p0 p1 p2 p3 p4 p5 h0 n0 s) (s₁.setTop (mkF m 7 #[.val (.int p0), .val (.int p1), .val (.int p2), .val (.int p3), .val (.int p4), .val (.int p5), .val (.int z2), .unset, .unset, .unset, .unset, .unset, .unset, .unset, .unset] [(.int (2 : Int32)), (.int p0)]))
    refine Go.back (fun t k => XS.iushr X0.here hx rfl (hb hby at_7) rfl k) ?_
    show Go p.tables e below (P0 Z p0 p1 p2 p3 p4 p5 h0 n0 s) (s₁.setTop (mkF m 8 #[.val (.int p0), .val (.int p1), .val (.int p2), .val (.int p3), .val (.int p4), .val (.int p5), .val (.int z2), .unset, .unset, .unset, .unset, .unset, .unset, .unset, .unset] [(.int (((p0).toUInt32 >>> ((2 : Int32) &&& 31).toUInt32).toInt32))]))
    refine Go.back (fun t k => XS.iconst X0.here hx rfl (hb hby at_8) k) ?_
    show Go p.tables e below (P0 Z p0 p1 p2 p3 p4 p5 h0 n0 s) (s₁.setTop (mkF m 9 #[.val (.int p0), .val (.int p1), .val (.int p2), .val (.int p3), .val (.int p4), .val (.int p5), .val (.int z2), .unset, .unset, .unset, .unset, .unset, .unset, .unset, .unset] [(.int (3 : Int32)), (.int (((p0).toUInt32 >>> ((2 : Int32) &&& 31).toUInt32).toInt32))]))
    refine Go.back (fun t k => XS.iand X0.here hx rfl (hb hby at_9) rfl k) ?_
    show Go p.tables e below (P0 Z p0 p1 p2 p3 p4 p5 h0 n0 s) (s₁.setTop (mkF m 10 #[.val (.int p0), .val (.int p1), .val (.int p2), .val (.int p3), .val (.int p4), .val (.int p5), .val (.int z2), .unset, .unset, .unset, .unset, .unset, .unset, .unset, .unset] [(.int ((((p0).toUInt32 >>> ((2 : Int32) &&& 31).toUInt32).toInt32) &&& (3 : Int32)))]))
    refine Go.back (fun t k => XS.istore X0.here hx rfl (hb hby at_10) rfl (l' := #[.val (.int p0), .val (.int p1), .val (.int p2), .val (.int p3), .val (.int p4), .val (.int p5), .val (.int z2), .val (.int ((((p0).toUInt32 >>> ((2 : Int32) &&& 31).toUInt32).toInt32) &&& (3 : Int32))), .unset, .unset, .unset, .unset, .unset, .unset, .unset]) rfl k) ?_
    show Go p.tables e below (P0 Z p0 p1 p2 p3 p4 p5 h0 n0 s) (s₁.setTop (mkF m 12 #[.val (.int p0), .val (.int p1), .val (.int p2), .val (.int p3), .val (.int p4), .val (.int p5), .val (.int z2), .val (.int ((((p0).toUInt32 >>> ((2 : Int32) &&& 31).toUInt32).toInt32) &&& (3 : Int32))), .unset, .unset, .unset, .unset, .unset, .unset, .unset] []))
    have J4 : ∀ (z5 : Int32) (hz5 : z5 = ((((p0).toUInt32 >>> ((2 : Int32) &&& 31).toUInt32).toInt32) &&& (3 : Int32))), Go p.tables e below (P0 Z p0 p1 p2 p3 p4 p5 h0 n0 s) (s₁.setTop (mkF m 12 #[.val (.int p0), .val (.int p1), .val (.int p2), .val (.int p3), .val (.int p4), .val (.int p5), .val (.int z2), .val (.int z5), .unset, .unset, .unset, .unset, .unset, .unset, .unset] [])) := by
      intro z5 hz5
      have r6 : f0 p0 p1 p2 p3 p4 p5 = (let z8 : Int32 := ((p1).toInt8.toInt32); (let z11 : Int32 := ((p2).toInt8.toInt32); (let z14 : Int32 := ((p3).toInt8.toInt32); (let z64 : List Int32 := [(nar .byte ((p4).toInt8.toInt32)), (nar .byte ((((p4 >>> ((8 : Int32) &&& 31)))).toInt8.toInt32)), (nar .byte ((((p4 >>> ((16 : Int32) &&& 31)))).toInt8.toInt32)), (nar .byte ((((p4 >>> ((24 : Int32) &&& 31)))).toInt8.toInt32)), (nar .byte ((p5).toInt8.toInt32)), (nar .byte ((((p5 >>> ((8 : Int32) &&& 31)))).toInt8.toInt32)), (nar .byte ((((p5 >>> ((16 : Int32) &&& 31)))).toInt8.toInt32))]; (let z71 : List Int32 := (if (0 : Int32) < z2 then (List.set z64 (z5).toNatClampNeg (nar .byte z8)) else z64); (let z80 : List Int32 := (if (1 : Int32) < z2 then (List.set z71 ((z5 + (1 : Int32))).toNatClampNeg (nar .byte z11)) else z71); (let z89 : List Int32 := (if (2 : Int32) < z2 then (List.set z80 ((z5 + (2 : Int32))).toNatClampNeg (nar .byte z14)) else z80); (let z95 : List Int32 := z89; (let z162 : Bool := (if (own_h [(nar .byte z8), (nar .byte z11), (nar .byte z14)] 3 (0 : Int32) 1) = (f5 (3 : Int32) z8 z11 z14) then (if (own_h z95 (z2).toNatClampNeg z5 1) = (f5 z2 z8 z11 z14) then true else false) else false); z162))))))))) := by subst hz5; exact r3
      show Go p.tables e below (P0 Z p0 p1 p2 p3 p4 p5 h0 n0 s) (s₁.setTop (mkF m 12 #[.val (.int p0), .val (.int p1), .val (.int p2), .val (.int p3), .val (.int p4), .val (.int p5), .val (.int z2), .val (.int z5), .unset, .unset, .unset, .unset, .unset, .unset, .unset] []))
      refine Go.back (fun t k => XS.iloadN X0.here hx rfl (hb hby at_12) rfl  k) ?_
      show Go p.tables e below (P0 Z p0 p1 p2 p3 p4 p5 h0 n0 s) (s₁.setTop (mkF m 13 #[.val (.int p0), .val (.int p1), .val (.int p2), .val (.int p3), .val (.int p4), .val (.int p5), .val (.int z2), .val (.int z5), .unset, .unset, .unset, .unset, .unset, .unset, .unset] [(.int p1)]))
      refine Go.back (fun t k => XS.i2b X0.here hx rfl (hb hby at_13) rfl k) ?_
      show Go p.tables e below (P0 Z p0 p1 p2 p3 p4 p5 h0 n0 s) (s₁.setTop (mkF m 14 #[.val (.int p0), .val (.int p1), .val (.int p2), .val (.int p3), .val (.int p4), .val (.int p5), .val (.int z2), .val (.int z5), .unset, .unset, .unset, .unset, .unset, .unset, .unset] [(.int ((p1).toInt8.toInt32))]))
      refine Go.back (fun t k => XS.istore X0.here hx rfl (hb hby at_14) rfl (l' := #[.val (.int p0), .val (.int p1), .val (.int p2), .val (.int p3), .val (.int p4), .val (.int p5), .val (.int z2), .val (.int z5), .val (.int ((p1).toInt8.toInt32)), .unset, .unset, .unset, .unset, .unset, .unset]) rfl k) ?_
      show Go p.tables e below (P0 Z p0 p1 p2 p3 p4 p5 h0 n0 s) (s₁.setTop (mkF m 16 #[.val (.int p0), .val (.int p1), .val (.int p2), .val (.int p3), .val (.int p4), .val (.int p5), .val (.int z2), .val (.int z5), .val (.int ((p1).toInt8.toInt32)), .unset, .unset, .unset, .unset, .unset, .unset] []))
      have J7 : ∀ (z8 : Int32) (hz8 : z8 = ((p1).toInt8.toInt32)), Go p.tables e below (P0 Z p0 p1 p2 p3 p4 p5 h0 n0 s) (s₁.setTop (mkF m 16 #[.val (.int p0), .val (.int p1), .val (.int p2), .val (.int p3), .val (.int p4), .val (.int p5), .val (.int z2), .val (.int z5), .val (.int z8), .unset, .unset, .unset, .unset, .unset, .unset] [])) := by
        intro z8 hz8
        have r9 : f0 p0 p1 p2 p3 p4 p5 = (let z11 : Int32 := ((p2).toInt8.toInt32); (let z14 : Int32 := ((p3).toInt8.toInt32); (let z64 : List Int32 := [(nar .byte ((p4).toInt8.toInt32)), (nar .byte ((((p4 >>> ((8 : Int32) &&& 31)))).toInt8.toInt32)), (nar .byte ((((p4 >>> ((16 : Int32) &&& 31)))).toInt8.toInt32)), (nar .byte ((((p4 >>> ((24 : Int32) &&& 31)))).toInt8.toInt32)), (nar .byte ((p5).toInt8.toInt32)), (nar .byte ((((p5 >>> ((8 : Int32) &&& 31)))).toInt8.toInt32)), (nar .byte ((((p5 >>> ((16 : Int32) &&& 31)))).toInt8.toInt32))]; (let z71 : List Int32 := (if (0 : Int32) < z2 then (List.set z64 (z5).toNatClampNeg (nar .byte z8)) else z64); (let z80 : List Int32 := (if (1 : Int32) < z2 then (List.set z71 ((z5 + (1 : Int32))).toNatClampNeg (nar .byte z11)) else z71); (let z89 : List Int32 := (if (2 : Int32) < z2 then (List.set z80 ((z5 + (2 : Int32))).toNatClampNeg (nar .byte z14)) else z80); (let z95 : List Int32 := z89; (let z162 : Bool := (if (own_h [(nar .byte z8), (nar .byte z11), (nar .byte z14)] 3 (0 : Int32) 1) = (f5 (3 : Int32) z8 z11 z14) then (if (own_h z95 (z2).toNatClampNeg z5 1) = (f5 z2 z8 z11 z14) then true else false) else false); z162)))))))) := by subst hz8; exact r6
        show Go p.tables e below (P0 Z p0 p1 p2 p3 p4 p5 h0 n0 s) (s₁.setTop (mkF m 16 #[.val (.int p0), .val (.int p1), .val (.int p2), .val (.int p3), .val (.int p4), .val (.int p5), .val (.int z2), .val (.int z5), .val (.int z8), .unset, .unset, .unset, .unset, .unset, .unset] []))
        refine Go.back (fun t k => XS.iloadN X0.here hx rfl (hb hby at_16) rfl  k) ?_
        show Go p.tables e below (P0 Z p0 p1 p2 p3 p4 p5 h0 n0 s) (s₁.setTop (mkF m 17 #[.val (.int p0), .val (.int p1), .val (.int p2), .val (.int p3), .val (.int p4), .val (.int p5), .val (.int z2), .val (.int z5), .val (.int z8), .unset, .unset, .unset, .unset, .unset, .unset] [(.int p2)]))
        refine Go.back (fun t k => XS.i2b X0.here hx rfl (hb hby at_17) rfl k) ?_
        show Go p.tables e below (P0 Z p0 p1 p2 p3 p4 p5 h0 n0 s) (s₁.setTop (mkF m 18 #[.val (.int p0), .val (.int p1), .val (.int p2), .val (.int p3), .val (.int p4), .val (.int p5), .val (.int z2), .val (.int z5), .val (.int z8), .unset, .unset, .unset, .unset, .unset, .unset] [(.int ((p2).toInt8.toInt32))]))
        refine Go.back (fun t k => XS.istore X0.here hx rfl (hb hby at_18) rfl (l' := #[.val (.int p0), .val (.int p1), .val (.int p2), .val (.int p3), .val (.int p4), .val (.int p5), .val (.int z2), .val (.int z5), .val (.int z8), .val (.int ((p2).toInt8.toInt32)), .unset, .unset, .unset, .unset, .unset]) rfl k) ?_
        show Go p.tables e below (P0 Z p0 p1 p2 p3 p4 p5 h0 n0 s) (s₁.setTop (mkF m 20 #[.val (.int p0), .val (.int p1), .val (.int p2), .val (.int p3), .val (.int p4), .val (.int p5), .val (.int z2), .val (.int z5), .val (.int z8), .val (.int ((p2).toInt8.toInt32)), .unset, .unset, .unset, .unset, .unset] []))
        have J10 : ∀ (z11 : Int32) (hz11 : z11 = ((p2).toInt8.toInt32)), Go p.tables e below (P0 Z p0 p1 p2 p3 p4 p5 h0 n0 s) (s₁.setTop (mkF m 20 #[.val (.int p0), .val (.int p1), .val (.int p2), .val (.int p3), .val (.int p4), .val (.int p5), .val (.int z2), .val (.int z5), .val (.int z8), .val (.int z11), .unset, .unset, .unset, .unset, .unset] [])) := by
          intro z11 hz11
          have r12 : f0 p0 p1 p2 p3 p4 p5 = (let z14 : Int32 := ((p3).toInt8.toInt32); (let z64 : List Int32 := [(nar .byte ((p4).toInt8.toInt32)), (nar .byte ((((p4 >>> ((8 : Int32) &&& 31)))).toInt8.toInt32)), (nar .byte ((((p4 >>> ((16 : Int32) &&& 31)))).toInt8.toInt32)), (nar .byte ((((p4 >>> ((24 : Int32) &&& 31)))).toInt8.toInt32)), (nar .byte ((p5).toInt8.toInt32)), (nar .byte ((((p5 >>> ((8 : Int32) &&& 31)))).toInt8.toInt32)), (nar .byte ((((p5 >>> ((16 : Int32) &&& 31)))).toInt8.toInt32))]; (let z71 : List Int32 := (if (0 : Int32) < z2 then (List.set z64 (z5).toNatClampNeg (nar .byte z8)) else z64); (let z80 : List Int32 := (if (1 : Int32) < z2 then (List.set z71 ((z5 + (1 : Int32))).toNatClampNeg (nar .byte z11)) else z71); (let z89 : List Int32 := (if (2 : Int32) < z2 then (List.set z80 ((z5 + (2 : Int32))).toNatClampNeg (nar .byte z14)) else z80); (let z95 : List Int32 := z89; (let z162 : Bool := (if (own_h [(nar .byte z8), (nar .byte z11), (nar .byte z14)] 3 (0 : Int32) 1) = (f5 (3 : Int32) z8 z11 z14) then (if (own_h z95 (z2).toNatClampNeg z5 1) = (f5 z2 z8 z11 z14) then true else false) else false); z162))))))) := by subst hz11; exact r9
          show Go p.tables e below (P0 Z p0 p1 p2 p3 p4 p5 h0 n0 s) (s₁.setTop (mkF m 20 #[.val (.int p0), .val (.int p1), .val (.int p2), .val (.int p3), .val (.int p4), .val (.int p5), .val (.int z2), .val (.int z5), .val (.int z8), .val (.int z11), .unset, .unset, .unset, .unset, .unset] []))
          refine Go.back (fun t k => XS.iloadN X0.here hx rfl (hb hby at_20) rfl  k) ?_
          show Go p.tables e below (P0 Z p0 p1 p2 p3 p4 p5 h0 n0 s) (s₁.setTop (mkF m 21 #[.val (.int p0), .val (.int p1), .val (.int p2), .val (.int p3), .val (.int p4), .val (.int p5), .val (.int z2), .val (.int z5), .val (.int z8), .val (.int z11), .unset, .unset, .unset, .unset, .unset] [(.int p3)]))
          refine Go.back (fun t k => XS.i2b X0.here hx rfl (hb hby at_21) rfl k) ?_
          show Go p.tables e below (P0 Z p0 p1 p2 p3 p4 p5 h0 n0 s) (s₁.setTop (mkF m 22 #[.val (.int p0), .val (.int p1), .val (.int p2), .val (.int p3), .val (.int p4), .val (.int p5), .val (.int z2), .val (.int z5), .val (.int z8), .val (.int z11), .unset, .unset, .unset, .unset, .unset] [(.int ((p3).toInt8.toInt32))]))
          refine Go.back (fun t k => XS.istore X0.here hx rfl (hb hby at_22) rfl (l' := #[.val (.int p0), .val (.int p1), .val (.int p2), .val (.int p3), .val (.int p4), .val (.int p5), .val (.int z2), .val (.int z5), .val (.int z8), .val (.int z11), .val (.int ((p3).toInt8.toInt32)), .unset, .unset, .unset, .unset]) rfl k) ?_
          show Go p.tables e below (P0 Z p0 p1 p2 p3 p4 p5 h0 n0 s) (s₁.setTop (mkF m 24 #[.val (.int p0), .val (.int p1), .val (.int p2), .val (.int p3), .val (.int p4), .val (.int p5), .val (.int z2), .val (.int z5), .val (.int z8), .val (.int z11), .val (.int ((p3).toInt8.toInt32)), .unset, .unset, .unset, .unset] []))
          have J13 : ∀ (z14 : Int32) (hz14 : z14 = ((p3).toInt8.toInt32)), Go p.tables e below (P0 Z p0 p1 p2 p3 p4 p5 h0 n0 s) (s₁.setTop (mkF m 24 #[.val (.int p0), .val (.int p1), .val (.int p2), .val (.int p3), .val (.int p4), .val (.int p5), .val (.int z2), .val (.int z5), .val (.int z8), .val (.int z11), .val (.int z14), .unset, .unset, .unset, .unset] [])) := by
            intro z14 hz14
            have r15 : f0 p0 p1 p2 p3 p4 p5 = (let z64 : List Int32 := [(nar .byte ((p4).toInt8.toInt32)), (nar .byte ((((p4 >>> ((8 : Int32) &&& 31)))).toInt8.toInt32)), (nar .byte ((((p4 >>> ((16 : Int32) &&& 31)))).toInt8.toInt32)), (nar .byte ((((p4 >>> ((24 : Int32) &&& 31)))).toInt8.toInt32)), (nar .byte ((p5).toInt8.toInt32)), (nar .byte ((((p5 >>> ((8 : Int32) &&& 31)))).toInt8.toInt32)), (nar .byte ((((p5 >>> ((16 : Int32) &&& 31)))).toInt8.toInt32))]; (let z71 : List Int32 := (if (0 : Int32) < z2 then (List.set z64 (z5).toNatClampNeg (nar .byte z8)) else z64); (let z80 : List Int32 := (if (1 : Int32) < z2 then (List.set z71 ((z5 + (1 : Int32))).toNatClampNeg (nar .byte z11)) else z71); (let z89 : List Int32 := (if (2 : Int32) < z2 then (List.set z80 ((z5 + (2 : Int32))).toNatClampNeg (nar .byte z14)) else z80); (let z95 : List Int32 := z89; (let z162 : Bool := (if (own_h [(nar .byte z8), (nar .byte z11), (nar .byte z14)] 3 (0 : Int32) 1) = (f5 (3 : Int32) z8 z11 z14) then (if (own_h z95 (z2).toNatClampNeg z5 1) = (f5 z2 z8 z11 z14) then true else false) else false); z162)))))) := by subst hz14; exact r12
            show Go p.tables e below (P0 Z p0 p1 p2 p3 p4 p5 h0 n0 s) (s₁.setTop (mkF m 24 #[.val (.int p0), .val (.int p1), .val (.int p2), .val (.int p3), .val (.int p4), .val (.int p5), .val (.int z2), .val (.int z5), .val (.int z8), .val (.int z11), .val (.int z14), .unset, .unset, .unset, .unset] []))
            refine Go.back (fun t k => XS.iconst X0.here hx rfl (hb hby at_24) k) ?_
            show Go p.tables e below (P0 Z p0 p1 p2 p3 p4 p5 h0 n0 s) (s₁.setTop (mkF m 25 #[.val (.int p0), .val (.int p1), .val (.int p2), .val (.int p3), .val (.int p4), .val (.int p5), .val (.int z2), .val (.int z5), .val (.int z8), .val (.int z11), .val (.int z14), .unset, .unset, .unset, .unset] [(.int (3 : Int32))]))
            obtain ⟨T16, h16, k16, X16, e16, E16, A16, st16⟩ := newP X0 hx hZ (hw _ (List.mem_of_getElem? (i := 0) rfl)) e0 (g := (mkF m 25 #[.val (.int p0), .val (.int p1), .val (.int p2), .val (.int p3), .val (.int p4), .val (.int p5), .val (.int z2), .val (.int z5), .val (.int z8), .val (.int z11), .val (.int z14), .unset, .unset, .unset, .unset] [(.int (3 : Int32))])) rfl (hb hby at_25) rfl (by decide) (cap := 3) (by decide) (by decide) (by decide) (by decide)
            obtain ⟨b16, g16⟩ : ∃ z, z = h0.size := ⟨_, rfl⟩
            rw [← g16] at A16 st16
            have g17 : n0 ≤ b16 := Nat.le_trans Z0 (Nat.le_of_eq g16.symm)
            have F18 : n0 ≤ h16.size := Nat.le_trans Z0 E16.1
            have F19 : ArL Z h16 b16 .byte [(.int (0 : Int32)), (.int (0 : Int32)), (.int (0 : Int32))] := ArL.new (ty := .byte) A16 (n := 3) rfl
            refine Go.back st16 ?_
            show Go p.tables e below (P0 Z p0 p1 p2 p3 p4 p5 h0 n0 s) (T16.setTop (mkF m 27 #[.val (.int p0), .val (.int p1), .val (.int p2), .val (.int p3), .val (.int p4), .val (.int p5), .val (.int z2), .val (.int z5), .val (.int z8), .val (.int z11), .val (.int z14), .unset, .unset, .unset, .unset] [(.ref b16)]))
            refine Go.back (fun t k => XS.dup X16.here hx rfl (hb hby at_27) rfl rfl k) ?_
            show Go p.tables e below (P0 Z p0 p1 p2 p3 p4 p5 h0 n0 s) (T16.setTop (mkF m 28 #[.val (.int p0), .val (.int p1), .val (.int p2), .val (.int p3), .val (.int p4), .val (.int p5), .val (.int z2), .val (.int z5), .val (.int z8), .val (.int z11), .val (.int z14), .unset, .unset, .unset, .unset] [(.ref b16), (.ref b16)]))
            refine Go.back (fun t k => XS.iconst X16.here hx rfl (hb hby at_28) k) ?_
            show Go p.tables e below (P0 Z p0 p1 p2 p3 p4 p5 h0 n0 s) (T16.setTop (mkF m 29 #[.val (.int p0), .val (.int p1), .val (.int p2), .val (.int p3), .val (.int p4), .val (.int p5), .val (.int z2), .val (.int z5), .val (.int z8), .val (.int z11), .val (.int z14), .unset, .unset, .unset, .unset] [(.int (0 : Int32)), (.ref b16), (.ref b16)]))
            refine Go.back (fun t k => XS.iload X16.here hx rfl (hb hby at_29) rfl  k) ?_
            show Go p.tables e below (P0 Z p0 p1 p2 p3 p4 p5 h0 n0 s) (T16.setTop (mkF m 31 #[.val (.int p0), .val (.int p1), .val (.int p2), .val (.int p3), .val (.int p4), .val (.int p5), .val (.int z2), .val (.int z5), .val (.int z8), .val (.int z11), .val (.int z14), .unset, .unset, .unset, .unset] [(.int z8), (.int (0 : Int32)), (.ref b16), (.ref b16)]))
            obtain ⟨cl20, Ar20, hi20, -⟩ := F19.at (j := (0 : Int32)) (by decide) (Nat.le_of_ble_eq_true rfl)
            obtain ⟨T20, h20, X20, e20, W20, st20⟩ := stB X16 hx hZ e16 Ar20 (j := (0 : Int32)) hi20 (g := (mkF m 31 #[.val (.int p0), .val (.int p1), .val (.int p2), .val (.int p3), .val (.int p4), .val (.int p5), .val (.int z2), .val (.int z5), .val (.int z8), .val (.int z11), .val (.int z14), .unset, .unset, .unset, .unset] [(.int z8), (.int (0 : Int32)), (.ref b16), (.ref b16)])) rfl rfl (hb hby at_31)
            have F21 : n0 ≤ h20.size := Nat.le_trans F18 (Keep.of_wr W20).1
            have F22 : ArL Z h20 b16 .byte [(.int (nar .byte z8)), (.int (0 : Int32)), (.int (0 : Int32))] := F19.set W20
            have N20 := Fr.snoc X20 N0 g17
            refine Go.back st20 ?_
            show Go p.tables e below (P0 Z p0 p1 p2 p3 p4 p5 h0 n0 s) (T20.setTop (mkF m 32 #[.val (.int p0), .val (.int p1), .val (.int p2), .val (.int p3), .val (.int p4), .val (.int p5), .val (.int z2), .val (.int z5), .val (.int z8), .val (.int z11), .val (.int z14), .unset, .unset, .unset, .unset] [(.ref b16)]))
            refine Go.back (fun t k => XS.dup X20.here hx rfl (hb hby at_32) rfl rfl k) ?_
            show Go p.tables e below (P0 Z p0 p1 p2 p3 p4 p5 h0 n0 s) (T20.setTop (mkF m 33 #[.val (.int p0), .val (.int p1), .val (.int p2), .val (.int p3), .val (.int p4), .val (.int p5), .val (.int z2), .val (.int z5), .val (.int z8), .val (.int z11), .val (.int z14), .unset, .unset, .unset, .unset] [(.ref b16), (.ref b16)]))
            refine Go.back (fun t k => XS.iconst X20.here hx rfl (hb hby at_33) k) ?_
            show Go p.tables e below (P0 Z p0 p1 p2 p3 p4 p5 h0 n0 s) (T20.setTop (mkF m 34 #[.val (.int p0), .val (.int p1), .val (.int p2), .val (.int p3), .val (.int p4), .val (.int p5), .val (.int z2), .val (.int z5), .val (.int z8), .val (.int z11), .val (.int z14), .unset, .unset, .unset, .unset] [(.int (1 : Int32)), (.ref b16), (.ref b16)]))
            refine Go.back (fun t k => XS.iload X20.here hx rfl (hb hby at_34) rfl  k) ?_
            show Go p.tables e below (P0 Z p0 p1 p2 p3 p4 p5 h0 n0 s) (T20.setTop (mkF m 36 #[.val (.int p0), .val (.int p1), .val (.int p2), .val (.int p3), .val (.int p4), .val (.int p5), .val (.int z2), .val (.int z5), .val (.int z8), .val (.int z11), .val (.int z14), .unset, .unset, .unset, .unset] [(.int z11), (.int (1 : Int32)), (.ref b16), (.ref b16)]))
            obtain ⟨cl23, Ar23, hi23, -⟩ := F22.at (j := (1 : Int32)) (by decide) (Nat.le_of_ble_eq_true rfl)
            obtain ⟨T23, h23, X23, e23, W23, st23⟩ := stB X20 hx hZ e20 Ar23 (j := (1 : Int32)) hi23 (g := (mkF m 36 #[.val (.int p0), .val (.int p1), .val (.int p2), .val (.int p3), .val (.int p4), .val (.int p5), .val (.int z2), .val (.int z5), .val (.int z8), .val (.int z11), .val (.int z14), .unset, .unset, .unset, .unset] [(.int z11), (.int (1 : Int32)), (.ref b16), (.ref b16)])) rfl rfl (hb hby at_36)
            have F24 : n0 ≤ h23.size := Nat.le_trans F21 (Keep.of_wr W23).1
            have F25 : ArL Z h23 b16 .byte [(.int (nar .byte z8)), (.int (nar .byte z11)), (.int (0 : Int32))] := F22.set W23
            have N23 := Fr.snoc X23 N20 g17
            refine Go.back st23 ?_
            show Go p.tables e below (P0 Z p0 p1 p2 p3 p4 p5 h0 n0 s) (T23.setTop (mkF m 37 #[.val (.int p0), .val (.int p1), .val (.int p2), .val (.int p3), .val (.int p4), .val (.int p5), .val (.int z2), .val (.int z5), .val (.int z8), .val (.int z11), .val (.int z14), .unset, .unset, .unset, .unset] [(.ref b16)]))
            refine Go.back (fun t k => XS.dup X23.here hx rfl (hb hby at_37) rfl rfl k) ?_
            show Go p.tables e below (P0 Z p0 p1 p2 p3 p4 p5 h0 n0 s) (T23.setTop (mkF m 38 #[.val (.int p0), .val (.int p1), .val (.int p2), .val (.int p3), .val (.int p4), .val (.int p5), .val (.int z2), .val (.int z5), .val (.int z8), .val (.int z11), .val (.int z14), .unset, .unset, .unset, .unset] [(.ref b16), (.ref b16)]))
            refine Go.back (fun t k => XS.iconst X23.here hx rfl (hb hby at_38) k) ?_
            show Go p.tables e below (P0 Z p0 p1 p2 p3 p4 p5 h0 n0 s) (T23.setTop (mkF m 39 #[.val (.int p0), .val (.int p1), .val (.int p2), .val (.int p3), .val (.int p4), .val (.int p5), .val (.int z2), .val (.int z5), .val (.int z8), .val (.int z11), .val (.int z14), .unset, .unset, .unset, .unset] [(.int (2 : Int32)), (.ref b16), (.ref b16)]))
            refine Go.back (fun t k => XS.iload X23.here hx rfl (hb hby at_39) rfl  k) ?_
            show Go p.tables e below (P0 Z p0 p1 p2 p3 p4 p5 h0 n0 s) (T23.setTop (mkF m 41 #[.val (.int p0), .val (.int p1), .val (.int p2), .val (.int p3), .val (.int p4), .val (.int p5), .val (.int z2), .val (.int z5), .val (.int z8), .val (.int z11), .val (.int z14), .unset, .unset, .unset, .unset] [(.int z14), (.int (2 : Int32)), (.ref b16), (.ref b16)]))
            obtain ⟨cl26, Ar26, hi26, -⟩ := F25.at (j := (2 : Int32)) (by decide) (Nat.le_of_ble_eq_true rfl)
            obtain ⟨T26, h26, X26, e26, W26, st26⟩ := stB X23 hx hZ e23 Ar26 (j := (2 : Int32)) hi26 (g := (mkF m 41 #[.val (.int p0), .val (.int p1), .val (.int p2), .val (.int p3), .val (.int p4), .val (.int p5), .val (.int z2), .val (.int z5), .val (.int z8), .val (.int z11), .val (.int z14), .unset, .unset, .unset, .unset] [(.int z14), (.int (2 : Int32)), (.ref b16), (.ref b16)])) rfl rfl (hb hby at_41)
            have F27 : n0 ≤ h26.size := Nat.le_trans F24 (Keep.of_wr W26).1
            have F28 : ArL Z h26 b16 .byte [(.int (nar .byte z8)), (.int (nar .byte z11)), (.int (nar .byte z14))] := F25.set W26
            have N26 := Fr.snoc X26 N23 g17
            refine Go.back st26 ?_
            show Go p.tables e below (P0 Z p0 p1 p2 p3 p4 p5 h0 n0 s) (T26.setTop (mkF m 42 #[.val (.int p0), .val (.int p1), .val (.int p2), .val (.int p3), .val (.int p4), .val (.int p5), .val (.int z2), .val (.int z5), .val (.int z8), .val (.int z11), .val (.int z14), .unset, .unset, .unset, .unset] [(.ref b16)]))
            refine Go.back (fun t k => XS.astore X26.here hx rfl (hb hby at_42) rfl rfl (l' := #[.val (.int p0), .val (.int p1), .val (.int p2), .val (.int p3), .val (.int p4), .val (.int p5), .val (.int z2), .val (.int z5), .val (.int z8), .val (.int z11), .val (.int z14), .val (.ref b16), .unset, .unset, .unset]) rfl k) ?_
            show Go p.tables e below (P0 Z p0 p1 p2 p3 p4 p5 h0 n0 s) (T26.setTop (mkF m 44 #[.val (.int p0), .val (.int p1), .val (.int p2), .val (.int p3), .val (.int p4), .val (.int p5), .val (.int z2), .val (.int z5), .val (.int z8), .val (.int z11), .val (.int z14), .val (.ref b16), .unset, .unset, .unset] []))
            refine Go.back (fun t k => XS.bipush X26.here hx rfl (hb hby at_44) k) ?_
            show Go p.tables e below (P0 Z p0 p1 p2 p3 p4 p5 h0 n0 s) (T26.setTop (mkF m 46 #[.val (.int p0), .val (.int p1), .val (.int p2), .val (.int p3), .val (.int p4), .val (.int p5), .val (.int z2), .val (.int z5), .val (.int z8), .val (.int z11), .val (.int z14), .val (.ref b16), .unset, .unset, .unset] [(.int (7 : Int32))]))
            obtain ⟨T29, h29, k29, X29, e29, E29, A29, st29⟩ := newP X26 hx hZ (hw _ (List.mem_of_getElem? (i := 0) rfl)) e26 (g := (mkF m 46 #[.val (.int p0), .val (.int p1), .val (.int p2), .val (.int p3), .val (.int p4), .val (.int p5), .val (.int z2), .val (.int z5), .val (.int z8), .val (.int z11), .val (.int z14), .val (.ref b16), .unset, .unset, .unset] [(.int (7 : Int32))])) rfl (hb hby at_46) rfl (by decide) (cap := 7) (by decide) (by decide) (by decide) (by decide)
            obtain ⟨b29, g29⟩ : ∃ z, z = h26.size := ⟨_, rfl⟩
            rw [← g29] at A29 st29
            have ne30 : b16 ≠ b29 := Nat.ne_of_lt (Nat.lt_of_lt_of_le F28.lt (Nat.le_of_eq g29.symm))
            have g31 : n0 ≤ b29 := Nat.le_trans F27 (Nat.le_of_eq g29.symm)
            have F32 : n0 ≤ h29.size := Nat.le_trans F27 E29.1
            have F33 : ArL Z h29 b16 .byte [(.int (nar .byte z8)), (.int (nar .byte z11)), (.int (nar .byte z14))] := F28.ext E29
            have F34 : ArL Z h29 b29 .byte [(.int (0 : Int32)), (.int (0 : Int32)), (.int (0 : Int32)), (.int (0 : Int32)), (.int (0 : Int32)), (.int (0 : Int32)), (.int (0 : Int32))] := ArL.new (ty := .byte) A29 (n := 7) rfl
            refine Go.back st29 ?_
            show Go p.tables e below (P0 Z p0 p1 p2 p3 p4 p5 h0 n0 s) (T29.setTop (mkF m 48 #[.val (.int p0), .val (.int p1), .val (.int p2), .val (.int p3), .val (.int p4), .val (.int p5), .val (.int z2), .val (.int z5), .val (.int z8), .val (.int z11), .val (.int z14), .val (.ref b16), .unset, .unset, .unset] [(.ref b29)]))
            refine Go.back (fun t k => XS.astore X29.here hx rfl (hb hby at_48) rfl rfl (l' := #[.val (.int p0), .val (.int p1), .val (.int p2), .val (.int p3), .val (.int p4), .val (.int p5), .val (.int z2), .val (.int z5), .val (.int z8), .val (.int z11), .val (.int z14), .val (.ref b16), .val (.ref b29), .unset, .unset]) rfl k) ?_
            show Go p.tables e below (P0 Z p0 p1 p2 p3 p4 p5 h0 n0 s) (T29.setTop (mkF m 50 #[.val (.int p0), .val (.int p1), .val (.int p2), .val (.int p3), .val (.int p4), .val (.int p5), .val (.int z2), .val (.int z5), .val (.int z8), .val (.int z11), .val (.int z14), .val (.ref b16), .val (.ref b29), .unset, .unset] []))
            refine Go.back (fun t k => XS.aload X29.here hx rfl (hb hby at_50) rfl rfl  k) ?_
            show Go p.tables e below (P0 Z p0 p1 p2 p3 p4 p5 h0 n0 s) (T29.setTop (mkF m 52 #[.val (.int p0), .val (.int p1), .val (.int p2), .val (.int p3), .val (.int p4), .val (.int p5), .val (.int z2), .val (.int z5), .val (.int z8), .val (.int z11), .val (.int z14), .val (.ref b16), .val (.ref b29), .unset, .unset] [(.ref b29)]))
            refine Go.back (fun t k => XS.iconst X29.here hx rfl (hb hby at_52) k) ?_
            show Go p.tables e below (P0 Z p0 p1 p2 p3 p4 p5 h0 n0 s) (T29.setTop (mkF m 53 #[.val (.int p0), .val (.int p1), .val (.int p2), .val (.int p3), .val (.int p4), .val (.int p5), .val (.int z2), .val (.int z5), .val (.int z8), .val (.int z11), .val (.int z14), .val (.ref b16), .val (.ref b29), .unset, .unset] [(.int (0 : Int32)), (.ref b29)]))
            refine Go.back (fun t k => XS.iload X29.here hx rfl (hb hby at_53) rfl  k) ?_
            show Go p.tables e below (P0 Z p0 p1 p2 p3 p4 p5 h0 n0 s) (T29.setTop (mkF m 55 #[.val (.int p0), .val (.int p1), .val (.int p2), .val (.int p3), .val (.int p4), .val (.int p5), .val (.int z2), .val (.int z5), .val (.int z8), .val (.int z11), .val (.int z14), .val (.ref b16), .val (.ref b29), .unset, .unset] [(.int p4), (.int (0 : Int32)), (.ref b29)]))
            refine Go.back (fun t k => XS.i2b X29.here hx rfl (hb hby at_55) rfl k) ?_
            show Go p.tables e below (P0 Z p0 p1 p2 p3 p4 p5 h0 n0 s) (T29.setTop (mkF m 56 #[.val (.int p0), .val (.int p1), .val (.int p2), .val (.int p3), .val (.int p4), .val (.int p5), .val (.int z2), .val (.int z5), .val (.int z8), .val (.int z11), .val (.int z14), .val (.ref b16), .val (.ref b29), .unset, .unset] [(.int ((p4).toInt8.toInt32)), (.int (0 : Int32)), (.ref b29)]))
            obtain ⟨cl35, Ar35, hi35, -⟩ := F34.at (j := (0 : Int32)) (by decide) (Nat.le_of_ble_eq_true rfl)
            obtain ⟨T35, h35, X35, e35, W35, st35⟩ := stB X29 hx hZ e29 Ar35 (j := (0 : Int32)) hi35 (g := (mkF m 56 #[.val (.int p0), .val (.int p1), .val (.int p2), .val (.int p3), .val (.int p4), .val (.int p5), .val (.int z2), .val (.int z5), .val (.int z8), .val (.int z11), .val (.int z14), .val (.ref b16), .val (.ref b29), .unset, .unset] [(.int ((p4).toInt8.toInt32)), (.int (0 : Int32)), (.ref b29)])) rfl rfl (hb hby at_56)
            have F36 : n0 ≤ h35.size := Nat.le_trans F32 (Keep.of_wr W35).1
            have F37 : ArL Z h35 b16 .byte [(.int (nar .byte z8)), (.int (nar .byte z11)), (.int (nar .byte z14))] := F33.other W35 ne30
            have F38 : ArL Z h35 b29 .byte [(.int (nar .byte ((p4).toInt8.toInt32))), (.int (0 : Int32)), (.int (0 : Int32)), (.int (0 : Int32)), (.int (0 : Int32)), (.int (0 : Int32)), (.int (0 : Int32))] := F34.set W35
            have N35 := Fr.snoc X35 N26 g31
            refine Go.back st35 ?_
            show Go p.tables e below (P0 Z p0 p1 p2 p3 p4 p5 h0 n0 s) (T35.setTop (mkF m 57 #[.val (.int p0), .val (.int p1), .val (.int p2), .val (.int p3), .val (.int p4), .val (.int p5), .val (.int z2), .val (.int z5), .val (.int z8), .val (.int z11), .val (.int z14), .val (.ref b16), .val (.ref b29), .unset, .unset] []))
            refine Go.back (fun t k => XS.aload X35.here hx rfl (hb hby at_57) rfl rfl  k) ?_
            show Go p.tables e below (P0 Z p0 p1 p2 p3 p4 p5 h0 n0 s) (T35.setTop (mkF m 59 #[.val (.int p0), .val (.int p1), .val (.int p2), .val (.int p3), .val (.int p4), .val (.int p5), .val (.int z2), .val (.int z5), .val (.int z8), .val (.int z11), .val (.int z14), .val (.ref b16), .val (.ref b29), .unset, .unset] [(.ref b29)]))
            refine Go.back (fun t k => XS.iconst X35.here hx rfl (hb hby at_59) k) ?_
            show Go p.tables e below (P0 Z p0 p1 p2 p3 p4 p5 h0 n0 s) (T35.setTop (mkF m 60 #[.val (.int p0), .val (.int p1), .val (.int p2), .val (.int p3), .val (.int p4), .val (.int p5), .val (.int z2), .val (.int z5), .val (.int z8), .val (.int z11), .val (.int z14), .val (.ref b16), .val (.ref b29), .unset, .unset] [(.int (1 : Int32)), (.ref b29)]))
            refine Go.back (fun t k => XS.iload X35.here hx rfl (hb hby at_60) rfl  k) ?_
            show Go p.tables e below (P0 Z p0 p1 p2 p3 p4 p5 h0 n0 s) (T35.setTop (mkF m 62 #[.val (.int p0), .val (.int p1), .val (.int p2), .val (.int p3), .val (.int p4), .val (.int p5), .val (.int z2), .val (.int z5), .val (.int z8), .val (.int z11), .val (.int z14), .val (.ref b16), .val (.ref b29), .unset, .unset] [(.int p4), (.int (1 : Int32)), (.ref b29)]))
            refine Go.back (fun t k => XS.bipush X35.here hx rfl (hb hby at_62) k) ?_
            show Go p.tables e below (P0 Z p0 p1 p2 p3 p4 p5 h0 n0 s) (T35.setTop (mkF m 64 #[.val (.int p0), .val (.int p1), .val (.int p2), .val (.int p3), .val (.int p4), .val (.int p5), .val (.int z2), .val (.int z5), .val (.int z8), .val (.int z11), .val (.int z14), .val (.ref b16), .val (.ref b29), .unset, .unset] [(.int (8 : Int32)), (.int p4), (.int (1 : Int32)), (.ref b29)]))
            refine Go.back (fun t k => XS.ishr X35.here hx rfl (hb hby at_64) rfl k) ?_
            show Go p.tables e below (P0 Z p0 p1 p2 p3 p4 p5 h0 n0 s) (T35.setTop (mkF m 65 #[.val (.int p0), .val (.int p1), .val (.int p2), .val (.int p3), .val (.int p4), .val (.int p5), .val (.int z2), .val (.int z5), .val (.int z8), .val (.int z11), .val (.int z14), .val (.ref b16), .val (.ref b29), .unset, .unset] [(.int ((p4 >>> ((8 : Int32) &&& 31)))), (.int (1 : Int32)), (.ref b29)]))
            refine Go.back (fun t k => XS.i2b X35.here hx rfl (hb hby at_65) rfl k) ?_
            show Go p.tables e below (P0 Z p0 p1 p2 p3 p4 p5 h0 n0 s) (T35.setTop (mkF m 66 #[.val (.int p0), .val (.int p1), .val (.int p2), .val (.int p3), .val (.int p4), .val (.int p5), .val (.int z2), .val (.int z5), .val (.int z8), .val (.int z11), .val (.int z14), .val (.ref b16), .val (.ref b29), .unset, .unset] [(.int ((((p4 >>> ((8 : Int32) &&& 31)))).toInt8.toInt32)), (.int (1 : Int32)), (.ref b29)]))
            obtain ⟨cl39, Ar39, hi39, -⟩ := F38.at (j := (1 : Int32)) (by decide) (Nat.le_of_ble_eq_true rfl)
            obtain ⟨T39, h39, X39, e39, W39, st39⟩ := stB X35 hx hZ e35 Ar39 (j := (1 : Int32)) hi39 (g := (mkF m 66 #[.val (.int p0), .val (.int p1), .val (.int p2), .val (.int p3), .val (.int p4), .val (.int p5), .val (.int z2), .val (.int z5), .val (.int z8), .val (.int z11), .val (.int z14), .val (.ref b16), .val (.ref b29), .unset, .unset] [(.int ((((p4 >>> ((8 : Int32) &&& 31)))).toInt8.toInt32)), (.int (1 : Int32)), (.ref b29)])) rfl rfl (hb hby at_66)
            have F40 : n0 ≤ h39.size := Nat.le_trans F36 (Keep.of_wr W39).1
            have F41 : ArL Z h39 b16 .byte [(.int (nar .byte z8)), (.int (nar .byte z11)), (.int (nar .byte z14))] := F37.other W39 ne30
            have F42 : ArL Z h39 b29 .byte [(.int (nar .byte ((p4).toInt8.toInt32))), (.int (nar .byte ((((p4 >>> ((8 : Int32) &&& 31)))).toInt8.toInt32))), (.int (0 : Int32)), (.int (0 : Int32)), (.int (0 : Int32)), (.int (0 : Int32)), (.int (0 : Int32))] := F38.set W39
            have N39 := Fr.snoc X39 N35 g31
            refine Go.back st39 ?_
            show Go p.tables e below (P0 Z p0 p1 p2 p3 p4 p5 h0 n0 s) (T39.setTop (mkF m 67 #[.val (.int p0), .val (.int p1), .val (.int p2), .val (.int p3), .val (.int p4), .val (.int p5), .val (.int z2), .val (.int z5), .val (.int z8), .val (.int z11), .val (.int z14), .val (.ref b16), .val (.ref b29), .unset, .unset] []))
            refine Go.back (fun t k => XS.aload X39.here hx rfl (hb hby at_67) rfl rfl  k) ?_
            show Go p.tables e below (P0 Z p0 p1 p2 p3 p4 p5 h0 n0 s) (T39.setTop (mkF m 69 #[.val (.int p0), .val (.int p1), .val (.int p2), .val (.int p3), .val (.int p4), .val (.int p5), .val (.int z2), .val (.int z5), .val (.int z8), .val (.int z11), .val (.int z14), .val (.ref b16), .val (.ref b29), .unset, .unset] [(.ref b29)]))
            refine Go.back (fun t k => XS.iconst X39.here hx rfl (hb hby at_69) k) ?_
            show Go p.tables e below (P0 Z p0 p1 p2 p3 p4 p5 h0 n0 s) (T39.setTop (mkF m 70 #[.val (.int p0), .val (.int p1), .val (.int p2), .val (.int p3), .val (.int p4), .val (.int p5), .val (.int z2), .val (.int z5), .val (.int z8), .val (.int z11), .val (.int z14), .val (.ref b16), .val (.ref b29), .unset, .unset] [(.int (2 : Int32)), (.ref b29)]))
            refine Go.back (fun t k => XS.iload X39.here hx rfl (hb hby at_70) rfl  k) ?_
            show Go p.tables e below (P0 Z p0 p1 p2 p3 p4 p5 h0 n0 s) (T39.setTop (mkF m 72 #[.val (.int p0), .val (.int p1), .val (.int p2), .val (.int p3), .val (.int p4), .val (.int p5), .val (.int z2), .val (.int z5), .val (.int z8), .val (.int z11), .val (.int z14), .val (.ref b16), .val (.ref b29), .unset, .unset] [(.int p4), (.int (2 : Int32)), (.ref b29)]))
            refine Go.back (fun t k => XS.bipush X39.here hx rfl (hb hby at_72) k) ?_
            show Go p.tables e below (P0 Z p0 p1 p2 p3 p4 p5 h0 n0 s) (T39.setTop (mkF m 74 #[.val (.int p0), .val (.int p1), .val (.int p2), .val (.int p3), .val (.int p4), .val (.int p5), .val (.int z2), .val (.int z5), .val (.int z8), .val (.int z11), .val (.int z14), .val (.ref b16), .val (.ref b29), .unset, .unset] [(.int (16 : Int32)), (.int p4), (.int (2 : Int32)), (.ref b29)]))
            refine Go.back (fun t k => XS.ishr X39.here hx rfl (hb hby at_74) rfl k) ?_
            show Go p.tables e below (P0 Z p0 p1 p2 p3 p4 p5 h0 n0 s) (T39.setTop (mkF m 75 #[.val (.int p0), .val (.int p1), .val (.int p2), .val (.int p3), .val (.int p4), .val (.int p5), .val (.int z2), .val (.int z5), .val (.int z8), .val (.int z11), .val (.int z14), .val (.ref b16), .val (.ref b29), .unset, .unset] [(.int ((p4 >>> ((16 : Int32) &&& 31)))), (.int (2 : Int32)), (.ref b29)]))
            refine Go.back (fun t k => XS.i2b X39.here hx rfl (hb hby at_75) rfl k) ?_
            show Go p.tables e below (P0 Z p0 p1 p2 p3 p4 p5 h0 n0 s) (T39.setTop (mkF m 76 #[.val (.int p0), .val (.int p1), .val (.int p2), .val (.int p3), .val (.int p4), .val (.int p5), .val (.int z2), .val (.int z5), .val (.int z8), .val (.int z11), .val (.int z14), .val (.ref b16), .val (.ref b29), .unset, .unset] [(.int ((((p4 >>> ((16 : Int32) &&& 31)))).toInt8.toInt32)), (.int (2 : Int32)), (.ref b29)]))
            obtain ⟨cl43, Ar43, hi43, -⟩ := F42.at (j := (2 : Int32)) (by decide) (Nat.le_of_ble_eq_true rfl)
            obtain ⟨T43, h43, X43, e43, W43, st43⟩ := stB X39 hx hZ e39 Ar43 (j := (2 : Int32)) hi43 (g := (mkF m 76 #[.val (.int p0), .val (.int p1), .val (.int p2), .val (.int p3), .val (.int p4), .val (.int p5), .val (.int z2), .val (.int z5), .val (.int z8), .val (.int z11), .val (.int z14), .val (.ref b16), .val (.ref b29), .unset, .unset] [(.int ((((p4 >>> ((16 : Int32) &&& 31)))).toInt8.toInt32)), (.int (2 : Int32)), (.ref b29)])) rfl rfl (hb hby at_76)
            have F44 : n0 ≤ h43.size := Nat.le_trans F40 (Keep.of_wr W43).1
            have F45 : ArL Z h43 b16 .byte [(.int (nar .byte z8)), (.int (nar .byte z11)), (.int (nar .byte z14))] := F41.other W43 ne30
            have F46 : ArL Z h43 b29 .byte [(.int (nar .byte ((p4).toInt8.toInt32))), (.int (nar .byte ((((p4 >>> ((8 : Int32) &&& 31)))).toInt8.toInt32))), (.int (nar .byte ((((p4 >>> ((16 : Int32) &&& 31)))).toInt8.toInt32))), (.int (0 : Int32)), (.int (0 : Int32)), (.int (0 : Int32)), (.int (0 : Int32))] := F42.set W43
            have N43 := Fr.snoc X43 N39 g31
            refine Go.back st43 ?_
            show Go p.tables e below (P0 Z p0 p1 p2 p3 p4 p5 h0 n0 s) (T43.setTop (mkF m 77 #[.val (.int p0), .val (.int p1), .val (.int p2), .val (.int p3), .val (.int p4), .val (.int p5), .val (.int z2), .val (.int z5), .val (.int z8), .val (.int z11), .val (.int z14), .val (.ref b16), .val (.ref b29), .unset, .unset] []))
            refine Go.back (fun t k => XS.aload X43.here hx rfl (hb hby at_77) rfl rfl  k) ?_
            show Go p.tables e below (P0 Z p0 p1 p2 p3 p4 p5 h0 n0 s) (T43.setTop (mkF m 79 #[.val (.int p0), .val (.int p1), .val (.int p2), .val (.int p3), .val (.int p4), .val (.int p5), .val (.int z2), .val (.int z5), .val (.int z8), .val (.int z11), .val (.int z14), .val (.ref b16), .val (.ref b29), .unset, .unset] [(.ref b29)]))
            refine Go.back (fun t k => XS.iconst X43.here hx rfl (hb hby at_79) k) ?_
            show Go p.tables e below (P0 Z p0 p1 p2 p3 p4 p5 h0 n0 s) (T43.setTop (mkF m 80 #[.val (.int p0), .val (.int p1), .val (.int p2), .val (.int p3), .val (.int p4), .val (.int p5), .val (.int z2), .val (.int z5), .val (.int z8), .val (.int z11), .val (.int z14), .val (.ref b16), .val (.ref b29), .unset, .unset] [(.int (3 : Int32)), (.ref b29)]))
            refine Go.back (fun t k => XS.iload X43.here hx rfl (hb hby at_80) rfl  k) ?_
            show Go p.tables e below (P0 Z p0 p1 p2 p3 p4 p5 h0 n0 s) (T43.setTop (mkF m 82 #[.val (.int p0), .val (.int p1), .val (.int p2), .val (.int p3), .val (.int p4), .val (.int p5), .val (.int z2), .val (.int z5), .val (.int z8), .val (.int z11), .val (.int z14), .val (.ref b16), .val (.ref b29), .unset, .unset] [(.int p4), (.int (3 : Int32)), (.ref b29)]))
            refine Go.back (fun t k => XS.bipush X43.here hx rfl (hb hby at_82) k) ?_
            show Go p.tables e below (P0 Z p0 p1 p2 p3 p4 p5 h0 n0 s) (T43.setTop (mkF m 84 #[.val (.int p0), .val (.int p1), .val (.int p2), .val (.int p3), .val (.int p4), .val (.int p5), .val (.int z2), .val (.int z5), .val (.int z8), .val (.int z11), .val (.int z14), .val (.ref b16), .val (.ref b29), .unset, .unset] [(.int (24 : Int32)), (.int p4), (.int (3 : Int32)), (.ref b29)]))
            refine Go.back (fun t k => XS.ishr X43.here hx rfl (hb hby at_84) rfl k) ?_
            show Go p.tables e below (P0 Z p0 p1 p2 p3 p4 p5 h0 n0 s) (T43.setTop (mkF m 85 #[.val (.int p0), .val (.int p1), .val (.int p2), .val (.int p3), .val (.int p4), .val (.int p5), .val (.int z2), .val (.int z5), .val (.int z8), .val (.int z11), .val (.int z14), .val (.ref b16), .val (.ref b29), .unset, .unset] [(.int ((p4 >>> ((24 : Int32) &&& 31)))), (.int (3 : Int32)), (.ref b29)]))
            refine Go.back (fun t k => XS.i2b X43.here hx rfl (hb hby at_85) rfl k) ?_
            show Go p.tables e below (P0 Z p0 p1 p2 p3 p4 p5 h0 n0 s) (T43.setTop (mkF m 86 #[.val (.int p0), .val (.int p1), .val (.int p2), .val (.int p3), .val (.int p4), .val (.int p5), .val (.int z2), .val (.int z5), .val (.int z8), .val (.int z11), .val (.int z14), .val (.ref b16), .val (.ref b29), .unset, .unset] [(.int ((((p4 >>> ((24 : Int32) &&& 31)))).toInt8.toInt32)), (.int (3 : Int32)), (.ref b29)]))
            obtain ⟨cl47, Ar47, hi47, -⟩ := F46.at (j := (3 : Int32)) (by decide) (Nat.le_of_ble_eq_true rfl)
            obtain ⟨T47, h47, X47, e47, W47, st47⟩ := stB X43 hx hZ e43 Ar47 (j := (3 : Int32)) hi47 (g := (mkF m 86 #[.val (.int p0), .val (.int p1), .val (.int p2), .val (.int p3), .val (.int p4), .val (.int p5), .val (.int z2), .val (.int z5), .val (.int z8), .val (.int z11), .val (.int z14), .val (.ref b16), .val (.ref b29), .unset, .unset] [(.int ((((p4 >>> ((24 : Int32) &&& 31)))).toInt8.toInt32)), (.int (3 : Int32)), (.ref b29)])) rfl rfl (hb hby at_86)
            have F48 : n0 ≤ h47.size := Nat.le_trans F44 (Keep.of_wr W47).1
            have F49 : ArL Z h47 b16 .byte [(.int (nar .byte z8)), (.int (nar .byte z11)), (.int (nar .byte z14))] := F45.other W47 ne30
            have F50 : ArL Z h47 b29 .byte [(.int (nar .byte ((p4).toInt8.toInt32))), (.int (nar .byte ((((p4 >>> ((8 : Int32) &&& 31)))).toInt8.toInt32))), (.int (nar .byte ((((p4 >>> ((16 : Int32) &&& 31)))).toInt8.toInt32))), (.int (nar .byte ((((p4 >>> ((24 : Int32) &&& 31)))).toInt8.toInt32))), (.int (0 : Int32)), (.int (0 : Int32)), (.int (0 : Int32))] := F46.set W47
            have N47 := Fr.snoc X47 N43 g31
            refine Go.back st47 ?_
            show Go p.tables e below (P0 Z p0 p1 p2 p3 p4 p5 h0 n0 s) (T47.setTop (mkF m 87 #[.val (.int p0), .val (.int p1), .val (.int p2), .val (.int p3), .val (.int p4), .val (.int p5), .val (.int z2), .val (.int z5), .val (.int z8), .val (.int z11), .val (.int z14), .val (.ref b16), .val (.ref b29), .unset, .unset] []))
            refine Go.back (fun t k => XS.aload X47.here hx rfl (hb hby at_87) rfl rfl  k) ?_
            show Go p.tables e below (P0 Z p0 p1 p2 p3 p4 p5 h0 n0 s) (T47.setTop (mkF m 89 #[.val (.int p0), .val (.int p1), .val (.int p2), .val (.int p3), .val (.int p4), .val (.int p5), .val (.int z2), .val (.int z5), .val (.int z8), .val (.int z11), .val (.int z14), .val (.ref b16), .val (.ref b29), .unset, .unset] [(.ref b29)]))
            refine Go.back (fun t k => XS.iconst X47.here hx rfl (hb hby at_89) k) ?_
            show Go p.tables e below (P0 Z p0 p1 p2 p3 p4 p5 h0 n0 s) (T47.setTop (mkF m 90 #[.val (.int p0), .val (.int p1), .val (.int p2), .val (.int p3), .val (.int p4), .val (.int p5), .val (.int z2), .val (.int z5), .val (.int z8), .val (.int z11), .val (.int z14), .val (.ref b16), .val (.ref b29), .unset, .unset] [(.int (4 : Int32)), (.ref b29)]))
            refine Go.back (fun t k => XS.iload X47.here hx rfl (hb hby at_90) rfl  k) ?_
            show Go p.tables e below (P0 Z p0 p1 p2 p3 p4 p5 h0 n0 s) (T47.setTop (mkF m 92 #[.val (.int p0), .val (.int p1), .val (.int p2), .val (.int p3), .val (.int p4), .val (.int p5), .val (.int z2), .val (.int z5), .val (.int z8), .val (.int z11), .val (.int z14), .val (.ref b16), .val (.ref b29), .unset, .unset] [(.int p5), (.int (4 : Int32)), (.ref b29)]))
            refine Go.back (fun t k => XS.i2b X47.here hx rfl (hb hby at_92) rfl k) ?_
            show Go p.tables e below (P0 Z p0 p1 p2 p3 p4 p5 h0 n0 s) (T47.setTop (mkF m 93 #[.val (.int p0), .val (.int p1), .val (.int p2), .val (.int p3), .val (.int p4), .val (.int p5), .val (.int z2), .val (.int z5), .val (.int z8), .val (.int z11), .val (.int z14), .val (.ref b16), .val (.ref b29), .unset, .unset] [(.int ((p5).toInt8.toInt32)), (.int (4 : Int32)), (.ref b29)]))
            obtain ⟨cl51, Ar51, hi51, -⟩ := F50.at (j := (4 : Int32)) (by decide) (Nat.le_of_ble_eq_true rfl)
            obtain ⟨T51, h51, X51, e51, W51, st51⟩ := stB X47 hx hZ e47 Ar51 (j := (4 : Int32)) hi51 (g := (mkF m 93 #[.val (.int p0), .val (.int p1), .val (.int p2), .val (.int p3), .val (.int p4), .val (.int p5), .val (.int z2), .val (.int z5), .val (.int z8), .val (.int z11), .val (.int z14), .val (.ref b16), .val (.ref b29), .unset, .unset] [(.int ((p5).toInt8.toInt32)), (.int (4 : Int32)), (.ref b29)])) rfl rfl (hb hby at_93)
            have F52 : n0 ≤ h51.size := Nat.le_trans F48 (Keep.of_wr W51).1
            have F53 : ArL Z h51 b16 .byte [(.int (nar .byte z8)), (.int (nar .byte z11)), (.int (nar .byte z14))] := F49.other W51 ne30
            have F54 : ArL Z h51 b29 .byte [(.int (nar .byte ((p4).toInt8.toInt32))), (.int (nar .byte ((((p4 >>> ((8 : Int32) &&& 31)))).toInt8.toInt32))), (.int (nar .byte ((((p4 >>> ((16 : Int32) &&& 31)))).toInt8.toInt32))), (.int (nar .byte ((((p4 >>> ((24 : Int32) &&& 31)))).toInt8.toInt32))), (.int (nar .byte ((p5).toInt8.toInt32))), (.int (0 : Int32)), (.int (0 : Int32))] := F50.set W51
            have N51 := Fr.snoc X51 N47 g31
            refine Go.back st51 ?_
            show Go p.tables e below (P0 Z p0 p1 p2 p3 p4 p5 h0 n0 s) (T51.setTop (mkF m 94 #[.val (.int p0), .val (.int p1), .val (.int p2), .val (.int p3), .val (.int p4), .val (.int p5), .val (.int z2), .val (.int z5), .val (.int z8), .val (.int z11), .val (.int z14), .val (.ref b16), .val (.ref b29), .unset, .unset] []))
            refine Go.back (fun t k => XS.aload X51.here hx rfl (hb hby at_94) rfl rfl  k) ?_
            show Go p.tables e below (P0 Z p0 p1 p2 p3 p4 p5 h0 n0 s) (T51.setTop (mkF m 96 #[.val (.int p0), .val (.int p1), .val (.int p2), .val (.int p3), .val (.int p4), .val (.int p5), .val (.int z2), .val (.int z5), .val (.int z8), .val (.int z11), .val (.int z14), .val (.ref b16), .val (.ref b29), .unset, .unset] [(.ref b29)]))
            refine Go.back (fun t k => XS.iconst X51.here hx rfl (hb hby at_96) k) ?_
            show Go p.tables e below (P0 Z p0 p1 p2 p3 p4 p5 h0 n0 s) (T51.setTop (mkF m 97 #[.val (.int p0), .val (.int p1), .val (.int p2), .val (.int p3), .val (.int p4), .val (.int p5), .val (.int z2), .val (.int z5), .val (.int z8), .val (.int z11), .val (.int z14), .val (.ref b16), .val (.ref b29), .unset, .unset] [(.int (5 : Int32)), (.ref b29)]))
            refine Go.back (fun t k => XS.iload X51.here hx rfl (hb hby at_97) rfl  k) ?_
            show Go p.tables e below (P0 Z p0 p1 p2 p3 p4 p5 h0 n0 s) (T51.setTop (mkF m 99 #[.val (.int p0), .val (.int p1), .val (.int p2), .val (.int p3), .val (.int p4), .val (.int p5), .val (.int z2), .val (.int z5), .val (.int z8), .val (.int z11), .val (.int z14), .val (.ref b16), .val (.ref b29), .unset, .unset] [(.int p5), (.int (5 : Int32)), (.ref b29)]))
            refine Go.back (fun t k => XS.bipush X51.here hx rfl (hb hby at_99) k) ?_
            show Go p.tables e below (P0 Z p0 p1 p2 p3 p4 p5 h0 n0 s) (T51.setTop (mkF m 101 #[.val (.int p0), .val (.int p1), .val (.int p2), .val (.int p3), .val (.int p4), .val (.int p5), .val (.int z2), .val (.int z5), .val (.int z8), .val (.int z11), .val (.int z14), .val (.ref b16), .val (.ref b29), .unset, .unset] [(.int (8 : Int32)), (.int p5), (.int (5 : Int32)), (.ref b29)]))
            refine Go.back (fun t k => XS.ishr X51.here hx rfl (hb hby at_101) rfl k) ?_
            show Go p.tables e below (P0 Z p0 p1 p2 p3 p4 p5 h0 n0 s) (T51.setTop (mkF m 102 #[.val (.int p0), .val (.int p1), .val (.int p2), .val (.int p3), .val (.int p4), .val (.int p5), .val (.int z2), .val (.int z5), .val (.int z8), .val (.int z11), .val (.int z14), .val (.ref b16), .val (.ref b29), .unset, .unset] [(.int ((p5 >>> ((8 : Int32) &&& 31)))), (.int (5 : Int32)), (.ref b29)]))
            refine Go.back (fun t k => XS.i2b X51.here hx rfl (hb hby at_102) rfl k) ?_
            show Go p.tables e below (P0 Z p0 p1 p2 p3 p4 p5 h0 n0 s) (T51.setTop (mkF m 103 #[.val (.int p0), .val (.int p1), .val (.int p2), .val (.int p3), .val (.int p4), .val (.int p5), .val (.int z2), .val (.int z5), .val (.int z8), .val (.int z11), .val (.int z14), .val (.ref b16), .val (.ref b29), .unset, .unset] [(.int ((((p5 >>> ((8 : Int32) &&& 31)))).toInt8.toInt32)), (.int (5 : Int32)), (.ref b29)]))
            obtain ⟨cl55, Ar55, hi55, -⟩ := F54.at (j := (5 : Int32)) (by decide) (Nat.le_of_ble_eq_true rfl)
            obtain ⟨T55, h55, X55, e55, W55, st55⟩ := stB X51 hx hZ e51 Ar55 (j := (5 : Int32)) hi55 (g := (mkF m 103 #[.val (.int p0), .val (.int p1), .val (.int p2), .val (.int p3), .val (.int p4), .val (.int p5), .val (.int z2), .val (.int z5), .val (.int z8), .val (.int z11), .val (.int z14), .val (.ref b16), .val (.ref b29), .unset, .unset] [(.int ((((p5 >>> ((8 : Int32) &&& 31)))).toInt8.toInt32)), (.int (5 : Int32)), (.ref b29)])) rfl rfl (hb hby at_103)
            have F56 : n0 ≤ h55.size := Nat.le_trans F52 (Keep.of_wr W55).1
            have F57 : ArL Z h55 b16 .byte [(.int (nar .byte z8)), (.int (nar .byte z11)), (.int (nar .byte z14))] := F53.other W55 ne30
            have F58 : ArL Z h55 b29 .byte [(.int (nar .byte ((p4).toInt8.toInt32))), (.int (nar .byte ((((p4 >>> ((8 : Int32) &&& 31)))).toInt8.toInt32))), (.int (nar .byte ((((p4 >>> ((16 : Int32) &&& 31)))).toInt8.toInt32))), (.int (nar .byte ((((p4 >>> ((24 : Int32) &&& 31)))).toInt8.toInt32))), (.int (nar .byte ((p5).toInt8.toInt32))), (.int (nar .byte ((((p5 >>> ((8 : Int32) &&& 31)))).toInt8.toInt32))), (.int (0 : Int32))] := F54.set W55
            have N55 := Fr.snoc X55 N51 g31
            refine Go.back st55 ?_
            show Go p.tables e below (P0 Z p0 p1 p2 p3 p4 p5 h0 n0 s) (T55.setTop (mkF m 104 #[.val (.int p0), .val (.int p1), .val (.int p2), .val (.int p3), .val (.int p4), .val (.int p5), .val (.int z2), .val (.int z5), .val (.int z8), .val (.int z11), .val (.int z14), .val (.ref b16), .val (.ref b29), .unset, .unset] []))
            refine Go.back (fun t k => XS.aload X55.here hx rfl (hb hby at_104) rfl rfl  k) ?_
            show Go p.tables e below (P0 Z p0 p1 p2 p3 p4 p5 h0 n0 s) (T55.setTop (mkF m 106 #[.val (.int p0), .val (.int p1), .val (.int p2), .val (.int p3), .val (.int p4), .val (.int p5), .val (.int z2), .val (.int z5), .val (.int z8), .val (.int z11), .val (.int z14), .val (.ref b16), .val (.ref b29), .unset, .unset] [(.ref b29)]))
            refine Go.back (fun t k => XS.bipush X55.here hx rfl (hb hby at_106) k) ?_
            show Go p.tables e below (P0 Z p0 p1 p2 p3 p4 p5 h0 n0 s) (T55.setTop (mkF m 108 #[.val (.int p0), .val (.int p1), .val (.int p2), .val (.int p3), .val (.int p4), .val (.int p5), .val (.int z2), .val (.int z5), .val (.int z8), .val (.int z11), .val (.int z14), .val (.ref b16), .val (.ref b29), .unset, .unset] [(.int (6 : Int32)), (.ref b29)]))
            refine Go.back (fun t k => XS.iload X55.here hx rfl (hb hby at_108) rfl  k) ?_
            show Go p.tables e below (P0 Z p0 p1 p2 p3 p4 p5 h0 n0 s) (T55.setTop (mkF m 110 #[.val (.int p0), .val (.int p1), .val (.int p2), .val (.int p3), .val (.int p4), .val (.int p5), .val (.int z2), .val (.int z5), .val (.int z8), .val (.int z11), .val (.int z14), .val (.ref b16), .val (.ref b29), .unset, .unset] [(.int p5), (.int (6 : Int32)), (.ref b29)]))
            refine Go.back (fun t k => XS.bipush X55.here hx rfl (hb hby at_110) k) ?_
            show Go p.tables e below (P0 Z p0 p1 p2 p3 p4 p5 h0 n0 s) (T55.setTop (mkF m 112 #[.val (.int p0), .val (.int p1), .val (.int p2), .val (.int p3), .val (.int p4), .val (.int p5), .val (.int z2), .val (.int z5), .val (.int z8), .val (.int z11), .val (.int z14), .val (.ref b16), .val (.ref b29), .unset, .unset] [(.int (16 : Int32)), (.int p5), (.int (6 : Int32)), (.ref b29)]))
            refine Go.back (fun t k => XS.ishr X55.here hx rfl (hb hby at_112) rfl k) ?_
            show Go p.tables e below (P0 Z p0 p1 p2 p3 p4 p5 h0 n0 s) (T55.setTop (mkF m 113 #[.val (.int p0), .val (.int p1), .val (.int p2), .val (.int p3), .val (.int p4), .val (.int p5), .val (.int z2), .val (.int z5), .val (.int z8), .val (.int z11), .val (.int z14), .val (.ref b16), .val (.ref b29), .unset, .unset] [(.int ((p5 >>> ((16 : Int32) &&& 31)))), (.int (6 : Int32)), (.ref b29)]))
            refine Go.back (fun t k => XS.i2b X55.here hx rfl (hb hby at_113) rfl k) ?_
            show Go p.tables e below (P0 Z p0 p1 p2 p3 p4 p5 h0 n0 s) (T55.setTop (mkF m 114 #[.val (.int p0), .val (.int p1), .val (.int p2), .val (.int p3), .val (.int p4), .val (.int p5), .val (.int z2), .val (.int z5), .val (.int z8), .val (.int z11), .val (.int z14), .val (.ref b16), .val (.ref b29), .unset, .unset] [(.int ((((p5 >>> ((16 : Int32) &&& 31)))).toInt8.toInt32)), (.int (6 : Int32)), (.ref b29)]))
            obtain ⟨cl59, Ar59, hi59, -⟩ := F58.at (j := (6 : Int32)) (by decide) (Nat.le_of_ble_eq_true rfl)
            obtain ⟨T59, h59, X59, e59, W59, st59⟩ := stB X55 hx hZ e55 Ar59 (j := (6 : Int32)) hi59 (g := (mkF m 114 #[.val (.int p0), .val (.int p1), .val (.int p2), .val (.int p3), .val (.int p4), .val (.int p5), .val (.int z2), .val (.int z5), .val (.int z8), .val (.int z11), .val (.int z14), .val (.ref b16), .val (.ref b29), .unset, .unset] [(.int ((((p5 >>> ((16 : Int32) &&& 31)))).toInt8.toInt32)), (.int (6 : Int32)), (.ref b29)])) rfl rfl (hb hby at_114)
            have F60 : n0 ≤ h59.size := Nat.le_trans F56 (Keep.of_wr W59).1
            have F61 : ArL Z h59 b16 .byte [(.int (nar .byte z8)), (.int (nar .byte z11)), (.int (nar .byte z14))] := F57.other W59 ne30
            have F62 : ArL Z h59 b29 .byte [(.int (nar .byte ((p4).toInt8.toInt32))), (.int (nar .byte ((((p4 >>> ((8 : Int32) &&& 31)))).toInt8.toInt32))), (.int (nar .byte ((((p4 >>> ((16 : Int32) &&& 31)))).toInt8.toInt32))), (.int (nar .byte ((((p4 >>> ((24 : Int32) &&& 31)))).toInt8.toInt32))), (.int (nar .byte ((p5).toInt8.toInt32))), (.int (nar .byte ((((p5 >>> ((8 : Int32) &&& 31)))).toInt8.toInt32))), (.int (nar .byte ((((p5 >>> ((16 : Int32) &&& 31)))).toInt8.toInt32)))] := F58.set W59
            have N59 := Fr.snoc X59 N55 g31
            refine Go.back st59 ?_
            show Go p.tables e below (P0 Z p0 p1 p2 p3 p4 p5 h0 n0 s) (T59.setTop (mkF m 115 #[.val (.int p0), .val (.int p1), .val (.int p2), .val (.int p3), .val (.int p4), .val (.int p5), .val (.int z2), .val (.int z5), .val (.int z8), .val (.int z11), .val (.int z14), .val (.ref b16), .val (.ref b29), .unset, .unset] []))
            have J63 : ∀ (z64 : List Int32) (hz64 : z64 = [(nar .byte ((p4).toInt8.toInt32)), (nar .byte ((((p4 >>> ((8 : Int32) &&& 31)))).toInt8.toInt32)), (nar .byte ((((p4 >>> ((16 : Int32) &&& 31)))).toInt8.toInt32)), (nar .byte ((((p4 >>> ((24 : Int32) &&& 31)))).toInt8.toInt32)), (nar .byte ((p5).toInt8.toInt32)), (nar .byte ((((p5 >>> ((8 : Int32) &&& 31)))).toInt8.toInt32)), (nar .byte ((((p5 >>> ((16 : Int32) &&& 31)))).toInt8.toInt32))]) (F65 : ArL Z h59 b29 .byte (List.map Value.int z64)), Go p.tables e below (P0 Z p0 p1 p2 p3 p4 p5 h0 n0 s) (T59.setTop (mkF m 115 #[.val (.int p0), .val (.int p1), .val (.int p2), .val (.int p3), .val (.int p4), .val (.int p5), .val (.int z2), .val (.int z5), .val (.int z8), .val (.int z11), .val (.int z14), .val (.ref b16), .val (.ref b29), .unset, .unset] [])) := by
              intro z64 hz64 F65
              have r66 : f0 p0 p1 p2 p3 p4 p5 = (let z71 : List Int32 := (if (0 : Int32) < z2 then (List.set z64 (z5).toNatClampNeg (nar .byte z8)) else z64); (let z80 : List Int32 := (if (1 : Int32) < z2 then (List.set z71 ((z5 + (1 : Int32))).toNatClampNeg (nar .byte z11)) else z71); (let z89 : List Int32 := (if (2 : Int32) < z2 then (List.set z80 ((z5 + (2 : Int32))).toNatClampNeg (nar .byte z14)) else z80); (let z95 : List Int32 := z89; (let z162 : Bool := (if (own_h [(nar .byte z8), (nar .byte z11), (nar .byte z14)] 3 (0 : Int32) 1) = (f5 (3 : Int32) z8 z11 z14) then (if (own_h z95 (z2).toNatClampNeg z5 1) = (f5 z2 z8 z11 z14) then true else false) else false); z162))))) := by subst hz64; exact r15
              show Go p.tables e below (P0 Z p0 p1 p2 p3 p4 p5 h0 n0 s) (T59.setTop (mkF m 115 #[.val (.int p0), .val (.int p1), .val (.int p2), .val (.int p3), .val (.int p4), .val (.int p5), .val (.int z2), .val (.int z5), .val (.int z8), .val (.int z11), .val (.int z14), .val (.ref b16), .val (.ref b29), .unset, .unset] []))
              refine Go.back (fun t k => XS.iload X59.here hx rfl (hb hby at_115) rfl  k) ?_
              show Go p.tables e below (P0 Z p0 p1 p2 p3 p4 p5 h0 n0 s) (T59.setTop (mkF m 117 #[.val (.int p0), .val (.int p1), .val (.int p2), .val (.int p3), .val (.int p4), .val (.int p5), .val (.int z2), .val (.int z5), .val (.int z8), .val (.int z11), .val (.int z14), .val (.ref b16), .val (.ref b29), .unset, .unset] [(.int z2)]))
              have J68 : ∀ (T74 : State) (L74 : List Loc) (X74 : Stand p l e room_1 s m #[(.int p0), (.int p1), (.int p2), (.int p3), (.int p4), (.int p5)] below meth c T74 L74 2 10) (N74 : Fr n0 L74) (h73 : Heap) (e74 : T74.heap = h73) (z71 : List Int32) (hz71 : z71 = (if (0 : Int32) < z2 then (List.set z64 (z5).toNatClampNeg (nar .byte z8)) else z64)) (F69 : n0 ≤ h73.size) (F70 : ArL Z h73 b16 .byte [(.int (nar .byte z8)), (.int (nar .byte z11)), (.int (nar .byte z14))]) (F72 : ArL Z h73 b29 .byte (List.map Value.int z71)), Go p.tables e below (P0 Z p0 p1 p2 p3 p4 p5 h0 n0 s) (T74.setTop (mkF m 127 #[.val (.int p0), .val (.int p1), .val (.int p2), .val (.int p3), .val (.int p4), .val (.int p5), .val (.int z2), .val (.int z5), .val (.int z8), .val (.int z11), .val (.int z14), .val (.ref b16), .val (.ref b29), .unset, .unset] [])) := by
                intro T74 L74 X74 N74 h73 e74 z71 hz71 F69 F70 F72
                have r75 : f0 p0 p1 p2 p3 p4 p5 = (let z80 : List Int32 := (if (1 : Int32) < z2 then (List.set z71 ((z5 + (1 : Int32))).toNatClampNeg (nar .byte z11)) else z71); (let z89 : List Int32 := (if (2 : Int32) < z2 then (List.set z80 ((z5 + (2 : Int32))).toNatClampNeg (nar .byte z14)) else z80); (let z95 : List Int32 := z89; (let z162 : Bool := (if (own_h [(nar .byte z8), (nar .byte z11), (nar .byte z14)] 3 (0 : Int32) 1) = (f5 (3 : Int32) z8 z11 z14) then (if (own_h z95 (z2).toNatClampNeg z5 1) = (f5 z2 z8 z11 z14) then true else false) else false); z162)))) := by subst hz71; exact r66
                show Go p.tables e below (P0 Z p0 p1 p2 p3 p4 p5 h0 n0 s) (T74.setTop (mkF m 127 #[.val (.int p0), .val (.int p1), .val (.int p2), .val (.int p3), .val (.int p4), .val (.int p5), .val (.int z2), .val (.int z5), .val (.int z8), .val (.int z11), .val (.int z14), .val (.ref b16), .val (.ref b29), .unset, .unset] []))
                refine Go.back (fun t k => XS.iload X74.here hx rfl (hb hby at_127) rfl  k) ?_
                show Go p.tables e below (P0 Z p0 p1 p2 p3 p4 p5 h0 n0 s) (T74.setTop (mkF m 129 #[.val (.int p0), .val (.int p1), .val (.int p2), .val (.int p3), .val (.int p4), .val (.int p5), .val (.int z2), .val (.int z5), .val (.int z8), .val (.int z11), .val (.int z14), .val (.ref b16), .val (.ref b29), .unset, .unset] [(.int z2)]))
                refine Go.back (fun t k => XS.iconst X74.here hx rfl (hb hby at_129) k) ?_
                show Go p.tables e below (P0 Z p0 p1 p2 p3 p4 p5 h0 n0 s) (T74.setTop (mkF m 130 #[.val (.int p0), .val (.int p1), .val (.int p2), .val (.int p3), .val (.int p4), .val (.int p5), .val (.int z2), .val (.int z5), .val (.int z8), .val (.int z11), .val (.int z14), .val (.ref b16), .val (.ref b29), .unset, .unset] [(.int (1 : Int32)), (.int z2)]))
                have J77 : ∀ (T83 : State) (L83 : List Loc) (X83 : Stand p l e room_1 s m #[(.int p0), (.int p1), (.int p2), (.int p3), (.int p4), (.int p5)] below meth c T83 L83 2 10) (N83 : Fr n0 L83) (h82 : Heap) (e83 : T83.heap = h82) (z80 : List Int32) (hz80 : z80 = (if (1 : Int32) < z2 then (List.set z71 ((z5 + (1 : Int32))).toNatClampNeg (nar .byte z11)) else z71)) (F78 : n0 ≤ h82.size) (F79 : ArL Z h82 b16 .byte [(.int (nar .byte z8)), (.int (nar .byte z11)), (.int (nar .byte z14))]) (F81 : ArL Z h82 b29 .byte (List.map Value.int z80)), Go p.tables e below (P0 Z p0 p1 p2 p3 p4 p5 h0 n0 s) (T83.setTop (mkF m 142 #[.val (.int p0), .val (.int p1), .val (.int p2), .val (.int p3), .val (.int p4), .val (.int p5), .val (.int z2), .val (.int z5), .val (.int z8), .val (.int z11), .val (.int z14), .val (.ref b16), .val (.ref b29), .unset, .unset] [])) := by
                  intro T83 L83 X83 N83 h82 e83 z80 hz80 F78 F79 F81
                  have r84 : f0 p0 p1 p2 p3 p4 p5 = (let z89 : List Int32 := (if (2 : Int32) < z2 then (List.set z80 ((z5 + (2 : Int32))).toNatClampNeg (nar .byte z14)) else z80); (let z95 : List Int32 := z89; (let z162 : Bool := (if (own_h [(nar .byte z8), (nar .byte z11), (nar .byte z14)] 3 (0 : Int32) 1) = (f5 (3 : Int32) z8 z11 z14) then (if (own_h z95 (z2).toNatClampNeg z5 1) = (f5 z2 z8 z11 z14) then true else false) else false); z162))) := by subst hz80; exact r75
                  show Go p.tables e below (P0 Z p0 p1 p2 p3 p4 p5 h0 n0 s) (T83.setTop (mkF m 142 #[.val (.int p0), .val (.int p1), .val (.int p2), .val (.int p3), .val (.int p4), .val (.int p5), .val (.int z2), .val (.int z5), .val (.int z8), .val (.int z11), .val (.int z14), .val (.ref b16), .val (.ref b29), .unset, .unset] []))
                  refine Go.back (fun t k => XS.iload X83.here hx rfl (hb hby at_142) rfl  k) ?_
                  show Go p.tables e below (P0 Z p0 p1 p2 p3 p4 p5 h0 n0 s) (T83.setTop (mkF m 144 #[.val (.int p0), .val (.int p1), .val (.int p2), .val (.int p3), .val (.int p4), .val (.int p5), .val (.int z2), .val (.int z5), .val (.int z8), .val (.int z11), .val (.int z14), .val (.ref b16), .val (.ref b29), .unset, .unset] [(.int z2)]))
                  refine Go.back (fun t k => XS.iconst X83.here hx rfl (hb hby at_144) k) ?_
                  show Go p.tables e below (P0 Z p0 p1 p2 p3 p4 p5 h0 n0 s) (T83.setTop (mkF m 145 #[.val (.int p0), .val (.int p1), .val (.int p2), .val (.int p3), .val (.int p4), .val (.int p5), .val (.int z2), .val (.int z5), .val (.int z8), .val (.int z11), .val (.int z14), .val (.ref b16), .val (.ref b29), .unset, .unset] [(.int (2 : Int32)), (.int z2)]))
                  have J86 : ∀ (T92 : State) (L92 : List Loc) (X92 : Stand p l e room_1 s m #[(.int p0), (.int p1), (.int p2), (.int p3), (.int p4), (.int p5)] below meth c T92 L92 2 10) (N92 : Fr n0 L92) (h91 : Heap) (e92 : T92.heap = h91) (z89 : List Int32) (hz89 : z89 = (if (2 : Int32) < z2 then (List.set z80 ((z5 + (2 : Int32))).toNatClampNeg (nar .byte z14)) else z80)) (F87 : n0 ≤ h91.size) (F88 : ArL Z h91 b16 .byte [(.int (nar .byte z8)), (.int (nar .byte z11)), (.int (nar .byte z14))]) (F90 : ArL Z h91 b29 .byte (List.map Value.int z89)), Go p.tables e below (P0 Z p0 p1 p2 p3 p4 p5 h0 n0 s) (T92.setTop (mkF m 157 #[.val (.int p0), .val (.int p1), .val (.int p2), .val (.int p3), .val (.int p4), .val (.int p5), .val (.int z2), .val (.int z5), .val (.int z8), .val (.int z11), .val (.int z14), .val (.ref b16), .val (.ref b29), .unset, .unset] [])) := by
                    intro T92 L92 X92 N92 h91 e92 z89 hz89 F87 F88 F90
                    have r93 : f0 p0 p1 p2 p3 p4 p5 = (let z95 : List Int32 := z89; (let z162 : Bool := (if (own_h [(nar .byte z8), (nar .byte z11), (nar .byte z14)] 3 (0 : Int32) 1) = (f5 (3 : Int32) z8 z11 z14) then (if (own_h z95 (z2).toNatClampNeg z5 1) = (f5 z2 z8 z11 z14) then true else false) else false); z162)) := by subst hz89; exact r84
                    show Go p.tables e below (P0 Z p0 p1 p2 p3 p4 p5 h0 n0 s) (T92.setTop (mkF m 157 #[.val (.int p0), .val (.int p1), .val (.int p2), .val (.int p3), .val (.int p4), .val (.int p5), .val (.int z2), .val (.int z5), .val (.int z8), .val (.int z11), .val (.int z14), .val (.ref b16), .val (.ref b29), .unset, .unset] []))
                    have J94 : ∀ (z95 : List Int32) (hz95 : z95 = z89) (F96 : ArL Z h91 b29 .byte (List.map Value.int z95)), Go p.tables e below (P0 Z p0 p1 p2 p3 p4 p5 h0 n0 s) (T92.setTop (mkF m 157 #[.val (.int p0), .val (.int p1), .val (.int p2), .val (.int p3), .val (.int p4), .val (.int p5), .val (.int z2), .val (.int z5), .val (.int z8), .val (.int z11), .val (.int z14), .val (.ref b16), .val (.ref b29), .unset, .unset] [])) := by
                      intro z95 hz95 F96
                      have r97 : f0 p0 p1 p2 p3 p4 p5 = (let z162 : Bool := (if (own_h [(nar .byte z8), (nar .byte z11), (nar .byte z14)] 3 (0 : Int32) 1) = (f5 (3 : Int32) z8 z11 z14) then (if (own_h z95 (z2).toNatClampNeg z5 1) = (f5 z2 z8 z11 z14) then true else false) else false); z162) := by subst hz95; exact r93
                      show Go p.tables e below (P0 Z p0 p1 p2 p3 p4 p5 h0 n0 s) (T92.setTop (mkF m 157 #[.val (.int p0), .val (.int p1), .val (.int p2), .val (.int p3), .val (.int p4), .val (.int p5), .val (.int z2), .val (.int z5), .val (.int z8), .val (.int z11), .val (.int z14), .val (.ref b16), .val (.ref b29), .unset, .unset] []))
                      obtain ⟨T98, h98, X98, e98, E98, A98, D98, -, st98⟩ := newO X92 hx hZ hown (hw _ (List.mem_of_getElem? (i := 1) rfl)) (hw _ (List.mem_of_getElem? (i := 2) rfl)) (hw _ (List.mem_of_getElem? (i := 3) rfl)) e92 (g := (mkF m 157 #[.val (.int p0), .val (.int p1), .val (.int p2), .val (.int p3), .val (.int p4), .val (.int p5), .val (.int z2), .val (.int z5), .val (.int z8), .val (.int z11), .val (.int z14), .val (.ref b16), .val (.ref b29), .unset, .unset] [])) rfl (hb hby at_157) (by decide) (by decide)
                      obtain ⟨b98, g98⟩ : ∃ z, z = h91.size := ⟨_, rfl⟩
                      rw [← g98] at A98 D98 st98
                      have ne99 : b16 ≠ b98 := Nat.ne_of_lt (Nat.lt_of_lt_of_le F88.lt (Nat.le_of_eq g98.symm))
                      have ne100 : b29 ≠ b98 := Nat.ne_of_lt (Nat.lt_of_lt_of_le F96.lt (Nat.le_of_eq g98.symm))
                      have g101 : n0 ≤ b98 := Nat.le_trans F87 (Nat.le_of_eq g98.symm)
                      have F102 : n0 ≤ h98.size := Nat.le_trans F87 E98.1
                      have F103 : ArL Z h98 b16 .byte [(.int (nar .byte z8)), (.int (nar .byte z11)), (.int (nar .byte z14))] := F88.ext E98
                      have F104 : ArL Z h98 b29 .byte (List.map Value.int z95) := F96.ext E98
                      have F105 : Fld Z h98 b98 "com/example/careful_audit/carefulaudit/ByteSlice" "bytes" "[B" .null := D98 (Or.inl (hw _ (List.mem_of_getElem? (i := 11) rfl))) (ty := (.array .byte)) (by decide)
                      have F106 : Fld Z h98 b98 "com/example/careful_audit/carefulaudit/ByteSlice" "to" "I" (.int (0 : Int32)) := D98 (Or.inl (hw _ (List.mem_of_getElem? (i := 13) rfl))) (ty := .int) (by decide)
                      have F107 : Fld Z h98 b98 "com/example/careful_audit/carefulaudit/ByteSlice" "from" "I" (.int (0 : Int32)) := D98 (Or.inl (hw _ (List.mem_of_getElem? (i := 20) rfl))) (ty := .int) (by decide)
                      refine Go.back st98 ?_
                      show Go p.tables e below (P0 Z p0 p1 p2 p3 p4 p5 h0 n0 s) (T98.setTop (mkF m 160 #[.val (.int p0), .val (.int p1), .val (.int p2), .val (.int p3), .val (.int p4), .val (.int p5), .val (.int z2), .val (.int z5), .val (.int z8), .val (.int z11), .val (.int z14), .val (.ref b16), .val (.ref b29), .unset, .unset] [(.ref b98)]))
                      refine Go.back (fun t k => XS.dup X98.here hx rfl (hb hby at_160) rfl rfl k) ?_
                      show Go p.tables e below (P0 Z p0 p1 p2 p3 p4 p5 h0 n0 s) (T98.setTop (mkF m 161 #[.val (.int p0), .val (.int p1), .val (.int p2), .val (.int p3), .val (.int p4), .val (.int p5), .val (.int z2), .val (.int z5), .val (.int z8), .val (.int z11), .val (.int z14), .val (.ref b16), .val (.ref b29), .unset, .unset] [(.ref b98), (.ref b98)]))
                      refine Go.back (fun t k => XS.aload X98.here hx rfl (hb hby at_161) rfl rfl  k) ?_
                      show Go p.tables e below (P0 Z p0 p1 p2 p3 p4 p5 h0 n0 s) (T98.setTop (mkF m 163 #[.val (.int p0), .val (.int p1), .val (.int p2), .val (.int p3), .val (.int p4), .val (.int p5), .val (.int z2), .val (.int z5), .val (.int z8), .val (.int z11), .val (.int z14), .val (.ref b16), .val (.ref b29), .unset, .unset] [(.ref b16), (.ref b98), (.ref b98)]))
                      obtain ⟨_, _, ⟨T108, L108, k108, n108⟩, -, X108, ⟨Lc108, hQ108, l108, y108, z108⟩, st108⟩ := X98.specialBack hx (y := (⟨"com/example/careful_audit/carefulaudit/ByteSlice", "<init>", "([B)V"⟩ : MethodName)) rfl hown (mvT hZ (hw _ (List.mem_of_getElem? (i := 4) rfl))) (mvT hZ (hw _ (List.mem_of_getElem? (i := 5) rfl))) (mvT hZ (hw _ (List.mem_of_getElem? (i := 6) rfl))) (by decide) (backOf (W := 1) (rm1 l Z a0 hw [] b98 b16 [(nar .byte z8), (nar .byte z11), (nar .byte z14)] (3 : Int32) h98 n0 F102 A98 F105 F106 F107 F103 g101 (Ne.symm ne99) rfl) hZ (hw _ (List.mem_of_getElem? (i := 6) rfl)) (hw _ (List.mem_of_getElem? (i := 3) rfl)) (by decide) (by decide)) (g := (mkF m 163 #[.val (.int p0), .val (.int p1), .val (.int p2), .val (.int p3), .val (.int p4), .val (.int p5), .val (.int z2), .val (.int z5), .val (.int z8), .val (.int z11), .val (.int z14), .val (.ref b16), .val (.ref b29), .unset, .unset] [(.ref b16), (.ref b98), (.ref b98)])) rfl (by rw [hml]; rfl) (Steps.refl _) (a := b98) (argsL := [(.ref b16)]) (rest := [(.ref b98)]) (lenOf pd_0 rfl) rfl (by show 2 * 0 + _ ≤ _; exact Nat.le_of_eq rfl) (hb hby at_163) (fun _ _ => ⟨rfl, e98, (by decide : 3 + 0 ≤ _), (by decide : 13 + 0 ≤ _)⟩)
                      dsimp only [Pt.U, Pt.locs, Pt.cells, Pt.slots] at X108 l108 y108 z108 st108 hQ108
                      subst l108 y108 z108
                      obtain ⟨h108, e108⟩ : ∃ z, T108.heap = z := ⟨_, rfl⟩
                      rw [e108] at hQ108
                      obtain ⟨rfl, N108q, K108, F113, F114, F115, F116⟩ := hQ108
                      have N108 := Fr.app N92 N108q
                      have F109 : n0 ≤ h108.size := Nat.le_trans F102 K108.1
                      have F110 : ArL Z h108 b16 .byte [(.int (nar .byte z8)), (.int (nar .byte z11)), (.int (nar .byte z14))] := F103.keep K108 (ninS ne99 nin0)
                      have F111 : ArL Z h108 b29 .byte (List.map Value.int z95) := F104.keep K108 (ninS ne100 nin0)
                      have F112 : Exa Z h108 b98 "com/example/careful_audit/carefulaudit/ByteSlice" := A98.keep K108
                      refine Go.trans st108 ?_
                      show Go p.tables e below (P0 Z p0 p1 p2 p3 p4 p5 h0 n0 s) (T108.setTop (mkF m 166 #[.val (.int p0), .val (.int p1), .val (.int p2), .val (.int p3), .val (.int p4), .val (.int p5), .val (.int z2), .val (.int z5), .val (.int z8), .val (.int z11), .val (.int z14), .val (.ref b16), .val (.ref b29), .unset, .unset] [(.ref b98)]))
                      refine Go.back (fun t k => XS.astore X108.here hx rfl (hb hby at_166) rfl rfl (l' := #[.val (.int p0), .val (.int p1), .val (.int p2), .val (.int p3), .val (.int p4), .val (.int p5), .val (.int z2), .val (.int z5), .val (.int z8), .val (.int z11), .val (.int z14), .val (.ref b16), .val (.ref b29), .val (.ref b98), .unset]) rfl k) ?_
                      show Go p.tables e below (P0 Z p0 p1 p2 p3 p4 p5 h0 n0 s) (T108.setTop (mkF m 168 #[.val (.int p0), .val (.int p1), .val (.int p2), .val (.int p3), .val (.int p4), .val (.int p5), .val (.int z2), .val (.int z5), .val (.int z8), .val (.int z11), .val (.int z14), .val (.ref b16), .val (.ref b29), .val (.ref b98), .unset] []))
                      obtain ⟨T117, h117, X117, e117, E117, A117, D117, -, st117⟩ := newO X108 hx hZ hown (hw _ (List.mem_of_getElem? (i := 1) rfl)) (hw _ (List.mem_of_getElem? (i := 2) rfl)) (hw _ (List.mem_of_getElem? (i := 3) rfl)) e108 (g := (mkF m 168 #[.val (.int p0), .val (.int p1), .val (.int p2), .val (.int p3), .val (.int p4), .val (.int p5), .val (.int z2), .val (.int z5), .val (.int z8), .val (.int z11), .val (.int z14), .val (.ref b16), .val (.ref b29), .val (.ref b98), .unset] [])) rfl (hb hby at_168) (by decide) (by decide)
                      obtain ⟨b117, g117⟩ : ∃ z, z = h108.size := ⟨_, rfl⟩
                      rw [← g117] at A117 D117 st117
                      have ne118 : b16 ≠ b117 := Nat.ne_of_lt (Nat.lt_of_lt_of_le F110.lt (Nat.le_of_eq g117.symm))
                      have ne119 : b29 ≠ b117 := Nat.ne_of_lt (Nat.lt_of_lt_of_le F111.lt (Nat.le_of_eq g117.symm))
                      have ne120 : b98 ≠ b117 := Nat.ne_of_lt (Nat.lt_of_lt_of_le F113.lt (Nat.le_of_eq g117.symm))
                      have g121 : n0 ≤ b117 := Nat.le_trans F109 (Nat.le_of_eq g117.symm)
                      have F122 : n0 ≤ h117.size := Nat.le_trans F109 E117.1
                      have F123 : ArL Z h117 b16 .byte [(.int (nar .byte z8)), (.int (nar .byte z11)), (.int (nar .byte z14))] := F110.ext E117
                      have F124 : ArL Z h117 b29 .byte (List.map Value.int z95) := F111.ext E117
                      have F125 : Exa Z h117 b98 "com/example/careful_audit/carefulaudit/ByteSlice" := F113.ext E117
                      have F126 : Fld Z h117 b98 "com/example/careful_audit/carefulaudit/ByteSlice" "bytes" "[B" (.ref b16) := F114.ext E117
                      have F127 : Fld Z h117 b98 "com/example/careful_audit/carefulaudit/ByteSlice" "from" "I" (.int (0 : Int32)) := F115.ext E117
                      have F128 : Fld Z h117 b98 "com/example/careful_audit/carefulaudit/ByteSlice" "to" "I" (.int (3 : Int32)) := F116.ext E117
                      have F129 : Fld Z h117 b117 "com/example/careful_audit/carefulaudit/ByteSlice" "bytes" "[B" .null := D117 (Or.inl (hw _ (List.mem_of_getElem? (i := 11) rfl))) (ty := (.array .byte)) (by decide)
                      have F130 : Fld Z h117 b117 "com/example/careful_audit/carefulaudit/ByteSlice" "to" "I" (.int (0 : Int32)) := D117 (Or.inl (hw _ (List.mem_of_getElem? (i := 13) rfl))) (ty := .int) (by decide)
                      have F131 : Fld Z h117 b117 "com/example/careful_audit/carefulaudit/ByteSlice" "from" "I" (.int (0 : Int32)) := D117 (Or.inl (hw _ (List.mem_of_getElem? (i := 20) rfl))) (ty := .int) (by decide)
                      refine Go.back st117 ?_
                      show Go p.tables e below (P0 Z p0 p1 p2 p3 p4 p5 h0 n0 s) (T117.setTop (mkF m 171 #[.val (.int p0), .val (.int p1), .val (.int p2), .val (.int p3), .val (.int p4), .val (.int p5), .val (.int z2), .val (.int z5), .val (.int z8), .val (.int z11), .val (.int z14), .val (.ref b16), .val (.ref b29), .val (.ref b98), .unset] [(.ref b117)]))
                      refine Go.back (fun t k => XS.dup X117.here hx rfl (hb hby at_171) rfl rfl k) ?_
                      show Go p.tables e below (P0 Z p0 p1 p2 p3 p4 p5 h0 n0 s) (T117.setTop (mkF m 172 #[.val (.int p0), .val (.int p1), .val (.int p2), .val (.int p3), .val (.int p4), .val (.int p5), .val (.int z2), .val (.int z5), .val (.int z8), .val (.int z11), .val (.int z14), .val (.ref b16), .val (.ref b29), .val (.ref b98), .unset] [(.ref b117), (.ref b117)]))
                      refine Go.back (fun t k => XS.aload X117.here hx rfl (hb hby at_172) rfl rfl  k) ?_
                      show Go p.tables e below (P0 Z p0 p1 p2 p3 p4 p5 h0 n0 s) (T117.setTop (mkF m 174 #[.val (.int p0), .val (.int p1), .val (.int p2), .val (.int p3), .val (.int p4), .val (.int p5), .val (.int z2), .val (.int z5), .val (.int z8), .val (.int z11), .val (.int z14), .val (.ref b16), .val (.ref b29), .val (.ref b98), .unset] [(.ref b29), (.ref b117), (.ref b117)]))
                      obtain ⟨_, _, ⟨T132, L132, k132, n132⟩, -, X132, ⟨Lc132, hQ132, l132, y132, z132⟩, st132⟩ := X117.specialBack hx (y := (⟨"com/example/careful_audit/carefulaudit/ByteSlice", "<init>", "([B)V"⟩ : MethodName)) rfl hown (mvT hZ (hw _ (List.mem_of_getElem? (i := 4) rfl))) (mvT hZ (hw _ (List.mem_of_getElem? (i := 5) rfl))) (mvT hZ (hw _ (List.mem_of_getElem? (i := 6) rfl))) (by decide) (backOf (W := 1) (rm1 l Z a0 hw [] b117 b29 z95 (7 : Int32) h117 n0 F122 A117 F129 F130 F131 F124 g121 (Ne.symm ne119) (own_l7 (by simp [hz64, hz71, hz80, hz89, hz95, apply_ite List.length]))) hZ (hw _ (List.mem_of_getElem? (i := 6) rfl)) (hw _ (List.mem_of_getElem? (i := 3) rfl)) (by decide) (by decide)) (g := (mkF m 174 #[.val (.int p0), .val (.int p1), .val (.int p2), .val (.int p3), .val (.int p4), .val (.int p5), .val (.int z2), .val (.int z5), .val (.int z8), .val (.int z11), .val (.int z14), .val (.ref b16), .val (.ref b29), .val (.ref b98), .unset] [(.ref b29), (.ref b117), (.ref b117)])) rfl (by rw [hml]; rfl) (Steps.refl _) (a := b117) (argsL := [(.ref b29)]) (rest := [(.ref b117)]) (lenOf pd_0 rfl) rfl (by show 2 * 0 + _ ≤ _; exact Nat.le_of_eq rfl) (hb hby at_174) (fun _ _ => ⟨rfl, e117, (by decide : 4 + 0 ≤ _), (by decide : 16 + 0 ≤ _)⟩)
                      dsimp only [Pt.U, Pt.locs, Pt.cells, Pt.slots] at X132 l132 y132 z132 st132 hQ132
                      subst l132 y132 z132
                      obtain ⟨h132, e132⟩ : ∃ z, T132.heap = z := ⟨_, rfl⟩
                      rw [e132] at hQ132
                      obtain ⟨rfl, N132q, K132, F141, F142, F143, F144⟩ := hQ132
                      have N132 := Fr.app N108 N132q
                      have F133 : n0 ≤ h132.size := Nat.le_trans F122 K132.1
                      have F134 : ArL Z h132 b16 .byte [(.int (nar .byte z8)), (.int (nar .byte z11)), (.int (nar .byte z14))] := F123.keep K132 (ninS ne118 nin0)
                      have F135 : ArL Z h132 b29 .byte (List.map Value.int z95) := F124.keep K132 (ninS ne119 nin0)
                      have F136 : Exa Z h132 b98 "com/example/careful_audit/carefulaudit/ByteSlice" := F125.keep K132
                      have F137 : Fld Z h132 b98 "com/example/careful_audit/carefulaudit/ByteSlice" "bytes" "[B" (.ref b16) := F126.keep K132 (ninS ne120 nin0)
                      have F138 : Fld Z h132 b98 "com/example/careful_audit/carefulaudit/ByteSlice" "from" "I" (.int (0 : Int32)) := F127.keep K132 (ninS ne120 nin0)
                      have F139 : Fld Z h132 b98 "com/example/careful_audit/carefulaudit/ByteSlice" "to" "I" (.int (3 : Int32)) := F128.keep K132 (ninS ne120 nin0)
                      have F140 : Exa Z h132 b117 "com/example/careful_audit/carefulaudit/ByteSlice" := A117.keep K132
                      refine Go.trans st132 ?_
                      show Go p.tables e below (P0 Z p0 p1 p2 p3 p4 p5 h0 n0 s) (T132.setTop (mkF m 177 #[.val (.int p0), .val (.int p1), .val (.int p2), .val (.int p3), .val (.int p4), .val (.int p5), .val (.int z2), .val (.int z5), .val (.int z8), .val (.int z11), .val (.int z14), .val (.ref b16), .val (.ref b29), .val (.ref b98), .unset] [(.ref b117)]))
                      refine Go.back (fun t k => XS.astore X132.here hx rfl (hb hby at_177) rfl rfl (l' := #[.val (.int p0), .val (.int p1), .val (.int p2), .val (.int p3), .val (.int p4), .val (.int p5), .val (.int z2), .val (.int z5), .val (.int z8), .val (.int z11), .val (.int z14), .val (.ref b16), .val (.ref b29), .val (.ref b98), .val (.ref b117)]) rfl k) ?_
                      show Go p.tables e below (P0 Z p0 p1 p2 p3 p4 p5 h0 n0 s) (T132.setTop (mkF m 179 #[.val (.int p0), .val (.int p1), .val (.int p2), .val (.int p3), .val (.int p4), .val (.int p5), .val (.int z2), .val (.int z5), .val (.int z8), .val (.int z11), .val (.int z14), .val (.ref b16), .val (.ref b29), .val (.ref b98), .val (.ref b117)] []))
                      refine Go.back (fun t k => XS.aload X132.here hx rfl (hb hby at_179) rfl rfl  k) ?_
                      show Go p.tables e below (P0 Z p0 p1 p2 p3 p4 p5 h0 n0 s) (T132.setTop (mkF m 181 #[.val (.int p0), .val (.int p1), .val (.int p2), .val (.int p3), .val (.int p4), .val (.int p5), .val (.int z2), .val (.int z5), .val (.int z8), .val (.int z11), .val (.int z14), .val (.ref b16), .val (.ref b29), .val (.ref b98), .val (.ref b117)] [(.ref b117)]))
                      refine Go.back (fun t k => XS.aload X132.here hx rfl (hb hby at_181) rfl rfl  k) ?_
                      show Go p.tables e below (P0 Z p0 p1 p2 p3 p4 p5 h0 n0 s) (T132.setTop (mkF m 183 #[.val (.int p0), .val (.int p1), .val (.int p2), .val (.int p3), .val (.int p4), .val (.int p5), .val (.int z2), .val (.int z5), .val (.int z8), .val (.int z11), .val (.int z14), .val (.ref b16), .val (.ref b29), .val (.ref b98), .val (.ref b117)] [(.ref b29), (.ref b117)]))
                      refine Go.back (fun t k => XS.iload X132.here hx rfl (hb hby at_183) rfl  k) ?_
                      show Go p.tables e below (P0 Z p0 p1 p2 p3 p4 p5 h0 n0 s) (T132.setTop (mkF m 185 #[.val (.int p0), .val (.int p1), .val (.int p2), .val (.int p3), .val (.int p4), .val (.int p5), .val (.int z2), .val (.int z5), .val (.int z8), .val (.int z11), .val (.int z14), .val (.ref b16), .val (.ref b29), .val (.ref b98), .val (.ref b117)] [(.int z5), (.ref b29), (.ref b117)]))
                      refine Go.back (fun t k => XS.iload X132.here hx rfl (hb hby at_185) rfl  k) ?_
                      show Go p.tables e below (P0 Z p0 p1 p2 p3 p4 p5 h0 n0 s) (T132.setTop (mkF m 187 #[.val (.int p0), .val (.int p1), .val (.int p2), .val (.int p3), .val (.int p4), .val (.int p5), .val (.int z2), .val (.int z5), .val (.int z8), .val (.int z11), .val (.int z14), .val (.ref b16), .val (.ref b29), .val (.ref b98), .val (.ref b117)] [(.int z5), (.int z5), (.ref b29), (.ref b117)]))
                      refine Go.back (fun t k => XS.iload X132.here hx rfl (hb hby at_187) rfl  k) ?_
                      show Go p.tables e below (P0 Z p0 p1 p2 p3 p4 p5 h0 n0 s) (T132.setTop (mkF m 189 #[.val (.int p0), .val (.int p1), .val (.int p2), .val (.int p3), .val (.int p4), .val (.int p5), .val (.int z2), .val (.int z5), .val (.int z8), .val (.int z11), .val (.int z14), .val (.ref b16), .val (.ref b29), .val (.ref b98), .val (.ref b117)] [(.int z2), (.int z5), (.int z5), (.ref b29), (.ref b117)]))
                      refine Go.back (fun t k => XS.iadd X132.here hx rfl (hb hby at_189) rfl k) ?_
                      show Go p.tables e below (P0 Z p0 p1 p2 p3 p4 p5 h0 n0 s) (T132.setTop (mkF m 190 #[.val (.int p0), .val (.int p1), .val (.int p2), .val (.int p3), .val (.int p4), .val (.int p5), .val (.int z2), .val (.int z5), .val (.int z8), .val (.int z11), .val (.int z14), .val (.ref b16), .val (.ref b29), .val (.ref b98), .val (.ref b117)] [(.int (z5 + z2)), (.int z5), (.ref b29), (.ref b117)]))
                      obtain ⟨cq145, kq145, q145a, q145b, q145c⟩ := isOf hZ e132 F141
                      obtain ⟨_, _, ⟨T145, L145, k145, n145⟩, -, X145, ⟨Lc145, hQ145, l145, y145, z145⟩, st145⟩ := X132.virtualBack hx (y := (⟨"com/example/careful_audit/carefulaudit/ByteSlice", "point", "([BII)V"⟩ : MethodName)) (z := (⟨"com/example/careful_audit/carefulaudit/ByteSlice", "point", "([BII)V"⟩ : MethodName)) hown (mvT hZ (hw _ (List.mem_of_getElem? (i := 14) rfl))) (mvT hZ (hw _ (List.mem_of_getElem? (i := 15) rfl))) (notFace_of_selects (args := #[]) (mvT hZ (hw _ (List.mem_of_getElem? (i := 17) rfl)))) (mvT hZ (hw _ (List.mem_of_getElem? (i := 17) rfl))) (mvT hZ (hw _ (List.mem_of_getElem? (i := 16) rfl))) (by decide) (backOf (W := 0) (rm3 l Z a0 hw [] b117 b29 z5 (z5 + z2) b29 (0 : Int32) (7 : Int32) h132 n0 F133 F141 F142 F143 F144 g121) hZ (hw _ (List.mem_of_getElem? (i := 18) rfl)) (hw _ (List.mem_of_getElem? (i := 3) rfl)) (by decide) (by decide)) q145a q145c (g := (mkF m 190 #[.val (.int p0), .val (.int p1), .val (.int p2), .val (.int p3), .val (.int p4), .val (.int p5), .val (.int z2), .val (.int z5), .val (.int z8), .val (.int z11), .val (.int z14), .val (.ref b16), .val (.ref b29), .val (.ref b98), .val (.ref b117)] [(.int (z5 + z2)), (.int z5), (.ref b29), (.ref b117)])) rfl (by rw [hml]; rfl) (Steps.refl _) (argsL := [(.ref b29), (.int z5), (.int (z5 + z2))]) (rest := []) (lenOf pd_1 rfl) rfl (by show 2 * 0 + _ ≤ _; exact Nat.le_of_eq rfl) (hb hby at_190) (fun _ _ => ⟨rfl, e132, (by decide : 4 + 0 ≤ _), (by decide : 16 + 0 ≤ _)⟩)
                      dsimp only [Pt.U, Pt.locs, Pt.cells, Pt.slots] at X145 l145 y145 z145 st145 hQ145
                      subst l145 y145 z145
                      obtain ⟨h145, e145⟩ : ∃ z, T145.heap = z := ⟨_, rfl⟩
                      rw [e145] at hQ145
                      obtain ⟨rfl, N145q, K145, F154, F155, F156, F157⟩ := hQ145
                      have N145 := Fr.app N132 N145q
                      have F146 : n0 ≤ h145.size := Nat.le_trans F133 K145.1
                      have F147 : ArL Z h145 b16 .byte [(.int (nar .byte z8)), (.int (nar .byte z11)), (.int (nar .byte z14))] := F134.keep K145 (ninS ne118 nin0)
                      have F148 : ArL Z h145 b29 .byte (List.map Value.int z95) := F135.keep K145 (ninS ne119 nin0)
                      have F149 : Exa Z h145 b98 "com/example/careful_audit/carefulaudit/ByteSlice" := F136.keep K145
                      have F150 : Fld Z h145 b98 "com/example/careful_audit/carefulaudit/ByteSlice" "bytes" "[B" (.ref b16) := F137.keep K145 (ninS ne120 nin0)
                      have F151 : Fld Z h145 b98 "com/example/careful_audit/carefulaudit/ByteSlice" "from" "I" (.int (0 : Int32)) := F138.keep K145 (ninS ne120 nin0)
                      have F152 : Fld Z h145 b98 "com/example/careful_audit/carefulaudit/ByteSlice" "to" "I" (.int (3 : Int32)) := F139.keep K145 (ninS ne120 nin0)
                      have F153 : Exa Z h145 b117 "com/example/careful_audit/carefulaudit/ByteSlice" := F141.keep K145
                      refine Go.trans st145 ?_
                      show Go p.tables e below (P0 Z p0 p1 p2 p3 p4 p5 h0 n0 s) (T145.setTop (mkF m 193 #[.val (.int p0), .val (.int p1), .val (.int p2), .val (.int p3), .val (.int p4), .val (.int p5), .val (.int z2), .val (.int z5), .val (.int z8), .val (.int z11), .val (.int z14), .val (.ref b16), .val (.ref b29), .val (.ref b98), .val (.ref b117)] []))
                      refine Go.back (fun t k => XS.aload X145.here hx rfl (hb hby at_193) rfl rfl  k) ?_
                      show Go p.tables e below (P0 Z p0 p1 p2 p3 p4 p5 h0 n0 s) (T145.setTop (mkF m 195 #[.val (.int p0), .val (.int p1), .val (.int p2), .val (.int p3), .val (.int p4), .val (.int p5), .val (.int z2), .val (.int z5), .val (.int z8), .val (.int z11), .val (.int z14), .val (.ref b16), .val (.ref b29), .val (.ref b98), .val (.ref b117)] [(.ref b98)]))
                      obtain ⟨cq158, kq158, q158a, q158b, q158c⟩ := isOf hZ e145 F149
                      obtain ⟨_, _, ⟨T158, L158, k158, n158⟩, -, X158, ⟨Lc158, hQ158, l158, y158, z158⟩, st158⟩ := X145.virtualBack hx (y := (⟨"com/example/careful_audit/carefulaudit/ByteSlice", "hashCode", "()I"⟩ : MethodName)) (z := (⟨"com/example/careful_audit/carefulaudit/ByteSlice", "hashCode", "()I"⟩ : MethodName)) hown (mvT hZ (hw _ (List.mem_of_getElem? (i := 21) rfl))) (mvT hZ (hw _ (List.mem_of_getElem? (i := 22) rfl))) (notFace_of_selects (args := #[]) (mvT hZ (hw _ (List.mem_of_getElem? (i := 24) rfl)))) (mvT hZ (hw _ (List.mem_of_getElem? (i := 24) rfl))) (mvT hZ (hw _ (List.mem_of_getElem? (i := 23) rfl))) (by decide) (backOf (W := 0) (rm4 l Z a0 hw [] b98 b16 (0 : Int32) (3 : Int32) [(nar .byte z8), (nar .byte z11), (nar .byte z14)] 3 h145 n0 F146 F150 F151 F152 F147 (own_w3 _ _ _)) hZ (hw _ (List.mem_of_getElem? (i := 25) rfl)) (hw _ (List.mem_of_getElem? (i := 3) rfl)) (by decide) (by decide)) q158a q158c (g := (mkF m 195 #[.val (.int p0), .val (.int p1), .val (.int p2), .val (.int p3), .val (.int p4), .val (.int p5), .val (.int z2), .val (.int z5), .val (.int z8), .val (.int z11), .val (.int z14), .val (.ref b16), .val (.ref b29), .val (.ref b98), .val (.ref b117)] [(.ref b98)])) rfl (by rw [hml]; rfl) (Steps.refl _) (argsL := []) (rest := []) (lenOf pd_2 rfl) rfl (by show 2 * 0 + _ ≤ _; exact Nat.le_of_eq rfl) (hb hby at_195) (fun _ _ => ⟨rfl, e145, (by decide : 4 + 0 ≤ _), (by decide : 16 + 0 ≤ _)⟩)
                      dsimp only [Pt.U, Pt.locs, Pt.cells, Pt.slots] at X158 l158 y158 z158 st158 hQ158
                      subst l158 y158 z158
                      obtain ⟨rfl, N158q, e158⟩ := hQ158
                      have N158 := Fr.app N145 N158q
                      refine Go.trans st158 ?_
                      show Go p.tables e below (P0 Z p0 p1 p2 p3 p4 p5 h0 n0 s) (T158.setTop (mkF m 198 #[.val (.int p0), .val (.int p1), .val (.int p2), .val (.int p3), .val (.int p4), .val (.int p5), .val (.int z2), .val (.int z5), .val (.int z8), .val (.int z11), .val (.int z14), .val (.ref b16), .val (.ref b29), .val (.ref b98), .val (.ref b117)] [(.int (own_h [(nar .byte z8), (nar .byte z11), (nar .byte z14)] 3 (0 : Int32) 1))]))
                      refine Go.back (fun t k => XS.iconst X158.here hx rfl (hb hby at_198) k) ?_
                      show Go p.tables e below (P0 Z p0 p1 p2 p3 p4 p5 h0 n0 s) (T158.setTop (mkF m 199 #[.val (.int p0), .val (.int p1), .val (.int p2), .val (.int p3), .val (.int p4), .val (.int p5), .val (.int z2), .val (.int z5), .val (.int z8), .val (.int z11), .val (.int z14), .val (.ref b16), .val (.ref b29), .val (.ref b98), .val (.ref b117)] [(.int (3 : Int32)), (.int (own_h [(nar .byte z8), (nar .byte z11), (nar .byte z14)] 3 (0 : Int32) 1))]))
                      refine Go.back (fun t k => XS.iload X158.here hx rfl (hb hby at_199) rfl  k) ?_
                      show Go p.tables e below (P0 Z p0 p1 p2 p3 p4 p5 h0 n0 s) (T158.setTop (mkF m 201 #[.val (.int p0), .val (.int p1), .val (.int p2), .val (.int p3), .val (.int p4), .val (.int p5), .val (.int z2), .val (.int z5), .val (.int z8), .val (.int z11), .val (.int z14), .val (.ref b16), .val (.ref b29), .val (.ref b98), .val (.ref b117)] [(.int z8), (.int (3 : Int32)), (.int (own_h [(nar .byte z8), (nar .byte z11), (nar .byte z14)] 3 (0 : Int32) 1))]))
                      refine Go.back (fun t k => XS.iload X158.here hx rfl (hb hby at_201) rfl  k) ?_
                      show Go p.tables e below (P0 Z p0 p1 p2 p3 p4 p5 h0 n0 s) (T158.setTop (mkF m 203 #[.val (.int p0), .val (.int p1), .val (.int p2), .val (.int p3), .val (.int p4), .val (.int p5), .val (.int z2), .val (.int z5), .val (.int z8), .val (.int z11), .val (.int z14), .val (.ref b16), .val (.ref b29), .val (.ref b98), .val (.ref b117)] [(.int z11), (.int z8), (.int (3 : Int32)), (.int (own_h [(nar .byte z8), (nar .byte z11), (nar .byte z14)] 3 (0 : Int32) 1))]))
                      refine Go.back (fun t k => XS.iload X158.here hx rfl (hb hby at_203) rfl  k) ?_
                      show Go p.tables e below (P0 Z p0 p1 p2 p3 p4 p5 h0 n0 s) (T158.setTop (mkF m 205 #[.val (.int p0), .val (.int p1), .val (.int p2), .val (.int p3), .val (.int p4), .val (.int p5), .val (.int z2), .val (.int z5), .val (.int z8), .val (.int z11), .val (.int z14), .val (.ref b16), .val (.ref b29), .val (.ref b98), .val (.ref b117)] [(.int z14), (.int z11), (.int z8), (.int (3 : Int32)), (.int (own_h [(nar .byte z8), (nar .byte z11), (nar .byte z14)] 3 (0 : Int32) 1))]))
                      obtain ⟨_, _, ⟨T159, L159, k159, n159⟩, -, X159, ⟨Lc159, hQ159, l159, y159, z159⟩, st159⟩ := Jvm.LawKit.callS X158 hx (y := (⟨"com/example/careful_audit/carefulaudit/ByteSliceHashCodePinLaw", "ref", "(IIII)I"⟩ : MethodName)) hown (mvT hZ (hw _ (List.mem_of_getElem? (i := 26) rfl))) (mvT hZ (hw _ (List.mem_of_getElem? (i := 27) rfl))) (mvT hZ (hw _ (List.mem_of_getElem? (i := 28) rfl))) (mvT hZ (hw _ (List.mem_of_getElem? (i := 29) rfl))) (by decide) (backOf (W := 1) (rm5 l Z a0 hw [] (3 : Int32) z8 z11 z14 h145 n0) hZ (hw _ (List.mem_of_getElem? (i := 29) rfl)) (hw _ (List.mem_of_getElem? (i := 28) rfl)) (by decide) (by decide)) (g := (mkF m 205 #[.val (.int p0), .val (.int p1), .val (.int p2), .val (.int p3), .val (.int p4), .val (.int p5), .val (.int z2), .val (.int z5), .val (.int z8), .val (.int z11), .val (.int z14), .val (.ref b16), .val (.ref b29), .val (.ref b98), .val (.ref b117)] [(.int z14), (.int z11), (.int z8), (.int (3 : Int32)), (.int (own_h [(nar .byte z8), (nar .byte z11), (nar .byte z14)] 3 (0 : Int32) 1))])) rfl (by rw [hml]; rfl) (argsL := [(.int (3 : Int32)), (.int z8), (.int z11), (.int z14)]) (rest := [(.int (own_h [(nar .byte z8), (nar .byte z11), (nar .byte z14)] 3 (0 : Int32) 1))]) (lenOf pd_3 rfl) rfl (by show 2 * 0 + _ ≤ _; exact Nat.le_of_eq rfl) (hb hby at_205) (fun _ _ => ⟨rfl, e158, (by decide : 4 + 0 ≤ _), (by decide : 16 + 0 ≤ _)⟩)
                      dsimp only [Pt.U, Pt.locs, Pt.cells, Pt.slots] at X159 l159 y159 z159 st159 hQ159
                      subst l159 y159 z159
                      obtain ⟨rfl, N159q, e159⟩ := hQ159
                      have N159 := Fr.app N158 N159q
                      refine Go.back st159 ?_
                      show Go p.tables e below (P0 Z p0 p1 p2 p3 p4 p5 h0 n0 s) (T159.setTop (mkF m 208 #[.val (.int p0), .val (.int p1), .val (.int p2), .val (.int p3), .val (.int p4), .val (.int p5), .val (.int z2), .val (.int z5), .val (.int z8), .val (.int z11), .val (.int z14), .val (.ref b16), .val (.ref b29), .val (.ref b98), .val (.ref b117)] [(.int (f5 (3 : Int32) z8 z11 z14)), (.int (own_h [(nar .byte z8), (nar .byte z11), (nar .byte z14)] 3 (0 : Int32) 1))]))
                      have J161 : ∀ (T163 : State) (L163 : List Loc) (X163 : Stand p l e room_1 s m #[(.int p0), (.int p1), (.int p2), (.int p3), (.int p4), (.int p5)] below meth c T163 L163 4 16) (N163 : Fr n0 L163) (e163 : T163.heap = h145) (z162 : Bool) (hz162 : z162 = (if (own_h [(nar .byte z8), (nar .byte z11), (nar .byte z14)] 3 (0 : Int32) 1) = (f5 (3 : Int32) z8 z11 z14) then (if (own_h z95 (z2).toNatClampNeg z5 1) = (f5 z2 z8 z11 z14) then true else false) else false)), Go p.tables e below (P0 Z p0 p1 p2 p3 p4 p5 h0 n0 s) (T163.setTop (mkF m 235 #[.val (.int p0), .val (.int p1), .val (.int p2), .val (.int p3), .val (.int p4), .val (.int p5), .val (.int z2), .val (.int z5), .val (.int z8), .val (.int z11), .val (.int z14), .val (.ref b16), .val (.ref b29), .val (.ref b98), .val (.ref b117)] [(.int (b2i z162))])) := by
                        intro T163 L163 X163 N163 e163 z162 hz162
                        have r164 : f0 p0 p1 p2 p3 p4 p5 = z162 := by subst hz162; exact r97
                        show Go p.tables e below (P0 Z p0 p1 p2 p3 p4 p5 h0 n0 s) (T163.setTop (mkF m 235 #[.val (.int p0), .val (.int p1), .val (.int p2), .val (.int p3), .val (.int p4), .val (.int p5), .val (.int z2), .val (.int z5), .val (.int z8), .val (.int z11), .val (.int z14), .val (.ref b16), .val (.ref b29), .val (.ref b98), .val (.ref b117)] [(.int (b2i z162))]))
                        exact Go.retB (b := z162) X163 hx Bd.returns (hb hby at_235) Bd.notSynchronized ⟨by rw [r164], N163⟩ (by decide) (by decide)
                      have r165 : (if (own_h [(nar .byte z8), (nar .byte z11), (nar .byte z14)] 3 (0 : Int32) 1) = (f5 (3 : Int32) z8 z11 z14) then (if (own_h z95 (z2).toNatClampNeg z5 1) = (f5 z2 z8 z11 z14) then true else false) else false) = (if (own_h [(nar .byte z8), (nar .byte z11), (nar .byte z14)] 3 (0 : Int32) 1) = (f5 (3 : Int32) z8 z11 z14) then (if (own_h z95 (z2).toNatClampNeg z5 1) = (f5 z2 z8 z11 z14) then true else false) else false) := rfl
                      by_cases hc160 : (own_h [(nar .byte z8), (nar .byte z11), (nar .byte z14)] 3 (0 : Int32) 1) = (f5 (3 : Int32) z8 z11 z14)
                      · have r166 := r165.trans (if_pos hc160)
                        refine Go.back (fun t k => XS.icmpNo X159.here hx rfl (hb hby at_208) rfl (teq hc160).2 k) ?_
                        show Go p.tables e below (P0 Z p0 p1 p2 p3 p4 p5 h0 n0 s) (T159.setTop (mkF m 211 #[.val (.int p0), .val (.int p1), .val (.int p2), .val (.int p3), .val (.int p4), .val (.int p5), .val (.int z2), .val (.int z5), .val (.int z8), .val (.int z11), .val (.int z14), .val (.ref b16), .val (.ref b29), .val (.ref b98), .val (.ref b117)] []))
                        refine Go.back (fun t k => XS.aload X159.here hx rfl (hb hby at_211) rfl rfl  k) ?_
                        show Go p.tables e below (P0 Z p0 p1 p2 p3 p4 p5 h0 n0 s) (T159.setTop (mkF m 213 #[.val (.int p0), .val (.int p1), .val (.int p2), .val (.int p3), .val (.int p4), .val (.int p5), .val (.int z2), .val (.int z5), .val (.int z8), .val (.int z11), .val (.int z14), .val (.ref b16), .val (.ref b29), .val (.ref b98), .val (.ref b117)] [(.ref b117)]))
                        obtain ⟨cq167, kq167, q167a, q167b, q167c⟩ := isOf hZ e159 F154
                        obtain ⟨_, _, ⟨T167, L167, k167, n167⟩, -, X167, ⟨Lc167, hQ167, l167, y167, z167⟩, st167⟩ := X159.virtualBack hx (y := (⟨"com/example/careful_audit/carefulaudit/ByteSlice", "hashCode", "()I"⟩ : MethodName)) (z := (⟨"com/example/careful_audit/carefulaudit/ByteSlice", "hashCode", "()I"⟩ : MethodName)) hown (mvT hZ (hw _ (List.mem_of_getElem? (i := 21) rfl))) (mvT hZ (hw _ (List.mem_of_getElem? (i := 22) rfl))) (notFace_of_selects (args := #[]) (mvT hZ (hw _ (List.mem_of_getElem? (i := 24) rfl)))) (mvT hZ (hw _ (List.mem_of_getElem? (i := 24) rfl))) (mvT hZ (hw _ (List.mem_of_getElem? (i := 23) rfl))) (by decide) (backOf (W := 0) (rm4 l Z a0 hw [] b117 b29 z5 (z5 + z2) z95 ((z2).toNatClampNeg) h145 n0 F146 F155 F156 F157 F148 (own_wn (by rw [hz2]; exact own_n3 _) (by rw [hz5]; exact own_off _) (by simp [hz64, hz71, hz80, hz89, hz95, apply_ite List.length]))) hZ (hw _ (List.mem_of_getElem? (i := 25) rfl)) (hw _ (List.mem_of_getElem? (i := 3) rfl)) (by decide) (by decide)) q167a q167c (g := (mkF m 213 #[.val (.int p0), .val (.int p1), .val (.int p2), .val (.int p3), .val (.int p4), .val (.int p5), .val (.int z2), .val (.int z5), .val (.int z8), .val (.int z11), .val (.int z14), .val (.ref b16), .val (.ref b29), .val (.ref b98), .val (.ref b117)] [(.ref b117)])) rfl (by rw [hml]; rfl) (Steps.refl _) (argsL := []) (rest := []) (lenOf pd_2 rfl) rfl (by show 2 * 0 + _ ≤ _; exact Nat.le_of_eq rfl) (hb hby at_213) (fun _ _ => ⟨rfl, e159, (by decide : 4 + 0 ≤ _), (by decide : 16 + 0 ≤ _)⟩)
                        dsimp only [Pt.U, Pt.locs, Pt.cells, Pt.slots] at X167 l167 y167 z167 st167 hQ167
                        subst l167 y167 z167
                        obtain ⟨rfl, N167q, e167⟩ := hQ167
                        have N167 := Fr.app N159 N167q
                        refine Go.trans st167 ?_
                        show Go p.tables e below (P0 Z p0 p1 p2 p3 p4 p5 h0 n0 s) (T167.setTop (mkF m 216 #[.val (.int p0), .val (.int p1), .val (.int p2), .val (.int p3), .val (.int p4), .val (.int p5), .val (.int z2), .val (.int z5), .val (.int z8), .val (.int z11), .val (.int z14), .val (.ref b16), .val (.ref b29), .val (.ref b98), .val (.ref b117)] [(.int (own_h z95 (z2).toNatClampNeg z5 1))]))
                        refine Go.back (fun t k => XS.iload X167.here hx rfl (hb hby at_216) rfl  k) ?_
                        show Go p.tables e below (P0 Z p0 p1 p2 p3 p4 p5 h0 n0 s) (T167.setTop (mkF m 218 #[.val (.int p0), .val (.int p1), .val (.int p2), .val (.int p3), .val (.int p4), .val (.int p5), .val (.int z2), .val (.int z5), .val (.int z8), .val (.int z11), .val (.int z14), .val (.ref b16), .val (.ref b29), .val (.ref b98), .val (.ref b117)] [(.int z2), (.int (own_h z95 (z2).toNatClampNeg z5 1))]))
                        refine Go.back (fun t k => XS.iload X167.here hx rfl (hb hby at_218) rfl  k) ?_
                        show Go p.tables e below (P0 Z p0 p1 p2 p3 p4 p5 h0 n0 s) (T167.setTop (mkF m 220 #[.val (.int p0), .val (.int p1), .val (.int p2), .val (.int p3), .val (.int p4), .val (.int p5), .val (.int z2), .val (.int z5), .val (.int z8), .val (.int z11), .val (.int z14), .val (.ref b16), .val (.ref b29), .val (.ref b98), .val (.ref b117)] [(.int z8), (.int z2), (.int (own_h z95 (z2).toNatClampNeg z5 1))]))
                        refine Go.back (fun t k => XS.iload X167.here hx rfl (hb hby at_220) rfl  k) ?_
                        show Go p.tables e below (P0 Z p0 p1 p2 p3 p4 p5 h0 n0 s) (T167.setTop (mkF m 222 #[.val (.int p0), .val (.int p1), .val (.int p2), .val (.int p3), .val (.int p4), .val (.int p5), .val (.int z2), .val (.int z5), .val (.int z8), .val (.int z11), .val (.int z14), .val (.ref b16), .val (.ref b29), .val (.ref b98), .val (.ref b117)] [(.int z11), (.int z8), (.int z2), (.int (own_h z95 (z2).toNatClampNeg z5 1))]))
                        refine Go.back (fun t k => XS.iload X167.here hx rfl (hb hby at_222) rfl  k) ?_
                        show Go p.tables e below (P0 Z p0 p1 p2 p3 p4 p5 h0 n0 s) (T167.setTop (mkF m 224 #[.val (.int p0), .val (.int p1), .val (.int p2), .val (.int p3), .val (.int p4), .val (.int p5), .val (.int z2), .val (.int z5), .val (.int z8), .val (.int z11), .val (.int z14), .val (.ref b16), .val (.ref b29), .val (.ref b98), .val (.ref b117)] [(.int z14), (.int z11), (.int z8), (.int z2), (.int (own_h z95 (z2).toNatClampNeg z5 1))]))
                        obtain ⟨_, _, ⟨T168, L168, k168, n168⟩, -, X168, ⟨Lc168, hQ168, l168, y168, z168⟩, st168⟩ := Jvm.LawKit.callS X167 hx (y := (⟨"com/example/careful_audit/carefulaudit/ByteSliceHashCodePinLaw", "ref", "(IIII)I"⟩ : MethodName)) hown (mvT hZ (hw _ (List.mem_of_getElem? (i := 26) rfl))) (mvT hZ (hw _ (List.mem_of_getElem? (i := 27) rfl))) (mvT hZ (hw _ (List.mem_of_getElem? (i := 28) rfl))) (mvT hZ (hw _ (List.mem_of_getElem? (i := 29) rfl))) (by decide) (backOf (W := 1) (rm5 l Z a0 hw [] z2 z8 z11 z14 h145 n0) hZ (hw _ (List.mem_of_getElem? (i := 29) rfl)) (hw _ (List.mem_of_getElem? (i := 28) rfl)) (by decide) (by decide)) (g := (mkF m 224 #[.val (.int p0), .val (.int p1), .val (.int p2), .val (.int p3), .val (.int p4), .val (.int p5), .val (.int z2), .val (.int z5), .val (.int z8), .val (.int z11), .val (.int z14), .val (.ref b16), .val (.ref b29), .val (.ref b98), .val (.ref b117)] [(.int z14), (.int z11), (.int z8), (.int z2), (.int (own_h z95 (z2).toNatClampNeg z5 1))])) rfl (by rw [hml]; rfl) (argsL := [(.int z2), (.int z8), (.int z11), (.int z14)]) (rest := [(.int (own_h z95 (z2).toNatClampNeg z5 1))]) (lenOf pd_3 rfl) rfl (by show 2 * 0 + _ ≤ _; exact Nat.le_of_eq rfl) (hb hby at_224) (fun _ _ => ⟨rfl, e167, (by decide : 4 + 0 ≤ _), (by decide : 16 + 0 ≤ _)⟩)
                        dsimp only [Pt.U, Pt.locs, Pt.cells, Pt.slots] at X168 l168 y168 z168 st168 hQ168
                        subst l168 y168 z168
                        obtain ⟨rfl, N168q, e168⟩ := hQ168
                        have N168 := Fr.app N167 N168q
                        refine Go.back st168 ?_
                        show Go p.tables e below (P0 Z p0 p1 p2 p3 p4 p5 h0 n0 s) (T168.setTop (mkF m 227 #[.val (.int p0), .val (.int p1), .val (.int p2), .val (.int p3), .val (.int p4), .val (.int p5), .val (.int z2), .val (.int z5), .val (.int z8), .val (.int z11), .val (.int z14), .val (.ref b16), .val (.ref b29), .val (.ref b98), .val (.ref b117)] [(.int (f5 z2 z8 z11 z14)), (.int (own_h z95 (z2).toNatClampNeg z5 1))]))
                        by_cases hc169 : (own_h z95 (z2).toNatClampNeg z5 1) = (f5 z2 z8 z11 z14)
                        · have r170 := r166.trans (if_pos hc169)
                          refine Go.back (fun t k => XS.icmpNo X168.here hx rfl (hb hby at_227) rfl (teq hc169).2 k) ?_
                          show Go p.tables e below (P0 Z p0 p1 p2 p3 p4 p5 h0 n0 s) (T168.setTop (mkF m 230 #[.val (.int p0), .val (.int p1), .val (.int p2), .val (.int p3), .val (.int p4), .val (.int p5), .val (.int z2), .val (.int z5), .val (.int z8), .val (.int z11), .val (.int z14), .val (.ref b16), .val (.ref b29), .val (.ref b98), .val (.ref b117)] []))
                          refine Go.back (fun t k => XS.iconst X168.here hx rfl (hb hby at_230) k) ?_
                          show Go p.tables e below (P0 Z p0 p1 p2 p3 p4 p5 h0 n0 s) (T168.setTop (mkF m 231 #[.val (.int p0), .val (.int p1), .val (.int p2), .val (.int p3), .val (.int p4), .val (.int p5), .val (.int z2), .val (.int z5), .val (.int z8), .val (.int z11), .val (.int z14), .val (.ref b16), .val (.ref b29), .val (.ref b98), .val (.ref b117)] [(.int (1 : Int32))]))
                          refine Go.back (fun t k => XS.goto X168.here hx rfl (pc0 := 231) (pc' := 235) rfl (hb hby at_231) (by decide) (by decide) k) ?_
                          show Go p.tables e below (P0 Z p0 p1 p2 p3 p4 p5 h0 n0 s) (T168.setTop (mkF m 235 #[.val (.int p0), .val (.int p1), .val (.int p2), .val (.int p3), .val (.int p4), .val (.int p5), .val (.int z2), .val (.int z5), .val (.int z8), .val (.int z11), .val (.int z14), .val (.ref b16), .val (.ref b29), .val (.ref b98), .val (.ref b117)] [(.int (1 : Int32))]))
                          exact J161 _ _ X168 N168 e168 true r170.symm
                        · have r171 := r166.trans (if_neg hc169)
                          refine Go.back (fun t k => XS.icmpYes X168.here hx rfl (pc0 := 227) (pc' := 234) rfl (hb hby at_227) rfl (feq hc169).2 (by decide) (by decide) k) ?_
                          show Go p.tables e below (P0 Z p0 p1 p2 p3 p4 p5 h0 n0 s) (T168.setTop (mkF m 234 #[.val (.int p0), .val (.int p1), .val (.int p2), .val (.int p3), .val (.int p4), .val (.int p5), .val (.int z2), .val (.int z5), .val (.int z8), .val (.int z11), .val (.int z14), .val (.ref b16), .val (.ref b29), .val (.ref b98), .val (.ref b117)] []))
                          refine Go.back (fun t k => XS.iconst X168.here hx rfl (hb hby at_234) k) ?_
                          show Go p.tables e below (P0 Z p0 p1 p2 p3 p4 p5 h0 n0 s) (T168.setTop (mkF m 235 #[.val (.int p0), .val (.int p1), .val (.int p2), .val (.int p3), .val (.int p4), .val (.int p5), .val (.int z2), .val (.int z5), .val (.int z8), .val (.int z11), .val (.int z14), .val (.ref b16), .val (.ref b29), .val (.ref b98), .val (.ref b117)] [(.int (0 : Int32))]))
                          exact J161 _ _ X168 N168 e168 false r171.symm
                      · have r172 := r165.trans (if_neg hc160)
                        refine Go.back (fun t k => XS.icmpYes X159.here hx rfl (pc0 := 208) (pc' := 234) rfl (hb hby at_208) rfl (feq hc160).2 (by decide) (by decide) k) ?_
                        show Go p.tables e below (P0 Z p0 p1 p2 p3 p4 p5 h0 n0 s) (T159.setTop (mkF m 234 #[.val (.int p0), .val (.int p1), .val (.int p2), .val (.int p3), .val (.int p4), .val (.int p5), .val (.int z2), .val (.int z5), .val (.int z8), .val (.int z11), .val (.int z14), .val (.ref b16), .val (.ref b29), .val (.ref b98), .val (.ref b117)] []))
                        refine Go.back (fun t k => XS.iconst X159.here hx rfl (hb hby at_234) k) ?_
                        show Go p.tables e below (P0 Z p0 p1 p2 p3 p4 p5 h0 n0 s) (T159.setTop (mkF m 235 #[.val (.int p0), .val (.int p1), .val (.int p2), .val (.int p3), .val (.int p4), .val (.int p5), .val (.int z2), .val (.int z5), .val (.int z8), .val (.int z11), .val (.int z14), .val (.ref b16), .val (.ref b29), .val (.ref b98), .val (.ref b117)] [(.int (0 : Int32))]))
                        exact J161 _ _ X159 N159 e159 false r172.symm
                    exact J94 _ rfl F90
                  have r173 : (if (2 : Int32) < z2 then (List.set z80 ((z5 + (2 : Int32))).toNatClampNeg (nar .byte z14)) else z80) = (if (2 : Int32) < z2 then (List.set z80 ((z5 + (2 : Int32))).toNatClampNeg (nar .byte z14)) else z80) := rfl
                  by_cases hc85 : (2 : Int32) < z2
                  · have r174 := r173.trans (if_pos hc85)
                    refine Go.back (fun t k => XS.icmpNo X83.here hx rfl (hb hby at_145) rfl (tlt hc85).2.2.2 k) ?_
                    show Go p.tables e below (P0 Z p0 p1 p2 p3 p4 p5 h0 n0 s) (T83.setTop (mkF m 148 #[.val (.int p0), .val (.int p1), .val (.int p2), .val (.int p3), .val (.int p4), .val (.int p5), .val (.int z2), .val (.int z5), .val (.int z8), .val (.int z11), .val (.int z14), .val (.ref b16), .val (.ref b29), .unset, .unset] []))
                    refine Go.back (fun t k => XS.aload X83.here hx rfl (hb hby at_148) rfl rfl  k) ?_
                    show Go p.tables e below (P0 Z p0 p1 p2 p3 p4 p5 h0 n0 s) (T83.setTop (mkF m 150 #[.val (.int p0), .val (.int p1), .val (.int p2), .val (.int p3), .val (.int p4), .val (.int p5), .val (.int z2), .val (.int z5), .val (.int z8), .val (.int z11), .val (.int z14), .val (.ref b16), .val (.ref b29), .unset, .unset] [(.ref b29)]))
                    refine Go.back (fun t k => XS.iload X83.here hx rfl (hb hby at_150) rfl  k) ?_
                    show Go p.tables e below (P0 Z p0 p1 p2 p3 p4 p5 h0 n0 s) (T83.setTop (mkF m 152 #[.val (.int p0), .val (.int p1), .val (.int p2), .val (.int p3), .val (.int p4), .val (.int p5), .val (.int z2), .val (.int z5), .val (.int z8), .val (.int z11), .val (.int z14), .val (.ref b16), .val (.ref b29), .unset, .unset] [(.int z5), (.ref b29)]))
                    refine Go.back (fun t k => XS.iconst X83.here hx rfl (hb hby at_152) k) ?_
                    show Go p.tables e below (P0 Z p0 p1 p2 p3 p4 p5 h0 n0 s) (T83.setTop (mkF m 153 #[.val (.int p0), .val (.int p1), .val (.int p2), .val (.int p3), .val (.int p4), .val (.int p5), .val (.int z2), .val (.int z5), .val (.int z8), .val (.int z11), .val (.int z14), .val (.ref b16), .val (.ref b29), .unset, .unset] [(.int (2 : Int32)), (.int z5), (.ref b29)]))
                    refine Go.back (fun t k => XS.iadd X83.here hx rfl (hb hby at_153) rfl k) ?_
                    show Go p.tables e below (P0 Z p0 p1 p2 p3 p4 p5 h0 n0 s) (T83.setTop (mkF m 154 #[.val (.int p0), .val (.int p1), .val (.int p2), .val (.int p3), .val (.int p4), .val (.int p5), .val (.int z2), .val (.int z5), .val (.int z8), .val (.int z11), .val (.int z14), .val (.ref b16), .val (.ref b29), .unset, .unset] [(.int (z5 + (2 : Int32))), (.ref b29)]))
                    refine Go.back (fun t k => XS.iload X83.here hx rfl (hb hby at_154) rfl  k) ?_
                    show Go p.tables e below (P0 Z p0 p1 p2 p3 p4 p5 h0 n0 s) (T83.setTop (mkF m 156 #[.val (.int p0), .val (.int p1), .val (.int p2), .val (.int p3), .val (.int p4), .val (.int p5), .val (.int z2), .val (.int z5), .val (.int z8), .val (.int z11), .val (.int z14), .val (.ref b16), .val (.ref b29), .unset, .unset] [(.int z14), (.int (z5 + (2 : Int32))), (.ref b29)]))
                    obtain ⟨cl175, Ar175, hi175, -⟩ := F81.at (j := (z5 + (2 : Int32))) (own_o2 (by rw [hz5]; exact own_off _)).1 (by simpa using (own_b2 (by rw [hz5]; exact own_off _) (by simp [hz64, hz71, hz80, apply_ite List.length])))
                    obtain ⟨T175, h175, X175, e175, W175, st175⟩ := stB X83 hx hZ e83 Ar175 (j := (z5 + (2 : Int32))) hi175 (g := (mkF m 156 #[.val (.int p0), .val (.int p1), .val (.int p2), .val (.int p3), .val (.int p4), .val (.int p5), .val (.int z2), .val (.int z5), .val (.int z8), .val (.int z11), .val (.int z14), .val (.ref b16), .val (.ref b29), .unset, .unset] [(.int z14), (.int (z5 + (2 : Int32))), (.ref b29)])) rfl rfl (hb hby at_156)
                    have F176 : n0 ≤ h175.size := Nat.le_trans F78 (Keep.of_wr W175).1
                    have F177 : ArL Z h175 b16 .byte [(.int (nar .byte z8)), (.int (nar .byte z11)), (.int (nar .byte z14))] := F79.other W175 ne30
                    have F178 : ArL Z h175 b29 .byte (List.map Value.int (List.set z80 ((z5 + (2 : Int32))).toNatClampNeg (nar .byte z14))) := ArL.setI (xs := z80) F81 W175
                    have N175 := Fr.snoc X175 N83 g31
                    refine Go.back st175 ?_
                    show Go p.tables e below (P0 Z p0 p1 p2 p3 p4 p5 h0 n0 s) (T175.setTop (mkF m 157 #[.val (.int p0), .val (.int p1), .val (.int p2), .val (.int p3), .val (.int p4), .val (.int p5), .val (.int z2), .val (.int z5), .val (.int z8), .val (.int z11), .val (.int z14), .val (.ref b16), .val (.ref b29), .unset, .unset] []))
                    exact J86 _ _ X175 N175 h175 e175 (List.set z80 ((z5 + (2 : Int32))).toNatClampNeg (nar .byte z14)) r174.symm F176 F177 F178
                  · have r179 := r173.trans (if_neg hc85)
                    refine Go.back (fun t k => XS.icmpYes X83.here hx rfl (pc0 := 145) (pc' := 157) rfl (hb hby at_145) rfl (flt hc85).2.2.2 (by decide) (by decide) k) ?_
                    show Go p.tables e below (P0 Z p0 p1 p2 p3 p4 p5 h0 n0 s) (T83.setTop (mkF m 157 #[.val (.int p0), .val (.int p1), .val (.int p2), .val (.int p3), .val (.int p4), .val (.int p5), .val (.int z2), .val (.int z5), .val (.int z8), .val (.int z11), .val (.int z14), .val (.ref b16), .val (.ref b29), .unset, .unset] []))
                    exact J86 _ _ X83 N83 h82 e83 z80 r179.symm F78 F79 F81
                have r180 : (if (1 : Int32) < z2 then (List.set z71 ((z5 + (1 : Int32))).toNatClampNeg (nar .byte z11)) else z71) = (if (1 : Int32) < z2 then (List.set z71 ((z5 + (1 : Int32))).toNatClampNeg (nar .byte z11)) else z71) := rfl
                by_cases hc76 : (1 : Int32) < z2
                · have r181 := r180.trans (if_pos hc76)
                  refine Go.back (fun t k => XS.icmpNo X74.here hx rfl (hb hby at_130) rfl (tlt hc76).2.2.2 k) ?_
                  show Go p.tables e below (P0 Z p0 p1 p2 p3 p4 p5 h0 n0 s) (T74.setTop (mkF m 133 #[.val (.int p0), .val (.int p1), .val (.int p2), .val (.int p3), .val (.int p4), .val (.int p5), .val (.int z2), .val (.int z5), .val (.int z8), .val (.int z11), .val (.int z14), .val (.ref b16), .val (.ref b29), .unset, .unset] []))
                  refine Go.back (fun t k => XS.aload X74.here hx rfl (hb hby at_133) rfl rfl  k) ?_
                  show Go p.tables e below (P0 Z p0 p1 p2 p3 p4 p5 h0 n0 s) (T74.setTop (mkF m 135 #[.val (.int p0), .val (.int p1), .val (.int p2), .val (.int p3), .val (.int p4), .val (.int p5), .val (.int z2), .val (.int z5), .val (.int z8), .val (.int z11), .val (.int z14), .val (.ref b16), .val (.ref b29), .unset, .unset] [(.ref b29)]))
                  refine Go.back (fun t k => XS.iload X74.here hx rfl (hb hby at_135) rfl  k) ?_
                  show Go p.tables e below (P0 Z p0 p1 p2 p3 p4 p5 h0 n0 s) (T74.setTop (mkF m 137 #[.val (.int p0), .val (.int p1), .val (.int p2), .val (.int p3), .val (.int p4), .val (.int p5), .val (.int z2), .val (.int z5), .val (.int z8), .val (.int z11), .val (.int z14), .val (.ref b16), .val (.ref b29), .unset, .unset] [(.int z5), (.ref b29)]))
                  refine Go.back (fun t k => XS.iconst X74.here hx rfl (hb hby at_137) k) ?_
                  show Go p.tables e below (P0 Z p0 p1 p2 p3 p4 p5 h0 n0 s) (T74.setTop (mkF m 138 #[.val (.int p0), .val (.int p1), .val (.int p2), .val (.int p3), .val (.int p4), .val (.int p5), .val (.int z2), .val (.int z5), .val (.int z8), .val (.int z11), .val (.int z14), .val (.ref b16), .val (.ref b29), .unset, .unset] [(.int (1 : Int32)), (.int z5), (.ref b29)]))
                  refine Go.back (fun t k => XS.iadd X74.here hx rfl (hb hby at_138) rfl k) ?_
                  show Go p.tables e below (P0 Z p0 p1 p2 p3 p4 p5 h0 n0 s) (T74.setTop (mkF m 139 #[.val (.int p0), .val (.int p1), .val (.int p2), .val (.int p3), .val (.int p4), .val (.int p5), .val (.int z2), .val (.int z5), .val (.int z8), .val (.int z11), .val (.int z14), .val (.ref b16), .val (.ref b29), .unset, .unset] [(.int (z5 + (1 : Int32))), (.ref b29)]))
                  refine Go.back (fun t k => XS.iload X74.here hx rfl (hb hby at_139) rfl  k) ?_
                  show Go p.tables e below (P0 Z p0 p1 p2 p3 p4 p5 h0 n0 s) (T74.setTop (mkF m 141 #[.val (.int p0), .val (.int p1), .val (.int p2), .val (.int p3), .val (.int p4), .val (.int p5), .val (.int z2), .val (.int z5), .val (.int z8), .val (.int z11), .val (.int z14), .val (.ref b16), .val (.ref b29), .unset, .unset] [(.int z11), (.int (z5 + (1 : Int32))), (.ref b29)]))
                  obtain ⟨cl182, Ar182, hi182, -⟩ := F72.at (j := (z5 + (1 : Int32))) (own_o1 (by rw [hz5]; exact own_off _)).1 (by simpa using (own_b1 (by rw [hz5]; exact own_off _) (by simp [hz64, hz71, apply_ite List.length])))
                  obtain ⟨T182, h182, X182, e182, W182, st182⟩ := stB X74 hx hZ e74 Ar182 (j := (z5 + (1 : Int32))) hi182 (g := (mkF m 141 #[.val (.int p0), .val (.int p1), .val (.int p2), .val (.int p3), .val (.int p4), .val (.int p5), .val (.int z2), .val (.int z5), .val (.int z8), .val (.int z11), .val (.int z14), .val (.ref b16), .val (.ref b29), .unset, .unset] [(.int z11), (.int (z5 + (1 : Int32))), (.ref b29)])) rfl rfl (hb hby at_141)
                  have F183 : n0 ≤ h182.size := Nat.le_trans F69 (Keep.of_wr W182).1
                  have F184 : ArL Z h182 b16 .byte [(.int (nar .byte z8)), (.int (nar .byte z11)), (.int (nar .byte z14))] := F70.other W182 ne30
                  have F185 : ArL Z h182 b29 .byte (List.map Value.int (List.set z71 ((z5 + (1 : Int32))).toNatClampNeg (nar .byte z11))) := ArL.setI (xs := z71) F72 W182
                  have N182 := Fr.snoc X182 N74 g31
                  refine Go.back st182 ?_
                  show Go p.tables e below (P0 Z p0 p1 p2 p3 p4 p5 h0 n0 s) (T182.setTop (mkF m 142 #[.val (.int p0), .val (.int p1), .val (.int p2), .val (.int p3), .val (.int p4), .val (.int p5), .val (.int z2), .val (.int z5), .val (.int z8), .val (.int z11), .val (.int z14), .val (.ref b16), .val (.ref b29), .unset, .unset] []))
                  exact J77 _ _ X182 N182 h182 e182 (List.set z71 ((z5 + (1 : Int32))).toNatClampNeg (nar .byte z11)) r181.symm F183 F184 F185
                · have r186 := r180.trans (if_neg hc76)
                  refine Go.back (fun t k => XS.icmpYes X74.here hx rfl (pc0 := 130) (pc' := 142) rfl (hb hby at_130) rfl (flt hc76).2.2.2 (by decide) (by decide) k) ?_
                  show Go p.tables e below (P0 Z p0 p1 p2 p3 p4 p5 h0 n0 s) (T74.setTop (mkF m 142 #[.val (.int p0), .val (.int p1), .val (.int p2), .val (.int p3), .val (.int p4), .val (.int p5), .val (.int z2), .val (.int z5), .val (.int z8), .val (.int z11), .val (.int z14), .val (.ref b16), .val (.ref b29), .unset, .unset] []))
                  exact J77 _ _ X74 N74 h73 e74 z71 r186.symm F69 F70 F72
              have r187 : (if (0 : Int32) < z2 then (List.set z64 (z5).toNatClampNeg (nar .byte z8)) else z64) = (if (0 : Int32) < z2 then (List.set z64 (z5).toNatClampNeg (nar .byte z8)) else z64) := rfl
              by_cases hc67 : (0 : Int32) < z2
              · have r188 := r187.trans (if_pos hc67)
                refine Go.back (fun t k => XS.ifNo X59.here hx rfl (hb hby at_117) rfl ((if0 _ _).trans (tlt hc67).2.2.2) k) ?_
                show Go p.tables e below (P0 Z p0 p1 p2 p3 p4 p5 h0 n0 s) (T59.setTop (mkF m 120 #[.val (.int p0), .val (.int p1), .val (.int p2), .val (.int p3), .val (.int p4), .val (.int p5), .val (.int z2), .val (.int z5), .val (.int z8), .val (.int z11), .val (.int z14), .val (.ref b16), .val (.ref b29), .unset, .unset] []))
                refine Go.back (fun t k => XS.aload X59.here hx rfl (hb hby at_120) rfl rfl  k) ?_
                show Go p.tables e below (P0 Z p0 p1 p2 p3 p4 p5 h0 n0 s) (T59.setTop (mkF m 122 #[.val (.int p0), .val (.int p1), .val (.int p2), .val (.int p3), .val (.int p4), .val (.int p5), .val (.int z2), .val (.int z5), .val (.int z8), .val (.int z11), .val (.int z14), .val (.ref b16), .val (.ref b29), .unset, .unset] [(.ref b29)]))
                refine Go.back (fun t k => XS.iload X59.here hx rfl (hb hby at_122) rfl  k) ?_
                show Go p.tables e below (P0 Z p0 p1 p2 p3 p4 p5 h0 n0 s) (T59.setTop (mkF m 124 #[.val (.int p0), .val (.int p1), .val (.int p2), .val (.int p3), .val (.int p4), .val (.int p5), .val (.int z2), .val (.int z5), .val (.int z8), .val (.int z11), .val (.int z14), .val (.ref b16), .val (.ref b29), .unset, .unset] [(.int z5), (.ref b29)]))
                refine Go.back (fun t k => XS.iload X59.here hx rfl (hb hby at_124) rfl  k) ?_
                show Go p.tables e below (P0 Z p0 p1 p2 p3 p4 p5 h0 n0 s) (T59.setTop (mkF m 126 #[.val (.int p0), .val (.int p1), .val (.int p2), .val (.int p3), .val (.int p4), .val (.int p5), .val (.int z2), .val (.int z5), .val (.int z8), .val (.int z11), .val (.int z14), .val (.ref b16), .val (.ref b29), .unset, .unset] [(.int z8), (.int z5), (.ref b29)]))
                obtain ⟨cl189, Ar189, hi189, -⟩ := F65.at (j := z5) (own_o0 (by rw [hz5]; exact own_off _)).1 (by simpa using (own_b0 (by rw [hz5]; exact own_off _) (by simp [hz64, apply_ite List.length])))
                obtain ⟨T189, h189, X189, e189, W189, st189⟩ := stB X59 hx hZ e59 Ar189 (j := z5) hi189 (g := (mkF m 126 #[.val (.int p0), .val (.int p1), .val (.int p2), .val (.int p3), .val (.int p4), .val (.int p5), .val (.int z2), .val (.int z5), .val (.int z8), .val (.int z11), .val (.int z14), .val (.ref b16), .val (.ref b29), .unset, .unset] [(.int z8), (.int z5), (.ref b29)])) rfl rfl (hb hby at_126)
                have F190 : n0 ≤ h189.size := Nat.le_trans F60 (Keep.of_wr W189).1
                have F191 : ArL Z h189 b16 .byte [(.int (nar .byte z8)), (.int (nar .byte z11)), (.int (nar .byte z14))] := F61.other W189 ne30
                have F192 : ArL Z h189 b29 .byte (List.map Value.int (List.set z64 (z5).toNatClampNeg (nar .byte z8))) := ArL.setI (xs := z64) F65 W189
                have N189 := Fr.snoc X189 N59 g31
                refine Go.back st189 ?_
                show Go p.tables e below (P0 Z p0 p1 p2 p3 p4 p5 h0 n0 s) (T189.setTop (mkF m 127 #[.val (.int p0), .val (.int p1), .val (.int p2), .val (.int p3), .val (.int p4), .val (.int p5), .val (.int z2), .val (.int z5), .val (.int z8), .val (.int z11), .val (.int z14), .val (.ref b16), .val (.ref b29), .unset, .unset] []))
                exact J68 _ _ X189 N189 h189 e189 (List.set z64 (z5).toNatClampNeg (nar .byte z8)) r188.symm F190 F191 F192
              · have r193 := r187.trans (if_neg hc67)
                refine Go.back (fun t k => XS.ifYes X59.here hx rfl (pc0 := 117) (pc' := 127) rfl (hb hby at_117) rfl ((if0 _ _).trans (flt hc67).2.2.2) (by decide) (by decide) k) ?_
                show Go p.tables e below (P0 Z p0 p1 p2 p3 p4 p5 h0 n0 s) (T59.setTop (mkF m 127 #[.val (.int p0), .val (.int p1), .val (.int p2), .val (.int p3), .val (.int p4), .val (.int p5), .val (.int z2), .val (.int z5), .val (.int z8), .val (.int z11), .val (.int z14), .val (.ref b16), .val (.ref b29), .unset, .unset] []))
                exact J68 _ _ X59 N59 h59 e59 z64 r193.symm F60 F61 F65
            exact J63 _ rfl F62
          exact J13 _ rfl
        exact J10 _ rfl
      exact J7 _ rfl
    exact J4 _ rfl
  exact J1 _ rfl
theorem own_nar (x : Int32) : nar .byte (x.toInt8.toInt32) = x.toInt8.toInt32 := by simp [nar]
theorem own_getset (xs : List Int32) (i : Nat) (v : Int32) (h : i < xs.length) : List.getD (List.set xs i v) i 0 = v := by
  simp [List.getD_eq_getElem?_getD, List.getElem?_set, h]
theorem own_getother (xs : List Int32) (i j : Nat) (v : Int32) (h : j ≠ i) : List.getD (List.set xs j v) i 0 = List.getD xs i 0 := by
  simp [List.getD_eq_getElem?_getD, List.getElem?_set, h]
theorem own_r1 (a : Int32) : (31 : Int32) * 1 + a = 31 + a := rfl
theorem own_r2 (a b : Int32) : (31 : Int32) * ((31 : Int32) * 1 + a) + b = (961 + 31 * a) + b := by
  rw [Int32.mul_add]; rfl
theorem own_r3 (a b c : Int32) : (31 : Int32) * ((31 : Int32) * ((31 : Int32) * 1 + a) + b) + c = ((29791 + 961 * a) + 31 * b) + c := by
  rw [Int32.mul_add, Int32.mul_add, Int32.mul_add, ← Int32.mul_assoc, ← Int32.mul_assoc, ← Int32.mul_assoc]; rfl
theorem own_law (p0 p1 p2 p3 p4 p5 : Int32) : f0 p0 p1 p2 p3 p4 p5 = true := by
  unfold f0
  have hn := own_n3 p0
  generalize (p0 &&& (3 : Int32)) = n at *
  have ha := own_off p0
  generalize ((((p0).toUInt32 >>> ((2 : Int32) &&& 31).toUInt32).toInt32) &&& (3 : Int32)) = a at *
  dsimp only
  rw [own_nar p1, own_nar p2, own_nar p3]
  generalize p1.toInt8.toInt32 = b0
  generalize p2.toInt8.toInt32 = b1
  generalize p3.toInt8.toInt32 = b2
  generalize hxs : [(nar .byte ((p4).toInt8.toInt32)), (nar .byte ((((p4 >>> ((8 : Int32) &&& 31)))).toInt8.toInt32)), (nar .byte ((((p4 >>> ((16 : Int32) &&& 31)))).toInt8.toInt32)), (nar .byte ((((p4 >>> ((24 : Int32) &&& 31)))).toInt8.toInt32)), (nar .byte ((p5).toInt8.toInt32)), (nar .byte ((((p5 >>> ((8 : Int32) &&& 31)))).toInt8.toInt32)), (nar .byte ((((p5 >>> ((16 : Int32) &&& 31)))).toInt8.toInt32))] = xs
  have hl : xs.length = 7 := by subst hxs; rfl
  clear hxs
  have w : own_h [b0, b1, b2] 3 (0 : Int32) 1 = f5 (3 : Int32) b0 b1 b2 := own_r3 b0 b1 b2
  rw [if_pos w]
  have i0 : a.toNatClampNeg = a.toInt.toNat := rfl
  have i1 : (a + (1 : Int32)).toNatClampNeg = a.toInt.toNat + 1 := by simp only [Int32.toNatClampNeg]; rw [own_add ha (by decide), own_l1]; omega
  have i2 : (a + (2 : Int32)).toNatClampNeg = a.toInt.toNat + 2 := by simp only [Int32.toNatClampNeg]; rw [own_add ha (by decide), show (2 : Int32).toInt = 2 from rfl]; omega
  have i2' : (a + (1 : Int32) + (1 : Int32)).toNatClampNeg = a.toInt.toNat + 2 := by rw [Int32.add_assoc]; exact i2
  rw [i0, i1, i2]
  have k : a.toInt.toNat < 4 := by omega
  generalize a.toInt.toNat = o at *
  have hc : n = 0 ∨ n = 1 ∨ n = 2 ∨ n = 3 := by
    have : n.toInt = 0 ∨ n.toInt = 1 ∨ n.toInt = 2 ∨ n.toInt = 3 := by omega
    rcases this with h | h | h | h
    · exact Or.inl (Int32.toInt_inj.mp h)
    · exact Or.inr (Or.inl (Int32.toInt_inj.mp h))
    · exact Or.inr (Or.inr (Or.inl (Int32.toInt_inj.mp h)))
    · exact Or.inr (Or.inr (Or.inr (Int32.toInt_inj.mp h)))
  have fin : ∀ {x y : Int32}, x = y → (if x = y then true else false) = true := fun h => if_pos h
  rcases hc with rfl | rfl | rfl | rfl
  · exact fin rfl
  · refine fin ?_
    rw [if_neg (by decide), if_neg (by decide), if_pos (by decide)]
    show (31 : Int32) * 1 + List.getD _ a.toNatClampNeg 0 = 31 + b0
    rw [i0, own_getset _ _ _ (by omega)]; rfl
  · refine fin ?_
    rw [if_neg (by decide), if_pos (by decide), if_pos (by decide)]
    show (31 : Int32) * ((31 : Int32) * 1 + List.getD _ a.toNatClampNeg 0) + List.getD _ (a + (1 : Int32)).toNatClampNeg 0 = (961 + 31 * b0) + b1
    rw [i0, i1, own_getother _ _ _ _ (by omega), own_getset _ _ _ (by omega), own_getset _ _ _ (by simp; omega), own_r2]
  · refine fin ?_
    rw [if_pos (by decide), if_pos (by decide), if_pos (by decide)]
    show (31 : Int32) * ((31 : Int32) * ((31 : Int32) * 1 + List.getD _ a.toNatClampNeg 0) + List.getD _ (a + (1 : Int32)).toNatClampNeg 0) + List.getD _ (a + (1 : Int32) + (1 : Int32)).toNatClampNeg 0 = ((29791 + 961 * b0) + 31 * b1) + b2
    rw [i0, i1, i2', own_getother _ _ _ _ (by omega), own_getother _ _ _ _ (by omega), own_getset _ _ _ (by omega), own_getother _ _ _ _ (by omega), own_getset _ _ _ (by simp; omega), own_getset _ _ _ (by simp; omega), own_r3]
set_option maxRecDepth 65536 in
set_option maxHeartbeats 40000000 in
theorem comes_1 {Post : Tables → Env → Array Value → State → Outcome → State → Prop} (hpost : ∀ tb e args s v u, (limb_1_1.after args s (.returned v) u = true ∧ limb_1_2.after args s (.returned v) u = true ∧ True) → FrameEnd s (.returned v) u (Jvm.fieldLocs frame_1_writes args s ++ Jvm.arrayLocs frame_1_arrays args s ++ Jvm.staticLocs frame_1_statics s) 16 128 → Post tb e args s (.returned v) u) :
    ArmFor flags0 classFile x code maxLocals ret World_1 tables_1 room_1 Calls_1 rest_1 Pre_1 Post := by
  intro l hfl _ _ p e ha hc hk s m args below hf hA hF happ hP
  obtain ⟨hcalls, hrest, hpre⟩ := hP
  obtain ⟨-, -, -, hnamed, -, -, -, hat⟩ := (Spec.applies_iff hf).mp happ
  obtain ⟨hg, hn⟩ := and_e (Cond.before_iff.mp (show (Jvm.Cond.and given_1 narrow_1).before args s = true from hpre))
  obtain ⟨g1, g2⟩ := and_e hg
  obtain ⟨g3, g4⟩ := and_e g2
  obtain ⟨g5, g6⟩ := and_e g4
  obtain ⟨g7, g8⟩ := and_e g6
  obtain ⟨g9, g10⟩ := and_e g8
  obtain ⟨g11, g12⟩ := and_e g10
  obtain ⟨w0, w1, w2, w3, w4, w5, rfl⟩ : ∃ w0 w1 w2 w3 w4 w5 : Value, args = #[w0, w1, w2, w3, w4, w5] := by
    have hs : args.size = 6 := by simpa [Cond.value, given_1] using g1
    obtain ⟨L⟩ := args
    match L, hs with
    | [w0, w1, w2, w3, w4, w5], _ => exact ⟨w0, w1, w2, w3, w4, w5, rfl⟩
  have hw := fun d (hd : d ∈ tables_1) => atoms_spec (ws := Jvm.Cond.code x code maxLocals ret :: tables_1) hat d (List.mem_cons_of_mem _ hd)
  have hfit : Fit s := fun {y c} hc i hi => by
    obtain ⟨ha, rfl⟩ := Array.getElem?_eq_some_iff.mp hc
    have q := List.all_eq_true.mp ((Array.all_eq_true_iff_forall_mem.mp hF) _ (Array.getElem_mem ha)) i (List.mem_range.mpr hi)
    simpa [Array.getElem?_eq_getElem hi] using q
  obtain ⟨i0, ei0⟩ := is_v g3
  obtain rfl : w0 = (.int i0) := Option.some.inj ei0
  obtain ⟨i1, ei1⟩ := is_v g5
  obtain rfl : w1 = (.int i1) := Option.some.inj ei1
  obtain ⟨i2, ei2⟩ := is_v g7
  obtain rfl : w2 = (.int i2) := Option.some.inj ei2
  obtain ⟨i3, ei3⟩ := is_v g9
  obtain rfl : w3 = (.int i3) := Option.some.inj ei3
  obtain ⟨i4, ei4⟩ := is_v g11
  obtain rfl : w4 = (.int i4) := Option.some.inj ei4
  obtain ⟨i5, ei5⟩ := is_v g12
  obtain rfl : w5 = (.int i5) := Option.some.inj ei5
  obtain ⟨n, o, h1, h2, h3, v, L, rfl, hQ, hq⟩ := rm0 l s _ hw tables_1 i0 i1 i2 i3 i4 i5 s.heap s.heap.size (Nat.le_refl _) p e ha hc hk s m _ below hf ((Spec.applies_iff_loose hf).mp happ).1 ⟨rfl, State.Warmed39.refl s, rfl⟩ trivial
  have hv : v = some (.int (b2i (f0 i0 i1 i2 i3 i4 i5))) := hQ.1
  rw [own_law i0 i1 i2 i3 i4 i5] at hv
  subst hv
  have N : Fr s.heap.size L := by first | exact hQ.2.1 | exact hQ.2
  refine ⟨n, _, h1, h2, h3, hpost _ _ _ _ _ _ ⟨Cond.after_iff.mpr rfl, Cond.after_iff.mpr (eq_i res_at (Term.int_eval (1)) rfl), trivial⟩ ⟨hq.1, hq.2.1, (hq.2.2.sift fun y hy => Or.inr (N y hy)).mono (by decide) (by decide)⟩⟩
theorem main_1_1 : Claimed_1_1 := comes_1 fun _ _ _ _ _ _ h hF => ⟨h.1, hF⟩
theorem main_1_2 : Claimed_1_2 := comes_1 fun _ _ _ _ _ _ h hF => ⟨h.2.1, hF⟩
end Jvm.Pilot.@@N@@
namespace Jvm.Pilot.@@N@@
open Jvm Jvm.ClassFile Sem Op Lib Jvm.Free Jvm.Stand Jvm.Pilot.@@N@@.Jvm.D
/-! MADE BY PROGRAM (witnessworld.py) out of the Statement's table words and the real class files: 9 classes; the members and pool entries that the words name. The judged class is class 1, her method 1. -/
namespace start1
open Jvm.ClassFile
def u (s : String) : CpInfo := .utf8 (stringToUtf16 s)
/-- a pool by its gaps: so many unusable entries, then the entry; so many at the end -/
def gap : Nat → List CpInfo → List CpInfo
  | 0, r => r
  | n + 1, r => .unusable :: gap n r
def poolList (es : List (Nat × CpInfo)) (last : Nat) : List CpInfo := es.foldr (fun e r => gap e.1 (e.2 :: r)) (gap last [])
def pool (es : List (Nat × CpInfo)) (last : Nat) : Array CpInfo := ⟨poolList es last⟩
def fileOf (pool : Array CpInfo) (this : Nat) (attrs : Array Attribute := #[]) (ms : Array MethodInfo := #[]) (fl : Nat := 33) (sup : Nat := 0) (ifs : Array Nat := #[]) (fds : Array FieldInfo := #[]) : ClassFile where
  minorVersion := 0
  majorVersion := 65
  constantPool := pool
  accessFlags := fl
  thisClass := this
  superClass := sup
  interfaces := ifs
  fields := fds
  methods := ms
  attributes := attrs
def plain (name : String) (sup : Option ClassId) : Class where
  name := name
  kind := .ordinary
  loader := none
  accessFlags := 33
  super := sup
  interfaces := #[]
  cf := none
  fields := #[]
  methods := #[]
  instanceTypes := #[]
  staticTypes := #[]
  resolved := #[]
  callSites := []
  init := .initialized
  statics := none
  mirror := none

def pool0 : Array CpInfo := pool [(5, u "<init>"), (0, u "()V"), (1, .class_ 10), (1, u "java/lang/Object")] 113

def k0c0 : Code := { maxStack := 0, maxLocals := 1, code := object_method_1_code, exceptionTable := #[], attributes := #[] }
def k0m0 : Method := { name := "<init>", desc := "()V", sig := { parameters := [], returnType := none }, accessFlags := 1, code := some k0c0 }
/-- java/lang/Object -/
def k0 : Class := { plain "java/lang/Object" none with
  accessFlags := 33
  interfaces := #[]
  cf := some (fileOf pool0 8 #[] #[{ accessFlags := 1, nameIndex := 5, descriptorIndex := 6, attributes := #[] }] 33 0 #[] #[])
  fields := #[]
  methods := #[k0m0]
  instanceTypes := #[]
  staticTypes := #[]
  resolved := Array.replicate 124 none
  statics := none }

def pool1 : Array CpInfo := pool [(2, .class_ 4), (1, u "java/lang/Object"), (0, u "<init>"), (0, u "()V"), (0, .class_ 8), (0, u "com/example/careful_audit/carefulaudit/ByteSlice"), (0, .methodref 7 10), (0, .nameAndType 5 11), (0, u "([B)V"), (0, .methodref 7 13), (0, .nameAndType 14 15), (0, u "point"), (0, u "([BII)V"), (0, .methodref 7 17), (0, .nameAndType 18 19), (0, u "hashCode"), (0, u "()I"), (0, .methodref 21 22), (0, .class_ 23), (0, .nameAndType 24 25), (0, u "com/example/careful_audit/carefulaudit/ByteSliceHashCodePinLaw"), (0, u "ref"), (0, u "(IIII)I"), (2, u "law"), (0, u "(IIIIII)Z")] 5

def k1m0 : Method := { name := "<init>", desc := "()V", sig := { parameters := [], returnType := none }, accessFlags := 1, code := none }
def k1c1 : Code := { maxStack := 5, maxLocals := 15, code := code, exceptionTable := #[], attributes := #[] }
def k1m1 : Method := { name := "law", desc := "(IIIIII)Z", sig := { parameters := [.int, .int, .int, .int, .int, .int], returnType := some .boolean }, accessFlags := 9, code := some k1c1 }
def k1c2 : Code := { maxStack := 3, maxLocals := 4, code := method_3_code, exceptionTable := #[], attributes := #[] }
def k1m2 : Method := { name := "ref", desc := "(IIII)I", sig := { parameters := [.int, .int, .int, .int], returnType := some .int }, accessFlags := 10, code := some k1c2 }
/-- com/example/careful_audit/carefulaudit/ByteSliceHashCodePinLaw -/
def k1 : Class := { plain "com/example/careful_audit/carefulaudit/ByteSliceHashCodePinLaw" (some 0) with
  accessFlags := 49
  interfaces := #[]
  cf := some (fileOf pool1 21 #[] #[{ accessFlags := 1, nameIndex := 5, descriptorIndex := 6, attributes := #[] }, { accessFlags := 9, nameIndex := 28, descriptorIndex := 29, attributes := #[] }, { accessFlags := 10, nameIndex := 24, descriptorIndex := 25, attributes := #[] }] 49 2 #[] #[])
  fields := #[]
  methods := #[k1m0, k1m1, k1m2]
  instanceTypes := #[]
  staticTypes := #[]
  resolved := Array.replicate 35 none
  statics := none }

def pool2 : Array CpInfo := pool [(2, .class_ 4), (1, u "com/example/careful_audit/carefulaudit/ByteSlice"), (0, u "<init>"), (0, u "([B)V"), (0, .methodref 8 9), (0, .class_ 10), (0, .nameAndType 5 11), (0, u "java/lang/Object"), (0, u "()V"), (0, .fieldref 2 13), (0, .nameAndType 14 15), (0, u "bytes"), (0, u "[B"), (0, .fieldref 2 17), (0, .nameAndType 18 19), (0, u "to"), (0, u "I"), (0, .fieldref 2 21), (0, .nameAndType 22 19), (0, u "from"), (16, u "point"), (0, u "([BII)V"), (4, u "hashCode"), (0, u "()I")] 2

def k2m0 : Method := { name := "<init>", desc := "()V", sig := { parameters := [], returnType := none }, accessFlags := 0, code := none }
def k2c1 : Code := { maxStack := 2, maxLocals := 2, code := prog_6_method_2_code, exceptionTable := #[], attributes := #[] }
def k2m1 : Method := { name := "<init>", desc := "([B)V", sig := { parameters := [(.array .byte)], returnType := none }, accessFlags := 0, code := some k2c1 }
def k2c2 : Code := { maxStack := 2, maxLocals := 4, code := prog_6_method_3_code, exceptionTable := #[], attributes := #[] }
def k2m2 : Method := { name := "point", desc := "([BII)V", sig := { parameters := [(.array .byte), .int, .int], returnType := none }, accessFlags := 0, code := some k2c2 }
def k2c3 : Code := { maxStack := 3, maxLocals := 3, code := prog_6_method_7_code, exceptionTable := #[], attributes := #[] }
def k2m3 : Method := { name := "hashCode", desc := "()I", sig := { parameters := [], returnType := some .int }, accessFlags := 1, code := some k2c3 }
/-- com/example/careful_audit/carefulaudit/ByteSlice -/
def k2 : Class := { plain "com/example/careful_audit/carefulaudit/ByteSlice" (some 0) with
  accessFlags := 32
  interfaces := #[]
  cf := some (fileOf pool2 2 #[] #[{ accessFlags := 0, nameIndex := 5, descriptorIndex := 11, attributes := #[] }, { accessFlags := 0, nameIndex := 5, descriptorIndex := 6, attributes := #[] }, { accessFlags := 0, nameIndex := 39, descriptorIndex := 40, attributes := #[] }, { accessFlags := 1, nameIndex := 45, descriptorIndex := 46, attributes := #[] }] 32 8 #[] #[{ accessFlags := 2, nameIndex := 14, descriptorIndex := 15, attributes := #[] }, { accessFlags := 2, nameIndex := 22, descriptorIndex := 19, attributes := #[] }, { accessFlags := 2, nameIndex := 18, descriptorIndex := 19, attributes := #[] }])
  fields := #[{ name := "bytes", type := (.array .byte), accessFlags := 2, slot := 0, constantValue := 0 }, { name := "from", type := .int, accessFlags := 2, slot := 1, constantValue := 0 }, { name := "to", type := .int, accessFlags := 2, slot := 2, constantValue := 0 }]
  methods := #[k2m0, k2m1, k2m2, k2m3]
  instanceTypes := #[(.array .byte), .int, .int]
  staticTypes := #[]
  resolved := Array.replicate 49 none
  statics := none }

def pool3 : Array CpInfo := pool [(1, u "java/lang/Cloneable"), (0, .class_ 1), (0, u "java/lang/Object"), (0, .class_ 3)] 3

/-- java/lang/Cloneable -/
def k3 : Class := { plain "java/lang/Cloneable" (some 0) with
  accessFlags := 1537
  interfaces := #[]
  cf := some (fileOf pool3 2 #[] #[] 1537 4 #[] #[])
  fields := #[]
  methods := #[]
  instanceTypes := #[]
  staticTypes := #[]
  resolved := Array.replicate 8 none
  statics := none }

def pool4 : Array CpInfo := pool [(1, u "java/io/Serializable"), (0, .class_ 1), (0, u "java/lang/Object"), (0, .class_ 3)] 3

/-- java/io/Serializable -/
def k4 : Class := { plain "java/io/Serializable" (some 0) with
  accessFlags := 1537
  interfaces := #[]
  cf := some (fileOf pool4 2 #[] #[] 1537 4 #[] #[])
  fields := #[]
  methods := #[]
  instanceTypes := #[]
  staticTypes := #[]
  resolved := Array.replicate 8 none
  statics := none }

/-- the primitive byte -/
def k5 : Class := { plain "byte" none with kind := .primitive 'B', accessFlags := 0x411 }
/-- [B -/
def k6 : Class := { plain "[B" (some 0) with kind := .array 5 .byte, interfaces := #[3, 4], accessFlags := 1041 }

/-- the primitive int -/
def k7 : Class := { plain "int" none with kind := .primitive 'I', accessFlags := 0x411 }
/-- [I -/
def k8 : Class := { plain "[I" (some 0) with kind := .array 7 .int, interfaces := #[3, 4], accessFlags := 1041 }

def heap : Heap := #[]
def classes : Array Class := #[k0, k1, k2, k3, k4, k5, k6, k7, k8]
def interned : List (Array UInt16 × Addr) := []
def slotsUsed : Nat := 0
def theMethod : MethodId := ⟨1, 1⟩
def args0 : Array Value := #[.int 5, .int 7, .int 1, .int 3, .int 8, .int 9]
def aboutOver (below : List Frame) : State where
  vm := { classes := classes, interned := interned.toArray }
  heap := heap
  slotsUsed := slotsUsed
  threads := #[{ frames := .invoking theMethod args0 :: below }]
def below0 : List Frame := [.native { method := ⟨0, 0⟩, args := #[] }]
def about1 : State := aboutOver below0
def p0 : Program := .bare "" "" ""
def e0 : Env := launch0.env 0 0 0
theorem w_frames : about1.frames = Frame.invoking theMethod args0 :: below0 := rfl
set_option maxRecDepth 65536 in
theorem w_args : argsFit about1.vm theMethod args0 = true := by decide +kernel
set_option maxRecDepth 65536 in
theorem w_heap : heapFits about1 = true := by decide +kernel
set_option maxRecDepth 65536 in
theorem w_runnable : about1.curStatus? = some .runnable := by decide +kernel
set_option maxRecDepth 65536 in
theorem w_alone : about1.alone = true := by decide +kernel
set_option maxRecDepth 65536 in
theorem w_named : about1.methodNamed? x = some theMethod := by decide +kernel
set_option maxRecDepth 65536 in
theorem w_hears : about1.hears theMethod below0 = true := by decide +kernel
set_option maxRecDepth 65536 in
theorem w_ripe : about1.ripe theMethod args0 below0 = true := by decide +kernel
theorem w_running : about1.status = .running := rfl
set_option maxRecDepth 65536 in
theorem w_room : about1.hasRoom e0.platform room_1 = true :=
  launch0.hasRoom_least _ room_1 (by decide +kernel) (by decide +kernel) (by decide +kernel) (by decide +kernel) (by decide +kernel) (by decide +kernel)
theorem allAtoms_all (ts : List Jvm.Cond) (a : Array Jvm.Value) (st : Jvm.State) : (allAtoms ts).before a st = ts.all (fun c => c.before a st) := by
  induction ts with
  | nil => rfl
  | cons c t ih =>
    show (Jvm.Cond.and c (allAtoms t)).before a st = _
    rw [Jvm.Cond.before_and, ih, List.all_cons]
def words1 : List Jvm.Cond := Jvm.Cond.code x code maxLocals ret :: tables_1
/-- a 'code' word, met by the world's own term for the bytes: nothing is compared byte by byte -/
theorem code_word {y : MethodName} {bytes : ByteArray} {mx : Nat} {rt : Option FieldType} {a : Array Value} {s : State} {m : MethodId} {meth : Method} {c : Code} (h1 : s.methodNamed? y = some m) (h2 : s.vm.method? m = some meth) (h3 : meth.code = some c) (h4 : c.code = bytes)
    (h5 : (c.maxLocals == mx && c.exceptionTable.isEmpty && decide (c.maxStack ≤ mostOperands) && decide (meth.sig.returnType = rt) && !meth.locks && decide (parseMethodDescriptor y.desc = some meth.sig)) = true) : (Jvm.Cond.code y bytes mx rt).before a s = true := by
  simp only [Bool.and_eq_true, beq_iff_eq, Bool.not_eq_true', decide_eq_true_eq] at h5
  obtain ⟨⟨⟨⟨⟨g1, g2⟩, g3⟩, g4⟩, g5⟩, g6⟩ := h5
  simp [Cond.before, Cond.holds, Cond.value, h1, h2, h3, h4, g1, g2, g3, g4, g5, g6]
def isCode : Jvm.Cond → Bool
  | .code _ _ _ _ => true
  | _ => false
theorem all_split {L : List Jvm.Cond} {P : Jvm.Cond → Bool} (h1 : L.all (fun c => isCode c || P c) = true) (h2 : ∀ c ∈ L.filter isCode, P c = true) : L.all P = true := by
  refine List.all_eq_true.mpr fun c hc => ?_
  have h := List.all_eq_true.mp h1 c hc
  rcases Bool.eq_false_or_eq_true (isCode c) with hi | hi
  · exact h2 c (List.mem_filter.mpr ⟨hc, hi⟩)
  · simpa [hi] using h
set_option maxRecDepth 65536 in
theorem w_c0 : (Jvm.Cond.code x code maxLocals ret).before args0 about1 = true := code_word (m := ⟨1, 1⟩) (meth := k1m1) (c := k1c1) (by decide +kernel) rfl rfl rfl (by decide +kernel)
set_option maxRecDepth 65536 in
theorem w_c1 : (Jvm.Cond.code ({ cls := "com/example/careful_audit/carefulaudit/ByteSlice", name := "<init>", desc := "([B)V" } : Jvm.MethodName) prog_6_method_2_code (2 : Nat) (Option.none : Option Jvm.ClassFile.FieldType)).before args0 about1 = true := code_word (m := ⟨2, 1⟩) (meth := k2m1) (c := k2c1) (by decide +kernel) rfl rfl rfl (by decide +kernel)
set_option maxRecDepth 65536 in
theorem w_c2 : (Jvm.Cond.code ({ cls := "java/lang/Object", name := "<init>", desc := "()V" } : Jvm.MethodName) object_method_1_code (1 : Nat) (Option.none : Option Jvm.ClassFile.FieldType)).before args0 about1 = true := code_word (m := ⟨0, 0⟩) (meth := k0m0) (c := k0c0) (by decide +kernel) rfl rfl rfl (by decide +kernel)
set_option maxRecDepth 65536 in
theorem w_c3 : (Jvm.Cond.code ({ cls := "com/example/careful_audit/carefulaudit/ByteSlice", name := "point", desc := "([BII)V" } : Jvm.MethodName) prog_6_method_3_code (4 : Nat) (Option.none : Option Jvm.ClassFile.FieldType)).before args0 about1 = true := code_word (m := ⟨2, 2⟩) (meth := k2m2) (c := k2c2) (by decide +kernel) rfl rfl rfl (by decide +kernel)
set_option maxRecDepth 65536 in
theorem w_c4 : (Jvm.Cond.code ({ cls := "com/example/careful_audit/carefulaudit/ByteSlice", name := "hashCode", desc := "()I" } : Jvm.MethodName) prog_6_method_7_code (3 : Nat) (Option.some Jvm.ClassFile.FieldType.int)).before args0 about1 = true := code_word (m := ⟨2, 3⟩) (meth := k2m3) (c := k2c3) (by decide +kernel) rfl rfl rfl (by decide +kernel)
set_option maxRecDepth 65536 in
theorem w_c5 : (Jvm.Cond.code ({ cls := "com/example/careful_audit/carefulaudit/ByteSliceHashCodePinLaw", name := "ref", desc := "(IIII)I" } : Jvm.MethodName) method_3_code (4 : Nat) (Option.some Jvm.ClassFile.FieldType.int)).before args0 about1 = true := code_word (m := ⟨1, 2⟩) (meth := k1m2) (c := k1c2) (by decide +kernel) rfl rfl rfl (by decide +kernel)
def codes1 : List Jvm.Cond := [Jvm.Cond.code x code maxLocals ret, Jvm.Cond.code ({ cls := "com/example/careful_audit/carefulaudit/ByteSlice", name := "<init>", desc := "([B)V" } : Jvm.MethodName) prog_6_method_2_code (2 : Nat) (Option.none : Option Jvm.ClassFile.FieldType), Jvm.Cond.code ({ cls := "java/lang/Object", name := "<init>", desc := "()V" } : Jvm.MethodName) object_method_1_code (1 : Nat) (Option.none : Option Jvm.ClassFile.FieldType), Jvm.Cond.code ({ cls := "com/example/careful_audit/carefulaudit/ByteSlice", name := "point", desc := "([BII)V" } : Jvm.MethodName) prog_6_method_3_code (4 : Nat) (Option.none : Option Jvm.ClassFile.FieldType), Jvm.Cond.code ({ cls := "com/example/careful_audit/carefulaudit/ByteSlice", name := "hashCode", desc := "()I" } : Jvm.MethodName) prog_6_method_7_code (3 : Nat) (Option.some Jvm.ClassFile.FieldType.int), Jvm.Cond.code ({ cls := "com/example/careful_audit/carefulaudit/ByteSliceHashCodePinLaw", name := "ref", desc := "(IIII)I" } : Jvm.MethodName) method_3_code (4 : Nat) (Option.some Jvm.ClassFile.FieldType.int)]
set_option maxRecDepth 65536 in
theorem codes_eq : words1.filter isCode = codes1 := rfl
theorem w_codes : ∀ c ∈ words1.filter isCode, c.before args0 about1 = true := by
  rw [codes_eq]
  intro c hc
  simp only [codes1, List.mem_cons, List.not_mem_nil, or_false] at hc
  rcases hc with rfl | rfl | rfl | rfl | rfl | rfl
  · exact w_c0
  · exact w_c1
  · exact w_c2
  · exact w_c3
  · exact w_c4
  · exact w_c5
set_option maxRecDepth 65536 in
theorem w_t1 : (words1.take 24).all (fun c => isCode c || c.before args0 about1) = true := by decide +kernel
set_option maxRecDepth 65536 in
theorem w_t2 : (words1.drop 24).all (fun c => isCode c || c.before args0 about1) = true := by decide +kernel
theorem w_tables : (allAtoms (Jvm.Cond.code x code maxLocals ret :: tables_1)).before args0 about1 = true := by
  rw [allAtoms_all]
  show words1.all (fun c => c.before args0 about1) = true
  refine all_split ?_ w_codes
  rw [← List.take_append_drop 24 words1, List.all_append, w_t1, w_t2]
  rfl
set_option maxRecDepth 65536 in
theorem w_case : (Jvm.Cond.and given_1 narrow_1).before args0 about1 = true := by decide +kernel
theorem w_applies : (headSpec (Jvm.Cond.code x code maxLocals ret :: tables_1) room_1).applies x e0.platform about1 = true :=
  (Spec.applies_iff w_frames).mpr ⟨w_running, w_runnable, w_alone, w_named, w_hears, w_ripe, w_room, w_tables⟩
theorem atStart : AtStart classFile x code maxLocals ret World_1 tables_1 room_1 Calls_1 rest_1 Pre_1 launch0 p0 e0 about1 theMethod args0 below0 :=
  ⟨lists_1, trivial, launch0.admits_env _ _ _, launch0.least_env, fairChoices_fair.cas, fairChoices_fair.clock, w_frames, w_args, w_heap, w_applies, trivial, trivial, w_case⟩
end start1
theorem witness_1 : WitnessClaimed_1 := ⟨start1.p0, start1.e0, start1.about1, start1.theMethod, start1.args0, start1.below0, start1.atStart⟩
end Jvm.Pilot.@@N@@
