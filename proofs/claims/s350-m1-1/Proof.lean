import JvmDerived
import JvmDerived.Pilot.@@N@@Statement
import JvmDerived.Pilot.@@N@@Code
set_option linter.unusedVariables false
set_option linter.unusedSimpArgs false
namespace Jvm.RoadKit
open Sem ClassFile Op Lib Jvm.Stand Jvm.Free Jvm.LawKit
section OwnKit
variable {p : Program} {l : Launch} {e : Env} {R : Room} {s : State} {m : MethodId} {args : Array Value} {below : List Frame} {meth : Method} {c : Code} {T : State} {locs : List Loc} {cells slots : Nat}
/-- a boolean as the machine's int -/
def b2i (b : Bool) : Int32 := bif b then 1 else 0
theorem b2i_t {b : Bool} (h : b = true) : ¬ b2i b = 0 := by subst h; decide
theorem b2i_f {b : Bool} (h : ¬ b = true) : b2i b = 0 := by cases b <;> first | rfl | exact absurd rfl h
theorem b2i_inj {a b : Bool} (h : b2i a = b2i b) : a = b := by cases a <;> cases b <;> first | rfl | exact absurd h (by decide)
theorem nar_b2i (b : Bool) : nar .boolean (b2i b) = b2i b := by cases b <;> decide
theorem let_of {α β : Type} {x : β} {z v : α} {b : α → β} (hz : z = v) (r : x = (let y := v; b y)) : x = b z := by subst hz; exact r
/-- from the state U the walk comes to an end that P holds of -/
def Go (tb : Tables) (e : Env) (below : List Frame) (P : Outcome → State → Prop) (U : State) : Prop := ∃ s₂ o, Steps tb e below U s₂ ∧ s₂.status = .running ∧ Ended s₂ below o ∧ P o s₂
theorem Go.back {tb : Tables} {P : Outcome → State → Prop} {U V : State} (h : ∀ t, Steps tb e below V t → Steps tb e below U t) (k : Go tb e below P V) : Go tb e below P U := by
  obtain ⟨s2, o, h1, h2⟩ := k
  exact ⟨s2, o, h _ h1, h2⟩
theorem Go.trans {tb : Tables} {P : Outcome → State → Prop} {U V : State} (h : Steps tb e below U V) (k : Go tb e below P V) : Go tb e below P U := by
  obtain ⟨s2, o, h1, h2⟩ := k
  exact ⟨s2, o, Steps.trans h h1, h2⟩
abbrev Fin (s : State) (Q : Option Value → Heap → List Loc → Prop) (K S : Nat) : Outcome → State → Prop := fun o U' => ∃ v L, o = .returned v ∧ Q v U'.heap L ∧ FrameEnd s o U' L K S
theorem retI0 (X : Stand p l e R s m args below meth c T locs cells slots) (hx : p.tables.exec = Jvm.exec) {pc : Nat} {Ls : Array Slot} {z : Int32} {rest : List Value} (hret : meth.sig.returnType = some .int) (hd : decode c.code pc = .ok (.ireturn, 1)) {fs : List Frame}
    (hl : ∀ (f : JFrame) (acts : List Action), f.method = m → f.locked = none → f.entered = [] → (doReturn e (T.setTop f) acts (some (.int z))).1 = T.setFrames fs) : Steps p.tables e below (T.setTop (mkF m pc Ls (.int z :: rest))) (T.setFrames fs) := by
  have hm' : T.vm.method? m = some meth := X.method'
  have hn : narrow .int (.int z) = .int z := rfl
  show Steps p.tables e below (T.setTop { method := m, pc := pc, locals := Ls, stack := _ :: rest, locked := none }) _
  jvm_step X.here [X.here.top, hx, hd, hm', hret, hn]
  first | (intro acts; rw [hl _ acts rfl rfl rfl]) | rw [hl _ _ rfl rfl rfl]
  exact Steps.refl _
theorem Go.retI (X : Stand p l e R s m args below meth c T locs cells slots) (hx : p.tables.exec = Jvm.exec) {pc : Nat} {Ls : Array Slot} {z : Int32} {rest : List Value} (hret : meth.sig.returnType = some .int) (hd : decode c.code pc = .ok (.ireturn, 1)) (hlk : meth.locks = false) {Q : Option Value → Heap → List Loc → Prop} {K S : Nat} (hQ : Q (some (.int z)) T.heap locs) (hc : cells ≤ K) (hs : slots ≤ S) :
    Go p.tables e below (Fin s Q K S) (T.setTop (mkF m pc Ls (.int z :: rest))) := by
  obtain ⟨fs, hr, hrun, hended, hW, hsame⟩ := X.leave (v := some (.int z)) (fun h => by rw [hret] at h; cases h) hlk
  exact ⟨_, _, retI0 X hx hret hd hr, hrun, hended, _, _, rfl, hQ, ⟨_, rfl⟩, hW, hsame.mono hc hs⟩
theorem Go.retN (X : Stand p l e R s m args below meth c T locs cells slots) (hx : p.tables.exec = Jvm.exec) {pc : Nat} {Ls : Array Slot} {z : Int32} {rest : List Value} {t : FieldType} (hret : meth.sig.returnType = some t) (ht : t = .boolean ∨ t = .byte ∨ t = .char ∨ t = .short) (hd : decode c.code pc = .ok (.ireturn, 1)) (hlk : meth.locks = false) {Q : Option Value → Heap → List Loc → Prop} {K S : Nat} (hQ : Q (some (.int (nar t z))) T.heap locs) (hc : cells ≤ K) (hs : slots ≤ S) :
    Go p.tables e below (Fin s Q K S) (T.setTop (mkF m pc Ls (.int z :: rest))) := by
  obtain ⟨fs, hr, hrun, hended, hW, hsame⟩ := X.leave (v := some (.int (nar t z))) (fun h => by rw [hret] at h; cases h) hlk
  exact ⟨_, _, Jvm.RoadKit.retN X hx hret ht hd hr, hrun, hended, _, _, rfl, hQ, ⟨_, rfl⟩, hW, hsame.mono hc hs⟩
theorem Go.retB (X : Stand p l e R s m args below meth c T locs cells slots) (hx : p.tables.exec = Jvm.exec) {pc : Nat} {Ls : Array Slot} {b : Bool} {rest : List Value} (hret : meth.sig.returnType = some .boolean) (hd : decode c.code pc = .ok (.ireturn, 1)) (hlk : meth.locks = false) {Q : Option Value → Heap → List Loc → Prop} {K S : Nat} (hQ : Q (some (.int (b2i b))) T.heap locs) (hc : cells ≤ K) (hs : slots ≤ S) :
    Go p.tables e below (Fin s Q K S) (T.setTop (mkF m pc Ls (.int (b2i b) :: rest))) := Go.retN X hx hret (Or.inl rfl) hd hlk (by rw [nar_b2i]; exact hQ) hc hs
theorem Go.retJ (X : Stand p l e R s m args below meth c T locs cells slots) (hx : p.tables.exec = Jvm.exec) {pc : Nat} {Ls : Array Slot} {z : Int64} (hret : meth.sig.returnType = some .long) (hd : decode c.code pc = .ok (.lreturn, 1)) (hlk : meth.locks = false) {Q : Option Value → Heap → List Loc → Prop} {K S : Nat} (hQ : Q (some (.long z)) T.heap locs) (hc : cells ≤ K) (hs : slots ≤ S) :
    Go p.tables e below (Fin s Q K S) (T.setTop (mkF m pc Ls [.long z])) := by
  obtain ⟨fs, hr, hrun, hended, hW, hsame⟩ := X.leave (v := some (.long z)) (fun h => by rw [hret] at h; cases h) hlk
  exact ⟨_, _, X.lreturnOut hx hret hd hr, hrun, hended, _, _, rfl, hQ, ⟨_, rfl⟩, hW, hsame.mono hc hs⟩
theorem Go.retR (X : Stand p l e R s m args below meth c T locs cells slots) (hx : p.tables.exec = Jvm.exec) {pc : Nat} {Ls : Array Slot} {a : Addr} {t : FieldType} (hret : meth.sig.returnType = some t) (ht : t.isReference = true) (hd : decode c.code pc = .ok (.areturn, 1)) (hlk : meth.locks = false) {Q : Option Value → Heap → List Loc → Prop} {K S : Nat} (hQ : Q (some (.ref a)) T.heap locs) (hc : cells ≤ K) (hs : slots ≤ S) :
    Go p.tables e below (Fin s Q K S) (T.setTop (mkF m pc Ls [.ref a])) := by
  obtain ⟨fs, hr, hrun, hended, hW, hsame⟩ := X.leave (v := some (.ref a)) (fun h => by rw [hret] at h; cases h) hlk
  exact ⟨_, _, X.areturnOut hx rfl hret ht hd hr, hrun, hended, _, _, rfl, hQ, ⟨_, rfl⟩, hW, hsame.mono hc hs⟩
theorem Go.retV (X : Stand p l e R s m args below meth c T locs cells slots) (hx : p.tables.exec = Jvm.exec) {pc : Nat} {Ls : Array Slot} (hret : meth.sig.returnType = none) (hd : decode c.code pc = .ok (.return_, 1)) (hlk : meth.locks = false) {Q : Option Value → Heap → List Loc → Prop} {K S : Nat} (hQ : Q none T.heap locs) (hc : cells ≤ K) (hs : slots ≤ S) :
    Go p.tables e below (Fin s Q K S) (T.setTop (mkF m pc Ls [])) := by
  obtain ⟨fs, hr, hrun, hended, hW, hsame⟩ := X.leave (v := none) (fun _ => rfl) hlk
  exact ⟨_, _, X.returnOut hx hret hd hr, hrun, hended, _, _, rfl, hQ, ⟨_, rfl⟩, hW, hsame.mono hc hs⟩
theorem lremM {g : JFrame} {target : State} (X : Stand p l e R s m args below meth c T locs cells slots) (hx : p.tables.exec = Jvm.exec) (hg : g.method = m) {x y : Int64} {rest : List Value} (hd : decode c.code g.pc = .ok (.lrem, 1)) (hs : g.stack = .long y :: .long x :: rest) (hy : y ≠ 0)
    (hr : Steps p.tables e below (T.setTop { g with pc := g.pc + 1, stack := .long (x % y) :: rest }) target) : Steps p.tables e below (T.setTop g) target :=
  XS.lrem X.here hx hg hd hs hy (by rw [lrem_mod x y]; exact hr)
/-- the slots written so far get a name -/
theorem pk (X : Stand p l e R s m args below meth c T locs cells slots) {k : Nat} (N : Fr k locs) : ∃ L, Stand p l e R s m args below meth c T L cells slots ∧ Fr k L := ⟨_, X, N⟩
theorem storeS_i {ls l' : Array Slot} {k : Nat} {o : Slot} {x : Int32} (hold : ls[k]? = some o) (h : One o) (q : ls.setIfInBounds k (.val (.int x)) = l') : storeLocals ls k (.int x) = some l' := by
  rw [XS.store1 hold h rfl, q]
theorem storeS_a {ls l' : Array Slot} {k : Nat} {o : Slot} {a : Addr} (hold : ls[k]? = some o) (h : One o) (q : ls.setIfInBounds k (.val (.ref a)) = l') : storeLocals ls k (.ref a) = some l' := by
  rw [XS.store1 hold h rfl, q]
end OwnKit
section OwnArr
variable {p : Program} {l : Launch} {e : Env} {R : Room} {s : State} {m : MethodId} {args : Array Value} {below : List Frame} {meth : Method} {c : Code} {T : State} {locs : List Loc} {cells slots : Nat} {Z : State} {h h' : Heap} {a b : Addr} {ty : FieldType} {vs : List Value} {v : Value} {sl : Nat} {ws : List Addr}
/-- the array at a, of the kind ty, holds just this list -/
def ArL (Z : State) (h : Heap) (a : Addr) (ty : FieldType) (vs : List Value) : Prop := ∃ c : Cell, Arr Z h a c ty ∧ c.slots.toList = vs
theorem ArL.lt (F : ArL Z h a ty vs) : a < h.size := by obtain ⟨c, A, -⟩ := F; exact A.lt
theorem ArL.ext (F : ArL Z h a ty vs) (E : Ext h h') : ArL Z h' a ty vs := by obtain ⟨c, A, r⟩ := F; exact ⟨c, A.ext E, r⟩
theorem ArL.other (F : ArL Z h b ty vs) (W : Wr h h' a sl v) (q : b ≠ a) : ArL Z h' b ty vs := by obtain ⟨c, A, r⟩ := F; exact ⟨c, A.other W q, r⟩
theorem ArL.keep (F : ArL Z h a ty vs) (K : Keep h h' ws) (q : a ∉ ws) : ArL Z h' a ty vs := by obtain ⟨c, A, r⟩ := F; exact ⟨c, ⟨K.2.1 a c A.1 q, A.2⟩, r⟩
theorem ArL.new {k : ClassId} {z : Int32} (A : Arr Z h a (newA k ty z) ty) {n : Nat} (q : z.toNatClampNeg = n) : ArL Z h a ty (List.replicate n (defaultValue ty)) := ⟨_, A, by subst q; simp [newA]⟩
theorem ArL.set (F : ArL Z h a ty vs) (W : Wr h h' a sl v) : ArL Z h' a ty (vs.set sl v) := by
  obtain ⟨c, A, r⟩ := F
  exact ⟨_, A.same W, by subst r; simp [Cell.setSlot]⟩
/-- a place of it: what a load and a store ask -/
theorem ArL.at (F : ArL Z h a ty vs) {j : Int32} (h0 : ¬ j < 0) (hj : j.toNatClampNeg < vs.length) : ∃ c : Cell, Arr Z h a c ty ∧ ¬ (j < 0 ∨ c.slots.size ≤ j.toNatClampNeg) ∧ c.slots[j.toNatClampNeg]? = some (vs[j.toNatClampNeg]'hj) := by
  obtain ⟨c, A, rfl⟩ := F
  have q : j.toNatClampNeg < c.slots.size := by simpa using hj
  refine ⟨c, A, fun z => z.elim h0 (fun y => absurd q (Nat.not_lt.mpr y)), ?_⟩
  rw [Array.getElem?_eq_getElem q]
  simp
theorem ArL.get (F : ArL Z h a ty vs) {j : Int32} (h0 : ¬ j < 0) (hv : vs[j.toNatClampNeg]? = some v) : ∃ c : Cell, Arr Z h a c ty ∧ ¬ (j < 0 ∨ c.slots.size ≤ j.toNatClampNeg) ∧ c.slots[j.toNatClampNeg]? = some v := by
  obtain ⟨hj, rfl⟩ := List.getElem?_eq_some_iff.mp hv
  exact F.at h0 hj
theorem ArL.setI {xs : List Int32} {x : Int32} {i : Nat} (F : ArL Z h a ty (List.map Value.int xs)) (W : Wr h h' a i (.int x)) : ArL Z h' a ty (List.map Value.int (xs.set i x)) := by
  rw [List.map_set]; exact F.set W
theorem ArL.setJ {xs : List Int64} {x : Int64} {i : Nat} (F : ArL Z h a ty (List.map Value.long xs)) (W : Wr h h' a i (.long x)) : ArL Z h' a ty (List.map Value.long (xs.set i x)) := by
  rw [List.map_set]; exact F.set W
theorem ArL.newI {k : ClassId} {z : Int32} (A : Arr Z h a (newA k ty z) ty) {n : Nat} (q : z.toNatClampNeg = n) (hd : defaultValue ty = .int 0 := by rfl) : ArL Z h a ty (List.map Value.int (List.replicate n (0 : Int32))) := by
  rw [List.map_replicate, ← hd]; exact ArL.new A q
theorem ArL.newJ {k : ClassId} {z : Int32} (A : Arr Z h a (newA k ty z) ty) {n : Nat} (q : z.toNatClampNeg = n) (hd : defaultValue ty = .long 0 := by rfl) : ArL Z h a ty (List.map Value.long (List.replicate n (0 : Int64))) := by
  rw [List.map_replicate, ← hd]; exact ArL.new A q
theorem getI (xs : List Int32) {i : Nat} (q : i < xs.length) : (List.map Value.int xs)[i]? = some (.int (xs.getD i 0)) := by
  rw [List.getElem?_map, List.getD_eq_getElem?_getD, List.getElem?_eq_getElem q]; rfl
theorem getJ (xs : List Int64) {i : Nat} (q : i < xs.length) : (List.map Value.long xs)[i]? = some (.long (xs.getD i 0)) := by
  rw [List.getElem?_map, List.getD_eq_getElem?_getD, List.getElem?_eq_getElem q]; rfl
theorem ArL.len (F : ArL Z h a ty vs) : ∃ c : Cell, Arr Z h a c ty ∧ c.slots.size = vs.length := by
  obtain ⟨c, A, rfl⟩ := F
  exact ⟨c, A, by simp⟩
end OwnArr
end Jvm.RoadKit
namespace Jvm.RoadKit
open Sem ClassFile Op Lib Jvm.Stand Jvm.Free Jvm.LawKit
section OwnRefs
variable {p : Program} {l : Launch} {e : Env} {R : Room} {s : State} {m : MethodId} {args : Array Value} {below : List Frame} {meth : Method} {c : Code} {T : State} {locs : List Loc} {cells slots : Nat} {Z : State} {a0 : Array Value} {h : Heap} {vm0 : Vm}
/-- getfield through an entry that is resolved already -/
theorem getFR (X : Stand p l e R s m args below meth c T locs cells slots) (hx : p.tables.exec = Jvm.exec) (hZ : Z.Warmed39 s.vm) {own O n d : String} {index : Nat} (hown : s.vm.findClass own = some m.cls) (w : (Cond.fieldRef own index O n d).before a0 Z = true)
    (eT : T.heap = h) {a : Addr} {v : Value} (F : Fld Z h a O n d v) {g : JFrame} (hg : g.method = m) {rest : List Value} (hs : g.stack = .ref a :: rest) (hd : decode c.code g.pc = .ok (.getfield index, 3)) : ∃ T', Stand p l e R s m args below meth c T' locs cells slots ∧ T'.heap = h ∧ ∀ target, Steps p.tables e below (T'.setTop { g with pc := g.pc + 3, stack := v :: rest }) target → Steps p.tables e below (T.setTop g) target := by
  obtain ⟨cell, cf, k, i, f, h1, h2, h3, h4, -, -, h7⟩ := F
  have hT : Z.Warmed39 T.vm := wtrans hZ X.warmed
  have w' := Cond.fieldRef_warmed39 hT w
  have hc : (Z.setVm T.vm).vm.findClass own = some m.cls := by
    show T.vm.findClass own = _
    rw [X.warmed.alike.findClass]; exact hown
  obtain ⟨c2, k2, i2, f2, q1, q2⟩ := Cond.fieldRef_spec hc w'
  obtain ⟨k', hi, -⟩ := State.fieldFound?_setVm (s := Z) hT.alike h2
  cases hi.symm.trans q1
  have q2' : T.vm.fieldReady m.cls index cf f := q2
  refine ⟨T, X, eT, fun target hrest => ?_⟩
  subst hg
  have hcell : T.heap[a]? = some cell := by rw [eT]; exact h1
  jvm_step X.here [hx, hd, getfield.wp_ready (e := e) (s := T) (f := g) X.here.top q2' h3 hs hcell h4 h7]
  exact hrest
/-- invokespecial of a constructor through an entry that is resolved already -/
theorem initReady (X : Stand p l e R s m args below meth c T locs cells slots) (hexec : p.tables.exec = Jvm.exec) (hZ : Z.Warmed39 s.vm) {own : String} (hown : s.vm.findClass own = some m.cls) {idx : Nat} {t : MethodName} (ht1 : t.name = "<init>")
    (hnot : t.cls ≠ "java/lang/invoke/MethodHandle" ∧ t.cls ≠ "java/lang/invoke/VarHandle") {bytes : ByteArray} {maxL : Nat}
    (href : (Cond.methodRef own idx t).before a0 Z = true) (hinst : (Cond.instanceMethod t).before a0 Z = true) (hcode : (Cond.code t bytes maxL none).before a0 Z = true)
    {f : JFrame} (hf : f.method = m) {a : Addr} {argsL rest : List Value} (hlen : ∀ sig, parseMethodDescriptor t.desc = some sig → argsL.length = sig.parameters.length) (hstack : f.stack = argsL.reverse ++ .ref a :: rest) (hd : decode c.code f.pc = .ok (.invokespecial idx, 3)) :
    ∃ tm, s.methodNamed? t = some tm ∧
      ∀ target, (∀ acts, Steps p.tables e below (doInvoke e (T.setTop { f with stack := rest }) acts tm (.ref a :: argsL).toArray).1 target) → Steps p.tables e below (T.setTop f) target := by
  subst hf
  have hT : Z.Warmed39 T.vm := wtrans hZ X.warmed
  obtain ⟨obj, methO, hnO, hmO, hstO, habO⟩ := Cond.instanceMethod_spec hinst
  obtain ⟨methO', cO, hmO', hcO, hbO, hlO, -, hlockO, -, hsigO⟩ := Cond.code_spec hnO hcode
  cases hmO.symm.trans hmO'
  obtain ⟨kO, hkO, hnameO⟩ := className_of_methodNamed hnO
  obtain ⟨hnameMO, hdescO⟩ := name_of_methodNamed hnO hmO
  have hc : (Z.setVm T.vm).vm.findClass own = some f.method.cls := by
    show T.vm.findClass own = _
    rw [X.warmed.alike.findClass]; exact hown
  have w' := Cond.methodRef_warmed39 hT hnO hnot href
  obtain ⟨m2, c2, q1, q2, q3, q4⟩ := Cond.methodRef_named e hc w'
  have hnT : (Z.setVm T.vm).methodNamed? t = some obj := by rw [State.methodNamed?_setVm hT.alike]; exact hnO
  have hn2 : m2 = obj := Option.some.inj (q1.symm.trans (State.methodFound?_of_named hnT hnot))
  subst hn2
  have hcc : c2 = m2.cls := Option.some.inj (q3.symm.trans (findClass_of_methodNamed hnT))
  subst hcc
  obtain ⟨kO₂, hkO₂, heO₂⟩ := hT.alike.2.2 _ _ hkO
  have hmO₂ : T.vm.method? m2 = some methO := by rw [hT.alike.method?]; exact hmO
  have hfound : lookupSpecial T.vm m2.cls "<init>" methO.desc = .method m2 := by
    rw [hT.alike.lookupSpecial, hdescO, ← ht1]; exact lookupSpecial_of_named hnO hmO hstO
  have hns : s.methodNamed? t = some m2 := by
    have q : (Z.setVm s.vm).methodNamed? t = some m2 := by rw [State.methodNamed?_setVm hZ.alike]; exact hnO
    exact q
  have q4' : namesResolved T.vm f.method.cls idx m2.cls := q4
  have q2' : T.vm.methodReady f.method.cls idx m2 := q2
  refine ⟨m2, hns, fun target hrest => ?_⟩
  jvm_step X.here [hexec, hd, invokespecial.wp_init (e := e) (s := T) (k := kO₂) (meth := methO) (m := m2) (a := a) (args := argsL) (rest := rest) (f := f) X.here.top q4' q2' hkO₂ hmO₂ (by rw [hnameMO]; exact ht1) hstO habO hfound (hlen _ hsigO) hstack]
  exact hrest
theorem specialBackR (X : Stand p l e R s m args below meth c T locs cells slots) (hexec : p.tables.exec = Jvm.exec) (hZ : Z.Warmed39 s.vm) {own : String} {index : Nat} {y : MethodName} (hy1 : y.name = "<init>")
    (hown : s.vm.findClass own = some m.cls) (hlink : (Cond.methodRef own index y).before a0 Z = true) (hinst : (Cond.instanceMethod y).before a0 Z = true)
    {bytes : ByteArray} {maxL : Nat} (hcode : (Cond.code y bytes maxL none).before a0 Z = true)
    (hy : y.cls ≠ "java/lang/invoke/MethodHandle" ∧ y.cls ≠ "java/lang/invoke/VarHandle")
    {W : Nat} {Pre : Pt → Array Value → Prop} {Post : Pt → Array Value → Option Value → Pt → Prop} (hK : Back l R p e below s args y 3 W Pre Post)
    {g : JFrame} (hg : g.method = m) (hsize : g.locals.size = c.maxLocals) {s₀ : State} (hcome : Steps p.tables e below s₀ (T.setTop g)) {a : Addr} {argsL rest : List Value}
    (hlen : ∀ sig, parseMethodDescriptor y.desc = some sig → argsL.length = sig.parameters.length) (hstack : g.stack = argsL.reverse ++ .ref a :: rest) (hW : 2 * g.monitorRoom + (rest.map fun v => v.category).sum ≤ W)
    (hdg : decode c.code g.pc = .ok (.invokespecial index, 3)) (hpre : ∀ vm₁, s.WarmedH vm₁ → Pre ⟨T.setVm vm₁, locs, cells, slots⟩ (.ref a :: argsL).toArray) :
    ∃ (v : Option Value) (vm₁ : Vm) (B : Pt), s.WarmedH vm₁ ∧ Stand p l e R s m args below meth c B.U B.locs B.cells B.slots ∧ Post ⟨T.setVm vm₁, locs, cells, slots⟩ (.ref a :: argsL).toArray v B ∧
      Steps p.tables e below s₀ (B.U.setTop { g with pc := g.pc + 3, stack := v.toList ++ rest }) := by
  obtain ⟨mk, hnamed, hstep₁⟩ := initReady X hexec hZ hown hy1 hy hlink hinst hcode (f := g) hg hlen hstack hdg
  obtain ⟨v, B, X', hpost, hsteps⟩ := hK m meth c ⟨T.setVm T.vm, locs, cells, slots⟩ { g with stack := rest } (.invokespecial index) mk (.ref a :: argsL).toArray X hg hsize hdg hW (X.named hnamed) (hpre T.vm X.warmed)
  exact ⟨v, T.vm, B, X.warmed, X', hpost, (hcome.trans (hstep₁ _ fun acts => by rw [doInvoke_state]; exact Steps.refl _)).trans hsteps⟩
theorem specialBackSR (X : Stand p l e R s m args below meth c T locs cells slots) (hexec : p.tables.exec = Jvm.exec) (hZ : Z.Warmed39 s.vm) {own : String} {index : Nat} {y : MethodName} (hy1 : y.name = "<init>")
    (hown : s.vm.findClass own = some m.cls) (hlink : (Cond.methodRef own index y).before a0 Z = true) (hinst : (Cond.instanceMethod y).before a0 Z = true)
    {bytes : ByteArray} {maxL : Nat} (hcode : (Cond.code y bytes maxL none).before a0 Z = true)
    (hy : y.cls ≠ "java/lang/invoke/MethodHandle" ∧ y.cls ≠ "java/lang/invoke/VarHandle")
    {W : Nat} {Pre : Pt → Array Value → Prop} {Post : Pt → Array Value → Option Value → Pt → Prop} (hK : BackS l R p e below s args y 3 W Pre Post)
    {g : JFrame} (hg : g.method = m) (hsize : g.locals.size = c.maxLocals) {s₀ : State} (hcome : Steps p.tables e below s₀ (T.setTop g)) {a : Addr} {argsL rest : List Value}
    (hlen : ∀ sig, parseMethodDescriptor y.desc = some sig → argsL.length = sig.parameters.length) (hstack : g.stack = argsL.reverse ++ .ref a :: rest) (hW : 2 * g.monitorRoom + (rest.map fun v => v.category).sum ≤ W)
    (hdg : decode c.code g.pc = .ok (.invokespecial index, 3)) (hpre : ∀ vm₁, s.WarmedH vm₁ → Pre ⟨T.setVm vm₁, locs, cells, slots⟩ (.ref a :: argsL).toArray) :
    ∃ (v : Option Value) (vm₁ : Vm) (B : Pt), s.WarmedH vm₁ ∧ Stand p l e R (s.setVm B.U.vm) m args below meth c B.U B.locs B.cells B.slots ∧ s.Since B.U.vm B.U.heap.size ∧ T.heap.size ≤ B.U.heap.size ∧ Post ⟨T.setVm vm₁, locs, cells, slots⟩ (.ref a :: argsL).toArray v B ∧
      Steps p.tables e below s₀ (B.U.setTop { g with pc := g.pc + 3, stack := v.toList ++ rest }) := by
  obtain ⟨mk, hnamed, hstep₁⟩ := initReady X hexec hZ hown hy1 hy hlink hinst hcode (f := g) hg hlen hstack hdg
  obtain ⟨v, B, X', hS, hgr, hpost, hsteps⟩ := hK m meth c ⟨T.setVm T.vm, locs, cells, slots⟩ { g with stack := rest } (.invokespecial index) mk (.ref a :: argsL).toArray X hg hsize hdg hW (X.named hnamed) (hpre T.vm X.warmed)
  exact ⟨v, T.vm, B, X.warmed, X', hS, hgr, hpost, (hcome.trans (hstep₁ _ fun acts => by rw [doInvoke_state]; exact Steps.refl _)).trans hsteps⟩
/-- a private method is selected by itself, where the class is no interface (as another method's word tells) -/
theorem own_selpriv {C : String} {y z : MethodName} (hz : z.cls = y.cls) (wsel : (Cond.selects C z z).before args s = true) (hpriv : s.PrivateAt y) (hinst : (Cond.instanceMethod y).before args s = true) (hy : y.cls ≠ "java/lang/invoke/MethodHandle" ∧ y.cls ≠ "java/lang/invoke/VarHandle") :
    (Cond.selects y.cls y y).before args s = true := by
  obtain ⟨c2, r2, m2, -, -, q3, -, kP, hkP, hkPi⟩ := Cond.selects_spec wsel
  exact selects_self_of_private (hz ▸ findClass_of_methodNamed q3) hkP hkPi hpriv hinst hy
theorem Go.retVW0 (X : Stand p l e R (s.setVm vm0) m args below meth c T locs cells slots) (hx : p.tables.exec = Jvm.exec) {n : Nat} (hS : s.Since vm0 n) (hn : n ≤ T.heap.size) {pc : Nat} {Ls : Array Slot} (hret : meth.sig.returnType = none) (hd : decode c.code pc = .ok (.return_, 1)) (hlk : meth.locks = false)
    {Qa : Option Value → Heap → List Loc → Prop} {K S : Nat} (hQ : Qa none T.heap locs) (hc : cells ≤ K) (hs : slots ≤ S) :
    Go p.tables e below (fun o U' => ∃ v L, o = .returned v ∧ Qa v U'.heap L ∧ ReturnedEndW s o U' L K S) (T.setTop (mkF m pc Ls [])) := by
  obtain ⟨fs, hr, hrun, hended, e1, e2, e3, e4⟩ := X.leaveW hS hn (v := none) (fun _ => rfl) hlk
  exact ⟨_, _, X.returnOut hx hret hd hr, hrun, hended, _, _, rfl, hQ, e1, e2, e3, e4.mono hc hs⟩
theorem Go.retRW0 (X : Stand p l e R (s.setVm vm0) m args below meth c T locs cells slots) (hx : p.tables.exec = Jvm.exec) {n : Nat} (hS : s.Since vm0 n) (hn : n ≤ T.heap.size) {pc : Nat} {Ls : Array Slot} {a : Addr} {t : FieldType} (hret : meth.sig.returnType = some t) (ht : t.isReference = true) (hd : decode c.code pc = .ok (.areturn, 1)) (hlk : meth.locks = false)
    {Qa : Option Value → Heap → List Loc → Prop} {K S : Nat} (hQ : Qa (some (.ref a)) T.heap locs) (hc : cells ≤ K) (hs : slots ≤ S) :
    Go p.tables e below (fun o U' => ∃ v L, o = .returned v ∧ Qa v U'.heap L ∧ ReturnedEndW s o U' L K S) (T.setTop (mkF m pc Ls [.ref a])) := by
  obtain ⟨fs, hr, hrun, hended, e1, e2, e3, e4⟩ := X.leaveW hS hn (v := some (.ref a)) (fun h => by rw [hret] at h; cases h) hlk
  exact ⟨_, _, X.areturnOut hx rfl hret ht hd hr, hrun, hended, _, _, rfl, hQ, e1, e2, e3, e4.mono hc hs⟩
theorem Go.retBW0 (X : Stand p l e R (s.setVm vm0) m args below meth c T locs cells slots) (hx : p.tables.exec = Jvm.exec) {n : Nat} (hS : s.Since vm0 n) (hn : n ≤ T.heap.size) {pc : Nat} {Ls : Array Slot} {b : Bool} {rest : List Value} (hret : meth.sig.returnType = some .boolean) (hd : decode c.code pc = .ok (.ireturn, 1)) (hlk : meth.locks = false)
    {Qa : Option Value → Heap → List Loc → Prop} {K S : Nat} (hQ : Qa (some (.int (b2i b))) T.heap locs) (hc : cells ≤ K) (hs : slots ≤ S) :
    Go p.tables e below (fun o U' => ∃ v L, o = .returned v ∧ Qa v U'.heap L ∧ ReturnedEndW s o U' L K S) (T.setTop (mkF m pc Ls (.int (b2i b) :: rest))) := by
  obtain ⟨fs, hr, hrun, hended, e1, e2, e3, e4⟩ := X.leaveW hS hn (v := some (.int (nar .boolean (b2i b)))) (fun h => by rw [hret] at h; cases h) hlk
  rw [nar_b2i] at hended e1
  exact ⟨_, _, Jvm.RoadKit.retN X hx hret (Or.inl rfl) hd hr, hrun, hended, _, _, rfl, hQ, e1, e2, e3, e4.mono hc hs⟩
end OwnRefs
end Jvm.RoadKit
namespace Jvm.Pilot.@@N@@
open Jvm Jvm.ClassFile Sem Op Lib Jvm.Free Jvm.Stand Jvm.LawKit Jvm.RoadKit Bundle Jvm.Pilot.@@N@@.Jvm.D
abbrev cR : String := "com/example/onward/onward/check/RequirementRows"
abbrev cP : String := "com/example/onward/onward/check/RequirementRows$Part"
abbrev cI : String := "com/example/onward/onward/lts/IntBlocks"
abbrev dR : String := "Lcom/example/onward/onward/check/RequirementRows;"
abbrev dI : String := "Lcom/example/onward/onward/lts/IntBlocks;"
abbrev vI (x : Int32) : Slot := .val (.int x)
abbrev vJ (x : Int64) : Slot := .val (.long x)
abbrev vR (a : Addr) : Slot := .val (.ref a)
abbrev vZ (b : Bool) : Slot := .val (.int (b2i b))
abbrev uS : Slot := .unset
theorem neB {a b n : Addr} (h : a < n) (g : b = n) : a ≠ b := Nat.ne_of_lt (Nat.lt_of_lt_of_eq h g.symm)
theorem neC {a b n : Addr} (h : a < n) (g : n ≤ b) : a ≠ b := Nat.ne_of_lt (Nat.lt_of_lt_of_le h g)
theorem wk {a0 : Array Value} {Z : State} (hw : ∀ d ∈ tables_1, d.before a0 Z = true) (i : Nat) {d : Jvm.Cond} (h : tables_1[i]? = some d) : d.before a0 Z = true := hw d (List.mem_of_getElem? h)
theorem pd_0 : parseMethodDescriptor "([III)V" = some ⟨[(.array .int), .int, .int], none⟩ := by decide +kernel
theorem pd_1 : parseMethodDescriptor "(Ljava/util/DualPivotQuicksort$Sorter;[IIII)V" = some ⟨[(.object "java/util/DualPivotQuicksort$Sorter"), (.array .int), .int, .int, .int], none⟩ := by decide +kernel
theorem pd_2 : parseMethodDescriptor "(III)V" = some ⟨[.int, .int, .int], none⟩ := by decide +kernel
theorem pd_3 : parseMethodDescriptor "([IIII)V" = some ⟨[(.array .int), .int, .int, .int], none⟩ := by decide +kernel
theorem pd_4 : parseMethodDescriptor "(I)V" = some ⟨[.int], none⟩ := by decide +kernel
theorem pd_5 : parseMethodDescriptor "()I" = some ⟨[], some .int⟩ := by decide +kernel
theorem pd_6 : parseMethodDescriptor "()V" = some ⟨[], none⟩ := by decide +kernel
theorem pd_7 : parseMethodDescriptor "(Ljava/lang/String;)V" = some ⟨[(.object "java/lang/String")], none⟩ := by decide +kernel
theorem pd_8 : parseMethodDescriptor "(Lcom/example/onward/onward/check/RequirementRows;II)V" = some ⟨[(.object "com/example/onward/onward/check/RequirementRows"), .int, .int], none⟩ := by decide +kernel
theorem pd_9 : parseMethodDescriptor "(II)V" = some ⟨[.int, .int], none⟩ := by decide +kernel
theorem pd_10 : parseMethodDescriptor "(II)Lcom/example/onward/onward/check/RequirementRows$Part;" = some ⟨[.int, .int], some (.object "com/example/onward/onward/check/RequirementRows$Part")⟩ := by decide +kernel
theorem pd_11 : parseMethodDescriptor "(Lcom/example/onward/onward/check/RequirementRows$Part;)V" = some ⟨[(.object "com/example/onward/onward/check/RequirementRows$Part")], none⟩ := by decide +kernel
theorem pd_12 : parseMethodDescriptor "(I)Z" = some ⟨[.int], some .boolean⟩ := by decide +kernel
/-- how many words: at most eight -/
def own_w (w : Int32) : Prop := 0 ≤ w.toInt ∧ w.toInt ≤ 8
def own_w4 (w : Int32) : Prop := 0 ≤ w.toInt ∧ w.toInt ≤ 4
theorem own_w4_of {w : Int32} (h : own_w w) (q : ¬ (4 : Int32) < w) : own_w4 w := by
  rw [Int32.lt_iff_toInt_lt] at q
  have : (4 : Int32).toInt = 4 := by decide
  exact ⟨h.1, by omega⟩
theorem own_w4_w {w : Int32} (h : own_w4 w) : own_w w := ⟨h.1, by have := h.2; omega⟩
theorem own_small {w : Int32} (h : own_w w) : w = 0 ∨ w = 1 ∨ w = 2 ∨ w = 3 ∨ w = 4 ∨ w = 5 ∨ w = 6 ∨ w = 7 ∨ w = 8 := by
  have l0 : (0 : Int32).toInt = 0 := by decide
  have l1 : (1 : Int32).toInt = 1 := by decide
  have l2 : (2 : Int32).toInt = 2 := by decide
  have l3 : (3 : Int32).toInt = 3 := by decide
  have l4 : (4 : Int32).toInt = 4 := by decide
  have l5 : (5 : Int32).toInt = 5 := by decide
  have l6 : (6 : Int32).toInt = 6 := by decide
  have l7 : (7 : Int32).toInt = 7 := by decide
  have l8 : (8 : Int32).toInt = 8 := by decide
  simp only [← Int32.toInt_inj, l0, l1, l2, l3, l4, l5, l6, l7, l8]
  have := h.1; have := h.2; omega
theorem own_small4 {w : Int32} (h : own_w4 w) : w = 0 ∨ w = 1 ∨ w = 2 ∨ w = 3 ∨ w = 4 := by
  rcases own_small (own_w4_w h) with q | q | q | q | q | q | q | q | q
  · exact Or.inl q
  · exact Or.inr (Or.inl q)
  · exact Or.inr (Or.inr (Or.inl q))
  · exact Or.inr (Or.inr (Or.inr (Or.inl q)))
  · exact Or.inr (Or.inr (Or.inr (Or.inr q)))
  all_goals (subst q; exact absurd h.2 (by decide))
theorem own_w4_a {w : Int32} (h : own_w4 w) : ¬ (4 : Int32) < w := by
  rcases own_small4 h with rfl | rfl | rfl | rfl | rfl <;> decide
theorem own_w4_b {w : Int32} (h : own_w4 w) : ¬ (2147483639 : Int64) < (((2 : Int32)).toInt64 * (w).toInt64) := by
  rcases own_small4 h with rfl | rfl | rfl | rfl | rfl <;> decide
theorem own_w4_c {w : Int32} (h : own_w4 w) : ¬ ((2 : Int32) * w) < 0 ∧ ((2 : Int32) * w).toNatClampNeg ≤ 8 ∧ (((2 : Int32) * w).toNatClampNeg : Int) = 2 * w.toInt := by
  rcases own_small4 h with rfl | rfl | rfl | rfl | rfl <;> decide
theorem own_w8_c {w : Int32} (h : own_w w) : ¬ w < 0 ∧ w.toNatClampNeg ≤ 8 ∧ (w.toNatClampNeg : Int) = w.toInt := by
  rcases own_small h with rfl | rfl | rfl | rfl | rfl | rfl | rfl | rfl | rfl <;> decide
/-- a length as an int -/
theorem own_l8 {n : Nat} (h : n ≤ 8) : ¬ (Nat.toInt32 n) < 0 ∧ (Nat.toInt32 n).toNatClampNeg ≤ 8 ∧ (Nat.toInt32 n).toNatClampNeg = n ∧ (Nat.toInt32 n).toInt = n := by
  have : n = 0 ∨ n = 1 ∨ n = 2 ∨ n = 3 ∨ n = 4 ∨ n = 5 ∨ n = 6 ∨ n = 7 ∨ n = 8 := by omega
  rcases this with rfl | rfl | rfl | rfl | rfl | rfl | rfl | rfl | rfl <;> decide
/-- a loop from i, n turns left, below q -/
def own_lb (n : Nat) (i q : Int32) : Prop := 0 ≤ i.toInt ∧ i.toInt + n = q.toInt ∧ q.toInt ≤ 8
theorem own_lb_z {i q : Int32} (h : own_lb 0 i q) : ¬ i < q := by
  rw [Int32.lt_iff_toInt_lt]; have := h.2.1; omega
theorem own_lb_s {n : Nat} {i q : Int32} (h : own_lb (n + 1) i q) : i < q := by
  rw [Int32.lt_iff_toInt_lt]; have := h.2.1; omega
theorem own_lb_nn {n : Nat} {i q : Int32} (h : own_lb n i q) : ¬ i < (0 : Int32) := by
  rw [Int32.lt_iff_toInt_lt]; have := h.1; have l0 : (0 : Int32).toInt = 0 := by decide
  omega
theorem own_lb_in {n k : Nat} {i q : Int32} (h : own_lb (n + 1) i q) (hk : (k : Int) = q.toInt) : i.toNatClampNeg < k := by
  have := h.1; have := h.2.1
  rw [show i.toNatClampNeg = i.toInt.toNat from rfl]; omega
theorem own_add {i j : Int32} {a b : Int} (hi : i.toInt = a) (hj : j.toInt = b) (h0 : 0 ≤ a + b) (h1 : a + b ≤ 1000) : (i + j).toInt = a + b := by
  rw [Int32.toInt_add, hi, hj]
  exact Int.bmod_eq_of_le (by omega) (by omega)
theorem own_lb_next {n : Nat} {i q : Int32} (h : own_lb (n + 1) i q) : own_lb n (i + (1 : Int32)) q := by
  have := h.1; have := h.2.1; have := h.2.2
  have e := own_add (i := i) (j := 1) rfl rfl (by have : (1 : Int32).toInt = 1 := by decide
                                                  omega) (by have : (1 : Int32).toInt = 1 := by decide
                                                             omega)
  have l1 : (1 : Int32).toInt = 1 := by decide
  rw [l1] at e
  exact ⟨by omega, by omega, by omega⟩
theorem own_lb0 {w : Int32} (h : own_w w) : own_lb w.toNatClampNeg 0 w := by
  have := h.1; have := h.2
  refine ⟨by decide, ?_, h.2⟩
  have l0 : (0 : Int32).toInt = 0 := by decide
  rw [l0, show w.toNatClampNeg = w.toInt.toNat from rfl]; omega
theorem own_lbn {n : Nat} (h : n ≤ 8) : own_lb n 0 (Nat.toInt32 n) := by
  refine ⟨by decide, ?_, ?_⟩
  · have l0 : (0 : Int32).toInt = 0 := by decide
    rw [l0, (own_l8 h).2.2.2]; omega
  · rw [(own_l8 h).2.2.2]; omega
/-- a place of the rows: the state fi, the word i -/
theorem own_fw {fi w : Int32} (hf : fi = 0 ∨ fi = 1) (h : own_w4 w) : (fi * w).toInt = fi.toInt * w.toInt ∧ (fi.toInt = 0 ∨ fi.toInt = 1) := by
  rcases hf with rfl | rfl <;> rcases own_small4 h with rfl | rfl | rfl | rfl | rfl <;> decide
theorem own_row {fi w i : Int32} (hf : fi = 0 ∨ fi = 1) (h : own_w4 w) (h0 : 0 ≤ i.toInt) (hi : i.toInt < w.toInt) {k : Nat} (hk : (k : Int) = 2 * w.toInt) : ¬ ((fi * w) + i) < 0 ∧ ((fi * w) + i).toNatClampNeg < k ∧ ((fi * w) + i).toInt = fi.toInt * w.toInt + i.toInt := by
  have e := own_fw hf h
  have := h.1; have := h.2
  have a := own_add (i := fi * w) (j := i) e.1 rfl (by rcases e.2 with q | q <;> rw [q] <;> omega) (by rcases e.2 with q | q <;> rw [q] <;> omega)
  have l0 : (0 : Int32).toInt = 0 := by decide
  refine ⟨?_, ?_, a⟩
  · rw [Int32.lt_iff_toInt_lt, a, l0]; rcases e.2 with q | q <;> rw [q] <;> omega
  · rw [show ((fi * w) + i).toNatClampNeg = ((fi * w) + i).toInt.toNat from rfl, a]; rcases e.2 with q | q <;> rw [q] <;> omega
theorem own_lb_row {n : Nat} {fi w i : Int32} (hb : own_lb (n + 1) i w) (hf : fi = 0 ∨ fi = 1) (h : own_w4 w) {k : Nat} (hk : (k : Int) = 2 * w.toInt) : ¬ ((fi * w) + i) < 0 ∧ ((fi * w) + i).toNatClampNeg < k := by
  have q := own_row hf h hb.1 (by have := hb.2.1; omega) hk
  exact ⟨q.1, q.2.1⟩
theorem own_lenE {a b : Nat} {c : Int} (e : a = b) (h : (b : Int) = c) : (a : Int) = c := by rw [e]; exact h
theorem own_rep {n : Nat} {c : Int} (h : (n : Int) = c) : ((List.replicate n (0 : Int64)).length : Int) = c := by rw [List.length_replicate]; exact h
/-- is any word of these not zero -/
def own_any (xs : List Int64) (b : Int32) : Nat → Int32 → Bool → Bool
  | 0, _, f => f
  | n + 1, i, f => if f = true then true else own_any xs b n (i + (1 : Int32)) (if (List.getD xs (b + i).toNatClampNeg (0 : Int64)) = (0 : Int64) then false else true)
/-- a block's fill, k at the most -/
def own_sz (k : Nat) (sz : Int32) : Prop := 0 ≤ sz.toInt ∧ sz.toInt ≤ k
theorem own_sz4 {sz : Int32} (h : own_sz 4 sz) : sz = 0 ∨ sz = 1 ∨ sz = 2 ∨ sz = 3 ∨ sz = 4 := own_small4 ⟨h.1, h.2⟩
theorem own_z1 {sz : Int32} (h : own_sz 4 sz) : ¬ sz = (2147483647 : Int32) := by rcases own_sz4 h with rfl | rfl | rfl | rfl | rfl <;> decide
theorem own_z2 {sz : Int32} (h : own_sz 4 sz) : ((sz).toUInt32 >>> ((16 : Int32) &&& 31).toUInt32).toInt32 = (0 : Int32) := by rcases own_sz4 h with rfl | rfl | rfl | rfl | rfl <;> decide
theorem own_z3 {sz : Int32} (h : own_sz 4 sz) : (sz &&& (65535 : Int32)) = sz := by rcases own_sz4 h with rfl | rfl | rfl | rfl | rfl <;> decide
theorem own_z4 {sz : Int32} (h : own_sz 4 sz) : ¬ sz = (16 : Int32) := by rcases own_sz4 h with rfl | rfl | rfl | rfl | rfl <;> decide
theorem own_z5 {sz : Int32} (h : own_sz 4 sz) : ¬ sz < (0 : Int32) := by rcases own_sz4 h with rfl | rfl | rfl | rfl | rfl <;> decide
theorem own_z6 {sz : Int32} {bs : List Int32} (h : own_sz 4 sz) (hb : bs.length = 16) : sz.toNatClampNeg < bs.length := by rw [hb]; rcases own_sz4 h with rfl | rfl | rfl | rfl | rfl <;> decide
theorem own_sz_up {sz : Int32} (h : own_sz 2 sz) : own_sz 4 sz := ⟨h.1, by have := h.2; omega⟩
theorem own_sz_next {sz : Int32} (h : own_sz 2 sz) : own_sz 4 (sz + (1 : Int32)) := by
  rcases own_sz4 (own_sz_up h) with rfl | rfl | rfl | rfl | rfl <;> first | exact ⟨by decide, by decide⟩ | exact absurd h.2 (by decide)
/-- a requirement below 64 n -/
def own_rng (v : Int32) (n : Nat) : Prop := 0 ≤ v.toInt ∧ v.toInt < 64 * n
theorem own_shr {v : Int32} (h0 : 0 ≤ v.toInt) : (((v).toUInt32 >>> ((6 : Int32) &&& 31).toUInt32).toInt32).toInt = v.toInt / 64 := by
  have e : v.toInt = (v.toBitVec.toNat : Int) := by
    have := v.toBitVec.isLt
    show v.toBitVec.toInt = _
    have q : 0 ≤ v.toBitVec.toInt := h0
    rw [BitVec.toInt_eq_toNat_cond] at q ⊢
    split
    · rfl
    · rename_i z; rw [if_neg z] at q; omega
  have b : v.toBitVec.toNat < 2 ^ 32 := v.toBitVec.isLt
  have t : (((v).toUInt32 >>> ((6 : Int32) &&& 31).toUInt32).toInt32).toBitVec.toNat = v.toBitVec.toNat / 64 := by
    show (((v).toUInt32 >>> ((6 : Int32) &&& 31).toUInt32)).toNat = _
    rw [show ((6 : Int32) &&& 31).toUInt32 = 6 from by decide, UInt32.toNat_shiftRight]
    rw [show (UInt32.toNat 6) % 32 = 6 from by decide, Nat.shiftRight_eq_div_pow]
    rfl
  show (((v).toUInt32 >>> ((6 : Int32) &&& 31).toUInt32).toInt32).toBitVec.toInt = _
  rw [BitVec.toInt_eq_toNat_cond, t, if_pos (by omega), e]
  omega
theorem own_ix0 {v : Int32} {n : Nat} (h : own_rng v n) (_hn : n ≤ 8) : ¬ ((v).toUInt32 >>> ((6 : Int32) &&& 31).toUInt32).toInt32 < (0 : Int32) := by
  rw [Int32.lt_iff_toInt_lt, own_shr h.1]
  have l0 : (0 : Int32).toInt = 0 := by decide
  have := h.1; omega
theorem own_ix1 {v : Int32} {n : Nat} (h : own_rng v n) (_hn : n ≤ 8) : (((v).toUInt32 >>> ((6 : Int32) &&& 31).toUInt32).toInt32).toNatClampNeg < n := by
  rw [show (((v).toUInt32 >>> ((6 : Int32) &&& 31).toUInt32).toInt32).toNatClampNeg = (((v).toUInt32 >>> ((6 : Int32) &&& 31).toUInt32).toInt32).toInt.toNat from rfl, own_shr h.1]
  have := h.1; have := h.2; omega
theorem d9_0 : decode prog_286_method_1_code 0 = .ok (.aload_n 0, 1) := by decide +kernel
theorem d9_1 : decode prog_286_method_1_code 1 = .ok (.invokespecial 5, 3) := by decide +kernel
theorem d9_4 : decode prog_286_method_1_code 4 = .ok (.aload_n 0, 1) := by decide +kernel
theorem d9_5 : decode prog_286_method_1_code 5 = .ok (.iconst 1, 1) := by decide +kernel
theorem d9_6 : decode prog_286_method_1_code 6 = .ok (.anewarray 11, 3) := by decide +kernel
theorem d9_9 : decode prog_286_method_1_code 9 = .ok (.dup, 1) := by decide +kernel
theorem d9_10 : decode prog_286_method_1_code 10 = .ok (.iconst 0, 1) := by decide +kernel
theorem d9_11 : decode prog_286_method_1_code 11 = .ok (.bipush 16, 2) := by decide +kernel
theorem d9_13 : decode prog_286_method_1_code 13 = .ok (.newarray .int, 2) := by decide +kernel
theorem d9_15 : decode prog_286_method_1_code 15 = .ok (.aastore, 1) := by decide +kernel
theorem d9_16 : decode prog_286_method_1_code 16 = .ok (.putfield 13, 3) := by decide +kernel
theorem d9_19 : decode prog_286_method_1_code 19 = .ok (.aload_n 0, 1) := by decide +kernel
theorem d9_20 : decode prog_286_method_1_code 20 = .ok (.aload_n 1, 1) := by decide +kernel
theorem d9_21 : decode prog_286_method_1_code 21 = .ok (.putfield 17, 3) := by decide +kernel
theorem d9_24 : decode prog_286_method_1_code 24 = .ok (.return_, 1) := by decide +kernel
def Q9 (Z : State) (p0 : Addr) (p1 : Addr) (h0 : Heap) (n0 : Nat) (v : Option Value) (h : Heap) (L : List Loc) : Prop := v = none ∧ Fr n0 L ∧ Keep h0 h [p0] ∧ ∃ ob bl : Addr, h0.size ≤ ob ∧ h0.size ≤ bl ∧ ob ≠ bl ∧ Fld Z h p0 cI "size" "I" (.int (0 : Int32)) ∧ Fld Z h p0 cI "blocks" "[[I" (.ref ob) ∧ ArL Z h ob (.array .int) [(.ref bl)] ∧ ArL Z h bl .int [(.int (0 : Int32)), (.int (0 : Int32)), (.int (0 : Int32)), (.int (0 : Int32)), (.int (0 : Int32)), (.int (0 : Int32)), (.int (0 : Int32)), (.int (0 : Int32)), (.int (0 : Int32)), (.int (0 : Int32)), (.int (0 : Int32)), (.int (0 : Int32)), (.int (0 : Int32)), (.int (0 : Int32)), (.int (0 : Int32)), (.int (0 : Int32))]
abbrev rmm9 : Room := { frames := 1, cells := 2, slots := 17, locals := 12 }
abbrev P9 (Z : State) (p0 : Addr) (p1 : Addr) (h0 : Heap) (n0 : Nat) (s : State) : Outcome → State → Prop := fun o U' => ∃ v L, o = .returned v ∧ Q9 Z p0 p1 h0 n0 v U'.heap L ∧ FrameEnd s o U' L rmm9.cells rmm9.slots
theorem pn_9 : plainName "com/example/onward/onward/lts/IntBlocks" = true := by first | (simp [plainName, overriddenIn]; done) | decide +kernel
theorem ef_9 (m : MethodId) (p0 : Addr) (p1 : Addr) : entryFrame m #[(.ref p0), (.ref p1)] 2 = mkF m 0 #[vR p0, vR p1] [] := by first | (simp [entryFrame, mkF, argsToLocals, Value.category]; done) | rfl
set_option maxRecDepth 65536 in
set_option maxHeartbeats 40000000 in
theorem rm9 (l : Launch) (Z : State) (a0 : Array Value) (hw : ∀ d ∈ tables_1, d.before a0 Z = true) (ws : List Jvm.Cond) (p0 : Addr) (p1 : Addr) (h0 : Heap) (n0 : Nat) (Z0 : n0 ≤ h0.size) (H0 : Exa Z h0 p0 cI) (H1 : Fld Z h0 p0 cI "blocks" "[[I" .null) (H2 : Fld Z h0 p0 cI "what" "Ljava/lang/String;" .null) (H3 : Fld Z h0 p0 cI "size" "I" (.int (0 : Int32))) (H4 : n0 ≤ p0) :
    MetFree l (⟨"com/example/onward/onward/lts/IntBlocks", "<init>", "(Ljava/lang/String;)V"⟩ : MethodName) (head1 (Jvm.Cond.code (⟨"com/example/onward/onward/lts/IntBlocks", "<init>", "(Ljava/lang/String;)V"⟩ : MethodName) prog_286_method_1_code 2 none :: ws) rmm9) (fun a U => a = #[(.ref p0), (.ref p1)] ∧ Z.Warmed39 U.vm ∧ U.heap = h0) (fun _ _ _ _ _ => True) (fun _ U o U' => ∃ v L, o = .returned v ∧ Q9 Z p0 p1 h0 n0 v U'.heap L ∧ FrameEnd U o U' L rmm9.cells rmm9.slots) := by
  refine MetFree.of_bodySF (plainFor_of_name pn_9) hisR ?_
  intro p e s m args below meth c s₁ Bd hml0 hP hK
  obtain ⟨rfl, hZ, hh⟩ := hP
  have hx := Bd.exec
  have hby := Bd.bytes
  have hml : c.maxLocals = 2 := hml0
  have hown : s.vm.findClass "com/example/onward/onward/lts/IntBlocks" = some m.cls := findClass_of_methodNamed Bd.named
  have hnm := (name_of_methodNamed Bd.named Bd.method).1
  have X0 : Stand p l e rmm9 s m #[(.ref p0), (.ref p1)] below meth c s₁ [] 0 0 := Stand.of_body Bd
  have e0 : s₁.heap = h0 := by rw [← hh, Bd.state]; rfl
  have N0 := Fr.nil n0
  show Go p.tables e below (P9 Z p0 p1 h0 n0 s) (s₁.setTop (entryFrame m #[(.ref p0), (.ref p1)] 2))
  refine Go.back (fun t k => castTop (ef_9 m p0 p1) k) ?_
  show Go p.tables e below (P9 Z p0 p1 h0 n0 s) (s₁.setTop (mkF m 0 #[vR p0, vR p1] []))
  refine Go.back (fun t k => XS.aloadN X0.here hx rfl (hb hby d9_0) rfl rfl  k) ?_
  obtain ⟨T1, X1, e1, st1⟩ := initO X0 hx hZ hown (wk hw 94 rfl) (wk hw 7 rfl) (wk hw 8 rfl) e0 (g := (mkF m 1 #[vR p0, vR p1] [(.ref p0)])) rfl (by rw [hml]; rfl) rfl (hb hby d9_1) (by decide) (W := 0) (by show 2 * 0 + _ ≤ _; exact Nat.le_of_eq rfl) (by decide)
  refine Go.back st1 ?_
  show Go _ _ _ _ (T1.setTop (mkF m 4 #[vR p0, vR p1] []))
  refine Go.back (fun t k => XS.aloadN X1.here hx rfl (hb hby d9_4) rfl rfl  k) ?_
  refine Go.back (fun t k => XS.iconst X1.here hx rfl (hb hby d9_5) k) ?_
  obtain ⟨T2, h2, k2, X2, e2, E2, A2, Ex2, O2, st2⟩ := newRA X1 hx hZ hown (C := "[I") (ty := .int) (by decide +kernel) (wk hw 95 rfl) (wk hw 96 rfl) e1 (g := (mkF m 6 #[vR p0, vR p1] [(.int (1 : Int32)), (.ref p0)])) rfl (hb hby d9_6) rfl (by decide) (cap := 1) (by decide) (by decide) (by decide) (by decide) (ad := "[[I") (by decide +kernel)
  obtain ⟨b2, g2⟩ : ∃ z, z = h0.size := ⟨_, rfl⟩
  rw [← g2] at A2 Ex2 st2
  have ne3 := neB H0.lt g2
  have g4 : n0 ≤ b2 := Nat.le_trans Z0 (Nat.le_of_eq g2.symm)
  have sz5 : h0.size ≤ b2 := Nat.le_trans (Keep.refl h0 [p0]).1 (Nat.le_of_eq g2.symm)
  have F6 := H0.ext E2
  have F7 := H1.ext E2
  have F8 := H2.ext E2
  have F9 := H3.ext E2
  have F10 := Nat.le_trans Z0 E2.1
  have F11 : Keep h0 h2 [p0] := (Keep.refl h0 [p0]).ext E2
  have F12 : ArL Z h2 b2 (.array .int) [.null] := ArL.new (ty := .array .int) A2 (n := 1) rfl
  refine Go.back st2 ?_
  show Go _ _ _ _ (T2.setTop (mkF m 9 #[vR p0, vR p1] [(.ref b2), (.ref p0)]))
  refine Go.back (fun t k => XS.dup X2.here hx rfl (hb hby d9_9) rfl rfl k) ?_
  refine Go.back (fun t k => XS.iconst X2.here hx rfl (hb hby d9_10) k) ?_
  refine Go.back (fun t k => XS.bipush X2.here hx rfl (hb hby d9_11) k) ?_
  obtain ⟨T13, h13, k13, X13, e13, E13, A13, Ex13, st13⟩ := newPE X2 hx hZ (wk hw 40 rfl) e2 (g := (mkF m 13 #[vR p0, vR p1] [(.int (16 : Int32)), (.int (0 : Int32)), (.ref b2), (.ref b2), (.ref p0)])) rfl (hb hby d9_13) rfl (by decide) (cap := 16) (by decide) (by decide) (by decide) (by decide) (ad := "[I") (by decide +kernel)
  obtain ⟨b13, g13⟩ : ∃ z, z = h2.size := ⟨_, rfl⟩
  rw [← g13] at A13 Ex13 st13
  have ne14 := neB F6.lt g13
  have ne15 := neB F12.lt g13
  have g16 : n0 ≤ b13 := Nat.le_trans F10 (Nat.le_of_eq g13.symm)
  have sz17 : h0.size ≤ b13 := Nat.le_trans F11.1 (Nat.le_of_eq g13.symm)
  have F18 := F6.ext E13
  have F19 := F7.ext E13
  have F20 := F8.ext E13
  have F21 := F9.ext E13
  have F22 := Nat.le_trans F10 E13.1
  have F23 := F11.ext E13
  have F24 := F12.ext E13
  have F25 : ArL Z h13 b13 .int [(.int (0 : Int32)), (.int (0 : Int32)), (.int (0 : Int32)), (.int (0 : Int32)), (.int (0 : Int32)), (.int (0 : Int32)), (.int (0 : Int32)), (.int (0 : Int32)), (.int (0 : Int32)), (.int (0 : Int32)), (.int (0 : Int32)), (.int (0 : Int32)), (.int (0 : Int32)), (.int (0 : Int32)), (.int (0 : Int32)), (.int (0 : Int32))] := ArL.new (ty := .int) A13 (n := 16) rfl
  refine Go.back st13 ?_
  show Go _ _ _ _ (T13.setTop (mkF m 15 #[vR p0, vR p1] [(.ref b13), (.int (0 : Int32)), (.ref b2), (.ref b2), (.ref p0)]))
  obtain ⟨cl26, Ar26, hi26, -⟩ := F24.at (j := (0 : Int32)) (by decide) (Nat.le_of_ble_eq_true rfl)
  obtain ⟨T26, h26, X26, e26, W26, st26⟩ := stR X13 hx hZ e13 Ar26 (j := (0 : Int32)) hi26 rfl (Sto.ofVA (A2.ext E13) rfl O2 (Ins.self Ex13)) (g := (mkF m 15 #[vR p0, vR p1] [(.ref b13), (.int (0 : Int32)), (.ref b2), (.ref b2), (.ref p0)])) rfl rfl (hb hby d9_15)
  have F27 := F18.wr W26
  have F28 := F19.other W26 (Or.inl ne3)
  have F29 := F20.other W26 (Or.inl ne3)
  have F30 := F21.other W26 (Or.inl ne3)
  have F31 := Nat.le_trans F22 (Keep.of_wr W26).1
  have F32 := F23.wr W26 (Or.inr sz5)
  have F33 : ArL Z h26 b2 (.array .int) [(.ref b13)] := F24.set W26
  have F34 := Ex13.wr W26
  have F35 := F25.other W26 (Ne.symm ne15)
  obtain ⟨Lo26, Y26, N26⟩ := pk X26 (Fr.snoc X26 N0 g4)
  refine Go.back st26 ?_
  show Go _ _ _ _ (T26.setTop (mkF m 16 #[vR p0, vR p1] [(.ref b2), (.ref p0)]))
  obtain ⟨T36, h36, X36, e36, W36, st36⟩ := putF Y26 hx hZ hown (host := "") (Or.inl (wk hw 98 rfl)) Via.refl e26 F28 F27 (Or.inl (wk hw 99 rfl)) (wk hw 81 rfl) (ty := (.array (.array .int))) (by decide) rfl rfl (g := (mkF m 16 #[vR p0, vR p1] [(.ref b2), (.ref p0)])) rfl rfl (hb hby d9_16)
  have F37 := F27.wr W36
  have F38 : Fld Z h36 p0 cI "blocks" "[[I" (.ref b2) := F28.same W36
  have F39 := F29.other W36 (Or.inr (slot_ne (Or.inr (wk hw 101 rfl)) (Or.inl (wk hw 99 rfl)) (by decide) (t := (.object "java/lang/String")) (t' := (.array (.array .int))) (by decide) (by decide)))
  have F40 := F30.other W36 (Or.inr (slot_ne (Or.inl (wk hw 138 rfl)) (Or.inl (wk hw 99 rfl)) (by decide) (t := .int) (t' := (.array (.array .int))) (by decide) (by decide)))
  have F41 := Nat.le_trans F31 (Keep.of_wr W36).1
  have F42 := F32.wr W36 (Or.inl (List.mem_of_getElem? (i := 0) rfl))
  have F43 := F33.other W36 (Ne.symm ne3)
  have F44 := F34.wr W36
  have F45 := F35.other W36 (Ne.symm ne14)
  obtain ⟨Lo36, Y36, N36⟩ := pk X36 (Fr.snoc X36 N26 H4)
  refine Go.back st36 ?_
  refine Go.back (fun t k => XS.aloadN Y36.here hx rfl (hb hby d9_19) rfl rfl  k) ?_
  refine Go.back (fun t k => XS.aloadN Y36.here hx rfl (hb hby d9_20) rfl rfl  k) ?_
  obtain ⟨T46, h46, X46, e46, W46, st46⟩ := putF Y36 hx hZ hown (host := "") (Or.inl (wk hw 100 rfl)) Via.refl e36 F39 F37 (Or.inr ⟨(wk hw 101 rfl), rfl, hnm⟩) (wk hw 81 rfl) (ty := (.object "java/lang/String")) (by decide) rfl rfl (g := (mkF m 21 #[vR p0, vR p1] [(.ref p1), (.ref p0)])) rfl rfl (hb hby d9_21)
  have F47 := F37.wr W46
  have F48 := F38.other W46 (Or.inr (slot_ne (Or.inl (wk hw 99 rfl)) (Or.inr (wk hw 101 rfl)) (by decide) (t := (.array (.array .int))) (t' := (.object "java/lang/String")) (by decide) (by decide)))
  have F49 : Fld Z h46 p0 cI "what" "Ljava/lang/String;" (.ref p1) := F39.same W46
  have F50 := F40.other W46 (Or.inr (slot_ne (Or.inl (wk hw 138 rfl)) (Or.inr (wk hw 101 rfl)) (by decide) (t := .int) (t' := (.object "java/lang/String")) (by decide) (by decide)))
  have F51 := Nat.le_trans F41 (Keep.of_wr W46).1
  have F52 := F42.wr W46 (Or.inl (List.mem_of_getElem? (i := 0) rfl))
  have F53 := F43.other W46 (Ne.symm ne3)
  have F54 := F44.wr W46
  have F55 := F45.other W46 (Ne.symm ne14)
  obtain ⟨Lo46, Y46, N46⟩ := pk X46 (Fr.snoc X46 N36 H4)
  refine Go.back st46 ?_
  show Go _ _ _ _ (T46.setTop (mkF m 24 #[vR p0, vR p1] []))
  exact Go.retV Y46 hx Bd.returns (hb hby d9_24) Bd.notSynchronized ⟨rfl, N46, (by rw [e46]; exact F52), b2, b13, sz5, sz17, ne15, (by rw [e46]; exact F50), (by rw [e46]; exact F48), (by rw [e46]; exact F53), (by rw [e46]; exact F55)⟩ (by decide) (by decide)
theorem d18_0 : decode prog_286_method_3_code 0 = .ok (.aload_n 0, 1) := by decide +kernel
theorem d18_1 : decode prog_286_method_3_code 1 = .ok (.getfield 33, 3) := by decide +kernel
theorem d18_4 : decode prog_286_method_3_code 4 = .ok (.ireturn, 1) := by decide +kernel
def Q18 (Z : State) (p0 : Addr) (sz : Int32) (h0 : Heap) (n0 : Nat) (v : Option Value) (h : Heap) (L : List Loc) : Prop := v = some (.int sz) ∧ Fr n0 L ∧ h = h0
abbrev rmm18 : Room := { frames := 0, cells := 0, slots := 0, locals := 0 }
abbrev P18 (Z : State) (p0 : Addr) (sz : Int32) (h0 : Heap) (n0 : Nat) (s : State) : Outcome → State → Prop := fun o U' => ∃ v L, o = .returned v ∧ Q18 Z p0 sz h0 n0 v U'.heap L ∧ FrameEnd s o U' L rmm18.cells rmm18.slots
theorem pn_18 : plainName "com/example/onward/onward/lts/IntBlocks" = true := by first | (simp [plainName, overriddenIn]; done) | decide +kernel
theorem ef_18 (m : MethodId) (p0 : Addr) : entryFrame m #[(.ref p0)] 1 = mkF m 0 #[vR p0] [] := by first | (simp [entryFrame, mkF, argsToLocals, Value.category]; done) | rfl
set_option maxRecDepth 65536 in
set_option maxHeartbeats 40000000 in
theorem rm18 (l : Launch) (Z : State) (a0 : Array Value) (hw : ∀ d ∈ tables_1, d.before a0 Z = true) (ws : List Jvm.Cond) (p0 : Addr) (sz : Int32) (h0 : Heap) (n0 : Nat) (Z0 : n0 ≤ h0.size) (H0 : Fld Z h0 p0 cI "size" "I" (.int sz)) :
    MetFree l (⟨"com/example/onward/onward/lts/IntBlocks", "size", "()I"⟩ : MethodName) (head1 (Jvm.Cond.code (⟨"com/example/onward/onward/lts/IntBlocks", "size", "()I"⟩ : MethodName) prog_286_method_3_code 1 (some .int) :: ws) rmm18) (fun a U => a = #[(.ref p0)] ∧ Z.Warmed39 U.vm ∧ U.heap = h0) (fun _ _ _ _ _ => True) (fun _ U o U' => ∃ v L, o = .returned v ∧ Q18 Z p0 sz h0 n0 v U'.heap L ∧ FrameEnd U o U' L rmm18.cells rmm18.slots) := by
  refine MetFree.of_bodySF (plainFor_of_name pn_18) hisR ?_
  intro p e s m args below meth c s₁ Bd hml0 hP hK
  obtain ⟨rfl, hZ, hh⟩ := hP
  have hx := Bd.exec
  have hby := Bd.bytes
  have hml : c.maxLocals = 1 := hml0
  have hown : s.vm.findClass "com/example/onward/onward/lts/IntBlocks" = some m.cls := findClass_of_methodNamed Bd.named
  have hnm := (name_of_methodNamed Bd.named Bd.method).1
  have X0 : Stand p l e rmm18 s m #[(.ref p0)] below meth c s₁ [] 0 0 := Stand.of_body Bd
  have e0 : s₁.heap = h0 := by rw [← hh, Bd.state]; rfl
  have N0 := Fr.nil n0
  show Go p.tables e below (P18 Z p0 sz h0 n0 s) (s₁.setTop (entryFrame m #[(.ref p0)] 1))
  refine Go.back (fun t k => castTop (ef_18 m p0) k) ?_
  show Go p.tables e below (P18 Z p0 sz h0 n0 s) (s₁.setTop (mkF m 0 #[vR p0] []))
  refine Go.back (fun t k => XS.aloadN X0.here hx rfl (hb hby d18_0) rfl rfl  k) ?_
  obtain ⟨T1, X1, e1, st1⟩ := getF X0 hx hZ hown (host := "") (Or.inl (wk hw 137 rfl)) Via.refl e0 H0 (g := (mkF m 1 #[vR p0] [(.ref p0)])) rfl rfl (hb hby d18_1)
  refine Go.back st1 ?_
  show Go _ _ _ _ (T1.setTop (mkF m 4 #[vR p0] [(.int sz)]))
  exact Go.retI X1 hx Bd.returns (hb hby d18_4) Bd.notSynchronized ⟨rfl, N0, e1⟩ (by decide) (by decide)
theorem d17_0 : decode prog_286_method_7_code 0 = .ok (.aload_n 0, 1) := by decide +kernel
theorem d17_1 : decode prog_286_method_7_code 1 = .ok (.getfield 33, 3) := by decide +kernel
theorem d17_4 : decode prog_286_method_7_code 4 = .ok (.ldc 54, 2) := by decide +kernel
theorem d17_6 : decode prog_286_method_7_code 6 = .ok (.if_icmp .ne 8, 3) := by decide +kernel
theorem d17_14 : decode prog_286_method_7_code 14 = .ok (.aload_n 0, 1) := by decide +kernel
theorem d17_15 : decode prog_286_method_7_code 15 = .ok (.getfield 33, 3) := by decide +kernel
theorem d17_18 : decode prog_286_method_7_code 18 = .ok (.bipush 16, 2) := by decide +kernel
theorem d17_20 : decode prog_286_method_7_code 20 = .ok (.iushr, 1) := by decide +kernel
theorem d17_21 : decode prog_286_method_7_code 21 = .ok (.istore_n 2, 1) := by decide +kernel
theorem d17_22 : decode prog_286_method_7_code 22 = .ok (.aload_n 0, 1) := by decide +kernel
theorem d17_23 : decode prog_286_method_7_code 23 = .ok (.getfield 33, 3) := by decide +kernel
theorem d17_26 : decode prog_286_method_7_code 26 = .ok (.ldc 37, 2) := by decide +kernel
theorem d17_28 : decode prog_286_method_7_code 28 = .ok (.iand, 1) := by decide +kernel
theorem d17_29 : decode prog_286_method_7_code 29 = .ok (.istore_n 3, 1) := by decide +kernel
theorem d17_30 : decode prog_286_method_7_code 30 = .ok (.iload_n 2, 1) := by decide +kernel
theorem d17_31 : decode prog_286_method_7_code 31 = .ok (.aload_n 0, 1) := by decide +kernel
theorem d17_32 : decode prog_286_method_7_code 32 = .ok (.getfield 13, 3) := by decide +kernel
theorem d17_35 : decode prog_286_method_7_code 35 = .ok (.arraylength, 1) := by decide +kernel
theorem d17_36 : decode prog_286_method_7_code 36 = .ok (.if_icmp .ge 12, 3) := by decide +kernel
theorem d17_39 : decode prog_286_method_7_code 39 = .ok (.aload_n 0, 1) := by decide +kernel
theorem d17_40 : decode prog_286_method_7_code 40 = .ok (.getfield 13, 3) := by decide +kernel
theorem d17_43 : decode prog_286_method_7_code 43 = .ok (.iload_n 2, 1) := by decide +kernel
theorem d17_44 : decode prog_286_method_7_code 44 = .ok (.aaload, 1) := by decide +kernel
theorem d17_45 : decode prog_286_method_7_code 45 = .ok (.goto 4, 3) := by decide +kernel
theorem d17_49 : decode prog_286_method_7_code 49 = .ok (.astore 4, 2) := by decide +kernel
theorem d17_51 : decode prog_286_method_7_code 51 = .ok (.aload 4, 2) := by decide +kernel
theorem d17_53 : decode prog_286_method_7_code 53 = .ok (.ifnull 10, 3) := by decide +kernel
theorem d17_56 : decode prog_286_method_7_code 56 = .ok (.iload_n 3, 1) := by decide +kernel
theorem d17_57 : decode prog_286_method_7_code 57 = .ok (.aload 4, 2) := by decide +kernel
theorem d17_59 : decode prog_286_method_7_code 59 = .ok (.arraylength, 1) := by decide +kernel
theorem d17_60 : decode prog_286_method_7_code 60 = .ok (.if_icmp .ne 9, 3) := by decide +kernel
theorem d17_69 : decode prog_286_method_7_code 69 = .ok (.aload 4, 2) := by decide +kernel
theorem d17_71 : decode prog_286_method_7_code 71 = .ok (.iload_n 3, 1) := by decide +kernel
theorem d17_72 : decode prog_286_method_7_code 72 = .ok (.iload_n 1, 1) := by decide +kernel
theorem d17_73 : decode prog_286_method_7_code 73 = .ok (.iastore, 1) := by decide +kernel
theorem d17_74 : decode prog_286_method_7_code 74 = .ok (.aload_n 0, 1) := by decide +kernel
theorem d17_75 : decode prog_286_method_7_code 75 = .ok (.dup, 1) := by decide +kernel
theorem d17_76 : decode prog_286_method_7_code 76 = .ok (.getfield 33, 3) := by decide +kernel
theorem d17_79 : decode prog_286_method_7_code 79 = .ok (.iconst 1, 1) := by decide +kernel
theorem d17_80 : decode prog_286_method_7_code 80 = .ok (.iadd, 1) := by decide +kernel
theorem d17_81 : decode prog_286_method_7_code 81 = .ok (.putfield 33, 3) := by decide +kernel
theorem d17_84 : decode prog_286_method_7_code 84 = .ok (.return_, 1) := by decide +kernel
def Q17 (Z : State) (p0 : Addr) (p1 : Int32) (sz : Int32) (ob : Addr) (bl : Addr) (bs : List Int32) (h0 : Heap) (n0 : Nat) (v : Option Value) (h : Heap) (L : List Loc) : Prop := v = none ∧ Fr n0 L ∧ Keep h0 h [p0, bl] ∧ Fld Z h p0 cI "size" "I" (.int (sz + (1 : Int32))) ∧ Fld Z h p0 cI "blocks" "[[I" (.ref ob) ∧ ArL Z h bl .int (List.map Value.int (List.set bs (sz).toNatClampNeg p1))
abbrev rmm17 : Room := { frames := 0, cells := 0, slots := 0, locals := 0 }
abbrev P17 (Z : State) (p0 : Addr) (p1 : Int32) (sz : Int32) (ob : Addr) (bl : Addr) (bs : List Int32) (h0 : Heap) (n0 : Nat) (s : State) : Outcome → State → Prop := fun o U' => ∃ v L, o = .returned v ∧ Q17 Z p0 p1 sz ob bl bs h0 n0 v U'.heap L ∧ FrameEnd s o U' L rmm17.cells rmm17.slots
theorem pn_17 : plainName "com/example/onward/onward/lts/IntBlocks" = true := by first | (simp [plainName, overriddenIn]; done) | decide +kernel
theorem ef_17 (m : MethodId) (p0 : Addr) (p1 : Int32) : entryFrame m #[(.ref p0), (.int p1)] 5 = mkF m 0 #[vR p0, vI p1, uS, uS, uS] [] := by first | (simp [entryFrame, mkF, argsToLocals, Value.category]; done) | rfl
set_option maxRecDepth 65536 in
set_option maxHeartbeats 40000000 in
theorem rm17 (l : Launch) (Z : State) (a0 : Array Value) (hw : ∀ d ∈ tables_1, d.before a0 Z = true) (ws : List Jvm.Cond) (p0 : Addr) (p1 : Int32) (sz : Int32) (ob : Addr) (bl : Addr) (bs : List Int32) (h0 : Heap) (n0 : Nat) (Z0 : n0 ≤ h0.size) (H0 : Exa Z h0 p0 cI) (H1 : Fld Z h0 p0 cI "size" "I" (.int sz)) (H2 : Fld Z h0 p0 cI "blocks" "[[I" (.ref ob)) (H3 : ArL Z h0 ob (.array .int) [(.ref bl)]) (H4 : ArL Z h0 bl .int (List.map Value.int bs)) (H5 : n0 ≤ p0) (H6 : n0 ≤ bl) (H7 : p0 ≠ ob) (H8 : p0 ≠ bl) (H9 : ob ≠ bl) (hsz : own_sz 4 sz) (hbs : bs.length = 16) :
    MetFree l (⟨"com/example/onward/onward/lts/IntBlocks", "add", "(I)V"⟩ : MethodName) (head1 (Jvm.Cond.code (⟨"com/example/onward/onward/lts/IntBlocks", "add", "(I)V"⟩ : MethodName) prog_286_method_7_code 5 none :: ws) rmm17) (fun a U => a = #[(.ref p0), (.int p1)] ∧ Z.Warmed39 U.vm ∧ U.heap = h0) (fun _ _ _ _ _ => True) (fun _ U o U' => ∃ v L, o = .returned v ∧ Q17 Z p0 p1 sz ob bl bs h0 n0 v U'.heap L ∧ FrameEnd U o U' L rmm17.cells rmm17.slots) := by
  refine MetFree.of_bodySF (plainFor_of_name pn_17) hisR ?_
  intro p e s m args below meth c s₁ Bd hml0 hP hK
  obtain ⟨rfl, hZ, hh⟩ := hP
  have hx := Bd.exec
  have hby := Bd.bytes
  have hml : c.maxLocals = 5 := hml0
  have hown : s.vm.findClass "com/example/onward/onward/lts/IntBlocks" = some m.cls := findClass_of_methodNamed Bd.named
  have hnm := (name_of_methodNamed Bd.named Bd.method).1
  have X0 : Stand p l e rmm17 s m #[(.ref p0), (.int p1)] below meth c s₁ [] 0 0 := Stand.of_body Bd
  have e0 : s₁.heap = h0 := by rw [← hh, Bd.state]; rfl
  have N0 := Fr.nil n0
  show Go p.tables e below (P17 Z p0 p1 sz ob bl bs h0 n0 s) (s₁.setTop (entryFrame m #[(.ref p0), (.int p1)] 5))
  refine Go.back (fun t k => castTop (ef_17 m p0 p1) k) ?_
  show Go p.tables e below (P17 Z p0 p1 sz ob bl bs h0 n0 s) (s₁.setTop (mkF m 0 #[vR p0, vI p1, uS, uS, uS] []))
  refine Go.back (fun t k => XS.aloadN X0.here hx rfl (hb hby d17_0) rfl rfl  k) ?_
  obtain ⟨T1, X1, e1, st1⟩ := getF X0 hx hZ hown (host := "") (Or.inl (wk hw 137 rfl)) Via.refl e0 H1 (g := (mkF m 1 #[vR p0, vI p1, uS, uS, uS] [(.ref p0)])) rfl rfl (hb hby d17_1)
  refine Go.back st1 ?_
  show Go _ _ _ _ (T1.setTop (mkF m 4 #[vR p0, vI p1, uS, uS, uS] [(.int sz)]))
  refine Go.back (fun t k => X1.ldcInt hx hown (mvT hZ (wk hw 139 rfl)) (g := (mkF m 4 #[vR p0, vI p1, uS, uS, uS] [(.int sz)])) rfl (hb hby d17_4) t k) ?_
  show Go _ _ _ _ (T1.setTop (mkF m 6 #[vR p0, vI p1, uS, uS, uS] [(.int (2147483647 : Int32)), (.int sz)]))
  refine Go.back (fun t k => XS.icmpYes X1.here hx rfl (pc0 := 6) (pc' := 14) rfl (hb hby d17_6) rfl (feq (own_z1 hsz)).2 (by decide) (by decide) k) ?_
  show Go _ _ _ _ (T1.setTop (mkF m 14 #[vR p0, vI p1, uS, uS, uS] []))
  refine Go.back (fun t k => XS.aloadN X1.here hx rfl (hb hby d17_14) rfl rfl  k) ?_
  obtain ⟨T2, X2, e2, st2⟩ := getF X1 hx hZ hown (host := "") (Or.inl (wk hw 137 rfl)) Via.refl e1 H1 (g := (mkF m 15 #[vR p0, vI p1, uS, uS, uS] [(.ref p0)])) rfl rfl (hb hby d17_15)
  refine Go.back st2 ?_
  refine Go.back (fun t k => XS.bipush X2.here hx rfl (hb hby d17_18) k) ?_
  refine Go.back (fun t k => XS.iushr X2.here hx rfl (hb hby d17_20) rfl k) ?_
  show Go _ _ _ _ (T2.setTop (mkF m 21 #[vR p0, vI p1, uS, uS, uS] [(.int (((sz).toUInt32 >>> ((16 : Int32) &&& 31).toUInt32).toInt32))]))
  rw [show (((sz).toUInt32 >>> ((16 : Int32) &&& 31).toUInt32).toInt32) = (0 : Int32) from own_z2 hsz]
  show Go _ _ _ _ (T2.setTop (mkF m 21 #[vR p0, vI p1, uS, uS, uS] [(.int (0 : Int32))]))
  refine Go.back (fun t k => XS.istoreN X2.here hx rfl (hb hby d17_21) rfl (l' := #[vR p0, vI p1, vI (0 : Int32), uS, uS]) rfl k) ?_
  refine Go.back (fun t k => XS.aloadN X2.here hx rfl (hb hby d17_22) rfl rfl  k) ?_
  obtain ⟨T3, X3, e3, st3⟩ := getF X2 hx hZ hown (host := "") (Or.inl (wk hw 137 rfl)) Via.refl e2 H1 (g := (mkF m 23 #[vR p0, vI p1, vI (0 : Int32), uS, uS] [(.ref p0)])) rfl rfl (hb hby d17_23)
  refine Go.back st3 ?_
  show Go _ _ _ _ (T3.setTop (mkF m 26 #[vR p0, vI p1, vI (0 : Int32), uS, uS] [(.int sz)]))
  refine Go.back (fun t k => X3.ldcInt hx hown (mvT hZ (wk hw 140 rfl)) (g := (mkF m 26 #[vR p0, vI p1, vI (0 : Int32), uS, uS] [(.int sz)])) rfl (hb hby d17_26) t k) ?_
  show Go _ _ _ _ (T3.setTop (mkF m 28 #[vR p0, vI p1, vI (0 : Int32), uS, uS] [(.int (65535 : Int32)), (.int sz)]))
  refine Go.back (fun t k => XS.iand X3.here hx rfl (hb hby d17_28) rfl k) ?_
  show Go _ _ _ _ (T3.setTop (mkF m 29 #[vR p0, vI p1, vI (0 : Int32), uS, uS] [(.int (sz &&& (65535 : Int32)))]))
  rw [show (sz &&& (65535 : Int32)) = sz from own_z3 hsz]
  show Go _ _ _ _ (T3.setTop (mkF m 29 #[vR p0, vI p1, vI (0 : Int32), uS, uS] [(.int sz)]))
  refine Go.back (fun t k => XS.istoreN X3.here hx rfl (hb hby d17_29) rfl (l' := #[vR p0, vI p1, vI (0 : Int32), vI sz, uS]) rfl k) ?_
  refine Go.back (fun t k => XS.iloadN X3.here hx rfl (hb hby d17_30) rfl  k) ?_
  refine Go.back (fun t k => XS.aloadN X3.here hx rfl (hb hby d17_31) rfl rfl  k) ?_
  obtain ⟨T4, X4, e4, st4⟩ := getF X3 hx hZ hown (host := "") (Or.inl (wk hw 98 rfl)) Via.refl e3 H2 (g := (mkF m 32 #[vR p0, vI p1, vI (0 : Int32), vI sz, uS] [(.ref p0), (.int (0 : Int32))])) rfl rfl (hb hby d17_32)
  refine Go.back st4 ?_
  show Go _ _ _ _ (T4.setTop (mkF m 35 #[vR p0, vI p1, vI (0 : Int32), vI sz, uS] [(.ref ob), (.int (0 : Int32))]))
  obtain ⟨cl5, Ar5, S5⟩ := H3.len
  refine Go.back (fun t k => X4.arraylength hx (by rw [e4]; exact Ar5.1) (State.isArrayOf_alike hZ.alike Ar5.2.1) (g := (mkF m 35 #[vR p0, vI p1, vI (0 : Int32), vI sz, uS] [(.ref ob), (.int (0 : Int32))])) rfl rfl (hb hby d17_35) t k) ?_
  rw [S5]
  show Go _ _ _ _ (T4.setTop (mkF m 36 #[vR p0, vI p1, vI (0 : Int32), vI sz, uS] [(.int (1 : Int32)), (.int (0 : Int32))]))
  refine Go.back (fun t k => XS.icmpNo X4.here hx rfl (hb hby d17_36) rfl (tlt (by decide)).2.1 k) ?_
  show Go _ _ _ _ (T4.setTop (mkF m 39 #[vR p0, vI p1, vI (0 : Int32), vI sz, uS] []))
  refine Go.back (fun t k => XS.aloadN X4.here hx rfl (hb hby d17_39) rfl rfl  k) ?_
  obtain ⟨T6, X6, e6, st6⟩ := getF X4 hx hZ hown (host := "") (Or.inl (wk hw 98 rfl)) Via.refl e4 H2 (g := (mkF m 40 #[vR p0, vI p1, vI (0 : Int32), vI sz, uS] [(.ref p0)])) rfl rfl (hb hby d17_40)
  refine Go.back st6 ?_
  refine Go.back (fun t k => XS.iloadN X6.here hx rfl (hb hby d17_43) rfl  k) ?_
  obtain ⟨cl7, Ar7, hi7, ha7⟩ := H3.get (j := (0 : Int32)) (by decide) (v := (.ref bl)) rfl
  refine Go.back (fun t k => X6.aaload hx (j := (0 : Int32)) (v := (.ref bl)) (by rw [e6]; exact Ar7.1) (State.isArrayOf_alike hZ.alike Ar7.2.1) rfl Ar7.2.2 hi7 ha7 (g := (mkF m 44 #[vR p0, vI p1, vI (0 : Int32), vI sz, uS] [(.int (0 : Int32)), (.ref ob)])) rfl rfl (hb hby d17_44) t k) ?_
  show Go _ _ _ _ (T6.setTop (mkF m 45 #[vR p0, vI p1, vI (0 : Int32), vI sz, uS] [(.ref bl)]))
  refine Go.back (fun t k => XS.goto X6.here hx rfl (pc0 := 45) (pc' := 49) rfl (hb hby d17_45) (by decide) (by decide) k) ?_
  refine Go.back (fun t k => XS.astore X6.here hx rfl (hb hby d17_49) rfl rfl (l' := #[vR p0, vI p1, vI (0 : Int32), vI sz, vR bl]) rfl k) ?_
  refine Go.back (fun t k => XS.aload X6.here hx rfl (hb hby d17_51) rfl rfl  k) ?_
  show Go _ _ _ _ (T6.setTop (mkF m 53 #[vR p0, vI p1, vI (0 : Int32), vI sz, vR bl] [(.ref bl)]))
  refine Go.back (fun t k => XS.ifnullNo X6.here hx rfl (hb hby d17_53) rfl k) ?_
  show Go _ _ _ _ (T6.setTop (mkF m 56 #[vR p0, vI p1, vI (0 : Int32), vI sz, vR bl] []))
  refine Go.back (fun t k => XS.iloadN X6.here hx rfl (hb hby d17_56) rfl  k) ?_
  refine Go.back (fun t k => XS.aload X6.here hx rfl (hb hby d17_57) rfl rfl  k) ?_
  obtain ⟨cl8, Ar8, S8⟩ := H4.len
  refine Go.back (fun t k => X6.arraylength hx (by rw [e6]; exact Ar8.1) (State.isArrayOf_alike hZ.alike Ar8.2.1) (g := (mkF m 59 #[vR p0, vI p1, vI (0 : Int32), vI sz, vR bl] [(.ref bl), (.int sz)])) rfl rfl (hb hby d17_59) t k) ?_
  rw [S8]
  rw [List.length_map, hbs]
  show Go _ _ _ _ (T6.setTop (mkF m 60 #[vR p0, vI p1, vI (0 : Int32), vI sz, vR bl] [(.int (16 : Int32)), (.int sz)]))
  refine Go.back (fun t k => XS.icmpYes X6.here hx rfl (pc0 := 60) (pc' := 69) rfl (hb hby d17_60) rfl (feq (own_z4 hsz)).2 (by decide) (by decide) k) ?_
  show Go _ _ _ _ (T6.setTop (mkF m 69 #[vR p0, vI p1, vI (0 : Int32), vI sz, vR bl] []))
  refine Go.back (fun t k => XS.aload X6.here hx rfl (hb hby d17_69) rfl rfl  k) ?_
  refine Go.back (fun t k => XS.iloadN X6.here hx rfl (hb hby d17_71) rfl  k) ?_
  refine Go.back (fun t k => XS.iloadN X6.here hx rfl (hb hby d17_72) rfl  k) ?_
  obtain ⟨cl9, Ar9, hi9, -⟩ := H4.at (j := sz) (own_z5 hsz) (by simpa using (own_z6 hsz hbs))
  obtain ⟨T9, h9, X9, e9, W9, st9⟩ := stI X6 hx hZ e6 Ar9 (j := sz) hi9 (g := (mkF m 73 #[vR p0, vI p1, vI (0 : Int32), vI sz, vR bl] [(.int p1), (.int sz), (.ref bl)])) rfl rfl (hb hby d17_73)
  have F10 := H0.wr W9
  have F11 := H1.other W9 (Or.inl H8)
  have F12 := H2.other W9 (Or.inl H8)
  have F13 := H3.other W9 H9
  have F14 : ArL Z h9 bl .int (List.map Value.int (List.set bs (sz).toNatClampNeg p1)) := ArL.setI (xs := bs) H4 W9
  have F15 := Nat.le_trans Z0 (Keep.of_wr W9).1
  have F16 : Keep h0 h9 [p0, bl] := (Keep.refl h0 [p0, bl]).wr W9 (Or.inl (List.mem_of_getElem? (i := 1) rfl))
  obtain ⟨Lo9, Y9, N9⟩ := pk X9 (Fr.snoc X9 N0 H6)
  refine Go.back st9 ?_
  show Go _ _ _ _ (T9.setTop (mkF m 74 #[vR p0, vI p1, vI (0 : Int32), vI sz, vR bl] []))
  refine Go.back (fun t k => XS.aloadN Y9.here hx rfl (hb hby d17_74) rfl rfl  k) ?_
  refine Go.back (fun t k => XS.dup Y9.here hx rfl (hb hby d17_75) rfl rfl k) ?_
  obtain ⟨T17, X17, e17, st17⟩ := getF Y9 hx hZ hown (host := "") (Or.inl (wk hw 137 rfl)) Via.refl e9 F11 (g := (mkF m 76 #[vR p0, vI p1, vI (0 : Int32), vI sz, vR bl] [(.ref p0), (.ref p0)])) rfl rfl (hb hby d17_76)
  refine Go.back st17 ?_
  refine Go.back (fun t k => XS.iconst X17.here hx rfl (hb hby d17_79) k) ?_
  show Go _ _ _ _ (T17.setTop (mkF m 80 #[vR p0, vI p1, vI (0 : Int32), vI sz, vR bl] [(.int (1 : Int32)), (.int sz), (.ref p0)]))
  refine Go.back (fun t k => XS.iadd X17.here hx rfl (hb hby d17_80) rfl k) ?_
  obtain ⟨T18, h18, X18, e18, W18, st18⟩ := putF X17 hx hZ hown (host := "") (Or.inl (wk hw 137 rfl)) Via.refl e17 F11 F10 (Or.inl (wk hw 138 rfl)) (wk hw 81 rfl) (ty := .int) (by decide) rfl rfl (g := (mkF m 81 #[vR p0, vI p1, vI (0 : Int32), vI sz, vR bl] [(.int (sz + (1 : Int32))), (.ref p0)])) rfl rfl (hb hby d17_81)
  have F19 := F10.wr W18
  have F20 : Fld Z h18 p0 cI "size" "I" (.int (sz + (1 : Int32))) := F11.same W18
  have F21 := F12.other W18 (Or.inr (slot_ne (Or.inl (wk hw 99 rfl)) (Or.inl (wk hw 138 rfl)) (by decide) (t := (.array (.array .int))) (t' := .int) (by decide) (by decide)))
  have F22 := F13.other W18 (Ne.symm H7)
  have F23 := F14.other W18 (Ne.symm H8)
  have F24 := Nat.le_trans F15 (Keep.of_wr W18).1
  have F25 := F16.wr W18 (Or.inl (List.mem_of_getElem? (i := 0) rfl))
  obtain ⟨Lo18, Y18, N18⟩ := pk X18 (Fr.snoc X18 N9 H5)
  refine Go.back st18 ?_
  show Go _ _ _ _ (T18.setTop (mkF m 84 #[vR p0, vI p1, vI (0 : Int32), vI sz, vR bl] []))
  exact Go.retV Y18 hx Bd.returns (hb hby d17_84) Bd.notSynchronized ⟨rfl, N18, (by rw [e18]; exact F25), (by rw [e18]; exact F20), (by rw [e18]; exact F21), (by rw [e18]; exact F23)⟩ (by decide) (by decide)
theorem d16_0 : decode jdk_2529_method_6_code 0 = .ok (.iload_n 1, 1) := by decide +kernel
theorem d16_1 : decode jdk_2529_method_6_code 1 = .ok (.istore 4, 2) := by decide +kernel
theorem d16_3 : decode jdk_2529_method_6_code 3 = .ok (.iinc 4 1, 3) := by decide +kernel
theorem d16_6 : decode jdk_2529_method_6_code 6 = .ok (.iload 4, 2) := by decide +kernel
theorem d16_8 : decode jdk_2529_method_6_code 8 = .ok (.iload_n 2, 1) := by decide +kernel
theorem d16_9 : decode jdk_2529_method_6_code 9 = .ok (.if_icmp .ge 58, 3) := by decide +kernel
theorem d16_67 : decode jdk_2529_method_6_code 67 = .ok (.return_, 1) := by decide +kernel
def Q19 (Z : State) (p0 : Addr) (c0 : Int32) (c1 : Int32) (h0 : Heap) (n0 : Nat) (v : Option Value) (h : Heap) (L : List Loc) : Prop := v = none ∧ Fr n0 L ∧ Keep h0 h [p0] ∧ ArL Z h p0 .int [(.int c0), (.int c1), (.int (0 : Int32)), (.int (0 : Int32)), (.int (0 : Int32)), (.int (0 : Int32)), (.int (0 : Int32)), (.int (0 : Int32)), (.int (0 : Int32)), (.int (0 : Int32)), (.int (0 : Int32)), (.int (0 : Int32)), (.int (0 : Int32)), (.int (0 : Int32)), (.int (0 : Int32)), (.int (0 : Int32))]
abbrev rmm19 : Room := { frames := 0, cells := 0, slots := 0, locals := 0 }
abbrev P19 (Z : State) (p0 : Addr) (c0 : Int32) (c1 : Int32) (h0 : Heap) (n0 : Nat) (s : State) : Outcome → State → Prop := fun o U' => ∃ v L, o = .returned v ∧ Q19 Z p0 c0 c1 h0 n0 v U'.heap L ∧ FrameEnd s o U' L rmm19.cells rmm19.slots
theorem pn_19 : plainName "java/util/DualPivotQuicksort" = true := by first | (simp [plainName, overriddenIn]; done) | decide +kernel
theorem ef_19 (m : MethodId) (p0 : Addr) : entryFrame m #[(.ref p0), (.int (0 : Int32)), (.int (0 : Int32))] 6 = mkF m 0 #[vR p0, vI (0 : Int32), vI (0 : Int32), uS, uS, uS] [] := by first | (simp [entryFrame, mkF, argsToLocals, Value.category]; done) | rfl
set_option maxRecDepth 65536 in
set_option maxHeartbeats 40000000 in
theorem rm19 (l : Launch) (Z : State) (a0 : Array Value) (hw : ∀ d ∈ tables_1, d.before a0 Z = true) (ws : List Jvm.Cond) (p0 : Addr) (c0 : Int32) (c1 : Int32) (h0 : Heap) (n0 : Nat) (Z0 : n0 ≤ h0.size) (H0 : ArL Z h0 p0 .int [(.int c0), (.int c1), (.int (0 : Int32)), (.int (0 : Int32)), (.int (0 : Int32)), (.int (0 : Int32)), (.int (0 : Int32)), (.int (0 : Int32)), (.int (0 : Int32)), (.int (0 : Int32)), (.int (0 : Int32)), (.int (0 : Int32)), (.int (0 : Int32)), (.int (0 : Int32)), (.int (0 : Int32)), (.int (0 : Int32))]) (H1 : n0 ≤ p0) :
    MetFree l (⟨"java/util/DualPivotQuicksort", "insertionSort", "([III)V"⟩ : MethodName) (head1 (Jvm.Cond.code (⟨"java/util/DualPivotQuicksort", "insertionSort", "([III)V"⟩ : MethodName) jdk_2529_method_6_code 6 none :: ws) rmm19) (fun a U => a = #[(.ref p0), (.int (0 : Int32)), (.int (0 : Int32))] ∧ Z.Warmed39 U.vm ∧ U.heap = h0) (fun _ _ _ _ _ => True) (fun _ U o U' => ∃ v L, o = .returned v ∧ Q19 Z p0 c0 c1 h0 n0 v U'.heap L ∧ FrameEnd U o U' L rmm19.cells rmm19.slots) := by
  refine MetFree.of_bodySF (plainFor_of_name pn_19) hisR ?_
  intro p e s m args below meth c s₁ Bd hml0 hP hK
  obtain ⟨rfl, hZ, hh⟩ := hP
  have hx := Bd.exec
  have hby := Bd.bytes
  have hml : c.maxLocals = 6 := hml0
  have hown : s.vm.findClass "java/util/DualPivotQuicksort" = some m.cls := findClass_of_methodNamed Bd.named
  have hnm := (name_of_methodNamed Bd.named Bd.method).1
  have X0 : Stand p l e rmm19 s m #[(.ref p0), (.int (0 : Int32)), (.int (0 : Int32))] below meth c s₁ [] 0 0 := Stand.of_body Bd
  have e0 : s₁.heap = h0 := by rw [← hh, Bd.state]; rfl
  have N0 := Fr.nil n0
  show Go p.tables e below (P19 Z p0 c0 c1 h0 n0 s) (s₁.setTop (entryFrame m #[(.ref p0), (.int (0 : Int32)), (.int (0 : Int32))] 6))
  refine Go.back (fun t k => castTop (ef_19 m p0) k) ?_
  show Go p.tables e below (P19 Z p0 c0 c1 h0 n0 s) (s₁.setTop (mkF m 0 #[vR p0, vI (0 : Int32), vI (0 : Int32), uS, uS, uS] []))
  refine Go.back (fun t k => XS.iloadN X0.here hx rfl (hb hby d16_0) rfl  k) ?_
  refine Go.back (fun t k => XS.istore X0.here hx rfl (hb hby d16_1) rfl (l' := #[vR p0, vI (0 : Int32), vI (0 : Int32), uS, vI (0 : Int32), uS]) rfl k) ?_
  refine Go.back (fun t k => XS.iinc X0.here hx rfl (hb hby d16_3) rfl (l' := #[vR p0, vI (0 : Int32), vI (0 : Int32), uS, vI ((0 : Int32) + (1 : Int32)), uS]) rfl k) ?_
  show Go _ _ _ _ (s₁.setTop (mkF m 6 #[vR p0, vI (0 : Int32), vI (0 : Int32), uS, vI ((0 : Int32) + (1 : Int32)), uS] []))
  rw [show ((0 : Int32) + (1 : Int32)) = (1 : Int32) from by decide]
  show Go _ _ _ _ (s₁.setTop (mkF m 6 #[vR p0, vI (0 : Int32), vI (0 : Int32), uS, vI (1 : Int32), uS] []))
  refine Go.back (fun t k => XS.iload X0.here hx rfl (hb hby d16_6) rfl  k) ?_
  refine Go.back (fun t k => XS.iloadN X0.here hx rfl (hb hby d16_8) rfl  k) ?_
  show Go _ _ _ _ (s₁.setTop (mkF m 9 #[vR p0, vI (0 : Int32), vI (0 : Int32), uS, vI (1 : Int32), uS] [(.int (0 : Int32)), (.int (1 : Int32))]))
  refine Go.back (fun t k => XS.icmpYes X0.here hx rfl (pc0 := 9) (pc' := 67) rfl (hb hby d16_9) rfl (flt (by decide)).2.1 (by decide) (by decide) k) ?_
  show Go _ _ _ _ (s₁.setTop (mkF m 67 #[vR p0, vI (0 : Int32), vI (0 : Int32), uS, vI (1 : Int32), uS] []))
  exact Go.retV X0 hx Bd.returns (hb hby d16_67) Bd.notSynchronized ⟨rfl, N0, (by rw [e0]; exact (Keep.refl h0 [p0])), (by rw [e0]; exact H0)⟩ (by decide) (by decide)
theorem d15_0 : decode jdk_2529_method_4_code 0 = .ok (.iload 4, 2) := by decide +kernel
theorem d15_2 : decode jdk_2529_method_4_code 2 = .ok (.iconst 1, 1) := by decide +kernel
theorem d15_3 : decode jdk_2529_method_4_code 3 = .ok (.isub, 1) := by decide +kernel
theorem d15_4 : decode jdk_2529_method_4_code 4 = .ok (.istore 5, 2) := by decide +kernel
theorem d15_6 : decode jdk_2529_method_4_code 6 = .ok (.iload 4, 2) := by decide +kernel
theorem d15_8 : decode jdk_2529_method_4_code 8 = .ok (.iload_n 3, 1) := by decide +kernel
theorem d15_9 : decode jdk_2529_method_4_code 9 = .ok (.isub, 1) := by decide +kernel
theorem d15_10 : decode jdk_2529_method_4_code 10 = .ok (.istore 6, 2) := by decide +kernel
theorem d15_12 : decode jdk_2529_method_4_code 12 = .ok (.iload 6, 2) := by decide +kernel
theorem d15_14 : decode jdk_2529_method_4_code 14 = .ok (.bipush 65, 2) := by decide +kernel
theorem d15_16 : decode jdk_2529_method_4_code 16 = .ok (.iload_n 2, 1) := by decide +kernel
theorem d15_17 : decode jdk_2529_method_4_code 17 = .ok (.iadd, 1) := by decide +kernel
theorem d15_18 : decode jdk_2529_method_4_code 18 = .ok (.if_icmp .ge 28, 3) := by decide +kernel
theorem d15_21 : decode jdk_2529_method_4_code 21 = .ok (.iload_n 2, 1) := by decide +kernel
theorem d15_22 : decode jdk_2529_method_4_code 22 = .ok (.iconst 1, 1) := by decide +kernel
theorem d15_23 : decode jdk_2529_method_4_code 23 = .ok (.iand, 1) := by decide +kernel
theorem d15_24 : decode jdk_2529_method_4_code 24 = .ok (.ifCond .le 22, 3) := by decide +kernel
theorem d15_46 : decode jdk_2529_method_4_code 46 = .ok (.iload 6, 2) := by decide +kernel
theorem d15_48 : decode jdk_2529_method_4_code 48 = .ok (.bipush 44, 2) := by decide +kernel
theorem d15_50 : decode jdk_2529_method_4_code 50 = .ok (.if_icmp .ge 11, 3) := by decide +kernel
theorem d15_53 : decode jdk_2529_method_4_code 53 = .ok (.aload_n 1, 1) := by decide +kernel
theorem d15_54 : decode jdk_2529_method_4_code 54 = .ok (.iload_n 3, 1) := by decide +kernel
theorem d15_55 : decode jdk_2529_method_4_code 55 = .ok (.iload 4, 2) := by decide +kernel
theorem d15_57 : decode jdk_2529_method_4_code 57 = .ok (.invokestatic 34, 3) := by decide +kernel
theorem d15_60 : decode jdk_2529_method_4_code 60 = .ok (.return_, 1) := by decide +kernel
def Q20 (Z : State) (p1 : Addr) (c0 : Int32) (c1 : Int32) (h0 : Heap) (n0 : Nat) (v : Option Value) (h : Heap) (L : List Loc) : Prop := v = none ∧ Fr n0 L ∧ Keep h0 h [p1] ∧ ArL Z h p1 .int [(.int c0), (.int c1), (.int (0 : Int32)), (.int (0 : Int32)), (.int (0 : Int32)), (.int (0 : Int32)), (.int (0 : Int32)), (.int (0 : Int32)), (.int (0 : Int32)), (.int (0 : Int32)), (.int (0 : Int32)), (.int (0 : Int32)), (.int (0 : Int32)), (.int (0 : Int32)), (.int (0 : Int32)), (.int (0 : Int32))]
abbrev rmm20 : Room := { frames := 1, cells := 0, slots := 0, locals := 17 }
abbrev P20 (Z : State) (p1 : Addr) (c0 : Int32) (c1 : Int32) (h0 : Heap) (n0 : Nat) (s : State) : Outcome → State → Prop := fun o U' => ∃ v L, o = .returned v ∧ Q20 Z p1 c0 c1 h0 n0 v U'.heap L ∧ FrameEnd s o U' L rmm20.cells rmm20.slots
theorem pn_20 : plainName "java/util/DualPivotQuicksort" = true := by first | (simp [plainName, overriddenIn]; done) | decide +kernel
theorem ef_20 (m : MethodId) (p1 : Addr) : entryFrame m #[.null, (.ref p1), (.int (0 : Int32)), (.int (0 : Int32)), (.int (0 : Int32))] 21 = mkF m 0 #[.val .null, vR p1, vI (0 : Int32), vI (0 : Int32), vI (0 : Int32), uS, uS, uS, uS, uS, uS, uS, uS, uS, uS, uS, uS, uS, uS, uS, uS] [] := by first | (simp [entryFrame, mkF, argsToLocals, Value.category]; done) | rfl
set_option maxRecDepth 65536 in
set_option maxHeartbeats 40000000 in
theorem rm20 (l : Launch) (Z : State) (a0 : Array Value) (hw : ∀ d ∈ tables_1, d.before a0 Z = true) (ws : List Jvm.Cond) (p1 : Addr) (c0 : Int32) (c1 : Int32) (h0 : Heap) (n0 : Nat) (Z0 : n0 ≤ h0.size) (H0 : ArL Z h0 p1 .int [(.int c0), (.int c1), (.int (0 : Int32)), (.int (0 : Int32)), (.int (0 : Int32)), (.int (0 : Int32)), (.int (0 : Int32)), (.int (0 : Int32)), (.int (0 : Int32)), (.int (0 : Int32)), (.int (0 : Int32)), (.int (0 : Int32)), (.int (0 : Int32)), (.int (0 : Int32)), (.int (0 : Int32)), (.int (0 : Int32))]) (H1 : n0 ≤ p1) :
    MetFree l (⟨"java/util/DualPivotQuicksort", "sort", "(Ljava/util/DualPivotQuicksort$Sorter;[IIII)V"⟩ : MethodName) (head1 (Jvm.Cond.code (⟨"java/util/DualPivotQuicksort", "sort", "(Ljava/util/DualPivotQuicksort$Sorter;[IIII)V"⟩ : MethodName) jdk_2529_method_4_code 21 none :: ws) rmm20) (fun a U => a = #[.null, (.ref p1), (.int (0 : Int32)), (.int (0 : Int32)), (.int (0 : Int32))] ∧ Z.Warmed39 U.vm ∧ U.heap = h0) (fun _ _ _ _ _ => True) (fun _ U o U' => ∃ v L, o = .returned v ∧ Q20 Z p1 c0 c1 h0 n0 v U'.heap L ∧ FrameEnd U o U' L rmm20.cells rmm20.slots) := by
  refine MetFree.of_bodySF (plainFor_of_name pn_20) hisR ?_
  intro p e s m args below meth c s₁ Bd hml0 hP hK
  obtain ⟨rfl, hZ, hh⟩ := hP
  have hx := Bd.exec
  have hby := Bd.bytes
  have hml : c.maxLocals = 21 := hml0
  have hown : s.vm.findClass "java/util/DualPivotQuicksort" = some m.cls := findClass_of_methodNamed Bd.named
  have hnm := (name_of_methodNamed Bd.named Bd.method).1
  have X0 : Stand p l e rmm20 s m #[.null, (.ref p1), (.int (0 : Int32)), (.int (0 : Int32)), (.int (0 : Int32))] below meth c s₁ [] 0 0 := Stand.of_body Bd
  have e0 : s₁.heap = h0 := by rw [← hh, Bd.state]; rfl
  have N0 := Fr.nil n0
  show Go p.tables e below (P20 Z p1 c0 c1 h0 n0 s) (s₁.setTop (entryFrame m #[.null, (.ref p1), (.int (0 : Int32)), (.int (0 : Int32)), (.int (0 : Int32))] 21))
  refine Go.back (fun t k => castTop (ef_20 m p1) k) ?_
  show Go p.tables e below (P20 Z p1 c0 c1 h0 n0 s) (s₁.setTop (mkF m 0 #[.val .null, vR p1, vI (0 : Int32), vI (0 : Int32), vI (0 : Int32), uS, uS, uS, uS, uS, uS, uS, uS, uS, uS, uS, uS, uS, uS, uS, uS] []))
  refine Go.back (fun t k => XS.iload X0.here hx rfl (hb hby d15_0) rfl  k) ?_
  refine Go.back (fun t k => XS.iconst X0.here hx rfl (hb hby d15_2) k) ?_
  refine Go.back (fun t k => XS.isub X0.here hx rfl (hb hby d15_3) rfl k) ?_
  refine Go.back (fun t k => XS.istore X0.here hx rfl (hb hby d15_4) rfl (l' := #[.val .null, vR p1, vI (0 : Int32), vI (0 : Int32), vI (0 : Int32), vI ((0 : Int32) - (1 : Int32)), uS, uS, uS, uS, uS, uS, uS, uS, uS, uS, uS, uS, uS, uS, uS]) rfl k) ?_
  show Go _ _ _ _ (s₁.setTop (mkF m 6 #[.val .null, vR p1, vI (0 : Int32), vI (0 : Int32), vI (0 : Int32), vI ((0 : Int32) - (1 : Int32)), uS, uS, uS, uS, uS, uS, uS, uS, uS, uS, uS, uS, uS, uS, uS] []))
  refine Go.back (fun t k => XS.iload X0.here hx rfl (hb hby d15_6) rfl  k) ?_
  refine Go.back (fun t k => XS.iloadN X0.here hx rfl (hb hby d15_8) rfl  k) ?_
  refine Go.back (fun t k => XS.isub X0.here hx rfl (hb hby d15_9) rfl k) ?_
  refine Go.back (fun t k => XS.istore X0.here hx rfl (hb hby d15_10) rfl (l' := #[.val .null, vR p1, vI (0 : Int32), vI (0 : Int32), vI (0 : Int32), vI ((0 : Int32) - (1 : Int32)), vI ((0 : Int32) - (0 : Int32)), uS, uS, uS, uS, uS, uS, uS, uS, uS, uS, uS, uS, uS, uS]) rfl k) ?_
  show Go _ _ _ _ (s₁.setTop (mkF m 12 #[.val .null, vR p1, vI (0 : Int32), vI (0 : Int32), vI (0 : Int32), vI ((0 : Int32) - (1 : Int32)), vI ((0 : Int32) - (0 : Int32)), uS, uS, uS, uS, uS, uS, uS, uS, uS, uS, uS, uS, uS, uS] []))
  refine Go.back (fun t k => XS.iload X0.here hx rfl (hb hby d15_12) rfl  k) ?_
  refine Go.back (fun t k => XS.bipush X0.here hx rfl (hb hby d15_14) k) ?_
  refine Go.back (fun t k => XS.iloadN X0.here hx rfl (hb hby d15_16) rfl  k) ?_
  refine Go.back (fun t k => XS.iadd X0.here hx rfl (hb hby d15_17) rfl k) ?_
  show Go _ _ _ _ (s₁.setTop (mkF m 18 #[.val .null, vR p1, vI (0 : Int32), vI (0 : Int32), vI (0 : Int32), vI ((0 : Int32) - (1 : Int32)), vI ((0 : Int32) - (0 : Int32)), uS, uS, uS, uS, uS, uS, uS, uS, uS, uS, uS, uS, uS, uS] [(.int ((65 : Int32) + (0 : Int32))), (.int ((0 : Int32) - (0 : Int32)))]))
  refine Go.back (fun t k => XS.icmpNo X0.here hx rfl (hb hby d15_18) rfl (tlt (by decide)).2.1 k) ?_
  show Go _ _ _ _ (s₁.setTop (mkF m 21 #[.val .null, vR p1, vI (0 : Int32), vI (0 : Int32), vI (0 : Int32), vI ((0 : Int32) - (1 : Int32)), vI ((0 : Int32) - (0 : Int32)), uS, uS, uS, uS, uS, uS, uS, uS, uS, uS, uS, uS, uS, uS] []))
  refine Go.back (fun t k => XS.iloadN X0.here hx rfl (hb hby d15_21) rfl  k) ?_
  refine Go.back (fun t k => XS.iconst X0.here hx rfl (hb hby d15_22) k) ?_
  refine Go.back (fun t k => XS.iand X0.here hx rfl (hb hby d15_23) rfl k) ?_
  show Go _ _ _ _ (s₁.setTop (mkF m 24 #[.val .null, vR p1, vI (0 : Int32), vI (0 : Int32), vI (0 : Int32), vI ((0 : Int32) - (1 : Int32)), vI ((0 : Int32) - (0 : Int32)), uS, uS, uS, uS, uS, uS, uS, uS, uS, uS, uS, uS, uS, uS] [(.int ((0 : Int32) &&& (1 : Int32)))]))
  refine Go.back (fun t k => XS.ifYes X0.here hx rfl (pc0 := 24) (pc' := 46) rfl (hb hby d15_24) rfl ((if0 _ _).trans (flt (by decide)).2.2.2) (by decide) (by decide) k) ?_
  show Go _ _ _ _ (s₁.setTop (mkF m 46 #[.val .null, vR p1, vI (0 : Int32), vI (0 : Int32), vI (0 : Int32), vI ((0 : Int32) - (1 : Int32)), vI ((0 : Int32) - (0 : Int32)), uS, uS, uS, uS, uS, uS, uS, uS, uS, uS, uS, uS, uS, uS] []))
  refine Go.back (fun t k => XS.iload X0.here hx rfl (hb hby d15_46) rfl  k) ?_
  refine Go.back (fun t k => XS.bipush X0.here hx rfl (hb hby d15_48) k) ?_
  show Go _ _ _ _ (s₁.setTop (mkF m 50 #[.val .null, vR p1, vI (0 : Int32), vI (0 : Int32), vI (0 : Int32), vI ((0 : Int32) - (1 : Int32)), vI ((0 : Int32) - (0 : Int32)), uS, uS, uS, uS, uS, uS, uS, uS, uS, uS, uS, uS, uS, uS] [(.int (44 : Int32)), (.int ((0 : Int32) - (0 : Int32)))]))
  refine Go.back (fun t k => XS.icmpNo X0.here hx rfl (hb hby d15_50) rfl (tlt (by decide)).2.1 k) ?_
  show Go _ _ _ _ (s₁.setTop (mkF m 53 #[.val .null, vR p1, vI (0 : Int32), vI (0 : Int32), vI (0 : Int32), vI ((0 : Int32) - (1 : Int32)), vI ((0 : Int32) - (0 : Int32)), uS, uS, uS, uS, uS, uS, uS, uS, uS, uS, uS, uS, uS, uS] []))
  refine Go.back (fun t k => XS.aloadN X0.here hx rfl (hb hby d15_53) rfl rfl  k) ?_
  refine Go.back (fun t k => XS.iloadN X0.here hx rfl (hb hby d15_54) rfl  k) ?_
  refine Go.back (fun t k => XS.iload X0.here hx rfl (hb hby d15_55) rfl  k) ?_
  obtain ⟨_, _, ⟨T1, L1, k1, n1⟩, -, X1, ⟨Lc1, hQ1, l1, y1, z1⟩, st1⟩ := Jvm.LawKit.callS X0 hx (y := (⟨"java/util/DualPivotQuicksort", "insertionSort", "([III)V"⟩ : MethodName)) hown (mvT hZ (wk hw 129 rfl)) (mvT hZ (wk hw 130 rfl)) (mvT hZ (wk hw 124 rfl)) (mvT hZ (wk hw 131 rfl)) (by decide) (backOf (W := 0) (rm19 l Z a0 hw [] p1 c0 c1 h0 n0 Z0 H0 H1) hZ (wk hw 131 rfl) (wk hw 124 rfl) (by decide) (by decide)) (g := (mkF m 57 #[.val .null, vR p1, vI (0 : Int32), vI (0 : Int32), vI (0 : Int32), vI ((0 : Int32) - (1 : Int32)), vI ((0 : Int32) - (0 : Int32)), uS, uS, uS, uS, uS, uS, uS, uS, uS, uS, uS, uS, uS, uS] [(.int (0 : Int32)), (.int (0 : Int32)), (.ref p1)])) rfl (by rw [hml]; rfl) (argsL := [(.ref p1), (.int (0 : Int32)), (.int (0 : Int32))]) (rest := []) (lenOf pd_0 rfl) rfl (by show 2 * 0 + _ ≤ _; exact Nat.le_of_eq rfl) (hb hby d15_57) (fun _ _ => ⟨rfl, e0, (by decide : 0 + 0 ≤ _), (by decide : 0 + 0 ≤ _)⟩)
  dsimp only [Pt.U, Pt.locs, Pt.cells, Pt.slots] at X1 l1 y1 z1 st1 hQ1
  subst l1 y1 z1
  obtain ⟨h1, e1⟩ : ∃ z, T1.heap = z := ⟨_, rfl⟩
  rw [e1] at hQ1
  obtain ⟨rfl, N1q, K1, F4⟩ := hQ1
  obtain ⟨Lo1, Y1, N1⟩ := pk X1 (Fr.app N0 N1q)
  have F2 := Nat.le_trans Z0 K1.1
  have F3 : Keep h0 h1 [p1] := (Keep.refl h0 [p1]).trans K1 (allS (P := fun x => x ∈ [p1] ∨ h0.size ≤ x) (Or.inl (List.mem_of_getElem? (i := 0) rfl)) all0)
  refine Go.back st1 ?_
  show Go _ _ _ _ (T1.setTop (mkF m 60 #[.val .null, vR p1, vI (0 : Int32), vI (0 : Int32), vI (0 : Int32), vI ((0 : Int32) - (1 : Int32)), vI ((0 : Int32) - (0 : Int32)), uS, uS, uS, uS, uS, uS, uS, uS, uS, uS, uS, uS, uS, uS] []))
  exact Go.retV Y1 hx Bd.returns (hb hby d15_60) Bd.notSynchronized ⟨rfl, N1, (by rw [e1]; exact F3), (by rw [e1]; exact F4)⟩ (by decide) (by decide)
theorem d14_0 : decode jdk_2529_method_3_code 0 = .ok (.iload_n 3, 1) := by decide +kernel
theorem d14_1 : decode jdk_2529_method_3_code 1 = .ok (.iload_n 2, 1) := by decide +kernel
theorem d14_2 : decode jdk_2529_method_3_code 2 = .ok (.isub, 1) := by decide +kernel
theorem d14_3 : decode jdk_2529_method_3_code 3 = .ok (.istore 4, 2) := by decide +kernel
theorem d14_5 : decode jdk_2529_method_3_code 5 = .ok (.iload_n 1, 1) := by decide +kernel
theorem d14_6 : decode jdk_2529_method_3_code 6 = .ok (.iconst 1, 1) := by decide +kernel
theorem d14_7 : decode jdk_2529_method_3_code 7 = .ok (.if_icmp .le 61, 3) := by decide +kernel
theorem d14_68 : decode jdk_2529_method_3_code 68 = .ok (.aconst_null, 1) := by decide +kernel
theorem d14_69 : decode jdk_2529_method_3_code 69 = .ok (.aload_n 0, 1) := by decide +kernel
theorem d14_70 : decode jdk_2529_method_3_code 70 = .ok (.iconst 0, 1) := by decide +kernel
theorem d14_71 : decode jdk_2529_method_3_code 71 = .ok (.iload_n 2, 1) := by decide +kernel
theorem d14_72 : decode jdk_2529_method_3_code 72 = .ok (.iload_n 3, 1) := by decide +kernel
theorem d14_73 : decode jdk_2529_method_3_code 73 = .ok (.invokestatic 26, 3) := by decide +kernel
theorem d14_76 : decode jdk_2529_method_3_code 76 = .ok (.return_, 1) := by decide +kernel
def Q21 (Z : State) (p0 : Addr) (c0 : Int32) (c1 : Int32) (h0 : Heap) (n0 : Nat) (v : Option Value) (h : Heap) (L : List Loc) : Prop := v = none ∧ Fr n0 L ∧ Keep h0 h [p0] ∧ ArL Z h p0 .int [(.int c0), (.int c1), (.int (0 : Int32)), (.int (0 : Int32)), (.int (0 : Int32)), (.int (0 : Int32)), (.int (0 : Int32)), (.int (0 : Int32)), (.int (0 : Int32)), (.int (0 : Int32)), (.int (0 : Int32)), (.int (0 : Int32)), (.int (0 : Int32)), (.int (0 : Int32)), (.int (0 : Int32)), (.int (0 : Int32))]
abbrev rmm21 : Room := { frames := 2, cells := 0, slots := 0, locals := 49 }
abbrev P21 (Z : State) (p0 : Addr) (c0 : Int32) (c1 : Int32) (h0 : Heap) (n0 : Nat) (s : State) : Outcome → State → Prop := fun o U' => ∃ v L, o = .returned v ∧ Q21 Z p0 c0 c1 h0 n0 v U'.heap L ∧ FrameEnd s o U' L rmm21.cells rmm21.slots
theorem pn_21 : plainName "java/util/DualPivotQuicksort" = true := by first | (simp [plainName, overriddenIn]; done) | decide +kernel
theorem ef_21 (m : MethodId) (p0 : Addr) : entryFrame m #[(.ref p0), (.int (0 : Int32)), (.int (0 : Int32)), (.int (0 : Int32))] 7 = mkF m 0 #[vR p0, vI (0 : Int32), vI (0 : Int32), vI (0 : Int32), uS, uS, uS] [] := by first | (simp [entryFrame, mkF, argsToLocals, Value.category]; done) | rfl
set_option maxRecDepth 65536 in
set_option maxHeartbeats 40000000 in
theorem rm21 (l : Launch) (Z : State) (a0 : Array Value) (hw : ∀ d ∈ tables_1, d.before a0 Z = true) (ws : List Jvm.Cond) (p0 : Addr) (c0 : Int32) (c1 : Int32) (h0 : Heap) (n0 : Nat) (Z0 : n0 ≤ h0.size) (H0 : ArL Z h0 p0 .int [(.int c0), (.int c1), (.int (0 : Int32)), (.int (0 : Int32)), (.int (0 : Int32)), (.int (0 : Int32)), (.int (0 : Int32)), (.int (0 : Int32)), (.int (0 : Int32)), (.int (0 : Int32)), (.int (0 : Int32)), (.int (0 : Int32)), (.int (0 : Int32)), (.int (0 : Int32)), (.int (0 : Int32)), (.int (0 : Int32))]) (H1 : n0 ≤ p0) :
    MetFree l (⟨"java/util/DualPivotQuicksort", "sort", "([IIII)V"⟩ : MethodName) (head1 (Jvm.Cond.code (⟨"java/util/DualPivotQuicksort", "sort", "([IIII)V"⟩ : MethodName) jdk_2529_method_3_code 7 none :: ws) rmm21) (fun a U => a = #[(.ref p0), (.int (0 : Int32)), (.int (0 : Int32)), (.int (0 : Int32))] ∧ Z.Warmed39 U.vm ∧ U.heap = h0) (fun _ _ _ _ _ => True) (fun _ U o U' => ∃ v L, o = .returned v ∧ Q21 Z p0 c0 c1 h0 n0 v U'.heap L ∧ FrameEnd U o U' L rmm21.cells rmm21.slots) := by
  refine MetFree.of_bodySF (plainFor_of_name pn_21) hisR ?_
  intro p e s m args below meth c s₁ Bd hml0 hP hK
  obtain ⟨rfl, hZ, hh⟩ := hP
  have hx := Bd.exec
  have hby := Bd.bytes
  have hml : c.maxLocals = 7 := hml0
  have hown : s.vm.findClass "java/util/DualPivotQuicksort" = some m.cls := findClass_of_methodNamed Bd.named
  have hnm := (name_of_methodNamed Bd.named Bd.method).1
  have X0 : Stand p l e rmm21 s m #[(.ref p0), (.int (0 : Int32)), (.int (0 : Int32)), (.int (0 : Int32))] below meth c s₁ [] 0 0 := Stand.of_body Bd
  have e0 : s₁.heap = h0 := by rw [← hh, Bd.state]; rfl
  have N0 := Fr.nil n0
  show Go p.tables e below (P21 Z p0 c0 c1 h0 n0 s) (s₁.setTop (entryFrame m #[(.ref p0), (.int (0 : Int32)), (.int (0 : Int32)), (.int (0 : Int32))] 7))
  refine Go.back (fun t k => castTop (ef_21 m p0) k) ?_
  show Go p.tables e below (P21 Z p0 c0 c1 h0 n0 s) (s₁.setTop (mkF m 0 #[vR p0, vI (0 : Int32), vI (0 : Int32), vI (0 : Int32), uS, uS, uS] []))
  refine Go.back (fun t k => XS.iloadN X0.here hx rfl (hb hby d14_0) rfl  k) ?_
  refine Go.back (fun t k => XS.iloadN X0.here hx rfl (hb hby d14_1) rfl  k) ?_
  refine Go.back (fun t k => XS.isub X0.here hx rfl (hb hby d14_2) rfl k) ?_
  refine Go.back (fun t k => XS.istore X0.here hx rfl (hb hby d14_3) rfl (l' := #[vR p0, vI (0 : Int32), vI (0 : Int32), vI (0 : Int32), vI ((0 : Int32) - (0 : Int32)), uS, uS]) rfl k) ?_
  show Go _ _ _ _ (s₁.setTop (mkF m 5 #[vR p0, vI (0 : Int32), vI (0 : Int32), vI (0 : Int32), vI ((0 : Int32) - (0 : Int32)), uS, uS] []))
  refine Go.back (fun t k => XS.iloadN X0.here hx rfl (hb hby d14_5) rfl  k) ?_
  refine Go.back (fun t k => XS.iconst X0.here hx rfl (hb hby d14_6) k) ?_
  show Go _ _ _ _ (s₁.setTop (mkF m 7 #[vR p0, vI (0 : Int32), vI (0 : Int32), vI (0 : Int32), vI ((0 : Int32) - (0 : Int32)), uS, uS] [(.int (1 : Int32)), (.int (0 : Int32))]))
  refine Go.back (fun t k => XS.icmpYes X0.here hx rfl (pc0 := 7) (pc' := 68) rfl (hb hby d14_7) rfl (flt (by decide)).2.2.2 (by decide) (by decide) k) ?_
  show Go _ _ _ _ (s₁.setTop (mkF m 68 #[vR p0, vI (0 : Int32), vI (0 : Int32), vI (0 : Int32), vI ((0 : Int32) - (0 : Int32)), uS, uS] []))
  refine Go.back (fun t k => XS.aconstNull X0.here hx rfl (hb hby d14_68) k) ?_
  refine Go.back (fun t k => XS.aloadN X0.here hx rfl (hb hby d14_69) rfl rfl  k) ?_
  refine Go.back (fun t k => XS.iconst X0.here hx rfl (hb hby d14_70) k) ?_
  refine Go.back (fun t k => XS.iloadN X0.here hx rfl (hb hby d14_71) rfl  k) ?_
  show Go _ _ _ _ (s₁.setTop (mkF m 72 #[vR p0, vI (0 : Int32), vI (0 : Int32), vI (0 : Int32), vI ((0 : Int32) - (0 : Int32)), uS, uS] [(.int (0 : Int32)), (.int (0 : Int32)), (.ref p0), .null]))
  refine Go.back (fun t k => XS.iloadN X0.here hx rfl (hb hby d14_72) rfl  k) ?_
  obtain ⟨_, _, ⟨T1, L1, k1, n1⟩, -, X1, ⟨Lc1, hQ1, l1, y1, z1⟩, st1⟩ := Jvm.LawKit.callS X0 hx (y := (⟨"java/util/DualPivotQuicksort", "sort", "(Ljava/util/DualPivotQuicksort$Sorter;[IIII)V"⟩ : MethodName)) hown (mvT hZ (wk hw 126 rfl)) (mvT hZ (wk hw 127 rfl)) (mvT hZ (wk hw 124 rfl)) (mvT hZ (wk hw 128 rfl)) (by decide) (backOf (W := 0) (rm20 l Z a0 hw [] p0 c0 c1 h0 n0 Z0 H0 H1) hZ (wk hw 128 rfl) (wk hw 124 rfl) (by decide) (by decide)) (g := (mkF m 73 #[vR p0, vI (0 : Int32), vI (0 : Int32), vI (0 : Int32), vI ((0 : Int32) - (0 : Int32)), uS, uS] [(.int (0 : Int32)), (.int (0 : Int32)), (.int (0 : Int32)), (.ref p0), .null])) rfl (by rw [hml]; rfl) (argsL := [.null, (.ref p0), (.int (0 : Int32)), (.int (0 : Int32)), (.int (0 : Int32))]) (rest := []) (lenOf pd_1 rfl) rfl (by show 2 * 0 + _ ≤ _; exact Nat.le_of_eq rfl) (hb hby d14_73) (fun _ _ => ⟨rfl, e0, (by decide : 0 + 0 ≤ _), (by decide : 0 + 0 ≤ _)⟩)
  dsimp only [Pt.U, Pt.locs, Pt.cells, Pt.slots] at X1 l1 y1 z1 st1 hQ1
  subst l1 y1 z1
  obtain ⟨h1, e1⟩ : ∃ z, T1.heap = z := ⟨_, rfl⟩
  rw [e1] at hQ1
  obtain ⟨rfl, N1q, K1, F4⟩ := hQ1
  obtain ⟨Lo1, Y1, N1⟩ := pk X1 (Fr.app N0 N1q)
  have F2 := Nat.le_trans Z0 K1.1
  have F3 : Keep h0 h1 [p0] := (Keep.refl h0 [p0]).trans K1 (allS (P := fun x => x ∈ [p0] ∨ h0.size ≤ x) (Or.inl (List.mem_of_getElem? (i := 0) rfl)) all0)
  refine Go.back st1 ?_
  show Go _ _ _ _ (T1.setTop (mkF m 76 #[vR p0, vI (0 : Int32), vI (0 : Int32), vI (0 : Int32), vI ((0 : Int32) - (0 : Int32)), uS, uS] []))
  exact Go.retV Y1 hx Bd.returns (hb hby d14_76) Bd.notSynchronized ⟨rfl, N1, (by rw [e1]; exact F3), (by rw [e1]; exact F4)⟩ (by decide) (by decide)
theorem d13_0 : decode jdk_65_method_30_code 0 = .ok (.iload_n 1, 1) := by decide +kernel
theorem d13_1 : decode jdk_65_method_30_code 1 = .ok (.iload_n 2, 1) := by decide +kernel
theorem d13_2 : decode jdk_65_method_30_code 2 = .ok (.if_icmp .le 44, 3) := by decide +kernel
theorem d13_46 : decode jdk_65_method_30_code 46 = .ok (.iload_n 1, 1) := by decide +kernel
theorem d13_47 : decode jdk_65_method_30_code 47 = .ok (.ifCond .ge 12, 3) := by decide +kernel
theorem d13_59 : decode jdk_65_method_30_code 59 = .ok (.iload_n 2, 1) := by decide +kernel
theorem d13_60 : decode jdk_65_method_30_code 60 = .ok (.iload_n 0, 1) := by decide +kernel
theorem d13_61 : decode jdk_65_method_30_code 61 = .ok (.if_icmp .le 12, 3) := by decide +kernel
theorem d13_73 : decode jdk_65_method_30_code 73 = .ok (.return_, 1) := by decide +kernel
def Q22 (Z : State)  (h0 : Heap) (n0 : Nat) (v : Option Value) (h : Heap) (L : List Loc) : Prop := v = none ∧ Fr n0 L ∧ h = h0
abbrev rmm22 : Room := { frames := 0, cells := 0, slots := 0, locals := 0 }
abbrev P22 (Z : State)  (h0 : Heap) (n0 : Nat) (s : State) : Outcome → State → Prop := fun o U' => ∃ v L, o = .returned v ∧ Q22 Z  h0 n0 v U'.heap L ∧ FrameEnd s o U' L rmm22.cells rmm22.slots
theorem pn_22 : plainName "java/util/Arrays" = true := by first | (simp [plainName, overriddenIn]; done) | decide +kernel
theorem ef_22 (m : MethodId)  : entryFrame m #[(.int (16 : Int32)), (.int (0 : Int32)), (.int (0 : Int32))] 3 = mkF m 0 #[vI (16 : Int32), vI (0 : Int32), vI (0 : Int32)] [] := by first | (simp [entryFrame, mkF, argsToLocals, Value.category]; done) | rfl
set_option maxRecDepth 65536 in
set_option maxHeartbeats 40000000 in
theorem rm22 (l : Launch) (Z : State) (a0 : Array Value) (hw : ∀ d ∈ tables_1, d.before a0 Z = true) (ws : List Jvm.Cond)  (h0 : Heap) (n0 : Nat) (Z0 : n0 ≤ h0.size) :
    MetFree l (⟨"java/util/Arrays", "rangeCheck", "(III)V"⟩ : MethodName) (head1 (Jvm.Cond.code (⟨"java/util/Arrays", "rangeCheck", "(III)V"⟩ : MethodName) jdk_65_method_30_code 3 none :: ws) rmm22) (fun a U => a = #[(.int (16 : Int32)), (.int (0 : Int32)), (.int (0 : Int32))] ∧ Z.Warmed39 U.vm ∧ U.heap = h0) (fun _ _ _ _ _ => True) (fun _ U o U' => ∃ v L, o = .returned v ∧ Q22 Z  h0 n0 v U'.heap L ∧ FrameEnd U o U' L rmm22.cells rmm22.slots) := by
  refine MetFree.of_bodySF (plainFor_of_name pn_22) hisR ?_
  intro p e s m args below meth c s₁ Bd hml0 hP hK
  obtain ⟨rfl, hZ, hh⟩ := hP
  have hx := Bd.exec
  have hby := Bd.bytes
  have hml : c.maxLocals = 3 := hml0
  have hown : s.vm.findClass "java/util/Arrays" = some m.cls := findClass_of_methodNamed Bd.named
  have hnm := (name_of_methodNamed Bd.named Bd.method).1
  have X0 : Stand p l e rmm22 s m #[(.int (16 : Int32)), (.int (0 : Int32)), (.int (0 : Int32))] below meth c s₁ [] 0 0 := Stand.of_body Bd
  have e0 : s₁.heap = h0 := by rw [← hh, Bd.state]; rfl
  have N0 := Fr.nil n0
  show Go p.tables e below (P22 Z  h0 n0 s) (s₁.setTop (entryFrame m #[(.int (16 : Int32)), (.int (0 : Int32)), (.int (0 : Int32))] 3))
  refine Go.back (fun t k => castTop (ef_22 m ) k) ?_
  show Go p.tables e below (P22 Z  h0 n0 s) (s₁.setTop (mkF m 0 #[vI (16 : Int32), vI (0 : Int32), vI (0 : Int32)] []))
  refine Go.back (fun t k => XS.iloadN X0.here hx rfl (hb hby d13_0) rfl  k) ?_
  refine Go.back (fun t k => XS.iloadN X0.here hx rfl (hb hby d13_1) rfl  k) ?_
  show Go _ _ _ _ (s₁.setTop (mkF m 2 #[vI (16 : Int32), vI (0 : Int32), vI (0 : Int32)] [(.int (0 : Int32)), (.int (0 : Int32))]))
  refine Go.back (fun t k => XS.icmpYes X0.here hx rfl (pc0 := 2) (pc' := 46) rfl (hb hby d13_2) rfl (flt (by decide)).2.2.2 (by decide) (by decide) k) ?_
  show Go _ _ _ _ (s₁.setTop (mkF m 46 #[vI (16 : Int32), vI (0 : Int32), vI (0 : Int32)] []))
  refine Go.back (fun t k => XS.iloadN X0.here hx rfl (hb hby d13_46) rfl  k) ?_
  show Go _ _ _ _ (s₁.setTop (mkF m 47 #[vI (16 : Int32), vI (0 : Int32), vI (0 : Int32)] [(.int (0 : Int32))]))
  refine Go.back (fun t k => XS.ifYes X0.here hx rfl (pc0 := 47) (pc' := 59) rfl (hb hby d13_47) rfl ((if0 _ _).trans (flt (by decide)).2.1) (by decide) (by decide) k) ?_
  show Go _ _ _ _ (s₁.setTop (mkF m 59 #[vI (16 : Int32), vI (0 : Int32), vI (0 : Int32)] []))
  refine Go.back (fun t k => XS.iloadN X0.here hx rfl (hb hby d13_59) rfl  k) ?_
  refine Go.back (fun t k => XS.iloadN X0.here hx rfl (hb hby d13_60) rfl  k) ?_
  show Go _ _ _ _ (s₁.setTop (mkF m 61 #[vI (16 : Int32), vI (0 : Int32), vI (0 : Int32)] [(.int (16 : Int32)), (.int (0 : Int32))]))
  refine Go.back (fun t k => XS.icmpYes X0.here hx rfl (pc0 := 61) (pc' := 73) rfl (hb hby d13_61) rfl (flt (by decide)).2.2.2 (by decide) (by decide) k) ?_
  show Go _ _ _ _ (s₁.setTop (mkF m 73 #[vI (16 : Int32), vI (0 : Int32), vI (0 : Int32)] []))
  exact Go.retV X0 hx Bd.returns (hb hby d13_73) Bd.notSynchronized ⟨rfl, N0, e0⟩ (by decide) (by decide)
theorem d12_0 : decode jdk_65_method_3_code 0 = .ok (.aload_n 0, 1) := by decide +kernel
theorem d12_1 : decode jdk_65_method_3_code 1 = .ok (.arraylength, 1) := by decide +kernel
theorem d12_2 : decode jdk_65_method_3_code 2 = .ok (.iload_n 1, 1) := by decide +kernel
theorem d12_3 : decode jdk_65_method_3_code 3 = .ok (.iload_n 2, 1) := by decide +kernel
theorem d12_4 : decode jdk_65_method_3_code 4 = .ok (.invokestatic 13, 3) := by decide +kernel
theorem d12_7 : decode jdk_65_method_3_code 7 = .ok (.aload_n 0, 1) := by decide +kernel
theorem d12_8 : decode jdk_65_method_3_code 8 = .ok (.iconst 0, 1) := by decide +kernel
theorem d12_9 : decode jdk_65_method_3_code 9 = .ok (.iload_n 1, 1) := by decide +kernel
theorem d12_10 : decode jdk_65_method_3_code 10 = .ok (.iload_n 2, 1) := by decide +kernel
theorem d12_11 : decode jdk_65_method_3_code 11 = .ok (.invokestatic 7, 3) := by decide +kernel
theorem d12_14 : decode jdk_65_method_3_code 14 = .ok (.return_, 1) := by decide +kernel
def Q23 (Z : State) (p0 : Addr) (c0 : Int32) (c1 : Int32) (h0 : Heap) (n0 : Nat) (v : Option Value) (h : Heap) (L : List Loc) : Prop := v = none ∧ Fr n0 L ∧ Keep h0 h [p0] ∧ ArL Z h p0 .int [(.int c0), (.int c1), (.int (0 : Int32)), (.int (0 : Int32)), (.int (0 : Int32)), (.int (0 : Int32)), (.int (0 : Int32)), (.int (0 : Int32)), (.int (0 : Int32)), (.int (0 : Int32)), (.int (0 : Int32)), (.int (0 : Int32)), (.int (0 : Int32)), (.int (0 : Int32)), (.int (0 : Int32)), (.int (0 : Int32))]
abbrev rmm23 : Room := { frames := 3, cells := 0, slots := 0, locals := 67 }
abbrev P23 (Z : State) (p0 : Addr) (c0 : Int32) (c1 : Int32) (h0 : Heap) (n0 : Nat) (s : State) : Outcome → State → Prop := fun o U' => ∃ v L, o = .returned v ∧ Q23 Z p0 c0 c1 h0 n0 v U'.heap L ∧ FrameEnd s o U' L rmm23.cells rmm23.slots
theorem pn_23 : plainName "java/util/Arrays" = true := by first | (simp [plainName, overriddenIn]; done) | decide +kernel
theorem ef_23 (m : MethodId) (p0 : Addr) : entryFrame m #[(.ref p0), (.int (0 : Int32)), (.int (0 : Int32))] 3 = mkF m 0 #[vR p0, vI (0 : Int32), vI (0 : Int32)] [] := by first | (simp [entryFrame, mkF, argsToLocals, Value.category]; done) | rfl
set_option maxRecDepth 65536 in
set_option maxHeartbeats 40000000 in
theorem rm23 (l : Launch) (Z : State) (a0 : Array Value) (hw : ∀ d ∈ tables_1, d.before a0 Z = true) (ws : List Jvm.Cond) (p0 : Addr) (c0 : Int32) (c1 : Int32) (h0 : Heap) (n0 : Nat) (Z0 : n0 ≤ h0.size) (H0 : ArL Z h0 p0 .int [(.int c0), (.int c1), (.int (0 : Int32)), (.int (0 : Int32)), (.int (0 : Int32)), (.int (0 : Int32)), (.int (0 : Int32)), (.int (0 : Int32)), (.int (0 : Int32)), (.int (0 : Int32)), (.int (0 : Int32)), (.int (0 : Int32)), (.int (0 : Int32)), (.int (0 : Int32)), (.int (0 : Int32)), (.int (0 : Int32))]) (H1 : n0 ≤ p0) :
    MetFree l (⟨"java/util/Arrays", "sort", "([III)V"⟩ : MethodName) (head1 (Jvm.Cond.code (⟨"java/util/Arrays", "sort", "([III)V"⟩ : MethodName) jdk_65_method_3_code 3 none :: ws) rmm23) (fun a U => a = #[(.ref p0), (.int (0 : Int32)), (.int (0 : Int32))] ∧ Z.Warmed39 U.vm ∧ U.heap = h0) (fun _ _ _ _ _ => True) (fun _ U o U' => ∃ v L, o = .returned v ∧ Q23 Z p0 c0 c1 h0 n0 v U'.heap L ∧ FrameEnd U o U' L rmm23.cells rmm23.slots) := by
  refine MetFree.of_bodySF (plainFor_of_name pn_23) hisR ?_
  intro p e s m args below meth c s₁ Bd hml0 hP hK
  obtain ⟨rfl, hZ, hh⟩ := hP
  have hx := Bd.exec
  have hby := Bd.bytes
  have hml : c.maxLocals = 3 := hml0
  have hown : s.vm.findClass "java/util/Arrays" = some m.cls := findClass_of_methodNamed Bd.named
  have hnm := (name_of_methodNamed Bd.named Bd.method).1
  have X0 : Stand p l e rmm23 s m #[(.ref p0), (.int (0 : Int32)), (.int (0 : Int32))] below meth c s₁ [] 0 0 := Stand.of_body Bd
  have e0 : s₁.heap = h0 := by rw [← hh, Bd.state]; rfl
  have N0 := Fr.nil n0
  show Go p.tables e below (P23 Z p0 c0 c1 h0 n0 s) (s₁.setTop (entryFrame m #[(.ref p0), (.int (0 : Int32)), (.int (0 : Int32))] 3))
  refine Go.back (fun t k => castTop (ef_23 m p0) k) ?_
  show Go p.tables e below (P23 Z p0 c0 c1 h0 n0 s) (s₁.setTop (mkF m 0 #[vR p0, vI (0 : Int32), vI (0 : Int32)] []))
  refine Go.back (fun t k => XS.aloadN X0.here hx rfl (hb hby d12_0) rfl rfl  k) ?_
  obtain ⟨cl1, Ar1, S1⟩ := H0.len
  refine Go.back (fun t k => X0.arraylength hx (by rw [e0]; exact Ar1.1) (State.isArrayOf_alike hZ.alike Ar1.2.1) (g := (mkF m 1 #[vR p0, vI (0 : Int32), vI (0 : Int32)] [(.ref p0)])) rfl rfl (hb hby d12_1) t k) ?_
  rw [S1]
  refine Go.back (fun t k => XS.iloadN X0.here hx rfl (hb hby d12_2) rfl  k) ?_
  refine Go.back (fun t k => XS.iloadN X0.here hx rfl (hb hby d12_3) rfl  k) ?_
  show Go _ _ _ _ (s₁.setTop (mkF m 4 #[vR p0, vI (0 : Int32), vI (0 : Int32)] [(.int (0 : Int32)), (.int (0 : Int32)), (.int (16 : Int32))]))
  obtain ⟨_, _, ⟨T2, L2, k2, n2⟩, -, X2, ⟨Lc2, hQ2, l2, y2, z2⟩, st2⟩ := Jvm.LawKit.callS X0 hx (y := (⟨"java/util/Arrays", "rangeCheck", "(III)V"⟩ : MethodName)) hown (mvT hZ (wk hw 119 rfl)) (mvT hZ (wk hw 120 rfl)) (mvT hZ (wk hw 117 rfl)) (mvT hZ (wk hw 121 rfl)) (by decide) (backOf (W := 0) (rm22 l Z a0 hw [] h0 n0 Z0) hZ (wk hw 121 rfl) (wk hw 117 rfl) (by decide) (by decide)) (g := (mkF m 4 #[vR p0, vI (0 : Int32), vI (0 : Int32)] [(.int (0 : Int32)), (.int (0 : Int32)), (.int (16 : Int32))])) rfl (by rw [hml]; rfl) (argsL := [(.int (16 : Int32)), (.int (0 : Int32)), (.int (0 : Int32))]) (rest := []) (lenOf pd_2 rfl) rfl (by show 2 * 0 + _ ≤ _; exact Nat.le_of_eq rfl) (hb hby d12_4) (fun _ _ => ⟨rfl, e0, (by decide : 0 + 0 ≤ _), (by decide : 0 + 0 ≤ _)⟩)
  dsimp only [Pt.U, Pt.locs, Pt.cells, Pt.slots] at X2 l2 y2 z2 st2 hQ2
  subst l2 y2 z2
  obtain ⟨rfl, N2q, e2⟩ := hQ2
  obtain ⟨Lo2, Y2, N2⟩ := pk X2 (Fr.app N0 N2q)
  refine Go.back st2 ?_
  show Go _ _ _ _ (T2.setTop (mkF m 7 #[vR p0, vI (0 : Int32), vI (0 : Int32)] []))
  refine Go.back (fun t k => XS.aloadN Y2.here hx rfl (hb hby d12_7) rfl rfl  k) ?_
  refine Go.back (fun t k => XS.iconst Y2.here hx rfl (hb hby d12_8) k) ?_
  refine Go.back (fun t k => XS.iloadN Y2.here hx rfl (hb hby d12_9) rfl  k) ?_
  refine Go.back (fun t k => XS.iloadN Y2.here hx rfl (hb hby d12_10) rfl  k) ?_
  show Go _ _ _ _ (T2.setTop (mkF m 11 #[vR p0, vI (0 : Int32), vI (0 : Int32)] [(.int (0 : Int32)), (.int (0 : Int32)), (.int (0 : Int32)), (.ref p0)]))
  obtain ⟨_, _, ⟨T3, L3, k3, n3⟩, -, X3, ⟨Lc3, hQ3, l3, y3, z3⟩, st3⟩ := Jvm.LawKit.callS Y2 hx (y := (⟨"java/util/DualPivotQuicksort", "sort", "([IIII)V"⟩ : MethodName)) hown (mvT hZ (wk hw 122 rfl)) (mvT hZ (wk hw 123 rfl)) (mvT hZ (wk hw 124 rfl)) (mvT hZ (wk hw 125 rfl)) (by decide) (backOf (W := 0) (rm21 l Z a0 hw [] p0 c0 c1 h0 n0 Z0 H0 H1) hZ (wk hw 125 rfl) (wk hw 124 rfl) (by decide) (by decide)) (g := (mkF m 11 #[vR p0, vI (0 : Int32), vI (0 : Int32)] [(.int (0 : Int32)), (.int (0 : Int32)), (.int (0 : Int32)), (.ref p0)])) rfl (by rw [hml]; rfl) (argsL := [(.ref p0), (.int (0 : Int32)), (.int (0 : Int32)), (.int (0 : Int32))]) (rest := []) (lenOf pd_3 rfl) rfl (by show 2 * 0 + _ ≤ _; exact Nat.le_of_eq rfl) (hb hby d12_11) (fun _ _ => ⟨rfl, e2, (by decide : 0 + 0 ≤ _), (by decide : 0 + 0 ≤ _)⟩)
  dsimp only [Pt.U, Pt.locs, Pt.cells, Pt.slots] at X3 l3 y3 z3 st3 hQ3
  subst l3 y3 z3
  obtain ⟨h3, e3⟩ : ∃ z, T3.heap = z := ⟨_, rfl⟩
  rw [e3] at hQ3
  obtain ⟨rfl, N3q, K3, F6⟩ := hQ3
  obtain ⟨Lo3, Y3, N3⟩ := pk X3 (Fr.app N2 N3q)
  have F4 := Nat.le_trans Z0 K3.1
  have F5 : Keep h0 h3 [p0] := (Keep.refl h0 [p0]).trans K3 (allS (P := fun x => x ∈ [p0] ∨ h0.size ≤ x) (Or.inl (List.mem_of_getElem? (i := 0) rfl)) all0)
  refine Go.back st3 ?_
  show Go _ _ _ _ (T3.setTop (mkF m 14 #[vR p0, vI (0 : Int32), vI (0 : Int32)] []))
  exact Go.retV Y3 hx Bd.returns (hb hby d12_14) Bd.notSynchronized ⟨rfl, N3, (by rw [e3]; exact F5), (by rw [e3]; exact F6)⟩ (by decide) (by decide)
def Q24 (Z : State) (p0 : Addr) (c0 : Int32) (c1 : Int32) (h0 : Heap) (n0 : Nat) (v : Option Value) (h : Heap) (L : List Loc) : Prop := v = none ∧ Fr n0 L ∧ Keep h0 h [p0] ∧ ArL Z h p0 .int [(.int c0), (.int c1), (.int (0 : Int32)), (.int (0 : Int32)), (.int (0 : Int32)), (.int (0 : Int32)), (.int (0 : Int32)), (.int (0 : Int32)), (.int (0 : Int32)), (.int (0 : Int32)), (.int (0 : Int32)), (.int (0 : Int32)), (.int (0 : Int32)), (.int (0 : Int32)), (.int (0 : Int32)), (.int (0 : Int32))]
abbrev rmm24 : Room := { frames := 0, cells := 0, slots := 0, locals := 0 }
abbrev P24 (Z : State) (p0 : Addr) (c0 : Int32) (c1 : Int32) (h0 : Heap) (n0 : Nat) (s : State) : Outcome → State → Prop := fun o U' => ∃ v L, o = .returned v ∧ Q24 Z p0 c0 c1 h0 n0 v U'.heap L ∧ FrameEnd s o U' L rmm24.cells rmm24.slots
theorem pn_24 : plainName "java/util/DualPivotQuicksort" = true := by first | (simp [plainName, overriddenIn]; done) | decide +kernel
theorem ef_24 (m : MethodId) (p0 : Addr) : entryFrame m #[(.ref p0), (.int (0 : Int32)), (.int (1 : Int32))] 6 = mkF m 0 #[vR p0, vI (0 : Int32), vI (1 : Int32), uS, uS, uS] [] := by first | (simp [entryFrame, mkF, argsToLocals, Value.category]; done) | rfl
set_option maxRecDepth 65536 in
set_option maxHeartbeats 40000000 in
theorem rm24 (l : Launch) (Z : State) (a0 : Array Value) (hw : ∀ d ∈ tables_1, d.before a0 Z = true) (ws : List Jvm.Cond) (p0 : Addr) (c0 : Int32) (c1 : Int32) (h0 : Heap) (n0 : Nat) (Z0 : n0 ≤ h0.size) (H0 : ArL Z h0 p0 .int [(.int c0), (.int c1), (.int (0 : Int32)), (.int (0 : Int32)), (.int (0 : Int32)), (.int (0 : Int32)), (.int (0 : Int32)), (.int (0 : Int32)), (.int (0 : Int32)), (.int (0 : Int32)), (.int (0 : Int32)), (.int (0 : Int32)), (.int (0 : Int32)), (.int (0 : Int32)), (.int (0 : Int32)), (.int (0 : Int32))]) (H1 : n0 ≤ p0) :
    MetFree l (⟨"java/util/DualPivotQuicksort", "insertionSort", "([III)V"⟩ : MethodName) (head1 (Jvm.Cond.code (⟨"java/util/DualPivotQuicksort", "insertionSort", "([III)V"⟩ : MethodName) jdk_2529_method_6_code 6 none :: ws) rmm24) (fun a U => a = #[(.ref p0), (.int (0 : Int32)), (.int (1 : Int32))] ∧ Z.Warmed39 U.vm ∧ U.heap = h0) (fun _ _ _ _ _ => True) (fun _ U o U' => ∃ v L, o = .returned v ∧ Q24 Z p0 c0 c1 h0 n0 v U'.heap L ∧ FrameEnd U o U' L rmm24.cells rmm24.slots) := by
  refine MetFree.of_bodySF (plainFor_of_name pn_24) hisR ?_
  intro p e s m args below meth c s₁ Bd hml0 hP hK
  obtain ⟨rfl, hZ, hh⟩ := hP
  have hx := Bd.exec
  have hby := Bd.bytes
  have hml : c.maxLocals = 6 := hml0
  have hown : s.vm.findClass "java/util/DualPivotQuicksort" = some m.cls := findClass_of_methodNamed Bd.named
  have hnm := (name_of_methodNamed Bd.named Bd.method).1
  have X0 : Stand p l e rmm24 s m #[(.ref p0), (.int (0 : Int32)), (.int (1 : Int32))] below meth c s₁ [] 0 0 := Stand.of_body Bd
  have e0 : s₁.heap = h0 := by rw [← hh, Bd.state]; rfl
  have N0 := Fr.nil n0
  show Go p.tables e below (P24 Z p0 c0 c1 h0 n0 s) (s₁.setTop (entryFrame m #[(.ref p0), (.int (0 : Int32)), (.int (1 : Int32))] 6))
  refine Go.back (fun t k => castTop (ef_24 m p0) k) ?_
  show Go p.tables e below (P24 Z p0 c0 c1 h0 n0 s) (s₁.setTop (mkF m 0 #[vR p0, vI (0 : Int32), vI (1 : Int32), uS, uS, uS] []))
  refine Go.back (fun t k => XS.iloadN X0.here hx rfl (hb hby d16_0) rfl  k) ?_
  refine Go.back (fun t k => XS.istore X0.here hx rfl (hb hby d16_1) rfl (l' := #[vR p0, vI (0 : Int32), vI (1 : Int32), uS, vI (0 : Int32), uS]) rfl k) ?_
  refine Go.back (fun t k => XS.iinc X0.here hx rfl (hb hby d16_3) rfl (l' := #[vR p0, vI (0 : Int32), vI (1 : Int32), uS, vI ((0 : Int32) + (1 : Int32)), uS]) rfl k) ?_
  show Go _ _ _ _ (s₁.setTop (mkF m 6 #[vR p0, vI (0 : Int32), vI (1 : Int32), uS, vI ((0 : Int32) + (1 : Int32)), uS] []))
  rw [show ((0 : Int32) + (1 : Int32)) = (1 : Int32) from by decide]
  show Go _ _ _ _ (s₁.setTop (mkF m 6 #[vR p0, vI (0 : Int32), vI (1 : Int32), uS, vI (1 : Int32), uS] []))
  refine Go.back (fun t k => XS.iload X0.here hx rfl (hb hby d16_6) rfl  k) ?_
  refine Go.back (fun t k => XS.iloadN X0.here hx rfl (hb hby d16_8) rfl  k) ?_
  show Go _ _ _ _ (s₁.setTop (mkF m 9 #[vR p0, vI (0 : Int32), vI (1 : Int32), uS, vI (1 : Int32), uS] [(.int (1 : Int32)), (.int (1 : Int32))]))
  refine Go.back (fun t k => XS.icmpYes X0.here hx rfl (pc0 := 9) (pc' := 67) rfl (hb hby d16_9) rfl (flt (by decide)).2.1 (by decide) (by decide) k) ?_
  show Go _ _ _ _ (s₁.setTop (mkF m 67 #[vR p0, vI (0 : Int32), vI (1 : Int32), uS, vI (1 : Int32), uS] []))
  exact Go.retV X0 hx Bd.returns (hb hby d16_67) Bd.notSynchronized ⟨rfl, N0, (by rw [e0]; exact (Keep.refl h0 [p0])), (by rw [e0]; exact H0)⟩ (by decide) (by decide)
def Q25 (Z : State) (p1 : Addr) (c0 : Int32) (c1 : Int32) (h0 : Heap) (n0 : Nat) (v : Option Value) (h : Heap) (L : List Loc) : Prop := v = none ∧ Fr n0 L ∧ Keep h0 h [p1] ∧ ArL Z h p1 .int [(.int c0), (.int c1), (.int (0 : Int32)), (.int (0 : Int32)), (.int (0 : Int32)), (.int (0 : Int32)), (.int (0 : Int32)), (.int (0 : Int32)), (.int (0 : Int32)), (.int (0 : Int32)), (.int (0 : Int32)), (.int (0 : Int32)), (.int (0 : Int32)), (.int (0 : Int32)), (.int (0 : Int32)), (.int (0 : Int32))]
abbrev rmm25 : Room := { frames := 1, cells := 0, slots := 0, locals := 17 }
abbrev P25 (Z : State) (p1 : Addr) (c0 : Int32) (c1 : Int32) (h0 : Heap) (n0 : Nat) (s : State) : Outcome → State → Prop := fun o U' => ∃ v L, o = .returned v ∧ Q25 Z p1 c0 c1 h0 n0 v U'.heap L ∧ FrameEnd s o U' L rmm25.cells rmm25.slots
theorem pn_25 : plainName "java/util/DualPivotQuicksort" = true := by first | (simp [plainName, overriddenIn]; done) | decide +kernel
theorem ef_25 (m : MethodId) (p1 : Addr) : entryFrame m #[.null, (.ref p1), (.int (0 : Int32)), (.int (0 : Int32)), (.int (1 : Int32))] 21 = mkF m 0 #[.val .null, vR p1, vI (0 : Int32), vI (0 : Int32), vI (1 : Int32), uS, uS, uS, uS, uS, uS, uS, uS, uS, uS, uS, uS, uS, uS, uS, uS] [] := by first | (simp [entryFrame, mkF, argsToLocals, Value.category]; done) | rfl
set_option maxRecDepth 65536 in
set_option maxHeartbeats 40000000 in
theorem rm25 (l : Launch) (Z : State) (a0 : Array Value) (hw : ∀ d ∈ tables_1, d.before a0 Z = true) (ws : List Jvm.Cond) (p1 : Addr) (c0 : Int32) (c1 : Int32) (h0 : Heap) (n0 : Nat) (Z0 : n0 ≤ h0.size) (H0 : ArL Z h0 p1 .int [(.int c0), (.int c1), (.int (0 : Int32)), (.int (0 : Int32)), (.int (0 : Int32)), (.int (0 : Int32)), (.int (0 : Int32)), (.int (0 : Int32)), (.int (0 : Int32)), (.int (0 : Int32)), (.int (0 : Int32)), (.int (0 : Int32)), (.int (0 : Int32)), (.int (0 : Int32)), (.int (0 : Int32)), (.int (0 : Int32))]) (H1 : n0 ≤ p1) :
    MetFree l (⟨"java/util/DualPivotQuicksort", "sort", "(Ljava/util/DualPivotQuicksort$Sorter;[IIII)V"⟩ : MethodName) (head1 (Jvm.Cond.code (⟨"java/util/DualPivotQuicksort", "sort", "(Ljava/util/DualPivotQuicksort$Sorter;[IIII)V"⟩ : MethodName) jdk_2529_method_4_code 21 none :: ws) rmm25) (fun a U => a = #[.null, (.ref p1), (.int (0 : Int32)), (.int (0 : Int32)), (.int (1 : Int32))] ∧ Z.Warmed39 U.vm ∧ U.heap = h0) (fun _ _ _ _ _ => True) (fun _ U o U' => ∃ v L, o = .returned v ∧ Q25 Z p1 c0 c1 h0 n0 v U'.heap L ∧ FrameEnd U o U' L rmm25.cells rmm25.slots) := by
  refine MetFree.of_bodySF (plainFor_of_name pn_25) hisR ?_
  intro p e s m args below meth c s₁ Bd hml0 hP hK
  obtain ⟨rfl, hZ, hh⟩ := hP
  have hx := Bd.exec
  have hby := Bd.bytes
  have hml : c.maxLocals = 21 := hml0
  have hown : s.vm.findClass "java/util/DualPivotQuicksort" = some m.cls := findClass_of_methodNamed Bd.named
  have hnm := (name_of_methodNamed Bd.named Bd.method).1
  have X0 : Stand p l e rmm25 s m #[.null, (.ref p1), (.int (0 : Int32)), (.int (0 : Int32)), (.int (1 : Int32))] below meth c s₁ [] 0 0 := Stand.of_body Bd
  have e0 : s₁.heap = h0 := by rw [← hh, Bd.state]; rfl
  have N0 := Fr.nil n0
  show Go p.tables e below (P25 Z p1 c0 c1 h0 n0 s) (s₁.setTop (entryFrame m #[.null, (.ref p1), (.int (0 : Int32)), (.int (0 : Int32)), (.int (1 : Int32))] 21))
  refine Go.back (fun t k => castTop (ef_25 m p1) k) ?_
  show Go p.tables e below (P25 Z p1 c0 c1 h0 n0 s) (s₁.setTop (mkF m 0 #[.val .null, vR p1, vI (0 : Int32), vI (0 : Int32), vI (1 : Int32), uS, uS, uS, uS, uS, uS, uS, uS, uS, uS, uS, uS, uS, uS, uS, uS] []))
  refine Go.back (fun t k => XS.iload X0.here hx rfl (hb hby d15_0) rfl  k) ?_
  refine Go.back (fun t k => XS.iconst X0.here hx rfl (hb hby d15_2) k) ?_
  refine Go.back (fun t k => XS.isub X0.here hx rfl (hb hby d15_3) rfl k) ?_
  refine Go.back (fun t k => XS.istore X0.here hx rfl (hb hby d15_4) rfl (l' := #[.val .null, vR p1, vI (0 : Int32), vI (0 : Int32), vI (1 : Int32), vI ((1 : Int32) - (1 : Int32)), uS, uS, uS, uS, uS, uS, uS, uS, uS, uS, uS, uS, uS, uS, uS]) rfl k) ?_
  show Go _ _ _ _ (s₁.setTop (mkF m 6 #[.val .null, vR p1, vI (0 : Int32), vI (0 : Int32), vI (1 : Int32), vI ((1 : Int32) - (1 : Int32)), uS, uS, uS, uS, uS, uS, uS, uS, uS, uS, uS, uS, uS, uS, uS] []))
  refine Go.back (fun t k => XS.iload X0.here hx rfl (hb hby d15_6) rfl  k) ?_
  refine Go.back (fun t k => XS.iloadN X0.here hx rfl (hb hby d15_8) rfl  k) ?_
  refine Go.back (fun t k => XS.isub X0.here hx rfl (hb hby d15_9) rfl k) ?_
  refine Go.back (fun t k => XS.istore X0.here hx rfl (hb hby d15_10) rfl (l' := #[.val .null, vR p1, vI (0 : Int32), vI (0 : Int32), vI (1 : Int32), vI ((1 : Int32) - (1 : Int32)), vI ((1 : Int32) - (0 : Int32)), uS, uS, uS, uS, uS, uS, uS, uS, uS, uS, uS, uS, uS, uS]) rfl k) ?_
  show Go _ _ _ _ (s₁.setTop (mkF m 12 #[.val .null, vR p1, vI (0 : Int32), vI (0 : Int32), vI (1 : Int32), vI ((1 : Int32) - (1 : Int32)), vI ((1 : Int32) - (0 : Int32)), uS, uS, uS, uS, uS, uS, uS, uS, uS, uS, uS, uS, uS, uS] []))
  refine Go.back (fun t k => XS.iload X0.here hx rfl (hb hby d15_12) rfl  k) ?_
  refine Go.back (fun t k => XS.bipush X0.here hx rfl (hb hby d15_14) k) ?_
  refine Go.back (fun t k => XS.iloadN X0.here hx rfl (hb hby d15_16) rfl  k) ?_
  refine Go.back (fun t k => XS.iadd X0.here hx rfl (hb hby d15_17) rfl k) ?_
  show Go _ _ _ _ (s₁.setTop (mkF m 18 #[.val .null, vR p1, vI (0 : Int32), vI (0 : Int32), vI (1 : Int32), vI ((1 : Int32) - (1 : Int32)), vI ((1 : Int32) - (0 : Int32)), uS, uS, uS, uS, uS, uS, uS, uS, uS, uS, uS, uS, uS, uS] [(.int ((65 : Int32) + (0 : Int32))), (.int ((1 : Int32) - (0 : Int32)))]))
  refine Go.back (fun t k => XS.icmpNo X0.here hx rfl (hb hby d15_18) rfl (tlt (by decide)).2.1 k) ?_
  show Go _ _ _ _ (s₁.setTop (mkF m 21 #[.val .null, vR p1, vI (0 : Int32), vI (0 : Int32), vI (1 : Int32), vI ((1 : Int32) - (1 : Int32)), vI ((1 : Int32) - (0 : Int32)), uS, uS, uS, uS, uS, uS, uS, uS, uS, uS, uS, uS, uS, uS] []))
  refine Go.back (fun t k => XS.iloadN X0.here hx rfl (hb hby d15_21) rfl  k) ?_
  refine Go.back (fun t k => XS.iconst X0.here hx rfl (hb hby d15_22) k) ?_
  refine Go.back (fun t k => XS.iand X0.here hx rfl (hb hby d15_23) rfl k) ?_
  show Go _ _ _ _ (s₁.setTop (mkF m 24 #[.val .null, vR p1, vI (0 : Int32), vI (0 : Int32), vI (1 : Int32), vI ((1 : Int32) - (1 : Int32)), vI ((1 : Int32) - (0 : Int32)), uS, uS, uS, uS, uS, uS, uS, uS, uS, uS, uS, uS, uS, uS] [(.int ((0 : Int32) &&& (1 : Int32)))]))
  refine Go.back (fun t k => XS.ifYes X0.here hx rfl (pc0 := 24) (pc' := 46) rfl (hb hby d15_24) rfl ((if0 _ _).trans (flt (by decide)).2.2.2) (by decide) (by decide) k) ?_
  show Go _ _ _ _ (s₁.setTop (mkF m 46 #[.val .null, vR p1, vI (0 : Int32), vI (0 : Int32), vI (1 : Int32), vI ((1 : Int32) - (1 : Int32)), vI ((1 : Int32) - (0 : Int32)), uS, uS, uS, uS, uS, uS, uS, uS, uS, uS, uS, uS, uS, uS] []))
  refine Go.back (fun t k => XS.iload X0.here hx rfl (hb hby d15_46) rfl  k) ?_
  refine Go.back (fun t k => XS.bipush X0.here hx rfl (hb hby d15_48) k) ?_
  show Go _ _ _ _ (s₁.setTop (mkF m 50 #[.val .null, vR p1, vI (0 : Int32), vI (0 : Int32), vI (1 : Int32), vI ((1 : Int32) - (1 : Int32)), vI ((1 : Int32) - (0 : Int32)), uS, uS, uS, uS, uS, uS, uS, uS, uS, uS, uS, uS, uS, uS] [(.int (44 : Int32)), (.int ((1 : Int32) - (0 : Int32)))]))
  refine Go.back (fun t k => XS.icmpNo X0.here hx rfl (hb hby d15_50) rfl (tlt (by decide)).2.1 k) ?_
  show Go _ _ _ _ (s₁.setTop (mkF m 53 #[.val .null, vR p1, vI (0 : Int32), vI (0 : Int32), vI (1 : Int32), vI ((1 : Int32) - (1 : Int32)), vI ((1 : Int32) - (0 : Int32)), uS, uS, uS, uS, uS, uS, uS, uS, uS, uS, uS, uS, uS, uS] []))
  refine Go.back (fun t k => XS.aloadN X0.here hx rfl (hb hby d15_53) rfl rfl  k) ?_
  refine Go.back (fun t k => XS.iloadN X0.here hx rfl (hb hby d15_54) rfl  k) ?_
  refine Go.back (fun t k => XS.iload X0.here hx rfl (hb hby d15_55) rfl  k) ?_
  obtain ⟨_, _, ⟨T1, L1, k1, n1⟩, -, X1, ⟨Lc1, hQ1, l1, y1, z1⟩, st1⟩ := Jvm.LawKit.callS X0 hx (y := (⟨"java/util/DualPivotQuicksort", "insertionSort", "([III)V"⟩ : MethodName)) hown (mvT hZ (wk hw 129 rfl)) (mvT hZ (wk hw 130 rfl)) (mvT hZ (wk hw 124 rfl)) (mvT hZ (wk hw 131 rfl)) (by decide) (backOf (W := 0) (rm24 l Z a0 hw [] p1 c0 c1 h0 n0 Z0 H0 H1) hZ (wk hw 131 rfl) (wk hw 124 rfl) (by decide) (by decide)) (g := (mkF m 57 #[.val .null, vR p1, vI (0 : Int32), vI (0 : Int32), vI (1 : Int32), vI ((1 : Int32) - (1 : Int32)), vI ((1 : Int32) - (0 : Int32)), uS, uS, uS, uS, uS, uS, uS, uS, uS, uS, uS, uS, uS, uS] [(.int (1 : Int32)), (.int (0 : Int32)), (.ref p1)])) rfl (by rw [hml]; rfl) (argsL := [(.ref p1), (.int (0 : Int32)), (.int (1 : Int32))]) (rest := []) (lenOf pd_0 rfl) rfl (by show 2 * 0 + _ ≤ _; exact Nat.le_of_eq rfl) (hb hby d15_57) (fun _ _ => ⟨rfl, e0, (by decide : 0 + 0 ≤ _), (by decide : 0 + 0 ≤ _)⟩)
  dsimp only [Pt.U, Pt.locs, Pt.cells, Pt.slots] at X1 l1 y1 z1 st1 hQ1
  subst l1 y1 z1
  obtain ⟨h1, e1⟩ : ∃ z, T1.heap = z := ⟨_, rfl⟩
  rw [e1] at hQ1
  obtain ⟨rfl, N1q, K1, F4⟩ := hQ1
  obtain ⟨Lo1, Y1, N1⟩ := pk X1 (Fr.app N0 N1q)
  have F2 := Nat.le_trans Z0 K1.1
  have F3 : Keep h0 h1 [p1] := (Keep.refl h0 [p1]).trans K1 (allS (P := fun x => x ∈ [p1] ∨ h0.size ≤ x) (Or.inl (List.mem_of_getElem? (i := 0) rfl)) all0)
  refine Go.back st1 ?_
  show Go _ _ _ _ (T1.setTop (mkF m 60 #[.val .null, vR p1, vI (0 : Int32), vI (0 : Int32), vI (1 : Int32), vI ((1 : Int32) - (1 : Int32)), vI ((1 : Int32) - (0 : Int32)), uS, uS, uS, uS, uS, uS, uS, uS, uS, uS, uS, uS, uS, uS] []))
  exact Go.retV Y1 hx Bd.returns (hb hby d15_60) Bd.notSynchronized ⟨rfl, N1, (by rw [e1]; exact F3), (by rw [e1]; exact F4)⟩ (by decide) (by decide)
def Q26 (Z : State) (p0 : Addr) (c0 : Int32) (c1 : Int32) (h0 : Heap) (n0 : Nat) (v : Option Value) (h : Heap) (L : List Loc) : Prop := v = none ∧ Fr n0 L ∧ Keep h0 h [p0] ∧ ArL Z h p0 .int [(.int c0), (.int c1), (.int (0 : Int32)), (.int (0 : Int32)), (.int (0 : Int32)), (.int (0 : Int32)), (.int (0 : Int32)), (.int (0 : Int32)), (.int (0 : Int32)), (.int (0 : Int32)), (.int (0 : Int32)), (.int (0 : Int32)), (.int (0 : Int32)), (.int (0 : Int32)), (.int (0 : Int32)), (.int (0 : Int32))]
abbrev rmm26 : Room := { frames := 2, cells := 0, slots := 0, locals := 49 }
abbrev P26 (Z : State) (p0 : Addr) (c0 : Int32) (c1 : Int32) (h0 : Heap) (n0 : Nat) (s : State) : Outcome → State → Prop := fun o U' => ∃ v L, o = .returned v ∧ Q26 Z p0 c0 c1 h0 n0 v U'.heap L ∧ FrameEnd s o U' L rmm26.cells rmm26.slots
theorem pn_26 : plainName "java/util/DualPivotQuicksort" = true := by first | (simp [plainName, overriddenIn]; done) | decide +kernel
theorem ef_26 (m : MethodId) (p0 : Addr) : entryFrame m #[(.ref p0), (.int (0 : Int32)), (.int (0 : Int32)), (.int (1 : Int32))] 7 = mkF m 0 #[vR p0, vI (0 : Int32), vI (0 : Int32), vI (1 : Int32), uS, uS, uS] [] := by first | (simp [entryFrame, mkF, argsToLocals, Value.category]; done) | rfl
set_option maxRecDepth 65536 in
set_option maxHeartbeats 40000000 in
theorem rm26 (l : Launch) (Z : State) (a0 : Array Value) (hw : ∀ d ∈ tables_1, d.before a0 Z = true) (ws : List Jvm.Cond) (p0 : Addr) (c0 : Int32) (c1 : Int32) (h0 : Heap) (n0 : Nat) (Z0 : n0 ≤ h0.size) (H0 : ArL Z h0 p0 .int [(.int c0), (.int c1), (.int (0 : Int32)), (.int (0 : Int32)), (.int (0 : Int32)), (.int (0 : Int32)), (.int (0 : Int32)), (.int (0 : Int32)), (.int (0 : Int32)), (.int (0 : Int32)), (.int (0 : Int32)), (.int (0 : Int32)), (.int (0 : Int32)), (.int (0 : Int32)), (.int (0 : Int32)), (.int (0 : Int32))]) (H1 : n0 ≤ p0) :
    MetFree l (⟨"java/util/DualPivotQuicksort", "sort", "([IIII)V"⟩ : MethodName) (head1 (Jvm.Cond.code (⟨"java/util/DualPivotQuicksort", "sort", "([IIII)V"⟩ : MethodName) jdk_2529_method_3_code 7 none :: ws) rmm26) (fun a U => a = #[(.ref p0), (.int (0 : Int32)), (.int (0 : Int32)), (.int (1 : Int32))] ∧ Z.Warmed39 U.vm ∧ U.heap = h0) (fun _ _ _ _ _ => True) (fun _ U o U' => ∃ v L, o = .returned v ∧ Q26 Z p0 c0 c1 h0 n0 v U'.heap L ∧ FrameEnd U o U' L rmm26.cells rmm26.slots) := by
  refine MetFree.of_bodySF (plainFor_of_name pn_26) hisR ?_
  intro p e s m args below meth c s₁ Bd hml0 hP hK
  obtain ⟨rfl, hZ, hh⟩ := hP
  have hx := Bd.exec
  have hby := Bd.bytes
  have hml : c.maxLocals = 7 := hml0
  have hown : s.vm.findClass "java/util/DualPivotQuicksort" = some m.cls := findClass_of_methodNamed Bd.named
  have hnm := (name_of_methodNamed Bd.named Bd.method).1
  have X0 : Stand p l e rmm26 s m #[(.ref p0), (.int (0 : Int32)), (.int (0 : Int32)), (.int (1 : Int32))] below meth c s₁ [] 0 0 := Stand.of_body Bd
  have e0 : s₁.heap = h0 := by rw [← hh, Bd.state]; rfl
  have N0 := Fr.nil n0
  show Go p.tables e below (P26 Z p0 c0 c1 h0 n0 s) (s₁.setTop (entryFrame m #[(.ref p0), (.int (0 : Int32)), (.int (0 : Int32)), (.int (1 : Int32))] 7))
  refine Go.back (fun t k => castTop (ef_26 m p0) k) ?_
  show Go p.tables e below (P26 Z p0 c0 c1 h0 n0 s) (s₁.setTop (mkF m 0 #[vR p0, vI (0 : Int32), vI (0 : Int32), vI (1 : Int32), uS, uS, uS] []))
  refine Go.back (fun t k => XS.iloadN X0.here hx rfl (hb hby d14_0) rfl  k) ?_
  refine Go.back (fun t k => XS.iloadN X0.here hx rfl (hb hby d14_1) rfl  k) ?_
  refine Go.back (fun t k => XS.isub X0.here hx rfl (hb hby d14_2) rfl k) ?_
  refine Go.back (fun t k => XS.istore X0.here hx rfl (hb hby d14_3) rfl (l' := #[vR p0, vI (0 : Int32), vI (0 : Int32), vI (1 : Int32), vI ((1 : Int32) - (0 : Int32)), uS, uS]) rfl k) ?_
  show Go _ _ _ _ (s₁.setTop (mkF m 5 #[vR p0, vI (0 : Int32), vI (0 : Int32), vI (1 : Int32), vI ((1 : Int32) - (0 : Int32)), uS, uS] []))
  refine Go.back (fun t k => XS.iloadN X0.here hx rfl (hb hby d14_5) rfl  k) ?_
  refine Go.back (fun t k => XS.iconst X0.here hx rfl (hb hby d14_6) k) ?_
  show Go _ _ _ _ (s₁.setTop (mkF m 7 #[vR p0, vI (0 : Int32), vI (0 : Int32), vI (1 : Int32), vI ((1 : Int32) - (0 : Int32)), uS, uS] [(.int (1 : Int32)), (.int (0 : Int32))]))
  refine Go.back (fun t k => XS.icmpYes X0.here hx rfl (pc0 := 7) (pc' := 68) rfl (hb hby d14_7) rfl (flt (by decide)).2.2.2 (by decide) (by decide) k) ?_
  show Go _ _ _ _ (s₁.setTop (mkF m 68 #[vR p0, vI (0 : Int32), vI (0 : Int32), vI (1 : Int32), vI ((1 : Int32) - (0 : Int32)), uS, uS] []))
  refine Go.back (fun t k => XS.aconstNull X0.here hx rfl (hb hby d14_68) k) ?_
  refine Go.back (fun t k => XS.aloadN X0.here hx rfl (hb hby d14_69) rfl rfl  k) ?_
  refine Go.back (fun t k => XS.iconst X0.here hx rfl (hb hby d14_70) k) ?_
  refine Go.back (fun t k => XS.iloadN X0.here hx rfl (hb hby d14_71) rfl  k) ?_
  show Go _ _ _ _ (s₁.setTop (mkF m 72 #[vR p0, vI (0 : Int32), vI (0 : Int32), vI (1 : Int32), vI ((1 : Int32) - (0 : Int32)), uS, uS] [(.int (0 : Int32)), (.int (0 : Int32)), (.ref p0), .null]))
  refine Go.back (fun t k => XS.iloadN X0.here hx rfl (hb hby d14_72) rfl  k) ?_
  obtain ⟨_, _, ⟨T1, L1, k1, n1⟩, -, X1, ⟨Lc1, hQ1, l1, y1, z1⟩, st1⟩ := Jvm.LawKit.callS X0 hx (y := (⟨"java/util/DualPivotQuicksort", "sort", "(Ljava/util/DualPivotQuicksort$Sorter;[IIII)V"⟩ : MethodName)) hown (mvT hZ (wk hw 126 rfl)) (mvT hZ (wk hw 127 rfl)) (mvT hZ (wk hw 124 rfl)) (mvT hZ (wk hw 128 rfl)) (by decide) (backOf (W := 0) (rm25 l Z a0 hw [] p0 c0 c1 h0 n0 Z0 H0 H1) hZ (wk hw 128 rfl) (wk hw 124 rfl) (by decide) (by decide)) (g := (mkF m 73 #[vR p0, vI (0 : Int32), vI (0 : Int32), vI (1 : Int32), vI ((1 : Int32) - (0 : Int32)), uS, uS] [(.int (1 : Int32)), (.int (0 : Int32)), (.int (0 : Int32)), (.ref p0), .null])) rfl (by rw [hml]; rfl) (argsL := [.null, (.ref p0), (.int (0 : Int32)), (.int (0 : Int32)), (.int (1 : Int32))]) (rest := []) (lenOf pd_1 rfl) rfl (by show 2 * 0 + _ ≤ _; exact Nat.le_of_eq rfl) (hb hby d14_73) (fun _ _ => ⟨rfl, e0, (by decide : 0 + 0 ≤ _), (by decide : 0 + 0 ≤ _)⟩)
  dsimp only [Pt.U, Pt.locs, Pt.cells, Pt.slots] at X1 l1 y1 z1 st1 hQ1
  subst l1 y1 z1
  obtain ⟨h1, e1⟩ : ∃ z, T1.heap = z := ⟨_, rfl⟩
  rw [e1] at hQ1
  obtain ⟨rfl, N1q, K1, F4⟩ := hQ1
  obtain ⟨Lo1, Y1, N1⟩ := pk X1 (Fr.app N0 N1q)
  have F2 := Nat.le_trans Z0 K1.1
  have F3 : Keep h0 h1 [p0] := (Keep.refl h0 [p0]).trans K1 (allS (P := fun x => x ∈ [p0] ∨ h0.size ≤ x) (Or.inl (List.mem_of_getElem? (i := 0) rfl)) all0)
  refine Go.back st1 ?_
  show Go _ _ _ _ (T1.setTop (mkF m 76 #[vR p0, vI (0 : Int32), vI (0 : Int32), vI (1 : Int32), vI ((1 : Int32) - (0 : Int32)), uS, uS] []))
  exact Go.retV Y1 hx Bd.returns (hb hby d14_76) Bd.notSynchronized ⟨rfl, N1, (by rw [e1]; exact F3), (by rw [e1]; exact F4)⟩ (by decide) (by decide)
def Q27 (Z : State)  (h0 : Heap) (n0 : Nat) (v : Option Value) (h : Heap) (L : List Loc) : Prop := v = none ∧ Fr n0 L ∧ h = h0
abbrev rmm27 : Room := { frames := 0, cells := 0, slots := 0, locals := 0 }
abbrev P27 (Z : State)  (h0 : Heap) (n0 : Nat) (s : State) : Outcome → State → Prop := fun o U' => ∃ v L, o = .returned v ∧ Q27 Z  h0 n0 v U'.heap L ∧ FrameEnd s o U' L rmm27.cells rmm27.slots
theorem pn_27 : plainName "java/util/Arrays" = true := by first | (simp [plainName, overriddenIn]; done) | decide +kernel
theorem ef_27 (m : MethodId)  : entryFrame m #[(.int (16 : Int32)), (.int (0 : Int32)), (.int (1 : Int32))] 3 = mkF m 0 #[vI (16 : Int32), vI (0 : Int32), vI (1 : Int32)] [] := by first | (simp [entryFrame, mkF, argsToLocals, Value.category]; done) | rfl
set_option maxRecDepth 65536 in
set_option maxHeartbeats 40000000 in
theorem rm27 (l : Launch) (Z : State) (a0 : Array Value) (hw : ∀ d ∈ tables_1, d.before a0 Z = true) (ws : List Jvm.Cond)  (h0 : Heap) (n0 : Nat) (Z0 : n0 ≤ h0.size) :
    MetFree l (⟨"java/util/Arrays", "rangeCheck", "(III)V"⟩ : MethodName) (head1 (Jvm.Cond.code (⟨"java/util/Arrays", "rangeCheck", "(III)V"⟩ : MethodName) jdk_65_method_30_code 3 none :: ws) rmm27) (fun a U => a = #[(.int (16 : Int32)), (.int (0 : Int32)), (.int (1 : Int32))] ∧ Z.Warmed39 U.vm ∧ U.heap = h0) (fun _ _ _ _ _ => True) (fun _ U o U' => ∃ v L, o = .returned v ∧ Q27 Z  h0 n0 v U'.heap L ∧ FrameEnd U o U' L rmm27.cells rmm27.slots) := by
  refine MetFree.of_bodySF (plainFor_of_name pn_27) hisR ?_
  intro p e s m args below meth c s₁ Bd hml0 hP hK
  obtain ⟨rfl, hZ, hh⟩ := hP
  have hx := Bd.exec
  have hby := Bd.bytes
  have hml : c.maxLocals = 3 := hml0
  have hown : s.vm.findClass "java/util/Arrays" = some m.cls := findClass_of_methodNamed Bd.named
  have hnm := (name_of_methodNamed Bd.named Bd.method).1
  have X0 : Stand p l e rmm27 s m #[(.int (16 : Int32)), (.int (0 : Int32)), (.int (1 : Int32))] below meth c s₁ [] 0 0 := Stand.of_body Bd
  have e0 : s₁.heap = h0 := by rw [← hh, Bd.state]; rfl
  have N0 := Fr.nil n0
  show Go p.tables e below (P27 Z  h0 n0 s) (s₁.setTop (entryFrame m #[(.int (16 : Int32)), (.int (0 : Int32)), (.int (1 : Int32))] 3))
  refine Go.back (fun t k => castTop (ef_27 m ) k) ?_
  show Go p.tables e below (P27 Z  h0 n0 s) (s₁.setTop (mkF m 0 #[vI (16 : Int32), vI (0 : Int32), vI (1 : Int32)] []))
  refine Go.back (fun t k => XS.iloadN X0.here hx rfl (hb hby d13_0) rfl  k) ?_
  refine Go.back (fun t k => XS.iloadN X0.here hx rfl (hb hby d13_1) rfl  k) ?_
  show Go _ _ _ _ (s₁.setTop (mkF m 2 #[vI (16 : Int32), vI (0 : Int32), vI (1 : Int32)] [(.int (1 : Int32)), (.int (0 : Int32))]))
  refine Go.back (fun t k => XS.icmpYes X0.here hx rfl (pc0 := 2) (pc' := 46) rfl (hb hby d13_2) rfl (flt (by decide)).2.2.2 (by decide) (by decide) k) ?_
  show Go _ _ _ _ (s₁.setTop (mkF m 46 #[vI (16 : Int32), vI (0 : Int32), vI (1 : Int32)] []))
  refine Go.back (fun t k => XS.iloadN X0.here hx rfl (hb hby d13_46) rfl  k) ?_
  show Go _ _ _ _ (s₁.setTop (mkF m 47 #[vI (16 : Int32), vI (0 : Int32), vI (1 : Int32)] [(.int (0 : Int32))]))
  refine Go.back (fun t k => XS.ifYes X0.here hx rfl (pc0 := 47) (pc' := 59) rfl (hb hby d13_47) rfl ((if0 _ _).trans (flt (by decide)).2.1) (by decide) (by decide) k) ?_
  show Go _ _ _ _ (s₁.setTop (mkF m 59 #[vI (16 : Int32), vI (0 : Int32), vI (1 : Int32)] []))
  refine Go.back (fun t k => XS.iloadN X0.here hx rfl (hb hby d13_59) rfl  k) ?_
  refine Go.back (fun t k => XS.iloadN X0.here hx rfl (hb hby d13_60) rfl  k) ?_
  show Go _ _ _ _ (s₁.setTop (mkF m 61 #[vI (16 : Int32), vI (0 : Int32), vI (1 : Int32)] [(.int (16 : Int32)), (.int (1 : Int32))]))
  refine Go.back (fun t k => XS.icmpYes X0.here hx rfl (pc0 := 61) (pc' := 73) rfl (hb hby d13_61) rfl (flt (by decide)).2.2.2 (by decide) (by decide) k) ?_
  show Go _ _ _ _ (s₁.setTop (mkF m 73 #[vI (16 : Int32), vI (0 : Int32), vI (1 : Int32)] []))
  exact Go.retV X0 hx Bd.returns (hb hby d13_73) Bd.notSynchronized ⟨rfl, N0, e0⟩ (by decide) (by decide)
def Q28 (Z : State) (p0 : Addr) (c0 : Int32) (c1 : Int32) (h0 : Heap) (n0 : Nat) (v : Option Value) (h : Heap) (L : List Loc) : Prop := v = none ∧ Fr n0 L ∧ Keep h0 h [p0] ∧ ArL Z h p0 .int [(.int c0), (.int c1), (.int (0 : Int32)), (.int (0 : Int32)), (.int (0 : Int32)), (.int (0 : Int32)), (.int (0 : Int32)), (.int (0 : Int32)), (.int (0 : Int32)), (.int (0 : Int32)), (.int (0 : Int32)), (.int (0 : Int32)), (.int (0 : Int32)), (.int (0 : Int32)), (.int (0 : Int32)), (.int (0 : Int32))]
abbrev rmm28 : Room := { frames := 3, cells := 0, slots := 0, locals := 67 }
abbrev P28 (Z : State) (p0 : Addr) (c0 : Int32) (c1 : Int32) (h0 : Heap) (n0 : Nat) (s : State) : Outcome → State → Prop := fun o U' => ∃ v L, o = .returned v ∧ Q28 Z p0 c0 c1 h0 n0 v U'.heap L ∧ FrameEnd s o U' L rmm28.cells rmm28.slots
theorem pn_28 : plainName "java/util/Arrays" = true := by first | (simp [plainName, overriddenIn]; done) | decide +kernel
theorem ef_28 (m : MethodId) (p0 : Addr) : entryFrame m #[(.ref p0), (.int (0 : Int32)), (.int (1 : Int32))] 3 = mkF m 0 #[vR p0, vI (0 : Int32), vI (1 : Int32)] [] := by first | (simp [entryFrame, mkF, argsToLocals, Value.category]; done) | rfl
set_option maxRecDepth 65536 in
set_option maxHeartbeats 40000000 in
theorem rm28 (l : Launch) (Z : State) (a0 : Array Value) (hw : ∀ d ∈ tables_1, d.before a0 Z = true) (ws : List Jvm.Cond) (p0 : Addr) (c0 : Int32) (c1 : Int32) (h0 : Heap) (n0 : Nat) (Z0 : n0 ≤ h0.size) (H0 : ArL Z h0 p0 .int [(.int c0), (.int c1), (.int (0 : Int32)), (.int (0 : Int32)), (.int (0 : Int32)), (.int (0 : Int32)), (.int (0 : Int32)), (.int (0 : Int32)), (.int (0 : Int32)), (.int (0 : Int32)), (.int (0 : Int32)), (.int (0 : Int32)), (.int (0 : Int32)), (.int (0 : Int32)), (.int (0 : Int32)), (.int (0 : Int32))]) (H1 : n0 ≤ p0) :
    MetFree l (⟨"java/util/Arrays", "sort", "([III)V"⟩ : MethodName) (head1 (Jvm.Cond.code (⟨"java/util/Arrays", "sort", "([III)V"⟩ : MethodName) jdk_65_method_3_code 3 none :: ws) rmm28) (fun a U => a = #[(.ref p0), (.int (0 : Int32)), (.int (1 : Int32))] ∧ Z.Warmed39 U.vm ∧ U.heap = h0) (fun _ _ _ _ _ => True) (fun _ U o U' => ∃ v L, o = .returned v ∧ Q28 Z p0 c0 c1 h0 n0 v U'.heap L ∧ FrameEnd U o U' L rmm28.cells rmm28.slots) := by
  refine MetFree.of_bodySF (plainFor_of_name pn_28) hisR ?_
  intro p e s m args below meth c s₁ Bd hml0 hP hK
  obtain ⟨rfl, hZ, hh⟩ := hP
  have hx := Bd.exec
  have hby := Bd.bytes
  have hml : c.maxLocals = 3 := hml0
  have hown : s.vm.findClass "java/util/Arrays" = some m.cls := findClass_of_methodNamed Bd.named
  have hnm := (name_of_methodNamed Bd.named Bd.method).1
  have X0 : Stand p l e rmm28 s m #[(.ref p0), (.int (0 : Int32)), (.int (1 : Int32))] below meth c s₁ [] 0 0 := Stand.of_body Bd
  have e0 : s₁.heap = h0 := by rw [← hh, Bd.state]; rfl
  have N0 := Fr.nil n0
  show Go p.tables e below (P28 Z p0 c0 c1 h0 n0 s) (s₁.setTop (entryFrame m #[(.ref p0), (.int (0 : Int32)), (.int (1 : Int32))] 3))
  refine Go.back (fun t k => castTop (ef_28 m p0) k) ?_
  show Go p.tables e below (P28 Z p0 c0 c1 h0 n0 s) (s₁.setTop (mkF m 0 #[vR p0, vI (0 : Int32), vI (1 : Int32)] []))
  refine Go.back (fun t k => XS.aloadN X0.here hx rfl (hb hby d12_0) rfl rfl  k) ?_
  obtain ⟨cl1, Ar1, S1⟩ := H0.len
  refine Go.back (fun t k => X0.arraylength hx (by rw [e0]; exact Ar1.1) (State.isArrayOf_alike hZ.alike Ar1.2.1) (g := (mkF m 1 #[vR p0, vI (0 : Int32), vI (1 : Int32)] [(.ref p0)])) rfl rfl (hb hby d12_1) t k) ?_
  rw [S1]
  refine Go.back (fun t k => XS.iloadN X0.here hx rfl (hb hby d12_2) rfl  k) ?_
  refine Go.back (fun t k => XS.iloadN X0.here hx rfl (hb hby d12_3) rfl  k) ?_
  show Go _ _ _ _ (s₁.setTop (mkF m 4 #[vR p0, vI (0 : Int32), vI (1 : Int32)] [(.int (1 : Int32)), (.int (0 : Int32)), (.int (16 : Int32))]))
  obtain ⟨_, _, ⟨T2, L2, k2, n2⟩, -, X2, ⟨Lc2, hQ2, l2, y2, z2⟩, st2⟩ := Jvm.LawKit.callS X0 hx (y := (⟨"java/util/Arrays", "rangeCheck", "(III)V"⟩ : MethodName)) hown (mvT hZ (wk hw 119 rfl)) (mvT hZ (wk hw 120 rfl)) (mvT hZ (wk hw 117 rfl)) (mvT hZ (wk hw 121 rfl)) (by decide) (backOf (W := 0) (rm27 l Z a0 hw [] h0 n0 Z0) hZ (wk hw 121 rfl) (wk hw 117 rfl) (by decide) (by decide)) (g := (mkF m 4 #[vR p0, vI (0 : Int32), vI (1 : Int32)] [(.int (1 : Int32)), (.int (0 : Int32)), (.int (16 : Int32))])) rfl (by rw [hml]; rfl) (argsL := [(.int (16 : Int32)), (.int (0 : Int32)), (.int (1 : Int32))]) (rest := []) (lenOf pd_2 rfl) rfl (by show 2 * 0 + _ ≤ _; exact Nat.le_of_eq rfl) (hb hby d12_4) (fun _ _ => ⟨rfl, e0, (by decide : 0 + 0 ≤ _), (by decide : 0 + 0 ≤ _)⟩)
  dsimp only [Pt.U, Pt.locs, Pt.cells, Pt.slots] at X2 l2 y2 z2 st2 hQ2
  subst l2 y2 z2
  obtain ⟨rfl, N2q, e2⟩ := hQ2
  obtain ⟨Lo2, Y2, N2⟩ := pk X2 (Fr.app N0 N2q)
  refine Go.back st2 ?_
  show Go _ _ _ _ (T2.setTop (mkF m 7 #[vR p0, vI (0 : Int32), vI (1 : Int32)] []))
  refine Go.back (fun t k => XS.aloadN Y2.here hx rfl (hb hby d12_7) rfl rfl  k) ?_
  refine Go.back (fun t k => XS.iconst Y2.here hx rfl (hb hby d12_8) k) ?_
  refine Go.back (fun t k => XS.iloadN Y2.here hx rfl (hb hby d12_9) rfl  k) ?_
  refine Go.back (fun t k => XS.iloadN Y2.here hx rfl (hb hby d12_10) rfl  k) ?_
  show Go _ _ _ _ (T2.setTop (mkF m 11 #[vR p0, vI (0 : Int32), vI (1 : Int32)] [(.int (1 : Int32)), (.int (0 : Int32)), (.int (0 : Int32)), (.ref p0)]))
  obtain ⟨_, _, ⟨T3, L3, k3, n3⟩, -, X3, ⟨Lc3, hQ3, l3, y3, z3⟩, st3⟩ := Jvm.LawKit.callS Y2 hx (y := (⟨"java/util/DualPivotQuicksort", "sort", "([IIII)V"⟩ : MethodName)) hown (mvT hZ (wk hw 122 rfl)) (mvT hZ (wk hw 123 rfl)) (mvT hZ (wk hw 124 rfl)) (mvT hZ (wk hw 125 rfl)) (by decide) (backOf (W := 0) (rm26 l Z a0 hw [] p0 c0 c1 h0 n0 Z0 H0 H1) hZ (wk hw 125 rfl) (wk hw 124 rfl) (by decide) (by decide)) (g := (mkF m 11 #[vR p0, vI (0 : Int32), vI (1 : Int32)] [(.int (1 : Int32)), (.int (0 : Int32)), (.int (0 : Int32)), (.ref p0)])) rfl (by rw [hml]; rfl) (argsL := [(.ref p0), (.int (0 : Int32)), (.int (0 : Int32)), (.int (1 : Int32))]) (rest := []) (lenOf pd_3 rfl) rfl (by show 2 * 0 + _ ≤ _; exact Nat.le_of_eq rfl) (hb hby d12_11) (fun _ _ => ⟨rfl, e2, (by decide : 0 + 0 ≤ _), (by decide : 0 + 0 ≤ _)⟩)
  dsimp only [Pt.U, Pt.locs, Pt.cells, Pt.slots] at X3 l3 y3 z3 st3 hQ3
  subst l3 y3 z3
  obtain ⟨h3, e3⟩ : ∃ z, T3.heap = z := ⟨_, rfl⟩
  rw [e3] at hQ3
  obtain ⟨rfl, N3q, K3, F6⟩ := hQ3
  obtain ⟨Lo3, Y3, N3⟩ := pk X3 (Fr.app N2 N3q)
  have F4 := Nat.le_trans Z0 K3.1
  have F5 : Keep h0 h3 [p0] := (Keep.refl h0 [p0]).trans K3 (allS (P := fun x => x ∈ [p0] ∨ h0.size ≤ x) (Or.inl (List.mem_of_getElem? (i := 0) rfl)) all0)
  refine Go.back st3 ?_
  show Go _ _ _ _ (T3.setTop (mkF m 14 #[vR p0, vI (0 : Int32), vI (1 : Int32)] []))
  exact Go.retV Y3 hx Bd.returns (hb hby d12_14) Bd.notSynchronized ⟨rfl, N3, (by rw [e3]; exact F5), (by rw [e3]; exact F6)⟩ (by decide) (by decide)
theorem d16_12 : decode jdk_2529_method_6_code 12 = .ok (.aload_n 0, 1) := by decide +kernel
theorem d16_13 : decode jdk_2529_method_6_code 13 = .ok (.iload 4, 2) := by decide +kernel
theorem d16_15 : decode jdk_2529_method_6_code 15 = .ok (.dup, 1) := by decide +kernel
theorem d16_16 : decode jdk_2529_method_6_code 16 = .ok (.istore_n 3, 1) := by decide +kernel
theorem d16_17 : decode jdk_2529_method_6_code 17 = .ok (.iaload, 1) := by decide +kernel
theorem d16_18 : decode jdk_2529_method_6_code 18 = .ok (.istore 5, 2) := by decide +kernel
theorem d16_20 : decode jdk_2529_method_6_code 20 = .ok (.iload 5, 2) := by decide +kernel
theorem d16_22 : decode jdk_2529_method_6_code 22 = .ok (.aload_n 0, 1) := by decide +kernel
theorem d16_23 : decode jdk_2529_method_6_code 23 = .ok (.iload_n 3, 1) := by decide +kernel
theorem d16_24 : decode jdk_2529_method_6_code 24 = .ok (.iconst 1, 1) := by decide +kernel
theorem d16_25 : decode jdk_2529_method_6_code 25 = .ok (.isub, 1) := by decide +kernel
theorem d16_26 : decode jdk_2529_method_6_code 26 = .ok (.iaload, 1) := by decide +kernel
theorem d16_27 : decode jdk_2529_method_6_code 27 = .ok (.if_icmp .ge 37, 3) := by decide +kernel
theorem d16_30 : decode jdk_2529_method_6_code 30 = .ok (.iinc 3 (-1), 3) := by decide +kernel
theorem d16_33 : decode jdk_2529_method_6_code 33 = .ok (.iload_n 3, 1) := by decide +kernel
theorem d16_34 : decode jdk_2529_method_6_code 34 = .ok (.iload_n 1, 1) := by decide +kernel
theorem d16_35 : decode jdk_2529_method_6_code 35 = .ok (.if_icmp .lt 22, 3) := by decide +kernel
theorem d16_38 : decode jdk_2529_method_6_code 38 = .ok (.iload 5, 2) := by decide +kernel
theorem d16_40 : decode jdk_2529_method_6_code 40 = .ok (.aload_n 0, 1) := by decide +kernel
theorem d16_41 : decode jdk_2529_method_6_code 41 = .ok (.iload_n 3, 1) := by decide +kernel
theorem d16_42 : decode jdk_2529_method_6_code 42 = .ok (.iaload, 1) := by decide +kernel
theorem d16_43 : decode jdk_2529_method_6_code 43 = .ok (.if_icmp .ge 14, 3) := by decide +kernel
theorem d16_46 : decode jdk_2529_method_6_code 46 = .ok (.aload_n 0, 1) := by decide +kernel
theorem d16_47 : decode jdk_2529_method_6_code 47 = .ok (.iload_n 3, 1) := by decide +kernel
theorem d16_48 : decode jdk_2529_method_6_code 48 = .ok (.iconst 1, 1) := by decide +kernel
theorem d16_49 : decode jdk_2529_method_6_code 49 = .ok (.iadd, 1) := by decide +kernel
theorem d16_50 : decode jdk_2529_method_6_code 50 = .ok (.aload_n 0, 1) := by decide +kernel
theorem d16_51 : decode jdk_2529_method_6_code 51 = .ok (.iload_n 3, 1) := by decide +kernel
theorem d16_52 : decode jdk_2529_method_6_code 52 = .ok (.iaload, 1) := by decide +kernel
theorem d16_53 : decode jdk_2529_method_6_code 53 = .ok (.iastore, 1) := by decide +kernel
theorem d16_54 : decode jdk_2529_method_6_code 54 = .ok (.goto (-24), 3) := by decide +kernel
theorem d16_57 : decode jdk_2529_method_6_code 57 = .ok (.aload_n 0, 1) := by decide +kernel
theorem d16_58 : decode jdk_2529_method_6_code 58 = .ok (.iload_n 3, 1) := by decide +kernel
theorem d16_59 : decode jdk_2529_method_6_code 59 = .ok (.iconst 1, 1) := by decide +kernel
theorem d16_60 : decode jdk_2529_method_6_code 60 = .ok (.iadd, 1) := by decide +kernel
theorem d16_61 : decode jdk_2529_method_6_code 61 = .ok (.iload 5, 2) := by decide +kernel
theorem d16_63 : decode jdk_2529_method_6_code 63 = .ok (.iastore, 1) := by decide +kernel
theorem d16_64 : decode jdk_2529_method_6_code 64 = .ok (.goto (-61), 3) := by decide +kernel
def g29_1 (c0 : Int32) (c1 : Int32) : Int32 := (if c1 < c0 then c1 else c0)
def g29_2 (c0 : Int32) (c1 : Int32) : Int32 := (if c1 < c0 then c0 else c1)
def Q29 (Z : State) (p0 : Addr) (c0 : Int32) (c1 : Int32) (h0 : Heap) (n0 : Nat) (v : Option Value) (h : Heap) (L : List Loc) : Prop := v = none ∧ Fr n0 L ∧ Keep h0 h [p0] ∧ ArL Z h p0 .int [(.int (g29_1 c0 c1)), (.int (g29_2 c0 c1)), (.int (0 : Int32)), (.int (0 : Int32)), (.int (0 : Int32)), (.int (0 : Int32)), (.int (0 : Int32)), (.int (0 : Int32)), (.int (0 : Int32)), (.int (0 : Int32)), (.int (0 : Int32)), (.int (0 : Int32)), (.int (0 : Int32)), (.int (0 : Int32)), (.int (0 : Int32)), (.int (0 : Int32))]
abbrev rmm29 : Room := { frames := 0, cells := 0, slots := 0, locals := 0 }
abbrev P29 (Z : State) (p0 : Addr) (c0 : Int32) (c1 : Int32) (h0 : Heap) (n0 : Nat) (s : State) : Outcome → State → Prop := fun o U' => ∃ v L, o = .returned v ∧ Q29 Z p0 c0 c1 h0 n0 v U'.heap L ∧ FrameEnd s o U' L rmm29.cells rmm29.slots
theorem pn_29 : plainName "java/util/DualPivotQuicksort" = true := by first | (simp [plainName, overriddenIn]; done) | decide +kernel
theorem ef_29 (m : MethodId) (p0 : Addr) : entryFrame m #[(.ref p0), (.int (0 : Int32)), (.int (2 : Int32))] 6 = mkF m 0 #[vR p0, vI (0 : Int32), vI (2 : Int32), uS, uS, uS] [] := by first | (simp [entryFrame, mkF, argsToLocals, Value.category]; done) | rfl
set_option maxRecDepth 65536 in
set_option maxHeartbeats 40000000 in
theorem rm29 (l : Launch) (Z : State) (a0 : Array Value) (hw : ∀ d ∈ tables_1, d.before a0 Z = true) (ws : List Jvm.Cond) (p0 : Addr) (c0 : Int32) (c1 : Int32) (h0 : Heap) (n0 : Nat) (Z0 : n0 ≤ h0.size) (H0 : ArL Z h0 p0 .int [(.int c0), (.int c1), (.int (0 : Int32)), (.int (0 : Int32)), (.int (0 : Int32)), (.int (0 : Int32)), (.int (0 : Int32)), (.int (0 : Int32)), (.int (0 : Int32)), (.int (0 : Int32)), (.int (0 : Int32)), (.int (0 : Int32)), (.int (0 : Int32)), (.int (0 : Int32)), (.int (0 : Int32)), (.int (0 : Int32))]) (H1 : n0 ≤ p0) :
    MetFree l (⟨"java/util/DualPivotQuicksort", "insertionSort", "([III)V"⟩ : MethodName) (head1 (Jvm.Cond.code (⟨"java/util/DualPivotQuicksort", "insertionSort", "([III)V"⟩ : MethodName) jdk_2529_method_6_code 6 none :: ws) rmm29) (fun a U => a = #[(.ref p0), (.int (0 : Int32)), (.int (2 : Int32))] ∧ Z.Warmed39 U.vm ∧ U.heap = h0) (fun _ _ _ _ _ => True) (fun _ U o U' => ∃ v L, o = .returned v ∧ Q29 Z p0 c0 c1 h0 n0 v U'.heap L ∧ FrameEnd U o U' L rmm29.cells rmm29.slots) := by
  refine MetFree.of_bodySF (plainFor_of_name pn_29) hisR ?_
  intro p e s m args below meth c s₁ Bd hml0 hP hK
  obtain ⟨rfl, hZ, hh⟩ := hP
  have hx := Bd.exec
  have hby := Bd.bytes
  have hml : c.maxLocals = 6 := hml0
  have hown : s.vm.findClass "java/util/DualPivotQuicksort" = some m.cls := findClass_of_methodNamed Bd.named
  have hnm := (name_of_methodNamed Bd.named Bd.method).1
  have X0 : Stand p l e rmm29 s m #[(.ref p0), (.int (0 : Int32)), (.int (2 : Int32))] below meth c s₁ [] 0 0 := Stand.of_body Bd
  have e0 : s₁.heap = h0 := by rw [← hh, Bd.state]; rfl
  have N0 := Fr.nil n0
  show Go p.tables e below (P29 Z p0 c0 c1 h0 n0 s) (s₁.setTop (entryFrame m #[(.ref p0), (.int (0 : Int32)), (.int (2 : Int32))] 6))
  refine Go.back (fun t k => castTop (ef_29 m p0) k) ?_
  show Go p.tables e below (P29 Z p0 c0 c1 h0 n0 s) (s₁.setTop (mkF m 0 #[vR p0, vI (0 : Int32), vI (2 : Int32), uS, uS, uS] []))
  have hf1 : g29_1 c0 c1 = (if c1 < c0 then c1 else c0) := rfl
  have hf2 : g29_2 c0 c1 = (if c1 < c0 then c0 else c1) := rfl
  refine Go.back (fun t k => XS.iloadN X0.here hx rfl (hb hby d16_0) rfl  k) ?_
  refine Go.back (fun t k => XS.istore X0.here hx rfl (hb hby d16_1) rfl (l' := #[vR p0, vI (0 : Int32), vI (2 : Int32), uS, vI (0 : Int32), uS]) rfl k) ?_
  refine Go.back (fun t k => XS.iinc X0.here hx rfl (hb hby d16_3) rfl (l' := #[vR p0, vI (0 : Int32), vI (2 : Int32), uS, vI ((0 : Int32) + (1 : Int32)), uS]) rfl k) ?_
  show Go _ _ _ _ (s₁.setTop (mkF m 6 #[vR p0, vI (0 : Int32), vI (2 : Int32), uS, vI ((0 : Int32) + (1 : Int32)), uS] []))
  rw [show ((0 : Int32) + (1 : Int32)) = (1 : Int32) from by decide]
  show Go _ _ _ _ (s₁.setTop (mkF m 6 #[vR p0, vI (0 : Int32), vI (2 : Int32), uS, vI (1 : Int32), uS] []))
  refine Go.back (fun t k => XS.iload X0.here hx rfl (hb hby d16_6) rfl  k) ?_
  refine Go.back (fun t k => XS.iloadN X0.here hx rfl (hb hby d16_8) rfl  k) ?_
  show Go _ _ _ _ (s₁.setTop (mkF m 9 #[vR p0, vI (0 : Int32), vI (2 : Int32), uS, vI (1 : Int32), uS] [(.int (2 : Int32)), (.int (1 : Int32))]))
  refine Go.back (fun t k => XS.icmpNo X0.here hx rfl (hb hby d16_9) rfl (tlt (by decide)).2.1 k) ?_
  show Go _ _ _ _ (s₁.setTop (mkF m 12 #[vR p0, vI (0 : Int32), vI (2 : Int32), uS, vI (1 : Int32), uS] []))
  refine Go.back (fun t k => XS.aloadN X0.here hx rfl (hb hby d16_12) rfl rfl  k) ?_
  refine Go.back (fun t k => XS.iload X0.here hx rfl (hb hby d16_13) rfl  k) ?_
  refine Go.back (fun t k => XS.dup X0.here hx rfl (hb hby d16_15) rfl rfl k) ?_
  refine Go.back (fun t k => XS.istoreN X0.here hx rfl (hb hby d16_16) rfl (l' := #[vR p0, vI (0 : Int32), vI (2 : Int32), vI (1 : Int32), vI (1 : Int32), uS]) rfl k) ?_
  show Go _ _ _ _ (s₁.setTop (mkF m 17 #[vR p0, vI (0 : Int32), vI (2 : Int32), vI (1 : Int32), vI (1 : Int32), uS] [(.int (1 : Int32)), (.ref p0)]))
  obtain ⟨cl1, Ar1, hi1, ha1⟩ := H0.get (j := (1 : Int32)) (by decide) (v := (.int c1)) rfl
  refine Go.back (fun t k => X0.iaload hx (j := (1 : Int32)) (v := (.int c1)) (by rw [e0]; exact Ar1.1) (State.isArrayOf_alike hZ.alike Ar1.2.1) Ar1.2.2 hi1 ha1 (g := (mkF m 17 #[vR p0, vI (0 : Int32), vI (2 : Int32), vI (1 : Int32), vI (1 : Int32), uS] [(.int (1 : Int32)), (.ref p0)])) rfl rfl (hb hby d16_17) t k) ?_
  refine Go.back (fun t k => XS.istore X0.here hx rfl (hb hby d16_18) rfl (l' := #[vR p0, vI (0 : Int32), vI (2 : Int32), vI (1 : Int32), vI (1 : Int32), vI c1]) rfl k) ?_
  refine Go.back (fun t k => XS.iload X0.here hx rfl (hb hby d16_20) rfl  k) ?_
  refine Go.back (fun t k => XS.aloadN X0.here hx rfl (hb hby d16_22) rfl rfl  k) ?_
  show Go _ _ _ _ (s₁.setTop (mkF m 23 #[vR p0, vI (0 : Int32), vI (2 : Int32), vI (1 : Int32), vI (1 : Int32), vI c1] [(.ref p0), (.int c1)]))
  refine Go.back (fun t k => XS.iloadN X0.here hx rfl (hb hby d16_23) rfl  k) ?_
  refine Go.back (fun t k => XS.iconst X0.here hx rfl (hb hby d16_24) k) ?_
  refine Go.back (fun t k => XS.isub X0.here hx rfl (hb hby d16_25) rfl k) ?_
  show Go _ _ _ _ (s₁.setTop (mkF m 26 #[vR p0, vI (0 : Int32), vI (2 : Int32), vI (1 : Int32), vI (1 : Int32), vI c1] [(.int ((1 : Int32) - (1 : Int32))), (.ref p0), (.int c1)]))
  rw [show ((1 : Int32) - (1 : Int32)) = (0 : Int32) from by decide]
  show Go _ _ _ _ (s₁.setTop (mkF m 26 #[vR p0, vI (0 : Int32), vI (2 : Int32), vI (1 : Int32), vI (1 : Int32), vI c1] [(.int (0 : Int32)), (.ref p0), (.int c1)]))
  obtain ⟨cl2, Ar2, hi2, ha2⟩ := H0.get (j := (0 : Int32)) (by decide) (v := (.int c0)) rfl
  refine Go.back (fun t k => X0.iaload hx (j := (0 : Int32)) (v := (.int c0)) (by rw [e0]; exact Ar2.1) (State.isArrayOf_alike hZ.alike Ar2.2.1) Ar2.2.2 hi2 ha2 (g := (mkF m 26 #[vR p0, vI (0 : Int32), vI (2 : Int32), vI (1 : Int32), vI (1 : Int32), vI c1] [(.int (0 : Int32)), (.ref p0), (.int c1)])) rfl rfl (hb hby d16_26) t k) ?_
  show Go _ _ _ _ (s₁.setTop (mkF m 27 #[vR p0, vI (0 : Int32), vI (2 : Int32), vI (1 : Int32), vI (1 : Int32), vI c1] [(.int c0), (.int c1)]))
  by_cases hc3 : c1 < c0
  · have r4 := hf1.trans (if_pos hc3)
    have r5 := hf2.trans (if_pos hc3)
    refine Go.back (fun t k => XS.icmpNo X0.here hx rfl (hb hby d16_27) rfl (tlt hc3).2.1 k) ?_
    show Go _ _ _ _ (s₁.setTop (mkF m 30 #[vR p0, vI (0 : Int32), vI (2 : Int32), vI (1 : Int32), vI (1 : Int32), vI c1] []))
    refine Go.back (fun t k => XS.iinc X0.here hx rfl (hb hby d16_30) rfl (l' := #[vR p0, vI (0 : Int32), vI (2 : Int32), vI ((1 : Int32) + (-1 : Int32)), vI (1 : Int32), vI c1]) rfl k) ?_
    show Go _ _ _ _ (s₁.setTop (mkF m 33 #[vR p0, vI (0 : Int32), vI (2 : Int32), vI ((1 : Int32) + (-1 : Int32)), vI (1 : Int32), vI c1] []))
    rw [show ((1 : Int32) + (-1 : Int32)) = (0 : Int32) from by decide]
    show Go _ _ _ _ (s₁.setTop (mkF m 33 #[vR p0, vI (0 : Int32), vI (2 : Int32), vI (0 : Int32), vI (1 : Int32), vI c1] []))
    refine Go.back (fun t k => XS.iloadN X0.here hx rfl (hb hby d16_33) rfl  k) ?_
    refine Go.back (fun t k => XS.iloadN X0.here hx rfl (hb hby d16_34) rfl  k) ?_
    show Go _ _ _ _ (s₁.setTop (mkF m 35 #[vR p0, vI (0 : Int32), vI (2 : Int32), vI (0 : Int32), vI (1 : Int32), vI c1] [(.int (0 : Int32)), (.int (0 : Int32))]))
    refine Go.back (fun t k => XS.icmpNo X0.here hx rfl (hb hby d16_35) rfl (flt (by decide)).1 k) ?_
    show Go _ _ _ _ (s₁.setTop (mkF m 38 #[vR p0, vI (0 : Int32), vI (2 : Int32), vI (0 : Int32), vI (1 : Int32), vI c1] []))
    refine Go.back (fun t k => XS.iload X0.here hx rfl (hb hby d16_38) rfl  k) ?_
    refine Go.back (fun t k => XS.aloadN X0.here hx rfl (hb hby d16_40) rfl rfl  k) ?_
    refine Go.back (fun t k => XS.iloadN X0.here hx rfl (hb hby d16_41) rfl  k) ?_
    obtain ⟨cl6, Ar6, hi6, ha6⟩ := H0.get (j := (0 : Int32)) (by decide) (v := (.int c0)) rfl
    refine Go.back (fun t k => X0.iaload hx (j := (0 : Int32)) (v := (.int c0)) (by rw [e0]; exact Ar6.1) (State.isArrayOf_alike hZ.alike Ar6.2.1) Ar6.2.2 hi6 ha6 (g := (mkF m 42 #[vR p0, vI (0 : Int32), vI (2 : Int32), vI (0 : Int32), vI (1 : Int32), vI c1] [(.int (0 : Int32)), (.ref p0), (.int c1)])) rfl rfl (hb hby d16_42) t k) ?_
    show Go _ _ _ _ (s₁.setTop (mkF m 43 #[vR p0, vI (0 : Int32), vI (2 : Int32), vI (0 : Int32), vI (1 : Int32), vI c1] [(.int c0), (.int c1)]))
    refine Go.back (fun t k => XS.icmpNo X0.here hx rfl (hb hby d16_43) rfl (tlt hc3).2.1 k) ?_
    show Go _ _ _ _ (s₁.setTop (mkF m 46 #[vR p0, vI (0 : Int32), vI (2 : Int32), vI (0 : Int32), vI (1 : Int32), vI c1] []))
    refine Go.back (fun t k => XS.aloadN X0.here hx rfl (hb hby d16_46) rfl rfl  k) ?_
    refine Go.back (fun t k => XS.iloadN X0.here hx rfl (hb hby d16_47) rfl  k) ?_
    refine Go.back (fun t k => XS.iconst X0.here hx rfl (hb hby d16_48) k) ?_
    refine Go.back (fun t k => XS.iadd X0.here hx rfl (hb hby d16_49) rfl k) ?_
    show Go _ _ _ _ (s₁.setTop (mkF m 50 #[vR p0, vI (0 : Int32), vI (2 : Int32), vI (0 : Int32), vI (1 : Int32), vI c1] [(.int ((0 : Int32) + (1 : Int32))), (.ref p0)]))
    refine Go.back (fun t k => XS.aloadN X0.here hx rfl (hb hby d16_50) rfl rfl  k) ?_
    refine Go.back (fun t k => XS.iloadN X0.here hx rfl (hb hby d16_51) rfl  k) ?_
    obtain ⟨cl7, Ar7, hi7, ha7⟩ := H0.get (j := (0 : Int32)) (by decide) (v := (.int c0)) rfl
    refine Go.back (fun t k => X0.iaload hx (j := (0 : Int32)) (v := (.int c0)) (by rw [e0]; exact Ar7.1) (State.isArrayOf_alike hZ.alike Ar7.2.1) Ar7.2.2 hi7 ha7 (g := (mkF m 52 #[vR p0, vI (0 : Int32), vI (2 : Int32), vI (0 : Int32), vI (1 : Int32), vI c1] [(.int (0 : Int32)), (.ref p0), (.int ((0 : Int32) + (1 : Int32))), (.ref p0)])) rfl rfl (hb hby d16_52) t k) ?_
    show Go _ _ _ _ (s₁.setTop (mkF m 53 #[vR p0, vI (0 : Int32), vI (2 : Int32), vI (0 : Int32), vI (1 : Int32), vI c1] [(.int c0), (.int ((0 : Int32) + (1 : Int32))), (.ref p0)]))
    rw [show ((0 : Int32) + (1 : Int32)) = (1 : Int32) from by decide]
    show Go _ _ _ _ (s₁.setTop (mkF m 53 #[vR p0, vI (0 : Int32), vI (2 : Int32), vI (0 : Int32), vI (1 : Int32), vI c1] [(.int c0), (.int (1 : Int32)), (.ref p0)]))
    obtain ⟨cl8, Ar8, hi8, -⟩ := H0.at (j := (1 : Int32)) (by decide) (Nat.le_of_ble_eq_true rfl)
    obtain ⟨T8, h8, X8, e8, W8, st8⟩ := stI X0 hx hZ e0 Ar8 (j := (1 : Int32)) hi8 (g := (mkF m 53 #[vR p0, vI (0 : Int32), vI (2 : Int32), vI (0 : Int32), vI (1 : Int32), vI c1] [(.int c0), (.int (1 : Int32)), (.ref p0)])) rfl rfl (hb hby d16_53)
    have F9 : ArL Z h8 p0 .int [(.int c0), (.int c0), (.int (0 : Int32)), (.int (0 : Int32)), (.int (0 : Int32)), (.int (0 : Int32)), (.int (0 : Int32)), (.int (0 : Int32)), (.int (0 : Int32)), (.int (0 : Int32)), (.int (0 : Int32)), (.int (0 : Int32)), (.int (0 : Int32)), (.int (0 : Int32)), (.int (0 : Int32)), (.int (0 : Int32))] := H0.set W8
    have F10 := Nat.le_trans Z0 (Keep.of_wr W8).1
    have F11 : Keep h0 h8 [p0] := (Keep.refl h0 [p0]).wr W8 (Or.inl (List.mem_of_getElem? (i := 0) rfl))
    obtain ⟨Lo8, Y8, N8⟩ := pk X8 (Fr.snoc X8 N0 H1)
    refine Go.back st8 ?_
    refine Go.back (fun t k => XS.goto Y8.here hx rfl (pc0 := 54) (pc' := 30) rfl (hb hby d16_54) (by decide) (by decide) k) ?_
    refine Go.back (fun t k => XS.iinc Y8.here hx rfl (hb hby d16_30) rfl (l' := #[vR p0, vI (0 : Int32), vI (2 : Int32), vI ((0 : Int32) + (-1 : Int32)), vI (1 : Int32), vI c1]) rfl k) ?_
    show Go _ _ _ _ (T8.setTop (mkF m 33 #[vR p0, vI (0 : Int32), vI (2 : Int32), vI ((0 : Int32) + (-1 : Int32)), vI (1 : Int32), vI c1] []))
    rw [show ((0 : Int32) + (-1 : Int32)) = (-1 : Int32) from by decide]
    show Go _ _ _ _ (T8.setTop (mkF m 33 #[vR p0, vI (0 : Int32), vI (2 : Int32), vI (-1 : Int32), vI (1 : Int32), vI c1] []))
    refine Go.back (fun t k => XS.iloadN Y8.here hx rfl (hb hby d16_33) rfl  k) ?_
    refine Go.back (fun t k => XS.iloadN Y8.here hx rfl (hb hby d16_34) rfl  k) ?_
    show Go _ _ _ _ (T8.setTop (mkF m 35 #[vR p0, vI (0 : Int32), vI (2 : Int32), vI (-1 : Int32), vI (1 : Int32), vI c1] [(.int (0 : Int32)), (.int (-1 : Int32))]))
    refine Go.back (fun t k => XS.icmpYes Y8.here hx rfl (pc0 := 35) (pc' := 57) rfl (hb hby d16_35) rfl (tlt (by decide)).1 (by decide) (by decide) k) ?_
    show Go _ _ _ _ (T8.setTop (mkF m 57 #[vR p0, vI (0 : Int32), vI (2 : Int32), vI (-1 : Int32), vI (1 : Int32), vI c1] []))
    refine Go.back (fun t k => XS.aloadN Y8.here hx rfl (hb hby d16_57) rfl rfl  k) ?_
    refine Go.back (fun t k => XS.iloadN Y8.here hx rfl (hb hby d16_58) rfl  k) ?_
    refine Go.back (fun t k => XS.iconst Y8.here hx rfl (hb hby d16_59) k) ?_
    refine Go.back (fun t k => XS.iadd Y8.here hx rfl (hb hby d16_60) rfl k) ?_
    show Go _ _ _ _ (T8.setTop (mkF m 61 #[vR p0, vI (0 : Int32), vI (2 : Int32), vI (-1 : Int32), vI (1 : Int32), vI c1] [(.int ((-1 : Int32) + (1 : Int32))), (.ref p0)]))
    refine Go.back (fun t k => XS.iload Y8.here hx rfl (hb hby d16_61) rfl  k) ?_
    show Go _ _ _ _ (T8.setTop (mkF m 63 #[vR p0, vI (0 : Int32), vI (2 : Int32), vI (-1 : Int32), vI (1 : Int32), vI c1] [(.int c1), (.int ((-1 : Int32) + (1 : Int32))), (.ref p0)]))
    rw [show ((-1 : Int32) + (1 : Int32)) = (0 : Int32) from by decide]
    show Go _ _ _ _ (T8.setTop (mkF m 63 #[vR p0, vI (0 : Int32), vI (2 : Int32), vI (-1 : Int32), vI (1 : Int32), vI c1] [(.int c1), (.int (0 : Int32)), (.ref p0)]))
    obtain ⟨cl12, Ar12, hi12, -⟩ := F9.at (j := (0 : Int32)) (by decide) (Nat.le_of_ble_eq_true rfl)
    obtain ⟨T12, h12, X12, e12, W12, st12⟩ := stI Y8 hx hZ e8 Ar12 (j := (0 : Int32)) hi12 (g := (mkF m 63 #[vR p0, vI (0 : Int32), vI (2 : Int32), vI (-1 : Int32), vI (1 : Int32), vI c1] [(.int c1), (.int (0 : Int32)), (.ref p0)])) rfl rfl (hb hby d16_63)
    have F13 : ArL Z h12 p0 .int [(.int c1), (.int c0), (.int (0 : Int32)), (.int (0 : Int32)), (.int (0 : Int32)), (.int (0 : Int32)), (.int (0 : Int32)), (.int (0 : Int32)), (.int (0 : Int32)), (.int (0 : Int32)), (.int (0 : Int32)), (.int (0 : Int32)), (.int (0 : Int32)), (.int (0 : Int32)), (.int (0 : Int32)), (.int (0 : Int32))] := F9.set W12
    have F14 := Nat.le_trans F10 (Keep.of_wr W12).1
    have F15 := F11.wr W12 (Or.inl (List.mem_of_getElem? (i := 0) rfl))
    obtain ⟨Lo12, Y12, N12⟩ := pk X12 (Fr.snoc X12 N8 H1)
    refine Go.back st12 ?_
    refine Go.back (fun t k => XS.goto Y12.here hx rfl (pc0 := 64) (pc' := 3) rfl (hb hby d16_64) (by decide) (by decide) k) ?_
    refine Go.back (fun t k => XS.iinc Y12.here hx rfl (hb hby d16_3) rfl (l' := #[vR p0, vI (0 : Int32), vI (2 : Int32), vI (-1 : Int32), vI ((1 : Int32) + (1 : Int32)), vI c1]) rfl k) ?_
    show Go _ _ _ _ (T12.setTop (mkF m 6 #[vR p0, vI (0 : Int32), vI (2 : Int32), vI (-1 : Int32), vI ((1 : Int32) + (1 : Int32)), vI c1] []))
    rw [show ((1 : Int32) + (1 : Int32)) = (2 : Int32) from by decide]
    show Go _ _ _ _ (T12.setTop (mkF m 6 #[vR p0, vI (0 : Int32), vI (2 : Int32), vI (-1 : Int32), vI (2 : Int32), vI c1] []))
    refine Go.back (fun t k => XS.iload Y12.here hx rfl (hb hby d16_6) rfl  k) ?_
    refine Go.back (fun t k => XS.iloadN Y12.here hx rfl (hb hby d16_8) rfl  k) ?_
    show Go _ _ _ _ (T12.setTop (mkF m 9 #[vR p0, vI (0 : Int32), vI (2 : Int32), vI (-1 : Int32), vI (2 : Int32), vI c1] [(.int (2 : Int32)), (.int (2 : Int32))]))
    refine Go.back (fun t k => XS.icmpYes Y12.here hx rfl (pc0 := 9) (pc' := 67) rfl (hb hby d16_9) rfl (flt (by decide)).2.1 (by decide) (by decide) k) ?_
    show Go _ _ _ _ (T12.setTop (mkF m 67 #[vR p0, vI (0 : Int32), vI (2 : Int32), vI (-1 : Int32), vI (2 : Int32), vI c1] []))
    exact Go.retV Y12 hx Bd.returns (hb hby d16_67) Bd.notSynchronized ⟨rfl, N12, (by rw [e12]; exact F15), (by rw [e12, r4, r5]; exact F13)⟩ (by decide) (by decide)
  · have r16 := hf1.trans (if_neg hc3)
    have r17 := hf2.trans (if_neg hc3)
    refine Go.back (fun t k => XS.icmpYes X0.here hx rfl (pc0 := 27) (pc' := 64) rfl (hb hby d16_27) rfl (flt hc3).2.1 (by decide) (by decide) k) ?_
    show Go _ _ _ _ (s₁.setTop (mkF m 64 #[vR p0, vI (0 : Int32), vI (2 : Int32), vI (1 : Int32), vI (1 : Int32), vI c1] []))
    refine Go.back (fun t k => XS.goto X0.here hx rfl (pc0 := 64) (pc' := 3) rfl (hb hby d16_64) (by decide) (by decide) k) ?_
    refine Go.back (fun t k => XS.iinc X0.here hx rfl (hb hby d16_3) rfl (l' := #[vR p0, vI (0 : Int32), vI (2 : Int32), vI (1 : Int32), vI ((1 : Int32) + (1 : Int32)), vI c1]) rfl k) ?_
    show Go _ _ _ _ (s₁.setTop (mkF m 6 #[vR p0, vI (0 : Int32), vI (2 : Int32), vI (1 : Int32), vI ((1 : Int32) + (1 : Int32)), vI c1] []))
    rw [show ((1 : Int32) + (1 : Int32)) = (2 : Int32) from by decide]
    show Go _ _ _ _ (s₁.setTop (mkF m 6 #[vR p0, vI (0 : Int32), vI (2 : Int32), vI (1 : Int32), vI (2 : Int32), vI c1] []))
    refine Go.back (fun t k => XS.iload X0.here hx rfl (hb hby d16_6) rfl  k) ?_
    refine Go.back (fun t k => XS.iloadN X0.here hx rfl (hb hby d16_8) rfl  k) ?_
    show Go _ _ _ _ (s₁.setTop (mkF m 9 #[vR p0, vI (0 : Int32), vI (2 : Int32), vI (1 : Int32), vI (2 : Int32), vI c1] [(.int (2 : Int32)), (.int (2 : Int32))]))
    refine Go.back (fun t k => XS.icmpYes X0.here hx rfl (pc0 := 9) (pc' := 67) rfl (hb hby d16_9) rfl (flt (by decide)).2.1 (by decide) (by decide) k) ?_
    show Go _ _ _ _ (s₁.setTop (mkF m 67 #[vR p0, vI (0 : Int32), vI (2 : Int32), vI (1 : Int32), vI (2 : Int32), vI c1] []))
    exact Go.retV X0 hx Bd.returns (hb hby d16_67) Bd.notSynchronized ⟨rfl, N0, (by rw [e0]; exact (Keep.refl h0 [p0])), (by rw [e0, r16, r17]; exact H0)⟩ (by decide) (by decide)
def Q30 (Z : State) (p1 : Addr) (c0 : Int32) (c1 : Int32) (h0 : Heap) (n0 : Nat) (v : Option Value) (h : Heap) (L : List Loc) : Prop := v = none ∧ Fr n0 L ∧ Keep h0 h [p1] ∧ ArL Z h p1 .int [(.int (g29_1 c0 c1)), (.int (g29_2 c0 c1)), (.int (0 : Int32)), (.int (0 : Int32)), (.int (0 : Int32)), (.int (0 : Int32)), (.int (0 : Int32)), (.int (0 : Int32)), (.int (0 : Int32)), (.int (0 : Int32)), (.int (0 : Int32)), (.int (0 : Int32)), (.int (0 : Int32)), (.int (0 : Int32)), (.int (0 : Int32)), (.int (0 : Int32))]
abbrev rmm30 : Room := { frames := 1, cells := 0, slots := 0, locals := 17 }
abbrev P30 (Z : State) (p1 : Addr) (c0 : Int32) (c1 : Int32) (h0 : Heap) (n0 : Nat) (s : State) : Outcome → State → Prop := fun o U' => ∃ v L, o = .returned v ∧ Q30 Z p1 c0 c1 h0 n0 v U'.heap L ∧ FrameEnd s o U' L rmm30.cells rmm30.slots
theorem pn_30 : plainName "java/util/DualPivotQuicksort" = true := by first | (simp [plainName, overriddenIn]; done) | decide +kernel
theorem ef_30 (m : MethodId) (p1 : Addr) : entryFrame m #[.null, (.ref p1), (.int (0 : Int32)), (.int (0 : Int32)), (.int (2 : Int32))] 21 = mkF m 0 #[.val .null, vR p1, vI (0 : Int32), vI (0 : Int32), vI (2 : Int32), uS, uS, uS, uS, uS, uS, uS, uS, uS, uS, uS, uS, uS, uS, uS, uS] [] := by first | (simp [entryFrame, mkF, argsToLocals, Value.category]; done) | rfl
set_option maxRecDepth 65536 in
set_option maxHeartbeats 40000000 in
theorem rm30 (l : Launch) (Z : State) (a0 : Array Value) (hw : ∀ d ∈ tables_1, d.before a0 Z = true) (ws : List Jvm.Cond) (p1 : Addr) (c0 : Int32) (c1 : Int32) (h0 : Heap) (n0 : Nat) (Z0 : n0 ≤ h0.size) (H0 : ArL Z h0 p1 .int [(.int c0), (.int c1), (.int (0 : Int32)), (.int (0 : Int32)), (.int (0 : Int32)), (.int (0 : Int32)), (.int (0 : Int32)), (.int (0 : Int32)), (.int (0 : Int32)), (.int (0 : Int32)), (.int (0 : Int32)), (.int (0 : Int32)), (.int (0 : Int32)), (.int (0 : Int32)), (.int (0 : Int32)), (.int (0 : Int32))]) (H1 : n0 ≤ p1) :
    MetFree l (⟨"java/util/DualPivotQuicksort", "sort", "(Ljava/util/DualPivotQuicksort$Sorter;[IIII)V"⟩ : MethodName) (head1 (Jvm.Cond.code (⟨"java/util/DualPivotQuicksort", "sort", "(Ljava/util/DualPivotQuicksort$Sorter;[IIII)V"⟩ : MethodName) jdk_2529_method_4_code 21 none :: ws) rmm30) (fun a U => a = #[.null, (.ref p1), (.int (0 : Int32)), (.int (0 : Int32)), (.int (2 : Int32))] ∧ Z.Warmed39 U.vm ∧ U.heap = h0) (fun _ _ _ _ _ => True) (fun _ U o U' => ∃ v L, o = .returned v ∧ Q30 Z p1 c0 c1 h0 n0 v U'.heap L ∧ FrameEnd U o U' L rmm30.cells rmm30.slots) := by
  refine MetFree.of_bodySF (plainFor_of_name pn_30) hisR ?_
  intro p e s m args below meth c s₁ Bd hml0 hP hK
  obtain ⟨rfl, hZ, hh⟩ := hP
  have hx := Bd.exec
  have hby := Bd.bytes
  have hml : c.maxLocals = 21 := hml0
  have hown : s.vm.findClass "java/util/DualPivotQuicksort" = some m.cls := findClass_of_methodNamed Bd.named
  have hnm := (name_of_methodNamed Bd.named Bd.method).1
  have X0 : Stand p l e rmm30 s m #[.null, (.ref p1), (.int (0 : Int32)), (.int (0 : Int32)), (.int (2 : Int32))] below meth c s₁ [] 0 0 := Stand.of_body Bd
  have e0 : s₁.heap = h0 := by rw [← hh, Bd.state]; rfl
  have N0 := Fr.nil n0
  show Go p.tables e below (P30 Z p1 c0 c1 h0 n0 s) (s₁.setTop (entryFrame m #[.null, (.ref p1), (.int (0 : Int32)), (.int (0 : Int32)), (.int (2 : Int32))] 21))
  refine Go.back (fun t k => castTop (ef_30 m p1) k) ?_
  show Go p.tables e below (P30 Z p1 c0 c1 h0 n0 s) (s₁.setTop (mkF m 0 #[.val .null, vR p1, vI (0 : Int32), vI (0 : Int32), vI (2 : Int32), uS, uS, uS, uS, uS, uS, uS, uS, uS, uS, uS, uS, uS, uS, uS, uS] []))
  refine Go.back (fun t k => XS.iload X0.here hx rfl (hb hby d15_0) rfl  k) ?_
  refine Go.back (fun t k => XS.iconst X0.here hx rfl (hb hby d15_2) k) ?_
  refine Go.back (fun t k => XS.isub X0.here hx rfl (hb hby d15_3) rfl k) ?_
  refine Go.back (fun t k => XS.istore X0.here hx rfl (hb hby d15_4) rfl (l' := #[.val .null, vR p1, vI (0 : Int32), vI (0 : Int32), vI (2 : Int32), vI ((2 : Int32) - (1 : Int32)), uS, uS, uS, uS, uS, uS, uS, uS, uS, uS, uS, uS, uS, uS, uS]) rfl k) ?_
  show Go _ _ _ _ (s₁.setTop (mkF m 6 #[.val .null, vR p1, vI (0 : Int32), vI (0 : Int32), vI (2 : Int32), vI ((2 : Int32) - (1 : Int32)), uS, uS, uS, uS, uS, uS, uS, uS, uS, uS, uS, uS, uS, uS, uS] []))
  refine Go.back (fun t k => XS.iload X0.here hx rfl (hb hby d15_6) rfl  k) ?_
  refine Go.back (fun t k => XS.iloadN X0.here hx rfl (hb hby d15_8) rfl  k) ?_
  refine Go.back (fun t k => XS.isub X0.here hx rfl (hb hby d15_9) rfl k) ?_
  refine Go.back (fun t k => XS.istore X0.here hx rfl (hb hby d15_10) rfl (l' := #[.val .null, vR p1, vI (0 : Int32), vI (0 : Int32), vI (2 : Int32), vI ((2 : Int32) - (1 : Int32)), vI ((2 : Int32) - (0 : Int32)), uS, uS, uS, uS, uS, uS, uS, uS, uS, uS, uS, uS, uS, uS]) rfl k) ?_
  show Go _ _ _ _ (s₁.setTop (mkF m 12 #[.val .null, vR p1, vI (0 : Int32), vI (0 : Int32), vI (2 : Int32), vI ((2 : Int32) - (1 : Int32)), vI ((2 : Int32) - (0 : Int32)), uS, uS, uS, uS, uS, uS, uS, uS, uS, uS, uS, uS, uS, uS] []))
  refine Go.back (fun t k => XS.iload X0.here hx rfl (hb hby d15_12) rfl  k) ?_
  refine Go.back (fun t k => XS.bipush X0.here hx rfl (hb hby d15_14) k) ?_
  refine Go.back (fun t k => XS.iloadN X0.here hx rfl (hb hby d15_16) rfl  k) ?_
  refine Go.back (fun t k => XS.iadd X0.here hx rfl (hb hby d15_17) rfl k) ?_
  show Go _ _ _ _ (s₁.setTop (mkF m 18 #[.val .null, vR p1, vI (0 : Int32), vI (0 : Int32), vI (2 : Int32), vI ((2 : Int32) - (1 : Int32)), vI ((2 : Int32) - (0 : Int32)), uS, uS, uS, uS, uS, uS, uS, uS, uS, uS, uS, uS, uS, uS] [(.int ((65 : Int32) + (0 : Int32))), (.int ((2 : Int32) - (0 : Int32)))]))
  refine Go.back (fun t k => XS.icmpNo X0.here hx rfl (hb hby d15_18) rfl (tlt (by decide)).2.1 k) ?_
  show Go _ _ _ _ (s₁.setTop (mkF m 21 #[.val .null, vR p1, vI (0 : Int32), vI (0 : Int32), vI (2 : Int32), vI ((2 : Int32) - (1 : Int32)), vI ((2 : Int32) - (0 : Int32)), uS, uS, uS, uS, uS, uS, uS, uS, uS, uS, uS, uS, uS, uS] []))
  refine Go.back (fun t k => XS.iloadN X0.here hx rfl (hb hby d15_21) rfl  k) ?_
  refine Go.back (fun t k => XS.iconst X0.here hx rfl (hb hby d15_22) k) ?_
  refine Go.back (fun t k => XS.iand X0.here hx rfl (hb hby d15_23) rfl k) ?_
  show Go _ _ _ _ (s₁.setTop (mkF m 24 #[.val .null, vR p1, vI (0 : Int32), vI (0 : Int32), vI (2 : Int32), vI ((2 : Int32) - (1 : Int32)), vI ((2 : Int32) - (0 : Int32)), uS, uS, uS, uS, uS, uS, uS, uS, uS, uS, uS, uS, uS, uS] [(.int ((0 : Int32) &&& (1 : Int32)))]))
  refine Go.back (fun t k => XS.ifYes X0.here hx rfl (pc0 := 24) (pc' := 46) rfl (hb hby d15_24) rfl ((if0 _ _).trans (flt (by decide)).2.2.2) (by decide) (by decide) k) ?_
  show Go _ _ _ _ (s₁.setTop (mkF m 46 #[.val .null, vR p1, vI (0 : Int32), vI (0 : Int32), vI (2 : Int32), vI ((2 : Int32) - (1 : Int32)), vI ((2 : Int32) - (0 : Int32)), uS, uS, uS, uS, uS, uS, uS, uS, uS, uS, uS, uS, uS, uS] []))
  refine Go.back (fun t k => XS.iload X0.here hx rfl (hb hby d15_46) rfl  k) ?_
  refine Go.back (fun t k => XS.bipush X0.here hx rfl (hb hby d15_48) k) ?_
  show Go _ _ _ _ (s₁.setTop (mkF m 50 #[.val .null, vR p1, vI (0 : Int32), vI (0 : Int32), vI (2 : Int32), vI ((2 : Int32) - (1 : Int32)), vI ((2 : Int32) - (0 : Int32)), uS, uS, uS, uS, uS, uS, uS, uS, uS, uS, uS, uS, uS, uS] [(.int (44 : Int32)), (.int ((2 : Int32) - (0 : Int32)))]))
  refine Go.back (fun t k => XS.icmpNo X0.here hx rfl (hb hby d15_50) rfl (tlt (by decide)).2.1 k) ?_
  show Go _ _ _ _ (s₁.setTop (mkF m 53 #[.val .null, vR p1, vI (0 : Int32), vI (0 : Int32), vI (2 : Int32), vI ((2 : Int32) - (1 : Int32)), vI ((2 : Int32) - (0 : Int32)), uS, uS, uS, uS, uS, uS, uS, uS, uS, uS, uS, uS, uS, uS] []))
  refine Go.back (fun t k => XS.aloadN X0.here hx rfl (hb hby d15_53) rfl rfl  k) ?_
  refine Go.back (fun t k => XS.iloadN X0.here hx rfl (hb hby d15_54) rfl  k) ?_
  refine Go.back (fun t k => XS.iload X0.here hx rfl (hb hby d15_55) rfl  k) ?_
  obtain ⟨_, _, ⟨T1, L1, k1, n1⟩, -, X1, ⟨Lc1, hQ1, l1, y1, z1⟩, st1⟩ := Jvm.LawKit.callS X0 hx (y := (⟨"java/util/DualPivotQuicksort", "insertionSort", "([III)V"⟩ : MethodName)) hown (mvT hZ (wk hw 129 rfl)) (mvT hZ (wk hw 130 rfl)) (mvT hZ (wk hw 124 rfl)) (mvT hZ (wk hw 131 rfl)) (by decide) (backOf (W := 0) (rm29 l Z a0 hw [] p1 c0 c1 h0 n0 Z0 H0 H1) hZ (wk hw 131 rfl) (wk hw 124 rfl) (by decide) (by decide)) (g := (mkF m 57 #[.val .null, vR p1, vI (0 : Int32), vI (0 : Int32), vI (2 : Int32), vI ((2 : Int32) - (1 : Int32)), vI ((2 : Int32) - (0 : Int32)), uS, uS, uS, uS, uS, uS, uS, uS, uS, uS, uS, uS, uS, uS] [(.int (2 : Int32)), (.int (0 : Int32)), (.ref p1)])) rfl (by rw [hml]; rfl) (argsL := [(.ref p1), (.int (0 : Int32)), (.int (2 : Int32))]) (rest := []) (lenOf pd_0 rfl) rfl (by show 2 * 0 + _ ≤ _; exact Nat.le_of_eq rfl) (hb hby d15_57) (fun _ _ => ⟨rfl, e0, (by decide : 0 + 0 ≤ _), (by decide : 0 + 0 ≤ _)⟩)
  dsimp only [Pt.U, Pt.locs, Pt.cells, Pt.slots] at X1 l1 y1 z1 st1 hQ1
  subst l1 y1 z1
  obtain ⟨h1, e1⟩ : ∃ z, T1.heap = z := ⟨_, rfl⟩
  rw [e1] at hQ1
  obtain ⟨rfl, N1q, K1, F4⟩ := hQ1
  obtain ⟨Lo1, Y1, N1⟩ := pk X1 (Fr.app N0 N1q)
  have F2 := Nat.le_trans Z0 K1.1
  have F3 : Keep h0 h1 [p1] := (Keep.refl h0 [p1]).trans K1 (allS (P := fun x => x ∈ [p1] ∨ h0.size ≤ x) (Or.inl (List.mem_of_getElem? (i := 0) rfl)) all0)
  refine Go.back st1 ?_
  show Go _ _ _ _ (T1.setTop (mkF m 60 #[.val .null, vR p1, vI (0 : Int32), vI (0 : Int32), vI (2 : Int32), vI ((2 : Int32) - (1 : Int32)), vI ((2 : Int32) - (0 : Int32)), uS, uS, uS, uS, uS, uS, uS, uS, uS, uS, uS, uS, uS, uS] []))
  exact Go.retV Y1 hx Bd.returns (hb hby d15_60) Bd.notSynchronized ⟨rfl, N1, (by rw [e1]; exact F3), (by rw [e1]; exact F4)⟩ (by decide) (by decide)
def Q31 (Z : State) (p0 : Addr) (c0 : Int32) (c1 : Int32) (h0 : Heap) (n0 : Nat) (v : Option Value) (h : Heap) (L : List Loc) : Prop := v = none ∧ Fr n0 L ∧ Keep h0 h [p0] ∧ ArL Z h p0 .int [(.int (g29_1 c0 c1)), (.int (g29_2 c0 c1)), (.int (0 : Int32)), (.int (0 : Int32)), (.int (0 : Int32)), (.int (0 : Int32)), (.int (0 : Int32)), (.int (0 : Int32)), (.int (0 : Int32)), (.int (0 : Int32)), (.int (0 : Int32)), (.int (0 : Int32)), (.int (0 : Int32)), (.int (0 : Int32)), (.int (0 : Int32)), (.int (0 : Int32))]
abbrev rmm31 : Room := { frames := 2, cells := 0, slots := 0, locals := 49 }
abbrev P31 (Z : State) (p0 : Addr) (c0 : Int32) (c1 : Int32) (h0 : Heap) (n0 : Nat) (s : State) : Outcome → State → Prop := fun o U' => ∃ v L, o = .returned v ∧ Q31 Z p0 c0 c1 h0 n0 v U'.heap L ∧ FrameEnd s o U' L rmm31.cells rmm31.slots
theorem pn_31 : plainName "java/util/DualPivotQuicksort" = true := by first | (simp [plainName, overriddenIn]; done) | decide +kernel
theorem ef_31 (m : MethodId) (p0 : Addr) : entryFrame m #[(.ref p0), (.int (0 : Int32)), (.int (0 : Int32)), (.int (2 : Int32))] 7 = mkF m 0 #[vR p0, vI (0 : Int32), vI (0 : Int32), vI (2 : Int32), uS, uS, uS] [] := by first | (simp [entryFrame, mkF, argsToLocals, Value.category]; done) | rfl
set_option maxRecDepth 65536 in
set_option maxHeartbeats 40000000 in
theorem rm31 (l : Launch) (Z : State) (a0 : Array Value) (hw : ∀ d ∈ tables_1, d.before a0 Z = true) (ws : List Jvm.Cond) (p0 : Addr) (c0 : Int32) (c1 : Int32) (h0 : Heap) (n0 : Nat) (Z0 : n0 ≤ h0.size) (H0 : ArL Z h0 p0 .int [(.int c0), (.int c1), (.int (0 : Int32)), (.int (0 : Int32)), (.int (0 : Int32)), (.int (0 : Int32)), (.int (0 : Int32)), (.int (0 : Int32)), (.int (0 : Int32)), (.int (0 : Int32)), (.int (0 : Int32)), (.int (0 : Int32)), (.int (0 : Int32)), (.int (0 : Int32)), (.int (0 : Int32)), (.int (0 : Int32))]) (H1 : n0 ≤ p0) :
    MetFree l (⟨"java/util/DualPivotQuicksort", "sort", "([IIII)V"⟩ : MethodName) (head1 (Jvm.Cond.code (⟨"java/util/DualPivotQuicksort", "sort", "([IIII)V"⟩ : MethodName) jdk_2529_method_3_code 7 none :: ws) rmm31) (fun a U => a = #[(.ref p0), (.int (0 : Int32)), (.int (0 : Int32)), (.int (2 : Int32))] ∧ Z.Warmed39 U.vm ∧ U.heap = h0) (fun _ _ _ _ _ => True) (fun _ U o U' => ∃ v L, o = .returned v ∧ Q31 Z p0 c0 c1 h0 n0 v U'.heap L ∧ FrameEnd U o U' L rmm31.cells rmm31.slots) := by
  refine MetFree.of_bodySF (plainFor_of_name pn_31) hisR ?_
  intro p e s m args below meth c s₁ Bd hml0 hP hK
  obtain ⟨rfl, hZ, hh⟩ := hP
  have hx := Bd.exec
  have hby := Bd.bytes
  have hml : c.maxLocals = 7 := hml0
  have hown : s.vm.findClass "java/util/DualPivotQuicksort" = some m.cls := findClass_of_methodNamed Bd.named
  have hnm := (name_of_methodNamed Bd.named Bd.method).1
  have X0 : Stand p l e rmm31 s m #[(.ref p0), (.int (0 : Int32)), (.int (0 : Int32)), (.int (2 : Int32))] below meth c s₁ [] 0 0 := Stand.of_body Bd
  have e0 : s₁.heap = h0 := by rw [← hh, Bd.state]; rfl
  have N0 := Fr.nil n0
  show Go p.tables e below (P31 Z p0 c0 c1 h0 n0 s) (s₁.setTop (entryFrame m #[(.ref p0), (.int (0 : Int32)), (.int (0 : Int32)), (.int (2 : Int32))] 7))
  refine Go.back (fun t k => castTop (ef_31 m p0) k) ?_
  show Go p.tables e below (P31 Z p0 c0 c1 h0 n0 s) (s₁.setTop (mkF m 0 #[vR p0, vI (0 : Int32), vI (0 : Int32), vI (2 : Int32), uS, uS, uS] []))
  refine Go.back (fun t k => XS.iloadN X0.here hx rfl (hb hby d14_0) rfl  k) ?_
  refine Go.back (fun t k => XS.iloadN X0.here hx rfl (hb hby d14_1) rfl  k) ?_
  refine Go.back (fun t k => XS.isub X0.here hx rfl (hb hby d14_2) rfl k) ?_
  refine Go.back (fun t k => XS.istore X0.here hx rfl (hb hby d14_3) rfl (l' := #[vR p0, vI (0 : Int32), vI (0 : Int32), vI (2 : Int32), vI ((2 : Int32) - (0 : Int32)), uS, uS]) rfl k) ?_
  show Go _ _ _ _ (s₁.setTop (mkF m 5 #[vR p0, vI (0 : Int32), vI (0 : Int32), vI (2 : Int32), vI ((2 : Int32) - (0 : Int32)), uS, uS] []))
  refine Go.back (fun t k => XS.iloadN X0.here hx rfl (hb hby d14_5) rfl  k) ?_
  refine Go.back (fun t k => XS.iconst X0.here hx rfl (hb hby d14_6) k) ?_
  show Go _ _ _ _ (s₁.setTop (mkF m 7 #[vR p0, vI (0 : Int32), vI (0 : Int32), vI (2 : Int32), vI ((2 : Int32) - (0 : Int32)), uS, uS] [(.int (1 : Int32)), (.int (0 : Int32))]))
  refine Go.back (fun t k => XS.icmpYes X0.here hx rfl (pc0 := 7) (pc' := 68) rfl (hb hby d14_7) rfl (flt (by decide)).2.2.2 (by decide) (by decide) k) ?_
  show Go _ _ _ _ (s₁.setTop (mkF m 68 #[vR p0, vI (0 : Int32), vI (0 : Int32), vI (2 : Int32), vI ((2 : Int32) - (0 : Int32)), uS, uS] []))
  refine Go.back (fun t k => XS.aconstNull X0.here hx rfl (hb hby d14_68) k) ?_
  refine Go.back (fun t k => XS.aloadN X0.here hx rfl (hb hby d14_69) rfl rfl  k) ?_
  refine Go.back (fun t k => XS.iconst X0.here hx rfl (hb hby d14_70) k) ?_
  refine Go.back (fun t k => XS.iloadN X0.here hx rfl (hb hby d14_71) rfl  k) ?_
  show Go _ _ _ _ (s₁.setTop (mkF m 72 #[vR p0, vI (0 : Int32), vI (0 : Int32), vI (2 : Int32), vI ((2 : Int32) - (0 : Int32)), uS, uS] [(.int (0 : Int32)), (.int (0 : Int32)), (.ref p0), .null]))
  refine Go.back (fun t k => XS.iloadN X0.here hx rfl (hb hby d14_72) rfl  k) ?_
  obtain ⟨_, _, ⟨T1, L1, k1, n1⟩, -, X1, ⟨Lc1, hQ1, l1, y1, z1⟩, st1⟩ := Jvm.LawKit.callS X0 hx (y := (⟨"java/util/DualPivotQuicksort", "sort", "(Ljava/util/DualPivotQuicksort$Sorter;[IIII)V"⟩ : MethodName)) hown (mvT hZ (wk hw 126 rfl)) (mvT hZ (wk hw 127 rfl)) (mvT hZ (wk hw 124 rfl)) (mvT hZ (wk hw 128 rfl)) (by decide) (backOf (W := 0) (rm30 l Z a0 hw [] p0 c0 c1 h0 n0 Z0 H0 H1) hZ (wk hw 128 rfl) (wk hw 124 rfl) (by decide) (by decide)) (g := (mkF m 73 #[vR p0, vI (0 : Int32), vI (0 : Int32), vI (2 : Int32), vI ((2 : Int32) - (0 : Int32)), uS, uS] [(.int (2 : Int32)), (.int (0 : Int32)), (.int (0 : Int32)), (.ref p0), .null])) rfl (by rw [hml]; rfl) (argsL := [.null, (.ref p0), (.int (0 : Int32)), (.int (0 : Int32)), (.int (2 : Int32))]) (rest := []) (lenOf pd_1 rfl) rfl (by show 2 * 0 + _ ≤ _; exact Nat.le_of_eq rfl) (hb hby d14_73) (fun _ _ => ⟨rfl, e0, (by decide : 0 + 0 ≤ _), (by decide : 0 + 0 ≤ _)⟩)
  dsimp only [Pt.U, Pt.locs, Pt.cells, Pt.slots] at X1 l1 y1 z1 st1 hQ1
  subst l1 y1 z1
  obtain ⟨h1, e1⟩ : ∃ z, T1.heap = z := ⟨_, rfl⟩
  rw [e1] at hQ1
  obtain ⟨rfl, N1q, K1, F4⟩ := hQ1
  obtain ⟨Lo1, Y1, N1⟩ := pk X1 (Fr.app N0 N1q)
  have F2 := Nat.le_trans Z0 K1.1
  have F3 : Keep h0 h1 [p0] := (Keep.refl h0 [p0]).trans K1 (allS (P := fun x => x ∈ [p0] ∨ h0.size ≤ x) (Or.inl (List.mem_of_getElem? (i := 0) rfl)) all0)
  refine Go.back st1 ?_
  show Go _ _ _ _ (T1.setTop (mkF m 76 #[vR p0, vI (0 : Int32), vI (0 : Int32), vI (2 : Int32), vI ((2 : Int32) - (0 : Int32)), uS, uS] []))
  exact Go.retV Y1 hx Bd.returns (hb hby d14_76) Bd.notSynchronized ⟨rfl, N1, (by rw [e1]; exact F3), (by rw [e1]; exact F4)⟩ (by decide) (by decide)
def Q32 (Z : State)  (h0 : Heap) (n0 : Nat) (v : Option Value) (h : Heap) (L : List Loc) : Prop := v = none ∧ Fr n0 L ∧ h = h0
abbrev rmm32 : Room := { frames := 0, cells := 0, slots := 0, locals := 0 }
abbrev P32 (Z : State)  (h0 : Heap) (n0 : Nat) (s : State) : Outcome → State → Prop := fun o U' => ∃ v L, o = .returned v ∧ Q32 Z  h0 n0 v U'.heap L ∧ FrameEnd s o U' L rmm32.cells rmm32.slots
theorem pn_32 : plainName "java/util/Arrays" = true := by first | (simp [plainName, overriddenIn]; done) | decide +kernel
theorem ef_32 (m : MethodId)  : entryFrame m #[(.int (16 : Int32)), (.int (0 : Int32)), (.int (2 : Int32))] 3 = mkF m 0 #[vI (16 : Int32), vI (0 : Int32), vI (2 : Int32)] [] := by first | (simp [entryFrame, mkF, argsToLocals, Value.category]; done) | rfl
set_option maxRecDepth 65536 in
set_option maxHeartbeats 40000000 in
theorem rm32 (l : Launch) (Z : State) (a0 : Array Value) (hw : ∀ d ∈ tables_1, d.before a0 Z = true) (ws : List Jvm.Cond)  (h0 : Heap) (n0 : Nat) (Z0 : n0 ≤ h0.size) :
    MetFree l (⟨"java/util/Arrays", "rangeCheck", "(III)V"⟩ : MethodName) (head1 (Jvm.Cond.code (⟨"java/util/Arrays", "rangeCheck", "(III)V"⟩ : MethodName) jdk_65_method_30_code 3 none :: ws) rmm32) (fun a U => a = #[(.int (16 : Int32)), (.int (0 : Int32)), (.int (2 : Int32))] ∧ Z.Warmed39 U.vm ∧ U.heap = h0) (fun _ _ _ _ _ => True) (fun _ U o U' => ∃ v L, o = .returned v ∧ Q32 Z  h0 n0 v U'.heap L ∧ FrameEnd U o U' L rmm32.cells rmm32.slots) := by
  refine MetFree.of_bodySF (plainFor_of_name pn_32) hisR ?_
  intro p e s m args below meth c s₁ Bd hml0 hP hK
  obtain ⟨rfl, hZ, hh⟩ := hP
  have hx := Bd.exec
  have hby := Bd.bytes
  have hml : c.maxLocals = 3 := hml0
  have hown : s.vm.findClass "java/util/Arrays" = some m.cls := findClass_of_methodNamed Bd.named
  have hnm := (name_of_methodNamed Bd.named Bd.method).1
  have X0 : Stand p l e rmm32 s m #[(.int (16 : Int32)), (.int (0 : Int32)), (.int (2 : Int32))] below meth c s₁ [] 0 0 := Stand.of_body Bd
  have e0 : s₁.heap = h0 := by rw [← hh, Bd.state]; rfl
  have N0 := Fr.nil n0
  show Go p.tables e below (P32 Z  h0 n0 s) (s₁.setTop (entryFrame m #[(.int (16 : Int32)), (.int (0 : Int32)), (.int (2 : Int32))] 3))
  refine Go.back (fun t k => castTop (ef_32 m ) k) ?_
  show Go p.tables e below (P32 Z  h0 n0 s) (s₁.setTop (mkF m 0 #[vI (16 : Int32), vI (0 : Int32), vI (2 : Int32)] []))
  refine Go.back (fun t k => XS.iloadN X0.here hx rfl (hb hby d13_0) rfl  k) ?_
  refine Go.back (fun t k => XS.iloadN X0.here hx rfl (hb hby d13_1) rfl  k) ?_
  show Go _ _ _ _ (s₁.setTop (mkF m 2 #[vI (16 : Int32), vI (0 : Int32), vI (2 : Int32)] [(.int (2 : Int32)), (.int (0 : Int32))]))
  refine Go.back (fun t k => XS.icmpYes X0.here hx rfl (pc0 := 2) (pc' := 46) rfl (hb hby d13_2) rfl (flt (by decide)).2.2.2 (by decide) (by decide) k) ?_
  show Go _ _ _ _ (s₁.setTop (mkF m 46 #[vI (16 : Int32), vI (0 : Int32), vI (2 : Int32)] []))
  refine Go.back (fun t k => XS.iloadN X0.here hx rfl (hb hby d13_46) rfl  k) ?_
  show Go _ _ _ _ (s₁.setTop (mkF m 47 #[vI (16 : Int32), vI (0 : Int32), vI (2 : Int32)] [(.int (0 : Int32))]))
  refine Go.back (fun t k => XS.ifYes X0.here hx rfl (pc0 := 47) (pc' := 59) rfl (hb hby d13_47) rfl ((if0 _ _).trans (flt (by decide)).2.1) (by decide) (by decide) k) ?_
  show Go _ _ _ _ (s₁.setTop (mkF m 59 #[vI (16 : Int32), vI (0 : Int32), vI (2 : Int32)] []))
  refine Go.back (fun t k => XS.iloadN X0.here hx rfl (hb hby d13_59) rfl  k) ?_
  refine Go.back (fun t k => XS.iloadN X0.here hx rfl (hb hby d13_60) rfl  k) ?_
  show Go _ _ _ _ (s₁.setTop (mkF m 61 #[vI (16 : Int32), vI (0 : Int32), vI (2 : Int32)] [(.int (16 : Int32)), (.int (2 : Int32))]))
  refine Go.back (fun t k => XS.icmpYes X0.here hx rfl (pc0 := 61) (pc' := 73) rfl (hb hby d13_61) rfl (flt (by decide)).2.2.2 (by decide) (by decide) k) ?_
  show Go _ _ _ _ (s₁.setTop (mkF m 73 #[vI (16 : Int32), vI (0 : Int32), vI (2 : Int32)] []))
  exact Go.retV X0 hx Bd.returns (hb hby d13_73) Bd.notSynchronized ⟨rfl, N0, e0⟩ (by decide) (by decide)
def Q33 (Z : State) (p0 : Addr) (c0 : Int32) (c1 : Int32) (h0 : Heap) (n0 : Nat) (v : Option Value) (h : Heap) (L : List Loc) : Prop := v = none ∧ Fr n0 L ∧ Keep h0 h [p0] ∧ ArL Z h p0 .int [(.int (g29_1 c0 c1)), (.int (g29_2 c0 c1)), (.int (0 : Int32)), (.int (0 : Int32)), (.int (0 : Int32)), (.int (0 : Int32)), (.int (0 : Int32)), (.int (0 : Int32)), (.int (0 : Int32)), (.int (0 : Int32)), (.int (0 : Int32)), (.int (0 : Int32)), (.int (0 : Int32)), (.int (0 : Int32)), (.int (0 : Int32)), (.int (0 : Int32))]
abbrev rmm33 : Room := { frames := 3, cells := 0, slots := 0, locals := 67 }
abbrev P33 (Z : State) (p0 : Addr) (c0 : Int32) (c1 : Int32) (h0 : Heap) (n0 : Nat) (s : State) : Outcome → State → Prop := fun o U' => ∃ v L, o = .returned v ∧ Q33 Z p0 c0 c1 h0 n0 v U'.heap L ∧ FrameEnd s o U' L rmm33.cells rmm33.slots
theorem pn_33 : plainName "java/util/Arrays" = true := by first | (simp [plainName, overriddenIn]; done) | decide +kernel
theorem ef_33 (m : MethodId) (p0 : Addr) : entryFrame m #[(.ref p0), (.int (0 : Int32)), (.int (2 : Int32))] 3 = mkF m 0 #[vR p0, vI (0 : Int32), vI (2 : Int32)] [] := by first | (simp [entryFrame, mkF, argsToLocals, Value.category]; done) | rfl
set_option maxRecDepth 65536 in
set_option maxHeartbeats 40000000 in
theorem rm33 (l : Launch) (Z : State) (a0 : Array Value) (hw : ∀ d ∈ tables_1, d.before a0 Z = true) (ws : List Jvm.Cond) (p0 : Addr) (c0 : Int32) (c1 : Int32) (h0 : Heap) (n0 : Nat) (Z0 : n0 ≤ h0.size) (H0 : ArL Z h0 p0 .int [(.int c0), (.int c1), (.int (0 : Int32)), (.int (0 : Int32)), (.int (0 : Int32)), (.int (0 : Int32)), (.int (0 : Int32)), (.int (0 : Int32)), (.int (0 : Int32)), (.int (0 : Int32)), (.int (0 : Int32)), (.int (0 : Int32)), (.int (0 : Int32)), (.int (0 : Int32)), (.int (0 : Int32)), (.int (0 : Int32))]) (H1 : n0 ≤ p0) :
    MetFree l (⟨"java/util/Arrays", "sort", "([III)V"⟩ : MethodName) (head1 (Jvm.Cond.code (⟨"java/util/Arrays", "sort", "([III)V"⟩ : MethodName) jdk_65_method_3_code 3 none :: ws) rmm33) (fun a U => a = #[(.ref p0), (.int (0 : Int32)), (.int (2 : Int32))] ∧ Z.Warmed39 U.vm ∧ U.heap = h0) (fun _ _ _ _ _ => True) (fun _ U o U' => ∃ v L, o = .returned v ∧ Q33 Z p0 c0 c1 h0 n0 v U'.heap L ∧ FrameEnd U o U' L rmm33.cells rmm33.slots) := by
  refine MetFree.of_bodySF (plainFor_of_name pn_33) hisR ?_
  intro p e s m args below meth c s₁ Bd hml0 hP hK
  obtain ⟨rfl, hZ, hh⟩ := hP
  have hx := Bd.exec
  have hby := Bd.bytes
  have hml : c.maxLocals = 3 := hml0
  have hown : s.vm.findClass "java/util/Arrays" = some m.cls := findClass_of_methodNamed Bd.named
  have hnm := (name_of_methodNamed Bd.named Bd.method).1
  have X0 : Stand p l e rmm33 s m #[(.ref p0), (.int (0 : Int32)), (.int (2 : Int32))] below meth c s₁ [] 0 0 := Stand.of_body Bd
  have e0 : s₁.heap = h0 := by rw [← hh, Bd.state]; rfl
  have N0 := Fr.nil n0
  show Go p.tables e below (P33 Z p0 c0 c1 h0 n0 s) (s₁.setTop (entryFrame m #[(.ref p0), (.int (0 : Int32)), (.int (2 : Int32))] 3))
  refine Go.back (fun t k => castTop (ef_33 m p0) k) ?_
  show Go p.tables e below (P33 Z p0 c0 c1 h0 n0 s) (s₁.setTop (mkF m 0 #[vR p0, vI (0 : Int32), vI (2 : Int32)] []))
  refine Go.back (fun t k => XS.aloadN X0.here hx rfl (hb hby d12_0) rfl rfl  k) ?_
  obtain ⟨cl1, Ar1, S1⟩ := H0.len
  refine Go.back (fun t k => X0.arraylength hx (by rw [e0]; exact Ar1.1) (State.isArrayOf_alike hZ.alike Ar1.2.1) (g := (mkF m 1 #[vR p0, vI (0 : Int32), vI (2 : Int32)] [(.ref p0)])) rfl rfl (hb hby d12_1) t k) ?_
  rw [S1]
  refine Go.back (fun t k => XS.iloadN X0.here hx rfl (hb hby d12_2) rfl  k) ?_
  refine Go.back (fun t k => XS.iloadN X0.here hx rfl (hb hby d12_3) rfl  k) ?_
  show Go _ _ _ _ (s₁.setTop (mkF m 4 #[vR p0, vI (0 : Int32), vI (2 : Int32)] [(.int (2 : Int32)), (.int (0 : Int32)), (.int (16 : Int32))]))
  obtain ⟨_, _, ⟨T2, L2, k2, n2⟩, -, X2, ⟨Lc2, hQ2, l2, y2, z2⟩, st2⟩ := Jvm.LawKit.callS X0 hx (y := (⟨"java/util/Arrays", "rangeCheck", "(III)V"⟩ : MethodName)) hown (mvT hZ (wk hw 119 rfl)) (mvT hZ (wk hw 120 rfl)) (mvT hZ (wk hw 117 rfl)) (mvT hZ (wk hw 121 rfl)) (by decide) (backOf (W := 0) (rm32 l Z a0 hw [] h0 n0 Z0) hZ (wk hw 121 rfl) (wk hw 117 rfl) (by decide) (by decide)) (g := (mkF m 4 #[vR p0, vI (0 : Int32), vI (2 : Int32)] [(.int (2 : Int32)), (.int (0 : Int32)), (.int (16 : Int32))])) rfl (by rw [hml]; rfl) (argsL := [(.int (16 : Int32)), (.int (0 : Int32)), (.int (2 : Int32))]) (rest := []) (lenOf pd_2 rfl) rfl (by show 2 * 0 + _ ≤ _; exact Nat.le_of_eq rfl) (hb hby d12_4) (fun _ _ => ⟨rfl, e0, (by decide : 0 + 0 ≤ _), (by decide : 0 + 0 ≤ _)⟩)
  dsimp only [Pt.U, Pt.locs, Pt.cells, Pt.slots] at X2 l2 y2 z2 st2 hQ2
  subst l2 y2 z2
  obtain ⟨rfl, N2q, e2⟩ := hQ2
  obtain ⟨Lo2, Y2, N2⟩ := pk X2 (Fr.app N0 N2q)
  refine Go.back st2 ?_
  show Go _ _ _ _ (T2.setTop (mkF m 7 #[vR p0, vI (0 : Int32), vI (2 : Int32)] []))
  refine Go.back (fun t k => XS.aloadN Y2.here hx rfl (hb hby d12_7) rfl rfl  k) ?_
  refine Go.back (fun t k => XS.iconst Y2.here hx rfl (hb hby d12_8) k) ?_
  refine Go.back (fun t k => XS.iloadN Y2.here hx rfl (hb hby d12_9) rfl  k) ?_
  refine Go.back (fun t k => XS.iloadN Y2.here hx rfl (hb hby d12_10) rfl  k) ?_
  show Go _ _ _ _ (T2.setTop (mkF m 11 #[vR p0, vI (0 : Int32), vI (2 : Int32)] [(.int (2 : Int32)), (.int (0 : Int32)), (.int (0 : Int32)), (.ref p0)]))
  obtain ⟨_, _, ⟨T3, L3, k3, n3⟩, -, X3, ⟨Lc3, hQ3, l3, y3, z3⟩, st3⟩ := Jvm.LawKit.callS Y2 hx (y := (⟨"java/util/DualPivotQuicksort", "sort", "([IIII)V"⟩ : MethodName)) hown (mvT hZ (wk hw 122 rfl)) (mvT hZ (wk hw 123 rfl)) (mvT hZ (wk hw 124 rfl)) (mvT hZ (wk hw 125 rfl)) (by decide) (backOf (W := 0) (rm31 l Z a0 hw [] p0 c0 c1 h0 n0 Z0 H0 H1) hZ (wk hw 125 rfl) (wk hw 124 rfl) (by decide) (by decide)) (g := (mkF m 11 #[vR p0, vI (0 : Int32), vI (2 : Int32)] [(.int (2 : Int32)), (.int (0 : Int32)), (.int (0 : Int32)), (.ref p0)])) rfl (by rw [hml]; rfl) (argsL := [(.ref p0), (.int (0 : Int32)), (.int (0 : Int32)), (.int (2 : Int32))]) (rest := []) (lenOf pd_3 rfl) rfl (by show 2 * 0 + _ ≤ _; exact Nat.le_of_eq rfl) (hb hby d12_11) (fun _ _ => ⟨rfl, e2, (by decide : 0 + 0 ≤ _), (by decide : 0 + 0 ≤ _)⟩)
  dsimp only [Pt.U, Pt.locs, Pt.cells, Pt.slots] at X3 l3 y3 z3 st3 hQ3
  subst l3 y3 z3
  obtain ⟨h3, e3⟩ : ∃ z, T3.heap = z := ⟨_, rfl⟩
  rw [e3] at hQ3
  obtain ⟨rfl, N3q, K3, F6⟩ := hQ3
  obtain ⟨Lo3, Y3, N3⟩ := pk X3 (Fr.app N2 N3q)
  have F4 := Nat.le_trans Z0 K3.1
  have F5 : Keep h0 h3 [p0] := (Keep.refl h0 [p0]).trans K3 (allS (P := fun x => x ∈ [p0] ∨ h0.size ≤ x) (Or.inl (List.mem_of_getElem? (i := 0) rfl)) all0)
  refine Go.back st3 ?_
  show Go _ _ _ _ (T3.setTop (mkF m 14 #[vR p0, vI (0 : Int32), vI (2 : Int32)] []))
  exact Go.retV Y3 hx Bd.returns (hb hby d12_14) Bd.notSynchronized ⟨rfl, N3, (by rw [e3]; exact F5), (by rw [e3]; exact F6)⟩ (by decide) (by decide)
theorem own_ga {c0 c1 : Int32} {n : Nat} (h0 : own_rng c0 n) (h1 : own_rng c1 n) : own_rng (g29_1 c0 c1) n := by
  unfold g29_1; split <;> assumption
theorem own_gb {c0 c1 : Int32} {n : Nat} (h0 : own_rng c0 n) (h1 : own_rng c1 n) : own_rng (g29_2 c0 c1) n := by
  unfold g29_2; split <;> assumption
theorem d10_0 : decode prog_63_method_5_code 0 = .ok (.aload_n 0, 1) := by decide +kernel
theorem d10_1 : decode prog_63_method_5_code 1 = .ok (.getfield 55, 3) := by decide +kernel
theorem d10_4 : decode prog_63_method_5_code 4 = .ok (.aload_n 0, 1) := by decide +kernel
theorem d10_5 : decode prog_63_method_5_code 5 = .ok (.getfield 20, 3) := by decide +kernel
theorem d10_8 : decode prog_63_method_5_code 8 = .ok (.arraylength, 1) := by decide +kernel
theorem d10_9 : decode prog_63_method_5_code 9 = .ok (.if_icmp .ne 20, 3) := by decide +kernel
theorem d10_29 : decode prog_63_method_5_code 29 = .ok (.aload_n 0, 1) := by decide +kernel
theorem d10_30 : decode prog_63_method_5_code 30 = .ok (.getfield 20, 3) := by decide +kernel
theorem d10_33 : decode prog_63_method_5_code 33 = .ok (.aload_n 0, 1) := by decide +kernel
theorem d10_34 : decode prog_63_method_5_code 34 = .ok (.dup, 1) := by decide +kernel
theorem d10_35 : decode prog_63_method_5_code 35 = .ok (.getfield 55, 3) := by decide +kernel
theorem d10_38 : decode prog_63_method_5_code 38 = .ok (.dup_x1, 1) := by decide +kernel
theorem d10_39 : decode prog_63_method_5_code 39 = .ok (.iconst 1, 1) := by decide +kernel
theorem d10_40 : decode prog_63_method_5_code 40 = .ok (.iadd, 1) := by decide +kernel
theorem d10_41 : decode prog_63_method_5_code 41 = .ok (.putfield 55, 3) := by decide +kernel
theorem d10_44 : decode prog_63_method_5_code 44 = .ok (.iload_n 1, 1) := by decide +kernel
theorem d10_45 : decode prog_63_method_5_code 45 = .ok (.iastore, 1) := by decide +kernel
theorem d10_46 : decode prog_63_method_5_code 46 = .ok (.return_, 1) := by decide +kernel
def Q34 (Z : State) (p0 : Addr) (p1 : Int32) (rr : Addr) (an : Addr) (cu : Addr) (li : Addr) (fi : Int32) (c0 : Int32) (c1 : Int32) (h0 : Heap) (n0 : Nat) (v : Option Value) (h : Heap) (L : List Loc) : Prop := v = none ∧ Fr n0 L ∧ Keep h0 h [p0, cu] ∧ Fld Z h p0 cP "this$0" dR (.ref rr) ∧ Fld Z h p0 cP "anywhere" "[J" (.ref an) ∧ Fld Z h p0 cP "current" "[I" (.ref cu) ∧ Fld Z h p0 cP "first" "I" (.int (0 : Int32)) ∧ Fld Z h p0 cP "end" "I" (.int (2 : Int32)) ∧ Fld Z h p0 cP "filling" "I" (.int fi) ∧ Fld Z h p0 cP "listed" dI (.ref li) ∧ Fld Z h p0 cP "currentCount" "I" (.int (1 : Int32)) ∧ ArL Z h cu .int [(.int p1), (.int c1), (.int (0 : Int32)), (.int (0 : Int32)), (.int (0 : Int32)), (.int (0 : Int32)), (.int (0 : Int32)), (.int (0 : Int32)), (.int (0 : Int32)), (.int (0 : Int32)), (.int (0 : Int32)), (.int (0 : Int32)), (.int (0 : Int32)), (.int (0 : Int32)), (.int (0 : Int32)), (.int (0 : Int32))]
abbrev rmm34 : Room := { frames := 0, cells := 0, slots := 0, locals := 0 }
abbrev P34 (Z : State) (p0 : Addr) (p1 : Int32) (rr : Addr) (an : Addr) (cu : Addr) (li : Addr) (fi : Int32) (c0 : Int32) (c1 : Int32) (h0 : Heap) (n0 : Nat) (s : State) : Outcome → State → Prop := fun o U' => ∃ v L, o = .returned v ∧ Q34 Z p0 p1 rr an cu li fi c0 c1 h0 n0 v U'.heap L ∧ FrameEnd s o U' L rmm34.cells rmm34.slots
theorem pn_34 : plainName "com/example/onward/onward/check/RequirementRows$Part" = true := by first | (simp [plainName, overriddenIn]; done) | decide +kernel
theorem ef_34 (m : MethodId) (p0 : Addr) (p1 : Int32) : entryFrame m #[(.ref p0), (.int p1)] 2 = mkF m 0 #[vR p0, vI p1] [] := by first | (simp [entryFrame, mkF, argsToLocals, Value.category]; done) | rfl
set_option maxRecDepth 65536 in
set_option maxHeartbeats 40000000 in
theorem rm34 (l : Launch) (Z : State) (a0 : Array Value) (hw : ∀ d ∈ tables_1, d.before a0 Z = true) (ws : List Jvm.Cond) (p0 : Addr) (p1 : Int32) (rr : Addr) (an : Addr) (cu : Addr) (li : Addr) (fi : Int32) (c0 : Int32) (c1 : Int32) (h0 : Heap) (n0 : Nat) (Z0 : n0 ≤ h0.size) (H0 : Exa Z h0 p0 cP) (H1 : Fld Z h0 p0 cP "this$0" dR (.ref rr)) (H2 : Fld Z h0 p0 cP "anywhere" "[J" (.ref an)) (H3 : Fld Z h0 p0 cP "current" "[I" (.ref cu)) (H4 : Fld Z h0 p0 cP "first" "I" (.int (0 : Int32))) (H5 : Fld Z h0 p0 cP "end" "I" (.int (2 : Int32))) (H6 : Fld Z h0 p0 cP "filling" "I" (.int fi)) (H7 : Fld Z h0 p0 cP "listed" dI (.ref li)) (H8 : Fld Z h0 p0 cP "currentCount" "I" (.int (0 : Int32))) (H9 : ArL Z h0 cu .int [(.int c0), (.int c1), (.int (0 : Int32)), (.int (0 : Int32)), (.int (0 : Int32)), (.int (0 : Int32)), (.int (0 : Int32)), (.int (0 : Int32)), (.int (0 : Int32)), (.int (0 : Int32)), (.int (0 : Int32)), (.int (0 : Int32)), (.int (0 : Int32)), (.int (0 : Int32)), (.int (0 : Int32)), (.int (0 : Int32))]) (H10 : n0 ≤ p0) (H11 : n0 ≤ cu) (H12 : p0 ≠ cu) :
    MetFree l (⟨"com/example/onward/onward/check/RequirementRows$Part", "list", "(I)V"⟩ : MethodName) (head1 (Jvm.Cond.code (⟨"com/example/onward/onward/check/RequirementRows$Part", "list", "(I)V"⟩ : MethodName) prog_63_method_5_code 2 none :: ws) rmm34) (fun a U => a = #[(.ref p0), (.int p1)] ∧ Z.Warmed39 U.vm ∧ U.heap = h0) (fun _ _ _ _ _ => True) (fun _ U o U' => ∃ v L, o = .returned v ∧ Q34 Z p0 p1 rr an cu li fi c0 c1 h0 n0 v U'.heap L ∧ FrameEnd U o U' L rmm34.cells rmm34.slots) := by
  refine MetFree.of_bodySF (plainFor_of_name pn_34) hisR ?_
  intro p e s m args below meth c s₁ Bd hml0 hP hK
  obtain ⟨rfl, hZ, hh⟩ := hP
  have hx := Bd.exec
  have hby := Bd.bytes
  have hml : c.maxLocals = 2 := hml0
  have hown : s.vm.findClass "com/example/onward/onward/check/RequirementRows$Part" = some m.cls := findClass_of_methodNamed Bd.named
  have hnm := (name_of_methodNamed Bd.named Bd.method).1
  have X0 : Stand p l e rmm34 s m #[(.ref p0), (.int p1)] below meth c s₁ [] 0 0 := Stand.of_body Bd
  have e0 : s₁.heap = h0 := by rw [← hh, Bd.state]; rfl
  have N0 := Fr.nil n0
  show Go p.tables e below (P34 Z p0 p1 rr an cu li fi c0 c1 h0 n0 s) (s₁.setTop (entryFrame m #[(.ref p0), (.int p1)] 2))
  refine Go.back (fun t k => castTop (ef_34 m p0 p1) k) ?_
  show Go p.tables e below (P34 Z p0 p1 rr an cu li fi c0 c1 h0 n0 s) (s₁.setTop (mkF m 0 #[vR p0, vI p1] []))
  refine Go.back (fun t k => XS.aloadN X0.here hx rfl (hb hby d10_0) rfl rfl  k) ?_
  obtain ⟨T1, X1, e1, st1⟩ := getF X0 hx hZ hown (host := "") (Or.inl (wk hw 109 rfl)) Via.refl e0 H8 (g := (mkF m 1 #[vR p0, vI p1] [(.ref p0)])) rfl rfl (hb hby d10_1)
  refine Go.back st1 ?_
  refine Go.back (fun t k => XS.aloadN X1.here hx rfl (hb hby d10_4) rfl rfl  k) ?_
  obtain ⟨T2, X2, e2, st2⟩ := getF X1 hx hZ hown (host := "") (Or.inl (wk hw 41 rfl)) Via.refl e1 H3 (g := (mkF m 5 #[vR p0, vI p1] [(.ref p0), (.int (0 : Int32))])) rfl rfl (hb hby d10_5)
  refine Go.back st2 ?_
  show Go _ _ _ _ (T2.setTop (mkF m 8 #[vR p0, vI p1] [(.ref cu), (.int (0 : Int32))]))
  obtain ⟨cl3, Ar3, S3⟩ := H9.len
  refine Go.back (fun t k => X2.arraylength hx (by rw [e2]; exact Ar3.1) (State.isArrayOf_alike hZ.alike Ar3.2.1) (g := (mkF m 8 #[vR p0, vI p1] [(.ref cu), (.int (0 : Int32))])) rfl rfl (hb hby d10_8) t k) ?_
  rw [S3]
  show Go _ _ _ _ (T2.setTop (mkF m 9 #[vR p0, vI p1] [(.int (16 : Int32)), (.int (0 : Int32))]))
  refine Go.back (fun t k => XS.icmpYes X2.here hx rfl (pc0 := 9) (pc' := 29) rfl (hb hby d10_9) rfl (feq (by decide)).2 (by decide) (by decide) k) ?_
  show Go _ _ _ _ (T2.setTop (mkF m 29 #[vR p0, vI p1] []))
  refine Go.back (fun t k => XS.aloadN X2.here hx rfl (hb hby d10_29) rfl rfl  k) ?_
  obtain ⟨T4, X4, e4, st4⟩ := getF X2 hx hZ hown (host := "") (Or.inl (wk hw 41 rfl)) Via.refl e2 H3 (g := (mkF m 30 #[vR p0, vI p1] [(.ref p0)])) rfl rfl (hb hby d10_30)
  refine Go.back st4 ?_
  refine Go.back (fun t k => XS.aloadN X4.here hx rfl (hb hby d10_33) rfl rfl  k) ?_
  refine Go.back (fun t k => XS.dup X4.here hx rfl (hb hby d10_34) rfl rfl k) ?_
  show Go _ _ _ _ (T4.setTop (mkF m 35 #[vR p0, vI p1] [(.ref p0), (.ref p0), (.ref cu)]))
  obtain ⟨T5, X5, e5, st5⟩ := getF X4 hx hZ hown (host := "") (Or.inl (wk hw 109 rfl)) Via.refl e4 H8 (g := (mkF m 35 #[vR p0, vI p1] [(.ref p0), (.ref p0), (.ref cu)])) rfl rfl (hb hby d10_35)
  refine Go.back st5 ?_
  show Go _ _ _ _ (T5.setTop (mkF m 38 #[vR p0, vI p1] [(.int (0 : Int32)), (.ref p0), (.ref cu)]))
  refine Go.back (fun t k => XS.dupX1 X5.here hx rfl (hb hby d10_38) rfl rfl rfl k) ?_
  show Go _ _ _ _ (T5.setTop (mkF m 39 #[vR p0, vI p1] [(.int (0 : Int32)), (.ref p0), (.int (0 : Int32)), (.ref cu)]))
  refine Go.back (fun t k => XS.iconst X5.here hx rfl (hb hby d10_39) k) ?_
  refine Go.back (fun t k => XS.iadd X5.here hx rfl (hb hby d10_40) rfl k) ?_
  show Go _ _ _ _ (T5.setTop (mkF m 41 #[vR p0, vI p1] [(.int ((0 : Int32) + (1 : Int32))), (.ref p0), (.int (0 : Int32)), (.ref cu)]))
  rw [show ((0 : Int32) + (1 : Int32)) = (1 : Int32) from by decide]
  show Go _ _ _ _ (T5.setTop (mkF m 41 #[vR p0, vI p1] [(.int (1 : Int32)), (.ref p0), (.int (0 : Int32)), (.ref cu)]))
  obtain ⟨T6, h6, X6, e6, W6, st6⟩ := putF X5 hx hZ hown (host := "") (Or.inl (wk hw 109 rfl)) Via.refl e5 H8 H0 (Or.inl (wk hw 110 rfl)) (wk hw 29 rfl) (ty := .int) (by decide) rfl rfl (g := (mkF m 41 #[vR p0, vI p1] [(.int (1 : Int32)), (.ref p0), (.int (0 : Int32)), (.ref cu)])) rfl rfl (hb hby d10_41)
  have F7 := H0.wr W6
  have F8 := H1.other W6 (Or.inr (slot_ne (Or.inr (wk hw 35 rfl)) (Or.inl (wk hw 110 rfl)) (by decide) (t := (.object "com/example/onward/onward/check/RequirementRows")) (t' := .int) (by decide) (by decide)))
  have F9 := H2.other W6 (Or.inr (slot_ne (Or.inr (wk hw 39 rfl)) (Or.inl (wk hw 110 rfl)) (by decide) (t := (.array .long)) (t' := .int) (by decide) (by decide)))
  have F10 := H3.other W6 (Or.inr (slot_ne (Or.inl (wk hw 42 rfl)) (Or.inl (wk hw 110 rfl)) (by decide) (t := (.array .int)) (t' := .int) (by decide) (by decide)))
  have F11 := H4.other W6 (Or.inr (slot_ne (Or.inr (wk hw 44 rfl)) (Or.inl (wk hw 110 rfl)) (by decide) (t := .int) (t' := .int) (by decide) (by decide)))
  have F12 := H5.other W6 (Or.inr (slot_ne (Or.inr (wk hw 46 rfl)) (Or.inl (wk hw 110 rfl)) (by decide) (t := .int) (t' := .int) (by decide) (by decide)))
  have F13 := H6.other W6 (Or.inr (slot_ne (Or.inl (wk hw 48 rfl)) (Or.inl (wk hw 110 rfl)) (by decide) (t := .int) (t' := .int) (by decide) (by decide)))
  have F14 := H7.other W6 (Or.inr (slot_ne (Or.inr (wk hw 51 rfl)) (Or.inl (wk hw 110 rfl)) (by decide) (t := (.object "com/example/onward/onward/lts/IntBlocks")) (t' := .int) (by decide) (by decide)))
  have F15 : Fld Z h6 p0 cP "currentCount" "I" (.int (1 : Int32)) := H8.same W6
  have F16 := H9.other W6 (Ne.symm H12)
  have F17 := Nat.le_trans Z0 (Keep.of_wr W6).1
  have F18 : Keep h0 h6 [p0, cu] := (Keep.refl h0 [p0, cu]).wr W6 (Or.inl (List.mem_of_getElem? (i := 0) rfl))
  obtain ⟨Lo6, Y6, N6⟩ := pk X6 (Fr.snoc X6 N0 H10)
  refine Go.back st6 ?_
  refine Go.back (fun t k => XS.iloadN Y6.here hx rfl (hb hby d10_44) rfl  k) ?_
  obtain ⟨cl19, Ar19, hi19, -⟩ := F16.at (j := (0 : Int32)) (by decide) (Nat.le_of_ble_eq_true rfl)
  obtain ⟨T19, h19, X19, e19, W19, st19⟩ := stI Y6 hx hZ e6 Ar19 (j := (0 : Int32)) hi19 (g := (mkF m 45 #[vR p0, vI p1] [(.int p1), (.int (0 : Int32)), (.ref cu)])) rfl rfl (hb hby d10_45)
  have F20 := F7.wr W19
  have F21 := F8.other W19 (Or.inl H12)
  have F22 := F9.other W19 (Or.inl H12)
  have F23 := F10.other W19 (Or.inl H12)
  have F24 := F11.other W19 (Or.inl H12)
  have F25 := F12.other W19 (Or.inl H12)
  have F26 := F13.other W19 (Or.inl H12)
  have F27 := F14.other W19 (Or.inl H12)
  have F28 := F15.other W19 (Or.inl H12)
  have F29 : ArL Z h19 cu .int [(.int p1), (.int c1), (.int (0 : Int32)), (.int (0 : Int32)), (.int (0 : Int32)), (.int (0 : Int32)), (.int (0 : Int32)), (.int (0 : Int32)), (.int (0 : Int32)), (.int (0 : Int32)), (.int (0 : Int32)), (.int (0 : Int32)), (.int (0 : Int32)), (.int (0 : Int32)), (.int (0 : Int32)), (.int (0 : Int32))] := F16.set W19
  have F30 := Nat.le_trans F17 (Keep.of_wr W19).1
  have F31 := F18.wr W19 (Or.inl (List.mem_of_getElem? (i := 1) rfl))
  obtain ⟨Lo19, Y19, N19⟩ := pk X19 (Fr.snoc X19 N6 H11)
  refine Go.back st19 ?_
  show Go _ _ _ _ (T19.setTop (mkF m 46 #[vR p0, vI p1] []))
  exact Go.retV Y19 hx Bd.returns (hb hby d10_46) Bd.notSynchronized ⟨rfl, N19, (by rw [e19]; exact F31), (by rw [e19]; exact F21), (by rw [e19]; exact F22), (by rw [e19]; exact F23), (by rw [e19]; exact F24), (by rw [e19]; exact F25), (by rw [e19]; exact F26), (by rw [e19]; exact F27), (by rw [e19]; exact F28), (by rw [e19]; exact F29)⟩ (by decide) (by decide)
theorem d8_0 : decode prog_63_method_4_code 0 = .ok (.aload_n 0, 1) := by decide +kernel
theorem d8_1 : decode prog_63_method_4_code 1 = .ok (.getfield 3, 3) := by decide +kernel
theorem d8_4 : decode prog_63_method_4_code 4 = .ok (.getfield 34, 3) := by decide +kernel
theorem d8_7 : decode prog_63_method_4_code 7 = .ok (.ifnull 37, 3) := by decide +kernel
theorem d8_44 : decode prog_63_method_4_code 44 = .ok (.aload_n 0, 1) := by decide +kernel
theorem d8_45 : decode prog_63_method_4_code 45 = .ok (.iload_n 1, 1) := by decide +kernel
theorem d8_46 : decode prog_63_method_4_code 46 = .ok (.invokevirtual 51, 3) := by decide +kernel
theorem d8_49 : decode prog_63_method_4_code 49 = .ok (.return_, 1) := by decide +kernel
def Q35 (Z : State) (p0 : Addr) (p1 : Int32) (rr : Addr) (an : Addr) (cu : Addr) (li : Addr) (fi : Int32) (c0 : Int32) (c1 : Int32) (h0 : Heap) (n0 : Nat) (v : Option Value) (h : Heap) (L : List Loc) : Prop := v = none ∧ Fr n0 L ∧ Keep h0 h [p0, cu] ∧ Fld Z h p0 cP "this$0" dR (.ref rr) ∧ Fld Z h p0 cP "anywhere" "[J" (.ref an) ∧ Fld Z h p0 cP "current" "[I" (.ref cu) ∧ Fld Z h p0 cP "first" "I" (.int (0 : Int32)) ∧ Fld Z h p0 cP "end" "I" (.int (2 : Int32)) ∧ Fld Z h p0 cP "filling" "I" (.int fi) ∧ Fld Z h p0 cP "listed" dI (.ref li) ∧ Fld Z h p0 cP "currentCount" "I" (.int (1 : Int32)) ∧ ArL Z h cu .int [(.int p1), (.int c1), (.int (0 : Int32)), (.int (0 : Int32)), (.int (0 : Int32)), (.int (0 : Int32)), (.int (0 : Int32)), (.int (0 : Int32)), (.int (0 : Int32)), (.int (0 : Int32)), (.int (0 : Int32)), (.int (0 : Int32)), (.int (0 : Int32)), (.int (0 : Int32)), (.int (0 : Int32)), (.int (0 : Int32))]
abbrev rmm35 : Room := { frames := 1, cells := 0, slots := 0, locals := 13 }
abbrev P35 (Z : State) (p0 : Addr) (p1 : Int32) (rr : Addr) (an : Addr) (cu : Addr) (li : Addr) (fi : Int32) (c0 : Int32) (c1 : Int32) (h0 : Heap) (n0 : Nat) (s : State) : Outcome → State → Prop := fun o U' => ∃ v L, o = .returned v ∧ Q35 Z p0 p1 rr an cu li fi c0 c1 h0 n0 v U'.heap L ∧ FrameEnd s o U' L rmm35.cells rmm35.slots
theorem pn_35 : plainName "com/example/onward/onward/check/RequirementRows$Part" = true := by first | (simp [plainName, overriddenIn]; done) | decide +kernel
theorem ef_35 (m : MethodId) (p0 : Addr) (p1 : Int32) : entryFrame m #[(.ref p0), (.int p1)] 2 = mkF m 0 #[vR p0, vI p1] [] := by first | (simp [entryFrame, mkF, argsToLocals, Value.category]; done) | rfl
set_option maxRecDepth 65536 in
set_option maxHeartbeats 40000000 in
theorem rm35 (l : Launch) (Z : State) (a0 : Array Value) (hw : ∀ d ∈ tables_1, d.before a0 Z = true) (ws : List Jvm.Cond) (p0 : Addr) (p1 : Int32) (rr : Addr) (an : Addr) (cu : Addr) (li : Addr) (fi : Int32) (c0 : Int32) (c1 : Int32) (h0 : Heap) (n0 : Nat) (Z0 : n0 ≤ h0.size) (H0 : Exa Z h0 p0 cP) (H1 : Fld Z h0 p0 cP "this$0" dR (.ref rr)) (H2 : Fld Z h0 p0 cP "anywhere" "[J" (.ref an)) (H3 : Fld Z h0 p0 cP "current" "[I" (.ref cu)) (H4 : Fld Z h0 p0 cP "first" "I" (.int (0 : Int32))) (H5 : Fld Z h0 p0 cP "end" "I" (.int (2 : Int32))) (H6 : Fld Z h0 p0 cP "filling" "I" (.int fi)) (H7 : Fld Z h0 p0 cP "listed" dI (.ref li)) (H8 : Fld Z h0 p0 cP "currentCount" "I" (.int (0 : Int32))) (H9 : Fld Z h0 rr cR "rows" "[J" .null) (H10 : ArL Z h0 cu .int [(.int c0), (.int c1), (.int (0 : Int32)), (.int (0 : Int32)), (.int (0 : Int32)), (.int (0 : Int32)), (.int (0 : Int32)), (.int (0 : Int32)), (.int (0 : Int32)), (.int (0 : Int32)), (.int (0 : Int32)), (.int (0 : Int32)), (.int (0 : Int32)), (.int (0 : Int32)), (.int (0 : Int32)), (.int (0 : Int32))]) (H11 : n0 ≤ p0) (H12 : n0 ≤ cu) (H13 : p0 ≠ cu) (H14 : p0 ≠ rr) (H15 : cu ≠ rr) :
    MetFree l (⟨"com/example/onward/onward/check/RequirementRows$Part", "raise", "(I)V"⟩ : MethodName) (head1 (Jvm.Cond.code (⟨"com/example/onward/onward/check/RequirementRows$Part", "raise", "(I)V"⟩ : MethodName) prog_63_method_4_code 2 none :: ws) rmm35) (fun a U => a = #[(.ref p0), (.int p1)] ∧ Z.Warmed39 U.vm ∧ U.heap = h0) (fun _ _ _ _ _ => True) (fun _ U o U' => ∃ v L, o = .returned v ∧ Q35 Z p0 p1 rr an cu li fi c0 c1 h0 n0 v U'.heap L ∧ FrameEnd U o U' L rmm35.cells rmm35.slots) := by
  refine MetFree.of_bodySF (plainFor_of_name pn_35) hisR ?_
  intro p e s m args below meth c s₁ Bd hml0 hP hK
  obtain ⟨rfl, hZ, hh⟩ := hP
  have hx := Bd.exec
  have hby := Bd.bytes
  have hml : c.maxLocals = 2 := hml0
  have hown : s.vm.findClass "com/example/onward/onward/check/RequirementRows$Part" = some m.cls := findClass_of_methodNamed Bd.named
  have hnm := (name_of_methodNamed Bd.named Bd.method).1
  have X0 : Stand p l e rmm35 s m #[(.ref p0), (.int p1)] below meth c s₁ [] 0 0 := Stand.of_body Bd
  have e0 : s₁.heap = h0 := by rw [← hh, Bd.state]; rfl
  have N0 := Fr.nil n0
  show Go p.tables e below (P35 Z p0 p1 rr an cu li fi c0 c1 h0 n0 s) (s₁.setTop (entryFrame m #[(.ref p0), (.int p1)] 2))
  refine Go.back (fun t k => castTop (ef_35 m p0 p1) k) ?_
  show Go p.tables e below (P35 Z p0 p1 rr an cu li fi c0 c1 h0 n0 s) (s₁.setTop (mkF m 0 #[vR p0, vI p1] []))
  refine Go.back (fun t k => XS.aloadN X0.here hx rfl (hb hby d8_0) rfl rfl  k) ?_
  obtain ⟨T1, X1, e1, st1⟩ := getF X0 hx hZ hown (host := "") (Or.inl (wk hw 34 rfl)) Via.refl e0 H1 (g := (mkF m 1 #[vR p0, vI p1] [(.ref p0)])) rfl rfl (hb hby d8_1)
  refine Go.back st1 ?_
  obtain ⟨T2, X2, e2, st2⟩ := getF X1 hx hZ hown (Or.inr (wk hw 49 rfl)) Via.refl e1 H9 (g := (mkF m 4 #[vR p0, vI p1] [(.ref rr)])) rfl rfl (hb hby d8_4)
  refine Go.back st2 ?_
  show Go _ _ _ _ (T2.setTop (mkF m 7 #[vR p0, vI p1] [.null]))
  refine Go.back (fun t k => XS.ifnullYes X2.here hx rfl (pc0 := 7) (pc' := 44) rfl (hb hby d8_7) rfl (by decide) (by decide) k) ?_
  show Go _ _ _ _ (T2.setTop (mkF m 44 #[vR p0, vI p1] []))
  refine Go.back (fun t k => XS.aloadN X2.here hx rfl (hb hby d8_44) rfl rfl  k) ?_
  refine Go.back (fun t k => XS.iloadN X2.here hx rfl (hb hby d8_45) rfl  k) ?_
  obtain ⟨cq3, q3, q3'⟩ := H0.cell
  obtain ⟨_, _, ⟨T3, L3, k3, n3⟩, -, X3, ⟨Lc3, hQ3, l3, y3, z3⟩, st3⟩ := X2.privateBack hx (y := (⟨"com/example/onward/onward/check/RequirementRows$Part", "list", "(I)V"⟩ : MethodName)) hown (mvT hZ (wk hw 105 rfl)) (mvT hZ (wk hw 106 rfl)) (own_selpriv (z := (⟨"com/example/onward/onward/check/RequirementRows$Part", "endState", "()V"⟩ : MethodName)) rfl (mvT hZ (wk hw 55 rfl)) (Cond.privateMethod_at (mvP hZ (wk hw 107 rfl) (args := #[]))) (mvT hZ (wk hw 106 rfl)) (by decide)) (Cond.privateMethod_at (mvP hZ (wk hw 107 rfl) (args := #[]))) (mvT hZ (wk hw 108 rfl)) (by decide) (backOf (W := 0) (rm34 l Z a0 hw [] p0 p1 rr an cu li fi c0 c1 h0 n0 Z0 H0 H1 H2 H3 H4 H5 H6 H7 H8 H10 H11 H12 H13) hZ (wk hw 108 rfl) (wk hw 30 rfl) (by decide) (by decide)) (g := (mkF m 46 #[vR p0, vI p1] [(.int p1), (.ref p0)])) rfl (by rw [hml]; rfl) (Steps.refl _) (a := p0) (by rw [e2]; exact q3) q3' (argsL := [(.int p1)]) (rest := []) (lenOf pd_4 rfl) rfl (by show 2 * 0 + _ ≤ _; exact Nat.le_of_eq rfl) (hb hby d8_46) (fun _ _ => ⟨rfl, e2, (by decide : 0 + 0 ≤ _), (by decide : 0 + 0 ≤ _)⟩)
  dsimp only [Pt.U, Pt.locs, Pt.cells, Pt.slots] at X3 l3 y3 z3 st3 hQ3
  subst l3 y3 z3
  obtain ⟨h3, e3⟩ : ∃ z, T3.heap = z := ⟨_, rfl⟩
  rw [e3] at hQ3
  obtain ⟨rfl, N3q, K3, F8, F9, F10, F11, F12, F13, F14, F15, F16⟩ := hQ3
  obtain ⟨Lo3, Y3, N3⟩ := pk X3 (Fr.app N0 N3q)
  have F4 := H0.keep K3
  have F5 := H9.keep K3 (ninS (Ne.symm H14) (ninS (Ne.symm H15) nin0))
  have F6 := Nat.le_trans Z0 K3.1
  have F7 : Keep h0 h3 [p0, cu] := (Keep.refl h0 [p0, cu]).trans K3 (allS (P := fun x => x ∈ [p0, cu] ∨ h0.size ≤ x) (Or.inl (List.mem_of_getElem? (i := 0) rfl)) (allS (P := fun x => x ∈ [p0, cu] ∨ h0.size ≤ x) (Or.inl (List.mem_of_getElem? (i := 1) rfl)) all0))
  refine Go.trans st3 ?_
  show Go _ _ _ _ (T3.setTop (mkF m 49 #[vR p0, vI p1] []))
  exact Go.retV Y3 hx Bd.returns (hb hby d8_49) Bd.notSynchronized ⟨rfl, N3, (by rw [e3]; exact F7), (by rw [e3]; exact F8), (by rw [e3]; exact F9), (by rw [e3]; exact F10), (by rw [e3]; exact F11), (by rw [e3]; exact F12), (by rw [e3]; exact F13), (by rw [e3]; exact F14), (by rw [e3]; exact F15), (by rw [e3]; exact F16)⟩ (by decide) (by decide)
def Q36 (Z : State) (p0 : Addr) (p1 : Int32) (rr : Addr) (an : Addr) (cu : Addr) (li : Addr) (fi : Int32) (c0 : Int32) (c1 : Int32) (h0 : Heap) (n0 : Nat) (v : Option Value) (h : Heap) (L : List Loc) : Prop := v = none ∧ Fr n0 L ∧ Keep h0 h [p0, cu] ∧ Fld Z h p0 cP "this$0" dR (.ref rr) ∧ Fld Z h p0 cP "anywhere" "[J" (.ref an) ∧ Fld Z h p0 cP "current" "[I" (.ref cu) ∧ Fld Z h p0 cP "first" "I" (.int (0 : Int32)) ∧ Fld Z h p0 cP "end" "I" (.int (2 : Int32)) ∧ Fld Z h p0 cP "filling" "I" (.int fi) ∧ Fld Z h p0 cP "listed" dI (.ref li) ∧ Fld Z h p0 cP "currentCount" "I" (.int (2 : Int32)) ∧ ArL Z h cu .int [(.int c0), (.int p1), (.int (0 : Int32)), (.int (0 : Int32)), (.int (0 : Int32)), (.int (0 : Int32)), (.int (0 : Int32)), (.int (0 : Int32)), (.int (0 : Int32)), (.int (0 : Int32)), (.int (0 : Int32)), (.int (0 : Int32)), (.int (0 : Int32)), (.int (0 : Int32)), (.int (0 : Int32)), (.int (0 : Int32))]
abbrev rmm36 : Room := { frames := 0, cells := 0, slots := 0, locals := 0 }
abbrev P36 (Z : State) (p0 : Addr) (p1 : Int32) (rr : Addr) (an : Addr) (cu : Addr) (li : Addr) (fi : Int32) (c0 : Int32) (c1 : Int32) (h0 : Heap) (n0 : Nat) (s : State) : Outcome → State → Prop := fun o U' => ∃ v L, o = .returned v ∧ Q36 Z p0 p1 rr an cu li fi c0 c1 h0 n0 v U'.heap L ∧ FrameEnd s o U' L rmm36.cells rmm36.slots
theorem pn_36 : plainName "com/example/onward/onward/check/RequirementRows$Part" = true := by first | (simp [plainName, overriddenIn]; done) | decide +kernel
theorem ef_36 (m : MethodId) (p0 : Addr) (p1 : Int32) : entryFrame m #[(.ref p0), (.int p1)] 2 = mkF m 0 #[vR p0, vI p1] [] := by first | (simp [entryFrame, mkF, argsToLocals, Value.category]; done) | rfl
set_option maxRecDepth 65536 in
set_option maxHeartbeats 40000000 in
theorem rm36 (l : Launch) (Z : State) (a0 : Array Value) (hw : ∀ d ∈ tables_1, d.before a0 Z = true) (ws : List Jvm.Cond) (p0 : Addr) (p1 : Int32) (rr : Addr) (an : Addr) (cu : Addr) (li : Addr) (fi : Int32) (c0 : Int32) (c1 : Int32) (h0 : Heap) (n0 : Nat) (Z0 : n0 ≤ h0.size) (H0 : Exa Z h0 p0 cP) (H1 : Fld Z h0 p0 cP "this$0" dR (.ref rr)) (H2 : Fld Z h0 p0 cP "anywhere" "[J" (.ref an)) (H3 : Fld Z h0 p0 cP "current" "[I" (.ref cu)) (H4 : Fld Z h0 p0 cP "first" "I" (.int (0 : Int32))) (H5 : Fld Z h0 p0 cP "end" "I" (.int (2 : Int32))) (H6 : Fld Z h0 p0 cP "filling" "I" (.int fi)) (H7 : Fld Z h0 p0 cP "listed" dI (.ref li)) (H8 : Fld Z h0 p0 cP "currentCount" "I" (.int (1 : Int32))) (H9 : ArL Z h0 cu .int [(.int c0), (.int c1), (.int (0 : Int32)), (.int (0 : Int32)), (.int (0 : Int32)), (.int (0 : Int32)), (.int (0 : Int32)), (.int (0 : Int32)), (.int (0 : Int32)), (.int (0 : Int32)), (.int (0 : Int32)), (.int (0 : Int32)), (.int (0 : Int32)), (.int (0 : Int32)), (.int (0 : Int32)), (.int (0 : Int32))]) (H10 : n0 ≤ p0) (H11 : n0 ≤ cu) (H12 : p0 ≠ cu) :
    MetFree l (⟨"com/example/onward/onward/check/RequirementRows$Part", "list", "(I)V"⟩ : MethodName) (head1 (Jvm.Cond.code (⟨"com/example/onward/onward/check/RequirementRows$Part", "list", "(I)V"⟩ : MethodName) prog_63_method_5_code 2 none :: ws) rmm36) (fun a U => a = #[(.ref p0), (.int p1)] ∧ Z.Warmed39 U.vm ∧ U.heap = h0) (fun _ _ _ _ _ => True) (fun _ U o U' => ∃ v L, o = .returned v ∧ Q36 Z p0 p1 rr an cu li fi c0 c1 h0 n0 v U'.heap L ∧ FrameEnd U o U' L rmm36.cells rmm36.slots) := by
  refine MetFree.of_bodySF (plainFor_of_name pn_36) hisR ?_
  intro p e s m args below meth c s₁ Bd hml0 hP hK
  obtain ⟨rfl, hZ, hh⟩ := hP
  have hx := Bd.exec
  have hby := Bd.bytes
  have hml : c.maxLocals = 2 := hml0
  have hown : s.vm.findClass "com/example/onward/onward/check/RequirementRows$Part" = some m.cls := findClass_of_methodNamed Bd.named
  have hnm := (name_of_methodNamed Bd.named Bd.method).1
  have X0 : Stand p l e rmm36 s m #[(.ref p0), (.int p1)] below meth c s₁ [] 0 0 := Stand.of_body Bd
  have e0 : s₁.heap = h0 := by rw [← hh, Bd.state]; rfl
  have N0 := Fr.nil n0
  show Go p.tables e below (P36 Z p0 p1 rr an cu li fi c0 c1 h0 n0 s) (s₁.setTop (entryFrame m #[(.ref p0), (.int p1)] 2))
  refine Go.back (fun t k => castTop (ef_36 m p0 p1) k) ?_
  show Go p.tables e below (P36 Z p0 p1 rr an cu li fi c0 c1 h0 n0 s) (s₁.setTop (mkF m 0 #[vR p0, vI p1] []))
  refine Go.back (fun t k => XS.aloadN X0.here hx rfl (hb hby d10_0) rfl rfl  k) ?_
  obtain ⟨T1, X1, e1, st1⟩ := getF X0 hx hZ hown (host := "") (Or.inl (wk hw 109 rfl)) Via.refl e0 H8 (g := (mkF m 1 #[vR p0, vI p1] [(.ref p0)])) rfl rfl (hb hby d10_1)
  refine Go.back st1 ?_
  refine Go.back (fun t k => XS.aloadN X1.here hx rfl (hb hby d10_4) rfl rfl  k) ?_
  obtain ⟨T2, X2, e2, st2⟩ := getF X1 hx hZ hown (host := "") (Or.inl (wk hw 41 rfl)) Via.refl e1 H3 (g := (mkF m 5 #[vR p0, vI p1] [(.ref p0), (.int (1 : Int32))])) rfl rfl (hb hby d10_5)
  refine Go.back st2 ?_
  show Go _ _ _ _ (T2.setTop (mkF m 8 #[vR p0, vI p1] [(.ref cu), (.int (1 : Int32))]))
  obtain ⟨cl3, Ar3, S3⟩ := H9.len
  refine Go.back (fun t k => X2.arraylength hx (by rw [e2]; exact Ar3.1) (State.isArrayOf_alike hZ.alike Ar3.2.1) (g := (mkF m 8 #[vR p0, vI p1] [(.ref cu), (.int (1 : Int32))])) rfl rfl (hb hby d10_8) t k) ?_
  rw [S3]
  show Go _ _ _ _ (T2.setTop (mkF m 9 #[vR p0, vI p1] [(.int (16 : Int32)), (.int (1 : Int32))]))
  refine Go.back (fun t k => XS.icmpYes X2.here hx rfl (pc0 := 9) (pc' := 29) rfl (hb hby d10_9) rfl (feq (by decide)).2 (by decide) (by decide) k) ?_
  show Go _ _ _ _ (T2.setTop (mkF m 29 #[vR p0, vI p1] []))
  refine Go.back (fun t k => XS.aloadN X2.here hx rfl (hb hby d10_29) rfl rfl  k) ?_
  obtain ⟨T4, X4, e4, st4⟩ := getF X2 hx hZ hown (host := "") (Or.inl (wk hw 41 rfl)) Via.refl e2 H3 (g := (mkF m 30 #[vR p0, vI p1] [(.ref p0)])) rfl rfl (hb hby d10_30)
  refine Go.back st4 ?_
  refine Go.back (fun t k => XS.aloadN X4.here hx rfl (hb hby d10_33) rfl rfl  k) ?_
  refine Go.back (fun t k => XS.dup X4.here hx rfl (hb hby d10_34) rfl rfl k) ?_
  show Go _ _ _ _ (T4.setTop (mkF m 35 #[vR p0, vI p1] [(.ref p0), (.ref p0), (.ref cu)]))
  obtain ⟨T5, X5, e5, st5⟩ := getF X4 hx hZ hown (host := "") (Or.inl (wk hw 109 rfl)) Via.refl e4 H8 (g := (mkF m 35 #[vR p0, vI p1] [(.ref p0), (.ref p0), (.ref cu)])) rfl rfl (hb hby d10_35)
  refine Go.back st5 ?_
  show Go _ _ _ _ (T5.setTop (mkF m 38 #[vR p0, vI p1] [(.int (1 : Int32)), (.ref p0), (.ref cu)]))
  refine Go.back (fun t k => XS.dupX1 X5.here hx rfl (hb hby d10_38) rfl rfl rfl k) ?_
  show Go _ _ _ _ (T5.setTop (mkF m 39 #[vR p0, vI p1] [(.int (1 : Int32)), (.ref p0), (.int (1 : Int32)), (.ref cu)]))
  refine Go.back (fun t k => XS.iconst X5.here hx rfl (hb hby d10_39) k) ?_
  refine Go.back (fun t k => XS.iadd X5.here hx rfl (hb hby d10_40) rfl k) ?_
  show Go _ _ _ _ (T5.setTop (mkF m 41 #[vR p0, vI p1] [(.int ((1 : Int32) + (1 : Int32))), (.ref p0), (.int (1 : Int32)), (.ref cu)]))
  rw [show ((1 : Int32) + (1 : Int32)) = (2 : Int32) from by decide]
  show Go _ _ _ _ (T5.setTop (mkF m 41 #[vR p0, vI p1] [(.int (2 : Int32)), (.ref p0), (.int (1 : Int32)), (.ref cu)]))
  obtain ⟨T6, h6, X6, e6, W6, st6⟩ := putF X5 hx hZ hown (host := "") (Or.inl (wk hw 109 rfl)) Via.refl e5 H8 H0 (Or.inl (wk hw 110 rfl)) (wk hw 29 rfl) (ty := .int) (by decide) rfl rfl (g := (mkF m 41 #[vR p0, vI p1] [(.int (2 : Int32)), (.ref p0), (.int (1 : Int32)), (.ref cu)])) rfl rfl (hb hby d10_41)
  have F7 := H0.wr W6
  have F8 := H1.other W6 (Or.inr (slot_ne (Or.inr (wk hw 35 rfl)) (Or.inl (wk hw 110 rfl)) (by decide) (t := (.object "com/example/onward/onward/check/RequirementRows")) (t' := .int) (by decide) (by decide)))
  have F9 := H2.other W6 (Or.inr (slot_ne (Or.inr (wk hw 39 rfl)) (Or.inl (wk hw 110 rfl)) (by decide) (t := (.array .long)) (t' := .int) (by decide) (by decide)))
  have F10 := H3.other W6 (Or.inr (slot_ne (Or.inl (wk hw 42 rfl)) (Or.inl (wk hw 110 rfl)) (by decide) (t := (.array .int)) (t' := .int) (by decide) (by decide)))
  have F11 := H4.other W6 (Or.inr (slot_ne (Or.inr (wk hw 44 rfl)) (Or.inl (wk hw 110 rfl)) (by decide) (t := .int) (t' := .int) (by decide) (by decide)))
  have F12 := H5.other W6 (Or.inr (slot_ne (Or.inr (wk hw 46 rfl)) (Or.inl (wk hw 110 rfl)) (by decide) (t := .int) (t' := .int) (by decide) (by decide)))
  have F13 := H6.other W6 (Or.inr (slot_ne (Or.inl (wk hw 48 rfl)) (Or.inl (wk hw 110 rfl)) (by decide) (t := .int) (t' := .int) (by decide) (by decide)))
  have F14 := H7.other W6 (Or.inr (slot_ne (Or.inr (wk hw 51 rfl)) (Or.inl (wk hw 110 rfl)) (by decide) (t := (.object "com/example/onward/onward/lts/IntBlocks")) (t' := .int) (by decide) (by decide)))
  have F15 : Fld Z h6 p0 cP "currentCount" "I" (.int (2 : Int32)) := H8.same W6
  have F16 := H9.other W6 (Ne.symm H12)
  have F17 := Nat.le_trans Z0 (Keep.of_wr W6).1
  have F18 : Keep h0 h6 [p0, cu] := (Keep.refl h0 [p0, cu]).wr W6 (Or.inl (List.mem_of_getElem? (i := 0) rfl))
  obtain ⟨Lo6, Y6, N6⟩ := pk X6 (Fr.snoc X6 N0 H10)
  refine Go.back st6 ?_
  refine Go.back (fun t k => XS.iloadN Y6.here hx rfl (hb hby d10_44) rfl  k) ?_
  obtain ⟨cl19, Ar19, hi19, -⟩ := F16.at (j := (1 : Int32)) (by decide) (Nat.le_of_ble_eq_true rfl)
  obtain ⟨T19, h19, X19, e19, W19, st19⟩ := stI Y6 hx hZ e6 Ar19 (j := (1 : Int32)) hi19 (g := (mkF m 45 #[vR p0, vI p1] [(.int p1), (.int (1 : Int32)), (.ref cu)])) rfl rfl (hb hby d10_45)
  have F20 := F7.wr W19
  have F21 := F8.other W19 (Or.inl H12)
  have F22 := F9.other W19 (Or.inl H12)
  have F23 := F10.other W19 (Or.inl H12)
  have F24 := F11.other W19 (Or.inl H12)
  have F25 := F12.other W19 (Or.inl H12)
  have F26 := F13.other W19 (Or.inl H12)
  have F27 := F14.other W19 (Or.inl H12)
  have F28 := F15.other W19 (Or.inl H12)
  have F29 : ArL Z h19 cu .int [(.int c0), (.int p1), (.int (0 : Int32)), (.int (0 : Int32)), (.int (0 : Int32)), (.int (0 : Int32)), (.int (0 : Int32)), (.int (0 : Int32)), (.int (0 : Int32)), (.int (0 : Int32)), (.int (0 : Int32)), (.int (0 : Int32)), (.int (0 : Int32)), (.int (0 : Int32)), (.int (0 : Int32)), (.int (0 : Int32))] := F16.set W19
  have F30 := Nat.le_trans F17 (Keep.of_wr W19).1
  have F31 := F18.wr W19 (Or.inl (List.mem_of_getElem? (i := 1) rfl))
  obtain ⟨Lo19, Y19, N19⟩ := pk X19 (Fr.snoc X19 N6 H11)
  refine Go.back st19 ?_
  show Go _ _ _ _ (T19.setTop (mkF m 46 #[vR p0, vI p1] []))
  exact Go.retV Y19 hx Bd.returns (hb hby d10_46) Bd.notSynchronized ⟨rfl, N19, (by rw [e19]; exact F31), (by rw [e19]; exact F21), (by rw [e19]; exact F22), (by rw [e19]; exact F23), (by rw [e19]; exact F24), (by rw [e19]; exact F25), (by rw [e19]; exact F26), (by rw [e19]; exact F27), (by rw [e19]; exact F28), (by rw [e19]; exact F29)⟩ (by decide) (by decide)
def Q37 (Z : State) (p0 : Addr) (p1 : Int32) (rr : Addr) (an : Addr) (cu : Addr) (li : Addr) (fi : Int32) (c0 : Int32) (c1 : Int32) (h0 : Heap) (n0 : Nat) (v : Option Value) (h : Heap) (L : List Loc) : Prop := v = none ∧ Fr n0 L ∧ Keep h0 h [p0, cu] ∧ Fld Z h p0 cP "this$0" dR (.ref rr) ∧ Fld Z h p0 cP "anywhere" "[J" (.ref an) ∧ Fld Z h p0 cP "current" "[I" (.ref cu) ∧ Fld Z h p0 cP "first" "I" (.int (0 : Int32)) ∧ Fld Z h p0 cP "end" "I" (.int (2 : Int32)) ∧ Fld Z h p0 cP "filling" "I" (.int fi) ∧ Fld Z h p0 cP "listed" dI (.ref li) ∧ Fld Z h p0 cP "currentCount" "I" (.int (2 : Int32)) ∧ ArL Z h cu .int [(.int c0), (.int p1), (.int (0 : Int32)), (.int (0 : Int32)), (.int (0 : Int32)), (.int (0 : Int32)), (.int (0 : Int32)), (.int (0 : Int32)), (.int (0 : Int32)), (.int (0 : Int32)), (.int (0 : Int32)), (.int (0 : Int32)), (.int (0 : Int32)), (.int (0 : Int32)), (.int (0 : Int32)), (.int (0 : Int32))]
abbrev rmm37 : Room := { frames := 1, cells := 0, slots := 0, locals := 13 }
abbrev P37 (Z : State) (p0 : Addr) (p1 : Int32) (rr : Addr) (an : Addr) (cu : Addr) (li : Addr) (fi : Int32) (c0 : Int32) (c1 : Int32) (h0 : Heap) (n0 : Nat) (s : State) : Outcome → State → Prop := fun o U' => ∃ v L, o = .returned v ∧ Q37 Z p0 p1 rr an cu li fi c0 c1 h0 n0 v U'.heap L ∧ FrameEnd s o U' L rmm37.cells rmm37.slots
theorem pn_37 : plainName "com/example/onward/onward/check/RequirementRows$Part" = true := by first | (simp [plainName, overriddenIn]; done) | decide +kernel
theorem ef_37 (m : MethodId) (p0 : Addr) (p1 : Int32) : entryFrame m #[(.ref p0), (.int p1)] 2 = mkF m 0 #[vR p0, vI p1] [] := by first | (simp [entryFrame, mkF, argsToLocals, Value.category]; done) | rfl
set_option maxRecDepth 65536 in
set_option maxHeartbeats 40000000 in
theorem rm37 (l : Launch) (Z : State) (a0 : Array Value) (hw : ∀ d ∈ tables_1, d.before a0 Z = true) (ws : List Jvm.Cond) (p0 : Addr) (p1 : Int32) (rr : Addr) (an : Addr) (cu : Addr) (li : Addr) (fi : Int32) (c0 : Int32) (c1 : Int32) (h0 : Heap) (n0 : Nat) (Z0 : n0 ≤ h0.size) (H0 : Exa Z h0 p0 cP) (H1 : Fld Z h0 p0 cP "this$0" dR (.ref rr)) (H2 : Fld Z h0 p0 cP "anywhere" "[J" (.ref an)) (H3 : Fld Z h0 p0 cP "current" "[I" (.ref cu)) (H4 : Fld Z h0 p0 cP "first" "I" (.int (0 : Int32))) (H5 : Fld Z h0 p0 cP "end" "I" (.int (2 : Int32))) (H6 : Fld Z h0 p0 cP "filling" "I" (.int fi)) (H7 : Fld Z h0 p0 cP "listed" dI (.ref li)) (H8 : Fld Z h0 p0 cP "currentCount" "I" (.int (1 : Int32))) (H9 : Fld Z h0 rr cR "rows" "[J" .null) (H10 : ArL Z h0 cu .int [(.int c0), (.int c1), (.int (0 : Int32)), (.int (0 : Int32)), (.int (0 : Int32)), (.int (0 : Int32)), (.int (0 : Int32)), (.int (0 : Int32)), (.int (0 : Int32)), (.int (0 : Int32)), (.int (0 : Int32)), (.int (0 : Int32)), (.int (0 : Int32)), (.int (0 : Int32)), (.int (0 : Int32)), (.int (0 : Int32))]) (H11 : n0 ≤ p0) (H12 : n0 ≤ cu) (H13 : p0 ≠ cu) (H14 : p0 ≠ rr) (H15 : cu ≠ rr) :
    MetFree l (⟨"com/example/onward/onward/check/RequirementRows$Part", "raise", "(I)V"⟩ : MethodName) (head1 (Jvm.Cond.code (⟨"com/example/onward/onward/check/RequirementRows$Part", "raise", "(I)V"⟩ : MethodName) prog_63_method_4_code 2 none :: ws) rmm37) (fun a U => a = #[(.ref p0), (.int p1)] ∧ Z.Warmed39 U.vm ∧ U.heap = h0) (fun _ _ _ _ _ => True) (fun _ U o U' => ∃ v L, o = .returned v ∧ Q37 Z p0 p1 rr an cu li fi c0 c1 h0 n0 v U'.heap L ∧ FrameEnd U o U' L rmm37.cells rmm37.slots) := by
  refine MetFree.of_bodySF (plainFor_of_name pn_37) hisR ?_
  intro p e s m args below meth c s₁ Bd hml0 hP hK
  obtain ⟨rfl, hZ, hh⟩ := hP
  have hx := Bd.exec
  have hby := Bd.bytes
  have hml : c.maxLocals = 2 := hml0
  have hown : s.vm.findClass "com/example/onward/onward/check/RequirementRows$Part" = some m.cls := findClass_of_methodNamed Bd.named
  have hnm := (name_of_methodNamed Bd.named Bd.method).1
  have X0 : Stand p l e rmm37 s m #[(.ref p0), (.int p1)] below meth c s₁ [] 0 0 := Stand.of_body Bd
  have e0 : s₁.heap = h0 := by rw [← hh, Bd.state]; rfl
  have N0 := Fr.nil n0
  show Go p.tables e below (P37 Z p0 p1 rr an cu li fi c0 c1 h0 n0 s) (s₁.setTop (entryFrame m #[(.ref p0), (.int p1)] 2))
  refine Go.back (fun t k => castTop (ef_37 m p0 p1) k) ?_
  show Go p.tables e below (P37 Z p0 p1 rr an cu li fi c0 c1 h0 n0 s) (s₁.setTop (mkF m 0 #[vR p0, vI p1] []))
  refine Go.back (fun t k => XS.aloadN X0.here hx rfl (hb hby d8_0) rfl rfl  k) ?_
  obtain ⟨T1, X1, e1, st1⟩ := getF X0 hx hZ hown (host := "") (Or.inl (wk hw 34 rfl)) Via.refl e0 H1 (g := (mkF m 1 #[vR p0, vI p1] [(.ref p0)])) rfl rfl (hb hby d8_1)
  refine Go.back st1 ?_
  obtain ⟨T2, X2, e2, st2⟩ := getF X1 hx hZ hown (Or.inr (wk hw 49 rfl)) Via.refl e1 H9 (g := (mkF m 4 #[vR p0, vI p1] [(.ref rr)])) rfl rfl (hb hby d8_4)
  refine Go.back st2 ?_
  show Go _ _ _ _ (T2.setTop (mkF m 7 #[vR p0, vI p1] [.null]))
  refine Go.back (fun t k => XS.ifnullYes X2.here hx rfl (pc0 := 7) (pc' := 44) rfl (hb hby d8_7) rfl (by decide) (by decide) k) ?_
  show Go _ _ _ _ (T2.setTop (mkF m 44 #[vR p0, vI p1] []))
  refine Go.back (fun t k => XS.aloadN X2.here hx rfl (hb hby d8_44) rfl rfl  k) ?_
  refine Go.back (fun t k => XS.iloadN X2.here hx rfl (hb hby d8_45) rfl  k) ?_
  obtain ⟨cq3, q3, q3'⟩ := H0.cell
  obtain ⟨_, _, ⟨T3, L3, k3, n3⟩, -, X3, ⟨Lc3, hQ3, l3, y3, z3⟩, st3⟩ := X2.privateBack hx (y := (⟨"com/example/onward/onward/check/RequirementRows$Part", "list", "(I)V"⟩ : MethodName)) hown (mvT hZ (wk hw 105 rfl)) (mvT hZ (wk hw 106 rfl)) (own_selpriv (z := (⟨"com/example/onward/onward/check/RequirementRows$Part", "endState", "()V"⟩ : MethodName)) rfl (mvT hZ (wk hw 55 rfl)) (Cond.privateMethod_at (mvP hZ (wk hw 107 rfl) (args := #[]))) (mvT hZ (wk hw 106 rfl)) (by decide)) (Cond.privateMethod_at (mvP hZ (wk hw 107 rfl) (args := #[]))) (mvT hZ (wk hw 108 rfl)) (by decide) (backOf (W := 0) (rm36 l Z a0 hw [] p0 p1 rr an cu li fi c0 c1 h0 n0 Z0 H0 H1 H2 H3 H4 H5 H6 H7 H8 H10 H11 H12 H13) hZ (wk hw 108 rfl) (wk hw 30 rfl) (by decide) (by decide)) (g := (mkF m 46 #[vR p0, vI p1] [(.int p1), (.ref p0)])) rfl (by rw [hml]; rfl) (Steps.refl _) (a := p0) (by rw [e2]; exact q3) q3' (argsL := [(.int p1)]) (rest := []) (lenOf pd_4 rfl) rfl (by show 2 * 0 + _ ≤ _; exact Nat.le_of_eq rfl) (hb hby d8_46) (fun _ _ => ⟨rfl, e2, (by decide : 0 + 0 ≤ _), (by decide : 0 + 0 ≤ _)⟩)
  dsimp only [Pt.U, Pt.locs, Pt.cells, Pt.slots] at X3 l3 y3 z3 st3 hQ3
  subst l3 y3 z3
  obtain ⟨h3, e3⟩ : ∃ z, T3.heap = z := ⟨_, rfl⟩
  rw [e3] at hQ3
  obtain ⟨rfl, N3q, K3, F8, F9, F10, F11, F12, F13, F14, F15, F16⟩ := hQ3
  obtain ⟨Lo3, Y3, N3⟩ := pk X3 (Fr.app N0 N3q)
  have F4 := H0.keep K3
  have F5 := H9.keep K3 (ninS (Ne.symm H14) (ninS (Ne.symm H15) nin0))
  have F6 := Nat.le_trans Z0 K3.1
  have F7 : Keep h0 h3 [p0, cu] := (Keep.refl h0 [p0, cu]).trans K3 (allS (P := fun x => x ∈ [p0, cu] ∨ h0.size ≤ x) (Or.inl (List.mem_of_getElem? (i := 0) rfl)) (allS (P := fun x => x ∈ [p0, cu] ∨ h0.size ≤ x) (Or.inl (List.mem_of_getElem? (i := 1) rfl)) all0))
  refine Go.trans st3 ?_
  show Go _ _ _ _ (T3.setTop (mkF m 49 #[vR p0, vI p1] []))
  exact Go.retV Y3 hx Bd.returns (hb hby d8_49) Bd.notSynchronized ⟨rfl, N3, (by rw [e3]; exact F7), (by rw [e3]; exact F8), (by rw [e3]; exact F9), (by rw [e3]; exact F10), (by rw [e3]; exact F11), (by rw [e3]; exact F12), (by rw [e3]; exact F13), (by rw [e3]; exact F14), (by rw [e3]; exact F15), (by rw [e3]; exact F16)⟩ (by decide) (by decide)
theorem d11_0 : decode prog_63_method_8_code 0 = .ok (.aload_n 0, 1) := by decide +kernel
theorem d11_1 : decode prog_63_method_8_code 1 = .ok (.getfield 20, 3) := by decide +kernel
theorem d11_4 : decode prog_63_method_8_code 4 = .ok (.iconst 0, 1) := by decide +kernel
theorem d11_5 : decode prog_63_method_8_code 5 = .ok (.aload_n 0, 1) := by decide +kernel
theorem d11_6 : decode prog_63_method_8_code 6 = .ok (.getfield 55, 3) := by decide +kernel
theorem d11_9 : decode prog_63_method_8_code 9 = .ok (.invokestatic 78, 3) := by decide +kernel
theorem d11_12 : decode prog_63_method_8_code 12 = .ok (.iconst 0, 1) := by decide +kernel
theorem d11_13 : decode prog_63_method_8_code 13 = .ok (.istore_n 1, 1) := by decide +kernel
theorem d11_14 : decode prog_63_method_8_code 14 = .ok (.iload_n 1, 1) := by decide +kernel
theorem d11_15 : decode prog_63_method_8_code 15 = .ok (.aload_n 0, 1) := by decide +kernel
theorem d11_16 : decode prog_63_method_8_code 16 = .ok (.getfield 55, 3) := by decide +kernel
theorem d11_19 : decode prog_63_method_8_code 19 = .ok (.if_icmp .ge 55, 3) := by decide +kernel
theorem d11_74 : decode prog_63_method_8_code 74 = .ok (.aload_n 0, 1) := by decide +kernel
theorem d11_75 : decode prog_63_method_8_code 75 = .ok (.iconst 0, 1) := by decide +kernel
theorem d11_76 : decode prog_63_method_8_code 76 = .ok (.putfield 55, 3) := by decide +kernel
theorem d11_79 : decode prog_63_method_8_code 79 = .ok (.aload_n 0, 1) := by decide +kernel
theorem d11_80 : decode prog_63_method_8_code 80 = .ok (.getfield 3, 3) := by decide +kernel
theorem d11_83 : decode prog_63_method_8_code 83 = .ok (.getfield 85, 3) := by decide +kernel
theorem d11_86 : decode prog_63_method_8_code 86 = .ok (.aload_n 0, 1) := by decide +kernel
theorem d11_87 : decode prog_63_method_8_code 87 = .ok (.getfield 31, 3) := by decide +kernel
theorem d11_90 : decode prog_63_method_8_code 90 = .ok (.iconst 1, 1) := by decide +kernel
theorem d11_91 : decode prog_63_method_8_code 91 = .ok (.iadd, 1) := by decide +kernel
theorem d11_92 : decode prog_63_method_8_code 92 = .ok (.aload_n 0, 1) := by decide +kernel
theorem d11_93 : decode prog_63_method_8_code 93 = .ok (.getfield 44, 3) := by decide +kernel
theorem d11_96 : decode prog_63_method_8_code 96 = .ok (.invokevirtual 88, 3) := by decide +kernel
theorem d11_99 : decode prog_63_method_8_code 99 = .ok (.iastore, 1) := by decide +kernel
theorem d11_100 : decode prog_63_method_8_code 100 = .ok (.return_, 1) := by decide +kernel
def Q38 (Z : State) (p0 : Addr) (rr : Addr) (cu : Addr) (an : Addr) (ss : Addr) (li : Addr) (ob : Addr) (bl : Addr) (c0 : Int32) (c1 : Int32) (sz : Int32) (s0 : Int32) (s1 : Int32) (s2 : Int32) (ys : List Int64) (bs : List Int32) (h0 : Heap) (n0 : Nat) (v : Option Value) (h : Heap) (L : List Loc) : Prop := v = none ∧ Fr n0 L ∧ Keep h0 h [p0, cu, an, ss, li, bl] ∧ Fld Z h p0 cP "this$0" dR (.ref rr) ∧ Fld Z h p0 cP "anywhere" "[J" (.ref an) ∧ Fld Z h p0 cP "current" "[I" (.ref cu) ∧ Fld Z h p0 cP "first" "I" (.int (0 : Int32)) ∧ Fld Z h p0 cP "end" "I" (.int (2 : Int32)) ∧ Fld Z h p0 cP "filling" "I" (.int (0 : Int32)) ∧ Fld Z h p0 cP "listed" dI (.ref li) ∧ Fld Z h p0 cP "currentCount" "I" (.int (0 : Int32)) ∧ Fld Z h li cI "size" "I" (.int sz) ∧ Fld Z h li cI "blocks" "[[I" (.ref ob) ∧ ArL Z h cu .int [(.int c0), (.int c1), (.int (0 : Int32)), (.int (0 : Int32)), (.int (0 : Int32)), (.int (0 : Int32)), (.int (0 : Int32)), (.int (0 : Int32)), (.int (0 : Int32)), (.int (0 : Int32)), (.int (0 : Int32)), (.int (0 : Int32)), (.int (0 : Int32)), (.int (0 : Int32)), (.int (0 : Int32)), (.int (0 : Int32))] ∧ ArL Z h ss .int [(.int s0), (.int sz), (.int s2)] ∧ (∃ G : List Int64, G.length = ys.length ∧ ArL Z h an .long (List.map Value.long G)) ∧ (∃ B : List Int32, B.length = 16 ∧ ArL Z h bl .int (List.map Value.int B))
abbrev rmm38 : Room := { frames := 4, cells := 0, slots := 0, locals := 81 }
abbrev P38 (Z : State) (p0 : Addr) (rr : Addr) (cu : Addr) (an : Addr) (ss : Addr) (li : Addr) (ob : Addr) (bl : Addr) (c0 : Int32) (c1 : Int32) (sz : Int32) (s0 : Int32) (s1 : Int32) (s2 : Int32) (ys : List Int64) (bs : List Int32) (h0 : Heap) (n0 : Nat) (s : State) : Outcome → State → Prop := fun o U' => ∃ v L, o = .returned v ∧ Q38 Z p0 rr cu an ss li ob bl c0 c1 sz s0 s1 s2 ys bs h0 n0 v U'.heap L ∧ FrameEnd s o U' L rmm38.cells rmm38.slots
theorem pn_38 : plainName "com/example/onward/onward/check/RequirementRows$Part" = true := by first | (simp [plainName, overriddenIn]; done) | decide +kernel
theorem ef_38 (m : MethodId) (p0 : Addr) : entryFrame m #[(.ref p0)] 3 = mkF m 0 #[vR p0, uS, uS] [] := by first | (simp [entryFrame, mkF, argsToLocals, Value.category]; done) | rfl
set_option maxRecDepth 65536 in
set_option maxHeartbeats 40000000 in
theorem rm38 (l : Launch) (Z : State) (a0 : Array Value) (hw : ∀ d ∈ tables_1, d.before a0 Z = true) (ws : List Jvm.Cond) (p0 : Addr) (rr : Addr) (cu : Addr) (an : Addr) (ss : Addr) (li : Addr) (ob : Addr) (bl : Addr) (c0 : Int32) (c1 : Int32) (sz : Int32) (s0 : Int32) (s1 : Int32) (s2 : Int32) (ys : List Int64) (bs : List Int32) (h0 : Heap) (n0 : Nat) (Z0 : n0 ≤ h0.size) (H0 : Exa Z h0 p0 cP) (H1 : Fld Z h0 p0 cP "this$0" dR (.ref rr)) (H2 : Fld Z h0 p0 cP "anywhere" "[J" (.ref an)) (H3 : Fld Z h0 p0 cP "current" "[I" (.ref cu)) (H4 : Fld Z h0 p0 cP "first" "I" (.int (0 : Int32))) (H5 : Fld Z h0 p0 cP "end" "I" (.int (2 : Int32))) (H6 : Fld Z h0 p0 cP "filling" "I" (.int (0 : Int32))) (H7 : Fld Z h0 p0 cP "listed" dI (.ref li)) (H8 : Fld Z h0 p0 cP "currentCount" "I" (.int (0 : Int32))) (H9 : Fld Z h0 rr cR "rows" "[J" .null) (H10 : Fld Z h0 rr cR "starts" "[I" (.ref ss)) (H11 : ArL Z h0 cu .int [(.int c0), (.int c1), (.int (0 : Int32)), (.int (0 : Int32)), (.int (0 : Int32)), (.int (0 : Int32)), (.int (0 : Int32)), (.int (0 : Int32)), (.int (0 : Int32)), (.int (0 : Int32)), (.int (0 : Int32)), (.int (0 : Int32)), (.int (0 : Int32)), (.int (0 : Int32)), (.int (0 : Int32)), (.int (0 : Int32))]) (H12 : ArL Z h0 an .long (List.map Value.long ys)) (H13 : ArL Z h0 ss .int [(.int s0), (.int s1), (.int s2)]) (H14 : Exa Z h0 li cI) (H15 : Fld Z h0 li cI "size" "I" (.int sz)) (H16 : Fld Z h0 li cI "blocks" "[[I" (.ref ob)) (H17 : ArL Z h0 ob (.array .int) [(.ref bl)]) (H18 : ArL Z h0 bl .int (List.map Value.int bs)) (H19 : n0 ≤ p0) (H20 : n0 ≤ cu) (H21 : n0 ≤ an) (H22 : n0 ≤ ss) (H23 : n0 ≤ li) (H24 : n0 ≤ bl) (H25 : p0 ≠ rr) (H26 : p0 ≠ cu) (H27 : p0 ≠ an) (H28 : p0 ≠ ss) (H29 : p0 ≠ li) (H30 : p0 ≠ ob) (H31 : p0 ≠ bl) (H32 : rr ≠ cu) (H33 : rr ≠ an) (H34 : rr ≠ ss) (H35 : rr ≠ li) (H36 : rr ≠ ob) (H37 : rr ≠ bl) (H38 : cu ≠ an) (H39 : cu ≠ ss) (H40 : cu ≠ li) (H41 : cu ≠ ob) (H42 : cu ≠ bl) (H43 : an ≠ ss) (H44 : an ≠ li) (H45 : an ≠ ob) (H46 : an ≠ bl) (H47 : ss ≠ li) (H48 : ss ≠ ob) (H49 : ss ≠ bl) (H50 : li ≠ ob) (H51 : li ≠ bl) (H52 : ob ≠ bl) (hsz : own_sz 2 sz) (hbs : bs.length = 16) (hy8 : ys.length ≤ 8) :
    MetFree l (⟨"com/example/onward/onward/check/RequirementRows$Part", "endList", "()V"⟩ : MethodName) (head1 (Jvm.Cond.code (⟨"com/example/onward/onward/check/RequirementRows$Part", "endList", "()V"⟩ : MethodName) prog_63_method_8_code 3 none :: ws) rmm38) (fun a U => a = #[(.ref p0)] ∧ Z.Warmed39 U.vm ∧ U.heap = h0) (fun _ _ _ _ _ => True) (fun _ U o U' => ∃ v L, o = .returned v ∧ Q38 Z p0 rr cu an ss li ob bl c0 c1 sz s0 s1 s2 ys bs h0 n0 v U'.heap L ∧ FrameEnd U o U' L rmm38.cells rmm38.slots) := by
  refine MetFree.of_bodySF (plainFor_of_name pn_38) hisR ?_
  intro p e s m args below meth c s₁ Bd hml0 hP hK
  obtain ⟨rfl, hZ, hh⟩ := hP
  have hx := Bd.exec
  have hby := Bd.bytes
  have hml : c.maxLocals = 3 := hml0
  have hown : s.vm.findClass "com/example/onward/onward/check/RequirementRows$Part" = some m.cls := findClass_of_methodNamed Bd.named
  have hnm := (name_of_methodNamed Bd.named Bd.method).1
  have X0 : Stand p l e rmm38 s m #[(.ref p0)] below meth c s₁ [] 0 0 := Stand.of_body Bd
  have e0 : s₁.heap = h0 := by rw [← hh, Bd.state]; rfl
  have N0 := Fr.nil n0
  show Go p.tables e below (P38 Z p0 rr cu an ss li ob bl c0 c1 sz s0 s1 s2 ys bs h0 n0 s) (s₁.setTop (entryFrame m #[(.ref p0)] 3))
  refine Go.back (fun t k => castTop (ef_38 m p0) k) ?_
  show Go p.tables e below (P38 Z p0 rr cu an ss li ob bl c0 c1 sz s0 s1 s2 ys bs h0 n0 s) (s₁.setTop (mkF m 0 #[vR p0, uS, uS] []))
  refine Go.back (fun t k => XS.aloadN X0.here hx rfl (hb hby d11_0) rfl rfl  k) ?_
  obtain ⟨T1, X1, e1, st1⟩ := getF X0 hx hZ hown (host := "") (Or.inl (wk hw 41 rfl)) Via.refl e0 H3 (g := (mkF m 1 #[vR p0, uS, uS] [(.ref p0)])) rfl rfl (hb hby d11_1)
  refine Go.back st1 ?_
  refine Go.back (fun t k => XS.iconst X1.here hx rfl (hb hby d11_4) k) ?_
  refine Go.back (fun t k => XS.aloadN X1.here hx rfl (hb hby d11_5) rfl rfl  k) ?_
  show Go _ _ _ _ (T1.setTop (mkF m 6 #[vR p0, uS, uS] [(.ref p0), (.int (0 : Int32)), (.ref cu)]))
  obtain ⟨T2, X2, e2, st2⟩ := getF X1 hx hZ hown (host := "") (Or.inl (wk hw 109 rfl)) Via.refl e1 H8 (g := (mkF m 6 #[vR p0, uS, uS] [(.ref p0), (.int (0 : Int32)), (.ref cu)])) rfl rfl (hb hby d11_6)
  refine Go.back st2 ?_
  obtain ⟨_, _, ⟨T3, L3, k3, n3⟩, -, X3, ⟨Lc3, hQ3, l3, y3, z3⟩, st3⟩ := Jvm.LawKit.callS X2 hx (y := (⟨"java/util/Arrays", "sort", "([III)V"⟩ : MethodName)) hown (mvT hZ (wk hw 115 rfl)) (mvT hZ (wk hw 116 rfl)) (mvT hZ (wk hw 117 rfl)) (mvT hZ (wk hw 118 rfl)) (by decide) (backOf (W := 0) (rm23 l Z a0 hw [] cu c0 c1 h0 n0 Z0 H11 H20) hZ (wk hw 118 rfl) (wk hw 117 rfl) (by decide) (by decide)) (g := (mkF m 9 #[vR p0, uS, uS] [(.int (0 : Int32)), (.int (0 : Int32)), (.ref cu)])) rfl (by rw [hml]; rfl) (argsL := [(.ref cu), (.int (0 : Int32)), (.int (0 : Int32))]) (rest := []) (lenOf pd_0 rfl) rfl (by show 2 * 0 + _ ≤ _; exact Nat.le_of_eq rfl) (hb hby d11_9) (fun _ _ => ⟨rfl, e2, (by decide : 0 + 0 ≤ _), (by decide : 0 + 0 ≤ _)⟩)
  dsimp only [Pt.U, Pt.locs, Pt.cells, Pt.slots] at X3 l3 y3 z3 st3 hQ3
  subst l3 y3 z3
  obtain ⟨h3, e3⟩ : ∃ z, T3.heap = z := ⟨_, rfl⟩
  rw [e3] at hQ3
  obtain ⟨rfl, N3q, K3, F24⟩ := hQ3
  obtain ⟨Lo3, Y3, N3⟩ := pk X3 (Fr.app N0 N3q)
  have F4 := H0.keep K3
  have F5 := H1.keep K3 (ninS H26 nin0)
  have F6 := H2.keep K3 (ninS H26 nin0)
  have F7 := H3.keep K3 (ninS H26 nin0)
  have F8 := H4.keep K3 (ninS H26 nin0)
  have F9 := H5.keep K3 (ninS H26 nin0)
  have F10 := H6.keep K3 (ninS H26 nin0)
  have F11 := H7.keep K3 (ninS H26 nin0)
  have F12 := H8.keep K3 (ninS H26 nin0)
  have F13 := H9.keep K3 (ninS H32 nin0)
  have F14 := H10.keep K3 (ninS H32 nin0)
  have F15 := H12.keep K3 (ninS (Ne.symm H38) nin0)
  have F16 := H13.keep K3 (ninS (Ne.symm H39) nin0)
  have F17 := H14.keep K3
  have F18 := H15.keep K3 (ninS (Ne.symm H40) nin0)
  have F19 := H16.keep K3 (ninS (Ne.symm H40) nin0)
  have F20 := H17.keep K3 (ninS (Ne.symm H41) nin0)
  have F21 := H18.keep K3 (ninS (Ne.symm H42) nin0)
  have F22 := Nat.le_trans Z0 K3.1
  have F23 : Keep h0 h3 [p0, cu, an, ss, li, bl] := (Keep.refl h0 [p0, cu, an, ss, li, bl]).trans K3 (allS (P := fun x => x ∈ [p0, cu, an, ss, li, bl] ∨ h0.size ≤ x) (Or.inl (List.mem_of_getElem? (i := 1) rfl)) all0)
  refine Go.back st3 ?_
  show Go _ _ _ _ (T3.setTop (mkF m 12 #[vR p0, uS, uS] []))
  refine Go.back (fun t k => XS.iconst Y3.here hx rfl (hb hby d11_12) k) ?_
  refine Go.back (fun t k => XS.istoreN Y3.here hx rfl (hb hby d11_13) rfl (l' := #[vR p0, vI (0 : Int32), uS]) rfl k) ?_
  show Go _ _ _ _ (T3.setTop (mkF m 14 #[vR p0, vI (0 : Int32), uS] []))
  refine Go.back (fun t k => XS.iloadN Y3.here hx rfl (hb hby d11_14) rfl  k) ?_
  refine Go.back (fun t k => XS.aloadN Y3.here hx rfl (hb hby d11_15) rfl rfl  k) ?_
  obtain ⟨T25, X25, e25, st25⟩ := getF Y3 hx hZ hown (host := "") (Or.inl (wk hw 109 rfl)) Via.refl e3 F12 (g := (mkF m 16 #[vR p0, vI (0 : Int32), uS] [(.ref p0), (.int (0 : Int32))])) rfl rfl (hb hby d11_16)
  refine Go.back st25 ?_
  show Go _ _ _ _ (T25.setTop (mkF m 19 #[vR p0, vI (0 : Int32), uS] [(.int (0 : Int32)), (.int (0 : Int32))]))
  refine Go.back (fun t k => XS.icmpYes X25.here hx rfl (pc0 := 19) (pc' := 74) rfl (hb hby d11_19) rfl (flt (by decide)).2.1 (by decide) (by decide) k) ?_
  show Go _ _ _ _ (T25.setTop (mkF m 74 #[vR p0, vI (0 : Int32), uS] []))
  refine Go.back (fun t k => XS.aloadN X25.here hx rfl (hb hby d11_74) rfl rfl  k) ?_
  refine Go.back (fun t k => XS.iconst X25.here hx rfl (hb hby d11_75) k) ?_
  obtain ⟨T26, h26, X26, e26, W26, st26⟩ := putF X25 hx hZ hown (host := "") (Or.inl (wk hw 109 rfl)) Via.refl e25 F12 F4 (Or.inl (wk hw 110 rfl)) (wk hw 29 rfl) (ty := .int) (by decide) rfl rfl (g := (mkF m 76 #[vR p0, vI (0 : Int32), uS] [(.int (0 : Int32)), (.ref p0)])) rfl rfl (hb hby d11_76)
  have F27 := F4.wr W26
  have F28 := F5.other W26 (Or.inr (slot_ne (Or.inr (wk hw 35 rfl)) (Or.inl (wk hw 110 rfl)) (by decide) (t := (.object "com/example/onward/onward/check/RequirementRows")) (t' := .int) (by decide) (by decide)))
  have F29 := F6.other W26 (Or.inr (slot_ne (Or.inr (wk hw 39 rfl)) (Or.inl (wk hw 110 rfl)) (by decide) (t := (.array .long)) (t' := .int) (by decide) (by decide)))
  have F30 := F7.other W26 (Or.inr (slot_ne (Or.inl (wk hw 42 rfl)) (Or.inl (wk hw 110 rfl)) (by decide) (t := (.array .int)) (t' := .int) (by decide) (by decide)))
  have F31 := F8.other W26 (Or.inr (slot_ne (Or.inr (wk hw 44 rfl)) (Or.inl (wk hw 110 rfl)) (by decide) (t := .int) (t' := .int) (by decide) (by decide)))
  have F32 := F9.other W26 (Or.inr (slot_ne (Or.inr (wk hw 46 rfl)) (Or.inl (wk hw 110 rfl)) (by decide) (t := .int) (t' := .int) (by decide) (by decide)))
  have F33 := F10.other W26 (Or.inr (slot_ne (Or.inl (wk hw 48 rfl)) (Or.inl (wk hw 110 rfl)) (by decide) (t := .int) (t' := .int) (by decide) (by decide)))
  have F34 := F11.other W26 (Or.inr (slot_ne (Or.inr (wk hw 51 rfl)) (Or.inl (wk hw 110 rfl)) (by decide) (t := (.object "com/example/onward/onward/lts/IntBlocks")) (t' := .int) (by decide) (by decide)))
  have F35 := F12.same W26
  have F36 := F13.other W26 (Or.inl (Ne.symm H25))
  have F37 := F14.other W26 (Or.inl (Ne.symm H25))
  have F38 := F15.other W26 (Ne.symm H27)
  have F39 := F16.other W26 (Ne.symm H28)
  have F40 := F17.wr W26
  have F41 := F18.other W26 (Or.inl (Ne.symm H29))
  have F42 := F19.other W26 (Or.inl (Ne.symm H29))
  have F43 := F20.other W26 (Ne.symm H30)
  have F44 := F21.other W26 (Ne.symm H31)
  have F45 := Nat.le_trans F22 (Keep.of_wr W26).1
  have F46 := F23.wr W26 (Or.inl (List.mem_of_getElem? (i := 0) rfl))
  have F47 := F24.other W26 (Ne.symm H26)
  obtain ⟨Lo26, Y26, N26⟩ := pk X26 (Fr.snoc X26 N3 H19)
  refine Go.back st26 ?_
  refine Go.back (fun t k => XS.aloadN Y26.here hx rfl (hb hby d11_79) rfl rfl  k) ?_
  show Go _ _ _ _ (T26.setTop (mkF m 80 #[vR p0, vI (0 : Int32), uS] [(.ref p0)]))
  obtain ⟨T48, X48, e48, st48⟩ := getF Y26 hx hZ hown (host := "") (Or.inl (wk hw 34 rfl)) Via.refl e26 F28 (g := (mkF m 80 #[vR p0, vI (0 : Int32), uS] [(.ref p0)])) rfl rfl (hb hby d11_80)
  refine Go.back st48 ?_
  obtain ⟨T49, X49, e49, st49⟩ := getF X48 hx hZ hown (Or.inr (wk hw 141 rfl)) Via.refl e48 F37 (g := (mkF m 83 #[vR p0, vI (0 : Int32), uS] [(.ref rr)])) rfl rfl (hb hby d11_83)
  refine Go.back st49 ?_
  refine Go.back (fun t k => XS.aloadN X49.here hx rfl (hb hby d11_86) rfl rfl  k) ?_
  obtain ⟨T50, X50, e50, st50⟩ := getF X49 hx hZ hown (host := "") (Or.inl (wk hw 47 rfl)) Via.refl e49 F33 (g := (mkF m 87 #[vR p0, vI (0 : Int32), uS] [(.ref p0), (.ref ss)])) rfl rfl (hb hby d11_87)
  refine Go.back st50 ?_
  show Go _ _ _ _ (T50.setTop (mkF m 90 #[vR p0, vI (0 : Int32), uS] [(.int (0 : Int32)), (.ref ss)]))
  refine Go.back (fun t k => XS.iconst X50.here hx rfl (hb hby d11_90) k) ?_
  refine Go.back (fun t k => XS.iadd X50.here hx rfl (hb hby d11_91) rfl k) ?_
  refine Go.back (fun t k => XS.aloadN X50.here hx rfl (hb hby d11_92) rfl rfl  k) ?_
  obtain ⟨T51, X51, e51, st51⟩ := getF X50 hx hZ hown (host := "") (Or.inl (wk hw 50 rfl)) Via.refl e50 F34 (g := (mkF m 93 #[vR p0, vI (0 : Int32), uS] [(.ref p0), (.int ((0 : Int32) + (1 : Int32))), (.ref ss)])) rfl rfl (hb hby d11_93)
  refine Go.back st51 ?_
  show Go _ _ _ _ (T51.setTop (mkF m 96 #[vR p0, vI (0 : Int32), uS] [(.ref li), (.int ((0 : Int32) + (1 : Int32))), (.ref ss)]))
  obtain ⟨cq52, kq52, q52a, q52b, q52c⟩ := isOf hZ e51 F40
  obtain ⟨_, _, ⟨T52, L52, k52, n52⟩, -, X52, ⟨Lc52, hQ52, l52, y52, z52⟩, st52⟩ := X51.virtualBack hx (y := (⟨"com/example/onward/onward/lts/IntBlocks", "size", "()I"⟩ : MethodName)) (z := (⟨"com/example/onward/onward/lts/IntBlocks", "size", "()I"⟩ : MethodName)) hown (mvT hZ (wk hw 142 rfl)) (mvT hZ (wk hw 143 rfl)) (notFace_of_selects (args := #[]) (mvT hZ (wk hw 145 rfl))) (mvT hZ (wk hw 145 rfl)) (mvT hZ (wk hw 144 rfl)) (by decide) (backOf (W := 2) (rm18 l Z a0 hw [] li sz h26 n0 F45 F41) hZ (wk hw 146 rfl) (wk hw 82 rfl) (by decide) (by decide)) q52a q52c (g := (mkF m 96 #[vR p0, vI (0 : Int32), uS] [(.ref li), (.int ((0 : Int32) + (1 : Int32))), (.ref ss)])) rfl (by rw [hml]; rfl) (Steps.refl _) (argsL := []) (rest := [(.int ((0 : Int32) + (1 : Int32))), (.ref ss)]) (lenOf pd_5 rfl) rfl (by show 2 * 0 + _ ≤ _; exact Nat.le_of_eq rfl) (hb hby d11_96) (fun _ _ => ⟨rfl, e51, (by decide : 0 + 0 ≤ _), (by decide : 0 + 0 ≤ _)⟩)
  dsimp only [Pt.U, Pt.locs, Pt.cells, Pt.slots] at X52 l52 y52 z52 st52 hQ52
  subst l52 y52 z52
  obtain ⟨rfl, N52q, e52⟩ := hQ52
  obtain ⟨Lo52, Y52, N52⟩ := pk X52 (Fr.app N26 N52q)
  refine Go.trans st52 ?_
  show Go _ _ _ _ (T52.setTop (mkF m 99 #[vR p0, vI (0 : Int32), uS] [(.int sz), (.int ((0 : Int32) + (1 : Int32))), (.ref ss)]))
  rw [show ((0 : Int32) + (1 : Int32)) = (1 : Int32) from by decide]
  show Go _ _ _ _ (T52.setTop (mkF m 99 #[vR p0, vI (0 : Int32), uS] [(.int sz), (.int (1 : Int32)), (.ref ss)]))
  obtain ⟨cl53, Ar53, hi53, -⟩ := F39.at (j := (1 : Int32)) (by decide) (Nat.le_of_ble_eq_true rfl)
  obtain ⟨T53, h53, X53, e53, W53, st53⟩ := stI Y52 hx hZ e52 Ar53 (j := (1 : Int32)) hi53 (g := (mkF m 99 #[vR p0, vI (0 : Int32), uS] [(.int sz), (.int (1 : Int32)), (.ref ss)])) rfl rfl (hb hby d11_99)
  have F54 := F27.wr W53
  have F55 := F28.other W53 (Or.inl H28)
  have F56 := F29.other W53 (Or.inl H28)
  have F57 := F30.other W53 (Or.inl H28)
  have F58 := F31.other W53 (Or.inl H28)
  have F59 := F32.other W53 (Or.inl H28)
  have F60 := F33.other W53 (Or.inl H28)
  have F61 := F34.other W53 (Or.inl H28)
  have F62 := F35.other W53 (Or.inl H28)
  have F63 := F36.other W53 (Or.inl H34)
  have F64 := F37.other W53 (Or.inl H34)
  have F65 := F38.other W53 H43
  have F66 : ArL Z h53 ss .int [(.int s0), (.int sz), (.int s2)] := F39.set W53
  have F67 := F40.wr W53
  have F68 := F41.other W53 (Or.inl (Ne.symm H47))
  have F69 := F42.other W53 (Or.inl (Ne.symm H47))
  have F70 := F43.other W53 (Ne.symm H48)
  have F71 := F44.other W53 (Ne.symm H49)
  have F72 := Nat.le_trans F45 (Keep.of_wr W53).1
  have F73 := F46.wr W53 (Or.inl (List.mem_of_getElem? (i := 3) rfl))
  have F74 := F47.other W53 H39
  obtain ⟨Lo53, Y53, N53⟩ := pk X53 (Fr.snoc X53 N52 H22)
  refine Go.back st53 ?_
  show Go _ _ _ _ (T53.setTop (mkF m 100 #[vR p0, vI (0 : Int32), uS] []))
  exact Go.retV Y53 hx Bd.returns (hb hby d11_100) Bd.notSynchronized ⟨rfl, N53, (by rw [e53]; exact F73), (by rw [e53]; exact F55), (by rw [e53]; exact F56), (by rw [e53]; exact F57), (by rw [e53]; exact F58), (by rw [e53]; exact F59), (by rw [e53]; exact F60), (by rw [e53]; exact F61), (by rw [e53]; exact F62), (by rw [e53]; exact F68), (by rw [e53]; exact F69), (by rw [e53]; exact F74), (by rw [e53]; exact F66), ⟨ys, by simp, by rw [e53]; exact F65⟩, ⟨bs, by simp [hbs], by rw [e53]; exact F71⟩⟩ (by decide) (by decide)
theorem d5_0 : decode prog_63_method_7_code 0 = .ok (.aload_n 0, 1) := by decide +kernel
theorem d5_1 : decode prog_63_method_7_code 1 = .ok (.getfield 3, 3) := by decide +kernel
theorem d5_4 : decode prog_63_method_7_code 4 = .ok (.getfield 34, 3) := by decide +kernel
theorem d5_7 : decode prog_63_method_7_code 7 = .ok (.ifnull 56, 3) := by decide +kernel
theorem d5_63 : decode prog_63_method_7_code 63 = .ok (.aload_n 0, 1) := by decide +kernel
theorem d5_64 : decode prog_63_method_7_code 64 = .ok (.invokevirtual 75, 3) := by decide +kernel
theorem d5_67 : decode prog_63_method_7_code 67 = .ok (.aload_n 0, 1) := by decide +kernel
theorem d5_68 : decode prog_63_method_7_code 68 = .ok (.dup, 1) := by decide +kernel
theorem d5_69 : decode prog_63_method_7_code 69 = .ok (.getfield 31, 3) := by decide +kernel
theorem d5_72 : decode prog_63_method_7_code 72 = .ok (.iconst 1, 1) := by decide +kernel
theorem d5_73 : decode prog_63_method_7_code 73 = .ok (.iadd, 1) := by decide +kernel
theorem d5_74 : decode prog_63_method_7_code 74 = .ok (.putfield 31, 3) := by decide +kernel
theorem d5_77 : decode prog_63_method_7_code 77 = .ok (.return_, 1) := by decide +kernel
def Q39 (Z : State) (p0 : Addr) (rr : Addr) (cu : Addr) (an : Addr) (ss : Addr) (li : Addr) (ob : Addr) (bl : Addr) (c0 : Int32) (c1 : Int32) (sz : Int32) (s0 : Int32) (s1 : Int32) (s2 : Int32) (ys : List Int64) (bs : List Int32) (h0 : Heap) (n0 : Nat) (v : Option Value) (h : Heap) (L : List Loc) : Prop := v = none ∧ Fr n0 L ∧ Keep h0 h [p0, cu, an, ss, li, bl] ∧ Fld Z h p0 cP "this$0" dR (.ref rr) ∧ Fld Z h p0 cP "anywhere" "[J" (.ref an) ∧ Fld Z h p0 cP "current" "[I" (.ref cu) ∧ Fld Z h p0 cP "first" "I" (.int (0 : Int32)) ∧ Fld Z h p0 cP "end" "I" (.int (2 : Int32)) ∧ Fld Z h p0 cP "filling" "I" (.int (1 : Int32)) ∧ Fld Z h p0 cP "listed" dI (.ref li) ∧ Fld Z h p0 cP "currentCount" "I" (.int (0 : Int32)) ∧ Fld Z h li cI "size" "I" (.int sz) ∧ Fld Z h li cI "blocks" "[[I" (.ref ob) ∧ ArL Z h cu .int [(.int c0), (.int c1), (.int (0 : Int32)), (.int (0 : Int32)), (.int (0 : Int32)), (.int (0 : Int32)), (.int (0 : Int32)), (.int (0 : Int32)), (.int (0 : Int32)), (.int (0 : Int32)), (.int (0 : Int32)), (.int (0 : Int32)), (.int (0 : Int32)), (.int (0 : Int32)), (.int (0 : Int32)), (.int (0 : Int32))] ∧ ArL Z h ss .int [(.int s0), (.int sz), (.int s2)] ∧ (∃ G : List Int64, G.length = ys.length ∧ ArL Z h an .long (List.map Value.long G)) ∧ (∃ B : List Int32, B.length = 16 ∧ ArL Z h bl .int (List.map Value.int B))
abbrev rmm39 : Room := { frames := 5, cells := 0, slots := 0, locals := 95 }
abbrev P39 (Z : State) (p0 : Addr) (rr : Addr) (cu : Addr) (an : Addr) (ss : Addr) (li : Addr) (ob : Addr) (bl : Addr) (c0 : Int32) (c1 : Int32) (sz : Int32) (s0 : Int32) (s1 : Int32) (s2 : Int32) (ys : List Int64) (bs : List Int32) (h0 : Heap) (n0 : Nat) (s : State) : Outcome → State → Prop := fun o U' => ∃ v L, o = .returned v ∧ Q39 Z p0 rr cu an ss li ob bl c0 c1 sz s0 s1 s2 ys bs h0 n0 v U'.heap L ∧ FrameEnd s o U' L rmm39.cells rmm39.slots
theorem pn_39 : plainName "com/example/onward/onward/check/RequirementRows$Part" = true := by first | (simp [plainName, overriddenIn]; done) | decide +kernel
theorem ef_39 (m : MethodId) (p0 : Addr) : entryFrame m #[(.ref p0)] 2 = mkF m 0 #[vR p0, uS] [] := by first | (simp [entryFrame, mkF, argsToLocals, Value.category]; done) | rfl
set_option maxRecDepth 65536 in
set_option maxHeartbeats 40000000 in
theorem rm39 (l : Launch) (Z : State) (a0 : Array Value) (hw : ∀ d ∈ tables_1, d.before a0 Z = true) (ws : List Jvm.Cond) (p0 : Addr) (rr : Addr) (cu : Addr) (an : Addr) (ss : Addr) (li : Addr) (ob : Addr) (bl : Addr) (c0 : Int32) (c1 : Int32) (sz : Int32) (s0 : Int32) (s1 : Int32) (s2 : Int32) (ys : List Int64) (bs : List Int32) (h0 : Heap) (n0 : Nat) (Z0 : n0 ≤ h0.size) (H0 : Exa Z h0 p0 cP) (H1 : Fld Z h0 p0 cP "this$0" dR (.ref rr)) (H2 : Fld Z h0 p0 cP "anywhere" "[J" (.ref an)) (H3 : Fld Z h0 p0 cP "current" "[I" (.ref cu)) (H4 : Fld Z h0 p0 cP "first" "I" (.int (0 : Int32))) (H5 : Fld Z h0 p0 cP "end" "I" (.int (2 : Int32))) (H6 : Fld Z h0 p0 cP "filling" "I" (.int (0 : Int32))) (H7 : Fld Z h0 p0 cP "listed" dI (.ref li)) (H8 : Fld Z h0 p0 cP "currentCount" "I" (.int (0 : Int32))) (H9 : Fld Z h0 rr cR "rows" "[J" .null) (H10 : Fld Z h0 rr cR "starts" "[I" (.ref ss)) (H11 : ArL Z h0 cu .int [(.int c0), (.int c1), (.int (0 : Int32)), (.int (0 : Int32)), (.int (0 : Int32)), (.int (0 : Int32)), (.int (0 : Int32)), (.int (0 : Int32)), (.int (0 : Int32)), (.int (0 : Int32)), (.int (0 : Int32)), (.int (0 : Int32)), (.int (0 : Int32)), (.int (0 : Int32)), (.int (0 : Int32)), (.int (0 : Int32))]) (H12 : ArL Z h0 an .long (List.map Value.long ys)) (H13 : ArL Z h0 ss .int [(.int s0), (.int s1), (.int s2)]) (H14 : Exa Z h0 li cI) (H15 : Fld Z h0 li cI "size" "I" (.int sz)) (H16 : Fld Z h0 li cI "blocks" "[[I" (.ref ob)) (H17 : ArL Z h0 ob (.array .int) [(.ref bl)]) (H18 : ArL Z h0 bl .int (List.map Value.int bs)) (H19 : n0 ≤ p0) (H20 : n0 ≤ cu) (H21 : n0 ≤ an) (H22 : n0 ≤ ss) (H23 : n0 ≤ li) (H24 : n0 ≤ bl) (H25 : p0 ≠ rr) (H26 : p0 ≠ cu) (H27 : p0 ≠ an) (H28 : p0 ≠ ss) (H29 : p0 ≠ li) (H30 : p0 ≠ ob) (H31 : p0 ≠ bl) (H32 : rr ≠ cu) (H33 : rr ≠ an) (H34 : rr ≠ ss) (H35 : rr ≠ li) (H36 : rr ≠ ob) (H37 : rr ≠ bl) (H38 : cu ≠ an) (H39 : cu ≠ ss) (H40 : cu ≠ li) (H41 : cu ≠ ob) (H42 : cu ≠ bl) (H43 : an ≠ ss) (H44 : an ≠ li) (H45 : an ≠ ob) (H46 : an ≠ bl) (H47 : ss ≠ li) (H48 : ss ≠ ob) (H49 : ss ≠ bl) (H50 : li ≠ ob) (H51 : li ≠ bl) (H52 : ob ≠ bl) (hsz : own_sz 2 sz) (hbs : bs.length = 16) (hy8 : ys.length ≤ 8) :
    MetFree l (⟨"com/example/onward/onward/check/RequirementRows$Part", "endState", "()V"⟩ : MethodName) (head1 (Jvm.Cond.code (⟨"com/example/onward/onward/check/RequirementRows$Part", "endState", "()V"⟩ : MethodName) prog_63_method_7_code 2 none :: ws) rmm39) (fun a U => a = #[(.ref p0)] ∧ Z.Warmed39 U.vm ∧ U.heap = h0) (fun _ _ _ _ _ => True) (fun _ U o U' => ∃ v L, o = .returned v ∧ Q39 Z p0 rr cu an ss li ob bl c0 c1 sz s0 s1 s2 ys bs h0 n0 v U'.heap L ∧ FrameEnd U o U' L rmm39.cells rmm39.slots) := by
  refine MetFree.of_bodySF (plainFor_of_name pn_39) hisR ?_
  intro p e s m args below meth c s₁ Bd hml0 hP hK
  obtain ⟨rfl, hZ, hh⟩ := hP
  have hx := Bd.exec
  have hby := Bd.bytes
  have hml : c.maxLocals = 2 := hml0
  have hown : s.vm.findClass "com/example/onward/onward/check/RequirementRows$Part" = some m.cls := findClass_of_methodNamed Bd.named
  have hnm := (name_of_methodNamed Bd.named Bd.method).1
  have X0 : Stand p l e rmm39 s m #[(.ref p0)] below meth c s₁ [] 0 0 := Stand.of_body Bd
  have e0 : s₁.heap = h0 := by rw [← hh, Bd.state]; rfl
  have N0 := Fr.nil n0
  show Go p.tables e below (P39 Z p0 rr cu an ss li ob bl c0 c1 sz s0 s1 s2 ys bs h0 n0 s) (s₁.setTop (entryFrame m #[(.ref p0)] 2))
  refine Go.back (fun t k => castTop (ef_39 m p0) k) ?_
  show Go p.tables e below (P39 Z p0 rr cu an ss li ob bl c0 c1 sz s0 s1 s2 ys bs h0 n0 s) (s₁.setTop (mkF m 0 #[vR p0, uS] []))
  refine Go.back (fun t k => XS.aloadN X0.here hx rfl (hb hby d5_0) rfl rfl  k) ?_
  obtain ⟨T1, X1, e1, st1⟩ := getF X0 hx hZ hown (host := "") (Or.inl (wk hw 34 rfl)) Via.refl e0 H1 (g := (mkF m 1 #[vR p0, uS] [(.ref p0)])) rfl rfl (hb hby d5_1)
  refine Go.back st1 ?_
  obtain ⟨T2, X2, e2, st2⟩ := getF X1 hx hZ hown (Or.inr (wk hw 49 rfl)) Via.refl e1 H9 (g := (mkF m 4 #[vR p0, uS] [(.ref rr)])) rfl rfl (hb hby d5_4)
  refine Go.back st2 ?_
  show Go _ _ _ _ (T2.setTop (mkF m 7 #[vR p0, uS] [.null]))
  refine Go.back (fun t k => XS.ifnullYes X2.here hx rfl (pc0 := 7) (pc' := 63) rfl (hb hby d5_7) rfl (by decide) (by decide) k) ?_
  show Go _ _ _ _ (T2.setTop (mkF m 63 #[vR p0, uS] []))
  refine Go.back (fun t k => XS.aloadN X2.here hx rfl (hb hby d5_63) rfl rfl  k) ?_
  obtain ⟨cq3, q3, q3'⟩ := H0.cell
  obtain ⟨_, _, ⟨T3, L3, k3, n3⟩, -, X3, ⟨Lc3, hQ3, l3, y3, z3⟩, st3⟩ := X2.privateBack hx (y := (⟨"com/example/onward/onward/check/RequirementRows$Part", "endList", "()V"⟩ : MethodName)) hown (mvT hZ (wk hw 111 rfl)) (mvT hZ (wk hw 112 rfl)) (own_selpriv (z := (⟨"com/example/onward/onward/check/RequirementRows$Part", "endState", "()V"⟩ : MethodName)) rfl (mvT hZ (wk hw 55 rfl)) (Cond.privateMethod_at (mvP hZ (wk hw 113 rfl) (args := #[]))) (mvT hZ (wk hw 112 rfl)) (by decide)) (Cond.privateMethod_at (mvP hZ (wk hw 113 rfl) (args := #[]))) (mvT hZ (wk hw 114 rfl)) (by decide) (backOf (W := 0) (rm38 l Z a0 hw [] p0 rr cu an ss li ob bl c0 c1 sz s0 s1 s2 ys bs h0 n0 Z0 H0 H1 H2 H3 H4 H5 H6 H7 H8 H9 H10 H11 H12 H13 H14 H15 H16 H17 H18 H19 H20 H21 H22 H23 H24 H25 H26 H27 H28 H29 H30 H31 H32 H33 H34 H35 H36 H37 H38 H39 H40 H41 H42 H43 H44 H45 H46 H47 H48 H49 H50 H51 H52 hsz hbs hy8) hZ (wk hw 114 rfl) (wk hw 30 rfl) (by decide) (by decide)) (g := (mkF m 64 #[vR p0, uS] [(.ref p0)])) rfl (by rw [hml]; rfl) (Steps.refl _) (a := p0) (by rw [e2]; exact q3) q3' (argsL := []) (rest := []) (lenOf pd_6 rfl) rfl (by show 2 * 0 + _ ≤ _; exact Nat.le_of_eq rfl) (hb hby d5_64) (fun _ _ => ⟨rfl, e2, (by decide : 0 + 0 ≤ _), (by decide : 0 + 0 ≤ _)⟩)
  dsimp only [Pt.U, Pt.locs, Pt.cells, Pt.slots] at X3 l3 y3 z3 st3 hQ3
  subst l3 y3 z3
  obtain ⟨h3, e3⟩ : ∃ z, T3.heap = z := ⟨_, rfl⟩
  rw [e3] at hQ3
  obtain ⟨rfl, N3q, K3, F11, F12, F13, F14, F15, F16, F17, F18, F19, F20, F21, F22, t23, t24⟩ := hQ3
  obtain ⟨Lo3, Y3, N3⟩ := pk X3 (Fr.app N0 N3q)
  have F4 := H0.keep K3
  have F5 := H9.keep K3 (ninS (Ne.symm H25) (ninS H32 (ninS H33 (ninS H34 (ninS H35 (ninS H37 nin0))))))
  have F6 := H10.keep K3 (ninS (Ne.symm H25) (ninS H32 (ninS H33 (ninS H34 (ninS H35 (ninS H37 nin0))))))
  have F7 := H14.keep K3
  have F8 := H17.keep K3 (ninS (Ne.symm H30) (ninS (Ne.symm H41) (ninS (Ne.symm H45) (ninS (Ne.symm H48) (ninS (Ne.symm H50) (ninS H52 nin0))))))
  have F9 := Nat.le_trans Z0 K3.1
  have F10 : Keep h0 h3 [p0, cu, an, ss, li, bl] := (Keep.refl h0 [p0, cu, an, ss, li, bl]).trans K3 (allS (P := fun x => x ∈ [p0, cu, an, ss, li, bl] ∨ h0.size ≤ x) (Or.inl (List.mem_of_getElem? (i := 0) rfl)) (allS (P := fun x => x ∈ [p0, cu, an, ss, li, bl] ∨ h0.size ≤ x) (Or.inl (List.mem_of_getElem? (i := 1) rfl)) (allS (P := fun x => x ∈ [p0, cu, an, ss, li, bl] ∨ h0.size ≤ x) (Or.inl (List.mem_of_getElem? (i := 2) rfl)) (allS (P := fun x => x ∈ [p0, cu, an, ss, li, bl] ∨ h0.size ≤ x) (Or.inl (List.mem_of_getElem? (i := 3) rfl)) (allS (P := fun x => x ∈ [p0, cu, an, ss, li, bl] ∨ h0.size ≤ x) (Or.inl (List.mem_of_getElem? (i := 4) rfl)) (allS (P := fun x => x ∈ [p0, cu, an, ss, li, bl] ∨ h0.size ≤ x) (Or.inl (List.mem_of_getElem? (i := 5) rfl)) all0))))))
  obtain ⟨G3, hG3, FG3⟩ := t23
  obtain ⟨B3, hB3, FB3⟩ := t24
  refine Go.trans st3 ?_
  show Go _ _ _ _ (T3.setTop (mkF m 67 #[vR p0, uS] []))
  refine Go.back (fun t k => XS.aloadN Y3.here hx rfl (hb hby d5_67) rfl rfl  k) ?_
  refine Go.back (fun t k => XS.dup Y3.here hx rfl (hb hby d5_68) rfl rfl k) ?_
  obtain ⟨T25, X25, e25, st25⟩ := getF Y3 hx hZ hown (host := "") (Or.inl (wk hw 47 rfl)) Via.refl e3 F16 (g := (mkF m 69 #[vR p0, uS] [(.ref p0), (.ref p0)])) rfl rfl (hb hby d5_69)
  refine Go.back st25 ?_
  refine Go.back (fun t k => XS.iconst X25.here hx rfl (hb hby d5_72) k) ?_
  show Go _ _ _ _ (T25.setTop (mkF m 73 #[vR p0, uS] [(.int (1 : Int32)), (.int (0 : Int32)), (.ref p0)]))
  refine Go.back (fun t k => XS.iadd X25.here hx rfl (hb hby d5_73) rfl k) ?_
  show Go _ _ _ _ (T25.setTop (mkF m 74 #[vR p0, uS] [(.int ((0 : Int32) + (1 : Int32))), (.ref p0)]))
  rw [show ((0 : Int32) + (1 : Int32)) = (1 : Int32) from by decide]
  show Go _ _ _ _ (T25.setTop (mkF m 74 #[vR p0, uS] [(.int (1 : Int32)), (.ref p0)]))
  obtain ⟨T26, h26, X26, e26, W26, st26⟩ := putF X25 hx hZ hown (host := "") (Or.inl (wk hw 47 rfl)) Via.refl e25 F16 F4 (Or.inl (wk hw 48 rfl)) (wk hw 29 rfl) (ty := .int) (by decide) rfl rfl (g := (mkF m 74 #[vR p0, uS] [(.int (1 : Int32)), (.ref p0)])) rfl rfl (hb hby d5_74)
  have F27 := F4.wr W26
  have F28 := F5.other W26 (Or.inl (Ne.symm H25))
  have F29 := F6.other W26 (Or.inl (Ne.symm H25))
  have F30 := F7.wr W26
  have F31 := F8.other W26 (Ne.symm H30)
  have F32 := Nat.le_trans F9 (Keep.of_wr W26).1
  have F33 := F10.wr W26 (Or.inl (List.mem_of_getElem? (i := 0) rfl))
  have F34 := F11.other W26 (Or.inr (slot_ne (Or.inr (wk hw 35 rfl)) (Or.inl (wk hw 48 rfl)) (by decide) (t := (.object "com/example/onward/onward/check/RequirementRows")) (t' := .int) (by decide) (by decide)))
  have F35 := F12.other W26 (Or.inr (slot_ne (Or.inr (wk hw 39 rfl)) (Or.inl (wk hw 48 rfl)) (by decide) (t := (.array .long)) (t' := .int) (by decide) (by decide)))
  have F36 := F13.other W26 (Or.inr (slot_ne (Or.inl (wk hw 42 rfl)) (Or.inl (wk hw 48 rfl)) (by decide) (t := (.array .int)) (t' := .int) (by decide) (by decide)))
  have F37 := F14.other W26 (Or.inr (slot_ne (Or.inr (wk hw 44 rfl)) (Or.inl (wk hw 48 rfl)) (by decide) (t := .int) (t' := .int) (by decide) (by decide)))
  have F38 := F15.other W26 (Or.inr (slot_ne (Or.inr (wk hw 46 rfl)) (Or.inl (wk hw 48 rfl)) (by decide) (t := .int) (t' := .int) (by decide) (by decide)))
  have F39 : Fld Z h26 p0 cP "filling" "I" (.int (1 : Int32)) := F16.same W26
  have F40 := F17.other W26 (Or.inr (slot_ne (Or.inr (wk hw 51 rfl)) (Or.inl (wk hw 48 rfl)) (by decide) (t := (.object "com/example/onward/onward/lts/IntBlocks")) (t' := .int) (by decide) (by decide)))
  have F41 := F18.other W26 (Or.inr (slot_ne (Or.inl (wk hw 110 rfl)) (Or.inl (wk hw 48 rfl)) (by decide) (t := .int) (t' := .int) (by decide) (by decide)))
  have F42 := F19.other W26 (Or.inl (Ne.symm H29))
  have F43 := F20.other W26 (Or.inl (Ne.symm H29))
  have F44 := F21.other W26 (Ne.symm H26)
  have F45 := F22.other W26 (Ne.symm H28)
  have F46 := FG3.other W26 (Ne.symm H27)
  have F47 := FB3.other W26 (Ne.symm H31)
  obtain ⟨Lo26, Y26, N26⟩ := pk X26 (Fr.snoc X26 N3 H19)
  refine Go.back st26 ?_
  show Go _ _ _ _ (T26.setTop (mkF m 77 #[vR p0, uS] []))
  exact Go.retV Y26 hx Bd.returns (hb hby d5_77) Bd.notSynchronized ⟨rfl, N26, (by rw [e26]; exact F33), (by rw [e26]; exact F34), (by rw [e26]; exact F35), (by rw [e26]; exact F36), (by rw [e26]; exact F37), (by rw [e26]; exact F38), (by rw [e26]; exact F39), (by rw [e26]; exact F40), (by rw [e26]; exact F41), (by rw [e26]; exact F42), (by rw [e26]; exact F43), (by rw [e26]; exact F44), (by rw [e26]; exact F45), ⟨G3, (hG3.trans rfl), by rw [e26]; exact F46⟩, ⟨B3, hB3, by rw [e26]; exact F47⟩⟩ (by decide) (by decide)
theorem d11_22 : decode prog_63_method_8_code 22 = .ok (.aload_n 0, 1) := by decide +kernel
theorem d11_23 : decode prog_63_method_8_code 23 = .ok (.getfield 20, 3) := by decide +kernel
theorem d11_26 : decode prog_63_method_8_code 26 = .ok (.iload_n 1, 1) := by decide +kernel
theorem d11_27 : decode prog_63_method_8_code 27 = .ok (.iaload, 1) := by decide +kernel
theorem d11_28 : decode prog_63_method_8_code 28 = .ok (.istore_n 2, 1) := by decide +kernel
theorem d11_29 : decode prog_63_method_8_code 29 = .ok (.iload_n 1, 1) := by decide +kernel
theorem d11_30 : decode prog_63_method_8_code 30 = .ok (.ifCond .eq 15, 3) := by decide +kernel
theorem d11_45 : decode prog_63_method_8_code 45 = .ok (.aload_n 0, 1) := by decide +kernel
theorem d11_46 : decode prog_63_method_8_code 46 = .ok (.getfield 44, 3) := by decide +kernel
theorem d11_49 : decode prog_63_method_8_code 49 = .ok (.iload_n 2, 1) := by decide +kernel
theorem d11_50 : decode prog_63_method_8_code 50 = .ok (.invokevirtual 82, 3) := by decide +kernel
theorem d11_53 : decode prog_63_method_8_code 53 = .ok (.aload_n 0, 1) := by decide +kernel
theorem d11_54 : decode prog_63_method_8_code 54 = .ok (.getfield 19, 3) := by decide +kernel
theorem d11_57 : decode prog_63_method_8_code 57 = .ok (.iload_n 2, 1) := by decide +kernel
theorem d11_58 : decode prog_63_method_8_code 58 = .ok (.bipush 6, 2) := by decide +kernel
theorem d11_60 : decode prog_63_method_8_code 60 = .ok (.iushr, 1) := by decide +kernel
theorem d11_61 : decode prog_63_method_8_code 61 = .ok (.dup2, 1) := by decide +kernel
theorem d11_62 : decode prog_63_method_8_code 62 = .ok (.laload, 1) := by decide +kernel
theorem d11_63 : decode prog_63_method_8_code 63 = .ok (.lconst 1, 1) := by decide +kernel
theorem d11_64 : decode prog_63_method_8_code 64 = .ok (.iload_n 2, 1) := by decide +kernel
theorem d11_65 : decode prog_63_method_8_code 65 = .ok (.lshl, 1) := by decide +kernel
theorem d11_66 : decode prog_63_method_8_code 66 = .ok (.lor, 1) := by decide +kernel
theorem d11_67 : decode prog_63_method_8_code 67 = .ok (.lastore, 1) := by decide +kernel
theorem d11_68 : decode prog_63_method_8_code 68 = .ok (.iinc 1 1, 3) := by decide +kernel
theorem d11_71 : decode prog_63_method_8_code 71 = .ok (.goto (-57), 3) := by decide +kernel
def Q40 (Z : State) (p0 : Addr) (rr : Addr) (cu : Addr) (an : Addr) (ss : Addr) (li : Addr) (ob : Addr) (bl : Addr) (c0 : Int32) (c1 : Int32) (sz : Int32) (s0 : Int32) (s1 : Int32) (s2 : Int32) (ys : List Int64) (bs : List Int32) (h0 : Heap) (n0 : Nat) (v : Option Value) (h : Heap) (L : List Loc) : Prop := v = none ∧ Fr n0 L ∧ Keep h0 h [p0, cu, an, ss, li, bl] ∧ Fld Z h p0 cP "this$0" dR (.ref rr) ∧ Fld Z h p0 cP "anywhere" "[J" (.ref an) ∧ Fld Z h p0 cP "current" "[I" (.ref cu) ∧ Fld Z h p0 cP "first" "I" (.int (0 : Int32)) ∧ Fld Z h p0 cP "end" "I" (.int (2 : Int32)) ∧ Fld Z h p0 cP "filling" "I" (.int (0 : Int32)) ∧ Fld Z h p0 cP "listed" dI (.ref li) ∧ Fld Z h p0 cP "currentCount" "I" (.int (0 : Int32)) ∧ Fld Z h li cI "size" "I" (.int (sz + (1 : Int32))) ∧ Fld Z h li cI "blocks" "[[I" (.ref ob) ∧ ArL Z h cu .int [(.int c0), (.int c1), (.int (0 : Int32)), (.int (0 : Int32)), (.int (0 : Int32)), (.int (0 : Int32)), (.int (0 : Int32)), (.int (0 : Int32)), (.int (0 : Int32)), (.int (0 : Int32)), (.int (0 : Int32)), (.int (0 : Int32)), (.int (0 : Int32)), (.int (0 : Int32)), (.int (0 : Int32)), (.int (0 : Int32))] ∧ ArL Z h ss .int [(.int s0), (.int (sz + (1 : Int32))), (.int s2)] ∧ (∃ G : List Int64, G.length = ys.length ∧ ArL Z h an .long (List.map Value.long G)) ∧ (∃ B : List Int32, B.length = 16 ∧ ArL Z h bl .int (List.map Value.int B))
abbrev rmm40 : Room := { frames := 4, cells := 0, slots := 0, locals := 81 }
abbrev P40 (Z : State) (p0 : Addr) (rr : Addr) (cu : Addr) (an : Addr) (ss : Addr) (li : Addr) (ob : Addr) (bl : Addr) (c0 : Int32) (c1 : Int32) (sz : Int32) (s0 : Int32) (s1 : Int32) (s2 : Int32) (ys : List Int64) (bs : List Int32) (h0 : Heap) (n0 : Nat) (s : State) : Outcome → State → Prop := fun o U' => ∃ v L, o = .returned v ∧ Q40 Z p0 rr cu an ss li ob bl c0 c1 sz s0 s1 s2 ys bs h0 n0 v U'.heap L ∧ FrameEnd s o U' L rmm40.cells rmm40.slots
theorem pn_40 : plainName "com/example/onward/onward/check/RequirementRows$Part" = true := by first | (simp [plainName, overriddenIn]; done) | decide +kernel
theorem ef_40 (m : MethodId) (p0 : Addr) : entryFrame m #[(.ref p0)] 3 = mkF m 0 #[vR p0, uS, uS] [] := by first | (simp [entryFrame, mkF, argsToLocals, Value.category]; done) | rfl
set_option maxRecDepth 65536 in
set_option maxHeartbeats 40000000 in
theorem rm40 (l : Launch) (Z : State) (a0 : Array Value) (hw : ∀ d ∈ tables_1, d.before a0 Z = true) (ws : List Jvm.Cond) (p0 : Addr) (rr : Addr) (cu : Addr) (an : Addr) (ss : Addr) (li : Addr) (ob : Addr) (bl : Addr) (c0 : Int32) (c1 : Int32) (sz : Int32) (s0 : Int32) (s1 : Int32) (s2 : Int32) (ys : List Int64) (bs : List Int32) (h0 : Heap) (n0 : Nat) (Z0 : n0 ≤ h0.size) (H0 : Exa Z h0 p0 cP) (H1 : Fld Z h0 p0 cP "this$0" dR (.ref rr)) (H2 : Fld Z h0 p0 cP "anywhere" "[J" (.ref an)) (H3 : Fld Z h0 p0 cP "current" "[I" (.ref cu)) (H4 : Fld Z h0 p0 cP "first" "I" (.int (0 : Int32))) (H5 : Fld Z h0 p0 cP "end" "I" (.int (2 : Int32))) (H6 : Fld Z h0 p0 cP "filling" "I" (.int (0 : Int32))) (H7 : Fld Z h0 p0 cP "listed" dI (.ref li)) (H8 : Fld Z h0 p0 cP "currentCount" "I" (.int (1 : Int32))) (H9 : Fld Z h0 rr cR "rows" "[J" .null) (H10 : Fld Z h0 rr cR "starts" "[I" (.ref ss)) (H11 : ArL Z h0 cu .int [(.int c0), (.int c1), (.int (0 : Int32)), (.int (0 : Int32)), (.int (0 : Int32)), (.int (0 : Int32)), (.int (0 : Int32)), (.int (0 : Int32)), (.int (0 : Int32)), (.int (0 : Int32)), (.int (0 : Int32)), (.int (0 : Int32)), (.int (0 : Int32)), (.int (0 : Int32)), (.int (0 : Int32)), (.int (0 : Int32))]) (H12 : ArL Z h0 an .long (List.map Value.long ys)) (H13 : ArL Z h0 ss .int [(.int s0), (.int s1), (.int s2)]) (H14 : Exa Z h0 li cI) (H15 : Fld Z h0 li cI "size" "I" (.int sz)) (H16 : Fld Z h0 li cI "blocks" "[[I" (.ref ob)) (H17 : ArL Z h0 ob (.array .int) [(.ref bl)]) (H18 : ArL Z h0 bl .int (List.map Value.int bs)) (H19 : n0 ≤ p0) (H20 : n0 ≤ cu) (H21 : n0 ≤ an) (H22 : n0 ≤ ss) (H23 : n0 ≤ li) (H24 : n0 ≤ bl) (H25 : p0 ≠ rr) (H26 : p0 ≠ cu) (H27 : p0 ≠ an) (H28 : p0 ≠ ss) (H29 : p0 ≠ li) (H30 : p0 ≠ ob) (H31 : p0 ≠ bl) (H32 : rr ≠ cu) (H33 : rr ≠ an) (H34 : rr ≠ ss) (H35 : rr ≠ li) (H36 : rr ≠ ob) (H37 : rr ≠ bl) (H38 : cu ≠ an) (H39 : cu ≠ ss) (H40 : cu ≠ li) (H41 : cu ≠ ob) (H42 : cu ≠ bl) (H43 : an ≠ ss) (H44 : an ≠ li) (H45 : an ≠ ob) (H46 : an ≠ bl) (H47 : ss ≠ li) (H48 : ss ≠ ob) (H49 : ss ≠ bl) (H50 : li ≠ ob) (H51 : li ≠ bl) (H52 : ob ≠ bl) (hsz : own_sz 2 sz) (hbs : bs.length = 16) (hr0 : own_rng c0 ys.length) (hy8 : ys.length ≤ 8) :
    MetFree l (⟨"com/example/onward/onward/check/RequirementRows$Part", "endList", "()V"⟩ : MethodName) (head1 (Jvm.Cond.code (⟨"com/example/onward/onward/check/RequirementRows$Part", "endList", "()V"⟩ : MethodName) prog_63_method_8_code 3 none :: ws) rmm40) (fun a U => a = #[(.ref p0)] ∧ Z.Warmed39 U.vm ∧ U.heap = h0) (fun _ _ _ _ _ => True) (fun _ U o U' => ∃ v L, o = .returned v ∧ Q40 Z p0 rr cu an ss li ob bl c0 c1 sz s0 s1 s2 ys bs h0 n0 v U'.heap L ∧ FrameEnd U o U' L rmm40.cells rmm40.slots) := by
  refine MetFree.of_bodySF (plainFor_of_name pn_40) hisR ?_
  intro p e s m args below meth c s₁ Bd hml0 hP hK
  obtain ⟨rfl, hZ, hh⟩ := hP
  have hx := Bd.exec
  have hby := Bd.bytes
  have hml : c.maxLocals = 3 := hml0
  have hown : s.vm.findClass "com/example/onward/onward/check/RequirementRows$Part" = some m.cls := findClass_of_methodNamed Bd.named
  have hnm := (name_of_methodNamed Bd.named Bd.method).1
  have X0 : Stand p l e rmm40 s m #[(.ref p0)] below meth c s₁ [] 0 0 := Stand.of_body Bd
  have e0 : s₁.heap = h0 := by rw [← hh, Bd.state]; rfl
  have N0 := Fr.nil n0
  show Go p.tables e below (P40 Z p0 rr cu an ss li ob bl c0 c1 sz s0 s1 s2 ys bs h0 n0 s) (s₁.setTop (entryFrame m #[(.ref p0)] 3))
  refine Go.back (fun t k => castTop (ef_40 m p0) k) ?_
  show Go p.tables e below (P40 Z p0 rr cu an ss li ob bl c0 c1 sz s0 s1 s2 ys bs h0 n0 s) (s₁.setTop (mkF m 0 #[vR p0, uS, uS] []))
  refine Go.back (fun t k => XS.aloadN X0.here hx rfl (hb hby d11_0) rfl rfl  k) ?_
  obtain ⟨T1, X1, e1, st1⟩ := getF X0 hx hZ hown (host := "") (Or.inl (wk hw 41 rfl)) Via.refl e0 H3 (g := (mkF m 1 #[vR p0, uS, uS] [(.ref p0)])) rfl rfl (hb hby d11_1)
  refine Go.back st1 ?_
  refine Go.back (fun t k => XS.iconst X1.here hx rfl (hb hby d11_4) k) ?_
  refine Go.back (fun t k => XS.aloadN X1.here hx rfl (hb hby d11_5) rfl rfl  k) ?_
  show Go _ _ _ _ (T1.setTop (mkF m 6 #[vR p0, uS, uS] [(.ref p0), (.int (0 : Int32)), (.ref cu)]))
  obtain ⟨T2, X2, e2, st2⟩ := getF X1 hx hZ hown (host := "") (Or.inl (wk hw 109 rfl)) Via.refl e1 H8 (g := (mkF m 6 #[vR p0, uS, uS] [(.ref p0), (.int (0 : Int32)), (.ref cu)])) rfl rfl (hb hby d11_6)
  refine Go.back st2 ?_
  obtain ⟨_, _, ⟨T3, L3, k3, n3⟩, -, X3, ⟨Lc3, hQ3, l3, y3, z3⟩, st3⟩ := Jvm.LawKit.callS X2 hx (y := (⟨"java/util/Arrays", "sort", "([III)V"⟩ : MethodName)) hown (mvT hZ (wk hw 115 rfl)) (mvT hZ (wk hw 116 rfl)) (mvT hZ (wk hw 117 rfl)) (mvT hZ (wk hw 118 rfl)) (by decide) (backOf (W := 0) (rm28 l Z a0 hw [] cu c0 c1 h0 n0 Z0 H11 H20) hZ (wk hw 118 rfl) (wk hw 117 rfl) (by decide) (by decide)) (g := (mkF m 9 #[vR p0, uS, uS] [(.int (1 : Int32)), (.int (0 : Int32)), (.ref cu)])) rfl (by rw [hml]; rfl) (argsL := [(.ref cu), (.int (0 : Int32)), (.int (1 : Int32))]) (rest := []) (lenOf pd_0 rfl) rfl (by show 2 * 0 + _ ≤ _; exact Nat.le_of_eq rfl) (hb hby d11_9) (fun _ _ => ⟨rfl, e2, (by decide : 0 + 0 ≤ _), (by decide : 0 + 0 ≤ _)⟩)
  dsimp only [Pt.U, Pt.locs, Pt.cells, Pt.slots] at X3 l3 y3 z3 st3 hQ3
  subst l3 y3 z3
  obtain ⟨h3, e3⟩ : ∃ z, T3.heap = z := ⟨_, rfl⟩
  rw [e3] at hQ3
  obtain ⟨rfl, N3q, K3, F24⟩ := hQ3
  obtain ⟨Lo3, Y3, N3⟩ := pk X3 (Fr.app N0 N3q)
  have F4 := H0.keep K3
  have F5 := H1.keep K3 (ninS H26 nin0)
  have F6 := H2.keep K3 (ninS H26 nin0)
  have F7 := H3.keep K3 (ninS H26 nin0)
  have F8 := H4.keep K3 (ninS H26 nin0)
  have F9 := H5.keep K3 (ninS H26 nin0)
  have F10 := H6.keep K3 (ninS H26 nin0)
  have F11 := H7.keep K3 (ninS H26 nin0)
  have F12 := H8.keep K3 (ninS H26 nin0)
  have F13 := H9.keep K3 (ninS H32 nin0)
  have F14 := H10.keep K3 (ninS H32 nin0)
  have F15 := H12.keep K3 (ninS (Ne.symm H38) nin0)
  have F16 := H13.keep K3 (ninS (Ne.symm H39) nin0)
  have F17 := H14.keep K3
  have F18 := H15.keep K3 (ninS (Ne.symm H40) nin0)
  have F19 := H16.keep K3 (ninS (Ne.symm H40) nin0)
  have F20 := H17.keep K3 (ninS (Ne.symm H41) nin0)
  have F21 := H18.keep K3 (ninS (Ne.symm H42) nin0)
  have F22 := Nat.le_trans Z0 K3.1
  have F23 : Keep h0 h3 [p0, cu, an, ss, li, bl] := (Keep.refl h0 [p0, cu, an, ss, li, bl]).trans K3 (allS (P := fun x => x ∈ [p0, cu, an, ss, li, bl] ∨ h0.size ≤ x) (Or.inl (List.mem_of_getElem? (i := 1) rfl)) all0)
  refine Go.back st3 ?_
  show Go _ _ _ _ (T3.setTop (mkF m 12 #[vR p0, uS, uS] []))
  refine Go.back (fun t k => XS.iconst Y3.here hx rfl (hb hby d11_12) k) ?_
  refine Go.back (fun t k => XS.istoreN Y3.here hx rfl (hb hby d11_13) rfl (l' := #[vR p0, vI (0 : Int32), uS]) rfl k) ?_
  show Go _ _ _ _ (T3.setTop (mkF m 14 #[vR p0, vI (0 : Int32), uS] []))
  refine Go.back (fun t k => XS.iloadN Y3.here hx rfl (hb hby d11_14) rfl  k) ?_
  refine Go.back (fun t k => XS.aloadN Y3.here hx rfl (hb hby d11_15) rfl rfl  k) ?_
  obtain ⟨T25, X25, e25, st25⟩ := getF Y3 hx hZ hown (host := "") (Or.inl (wk hw 109 rfl)) Via.refl e3 F12 (g := (mkF m 16 #[vR p0, vI (0 : Int32), uS] [(.ref p0), (.int (0 : Int32))])) rfl rfl (hb hby d11_16)
  refine Go.back st25 ?_
  show Go _ _ _ _ (T25.setTop (mkF m 19 #[vR p0, vI (0 : Int32), uS] [(.int (1 : Int32)), (.int (0 : Int32))]))
  refine Go.back (fun t k => XS.icmpNo X25.here hx rfl (hb hby d11_19) rfl (tlt (by decide)).2.1 k) ?_
  show Go _ _ _ _ (T25.setTop (mkF m 22 #[vR p0, vI (0 : Int32), uS] []))
  refine Go.back (fun t k => XS.aloadN X25.here hx rfl (hb hby d11_22) rfl rfl  k) ?_
  obtain ⟨T26, X26, e26, st26⟩ := getF X25 hx hZ hown (host := "") (Or.inl (wk hw 41 rfl)) Via.refl e25 F7 (g := (mkF m 23 #[vR p0, vI (0 : Int32), uS] [(.ref p0)])) rfl rfl (hb hby d11_23)
  refine Go.back st26 ?_
  refine Go.back (fun t k => XS.iloadN X26.here hx rfl (hb hby d11_26) rfl  k) ?_
  obtain ⟨cl27, Ar27, hi27, ha27⟩ := F24.get (j := (0 : Int32)) (by decide) (v := (.int c0)) rfl
  refine Go.back (fun t k => X26.iaload hx (j := (0 : Int32)) (v := (.int c0)) (by rw [e26]; exact Ar27.1) (State.isArrayOf_alike hZ.alike Ar27.2.1) Ar27.2.2 hi27 ha27 (g := (mkF m 27 #[vR p0, vI (0 : Int32), uS] [(.int (0 : Int32)), (.ref cu)])) rfl rfl (hb hby d11_27) t k) ?_
  show Go _ _ _ _ (T26.setTop (mkF m 28 #[vR p0, vI (0 : Int32), uS] [(.int c0)]))
  refine Go.back (fun t k => XS.istoreN X26.here hx rfl (hb hby d11_28) rfl (l' := #[vR p0, vI (0 : Int32), vI c0]) rfl k) ?_
  refine Go.back (fun t k => XS.iloadN X26.here hx rfl (hb hby d11_29) rfl  k) ?_
  show Go _ _ _ _ (T26.setTop (mkF m 30 #[vR p0, vI (0 : Int32), vI c0] [(.int (0 : Int32))]))
  refine Go.back (fun t k => XS.ifYes X26.here hx rfl (pc0 := 30) (pc' := 45) rfl (hb hby d11_30) rfl ((if0 _ _).trans (teq (by decide)).1) (by decide) (by decide) k) ?_
  show Go _ _ _ _ (T26.setTop (mkF m 45 #[vR p0, vI (0 : Int32), vI c0] []))
  refine Go.back (fun t k => XS.aloadN X26.here hx rfl (hb hby d11_45) rfl rfl  k) ?_
  obtain ⟨T28, X28, e28, st28⟩ := getF X26 hx hZ hown (host := "") (Or.inl (wk hw 50 rfl)) Via.refl e26 F11 (g := (mkF m 46 #[vR p0, vI (0 : Int32), vI c0] [(.ref p0)])) rfl rfl (hb hby d11_46)
  refine Go.back st28 ?_
  refine Go.back (fun t k => XS.iloadN X28.here hx rfl (hb hby d11_49) rfl  k) ?_
  obtain ⟨cq29, kq29, q29a, q29b, q29c⟩ := isOf hZ e28 F17
  obtain ⟨_, _, ⟨T29, L29, k29, n29⟩, -, X29, ⟨Lc29, hQ29, l29, y29, z29⟩, st29⟩ := X28.virtualBack hx (y := (⟨"com/example/onward/onward/lts/IntBlocks", "add", "(I)V"⟩ : MethodName)) (z := (⟨"com/example/onward/onward/lts/IntBlocks", "add", "(I)V"⟩ : MethodName)) hown (mvT hZ (wk hw 132 rfl)) (mvT hZ (wk hw 133 rfl)) (notFace_of_selects (args := #[]) (mvT hZ (wk hw 135 rfl))) (mvT hZ (wk hw 135 rfl)) (mvT hZ (wk hw 134 rfl)) (by decide) (backOf (W := 0) (rm17 l Z a0 hw [] li c0 sz ob bl bs h3 n0 F22 F17 F18 F19 F20 F21 H23 H24 H50 H51 H52 (own_sz_up hsz) hbs) hZ (wk hw 136 rfl) (wk hw 82 rfl) (by decide) (by decide)) q29a q29c (g := (mkF m 50 #[vR p0, vI (0 : Int32), vI c0] [(.int c0), (.ref li)])) rfl (by rw [hml]; rfl) (Steps.refl _) (argsL := [(.int c0)]) (rest := []) (lenOf pd_4 rfl) rfl (by show 2 * 0 + _ ≤ _; exact Nat.le_of_eq rfl) (hb hby d11_50) (fun _ _ => ⟨rfl, e28, (by decide : 0 + 0 ≤ _), (by decide : 0 + 0 ≤ _)⟩)
  dsimp only [Pt.U, Pt.locs, Pt.cells, Pt.slots] at X29 l29 y29 z29 st29 hQ29
  subst l29 y29 z29
  obtain ⟨h29, e29⟩ : ∃ z, T29.heap = z := ⟨_, rfl⟩
  rw [e29] at hQ29
  obtain ⟨rfl, N29q, K29, F48, F49, F50⟩ := hQ29
  obtain ⟨Lo29, Y29, N29⟩ := pk X29 (Fr.app N3 N29q)
  have F30 := F4.keep K29
  have F31 := F5.keep K29 (ninS H29 (ninS H31 nin0))
  have F32 := F6.keep K29 (ninS H29 (ninS H31 nin0))
  have F33 := F7.keep K29 (ninS H29 (ninS H31 nin0))
  have F34 := F8.keep K29 (ninS H29 (ninS H31 nin0))
  have F35 := F9.keep K29 (ninS H29 (ninS H31 nin0))
  have F36 := F10.keep K29 (ninS H29 (ninS H31 nin0))
  have F37 := F11.keep K29 (ninS H29 (ninS H31 nin0))
  have F38 := F12.keep K29 (ninS H29 (ninS H31 nin0))
  have F39 := F13.keep K29 (ninS H35 (ninS H37 nin0))
  have F40 := F14.keep K29 (ninS H35 (ninS H37 nin0))
  have F41 := F15.keep K29 (ninS H44 (ninS H46 nin0))
  have F42 := F16.keep K29 (ninS H47 (ninS H49 nin0))
  have F43 := F17.keep K29
  have F44 := F20.keep K29 (ninS (Ne.symm H50) (ninS H52 nin0))
  have F45 := Nat.le_trans F22 K29.1
  have F46 := F23.trans K29 (allS (P := fun x => x ∈ [p0, cu, an, ss, li, bl] ∨ h0.size ≤ x) (Or.inl (List.mem_of_getElem? (i := 4) rfl)) (allS (P := fun x => x ∈ [p0, cu, an, ss, li, bl] ∨ h0.size ≤ x) (Or.inl (List.mem_of_getElem? (i := 5) rfl)) all0))
  have F47 := F24.keep K29 (ninS H40 (ninS H42 nin0))
  refine Go.trans st29 ?_
  show Go _ _ _ _ (T29.setTop (mkF m 53 #[vR p0, vI (0 : Int32), vI c0] []))
  refine Go.back (fun t k => XS.aloadN Y29.here hx rfl (hb hby d11_53) rfl rfl  k) ?_
  obtain ⟨T51, X51, e51, st51⟩ := getF Y29 hx hZ hown (host := "") (Or.inl (wk hw 38 rfl)) Via.refl e29 F32 (g := (mkF m 54 #[vR p0, vI (0 : Int32), vI c0] [(.ref p0)])) rfl rfl (hb hby d11_54)
  refine Go.back st51 ?_
  refine Go.back (fun t k => XS.iloadN X51.here hx rfl (hb hby d11_57) rfl  k) ?_
  refine Go.back (fun t k => XS.bipush X51.here hx rfl (hb hby d11_58) k) ?_
  show Go _ _ _ _ (T51.setTop (mkF m 60 #[vR p0, vI (0 : Int32), vI c0] [(.int (6 : Int32)), (.int c0), (.ref an)]))
  refine Go.back (fun t k => XS.iushr X51.here hx rfl (hb hby d11_60) rfl k) ?_
  refine Go.back (fun t k => Jvm.Free.XT.dup2 X51.here hx rfl (hb hby d11_61) rfl rfl rfl k) ?_
  obtain ⟨cl52, Ar52, hi52, ha52⟩ := F41.get (j := (((c0).toUInt32 >>> ((6 : Int32) &&& 31).toUInt32).toInt32)) (own_ix0 hr0 hy8) (v := (.long (List.getD ys ((((c0).toUInt32 >>> ((6 : Int32) &&& 31).toUInt32).toInt32)).toNatClampNeg (0 : Int64)))) (getJ ys (by simpa using own_ix1 hr0 hy8))
  refine Go.back (fun t k => X51.laload hx (j := (((c0).toUInt32 >>> ((6 : Int32) &&& 31).toUInt32).toInt32)) (v := (.long (List.getD ys ((((c0).toUInt32 >>> ((6 : Int32) &&& 31).toUInt32).toInt32)).toNatClampNeg (0 : Int64)))) (by rw [e51]; exact Ar52.1) (State.isArrayOf_alike hZ.alike Ar52.2.1) Ar52.2.2 hi52 ha52 (g := (mkF m 62 #[vR p0, vI (0 : Int32), vI c0] [(.int (((c0).toUInt32 >>> ((6 : Int32) &&& 31).toUInt32).toInt32)), (.ref an), (.int (((c0).toUInt32 >>> ((6 : Int32) &&& 31).toUInt32).toInt32)), (.ref an)])) rfl rfl (hb hby d11_62) t k) ?_
  refine Go.back (fun t k => XS.lconst X51.here hx rfl (hb hby d11_63) k) ?_
  show Go _ _ _ _ (T51.setTop (mkF m 64 #[vR p0, vI (0 : Int32), vI c0] [(.long (1 : Int64)), (.long (List.getD ys ((((c0).toUInt32 >>> ((6 : Int32) &&& 31).toUInt32).toInt32)).toNatClampNeg (0 : Int64))), (.int (((c0).toUInt32 >>> ((6 : Int32) &&& 31).toUInt32).toInt32)), (.ref an)]))
  refine Go.back (fun t k => XS.iloadN X51.here hx rfl (hb hby d11_64) rfl  k) ?_
  refine Go.back (fun t k => XS.lshl X51.here hx rfl (hb hby d11_65) rfl k) ?_
  refine Go.back (fun t k => XS.lor X51.here hx rfl (hb hby d11_66) rfl k) ?_
  obtain ⟨cl53, Ar53, hi53, -⟩ := F41.at (j := (((c0).toUInt32 >>> ((6 : Int32) &&& 31).toUInt32).toInt32)) (own_ix0 hr0 hy8) (by simpa using (own_ix1 hr0 hy8))
  obtain ⟨T53, h53, X53, e53, W53, st53⟩ := stJ X51 hx hZ e51 Ar53 (j := (((c0).toUInt32 >>> ((6 : Int32) &&& 31).toUInt32).toInt32)) hi53 (g := (mkF m 67 #[vR p0, vI (0 : Int32), vI c0] [(.long ((List.getD ys ((((c0).toUInt32 >>> ((6 : Int32) &&& 31).toUInt32).toInt32)).toNatClampNeg (0 : Int64)) ||| (((1 : Int64) <<< (c0 &&& 0x3f).toInt64)))), (.int (((c0).toUInt32 >>> ((6 : Int32) &&& 31).toUInt32).toInt32)), (.ref an)])) rfl rfl (hb hby d11_67)
  have F54 := F30.wr W53
  have F55 := F31.other W53 (Or.inl H27)
  have F56 := F32.other W53 (Or.inl H27)
  have F57 := F33.other W53 (Or.inl H27)
  have F58 := F34.other W53 (Or.inl H27)
  have F59 := F35.other W53 (Or.inl H27)
  have F60 := F36.other W53 (Or.inl H27)
  have F61 := F37.other W53 (Or.inl H27)
  have F62 := F38.other W53 (Or.inl H27)
  have F63 := F39.other W53 (Or.inl H33)
  have F64 := F40.other W53 (Or.inl H33)
  have F65 : ArL Z h53 an .long (List.map Value.long (List.set ys ((((c0).toUInt32 >>> ((6 : Int32) &&& 31).toUInt32).toInt32)).toNatClampNeg ((List.getD ys ((((c0).toUInt32 >>> ((6 : Int32) &&& 31).toUInt32).toInt32)).toNatClampNeg (0 : Int64)) ||| (((1 : Int64) <<< (c0 &&& 0x3f).toInt64))))) := ArL.setJ (xs := ys) F41 W53
  have F66 := F42.other W53 (Ne.symm H43)
  have F67 := F43.wr W53
  have F68 := F44.other W53 (Ne.symm H45)
  have F69 := Nat.le_trans F45 (Keep.of_wr W53).1
  have F70 := F46.wr W53 (Or.inl (List.mem_of_getElem? (i := 2) rfl))
  have F71 := F47.other W53 H38
  have F72 := F48.other W53 (Or.inl (Ne.symm H44))
  have F73 := F49.other W53 (Or.inl (Ne.symm H44))
  have F74 := F50.other W53 (Ne.symm H46)
  obtain ⟨Lo53, Y53, N53⟩ := pk X53 (Fr.snoc X53 N29 H21)
  refine Go.back st53 ?_
  show Go _ _ _ _ (T53.setTop (mkF m 68 #[vR p0, vI (0 : Int32), vI c0] []))
  refine Go.back (fun t k => XS.iinc Y53.here hx rfl (hb hby d11_68) rfl (l' := #[vR p0, vI ((0 : Int32) + (1 : Int32)), vI c0]) rfl k) ?_
  refine Go.back (fun t k => XS.goto Y53.here hx rfl (pc0 := 71) (pc' := 14) rfl (hb hby d11_71) (by decide) (by decide) k) ?_
  show Go _ _ _ _ (T53.setTop (mkF m 14 #[vR p0, vI ((0 : Int32) + (1 : Int32)), vI c0] []))
  rw [show ((0 : Int32) + (1 : Int32)) = (1 : Int32) from by decide]
  show Go _ _ _ _ (T53.setTop (mkF m 14 #[vR p0, vI (1 : Int32), vI c0] []))
  refine Go.back (fun t k => XS.iloadN Y53.here hx rfl (hb hby d11_14) rfl  k) ?_
  refine Go.back (fun t k => XS.aloadN Y53.here hx rfl (hb hby d11_15) rfl rfl  k) ?_
  obtain ⟨T75, X75, e75, st75⟩ := getF Y53 hx hZ hown (host := "") (Or.inl (wk hw 109 rfl)) Via.refl e53 F62 (g := (mkF m 16 #[vR p0, vI (1 : Int32), vI c0] [(.ref p0), (.int (1 : Int32))])) rfl rfl (hb hby d11_16)
  refine Go.back st75 ?_
  show Go _ _ _ _ (T75.setTop (mkF m 19 #[vR p0, vI (1 : Int32), vI c0] [(.int (1 : Int32)), (.int (1 : Int32))]))
  refine Go.back (fun t k => XS.icmpYes X75.here hx rfl (pc0 := 19) (pc' := 74) rfl (hb hby d11_19) rfl (flt (by decide)).2.1 (by decide) (by decide) k) ?_
  show Go _ _ _ _ (T75.setTop (mkF m 74 #[vR p0, vI (1 : Int32), vI c0] []))
  refine Go.back (fun t k => XS.aloadN X75.here hx rfl (hb hby d11_74) rfl rfl  k) ?_
  refine Go.back (fun t k => XS.iconst X75.here hx rfl (hb hby d11_75) k) ?_
  obtain ⟨T76, h76, X76, e76, W76, st76⟩ := putF X75 hx hZ hown (host := "") (Or.inl (wk hw 109 rfl)) Via.refl e75 F62 F54 (Or.inl (wk hw 110 rfl)) (wk hw 29 rfl) (ty := .int) (by decide) rfl rfl (g := (mkF m 76 #[vR p0, vI (1 : Int32), vI c0] [(.int (0 : Int32)), (.ref p0)])) rfl rfl (hb hby d11_76)
  have F77 := F54.wr W76
  have F78 := F55.other W76 (Or.inr (slot_ne (Or.inr (wk hw 35 rfl)) (Or.inl (wk hw 110 rfl)) (by decide) (t := (.object "com/example/onward/onward/check/RequirementRows")) (t' := .int) (by decide) (by decide)))
  have F79 := F56.other W76 (Or.inr (slot_ne (Or.inr (wk hw 39 rfl)) (Or.inl (wk hw 110 rfl)) (by decide) (t := (.array .long)) (t' := .int) (by decide) (by decide)))
  have F80 := F57.other W76 (Or.inr (slot_ne (Or.inl (wk hw 42 rfl)) (Or.inl (wk hw 110 rfl)) (by decide) (t := (.array .int)) (t' := .int) (by decide) (by decide)))
  have F81 := F58.other W76 (Or.inr (slot_ne (Or.inr (wk hw 44 rfl)) (Or.inl (wk hw 110 rfl)) (by decide) (t := .int) (t' := .int) (by decide) (by decide)))
  have F82 := F59.other W76 (Or.inr (slot_ne (Or.inr (wk hw 46 rfl)) (Or.inl (wk hw 110 rfl)) (by decide) (t := .int) (t' := .int) (by decide) (by decide)))
  have F83 := F60.other W76 (Or.inr (slot_ne (Or.inl (wk hw 48 rfl)) (Or.inl (wk hw 110 rfl)) (by decide) (t := .int) (t' := .int) (by decide) (by decide)))
  have F84 := F61.other W76 (Or.inr (slot_ne (Or.inr (wk hw 51 rfl)) (Or.inl (wk hw 110 rfl)) (by decide) (t := (.object "com/example/onward/onward/lts/IntBlocks")) (t' := .int) (by decide) (by decide)))
  have F85 : Fld Z h76 p0 cP "currentCount" "I" (.int (0 : Int32)) := F62.same W76
  have F86 := F63.other W76 (Or.inl (Ne.symm H25))
  have F87 := F64.other W76 (Or.inl (Ne.symm H25))
  have F88 := F65.other W76 (Ne.symm H27)
  have F89 := F66.other W76 (Ne.symm H28)
  have F90 := F67.wr W76
  have F91 := F68.other W76 (Ne.symm H30)
  have F92 := Nat.le_trans F69 (Keep.of_wr W76).1
  have F93 := F70.wr W76 (Or.inl (List.mem_of_getElem? (i := 0) rfl))
  have F94 := F71.other W76 (Ne.symm H26)
  have F95 := F72.other W76 (Or.inl (Ne.symm H29))
  have F96 := F73.other W76 (Or.inl (Ne.symm H29))
  have F97 := F74.other W76 (Ne.symm H31)
  obtain ⟨Lo76, Y76, N76⟩ := pk X76 (Fr.snoc X76 N53 H19)
  refine Go.back st76 ?_
  refine Go.back (fun t k => XS.aloadN Y76.here hx rfl (hb hby d11_79) rfl rfl  k) ?_
  show Go _ _ _ _ (T76.setTop (mkF m 80 #[vR p0, vI (1 : Int32), vI c0] [(.ref p0)]))
  obtain ⟨T98, X98, e98, st98⟩ := getF Y76 hx hZ hown (host := "") (Or.inl (wk hw 34 rfl)) Via.refl e76 F78 (g := (mkF m 80 #[vR p0, vI (1 : Int32), vI c0] [(.ref p0)])) rfl rfl (hb hby d11_80)
  refine Go.back st98 ?_
  obtain ⟨T99, X99, e99, st99⟩ := getF X98 hx hZ hown (Or.inr (wk hw 141 rfl)) Via.refl e98 F87 (g := (mkF m 83 #[vR p0, vI (1 : Int32), vI c0] [(.ref rr)])) rfl rfl (hb hby d11_83)
  refine Go.back st99 ?_
  refine Go.back (fun t k => XS.aloadN X99.here hx rfl (hb hby d11_86) rfl rfl  k) ?_
  obtain ⟨T100, X100, e100, st100⟩ := getF X99 hx hZ hown (host := "") (Or.inl (wk hw 47 rfl)) Via.refl e99 F83 (g := (mkF m 87 #[vR p0, vI (1 : Int32), vI c0] [(.ref p0), (.ref ss)])) rfl rfl (hb hby d11_87)
  refine Go.back st100 ?_
  show Go _ _ _ _ (T100.setTop (mkF m 90 #[vR p0, vI (1 : Int32), vI c0] [(.int (0 : Int32)), (.ref ss)]))
  refine Go.back (fun t k => XS.iconst X100.here hx rfl (hb hby d11_90) k) ?_
  refine Go.back (fun t k => XS.iadd X100.here hx rfl (hb hby d11_91) rfl k) ?_
  refine Go.back (fun t k => XS.aloadN X100.here hx rfl (hb hby d11_92) rfl rfl  k) ?_
  obtain ⟨T101, X101, e101, st101⟩ := getF X100 hx hZ hown (host := "") (Or.inl (wk hw 50 rfl)) Via.refl e100 F84 (g := (mkF m 93 #[vR p0, vI (1 : Int32), vI c0] [(.ref p0), (.int ((0 : Int32) + (1 : Int32))), (.ref ss)])) rfl rfl (hb hby d11_93)
  refine Go.back st101 ?_
  show Go _ _ _ _ (T101.setTop (mkF m 96 #[vR p0, vI (1 : Int32), vI c0] [(.ref li), (.int ((0 : Int32) + (1 : Int32))), (.ref ss)]))
  obtain ⟨cq102, kq102, q102a, q102b, q102c⟩ := isOf hZ e101 F90
  obtain ⟨_, _, ⟨T102, L102, k102, n102⟩, -, X102, ⟨Lc102, hQ102, l102, y102, z102⟩, st102⟩ := X101.virtualBack hx (y := (⟨"com/example/onward/onward/lts/IntBlocks", "size", "()I"⟩ : MethodName)) (z := (⟨"com/example/onward/onward/lts/IntBlocks", "size", "()I"⟩ : MethodName)) hown (mvT hZ (wk hw 142 rfl)) (mvT hZ (wk hw 143 rfl)) (notFace_of_selects (args := #[]) (mvT hZ (wk hw 145 rfl))) (mvT hZ (wk hw 145 rfl)) (mvT hZ (wk hw 144 rfl)) (by decide) (backOf (W := 2) (rm18 l Z a0 hw [] li (sz + (1 : Int32)) h76 n0 F92 F95) hZ (wk hw 146 rfl) (wk hw 82 rfl) (by decide) (by decide)) q102a q102c (g := (mkF m 96 #[vR p0, vI (1 : Int32), vI c0] [(.ref li), (.int ((0 : Int32) + (1 : Int32))), (.ref ss)])) rfl (by rw [hml]; rfl) (Steps.refl _) (argsL := []) (rest := [(.int ((0 : Int32) + (1 : Int32))), (.ref ss)]) (lenOf pd_5 rfl) rfl (by show 2 * 0 + _ ≤ _; exact Nat.le_of_eq rfl) (hb hby d11_96) (fun _ _ => ⟨rfl, e101, (by decide : 0 + 0 ≤ _), (by decide : 0 + 0 ≤ _)⟩)
  dsimp only [Pt.U, Pt.locs, Pt.cells, Pt.slots] at X102 l102 y102 z102 st102 hQ102
  subst l102 y102 z102
  obtain ⟨rfl, N102q, e102⟩ := hQ102
  obtain ⟨Lo102, Y102, N102⟩ := pk X102 (Fr.app N76 N102q)
  refine Go.trans st102 ?_
  show Go _ _ _ _ (T102.setTop (mkF m 99 #[vR p0, vI (1 : Int32), vI c0] [(.int (sz + (1 : Int32))), (.int ((0 : Int32) + (1 : Int32))), (.ref ss)]))
  rw [show ((0 : Int32) + (1 : Int32)) = (1 : Int32) from by decide]
  show Go _ _ _ _ (T102.setTop (mkF m 99 #[vR p0, vI (1 : Int32), vI c0] [(.int (sz + (1 : Int32))), (.int (1 : Int32)), (.ref ss)]))
  obtain ⟨cl103, Ar103, hi103, -⟩ := F89.at (j := (1 : Int32)) (by decide) (Nat.le_of_ble_eq_true rfl)
  obtain ⟨T103, h103, X103, e103, W103, st103⟩ := stI Y102 hx hZ e102 Ar103 (j := (1 : Int32)) hi103 (g := (mkF m 99 #[vR p0, vI (1 : Int32), vI c0] [(.int (sz + (1 : Int32))), (.int (1 : Int32)), (.ref ss)])) rfl rfl (hb hby d11_99)
  have F104 := F77.wr W103
  have F105 := F78.other W103 (Or.inl H28)
  have F106 := F79.other W103 (Or.inl H28)
  have F107 := F80.other W103 (Or.inl H28)
  have F108 := F81.other W103 (Or.inl H28)
  have F109 := F82.other W103 (Or.inl H28)
  have F110 := F83.other W103 (Or.inl H28)
  have F111 := F84.other W103 (Or.inl H28)
  have F112 := F85.other W103 (Or.inl H28)
  have F113 := F86.other W103 (Or.inl H34)
  have F114 := F87.other W103 (Or.inl H34)
  have F115 := F88.other W103 H43
  have F116 : ArL Z h103 ss .int [(.int s0), (.int (sz + (1 : Int32))), (.int s2)] := F89.set W103
  have F117 := F90.wr W103
  have F118 := F91.other W103 (Ne.symm H48)
  have F119 := Nat.le_trans F92 (Keep.of_wr W103).1
  have F120 := F93.wr W103 (Or.inl (List.mem_of_getElem? (i := 3) rfl))
  have F121 := F94.other W103 H39
  have F122 := F95.other W103 (Or.inl (Ne.symm H47))
  have F123 := F96.other W103 (Or.inl (Ne.symm H47))
  have F124 := F97.other W103 (Ne.symm H49)
  obtain ⟨Lo103, Y103, N103⟩ := pk X103 (Fr.snoc X103 N102 H22)
  refine Go.back st103 ?_
  show Go _ _ _ _ (T103.setTop (mkF m 100 #[vR p0, vI (1 : Int32), vI c0] []))
  exact Go.retV Y103 hx Bd.returns (hb hby d11_100) Bd.notSynchronized ⟨rfl, N103, (by rw [e103]; exact F120), (by rw [e103]; exact F105), (by rw [e103]; exact F106), (by rw [e103]; exact F107), (by rw [e103]; exact F108), (by rw [e103]; exact F109), (by rw [e103]; exact F110), (by rw [e103]; exact F111), (by rw [e103]; exact F112), (by rw [e103]; exact F122), (by rw [e103]; exact F123), (by rw [e103]; exact F121), (by rw [e103]; exact F116), ⟨(List.set ys ((((c0).toUInt32 >>> ((6 : Int32) &&& 31).toUInt32).toInt32)).toNatClampNeg ((List.getD ys ((((c0).toUInt32 >>> ((6 : Int32) &&& 31).toUInt32).toInt32)).toNatClampNeg (0 : Int64)) ||| (((1 : Int64) <<< (c0 &&& 0x3f).toInt64)))), by simp, by rw [e103]; exact F115⟩, ⟨(List.set bs (sz).toNatClampNeg c0), by simp [hbs], by rw [e103]; exact F124⟩⟩ (by decide) (by decide)
def Q41 (Z : State) (p0 : Addr) (rr : Addr) (cu : Addr) (an : Addr) (ss : Addr) (li : Addr) (ob : Addr) (bl : Addr) (c0 : Int32) (c1 : Int32) (sz : Int32) (s0 : Int32) (s1 : Int32) (s2 : Int32) (ys : List Int64) (bs : List Int32) (h0 : Heap) (n0 : Nat) (v : Option Value) (h : Heap) (L : List Loc) : Prop := v = none ∧ Fr n0 L ∧ Keep h0 h [p0, cu, an, ss, li, bl] ∧ Fld Z h p0 cP "this$0" dR (.ref rr) ∧ Fld Z h p0 cP "anywhere" "[J" (.ref an) ∧ Fld Z h p0 cP "current" "[I" (.ref cu) ∧ Fld Z h p0 cP "first" "I" (.int (0 : Int32)) ∧ Fld Z h p0 cP "end" "I" (.int (2 : Int32)) ∧ Fld Z h p0 cP "filling" "I" (.int (1 : Int32)) ∧ Fld Z h p0 cP "listed" dI (.ref li) ∧ Fld Z h p0 cP "currentCount" "I" (.int (0 : Int32)) ∧ Fld Z h li cI "size" "I" (.int (sz + (1 : Int32))) ∧ Fld Z h li cI "blocks" "[[I" (.ref ob) ∧ ArL Z h cu .int [(.int c0), (.int c1), (.int (0 : Int32)), (.int (0 : Int32)), (.int (0 : Int32)), (.int (0 : Int32)), (.int (0 : Int32)), (.int (0 : Int32)), (.int (0 : Int32)), (.int (0 : Int32)), (.int (0 : Int32)), (.int (0 : Int32)), (.int (0 : Int32)), (.int (0 : Int32)), (.int (0 : Int32)), (.int (0 : Int32))] ∧ ArL Z h ss .int [(.int s0), (.int (sz + (1 : Int32))), (.int s2)] ∧ (∃ G : List Int64, G.length = ys.length ∧ ArL Z h an .long (List.map Value.long G)) ∧ (∃ B : List Int32, B.length = 16 ∧ ArL Z h bl .int (List.map Value.int B))
abbrev rmm41 : Room := { frames := 5, cells := 0, slots := 0, locals := 95 }
abbrev P41 (Z : State) (p0 : Addr) (rr : Addr) (cu : Addr) (an : Addr) (ss : Addr) (li : Addr) (ob : Addr) (bl : Addr) (c0 : Int32) (c1 : Int32) (sz : Int32) (s0 : Int32) (s1 : Int32) (s2 : Int32) (ys : List Int64) (bs : List Int32) (h0 : Heap) (n0 : Nat) (s : State) : Outcome → State → Prop := fun o U' => ∃ v L, o = .returned v ∧ Q41 Z p0 rr cu an ss li ob bl c0 c1 sz s0 s1 s2 ys bs h0 n0 v U'.heap L ∧ FrameEnd s o U' L rmm41.cells rmm41.slots
theorem pn_41 : plainName "com/example/onward/onward/check/RequirementRows$Part" = true := by first | (simp [plainName, overriddenIn]; done) | decide +kernel
theorem ef_41 (m : MethodId) (p0 : Addr) : entryFrame m #[(.ref p0)] 2 = mkF m 0 #[vR p0, uS] [] := by first | (simp [entryFrame, mkF, argsToLocals, Value.category]; done) | rfl
set_option maxRecDepth 65536 in
set_option maxHeartbeats 40000000 in
theorem rm41 (l : Launch) (Z : State) (a0 : Array Value) (hw : ∀ d ∈ tables_1, d.before a0 Z = true) (ws : List Jvm.Cond) (p0 : Addr) (rr : Addr) (cu : Addr) (an : Addr) (ss : Addr) (li : Addr) (ob : Addr) (bl : Addr) (c0 : Int32) (c1 : Int32) (sz : Int32) (s0 : Int32) (s1 : Int32) (s2 : Int32) (ys : List Int64) (bs : List Int32) (h0 : Heap) (n0 : Nat) (Z0 : n0 ≤ h0.size) (H0 : Exa Z h0 p0 cP) (H1 : Fld Z h0 p0 cP "this$0" dR (.ref rr)) (H2 : Fld Z h0 p0 cP "anywhere" "[J" (.ref an)) (H3 : Fld Z h0 p0 cP "current" "[I" (.ref cu)) (H4 : Fld Z h0 p0 cP "first" "I" (.int (0 : Int32))) (H5 : Fld Z h0 p0 cP "end" "I" (.int (2 : Int32))) (H6 : Fld Z h0 p0 cP "filling" "I" (.int (0 : Int32))) (H7 : Fld Z h0 p0 cP "listed" dI (.ref li)) (H8 : Fld Z h0 p0 cP "currentCount" "I" (.int (1 : Int32))) (H9 : Fld Z h0 rr cR "rows" "[J" .null) (H10 : Fld Z h0 rr cR "starts" "[I" (.ref ss)) (H11 : ArL Z h0 cu .int [(.int c0), (.int c1), (.int (0 : Int32)), (.int (0 : Int32)), (.int (0 : Int32)), (.int (0 : Int32)), (.int (0 : Int32)), (.int (0 : Int32)), (.int (0 : Int32)), (.int (0 : Int32)), (.int (0 : Int32)), (.int (0 : Int32)), (.int (0 : Int32)), (.int (0 : Int32)), (.int (0 : Int32)), (.int (0 : Int32))]) (H12 : ArL Z h0 an .long (List.map Value.long ys)) (H13 : ArL Z h0 ss .int [(.int s0), (.int s1), (.int s2)]) (H14 : Exa Z h0 li cI) (H15 : Fld Z h0 li cI "size" "I" (.int sz)) (H16 : Fld Z h0 li cI "blocks" "[[I" (.ref ob)) (H17 : ArL Z h0 ob (.array .int) [(.ref bl)]) (H18 : ArL Z h0 bl .int (List.map Value.int bs)) (H19 : n0 ≤ p0) (H20 : n0 ≤ cu) (H21 : n0 ≤ an) (H22 : n0 ≤ ss) (H23 : n0 ≤ li) (H24 : n0 ≤ bl) (H25 : p0 ≠ rr) (H26 : p0 ≠ cu) (H27 : p0 ≠ an) (H28 : p0 ≠ ss) (H29 : p0 ≠ li) (H30 : p0 ≠ ob) (H31 : p0 ≠ bl) (H32 : rr ≠ cu) (H33 : rr ≠ an) (H34 : rr ≠ ss) (H35 : rr ≠ li) (H36 : rr ≠ ob) (H37 : rr ≠ bl) (H38 : cu ≠ an) (H39 : cu ≠ ss) (H40 : cu ≠ li) (H41 : cu ≠ ob) (H42 : cu ≠ bl) (H43 : an ≠ ss) (H44 : an ≠ li) (H45 : an ≠ ob) (H46 : an ≠ bl) (H47 : ss ≠ li) (H48 : ss ≠ ob) (H49 : ss ≠ bl) (H50 : li ≠ ob) (H51 : li ≠ bl) (H52 : ob ≠ bl) (hsz : own_sz 2 sz) (hbs : bs.length = 16) (hr0 : own_rng c0 ys.length) (hy8 : ys.length ≤ 8) :
    MetFree l (⟨"com/example/onward/onward/check/RequirementRows$Part", "endState", "()V"⟩ : MethodName) (head1 (Jvm.Cond.code (⟨"com/example/onward/onward/check/RequirementRows$Part", "endState", "()V"⟩ : MethodName) prog_63_method_7_code 2 none :: ws) rmm41) (fun a U => a = #[(.ref p0)] ∧ Z.Warmed39 U.vm ∧ U.heap = h0) (fun _ _ _ _ _ => True) (fun _ U o U' => ∃ v L, o = .returned v ∧ Q41 Z p0 rr cu an ss li ob bl c0 c1 sz s0 s1 s2 ys bs h0 n0 v U'.heap L ∧ FrameEnd U o U' L rmm41.cells rmm41.slots) := by
  refine MetFree.of_bodySF (plainFor_of_name pn_41) hisR ?_
  intro p e s m args below meth c s₁ Bd hml0 hP hK
  obtain ⟨rfl, hZ, hh⟩ := hP
  have hx := Bd.exec
  have hby := Bd.bytes
  have hml : c.maxLocals = 2 := hml0
  have hown : s.vm.findClass "com/example/onward/onward/check/RequirementRows$Part" = some m.cls := findClass_of_methodNamed Bd.named
  have hnm := (name_of_methodNamed Bd.named Bd.method).1
  have X0 : Stand p l e rmm41 s m #[(.ref p0)] below meth c s₁ [] 0 0 := Stand.of_body Bd
  have e0 : s₁.heap = h0 := by rw [← hh, Bd.state]; rfl
  have N0 := Fr.nil n0
  show Go p.tables e below (P41 Z p0 rr cu an ss li ob bl c0 c1 sz s0 s1 s2 ys bs h0 n0 s) (s₁.setTop (entryFrame m #[(.ref p0)] 2))
  refine Go.back (fun t k => castTop (ef_41 m p0) k) ?_
  show Go p.tables e below (P41 Z p0 rr cu an ss li ob bl c0 c1 sz s0 s1 s2 ys bs h0 n0 s) (s₁.setTop (mkF m 0 #[vR p0, uS] []))
  refine Go.back (fun t k => XS.aloadN X0.here hx rfl (hb hby d5_0) rfl rfl  k) ?_
  obtain ⟨T1, X1, e1, st1⟩ := getF X0 hx hZ hown (host := "") (Or.inl (wk hw 34 rfl)) Via.refl e0 H1 (g := (mkF m 1 #[vR p0, uS] [(.ref p0)])) rfl rfl (hb hby d5_1)
  refine Go.back st1 ?_
  obtain ⟨T2, X2, e2, st2⟩ := getF X1 hx hZ hown (Or.inr (wk hw 49 rfl)) Via.refl e1 H9 (g := (mkF m 4 #[vR p0, uS] [(.ref rr)])) rfl rfl (hb hby d5_4)
  refine Go.back st2 ?_
  show Go _ _ _ _ (T2.setTop (mkF m 7 #[vR p0, uS] [.null]))
  refine Go.back (fun t k => XS.ifnullYes X2.here hx rfl (pc0 := 7) (pc' := 63) rfl (hb hby d5_7) rfl (by decide) (by decide) k) ?_
  show Go _ _ _ _ (T2.setTop (mkF m 63 #[vR p0, uS] []))
  refine Go.back (fun t k => XS.aloadN X2.here hx rfl (hb hby d5_63) rfl rfl  k) ?_
  obtain ⟨cq3, q3, q3'⟩ := H0.cell
  obtain ⟨_, _, ⟨T3, L3, k3, n3⟩, -, X3, ⟨Lc3, hQ3, l3, y3, z3⟩, st3⟩ := X2.privateBack hx (y := (⟨"com/example/onward/onward/check/RequirementRows$Part", "endList", "()V"⟩ : MethodName)) hown (mvT hZ (wk hw 111 rfl)) (mvT hZ (wk hw 112 rfl)) (own_selpriv (z := (⟨"com/example/onward/onward/check/RequirementRows$Part", "endState", "()V"⟩ : MethodName)) rfl (mvT hZ (wk hw 55 rfl)) (Cond.privateMethod_at (mvP hZ (wk hw 113 rfl) (args := #[]))) (mvT hZ (wk hw 112 rfl)) (by decide)) (Cond.privateMethod_at (mvP hZ (wk hw 113 rfl) (args := #[]))) (mvT hZ (wk hw 114 rfl)) (by decide) (backOf (W := 0) (rm40 l Z a0 hw [] p0 rr cu an ss li ob bl c0 c1 sz s0 s1 s2 ys bs h0 n0 Z0 H0 H1 H2 H3 H4 H5 H6 H7 H8 H9 H10 H11 H12 H13 H14 H15 H16 H17 H18 H19 H20 H21 H22 H23 H24 H25 H26 H27 H28 H29 H30 H31 H32 H33 H34 H35 H36 H37 H38 H39 H40 H41 H42 H43 H44 H45 H46 H47 H48 H49 H50 H51 H52 hsz hbs hr0 hy8) hZ (wk hw 114 rfl) (wk hw 30 rfl) (by decide) (by decide)) (g := (mkF m 64 #[vR p0, uS] [(.ref p0)])) rfl (by rw [hml]; rfl) (Steps.refl _) (a := p0) (by rw [e2]; exact q3) q3' (argsL := []) (rest := []) (lenOf pd_6 rfl) rfl (by show 2 * 0 + _ ≤ _; exact Nat.le_of_eq rfl) (hb hby d5_64) (fun _ _ => ⟨rfl, e2, (by decide : 0 + 0 ≤ _), (by decide : 0 + 0 ≤ _)⟩)
  dsimp only [Pt.U, Pt.locs, Pt.cells, Pt.slots] at X3 l3 y3 z3 st3 hQ3
  subst l3 y3 z3
  obtain ⟨h3, e3⟩ : ∃ z, T3.heap = z := ⟨_, rfl⟩
  rw [e3] at hQ3
  obtain ⟨rfl, N3q, K3, F11, F12, F13, F14, F15, F16, F17, F18, F19, F20, F21, F22, t23, t24⟩ := hQ3
  obtain ⟨Lo3, Y3, N3⟩ := pk X3 (Fr.app N0 N3q)
  have F4 := H0.keep K3
  have F5 := H9.keep K3 (ninS (Ne.symm H25) (ninS H32 (ninS H33 (ninS H34 (ninS H35 (ninS H37 nin0))))))
  have F6 := H10.keep K3 (ninS (Ne.symm H25) (ninS H32 (ninS H33 (ninS H34 (ninS H35 (ninS H37 nin0))))))
  have F7 := H14.keep K3
  have F8 := H17.keep K3 (ninS (Ne.symm H30) (ninS (Ne.symm H41) (ninS (Ne.symm H45) (ninS (Ne.symm H48) (ninS (Ne.symm H50) (ninS H52 nin0))))))
  have F9 := Nat.le_trans Z0 K3.1
  have F10 : Keep h0 h3 [p0, cu, an, ss, li, bl] := (Keep.refl h0 [p0, cu, an, ss, li, bl]).trans K3 (allS (P := fun x => x ∈ [p0, cu, an, ss, li, bl] ∨ h0.size ≤ x) (Or.inl (List.mem_of_getElem? (i := 0) rfl)) (allS (P := fun x => x ∈ [p0, cu, an, ss, li, bl] ∨ h0.size ≤ x) (Or.inl (List.mem_of_getElem? (i := 1) rfl)) (allS (P := fun x => x ∈ [p0, cu, an, ss, li, bl] ∨ h0.size ≤ x) (Or.inl (List.mem_of_getElem? (i := 2) rfl)) (allS (P := fun x => x ∈ [p0, cu, an, ss, li, bl] ∨ h0.size ≤ x) (Or.inl (List.mem_of_getElem? (i := 3) rfl)) (allS (P := fun x => x ∈ [p0, cu, an, ss, li, bl] ∨ h0.size ≤ x) (Or.inl (List.mem_of_getElem? (i := 4) rfl)) (allS (P := fun x => x ∈ [p0, cu, an, ss, li, bl] ∨ h0.size ≤ x) (Or.inl (List.mem_of_getElem? (i := 5) rfl)) all0))))))
  obtain ⟨G3, hG3, FG3⟩ := t23
  obtain ⟨B3, hB3, FB3⟩ := t24
  refine Go.trans st3 ?_
  show Go _ _ _ _ (T3.setTop (mkF m 67 #[vR p0, uS] []))
  refine Go.back (fun t k => XS.aloadN Y3.here hx rfl (hb hby d5_67) rfl rfl  k) ?_
  refine Go.back (fun t k => XS.dup Y3.here hx rfl (hb hby d5_68) rfl rfl k) ?_
  obtain ⟨T25, X25, e25, st25⟩ := getF Y3 hx hZ hown (host := "") (Or.inl (wk hw 47 rfl)) Via.refl e3 F16 (g := (mkF m 69 #[vR p0, uS] [(.ref p0), (.ref p0)])) rfl rfl (hb hby d5_69)
  refine Go.back st25 ?_
  refine Go.back (fun t k => XS.iconst X25.here hx rfl (hb hby d5_72) k) ?_
  show Go _ _ _ _ (T25.setTop (mkF m 73 #[vR p0, uS] [(.int (1 : Int32)), (.int (0 : Int32)), (.ref p0)]))
  refine Go.back (fun t k => XS.iadd X25.here hx rfl (hb hby d5_73) rfl k) ?_
  show Go _ _ _ _ (T25.setTop (mkF m 74 #[vR p0, uS] [(.int ((0 : Int32) + (1 : Int32))), (.ref p0)]))
  rw [show ((0 : Int32) + (1 : Int32)) = (1 : Int32) from by decide]
  show Go _ _ _ _ (T25.setTop (mkF m 74 #[vR p0, uS] [(.int (1 : Int32)), (.ref p0)]))
  obtain ⟨T26, h26, X26, e26, W26, st26⟩ := putF X25 hx hZ hown (host := "") (Or.inl (wk hw 47 rfl)) Via.refl e25 F16 F4 (Or.inl (wk hw 48 rfl)) (wk hw 29 rfl) (ty := .int) (by decide) rfl rfl (g := (mkF m 74 #[vR p0, uS] [(.int (1 : Int32)), (.ref p0)])) rfl rfl (hb hby d5_74)
  have F27 := F4.wr W26
  have F28 := F5.other W26 (Or.inl (Ne.symm H25))
  have F29 := F6.other W26 (Or.inl (Ne.symm H25))
  have F30 := F7.wr W26
  have F31 := F8.other W26 (Ne.symm H30)
  have F32 := Nat.le_trans F9 (Keep.of_wr W26).1
  have F33 := F10.wr W26 (Or.inl (List.mem_of_getElem? (i := 0) rfl))
  have F34 := F11.other W26 (Or.inr (slot_ne (Or.inr (wk hw 35 rfl)) (Or.inl (wk hw 48 rfl)) (by decide) (t := (.object "com/example/onward/onward/check/RequirementRows")) (t' := .int) (by decide) (by decide)))
  have F35 := F12.other W26 (Or.inr (slot_ne (Or.inr (wk hw 39 rfl)) (Or.inl (wk hw 48 rfl)) (by decide) (t := (.array .long)) (t' := .int) (by decide) (by decide)))
  have F36 := F13.other W26 (Or.inr (slot_ne (Or.inl (wk hw 42 rfl)) (Or.inl (wk hw 48 rfl)) (by decide) (t := (.array .int)) (t' := .int) (by decide) (by decide)))
  have F37 := F14.other W26 (Or.inr (slot_ne (Or.inr (wk hw 44 rfl)) (Or.inl (wk hw 48 rfl)) (by decide) (t := .int) (t' := .int) (by decide) (by decide)))
  have F38 := F15.other W26 (Or.inr (slot_ne (Or.inr (wk hw 46 rfl)) (Or.inl (wk hw 48 rfl)) (by decide) (t := .int) (t' := .int) (by decide) (by decide)))
  have F39 : Fld Z h26 p0 cP "filling" "I" (.int (1 : Int32)) := F16.same W26
  have F40 := F17.other W26 (Or.inr (slot_ne (Or.inr (wk hw 51 rfl)) (Or.inl (wk hw 48 rfl)) (by decide) (t := (.object "com/example/onward/onward/lts/IntBlocks")) (t' := .int) (by decide) (by decide)))
  have F41 := F18.other W26 (Or.inr (slot_ne (Or.inl (wk hw 110 rfl)) (Or.inl (wk hw 48 rfl)) (by decide) (t := .int) (t' := .int) (by decide) (by decide)))
  have F42 := F19.other W26 (Or.inl (Ne.symm H29))
  have F43 := F20.other W26 (Or.inl (Ne.symm H29))
  have F44 := F21.other W26 (Ne.symm H26)
  have F45 := F22.other W26 (Ne.symm H28)
  have F46 := FG3.other W26 (Ne.symm H27)
  have F47 := FB3.other W26 (Ne.symm H31)
  obtain ⟨Lo26, Y26, N26⟩ := pk X26 (Fr.snoc X26 N3 H19)
  refine Go.back st26 ?_
  show Go _ _ _ _ (T26.setTop (mkF m 77 #[vR p0, uS] []))
  exact Go.retV Y26 hx Bd.returns (hb hby d5_77) Bd.notSynchronized ⟨rfl, N26, (by rw [e26]; exact F33), (by rw [e26]; exact F34), (by rw [e26]; exact F35), (by rw [e26]; exact F36), (by rw [e26]; exact F37), (by rw [e26]; exact F38), (by rw [e26]; exact F39), (by rw [e26]; exact F40), (by rw [e26]; exact F41), (by rw [e26]; exact F42), (by rw [e26]; exact F43), (by rw [e26]; exact F44), (by rw [e26]; exact F45), ⟨G3, (hG3.trans rfl), by rw [e26]; exact F46⟩, ⟨B3, hB3, by rw [e26]; exact F47⟩⟩ (by decide) (by decide)
theorem d11_33 : decode prog_63_method_8_code 33 = .ok (.aload_n 0, 1) := by decide +kernel
theorem d11_34 : decode prog_63_method_8_code 34 = .ok (.getfield 20, 3) := by decide +kernel
theorem d11_37 : decode prog_63_method_8_code 37 = .ok (.iload_n 1, 1) := by decide +kernel
theorem d11_38 : decode prog_63_method_8_code 38 = .ok (.iconst 1, 1) := by decide +kernel
theorem d11_39 : decode prog_63_method_8_code 39 = .ok (.isub, 1) := by decide +kernel
theorem d11_40 : decode prog_63_method_8_code 40 = .ok (.iaload, 1) := by decide +kernel
theorem d11_41 : decode prog_63_method_8_code 41 = .ok (.iload_n 2, 1) := by decide +kernel
theorem d11_42 : decode prog_63_method_8_code 42 = .ok (.if_icmp .eq 26, 3) := by decide +kernel
def g42_9 (c0 : Int32) (c1 : Int32) (sz : Int32) (s0 : Int32) (s1 : Int32) (s2 : Int32) : Int32 := (if (g29_1 c0 c1) = (g29_2 c0 c1) then (sz + (1 : Int32)) else ((sz + (1 : Int32)) + (1 : Int32)))
def g42_28 (c0 : Int32) (c1 : Int32) (sz : Int32) (s0 : Int32) (s1 : Int32) (s2 : Int32) : Int32 := (if (g29_1 c0 c1) = (g29_2 c0 c1) then (sz + (1 : Int32)) else ((sz + (1 : Int32)) + (1 : Int32)))
def Q42 (Z : State) (p0 : Addr) (rr : Addr) (cu : Addr) (an : Addr) (ss : Addr) (li : Addr) (ob : Addr) (bl : Addr) (c0 : Int32) (c1 : Int32) (sz : Int32) (s0 : Int32) (s1 : Int32) (s2 : Int32) (ys : List Int64) (bs : List Int32) (h0 : Heap) (n0 : Nat) (v : Option Value) (h : Heap) (L : List Loc) : Prop := v = none ∧ Fr n0 L ∧ Keep h0 h [p0, cu, an, ss, li, bl] ∧ Fld Z h p0 cP "this$0" dR (.ref rr) ∧ Fld Z h p0 cP "anywhere" "[J" (.ref an) ∧ Fld Z h p0 cP "current" "[I" (.ref cu) ∧ Fld Z h p0 cP "first" "I" (.int (0 : Int32)) ∧ Fld Z h p0 cP "end" "I" (.int (2 : Int32)) ∧ Fld Z h p0 cP "filling" "I" (.int (0 : Int32)) ∧ Fld Z h p0 cP "listed" dI (.ref li) ∧ Fld Z h p0 cP "currentCount" "I" (.int (0 : Int32)) ∧ Fld Z h li cI "size" "I" (.int (g42_9 c0 c1 sz s0 s1 s2)) ∧ Fld Z h li cI "blocks" "[[I" (.ref ob) ∧ ArL Z h cu .int [(.int (g29_1 c0 c1)), (.int (g29_2 c0 c1)), (.int (0 : Int32)), (.int (0 : Int32)), (.int (0 : Int32)), (.int (0 : Int32)), (.int (0 : Int32)), (.int (0 : Int32)), (.int (0 : Int32)), (.int (0 : Int32)), (.int (0 : Int32)), (.int (0 : Int32)), (.int (0 : Int32)), (.int (0 : Int32)), (.int (0 : Int32)), (.int (0 : Int32))] ∧ ArL Z h ss .int [(.int s0), (.int (g42_28 c0 c1 sz s0 s1 s2)), (.int s2)] ∧ (∃ G : List Int64, G.length = ys.length ∧ ArL Z h an .long (List.map Value.long G)) ∧ (∃ B : List Int32, B.length = 16 ∧ ArL Z h bl .int (List.map Value.int B))
abbrev rmm42 : Room := { frames := 4, cells := 0, slots := 0, locals := 81 }
abbrev P42 (Z : State) (p0 : Addr) (rr : Addr) (cu : Addr) (an : Addr) (ss : Addr) (li : Addr) (ob : Addr) (bl : Addr) (c0 : Int32) (c1 : Int32) (sz : Int32) (s0 : Int32) (s1 : Int32) (s2 : Int32) (ys : List Int64) (bs : List Int32) (h0 : Heap) (n0 : Nat) (s : State) : Outcome → State → Prop := fun o U' => ∃ v L, o = .returned v ∧ Q42 Z p0 rr cu an ss li ob bl c0 c1 sz s0 s1 s2 ys bs h0 n0 v U'.heap L ∧ FrameEnd s o U' L rmm42.cells rmm42.slots
theorem pn_42 : plainName "com/example/onward/onward/check/RequirementRows$Part" = true := by first | (simp [plainName, overriddenIn]; done) | decide +kernel
theorem ef_42 (m : MethodId) (p0 : Addr) : entryFrame m #[(.ref p0)] 3 = mkF m 0 #[vR p0, uS, uS] [] := by first | (simp [entryFrame, mkF, argsToLocals, Value.category]; done) | rfl
set_option maxRecDepth 65536 in
set_option maxHeartbeats 40000000 in
theorem rm42 (l : Launch) (Z : State) (a0 : Array Value) (hw : ∀ d ∈ tables_1, d.before a0 Z = true) (ws : List Jvm.Cond) (p0 : Addr) (rr : Addr) (cu : Addr) (an : Addr) (ss : Addr) (li : Addr) (ob : Addr) (bl : Addr) (c0 : Int32) (c1 : Int32) (sz : Int32) (s0 : Int32) (s1 : Int32) (s2 : Int32) (ys : List Int64) (bs : List Int32) (h0 : Heap) (n0 : Nat) (Z0 : n0 ≤ h0.size) (H0 : Exa Z h0 p0 cP) (H1 : Fld Z h0 p0 cP "this$0" dR (.ref rr)) (H2 : Fld Z h0 p0 cP "anywhere" "[J" (.ref an)) (H3 : Fld Z h0 p0 cP "current" "[I" (.ref cu)) (H4 : Fld Z h0 p0 cP "first" "I" (.int (0 : Int32))) (H5 : Fld Z h0 p0 cP "end" "I" (.int (2 : Int32))) (H6 : Fld Z h0 p0 cP "filling" "I" (.int (0 : Int32))) (H7 : Fld Z h0 p0 cP "listed" dI (.ref li)) (H8 : Fld Z h0 p0 cP "currentCount" "I" (.int (2 : Int32))) (H9 : Fld Z h0 rr cR "rows" "[J" .null) (H10 : Fld Z h0 rr cR "starts" "[I" (.ref ss)) (H11 : ArL Z h0 cu .int [(.int c0), (.int c1), (.int (0 : Int32)), (.int (0 : Int32)), (.int (0 : Int32)), (.int (0 : Int32)), (.int (0 : Int32)), (.int (0 : Int32)), (.int (0 : Int32)), (.int (0 : Int32)), (.int (0 : Int32)), (.int (0 : Int32)), (.int (0 : Int32)), (.int (0 : Int32)), (.int (0 : Int32)), (.int (0 : Int32))]) (H12 : ArL Z h0 an .long (List.map Value.long ys)) (H13 : ArL Z h0 ss .int [(.int s0), (.int s1), (.int s2)]) (H14 : Exa Z h0 li cI) (H15 : Fld Z h0 li cI "size" "I" (.int sz)) (H16 : Fld Z h0 li cI "blocks" "[[I" (.ref ob)) (H17 : ArL Z h0 ob (.array .int) [(.ref bl)]) (H18 : ArL Z h0 bl .int (List.map Value.int bs)) (H19 : n0 ≤ p0) (H20 : n0 ≤ cu) (H21 : n0 ≤ an) (H22 : n0 ≤ ss) (H23 : n0 ≤ li) (H24 : n0 ≤ bl) (H25 : p0 ≠ rr) (H26 : p0 ≠ cu) (H27 : p0 ≠ an) (H28 : p0 ≠ ss) (H29 : p0 ≠ li) (H30 : p0 ≠ ob) (H31 : p0 ≠ bl) (H32 : rr ≠ cu) (H33 : rr ≠ an) (H34 : rr ≠ ss) (H35 : rr ≠ li) (H36 : rr ≠ ob) (H37 : rr ≠ bl) (H38 : cu ≠ an) (H39 : cu ≠ ss) (H40 : cu ≠ li) (H41 : cu ≠ ob) (H42 : cu ≠ bl) (H43 : an ≠ ss) (H44 : an ≠ li) (H45 : an ≠ ob) (H46 : an ≠ bl) (H47 : ss ≠ li) (H48 : ss ≠ ob) (H49 : ss ≠ bl) (H50 : li ≠ ob) (H51 : li ≠ bl) (H52 : ob ≠ bl) (hsz : own_sz 2 sz) (hbs : bs.length = 16) (hr0 : own_rng c0 ys.length) (hr1 : own_rng c1 ys.length) (hy8 : ys.length ≤ 8) :
    MetFree l (⟨"com/example/onward/onward/check/RequirementRows$Part", "endList", "()V"⟩ : MethodName) (head1 (Jvm.Cond.code (⟨"com/example/onward/onward/check/RequirementRows$Part", "endList", "()V"⟩ : MethodName) prog_63_method_8_code 3 none :: ws) rmm42) (fun a U => a = #[(.ref p0)] ∧ Z.Warmed39 U.vm ∧ U.heap = h0) (fun _ _ _ _ _ => True) (fun _ U o U' => ∃ v L, o = .returned v ∧ Q42 Z p0 rr cu an ss li ob bl c0 c1 sz s0 s1 s2 ys bs h0 n0 v U'.heap L ∧ FrameEnd U o U' L rmm42.cells rmm42.slots) := by
  refine MetFree.of_bodySF (plainFor_of_name pn_42) hisR ?_
  intro p e s m args below meth c s₁ Bd hml0 hP hK
  obtain ⟨rfl, hZ, hh⟩ := hP
  have hx := Bd.exec
  have hby := Bd.bytes
  have hml : c.maxLocals = 3 := hml0
  have hown : s.vm.findClass "com/example/onward/onward/check/RequirementRows$Part" = some m.cls := findClass_of_methodNamed Bd.named
  have hnm := (name_of_methodNamed Bd.named Bd.method).1
  have X0 : Stand p l e rmm42 s m #[(.ref p0)] below meth c s₁ [] 0 0 := Stand.of_body Bd
  have e0 : s₁.heap = h0 := by rw [← hh, Bd.state]; rfl
  have N0 := Fr.nil n0
  show Go p.tables e below (P42 Z p0 rr cu an ss li ob bl c0 c1 sz s0 s1 s2 ys bs h0 n0 s) (s₁.setTop (entryFrame m #[(.ref p0)] 3))
  refine Go.back (fun t k => castTop (ef_42 m p0) k) ?_
  show Go p.tables e below (P42 Z p0 rr cu an ss li ob bl c0 c1 sz s0 s1 s2 ys bs h0 n0 s) (s₁.setTop (mkF m 0 #[vR p0, uS, uS] []))
  have hf9 : g42_9 c0 c1 sz s0 s1 s2 = (if (g29_1 c0 c1) = (g29_2 c0 c1) then (sz + (1 : Int32)) else ((sz + (1 : Int32)) + (1 : Int32))) := rfl
  have hf28 : g42_28 c0 c1 sz s0 s1 s2 = (if (g29_1 c0 c1) = (g29_2 c0 c1) then (sz + (1 : Int32)) else ((sz + (1 : Int32)) + (1 : Int32))) := rfl
  refine Go.back (fun t k => XS.aloadN X0.here hx rfl (hb hby d11_0) rfl rfl  k) ?_
  obtain ⟨T1, X1, e1, st1⟩ := getF X0 hx hZ hown (host := "") (Or.inl (wk hw 41 rfl)) Via.refl e0 H3 (g := (mkF m 1 #[vR p0, uS, uS] [(.ref p0)])) rfl rfl (hb hby d11_1)
  refine Go.back st1 ?_
  refine Go.back (fun t k => XS.iconst X1.here hx rfl (hb hby d11_4) k) ?_
  refine Go.back (fun t k => XS.aloadN X1.here hx rfl (hb hby d11_5) rfl rfl  k) ?_
  show Go _ _ _ _ (T1.setTop (mkF m 6 #[vR p0, uS, uS] [(.ref p0), (.int (0 : Int32)), (.ref cu)]))
  obtain ⟨T2, X2, e2, st2⟩ := getF X1 hx hZ hown (host := "") (Or.inl (wk hw 109 rfl)) Via.refl e1 H8 (g := (mkF m 6 #[vR p0, uS, uS] [(.ref p0), (.int (0 : Int32)), (.ref cu)])) rfl rfl (hb hby d11_6)
  refine Go.back st2 ?_
  obtain ⟨_, _, ⟨T3, L3, k3, n3⟩, -, X3, ⟨Lc3, hQ3, l3, y3, z3⟩, st3⟩ := Jvm.LawKit.callS X2 hx (y := (⟨"java/util/Arrays", "sort", "([III)V"⟩ : MethodName)) hown (mvT hZ (wk hw 115 rfl)) (mvT hZ (wk hw 116 rfl)) (mvT hZ (wk hw 117 rfl)) (mvT hZ (wk hw 118 rfl)) (by decide) (backOf (W := 0) (rm33 l Z a0 hw [] cu c0 c1 h0 n0 Z0 H11 H20) hZ (wk hw 118 rfl) (wk hw 117 rfl) (by decide) (by decide)) (g := (mkF m 9 #[vR p0, uS, uS] [(.int (2 : Int32)), (.int (0 : Int32)), (.ref cu)])) rfl (by rw [hml]; rfl) (argsL := [(.ref cu), (.int (0 : Int32)), (.int (2 : Int32))]) (rest := []) (lenOf pd_0 rfl) rfl (by show 2 * 0 + _ ≤ _; exact Nat.le_of_eq rfl) (hb hby d11_9) (fun _ _ => ⟨rfl, e2, (by decide : 0 + 0 ≤ _), (by decide : 0 + 0 ≤ _)⟩)
  dsimp only [Pt.U, Pt.locs, Pt.cells, Pt.slots] at X3 l3 y3 z3 st3 hQ3
  subst l3 y3 z3
  obtain ⟨h3, e3⟩ : ∃ z, T3.heap = z := ⟨_, rfl⟩
  rw [e3] at hQ3
  obtain ⟨rfl, N3q, K3, F24⟩ := hQ3
  obtain ⟨Lo3, Y3, N3⟩ := pk X3 (Fr.app N0 N3q)
  have F4 := H0.keep K3
  have F5 := H1.keep K3 (ninS H26 nin0)
  have F6 := H2.keep K3 (ninS H26 nin0)
  have F7 := H3.keep K3 (ninS H26 nin0)
  have F8 := H4.keep K3 (ninS H26 nin0)
  have F9 := H5.keep K3 (ninS H26 nin0)
  have F10 := H6.keep K3 (ninS H26 nin0)
  have F11 := H7.keep K3 (ninS H26 nin0)
  have F12 := H8.keep K3 (ninS H26 nin0)
  have F13 := H9.keep K3 (ninS H32 nin0)
  have F14 := H10.keep K3 (ninS H32 nin0)
  have F15 := H12.keep K3 (ninS (Ne.symm H38) nin0)
  have F16 := H13.keep K3 (ninS (Ne.symm H39) nin0)
  have F17 := H14.keep K3
  have F18 := H15.keep K3 (ninS (Ne.symm H40) nin0)
  have F19 := H16.keep K3 (ninS (Ne.symm H40) nin0)
  have F20 := H17.keep K3 (ninS (Ne.symm H41) nin0)
  have F21 := H18.keep K3 (ninS (Ne.symm H42) nin0)
  have F22 := Nat.le_trans Z0 K3.1
  have F23 : Keep h0 h3 [p0, cu, an, ss, li, bl] := (Keep.refl h0 [p0, cu, an, ss, li, bl]).trans K3 (allS (P := fun x => x ∈ [p0, cu, an, ss, li, bl] ∨ h0.size ≤ x) (Or.inl (List.mem_of_getElem? (i := 1) rfl)) all0)
  refine Go.back st3 ?_
  show Go _ _ _ _ (T3.setTop (mkF m 12 #[vR p0, uS, uS] []))
  refine Go.back (fun t k => XS.iconst Y3.here hx rfl (hb hby d11_12) k) ?_
  refine Go.back (fun t k => XS.istoreN Y3.here hx rfl (hb hby d11_13) rfl (l' := #[vR p0, vI (0 : Int32), uS]) rfl k) ?_
  show Go _ _ _ _ (T3.setTop (mkF m 14 #[vR p0, vI (0 : Int32), uS] []))
  refine Go.back (fun t k => XS.iloadN Y3.here hx rfl (hb hby d11_14) rfl  k) ?_
  refine Go.back (fun t k => XS.aloadN Y3.here hx rfl (hb hby d11_15) rfl rfl  k) ?_
  obtain ⟨T25, X25, e25, st25⟩ := getF Y3 hx hZ hown (host := "") (Or.inl (wk hw 109 rfl)) Via.refl e3 F12 (g := (mkF m 16 #[vR p0, vI (0 : Int32), uS] [(.ref p0), (.int (0 : Int32))])) rfl rfl (hb hby d11_16)
  refine Go.back st25 ?_
  show Go _ _ _ _ (T25.setTop (mkF m 19 #[vR p0, vI (0 : Int32), uS] [(.int (2 : Int32)), (.int (0 : Int32))]))
  refine Go.back (fun t k => XS.icmpNo X25.here hx rfl (hb hby d11_19) rfl (tlt (by decide)).2.1 k) ?_
  show Go _ _ _ _ (T25.setTop (mkF m 22 #[vR p0, vI (0 : Int32), uS] []))
  refine Go.back (fun t k => XS.aloadN X25.here hx rfl (hb hby d11_22) rfl rfl  k) ?_
  obtain ⟨T26, X26, e26, st26⟩ := getF X25 hx hZ hown (host := "") (Or.inl (wk hw 41 rfl)) Via.refl e25 F7 (g := (mkF m 23 #[vR p0, vI (0 : Int32), uS] [(.ref p0)])) rfl rfl (hb hby d11_23)
  refine Go.back st26 ?_
  refine Go.back (fun t k => XS.iloadN X26.here hx rfl (hb hby d11_26) rfl  k) ?_
  obtain ⟨cl27, Ar27, hi27, ha27⟩ := F24.get (j := (0 : Int32)) (by decide) (v := (.int (g29_1 c0 c1))) rfl
  refine Go.back (fun t k => X26.iaload hx (j := (0 : Int32)) (v := (.int (g29_1 c0 c1))) (by rw [e26]; exact Ar27.1) (State.isArrayOf_alike hZ.alike Ar27.2.1) Ar27.2.2 hi27 ha27 (g := (mkF m 27 #[vR p0, vI (0 : Int32), uS] [(.int (0 : Int32)), (.ref cu)])) rfl rfl (hb hby d11_27) t k) ?_
  show Go _ _ _ _ (T26.setTop (mkF m 28 #[vR p0, vI (0 : Int32), uS] [(.int (g29_1 c0 c1))]))
  refine Go.back (fun t k => XS.istoreN X26.here hx rfl (hb hby d11_28) rfl (l' := #[vR p0, vI (0 : Int32), vI (g29_1 c0 c1)]) rfl k) ?_
  refine Go.back (fun t k => XS.iloadN X26.here hx rfl (hb hby d11_29) rfl  k) ?_
  show Go _ _ _ _ (T26.setTop (mkF m 30 #[vR p0, vI (0 : Int32), vI (g29_1 c0 c1)] [(.int (0 : Int32))]))
  refine Go.back (fun t k => XS.ifYes X26.here hx rfl (pc0 := 30) (pc' := 45) rfl (hb hby d11_30) rfl ((if0 _ _).trans (teq (by decide)).1) (by decide) (by decide) k) ?_
  show Go _ _ _ _ (T26.setTop (mkF m 45 #[vR p0, vI (0 : Int32), vI (g29_1 c0 c1)] []))
  refine Go.back (fun t k => XS.aloadN X26.here hx rfl (hb hby d11_45) rfl rfl  k) ?_
  obtain ⟨T28, X28, e28, st28⟩ := getF X26 hx hZ hown (host := "") (Or.inl (wk hw 50 rfl)) Via.refl e26 F11 (g := (mkF m 46 #[vR p0, vI (0 : Int32), vI (g29_1 c0 c1)] [(.ref p0)])) rfl rfl (hb hby d11_46)
  refine Go.back st28 ?_
  refine Go.back (fun t k => XS.iloadN X28.here hx rfl (hb hby d11_49) rfl  k) ?_
  obtain ⟨cq29, kq29, q29a, q29b, q29c⟩ := isOf hZ e28 F17
  obtain ⟨_, _, ⟨T29, L29, k29, n29⟩, -, X29, ⟨Lc29, hQ29, l29, y29, z29⟩, st29⟩ := X28.virtualBack hx (y := (⟨"com/example/onward/onward/lts/IntBlocks", "add", "(I)V"⟩ : MethodName)) (z := (⟨"com/example/onward/onward/lts/IntBlocks", "add", "(I)V"⟩ : MethodName)) hown (mvT hZ (wk hw 132 rfl)) (mvT hZ (wk hw 133 rfl)) (notFace_of_selects (args := #[]) (mvT hZ (wk hw 135 rfl))) (mvT hZ (wk hw 135 rfl)) (mvT hZ (wk hw 134 rfl)) (by decide) (backOf (W := 0) (rm17 l Z a0 hw [] li (g29_1 c0 c1) sz ob bl bs h3 n0 F22 F17 F18 F19 F20 F21 H23 H24 H50 H51 H52 (own_sz_up hsz) hbs) hZ (wk hw 136 rfl) (wk hw 82 rfl) (by decide) (by decide)) q29a q29c (g := (mkF m 50 #[vR p0, vI (0 : Int32), vI (g29_1 c0 c1)] [(.int (g29_1 c0 c1)), (.ref li)])) rfl (by rw [hml]; rfl) (Steps.refl _) (argsL := [(.int (g29_1 c0 c1))]) (rest := []) (lenOf pd_4 rfl) rfl (by show 2 * 0 + _ ≤ _; exact Nat.le_of_eq rfl) (hb hby d11_50) (fun _ _ => ⟨rfl, e28, (by decide : 0 + 0 ≤ _), (by decide : 0 + 0 ≤ _)⟩)
  dsimp only [Pt.U, Pt.locs, Pt.cells, Pt.slots] at X29 l29 y29 z29 st29 hQ29
  subst l29 y29 z29
  obtain ⟨h29, e29⟩ : ∃ z, T29.heap = z := ⟨_, rfl⟩
  rw [e29] at hQ29
  obtain ⟨rfl, N29q, K29, F48, F49, F50⟩ := hQ29
  obtain ⟨Lo29, Y29, N29⟩ := pk X29 (Fr.app N3 N29q)
  have F30 := F4.keep K29
  have F31 := F5.keep K29 (ninS H29 (ninS H31 nin0))
  have F32 := F6.keep K29 (ninS H29 (ninS H31 nin0))
  have F33 := F7.keep K29 (ninS H29 (ninS H31 nin0))
  have F34 := F8.keep K29 (ninS H29 (ninS H31 nin0))
  have F35 := F9.keep K29 (ninS H29 (ninS H31 nin0))
  have F36 := F10.keep K29 (ninS H29 (ninS H31 nin0))
  have F37 := F11.keep K29 (ninS H29 (ninS H31 nin0))
  have F38 := F12.keep K29 (ninS H29 (ninS H31 nin0))
  have F39 := F13.keep K29 (ninS H35 (ninS H37 nin0))
  have F40 := F14.keep K29 (ninS H35 (ninS H37 nin0))
  have F41 := F15.keep K29 (ninS H44 (ninS H46 nin0))
  have F42 := F16.keep K29 (ninS H47 (ninS H49 nin0))
  have F43 := F17.keep K29
  have F44 := F20.keep K29 (ninS (Ne.symm H50) (ninS H52 nin0))
  have F45 := Nat.le_trans F22 K29.1
  have F46 := F23.trans K29 (allS (P := fun x => x ∈ [p0, cu, an, ss, li, bl] ∨ h0.size ≤ x) (Or.inl (List.mem_of_getElem? (i := 4) rfl)) (allS (P := fun x => x ∈ [p0, cu, an, ss, li, bl] ∨ h0.size ≤ x) (Or.inl (List.mem_of_getElem? (i := 5) rfl)) all0))
  have F47 := F24.keep K29 (ninS H40 (ninS H42 nin0))
  refine Go.trans st29 ?_
  show Go _ _ _ _ (T29.setTop (mkF m 53 #[vR p0, vI (0 : Int32), vI (g29_1 c0 c1)] []))
  refine Go.back (fun t k => XS.aloadN Y29.here hx rfl (hb hby d11_53) rfl rfl  k) ?_
  obtain ⟨T51, X51, e51, st51⟩ := getF Y29 hx hZ hown (host := "") (Or.inl (wk hw 38 rfl)) Via.refl e29 F32 (g := (mkF m 54 #[vR p0, vI (0 : Int32), vI (g29_1 c0 c1)] [(.ref p0)])) rfl rfl (hb hby d11_54)
  refine Go.back st51 ?_
  refine Go.back (fun t k => XS.iloadN X51.here hx rfl (hb hby d11_57) rfl  k) ?_
  refine Go.back (fun t k => XS.bipush X51.here hx rfl (hb hby d11_58) k) ?_
  show Go _ _ _ _ (T51.setTop (mkF m 60 #[vR p0, vI (0 : Int32), vI (g29_1 c0 c1)] [(.int (6 : Int32)), (.int (g29_1 c0 c1)), (.ref an)]))
  refine Go.back (fun t k => XS.iushr X51.here hx rfl (hb hby d11_60) rfl k) ?_
  refine Go.back (fun t k => Jvm.Free.XT.dup2 X51.here hx rfl (hb hby d11_61) rfl rfl rfl k) ?_
  obtain ⟨cl52, Ar52, hi52, ha52⟩ := F41.get (j := ((((g29_1 c0 c1)).toUInt32 >>> ((6 : Int32) &&& 31).toUInt32).toInt32)) (own_ix0 (own_ga hr0 hr1) hy8) (v := (.long (List.getD ys (((((g29_1 c0 c1)).toUInt32 >>> ((6 : Int32) &&& 31).toUInt32).toInt32)).toNatClampNeg (0 : Int64)))) (getJ ys (by simpa using own_ix1 (own_ga hr0 hr1) hy8))
  refine Go.back (fun t k => X51.laload hx (j := ((((g29_1 c0 c1)).toUInt32 >>> ((6 : Int32) &&& 31).toUInt32).toInt32)) (v := (.long (List.getD ys (((((g29_1 c0 c1)).toUInt32 >>> ((6 : Int32) &&& 31).toUInt32).toInt32)).toNatClampNeg (0 : Int64)))) (by rw [e51]; exact Ar52.1) (State.isArrayOf_alike hZ.alike Ar52.2.1) Ar52.2.2 hi52 ha52 (g := (mkF m 62 #[vR p0, vI (0 : Int32), vI (g29_1 c0 c1)] [(.int ((((g29_1 c0 c1)).toUInt32 >>> ((6 : Int32) &&& 31).toUInt32).toInt32)), (.ref an), (.int ((((g29_1 c0 c1)).toUInt32 >>> ((6 : Int32) &&& 31).toUInt32).toInt32)), (.ref an)])) rfl rfl (hb hby d11_62) t k) ?_
  refine Go.back (fun t k => XS.lconst X51.here hx rfl (hb hby d11_63) k) ?_
  show Go _ _ _ _ (T51.setTop (mkF m 64 #[vR p0, vI (0 : Int32), vI (g29_1 c0 c1)] [(.long (1 : Int64)), (.long (List.getD ys (((((g29_1 c0 c1)).toUInt32 >>> ((6 : Int32) &&& 31).toUInt32).toInt32)).toNatClampNeg (0 : Int64))), (.int ((((g29_1 c0 c1)).toUInt32 >>> ((6 : Int32) &&& 31).toUInt32).toInt32)), (.ref an)]))
  refine Go.back (fun t k => XS.iloadN X51.here hx rfl (hb hby d11_64) rfl  k) ?_
  refine Go.back (fun t k => XS.lshl X51.here hx rfl (hb hby d11_65) rfl k) ?_
  refine Go.back (fun t k => XS.lor X51.here hx rfl (hb hby d11_66) rfl k) ?_
  obtain ⟨cl53, Ar53, hi53, -⟩ := F41.at (j := ((((g29_1 c0 c1)).toUInt32 >>> ((6 : Int32) &&& 31).toUInt32).toInt32)) (own_ix0 (own_ga hr0 hr1) hy8) (by simpa using (own_ix1 (own_ga hr0 hr1) hy8))
  obtain ⟨T53, h53, X53, e53, W53, st53⟩ := stJ X51 hx hZ e51 Ar53 (j := ((((g29_1 c0 c1)).toUInt32 >>> ((6 : Int32) &&& 31).toUInt32).toInt32)) hi53 (g := (mkF m 67 #[vR p0, vI (0 : Int32), vI (g29_1 c0 c1)] [(.long ((List.getD ys (((((g29_1 c0 c1)).toUInt32 >>> ((6 : Int32) &&& 31).toUInt32).toInt32)).toNatClampNeg (0 : Int64)) ||| (((1 : Int64) <<< ((g29_1 c0 c1) &&& 0x3f).toInt64)))), (.int ((((g29_1 c0 c1)).toUInt32 >>> ((6 : Int32) &&& 31).toUInt32).toInt32)), (.ref an)])) rfl rfl (hb hby d11_67)
  have F54 := F30.wr W53
  have F55 := F31.other W53 (Or.inl H27)
  have F56 := F32.other W53 (Or.inl H27)
  have F57 := F33.other W53 (Or.inl H27)
  have F58 := F34.other W53 (Or.inl H27)
  have F59 := F35.other W53 (Or.inl H27)
  have F60 := F36.other W53 (Or.inl H27)
  have F61 := F37.other W53 (Or.inl H27)
  have F62 := F38.other W53 (Or.inl H27)
  have F63 := F39.other W53 (Or.inl H33)
  have F64 := F40.other W53 (Or.inl H33)
  have F65 : ArL Z h53 an .long (List.map Value.long (List.set ys (((((g29_1 c0 c1)).toUInt32 >>> ((6 : Int32) &&& 31).toUInt32).toInt32)).toNatClampNeg ((List.getD ys (((((g29_1 c0 c1)).toUInt32 >>> ((6 : Int32) &&& 31).toUInt32).toInt32)).toNatClampNeg (0 : Int64)) ||| (((1 : Int64) <<< ((g29_1 c0 c1) &&& 0x3f).toInt64))))) := ArL.setJ (xs := ys) F41 W53
  have F66 := F42.other W53 (Ne.symm H43)
  have F67 := F43.wr W53
  have F68 := F44.other W53 (Ne.symm H45)
  have F69 := Nat.le_trans F45 (Keep.of_wr W53).1
  have F70 := F46.wr W53 (Or.inl (List.mem_of_getElem? (i := 2) rfl))
  have F71 := F47.other W53 H38
  have F72 := F48.other W53 (Or.inl (Ne.symm H44))
  have F73 := F49.other W53 (Or.inl (Ne.symm H44))
  have F74 := F50.other W53 (Ne.symm H46)
  obtain ⟨Lo53, Y53, N53⟩ := pk X53 (Fr.snoc X53 N29 H21)
  refine Go.back st53 ?_
  show Go _ _ _ _ (T53.setTop (mkF m 68 #[vR p0, vI (0 : Int32), vI (g29_1 c0 c1)] []))
  refine Go.back (fun t k => XS.iinc Y53.here hx rfl (hb hby d11_68) rfl (l' := #[vR p0, vI ((0 : Int32) + (1 : Int32)), vI (g29_1 c0 c1)]) rfl k) ?_
  refine Go.back (fun t k => XS.goto Y53.here hx rfl (pc0 := 71) (pc' := 14) rfl (hb hby d11_71) (by decide) (by decide) k) ?_
  show Go _ _ _ _ (T53.setTop (mkF m 14 #[vR p0, vI ((0 : Int32) + (1 : Int32)), vI (g29_1 c0 c1)] []))
  rw [show ((0 : Int32) + (1 : Int32)) = (1 : Int32) from by decide]
  show Go _ _ _ _ (T53.setTop (mkF m 14 #[vR p0, vI (1 : Int32), vI (g29_1 c0 c1)] []))
  refine Go.back (fun t k => XS.iloadN Y53.here hx rfl (hb hby d11_14) rfl  k) ?_
  refine Go.back (fun t k => XS.aloadN Y53.here hx rfl (hb hby d11_15) rfl rfl  k) ?_
  obtain ⟨T75, X75, e75, st75⟩ := getF Y53 hx hZ hown (host := "") (Or.inl (wk hw 109 rfl)) Via.refl e53 F62 (g := (mkF m 16 #[vR p0, vI (1 : Int32), vI (g29_1 c0 c1)] [(.ref p0), (.int (1 : Int32))])) rfl rfl (hb hby d11_16)
  refine Go.back st75 ?_
  show Go _ _ _ _ (T75.setTop (mkF m 19 #[vR p0, vI (1 : Int32), vI (g29_1 c0 c1)] [(.int (2 : Int32)), (.int (1 : Int32))]))
  refine Go.back (fun t k => XS.icmpNo X75.here hx rfl (hb hby d11_19) rfl (tlt (by decide)).2.1 k) ?_
  show Go _ _ _ _ (T75.setTop (mkF m 22 #[vR p0, vI (1 : Int32), vI (g29_1 c0 c1)] []))
  refine Go.back (fun t k => XS.aloadN X75.here hx rfl (hb hby d11_22) rfl rfl  k) ?_
  obtain ⟨T76, X76, e76, st76⟩ := getF X75 hx hZ hown (host := "") (Or.inl (wk hw 41 rfl)) Via.refl e75 F57 (g := (mkF m 23 #[vR p0, vI (1 : Int32), vI (g29_1 c0 c1)] [(.ref p0)])) rfl rfl (hb hby d11_23)
  refine Go.back st76 ?_
  refine Go.back (fun t k => XS.iloadN X76.here hx rfl (hb hby d11_26) rfl  k) ?_
  obtain ⟨cl77, Ar77, hi77, ha77⟩ := F71.get (j := (1 : Int32)) (by decide) (v := (.int (g29_2 c0 c1))) rfl
  refine Go.back (fun t k => X76.iaload hx (j := (1 : Int32)) (v := (.int (g29_2 c0 c1))) (by rw [e76]; exact Ar77.1) (State.isArrayOf_alike hZ.alike Ar77.2.1) Ar77.2.2 hi77 ha77 (g := (mkF m 27 #[vR p0, vI (1 : Int32), vI (g29_1 c0 c1)] [(.int (1 : Int32)), (.ref cu)])) rfl rfl (hb hby d11_27) t k) ?_
  show Go _ _ _ _ (T76.setTop (mkF m 28 #[vR p0, vI (1 : Int32), vI (g29_1 c0 c1)] [(.int (g29_2 c0 c1))]))
  refine Go.back (fun t k => XS.istoreN X76.here hx rfl (hb hby d11_28) rfl (l' := #[vR p0, vI (1 : Int32), vI (g29_2 c0 c1)]) rfl k) ?_
  refine Go.back (fun t k => XS.iloadN X76.here hx rfl (hb hby d11_29) rfl  k) ?_
  show Go _ _ _ _ (T76.setTop (mkF m 30 #[vR p0, vI (1 : Int32), vI (g29_2 c0 c1)] [(.int (1 : Int32))]))
  refine Go.back (fun t k => XS.ifNo X76.here hx rfl (hb hby d11_30) rfl ((if0 _ _).trans (feq (by decide)).1) k) ?_
  show Go _ _ _ _ (T76.setTop (mkF m 33 #[vR p0, vI (1 : Int32), vI (g29_2 c0 c1)] []))
  refine Go.back (fun t k => XS.aloadN X76.here hx rfl (hb hby d11_33) rfl rfl  k) ?_
  obtain ⟨T78, X78, e78, st78⟩ := getF X76 hx hZ hown (host := "") (Or.inl (wk hw 41 rfl)) Via.refl e76 F57 (g := (mkF m 34 #[vR p0, vI (1 : Int32), vI (g29_2 c0 c1)] [(.ref p0)])) rfl rfl (hb hby d11_34)
  refine Go.back st78 ?_
  refine Go.back (fun t k => XS.iloadN X78.here hx rfl (hb hby d11_37) rfl  k) ?_
  refine Go.back (fun t k => XS.iconst X78.here hx rfl (hb hby d11_38) k) ?_
  show Go _ _ _ _ (T78.setTop (mkF m 39 #[vR p0, vI (1 : Int32), vI (g29_2 c0 c1)] [(.int (1 : Int32)), (.int (1 : Int32)), (.ref cu)]))
  refine Go.back (fun t k => XS.isub X78.here hx rfl (hb hby d11_39) rfl k) ?_
  show Go _ _ _ _ (T78.setTop (mkF m 40 #[vR p0, vI (1 : Int32), vI (g29_2 c0 c1)] [(.int ((1 : Int32) - (1 : Int32))), (.ref cu)]))
  rw [show ((1 : Int32) - (1 : Int32)) = (0 : Int32) from by decide]
  show Go _ _ _ _ (T78.setTop (mkF m 40 #[vR p0, vI (1 : Int32), vI (g29_2 c0 c1)] [(.int (0 : Int32)), (.ref cu)]))
  obtain ⟨cl79, Ar79, hi79, ha79⟩ := F71.get (j := (0 : Int32)) (by decide) (v := (.int (g29_1 c0 c1))) rfl
  refine Go.back (fun t k => X78.iaload hx (j := (0 : Int32)) (v := (.int (g29_1 c0 c1))) (by rw [e78]; exact Ar79.1) (State.isArrayOf_alike hZ.alike Ar79.2.1) Ar79.2.2 hi79 ha79 (g := (mkF m 40 #[vR p0, vI (1 : Int32), vI (g29_2 c0 c1)] [(.int (0 : Int32)), (.ref cu)])) rfl rfl (hb hby d11_40) t k) ?_
  refine Go.back (fun t k => XS.iloadN X78.here hx rfl (hb hby d11_41) rfl  k) ?_
  show Go _ _ _ _ (T78.setTop (mkF m 42 #[vR p0, vI (1 : Int32), vI (g29_2 c0 c1)] [(.int (g29_2 c0 c1)), (.int (g29_1 c0 c1))]))
  by_cases hc80 : (g29_1 c0 c1) = (g29_2 c0 c1)
  · have r81 := hf9.trans (if_pos hc80)
    have r82 := hf28.trans (if_pos hc80)
    refine Go.back (fun t k => XS.icmpYes X78.here hx rfl (pc0 := 42) (pc' := 68) rfl (hb hby d11_42) rfl (teq hc80).1 (by decide) (by decide) k) ?_
    show Go _ _ _ _ (T78.setTop (mkF m 68 #[vR p0, vI (1 : Int32), vI (g29_2 c0 c1)] []))
    refine Go.back (fun t k => XS.iinc X78.here hx rfl (hb hby d11_68) rfl (l' := #[vR p0, vI ((1 : Int32) + (1 : Int32)), vI (g29_2 c0 c1)]) rfl k) ?_
    refine Go.back (fun t k => XS.goto X78.here hx rfl (pc0 := 71) (pc' := 14) rfl (hb hby d11_71) (by decide) (by decide) k) ?_
    show Go _ _ _ _ (T78.setTop (mkF m 14 #[vR p0, vI ((1 : Int32) + (1 : Int32)), vI (g29_2 c0 c1)] []))
    rw [show ((1 : Int32) + (1 : Int32)) = (2 : Int32) from by decide]
    show Go _ _ _ _ (T78.setTop (mkF m 14 #[vR p0, vI (2 : Int32), vI (g29_2 c0 c1)] []))
    refine Go.back (fun t k => XS.iloadN X78.here hx rfl (hb hby d11_14) rfl  k) ?_
    refine Go.back (fun t k => XS.aloadN X78.here hx rfl (hb hby d11_15) rfl rfl  k) ?_
    obtain ⟨T83, X83, e83, st83⟩ := getF X78 hx hZ hown (host := "") (Or.inl (wk hw 109 rfl)) Via.refl e78 F62 (g := (mkF m 16 #[vR p0, vI (2 : Int32), vI (g29_2 c0 c1)] [(.ref p0), (.int (2 : Int32))])) rfl rfl (hb hby d11_16)
    refine Go.back st83 ?_
    show Go _ _ _ _ (T83.setTop (mkF m 19 #[vR p0, vI (2 : Int32), vI (g29_2 c0 c1)] [(.int (2 : Int32)), (.int (2 : Int32))]))
    refine Go.back (fun t k => XS.icmpYes X83.here hx rfl (pc0 := 19) (pc' := 74) rfl (hb hby d11_19) rfl (flt (by decide)).2.1 (by decide) (by decide) k) ?_
    show Go _ _ _ _ (T83.setTop (mkF m 74 #[vR p0, vI (2 : Int32), vI (g29_2 c0 c1)] []))
    refine Go.back (fun t k => XS.aloadN X83.here hx rfl (hb hby d11_74) rfl rfl  k) ?_
    refine Go.back (fun t k => XS.iconst X83.here hx rfl (hb hby d11_75) k) ?_
    obtain ⟨T84, h84, X84, e84, W84, st84⟩ := putF X83 hx hZ hown (host := "") (Or.inl (wk hw 109 rfl)) Via.refl e83 F62 F54 (Or.inl (wk hw 110 rfl)) (wk hw 29 rfl) (ty := .int) (by decide) rfl rfl (g := (mkF m 76 #[vR p0, vI (2 : Int32), vI (g29_2 c0 c1)] [(.int (0 : Int32)), (.ref p0)])) rfl rfl (hb hby d11_76)
    have F85 := F54.wr W84
    have F86 := F55.other W84 (Or.inr (slot_ne (Or.inr (wk hw 35 rfl)) (Or.inl (wk hw 110 rfl)) (by decide) (t := (.object "com/example/onward/onward/check/RequirementRows")) (t' := .int) (by decide) (by decide)))
    have F87 := F56.other W84 (Or.inr (slot_ne (Or.inr (wk hw 39 rfl)) (Or.inl (wk hw 110 rfl)) (by decide) (t := (.array .long)) (t' := .int) (by decide) (by decide)))
    have F88 := F57.other W84 (Or.inr (slot_ne (Or.inl (wk hw 42 rfl)) (Or.inl (wk hw 110 rfl)) (by decide) (t := (.array .int)) (t' := .int) (by decide) (by decide)))
    have F89 := F58.other W84 (Or.inr (slot_ne (Or.inr (wk hw 44 rfl)) (Or.inl (wk hw 110 rfl)) (by decide) (t := .int) (t' := .int) (by decide) (by decide)))
    have F90 := F59.other W84 (Or.inr (slot_ne (Or.inr (wk hw 46 rfl)) (Or.inl (wk hw 110 rfl)) (by decide) (t := .int) (t' := .int) (by decide) (by decide)))
    have F91 := F60.other W84 (Or.inr (slot_ne (Or.inl (wk hw 48 rfl)) (Or.inl (wk hw 110 rfl)) (by decide) (t := .int) (t' := .int) (by decide) (by decide)))
    have F92 := F61.other W84 (Or.inr (slot_ne (Or.inr (wk hw 51 rfl)) (Or.inl (wk hw 110 rfl)) (by decide) (t := (.object "com/example/onward/onward/lts/IntBlocks")) (t' := .int) (by decide) (by decide)))
    have F93 : Fld Z h84 p0 cP "currentCount" "I" (.int (0 : Int32)) := F62.same W84
    have F94 := F63.other W84 (Or.inl (Ne.symm H25))
    have F95 := F64.other W84 (Or.inl (Ne.symm H25))
    have F96 := F65.other W84 (Ne.symm H27)
    have F97 := F66.other W84 (Ne.symm H28)
    have F98 := F67.wr W84
    have F99 := F68.other W84 (Ne.symm H30)
    have F100 := Nat.le_trans F69 (Keep.of_wr W84).1
    have F101 := F70.wr W84 (Or.inl (List.mem_of_getElem? (i := 0) rfl))
    have F102 := F71.other W84 (Ne.symm H26)
    have F103 := F72.other W84 (Or.inl (Ne.symm H29))
    have F104 := F73.other W84 (Or.inl (Ne.symm H29))
    have F105 := F74.other W84 (Ne.symm H31)
    obtain ⟨Lo84, Y84, N84⟩ := pk X84 (Fr.snoc X84 N53 H19)
    refine Go.back st84 ?_
    refine Go.back (fun t k => XS.aloadN Y84.here hx rfl (hb hby d11_79) rfl rfl  k) ?_
    show Go _ _ _ _ (T84.setTop (mkF m 80 #[vR p0, vI (2 : Int32), vI (g29_2 c0 c1)] [(.ref p0)]))
    obtain ⟨T106, X106, e106, st106⟩ := getF Y84 hx hZ hown (host := "") (Or.inl (wk hw 34 rfl)) Via.refl e84 F86 (g := (mkF m 80 #[vR p0, vI (2 : Int32), vI (g29_2 c0 c1)] [(.ref p0)])) rfl rfl (hb hby d11_80)
    refine Go.back st106 ?_
    obtain ⟨T107, X107, e107, st107⟩ := getF X106 hx hZ hown (Or.inr (wk hw 141 rfl)) Via.refl e106 F95 (g := (mkF m 83 #[vR p0, vI (2 : Int32), vI (g29_2 c0 c1)] [(.ref rr)])) rfl rfl (hb hby d11_83)
    refine Go.back st107 ?_
    refine Go.back (fun t k => XS.aloadN X107.here hx rfl (hb hby d11_86) rfl rfl  k) ?_
    obtain ⟨T108, X108, e108, st108⟩ := getF X107 hx hZ hown (host := "") (Or.inl (wk hw 47 rfl)) Via.refl e107 F91 (g := (mkF m 87 #[vR p0, vI (2 : Int32), vI (g29_2 c0 c1)] [(.ref p0), (.ref ss)])) rfl rfl (hb hby d11_87)
    refine Go.back st108 ?_
    show Go _ _ _ _ (T108.setTop (mkF m 90 #[vR p0, vI (2 : Int32), vI (g29_2 c0 c1)] [(.int (0 : Int32)), (.ref ss)]))
    refine Go.back (fun t k => XS.iconst X108.here hx rfl (hb hby d11_90) k) ?_
    refine Go.back (fun t k => XS.iadd X108.here hx rfl (hb hby d11_91) rfl k) ?_
    refine Go.back (fun t k => XS.aloadN X108.here hx rfl (hb hby d11_92) rfl rfl  k) ?_
    obtain ⟨T109, X109, e109, st109⟩ := getF X108 hx hZ hown (host := "") (Or.inl (wk hw 50 rfl)) Via.refl e108 F92 (g := (mkF m 93 #[vR p0, vI (2 : Int32), vI (g29_2 c0 c1)] [(.ref p0), (.int ((0 : Int32) + (1 : Int32))), (.ref ss)])) rfl rfl (hb hby d11_93)
    refine Go.back st109 ?_
    show Go _ _ _ _ (T109.setTop (mkF m 96 #[vR p0, vI (2 : Int32), vI (g29_2 c0 c1)] [(.ref li), (.int ((0 : Int32) + (1 : Int32))), (.ref ss)]))
    obtain ⟨cq110, kq110, q110a, q110b, q110c⟩ := isOf hZ e109 F98
    obtain ⟨_, _, ⟨T110, L110, k110, n110⟩, -, X110, ⟨Lc110, hQ110, l110, y110, z110⟩, st110⟩ := X109.virtualBack hx (y := (⟨"com/example/onward/onward/lts/IntBlocks", "size", "()I"⟩ : MethodName)) (z := (⟨"com/example/onward/onward/lts/IntBlocks", "size", "()I"⟩ : MethodName)) hown (mvT hZ (wk hw 142 rfl)) (mvT hZ (wk hw 143 rfl)) (notFace_of_selects (args := #[]) (mvT hZ (wk hw 145 rfl))) (mvT hZ (wk hw 145 rfl)) (mvT hZ (wk hw 144 rfl)) (by decide) (backOf (W := 2) (rm18 l Z a0 hw [] li (sz + (1 : Int32)) h84 n0 F100 F103) hZ (wk hw 146 rfl) (wk hw 82 rfl) (by decide) (by decide)) q110a q110c (g := (mkF m 96 #[vR p0, vI (2 : Int32), vI (g29_2 c0 c1)] [(.ref li), (.int ((0 : Int32) + (1 : Int32))), (.ref ss)])) rfl (by rw [hml]; rfl) (Steps.refl _) (argsL := []) (rest := [(.int ((0 : Int32) + (1 : Int32))), (.ref ss)]) (lenOf pd_5 rfl) rfl (by show 2 * 0 + _ ≤ _; exact Nat.le_of_eq rfl) (hb hby d11_96) (fun _ _ => ⟨rfl, e109, (by decide : 0 + 0 ≤ _), (by decide : 0 + 0 ≤ _)⟩)
    dsimp only [Pt.U, Pt.locs, Pt.cells, Pt.slots] at X110 l110 y110 z110 st110 hQ110
    subst l110 y110 z110
    obtain ⟨rfl, N110q, e110⟩ := hQ110
    obtain ⟨Lo110, Y110, N110⟩ := pk X110 (Fr.app N84 N110q)
    refine Go.trans st110 ?_
    show Go _ _ _ _ (T110.setTop (mkF m 99 #[vR p0, vI (2 : Int32), vI (g29_2 c0 c1)] [(.int (sz + (1 : Int32))), (.int ((0 : Int32) + (1 : Int32))), (.ref ss)]))
    rw [show ((0 : Int32) + (1 : Int32)) = (1 : Int32) from by decide]
    show Go _ _ _ _ (T110.setTop (mkF m 99 #[vR p0, vI (2 : Int32), vI (g29_2 c0 c1)] [(.int (sz + (1 : Int32))), (.int (1 : Int32)), (.ref ss)]))
    obtain ⟨cl111, Ar111, hi111, -⟩ := F97.at (j := (1 : Int32)) (by decide) (Nat.le_of_ble_eq_true rfl)
    obtain ⟨T111, h111, X111, e111, W111, st111⟩ := stI Y110 hx hZ e110 Ar111 (j := (1 : Int32)) hi111 (g := (mkF m 99 #[vR p0, vI (2 : Int32), vI (g29_2 c0 c1)] [(.int (sz + (1 : Int32))), (.int (1 : Int32)), (.ref ss)])) rfl rfl (hb hby d11_99)
    have F112 := F85.wr W111
    have F113 := F86.other W111 (Or.inl H28)
    have F114 := F87.other W111 (Or.inl H28)
    have F115 := F88.other W111 (Or.inl H28)
    have F116 := F89.other W111 (Or.inl H28)
    have F117 := F90.other W111 (Or.inl H28)
    have F118 := F91.other W111 (Or.inl H28)
    have F119 := F92.other W111 (Or.inl H28)
    have F120 := F93.other W111 (Or.inl H28)
    have F121 := F94.other W111 (Or.inl H34)
    have F122 := F95.other W111 (Or.inl H34)
    have F123 := F96.other W111 H43
    have F124 : ArL Z h111 ss .int [(.int s0), (.int (sz + (1 : Int32))), (.int s2)] := F97.set W111
    have F125 := F98.wr W111
    have F126 := F99.other W111 (Ne.symm H48)
    have F127 := Nat.le_trans F100 (Keep.of_wr W111).1
    have F128 := F101.wr W111 (Or.inl (List.mem_of_getElem? (i := 3) rfl))
    have F129 := F102.other W111 H39
    have F130 := F103.other W111 (Or.inl (Ne.symm H47))
    have F131 := F104.other W111 (Or.inl (Ne.symm H47))
    have F132 := F105.other W111 (Ne.symm H49)
    obtain ⟨Lo111, Y111, N111⟩ := pk X111 (Fr.snoc X111 N110 H22)
    refine Go.back st111 ?_
    show Go _ _ _ _ (T111.setTop (mkF m 100 #[vR p0, vI (2 : Int32), vI (g29_2 c0 c1)] []))
    exact Go.retV Y111 hx Bd.returns (hb hby d11_100) Bd.notSynchronized ⟨rfl, N111, (by rw [e111]; exact F128), (by rw [e111]; exact F113), (by rw [e111]; exact F114), (by rw [e111]; exact F115), (by rw [e111]; exact F116), (by rw [e111]; exact F117), (by rw [e111]; exact F118), (by rw [e111]; exact F119), (by rw [e111]; exact F120), (by rw [e111, r81]; exact F130), (by rw [e111]; exact F131), (by rw [e111]; exact F129), (by rw [e111, r82]; exact F124), ⟨(List.set ys (((((g29_1 c0 c1)).toUInt32 >>> ((6 : Int32) &&& 31).toUInt32).toInt32)).toNatClampNeg ((List.getD ys (((((g29_1 c0 c1)).toUInt32 >>> ((6 : Int32) &&& 31).toUInt32).toInt32)).toNatClampNeg (0 : Int64)) ||| (((1 : Int64) <<< ((g29_1 c0 c1) &&& 0x3f).toInt64)))), by simp, by rw [e111]; exact F123⟩, ⟨(List.set bs (sz).toNatClampNeg (g29_1 c0 c1)), by simp [hbs], by rw [e111]; exact F132⟩⟩ (by decide) (by decide)
  · have r133 := hf9.trans (if_neg hc80)
    have r134 := hf28.trans (if_neg hc80)
    refine Go.back (fun t k => XS.icmpNo X78.here hx rfl (hb hby d11_42) rfl (feq hc80).1 k) ?_
    show Go _ _ _ _ (T78.setTop (mkF m 45 #[vR p0, vI (1 : Int32), vI (g29_2 c0 c1)] []))
    refine Go.back (fun t k => XS.aloadN X78.here hx rfl (hb hby d11_45) rfl rfl  k) ?_
    obtain ⟨T135, X135, e135, st135⟩ := getF X78 hx hZ hown (host := "") (Or.inl (wk hw 50 rfl)) Via.refl e78 F61 (g := (mkF m 46 #[vR p0, vI (1 : Int32), vI (g29_2 c0 c1)] [(.ref p0)])) rfl rfl (hb hby d11_46)
    refine Go.back st135 ?_
    refine Go.back (fun t k => XS.iloadN X135.here hx rfl (hb hby d11_49) rfl  k) ?_
    obtain ⟨cq136, kq136, q136a, q136b, q136c⟩ := isOf hZ e135 F67
    obtain ⟨_, _, ⟨T136, L136, k136, n136⟩, -, X136, ⟨Lc136, hQ136, l136, y136, z136⟩, st136⟩ := X135.virtualBack hx (y := (⟨"com/example/onward/onward/lts/IntBlocks", "add", "(I)V"⟩ : MethodName)) (z := (⟨"com/example/onward/onward/lts/IntBlocks", "add", "(I)V"⟩ : MethodName)) hown (mvT hZ (wk hw 132 rfl)) (mvT hZ (wk hw 133 rfl)) (notFace_of_selects (args := #[]) (mvT hZ (wk hw 135 rfl))) (mvT hZ (wk hw 135 rfl)) (mvT hZ (wk hw 134 rfl)) (by decide) (backOf (W := 0) (rm17 l Z a0 hw [] li (g29_2 c0 c1) (sz + (1 : Int32)) ob bl (List.set bs (sz).toNatClampNeg (g29_1 c0 c1)) h53 n0 F69 F67 F72 F73 F68 F74 H23 H24 H50 H51 H52 (own_sz_next hsz) (by simp [hbs])) hZ (wk hw 136 rfl) (wk hw 82 rfl) (by decide) (by decide)) q136a q136c (g := (mkF m 50 #[vR p0, vI (1 : Int32), vI (g29_2 c0 c1)] [(.int (g29_2 c0 c1)), (.ref li)])) rfl (by rw [hml]; rfl) (Steps.refl _) (argsL := [(.int (g29_2 c0 c1))]) (rest := []) (lenOf pd_4 rfl) rfl (by show 2 * 0 + _ ≤ _; exact Nat.le_of_eq rfl) (hb hby d11_50) (fun _ _ => ⟨rfl, e135, (by decide : 0 + 0 ≤ _), (by decide : 0 + 0 ≤ _)⟩)
    dsimp only [Pt.U, Pt.locs, Pt.cells, Pt.slots] at X136 l136 y136 z136 st136 hQ136
    subst l136 y136 z136
    obtain ⟨h136, e136⟩ : ∃ z, T136.heap = z := ⟨_, rfl⟩
    rw [e136] at hQ136
    obtain ⟨rfl, N136q, K136, F155, F156, F157⟩ := hQ136
    obtain ⟨Lo136, Y136, N136⟩ := pk X136 (Fr.app N53 N136q)
    have F137 := F54.keep K136
    have F138 := F55.keep K136 (ninS H29 (ninS H31 nin0))
    have F139 := F56.keep K136 (ninS H29 (ninS H31 nin0))
    have F140 := F57.keep K136 (ninS H29 (ninS H31 nin0))
    have F141 := F58.keep K136 (ninS H29 (ninS H31 nin0))
    have F142 := F59.keep K136 (ninS H29 (ninS H31 nin0))
    have F143 := F60.keep K136 (ninS H29 (ninS H31 nin0))
    have F144 := F61.keep K136 (ninS H29 (ninS H31 nin0))
    have F145 := F62.keep K136 (ninS H29 (ninS H31 nin0))
    have F146 := F63.keep K136 (ninS H35 (ninS H37 nin0))
    have F147 := F64.keep K136 (ninS H35 (ninS H37 nin0))
    have F148 := F65.keep K136 (ninS H44 (ninS H46 nin0))
    have F149 := F66.keep K136 (ninS H47 (ninS H49 nin0))
    have F150 := F67.keep K136
    have F151 := F68.keep K136 (ninS (Ne.symm H50) (ninS H52 nin0))
    have F152 := Nat.le_trans F69 K136.1
    have F153 := F70.trans K136 (allS (P := fun x => x ∈ [p0, cu, an, ss, li, bl] ∨ h0.size ≤ x) (Or.inl (List.mem_of_getElem? (i := 4) rfl)) (allS (P := fun x => x ∈ [p0, cu, an, ss, li, bl] ∨ h0.size ≤ x) (Or.inl (List.mem_of_getElem? (i := 5) rfl)) all0))
    have F154 := F71.keep K136 (ninS H40 (ninS H42 nin0))
    refine Go.trans st136 ?_
    show Go _ _ _ _ (T136.setTop (mkF m 53 #[vR p0, vI (1 : Int32), vI (g29_2 c0 c1)] []))
    refine Go.back (fun t k => XS.aloadN Y136.here hx rfl (hb hby d11_53) rfl rfl  k) ?_
    obtain ⟨T158, X158, e158, st158⟩ := getF Y136 hx hZ hown (host := "") (Or.inl (wk hw 38 rfl)) Via.refl e136 F139 (g := (mkF m 54 #[vR p0, vI (1 : Int32), vI (g29_2 c0 c1)] [(.ref p0)])) rfl rfl (hb hby d11_54)
    refine Go.back st158 ?_
    refine Go.back (fun t k => XS.iloadN X158.here hx rfl (hb hby d11_57) rfl  k) ?_
    refine Go.back (fun t k => XS.bipush X158.here hx rfl (hb hby d11_58) k) ?_
    show Go _ _ _ _ (T158.setTop (mkF m 60 #[vR p0, vI (1 : Int32), vI (g29_2 c0 c1)] [(.int (6 : Int32)), (.int (g29_2 c0 c1)), (.ref an)]))
    refine Go.back (fun t k => XS.iushr X158.here hx rfl (hb hby d11_60) rfl k) ?_
    refine Go.back (fun t k => Jvm.Free.XT.dup2 X158.here hx rfl (hb hby d11_61) rfl rfl rfl k) ?_
    obtain ⟨cl159, Ar159, hi159, ha159⟩ := F148.get (j := ((((g29_2 c0 c1)).toUInt32 >>> ((6 : Int32) &&& 31).toUInt32).toInt32)) (own_ix0 (own_gb hr0 hr1) hy8) (v := (.long (List.getD (List.set ys (((((g29_1 c0 c1)).toUInt32 >>> ((6 : Int32) &&& 31).toUInt32).toInt32)).toNatClampNeg ((List.getD ys (((((g29_1 c0 c1)).toUInt32 >>> ((6 : Int32) &&& 31).toUInt32).toInt32)).toNatClampNeg (0 : Int64)) ||| (((1 : Int64) <<< ((g29_1 c0 c1) &&& 0x3f).toInt64)))) (((((g29_2 c0 c1)).toUInt32 >>> ((6 : Int32) &&& 31).toUInt32).toInt32)).toNatClampNeg (0 : Int64)))) (getJ (List.set ys (((((g29_1 c0 c1)).toUInt32 >>> ((6 : Int32) &&& 31).toUInt32).toInt32)).toNatClampNeg ((List.getD ys (((((g29_1 c0 c1)).toUInt32 >>> ((6 : Int32) &&& 31).toUInt32).toInt32)).toNatClampNeg (0 : Int64)) ||| (((1 : Int64) <<< ((g29_1 c0 c1) &&& 0x3f).toInt64)))) (by simpa using own_ix1 (own_gb hr0 hr1) hy8))
    refine Go.back (fun t k => X158.laload hx (j := ((((g29_2 c0 c1)).toUInt32 >>> ((6 : Int32) &&& 31).toUInt32).toInt32)) (v := (.long (List.getD (List.set ys (((((g29_1 c0 c1)).toUInt32 >>> ((6 : Int32) &&& 31).toUInt32).toInt32)).toNatClampNeg ((List.getD ys (((((g29_1 c0 c1)).toUInt32 >>> ((6 : Int32) &&& 31).toUInt32).toInt32)).toNatClampNeg (0 : Int64)) ||| (((1 : Int64) <<< ((g29_1 c0 c1) &&& 0x3f).toInt64)))) (((((g29_2 c0 c1)).toUInt32 >>> ((6 : Int32) &&& 31).toUInt32).toInt32)).toNatClampNeg (0 : Int64)))) (by rw [e158]; exact Ar159.1) (State.isArrayOf_alike hZ.alike Ar159.2.1) Ar159.2.2 hi159 ha159 (g := (mkF m 62 #[vR p0, vI (1 : Int32), vI (g29_2 c0 c1)] [(.int ((((g29_2 c0 c1)).toUInt32 >>> ((6 : Int32) &&& 31).toUInt32).toInt32)), (.ref an), (.int ((((g29_2 c0 c1)).toUInt32 >>> ((6 : Int32) &&& 31).toUInt32).toInt32)), (.ref an)])) rfl rfl (hb hby d11_62) t k) ?_
    refine Go.back (fun t k => XS.lconst X158.here hx rfl (hb hby d11_63) k) ?_
    show Go _ _ _ _ (T158.setTop (mkF m 64 #[vR p0, vI (1 : Int32), vI (g29_2 c0 c1)] [(.long (1 : Int64)), (.long (List.getD (List.set ys (((((g29_1 c0 c1)).toUInt32 >>> ((6 : Int32) &&& 31).toUInt32).toInt32)).toNatClampNeg ((List.getD ys (((((g29_1 c0 c1)).toUInt32 >>> ((6 : Int32) &&& 31).toUInt32).toInt32)).toNatClampNeg (0 : Int64)) ||| (((1 : Int64) <<< ((g29_1 c0 c1) &&& 0x3f).toInt64)))) (((((g29_2 c0 c1)).toUInt32 >>> ((6 : Int32) &&& 31).toUInt32).toInt32)).toNatClampNeg (0 : Int64))), (.int ((((g29_2 c0 c1)).toUInt32 >>> ((6 : Int32) &&& 31).toUInt32).toInt32)), (.ref an)]))
    refine Go.back (fun t k => XS.iloadN X158.here hx rfl (hb hby d11_64) rfl  k) ?_
    refine Go.back (fun t k => XS.lshl X158.here hx rfl (hb hby d11_65) rfl k) ?_
    refine Go.back (fun t k => XS.lor X158.here hx rfl (hb hby d11_66) rfl k) ?_
    obtain ⟨cl160, Ar160, hi160, -⟩ := F148.at (j := ((((g29_2 c0 c1)).toUInt32 >>> ((6 : Int32) &&& 31).toUInt32).toInt32)) (own_ix0 (own_gb hr0 hr1) hy8) (by simpa using (own_ix1 (own_gb hr0 hr1) hy8))
    obtain ⟨T160, h160, X160, e160, W160, st160⟩ := stJ X158 hx hZ e158 Ar160 (j := ((((g29_2 c0 c1)).toUInt32 >>> ((6 : Int32) &&& 31).toUInt32).toInt32)) hi160 (g := (mkF m 67 #[vR p0, vI (1 : Int32), vI (g29_2 c0 c1)] [(.long ((List.getD (List.set ys (((((g29_1 c0 c1)).toUInt32 >>> ((6 : Int32) &&& 31).toUInt32).toInt32)).toNatClampNeg ((List.getD ys (((((g29_1 c0 c1)).toUInt32 >>> ((6 : Int32) &&& 31).toUInt32).toInt32)).toNatClampNeg (0 : Int64)) ||| (((1 : Int64) <<< ((g29_1 c0 c1) &&& 0x3f).toInt64)))) (((((g29_2 c0 c1)).toUInt32 >>> ((6 : Int32) &&& 31).toUInt32).toInt32)).toNatClampNeg (0 : Int64)) ||| (((1 : Int64) <<< ((g29_2 c0 c1) &&& 0x3f).toInt64)))), (.int ((((g29_2 c0 c1)).toUInt32 >>> ((6 : Int32) &&& 31).toUInt32).toInt32)), (.ref an)])) rfl rfl (hb hby d11_67)
    have F161 := F137.wr W160
    have F162 := F138.other W160 (Or.inl H27)
    have F163 := F139.other W160 (Or.inl H27)
    have F164 := F140.other W160 (Or.inl H27)
    have F165 := F141.other W160 (Or.inl H27)
    have F166 := F142.other W160 (Or.inl H27)
    have F167 := F143.other W160 (Or.inl H27)
    have F168 := F144.other W160 (Or.inl H27)
    have F169 := F145.other W160 (Or.inl H27)
    have F170 := F146.other W160 (Or.inl H33)
    have F171 := F147.other W160 (Or.inl H33)
    have F172 : ArL Z h160 an .long (List.map Value.long (List.set (List.set ys (((((g29_1 c0 c1)).toUInt32 >>> ((6 : Int32) &&& 31).toUInt32).toInt32)).toNatClampNeg ((List.getD ys (((((g29_1 c0 c1)).toUInt32 >>> ((6 : Int32) &&& 31).toUInt32).toInt32)).toNatClampNeg (0 : Int64)) ||| (((1 : Int64) <<< ((g29_1 c0 c1) &&& 0x3f).toInt64)))) (((((g29_2 c0 c1)).toUInt32 >>> ((6 : Int32) &&& 31).toUInt32).toInt32)).toNatClampNeg ((List.getD (List.set ys (((((g29_1 c0 c1)).toUInt32 >>> ((6 : Int32) &&& 31).toUInt32).toInt32)).toNatClampNeg ((List.getD ys (((((g29_1 c0 c1)).toUInt32 >>> ((6 : Int32) &&& 31).toUInt32).toInt32)).toNatClampNeg (0 : Int64)) ||| (((1 : Int64) <<< ((g29_1 c0 c1) &&& 0x3f).toInt64)))) (((((g29_2 c0 c1)).toUInt32 >>> ((6 : Int32) &&& 31).toUInt32).toInt32)).toNatClampNeg (0 : Int64)) ||| (((1 : Int64) <<< ((g29_2 c0 c1) &&& 0x3f).toInt64))))) := ArL.setJ (xs := (List.set ys (((((g29_1 c0 c1)).toUInt32 >>> ((6 : Int32) &&& 31).toUInt32).toInt32)).toNatClampNeg ((List.getD ys (((((g29_1 c0 c1)).toUInt32 >>> ((6 : Int32) &&& 31).toUInt32).toInt32)).toNatClampNeg (0 : Int64)) ||| (((1 : Int64) <<< ((g29_1 c0 c1) &&& 0x3f).toInt64))))) F148 W160
    have F173 := F149.other W160 (Ne.symm H43)
    have F174 := F150.wr W160
    have F175 := F151.other W160 (Ne.symm H45)
    have F176 := Nat.le_trans F152 (Keep.of_wr W160).1
    have F177 := F153.wr W160 (Or.inl (List.mem_of_getElem? (i := 2) rfl))
    have F178 := F154.other W160 H38
    have F179 := F155.other W160 (Or.inl (Ne.symm H44))
    have F180 := F156.other W160 (Or.inl (Ne.symm H44))
    have F181 := F157.other W160 (Ne.symm H46)
    obtain ⟨Lo160, Y160, N160⟩ := pk X160 (Fr.snoc X160 N136 H21)
    refine Go.back st160 ?_
    show Go _ _ _ _ (T160.setTop (mkF m 68 #[vR p0, vI (1 : Int32), vI (g29_2 c0 c1)] []))
    refine Go.back (fun t k => XS.iinc Y160.here hx rfl (hb hby d11_68) rfl (l' := #[vR p0, vI ((1 : Int32) + (1 : Int32)), vI (g29_2 c0 c1)]) rfl k) ?_
    refine Go.back (fun t k => XS.goto Y160.here hx rfl (pc0 := 71) (pc' := 14) rfl (hb hby d11_71) (by decide) (by decide) k) ?_
    show Go _ _ _ _ (T160.setTop (mkF m 14 #[vR p0, vI ((1 : Int32) + (1 : Int32)), vI (g29_2 c0 c1)] []))
    rw [show ((1 : Int32) + (1 : Int32)) = (2 : Int32) from by decide]
    show Go _ _ _ _ (T160.setTop (mkF m 14 #[vR p0, vI (2 : Int32), vI (g29_2 c0 c1)] []))
    refine Go.back (fun t k => XS.iloadN Y160.here hx rfl (hb hby d11_14) rfl  k) ?_
    refine Go.back (fun t k => XS.aloadN Y160.here hx rfl (hb hby d11_15) rfl rfl  k) ?_
    obtain ⟨T182, X182, e182, st182⟩ := getF Y160 hx hZ hown (host := "") (Or.inl (wk hw 109 rfl)) Via.refl e160 F169 (g := (mkF m 16 #[vR p0, vI (2 : Int32), vI (g29_2 c0 c1)] [(.ref p0), (.int (2 : Int32))])) rfl rfl (hb hby d11_16)
    refine Go.back st182 ?_
    show Go _ _ _ _ (T182.setTop (mkF m 19 #[vR p0, vI (2 : Int32), vI (g29_2 c0 c1)] [(.int (2 : Int32)), (.int (2 : Int32))]))
    refine Go.back (fun t k => XS.icmpYes X182.here hx rfl (pc0 := 19) (pc' := 74) rfl (hb hby d11_19) rfl (flt (by decide)).2.1 (by decide) (by decide) k) ?_
    show Go _ _ _ _ (T182.setTop (mkF m 74 #[vR p0, vI (2 : Int32), vI (g29_2 c0 c1)] []))
    refine Go.back (fun t k => XS.aloadN X182.here hx rfl (hb hby d11_74) rfl rfl  k) ?_
    refine Go.back (fun t k => XS.iconst X182.here hx rfl (hb hby d11_75) k) ?_
    obtain ⟨T183, h183, X183, e183, W183, st183⟩ := putF X182 hx hZ hown (host := "") (Or.inl (wk hw 109 rfl)) Via.refl e182 F169 F161 (Or.inl (wk hw 110 rfl)) (wk hw 29 rfl) (ty := .int) (by decide) rfl rfl (g := (mkF m 76 #[vR p0, vI (2 : Int32), vI (g29_2 c0 c1)] [(.int (0 : Int32)), (.ref p0)])) rfl rfl (hb hby d11_76)
    have F184 := F161.wr W183
    have F185 := F162.other W183 (Or.inr (slot_ne (Or.inr (wk hw 35 rfl)) (Or.inl (wk hw 110 rfl)) (by decide) (t := (.object "com/example/onward/onward/check/RequirementRows")) (t' := .int) (by decide) (by decide)))
    have F186 := F163.other W183 (Or.inr (slot_ne (Or.inr (wk hw 39 rfl)) (Or.inl (wk hw 110 rfl)) (by decide) (t := (.array .long)) (t' := .int) (by decide) (by decide)))
    have F187 := F164.other W183 (Or.inr (slot_ne (Or.inl (wk hw 42 rfl)) (Or.inl (wk hw 110 rfl)) (by decide) (t := (.array .int)) (t' := .int) (by decide) (by decide)))
    have F188 := F165.other W183 (Or.inr (slot_ne (Or.inr (wk hw 44 rfl)) (Or.inl (wk hw 110 rfl)) (by decide) (t := .int) (t' := .int) (by decide) (by decide)))
    have F189 := F166.other W183 (Or.inr (slot_ne (Or.inr (wk hw 46 rfl)) (Or.inl (wk hw 110 rfl)) (by decide) (t := .int) (t' := .int) (by decide) (by decide)))
    have F190 := F167.other W183 (Or.inr (slot_ne (Or.inl (wk hw 48 rfl)) (Or.inl (wk hw 110 rfl)) (by decide) (t := .int) (t' := .int) (by decide) (by decide)))
    have F191 := F168.other W183 (Or.inr (slot_ne (Or.inr (wk hw 51 rfl)) (Or.inl (wk hw 110 rfl)) (by decide) (t := (.object "com/example/onward/onward/lts/IntBlocks")) (t' := .int) (by decide) (by decide)))
    have F192 : Fld Z h183 p0 cP "currentCount" "I" (.int (0 : Int32)) := F169.same W183
    have F193 := F170.other W183 (Or.inl (Ne.symm H25))
    have F194 := F171.other W183 (Or.inl (Ne.symm H25))
    have F195 := F172.other W183 (Ne.symm H27)
    have F196 := F173.other W183 (Ne.symm H28)
    have F197 := F174.wr W183
    have F198 := F175.other W183 (Ne.symm H30)
    have F199 := Nat.le_trans F176 (Keep.of_wr W183).1
    have F200 := F177.wr W183 (Or.inl (List.mem_of_getElem? (i := 0) rfl))
    have F201 := F178.other W183 (Ne.symm H26)
    have F202 := F179.other W183 (Or.inl (Ne.symm H29))
    have F203 := F180.other W183 (Or.inl (Ne.symm H29))
    have F204 := F181.other W183 (Ne.symm H31)
    obtain ⟨Lo183, Y183, N183⟩ := pk X183 (Fr.snoc X183 N160 H19)
    refine Go.back st183 ?_
    refine Go.back (fun t k => XS.aloadN Y183.here hx rfl (hb hby d11_79) rfl rfl  k) ?_
    show Go _ _ _ _ (T183.setTop (mkF m 80 #[vR p0, vI (2 : Int32), vI (g29_2 c0 c1)] [(.ref p0)]))
    obtain ⟨T205, X205, e205, st205⟩ := getF Y183 hx hZ hown (host := "") (Or.inl (wk hw 34 rfl)) Via.refl e183 F185 (g := (mkF m 80 #[vR p0, vI (2 : Int32), vI (g29_2 c0 c1)] [(.ref p0)])) rfl rfl (hb hby d11_80)
    refine Go.back st205 ?_
    obtain ⟨T206, X206, e206, st206⟩ := getF X205 hx hZ hown (Or.inr (wk hw 141 rfl)) Via.refl e205 F194 (g := (mkF m 83 #[vR p0, vI (2 : Int32), vI (g29_2 c0 c1)] [(.ref rr)])) rfl rfl (hb hby d11_83)
    refine Go.back st206 ?_
    refine Go.back (fun t k => XS.aloadN X206.here hx rfl (hb hby d11_86) rfl rfl  k) ?_
    obtain ⟨T207, X207, e207, st207⟩ := getF X206 hx hZ hown (host := "") (Or.inl (wk hw 47 rfl)) Via.refl e206 F190 (g := (mkF m 87 #[vR p0, vI (2 : Int32), vI (g29_2 c0 c1)] [(.ref p0), (.ref ss)])) rfl rfl (hb hby d11_87)
    refine Go.back st207 ?_
    show Go _ _ _ _ (T207.setTop (mkF m 90 #[vR p0, vI (2 : Int32), vI (g29_2 c0 c1)] [(.int (0 : Int32)), (.ref ss)]))
    refine Go.back (fun t k => XS.iconst X207.here hx rfl (hb hby d11_90) k) ?_
    refine Go.back (fun t k => XS.iadd X207.here hx rfl (hb hby d11_91) rfl k) ?_
    refine Go.back (fun t k => XS.aloadN X207.here hx rfl (hb hby d11_92) rfl rfl  k) ?_
    obtain ⟨T208, X208, e208, st208⟩ := getF X207 hx hZ hown (host := "") (Or.inl (wk hw 50 rfl)) Via.refl e207 F191 (g := (mkF m 93 #[vR p0, vI (2 : Int32), vI (g29_2 c0 c1)] [(.ref p0), (.int ((0 : Int32) + (1 : Int32))), (.ref ss)])) rfl rfl (hb hby d11_93)
    refine Go.back st208 ?_
    show Go _ _ _ _ (T208.setTop (mkF m 96 #[vR p0, vI (2 : Int32), vI (g29_2 c0 c1)] [(.ref li), (.int ((0 : Int32) + (1 : Int32))), (.ref ss)]))
    obtain ⟨cq209, kq209, q209a, q209b, q209c⟩ := isOf hZ e208 F197
    obtain ⟨_, _, ⟨T209, L209, k209, n209⟩, -, X209, ⟨Lc209, hQ209, l209, y209, z209⟩, st209⟩ := X208.virtualBack hx (y := (⟨"com/example/onward/onward/lts/IntBlocks", "size", "()I"⟩ : MethodName)) (z := (⟨"com/example/onward/onward/lts/IntBlocks", "size", "()I"⟩ : MethodName)) hown (mvT hZ (wk hw 142 rfl)) (mvT hZ (wk hw 143 rfl)) (notFace_of_selects (args := #[]) (mvT hZ (wk hw 145 rfl))) (mvT hZ (wk hw 145 rfl)) (mvT hZ (wk hw 144 rfl)) (by decide) (backOf (W := 2) (rm18 l Z a0 hw [] li ((sz + (1 : Int32)) + (1 : Int32)) h183 n0 F199 F202) hZ (wk hw 146 rfl) (wk hw 82 rfl) (by decide) (by decide)) q209a q209c (g := (mkF m 96 #[vR p0, vI (2 : Int32), vI (g29_2 c0 c1)] [(.ref li), (.int ((0 : Int32) + (1 : Int32))), (.ref ss)])) rfl (by rw [hml]; rfl) (Steps.refl _) (argsL := []) (rest := [(.int ((0 : Int32) + (1 : Int32))), (.ref ss)]) (lenOf pd_5 rfl) rfl (by show 2 * 0 + _ ≤ _; exact Nat.le_of_eq rfl) (hb hby d11_96) (fun _ _ => ⟨rfl, e208, (by decide : 0 + 0 ≤ _), (by decide : 0 + 0 ≤ _)⟩)
    dsimp only [Pt.U, Pt.locs, Pt.cells, Pt.slots] at X209 l209 y209 z209 st209 hQ209
    subst l209 y209 z209
    obtain ⟨rfl, N209q, e209⟩ := hQ209
    obtain ⟨Lo209, Y209, N209⟩ := pk X209 (Fr.app N183 N209q)
    refine Go.trans st209 ?_
    show Go _ _ _ _ (T209.setTop (mkF m 99 #[vR p0, vI (2 : Int32), vI (g29_2 c0 c1)] [(.int ((sz + (1 : Int32)) + (1 : Int32))), (.int ((0 : Int32) + (1 : Int32))), (.ref ss)]))
    rw [show ((0 : Int32) + (1 : Int32)) = (1 : Int32) from by decide]
    show Go _ _ _ _ (T209.setTop (mkF m 99 #[vR p0, vI (2 : Int32), vI (g29_2 c0 c1)] [(.int ((sz + (1 : Int32)) + (1 : Int32))), (.int (1 : Int32)), (.ref ss)]))
    obtain ⟨cl210, Ar210, hi210, -⟩ := F196.at (j := (1 : Int32)) (by decide) (Nat.le_of_ble_eq_true rfl)
    obtain ⟨T210, h210, X210, e210, W210, st210⟩ := stI Y209 hx hZ e209 Ar210 (j := (1 : Int32)) hi210 (g := (mkF m 99 #[vR p0, vI (2 : Int32), vI (g29_2 c0 c1)] [(.int ((sz + (1 : Int32)) + (1 : Int32))), (.int (1 : Int32)), (.ref ss)])) rfl rfl (hb hby d11_99)
    have F211 := F184.wr W210
    have F212 := F185.other W210 (Or.inl H28)
    have F213 := F186.other W210 (Or.inl H28)
    have F214 := F187.other W210 (Or.inl H28)
    have F215 := F188.other W210 (Or.inl H28)
    have F216 := F189.other W210 (Or.inl H28)
    have F217 := F190.other W210 (Or.inl H28)
    have F218 := F191.other W210 (Or.inl H28)
    have F219 := F192.other W210 (Or.inl H28)
    have F220 := F193.other W210 (Or.inl H34)
    have F221 := F194.other W210 (Or.inl H34)
    have F222 := F195.other W210 H43
    have F223 : ArL Z h210 ss .int [(.int s0), (.int ((sz + (1 : Int32)) + (1 : Int32))), (.int s2)] := F196.set W210
    have F224 := F197.wr W210
    have F225 := F198.other W210 (Ne.symm H48)
    have F226 := Nat.le_trans F199 (Keep.of_wr W210).1
    have F227 := F200.wr W210 (Or.inl (List.mem_of_getElem? (i := 3) rfl))
    have F228 := F201.other W210 H39
    have F229 := F202.other W210 (Or.inl (Ne.symm H47))
    have F230 := F203.other W210 (Or.inl (Ne.symm H47))
    have F231 := F204.other W210 (Ne.symm H49)
    obtain ⟨Lo210, Y210, N210⟩ := pk X210 (Fr.snoc X210 N209 H22)
    refine Go.back st210 ?_
    show Go _ _ _ _ (T210.setTop (mkF m 100 #[vR p0, vI (2 : Int32), vI (g29_2 c0 c1)] []))
    exact Go.retV Y210 hx Bd.returns (hb hby d11_100) Bd.notSynchronized ⟨rfl, N210, (by rw [e210]; exact F227), (by rw [e210]; exact F212), (by rw [e210]; exact F213), (by rw [e210]; exact F214), (by rw [e210]; exact F215), (by rw [e210]; exact F216), (by rw [e210]; exact F217), (by rw [e210]; exact F218), (by rw [e210]; exact F219), (by rw [e210, r133]; exact F229), (by rw [e210]; exact F230), (by rw [e210]; exact F228), (by rw [e210, r134]; exact F223), ⟨(List.set (List.set ys (((((g29_1 c0 c1)).toUInt32 >>> ((6 : Int32) &&& 31).toUInt32).toInt32)).toNatClampNeg ((List.getD ys (((((g29_1 c0 c1)).toUInt32 >>> ((6 : Int32) &&& 31).toUInt32).toInt32)).toNatClampNeg (0 : Int64)) ||| (((1 : Int64) <<< ((g29_1 c0 c1) &&& 0x3f).toInt64)))) (((((g29_2 c0 c1)).toUInt32 >>> ((6 : Int32) &&& 31).toUInt32).toInt32)).toNatClampNeg ((List.getD (List.set ys (((((g29_1 c0 c1)).toUInt32 >>> ((6 : Int32) &&& 31).toUInt32).toInt32)).toNatClampNeg ((List.getD ys (((((g29_1 c0 c1)).toUInt32 >>> ((6 : Int32) &&& 31).toUInt32).toInt32)).toNatClampNeg (0 : Int64)) ||| (((1 : Int64) <<< ((g29_1 c0 c1) &&& 0x3f).toInt64)))) (((((g29_2 c0 c1)).toUInt32 >>> ((6 : Int32) &&& 31).toUInt32).toInt32)).toNatClampNeg (0 : Int64)) ||| (((1 : Int64) <<< ((g29_2 c0 c1) &&& 0x3f).toInt64)))), by simp, by rw [e210]; exact F222⟩, ⟨(List.set (List.set bs (sz).toNatClampNeg (g29_1 c0 c1)) ((sz + (1 : Int32))).toNatClampNeg (g29_2 c0 c1)), by simp [hbs], by rw [e210]; exact F231⟩⟩ (by decide) (by decide)
def Q43 (Z : State) (p0 : Addr) (rr : Addr) (cu : Addr) (an : Addr) (ss : Addr) (li : Addr) (ob : Addr) (bl : Addr) (c0 : Int32) (c1 : Int32) (sz : Int32) (s0 : Int32) (s1 : Int32) (s2 : Int32) (ys : List Int64) (bs : List Int32) (h0 : Heap) (n0 : Nat) (v : Option Value) (h : Heap) (L : List Loc) : Prop := v = none ∧ Fr n0 L ∧ Keep h0 h [p0, cu, an, ss, li, bl] ∧ Fld Z h p0 cP "this$0" dR (.ref rr) ∧ Fld Z h p0 cP "anywhere" "[J" (.ref an) ∧ Fld Z h p0 cP "current" "[I" (.ref cu) ∧ Fld Z h p0 cP "first" "I" (.int (0 : Int32)) ∧ Fld Z h p0 cP "end" "I" (.int (2 : Int32)) ∧ Fld Z h p0 cP "filling" "I" (.int (1 : Int32)) ∧ Fld Z h p0 cP "listed" dI (.ref li) ∧ Fld Z h p0 cP "currentCount" "I" (.int (0 : Int32)) ∧ Fld Z h li cI "size" "I" (.int (g42_9 c0 c1 sz s0 s1 s2)) ∧ Fld Z h li cI "blocks" "[[I" (.ref ob) ∧ ArL Z h cu .int [(.int (g29_1 c0 c1)), (.int (g29_2 c0 c1)), (.int (0 : Int32)), (.int (0 : Int32)), (.int (0 : Int32)), (.int (0 : Int32)), (.int (0 : Int32)), (.int (0 : Int32)), (.int (0 : Int32)), (.int (0 : Int32)), (.int (0 : Int32)), (.int (0 : Int32)), (.int (0 : Int32)), (.int (0 : Int32)), (.int (0 : Int32)), (.int (0 : Int32))] ∧ ArL Z h ss .int [(.int s0), (.int (g42_28 c0 c1 sz s0 s1 s2)), (.int s2)] ∧ (∃ G : List Int64, G.length = ys.length ∧ ArL Z h an .long (List.map Value.long G)) ∧ (∃ B : List Int32, B.length = 16 ∧ ArL Z h bl .int (List.map Value.int B))
abbrev rmm43 : Room := { frames := 5, cells := 0, slots := 0, locals := 95 }
abbrev P43 (Z : State) (p0 : Addr) (rr : Addr) (cu : Addr) (an : Addr) (ss : Addr) (li : Addr) (ob : Addr) (bl : Addr) (c0 : Int32) (c1 : Int32) (sz : Int32) (s0 : Int32) (s1 : Int32) (s2 : Int32) (ys : List Int64) (bs : List Int32) (h0 : Heap) (n0 : Nat) (s : State) : Outcome → State → Prop := fun o U' => ∃ v L, o = .returned v ∧ Q43 Z p0 rr cu an ss li ob bl c0 c1 sz s0 s1 s2 ys bs h0 n0 v U'.heap L ∧ FrameEnd s o U' L rmm43.cells rmm43.slots
theorem pn_43 : plainName "com/example/onward/onward/check/RequirementRows$Part" = true := by first | (simp [plainName, overriddenIn]; done) | decide +kernel
theorem ef_43 (m : MethodId) (p0 : Addr) : entryFrame m #[(.ref p0)] 2 = mkF m 0 #[vR p0, uS] [] := by first | (simp [entryFrame, mkF, argsToLocals, Value.category]; done) | rfl
set_option maxRecDepth 65536 in
set_option maxHeartbeats 40000000 in
theorem rm43 (l : Launch) (Z : State) (a0 : Array Value) (hw : ∀ d ∈ tables_1, d.before a0 Z = true) (ws : List Jvm.Cond) (p0 : Addr) (rr : Addr) (cu : Addr) (an : Addr) (ss : Addr) (li : Addr) (ob : Addr) (bl : Addr) (c0 : Int32) (c1 : Int32) (sz : Int32) (s0 : Int32) (s1 : Int32) (s2 : Int32) (ys : List Int64) (bs : List Int32) (h0 : Heap) (n0 : Nat) (Z0 : n0 ≤ h0.size) (H0 : Exa Z h0 p0 cP) (H1 : Fld Z h0 p0 cP "this$0" dR (.ref rr)) (H2 : Fld Z h0 p0 cP "anywhere" "[J" (.ref an)) (H3 : Fld Z h0 p0 cP "current" "[I" (.ref cu)) (H4 : Fld Z h0 p0 cP "first" "I" (.int (0 : Int32))) (H5 : Fld Z h0 p0 cP "end" "I" (.int (2 : Int32))) (H6 : Fld Z h0 p0 cP "filling" "I" (.int (0 : Int32))) (H7 : Fld Z h0 p0 cP "listed" dI (.ref li)) (H8 : Fld Z h0 p0 cP "currentCount" "I" (.int (2 : Int32))) (H9 : Fld Z h0 rr cR "rows" "[J" .null) (H10 : Fld Z h0 rr cR "starts" "[I" (.ref ss)) (H11 : ArL Z h0 cu .int [(.int c0), (.int c1), (.int (0 : Int32)), (.int (0 : Int32)), (.int (0 : Int32)), (.int (0 : Int32)), (.int (0 : Int32)), (.int (0 : Int32)), (.int (0 : Int32)), (.int (0 : Int32)), (.int (0 : Int32)), (.int (0 : Int32)), (.int (0 : Int32)), (.int (0 : Int32)), (.int (0 : Int32)), (.int (0 : Int32))]) (H12 : ArL Z h0 an .long (List.map Value.long ys)) (H13 : ArL Z h0 ss .int [(.int s0), (.int s1), (.int s2)]) (H14 : Exa Z h0 li cI) (H15 : Fld Z h0 li cI "size" "I" (.int sz)) (H16 : Fld Z h0 li cI "blocks" "[[I" (.ref ob)) (H17 : ArL Z h0 ob (.array .int) [(.ref bl)]) (H18 : ArL Z h0 bl .int (List.map Value.int bs)) (H19 : n0 ≤ p0) (H20 : n0 ≤ cu) (H21 : n0 ≤ an) (H22 : n0 ≤ ss) (H23 : n0 ≤ li) (H24 : n0 ≤ bl) (H25 : p0 ≠ rr) (H26 : p0 ≠ cu) (H27 : p0 ≠ an) (H28 : p0 ≠ ss) (H29 : p0 ≠ li) (H30 : p0 ≠ ob) (H31 : p0 ≠ bl) (H32 : rr ≠ cu) (H33 : rr ≠ an) (H34 : rr ≠ ss) (H35 : rr ≠ li) (H36 : rr ≠ ob) (H37 : rr ≠ bl) (H38 : cu ≠ an) (H39 : cu ≠ ss) (H40 : cu ≠ li) (H41 : cu ≠ ob) (H42 : cu ≠ bl) (H43 : an ≠ ss) (H44 : an ≠ li) (H45 : an ≠ ob) (H46 : an ≠ bl) (H47 : ss ≠ li) (H48 : ss ≠ ob) (H49 : ss ≠ bl) (H50 : li ≠ ob) (H51 : li ≠ bl) (H52 : ob ≠ bl) (hsz : own_sz 2 sz) (hbs : bs.length = 16) (hr0 : own_rng c0 ys.length) (hr1 : own_rng c1 ys.length) (hy8 : ys.length ≤ 8) :
    MetFree l (⟨"com/example/onward/onward/check/RequirementRows$Part", "endState", "()V"⟩ : MethodName) (head1 (Jvm.Cond.code (⟨"com/example/onward/onward/check/RequirementRows$Part", "endState", "()V"⟩ : MethodName) prog_63_method_7_code 2 none :: ws) rmm43) (fun a U => a = #[(.ref p0)] ∧ Z.Warmed39 U.vm ∧ U.heap = h0) (fun _ _ _ _ _ => True) (fun _ U o U' => ∃ v L, o = .returned v ∧ Q43 Z p0 rr cu an ss li ob bl c0 c1 sz s0 s1 s2 ys bs h0 n0 v U'.heap L ∧ FrameEnd U o U' L rmm43.cells rmm43.slots) := by
  refine MetFree.of_bodySF (plainFor_of_name pn_43) hisR ?_
  intro p e s m args below meth c s₁ Bd hml0 hP hK
  obtain ⟨rfl, hZ, hh⟩ := hP
  have hx := Bd.exec
  have hby := Bd.bytes
  have hml : c.maxLocals = 2 := hml0
  have hown : s.vm.findClass "com/example/onward/onward/check/RequirementRows$Part" = some m.cls := findClass_of_methodNamed Bd.named
  have hnm := (name_of_methodNamed Bd.named Bd.method).1
  have X0 : Stand p l e rmm43 s m #[(.ref p0)] below meth c s₁ [] 0 0 := Stand.of_body Bd
  have e0 : s₁.heap = h0 := by rw [← hh, Bd.state]; rfl
  have N0 := Fr.nil n0
  show Go p.tables e below (P43 Z p0 rr cu an ss li ob bl c0 c1 sz s0 s1 s2 ys bs h0 n0 s) (s₁.setTop (entryFrame m #[(.ref p0)] 2))
  refine Go.back (fun t k => castTop (ef_43 m p0) k) ?_
  show Go p.tables e below (P43 Z p0 rr cu an ss li ob bl c0 c1 sz s0 s1 s2 ys bs h0 n0 s) (s₁.setTop (mkF m 0 #[vR p0, uS] []))
  refine Go.back (fun t k => XS.aloadN X0.here hx rfl (hb hby d5_0) rfl rfl  k) ?_
  obtain ⟨T1, X1, e1, st1⟩ := getF X0 hx hZ hown (host := "") (Or.inl (wk hw 34 rfl)) Via.refl e0 H1 (g := (mkF m 1 #[vR p0, uS] [(.ref p0)])) rfl rfl (hb hby d5_1)
  refine Go.back st1 ?_
  obtain ⟨T2, X2, e2, st2⟩ := getF X1 hx hZ hown (Or.inr (wk hw 49 rfl)) Via.refl e1 H9 (g := (mkF m 4 #[vR p0, uS] [(.ref rr)])) rfl rfl (hb hby d5_4)
  refine Go.back st2 ?_
  show Go _ _ _ _ (T2.setTop (mkF m 7 #[vR p0, uS] [.null]))
  refine Go.back (fun t k => XS.ifnullYes X2.here hx rfl (pc0 := 7) (pc' := 63) rfl (hb hby d5_7) rfl (by decide) (by decide) k) ?_
  show Go _ _ _ _ (T2.setTop (mkF m 63 #[vR p0, uS] []))
  refine Go.back (fun t k => XS.aloadN X2.here hx rfl (hb hby d5_63) rfl rfl  k) ?_
  obtain ⟨cq3, q3, q3'⟩ := H0.cell
  obtain ⟨_, _, ⟨T3, L3, k3, n3⟩, -, X3, ⟨Lc3, hQ3, l3, y3, z3⟩, st3⟩ := X2.privateBack hx (y := (⟨"com/example/onward/onward/check/RequirementRows$Part", "endList", "()V"⟩ : MethodName)) hown (mvT hZ (wk hw 111 rfl)) (mvT hZ (wk hw 112 rfl)) (own_selpriv (z := (⟨"com/example/onward/onward/check/RequirementRows$Part", "endState", "()V"⟩ : MethodName)) rfl (mvT hZ (wk hw 55 rfl)) (Cond.privateMethod_at (mvP hZ (wk hw 113 rfl) (args := #[]))) (mvT hZ (wk hw 112 rfl)) (by decide)) (Cond.privateMethod_at (mvP hZ (wk hw 113 rfl) (args := #[]))) (mvT hZ (wk hw 114 rfl)) (by decide) (backOf (W := 0) (rm42 l Z a0 hw [] p0 rr cu an ss li ob bl c0 c1 sz s0 s1 s2 ys bs h0 n0 Z0 H0 H1 H2 H3 H4 H5 H6 H7 H8 H9 H10 H11 H12 H13 H14 H15 H16 H17 H18 H19 H20 H21 H22 H23 H24 H25 H26 H27 H28 H29 H30 H31 H32 H33 H34 H35 H36 H37 H38 H39 H40 H41 H42 H43 H44 H45 H46 H47 H48 H49 H50 H51 H52 hsz hbs hr0 hr1 hy8) hZ (wk hw 114 rfl) (wk hw 30 rfl) (by decide) (by decide)) (g := (mkF m 64 #[vR p0, uS] [(.ref p0)])) rfl (by rw [hml]; rfl) (Steps.refl _) (a := p0) (by rw [e2]; exact q3) q3' (argsL := []) (rest := []) (lenOf pd_6 rfl) rfl (by show 2 * 0 + _ ≤ _; exact Nat.le_of_eq rfl) (hb hby d5_64) (fun _ _ => ⟨rfl, e2, (by decide : 0 + 0 ≤ _), (by decide : 0 + 0 ≤ _)⟩)
  dsimp only [Pt.U, Pt.locs, Pt.cells, Pt.slots] at X3 l3 y3 z3 st3 hQ3
  subst l3 y3 z3
  obtain ⟨h3, e3⟩ : ∃ z, T3.heap = z := ⟨_, rfl⟩
  rw [e3] at hQ3
  obtain ⟨rfl, N3q, K3, F11, F12, F13, F14, F15, F16, F17, F18, F19, F20, F21, F22, t23, t24⟩ := hQ3
  obtain ⟨Lo3, Y3, N3⟩ := pk X3 (Fr.app N0 N3q)
  have F4 := H0.keep K3
  have F5 := H9.keep K3 (ninS (Ne.symm H25) (ninS H32 (ninS H33 (ninS H34 (ninS H35 (ninS H37 nin0))))))
  have F6 := H10.keep K3 (ninS (Ne.symm H25) (ninS H32 (ninS H33 (ninS H34 (ninS H35 (ninS H37 nin0))))))
  have F7 := H14.keep K3
  have F8 := H17.keep K3 (ninS (Ne.symm H30) (ninS (Ne.symm H41) (ninS (Ne.symm H45) (ninS (Ne.symm H48) (ninS (Ne.symm H50) (ninS H52 nin0))))))
  have F9 := Nat.le_trans Z0 K3.1
  have F10 : Keep h0 h3 [p0, cu, an, ss, li, bl] := (Keep.refl h0 [p0, cu, an, ss, li, bl]).trans K3 (allS (P := fun x => x ∈ [p0, cu, an, ss, li, bl] ∨ h0.size ≤ x) (Or.inl (List.mem_of_getElem? (i := 0) rfl)) (allS (P := fun x => x ∈ [p0, cu, an, ss, li, bl] ∨ h0.size ≤ x) (Or.inl (List.mem_of_getElem? (i := 1) rfl)) (allS (P := fun x => x ∈ [p0, cu, an, ss, li, bl] ∨ h0.size ≤ x) (Or.inl (List.mem_of_getElem? (i := 2) rfl)) (allS (P := fun x => x ∈ [p0, cu, an, ss, li, bl] ∨ h0.size ≤ x) (Or.inl (List.mem_of_getElem? (i := 3) rfl)) (allS (P := fun x => x ∈ [p0, cu, an, ss, li, bl] ∨ h0.size ≤ x) (Or.inl (List.mem_of_getElem? (i := 4) rfl)) (allS (P := fun x => x ∈ [p0, cu, an, ss, li, bl] ∨ h0.size ≤ x) (Or.inl (List.mem_of_getElem? (i := 5) rfl)) all0))))))
  obtain ⟨G3, hG3, FG3⟩ := t23
  obtain ⟨B3, hB3, FB3⟩ := t24
  refine Go.trans st3 ?_
  show Go _ _ _ _ (T3.setTop (mkF m 67 #[vR p0, uS] []))
  refine Go.back (fun t k => XS.aloadN Y3.here hx rfl (hb hby d5_67) rfl rfl  k) ?_
  refine Go.back (fun t k => XS.dup Y3.here hx rfl (hb hby d5_68) rfl rfl k) ?_
  obtain ⟨T25, X25, e25, st25⟩ := getF Y3 hx hZ hown (host := "") (Or.inl (wk hw 47 rfl)) Via.refl e3 F16 (g := (mkF m 69 #[vR p0, uS] [(.ref p0), (.ref p0)])) rfl rfl (hb hby d5_69)
  refine Go.back st25 ?_
  refine Go.back (fun t k => XS.iconst X25.here hx rfl (hb hby d5_72) k) ?_
  show Go _ _ _ _ (T25.setTop (mkF m 73 #[vR p0, uS] [(.int (1 : Int32)), (.int (0 : Int32)), (.ref p0)]))
  refine Go.back (fun t k => XS.iadd X25.here hx rfl (hb hby d5_73) rfl k) ?_
  show Go _ _ _ _ (T25.setTop (mkF m 74 #[vR p0, uS] [(.int ((0 : Int32) + (1 : Int32))), (.ref p0)]))
  rw [show ((0 : Int32) + (1 : Int32)) = (1 : Int32) from by decide]
  show Go _ _ _ _ (T25.setTop (mkF m 74 #[vR p0, uS] [(.int (1 : Int32)), (.ref p0)]))
  obtain ⟨T26, h26, X26, e26, W26, st26⟩ := putF X25 hx hZ hown (host := "") (Or.inl (wk hw 47 rfl)) Via.refl e25 F16 F4 (Or.inl (wk hw 48 rfl)) (wk hw 29 rfl) (ty := .int) (by decide) rfl rfl (g := (mkF m 74 #[vR p0, uS] [(.int (1 : Int32)), (.ref p0)])) rfl rfl (hb hby d5_74)
  have F27 := F4.wr W26
  have F28 := F5.other W26 (Or.inl (Ne.symm H25))
  have F29 := F6.other W26 (Or.inl (Ne.symm H25))
  have F30 := F7.wr W26
  have F31 := F8.other W26 (Ne.symm H30)
  have F32 := Nat.le_trans F9 (Keep.of_wr W26).1
  have F33 := F10.wr W26 (Or.inl (List.mem_of_getElem? (i := 0) rfl))
  have F34 := F11.other W26 (Or.inr (slot_ne (Or.inr (wk hw 35 rfl)) (Or.inl (wk hw 48 rfl)) (by decide) (t := (.object "com/example/onward/onward/check/RequirementRows")) (t' := .int) (by decide) (by decide)))
  have F35 := F12.other W26 (Or.inr (slot_ne (Or.inr (wk hw 39 rfl)) (Or.inl (wk hw 48 rfl)) (by decide) (t := (.array .long)) (t' := .int) (by decide) (by decide)))
  have F36 := F13.other W26 (Or.inr (slot_ne (Or.inl (wk hw 42 rfl)) (Or.inl (wk hw 48 rfl)) (by decide) (t := (.array .int)) (t' := .int) (by decide) (by decide)))
  have F37 := F14.other W26 (Or.inr (slot_ne (Or.inr (wk hw 44 rfl)) (Or.inl (wk hw 48 rfl)) (by decide) (t := .int) (t' := .int) (by decide) (by decide)))
  have F38 := F15.other W26 (Or.inr (slot_ne (Or.inr (wk hw 46 rfl)) (Or.inl (wk hw 48 rfl)) (by decide) (t := .int) (t' := .int) (by decide) (by decide)))
  have F39 : Fld Z h26 p0 cP "filling" "I" (.int (1 : Int32)) := F16.same W26
  have F40 := F17.other W26 (Or.inr (slot_ne (Or.inr (wk hw 51 rfl)) (Or.inl (wk hw 48 rfl)) (by decide) (t := (.object "com/example/onward/onward/lts/IntBlocks")) (t' := .int) (by decide) (by decide)))
  have F41 := F18.other W26 (Or.inr (slot_ne (Or.inl (wk hw 110 rfl)) (Or.inl (wk hw 48 rfl)) (by decide) (t := .int) (t' := .int) (by decide) (by decide)))
  have F42 := F19.other W26 (Or.inl (Ne.symm H29))
  have F43 := F20.other W26 (Or.inl (Ne.symm H29))
  have F44 := F21.other W26 (Ne.symm H26)
  have F45 := F22.other W26 (Ne.symm H28)
  have F46 := FG3.other W26 (Ne.symm H27)
  have F47 := FB3.other W26 (Ne.symm H31)
  obtain ⟨Lo26, Y26, N26⟩ := pk X26 (Fr.snoc X26 N3 H19)
  refine Go.back st26 ?_
  show Go _ _ _ _ (T26.setTop (mkF m 77 #[vR p0, uS] []))
  exact Go.retV Y26 hx Bd.returns (hb hby d5_77) Bd.notSynchronized ⟨rfl, N26, (by rw [e26]; exact F33), (by rw [e26]; exact F34), (by rw [e26]; exact F35), (by rw [e26]; exact F36), (by rw [e26]; exact F37), (by rw [e26]; exact F38), (by rw [e26]; exact F39), (by rw [e26]; exact F40), (by rw [e26]; exact F41), (by rw [e26]; exact F42), (by rw [e26]; exact F43), (by rw [e26]; exact F44), (by rw [e26]; exact F45), ⟨G3, (hG3.trans rfl), by rw [e26]; exact F46⟩, ⟨B3, hB3, by rw [e26]; exact F47⟩⟩ (by decide) (by decide)
def Q44 (Z : State) (p0 : Addr) (rr : Addr) (cu : Addr) (an : Addr) (ss : Addr) (li : Addr) (ob : Addr) (bl : Addr) (c0 : Int32) (c1 : Int32) (sz : Int32) (s0 : Int32) (s1 : Int32) (s2 : Int32) (ys : List Int64) (bs : List Int32) (h0 : Heap) (n0 : Nat) (v : Option Value) (h : Heap) (L : List Loc) : Prop := v = none ∧ Fr n0 L ∧ Keep h0 h [p0, cu, an, ss, li, bl] ∧ Fld Z h p0 cP "this$0" dR (.ref rr) ∧ Fld Z h p0 cP "anywhere" "[J" (.ref an) ∧ Fld Z h p0 cP "current" "[I" (.ref cu) ∧ Fld Z h p0 cP "first" "I" (.int (0 : Int32)) ∧ Fld Z h p0 cP "end" "I" (.int (2 : Int32)) ∧ Fld Z h p0 cP "filling" "I" (.int (1 : Int32)) ∧ Fld Z h p0 cP "listed" dI (.ref li) ∧ Fld Z h p0 cP "currentCount" "I" (.int (0 : Int32)) ∧ Fld Z h li cI "size" "I" (.int sz) ∧ Fld Z h li cI "blocks" "[[I" (.ref ob) ∧ ArL Z h cu .int [(.int c0), (.int c1), (.int (0 : Int32)), (.int (0 : Int32)), (.int (0 : Int32)), (.int (0 : Int32)), (.int (0 : Int32)), (.int (0 : Int32)), (.int (0 : Int32)), (.int (0 : Int32)), (.int (0 : Int32)), (.int (0 : Int32)), (.int (0 : Int32)), (.int (0 : Int32)), (.int (0 : Int32)), (.int (0 : Int32))] ∧ ArL Z h ss .int [(.int s0), (.int s1), (.int sz)] ∧ (∃ G : List Int64, G.length = ys.length ∧ ArL Z h an .long (List.map Value.long G)) ∧ (∃ B : List Int32, B.length = 16 ∧ ArL Z h bl .int (List.map Value.int B))
abbrev rmm44 : Room := { frames := 4, cells := 0, slots := 0, locals := 81 }
abbrev P44 (Z : State) (p0 : Addr) (rr : Addr) (cu : Addr) (an : Addr) (ss : Addr) (li : Addr) (ob : Addr) (bl : Addr) (c0 : Int32) (c1 : Int32) (sz : Int32) (s0 : Int32) (s1 : Int32) (s2 : Int32) (ys : List Int64) (bs : List Int32) (h0 : Heap) (n0 : Nat) (s : State) : Outcome → State → Prop := fun o U' => ∃ v L, o = .returned v ∧ Q44 Z p0 rr cu an ss li ob bl c0 c1 sz s0 s1 s2 ys bs h0 n0 v U'.heap L ∧ FrameEnd s o U' L rmm44.cells rmm44.slots
theorem pn_44 : plainName "com/example/onward/onward/check/RequirementRows$Part" = true := by first | (simp [plainName, overriddenIn]; done) | decide +kernel
theorem ef_44 (m : MethodId) (p0 : Addr) : entryFrame m #[(.ref p0)] 3 = mkF m 0 #[vR p0, uS, uS] [] := by first | (simp [entryFrame, mkF, argsToLocals, Value.category]; done) | rfl
set_option maxRecDepth 65536 in
set_option maxHeartbeats 40000000 in
theorem rm44 (l : Launch) (Z : State) (a0 : Array Value) (hw : ∀ d ∈ tables_1, d.before a0 Z = true) (ws : List Jvm.Cond) (p0 : Addr) (rr : Addr) (cu : Addr) (an : Addr) (ss : Addr) (li : Addr) (ob : Addr) (bl : Addr) (c0 : Int32) (c1 : Int32) (sz : Int32) (s0 : Int32) (s1 : Int32) (s2 : Int32) (ys : List Int64) (bs : List Int32) (h0 : Heap) (n0 : Nat) (Z0 : n0 ≤ h0.size) (H0 : Exa Z h0 p0 cP) (H1 : Fld Z h0 p0 cP "this$0" dR (.ref rr)) (H2 : Fld Z h0 p0 cP "anywhere" "[J" (.ref an)) (H3 : Fld Z h0 p0 cP "current" "[I" (.ref cu)) (H4 : Fld Z h0 p0 cP "first" "I" (.int (0 : Int32))) (H5 : Fld Z h0 p0 cP "end" "I" (.int (2 : Int32))) (H6 : Fld Z h0 p0 cP "filling" "I" (.int (1 : Int32))) (H7 : Fld Z h0 p0 cP "listed" dI (.ref li)) (H8 : Fld Z h0 p0 cP "currentCount" "I" (.int (0 : Int32))) (H9 : Fld Z h0 rr cR "rows" "[J" .null) (H10 : Fld Z h0 rr cR "starts" "[I" (.ref ss)) (H11 : ArL Z h0 cu .int [(.int c0), (.int c1), (.int (0 : Int32)), (.int (0 : Int32)), (.int (0 : Int32)), (.int (0 : Int32)), (.int (0 : Int32)), (.int (0 : Int32)), (.int (0 : Int32)), (.int (0 : Int32)), (.int (0 : Int32)), (.int (0 : Int32)), (.int (0 : Int32)), (.int (0 : Int32)), (.int (0 : Int32)), (.int (0 : Int32))]) (H12 : ArL Z h0 an .long (List.map Value.long ys)) (H13 : ArL Z h0 ss .int [(.int s0), (.int s1), (.int s2)]) (H14 : Exa Z h0 li cI) (H15 : Fld Z h0 li cI "size" "I" (.int sz)) (H16 : Fld Z h0 li cI "blocks" "[[I" (.ref ob)) (H17 : ArL Z h0 ob (.array .int) [(.ref bl)]) (H18 : ArL Z h0 bl .int (List.map Value.int bs)) (H19 : n0 ≤ p0) (H20 : n0 ≤ cu) (H21 : n0 ≤ an) (H22 : n0 ≤ ss) (H23 : n0 ≤ li) (H24 : n0 ≤ bl) (H25 : p0 ≠ rr) (H26 : p0 ≠ cu) (H27 : p0 ≠ an) (H28 : p0 ≠ ss) (H29 : p0 ≠ li) (H30 : p0 ≠ ob) (H31 : p0 ≠ bl) (H32 : rr ≠ cu) (H33 : rr ≠ an) (H34 : rr ≠ ss) (H35 : rr ≠ li) (H36 : rr ≠ ob) (H37 : rr ≠ bl) (H38 : cu ≠ an) (H39 : cu ≠ ss) (H40 : cu ≠ li) (H41 : cu ≠ ob) (H42 : cu ≠ bl) (H43 : an ≠ ss) (H44 : an ≠ li) (H45 : an ≠ ob) (H46 : an ≠ bl) (H47 : ss ≠ li) (H48 : ss ≠ ob) (H49 : ss ≠ bl) (H50 : li ≠ ob) (H51 : li ≠ bl) (H52 : ob ≠ bl) (hsz : own_sz 2 sz) (hbs : bs.length = 16) (hy8 : ys.length ≤ 8) :
    MetFree l (⟨"com/example/onward/onward/check/RequirementRows$Part", "endList", "()V"⟩ : MethodName) (head1 (Jvm.Cond.code (⟨"com/example/onward/onward/check/RequirementRows$Part", "endList", "()V"⟩ : MethodName) prog_63_method_8_code 3 none :: ws) rmm44) (fun a U => a = #[(.ref p0)] ∧ Z.Warmed39 U.vm ∧ U.heap = h0) (fun _ _ _ _ _ => True) (fun _ U o U' => ∃ v L, o = .returned v ∧ Q44 Z p0 rr cu an ss li ob bl c0 c1 sz s0 s1 s2 ys bs h0 n0 v U'.heap L ∧ FrameEnd U o U' L rmm44.cells rmm44.slots) := by
  refine MetFree.of_bodySF (plainFor_of_name pn_44) hisR ?_
  intro p e s m args below meth c s₁ Bd hml0 hP hK
  obtain ⟨rfl, hZ, hh⟩ := hP
  have hx := Bd.exec
  have hby := Bd.bytes
  have hml : c.maxLocals = 3 := hml0
  have hown : s.vm.findClass "com/example/onward/onward/check/RequirementRows$Part" = some m.cls := findClass_of_methodNamed Bd.named
  have hnm := (name_of_methodNamed Bd.named Bd.method).1
  have X0 : Stand p l e rmm44 s m #[(.ref p0)] below meth c s₁ [] 0 0 := Stand.of_body Bd
  have e0 : s₁.heap = h0 := by rw [← hh, Bd.state]; rfl
  have N0 := Fr.nil n0
  show Go p.tables e below (P44 Z p0 rr cu an ss li ob bl c0 c1 sz s0 s1 s2 ys bs h0 n0 s) (s₁.setTop (entryFrame m #[(.ref p0)] 3))
  refine Go.back (fun t k => castTop (ef_44 m p0) k) ?_
  show Go p.tables e below (P44 Z p0 rr cu an ss li ob bl c0 c1 sz s0 s1 s2 ys bs h0 n0 s) (s₁.setTop (mkF m 0 #[vR p0, uS, uS] []))
  refine Go.back (fun t k => XS.aloadN X0.here hx rfl (hb hby d11_0) rfl rfl  k) ?_
  obtain ⟨T1, X1, e1, st1⟩ := getF X0 hx hZ hown (host := "") (Or.inl (wk hw 41 rfl)) Via.refl e0 H3 (g := (mkF m 1 #[vR p0, uS, uS] [(.ref p0)])) rfl rfl (hb hby d11_1)
  refine Go.back st1 ?_
  refine Go.back (fun t k => XS.iconst X1.here hx rfl (hb hby d11_4) k) ?_
  refine Go.back (fun t k => XS.aloadN X1.here hx rfl (hb hby d11_5) rfl rfl  k) ?_
  show Go _ _ _ _ (T1.setTop (mkF m 6 #[vR p0, uS, uS] [(.ref p0), (.int (0 : Int32)), (.ref cu)]))
  obtain ⟨T2, X2, e2, st2⟩ := getF X1 hx hZ hown (host := "") (Or.inl (wk hw 109 rfl)) Via.refl e1 H8 (g := (mkF m 6 #[vR p0, uS, uS] [(.ref p0), (.int (0 : Int32)), (.ref cu)])) rfl rfl (hb hby d11_6)
  refine Go.back st2 ?_
  obtain ⟨_, _, ⟨T3, L3, k3, n3⟩, -, X3, ⟨Lc3, hQ3, l3, y3, z3⟩, st3⟩ := Jvm.LawKit.callS X2 hx (y := (⟨"java/util/Arrays", "sort", "([III)V"⟩ : MethodName)) hown (mvT hZ (wk hw 115 rfl)) (mvT hZ (wk hw 116 rfl)) (mvT hZ (wk hw 117 rfl)) (mvT hZ (wk hw 118 rfl)) (by decide) (backOf (W := 0) (rm23 l Z a0 hw [] cu c0 c1 h0 n0 Z0 H11 H20) hZ (wk hw 118 rfl) (wk hw 117 rfl) (by decide) (by decide)) (g := (mkF m 9 #[vR p0, uS, uS] [(.int (0 : Int32)), (.int (0 : Int32)), (.ref cu)])) rfl (by rw [hml]; rfl) (argsL := [(.ref cu), (.int (0 : Int32)), (.int (0 : Int32))]) (rest := []) (lenOf pd_0 rfl) rfl (by show 2 * 0 + _ ≤ _; exact Nat.le_of_eq rfl) (hb hby d11_9) (fun _ _ => ⟨rfl, e2, (by decide : 0 + 0 ≤ _), (by decide : 0 + 0 ≤ _)⟩)
  dsimp only [Pt.U, Pt.locs, Pt.cells, Pt.slots] at X3 l3 y3 z3 st3 hQ3
  subst l3 y3 z3
  obtain ⟨h3, e3⟩ : ∃ z, T3.heap = z := ⟨_, rfl⟩
  rw [e3] at hQ3
  obtain ⟨rfl, N3q, K3, F24⟩ := hQ3
  obtain ⟨Lo3, Y3, N3⟩ := pk X3 (Fr.app N0 N3q)
  have F4 := H0.keep K3
  have F5 := H1.keep K3 (ninS H26 nin0)
  have F6 := H2.keep K3 (ninS H26 nin0)
  have F7 := H3.keep K3 (ninS H26 nin0)
  have F8 := H4.keep K3 (ninS H26 nin0)
  have F9 := H5.keep K3 (ninS H26 nin0)
  have F10 := H6.keep K3 (ninS H26 nin0)
  have F11 := H7.keep K3 (ninS H26 nin0)
  have F12 := H8.keep K3 (ninS H26 nin0)
  have F13 := H9.keep K3 (ninS H32 nin0)
  have F14 := H10.keep K3 (ninS H32 nin0)
  have F15 := H12.keep K3 (ninS (Ne.symm H38) nin0)
  have F16 := H13.keep K3 (ninS (Ne.symm H39) nin0)
  have F17 := H14.keep K3
  have F18 := H15.keep K3 (ninS (Ne.symm H40) nin0)
  have F19 := H16.keep K3 (ninS (Ne.symm H40) nin0)
  have F20 := H17.keep K3 (ninS (Ne.symm H41) nin0)
  have F21 := H18.keep K3 (ninS (Ne.symm H42) nin0)
  have F22 := Nat.le_trans Z0 K3.1
  have F23 : Keep h0 h3 [p0, cu, an, ss, li, bl] := (Keep.refl h0 [p0, cu, an, ss, li, bl]).trans K3 (allS (P := fun x => x ∈ [p0, cu, an, ss, li, bl] ∨ h0.size ≤ x) (Or.inl (List.mem_of_getElem? (i := 1) rfl)) all0)
  refine Go.back st3 ?_
  show Go _ _ _ _ (T3.setTop (mkF m 12 #[vR p0, uS, uS] []))
  refine Go.back (fun t k => XS.iconst Y3.here hx rfl (hb hby d11_12) k) ?_
  refine Go.back (fun t k => XS.istoreN Y3.here hx rfl (hb hby d11_13) rfl (l' := #[vR p0, vI (0 : Int32), uS]) rfl k) ?_
  show Go _ _ _ _ (T3.setTop (mkF m 14 #[vR p0, vI (0 : Int32), uS] []))
  refine Go.back (fun t k => XS.iloadN Y3.here hx rfl (hb hby d11_14) rfl  k) ?_
  refine Go.back (fun t k => XS.aloadN Y3.here hx rfl (hb hby d11_15) rfl rfl  k) ?_
  obtain ⟨T25, X25, e25, st25⟩ := getF Y3 hx hZ hown (host := "") (Or.inl (wk hw 109 rfl)) Via.refl e3 F12 (g := (mkF m 16 #[vR p0, vI (0 : Int32), uS] [(.ref p0), (.int (0 : Int32))])) rfl rfl (hb hby d11_16)
  refine Go.back st25 ?_
  show Go _ _ _ _ (T25.setTop (mkF m 19 #[vR p0, vI (0 : Int32), uS] [(.int (0 : Int32)), (.int (0 : Int32))]))
  refine Go.back (fun t k => XS.icmpYes X25.here hx rfl (pc0 := 19) (pc' := 74) rfl (hb hby d11_19) rfl (flt (by decide)).2.1 (by decide) (by decide) k) ?_
  show Go _ _ _ _ (T25.setTop (mkF m 74 #[vR p0, vI (0 : Int32), uS] []))
  refine Go.back (fun t k => XS.aloadN X25.here hx rfl (hb hby d11_74) rfl rfl  k) ?_
  refine Go.back (fun t k => XS.iconst X25.here hx rfl (hb hby d11_75) k) ?_
  obtain ⟨T26, h26, X26, e26, W26, st26⟩ := putF X25 hx hZ hown (host := "") (Or.inl (wk hw 109 rfl)) Via.refl e25 F12 F4 (Or.inl (wk hw 110 rfl)) (wk hw 29 rfl) (ty := .int) (by decide) rfl rfl (g := (mkF m 76 #[vR p0, vI (0 : Int32), uS] [(.int (0 : Int32)), (.ref p0)])) rfl rfl (hb hby d11_76)
  have F27 := F4.wr W26
  have F28 := F5.other W26 (Or.inr (slot_ne (Or.inr (wk hw 35 rfl)) (Or.inl (wk hw 110 rfl)) (by decide) (t := (.object "com/example/onward/onward/check/RequirementRows")) (t' := .int) (by decide) (by decide)))
  have F29 := F6.other W26 (Or.inr (slot_ne (Or.inr (wk hw 39 rfl)) (Or.inl (wk hw 110 rfl)) (by decide) (t := (.array .long)) (t' := .int) (by decide) (by decide)))
  have F30 := F7.other W26 (Or.inr (slot_ne (Or.inl (wk hw 42 rfl)) (Or.inl (wk hw 110 rfl)) (by decide) (t := (.array .int)) (t' := .int) (by decide) (by decide)))
  have F31 := F8.other W26 (Or.inr (slot_ne (Or.inr (wk hw 44 rfl)) (Or.inl (wk hw 110 rfl)) (by decide) (t := .int) (t' := .int) (by decide) (by decide)))
  have F32 := F9.other W26 (Or.inr (slot_ne (Or.inr (wk hw 46 rfl)) (Or.inl (wk hw 110 rfl)) (by decide) (t := .int) (t' := .int) (by decide) (by decide)))
  have F33 := F10.other W26 (Or.inr (slot_ne (Or.inl (wk hw 48 rfl)) (Or.inl (wk hw 110 rfl)) (by decide) (t := .int) (t' := .int) (by decide) (by decide)))
  have F34 := F11.other W26 (Or.inr (slot_ne (Or.inr (wk hw 51 rfl)) (Or.inl (wk hw 110 rfl)) (by decide) (t := (.object "com/example/onward/onward/lts/IntBlocks")) (t' := .int) (by decide) (by decide)))
  have F35 := F12.same W26
  have F36 := F13.other W26 (Or.inl (Ne.symm H25))
  have F37 := F14.other W26 (Or.inl (Ne.symm H25))
  have F38 := F15.other W26 (Ne.symm H27)
  have F39 := F16.other W26 (Ne.symm H28)
  have F40 := F17.wr W26
  have F41 := F18.other W26 (Or.inl (Ne.symm H29))
  have F42 := F19.other W26 (Or.inl (Ne.symm H29))
  have F43 := F20.other W26 (Ne.symm H30)
  have F44 := F21.other W26 (Ne.symm H31)
  have F45 := Nat.le_trans F22 (Keep.of_wr W26).1
  have F46 := F23.wr W26 (Or.inl (List.mem_of_getElem? (i := 0) rfl))
  have F47 := F24.other W26 (Ne.symm H26)
  obtain ⟨Lo26, Y26, N26⟩ := pk X26 (Fr.snoc X26 N3 H19)
  refine Go.back st26 ?_
  refine Go.back (fun t k => XS.aloadN Y26.here hx rfl (hb hby d11_79) rfl rfl  k) ?_
  show Go _ _ _ _ (T26.setTop (mkF m 80 #[vR p0, vI (0 : Int32), uS] [(.ref p0)]))
  obtain ⟨T48, X48, e48, st48⟩ := getF Y26 hx hZ hown (host := "") (Or.inl (wk hw 34 rfl)) Via.refl e26 F28 (g := (mkF m 80 #[vR p0, vI (0 : Int32), uS] [(.ref p0)])) rfl rfl (hb hby d11_80)
  refine Go.back st48 ?_
  obtain ⟨T49, X49, e49, st49⟩ := getF X48 hx hZ hown (Or.inr (wk hw 141 rfl)) Via.refl e48 F37 (g := (mkF m 83 #[vR p0, vI (0 : Int32), uS] [(.ref rr)])) rfl rfl (hb hby d11_83)
  refine Go.back st49 ?_
  refine Go.back (fun t k => XS.aloadN X49.here hx rfl (hb hby d11_86) rfl rfl  k) ?_
  obtain ⟨T50, X50, e50, st50⟩ := getF X49 hx hZ hown (host := "") (Or.inl (wk hw 47 rfl)) Via.refl e49 F33 (g := (mkF m 87 #[vR p0, vI (0 : Int32), uS] [(.ref p0), (.ref ss)])) rfl rfl (hb hby d11_87)
  refine Go.back st50 ?_
  show Go _ _ _ _ (T50.setTop (mkF m 90 #[vR p0, vI (0 : Int32), uS] [(.int (1 : Int32)), (.ref ss)]))
  refine Go.back (fun t k => XS.iconst X50.here hx rfl (hb hby d11_90) k) ?_
  refine Go.back (fun t k => XS.iadd X50.here hx rfl (hb hby d11_91) rfl k) ?_
  refine Go.back (fun t k => XS.aloadN X50.here hx rfl (hb hby d11_92) rfl rfl  k) ?_
  obtain ⟨T51, X51, e51, st51⟩ := getF X50 hx hZ hown (host := "") (Or.inl (wk hw 50 rfl)) Via.refl e50 F34 (g := (mkF m 93 #[vR p0, vI (0 : Int32), uS] [(.ref p0), (.int ((1 : Int32) + (1 : Int32))), (.ref ss)])) rfl rfl (hb hby d11_93)
  refine Go.back st51 ?_
  show Go _ _ _ _ (T51.setTop (mkF m 96 #[vR p0, vI (0 : Int32), uS] [(.ref li), (.int ((1 : Int32) + (1 : Int32))), (.ref ss)]))
  obtain ⟨cq52, kq52, q52a, q52b, q52c⟩ := isOf hZ e51 F40
  obtain ⟨_, _, ⟨T52, L52, k52, n52⟩, -, X52, ⟨Lc52, hQ52, l52, y52, z52⟩, st52⟩ := X51.virtualBack hx (y := (⟨"com/example/onward/onward/lts/IntBlocks", "size", "()I"⟩ : MethodName)) (z := (⟨"com/example/onward/onward/lts/IntBlocks", "size", "()I"⟩ : MethodName)) hown (mvT hZ (wk hw 142 rfl)) (mvT hZ (wk hw 143 rfl)) (notFace_of_selects (args := #[]) (mvT hZ (wk hw 145 rfl))) (mvT hZ (wk hw 145 rfl)) (mvT hZ (wk hw 144 rfl)) (by decide) (backOf (W := 2) (rm18 l Z a0 hw [] li sz h26 n0 F45 F41) hZ (wk hw 146 rfl) (wk hw 82 rfl) (by decide) (by decide)) q52a q52c (g := (mkF m 96 #[vR p0, vI (0 : Int32), uS] [(.ref li), (.int ((1 : Int32) + (1 : Int32))), (.ref ss)])) rfl (by rw [hml]; rfl) (Steps.refl _) (argsL := []) (rest := [(.int ((1 : Int32) + (1 : Int32))), (.ref ss)]) (lenOf pd_5 rfl) rfl (by show 2 * 0 + _ ≤ _; exact Nat.le_of_eq rfl) (hb hby d11_96) (fun _ _ => ⟨rfl, e51, (by decide : 0 + 0 ≤ _), (by decide : 0 + 0 ≤ _)⟩)
  dsimp only [Pt.U, Pt.locs, Pt.cells, Pt.slots] at X52 l52 y52 z52 st52 hQ52
  subst l52 y52 z52
  obtain ⟨rfl, N52q, e52⟩ := hQ52
  obtain ⟨Lo52, Y52, N52⟩ := pk X52 (Fr.app N26 N52q)
  refine Go.trans st52 ?_
  show Go _ _ _ _ (T52.setTop (mkF m 99 #[vR p0, vI (0 : Int32), uS] [(.int sz), (.int ((1 : Int32) + (1 : Int32))), (.ref ss)]))
  rw [show ((1 : Int32) + (1 : Int32)) = (2 : Int32) from by decide]
  show Go _ _ _ _ (T52.setTop (mkF m 99 #[vR p0, vI (0 : Int32), uS] [(.int sz), (.int (2 : Int32)), (.ref ss)]))
  obtain ⟨cl53, Ar53, hi53, -⟩ := F39.at (j := (2 : Int32)) (by decide) (Nat.le_of_ble_eq_true rfl)
  obtain ⟨T53, h53, X53, e53, W53, st53⟩ := stI Y52 hx hZ e52 Ar53 (j := (2 : Int32)) hi53 (g := (mkF m 99 #[vR p0, vI (0 : Int32), uS] [(.int sz), (.int (2 : Int32)), (.ref ss)])) rfl rfl (hb hby d11_99)
  have F54 := F27.wr W53
  have F55 := F28.other W53 (Or.inl H28)
  have F56 := F29.other W53 (Or.inl H28)
  have F57 := F30.other W53 (Or.inl H28)
  have F58 := F31.other W53 (Or.inl H28)
  have F59 := F32.other W53 (Or.inl H28)
  have F60 := F33.other W53 (Or.inl H28)
  have F61 := F34.other W53 (Or.inl H28)
  have F62 := F35.other W53 (Or.inl H28)
  have F63 := F36.other W53 (Or.inl H34)
  have F64 := F37.other W53 (Or.inl H34)
  have F65 := F38.other W53 H43
  have F66 : ArL Z h53 ss .int [(.int s0), (.int s1), (.int sz)] := F39.set W53
  have F67 := F40.wr W53
  have F68 := F41.other W53 (Or.inl (Ne.symm H47))
  have F69 := F42.other W53 (Or.inl (Ne.symm H47))
  have F70 := F43.other W53 (Ne.symm H48)
  have F71 := F44.other W53 (Ne.symm H49)
  have F72 := Nat.le_trans F45 (Keep.of_wr W53).1
  have F73 := F46.wr W53 (Or.inl (List.mem_of_getElem? (i := 3) rfl))
  have F74 := F47.other W53 H39
  obtain ⟨Lo53, Y53, N53⟩ := pk X53 (Fr.snoc X53 N52 H22)
  refine Go.back st53 ?_
  show Go _ _ _ _ (T53.setTop (mkF m 100 #[vR p0, vI (0 : Int32), uS] []))
  exact Go.retV Y53 hx Bd.returns (hb hby d11_100) Bd.notSynchronized ⟨rfl, N53, (by rw [e53]; exact F73), (by rw [e53]; exact F55), (by rw [e53]; exact F56), (by rw [e53]; exact F57), (by rw [e53]; exact F58), (by rw [e53]; exact F59), (by rw [e53]; exact F60), (by rw [e53]; exact F61), (by rw [e53]; exact F62), (by rw [e53]; exact F68), (by rw [e53]; exact F69), (by rw [e53]; exact F74), (by rw [e53]; exact F66), ⟨ys, by simp, by rw [e53]; exact F65⟩, ⟨bs, by simp [hbs], by rw [e53]; exact F71⟩⟩ (by decide) (by decide)
def Q45 (Z : State) (p0 : Addr) (rr : Addr) (cu : Addr) (an : Addr) (ss : Addr) (li : Addr) (ob : Addr) (bl : Addr) (c0 : Int32) (c1 : Int32) (sz : Int32) (s0 : Int32) (s1 : Int32) (s2 : Int32) (ys : List Int64) (bs : List Int32) (h0 : Heap) (n0 : Nat) (v : Option Value) (h : Heap) (L : List Loc) : Prop := v = none ∧ Fr n0 L ∧ Keep h0 h [p0, cu, an, ss, li, bl] ∧ Fld Z h p0 cP "this$0" dR (.ref rr) ∧ Fld Z h p0 cP "anywhere" "[J" (.ref an) ∧ Fld Z h p0 cP "current" "[I" (.ref cu) ∧ Fld Z h p0 cP "first" "I" (.int (0 : Int32)) ∧ Fld Z h p0 cP "end" "I" (.int (2 : Int32)) ∧ Fld Z h p0 cP "filling" "I" (.int (2 : Int32)) ∧ Fld Z h p0 cP "listed" dI (.ref li) ∧ Fld Z h p0 cP "currentCount" "I" (.int (0 : Int32)) ∧ Fld Z h li cI "size" "I" (.int sz) ∧ Fld Z h li cI "blocks" "[[I" (.ref ob) ∧ ArL Z h cu .int [(.int c0), (.int c1), (.int (0 : Int32)), (.int (0 : Int32)), (.int (0 : Int32)), (.int (0 : Int32)), (.int (0 : Int32)), (.int (0 : Int32)), (.int (0 : Int32)), (.int (0 : Int32)), (.int (0 : Int32)), (.int (0 : Int32)), (.int (0 : Int32)), (.int (0 : Int32)), (.int (0 : Int32)), (.int (0 : Int32))] ∧ ArL Z h ss .int [(.int s0), (.int s1), (.int sz)] ∧ (∃ G : List Int64, G.length = ys.length ∧ ArL Z h an .long (List.map Value.long G)) ∧ (∃ B : List Int32, B.length = 16 ∧ ArL Z h bl .int (List.map Value.int B))
abbrev rmm45 : Room := { frames := 5, cells := 0, slots := 0, locals := 95 }
abbrev P45 (Z : State) (p0 : Addr) (rr : Addr) (cu : Addr) (an : Addr) (ss : Addr) (li : Addr) (ob : Addr) (bl : Addr) (c0 : Int32) (c1 : Int32) (sz : Int32) (s0 : Int32) (s1 : Int32) (s2 : Int32) (ys : List Int64) (bs : List Int32) (h0 : Heap) (n0 : Nat) (s : State) : Outcome → State → Prop := fun o U' => ∃ v L, o = .returned v ∧ Q45 Z p0 rr cu an ss li ob bl c0 c1 sz s0 s1 s2 ys bs h0 n0 v U'.heap L ∧ FrameEnd s o U' L rmm45.cells rmm45.slots
theorem pn_45 : plainName "com/example/onward/onward/check/RequirementRows$Part" = true := by first | (simp [plainName, overriddenIn]; done) | decide +kernel
theorem ef_45 (m : MethodId) (p0 : Addr) : entryFrame m #[(.ref p0)] 2 = mkF m 0 #[vR p0, uS] [] := by first | (simp [entryFrame, mkF, argsToLocals, Value.category]; done) | rfl
set_option maxRecDepth 65536 in
set_option maxHeartbeats 40000000 in
theorem rm45 (l : Launch) (Z : State) (a0 : Array Value) (hw : ∀ d ∈ tables_1, d.before a0 Z = true) (ws : List Jvm.Cond) (p0 : Addr) (rr : Addr) (cu : Addr) (an : Addr) (ss : Addr) (li : Addr) (ob : Addr) (bl : Addr) (c0 : Int32) (c1 : Int32) (sz : Int32) (s0 : Int32) (s1 : Int32) (s2 : Int32) (ys : List Int64) (bs : List Int32) (h0 : Heap) (n0 : Nat) (Z0 : n0 ≤ h0.size) (H0 : Exa Z h0 p0 cP) (H1 : Fld Z h0 p0 cP "this$0" dR (.ref rr)) (H2 : Fld Z h0 p0 cP "anywhere" "[J" (.ref an)) (H3 : Fld Z h0 p0 cP "current" "[I" (.ref cu)) (H4 : Fld Z h0 p0 cP "first" "I" (.int (0 : Int32))) (H5 : Fld Z h0 p0 cP "end" "I" (.int (2 : Int32))) (H6 : Fld Z h0 p0 cP "filling" "I" (.int (1 : Int32))) (H7 : Fld Z h0 p0 cP "listed" dI (.ref li)) (H8 : Fld Z h0 p0 cP "currentCount" "I" (.int (0 : Int32))) (H9 : Fld Z h0 rr cR "rows" "[J" .null) (H10 : Fld Z h0 rr cR "starts" "[I" (.ref ss)) (H11 : ArL Z h0 cu .int [(.int c0), (.int c1), (.int (0 : Int32)), (.int (0 : Int32)), (.int (0 : Int32)), (.int (0 : Int32)), (.int (0 : Int32)), (.int (0 : Int32)), (.int (0 : Int32)), (.int (0 : Int32)), (.int (0 : Int32)), (.int (0 : Int32)), (.int (0 : Int32)), (.int (0 : Int32)), (.int (0 : Int32)), (.int (0 : Int32))]) (H12 : ArL Z h0 an .long (List.map Value.long ys)) (H13 : ArL Z h0 ss .int [(.int s0), (.int s1), (.int s2)]) (H14 : Exa Z h0 li cI) (H15 : Fld Z h0 li cI "size" "I" (.int sz)) (H16 : Fld Z h0 li cI "blocks" "[[I" (.ref ob)) (H17 : ArL Z h0 ob (.array .int) [(.ref bl)]) (H18 : ArL Z h0 bl .int (List.map Value.int bs)) (H19 : n0 ≤ p0) (H20 : n0 ≤ cu) (H21 : n0 ≤ an) (H22 : n0 ≤ ss) (H23 : n0 ≤ li) (H24 : n0 ≤ bl) (H25 : p0 ≠ rr) (H26 : p0 ≠ cu) (H27 : p0 ≠ an) (H28 : p0 ≠ ss) (H29 : p0 ≠ li) (H30 : p0 ≠ ob) (H31 : p0 ≠ bl) (H32 : rr ≠ cu) (H33 : rr ≠ an) (H34 : rr ≠ ss) (H35 : rr ≠ li) (H36 : rr ≠ ob) (H37 : rr ≠ bl) (H38 : cu ≠ an) (H39 : cu ≠ ss) (H40 : cu ≠ li) (H41 : cu ≠ ob) (H42 : cu ≠ bl) (H43 : an ≠ ss) (H44 : an ≠ li) (H45 : an ≠ ob) (H46 : an ≠ bl) (H47 : ss ≠ li) (H48 : ss ≠ ob) (H49 : ss ≠ bl) (H50 : li ≠ ob) (H51 : li ≠ bl) (H52 : ob ≠ bl) (hsz : own_sz 2 sz) (hbs : bs.length = 16) (hy8 : ys.length ≤ 8) :
    MetFree l (⟨"com/example/onward/onward/check/RequirementRows$Part", "endState", "()V"⟩ : MethodName) (head1 (Jvm.Cond.code (⟨"com/example/onward/onward/check/RequirementRows$Part", "endState", "()V"⟩ : MethodName) prog_63_method_7_code 2 none :: ws) rmm45) (fun a U => a = #[(.ref p0)] ∧ Z.Warmed39 U.vm ∧ U.heap = h0) (fun _ _ _ _ _ => True) (fun _ U o U' => ∃ v L, o = .returned v ∧ Q45 Z p0 rr cu an ss li ob bl c0 c1 sz s0 s1 s2 ys bs h0 n0 v U'.heap L ∧ FrameEnd U o U' L rmm45.cells rmm45.slots) := by
  refine MetFree.of_bodySF (plainFor_of_name pn_45) hisR ?_
  intro p e s m args below meth c s₁ Bd hml0 hP hK
  obtain ⟨rfl, hZ, hh⟩ := hP
  have hx := Bd.exec
  have hby := Bd.bytes
  have hml : c.maxLocals = 2 := hml0
  have hown : s.vm.findClass "com/example/onward/onward/check/RequirementRows$Part" = some m.cls := findClass_of_methodNamed Bd.named
  have hnm := (name_of_methodNamed Bd.named Bd.method).1
  have X0 : Stand p l e rmm45 s m #[(.ref p0)] below meth c s₁ [] 0 0 := Stand.of_body Bd
  have e0 : s₁.heap = h0 := by rw [← hh, Bd.state]; rfl
  have N0 := Fr.nil n0
  show Go p.tables e below (P45 Z p0 rr cu an ss li ob bl c0 c1 sz s0 s1 s2 ys bs h0 n0 s) (s₁.setTop (entryFrame m #[(.ref p0)] 2))
  refine Go.back (fun t k => castTop (ef_45 m p0) k) ?_
  show Go p.tables e below (P45 Z p0 rr cu an ss li ob bl c0 c1 sz s0 s1 s2 ys bs h0 n0 s) (s₁.setTop (mkF m 0 #[vR p0, uS] []))
  refine Go.back (fun t k => XS.aloadN X0.here hx rfl (hb hby d5_0) rfl rfl  k) ?_
  obtain ⟨T1, X1, e1, st1⟩ := getF X0 hx hZ hown (host := "") (Or.inl (wk hw 34 rfl)) Via.refl e0 H1 (g := (mkF m 1 #[vR p0, uS] [(.ref p0)])) rfl rfl (hb hby d5_1)
  refine Go.back st1 ?_
  obtain ⟨T2, X2, e2, st2⟩ := getF X1 hx hZ hown (Or.inr (wk hw 49 rfl)) Via.refl e1 H9 (g := (mkF m 4 #[vR p0, uS] [(.ref rr)])) rfl rfl (hb hby d5_4)
  refine Go.back st2 ?_
  show Go _ _ _ _ (T2.setTop (mkF m 7 #[vR p0, uS] [.null]))
  refine Go.back (fun t k => XS.ifnullYes X2.here hx rfl (pc0 := 7) (pc' := 63) rfl (hb hby d5_7) rfl (by decide) (by decide) k) ?_
  show Go _ _ _ _ (T2.setTop (mkF m 63 #[vR p0, uS] []))
  refine Go.back (fun t k => XS.aloadN X2.here hx rfl (hb hby d5_63) rfl rfl  k) ?_
  obtain ⟨cq3, q3, q3'⟩ := H0.cell
  obtain ⟨_, _, ⟨T3, L3, k3, n3⟩, -, X3, ⟨Lc3, hQ3, l3, y3, z3⟩, st3⟩ := X2.privateBack hx (y := (⟨"com/example/onward/onward/check/RequirementRows$Part", "endList", "()V"⟩ : MethodName)) hown (mvT hZ (wk hw 111 rfl)) (mvT hZ (wk hw 112 rfl)) (own_selpriv (z := (⟨"com/example/onward/onward/check/RequirementRows$Part", "endState", "()V"⟩ : MethodName)) rfl (mvT hZ (wk hw 55 rfl)) (Cond.privateMethod_at (mvP hZ (wk hw 113 rfl) (args := #[]))) (mvT hZ (wk hw 112 rfl)) (by decide)) (Cond.privateMethod_at (mvP hZ (wk hw 113 rfl) (args := #[]))) (mvT hZ (wk hw 114 rfl)) (by decide) (backOf (W := 0) (rm44 l Z a0 hw [] p0 rr cu an ss li ob bl c0 c1 sz s0 s1 s2 ys bs h0 n0 Z0 H0 H1 H2 H3 H4 H5 H6 H7 H8 H9 H10 H11 H12 H13 H14 H15 H16 H17 H18 H19 H20 H21 H22 H23 H24 H25 H26 H27 H28 H29 H30 H31 H32 H33 H34 H35 H36 H37 H38 H39 H40 H41 H42 H43 H44 H45 H46 H47 H48 H49 H50 H51 H52 hsz hbs hy8) hZ (wk hw 114 rfl) (wk hw 30 rfl) (by decide) (by decide)) (g := (mkF m 64 #[vR p0, uS] [(.ref p0)])) rfl (by rw [hml]; rfl) (Steps.refl _) (a := p0) (by rw [e2]; exact q3) q3' (argsL := []) (rest := []) (lenOf pd_6 rfl) rfl (by show 2 * 0 + _ ≤ _; exact Nat.le_of_eq rfl) (hb hby d5_64) (fun _ _ => ⟨rfl, e2, (by decide : 0 + 0 ≤ _), (by decide : 0 + 0 ≤ _)⟩)
  dsimp only [Pt.U, Pt.locs, Pt.cells, Pt.slots] at X3 l3 y3 z3 st3 hQ3
  subst l3 y3 z3
  obtain ⟨h3, e3⟩ : ∃ z, T3.heap = z := ⟨_, rfl⟩
  rw [e3] at hQ3
  obtain ⟨rfl, N3q, K3, F11, F12, F13, F14, F15, F16, F17, F18, F19, F20, F21, F22, t23, t24⟩ := hQ3
  obtain ⟨Lo3, Y3, N3⟩ := pk X3 (Fr.app N0 N3q)
  have F4 := H0.keep K3
  have F5 := H9.keep K3 (ninS (Ne.symm H25) (ninS H32 (ninS H33 (ninS H34 (ninS H35 (ninS H37 nin0))))))
  have F6 := H10.keep K3 (ninS (Ne.symm H25) (ninS H32 (ninS H33 (ninS H34 (ninS H35 (ninS H37 nin0))))))
  have F7 := H14.keep K3
  have F8 := H17.keep K3 (ninS (Ne.symm H30) (ninS (Ne.symm H41) (ninS (Ne.symm H45) (ninS (Ne.symm H48) (ninS (Ne.symm H50) (ninS H52 nin0))))))
  have F9 := Nat.le_trans Z0 K3.1
  have F10 : Keep h0 h3 [p0, cu, an, ss, li, bl] := (Keep.refl h0 [p0, cu, an, ss, li, bl]).trans K3 (allS (P := fun x => x ∈ [p0, cu, an, ss, li, bl] ∨ h0.size ≤ x) (Or.inl (List.mem_of_getElem? (i := 0) rfl)) (allS (P := fun x => x ∈ [p0, cu, an, ss, li, bl] ∨ h0.size ≤ x) (Or.inl (List.mem_of_getElem? (i := 1) rfl)) (allS (P := fun x => x ∈ [p0, cu, an, ss, li, bl] ∨ h0.size ≤ x) (Or.inl (List.mem_of_getElem? (i := 2) rfl)) (allS (P := fun x => x ∈ [p0, cu, an, ss, li, bl] ∨ h0.size ≤ x) (Or.inl (List.mem_of_getElem? (i := 3) rfl)) (allS (P := fun x => x ∈ [p0, cu, an, ss, li, bl] ∨ h0.size ≤ x) (Or.inl (List.mem_of_getElem? (i := 4) rfl)) (allS (P := fun x => x ∈ [p0, cu, an, ss, li, bl] ∨ h0.size ≤ x) (Or.inl (List.mem_of_getElem? (i := 5) rfl)) all0))))))
  obtain ⟨G3, hG3, FG3⟩ := t23
  obtain ⟨B3, hB3, FB3⟩ := t24
  refine Go.trans st3 ?_
  show Go _ _ _ _ (T3.setTop (mkF m 67 #[vR p0, uS] []))
  refine Go.back (fun t k => XS.aloadN Y3.here hx rfl (hb hby d5_67) rfl rfl  k) ?_
  refine Go.back (fun t k => XS.dup Y3.here hx rfl (hb hby d5_68) rfl rfl k) ?_
  obtain ⟨T25, X25, e25, st25⟩ := getF Y3 hx hZ hown (host := "") (Or.inl (wk hw 47 rfl)) Via.refl e3 F16 (g := (mkF m 69 #[vR p0, uS] [(.ref p0), (.ref p0)])) rfl rfl (hb hby d5_69)
  refine Go.back st25 ?_
  refine Go.back (fun t k => XS.iconst X25.here hx rfl (hb hby d5_72) k) ?_
  show Go _ _ _ _ (T25.setTop (mkF m 73 #[vR p0, uS] [(.int (1 : Int32)), (.int (1 : Int32)), (.ref p0)]))
  refine Go.back (fun t k => XS.iadd X25.here hx rfl (hb hby d5_73) rfl k) ?_
  show Go _ _ _ _ (T25.setTop (mkF m 74 #[vR p0, uS] [(.int ((1 : Int32) + (1 : Int32))), (.ref p0)]))
  rw [show ((1 : Int32) + (1 : Int32)) = (2 : Int32) from by decide]
  show Go _ _ _ _ (T25.setTop (mkF m 74 #[vR p0, uS] [(.int (2 : Int32)), (.ref p0)]))
  obtain ⟨T26, h26, X26, e26, W26, st26⟩ := putF X25 hx hZ hown (host := "") (Or.inl (wk hw 47 rfl)) Via.refl e25 F16 F4 (Or.inl (wk hw 48 rfl)) (wk hw 29 rfl) (ty := .int) (by decide) rfl rfl (g := (mkF m 74 #[vR p0, uS] [(.int (2 : Int32)), (.ref p0)])) rfl rfl (hb hby d5_74)
  have F27 := F4.wr W26
  have F28 := F5.other W26 (Or.inl (Ne.symm H25))
  have F29 := F6.other W26 (Or.inl (Ne.symm H25))
  have F30 := F7.wr W26
  have F31 := F8.other W26 (Ne.symm H30)
  have F32 := Nat.le_trans F9 (Keep.of_wr W26).1
  have F33 := F10.wr W26 (Or.inl (List.mem_of_getElem? (i := 0) rfl))
  have F34 := F11.other W26 (Or.inr (slot_ne (Or.inr (wk hw 35 rfl)) (Or.inl (wk hw 48 rfl)) (by decide) (t := (.object "com/example/onward/onward/check/RequirementRows")) (t' := .int) (by decide) (by decide)))
  have F35 := F12.other W26 (Or.inr (slot_ne (Or.inr (wk hw 39 rfl)) (Or.inl (wk hw 48 rfl)) (by decide) (t := (.array .long)) (t' := .int) (by decide) (by decide)))
  have F36 := F13.other W26 (Or.inr (slot_ne (Or.inl (wk hw 42 rfl)) (Or.inl (wk hw 48 rfl)) (by decide) (t := (.array .int)) (t' := .int) (by decide) (by decide)))
  have F37 := F14.other W26 (Or.inr (slot_ne (Or.inr (wk hw 44 rfl)) (Or.inl (wk hw 48 rfl)) (by decide) (t := .int) (t' := .int) (by decide) (by decide)))
  have F38 := F15.other W26 (Or.inr (slot_ne (Or.inr (wk hw 46 rfl)) (Or.inl (wk hw 48 rfl)) (by decide) (t := .int) (t' := .int) (by decide) (by decide)))
  have F39 : Fld Z h26 p0 cP "filling" "I" (.int (2 : Int32)) := F16.same W26
  have F40 := F17.other W26 (Or.inr (slot_ne (Or.inr (wk hw 51 rfl)) (Or.inl (wk hw 48 rfl)) (by decide) (t := (.object "com/example/onward/onward/lts/IntBlocks")) (t' := .int) (by decide) (by decide)))
  have F41 := F18.other W26 (Or.inr (slot_ne (Or.inl (wk hw 110 rfl)) (Or.inl (wk hw 48 rfl)) (by decide) (t := .int) (t' := .int) (by decide) (by decide)))
  have F42 := F19.other W26 (Or.inl (Ne.symm H29))
  have F43 := F20.other W26 (Or.inl (Ne.symm H29))
  have F44 := F21.other W26 (Ne.symm H26)
  have F45 := F22.other W26 (Ne.symm H28)
  have F46 := FG3.other W26 (Ne.symm H27)
  have F47 := FB3.other W26 (Ne.symm H31)
  obtain ⟨Lo26, Y26, N26⟩ := pk X26 (Fr.snoc X26 N3 H19)
  refine Go.back st26 ?_
  show Go _ _ _ _ (T26.setTop (mkF m 77 #[vR p0, uS] []))
  exact Go.retV Y26 hx Bd.returns (hb hby d5_77) Bd.notSynchronized ⟨rfl, N26, (by rw [e26]; exact F33), (by rw [e26]; exact F34), (by rw [e26]; exact F35), (by rw [e26]; exact F36), (by rw [e26]; exact F37), (by rw [e26]; exact F38), (by rw [e26]; exact F39), (by rw [e26]; exact F40), (by rw [e26]; exact F41), (by rw [e26]; exact F42), (by rw [e26]; exact F43), (by rw [e26]; exact F44), (by rw [e26]; exact F45), ⟨G3, (hG3.trans rfl), by rw [e26]; exact F46⟩, ⟨B3, hB3, by rw [e26]; exact F47⟩⟩ (by decide) (by decide)
def Q46 (Z : State) (p0 : Addr) (rr : Addr) (cu : Addr) (an : Addr) (ss : Addr) (li : Addr) (ob : Addr) (bl : Addr) (c0 : Int32) (c1 : Int32) (sz : Int32) (s0 : Int32) (s1 : Int32) (s2 : Int32) (ys : List Int64) (bs : List Int32) (h0 : Heap) (n0 : Nat) (v : Option Value) (h : Heap) (L : List Loc) : Prop := v = none ∧ Fr n0 L ∧ Keep h0 h [p0, cu, an, ss, li, bl] ∧ Fld Z h p0 cP "this$0" dR (.ref rr) ∧ Fld Z h p0 cP "anywhere" "[J" (.ref an) ∧ Fld Z h p0 cP "current" "[I" (.ref cu) ∧ Fld Z h p0 cP "first" "I" (.int (0 : Int32)) ∧ Fld Z h p0 cP "end" "I" (.int (2 : Int32)) ∧ Fld Z h p0 cP "filling" "I" (.int (1 : Int32)) ∧ Fld Z h p0 cP "listed" dI (.ref li) ∧ Fld Z h p0 cP "currentCount" "I" (.int (0 : Int32)) ∧ Fld Z h li cI "size" "I" (.int (sz + (1 : Int32))) ∧ Fld Z h li cI "blocks" "[[I" (.ref ob) ∧ ArL Z h cu .int [(.int c0), (.int c1), (.int (0 : Int32)), (.int (0 : Int32)), (.int (0 : Int32)), (.int (0 : Int32)), (.int (0 : Int32)), (.int (0 : Int32)), (.int (0 : Int32)), (.int (0 : Int32)), (.int (0 : Int32)), (.int (0 : Int32)), (.int (0 : Int32)), (.int (0 : Int32)), (.int (0 : Int32)), (.int (0 : Int32))] ∧ ArL Z h ss .int [(.int s0), (.int s1), (.int (sz + (1 : Int32)))] ∧ (∃ G : List Int64, G.length = ys.length ∧ ArL Z h an .long (List.map Value.long G)) ∧ (∃ B : List Int32, B.length = 16 ∧ ArL Z h bl .int (List.map Value.int B))
abbrev rmm46 : Room := { frames := 4, cells := 0, slots := 0, locals := 81 }
abbrev P46 (Z : State) (p0 : Addr) (rr : Addr) (cu : Addr) (an : Addr) (ss : Addr) (li : Addr) (ob : Addr) (bl : Addr) (c0 : Int32) (c1 : Int32) (sz : Int32) (s0 : Int32) (s1 : Int32) (s2 : Int32) (ys : List Int64) (bs : List Int32) (h0 : Heap) (n0 : Nat) (s : State) : Outcome → State → Prop := fun o U' => ∃ v L, o = .returned v ∧ Q46 Z p0 rr cu an ss li ob bl c0 c1 sz s0 s1 s2 ys bs h0 n0 v U'.heap L ∧ FrameEnd s o U' L rmm46.cells rmm46.slots
theorem pn_46 : plainName "com/example/onward/onward/check/RequirementRows$Part" = true := by first | (simp [plainName, overriddenIn]; done) | decide +kernel
theorem ef_46 (m : MethodId) (p0 : Addr) : entryFrame m #[(.ref p0)] 3 = mkF m 0 #[vR p0, uS, uS] [] := by first | (simp [entryFrame, mkF, argsToLocals, Value.category]; done) | rfl
set_option maxRecDepth 65536 in
set_option maxHeartbeats 40000000 in
theorem rm46 (l : Launch) (Z : State) (a0 : Array Value) (hw : ∀ d ∈ tables_1, d.before a0 Z = true) (ws : List Jvm.Cond) (p0 : Addr) (rr : Addr) (cu : Addr) (an : Addr) (ss : Addr) (li : Addr) (ob : Addr) (bl : Addr) (c0 : Int32) (c1 : Int32) (sz : Int32) (s0 : Int32) (s1 : Int32) (s2 : Int32) (ys : List Int64) (bs : List Int32) (h0 : Heap) (n0 : Nat) (Z0 : n0 ≤ h0.size) (H0 : Exa Z h0 p0 cP) (H1 : Fld Z h0 p0 cP "this$0" dR (.ref rr)) (H2 : Fld Z h0 p0 cP "anywhere" "[J" (.ref an)) (H3 : Fld Z h0 p0 cP "current" "[I" (.ref cu)) (H4 : Fld Z h0 p0 cP "first" "I" (.int (0 : Int32))) (H5 : Fld Z h0 p0 cP "end" "I" (.int (2 : Int32))) (H6 : Fld Z h0 p0 cP "filling" "I" (.int (1 : Int32))) (H7 : Fld Z h0 p0 cP "listed" dI (.ref li)) (H8 : Fld Z h0 p0 cP "currentCount" "I" (.int (1 : Int32))) (H9 : Fld Z h0 rr cR "rows" "[J" .null) (H10 : Fld Z h0 rr cR "starts" "[I" (.ref ss)) (H11 : ArL Z h0 cu .int [(.int c0), (.int c1), (.int (0 : Int32)), (.int (0 : Int32)), (.int (0 : Int32)), (.int (0 : Int32)), (.int (0 : Int32)), (.int (0 : Int32)), (.int (0 : Int32)), (.int (0 : Int32)), (.int (0 : Int32)), (.int (0 : Int32)), (.int (0 : Int32)), (.int (0 : Int32)), (.int (0 : Int32)), (.int (0 : Int32))]) (H12 : ArL Z h0 an .long (List.map Value.long ys)) (H13 : ArL Z h0 ss .int [(.int s0), (.int s1), (.int s2)]) (H14 : Exa Z h0 li cI) (H15 : Fld Z h0 li cI "size" "I" (.int sz)) (H16 : Fld Z h0 li cI "blocks" "[[I" (.ref ob)) (H17 : ArL Z h0 ob (.array .int) [(.ref bl)]) (H18 : ArL Z h0 bl .int (List.map Value.int bs)) (H19 : n0 ≤ p0) (H20 : n0 ≤ cu) (H21 : n0 ≤ an) (H22 : n0 ≤ ss) (H23 : n0 ≤ li) (H24 : n0 ≤ bl) (H25 : p0 ≠ rr) (H26 : p0 ≠ cu) (H27 : p0 ≠ an) (H28 : p0 ≠ ss) (H29 : p0 ≠ li) (H30 : p0 ≠ ob) (H31 : p0 ≠ bl) (H32 : rr ≠ cu) (H33 : rr ≠ an) (H34 : rr ≠ ss) (H35 : rr ≠ li) (H36 : rr ≠ ob) (H37 : rr ≠ bl) (H38 : cu ≠ an) (H39 : cu ≠ ss) (H40 : cu ≠ li) (H41 : cu ≠ ob) (H42 : cu ≠ bl) (H43 : an ≠ ss) (H44 : an ≠ li) (H45 : an ≠ ob) (H46 : an ≠ bl) (H47 : ss ≠ li) (H48 : ss ≠ ob) (H49 : ss ≠ bl) (H50 : li ≠ ob) (H51 : li ≠ bl) (H52 : ob ≠ bl) (hsz : own_sz 2 sz) (hbs : bs.length = 16) (hr0 : own_rng c0 ys.length) (hy8 : ys.length ≤ 8) :
    MetFree l (⟨"com/example/onward/onward/check/RequirementRows$Part", "endList", "()V"⟩ : MethodName) (head1 (Jvm.Cond.code (⟨"com/example/onward/onward/check/RequirementRows$Part", "endList", "()V"⟩ : MethodName) prog_63_method_8_code 3 none :: ws) rmm46) (fun a U => a = #[(.ref p0)] ∧ Z.Warmed39 U.vm ∧ U.heap = h0) (fun _ _ _ _ _ => True) (fun _ U o U' => ∃ v L, o = .returned v ∧ Q46 Z p0 rr cu an ss li ob bl c0 c1 sz s0 s1 s2 ys bs h0 n0 v U'.heap L ∧ FrameEnd U o U' L rmm46.cells rmm46.slots) := by
  refine MetFree.of_bodySF (plainFor_of_name pn_46) hisR ?_
  intro p e s m args below meth c s₁ Bd hml0 hP hK
  obtain ⟨rfl, hZ, hh⟩ := hP
  have hx := Bd.exec
  have hby := Bd.bytes
  have hml : c.maxLocals = 3 := hml0
  have hown : s.vm.findClass "com/example/onward/onward/check/RequirementRows$Part" = some m.cls := findClass_of_methodNamed Bd.named
  have hnm := (name_of_methodNamed Bd.named Bd.method).1
  have X0 : Stand p l e rmm46 s m #[(.ref p0)] below meth c s₁ [] 0 0 := Stand.of_body Bd
  have e0 : s₁.heap = h0 := by rw [← hh, Bd.state]; rfl
  have N0 := Fr.nil n0
  show Go p.tables e below (P46 Z p0 rr cu an ss li ob bl c0 c1 sz s0 s1 s2 ys bs h0 n0 s) (s₁.setTop (entryFrame m #[(.ref p0)] 3))
  refine Go.back (fun t k => castTop (ef_46 m p0) k) ?_
  show Go p.tables e below (P46 Z p0 rr cu an ss li ob bl c0 c1 sz s0 s1 s2 ys bs h0 n0 s) (s₁.setTop (mkF m 0 #[vR p0, uS, uS] []))
  refine Go.back (fun t k => XS.aloadN X0.here hx rfl (hb hby d11_0) rfl rfl  k) ?_
  obtain ⟨T1, X1, e1, st1⟩ := getF X0 hx hZ hown (host := "") (Or.inl (wk hw 41 rfl)) Via.refl e0 H3 (g := (mkF m 1 #[vR p0, uS, uS] [(.ref p0)])) rfl rfl (hb hby d11_1)
  refine Go.back st1 ?_
  refine Go.back (fun t k => XS.iconst X1.here hx rfl (hb hby d11_4) k) ?_
  refine Go.back (fun t k => XS.aloadN X1.here hx rfl (hb hby d11_5) rfl rfl  k) ?_
  show Go _ _ _ _ (T1.setTop (mkF m 6 #[vR p0, uS, uS] [(.ref p0), (.int (0 : Int32)), (.ref cu)]))
  obtain ⟨T2, X2, e2, st2⟩ := getF X1 hx hZ hown (host := "") (Or.inl (wk hw 109 rfl)) Via.refl e1 H8 (g := (mkF m 6 #[vR p0, uS, uS] [(.ref p0), (.int (0 : Int32)), (.ref cu)])) rfl rfl (hb hby d11_6)
  refine Go.back st2 ?_
  obtain ⟨_, _, ⟨T3, L3, k3, n3⟩, -, X3, ⟨Lc3, hQ3, l3, y3, z3⟩, st3⟩ := Jvm.LawKit.callS X2 hx (y := (⟨"java/util/Arrays", "sort", "([III)V"⟩ : MethodName)) hown (mvT hZ (wk hw 115 rfl)) (mvT hZ (wk hw 116 rfl)) (mvT hZ (wk hw 117 rfl)) (mvT hZ (wk hw 118 rfl)) (by decide) (backOf (W := 0) (rm28 l Z a0 hw [] cu c0 c1 h0 n0 Z0 H11 H20) hZ (wk hw 118 rfl) (wk hw 117 rfl) (by decide) (by decide)) (g := (mkF m 9 #[vR p0, uS, uS] [(.int (1 : Int32)), (.int (0 : Int32)), (.ref cu)])) rfl (by rw [hml]; rfl) (argsL := [(.ref cu), (.int (0 : Int32)), (.int (1 : Int32))]) (rest := []) (lenOf pd_0 rfl) rfl (by show 2 * 0 + _ ≤ _; exact Nat.le_of_eq rfl) (hb hby d11_9) (fun _ _ => ⟨rfl, e2, (by decide : 0 + 0 ≤ _), (by decide : 0 + 0 ≤ _)⟩)
  dsimp only [Pt.U, Pt.locs, Pt.cells, Pt.slots] at X3 l3 y3 z3 st3 hQ3
  subst l3 y3 z3
  obtain ⟨h3, e3⟩ : ∃ z, T3.heap = z := ⟨_, rfl⟩
  rw [e3] at hQ3
  obtain ⟨rfl, N3q, K3, F24⟩ := hQ3
  obtain ⟨Lo3, Y3, N3⟩ := pk X3 (Fr.app N0 N3q)
  have F4 := H0.keep K3
  have F5 := H1.keep K3 (ninS H26 nin0)
  have F6 := H2.keep K3 (ninS H26 nin0)
  have F7 := H3.keep K3 (ninS H26 nin0)
  have F8 := H4.keep K3 (ninS H26 nin0)
  have F9 := H5.keep K3 (ninS H26 nin0)
  have F10 := H6.keep K3 (ninS H26 nin0)
  have F11 := H7.keep K3 (ninS H26 nin0)
  have F12 := H8.keep K3 (ninS H26 nin0)
  have F13 := H9.keep K3 (ninS H32 nin0)
  have F14 := H10.keep K3 (ninS H32 nin0)
  have F15 := H12.keep K3 (ninS (Ne.symm H38) nin0)
  have F16 := H13.keep K3 (ninS (Ne.symm H39) nin0)
  have F17 := H14.keep K3
  have F18 := H15.keep K3 (ninS (Ne.symm H40) nin0)
  have F19 := H16.keep K3 (ninS (Ne.symm H40) nin0)
  have F20 := H17.keep K3 (ninS (Ne.symm H41) nin0)
  have F21 := H18.keep K3 (ninS (Ne.symm H42) nin0)
  have F22 := Nat.le_trans Z0 K3.1
  have F23 : Keep h0 h3 [p0, cu, an, ss, li, bl] := (Keep.refl h0 [p0, cu, an, ss, li, bl]).trans K3 (allS (P := fun x => x ∈ [p0, cu, an, ss, li, bl] ∨ h0.size ≤ x) (Or.inl (List.mem_of_getElem? (i := 1) rfl)) all0)
  refine Go.back st3 ?_
  show Go _ _ _ _ (T3.setTop (mkF m 12 #[vR p0, uS, uS] []))
  refine Go.back (fun t k => XS.iconst Y3.here hx rfl (hb hby d11_12) k) ?_
  refine Go.back (fun t k => XS.istoreN Y3.here hx rfl (hb hby d11_13) rfl (l' := #[vR p0, vI (0 : Int32), uS]) rfl k) ?_
  show Go _ _ _ _ (T3.setTop (mkF m 14 #[vR p0, vI (0 : Int32), uS] []))
  refine Go.back (fun t k => XS.iloadN Y3.here hx rfl (hb hby d11_14) rfl  k) ?_
  refine Go.back (fun t k => XS.aloadN Y3.here hx rfl (hb hby d11_15) rfl rfl  k) ?_
  obtain ⟨T25, X25, e25, st25⟩ := getF Y3 hx hZ hown (host := "") (Or.inl (wk hw 109 rfl)) Via.refl e3 F12 (g := (mkF m 16 #[vR p0, vI (0 : Int32), uS] [(.ref p0), (.int (0 : Int32))])) rfl rfl (hb hby d11_16)
  refine Go.back st25 ?_
  show Go _ _ _ _ (T25.setTop (mkF m 19 #[vR p0, vI (0 : Int32), uS] [(.int (1 : Int32)), (.int (0 : Int32))]))
  refine Go.back (fun t k => XS.icmpNo X25.here hx rfl (hb hby d11_19) rfl (tlt (by decide)).2.1 k) ?_
  show Go _ _ _ _ (T25.setTop (mkF m 22 #[vR p0, vI (0 : Int32), uS] []))
  refine Go.back (fun t k => XS.aloadN X25.here hx rfl (hb hby d11_22) rfl rfl  k) ?_
  obtain ⟨T26, X26, e26, st26⟩ := getF X25 hx hZ hown (host := "") (Or.inl (wk hw 41 rfl)) Via.refl e25 F7 (g := (mkF m 23 #[vR p0, vI (0 : Int32), uS] [(.ref p0)])) rfl rfl (hb hby d11_23)
  refine Go.back st26 ?_
  refine Go.back (fun t k => XS.iloadN X26.here hx rfl (hb hby d11_26) rfl  k) ?_
  obtain ⟨cl27, Ar27, hi27, ha27⟩ := F24.get (j := (0 : Int32)) (by decide) (v := (.int c0)) rfl
  refine Go.back (fun t k => X26.iaload hx (j := (0 : Int32)) (v := (.int c0)) (by rw [e26]; exact Ar27.1) (State.isArrayOf_alike hZ.alike Ar27.2.1) Ar27.2.2 hi27 ha27 (g := (mkF m 27 #[vR p0, vI (0 : Int32), uS] [(.int (0 : Int32)), (.ref cu)])) rfl rfl (hb hby d11_27) t k) ?_
  show Go _ _ _ _ (T26.setTop (mkF m 28 #[vR p0, vI (0 : Int32), uS] [(.int c0)]))
  refine Go.back (fun t k => XS.istoreN X26.here hx rfl (hb hby d11_28) rfl (l' := #[vR p0, vI (0 : Int32), vI c0]) rfl k) ?_
  refine Go.back (fun t k => XS.iloadN X26.here hx rfl (hb hby d11_29) rfl  k) ?_
  show Go _ _ _ _ (T26.setTop (mkF m 30 #[vR p0, vI (0 : Int32), vI c0] [(.int (0 : Int32))]))
  refine Go.back (fun t k => XS.ifYes X26.here hx rfl (pc0 := 30) (pc' := 45) rfl (hb hby d11_30) rfl ((if0 _ _).trans (teq (by decide)).1) (by decide) (by decide) k) ?_
  show Go _ _ _ _ (T26.setTop (mkF m 45 #[vR p0, vI (0 : Int32), vI c0] []))
  refine Go.back (fun t k => XS.aloadN X26.here hx rfl (hb hby d11_45) rfl rfl  k) ?_
  obtain ⟨T28, X28, e28, st28⟩ := getF X26 hx hZ hown (host := "") (Or.inl (wk hw 50 rfl)) Via.refl e26 F11 (g := (mkF m 46 #[vR p0, vI (0 : Int32), vI c0] [(.ref p0)])) rfl rfl (hb hby d11_46)
  refine Go.back st28 ?_
  refine Go.back (fun t k => XS.iloadN X28.here hx rfl (hb hby d11_49) rfl  k) ?_
  obtain ⟨cq29, kq29, q29a, q29b, q29c⟩ := isOf hZ e28 F17
  obtain ⟨_, _, ⟨T29, L29, k29, n29⟩, -, X29, ⟨Lc29, hQ29, l29, y29, z29⟩, st29⟩ := X28.virtualBack hx (y := (⟨"com/example/onward/onward/lts/IntBlocks", "add", "(I)V"⟩ : MethodName)) (z := (⟨"com/example/onward/onward/lts/IntBlocks", "add", "(I)V"⟩ : MethodName)) hown (mvT hZ (wk hw 132 rfl)) (mvT hZ (wk hw 133 rfl)) (notFace_of_selects (args := #[]) (mvT hZ (wk hw 135 rfl))) (mvT hZ (wk hw 135 rfl)) (mvT hZ (wk hw 134 rfl)) (by decide) (backOf (W := 0) (rm17 l Z a0 hw [] li c0 sz ob bl bs h3 n0 F22 F17 F18 F19 F20 F21 H23 H24 H50 H51 H52 (own_sz_up hsz) hbs) hZ (wk hw 136 rfl) (wk hw 82 rfl) (by decide) (by decide)) q29a q29c (g := (mkF m 50 #[vR p0, vI (0 : Int32), vI c0] [(.int c0), (.ref li)])) rfl (by rw [hml]; rfl) (Steps.refl _) (argsL := [(.int c0)]) (rest := []) (lenOf pd_4 rfl) rfl (by show 2 * 0 + _ ≤ _; exact Nat.le_of_eq rfl) (hb hby d11_50) (fun _ _ => ⟨rfl, e28, (by decide : 0 + 0 ≤ _), (by decide : 0 + 0 ≤ _)⟩)
  dsimp only [Pt.U, Pt.locs, Pt.cells, Pt.slots] at X29 l29 y29 z29 st29 hQ29
  subst l29 y29 z29
  obtain ⟨h29, e29⟩ : ∃ z, T29.heap = z := ⟨_, rfl⟩
  rw [e29] at hQ29
  obtain ⟨rfl, N29q, K29, F48, F49, F50⟩ := hQ29
  obtain ⟨Lo29, Y29, N29⟩ := pk X29 (Fr.app N3 N29q)
  have F30 := F4.keep K29
  have F31 := F5.keep K29 (ninS H29 (ninS H31 nin0))
  have F32 := F6.keep K29 (ninS H29 (ninS H31 nin0))
  have F33 := F7.keep K29 (ninS H29 (ninS H31 nin0))
  have F34 := F8.keep K29 (ninS H29 (ninS H31 nin0))
  have F35 := F9.keep K29 (ninS H29 (ninS H31 nin0))
  have F36 := F10.keep K29 (ninS H29 (ninS H31 nin0))
  have F37 := F11.keep K29 (ninS H29 (ninS H31 nin0))
  have F38 := F12.keep K29 (ninS H29 (ninS H31 nin0))
  have F39 := F13.keep K29 (ninS H35 (ninS H37 nin0))
  have F40 := F14.keep K29 (ninS H35 (ninS H37 nin0))
  have F41 := F15.keep K29 (ninS H44 (ninS H46 nin0))
  have F42 := F16.keep K29 (ninS H47 (ninS H49 nin0))
  have F43 := F17.keep K29
  have F44 := F20.keep K29 (ninS (Ne.symm H50) (ninS H52 nin0))
  have F45 := Nat.le_trans F22 K29.1
  have F46 := F23.trans K29 (allS (P := fun x => x ∈ [p0, cu, an, ss, li, bl] ∨ h0.size ≤ x) (Or.inl (List.mem_of_getElem? (i := 4) rfl)) (allS (P := fun x => x ∈ [p0, cu, an, ss, li, bl] ∨ h0.size ≤ x) (Or.inl (List.mem_of_getElem? (i := 5) rfl)) all0))
  have F47 := F24.keep K29 (ninS H40 (ninS H42 nin0))
  refine Go.trans st29 ?_
  show Go _ _ _ _ (T29.setTop (mkF m 53 #[vR p0, vI (0 : Int32), vI c0] []))
  refine Go.back (fun t k => XS.aloadN Y29.here hx rfl (hb hby d11_53) rfl rfl  k) ?_
  obtain ⟨T51, X51, e51, st51⟩ := getF Y29 hx hZ hown (host := "") (Or.inl (wk hw 38 rfl)) Via.refl e29 F32 (g := (mkF m 54 #[vR p0, vI (0 : Int32), vI c0] [(.ref p0)])) rfl rfl (hb hby d11_54)
  refine Go.back st51 ?_
  refine Go.back (fun t k => XS.iloadN X51.here hx rfl (hb hby d11_57) rfl  k) ?_
  refine Go.back (fun t k => XS.bipush X51.here hx rfl (hb hby d11_58) k) ?_
  show Go _ _ _ _ (T51.setTop (mkF m 60 #[vR p0, vI (0 : Int32), vI c0] [(.int (6 : Int32)), (.int c0), (.ref an)]))
  refine Go.back (fun t k => XS.iushr X51.here hx rfl (hb hby d11_60) rfl k) ?_
  refine Go.back (fun t k => Jvm.Free.XT.dup2 X51.here hx rfl (hb hby d11_61) rfl rfl rfl k) ?_
  obtain ⟨cl52, Ar52, hi52, ha52⟩ := F41.get (j := (((c0).toUInt32 >>> ((6 : Int32) &&& 31).toUInt32).toInt32)) (own_ix0 hr0 hy8) (v := (.long (List.getD ys ((((c0).toUInt32 >>> ((6 : Int32) &&& 31).toUInt32).toInt32)).toNatClampNeg (0 : Int64)))) (getJ ys (by simpa using own_ix1 hr0 hy8))
  refine Go.back (fun t k => X51.laload hx (j := (((c0).toUInt32 >>> ((6 : Int32) &&& 31).toUInt32).toInt32)) (v := (.long (List.getD ys ((((c0).toUInt32 >>> ((6 : Int32) &&& 31).toUInt32).toInt32)).toNatClampNeg (0 : Int64)))) (by rw [e51]; exact Ar52.1) (State.isArrayOf_alike hZ.alike Ar52.2.1) Ar52.2.2 hi52 ha52 (g := (mkF m 62 #[vR p0, vI (0 : Int32), vI c0] [(.int (((c0).toUInt32 >>> ((6 : Int32) &&& 31).toUInt32).toInt32)), (.ref an), (.int (((c0).toUInt32 >>> ((6 : Int32) &&& 31).toUInt32).toInt32)), (.ref an)])) rfl rfl (hb hby d11_62) t k) ?_
  refine Go.back (fun t k => XS.lconst X51.here hx rfl (hb hby d11_63) k) ?_
  show Go _ _ _ _ (T51.setTop (mkF m 64 #[vR p0, vI (0 : Int32), vI c0] [(.long (1 : Int64)), (.long (List.getD ys ((((c0).toUInt32 >>> ((6 : Int32) &&& 31).toUInt32).toInt32)).toNatClampNeg (0 : Int64))), (.int (((c0).toUInt32 >>> ((6 : Int32) &&& 31).toUInt32).toInt32)), (.ref an)]))
  refine Go.back (fun t k => XS.iloadN X51.here hx rfl (hb hby d11_64) rfl  k) ?_
  refine Go.back (fun t k => XS.lshl X51.here hx rfl (hb hby d11_65) rfl k) ?_
  refine Go.back (fun t k => XS.lor X51.here hx rfl (hb hby d11_66) rfl k) ?_
  obtain ⟨cl53, Ar53, hi53, -⟩ := F41.at (j := (((c0).toUInt32 >>> ((6 : Int32) &&& 31).toUInt32).toInt32)) (own_ix0 hr0 hy8) (by simpa using (own_ix1 hr0 hy8))
  obtain ⟨T53, h53, X53, e53, W53, st53⟩ := stJ X51 hx hZ e51 Ar53 (j := (((c0).toUInt32 >>> ((6 : Int32) &&& 31).toUInt32).toInt32)) hi53 (g := (mkF m 67 #[vR p0, vI (0 : Int32), vI c0] [(.long ((List.getD ys ((((c0).toUInt32 >>> ((6 : Int32) &&& 31).toUInt32).toInt32)).toNatClampNeg (0 : Int64)) ||| (((1 : Int64) <<< (c0 &&& 0x3f).toInt64)))), (.int (((c0).toUInt32 >>> ((6 : Int32) &&& 31).toUInt32).toInt32)), (.ref an)])) rfl rfl (hb hby d11_67)
  have F54 := F30.wr W53
  have F55 := F31.other W53 (Or.inl H27)
  have F56 := F32.other W53 (Or.inl H27)
  have F57 := F33.other W53 (Or.inl H27)
  have F58 := F34.other W53 (Or.inl H27)
  have F59 := F35.other W53 (Or.inl H27)
  have F60 := F36.other W53 (Or.inl H27)
  have F61 := F37.other W53 (Or.inl H27)
  have F62 := F38.other W53 (Or.inl H27)
  have F63 := F39.other W53 (Or.inl H33)
  have F64 := F40.other W53 (Or.inl H33)
  have F65 : ArL Z h53 an .long (List.map Value.long (List.set ys ((((c0).toUInt32 >>> ((6 : Int32) &&& 31).toUInt32).toInt32)).toNatClampNeg ((List.getD ys ((((c0).toUInt32 >>> ((6 : Int32) &&& 31).toUInt32).toInt32)).toNatClampNeg (0 : Int64)) ||| (((1 : Int64) <<< (c0 &&& 0x3f).toInt64))))) := ArL.setJ (xs := ys) F41 W53
  have F66 := F42.other W53 (Ne.symm H43)
  have F67 := F43.wr W53
  have F68 := F44.other W53 (Ne.symm H45)
  have F69 := Nat.le_trans F45 (Keep.of_wr W53).1
  have F70 := F46.wr W53 (Or.inl (List.mem_of_getElem? (i := 2) rfl))
  have F71 := F47.other W53 H38
  have F72 := F48.other W53 (Or.inl (Ne.symm H44))
  have F73 := F49.other W53 (Or.inl (Ne.symm H44))
  have F74 := F50.other W53 (Ne.symm H46)
  obtain ⟨Lo53, Y53, N53⟩ := pk X53 (Fr.snoc X53 N29 H21)
  refine Go.back st53 ?_
  show Go _ _ _ _ (T53.setTop (mkF m 68 #[vR p0, vI (0 : Int32), vI c0] []))
  refine Go.back (fun t k => XS.iinc Y53.here hx rfl (hb hby d11_68) rfl (l' := #[vR p0, vI ((0 : Int32) + (1 : Int32)), vI c0]) rfl k) ?_
  refine Go.back (fun t k => XS.goto Y53.here hx rfl (pc0 := 71) (pc' := 14) rfl (hb hby d11_71) (by decide) (by decide) k) ?_
  show Go _ _ _ _ (T53.setTop (mkF m 14 #[vR p0, vI ((0 : Int32) + (1 : Int32)), vI c0] []))
  rw [show ((0 : Int32) + (1 : Int32)) = (1 : Int32) from by decide]
  show Go _ _ _ _ (T53.setTop (mkF m 14 #[vR p0, vI (1 : Int32), vI c0] []))
  refine Go.back (fun t k => XS.iloadN Y53.here hx rfl (hb hby d11_14) rfl  k) ?_
  refine Go.back (fun t k => XS.aloadN Y53.here hx rfl (hb hby d11_15) rfl rfl  k) ?_
  obtain ⟨T75, X75, e75, st75⟩ := getF Y53 hx hZ hown (host := "") (Or.inl (wk hw 109 rfl)) Via.refl e53 F62 (g := (mkF m 16 #[vR p0, vI (1 : Int32), vI c0] [(.ref p0), (.int (1 : Int32))])) rfl rfl (hb hby d11_16)
  refine Go.back st75 ?_
  show Go _ _ _ _ (T75.setTop (mkF m 19 #[vR p0, vI (1 : Int32), vI c0] [(.int (1 : Int32)), (.int (1 : Int32))]))
  refine Go.back (fun t k => XS.icmpYes X75.here hx rfl (pc0 := 19) (pc' := 74) rfl (hb hby d11_19) rfl (flt (by decide)).2.1 (by decide) (by decide) k) ?_
  show Go _ _ _ _ (T75.setTop (mkF m 74 #[vR p0, vI (1 : Int32), vI c0] []))
  refine Go.back (fun t k => XS.aloadN X75.here hx rfl (hb hby d11_74) rfl rfl  k) ?_
  refine Go.back (fun t k => XS.iconst X75.here hx rfl (hb hby d11_75) k) ?_
  obtain ⟨T76, h76, X76, e76, W76, st76⟩ := putF X75 hx hZ hown (host := "") (Or.inl (wk hw 109 rfl)) Via.refl e75 F62 F54 (Or.inl (wk hw 110 rfl)) (wk hw 29 rfl) (ty := .int) (by decide) rfl rfl (g := (mkF m 76 #[vR p0, vI (1 : Int32), vI c0] [(.int (0 : Int32)), (.ref p0)])) rfl rfl (hb hby d11_76)
  have F77 := F54.wr W76
  have F78 := F55.other W76 (Or.inr (slot_ne (Or.inr (wk hw 35 rfl)) (Or.inl (wk hw 110 rfl)) (by decide) (t := (.object "com/example/onward/onward/check/RequirementRows")) (t' := .int) (by decide) (by decide)))
  have F79 := F56.other W76 (Or.inr (slot_ne (Or.inr (wk hw 39 rfl)) (Or.inl (wk hw 110 rfl)) (by decide) (t := (.array .long)) (t' := .int) (by decide) (by decide)))
  have F80 := F57.other W76 (Or.inr (slot_ne (Or.inl (wk hw 42 rfl)) (Or.inl (wk hw 110 rfl)) (by decide) (t := (.array .int)) (t' := .int) (by decide) (by decide)))
  have F81 := F58.other W76 (Or.inr (slot_ne (Or.inr (wk hw 44 rfl)) (Or.inl (wk hw 110 rfl)) (by decide) (t := .int) (t' := .int) (by decide) (by decide)))
  have F82 := F59.other W76 (Or.inr (slot_ne (Or.inr (wk hw 46 rfl)) (Or.inl (wk hw 110 rfl)) (by decide) (t := .int) (t' := .int) (by decide) (by decide)))
  have F83 := F60.other W76 (Or.inr (slot_ne (Or.inl (wk hw 48 rfl)) (Or.inl (wk hw 110 rfl)) (by decide) (t := .int) (t' := .int) (by decide) (by decide)))
  have F84 := F61.other W76 (Or.inr (slot_ne (Or.inr (wk hw 51 rfl)) (Or.inl (wk hw 110 rfl)) (by decide) (t := (.object "com/example/onward/onward/lts/IntBlocks")) (t' := .int) (by decide) (by decide)))
  have F85 : Fld Z h76 p0 cP "currentCount" "I" (.int (0 : Int32)) := F62.same W76
  have F86 := F63.other W76 (Or.inl (Ne.symm H25))
  have F87 := F64.other W76 (Or.inl (Ne.symm H25))
  have F88 := F65.other W76 (Ne.symm H27)
  have F89 := F66.other W76 (Ne.symm H28)
  have F90 := F67.wr W76
  have F91 := F68.other W76 (Ne.symm H30)
  have F92 := Nat.le_trans F69 (Keep.of_wr W76).1
  have F93 := F70.wr W76 (Or.inl (List.mem_of_getElem? (i := 0) rfl))
  have F94 := F71.other W76 (Ne.symm H26)
  have F95 := F72.other W76 (Or.inl (Ne.symm H29))
  have F96 := F73.other W76 (Or.inl (Ne.symm H29))
  have F97 := F74.other W76 (Ne.symm H31)
  obtain ⟨Lo76, Y76, N76⟩ := pk X76 (Fr.snoc X76 N53 H19)
  refine Go.back st76 ?_
  refine Go.back (fun t k => XS.aloadN Y76.here hx rfl (hb hby d11_79) rfl rfl  k) ?_
  show Go _ _ _ _ (T76.setTop (mkF m 80 #[vR p0, vI (1 : Int32), vI c0] [(.ref p0)]))
  obtain ⟨T98, X98, e98, st98⟩ := getF Y76 hx hZ hown (host := "") (Or.inl (wk hw 34 rfl)) Via.refl e76 F78 (g := (mkF m 80 #[vR p0, vI (1 : Int32), vI c0] [(.ref p0)])) rfl rfl (hb hby d11_80)
  refine Go.back st98 ?_
  obtain ⟨T99, X99, e99, st99⟩ := getF X98 hx hZ hown (Or.inr (wk hw 141 rfl)) Via.refl e98 F87 (g := (mkF m 83 #[vR p0, vI (1 : Int32), vI c0] [(.ref rr)])) rfl rfl (hb hby d11_83)
  refine Go.back st99 ?_
  refine Go.back (fun t k => XS.aloadN X99.here hx rfl (hb hby d11_86) rfl rfl  k) ?_
  obtain ⟨T100, X100, e100, st100⟩ := getF X99 hx hZ hown (host := "") (Or.inl (wk hw 47 rfl)) Via.refl e99 F83 (g := (mkF m 87 #[vR p0, vI (1 : Int32), vI c0] [(.ref p0), (.ref ss)])) rfl rfl (hb hby d11_87)
  refine Go.back st100 ?_
  show Go _ _ _ _ (T100.setTop (mkF m 90 #[vR p0, vI (1 : Int32), vI c0] [(.int (1 : Int32)), (.ref ss)]))
  refine Go.back (fun t k => XS.iconst X100.here hx rfl (hb hby d11_90) k) ?_
  refine Go.back (fun t k => XS.iadd X100.here hx rfl (hb hby d11_91) rfl k) ?_
  refine Go.back (fun t k => XS.aloadN X100.here hx rfl (hb hby d11_92) rfl rfl  k) ?_
  obtain ⟨T101, X101, e101, st101⟩ := getF X100 hx hZ hown (host := "") (Or.inl (wk hw 50 rfl)) Via.refl e100 F84 (g := (mkF m 93 #[vR p0, vI (1 : Int32), vI c0] [(.ref p0), (.int ((1 : Int32) + (1 : Int32))), (.ref ss)])) rfl rfl (hb hby d11_93)
  refine Go.back st101 ?_
  show Go _ _ _ _ (T101.setTop (mkF m 96 #[vR p0, vI (1 : Int32), vI c0] [(.ref li), (.int ((1 : Int32) + (1 : Int32))), (.ref ss)]))
  obtain ⟨cq102, kq102, q102a, q102b, q102c⟩ := isOf hZ e101 F90
  obtain ⟨_, _, ⟨T102, L102, k102, n102⟩, -, X102, ⟨Lc102, hQ102, l102, y102, z102⟩, st102⟩ := X101.virtualBack hx (y := (⟨"com/example/onward/onward/lts/IntBlocks", "size", "()I"⟩ : MethodName)) (z := (⟨"com/example/onward/onward/lts/IntBlocks", "size", "()I"⟩ : MethodName)) hown (mvT hZ (wk hw 142 rfl)) (mvT hZ (wk hw 143 rfl)) (notFace_of_selects (args := #[]) (mvT hZ (wk hw 145 rfl))) (mvT hZ (wk hw 145 rfl)) (mvT hZ (wk hw 144 rfl)) (by decide) (backOf (W := 2) (rm18 l Z a0 hw [] li (sz + (1 : Int32)) h76 n0 F92 F95) hZ (wk hw 146 rfl) (wk hw 82 rfl) (by decide) (by decide)) q102a q102c (g := (mkF m 96 #[vR p0, vI (1 : Int32), vI c0] [(.ref li), (.int ((1 : Int32) + (1 : Int32))), (.ref ss)])) rfl (by rw [hml]; rfl) (Steps.refl _) (argsL := []) (rest := [(.int ((1 : Int32) + (1 : Int32))), (.ref ss)]) (lenOf pd_5 rfl) rfl (by show 2 * 0 + _ ≤ _; exact Nat.le_of_eq rfl) (hb hby d11_96) (fun _ _ => ⟨rfl, e101, (by decide : 0 + 0 ≤ _), (by decide : 0 + 0 ≤ _)⟩)
  dsimp only [Pt.U, Pt.locs, Pt.cells, Pt.slots] at X102 l102 y102 z102 st102 hQ102
  subst l102 y102 z102
  obtain ⟨rfl, N102q, e102⟩ := hQ102
  obtain ⟨Lo102, Y102, N102⟩ := pk X102 (Fr.app N76 N102q)
  refine Go.trans st102 ?_
  show Go _ _ _ _ (T102.setTop (mkF m 99 #[vR p0, vI (1 : Int32), vI c0] [(.int (sz + (1 : Int32))), (.int ((1 : Int32) + (1 : Int32))), (.ref ss)]))
  rw [show ((1 : Int32) + (1 : Int32)) = (2 : Int32) from by decide]
  show Go _ _ _ _ (T102.setTop (mkF m 99 #[vR p0, vI (1 : Int32), vI c0] [(.int (sz + (1 : Int32))), (.int (2 : Int32)), (.ref ss)]))
  obtain ⟨cl103, Ar103, hi103, -⟩ := F89.at (j := (2 : Int32)) (by decide) (Nat.le_of_ble_eq_true rfl)
  obtain ⟨T103, h103, X103, e103, W103, st103⟩ := stI Y102 hx hZ e102 Ar103 (j := (2 : Int32)) hi103 (g := (mkF m 99 #[vR p0, vI (1 : Int32), vI c0] [(.int (sz + (1 : Int32))), (.int (2 : Int32)), (.ref ss)])) rfl rfl (hb hby d11_99)
  have F104 := F77.wr W103
  have F105 := F78.other W103 (Or.inl H28)
  have F106 := F79.other W103 (Or.inl H28)
  have F107 := F80.other W103 (Or.inl H28)
  have F108 := F81.other W103 (Or.inl H28)
  have F109 := F82.other W103 (Or.inl H28)
  have F110 := F83.other W103 (Or.inl H28)
  have F111 := F84.other W103 (Or.inl H28)
  have F112 := F85.other W103 (Or.inl H28)
  have F113 := F86.other W103 (Or.inl H34)
  have F114 := F87.other W103 (Or.inl H34)
  have F115 := F88.other W103 H43
  have F116 : ArL Z h103 ss .int [(.int s0), (.int s1), (.int (sz + (1 : Int32)))] := F89.set W103
  have F117 := F90.wr W103
  have F118 := F91.other W103 (Ne.symm H48)
  have F119 := Nat.le_trans F92 (Keep.of_wr W103).1
  have F120 := F93.wr W103 (Or.inl (List.mem_of_getElem? (i := 3) rfl))
  have F121 := F94.other W103 H39
  have F122 := F95.other W103 (Or.inl (Ne.symm H47))
  have F123 := F96.other W103 (Or.inl (Ne.symm H47))
  have F124 := F97.other W103 (Ne.symm H49)
  obtain ⟨Lo103, Y103, N103⟩ := pk X103 (Fr.snoc X103 N102 H22)
  refine Go.back st103 ?_
  show Go _ _ _ _ (T103.setTop (mkF m 100 #[vR p0, vI (1 : Int32), vI c0] []))
  exact Go.retV Y103 hx Bd.returns (hb hby d11_100) Bd.notSynchronized ⟨rfl, N103, (by rw [e103]; exact F120), (by rw [e103]; exact F105), (by rw [e103]; exact F106), (by rw [e103]; exact F107), (by rw [e103]; exact F108), (by rw [e103]; exact F109), (by rw [e103]; exact F110), (by rw [e103]; exact F111), (by rw [e103]; exact F112), (by rw [e103]; exact F122), (by rw [e103]; exact F123), (by rw [e103]; exact F121), (by rw [e103]; exact F116), ⟨(List.set ys ((((c0).toUInt32 >>> ((6 : Int32) &&& 31).toUInt32).toInt32)).toNatClampNeg ((List.getD ys ((((c0).toUInt32 >>> ((6 : Int32) &&& 31).toUInt32).toInt32)).toNatClampNeg (0 : Int64)) ||| (((1 : Int64) <<< (c0 &&& 0x3f).toInt64)))), by simp, by rw [e103]; exact F115⟩, ⟨(List.set bs (sz).toNatClampNeg c0), by simp [hbs], by rw [e103]; exact F124⟩⟩ (by decide) (by decide)
def Q47 (Z : State) (p0 : Addr) (rr : Addr) (cu : Addr) (an : Addr) (ss : Addr) (li : Addr) (ob : Addr) (bl : Addr) (c0 : Int32) (c1 : Int32) (sz : Int32) (s0 : Int32) (s1 : Int32) (s2 : Int32) (ys : List Int64) (bs : List Int32) (h0 : Heap) (n0 : Nat) (v : Option Value) (h : Heap) (L : List Loc) : Prop := v = none ∧ Fr n0 L ∧ Keep h0 h [p0, cu, an, ss, li, bl] ∧ Fld Z h p0 cP "this$0" dR (.ref rr) ∧ Fld Z h p0 cP "anywhere" "[J" (.ref an) ∧ Fld Z h p0 cP "current" "[I" (.ref cu) ∧ Fld Z h p0 cP "first" "I" (.int (0 : Int32)) ∧ Fld Z h p0 cP "end" "I" (.int (2 : Int32)) ∧ Fld Z h p0 cP "filling" "I" (.int (2 : Int32)) ∧ Fld Z h p0 cP "listed" dI (.ref li) ∧ Fld Z h p0 cP "currentCount" "I" (.int (0 : Int32)) ∧ Fld Z h li cI "size" "I" (.int (sz + (1 : Int32))) ∧ Fld Z h li cI "blocks" "[[I" (.ref ob) ∧ ArL Z h cu .int [(.int c0), (.int c1), (.int (0 : Int32)), (.int (0 : Int32)), (.int (0 : Int32)), (.int (0 : Int32)), (.int (0 : Int32)), (.int (0 : Int32)), (.int (0 : Int32)), (.int (0 : Int32)), (.int (0 : Int32)), (.int (0 : Int32)), (.int (0 : Int32)), (.int (0 : Int32)), (.int (0 : Int32)), (.int (0 : Int32))] ∧ ArL Z h ss .int [(.int s0), (.int s1), (.int (sz + (1 : Int32)))] ∧ (∃ G : List Int64, G.length = ys.length ∧ ArL Z h an .long (List.map Value.long G)) ∧ (∃ B : List Int32, B.length = 16 ∧ ArL Z h bl .int (List.map Value.int B))
abbrev rmm47 : Room := { frames := 5, cells := 0, slots := 0, locals := 95 }
abbrev P47 (Z : State) (p0 : Addr) (rr : Addr) (cu : Addr) (an : Addr) (ss : Addr) (li : Addr) (ob : Addr) (bl : Addr) (c0 : Int32) (c1 : Int32) (sz : Int32) (s0 : Int32) (s1 : Int32) (s2 : Int32) (ys : List Int64) (bs : List Int32) (h0 : Heap) (n0 : Nat) (s : State) : Outcome → State → Prop := fun o U' => ∃ v L, o = .returned v ∧ Q47 Z p0 rr cu an ss li ob bl c0 c1 sz s0 s1 s2 ys bs h0 n0 v U'.heap L ∧ FrameEnd s o U' L rmm47.cells rmm47.slots
theorem pn_47 : plainName "com/example/onward/onward/check/RequirementRows$Part" = true := by first | (simp [plainName, overriddenIn]; done) | decide +kernel
theorem ef_47 (m : MethodId) (p0 : Addr) : entryFrame m #[(.ref p0)] 2 = mkF m 0 #[vR p0, uS] [] := by first | (simp [entryFrame, mkF, argsToLocals, Value.category]; done) | rfl
set_option maxRecDepth 65536 in
set_option maxHeartbeats 40000000 in
theorem rm47 (l : Launch) (Z : State) (a0 : Array Value) (hw : ∀ d ∈ tables_1, d.before a0 Z = true) (ws : List Jvm.Cond) (p0 : Addr) (rr : Addr) (cu : Addr) (an : Addr) (ss : Addr) (li : Addr) (ob : Addr) (bl : Addr) (c0 : Int32) (c1 : Int32) (sz : Int32) (s0 : Int32) (s1 : Int32) (s2 : Int32) (ys : List Int64) (bs : List Int32) (h0 : Heap) (n0 : Nat) (Z0 : n0 ≤ h0.size) (H0 : Exa Z h0 p0 cP) (H1 : Fld Z h0 p0 cP "this$0" dR (.ref rr)) (H2 : Fld Z h0 p0 cP "anywhere" "[J" (.ref an)) (H3 : Fld Z h0 p0 cP "current" "[I" (.ref cu)) (H4 : Fld Z h0 p0 cP "first" "I" (.int (0 : Int32))) (H5 : Fld Z h0 p0 cP "end" "I" (.int (2 : Int32))) (H6 : Fld Z h0 p0 cP "filling" "I" (.int (1 : Int32))) (H7 : Fld Z h0 p0 cP "listed" dI (.ref li)) (H8 : Fld Z h0 p0 cP "currentCount" "I" (.int (1 : Int32))) (H9 : Fld Z h0 rr cR "rows" "[J" .null) (H10 : Fld Z h0 rr cR "starts" "[I" (.ref ss)) (H11 : ArL Z h0 cu .int [(.int c0), (.int c1), (.int (0 : Int32)), (.int (0 : Int32)), (.int (0 : Int32)), (.int (0 : Int32)), (.int (0 : Int32)), (.int (0 : Int32)), (.int (0 : Int32)), (.int (0 : Int32)), (.int (0 : Int32)), (.int (0 : Int32)), (.int (0 : Int32)), (.int (0 : Int32)), (.int (0 : Int32)), (.int (0 : Int32))]) (H12 : ArL Z h0 an .long (List.map Value.long ys)) (H13 : ArL Z h0 ss .int [(.int s0), (.int s1), (.int s2)]) (H14 : Exa Z h0 li cI) (H15 : Fld Z h0 li cI "size" "I" (.int sz)) (H16 : Fld Z h0 li cI "blocks" "[[I" (.ref ob)) (H17 : ArL Z h0 ob (.array .int) [(.ref bl)]) (H18 : ArL Z h0 bl .int (List.map Value.int bs)) (H19 : n0 ≤ p0) (H20 : n0 ≤ cu) (H21 : n0 ≤ an) (H22 : n0 ≤ ss) (H23 : n0 ≤ li) (H24 : n0 ≤ bl) (H25 : p0 ≠ rr) (H26 : p0 ≠ cu) (H27 : p0 ≠ an) (H28 : p0 ≠ ss) (H29 : p0 ≠ li) (H30 : p0 ≠ ob) (H31 : p0 ≠ bl) (H32 : rr ≠ cu) (H33 : rr ≠ an) (H34 : rr ≠ ss) (H35 : rr ≠ li) (H36 : rr ≠ ob) (H37 : rr ≠ bl) (H38 : cu ≠ an) (H39 : cu ≠ ss) (H40 : cu ≠ li) (H41 : cu ≠ ob) (H42 : cu ≠ bl) (H43 : an ≠ ss) (H44 : an ≠ li) (H45 : an ≠ ob) (H46 : an ≠ bl) (H47 : ss ≠ li) (H48 : ss ≠ ob) (H49 : ss ≠ bl) (H50 : li ≠ ob) (H51 : li ≠ bl) (H52 : ob ≠ bl) (hsz : own_sz 2 sz) (hbs : bs.length = 16) (hr0 : own_rng c0 ys.length) (hy8 : ys.length ≤ 8) :
    MetFree l (⟨"com/example/onward/onward/check/RequirementRows$Part", "endState", "()V"⟩ : MethodName) (head1 (Jvm.Cond.code (⟨"com/example/onward/onward/check/RequirementRows$Part", "endState", "()V"⟩ : MethodName) prog_63_method_7_code 2 none :: ws) rmm47) (fun a U => a = #[(.ref p0)] ∧ Z.Warmed39 U.vm ∧ U.heap = h0) (fun _ _ _ _ _ => True) (fun _ U o U' => ∃ v L, o = .returned v ∧ Q47 Z p0 rr cu an ss li ob bl c0 c1 sz s0 s1 s2 ys bs h0 n0 v U'.heap L ∧ FrameEnd U o U' L rmm47.cells rmm47.slots) := by
  refine MetFree.of_bodySF (plainFor_of_name pn_47) hisR ?_
  intro p e s m args below meth c s₁ Bd hml0 hP hK
  obtain ⟨rfl, hZ, hh⟩ := hP
  have hx := Bd.exec
  have hby := Bd.bytes
  have hml : c.maxLocals = 2 := hml0
  have hown : s.vm.findClass "com/example/onward/onward/check/RequirementRows$Part" = some m.cls := findClass_of_methodNamed Bd.named
  have hnm := (name_of_methodNamed Bd.named Bd.method).1
  have X0 : Stand p l e rmm47 s m #[(.ref p0)] below meth c s₁ [] 0 0 := Stand.of_body Bd
  have e0 : s₁.heap = h0 := by rw [← hh, Bd.state]; rfl
  have N0 := Fr.nil n0
  show Go p.tables e below (P47 Z p0 rr cu an ss li ob bl c0 c1 sz s0 s1 s2 ys bs h0 n0 s) (s₁.setTop (entryFrame m #[(.ref p0)] 2))
  refine Go.back (fun t k => castTop (ef_47 m p0) k) ?_
  show Go p.tables e below (P47 Z p0 rr cu an ss li ob bl c0 c1 sz s0 s1 s2 ys bs h0 n0 s) (s₁.setTop (mkF m 0 #[vR p0, uS] []))
  refine Go.back (fun t k => XS.aloadN X0.here hx rfl (hb hby d5_0) rfl rfl  k) ?_
  obtain ⟨T1, X1, e1, st1⟩ := getF X0 hx hZ hown (host := "") (Or.inl (wk hw 34 rfl)) Via.refl e0 H1 (g := (mkF m 1 #[vR p0, uS] [(.ref p0)])) rfl rfl (hb hby d5_1)
  refine Go.back st1 ?_
  obtain ⟨T2, X2, e2, st2⟩ := getF X1 hx hZ hown (Or.inr (wk hw 49 rfl)) Via.refl e1 H9 (g := (mkF m 4 #[vR p0, uS] [(.ref rr)])) rfl rfl (hb hby d5_4)
  refine Go.back st2 ?_
  show Go _ _ _ _ (T2.setTop (mkF m 7 #[vR p0, uS] [.null]))
  refine Go.back (fun t k => XS.ifnullYes X2.here hx rfl (pc0 := 7) (pc' := 63) rfl (hb hby d5_7) rfl (by decide) (by decide) k) ?_
  show Go _ _ _ _ (T2.setTop (mkF m 63 #[vR p0, uS] []))
  refine Go.back (fun t k => XS.aloadN X2.here hx rfl (hb hby d5_63) rfl rfl  k) ?_
  obtain ⟨cq3, q3, q3'⟩ := H0.cell
  obtain ⟨_, _, ⟨T3, L3, k3, n3⟩, -, X3, ⟨Lc3, hQ3, l3, y3, z3⟩, st3⟩ := X2.privateBack hx (y := (⟨"com/example/onward/onward/check/RequirementRows$Part", "endList", "()V"⟩ : MethodName)) hown (mvT hZ (wk hw 111 rfl)) (mvT hZ (wk hw 112 rfl)) (own_selpriv (z := (⟨"com/example/onward/onward/check/RequirementRows$Part", "endState", "()V"⟩ : MethodName)) rfl (mvT hZ (wk hw 55 rfl)) (Cond.privateMethod_at (mvP hZ (wk hw 113 rfl) (args := #[]))) (mvT hZ (wk hw 112 rfl)) (by decide)) (Cond.privateMethod_at (mvP hZ (wk hw 113 rfl) (args := #[]))) (mvT hZ (wk hw 114 rfl)) (by decide) (backOf (W := 0) (rm46 l Z a0 hw [] p0 rr cu an ss li ob bl c0 c1 sz s0 s1 s2 ys bs h0 n0 Z0 H0 H1 H2 H3 H4 H5 H6 H7 H8 H9 H10 H11 H12 H13 H14 H15 H16 H17 H18 H19 H20 H21 H22 H23 H24 H25 H26 H27 H28 H29 H30 H31 H32 H33 H34 H35 H36 H37 H38 H39 H40 H41 H42 H43 H44 H45 H46 H47 H48 H49 H50 H51 H52 hsz hbs hr0 hy8) hZ (wk hw 114 rfl) (wk hw 30 rfl) (by decide) (by decide)) (g := (mkF m 64 #[vR p0, uS] [(.ref p0)])) rfl (by rw [hml]; rfl) (Steps.refl _) (a := p0) (by rw [e2]; exact q3) q3' (argsL := []) (rest := []) (lenOf pd_6 rfl) rfl (by show 2 * 0 + _ ≤ _; exact Nat.le_of_eq rfl) (hb hby d5_64) (fun _ _ => ⟨rfl, e2, (by decide : 0 + 0 ≤ _), (by decide : 0 + 0 ≤ _)⟩)
  dsimp only [Pt.U, Pt.locs, Pt.cells, Pt.slots] at X3 l3 y3 z3 st3 hQ3
  subst l3 y3 z3
  obtain ⟨h3, e3⟩ : ∃ z, T3.heap = z := ⟨_, rfl⟩
  rw [e3] at hQ3
  obtain ⟨rfl, N3q, K3, F11, F12, F13, F14, F15, F16, F17, F18, F19, F20, F21, F22, t23, t24⟩ := hQ3
  obtain ⟨Lo3, Y3, N3⟩ := pk X3 (Fr.app N0 N3q)
  have F4 := H0.keep K3
  have F5 := H9.keep K3 (ninS (Ne.symm H25) (ninS H32 (ninS H33 (ninS H34 (ninS H35 (ninS H37 nin0))))))
  have F6 := H10.keep K3 (ninS (Ne.symm H25) (ninS H32 (ninS H33 (ninS H34 (ninS H35 (ninS H37 nin0))))))
  have F7 := H14.keep K3
  have F8 := H17.keep K3 (ninS (Ne.symm H30) (ninS (Ne.symm H41) (ninS (Ne.symm H45) (ninS (Ne.symm H48) (ninS (Ne.symm H50) (ninS H52 nin0))))))
  have F9 := Nat.le_trans Z0 K3.1
  have F10 : Keep h0 h3 [p0, cu, an, ss, li, bl] := (Keep.refl h0 [p0, cu, an, ss, li, bl]).trans K3 (allS (P := fun x => x ∈ [p0, cu, an, ss, li, bl] ∨ h0.size ≤ x) (Or.inl (List.mem_of_getElem? (i := 0) rfl)) (allS (P := fun x => x ∈ [p0, cu, an, ss, li, bl] ∨ h0.size ≤ x) (Or.inl (List.mem_of_getElem? (i := 1) rfl)) (allS (P := fun x => x ∈ [p0, cu, an, ss, li, bl] ∨ h0.size ≤ x) (Or.inl (List.mem_of_getElem? (i := 2) rfl)) (allS (P := fun x => x ∈ [p0, cu, an, ss, li, bl] ∨ h0.size ≤ x) (Or.inl (List.mem_of_getElem? (i := 3) rfl)) (allS (P := fun x => x ∈ [p0, cu, an, ss, li, bl] ∨ h0.size ≤ x) (Or.inl (List.mem_of_getElem? (i := 4) rfl)) (allS (P := fun x => x ∈ [p0, cu, an, ss, li, bl] ∨ h0.size ≤ x) (Or.inl (List.mem_of_getElem? (i := 5) rfl)) all0))))))
  obtain ⟨G3, hG3, FG3⟩ := t23
  obtain ⟨B3, hB3, FB3⟩ := t24
  refine Go.trans st3 ?_
  show Go _ _ _ _ (T3.setTop (mkF m 67 #[vR p0, uS] []))
  refine Go.back (fun t k => XS.aloadN Y3.here hx rfl (hb hby d5_67) rfl rfl  k) ?_
  refine Go.back (fun t k => XS.dup Y3.here hx rfl (hb hby d5_68) rfl rfl k) ?_
  obtain ⟨T25, X25, e25, st25⟩ := getF Y3 hx hZ hown (host := "") (Or.inl (wk hw 47 rfl)) Via.refl e3 F16 (g := (mkF m 69 #[vR p0, uS] [(.ref p0), (.ref p0)])) rfl rfl (hb hby d5_69)
  refine Go.back st25 ?_
  refine Go.back (fun t k => XS.iconst X25.here hx rfl (hb hby d5_72) k) ?_
  show Go _ _ _ _ (T25.setTop (mkF m 73 #[vR p0, uS] [(.int (1 : Int32)), (.int (1 : Int32)), (.ref p0)]))
  refine Go.back (fun t k => XS.iadd X25.here hx rfl (hb hby d5_73) rfl k) ?_
  show Go _ _ _ _ (T25.setTop (mkF m 74 #[vR p0, uS] [(.int ((1 : Int32) + (1 : Int32))), (.ref p0)]))
  rw [show ((1 : Int32) + (1 : Int32)) = (2 : Int32) from by decide]
  show Go _ _ _ _ (T25.setTop (mkF m 74 #[vR p0, uS] [(.int (2 : Int32)), (.ref p0)]))
  obtain ⟨T26, h26, X26, e26, W26, st26⟩ := putF X25 hx hZ hown (host := "") (Or.inl (wk hw 47 rfl)) Via.refl e25 F16 F4 (Or.inl (wk hw 48 rfl)) (wk hw 29 rfl) (ty := .int) (by decide) rfl rfl (g := (mkF m 74 #[vR p0, uS] [(.int (2 : Int32)), (.ref p0)])) rfl rfl (hb hby d5_74)
  have F27 := F4.wr W26
  have F28 := F5.other W26 (Or.inl (Ne.symm H25))
  have F29 := F6.other W26 (Or.inl (Ne.symm H25))
  have F30 := F7.wr W26
  have F31 := F8.other W26 (Ne.symm H30)
  have F32 := Nat.le_trans F9 (Keep.of_wr W26).1
  have F33 := F10.wr W26 (Or.inl (List.mem_of_getElem? (i := 0) rfl))
  have F34 := F11.other W26 (Or.inr (slot_ne (Or.inr (wk hw 35 rfl)) (Or.inl (wk hw 48 rfl)) (by decide) (t := (.object "com/example/onward/onward/check/RequirementRows")) (t' := .int) (by decide) (by decide)))
  have F35 := F12.other W26 (Or.inr (slot_ne (Or.inr (wk hw 39 rfl)) (Or.inl (wk hw 48 rfl)) (by decide) (t := (.array .long)) (t' := .int) (by decide) (by decide)))
  have F36 := F13.other W26 (Or.inr (slot_ne (Or.inl (wk hw 42 rfl)) (Or.inl (wk hw 48 rfl)) (by decide) (t := (.array .int)) (t' := .int) (by decide) (by decide)))
  have F37 := F14.other W26 (Or.inr (slot_ne (Or.inr (wk hw 44 rfl)) (Or.inl (wk hw 48 rfl)) (by decide) (t := .int) (t' := .int) (by decide) (by decide)))
  have F38 := F15.other W26 (Or.inr (slot_ne (Or.inr (wk hw 46 rfl)) (Or.inl (wk hw 48 rfl)) (by decide) (t := .int) (t' := .int) (by decide) (by decide)))
  have F39 : Fld Z h26 p0 cP "filling" "I" (.int (2 : Int32)) := F16.same W26
  have F40 := F17.other W26 (Or.inr (slot_ne (Or.inr (wk hw 51 rfl)) (Or.inl (wk hw 48 rfl)) (by decide) (t := (.object "com/example/onward/onward/lts/IntBlocks")) (t' := .int) (by decide) (by decide)))
  have F41 := F18.other W26 (Or.inr (slot_ne (Or.inl (wk hw 110 rfl)) (Or.inl (wk hw 48 rfl)) (by decide) (t := .int) (t' := .int) (by decide) (by decide)))
  have F42 := F19.other W26 (Or.inl (Ne.symm H29))
  have F43 := F20.other W26 (Or.inl (Ne.symm H29))
  have F44 := F21.other W26 (Ne.symm H26)
  have F45 := F22.other W26 (Ne.symm H28)
  have F46 := FG3.other W26 (Ne.symm H27)
  have F47 := FB3.other W26 (Ne.symm H31)
  obtain ⟨Lo26, Y26, N26⟩ := pk X26 (Fr.snoc X26 N3 H19)
  refine Go.back st26 ?_
  show Go _ _ _ _ (T26.setTop (mkF m 77 #[vR p0, uS] []))
  exact Go.retV Y26 hx Bd.returns (hb hby d5_77) Bd.notSynchronized ⟨rfl, N26, (by rw [e26]; exact F33), (by rw [e26]; exact F34), (by rw [e26]; exact F35), (by rw [e26]; exact F36), (by rw [e26]; exact F37), (by rw [e26]; exact F38), (by rw [e26]; exact F39), (by rw [e26]; exact F40), (by rw [e26]; exact F41), (by rw [e26]; exact F42), (by rw [e26]; exact F43), (by rw [e26]; exact F44), (by rw [e26]; exact F45), ⟨G3, (hG3.trans rfl), by rw [e26]; exact F46⟩, ⟨B3, hB3, by rw [e26]; exact F47⟩⟩ (by decide) (by decide)
theorem d6_0 : decode prog_61_method_3_code 0 = .ok (.aload_n 1, 1) := by decide +kernel
theorem d6_1 : decode prog_61_method_3_code 1 = .ok (.getfield 52, 3) := by decide +kernel
theorem d6_4 : decode prog_61_method_3_code 4 = .ok (.aload_n 0, 1) := by decide +kernel
theorem d6_5 : decode prog_61_method_3_code 5 = .ok (.getfield 55, 3) := by decide +kernel
theorem d6_8 : decode prog_61_method_3_code 8 = .ok (.if_icmp .ne 14, 3) := by decide +kernel
theorem d6_11 : decode prog_61_method_3_code 11 = .ok (.aload_n 1, 1) := by decide +kernel
theorem d6_12 : decode prog_61_method_3_code 12 = .ok (.getfield 58, 3) := by decide +kernel
theorem d6_15 : decode prog_61_method_3_code 15 = .ok (.aload_n 1, 1) := by decide +kernel
theorem d6_16 : decode prog_61_method_3_code 16 = .ok (.getfield 61, 3) := by decide +kernel
theorem d6_19 : decode prog_61_method_3_code 19 = .ok (.if_icmp .eq 20, 3) := by decide +kernel
theorem d6_39 : decode prog_61_method_3_code 39 = .ok (.iconst 0, 1) := by decide +kernel
theorem d6_40 : decode prog_61_method_3_code 40 = .ok (.istore_n 2, 1) := by decide +kernel
theorem d6_41 : decode prog_61_method_3_code 41 = .ok (.iload_n 2, 1) := by decide +kernel
theorem d6_42 : decode prog_61_method_3_code 42 = .ok (.aload_n 0, 1) := by decide +kernel
theorem d6_43 : decode prog_61_method_3_code 43 = .ok (.getfield 44, 3) := by decide +kernel
theorem d6_46 : decode prog_61_method_3_code 46 = .ok (.arraylength, 1) := by decide +kernel
theorem d6_47 : decode prog_61_method_3_code 47 = .ok (.if_icmp .ge 24, 3) := by decide +kernel
theorem d6_50 : decode prog_61_method_3_code 50 = .ok (.aload_n 0, 1) := by decide +kernel
theorem d6_51 : decode prog_61_method_3_code 51 = .ok (.getfield 44, 3) := by decide +kernel
theorem d6_54 : decode prog_61_method_3_code 54 = .ok (.iload_n 2, 1) := by decide +kernel
theorem d6_55 : decode prog_61_method_3_code 55 = .ok (.dup2, 1) := by decide +kernel
theorem d6_56 : decode prog_61_method_3_code 56 = .ok (.laload, 1) := by decide +kernel
theorem d6_57 : decode prog_61_method_3_code 57 = .ok (.aload_n 1, 1) := by decide +kernel
theorem d6_58 : decode prog_61_method_3_code 58 = .ok (.getfield 71, 3) := by decide +kernel
theorem d6_61 : decode prog_61_method_3_code 61 = .ok (.iload_n 2, 1) := by decide +kernel
theorem d6_62 : decode prog_61_method_3_code 62 = .ok (.laload, 1) := by decide +kernel
theorem d6_63 : decode prog_61_method_3_code 63 = .ok (.lor, 1) := by decide +kernel
theorem d6_64 : decode prog_61_method_3_code 64 = .ok (.lastore, 1) := by decide +kernel
theorem d6_65 : decode prog_61_method_3_code 65 = .ok (.iinc 2 1, 3) := by decide +kernel
theorem d6_68 : decode prog_61_method_3_code 68 = .ok (.goto (-27), 3) := by decide +kernel
theorem d6_71 : decode prog_61_method_3_code 71 = .ok (.aload_n 0, 1) := by decide +kernel
theorem d6_72 : decode prog_61_method_3_code 72 = .ok (.getfield 27, 3) := by decide +kernel
theorem d6_75 : decode prog_61_method_3_code 75 = .ok (.ifnonnull 24, 3) := by decide +kernel
theorem d6_78 : decode prog_61_method_3_code 78 = .ok (.aload_n 0, 1) := by decide +kernel
theorem d6_79 : decode prog_61_method_3_code 79 = .ok (.getfield 35, 3) := by decide +kernel
theorem d6_82 : decode prog_61_method_3_code 82 = .ok (.invokevirtual 72, 3) := by decide +kernel
theorem d6_85 : decode prog_61_method_3_code 85 = .ok (.ifCond .ne 14, 3) := by decide +kernel
theorem d6_88 : decode prog_61_method_3_code 88 = .ok (.aload_n 0, 1) := by decide +kernel
theorem d6_89 : decode prog_61_method_3_code 89 = .ok (.aload_n 1, 1) := by decide +kernel
theorem d6_90 : decode prog_61_method_3_code 90 = .ok (.getfield 76, 3) := by decide +kernel
theorem d6_93 : decode prog_61_method_3_code 93 = .ok (.putfield 35, 3) := by decide +kernel
theorem d6_96 : decode prog_61_method_3_code 96 = .ok (.goto 83, 3) := by decide +kernel
theorem d6_179 : decode prog_61_method_3_code 179 = .ok (.aload_n 0, 1) := by decide +kernel
theorem d6_180 : decode prog_61_method_3_code 180 = .ok (.aload_n 1, 1) := by decide +kernel
theorem d6_181 : decode prog_61_method_3_code 181 = .ok (.getfield 61, 3) := by decide +kernel
theorem d6_184 : decode prog_61_method_3_code 184 = .ok (.putfield 55, 3) := by decide +kernel
theorem d6_187 : decode prog_61_method_3_code 187 = .ok (.return_, 1) := by decide +kernel
def Q48 (Z : State) (p0 : Addr) (p1 : Addr) (aa : Addr) (an : Addr) (xs : List Int64) (ys : List Int64) (nn : Nat) (ss : Addr) (li : Addr) (l0 : Addr) (h0 : Heap) (n0 : Nat) (v : Option Value) (h : Heap) (L : List Loc) : Prop := v = none ∧ Fr n0 L ∧ Keep h0 h [p0, aa] ∧ Fld Z h p0 cR "rows" "[J" .null ∧ Fld Z h p0 cR "starts" "[I" (.ref ss)
abbrev rmm48 : Room := { frames := 1, cells := 0, slots := 0, locals := 12 }
abbrev P48 (Z : State) (p0 : Addr) (p1 : Addr) (aa : Addr) (an : Addr) (xs : List Int64) (ys : List Int64) (nn : Nat) (ss : Addr) (li : Addr) (l0 : Addr) (h0 : Heap) (n0 : Nat) (s : State) : Outcome → State → Prop := fun o U' => ∃ v L, o = .returned v ∧ Q48 Z p0 p1 aa an xs ys nn ss li l0 h0 n0 v U'.heap L ∧ FrameEnd s o U' L rmm48.cells rmm48.slots
theorem pn_48 : plainName "com/example/onward/onward/check/RequirementRows" = true := by first | (simp [plainName, overriddenIn]; done) | decide +kernel
theorem ef_48 (m : MethodId) (p0 : Addr) (p1 : Addr) : entryFrame m #[(.ref p0), (.ref p1)] 4 = mkF m 0 #[vR p0, vR p1, uS, uS] [] := by first | (simp [entryFrame, mkF, argsToLocals, Value.category]; done) | rfl
set_option maxRecDepth 65536 in
set_option maxHeartbeats 40000000 in
theorem rm48 (l : Launch) (Z : State) (a0 : Array Value) (hw : ∀ d ∈ tables_1, d.before a0 Z = true) (ws : List Jvm.Cond) (p0 : Addr) (p1 : Addr) (aa : Addr) (an : Addr) (xs : List Int64) (ys : List Int64) (nn : Nat) (ss : Addr) (li : Addr) (l0 : Addr) (h0 : Heap) (n0 : Nat) (Z0 : n0 ≤ h0.size) (H0 : Exa Z h0 p0 cR) (H1 : Fld Z h0 p0 cR "rows" "[J" .null) (H2 : Fld Z h0 p0 cR "starts" "[I" (.ref ss)) (H3 : Fld Z h0 p0 cR "lists" dI (.ref l0)) (H4 : Fld Z h0 p0 cR "anywhere" "[J" (.ref aa)) (H5 : Fld Z h0 p0 cR "joined" "I" (.int (0 : Int32))) (H6 : Exa Z h0 l0 cI) (H7 : Fld Z h0 l0 cI "size" "I" (.int (0 : Int32))) (H8 : Fld Z h0 p1 cP "listed" dI (.ref li)) (H9 : Fld Z h0 p1 cP "first" "I" (.int (0 : Int32))) (H10 : Fld Z h0 p1 cP "filling" "I" (.int (2 : Int32))) (H11 : Fld Z h0 p1 cP "end" "I" (.int (2 : Int32))) (H12 : Fld Z h0 p1 cP "anywhere" "[J" (.ref an)) (H13 : ArL Z h0 aa .long (List.map Value.long xs)) (H14 : ArL Z h0 an .long (List.map Value.long ys)) (H15 : n0 ≤ p0) (H16 : n0 ≤ aa) (H17 : p0 ≠ p1) (H18 : p0 ≠ aa) (H19 : p0 ≠ an) (H20 : p0 ≠ l0) (H21 : p1 ≠ aa) (H22 : p1 ≠ an) (H23 : p1 ≠ l0) (H24 : aa ≠ an) (H25 : aa ≠ l0) (H26 : an ≠ l0) (hx0 : xs.length = nn) (hy : ys.length = nn) (hn8 : nn ≤ 8) :
    MetFree l (⟨"com/example/onward/onward/check/RequirementRows", "join", "(Lcom/example/onward/onward/check/RequirementRows$Part;)V"⟩ : MethodName) (head1 (Jvm.Cond.code (⟨"com/example/onward/onward/check/RequirementRows", "join", "(Lcom/example/onward/onward/check/RequirementRows$Part;)V"⟩ : MethodName) prog_61_method_3_code 4 none :: ws) rmm48) (fun a U => a = #[(.ref p0), (.ref p1)] ∧ Z.Warmed39 U.vm ∧ U.heap = h0) (fun _ _ _ _ _ => True) (fun _ U o U' => ∃ v L, o = .returned v ∧ Q48 Z p0 p1 aa an xs ys nn ss li l0 h0 n0 v U'.heap L ∧ FrameEnd U o U' L rmm48.cells rmm48.slots) := by
  refine MetFree.of_bodySF (plainFor_of_name pn_48) hisR ?_
  intro p e s m args below meth c s₁ Bd hml0 hP hK
  obtain ⟨rfl, hZ, hh⟩ := hP
  have hx := Bd.exec
  have hby := Bd.bytes
  have hml : c.maxLocals = 4 := hml0
  have hown : s.vm.findClass "com/example/onward/onward/check/RequirementRows" = some m.cls := findClass_of_methodNamed Bd.named
  have hnm := (name_of_methodNamed Bd.named Bd.method).1
  have X0 : Stand p l e rmm48 s m #[(.ref p0), (.ref p1)] below meth c s₁ [] 0 0 := Stand.of_body Bd
  have e0 : s₁.heap = h0 := by rw [← hh, Bd.state]; rfl
  have N0 := Fr.nil n0
  show Go p.tables e below (P48 Z p0 p1 aa an xs ys nn ss li l0 h0 n0 s) (s₁.setTop (entryFrame m #[(.ref p0), (.ref p1)] 4))
  refine Go.back (fun t k => castTop (ef_48 m p0 p1) k) ?_
  show Go p.tables e below (P48 Z p0 p1 aa an xs ys nn ss li l0 h0 n0 s) (s₁.setTop (mkF m 0 #[vR p0, vR p1, uS, uS] []))
  refine Go.back (fun t k => XS.aloadN X0.here hx rfl (hb hby d6_0) rfl rfl  k) ?_
  obtain ⟨T1, X1, e1, st1⟩ := getFR X0 hx hZ hown (wk hw 63 rfl) e0 H9 (g := (mkF m 1 #[vR p0, vR p1, uS, uS] [(.ref p1)])) rfl rfl (hb hby d6_1)
  refine Go.back st1 ?_
  refine Go.back (fun t k => XS.aloadN X1.here hx rfl (hb hby d6_4) rfl rfl  k) ?_
  obtain ⟨T2, X2, e2, st2⟩ := getF X1 hx hZ hown (host := "") (Or.inl (wk hw 64 rfl)) Via.refl e1 H5 (g := (mkF m 5 #[vR p0, vR p1, uS, uS] [(.ref p0), (.int (0 : Int32))])) rfl rfl (hb hby d6_5)
  refine Go.back st2 ?_
  show Go _ _ _ _ (T2.setTop (mkF m 8 #[vR p0, vR p1, uS, uS] [(.int (0 : Int32)), (.int (0 : Int32))]))
  refine Go.back (fun t k => XS.icmpNo X2.here hx rfl (hb hby d6_8) rfl (teq (by decide)).2 k) ?_
  show Go _ _ _ _ (T2.setTop (mkF m 11 #[vR p0, vR p1, uS, uS] []))
  refine Go.back (fun t k => XS.aloadN X2.here hx rfl (hb hby d6_11) rfl rfl  k) ?_
  obtain ⟨T3, X3, e3, st3⟩ := getFR X2 hx hZ hown (wk hw 66 rfl) e2 H10 (g := (mkF m 12 #[vR p0, vR p1, uS, uS] [(.ref p1)])) rfl rfl (hb hby d6_12)
  refine Go.back st3 ?_
  refine Go.back (fun t k => XS.aloadN X3.here hx rfl (hb hby d6_15) rfl rfl  k) ?_
  obtain ⟨T4, X4, e4, st4⟩ := getFR X3 hx hZ hown (wk hw 67 rfl) e3 H11 (g := (mkF m 16 #[vR p0, vR p1, uS, uS] [(.ref p1), (.int (2 : Int32))])) rfl rfl (hb hby d6_16)
  refine Go.back st4 ?_
  show Go _ _ _ _ (T4.setTop (mkF m 19 #[vR p0, vR p1, uS, uS] [(.int (2 : Int32)), (.int (2 : Int32))]))
  refine Go.back (fun t k => XS.icmpYes X4.here hx rfl (pc0 := 19) (pc' := 39) rfl (hb hby d6_19) rfl (teq (by decide)).1 (by decide) (by decide) k) ?_
  show Go _ _ _ _ (T4.setTop (mkF m 39 #[vR p0, vR p1, uS, uS] []))
  refine Go.back (fun t k => XS.iconst X4.here hx rfl (hb hby d6_39) k) ?_
  refine Go.back (fun t k => XS.istoreN X4.here hx rfl (hb hby d6_40) rfl (l' := #[vR p0, vR p1, vI (0 : Int32), uS]) rfl k) ?_
  show Go _ _ _ _ (T4.setTop (mkF m 41 #[vR p0, vR p1, vI (0 : Int32), uS] []))
  have LOOP5 : ∀ (n : Nat) (i : Int32) (G : List Int64) (T6 : State) (L6 : List Loc) (X6 : Stand p l e rmm48 s m #[(.ref p0), (.ref p1)] below meth c T6 L6 0 0) (N6 : Fr n0 L6) (h6 : Heap) (e6 : T6.heap = h6) (F7 : Exa Z h6 p0 cR) (F8 : Fld Z h6 p0 cR "rows" "[J" .null) (F9 : Fld Z h6 p0 cR "starts" "[I" (.ref ss)) (F10 : Fld Z h6 p0 cR "lists" dI (.ref l0)) (F11 : Fld Z h6 p0 cR "anywhere" "[J" (.ref aa)) (F12 : Fld Z h6 p0 cR "joined" "I" (.int (0 : Int32))) (F13 : Exa Z h6 l0 cI) (F14 : Fld Z h6 l0 cI "size" "I" (.int (0 : Int32))) (F15 : Fld Z h6 p1 cP "listed" dI (.ref li)) (F16 : Fld Z h6 p1 cP "first" "I" (.int (0 : Int32))) (F17 : Fld Z h6 p1 cP "filling" "I" (.int (2 : Int32))) (F18 : Fld Z h6 p1 cP "end" "I" (.int (2 : Int32))) (F19 : Fld Z h6 p1 cP "anywhere" "[J" (.ref an)) (F20 : ArL Z h6 aa .long (List.map Value.long G)) (F21 : ArL Z h6 an .long (List.map Value.long ys)) (F22 : n0 ≤ h6.size) (F23 : Keep h0 h6 [p0, aa]) (hbd : own_lb n i (Nat.toInt32 nn)) (hG : G.length = nn), Go p.tables e below (P48 Z p0 p1 aa an xs ys nn ss li l0 h0 n0 s) (T6.setTop (mkF m 41 #[vR p0, vR p1, vI i, uS] [])) := by
    intro n
    induction n with
    | zero =>
      intro i G T6 L6 X6 N6 h6 e6 F7 F8 F9 F10 F11 F12 F13 F14 F15 F16 F17 F18 F19 F20 F21 F22 F23 hbd hG
      show Go _ _ _ _ (T6.setTop (mkF m 41 #[vR p0, vR p1, vI i, uS] []))
      refine Go.back (fun t k => XS.iloadN X6.here hx rfl (hb hby d6_41) rfl  k) ?_
      refine Go.back (fun t k => XS.aloadN X6.here hx rfl (hb hby d6_42) rfl rfl  k) ?_
      obtain ⟨T24, X24, e24, st24⟩ := getF X6 hx hZ hown (host := "") (Or.inl (wk hw 21 rfl)) Via.refl e6 F11 (g := (mkF m 43 #[vR p0, vR p1, vI i, uS] [(.ref p0), (.int i)])) rfl rfl (hb hby d6_43)
      refine Go.back st24 ?_
      obtain ⟨cl25, Ar25, S25⟩ := F20.len
      refine Go.back (fun t k => X24.arraylength hx (by rw [e24]; exact Ar25.1) (State.isArrayOf_alike hZ.alike Ar25.2.1) (g := (mkF m 46 #[vR p0, vR p1, vI i, uS] [(.ref aa), (.int i)])) rfl rfl (hb hby d6_46) t k) ?_
      rw [S25]
      rw [List.length_map, hG]
      show Go _ _ _ _ (T24.setTop (mkF m 47 #[vR p0, vR p1, vI i, uS] [(.int (Nat.toInt32 nn)), (.int i)]))
      refine Go.back (fun t k => XS.icmpYes X24.here hx rfl (pc0 := 47) (pc' := 71) rfl (hb hby d6_47) rfl (flt (own_lb_z hbd)).2.1 (by decide) (by decide) k) ?_
      show Go _ _ _ _ (T24.setTop (mkF m 71 #[vR p0, vR p1, vI i, uS] []))
      refine Go.back (fun t k => XS.aloadN X24.here hx rfl (hb hby d6_71) rfl rfl  k) ?_
      obtain ⟨T26, X26, e26, st26⟩ := getF X24 hx hZ hown (host := "") (Or.inl (wk hw 15 rfl)) Via.refl e24 F8 (g := (mkF m 72 #[vR p0, vR p1, vI i, uS] [(.ref p0)])) rfl rfl (hb hby d6_72)
      refine Go.back st26 ?_
      show Go _ _ _ _ (T26.setTop (mkF m 75 #[vR p0, vR p1, vI i, uS] [.null]))
      refine Go.back (fun t k => XS.ifnonnullNo X26.here hx rfl (hb hby d6_75) rfl k) ?_
      show Go _ _ _ _ (T26.setTop (mkF m 78 #[vR p0, vR p1, vI i, uS] []))
      refine Go.back (fun t k => XS.aloadN X26.here hx rfl (hb hby d6_78) rfl rfl  k) ?_
      obtain ⟨T27, X27, e27, st27⟩ := getF X26 hx hZ hown (host := "") (Or.inl (wk hw 19 rfl)) Via.refl e26 F10 (g := (mkF m 79 #[vR p0, vR p1, vI i, uS] [(.ref p0)])) rfl rfl (hb hby d6_79)
      refine Go.back st27 ?_
      obtain ⟨cq28, kq28, q28a, q28b, q28c⟩ := isOf hZ e27 F13
      obtain ⟨_, _, ⟨T28, L28, k28, n28⟩, -, X28, ⟨Lc28, hQ28, l28, y28, z28⟩, st28⟩ := X27.virtualBack hx (y := (⟨"com/example/onward/onward/lts/IntBlocks", "size", "()I"⟩ : MethodName)) (z := (⟨"com/example/onward/onward/lts/IntBlocks", "size", "()I"⟩ : MethodName)) hown (mvT hZ (wk hw 147 rfl)) (mvT hZ (wk hw 143 rfl)) (notFace_of_selects (args := #[]) (mvT hZ (wk hw 145 rfl))) (mvT hZ (wk hw 145 rfl)) (mvT hZ (wk hw 144 rfl)) (by decide) (backOf (W := 0) (rm18 l Z a0 hw [] l0 (0 : Int32) h6 n0 F22 F14) hZ (wk hw 146 rfl) (wk hw 82 rfl) (by decide) (by decide)) q28a q28c (g := (mkF m 82 #[vR p0, vR p1, vI i, uS] [(.ref l0)])) rfl (by rw [hml]; rfl) (Steps.refl _) (argsL := []) (rest := []) (lenOf pd_5 rfl) rfl (by show 2 * 0 + _ ≤ _; exact Nat.le_of_eq rfl) (hb hby d6_82) (fun _ _ => ⟨rfl, e27, (by decide : 0 + 0 ≤ _), (by decide : 0 + 0 ≤ _)⟩)
      dsimp only [Pt.U, Pt.locs, Pt.cells, Pt.slots] at X28 l28 y28 z28 st28 hQ28
      subst l28 y28 z28
      obtain ⟨rfl, N28q, e28⟩ := hQ28
      obtain ⟨Lo28, Y28, N28⟩ := pk X28 (Fr.app N6 N28q)
      refine Go.trans st28 ?_
      show Go _ _ _ _ (T28.setTop (mkF m 85 #[vR p0, vR p1, vI i, uS] [(.int (0 : Int32))]))
      refine Go.back (fun t k => XS.ifNo Y28.here hx rfl (hb hby d6_85) rfl ((if0 _ _).trans (teq (by decide)).2) k) ?_
      show Go _ _ _ _ (T28.setTop (mkF m 88 #[vR p0, vR p1, vI i, uS] []))
      refine Go.back (fun t k => XS.aloadN Y28.here hx rfl (hb hby d6_88) rfl rfl  k) ?_
      refine Go.back (fun t k => XS.aloadN Y28.here hx rfl (hb hby d6_89) rfl rfl  k) ?_
      obtain ⟨T29, X29, e29, st29⟩ := getFR Y28 hx hZ hown (wk hw 148 rfl) e28 F15 (g := (mkF m 90 #[vR p0, vR p1, vI i, uS] [(.ref p1), (.ref p0)])) rfl rfl (hb hby d6_90)
      refine Go.back st29 ?_
      obtain ⟨T30, h30, X30, e30, W30, st30⟩ := putF X29 hx hZ hown (host := "") (Or.inl (wk hw 19 rfl)) Via.refl e29 F10 F7 (Or.inl (wk hw 20 rfl)) (wk hw 1 rfl) (ty := (.object "com/example/onward/onward/lts/IntBlocks")) (by decide) rfl rfl (g := (mkF m 93 #[vR p0, vR p1, vI i, uS] [(.ref li), (.ref p0)])) rfl rfl (hb hby d6_93)
      have F31 := F7.wr W30
      have F32 := F8.other W30 (Or.inr (slot_ne (Or.inr (wk hw 16 rfl)) (Or.inl (wk hw 20 rfl)) (by decide) (t := (.array .long)) (t' := (.object "com/example/onward/onward/lts/IntBlocks")) (by decide) (by decide)))
      have F33 := F9.other W30 (Or.inr (slot_ne (Or.inr (wk hw 18 rfl)) (Or.inl (wk hw 20 rfl)) (by decide) (t := (.array .int)) (t' := (.object "com/example/onward/onward/lts/IntBlocks")) (by decide) (by decide)))
      have F34 : Fld Z h30 p0 cR "lists" dI (.ref li) := F10.same W30
      have F35 := F11.other W30 (Or.inr (slot_ne (Or.inr (wk hw 22 rfl)) (Or.inl (wk hw 20 rfl)) (by decide) (t := (.array .long)) (t' := (.object "com/example/onward/onward/lts/IntBlocks")) (by decide) (by decide)))
      have F36 := F12.other W30 (Or.inr (slot_ne (Or.inl (wk hw 65 rfl)) (Or.inl (wk hw 20 rfl)) (by decide) (t := .int) (t' := (.object "com/example/onward/onward/lts/IntBlocks")) (by decide) (by decide)))
      have F37 := F13.wr W30
      have F38 := F14.other W30 (Or.inl (Ne.symm H20))
      have F39 := F15.other W30 (Or.inl (Ne.symm H17))
      have F40 := F16.other W30 (Or.inl (Ne.symm H17))
      have F41 := F17.other W30 (Or.inl (Ne.symm H17))
      have F42 := F18.other W30 (Or.inl (Ne.symm H17))
      have F43 := F19.other W30 (Or.inl (Ne.symm H17))
      have F44 := F20.other W30 (Ne.symm H18)
      have F45 := F21.other W30 (Ne.symm H19)
      have F46 := Nat.le_trans F22 (Keep.of_wr W30).1
      have F47 := F23.wr W30 (Or.inl (List.mem_of_getElem? (i := 0) rfl))
      obtain ⟨Lo30, Y30, N30⟩ := pk X30 (Fr.snoc X30 N28 H15)
      refine Go.back st30 ?_
      show Go _ _ _ _ (T30.setTop (mkF m 96 #[vR p0, vR p1, vI i, uS] []))
      refine Go.back (fun t k => XS.goto Y30.here hx rfl (pc0 := 96) (pc' := 179) rfl (hb hby d6_96) (by decide) (by decide) k) ?_
      refine Go.back (fun t k => XS.aloadN Y30.here hx rfl (hb hby d6_179) rfl rfl  k) ?_
      refine Go.back (fun t k => XS.aloadN Y30.here hx rfl (hb hby d6_180) rfl rfl  k) ?_
      obtain ⟨T48, X48, e48, st48⟩ := getFR Y30 hx hZ hown (wk hw 67 rfl) e30 F42 (g := (mkF m 181 #[vR p0, vR p1, vI i, uS] [(.ref p1), (.ref p0)])) rfl rfl (hb hby d6_181)
      refine Go.back st48 ?_
      show Go _ _ _ _ (T48.setTop (mkF m 184 #[vR p0, vR p1, vI i, uS] [(.int (2 : Int32)), (.ref p0)]))
      obtain ⟨T49, h49, X49, e49, W49, st49⟩ := putF X48 hx hZ hown (host := "") (Or.inl (wk hw 64 rfl)) Via.refl e48 F36 F31 (Or.inl (wk hw 65 rfl)) (wk hw 1 rfl) (ty := .int) (by decide) rfl rfl (g := (mkF m 184 #[vR p0, vR p1, vI i, uS] [(.int (2 : Int32)), (.ref p0)])) rfl rfl (hb hby d6_184)
      have F50 := F31.wr W49
      have F51 := F32.other W49 (Or.inr (slot_ne (Or.inr (wk hw 16 rfl)) (Or.inl (wk hw 65 rfl)) (by decide) (t := (.array .long)) (t' := .int) (by decide) (by decide)))
      have F52 := F33.other W49 (Or.inr (slot_ne (Or.inr (wk hw 18 rfl)) (Or.inl (wk hw 65 rfl)) (by decide) (t := (.array .int)) (t' := .int) (by decide) (by decide)))
      have F53 := F34.other W49 (Or.inr (slot_ne (Or.inl (wk hw 20 rfl)) (Or.inl (wk hw 65 rfl)) (by decide) (t := (.object "com/example/onward/onward/lts/IntBlocks")) (t' := .int) (by decide) (by decide)))
      have F54 := F35.other W49 (Or.inr (slot_ne (Or.inr (wk hw 22 rfl)) (Or.inl (wk hw 65 rfl)) (by decide) (t := (.array .long)) (t' := .int) (by decide) (by decide)))
      have F55 : Fld Z h49 p0 cR "joined" "I" (.int (2 : Int32)) := F36.same W49
      have F56 := F37.wr W49
      have F57 := F38.other W49 (Or.inl (Ne.symm H20))
      have F58 := F39.other W49 (Or.inl (Ne.symm H17))
      have F59 := F40.other W49 (Or.inl (Ne.symm H17))
      have F60 := F41.other W49 (Or.inl (Ne.symm H17))
      have F61 := F42.other W49 (Or.inl (Ne.symm H17))
      have F62 := F43.other W49 (Or.inl (Ne.symm H17))
      have F63 := F44.other W49 (Ne.symm H18)
      have F64 := F45.other W49 (Ne.symm H19)
      have F65 := Nat.le_trans F46 (Keep.of_wr W49).1
      have F66 := F47.wr W49 (Or.inl (List.mem_of_getElem? (i := 0) rfl))
      obtain ⟨Lo49, Y49, N49⟩ := pk X49 (Fr.snoc X49 N30 H15)
      refine Go.back st49 ?_
      show Go _ _ _ _ (T49.setTop (mkF m 187 #[vR p0, vR p1, vI i, uS] []))
      exact Go.retV Y49 hx Bd.returns (hb hby d6_187) Bd.notSynchronized ⟨rfl, N49, (by rw [e49]; exact F66), (by rw [e49]; exact F51), (by rw [e49]; exact F52)⟩ (by decide) (by decide)
    | succ n ih =>
      intro i G T6 L6 X6 N6 h6 e6 F7 F8 F9 F10 F11 F12 F13 F14 F15 F16 F17 F18 F19 F20 F21 F22 F23 hbd hG
      show Go _ _ _ _ (T6.setTop (mkF m 41 #[vR p0, vR p1, vI i, uS] []))
      refine Go.back (fun t k => XS.iloadN X6.here hx rfl (hb hby d6_41) rfl  k) ?_
      refine Go.back (fun t k => XS.aloadN X6.here hx rfl (hb hby d6_42) rfl rfl  k) ?_
      obtain ⟨T67, X67, e67, st67⟩ := getF X6 hx hZ hown (host := "") (Or.inl (wk hw 21 rfl)) Via.refl e6 F11 (g := (mkF m 43 #[vR p0, vR p1, vI i, uS] [(.ref p0), (.int i)])) rfl rfl (hb hby d6_43)
      refine Go.back st67 ?_
      obtain ⟨cl68, Ar68, S68⟩ := F20.len
      refine Go.back (fun t k => X67.arraylength hx (by rw [e67]; exact Ar68.1) (State.isArrayOf_alike hZ.alike Ar68.2.1) (g := (mkF m 46 #[vR p0, vR p1, vI i, uS] [(.ref aa), (.int i)])) rfl rfl (hb hby d6_46) t k) ?_
      rw [S68]
      rw [List.length_map, hG]
      show Go _ _ _ _ (T67.setTop (mkF m 47 #[vR p0, vR p1, vI i, uS] [(.int (Nat.toInt32 nn)), (.int i)]))
      refine Go.back (fun t k => XS.icmpNo X67.here hx rfl (hb hby d6_47) rfl (tlt (own_lb_s hbd)).2.1 k) ?_
      show Go _ _ _ _ (T67.setTop (mkF m 50 #[vR p0, vR p1, vI i, uS] []))
      refine Go.back (fun t k => XS.aloadN X67.here hx rfl (hb hby d6_50) rfl rfl  k) ?_
      obtain ⟨T69, X69, e69, st69⟩ := getF X67 hx hZ hown (host := "") (Or.inl (wk hw 21 rfl)) Via.refl e67 F11 (g := (mkF m 51 #[vR p0, vR p1, vI i, uS] [(.ref p0)])) rfl rfl (hb hby d6_51)
      refine Go.back st69 ?_
      refine Go.back (fun t k => XS.iloadN X69.here hx rfl (hb hby d6_54) rfl  k) ?_
      refine Go.back (fun t k => Jvm.Free.XT.dup2 X69.here hx rfl (hb hby d6_55) rfl rfl rfl k) ?_
      show Go _ _ _ _ (T69.setTop (mkF m 56 #[vR p0, vR p1, vI i, uS] [(.int i), (.ref aa), (.int i), (.ref aa)]))
      obtain ⟨cl70, Ar70, hi70, ha70⟩ := F20.get (j := i) (own_lb_nn hbd) (v := (.long (List.getD G (i).toNatClampNeg (0 : Int64)))) (getJ G (own_lb_in hbd (by rw [hG]; exact (own_l8 hn8).2.2.2.symm)))
      refine Go.back (fun t k => X69.laload hx (j := i) (v := (.long (List.getD G (i).toNatClampNeg (0 : Int64)))) (by rw [e69]; exact Ar70.1) (State.isArrayOf_alike hZ.alike Ar70.2.1) Ar70.2.2 hi70 ha70 (g := (mkF m 56 #[vR p0, vR p1, vI i, uS] [(.int i), (.ref aa), (.int i), (.ref aa)])) rfl rfl (hb hby d6_56) t k) ?_
      refine Go.back (fun t k => XS.aloadN X69.here hx rfl (hb hby d6_57) rfl rfl  k) ?_
      obtain ⟨T71, X71, e71, st71⟩ := getFR X69 hx hZ hown (wk hw 79 rfl) e69 F19 (g := (mkF m 58 #[vR p0, vR p1, vI i, uS] [(.ref p1), (.long (List.getD G (i).toNatClampNeg (0 : Int64))), (.int i), (.ref aa)])) rfl rfl (hb hby d6_58)
      refine Go.back st71 ?_
      refine Go.back (fun t k => XS.iloadN X71.here hx rfl (hb hby d6_61) rfl  k) ?_
      show Go _ _ _ _ (T71.setTop (mkF m 62 #[vR p0, vR p1, vI i, uS] [(.int i), (.ref an), (.long (List.getD G (i).toNatClampNeg (0 : Int64))), (.int i), (.ref aa)]))
      obtain ⟨cl72, Ar72, hi72, ha72⟩ := F21.get (j := i) (own_lb_nn hbd) (v := (.long (List.getD ys (i).toNatClampNeg (0 : Int64)))) (getJ ys (own_lb_in hbd (by rw [hy]; exact (own_l8 hn8).2.2.2.symm)))
      refine Go.back (fun t k => X71.laload hx (j := i) (v := (.long (List.getD ys (i).toNatClampNeg (0 : Int64)))) (by rw [e71]; exact Ar72.1) (State.isArrayOf_alike hZ.alike Ar72.2.1) Ar72.2.2 hi72 ha72 (g := (mkF m 62 #[vR p0, vR p1, vI i, uS] [(.int i), (.ref an), (.long (List.getD G (i).toNatClampNeg (0 : Int64))), (.int i), (.ref aa)])) rfl rfl (hb hby d6_62) t k) ?_
      refine Go.back (fun t k => XS.lor X71.here hx rfl (hb hby d6_63) rfl k) ?_
      obtain ⟨cl73, Ar73, hi73, -⟩ := F20.at (j := i) (own_lb_nn hbd) (by simpa using (own_lb_in hbd (by rw [hG]; exact (own_l8 hn8).2.2.2.symm)))
      obtain ⟨T73, h73, X73, e73, W73, st73⟩ := stJ X71 hx hZ e71 Ar73 (j := i) hi73 (g := (mkF m 64 #[vR p0, vR p1, vI i, uS] [(.long ((List.getD G (i).toNatClampNeg (0 : Int64)) ||| (List.getD ys (i).toNatClampNeg (0 : Int64)))), (.int i), (.ref aa)])) rfl rfl (hb hby d6_64)
      have F74 := F7.wr W73
      have F75 := F8.other W73 (Or.inl H18)
      have F76 := F9.other W73 (Or.inl H18)
      have F77 := F10.other W73 (Or.inl H18)
      have F78 := F11.other W73 (Or.inl H18)
      have F79 := F12.other W73 (Or.inl H18)
      have F80 := F13.wr W73
      have F81 := F14.other W73 (Or.inl (Ne.symm H25))
      have F82 := F15.other W73 (Or.inl H21)
      have F83 := F16.other W73 (Or.inl H21)
      have F84 := F17.other W73 (Or.inl H21)
      have F85 := F18.other W73 (Or.inl H21)
      have F86 := F19.other W73 (Or.inl H21)
      have F87 : ArL Z h73 aa .long (List.map Value.long (List.set G (i).toNatClampNeg ((List.getD G (i).toNatClampNeg (0 : Int64)) ||| (List.getD ys (i).toNatClampNeg (0 : Int64))))) := ArL.setJ (xs := G) F20 W73
      have F88 := F21.other W73 (Ne.symm H24)
      have F89 := Nat.le_trans F22 (Keep.of_wr W73).1
      have F90 := F23.wr W73 (Or.inl (List.mem_of_getElem? (i := 1) rfl))
      obtain ⟨Lo73, Y73, N73⟩ := pk X73 (Fr.snoc X73 N6 H16)
      refine Go.back st73 ?_
      refine Go.back (fun t k => XS.iinc Y73.here hx rfl (hb hby d6_65) rfl (l' := #[vR p0, vR p1, vI (i + (1 : Int32)), uS]) rfl k) ?_
      show Go _ _ _ _ (T73.setTop (mkF m 68 #[vR p0, vR p1, vI (i + (1 : Int32)), uS] []))
      refine Go.back (fun t k => XS.goto Y73.here hx rfl (pc0 := 68) (pc' := 41) rfl (hb hby d6_68) (by decide) (by decide) k) ?_
      show Go _ _ _ _ (T73.setTop (mkF m 41 #[vR p0, vR p1, vI (i + (1 : Int32)), uS] []))
      exact ih (i + (1 : Int32)) (List.set G (i).toNatClampNeg ((List.getD G (i).toNatClampNeg (0 : Int64)) ||| (List.getD ys (i).toNatClampNeg (0 : Int64)))) _ _ Y73 N73 h73 e73 F74 F75 F76 F77 F78 F79 F80 F81 F82 F83 F84 F85 F86 F87 F88 F89 F90 (own_lb_next hbd) (by simp [hG])
  exact LOOP5 nn (0 : Int32) xs _ _ X4 N0 h0 e4 H0 H1 H2 H3 H4 H5 H6 H7 H8 H9 H10 H11 H12 H13 H14 Z0 (Keep.refl h0 [p0, aa]) (own_lbn hn8) hx0
theorem d6_99 : decode prog_61_method_3_code 99 = .ok (.aload_n 0, 1) := by decide +kernel
theorem d6_100 : decode prog_61_method_3_code 100 = .ok (.getfield 27, 3) := by decide +kernel
theorem d6_103 : decode prog_61_method_3_code 103 = .ok (.ifnonnull 76, 3) := by decide +kernel
def Q49 (Z : State) (p0 : Addr) (p1 : Addr) (aa : Addr) (an : Addr) (xs : List Int64) (ys : List Int64) (nn : Nat) (ro : Addr) (w : Int32) (h0 : Heap) (n0 : Nat) (v : Option Value) (h : Heap) (L : List Loc) : Prop := v = none ∧ Fr n0 L ∧ Keep h0 h [p0, aa] ∧ Fld Z h p0 cR "rows" "[J" (.ref ro) ∧ Fld Z h p0 cR "words" "I" (.int w)
abbrev rmm49 : Room := { frames := 0, cells := 0, slots := 0, locals := 0 }
abbrev P49 (Z : State) (p0 : Addr) (p1 : Addr) (aa : Addr) (an : Addr) (xs : List Int64) (ys : List Int64) (nn : Nat) (ro : Addr) (w : Int32) (h0 : Heap) (n0 : Nat) (s : State) : Outcome → State → Prop := fun o U' => ∃ v L, o = .returned v ∧ Q49 Z p0 p1 aa an xs ys nn ro w h0 n0 v U'.heap L ∧ FrameEnd s o U' L rmm49.cells rmm49.slots
theorem pn_49 : plainName "com/example/onward/onward/check/RequirementRows" = true := by first | (simp [plainName, overriddenIn]; done) | decide +kernel
theorem ef_49 (m : MethodId) (p0 : Addr) (p1 : Addr) : entryFrame m #[(.ref p0), (.ref p1)] 4 = mkF m 0 #[vR p0, vR p1, uS, uS] [] := by first | (simp [entryFrame, mkF, argsToLocals, Value.category]; done) | rfl
set_option maxRecDepth 65536 in
set_option maxHeartbeats 40000000 in
theorem rm49 (l : Launch) (Z : State) (a0 : Array Value) (hw : ∀ d ∈ tables_1, d.before a0 Z = true) (ws : List Jvm.Cond) (p0 : Addr) (p1 : Addr) (aa : Addr) (an : Addr) (xs : List Int64) (ys : List Int64) (nn : Nat) (ro : Addr) (w : Int32) (h0 : Heap) (n0 : Nat) (Z0 : n0 ≤ h0.size) (H0 : Exa Z h0 p0 cR) (H1 : Fld Z h0 p0 cR "words" "I" (.int w)) (H2 : Fld Z h0 p0 cR "rows" "[J" (.ref ro)) (H3 : Fld Z h0 p0 cR "anywhere" "[J" (.ref aa)) (H4 : Fld Z h0 p0 cR "joined" "I" (.int (0 : Int32))) (H5 : Fld Z h0 p1 cP "first" "I" (.int (0 : Int32))) (H6 : Fld Z h0 p1 cP "filling" "I" (.int (2 : Int32))) (H7 : Fld Z h0 p1 cP "end" "I" (.int (2 : Int32))) (H8 : Fld Z h0 p1 cP "anywhere" "[J" (.ref an)) (H9 : ArL Z h0 aa .long (List.map Value.long xs)) (H10 : ArL Z h0 an .long (List.map Value.long ys)) (H11 : n0 ≤ p0) (H12 : n0 ≤ aa) (H13 : p0 ≠ p1) (H14 : p0 ≠ aa) (H15 : p0 ≠ an) (H16 : p1 ≠ aa) (H17 : p1 ≠ an) (H18 : aa ≠ an) (hx0 : xs.length = nn) (hy : ys.length = nn) (hn8 : nn ≤ 8) :
    MetFree l (⟨"com/example/onward/onward/check/RequirementRows", "join", "(Lcom/example/onward/onward/check/RequirementRows$Part;)V"⟩ : MethodName) (head1 (Jvm.Cond.code (⟨"com/example/onward/onward/check/RequirementRows", "join", "(Lcom/example/onward/onward/check/RequirementRows$Part;)V"⟩ : MethodName) prog_61_method_3_code 4 none :: ws) rmm49) (fun a U => a = #[(.ref p0), (.ref p1)] ∧ Z.Warmed39 U.vm ∧ U.heap = h0) (fun _ _ _ _ _ => True) (fun _ U o U' => ∃ v L, o = .returned v ∧ Q49 Z p0 p1 aa an xs ys nn ro w h0 n0 v U'.heap L ∧ FrameEnd U o U' L rmm49.cells rmm49.slots) := by
  refine MetFree.of_bodySF (plainFor_of_name pn_49) hisR ?_
  intro p e s m args below meth c s₁ Bd hml0 hP hK
  obtain ⟨rfl, hZ, hh⟩ := hP
  have hx := Bd.exec
  have hby := Bd.bytes
  have hml : c.maxLocals = 4 := hml0
  have hown : s.vm.findClass "com/example/onward/onward/check/RequirementRows" = some m.cls := findClass_of_methodNamed Bd.named
  have hnm := (name_of_methodNamed Bd.named Bd.method).1
  have X0 : Stand p l e rmm49 s m #[(.ref p0), (.ref p1)] below meth c s₁ [] 0 0 := Stand.of_body Bd
  have e0 : s₁.heap = h0 := by rw [← hh, Bd.state]; rfl
  have N0 := Fr.nil n0
  show Go p.tables e below (P49 Z p0 p1 aa an xs ys nn ro w h0 n0 s) (s₁.setTop (entryFrame m #[(.ref p0), (.ref p1)] 4))
  refine Go.back (fun t k => castTop (ef_49 m p0 p1) k) ?_
  show Go p.tables e below (P49 Z p0 p1 aa an xs ys nn ro w h0 n0 s) (s₁.setTop (mkF m 0 #[vR p0, vR p1, uS, uS] []))
  refine Go.back (fun t k => XS.aloadN X0.here hx rfl (hb hby d6_0) rfl rfl  k) ?_
  obtain ⟨T1, X1, e1, st1⟩ := getFR X0 hx hZ hown (wk hw 63 rfl) e0 H5 (g := (mkF m 1 #[vR p0, vR p1, uS, uS] [(.ref p1)])) rfl rfl (hb hby d6_1)
  refine Go.back st1 ?_
  refine Go.back (fun t k => XS.aloadN X1.here hx rfl (hb hby d6_4) rfl rfl  k) ?_
  obtain ⟨T2, X2, e2, st2⟩ := getF X1 hx hZ hown (host := "") (Or.inl (wk hw 64 rfl)) Via.refl e1 H4 (g := (mkF m 5 #[vR p0, vR p1, uS, uS] [(.ref p0), (.int (0 : Int32))])) rfl rfl (hb hby d6_5)
  refine Go.back st2 ?_
  show Go _ _ _ _ (T2.setTop (mkF m 8 #[vR p0, vR p1, uS, uS] [(.int (0 : Int32)), (.int (0 : Int32))]))
  refine Go.back (fun t k => XS.icmpNo X2.here hx rfl (hb hby d6_8) rfl (teq (by decide)).2 k) ?_
  show Go _ _ _ _ (T2.setTop (mkF m 11 #[vR p0, vR p1, uS, uS] []))
  refine Go.back (fun t k => XS.aloadN X2.here hx rfl (hb hby d6_11) rfl rfl  k) ?_
  obtain ⟨T3, X3, e3, st3⟩ := getFR X2 hx hZ hown (wk hw 66 rfl) e2 H6 (g := (mkF m 12 #[vR p0, vR p1, uS, uS] [(.ref p1)])) rfl rfl (hb hby d6_12)
  refine Go.back st3 ?_
  refine Go.back (fun t k => XS.aloadN X3.here hx rfl (hb hby d6_15) rfl rfl  k) ?_
  obtain ⟨T4, X4, e4, st4⟩ := getFR X3 hx hZ hown (wk hw 67 rfl) e3 H7 (g := (mkF m 16 #[vR p0, vR p1, uS, uS] [(.ref p1), (.int (2 : Int32))])) rfl rfl (hb hby d6_16)
  refine Go.back st4 ?_
  show Go _ _ _ _ (T4.setTop (mkF m 19 #[vR p0, vR p1, uS, uS] [(.int (2 : Int32)), (.int (2 : Int32))]))
  refine Go.back (fun t k => XS.icmpYes X4.here hx rfl (pc0 := 19) (pc' := 39) rfl (hb hby d6_19) rfl (teq (by decide)).1 (by decide) (by decide) k) ?_
  show Go _ _ _ _ (T4.setTop (mkF m 39 #[vR p0, vR p1, uS, uS] []))
  refine Go.back (fun t k => XS.iconst X4.here hx rfl (hb hby d6_39) k) ?_
  refine Go.back (fun t k => XS.istoreN X4.here hx rfl (hb hby d6_40) rfl (l' := #[vR p0, vR p1, vI (0 : Int32), uS]) rfl k) ?_
  show Go _ _ _ _ (T4.setTop (mkF m 41 #[vR p0, vR p1, vI (0 : Int32), uS] []))
  have LOOP5 : ∀ (n : Nat) (i : Int32) (G : List Int64) (T6 : State) (L6 : List Loc) (X6 : Stand p l e rmm49 s m #[(.ref p0), (.ref p1)] below meth c T6 L6 0 0) (N6 : Fr n0 L6) (h6 : Heap) (e6 : T6.heap = h6) (F7 : Exa Z h6 p0 cR) (F8 : Fld Z h6 p0 cR "words" "I" (.int w)) (F9 : Fld Z h6 p0 cR "rows" "[J" (.ref ro)) (F10 : Fld Z h6 p0 cR "anywhere" "[J" (.ref aa)) (F11 : Fld Z h6 p0 cR "joined" "I" (.int (0 : Int32))) (F12 : Fld Z h6 p1 cP "first" "I" (.int (0 : Int32))) (F13 : Fld Z h6 p1 cP "filling" "I" (.int (2 : Int32))) (F14 : Fld Z h6 p1 cP "end" "I" (.int (2 : Int32))) (F15 : Fld Z h6 p1 cP "anywhere" "[J" (.ref an)) (F16 : ArL Z h6 aa .long (List.map Value.long G)) (F17 : ArL Z h6 an .long (List.map Value.long ys)) (F18 : n0 ≤ h6.size) (F19 : Keep h0 h6 [p0, aa]) (hbd : own_lb n i (Nat.toInt32 nn)) (hG : G.length = nn), Go p.tables e below (P49 Z p0 p1 aa an xs ys nn ro w h0 n0 s) (T6.setTop (mkF m 41 #[vR p0, vR p1, vI i, uS] [])) := by
    intro n
    induction n with
    | zero =>
      intro i G T6 L6 X6 N6 h6 e6 F7 F8 F9 F10 F11 F12 F13 F14 F15 F16 F17 F18 F19 hbd hG
      show Go _ _ _ _ (T6.setTop (mkF m 41 #[vR p0, vR p1, vI i, uS] []))
      refine Go.back (fun t k => XS.iloadN X6.here hx rfl (hb hby d6_41) rfl  k) ?_
      refine Go.back (fun t k => XS.aloadN X6.here hx rfl (hb hby d6_42) rfl rfl  k) ?_
      obtain ⟨T20, X20, e20, st20⟩ := getF X6 hx hZ hown (host := "") (Or.inl (wk hw 21 rfl)) Via.refl e6 F10 (g := (mkF m 43 #[vR p0, vR p1, vI i, uS] [(.ref p0), (.int i)])) rfl rfl (hb hby d6_43)
      refine Go.back st20 ?_
      obtain ⟨cl21, Ar21, S21⟩ := F16.len
      refine Go.back (fun t k => X20.arraylength hx (by rw [e20]; exact Ar21.1) (State.isArrayOf_alike hZ.alike Ar21.2.1) (g := (mkF m 46 #[vR p0, vR p1, vI i, uS] [(.ref aa), (.int i)])) rfl rfl (hb hby d6_46) t k) ?_
      rw [S21]
      rw [List.length_map, hG]
      show Go _ _ _ _ (T20.setTop (mkF m 47 #[vR p0, vR p1, vI i, uS] [(.int (Nat.toInt32 nn)), (.int i)]))
      refine Go.back (fun t k => XS.icmpYes X20.here hx rfl (pc0 := 47) (pc' := 71) rfl (hb hby d6_47) rfl (flt (own_lb_z hbd)).2.1 (by decide) (by decide) k) ?_
      show Go _ _ _ _ (T20.setTop (mkF m 71 #[vR p0, vR p1, vI i, uS] []))
      refine Go.back (fun t k => XS.aloadN X20.here hx rfl (hb hby d6_71) rfl rfl  k) ?_
      obtain ⟨T22, X22, e22, st22⟩ := getF X20 hx hZ hown (host := "") (Or.inl (wk hw 15 rfl)) Via.refl e20 F9 (g := (mkF m 72 #[vR p0, vR p1, vI i, uS] [(.ref p0)])) rfl rfl (hb hby d6_72)
      refine Go.back st22 ?_
      show Go _ _ _ _ (T22.setTop (mkF m 75 #[vR p0, vR p1, vI i, uS] [(.ref ro)]))
      refine Go.back (fun t k => XS.ifnonnullYes X22.here hx rfl (pc0 := 75) (pc' := 99) rfl (hb hby d6_75) rfl (by decide) (by decide) k) ?_
      show Go _ _ _ _ (T22.setTop (mkF m 99 #[vR p0, vR p1, vI i, uS] []))
      refine Go.back (fun t k => XS.aloadN X22.here hx rfl (hb hby d6_99) rfl rfl  k) ?_
      obtain ⟨T23, X23, e23, st23⟩ := getF X22 hx hZ hown (host := "") (Or.inl (wk hw 15 rfl)) Via.refl e22 F9 (g := (mkF m 100 #[vR p0, vR p1, vI i, uS] [(.ref p0)])) rfl rfl (hb hby d6_100)
      refine Go.back st23 ?_
      show Go _ _ _ _ (T23.setTop (mkF m 103 #[vR p0, vR p1, vI i, uS] [(.ref ro)]))
      refine Go.back (fun t k => XS.ifnonnullYes X23.here hx rfl (pc0 := 103) (pc' := 179) rfl (hb hby d6_103) rfl (by decide) (by decide) k) ?_
      show Go _ _ _ _ (T23.setTop (mkF m 179 #[vR p0, vR p1, vI i, uS] []))
      refine Go.back (fun t k => XS.aloadN X23.here hx rfl (hb hby d6_179) rfl rfl  k) ?_
      refine Go.back (fun t k => XS.aloadN X23.here hx rfl (hb hby d6_180) rfl rfl  k) ?_
      obtain ⟨T24, X24, e24, st24⟩ := getFR X23 hx hZ hown (wk hw 67 rfl) e23 F14 (g := (mkF m 181 #[vR p0, vR p1, vI i, uS] [(.ref p1), (.ref p0)])) rfl rfl (hb hby d6_181)
      refine Go.back st24 ?_
      obtain ⟨T25, h25, X25, e25, W25, st25⟩ := putF X24 hx hZ hown (host := "") (Or.inl (wk hw 64 rfl)) Via.refl e24 F11 F7 (Or.inl (wk hw 65 rfl)) (wk hw 1 rfl) (ty := .int) (by decide) rfl rfl (g := (mkF m 184 #[vR p0, vR p1, vI i, uS] [(.int (2 : Int32)), (.ref p0)])) rfl rfl (hb hby d6_184)
      have F26 := F7.wr W25
      have F27 := F8.other W25 (Or.inr (slot_ne (Or.inr (wk hw 13 rfl)) (Or.inl (wk hw 65 rfl)) (by decide) (t := .int) (t' := .int) (by decide) (by decide)))
      have F28 := F9.other W25 (Or.inr (slot_ne (Or.inr (wk hw 16 rfl)) (Or.inl (wk hw 65 rfl)) (by decide) (t := (.array .long)) (t' := .int) (by decide) (by decide)))
      have F29 := F10.other W25 (Or.inr (slot_ne (Or.inr (wk hw 22 rfl)) (Or.inl (wk hw 65 rfl)) (by decide) (t := (.array .long)) (t' := .int) (by decide) (by decide)))
      have F30 : Fld Z h25 p0 cR "joined" "I" (.int (2 : Int32)) := F11.same W25
      have F31 := F12.other W25 (Or.inl (Ne.symm H13))
      have F32 := F13.other W25 (Or.inl (Ne.symm H13))
      have F33 := F14.other W25 (Or.inl (Ne.symm H13))
      have F34 := F15.other W25 (Or.inl (Ne.symm H13))
      have F35 := F16.other W25 (Ne.symm H14)
      have F36 := F17.other W25 (Ne.symm H15)
      have F37 := Nat.le_trans F18 (Keep.of_wr W25).1
      have F38 := F19.wr W25 (Or.inl (List.mem_of_getElem? (i := 0) rfl))
      obtain ⟨Lo25, Y25, N25⟩ := pk X25 (Fr.snoc X25 N6 H11)
      refine Go.back st25 ?_
      show Go _ _ _ _ (T25.setTop (mkF m 187 #[vR p0, vR p1, vI i, uS] []))
      exact Go.retV Y25 hx Bd.returns (hb hby d6_187) Bd.notSynchronized ⟨rfl, N25, (by rw [e25]; exact F38), (by rw [e25]; exact F28), (by rw [e25]; exact F27)⟩ (by decide) (by decide)
    | succ n ih =>
      intro i G T6 L6 X6 N6 h6 e6 F7 F8 F9 F10 F11 F12 F13 F14 F15 F16 F17 F18 F19 hbd hG
      show Go _ _ _ _ (T6.setTop (mkF m 41 #[vR p0, vR p1, vI i, uS] []))
      refine Go.back (fun t k => XS.iloadN X6.here hx rfl (hb hby d6_41) rfl  k) ?_
      refine Go.back (fun t k => XS.aloadN X6.here hx rfl (hb hby d6_42) rfl rfl  k) ?_
      obtain ⟨T39, X39, e39, st39⟩ := getF X6 hx hZ hown (host := "") (Or.inl (wk hw 21 rfl)) Via.refl e6 F10 (g := (mkF m 43 #[vR p0, vR p1, vI i, uS] [(.ref p0), (.int i)])) rfl rfl (hb hby d6_43)
      refine Go.back st39 ?_
      obtain ⟨cl40, Ar40, S40⟩ := F16.len
      refine Go.back (fun t k => X39.arraylength hx (by rw [e39]; exact Ar40.1) (State.isArrayOf_alike hZ.alike Ar40.2.1) (g := (mkF m 46 #[vR p0, vR p1, vI i, uS] [(.ref aa), (.int i)])) rfl rfl (hb hby d6_46) t k) ?_
      rw [S40]
      rw [List.length_map, hG]
      show Go _ _ _ _ (T39.setTop (mkF m 47 #[vR p0, vR p1, vI i, uS] [(.int (Nat.toInt32 nn)), (.int i)]))
      refine Go.back (fun t k => XS.icmpNo X39.here hx rfl (hb hby d6_47) rfl (tlt (own_lb_s hbd)).2.1 k) ?_
      show Go _ _ _ _ (T39.setTop (mkF m 50 #[vR p0, vR p1, vI i, uS] []))
      refine Go.back (fun t k => XS.aloadN X39.here hx rfl (hb hby d6_50) rfl rfl  k) ?_
      obtain ⟨T41, X41, e41, st41⟩ := getF X39 hx hZ hown (host := "") (Or.inl (wk hw 21 rfl)) Via.refl e39 F10 (g := (mkF m 51 #[vR p0, vR p1, vI i, uS] [(.ref p0)])) rfl rfl (hb hby d6_51)
      refine Go.back st41 ?_
      refine Go.back (fun t k => XS.iloadN X41.here hx rfl (hb hby d6_54) rfl  k) ?_
      refine Go.back (fun t k => Jvm.Free.XT.dup2 X41.here hx rfl (hb hby d6_55) rfl rfl rfl k) ?_
      show Go _ _ _ _ (T41.setTop (mkF m 56 #[vR p0, vR p1, vI i, uS] [(.int i), (.ref aa), (.int i), (.ref aa)]))
      obtain ⟨cl42, Ar42, hi42, ha42⟩ := F16.get (j := i) (own_lb_nn hbd) (v := (.long (List.getD G (i).toNatClampNeg (0 : Int64)))) (getJ G (own_lb_in hbd (by rw [hG]; exact (own_l8 hn8).2.2.2.symm)))
      refine Go.back (fun t k => X41.laload hx (j := i) (v := (.long (List.getD G (i).toNatClampNeg (0 : Int64)))) (by rw [e41]; exact Ar42.1) (State.isArrayOf_alike hZ.alike Ar42.2.1) Ar42.2.2 hi42 ha42 (g := (mkF m 56 #[vR p0, vR p1, vI i, uS] [(.int i), (.ref aa), (.int i), (.ref aa)])) rfl rfl (hb hby d6_56) t k) ?_
      refine Go.back (fun t k => XS.aloadN X41.here hx rfl (hb hby d6_57) rfl rfl  k) ?_
      obtain ⟨T43, X43, e43, st43⟩ := getFR X41 hx hZ hown (wk hw 79 rfl) e41 F15 (g := (mkF m 58 #[vR p0, vR p1, vI i, uS] [(.ref p1), (.long (List.getD G (i).toNatClampNeg (0 : Int64))), (.int i), (.ref aa)])) rfl rfl (hb hby d6_58)
      refine Go.back st43 ?_
      refine Go.back (fun t k => XS.iloadN X43.here hx rfl (hb hby d6_61) rfl  k) ?_
      show Go _ _ _ _ (T43.setTop (mkF m 62 #[vR p0, vR p1, vI i, uS] [(.int i), (.ref an), (.long (List.getD G (i).toNatClampNeg (0 : Int64))), (.int i), (.ref aa)]))
      obtain ⟨cl44, Ar44, hi44, ha44⟩ := F17.get (j := i) (own_lb_nn hbd) (v := (.long (List.getD ys (i).toNatClampNeg (0 : Int64)))) (getJ ys (own_lb_in hbd (by rw [hy]; exact (own_l8 hn8).2.2.2.symm)))
      refine Go.back (fun t k => X43.laload hx (j := i) (v := (.long (List.getD ys (i).toNatClampNeg (0 : Int64)))) (by rw [e43]; exact Ar44.1) (State.isArrayOf_alike hZ.alike Ar44.2.1) Ar44.2.2 hi44 ha44 (g := (mkF m 62 #[vR p0, vR p1, vI i, uS] [(.int i), (.ref an), (.long (List.getD G (i).toNatClampNeg (0 : Int64))), (.int i), (.ref aa)])) rfl rfl (hb hby d6_62) t k) ?_
      refine Go.back (fun t k => XS.lor X43.here hx rfl (hb hby d6_63) rfl k) ?_
      obtain ⟨cl45, Ar45, hi45, -⟩ := F16.at (j := i) (own_lb_nn hbd) (by simpa using (own_lb_in hbd (by rw [hG]; exact (own_l8 hn8).2.2.2.symm)))
      obtain ⟨T45, h45, X45, e45, W45, st45⟩ := stJ X43 hx hZ e43 Ar45 (j := i) hi45 (g := (mkF m 64 #[vR p0, vR p1, vI i, uS] [(.long ((List.getD G (i).toNatClampNeg (0 : Int64)) ||| (List.getD ys (i).toNatClampNeg (0 : Int64)))), (.int i), (.ref aa)])) rfl rfl (hb hby d6_64)
      have F46 := F7.wr W45
      have F47 := F8.other W45 (Or.inl H14)
      have F48 := F9.other W45 (Or.inl H14)
      have F49 := F10.other W45 (Or.inl H14)
      have F50 := F11.other W45 (Or.inl H14)
      have F51 := F12.other W45 (Or.inl H16)
      have F52 := F13.other W45 (Or.inl H16)
      have F53 := F14.other W45 (Or.inl H16)
      have F54 := F15.other W45 (Or.inl H16)
      have F55 : ArL Z h45 aa .long (List.map Value.long (List.set G (i).toNatClampNeg ((List.getD G (i).toNatClampNeg (0 : Int64)) ||| (List.getD ys (i).toNatClampNeg (0 : Int64))))) := ArL.setJ (xs := G) F16 W45
      have F56 := F17.other W45 (Ne.symm H18)
      have F57 := Nat.le_trans F18 (Keep.of_wr W45).1
      have F58 := F19.wr W45 (Or.inl (List.mem_of_getElem? (i := 1) rfl))
      obtain ⟨Lo45, Y45, N45⟩ := pk X45 (Fr.snoc X45 N6 H12)
      refine Go.back st45 ?_
      refine Go.back (fun t k => XS.iinc Y45.here hx rfl (hb hby d6_65) rfl (l' := #[vR p0, vR p1, vI (i + (1 : Int32)), uS]) rfl k) ?_
      show Go _ _ _ _ (T45.setTop (mkF m 68 #[vR p0, vR p1, vI (i + (1 : Int32)), uS] []))
      refine Go.back (fun t k => XS.goto Y45.here hx rfl (pc0 := 68) (pc' := 41) rfl (hb hby d6_68) (by decide) (by decide) k) ?_
      show Go _ _ _ _ (T45.setTop (mkF m 41 #[vR p0, vR p1, vI (i + (1 : Int32)), uS] []))
      exact ih (i + (1 : Int32)) (List.set G (i).toNatClampNeg ((List.getD G (i).toNatClampNeg (0 : Int64)) ||| (List.getD ys (i).toNatClampNeg (0 : Int64)))) _ _ Y45 N45 h45 e45 F46 F47 F48 F49 F50 F51 F52 F53 F54 F55 F56 F57 F58 (own_lb_next hbd) (by simp [hG])
  exact LOOP5 nn (0 : Int32) xs _ _ X4 N0 h0 e4 H0 H1 H2 H3 H4 H5 H6 H7 H8 H9 H10 Z0 (Keep.refl h0 [p0, aa]) (own_lbn hn8) hx0
theorem d7_0 : decode prog_61_method_6_code 0 = .ok (.iconst 0, 1) := by decide +kernel
theorem d7_1 : decode prog_61_method_6_code 1 = .ok (.istore_n 2, 1) := by decide +kernel
theorem d7_2 : decode prog_61_method_6_code 2 = .ok (.aload_n 0, 1) := by decide +kernel
theorem d7_3 : decode prog_61_method_6_code 3 = .ok (.getfield 27, 3) := by decide +kernel
theorem d7_6 : decode prog_61_method_6_code 6 = .ok (.ifnull 50, 3) := by decide +kernel
theorem d7_56 : decode prog_61_method_6_code 56 = .ok (.aload_n 0, 1) := by decide +kernel
theorem d7_57 : decode prog_61_method_6_code 57 = .ok (.getfield 31, 3) := by decide +kernel
theorem d7_60 : decode prog_61_method_6_code 60 = .ok (.iload_n 1, 1) := by decide +kernel
theorem d7_61 : decode prog_61_method_6_code 61 = .ok (.iconst 1, 1) := by decide +kernel
theorem d7_62 : decode prog_61_method_6_code 62 = .ok (.iadd, 1) := by decide +kernel
theorem d7_63 : decode prog_61_method_6_code 63 = .ok (.iaload, 1) := by decide +kernel
theorem d7_64 : decode prog_61_method_6_code 64 = .ok (.aload_n 0, 1) := by decide +kernel
theorem d7_65 : decode prog_61_method_6_code 65 = .ok (.getfield 31, 3) := by decide +kernel
theorem d7_68 : decode prog_61_method_6_code 68 = .ok (.iload_n 1, 1) := by decide +kernel
theorem d7_69 : decode prog_61_method_6_code 69 = .ok (.iaload, 1) := by decide +kernel
theorem d7_70 : decode prog_61_method_6_code 70 = .ok (.if_icmp .le 7, 3) := by decide +kernel
theorem d7_73 : decode prog_61_method_6_code 73 = .ok (.iconst 1, 1) := by decide +kernel
theorem d7_74 : decode prog_61_method_6_code 74 = .ok (.goto 4, 3) := by decide +kernel
theorem d7_77 : decode prog_61_method_6_code 77 = .ok (.iconst 0, 1) := by decide +kernel
theorem d7_78 : decode prog_61_method_6_code 78 = .ok (.istore_n 2, 1) := by decide +kernel
theorem d7_79 : decode prog_61_method_6_code 79 = .ok (.iload_n 2, 1) := by decide +kernel
theorem d7_80 : decode prog_61_method_6_code 80 = .ok (.ireturn, 1) := by decide +kernel
def f50 (s0 : Int32) (s1 : Int32) (s2 : Int32) : Bool := (let z8 : Bool := (if s0 < s1 then true else false); z8)
def Q50 (Z : State) (p0 : Addr) (ss : Addr) (s0 : Int32) (s1 : Int32) (s2 : Int32) (h0 : Heap) (n0 : Nat) (v : Option Value) (h : Heap) (L : List Loc) : Prop := v = some (.int (b2i (f50 s0 s1 s2))) ∧ Fr n0 L ∧ h = h0
abbrev rmm50 : Room := { frames := 0, cells := 0, slots := 0, locals := 0 }
abbrev P50 (Z : State) (p0 : Addr) (ss : Addr) (s0 : Int32) (s1 : Int32) (s2 : Int32) (h0 : Heap) (n0 : Nat) (s : State) : Outcome → State → Prop := fun o U' => ∃ v L, o = .returned v ∧ Q50 Z p0 ss s0 s1 s2 h0 n0 v U'.heap L ∧ FrameEnd s o U' L rmm50.cells rmm50.slots
theorem pn_50 : plainName "com/example/onward/onward/check/RequirementRows" = true := by first | (simp [plainName, overriddenIn]; done) | decide +kernel
theorem ef_50 (m : MethodId) (p0 : Addr) : entryFrame m #[(.ref p0), (.int (0 : Int32))] 4 = mkF m 0 #[vR p0, vI (0 : Int32), uS, uS] [] := by first | (simp [entryFrame, mkF, argsToLocals, Value.category]; done) | rfl
set_option maxRecDepth 65536 in
set_option maxHeartbeats 40000000 in
theorem rm50 (l : Launch) (Z : State) (a0 : Array Value) (hw : ∀ d ∈ tables_1, d.before a0 Z = true) (ws : List Jvm.Cond) (p0 : Addr) (ss : Addr) (s0 : Int32) (s1 : Int32) (s2 : Int32) (h0 : Heap) (n0 : Nat) (Z0 : n0 ≤ h0.size) (H0 : Fld Z h0 p0 cR "rows" "[J" .null) (H1 : Fld Z h0 p0 cR "starts" "[I" (.ref ss)) (H2 : ArL Z h0 ss .int [(.int s0), (.int s1), (.int s2)]) :
    MetFree l (⟨"com/example/onward/onward/check/RequirementRows", "raisesAny", "(I)Z"⟩ : MethodName) (head1 (Jvm.Cond.code (⟨"com/example/onward/onward/check/RequirementRows", "raisesAny", "(I)Z"⟩ : MethodName) prog_61_method_6_code 4 (some .boolean) :: ws) rmm50) (fun a U => a = #[(.ref p0), (.int (0 : Int32))] ∧ Z.Warmed39 U.vm ∧ U.heap = h0) (fun _ _ _ _ _ => True) (fun _ U o U' => ∃ v L, o = .returned v ∧ Q50 Z p0 ss s0 s1 s2 h0 n0 v U'.heap L ∧ FrameEnd U o U' L rmm50.cells rmm50.slots) := by
  refine MetFree.of_bodySF (plainFor_of_name pn_50) hisR ?_
  intro p e s m args below meth c s₁ Bd hml0 hP hK
  obtain ⟨rfl, hZ, hh⟩ := hP
  have hx := Bd.exec
  have hby := Bd.bytes
  have hml : c.maxLocals = 4 := hml0
  have hown : s.vm.findClass "com/example/onward/onward/check/RequirementRows" = some m.cls := findClass_of_methodNamed Bd.named
  have hnm := (name_of_methodNamed Bd.named Bd.method).1
  have X0 : Stand p l e rmm50 s m #[(.ref p0), (.int (0 : Int32))] below meth c s₁ [] 0 0 := Stand.of_body Bd
  have e0 : s₁.heap = h0 := by rw [← hh, Bd.state]; rfl
  have N0 := Fr.nil n0
  show Go p.tables e below (P50 Z p0 ss s0 s1 s2 h0 n0 s) (s₁.setTop (entryFrame m #[(.ref p0), (.int (0 : Int32))] 4))
  refine Go.back (fun t k => castTop (ef_50 m p0) k) ?_
  show Go p.tables e below (P50 Z p0 ss s0 s1 s2 h0 n0 s) (s₁.setTop (mkF m 0 #[vR p0, vI (0 : Int32), uS, uS] []))
  have hf0 : f50 s0 s1 s2 = (let z8 : Bool := (if s0 < s1 then true else false); z8) := rfl
  refine Go.back (fun t k => XS.iconst X0.here hx rfl (hb hby d7_0) k) ?_
  refine Go.back (fun t k => XS.istoreN X0.here hx rfl (hb hby d7_1) rfl (l' := #[vR p0, vI (0 : Int32), vI (0 : Int32), uS]) rfl k) ?_
  refine Go.back (fun t k => XS.aloadN X0.here hx rfl (hb hby d7_2) rfl rfl  k) ?_
  obtain ⟨T1, X1, e1, st1⟩ := getF X0 hx hZ hown (host := "") (Or.inl (wk hw 15 rfl)) Via.refl e0 H0 (g := (mkF m 3 #[vR p0, vI (0 : Int32), vI (0 : Int32), uS] [(.ref p0)])) rfl rfl (hb hby d7_3)
  refine Go.back st1 ?_
  show Go _ _ _ _ (T1.setTop (mkF m 6 #[vR p0, vI (0 : Int32), vI (0 : Int32), uS] [.null]))
  refine Go.back (fun t k => XS.ifnullYes X1.here hx rfl (pc0 := 6) (pc' := 56) rfl (hb hby d7_6) rfl (by decide) (by decide) k) ?_
  show Go _ _ _ _ (T1.setTop (mkF m 56 #[vR p0, vI (0 : Int32), vI (0 : Int32), uS] []))
  refine Go.back (fun t k => XS.aloadN X1.here hx rfl (hb hby d7_56) rfl rfl  k) ?_
  obtain ⟨T2, X2, e2, st2⟩ := getF X1 hx hZ hown (host := "") (Or.inl (wk hw 17 rfl)) Via.refl e1 H1 (g := (mkF m 57 #[vR p0, vI (0 : Int32), vI (0 : Int32), uS] [(.ref p0)])) rfl rfl (hb hby d7_57)
  refine Go.back st2 ?_
  refine Go.back (fun t k => XS.iloadN X2.here hx rfl (hb hby d7_60) rfl  k) ?_
  refine Go.back (fun t k => XS.iconst X2.here hx rfl (hb hby d7_61) k) ?_
  show Go _ _ _ _ (T2.setTop (mkF m 62 #[vR p0, vI (0 : Int32), vI (0 : Int32), uS] [(.int (1 : Int32)), (.int (0 : Int32)), (.ref ss)]))
  refine Go.back (fun t k => XS.iadd X2.here hx rfl (hb hby d7_62) rfl k) ?_
  show Go _ _ _ _ (T2.setTop (mkF m 63 #[vR p0, vI (0 : Int32), vI (0 : Int32), uS] [(.int ((0 : Int32) + (1 : Int32))), (.ref ss)]))
  rw [show ((0 : Int32) + (1 : Int32)) = (1 : Int32) from by decide]
  show Go _ _ _ _ (T2.setTop (mkF m 63 #[vR p0, vI (0 : Int32), vI (0 : Int32), uS] [(.int (1 : Int32)), (.ref ss)]))
  obtain ⟨cl3, Ar3, hi3, ha3⟩ := H2.get (j := (1 : Int32)) (by decide) (v := (.int s1)) rfl
  refine Go.back (fun t k => X2.iaload hx (j := (1 : Int32)) (v := (.int s1)) (by rw [e2]; exact Ar3.1) (State.isArrayOf_alike hZ.alike Ar3.2.1) Ar3.2.2 hi3 ha3 (g := (mkF m 63 #[vR p0, vI (0 : Int32), vI (0 : Int32), uS] [(.int (1 : Int32)), (.ref ss)])) rfl rfl (hb hby d7_63) t k) ?_
  refine Go.back (fun t k => XS.aloadN X2.here hx rfl (hb hby d7_64) rfl rfl  k) ?_
  obtain ⟨T4, X4, e4, st4⟩ := getF X2 hx hZ hown (host := "") (Or.inl (wk hw 17 rfl)) Via.refl e2 H1 (g := (mkF m 65 #[vR p0, vI (0 : Int32), vI (0 : Int32), uS] [(.ref p0), (.int s1)])) rfl rfl (hb hby d7_65)
  refine Go.back st4 ?_
  refine Go.back (fun t k => XS.iloadN X4.here hx rfl (hb hby d7_68) rfl  k) ?_
  show Go _ _ _ _ (T4.setTop (mkF m 69 #[vR p0, vI (0 : Int32), vI (0 : Int32), uS] [(.int (0 : Int32)), (.ref ss), (.int s1)]))
  obtain ⟨cl5, Ar5, hi5, ha5⟩ := H2.get (j := (0 : Int32)) (by decide) (v := (.int s0)) rfl
  refine Go.back (fun t k => X4.iaload hx (j := (0 : Int32)) (v := (.int s0)) (by rw [e4]; exact Ar5.1) (State.isArrayOf_alike hZ.alike Ar5.2.1) Ar5.2.2 hi5 ha5 (g := (mkF m 69 #[vR p0, vI (0 : Int32), vI (0 : Int32), uS] [(.int (0 : Int32)), (.ref ss), (.int s1)])) rfl rfl (hb hby d7_69) t k) ?_
  show Go _ _ _ _ (T4.setTop (mkF m 70 #[vR p0, vI (0 : Int32), vI (0 : Int32), uS] [(.int s0), (.int s1)]))
  have J7 : ∀ (z8 : Bool) (hz8 : z8 = (if s0 < s1 then true else false)), Go p.tables e below (P50 Z p0 ss s0 s1 s2 h0 n0 s) (T4.setTop (mkF m 78 #[vR p0, vI (0 : Int32), vI (0 : Int32), uS] [(.int (b2i z8))])) := by
    intro z8 hz8
    have r9 : f50 s0 s1 s2 = z8 := by subst hz8; exact hf0
    show Go _ _ _ _ (T4.setTop (mkF m 78 #[vR p0, vI (0 : Int32), vI (0 : Int32), uS] [(.int (b2i z8))]))
    refine Go.back (fun t k => XS.istoreN X4.here hx rfl (hb hby d7_78) rfl (l' := #[vR p0, vI (0 : Int32), vZ z8, uS]) rfl k) ?_
    refine Go.back (fun t k => XS.iloadN X4.here hx rfl (hb hby d7_79) rfl  k) ?_
    show Go _ _ _ _ (T4.setTop (mkF m 80 #[vR p0, vI (0 : Int32), vZ z8, uS] [(.int (b2i z8))]))
    exact Go.retB (b := z8) X4 hx Bd.returns (hb hby d7_80) Bd.notSynchronized ⟨by rw [r9], N0, e4⟩ (by decide) (by decide)
  have r10 : (if s0 < s1 then true else false) = (if s0 < s1 then true else false) := rfl
  by_cases hc6 : s0 < s1
  · have r11 := r10.trans (if_pos hc6)
    refine Go.back (fun t k => XS.icmpNo X4.here hx rfl (hb hby d7_70) rfl (tlt hc6).2.2.2 k) ?_
    show Go _ _ _ _ (T4.setTop (mkF m 73 #[vR p0, vI (0 : Int32), vI (0 : Int32), uS] []))
    refine Go.back (fun t k => XS.iconst X4.here hx rfl (hb hby d7_73) k) ?_
    refine Go.back (fun t k => XS.goto X4.here hx rfl (pc0 := 74) (pc' := 78) rfl (hb hby d7_74) (by decide) (by decide) k) ?_
    show Go _ _ _ _ (T4.setTop (mkF m 78 #[vR p0, vI (0 : Int32), vI (0 : Int32), uS] [(.int (1 : Int32))]))
    exact J7 true r11.symm
  · have r12 := r10.trans (if_neg hc6)
    refine Go.back (fun t k => XS.icmpYes X4.here hx rfl (pc0 := 70) (pc' := 77) rfl (hb hby d7_70) rfl (flt hc6).2.2.2 (by decide) (by decide) k) ?_
    show Go _ _ _ _ (T4.setTop (mkF m 77 #[vR p0, vI (0 : Int32), vI (0 : Int32), uS] []))
    refine Go.back (fun t k => XS.iconst X4.here hx rfl (hb hby d7_77) k) ?_
    show Go _ _ _ _ (T4.setTop (mkF m 78 #[vR p0, vI (0 : Int32), vI (0 : Int32), uS] [(.int (0 : Int32))]))
    exact J7 false r12.symm
def f51 (s0 : Int32) (s1 : Int32) (s2 : Int32) : Bool := (let z8 : Bool := (if s1 < s2 then true else false); z8)
def Q51 (Z : State) (p0 : Addr) (ss : Addr) (s0 : Int32) (s1 : Int32) (s2 : Int32) (h0 : Heap) (n0 : Nat) (v : Option Value) (h : Heap) (L : List Loc) : Prop := v = some (.int (b2i (f51 s0 s1 s2))) ∧ Fr n0 L ∧ h = h0
abbrev rmm51 : Room := { frames := 0, cells := 0, slots := 0, locals := 0 }
abbrev P51 (Z : State) (p0 : Addr) (ss : Addr) (s0 : Int32) (s1 : Int32) (s2 : Int32) (h0 : Heap) (n0 : Nat) (s : State) : Outcome → State → Prop := fun o U' => ∃ v L, o = .returned v ∧ Q51 Z p0 ss s0 s1 s2 h0 n0 v U'.heap L ∧ FrameEnd s o U' L rmm51.cells rmm51.slots
theorem pn_51 : plainName "com/example/onward/onward/check/RequirementRows" = true := by first | (simp [plainName, overriddenIn]; done) | decide +kernel
theorem ef_51 (m : MethodId) (p0 : Addr) : entryFrame m #[(.ref p0), (.int (1 : Int32))] 4 = mkF m 0 #[vR p0, vI (1 : Int32), uS, uS] [] := by first | (simp [entryFrame, mkF, argsToLocals, Value.category]; done) | rfl
set_option maxRecDepth 65536 in
set_option maxHeartbeats 40000000 in
theorem rm51 (l : Launch) (Z : State) (a0 : Array Value) (hw : ∀ d ∈ tables_1, d.before a0 Z = true) (ws : List Jvm.Cond) (p0 : Addr) (ss : Addr) (s0 : Int32) (s1 : Int32) (s2 : Int32) (h0 : Heap) (n0 : Nat) (Z0 : n0 ≤ h0.size) (H0 : Fld Z h0 p0 cR "rows" "[J" .null) (H1 : Fld Z h0 p0 cR "starts" "[I" (.ref ss)) (H2 : ArL Z h0 ss .int [(.int s0), (.int s1), (.int s2)]) :
    MetFree l (⟨"com/example/onward/onward/check/RequirementRows", "raisesAny", "(I)Z"⟩ : MethodName) (head1 (Jvm.Cond.code (⟨"com/example/onward/onward/check/RequirementRows", "raisesAny", "(I)Z"⟩ : MethodName) prog_61_method_6_code 4 (some .boolean) :: ws) rmm51) (fun a U => a = #[(.ref p0), (.int (1 : Int32))] ∧ Z.Warmed39 U.vm ∧ U.heap = h0) (fun _ _ _ _ _ => True) (fun _ U o U' => ∃ v L, o = .returned v ∧ Q51 Z p0 ss s0 s1 s2 h0 n0 v U'.heap L ∧ FrameEnd U o U' L rmm51.cells rmm51.slots) := by
  refine MetFree.of_bodySF (plainFor_of_name pn_51) hisR ?_
  intro p e s m args below meth c s₁ Bd hml0 hP hK
  obtain ⟨rfl, hZ, hh⟩ := hP
  have hx := Bd.exec
  have hby := Bd.bytes
  have hml : c.maxLocals = 4 := hml0
  have hown : s.vm.findClass "com/example/onward/onward/check/RequirementRows" = some m.cls := findClass_of_methodNamed Bd.named
  have hnm := (name_of_methodNamed Bd.named Bd.method).1
  have X0 : Stand p l e rmm51 s m #[(.ref p0), (.int (1 : Int32))] below meth c s₁ [] 0 0 := Stand.of_body Bd
  have e0 : s₁.heap = h0 := by rw [← hh, Bd.state]; rfl
  have N0 := Fr.nil n0
  show Go p.tables e below (P51 Z p0 ss s0 s1 s2 h0 n0 s) (s₁.setTop (entryFrame m #[(.ref p0), (.int (1 : Int32))] 4))
  refine Go.back (fun t k => castTop (ef_51 m p0) k) ?_
  show Go p.tables e below (P51 Z p0 ss s0 s1 s2 h0 n0 s) (s₁.setTop (mkF m 0 #[vR p0, vI (1 : Int32), uS, uS] []))
  have hf0 : f51 s0 s1 s2 = (let z8 : Bool := (if s1 < s2 then true else false); z8) := rfl
  refine Go.back (fun t k => XS.iconst X0.here hx rfl (hb hby d7_0) k) ?_
  refine Go.back (fun t k => XS.istoreN X0.here hx rfl (hb hby d7_1) rfl (l' := #[vR p0, vI (1 : Int32), vI (0 : Int32), uS]) rfl k) ?_
  refine Go.back (fun t k => XS.aloadN X0.here hx rfl (hb hby d7_2) rfl rfl  k) ?_
  obtain ⟨T1, X1, e1, st1⟩ := getF X0 hx hZ hown (host := "") (Or.inl (wk hw 15 rfl)) Via.refl e0 H0 (g := (mkF m 3 #[vR p0, vI (1 : Int32), vI (0 : Int32), uS] [(.ref p0)])) rfl rfl (hb hby d7_3)
  refine Go.back st1 ?_
  show Go _ _ _ _ (T1.setTop (mkF m 6 #[vR p0, vI (1 : Int32), vI (0 : Int32), uS] [.null]))
  refine Go.back (fun t k => XS.ifnullYes X1.here hx rfl (pc0 := 6) (pc' := 56) rfl (hb hby d7_6) rfl (by decide) (by decide) k) ?_
  show Go _ _ _ _ (T1.setTop (mkF m 56 #[vR p0, vI (1 : Int32), vI (0 : Int32), uS] []))
  refine Go.back (fun t k => XS.aloadN X1.here hx rfl (hb hby d7_56) rfl rfl  k) ?_
  obtain ⟨T2, X2, e2, st2⟩ := getF X1 hx hZ hown (host := "") (Or.inl (wk hw 17 rfl)) Via.refl e1 H1 (g := (mkF m 57 #[vR p0, vI (1 : Int32), vI (0 : Int32), uS] [(.ref p0)])) rfl rfl (hb hby d7_57)
  refine Go.back st2 ?_
  refine Go.back (fun t k => XS.iloadN X2.here hx rfl (hb hby d7_60) rfl  k) ?_
  refine Go.back (fun t k => XS.iconst X2.here hx rfl (hb hby d7_61) k) ?_
  show Go _ _ _ _ (T2.setTop (mkF m 62 #[vR p0, vI (1 : Int32), vI (0 : Int32), uS] [(.int (1 : Int32)), (.int (1 : Int32)), (.ref ss)]))
  refine Go.back (fun t k => XS.iadd X2.here hx rfl (hb hby d7_62) rfl k) ?_
  show Go _ _ _ _ (T2.setTop (mkF m 63 #[vR p0, vI (1 : Int32), vI (0 : Int32), uS] [(.int ((1 : Int32) + (1 : Int32))), (.ref ss)]))
  rw [show ((1 : Int32) + (1 : Int32)) = (2 : Int32) from by decide]
  show Go _ _ _ _ (T2.setTop (mkF m 63 #[vR p0, vI (1 : Int32), vI (0 : Int32), uS] [(.int (2 : Int32)), (.ref ss)]))
  obtain ⟨cl3, Ar3, hi3, ha3⟩ := H2.get (j := (2 : Int32)) (by decide) (v := (.int s2)) rfl
  refine Go.back (fun t k => X2.iaload hx (j := (2 : Int32)) (v := (.int s2)) (by rw [e2]; exact Ar3.1) (State.isArrayOf_alike hZ.alike Ar3.2.1) Ar3.2.2 hi3 ha3 (g := (mkF m 63 #[vR p0, vI (1 : Int32), vI (0 : Int32), uS] [(.int (2 : Int32)), (.ref ss)])) rfl rfl (hb hby d7_63) t k) ?_
  refine Go.back (fun t k => XS.aloadN X2.here hx rfl (hb hby d7_64) rfl rfl  k) ?_
  obtain ⟨T4, X4, e4, st4⟩ := getF X2 hx hZ hown (host := "") (Or.inl (wk hw 17 rfl)) Via.refl e2 H1 (g := (mkF m 65 #[vR p0, vI (1 : Int32), vI (0 : Int32), uS] [(.ref p0), (.int s2)])) rfl rfl (hb hby d7_65)
  refine Go.back st4 ?_
  refine Go.back (fun t k => XS.iloadN X4.here hx rfl (hb hby d7_68) rfl  k) ?_
  show Go _ _ _ _ (T4.setTop (mkF m 69 #[vR p0, vI (1 : Int32), vI (0 : Int32), uS] [(.int (1 : Int32)), (.ref ss), (.int s2)]))
  obtain ⟨cl5, Ar5, hi5, ha5⟩ := H2.get (j := (1 : Int32)) (by decide) (v := (.int s1)) rfl
  refine Go.back (fun t k => X4.iaload hx (j := (1 : Int32)) (v := (.int s1)) (by rw [e4]; exact Ar5.1) (State.isArrayOf_alike hZ.alike Ar5.2.1) Ar5.2.2 hi5 ha5 (g := (mkF m 69 #[vR p0, vI (1 : Int32), vI (0 : Int32), uS] [(.int (1 : Int32)), (.ref ss), (.int s2)])) rfl rfl (hb hby d7_69) t k) ?_
  show Go _ _ _ _ (T4.setTop (mkF m 70 #[vR p0, vI (1 : Int32), vI (0 : Int32), uS] [(.int s1), (.int s2)]))
  have J7 : ∀ (z8 : Bool) (hz8 : z8 = (if s1 < s2 then true else false)), Go p.tables e below (P51 Z p0 ss s0 s1 s2 h0 n0 s) (T4.setTop (mkF m 78 #[vR p0, vI (1 : Int32), vI (0 : Int32), uS] [(.int (b2i z8))])) := by
    intro z8 hz8
    have r9 : f51 s0 s1 s2 = z8 := by subst hz8; exact hf0
    show Go _ _ _ _ (T4.setTop (mkF m 78 #[vR p0, vI (1 : Int32), vI (0 : Int32), uS] [(.int (b2i z8))]))
    refine Go.back (fun t k => XS.istoreN X4.here hx rfl (hb hby d7_78) rfl (l' := #[vR p0, vI (1 : Int32), vZ z8, uS]) rfl k) ?_
    refine Go.back (fun t k => XS.iloadN X4.here hx rfl (hb hby d7_79) rfl  k) ?_
    show Go _ _ _ _ (T4.setTop (mkF m 80 #[vR p0, vI (1 : Int32), vZ z8, uS] [(.int (b2i z8))]))
    exact Go.retB (b := z8) X4 hx Bd.returns (hb hby d7_80) Bd.notSynchronized ⟨by rw [r9], N0, e4⟩ (by decide) (by decide)
  have r10 : (if s1 < s2 then true else false) = (if s1 < s2 then true else false) := rfl
  by_cases hc6 : s1 < s2
  · have r11 := r10.trans (if_pos hc6)
    refine Go.back (fun t k => XS.icmpNo X4.here hx rfl (hb hby d7_70) rfl (tlt hc6).2.2.2 k) ?_
    show Go _ _ _ _ (T4.setTop (mkF m 73 #[vR p0, vI (1 : Int32), vI (0 : Int32), uS] []))
    refine Go.back (fun t k => XS.iconst X4.here hx rfl (hb hby d7_73) k) ?_
    refine Go.back (fun t k => XS.goto X4.here hx rfl (pc0 := 74) (pc' := 78) rfl (hb hby d7_74) (by decide) (by decide) k) ?_
    show Go _ _ _ _ (T4.setTop (mkF m 78 #[vR p0, vI (1 : Int32), vI (0 : Int32), uS] [(.int (1 : Int32))]))
    exact J7 true r11.symm
  · have r12 := r10.trans (if_neg hc6)
    refine Go.back (fun t k => XS.icmpYes X4.here hx rfl (pc0 := 70) (pc' := 77) rfl (hb hby d7_70) rfl (flt hc6).2.2.2 (by decide) (by decide) k) ?_
    show Go _ _ _ _ (T4.setTop (mkF m 77 #[vR p0, vI (1 : Int32), vI (0 : Int32), uS] []))
    refine Go.back (fun t k => XS.iconst X4.here hx rfl (hb hby d7_77) k) ?_
    show Go _ _ _ _ (T4.setTop (mkF m 78 #[vR p0, vI (1 : Int32), vI (0 : Int32), uS] [(.int (0 : Int32))]))
    exact J7 false r12.symm
theorem d7_9 : decode prog_61_method_6_code 9 = .ok (.iconst 0, 1) := by decide +kernel
theorem d7_10 : decode prog_61_method_6_code 10 = .ok (.istore_n 3, 1) := by decide +kernel
theorem d7_11 : decode prog_61_method_6_code 11 = .ok (.iload_n 2, 1) := by decide +kernel
theorem d7_12 : decode prog_61_method_6_code 12 = .ok (.ifCond .ne 41, 3) := by decide +kernel
theorem d7_15 : decode prog_61_method_6_code 15 = .ok (.iload_n 3, 1) := by decide +kernel
theorem d7_16 : decode prog_61_method_6_code 16 = .ok (.aload_n 0, 1) := by decide +kernel
theorem d7_17 : decode prog_61_method_6_code 17 = .ok (.getfield 24, 3) := by decide +kernel
theorem d7_20 : decode prog_61_method_6_code 20 = .ok (.if_icmp .ge 33, 3) := by decide +kernel
theorem d7_23 : decode prog_61_method_6_code 23 = .ok (.aload_n 0, 1) := by decide +kernel
theorem d7_24 : decode prog_61_method_6_code 24 = .ok (.getfield 27, 3) := by decide +kernel
theorem d7_27 : decode prog_61_method_6_code 27 = .ok (.iload_n 1, 1) := by decide +kernel
theorem d7_28 : decode prog_61_method_6_code 28 = .ok (.aload_n 0, 1) := by decide +kernel
theorem d7_29 : decode prog_61_method_6_code 29 = .ok (.getfield 24, 3) := by decide +kernel
theorem d7_32 : decode prog_61_method_6_code 32 = .ok (.imul, 1) := by decide +kernel
theorem d7_33 : decode prog_61_method_6_code 33 = .ok (.iload_n 3, 1) := by decide +kernel
theorem d7_34 : decode prog_61_method_6_code 34 = .ok (.iadd, 1) := by decide +kernel
theorem d7_35 : decode prog_61_method_6_code 35 = .ok (.laload, 1) := by decide +kernel
theorem d7_36 : decode prog_61_method_6_code 36 = .ok (.lconst 0, 1) := by decide +kernel
theorem d7_37 : decode prog_61_method_6_code 37 = .ok (.lcmp, 1) := by decide +kernel
theorem d7_38 : decode prog_61_method_6_code 38 = .ok (.ifCond .eq 7, 3) := by decide +kernel
theorem d7_41 : decode prog_61_method_6_code 41 = .ok (.iconst 1, 1) := by decide +kernel
theorem d7_42 : decode prog_61_method_6_code 42 = .ok (.goto 4, 3) := by decide +kernel
theorem d7_45 : decode prog_61_method_6_code 45 = .ok (.iconst 0, 1) := by decide +kernel
theorem d7_46 : decode prog_61_method_6_code 46 = .ok (.istore_n 2, 1) := by decide +kernel
theorem d7_47 : decode prog_61_method_6_code 47 = .ok (.iinc 3 1, 3) := by decide +kernel
theorem d7_50 : decode prog_61_method_6_code 50 = .ok (.goto (-39), 3) := by decide +kernel
theorem d7_53 : decode prog_61_method_6_code 53 = .ok (.goto 26, 3) := by decide +kernel
def Q52 (Z : State) (p0 : Addr) (p1 : Int32) (ro : Addr) (w : Int32) (xs : List Int64) (h0 : Heap) (n0 : Nat) (v : Option Value) (h : Heap) (L : List Loc) : Prop := v = some (.int (b2i (own_any xs (p1 * w) (w).toNatClampNeg (0 : Int32) false))) ∧ Fr n0 L ∧ h = h0
abbrev rmm52 : Room := { frames := 0, cells := 0, slots := 0, locals := 0 }
abbrev P52 (Z : State) (p0 : Addr) (p1 : Int32) (ro : Addr) (w : Int32) (xs : List Int64) (h0 : Heap) (n0 : Nat) (s : State) : Outcome → State → Prop := fun o U' => ∃ v L, o = .returned v ∧ Q52 Z p0 p1 ro w xs h0 n0 v U'.heap L ∧ FrameEnd s o U' L rmm52.cells rmm52.slots
theorem pn_52 : plainName "com/example/onward/onward/check/RequirementRows" = true := by first | (simp [plainName, overriddenIn]; done) | decide +kernel
theorem ef_52 (m : MethodId) (p0 : Addr) (p1 : Int32) : entryFrame m #[(.ref p0), (.int p1)] 4 = mkF m 0 #[vR p0, vI p1, uS, uS] [] := by first | (simp [entryFrame, mkF, argsToLocals, Value.category]; done) | rfl
set_option maxRecDepth 65536 in
set_option maxHeartbeats 40000000 in
theorem rm52 (l : Launch) (Z : State) (a0 : Array Value) (hw : ∀ d ∈ tables_1, d.before a0 Z = true) (ws : List Jvm.Cond) (p0 : Addr) (p1 : Int32) (ro : Addr) (w : Int32) (xs : List Int64) (h0 : Heap) (n0 : Nat) (Z0 : n0 ≤ h0.size) (H0 : Fld Z h0 p0 cR "words" "I" (.int w)) (H1 : Fld Z h0 p0 cR "rows" "[J" (.ref ro)) (H2 : ArL Z h0 ro .long (List.map Value.long xs)) (hp : p1 = 0 ∨ p1 = 1) (hq4 : own_w4 w) (hxs : (xs.length : Int) = 2 * w.toInt) :
    MetFree l (⟨"com/example/onward/onward/check/RequirementRows", "raisesAny", "(I)Z"⟩ : MethodName) (head1 (Jvm.Cond.code (⟨"com/example/onward/onward/check/RequirementRows", "raisesAny", "(I)Z"⟩ : MethodName) prog_61_method_6_code 4 (some .boolean) :: ws) rmm52) (fun a U => a = #[(.ref p0), (.int p1)] ∧ Z.Warmed39 U.vm ∧ U.heap = h0) (fun _ _ _ _ _ => True) (fun _ U o U' => ∃ v L, o = .returned v ∧ Q52 Z p0 p1 ro w xs h0 n0 v U'.heap L ∧ FrameEnd U o U' L rmm52.cells rmm52.slots) := by
  refine MetFree.of_bodySF (plainFor_of_name pn_52) hisR ?_
  intro p e s m args below meth c s₁ Bd hml0 hP hK
  obtain ⟨rfl, hZ, hh⟩ := hP
  have hx := Bd.exec
  have hby := Bd.bytes
  have hml : c.maxLocals = 4 := hml0
  have hown : s.vm.findClass "com/example/onward/onward/check/RequirementRows" = some m.cls := findClass_of_methodNamed Bd.named
  have hnm := (name_of_methodNamed Bd.named Bd.method).1
  have X0 : Stand p l e rmm52 s m #[(.ref p0), (.int p1)] below meth c s₁ [] 0 0 := Stand.of_body Bd
  have e0 : s₁.heap = h0 := by rw [← hh, Bd.state]; rfl
  have N0 := Fr.nil n0
  show Go p.tables e below (P52 Z p0 p1 ro w xs h0 n0 s) (s₁.setTop (entryFrame m #[(.ref p0), (.int p1)] 4))
  refine Go.back (fun t k => castTop (ef_52 m p0 p1) k) ?_
  show Go p.tables e below (P52 Z p0 p1 ro w xs h0 n0 s) (s₁.setTop (mkF m 0 #[vR p0, vI p1, uS, uS] []))
  refine Go.back (fun t k => XS.iconst X0.here hx rfl (hb hby d7_0) k) ?_
  refine Go.back (fun t k => XS.istoreN X0.here hx rfl (hb hby d7_1) rfl (l' := #[vR p0, vI p1, vI (0 : Int32), uS]) rfl k) ?_
  show Go _ _ _ _ (s₁.setTop (mkF m 2 #[vR p0, vI p1, vI (0 : Int32), uS] []))
  show Go _ _ _ _ (s₁.setTop (mkF m 2 #[vR p0, vI p1, vZ false, uS] []))
  refine Go.back (fun t k => XS.aloadN X0.here hx rfl (hb hby d7_2) rfl rfl  k) ?_
  obtain ⟨T1, X1, e1, st1⟩ := getF X0 hx hZ hown (host := "") (Or.inl (wk hw 15 rfl)) Via.refl e0 H1 (g := (mkF m 3 #[vR p0, vI p1, vZ false, uS] [(.ref p0)])) rfl rfl (hb hby d7_3)
  refine Go.back st1 ?_
  show Go _ _ _ _ (T1.setTop (mkF m 6 #[vR p0, vI p1, vZ false, uS] [(.ref ro)]))
  refine Go.back (fun t k => XS.ifnullNo X1.here hx rfl (hb hby d7_6) rfl k) ?_
  show Go _ _ _ _ (T1.setTop (mkF m 9 #[vR p0, vI p1, vZ false, uS] []))
  refine Go.back (fun t k => XS.iconst X1.here hx rfl (hb hby d7_9) k) ?_
  refine Go.back (fun t k => XS.istoreN X1.here hx rfl (hb hby d7_10) rfl (l' := #[vR p0, vI p1, vZ false, vI (0 : Int32)]) rfl k) ?_
  show Go _ _ _ _ (T1.setTop (mkF m 11 #[vR p0, vI p1, vZ false, vI (0 : Int32)] []))
  have LOOP2 : ∀ (n : Nat) (fnd : Bool) (i : Int32) (T3 : State) (L3 : List Loc) (X3 : Stand p l e rmm52 s m #[(.ref p0), (.int p1)] below meth c T3 L3 0 0) (N3 : Fr n0 L3) (e3 : T3.heap = h0) (hbd : own_lb n i w) (hr : (own_any xs (p1 * w) (w).toNatClampNeg (0 : Int32) false) = own_any xs (p1 * w) n i fnd), Go p.tables e below (P52 Z p0 p1 ro w xs h0 n0 s) (T3.setTop (mkF m 11 #[vR p0, vI p1, vZ fnd, vI i] [])) := by
    intro n
    induction n with
    | zero =>
      intro fnd i T3 L3 X3 N3 e3 hbd hr
      show Go _ _ _ _ (T3.setTop (mkF m 11 #[vR p0, vI p1, vZ fnd, vI i] []))
      refine Go.back (fun t k => XS.iloadN X3.here hx rfl (hb hby d7_11) rfl  k) ?_
      show Go _ _ _ _ (T3.setTop (mkF m 12 #[vR p0, vI p1, vZ fnd, vI i] [(.int (b2i fnd))]))
      by_cases hc4 : fnd = true
      · refine Go.back (fun t k => XS.ifYes X3.here hx rfl (pc0 := 12) (pc' := 53) rfl (hb hby d7_12) rfl ((if0 _ _).trans (feq (b2i_t hc4)).2) (by decide) (by decide) k) ?_
        show Go _ _ _ _ (T3.setTop (mkF m 53 #[vR p0, vI p1, vZ fnd, vI i] []))
        refine Go.back (fun t k => XS.goto X3.here hx rfl (pc0 := 53) (pc' := 79) rfl (hb hby d7_53) (by decide) (by decide) k) ?_
        refine Go.back (fun t k => XS.iloadN X3.here hx rfl (hb hby d7_79) rfl  k) ?_
        show Go _ _ _ _ (T3.setTop (mkF m 80 #[vR p0, vI p1, vZ fnd, vI i] [(.int (b2i fnd))]))
        exact Go.retB (b := fnd) X3 hx Bd.returns (hb hby d7_80) Bd.notSynchronized ⟨by rw [hr]; simp [own_any, *], N3, e3⟩ (by decide) (by decide)
      · refine Go.back (fun t k => XS.ifNo X3.here hx rfl (hb hby d7_12) rfl ((if0 _ _).trans (teq (b2i_f hc4)).2) k) ?_
        show Go _ _ _ _ (T3.setTop (mkF m 15 #[vR p0, vI p1, vZ fnd, vI i] []))
        refine Go.back (fun t k => XS.iloadN X3.here hx rfl (hb hby d7_15) rfl  k) ?_
        refine Go.back (fun t k => XS.aloadN X3.here hx rfl (hb hby d7_16) rfl rfl  k) ?_
        obtain ⟨T5, X5, e5, st5⟩ := getF X3 hx hZ hown (host := "") (Or.inl (wk hw 12 rfl)) Via.refl e3 H0 (g := (mkF m 17 #[vR p0, vI p1, vZ fnd, vI i] [(.ref p0), (.int i)])) rfl rfl (hb hby d7_17)
        refine Go.back st5 ?_
        show Go _ _ _ _ (T5.setTop (mkF m 20 #[vR p0, vI p1, vZ fnd, vI i] [(.int w), (.int i)]))
        refine Go.back (fun t k => XS.icmpYes X5.here hx rfl (pc0 := 20) (pc' := 53) rfl (hb hby d7_20) rfl (flt (own_lb_z hbd)).2.1 (by decide) (by decide) k) ?_
        show Go _ _ _ _ (T5.setTop (mkF m 53 #[vR p0, vI p1, vZ fnd, vI i] []))
        refine Go.back (fun t k => XS.goto X5.here hx rfl (pc0 := 53) (pc' := 79) rfl (hb hby d7_53) (by decide) (by decide) k) ?_
        refine Go.back (fun t k => XS.iloadN X5.here hx rfl (hb hby d7_79) rfl  k) ?_
        show Go _ _ _ _ (T5.setTop (mkF m 80 #[vR p0, vI p1, vZ fnd, vI i] [(.int (b2i fnd))]))
        exact Go.retB (b := fnd) X5 hx Bd.returns (hb hby d7_80) Bd.notSynchronized ⟨by rw [hr]; simp [own_any, *], N3, e5⟩ (by decide) (by decide)
    | succ n ih =>
      intro fnd i T3 L3 X3 N3 e3 hbd hr
      show Go _ _ _ _ (T3.setTop (mkF m 11 #[vR p0, vI p1, vZ fnd, vI i] []))
      refine Go.back (fun t k => XS.iloadN X3.here hx rfl (hb hby d7_11) rfl  k) ?_
      show Go _ _ _ _ (T3.setTop (mkF m 12 #[vR p0, vI p1, vZ fnd, vI i] [(.int (b2i fnd))]))
      by_cases hc6 : fnd = true
      · refine Go.back (fun t k => XS.ifYes X3.here hx rfl (pc0 := 12) (pc' := 53) rfl (hb hby d7_12) rfl ((if0 _ _).trans (feq (b2i_t hc6)).2) (by decide) (by decide) k) ?_
        show Go _ _ _ _ (T3.setTop (mkF m 53 #[vR p0, vI p1, vZ fnd, vI i] []))
        refine Go.back (fun t k => XS.goto X3.here hx rfl (pc0 := 53) (pc' := 79) rfl (hb hby d7_53) (by decide) (by decide) k) ?_
        refine Go.back (fun t k => XS.iloadN X3.here hx rfl (hb hby d7_79) rfl  k) ?_
        show Go _ _ _ _ (T3.setTop (mkF m 80 #[vR p0, vI p1, vZ fnd, vI i] [(.int (b2i fnd))]))
        exact Go.retB (b := fnd) X3 hx Bd.returns (hb hby d7_80) Bd.notSynchronized ⟨by rw [hr]; simp [own_any, *], N3, e3⟩ (by decide) (by decide)
      · refine Go.back (fun t k => XS.ifNo X3.here hx rfl (hb hby d7_12) rfl ((if0 _ _).trans (teq (b2i_f hc6)).2) k) ?_
        show Go _ _ _ _ (T3.setTop (mkF m 15 #[vR p0, vI p1, vZ fnd, vI i] []))
        refine Go.back (fun t k => XS.iloadN X3.here hx rfl (hb hby d7_15) rfl  k) ?_
        refine Go.back (fun t k => XS.aloadN X3.here hx rfl (hb hby d7_16) rfl rfl  k) ?_
        obtain ⟨T7, X7, e7, st7⟩ := getF X3 hx hZ hown (host := "") (Or.inl (wk hw 12 rfl)) Via.refl e3 H0 (g := (mkF m 17 #[vR p0, vI p1, vZ fnd, vI i] [(.ref p0), (.int i)])) rfl rfl (hb hby d7_17)
        refine Go.back st7 ?_
        show Go _ _ _ _ (T7.setTop (mkF m 20 #[vR p0, vI p1, vZ fnd, vI i] [(.int w), (.int i)]))
        refine Go.back (fun t k => XS.icmpNo X7.here hx rfl (hb hby d7_20) rfl (tlt (own_lb_s hbd)).2.1 k) ?_
        show Go _ _ _ _ (T7.setTop (mkF m 23 #[vR p0, vI p1, vZ fnd, vI i] []))
        refine Go.back (fun t k => XS.aloadN X7.here hx rfl (hb hby d7_23) rfl rfl  k) ?_
        obtain ⟨T8, X8, e8, st8⟩ := getF X7 hx hZ hown (host := "") (Or.inl (wk hw 15 rfl)) Via.refl e7 H1 (g := (mkF m 24 #[vR p0, vI p1, vZ fnd, vI i] [(.ref p0)])) rfl rfl (hb hby d7_24)
        refine Go.back st8 ?_
        refine Go.back (fun t k => XS.iloadN X8.here hx rfl (hb hby d7_27) rfl  k) ?_
        refine Go.back (fun t k => XS.aloadN X8.here hx rfl (hb hby d7_28) rfl rfl  k) ?_
        show Go _ _ _ _ (T8.setTop (mkF m 29 #[vR p0, vI p1, vZ fnd, vI i] [(.ref p0), (.int p1), (.ref ro)]))
        obtain ⟨T9, X9, e9, st9⟩ := getF X8 hx hZ hown (host := "") (Or.inl (wk hw 12 rfl)) Via.refl e8 H0 (g := (mkF m 29 #[vR p0, vI p1, vZ fnd, vI i] [(.ref p0), (.int p1), (.ref ro)])) rfl rfl (hb hby d7_29)
        refine Go.back st9 ?_
        refine Go.back (fun t k => XS.imul X9.here hx rfl (hb hby d7_32) rfl k) ?_
        refine Go.back (fun t k => XS.iloadN X9.here hx rfl (hb hby d7_33) rfl  k) ?_
        refine Go.back (fun t k => XS.iadd X9.here hx rfl (hb hby d7_34) rfl k) ?_
        show Go _ _ _ _ (T9.setTop (mkF m 35 #[vR p0, vI p1, vZ fnd, vI i] [(.int ((p1 * w) + i)), (.ref ro)]))
        obtain ⟨cl10, Ar10, hi10, ha10⟩ := H2.get (j := ((p1 * w) + i)) (own_lb_row hbd hp hq4 hxs).1 (v := (.long (List.getD xs (((p1 * w) + i)).toNatClampNeg (0 : Int64)))) (getJ xs (own_lb_row hbd hp hq4 hxs).2)
        refine Go.back (fun t k => X9.laload hx (j := ((p1 * w) + i)) (v := (.long (List.getD xs (((p1 * w) + i)).toNatClampNeg (0 : Int64)))) (by rw [e9]; exact Ar10.1) (State.isArrayOf_alike hZ.alike Ar10.2.1) Ar10.2.2 hi10 ha10 (g := (mkF m 35 #[vR p0, vI p1, vZ fnd, vI i] [(.int ((p1 * w) + i)), (.ref ro)])) rfl rfl (hb hby d7_35) t k) ?_
        refine Go.back (fun t k => XS.lconst X9.here hx rfl (hb hby d7_36) k) ?_
        show Go _ _ _ _ (T9.setTop (mkF m 37 #[vR p0, vI p1, vZ fnd, vI i] [(.long (0 : Int64)), (.long (List.getD xs (((p1 * w) + i)).toNatClampNeg (0 : Int64)))]))
        refine Go.back (fun t k => XS.lcmp X9.here hx rfl (hb hby d7_37) rfl k) ?_
        show Go _ _ _ _ (T9.setTop (mkF m 38 #[vR p0, vI p1, vZ fnd, vI i] [(.int (lcmpW (List.getD xs (((p1 * w) + i)).toNatClampNeg (0 : Int64)) (0 : Int64)))]))
        have J12 : ∀ (z13 : Bool) (hz13 : z13 = (if (List.getD xs (((p1 * w) + i)).toNatClampNeg (0 : Int64)) = (0 : Int64) then false else true)), Go p.tables e below (P52 Z p0 p1 ro w xs h0 n0 s) (T9.setTop (mkF m 46 #[vR p0, vI p1, vZ fnd, vI i] [(.int (b2i z13))])) := by
          intro z13 hz13
          show Go _ _ _ _ (T9.setTop (mkF m 46 #[vR p0, vI p1, vZ fnd, vI i] [(.int (b2i z13))]))
          refine Go.back (fun t k => XS.istoreN X9.here hx rfl (hb hby d7_46) rfl (l' := #[vR p0, vI p1, vZ z13, vI i]) rfl k) ?_
          refine Go.back (fun t k => XS.iinc X9.here hx rfl (hb hby d7_47) rfl (l' := #[vR p0, vI p1, vZ z13, vI (i + (1 : Int32))]) rfl k) ?_
          refine Go.back (fun t k => XS.goto X9.here hx rfl (pc0 := 50) (pc' := 11) rfl (hb hby d7_50) (by decide) (by decide) k) ?_
          show Go _ _ _ _ (T9.setTop (mkF m 11 #[vR p0, vI p1, vZ z13, vI (i + (1 : Int32))] []))
          exact ih z13 (i + (1 : Int32)) _ _ X9 N3 e9 (own_lb_next hbd) (by rw [hr]; simp only [own_any]; rw [if_neg hc6]; subst hz13; rfl)
        have r14 : (if (List.getD xs (((p1 * w) + i)).toNatClampNeg (0 : Int64)) = (0 : Int64) then false else true) = (if (List.getD xs (((p1 * w) + i)).toNatClampNeg (0 : Int64)) = (0 : Int64) then false else true) := rfl
        by_cases hc11 : (List.getD xs (((p1 * w) + i)).toNatClampNeg (0 : Int64)) = (0 : Int64)
        · have r15 := r14.trans (if_pos hc11)
          refine Go.back (fun t k => XS.ifYes X9.here hx rfl (pc0 := 38) (pc' := 45) rfl (hb hby d7_38) rfl ((if0 _ _).trans (teq ((lw_eq _ _).mpr hc11)).1) (by decide) (by decide) k) ?_
          show Go _ _ _ _ (T9.setTop (mkF m 45 #[vR p0, vI p1, vZ fnd, vI i] []))
          refine Go.back (fun t k => XS.iconst X9.here hx rfl (hb hby d7_45) k) ?_
          show Go _ _ _ _ (T9.setTop (mkF m 46 #[vR p0, vI p1, vZ fnd, vI i] [(.int (0 : Int32))]))
          exact J12 false r15.symm
        · have r16 := r14.trans (if_neg hc11)
          refine Go.back (fun t k => XS.ifNo X9.here hx rfl (hb hby d7_38) rfl ((if0 _ _).trans (feq (fun q => hc11 ((lw_eq _ _).mp q))).1) k) ?_
          show Go _ _ _ _ (T9.setTop (mkF m 41 #[vR p0, vI p1, vZ fnd, vI i] []))
          refine Go.back (fun t k => XS.iconst X9.here hx rfl (hb hby d7_41) k) ?_
          refine Go.back (fun t k => XS.goto X9.here hx rfl (pc0 := 42) (pc' := 46) rfl (hb hby d7_42) (by decide) (by decide) k) ?_
          show Go _ _ _ _ (T9.setTop (mkF m 46 #[vR p0, vI p1, vZ fnd, vI i] [(.int (1 : Int32))]))
          exact J12 true r16.symm
  exact LOOP2 (w).toNatClampNeg false (0 : Int32) _ _ X1 N0 e1 (own_lb0 (own_w4_w hq4)) rfl
theorem d8_10 : decode prog_63_method_4_code 10 = .ok (.aload_n 0, 1) := by decide +kernel
theorem d8_11 : decode prog_63_method_4_code 11 = .ok (.getfield 3, 3) := by decide +kernel
theorem d8_14 : decode prog_63_method_4_code 14 = .ok (.getfield 34, 3) := by decide +kernel
theorem d8_17 : decode prog_63_method_4_code 17 = .ok (.aload_n 0, 1) := by decide +kernel
theorem d8_18 : decode prog_63_method_4_code 18 = .ok (.getfield 31, 3) := by decide +kernel
theorem d8_21 : decode prog_63_method_4_code 21 = .ok (.aload_n 0, 1) := by decide +kernel
theorem d8_22 : decode prog_63_method_4_code 22 = .ok (.getfield 3, 3) := by decide +kernel
theorem d8_25 : decode prog_63_method_4_code 25 = .ok (.getfield 48, 3) := by decide +kernel
theorem d8_28 : decode prog_63_method_4_code 28 = .ok (.imul, 1) := by decide +kernel
theorem d8_29 : decode prog_63_method_4_code 29 = .ok (.iload_n 1, 1) := by decide +kernel
theorem d8_30 : decode prog_63_method_4_code 30 = .ok (.bipush 6, 2) := by decide +kernel
theorem d8_32 : decode prog_63_method_4_code 32 = .ok (.iushr, 1) := by decide +kernel
theorem d8_33 : decode prog_63_method_4_code 33 = .ok (.iadd, 1) := by decide +kernel
theorem d8_34 : decode prog_63_method_4_code 34 = .ok (.dup2, 1) := by decide +kernel
theorem d8_35 : decode prog_63_method_4_code 35 = .ok (.laload, 1) := by decide +kernel
theorem d8_36 : decode prog_63_method_4_code 36 = .ok (.lconst 1, 1) := by decide +kernel
theorem d8_37 : decode prog_63_method_4_code 37 = .ok (.iload_n 1, 1) := by decide +kernel
theorem d8_38 : decode prog_63_method_4_code 38 = .ok (.lshl, 1) := by decide +kernel
theorem d8_39 : decode prog_63_method_4_code 39 = .ok (.lor, 1) := by decide +kernel
theorem d8_40 : decode prog_63_method_4_code 40 = .ok (.lastore, 1) := by decide +kernel
theorem d8_41 : decode prog_63_method_4_code 41 = .ok (.goto 8, 3) := by decide +kernel
def Q53 (Z : State) (p0 : Addr) (p1 : Int32) (rr : Addr) (ro : Addr) (w : Int32) (fi : Int32) (xs : List Int64) (j : Int32) (h0 : Heap) (n0 : Nat) (v : Option Value) (h : Heap) (L : List Loc) : Prop := v = none ∧ Fr n0 L ∧ Keep h0 h [ro] ∧ ArL Z h ro .long (List.map Value.long (List.set xs (j).toNatClampNeg ((List.getD xs (j).toNatClampNeg (0 : Int64)) ||| (((1 : Int64) <<< (p1 &&& 0x3f).toInt64)))))
abbrev rmm53 : Room := { frames := 0, cells := 0, slots := 0, locals := 0 }
abbrev P53 (Z : State) (p0 : Addr) (p1 : Int32) (rr : Addr) (ro : Addr) (w : Int32) (fi : Int32) (xs : List Int64) (j : Int32) (h0 : Heap) (n0 : Nat) (s : State) : Outcome → State → Prop := fun o U' => ∃ v L, o = .returned v ∧ Q53 Z p0 p1 rr ro w fi xs j h0 n0 v U'.heap L ∧ FrameEnd s o U' L rmm53.cells rmm53.slots
theorem pn_53 : plainName "com/example/onward/onward/check/RequirementRows$Part" = true := by first | (simp [plainName, overriddenIn]; done) | decide +kernel
theorem ef_53 (m : MethodId) (p0 : Addr) (p1 : Int32) : entryFrame m #[(.ref p0), (.int p1)] 2 = mkF m 0 #[vR p0, vI p1] [] := by first | (simp [entryFrame, mkF, argsToLocals, Value.category]; done) | rfl
set_option maxRecDepth 65536 in
set_option maxHeartbeats 40000000 in
theorem rm53 (l : Launch) (Z : State) (a0 : Array Value) (hw : ∀ d ∈ tables_1, d.before a0 Z = true) (ws : List Jvm.Cond) (p0 : Addr) (p1 : Int32) (rr : Addr) (ro : Addr) (w : Int32) (fi : Int32) (xs : List Int64) (j : Int32) (h0 : Heap) (n0 : Nat) (Z0 : n0 ≤ h0.size) (H0 : Fld Z h0 p0 cP "this$0" dR (.ref rr)) (H1 : Fld Z h0 p0 cP "filling" "I" (.int fi)) (H2 : Fld Z h0 rr cR "words" "I" (.int w)) (H3 : Fld Z h0 rr cR "rows" "[J" (.ref ro)) (H4 : ArL Z h0 ro .long (List.map Value.long xs)) (H5 : n0 ≤ ro) (H6 : ro ≠ p0) (H7 : ro ≠ rr) (H8 : p0 ≠ rr) (hj : ((fi * w) + (((p1).toUInt32 >>> ((6 : Int32) &&& 31).toUInt32).toInt32)) = j) (hj0 : ¬ j < (0 : Int32)) (hj1 : (j).toNatClampNeg < xs.length) :
    MetFree l (⟨"com/example/onward/onward/check/RequirementRows$Part", "raise", "(I)V"⟩ : MethodName) (head1 (Jvm.Cond.code (⟨"com/example/onward/onward/check/RequirementRows$Part", "raise", "(I)V"⟩ : MethodName) prog_63_method_4_code 2 none :: ws) rmm53) (fun a U => a = #[(.ref p0), (.int p1)] ∧ Z.Warmed39 U.vm ∧ U.heap = h0) (fun _ _ _ _ _ => True) (fun _ U o U' => ∃ v L, o = .returned v ∧ Q53 Z p0 p1 rr ro w fi xs j h0 n0 v U'.heap L ∧ FrameEnd U o U' L rmm53.cells rmm53.slots) := by
  refine MetFree.of_bodySF (plainFor_of_name pn_53) hisR ?_
  intro p e s m args below meth c s₁ Bd hml0 hP hK
  obtain ⟨rfl, hZ, hh⟩ := hP
  have hx := Bd.exec
  have hby := Bd.bytes
  have hml : c.maxLocals = 2 := hml0
  have hown : s.vm.findClass "com/example/onward/onward/check/RequirementRows$Part" = some m.cls := findClass_of_methodNamed Bd.named
  have hnm := (name_of_methodNamed Bd.named Bd.method).1
  have X0 : Stand p l e rmm53 s m #[(.ref p0), (.int p1)] below meth c s₁ [] 0 0 := Stand.of_body Bd
  have e0 : s₁.heap = h0 := by rw [← hh, Bd.state]; rfl
  have N0 := Fr.nil n0
  show Go p.tables e below (P53 Z p0 p1 rr ro w fi xs j h0 n0 s) (s₁.setTop (entryFrame m #[(.ref p0), (.int p1)] 2))
  refine Go.back (fun t k => castTop (ef_53 m p0 p1) k) ?_
  show Go p.tables e below (P53 Z p0 p1 rr ro w fi xs j h0 n0 s) (s₁.setTop (mkF m 0 #[vR p0, vI p1] []))
  refine Go.back (fun t k => XS.aloadN X0.here hx rfl (hb hby d8_0) rfl rfl  k) ?_
  obtain ⟨T1, X1, e1, st1⟩ := getF X0 hx hZ hown (host := "") (Or.inl (wk hw 34 rfl)) Via.refl e0 H0 (g := (mkF m 1 #[vR p0, vI p1] [(.ref p0)])) rfl rfl (hb hby d8_1)
  refine Go.back st1 ?_
  obtain ⟨T2, X2, e2, st2⟩ := getF X1 hx hZ hown (Or.inr (wk hw 49 rfl)) Via.refl e1 H3 (g := (mkF m 4 #[vR p0, vI p1] [(.ref rr)])) rfl rfl (hb hby d8_4)
  refine Go.back st2 ?_
  show Go _ _ _ _ (T2.setTop (mkF m 7 #[vR p0, vI p1] [(.ref ro)]))
  refine Go.back (fun t k => XS.ifnullNo X2.here hx rfl (hb hby d8_7) rfl k) ?_
  show Go _ _ _ _ (T2.setTop (mkF m 10 #[vR p0, vI p1] []))
  refine Go.back (fun t k => XS.aloadN X2.here hx rfl (hb hby d8_10) rfl rfl  k) ?_
  obtain ⟨T3, X3, e3, st3⟩ := getF X2 hx hZ hown (host := "") (Or.inl (wk hw 34 rfl)) Via.refl e2 H0 (g := (mkF m 11 #[vR p0, vI p1] [(.ref p0)])) rfl rfl (hb hby d8_11)
  refine Go.back st3 ?_
  obtain ⟨T4, X4, e4, st4⟩ := getF X3 hx hZ hown (Or.inr (wk hw 49 rfl)) Via.refl e3 H3 (g := (mkF m 14 #[vR p0, vI p1] [(.ref rr)])) rfl rfl (hb hby d8_14)
  refine Go.back st4 ?_
  refine Go.back (fun t k => XS.aloadN X4.here hx rfl (hb hby d8_17) rfl rfl  k) ?_
  show Go _ _ _ _ (T4.setTop (mkF m 18 #[vR p0, vI p1] [(.ref p0), (.ref ro)]))
  obtain ⟨T5, X5, e5, st5⟩ := getF X4 hx hZ hown (host := "") (Or.inl (wk hw 47 rfl)) Via.refl e4 H1 (g := (mkF m 18 #[vR p0, vI p1] [(.ref p0), (.ref ro)])) rfl rfl (hb hby d8_18)
  refine Go.back st5 ?_
  refine Go.back (fun t k => XS.aloadN X5.here hx rfl (hb hby d8_21) rfl rfl  k) ?_
  obtain ⟨T6, X6, e6, st6⟩ := getF X5 hx hZ hown (host := "") (Or.inl (wk hw 34 rfl)) Via.refl e5 H0 (g := (mkF m 22 #[vR p0, vI p1] [(.ref p0), (.int fi), (.ref ro)])) rfl rfl (hb hby d8_22)
  refine Go.back st6 ?_
  obtain ⟨T7, X7, e7, st7⟩ := getF X6 hx hZ hown (Or.inr (wk hw 57 rfl)) Via.refl e6 H2 (g := (mkF m 25 #[vR p0, vI p1] [(.ref rr), (.int fi), (.ref ro)])) rfl rfl (hb hby d8_25)
  refine Go.back st7 ?_
  show Go _ _ _ _ (T7.setTop (mkF m 28 #[vR p0, vI p1] [(.int w), (.int fi), (.ref ro)]))
  refine Go.back (fun t k => XS.imul X7.here hx rfl (hb hby d8_28) rfl k) ?_
  refine Go.back (fun t k => XS.iloadN X7.here hx rfl (hb hby d8_29) rfl  k) ?_
  refine Go.back (fun t k => XS.bipush X7.here hx rfl (hb hby d8_30) k) ?_
  refine Go.back (fun t k => XS.iushr X7.here hx rfl (hb hby d8_32) rfl k) ?_
  show Go _ _ _ _ (T7.setTop (mkF m 33 #[vR p0, vI p1] [(.int (((p1).toUInt32 >>> ((6 : Int32) &&& 31).toUInt32).toInt32)), (.int (fi * w)), (.ref ro)]))
  refine Go.back (fun t k => XS.iadd X7.here hx rfl (hb hby d8_33) rfl k) ?_
  show Go _ _ _ _ (T7.setTop (mkF m 34 #[vR p0, vI p1] [(.int ((fi * w) + (((p1).toUInt32 >>> ((6 : Int32) &&& 31).toUInt32).toInt32))), (.ref ro)]))
  rw [show ((fi * w) + (((p1).toUInt32 >>> ((6 : Int32) &&& 31).toUInt32).toInt32)) = j from hj]
  show Go _ _ _ _ (T7.setTop (mkF m 34 #[vR p0, vI p1] [(.int j), (.ref ro)]))
  refine Go.back (fun t k => Jvm.Free.XT.dup2 X7.here hx rfl (hb hby d8_34) rfl rfl rfl k) ?_
  obtain ⟨cl8, Ar8, hi8, ha8⟩ := H4.get (j := j) hj0 (v := (.long (List.getD xs (j).toNatClampNeg (0 : Int64)))) (getJ xs hj1)
  refine Go.back (fun t k => X7.laload hx (j := j) (v := (.long (List.getD xs (j).toNatClampNeg (0 : Int64)))) (by rw [e7]; exact Ar8.1) (State.isArrayOf_alike hZ.alike Ar8.2.1) Ar8.2.2 hi8 ha8 (g := (mkF m 35 #[vR p0, vI p1] [(.int j), (.ref ro), (.int j), (.ref ro)])) rfl rfl (hb hby d8_35) t k) ?_
  refine Go.back (fun t k => XS.lconst X7.here hx rfl (hb hby d8_36) k) ?_
  refine Go.back (fun t k => XS.iloadN X7.here hx rfl (hb hby d8_37) rfl  k) ?_
  show Go _ _ _ _ (T7.setTop (mkF m 38 #[vR p0, vI p1] [(.int p1), (.long (1 : Int64)), (.long (List.getD xs (j).toNatClampNeg (0 : Int64))), (.int j), (.ref ro)]))
  refine Go.back (fun t k => XS.lshl X7.here hx rfl (hb hby d8_38) rfl k) ?_
  refine Go.back (fun t k => XS.lor X7.here hx rfl (hb hby d8_39) rfl k) ?_
  obtain ⟨cl9, Ar9, hi9, -⟩ := H4.at (j := j) hj0 (by simpa using hj1)
  obtain ⟨T9, h9, X9, e9, W9, st9⟩ := stJ X7 hx hZ e7 Ar9 (j := j) hi9 (g := (mkF m 40 #[vR p0, vI p1] [(.long ((List.getD xs (j).toNatClampNeg (0 : Int64)) ||| (((1 : Int64) <<< (p1 &&& 0x3f).toInt64)))), (.int j), (.ref ro)])) rfl rfl (hb hby d8_40)
  have F10 := H0.other W9 (Or.inl (Ne.symm H6))
  have F11 := H1.other W9 (Or.inl (Ne.symm H6))
  have F12 := H2.other W9 (Or.inl (Ne.symm H7))
  have F13 := H3.other W9 (Or.inl (Ne.symm H7))
  have F14 : ArL Z h9 ro .long (List.map Value.long (List.set xs (j).toNatClampNeg ((List.getD xs (j).toNatClampNeg (0 : Int64)) ||| (((1 : Int64) <<< (p1 &&& 0x3f).toInt64))))) := ArL.setJ (xs := xs) H4 W9
  have F15 := Nat.le_trans Z0 (Keep.of_wr W9).1
  have F16 : Keep h0 h9 [ro] := (Keep.refl h0 [ro]).wr W9 (Or.inl (List.mem_of_getElem? (i := 0) rfl))
  obtain ⟨Lo9, Y9, N9⟩ := pk X9 (Fr.snoc X9 N0 H5)
  refine Go.back st9 ?_
  refine Go.back (fun t k => XS.goto Y9.here hx rfl (pc0 := 41) (pc' := 49) rfl (hb hby d8_41) (by decide) (by decide) k) ?_
  show Go _ _ _ _ (T9.setTop (mkF m 49 #[vR p0, vI p1] []))
  exact Go.retV Y9 hx Bd.returns (hb hby d8_49) Bd.notSynchronized ⟨rfl, N9, (by rw [e9]; exact F16), (by rw [e9]; exact F14)⟩ (by decide) (by decide)
theorem d5_10 : decode prog_63_method_7_code 10 = .ok (.iconst 0, 1) := by decide +kernel
theorem d5_11 : decode prog_63_method_7_code 11 = .ok (.istore_n 1, 1) := by decide +kernel
theorem d5_12 : decode prog_63_method_7_code 12 = .ok (.iload_n 1, 1) := by decide +kernel
theorem d5_13 : decode prog_63_method_7_code 13 = .ok (.aload_n 0, 1) := by decide +kernel
theorem d5_14 : decode prog_63_method_7_code 14 = .ok (.getfield 3, 3) := by decide +kernel
theorem d5_17 : decode prog_63_method_7_code 17 = .ok (.getfield 48, 3) := by decide +kernel
theorem d5_20 : decode prog_63_method_7_code 20 = .ok (.if_icmp .ge 40, 3) := by decide +kernel
theorem d5_23 : decode prog_63_method_7_code 23 = .ok (.aload_n 0, 1) := by decide +kernel
theorem d5_24 : decode prog_63_method_7_code 24 = .ok (.getfield 19, 3) := by decide +kernel
theorem d5_27 : decode prog_63_method_7_code 27 = .ok (.iload_n 1, 1) := by decide +kernel
theorem d5_28 : decode prog_63_method_7_code 28 = .ok (.dup2, 1) := by decide +kernel
theorem d5_29 : decode prog_63_method_7_code 29 = .ok (.laload, 1) := by decide +kernel
theorem d5_30 : decode prog_63_method_7_code 30 = .ok (.aload_n 0, 1) := by decide +kernel
theorem d5_31 : decode prog_63_method_7_code 31 = .ok (.getfield 3, 3) := by decide +kernel
theorem d5_34 : decode prog_63_method_7_code 34 = .ok (.getfield 34, 3) := by decide +kernel
theorem d5_37 : decode prog_63_method_7_code 37 = .ok (.aload_n 0, 1) := by decide +kernel
theorem d5_38 : decode prog_63_method_7_code 38 = .ok (.getfield 31, 3) := by decide +kernel
theorem d5_41 : decode prog_63_method_7_code 41 = .ok (.aload_n 0, 1) := by decide +kernel
theorem d5_42 : decode prog_63_method_7_code 42 = .ok (.getfield 3, 3) := by decide +kernel
theorem d5_45 : decode prog_63_method_7_code 45 = .ok (.getfield 48, 3) := by decide +kernel
theorem d5_48 : decode prog_63_method_7_code 48 = .ok (.imul, 1) := by decide +kernel
theorem d5_49 : decode prog_63_method_7_code 49 = .ok (.iload_n 1, 1) := by decide +kernel
theorem d5_50 : decode prog_63_method_7_code 50 = .ok (.iadd, 1) := by decide +kernel
theorem d5_51 : decode prog_63_method_7_code 51 = .ok (.laload, 1) := by decide +kernel
theorem d5_52 : decode prog_63_method_7_code 52 = .ok (.lor, 1) := by decide +kernel
theorem d5_53 : decode prog_63_method_7_code 53 = .ok (.lastore, 1) := by decide +kernel
theorem d5_54 : decode prog_63_method_7_code 54 = .ok (.iinc 1 1, 3) := by decide +kernel
theorem d5_57 : decode prog_63_method_7_code 57 = .ok (.goto (-45), 3) := by decide +kernel
theorem d5_60 : decode prog_63_method_7_code 60 = .ok (.goto 7, 3) := by decide +kernel
def Q54 (Z : State) (p0 : Addr) (rr : Addr) (ro : Addr) (w : Int32) (an : Addr) (cu : Addr) (xs : List Int64) (ys : List Int64) (h0 : Heap) (n0 : Nat) (v : Option Value) (h : Heap) (L : List Loc) : Prop := v = none ∧ Fr n0 L ∧ Keep h0 h [p0, an] ∧ Fld Z h p0 cP "this$0" dR (.ref rr) ∧ Fld Z h p0 cP "anywhere" "[J" (.ref an) ∧ Fld Z h p0 cP "current" "[I" (.ref cu) ∧ Fld Z h p0 cP "first" "I" (.int (0 : Int32)) ∧ Fld Z h p0 cP "end" "I" (.int (2 : Int32)) ∧ Fld Z h p0 cP "filling" "I" (.int (1 : Int32)) ∧ Fld Z h p0 cP "listed" dI .null ∧ Fld Z h p0 cP "currentCount" "I" (.int (0 : Int32)) ∧ (∃ G : List Int64, G.length = ys.length ∧ ArL Z h an .long (List.map Value.long G))
abbrev rmm54 : Room := { frames := 0, cells := 0, slots := 0, locals := 0 }
abbrev P54 (Z : State) (p0 : Addr) (rr : Addr) (ro : Addr) (w : Int32) (an : Addr) (cu : Addr) (xs : List Int64) (ys : List Int64) (h0 : Heap) (n0 : Nat) (s : State) : Outcome → State → Prop := fun o U' => ∃ v L, o = .returned v ∧ Q54 Z p0 rr ro w an cu xs ys h0 n0 v U'.heap L ∧ FrameEnd s o U' L rmm54.cells rmm54.slots
theorem pn_54 : plainName "com/example/onward/onward/check/RequirementRows$Part" = true := by first | (simp [plainName, overriddenIn]; done) | decide +kernel
theorem ef_54 (m : MethodId) (p0 : Addr) : entryFrame m #[(.ref p0)] 2 = mkF m 0 #[vR p0, uS] [] := by first | (simp [entryFrame, mkF, argsToLocals, Value.category]; done) | rfl
set_option maxRecDepth 65536 in
set_option maxHeartbeats 40000000 in
theorem rm54 (l : Launch) (Z : State) (a0 : Array Value) (hw : ∀ d ∈ tables_1, d.before a0 Z = true) (ws : List Jvm.Cond) (p0 : Addr) (rr : Addr) (ro : Addr) (w : Int32) (an : Addr) (cu : Addr) (xs : List Int64) (ys : List Int64) (h0 : Heap) (n0 : Nat) (Z0 : n0 ≤ h0.size) (H0 : Exa Z h0 p0 cP) (H1 : Fld Z h0 p0 cP "this$0" dR (.ref rr)) (H2 : Fld Z h0 p0 cP "anywhere" "[J" (.ref an)) (H3 : Fld Z h0 p0 cP "current" "[I" (.ref cu)) (H4 : Fld Z h0 p0 cP "first" "I" (.int (0 : Int32))) (H5 : Fld Z h0 p0 cP "end" "I" (.int (2 : Int32))) (H6 : Fld Z h0 p0 cP "filling" "I" (.int (0 : Int32))) (H7 : Fld Z h0 p0 cP "listed" dI .null) (H8 : Fld Z h0 p0 cP "currentCount" "I" (.int (0 : Int32))) (H9 : Fld Z h0 rr cR "words" "I" (.int w)) (H10 : Fld Z h0 rr cR "rows" "[J" (.ref ro)) (H11 : ArL Z h0 ro .long (List.map Value.long xs)) (H12 : ArL Z h0 an .long (List.map Value.long ys)) (H13 : n0 ≤ p0) (H14 : n0 ≤ an) (H15 : p0 ≠ an) (H16 : p0 ≠ ro) (H17 : p0 ≠ rr) (H18 : an ≠ ro) (H19 : an ≠ rr) (H20 : ro ≠ rr) (hq4 : own_w4 w) (hxs : (xs.length : Int) = 2 * w.toInt) (hys : (ys.length : Int) = w.toInt) :
    MetFree l (⟨"com/example/onward/onward/check/RequirementRows$Part", "endState", "()V"⟩ : MethodName) (head1 (Jvm.Cond.code (⟨"com/example/onward/onward/check/RequirementRows$Part", "endState", "()V"⟩ : MethodName) prog_63_method_7_code 2 none :: ws) rmm54) (fun a U => a = #[(.ref p0)] ∧ Z.Warmed39 U.vm ∧ U.heap = h0) (fun _ _ _ _ _ => True) (fun _ U o U' => ∃ v L, o = .returned v ∧ Q54 Z p0 rr ro w an cu xs ys h0 n0 v U'.heap L ∧ FrameEnd U o U' L rmm54.cells rmm54.slots) := by
  refine MetFree.of_bodySF (plainFor_of_name pn_54) hisR ?_
  intro p e s m args below meth c s₁ Bd hml0 hP hK
  obtain ⟨rfl, hZ, hh⟩ := hP
  have hx := Bd.exec
  have hby := Bd.bytes
  have hml : c.maxLocals = 2 := hml0
  have hown : s.vm.findClass "com/example/onward/onward/check/RequirementRows$Part" = some m.cls := findClass_of_methodNamed Bd.named
  have hnm := (name_of_methodNamed Bd.named Bd.method).1
  have X0 : Stand p l e rmm54 s m #[(.ref p0)] below meth c s₁ [] 0 0 := Stand.of_body Bd
  have e0 : s₁.heap = h0 := by rw [← hh, Bd.state]; rfl
  have N0 := Fr.nil n0
  show Go p.tables e below (P54 Z p0 rr ro w an cu xs ys h0 n0 s) (s₁.setTop (entryFrame m #[(.ref p0)] 2))
  refine Go.back (fun t k => castTop (ef_54 m p0) k) ?_
  show Go p.tables e below (P54 Z p0 rr ro w an cu xs ys h0 n0 s) (s₁.setTop (mkF m 0 #[vR p0, uS] []))
  refine Go.back (fun t k => XS.aloadN X0.here hx rfl (hb hby d5_0) rfl rfl  k) ?_
  obtain ⟨T1, X1, e1, st1⟩ := getF X0 hx hZ hown (host := "") (Or.inl (wk hw 34 rfl)) Via.refl e0 H1 (g := (mkF m 1 #[vR p0, uS] [(.ref p0)])) rfl rfl (hb hby d5_1)
  refine Go.back st1 ?_
  obtain ⟨T2, X2, e2, st2⟩ := getF X1 hx hZ hown (Or.inr (wk hw 49 rfl)) Via.refl e1 H10 (g := (mkF m 4 #[vR p0, uS] [(.ref rr)])) rfl rfl (hb hby d5_4)
  refine Go.back st2 ?_
  show Go _ _ _ _ (T2.setTop (mkF m 7 #[vR p0, uS] [(.ref ro)]))
  refine Go.back (fun t k => XS.ifnullNo X2.here hx rfl (hb hby d5_7) rfl k) ?_
  show Go _ _ _ _ (T2.setTop (mkF m 10 #[vR p0, uS] []))
  refine Go.back (fun t k => XS.iconst X2.here hx rfl (hb hby d5_10) k) ?_
  refine Go.back (fun t k => XS.istoreN X2.here hx rfl (hb hby d5_11) rfl (l' := #[vR p0, vI (0 : Int32)]) rfl k) ?_
  show Go _ _ _ _ (T2.setTop (mkF m 12 #[vR p0, vI (0 : Int32)] []))
  have LOOP3 : ∀ (n : Nat) (i : Int32) (G : List Int64) (T4 : State) (L4 : List Loc) (X4 : Stand p l e rmm54 s m #[(.ref p0)] below meth c T4 L4 0 0) (N4 : Fr n0 L4) (h4 : Heap) (e4 : T4.heap = h4) (F5 : Exa Z h4 p0 cP) (F6 : Fld Z h4 p0 cP "this$0" dR (.ref rr)) (F7 : Fld Z h4 p0 cP "anywhere" "[J" (.ref an)) (F8 : Fld Z h4 p0 cP "current" "[I" (.ref cu)) (F9 : Fld Z h4 p0 cP "first" "I" (.int (0 : Int32))) (F10 : Fld Z h4 p0 cP "end" "I" (.int (2 : Int32))) (F11 : Fld Z h4 p0 cP "filling" "I" (.int (0 : Int32))) (F12 : Fld Z h4 p0 cP "listed" dI .null) (F13 : Fld Z h4 p0 cP "currentCount" "I" (.int (0 : Int32))) (F14 : Fld Z h4 rr cR "words" "I" (.int w)) (F15 : Fld Z h4 rr cR "rows" "[J" (.ref ro)) (F16 : ArL Z h4 ro .long (List.map Value.long xs)) (F17 : ArL Z h4 an .long (List.map Value.long G)) (F18 : n0 ≤ h4.size) (F19 : Keep h0 h4 [p0, an]) (hbd : own_lb n i w) (hG : G.length = ys.length), Go p.tables e below (P54 Z p0 rr ro w an cu xs ys h0 n0 s) (T4.setTop (mkF m 12 #[vR p0, vI i] [])) := by
    intro n
    induction n with
    | zero =>
      intro i G T4 L4 X4 N4 h4 e4 F5 F6 F7 F8 F9 F10 F11 F12 F13 F14 F15 F16 F17 F18 F19 hbd hG
      show Go _ _ _ _ (T4.setTop (mkF m 12 #[vR p0, vI i] []))
      refine Go.back (fun t k => XS.iloadN X4.here hx rfl (hb hby d5_12) rfl  k) ?_
      refine Go.back (fun t k => XS.aloadN X4.here hx rfl (hb hby d5_13) rfl rfl  k) ?_
      obtain ⟨T20, X20, e20, st20⟩ := getF X4 hx hZ hown (host := "") (Or.inl (wk hw 34 rfl)) Via.refl e4 F6 (g := (mkF m 14 #[vR p0, vI i] [(.ref p0), (.int i)])) rfl rfl (hb hby d5_14)
      refine Go.back st20 ?_
      obtain ⟨T21, X21, e21, st21⟩ := getF X20 hx hZ hown (Or.inr (wk hw 57 rfl)) Via.refl e20 F14 (g := (mkF m 17 #[vR p0, vI i] [(.ref rr), (.int i)])) rfl rfl (hb hby d5_17)
      refine Go.back st21 ?_
      show Go _ _ _ _ (T21.setTop (mkF m 20 #[vR p0, vI i] [(.int w), (.int i)]))
      refine Go.back (fun t k => XS.icmpYes X21.here hx rfl (pc0 := 20) (pc' := 60) rfl (hb hby d5_20) rfl (flt (own_lb_z hbd)).2.1 (by decide) (by decide) k) ?_
      show Go _ _ _ _ (T21.setTop (mkF m 60 #[vR p0, vI i] []))
      refine Go.back (fun t k => XS.goto X21.here hx rfl (pc0 := 60) (pc' := 67) rfl (hb hby d5_60) (by decide) (by decide) k) ?_
      refine Go.back (fun t k => XS.aloadN X21.here hx rfl (hb hby d5_67) rfl rfl  k) ?_
      refine Go.back (fun t k => XS.dup X21.here hx rfl (hb hby d5_68) rfl rfl k) ?_
      obtain ⟨T22, X22, e22, st22⟩ := getF X21 hx hZ hown (host := "") (Or.inl (wk hw 47 rfl)) Via.refl e21 F11 (g := (mkF m 69 #[vR p0, vI i] [(.ref p0), (.ref p0)])) rfl rfl (hb hby d5_69)
      refine Go.back st22 ?_
      show Go _ _ _ _ (T22.setTop (mkF m 72 #[vR p0, vI i] [(.int (0 : Int32)), (.ref p0)]))
      refine Go.back (fun t k => XS.iconst X22.here hx rfl (hb hby d5_72) k) ?_
      refine Go.back (fun t k => XS.iadd X22.here hx rfl (hb hby d5_73) rfl k) ?_
      show Go _ _ _ _ (T22.setTop (mkF m 74 #[vR p0, vI i] [(.int ((0 : Int32) + (1 : Int32))), (.ref p0)]))
      rw [show ((0 : Int32) + (1 : Int32)) = (1 : Int32) from by decide]
      show Go _ _ _ _ (T22.setTop (mkF m 74 #[vR p0, vI i] [(.int (1 : Int32)), (.ref p0)]))
      obtain ⟨T23, h23, X23, e23, W23, st23⟩ := putF X22 hx hZ hown (host := "") (Or.inl (wk hw 47 rfl)) Via.refl e22 F11 F5 (Or.inl (wk hw 48 rfl)) (wk hw 29 rfl) (ty := .int) (by decide) rfl rfl (g := (mkF m 74 #[vR p0, vI i] [(.int (1 : Int32)), (.ref p0)])) rfl rfl (hb hby d5_74)
      have F24 := F5.wr W23
      have F25 := F6.other W23 (Or.inr (slot_ne (Or.inr (wk hw 35 rfl)) (Or.inl (wk hw 48 rfl)) (by decide) (t := (.object "com/example/onward/onward/check/RequirementRows")) (t' := .int) (by decide) (by decide)))
      have F26 := F7.other W23 (Or.inr (slot_ne (Or.inr (wk hw 39 rfl)) (Or.inl (wk hw 48 rfl)) (by decide) (t := (.array .long)) (t' := .int) (by decide) (by decide)))
      have F27 := F8.other W23 (Or.inr (slot_ne (Or.inl (wk hw 42 rfl)) (Or.inl (wk hw 48 rfl)) (by decide) (t := (.array .int)) (t' := .int) (by decide) (by decide)))
      have F28 := F9.other W23 (Or.inr (slot_ne (Or.inr (wk hw 44 rfl)) (Or.inl (wk hw 48 rfl)) (by decide) (t := .int) (t' := .int) (by decide) (by decide)))
      have F29 := F10.other W23 (Or.inr (slot_ne (Or.inr (wk hw 46 rfl)) (Or.inl (wk hw 48 rfl)) (by decide) (t := .int) (t' := .int) (by decide) (by decide)))
      have F30 : Fld Z h23 p0 cP "filling" "I" (.int (1 : Int32)) := F11.same W23
      have F31 := F12.other W23 (Or.inr (slot_ne (Or.inr (wk hw 51 rfl)) (Or.inl (wk hw 48 rfl)) (by decide) (t := (.object "com/example/onward/onward/lts/IntBlocks")) (t' := .int) (by decide) (by decide)))
      have F32 := F13.other W23 (Or.inr (slot_ne (Or.inl (wk hw 110 rfl)) (Or.inl (wk hw 48 rfl)) (by decide) (t := .int) (t' := .int) (by decide) (by decide)))
      have F33 := F14.other W23 (Or.inl (Ne.symm H17))
      have F34 := F15.other W23 (Or.inl (Ne.symm H17))
      have F35 := F16.other W23 (Ne.symm H16)
      have F36 := F17.other W23 (Ne.symm H15)
      have F37 := Nat.le_trans F18 (Keep.of_wr W23).1
      have F38 := F19.wr W23 (Or.inl (List.mem_of_getElem? (i := 0) rfl))
      obtain ⟨Lo23, Y23, N23⟩ := pk X23 (Fr.snoc X23 N4 H13)
      refine Go.back st23 ?_
      show Go _ _ _ _ (T23.setTop (mkF m 77 #[vR p0, vI i] []))
      exact Go.retV Y23 hx Bd.returns (hb hby d5_77) Bd.notSynchronized ⟨rfl, N23, (by rw [e23]; exact F38), (by rw [e23]; exact F25), (by rw [e23]; exact F26), (by rw [e23]; exact F27), (by rw [e23]; exact F28), (by rw [e23]; exact F29), (by rw [e23]; exact F30), (by rw [e23]; exact F31), (by rw [e23]; exact F32), ⟨G, hG, by rw [e23]; exact F36⟩⟩ (by decide) (by decide)
    | succ n ih =>
      intro i G T4 L4 X4 N4 h4 e4 F5 F6 F7 F8 F9 F10 F11 F12 F13 F14 F15 F16 F17 F18 F19 hbd hG
      show Go _ _ _ _ (T4.setTop (mkF m 12 #[vR p0, vI i] []))
      refine Go.back (fun t k => XS.iloadN X4.here hx rfl (hb hby d5_12) rfl  k) ?_
      refine Go.back (fun t k => XS.aloadN X4.here hx rfl (hb hby d5_13) rfl rfl  k) ?_
      obtain ⟨T39, X39, e39, st39⟩ := getF X4 hx hZ hown (host := "") (Or.inl (wk hw 34 rfl)) Via.refl e4 F6 (g := (mkF m 14 #[vR p0, vI i] [(.ref p0), (.int i)])) rfl rfl (hb hby d5_14)
      refine Go.back st39 ?_
      obtain ⟨T40, X40, e40, st40⟩ := getF X39 hx hZ hown (Or.inr (wk hw 57 rfl)) Via.refl e39 F14 (g := (mkF m 17 #[vR p0, vI i] [(.ref rr), (.int i)])) rfl rfl (hb hby d5_17)
      refine Go.back st40 ?_
      show Go _ _ _ _ (T40.setTop (mkF m 20 #[vR p0, vI i] [(.int w), (.int i)]))
      refine Go.back (fun t k => XS.icmpNo X40.here hx rfl (hb hby d5_20) rfl (tlt (own_lb_s hbd)).2.1 k) ?_
      show Go _ _ _ _ (T40.setTop (mkF m 23 #[vR p0, vI i] []))
      refine Go.back (fun t k => XS.aloadN X40.here hx rfl (hb hby d5_23) rfl rfl  k) ?_
      obtain ⟨T41, X41, e41, st41⟩ := getF X40 hx hZ hown (host := "") (Or.inl (wk hw 38 rfl)) Via.refl e40 F7 (g := (mkF m 24 #[vR p0, vI i] [(.ref p0)])) rfl rfl (hb hby d5_24)
      refine Go.back st41 ?_
      refine Go.back (fun t k => XS.iloadN X41.here hx rfl (hb hby d5_27) rfl  k) ?_
      refine Go.back (fun t k => Jvm.Free.XT.dup2 X41.here hx rfl (hb hby d5_28) rfl rfl rfl k) ?_
      show Go _ _ _ _ (T41.setTop (mkF m 29 #[vR p0, vI i] [(.int i), (.ref an), (.int i), (.ref an)]))
      obtain ⟨cl42, Ar42, hi42, ha42⟩ := F17.get (j := i) (own_lb_nn hbd) (v := (.long (List.getD G (i).toNatClampNeg (0 : Int64)))) (getJ G (own_lb_in hbd (own_lenE hG hys)))
      refine Go.back (fun t k => X41.laload hx (j := i) (v := (.long (List.getD G (i).toNatClampNeg (0 : Int64)))) (by rw [e41]; exact Ar42.1) (State.isArrayOf_alike hZ.alike Ar42.2.1) Ar42.2.2 hi42 ha42 (g := (mkF m 29 #[vR p0, vI i] [(.int i), (.ref an), (.int i), (.ref an)])) rfl rfl (hb hby d5_29) t k) ?_
      refine Go.back (fun t k => XS.aloadN X41.here hx rfl (hb hby d5_30) rfl rfl  k) ?_
      obtain ⟨T43, X43, e43, st43⟩ := getF X41 hx hZ hown (host := "") (Or.inl (wk hw 34 rfl)) Via.refl e41 F6 (g := (mkF m 31 #[vR p0, vI i] [(.ref p0), (.long (List.getD G (i).toNatClampNeg (0 : Int64))), (.int i), (.ref an)])) rfl rfl (hb hby d5_31)
      refine Go.back st43 ?_
      obtain ⟨T44, X44, e44, st44⟩ := getF X43 hx hZ hown (Or.inr (wk hw 49 rfl)) Via.refl e43 F15 (g := (mkF m 34 #[vR p0, vI i] [(.ref rr), (.long (List.getD G (i).toNatClampNeg (0 : Int64))), (.int i), (.ref an)])) rfl rfl (hb hby d5_34)
      refine Go.back st44 ?_
      show Go _ _ _ _ (T44.setTop (mkF m 37 #[vR p0, vI i] [(.ref ro), (.long (List.getD G (i).toNatClampNeg (0 : Int64))), (.int i), (.ref an)]))
      refine Go.back (fun t k => XS.aloadN X44.here hx rfl (hb hby d5_37) rfl rfl  k) ?_
      obtain ⟨T45, X45, e45, st45⟩ := getF X44 hx hZ hown (host := "") (Or.inl (wk hw 47 rfl)) Via.refl e44 F11 (g := (mkF m 38 #[vR p0, vI i] [(.ref p0), (.ref ro), (.long (List.getD G (i).toNatClampNeg (0 : Int64))), (.int i), (.ref an)])) rfl rfl (hb hby d5_38)
      refine Go.back st45 ?_
      refine Go.back (fun t k => XS.aloadN X45.here hx rfl (hb hby d5_41) rfl rfl  k) ?_
      obtain ⟨T46, X46, e46, st46⟩ := getF X45 hx hZ hown (host := "") (Or.inl (wk hw 34 rfl)) Via.refl e45 F6 (g := (mkF m 42 #[vR p0, vI i] [(.ref p0), (.int (0 : Int32)), (.ref ro), (.long (List.getD G (i).toNatClampNeg (0 : Int64))), (.int i), (.ref an)])) rfl rfl (hb hby d5_42)
      refine Go.back st46 ?_
      show Go _ _ _ _ (T46.setTop (mkF m 45 #[vR p0, vI i] [(.ref rr), (.int (0 : Int32)), (.ref ro), (.long (List.getD G (i).toNatClampNeg (0 : Int64))), (.int i), (.ref an)]))
      obtain ⟨T47, X47, e47, st47⟩ := getF X46 hx hZ hown (Or.inr (wk hw 57 rfl)) Via.refl e46 F14 (g := (mkF m 45 #[vR p0, vI i] [(.ref rr), (.int (0 : Int32)), (.ref ro), (.long (List.getD G (i).toNatClampNeg (0 : Int64))), (.int i), (.ref an)])) rfl rfl (hb hby d5_45)
      refine Go.back st47 ?_
      refine Go.back (fun t k => XS.imul X47.here hx rfl (hb hby d5_48) rfl k) ?_
      refine Go.back (fun t k => XS.iloadN X47.here hx rfl (hb hby d5_49) rfl  k) ?_
      refine Go.back (fun t k => XS.iadd X47.here hx rfl (hb hby d5_50) rfl k) ?_
      show Go _ _ _ _ (T47.setTop (mkF m 51 #[vR p0, vI i] [(.int (((0 : Int32) * w) + i)), (.ref ro), (.long (List.getD G (i).toNatClampNeg (0 : Int64))), (.int i), (.ref an)]))
      obtain ⟨cl48, Ar48, hi48, ha48⟩ := F16.get (j := (((0 : Int32) * w) + i)) (own_lb_row hbd (Or.inl rfl) hq4 hxs).1 (v := (.long (List.getD xs ((((0 : Int32) * w) + i)).toNatClampNeg (0 : Int64)))) (getJ xs (own_lb_row hbd (Or.inl rfl) hq4 hxs).2)
      refine Go.back (fun t k => X47.laload hx (j := (((0 : Int32) * w) + i)) (v := (.long (List.getD xs ((((0 : Int32) * w) + i)).toNatClampNeg (0 : Int64)))) (by rw [e47]; exact Ar48.1) (State.isArrayOf_alike hZ.alike Ar48.2.1) Ar48.2.2 hi48 ha48 (g := (mkF m 51 #[vR p0, vI i] [(.int (((0 : Int32) * w) + i)), (.ref ro), (.long (List.getD G (i).toNatClampNeg (0 : Int64))), (.int i), (.ref an)])) rfl rfl (hb hby d5_51) t k) ?_
      refine Go.back (fun t k => XS.lor X47.here hx rfl (hb hby d5_52) rfl k) ?_
      obtain ⟨cl49, Ar49, hi49, -⟩ := F17.at (j := i) (own_lb_nn hbd) (by simpa using (own_lb_in hbd (own_lenE hG hys)))
      obtain ⟨T49, h49, X49, e49, W49, st49⟩ := stJ X47 hx hZ e47 Ar49 (j := i) hi49 (g := (mkF m 53 #[vR p0, vI i] [(.long ((List.getD G (i).toNatClampNeg (0 : Int64)) ||| (List.getD xs ((((0 : Int32) * w) + i)).toNatClampNeg (0 : Int64)))), (.int i), (.ref an)])) rfl rfl (hb hby d5_53)
      have F50 := F5.wr W49
      have F51 := F6.other W49 (Or.inl H15)
      have F52 := F7.other W49 (Or.inl H15)
      have F53 := F8.other W49 (Or.inl H15)
      have F54 := F9.other W49 (Or.inl H15)
      have F55 := F10.other W49 (Or.inl H15)
      have F56 := F11.other W49 (Or.inl H15)
      have F57 := F12.other W49 (Or.inl H15)
      have F58 := F13.other W49 (Or.inl H15)
      have F59 := F14.other W49 (Or.inl (Ne.symm H19))
      have F60 := F15.other W49 (Or.inl (Ne.symm H19))
      have F61 := F16.other W49 (Ne.symm H18)
      have F62 : ArL Z h49 an .long (List.map Value.long (List.set G (i).toNatClampNeg ((List.getD G (i).toNatClampNeg (0 : Int64)) ||| (List.getD xs ((((0 : Int32) * w) + i)).toNatClampNeg (0 : Int64))))) := ArL.setJ (xs := G) F17 W49
      have F63 := Nat.le_trans F18 (Keep.of_wr W49).1
      have F64 := F19.wr W49 (Or.inl (List.mem_of_getElem? (i := 1) rfl))
      obtain ⟨Lo49, Y49, N49⟩ := pk X49 (Fr.snoc X49 N4 H14)
      refine Go.back st49 ?_
      refine Go.back (fun t k => XS.iinc Y49.here hx rfl (hb hby d5_54) rfl (l' := #[vR p0, vI (i + (1 : Int32))]) rfl k) ?_
      show Go _ _ _ _ (T49.setTop (mkF m 57 #[vR p0, vI (i + (1 : Int32))] []))
      refine Go.back (fun t k => XS.goto Y49.here hx rfl (pc0 := 57) (pc' := 12) rfl (hb hby d5_57) (by decide) (by decide) k) ?_
      show Go _ _ _ _ (T49.setTop (mkF m 12 #[vR p0, vI (i + (1 : Int32))] []))
      exact ih (i + (1 : Int32)) (List.set G (i).toNatClampNeg ((List.getD G (i).toNatClampNeg (0 : Int64)) ||| (List.getD xs ((((0 : Int32) * w) + i)).toNatClampNeg (0 : Int64)))) _ _ Y49 N49 h49 e49 F50 F51 F52 F53 F54 F55 F56 F57 F58 F59 F60 F61 F62 F63 F64 (own_lb_next hbd) (by simp [hG])
  exact LOOP3 (w).toNatClampNeg (0 : Int32) ys _ _ X2 N0 h0 e2 H0 H1 H2 H3 H4 H5 H6 H7 H8 H9 H10 H11 H12 Z0 (Keep.refl h0 [p0, an]) (own_lb0 (own_w4_w hq4)) rfl
def Q55 (Z : State) (p0 : Addr) (rr : Addr) (ro : Addr) (w : Int32) (an : Addr) (cu : Addr) (xs : List Int64) (ys : List Int64) (h0 : Heap) (n0 : Nat) (v : Option Value) (h : Heap) (L : List Loc) : Prop := v = none ∧ Fr n0 L ∧ Keep h0 h [p0, an] ∧ Fld Z h p0 cP "this$0" dR (.ref rr) ∧ Fld Z h p0 cP "anywhere" "[J" (.ref an) ∧ Fld Z h p0 cP "current" "[I" (.ref cu) ∧ Fld Z h p0 cP "first" "I" (.int (0 : Int32)) ∧ Fld Z h p0 cP "end" "I" (.int (2 : Int32)) ∧ Fld Z h p0 cP "filling" "I" (.int (2 : Int32)) ∧ Fld Z h p0 cP "listed" dI .null ∧ Fld Z h p0 cP "currentCount" "I" (.int (0 : Int32)) ∧ (∃ G : List Int64, G.length = ys.length ∧ ArL Z h an .long (List.map Value.long G))
abbrev rmm55 : Room := { frames := 0, cells := 0, slots := 0, locals := 0 }
abbrev P55 (Z : State) (p0 : Addr) (rr : Addr) (ro : Addr) (w : Int32) (an : Addr) (cu : Addr) (xs : List Int64) (ys : List Int64) (h0 : Heap) (n0 : Nat) (s : State) : Outcome → State → Prop := fun o U' => ∃ v L, o = .returned v ∧ Q55 Z p0 rr ro w an cu xs ys h0 n0 v U'.heap L ∧ FrameEnd s o U' L rmm55.cells rmm55.slots
theorem pn_55 : plainName "com/example/onward/onward/check/RequirementRows$Part" = true := by first | (simp [plainName, overriddenIn]; done) | decide +kernel
theorem ef_55 (m : MethodId) (p0 : Addr) : entryFrame m #[(.ref p0)] 2 = mkF m 0 #[vR p0, uS] [] := by first | (simp [entryFrame, mkF, argsToLocals, Value.category]; done) | rfl
set_option maxRecDepth 65536 in
set_option maxHeartbeats 40000000 in
theorem rm55 (l : Launch) (Z : State) (a0 : Array Value) (hw : ∀ d ∈ tables_1, d.before a0 Z = true) (ws : List Jvm.Cond) (p0 : Addr) (rr : Addr) (ro : Addr) (w : Int32) (an : Addr) (cu : Addr) (xs : List Int64) (ys : List Int64) (h0 : Heap) (n0 : Nat) (Z0 : n0 ≤ h0.size) (H0 : Exa Z h0 p0 cP) (H1 : Fld Z h0 p0 cP "this$0" dR (.ref rr)) (H2 : Fld Z h0 p0 cP "anywhere" "[J" (.ref an)) (H3 : Fld Z h0 p0 cP "current" "[I" (.ref cu)) (H4 : Fld Z h0 p0 cP "first" "I" (.int (0 : Int32))) (H5 : Fld Z h0 p0 cP "end" "I" (.int (2 : Int32))) (H6 : Fld Z h0 p0 cP "filling" "I" (.int (1 : Int32))) (H7 : Fld Z h0 p0 cP "listed" dI .null) (H8 : Fld Z h0 p0 cP "currentCount" "I" (.int (0 : Int32))) (H9 : Fld Z h0 rr cR "words" "I" (.int w)) (H10 : Fld Z h0 rr cR "rows" "[J" (.ref ro)) (H11 : ArL Z h0 ro .long (List.map Value.long xs)) (H12 : ArL Z h0 an .long (List.map Value.long ys)) (H13 : n0 ≤ p0) (H14 : n0 ≤ an) (H15 : p0 ≠ an) (H16 : p0 ≠ ro) (H17 : p0 ≠ rr) (H18 : an ≠ ro) (H19 : an ≠ rr) (H20 : ro ≠ rr) (hq4 : own_w4 w) (hxs : (xs.length : Int) = 2 * w.toInt) (hys : (ys.length : Int) = w.toInt) :
    MetFree l (⟨"com/example/onward/onward/check/RequirementRows$Part", "endState", "()V"⟩ : MethodName) (head1 (Jvm.Cond.code (⟨"com/example/onward/onward/check/RequirementRows$Part", "endState", "()V"⟩ : MethodName) prog_63_method_7_code 2 none :: ws) rmm55) (fun a U => a = #[(.ref p0)] ∧ Z.Warmed39 U.vm ∧ U.heap = h0) (fun _ _ _ _ _ => True) (fun _ U o U' => ∃ v L, o = .returned v ∧ Q55 Z p0 rr ro w an cu xs ys h0 n0 v U'.heap L ∧ FrameEnd U o U' L rmm55.cells rmm55.slots) := by
  refine MetFree.of_bodySF (plainFor_of_name pn_55) hisR ?_
  intro p e s m args below meth c s₁ Bd hml0 hP hK
  obtain ⟨rfl, hZ, hh⟩ := hP
  have hx := Bd.exec
  have hby := Bd.bytes
  have hml : c.maxLocals = 2 := hml0
  have hown : s.vm.findClass "com/example/onward/onward/check/RequirementRows$Part" = some m.cls := findClass_of_methodNamed Bd.named
  have hnm := (name_of_methodNamed Bd.named Bd.method).1
  have X0 : Stand p l e rmm55 s m #[(.ref p0)] below meth c s₁ [] 0 0 := Stand.of_body Bd
  have e0 : s₁.heap = h0 := by rw [← hh, Bd.state]; rfl
  have N0 := Fr.nil n0
  show Go p.tables e below (P55 Z p0 rr ro w an cu xs ys h0 n0 s) (s₁.setTop (entryFrame m #[(.ref p0)] 2))
  refine Go.back (fun t k => castTop (ef_55 m p0) k) ?_
  show Go p.tables e below (P55 Z p0 rr ro w an cu xs ys h0 n0 s) (s₁.setTop (mkF m 0 #[vR p0, uS] []))
  refine Go.back (fun t k => XS.aloadN X0.here hx rfl (hb hby d5_0) rfl rfl  k) ?_
  obtain ⟨T1, X1, e1, st1⟩ := getF X0 hx hZ hown (host := "") (Or.inl (wk hw 34 rfl)) Via.refl e0 H1 (g := (mkF m 1 #[vR p0, uS] [(.ref p0)])) rfl rfl (hb hby d5_1)
  refine Go.back st1 ?_
  obtain ⟨T2, X2, e2, st2⟩ := getF X1 hx hZ hown (Or.inr (wk hw 49 rfl)) Via.refl e1 H10 (g := (mkF m 4 #[vR p0, uS] [(.ref rr)])) rfl rfl (hb hby d5_4)
  refine Go.back st2 ?_
  show Go _ _ _ _ (T2.setTop (mkF m 7 #[vR p0, uS] [(.ref ro)]))
  refine Go.back (fun t k => XS.ifnullNo X2.here hx rfl (hb hby d5_7) rfl k) ?_
  show Go _ _ _ _ (T2.setTop (mkF m 10 #[vR p0, uS] []))
  refine Go.back (fun t k => XS.iconst X2.here hx rfl (hb hby d5_10) k) ?_
  refine Go.back (fun t k => XS.istoreN X2.here hx rfl (hb hby d5_11) rfl (l' := #[vR p0, vI (0 : Int32)]) rfl k) ?_
  show Go _ _ _ _ (T2.setTop (mkF m 12 #[vR p0, vI (0 : Int32)] []))
  have LOOP3 : ∀ (n : Nat) (i : Int32) (G : List Int64) (T4 : State) (L4 : List Loc) (X4 : Stand p l e rmm55 s m #[(.ref p0)] below meth c T4 L4 0 0) (N4 : Fr n0 L4) (h4 : Heap) (e4 : T4.heap = h4) (F5 : Exa Z h4 p0 cP) (F6 : Fld Z h4 p0 cP "this$0" dR (.ref rr)) (F7 : Fld Z h4 p0 cP "anywhere" "[J" (.ref an)) (F8 : Fld Z h4 p0 cP "current" "[I" (.ref cu)) (F9 : Fld Z h4 p0 cP "first" "I" (.int (0 : Int32))) (F10 : Fld Z h4 p0 cP "end" "I" (.int (2 : Int32))) (F11 : Fld Z h4 p0 cP "filling" "I" (.int (1 : Int32))) (F12 : Fld Z h4 p0 cP "listed" dI .null) (F13 : Fld Z h4 p0 cP "currentCount" "I" (.int (0 : Int32))) (F14 : Fld Z h4 rr cR "words" "I" (.int w)) (F15 : Fld Z h4 rr cR "rows" "[J" (.ref ro)) (F16 : ArL Z h4 ro .long (List.map Value.long xs)) (F17 : ArL Z h4 an .long (List.map Value.long G)) (F18 : n0 ≤ h4.size) (F19 : Keep h0 h4 [p0, an]) (hbd : own_lb n i w) (hG : G.length = ys.length), Go p.tables e below (P55 Z p0 rr ro w an cu xs ys h0 n0 s) (T4.setTop (mkF m 12 #[vR p0, vI i] [])) := by
    intro n
    induction n with
    | zero =>
      intro i G T4 L4 X4 N4 h4 e4 F5 F6 F7 F8 F9 F10 F11 F12 F13 F14 F15 F16 F17 F18 F19 hbd hG
      show Go _ _ _ _ (T4.setTop (mkF m 12 #[vR p0, vI i] []))
      refine Go.back (fun t k => XS.iloadN X4.here hx rfl (hb hby d5_12) rfl  k) ?_
      refine Go.back (fun t k => XS.aloadN X4.here hx rfl (hb hby d5_13) rfl rfl  k) ?_
      obtain ⟨T20, X20, e20, st20⟩ := getF X4 hx hZ hown (host := "") (Or.inl (wk hw 34 rfl)) Via.refl e4 F6 (g := (mkF m 14 #[vR p0, vI i] [(.ref p0), (.int i)])) rfl rfl (hb hby d5_14)
      refine Go.back st20 ?_
      obtain ⟨T21, X21, e21, st21⟩ := getF X20 hx hZ hown (Or.inr (wk hw 57 rfl)) Via.refl e20 F14 (g := (mkF m 17 #[vR p0, vI i] [(.ref rr), (.int i)])) rfl rfl (hb hby d5_17)
      refine Go.back st21 ?_
      show Go _ _ _ _ (T21.setTop (mkF m 20 #[vR p0, vI i] [(.int w), (.int i)]))
      refine Go.back (fun t k => XS.icmpYes X21.here hx rfl (pc0 := 20) (pc' := 60) rfl (hb hby d5_20) rfl (flt (own_lb_z hbd)).2.1 (by decide) (by decide) k) ?_
      show Go _ _ _ _ (T21.setTop (mkF m 60 #[vR p0, vI i] []))
      refine Go.back (fun t k => XS.goto X21.here hx rfl (pc0 := 60) (pc' := 67) rfl (hb hby d5_60) (by decide) (by decide) k) ?_
      refine Go.back (fun t k => XS.aloadN X21.here hx rfl (hb hby d5_67) rfl rfl  k) ?_
      refine Go.back (fun t k => XS.dup X21.here hx rfl (hb hby d5_68) rfl rfl k) ?_
      obtain ⟨T22, X22, e22, st22⟩ := getF X21 hx hZ hown (host := "") (Or.inl (wk hw 47 rfl)) Via.refl e21 F11 (g := (mkF m 69 #[vR p0, vI i] [(.ref p0), (.ref p0)])) rfl rfl (hb hby d5_69)
      refine Go.back st22 ?_
      show Go _ _ _ _ (T22.setTop (mkF m 72 #[vR p0, vI i] [(.int (1 : Int32)), (.ref p0)]))
      refine Go.back (fun t k => XS.iconst X22.here hx rfl (hb hby d5_72) k) ?_
      refine Go.back (fun t k => XS.iadd X22.here hx rfl (hb hby d5_73) rfl k) ?_
      show Go _ _ _ _ (T22.setTop (mkF m 74 #[vR p0, vI i] [(.int ((1 : Int32) + (1 : Int32))), (.ref p0)]))
      rw [show ((1 : Int32) + (1 : Int32)) = (2 : Int32) from by decide]
      show Go _ _ _ _ (T22.setTop (mkF m 74 #[vR p0, vI i] [(.int (2 : Int32)), (.ref p0)]))
      obtain ⟨T23, h23, X23, e23, W23, st23⟩ := putF X22 hx hZ hown (host := "") (Or.inl (wk hw 47 rfl)) Via.refl e22 F11 F5 (Or.inl (wk hw 48 rfl)) (wk hw 29 rfl) (ty := .int) (by decide) rfl rfl (g := (mkF m 74 #[vR p0, vI i] [(.int (2 : Int32)), (.ref p0)])) rfl rfl (hb hby d5_74)
      have F24 := F5.wr W23
      have F25 := F6.other W23 (Or.inr (slot_ne (Or.inr (wk hw 35 rfl)) (Or.inl (wk hw 48 rfl)) (by decide) (t := (.object "com/example/onward/onward/check/RequirementRows")) (t' := .int) (by decide) (by decide)))
      have F26 := F7.other W23 (Or.inr (slot_ne (Or.inr (wk hw 39 rfl)) (Or.inl (wk hw 48 rfl)) (by decide) (t := (.array .long)) (t' := .int) (by decide) (by decide)))
      have F27 := F8.other W23 (Or.inr (slot_ne (Or.inl (wk hw 42 rfl)) (Or.inl (wk hw 48 rfl)) (by decide) (t := (.array .int)) (t' := .int) (by decide) (by decide)))
      have F28 := F9.other W23 (Or.inr (slot_ne (Or.inr (wk hw 44 rfl)) (Or.inl (wk hw 48 rfl)) (by decide) (t := .int) (t' := .int) (by decide) (by decide)))
      have F29 := F10.other W23 (Or.inr (slot_ne (Or.inr (wk hw 46 rfl)) (Or.inl (wk hw 48 rfl)) (by decide) (t := .int) (t' := .int) (by decide) (by decide)))
      have F30 : Fld Z h23 p0 cP "filling" "I" (.int (2 : Int32)) := F11.same W23
      have F31 := F12.other W23 (Or.inr (slot_ne (Or.inr (wk hw 51 rfl)) (Or.inl (wk hw 48 rfl)) (by decide) (t := (.object "com/example/onward/onward/lts/IntBlocks")) (t' := .int) (by decide) (by decide)))
      have F32 := F13.other W23 (Or.inr (slot_ne (Or.inl (wk hw 110 rfl)) (Or.inl (wk hw 48 rfl)) (by decide) (t := .int) (t' := .int) (by decide) (by decide)))
      have F33 := F14.other W23 (Or.inl (Ne.symm H17))
      have F34 := F15.other W23 (Or.inl (Ne.symm H17))
      have F35 := F16.other W23 (Ne.symm H16)
      have F36 := F17.other W23 (Ne.symm H15)
      have F37 := Nat.le_trans F18 (Keep.of_wr W23).1
      have F38 := F19.wr W23 (Or.inl (List.mem_of_getElem? (i := 0) rfl))
      obtain ⟨Lo23, Y23, N23⟩ := pk X23 (Fr.snoc X23 N4 H13)
      refine Go.back st23 ?_
      show Go _ _ _ _ (T23.setTop (mkF m 77 #[vR p0, vI i] []))
      exact Go.retV Y23 hx Bd.returns (hb hby d5_77) Bd.notSynchronized ⟨rfl, N23, (by rw [e23]; exact F38), (by rw [e23]; exact F25), (by rw [e23]; exact F26), (by rw [e23]; exact F27), (by rw [e23]; exact F28), (by rw [e23]; exact F29), (by rw [e23]; exact F30), (by rw [e23]; exact F31), (by rw [e23]; exact F32), ⟨G, hG, by rw [e23]; exact F36⟩⟩ (by decide) (by decide)
    | succ n ih =>
      intro i G T4 L4 X4 N4 h4 e4 F5 F6 F7 F8 F9 F10 F11 F12 F13 F14 F15 F16 F17 F18 F19 hbd hG
      show Go _ _ _ _ (T4.setTop (mkF m 12 #[vR p0, vI i] []))
      refine Go.back (fun t k => XS.iloadN X4.here hx rfl (hb hby d5_12) rfl  k) ?_
      refine Go.back (fun t k => XS.aloadN X4.here hx rfl (hb hby d5_13) rfl rfl  k) ?_
      obtain ⟨T39, X39, e39, st39⟩ := getF X4 hx hZ hown (host := "") (Or.inl (wk hw 34 rfl)) Via.refl e4 F6 (g := (mkF m 14 #[vR p0, vI i] [(.ref p0), (.int i)])) rfl rfl (hb hby d5_14)
      refine Go.back st39 ?_
      obtain ⟨T40, X40, e40, st40⟩ := getF X39 hx hZ hown (Or.inr (wk hw 57 rfl)) Via.refl e39 F14 (g := (mkF m 17 #[vR p0, vI i] [(.ref rr), (.int i)])) rfl rfl (hb hby d5_17)
      refine Go.back st40 ?_
      show Go _ _ _ _ (T40.setTop (mkF m 20 #[vR p0, vI i] [(.int w), (.int i)]))
      refine Go.back (fun t k => XS.icmpNo X40.here hx rfl (hb hby d5_20) rfl (tlt (own_lb_s hbd)).2.1 k) ?_
      show Go _ _ _ _ (T40.setTop (mkF m 23 #[vR p0, vI i] []))
      refine Go.back (fun t k => XS.aloadN X40.here hx rfl (hb hby d5_23) rfl rfl  k) ?_
      obtain ⟨T41, X41, e41, st41⟩ := getF X40 hx hZ hown (host := "") (Or.inl (wk hw 38 rfl)) Via.refl e40 F7 (g := (mkF m 24 #[vR p0, vI i] [(.ref p0)])) rfl rfl (hb hby d5_24)
      refine Go.back st41 ?_
      refine Go.back (fun t k => XS.iloadN X41.here hx rfl (hb hby d5_27) rfl  k) ?_
      refine Go.back (fun t k => Jvm.Free.XT.dup2 X41.here hx rfl (hb hby d5_28) rfl rfl rfl k) ?_
      show Go _ _ _ _ (T41.setTop (mkF m 29 #[vR p0, vI i] [(.int i), (.ref an), (.int i), (.ref an)]))
      obtain ⟨cl42, Ar42, hi42, ha42⟩ := F17.get (j := i) (own_lb_nn hbd) (v := (.long (List.getD G (i).toNatClampNeg (0 : Int64)))) (getJ G (own_lb_in hbd (own_lenE hG hys)))
      refine Go.back (fun t k => X41.laload hx (j := i) (v := (.long (List.getD G (i).toNatClampNeg (0 : Int64)))) (by rw [e41]; exact Ar42.1) (State.isArrayOf_alike hZ.alike Ar42.2.1) Ar42.2.2 hi42 ha42 (g := (mkF m 29 #[vR p0, vI i] [(.int i), (.ref an), (.int i), (.ref an)])) rfl rfl (hb hby d5_29) t k) ?_
      refine Go.back (fun t k => XS.aloadN X41.here hx rfl (hb hby d5_30) rfl rfl  k) ?_
      obtain ⟨T43, X43, e43, st43⟩ := getF X41 hx hZ hown (host := "") (Or.inl (wk hw 34 rfl)) Via.refl e41 F6 (g := (mkF m 31 #[vR p0, vI i] [(.ref p0), (.long (List.getD G (i).toNatClampNeg (0 : Int64))), (.int i), (.ref an)])) rfl rfl (hb hby d5_31)
      refine Go.back st43 ?_
      obtain ⟨T44, X44, e44, st44⟩ := getF X43 hx hZ hown (Or.inr (wk hw 49 rfl)) Via.refl e43 F15 (g := (mkF m 34 #[vR p0, vI i] [(.ref rr), (.long (List.getD G (i).toNatClampNeg (0 : Int64))), (.int i), (.ref an)])) rfl rfl (hb hby d5_34)
      refine Go.back st44 ?_
      show Go _ _ _ _ (T44.setTop (mkF m 37 #[vR p0, vI i] [(.ref ro), (.long (List.getD G (i).toNatClampNeg (0 : Int64))), (.int i), (.ref an)]))
      refine Go.back (fun t k => XS.aloadN X44.here hx rfl (hb hby d5_37) rfl rfl  k) ?_
      obtain ⟨T45, X45, e45, st45⟩ := getF X44 hx hZ hown (host := "") (Or.inl (wk hw 47 rfl)) Via.refl e44 F11 (g := (mkF m 38 #[vR p0, vI i] [(.ref p0), (.ref ro), (.long (List.getD G (i).toNatClampNeg (0 : Int64))), (.int i), (.ref an)])) rfl rfl (hb hby d5_38)
      refine Go.back st45 ?_
      refine Go.back (fun t k => XS.aloadN X45.here hx rfl (hb hby d5_41) rfl rfl  k) ?_
      obtain ⟨T46, X46, e46, st46⟩ := getF X45 hx hZ hown (host := "") (Or.inl (wk hw 34 rfl)) Via.refl e45 F6 (g := (mkF m 42 #[vR p0, vI i] [(.ref p0), (.int (1 : Int32)), (.ref ro), (.long (List.getD G (i).toNatClampNeg (0 : Int64))), (.int i), (.ref an)])) rfl rfl (hb hby d5_42)
      refine Go.back st46 ?_
      show Go _ _ _ _ (T46.setTop (mkF m 45 #[vR p0, vI i] [(.ref rr), (.int (1 : Int32)), (.ref ro), (.long (List.getD G (i).toNatClampNeg (0 : Int64))), (.int i), (.ref an)]))
      obtain ⟨T47, X47, e47, st47⟩ := getF X46 hx hZ hown (Or.inr (wk hw 57 rfl)) Via.refl e46 F14 (g := (mkF m 45 #[vR p0, vI i] [(.ref rr), (.int (1 : Int32)), (.ref ro), (.long (List.getD G (i).toNatClampNeg (0 : Int64))), (.int i), (.ref an)])) rfl rfl (hb hby d5_45)
      refine Go.back st47 ?_
      refine Go.back (fun t k => XS.imul X47.here hx rfl (hb hby d5_48) rfl k) ?_
      refine Go.back (fun t k => XS.iloadN X47.here hx rfl (hb hby d5_49) rfl  k) ?_
      refine Go.back (fun t k => XS.iadd X47.here hx rfl (hb hby d5_50) rfl k) ?_
      show Go _ _ _ _ (T47.setTop (mkF m 51 #[vR p0, vI i] [(.int (((1 : Int32) * w) + i)), (.ref ro), (.long (List.getD G (i).toNatClampNeg (0 : Int64))), (.int i), (.ref an)]))
      obtain ⟨cl48, Ar48, hi48, ha48⟩ := F16.get (j := (((1 : Int32) * w) + i)) (own_lb_row hbd (Or.inr rfl) hq4 hxs).1 (v := (.long (List.getD xs ((((1 : Int32) * w) + i)).toNatClampNeg (0 : Int64)))) (getJ xs (own_lb_row hbd (Or.inr rfl) hq4 hxs).2)
      refine Go.back (fun t k => X47.laload hx (j := (((1 : Int32) * w) + i)) (v := (.long (List.getD xs ((((1 : Int32) * w) + i)).toNatClampNeg (0 : Int64)))) (by rw [e47]; exact Ar48.1) (State.isArrayOf_alike hZ.alike Ar48.2.1) Ar48.2.2 hi48 ha48 (g := (mkF m 51 #[vR p0, vI i] [(.int (((1 : Int32) * w) + i)), (.ref ro), (.long (List.getD G (i).toNatClampNeg (0 : Int64))), (.int i), (.ref an)])) rfl rfl (hb hby d5_51) t k) ?_
      refine Go.back (fun t k => XS.lor X47.here hx rfl (hb hby d5_52) rfl k) ?_
      obtain ⟨cl49, Ar49, hi49, -⟩ := F17.at (j := i) (own_lb_nn hbd) (by simpa using (own_lb_in hbd (own_lenE hG hys)))
      obtain ⟨T49, h49, X49, e49, W49, st49⟩ := stJ X47 hx hZ e47 Ar49 (j := i) hi49 (g := (mkF m 53 #[vR p0, vI i] [(.long ((List.getD G (i).toNatClampNeg (0 : Int64)) ||| (List.getD xs ((((1 : Int32) * w) + i)).toNatClampNeg (0 : Int64)))), (.int i), (.ref an)])) rfl rfl (hb hby d5_53)
      have F50 := F5.wr W49
      have F51 := F6.other W49 (Or.inl H15)
      have F52 := F7.other W49 (Or.inl H15)
      have F53 := F8.other W49 (Or.inl H15)
      have F54 := F9.other W49 (Or.inl H15)
      have F55 := F10.other W49 (Or.inl H15)
      have F56 := F11.other W49 (Or.inl H15)
      have F57 := F12.other W49 (Or.inl H15)
      have F58 := F13.other W49 (Or.inl H15)
      have F59 := F14.other W49 (Or.inl (Ne.symm H19))
      have F60 := F15.other W49 (Or.inl (Ne.symm H19))
      have F61 := F16.other W49 (Ne.symm H18)
      have F62 : ArL Z h49 an .long (List.map Value.long (List.set G (i).toNatClampNeg ((List.getD G (i).toNatClampNeg (0 : Int64)) ||| (List.getD xs ((((1 : Int32) * w) + i)).toNatClampNeg (0 : Int64))))) := ArL.setJ (xs := G) F17 W49
      have F63 := Nat.le_trans F18 (Keep.of_wr W49).1
      have F64 := F19.wr W49 (Or.inl (List.mem_of_getElem? (i := 1) rfl))
      obtain ⟨Lo49, Y49, N49⟩ := pk X49 (Fr.snoc X49 N4 H14)
      refine Go.back st49 ?_
      refine Go.back (fun t k => XS.iinc Y49.here hx rfl (hb hby d5_54) rfl (l' := #[vR p0, vI (i + (1 : Int32))]) rfl k) ?_
      show Go _ _ _ _ (T49.setTop (mkF m 57 #[vR p0, vI (i + (1 : Int32))] []))
      refine Go.back (fun t k => XS.goto Y49.here hx rfl (pc0 := 57) (pc' := 12) rfl (hb hby d5_57) (by decide) (by decide) k) ?_
      show Go _ _ _ _ (T49.setTop (mkF m 12 #[vR p0, vI (i + (1 : Int32))] []))
      exact ih (i + (1 : Int32)) (List.set G (i).toNatClampNeg ((List.getD G (i).toNatClampNeg (0 : Int64)) ||| (List.getD xs ((((1 : Int32) * w) + i)).toNatClampNeg (0 : Int64)))) _ _ Y49 N49 h49 e49 F50 F51 F52 F53 F54 F55 F56 F57 F58 F59 F60 F61 F62 F63 F64 (own_lb_next hbd) (by simp [hG])
  exact LOOP3 (w).toNatClampNeg (0 : Int32) ys _ _ X2 N0 h0 e2 H0 H1 H2 H3 H4 H5 H6 H7 H8 H9 H10 H11 H12 Z0 (Keep.refl h0 [p0, an]) (own_lb0 (own_w4_w hq4)) rfl
theorem own_wS : ∀ a ∈ Bundle.stringAtoms, a ∈ tables_1 := by decide +kernel
theorem d1_0 : decode prog_61_method_1_code 0 = .ok (.aload_n 0, 1) := by decide +kernel
theorem d1_1 : decode prog_61_method_1_code 1 = .ok (.invokespecial 1, 3) := by decide +kernel
theorem d1_4 : decode prog_61_method_1_code 4 = .ok (.aload_n 0, 1) := by decide +kernel
theorem d1_5 : decode prog_61_method_1_code 5 = .ok (.iload_n 2, 1) := by decide +kernel
theorem d1_6 : decode prog_61_method_1_code 6 = .ok (.putfield 7, 3) := by decide +kernel
theorem d1_9 : decode prog_61_method_1_code 9 = .ok (.iload_n 2, 1) := by decide +kernel
theorem d1_10 : decode prog_61_method_1_code 10 = .ok (.bipush 63, 2) := by decide +kernel
theorem d1_12 : decode prog_61_method_1_code 12 = .ok (.iadd, 1) := by decide +kernel
theorem d1_13 : decode prog_61_method_1_code 13 = .ok (.bipush 64, 2) := by decide +kernel
theorem d1_15 : decode prog_61_method_1_code 15 = .ok (.idiv, 1) := by decide +kernel
theorem d1_16 : decode prog_61_method_1_code 16 = .ok (.istore_n 3, 1) := by decide +kernel
theorem d1_17 : decode prog_61_method_1_code 17 = .ok (.iload_n 3, 1) := by decide +kernel
theorem d1_18 : decode prog_61_method_1_code 18 = .ok (.iconst 4, 1) := by decide +kernel
theorem d1_19 : decode prog_61_method_1_code 19 = .ok (.if_icmp .gt 52, 3) := by decide +kernel
theorem d1_71 : decode prog_61_method_1_code 71 = .ok (.aload_n 0, 1) := by decide +kernel
theorem d1_72 : decode prog_61_method_1_code 72 = .ok (.iconst 0, 1) := by decide +kernel
theorem d1_73 : decode prog_61_method_1_code 73 = .ok (.putfield 24, 3) := by decide +kernel
theorem d1_76 : decode prog_61_method_1_code 76 = .ok (.aload_n 0, 1) := by decide +kernel
theorem d1_77 : decode prog_61_method_1_code 77 = .ok (.aconst_null, 1) := by decide +kernel
theorem d1_78 : decode prog_61_method_1_code 78 = .ok (.putfield 27, 3) := by decide +kernel
theorem d1_81 : decode prog_61_method_1_code 81 = .ok (.aload_n 0, 1) := by decide +kernel
theorem d1_82 : decode prog_61_method_1_code 82 = .ok (.iload_n 1, 1) := by decide +kernel
theorem d1_83 : decode prog_61_method_1_code 83 = .ok (.iconst 1, 1) := by decide +kernel
theorem d1_84 : decode prog_61_method_1_code 84 = .ok (.iadd, 1) := by decide +kernel
theorem d1_85 : decode prog_61_method_1_code 85 = .ok (.newarray .int, 2) := by decide +kernel
theorem d1_87 : decode prog_61_method_1_code 87 = .ok (.putfield 31, 3) := by decide +kernel
theorem d1_90 : decode prog_61_method_1_code 90 = .ok (.aload_n 0, 1) := by decide +kernel
theorem d1_91 : decode prog_61_method_1_code 91 = .ok (.new 39, 3) := by decide +kernel
theorem d1_94 : decode prog_61_method_1_code 94 = .ok (.dup, 1) := by decide +kernel
theorem d1_95 : decode prog_61_method_1_code 95 = .ok (.ldc 41, 2) := by decide +kernel
theorem d1_97 : decode prog_61_method_1_code 97 = .ok (.invokespecial 43, 3) := by decide +kernel
theorem d1_100 : decode prog_61_method_1_code 100 = .ok (.putfield 35, 3) := by decide +kernel
theorem d1_103 : decode prog_61_method_1_code 103 = .ok (.aload_n 0, 1) := by decide +kernel
theorem d1_104 : decode prog_61_method_1_code 104 = .ok (.iload_n 3, 1) := by decide +kernel
theorem d1_105 : decode prog_61_method_1_code 105 = .ok (.newarray .long, 2) := by decide +kernel
theorem d1_107 : decode prog_61_method_1_code 107 = .ok (.putfield 44, 3) := by decide +kernel
theorem d1_110 : decode prog_61_method_1_code 110 = .ok (.return_, 1) := by decide +kernel
def Q56 (Z : State) (p0 : Addr) (p2 : Int32) (w : Int32) (h0 : Heap) (n0 : Nat) (v : Option Value) (h : Heap) (L : List Loc) : Prop := v = none ∧ Fr n0 L ∧ Keep h0 h [p0] ∧ ∃ ss li aa : Addr, h0.size ≤ ss ∧ h0.size ≤ li ∧ h0.size ≤ aa ∧ ss ≠ li ∧ ss ≠ aa ∧ li ≠ aa ∧ Fld Z h p0 cR "words" "I" (.int (0 : Int32)) ∧ Fld Z h p0 cR "rows" "[J" .null ∧ Fld Z h p0 cR "starts" "[I" (.ref ss) ∧ Fld Z h p0 cR "lists" dI (.ref li) ∧ Fld Z h p0 cR "anywhere" "[J" (.ref aa) ∧ Fld Z h p0 cR "joined" "I" (.int (0 : Int32)) ∧ ArL Z h ss .int [(.int (0 : Int32)), (.int (0 : Int32)), (.int (0 : Int32))] ∧ Exa Z h li cI ∧ Fld Z h li cI "size" "I" (.int (0 : Int32)) ∧ ArL Z h aa .long (List.map Value.long (List.replicate (w).toNatClampNeg (0 : Int64)))
abbrev rmm56 : Room := { frames := 2, cells := 7, slots := 111, locals := 27 }
abbrev P56 (Z : State) (p0 : Addr) (p2 : Int32) (w : Int32) (h0 : Heap) (n0 : Nat) (s : State) : Outcome → State → Prop := fun o U' => ∃ v L, o = .returned v ∧ Q56 Z p0 p2 w h0 n0 v U'.heap L ∧ ReturnedEndW s o U' L rmm56.cells rmm56.slots
theorem pn_56 : plainName "com/example/onward/onward/check/RequirementRows" = true := by first | (simp [plainName, overriddenIn]; done) | decide +kernel
theorem ef_56 (m : MethodId) (p0 : Addr) (p2 : Int32) : entryFrame m #[(.ref p0), (.int (2 : Int32)), (.int p2)] 4 = mkF m 0 #[vR p0, vI (2 : Int32), vI p2, uS] [] := by first | (simp [entryFrame, mkF, argsToLocals, Value.category]; done) | rfl
set_option maxRecDepth 65536 in
set_option maxHeartbeats 40000000 in
theorem rm56 (l : Launch) (Z : State) (a0 : Array Value) (hw : ∀ d ∈ tables_1, d.before a0 Z = true) (ws : List Jvm.Cond) (p0 : Addr) (p2 : Int32) (w : Int32) (h0 : Heap) (n0 : Nat) (Z0 : n0 ≤ h0.size) (H0 : Exa Z h0 p0 cR) (H1 : Fld Z h0 p0 cR "words" "I" (.int (0 : Int32))) (H2 : Fld Z h0 p0 cR "rows" "[J" .null) (H3 : Fld Z h0 p0 cR "starts" "[I" .null) (H4 : Fld Z h0 p0 cR "lists" dI .null) (H5 : Fld Z h0 p0 cR "anywhere" "[J" .null) (H6 : Fld Z h0 p0 cR "joined" "I" (.int (0 : Int32))) (H7 : Fld Z h0 p0 cR "requirements" "I" (.int (0 : Int32))) (H8 : n0 ≤ p0) (hwd : ((p2 + (63 : Int32)) / (64 : Int32)) = w) (hW : own_w w) (hb4 : (4 : Int32) < w) :
    MetFree l (⟨"com/example/onward/onward/check/RequirementRows", "<init>", "(II)V"⟩ : MethodName) (head1 (Jvm.Cond.code (⟨"com/example/onward/onward/check/RequirementRows", "<init>", "(II)V"⟩ : MethodName) prog_61_method_1_code 4 none :: ws) rmm56) (fun a U => a = #[(.ref p0), (.int (2 : Int32)), (.int p2)] ∧ Z.Warmed39 U.vm ∧ U.heap = h0) (fun _ _ _ _ _ => True) (fun _ U o U' => ∃ v L, o = .returned v ∧ Q56 Z p0 p2 w h0 n0 v U'.heap L ∧ ReturnedEndW U o U' L rmm56.cells rmm56.slots) := by
  refine MetFree.of_bodySF (plainFor_of_name pn_56) hisR ?_
  intro p e s m args below meth c s₁ Bd hml0 hP hK
  obtain ⟨rfl, hZ, hh⟩ := hP
  have hx := Bd.exec
  have hby := Bd.bytes
  have hml : c.maxLocals = 4 := hml0
  have hown : s.vm.findClass "com/example/onward/onward/check/RequirementRows" = some m.cls := findClass_of_methodNamed Bd.named
  have hnm := (name_of_methodNamed Bd.named Bd.method).1
  have X0 : Stand p l e rmm56 s m #[(.ref p0), (.int (2 : Int32)), (.int p2)] below meth c s₁ [] 0 0 := Stand.of_body Bd
  have e0 : s₁.heap = h0 := by rw [← hh, Bd.state]; rfl
  have N0 := Fr.nil n0
  show Go p.tables e below (P56 Z p0 p2 w h0 n0 s) (s₁.setTop (entryFrame m #[(.ref p0), (.int (2 : Int32)), (.int p2)] 4))
  refine Go.back (fun t k => castTop (ef_56 m p0 p2) k) ?_
  show Go p.tables e below (P56 Z p0 p2 w h0 n0 s) (s₁.setTop (mkF m 0 #[vR p0, vI (2 : Int32), vI p2, uS] []))
  refine Go.back (fun t k => XS.aloadN X0.here hx rfl (hb hby d1_0) rfl rfl  k) ?_
  obtain ⟨T1, X1, e1, st1⟩ := initO X0 hx hZ hown (wk hw 6 rfl) (wk hw 7 rfl) (wk hw 8 rfl) e0 (g := (mkF m 1 #[vR p0, vI (2 : Int32), vI p2, uS] [(.ref p0)])) rfl (by rw [hml]; rfl) rfl (hb hby d1_1) (by decide) (W := 0) (by show 2 * 0 + _ ≤ _; exact Nat.le_of_eq rfl) (by decide)
  refine Go.back st1 ?_
  show Go _ _ _ _ (T1.setTop (mkF m 4 #[vR p0, vI (2 : Int32), vI p2, uS] []))
  refine Go.back (fun t k => XS.aloadN X1.here hx rfl (hb hby d1_4) rfl rfl  k) ?_
  refine Go.back (fun t k => XS.iloadN X1.here hx rfl (hb hby d1_5) rfl  k) ?_
  obtain ⟨T2, h2, X2, e2, W2, st2⟩ := putF X1 hx hZ hown (host := "") (Or.inl (wk hw 9 rfl)) Via.refl e1 H7 H0 (Or.inr ⟨(wk hw 10 rfl), rfl, hnm⟩) (wk hw 1 rfl) (ty := .int) (by decide) rfl rfl (g := (mkF m 6 #[vR p0, vI (2 : Int32), vI p2, uS] [(.int p2), (.ref p0)])) rfl rfl (hb hby d1_6)
  have F3 := H0.wr W2
  have F4 := H1.other W2 (Or.inr (slot_ne (Or.inr (wk hw 13 rfl)) (Or.inr (wk hw 10 rfl)) (by decide) (t := .int) (t' := .int) (by decide) (by decide)))
  have F5 := H2.other W2 (Or.inr (slot_ne (Or.inr (wk hw 16 rfl)) (Or.inr (wk hw 10 rfl)) (by decide) (t := (.array .long)) (t' := .int) (by decide) (by decide)))
  have F6 := H3.other W2 (Or.inr (slot_ne (Or.inr (wk hw 18 rfl)) (Or.inr (wk hw 10 rfl)) (by decide) (t := (.array .int)) (t' := .int) (by decide) (by decide)))
  have F7 := H4.other W2 (Or.inr (slot_ne (Or.inl (wk hw 20 rfl)) (Or.inr (wk hw 10 rfl)) (by decide) (t := (.object "com/example/onward/onward/lts/IntBlocks")) (t' := .int) (by decide) (by decide)))
  have F8 := H5.other W2 (Or.inr (slot_ne (Or.inr (wk hw 22 rfl)) (Or.inr (wk hw 10 rfl)) (by decide) (t := (.array .long)) (t' := .int) (by decide) (by decide)))
  have F9 := H6.other W2 (Or.inr (slot_ne (Or.inl (wk hw 65 rfl)) (Or.inr (wk hw 10 rfl)) (by decide) (t := .int) (t' := .int) (by decide) (by decide)))
  have F10 : Fld Z h2 p0 cR "requirements" "I" (.int p2) := H7.same W2
  have F11 := Nat.le_trans Z0 (Keep.of_wr W2).1
  have F12 : h0.size ≤ h2.size := Nat.le_trans (Nat.le_refl _) (Keep.of_wr W2).1
  have F13 : Keep h0 h2 [p0] := (Keep.refl h0 [p0]).wr W2 (Or.inl (List.mem_of_getElem? (i := 0) rfl))
  obtain ⟨Lo2, Y2, N2⟩ := pk X2 (Fr.snoc X2 N0 H8)
  refine Go.back st2 ?_
  refine Go.back (fun t k => XS.iloadN Y2.here hx rfl (hb hby d1_9) rfl  k) ?_
  show Go _ _ _ _ (T2.setTop (mkF m 10 #[vR p0, vI (2 : Int32), vI p2, uS] [(.int p2)]))
  refine Go.back (fun t k => XS.bipush Y2.here hx rfl (hb hby d1_10) k) ?_
  refine Go.back (fun t k => XS.iadd Y2.here hx rfl (hb hby d1_12) rfl k) ?_
  refine Go.back (fun t k => XS.bipush Y2.here hx rfl (hb hby d1_13) k) ?_
  show Go _ _ _ _ (T2.setTop (mkF m 15 #[vR p0, vI (2 : Int32), vI p2, uS] [(.int (64 : Int32)), (.int (p2 + (63 : Int32)))]))
  refine Go.back (fun t k => XS.idiv Y2.here hx rfl (hb hby d1_15) rfl (by decide) k) ?_
  show Go _ _ _ _ (T2.setTop (mkF m 16 #[vR p0, vI (2 : Int32), vI p2, uS] [(.int ((p2 + (63 : Int32)) / (64 : Int32)))]))
  rw [show ((p2 + (63 : Int32)) / (64 : Int32)) = w from hwd]
  show Go _ _ _ _ (T2.setTop (mkF m 16 #[vR p0, vI (2 : Int32), vI p2, uS] [(.int w)]))
  refine Go.back (fun t k => XS.istoreN Y2.here hx rfl (hb hby d1_16) rfl (l' := #[vR p0, vI (2 : Int32), vI p2, vI w]) rfl k) ?_
  refine Go.back (fun t k => XS.iloadN Y2.here hx rfl (hb hby d1_17) rfl  k) ?_
  refine Go.back (fun t k => XS.iconst Y2.here hx rfl (hb hby d1_18) k) ?_
  show Go _ _ _ _ (T2.setTop (mkF m 19 #[vR p0, vI (2 : Int32), vI p2, vI w] [(.int (4 : Int32)), (.int w)]))
  refine Go.back (fun t k => XS.icmpYes Y2.here hx rfl (pc0 := 19) (pc' := 71) rfl (hb hby d1_19) rfl (tlt hb4).2.2.1 (by decide) (by decide) k) ?_
  show Go _ _ _ _ (T2.setTop (mkF m 71 #[vR p0, vI (2 : Int32), vI p2, vI w] []))
  refine Go.back (fun t k => XS.aloadN Y2.here hx rfl (hb hby d1_71) rfl rfl  k) ?_
  refine Go.back (fun t k => XS.iconst Y2.here hx rfl (hb hby d1_72) k) ?_
  obtain ⟨T14, h14, X14, e14, W14, st14⟩ := putF Y2 hx hZ hown (host := "") (Or.inl (wk hw 12 rfl)) Via.refl e2 F4 F3 (Or.inr ⟨(wk hw 13 rfl), rfl, hnm⟩) (wk hw 1 rfl) (ty := .int) (by decide) rfl rfl (g := (mkF m 73 #[vR p0, vI (2 : Int32), vI p2, vI w] [(.int (0 : Int32)), (.ref p0)])) rfl rfl (hb hby d1_73)
  have F15 := F3.wr W14
  have F16 := F4.same W14
  have F17 := F5.other W14 (Or.inr (slot_ne (Or.inr (wk hw 16 rfl)) (Or.inr (wk hw 13 rfl)) (by decide) (t := (.array .long)) (t' := .int) (by decide) (by decide)))
  have F18 := F6.other W14 (Or.inr (slot_ne (Or.inr (wk hw 18 rfl)) (Or.inr (wk hw 13 rfl)) (by decide) (t := (.array .int)) (t' := .int) (by decide) (by decide)))
  have F19 := F7.other W14 (Or.inr (slot_ne (Or.inl (wk hw 20 rfl)) (Or.inr (wk hw 13 rfl)) (by decide) (t := (.object "com/example/onward/onward/lts/IntBlocks")) (t' := .int) (by decide) (by decide)))
  have F20 := F8.other W14 (Or.inr (slot_ne (Or.inr (wk hw 22 rfl)) (Or.inr (wk hw 13 rfl)) (by decide) (t := (.array .long)) (t' := .int) (by decide) (by decide)))
  have F21 := F9.other W14 (Or.inr (slot_ne (Or.inl (wk hw 65 rfl)) (Or.inr (wk hw 13 rfl)) (by decide) (t := .int) (t' := .int) (by decide) (by decide)))
  have F22 := F10.other W14 (Or.inr (slot_ne (Or.inr (wk hw 10 rfl)) (Or.inr (wk hw 13 rfl)) (by decide) (t := .int) (t' := .int) (by decide) (by decide)))
  have F23 := Nat.le_trans F11 (Keep.of_wr W14).1
  have F24 := Nat.le_trans F12 (Keep.of_wr W14).1
  have F25 := F13.wr W14 (Or.inl (List.mem_of_getElem? (i := 0) rfl))
  obtain ⟨Lo14, Y14, N14⟩ := pk X14 (Fr.snoc X14 N2 H8)
  refine Go.back st14 ?_
  refine Go.back (fun t k => XS.aloadN Y14.here hx rfl (hb hby d1_76) rfl rfl  k) ?_
  show Go _ _ _ _ (T14.setTop (mkF m 77 #[vR p0, vI (2 : Int32), vI p2, vI w] [(.ref p0)]))
  refine Go.back (fun t k => XS.aconstNull Y14.here hx rfl (hb hby d1_77) k) ?_
  obtain ⟨T26, h26, X26, e26, W26, st26⟩ := putF Y14 hx hZ hown (host := "") (Or.inl (wk hw 15 rfl)) Via.refl e14 F17 F15 (Or.inr ⟨(wk hw 16 rfl), rfl, hnm⟩) (wk hw 1 rfl) (ty := (.array .long)) (by decide) rfl rfl (g := (mkF m 78 #[vR p0, vI (2 : Int32), vI p2, vI w] [.null, (.ref p0)])) rfl rfl (hb hby d1_78)
  have F27 := F15.wr W26
  have F28 := F16.other W26 (Or.inr (slot_ne (Or.inr (wk hw 13 rfl)) (Or.inr (wk hw 16 rfl)) (by decide) (t := .int) (t' := (.array .long)) (by decide) (by decide)))
  have F29 := F17.same W26
  have F30 := F18.other W26 (Or.inr (slot_ne (Or.inr (wk hw 18 rfl)) (Or.inr (wk hw 16 rfl)) (by decide) (t := (.array .int)) (t' := (.array .long)) (by decide) (by decide)))
  have F31 := F19.other W26 (Or.inr (slot_ne (Or.inl (wk hw 20 rfl)) (Or.inr (wk hw 16 rfl)) (by decide) (t := (.object "com/example/onward/onward/lts/IntBlocks")) (t' := (.array .long)) (by decide) (by decide)))
  have F32 := F20.other W26 (Or.inr (slot_ne (Or.inr (wk hw 22 rfl)) (Or.inr (wk hw 16 rfl)) (by decide) (t := (.array .long)) (t' := (.array .long)) (by decide) (by decide)))
  have F33 := F21.other W26 (Or.inr (slot_ne (Or.inl (wk hw 65 rfl)) (Or.inr (wk hw 16 rfl)) (by decide) (t := .int) (t' := (.array .long)) (by decide) (by decide)))
  have F34 := F22.other W26 (Or.inr (slot_ne (Or.inr (wk hw 10 rfl)) (Or.inr (wk hw 16 rfl)) (by decide) (t := .int) (t' := (.array .long)) (by decide) (by decide)))
  have F35 := Nat.le_trans F23 (Keep.of_wr W26).1
  have F36 := Nat.le_trans F24 (Keep.of_wr W26).1
  have F37 := F25.wr W26 (Or.inl (List.mem_of_getElem? (i := 0) rfl))
  obtain ⟨Lo26, Y26, N26⟩ := pk X26 (Fr.snoc X26 N14 H8)
  refine Go.back st26 ?_
  refine Go.back (fun t k => XS.aloadN Y26.here hx rfl (hb hby d1_81) rfl rfl  k) ?_
  refine Go.back (fun t k => XS.iloadN Y26.here hx rfl (hb hby d1_82) rfl  k) ?_
  show Go _ _ _ _ (T26.setTop (mkF m 83 #[vR p0, vI (2 : Int32), vI p2, vI w] [(.int (2 : Int32)), (.ref p0)]))
  refine Go.back (fun t k => XS.iconst Y26.here hx rfl (hb hby d1_83) k) ?_
  refine Go.back (fun t k => XS.iadd Y26.here hx rfl (hb hby d1_84) rfl k) ?_
  show Go _ _ _ _ (T26.setTop (mkF m 85 #[vR p0, vI (2 : Int32), vI p2, vI w] [(.int ((2 : Int32) + (1 : Int32))), (.ref p0)]))
  rw [show ((2 : Int32) + (1 : Int32)) = (3 : Int32) from by decide]
  show Go _ _ _ _ (T26.setTop (mkF m 85 #[vR p0, vI (2 : Int32), vI p2, vI w] [(.int (3 : Int32)), (.ref p0)]))
  obtain ⟨T38, h38, k38, X38, e38, E38, A38, st38⟩ := newP Y26 hx hZ (wk hw 40 rfl) e26 (g := (mkF m 85 #[vR p0, vI (2 : Int32), vI p2, vI w] [(.int (3 : Int32)), (.ref p0)])) rfl (hb hby d1_85) rfl (by decide) (cap := 3) (by decide) (by decide) (by decide) (by decide)
  obtain ⟨b38, g38⟩ : ∃ z, z = h26.size := ⟨_, rfl⟩
  rw [← g38] at A38 st38
  have ne39 := neB F27.lt g38
  have g40 : n0 ≤ b38 := Nat.le_trans F35 (Nat.le_of_eq g38.symm)
  have sz41 : h0.size ≤ b38 := Nat.le_trans F37.1 (Nat.le_of_eq g38.symm)
  have F42 := F27.ext E38
  have F43 := F28.ext E38
  have F44 := F29.ext E38
  have F45 := F30.ext E38
  have F46 := F31.ext E38
  have F47 := F32.ext E38
  have F48 := F33.ext E38
  have F49 := F34.ext E38
  have F50 := Nat.le_trans F35 E38.1
  have F51 := Nat.le_trans F36 E38.1
  have F52 := F37.ext E38
  have F53 : ArL Z h38 b38 .int [(.int (0 : Int32)), (.int (0 : Int32)), (.int (0 : Int32))] := ArL.new (ty := .int) A38 (n := 3) rfl
  refine Go.back st38 ?_
  obtain ⟨T54, h54, X54, e54, W54, st54⟩ := putF X38 hx hZ hown (host := "") (Or.inl (wk hw 17 rfl)) Via.refl e38 F45 F42 (Or.inr ⟨(wk hw 18 rfl), rfl, hnm⟩) (wk hw 1 rfl) (ty := (.array .int)) (by decide) rfl rfl (g := (mkF m 87 #[vR p0, vI (2 : Int32), vI p2, vI w] [(.ref b38), (.ref p0)])) rfl rfl (hb hby d1_87)
  have F55 := F42.wr W54
  have F56 := F43.other W54 (Or.inr (slot_ne (Or.inr (wk hw 13 rfl)) (Or.inr (wk hw 18 rfl)) (by decide) (t := .int) (t' := (.array .int)) (by decide) (by decide)))
  have F57 := F44.other W54 (Or.inr (slot_ne (Or.inr (wk hw 16 rfl)) (Or.inr (wk hw 18 rfl)) (by decide) (t := (.array .long)) (t' := (.array .int)) (by decide) (by decide)))
  have F58 : Fld Z h54 p0 cR "starts" "[I" (.ref b38) := F45.same W54
  have F59 := F46.other W54 (Or.inr (slot_ne (Or.inl (wk hw 20 rfl)) (Or.inr (wk hw 18 rfl)) (by decide) (t := (.object "com/example/onward/onward/lts/IntBlocks")) (t' := (.array .int)) (by decide) (by decide)))
  have F60 := F47.other W54 (Or.inr (slot_ne (Or.inr (wk hw 22 rfl)) (Or.inr (wk hw 18 rfl)) (by decide) (t := (.array .long)) (t' := (.array .int)) (by decide) (by decide)))
  have F61 := F48.other W54 (Or.inr (slot_ne (Or.inl (wk hw 65 rfl)) (Or.inr (wk hw 18 rfl)) (by decide) (t := .int) (t' := (.array .int)) (by decide) (by decide)))
  have F62 := F49.other W54 (Or.inr (slot_ne (Or.inr (wk hw 10 rfl)) (Or.inr (wk hw 18 rfl)) (by decide) (t := .int) (t' := (.array .int)) (by decide) (by decide)))
  have F63 := Nat.le_trans F50 (Keep.of_wr W54).1
  have F64 := Nat.le_trans F51 (Keep.of_wr W54).1
  have F65 := F52.wr W54 (Or.inl (List.mem_of_getElem? (i := 0) rfl))
  have F66 := F53.other W54 (Ne.symm ne39)
  obtain ⟨Lo54, Y54, N54⟩ := pk X54 (Fr.snoc X54 N26 H8)
  refine Go.back st54 ?_
  refine Go.back (fun t k => XS.aloadN Y54.here hx rfl (hb hby d1_90) rfl rfl  k) ?_
  obtain ⟨T67, h67, X67, e67, E67, A67, D67, -, st67⟩ := newO Y54 hx hZ hown (wk hw 80 rfl) (wk hw 81 rfl) (wk hw 82 rfl) e54 (g := (mkF m 91 #[vR p0, vI (2 : Int32), vI p2, vI w] [(.ref p0)])) rfl (hb hby d1_91) (by decide) (by decide)
  obtain ⟨b67, g67⟩ : ∃ z, z = h54.size := ⟨_, rfl⟩
  rw [← g67] at A67 D67 st67
  have ne68 := neB F55.lt g67
  have ne69 := neB F66.lt g67
  have g70 : n0 ≤ b67 := Nat.le_trans F63 (Nat.le_of_eq g67.symm)
  have sz71 : h0.size ≤ b67 := Nat.le_trans F65.1 (Nat.le_of_eq g67.symm)
  have F72 := F55.ext E67
  have F73 := F56.ext E67
  have F74 := F57.ext E67
  have F75 := F58.ext E67
  have F76 := F59.ext E67
  have F77 := F60.ext E67
  have F78 := F61.ext E67
  have F79 := F62.ext E67
  have F80 := Nat.le_trans F63 E67.1
  have F81 := Nat.le_trans F64 E67.1
  have F82 := F65.ext E67
  have F83 := F66.ext E67
  have F84 : Fld Z h67 b67 cI "blocks" "[[I" .null := D67 (Or.inl (wk hw 99 rfl)) (ty := (.array (.array .int))) (by decide)
  have F85 : Fld Z h67 b67 cI "what" "Ljava/lang/String;" .null := D67 (Or.inr (wk hw 101 rfl)) (ty := (.object "java/lang/String")) (by decide)
  have F86 : Fld Z h67 b67 cI "size" "I" (.int (0 : Int32)) := D67 (Or.inl (wk hw 138 rfl)) (ty := .int) (by decide)
  refine Go.back st67 ?_
  show Go _ _ _ _ (T67.setTop (mkF m 94 #[vR p0, vI (2 : Int32), vI p2, vI w] [(.ref b67), (.ref p0)]))
  refine Go.back (fun t k => XS.dup X67.here hx rfl (hb hby d1_94) rfl rfl k) ?_
  show Go _ _ _ _ (T67.setTop (mkF m 95 #[vR p0, vI (2 : Int32), vI p2, vI w] [(.ref b67), (.ref b67), (.ref p0)]))
  obtain ⟨a87, T87, h87, k87, X87, e87, E87, hS87, hk87, hZ87, hown87, st87⟩ := ldcS (s := s) (vm0 := s.vm) X67 hx hZ hown (wk hw 83 rfl) (fun d hd => hw d (own_wS d hd)) e67 ((State.WarmedH.refl s).since h0.size) F81 (g := (mkF m 95 #[vR p0, vI (2 : Int32), vI p2, vI w] [(.ref b67), (.ref b67), (.ref p0)])) rfl (hb hby d1_95) (n := 76) (by decide +kernel) (by decide) (by decide) (by decide)
  have F88 := F72.ext E87
  have F89 := F73.ext E87
  have F90 := F74.ext E87
  have F91 := F75.ext E87
  have F92 := F76.ext E87
  have F93 := F77.ext E87
  have F94 := F78.ext E87
  have F95 := F79.ext E87
  have F96 := Nat.le_trans F80 E87.1
  have F97 := Nat.le_trans F81 E87.1
  have F98 := F82.ext E87
  have F99 := F83.ext E87
  have F100 := A67.ext E87
  have F101 := F84.ext E87
  have F102 := F85.ext E87
  have F103 := F86.ext E87
  have hZ : Z.Warmed39 (s.setVm T87.vm).vm := hZ87
  have hown := hown87
  refine Go.back st87 ?_
  show Go _ _ _ _ (T87.setTop (mkF m 97 #[vR p0, vI (2 : Int32), vI p2, vI w] [(.ref a87), (.ref b67), (.ref b67), (.ref p0)]))
  obtain ⟨_, _, ⟨T104, L104, k104, n104⟩, -, X104, ⟨Lc104, hQ104, l104, y104, z104⟩, st104⟩ := X87.specialBack hx (y := (⟨"com/example/onward/onward/lts/IntBlocks", "<init>", "(Ljava/lang/String;)V"⟩ : MethodName)) rfl hown (mvT hZ (wk hw 91 rfl)) (mvT hZ (wk hw 92 rfl)) (mvT hZ (wk hw 93 rfl)) (by decide) (backOf (W := 2) (rm9 l Z a0 hw [] b67 a87 h87 n0 F96 F100 F101 F102 F103 g70) hZ (wk hw 93 rfl) (wk hw 82 rfl) (by decide) (by decide)) (g := (mkF m 97 #[vR p0, vI (2 : Int32), vI p2, vI w] [(.ref a87), (.ref b67), (.ref b67), (.ref p0)])) rfl (by rw [hml]; rfl) (Steps.refl _) (a := b67) (argsL := [(.ref a87)]) (rest := [(.ref b67), (.ref p0)]) (lenOf pd_7 rfl) rfl (by show 2 * 0 + _ ≤ _; exact Nat.le_of_eq rfl) (hb hby d1_97) (fun _ _ => ⟨rfl, e87, (by decide : 4 + 2 ≤ _), (by decide : 86 + 17 ≤ _)⟩)
  dsimp only [Pt.U, Pt.locs, Pt.cells, Pt.slots] at X104 l104 y104 z104 st104 hQ104
  subst l104 y104 z104
  obtain ⟨h104, e104⟩ : ∃ z, T104.heap = z := ⟨_, rfl⟩
  rw [e104] at hQ104
  obtain ⟨rfl, N104q, K104, o119, o120, sz121, sz122, ne123, F134, F135, F136, F137⟩ := hQ104
  obtain ⟨Lo104, Y104, N104⟩ := pk X104 (Fr.app N54 N104q)
  have F105 := F88.keep K104
  have F106 := F89.keep K104 (ninS ne68 nin0)
  have F107 := F90.keep K104 (ninS ne68 nin0)
  have F108 := F91.keep K104 (ninS ne68 nin0)
  have F109 := F92.keep K104 (ninS ne68 nin0)
  have F110 := F93.keep K104 (ninS ne68 nin0)
  have F111 := F94.keep K104 (ninS ne68 nin0)
  have F112 := F95.keep K104 (ninS ne68 nin0)
  have F113 := Nat.le_trans F96 K104.1
  have F114 := Nat.le_trans F97 K104.1
  have F115 := F98.trans K104 (allS (P := fun x => x ∈ [p0] ∨ h0.size ≤ x) (Or.inr sz71) all0)
  have F116 := F99.keep K104 (ninS ne69 nin0)
  have F117 := F100.keep K104
  have F118 := Nat.le_trans hk87 K104.1
  have g124 : n0 ≤ o119 := Nat.le_trans F96 sz121
  have sz125 : h0.size ≤ o119 := Nat.le_trans F98.1 sz121
  have ne126 := neC F88.lt sz121
  have ne127 := neC F99.lt sz121
  have ne128 := neC F100.lt sz121
  have g129 : n0 ≤ o120 := Nat.le_trans F96 sz122
  have sz130 : h0.size ≤ o120 := Nat.le_trans F98.1 sz122
  have ne131 := neC F88.lt sz122
  have ne132 := neC F99.lt sz122
  have ne133 := neC F100.lt sz122
  refine Go.trans st104 ?_
  show Go _ _ _ _ (T104.setTop (mkF m 100 #[vR p0, vI (2 : Int32), vI p2, vI w] [(.ref b67), (.ref p0)]))
  obtain ⟨T138, h138, X138, e138, W138, st138⟩ := putF Y104 hx hZ hown (host := "") (Or.inl (wk hw 19 rfl)) Via.refl e104 F109 F105 (Or.inl (wk hw 20 rfl)) (wk hw 1 rfl) (ty := (.object "com/example/onward/onward/lts/IntBlocks")) (by decide) rfl rfl (g := (mkF m 100 #[vR p0, vI (2 : Int32), vI p2, vI w] [(.ref b67), (.ref p0)])) rfl rfl (hb hby d1_100)
  have F139 := F105.wr W138
  have F140 := F106.other W138 (Or.inr (slot_ne (Or.inr (wk hw 13 rfl)) (Or.inl (wk hw 20 rfl)) (by decide) (t := .int) (t' := (.object "com/example/onward/onward/lts/IntBlocks")) (by decide) (by decide)))
  have F141 := F107.other W138 (Or.inr (slot_ne (Or.inr (wk hw 16 rfl)) (Or.inl (wk hw 20 rfl)) (by decide) (t := (.array .long)) (t' := (.object "com/example/onward/onward/lts/IntBlocks")) (by decide) (by decide)))
  have F142 := F108.other W138 (Or.inr (slot_ne (Or.inr (wk hw 18 rfl)) (Or.inl (wk hw 20 rfl)) (by decide) (t := (.array .int)) (t' := (.object "com/example/onward/onward/lts/IntBlocks")) (by decide) (by decide)))
  have F143 : Fld Z h138 p0 cR "lists" dI (.ref b67) := F109.same W138
  have F144 := F110.other W138 (Or.inr (slot_ne (Or.inr (wk hw 22 rfl)) (Or.inl (wk hw 20 rfl)) (by decide) (t := (.array .long)) (t' := (.object "com/example/onward/onward/lts/IntBlocks")) (by decide) (by decide)))
  have F145 := F111.other W138 (Or.inr (slot_ne (Or.inl (wk hw 65 rfl)) (Or.inl (wk hw 20 rfl)) (by decide) (t := .int) (t' := (.object "com/example/onward/onward/lts/IntBlocks")) (by decide) (by decide)))
  have F146 := F112.other W138 (Or.inr (slot_ne (Or.inr (wk hw 10 rfl)) (Or.inl (wk hw 20 rfl)) (by decide) (t := .int) (t' := (.object "com/example/onward/onward/lts/IntBlocks")) (by decide) (by decide)))
  have F147 := Nat.le_trans F113 (Keep.of_wr W138).1
  have F148 := Nat.le_trans F114 (Keep.of_wr W138).1
  have F149 := F115.wr W138 (Or.inl (List.mem_of_getElem? (i := 0) rfl))
  have F150 := F116.other W138 (Ne.symm ne39)
  have F151 := F117.wr W138
  have F152 := Nat.le_trans F118 (Keep.of_wr W138).1
  have F153 := F134.other W138 (Or.inl (Ne.symm ne68))
  have F154 := F135.other W138 (Or.inl (Ne.symm ne68))
  have F155 := F136.other W138 (Ne.symm ne126)
  have F156 := F137.other W138 (Ne.symm ne131)
  obtain ⟨Lo138, Y138, N138⟩ := pk X138 (Fr.snoc X138 N104 H8)
  refine Go.back st138 ?_
  refine Go.back (fun t k => XS.aloadN Y138.here hx rfl (hb hby d1_103) rfl rfl  k) ?_
  refine Go.back (fun t k => XS.iloadN Y138.here hx rfl (hb hby d1_104) rfl  k) ?_
  obtain ⟨T157, h157, k157, X157, e157, E157, A157, st157⟩ := newP Y138 hx hZ (wk hw 14 rfl) e138 (g := (mkF m 105 #[vR p0, vI (2 : Int32), vI p2, vI w] [(.int w), (.ref p0)])) rfl (hb hby d1_105) rfl (own_w8_c hW).1 (cap := 8) (own_w8_c hW).2.1 (by decide) (by decide) (by decide)
  obtain ⟨b157, g157⟩ : ∃ z, z = h138.size := ⟨_, rfl⟩
  rw [← g157] at A157 st157
  have ne158 := neB F139.lt g157
  have ne159 := neB F150.lt g157
  have ne160 := neB F151.lt g157
  have ne161 := neB F155.lt g157
  have ne162 := neB F156.lt g157
  have g163 : n0 ≤ b157 := Nat.le_trans F147 (Nat.le_of_eq g157.symm)
  have sz164 : h0.size ≤ b157 := Nat.le_trans F149.1 (Nat.le_of_eq g157.symm)
  have F165 := F139.ext E157
  have F166 := F140.ext E157
  have F167 := F141.ext E157
  have F168 := F142.ext E157
  have F169 := F143.ext E157
  have F170 := F144.ext E157
  have F171 := F145.ext E157
  have F172 := F146.ext E157
  have F173 := Nat.le_trans F147 E157.1
  have F174 := Nat.le_trans F148 E157.1
  have F175 := F149.ext E157
  have F176 := F150.ext E157
  have F177 := F151.ext E157
  have F178 := Nat.le_trans F152 E157.1
  have F179 := F153.ext E157
  have F180 := F154.ext E157
  have F181 := F155.ext E157
  have F182 := F156.ext E157
  have F183 : ArL Z h157 b157 .long (List.map Value.long (List.replicate (w).toNatClampNeg (0 : Int64))) := ArL.newJ (ty := .long) A157 (n := (w).toNatClampNeg) rfl
  refine Go.back st157 ?_
  show Go _ _ _ _ (T157.setTop (mkF m 107 #[vR p0, vI (2 : Int32), vI p2, vI w] [(.ref b157), (.ref p0)]))
  obtain ⟨T184, h184, X184, e184, W184, st184⟩ := putF X157 hx hZ hown (host := "") (Or.inl (wk hw 21 rfl)) Via.refl e157 F170 F165 (Or.inr ⟨(wk hw 22 rfl), rfl, hnm⟩) (wk hw 1 rfl) (ty := (.array .long)) (by decide) rfl rfl (g := (mkF m 107 #[vR p0, vI (2 : Int32), vI p2, vI w] [(.ref b157), (.ref p0)])) rfl rfl (hb hby d1_107)
  have F185 := F165.wr W184
  have F186 := F166.other W184 (Or.inr (slot_ne (Or.inr (wk hw 13 rfl)) (Or.inr (wk hw 22 rfl)) (by decide) (t := .int) (t' := (.array .long)) (by decide) (by decide)))
  have F187 := F167.other W184 (Or.inr (slot_ne (Or.inr (wk hw 16 rfl)) (Or.inr (wk hw 22 rfl)) (by decide) (t := (.array .long)) (t' := (.array .long)) (by decide) (by decide)))
  have F188 := F168.other W184 (Or.inr (slot_ne (Or.inr (wk hw 18 rfl)) (Or.inr (wk hw 22 rfl)) (by decide) (t := (.array .int)) (t' := (.array .long)) (by decide) (by decide)))
  have F189 := F169.other W184 (Or.inr (slot_ne (Or.inl (wk hw 20 rfl)) (Or.inr (wk hw 22 rfl)) (by decide) (t := (.object "com/example/onward/onward/lts/IntBlocks")) (t' := (.array .long)) (by decide) (by decide)))
  have F190 : Fld Z h184 p0 cR "anywhere" "[J" (.ref b157) := F170.same W184
  have F191 := F171.other W184 (Or.inr (slot_ne (Or.inl (wk hw 65 rfl)) (Or.inr (wk hw 22 rfl)) (by decide) (t := .int) (t' := (.array .long)) (by decide) (by decide)))
  have F192 := F172.other W184 (Or.inr (slot_ne (Or.inr (wk hw 10 rfl)) (Or.inr (wk hw 22 rfl)) (by decide) (t := .int) (t' := (.array .long)) (by decide) (by decide)))
  have F193 := Nat.le_trans F173 (Keep.of_wr W184).1
  have F194 := Nat.le_trans F174 (Keep.of_wr W184).1
  have F195 := F175.wr W184 (Or.inl (List.mem_of_getElem? (i := 0) rfl))
  have F196 := F176.other W184 (Ne.symm ne39)
  have F197 := F177.wr W184
  have F198 := Nat.le_trans F178 (Keep.of_wr W184).1
  have F199 := F179.other W184 (Or.inl (Ne.symm ne68))
  have F200 := F180.other W184 (Or.inl (Ne.symm ne68))
  have F201 := F181.other W184 (Ne.symm ne126)
  have F202 := F182.other W184 (Ne.symm ne131)
  have F203 := F183.other W184 (Ne.symm ne158)
  obtain ⟨Lo184, Y184, N184⟩ := pk X184 (Fr.snoc X184 N138 H8)
  refine Go.back st184 ?_
  show Go _ _ _ _ (T184.setTop (mkF m 110 #[vR p0, vI (2 : Int32), vI p2, vI w] []))
  exact Go.retVW0 (s := s) (vm0 := T87.vm) (Qa := Q56 Z p0 p2 w h0 n0) Y184 hx hS87 (by first | exact Nat.le_refl _ | (rw [e184]; exact F198)) Bd.returns (hb hby d1_110) Bd.notSynchronized ⟨rfl, N184, (by rw [e184]; exact F195), b38, b67, b157, sz41, sz71, sz164, ne69, ne159, ne160, (by rw [e184]; exact F186), (by rw [e184]; exact F187), (by rw [e184]; exact F188), (by rw [e184]; exact F189), (by rw [e184]; exact F190), (by rw [e184]; exact F191), (by rw [e184]; exact F196), (by rw [e184]; exact F197), (by rw [e184]; exact F199), (by rw [e184]; exact F203)⟩ (by decide) (by decide)
theorem d4_0 : decode prog_63_method_1_code 0 = .ok (.aload_n 0, 1) := by decide +kernel
theorem d4_1 : decode prog_63_method_1_code 1 = .ok (.aload_n 1, 1) := by decide +kernel
theorem d4_2 : decode prog_63_method_1_code 2 = .ok (.putfield 3, 3) := by decide +kernel
theorem d4_5 : decode prog_63_method_1_code 5 = .ok (.aload_n 0, 1) := by decide +kernel
theorem d4_6 : decode prog_63_method_1_code 6 = .ok (.invokespecial 9, 3) := by decide +kernel
theorem d4_9 : decode prog_63_method_1_code 9 = .ok (.aload_n 0, 1) := by decide +kernel
theorem d4_10 : decode prog_63_method_1_code 10 = .ok (.aload_n 0, 1) := by decide +kernel
theorem d4_11 : decode prog_63_method_1_code 11 = .ok (.getfield 3, 3) := by decide +kernel
theorem d4_14 : decode prog_63_method_1_code 14 = .ok (.getfield 15, 3) := by decide +kernel
theorem d4_17 : decode prog_63_method_1_code 17 = .ok (.arraylength, 1) := by decide +kernel
theorem d4_18 : decode prog_63_method_1_code 18 = .ok (.newarray .long, 2) := by decide +kernel
theorem d4_20 : decode prog_63_method_1_code 20 = .ok (.putfield 19, 3) := by decide +kernel
theorem d4_23 : decode prog_63_method_1_code 23 = .ok (.aload_n 0, 1) := by decide +kernel
theorem d4_24 : decode prog_63_method_1_code 24 = .ok (.bipush 16, 2) := by decide +kernel
theorem d4_26 : decode prog_63_method_1_code 26 = .ok (.newarray .int, 2) := by decide +kernel
theorem d4_28 : decode prog_63_method_1_code 28 = .ok (.putfield 20, 3) := by decide +kernel
theorem d4_31 : decode prog_63_method_1_code 31 = .ok (.aload_n 0, 1) := by decide +kernel
theorem d4_32 : decode prog_63_method_1_code 32 = .ok (.iload_n 2, 1) := by decide +kernel
theorem d4_33 : decode prog_63_method_1_code 33 = .ok (.putfield 24, 3) := by decide +kernel
theorem d4_36 : decode prog_63_method_1_code 36 = .ok (.aload_n 0, 1) := by decide +kernel
theorem d4_37 : decode prog_63_method_1_code 37 = .ok (.iload_n 3, 1) := by decide +kernel
theorem d4_38 : decode prog_63_method_1_code 38 = .ok (.putfield 28, 3) := by decide +kernel
theorem d4_41 : decode prog_63_method_1_code 41 = .ok (.aload_n 0, 1) := by decide +kernel
theorem d4_42 : decode prog_63_method_1_code 42 = .ok (.iload_n 2, 1) := by decide +kernel
theorem d4_43 : decode prog_63_method_1_code 43 = .ok (.putfield 31, 3) := by decide +kernel
theorem d4_46 : decode prog_63_method_1_code 46 = .ok (.aload_n 0, 1) := by decide +kernel
theorem d4_47 : decode prog_63_method_1_code 47 = .ok (.aload_n 1, 1) := by decide +kernel
theorem d4_48 : decode prog_63_method_1_code 48 = .ok (.getfield 34, 3) := by decide +kernel
theorem d4_51 : decode prog_63_method_1_code 51 = .ok (.ifnonnull 15, 3) := by decide +kernel
theorem d4_54 : decode prog_63_method_1_code 54 = .ok (.new 37, 3) := by decide +kernel
theorem d4_57 : decode prog_63_method_1_code 57 = .ok (.dup, 1) := by decide +kernel
theorem d4_58 : decode prog_63_method_1_code 58 = .ok (.ldc 39, 2) := by decide +kernel
theorem d4_60 : decode prog_63_method_1_code 60 = .ok (.invokespecial 41, 3) := by decide +kernel
theorem d4_63 : decode prog_63_method_1_code 63 = .ok (.goto 4, 3) := by decide +kernel
theorem d4_67 : decode prog_63_method_1_code 67 = .ok (.putfield 44, 3) := by decide +kernel
theorem d4_70 : decode prog_63_method_1_code 70 = .ok (.return_, 1) := by decide +kernel
def Q57 (Z : State) (p0 : Addr) (p1 : Addr) (aa : Addr) (xs : List Int64) (h0 : Heap) (n0 : Nat) (v : Option Value) (h : Heap) (L : List Loc) : Prop := v = none ∧ Fr n0 L ∧ Keep h0 h [p0] ∧ ∃ an cu li ob bl : Addr, h0.size ≤ an ∧ h0.size ≤ cu ∧ h0.size ≤ li ∧ h0.size ≤ ob ∧ h0.size ≤ bl ∧ an ≠ cu ∧ an ≠ li ∧ an ≠ ob ∧ an ≠ bl ∧ cu ≠ li ∧ cu ≠ ob ∧ cu ≠ bl ∧ li ≠ ob ∧ li ≠ bl ∧ ob ≠ bl ∧ Fld Z h p0 cP "this$0" dR (.ref p1) ∧ Fld Z h p0 cP "anywhere" "[J" (.ref an) ∧ Fld Z h p0 cP "current" "[I" (.ref cu) ∧ Fld Z h p0 cP "first" "I" (.int (0 : Int32)) ∧ Fld Z h p0 cP "end" "I" (.int (2 : Int32)) ∧ Fld Z h p0 cP "filling" "I" (.int (0 : Int32)) ∧ Fld Z h p0 cP "listed" dI (.ref li) ∧ Fld Z h p0 cP "currentCount" "I" (.int (0 : Int32)) ∧ ArL Z h an .long (List.map Value.long (List.replicate (List.length xs) (0 : Int64))) ∧ ArL Z h cu .int [(.int (0 : Int32)), (.int (0 : Int32)), (.int (0 : Int32)), (.int (0 : Int32)), (.int (0 : Int32)), (.int (0 : Int32)), (.int (0 : Int32)), (.int (0 : Int32)), (.int (0 : Int32)), (.int (0 : Int32)), (.int (0 : Int32)), (.int (0 : Int32)), (.int (0 : Int32)), (.int (0 : Int32)), (.int (0 : Int32)), (.int (0 : Int32))] ∧ Exa Z h li cI ∧ Fld Z h li cI "size" "I" (.int (0 : Int32)) ∧ Fld Z h li cI "blocks" "[[I" (.ref ob) ∧ ArL Z h ob (.array .int) [(.ref bl)] ∧ ArL Z h bl .int [(.int (0 : Int32)), (.int (0 : Int32)), (.int (0 : Int32)), (.int (0 : Int32)), (.int (0 : Int32)), (.int (0 : Int32)), (.int (0 : Int32)), (.int (0 : Int32)), (.int (0 : Int32)), (.int (0 : Int32)), (.int (0 : Int32)), (.int (0 : Int32)), (.int (0 : Int32)), (.int (0 : Int32)), (.int (0 : Int32)), (.int (0 : Int32))]
abbrev rmm57 : Room := { frames := 2, cells := 7, slots := 124, locals := 27 }
abbrev P57 (Z : State) (p0 : Addr) (p1 : Addr) (aa : Addr) (xs : List Int64) (h0 : Heap) (n0 : Nat) (s : State) : Outcome → State → Prop := fun o U' => ∃ v L, o = .returned v ∧ Q57 Z p0 p1 aa xs h0 n0 v U'.heap L ∧ ReturnedEndW s o U' L rmm57.cells rmm57.slots
theorem pn_57 : plainName "com/example/onward/onward/check/RequirementRows$Part" = true := by first | (simp [plainName, overriddenIn]; done) | decide +kernel
theorem ef_57 (m : MethodId) (p0 : Addr) (p1 : Addr) : entryFrame m #[(.ref p0), (.ref p1), (.int (0 : Int32)), (.int (2 : Int32))] 4 = mkF m 0 #[vR p0, vR p1, vI (0 : Int32), vI (2 : Int32)] [] := by first | (simp [entryFrame, mkF, argsToLocals, Value.category]; done) | rfl
set_option maxRecDepth 65536 in
set_option maxHeartbeats 40000000 in
theorem rm57 (l : Launch) (Z : State) (a0 : Array Value) (hw : ∀ d ∈ tables_1, d.before a0 Z = true) (ws : List Jvm.Cond) (p0 : Addr) (p1 : Addr) (aa : Addr) (xs : List Int64) (h0 : Heap) (n0 : Nat) (Z0 : n0 ≤ h0.size) (H0 : Exa Z h0 p0 cP) (H1 : Fld Z h0 p0 cP "this$0" dR .null) (H2 : Fld Z h0 p0 cP "anywhere" "[J" .null) (H3 : Fld Z h0 p0 cP "current" "[I" .null) (H4 : Fld Z h0 p0 cP "first" "I" (.int (0 : Int32))) (H5 : Fld Z h0 p0 cP "end" "I" (.int (0 : Int32))) (H6 : Fld Z h0 p0 cP "filling" "I" (.int (0 : Int32))) (H7 : Fld Z h0 p0 cP "listed" dI .null) (H8 : Fld Z h0 p0 cP "currentCount" "I" (.int (0 : Int32))) (H9 : n0 ≤ p0) (H10 : Fld Z h0 p1 cR "rows" "[J" .null) (H11 : Fld Z h0 p1 cR "anywhere" "[J" (.ref aa)) (H12 : ArL Z h0 aa .long (List.map Value.long xs)) (H13 : p0 ≠ p1) (H14 : p0 ≠ aa) (H15 : p1 ≠ aa) (hx8 : xs.length ≤ 8) :
    MetFree l (⟨"com/example/onward/onward/check/RequirementRows$Part", "<init>", "(Lcom/example/onward/onward/check/RequirementRows;II)V"⟩ : MethodName) (head1 (Jvm.Cond.code (⟨"com/example/onward/onward/check/RequirementRows$Part", "<init>", "(Lcom/example/onward/onward/check/RequirementRows;II)V"⟩ : MethodName) prog_63_method_1_code 4 none :: ws) rmm57) (fun a U => a = #[(.ref p0), (.ref p1), (.int (0 : Int32)), (.int (2 : Int32))] ∧ Z.Warmed39 U.vm ∧ U.heap = h0) (fun _ _ _ _ _ => True) (fun _ U o U' => ∃ v L, o = .returned v ∧ Q57 Z p0 p1 aa xs h0 n0 v U'.heap L ∧ ReturnedEndW U o U' L rmm57.cells rmm57.slots) := by
  refine MetFree.of_bodySF (plainFor_of_name pn_57) hisR ?_
  intro p e s m args below meth c s₁ Bd hml0 hP hK
  obtain ⟨rfl, hZ, hh⟩ := hP
  have hx := Bd.exec
  have hby := Bd.bytes
  have hml : c.maxLocals = 4 := hml0
  have hown : s.vm.findClass "com/example/onward/onward/check/RequirementRows$Part" = some m.cls := findClass_of_methodNamed Bd.named
  have hnm := (name_of_methodNamed Bd.named Bd.method).1
  have X0 : Stand p l e rmm57 s m #[(.ref p0), (.ref p1), (.int (0 : Int32)), (.int (2 : Int32))] below meth c s₁ [] 0 0 := Stand.of_body Bd
  have e0 : s₁.heap = h0 := by rw [← hh, Bd.state]; rfl
  have N0 := Fr.nil n0
  show Go p.tables e below (P57 Z p0 p1 aa xs h0 n0 s) (s₁.setTop (entryFrame m #[(.ref p0), (.ref p1), (.int (0 : Int32)), (.int (2 : Int32))] 4))
  refine Go.back (fun t k => castTop (ef_57 m p0 p1) k) ?_
  show Go p.tables e below (P57 Z p0 p1 aa xs h0 n0 s) (s₁.setTop (mkF m 0 #[vR p0, vR p1, vI (0 : Int32), vI (2 : Int32)] []))
  refine Go.back (fun t k => XS.aloadN X0.here hx rfl (hb hby d4_0) rfl rfl  k) ?_
  refine Go.back (fun t k => XS.aloadN X0.here hx rfl (hb hby d4_1) rfl rfl  k) ?_
  obtain ⟨T1, h1, X1, e1, W1, st1⟩ := putF X0 hx hZ hown (host := "") (Or.inl (wk hw 34 rfl)) Via.refl e0 H1 H0 (Or.inr ⟨(wk hw 35 rfl), rfl, hnm⟩) (wk hw 29 rfl) (ty := (.object "com/example/onward/onward/check/RequirementRows")) (by decide) rfl rfl (g := (mkF m 2 #[vR p0, vR p1, vI (0 : Int32), vI (2 : Int32)] [(.ref p1), (.ref p0)])) rfl rfl (hb hby d4_2)
  have F2 := H0.wr W1
  have F3 : Fld Z h1 p0 cP "this$0" dR (.ref p1) := H1.same W1
  have F4 := H2.other W1 (Or.inr (slot_ne (Or.inr (wk hw 39 rfl)) (Or.inr (wk hw 35 rfl)) (by decide) (t := (.array .long)) (t' := (.object "com/example/onward/onward/check/RequirementRows")) (by decide) (by decide)))
  have F5 := H3.other W1 (Or.inr (slot_ne (Or.inl (wk hw 42 rfl)) (Or.inr (wk hw 35 rfl)) (by decide) (t := (.array .int)) (t' := (.object "com/example/onward/onward/check/RequirementRows")) (by decide) (by decide)))
  have F6 := H4.other W1 (Or.inr (slot_ne (Or.inr (wk hw 44 rfl)) (Or.inr (wk hw 35 rfl)) (by decide) (t := .int) (t' := (.object "com/example/onward/onward/check/RequirementRows")) (by decide) (by decide)))
  have F7 := H5.other W1 (Or.inr (slot_ne (Or.inr (wk hw 46 rfl)) (Or.inr (wk hw 35 rfl)) (by decide) (t := .int) (t' := (.object "com/example/onward/onward/check/RequirementRows")) (by decide) (by decide)))
  have F8 := H6.other W1 (Or.inr (slot_ne (Or.inl (wk hw 48 rfl)) (Or.inr (wk hw 35 rfl)) (by decide) (t := .int) (t' := (.object "com/example/onward/onward/check/RequirementRows")) (by decide) (by decide)))
  have F9 := H7.other W1 (Or.inr (slot_ne (Or.inr (wk hw 51 rfl)) (Or.inr (wk hw 35 rfl)) (by decide) (t := (.object "com/example/onward/onward/lts/IntBlocks")) (t' := (.object "com/example/onward/onward/check/RequirementRows")) (by decide) (by decide)))
  have F10 := H8.other W1 (Or.inr (slot_ne (Or.inl (wk hw 110 rfl)) (Or.inr (wk hw 35 rfl)) (by decide) (t := .int) (t' := (.object "com/example/onward/onward/check/RequirementRows")) (by decide) (by decide)))
  have F11 := H10.other W1 (Or.inl (Ne.symm H13))
  have F12 := H11.other W1 (Or.inl (Ne.symm H13))
  have F13 := H12.other W1 (Ne.symm H14)
  have F14 := Nat.le_trans Z0 (Keep.of_wr W1).1
  have F15 : h0.size ≤ h1.size := Nat.le_trans (Nat.le_refl _) (Keep.of_wr W1).1
  have F16 : Keep h0 h1 [p0] := (Keep.refl h0 [p0]).wr W1 (Or.inl (List.mem_of_getElem? (i := 0) rfl))
  obtain ⟨Lo1, Y1, N1⟩ := pk X1 (Fr.snoc X1 N0 H9)
  refine Go.back st1 ?_
  refine Go.back (fun t k => XS.aloadN Y1.here hx rfl (hb hby d4_5) rfl rfl  k) ?_
  show Go _ _ _ _ (T1.setTop (mkF m 6 #[vR p0, vR p1, vI (0 : Int32), vI (2 : Int32)] [(.ref p0)]))
  obtain ⟨T17, X17, e17, st17⟩ := initO Y1 hx hZ hown (wk hw 36 rfl) (wk hw 7 rfl) (wk hw 8 rfl) e1 (g := (mkF m 6 #[vR p0, vR p1, vI (0 : Int32), vI (2 : Int32)] [(.ref p0)])) rfl (by rw [hml]; rfl) rfl (hb hby d4_6) (by decide) (W := 0) (by show 2 * 0 + _ ≤ _; exact Nat.le_of_eq rfl) (by decide)
  refine Go.back st17 ?_
  show Go _ _ _ _ (T17.setTop (mkF m 9 #[vR p0, vR p1, vI (0 : Int32), vI (2 : Int32)] []))
  refine Go.back (fun t k => XS.aloadN X17.here hx rfl (hb hby d4_9) rfl rfl  k) ?_
  refine Go.back (fun t k => XS.aloadN X17.here hx rfl (hb hby d4_10) rfl rfl  k) ?_
  obtain ⟨T18, X18, e18, st18⟩ := getF X17 hx hZ hown (host := "") (Or.inl (wk hw 34 rfl)) Via.refl e17 F3 (g := (mkF m 11 #[vR p0, vR p1, vI (0 : Int32), vI (2 : Int32)] [(.ref p0), (.ref p0)])) rfl rfl (hb hby d4_11)
  refine Go.back st18 ?_
  obtain ⟨T19, X19, e19, st19⟩ := getF X18 hx hZ hown (Or.inr (wk hw 37 rfl)) Via.refl e18 F12 (g := (mkF m 14 #[vR p0, vR p1, vI (0 : Int32), vI (2 : Int32)] [(.ref p1), (.ref p0)])) rfl rfl (hb hby d4_14)
  refine Go.back st19 ?_
  show Go _ _ _ _ (T19.setTop (mkF m 17 #[vR p0, vR p1, vI (0 : Int32), vI (2 : Int32)] [(.ref aa), (.ref p0)]))
  obtain ⟨cl20, Ar20, S20⟩ := F13.len
  refine Go.back (fun t k => X19.arraylength hx (by rw [e19]; exact Ar20.1) (State.isArrayOf_alike hZ.alike Ar20.2.1) (g := (mkF m 17 #[vR p0, vR p1, vI (0 : Int32), vI (2 : Int32)] [(.ref aa), (.ref p0)])) rfl rfl (hb hby d4_17) t k) ?_
  rw [S20]
  rw [List.length_map]
  obtain ⟨T21, h21, k21, X21, e21, E21, A21, st21⟩ := newP X19 hx hZ (wk hw 14 rfl) e19 (g := (mkF m 18 #[vR p0, vR p1, vI (0 : Int32), vI (2 : Int32)] [(.int (List.length xs).toInt32), (.ref p0)])) rfl (hb hby d4_18) rfl (own_l8 hx8).1 (cap := 8) (own_l8 hx8).2.1 (by decide) (by decide) (by decide)
  obtain ⟨b21, g21⟩ : ∃ z, z = h1.size := ⟨_, rfl⟩
  rw [← g21] at A21 st21
  have ne22 := neB F2.lt g21
  have ne23 := neB F11.lt g21
  have ne24 := neB F13.lt g21
  have g25 : n0 ≤ b21 := Nat.le_trans F14 (Nat.le_of_eq g21.symm)
  have sz26 : h0.size ≤ b21 := Nat.le_trans F16.1 (Nat.le_of_eq g21.symm)
  have F27 := F2.ext E21
  have F28 := F3.ext E21
  have F29 := F4.ext E21
  have F30 := F5.ext E21
  have F31 := F6.ext E21
  have F32 := F7.ext E21
  have F33 := F8.ext E21
  have F34 := F9.ext E21
  have F35 := F10.ext E21
  have F36 := F11.ext E21
  have F37 := F12.ext E21
  have F38 := F13.ext E21
  have F39 := Nat.le_trans F14 E21.1
  have F40 := Nat.le_trans F15 E21.1
  have F41 := F16.ext E21
  have F42 : ArL Z h21 b21 .long (List.map Value.long (List.replicate (List.length xs) (0 : Int64))) := ArL.newJ (ty := .long) A21 (n := (List.length xs)) (own_l8 hx8).2.2.1
  refine Go.back st21 ?_
  obtain ⟨T43, h43, X43, e43, W43, st43⟩ := putF X21 hx hZ hown (host := "") (Or.inl (wk hw 38 rfl)) Via.refl e21 F29 F27 (Or.inr ⟨(wk hw 39 rfl), rfl, hnm⟩) (wk hw 29 rfl) (ty := (.array .long)) (by decide) rfl rfl (g := (mkF m 20 #[vR p0, vR p1, vI (0 : Int32), vI (2 : Int32)] [(.ref b21), (.ref p0)])) rfl rfl (hb hby d4_20)
  have F44 := F27.wr W43
  have F45 := F28.other W43 (Or.inr (slot_ne (Or.inr (wk hw 35 rfl)) (Or.inr (wk hw 39 rfl)) (by decide) (t := (.object "com/example/onward/onward/check/RequirementRows")) (t' := (.array .long)) (by decide) (by decide)))
  have F46 : Fld Z h43 p0 cP "anywhere" "[J" (.ref b21) := F29.same W43
  have F47 := F30.other W43 (Or.inr (slot_ne (Or.inl (wk hw 42 rfl)) (Or.inr (wk hw 39 rfl)) (by decide) (t := (.array .int)) (t' := (.array .long)) (by decide) (by decide)))
  have F48 := F31.other W43 (Or.inr (slot_ne (Or.inr (wk hw 44 rfl)) (Or.inr (wk hw 39 rfl)) (by decide) (t := .int) (t' := (.array .long)) (by decide) (by decide)))
  have F49 := F32.other W43 (Or.inr (slot_ne (Or.inr (wk hw 46 rfl)) (Or.inr (wk hw 39 rfl)) (by decide) (t := .int) (t' := (.array .long)) (by decide) (by decide)))
  have F50 := F33.other W43 (Or.inr (slot_ne (Or.inl (wk hw 48 rfl)) (Or.inr (wk hw 39 rfl)) (by decide) (t := .int) (t' := (.array .long)) (by decide) (by decide)))
  have F51 := F34.other W43 (Or.inr (slot_ne (Or.inr (wk hw 51 rfl)) (Or.inr (wk hw 39 rfl)) (by decide) (t := (.object "com/example/onward/onward/lts/IntBlocks")) (t' := (.array .long)) (by decide) (by decide)))
  have F52 := F35.other W43 (Or.inr (slot_ne (Or.inl (wk hw 110 rfl)) (Or.inr (wk hw 39 rfl)) (by decide) (t := .int) (t' := (.array .long)) (by decide) (by decide)))
  have F53 := F36.other W43 (Or.inl (Ne.symm H13))
  have F54 := F37.other W43 (Or.inl (Ne.symm H13))
  have F55 := F38.other W43 (Ne.symm H14)
  have F56 := Nat.le_trans F39 (Keep.of_wr W43).1
  have F57 := Nat.le_trans F40 (Keep.of_wr W43).1
  have F58 := F41.wr W43 (Or.inl (List.mem_of_getElem? (i := 0) rfl))
  have F59 := F42.other W43 (Ne.symm ne22)
  obtain ⟨Lo43, Y43, N43⟩ := pk X43 (Fr.snoc X43 N1 H9)
  refine Go.back st43 ?_
  refine Go.back (fun t k => XS.aloadN Y43.here hx rfl (hb hby d4_23) rfl rfl  k) ?_
  show Go _ _ _ _ (T43.setTop (mkF m 24 #[vR p0, vR p1, vI (0 : Int32), vI (2 : Int32)] [(.ref p0)]))
  refine Go.back (fun t k => XS.bipush Y43.here hx rfl (hb hby d4_24) k) ?_
  obtain ⟨T60, h60, k60, X60, e60, E60, A60, st60⟩ := newP Y43 hx hZ (wk hw 40 rfl) e43 (g := (mkF m 26 #[vR p0, vR p1, vI (0 : Int32), vI (2 : Int32)] [(.int (16 : Int32)), (.ref p0)])) rfl (hb hby d4_26) rfl (by decide) (cap := 16) (by decide) (by decide) (by decide) (by decide)
  obtain ⟨b60, g60⟩ : ∃ z, z = h43.size := ⟨_, rfl⟩
  rw [← g60] at A60 st60
  have ne61 := neB F44.lt g60
  have ne62 := neB F53.lt g60
  have ne63 := neB F55.lt g60
  have ne64 := neB F59.lt g60
  have g65 : n0 ≤ b60 := Nat.le_trans F56 (Nat.le_of_eq g60.symm)
  have sz66 : h0.size ≤ b60 := Nat.le_trans F58.1 (Nat.le_of_eq g60.symm)
  have F67 := F44.ext E60
  have F68 := F45.ext E60
  have F69 := F46.ext E60
  have F70 := F47.ext E60
  have F71 := F48.ext E60
  have F72 := F49.ext E60
  have F73 := F50.ext E60
  have F74 := F51.ext E60
  have F75 := F52.ext E60
  have F76 := F53.ext E60
  have F77 := F54.ext E60
  have F78 := F55.ext E60
  have F79 := Nat.le_trans F56 E60.1
  have F80 := Nat.le_trans F57 E60.1
  have F81 := F58.ext E60
  have F82 := F59.ext E60
  have F83 : ArL Z h60 b60 .int [(.int (0 : Int32)), (.int (0 : Int32)), (.int (0 : Int32)), (.int (0 : Int32)), (.int (0 : Int32)), (.int (0 : Int32)), (.int (0 : Int32)), (.int (0 : Int32)), (.int (0 : Int32)), (.int (0 : Int32)), (.int (0 : Int32)), (.int (0 : Int32)), (.int (0 : Int32)), (.int (0 : Int32)), (.int (0 : Int32)), (.int (0 : Int32))] := ArL.new (ty := .int) A60 (n := 16) rfl
  refine Go.back st60 ?_
  obtain ⟨T84, h84, X84, e84, W84, st84⟩ := putF X60 hx hZ hown (host := "") (Or.inl (wk hw 41 rfl)) Via.refl e60 F70 F67 (Or.inl (wk hw 42 rfl)) (wk hw 29 rfl) (ty := (.array .int)) (by decide) rfl rfl (g := (mkF m 28 #[vR p0, vR p1, vI (0 : Int32), vI (2 : Int32)] [(.ref b60), (.ref p0)])) rfl rfl (hb hby d4_28)
  have F85 := F67.wr W84
  have F86 := F68.other W84 (Or.inr (slot_ne (Or.inr (wk hw 35 rfl)) (Or.inl (wk hw 42 rfl)) (by decide) (t := (.object "com/example/onward/onward/check/RequirementRows")) (t' := (.array .int)) (by decide) (by decide)))
  have F87 := F69.other W84 (Or.inr (slot_ne (Or.inr (wk hw 39 rfl)) (Or.inl (wk hw 42 rfl)) (by decide) (t := (.array .long)) (t' := (.array .int)) (by decide) (by decide)))
  have F88 : Fld Z h84 p0 cP "current" "[I" (.ref b60) := F70.same W84
  have F89 := F71.other W84 (Or.inr (slot_ne (Or.inr (wk hw 44 rfl)) (Or.inl (wk hw 42 rfl)) (by decide) (t := .int) (t' := (.array .int)) (by decide) (by decide)))
  have F90 := F72.other W84 (Or.inr (slot_ne (Or.inr (wk hw 46 rfl)) (Or.inl (wk hw 42 rfl)) (by decide) (t := .int) (t' := (.array .int)) (by decide) (by decide)))
  have F91 := F73.other W84 (Or.inr (slot_ne (Or.inl (wk hw 48 rfl)) (Or.inl (wk hw 42 rfl)) (by decide) (t := .int) (t' := (.array .int)) (by decide) (by decide)))
  have F92 := F74.other W84 (Or.inr (slot_ne (Or.inr (wk hw 51 rfl)) (Or.inl (wk hw 42 rfl)) (by decide) (t := (.object "com/example/onward/onward/lts/IntBlocks")) (t' := (.array .int)) (by decide) (by decide)))
  have F93 := F75.other W84 (Or.inr (slot_ne (Or.inl (wk hw 110 rfl)) (Or.inl (wk hw 42 rfl)) (by decide) (t := .int) (t' := (.array .int)) (by decide) (by decide)))
  have F94 := F76.other W84 (Or.inl (Ne.symm H13))
  have F95 := F77.other W84 (Or.inl (Ne.symm H13))
  have F96 := F78.other W84 (Ne.symm H14)
  have F97 := Nat.le_trans F79 (Keep.of_wr W84).1
  have F98 := Nat.le_trans F80 (Keep.of_wr W84).1
  have F99 := F81.wr W84 (Or.inl (List.mem_of_getElem? (i := 0) rfl))
  have F100 := F82.other W84 (Ne.symm ne22)
  have F101 := F83.other W84 (Ne.symm ne61)
  obtain ⟨Lo84, Y84, N84⟩ := pk X84 (Fr.snoc X84 N43 H9)
  refine Go.back st84 ?_
  refine Go.back (fun t k => XS.aloadN Y84.here hx rfl (hb hby d4_31) rfl rfl  k) ?_
  show Go _ _ _ _ (T84.setTop (mkF m 32 #[vR p0, vR p1, vI (0 : Int32), vI (2 : Int32)] [(.ref p0)]))
  refine Go.back (fun t k => XS.iloadN Y84.here hx rfl (hb hby d4_32) rfl  k) ?_
  obtain ⟨T102, h102, X102, e102, W102, st102⟩ := putF Y84 hx hZ hown (host := "") (Or.inl (wk hw 43 rfl)) Via.refl e84 F89 F85 (Or.inr ⟨(wk hw 44 rfl), rfl, hnm⟩) (wk hw 29 rfl) (ty := .int) (by decide) rfl rfl (g := (mkF m 33 #[vR p0, vR p1, vI (0 : Int32), vI (2 : Int32)] [(.int (0 : Int32)), (.ref p0)])) rfl rfl (hb hby d4_33)
  have F103 := F85.wr W102
  have F104 := F86.other W102 (Or.inr (slot_ne (Or.inr (wk hw 35 rfl)) (Or.inr (wk hw 44 rfl)) (by decide) (t := (.object "com/example/onward/onward/check/RequirementRows")) (t' := .int) (by decide) (by decide)))
  have F105 := F87.other W102 (Or.inr (slot_ne (Or.inr (wk hw 39 rfl)) (Or.inr (wk hw 44 rfl)) (by decide) (t := (.array .long)) (t' := .int) (by decide) (by decide)))
  have F106 := F88.other W102 (Or.inr (slot_ne (Or.inl (wk hw 42 rfl)) (Or.inr (wk hw 44 rfl)) (by decide) (t := (.array .int)) (t' := .int) (by decide) (by decide)))
  have F107 := F89.same W102
  have F108 := F90.other W102 (Or.inr (slot_ne (Or.inr (wk hw 46 rfl)) (Or.inr (wk hw 44 rfl)) (by decide) (t := .int) (t' := .int) (by decide) (by decide)))
  have F109 := F91.other W102 (Or.inr (slot_ne (Or.inl (wk hw 48 rfl)) (Or.inr (wk hw 44 rfl)) (by decide) (t := .int) (t' := .int) (by decide) (by decide)))
  have F110 := F92.other W102 (Or.inr (slot_ne (Or.inr (wk hw 51 rfl)) (Or.inr (wk hw 44 rfl)) (by decide) (t := (.object "com/example/onward/onward/lts/IntBlocks")) (t' := .int) (by decide) (by decide)))
  have F111 := F93.other W102 (Or.inr (slot_ne (Or.inl (wk hw 110 rfl)) (Or.inr (wk hw 44 rfl)) (by decide) (t := .int) (t' := .int) (by decide) (by decide)))
  have F112 := F94.other W102 (Or.inl (Ne.symm H13))
  have F113 := F95.other W102 (Or.inl (Ne.symm H13))
  have F114 := F96.other W102 (Ne.symm H14)
  have F115 := Nat.le_trans F97 (Keep.of_wr W102).1
  have F116 := Nat.le_trans F98 (Keep.of_wr W102).1
  have F117 := F99.wr W102 (Or.inl (List.mem_of_getElem? (i := 0) rfl))
  have F118 := F100.other W102 (Ne.symm ne22)
  have F119 := F101.other W102 (Ne.symm ne61)
  obtain ⟨Lo102, Y102, N102⟩ := pk X102 (Fr.snoc X102 N84 H9)
  refine Go.back st102 ?_
  refine Go.back (fun t k => XS.aloadN Y102.here hx rfl (hb hby d4_36) rfl rfl  k) ?_
  refine Go.back (fun t k => XS.iloadN Y102.here hx rfl (hb hby d4_37) rfl  k) ?_
  show Go _ _ _ _ (T102.setTop (mkF m 38 #[vR p0, vR p1, vI (0 : Int32), vI (2 : Int32)] [(.int (2 : Int32)), (.ref p0)]))
  obtain ⟨T120, h120, X120, e120, W120, st120⟩ := putF Y102 hx hZ hown (host := "") (Or.inl (wk hw 45 rfl)) Via.refl e102 F108 F103 (Or.inr ⟨(wk hw 46 rfl), rfl, hnm⟩) (wk hw 29 rfl) (ty := .int) (by decide) rfl rfl (g := (mkF m 38 #[vR p0, vR p1, vI (0 : Int32), vI (2 : Int32)] [(.int (2 : Int32)), (.ref p0)])) rfl rfl (hb hby d4_38)
  have F121 := F103.wr W120
  have F122 := F104.other W120 (Or.inr (slot_ne (Or.inr (wk hw 35 rfl)) (Or.inr (wk hw 46 rfl)) (by decide) (t := (.object "com/example/onward/onward/check/RequirementRows")) (t' := .int) (by decide) (by decide)))
  have F123 := F105.other W120 (Or.inr (slot_ne (Or.inr (wk hw 39 rfl)) (Or.inr (wk hw 46 rfl)) (by decide) (t := (.array .long)) (t' := .int) (by decide) (by decide)))
  have F124 := F106.other W120 (Or.inr (slot_ne (Or.inl (wk hw 42 rfl)) (Or.inr (wk hw 46 rfl)) (by decide) (t := (.array .int)) (t' := .int) (by decide) (by decide)))
  have F125 := F107.other W120 (Or.inr (slot_ne (Or.inr (wk hw 44 rfl)) (Or.inr (wk hw 46 rfl)) (by decide) (t := .int) (t' := .int) (by decide) (by decide)))
  have F126 : Fld Z h120 p0 cP "end" "I" (.int (2 : Int32)) := F108.same W120
  have F127 := F109.other W120 (Or.inr (slot_ne (Or.inl (wk hw 48 rfl)) (Or.inr (wk hw 46 rfl)) (by decide) (t := .int) (t' := .int) (by decide) (by decide)))
  have F128 := F110.other W120 (Or.inr (slot_ne (Or.inr (wk hw 51 rfl)) (Or.inr (wk hw 46 rfl)) (by decide) (t := (.object "com/example/onward/onward/lts/IntBlocks")) (t' := .int) (by decide) (by decide)))
  have F129 := F111.other W120 (Or.inr (slot_ne (Or.inl (wk hw 110 rfl)) (Or.inr (wk hw 46 rfl)) (by decide) (t := .int) (t' := .int) (by decide) (by decide)))
  have F130 := F112.other W120 (Or.inl (Ne.symm H13))
  have F131 := F113.other W120 (Or.inl (Ne.symm H13))
  have F132 := F114.other W120 (Ne.symm H14)
  have F133 := Nat.le_trans F115 (Keep.of_wr W120).1
  have F134 := Nat.le_trans F116 (Keep.of_wr W120).1
  have F135 := F117.wr W120 (Or.inl (List.mem_of_getElem? (i := 0) rfl))
  have F136 := F118.other W120 (Ne.symm ne22)
  have F137 := F119.other W120 (Ne.symm ne61)
  obtain ⟨Lo120, Y120, N120⟩ := pk X120 (Fr.snoc X120 N102 H9)
  refine Go.back st120 ?_
  refine Go.back (fun t k => XS.aloadN Y120.here hx rfl (hb hby d4_41) rfl rfl  k) ?_
  refine Go.back (fun t k => XS.iloadN Y120.here hx rfl (hb hby d4_42) rfl  k) ?_
  obtain ⟨T138, h138, X138, e138, W138, st138⟩ := putF Y120 hx hZ hown (host := "") (Or.inl (wk hw 47 rfl)) Via.refl e120 F127 F121 (Or.inl (wk hw 48 rfl)) (wk hw 29 rfl) (ty := .int) (by decide) rfl rfl (g := (mkF m 43 #[vR p0, vR p1, vI (0 : Int32), vI (2 : Int32)] [(.int (0 : Int32)), (.ref p0)])) rfl rfl (hb hby d4_43)
  have F139 := F121.wr W138
  have F140 := F122.other W138 (Or.inr (slot_ne (Or.inr (wk hw 35 rfl)) (Or.inl (wk hw 48 rfl)) (by decide) (t := (.object "com/example/onward/onward/check/RequirementRows")) (t' := .int) (by decide) (by decide)))
  have F141 := F123.other W138 (Or.inr (slot_ne (Or.inr (wk hw 39 rfl)) (Or.inl (wk hw 48 rfl)) (by decide) (t := (.array .long)) (t' := .int) (by decide) (by decide)))
  have F142 := F124.other W138 (Or.inr (slot_ne (Or.inl (wk hw 42 rfl)) (Or.inl (wk hw 48 rfl)) (by decide) (t := (.array .int)) (t' := .int) (by decide) (by decide)))
  have F143 := F125.other W138 (Or.inr (slot_ne (Or.inr (wk hw 44 rfl)) (Or.inl (wk hw 48 rfl)) (by decide) (t := .int) (t' := .int) (by decide) (by decide)))
  have F144 := F126.other W138 (Or.inr (slot_ne (Or.inr (wk hw 46 rfl)) (Or.inl (wk hw 48 rfl)) (by decide) (t := .int) (t' := .int) (by decide) (by decide)))
  have F145 := F127.same W138
  have F146 := F128.other W138 (Or.inr (slot_ne (Or.inr (wk hw 51 rfl)) (Or.inl (wk hw 48 rfl)) (by decide) (t := (.object "com/example/onward/onward/lts/IntBlocks")) (t' := .int) (by decide) (by decide)))
  have F147 := F129.other W138 (Or.inr (slot_ne (Or.inl (wk hw 110 rfl)) (Or.inl (wk hw 48 rfl)) (by decide) (t := .int) (t' := .int) (by decide) (by decide)))
  have F148 := F130.other W138 (Or.inl (Ne.symm H13))
  have F149 := F131.other W138 (Or.inl (Ne.symm H13))
  have F150 := F132.other W138 (Ne.symm H14)
  have F151 := Nat.le_trans F133 (Keep.of_wr W138).1
  have F152 := Nat.le_trans F134 (Keep.of_wr W138).1
  have F153 := F135.wr W138 (Or.inl (List.mem_of_getElem? (i := 0) rfl))
  have F154 := F136.other W138 (Ne.symm ne22)
  have F155 := F137.other W138 (Ne.symm ne61)
  obtain ⟨Lo138, Y138, N138⟩ := pk X138 (Fr.snoc X138 N120 H9)
  refine Go.back st138 ?_
  show Go _ _ _ _ (T138.setTop (mkF m 46 #[vR p0, vR p1, vI (0 : Int32), vI (2 : Int32)] []))
  refine Go.back (fun t k => XS.aloadN Y138.here hx rfl (hb hby d4_46) rfl rfl  k) ?_
  refine Go.back (fun t k => XS.aloadN Y138.here hx rfl (hb hby d4_47) rfl rfl  k) ?_
  obtain ⟨T156, X156, e156, st156⟩ := getF Y138 hx hZ hown (Or.inr (wk hw 49 rfl)) Via.refl e138 F148 (g := (mkF m 48 #[vR p0, vR p1, vI (0 : Int32), vI (2 : Int32)] [(.ref p1), (.ref p0)])) rfl rfl (hb hby d4_48)
  refine Go.back st156 ?_
  show Go _ _ _ _ (T156.setTop (mkF m 51 #[vR p0, vR p1, vI (0 : Int32), vI (2 : Int32)] [.null, (.ref p0)]))
  refine Go.back (fun t k => XS.ifnonnullNo X156.here hx rfl (hb hby d4_51) rfl k) ?_
  show Go _ _ _ _ (T156.setTop (mkF m 54 #[vR p0, vR p1, vI (0 : Int32), vI (2 : Int32)] [(.ref p0)]))
  obtain ⟨T157, h157, X157, e157, E157, A157, D157, -, st157⟩ := newO X156 hx hZ hown (wk hw 102 rfl) (wk hw 81 rfl) (wk hw 82 rfl) e156 (g := (mkF m 54 #[vR p0, vR p1, vI (0 : Int32), vI (2 : Int32)] [(.ref p0)])) rfl (hb hby d4_54) (by decide) (by decide)
  obtain ⟨b157, g157⟩ : ∃ z, z = h138.size := ⟨_, rfl⟩
  rw [← g157] at A157 D157 st157
  have ne158 := neB F139.lt g157
  have ne159 := neB F148.lt g157
  have ne160 := neB F150.lt g157
  have ne161 := neB F154.lt g157
  have ne162 := neB F155.lt g157
  have g163 : n0 ≤ b157 := Nat.le_trans F151 (Nat.le_of_eq g157.symm)
  have sz164 : h0.size ≤ b157 := Nat.le_trans F153.1 (Nat.le_of_eq g157.symm)
  have F165 := F139.ext E157
  have F166 := F140.ext E157
  have F167 := F141.ext E157
  have F168 := F142.ext E157
  have F169 := F143.ext E157
  have F170 := F144.ext E157
  have F171 := F145.ext E157
  have F172 := F146.ext E157
  have F173 := F147.ext E157
  have F174 := F148.ext E157
  have F175 := F149.ext E157
  have F176 := F150.ext E157
  have F177 := Nat.le_trans F151 E157.1
  have F178 := Nat.le_trans F152 E157.1
  have F179 := F153.ext E157
  have F180 := F154.ext E157
  have F181 := F155.ext E157
  have F182 : Fld Z h157 b157 cI "blocks" "[[I" .null := D157 (Or.inl (wk hw 99 rfl)) (ty := (.array (.array .int))) (by decide)
  have F183 : Fld Z h157 b157 cI "what" "Ljava/lang/String;" .null := D157 (Or.inr (wk hw 101 rfl)) (ty := (.object "java/lang/String")) (by decide)
  have F184 : Fld Z h157 b157 cI "size" "I" (.int (0 : Int32)) := D157 (Or.inl (wk hw 138 rfl)) (ty := .int) (by decide)
  refine Go.back st157 ?_
  refine Go.back (fun t k => XS.dup X157.here hx rfl (hb hby d4_57) rfl rfl k) ?_
  show Go _ _ _ _ (T157.setTop (mkF m 58 #[vR p0, vR p1, vI (0 : Int32), vI (2 : Int32)] [(.ref b157), (.ref b157), (.ref p0)]))
  obtain ⟨a185, T185, h185, k185, X185, e185, E185, hS185, hk185, hZ185, hown185, st185⟩ := ldcS (s := s) (vm0 := s.vm) X157 hx hZ hown (wk hw 103 rfl) (fun d hd => hw d (own_wS d hd)) e157 ((State.WarmedH.refl s).since h0.size) F178 (g := (mkF m 58 #[vR p0, vR p1, vI (0 : Int32), vI (2 : Int32)] [(.ref b157), (.ref b157), (.ref p0)])) rfl (hb hby d4_58) (n := 76) (by decide +kernel) (by decide) (by decide) (by decide)
  have F186 := F165.ext E185
  have F187 := F166.ext E185
  have F188 := F167.ext E185
  have F189 := F168.ext E185
  have F190 := F169.ext E185
  have F191 := F170.ext E185
  have F192 := F171.ext E185
  have F193 := F172.ext E185
  have F194 := F173.ext E185
  have F195 := F174.ext E185
  have F196 := F175.ext E185
  have F197 := F176.ext E185
  have F198 := Nat.le_trans F177 E185.1
  have F199 := Nat.le_trans F178 E185.1
  have F200 := F179.ext E185
  have F201 := F180.ext E185
  have F202 := F181.ext E185
  have F203 := A157.ext E185
  have F204 := F182.ext E185
  have F205 := F183.ext E185
  have F206 := F184.ext E185
  have hZ : Z.Warmed39 (s.setVm T185.vm).vm := hZ185
  have hown := hown185
  refine Go.back st185 ?_
  show Go _ _ _ _ (T185.setTop (mkF m 60 #[vR p0, vR p1, vI (0 : Int32), vI (2 : Int32)] [(.ref a185), (.ref b157), (.ref b157), (.ref p0)]))
  obtain ⟨_, _, ⟨T207, L207, k207, n207⟩, -, X207, ⟨Lc207, hQ207, l207, y207, z207⟩, st207⟩ := X185.specialBack hx (y := (⟨"com/example/onward/onward/lts/IntBlocks", "<init>", "(Ljava/lang/String;)V"⟩ : MethodName)) rfl hown (mvT hZ (wk hw 104 rfl)) (mvT hZ (wk hw 92 rfl)) (mvT hZ (wk hw 93 rfl)) (by decide) (backOf (W := 2) (rm9 l Z a0 hw [] b157 a185 h185 n0 F198 F203 F204 F205 F206 g163) hZ (wk hw 93 rfl) (wk hw 82 rfl) (by decide) (by decide)) (g := (mkF m 60 #[vR p0, vR p1, vI (0 : Int32), vI (2 : Int32)] [(.ref a185), (.ref b157), (.ref b157), (.ref p0)])) rfl (by rw [hml]; rfl) (Steps.refl _) (a := b157) (argsL := [(.ref a185)]) (rest := [(.ref b157), (.ref p0)]) (lenOf pd_7 rfl) rfl (by show 2 * 0 + _ ≤ _; exact Nat.le_of_eq rfl) (hb hby d4_60) (fun _ _ => ⟨rfl, e185, (by decide : 5 + 2 ≤ _), (by decide : 107 + 17 ≤ _)⟩)
  dsimp only [Pt.U, Pt.locs, Pt.cells, Pt.slots] at X207 l207 y207 z207 st207 hQ207
  subst l207 y207 z207
  obtain ⟨h207, e207⟩ : ∃ z, T207.heap = z := ⟨_, rfl⟩
  rw [e207] at hQ207
  obtain ⟨rfl, N207q, K207, o227, o228, sz229, sz230, ne231, F248, F249, F250, F251⟩ := hQ207
  obtain ⟨Lo207, Y207, N207⟩ := pk X207 (Fr.app N138 N207q)
  have F208 := F186.keep K207
  have F209 := F187.keep K207 (ninS ne158 nin0)
  have F210 := F188.keep K207 (ninS ne158 nin0)
  have F211 := F189.keep K207 (ninS ne158 nin0)
  have F212 := F190.keep K207 (ninS ne158 nin0)
  have F213 := F191.keep K207 (ninS ne158 nin0)
  have F214 := F192.keep K207 (ninS ne158 nin0)
  have F215 := F193.keep K207 (ninS ne158 nin0)
  have F216 := F194.keep K207 (ninS ne158 nin0)
  have F217 := F195.keep K207 (ninS ne159 nin0)
  have F218 := F196.keep K207 (ninS ne159 nin0)
  have F219 := F197.keep K207 (ninS ne160 nin0)
  have F220 := Nat.le_trans F198 K207.1
  have F221 := Nat.le_trans F199 K207.1
  have F222 := F200.trans K207 (allS (P := fun x => x ∈ [p0] ∨ h0.size ≤ x) (Or.inr sz164) all0)
  have F223 := F201.keep K207 (ninS ne161 nin0)
  have F224 := F202.keep K207 (ninS ne162 nin0)
  have F225 := F203.keep K207
  have F226 := Nat.le_trans hk185 K207.1
  have g232 : n0 ≤ o227 := Nat.le_trans F198 sz229
  have sz233 : h0.size ≤ o227 := Nat.le_trans F200.1 sz229
  have ne234 := neC F186.lt sz229
  have ne235 := neC F195.lt sz229
  have ne236 := neC F197.lt sz229
  have ne237 := neC F201.lt sz229
  have ne238 := neC F202.lt sz229
  have ne239 := neC F203.lt sz229
  have g240 : n0 ≤ o228 := Nat.le_trans F198 sz230
  have sz241 : h0.size ≤ o228 := Nat.le_trans F200.1 sz230
  have ne242 := neC F186.lt sz230
  have ne243 := neC F195.lt sz230
  have ne244 := neC F197.lt sz230
  have ne245 := neC F201.lt sz230
  have ne246 := neC F202.lt sz230
  have ne247 := neC F203.lt sz230
  refine Go.trans st207 ?_
  show Go _ _ _ _ (T207.setTop (mkF m 63 #[vR p0, vR p1, vI (0 : Int32), vI (2 : Int32)] [(.ref b157), (.ref p0)]))
  refine Go.back (fun t k => XS.goto Y207.here hx rfl (pc0 := 63) (pc' := 67) rfl (hb hby d4_63) (by decide) (by decide) k) ?_
  obtain ⟨T252, h252, X252, e252, W252, st252⟩ := putF Y207 hx hZ hown (host := "") (Or.inl (wk hw 50 rfl)) Via.refl e207 F215 F208 (Or.inr ⟨(wk hw 51 rfl), rfl, hnm⟩) (wk hw 29 rfl) (ty := (.object "com/example/onward/onward/lts/IntBlocks")) (by decide) rfl rfl (g := (mkF m 67 #[vR p0, vR p1, vI (0 : Int32), vI (2 : Int32)] [(.ref b157), (.ref p0)])) rfl rfl (hb hby d4_67)
  have F253 := F208.wr W252
  have F254 := F209.other W252 (Or.inr (slot_ne (Or.inr (wk hw 35 rfl)) (Or.inr (wk hw 51 rfl)) (by decide) (t := (.object "com/example/onward/onward/check/RequirementRows")) (t' := (.object "com/example/onward/onward/lts/IntBlocks")) (by decide) (by decide)))
  have F255 := F210.other W252 (Or.inr (slot_ne (Or.inr (wk hw 39 rfl)) (Or.inr (wk hw 51 rfl)) (by decide) (t := (.array .long)) (t' := (.object "com/example/onward/onward/lts/IntBlocks")) (by decide) (by decide)))
  have F256 := F211.other W252 (Or.inr (slot_ne (Or.inl (wk hw 42 rfl)) (Or.inr (wk hw 51 rfl)) (by decide) (t := (.array .int)) (t' := (.object "com/example/onward/onward/lts/IntBlocks")) (by decide) (by decide)))
  have F257 := F212.other W252 (Or.inr (slot_ne (Or.inr (wk hw 44 rfl)) (Or.inr (wk hw 51 rfl)) (by decide) (t := .int) (t' := (.object "com/example/onward/onward/lts/IntBlocks")) (by decide) (by decide)))
  have F258 := F213.other W252 (Or.inr (slot_ne (Or.inr (wk hw 46 rfl)) (Or.inr (wk hw 51 rfl)) (by decide) (t := .int) (t' := (.object "com/example/onward/onward/lts/IntBlocks")) (by decide) (by decide)))
  have F259 := F214.other W252 (Or.inr (slot_ne (Or.inl (wk hw 48 rfl)) (Or.inr (wk hw 51 rfl)) (by decide) (t := .int) (t' := (.object "com/example/onward/onward/lts/IntBlocks")) (by decide) (by decide)))
  have F260 : Fld Z h252 p0 cP "listed" dI (.ref b157) := F215.same W252
  have F261 := F216.other W252 (Or.inr (slot_ne (Or.inl (wk hw 110 rfl)) (Or.inr (wk hw 51 rfl)) (by decide) (t := .int) (t' := (.object "com/example/onward/onward/lts/IntBlocks")) (by decide) (by decide)))
  have F262 := F217.other W252 (Or.inl (Ne.symm H13))
  have F263 := F218.other W252 (Or.inl (Ne.symm H13))
  have F264 := F219.other W252 (Ne.symm H14)
  have F265 := Nat.le_trans F220 (Keep.of_wr W252).1
  have F266 := Nat.le_trans F221 (Keep.of_wr W252).1
  have F267 := F222.wr W252 (Or.inl (List.mem_of_getElem? (i := 0) rfl))
  have F268 := F223.other W252 (Ne.symm ne22)
  have F269 := F224.other W252 (Ne.symm ne61)
  have F270 := F225.wr W252
  have F271 := Nat.le_trans F226 (Keep.of_wr W252).1
  have F272 := F248.other W252 (Or.inl (Ne.symm ne158))
  have F273 := F249.other W252 (Or.inl (Ne.symm ne158))
  have F274 := F250.other W252 (Ne.symm ne234)
  have F275 := F251.other W252 (Ne.symm ne242)
  obtain ⟨Lo252, Y252, N252⟩ := pk X252 (Fr.snoc X252 N207 H9)
  refine Go.back st252 ?_
  show Go _ _ _ _ (T252.setTop (mkF m 70 #[vR p0, vR p1, vI (0 : Int32), vI (2 : Int32)] []))
  exact Go.retVW0 (s := s) (vm0 := T185.vm) (Qa := Q57 Z p0 p1 aa xs h0 n0) Y252 hx hS185 (by first | exact Nat.le_refl _ | (rw [e252]; exact F271)) Bd.returns (hb hby d4_70) Bd.notSynchronized ⟨rfl, N252, (by rw [e252]; exact F267), b21, b60, b157, o227, o228, sz26, sz66, sz164, sz233, sz241, ne64, ne161, ne237, ne245, ne162, ne238, ne246, ne239, ne247, ne231, (by rw [e252]; exact F254), (by rw [e252]; exact F255), (by rw [e252]; exact F256), (by rw [e252]; exact F257), (by rw [e252]; exact F258), (by rw [e252]; exact F259), (by rw [e252]; exact F260), (by rw [e252]; exact F261), (by rw [e252]; exact F268), (by rw [e252]; exact F269), (by rw [e252]; exact F270), (by rw [e252]; exact F272), (by rw [e252]; exact F273), (by rw [e252]; exact F274), (by rw [e252]; exact F275)⟩ (by decide) (by decide)
theorem d3_0 : decode prog_61_method_2_code 0 = .ok (.new 47, 3) := by decide +kernel
theorem d3_3 : decode prog_61_method_2_code 3 = .ok (.dup, 1) := by decide +kernel
theorem d3_4 : decode prog_61_method_2_code 4 = .ok (.aload_n 0, 1) := by decide +kernel
theorem d3_5 : decode prog_61_method_2_code 5 = .ok (.iload_n 1, 1) := by decide +kernel
theorem d3_6 : decode prog_61_method_2_code 6 = .ok (.iload_n 2, 1) := by decide +kernel
theorem d3_7 : decode prog_61_method_2_code 7 = .ok (.invokespecial 49, 3) := by decide +kernel
theorem d3_10 : decode prog_61_method_2_code 10 = .ok (.areturn, 1) := by decide +kernel
def Q58 (Z : State) (p0 : Addr) (aa : Addr) (xs : List Int64) (h0 : Heap) (n0 : Nat) (v : Option Value) (h : Heap) (L : List Loc) : Prop := True ∧ Fr n0 L ∧ Keep h0 h [] ∧ ∃ pt an cu li ob bl : Addr, h0.size ≤ pt ∧ h0.size ≤ an ∧ h0.size ≤ cu ∧ h0.size ≤ li ∧ h0.size ≤ ob ∧ h0.size ≤ bl ∧ pt ≠ an ∧ pt ≠ cu ∧ pt ≠ li ∧ pt ≠ ob ∧ pt ≠ bl ∧ an ≠ cu ∧ an ≠ li ∧ an ≠ ob ∧ an ≠ bl ∧ cu ≠ li ∧ cu ≠ ob ∧ cu ≠ bl ∧ li ≠ ob ∧ li ≠ bl ∧ ob ≠ bl ∧ v = some (.ref pt) ∧ Exa Z h pt cP ∧ Fld Z h pt cP "this$0" dR (.ref p0) ∧ Fld Z h pt cP "anywhere" "[J" (.ref an) ∧ Fld Z h pt cP "current" "[I" (.ref cu) ∧ Fld Z h pt cP "first" "I" (.int (0 : Int32)) ∧ Fld Z h pt cP "end" "I" (.int (2 : Int32)) ∧ Fld Z h pt cP "filling" "I" (.int (0 : Int32)) ∧ Fld Z h pt cP "listed" dI (.ref li) ∧ Fld Z h pt cP "currentCount" "I" (.int (0 : Int32)) ∧ ArL Z h an .long (List.map Value.long (List.replicate (List.length xs) (0 : Int64))) ∧ ArL Z h cu .int [(.int (0 : Int32)), (.int (0 : Int32)), (.int (0 : Int32)), (.int (0 : Int32)), (.int (0 : Int32)), (.int (0 : Int32)), (.int (0 : Int32)), (.int (0 : Int32)), (.int (0 : Int32)), (.int (0 : Int32)), (.int (0 : Int32)), (.int (0 : Int32)), (.int (0 : Int32)), (.int (0 : Int32)), (.int (0 : Int32)), (.int (0 : Int32))] ∧ Exa Z h li cI ∧ Fld Z h li cI "size" "I" (.int (0 : Int32)) ∧ Fld Z h li cI "blocks" "[[I" (.ref ob) ∧ ArL Z h ob (.array .int) [(.ref bl)] ∧ ArL Z h bl .int [(.int (0 : Int32)), (.int (0 : Int32)), (.int (0 : Int32)), (.int (0 : Int32)), (.int (0 : Int32)), (.int (0 : Int32)), (.int (0 : Int32)), (.int (0 : Int32)), (.int (0 : Int32)), (.int (0 : Int32)), (.int (0 : Int32)), (.int (0 : Int32)), (.int (0 : Int32)), (.int (0 : Int32)), (.int (0 : Int32)), (.int (0 : Int32))]
abbrev rmm58 : Room := { frames := 3, cells := 8, slots := 132, locals := 43 }
abbrev P58 (Z : State) (p0 : Addr) (aa : Addr) (xs : List Int64) (h0 : Heap) (n0 : Nat) (s : State) : Outcome → State → Prop := fun o U' => ∃ v L, o = .returned v ∧ Q58 Z p0 aa xs h0 n0 v U'.heap L ∧ ReturnedEndW s o U' L rmm58.cells rmm58.slots
theorem pn_58 : plainName "com/example/onward/onward/check/RequirementRows" = true := by first | (simp [plainName, overriddenIn]; done) | decide +kernel
theorem ef_58 (m : MethodId) (p0 : Addr) : entryFrame m #[(.ref p0), (.int (0 : Int32)), (.int (2 : Int32))] 3 = mkF m 0 #[vR p0, vI (0 : Int32), vI (2 : Int32)] [] := by first | (simp [entryFrame, mkF, argsToLocals, Value.category]; done) | rfl
set_option maxRecDepth 65536 in
set_option maxHeartbeats 40000000 in
theorem rm58 (l : Launch) (Z : State) (a0 : Array Value) (hw : ∀ d ∈ tables_1, d.before a0 Z = true) (ws : List Jvm.Cond) (p0 : Addr) (aa : Addr) (xs : List Int64) (h0 : Heap) (n0 : Nat) (Z0 : n0 ≤ h0.size) (H0 : Fld Z h0 p0 cR "rows" "[J" .null) (H1 : Fld Z h0 p0 cR "anywhere" "[J" (.ref aa)) (H2 : ArL Z h0 aa .long (List.map Value.long xs)) (H3 : p0 ≠ aa) (hx8 : xs.length ≤ 8) :
    MetFree l (⟨"com/example/onward/onward/check/RequirementRows", "part", "(II)Lcom/example/onward/onward/check/RequirementRows$Part;"⟩ : MethodName) (head1 (Jvm.Cond.code (⟨"com/example/onward/onward/check/RequirementRows", "part", "(II)Lcom/example/onward/onward/check/RequirementRows$Part;"⟩ : MethodName) prog_61_method_2_code 3 (some (.object "com/example/onward/onward/check/RequirementRows$Part")) :: ws) rmm58) (fun a U => a = #[(.ref p0), (.int (0 : Int32)), (.int (2 : Int32))] ∧ Z.Warmed39 U.vm ∧ U.heap = h0) (fun _ _ _ _ _ => True) (fun _ U o U' => ∃ v L, o = .returned v ∧ Q58 Z p0 aa xs h0 n0 v U'.heap L ∧ ReturnedEndW U o U' L rmm58.cells rmm58.slots) := by
  refine MetFree.of_bodySF (plainFor_of_name pn_58) hisR ?_
  intro p e s m args below meth c s₁ Bd hml0 hP hK
  obtain ⟨rfl, hZ, hh⟩ := hP
  have hx := Bd.exec
  have hby := Bd.bytes
  have hml : c.maxLocals = 3 := hml0
  have hown : s.vm.findClass "com/example/onward/onward/check/RequirementRows" = some m.cls := findClass_of_methodNamed Bd.named
  have hnm := (name_of_methodNamed Bd.named Bd.method).1
  have X0 : Stand p l e rmm58 s m #[(.ref p0), (.int (0 : Int32)), (.int (2 : Int32))] below meth c s₁ [] 0 0 := Stand.of_body Bd
  have e0 : s₁.heap = h0 := by rw [← hh, Bd.state]; rfl
  have N0 := Fr.nil n0
  show Go p.tables e below (P58 Z p0 aa xs h0 n0 s) (s₁.setTop (entryFrame m #[(.ref p0), (.int (0 : Int32)), (.int (2 : Int32))] 3))
  refine Go.back (fun t k => castTop (ef_58 m p0) k) ?_
  show Go p.tables e below (P58 Z p0 aa xs h0 n0 s) (s₁.setTop (mkF m 0 #[vR p0, vI (0 : Int32), vI (2 : Int32)] []))
  obtain ⟨T1, h1, X1, e1, E1, A1, D1, -, st1⟩ := newO X0 hx hZ hown (wk hw 28 rfl) (wk hw 29 rfl) (wk hw 30 rfl) e0 (g := (mkF m 0 #[vR p0, vI (0 : Int32), vI (2 : Int32)] [])) rfl (hb hby d3_0) (by decide) (by decide)
  obtain ⟨b1, g1⟩ : ∃ z, z = h0.size := ⟨_, rfl⟩
  rw [← g1] at A1 D1 st1
  have ne2 := neB H0.lt g1
  have ne3 := neB H2.lt g1
  have g4 : n0 ≤ b1 := Nat.le_trans Z0 (Nat.le_of_eq g1.symm)
  have sz5 : h0.size ≤ b1 := Nat.le_trans (Keep.refl h0 []).1 (Nat.le_of_eq g1.symm)
  have F6 := H0.ext E1
  have F7 := H1.ext E1
  have F8 := H2.ext E1
  have F9 := Nat.le_trans Z0 E1.1
  have F10 : h0.size ≤ h1.size := Nat.le_trans (Nat.le_refl _) E1.1
  have F11 : Keep h0 h1 [] := (Keep.refl h0 []).ext E1
  have F12 : Fld Z h1 b1 cP "this$0" dR .null := D1 (Or.inr (wk hw 35 rfl)) (ty := (.object "com/example/onward/onward/check/RequirementRows")) (by decide)
  have F13 : Fld Z h1 b1 cP "anywhere" "[J" .null := D1 (Or.inr (wk hw 39 rfl)) (ty := (.array .long)) (by decide)
  have F14 : Fld Z h1 b1 cP "current" "[I" .null := D1 (Or.inl (wk hw 42 rfl)) (ty := (.array .int)) (by decide)
  have F15 : Fld Z h1 b1 cP "first" "I" (.int (0 : Int32)) := D1 (Or.inr (wk hw 44 rfl)) (ty := .int) (by decide)
  have F16 : Fld Z h1 b1 cP "end" "I" (.int (0 : Int32)) := D1 (Or.inr (wk hw 46 rfl)) (ty := .int) (by decide)
  have F17 : Fld Z h1 b1 cP "filling" "I" (.int (0 : Int32)) := D1 (Or.inl (wk hw 48 rfl)) (ty := .int) (by decide)
  have F18 : Fld Z h1 b1 cP "listed" dI .null := D1 (Or.inr (wk hw 51 rfl)) (ty := (.object "com/example/onward/onward/lts/IntBlocks")) (by decide)
  have F19 : Fld Z h1 b1 cP "currentCount" "I" (.int (0 : Int32)) := D1 (Or.inl (wk hw 110 rfl)) (ty := .int) (by decide)
  refine Go.back st1 ?_
  refine Go.back (fun t k => XS.dup X1.here hx rfl (hb hby d3_3) rfl rfl k) ?_
  refine Go.back (fun t k => XS.aloadN X1.here hx rfl (hb hby d3_4) rfl rfl  k) ?_
  refine Go.back (fun t k => XS.iloadN X1.here hx rfl (hb hby d3_5) rfl  k) ?_
  show Go _ _ _ _ (T1.setTop (mkF m 6 #[vR p0, vI (0 : Int32), vI (2 : Int32)] [(.int (0 : Int32)), (.ref p0), (.ref b1), (.ref b1)]))
  refine Go.back (fun t k => XS.iloadN X1.here hx rfl (hb hby d3_6) rfl  k) ?_
  obtain ⟨_, vm20, ⟨T20, L20, k20, n20⟩, -, X20, hS20, hg20, ⟨Lc20, hQ20, l20, y20, z20⟩, st20⟩ := specialBackSR X1 hx hZ (y := (⟨"com/example/onward/onward/check/RequirementRows$Part", "<init>", "(Lcom/example/onward/onward/check/RequirementRows;II)V"⟩ : MethodName)) rfl hown (wk hw 31 rfl) (wk hw 32 rfl) (wk hw 33 rfl) (by decide) (backOfS (W := 1) (rm57 l Z a0 hw [] b1 p0 aa xs h1 n0 F9 A1 F12 F13 F14 F15 F16 F17 F18 F19 g4 F6 F7 F8 (Ne.symm ne2) (Ne.symm ne3) H3 hx8) hZ (wk hw 33 rfl) (wk hw 30 rfl) (by decide) (by decide)) (g := (mkF m 7 #[vR p0, vI (0 : Int32), vI (2 : Int32)] [(.int (2 : Int32)), (.int (0 : Int32)), (.ref p0), (.ref b1), (.ref b1)])) rfl (by rw [hml]; rfl) (Steps.refl _) (a := b1) (argsL := [(.ref p0), (.int (0 : Int32)), (.int (2 : Int32))]) (rest := [(.ref b1)]) (lenOf pd_8 rfl) rfl (by show 2 * 0 + _ ≤ _; exact Nat.le_of_eq rfl) (hb hby d3_7) (fun _ _ => ⟨rfl, e1, (by decide : 1 + 7 ≤ _), (by decide : 8 + 124 ≤ _)⟩)
  dsimp only [Pt.U, Pt.locs, Pt.cells, Pt.slots] at X20 l20 y20 z20 st20 hQ20 hS20 hg20
  subst l20 y20 z20
  obtain ⟨h20, e20⟩ : ∃ z, T20.heap = z := ⟨_, rfl⟩
  rw [e20] at hQ20
  obtain ⟨rfl, N20q, K20, o28, o29, o30, o31, o32, sz33, sz34, sz35, sz36, sz37, ne38, ne39, ne40, ne41, ne42, ne43, ne44, ne45, ne46, ne47, F73, F74, F75, F76, F77, F78, F79, F80, F81, F82, F83, F84, F85, F86, F87⟩ := hQ20
  obtain ⟨Lo20, Y20, N20⟩ := pk X20 (Fr.app N0 N20q)
  have F21 := F6.keep K20 (ninS ne2 nin0)
  have F22 := F7.keep K20 (ninS ne2 nin0)
  have F23 := F8.keep K20 (ninS ne3 nin0)
  have F24 := Nat.le_trans F9 K20.1
  have F25 := Nat.le_trans F10 K20.1
  have F26 := F11.trans K20 (allS (P := fun x => x ∈ [] ∨ h0.size ≤ x) (Or.inr sz5) all0)
  have F27 := A1.keep K20
  have g48 : n0 ≤ o28 := Nat.le_trans F9 sz33
  have sz49 : h0.size ≤ o28 := Nat.le_trans F11.1 sz33
  have ne50 := neC F6.lt sz33
  have ne51 := neC F8.lt sz33
  have ne52 := neC A1.lt sz33
  have g53 : n0 ≤ o29 := Nat.le_trans F9 sz34
  have sz54 : h0.size ≤ o29 := Nat.le_trans F11.1 sz34
  have ne55 := neC F6.lt sz34
  have ne56 := neC F8.lt sz34
  have ne57 := neC A1.lt sz34
  have g58 : n0 ≤ o30 := Nat.le_trans F9 sz35
  have sz59 : h0.size ≤ o30 := Nat.le_trans F11.1 sz35
  have ne60 := neC F6.lt sz35
  have ne61 := neC F8.lt sz35
  have ne62 := neC A1.lt sz35
  have g63 : n0 ≤ o31 := Nat.le_trans F9 sz36
  have sz64 : h0.size ≤ o31 := Nat.le_trans F11.1 sz36
  have ne65 := neC F6.lt sz36
  have ne66 := neC F8.lt sz36
  have ne67 := neC A1.lt sz36
  have g68 : n0 ≤ o32 := Nat.le_trans F9 sz37
  have sz69 : h0.size ≤ o32 := Nat.le_trans F11.1 sz37
  have ne70 := neC F6.lt sz37
  have ne71 := neC F8.lt sz37
  have ne72 := neC A1.lt sz37
  have hS20' : s.Since T20.vm T20.heap.size := foldS (s := s) (vm0 := s.vm) (T := T1) (U := T20) ((State.WarmedH.refl s).since h0.size) (by first | exact Nat.le_refl _ | (rw [e1]; exact F10)) hS20 hg20
  have kz20 : T20.heap.size ≤ h20.size := Nat.le_of_eq (by rw [e20])
  have hown : (s.setVm T20.vm).vm.findClass "com/example/onward/onward/check/RequirementRows" = some m.cls := by rw [show (s.setVm T20.vm).vm = T20.vm from rfl, hS20.1.alike.findClass]; exact hown
  have hZ : Z.Warmed39 (s.setVm T20.vm).vm := State.Warmed39.trans (t := s) hZ hS20.1
  refine Go.trans st20 ?_
  show Go _ _ _ _ (T20.setTop (mkF m 10 #[vR p0, vI (0 : Int32), vI (2 : Int32)] [(.ref b1)]))
  exact Go.retRW0 (s := s) (vm0 := T20.vm) (Qa := Q58 Z p0 aa xs h0 n0) Y20 hx hS20' (by first | exact Nat.le_refl _ | (rw [e20]; exact kz20)) Bd.returns rfl (hb hby d3_10) Bd.notSynchronized ⟨trivial, N20, (by rw [e20]; exact F26), b1, o28, o29, o30, o31, o32, sz5, sz49, sz54, sz59, sz64, sz69, ne52, ne57, ne62, ne67, ne72, ne38, ne39, ne40, ne41, ne42, ne43, ne44, ne45, ne46, ne47, rfl, (by rw [e20]; exact F27), (by rw [e20]; exact F73), (by rw [e20]; exact F74), (by rw [e20]; exact F75), (by rw [e20]; exact F76), (by rw [e20]; exact F77), (by rw [e20]; exact F78), (by rw [e20]; exact F79), (by rw [e20]; exact F80), (by rw [e20]; exact F81), (by rw [e20]; exact F82), (by rw [e20]; exact F83), (by rw [e20]; exact F84), (by rw [e20]; exact F85), (by rw [e20]; exact F86), (by rw [e20]; exact F87)⟩ (by decide) (by decide)
theorem d1_22 : decode prog_61_method_1_code 22 = .ok (.iload_n 1, 1) := by decide +kernel
theorem d1_23 : decode prog_61_method_1_code 23 = .ok (.i2l, 1) := by decide +kernel
theorem d1_24 : decode prog_61_method_1_code 24 = .ok (.iload_n 3, 1) := by decide +kernel
theorem d1_25 : decode prog_61_method_1_code 25 = .ok (.i2l, 1) := by decide +kernel
theorem d1_26 : decode prog_61_method_1_code 26 = .ok (.lmul, 1) := by decide +kernel
theorem d1_27 : decode prog_61_method_1_code 27 = .ok (.ldc2_w 15, 3) := by decide +kernel
theorem d1_30 : decode prog_61_method_1_code 30 = .ok (.lcmp, 1) := by decide +kernel
theorem d1_31 : decode prog_61_method_1_code 31 = .ok (.ifCond .le 13, 3) := by decide +kernel
theorem d1_44 : decode prog_61_method_1_code 44 = .ok (.aload_n 0, 1) := by decide +kernel
theorem d1_45 : decode prog_61_method_1_code 45 = .ok (.iload_n 3, 1) := by decide +kernel
theorem d1_46 : decode prog_61_method_1_code 46 = .ok (.putfield 24, 3) := by decide +kernel
theorem d1_49 : decode prog_61_method_1_code 49 = .ok (.aload_n 0, 1) := by decide +kernel
theorem d1_50 : decode prog_61_method_1_code 50 = .ok (.iload_n 1, 1) := by decide +kernel
theorem d1_51 : decode prog_61_method_1_code 51 = .ok (.iload_n 3, 1) := by decide +kernel
theorem d1_52 : decode prog_61_method_1_code 52 = .ok (.imul, 1) := by decide +kernel
theorem d1_53 : decode prog_61_method_1_code 53 = .ok (.newarray .long, 2) := by decide +kernel
theorem d1_55 : decode prog_61_method_1_code 55 = .ok (.putfield 27, 3) := by decide +kernel
theorem d1_58 : decode prog_61_method_1_code 58 = .ok (.aload_n 0, 1) := by decide +kernel
theorem d1_59 : decode prog_61_method_1_code 59 = .ok (.aconst_null, 1) := by decide +kernel
theorem d1_60 : decode prog_61_method_1_code 60 = .ok (.putfield 31, 3) := by decide +kernel
theorem d1_63 : decode prog_61_method_1_code 63 = .ok (.aload_n 0, 1) := by decide +kernel
theorem d1_64 : decode prog_61_method_1_code 64 = .ok (.aconst_null, 1) := by decide +kernel
theorem d1_65 : decode prog_61_method_1_code 65 = .ok (.putfield 35, 3) := by decide +kernel
theorem d1_68 : decode prog_61_method_1_code 68 = .ok (.goto 35, 3) := by decide +kernel
def Q59 (Z : State) (p0 : Addr) (p2 : Int32) (w : Int32) (h0 : Heap) (n0 : Nat) (v : Option Value) (h : Heap) (L : List Loc) : Prop := v = none ∧ Fr n0 L ∧ Keep h0 h [p0] ∧ ∃ ro aa : Addr, h0.size ≤ ro ∧ h0.size ≤ aa ∧ ro ≠ aa ∧ Fld Z h p0 cR "words" "I" (.int w) ∧ Fld Z h p0 cR "rows" "[J" (.ref ro) ∧ Fld Z h p0 cR "starts" "[I" .null ∧ Fld Z h p0 cR "lists" dI .null ∧ Fld Z h p0 cR "anywhere" "[J" (.ref aa) ∧ Fld Z h p0 cR "joined" "I" (.int (0 : Int32)) ∧ ArL Z h ro .long (List.map Value.long (List.replicate ((2 : Int32) * w).toNatClampNeg (0 : Int64))) ∧ ArL Z h aa .long (List.map Value.long (List.replicate (w).toNatClampNeg (0 : Int64)))
abbrev rmm59 : Room := { frames := 1, cells := 2, slots := 16, locals := 12 }
abbrev P59 (Z : State) (p0 : Addr) (p2 : Int32) (w : Int32) (h0 : Heap) (n0 : Nat) (s : State) : Outcome → State → Prop := fun o U' => ∃ v L, o = .returned v ∧ Q59 Z p0 p2 w h0 n0 v U'.heap L ∧ FrameEnd s o U' L rmm59.cells rmm59.slots
theorem pn_59 : plainName "com/example/onward/onward/check/RequirementRows" = true := by first | (simp [plainName, overriddenIn]; done) | decide +kernel
theorem ef_59 (m : MethodId) (p0 : Addr) (p2 : Int32) : entryFrame m #[(.ref p0), (.int (2 : Int32)), (.int p2)] 4 = mkF m 0 #[vR p0, vI (2 : Int32), vI p2, uS] [] := by first | (simp [entryFrame, mkF, argsToLocals, Value.category]; done) | rfl
set_option maxRecDepth 65536 in
set_option maxHeartbeats 40000000 in
theorem rm59 (l : Launch) (Z : State) (a0 : Array Value) (hw : ∀ d ∈ tables_1, d.before a0 Z = true) (ws : List Jvm.Cond) (p0 : Addr) (p2 : Int32) (w : Int32) (h0 : Heap) (n0 : Nat) (Z0 : n0 ≤ h0.size) (H0 : Exa Z h0 p0 cR) (H1 : Fld Z h0 p0 cR "words" "I" (.int (0 : Int32))) (H2 : Fld Z h0 p0 cR "rows" "[J" .null) (H3 : Fld Z h0 p0 cR "starts" "[I" .null) (H4 : Fld Z h0 p0 cR "lists" dI .null) (H5 : Fld Z h0 p0 cR "anywhere" "[J" .null) (H6 : Fld Z h0 p0 cR "joined" "I" (.int (0 : Int32))) (H7 : Fld Z h0 p0 cR "requirements" "I" (.int (0 : Int32))) (H8 : n0 ≤ p0) (hwd : ((p2 + (63 : Int32)) / (64 : Int32)) = w) (hq4 : own_w4 w) :
    MetFree l (⟨"com/example/onward/onward/check/RequirementRows", "<init>", "(II)V"⟩ : MethodName) (head1 (Jvm.Cond.code (⟨"com/example/onward/onward/check/RequirementRows", "<init>", "(II)V"⟩ : MethodName) prog_61_method_1_code 4 none :: ws) rmm59) (fun a U => a = #[(.ref p0), (.int (2 : Int32)), (.int p2)] ∧ Z.Warmed39 U.vm ∧ U.heap = h0) (fun _ _ _ _ _ => True) (fun _ U o U' => ∃ v L, o = .returned v ∧ Q59 Z p0 p2 w h0 n0 v U'.heap L ∧ FrameEnd U o U' L rmm59.cells rmm59.slots) := by
  refine MetFree.of_bodySF (plainFor_of_name pn_59) hisR ?_
  intro p e s m args below meth c s₁ Bd hml0 hP hK
  obtain ⟨rfl, hZ, hh⟩ := hP
  have hx := Bd.exec
  have hby := Bd.bytes
  have hml : c.maxLocals = 4 := hml0
  have hown : s.vm.findClass "com/example/onward/onward/check/RequirementRows" = some m.cls := findClass_of_methodNamed Bd.named
  have hnm := (name_of_methodNamed Bd.named Bd.method).1
  have X0 : Stand p l e rmm59 s m #[(.ref p0), (.int (2 : Int32)), (.int p2)] below meth c s₁ [] 0 0 := Stand.of_body Bd
  have e0 : s₁.heap = h0 := by rw [← hh, Bd.state]; rfl
  have N0 := Fr.nil n0
  show Go p.tables e below (P59 Z p0 p2 w h0 n0 s) (s₁.setTop (entryFrame m #[(.ref p0), (.int (2 : Int32)), (.int p2)] 4))
  refine Go.back (fun t k => castTop (ef_59 m p0 p2) k) ?_
  show Go p.tables e below (P59 Z p0 p2 w h0 n0 s) (s₁.setTop (mkF m 0 #[vR p0, vI (2 : Int32), vI p2, uS] []))
  refine Go.back (fun t k => XS.aloadN X0.here hx rfl (hb hby d1_0) rfl rfl  k) ?_
  obtain ⟨T1, X1, e1, st1⟩ := initO X0 hx hZ hown (wk hw 6 rfl) (wk hw 7 rfl) (wk hw 8 rfl) e0 (g := (mkF m 1 #[vR p0, vI (2 : Int32), vI p2, uS] [(.ref p0)])) rfl (by rw [hml]; rfl) rfl (hb hby d1_1) (by decide) (W := 0) (by show 2 * 0 + _ ≤ _; exact Nat.le_of_eq rfl) (by decide)
  refine Go.back st1 ?_
  show Go _ _ _ _ (T1.setTop (mkF m 4 #[vR p0, vI (2 : Int32), vI p2, uS] []))
  refine Go.back (fun t k => XS.aloadN X1.here hx rfl (hb hby d1_4) rfl rfl  k) ?_
  refine Go.back (fun t k => XS.iloadN X1.here hx rfl (hb hby d1_5) rfl  k) ?_
  obtain ⟨T2, h2, X2, e2, W2, st2⟩ := putF X1 hx hZ hown (host := "") (Or.inl (wk hw 9 rfl)) Via.refl e1 H7 H0 (Or.inr ⟨(wk hw 10 rfl), rfl, hnm⟩) (wk hw 1 rfl) (ty := .int) (by decide) rfl rfl (g := (mkF m 6 #[vR p0, vI (2 : Int32), vI p2, uS] [(.int p2), (.ref p0)])) rfl rfl (hb hby d1_6)
  have F3 := H0.wr W2
  have F4 := H1.other W2 (Or.inr (slot_ne (Or.inr (wk hw 13 rfl)) (Or.inr (wk hw 10 rfl)) (by decide) (t := .int) (t' := .int) (by decide) (by decide)))
  have F5 := H2.other W2 (Or.inr (slot_ne (Or.inr (wk hw 16 rfl)) (Or.inr (wk hw 10 rfl)) (by decide) (t := (.array .long)) (t' := .int) (by decide) (by decide)))
  have F6 := H3.other W2 (Or.inr (slot_ne (Or.inr (wk hw 18 rfl)) (Or.inr (wk hw 10 rfl)) (by decide) (t := (.array .int)) (t' := .int) (by decide) (by decide)))
  have F7 := H4.other W2 (Or.inr (slot_ne (Or.inl (wk hw 20 rfl)) (Or.inr (wk hw 10 rfl)) (by decide) (t := (.object "com/example/onward/onward/lts/IntBlocks")) (t' := .int) (by decide) (by decide)))
  have F8 := H5.other W2 (Or.inr (slot_ne (Or.inr (wk hw 22 rfl)) (Or.inr (wk hw 10 rfl)) (by decide) (t := (.array .long)) (t' := .int) (by decide) (by decide)))
  have F9 := H6.other W2 (Or.inr (slot_ne (Or.inl (wk hw 65 rfl)) (Or.inr (wk hw 10 rfl)) (by decide) (t := .int) (t' := .int) (by decide) (by decide)))
  have F10 : Fld Z h2 p0 cR "requirements" "I" (.int p2) := H7.same W2
  have F11 := Nat.le_trans Z0 (Keep.of_wr W2).1
  have F12 : Keep h0 h2 [p0] := (Keep.refl h0 [p0]).wr W2 (Or.inl (List.mem_of_getElem? (i := 0) rfl))
  obtain ⟨Lo2, Y2, N2⟩ := pk X2 (Fr.snoc X2 N0 H8)
  refine Go.back st2 ?_
  refine Go.back (fun t k => XS.iloadN Y2.here hx rfl (hb hby d1_9) rfl  k) ?_
  show Go _ _ _ _ (T2.setTop (mkF m 10 #[vR p0, vI (2 : Int32), vI p2, uS] [(.int p2)]))
  refine Go.back (fun t k => XS.bipush Y2.here hx rfl (hb hby d1_10) k) ?_
  refine Go.back (fun t k => XS.iadd Y2.here hx rfl (hb hby d1_12) rfl k) ?_
  refine Go.back (fun t k => XS.bipush Y2.here hx rfl (hb hby d1_13) k) ?_
  show Go _ _ _ _ (T2.setTop (mkF m 15 #[vR p0, vI (2 : Int32), vI p2, uS] [(.int (64 : Int32)), (.int (p2 + (63 : Int32)))]))
  refine Go.back (fun t k => XS.idiv Y2.here hx rfl (hb hby d1_15) rfl (by decide) k) ?_
  show Go _ _ _ _ (T2.setTop (mkF m 16 #[vR p0, vI (2 : Int32), vI p2, uS] [(.int ((p2 + (63 : Int32)) / (64 : Int32)))]))
  rw [show ((p2 + (63 : Int32)) / (64 : Int32)) = w from hwd]
  show Go _ _ _ _ (T2.setTop (mkF m 16 #[vR p0, vI (2 : Int32), vI p2, uS] [(.int w)]))
  refine Go.back (fun t k => XS.istoreN Y2.here hx rfl (hb hby d1_16) rfl (l' := #[vR p0, vI (2 : Int32), vI p2, vI w]) rfl k) ?_
  refine Go.back (fun t k => XS.iloadN Y2.here hx rfl (hb hby d1_17) rfl  k) ?_
  refine Go.back (fun t k => XS.iconst Y2.here hx rfl (hb hby d1_18) k) ?_
  show Go _ _ _ _ (T2.setTop (mkF m 19 #[vR p0, vI (2 : Int32), vI p2, vI w] [(.int (4 : Int32)), (.int w)]))
  refine Go.back (fun t k => XS.icmpNo Y2.here hx rfl (hb hby d1_19) rfl (flt (own_w4_a hq4)).2.2.1 k) ?_
  show Go _ _ _ _ (T2.setTop (mkF m 22 #[vR p0, vI (2 : Int32), vI p2, vI w] []))
  refine Go.back (fun t k => XS.iloadN Y2.here hx rfl (hb hby d1_22) rfl  k) ?_
  refine Go.back (fun t k => XS.i2l Y2.here hx rfl (hb hby d1_23) rfl k) ?_
  refine Go.back (fun t k => XS.iloadN Y2.here hx rfl (hb hby d1_24) rfl  k) ?_
  refine Go.back (fun t k => XS.i2l Y2.here hx rfl (hb hby d1_25) rfl k) ?_
  show Go _ _ _ _ (T2.setTop (mkF m 26 #[vR p0, vI (2 : Int32), vI p2, vI w] [(.long ((w).toInt64)), (.long (((2 : Int32)).toInt64))]))
  refine Go.back (fun t k => XS.lmul Y2.here hx rfl (hb hby d1_26) rfl k) ?_
  show Go _ _ _ _ (T2.setTop (mkF m 27 #[vR p0, vI (2 : Int32), vI p2, vI w] [(.long ((((2 : Int32)).toInt64) * ((w).toInt64)))]))
  refine Go.back (fun t k => Y2.ldc2Long hx hown (mvT hZ (wk hw 11 rfl)) (g := (mkF m 27 #[vR p0, vI (2 : Int32), vI p2, vI w] [(.long ((((2 : Int32)).toInt64) * ((w).toInt64)))])) rfl (hb hby d1_27) t k) ?_
  show Go _ _ _ _ (T2.setTop (mkF m 30 #[vR p0, vI (2 : Int32), vI p2, vI w] [(.long (2147483639 : Int64)), (.long ((((2 : Int32)).toInt64) * ((w).toInt64)))]))
  refine Go.back (fun t k => XS.lcmp Y2.here hx rfl (hb hby d1_30) rfl k) ?_
  show Go _ _ _ _ (T2.setTop (mkF m 31 #[vR p0, vI (2 : Int32), vI p2, vI w] [(.int (lcmpW ((((2 : Int32)).toInt64) * ((w).toInt64)) (2147483639 : Int64)))]))
  refine Go.back (fun t k => XS.ifYes Y2.here hx rfl (pc0 := 31) (pc' := 44) rfl (hb hby d1_31) rfl ((if0 _ _).trans (flt (fun q => (own_w4_b hq4) ((lw_gt _ _).mp q))).2.2.2) (by decide) (by decide) k) ?_
  show Go _ _ _ _ (T2.setTop (mkF m 44 #[vR p0, vI (2 : Int32), vI p2, vI w] []))
  refine Go.back (fun t k => XS.aloadN Y2.here hx rfl (hb hby d1_44) rfl rfl  k) ?_
  refine Go.back (fun t k => XS.iloadN Y2.here hx rfl (hb hby d1_45) rfl  k) ?_
  obtain ⟨T13, h13, X13, e13, W13, st13⟩ := putF Y2 hx hZ hown (host := "") (Or.inl (wk hw 12 rfl)) Via.refl e2 F4 F3 (Or.inr ⟨(wk hw 13 rfl), rfl, hnm⟩) (wk hw 1 rfl) (ty := .int) (by decide) rfl rfl (g := (mkF m 46 #[vR p0, vI (2 : Int32), vI p2, vI w] [(.int w), (.ref p0)])) rfl rfl (hb hby d1_46)
  have F14 := F3.wr W13
  have F15 : Fld Z h13 p0 cR "words" "I" (.int w) := F4.same W13
  have F16 := F5.other W13 (Or.inr (slot_ne (Or.inr (wk hw 16 rfl)) (Or.inr (wk hw 13 rfl)) (by decide) (t := (.array .long)) (t' := .int) (by decide) (by decide)))
  have F17 := F6.other W13 (Or.inr (slot_ne (Or.inr (wk hw 18 rfl)) (Or.inr (wk hw 13 rfl)) (by decide) (t := (.array .int)) (t' := .int) (by decide) (by decide)))
  have F18 := F7.other W13 (Or.inr (slot_ne (Or.inl (wk hw 20 rfl)) (Or.inr (wk hw 13 rfl)) (by decide) (t := (.object "com/example/onward/onward/lts/IntBlocks")) (t' := .int) (by decide) (by decide)))
  have F19 := F8.other W13 (Or.inr (slot_ne (Or.inr (wk hw 22 rfl)) (Or.inr (wk hw 13 rfl)) (by decide) (t := (.array .long)) (t' := .int) (by decide) (by decide)))
  have F20 := F9.other W13 (Or.inr (slot_ne (Or.inl (wk hw 65 rfl)) (Or.inr (wk hw 13 rfl)) (by decide) (t := .int) (t' := .int) (by decide) (by decide)))
  have F21 := F10.other W13 (Or.inr (slot_ne (Or.inr (wk hw 10 rfl)) (Or.inr (wk hw 13 rfl)) (by decide) (t := .int) (t' := .int) (by decide) (by decide)))
  have F22 := Nat.le_trans F11 (Keep.of_wr W13).1
  have F23 := F12.wr W13 (Or.inl (List.mem_of_getElem? (i := 0) rfl))
  obtain ⟨Lo13, Y13, N13⟩ := pk X13 (Fr.snoc X13 N2 H8)
  refine Go.back st13 ?_
  refine Go.back (fun t k => XS.aloadN Y13.here hx rfl (hb hby d1_49) rfl rfl  k) ?_
  show Go _ _ _ _ (T13.setTop (mkF m 50 #[vR p0, vI (2 : Int32), vI p2, vI w] [(.ref p0)]))
  refine Go.back (fun t k => XS.iloadN Y13.here hx rfl (hb hby d1_50) rfl  k) ?_
  refine Go.back (fun t k => XS.iloadN Y13.here hx rfl (hb hby d1_51) rfl  k) ?_
  refine Go.back (fun t k => XS.imul Y13.here hx rfl (hb hby d1_52) rfl k) ?_
  obtain ⟨T24, h24, k24, X24, e24, E24, A24, st24⟩ := newP Y13 hx hZ (wk hw 14 rfl) e13 (g := (mkF m 53 #[vR p0, vI (2 : Int32), vI p2, vI w] [(.int ((2 : Int32) * w)), (.ref p0)])) rfl (hb hby d1_53) rfl (own_w4_c hq4).1 (cap := 8) (own_w4_c hq4).2.1 (by decide) (by decide) (by decide)
  obtain ⟨b24, g24⟩ : ∃ z, z = h13.size := ⟨_, rfl⟩
  rw [← g24] at A24 st24
  have ne25 := neB F14.lt g24
  have g26 : n0 ≤ b24 := Nat.le_trans F22 (Nat.le_of_eq g24.symm)
  have sz27 : h0.size ≤ b24 := Nat.le_trans F23.1 (Nat.le_of_eq g24.symm)
  have F28 := F14.ext E24
  have F29 := F15.ext E24
  have F30 := F16.ext E24
  have F31 := F17.ext E24
  have F32 := F18.ext E24
  have F33 := F19.ext E24
  have F34 := F20.ext E24
  have F35 := F21.ext E24
  have F36 := Nat.le_trans F22 E24.1
  have F37 := F23.ext E24
  have F38 : ArL Z h24 b24 .long (List.map Value.long (List.replicate ((2 : Int32) * w).toNatClampNeg (0 : Int64))) := ArL.newJ (ty := .long) A24 (n := ((2 : Int32) * w).toNatClampNeg) rfl
  refine Go.back st24 ?_
  show Go _ _ _ _ (T24.setTop (mkF m 55 #[vR p0, vI (2 : Int32), vI p2, vI w] [(.ref b24), (.ref p0)]))
  obtain ⟨T39, h39, X39, e39, W39, st39⟩ := putF X24 hx hZ hown (host := "") (Or.inl (wk hw 15 rfl)) Via.refl e24 F30 F28 (Or.inr ⟨(wk hw 16 rfl), rfl, hnm⟩) (wk hw 1 rfl) (ty := (.array .long)) (by decide) rfl rfl (g := (mkF m 55 #[vR p0, vI (2 : Int32), vI p2, vI w] [(.ref b24), (.ref p0)])) rfl rfl (hb hby d1_55)
  have F40 := F28.wr W39
  have F41 := F29.other W39 (Or.inr (slot_ne (Or.inr (wk hw 13 rfl)) (Or.inr (wk hw 16 rfl)) (by decide) (t := .int) (t' := (.array .long)) (by decide) (by decide)))
  have F42 : Fld Z h39 p0 cR "rows" "[J" (.ref b24) := F30.same W39
  have F43 := F31.other W39 (Or.inr (slot_ne (Or.inr (wk hw 18 rfl)) (Or.inr (wk hw 16 rfl)) (by decide) (t := (.array .int)) (t' := (.array .long)) (by decide) (by decide)))
  have F44 := F32.other W39 (Or.inr (slot_ne (Or.inl (wk hw 20 rfl)) (Or.inr (wk hw 16 rfl)) (by decide) (t := (.object "com/example/onward/onward/lts/IntBlocks")) (t' := (.array .long)) (by decide) (by decide)))
  have F45 := F33.other W39 (Or.inr (slot_ne (Or.inr (wk hw 22 rfl)) (Or.inr (wk hw 16 rfl)) (by decide) (t := (.array .long)) (t' := (.array .long)) (by decide) (by decide)))
  have F46 := F34.other W39 (Or.inr (slot_ne (Or.inl (wk hw 65 rfl)) (Or.inr (wk hw 16 rfl)) (by decide) (t := .int) (t' := (.array .long)) (by decide) (by decide)))
  have F47 := F35.other W39 (Or.inr (slot_ne (Or.inr (wk hw 10 rfl)) (Or.inr (wk hw 16 rfl)) (by decide) (t := .int) (t' := (.array .long)) (by decide) (by decide)))
  have F48 := Nat.le_trans F36 (Keep.of_wr W39).1
  have F49 := F37.wr W39 (Or.inl (List.mem_of_getElem? (i := 0) rfl))
  have F50 := F38.other W39 (Ne.symm ne25)
  obtain ⟨Lo39, Y39, N39⟩ := pk X39 (Fr.snoc X39 N13 H8)
  refine Go.back st39 ?_
  refine Go.back (fun t k => XS.aloadN Y39.here hx rfl (hb hby d1_58) rfl rfl  k) ?_
  refine Go.back (fun t k => XS.aconstNull Y39.here hx rfl (hb hby d1_59) k) ?_
  obtain ⟨T51, h51, X51, e51, W51, st51⟩ := putF Y39 hx hZ hown (host := "") (Or.inl (wk hw 17 rfl)) Via.refl e39 F43 F40 (Or.inr ⟨(wk hw 18 rfl), rfl, hnm⟩) (wk hw 1 rfl) (ty := (.array .int)) (by decide) rfl rfl (g := (mkF m 60 #[vR p0, vI (2 : Int32), vI p2, vI w] [.null, (.ref p0)])) rfl rfl (hb hby d1_60)
  have F52 := F40.wr W51
  have F53 := F41.other W51 (Or.inr (slot_ne (Or.inr (wk hw 13 rfl)) (Or.inr (wk hw 18 rfl)) (by decide) (t := .int) (t' := (.array .int)) (by decide) (by decide)))
  have F54 := F42.other W51 (Or.inr (slot_ne (Or.inr (wk hw 16 rfl)) (Or.inr (wk hw 18 rfl)) (by decide) (t := (.array .long)) (t' := (.array .int)) (by decide) (by decide)))
  have F55 := F43.same W51
  have F56 := F44.other W51 (Or.inr (slot_ne (Or.inl (wk hw 20 rfl)) (Or.inr (wk hw 18 rfl)) (by decide) (t := (.object "com/example/onward/onward/lts/IntBlocks")) (t' := (.array .int)) (by decide) (by decide)))
  have F57 := F45.other W51 (Or.inr (slot_ne (Or.inr (wk hw 22 rfl)) (Or.inr (wk hw 18 rfl)) (by decide) (t := (.array .long)) (t' := (.array .int)) (by decide) (by decide)))
  have F58 := F46.other W51 (Or.inr (slot_ne (Or.inl (wk hw 65 rfl)) (Or.inr (wk hw 18 rfl)) (by decide) (t := .int) (t' := (.array .int)) (by decide) (by decide)))
  have F59 := F47.other W51 (Or.inr (slot_ne (Or.inr (wk hw 10 rfl)) (Or.inr (wk hw 18 rfl)) (by decide) (t := .int) (t' := (.array .int)) (by decide) (by decide)))
  have F60 := Nat.le_trans F48 (Keep.of_wr W51).1
  have F61 := F49.wr W51 (Or.inl (List.mem_of_getElem? (i := 0) rfl))
  have F62 := F50.other W51 (Ne.symm ne25)
  obtain ⟨Lo51, Y51, N51⟩ := pk X51 (Fr.snoc X51 N39 H8)
  refine Go.back st51 ?_
  show Go _ _ _ _ (T51.setTop (mkF m 63 #[vR p0, vI (2 : Int32), vI p2, vI w] []))
  refine Go.back (fun t k => XS.aloadN Y51.here hx rfl (hb hby d1_63) rfl rfl  k) ?_
  refine Go.back (fun t k => XS.aconstNull Y51.here hx rfl (hb hby d1_64) k) ?_
  obtain ⟨T63, h63, X63, e63, W63, st63⟩ := putF Y51 hx hZ hown (host := "") (Or.inl (wk hw 19 rfl)) Via.refl e51 F56 F52 (Or.inl (wk hw 20 rfl)) (wk hw 1 rfl) (ty := (.object "com/example/onward/onward/lts/IntBlocks")) (by decide) rfl rfl (g := (mkF m 65 #[vR p0, vI (2 : Int32), vI p2, vI w] [.null, (.ref p0)])) rfl rfl (hb hby d1_65)
  have F64 := F52.wr W63
  have F65 := F53.other W63 (Or.inr (slot_ne (Or.inr (wk hw 13 rfl)) (Or.inl (wk hw 20 rfl)) (by decide) (t := .int) (t' := (.object "com/example/onward/onward/lts/IntBlocks")) (by decide) (by decide)))
  have F66 := F54.other W63 (Or.inr (slot_ne (Or.inr (wk hw 16 rfl)) (Or.inl (wk hw 20 rfl)) (by decide) (t := (.array .long)) (t' := (.object "com/example/onward/onward/lts/IntBlocks")) (by decide) (by decide)))
  have F67 := F55.other W63 (Or.inr (slot_ne (Or.inr (wk hw 18 rfl)) (Or.inl (wk hw 20 rfl)) (by decide) (t := (.array .int)) (t' := (.object "com/example/onward/onward/lts/IntBlocks")) (by decide) (by decide)))
  have F68 := F56.same W63
  have F69 := F57.other W63 (Or.inr (slot_ne (Or.inr (wk hw 22 rfl)) (Or.inl (wk hw 20 rfl)) (by decide) (t := (.array .long)) (t' := (.object "com/example/onward/onward/lts/IntBlocks")) (by decide) (by decide)))
  have F70 := F58.other W63 (Or.inr (slot_ne (Or.inl (wk hw 65 rfl)) (Or.inl (wk hw 20 rfl)) (by decide) (t := .int) (t' := (.object "com/example/onward/onward/lts/IntBlocks")) (by decide) (by decide)))
  have F71 := F59.other W63 (Or.inr (slot_ne (Or.inr (wk hw 10 rfl)) (Or.inl (wk hw 20 rfl)) (by decide) (t := .int) (t' := (.object "com/example/onward/onward/lts/IntBlocks")) (by decide) (by decide)))
  have F72 := Nat.le_trans F60 (Keep.of_wr W63).1
  have F73 := F61.wr W63 (Or.inl (List.mem_of_getElem? (i := 0) rfl))
  have F74 := F62.other W63 (Ne.symm ne25)
  obtain ⟨Lo63, Y63, N63⟩ := pk X63 (Fr.snoc X63 N51 H8)
  refine Go.back st63 ?_
  refine Go.back (fun t k => XS.goto Y63.here hx rfl (pc0 := 68) (pc' := 103) rfl (hb hby d1_68) (by decide) (by decide) k) ?_
  show Go _ _ _ _ (T63.setTop (mkF m 103 #[vR p0, vI (2 : Int32), vI p2, vI w] []))
  refine Go.back (fun t k => XS.aloadN Y63.here hx rfl (hb hby d1_103) rfl rfl  k) ?_
  refine Go.back (fun t k => XS.iloadN Y63.here hx rfl (hb hby d1_104) rfl  k) ?_
  obtain ⟨T75, h75, k75, X75, e75, E75, A75, st75⟩ := newP Y63 hx hZ (wk hw 14 rfl) e63 (g := (mkF m 105 #[vR p0, vI (2 : Int32), vI p2, vI w] [(.int w), (.ref p0)])) rfl (hb hby d1_105) rfl (own_w8_c (own_w4_w hq4)).1 (cap := 8) (own_w8_c (own_w4_w hq4)).2.1 (by decide) (by decide) (by decide)
  obtain ⟨b75, g75⟩ : ∃ z, z = h63.size := ⟨_, rfl⟩
  rw [← g75] at A75 st75
  have ne76 := neB F64.lt g75
  have ne77 := neB F74.lt g75
  have g78 : n0 ≤ b75 := Nat.le_trans F72 (Nat.le_of_eq g75.symm)
  have sz79 : h0.size ≤ b75 := Nat.le_trans F73.1 (Nat.le_of_eq g75.symm)
  have F80 := F64.ext E75
  have F81 := F65.ext E75
  have F82 := F66.ext E75
  have F83 := F67.ext E75
  have F84 := F68.ext E75
  have F85 := F69.ext E75
  have F86 := F70.ext E75
  have F87 := F71.ext E75
  have F88 := Nat.le_trans F72 E75.1
  have F89 := F73.ext E75
  have F90 := F74.ext E75
  have F91 : ArL Z h75 b75 .long (List.map Value.long (List.replicate (w).toNatClampNeg (0 : Int64))) := ArL.newJ (ty := .long) A75 (n := (w).toNatClampNeg) rfl
  refine Go.back st75 ?_
  obtain ⟨T92, h92, X92, e92, W92, st92⟩ := putF X75 hx hZ hown (host := "") (Or.inl (wk hw 21 rfl)) Via.refl e75 F85 F80 (Or.inr ⟨(wk hw 22 rfl), rfl, hnm⟩) (wk hw 1 rfl) (ty := (.array .long)) (by decide) rfl rfl (g := (mkF m 107 #[vR p0, vI (2 : Int32), vI p2, vI w] [(.ref b75), (.ref p0)])) rfl rfl (hb hby d1_107)
  have F93 := F80.wr W92
  have F94 := F81.other W92 (Or.inr (slot_ne (Or.inr (wk hw 13 rfl)) (Or.inr (wk hw 22 rfl)) (by decide) (t := .int) (t' := (.array .long)) (by decide) (by decide)))
  have F95 := F82.other W92 (Or.inr (slot_ne (Or.inr (wk hw 16 rfl)) (Or.inr (wk hw 22 rfl)) (by decide) (t := (.array .long)) (t' := (.array .long)) (by decide) (by decide)))
  have F96 := F83.other W92 (Or.inr (slot_ne (Or.inr (wk hw 18 rfl)) (Or.inr (wk hw 22 rfl)) (by decide) (t := (.array .int)) (t' := (.array .long)) (by decide) (by decide)))
  have F97 := F84.other W92 (Or.inr (slot_ne (Or.inl (wk hw 20 rfl)) (Or.inr (wk hw 22 rfl)) (by decide) (t := (.object "com/example/onward/onward/lts/IntBlocks")) (t' := (.array .long)) (by decide) (by decide)))
  have F98 : Fld Z h92 p0 cR "anywhere" "[J" (.ref b75) := F85.same W92
  have F99 := F86.other W92 (Or.inr (slot_ne (Or.inl (wk hw 65 rfl)) (Or.inr (wk hw 22 rfl)) (by decide) (t := .int) (t' := (.array .long)) (by decide) (by decide)))
  have F100 := F87.other W92 (Or.inr (slot_ne (Or.inr (wk hw 10 rfl)) (Or.inr (wk hw 22 rfl)) (by decide) (t := .int) (t' := (.array .long)) (by decide) (by decide)))
  have F101 := Nat.le_trans F88 (Keep.of_wr W92).1
  have F102 := F89.wr W92 (Or.inl (List.mem_of_getElem? (i := 0) rfl))
  have F103 := F90.other W92 (Ne.symm ne25)
  have F104 := F91.other W92 (Ne.symm ne76)
  obtain ⟨Lo92, Y92, N92⟩ := pk X92 (Fr.snoc X92 N63 H8)
  refine Go.back st92 ?_
  show Go _ _ _ _ (T92.setTop (mkF m 110 #[vR p0, vI (2 : Int32), vI p2, vI w] []))
  exact Go.retV Y92 hx Bd.returns (hb hby d1_110) Bd.notSynchronized ⟨rfl, N92, (by rw [e92]; exact F102), b24, b75, sz27, sz79, ne77, (by rw [e92]; exact F94), (by rw [e92]; exact F95), (by rw [e92]; exact F96), (by rw [e92]; exact F97), (by rw [e92]; exact F98), (by rw [e92]; exact F99), (by rw [e92]; exact F103), (by rw [e92]; exact F104)⟩ (by decide) (by decide)
theorem d4_66 : decode prog_63_method_1_code 66 = .ok (.aconst_null, 1) := by decide +kernel
def Q60 (Z : State) (p0 : Addr) (p1 : Addr) (aa : Addr) (xs : List Int64) (ro : Addr) (h0 : Heap) (n0 : Nat) (v : Option Value) (h : Heap) (L : List Loc) : Prop := v = none ∧ Fr n0 L ∧ Keep h0 h [p0] ∧ ∃ an cu : Addr, h0.size ≤ an ∧ h0.size ≤ cu ∧ an ≠ cu ∧ Fld Z h p0 cP "this$0" dR (.ref p1) ∧ Fld Z h p0 cP "anywhere" "[J" (.ref an) ∧ Fld Z h p0 cP "current" "[I" (.ref cu) ∧ Fld Z h p0 cP "first" "I" (.int (0 : Int32)) ∧ Fld Z h p0 cP "end" "I" (.int (2 : Int32)) ∧ Fld Z h p0 cP "filling" "I" (.int (0 : Int32)) ∧ Fld Z h p0 cP "listed" dI .null ∧ Fld Z h p0 cP "currentCount" "I" (.int (0 : Int32)) ∧ ArL Z h an .long (List.map Value.long (List.replicate (List.length xs) (0 : Int64))) ∧ ArL Z h cu .int [(.int (0 : Int32)), (.int (0 : Int32)), (.int (0 : Int32)), (.int (0 : Int32)), (.int (0 : Int32)), (.int (0 : Int32)), (.int (0 : Int32)), (.int (0 : Int32)), (.int (0 : Int32)), (.int (0 : Int32)), (.int (0 : Int32)), (.int (0 : Int32)), (.int (0 : Int32)), (.int (0 : Int32)), (.int (0 : Int32)), (.int (0 : Int32))]
abbrev rmm60 : Room := { frames := 1, cells := 2, slots := 24, locals := 12 }
abbrev P60 (Z : State) (p0 : Addr) (p1 : Addr) (aa : Addr) (xs : List Int64) (ro : Addr) (h0 : Heap) (n0 : Nat) (s : State) : Outcome → State → Prop := fun o U' => ∃ v L, o = .returned v ∧ Q60 Z p0 p1 aa xs ro h0 n0 v U'.heap L ∧ FrameEnd s o U' L rmm60.cells rmm60.slots
theorem pn_60 : plainName "com/example/onward/onward/check/RequirementRows$Part" = true := by first | (simp [plainName, overriddenIn]; done) | decide +kernel
theorem ef_60 (m : MethodId) (p0 : Addr) (p1 : Addr) : entryFrame m #[(.ref p0), (.ref p1), (.int (0 : Int32)), (.int (2 : Int32))] 4 = mkF m 0 #[vR p0, vR p1, vI (0 : Int32), vI (2 : Int32)] [] := by first | (simp [entryFrame, mkF, argsToLocals, Value.category]; done) | rfl
set_option maxRecDepth 65536 in
set_option maxHeartbeats 40000000 in
theorem rm60 (l : Launch) (Z : State) (a0 : Array Value) (hw : ∀ d ∈ tables_1, d.before a0 Z = true) (ws : List Jvm.Cond) (p0 : Addr) (p1 : Addr) (aa : Addr) (xs : List Int64) (ro : Addr) (h0 : Heap) (n0 : Nat) (Z0 : n0 ≤ h0.size) (H0 : Exa Z h0 p0 cP) (H1 : Fld Z h0 p0 cP "this$0" dR .null) (H2 : Fld Z h0 p0 cP "anywhere" "[J" .null) (H3 : Fld Z h0 p0 cP "current" "[I" .null) (H4 : Fld Z h0 p0 cP "first" "I" (.int (0 : Int32))) (H5 : Fld Z h0 p0 cP "end" "I" (.int (0 : Int32))) (H6 : Fld Z h0 p0 cP "filling" "I" (.int (0 : Int32))) (H7 : Fld Z h0 p0 cP "listed" dI .null) (H8 : Fld Z h0 p0 cP "currentCount" "I" (.int (0 : Int32))) (H9 : n0 ≤ p0) (H10 : Fld Z h0 p1 cR "rows" "[J" (.ref ro)) (H11 : Fld Z h0 p1 cR "anywhere" "[J" (.ref aa)) (H12 : ArL Z h0 aa .long (List.map Value.long xs)) (H13 : p0 ≠ p1) (H14 : p0 ≠ aa) (H15 : p1 ≠ aa) (hx8 : xs.length ≤ 8) :
    MetFree l (⟨"com/example/onward/onward/check/RequirementRows$Part", "<init>", "(Lcom/example/onward/onward/check/RequirementRows;II)V"⟩ : MethodName) (head1 (Jvm.Cond.code (⟨"com/example/onward/onward/check/RequirementRows$Part", "<init>", "(Lcom/example/onward/onward/check/RequirementRows;II)V"⟩ : MethodName) prog_63_method_1_code 4 none :: ws) rmm60) (fun a U => a = #[(.ref p0), (.ref p1), (.int (0 : Int32)), (.int (2 : Int32))] ∧ Z.Warmed39 U.vm ∧ U.heap = h0) (fun _ _ _ _ _ => True) (fun _ U o U' => ∃ v L, o = .returned v ∧ Q60 Z p0 p1 aa xs ro h0 n0 v U'.heap L ∧ FrameEnd U o U' L rmm60.cells rmm60.slots) := by
  refine MetFree.of_bodySF (plainFor_of_name pn_60) hisR ?_
  intro p e s m args below meth c s₁ Bd hml0 hP hK
  obtain ⟨rfl, hZ, hh⟩ := hP
  have hx := Bd.exec
  have hby := Bd.bytes
  have hml : c.maxLocals = 4 := hml0
  have hown : s.vm.findClass "com/example/onward/onward/check/RequirementRows$Part" = some m.cls := findClass_of_methodNamed Bd.named
  have hnm := (name_of_methodNamed Bd.named Bd.method).1
  have X0 : Stand p l e rmm60 s m #[(.ref p0), (.ref p1), (.int (0 : Int32)), (.int (2 : Int32))] below meth c s₁ [] 0 0 := Stand.of_body Bd
  have e0 : s₁.heap = h0 := by rw [← hh, Bd.state]; rfl
  have N0 := Fr.nil n0
  show Go p.tables e below (P60 Z p0 p1 aa xs ro h0 n0 s) (s₁.setTop (entryFrame m #[(.ref p0), (.ref p1), (.int (0 : Int32)), (.int (2 : Int32))] 4))
  refine Go.back (fun t k => castTop (ef_60 m p0 p1) k) ?_
  show Go p.tables e below (P60 Z p0 p1 aa xs ro h0 n0 s) (s₁.setTop (mkF m 0 #[vR p0, vR p1, vI (0 : Int32), vI (2 : Int32)] []))
  refine Go.back (fun t k => XS.aloadN X0.here hx rfl (hb hby d4_0) rfl rfl  k) ?_
  refine Go.back (fun t k => XS.aloadN X0.here hx rfl (hb hby d4_1) rfl rfl  k) ?_
  obtain ⟨T1, h1, X1, e1, W1, st1⟩ := putF X0 hx hZ hown (host := "") (Or.inl (wk hw 34 rfl)) Via.refl e0 H1 H0 (Or.inr ⟨(wk hw 35 rfl), rfl, hnm⟩) (wk hw 29 rfl) (ty := (.object "com/example/onward/onward/check/RequirementRows")) (by decide) rfl rfl (g := (mkF m 2 #[vR p0, vR p1, vI (0 : Int32), vI (2 : Int32)] [(.ref p1), (.ref p0)])) rfl rfl (hb hby d4_2)
  have F2 := H0.wr W1
  have F3 : Fld Z h1 p0 cP "this$0" dR (.ref p1) := H1.same W1
  have F4 := H2.other W1 (Or.inr (slot_ne (Or.inr (wk hw 39 rfl)) (Or.inr (wk hw 35 rfl)) (by decide) (t := (.array .long)) (t' := (.object "com/example/onward/onward/check/RequirementRows")) (by decide) (by decide)))
  have F5 := H3.other W1 (Or.inr (slot_ne (Or.inl (wk hw 42 rfl)) (Or.inr (wk hw 35 rfl)) (by decide) (t := (.array .int)) (t' := (.object "com/example/onward/onward/check/RequirementRows")) (by decide) (by decide)))
  have F6 := H4.other W1 (Or.inr (slot_ne (Or.inr (wk hw 44 rfl)) (Or.inr (wk hw 35 rfl)) (by decide) (t := .int) (t' := (.object "com/example/onward/onward/check/RequirementRows")) (by decide) (by decide)))
  have F7 := H5.other W1 (Or.inr (slot_ne (Or.inr (wk hw 46 rfl)) (Or.inr (wk hw 35 rfl)) (by decide) (t := .int) (t' := (.object "com/example/onward/onward/check/RequirementRows")) (by decide) (by decide)))
  have F8 := H6.other W1 (Or.inr (slot_ne (Or.inl (wk hw 48 rfl)) (Or.inr (wk hw 35 rfl)) (by decide) (t := .int) (t' := (.object "com/example/onward/onward/check/RequirementRows")) (by decide) (by decide)))
  have F9 := H7.other W1 (Or.inr (slot_ne (Or.inr (wk hw 51 rfl)) (Or.inr (wk hw 35 rfl)) (by decide) (t := (.object "com/example/onward/onward/lts/IntBlocks")) (t' := (.object "com/example/onward/onward/check/RequirementRows")) (by decide) (by decide)))
  have F10 := H8.other W1 (Or.inr (slot_ne (Or.inl (wk hw 110 rfl)) (Or.inr (wk hw 35 rfl)) (by decide) (t := .int) (t' := (.object "com/example/onward/onward/check/RequirementRows")) (by decide) (by decide)))
  have F11 := H10.other W1 (Or.inl (Ne.symm H13))
  have F12 := H11.other W1 (Or.inl (Ne.symm H13))
  have F13 := H12.other W1 (Ne.symm H14)
  have F14 := Nat.le_trans Z0 (Keep.of_wr W1).1
  have F15 : Keep h0 h1 [p0] := (Keep.refl h0 [p0]).wr W1 (Or.inl (List.mem_of_getElem? (i := 0) rfl))
  obtain ⟨Lo1, Y1, N1⟩ := pk X1 (Fr.snoc X1 N0 H9)
  refine Go.back st1 ?_
  refine Go.back (fun t k => XS.aloadN Y1.here hx rfl (hb hby d4_5) rfl rfl  k) ?_
  show Go _ _ _ _ (T1.setTop (mkF m 6 #[vR p0, vR p1, vI (0 : Int32), vI (2 : Int32)] [(.ref p0)]))
  obtain ⟨T16, X16, e16, st16⟩ := initO Y1 hx hZ hown (wk hw 36 rfl) (wk hw 7 rfl) (wk hw 8 rfl) e1 (g := (mkF m 6 #[vR p0, vR p1, vI (0 : Int32), vI (2 : Int32)] [(.ref p0)])) rfl (by rw [hml]; rfl) rfl (hb hby d4_6) (by decide) (W := 0) (by show 2 * 0 + _ ≤ _; exact Nat.le_of_eq rfl) (by decide)
  refine Go.back st16 ?_
  show Go _ _ _ _ (T16.setTop (mkF m 9 #[vR p0, vR p1, vI (0 : Int32), vI (2 : Int32)] []))
  refine Go.back (fun t k => XS.aloadN X16.here hx rfl (hb hby d4_9) rfl rfl  k) ?_
  refine Go.back (fun t k => XS.aloadN X16.here hx rfl (hb hby d4_10) rfl rfl  k) ?_
  obtain ⟨T17, X17, e17, st17⟩ := getF X16 hx hZ hown (host := "") (Or.inl (wk hw 34 rfl)) Via.refl e16 F3 (g := (mkF m 11 #[vR p0, vR p1, vI (0 : Int32), vI (2 : Int32)] [(.ref p0), (.ref p0)])) rfl rfl (hb hby d4_11)
  refine Go.back st17 ?_
  obtain ⟨T18, X18, e18, st18⟩ := getF X17 hx hZ hown (Or.inr (wk hw 37 rfl)) Via.refl e17 F12 (g := (mkF m 14 #[vR p0, vR p1, vI (0 : Int32), vI (2 : Int32)] [(.ref p1), (.ref p0)])) rfl rfl (hb hby d4_14)
  refine Go.back st18 ?_
  show Go _ _ _ _ (T18.setTop (mkF m 17 #[vR p0, vR p1, vI (0 : Int32), vI (2 : Int32)] [(.ref aa), (.ref p0)]))
  obtain ⟨cl19, Ar19, S19⟩ := F13.len
  refine Go.back (fun t k => X18.arraylength hx (by rw [e18]; exact Ar19.1) (State.isArrayOf_alike hZ.alike Ar19.2.1) (g := (mkF m 17 #[vR p0, vR p1, vI (0 : Int32), vI (2 : Int32)] [(.ref aa), (.ref p0)])) rfl rfl (hb hby d4_17) t k) ?_
  rw [S19]
  rw [List.length_map]
  obtain ⟨T20, h20, k20, X20, e20, E20, A20, st20⟩ := newP X18 hx hZ (wk hw 14 rfl) e18 (g := (mkF m 18 #[vR p0, vR p1, vI (0 : Int32), vI (2 : Int32)] [(.int (List.length xs).toInt32), (.ref p0)])) rfl (hb hby d4_18) rfl (own_l8 hx8).1 (cap := 8) (own_l8 hx8).2.1 (by decide) (by decide) (by decide)
  obtain ⟨b20, g20⟩ : ∃ z, z = h1.size := ⟨_, rfl⟩
  rw [← g20] at A20 st20
  have ne21 := neB F2.lt g20
  have ne22 := neB F11.lt g20
  have ne23 := neB F13.lt g20
  have g24 : n0 ≤ b20 := Nat.le_trans F14 (Nat.le_of_eq g20.symm)
  have sz25 : h0.size ≤ b20 := Nat.le_trans F15.1 (Nat.le_of_eq g20.symm)
  have F26 := F2.ext E20
  have F27 := F3.ext E20
  have F28 := F4.ext E20
  have F29 := F5.ext E20
  have F30 := F6.ext E20
  have F31 := F7.ext E20
  have F32 := F8.ext E20
  have F33 := F9.ext E20
  have F34 := F10.ext E20
  have F35 := F11.ext E20
  have F36 := F12.ext E20
  have F37 := F13.ext E20
  have F38 := Nat.le_trans F14 E20.1
  have F39 := F15.ext E20
  have F40 : ArL Z h20 b20 .long (List.map Value.long (List.replicate (List.length xs) (0 : Int64))) := ArL.newJ (ty := .long) A20 (n := (List.length xs)) (own_l8 hx8).2.2.1
  refine Go.back st20 ?_
  obtain ⟨T41, h41, X41, e41, W41, st41⟩ := putF X20 hx hZ hown (host := "") (Or.inl (wk hw 38 rfl)) Via.refl e20 F28 F26 (Or.inr ⟨(wk hw 39 rfl), rfl, hnm⟩) (wk hw 29 rfl) (ty := (.array .long)) (by decide) rfl rfl (g := (mkF m 20 #[vR p0, vR p1, vI (0 : Int32), vI (2 : Int32)] [(.ref b20), (.ref p0)])) rfl rfl (hb hby d4_20)
  have F42 := F26.wr W41
  have F43 := F27.other W41 (Or.inr (slot_ne (Or.inr (wk hw 35 rfl)) (Or.inr (wk hw 39 rfl)) (by decide) (t := (.object "com/example/onward/onward/check/RequirementRows")) (t' := (.array .long)) (by decide) (by decide)))
  have F44 : Fld Z h41 p0 cP "anywhere" "[J" (.ref b20) := F28.same W41
  have F45 := F29.other W41 (Or.inr (slot_ne (Or.inl (wk hw 42 rfl)) (Or.inr (wk hw 39 rfl)) (by decide) (t := (.array .int)) (t' := (.array .long)) (by decide) (by decide)))
  have F46 := F30.other W41 (Or.inr (slot_ne (Or.inr (wk hw 44 rfl)) (Or.inr (wk hw 39 rfl)) (by decide) (t := .int) (t' := (.array .long)) (by decide) (by decide)))
  have F47 := F31.other W41 (Or.inr (slot_ne (Or.inr (wk hw 46 rfl)) (Or.inr (wk hw 39 rfl)) (by decide) (t := .int) (t' := (.array .long)) (by decide) (by decide)))
  have F48 := F32.other W41 (Or.inr (slot_ne (Or.inl (wk hw 48 rfl)) (Or.inr (wk hw 39 rfl)) (by decide) (t := .int) (t' := (.array .long)) (by decide) (by decide)))
  have F49 := F33.other W41 (Or.inr (slot_ne (Or.inr (wk hw 51 rfl)) (Or.inr (wk hw 39 rfl)) (by decide) (t := (.object "com/example/onward/onward/lts/IntBlocks")) (t' := (.array .long)) (by decide) (by decide)))
  have F50 := F34.other W41 (Or.inr (slot_ne (Or.inl (wk hw 110 rfl)) (Or.inr (wk hw 39 rfl)) (by decide) (t := .int) (t' := (.array .long)) (by decide) (by decide)))
  have F51 := F35.other W41 (Or.inl (Ne.symm H13))
  have F52 := F36.other W41 (Or.inl (Ne.symm H13))
  have F53 := F37.other W41 (Ne.symm H14)
  have F54 := Nat.le_trans F38 (Keep.of_wr W41).1
  have F55 := F39.wr W41 (Or.inl (List.mem_of_getElem? (i := 0) rfl))
  have F56 := F40.other W41 (Ne.symm ne21)
  obtain ⟨Lo41, Y41, N41⟩ := pk X41 (Fr.snoc X41 N1 H9)
  refine Go.back st41 ?_
  refine Go.back (fun t k => XS.aloadN Y41.here hx rfl (hb hby d4_23) rfl rfl  k) ?_
  show Go _ _ _ _ (T41.setTop (mkF m 24 #[vR p0, vR p1, vI (0 : Int32), vI (2 : Int32)] [(.ref p0)]))
  refine Go.back (fun t k => XS.bipush Y41.here hx rfl (hb hby d4_24) k) ?_
  obtain ⟨T57, h57, k57, X57, e57, E57, A57, st57⟩ := newP Y41 hx hZ (wk hw 40 rfl) e41 (g := (mkF m 26 #[vR p0, vR p1, vI (0 : Int32), vI (2 : Int32)] [(.int (16 : Int32)), (.ref p0)])) rfl (hb hby d4_26) rfl (by decide) (cap := 16) (by decide) (by decide) (by decide) (by decide)
  obtain ⟨b57, g57⟩ : ∃ z, z = h41.size := ⟨_, rfl⟩
  rw [← g57] at A57 st57
  have ne58 := neB F42.lt g57
  have ne59 := neB F51.lt g57
  have ne60 := neB F53.lt g57
  have ne61 := neB F56.lt g57
  have g62 : n0 ≤ b57 := Nat.le_trans F54 (Nat.le_of_eq g57.symm)
  have sz63 : h0.size ≤ b57 := Nat.le_trans F55.1 (Nat.le_of_eq g57.symm)
  have F64 := F42.ext E57
  have F65 := F43.ext E57
  have F66 := F44.ext E57
  have F67 := F45.ext E57
  have F68 := F46.ext E57
  have F69 := F47.ext E57
  have F70 := F48.ext E57
  have F71 := F49.ext E57
  have F72 := F50.ext E57
  have F73 := F51.ext E57
  have F74 := F52.ext E57
  have F75 := F53.ext E57
  have F76 := Nat.le_trans F54 E57.1
  have F77 := F55.ext E57
  have F78 := F56.ext E57
  have F79 : ArL Z h57 b57 .int [(.int (0 : Int32)), (.int (0 : Int32)), (.int (0 : Int32)), (.int (0 : Int32)), (.int (0 : Int32)), (.int (0 : Int32)), (.int (0 : Int32)), (.int (0 : Int32)), (.int (0 : Int32)), (.int (0 : Int32)), (.int (0 : Int32)), (.int (0 : Int32)), (.int (0 : Int32)), (.int (0 : Int32)), (.int (0 : Int32)), (.int (0 : Int32))] := ArL.new (ty := .int) A57 (n := 16) rfl
  refine Go.back st57 ?_
  obtain ⟨T80, h80, X80, e80, W80, st80⟩ := putF X57 hx hZ hown (host := "") (Or.inl (wk hw 41 rfl)) Via.refl e57 F67 F64 (Or.inl (wk hw 42 rfl)) (wk hw 29 rfl) (ty := (.array .int)) (by decide) rfl rfl (g := (mkF m 28 #[vR p0, vR p1, vI (0 : Int32), vI (2 : Int32)] [(.ref b57), (.ref p0)])) rfl rfl (hb hby d4_28)
  have F81 := F64.wr W80
  have F82 := F65.other W80 (Or.inr (slot_ne (Or.inr (wk hw 35 rfl)) (Or.inl (wk hw 42 rfl)) (by decide) (t := (.object "com/example/onward/onward/check/RequirementRows")) (t' := (.array .int)) (by decide) (by decide)))
  have F83 := F66.other W80 (Or.inr (slot_ne (Or.inr (wk hw 39 rfl)) (Or.inl (wk hw 42 rfl)) (by decide) (t := (.array .long)) (t' := (.array .int)) (by decide) (by decide)))
  have F84 : Fld Z h80 p0 cP "current" "[I" (.ref b57) := F67.same W80
  have F85 := F68.other W80 (Or.inr (slot_ne (Or.inr (wk hw 44 rfl)) (Or.inl (wk hw 42 rfl)) (by decide) (t := .int) (t' := (.array .int)) (by decide) (by decide)))
  have F86 := F69.other W80 (Or.inr (slot_ne (Or.inr (wk hw 46 rfl)) (Or.inl (wk hw 42 rfl)) (by decide) (t := .int) (t' := (.array .int)) (by decide) (by decide)))
  have F87 := F70.other W80 (Or.inr (slot_ne (Or.inl (wk hw 48 rfl)) (Or.inl (wk hw 42 rfl)) (by decide) (t := .int) (t' := (.array .int)) (by decide) (by decide)))
  have F88 := F71.other W80 (Or.inr (slot_ne (Or.inr (wk hw 51 rfl)) (Or.inl (wk hw 42 rfl)) (by decide) (t := (.object "com/example/onward/onward/lts/IntBlocks")) (t' := (.array .int)) (by decide) (by decide)))
  have F89 := F72.other W80 (Or.inr (slot_ne (Or.inl (wk hw 110 rfl)) (Or.inl (wk hw 42 rfl)) (by decide) (t := .int) (t' := (.array .int)) (by decide) (by decide)))
  have F90 := F73.other W80 (Or.inl (Ne.symm H13))
  have F91 := F74.other W80 (Or.inl (Ne.symm H13))
  have F92 := F75.other W80 (Ne.symm H14)
  have F93 := Nat.le_trans F76 (Keep.of_wr W80).1
  have F94 := F77.wr W80 (Or.inl (List.mem_of_getElem? (i := 0) rfl))
  have F95 := F78.other W80 (Ne.symm ne21)
  have F96 := F79.other W80 (Ne.symm ne58)
  obtain ⟨Lo80, Y80, N80⟩ := pk X80 (Fr.snoc X80 N41 H9)
  refine Go.back st80 ?_
  refine Go.back (fun t k => XS.aloadN Y80.here hx rfl (hb hby d4_31) rfl rfl  k) ?_
  show Go _ _ _ _ (T80.setTop (mkF m 32 #[vR p0, vR p1, vI (0 : Int32), vI (2 : Int32)] [(.ref p0)]))
  refine Go.back (fun t k => XS.iloadN Y80.here hx rfl (hb hby d4_32) rfl  k) ?_
  obtain ⟨T97, h97, X97, e97, W97, st97⟩ := putF Y80 hx hZ hown (host := "") (Or.inl (wk hw 43 rfl)) Via.refl e80 F85 F81 (Or.inr ⟨(wk hw 44 rfl), rfl, hnm⟩) (wk hw 29 rfl) (ty := .int) (by decide) rfl rfl (g := (mkF m 33 #[vR p0, vR p1, vI (0 : Int32), vI (2 : Int32)] [(.int (0 : Int32)), (.ref p0)])) rfl rfl (hb hby d4_33)
  have F98 := F81.wr W97
  have F99 := F82.other W97 (Or.inr (slot_ne (Or.inr (wk hw 35 rfl)) (Or.inr (wk hw 44 rfl)) (by decide) (t := (.object "com/example/onward/onward/check/RequirementRows")) (t' := .int) (by decide) (by decide)))
  have F100 := F83.other W97 (Or.inr (slot_ne (Or.inr (wk hw 39 rfl)) (Or.inr (wk hw 44 rfl)) (by decide) (t := (.array .long)) (t' := .int) (by decide) (by decide)))
  have F101 := F84.other W97 (Or.inr (slot_ne (Or.inl (wk hw 42 rfl)) (Or.inr (wk hw 44 rfl)) (by decide) (t := (.array .int)) (t' := .int) (by decide) (by decide)))
  have F102 := F85.same W97
  have F103 := F86.other W97 (Or.inr (slot_ne (Or.inr (wk hw 46 rfl)) (Or.inr (wk hw 44 rfl)) (by decide) (t := .int) (t' := .int) (by decide) (by decide)))
  have F104 := F87.other W97 (Or.inr (slot_ne (Or.inl (wk hw 48 rfl)) (Or.inr (wk hw 44 rfl)) (by decide) (t := .int) (t' := .int) (by decide) (by decide)))
  have F105 := F88.other W97 (Or.inr (slot_ne (Or.inr (wk hw 51 rfl)) (Or.inr (wk hw 44 rfl)) (by decide) (t := (.object "com/example/onward/onward/lts/IntBlocks")) (t' := .int) (by decide) (by decide)))
  have F106 := F89.other W97 (Or.inr (slot_ne (Or.inl (wk hw 110 rfl)) (Or.inr (wk hw 44 rfl)) (by decide) (t := .int) (t' := .int) (by decide) (by decide)))
  have F107 := F90.other W97 (Or.inl (Ne.symm H13))
  have F108 := F91.other W97 (Or.inl (Ne.symm H13))
  have F109 := F92.other W97 (Ne.symm H14)
  have F110 := Nat.le_trans F93 (Keep.of_wr W97).1
  have F111 := F94.wr W97 (Or.inl (List.mem_of_getElem? (i := 0) rfl))
  have F112 := F95.other W97 (Ne.symm ne21)
  have F113 := F96.other W97 (Ne.symm ne58)
  obtain ⟨Lo97, Y97, N97⟩ := pk X97 (Fr.snoc X97 N80 H9)
  refine Go.back st97 ?_
  refine Go.back (fun t k => XS.aloadN Y97.here hx rfl (hb hby d4_36) rfl rfl  k) ?_
  refine Go.back (fun t k => XS.iloadN Y97.here hx rfl (hb hby d4_37) rfl  k) ?_
  show Go _ _ _ _ (T97.setTop (mkF m 38 #[vR p0, vR p1, vI (0 : Int32), vI (2 : Int32)] [(.int (2 : Int32)), (.ref p0)]))
  obtain ⟨T114, h114, X114, e114, W114, st114⟩ := putF Y97 hx hZ hown (host := "") (Or.inl (wk hw 45 rfl)) Via.refl e97 F103 F98 (Or.inr ⟨(wk hw 46 rfl), rfl, hnm⟩) (wk hw 29 rfl) (ty := .int) (by decide) rfl rfl (g := (mkF m 38 #[vR p0, vR p1, vI (0 : Int32), vI (2 : Int32)] [(.int (2 : Int32)), (.ref p0)])) rfl rfl (hb hby d4_38)
  have F115 := F98.wr W114
  have F116 := F99.other W114 (Or.inr (slot_ne (Or.inr (wk hw 35 rfl)) (Or.inr (wk hw 46 rfl)) (by decide) (t := (.object "com/example/onward/onward/check/RequirementRows")) (t' := .int) (by decide) (by decide)))
  have F117 := F100.other W114 (Or.inr (slot_ne (Or.inr (wk hw 39 rfl)) (Or.inr (wk hw 46 rfl)) (by decide) (t := (.array .long)) (t' := .int) (by decide) (by decide)))
  have F118 := F101.other W114 (Or.inr (slot_ne (Or.inl (wk hw 42 rfl)) (Or.inr (wk hw 46 rfl)) (by decide) (t := (.array .int)) (t' := .int) (by decide) (by decide)))
  have F119 := F102.other W114 (Or.inr (slot_ne (Or.inr (wk hw 44 rfl)) (Or.inr (wk hw 46 rfl)) (by decide) (t := .int) (t' := .int) (by decide) (by decide)))
  have F120 : Fld Z h114 p0 cP "end" "I" (.int (2 : Int32)) := F103.same W114
  have F121 := F104.other W114 (Or.inr (slot_ne (Or.inl (wk hw 48 rfl)) (Or.inr (wk hw 46 rfl)) (by decide) (t := .int) (t' := .int) (by decide) (by decide)))
  have F122 := F105.other W114 (Or.inr (slot_ne (Or.inr (wk hw 51 rfl)) (Or.inr (wk hw 46 rfl)) (by decide) (t := (.object "com/example/onward/onward/lts/IntBlocks")) (t' := .int) (by decide) (by decide)))
  have F123 := F106.other W114 (Or.inr (slot_ne (Or.inl (wk hw 110 rfl)) (Or.inr (wk hw 46 rfl)) (by decide) (t := .int) (t' := .int) (by decide) (by decide)))
  have F124 := F107.other W114 (Or.inl (Ne.symm H13))
  have F125 := F108.other W114 (Or.inl (Ne.symm H13))
  have F126 := F109.other W114 (Ne.symm H14)
  have F127 := Nat.le_trans F110 (Keep.of_wr W114).1
  have F128 := F111.wr W114 (Or.inl (List.mem_of_getElem? (i := 0) rfl))
  have F129 := F112.other W114 (Ne.symm ne21)
  have F130 := F113.other W114 (Ne.symm ne58)
  obtain ⟨Lo114, Y114, N114⟩ := pk X114 (Fr.snoc X114 N97 H9)
  refine Go.back st114 ?_
  refine Go.back (fun t k => XS.aloadN Y114.here hx rfl (hb hby d4_41) rfl rfl  k) ?_
  refine Go.back (fun t k => XS.iloadN Y114.here hx rfl (hb hby d4_42) rfl  k) ?_
  obtain ⟨T131, h131, X131, e131, W131, st131⟩ := putF Y114 hx hZ hown (host := "") (Or.inl (wk hw 47 rfl)) Via.refl e114 F121 F115 (Or.inl (wk hw 48 rfl)) (wk hw 29 rfl) (ty := .int) (by decide) rfl rfl (g := (mkF m 43 #[vR p0, vR p1, vI (0 : Int32), vI (2 : Int32)] [(.int (0 : Int32)), (.ref p0)])) rfl rfl (hb hby d4_43)
  have F132 := F115.wr W131
  have F133 := F116.other W131 (Or.inr (slot_ne (Or.inr (wk hw 35 rfl)) (Or.inl (wk hw 48 rfl)) (by decide) (t := (.object "com/example/onward/onward/check/RequirementRows")) (t' := .int) (by decide) (by decide)))
  have F134 := F117.other W131 (Or.inr (slot_ne (Or.inr (wk hw 39 rfl)) (Or.inl (wk hw 48 rfl)) (by decide) (t := (.array .long)) (t' := .int) (by decide) (by decide)))
  have F135 := F118.other W131 (Or.inr (slot_ne (Or.inl (wk hw 42 rfl)) (Or.inl (wk hw 48 rfl)) (by decide) (t := (.array .int)) (t' := .int) (by decide) (by decide)))
  have F136 := F119.other W131 (Or.inr (slot_ne (Or.inr (wk hw 44 rfl)) (Or.inl (wk hw 48 rfl)) (by decide) (t := .int) (t' := .int) (by decide) (by decide)))
  have F137 := F120.other W131 (Or.inr (slot_ne (Or.inr (wk hw 46 rfl)) (Or.inl (wk hw 48 rfl)) (by decide) (t := .int) (t' := .int) (by decide) (by decide)))
  have F138 := F121.same W131
  have F139 := F122.other W131 (Or.inr (slot_ne (Or.inr (wk hw 51 rfl)) (Or.inl (wk hw 48 rfl)) (by decide) (t := (.object "com/example/onward/onward/lts/IntBlocks")) (t' := .int) (by decide) (by decide)))
  have F140 := F123.other W131 (Or.inr (slot_ne (Or.inl (wk hw 110 rfl)) (Or.inl (wk hw 48 rfl)) (by decide) (t := .int) (t' := .int) (by decide) (by decide)))
  have F141 := F124.other W131 (Or.inl (Ne.symm H13))
  have F142 := F125.other W131 (Or.inl (Ne.symm H13))
  have F143 := F126.other W131 (Ne.symm H14)
  have F144 := Nat.le_trans F127 (Keep.of_wr W131).1
  have F145 := F128.wr W131 (Or.inl (List.mem_of_getElem? (i := 0) rfl))
  have F146 := F129.other W131 (Ne.symm ne21)
  have F147 := F130.other W131 (Ne.symm ne58)
  obtain ⟨Lo131, Y131, N131⟩ := pk X131 (Fr.snoc X131 N114 H9)
  refine Go.back st131 ?_
  show Go _ _ _ _ (T131.setTop (mkF m 46 #[vR p0, vR p1, vI (0 : Int32), vI (2 : Int32)] []))
  refine Go.back (fun t k => XS.aloadN Y131.here hx rfl (hb hby d4_46) rfl rfl  k) ?_
  refine Go.back (fun t k => XS.aloadN Y131.here hx rfl (hb hby d4_47) rfl rfl  k) ?_
  obtain ⟨T148, X148, e148, st148⟩ := getF Y131 hx hZ hown (Or.inr (wk hw 49 rfl)) Via.refl e131 F141 (g := (mkF m 48 #[vR p0, vR p1, vI (0 : Int32), vI (2 : Int32)] [(.ref p1), (.ref p0)])) rfl rfl (hb hby d4_48)
  refine Go.back st148 ?_
  show Go _ _ _ _ (T148.setTop (mkF m 51 #[vR p0, vR p1, vI (0 : Int32), vI (2 : Int32)] [(.ref ro), (.ref p0)]))
  refine Go.back (fun t k => XS.ifnonnullYes X148.here hx rfl (pc0 := 51) (pc' := 66) rfl (hb hby d4_51) rfl (by decide) (by decide) k) ?_
  show Go _ _ _ _ (T148.setTop (mkF m 66 #[vR p0, vR p1, vI (0 : Int32), vI (2 : Int32)] [(.ref p0)]))
  refine Go.back (fun t k => XS.aconstNull X148.here hx rfl (hb hby d4_66) k) ?_
  obtain ⟨T149, h149, X149, e149, W149, st149⟩ := putF X148 hx hZ hown (host := "") (Or.inl (wk hw 50 rfl)) Via.refl e148 F139 F132 (Or.inr ⟨(wk hw 51 rfl), rfl, hnm⟩) (wk hw 29 rfl) (ty := (.object "com/example/onward/onward/lts/IntBlocks")) (by decide) rfl rfl (g := (mkF m 67 #[vR p0, vR p1, vI (0 : Int32), vI (2 : Int32)] [.null, (.ref p0)])) rfl rfl (hb hby d4_67)
  have F150 := F132.wr W149
  have F151 := F133.other W149 (Or.inr (slot_ne (Or.inr (wk hw 35 rfl)) (Or.inr (wk hw 51 rfl)) (by decide) (t := (.object "com/example/onward/onward/check/RequirementRows")) (t' := (.object "com/example/onward/onward/lts/IntBlocks")) (by decide) (by decide)))
  have F152 := F134.other W149 (Or.inr (slot_ne (Or.inr (wk hw 39 rfl)) (Or.inr (wk hw 51 rfl)) (by decide) (t := (.array .long)) (t' := (.object "com/example/onward/onward/lts/IntBlocks")) (by decide) (by decide)))
  have F153 := F135.other W149 (Or.inr (slot_ne (Or.inl (wk hw 42 rfl)) (Or.inr (wk hw 51 rfl)) (by decide) (t := (.array .int)) (t' := (.object "com/example/onward/onward/lts/IntBlocks")) (by decide) (by decide)))
  have F154 := F136.other W149 (Or.inr (slot_ne (Or.inr (wk hw 44 rfl)) (Or.inr (wk hw 51 rfl)) (by decide) (t := .int) (t' := (.object "com/example/onward/onward/lts/IntBlocks")) (by decide) (by decide)))
  have F155 := F137.other W149 (Or.inr (slot_ne (Or.inr (wk hw 46 rfl)) (Or.inr (wk hw 51 rfl)) (by decide) (t := .int) (t' := (.object "com/example/onward/onward/lts/IntBlocks")) (by decide) (by decide)))
  have F156 := F138.other W149 (Or.inr (slot_ne (Or.inl (wk hw 48 rfl)) (Or.inr (wk hw 51 rfl)) (by decide) (t := .int) (t' := (.object "com/example/onward/onward/lts/IntBlocks")) (by decide) (by decide)))
  have F157 := F139.same W149
  have F158 := F140.other W149 (Or.inr (slot_ne (Or.inl (wk hw 110 rfl)) (Or.inr (wk hw 51 rfl)) (by decide) (t := .int) (t' := (.object "com/example/onward/onward/lts/IntBlocks")) (by decide) (by decide)))
  have F159 := F141.other W149 (Or.inl (Ne.symm H13))
  have F160 := F142.other W149 (Or.inl (Ne.symm H13))
  have F161 := F143.other W149 (Ne.symm H14)
  have F162 := Nat.le_trans F144 (Keep.of_wr W149).1
  have F163 := F145.wr W149 (Or.inl (List.mem_of_getElem? (i := 0) rfl))
  have F164 := F146.other W149 (Ne.symm ne21)
  have F165 := F147.other W149 (Ne.symm ne58)
  obtain ⟨Lo149, Y149, N149⟩ := pk X149 (Fr.snoc X149 N131 H9)
  refine Go.back st149 ?_
  show Go _ _ _ _ (T149.setTop (mkF m 70 #[vR p0, vR p1, vI (0 : Int32), vI (2 : Int32)] []))
  exact Go.retV Y149 hx Bd.returns (hb hby d4_70) Bd.notSynchronized ⟨rfl, N149, (by rw [e149]; exact F163), b20, b57, sz25, sz63, ne61, (by rw [e149]; exact F151), (by rw [e149]; exact F152), (by rw [e149]; exact F153), (by rw [e149]; exact F154), (by rw [e149]; exact F155), (by rw [e149]; exact F156), (by rw [e149]; exact F157), (by rw [e149]; exact F158), (by rw [e149]; exact F164), (by rw [e149]; exact F165)⟩ (by decide) (by decide)
def Q61 (Z : State) (p0 : Addr) (aa : Addr) (xs : List Int64) (ro : Addr) (h0 : Heap) (n0 : Nat) (v : Option Value) (h : Heap) (L : List Loc) : Prop := True ∧ Fr n0 L ∧ Keep h0 h [] ∧ ∃ pt an cu : Addr, h0.size ≤ pt ∧ h0.size ≤ an ∧ h0.size ≤ cu ∧ pt ≠ an ∧ pt ≠ cu ∧ an ≠ cu ∧ v = some (.ref pt) ∧ Exa Z h pt cP ∧ Fld Z h pt cP "this$0" dR (.ref p0) ∧ Fld Z h pt cP "anywhere" "[J" (.ref an) ∧ Fld Z h pt cP "current" "[I" (.ref cu) ∧ Fld Z h pt cP "first" "I" (.int (0 : Int32)) ∧ Fld Z h pt cP "end" "I" (.int (2 : Int32)) ∧ Fld Z h pt cP "filling" "I" (.int (0 : Int32)) ∧ Fld Z h pt cP "listed" dI .null ∧ Fld Z h pt cP "currentCount" "I" (.int (0 : Int32)) ∧ ArL Z h an .long (List.map Value.long (List.replicate (List.length xs) (0 : Int64))) ∧ ArL Z h cu .int [(.int (0 : Int32)), (.int (0 : Int32)), (.int (0 : Int32)), (.int (0 : Int32)), (.int (0 : Int32)), (.int (0 : Int32)), (.int (0 : Int32)), (.int (0 : Int32)), (.int (0 : Int32)), (.int (0 : Int32)), (.int (0 : Int32)), (.int (0 : Int32)), (.int (0 : Int32)), (.int (0 : Int32)), (.int (0 : Int32)), (.int (0 : Int32))]
abbrev rmm61 : Room := { frames := 2, cells := 3, slots := 32, locals := 28 }
abbrev P61 (Z : State) (p0 : Addr) (aa : Addr) (xs : List Int64) (ro : Addr) (h0 : Heap) (n0 : Nat) (s : State) : Outcome → State → Prop := fun o U' => ∃ v L, o = .returned v ∧ Q61 Z p0 aa xs ro h0 n0 v U'.heap L ∧ FrameEnd s o U' L rmm61.cells rmm61.slots
theorem pn_61 : plainName "com/example/onward/onward/check/RequirementRows" = true := by first | (simp [plainName, overriddenIn]; done) | decide +kernel
theorem ef_61 (m : MethodId) (p0 : Addr) : entryFrame m #[(.ref p0), (.int (0 : Int32)), (.int (2 : Int32))] 3 = mkF m 0 #[vR p0, vI (0 : Int32), vI (2 : Int32)] [] := by first | (simp [entryFrame, mkF, argsToLocals, Value.category]; done) | rfl
set_option maxRecDepth 65536 in
set_option maxHeartbeats 40000000 in
theorem rm61 (l : Launch) (Z : State) (a0 : Array Value) (hw : ∀ d ∈ tables_1, d.before a0 Z = true) (ws : List Jvm.Cond) (p0 : Addr) (aa : Addr) (xs : List Int64) (ro : Addr) (h0 : Heap) (n0 : Nat) (Z0 : n0 ≤ h0.size) (H0 : Fld Z h0 p0 cR "rows" "[J" (.ref ro)) (H1 : Fld Z h0 p0 cR "anywhere" "[J" (.ref aa)) (H2 : ArL Z h0 aa .long (List.map Value.long xs)) (H3 : p0 ≠ aa) (hx8 : xs.length ≤ 8) :
    MetFree l (⟨"com/example/onward/onward/check/RequirementRows", "part", "(II)Lcom/example/onward/onward/check/RequirementRows$Part;"⟩ : MethodName) (head1 (Jvm.Cond.code (⟨"com/example/onward/onward/check/RequirementRows", "part", "(II)Lcom/example/onward/onward/check/RequirementRows$Part;"⟩ : MethodName) prog_61_method_2_code 3 (some (.object "com/example/onward/onward/check/RequirementRows$Part")) :: ws) rmm61) (fun a U => a = #[(.ref p0), (.int (0 : Int32)), (.int (2 : Int32))] ∧ Z.Warmed39 U.vm ∧ U.heap = h0) (fun _ _ _ _ _ => True) (fun _ U o U' => ∃ v L, o = .returned v ∧ Q61 Z p0 aa xs ro h0 n0 v U'.heap L ∧ FrameEnd U o U' L rmm61.cells rmm61.slots) := by
  refine MetFree.of_bodySF (plainFor_of_name pn_61) hisR ?_
  intro p e s m args below meth c s₁ Bd hml0 hP hK
  obtain ⟨rfl, hZ, hh⟩ := hP
  have hx := Bd.exec
  have hby := Bd.bytes
  have hml : c.maxLocals = 3 := hml0
  have hown : s.vm.findClass "com/example/onward/onward/check/RequirementRows" = some m.cls := findClass_of_methodNamed Bd.named
  have hnm := (name_of_methodNamed Bd.named Bd.method).1
  have X0 : Stand p l e rmm61 s m #[(.ref p0), (.int (0 : Int32)), (.int (2 : Int32))] below meth c s₁ [] 0 0 := Stand.of_body Bd
  have e0 : s₁.heap = h0 := by rw [← hh, Bd.state]; rfl
  have N0 := Fr.nil n0
  show Go p.tables e below (P61 Z p0 aa xs ro h0 n0 s) (s₁.setTop (entryFrame m #[(.ref p0), (.int (0 : Int32)), (.int (2 : Int32))] 3))
  refine Go.back (fun t k => castTop (ef_61 m p0) k) ?_
  show Go p.tables e below (P61 Z p0 aa xs ro h0 n0 s) (s₁.setTop (mkF m 0 #[vR p0, vI (0 : Int32), vI (2 : Int32)] []))
  obtain ⟨T1, h1, X1, e1, E1, A1, D1, -, st1⟩ := newO X0 hx hZ hown (wk hw 28 rfl) (wk hw 29 rfl) (wk hw 30 rfl) e0 (g := (mkF m 0 #[vR p0, vI (0 : Int32), vI (2 : Int32)] [])) rfl (hb hby d3_0) (by decide) (by decide)
  obtain ⟨b1, g1⟩ : ∃ z, z = h0.size := ⟨_, rfl⟩
  rw [← g1] at A1 D1 st1
  have ne2 := neB H0.lt g1
  have ne3 := neB H2.lt g1
  have g4 : n0 ≤ b1 := Nat.le_trans Z0 (Nat.le_of_eq g1.symm)
  have sz5 : h0.size ≤ b1 := Nat.le_trans (Keep.refl h0 []).1 (Nat.le_of_eq g1.symm)
  have F6 := H0.ext E1
  have F7 := H1.ext E1
  have F8 := H2.ext E1
  have F9 := Nat.le_trans Z0 E1.1
  have F10 : Keep h0 h1 [] := (Keep.refl h0 []).ext E1
  have F11 : Fld Z h1 b1 cP "this$0" dR .null := D1 (Or.inr (wk hw 35 rfl)) (ty := (.object "com/example/onward/onward/check/RequirementRows")) (by decide)
  have F12 : Fld Z h1 b1 cP "anywhere" "[J" .null := D1 (Or.inr (wk hw 39 rfl)) (ty := (.array .long)) (by decide)
  have F13 : Fld Z h1 b1 cP "current" "[I" .null := D1 (Or.inl (wk hw 42 rfl)) (ty := (.array .int)) (by decide)
  have F14 : Fld Z h1 b1 cP "first" "I" (.int (0 : Int32)) := D1 (Or.inr (wk hw 44 rfl)) (ty := .int) (by decide)
  have F15 : Fld Z h1 b1 cP "end" "I" (.int (0 : Int32)) := D1 (Or.inr (wk hw 46 rfl)) (ty := .int) (by decide)
  have F16 : Fld Z h1 b1 cP "filling" "I" (.int (0 : Int32)) := D1 (Or.inl (wk hw 48 rfl)) (ty := .int) (by decide)
  have F17 : Fld Z h1 b1 cP "listed" dI .null := D1 (Or.inr (wk hw 51 rfl)) (ty := (.object "com/example/onward/onward/lts/IntBlocks")) (by decide)
  have F18 : Fld Z h1 b1 cP "currentCount" "I" (.int (0 : Int32)) := D1 (Or.inl (wk hw 110 rfl)) (ty := .int) (by decide)
  refine Go.back st1 ?_
  refine Go.back (fun t k => XS.dup X1.here hx rfl (hb hby d3_3) rfl rfl k) ?_
  refine Go.back (fun t k => XS.aloadN X1.here hx rfl (hb hby d3_4) rfl rfl  k) ?_
  refine Go.back (fun t k => XS.iloadN X1.here hx rfl (hb hby d3_5) rfl  k) ?_
  show Go _ _ _ _ (T1.setTop (mkF m 6 #[vR p0, vI (0 : Int32), vI (2 : Int32)] [(.int (0 : Int32)), (.ref p0), (.ref b1), (.ref b1)]))
  refine Go.back (fun t k => XS.iloadN X1.here hx rfl (hb hby d3_6) rfl  k) ?_
  obtain ⟨_, _, ⟨T19, L19, k19, n19⟩, -, X19, ⟨Lc19, hQ19, l19, y19, z19⟩, st19⟩ := specialBackR X1 hx hZ (y := (⟨"com/example/onward/onward/check/RequirementRows$Part", "<init>", "(Lcom/example/onward/onward/check/RequirementRows;II)V"⟩ : MethodName)) rfl hown (wk hw 31 rfl) (wk hw 32 rfl) (wk hw 33 rfl) (by decide) (backOf (W := 1) (rm60 l Z a0 hw [] b1 p0 aa xs ro h1 n0 F9 A1 F11 F12 F13 F14 F15 F16 F17 F18 g4 F6 F7 F8 (Ne.symm ne2) (Ne.symm ne3) H3 hx8) hZ (wk hw 33 rfl) (wk hw 30 rfl) (by decide) (by decide)) (g := (mkF m 7 #[vR p0, vI (0 : Int32), vI (2 : Int32)] [(.int (2 : Int32)), (.int (0 : Int32)), (.ref p0), (.ref b1), (.ref b1)])) rfl (by rw [hml]; rfl) (Steps.refl _) (a := b1) (argsL := [(.ref p0), (.int (0 : Int32)), (.int (2 : Int32))]) (rest := [(.ref b1)]) (lenOf pd_8 rfl) rfl (by show 2 * 0 + _ ≤ _; exact Nat.le_of_eq rfl) (hb hby d3_7) (fun _ _ => ⟨rfl, e1, (by decide : 1 + 2 ≤ _), (by decide : 8 + 24 ≤ _)⟩)
  dsimp only [Pt.U, Pt.locs, Pt.cells, Pt.slots] at X19 l19 y19 z19 st19 hQ19
  subst l19 y19 z19
  obtain ⟨h19, e19⟩ : ∃ z, T19.heap = z := ⟨_, rfl⟩
  rw [e19] at hQ19
  obtain ⟨rfl, N19q, K19, o26, o27, sz28, sz29, ne30, F41, F42, F43, F44, F45, F46, F47, F48, F49, F50⟩ := hQ19
  obtain ⟨Lo19, Y19, N19⟩ := pk X19 (Fr.app N0 N19q)
  have F20 := F6.keep K19 (ninS ne2 nin0)
  have F21 := F7.keep K19 (ninS ne2 nin0)
  have F22 := F8.keep K19 (ninS ne3 nin0)
  have F23 := Nat.le_trans F9 K19.1
  have F24 := F10.trans K19 (allS (P := fun x => x ∈ [] ∨ h0.size ≤ x) (Or.inr sz5) all0)
  have F25 := A1.keep K19
  have g31 : n0 ≤ o26 := Nat.le_trans F9 sz28
  have sz32 : h0.size ≤ o26 := Nat.le_trans F10.1 sz28
  have ne33 := neC F6.lt sz28
  have ne34 := neC F8.lt sz28
  have ne35 := neC A1.lt sz28
  have g36 : n0 ≤ o27 := Nat.le_trans F9 sz29
  have sz37 : h0.size ≤ o27 := Nat.le_trans F10.1 sz29
  have ne38 := neC F6.lt sz29
  have ne39 := neC F8.lt sz29
  have ne40 := neC A1.lt sz29
  refine Go.trans st19 ?_
  show Go _ _ _ _ (T19.setTop (mkF m 10 #[vR p0, vI (0 : Int32), vI (2 : Int32)] [(.ref b1)]))
  exact Go.retR Y19 hx Bd.returns rfl (hb hby d3_10) Bd.notSynchronized ⟨trivial, N19, (by rw [e19]; exact F24), b1, o26, o27, sz5, sz32, sz37, ne35, ne40, ne30, rfl, (by rw [e19]; exact F25), (by rw [e19]; exact F41), (by rw [e19]; exact F42), (by rw [e19]; exact F43), (by rw [e19]; exact F44), (by rw [e19]; exact F45), (by rw [e19]; exact F46), (by rw [e19]; exact F47), (by rw [e19]; exact F48), (by rw [e19]; exact F49), (by rw [e19]; exact F50)⟩ (by decide) (by decide)
theorem own_r {z p : Int32} (h : z = p &&& (511 : Int32)) : ∃ k : Fin 512, z = Int32.ofNat k.val := by
  have b : (p &&& (511 : Int32)).toBitVec.toNat < 512 := by
    rw [Int32.toBitVec_and, BitVec.toNat_and]
    exact Nat.lt_succ_of_le Nat.and_le_right
  refine ⟨⟨_, b⟩, ?_⟩
  rw [h]
  apply Int32.toBitVec_inj.mp
  show _ = BitVec.ofNat 32 _
  rw [BitVec.ofNat_toNat]; simp
theorem own_tab : ∀ k : Fin 512, 0 ≤ (Int32.ofNat k.val).toInt ∧ 0 ≤ (((Int32.ofNat k.val) + (63 : Int32)) / (64 : Int32)).toInt ∧ (((Int32.ofNat k.val) + (63 : Int32)) / (64 : Int32)).toInt ≤ 8 ∧ (Int32.ofNat k.val).toInt ≤ 64 * (((Int32.ofNat k.val) + (63 : Int32)) / (64 : Int32)).toInt := by decide +kernel
theorem own_wr {z w p : Int32} (h : z = p &&& (511 : Int32)) (hw : ((z + (63 : Int32)) / (64 : Int32)) = w) : own_w w ∧ 0 ≤ z.toInt ∧ z.toInt ≤ 64 * w.toInt := by
  obtain ⟨k, rfl⟩ := own_r h
  have t := own_tab k
  rw [hw] at t
  exact ⟨⟨t.2.1, t.2.2.1⟩, t.1, t.2.2.2⟩
theorem own_nz {z : Int32} (h : (0 : Int32) < z) : ¬ z = (0 : Int32) := fun e => by subst e; exact absurd h (by decide)
/-- a remainder by z5 -/
theorem own_rem {z x y : Int32} (h : z = (if (0 : Int32) < y then ((x &&& (2147483647 : Int32)) % y) else (0 : Int32))) (hy : (0 : Int32) < y) : 0 ≤ z.toInt ∧ z.toInt < y.toInt := by
  rw [if_pos hy] at h
  rw [h, Int32.toInt_mod]
  have l0 : (0 : Int32).toInt = 0 := by decide
  rw [Int32.lt_iff_toInt_lt, l0] at hy
  have q : 0 ≤ (x &&& (2147483647 : Int32)).toInt := by
    have b : (x &&& (2147483647 : Int32)).toBitVec.toNat ≤ 2147483647 := by
      rw [Int32.toBitVec_and, BitVec.toNat_and]
      exact Nat.and_le_right
    show 0 ≤ (x &&& (2147483647 : Int32)).toBitVec.toInt
    rw [BitVec.toInt_eq_toNat_cond, if_pos (by omega)]
    omega
  exact ⟨Int.tmod_nonneg _ q, Int.tmod_lt_of_pos _ hy⟩
/-- a raised bit is not zero -/
theorem own_bit (x : Int64) (r : Int32) : ¬ (x ||| ((1 : Int64) <<< (r &&& 0x3f).toInt64)) = (0 : Int64) := by
  have t : ∀ k : Fin 64, ¬ ((1 : Int64) <<< (Int32.ofNat k.val).toInt64) = (0 : Int64) := by decide +kernel
  have b : (r &&& (0x3f : Int32)).toBitVec.toNat < 64 := by
    rw [Int32.toBitVec_and, BitVec.toNat_and]
    exact Nat.lt_succ_of_le Nat.and_le_right
  have e : (r &&& (0x3f : Int32)) = Int32.ofNat (r &&& (0x3f : Int32)).toBitVec.toNat := by
    apply Int32.toBitVec_inj.mp
    show _ = BitVec.ofNat 32 _
    rw [BitVec.ofNat_toNat]; simp
  intro h
  have h2 := congrArg Int64.toBitVec h
  rw [Int64.toBitVec_or] at h2
  have h3 := (BitVec.or_eq_zero_iff.mp (h2.trans (by decide))).2
  refine t ⟨_, b⟩ (Int64.toBitVec_inj.mp (Eq.trans ?_ (h3.trans (by decide))))
  show ((1 : Int64) <<< (Int32.ofNat (r &&& (0x3f : Int32)).toBitVec.toNat).toInt64).toBitVec = _
  rw [← e]
/-- what the rows tell: of the first state a, of the second b -/
def own_rows (R : List Int64) (w : Nat) (a b : Bool) : Prop := R.length = 2 * w ∧ ((∃ k : Nat, k < w ∧ ¬ R.getD k (0 : Int64) = 0) ↔ a = true) ∧ ((∃ k : Nat, k < w ∧ ¬ R.getD (w + k) (0 : Int64) = 0) ↔ b = true)
theorem own_rep0 (n k : Nat) : (List.replicate n (0 : Int64)).getD k 0 = 0 := by
  rw [List.getD_eq_getElem?_getD, List.getElem?_replicate]
  split <;> rfl
theorem own_rows0 {n w : Nat} (h : n = 2 * w) : own_rows (List.replicate n (0 : Int64)) w false false := by
  refine ⟨by rw [List.length_replicate]; exact h, ⟨fun ⟨k, _, q⟩ => absurd (own_rep0 _ _) q, fun q => by cases q⟩, ⟨fun ⟨k, _, q⟩ => absurd (own_rep0 _ _) q, fun q => by cases q⟩⟩
theorem own_getset (R : List Int64) (j k : Nat) (v : Int64) (hj : j < R.length) : (R.set j v).getD k 0 = if j = k then v else R.getD k 0 := by
  rw [List.getD_eq_getElem?_getD, List.getD_eq_getElem?_getD, List.getElem?_set]
  by_cases q : j = k
  · subst q; rw [if_pos rfl, if_pos rfl, if_pos hj]; rfl
  · rw [if_neg q, if_neg q]
theorem own_rows_a {R : List Int64} {w j : Nat} {v : Int64} {a b : Bool} (h : own_rows R w a b) (hj : j < w) (hv : ¬ v = 0) : own_rows (R.set j v) w true b := by
  have hl : j < R.length := by rw [h.1]; omega
  refine ⟨by rw [List.length_set]; exact h.1, ⟨fun _ => rfl, fun _ => ⟨j, hj, ?_⟩⟩, ?_⟩
  · rw [own_getset _ _ _ _ hl, if_pos rfl]; exact hv
  · rw [← h.2.2]
    constructor
    · rintro ⟨k, hk, q⟩; refine ⟨k, hk, ?_⟩; rw [own_getset _ _ _ _ hl, if_neg (by omega)] at q; exact q
    · rintro ⟨k, hk, q⟩; refine ⟨k, hk, ?_⟩; rw [own_getset _ _ _ _ hl, if_neg (by omega)]; exact q
theorem own_rows_b {R : List Int64} {w j : Nat} {v : Int64} {a b : Bool} (h : own_rows R w a b) (h0 : w ≤ j) (hj : j < 2 * w) (hv : ¬ v = 0) : own_rows (R.set j v) w a true := by
  have hl : j < R.length := by rw [h.1]; omega
  refine ⟨by rw [List.length_set]; exact h.1, ?_, ⟨fun _ => rfl, fun _ => ⟨j - w, by omega, ?_⟩⟩⟩
  · rw [← h.2.1]
    constructor
    · rintro ⟨k, hk, q⟩; refine ⟨k, hk, ?_⟩; rw [own_getset _ _ _ _ hl, if_neg (by omega)] at q; exact q
    · rintro ⟨k, hk, q⟩; refine ⟨k, hk, ?_⟩; rw [own_getset _ _ _ _ hl, if_neg (by omega)]; exact q
  · rw [own_getset _ _ _ _ hl, if_pos (by omega)]; exact hv
theorem own_anyT (xs : List Int64) (b : Int32) : ∀ (n : Nat) (i : Int32), own_any xs b n i true = true := fun n i => by cases n <;> simp [own_any]
theorem own_any_iff (xs : List Int64) (b : Int32) (B : Nat) (hb : b.toInt = B) : ∀ (n : Nat) (i : Int32) (I : Nat), i.toInt = I → B + I + n ≤ 900 → (own_any xs b n i false = true ↔ ∃ k : Nat, k < n ∧ ¬ xs.getD (B + (I + k)) (0 : Int64) = 0) := by
  intro n
  induction n with
  | zero => intro i I _ _; constructor
            · intro h; cases h
            · rintro ⟨k, hk, _⟩; omega
  | succ n ih =>
    intro i I hi hs
    have e := own_add hb hi (by omega) (by omega)
    have e2 : (b + i).toNatClampNeg = B + I := by rw [show (b + i).toNatClampNeg = (b + i).toInt.toNat from rfl, e]; omega
    have e1 : (i + (1 : Int32)).toInt = ((I + 1 : Nat) : Int) := by
      have q := own_add hi (show (1 : Int32).toInt = 1 from by decide) (by omega) (by omega)
      rw [q]; omega
    simp only [own_any, e2]
    rw [if_neg (by decide)]
    by_cases q : xs.getD (B + I) (0 : Int64) = 0
    · rw [if_pos q, ih (i + 1) (I + 1) e1 (by omega)]
      constructor
      · rintro ⟨k, hk, z⟩; exact ⟨k + 1, by omega, by rw [show B + (I + (k + 1)) = B + (I + 1 + k) by omega]; exact z⟩
      · rintro ⟨k, hk, z⟩
        cases k with
        | zero => exact absurd q z
        | succ k => exact ⟨k, by omega, by rw [show B + (I + 1 + k) = B + (I + (k + 1)) by omega]; exact z⟩
    · rw [if_neg q, own_anyT]
      exact ⟨fun _ => ⟨0, by omega, q⟩, fun _ => rfl⟩
theorem own_beq {a b : Bool} (h : a = true ↔ b = true) : a = b := by
  cases a <;> cases b <;> simp_all
theorem own_any0 {R : List Int64} {w : Int32} {a b : Bool} (h4 : own_w4 w) (h : own_rows R w.toNatClampNeg a b) : own_any R ((0 : Int32) * w) (w).toNatClampNeg (0 : Int32) false = a := by
  have := (own_w8_c (own_w4_w h4)).2.1
  have e : ((0 : Int32) * w).toInt = ((0 : Nat) : Int) := by rw [(own_fw (Or.inl rfl) h4).1]; simp
  refine own_beq ((own_any_iff R _ 0 e _ 0 0 (by decide) (by omega)).trans ?_)
  rw [← h.2.1]
  simp only [Nat.zero_add]
theorem own_any1 {R : List Int64} {w : Int32} {a b : Bool} (h4 : own_w4 w) (h : own_rows R w.toNatClampNeg a b) : own_any R ((1 : Int32) * w) (w).toNatClampNeg (0 : Int32) false = b := by
  have q := own_w8_c (own_w4_w h4)
  have e : ((1 : Int32) * w).toInt = ((w.toNatClampNeg : Nat) : Int) := by
    rw [(own_fw (Or.inr rfl) h4).1, q.2.2, show (1 : Int32).toInt = 1 from by decide]; omega
  refine own_beq ((own_any_iff R _ _ e _ 0 0 (by decide) (by have := q.2.1; omega)).trans ?_)
  rw [← h.2.2]
  simp only [Nat.zero_add]
/-- the place of a requirement in the rows -/
theorem own_pl {z w j : Int32} {fi : Int32} (hf : fi = 0 ∨ fi = 1) (h4 : own_w4 w) (hz : 0 ≤ z.toInt ∧ z.toInt < 64 * w.toInt) (hj : ((fi * w) + (((z).toUInt32 >>> ((6 : Int32) &&& 31).toUInt32).toInt32)) = j) : ¬ j < (0 : Int32) ∧ j.toInt = fi.toInt * w.toInt + z.toInt / 64 ∧ z.toInt / 64 < w.toInt := by
  have s := own_shr hz.1
  have q := own_row (k := 2 * w.toNatClampNeg) hf h4 (i := ((z).toUInt32 >>> ((6 : Int32) &&& 31).toUInt32).toInt32) (by rw [s]; have := hz.1; omega) (by rw [s]; have := hz.2; omega) (by have := (own_w8_c (own_w4_w h4)).2.2; omega)
  rw [hj, s] at q
  exact ⟨q.1, q.2.2, by have := hz.2; omega⟩
theorem own_pl0 {z w j : Int32} (h4 : own_w4 w) (hz : 0 ≤ z.toInt ∧ z.toInt < 64 * w.toInt) (hj : (((0 : Int32) * w) + (((z).toUInt32 >>> ((6 : Int32) &&& 31).toUInt32).toInt32)) = j) : ¬ j < (0 : Int32) ∧ j.toNatClampNeg < w.toNatClampNeg := by
  have q := own_pl (Or.inl rfl) h4 hz hj
  refine ⟨q.1, ?_⟩
  have l0 : (0 : Int32).toInt = 0 := by decide
  have := (own_w8_c (own_w4_w h4)).2.2
  rw [show j.toNatClampNeg = j.toInt.toNat from rfl, q.2.1, l0]
  have := q.2.2; have := hz.1; omega
theorem own_pl1 {z w j : Int32} (h4 : own_w4 w) (hz : 0 ≤ z.toInt ∧ z.toInt < 64 * w.toInt) (hj : (((1 : Int32) * w) + (((z).toUInt32 >>> ((6 : Int32) &&& 31).toUInt32).toInt32)) = j) : ¬ j < (0 : Int32) ∧ w.toNatClampNeg ≤ j.toNatClampNeg ∧ j.toNatClampNeg < 2 * w.toNatClampNeg := by
  have q := own_pl (Or.inr rfl) h4 hz hj
  have l0 : (1 : Int32).toInt = 1 := by decide
  have := (own_w8_c (own_w4_w h4)).2.2
  rw [show j.toNatClampNeg = j.toInt.toNat from rfl, q.2.1, l0]
  refine ⟨q.1, ?_, ?_⟩ <;> (have := q.2.2; have := hz.1; omega)
theorem own_n2 {w : Int32} (h : own_w4 w) : ((2 : Int32) * w).toNatClampNeg = 2 * w.toNatClampNeg := by
  have := (own_w4_c h).2.2; have := (own_w8_c (own_w4_w h)).2.2; omega
theorem own_ff {b : Bool} (h : ¬ b = true) : false = b := by cases b <;> simp_all
/-- where a bit is asked for there is a requirement -/
theorem own_has {b c : Bool} {y : Int32} (h : b = (if (0 : Int32) < y then c else false)) (hb : b = true) : (0 : Int32) < y := by
  by_cases q : (0 : Int32) < y
  · exact q
  · rw [if_neg q] at h; rw [h] at hb; cases hb
theorem own_len2 {R : List Int64} {w : Int32} {a b : Bool} (h4 : own_w4 w) (h : own_rows R w.toNatClampNeg a b) : (R.length : Int) = 2 * w.toInt := by
  have := h.1; have := (own_w8_c (own_w4_w h4)).2.2; omega
theorem own_rows_ifa {R S : List Int64} {w : Nat} {a b c : Bool} (h : own_rows R w a b) (q : c = true → own_rows S w true b) : own_rows (if c = true then S else R) w (a || c) b := by
  cases c
  · simpa using h
  · simpa using q rfl
theorem own_rows_ifb {R S : List Int64} {w : Nat} {a b c : Bool} (h : own_rows R w a b) (q : c = true → own_rows S w a true) : own_rows (if c = true then S else R) w a (b || c) := by
  cases c
  · simpa using h
  · simpa using q rfl
theorem own_dm {z x y w : Int32} {b c : Bool} (h : z = (if (0 : Int32) < y then ((x &&& (2147483647 : Int32)) % y) else (0 : Int32))) (hb : b = (if (0 : Int32) < y then c else false)) (hc : b = true) (hy : y.toInt ≤ 64 * w.toInt) : 0 ≤ z.toInt ∧ z.toInt < 64 * w.toInt := by
  have q := own_rem h (own_has hb hc)
  omega
theorem own_rg {z w : Int32} {n m : Nat} (hn : n = m) (hm : (m : Int) = w.toInt) (h : 0 ≤ z.toInt ∧ z.toInt < 64 * w.toInt) : own_rng z n := by
  subst hn; exact ⟨h.1, by rw [hm]; exact h.2⟩
theorem own_g (c : Prop) [Decidable c] : (if c then ((0 : Int32) + (1 : Int32)) else (((0 : Int32) + (1 : Int32)) + (1 : Int32))) = 1 ∨ (if c then ((0 : Int32) + (1 : Int32)) else (((0 : Int32) + (1 : Int32)) + (1 : Int32))) = 2 := by
  by_cases h : c
  · rw [if_pos h]; exact Or.inl (by decide)
  · rw [if_neg h]; exact Or.inr (by decide)
theorem own_big0 {a b : Bool} {g s : Int32} (hg : g = 1 ∨ g = 2) (h : s = (if a = true then (if b = true then g else ((0 : Int32) + (1 : Int32))) else (if b = true then ((0 : Int32) + (1 : Int32)) else (0 : Int32)))) : own_sz 2 s ∧ (if (0 : Int32) < s then true else false) = ((false || a) || b) := by
  subst h
  rcases hg with rfl | rfl <;> cases a <;> cases b <;> exact ⟨⟨by decide, by decide⟩, by decide⟩
theorem own_big1 {s t u : Int32} {c : Bool} (hs : own_sz 2 s) (ht : t = s) (hu : u = (if c = true then (s + (1 : Int32)) else s)) : (if t < u then true else false) = (false || c) := by
  subst ht hu
  rcases own_sz4 (own_sz_up hs) with rfl | rfl | rfl | rfl | rfl <;> cases c <;> decide
theorem own_or {a b z : Bool} (h : z = (if a = true then true else (if b = true then true else false))) : ((false || a) || b) = z := by
  subst h; cases a <;> cases b <;> rfl
def Q0 (Z : State) (p0 : Int32) (p1 : Int32) (p2 : Int32) (p3 : Int32) (p4 : Int32) (h0 : Heap) (n0 : Nat) (v : Option Value) (h : Heap) (L : List Loc) : Prop := v = some (.int (1 : Int32)) ∧ Fr n0 L
abbrev P0 (Z : State) (p0 : Int32) (p1 : Int32) (p2 : Int32) (p3 : Int32) (p4 : Int32) (h0 : Heap) (n0 : Nat) (s : State) : Outcome → State → Prop := fun o U' => ∃ v L, o = .returned v ∧ Q0 Z p0 p1 p2 p3 p4 h0 n0 v U'.heap L ∧ ReturnedEndW s o U' L room_1.cells room_1.slots
theorem pn_0 : plainName "com/example/onward/onward/check/RequirementRowsRaisesAnyPinLaw" = true := by first | (simp [plainName, overriddenIn]; done) | decide +kernel
theorem ef_0 (m : MethodId) (p0 : Int32) (p1 : Int32) (p2 : Int32) (p3 : Int32) (p4 : Int32) : entryFrame m #[(.int p0), (.int p1), (.int p2), (.int p3), (.int p4)] maxLocals = mkF m 0 #[vI p0, vI p1, vI p2, vI p3, vI p4, uS, uS, uS, uS, uS, uS, uS, uS, uS, uS, uS] [] := by first | (simp [entryFrame, mkF, argsToLocals, Value.category, maxLocals]; done) | rfl
set_option maxRecDepth 65536 in
set_option maxHeartbeats 40000000 in
theorem rm0 (l : Launch) (Z : State) (a0 : Array Value) (hw : ∀ d ∈ tables_1, d.before a0 Z = true) (ws : List Jvm.Cond) (p0 : Int32) (p1 : Int32) (p2 : Int32) (p3 : Int32) (p4 : Int32) (h0 : Heap) (n0 : Nat) (Z0 : n0 ≤ h0.size) :
    MetFree l x (head1 (Jvm.Cond.code x code maxLocals ret :: ws) room_1) (fun a U => a = #[(.int p0), (.int p1), (.int p2), (.int p3), (.int p4)] ∧ Z.Warmed39 U.vm ∧ U.heap = h0) (fun _ _ _ _ _ => True) (fun _ U o U' => ∃ v L, o = .returned v ∧ Q0 Z p0 p1 p2 p3 p4 h0 n0 v U'.heap L ∧ ReturnedEndW U o U' L room_1.cells room_1.slots) := by
  refine MetFree.of_bodySF (plainFor_of_name pn_0) hisR ?_
  intro p e s m args below meth c s₁ Bd hml0 hP hK
  obtain ⟨rfl, hZ, hh⟩ := hP
  have hx := Bd.exec
  have hby := Bd.bytes
  have hml : c.maxLocals = 16 := hml0
  have hown : s.vm.findClass "com/example/onward/onward/check/RequirementRowsRaisesAnyPinLaw" = some m.cls := findClass_of_methodNamed Bd.named
  have hnm := (name_of_methodNamed Bd.named Bd.method).1
  have X0 : Stand p l e room_1 s m #[(.int p0), (.int p1), (.int p2), (.int p3), (.int p4)] below meth c s₁ [] 0 0 := Stand.of_body Bd
  have e0 : s₁.heap = h0 := by rw [← hh, Bd.state]; rfl
  have N0 := Fr.nil n0
  show Go p.tables e below (P0 Z p0 p1 p2 p3 p4 h0 n0 s) (s₁.setTop (entryFrame m #[(.int p0), (.int p1), (.int p2), (.int p3), (.int p4)] maxLocals))
  refine Go.back (fun t k => castTop (ef_0 m p0 p1 p2 p3 p4) k) ?_
  show Go p.tables e below (P0 Z p0 p1 p2 p3 p4 h0 n0 s) (s₁.setTop (mkF m 0 #[vI p0, vI p1, vI p2, vI p3, vI p4, uS, uS, uS, uS, uS, uS, uS, uS, uS, uS, uS] []))
  refine Go.back (fun t k => XS.iloadN X0.here hx rfl (hb hby at_0) rfl  k) ?_
  refine Go.back (fun t k => XS.sipush X0.here hx rfl (hb hby at_1) k) ?_
  refine Go.back (fun t k => XS.iand X0.here hx rfl (hb hby at_4) rfl k) ?_
  refine Go.back (fun t k => XS.istore X0.here hx rfl (hb hby at_5) rfl (l' := #[vI p0, vI p1, vI p2, vI p3, vI p4, vI (p0 &&& (511 : Int32)), uS, uS, uS, uS, uS, uS, uS, uS, uS, uS]) rfl k) ?_
  show Go _ _ _ _ (s₁.setTop (mkF m 7 #[vI p0, vI p1, vI p2, vI p3, vI p4, vI (p0 &&& (511 : Int32)), uS, uS, uS, uS, uS, uS, uS, uS, uS, uS] []))
  have J1 : ∀ (z2 : Int32) (hz2 : z2 = (p0 &&& (511 : Int32))), Go p.tables e below (P0 Z p0 p1 p2 p3 p4 h0 n0 s) (s₁.setTop (mkF m 7 #[vI p0, vI p1, vI p2, vI p3, vI p4, vI z2, uS, uS, uS, uS, uS, uS, uS, uS, uS, uS] [])) := by
    intro z2 hz2
    show Go _ _ _ _ (s₁.setTop (mkF m 7 #[vI p0, vI p1, vI p2, vI p3, vI p4, vI z2, uS, uS, uS, uS, uS, uS, uS, uS, uS, uS] []))
    refine Go.back (fun t k => XS.iload X0.here hx rfl (hb hby at_7) rfl  k) ?_
    show Go _ _ _ _ (s₁.setTop (mkF m 9 #[vI p0, vI p1, vI p2, vI p3, vI p4, vI z2, uS, uS, uS, uS, uS, uS, uS, uS, uS, uS] [(.int z2)]))
    have J4 : ∀ (z5 : Bool) (hz5 : z5 = (if (0 : Int32) < z2 then (if (p4 &&& (1 : Int32)) = (0 : Int32) then false else true) else false)), Go p.tables e below (P0 Z p0 p1 p2 p3 p4 h0 n0 s) (s₁.setTop (mkF m 24 #[vI p0, vI p1, vI p2, vI p3, vI p4, vI z2, uS, uS, uS, uS, uS, uS, uS, uS, uS, uS] [(.int (b2i z5))])) := by
      intro z5 hz5
      show Go _ _ _ _ (s₁.setTop (mkF m 24 #[vI p0, vI p1, vI p2, vI p3, vI p4, vI z2, uS, uS, uS, uS, uS, uS, uS, uS, uS, uS] [(.int (b2i z5))]))
      refine Go.back (fun t k => XS.istore X0.here hx rfl (hb hby at_24) rfl (l' := #[vI p0, vI p1, vI p2, vI p3, vI p4, vI z2, vZ z5, uS, uS, uS, uS, uS, uS, uS, uS, uS]) rfl k) ?_
      refine Go.back (fun t k => XS.iload X0.here hx rfl (hb hby at_26) rfl  k) ?_
      show Go _ _ _ _ (s₁.setTop (mkF m 28 #[vI p0, vI p1, vI p2, vI p3, vI p4, vI z2, vZ z5, uS, uS, uS, uS, uS, uS, uS, uS, uS] [(.int z2)]))
      have J7 : ∀ (z8 : Bool) (hz8 : z8 = (if (0 : Int32) < z2 then (if (p4 &&& (2 : Int32)) = (0 : Int32) then false else true) else false)), Go p.tables e below (P0 Z p0 p1 p2 p3 p4 h0 n0 s) (s₁.setTop (mkF m 43 #[vI p0, vI p1, vI p2, vI p3, vI p4, vI z2, vZ z5, uS, uS, uS, uS, uS, uS, uS, uS, uS] [(.int (b2i z8))])) := by
        intro z8 hz8
        show Go _ _ _ _ (s₁.setTop (mkF m 43 #[vI p0, vI p1, vI p2, vI p3, vI p4, vI z2, vZ z5, uS, uS, uS, uS, uS, uS, uS, uS, uS] [(.int (b2i z8))]))
        refine Go.back (fun t k => XS.istore X0.here hx rfl (hb hby at_43) rfl (l' := #[vI p0, vI p1, vI p2, vI p3, vI p4, vI z2, vZ z5, vZ z8, uS, uS, uS, uS, uS, uS, uS, uS]) rfl k) ?_
        refine Go.back (fun t k => XS.iload X0.here hx rfl (hb hby at_45) rfl  k) ?_
        show Go _ _ _ _ (s₁.setTop (mkF m 47 #[vI p0, vI p1, vI p2, vI p3, vI p4, vI z2, vZ z5, vZ z8, uS, uS, uS, uS, uS, uS, uS, uS] [(.int z2)]))
        have J10 : ∀ (z11 : Bool) (hz11 : z11 = (if (0 : Int32) < z2 then (if (p4 &&& (4 : Int32)) = (0 : Int32) then false else true) else false)), Go p.tables e below (P0 Z p0 p1 p2 p3 p4 h0 n0 s) (s₁.setTop (mkF m 62 #[vI p0, vI p1, vI p2, vI p3, vI p4, vI z2, vZ z5, vZ z8, uS, uS, uS, uS, uS, uS, uS, uS] [(.int (b2i z11))])) := by
          intro z11 hz11
          show Go _ _ _ _ (s₁.setTop (mkF m 62 #[vI p0, vI p1, vI p2, vI p3, vI p4, vI z2, vZ z5, vZ z8, uS, uS, uS, uS, uS, uS, uS, uS] [(.int (b2i z11))]))
          refine Go.back (fun t k => XS.istore X0.here hx rfl (hb hby at_62) rfl (l' := #[vI p0, vI p1, vI p2, vI p3, vI p4, vI z2, vZ z5, vZ z8, vZ z11, uS, uS, uS, uS, uS, uS, uS]) rfl k) ?_
          refine Go.back (fun t k => XS.iload X0.here hx rfl (hb hby at_64) rfl  k) ?_
          show Go _ _ _ _ (s₁.setTop (mkF m 66 #[vI p0, vI p1, vI p2, vI p3, vI p4, vI z2, vZ z5, vZ z8, vZ z11, uS, uS, uS, uS, uS, uS, uS] [(.int z2)]))
          have J13 : ∀ (z14 : Int32) (hz14 : z14 = (if (0 : Int32) < z2 then ((p1 &&& (2147483647 : Int32)) % z2) else (0 : Int32))), Go p.tables e below (P0 Z p0 p1 p2 p3 p4 h0 n0 s) (s₁.setTop (mkF m 80 #[vI p0, vI p1, vI p2, vI p3, vI p4, vI z2, vZ z5, vZ z8, vZ z11, uS, uS, uS, uS, uS, uS, uS] [(.int z14)])) := by
            intro z14 hz14
            show Go _ _ _ _ (s₁.setTop (mkF m 80 #[vI p0, vI p1, vI p2, vI p3, vI p4, vI z2, vZ z5, vZ z8, vZ z11, uS, uS, uS, uS, uS, uS, uS] [(.int z14)]))
            refine Go.back (fun t k => XS.istore X0.here hx rfl (hb hby at_80) rfl (l' := #[vI p0, vI p1, vI p2, vI p3, vI p4, vI z2, vZ z5, vZ z8, vZ z11, vI z14, uS, uS, uS, uS, uS, uS]) rfl k) ?_
            refine Go.back (fun t k => XS.iload X0.here hx rfl (hb hby at_82) rfl  k) ?_
            show Go _ _ _ _ (s₁.setTop (mkF m 84 #[vI p0, vI p1, vI p2, vI p3, vI p4, vI z2, vZ z5, vZ z8, vZ z11, vI z14, uS, uS, uS, uS, uS, uS] [(.int z2)]))
            have J16 : ∀ (z17 : Int32) (hz17 : z17 = (if (0 : Int32) < z2 then ((p2 &&& (2147483647 : Int32)) % z2) else (0 : Int32))), Go p.tables e below (P0 Z p0 p1 p2 p3 p4 h0 n0 s) (s₁.setTop (mkF m 98 #[vI p0, vI p1, vI p2, vI p3, vI p4, vI z2, vZ z5, vZ z8, vZ z11, vI z14, uS, uS, uS, uS, uS, uS] [(.int z17)])) := by
              intro z17 hz17
              show Go _ _ _ _ (s₁.setTop (mkF m 98 #[vI p0, vI p1, vI p2, vI p3, vI p4, vI z2, vZ z5, vZ z8, vZ z11, vI z14, uS, uS, uS, uS, uS, uS] [(.int z17)]))
              refine Go.back (fun t k => XS.istore X0.here hx rfl (hb hby at_98) rfl (l' := #[vI p0, vI p1, vI p2, vI p3, vI p4, vI z2, vZ z5, vZ z8, vZ z11, vI z14, vI z17, uS, uS, uS, uS, uS]) rfl k) ?_
              refine Go.back (fun t k => XS.iload X0.here hx rfl (hb hby at_100) rfl  k) ?_
              show Go _ _ _ _ (s₁.setTop (mkF m 102 #[vI p0, vI p1, vI p2, vI p3, vI p4, vI z2, vZ z5, vZ z8, vZ z11, vI z14, vI z17, uS, uS, uS, uS, uS] [(.int z2)]))
              have J19 : ∀ (z20 : Int32) (hz20 : z20 = (if (0 : Int32) < z2 then ((p3 &&& (2147483647 : Int32)) % z2) else (0 : Int32))), Go p.tables e below (P0 Z p0 p1 p2 p3 p4 h0 n0 s) (s₁.setTop (mkF m 116 #[vI p0, vI p1, vI p2, vI p3, vI p4, vI z2, vZ z5, vZ z8, vZ z11, vI z14, vI z17, uS, uS, uS, uS, uS] [(.int z20)])) := by
                intro z20 hz20
                show Go _ _ _ _ (s₁.setTop (mkF m 116 #[vI p0, vI p1, vI p2, vI p3, vI p4, vI z2, vZ z5, vZ z8, vZ z11, vI z14, vI z17, uS, uS, uS, uS, uS] [(.int z20)]))
                refine Go.back (fun t k => XS.istore X0.here hx rfl (hb hby at_116) rfl (l' := #[vI p0, vI p1, vI p2, vI p3, vI p4, vI z2, vZ z5, vZ z8, vZ z11, vI z14, vI z17, vI z20, uS, uS, uS, uS]) rfl k) ?_
                show Go _ _ _ _ (s₁.setTop (mkF m 118 #[vI p0, vI p1, vI p2, vI p3, vI p4, vI z2, vZ z5, vZ z8, vZ z11, vI z14, vI z17, vI z20, uS, uS, uS, uS] []))
                obtain ⟨w, hwd⟩ : ∃ w, ((z2 + (63 : Int32)) / (64 : Int32)) = w := ⟨_, rfl⟩
                have hW3 := own_wr hz2 hwd
                have hW := hW3.1
                by_cases hb4 : (4 : Int32) < w
                · obtain ⟨T21, h21, X21, e21, E21, A21, D21, -, st21⟩ := newO X0 hx hZ hown (wk hw 0 rfl) (wk hw 1 rfl) (wk hw 2 rfl) e0 (g := (mkF m 118 #[vI p0, vI p1, vI p2, vI p3, vI p4, vI z2, vZ z5, vZ z8, vZ z11, vI z14, vI z17, vI z20, uS, uS, uS, uS] [])) rfl (hb hby at_118) (by decide) (by decide)
                  obtain ⟨b21, g21⟩ : ∃ z, z = h0.size := ⟨_, rfl⟩
                  rw [← g21] at A21 D21 st21
                  have g22 : n0 ≤ b21 := Nat.le_trans Z0 (Nat.le_of_eq g21.symm)
                  have F23 := Nat.le_trans Z0 E21.1
                  have F24 : h0.size ≤ h21.size := Nat.le_trans (Nat.le_refl _) E21.1
                  have F25 : Fld Z h21 b21 cR "requirements" "I" (.int (0 : Int32)) := D21 (Or.inr (wk hw 10 rfl)) (ty := .int) (by decide)
                  have F26 : Fld Z h21 b21 cR "words" "I" (.int (0 : Int32)) := D21 (Or.inr (wk hw 13 rfl)) (ty := .int) (by decide)
                  have F27 : Fld Z h21 b21 cR "rows" "[J" .null := D21 (Or.inr (wk hw 16 rfl)) (ty := (.array .long)) (by decide)
                  have F28 : Fld Z h21 b21 cR "starts" "[I" .null := D21 (Or.inr (wk hw 18 rfl)) (ty := (.array .int)) (by decide)
                  have F29 : Fld Z h21 b21 cR "lists" dI .null := D21 (Or.inl (wk hw 20 rfl)) (ty := (.object "com/example/onward/onward/lts/IntBlocks")) (by decide)
                  have F30 : Fld Z h21 b21 cR "anywhere" "[J" .null := D21 (Or.inr (wk hw 22 rfl)) (ty := (.array .long)) (by decide)
                  have F31 : Fld Z h21 b21 cR "joined" "I" (.int (0 : Int32)) := D21 (Or.inl (wk hw 65 rfl)) (ty := .int) (by decide)
                  refine Go.back st21 ?_
                  refine Go.back (fun t k => XS.dup X21.here hx rfl (hb hby at_121) rfl rfl k) ?_
                  refine Go.back (fun t k => XS.iconst X21.here hx rfl (hb hby at_122) k) ?_
                  refine Go.back (fun t k => XS.iload X21.here hx rfl (hb hby at_123) rfl  k) ?_
                  show Go _ _ _ _ (T21.setTop (mkF m 125 #[vI p0, vI p1, vI p2, vI p3, vI p4, vI z2, vZ z5, vZ z8, vZ z11, vI z14, vI z17, vI z20, uS, uS, uS, uS] [(.int z2), (.int (2 : Int32)), (.ref b21), (.ref b21)]))
                  obtain ⟨_, vm32, ⟨T32, L32, k32, n32⟩, -, X32, hS32, hg32, ⟨Lc32, hQ32, l32, y32, z32⟩, st32⟩ := X21.specialBackS hx (y := (⟨"com/example/onward/onward/check/RequirementRows", "<init>", "(II)V"⟩ : MethodName)) rfl hown (mvT hZ (wk hw 3 rfl)) (mvT hZ (wk hw 4 rfl)) (mvT hZ (wk hw 5 rfl)) (by decide) (backOfS (W := 1) (rm56 l Z a0 hw [] b21 z2 w h21 n0 F23 A21 F26 F27 F28 F29 F30 F31 F25 g22 hwd hW hb4) hZ (wk hw 5 rfl) (wk hw 2 rfl) (by decide) (by decide)) (g := (mkF m 125 #[vI p0, vI p1, vI p2, vI p3, vI p4, vI z2, vZ z5, vZ z8, vZ z11, vI z14, vI z17, vI z20, uS, uS, uS, uS] [(.int z2), (.int (2 : Int32)), (.ref b21), (.ref b21)])) rfl (by rw [hml]; rfl) (Steps.refl _) (a := b21) (argsL := [(.int (2 : Int32)), (.int z2)]) (rest := [(.ref b21)]) (lenOf pd_9 rfl) rfl (by show 2 * 0 + _ ≤ _; exact Nat.le_of_eq rfl) (hb hby at_125) (fun _ _ => ⟨rfl, e21, (by decide : 1 + 7 ≤ _), (by decide : 7 + 111 ≤ _)⟩)
                  dsimp only [Pt.U, Pt.locs, Pt.cells, Pt.slots] at X32 l32 y32 z32 st32 hQ32 hS32 hg32
                  subst l32 y32 z32
                  obtain ⟨h32, e32⟩ : ∃ z, T32.heap = z := ⟨_, rfl⟩
                  rw [e32] at hQ32
                  obtain ⟨rfl, N32q, K32, o36, o37, o38, sz39, sz40, sz41, ne42, ne43, ne44, F51, F52, F53, F54, F55, F56, F57, F58, F59, F60⟩ := hQ32
                  obtain ⟨Lo32, Y32, N32⟩ := pk X32 (Fr.app N0 N32q)
                  have F33 := Nat.le_trans F23 K32.1
                  have F34 := Nat.le_trans F24 K32.1
                  have F35 := A21.keep K32
                  have g45 : n0 ≤ o36 := Nat.le_trans F23 sz39
                  have ne46 := neC A21.lt sz39
                  have g47 : n0 ≤ o37 := Nat.le_trans F23 sz40
                  have ne48 := neC A21.lt sz40
                  have g49 : n0 ≤ o38 := Nat.le_trans F23 sz41
                  have ne50 := neC A21.lt sz41
                  have hS32' : s.Since T32.vm T32.heap.size := foldS (s := s) (vm0 := s.vm) (T := T21) (U := T32) ((State.WarmedH.refl s).since h0.size) (by first | exact Nat.le_refl _ | (rw [e21]; exact F24)) hS32 hg32
                  have kz32 : T32.heap.size ≤ h32.size := Nat.le_of_eq (by rw [e32])
                  have hown : (s.setVm T32.vm).vm.findClass "com/example/onward/onward/check/RequirementRowsRaisesAnyPinLaw" = some m.cls := by rw [show (s.setVm T32.vm).vm = T32.vm from rfl, hS32.1.alike.findClass]; exact hown
                  have hZ : Z.Warmed39 (s.setVm T32.vm).vm := State.Warmed39.trans (t := s) hZ hS32.1
                  refine Go.trans st32 ?_
                  show Go _ _ _ _ (T32.setTop (mkF m 128 #[vI p0, vI p1, vI p2, vI p3, vI p4, vI z2, vZ z5, vZ z8, vZ z11, vI z14, vI z17, vI z20, uS, uS, uS, uS] [(.ref b21)]))
                  refine Go.back (fun t k => XS.astore Y32.here hx rfl (hb hby at_128) rfl rfl (l' := #[vI p0, vI p1, vI p2, vI p3, vI p4, vI z2, vZ z5, vZ z8, vZ z11, vI z14, vI z17, vI z20, vR b21, uS, uS, uS]) rfl k) ?_
                  refine Go.back (fun t k => XS.aload Y32.here hx rfl (hb hby at_130) rfl rfl  k) ?_
                  refine Go.back (fun t k => XS.iconst Y32.here hx rfl (hb hby at_132) k) ?_
                  refine Go.back (fun t k => XS.iconst Y32.here hx rfl (hb hby at_133) k) ?_
                  show Go _ _ _ _ (T32.setTop (mkF m 134 #[vI p0, vI p1, vI p2, vI p3, vI p4, vI z2, vZ z5, vZ z8, vZ z11, vI z14, vI z17, vI z20, vR b21, uS, uS, uS] [(.int (2 : Int32)), (.int (0 : Int32)), (.ref b21)]))
                  obtain ⟨cq61, kq61, q61a, q61b, q61c⟩ := isOf hZ e32 F35
                  obtain ⟨_, vm61, ⟨T61, L61, k61, n61⟩, -, X61, hS61, hg61, ⟨Lc61, hQ61, l61, y61, z61⟩, st61⟩ := Y32.virtualBackS hx (y := (⟨"com/example/onward/onward/check/RequirementRows", "part", "(II)Lcom/example/onward/onward/check/RequirementRows$Part;"⟩ : MethodName)) (z := (⟨"com/example/onward/onward/check/RequirementRows", "part", "(II)Lcom/example/onward/onward/check/RequirementRows$Part;"⟩ : MethodName)) hown (mvT hZ (wk hw 23 rfl)) (mvT hZ (wk hw 24 rfl)) (notFace_of_selects (args := #[]) (mvT hZ (wk hw 26 rfl))) (mvT hZ (wk hw 26 rfl)) (mvT hZ (wk hw 25 rfl)) (by decide) (backOfS (W := 0) (rm58 l Z a0 hw [] b21 o38 (List.replicate (w).toNatClampNeg (0 : Int64)) h32 n0 F33 F52 F55 F60 ne50 (by rw [List.length_replicate]; exact (own_w8_c hW).2.1)) hZ (wk hw 27 rfl) (wk hw 2 rfl) (by decide) (by decide)) q61a q61c (g := (mkF m 134 #[vI p0, vI p1, vI p2, vI p3, vI p4, vI z2, vZ z5, vZ z8, vZ z11, vI z14, vI z17, vI z20, vR b21, uS, uS, uS] [(.int (2 : Int32)), (.int (0 : Int32)), (.ref b21)])) rfl (by rw [hml]; rfl) (Steps.refl _) (argsL := [(.int (0 : Int32)), (.int (2 : Int32))]) (rest := []) (lenOf pd_10 rfl) rfl (by show 2 * 0 + _ ≤ _; exact Nat.le_of_eq rfl) (hb hby at_134) (fun _ _ => ⟨rfl, e32, (by decide : 8 + 8 ≤ _), (by decide : 118 + 132 ≤ _)⟩)
                  dsimp only [Pt.U, Pt.locs, Pt.cells, Pt.slots] at X61 l61 y61 z61 st61 hQ61 hS61 hg61
                  subst l61 y61 z61
                  obtain ⟨h61, e61⟩ : ∃ z, T61.heap = z := ⟨_, rfl⟩
                  rw [e61] at hQ61
                  obtain ⟨-, N61q, K61, o76, o77, o78, o79, o80, o81, sz82, sz83, sz84, sz85, sz86, sz87, ne88, ne89, ne90, ne91, ne92, ne93, ne94, ne95, ne96, ne97, ne98, ne99, ne100, ne101, ne102, t133, F134, F135, F136, F137, F138, F139, F140, F141, F142, F143, F144, F145, F146, F147, F148, F149⟩ := hQ61
                  obtain ⟨Lo61, Y61, N61⟩ := pk X61 (Fr.app N32 N61q)
                  subst t133
                  have F62 := Nat.le_trans F33 K61.1
                  have F63 := Nat.le_trans F34 K61.1
                  have F64 := F35.keep K61
                  have F65 := F51.keep K61 nin0
                  have F66 := F52.keep K61 nin0
                  have F67 := F53.keep K61 nin0
                  have F68 := F54.keep K61 nin0
                  have F69 := F55.keep K61 nin0
                  have F70 := F56.keep K61 nin0
                  have F71 := F57.keep K61 nin0
                  have F72 := F58.keep K61
                  have F73 := F59.keep K61 nin0
                  have F74 := F60.keep K61 nin0
                  have F75 := Nat.le_trans kz32 K61.1
                  have g103 : n0 ≤ o76 := Nat.le_trans F33 sz82
                  have ne104 := neC F35.lt sz82
                  have ne105 := neC F57.lt sz82
                  have ne106 := neC F58.lt sz82
                  have ne107 := neC F60.lt sz82
                  have g108 : n0 ≤ o77 := Nat.le_trans F33 sz83
                  have ne109 := neC F35.lt sz83
                  have ne110 := neC F57.lt sz83
                  have ne111 := neC F58.lt sz83
                  have ne112 := neC F60.lt sz83
                  have g113 : n0 ≤ o78 := Nat.le_trans F33 sz84
                  have ne114 := neC F35.lt sz84
                  have ne115 := neC F57.lt sz84
                  have ne116 := neC F58.lt sz84
                  have ne117 := neC F60.lt sz84
                  have g118 : n0 ≤ o79 := Nat.le_trans F33 sz85
                  have ne119 := neC F35.lt sz85
                  have ne120 := neC F57.lt sz85
                  have ne121 := neC F58.lt sz85
                  have ne122 := neC F60.lt sz85
                  have g123 : n0 ≤ o80 := Nat.le_trans F33 sz86
                  have ne124 := neC F35.lt sz86
                  have ne125 := neC F57.lt sz86
                  have ne126 := neC F58.lt sz86
                  have ne127 := neC F60.lt sz86
                  have g128 : n0 ≤ o81 := Nat.le_trans F33 sz87
                  have ne129 := neC F35.lt sz87
                  have ne130 := neC F57.lt sz87
                  have ne131 := neC F58.lt sz87
                  have ne132 := neC F60.lt sz87
                  have hS61' : s.Since T61.vm T61.heap.size := foldS (s := s) (vm0 := T32.vm) (T := T32) (U := T61) hS32' (by first | exact Nat.le_refl _ | (rw [e32]; exact kz32)) hS61 hg61
                  have kz61 : T61.heap.size ≤ h61.size := Nat.le_of_eq (by rw [e61])
                  have hown : (s.setVm T61.vm).vm.findClass "com/example/onward/onward/check/RequirementRowsRaisesAnyPinLaw" = some m.cls := by rw [show (s.setVm T61.vm).vm = T61.vm from rfl, hS61.1.alike.findClass]; exact hown
                  have hZ : Z.Warmed39 (s.setVm T61.vm).vm := State.Warmed39.trans (t := s.setVm T32.vm) hZ hS61.1
                  refine Go.trans st61 ?_
                  show Go _ _ _ _ (T61.setTop (mkF m 137 #[vI p0, vI p1, vI p2, vI p3, vI p4, vI z2, vZ z5, vZ z8, vZ z11, vI z14, vI z17, vI z20, vR b21, uS, uS, uS] [(.ref o76)]))
                  refine Go.back (fun t k => XS.astore Y61.here hx rfl (hb hby at_137) rfl rfl (l' := #[vI p0, vI p1, vI p2, vI p3, vI p4, vI z2, vZ z5, vZ z8, vZ z11, vI z14, vI z17, vI z20, vR b21, vR o76, uS, uS]) rfl k) ?_
                  show Go _ _ _ _ (T61.setTop (mkF m 139 #[vI p0, vI p1, vI p2, vI p3, vI p4, vI z2, vZ z5, vZ z8, vZ z11, vI z14, vI z17, vI z20, vR b21, vR o76, uS, uS] []))
                  have hly : (List.replicate (List.length (List.replicate (w).toNatClampNeg (0 : Int64))) (0 : Int64)).length = (w).toNatClampNeg := by simp
                  have hlx : (List.replicate (w).toNatClampNeg (0 : Int64)).length = (w).toNatClampNeg := by simp
                  refine Go.back (fun t k => XS.iload Y61.here hx rfl (hb hby at_139) rfl  k) ?_
                  show Go _ _ _ _ (T61.setTop (mkF m 141 #[vI p0, vI p1, vI p2, vI p3, vI p4, vI z2, vZ z5, vZ z8, vZ z11, vI z14, vI z17, vI z20, vR b21, vR o76, uS, uS] [(.int (b2i z5))]))
                  have J151 : ∀ (T190 : State) (L190 : List Loc) (X190 : Stand p l e room_1 (s.setVm T61.vm) m #[(.int p0), (.int p1), (.int p2), (.int p3), (.int p4)] below meth c T190 L190 16 250) (N190 : Fr n0 L190) (h189 : Heap) (e190 : T190.heap = h189) (z177 : Int32) (z180 : Int32) (z181 : Int32) (z183 : Int32) (hz177 : z177 = (if z5 = true then (if z8 = true then (g42_9 z14 z17 (0 : Int32) (0 : Int32) (0 : Int32) (0 : Int32)) else ((0 : Int32) + (1 : Int32))) else (if z8 = true then ((0 : Int32) + (1 : Int32)) else (0 : Int32)))) (hz180 : z180 = (if z5 = true then (if z8 = true then (g29_1 z14 z17) else z14) else (if z8 = true then z17 else (0 : Int32)))) (hz181 : z181 = (if z5 = true then (if z8 = true then (g29_2 z14 z17) else (0 : Int32)) else (if z8 = true then (0 : Int32) else (0 : Int32)))) (hz183 : z183 = (if z5 = true then (if z8 = true then (g42_28 z14 z17 (0 : Int32) (0 : Int32) (0 : Int32) (0 : Int32)) else ((0 : Int32) + (1 : Int32))) else (if z8 = true then ((0 : Int32) + (1 : Int32)) else (0 : Int32)))) (z185 : List Int64) (hz185 : z185.length = (w).toNatClampNeg) (z187 : List Int32) (hz187 : z187.length = 16) (F152 : n0 ≤ h189.size) (F153 : h0.size ≤ h189.size) (F154 : Exa Z h189 b21 cR) (F155 : Fld Z h189 b21 cR "words" "I" (.int (0 : Int32))) (F156 : Fld Z h189 b21 cR "rows" "[J" .null) (F157 : Fld Z h189 b21 cR "starts" "[I" (.ref o36)) (F158 : Fld Z h189 b21 cR "lists" dI (.ref o37)) (F159 : Fld Z h189 b21 cR "anywhere" "[J" (.ref o38)) (F160 : Fld Z h189 b21 cR "joined" "I" (.int (0 : Int32))) (F161 : Exa Z h189 o37 cI) (F162 : Fld Z h189 o37 cI "size" "I" (.int (0 : Int32))) (F163 : ArL Z h189 o38 .long (List.map Value.long (List.replicate (w).toNatClampNeg (0 : Int64)))) (F164 : T32.heap.size ≤ h189.size) (F165 : Exa Z h189 o76 cP) (F166 : Exa Z h189 o79 cI) (F167 : ArL Z h189 o80 (.array .int) [(.ref o81)]) (F168 : T61.heap.size ≤ h189.size) (F169 : Fld Z h189 o76 cP "this$0" dR (.ref b21)) (F170 : Fld Z h189 o76 cP "anywhere" "[J" (.ref o77)) (F171 : Fld Z h189 o76 cP "current" "[I" (.ref o78)) (F172 : Fld Z h189 o76 cP "first" "I" (.int (0 : Int32))) (F173 : Fld Z h189 o76 cP "end" "I" (.int (2 : Int32))) (F174 : Fld Z h189 o76 cP "filling" "I" (.int (1 : Int32))) (F175 : Fld Z h189 o76 cP "listed" dI (.ref o79)) (F176 : Fld Z h189 o76 cP "currentCount" "I" (.int (0 : Int32))) (F178 : Fld Z h189 o79 cI "size" "I" (.int z177)) (F179 : Fld Z h189 o79 cI "blocks" "[[I" (.ref o80)) (F182 : ArL Z h189 o78 .int [(.int z180), (.int z181), (.int (0 : Int32)), (.int (0 : Int32)), (.int (0 : Int32)), (.int (0 : Int32)), (.int (0 : Int32)), (.int (0 : Int32)), (.int (0 : Int32)), (.int (0 : Int32)), (.int (0 : Int32)), (.int (0 : Int32)), (.int (0 : Int32)), (.int (0 : Int32)), (.int (0 : Int32)), (.int (0 : Int32))]) (F184 : ArL Z h189 o36 .int [(.int (0 : Int32)), (.int z183), (.int (0 : Int32))]) (F186 : ArL Z h189 o77 .long (List.map Value.long z185)) (F188 : ArL Z h189 o81 .int (List.map Value.int z187)), Go p.tables e below (P0 Z p0 p1 p2 p3 p4 h0 n0 s) (T190.setTop (mkF m 168 #[vI p0, vI p1, vI p2, vI p3, vI p4, vI z2, vZ z5, vZ z8, vZ z11, vI z14, vI z17, vI z20, vR b21, vR o76, uS, uS] [])) := by
                    intro T190 L190 X190 N190 h189 e190 z177 z180 z181 z183 hz177 hz180 hz181 hz183 z185 hz185 z187 hz187 F152 F153 F154 F155 F156 F157 F158 F159 F160 F161 F162 F163 F164 F165 F166 F167 F168 F169 F170 F171 F172 F173 F174 F175 F176 F178 F179 F182 F184 F186 F188
                    show Go _ _ _ _ (T190.setTop (mkF m 168 #[vI p0, vI p1, vI p2, vI p3, vI p4, vI z2, vZ z5, vZ z8, vZ z11, vI z14, vI z17, vI z20, vR b21, vR o76, uS, uS] []))
                    have hB0 := own_big0 (own_g (g29_1 z14 z17 = g29_2 z14 z17)) hz183
                    have hA0 := own_big0 (own_g (g29_1 z14 z17 = g29_2 z14 z17)) hz177
                    have hszA := hA0.1
                    have hAB : z183 = z177 := by rw [hz177, hz183]; rfl
                    refine Go.back (fun t k => XS.iload X190.here hx rfl (hb hby at_168) rfl  k) ?_
                    show Go _ _ _ _ (T190.setTop (mkF m 170 #[vI p0, vI p1, vI p2, vI p3, vI p4, vI z2, vZ z5, vZ z8, vZ z11, vI z14, vI z17, vI z20, vR b21, vR o76, uS, uS] [(.int (b2i z11))]))
                    have J192 : ∀ (T230 : State) (L230 : List Loc) (X230 : Stand p l e room_1 (s.setVm T61.vm) m #[(.int p0), (.int p1), (.int p2), (.int p3), (.int p4)] below meth c T230 L230 16 250) (N230 : Fr n0 L230) (h229 : Heap) (e230 : T230.heap = h229) (z218 : Int32) (z221 : Int32) (z223 : Int32) (hz218 : z218 = (if z11 = true then (z177 + (1 : Int32)) else z177)) (hz221 : z221 = (if z11 = true then z20 else z180)) (hz223 : z223 = (if z11 = true then (z177 + (1 : Int32)) else z177)) (z225 : List Int64) (hz225 : z225.length = (w).toNatClampNeg) (z227 : List Int32) (hz227 : z227.length = 16) (F193 : n0 ≤ h229.size) (F194 : h0.size ≤ h229.size) (F195 : Exa Z h229 b21 cR) (F196 : Fld Z h229 b21 cR "words" "I" (.int (0 : Int32))) (F197 : Fld Z h229 b21 cR "rows" "[J" .null) (F198 : Fld Z h229 b21 cR "starts" "[I" (.ref o36)) (F199 : Fld Z h229 b21 cR "lists" dI (.ref o37)) (F200 : Fld Z h229 b21 cR "anywhere" "[J" (.ref o38)) (F201 : Fld Z h229 b21 cR "joined" "I" (.int (0 : Int32))) (F202 : Exa Z h229 o37 cI) (F203 : Fld Z h229 o37 cI "size" "I" (.int (0 : Int32))) (F204 : ArL Z h229 o38 .long (List.map Value.long (List.replicate (w).toNatClampNeg (0 : Int64)))) (F205 : T32.heap.size ≤ h229.size) (F206 : Exa Z h229 o76 cP) (F207 : Exa Z h229 o79 cI) (F208 : ArL Z h229 o80 (.array .int) [(.ref o81)]) (F209 : T61.heap.size ≤ h229.size) (F210 : Fld Z h229 o76 cP "this$0" dR (.ref b21)) (F211 : Fld Z h229 o76 cP "anywhere" "[J" (.ref o77)) (F212 : Fld Z h229 o76 cP "current" "[I" (.ref o78)) (F213 : Fld Z h229 o76 cP "first" "I" (.int (0 : Int32))) (F214 : Fld Z h229 o76 cP "end" "I" (.int (2 : Int32))) (F215 : Fld Z h229 o76 cP "filling" "I" (.int (2 : Int32))) (F216 : Fld Z h229 o76 cP "listed" dI (.ref o79)) (F217 : Fld Z h229 o76 cP "currentCount" "I" (.int (0 : Int32))) (F219 : Fld Z h229 o79 cI "size" "I" (.int z218)) (F220 : Fld Z h229 o79 cI "blocks" "[[I" (.ref o80)) (F222 : ArL Z h229 o78 .int [(.int z221), (.int z181), (.int (0 : Int32)), (.int (0 : Int32)), (.int (0 : Int32)), (.int (0 : Int32)), (.int (0 : Int32)), (.int (0 : Int32)), (.int (0 : Int32)), (.int (0 : Int32)), (.int (0 : Int32)), (.int (0 : Int32)), (.int (0 : Int32)), (.int (0 : Int32)), (.int (0 : Int32)), (.int (0 : Int32))]) (F224 : ArL Z h229 o36 .int [(.int (0 : Int32)), (.int z183), (.int z223)]) (F226 : ArL Z h229 o77 .long (List.map Value.long z225)) (F228 : ArL Z h229 o81 .int (List.map Value.int z227)), Go p.tables e below (P0 Z p0 p1 p2 p3 p4 h0 n0 s) (T230.setTop (mkF m 185 #[vI p0, vI p1, vI p2, vI p3, vI p4, vI z2, vZ z5, vZ z8, vZ z11, vI z14, vI z17, vI z20, vR b21, vR o76, uS, uS] [])) := by
                      intro T230 L230 X230 N230 h229 e230 z218 z221 z223 hz218 hz221 hz223 z225 hz225 z227 hz227 F193 F194 F195 F196 F197 F198 F199 F200 F201 F202 F203 F204 F205 F206 F207 F208 F209 F210 F211 F212 F213 F214 F215 F216 F217 F219 F220 F222 F224 F226 F228
                      show Go _ _ _ _ (T230.setTop (mkF m 185 #[vI p0, vI p1, vI p2, vI p3, vI p4, vI z2, vZ z5, vZ z8, vZ z11, vI z14, vI z17, vI z20, vR b21, vR o76, uS, uS] []))
                      refine Go.back (fun t k => XS.aload X230.here hx rfl (hb hby at_185) rfl rfl  k) ?_
                      refine Go.back (fun t k => XS.aload X230.here hx rfl (hb hby at_187) rfl rfl  k) ?_
                      show Go _ _ _ _ (T230.setTop (mkF m 189 #[vI p0, vI p1, vI p2, vI p3, vI p4, vI z2, vZ z5, vZ z8, vZ z11, vI z14, vI z17, vI z20, vR b21, vR o76, uS, uS] [(.ref o76), (.ref b21)]))
                      obtain ⟨cq231, kq231, q231a, q231b, q231c⟩ := isOf hZ e230 F195
                      obtain ⟨_, _, ⟨T231, L231, k231, n231⟩, -, X231, ⟨Lc231, hQ231, l231, y231, z231⟩, st231⟩ := X230.virtualBack hx (y := (⟨"com/example/onward/onward/check/RequirementRows", "join", "(Lcom/example/onward/onward/check/RequirementRows$Part;)V"⟩ : MethodName)) (z := (⟨"com/example/onward/onward/check/RequirementRows", "join", "(Lcom/example/onward/onward/check/RequirementRows$Part;)V"⟩ : MethodName)) hown (mvT hZ (wk hw 58 rfl)) (mvT hZ (wk hw 59 rfl)) (notFace_of_selects (args := #[]) (mvT hZ (wk hw 61 rfl))) (mvT hZ (wk hw 61 rfl)) (mvT hZ (wk hw 60 rfl)) (by decide) (backOf (W := 0) (rm48 l Z a0 hw [] b21 o76 o38 o77 (List.replicate (w).toNatClampNeg (0 : Int64)) z225 ((w).toNatClampNeg) o36 o79 o37 h229 n0 F193 F195 F197 F198 F199 F200 F201 F202 F203 F216 F213 F215 F214 F211 F204 F226 g22 g49 ne104 ne50 ne109 ne48 (Ne.symm ne107) ne88 (Ne.symm ne106) ne112 (Ne.symm ne44) (Ne.symm ne111) hlx hz225 (own_w8_c hW).2.1) hZ (wk hw 62 rfl) (wk hw 2 rfl) (by decide) (by decide)) q231a q231c (g := (mkF m 189 #[vI p0, vI p1, vI p2, vI p3, vI p4, vI z2, vZ z5, vZ z8, vZ z11, vI z14, vI z17, vI z20, vR b21, vR o76, uS, uS] [(.ref o76), (.ref b21)])) rfl (by rw [hml]; rfl) (Steps.refl _) (argsL := [(.ref o76)]) (rest := []) (lenOf pd_11 rfl) rfl (by show 2 * 0 + _ ≤ _; exact Nat.le_of_eq rfl) (hb hby at_189) (fun _ _ => ⟨rfl, e230, (by decide : 16 + 0 ≤ _), (by decide : 250 + 0 ≤ _)⟩)
                      dsimp only [Pt.U, Pt.locs, Pt.cells, Pt.slots] at X231 l231 y231 z231 st231 hQ231
                      subst l231 y231 z231
                      obtain ⟨h231, e231⟩ : ∃ z, T231.heap = z := ⟨_, rfl⟩
                      rw [e231] at hQ231
                      obtain ⟨rfl, N231q, K231, F256, F257⟩ := hQ231
                      obtain ⟨Lo231, Y231, N231⟩ := pk X231 (Fr.app N230 N231q)
                      have F232 := Nat.le_trans F193 K231.1
                      have F233 := Nat.le_trans F194 K231.1
                      have F234 := F195.keep K231
                      have F235 := F202.keep K231
                      have F236 := F203.keep K231 (ninS (Ne.symm ne48) (ninS ne44 nin0))
                      have F237 := Nat.le_trans F205 K231.1
                      have F238 := F206.keep K231
                      have F239 := F207.keep K231
                      have F240 := F208.keep K231 (ninS (Ne.symm ne124) (ninS (Ne.symm ne127) nin0))
                      have F241 := Nat.le_trans F209 K231.1
                      have F242 := F210.keep K231 (ninS (Ne.symm ne104) (ninS (Ne.symm ne107) nin0))
                      have F243 := F211.keep K231 (ninS (Ne.symm ne104) (ninS (Ne.symm ne107) nin0))
                      have F244 := F212.keep K231 (ninS (Ne.symm ne104) (ninS (Ne.symm ne107) nin0))
                      have F245 := F213.keep K231 (ninS (Ne.symm ne104) (ninS (Ne.symm ne107) nin0))
                      have F246 := F214.keep K231 (ninS (Ne.symm ne104) (ninS (Ne.symm ne107) nin0))
                      have F247 := F215.keep K231 (ninS (Ne.symm ne104) (ninS (Ne.symm ne107) nin0))
                      have F248 := F216.keep K231 (ninS (Ne.symm ne104) (ninS (Ne.symm ne107) nin0))
                      have F249 := F217.keep K231 (ninS (Ne.symm ne104) (ninS (Ne.symm ne107) nin0))
                      have F250 := F219.keep K231 (ninS (Ne.symm ne119) (ninS (Ne.symm ne122) nin0))
                      have F251 := F220.keep K231 (ninS (Ne.symm ne119) (ninS (Ne.symm ne122) nin0))
                      have F252 := F222.keep K231 (ninS (Ne.symm ne114) (ninS (Ne.symm ne117) nin0))
                      have F253 := F224.keep K231 (ninS (Ne.symm ne46) (ninS ne43 nin0))
                      have F254 := F226.keep K231 (ninS (Ne.symm ne109) (ninS (Ne.symm ne112) nin0))
                      have F255 := F228.keep K231 (ninS (Ne.symm ne129) (ninS (Ne.symm ne132) nin0))
                      refine Go.trans st231 ?_
                      show Go _ _ _ _ (T231.setTop (mkF m 192 #[vI p0, vI p1, vI p2, vI p3, vI p4, vI z2, vZ z5, vZ z8, vZ z11, vI z14, vI z17, vI z20, vR b21, vR o76, uS, uS] []))
                      refine Go.back (fun t k => XS.aload Y231.here hx rfl (hb hby at_192) rfl rfl  k) ?_
                      refine Go.back (fun t k => XS.iconst Y231.here hx rfl (hb hby at_194) k) ?_
                      show Go _ _ _ _ (T231.setTop (mkF m 195 #[vI p0, vI p1, vI p2, vI p3, vI p4, vI z2, vZ z5, vZ z8, vZ z11, vI z14, vI z17, vI z20, vR b21, vR o76, uS, uS] [(.int (0 : Int32)), (.ref b21)]))
                      obtain ⟨cq258, kq258, q258a, q258b, q258c⟩ := isOf hZ e231 F234
                      obtain ⟨_, _, ⟨T258, L258, k258, n258⟩, -, X258, ⟨Lc258, hQ258, l258, y258, z258⟩, st258⟩ := Y231.virtualBack hx (y := (⟨"com/example/onward/onward/check/RequirementRows", "raisesAny", "(I)Z"⟩ : MethodName)) (z := (⟨"com/example/onward/onward/check/RequirementRows", "raisesAny", "(I)Z"⟩ : MethodName)) hown (mvT hZ (wk hw 68 rfl)) (mvT hZ (wk hw 69 rfl)) (notFace_of_selects (args := #[]) (mvT hZ (wk hw 71 rfl))) (mvT hZ (wk hw 71 rfl)) (mvT hZ (wk hw 70 rfl)) (by decide) (backOf (W := 0) (rm50 l Z a0 hw [] b21 o36 (0 : Int32) z183 z223 h231 n0 F232 F256 F257 F253) hZ (wk hw 72 rfl) (wk hw 2 rfl) (by decide) (by decide)) q258a q258c (g := (mkF m 195 #[vI p0, vI p1, vI p2, vI p3, vI p4, vI z2, vZ z5, vZ z8, vZ z11, vI z14, vI z17, vI z20, vR b21, vR o76, uS, uS] [(.int (0 : Int32)), (.ref b21)])) rfl (by rw [hml]; rfl) (Steps.refl _) (argsL := [(.int (0 : Int32))]) (rest := []) (lenOf pd_12 rfl) rfl (by show 2 * 0 + _ ≤ _; exact Nat.le_of_eq rfl) (hb hby at_195) (fun _ _ => ⟨rfl, e231, (by decide : 16 + 0 ≤ _), (by decide : 250 + 0 ≤ _)⟩)
                      dsimp only [Pt.U, Pt.locs, Pt.cells, Pt.slots] at X258 l258 y258 z258 st258 hQ258
                      subst l258 y258 z258
                      obtain ⟨rfl, N258q, e258⟩ := hQ258
                      obtain ⟨Lo258, Y258, N258⟩ := pk X258 (Fr.app N231 N258q)
                      refine Go.trans st258 ?_
                      rw [show (f50 (0 : Int32) z183 z223) = ((false || z5) || z8) from hB0.2]
                      show Go _ _ _ _ (T258.setTop (mkF m 198 #[vI p0, vI p1, vI p2, vI p3, vI p4, vI z2, vZ z5, vZ z8, vZ z11, vI z14, vI z17, vI z20, vR b21, vR o76, uS, uS] [(.int (b2i ((false || z5) || z8)))]))
                      refine Go.back (fun t k => XS.istore Y258.here hx rfl (hb hby at_198) rfl (l' := #[vI p0, vI p1, vI p2, vI p3, vI p4, vI z2, vZ z5, vZ z8, vZ z11, vI z14, vI z17, vI z20, vR b21, vR o76, vZ ((false || z5) || z8), uS]) rfl k) ?_
                      refine Go.back (fun t k => XS.aload Y258.here hx rfl (hb hby at_200) rfl rfl  k) ?_
                      refine Go.back (fun t k => XS.iconst Y258.here hx rfl (hb hby at_202) k) ?_
                      show Go _ _ _ _ (T258.setTop (mkF m 203 #[vI p0, vI p1, vI p2, vI p3, vI p4, vI z2, vZ z5, vZ z8, vZ z11, vI z14, vI z17, vI z20, vR b21, vR o76, vZ ((false || z5) || z8), uS] [(.int (1 : Int32)), (.ref b21)]))
                      obtain ⟨cq259, kq259, q259a, q259b, q259c⟩ := isOf hZ e258 F234
                      obtain ⟨_, _, ⟨T259, L259, k259, n259⟩, -, X259, ⟨Lc259, hQ259, l259, y259, z259⟩, st259⟩ := Y258.virtualBack hx (y := (⟨"com/example/onward/onward/check/RequirementRows", "raisesAny", "(I)Z"⟩ : MethodName)) (z := (⟨"com/example/onward/onward/check/RequirementRows", "raisesAny", "(I)Z"⟩ : MethodName)) hown (mvT hZ (wk hw 68 rfl)) (mvT hZ (wk hw 69 rfl)) (notFace_of_selects (args := #[]) (mvT hZ (wk hw 71 rfl))) (mvT hZ (wk hw 71 rfl)) (mvT hZ (wk hw 70 rfl)) (by decide) (backOf (W := 0) (rm51 l Z a0 hw [] b21 o36 (0 : Int32) z183 z223 h231 n0 F232 F256 F257 F253) hZ (wk hw 72 rfl) (wk hw 2 rfl) (by decide) (by decide)) q259a q259c (g := (mkF m 203 #[vI p0, vI p1, vI p2, vI p3, vI p4, vI z2, vZ z5, vZ z8, vZ z11, vI z14, vI z17, vI z20, vR b21, vR o76, vZ ((false || z5) || z8), uS] [(.int (1 : Int32)), (.ref b21)])) rfl (by rw [hml]; rfl) (Steps.refl _) (argsL := [(.int (1 : Int32))]) (rest := []) (lenOf pd_12 rfl) rfl (by show 2 * 0 + _ ≤ _; exact Nat.le_of_eq rfl) (hb hby at_203) (fun _ _ => ⟨rfl, e258, (by decide : 16 + 0 ≤ _), (by decide : 250 + 0 ≤ _)⟩)
                      dsimp only [Pt.U, Pt.locs, Pt.cells, Pt.slots] at X259 l259 y259 z259 st259 hQ259
                      subst l259 y259 z259
                      obtain ⟨rfl, N259q, e259⟩ := hQ259
                      obtain ⟨Lo259, Y259, N259⟩ := pk X259 (Fr.app N258 N259q)
                      refine Go.trans st259 ?_
                      rw [show (f51 (0 : Int32) z183 z223) = (false || z11) from (own_big1 hszA hAB hz223)]
                      show Go _ _ _ _ (T259.setTop (mkF m 206 #[vI p0, vI p1, vI p2, vI p3, vI p4, vI z2, vZ z5, vZ z8, vZ z11, vI z14, vI z17, vI z20, vR b21, vR o76, vZ ((false || z5) || z8), uS] [(.int (b2i (false || z11)))]))
                      refine Go.back (fun t k => XS.istore Y259.here hx rfl (hb hby at_206) rfl (l' := #[vI p0, vI p1, vI p2, vI p3, vI p4, vI z2, vZ z5, vZ z8, vZ z11, vI z14, vI z17, vI z20, vR b21, vR o76, vZ ((false || z5) || z8), vZ (false || z11)]) rfl k) ?_
                      refine Go.back (fun t k => XS.iload Y259.here hx rfl (hb hby at_208) rfl  k) ?_
                      refine Go.back (fun t k => XS.iload Y259.here hx rfl (hb hby at_210) rfl  k) ?_
                      show Go _ _ _ _ (T259.setTop (mkF m 212 #[vI p0, vI p1, vI p2, vI p3, vI p4, vI z2, vZ z5, vZ z8, vZ z11, vI z14, vI z17, vI z20, vR b21, vR o76, vZ ((false || z5) || z8), vZ (false || z11)] [(.int (b2i z5)), (.int (b2i ((false || z5) || z8)))]))
                      have J261 : ∀ (z262 : Bool) (hz262 : z262 = (if z5 = true then true else (if z8 = true then true else false))), Go p.tables e below (P0 Z p0 p1 p2 p3 p4 h0 n0 s) (T259.setTop (mkF m 225 #[vI p0, vI p1, vI p2, vI p3, vI p4, vI z2, vZ z5, vZ z8, vZ z11, vI z14, vI z17, vI z20, vR b21, vR o76, vZ ((false || z5) || z8), vZ (false || z11)] [(.int (b2i z262)), (.int (b2i ((false || z5) || z8)))])) := by
                        intro z262 hz262
                        show Go _ _ _ _ (T259.setTop (mkF m 225 #[vI p0, vI p1, vI p2, vI p3, vI p4, vI z2, vZ z5, vZ z8, vZ z11, vI z14, vI z17, vI z20, vR b21, vR o76, vZ ((false || z5) || z8), vZ (false || z11)] [(.int (b2i z262)), (.int (b2i ((false || z5) || z8)))]))
                        refine Go.back (fun t k => XS.icmpNo Y259.here hx rfl (hb hby at_225) rfl (teq (congrArg b2i (own_or hz262))).2 k) ?_
                        show Go _ _ _ _ (T259.setTop (mkF m 228 #[vI p0, vI p1, vI p2, vI p3, vI p4, vI z2, vZ z5, vZ z8, vZ z11, vI z14, vI z17, vI z20, vR b21, vR o76, vZ ((false || z5) || z8), vZ (false || z11)] []))
                        refine Go.back (fun t k => XS.iload Y259.here hx rfl (hb hby at_228) rfl  k) ?_
                        refine Go.back (fun t k => XS.iload Y259.here hx rfl (hb hby at_230) rfl  k) ?_
                        show Go _ _ _ _ (T259.setTop (mkF m 232 #[vI p0, vI p1, vI p2, vI p3, vI p4, vI z2, vZ z5, vZ z8, vZ z11, vI z14, vI z17, vI z20, vR b21, vR o76, vZ ((false || z5) || z8), vZ (false || z11)] [(.int (b2i z11)), (.int (b2i (false || z11)))]))
                        refine Go.back (fun t k => XS.icmpNo Y259.here hx rfl (hb hby at_232) rfl (teq (congrArg b2i (Bool.false_or _))).2 k) ?_
                        show Go _ _ _ _ (T259.setTop (mkF m 235 #[vI p0, vI p1, vI p2, vI p3, vI p4, vI z2, vZ z5, vZ z8, vZ z11, vI z14, vI z17, vI z20, vR b21, vR o76, vZ ((false || z5) || z8), vZ (false || z11)] []))
                        refine Go.back (fun t k => XS.iconst Y259.here hx rfl (hb hby at_235) k) ?_
                        refine Go.back (fun t k => XS.goto Y259.here hx rfl (pc0 := 236) (pc' := 240) rfl (hb hby at_236) (by decide) (by decide) k) ?_
                        show Go _ _ _ _ (T259.setTop (mkF m 240 #[vI p0, vI p1, vI p2, vI p3, vI p4, vI z2, vZ z5, vZ z8, vZ z11, vI z14, vI z17, vI z20, vR b21, vR o76, vZ ((false || z5) || z8), vZ (false || z11)] [(.int (1 : Int32))]))
                        exact Go.retBW0 (b := true) (s := s) (vm0 := T61.vm) (Qa := Q0 Z p0 p1 p2 p3 p4 h0 n0) Y259 hx hS61' (by first | exact Nat.le_refl _ | (rw [e259]; exact F241)) Bd.returns (hb hby at_240) Bd.notSynchronized ⟨rfl, N259⟩ (by decide) (by decide)
                      have r263 : (if z5 = true then true else (if z8 = true then true else false)) = (if z5 = true then true else (if z8 = true then true else false)) := rfl
                      by_cases hc260 : z5 = true
                      · have r264 := r263.trans (if_pos hc260)
                        refine Go.back (fun t k => XS.ifYes Y259.here hx rfl (pc0 := 212) (pc' := 220) rfl (hb hby at_212) rfl ((if0 _ _).trans (feq (b2i_t hc260)).2) (by decide) (by decide) k) ?_
                        show Go _ _ _ _ (T259.setTop (mkF m 220 #[vI p0, vI p1, vI p2, vI p3, vI p4, vI z2, vZ z5, vZ z8, vZ z11, vI z14, vI z17, vI z20, vR b21, vR o76, vZ ((false || z5) || z8), vZ (false || z11)] [(.int (b2i ((false || z5) || z8)))]))
                        refine Go.back (fun t k => XS.iconst Y259.here hx rfl (hb hby at_220) k) ?_
                        refine Go.back (fun t k => XS.goto Y259.here hx rfl (pc0 := 221) (pc' := 225) rfl (hb hby at_221) (by decide) (by decide) k) ?_
                        show Go _ _ _ _ (T259.setTop (mkF m 225 #[vI p0, vI p1, vI p2, vI p3, vI p4, vI z2, vZ z5, vZ z8, vZ z11, vI z14, vI z17, vI z20, vR b21, vR o76, vZ ((false || z5) || z8), vZ (false || z11)] [(.int (1 : Int32)), (.int (b2i ((false || z5) || z8)))]))
                        exact J261 true r264.symm
                      · have r265 := r263.trans (if_neg hc260)
                        refine Go.back (fun t k => XS.ifNo Y259.here hx rfl (hb hby at_212) rfl ((if0 _ _).trans (teq (b2i_f hc260)).2) k) ?_
                        show Go _ _ _ _ (T259.setTop (mkF m 215 #[vI p0, vI p1, vI p2, vI p3, vI p4, vI z2, vZ z5, vZ z8, vZ z11, vI z14, vI z17, vI z20, vR b21, vR o76, vZ ((false || z5) || z8), vZ (false || z11)] [(.int (b2i ((false || z5) || z8)))]))
                        refine Go.back (fun t k => XS.iload Y259.here hx rfl (hb hby at_215) rfl  k) ?_
                        show Go _ _ _ _ (T259.setTop (mkF m 217 #[vI p0, vI p1, vI p2, vI p3, vI p4, vI z2, vZ z5, vZ z8, vZ z11, vI z14, vI z17, vI z20, vR b21, vR o76, vZ ((false || z5) || z8), vZ (false || z11)] [(.int (b2i z8)), (.int (b2i ((false || z5) || z8)))]))
                        by_cases hc266 : z8 = true
                        · have r267 := r265.trans (if_pos hc266)
                          refine Go.back (fun t k => XS.ifNo Y259.here hx rfl (hb hby at_217) rfl ((if0 _ _).trans (feq (b2i_t hc266)).1) k) ?_
                          show Go _ _ _ _ (T259.setTop (mkF m 220 #[vI p0, vI p1, vI p2, vI p3, vI p4, vI z2, vZ z5, vZ z8, vZ z11, vI z14, vI z17, vI z20, vR b21, vR o76, vZ ((false || z5) || z8), vZ (false || z11)] [(.int (b2i ((false || z5) || z8)))]))
                          refine Go.back (fun t k => XS.iconst Y259.here hx rfl (hb hby at_220) k) ?_
                          refine Go.back (fun t k => XS.goto Y259.here hx rfl (pc0 := 221) (pc' := 225) rfl (hb hby at_221) (by decide) (by decide) k) ?_
                          show Go _ _ _ _ (T259.setTop (mkF m 225 #[vI p0, vI p1, vI p2, vI p3, vI p4, vI z2, vZ z5, vZ z8, vZ z11, vI z14, vI z17, vI z20, vR b21, vR o76, vZ ((false || z5) || z8), vZ (false || z11)] [(.int (1 : Int32)), (.int (b2i ((false || z5) || z8)))]))
                          exact J261 true r267.symm
                        · have r268 := r265.trans (if_neg hc266)
                          refine Go.back (fun t k => XS.ifYes Y259.here hx rfl (pc0 := 217) (pc' := 224) rfl (hb hby at_217) rfl ((if0 _ _).trans (teq (b2i_f hc266)).1) (by decide) (by decide) k) ?_
                          show Go _ _ _ _ (T259.setTop (mkF m 224 #[vI p0, vI p1, vI p2, vI p3, vI p4, vI z2, vZ z5, vZ z8, vZ z11, vI z14, vI z17, vI z20, vR b21, vR o76, vZ ((false || z5) || z8), vZ (false || z11)] [(.int (b2i ((false || z5) || z8)))]))
                          refine Go.back (fun t k => XS.iconst Y259.here hx rfl (hb hby at_224) k) ?_
                          show Go _ _ _ _ (T259.setTop (mkF m 225 #[vI p0, vI p1, vI p2, vI p3, vI p4, vI z2, vZ z5, vZ z8, vZ z11, vI z14, vI z17, vI z20, vR b21, vR o76, vZ ((false || z5) || z8), vZ (false || z11)] [(.int (0 : Int32)), (.int (b2i ((false || z5) || z8)))]))
                          exact J261 false r268.symm
                    have r269 : (if z11 = true then (z177 + (1 : Int32)) else z177) = (if z11 = true then (z177 + (1 : Int32)) else z177) := rfl
                    have r270 : (if z11 = true then z20 else z180) = (if z11 = true then z20 else z180) := rfl
                    have r271 : (if z11 = true then (z177 + (1 : Int32)) else z177) = (if z11 = true then (z177 + (1 : Int32)) else z177) := rfl
                    by_cases hc191 : z11 = true
                    · have r272 := r269.trans (if_pos hc191)
                      have r273 := r270.trans (if_pos hc191)
                      have r274 := r271.trans (if_pos hc191)
                      refine Go.back (fun t k => XS.ifNo X190.here hx rfl (hb hby at_170) rfl ((if0 _ _).trans (feq (b2i_t hc191)).1) k) ?_
                      show Go _ _ _ _ (T190.setTop (mkF m 173 #[vI p0, vI p1, vI p2, vI p3, vI p4, vI z2, vZ z5, vZ z8, vZ z11, vI z14, vI z17, vI z20, vR b21, vR o76, uS, uS] []))
                      refine Go.back (fun t k => XS.aload X190.here hx rfl (hb hby at_173) rfl rfl  k) ?_
                      refine Go.back (fun t k => XS.iload X190.here hx rfl (hb hby at_175) rfl  k) ?_
                      show Go _ _ _ _ (T190.setTop (mkF m 177 #[vI p0, vI p1, vI p2, vI p3, vI p4, vI z2, vZ z5, vZ z8, vZ z11, vI z14, vI z17, vI z20, vR b21, vR o76, uS, uS] [(.int z20), (.ref o76)]))
                      obtain ⟨cq275, kq275, q275a, q275b, q275c⟩ := isOf hZ e190 F165
                      obtain ⟨_, _, ⟨T275, L275, k275, n275⟩, -, X275, ⟨Lc275, hQ275, l275, y275, z275⟩, st275⟩ := X190.virtualBack hx (y := (⟨"com/example/onward/onward/check/RequirementRows$Part", "raise", "(I)V"⟩ : MethodName)) (z := (⟨"com/example/onward/onward/check/RequirementRows$Part", "raise", "(I)V"⟩ : MethodName)) hown (mvT hZ (wk hw 74 rfl)) (mvT hZ (wk hw 75 rfl)) (notFace_of_selects (args := #[]) (mvT hZ (wk hw 77 rfl))) (mvT hZ (wk hw 77 rfl)) (mvT hZ (wk hw 76 rfl)) (by decide) (backOf (W := 0) (rm35 l Z a0 hw [] o76 z20 b21 o77 o78 o79 (1 : Int32) z180 z181 h189 n0 F152 F165 F169 F170 F171 F172 F173 F174 F175 F176 F156 F182 g103 g113 ne89 (Ne.symm ne104) (Ne.symm ne114)) hZ (wk hw 78 rfl) (wk hw 30 rfl) (by decide) (by decide)) q275a q275c (g := (mkF m 177 #[vI p0, vI p1, vI p2, vI p3, vI p4, vI z2, vZ z5, vZ z8, vZ z11, vI z14, vI z17, vI z20, vR b21, vR o76, uS, uS] [(.int z20), (.ref o76)])) rfl (by rw [hml]; rfl) (Steps.refl _) (argsL := [(.int z20)]) (rest := []) (lenOf pd_4 rfl) rfl (by show 2 * 0 + _ ≤ _; exact Nat.le_of_eq rfl) (hb hby at_177) (fun _ _ => ⟨rfl, e190, (by decide : 16 + 0 ≤ _), (by decide : 250 + 0 ≤ _)⟩)
                      dsimp only [Pt.U, Pt.locs, Pt.cells, Pt.slots] at X275 l275 y275 z275 st275 hQ275
                      subst l275 y275 z275
                      obtain ⟨h275, e275⟩ : ∃ z, T275.heap = z := ⟨_, rfl⟩
                      rw [e275] at hQ275
                      obtain ⟨rfl, N275q, K275, F298, F299, F300, F301, F302, F303, F304, F305, F306⟩ := hQ275
                      obtain ⟨Lo275, Y275, N275⟩ := pk X275 (Fr.app N190 N275q)
                      have F276 := Nat.le_trans F152 K275.1
                      have F277 := Nat.le_trans F153 K275.1
                      have F278 := F154.keep K275
                      have F279 := F155.keep K275 (ninS ne104 (ninS ne114 nin0))
                      have F280 := F156.keep K275 (ninS ne104 (ninS ne114 nin0))
                      have F281 := F157.keep K275 (ninS ne104 (ninS ne114 nin0))
                      have F282 := F158.keep K275 (ninS ne104 (ninS ne114 nin0))
                      have F283 := F159.keep K275 (ninS ne104 (ninS ne114 nin0))
                      have F284 := F160.keep K275 (ninS ne104 (ninS ne114 nin0))
                      have F285 := F161.keep K275
                      have F286 := F162.keep K275 (ninS ne106 (ninS ne116 nin0))
                      have F287 := F163.keep K275 (ninS ne107 (ninS ne117 nin0))
                      have F288 := Nat.le_trans F164 K275.1
                      have F289 := F165.keep K275
                      have F290 := F166.keep K275
                      have F291 := F167.keep K275 (ninS (Ne.symm ne91) (ninS (Ne.symm ne98) nin0))
                      have F292 := Nat.le_trans F168 K275.1
                      have F293 := F178.keep K275 (ninS (Ne.symm ne90) (ninS (Ne.symm ne97) nin0))
                      have F294 := F179.keep K275 (ninS (Ne.symm ne90) (ninS (Ne.symm ne97) nin0))
                      have F295 := F184.keep K275 (ninS ne105 (ninS ne115 nin0))
                      have F296 := F186.keep K275 (ninS (Ne.symm ne88) (ninS ne93 nin0))
                      have F297 := F188.keep K275 (ninS (Ne.symm ne92) (ninS (Ne.symm ne99) nin0))
                      refine Go.trans st275 ?_
                      show Go _ _ _ _ (T275.setTop (mkF m 180 #[vI p0, vI p1, vI p2, vI p3, vI p4, vI z2, vZ z5, vZ z8, vZ z11, vI z14, vI z17, vI z20, vR b21, vR o76, uS, uS] []))
                      refine Go.back (fun t k => XS.aload Y275.here hx rfl (hb hby at_180) rfl rfl  k) ?_
                      show Go _ _ _ _ (T275.setTop (mkF m 182 #[vI p0, vI p1, vI p2, vI p3, vI p4, vI z2, vZ z5, vZ z8, vZ z11, vI z14, vI z17, vI z20, vR b21, vR o76, uS, uS] [(.ref o76)]))
                      obtain ⟨cq307, kq307, q307a, q307b, q307c⟩ := isOf hZ e275 F289
                      obtain ⟨_, _, ⟨T307, L307, k307, n307⟩, -, X307, ⟨Lc307, hQ307, l307, y307, z307⟩, st307⟩ := Y275.virtualBack hx (y := (⟨"com/example/onward/onward/check/RequirementRows$Part", "endState", "()V"⟩ : MethodName)) (z := (⟨"com/example/onward/onward/check/RequirementRows$Part", "endState", "()V"⟩ : MethodName)) hown (mvT hZ (wk hw 52 rfl)) (mvT hZ (wk hw 53 rfl)) (notFace_of_selects (args := #[]) (mvT hZ (wk hw 55 rfl))) (mvT hZ (wk hw 55 rfl)) (mvT hZ (wk hw 54 rfl)) (by decide) (backOf (W := 0) (rm47 l Z a0 hw [] o76 b21 o78 o77 o36 o79 o80 o81 z20 z181 z177 (0 : Int32) z183 (0 : Int32) z185 z187 h275 n0 F276 F289 F298 F299 F300 F301 F302 F303 F304 F305 F280 F281 F306 F296 F295 F290 F293 F294 F291 F297 g103 g113 g108 g45 g118 g128 (Ne.symm ne104) ne89 ne88 (Ne.symm ne105) ne90 ne91 ne92 ne114 ne109 ne46 ne119 ne124 ne129 (Ne.symm ne93) (Ne.symm ne115) ne97 ne98 ne99 (Ne.symm ne110) ne94 ne95 ne96 ne120 ne125 ne130 ne100 ne101 ne102 hszA hz187 (own_rg hz185 (own_w8_c hW).2.2 (own_dm hz20 hz11 hc191 hW3.2.2)) (by rw [hz185]; exact (own_w8_c hW).2.1)) hZ (wk hw 56 rfl) (wk hw 30 rfl) (by decide) (by decide)) q307a q307c (g := (mkF m 182 #[vI p0, vI p1, vI p2, vI p3, vI p4, vI z2, vZ z5, vZ z8, vZ z11, vI z14, vI z17, vI z20, vR b21, vR o76, uS, uS] [(.ref o76)])) rfl (by rw [hml]; rfl) (Steps.refl _) (argsL := []) (rest := []) (lenOf pd_6 rfl) rfl (by show 2 * 0 + _ ≤ _; exact Nat.le_of_eq rfl) (hb hby at_182) (fun _ _ => ⟨rfl, e275, (by decide : 16 + 0 ≤ _), (by decide : 250 + 0 ≤ _)⟩)
                      dsimp only [Pt.U, Pt.locs, Pt.cells, Pt.slots] at X307 l307 y307 z307 st307 hQ307
                      subst l307 y307 z307
                      obtain ⟨h307, e307⟩ : ∃ z, T307.heap = z := ⟨_, rfl⟩
                      rw [e307] at hQ307
                      obtain ⟨rfl, N307q, K307, F325, F326, F327, F328, F329, F330, F331, F332, F333, F334, F335, F336, t337, t338⟩ := hQ307
                      obtain ⟨Lo307, Y307, N307⟩ := pk X307 (Fr.app N275 N307q)
                      have F308 := Nat.le_trans F276 K307.1
                      have F309 := Nat.le_trans F277 K307.1
                      have F310 := F278.keep K307
                      have F311 := F279.keep K307 (ninS ne104 (ninS ne114 (ninS ne109 (ninS ne46 (ninS ne119 (ninS ne129 nin0))))))
                      have F312 := F280.keep K307 (ninS ne104 (ninS ne114 (ninS ne109 (ninS ne46 (ninS ne119 (ninS ne129 nin0))))))
                      have F313 := F281.keep K307 (ninS ne104 (ninS ne114 (ninS ne109 (ninS ne46 (ninS ne119 (ninS ne129 nin0))))))
                      have F314 := F282.keep K307 (ninS ne104 (ninS ne114 (ninS ne109 (ninS ne46 (ninS ne119 (ninS ne129 nin0))))))
                      have F315 := F283.keep K307 (ninS ne104 (ninS ne114 (ninS ne109 (ninS ne46 (ninS ne119 (ninS ne129 nin0))))))
                      have F316 := F284.keep K307 (ninS ne104 (ninS ne114 (ninS ne109 (ninS ne46 (ninS ne119 (ninS ne129 nin0))))))
                      have F317 := F285.keep K307
                      have F318 := F286.keep K307 (ninS ne106 (ninS ne116 (ninS ne111 (ninS (Ne.symm ne42) (ninS ne121 (ninS ne131 nin0))))))
                      have F319 := F287.keep K307 (ninS ne107 (ninS ne117 (ninS ne112 (ninS (Ne.symm ne43) (ninS ne122 (ninS ne132 nin0))))))
                      have F320 := Nat.le_trans F288 K307.1
                      have F321 := F289.keep K307
                      have F322 := F290.keep K307
                      have F323 := F291.keep K307 (ninS (Ne.symm ne91) (ninS (Ne.symm ne98) (ninS (Ne.symm ne95) (ninS (Ne.symm ne125) (ninS (Ne.symm ne100) (ninS ne102 nin0))))))
                      have F324 := Nat.le_trans F292 K307.1
                      obtain ⟨G307, hG307, FG307⟩ := t337
                      obtain ⟨B307, hB307, FB307⟩ := t338
                      refine Go.trans st307 ?_
                      show Go _ _ _ _ (T307.setTop (mkF m 185 #[vI p0, vI p1, vI p2, vI p3, vI p4, vI z2, vZ z5, vZ z8, vZ z11, vI z14, vI z17, vI z20, vR b21, vR o76, uS, uS] []))
                      exact J192 _ _ Y307 N307 h307 e307 (z177 + (1 : Int32)) z20 (z177 + (1 : Int32)) r272.symm r273.symm r274.symm G307 (hG307.trans hz185) B307 hB307 F308 F309 F310 F311 F312 F313 F314 F315 F316 F317 F318 F319 F320 F321 F322 F323 F324 F325 F326 F327 F328 F329 F330 F331 F332 F333 F334 F335 F336 FG307 FB307
                    · have r339 := r269.trans (if_neg hc191)
                      have r340 := r270.trans (if_neg hc191)
                      have r341 := r271.trans (if_neg hc191)
                      refine Go.back (fun t k => XS.ifYes X190.here hx rfl (pc0 := 170) (pc' := 180) rfl (hb hby at_170) rfl ((if0 _ _).trans (teq (b2i_f hc191)).1) (by decide) (by decide) k) ?_
                      show Go _ _ _ _ (T190.setTop (mkF m 180 #[vI p0, vI p1, vI p2, vI p3, vI p4, vI z2, vZ z5, vZ z8, vZ z11, vI z14, vI z17, vI z20, vR b21, vR o76, uS, uS] []))
                      refine Go.back (fun t k => XS.aload X190.here hx rfl (hb hby at_180) rfl rfl  k) ?_
                      show Go _ _ _ _ (T190.setTop (mkF m 182 #[vI p0, vI p1, vI p2, vI p3, vI p4, vI z2, vZ z5, vZ z8, vZ z11, vI z14, vI z17, vI z20, vR b21, vR o76, uS, uS] [(.ref o76)]))
                      obtain ⟨cq342, kq342, q342a, q342b, q342c⟩ := isOf hZ e190 F165
                      obtain ⟨_, _, ⟨T342, L342, k342, n342⟩, -, X342, ⟨Lc342, hQ342, l342, y342, z342⟩, st342⟩ := X190.virtualBack hx (y := (⟨"com/example/onward/onward/check/RequirementRows$Part", "endState", "()V"⟩ : MethodName)) (z := (⟨"com/example/onward/onward/check/RequirementRows$Part", "endState", "()V"⟩ : MethodName)) hown (mvT hZ (wk hw 52 rfl)) (mvT hZ (wk hw 53 rfl)) (notFace_of_selects (args := #[]) (mvT hZ (wk hw 55 rfl))) (mvT hZ (wk hw 55 rfl)) (mvT hZ (wk hw 54 rfl)) (by decide) (backOf (W := 0) (rm45 l Z a0 hw [] o76 b21 o78 o77 o36 o79 o80 o81 z180 z181 z177 (0 : Int32) z183 (0 : Int32) z185 z187 h189 n0 F152 F165 F169 F170 F171 F172 F173 F174 F175 F176 F156 F157 F182 F186 F184 F166 F178 F179 F167 F188 g103 g113 g108 g45 g118 g128 (Ne.symm ne104) ne89 ne88 (Ne.symm ne105) ne90 ne91 ne92 ne114 ne109 ne46 ne119 ne124 ne129 (Ne.symm ne93) (Ne.symm ne115) ne97 ne98 ne99 (Ne.symm ne110) ne94 ne95 ne96 ne120 ne125 ne130 ne100 ne101 ne102 hszA hz187 (by rw [hz185]; exact (own_w8_c hW).2.1)) hZ (wk hw 56 rfl) (wk hw 30 rfl) (by decide) (by decide)) q342a q342c (g := (mkF m 182 #[vI p0, vI p1, vI p2, vI p3, vI p4, vI z2, vZ z5, vZ z8, vZ z11, vI z14, vI z17, vI z20, vR b21, vR o76, uS, uS] [(.ref o76)])) rfl (by rw [hml]; rfl) (Steps.refl _) (argsL := []) (rest := []) (lenOf pd_6 rfl) rfl (by show 2 * 0 + _ ≤ _; exact Nat.le_of_eq rfl) (hb hby at_182) (fun _ _ => ⟨rfl, e190, (by decide : 16 + 0 ≤ _), (by decide : 250 + 0 ≤ _)⟩)
                      dsimp only [Pt.U, Pt.locs, Pt.cells, Pt.slots] at X342 l342 y342 z342 st342 hQ342
                      subst l342 y342 z342
                      obtain ⟨h342, e342⟩ : ∃ z, T342.heap = z := ⟨_, rfl⟩
                      rw [e342] at hQ342
                      obtain ⟨rfl, N342q, K342, F360, F361, F362, F363, F364, F365, F366, F367, F368, F369, F370, F371, t372, t373⟩ := hQ342
                      obtain ⟨Lo342, Y342, N342⟩ := pk X342 (Fr.app N190 N342q)
                      have F343 := Nat.le_trans F152 K342.1
                      have F344 := Nat.le_trans F153 K342.1
                      have F345 := F154.keep K342
                      have F346 := F155.keep K342 (ninS ne104 (ninS ne114 (ninS ne109 (ninS ne46 (ninS ne119 (ninS ne129 nin0))))))
                      have F347 := F156.keep K342 (ninS ne104 (ninS ne114 (ninS ne109 (ninS ne46 (ninS ne119 (ninS ne129 nin0))))))
                      have F348 := F157.keep K342 (ninS ne104 (ninS ne114 (ninS ne109 (ninS ne46 (ninS ne119 (ninS ne129 nin0))))))
                      have F349 := F158.keep K342 (ninS ne104 (ninS ne114 (ninS ne109 (ninS ne46 (ninS ne119 (ninS ne129 nin0))))))
                      have F350 := F159.keep K342 (ninS ne104 (ninS ne114 (ninS ne109 (ninS ne46 (ninS ne119 (ninS ne129 nin0))))))
                      have F351 := F160.keep K342 (ninS ne104 (ninS ne114 (ninS ne109 (ninS ne46 (ninS ne119 (ninS ne129 nin0))))))
                      have F352 := F161.keep K342
                      have F353 := F162.keep K342 (ninS ne106 (ninS ne116 (ninS ne111 (ninS (Ne.symm ne42) (ninS ne121 (ninS ne131 nin0))))))
                      have F354 := F163.keep K342 (ninS ne107 (ninS ne117 (ninS ne112 (ninS (Ne.symm ne43) (ninS ne122 (ninS ne132 nin0))))))
                      have F355 := Nat.le_trans F164 K342.1
                      have F356 := F165.keep K342
                      have F357 := F166.keep K342
                      have F358 := F167.keep K342 (ninS (Ne.symm ne91) (ninS (Ne.symm ne98) (ninS (Ne.symm ne95) (ninS (Ne.symm ne125) (ninS (Ne.symm ne100) (ninS ne102 nin0))))))
                      have F359 := Nat.le_trans F168 K342.1
                      obtain ⟨G342, hG342, FG342⟩ := t372
                      obtain ⟨B342, hB342, FB342⟩ := t373
                      refine Go.trans st342 ?_
                      show Go _ _ _ _ (T342.setTop (mkF m 185 #[vI p0, vI p1, vI p2, vI p3, vI p4, vI z2, vZ z5, vZ z8, vZ z11, vI z14, vI z17, vI z20, vR b21, vR o76, uS, uS] []))
                      exact J192 _ _ Y342 N342 h342 e342 z177 z180 z177 r339.symm r340.symm r341.symm G342 (hG342.trans hz185) B342 hB342 F343 F344 F345 F346 F347 F348 F349 F350 F351 F352 F353 F354 F355 F356 F357 F358 F359 F360 F361 F362 F363 F364 F365 F366 F367 F368 F369 F370 F371 FG342 FB342
                  have r374 : (if z5 = true then (if z8 = true then (g42_9 z14 z17 (0 : Int32) (0 : Int32) (0 : Int32) (0 : Int32)) else ((0 : Int32) + (1 : Int32))) else (if z8 = true then ((0 : Int32) + (1 : Int32)) else (0 : Int32))) = (if z5 = true then (if z8 = true then (g42_9 z14 z17 (0 : Int32) (0 : Int32) (0 : Int32) (0 : Int32)) else ((0 : Int32) + (1 : Int32))) else (if z8 = true then ((0 : Int32) + (1 : Int32)) else (0 : Int32))) := rfl
                  have r375 : (if z5 = true then (if z8 = true then (g29_1 z14 z17) else z14) else (if z8 = true then z17 else (0 : Int32))) = (if z5 = true then (if z8 = true then (g29_1 z14 z17) else z14) else (if z8 = true then z17 else (0 : Int32))) := rfl
                  have r376 : (if z5 = true then (if z8 = true then (g29_2 z14 z17) else (0 : Int32)) else (if z8 = true then (0 : Int32) else (0 : Int32))) = (if z5 = true then (if z8 = true then (g29_2 z14 z17) else (0 : Int32)) else (if z8 = true then (0 : Int32) else (0 : Int32))) := rfl
                  have r377 : (if z5 = true then (if z8 = true then (g42_28 z14 z17 (0 : Int32) (0 : Int32) (0 : Int32) (0 : Int32)) else ((0 : Int32) + (1 : Int32))) else (if z8 = true then ((0 : Int32) + (1 : Int32)) else (0 : Int32))) = (if z5 = true then (if z8 = true then (g42_28 z14 z17 (0 : Int32) (0 : Int32) (0 : Int32) (0 : Int32)) else ((0 : Int32) + (1 : Int32))) else (if z8 = true then ((0 : Int32) + (1 : Int32)) else (0 : Int32))) := rfl
                  by_cases hc150 : z5 = true
                  · have r378 := r374.trans (if_pos hc150)
                    have r379 := r375.trans (if_pos hc150)
                    have r380 := r376.trans (if_pos hc150)
                    have r381 := r377.trans (if_pos hc150)
                    refine Go.back (fun t k => XS.ifNo Y61.here hx rfl (hb hby at_141) rfl ((if0 _ _).trans (feq (b2i_t hc150)).1) k) ?_
                    show Go _ _ _ _ (T61.setTop (mkF m 144 #[vI p0, vI p1, vI p2, vI p3, vI p4, vI z2, vZ z5, vZ z8, vZ z11, vI z14, vI z17, vI z20, vR b21, vR o76, uS, uS] []))
                    refine Go.back (fun t k => XS.aload Y61.here hx rfl (hb hby at_144) rfl rfl  k) ?_
                    refine Go.back (fun t k => XS.iload Y61.here hx rfl (hb hby at_146) rfl  k) ?_
                    show Go _ _ _ _ (T61.setTop (mkF m 148 #[vI p0, vI p1, vI p2, vI p3, vI p4, vI z2, vZ z5, vZ z8, vZ z11, vI z14, vI z17, vI z20, vR b21, vR o76, uS, uS] [(.int z14), (.ref o76)]))
                    obtain ⟨cq382, kq382, q382a, q382b, q382c⟩ := isOf hZ e61 F134
                    obtain ⟨_, _, ⟨T382, L382, k382, n382⟩, -, X382, ⟨Lc382, hQ382, l382, y382, z382⟩, st382⟩ := Y61.virtualBack hx (y := (⟨"com/example/onward/onward/check/RequirementRows$Part", "raise", "(I)V"⟩ : MethodName)) (z := (⟨"com/example/onward/onward/check/RequirementRows$Part", "raise", "(I)V"⟩ : MethodName)) hown (mvT hZ (wk hw 74 rfl)) (mvT hZ (wk hw 75 rfl)) (notFace_of_selects (args := #[]) (mvT hZ (wk hw 77 rfl))) (mvT hZ (wk hw 77 rfl)) (mvT hZ (wk hw 76 rfl)) (by decide) (backOf (W := 0) (rm35 l Z a0 hw [] o76 z14 b21 o77 o78 o79 (0 : Int32) (0 : Int32) (0 : Int32) h61 n0 F62 F134 F135 F136 F137 F138 F139 F140 F141 F142 F66 F144 g103 g113 ne89 (Ne.symm ne104) (Ne.symm ne114)) hZ (wk hw 78 rfl) (wk hw 30 rfl) (by decide) (by decide)) q382a q382c (g := (mkF m 148 #[vI p0, vI p1, vI p2, vI p3, vI p4, vI z2, vZ z5, vZ z8, vZ z11, vI z14, vI z17, vI z20, vR b21, vR o76, uS, uS] [(.int z14), (.ref o76)])) rfl (by rw [hml]; rfl) (Steps.refl _) (argsL := [(.int z14)]) (rest := []) (lenOf pd_4 rfl) rfl (by show 2 * 0 + _ ≤ _; exact Nat.le_of_eq rfl) (hb hby at_148) (fun _ _ => ⟨rfl, e61, (by decide : 16 + 0 ≤ _), (by decide : 250 + 0 ≤ _)⟩)
                    dsimp only [Pt.U, Pt.locs, Pt.cells, Pt.slots] at X382 l382 y382 z382 st382 hQ382
                    subst l382 y382 z382
                    obtain ⟨h382, e382⟩ : ∃ z, T382.heap = z := ⟨_, rfl⟩
                    rw [e382] at hQ382
                    obtain ⟨rfl, N382q, K382, F405, F406, F407, F408, F409, F410, F411, F412, F413⟩ := hQ382
                    obtain ⟨Lo382, Y382, N382⟩ := pk X382 (Fr.app N61 N382q)
                    have F383 := Nat.le_trans F62 K382.1
                    have F384 := Nat.le_trans F63 K382.1
                    have F385 := F64.keep K382
                    have F386 := F65.keep K382 (ninS ne104 (ninS ne114 nin0))
                    have F387 := F66.keep K382 (ninS ne104 (ninS ne114 nin0))
                    have F388 := F67.keep K382 (ninS ne104 (ninS ne114 nin0))
                    have F389 := F68.keep K382 (ninS ne104 (ninS ne114 nin0))
                    have F390 := F69.keep K382 (ninS ne104 (ninS ne114 nin0))
                    have F391 := F70.keep K382 (ninS ne104 (ninS ne114 nin0))
                    have F392 := F71.keep K382 (ninS ne105 (ninS ne115 nin0))
                    have F393 := F72.keep K382
                    have F394 := F73.keep K382 (ninS ne106 (ninS ne116 nin0))
                    have F395 := F74.keep K382 (ninS ne107 (ninS ne117 nin0))
                    have F396 := Nat.le_trans F75 K382.1
                    have F397 := F134.keep K382
                    have F398 := F143.keep K382 (ninS (Ne.symm ne88) (ninS ne93 nin0))
                    have F399 := F145.keep K382
                    have F400 := F146.keep K382 (ninS (Ne.symm ne90) (ninS (Ne.symm ne97) nin0))
                    have F401 := F147.keep K382 (ninS (Ne.symm ne90) (ninS (Ne.symm ne97) nin0))
                    have F402 := F148.keep K382 (ninS (Ne.symm ne91) (ninS (Ne.symm ne98) nin0))
                    have F403 := F149.keep K382 (ninS (Ne.symm ne92) (ninS (Ne.symm ne99) nin0))
                    have F404 := Nat.le_trans kz61 K382.1
                    refine Go.trans st382 ?_
                    show Go _ _ _ _ (T382.setTop (mkF m 151 #[vI p0, vI p1, vI p2, vI p3, vI p4, vI z2, vZ z5, vZ z8, vZ z11, vI z14, vI z17, vI z20, vR b21, vR o76, uS, uS] []))
                    refine Go.back (fun t k => XS.iload Y382.here hx rfl (hb hby at_151) rfl  k) ?_
                    show Go _ _ _ _ (T382.setTop (mkF m 153 #[vI p0, vI p1, vI p2, vI p3, vI p4, vI z2, vZ z5, vZ z8, vZ z11, vI z14, vI z17, vI z20, vR b21, vR o76, uS, uS] [(.int (b2i z8))]))
                    by_cases hc414 : z8 = true
                    · have r415 := r378.trans (if_pos hc414)
                      have r416 := r379.trans (if_pos hc414)
                      have r417 := r380.trans (if_pos hc414)
                      have r418 := r381.trans (if_pos hc414)
                      refine Go.back (fun t k => XS.ifNo Y382.here hx rfl (hb hby at_153) rfl ((if0 _ _).trans (feq (b2i_t hc414)).1) k) ?_
                      show Go _ _ _ _ (T382.setTop (mkF m 156 #[vI p0, vI p1, vI p2, vI p3, vI p4, vI z2, vZ z5, vZ z8, vZ z11, vI z14, vI z17, vI z20, vR b21, vR o76, uS, uS] []))
                      refine Go.back (fun t k => XS.aload Y382.here hx rfl (hb hby at_156) rfl rfl  k) ?_
                      refine Go.back (fun t k => XS.iload Y382.here hx rfl (hb hby at_158) rfl  k) ?_
                      show Go _ _ _ _ (T382.setTop (mkF m 160 #[vI p0, vI p1, vI p2, vI p3, vI p4, vI z2, vZ z5, vZ z8, vZ z11, vI z14, vI z17, vI z20, vR b21, vR o76, uS, uS] [(.int z17), (.ref o76)]))
                      obtain ⟨cq419, kq419, q419a, q419b, q419c⟩ := isOf hZ e382 F397
                      obtain ⟨_, _, ⟨T419, L419, k419, n419⟩, -, X419, ⟨Lc419, hQ419, l419, y419, z419⟩, st419⟩ := Y382.virtualBack hx (y := (⟨"com/example/onward/onward/check/RequirementRows$Part", "raise", "(I)V"⟩ : MethodName)) (z := (⟨"com/example/onward/onward/check/RequirementRows$Part", "raise", "(I)V"⟩ : MethodName)) hown (mvT hZ (wk hw 74 rfl)) (mvT hZ (wk hw 75 rfl)) (notFace_of_selects (args := #[]) (mvT hZ (wk hw 77 rfl))) (mvT hZ (wk hw 77 rfl)) (mvT hZ (wk hw 76 rfl)) (by decide) (backOf (W := 0) (rm37 l Z a0 hw [] o76 z17 b21 o77 o78 o79 (0 : Int32) z14 (0 : Int32) h382 n0 F383 F397 F405 F406 F407 F408 F409 F410 F411 F412 F387 F413 g103 g113 ne89 (Ne.symm ne104) (Ne.symm ne114)) hZ (wk hw 78 rfl) (wk hw 30 rfl) (by decide) (by decide)) q419a q419c (g := (mkF m 160 #[vI p0, vI p1, vI p2, vI p3, vI p4, vI z2, vZ z5, vZ z8, vZ z11, vI z14, vI z17, vI z20, vR b21, vR o76, uS, uS] [(.int z17), (.ref o76)])) rfl (by rw [hml]; rfl) (Steps.refl _) (argsL := [(.int z17)]) (rest := []) (lenOf pd_4 rfl) rfl (by show 2 * 0 + _ ≤ _; exact Nat.le_of_eq rfl) (hb hby at_160) (fun _ _ => ⟨rfl, e382, (by decide : 16 + 0 ≤ _), (by decide : 250 + 0 ≤ _)⟩)
                      dsimp only [Pt.U, Pt.locs, Pt.cells, Pt.slots] at X419 l419 y419 z419 st419 hQ419
                      subst l419 y419 z419
                      obtain ⟨h419, e419⟩ : ∃ z, T419.heap = z := ⟨_, rfl⟩
                      rw [e419] at hQ419
                      obtain ⟨rfl, N419q, K419, F442, F443, F444, F445, F446, F447, F448, F449, F450⟩ := hQ419
                      obtain ⟨Lo419, Y419, N419⟩ := pk X419 (Fr.app N382 N419q)
                      have F420 := Nat.le_trans F383 K419.1
                      have F421 := Nat.le_trans F384 K419.1
                      have F422 := F385.keep K419
                      have F423 := F386.keep K419 (ninS ne104 (ninS ne114 nin0))
                      have F424 := F387.keep K419 (ninS ne104 (ninS ne114 nin0))
                      have F425 := F388.keep K419 (ninS ne104 (ninS ne114 nin0))
                      have F426 := F389.keep K419 (ninS ne104 (ninS ne114 nin0))
                      have F427 := F390.keep K419 (ninS ne104 (ninS ne114 nin0))
                      have F428 := F391.keep K419 (ninS ne104 (ninS ne114 nin0))
                      have F429 := F392.keep K419 (ninS ne105 (ninS ne115 nin0))
                      have F430 := F393.keep K419
                      have F431 := F394.keep K419 (ninS ne106 (ninS ne116 nin0))
                      have F432 := F395.keep K419 (ninS ne107 (ninS ne117 nin0))
                      have F433 := Nat.le_trans F396 K419.1
                      have F434 := F397.keep K419
                      have F435 := F398.keep K419 (ninS (Ne.symm ne88) (ninS ne93 nin0))
                      have F436 := F399.keep K419
                      have F437 := F400.keep K419 (ninS (Ne.symm ne90) (ninS (Ne.symm ne97) nin0))
                      have F438 := F401.keep K419 (ninS (Ne.symm ne90) (ninS (Ne.symm ne97) nin0))
                      have F439 := F402.keep K419 (ninS (Ne.symm ne91) (ninS (Ne.symm ne98) nin0))
                      have F440 := F403.keep K419 (ninS (Ne.symm ne92) (ninS (Ne.symm ne99) nin0))
                      have F441 := Nat.le_trans F404 K419.1
                      refine Go.trans st419 ?_
                      show Go _ _ _ _ (T419.setTop (mkF m 163 #[vI p0, vI p1, vI p2, vI p3, vI p4, vI z2, vZ z5, vZ z8, vZ z11, vI z14, vI z17, vI z20, vR b21, vR o76, uS, uS] []))
                      refine Go.back (fun t k => XS.aload Y419.here hx rfl (hb hby at_163) rfl rfl  k) ?_
                      show Go _ _ _ _ (T419.setTop (mkF m 165 #[vI p0, vI p1, vI p2, vI p3, vI p4, vI z2, vZ z5, vZ z8, vZ z11, vI z14, vI z17, vI z20, vR b21, vR o76, uS, uS] [(.ref o76)]))
                      obtain ⟨cq451, kq451, q451a, q451b, q451c⟩ := isOf hZ e419 F434
                      obtain ⟨_, _, ⟨T451, L451, k451, n451⟩, -, X451, ⟨Lc451, hQ451, l451, y451, z451⟩, st451⟩ := Y419.virtualBack hx (y := (⟨"com/example/onward/onward/check/RequirementRows$Part", "endState", "()V"⟩ : MethodName)) (z := (⟨"com/example/onward/onward/check/RequirementRows$Part", "endState", "()V"⟩ : MethodName)) hown (mvT hZ (wk hw 52 rfl)) (mvT hZ (wk hw 53 rfl)) (notFace_of_selects (args := #[]) (mvT hZ (wk hw 55 rfl))) (mvT hZ (wk hw 55 rfl)) (mvT hZ (wk hw 54 rfl)) (by decide) (backOf (W := 0) (rm43 l Z a0 hw [] o76 b21 o78 o77 o36 o79 o80 o81 z14 z17 (0 : Int32) (0 : Int32) (0 : Int32) (0 : Int32) (List.replicate (List.length (List.replicate (w).toNatClampNeg (0 : Int64))) (0 : Int64)) [(0 : Int32), (0 : Int32), (0 : Int32), (0 : Int32), (0 : Int32), (0 : Int32), (0 : Int32), (0 : Int32), (0 : Int32), (0 : Int32), (0 : Int32), (0 : Int32), (0 : Int32), (0 : Int32), (0 : Int32), (0 : Int32)] h419 n0 F420 F434 F442 F443 F444 F445 F446 F447 F448 F449 F424 F425 F450 F435 F429 F436 F437 F438 F439 F440 g103 g113 g108 g45 g118 g128 (Ne.symm ne104) ne89 ne88 (Ne.symm ne105) ne90 ne91 ne92 ne114 ne109 ne46 ne119 ne124 ne129 (Ne.symm ne93) (Ne.symm ne115) ne97 ne98 ne99 (Ne.symm ne110) ne94 ne95 ne96 ne120 ne125 ne130 ne100 ne101 ne102 ⟨by decide, by decide⟩ rfl (own_rg hly (own_w8_c hW).2.2 (own_dm hz14 hz5 hc150 hW3.2.2)) (own_rg hly (own_w8_c hW).2.2 (own_dm hz17 hz8 hc414 hW3.2.2)) (by rw [hly]; exact (own_w8_c hW).2.1)) hZ (wk hw 56 rfl) (wk hw 30 rfl) (by decide) (by decide)) q451a q451c (g := (mkF m 165 #[vI p0, vI p1, vI p2, vI p3, vI p4, vI z2, vZ z5, vZ z8, vZ z11, vI z14, vI z17, vI z20, vR b21, vR o76, uS, uS] [(.ref o76)])) rfl (by rw [hml]; rfl) (Steps.refl _) (argsL := []) (rest := []) (lenOf pd_6 rfl) rfl (by show 2 * 0 + _ ≤ _; exact Nat.le_of_eq rfl) (hb hby at_165) (fun _ _ => ⟨rfl, e419, (by decide : 16 + 0 ≤ _), (by decide : 250 + 0 ≤ _)⟩)
                      dsimp only [Pt.U, Pt.locs, Pt.cells, Pt.slots] at X451 l451 y451 z451 st451 hQ451
                      subst l451 y451 z451
                      obtain ⟨h451, e451⟩ : ∃ z, T451.heap = z := ⟨_, rfl⟩
                      rw [e451] at hQ451
                      obtain ⟨rfl, N451q, K451, F469, F470, F471, F472, F473, F474, F475, F476, F477, F478, F479, F480, t481, t482⟩ := hQ451
                      obtain ⟨Lo451, Y451, N451⟩ := pk X451 (Fr.app N419 N451q)
                      have F452 := Nat.le_trans F420 K451.1
                      have F453 := Nat.le_trans F421 K451.1
                      have F454 := F422.keep K451
                      have F455 := F423.keep K451 (ninS ne104 (ninS ne114 (ninS ne109 (ninS ne46 (ninS ne119 (ninS ne129 nin0))))))
                      have F456 := F424.keep K451 (ninS ne104 (ninS ne114 (ninS ne109 (ninS ne46 (ninS ne119 (ninS ne129 nin0))))))
                      have F457 := F425.keep K451 (ninS ne104 (ninS ne114 (ninS ne109 (ninS ne46 (ninS ne119 (ninS ne129 nin0))))))
                      have F458 := F426.keep K451 (ninS ne104 (ninS ne114 (ninS ne109 (ninS ne46 (ninS ne119 (ninS ne129 nin0))))))
                      have F459 := F427.keep K451 (ninS ne104 (ninS ne114 (ninS ne109 (ninS ne46 (ninS ne119 (ninS ne129 nin0))))))
                      have F460 := F428.keep K451 (ninS ne104 (ninS ne114 (ninS ne109 (ninS ne46 (ninS ne119 (ninS ne129 nin0))))))
                      have F461 := F430.keep K451
                      have F462 := F431.keep K451 (ninS ne106 (ninS ne116 (ninS ne111 (ninS (Ne.symm ne42) (ninS ne121 (ninS ne131 nin0))))))
                      have F463 := F432.keep K451 (ninS ne107 (ninS ne117 (ninS ne112 (ninS (Ne.symm ne43) (ninS ne122 (ninS ne132 nin0))))))
                      have F464 := Nat.le_trans F433 K451.1
                      have F465 := F434.keep K451
                      have F466 := F436.keep K451
                      have F467 := F439.keep K451 (ninS (Ne.symm ne91) (ninS (Ne.symm ne98) (ninS (Ne.symm ne95) (ninS (Ne.symm ne125) (ninS (Ne.symm ne100) (ninS ne102 nin0))))))
                      have F468 := Nat.le_trans F441 K451.1
                      obtain ⟨G451, hG451, FG451⟩ := t481
                      obtain ⟨B451, hB451, FB451⟩ := t482
                      refine Go.trans st451 ?_
                      show Go _ _ _ _ (T451.setTop (mkF m 168 #[vI p0, vI p1, vI p2, vI p3, vI p4, vI z2, vZ z5, vZ z8, vZ z11, vI z14, vI z17, vI z20, vR b21, vR o76, uS, uS] []))
                      exact J151 _ _ Y451 N451 h451 e451 (g42_9 z14 z17 (0 : Int32) (0 : Int32) (0 : Int32) (0 : Int32)) (g29_1 z14 z17) (g29_2 z14 z17) (g42_28 z14 z17 (0 : Int32) (0 : Int32) (0 : Int32) (0 : Int32)) r415.symm r416.symm r417.symm r418.symm G451 (hG451.trans hly) B451 hB451 F452 F453 F454 F455 F456 F457 F458 F459 F460 F461 F462 F463 F464 F465 F466 F467 F468 F469 F470 F471 F472 F473 F474 F475 F476 F477 F478 F479 F480 FG451 FB451
                    · have r483 := r378.trans (if_neg hc414)
                      have r484 := r379.trans (if_neg hc414)
                      have r485 := r380.trans (if_neg hc414)
                      have r486 := r381.trans (if_neg hc414)
                      refine Go.back (fun t k => XS.ifYes Y382.here hx rfl (pc0 := 153) (pc' := 163) rfl (hb hby at_153) rfl ((if0 _ _).trans (teq (b2i_f hc414)).1) (by decide) (by decide) k) ?_
                      show Go _ _ _ _ (T382.setTop (mkF m 163 #[vI p0, vI p1, vI p2, vI p3, vI p4, vI z2, vZ z5, vZ z8, vZ z11, vI z14, vI z17, vI z20, vR b21, vR o76, uS, uS] []))
                      refine Go.back (fun t k => XS.aload Y382.here hx rfl (hb hby at_163) rfl rfl  k) ?_
                      show Go _ _ _ _ (T382.setTop (mkF m 165 #[vI p0, vI p1, vI p2, vI p3, vI p4, vI z2, vZ z5, vZ z8, vZ z11, vI z14, vI z17, vI z20, vR b21, vR o76, uS, uS] [(.ref o76)]))
                      obtain ⟨cq487, kq487, q487a, q487b, q487c⟩ := isOf hZ e382 F397
                      obtain ⟨_, _, ⟨T487, L487, k487, n487⟩, -, X487, ⟨Lc487, hQ487, l487, y487, z487⟩, st487⟩ := Y382.virtualBack hx (y := (⟨"com/example/onward/onward/check/RequirementRows$Part", "endState", "()V"⟩ : MethodName)) (z := (⟨"com/example/onward/onward/check/RequirementRows$Part", "endState", "()V"⟩ : MethodName)) hown (mvT hZ (wk hw 52 rfl)) (mvT hZ (wk hw 53 rfl)) (notFace_of_selects (args := #[]) (mvT hZ (wk hw 55 rfl))) (mvT hZ (wk hw 55 rfl)) (mvT hZ (wk hw 54 rfl)) (by decide) (backOf (W := 0) (rm41 l Z a0 hw [] o76 b21 o78 o77 o36 o79 o80 o81 z14 (0 : Int32) (0 : Int32) (0 : Int32) (0 : Int32) (0 : Int32) (List.replicate (List.length (List.replicate (w).toNatClampNeg (0 : Int64))) (0 : Int64)) [(0 : Int32), (0 : Int32), (0 : Int32), (0 : Int32), (0 : Int32), (0 : Int32), (0 : Int32), (0 : Int32), (0 : Int32), (0 : Int32), (0 : Int32), (0 : Int32), (0 : Int32), (0 : Int32), (0 : Int32), (0 : Int32)] h382 n0 F383 F397 F405 F406 F407 F408 F409 F410 F411 F412 F387 F388 F413 F398 F392 F399 F400 F401 F402 F403 g103 g113 g108 g45 g118 g128 (Ne.symm ne104) ne89 ne88 (Ne.symm ne105) ne90 ne91 ne92 ne114 ne109 ne46 ne119 ne124 ne129 (Ne.symm ne93) (Ne.symm ne115) ne97 ne98 ne99 (Ne.symm ne110) ne94 ne95 ne96 ne120 ne125 ne130 ne100 ne101 ne102 ⟨by decide, by decide⟩ rfl (own_rg hly (own_w8_c hW).2.2 (own_dm hz14 hz5 hc150 hW3.2.2)) (by rw [hly]; exact (own_w8_c hW).2.1)) hZ (wk hw 56 rfl) (wk hw 30 rfl) (by decide) (by decide)) q487a q487c (g := (mkF m 165 #[vI p0, vI p1, vI p2, vI p3, vI p4, vI z2, vZ z5, vZ z8, vZ z11, vI z14, vI z17, vI z20, vR b21, vR o76, uS, uS] [(.ref o76)])) rfl (by rw [hml]; rfl) (Steps.refl _) (argsL := []) (rest := []) (lenOf pd_6 rfl) rfl (by show 2 * 0 + _ ≤ _; exact Nat.le_of_eq rfl) (hb hby at_165) (fun _ _ => ⟨rfl, e382, (by decide : 16 + 0 ≤ _), (by decide : 250 + 0 ≤ _)⟩)
                      dsimp only [Pt.U, Pt.locs, Pt.cells, Pt.slots] at X487 l487 y487 z487 st487 hQ487
                      subst l487 y487 z487
                      obtain ⟨h487, e487⟩ : ∃ z, T487.heap = z := ⟨_, rfl⟩
                      rw [e487] at hQ487
                      obtain ⟨rfl, N487q, K487, F505, F506, F507, F508, F509, F510, F511, F512, F513, F514, F515, F516, t517, t518⟩ := hQ487
                      obtain ⟨Lo487, Y487, N487⟩ := pk X487 (Fr.app N382 N487q)
                      have F488 := Nat.le_trans F383 K487.1
                      have F489 := Nat.le_trans F384 K487.1
                      have F490 := F385.keep K487
                      have F491 := F386.keep K487 (ninS ne104 (ninS ne114 (ninS ne109 (ninS ne46 (ninS ne119 (ninS ne129 nin0))))))
                      have F492 := F387.keep K487 (ninS ne104 (ninS ne114 (ninS ne109 (ninS ne46 (ninS ne119 (ninS ne129 nin0))))))
                      have F493 := F388.keep K487 (ninS ne104 (ninS ne114 (ninS ne109 (ninS ne46 (ninS ne119 (ninS ne129 nin0))))))
                      have F494 := F389.keep K487 (ninS ne104 (ninS ne114 (ninS ne109 (ninS ne46 (ninS ne119 (ninS ne129 nin0))))))
                      have F495 := F390.keep K487 (ninS ne104 (ninS ne114 (ninS ne109 (ninS ne46 (ninS ne119 (ninS ne129 nin0))))))
                      have F496 := F391.keep K487 (ninS ne104 (ninS ne114 (ninS ne109 (ninS ne46 (ninS ne119 (ninS ne129 nin0))))))
                      have F497 := F393.keep K487
                      have F498 := F394.keep K487 (ninS ne106 (ninS ne116 (ninS ne111 (ninS (Ne.symm ne42) (ninS ne121 (ninS ne131 nin0))))))
                      have F499 := F395.keep K487 (ninS ne107 (ninS ne117 (ninS ne112 (ninS (Ne.symm ne43) (ninS ne122 (ninS ne132 nin0))))))
                      have F500 := Nat.le_trans F396 K487.1
                      have F501 := F397.keep K487
                      have F502 := F399.keep K487
                      have F503 := F402.keep K487 (ninS (Ne.symm ne91) (ninS (Ne.symm ne98) (ninS (Ne.symm ne95) (ninS (Ne.symm ne125) (ninS (Ne.symm ne100) (ninS ne102 nin0))))))
                      have F504 := Nat.le_trans F404 K487.1
                      obtain ⟨G487, hG487, FG487⟩ := t517
                      obtain ⟨B487, hB487, FB487⟩ := t518
                      refine Go.trans st487 ?_
                      show Go _ _ _ _ (T487.setTop (mkF m 168 #[vI p0, vI p1, vI p2, vI p3, vI p4, vI z2, vZ z5, vZ z8, vZ z11, vI z14, vI z17, vI z20, vR b21, vR o76, uS, uS] []))
                      exact J151 _ _ Y487 N487 h487 e487 ((0 : Int32) + (1 : Int32)) z14 (0 : Int32) ((0 : Int32) + (1 : Int32)) r483.symm r484.symm r485.symm r486.symm G487 (hG487.trans hly) B487 hB487 F488 F489 F490 F491 F492 F493 F494 F495 F496 F497 F498 F499 F500 F501 F502 F503 F504 F505 F506 F507 F508 F509 F510 F511 F512 F513 F514 F515 F516 FG487 FB487
                  · have r519 := r374.trans (if_neg hc150)
                    have r520 := r375.trans (if_neg hc150)
                    have r521 := r376.trans (if_neg hc150)
                    have r522 := r377.trans (if_neg hc150)
                    refine Go.back (fun t k => XS.ifYes Y61.here hx rfl (pc0 := 141) (pc' := 151) rfl (hb hby at_141) rfl ((if0 _ _).trans (teq (b2i_f hc150)).1) (by decide) (by decide) k) ?_
                    show Go _ _ _ _ (T61.setTop (mkF m 151 #[vI p0, vI p1, vI p2, vI p3, vI p4, vI z2, vZ z5, vZ z8, vZ z11, vI z14, vI z17, vI z20, vR b21, vR o76, uS, uS] []))
                    refine Go.back (fun t k => XS.iload Y61.here hx rfl (hb hby at_151) rfl  k) ?_
                    show Go _ _ _ _ (T61.setTop (mkF m 153 #[vI p0, vI p1, vI p2, vI p3, vI p4, vI z2, vZ z5, vZ z8, vZ z11, vI z14, vI z17, vI z20, vR b21, vR o76, uS, uS] [(.int (b2i z8))]))
                    by_cases hc523 : z8 = true
                    · have r524 := r519.trans (if_pos hc523)
                      have r525 := r520.trans (if_pos hc523)
                      have r526 := r521.trans (if_pos hc523)
                      have r527 := r522.trans (if_pos hc523)
                      refine Go.back (fun t k => XS.ifNo Y61.here hx rfl (hb hby at_153) rfl ((if0 _ _).trans (feq (b2i_t hc523)).1) k) ?_
                      show Go _ _ _ _ (T61.setTop (mkF m 156 #[vI p0, vI p1, vI p2, vI p3, vI p4, vI z2, vZ z5, vZ z8, vZ z11, vI z14, vI z17, vI z20, vR b21, vR o76, uS, uS] []))
                      refine Go.back (fun t k => XS.aload Y61.here hx rfl (hb hby at_156) rfl rfl  k) ?_
                      refine Go.back (fun t k => XS.iload Y61.here hx rfl (hb hby at_158) rfl  k) ?_
                      show Go _ _ _ _ (T61.setTop (mkF m 160 #[vI p0, vI p1, vI p2, vI p3, vI p4, vI z2, vZ z5, vZ z8, vZ z11, vI z14, vI z17, vI z20, vR b21, vR o76, uS, uS] [(.int z17), (.ref o76)]))
                      obtain ⟨cq528, kq528, q528a, q528b, q528c⟩ := isOf hZ e61 F134
                      obtain ⟨_, _, ⟨T528, L528, k528, n528⟩, -, X528, ⟨Lc528, hQ528, l528, y528, z528⟩, st528⟩ := Y61.virtualBack hx (y := (⟨"com/example/onward/onward/check/RequirementRows$Part", "raise", "(I)V"⟩ : MethodName)) (z := (⟨"com/example/onward/onward/check/RequirementRows$Part", "raise", "(I)V"⟩ : MethodName)) hown (mvT hZ (wk hw 74 rfl)) (mvT hZ (wk hw 75 rfl)) (notFace_of_selects (args := #[]) (mvT hZ (wk hw 77 rfl))) (mvT hZ (wk hw 77 rfl)) (mvT hZ (wk hw 76 rfl)) (by decide) (backOf (W := 0) (rm35 l Z a0 hw [] o76 z17 b21 o77 o78 o79 (0 : Int32) (0 : Int32) (0 : Int32) h61 n0 F62 F134 F135 F136 F137 F138 F139 F140 F141 F142 F66 F144 g103 g113 ne89 (Ne.symm ne104) (Ne.symm ne114)) hZ (wk hw 78 rfl) (wk hw 30 rfl) (by decide) (by decide)) q528a q528c (g := (mkF m 160 #[vI p0, vI p1, vI p2, vI p3, vI p4, vI z2, vZ z5, vZ z8, vZ z11, vI z14, vI z17, vI z20, vR b21, vR o76, uS, uS] [(.int z17), (.ref o76)])) rfl (by rw [hml]; rfl) (Steps.refl _) (argsL := [(.int z17)]) (rest := []) (lenOf pd_4 rfl) rfl (by show 2 * 0 + _ ≤ _; exact Nat.le_of_eq rfl) (hb hby at_160) (fun _ _ => ⟨rfl, e61, (by decide : 16 + 0 ≤ _), (by decide : 250 + 0 ≤ _)⟩)
                      dsimp only [Pt.U, Pt.locs, Pt.cells, Pt.slots] at X528 l528 y528 z528 st528 hQ528
                      subst l528 y528 z528
                      obtain ⟨h528, e528⟩ : ∃ z, T528.heap = z := ⟨_, rfl⟩
                      rw [e528] at hQ528
                      obtain ⟨rfl, N528q, K528, F551, F552, F553, F554, F555, F556, F557, F558, F559⟩ := hQ528
                      obtain ⟨Lo528, Y528, N528⟩ := pk X528 (Fr.app N61 N528q)
                      have F529 := Nat.le_trans F62 K528.1
                      have F530 := Nat.le_trans F63 K528.1
                      have F531 := F64.keep K528
                      have F532 := F65.keep K528 (ninS ne104 (ninS ne114 nin0))
                      have F533 := F66.keep K528 (ninS ne104 (ninS ne114 nin0))
                      have F534 := F67.keep K528 (ninS ne104 (ninS ne114 nin0))
                      have F535 := F68.keep K528 (ninS ne104 (ninS ne114 nin0))
                      have F536 := F69.keep K528 (ninS ne104 (ninS ne114 nin0))
                      have F537 := F70.keep K528 (ninS ne104 (ninS ne114 nin0))
                      have F538 := F71.keep K528 (ninS ne105 (ninS ne115 nin0))
                      have F539 := F72.keep K528
                      have F540 := F73.keep K528 (ninS ne106 (ninS ne116 nin0))
                      have F541 := F74.keep K528 (ninS ne107 (ninS ne117 nin0))
                      have F542 := Nat.le_trans F75 K528.1
                      have F543 := F134.keep K528
                      have F544 := F143.keep K528 (ninS (Ne.symm ne88) (ninS ne93 nin0))
                      have F545 := F145.keep K528
                      have F546 := F146.keep K528 (ninS (Ne.symm ne90) (ninS (Ne.symm ne97) nin0))
                      have F547 := F147.keep K528 (ninS (Ne.symm ne90) (ninS (Ne.symm ne97) nin0))
                      have F548 := F148.keep K528 (ninS (Ne.symm ne91) (ninS (Ne.symm ne98) nin0))
                      have F549 := F149.keep K528 (ninS (Ne.symm ne92) (ninS (Ne.symm ne99) nin0))
                      have F550 := Nat.le_trans kz61 K528.1
                      refine Go.trans st528 ?_
                      show Go _ _ _ _ (T528.setTop (mkF m 163 #[vI p0, vI p1, vI p2, vI p3, vI p4, vI z2, vZ z5, vZ z8, vZ z11, vI z14, vI z17, vI z20, vR b21, vR o76, uS, uS] []))
                      refine Go.back (fun t k => XS.aload Y528.here hx rfl (hb hby at_163) rfl rfl  k) ?_
                      show Go _ _ _ _ (T528.setTop (mkF m 165 #[vI p0, vI p1, vI p2, vI p3, vI p4, vI z2, vZ z5, vZ z8, vZ z11, vI z14, vI z17, vI z20, vR b21, vR o76, uS, uS] [(.ref o76)]))
                      obtain ⟨cq560, kq560, q560a, q560b, q560c⟩ := isOf hZ e528 F543
                      obtain ⟨_, _, ⟨T560, L560, k560, n560⟩, -, X560, ⟨Lc560, hQ560, l560, y560, z560⟩, st560⟩ := Y528.virtualBack hx (y := (⟨"com/example/onward/onward/check/RequirementRows$Part", "endState", "()V"⟩ : MethodName)) (z := (⟨"com/example/onward/onward/check/RequirementRows$Part", "endState", "()V"⟩ : MethodName)) hown (mvT hZ (wk hw 52 rfl)) (mvT hZ (wk hw 53 rfl)) (notFace_of_selects (args := #[]) (mvT hZ (wk hw 55 rfl))) (mvT hZ (wk hw 55 rfl)) (mvT hZ (wk hw 54 rfl)) (by decide) (backOf (W := 0) (rm41 l Z a0 hw [] o76 b21 o78 o77 o36 o79 o80 o81 z17 (0 : Int32) (0 : Int32) (0 : Int32) (0 : Int32) (0 : Int32) (List.replicate (List.length (List.replicate (w).toNatClampNeg (0 : Int64))) (0 : Int64)) [(0 : Int32), (0 : Int32), (0 : Int32), (0 : Int32), (0 : Int32), (0 : Int32), (0 : Int32), (0 : Int32), (0 : Int32), (0 : Int32), (0 : Int32), (0 : Int32), (0 : Int32), (0 : Int32), (0 : Int32), (0 : Int32)] h528 n0 F529 F543 F551 F552 F553 F554 F555 F556 F557 F558 F533 F534 F559 F544 F538 F545 F546 F547 F548 F549 g103 g113 g108 g45 g118 g128 (Ne.symm ne104) ne89 ne88 (Ne.symm ne105) ne90 ne91 ne92 ne114 ne109 ne46 ne119 ne124 ne129 (Ne.symm ne93) (Ne.symm ne115) ne97 ne98 ne99 (Ne.symm ne110) ne94 ne95 ne96 ne120 ne125 ne130 ne100 ne101 ne102 ⟨by decide, by decide⟩ rfl (own_rg hly (own_w8_c hW).2.2 (own_dm hz17 hz8 hc523 hW3.2.2)) (by rw [hly]; exact (own_w8_c hW).2.1)) hZ (wk hw 56 rfl) (wk hw 30 rfl) (by decide) (by decide)) q560a q560c (g := (mkF m 165 #[vI p0, vI p1, vI p2, vI p3, vI p4, vI z2, vZ z5, vZ z8, vZ z11, vI z14, vI z17, vI z20, vR b21, vR o76, uS, uS] [(.ref o76)])) rfl (by rw [hml]; rfl) (Steps.refl _) (argsL := []) (rest := []) (lenOf pd_6 rfl) rfl (by show 2 * 0 + _ ≤ _; exact Nat.le_of_eq rfl) (hb hby at_165) (fun _ _ => ⟨rfl, e528, (by decide : 16 + 0 ≤ _), (by decide : 250 + 0 ≤ _)⟩)
                      dsimp only [Pt.U, Pt.locs, Pt.cells, Pt.slots] at X560 l560 y560 z560 st560 hQ560
                      subst l560 y560 z560
                      obtain ⟨h560, e560⟩ : ∃ z, T560.heap = z := ⟨_, rfl⟩
                      rw [e560] at hQ560
                      obtain ⟨rfl, N560q, K560, F578, F579, F580, F581, F582, F583, F584, F585, F586, F587, F588, F589, t590, t591⟩ := hQ560
                      obtain ⟨Lo560, Y560, N560⟩ := pk X560 (Fr.app N528 N560q)
                      have F561 := Nat.le_trans F529 K560.1
                      have F562 := Nat.le_trans F530 K560.1
                      have F563 := F531.keep K560
                      have F564 := F532.keep K560 (ninS ne104 (ninS ne114 (ninS ne109 (ninS ne46 (ninS ne119 (ninS ne129 nin0))))))
                      have F565 := F533.keep K560 (ninS ne104 (ninS ne114 (ninS ne109 (ninS ne46 (ninS ne119 (ninS ne129 nin0))))))
                      have F566 := F534.keep K560 (ninS ne104 (ninS ne114 (ninS ne109 (ninS ne46 (ninS ne119 (ninS ne129 nin0))))))
                      have F567 := F535.keep K560 (ninS ne104 (ninS ne114 (ninS ne109 (ninS ne46 (ninS ne119 (ninS ne129 nin0))))))
                      have F568 := F536.keep K560 (ninS ne104 (ninS ne114 (ninS ne109 (ninS ne46 (ninS ne119 (ninS ne129 nin0))))))
                      have F569 := F537.keep K560 (ninS ne104 (ninS ne114 (ninS ne109 (ninS ne46 (ninS ne119 (ninS ne129 nin0))))))
                      have F570 := F539.keep K560
                      have F571 := F540.keep K560 (ninS ne106 (ninS ne116 (ninS ne111 (ninS (Ne.symm ne42) (ninS ne121 (ninS ne131 nin0))))))
                      have F572 := F541.keep K560 (ninS ne107 (ninS ne117 (ninS ne112 (ninS (Ne.symm ne43) (ninS ne122 (ninS ne132 nin0))))))
                      have F573 := Nat.le_trans F542 K560.1
                      have F574 := F543.keep K560
                      have F575 := F545.keep K560
                      have F576 := F548.keep K560 (ninS (Ne.symm ne91) (ninS (Ne.symm ne98) (ninS (Ne.symm ne95) (ninS (Ne.symm ne125) (ninS (Ne.symm ne100) (ninS ne102 nin0))))))
                      have F577 := Nat.le_trans F550 K560.1
                      obtain ⟨G560, hG560, FG560⟩ := t590
                      obtain ⟨B560, hB560, FB560⟩ := t591
                      refine Go.trans st560 ?_
                      show Go _ _ _ _ (T560.setTop (mkF m 168 #[vI p0, vI p1, vI p2, vI p3, vI p4, vI z2, vZ z5, vZ z8, vZ z11, vI z14, vI z17, vI z20, vR b21, vR o76, uS, uS] []))
                      exact J151 _ _ Y560 N560 h560 e560 ((0 : Int32) + (1 : Int32)) z17 (0 : Int32) ((0 : Int32) + (1 : Int32)) r524.symm r525.symm r526.symm r527.symm G560 (hG560.trans hly) B560 hB560 F561 F562 F563 F564 F565 F566 F567 F568 F569 F570 F571 F572 F573 F574 F575 F576 F577 F578 F579 F580 F581 F582 F583 F584 F585 F586 F587 F588 F589 FG560 FB560
                    · have r592 := r519.trans (if_neg hc523)
                      have r593 := r520.trans (if_neg hc523)
                      have r594 := r521.trans (if_neg hc523)
                      have r595 := r522.trans (if_neg hc523)
                      refine Go.back (fun t k => XS.ifYes Y61.here hx rfl (pc0 := 153) (pc' := 163) rfl (hb hby at_153) rfl ((if0 _ _).trans (teq (b2i_f hc523)).1) (by decide) (by decide) k) ?_
                      show Go _ _ _ _ (T61.setTop (mkF m 163 #[vI p0, vI p1, vI p2, vI p3, vI p4, vI z2, vZ z5, vZ z8, vZ z11, vI z14, vI z17, vI z20, vR b21, vR o76, uS, uS] []))
                      refine Go.back (fun t k => XS.aload Y61.here hx rfl (hb hby at_163) rfl rfl  k) ?_
                      show Go _ _ _ _ (T61.setTop (mkF m 165 #[vI p0, vI p1, vI p2, vI p3, vI p4, vI z2, vZ z5, vZ z8, vZ z11, vI z14, vI z17, vI z20, vR b21, vR o76, uS, uS] [(.ref o76)]))
                      obtain ⟨cq596, kq596, q596a, q596b, q596c⟩ := isOf hZ e61 F134
                      obtain ⟨_, _, ⟨T596, L596, k596, n596⟩, -, X596, ⟨Lc596, hQ596, l596, y596, z596⟩, st596⟩ := Y61.virtualBack hx (y := (⟨"com/example/onward/onward/check/RequirementRows$Part", "endState", "()V"⟩ : MethodName)) (z := (⟨"com/example/onward/onward/check/RequirementRows$Part", "endState", "()V"⟩ : MethodName)) hown (mvT hZ (wk hw 52 rfl)) (mvT hZ (wk hw 53 rfl)) (notFace_of_selects (args := #[]) (mvT hZ (wk hw 55 rfl))) (mvT hZ (wk hw 55 rfl)) (mvT hZ (wk hw 54 rfl)) (by decide) (backOf (W := 0) (rm39 l Z a0 hw [] o76 b21 o78 o77 o36 o79 o80 o81 (0 : Int32) (0 : Int32) (0 : Int32) (0 : Int32) (0 : Int32) (0 : Int32) (List.replicate (List.length (List.replicate (w).toNatClampNeg (0 : Int64))) (0 : Int64)) [(0 : Int32), (0 : Int32), (0 : Int32), (0 : Int32), (0 : Int32), (0 : Int32), (0 : Int32), (0 : Int32), (0 : Int32), (0 : Int32), (0 : Int32), (0 : Int32), (0 : Int32), (0 : Int32), (0 : Int32), (0 : Int32)] h61 n0 F62 F134 F135 F136 F137 F138 F139 F140 F141 F142 F66 F67 F144 F143 F71 F145 F146 F147 F148 F149 g103 g113 g108 g45 g118 g128 (Ne.symm ne104) ne89 ne88 (Ne.symm ne105) ne90 ne91 ne92 ne114 ne109 ne46 ne119 ne124 ne129 (Ne.symm ne93) (Ne.symm ne115) ne97 ne98 ne99 (Ne.symm ne110) ne94 ne95 ne96 ne120 ne125 ne130 ne100 ne101 ne102 ⟨by decide, by decide⟩ rfl (by rw [hly]; exact (own_w8_c hW).2.1)) hZ (wk hw 56 rfl) (wk hw 30 rfl) (by decide) (by decide)) q596a q596c (g := (mkF m 165 #[vI p0, vI p1, vI p2, vI p3, vI p4, vI z2, vZ z5, vZ z8, vZ z11, vI z14, vI z17, vI z20, vR b21, vR o76, uS, uS] [(.ref o76)])) rfl (by rw [hml]; rfl) (Steps.refl _) (argsL := []) (rest := []) (lenOf pd_6 rfl) rfl (by show 2 * 0 + _ ≤ _; exact Nat.le_of_eq rfl) (hb hby at_165) (fun _ _ => ⟨rfl, e61, (by decide : 16 + 0 ≤ _), (by decide : 250 + 0 ≤ _)⟩)
                      dsimp only [Pt.U, Pt.locs, Pt.cells, Pt.slots] at X596 l596 y596 z596 st596 hQ596
                      subst l596 y596 z596
                      obtain ⟨h596, e596⟩ : ∃ z, T596.heap = z := ⟨_, rfl⟩
                      rw [e596] at hQ596
                      obtain ⟨rfl, N596q, K596, F614, F615, F616, F617, F618, F619, F620, F621, F622, F623, F624, F625, t626, t627⟩ := hQ596
                      obtain ⟨Lo596, Y596, N596⟩ := pk X596 (Fr.app N61 N596q)
                      have F597 := Nat.le_trans F62 K596.1
                      have F598 := Nat.le_trans F63 K596.1
                      have F599 := F64.keep K596
                      have F600 := F65.keep K596 (ninS ne104 (ninS ne114 (ninS ne109 (ninS ne46 (ninS ne119 (ninS ne129 nin0))))))
                      have F601 := F66.keep K596 (ninS ne104 (ninS ne114 (ninS ne109 (ninS ne46 (ninS ne119 (ninS ne129 nin0))))))
                      have F602 := F67.keep K596 (ninS ne104 (ninS ne114 (ninS ne109 (ninS ne46 (ninS ne119 (ninS ne129 nin0))))))
                      have F603 := F68.keep K596 (ninS ne104 (ninS ne114 (ninS ne109 (ninS ne46 (ninS ne119 (ninS ne129 nin0))))))
                      have F604 := F69.keep K596 (ninS ne104 (ninS ne114 (ninS ne109 (ninS ne46 (ninS ne119 (ninS ne129 nin0))))))
                      have F605 := F70.keep K596 (ninS ne104 (ninS ne114 (ninS ne109 (ninS ne46 (ninS ne119 (ninS ne129 nin0))))))
                      have F606 := F72.keep K596
                      have F607 := F73.keep K596 (ninS ne106 (ninS ne116 (ninS ne111 (ninS (Ne.symm ne42) (ninS ne121 (ninS ne131 nin0))))))
                      have F608 := F74.keep K596 (ninS ne107 (ninS ne117 (ninS ne112 (ninS (Ne.symm ne43) (ninS ne122 (ninS ne132 nin0))))))
                      have F609 := Nat.le_trans F75 K596.1
                      have F610 := F134.keep K596
                      have F611 := F145.keep K596
                      have F612 := F148.keep K596 (ninS (Ne.symm ne91) (ninS (Ne.symm ne98) (ninS (Ne.symm ne95) (ninS (Ne.symm ne125) (ninS (Ne.symm ne100) (ninS ne102 nin0))))))
                      have F613 := Nat.le_trans kz61 K596.1
                      obtain ⟨G596, hG596, FG596⟩ := t626
                      obtain ⟨B596, hB596, FB596⟩ := t627
                      refine Go.trans st596 ?_
                      show Go _ _ _ _ (T596.setTop (mkF m 168 #[vI p0, vI p1, vI p2, vI p3, vI p4, vI z2, vZ z5, vZ z8, vZ z11, vI z14, vI z17, vI z20, vR b21, vR o76, uS, uS] []))
                      exact J151 _ _ Y596 N596 h596 e596 (0 : Int32) (0 : Int32) (0 : Int32) (0 : Int32) r592.symm r593.symm r594.symm r595.symm G596 (hG596.trans hly) B596 hB596 F597 F598 F599 F600 F601 F602 F603 F604 F605 F606 F607 F608 F609 F610 F611 F612 F613 F614 F615 F616 F617 F618 F619 F620 F621 F622 F623 F624 F625 FG596 FB596
                · have hq4 := own_w4_of hW hb4
                  obtain ⟨T628, h628, X628, e628, E628, A628, D628, -, st628⟩ := newO X0 hx hZ hown (wk hw 0 rfl) (wk hw 1 rfl) (wk hw 2 rfl) e0 (g := (mkF m 118 #[vI p0, vI p1, vI p2, vI p3, vI p4, vI z2, vZ z5, vZ z8, vZ z11, vI z14, vI z17, vI z20, uS, uS, uS, uS] [])) rfl (hb hby at_118) (by decide) (by decide)
                  obtain ⟨b628, g628⟩ : ∃ z, z = h0.size := ⟨_, rfl⟩
                  rw [← g628] at A628 D628 st628
                  have g629 : n0 ≤ b628 := Nat.le_trans Z0 (Nat.le_of_eq g628.symm)
                  have F630 := Nat.le_trans Z0 E628.1
                  have F631 : h0.size ≤ h628.size := Nat.le_trans (Nat.le_refl _) E628.1
                  have F632 : Fld Z h628 b628 cR "requirements" "I" (.int (0 : Int32)) := D628 (Or.inr (wk hw 10 rfl)) (ty := .int) (by decide)
                  have F633 : Fld Z h628 b628 cR "words" "I" (.int (0 : Int32)) := D628 (Or.inr (wk hw 13 rfl)) (ty := .int) (by decide)
                  have F634 : Fld Z h628 b628 cR "rows" "[J" .null := D628 (Or.inr (wk hw 16 rfl)) (ty := (.array .long)) (by decide)
                  have F635 : Fld Z h628 b628 cR "starts" "[I" .null := D628 (Or.inr (wk hw 18 rfl)) (ty := (.array .int)) (by decide)
                  have F636 : Fld Z h628 b628 cR "lists" dI .null := D628 (Or.inl (wk hw 20 rfl)) (ty := (.object "com/example/onward/onward/lts/IntBlocks")) (by decide)
                  have F637 : Fld Z h628 b628 cR "anywhere" "[J" .null := D628 (Or.inr (wk hw 22 rfl)) (ty := (.array .long)) (by decide)
                  have F638 : Fld Z h628 b628 cR "joined" "I" (.int (0 : Int32)) := D628 (Or.inl (wk hw 65 rfl)) (ty := .int) (by decide)
                  refine Go.back st628 ?_
                  refine Go.back (fun t k => XS.dup X628.here hx rfl (hb hby at_121) rfl rfl k) ?_
                  refine Go.back (fun t k => XS.iconst X628.here hx rfl (hb hby at_122) k) ?_
                  refine Go.back (fun t k => XS.iload X628.here hx rfl (hb hby at_123) rfl  k) ?_
                  show Go _ _ _ _ (T628.setTop (mkF m 125 #[vI p0, vI p1, vI p2, vI p3, vI p4, vI z2, vZ z5, vZ z8, vZ z11, vI z14, vI z17, vI z20, uS, uS, uS, uS] [(.int z2), (.int (2 : Int32)), (.ref b628), (.ref b628)]))
                  obtain ⟨_, _, ⟨T639, L639, k639, n639⟩, -, X639, ⟨Lc639, hQ639, l639, y639, z639⟩, st639⟩ := X628.specialBack hx (y := (⟨"com/example/onward/onward/check/RequirementRows", "<init>", "(II)V"⟩ : MethodName)) rfl hown (mvT hZ (wk hw 3 rfl)) (mvT hZ (wk hw 4 rfl)) (mvT hZ (wk hw 5 rfl)) (by decide) (backOf (W := 1) (rm59 l Z a0 hw [] b628 z2 w h628 n0 F630 A628 F633 F634 F635 F636 F637 F638 F632 g629 hwd hq4) hZ (wk hw 5 rfl) (wk hw 2 rfl) (by decide) (by decide)) (g := (mkF m 125 #[vI p0, vI p1, vI p2, vI p3, vI p4, vI z2, vZ z5, vZ z8, vZ z11, vI z14, vI z17, vI z20, uS, uS, uS, uS] [(.int z2), (.int (2 : Int32)), (.ref b628), (.ref b628)])) rfl (by rw [hml]; rfl) (Steps.refl _) (a := b628) (argsL := [(.int (2 : Int32)), (.int z2)]) (rest := [(.ref b628)]) (lenOf pd_9 rfl) rfl (by show 2 * 0 + _ ≤ _; exact Nat.le_of_eq rfl) (hb hby at_125) (fun _ _ => ⟨rfl, e628, (by decide : 1 + 2 ≤ _), (by decide : 7 + 16 ≤ _)⟩)
                  dsimp only [Pt.U, Pt.locs, Pt.cells, Pt.slots] at X639 l639 y639 z639 st639 hQ639
                  subst l639 y639 z639
                  obtain ⟨h639, e639⟩ : ∃ z, T639.heap = z := ⟨_, rfl⟩
                  rw [e639] at hQ639
                  obtain ⟨rfl, N639q, K639, o643, o644, sz645, sz646, ne647, F652, F653, F654, F655, F656, F657, F658, F659⟩ := hQ639
                  obtain ⟨Lo639, Y639, N639⟩ := pk X639 (Fr.app N0 N639q)
                  have F640 := Nat.le_trans F630 K639.1
                  have F641 := Nat.le_trans F631 K639.1
                  have F642 := A628.keep K639
                  have g648 : n0 ≤ o643 := Nat.le_trans F630 sz645
                  have ne649 := neC A628.lt sz645
                  have g650 : n0 ≤ o644 := Nat.le_trans F630 sz646
                  have ne651 := neC A628.lt sz646
                  refine Go.trans st639 ?_
                  show Go _ _ _ _ (T639.setTop (mkF m 128 #[vI p0, vI p1, vI p2, vI p3, vI p4, vI z2, vZ z5, vZ z8, vZ z11, vI z14, vI z17, vI z20, uS, uS, uS, uS] [(.ref b628)]))
                  refine Go.back (fun t k => XS.astore Y639.here hx rfl (hb hby at_128) rfl rfl (l' := #[vI p0, vI p1, vI p2, vI p3, vI p4, vI z2, vZ z5, vZ z8, vZ z11, vI z14, vI z17, vI z20, vR b628, uS, uS, uS]) rfl k) ?_
                  refine Go.back (fun t k => XS.aload Y639.here hx rfl (hb hby at_130) rfl rfl  k) ?_
                  refine Go.back (fun t k => XS.iconst Y639.here hx rfl (hb hby at_132) k) ?_
                  refine Go.back (fun t k => XS.iconst Y639.here hx rfl (hb hby at_133) k) ?_
                  show Go _ _ _ _ (T639.setTop (mkF m 134 #[vI p0, vI p1, vI p2, vI p3, vI p4, vI z2, vZ z5, vZ z8, vZ z11, vI z14, vI z17, vI z20, vR b628, uS, uS, uS] [(.int (2 : Int32)), (.int (0 : Int32)), (.ref b628)]))
                  obtain ⟨cq660, kq660, q660a, q660b, q660c⟩ := isOf hZ e639 F642
                  obtain ⟨_, _, ⟨T660, L660, k660, n660⟩, -, X660, ⟨Lc660, hQ660, l660, y660, z660⟩, st660⟩ := Y639.virtualBack hx (y := (⟨"com/example/onward/onward/check/RequirementRows", "part", "(II)Lcom/example/onward/onward/check/RequirementRows$Part;"⟩ : MethodName)) (z := (⟨"com/example/onward/onward/check/RequirementRows", "part", "(II)Lcom/example/onward/onward/check/RequirementRows$Part;"⟩ : MethodName)) hown (mvT hZ (wk hw 23 rfl)) (mvT hZ (wk hw 24 rfl)) (notFace_of_selects (args := #[]) (mvT hZ (wk hw 26 rfl))) (mvT hZ (wk hw 26 rfl)) (mvT hZ (wk hw 25 rfl)) (by decide) (backOf (W := 0) (rm61 l Z a0 hw [] b628 o644 (List.replicate (w).toNatClampNeg (0 : Int64)) o643 h639 n0 F640 F653 F656 F659 ne651 (by rw [List.length_replicate]; exact (own_w8_c hW).2.1)) hZ (wk hw 27 rfl) (wk hw 2 rfl) (by decide) (by decide)) q660a q660c (g := (mkF m 134 #[vI p0, vI p1, vI p2, vI p3, vI p4, vI z2, vZ z5, vZ z8, vZ z11, vI z14, vI z17, vI z20, vR b628, uS, uS, uS] [(.int (2 : Int32)), (.int (0 : Int32)), (.ref b628)])) rfl (by rw [hml]; rfl) (Steps.refl _) (argsL := [(.int (0 : Int32)), (.int (2 : Int32))]) (rest := []) (lenOf pd_10 rfl) rfl (by show 2 * 0 + _ ≤ _; exact Nat.le_of_eq rfl) (hb hby at_134) (fun _ _ => ⟨rfl, e639, (by decide : 3 + 3 ≤ _), (by decide : 23 + 32 ≤ _)⟩)
                  dsimp only [Pt.U, Pt.locs, Pt.cells, Pt.slots] at X660 l660 y660 z660 st660 hQ660
                  subst l660 y660 z660
                  obtain ⟨h660, e660⟩ : ∃ z, T660.heap = z := ⟨_, rfl⟩
                  rw [e660] at hQ660
                  obtain ⟨-, N660q, K660, o672, o673, o674, sz675, sz676, sz677, ne678, ne679, ne680, t693, F694, F695, F696, F697, F698, F699, F700, F701, F702, F703, F704⟩ := hQ660
                  obtain ⟨Lo660, Y660, N660⟩ := pk X660 (Fr.app N639 N660q)
                  subst t693
                  have F661 := Nat.le_trans F640 K660.1
                  have F662 := Nat.le_trans F641 K660.1
                  have F663 := F642.keep K660
                  have F664 := F652.keep K660 nin0
                  have F665 := F653.keep K660 nin0
                  have F666 := F654.keep K660 nin0
                  have F667 := F655.keep K660 nin0
                  have F668 := F656.keep K660 nin0
                  have F669 := F657.keep K660 nin0
                  have F670 := F658.keep K660 nin0
                  have F671 := F659.keep K660 nin0
                  have g681 : n0 ≤ o672 := Nat.le_trans F640 sz675
                  have ne682 := neC F642.lt sz675
                  have ne683 := neC F658.lt sz675
                  have ne684 := neC F659.lt sz675
                  have g685 : n0 ≤ o673 := Nat.le_trans F640 sz676
                  have ne686 := neC F642.lt sz676
                  have ne687 := neC F658.lt sz676
                  have ne688 := neC F659.lt sz676
                  have g689 : n0 ≤ o674 := Nat.le_trans F640 sz677
                  have ne690 := neC F642.lt sz677
                  have ne691 := neC F658.lt sz677
                  have ne692 := neC F659.lt sz677
                  refine Go.trans st660 ?_
                  show Go _ _ _ _ (T660.setTop (mkF m 137 #[vI p0, vI p1, vI p2, vI p3, vI p4, vI z2, vZ z5, vZ z8, vZ z11, vI z14, vI z17, vI z20, vR b628, uS, uS, uS] [(.ref o672)]))
                  refine Go.back (fun t k => XS.astore Y660.here hx rfl (hb hby at_137) rfl rfl (l' := #[vI p0, vI p1, vI p2, vI p3, vI p4, vI z2, vZ z5, vZ z8, vZ z11, vI z14, vI z17, vI z20, vR b628, vR o672, uS, uS]) rfl k) ?_
                  show Go _ _ _ _ (T660.setTop (mkF m 139 #[vI p0, vI p1, vI p2, vI p3, vI p4, vI z2, vZ z5, vZ z8, vZ z11, vI z14, vI z17, vI z20, vR b628, vR o672, uS, uS] []))
                  have hly : (List.replicate (List.length (List.replicate (w).toNatClampNeg (0 : Int64))) (0 : Int64)).length = (w).toNatClampNeg := by simp
                  have hlx : (List.replicate (w).toNatClampNeg (0 : Int64)).length = (w).toNatClampNeg := by simp
                  have hrow0 : own_rows (List.replicate ((2 : Int32) * w).toNatClampNeg (0 : Int64)) (w).toNatClampNeg false false := own_rows0 (own_n2 hq4)
                  refine Go.back (fun t k => XS.iload Y660.here hx rfl (hb hby at_139) rfl  k) ?_
                  show Go _ _ _ _ (T660.setTop (mkF m 141 #[vI p0, vI p1, vI p2, vI p3, vI p4, vI z2, vZ z5, vZ z8, vZ z11, vI z14, vI z17, vI z20, vR b628, vR o672, uS, uS] [(.int (b2i z5))]))
                  have J706 : ∀ (T731 : State) (L731 : List Loc) (X731 : Stand p l e room_1 s m #[(.int p0), (.int p1), (.int p2), (.int p3), (.int p4)] below meth c T731 L731 6 55) (N731 : Fr n0 L731) (h730 : Heap) (e731 : T731.heap = h730) (z728 : List Int64) (hz728 : z728 = (if z5 = true then (List.set (List.replicate ((2 : Int32) * w).toNatClampNeg (0 : Int64)) ((((0 : Int32) * w) + (((z14).toUInt32 >>> ((6 : Int32) &&& 31).toUInt32).toInt32))).toNatClampNeg ((List.getD (List.replicate ((2 : Int32) * w).toNatClampNeg (0 : Int64)) ((((0 : Int32) * w) + (((z14).toUInt32 >>> ((6 : Int32) &&& 31).toUInt32).toInt32))).toNatClampNeg (0 : Int64)) ||| (((1 : Int64) <<< (z14 &&& 0x3f).toInt64)))) else (List.replicate ((2 : Int32) * w).toNatClampNeg (0 : Int64)))) (F707 : n0 ≤ h730.size) (F708 : h0.size ≤ h730.size) (F709 : Exa Z h730 b628 cR) (F710 : Fld Z h730 b628 cR "words" "I" (.int w)) (F711 : Fld Z h730 b628 cR "rows" "[J" (.ref o643)) (F712 : Fld Z h730 b628 cR "starts" "[I" .null) (F713 : Fld Z h730 b628 cR "lists" dI .null) (F714 : Fld Z h730 b628 cR "anywhere" "[J" (.ref o644)) (F715 : Fld Z h730 b628 cR "joined" "I" (.int (0 : Int32))) (F716 : ArL Z h730 o644 .long (List.map Value.long (List.replicate (w).toNatClampNeg (0 : Int64)))) (F717 : Exa Z h730 o672 cP) (F718 : Fld Z h730 o672 cP "this$0" dR (.ref b628)) (F719 : Fld Z h730 o672 cP "anywhere" "[J" (.ref o673)) (F720 : Fld Z h730 o672 cP "current" "[I" (.ref o674)) (F721 : Fld Z h730 o672 cP "first" "I" (.int (0 : Int32))) (F722 : Fld Z h730 o672 cP "end" "I" (.int (2 : Int32))) (F723 : Fld Z h730 o672 cP "filling" "I" (.int (0 : Int32))) (F724 : Fld Z h730 o672 cP "listed" dI .null) (F725 : Fld Z h730 o672 cP "currentCount" "I" (.int (0 : Int32))) (F726 : ArL Z h730 o673 .long (List.map Value.long (List.replicate (List.length (List.replicate (w).toNatClampNeg (0 : Int64))) (0 : Int64)))) (F727 : ArL Z h730 o674 .int [(.int (0 : Int32)), (.int (0 : Int32)), (.int (0 : Int32)), (.int (0 : Int32)), (.int (0 : Int32)), (.int (0 : Int32)), (.int (0 : Int32)), (.int (0 : Int32)), (.int (0 : Int32)), (.int (0 : Int32)), (.int (0 : Int32)), (.int (0 : Int32)), (.int (0 : Int32)), (.int (0 : Int32)), (.int (0 : Int32)), (.int (0 : Int32))]) (F729 : ArL Z h730 o643 .long (List.map Value.long z728)), Go p.tables e below (P0 Z p0 p1 p2 p3 p4 h0 n0 s) (T731.setTop (mkF m 151 #[vI p0, vI p1, vI p2, vI p3, vI p4, vI z2, vZ z5, vZ z8, vZ z11, vI z14, vI z17, vI z20, vR b628, vR o672, uS, uS] [])) := by
                    intro T731 L731 X731 N731 h730 e731 z728 hz728 F707 F708 F709 F710 F711 F712 F713 F714 F715 F716 F717 F718 F719 F720 F721 F722 F723 F724 F725 F726 F727 F729
                    show Go _ _ _ _ (T731.setTop (mkF m 151 #[vI p0, vI p1, vI p2, vI p3, vI p4, vI z2, vZ z5, vZ z8, vZ z11, vI z14, vI z17, vI z20, vR b628, vR o672, uS, uS] []))
                    have hrow732 : own_rows z728 (w).toNatClampNeg (false || z5) false := by rw [hz728]; exact own_rows_ifa hrow0 (fun hc => own_rows_a hrow0 (own_pl0 hq4 (own_dm hz14 hz5 hc hW3.2.2) rfl).2 (own_bit _ _))
                    refine Go.back (fun t k => XS.iload X731.here hx rfl (hb hby at_151) rfl  k) ?_
                    show Go _ _ _ _ (T731.setTop (mkF m 153 #[vI p0, vI p1, vI p2, vI p3, vI p4, vI z2, vZ z5, vZ z8, vZ z11, vI z14, vI z17, vI z20, vR b628, vR o672, uS, uS] [(.int (b2i z8))]))
                    have J734 : ∀ (T759 : State) (L759 : List Loc) (X759 : Stand p l e room_1 s m #[(.int p0), (.int p1), (.int p2), (.int p3), (.int p4)] below meth c T759 L759 6 55) (N759 : Fr n0 L759) (h758 : Heap) (e759 : T759.heap = h758) (z756 : List Int64) (hz756 : z756 = (if z8 = true then (List.set z728 ((((0 : Int32) * w) + (((z17).toUInt32 >>> ((6 : Int32) &&& 31).toUInt32).toInt32))).toNatClampNeg ((List.getD z728 ((((0 : Int32) * w) + (((z17).toUInt32 >>> ((6 : Int32) &&& 31).toUInt32).toInt32))).toNatClampNeg (0 : Int64)) ||| (((1 : Int64) <<< (z17 &&& 0x3f).toInt64)))) else z728)) (F735 : n0 ≤ h758.size) (F736 : h0.size ≤ h758.size) (F737 : Exa Z h758 b628 cR) (F738 : Fld Z h758 b628 cR "words" "I" (.int w)) (F739 : Fld Z h758 b628 cR "rows" "[J" (.ref o643)) (F740 : Fld Z h758 b628 cR "starts" "[I" .null) (F741 : Fld Z h758 b628 cR "lists" dI .null) (F742 : Fld Z h758 b628 cR "anywhere" "[J" (.ref o644)) (F743 : Fld Z h758 b628 cR "joined" "I" (.int (0 : Int32))) (F744 : ArL Z h758 o644 .long (List.map Value.long (List.replicate (w).toNatClampNeg (0 : Int64)))) (F745 : Exa Z h758 o672 cP) (F746 : Fld Z h758 o672 cP "this$0" dR (.ref b628)) (F747 : Fld Z h758 o672 cP "anywhere" "[J" (.ref o673)) (F748 : Fld Z h758 o672 cP "current" "[I" (.ref o674)) (F749 : Fld Z h758 o672 cP "first" "I" (.int (0 : Int32))) (F750 : Fld Z h758 o672 cP "end" "I" (.int (2 : Int32))) (F751 : Fld Z h758 o672 cP "filling" "I" (.int (0 : Int32))) (F752 : Fld Z h758 o672 cP "listed" dI .null) (F753 : Fld Z h758 o672 cP "currentCount" "I" (.int (0 : Int32))) (F754 : ArL Z h758 o673 .long (List.map Value.long (List.replicate (List.length (List.replicate (w).toNatClampNeg (0 : Int64))) (0 : Int64)))) (F755 : ArL Z h758 o674 .int [(.int (0 : Int32)), (.int (0 : Int32)), (.int (0 : Int32)), (.int (0 : Int32)), (.int (0 : Int32)), (.int (0 : Int32)), (.int (0 : Int32)), (.int (0 : Int32)), (.int (0 : Int32)), (.int (0 : Int32)), (.int (0 : Int32)), (.int (0 : Int32)), (.int (0 : Int32)), (.int (0 : Int32)), (.int (0 : Int32)), (.int (0 : Int32))]) (F757 : ArL Z h758 o643 .long (List.map Value.long z756)), Go p.tables e below (P0 Z p0 p1 p2 p3 p4 h0 n0 s) (T759.setTop (mkF m 163 #[vI p0, vI p1, vI p2, vI p3, vI p4, vI z2, vZ z5, vZ z8, vZ z11, vI z14, vI z17, vI z20, vR b628, vR o672, uS, uS] [])) := by
                      intro T759 L759 X759 N759 h758 e759 z756 hz756 F735 F736 F737 F738 F739 F740 F741 F742 F743 F744 F745 F746 F747 F748 F749 F750 F751 F752 F753 F754 F755 F757
                      show Go _ _ _ _ (T759.setTop (mkF m 163 #[vI p0, vI p1, vI p2, vI p3, vI p4, vI z2, vZ z5, vZ z8, vZ z11, vI z14, vI z17, vI z20, vR b628, vR o672, uS, uS] []))
                      have hrow760 : own_rows z756 (w).toNatClampNeg ((false || z5) || z8) false := by rw [hz756]; exact own_rows_ifa hrow732 (fun hc => own_rows_a hrow732 (own_pl0 hq4 (own_dm hz17 hz8 hc hW3.2.2) rfl).2 (own_bit _ _))
                      refine Go.back (fun t k => XS.aload X759.here hx rfl (hb hby at_163) rfl rfl  k) ?_
                      show Go _ _ _ _ (T759.setTop (mkF m 165 #[vI p0, vI p1, vI p2, vI p3, vI p4, vI z2, vZ z5, vZ z8, vZ z11, vI z14, vI z17, vI z20, vR b628, vR o672, uS, uS] [(.ref o672)]))
                      obtain ⟨cq761, kq761, q761a, q761b, q761c⟩ := isOf hZ e759 F745
                      obtain ⟨_, _, ⟨T761, L761, k761, n761⟩, -, X761, ⟨Lc761, hQ761, l761, y761, z761⟩, st761⟩ := X759.virtualBack hx (y := (⟨"com/example/onward/onward/check/RequirementRows$Part", "endState", "()V"⟩ : MethodName)) (z := (⟨"com/example/onward/onward/check/RequirementRows$Part", "endState", "()V"⟩ : MethodName)) hown (mvT hZ (wk hw 52 rfl)) (mvT hZ (wk hw 53 rfl)) (notFace_of_selects (args := #[]) (mvT hZ (wk hw 55 rfl))) (mvT hZ (wk hw 55 rfl)) (mvT hZ (wk hw 54 rfl)) (by decide) (backOf (W := 0) (rm54 l Z a0 hw [] o672 b628 o643 w o673 o674 z756 (List.replicate (List.length (List.replicate (w).toNatClampNeg (0 : Int64))) (0 : Int64)) h758 n0 F735 F745 F746 F747 F748 F749 F750 F751 F752 F753 F738 F739 F757 F754 g681 g685 ne678 (Ne.symm ne683) (Ne.symm ne682) (Ne.symm ne687) (Ne.symm ne686) (Ne.symm ne649) hq4 (own_len2 hq4 hrow760) (own_lenE hly (own_w8_c hW).2.2)) hZ (wk hw 56 rfl) (wk hw 30 rfl) (by decide) (by decide)) q761a q761c (g := (mkF m 165 #[vI p0, vI p1, vI p2, vI p3, vI p4, vI z2, vZ z5, vZ z8, vZ z11, vI z14, vI z17, vI z20, vR b628, vR o672, uS, uS] [(.ref o672)])) rfl (by rw [hml]; rfl) (Steps.refl _) (argsL := []) (rest := []) (lenOf pd_6 rfl) rfl (by show 2 * 0 + _ ≤ _; exact Nat.le_of_eq rfl) (hb hby at_165) (fun _ _ => ⟨rfl, e759, (by decide : 6 + 0 ≤ _), (by decide : 55 + 0 ≤ _)⟩)
                      dsimp only [Pt.U, Pt.locs, Pt.cells, Pt.slots] at X761 l761 y761 z761 st761 hQ761
                      subst l761 y761 z761
                      obtain ⟨h761, e761⟩ : ∃ z, T761.heap = z := ⟨_, rfl⟩
                      rw [e761] at hQ761
                      obtain ⟨rfl, N761q, K761, F775, F776, F777, F778, F779, F780, F781, F782, t783⟩ := hQ761
                      obtain ⟨Lo761, Y761, N761⟩ := pk X761 (Fr.app N759 N761q)
                      have F762 := Nat.le_trans F735 K761.1
                      have F763 := Nat.le_trans F736 K761.1
                      have F764 := F737.keep K761
                      have F765 := F738.keep K761 (ninS ne682 (ninS ne686 nin0))
                      have F766 := F739.keep K761 (ninS ne682 (ninS ne686 nin0))
                      have F767 := F740.keep K761 (ninS ne682 (ninS ne686 nin0))
                      have F768 := F741.keep K761 (ninS ne682 (ninS ne686 nin0))
                      have F769 := F742.keep K761 (ninS ne682 (ninS ne686 nin0))
                      have F770 := F743.keep K761 (ninS ne682 (ninS ne686 nin0))
                      have F771 := F744.keep K761 (ninS ne684 (ninS ne688 nin0))
                      have F772 := F745.keep K761
                      have F773 := F755.keep K761 (ninS (Ne.symm ne679) (ninS (Ne.symm ne680) nin0))
                      have F774 := F757.keep K761 (ninS ne683 (ninS ne687 nin0))
                      obtain ⟨G761, hG761, FG761⟩ := t783
                      refine Go.trans st761 ?_
                      show Go _ _ _ _ (T761.setTop (mkF m 168 #[vI p0, vI p1, vI p2, vI p3, vI p4, vI z2, vZ z5, vZ z8, vZ z11, vI z14, vI z17, vI z20, vR b628, vR o672, uS, uS] []))
                      refine Go.back (fun t k => XS.iload Y761.here hx rfl (hb hby at_168) rfl  k) ?_
                      show Go _ _ _ _ (T761.setTop (mkF m 170 #[vI p0, vI p1, vI p2, vI p3, vI p4, vI z2, vZ z5, vZ z8, vZ z11, vI z14, vI z17, vI z20, vR b628, vR o672, uS, uS] [(.int (b2i z11))]))
                      have J785 : ∀ (T810 : State) (L810 : List Loc) (X810 : Stand p l e room_1 s m #[(.int p0), (.int p1), (.int p2), (.int p3), (.int p4)] below meth c T810 L810 6 55) (N810 : Fr n0 L810) (h809 : Heap) (e810 : T810.heap = h809) (z807 : List Int64) (hz807 : z807 = (if z11 = true then (List.set z756 ((((1 : Int32) * w) + (((z20).toUInt32 >>> ((6 : Int32) &&& 31).toUInt32).toInt32))).toNatClampNeg ((List.getD z756 ((((1 : Int32) * w) + (((z20).toUInt32 >>> ((6 : Int32) &&& 31).toUInt32).toInt32))).toNatClampNeg (0 : Int64)) ||| (((1 : Int64) <<< (z20 &&& 0x3f).toInt64)))) else z756)) (F786 : n0 ≤ h809.size) (F787 : h0.size ≤ h809.size) (F788 : Exa Z h809 b628 cR) (F789 : Fld Z h809 b628 cR "words" "I" (.int w)) (F790 : Fld Z h809 b628 cR "rows" "[J" (.ref o643)) (F791 : Fld Z h809 b628 cR "starts" "[I" .null) (F792 : Fld Z h809 b628 cR "lists" dI .null) (F793 : Fld Z h809 b628 cR "anywhere" "[J" (.ref o644)) (F794 : Fld Z h809 b628 cR "joined" "I" (.int (0 : Int32))) (F795 : ArL Z h809 o644 .long (List.map Value.long (List.replicate (w).toNatClampNeg (0 : Int64)))) (F796 : Exa Z h809 o672 cP) (F797 : ArL Z h809 o674 .int [(.int (0 : Int32)), (.int (0 : Int32)), (.int (0 : Int32)), (.int (0 : Int32)), (.int (0 : Int32)), (.int (0 : Int32)), (.int (0 : Int32)), (.int (0 : Int32)), (.int (0 : Int32)), (.int (0 : Int32)), (.int (0 : Int32)), (.int (0 : Int32)), (.int (0 : Int32)), (.int (0 : Int32)), (.int (0 : Int32)), (.int (0 : Int32))]) (F798 : Fld Z h809 o672 cP "this$0" dR (.ref b628)) (F799 : Fld Z h809 o672 cP "anywhere" "[J" (.ref o673)) (F800 : Fld Z h809 o672 cP "current" "[I" (.ref o674)) (F801 : Fld Z h809 o672 cP "first" "I" (.int (0 : Int32))) (F802 : Fld Z h809 o672 cP "end" "I" (.int (2 : Int32))) (F803 : Fld Z h809 o672 cP "filling" "I" (.int (1 : Int32))) (F804 : Fld Z h809 o672 cP "listed" dI .null) (F805 : Fld Z h809 o672 cP "currentCount" "I" (.int (0 : Int32))) (F806 : ArL Z h809 o673 .long (List.map Value.long G761)) (F808 : ArL Z h809 o643 .long (List.map Value.long z807)), Go p.tables e below (P0 Z p0 p1 p2 p3 p4 h0 n0 s) (T810.setTop (mkF m 180 #[vI p0, vI p1, vI p2, vI p3, vI p4, vI z2, vZ z5, vZ z8, vZ z11, vI z14, vI z17, vI z20, vR b628, vR o672, uS, uS] [])) := by
                        intro T810 L810 X810 N810 h809 e810 z807 hz807 F786 F787 F788 F789 F790 F791 F792 F793 F794 F795 F796 F797 F798 F799 F800 F801 F802 F803 F804 F805 F806 F808
                        show Go _ _ _ _ (T810.setTop (mkF m 180 #[vI p0, vI p1, vI p2, vI p3, vI p4, vI z2, vZ z5, vZ z8, vZ z11, vI z14, vI z17, vI z20, vR b628, vR o672, uS, uS] []))
                        have hrow811 : own_rows z807 (w).toNatClampNeg ((false || z5) || z8) (false || z11) := by rw [hz807]; exact own_rows_ifb hrow760 (fun hc => own_rows_b hrow760 (own_pl1 hq4 (own_dm hz20 hz11 hc hW3.2.2) rfl).2.1 (own_pl1 hq4 (own_dm hz20 hz11 hc hW3.2.2) rfl).2.2 (own_bit _ _))
                        refine Go.back (fun t k => XS.aload X810.here hx rfl (hb hby at_180) rfl rfl  k) ?_
                        show Go _ _ _ _ (T810.setTop (mkF m 182 #[vI p0, vI p1, vI p2, vI p3, vI p4, vI z2, vZ z5, vZ z8, vZ z11, vI z14, vI z17, vI z20, vR b628, vR o672, uS, uS] [(.ref o672)]))
                        obtain ⟨cq812, kq812, q812a, q812b, q812c⟩ := isOf hZ e810 F796
                        obtain ⟨_, _, ⟨T812, L812, k812, n812⟩, -, X812, ⟨Lc812, hQ812, l812, y812, z812⟩, st812⟩ := X810.virtualBack hx (y := (⟨"com/example/onward/onward/check/RequirementRows$Part", "endState", "()V"⟩ : MethodName)) (z := (⟨"com/example/onward/onward/check/RequirementRows$Part", "endState", "()V"⟩ : MethodName)) hown (mvT hZ (wk hw 52 rfl)) (mvT hZ (wk hw 53 rfl)) (notFace_of_selects (args := #[]) (mvT hZ (wk hw 55 rfl))) (mvT hZ (wk hw 55 rfl)) (mvT hZ (wk hw 54 rfl)) (by decide) (backOf (W := 0) (rm55 l Z a0 hw [] o672 b628 o643 w o673 o674 z807 G761 h809 n0 F786 F796 F798 F799 F800 F801 F802 F803 F804 F805 F789 F790 F808 F806 g681 g685 ne678 (Ne.symm ne683) (Ne.symm ne682) (Ne.symm ne687) (Ne.symm ne686) (Ne.symm ne649) hq4 (own_len2 hq4 hrow811) (own_lenE (hG761.trans hly) (own_w8_c hW).2.2)) hZ (wk hw 56 rfl) (wk hw 30 rfl) (by decide) (by decide)) q812a q812c (g := (mkF m 182 #[vI p0, vI p1, vI p2, vI p3, vI p4, vI z2, vZ z5, vZ z8, vZ z11, vI z14, vI z17, vI z20, vR b628, vR o672, uS, uS] [(.ref o672)])) rfl (by rw [hml]; rfl) (Steps.refl _) (argsL := []) (rest := []) (lenOf pd_6 rfl) rfl (by show 2 * 0 + _ ≤ _; exact Nat.le_of_eq rfl) (hb hby at_182) (fun _ _ => ⟨rfl, e810, (by decide : 6 + 0 ≤ _), (by decide : 55 + 0 ≤ _)⟩)
                        dsimp only [Pt.U, Pt.locs, Pt.cells, Pt.slots] at X812 l812 y812 z812 st812 hQ812
                        subst l812 y812 z812
                        obtain ⟨h812, e812⟩ : ∃ z, T812.heap = z := ⟨_, rfl⟩
                        rw [e812] at hQ812
                        obtain ⟨rfl, N812q, K812, F826, F827, F828, F829, F830, F831, F832, F833, t834⟩ := hQ812
                        obtain ⟨Lo812, Y812, N812⟩ := pk X812 (Fr.app N810 N812q)
                        have F813 := Nat.le_trans F786 K812.1
                        have F814 := Nat.le_trans F787 K812.1
                        have F815 := F788.keep K812
                        have F816 := F789.keep K812 (ninS ne682 (ninS ne686 nin0))
                        have F817 := F790.keep K812 (ninS ne682 (ninS ne686 nin0))
                        have F818 := F791.keep K812 (ninS ne682 (ninS ne686 nin0))
                        have F819 := F792.keep K812 (ninS ne682 (ninS ne686 nin0))
                        have F820 := F793.keep K812 (ninS ne682 (ninS ne686 nin0))
                        have F821 := F794.keep K812 (ninS ne682 (ninS ne686 nin0))
                        have F822 := F795.keep K812 (ninS ne684 (ninS ne688 nin0))
                        have F823 := F796.keep K812
                        have F824 := F797.keep K812 (ninS (Ne.symm ne679) (ninS (Ne.symm ne680) nin0))
                        have F825 := F808.keep K812 (ninS ne683 (ninS ne687 nin0))
                        obtain ⟨G812, hG812, FG812⟩ := t834
                        refine Go.trans st812 ?_
                        show Go _ _ _ _ (T812.setTop (mkF m 185 #[vI p0, vI p1, vI p2, vI p3, vI p4, vI z2, vZ z5, vZ z8, vZ z11, vI z14, vI z17, vI z20, vR b628, vR o672, uS, uS] []))
                        refine Go.back (fun t k => XS.aload Y812.here hx rfl (hb hby at_185) rfl rfl  k) ?_
                        refine Go.back (fun t k => XS.aload Y812.here hx rfl (hb hby at_187) rfl rfl  k) ?_
                        show Go _ _ _ _ (T812.setTop (mkF m 189 #[vI p0, vI p1, vI p2, vI p3, vI p4, vI z2, vZ z5, vZ z8, vZ z11, vI z14, vI z17, vI z20, vR b628, vR o672, uS, uS] [(.ref o672), (.ref b628)]))
                        obtain ⟨cq835, kq835, q835a, q835b, q835c⟩ := isOf hZ e812 F815
                        obtain ⟨_, _, ⟨T835, L835, k835, n835⟩, -, X835, ⟨Lc835, hQ835, l835, y835, z835⟩, st835⟩ := Y812.virtualBack hx (y := (⟨"com/example/onward/onward/check/RequirementRows", "join", "(Lcom/example/onward/onward/check/RequirementRows$Part;)V"⟩ : MethodName)) (z := (⟨"com/example/onward/onward/check/RequirementRows", "join", "(Lcom/example/onward/onward/check/RequirementRows$Part;)V"⟩ : MethodName)) hown (mvT hZ (wk hw 58 rfl)) (mvT hZ (wk hw 59 rfl)) (notFace_of_selects (args := #[]) (mvT hZ (wk hw 61 rfl))) (mvT hZ (wk hw 61 rfl)) (mvT hZ (wk hw 60 rfl)) (by decide) (backOf (W := 0) (rm49 l Z a0 hw [] b628 o672 o644 o673 (List.replicate (w).toNatClampNeg (0 : Int64)) G812 ((w).toNatClampNeg) o643 w h812 n0 F813 F815 F816 F817 F820 F821 F829 F831 F830 F827 F822 FG812 g629 g650 ne682 ne651 ne686 (Ne.symm ne684) ne678 ne688 hlx (hG812.trans (hG761.trans hly)) (own_w8_c hW).2.1) hZ (wk hw 62 rfl) (wk hw 2 rfl) (by decide) (by decide)) q835a q835c (g := (mkF m 189 #[vI p0, vI p1, vI p2, vI p3, vI p4, vI z2, vZ z5, vZ z8, vZ z11, vI z14, vI z17, vI z20, vR b628, vR o672, uS, uS] [(.ref o672), (.ref b628)])) rfl (by rw [hml]; rfl) (Steps.refl _) (argsL := [(.ref o672)]) (rest := []) (lenOf pd_11 rfl) rfl (by show 2 * 0 + _ ≤ _; exact Nat.le_of_eq rfl) (hb hby at_189) (fun _ _ => ⟨rfl, e812, (by decide : 6 + 0 ≤ _), (by decide : 55 + 0 ≤ _)⟩)
                        dsimp only [Pt.U, Pt.locs, Pt.cells, Pt.slots] at X835 l835 y835 z835 st835 hQ835
                        subst l835 y835 z835
                        obtain ⟨h835, e835⟩ : ∃ z, T835.heap = z := ⟨_, rfl⟩
                        rw [e835] at hQ835
                        obtain ⟨rfl, N835q, K835, F851, F852⟩ := hQ835
                        obtain ⟨Lo835, Y835, N835⟩ := pk X835 (Fr.app N812 N835q)
                        have F836 := Nat.le_trans F813 K835.1
                        have F837 := Nat.le_trans F814 K835.1
                        have F838 := F815.keep K835
                        have F839 := F823.keep K835
                        have F840 := F824.keep K835 (ninS (Ne.symm ne690) (ninS (Ne.symm ne692) nin0))
                        have F841 := F825.keep K835 (ninS (Ne.symm ne649) (ninS ne647 nin0))
                        have F842 := F826.keep K835 (ninS (Ne.symm ne682) (ninS (Ne.symm ne684) nin0))
                        have F843 := F827.keep K835 (ninS (Ne.symm ne682) (ninS (Ne.symm ne684) nin0))
                        have F844 := F828.keep K835 (ninS (Ne.symm ne682) (ninS (Ne.symm ne684) nin0))
                        have F845 := F829.keep K835 (ninS (Ne.symm ne682) (ninS (Ne.symm ne684) nin0))
                        have F846 := F830.keep K835 (ninS (Ne.symm ne682) (ninS (Ne.symm ne684) nin0))
                        have F847 := F831.keep K835 (ninS (Ne.symm ne682) (ninS (Ne.symm ne684) nin0))
                        have F848 := F832.keep K835 (ninS (Ne.symm ne682) (ninS (Ne.symm ne684) nin0))
                        have F849 := F833.keep K835 (ninS (Ne.symm ne682) (ninS (Ne.symm ne684) nin0))
                        have F850 := FG812.keep K835 (ninS (Ne.symm ne686) (ninS (Ne.symm ne688) nin0))
                        refine Go.trans st835 ?_
                        show Go _ _ _ _ (T835.setTop (mkF m 192 #[vI p0, vI p1, vI p2, vI p3, vI p4, vI z2, vZ z5, vZ z8, vZ z11, vI z14, vI z17, vI z20, vR b628, vR o672, uS, uS] []))
                        refine Go.back (fun t k => XS.aload Y835.here hx rfl (hb hby at_192) rfl rfl  k) ?_
                        refine Go.back (fun t k => XS.iconst Y835.here hx rfl (hb hby at_194) k) ?_
                        show Go _ _ _ _ (T835.setTop (mkF m 195 #[vI p0, vI p1, vI p2, vI p3, vI p4, vI z2, vZ z5, vZ z8, vZ z11, vI z14, vI z17, vI z20, vR b628, vR o672, uS, uS] [(.int (0 : Int32)), (.ref b628)]))
                        obtain ⟨cq853, kq853, q853a, q853b, q853c⟩ := isOf hZ e835 F838
                        obtain ⟨_, _, ⟨T853, L853, k853, n853⟩, -, X853, ⟨Lc853, hQ853, l853, y853, z853⟩, st853⟩ := Y835.virtualBack hx (y := (⟨"com/example/onward/onward/check/RequirementRows", "raisesAny", "(I)Z"⟩ : MethodName)) (z := (⟨"com/example/onward/onward/check/RequirementRows", "raisesAny", "(I)Z"⟩ : MethodName)) hown (mvT hZ (wk hw 68 rfl)) (mvT hZ (wk hw 69 rfl)) (notFace_of_selects (args := #[]) (mvT hZ (wk hw 71 rfl))) (mvT hZ (wk hw 71 rfl)) (mvT hZ (wk hw 70 rfl)) (by decide) (backOf (W := 0) (rm52 l Z a0 hw [] b628 (0 : Int32) o643 w z807 h835 n0 F836 F852 F851 F841 (Or.inl rfl) hq4 (own_len2 hq4 hrow811)) hZ (wk hw 72 rfl) (wk hw 2 rfl) (by decide) (by decide)) q853a q853c (g := (mkF m 195 #[vI p0, vI p1, vI p2, vI p3, vI p4, vI z2, vZ z5, vZ z8, vZ z11, vI z14, vI z17, vI z20, vR b628, vR o672, uS, uS] [(.int (0 : Int32)), (.ref b628)])) rfl (by rw [hml]; rfl) (Steps.refl _) (argsL := [(.int (0 : Int32))]) (rest := []) (lenOf pd_12 rfl) rfl (by show 2 * 0 + _ ≤ _; exact Nat.le_of_eq rfl) (hb hby at_195) (fun _ _ => ⟨rfl, e835, (by decide : 6 + 0 ≤ _), (by decide : 55 + 0 ≤ _)⟩)
                        dsimp only [Pt.U, Pt.locs, Pt.cells, Pt.slots] at X853 l853 y853 z853 st853 hQ853
                        subst l853 y853 z853
                        obtain ⟨rfl, N853q, e853⟩ := hQ853
                        obtain ⟨Lo853, Y853, N853⟩ := pk X853 (Fr.app N835 N853q)
                        refine Go.trans st853 ?_
                        rw [show (own_any z807 ((0 : Int32) * w) (w).toNatClampNeg (0 : Int32) false) = ((false || z5) || z8) from (own_any0 hq4 hrow811)]
                        show Go _ _ _ _ (T853.setTop (mkF m 198 #[vI p0, vI p1, vI p2, vI p3, vI p4, vI z2, vZ z5, vZ z8, vZ z11, vI z14, vI z17, vI z20, vR b628, vR o672, uS, uS] [(.int (b2i ((false || z5) || z8)))]))
                        refine Go.back (fun t k => XS.istore Y853.here hx rfl (hb hby at_198) rfl (l' := #[vI p0, vI p1, vI p2, vI p3, vI p4, vI z2, vZ z5, vZ z8, vZ z11, vI z14, vI z17, vI z20, vR b628, vR o672, vZ ((false || z5) || z8), uS]) rfl k) ?_
                        refine Go.back (fun t k => XS.aload Y853.here hx rfl (hb hby at_200) rfl rfl  k) ?_
                        refine Go.back (fun t k => XS.iconst Y853.here hx rfl (hb hby at_202) k) ?_
                        show Go _ _ _ _ (T853.setTop (mkF m 203 #[vI p0, vI p1, vI p2, vI p3, vI p4, vI z2, vZ z5, vZ z8, vZ z11, vI z14, vI z17, vI z20, vR b628, vR o672, vZ ((false || z5) || z8), uS] [(.int (1 : Int32)), (.ref b628)]))
                        obtain ⟨cq854, kq854, q854a, q854b, q854c⟩ := isOf hZ e853 F838
                        obtain ⟨_, _, ⟨T854, L854, k854, n854⟩, -, X854, ⟨Lc854, hQ854, l854, y854, z854⟩, st854⟩ := Y853.virtualBack hx (y := (⟨"com/example/onward/onward/check/RequirementRows", "raisesAny", "(I)Z"⟩ : MethodName)) (z := (⟨"com/example/onward/onward/check/RequirementRows", "raisesAny", "(I)Z"⟩ : MethodName)) hown (mvT hZ (wk hw 68 rfl)) (mvT hZ (wk hw 69 rfl)) (notFace_of_selects (args := #[]) (mvT hZ (wk hw 71 rfl))) (mvT hZ (wk hw 71 rfl)) (mvT hZ (wk hw 70 rfl)) (by decide) (backOf (W := 0) (rm52 l Z a0 hw [] b628 (1 : Int32) o643 w z807 h835 n0 F836 F852 F851 F841 (Or.inr rfl) hq4 (own_len2 hq4 hrow811)) hZ (wk hw 72 rfl) (wk hw 2 rfl) (by decide) (by decide)) q854a q854c (g := (mkF m 203 #[vI p0, vI p1, vI p2, vI p3, vI p4, vI z2, vZ z5, vZ z8, vZ z11, vI z14, vI z17, vI z20, vR b628, vR o672, vZ ((false || z5) || z8), uS] [(.int (1 : Int32)), (.ref b628)])) rfl (by rw [hml]; rfl) (Steps.refl _) (argsL := [(.int (1 : Int32))]) (rest := []) (lenOf pd_12 rfl) rfl (by show 2 * 0 + _ ≤ _; exact Nat.le_of_eq rfl) (hb hby at_203) (fun _ _ => ⟨rfl, e853, (by decide : 6 + 0 ≤ _), (by decide : 55 + 0 ≤ _)⟩)
                        dsimp only [Pt.U, Pt.locs, Pt.cells, Pt.slots] at X854 l854 y854 z854 st854 hQ854
                        subst l854 y854 z854
                        obtain ⟨rfl, N854q, e854⟩ := hQ854
                        obtain ⟨Lo854, Y854, N854⟩ := pk X854 (Fr.app N853 N854q)
                        refine Go.trans st854 ?_
                        rw [show (own_any z807 ((1 : Int32) * w) (w).toNatClampNeg (0 : Int32) false) = (false || z11) from (own_any1 hq4 hrow811)]
                        show Go _ _ _ _ (T854.setTop (mkF m 206 #[vI p0, vI p1, vI p2, vI p3, vI p4, vI z2, vZ z5, vZ z8, vZ z11, vI z14, vI z17, vI z20, vR b628, vR o672, vZ ((false || z5) || z8), uS] [(.int (b2i (false || z11)))]))
                        refine Go.back (fun t k => XS.istore Y854.here hx rfl (hb hby at_206) rfl (l' := #[vI p0, vI p1, vI p2, vI p3, vI p4, vI z2, vZ z5, vZ z8, vZ z11, vI z14, vI z17, vI z20, vR b628, vR o672, vZ ((false || z5) || z8), vZ (false || z11)]) rfl k) ?_
                        refine Go.back (fun t k => XS.iload Y854.here hx rfl (hb hby at_208) rfl  k) ?_
                        refine Go.back (fun t k => XS.iload Y854.here hx rfl (hb hby at_210) rfl  k) ?_
                        show Go _ _ _ _ (T854.setTop (mkF m 212 #[vI p0, vI p1, vI p2, vI p3, vI p4, vI z2, vZ z5, vZ z8, vZ z11, vI z14, vI z17, vI z20, vR b628, vR o672, vZ ((false || z5) || z8), vZ (false || z11)] [(.int (b2i z5)), (.int (b2i ((false || z5) || z8)))]))
                        have J856 : ∀ (z857 : Bool) (hz857 : z857 = (if z5 = true then true else (if z8 = true then true else false))), Go p.tables e below (P0 Z p0 p1 p2 p3 p4 h0 n0 s) (T854.setTop (mkF m 225 #[vI p0, vI p1, vI p2, vI p3, vI p4, vI z2, vZ z5, vZ z8, vZ z11, vI z14, vI z17, vI z20, vR b628, vR o672, vZ ((false || z5) || z8), vZ (false || z11)] [(.int (b2i z857)), (.int (b2i ((false || z5) || z8)))])) := by
                          intro z857 hz857
                          show Go _ _ _ _ (T854.setTop (mkF m 225 #[vI p0, vI p1, vI p2, vI p3, vI p4, vI z2, vZ z5, vZ z8, vZ z11, vI z14, vI z17, vI z20, vR b628, vR o672, vZ ((false || z5) || z8), vZ (false || z11)] [(.int (b2i z857)), (.int (b2i ((false || z5) || z8)))]))
                          refine Go.back (fun t k => XS.icmpNo Y854.here hx rfl (hb hby at_225) rfl (teq (congrArg b2i (own_or hz857))).2 k) ?_
                          show Go _ _ _ _ (T854.setTop (mkF m 228 #[vI p0, vI p1, vI p2, vI p3, vI p4, vI z2, vZ z5, vZ z8, vZ z11, vI z14, vI z17, vI z20, vR b628, vR o672, vZ ((false || z5) || z8), vZ (false || z11)] []))
                          refine Go.back (fun t k => XS.iload Y854.here hx rfl (hb hby at_228) rfl  k) ?_
                          refine Go.back (fun t k => XS.iload Y854.here hx rfl (hb hby at_230) rfl  k) ?_
                          show Go _ _ _ _ (T854.setTop (mkF m 232 #[vI p0, vI p1, vI p2, vI p3, vI p4, vI z2, vZ z5, vZ z8, vZ z11, vI z14, vI z17, vI z20, vR b628, vR o672, vZ ((false || z5) || z8), vZ (false || z11)] [(.int (b2i z11)), (.int (b2i (false || z11)))]))
                          refine Go.back (fun t k => XS.icmpNo Y854.here hx rfl (hb hby at_232) rfl (teq (congrArg b2i (Bool.false_or _))).2 k) ?_
                          show Go _ _ _ _ (T854.setTop (mkF m 235 #[vI p0, vI p1, vI p2, vI p3, vI p4, vI z2, vZ z5, vZ z8, vZ z11, vI z14, vI z17, vI z20, vR b628, vR o672, vZ ((false || z5) || z8), vZ (false || z11)] []))
                          refine Go.back (fun t k => XS.iconst Y854.here hx rfl (hb hby at_235) k) ?_
                          refine Go.back (fun t k => XS.goto Y854.here hx rfl (pc0 := 236) (pc' := 240) rfl (hb hby at_236) (by decide) (by decide) k) ?_
                          show Go _ _ _ _ (T854.setTop (mkF m 240 #[vI p0, vI p1, vI p2, vI p3, vI p4, vI z2, vZ z5, vZ z8, vZ z11, vI z14, vI z17, vI z20, vR b628, vR o672, vZ ((false || z5) || z8), vZ (false || z11)] [(.int (1 : Int32))]))
                          exact Go.retBW0 (b := true) (s := s) (vm0 := s.vm) (Qa := Q0 Z p0 p1 p2 p3 p4 h0 n0) Y854 hx ((State.WarmedH.refl s).since h0.size) (by first | exact Nat.le_refl _ | (rw [e854]; exact F837)) Bd.returns (hb hby at_240) Bd.notSynchronized ⟨rfl, N854⟩ (by decide) (by decide)
                        have r858 : (if z5 = true then true else (if z8 = true then true else false)) = (if z5 = true then true else (if z8 = true then true else false)) := rfl
                        by_cases hc855 : z5 = true
                        · have r859 := r858.trans (if_pos hc855)
                          refine Go.back (fun t k => XS.ifYes Y854.here hx rfl (pc0 := 212) (pc' := 220) rfl (hb hby at_212) rfl ((if0 _ _).trans (feq (b2i_t hc855)).2) (by decide) (by decide) k) ?_
                          show Go _ _ _ _ (T854.setTop (mkF m 220 #[vI p0, vI p1, vI p2, vI p3, vI p4, vI z2, vZ z5, vZ z8, vZ z11, vI z14, vI z17, vI z20, vR b628, vR o672, vZ ((false || z5) || z8), vZ (false || z11)] [(.int (b2i ((false || z5) || z8)))]))
                          refine Go.back (fun t k => XS.iconst Y854.here hx rfl (hb hby at_220) k) ?_
                          refine Go.back (fun t k => XS.goto Y854.here hx rfl (pc0 := 221) (pc' := 225) rfl (hb hby at_221) (by decide) (by decide) k) ?_
                          show Go _ _ _ _ (T854.setTop (mkF m 225 #[vI p0, vI p1, vI p2, vI p3, vI p4, vI z2, vZ z5, vZ z8, vZ z11, vI z14, vI z17, vI z20, vR b628, vR o672, vZ ((false || z5) || z8), vZ (false || z11)] [(.int (1 : Int32)), (.int (b2i ((false || z5) || z8)))]))
                          exact J856 true r859.symm
                        · have r860 := r858.trans (if_neg hc855)
                          refine Go.back (fun t k => XS.ifNo Y854.here hx rfl (hb hby at_212) rfl ((if0 _ _).trans (teq (b2i_f hc855)).2) k) ?_
                          show Go _ _ _ _ (T854.setTop (mkF m 215 #[vI p0, vI p1, vI p2, vI p3, vI p4, vI z2, vZ z5, vZ z8, vZ z11, vI z14, vI z17, vI z20, vR b628, vR o672, vZ ((false || z5) || z8), vZ (false || z11)] [(.int (b2i ((false || z5) || z8)))]))
                          refine Go.back (fun t k => XS.iload Y854.here hx rfl (hb hby at_215) rfl  k) ?_
                          show Go _ _ _ _ (T854.setTop (mkF m 217 #[vI p0, vI p1, vI p2, vI p3, vI p4, vI z2, vZ z5, vZ z8, vZ z11, vI z14, vI z17, vI z20, vR b628, vR o672, vZ ((false || z5) || z8), vZ (false || z11)] [(.int (b2i z8)), (.int (b2i ((false || z5) || z8)))]))
                          by_cases hc861 : z8 = true
                          · have r862 := r860.trans (if_pos hc861)
                            refine Go.back (fun t k => XS.ifNo Y854.here hx rfl (hb hby at_217) rfl ((if0 _ _).trans (feq (b2i_t hc861)).1) k) ?_
                            show Go _ _ _ _ (T854.setTop (mkF m 220 #[vI p0, vI p1, vI p2, vI p3, vI p4, vI z2, vZ z5, vZ z8, vZ z11, vI z14, vI z17, vI z20, vR b628, vR o672, vZ ((false || z5) || z8), vZ (false || z11)] [(.int (b2i ((false || z5) || z8)))]))
                            refine Go.back (fun t k => XS.iconst Y854.here hx rfl (hb hby at_220) k) ?_
                            refine Go.back (fun t k => XS.goto Y854.here hx rfl (pc0 := 221) (pc' := 225) rfl (hb hby at_221) (by decide) (by decide) k) ?_
                            show Go _ _ _ _ (T854.setTop (mkF m 225 #[vI p0, vI p1, vI p2, vI p3, vI p4, vI z2, vZ z5, vZ z8, vZ z11, vI z14, vI z17, vI z20, vR b628, vR o672, vZ ((false || z5) || z8), vZ (false || z11)] [(.int (1 : Int32)), (.int (b2i ((false || z5) || z8)))]))
                            exact J856 true r862.symm
                          · have r863 := r860.trans (if_neg hc861)
                            refine Go.back (fun t k => XS.ifYes Y854.here hx rfl (pc0 := 217) (pc' := 224) rfl (hb hby at_217) rfl ((if0 _ _).trans (teq (b2i_f hc861)).1) (by decide) (by decide) k) ?_
                            show Go _ _ _ _ (T854.setTop (mkF m 224 #[vI p0, vI p1, vI p2, vI p3, vI p4, vI z2, vZ z5, vZ z8, vZ z11, vI z14, vI z17, vI z20, vR b628, vR o672, vZ ((false || z5) || z8), vZ (false || z11)] [(.int (b2i ((false || z5) || z8)))]))
                            refine Go.back (fun t k => XS.iconst Y854.here hx rfl (hb hby at_224) k) ?_
                            show Go _ _ _ _ (T854.setTop (mkF m 225 #[vI p0, vI p1, vI p2, vI p3, vI p4, vI z2, vZ z5, vZ z8, vZ z11, vI z14, vI z17, vI z20, vR b628, vR o672, vZ ((false || z5) || z8), vZ (false || z11)] [(.int (0 : Int32)), (.int (b2i ((false || z5) || z8)))]))
                            exact J856 false r863.symm
                      have r864 : (if z11 = true then (List.set z756 ((((1 : Int32) * w) + (((z20).toUInt32 >>> ((6 : Int32) &&& 31).toUInt32).toInt32))).toNatClampNeg ((List.getD z756 ((((1 : Int32) * w) + (((z20).toUInt32 >>> ((6 : Int32) &&& 31).toUInt32).toInt32))).toNatClampNeg (0 : Int64)) ||| (((1 : Int64) <<< (z20 &&& 0x3f).toInt64)))) else z756) = (if z11 = true then (List.set z756 ((((1 : Int32) * w) + (((z20).toUInt32 >>> ((6 : Int32) &&& 31).toUInt32).toInt32))).toNatClampNeg ((List.getD z756 ((((1 : Int32) * w) + (((z20).toUInt32 >>> ((6 : Int32) &&& 31).toUInt32).toInt32))).toNatClampNeg (0 : Int64)) ||| (((1 : Int64) <<< (z20 &&& 0x3f).toInt64)))) else z756) := rfl
                      by_cases hc784 : z11 = true
                      · have r865 := r864.trans (if_pos hc784)
                        refine Go.back (fun t k => XS.ifNo Y761.here hx rfl (hb hby at_170) rfl ((if0 _ _).trans (feq (b2i_t hc784)).1) k) ?_
                        show Go _ _ _ _ (T761.setTop (mkF m 173 #[vI p0, vI p1, vI p2, vI p3, vI p4, vI z2, vZ z5, vZ z8, vZ z11, vI z14, vI z17, vI z20, vR b628, vR o672, uS, uS] []))
                        refine Go.back (fun t k => XS.aload Y761.here hx rfl (hb hby at_173) rfl rfl  k) ?_
                        refine Go.back (fun t k => XS.iload Y761.here hx rfl (hb hby at_175) rfl  k) ?_
                        show Go _ _ _ _ (T761.setTop (mkF m 177 #[vI p0, vI p1, vI p2, vI p3, vI p4, vI z2, vZ z5, vZ z8, vZ z11, vI z14, vI z17, vI z20, vR b628, vR o672, uS, uS] [(.int z20), (.ref o672)]))
                        obtain ⟨cq866, kq866, q866a, q866b, q866c⟩ := isOf hZ e761 F772
                        obtain ⟨_, _, ⟨T866, L866, k866, n866⟩, -, X866, ⟨Lc866, hQ866, l866, y866, z866⟩, st866⟩ := Y761.virtualBack hx (y := (⟨"com/example/onward/onward/check/RequirementRows$Part", "raise", "(I)V"⟩ : MethodName)) (z := (⟨"com/example/onward/onward/check/RequirementRows$Part", "raise", "(I)V"⟩ : MethodName)) hown (mvT hZ (wk hw 74 rfl)) (mvT hZ (wk hw 75 rfl)) (notFace_of_selects (args := #[]) (mvT hZ (wk hw 77 rfl))) (mvT hZ (wk hw 77 rfl)) (mvT hZ (wk hw 76 rfl)) (by decide) (backOf (W := 0) (rm53 l Z a0 hw [] o672 z20 b628 o643 w (1 : Int32) z756 (((1 : Int32) * w) + (((z20).toUInt32 >>> ((6 : Int32) &&& 31).toUInt32).toInt32)) h761 n0 F762 F775 F780 F765 F766 F774 g648 ne683 (Ne.symm ne649) (Ne.symm ne682) rfl (own_pl1 hq4 (own_dm hz20 hz11 hc784 hW3.2.2) rfl).1 (by rw [hrow760.1]; have := (own_pl1 hq4 (own_dm hz20 hz11 hc784 hW3.2.2) rfl).2; omega)) hZ (wk hw 78 rfl) (wk hw 30 rfl) (by decide) (by decide)) q866a q866c (g := (mkF m 177 #[vI p0, vI p1, vI p2, vI p3, vI p4, vI z2, vZ z5, vZ z8, vZ z11, vI z14, vI z17, vI z20, vR b628, vR o672, uS, uS] [(.int z20), (.ref o672)])) rfl (by rw [hml]; rfl) (Steps.refl _) (argsL := [(.int z20)]) (rest := []) (lenOf pd_4 rfl) rfl (by show 2 * 0 + _ ≤ _; exact Nat.le_of_eq rfl) (hb hby at_177) (fun _ _ => ⟨rfl, e761, (by decide : 6 + 0 ≤ _), (by decide : 55 + 0 ≤ _)⟩)
                        dsimp only [Pt.U, Pt.locs, Pt.cells, Pt.slots] at X866 l866 y866 z866 st866 hQ866
                        subst l866 y866 z866
                        obtain ⟨h866, e866⟩ : ∃ z, T866.heap = z := ⟨_, rfl⟩
                        rw [e866] at hQ866
                        obtain ⟨rfl, N866q, K866, F888⟩ := hQ866
                        obtain ⟨Lo866, Y866, N866⟩ := pk X866 (Fr.app N761 N866q)
                        have F867 := Nat.le_trans F762 K866.1
                        have F868 := Nat.le_trans F763 K866.1
                        have F869 := F764.keep K866
                        have F870 := F765.keep K866 (ninS ne649 nin0)
                        have F871 := F766.keep K866 (ninS ne649 nin0)
                        have F872 := F767.keep K866 (ninS ne649 nin0)
                        have F873 := F768.keep K866 (ninS ne649 nin0)
                        have F874 := F769.keep K866 (ninS ne649 nin0)
                        have F875 := F770.keep K866 (ninS ne649 nin0)
                        have F876 := F771.keep K866 (ninS (Ne.symm ne647) nin0)
                        have F877 := F772.keep K866
                        have F878 := F773.keep K866 (ninS (Ne.symm ne691) nin0)
                        have F879 := F775.keep K866 (ninS (Ne.symm ne683) nin0)
                        have F880 := F776.keep K866 (ninS (Ne.symm ne683) nin0)
                        have F881 := F777.keep K866 (ninS (Ne.symm ne683) nin0)
                        have F882 := F778.keep K866 (ninS (Ne.symm ne683) nin0)
                        have F883 := F779.keep K866 (ninS (Ne.symm ne683) nin0)
                        have F884 := F780.keep K866 (ninS (Ne.symm ne683) nin0)
                        have F885 := F781.keep K866 (ninS (Ne.symm ne683) nin0)
                        have F886 := F782.keep K866 (ninS (Ne.symm ne683) nin0)
                        have F887 := FG761.keep K866 (ninS (Ne.symm ne687) nin0)
                        refine Go.trans st866 ?_
                        show Go _ _ _ _ (T866.setTop (mkF m 180 #[vI p0, vI p1, vI p2, vI p3, vI p4, vI z2, vZ z5, vZ z8, vZ z11, vI z14, vI z17, vI z20, vR b628, vR o672, uS, uS] []))
                        exact J785 _ _ Y866 N866 h866 e866 (List.set z756 ((((1 : Int32) * w) + (((z20).toUInt32 >>> ((6 : Int32) &&& 31).toUInt32).toInt32))).toNatClampNeg ((List.getD z756 ((((1 : Int32) * w) + (((z20).toUInt32 >>> ((6 : Int32) &&& 31).toUInt32).toInt32))).toNatClampNeg (0 : Int64)) ||| (((1 : Int64) <<< (z20 &&& 0x3f).toInt64)))) r865.symm F867 F868 F869 F870 F871 F872 F873 F874 F875 F876 F877 F878 F879 F880 F881 F882 F883 F884 F885 F886 F887 F888
                      · have r889 := r864.trans (if_neg hc784)
                        refine Go.back (fun t k => XS.ifYes Y761.here hx rfl (pc0 := 170) (pc' := 180) rfl (hb hby at_170) rfl ((if0 _ _).trans (teq (b2i_f hc784)).1) (by decide) (by decide) k) ?_
                        show Go _ _ _ _ (T761.setTop (mkF m 180 #[vI p0, vI p1, vI p2, vI p3, vI p4, vI z2, vZ z5, vZ z8, vZ z11, vI z14, vI z17, vI z20, vR b628, vR o672, uS, uS] []))
                        exact J785 _ _ Y761 N761 h761 e761 z756 r889.symm F762 F763 F764 F765 F766 F767 F768 F769 F770 F771 F772 F773 F775 F776 F777 F778 F779 F780 F781 F782 FG761 F774
                    have r890 : (if z8 = true then (List.set z728 ((((0 : Int32) * w) + (((z17).toUInt32 >>> ((6 : Int32) &&& 31).toUInt32).toInt32))).toNatClampNeg ((List.getD z728 ((((0 : Int32) * w) + (((z17).toUInt32 >>> ((6 : Int32) &&& 31).toUInt32).toInt32))).toNatClampNeg (0 : Int64)) ||| (((1 : Int64) <<< (z17 &&& 0x3f).toInt64)))) else z728) = (if z8 = true then (List.set z728 ((((0 : Int32) * w) + (((z17).toUInt32 >>> ((6 : Int32) &&& 31).toUInt32).toInt32))).toNatClampNeg ((List.getD z728 ((((0 : Int32) * w) + (((z17).toUInt32 >>> ((6 : Int32) &&& 31).toUInt32).toInt32))).toNatClampNeg (0 : Int64)) ||| (((1 : Int64) <<< (z17 &&& 0x3f).toInt64)))) else z728) := rfl
                    by_cases hc733 : z8 = true
                    · have r891 := r890.trans (if_pos hc733)
                      refine Go.back (fun t k => XS.ifNo X731.here hx rfl (hb hby at_153) rfl ((if0 _ _).trans (feq (b2i_t hc733)).1) k) ?_
                      show Go _ _ _ _ (T731.setTop (mkF m 156 #[vI p0, vI p1, vI p2, vI p3, vI p4, vI z2, vZ z5, vZ z8, vZ z11, vI z14, vI z17, vI z20, vR b628, vR o672, uS, uS] []))
                      refine Go.back (fun t k => XS.aload X731.here hx rfl (hb hby at_156) rfl rfl  k) ?_
                      refine Go.back (fun t k => XS.iload X731.here hx rfl (hb hby at_158) rfl  k) ?_
                      show Go _ _ _ _ (T731.setTop (mkF m 160 #[vI p0, vI p1, vI p2, vI p3, vI p4, vI z2, vZ z5, vZ z8, vZ z11, vI z14, vI z17, vI z20, vR b628, vR o672, uS, uS] [(.int z17), (.ref o672)]))
                      obtain ⟨cq892, kq892, q892a, q892b, q892c⟩ := isOf hZ e731 F717
                      obtain ⟨_, _, ⟨T892, L892, k892, n892⟩, -, X892, ⟨Lc892, hQ892, l892, y892, z892⟩, st892⟩ := X731.virtualBack hx (y := (⟨"com/example/onward/onward/check/RequirementRows$Part", "raise", "(I)V"⟩ : MethodName)) (z := (⟨"com/example/onward/onward/check/RequirementRows$Part", "raise", "(I)V"⟩ : MethodName)) hown (mvT hZ (wk hw 74 rfl)) (mvT hZ (wk hw 75 rfl)) (notFace_of_selects (args := #[]) (mvT hZ (wk hw 77 rfl))) (mvT hZ (wk hw 77 rfl)) (mvT hZ (wk hw 76 rfl)) (by decide) (backOf (W := 0) (rm53 l Z a0 hw [] o672 z17 b628 o643 w (0 : Int32) z728 (((0 : Int32) * w) + (((z17).toUInt32 >>> ((6 : Int32) &&& 31).toUInt32).toInt32)) h730 n0 F707 F718 F723 F710 F711 F729 g648 ne683 (Ne.symm ne649) (Ne.symm ne682) rfl (own_pl0 hq4 (own_dm hz17 hz8 hc733 hW3.2.2) rfl).1 (by rw [hrow732.1]; have := (own_pl0 hq4 (own_dm hz17 hz8 hc733 hW3.2.2) rfl).2; omega)) hZ (wk hw 78 rfl) (wk hw 30 rfl) (by decide) (by decide)) q892a q892c (g := (mkF m 160 #[vI p0, vI p1, vI p2, vI p3, vI p4, vI z2, vZ z5, vZ z8, vZ z11, vI z14, vI z17, vI z20, vR b628, vR o672, uS, uS] [(.int z17), (.ref o672)])) rfl (by rw [hml]; rfl) (Steps.refl _) (argsL := [(.int z17)]) (rest := []) (lenOf pd_4 rfl) rfl (by show 2 * 0 + _ ≤ _; exact Nat.le_of_eq rfl) (hb hby at_160) (fun _ _ => ⟨rfl, e731, (by decide : 6 + 0 ≤ _), (by decide : 55 + 0 ≤ _)⟩)
                      dsimp only [Pt.U, Pt.locs, Pt.cells, Pt.slots] at X892 l892 y892 z892 st892 hQ892
                      subst l892 y892 z892
                      obtain ⟨h892, e892⟩ : ∃ z, T892.heap = z := ⟨_, rfl⟩
                      rw [e892] at hQ892
                      obtain ⟨rfl, N892q, K892, F914⟩ := hQ892
                      obtain ⟨Lo892, Y892, N892⟩ := pk X892 (Fr.app N731 N892q)
                      have F893 := Nat.le_trans F707 K892.1
                      have F894 := Nat.le_trans F708 K892.1
                      have F895 := F709.keep K892
                      have F896 := F710.keep K892 (ninS ne649 nin0)
                      have F897 := F711.keep K892 (ninS ne649 nin0)
                      have F898 := F712.keep K892 (ninS ne649 nin0)
                      have F899 := F713.keep K892 (ninS ne649 nin0)
                      have F900 := F714.keep K892 (ninS ne649 nin0)
                      have F901 := F715.keep K892 (ninS ne649 nin0)
                      have F902 := F716.keep K892 (ninS (Ne.symm ne647) nin0)
                      have F903 := F717.keep K892
                      have F904 := F718.keep K892 (ninS (Ne.symm ne683) nin0)
                      have F905 := F719.keep K892 (ninS (Ne.symm ne683) nin0)
                      have F906 := F720.keep K892 (ninS (Ne.symm ne683) nin0)
                      have F907 := F721.keep K892 (ninS (Ne.symm ne683) nin0)
                      have F908 := F722.keep K892 (ninS (Ne.symm ne683) nin0)
                      have F909 := F723.keep K892 (ninS (Ne.symm ne683) nin0)
                      have F910 := F724.keep K892 (ninS (Ne.symm ne683) nin0)
                      have F911 := F725.keep K892 (ninS (Ne.symm ne683) nin0)
                      have F912 := F726.keep K892 (ninS (Ne.symm ne687) nin0)
                      have F913 := F727.keep K892 (ninS (Ne.symm ne691) nin0)
                      refine Go.trans st892 ?_
                      show Go _ _ _ _ (T892.setTop (mkF m 163 #[vI p0, vI p1, vI p2, vI p3, vI p4, vI z2, vZ z5, vZ z8, vZ z11, vI z14, vI z17, vI z20, vR b628, vR o672, uS, uS] []))
                      exact J734 _ _ Y892 N892 h892 e892 (List.set z728 ((((0 : Int32) * w) + (((z17).toUInt32 >>> ((6 : Int32) &&& 31).toUInt32).toInt32))).toNatClampNeg ((List.getD z728 ((((0 : Int32) * w) + (((z17).toUInt32 >>> ((6 : Int32) &&& 31).toUInt32).toInt32))).toNatClampNeg (0 : Int64)) ||| (((1 : Int64) <<< (z17 &&& 0x3f).toInt64)))) r891.symm F893 F894 F895 F896 F897 F898 F899 F900 F901 F902 F903 F904 F905 F906 F907 F908 F909 F910 F911 F912 F913 F914
                    · have r915 := r890.trans (if_neg hc733)
                      refine Go.back (fun t k => XS.ifYes X731.here hx rfl (pc0 := 153) (pc' := 163) rfl (hb hby at_153) rfl ((if0 _ _).trans (teq (b2i_f hc733)).1) (by decide) (by decide) k) ?_
                      show Go _ _ _ _ (T731.setTop (mkF m 163 #[vI p0, vI p1, vI p2, vI p3, vI p4, vI z2, vZ z5, vZ z8, vZ z11, vI z14, vI z17, vI z20, vR b628, vR o672, uS, uS] []))
                      exact J734 _ _ X731 N731 h730 e731 z728 r915.symm F707 F708 F709 F710 F711 F712 F713 F714 F715 F716 F717 F718 F719 F720 F721 F722 F723 F724 F725 F726 F727 F729
                  have r916 : (if z5 = true then (List.set (List.replicate ((2 : Int32) * w).toNatClampNeg (0 : Int64)) ((((0 : Int32) * w) + (((z14).toUInt32 >>> ((6 : Int32) &&& 31).toUInt32).toInt32))).toNatClampNeg ((List.getD (List.replicate ((2 : Int32) * w).toNatClampNeg (0 : Int64)) ((((0 : Int32) * w) + (((z14).toUInt32 >>> ((6 : Int32) &&& 31).toUInt32).toInt32))).toNatClampNeg (0 : Int64)) ||| (((1 : Int64) <<< (z14 &&& 0x3f).toInt64)))) else (List.replicate ((2 : Int32) * w).toNatClampNeg (0 : Int64))) = (if z5 = true then (List.set (List.replicate ((2 : Int32) * w).toNatClampNeg (0 : Int64)) ((((0 : Int32) * w) + (((z14).toUInt32 >>> ((6 : Int32) &&& 31).toUInt32).toInt32))).toNatClampNeg ((List.getD (List.replicate ((2 : Int32) * w).toNatClampNeg (0 : Int64)) ((((0 : Int32) * w) + (((z14).toUInt32 >>> ((6 : Int32) &&& 31).toUInt32).toInt32))).toNatClampNeg (0 : Int64)) ||| (((1 : Int64) <<< (z14 &&& 0x3f).toInt64)))) else (List.replicate ((2 : Int32) * w).toNatClampNeg (0 : Int64))) := rfl
                  by_cases hc705 : z5 = true
                  · have r917 := r916.trans (if_pos hc705)
                    refine Go.back (fun t k => XS.ifNo Y660.here hx rfl (hb hby at_141) rfl ((if0 _ _).trans (feq (b2i_t hc705)).1) k) ?_
                    show Go _ _ _ _ (T660.setTop (mkF m 144 #[vI p0, vI p1, vI p2, vI p3, vI p4, vI z2, vZ z5, vZ z8, vZ z11, vI z14, vI z17, vI z20, vR b628, vR o672, uS, uS] []))
                    refine Go.back (fun t k => XS.aload Y660.here hx rfl (hb hby at_144) rfl rfl  k) ?_
                    refine Go.back (fun t k => XS.iload Y660.here hx rfl (hb hby at_146) rfl  k) ?_
                    show Go _ _ _ _ (T660.setTop (mkF m 148 #[vI p0, vI p1, vI p2, vI p3, vI p4, vI z2, vZ z5, vZ z8, vZ z11, vI z14, vI z17, vI z20, vR b628, vR o672, uS, uS] [(.int z14), (.ref o672)]))
                    obtain ⟨cq918, kq918, q918a, q918b, q918c⟩ := isOf hZ e660 F694
                    obtain ⟨_, _, ⟨T918, L918, k918, n918⟩, -, X918, ⟨Lc918, hQ918, l918, y918, z918⟩, st918⟩ := Y660.virtualBack hx (y := (⟨"com/example/onward/onward/check/RequirementRows$Part", "raise", "(I)V"⟩ : MethodName)) (z := (⟨"com/example/onward/onward/check/RequirementRows$Part", "raise", "(I)V"⟩ : MethodName)) hown (mvT hZ (wk hw 74 rfl)) (mvT hZ (wk hw 75 rfl)) (notFace_of_selects (args := #[]) (mvT hZ (wk hw 77 rfl))) (mvT hZ (wk hw 77 rfl)) (mvT hZ (wk hw 76 rfl)) (by decide) (backOf (W := 0) (rm53 l Z a0 hw [] o672 z14 b628 o643 w (0 : Int32) (List.replicate ((2 : Int32) * w).toNatClampNeg (0 : Int64)) (((0 : Int32) * w) + (((z14).toUInt32 >>> ((6 : Int32) &&& 31).toUInt32).toInt32)) h660 n0 F661 F695 F700 F664 F665 F670 g648 ne683 (Ne.symm ne649) (Ne.symm ne682) rfl (own_pl0 hq4 (own_dm hz14 hz5 hc705 hW3.2.2) rfl).1 (by rw [hrow0.1]; have := (own_pl0 hq4 (own_dm hz14 hz5 hc705 hW3.2.2) rfl).2; omega)) hZ (wk hw 78 rfl) (wk hw 30 rfl) (by decide) (by decide)) q918a q918c (g := (mkF m 148 #[vI p0, vI p1, vI p2, vI p3, vI p4, vI z2, vZ z5, vZ z8, vZ z11, vI z14, vI z17, vI z20, vR b628, vR o672, uS, uS] [(.int z14), (.ref o672)])) rfl (by rw [hml]; rfl) (Steps.refl _) (argsL := [(.int z14)]) (rest := []) (lenOf pd_4 rfl) rfl (by show 2 * 0 + _ ≤ _; exact Nat.le_of_eq rfl) (hb hby at_148) (fun _ _ => ⟨rfl, e660, (by decide : 6 + 0 ≤ _), (by decide : 55 + 0 ≤ _)⟩)
                    dsimp only [Pt.U, Pt.locs, Pt.cells, Pt.slots] at X918 l918 y918 z918 st918 hQ918
                    subst l918 y918 z918
                    obtain ⟨h918, e918⟩ : ∃ z, T918.heap = z := ⟨_, rfl⟩
                    rw [e918] at hQ918
                    obtain ⟨rfl, N918q, K918, F940⟩ := hQ918
                    obtain ⟨Lo918, Y918, N918⟩ := pk X918 (Fr.app N660 N918q)
                    have F919 := Nat.le_trans F661 K918.1
                    have F920 := Nat.le_trans F662 K918.1
                    have F921 := F663.keep K918
                    have F922 := F664.keep K918 (ninS ne649 nin0)
                    have F923 := F665.keep K918 (ninS ne649 nin0)
                    have F924 := F666.keep K918 (ninS ne649 nin0)
                    have F925 := F667.keep K918 (ninS ne649 nin0)
                    have F926 := F668.keep K918 (ninS ne649 nin0)
                    have F927 := F669.keep K918 (ninS ne649 nin0)
                    have F928 := F671.keep K918 (ninS (Ne.symm ne647) nin0)
                    have F929 := F694.keep K918
                    have F930 := F695.keep K918 (ninS (Ne.symm ne683) nin0)
                    have F931 := F696.keep K918 (ninS (Ne.symm ne683) nin0)
                    have F932 := F697.keep K918 (ninS (Ne.symm ne683) nin0)
                    have F933 := F698.keep K918 (ninS (Ne.symm ne683) nin0)
                    have F934 := F699.keep K918 (ninS (Ne.symm ne683) nin0)
                    have F935 := F700.keep K918 (ninS (Ne.symm ne683) nin0)
                    have F936 := F701.keep K918 (ninS (Ne.symm ne683) nin0)
                    have F937 := F702.keep K918 (ninS (Ne.symm ne683) nin0)
                    have F938 := F703.keep K918 (ninS (Ne.symm ne687) nin0)
                    have F939 := F704.keep K918 (ninS (Ne.symm ne691) nin0)
                    refine Go.trans st918 ?_
                    show Go _ _ _ _ (T918.setTop (mkF m 151 #[vI p0, vI p1, vI p2, vI p3, vI p4, vI z2, vZ z5, vZ z8, vZ z11, vI z14, vI z17, vI z20, vR b628, vR o672, uS, uS] []))
                    exact J706 _ _ Y918 N918 h918 e918 (List.set (List.replicate ((2 : Int32) * w).toNatClampNeg (0 : Int64)) ((((0 : Int32) * w) + (((z14).toUInt32 >>> ((6 : Int32) &&& 31).toUInt32).toInt32))).toNatClampNeg ((List.getD (List.replicate ((2 : Int32) * w).toNatClampNeg (0 : Int64)) ((((0 : Int32) * w) + (((z14).toUInt32 >>> ((6 : Int32) &&& 31).toUInt32).toInt32))).toNatClampNeg (0 : Int64)) ||| (((1 : Int64) <<< (z14 &&& 0x3f).toInt64)))) r917.symm F919 F920 F921 F922 F923 F924 F925 F926 F927 F928 F929 F930 F931 F932 F933 F934 F935 F936 F937 F938 F939 F940
                  · have r941 := r916.trans (if_neg hc705)
                    refine Go.back (fun t k => XS.ifYes Y660.here hx rfl (pc0 := 141) (pc' := 151) rfl (hb hby at_141) rfl ((if0 _ _).trans (teq (b2i_f hc705)).1) (by decide) (by decide) k) ?_
                    show Go _ _ _ _ (T660.setTop (mkF m 151 #[vI p0, vI p1, vI p2, vI p3, vI p4, vI z2, vZ z5, vZ z8, vZ z11, vI z14, vI z17, vI z20, vR b628, vR o672, uS, uS] []))
                    exact J706 _ _ Y660 N660 h660 e660 (List.replicate ((2 : Int32) * w).toNatClampNeg (0 : Int64)) r941.symm F661 F662 F663 F664 F665 F666 F667 F668 F669 F671 F694 F695 F696 F697 F698 F699 F700 F701 F702 F703 F704 F670
              have r942 : (if (0 : Int32) < z2 then ((p3 &&& (2147483647 : Int32)) % z2) else (0 : Int32)) = (if (0 : Int32) < z2 then ((p3 &&& (2147483647 : Int32)) % z2) else (0 : Int32)) := rfl
              by_cases hc18 : (0 : Int32) < z2
              · have r943 := r942.trans (if_pos hc18)
                refine Go.back (fun t k => XS.ifNo X0.here hx rfl (hb hby at_102) rfl ((if0 _ _).trans (tlt hc18).2.2.2) k) ?_
                show Go _ _ _ _ (s₁.setTop (mkF m 105 #[vI p0, vI p1, vI p2, vI p3, vI p4, vI z2, vZ z5, vZ z8, vZ z11, vI z14, vI z17, uS, uS, uS, uS, uS] []))
                refine Go.back (fun t k => XS.iloadN X0.here hx rfl (hb hby at_105) rfl  k) ?_
                show Go _ _ _ _ (s₁.setTop (mkF m 106 #[vI p0, vI p1, vI p2, vI p3, vI p4, vI z2, vZ z5, vZ z8, vZ z11, vI z14, vI z17, uS, uS, uS, uS, uS] [(.int p3)]))
                refine Go.back (fun t k => X0.ldcInt hx hown (mvT hZ (wk hw 73 rfl)) (g := (mkF m 106 #[vI p0, vI p1, vI p2, vI p3, vI p4, vI z2, vZ z5, vZ z8, vZ z11, vI z14, vI z17, uS, uS, uS, uS, uS] [(.int p3)])) rfl (hb hby at_106) t k) ?_
                show Go _ _ _ _ (s₁.setTop (mkF m 108 #[vI p0, vI p1, vI p2, vI p3, vI p4, vI z2, vZ z5, vZ z8, vZ z11, vI z14, vI z17, uS, uS, uS, uS, uS] [(.int (2147483647 : Int32)), (.int p3)]))
                refine Go.back (fun t k => XS.iand X0.here hx rfl (hb hby at_108) rfl k) ?_
                refine Go.back (fun t k => XS.iload X0.here hx rfl (hb hby at_109) rfl  k) ?_
                show Go _ _ _ _ (s₁.setTop (mkF m 111 #[vI p0, vI p1, vI p2, vI p3, vI p4, vI z2, vZ z5, vZ z8, vZ z11, vI z14, vI z17, uS, uS, uS, uS, uS] [(.int z2), (.int (p3 &&& (2147483647 : Int32)))]))
                refine Go.back (fun t k => iremM X0 hx rfl (hb hby at_111) rfl (own_nz hc18) k) ?_
                show Go _ _ _ _ (s₁.setTop (mkF m 112 #[vI p0, vI p1, vI p2, vI p3, vI p4, vI z2, vZ z5, vZ z8, vZ z11, vI z14, vI z17, uS, uS, uS, uS, uS] [(.int ((p3 &&& (2147483647 : Int32)) % z2))]))
                refine Go.back (fun t k => XS.goto X0.here hx rfl (pc0 := 112) (pc' := 116) rfl (hb hby at_112) (by decide) (by decide) k) ?_
                show Go _ _ _ _ (s₁.setTop (mkF m 116 #[vI p0, vI p1, vI p2, vI p3, vI p4, vI z2, vZ z5, vZ z8, vZ z11, vI z14, vI z17, uS, uS, uS, uS, uS] [(.int ((p3 &&& (2147483647 : Int32)) % z2))]))
                exact J19 ((p3 &&& (2147483647 : Int32)) % z2) r943.symm
              · have r944 := r942.trans (if_neg hc18)
                refine Go.back (fun t k => XS.ifYes X0.here hx rfl (pc0 := 102) (pc' := 115) rfl (hb hby at_102) rfl ((if0 _ _).trans (flt hc18).2.2.2) (by decide) (by decide) k) ?_
                show Go _ _ _ _ (s₁.setTop (mkF m 115 #[vI p0, vI p1, vI p2, vI p3, vI p4, vI z2, vZ z5, vZ z8, vZ z11, vI z14, vI z17, uS, uS, uS, uS, uS] []))
                refine Go.back (fun t k => XS.iconst X0.here hx rfl (hb hby at_115) k) ?_
                show Go _ _ _ _ (s₁.setTop (mkF m 116 #[vI p0, vI p1, vI p2, vI p3, vI p4, vI z2, vZ z5, vZ z8, vZ z11, vI z14, vI z17, uS, uS, uS, uS, uS] [(.int (0 : Int32))]))
                exact J19 (0 : Int32) r944.symm
            have r945 : (if (0 : Int32) < z2 then ((p2 &&& (2147483647 : Int32)) % z2) else (0 : Int32)) = (if (0 : Int32) < z2 then ((p2 &&& (2147483647 : Int32)) % z2) else (0 : Int32)) := rfl
            by_cases hc15 : (0 : Int32) < z2
            · have r946 := r945.trans (if_pos hc15)
              refine Go.back (fun t k => XS.ifNo X0.here hx rfl (hb hby at_84) rfl ((if0 _ _).trans (tlt hc15).2.2.2) k) ?_
              show Go _ _ _ _ (s₁.setTop (mkF m 87 #[vI p0, vI p1, vI p2, vI p3, vI p4, vI z2, vZ z5, vZ z8, vZ z11, vI z14, uS, uS, uS, uS, uS, uS] []))
              refine Go.back (fun t k => XS.iloadN X0.here hx rfl (hb hby at_87) rfl  k) ?_
              show Go _ _ _ _ (s₁.setTop (mkF m 88 #[vI p0, vI p1, vI p2, vI p3, vI p4, vI z2, vZ z5, vZ z8, vZ z11, vI z14, uS, uS, uS, uS, uS, uS] [(.int p2)]))
              refine Go.back (fun t k => X0.ldcInt hx hown (mvT hZ (wk hw 73 rfl)) (g := (mkF m 88 #[vI p0, vI p1, vI p2, vI p3, vI p4, vI z2, vZ z5, vZ z8, vZ z11, vI z14, uS, uS, uS, uS, uS, uS] [(.int p2)])) rfl (hb hby at_88) t k) ?_
              show Go _ _ _ _ (s₁.setTop (mkF m 90 #[vI p0, vI p1, vI p2, vI p3, vI p4, vI z2, vZ z5, vZ z8, vZ z11, vI z14, uS, uS, uS, uS, uS, uS] [(.int (2147483647 : Int32)), (.int p2)]))
              refine Go.back (fun t k => XS.iand X0.here hx rfl (hb hby at_90) rfl k) ?_
              refine Go.back (fun t k => XS.iload X0.here hx rfl (hb hby at_91) rfl  k) ?_
              show Go _ _ _ _ (s₁.setTop (mkF m 93 #[vI p0, vI p1, vI p2, vI p3, vI p4, vI z2, vZ z5, vZ z8, vZ z11, vI z14, uS, uS, uS, uS, uS, uS] [(.int z2), (.int (p2 &&& (2147483647 : Int32)))]))
              refine Go.back (fun t k => iremM X0 hx rfl (hb hby at_93) rfl (own_nz hc15) k) ?_
              show Go _ _ _ _ (s₁.setTop (mkF m 94 #[vI p0, vI p1, vI p2, vI p3, vI p4, vI z2, vZ z5, vZ z8, vZ z11, vI z14, uS, uS, uS, uS, uS, uS] [(.int ((p2 &&& (2147483647 : Int32)) % z2))]))
              refine Go.back (fun t k => XS.goto X0.here hx rfl (pc0 := 94) (pc' := 98) rfl (hb hby at_94) (by decide) (by decide) k) ?_
              show Go _ _ _ _ (s₁.setTop (mkF m 98 #[vI p0, vI p1, vI p2, vI p3, vI p4, vI z2, vZ z5, vZ z8, vZ z11, vI z14, uS, uS, uS, uS, uS, uS] [(.int ((p2 &&& (2147483647 : Int32)) % z2))]))
              exact J16 ((p2 &&& (2147483647 : Int32)) % z2) r946.symm
            · have r947 := r945.trans (if_neg hc15)
              refine Go.back (fun t k => XS.ifYes X0.here hx rfl (pc0 := 84) (pc' := 97) rfl (hb hby at_84) rfl ((if0 _ _).trans (flt hc15).2.2.2) (by decide) (by decide) k) ?_
              show Go _ _ _ _ (s₁.setTop (mkF m 97 #[vI p0, vI p1, vI p2, vI p3, vI p4, vI z2, vZ z5, vZ z8, vZ z11, vI z14, uS, uS, uS, uS, uS, uS] []))
              refine Go.back (fun t k => XS.iconst X0.here hx rfl (hb hby at_97) k) ?_
              show Go _ _ _ _ (s₁.setTop (mkF m 98 #[vI p0, vI p1, vI p2, vI p3, vI p4, vI z2, vZ z5, vZ z8, vZ z11, vI z14, uS, uS, uS, uS, uS, uS] [(.int (0 : Int32))]))
              exact J16 (0 : Int32) r947.symm
          have r948 : (if (0 : Int32) < z2 then ((p1 &&& (2147483647 : Int32)) % z2) else (0 : Int32)) = (if (0 : Int32) < z2 then ((p1 &&& (2147483647 : Int32)) % z2) else (0 : Int32)) := rfl
          by_cases hc12 : (0 : Int32) < z2
          · have r949 := r948.trans (if_pos hc12)
            refine Go.back (fun t k => XS.ifNo X0.here hx rfl (hb hby at_66) rfl ((if0 _ _).trans (tlt hc12).2.2.2) k) ?_
            show Go _ _ _ _ (s₁.setTop (mkF m 69 #[vI p0, vI p1, vI p2, vI p3, vI p4, vI z2, vZ z5, vZ z8, vZ z11, uS, uS, uS, uS, uS, uS, uS] []))
            refine Go.back (fun t k => XS.iloadN X0.here hx rfl (hb hby at_69) rfl  k) ?_
            show Go _ _ _ _ (s₁.setTop (mkF m 70 #[vI p0, vI p1, vI p2, vI p3, vI p4, vI z2, vZ z5, vZ z8, vZ z11, uS, uS, uS, uS, uS, uS, uS] [(.int p1)]))
            refine Go.back (fun t k => X0.ldcInt hx hown (mvT hZ (wk hw 73 rfl)) (g := (mkF m 70 #[vI p0, vI p1, vI p2, vI p3, vI p4, vI z2, vZ z5, vZ z8, vZ z11, uS, uS, uS, uS, uS, uS, uS] [(.int p1)])) rfl (hb hby at_70) t k) ?_
            show Go _ _ _ _ (s₁.setTop (mkF m 72 #[vI p0, vI p1, vI p2, vI p3, vI p4, vI z2, vZ z5, vZ z8, vZ z11, uS, uS, uS, uS, uS, uS, uS] [(.int (2147483647 : Int32)), (.int p1)]))
            refine Go.back (fun t k => XS.iand X0.here hx rfl (hb hby at_72) rfl k) ?_
            refine Go.back (fun t k => XS.iload X0.here hx rfl (hb hby at_73) rfl  k) ?_
            show Go _ _ _ _ (s₁.setTop (mkF m 75 #[vI p0, vI p1, vI p2, vI p3, vI p4, vI z2, vZ z5, vZ z8, vZ z11, uS, uS, uS, uS, uS, uS, uS] [(.int z2), (.int (p1 &&& (2147483647 : Int32)))]))
            refine Go.back (fun t k => iremM X0 hx rfl (hb hby at_75) rfl (own_nz hc12) k) ?_
            show Go _ _ _ _ (s₁.setTop (mkF m 76 #[vI p0, vI p1, vI p2, vI p3, vI p4, vI z2, vZ z5, vZ z8, vZ z11, uS, uS, uS, uS, uS, uS, uS] [(.int ((p1 &&& (2147483647 : Int32)) % z2))]))
            refine Go.back (fun t k => XS.goto X0.here hx rfl (pc0 := 76) (pc' := 80) rfl (hb hby at_76) (by decide) (by decide) k) ?_
            show Go _ _ _ _ (s₁.setTop (mkF m 80 #[vI p0, vI p1, vI p2, vI p3, vI p4, vI z2, vZ z5, vZ z8, vZ z11, uS, uS, uS, uS, uS, uS, uS] [(.int ((p1 &&& (2147483647 : Int32)) % z2))]))
            exact J13 ((p1 &&& (2147483647 : Int32)) % z2) r949.symm
          · have r950 := r948.trans (if_neg hc12)
            refine Go.back (fun t k => XS.ifYes X0.here hx rfl (pc0 := 66) (pc' := 79) rfl (hb hby at_66) rfl ((if0 _ _).trans (flt hc12).2.2.2) (by decide) (by decide) k) ?_
            show Go _ _ _ _ (s₁.setTop (mkF m 79 #[vI p0, vI p1, vI p2, vI p3, vI p4, vI z2, vZ z5, vZ z8, vZ z11, uS, uS, uS, uS, uS, uS, uS] []))
            refine Go.back (fun t k => XS.iconst X0.here hx rfl (hb hby at_79) k) ?_
            show Go _ _ _ _ (s₁.setTop (mkF m 80 #[vI p0, vI p1, vI p2, vI p3, vI p4, vI z2, vZ z5, vZ z8, vZ z11, uS, uS, uS, uS, uS, uS, uS] [(.int (0 : Int32))]))
            exact J13 (0 : Int32) r950.symm
        have r951 : (if (0 : Int32) < z2 then (if (p4 &&& (4 : Int32)) = (0 : Int32) then false else true) else false) = (if (0 : Int32) < z2 then (if (p4 &&& (4 : Int32)) = (0 : Int32) then false else true) else false) := rfl
        by_cases hc9 : (0 : Int32) < z2
        · have r952 := r951.trans (if_pos hc9)
          refine Go.back (fun t k => XS.ifNo X0.here hx rfl (hb hby at_47) rfl ((if0 _ _).trans (tlt hc9).2.2.2) k) ?_
          show Go _ _ _ _ (s₁.setTop (mkF m 50 #[vI p0, vI p1, vI p2, vI p3, vI p4, vI z2, vZ z5, vZ z8, uS, uS, uS, uS, uS, uS, uS, uS] []))
          refine Go.back (fun t k => XS.iload X0.here hx rfl (hb hby at_50) rfl  k) ?_
          refine Go.back (fun t k => XS.iconst X0.here hx rfl (hb hby at_52) k) ?_
          refine Go.back (fun t k => XS.iand X0.here hx rfl (hb hby at_53) rfl k) ?_
          show Go _ _ _ _ (s₁.setTop (mkF m 54 #[vI p0, vI p1, vI p2, vI p3, vI p4, vI z2, vZ z5, vZ z8, uS, uS, uS, uS, uS, uS, uS, uS] [(.int (p4 &&& (4 : Int32)))]))
          by_cases hc953 : (p4 &&& (4 : Int32)) = (0 : Int32)
          · have r954 := r952.trans (if_pos hc953)
            refine Go.back (fun t k => XS.ifYes X0.here hx rfl (pc0 := 54) (pc' := 61) rfl (hb hby at_54) rfl ((if0 _ _).trans (teq hc953).1) (by decide) (by decide) k) ?_
            show Go _ _ _ _ (s₁.setTop (mkF m 61 #[vI p0, vI p1, vI p2, vI p3, vI p4, vI z2, vZ z5, vZ z8, uS, uS, uS, uS, uS, uS, uS, uS] []))
            refine Go.back (fun t k => XS.iconst X0.here hx rfl (hb hby at_61) k) ?_
            show Go _ _ _ _ (s₁.setTop (mkF m 62 #[vI p0, vI p1, vI p2, vI p3, vI p4, vI z2, vZ z5, vZ z8, uS, uS, uS, uS, uS, uS, uS, uS] [(.int (0 : Int32))]))
            exact J10 false r954.symm
          · have r955 := r952.trans (if_neg hc953)
            refine Go.back (fun t k => XS.ifNo X0.here hx rfl (hb hby at_54) rfl ((if0 _ _).trans (feq hc953).1) k) ?_
            show Go _ _ _ _ (s₁.setTop (mkF m 57 #[vI p0, vI p1, vI p2, vI p3, vI p4, vI z2, vZ z5, vZ z8, uS, uS, uS, uS, uS, uS, uS, uS] []))
            refine Go.back (fun t k => XS.iconst X0.here hx rfl (hb hby at_57) k) ?_
            refine Go.back (fun t k => XS.goto X0.here hx rfl (pc0 := 58) (pc' := 62) rfl (hb hby at_58) (by decide) (by decide) k) ?_
            show Go _ _ _ _ (s₁.setTop (mkF m 62 #[vI p0, vI p1, vI p2, vI p3, vI p4, vI z2, vZ z5, vZ z8, uS, uS, uS, uS, uS, uS, uS, uS] [(.int (1 : Int32))]))
            exact J10 true r955.symm
        · have r956 := r951.trans (if_neg hc9)
          refine Go.back (fun t k => XS.ifYes X0.here hx rfl (pc0 := 47) (pc' := 61) rfl (hb hby at_47) rfl ((if0 _ _).trans (flt hc9).2.2.2) (by decide) (by decide) k) ?_
          show Go _ _ _ _ (s₁.setTop (mkF m 61 #[vI p0, vI p1, vI p2, vI p3, vI p4, vI z2, vZ z5, vZ z8, uS, uS, uS, uS, uS, uS, uS, uS] []))
          refine Go.back (fun t k => XS.iconst X0.here hx rfl (hb hby at_61) k) ?_
          show Go _ _ _ _ (s₁.setTop (mkF m 62 #[vI p0, vI p1, vI p2, vI p3, vI p4, vI z2, vZ z5, vZ z8, uS, uS, uS, uS, uS, uS, uS, uS] [(.int (0 : Int32))]))
          exact J10 false r956.symm
      have r957 : (if (0 : Int32) < z2 then (if (p4 &&& (2 : Int32)) = (0 : Int32) then false else true) else false) = (if (0 : Int32) < z2 then (if (p4 &&& (2 : Int32)) = (0 : Int32) then false else true) else false) := rfl
      by_cases hc6 : (0 : Int32) < z2
      · have r958 := r957.trans (if_pos hc6)
        refine Go.back (fun t k => XS.ifNo X0.here hx rfl (hb hby at_28) rfl ((if0 _ _).trans (tlt hc6).2.2.2) k) ?_
        show Go _ _ _ _ (s₁.setTop (mkF m 31 #[vI p0, vI p1, vI p2, vI p3, vI p4, vI z2, vZ z5, uS, uS, uS, uS, uS, uS, uS, uS, uS] []))
        refine Go.back (fun t k => XS.iload X0.here hx rfl (hb hby at_31) rfl  k) ?_
        refine Go.back (fun t k => XS.iconst X0.here hx rfl (hb hby at_33) k) ?_
        refine Go.back (fun t k => XS.iand X0.here hx rfl (hb hby at_34) rfl k) ?_
        show Go _ _ _ _ (s₁.setTop (mkF m 35 #[vI p0, vI p1, vI p2, vI p3, vI p4, vI z2, vZ z5, uS, uS, uS, uS, uS, uS, uS, uS, uS] [(.int (p4 &&& (2 : Int32)))]))
        by_cases hc959 : (p4 &&& (2 : Int32)) = (0 : Int32)
        · have r960 := r958.trans (if_pos hc959)
          refine Go.back (fun t k => XS.ifYes X0.here hx rfl (pc0 := 35) (pc' := 42) rfl (hb hby at_35) rfl ((if0 _ _).trans (teq hc959).1) (by decide) (by decide) k) ?_
          show Go _ _ _ _ (s₁.setTop (mkF m 42 #[vI p0, vI p1, vI p2, vI p3, vI p4, vI z2, vZ z5, uS, uS, uS, uS, uS, uS, uS, uS, uS] []))
          refine Go.back (fun t k => XS.iconst X0.here hx rfl (hb hby at_42) k) ?_
          show Go _ _ _ _ (s₁.setTop (mkF m 43 #[vI p0, vI p1, vI p2, vI p3, vI p4, vI z2, vZ z5, uS, uS, uS, uS, uS, uS, uS, uS, uS] [(.int (0 : Int32))]))
          exact J7 false r960.symm
        · have r961 := r958.trans (if_neg hc959)
          refine Go.back (fun t k => XS.ifNo X0.here hx rfl (hb hby at_35) rfl ((if0 _ _).trans (feq hc959).1) k) ?_
          show Go _ _ _ _ (s₁.setTop (mkF m 38 #[vI p0, vI p1, vI p2, vI p3, vI p4, vI z2, vZ z5, uS, uS, uS, uS, uS, uS, uS, uS, uS] []))
          refine Go.back (fun t k => XS.iconst X0.here hx rfl (hb hby at_38) k) ?_
          refine Go.back (fun t k => XS.goto X0.here hx rfl (pc0 := 39) (pc' := 43) rfl (hb hby at_39) (by decide) (by decide) k) ?_
          show Go _ _ _ _ (s₁.setTop (mkF m 43 #[vI p0, vI p1, vI p2, vI p3, vI p4, vI z2, vZ z5, uS, uS, uS, uS, uS, uS, uS, uS, uS] [(.int (1 : Int32))]))
          exact J7 true r961.symm
      · have r962 := r957.trans (if_neg hc6)
        refine Go.back (fun t k => XS.ifYes X0.here hx rfl (pc0 := 28) (pc' := 42) rfl (hb hby at_28) rfl ((if0 _ _).trans (flt hc6).2.2.2) (by decide) (by decide) k) ?_
        show Go _ _ _ _ (s₁.setTop (mkF m 42 #[vI p0, vI p1, vI p2, vI p3, vI p4, vI z2, vZ z5, uS, uS, uS, uS, uS, uS, uS, uS, uS] []))
        refine Go.back (fun t k => XS.iconst X0.here hx rfl (hb hby at_42) k) ?_
        show Go _ _ _ _ (s₁.setTop (mkF m 43 #[vI p0, vI p1, vI p2, vI p3, vI p4, vI z2, vZ z5, uS, uS, uS, uS, uS, uS, uS, uS, uS] [(.int (0 : Int32))]))
        exact J7 false r962.symm
    have r963 : (if (0 : Int32) < z2 then (if (p4 &&& (1 : Int32)) = (0 : Int32) then false else true) else false) = (if (0 : Int32) < z2 then (if (p4 &&& (1 : Int32)) = (0 : Int32) then false else true) else false) := rfl
    by_cases hc3 : (0 : Int32) < z2
    · have r964 := r963.trans (if_pos hc3)
      refine Go.back (fun t k => XS.ifNo X0.here hx rfl (hb hby at_9) rfl ((if0 _ _).trans (tlt hc3).2.2.2) k) ?_
      show Go _ _ _ _ (s₁.setTop (mkF m 12 #[vI p0, vI p1, vI p2, vI p3, vI p4, vI z2, uS, uS, uS, uS, uS, uS, uS, uS, uS, uS] []))
      refine Go.back (fun t k => XS.iload X0.here hx rfl (hb hby at_12) rfl  k) ?_
      refine Go.back (fun t k => XS.iconst X0.here hx rfl (hb hby at_14) k) ?_
      refine Go.back (fun t k => XS.iand X0.here hx rfl (hb hby at_15) rfl k) ?_
      show Go _ _ _ _ (s₁.setTop (mkF m 16 #[vI p0, vI p1, vI p2, vI p3, vI p4, vI z2, uS, uS, uS, uS, uS, uS, uS, uS, uS, uS] [(.int (p4 &&& (1 : Int32)))]))
      by_cases hc965 : (p4 &&& (1 : Int32)) = (0 : Int32)
      · have r966 := r964.trans (if_pos hc965)
        refine Go.back (fun t k => XS.ifYes X0.here hx rfl (pc0 := 16) (pc' := 23) rfl (hb hby at_16) rfl ((if0 _ _).trans (teq hc965).1) (by decide) (by decide) k) ?_
        show Go _ _ _ _ (s₁.setTop (mkF m 23 #[vI p0, vI p1, vI p2, vI p3, vI p4, vI z2, uS, uS, uS, uS, uS, uS, uS, uS, uS, uS] []))
        refine Go.back (fun t k => XS.iconst X0.here hx rfl (hb hby at_23) k) ?_
        show Go _ _ _ _ (s₁.setTop (mkF m 24 #[vI p0, vI p1, vI p2, vI p3, vI p4, vI z2, uS, uS, uS, uS, uS, uS, uS, uS, uS, uS] [(.int (0 : Int32))]))
        exact J4 false r966.symm
      · have r967 := r964.trans (if_neg hc965)
        refine Go.back (fun t k => XS.ifNo X0.here hx rfl (hb hby at_16) rfl ((if0 _ _).trans (feq hc965).1) k) ?_
        show Go _ _ _ _ (s₁.setTop (mkF m 19 #[vI p0, vI p1, vI p2, vI p3, vI p4, vI z2, uS, uS, uS, uS, uS, uS, uS, uS, uS, uS] []))
        refine Go.back (fun t k => XS.iconst X0.here hx rfl (hb hby at_19) k) ?_
        refine Go.back (fun t k => XS.goto X0.here hx rfl (pc0 := 20) (pc' := 24) rfl (hb hby at_20) (by decide) (by decide) k) ?_
        show Go _ _ _ _ (s₁.setTop (mkF m 24 #[vI p0, vI p1, vI p2, vI p3, vI p4, vI z2, uS, uS, uS, uS, uS, uS, uS, uS, uS, uS] [(.int (1 : Int32))]))
        exact J4 true r967.symm
    · have r968 := r963.trans (if_neg hc3)
      refine Go.back (fun t k => XS.ifYes X0.here hx rfl (pc0 := 9) (pc' := 23) rfl (hb hby at_9) rfl ((if0 _ _).trans (flt hc3).2.2.2) (by decide) (by decide) k) ?_
      show Go _ _ _ _ (s₁.setTop (mkF m 23 #[vI p0, vI p1, vI p2, vI p3, vI p4, vI z2, uS, uS, uS, uS, uS, uS, uS, uS, uS, uS] []))
      refine Go.back (fun t k => XS.iconst X0.here hx rfl (hb hby at_23) k) ?_
      show Go _ _ _ _ (s₁.setTop (mkF m 24 #[vI p0, vI p1, vI p2, vI p3, vI p4, vI z2, uS, uS, uS, uS, uS, uS, uS, uS, uS, uS] [(.int (0 : Int32))]))
      exact J4 false r968.symm
  exact J1 _ rfl
set_option maxRecDepth 65536 in
set_option maxHeartbeats 40000000 in
theorem comes_1 {Post : Tables → Env → Array Value → State → Outcome → State → Prop} (hpost : ∀ tb e args s v u, (limb_1_1.after args s (.returned v) u = true ∧ limb_1_2.after args s (.returned v) u = true ∧ True) → FramedW s (.returned v) u (Jvm.fieldLocs frame_1_writes args s ++ Jvm.arrayLocs frame_1_arrays args s ++ Jvm.staticLocs frame_1_statics s) 40 2304 → Post tb e args s (.returned v) u) :
    ArmFor flags0 classFile x code maxLocals ret World_1 tables_1 room_1 Calls_1 rest_1 Pre_1 Post := by
  intro l hfl _ _ p e ha hc hk s m args below hf hA hF happ hP
  obtain ⟨hcalls, hrest, hpre⟩ := hP
  obtain ⟨-, -, -, hnamed, -, -, -, hat⟩ := (Spec.applies_iff hf).mp happ
  obtain ⟨hg, hn⟩ := and_e (Cond.before_iff.mp (show (Jvm.Cond.and given_1 narrow_1).before args s = true from hpre))
  obtain ⟨g1, g2⟩ := and_e hg
  obtain ⟨g3, g4⟩ := and_e g2
  obtain ⟨g5, g6⟩ := and_e g4
  obtain ⟨g7, g8⟩ := and_e g6
  obtain ⟨g9, g10⟩ := and_e g8
  obtain ⟨w0, w1, w2, w3, w4, rfl⟩ : ∃ w0 w1 w2 w3 w4 : Value, args = #[w0, w1, w2, w3, w4] := by
    have hs : args.size = 5 := by simpa [Cond.value, given_1] using g1
    obtain ⟨L⟩ := args
    match L, hs with
    | [w0, w1, w2, w3, w4], _ => exact ⟨w0, w1, w2, w3, w4, rfl⟩
  have hw := fun d (hd : d ∈ tables_1) => atoms_spec (ws := Jvm.Cond.code x code maxLocals ret :: tables_1) hat d (List.mem_cons_of_mem _ hd)
  have hfit : Fit s := fun {y c} hc i hi => by
    obtain ⟨ha, rfl⟩ := Array.getElem?_eq_some_iff.mp hc
    have q := List.all_eq_true.mp ((Array.all_eq_true_iff_forall_mem.mp hF) _ (Array.getElem_mem ha)) i (List.mem_range.mpr hi)
    simpa [Array.getElem?_eq_getElem hi] using q
  obtain ⟨i0, ei0⟩ := is_v g3
  obtain rfl : w0 = (.int i0) := Option.some.inj ei0
  obtain ⟨i1, ei1⟩ := is_v g5
  obtain rfl : w1 = (.int i1) := Option.some.inj ei1
  obtain ⟨i2, ei2⟩ := is_v g7
  obtain rfl : w2 = (.int i2) := Option.some.inj ei2
  obtain ⟨i3, ei3⟩ := is_v g9
  obtain rfl : w3 = (.int i3) := Option.some.inj ei3
  obtain ⟨i4, ei4⟩ := is_v g10
  obtain rfl : w4 = (.int i4) := Option.some.inj ei4
  obtain ⟨n, o, h1, h2, h3, v, L, rfl, hQ, hq⟩ := rm0 l s _ hw tables_1 i0 i1 i2 i3 i4 s.heap s.heap.size (Nat.le_refl _) p e ha hc hk s m _ below hf ((Spec.applies_iff_loose hf).mp happ).1 ⟨rfl, State.Warmed39.refl s, rfl⟩ trivial
  have hv : v = some (.int (1 : Int32)) := hQ.1
  subst hv
  have N : Fr s.heap.size L := by first | exact hQ.2.1 | exact hQ.2
  refine ⟨n, _, h1, h2, h3, hpost _ _ _ _ _ _ ⟨Cond.after_iff.mpr rfl, Cond.after_iff.mpr (eq_i res_at (Term.int_eval (1)) rfl), trivial⟩ ⟨hq.1, hq.2.1, hq.2.2.1, (hq.2.2.2.sift fun y hy => Or.inr (N y hy)).mono (by decide) (by decide)⟩⟩
theorem main_1_1 : Claimed_1_1 := comes_1 fun _ _ _ _ _ _ h hF => ⟨h.1, hF⟩
theorem main_1_2 : Claimed_1_2 := comes_1 fun _ _ _ _ _ _ h hF => ⟨h.2.1, hF⟩
end Jvm.Pilot.@@N@@
namespace Jvm.Pilot.@@N@@
open Jvm Jvm.ClassFile Sem Op Lib Jvm.Free Jvm.Stand Jvm.Pilot.@@N@@.Jvm.D
/-! MADE BY PROGRAM (witnessworld.py) out of the Statement's table words and the real class files: 20 classes; the members and pool entries that the words name. The judged class is class 1, her method 1. -/
namespace start1
open Jvm.ClassFile
def u (s : String) : CpInfo := .utf8 (stringToUtf16 s)
/-- a pool by its gaps: so many unusable entries, then the entry; so many at the end -/
def gap : Nat → List CpInfo → List CpInfo
  | 0, r => r
  | n + 1, r => .unusable :: gap n r
def poolList (es : List (Nat × CpInfo)) (last : Nat) : List CpInfo := es.foldr (fun e r => gap e.1 (e.2 :: r)) (gap last [])
def pool (es : List (Nat × CpInfo)) (last : Nat) : Array CpInfo := ⟨poolList es last⟩
def fileOf (pool : Array CpInfo) (this : Nat) (attrs : Array Attribute := #[]) (ms : Array MethodInfo := #[]) (fl : Nat := 33) (sup : Nat := 0) (ifs : Array Nat := #[]) (fds : Array FieldInfo := #[]) : ClassFile where
  minorVersion := 0
  majorVersion := 65
  constantPool := pool
  accessFlags := fl
  thisClass := this
  superClass := sup
  interfaces := ifs
  fields := fds
  methods := ms
  attributes := attrs
def plain (name : String) (sup : Option ClassId) : Class where
  name := name
  kind := .ordinary
  loader := none
  accessFlags := 33
  super := sup
  interfaces := #[]
  cf := none
  fields := #[]
  methods := #[]
  instanceTypes := #[]
  staticTypes := #[]
  resolved := #[]
  callSites := []
  init := .initialized
  statics := none
  mirror := none

def pool0 : Array CpInfo := pool [(5, u "<init>"), (0, u "()V"), (1, .class_ 10), (1, u "java/lang/Object")] 113

def k0c0 : Code := { maxStack := 0, maxLocals := 1, code := object_method_1_code, exceptionTable := #[], attributes := #[] }
def k0m0 : Method := { name := "<init>", desc := "()V", sig := { parameters := [], returnType := none }, accessFlags := 1, code := some k0c0 }
/-- java/lang/Object -/
def k0 : Class := { plain "java/lang/Object" none with
  accessFlags := 33
  interfaces := #[]
  cf := some (fileOf pool0 8 #[] #[{ accessFlags := 1, nameIndex := 5, descriptorIndex := 6, attributes := #[] }] 33 0 #[] #[])
  fields := #[]
  methods := #[k0m0]
  instanceTypes := #[]
  staticTypes := #[]
  resolved := Array.replicate 124 none
  statics := none }

def pool1 : Array CpInfo := pool [(2, .class_ 4), (1, u "java/lang/Object"), (0, u "<init>"), (0, u "()V"), (0, .integer 2147483647), (0, .class_ 9), (0, u "com/example/onward/onward/check/RequirementRows"), (0, .methodref 8 11), (0, .nameAndType 5 12), (0, u "(II)V"), (0, .methodref 8 14), (0, .nameAndType 15 16), (0, u "part"), (0, u "(II)Lcom/example/onward/onward/check/RequirementRows$Part;"), (0, .methodref 18 19), (0, .class_ 20), (0, .nameAndType 21 22), (0, u "com/example/onward/onward/check/RequirementRows$Part"), (0, u "raise"), (0, u "(I)V"), (0, .methodref 18 24), (0, .nameAndType 25 6), (0, u "endState"), (0, .methodref 8 27), (0, .nameAndType 28 29), (0, u "join"), (0, u "(Lcom/example/onward/onward/check/RequirementRows$Part;)V"), (0, .methodref 8 31), (0, .nameAndType 32 33), (0, u "raisesAny"), (0, u "(I)Z"), (0, .class_ 35), (0, u "com/example/onward/onward/check/RequirementRowsRaisesAnyPinLaw"), (2, u "law"), (0, u "(IIIII)Z")] 5

def k1m0 : Method := { name := "<init>", desc := "()V", sig := { parameters := [], returnType := none }, accessFlags := 1, code := none }
def k1c1 : Code := { maxStack := 4, maxLocals := 16, code := code, exceptionTable := #[], attributes := #[] }
def k1m1 : Method := { name := "law", desc := "(IIIII)Z", sig := { parameters := [.int, .int, .int, .int, .int], returnType := some .boolean }, accessFlags := 9, code := some k1c1 }
/-- com/example/onward/onward/check/RequirementRowsRaisesAnyPinLaw -/
def k1 : Class := { plain "com/example/onward/onward/check/RequirementRowsRaisesAnyPinLaw" (some 0) with
  accessFlags := 49
  interfaces := #[]
  cf := some (fileOf pool1 34 #[] #[{ accessFlags := 1, nameIndex := 5, descriptorIndex := 6, attributes := #[] }, { accessFlags := 9, nameIndex := 38, descriptorIndex := 39, attributes := #[] }] 49 2 #[] #[])
  fields := #[]
  methods := #[k1m0, k1m1]
  instanceTypes := #[]
  staticTypes := #[]
  resolved := Array.replicate 45 none
  statics := none }

def pool2 : Array CpInfo := pool [(1, .methodref 2 3), (0, .class_ 4), (0, .nameAndType 5 6), (0, u "java/lang/Object"), (0, u "<init>"), (0, u "()V"), (0, .fieldref 8 9), (0, .class_ 10), (0, .nameAndType 11 12), (0, u "com/example/onward/onward/check/RequirementRows"), (0, u "requirements"), (0, u "I"), (2, .long 2147483639), (6, .nameAndType 5 23), (0, u "(Ljava/lang/String;)V"), (0, .fieldref 8 25), (0, .nameAndType 26 12), (0, u "words"), (0, .fieldref 8 28), (0, .nameAndType 29 30), (0, u "rows"), (0, u "[J"), (0, .fieldref 8 32), (0, .nameAndType 33 34), (0, u "starts"), (0, u "[I"), (0, .fieldref 8 36), (0, .nameAndType 37 38), (0, u "lists"), (0, u "Lcom/example/onward/onward/lts/IntBlocks;"), (0, .class_ 40), (0, u "com/example/onward/onward/lts/IntBlocks"), (0, .string 42), (0, u "raised requirements"), (0, .methodref 39 22), (0, .fieldref 8 45), (0, .nameAndType 46 30), (0, u "anywhere"), (0, .class_ 48), (0, u "com/example/onward/onward/check/RequirementRows$Part"), (0, .methodref 47 50), (0, .nameAndType 5 51), (0, u "(Lcom/example/onward/onward/check/RequirementRows;II)V"), (0, .fieldref 47 53), (0, .nameAndType 54 12), (0, u "first"), (0, .fieldref 8 56), (0, .nameAndType 57 12), (0, u "joined"), (0, .fieldref 47 59), (0, .nameAndType 60 12), (0, u "filling"), (0, .fieldref 47 62), (0, .nameAndType 63 12), (0, u "end"), (7, .fieldref 47 45), (0, .methodref 39 73), (0, .nameAndType 74 75), (0, u "size"), (0, u "()I"), (0, .fieldref 47 77), (0, .nameAndType 78 38), (0, u "listed"), (4, .methodref 39 84), (0, .nameAndType 85 86), (0, u "add"), (0, u "(I)V"), (7, .class_ 95), (0, u "com/example/onward/onward/check/RequirementRows$Gathering"), (6, u "MOST_ROW_WORDS"), (2, u "LISTED"), (0, u "Ljava/lang/String;"), (0, u "(II)V"), (3, u "part"), (0, u "(II)Lcom/example/onward/onward/check/RequirementRows$Part;"), (0, u "join"), (0, u "(Lcom/example/onward/onward/check/RequirementRows$Part;)V"), (0, u "raisesAny"), (0, u "(I)Z")] 25

def k2c0 : Code := { maxStack := 4, maxLocals := 4, code := prog_61_method_1_code, exceptionTable := #[], attributes := #[] }
def k2m0 : Method := { name := "<init>", desc := "(II)V", sig := { parameters := [.int, .int], returnType := none }, accessFlags := 0, code := some k2c0 }
def k2c1 : Code := { maxStack := 5, maxLocals := 3, code := prog_61_method_2_code, exceptionTable := #[], attributes := #[] }
def k2m1 : Method := { name := "part", desc := "(II)Lcom/example/onward/onward/check/RequirementRows$Part;", sig := { parameters := [.int, .int], returnType := some (.object "com/example/onward/onward/check/RequirementRows$Part") }, accessFlags := 0, code := some k2c1 }
def k2c2 : Code := { maxStack := 6, maxLocals := 4, code := prog_61_method_3_code, exceptionTable := #[], attributes := #[] }
def k2m2 : Method := { name := "join", desc := "(Lcom/example/onward/onward/check/RequirementRows$Part;)V", sig := { parameters := [(.object "com/example/onward/onward/check/RequirementRows$Part")], returnType := none }, accessFlags := 0, code := some k2c2 }
def k2c3 : Code := { maxStack := 4, maxLocals := 4, code := prog_61_method_6_code, exceptionTable := #[], attributes := #[] }
def k2m3 : Method := { name := "raisesAny", desc := "(I)Z", sig := { parameters := [.int], returnType := some .boolean }, accessFlags := 0, code := some k2c3 }
/-- com/example/onward/onward/check/RequirementRows -/
def k2 : Class := { plain "com/example/onward/onward/check/RequirementRows" (some 0) with
  accessFlags := 48
  interfaces := #[]
  cf := some (fileOf pool2 8 #[.nestMembers #[94, 47]] #[{ accessFlags := 0, nameIndex := 5, descriptorIndex := 107, attributes := #[] }, { accessFlags := 0, nameIndex := 111, descriptorIndex := 112, attributes := #[] }, { accessFlags := 0, nameIndex := 113, descriptorIndex := 114, attributes := #[] }, { accessFlags := 0, nameIndex := 115, descriptorIndex := 116, attributes := #[] }] 48 2 #[] #[{ accessFlags := 26, nameIndex := 102, descriptorIndex := 12, attributes := #[] }, { accessFlags := 26, nameIndex := 105, descriptorIndex := 106, attributes := #[] }, { accessFlags := 18, nameIndex := 11, descriptorIndex := 12, attributes := #[] }, { accessFlags := 18, nameIndex := 26, descriptorIndex := 12, attributes := #[] }, { accessFlags := 18, nameIndex := 29, descriptorIndex := 30, attributes := #[] }, { accessFlags := 18, nameIndex := 33, descriptorIndex := 34, attributes := #[] }, { accessFlags := 2, nameIndex := 37, descriptorIndex := 38, attributes := #[] }, { accessFlags := 18, nameIndex := 46, descriptorIndex := 30, attributes := #[] }, { accessFlags := 2, nameIndex := 57, descriptorIndex := 12, attributes := #[] }])
  fields := #[{ name := "MOST_ROW_WORDS", type := .int, accessFlags := 26, slot := 0, constantValue := 0 }, { name := "LISTED", type := (.object "java/lang/String"), accessFlags := 26, slot := 1, constantValue := 0 }, { name := "requirements", type := .int, accessFlags := 18, slot := 0, constantValue := 0 }, { name := "words", type := .int, accessFlags := 18, slot := 1, constantValue := 0 }, { name := "rows", type := (.array .long), accessFlags := 18, slot := 2, constantValue := 0 }, { name := "starts", type := (.array .int), accessFlags := 18, slot := 3, constantValue := 0 }, { name := "lists", type := (.object "com/example/onward/onward/lts/IntBlocks"), accessFlags := 2, slot := 4, constantValue := 0 }, { name := "anywhere", type := (.array .long), accessFlags := 18, slot := 5, constantValue := 0 }, { name := "joined", type := .int, accessFlags := 2, slot := 6, constantValue := 0 }]
  methods := #[k2m0, k2m1, k2m2, k2m3]
  instanceTypes := #[.int, .int, (.array .long), (.array .int), (.object "com/example/onward/onward/lts/IntBlocks"), (.array .long), .int]
  staticTypes := #[.int, (.object "java/lang/String")]
  resolved := ((((((((Array.replicate 142 none).setIfInBounds 47 (some (.cls 3))).setIfInBounds 49 (some (.method ⟨3, 0⟩))).setIfInBounds 52 (some (.field 3 0))).setIfInBounds 58 (some (.field 3 2))).setIfInBounds 61 (some (.field 3 1))).setIfInBounds 71 (some (.field 3 3))).setIfInBounds 76 (some (.field 3 4)))
  statics := none }

def pool3 : Array CpInfo := pool [(1, .class_ 2), (0, u "com/example/onward/onward/check/RequirementRows"), (0, .fieldref 4 5), (0, .class_ 6), (0, .nameAndType 7 8), (0, u "com/example/onward/onward/check/RequirementRows$Part"), (0, u "this$0"), (0, u "Lcom/example/onward/onward/check/RequirementRows;"), (0, .methodref 10 11), (0, .class_ 12), (0, .nameAndType 13 14), (0, u "java/lang/Object"), (0, u "<init>"), (0, u "()V"), (0, .fieldref 1 16), (0, .nameAndType 17 18), (0, u "anywhere"), (0, u "[J"), (0, .fieldref 4 16), (0, .fieldref 4 21), (0, .nameAndType 22 23), (0, u "current"), (0, u "[I"), (0, .fieldref 4 25), (0, .nameAndType 26 27), (0, u "first"), (0, u "I"), (0, .fieldref 4 29), (0, .nameAndType 30 27), (0, u "end"), (0, .fieldref 4 32), (0, .nameAndType 33 27), (0, u "filling"), (0, .fieldref 1 35), (0, .nameAndType 36 18), (0, u "rows"), (0, .class_ 38), (0, u "com/example/onward/onward/lts/IntBlocks"), (0, .string 40), (0, u "raised requirements"), (0, .methodref 37 42), (0, .nameAndType 13 43), (0, u "(Ljava/lang/String;)V"), (0, .fieldref 4 45), (0, .nameAndType 46 47), (0, u "listed"), (0, u "Lcom/example/onward/onward/lts/IntBlocks;"), (0, .fieldref 1 49), (0, .nameAndType 50 27), (0, u "words"), (0, .methodref 4 52), (0, .nameAndType 53 54), (0, u "list"), (0, u "(I)V"), (0, .fieldref 4 56), (0, .nameAndType 57 27), (0, u "currentCount"), (1, .class_ 61), (1, u "java/util/Arrays"), (12, u "raise"), (0, .methodref 4 76), (0, .nameAndType 77 14), (0, u "endList"), (0, .methodref 59 79), (0, .nameAndType 80 81), (0, u "sort"), (0, u "([III)V"), (0, .methodref 37 83), (0, .nameAndType 84 54), (0, u "add"), (0, .fieldref 1 86), (0, .nameAndType 87 23), (0, u "starts"), (0, .methodref 37 89), (0, .nameAndType 90 91), (0, u "size"), (0, u "()I"), (0, u "(Lcom/example/onward/onward/check/RequirementRows;II)V"), (6, u "endState")] 5

def k3c0 : Code := { maxStack := 4, maxLocals := 4, code := prog_63_method_1_code, exceptionTable := #[], attributes := #[] }
def k3m0 : Method := { name := "<init>", desc := "(Lcom/example/onward/onward/check/RequirementRows;II)V", sig := { parameters := [(.object "com/example/onward/onward/check/RequirementRows"), .int, .int], returnType := none }, accessFlags := 2, code := some k3c0 }
def k3c1 : Code := { maxStack := 7, maxLocals := 2, code := prog_63_method_4_code, exceptionTable := #[], attributes := #[] }
def k3m1 : Method := { name := "raise", desc := "(I)V", sig := { parameters := [.int], returnType := none }, accessFlags := 0, code := some k3c1 }
def k3c2 : Code := { maxStack := 5, maxLocals := 2, code := prog_63_method_5_code, exceptionTable := #[], attributes := #[] }
def k3m2 : Method := { name := "list", desc := "(I)V", sig := { parameters := [.int], returnType := none }, accessFlags := 2, code := some k3c2 }
def k3c3 : Code := { maxStack := 7, maxLocals := 2, code := prog_63_method_7_code, exceptionTable := #[], attributes := #[] }
def k3m3 : Method := { name := "endState", desc := "()V", sig := { parameters := [], returnType := none }, accessFlags := 0, code := some k3c3 }
def k3c4 : Code := { maxStack := 7, maxLocals := 3, code := prog_63_method_8_code, exceptionTable := #[], attributes := #[] }
def k3m4 : Method := { name := "endList", desc := "()V", sig := { parameters := [], returnType := none }, accessFlags := 2, code := some k3c4 }
/-- com/example/onward/onward/check/RequirementRows$Part -/
def k3 : Class := { plain "com/example/onward/onward/check/RequirementRows$Part" (some 0) with
  accessFlags := 48
  interfaces := #[]
  cf := some (fileOf pool3 4 #[.nestHost 1] #[{ accessFlags := 2, nameIndex := 13, descriptorIndex := 92, attributes := #[] }, { accessFlags := 0, nameIndex := 74, descriptorIndex := 54, attributes := #[] }, { accessFlags := 2, nameIndex := 53, descriptorIndex := 54, attributes := #[] }, { accessFlags := 0, nameIndex := 99, descriptorIndex := 14, attributes := #[] }, { accessFlags := 2, nameIndex := 77, descriptorIndex := 14, attributes := #[] }] 48 10 #[] #[{ accessFlags := 18, nameIndex := 26, descriptorIndex := 27, attributes := #[] }, { accessFlags := 18, nameIndex := 30, descriptorIndex := 27, attributes := #[] }, { accessFlags := 2, nameIndex := 33, descriptorIndex := 27, attributes := #[] }, { accessFlags := 18, nameIndex := 17, descriptorIndex := 18, attributes := #[] }, { accessFlags := 18, nameIndex := 46, descriptorIndex := 47, attributes := #[] }, { accessFlags := 2, nameIndex := 22, descriptorIndex := 23, attributes := #[] }, { accessFlags := 2, nameIndex := 57, descriptorIndex := 27, attributes := #[] }, { accessFlags := 4112, nameIndex := 7, descriptorIndex := 8, attributes := #[] }])
  fields := #[{ name := "first", type := .int, accessFlags := 18, slot := 0, constantValue := 0 }, { name := "end", type := .int, accessFlags := 18, slot := 1, constantValue := 0 }, { name := "filling", type := .int, accessFlags := 2, slot := 2, constantValue := 0 }, { name := "anywhere", type := (.array .long), accessFlags := 18, slot := 3, constantValue := 0 }, { name := "listed", type := (.object "com/example/onward/onward/lts/IntBlocks"), accessFlags := 18, slot := 4, constantValue := 0 }, { name := "current", type := (.array .int), accessFlags := 2, slot := 5, constantValue := 0 }, { name := "currentCount", type := .int, accessFlags := 2, slot := 6, constantValue := 0 }, { name := "this$0", type := (.object "com/example/onward/onward/check/RequirementRows"), accessFlags := 4112, slot := 7, constantValue := 0 }]
  methods := #[k3m0, k3m1, k3m2, k3m3, k3m4]
  instanceTypes := #[.int, .int, .int, (.array .long), (.object "com/example/onward/onward/lts/IntBlocks"), (.array .int), .int, (.object "com/example/onward/onward/check/RequirementRows")]
  staticTypes := #[]
  resolved := Array.replicate 105 none
  statics := none }

def pool4 : Array CpInfo := pool [(1, .class_ 2), (0, u "com/example/onward/onward/lts/IntBlocks"), (2, .methodref 6 7), (0, .class_ 8), (0, .nameAndType 9 10), (0, u "java/lang/Object"), (0, u "<init>"), (0, u "()V"), (0, .class_ 12), (0, u "[I"), (0, .fieldref 1 14), (0, .nameAndType 15 16), (0, u "blocks"), (0, u "[[I"), (0, .fieldref 1 18), (0, .nameAndType 19 20), (0, u "what"), (0, u "Ljava/lang/String;"), (2, u "(Ljava/lang/String;)V"), (9, .fieldref 1 34), (0, .nameAndType 35 36), (0, u "size"), (0, u "I"), (0, .integer 65535), (16, .integer 2147483647), (11, u "(I)V"), (27, u "SHIFT"), (2, u "BLOCK"), (0, u "MASK"), (0, u "MAX_SIZE"), (0, u "START"), (6, u "()I"), (4, u "add")] 20

def k4c0 : Code := { maxStack := 5, maxLocals := 2, code := prog_286_method_1_code, exceptionTable := #[], attributes := #[] }
def k4m0 : Method := { name := "<init>", desc := "(Ljava/lang/String;)V", sig := { parameters := [(.object "java/lang/String")], returnType := none }, accessFlags := 1, code := some k4c0 }
def k4c1 : Code := { maxStack := 1, maxLocals := 1, code := prog_286_method_3_code, exceptionTable := #[], attributes := #[] }
def k4m1 : Method := { name := "size", desc := "()I", sig := { parameters := [], returnType := some .int }, accessFlags := 1, code := some k4c1 }
def k4c2 : Code := { maxStack := 3, maxLocals := 5, code := prog_286_method_7_code, exceptionTable := #[], attributes := #[] }
def k4m2 : Method := { name := "add", desc := "(I)V", sig := { parameters := [.int], returnType := none }, accessFlags := 1, code := some k4c2 }
/-- com/example/onward/onward/lts/IntBlocks -/
def k4 : Class := { plain "com/example/onward/onward/lts/IntBlocks" (some 0) with
  accessFlags := 49
  interfaces := #[]
  cf := some (fileOf pool4 1 #[] #[{ accessFlags := 1, nameIndex := 9, descriptorIndex := 23, attributes := #[] }, { accessFlags := 1, nameIndex := 35, descriptorIndex := 107, attributes := #[] }, { accessFlags := 1, nameIndex := 112, descriptorIndex := 66, attributes := #[] }] 49 6 #[] #[{ accessFlags := 26, nameIndex := 94, descriptorIndex := 36, attributes := #[] }, { accessFlags := 24, nameIndex := 97, descriptorIndex := 36, attributes := #[] }, { accessFlags := 26, nameIndex := 98, descriptorIndex := 36, attributes := #[] }, { accessFlags := 24, nameIndex := 99, descriptorIndex := 36, attributes := #[] }, { accessFlags := 26, nameIndex := 100, descriptorIndex := 36, attributes := #[] }, { accessFlags := 18, nameIndex := 19, descriptorIndex := 20, attributes := #[] }, { accessFlags := 2, nameIndex := 15, descriptorIndex := 16, attributes := #[] }, { accessFlags := 2, nameIndex := 35, descriptorIndex := 36, attributes := #[] }])
  fields := #[{ name := "SHIFT", type := .int, accessFlags := 26, slot := 0, constantValue := 0 }, { name := "BLOCK", type := .int, accessFlags := 24, slot := 1, constantValue := 0 }, { name := "MASK", type := .int, accessFlags := 26, slot := 2, constantValue := 0 }, { name := "MAX_SIZE", type := .int, accessFlags := 24, slot := 3, constantValue := 0 }, { name := "START", type := .int, accessFlags := 26, slot := 4, constantValue := 0 }, { name := "what", type := (.object "java/lang/String"), accessFlags := 18, slot := 0, constantValue := 0 }, { name := "blocks", type := (.array (.array .int)), accessFlags := 2, slot := 1, constantValue := 0 }, { name := "size", type := .int, accessFlags := 2, slot := 2, constantValue := 0 }]
  methods := #[k4m0, k4m1, k4m2]
  instanceTypes := #[(.object "java/lang/String"), (.array (.array .int)), .int]
  staticTypes := #[.int, .int, .int, .int, .int]
  resolved := Array.replicate 133 none
  statics := none }

def pool5 : Array CpInfo := pool [(1, .class_ 2), (0, u "java/io/Serializable"), (0, .class_ 4), (0, u "java/lang/Object")] 2

/-- java/io/Serializable -/
def k5 : Class := { plain "java/io/Serializable" (some 0) with
  accessFlags := 1537
  interfaces := #[]
  cf := some (fileOf pool5 1 #[] #[] 1537 3 #[] #[])
  fields := #[]
  methods := #[]
  instanceTypes := #[]
  staticTypes := #[]
  resolved := Array.replicate 7 none
  statics := none }

def pool6 : Array CpInfo := pool [(1, .class_ 2), (0, u "java/lang/Comparable"), (0, .class_ 4), (0, u "java/lang/Object")] 7

/-- java/lang/Comparable -/
def k6 : Class := { plain "java/lang/Comparable" (some 0) with
  accessFlags := 1537
  interfaces := #[]
  cf := some (fileOf pool6 1 #[] #[] 1537 3 #[] #[])
  fields := #[]
  methods := #[]
  instanceTypes := #[]
  staticTypes := #[]
  resolved := Array.replicate 12 none
  statics := none }

def pool7 : Array CpInfo := pool [(2, .class_ 4), (1, u "java/lang/CharSequence"), (42, .class_ 48), (0, u "java/lang/CharSequence$1CodePointIterator"), (10, .class_ 60), (0, u "java/lang/CharSequence$1CharIterator"), (5, .class_ 67), (0, u "java/lang/Object")] 63

/-- java/lang/CharSequence -/
def k7 : Class := { plain "java/lang/CharSequence" (some 0) with
  accessFlags := 1537
  interfaces := #[]
  cf := some (fileOf pool7 2 #[.nestMembers #[47, 59]] #[] 1537 66 #[] #[])
  fields := #[]
  methods := #[]
  instanceTypes := #[]
  staticTypes := #[]
  resolved := Array.replicate 131 none
  statics := none }

def pool8 : Array CpInfo := pool [(1, .class_ 2), (0, u "java/lang/constant/Constable"), (0, .class_ 4), (0, u "java/lang/Object")] 6

/-- java/lang/constant/Constable -/
def k8 : Class := { plain "java/lang/constant/Constable" (some 0) with
  accessFlags := 1537
  interfaces := #[]
  cf := some (fileOf pool8 1 #[] #[] 1537 3 #[] #[])
  fields := #[]
  methods := #[]
  instanceTypes := #[]
  staticTypes := #[]
  resolved := Array.replicate 11 none
  statics := none }

def pool9 : Array CpInfo := pool [(1, .class_ 2), (0, u "java/lang/constant/ConstantDesc"), (0, .class_ 4), (0, u "java/lang/Object")] 32

/-- java/lang/constant/ConstantDesc -/
def k9 : Class := { plain "java/lang/constant/ConstantDesc" (some 0) with
  accessFlags := 1537
  interfaces := #[]
  cf := some (fileOf pool9 1 #[] #[] 1537 3 #[] #[])
  fields := #[]
  methods := #[]
  instanceTypes := #[]
  staticTypes := #[]
  resolved := Array.replicate 37 none
  statics := none }

def pool10 : Array CpInfo := pool [(2, .class_ 4), (1, u "java/lang/Object"), (0, u "<init>"), (0, u "()V"), (3, .class_ 12), (1, u "java/lang/String"), (0, u "value"), (0, u "[B"), (2, u "coder"), (0, u "B"), (2, u "hash"), (0, u "I"), (2, u "hashIsZero"), (0, u "Z"), (13, u "COMPACT_STRINGS"), (534, .class_ 576), (0, u "java/lang/CharSequence"), (22, u "CASE_INSENSITIVE_ORDER"), (0, u "Ljava/util/Comparator;"), (500, u "serialPersistentFields"), (0, u "[Ljava/io/ObjectStreamField;"), (0, .class_ 1104), (0, u "java/lang/String$CaseInsensitiveComparator"), (1, .class_ 1107), (0, u "java/io/Serializable"), (0, .class_ 1109), (0, u "java/lang/Comparable"), (0, .class_ 1111), (0, u "java/lang/constant/Constable"), (0, .class_ 1113), (0, u "java/lang/constant/ConstantDesc"), (2, u "serialVersionUID"), (0, u "J"), (3, u "REPL"), (0, u "C"), (2, u "LATIN1"), (1, u "UTF16")] 323

def k10m0 : Method := { name := "<init>", desc := "()V", sig := { parameters := [], returnType := none }, accessFlags := 1, code := none }
/-- java/lang/String -/
def k10 : Class := { plain "java/lang/String" (some 0) with
  accessFlags := 49
  interfaces := #[5, 6, 7, 8, 9]
  cf := some (fileOf pool10 10 #[.nestMembers #[1103]] #[{ accessFlags := 1, nameIndex := 5, descriptorIndex := 6, attributes := #[] }] 49 2 #[1106, 1108, 575, 1110, 1112] #[{ accessFlags := 18, nameIndex := 13, descriptorIndex := 14, attributes := #[] }, { accessFlags := 18, nameIndex := 17, descriptorIndex := 18, attributes := #[] }, { accessFlags := 2, nameIndex := 21, descriptorIndex := 22, attributes := #[] }, { accessFlags := 2, nameIndex := 25, descriptorIndex := 26, attributes := #[] }, { accessFlags := 26, nameIndex := 1116, descriptorIndex := 1117, attributes := #[] }, { accessFlags := 24, nameIndex := 40, descriptorIndex := 26, attributes := #[] }, { accessFlags := 26, nameIndex := 1101, descriptorIndex := 1102, attributes := #[] }, { accessFlags := 26, nameIndex := 1121, descriptorIndex := 1122, attributes := #[] }, { accessFlags := 25, nameIndex := 599, descriptorIndex := 600, attributes := #[] }, { accessFlags := 24, nameIndex := 1125, descriptorIndex := 18, attributes := #[] }, { accessFlags := 24, nameIndex := 1127, descriptorIndex := 18, attributes := #[] }])
  fields := #[{ name := "value", type := (.array .byte), accessFlags := 18, slot := 0, constantValue := 0 }, { name := "coder", type := .byte, accessFlags := 18, slot := 1, constantValue := 0 }, { name := "hash", type := .int, accessFlags := 2, slot := 2, constantValue := 0 }, { name := "hashIsZero", type := .boolean, accessFlags := 2, slot := 3, constantValue := 0 }, { name := "serialVersionUID", type := .long, accessFlags := 26, slot := 0, constantValue := 0 }, { name := "COMPACT_STRINGS", type := .boolean, accessFlags := 24, slot := 1, constantValue := 0 }, { name := "serialPersistentFields", type := (.array (.object "java/io/ObjectStreamField")), accessFlags := 26, slot := 2, constantValue := 0 }, { name := "REPL", type := .char, accessFlags := 26, slot := 3, constantValue := 0 }, { name := "CASE_INSENSITIVE_ORDER", type := (.object "java/util/Comparator"), accessFlags := 25, slot := 4, constantValue := 0 }, { name := "LATIN1", type := .byte, accessFlags := 24, slot := 5, constantValue := 0 }, { name := "UTF16", type := .byte, accessFlags := 24, slot := 6, constantValue := 0 }]
  methods := #[k10m0]
  instanceTypes := #[(.array .byte), .byte, .int, .boolean]
  staticTypes := #[.long, .boolean, (.array (.object "java/io/ObjectStreamField")), .char, (.object "java/util/Comparator"), .byte, .byte]
  resolved := Array.replicate 1451 none
  statics := none }

def pool11 : Array CpInfo := pool [(2, .class_ 4), (1, u "java/lang/Object"), (0, u "<init>"), (0, u "()V"), (0, .methodref 8 9), (0, .class_ 10), (0, .nameAndType 11 12), (0, u "java/util/DualPivotQuicksort"), (0, u "sort"), (0, u "([IIII)V"), (0, .methodref 14 15), (0, .class_ 16), (0, .nameAndType 17 18), (0, u "java/util/Arrays"), (0, u "rangeCheck"), (0, u "(III)V"), (55, .class_ 76), (1, u "java/util/Arrays$NaturalOrder"), (36, .class_ 115), (1, u "java/util/Arrays$LegacyMergeSort"), (1, u "Z"), (257, .class_ 376), (0, u "java/util/Arrays$ArrayList"), (68, u "$assertionsDisabled"), (269, u "MIN_ARRAY_SORT_GRAN"), (0, u "I"), (2, u "INSERTIONSORT_THRESHOLD"), (8, u "([III)V"), (246, .class_ 976), (0, u "java/util/Arrays$ArrayItr")] 52

def k11m0 : Method := { name := "<init>", desc := "()V", sig := { parameters := [], returnType := none }, accessFlags := 2, code := none }
def k11c1 : Code := { maxStack := 4, maxLocals := 3, code := jdk_65_method_3_code, exceptionTable := #[], attributes := #[] }
def k11m1 : Method := { name := "sort", desc := "([III)V", sig := { parameters := [(.array .int), .int, .int], returnType := none }, accessFlags := 9, code := some k11c1 }
def k11c2 : Code := { maxStack := 4, maxLocals := 3, code := jdk_65_method_30_code, exceptionTable := #[], attributes := #[] }
def k11m2 : Method := { name := "rangeCheck", desc := "(III)V", sig := { parameters := [.int, .int, .int], returnType := none }, accessFlags := 8, code := some k11c2 }
/-- java/util/Arrays -/
def k11 : Class := { plain "java/util/Arrays" (some 0) with
  accessFlags := 49
  interfaces := #[]
  cf := some (fileOf pool11 14 #[.nestMembers #[975, 375, 113, 74]] #[{ accessFlags := 2, nameIndex := 5, descriptorIndex := 6, attributes := #[] }, { accessFlags := 9, nameIndex := 11, descriptorIndex := 728, attributes := #[] }, { accessFlags := 8, nameIndex := 17, descriptorIndex := 18, attributes := #[] }] 49 2 #[] #[{ accessFlags := 26, nameIndex := 715, descriptorIndex := 716, attributes := #[] }, { accessFlags := 26, nameIndex := 719, descriptorIndex := 716, attributes := #[] }, { accessFlags := 4120, nameIndex := 445, descriptorIndex := 117, attributes := #[] }])
  fields := #[{ name := "MIN_ARRAY_SORT_GRAN", type := .int, accessFlags := 26, slot := 0, constantValue := 0 }, { name := "INSERTIONSORT_THRESHOLD", type := .int, accessFlags := 26, slot := 1, constantValue := 0 }, { name := "$assertionsDisabled", type := .boolean, accessFlags := 4120, slot := 2, constantValue := 0 }]
  methods := #[k11m0, k11m1, k11m2]
  instanceTypes := #[]
  staticTypes := #[.int, .int, .boolean]
  resolved := Array.replicate 1029 none
  statics := none }

def pool12 : Array CpInfo := pool [(1, .class_ 2), (0, u "java/util/DualPivotQuicksort"), (5, .class_ 10), (1, u "java/lang/Object"), (0, u "<init>"), (0, u "()V"), (4, .class_ 18), (0, u "java/util/DualPivotQuicksort$Sorter"), (7, .methodref 1 27), (0, .nameAndType 28 29), (0, u "sort"), (0, u "(Ljava/util/DualPivotQuicksort$Sorter;[IIII)V"), (3, u "([IIII)V"), (0, .methodref 1 35), (0, .nameAndType 36 37), (0, u "insertionSort"), (0, u "([III)V"), (30, u "I"), (4, .class_ 74), (0, u "java/util/DualPivotQuicksort$RunMerger"), (10, .class_ 86), (0, u "java/util/DualPivotQuicksort$Merger"), (127, u "MAX_MIXED_INSERTION_SORT_SIZE"), (2, u "MAX_INSERTION_SORT_SIZE"), (1, u "MIN_PARALLEL_SORT_SIZE"), (1, u "MIN_TRY_MERGE_SIZE"), (0, u "MIN_FIRST_RUN_SIZE"), (1, u "MIN_FIRST_RUNS_FACTOR"), (1, u "MAX_RUN_CAPACITY"), (1, u "MIN_RUN_COUNT"), (1, u "MIN_PARALLEL_MERGE_PARTS_SIZE"), (0, u "MIN_BYTE_COUNTING_SORT_SIZE"), (1, u "MIN_SHORT_OR_CHAR_COUNTING_SORT_SIZE"), (1, u "DELTA"), (1, u "MAX_RECURSION_DEPTH"), (1, u "NUM_BYTE_VALUES"), (1, u "MAX_BYTE_INDEX"), (0, u "NUM_CHAR_VALUES"), (0, u "NUM_SHORT_VALUES"), (0, u "MAX_SHORT_INDEX")] 86

def k12m0 : Method := { name := "<init>", desc := "()V", sig := { parameters := [], returnType := none }, accessFlags := 2, code := none }
def k12c1 : Code := { maxStack := 9, maxLocals := 7, code := jdk_2529_method_3_code, exceptionTable := #[], attributes := #[] }
def k12m1 : Method := { name := "sort", desc := "([IIII)V", sig := { parameters := [(.array .int), .int, .int, .int], returnType := none }, accessFlags := 8, code := some k12c1 }
def k12c2 : Code := { maxStack := 6, maxLocals := 21, code := jdk_2529_method_4_code, exceptionTable := #[], attributes := #[] }
def k12m2 : Method := { name := "sort", desc := "(Ljava/util/DualPivotQuicksort$Sorter;[IIII)V", sig := { parameters := [(.object "java/util/DualPivotQuicksort$Sorter"), (.array .int), .int, .int, .int], returnType := none }, accessFlags := 8, code := some k12c2 }
def k12c3 : Code := { maxStack := 4, maxLocals := 6, code := jdk_2529_method_6_code, exceptionTable := #[], attributes := #[] }
def k12m3 : Method := { name := "insertionSort", desc := "([III)V", sig := { parameters := [(.array .int), .int, .int], returnType := none }, accessFlags := 10, code := some k12c3 }
/-- java/util/DualPivotQuicksort -/
def k12 : Class := { plain "java/util/DualPivotQuicksort" (some 0) with
  accessFlags := 48
  interfaces := #[]
  cf := some (fileOf pool12 1 #[.nestMembers #[73, 85, 17]] #[{ accessFlags := 2, nameIndex := 11, descriptorIndex := 12, attributes := #[] }, { accessFlags := 8, nameIndex := 28, descriptorIndex := 33, attributes := #[] }, { accessFlags := 8, nameIndex := 28, descriptorIndex := 29, attributes := #[] }, { accessFlags := 10, nameIndex := 36, descriptorIndex := 37, attributes := #[] }] 48 8 #[] #[{ accessFlags := 26, nameIndex := 214, descriptorIndex := 68, attributes := #[] }, { accessFlags := 26, nameIndex := 217, descriptorIndex := 68, attributes := #[] }, { accessFlags := 26, nameIndex := 219, descriptorIndex := 68, attributes := #[] }, { accessFlags := 26, nameIndex := 221, descriptorIndex := 68, attributes := #[] }, { accessFlags := 26, nameIndex := 222, descriptorIndex := 68, attributes := #[] }, { accessFlags := 26, nameIndex := 224, descriptorIndex := 68, attributes := #[] }, { accessFlags := 26, nameIndex := 226, descriptorIndex := 68, attributes := #[] }, { accessFlags := 26, nameIndex := 228, descriptorIndex := 68, attributes := #[] }, { accessFlags := 26, nameIndex := 230, descriptorIndex := 68, attributes := #[] }, { accessFlags := 26, nameIndex := 231, descriptorIndex := 68, attributes := #[] }, { accessFlags := 26, nameIndex := 233, descriptorIndex := 68, attributes := #[] }, { accessFlags := 26, nameIndex := 235, descriptorIndex := 68, attributes := #[] }, { accessFlags := 26, nameIndex := 237, descriptorIndex := 68, attributes := #[] }, { accessFlags := 26, nameIndex := 239, descriptorIndex := 68, attributes := #[] }, { accessFlags := 26, nameIndex := 241, descriptorIndex := 68, attributes := #[] }, { accessFlags := 26, nameIndex := 242, descriptorIndex := 68, attributes := #[] }, { accessFlags := 26, nameIndex := 243, descriptorIndex := 68, attributes := #[] }, { accessFlags := 26, nameIndex := 244, descriptorIndex := 68, attributes := #[] }])
  fields := #[{ name := "MAX_MIXED_INSERTION_SORT_SIZE", type := .int, accessFlags := 26, slot := 0, constantValue := 0 }, { name := "MAX_INSERTION_SORT_SIZE", type := .int, accessFlags := 26, slot := 1, constantValue := 0 }, { name := "MIN_PARALLEL_SORT_SIZE", type := .int, accessFlags := 26, slot := 2, constantValue := 0 }, { name := "MIN_TRY_MERGE_SIZE", type := .int, accessFlags := 26, slot := 3, constantValue := 0 }, { name := "MIN_FIRST_RUN_SIZE", type := .int, accessFlags := 26, slot := 4, constantValue := 0 }, { name := "MIN_FIRST_RUNS_FACTOR", type := .int, accessFlags := 26, slot := 5, constantValue := 0 }, { name := "MAX_RUN_CAPACITY", type := .int, accessFlags := 26, slot := 6, constantValue := 0 }, { name := "MIN_RUN_COUNT", type := .int, accessFlags := 26, slot := 7, constantValue := 0 }, { name := "MIN_PARALLEL_MERGE_PARTS_SIZE", type := .int, accessFlags := 26, slot := 8, constantValue := 0 }, { name := "MIN_BYTE_COUNTING_SORT_SIZE", type := .int, accessFlags := 26, slot := 9, constantValue := 0 }, { name := "MIN_SHORT_OR_CHAR_COUNTING_SORT_SIZE", type := .int, accessFlags := 26, slot := 10, constantValue := 0 }, { name := "DELTA", type := .int, accessFlags := 26, slot := 11, constantValue := 0 }, { name := "MAX_RECURSION_DEPTH", type := .int, accessFlags := 26, slot := 12, constantValue := 0 }, { name := "NUM_BYTE_VALUES", type := .int, accessFlags := 26, slot := 13, constantValue := 0 }, { name := "MAX_BYTE_INDEX", type := .int, accessFlags := 26, slot := 14, constantValue := 0 }, { name := "NUM_CHAR_VALUES", type := .int, accessFlags := 26, slot := 15, constantValue := 0 }, { name := "NUM_SHORT_VALUES", type := .int, accessFlags := 26, slot := 16, constantValue := 0 }, { name := "MAX_SHORT_INDEX", type := .int, accessFlags := 26, slot := 17, constantValue := 0 }]
  methods := #[k12m0, k12m1, k12m2, k12m3]
  instanceTypes := #[]
  staticTypes := #[.int, .int, .int, .int, .int, .int, .int, .int, .int, .int, .int, .int, .int, .int, .int, .int, .int, .int]
  resolved := Array.replicate 331 none
  statics := none }

def pool13 : Array CpInfo := pool [(1, u "java/lang/Cloneable"), (0, .class_ 1), (0, u "java/lang/Object"), (0, .class_ 3)] 3

/-- java/lang/Cloneable -/
def k13 : Class := { plain "java/lang/Cloneable" (some 0) with
  accessFlags := 1537
  interfaces := #[]
  cf := some (fileOf pool13 2 #[] #[] 1537 4 #[] #[])
  fields := #[]
  methods := #[]
  instanceTypes := #[]
  staticTypes := #[]
  resolved := Array.replicate 8 none
  statics := none }

/-- the primitive byte -/
def k14 : Class := { plain "byte" none with kind := .primitive 'B', accessFlags := 0x411 }
/-- [B -/
def k15 : Class := { plain "[B" (some 0) with kind := .array 14 .byte, interfaces := #[13, 5], accessFlags := 1041 }

/-- the primitive int -/
def k16 : Class := { plain "int" none with kind := .primitive 'I', accessFlags := 0x411 }
/-- [I -/
def k17 : Class := { plain "[I" (some 0) with kind := .array 16 .int, interfaces := #[13, 5], accessFlags := 1041 }

/-- the primitive long -/
def k18 : Class := { plain "long" none with kind := .primitive 'J', accessFlags := 0x411 }
/-- [J -/
def k19 : Class := { plain "[J" (some 0) with kind := .array 18 .long, interfaces := #[13, 5], accessFlags := 1041 }

/-- [[I -/
def k20 : Class := { plain "[[I" (some 0) with kind := .array 17 (.array .int), interfaces := #[13, 5], accessFlags := 1041 }

def heap : Heap := #[]
def classes : Array Class := #[k0, k1, k2, k3, k4, k5, k6, k7, k8, k9, k10, k11, k12, k13, k14, k15, k16, k17, k18, k19, k20]
def interned : List (Array UInt16 × Addr) := []
def slotsUsed : Nat := 0
def theMethod : MethodId := ⟨1, 1⟩
def args0 : Array Value := #[.int 5, .int 6, .int 7, .int 8, .int 9]
def aboutOver (below : List Frame) : State where
  vm := { classes := classes, interned := interned.toArray }
  heap := heap
  slotsUsed := slotsUsed
  threads := #[{ frames := .invoking theMethod args0 :: below }]
def below0 : List Frame := [.native { method := ⟨0, 0⟩, args := #[] }]
def about1 : State := aboutOver below0
def p0 : Program := .bare "" "" ""
def e0 : Env := launch0.env 0 0 0
theorem w_frames : about1.frames = Frame.invoking theMethod args0 :: below0 := rfl
set_option maxRecDepth 65536 in
theorem w_args : argsFit about1.vm theMethod args0 = true := by decide +kernel
set_option maxRecDepth 65536 in
theorem w_heap : heapFits about1 = true := by decide +kernel
set_option maxRecDepth 65536 in
theorem w_runnable : about1.curStatus? = some .runnable := by decide +kernel
set_option maxRecDepth 65536 in
theorem w_alone : about1.alone = true := by decide +kernel
set_option maxRecDepth 65536 in
theorem w_named : about1.methodNamed? x = some theMethod := by decide +kernel
set_option maxRecDepth 65536 in
theorem w_hears : about1.hears theMethod below0 = true := by decide +kernel
set_option maxRecDepth 65536 in
theorem w_ripe : about1.ripe theMethod args0 below0 = true := by decide +kernel
theorem w_running : about1.status = .running := rfl
set_option maxRecDepth 65536 in
theorem w_room : about1.hasRoom e0.platform room_1 = true :=
  launch0.hasRoom_least _ room_1 (by decide +kernel) (by decide +kernel) (by decide +kernel) (by decide +kernel) (by decide +kernel) (by decide +kernel)
theorem allAtoms_all (ts : List Jvm.Cond) (a : Array Jvm.Value) (st : Jvm.State) : (allAtoms ts).before a st = ts.all (fun c => c.before a st) := by
  induction ts with
  | nil => rfl
  | cons c t ih =>
    show (Jvm.Cond.and c (allAtoms t)).before a st = _
    rw [Jvm.Cond.before_and, ih, List.all_cons]
def words1 : List Jvm.Cond := Jvm.Cond.code x code maxLocals ret :: tables_1
/-- a 'code' word, met by the world's own term for the bytes: nothing is compared byte by byte -/
theorem code_word {y : MethodName} {bytes : ByteArray} {mx : Nat} {rt : Option FieldType} {a : Array Value} {s : State} {m : MethodId} {meth : Method} {c : Code} (h1 : s.methodNamed? y = some m) (h2 : s.vm.method? m = some meth) (h3 : meth.code = some c) (h4 : c.code = bytes)
    (h5 : (c.maxLocals == mx && c.exceptionTable.isEmpty && decide (c.maxStack ≤ mostOperands) && decide (meth.sig.returnType = rt) && !meth.locks && decide (parseMethodDescriptor y.desc = some meth.sig)) = true) : (Jvm.Cond.code y bytes mx rt).before a s = true := by
  simp only [Bool.and_eq_true, beq_iff_eq, Bool.not_eq_true', decide_eq_true_eq] at h5
  obtain ⟨⟨⟨⟨⟨g1, g2⟩, g3⟩, g4⟩, g5⟩, g6⟩ := h5
  simp [Cond.before, Cond.holds, Cond.value, h1, h2, h3, h4, g1, g2, g3, g4, g5, g6]
def isCode : Jvm.Cond → Bool
  | .code _ _ _ _ => true
  | _ => false
theorem all_split {L : List Jvm.Cond} {P : Jvm.Cond → Bool} (h1 : L.all (fun c => isCode c || P c) = true) (h2 : ∀ c ∈ L.filter isCode, P c = true) : L.all P = true := by
  refine List.all_eq_true.mpr fun c hc => ?_
  have h := List.all_eq_true.mp h1 c hc
  rcases Bool.eq_false_or_eq_true (isCode c) with hi | hi
  · exact h2 c (List.mem_filter.mpr ⟨hc, hi⟩)
  · simpa [hi] using h
set_option maxRecDepth 65536 in
theorem w_c0 : (Jvm.Cond.code x code maxLocals ret).before args0 about1 = true := code_word (m := ⟨1, 1⟩) (meth := k1m1) (c := k1c1) (by decide +kernel) rfl rfl rfl (by decide +kernel)
set_option maxRecDepth 65536 in
theorem w_c1 : (Jvm.Cond.code ({ cls := "com/example/onward/onward/check/RequirementRows", name := "<init>", desc := "(II)V" } : Jvm.MethodName) prog_61_method_1_code (4 : Nat) (Option.none : Option Jvm.ClassFile.FieldType)).before args0 about1 = true := code_word (m := ⟨2, 0⟩) (meth := k2m0) (c := k2c0) (by decide +kernel) rfl rfl rfl (by decide +kernel)
set_option maxRecDepth 65536 in
theorem w_c2 : (Jvm.Cond.code ({ cls := "java/lang/Object", name := "<init>", desc := "()V" } : Jvm.MethodName) object_method_1_code (1 : Nat) (Option.none : Option Jvm.ClassFile.FieldType)).before args0 about1 = true := code_word (m := ⟨0, 0⟩) (meth := k0m0) (c := k0c0) (by decide +kernel) rfl rfl rfl (by decide +kernel)
set_option maxRecDepth 65536 in
theorem w_c3 : (Jvm.Cond.code ({ cls := "com/example/onward/onward/check/RequirementRows", name := "part", desc := "(II)Lcom/example/onward/onward/check/RequirementRows$Part;" } : Jvm.MethodName) prog_61_method_2_code (3 : Nat) (Option.some (Jvm.ClassFile.FieldType.object "com/example/onward/onward/check/RequirementRows$Part"))).before args0 about1 = true := code_word (m := ⟨2, 1⟩) (meth := k2m1) (c := k2c1) (by decide +kernel) rfl rfl rfl (by decide +kernel)
set_option maxRecDepth 65536 in
theorem w_c4 : (Jvm.Cond.code ({ cls := "com/example/onward/onward/check/RequirementRows$Part", name := "<init>", desc := "(Lcom/example/onward/onward/check/RequirementRows;II)V" } : Jvm.MethodName) prog_63_method_1_code (4 : Nat) (Option.none : Option Jvm.ClassFile.FieldType)).before args0 about1 = true := code_word (m := ⟨3, 0⟩) (meth := k3m0) (c := k3c0) (by decide +kernel) rfl rfl rfl (by decide +kernel)
set_option maxRecDepth 65536 in
theorem w_c5 : (Jvm.Cond.code ({ cls := "com/example/onward/onward/check/RequirementRows$Part", name := "endState", desc := "()V" } : Jvm.MethodName) prog_63_method_7_code (2 : Nat) (Option.none : Option Jvm.ClassFile.FieldType)).before args0 about1 = true := code_word (m := ⟨3, 3⟩) (meth := k3m3) (c := k3c3) (by decide +kernel) rfl rfl rfl (by decide +kernel)
set_option maxRecDepth 65536 in
theorem w_c6 : (Jvm.Cond.code ({ cls := "com/example/onward/onward/check/RequirementRows", name := "join", desc := "(Lcom/example/onward/onward/check/RequirementRows$Part;)V" } : Jvm.MethodName) prog_61_method_3_code (4 : Nat) (Option.none : Option Jvm.ClassFile.FieldType)).before args0 about1 = true := code_word (m := ⟨2, 2⟩) (meth := k2m2) (c := k2c2) (by decide +kernel) rfl rfl rfl (by decide +kernel)
set_option maxRecDepth 65536 in
theorem w_c7 : (Jvm.Cond.code ({ cls := "com/example/onward/onward/check/RequirementRows", name := "raisesAny", desc := "(I)Z" } : Jvm.MethodName) prog_61_method_6_code (4 : Nat) (Option.some Jvm.ClassFile.FieldType.boolean)).before args0 about1 = true := code_word (m := ⟨2, 3⟩) (meth := k2m3) (c := k2c3) (by decide +kernel) rfl rfl rfl (by decide +kernel)
set_option maxRecDepth 65536 in
theorem w_c8 : (Jvm.Cond.code ({ cls := "com/example/onward/onward/check/RequirementRows$Part", name := "raise", desc := "(I)V" } : Jvm.MethodName) prog_63_method_4_code (2 : Nat) (Option.none : Option Jvm.ClassFile.FieldType)).before args0 about1 = true := code_word (m := ⟨3, 1⟩) (meth := k3m1) (c := k3c1) (by decide +kernel) rfl rfl rfl (by decide +kernel)
set_option maxRecDepth 65536 in
theorem w_c9 : (Jvm.Cond.code ({ cls := "com/example/onward/onward/lts/IntBlocks", name := "<init>", desc := "(Ljava/lang/String;)V" } : Jvm.MethodName) prog_286_method_1_code (2 : Nat) (Option.none : Option Jvm.ClassFile.FieldType)).before args0 about1 = true := code_word (m := ⟨4, 0⟩) (meth := k4m0) (c := k4c0) (by decide +kernel) rfl rfl rfl (by decide +kernel)
set_option maxRecDepth 65536 in
theorem w_c10 : (Jvm.Cond.code ({ cls := "com/example/onward/onward/check/RequirementRows$Part", name := "list", desc := "(I)V" } : Jvm.MethodName) prog_63_method_5_code (2 : Nat) (Option.none : Option Jvm.ClassFile.FieldType)).before args0 about1 = true := code_word (m := ⟨3, 2⟩) (meth := k3m2) (c := k3c2) (by decide +kernel) rfl rfl rfl (by decide +kernel)
set_option maxRecDepth 65536 in
theorem w_c11 : (Jvm.Cond.code ({ cls := "com/example/onward/onward/check/RequirementRows$Part", name := "endList", desc := "()V" } : Jvm.MethodName) prog_63_method_8_code (3 : Nat) (Option.none : Option Jvm.ClassFile.FieldType)).before args0 about1 = true := code_word (m := ⟨3, 4⟩) (meth := k3m4) (c := k3c4) (by decide +kernel) rfl rfl rfl (by decide +kernel)
set_option maxRecDepth 65536 in
theorem w_c12 : (Jvm.Cond.code ({ cls := "java/util/Arrays", name := "sort", desc := "([III)V" } : Jvm.MethodName) jdk_65_method_3_code (3 : Nat) (Option.none : Option Jvm.ClassFile.FieldType)).before args0 about1 = true := code_word (m := ⟨11, 1⟩) (meth := k11m1) (c := k11c1) (by decide +kernel) rfl rfl rfl (by decide +kernel)
set_option maxRecDepth 65536 in
theorem w_c13 : (Jvm.Cond.code ({ cls := "java/util/Arrays", name := "rangeCheck", desc := "(III)V" } : Jvm.MethodName) jdk_65_method_30_code (3 : Nat) (Option.none : Option Jvm.ClassFile.FieldType)).before args0 about1 = true := code_word (m := ⟨11, 2⟩) (meth := k11m2) (c := k11c2) (by decide +kernel) rfl rfl rfl (by decide +kernel)
set_option maxRecDepth 65536 in
theorem w_c14 : (Jvm.Cond.code ({ cls := "java/util/DualPivotQuicksort", name := "sort", desc := "([IIII)V" } : Jvm.MethodName) jdk_2529_method_3_code (7 : Nat) (Option.none : Option Jvm.ClassFile.FieldType)).before args0 about1 = true := code_word (m := ⟨12, 1⟩) (meth := k12m1) (c := k12c1) (by decide +kernel) rfl rfl rfl (by decide +kernel)
set_option maxRecDepth 65536 in
theorem w_c15 : (Jvm.Cond.code ({ cls := "java/util/DualPivotQuicksort", name := "sort", desc := "(Ljava/util/DualPivotQuicksort$Sorter;[IIII)V" } : Jvm.MethodName) jdk_2529_method_4_code (21 : Nat) (Option.none : Option Jvm.ClassFile.FieldType)).before args0 about1 = true := code_word (m := ⟨12, 2⟩) (meth := k12m2) (c := k12c2) (by decide +kernel) rfl rfl rfl (by decide +kernel)
set_option maxRecDepth 65536 in
theorem w_c16 : (Jvm.Cond.code ({ cls := "java/util/DualPivotQuicksort", name := "insertionSort", desc := "([III)V" } : Jvm.MethodName) jdk_2529_method_6_code (6 : Nat) (Option.none : Option Jvm.ClassFile.FieldType)).before args0 about1 = true := code_word (m := ⟨12, 3⟩) (meth := k12m3) (c := k12c3) (by decide +kernel) rfl rfl rfl (by decide +kernel)
set_option maxRecDepth 65536 in
theorem w_c17 : (Jvm.Cond.code ({ cls := "com/example/onward/onward/lts/IntBlocks", name := "add", desc := "(I)V" } : Jvm.MethodName) prog_286_method_7_code (5 : Nat) (Option.none : Option Jvm.ClassFile.FieldType)).before args0 about1 = true := code_word (m := ⟨4, 2⟩) (meth := k4m2) (c := k4c2) (by decide +kernel) rfl rfl rfl (by decide +kernel)
set_option maxRecDepth 65536 in
theorem w_c18 : (Jvm.Cond.code ({ cls := "com/example/onward/onward/lts/IntBlocks", name := "size", desc := "()I" } : Jvm.MethodName) prog_286_method_3_code (1 : Nat) (Option.some Jvm.ClassFile.FieldType.int)).before args0 about1 = true := code_word (m := ⟨4, 1⟩) (meth := k4m1) (c := k4c1) (by decide +kernel) rfl rfl rfl (by decide +kernel)
def codes1 : List Jvm.Cond := [Jvm.Cond.code x code maxLocals ret, Jvm.Cond.code ({ cls := "com/example/onward/onward/check/RequirementRows", name := "<init>", desc := "(II)V" } : Jvm.MethodName) prog_61_method_1_code (4 : Nat) (Option.none : Option Jvm.ClassFile.FieldType), Jvm.Cond.code ({ cls := "java/lang/Object", name := "<init>", desc := "()V" } : Jvm.MethodName) object_method_1_code (1 : Nat) (Option.none : Option Jvm.ClassFile.FieldType), Jvm.Cond.code ({ cls := "com/example/onward/onward/check/RequirementRows", name := "part", desc := "(II)Lcom/example/onward/onward/check/RequirementRows$Part;" } : Jvm.MethodName) prog_61_method_2_code (3 : Nat) (Option.some (Jvm.ClassFile.FieldType.object "com/example/onward/onward/check/RequirementRows$Part")), Jvm.Cond.code ({ cls := "com/example/onward/onward/check/RequirementRows$Part", name := "<init>", desc := "(Lcom/example/onward/onward/check/RequirementRows;II)V" } : Jvm.MethodName) prog_63_method_1_code (4 : Nat) (Option.none : Option Jvm.ClassFile.FieldType), Jvm.Cond.code ({ cls := "com/example/onward/onward/check/RequirementRows$Part", name := "endState", desc := "()V" } : Jvm.MethodName) prog_63_method_7_code (2 : Nat) (Option.none : Option Jvm.ClassFile.FieldType), Jvm.Cond.code ({ cls := "com/example/onward/onward/check/RequirementRows", name := "join", desc := "(Lcom/example/onward/onward/check/RequirementRows$Part;)V" } : Jvm.MethodName) prog_61_method_3_code (4 : Nat) (Option.none : Option Jvm.ClassFile.FieldType), Jvm.Cond.code ({ cls := "com/example/onward/onward/check/RequirementRows", name := "raisesAny", desc := "(I)Z" } : Jvm.MethodName) prog_61_method_6_code (4 : Nat) (Option.some Jvm.ClassFile.FieldType.boolean), Jvm.Cond.code ({ cls := "com/example/onward/onward/check/RequirementRows$Part", name := "raise", desc := "(I)V" } : Jvm.MethodName) prog_63_method_4_code (2 : Nat) (Option.none : Option Jvm.ClassFile.FieldType), Jvm.Cond.code ({ cls := "com/example/onward/onward/lts/IntBlocks", name := "<init>", desc := "(Ljava/lang/String;)V" } : Jvm.MethodName) prog_286_method_1_code (2 : Nat) (Option.none : Option Jvm.ClassFile.FieldType), Jvm.Cond.code ({ cls := "com/example/onward/onward/check/RequirementRows$Part", name := "list", desc := "(I)V" } : Jvm.MethodName) prog_63_method_5_code (2 : Nat) (Option.none : Option Jvm.ClassFile.FieldType), Jvm.Cond.code ({ cls := "com/example/onward/onward/check/RequirementRows$Part", name := "endList", desc := "()V" } : Jvm.MethodName) prog_63_method_8_code (3 : Nat) (Option.none : Option Jvm.ClassFile.FieldType), Jvm.Cond.code ({ cls := "java/util/Arrays", name := "sort", desc := "([III)V" } : Jvm.MethodName) jdk_65_method_3_code (3 : Nat) (Option.none : Option Jvm.ClassFile.FieldType), Jvm.Cond.code ({ cls := "java/util/Arrays", name := "rangeCheck", desc := "(III)V" } : Jvm.MethodName) jdk_65_method_30_code (3 : Nat) (Option.none : Option Jvm.ClassFile.FieldType), Jvm.Cond.code ({ cls := "java/util/DualPivotQuicksort", name := "sort", desc := "([IIII)V" } : Jvm.MethodName) jdk_2529_method_3_code (7 : Nat) (Option.none : Option Jvm.ClassFile.FieldType), Jvm.Cond.code ({ cls := "java/util/DualPivotQuicksort", name := "sort", desc := "(Ljava/util/DualPivotQuicksort$Sorter;[IIII)V" } : Jvm.MethodName) jdk_2529_method_4_code (21 : Nat) (Option.none : Option Jvm.ClassFile.FieldType), Jvm.Cond.code ({ cls := "java/util/DualPivotQuicksort", name := "insertionSort", desc := "([III)V" } : Jvm.MethodName) jdk_2529_method_6_code (6 : Nat) (Option.none : Option Jvm.ClassFile.FieldType), Jvm.Cond.code ({ cls := "com/example/onward/onward/lts/IntBlocks", name := "add", desc := "(I)V" } : Jvm.MethodName) prog_286_method_7_code (5 : Nat) (Option.none : Option Jvm.ClassFile.FieldType), Jvm.Cond.code ({ cls := "com/example/onward/onward/lts/IntBlocks", name := "size", desc := "()I" } : Jvm.MethodName) prog_286_method_3_code (1 : Nat) (Option.some Jvm.ClassFile.FieldType.int)]
set_option maxRecDepth 65536 in
theorem codes_eq : words1.filter isCode = codes1 := rfl
theorem w_codes : ∀ c ∈ words1.filter isCode, c.before args0 about1 = true := by
  rw [codes_eq]
  intro c hc
  simp only [codes1, List.mem_cons, List.not_mem_nil, or_false] at hc
  rcases hc with rfl | rfl | rfl | rfl | rfl | rfl | rfl | rfl | rfl | rfl | rfl | rfl | rfl | rfl | rfl | rfl | rfl | rfl | rfl
  · exact w_c0
  · exact w_c1
  · exact w_c2
  · exact w_c3
  · exact w_c4
  · exact w_c5
  · exact w_c6
  · exact w_c7
  · exact w_c8
  · exact w_c9
  · exact w_c10
  · exact w_c11
  · exact w_c12
  · exact w_c13
  · exact w_c14
  · exact w_c15
  · exact w_c16
  · exact w_c17
  · exact w_c18
set_option maxRecDepth 65536 in
theorem w_t1 : (words1.take 24).all (fun c => isCode c || c.before args0 about1) = true := by decide +kernel
set_option maxRecDepth 65536 in
theorem w_t2 : ((words1.drop 24).take 24).all (fun c => isCode c || c.before args0 about1) = true := by decide +kernel
set_option maxRecDepth 65536 in
theorem w_t3 : (((words1.drop 24).drop 24).take 24).all (fun c => isCode c || c.before args0 about1) = true := by decide +kernel
set_option maxRecDepth 65536 in
theorem w_t4 : ((((words1.drop 24).drop 24).drop 24).take 24).all (fun c => isCode c || c.before args0 about1) = true := by decide +kernel
set_option maxRecDepth 65536 in
theorem w_t5 : (((((words1.drop 24).drop 24).drop 24).drop 24).take 24).all (fun c => isCode c || c.before args0 about1) = true := by decide +kernel
set_option maxRecDepth 65536 in
theorem w_t6 : ((((((words1.drop 24).drop 24).drop 24).drop 24).drop 24).take 24).all (fun c => isCode c || c.before args0 about1) = true := by decide +kernel
set_option maxRecDepth 65536 in
theorem w_t7 : ((((((words1.drop 24).drop 24).drop 24).drop 24).drop 24).drop 24).all (fun c => isCode c || c.before args0 about1) = true := by decide +kernel
theorem w_tables : (allAtoms (Jvm.Cond.code x code maxLocals ret :: tables_1)).before args0 about1 = true := by
  rw [allAtoms_all]
  show words1.all (fun c => c.before args0 about1) = true
  refine all_split ?_ w_codes
  rw [← List.take_append_drop 24 words1, List.all_append, w_t1, ← List.take_append_drop 24 (words1.drop 24), List.all_append, w_t2, ← List.take_append_drop 24 ((words1.drop 24).drop 24), List.all_append, w_t3, ← List.take_append_drop 24 (((words1.drop 24).drop 24).drop 24), List.all_append, w_t4, ← List.take_append_drop 24 ((((words1.drop 24).drop 24).drop 24).drop 24), List.all_append, w_t5, ← List.take_append_drop 24 (((((words1.drop 24).drop 24).drop 24).drop 24).drop 24), List.all_append, w_t6, w_t7]
  rfl
set_option maxRecDepth 65536 in
theorem w_case : (Jvm.Cond.and given_1 narrow_1).before args0 about1 = true := by decide +kernel
theorem w_applies : (headSpec (Jvm.Cond.code x code maxLocals ret :: tables_1) room_1).applies x e0.platform about1 = true :=
  (Spec.applies_iff w_frames).mpr ⟨w_running, w_runnable, w_alone, w_named, w_hears, w_ripe, w_room, w_tables⟩
theorem atStart : AtStart classFile x code maxLocals ret World_1 tables_1 room_1 Calls_1 rest_1 Pre_1 launch0 p0 e0 about1 theMethod args0 below0 :=
  ⟨lists_1, trivial, launch0.admits_env _ _ _, launch0.least_env, fairChoices_fair.cas, fairChoices_fair.clock, w_frames, w_args, w_heap, w_applies, trivial, trivial, w_case⟩
end start1
theorem witness_1 : WitnessClaimed_1 := ⟨start1.p0, start1.e0, start1.about1, start1.theMethod, start1.args0, start1.below0, start1.atStart⟩
end Jvm.Pilot.@@N@@
