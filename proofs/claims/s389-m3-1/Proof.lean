import JvmDerived
import JvmDerived.Pilot.@@N@@Statement
import JvmDerived.Pilot.@@N@@Code
set_option linter.unusedVariables false
set_option linter.unusedSimpArgs false
namespace Jvm.RoadKit
open Sem ClassFile Op Lib Jvm.Stand Jvm.Free Jvm.LawKit
section OwnKit
variable {p : Program} {l : Launch} {e : Env} {R : Room} {s : State} {m : MethodId} {args : Array Value} {below : List Frame} {meth : Method} {c : Code} {T : State} {locs : List Loc} {cells slots : Nat}
/-- a boolean as the machine's int -/
def b2i (b : Bool) : Int32 := bif b then 1 else 0
theorem b2i_t {b : Bool} (h : b = true) : ¬ b2i b = 0 := by subst h; decide
theorem b2i_f {b : Bool} (h : ¬ b = true) : b2i b = 0 := by cases b <;> first | rfl | exact absurd rfl h
theorem b2i_inj {a b : Bool} (h : b2i a = b2i b) : a = b := by cases a <;> cases b <;> first | rfl | exact absurd h (by decide)
theorem nar_b2i (b : Bool) : nar .boolean (b2i b) = b2i b := by cases b <;> decide
theorem let_of {α β : Type} {x : β} {z v : α} {b : α → β} (hz : z = v) (r : x = (let y := v; b y)) : x = b z := by subst hz; exact r
/-- from the state U the walk comes to an end that P holds of -/
def Go (tb : Tables) (e : Env) (below : List Frame) (P : Outcome → State → Prop) (U : State) : Prop := ∃ s₂ o, Steps tb e below U s₂ ∧ s₂.status = .running ∧ Ended s₂ below o ∧ P o s₂
theorem Go.back {tb : Tables} {P : Outcome → State → Prop} {U V : State} (h : ∀ t, Steps tb e below V t → Steps tb e below U t) (k : Go tb e below P V) : Go tb e below P U := by
  obtain ⟨s2, o, h1, h2⟩ := k
  exact ⟨s2, o, h _ h1, h2⟩
theorem Go.trans {tb : Tables} {P : Outcome → State → Prop} {U V : State} (h : Steps tb e below U V) (k : Go tb e below P V) : Go tb e below P U := by
  obtain ⟨s2, o, h1, h2⟩ := k
  exact ⟨s2, o, Steps.trans h h1, h2⟩
abbrev Fin (s : State) (Q : Option Value → Heap → List Loc → Prop) (K S : Nat) : Outcome → State → Prop := fun o U' => ∃ v L, o = .returned v ∧ Q v U'.heap L ∧ FrameEnd s o U' L K S
theorem retI0 (X : Stand p l e R s m args below meth c T locs cells slots) (hx : p.tables.exec = Jvm.exec) {pc : Nat} {Ls : Array Slot} {z : Int32} {rest : List Value} (hret : meth.sig.returnType = some .int) (hd : decode c.code pc = .ok (.ireturn, 1)) {fs : List Frame}
    (hl : ∀ (f : JFrame) (acts : List Action), f.method = m → f.locked = none → f.entered = [] → (doReturn e (T.setTop f) acts (some (.int z))).1 = T.setFrames fs) : Steps p.tables e below (T.setTop (mkF m pc Ls (.int z :: rest))) (T.setFrames fs) := by
  have hm' : T.vm.method? m = some meth := X.method'
  have hn : narrow .int (.int z) = .int z := rfl
  show Steps p.tables e below (T.setTop { method := m, pc := pc, locals := Ls, stack := _ :: rest, locked := none }) _
  jvm_step X.here [X.here.top, hx, hd, hm', hret, hn]
  first | (intro acts; rw [hl _ acts rfl rfl rfl]) | rw [hl _ _ rfl rfl rfl]
  exact Steps.refl _
theorem Go.retI (X : Stand p l e R s m args below meth c T locs cells slots) (hx : p.tables.exec = Jvm.exec) {pc : Nat} {Ls : Array Slot} {z : Int32} {rest : List Value} (hret : meth.sig.returnType = some .int) (hd : decode c.code pc = .ok (.ireturn, 1)) (hlk : meth.locks = false) {Q : Option Value → Heap → List Loc → Prop} {K S : Nat} (hQ : Q (some (.int z)) T.heap locs) (hc : cells ≤ K) (hs : slots ≤ S) :
    Go p.tables e below (Fin s Q K S) (T.setTop (mkF m pc Ls (.int z :: rest))) := by
  obtain ⟨fs, hr, hrun, hended, hW, hsame⟩ := X.leave (v := some (.int z)) (fun h => by rw [hret] at h; cases h) hlk
  exact ⟨_, _, retI0 X hx hret hd hr, hrun, hended, _, _, rfl, hQ, ⟨_, rfl⟩, hW, hsame.mono hc hs⟩
theorem Go.retN (X : Stand p l e R s m args below meth c T locs cells slots) (hx : p.tables.exec = Jvm.exec) {pc : Nat} {Ls : Array Slot} {z : Int32} {rest : List Value} {t : FieldType} (hret : meth.sig.returnType = some t) (ht : t = .boolean ∨ t = .byte ∨ t = .char ∨ t = .short) (hd : decode c.code pc = .ok (.ireturn, 1)) (hlk : meth.locks = false) {Q : Option Value → Heap → List Loc → Prop} {K S : Nat} (hQ : Q (some (.int (nar t z))) T.heap locs) (hc : cells ≤ K) (hs : slots ≤ S) :
    Go p.tables e below (Fin s Q K S) (T.setTop (mkF m pc Ls (.int z :: rest))) := by
  obtain ⟨fs, hr, hrun, hended, hW, hsame⟩ := X.leave (v := some (.int (nar t z))) (fun h => by rw [hret] at h; cases h) hlk
  exact ⟨_, _, Jvm.RoadKit.retN X hx hret ht hd hr, hrun, hended, _, _, rfl, hQ, ⟨_, rfl⟩, hW, hsame.mono hc hs⟩
theorem Go.retB (X : Stand p l e R s m args below meth c T locs cells slots) (hx : p.tables.exec = Jvm.exec) {pc : Nat} {Ls : Array Slot} {b : Bool} {rest : List Value} (hret : meth.sig.returnType = some .boolean) (hd : decode c.code pc = .ok (.ireturn, 1)) (hlk : meth.locks = false) {Q : Option Value → Heap → List Loc → Prop} {K S : Nat} (hQ : Q (some (.int (b2i b))) T.heap locs) (hc : cells ≤ K) (hs : slots ≤ S) :
    Go p.tables e below (Fin s Q K S) (T.setTop (mkF m pc Ls (.int (b2i b) :: rest))) := Go.retN X hx hret (Or.inl rfl) hd hlk (by rw [nar_b2i]; exact hQ) hc hs
theorem Go.retJ (X : Stand p l e R s m args below meth c T locs cells slots) (hx : p.tables.exec = Jvm.exec) {pc : Nat} {Ls : Array Slot} {z : Int64} (hret : meth.sig.returnType = some .long) (hd : decode c.code pc = .ok (.lreturn, 1)) (hlk : meth.locks = false) {Q : Option Value → Heap → List Loc → Prop} {K S : Nat} (hQ : Q (some (.long z)) T.heap locs) (hc : cells ≤ K) (hs : slots ≤ S) :
    Go p.tables e below (Fin s Q K S) (T.setTop (mkF m pc Ls [.long z])) := by
  obtain ⟨fs, hr, hrun, hended, hW, hsame⟩ := X.leave (v := some (.long z)) (fun h => by rw [hret] at h; cases h) hlk
  exact ⟨_, _, X.lreturnOut hx hret hd hr, hrun, hended, _, _, rfl, hQ, ⟨_, rfl⟩, hW, hsame.mono hc hs⟩
theorem Go.retR (X : Stand p l e R s m args below meth c T locs cells slots) (hx : p.tables.exec = Jvm.exec) {pc : Nat} {Ls : Array Slot} {a : Addr} {t : FieldType} (hret : meth.sig.returnType = some t) (ht : t.isReference = true) (hd : decode c.code pc = .ok (.areturn, 1)) (hlk : meth.locks = false) {Q : Option Value → Heap → List Loc → Prop} {K S : Nat} (hQ : Q (some (.ref a)) T.heap locs) (hc : cells ≤ K) (hs : slots ≤ S) :
    Go p.tables e below (Fin s Q K S) (T.setTop (mkF m pc Ls [.ref a])) := by
  obtain ⟨fs, hr, hrun, hended, hW, hsame⟩ := X.leave (v := some (.ref a)) (fun h => by rw [hret] at h; cases h) hlk
  exact ⟨_, _, X.areturnOut hx rfl hret ht hd hr, hrun, hended, _, _, rfl, hQ, ⟨_, rfl⟩, hW, hsame.mono hc hs⟩
theorem Go.retV (X : Stand p l e R s m args below meth c T locs cells slots) (hx : p.tables.exec = Jvm.exec) {pc : Nat} {Ls : Array Slot} (hret : meth.sig.returnType = none) (hd : decode c.code pc = .ok (.return_, 1)) (hlk : meth.locks = false) {Q : Option Value → Heap → List Loc → Prop} {K S : Nat} (hQ : Q none T.heap locs) (hc : cells ≤ K) (hs : slots ≤ S) :
    Go p.tables e below (Fin s Q K S) (T.setTop (mkF m pc Ls [])) := by
  obtain ⟨fs, hr, hrun, hended, hW, hsame⟩ := X.leave (v := none) (fun _ => rfl) hlk
  exact ⟨_, _, X.returnOut hx hret hd hr, hrun, hended, _, _, rfl, hQ, ⟨_, rfl⟩, hW, hsame.mono hc hs⟩
theorem lremM {g : JFrame} {target : State} (X : Stand p l e R s m args below meth c T locs cells slots) (hx : p.tables.exec = Jvm.exec) (hg : g.method = m) {x y : Int64} {rest : List Value} (hd : decode c.code g.pc = .ok (.lrem, 1)) (hs : g.stack = .long y :: .long x :: rest) (hy : y ≠ 0)
    (hr : Steps p.tables e below (T.setTop { g with pc := g.pc + 1, stack := .long (x % y) :: rest }) target) : Steps p.tables e below (T.setTop g) target :=
  XS.lrem X.here hx hg hd hs hy (by rw [lrem_mod x y]; exact hr)
/-- the slots written so far get a name -/
theorem pk (X : Stand p l e R s m args below meth c T locs cells slots) {k : Nat} (N : Fr k locs) : ∃ L, Stand p l e R s m args below meth c T L cells slots ∧ Fr k L := ⟨_, X, N⟩
theorem storeS_i {ls l' : Array Slot} {k : Nat} {o : Slot} {x : Int32} (hold : ls[k]? = some o) (h : One o) (q : ls.setIfInBounds k (.val (.int x)) = l') : storeLocals ls k (.int x) = some l' := by
  rw [XS.store1 hold h rfl, q]
theorem storeS_a {ls l' : Array Slot} {k : Nat} {o : Slot} {a : Addr} (hold : ls[k]? = some o) (h : One o) (q : ls.setIfInBounds k (.val (.ref a)) = l') : storeLocals ls k (.ref a) = some l' := by
  rw [XS.store1 hold h rfl, q]
end OwnKit
section OwnArr
variable {p : Program} {l : Launch} {e : Env} {R : Room} {s : State} {m : MethodId} {args : Array Value} {below : List Frame} {meth : Method} {c : Code} {T : State} {locs : List Loc} {cells slots : Nat} {Z : State} {h h' : Heap} {a b : Addr} {ty : FieldType} {vs : List Value} {v : Value} {sl : Nat} {ws : List Addr}
/-- the array at a, of the kind ty, holds just this list -/
def ArL (Z : State) (h : Heap) (a : Addr) (ty : FieldType) (vs : List Value) : Prop := ∃ c : Cell, Arr Z h a c ty ∧ c.slots.toList = vs
theorem ArL.lt (F : ArL Z h a ty vs) : a < h.size := by obtain ⟨c, A, -⟩ := F; exact A.lt
theorem ArL.ext (F : ArL Z h a ty vs) (E : Ext h h') : ArL Z h' a ty vs := by obtain ⟨c, A, r⟩ := F; exact ⟨c, A.ext E, r⟩
theorem ArL.other (F : ArL Z h b ty vs) (W : Wr h h' a sl v) (q : b ≠ a) : ArL Z h' b ty vs := by obtain ⟨c, A, r⟩ := F; exact ⟨c, A.other W q, r⟩
theorem ArL.keep (F : ArL Z h a ty vs) (K : Keep h h' ws) (q : a ∉ ws) : ArL Z h' a ty vs := by obtain ⟨c, A, r⟩ := F; exact ⟨c, ⟨K.2.1 a c A.1 q, A.2⟩, r⟩
theorem ArL.new {k : ClassId} {z : Int32} (A : Arr Z h a (newA k ty z) ty) {n : Nat} (q : z.toNatClampNeg = n) : ArL Z h a ty (List.replicate n (defaultValue ty)) := ⟨_, A, by subst q; simp [newA]⟩
theorem ArL.set (F : ArL Z h a ty vs) (W : Wr h h' a sl v) : ArL Z h' a ty (vs.set sl v) := by
  obtain ⟨c, A, r⟩ := F
  exact ⟨_, A.same W, by subst r; simp [Cell.setSlot]⟩
/-- a place of it: what a load and a store ask -/
theorem ArL.at (F : ArL Z h a ty vs) {j : Int32} (h0 : ¬ j < 0) (hj : j.toNatClampNeg < vs.length) : ∃ c : Cell, Arr Z h a c ty ∧ ¬ (j < 0 ∨ c.slots.size ≤ j.toNatClampNeg) ∧ c.slots[j.toNatClampNeg]? = some (vs[j.toNatClampNeg]'hj) := by
  obtain ⟨c, A, rfl⟩ := F
  have q : j.toNatClampNeg < c.slots.size := by simpa using hj
  refine ⟨c, A, fun z => z.elim h0 (fun y => absurd q (Nat.not_lt.mpr y)), ?_⟩
  rw [Array.getElem?_eq_getElem q]
  simp
theorem ArL.get (F : ArL Z h a ty vs) {j : Int32} (h0 : ¬ j < 0) (hv : vs[j.toNatClampNeg]? = some v) : ∃ c : Cell, Arr Z h a c ty ∧ ¬ (j < 0 ∨ c.slots.size ≤ j.toNatClampNeg) ∧ c.slots[j.toNatClampNeg]? = some v := by
  obtain ⟨hj, rfl⟩ := List.getElem?_eq_some_iff.mp hv
  exact F.at h0 hj
theorem ArL.setI {xs : List Int32} {x : Int32} {i : Nat} (F : ArL Z h a ty (List.map Value.int xs)) (W : Wr h h' a i (.int x)) : ArL Z h' a ty (List.map Value.int (xs.set i x)) := by
  rw [List.map_set]; exact F.set W
theorem ArL.setJ {xs : List Int64} {x : Int64} {i : Nat} (F : ArL Z h a ty (List.map Value.long xs)) (W : Wr h h' a i (.long x)) : ArL Z h' a ty (List.map Value.long (xs.set i x)) := by
  rw [List.map_set]; exact F.set W
theorem ArL.newI {k : ClassId} {z : Int32} (A : Arr Z h a (newA k ty z) ty) {n : Nat} (q : z.toNatClampNeg = n) (hd : defaultValue ty = .int 0 := by rfl) : ArL Z h a ty (List.map Value.int (List.replicate n (0 : Int32))) := by
  rw [List.map_replicate, ← hd]; exact ArL.new A q
theorem ArL.newJ {k : ClassId} {z : Int32} (A : Arr Z h a (newA k ty z) ty) {n : Nat} (q : z.toNatClampNeg = n) (hd : defaultValue ty = .long 0 := by rfl) : ArL Z h a ty (List.map Value.long (List.replicate n (0 : Int64))) := by
  rw [List.map_replicate, ← hd]; exact ArL.new A q
theorem getI (xs : List Int32) {i : Nat} (q : i < xs.length) : (List.map Value.int xs)[i]? = some (.int (xs.getD i 0)) := by
  rw [List.getElem?_map, List.getD_eq_getElem?_getD, List.getElem?_eq_getElem q]; rfl
theorem getJ (xs : List Int64) {i : Nat} (q : i < xs.length) : (List.map Value.long xs)[i]? = some (.long (xs.getD i 0)) := by
  rw [List.getElem?_map, List.getD_eq_getElem?_getD, List.getElem?_eq_getElem q]; rfl
theorem ArL.len (F : ArL Z h a ty vs) : ∃ c : Cell, Arr Z h a c ty ∧ c.slots.size = vs.length := by
  obtain ⟨c, A, rfl⟩ := F
  exact ⟨c, A, by simp⟩
end OwnArr
end Jvm.RoadKit
/- laws to paste: Road.backV, Road.lenW, Road.chN, Road.codOf (cut by pick.py; bodies as the Statement names them) -/
namespace Jvm.Pilot.@@N@@
namespace StrChars
open Jvm Sem ClassFile Op Lib Jvm.Stand Jvm.Free.XT Jvm.Free.ALB Jvm.Free.JM Jvm.Free
open Jvm.Lib.Cold (StaticIs)
/-- a char array whose places are chars -/
def Ch (a : Addr) (A : Cell) (U : State) : Prop := Arr .char a A U ∧ Typed .char A
theorem Ch.mv {a : Addr} {A : Cell} {U U' : State} (h : Ch a A U) (hal : U.vm.Alike U'.vm) (hh : U'.heap = U.heap) : Ch a A U' := ⟨h.1.mv hal hh, h.2⟩
theorem Ch.keep {a : Addr} {A : Cell} {U U' : State} (h : Ch a A U) (hal : U.vm.Alike U'.vm) (hk : U'.heap[a]? = some A) : Ch a A U' := ⟨h.1.keep hal hk, h.2⟩
/-- what place i of a char[]'s cell holds -/
def cv (A : Cell) (i : Nat) : Int32 := match A.slots[i]? with | some (.int x) => x | _ => 0
theorem Ch.get {a : Addr} {A : Cell} {U : State} (h : Ch a A U) {i : Nat} (hi : i < A.slots.size) : A.slots[i]? = some (.int (cv A i)) := by
  have e := Array.getElem?_eq_getElem hi
  have f := h.2 i _ e
  unfold cv; rw [e]
  generalize A.slots[i] = v at f
  cases v <;> simp [fits] at f ⊢
/-- the byte that i2b leaves of a char -/
def lo8 (x : Int32) : Int32 := x.toInt8.toInt32
theorem fits_lo8 (y : Int32) : fits .byte (.int (lo8 y)) = true := by
  have h1 := y.toInt8.le_toInt
  have h2 := y.toInt8.toInt_lt
  simp only [lo8, fits, Bool.and_eq_true, decide_eq_true_eq, Int32.le_iff_toInt_le, Int8.toInt_toInt32, show (-128 : Int32).toInt = -128 from by decide, show (127 : Int32).toInt = 127 from by decide]
  omega
/-- A' is A but that each place j of lo .. hi - 1 holds f j -/
def Laid (A A' : Cell) (lo hi : Nat) (f : Nat → Value) : Prop := A'.cls = A.cls ∧ A'.vm = A.vm ∧ A'.slots.size = A.slots.size ∧ ∀ i, A'.slots[i]? = if lo ≤ i ∧ i < hi then some (f i) else A.slots[i]?
theorem Laid.zero (A : Cell) (lo : Nat) (f : Nat → Value) : Laid A A lo (lo + 0) f := ⟨rfl, rfl, rfl, fun i => by rw [if_neg (by omega)]⟩
theorem Laid.step {A Ak : Cell} {lo k : Nat} {f : Nat → Value} {v : Value} (h : Laid A Ak lo k f) (hlo : lo ≤ k) (hk : k < Ak.slots.size) (hv : v = f k) : Laid A (Ak.setSlot k v) lo (k + 1) f := by
  refine ⟨h.1, h.2.1, by simpa [Cell.setSlot] using h.2.2.1, fun i => ?_⟩
  by_cases e : k = i
  · subst e; rw [Cell.slots_setSlot_self v hk, if_pos (by omega), hv]
  · rw [Cell.slots_setSlot_ne v e, h.2.2.2 i]
    by_cases q : lo ≤ i ∧ i < k
    · rw [if_pos q, if_pos (by omega)]
    · rw [if_neg q, if_neg (by omega)]
def U16 : String := "java/lang/StringUTF16"
namespace Cmp5
def yN : MethodName := ⟨"java/lang/StringUTF16", "compress", "([CI[BII)I"⟩
abbrev yB : ByteArray := jdk_52_method_21_code
theorem d0 : decode yB 0 = .ok (.iconst 0, 1) := by decide +kernel
theorem d1 : decode yB 1 = .ok (.istore 5, 2) := by decide +kernel
theorem d3 : decode yB 3 = .ok (.iload 5, 2) := by decide +kernel
theorem d5 : decode yB 5 = .ok (.iload 4, 2) := by decide +kernel
theorem d7 : decode yB 7 = .ok (.if_icmp (.ge) 37, 3) := by decide +kernel
theorem d10 : decode yB 10 = .ok (.aload_n 0, 1) := by decide +kernel
theorem d11 : decode yB 11 = .ok (.iload_n 1, 1) := by decide +kernel
theorem d12 : decode yB 12 = .ok (.caload, 1) := by decide +kernel
theorem d13 : decode yB 13 = .ok (.istore 6, 2) := by decide +kernel
theorem d15 : decode yB 15 = .ok (.iload 6, 2) := by decide +kernel
theorem d17 : decode yB 17 = .ok (.sipush 255, 3) := by decide +kernel
theorem d20 : decode yB 20 = .ok (.if_icmp (.le) 6, 3) := by decide +kernel
theorem d26 : decode yB 26 = .ok (.aload_n 2, 1) := by decide +kernel
theorem d27 : decode yB 27 = .ok (.iload_n 3, 1) := by decide +kernel
theorem d28 : decode yB 28 = .ok (.iload 6, 2) := by decide +kernel
theorem d30 : decode yB 30 = .ok (.i2b, 1) := by decide +kernel
theorem d31 : decode yB 31 = .ok (.bastore, 1) := by decide +kernel
theorem d32 : decode yB 32 = .ok (.iinc 1 1, 3) := by decide +kernel
theorem d35 : decode yB 35 = .ok (.iinc 3 1, 3) := by decide +kernel
theorem d38 : decode yB 38 = .ok (.iinc 5 1, 3) := by decide +kernel
theorem d41 : decode yB 41 = .ok (.goto (-38), 3) := by decide +kernel
theorem d44 : decode yB 44 = .ok (.iload 4, 2) := by decide +kernel
theorem d46 : decode yB 46 = .ok (.ireturn, 1) := by decide +kernel
def site : List Cond := []
def tab : Cond := tabOf yN yB 7 (some .int) site
def P (b : Addr) (A : Cell) (d : Addr) (B : Cell) (o q len : Nat) (args : Array Value) (s : State) : Prop := args = #[.ref b, .int (Int32.ofNat o), .ref d, .int (Int32.ofNat q), .int (Int32.ofNat len)] ∧ Ch b A s ∧ Arr .byte d B s ∧ b ≠ d ∧ o + len ≤ A.slots.size ∧ q + len ≤ B.slots.size ∧ ∀ i, i < len → ¬ 255 < cv A (o + i)
def E (b : Addr) (A : Cell) (d : Addr) (B : Cell) (o q len : Nat) (r : Option Value) (s u : State) : Prop := r = some (.int (Int32.ofNat len)) ∧ ∃ B', Put d B' s u ∧ Laid B B' q (q + len) (fun j => Value.int (lo8 (cv A (o + (j - q)))))
/-- no char of the range above 255: len; the places written hold each char's low byte -/
theorem law (l : Launch) (b : Addr) (A : Cell) (d : Addr) (B : Cell) (o q len : Nat) : Law l yN 5 5 0 0 yB 7 (some .int) site (P b A d B o q len) (E b A d B o q len) (copyLocs d q len) 0 0 := by
  refine Law.of_walk (plainFor_of_name (by decide +kernel)) (by decide +kernel) (by decide +kernel) (by decide) (fun _ _ h => by rw [h.1]; rfl) (fun _ U U' hal hh h => ⟨h.1, h.2.1.mv hal hh, h.2.2.1.mv hal hh, h.2.2.2⟩) (fun r U U' V V' h1 hal h2 h => ⟨h.1, h.2.elim fun B' q => ⟨B', q.1.mv h1 h2, q.2⟩⟩) ?_
  intro p e s m args below meth c s₁ X0 hexec hbytes hml hret hlk hnm hown hh0 W hP
  obtain ⟨rfl, hA, hB, hne, l1, l2, hp⟩ := hP
  have c1 : Steps p.tables e below (s₁.setTop (entryFrame m #[.ref b, .int (Int32.ofNat o), .ref d, .int (Int32.ofNat q), .int (Int32.ofNat len)] 7)) (s₁.setTop (mkF m 0 #[.val (.ref b), .val (.int (Int32.ofNat o)), .val (.ref d), .val (.int (Int32.ofNat q)), .val (.int (Int32.ofNat len)), .unset, .unset] [])) := entry rfl
  have hA0 := hA.1.mv X0.warmed.alike hh0
  have hB0 := hB.mv X0.warmed.alike hh0
  have a31 := hA.1.2.2.2
  have c2 : Steps p.tables e below (s₁.setTop (entryFrame m #[.ref b, .int (Int32.ofNat o), .ref d, .int (Int32.ofNat q), .int (Int32.ofNat len)] 7)) (s₁.setTop (mkF m 3 #[.val (.ref b), .val (.int (Int32.ofNat o)), .val (.ref d), .val (.int (Int32.ofNat q)), .val (.int (Int32.ofNat len)), .val (.int 0), .unset] [])) := c1.trans (by
    refine iconstV X0.here hexec rfl 0 (hb hbytes d0) (by decide) ?_
    refine XS.istore X0.here hexec rfl (hb hbytes d1) rfl rfl ?_
    exact Steps.refl _)
  have loop : ∀ (r i : Nat), i + r = len → ∀ (z : Slot), (z = .unset ∨ ∃ w, z = .val w ∧ w.category = 1) → ∀ (Tl : State) (Bk : Cell), Stand p l e { frames := 0, locals := 0, cells := 0, slots := 0 } s m #[.ref b, .int (Int32.ofNat o), .ref d, .int (Int32.ofNat q), .int (Int32.ofNat len)] below meth c Tl ([] ++ copyLocs d q i) 0 0 → Put d Bk s₁ Tl → Laid B Bk q (q + i) (fun j => Value.int (lo8 (cv A (o + (j - q))))) →
      Steps p.tables e below (s₁.setTop (entryFrame m #[.ref b, .int (Int32.ofNat o), .ref d, .int (Int32.ofNat q), .int (Int32.ofNat len)] 7)) (Tl.setTop (mkF m 3 #[.val (.ref b), .val (.int (Int32.ofNat (o + i))), .val (.ref d), .val (.int (Int32.ofNat (q + i))), .val (.int (Int32.ofNat len)), .val (.int (Int32.ofNat i)), z] [])) → ∃ (T' : State) (B' : Cell) (z' : Slot), Stand p l e { frames := 0, locals := 0, cells := 0, slots := 0 } s m #[.ref b, .int (Int32.ofNat o), .ref d, .int (Int32.ofNat q), .int (Int32.ofNat len)] below meth c T' ([] ++ copyLocs d q len) 0 0 ∧ Put d B' s₁ T' ∧ Laid B B' q (q + len) (fun j => Value.int (lo8 (cv A (o + (j - q))))) ∧
      Steps p.tables e below (s₁.setTop (entryFrame m #[.ref b, .int (Int32.ofNat o), .ref d, .int (Int32.ofNat q), .int (Int32.ofNat len)] 7)) (T'.setTop (mkF m 3 #[.val (.ref b), .val (.int (Int32.ofNat (o + len))), .val (.ref d), .val (.int (Int32.ofNat (q + len))), .val (.int (Int32.ofNat len)), .val (.int (Int32.ofNat len)), z'] [])) := by
    intro r
    induction r with
    | zero =>
      intro i hi z hz Tl Bk Xl pl fl cl
      have hil : i = len := by omega
      rw [hil] at Xl fl cl
      exact ⟨Tl, Bk, z, Xl, pl, fl, cl⟩
    | succ r ih =>
      intro i hi z hz Tl Bk Xl pl fl cl
      have all := X0.warmed.alike.symm.trans Xl.warmed.alike
      have hAl := hA0.keep all (pl.other hne hA0.1)
      have hBk := hB0.like all pl.1 fl.1 fl.2.1 fl.2.2.1
      have hlt : q + i < Bk.slots.size := by rw [fl.2.2.1]; omega
      have c3 : Steps p.tables e below (s₁.setTop (entryFrame m #[.ref b, .int (Int32.ofNat o), .ref d, .int (Int32.ofNat q), .int (Int32.ofNat len)] 7)) (Tl.setTop (mkF m 12 #[.val (.ref b), .val (.int (Int32.ofNat (o + i))), .val (.ref d), .val (.int (Int32.ofNat (q + i))), .val (.int (Int32.ofNat len)), .val (.int (Int32.ofNat i)), z] [.int (Int32.ofNat (o + i)), .ref b])) := cl.trans (by
        refine XS.iload Xl.here hexec rfl (hb hbytes d3) rfl ?_
        refine XS.iload Xl.here hexec rfl (hb hbytes d5) rfl ?_
        refine XS.icmpNo Xl.here hexec rfl (hb hbytes d7) rfl (ii_ge_f (lt32 (by omega) (by omega))) ?_
        refine XS.aloadN Xl.here hexec rfl (hb hbytes d10) rfl rfl ?_
        refine XS.iloadN Xl.here hexec rfl (hb hbytes d11) rfl ?_
        exact Steps.refl _)
      have c4 : Steps p.tables e below (s₁.setTop (entryFrame m #[.ref b, .int (Int32.ofNat o), .ref d, .int (Int32.ofNat q), .int (Int32.ofNat len)] 7)) (Tl.setTop (mkF m 13 #[.val (.ref b), .val (.int (Int32.ofNat (o + i))), .val (.ref d), .val (.int (Int32.ofNat (q + i))), .val (.int (Int32.ofNat len)), .val (.int (Int32.ofNat i)), z] [.int (cv A (o + i))])) := c3.trans (by
        refine Xl.aget hexec hAl rfl (hA.get (i := o + i) (by omega)) rfl rfl (hb hbytes d12) ?_
        exact Steps.refl _)
      have c5 : Steps p.tables e below (s₁.setTop (entryFrame m #[.ref b, .int (Int32.ofNat o), .ref d, .int (Int32.ofNat q), .int (Int32.ofNat len)] 7)) (Tl.setTop (mkF m 15 #[.val (.ref b), .val (.int (Int32.ofNat (o + i))), .val (.ref d), .val (.int (Int32.ofNat (q + i))), .val (.int (Int32.ofNat len)), .val (.int (Int32.ofNat i)), .val (.int (cv A (o + i)))] [])) := c4.trans (by
        refine XS.istoreS Xl.here hexec rfl (hb hbytes d13) rfl rfl hz ?_
        exact Steps.refl _)
      have c6 : Steps p.tables e below (s₁.setTop (entryFrame m #[.ref b, .int (Int32.ofNat o), .ref d, .int (Int32.ofNat q), .int (Int32.ofNat len)] 7)) (Tl.setTop (mkF m 31 #[.val (.ref b), .val (.int (Int32.ofNat (o + i))), .val (.ref d), .val (.int (Int32.ofNat (q + i))), .val (.int (Int32.ofNat len)), .val (.int (Int32.ofNat i)), .val (.int (cv A (o + i)))] [.int (lo8 (cv A (o + i))), .int (Int32.ofNat (q + i)), .ref d])) := c5.trans (by
        refine XS.iload Xl.here hexec rfl (hb hbytes d15) rfl ?_
        refine sipushV Xl.here hexec rfl 255 (hb hbytes d17) (by decide) ?_
        refine XS.icmpYes Xl.here hexec rfl (pc0 := 20) rfl (hb hbytes d20) rfl (ii_le_t (hp i (by omega))) (by decide) rfl ?_
        refine XS.aloadN Xl.here hexec rfl (hb hbytes d26) rfl rfl ?_
        refine XS.iloadN Xl.here hexec rfl (hb hbytes d27) rfl ?_
        refine XS.iload Xl.here hexec rfl (hb hbytes d28) rfl ?_
        refine i2b Xl.here hexec rfl (hb hbytes d30) rfl ?_
        exact Steps.refl _)
      obtain ⟨T7, X7, p7, st7⟩ := Xl.aput hexec hBk rfl hlt rfl (fits_lo8 (cv A (o + i))) (g := (mkF m 31 #[.val (.ref b), .val (.int (Int32.ofNat (o + i))), .val (.ref d), .val (.int (Int32.ofNat (q + i))), .val (.int (Int32.ofNat len)), .val (.int (Int32.ofNat i)), .val (.int (cv A (o + i)))] [.int (lo8 (cv A (o + i))), .int (Int32.ofNat (q + i)), .ref d])) rfl (rest := []) rfl (hb hbytes d31)
      have c8 : Steps p.tables e below (s₁.setTop (entryFrame m #[.ref b, .int (Int32.ofNat o), .ref d, .int (Int32.ofNat q), .int (Int32.ofNat len)] 7)) (T7.setTop (mkF m 32 #[.val (.ref b), .val (.int (Int32.ofNat (o + i))), .val (.ref d), .val (.int (Int32.ofNat (q + i))), .val (.int (Int32.ofNat len)), .val (.int (Int32.ofNat i)), .val (.int (cv A (o + i)))] [])) := c6.trans (st7 _ (Steps.refl _))
      have c9 : Steps p.tables e below (s₁.setTop (entryFrame m #[.ref b, .int (Int32.ofNat o), .ref d, .int (Int32.ofNat q), .int (Int32.ofNat len)] 7)) (T7.setTop (mkF m 3 #[.val (.ref b), .val (.int (Int32.ofNat (o + i) + 1)), .val (.ref d), .val (.int (Int32.ofNat (q + i) + 1)), .val (.int (Int32.ofNat len)), .val (.int (Int32.ofNat i + 1)), .val (.int (cv A (o + i)))] [])) := c8.trans (by
        refine iincV X7.here hexec rfl 1 (hb hbytes d32) (by decide) rfl rfl ?_
        refine iincV X7.here hexec rfl 1 (hb hbytes d35) (by decide) rfl rfl ?_
        refine iincV X7.here hexec rfl 1 (hb hbytes d38) (by decide) rfl rfl ?_
        refine XS.goto X7.here hexec rfl (pc0 := 41) rfl (hb hbytes d41) (by decide) rfl ?_
        exact Steps.refl _)
      have c10 : Steps p.tables e below (s₁.setTop (entryFrame m #[.ref b, .int (Int32.ofNat o), .ref d, .int (Int32.ofNat q), .int (Int32.ofNat len)] 7)) (T7.setTop (mkF m 3 #[.val (.ref b), .val (.int (Int32.ofNat (o + (i + 1)))), .val (.ref d), .val (.int (Int32.ofNat (q + (i + 1)))), .val (.int (Int32.ofNat len)), .val (.int (Int32.ofNat (i + 1))), .val (.int (cv A (o + i)))] [])) := by
        have := c9
        rw [succ32, succ32, succ32] at this
        exact this
      exact ih (i + 1) (by omega) _ (Or.inr ⟨_, rfl, rfl⟩) T7 _ (by rw [copyLocs_step, ← List.append_assoc]; exact X7) (pl.trans p7) (fl.step (by omega) hlt (by simp)) c10
  obtain ⟨T9, B9, z9, X9, p9, f9, g9⟩ := loop len 0 (by omega) .unset (Or.inl rfl) s₁ B (by simpa [copyLocs] using X0) ⟨hB0.1, fun _ _ => rfl, rfl⟩ (Laid.zero _ _ _) c2
  have c11 : Steps p.tables e below (s₁.setTop (entryFrame m #[.ref b, .int (Int32.ofNat o), .ref d, .int (Int32.ofNat q), .int (Int32.ofNat len)] 7)) (T9.setTop (mkF m 46 #[.val (.ref b), .val (.int (Int32.ofNat (o + len))), .val (.ref d), .val (.int (Int32.ofNat (q + len))), .val (.int (Int32.ofNat len)), .val (.int (Int32.ofNat len)), z9] [.int (Int32.ofNat len)])) := g9.trans (by
    refine XS.iload X9.here hexec rfl (hb hbytes d3) rfl ?_
    refine XS.iload X9.here hexec rfl (hb hbytes d5) rfl ?_
    refine XS.icmpYes X9.here hexec rfl (pc0 := 7) rfl (hb hbytes d7) rfl (ii_ge_t (nlt32 (by omega) (Nat.le_refl _))) (by decide) rfl ?_
    refine XS.iload X9.here hexec rfl (hb hbytes d44) rfl ?_
    exact Steps.refl _)
  exact ⟨T9, some (.int (Int32.ofNat len)), _, _, _, X9, by simp, rfl, rfl, (fun h => by cases h), ⟨rfl, B9, p9.from hh0, f9⟩, fun fs hl => c11.trans (X9.ireturnOut hexec hret rfl (Or.inl rfl) (hb hbytes d46) hl)⟩
end Cmp5
namespace Cmp3
def yN : MethodName := ⟨"java/lang/StringUTF16", "compress", "([CII)[B"⟩
abbrev yB : ByteArray := jdk_52_method_16_code
theorem d0 : decode yB 0 = .ok (.iload_n 2, 1) := by decide +kernel
theorem d1 : decode yB 1 = .ok (.newarray .byte, 2) := by decide +kernel
theorem d3 : decode yB 3 = .ok (.astore_n 3, 1) := by decide +kernel
theorem d4 : decode yB 4 = .ok (.aload_n 0, 1) := by decide +kernel
theorem d5 : decode yB 5 = .ok (.iload_n 1, 1) := by decide +kernel
theorem d6 : decode yB 6 = .ok (.aload_n 3, 1) := by decide +kernel
theorem d7 : decode yB 7 = .ok (.iconst 0, 1) := by decide +kernel
theorem d8 : decode yB 8 = .ok (.iload_n 2, 1) := by decide +kernel
theorem d9 : decode yB 9 = .ok (.invokestatic 115, 3) := by decide +kernel
theorem d12 : decode yB 12 = .ok (.istore 4, 2) := by decide +kernel
theorem d14 : decode yB 14 = .ok (.iload 4, 2) := by decide +kernel
theorem d16 : decode yB 16 = .ok (.iload_n 2, 1) := by decide +kernel
theorem d17 : decode yB 17 = .ok (.if_icmp (.eq) 40, 3) := by decide +kernel
theorem d57 : decode yB 57 = .ok (.aload_n 3, 1) := by decide +kernel
theorem d58 : decode yB 58 = .ok (.areturn, 1) := by decide +kernel
def site : List Cond := [.arrayClass .byte, Cmp5.tab] ++ staticW U16 115 Cmp5.yN
def tab : Cond := tabOf yN yB 6 (some (.array .byte)) site
def P (b : Addr) (A : Cell) (o len : Nat) (args : Array Value) (s : State) : Prop := args = #[.ref b, .int (Int32.ofNat o), .int (Int32.ofNat len)] ∧ Ch b A s ∧ o + len ≤ A.slots.size ∧ len ≤ 536870912 ∧ ∀ i, i < len → ¬ 255 < cv A (o + i)
def E (b : Addr) (A : Cell) (o len : Nat) (r : Option Value) (s u : State) : Prop := NewArr .byte "[B" len (fun j => .int (lo8 (cv A (o + j)))) r s u ∧ u.heap.size = s.heap.size + 1
/-- no char of the range above 255: a new byte[] of their low bytes -/
theorem law (l : Launch) (b : Addr) (A : Cell) (o len : Nat) : Law l yN 3 3 1 18 yB 6 (some (.array .byte)) site (P b A o len) (E b A o len) [] 1 len := by
  refine Law.of_walk (plainFor_of_name (by decide +kernel)) (by decide +kernel) (by decide +kernel) (by decide) (fun _ _ h => by rw [h.1]; rfl) (fun _ U U' hal hh h => ⟨h.1, h.2.1.mv hal hh, h.2.2⟩) (fun r U U' V V' h1 hal h2 h => ⟨NewArr.mv r U U' V V' h1 hal h2 h.1, by rw [h1, h2]; exact h.2⟩) ?_
  intro p e s m args below meth c s₁ X0 hexec hbytes hml hret hlk hnm hown hh0 W hP
  obtain ⟨rfl, hA, l1, l2, hp⟩ := hP
  have a31 := hA.1.2.2.2
  have c1 : Steps p.tables e below (s₁.setTop (entryFrame m #[.ref b, .int (Int32.ofNat o), .int (Int32.ofNat len)] 6)) (s₁.setTop (mkF m 0 #[.val (.ref b), .val (.int (Int32.ofNat o)), .val (.int (Int32.ofNat len)), .unset, .unset, .unset] [])) := entry rfl
  have c2 : Steps p.tables e below (s₁.setTop (entryFrame m #[.ref b, .int (Int32.ofNat o), .int (Int32.ofNat len)] 6)) (s₁.setTop (mkF m 1 #[.val (.ref b), .val (.int (Int32.ofNat o)), .val (.int (Int32.ofNat len)), .unset, .unset, .unset] [.int (Int32.ofNat len)])) := c1.trans (by
    refine XS.iloadN X0.here hexec rfl (hb hbytes d0) rfl ?_
    exact Steps.refl _)
  obtain ⟨T3, B3, X3, ba3, bs3, bv3, bh3, bf3, st3⟩ := X0.anew hexec (atype := .byte) (wk W (.arrayClass .byte)) rfl (by show len * 1 ≤ _; omega) (by omega) (g := (mkF m 1 #[.val (.ref b), .val (.int (Int32.ofNat o)), .val (.int (Int32.ofNat len)), .unset, .unset, .unset] [.int (Int32.ofNat len)])) rfl (hb hbytes d1) (rest := []) rfl (Nat.le_refl _) (by show 0 + len ≤ len; omega)
  rw [hh0] at ba3 st3
  have kp3 : XT.Kept s T3 := (XT.Kept.of_eq hh0).push bh3
  have hA3 := hA.keep X3.warmed.alike (kp3 _ _ hA.1.1)
  have hne : b ≠ s.heap.size := hA.1.ne
  have c4 : Steps p.tables e below (s₁.setTop (entryFrame m #[.ref b, .int (Int32.ofNat o), .int (Int32.ofNat len)] 6)) (T3.setTop (mkF m 3 #[.val (.ref b), .val (.int (Int32.ofNat o)), .val (.int (Int32.ofNat len)), .unset, .unset, .unset] [.ref s.heap.size])) := c2.trans (st3 _ (Steps.refl _))
  have c5 : Steps p.tables e below (s₁.setTop (entryFrame m #[.ref b, .int (Int32.ofNat o), .int (Int32.ofNat len)] 6)) (T3.setTop (mkF m 9 #[.val (.ref b), .val (.int (Int32.ofNat o)), .val (.int (Int32.ofNat len)), .val (.ref s.heap.size), .unset, .unset] [.int (Int32.ofNat len), .int 0, .ref s.heap.size, .int (Int32.ofNat o), .ref b])) := c4.trans (by
    refine XS.astoreN X3.here hexec rfl (hb hbytes d3) rfl rfl rfl ?_
    refine XS.aloadN X3.here hexec rfl (hb hbytes d4) rfl rfl ?_
    refine XS.iloadN X3.here hexec rfl (hb hbytes d5) rfl ?_
    refine XS.aloadN X3.here hexec rfl (hb hbytes d6) rfl rfl ?_
    refine iconstV X3.here hexec rfl 0 (hb hbytes d7) (by decide) ?_
    refine XS.iloadN X3.here hexec rfl (hb hbytes d8) rfl ?_
    exact Steps.refl _)
  obtain ⟨v6, T6, X6, E6, g6⟩ := X3.callS hexec (Cmp5.law l b A s.heap.size B3 o 0 len) hown (wks W (staticW U16 115 Cmp5.yN)) (wk W Cmp5.tab) (W := 0) (Nat.le_of_ble_eq_true rfl) (Nat.le_of_ble_eq_true rfl) (Nat.le_refl _) (by show 0 + len + 0 ≤ len; omega) (g := (mkF m 9 #[.val (.ref b), .val (.int (Int32.ofNat o)), .val (.int (Int32.ofNat len)), .val (.ref s.heap.size), .unset, .unset] [.int (Int32.ofNat len), .int (Int32.ofNat 0), .ref s.heap.size, .int (Int32.ofNat o), .ref b])) rfl (by rw [hml]; rfl) c5 (argsL := [.ref b, .int (Int32.ofNat o), .ref s.heap.size, .int (Int32.ofNat 0), .int (Int32.ofNat len)]) (rest := []) rfl rfl (by show 2 * 0 + 0 ≤ _; decide) (hb hbytes d9) (⟨rfl, hA3, ba3, hne, l1, by rw [bs3]; simp, hp⟩)
  obtain ⟨rfl, B6, p6, f6⟩ := E6
  have c7 : Steps p.tables e below (s₁.setTop (entryFrame m #[.ref b, .int (Int32.ofNat o), .int (Int32.ofNat len)] 6)) (T6.setTop (mkF m 12 #[.val (.ref b), .val (.int (Int32.ofNat o)), .val (.int (Int32.ofNat len)), .val (.ref s.heap.size), .unset, .unset] [.int (Int32.ofNat len)])) := g6
  have c8 : Steps p.tables e below (s₁.setTop (entryFrame m #[.ref b, .int (Int32.ofNat o), .int (Int32.ofNat len)] 6)) (T6.setTop (mkF m 58 #[.val (.ref b), .val (.int (Int32.ofNat o)), .val (.int (Int32.ofNat len)), .val (.ref s.heap.size), .val (.int (Int32.ofNat len)), .unset] [.ref s.heap.size])) := c7.trans (by
    refine XS.istore X6.here hexec rfl (hb hbytes d12) rfl rfl ?_
    refine XS.iload X6.here hexec rfl (hb hbytes d14) rfl ?_
    refine XS.iloadN X6.here hexec rfl (hb hbytes d16) rfl ?_
    refine XS.icmpYes X6.here hexec rfl (pc0 := 17) rfl (hb hbytes d17) rfl (ii_eq_t rfl) (by decide) rfl ?_
    refine XS.aloadN X6.here hexec rfl (hb hbytes d57) rfl rfl ?_
    exact Steps.refl _)
  have X8 := X6.wide (L' := []) (cells' := 1) (slots' := len) (fun x hx hlt => by
    simp only [List.nil_append, copyLocs, List.mem_map, List.mem_range] at hx
    obtain ⟨i, -, rfl⟩ := hx
    exact absurd hlt (Nat.lt_irrefl _)) (Nat.le_refl _) (by omega)
  exact ⟨T6, some (.ref s.heap.size), _, _, _, X8, rfl, rfl, rfl, (fun h => by cases h), ⟨⟨rfl, B6, ba3.like (X3.warmed.alike.symm.trans X6.warmed.alike) p6.1 f6.1 f6.2.1 f6.2.2.1, f6.2.1.trans bv3, by rw [X6.warmed.alike.findClass, f6.1]; exact bf3, by rw [f6.2.2.1, bs3]; simp, fun j hj => by rw [f6.2.2.2 j, if_pos (by omega)]; rfl, kp3.put p6 (Nat.le_refl _)⟩, by rw [p6.2.2, bh3, hh0]; simp⟩, fun fs hl => c8.trans (X8.areturnOut hexec rfl hret rfl (hb hbytes d58) hl)⟩
end Cmp3
namespace CodL
def yN : MethodName := ⟨"java/lang/StringUTF16", "coderFromArrayLen", "([BI)B"⟩
abbrev yB : ByteArray := jdk_52_method_15_code
theorem d0 : decode yB 0 = .ok (.iload_n 1, 1) := by decide +kernel
theorem d1 : decode yB 1 = .ok (.aload_n 0, 1) := by decide +kernel
theorem d2 : decode yB 2 = .ok (.arraylength, 1) := by decide +kernel
theorem d3 : decode yB 3 = .ok (.isub, 1) := by decide +kernel
theorem d4 : decode yB 4 = .ok (.bipush 31, 2) := by decide +kernel
theorem d6 : decode yB 6 = .ok (.iushr, 1) := by decide +kernel
theorem d7 : decode yB 7 = .ok (.i2b, 1) := by decide +kernel
theorem d8 : decode yB 8 = .ok (.ireturn, 1) := by decide +kernel
def site : List Cond := []
def tab : Cond := tabOf yN yB 2 (some .byte) site
def P (d : Addr) (B : Cell) (args : Array Value) (s : State) : Prop := args = #[.ref d, .int (Int32.ofNat B.slots.size)] ∧ Arr .byte d B s
def E (r : Option Value) (s u : State) : Prop := XT.PureE (some (.int 0)) r s u
/-- an array as long as the number of chars: LATIN1 -/
theorem law (l : Launch) (d : Addr) (B : Cell) : Law l yN 2 2 0 0 yB 2 (some .byte) site (P d B) E [] 0 0 := by
  refine Law.of_walk (plainFor_of_name (by decide +kernel)) (by decide +kernel) (by decide +kernel) (by decide) (fun _ _ h => by rw [h.1]; rfl) (fun _ U U' hal hh h => ⟨h.1, h.2.mv hal hh⟩) (fun r U U' V V' h1 hal h2 h => XT.PureE.mv r U U' V V' h1 hal h2 h) ?_
  intro p e s m args below meth c s₁ X0 hexec hbytes hml hret hlk hnm hown hh0 W hP
  obtain ⟨rfl, hB⟩ := hP
  have hB0 := hB.mv X0.warmed.alike hh0
  have c1 : Steps p.tables e below (s₁.setTop (entryFrame m #[.ref d, .int (Int32.ofNat B.slots.size)] 2)) (s₁.setTop (mkF m 0 #[.val (.ref d), .val (.int (Int32.ofNat B.slots.size))] [])) := entry rfl
  have c2 : Steps p.tables e below (s₁.setTop (entryFrame m #[.ref d, .int (Int32.ofNat B.slots.size)] 2)) (s₁.setTop (mkF m 2 #[.val (.ref d), .val (.int (Int32.ofNat B.slots.size))] [.ref d, .int (Int32.ofNat B.slots.size)])) := c1.trans (by
    refine XS.iloadN X0.here hexec rfl (hb hbytes d0) rfl ?_
    refine XS.aloadN X0.here hexec rfl (hb hbytes d1) rfl rfl ?_
    exact Steps.refl _)
  have c3 : Steps p.tables e below (s₁.setTop (entryFrame m #[.ref d, .int (Int32.ofNat B.slots.size)] 2)) (s₁.setTop (mkF m 8 #[.val (.ref d), .val (.int (Int32.ofNat B.slots.size))] [.int (lo8 (ushr (Int32.ofNat B.slots.size - Int32.ofNat B.slots.size) 31))])) := c2.trans (by
    refine X0.alen hexec hB0 rfl rfl (hb hbytes d2) ?_
    refine XS.isub X0.here hexec rfl (hb hbytes d3) rfl ?_
    refine bipushV X0.here hexec rfl 31 (hb hbytes d4) (by decide) ?_
    refine iushr X0.here hexec rfl (hb hbytes d6) rfl ?_
    refine i2b X0.here hexec rfl (hb hbytes d7) rfl ?_
    exact Steps.refl _)
  have e0 : lo8 (ushr (Int32.ofNat B.slots.size - Int32.ofNat B.slots.size) 31) = 0 := by rw [Int32.sub_self]; decide
  rw [e0] at c3
  exact ⟨s₁, some (.int 0), _, _, _, X0, rfl, rfl, rfl, (fun h => by cases h), ⟨rfl, hh0⟩, fun fs hl => c3.trans (X0.ireturnOut hexec hret rfl (Or.inr (Or.inr (Or.inl rfl))) (hb hbytes d8) hl)⟩
end CodL
/-- the String at a is Latin-1 over a new byte[] (the heap's one new cell): the low bytes of the len chars of A from o on; every cell but a is kept -/
def Got (a : Addr) (D : Cell) (fV fC : Field) (A : Cell) (o len : Nat) (r : Option Value) (s u : State) : Prop := r = none ∧ ∃ D' V : Cell, Blank "java/lang/String" a D' u ∧ Same D D' [fV.slot, fC.slot] ∧ D'.slots[fV.slot]? = some (.ref s.heap.size) ∧ D'.slots[fC.slot]? = some (.int 0) ∧ Arr .byte s.heap.size V u ∧ V.vm = .none ∧ u.vm.findClass "[B" = some V.cls ∧ V.slots.size = len ∧ (∀ j, j < len → V.slots[j]? = some (.int (lo8 (cv A (o + j))))) ∧ (∀ (y : Addr) (c : Cell), y ≠ a → s.heap[y]? = some c → u.heap[y]? = some c) ∧ u.heap.size = s.heap.size + 1
theorem Got.mv {a : Addr} {D A : Cell} {fV fC : Field} {o len : Nat} : ∀ r (U U' V V' : State), U'.heap = U.heap → V.vm.Alike V'.vm → V'.heap = V.heap → Got a D fV fC A o len r U V → Got a D fV fC A o len r U' V' :=
  fun r U U' V V' h1 hal h2 ⟨e0, D', X, a1, a2, a3, a4, a5, a6, a7, a8, a9, a10, a11⟩ => ⟨e0, D', X, a1.mv hal h2, a2, by rw [h1]; exact a3, a4, by rw [h1]; exact a5.mv hal h2, a6, by rw [hal.findClass]; exact a7, a8, a9, by rw [h1, h2]; exact a10, by rw [h1, h2]; exact a11⟩
namespace New4
def yN : MethodName := ⟨"java/lang/String", "<init>", "([CIILjava/lang/Void;)V"⟩
abbrev yB : ByteArray := jdk_42_method_149_code
theorem d0 : decode yB 0 = .ok (.aload_n 0, 1) := by decide +kernel
theorem d1 : decode yB 1 = .ok (.invokespecial 1, 3) := by decide +kernel
theorem d4 : decode yB 4 = .ok (.iload_n 3, 1) := by decide +kernel
theorem d5 : decode yB 5 = .ok (.ifCond (.ne) 22, 3) := by decide +kernel
theorem d27 : decode yB 27 = .ok (.getstatic 38, 3) := by decide +kernel
theorem d30 : decode yB 30 = .ok (.ifCond (.eq) 28, 3) := by decide +kernel
theorem d33 : decode yB 33 = .ok (.aload_n 1, 1) := by decide +kernel
theorem d34 : decode yB 34 = .ok (.iload_n 2, 1) := by decide +kernel
theorem d35 : decode yB 35 = .ok (.iload_n 3, 1) := by decide +kernel
theorem d36 : decode yB 36 = .ok (.invokestatic 177, 3) := by decide +kernel
theorem d39 : decode yB 39 = .ok (.astore 5, 2) := by decide +kernel
theorem d41 : decode yB 41 = .ok (.aload_n 0, 1) := by decide +kernel
theorem d42 : decode yB 42 = .ok (.aload 5, 2) := by decide +kernel
theorem d44 : decode yB 44 = .ok (.iload_n 3, 1) := by decide +kernel
theorem d45 : decode yB 45 = .ok (.invokestatic 47, 3) := by decide +kernel
theorem d48 : decode yB 48 = .ok (.putfield 15, 3) := by decide +kernel
theorem d51 : decode yB 51 = .ok (.aload_n 0, 1) := by decide +kernel
theorem d52 : decode yB 52 = .ok (.aload 5, 2) := by decide +kernel
theorem d54 : decode yB 54 = .ok (.putfield 9, 3) := by decide +kernel
theorem d57 : decode yB 57 = .ok (.return_, 1) := by decide +kernel
def site : List Cond := [.fieldLink "java/lang/String" 38 "java/lang/String" "COMPACT_STRINGS" "Z", Cmp3.tab, CodL.tab, .laysFinal "java/lang/String" "java/lang/String" "value" "[B", .fieldLink "java/lang/String" 9 "java/lang/String" "value" "[B", .laysFinal "java/lang/String" "java/lang/String" "coder" "B", .fieldLink "java/lang/String" 15 "java/lang/String" "coder" "B"] ++ objW "java/lang/String" 1 ++ staticW "java/lang/String" 177 Cmp3.yN ++ staticW "java/lang/String" 47 CodL.yN
def tab : Cond := tabOf yN yB 6 none site
def P (a : Addr) (D : Cell) (fV fC : Field) (b : Addr) (A : Cell) (z : Int32) (o len : Nat) (args : Array Value) (s : State) : Prop := args = #[.ref a, .ref b, .int (Int32.ofNat o), .int (Int32.ofNat len), .null] ∧ Blank "java/lang/String" a D s ∧ Found "java/lang/String" "value" "[B" fV s ∧ Found "java/lang/String" "coder" "B" fC s ∧ Ch b A s ∧ StaticIs s "java/lang/String" "COMPACT_STRINGS" "Z" (.int z) ∧ ¬ z = 0 ∧ 0 < len ∧ o + len ≤ A.slots.size ∧ len ≤ 536870912 ∧ ∀ i, i < len → ¬ 255 < cv A (o + i)
def E (a : Addr) (D : Cell) (fV fC : Field) (A : Cell) (o len : Nat) (r : Option Value) (s u : State) : Prop := Got a D fV fC A o len r s u
/-- len > 0, no char of the range above 255: a Latin-1 String of their low bytes -/
theorem law (l : Launch) (a : Addr) (D : Cell) (fV fC : Field) (b : Addr) (A : Cell) (z : Int32) (o len : Nat) : Law l yN 5 4 2 35 yB 6 none site (P a D fV fC b A z o len) (E a D fV fC A o len) [⟨a, fC.slot⟩, ⟨a, fV.slot⟩] 1 len := by
  refine Law.of_walk (plainFor_of_name (by decide +kernel)) (by decide +kernel) (by decide +kernel) (by decide) (fun _ _ h => by rw [h.1]; rfl) (fun _ U U' hal hh h => ⟨h.1, h.2.1.mv hal hh, h.2.2.1.al hal, h.2.2.2.1.al hal, h.2.2.2.2.1.mv hal hh, h.2.2.2.2.2.1.there hal hh, h.2.2.2.2.2.2⟩) (fun r U U' V V' h1 hal h2 h => Got.mv r U U' V V' h1 hal h2 h) ?_
  intro p e s m args below meth c s₁ X0 hexec hbytes hml hret hlk hnm hown hh0 W hP
  obtain ⟨rfl, hB, f1, f2, hA, s1, hz, l0, l1, l2, hp⟩ := hP
  have a31 := hA.1.2.2.2
  have c1 : Steps p.tables e below (s₁.setTop (entryFrame m #[.ref a, .ref b, .int (Int32.ofNat o), .int (Int32.ofNat len), .null] 6)) (s₁.setTop (mkF m 0 #[.val (.ref a), .val (.ref b), .val (.int (Int32.ofNat o)), .val (.int (Int32.ofNat len)), .val .null, .unset] [])) := entry rfl
  have c2 : Steps p.tables e below (s₁.setTop (entryFrame m #[.ref a, .ref b, .int (Int32.ofNat o), .int (Int32.ofNat len), .null] 6)) (s₁.setTop (mkF m 1 #[.val (.ref a), .val (.ref b), .val (.int (Int32.ofNat o)), .val (.int (Int32.ofNat len)), .val .null, .unset] [.ref a])) := c1.trans (by
    refine XS.aloadN X0.here hexec rfl (hb hbytes d0) rfl rfl ?_
    exact Steps.refl _)
  obtain ⟨T3, X3, q3, st3⟩ := X0.oinit hexec hown (wks W (objW "java/lang/String" 1)) (g := (mkF m 1 #[.val (.ref a), .val (.ref b), .val (.int (Int32.ofNat o)), .val (.int (Int32.ofNat len)), .val .null, .unset] [.ref a])) rfl (by rw [hml]; rfl) (rest := []) rfl (hb hbytes d1) (W := 0) (by show 2 * 0 + 0 ≤ _; decide) (Nat.le_of_ble_eq_true rfl) (Nat.le_of_ble_eq_true rfl)
  have hh3 := q3.trans hh0
  have c4 : Steps p.tables e below (s₁.setTop (entryFrame m #[.ref a, .ref b, .int (Int32.ofNat o), .int (Int32.ofNat len), .null] 6)) (T3.setTop (mkF m 27 #[.val (.ref a), .val (.ref b), .val (.int (Int32.ofNat o)), .val (.int (Int32.ofNat len)), .val .null, .unset] [])) := (c2.trans (st3 _ (Steps.refl _))).trans (by
    refine XS.iloadN X3.here hexec rfl (hb hbytes d4) rfl ?_
    refine XS.ifYes X3.here hexec rfl (pc0 := 5) rfl (hb hbytes d5) rfl (i0_ne_t (nz32 (by omega) l0)) (by decide) rfl ?_
    exact Steps.refl _)
  obtain ⟨T5, X5, q5, st5⟩ := X3.sget hexec hown (wk W (.fieldLink "java/lang/String" 38 "java/lang/String" "COMPACT_STRINGS" "Z")) s1 (fun _ _ h => by rw [hh3]; exact h) (g := (mkF m 27 #[.val (.ref a), .val (.ref b), .val (.int (Int32.ofNat o)), .val (.int (Int32.ofNat len)), .val .null, .unset] [])) rfl (hb hbytes d27)
  have hh5 := q5.trans hh3
  have c6 : Steps p.tables e below (s₁.setTop (entryFrame m #[.ref a, .ref b, .int (Int32.ofNat o), .int (Int32.ofNat len), .null] 6)) (T5.setTop (mkF m 30 #[.val (.ref a), .val (.ref b), .val (.int (Int32.ofNat o)), .val (.int (Int32.ofNat len)), .val .null, .unset] [.int z])) := c4.trans (st5 _ (Steps.refl _))
  have c7 : Steps p.tables e below (s₁.setTop (entryFrame m #[.ref a, .ref b, .int (Int32.ofNat o), .int (Int32.ofNat len), .null] 6)) (T5.setTop (mkF m 36 #[.val (.ref a), .val (.ref b), .val (.int (Int32.ofNat o)), .val (.int (Int32.ofNat len)), .val .null, .unset] [.int (Int32.ofNat len), .int (Int32.ofNat o), .ref b])) := c6.trans (by
    refine XS.ifNo X5.here hexec rfl (hb hbytes d30) rfl (i0_eq_f hz) ?_
    refine XS.aloadN X5.here hexec rfl (hb hbytes d33) rfl rfl ?_
    refine XS.iloadN X5.here hexec rfl (hb hbytes d34) rfl ?_
    refine XS.iloadN X5.here hexec rfl (hb hbytes d35) rfl ?_
    exact Steps.refl _)
  obtain ⟨v8, T8, X8, E8, g8⟩ := X5.callS hexec (Cmp3.law l b A o len) hown (wks W (staticW "java/lang/String" 177 Cmp3.yN)) (wk W Cmp3.tab) (W := 0) (Nat.le_of_ble_eq_true rfl) (Nat.le_of_ble_eq_true rfl) (Nat.le_refl _) (by show 0 + len ≤ len; omega) (g := (mkF m 36 #[.val (.ref a), .val (.ref b), .val (.int (Int32.ofNat o)), .val (.int (Int32.ofNat len)), .val .null, .unset] [.int (Int32.ofNat len), .int (Int32.ofNat o), .ref b])) rfl (by rw [hml]; rfl) c7 (argsL := [.ref b, .int (Int32.ofNat o), .int (Int32.ofNat len)]) (rest := []) rfl rfl (by show 2 * 0 + 0 ≤ _; decide) (hb hbytes d36) (⟨rfl, hA.mv X5.warmed.alike hh5, l1, l2, hp⟩)
  obtain ⟨e8, z8⟩ := E8
  obtain ⟨rfl, N, n1, n2, n3, n4, n5, n6⟩ := NewArr.mv _ T5 s _ _ hh5.symm (Vm.Alike.refl _) rfl e8
  rw [hh5] at z8
  have hB1 := hB.keep X8.warmed.alike (n6 _ _ hB.1)
  have hne : s.heap.size ≠ a := (Nat.ne_of_lt (Array.getElem?_eq_some_iff.mp hB.1).1).symm
  have c9 : Steps p.tables e below (s₁.setTop (entryFrame m #[.ref a, .ref b, .int (Int32.ofNat o), .int (Int32.ofNat len), .null] 6)) (T8.setTop (mkF m 39 #[.val (.ref a), .val (.ref b), .val (.int (Int32.ofNat o)), .val (.int (Int32.ofNat len)), .val .null, .unset] [.ref s.heap.size])) := g8
  have c10 : Steps p.tables e below (s₁.setTop (entryFrame m #[.ref a, .ref b, .int (Int32.ofNat o), .int (Int32.ofNat len), .null] 6)) (T8.setTop (mkF m 45 #[.val (.ref a), .val (.ref b), .val (.int (Int32.ofNat o)), .val (.int (Int32.ofNat len)), .val .null, .val (.ref s.heap.size)] [.int (Int32.ofNat N.slots.size), .ref s.heap.size, .ref a])) := by
    have hc : Steps p.tables e below (s₁.setTop (entryFrame m #[.ref a, .ref b, .int (Int32.ofNat o), .int (Int32.ofNat len), .null] 6)) (T8.setTop (mkF m 45 #[.val (.ref a), .val (.ref b), .val (.int (Int32.ofNat o)), .val (.int (Int32.ofNat len)), .val .null, .val (.ref s.heap.size)] [.int (Int32.ofNat len), .ref s.heap.size, .ref a])) := c9.trans (by
      refine XS.astore X8.here hexec rfl (hb hbytes d39) rfl rfl rfl ?_
      refine XS.aloadN X8.here hexec rfl (hb hbytes d41) rfl rfl ?_
      refine XS.aload X8.here hexec rfl (hb hbytes d42) rfl rfl ?_
      refine XS.iloadN X8.here hexec rfl (hb hbytes d44) rfl ?_
      exact Steps.refl _)
    rw [n4]; exact hc
  obtain ⟨v11, T11, X11, E11, g11⟩ := X8.callS hexec (CodL.law l s.heap.size N) hown (wks W (staticW "java/lang/String" 47 CodL.yN)) (wk W CodL.tab) (W := 1) (Nat.le_of_ble_eq_true rfl) (Nat.le_of_ble_eq_true rfl) (Nat.le_refl _) (by show 0 + len + 0 ≤ len; omega) (g := (mkF m 45 #[.val (.ref a), .val (.ref b), .val (.int (Int32.ofNat o)), .val (.int (Int32.ofNat len)), .val .null, .val (.ref s.heap.size)] [.int (Int32.ofNat N.slots.size), .ref s.heap.size, .ref a])) rfl (by rw [hml]; rfl) c10 (argsL := [.ref s.heap.size, .int (Int32.ofNat N.slots.size)]) (rest := [.ref a]) rfl rfl (by show 2 * 0 + (1 + 0) ≤ _; decide) (hb hbytes d45) (⟨rfl, n1⟩)
  obtain ⟨rfl, q11⟩ := E11
  have hB11 := hB1.mv (X8.warmed.alike.symm.trans X11.warmed.alike) q11
  have c12 : Steps p.tables e below (s₁.setTop (entryFrame m #[.ref a, .ref b, .int (Int32.ofNat o), .int (Int32.ofNat len), .null] 6)) (T11.setTop (mkF m 48 #[.val (.ref a), .val (.ref b), .val (.int (Int32.ofNat o)), .val (.int (Int32.ofNat len)), .val .null, .val (.ref s.heap.size)] [.int 0, .ref a])) := g11
  obtain ⟨T13, X13, p13, bl13, sl13, st13⟩ := X11.finit hexec hown (wk W (.fieldLink "java/lang/String" 15 "java/lang/String" "coder" "B")) (Or.inr ⟨_, (wk W (.laysFinal "java/lang/String" "java/lang/String" "coder" "B"))⟩) (Or.inl ⟨rfl, hnm⟩) f2 (Or.inl rfl) hB11 (t := .byte) (by decide +kernel) rfl (g := (mkF m 48 #[.val (.ref a), .val (.ref b), .val (.int (Int32.ofNat o)), .val (.int (Int32.ofNat len)), .val .null, .val (.ref s.heap.size)] [.int 0, .ref a])) rfl (rest := []) rfl (hb hbytes d48)
  have c14 : Steps p.tables e below (s₁.setTop (entryFrame m #[.ref a, .ref b, .int (Int32.ofNat o), .int (Int32.ofNat len), .null] 6)) (T13.setTop (mkF m 54 #[.val (.ref a), .val (.ref b), .val (.int (Int32.ofNat o)), .val (.int (Int32.ofNat len)), .val .null, .val (.ref s.heap.size)] [.ref s.heap.size, .ref a])) := (c12.trans (st13 _ (Steps.refl _))).trans (by
    refine XS.aloadN X13.here hexec rfl (hb hbytes d51) rfl rfl ?_
    refine XS.aload X13.here hexec rfl (hb hbytes d52) rfl rfl ?_
    exact Steps.refl _)
  obtain ⟨T15, X15, p15, bl15, sl15, st15⟩ := X13.finit hexec hown (wk W (.fieldLink "java/lang/String" 9 "java/lang/String" "value" "[B")) (Or.inr ⟨_, (wk W (.laysFinal "java/lang/String" "java/lang/String" "value" "[B"))⟩) (Or.inl ⟨rfl, hnm⟩) f1 (Or.inl rfl) bl13 (t := (.array .byte)) (by decide +kernel) rfl (g := (mkF m 54 #[.val (.ref a), .val (.ref b), .val (.int (Int32.ofNat o)), .val (.int (Int32.ofNat len)), .val .null, .val (.ref s.heap.size)] [.ref s.heap.size, .ref a])) rfl (rest := []) rfl (hb hbytes d54)
  have c16 : Steps p.tables e below (s₁.setTop (entryFrame m #[.ref a, .ref b, .int (Int32.ofNat o), .int (Int32.ofNat len), .null] 6)) (T15.setTop (mkF m 57 #[.val (.ref a), .val (.ref b), .val (.int (Int32.ofNat o)), .val (.int (Int32.ofNat len)), .val .null, .val (.ref s.heap.size)] [])) := c14.trans (st15 _ (Steps.refl _))
  have ap := apart (Or.inr ⟨_, (wk W (.laysFinal "java/lang/String" "java/lang/String" "value" "[B"))⟩) (Or.inr ⟨_, (wk W (.laysFinal "java/lang/String" "java/lang/String" "coder" "B"))⟩) f1 f2 (t₁ := .array .byte) (t₂ := .byte) (by decide +kernel) (by decide +kernel) (by decide)
  have al := X8.warmed.alike.symm.trans X15.warmed.alike
  have n7 : T11.heap[s.heap.size]? = some N := by rw [q11]; exact n1.1
  exact ⟨T15, none, _, _, _, X15, by simp, rfl, by omega, (fun _ => rfl), ⟨rfl, _, N, bl15, ((Same.refl D _).set _ (by simp)).set _ (by simp), sl15, (Cell.slots_setSlot_ne _ ap).trans sl13, n1.keep al (p15.other hne (p13.other hne n7)), n2, by rw [al.findClass]; exact n3, n4, n5, fun y c h1 h2 => p15.other h1 (p13.other h1 (by rw [q11]; exact n6 y c h2)), by rw [p15.2.2, p13.2.2, q11]; exact z8⟩, fun fs hl => c16.trans (X15.returnOut hexec hret (hb hbytes d57) hl)⟩
end New4
namespace New1
def yN : MethodName := ⟨"java/lang/String", "<init>", "([C)V"⟩
abbrev yB : ByteArray := jdk_42_method_3_code
theorem d0 : decode yB 0 = .ok (.aload_n 0, 1) := by decide +kernel
theorem d1 : decode yB 1 = .ok (.aload_n 1, 1) := by decide +kernel
theorem d2 : decode yB 2 = .ok (.iconst 0, 1) := by decide +kernel
theorem d3 : decode yB 3 = .ok (.aload_n 1, 1) := by decide +kernel
theorem d4 : decode yB 4 = .ok (.arraylength, 1) := by decide +kernel
theorem d5 : decode yB 5 = .ok (.aconst_null, 1) := by decide +kernel
theorem d6 : decode yB 6 = .ok (.invokespecial 27, 3) := by decide +kernel
theorem d9 : decode yB 9 = .ok (.return_, 1) := by decide +kernel
def site : List Cond := [New4.tab] ++ initW "java/lang/String" 27 New4.yN
def tab : Cond := tabOf yN yB 2 none site
def P (a : Addr) (D : Cell) (fV fC : Field) (b : Addr) (A : Cell) (z : Int32) (args : Array Value) (s : State) : Prop := args = #[.ref a, .ref b] ∧ Blank "java/lang/String" a D s ∧ Found "java/lang/String" "value" "[B" fV s ∧ Found "java/lang/String" "coder" "B" fC s ∧ Ch b A s ∧ StaticIs s "java/lang/String" "COMPACT_STRINGS" "Z" (.int z) ∧ ¬ z = 0 ∧ 0 < A.slots.size ∧ A.slots.size ≤ 536870912 ∧ ∀ i, i < A.slots.size → ¬ 255 < cv A i
def E (a : Addr) (D : Cell) (fV fC : Field) (A : Cell) (r : Option Value) (s u : State) : Prop := Got a D fV fC A 0 A.slots.size r s u
/-- new String(chars), not empty, no char above 255: a Latin-1 String of their low bytes -/
theorem law (l : Launch) (a : Addr) (D : Cell) (fV fC : Field) (b : Addr) (A : Cell) (z : Int32) : Law l yN 2 1 3 52 yB 2 none site (P a D fV fC b A z) (E a D fV fC A) [⟨a, fC.slot⟩, ⟨a, fV.slot⟩] 1 A.slots.size := by
  refine Law.of_walk (plainFor_of_name (by decide +kernel)) (by decide +kernel) (by decide +kernel) (by decide) (fun _ _ h => by rw [h.1]; rfl) (fun _ U U' hal hh h => ⟨h.1, h.2.1.mv hal hh, h.2.2.1.al hal, h.2.2.2.1.al hal, h.2.2.2.2.1.mv hal hh, h.2.2.2.2.2.1.there hal hh, h.2.2.2.2.2.2⟩) (fun r U U' V V' h1 hal h2 h => Got.mv r U U' V V' h1 hal h2 h) ?_
  intro p e s m args below meth c s₁ X0 hexec hbytes hml hret hlk hnm hown hh0 W hP
  obtain ⟨rfl, hB, f1, f2, hA, s1, hz, l0, l2, hp⟩ := hP
  have c1 : Steps p.tables e below (s₁.setTop (entryFrame m #[.ref a, .ref b] 2)) (s₁.setTop (mkF m 0 #[.val (.ref a), .val (.ref b)] [])) := entry rfl
  have c2 : Steps p.tables e below (s₁.setTop (entryFrame m #[.ref a, .ref b] 2)) (s₁.setTop (mkF m 6 #[.val (.ref a), .val (.ref b)] [.null, .int (Int32.ofNat A.slots.size), .int 0, .ref b, .ref a])) := c1.trans (by
    refine XS.aloadN X0.here hexec rfl (hb hbytes d0) rfl rfl ?_
    refine XS.aloadN X0.here hexec rfl (hb hbytes d1) rfl rfl ?_
    refine iconstV X0.here hexec rfl 0 (hb hbytes d2) (by decide) ?_
    refine XS.aloadN X0.here hexec rfl (hb hbytes d3) rfl rfl ?_
    refine X0.alen hexec (hA.1.mv X0.warmed.alike hh0) rfl rfl (hb hbytes d4) ?_
    refine XS.aconstNull X0.here hexec rfl (hb hbytes d5) ?_
    exact Steps.refl _)
  obtain ⟨v3, T3, X3, E3, g3⟩ := X0.callN hexec (New4.law l a D fV fC b A z 0 A.slots.size) rfl hown (wks W (initW "java/lang/String" 27 New4.yN)) (W New4.tab (by simp only [site, List.mem_cons, List.mem_append, true_or, or_true])) (W := 0) (Nat.le_of_ble_eq_true rfl) (Nat.le_of_ble_eq_true rfl) (Nat.le_refl _) (by show 0 + A.slots.size ≤ A.slots.size; omega) (g := (mkF m 6 #[.val (.ref a), .val (.ref b)] [.null, .int (Int32.ofNat A.slots.size), .int (Int32.ofNat 0), .ref b, .ref a])) rfl (by rw [hml]; rfl) c2 (argsL := [.ref b, .int (Int32.ofNat 0), .int (Int32.ofNat A.slots.size), .null]) (rest := []) rfl rfl (by show 2 * 0 + 0 ≤ _; decide) (hb hbytes d6) (⟨rfl, hB.mv X0.warmed.alike hh0, f1.al X0.warmed.alike, f2.al X0.warmed.alike, hA.mv X0.warmed.alike hh0, s1.there X0.warmed.alike hh0, hz, l0, by omega, l2, fun i hi => by rw [Nat.zero_add]; exact hp i hi⟩)
  have e0 := Got.mv _ s₁ s _ _ hh0.symm (Vm.Alike.refl _) rfl E3
  obtain rfl := e0.1
  have c4 : Steps p.tables e below (s₁.setTop (entryFrame m #[.ref a, .ref b] 2)) (T3.setTop (mkF m 9 #[.val (.ref a), .val (.ref b)] [])) := g3
  exact ⟨T3, none, _, _, _, X3, by simp, rfl, by omega, (fun _ => rfl), e0, fun fs hl => c4.trans (X3.returnOut hexec hret (hb hbytes d9) hl)⟩
theorem pays {l : Launch} {R : Room} {p : Program} {e : Env} {below : List Frame} {s : State} {sargs : Array Value} {len W : Nat} (a : Addr) (D : Cell) (fV fC : Field) (b : Addr) (A : Cell) (z : Int32) (htab : tab.before sargs s = true) (hfr : 4 ≤ R.frames) (hlo : W + 65 ≤ R.locals) :
    Back l R p e below s sargs yN len W (fun A₁ a₁ => A₁.cells + 1 ≤ R.cells ∧ A₁.slots + A.slots.size ≤ R.slots ∧ P a D fV fC b A z a₁ A₁.U) (fun A₁ _ v₁ B₁ => E a D fV fC A v₁ A₁.U B₁.U ∧ B₁.locs = A₁.locs ++ [⟨a, fC.slot⟩, ⟨a, fV.slot⟩] ∧ B₁.cells = A₁.cells + 1 ∧ B₁.slots = A₁.slots + A.slots.size) :=
  (law l a D fV fC b A z).pays htab hfr (by omega)
end New1
/-- the byte, read back as charAt reads it, is the char -/
theorem lo8_mask {x : Int32} (h0 : ¬ x < 0) (h1 : ¬ 255 < x) : lo8 x &&& 255 = x := by
  have t : ∀ k : Fin 256, lo8 (Int32.ofNat k.val) &&& 255 = Int32.ofNat k.val := by decide +kernel
  rw [Int32.lt_iff_toInt_lt] at h0 h1
  have e0 : (0 : Int32).toInt = 0 := rfl
  have e1 : (255 : Int32).toInt = 255 := rfl
  obtain ⟨k, hk⟩ : ∃ k : Nat, x.toInt = k := ⟨x.toInt.toNat, by omega⟩
  have hx : x = Int32.ofNat k := Int32.toInt_inj.mp (by rw [hk, Int32.toInt_ofNat_small (by omega)])
  rw [hx]
  exact t ⟨k, by omega⟩
end StrChars
namespace StrChars.Road
open Jvm Sem ClassFile Op Lib Jvm.Stand Jvm.Free Jvm.Free.XT
open Jvm.Lib.Cold (StaticIs)
abbrev ST : String := "java/lang/String"
/-- every table word that New1's law asks, flat -/
abbrev words : List Jvm.Cond := [.code New1.yN New1.yB 2 none, .initialized ST, .methodLink ST 27 New4.yN, .instanceMethod New4.yN,
  .code New4.yN New4.yB 6 none, .fieldLink ST 38 ST "COMPACT_STRINGS" "Z", .laysFinal ST ST "value" "[B", .fieldLink ST 9 ST "value" "[B", .laysFinal ST ST "coder" "B", .fieldLink ST 15 ST "coder" "B",
  .methodLink ST 1 Lib.objectInit, .instanceMethod Lib.objectInit, .code Lib.objectInit ⟨#[0xb1]⟩ 1 none, .methodLink ST 177 Cmp3.yN, .static Cmp3.yN, .methodLink ST 47 CodL.yN, .static CodL.yN,
  .code Cmp3.yN Cmp3.yB 6 (some (.array .byte)), .initialized U16, .arrayClass .byte, .methodLink U16 115 Cmp5.yN, .static Cmp5.yN, .code Cmp5.yN Cmp5.yB 7 (some .int), .code CodL.yN CodL.yB 2 (some .byte)]
theorem tab_of {a : Array Value} {s : State} (h : ∀ w ∈ words, w.before a s = true) : New1.tab.before a s = true := by
  have h5 : Cmp5.tab.before a s = true := unparts (wk h (.code Cmp5.yN Cmp5.yB 7 (some .int))) (wks h (.initialized Cmp5.yN.cls :: Cmp5.site))
  have hc : CodL.tab.before a s = true := unparts (wk h (.code CodL.yN CodL.yB 2 (some .byte))) (wks h (.initialized CodL.yN.cls :: CodL.site))
  have q5 : ∀ w ∈ Cmp5.tab :: words, w.before a s = true := fun w hw => (List.mem_cons.mp hw).elim (fun e => e ▸ h5) (h w)
  have h3 : Cmp3.tab.before a s = true := unparts (wk q5 (.code Cmp3.yN Cmp3.yB 6 (some (.array .byte)))) (wks q5 (.initialized Cmp3.yN.cls :: Cmp3.site))
  have q3 : ∀ w ∈ Cmp3.tab :: CodL.tab :: words, w.before a s = true := fun w hw => (List.mem_cons.mp hw).elim (fun e => e ▸ h3) fun hw => (List.mem_cons.mp hw).elim (fun e => e ▸ hc) (h w)
  have h4 : New4.tab.before a s = true := unparts (wk q3 (.code New4.yN New4.yB 6 none)) (wks q3 (.initialized New4.yN.cls :: New4.site))
  have q4 : ∀ w ∈ New4.tab :: words, w.before a s = true := fun w hw => (List.mem_cons.mp hw).elim (fun e => e ▸ h4) (h w)
  exact unparts (wk q4 (.code New1.yN New1.yB 2 none)) (wks q4 (.initialized New1.yN.cls :: New1.site))
/-- the words ride from the start Z to the walk's own state -/
theorem moved {Z s : State} {a0 args : Array Value} (hZ : Z.Warmed39 s.vm) (hw : ∀ d ∈ words, d.before a0 Z = true) : ∀ d ∈ words, d.before args s = true := fun d hd => by
  have q := hw d hd
  have t : ∀ d ∈ words, d = .arrayClass .byte ∨ (d.onTables && d.keepsFace) = true := by decide +kernel
  rcases t d hd with rfl | t
  · exact RoadKit.mvA hZ q
  · exact RoadKit.mv hZ q t
/-- WHAT COMES BACK, over the tables of the start Z: h the heap at the call, h' behind it -/
def Q (Z : State) (x : Addr) (A : Cell) (h : Heap) (v : Option Value) (h' : Heap) (L : List Loc) : Prop := v = none ∧ (∀ y ∈ L, y.base = x) ∧ RoadKit.Keep h h' [x] ∧ h'.size = h.size + 1 ∧ RoadKit.Exa Z h' x ST ∧ RoadKit.Fld Z h' x ST "value" "[B" (.ref h.size) ∧ RoadKit.Fld Z h' x ST "coder" "B" (.int 0) ∧
  (∃ V : Cell, RoadKit.Arr Z h' h.size V .byte ∧ V.vm = .none ∧ Z.vm.findClass "[B" = some V.cls ∧ V.slots.size = A.slots.size ∧ ∀ j, j < A.slots.size → V.slots[j]? = some (.int (lo8 (cv A j)))) ∧
  ∀ (O n d : String) (w : Value), RoadKit.Fld Z h x O n d w → RoadKit.slotOf Z O n d ≠ RoadKit.slotOf Z ST "value" "[B" → RoadKit.slotOf Z O n d ≠ RoadKit.slotOf Z ST "coder" "B" → RoadKit.Fld Z h' x O n d w
/-- **new String(chars) AT A CALL, IN THE ROAD'S FORM**: for specialBack behind newO: x the fresh String, b the char[] with the cell A -/
theorem back {p : Program} {l : Launch} {e : Env} {R : Room} {s : State} {args : Array Value} {below : List Frame} {len W : Nat} {Z : State} {a0 : Array Value} {h : Heap} (hZ : Z.Warmed39 s.vm) (hw : ∀ d ∈ words, d.before a0 Z = true) {kI : Nat} (wi : (Jvm.Cond.instantiable ST kI).before a0 Z = true)
    {x b : Addr} {A : Cell} {z : Int32} {v0 c0 : Value} (E : RoadKit.Exa Z h x ST) (V : RoadKit.Fld Z h x ST "value" "[B" v0) (C : RoadKit.Fld Z h x ST "coder" "B" c0) (K : RoadKit.Arr Z h b A .char) (hty : Typed .char A) (S : RoadKit.Sta Z h ST "COMPACT_STRINGS" "Z" (.int z)) (hz : ¬ z = 0)
    (l0 : 0 < A.slots.size) (l2 : A.slots.size ≤ 536870912) (hp : ∀ i, i < A.slots.size → ¬ 255 < cv A i) (hfr : 4 ≤ R.frames) (hlo : W + 65 ≤ R.locals) :
    Back l R p e below s args New1.yN len W (fun P a => a = #[.ref x, .ref b] ∧ P.U.heap = h ∧ P.cells + 1 ≤ R.cells ∧ P.slots + A.slots.size ≤ R.slots)
      (fun P _ v B => ∃ L, Q Z x A h v B.U.heap L ∧ B.locs = P.locs ++ L ∧ B.cells = P.cells + 1 ∧ B.slots = P.slots + A.slots.size) := by
  intro m meth c P g ig mk a X hg hsize hdg hW hn hp'
  obtain ⟨rfl, rfl, r1, r2⟩ := hp'
  have al : Z.vm.Alike P.U.vm := hZ.alike.trans X.warmed.alike
  obtain ⟨D, cfV, kV, iV, fV, hD, gV, stV, knV, obV, asV, slV⟩ := id V
  obtain ⟨D', cfC, kC, iC, fC, hD', gC, stC, -, -, asC, slC⟩ := id C
  cases hD.symm.trans hD'
  obtain ⟨D2, kD, e1, e2, e3, e4, e5⟩ := id E
  cases hD.symm.trans e1
  obtain ⟨c2, k2, i1, i2, i3, -⟩ := Cond.instantiable_spec wi
  cases e2.symm.trans i1
  cases e3.symm.trans i2
  obtain ⟨kU, u1, u2⟩ := al.2.2 _ _ e3
  have hB : Blank ST x D P.U := ⟨hD, ⟨knV, fun q hq => by rw [hq] at obV; cases obV⟩, by rw [al.findClass]; exact e2, kU, u1, by rw [u2]; exact i3, by rw [u2]; exact e5 i3⟩
  have F1 : Found ST "value" "[B" fV P.U := ⟨SBG.found_only al ⟨cfV, kV, iV, gV⟩, stV⟩
  have F2 : Found ST "coder" "B" fC P.U := ⟨SBG.found_only al ⟨cfC, kC, iC, gC⟩, stC⟩
  have hA : Ch b A P.U := ⟨⟨K.1, State.isArrayOf_alike al K.2.1, K.2.2, by omega⟩, hty⟩
  have hS : StaticIs P.U ST "COMPACT_STRINGS" "Z" (.int z) := by
    obtain ⟨cfS, iS, kS, fS, st, cS, t1, t2, t3, t4, t5, t6, t7⟩ := S
    exact StaticIs.there (s := { Z with heap := P.U.heap }) ⟨cfS, iS, kS, fS, st, cS, t1, t2, t3, t4, t5, (fun q => by rw [q] at t6; cases t6), t7⟩ al rfl
  obtain ⟨v, B, X', ⟨⟨hv, E', V', q1, q2, q3, q4, q5, q6, q7, q8, q9, q10, q11⟩, hl, hc, hs⟩, st⟩ := New1.pays x D fV fC b A z (tab_of (moved hZ hw)) hfr hlo m meth c P g ig mk _ X hg hsize hdg hW hn ⟨r1, r2, rfl, hB, F1, F2, hA, hS, hz, l0, l2, hp⟩
  have al' : Z.vm.Alike B.U.vm := hZ.alike.trans X'.warmed.alike
  have hsz : E'.slots.size = D.slots.size := by
    obtain ⟨-, -, -, kB, w1, w2, w3⟩ := q1
    obtain ⟨kB', y1, y2⟩ := al'.2.2 _ _ e3
    rw [q2.2.1] at w1
    cases w1.symm.trans y1
    rw [w3, e5 i3, y2]
  refine ⟨v, B, X', ⟨_, ⟨hv, ?_, ⟨by omega, fun y cy hy hn' => q10 y cy (by simpa using hn') hy, fun y cy hy => ?_⟩, q11, ⟨E', _, q1.1, by rw [q2.2.1]; exact e2, by rw [q2.2.1]; exact e3, by rw [q2.1]; exact obV, fun _ => by rw [hsz]; exact e5 i3⟩,
    ⟨E', cfV, kV, iV, fV, q1.1, gV, stV, by rw [q2.1]; exact knV, by rw [q2.1]; exact obV, by rw [q2.2.1]; exact asV, q3⟩, ⟨E', cfC, kC, iC, fC, q1.1, gC, stC, by rw [q2.1]; exact knV, by rw [q2.1]; exact obV, by rw [q2.2.1]; exact asC, q4⟩,
    ⟨V', ⟨q5.1, State.isArrayOf_alike al'.symm q5.2.1, q5.2.2.1⟩, q6, by rw [← al'.findClass]; exact q7, q8, fun j hj => by have := q9 j hj; rwa [Nat.zero_add] at this⟩, fun O n d w F n1 n2 => ?_⟩, hl, hc, hs⟩, st⟩
  · intro y hy
    simp only [List.mem_cons, List.not_mem_nil, or_false] at hy
    rcases hy with rfl | rfl <;> rfl
  · by_cases q : y = x
    · subst q
      cases hD.symm.trans hy
      exact ⟨E', q1.1, q2.2.1, q2.1, hsz⟩
    · exact ⟨cy, q10 y cy q hy, rfl, rfl, rfl⟩
  · obtain ⟨D3, cf, k, i, f, g1, g2, g3, g4, g5, g6, g7⟩ := F
    cases hD.symm.trans g1
    simp only [RoadKit.slotOf, g2, gV, gC, Option.map_some, Option.getD_some] at n1 n2
    exact ⟨E', cf, k, i, f, q1.1, g2, g3, by rw [q2.1]; exact g4, by rw [q2.1]; exact g5, by rw [q2.2.1]; exact g6, by rw [q2.2.2 f.slot (by simp [n1, n2])]; exact g7⟩
end StrChars.Road
namespace StrChars.Road
open Jvm Sem ClassFile Op Lib Jvm.Stand Jvm.Free Jvm.Free.XT
/-- WHAT COMES BACK, the byte[] as a list of values -/
def QA (Z : State) (x : Addr) (zn : Int32) (cs : List Int32) (h : Heap) (v : Option Value) (h' : Heap) (L : List Loc) : Prop := v = none ∧ (∀ y ∈ L, y.base = x) ∧ RoadKit.Keep h h' [x] ∧ h'.size = h.size + 1 ∧ RoadKit.Exa Z h' x ST ∧ RoadKit.Fld Z h' x ST "value" "[B" (.ref h.size) ∧ RoadKit.Fld Z h' x ST "coder" "B" (.int 0) ∧
  (∃ kb, Z.vm.findClass "[B" = some kb ∧ RoadKit.Arv Z h' h.size kb .byte zn (cs.map fun c => .int (lo8 c)) (.int 0)) ∧
  ∀ (O n d : String) (w : Value), RoadKit.Fld Z h x O n d w → RoadKit.slotOf Z O n d ≠ RoadKit.slotOf Z ST "value" "[B" → RoadKit.slotOf Z O n d ≠ RoadKit.slotOf Z ST "coder" "B" → RoadKit.Fld Z h' x O n d w
/-- **new String(chars) AT A CALL, THE ARRAYS AS LISTS**: the char[] at b holds cs, not empty, no char above 255 -/
theorem backArv {p : Program} {l : Launch} {e : Env} {R : Room} {s : State} {args : Array Value} {below : List Frame} {len W : Nat} {Z : State} {a0 : Array Value} {h : Heap} (hZ : Z.Warmed39 s.vm) (hw : ∀ d ∈ words, d.before a0 Z = true) {kI : Nat} (wi : (Jvm.Cond.instantiable ST kI).before a0 Z = true)
    {x b : Addr} {k : ClassId} {zn z : Int32} {cs : List Int32} {dv v0 c0 : Value} (E : RoadKit.Exa Z h x ST) (V : RoadKit.Fld Z h x ST "value" "[B" v0) (C : RoadKit.Fld Z h x ST "coder" "B" c0) (K : RoadKit.Arv Z h b k .char zn (cs.map Value.int) dv) (S : RoadKit.Sta Z h ST "COMPACT_STRINGS" "Z" (.int z)) (hz : ¬ z = 0)
    (hlen : zn.toNatClampNeg = cs.length) (h0 : 0 < cs.length) (hbig : cs.length ≤ 536870912) (hall : ∀ c ∈ cs, ¬ 255 < c) (hfr : 4 ≤ R.frames) (hlo : W + 65 ≤ R.locals) :
    Back l R p e below s args New1.yN len W (fun P a => a = #[.ref x, .ref b] ∧ P.U.heap = h ∧ P.cells + 1 ≤ R.cells ∧ P.slots + cs.length ≤ R.slots)
      (fun P _ v B => ∃ L, QA Z x zn cs h v B.U.heap L ∧ B.locs = P.locs ++ L ∧ B.cells = P.cells + 1 ∧ B.slots = P.slots + cs.length) := by
  obtain ⟨A, K1, K2, K3, K4, K5, K6⟩ := K
  have e : A.slots.size = cs.length := K3.trans hlen
  have hat : ∀ (i : Nat) (hi : i < cs.length), A.slots[i]? = some (.int cs[i]) := fun i hi => by rw [K5 i (by omega)]; simp [List.getD_eq_getElem?_getD, hi]
  have hcv : ∀ (i : Nat) (hi : i < cs.length), cv A i = cs[i] := fun i hi => by unfold cv; rw [hat i hi]
  have hty : Typed .char A := fun i v hv => by
    have hi : i < A.slots.size := (Array.getElem?_eq_some_iff.mp hv).1
    have q := K5 i hi
    rw [hv] at q
    rw [Option.some.inj q]
    exact K6 i hi
  refine Back.mono (back hZ hw wi E V C K1 hty S hz (by omega) (by omega) (fun i hi => by rw [hcv i (by omega)]; exact hall _ (List.getElem_mem _)) hfr hlo) (fun P a hp => ⟨hp.1, hp.2.1, hp.2.2.1, by rw [e]; exact hp.2.2.2⟩) (fun P a v B hp hq => ?_)
  obtain ⟨L, ⟨q1, q2, q3, q4, q5, q6, q7, ⟨V', v1, v2, v3, v4, v5⟩, q9⟩, hl, hc, hs⟩ := hq
  refine ⟨L, ⟨q1, q2, q3, q4, q5, q6, q7, ⟨V'.cls, v3, V', v1, rfl, by rw [v4, e, hlen], K4, fun i hi => ?_, fun i hi => ?_⟩, q9⟩, hl, hc, by rw [hs, e]⟩
  · have hi' : i < cs.length := by omega
    rw [v5 i (by omega), hcv i hi']; simp [List.getD_eq_getElem?_getD, hi']
  · have hi' : i < cs.length := by omega
    simp only [List.getD_eq_getElem?_getD, List.getElem?_map, List.getElem?_eq_getElem hi', Option.map_some, Option.getD_some]
    exact fits_lo8 _
end StrChars.Road
namespace StrChars.Road
open Jvm Sem ClassFile Op Lib Jvm.Stand Jvm.Free Jvm.Free.XT
/-- WHAT COMES BACK, in the writer's own shape -/
def QV (Z : State) (x : Addr) (N : Int32) (bs : List Int32) (h : Heap) (n0 : Nat) (v : Option Value) (h' : Heap) (L : List Loc) : Prop := v = none ∧ RoadKit.Fr n0 L ∧ RoadKit.Keep h h' [x] ∧ RoadKit.Exa Z h' x ST ∧ RoadKit.Fld Z h' x ST "coder" "B" (.int 0) ∧
  ∃ (t : Addr) (kb : ClassId), n0 ≤ t ∧ h.size ≤ t ∧ ¬ t = x ∧ RoadKit.Fld Z h' x ST "value" "[B" (.ref t) ∧ RoadKit.Arv Z h' t kb .byte N (bs.map Value.int) (.int 0)
/-- **new String(chars) AT A CALL, FOR THE WRITER**: a char[] of n known ints, each 0 to 255 -/
theorem backV {p : Program} {l : Launch} {e : Env} {R : Room} {s : State} {args : Array Value} {below : List Frame} {len W : Nat} {Z : State} {a0 : Array Value} {h : Heap} (hZ : Z.Warmed39 s.vm) (hw : ∀ d ∈ words, d.before a0 Z = true) {kI : Nat} (wi : (Jvm.Cond.instantiable ST kI).before a0 Z = true)
    {x b : Addr} {kC : ClassId} {cs bs : List Int32} {d v0 c0 : Value} {z N : Int32} {n n0 : Nat} (hx0 : n0 ≤ x) (hh0 : n0 ≤ h.size) (E : RoadKit.Exa Z h x ST) (V : RoadKit.Fld Z h x ST "value" "[B" v0) (C : RoadKit.Fld Z h x ST "coder" "B" c0) (K : RoadKit.Arv Z h b kC .char N (cs.map Value.int) d) (S : RoadKit.Sta Z h ST "COMPACT_STRINGS" "Z" (.int z)) (hz : ¬ z = 0)
    (hn : cs.length = n) (hN : N = Int32.ofNat n) (l0 : 0 < n) (l2 : n ≤ 4000) (hp : ∀ c ∈ cs, ¬ c < 0 ∧ ¬ (255 : Int32) < c) (hb : bs = cs.map (fun c => c.toInt8.toInt32)) (hfr : 4 ≤ R.frames) (hlo : W + 65 ≤ R.locals) :
    Back l R p e below s args (⟨"java/lang/String", "<init>", "([C)V"⟩ : MethodName) len W (fun P a => a = #[.ref x, .ref b] ∧ P.U.heap = h ∧ P.cells + 1 ≤ R.cells ∧ P.slots + n ≤ R.slots)
      (fun P _ v B => ∃ L, QV Z x N bs h n0 v B.U.heap L ∧ B.locs = P.locs ++ L ∧ B.cells = P.cells + 1 ∧ B.slots = P.slots + n) := by
  subst hn hN hb
  refine Back.mono (backArv hZ hw wi E V C K S hz (n32 (by omega)) l0 (by omega) (fun c hc => (hp c hc).2) hfr hlo) (fun P a hp => hp) (fun P a v B hp hq => ?_)
  obtain ⟨L, ⟨q1, q2, q3, q4, q5, q6, q7, ⟨kb, v1, v2⟩, q9⟩, hl, hc, hs⟩ := hq
  exact ⟨L, ⟨q1, fun y hy => by rw [q2 y hy]; exact hx0, q3, q5, q7, h.size, kb, hh0, Nat.le_refl _, Nat.ne_of_gt E.lt, q6, by rw [List.map_map]; exact v2⟩, hl, hc, hs⟩
end StrChars.Road
namespace StrChars
open Jvm Sem ClassFile Op Lib Jvm.Stand Jvm.Free.XT Jvm.Free.ALB Jvm.Free.JM Jvm.Free
open Jvm.Lib.Cold (StaticIs)
def hi8 (x : Int32) : Int32 := lo8 (x >>> ((8 : Int32) &&& 31))
/-- what StringUTF16.getChar makes of two bytes -/
def pairCh (u v : Int32) : Int32 := (((u &&& 255) <<< ((0 : Int32) &&& 31)) ||| ((v &&& 255) <<< ((8 : Int32) &&& 31))).toUInt32.toUInt16.toUInt32.toInt32
theorem shr0 (c : Int32) : c >>> ((0 : Int32) &&& 31) = c := by
  have e : ((0 : Int32) &&& 31) = 0 := by decide
  rw [e]
  apply Int32.toBitVec_inj.mp
  rw [Int32.toBitVec_shiftRight]
  have e1 : ((0 : Int32).toBitVec.smod 32) = 0#32 := by decide
  rw [e1, BitVec.sshiftRight_eq']
  exact BitVec.sshiftRight_zero
theorem lo8_and (x : Int32) : (lo8 x &&& 255).toBitVec.toNat = x.toBitVec.toNat % 256 := by
  have h : (lo8 x).toBitVec = (x.toBitVec.signExtend 8).signExtend 32 := by rw [lo8, Int8.toBitVec_toInt32, Int32.toBitVec_toInt8]
  rw [Int32.toBitVec_and, BitVec.toNat_and, h]
  have e : ((x.toBitVec.signExtend 8).signExtend 32).toNat % 256 = x.toBitVec.toNat % 256 := by
    rw [BitVec.toNat_signExtend]
    have hlt := x.toBitVec.isLt
    simp only [BitVec.toNat_setWidth, BitVec.toNat_signExtend]
    split <;> split <;> omega
  rw [← e]
  exact Nat.and_two_pow_sub_one_eq_mod _ 8
theorem pair_says {c : Int32} (h0 : ¬ c < 0) (h1 : ¬ 65535 < c) : pairCh (lo8 c) (hi8 c) = c := by
  rw [Int32.lt_iff_toInt_lt] at h0 h1
  have e0 : (0 : Int32).toInt = 0 := rfl
  have e1 : (65535 : Int32).toInt = 65535 := rfl
  have hc : c.toInt = c.toBitVec.toNat := by
    have := c.toBitVec.isLt
    have e : c.toInt = c.toBitVec.toInt := rfl
    rw [e] at h0 h1
    rw [e]
    rw [BitVec.toInt_eq_toNat_cond] at h0 h1 ⊢
    split at h0 <;> split <;> omega
  have hn : c.toBitVec.toNat < 65536 := by omega
  have a1 := lo8_and c
  have a2 : (hi8 c &&& 255).toBitVec.toNat = c.toBitVec.toNat / 256 := by
    rw [hi8, lo8_and]
    have e : ((8 : Int32) &&& 31) = 8 := by decide
    rw [e, Int32.toBitVec_shiftRight]
    have e2 : ((8 : Int32).toBitVec.smod 32) = 8#32 := by decide
    rw [e2, BitVec.sshiftRight_eq', BitVec.toNat_sshiftRight_of_msb_false (by rw [BitVec.msb_eq_false_iff_two_mul_lt]; omega)]
    show c.toBitVec.toNat >>> 8 % 256 = _
    rw [Nat.shiftRight_eq_div_pow]
    omega
  unfold pairCh
  apply Int32.toBitVec_inj.mp
  apply BitVec.eq_of_toNat_eq
  have f0 : ((0 : Int32) &&& 31) = 0 := by decide
  have f8 : ((8 : Int32) &&& 31) = 8 := by decide
  rw [f0, f8]
  have g : (((lo8 c &&& 255) <<< (0 : Int32)) ||| ((hi8 c &&& 255) <<< (8 : Int32))).toBitVec.toNat = c.toBitVec.toNat := by
    rw [Int32.toBitVec_or, Int32.toBitVec_shiftLeft, Int32.toBitVec_shiftLeft]
    have s0 : ((0 : Int32).toBitVec.smod 32) = 0#32 := by decide
    have s8 : ((8 : Int32).toBitVec.smod 32) = 8#32 := by decide
    rw [s0, s8, BitVec.toNat_or]
    simp only [BitVec.shiftLeft_eq', BitVec.toNat_shiftLeft, a1, a2]
    show (c.toBitVec.toNat % 256) <<< 0 % 2 ^ 32 ||| (c.toBitVec.toNat / 256) <<< 8 % 2 ^ 32 = _
    rw [Nat.shiftLeft_zero, Nat.mod_eq_of_lt (show c.toBitVec.toNat % 256 < 2 ^ 32 by omega), Nat.mod_eq_of_lt (show (c.toBitVec.toNat / 256) <<< 8 < 2 ^ 32 by rw [Nat.shiftLeft_eq]; omega), Nat.or_comm, ← Nat.shiftLeft_add_eq_or_of_lt (by omega), Nat.shiftLeft_eq]
    omega
  show BitVec.toNat (((((lo8 c &&& 255) <<< (0 : Int32)) ||| ((hi8 c &&& 255) <<< (8 : Int32))).toBitVec.setWidth 16).setWidth 32) = _
  rw [BitVec.toNat_setWidth, BitVec.toNat_setWidth, g]
  omega
end StrChars
namespace StrChars
open Jvm Sem ClassFile Op Lib Jvm.Stand Jvm.Free.XT Jvm.Free.ALB Jvm.Free.JM Jvm.Free
open Jvm.Lib.Cold (StaticIs)
theorem shr1 {n : Nat} (h : 2 * n < 2 ^ 31) : Int32.ofNat (2 * n) >>> ((1 : Int32) &&& 31) = Int32.ofNat n := by
  have e : ((1 : Int32) &&& 31) = 1 := by decide
  rw [e]
  apply Int32.toBitVec_inj.mp
  rw [Int32.toBitVec_shiftRight]
  have e1 : ((1 : Int32).toBitVec.smod 32) = 1#32 := by decide
  have hm : (BitVec.ofNat 32 (2 * n)).toNat = 2 * n := by rw [BitVec.toNat_ofNat, Nat.mod_eq_of_lt (by omega)]
  rw [e1, BitVec.sshiftRight_eq']
  apply BitVec.eq_of_toNat_eq
  show ((BitVec.ofNat 32 (2 * n)).sshiftRight 1).toNat = (BitVec.ofNat 32 n).toNat
  rw [BitVec.toNat_sshiftRight_of_msb_false (by rw [BitVec.msb_eq_false_iff_two_mul_lt, hm]; omega), hm, BitVec.toNat_ofNat, Nat.shiftRight_eq_div_pow]
  omega
/-- charAt's cast of a byte read back -/
def chr8 (u : Int32) : Int32 := (u &&& 255).toUInt32.toUInt16.toUInt32.toInt32
theorem chr8_lo8 {c : Int32} (h0 : ¬ c < 0) (h1 : ¬ 255 < c) : chr8 (lo8 c) = c := by
  have t : ∀ k : Fin 256, (Int32.ofNat k.val).toUInt32.toUInt16.toUInt32.toInt32 = Int32.ofNat k.val := by decide +kernel
  unfold chr8
  rw [lo8_mask h0 h1]
  rw [Int32.lt_iff_toInt_lt] at h0 h1
  have e0 : (0 : Int32).toInt = 0 := rfl
  have e1 : (255 : Int32).toInt = 255 := rfl
  obtain ⟨k, hk⟩ : ∃ k : Nat, c.toInt = k := ⟨c.toInt.toNat, by omega⟩
  have hx : c = Int32.ofNat k := Int32.toInt_inj.mp (by rw [hk, Int32.toInt_ofNat_small (by omega)])
  rw [hx]
  exact t ⟨k, by omega⟩
theorem narrow_ch {c : Int32} (h0 : ¬ c < 0) (h1 : ¬ 65535 < c) : narrow .char (.int c) = .int c := by
  have q : narrow .char (.int (pairCh (lo8 c) (hi8 c))) = .int (pairCh (lo8 c) (hi8 c)) := narrow_c _
  rwa [pair_says h0 h1] at q
/-- the array's cell V codes the n chars f 0 .. f (n - 1) by the coder cd, as the JDK does: coder 1 just where some char is above 255 -/
def Cod (cd : Int32) (n : Nat) (f : Nat → Int32) (V : Cell) : Prop := (cd = 0 ∧ V.slots.size = n ∧ ∀ j, j < n → V.slots[j]? = some (.int (lo8 (f j))) ∧ ¬ 255 < f j) ∨ (cd = 1 ∧ V.slots.size = 2 * n ∧ (∀ j, j < n → V.slots[2 * j]? = some (.int (lo8 (f j))) ∧ V.slots[2 * j + 1]? = some (.int (hi8 (f j)))) ∧ ∃ j, j < n ∧ 255 < f j)
theorem Cod.cd {cd : Int32} {n : Nat} {f : Nat → Int32} {V : Cell} (h : Cod cd n f V) : cd = 0 ∨ cd = 1 := h.imp (fun q => q.1) fun q => q.1
theorem Cod.len {cd : Int32} {n : Nat} {f : Nat → Int32} {V : Cell} (h : Cod cd n f V) (hs : V.slots.size < 2 ^ 31) : Int32.ofNat V.slots.size >>> (cd &&& 31) = Int32.ofNat n := by
  rcases h with ⟨rfl, h, -⟩ | ⟨rfl, h, -⟩
  · rw [shr0, h]
  · rw [h, shr1 (by omega)]
/-- **x is a String of the n chars f 0 .. f (n - 1)**, Latin-1 or UTF-16; its array at t has the cell V -/
def Txt (x t : Addr) (V : Cell) (cd : Int32) (n : Nat) (f : Nat → Int32) (U : State) : Prop := Exact "java/lang/String" x U ∧ Has x "java/lang/String" "value" "[B" (.ref t) U ∧ Has x "java/lang/String" "coder" "B" (.int cd) U ∧ XT.Arr .byte t V U ∧ Cod cd n f V ∧ ∀ j, j < n → ¬ f j < 0 ∧ ¬ 65535 < f j
theorem Txt.mv {x t : Addr} {V : Cell} {cd : Int32} {n : Nat} {f : Nat → Int32} {U U' : State} (h : Txt x t V cd n f U) (hal : U.vm.Alike U'.vm) (hh : U'.heap = U.heap) : Txt x t V cd n f U' := ⟨h.1.mv hal hh, h.2.1.mv hal hh, h.2.2.1.mv hal hh, h.2.2.2.1.mv hal hh, h.2.2.2.2⟩
namespace Cdr
def yN : MethodName := ⟨"java/lang/String", "coder", "()B"⟩
abbrev yB : ByteArray := jdk_42_method_152_code
theorem d0 : decode yB 0 = .ok (.getstatic 38, 3) := by decide +kernel
theorem d3 : decode yB 3 = .ok (.ifCond (.eq) 10, 3) := by decide +kernel
theorem d6 : decode yB 6 = .ok (.aload_n 0, 1) := by decide +kernel
theorem d7 : decode yB 7 = .ok (.getfield 15, 3) := by decide +kernel
theorem d10 : decode yB 10 = .ok (.goto 4, 3) := by decide +kernel
theorem d14 : decode yB 14 = .ok (.ireturn, 1) := by decide +kernel
def site : List Cond := [.fieldLink "java/lang/String" 38 "java/lang/String" "COMPACT_STRINGS" "Z", .fieldLink "java/lang/String" 15 "java/lang/String" "coder" "B"]
def tab : Cond := tabOf yN yB 1 (some .byte) site
def P (x : Addr) (cd z : Int32) (args : Array Value) (s : State) : Prop := args = #[.ref x] ∧ Has x "java/lang/String" "coder" "B" (.int cd) s ∧ (cd = 0 ∨ cd = 1) ∧ StaticIs s "java/lang/String" "COMPACT_STRINGS" "Z" (.int z) ∧ ¬ z = 0
def E (cd : Int32) (r : Option Value) (s u : State) : Prop := XT.PureE (some (.int cd)) r s u
theorem law (l : Launch) (x : Addr) (cd z : Int32) : Law l yN 1 0 0 0 yB 1 (some .byte) site (P x cd z) (E cd) [] 0 0 := by
  refine Law.of_walk (plainFor_of_name (by decide +kernel)) (by decide +kernel) (by decide +kernel) (by decide) (fun _ _ h => by rw [h.1]; rfl) (fun _ U U' hal hh h => ⟨h.1, h.2.1.mv hal hh, h.2.2.1, h.2.2.2.1.there hal hh, h.2.2.2.2⟩) (fun r U U' V V' h1 hal h2 h => XT.PureE.mv r U U' V V' h1 hal h2 h) ?_
  intro p e s m args below meth c s₁ X0 hexec hbytes hml hret hlk hnm hown hh0 W hP
  obtain ⟨rfl, hx, hc, s1, hz⟩ := hP
  have c1 : Steps p.tables e below (s₁.setTop (entryFrame m #[.ref x] 1)) (s₁.setTop (mkF m 0 #[.val (.ref x)] [])) := entry rfl
  obtain ⟨T2, X2, q2, st2⟩ := X0.sget hexec hown (wk W (.fieldLink "java/lang/String" 38 "java/lang/String" "COMPACT_STRINGS" "Z")) s1 (fun _ _ h => by rw [hh0]; exact h) (g := (mkF m 0 #[.val (.ref x)] [])) rfl (hb hbytes d0)
  have hh2 := q2.trans hh0
  have c3 : Steps p.tables e below (s₁.setTop (entryFrame m #[.ref x] 1)) (T2.setTop (mkF m 7 #[.val (.ref x)] [.ref x])) := (c1.trans (st2 _ (Steps.refl _))).trans (by
    refine XS.ifNo X2.here hexec rfl (hb hbytes d3) rfl (i0_eq_f hz) ?_
    refine XS.aloadN X2.here hexec rfl (hb hbytes d6) rfl rfl ?_
    exact Steps.refl _)
  obtain ⟨T4, X4, q4, st4⟩ := X2.hget hexec hown (wk W (.fieldLink "java/lang/String" 15 "java/lang/String" "coder" "B")) (hx.mv X2.warmed.alike hh2) (g := (mkF m 7 #[.val (.ref x)] [.ref x])) rfl (rest := []) rfl (hb hbytes d7)
  have c5 : Steps p.tables e below (s₁.setTop (entryFrame m #[.ref x] 1)) (T4.setTop (mkF m 14 #[.val (.ref x)] [.int cd])) := (c3.trans (st4 _ (Steps.refl _))).trans (by
    refine XS.goto X4.here hexec rfl (pc0 := 10) rfl (hb hbytes d10) (by decide) rfl ?_
    exact Steps.refl _)
  exact ⟨T4, some (.int cd), _, _, _, X4, rfl, rfl, rfl, (fun h => by cases h), ⟨rfl, q4.trans hh2⟩, fun fs hl => c5.trans (X4.ireturnOut hexec hret (by rcases hc with rfl | rfl <;> rfl) (Or.inr (Or.inr (Or.inl rfl))) (hb hbytes d14) hl)⟩
end Cdr
namespace Len
def yN : MethodName := ⟨"java/lang/String", "length", "()I"⟩
abbrev yB : ByteArray := jdk_42_method_54_code
theorem d0 : decode yB 0 = .ok (.aload_n 0, 1) := by decide +kernel
theorem d1 : decode yB 1 = .ok (.getfield 9, 3) := by decide +kernel
theorem d4 : decode yB 4 = .ok (.arraylength, 1) := by decide +kernel
theorem d5 : decode yB 5 = .ok (.aload_n 0, 1) := by decide +kernel
theorem d6 : decode yB 6 = .ok (.invokevirtual 335, 3) := by decide +kernel
theorem d9 : decode yB 9 = .ok (.ishr, 1) := by decide +kernel
theorem d10 : decode yB 10 = .ok (.ireturn, 1) := by decide +kernel
def site : List Cond := [.fieldLink "java/lang/String" 9 "java/lang/String" "value" "[B", Cdr.tab] ++ virtW "java/lang/String" 335 "java/lang/String" Cdr.yN Cdr.yN
def tab : Cond := tabOf yN yB 1 (some .int) site
def P (x t : Addr) (V : Cell) (cd : Int32) (n : Nat) (f : Nat → Int32) (z : Int32) (args : Array Value) (s : State) : Prop := args = #[.ref x] ∧ Txt x t V cd n f s ∧ StaticIs s "java/lang/String" "COMPACT_STRINGS" "Z" (.int z) ∧ ¬ z = 0
def E (n : Nat) (r : Option Value) (s u : State) : Prop := XT.PureE (some (.int (Int32.ofNat n))) r s u
/-- length() of a String of n chars, in either coding -/
theorem law (l : Launch) (x t : Addr) (V : Cell) (cd : Int32) (n : Nat) (f : Nat → Int32) (z : Int32) : Law l yN 1 0 1 13 yB 1 (some .int) site (P x t V cd n f z) (E n) [] 0 0 := by
  refine Law.of_walk (plainFor_of_name (by decide +kernel)) (by decide +kernel) (by decide +kernel) (by decide) (fun _ _ h => by rw [h.1]; rfl) (fun _ U U' hal hh h => ⟨h.1, h.2.1.mv hal hh, h.2.2.1.there hal hh, h.2.2.2⟩) (fun r U U' V V' h1 hal h2 h => XT.PureE.mv r U U' V V' h1 hal h2 h) ?_
  intro p e s m args below meth c s₁ X0 hexec hbytes hml hret hlk hnm hown hh0 W hP
  obtain ⟨rfl, hx, s1, hz⟩ := hP
  have v31 := hx.2.2.2.1.2.2.2
  have c1 : Steps p.tables e below (s₁.setTop (entryFrame m #[.ref x] 1)) (s₁.setTop (mkF m 1 #[.val (.ref x)] [.ref x])) := Steps.trans (entry rfl) (by
    show Steps p.tables e below (s₁.setTop (mkF m 0 #[.val (.ref x)] [])) _
    refine XS.aloadN X0.here hexec rfl (hb hbytes d0) rfl rfl ?_
    exact Steps.refl _)
  obtain ⟨T2, X2, q2, st2⟩ := X0.hget hexec hown (wk W (.fieldLink "java/lang/String" 9 "java/lang/String" "value" "[B")) (hx.mv X0.warmed.alike hh0).2.1 (g := (mkF m 1 #[.val (.ref x)] [.ref x])) rfl (rest := []) rfl (hb hbytes d1)
  have hh2 := q2.trans hh0
  have hx2 := hx.mv X2.warmed.alike hh2
  have c3 : Steps p.tables e below (s₁.setTop (entryFrame m #[.ref x] 1)) (T2.setTop (mkF m 6 #[.val (.ref x)] [.ref x, .int (Int32.ofNat V.slots.size)])) := (c1.trans (st2 _ (Steps.refl _))).trans (by
    refine X2.alen hexec hx2.2.2.2.1 rfl rfl (hb hbytes d4) ?_
    refine XS.aloadN X2.here hexec rfl (hb hbytes d5) rfl rfl ?_
    exact Steps.refl _)
  obtain ⟨v4, T4, X4, E4, g4⟩ := X2.callV hexec (Cdr.law l x cd z) hown (wks W (virtW "java/lang/String" 335 "java/lang/String" Cdr.yN Cdr.yN)) rfl (by decide) (wk W Cdr.tab) (W := 1) (Nat.le_of_ble_eq_true rfl) (Nat.le_of_ble_eq_true rfl) (Nat.le_refl _) (Nat.le_refl _) (hx2.1.fc X2.warmed.alike) hx2.1.is (g := (mkF m 6 #[.val (.ref x)] [.ref x, .int (Int32.ofNat V.slots.size)])) rfl (by rw [hml]; rfl) c3 (argsL := []) (rest := [.int (Int32.ofNat V.slots.size)]) rfl rfl (by show 2 * 0 + (1 + 0) ≤ _; decide) (hb hbytes d6) (⟨rfl, hx2.2.2.1, hx.2.2.2.2.1.cd, s1.there X2.warmed.alike hh2, hz⟩)
  obtain ⟨rfl, q4⟩ := E4
  have c5 : Steps p.tables e below (s₁.setTop (entryFrame m #[.ref x] 1)) (T4.setTop (mkF m 10 #[.val (.ref x)] [.int (Int32.ofNat V.slots.size >>> (cd &&& 31))])) := Steps.trans g4 (by
    refine ishr X4.here hexec rfl (hb hbytes d9) rfl ?_
    exact Steps.refl _)
  rw [hx.2.2.2.2.1.len v31] at c5
  exact ⟨T4, some (.int (Int32.ofNat n)), _, _, _, X4, rfl, rfl, rfl, (fun h => by cases h), ⟨rfl, q4.trans hh2⟩, fun fs hl => c5.trans (X4.ireturnOut hexec hret rfl (Or.inl rfl) (hb hbytes d10) hl)⟩
theorem pays {l : Launch} {R : Room} {p : Program} {e : Env} {below : List Frame} {s : State} {sargs : Array Value} {len W : Nat} (x t : Addr) (V : Cell) (cd : Int32) (n : Nat) (f : Nat → Int32) (z : Int32) (htab : tab.before sargs s = true) (hfr : 2 ≤ R.frames) (hlo : W + 25 ≤ R.locals) :
    Back l R p e below s sargs yN len W (fun A₁ a₁ => A₁.cells + 0 ≤ R.cells ∧ A₁.slots + 0 ≤ R.slots ∧ P x t V cd n f z a₁ A₁.U) (fun A₁ _ v₁ B₁ => E n v₁ A₁.U B₁.U ∧ B₁.locs = A₁.locs ++ [] ∧ B₁.cells = A₁.cells + 0 ∧ B₁.slots = A₁.slots + 0) :=
  (law l x t V cd n f z).pays htab hfr (by omega)
end Len
namespace IsL
def yN : MethodName := ⟨"java/lang/String", "isLatin1", "()Z"⟩
abbrev yB : ByteArray := jdk_42_method_154_code
theorem d0 : decode yB 0 = .ok (.getstatic 38, 3) := by decide +kernel
theorem d3 : decode yB 3 = .ok (.ifCond (.eq) 14, 3) := by decide +kernel
theorem d6 : decode yB 6 = .ok (.aload_n 0, 1) := by decide +kernel
theorem d7 : decode yB 7 = .ok (.getfield 15, 3) := by decide +kernel
theorem d10 : decode yB 10 = .ok (.ifCond (.ne) 7, 3) := by decide +kernel
theorem d13 : decode yB 13 = .ok (.iconst 1, 1) := by decide +kernel
theorem d14 : decode yB 14 = .ok (.goto 4, 3) := by decide +kernel
theorem d17 : decode yB 17 = .ok (.iconst 0, 1) := by decide +kernel
theorem d18 : decode yB 18 = .ok (.ireturn, 1) := by decide +kernel
def site : List Cond := [.fieldLink "java/lang/String" 38 "java/lang/String" "COMPACT_STRINGS" "Z", .fieldLink "java/lang/String" 15 "java/lang/String" "coder" "B"]
def tab : Cond := tabOf yN yB 1 (some .boolean) site
def P (x : Addr) (cd z : Int32) (args : Array Value) (s : State) : Prop := args = #[.ref x] ∧ Has x "java/lang/String" "coder" "B" (.int cd) s ∧ (cd = 0 ∨ cd = 1) ∧ StaticIs s "java/lang/String" "COMPACT_STRINGS" "Z" (.int z) ∧ ¬ z = 0
def E (cd : Int32) (r : Option Value) (s u : State) : Prop := XT.PureE (some (.int (1 - cd))) r s u
theorem law (l : Launch) (x : Addr) (cd z : Int32) : Law l yN 1 0 0 0 yB 1 (some .boolean) site (P x cd z) (E cd) [] 0 0 := by
  refine Law.of_walk (plainFor_of_name (by decide +kernel)) (by decide +kernel) (by decide +kernel) (by decide) (fun _ _ h => by rw [h.1]; rfl) (fun _ U U' hal hh h => ⟨h.1, h.2.1.mv hal hh, h.2.2.1, h.2.2.2.1.there hal hh, h.2.2.2.2⟩) (fun r U U' V V' h1 hal h2 h => XT.PureE.mv r U U' V V' h1 hal h2 h) ?_
  intro p e s m args below meth c s₁ X0 hexec hbytes hml hret hlk hnm hown hh0 W hP
  obtain ⟨rfl, hx, hc, s1, hz⟩ := hP
  have c1 : Steps p.tables e below (s₁.setTop (entryFrame m #[.ref x] 1)) (s₁.setTop (mkF m 0 #[.val (.ref x)] [])) := entry rfl
  obtain ⟨T2, X2, q2, st2⟩ := X0.sget hexec hown (wk W (.fieldLink "java/lang/String" 38 "java/lang/String" "COMPACT_STRINGS" "Z")) s1 (fun _ _ h => by rw [hh0]; exact h) (g := (mkF m 0 #[.val (.ref x)] [])) rfl (hb hbytes d0)
  have hh2 := q2.trans hh0
  have c3 : Steps p.tables e below (s₁.setTop (entryFrame m #[.ref x] 1)) (T2.setTop (mkF m 7 #[.val (.ref x)] [.ref x])) := (c1.trans (st2 _ (Steps.refl _))).trans (by
    refine XS.ifNo X2.here hexec rfl (hb hbytes d3) rfl (i0_eq_f hz) ?_
    refine XS.aloadN X2.here hexec rfl (hb hbytes d6) rfl rfl ?_
    exact Steps.refl _)
  obtain ⟨T4, X4, q4, st4⟩ := X2.hget hexec hown (wk W (.fieldLink "java/lang/String" 15 "java/lang/String" "coder" "B")) (hx.mv X2.warmed.alike hh2) (g := (mkF m 7 #[.val (.ref x)] [.ref x])) rfl (rest := []) rfl (hb hbytes d7)
  have c5 : Steps p.tables e below (s₁.setTop (entryFrame m #[.ref x] 1)) (T4.setTop (mkF m 10 #[.val (.ref x)] [.int cd])) := c3.trans (st4 _ (Steps.refl _))
  have c6 : Steps p.tables e below (s₁.setTop (entryFrame m #[.ref x] 1)) (T4.setTop (mkF m 18 #[.val (.ref x)] [.int (1 - cd)])) := by
    rcases hc with rfl | rfl
    · exact c5.trans (by
        refine XS.ifNo X4.here hexec rfl (hb hbytes d10) rfl (i0_ne_f rfl) ?_
        refine iconstV X4.here hexec rfl 1 (hb hbytes d13) (by decide) ?_
        refine XS.goto X4.here hexec rfl (pc0 := 14) rfl (hb hbytes d14) (by decide) rfl ?_
        exact Steps.refl _)
    · exact c5.trans (by
        refine XS.ifYes X4.here hexec rfl (pc0 := 10) rfl (hb hbytes d10) rfl (i0_ne_t (by decide)) (by decide) rfl ?_
        refine iconstV X4.here hexec rfl 0 (hb hbytes d17) (by decide) ?_
        exact Steps.refl _)
  exact ⟨T4, some (.int (1 - cd)), _, _, _, X4, rfl, rfl, rfl, (fun h => by cases h), ⟨rfl, q4.trans hh2⟩, fun fs hl => c6.trans (X4.ireturnOut hexec hret (by rcases hc with rfl | rfl <;> rfl) (Or.inr (Or.inl rfl)) (hb hbytes d18) hl)⟩
end IsL
namespace LChA
def yN : MethodName := ⟨"java/lang/StringLatin1", "charAt", "([BI)C"⟩
abbrev yB : ByteArray := jdk_43_method_2_code
theorem d0 : decode yB 0 = .ok (.iload_n 1, 1) := by decide +kernel
theorem d1 : decode yB 1 = .ok (.aload_n 0, 1) := by decide +kernel
theorem d2 : decode yB 2 = .ok (.arraylength, 1) := by decide +kernel
theorem d3 : decode yB 3 = .ok (.invokestatic 9, 3) := by decide +kernel
theorem d6 : decode yB 6 = .ok (.aload_n 0, 1) := by decide +kernel
theorem d7 : decode yB 7 = .ok (.iload_n 1, 1) := by decide +kernel
theorem d8 : decode yB 8 = .ok (.baload, 1) := by decide +kernel
theorem d9 : decode yB 9 = .ok (.sipush 255, 3) := by decide +kernel
theorem d12 : decode yB 12 = .ok (.iand, 1) := by decide +kernel
theorem d13 : decode yB 13 = .ok (.i2c, 1) := by decide +kernel
theorem d14 : decode yB 14 = .ok (.ireturn, 1) := by decide +kernel
def site : List Cond := [JO.Str_checkIndex.tab] ++ staticW "java/lang/StringLatin1" 9 JO.Str_checkIndex.yN
def tab : Cond := tabOf yN yB 2 (some .char) site
def P (t : Addr) (V : Cell) (i : Nat) (u : Int32) (fm : Value) (args : Array Value) (s : State) : Prop := args = #[.ref t, .int (Int32.ofNat i)] ∧ XT.Arr .byte t V s ∧ V.slots[i]? = some (.int u) ∧ (StaticIs s "jdk/internal/util/Preconditions" "SIOOBE_FORMATTER" "Ljava/util/function/BiFunction;" fm ∧ fm.isRef = true)
def E (u : Int32) (r : Option Value) (s w : State) : Prop := XT.PureE (some (.int (chr8 u))) r s w
theorem law (l : Launch) (t : Addr) (V : Cell) (i : Nat) (u : Int32) (fm : Value) : Law l yN 2 2 2 27 yB 2 (some .char) site (P t V i u fm) (E u) [] 0 0 := by
  refine Law.of_walk (plainFor_of_name (by decide +kernel)) (by decide +kernel) (by decide +kernel) (by decide) (fun _ _ h => by rw [h.1]; rfl) (fun _ U U' hal hh h => ⟨h.1, h.2.1.mv hal hh, h.2.2.1, h.2.2.2.1.there hal hh, h.2.2.2.2⟩) (fun r U U' V V' h1 hal h2 h => XT.PureE.mv r U U' V V' h1 hal h2 h) ?_
  intro p e s m args below meth c s₁ X0 hexec hbytes hml hret hlk hnm hown hh0 W hP
  obtain ⟨rfl, hV, hu, s1, rf⟩ := hP
  have v31 := hV.2.2.2
  have hi : i < V.slots.size := (Array.getElem?_eq_some_iff.mp hu).1
  have c1 : Steps p.tables e below (s₁.setTop (entryFrame m #[.ref t, .int (Int32.ofNat i)] 2)) (s₁.setTop (mkF m 0 #[.val (.ref t), .val (.int (Int32.ofNat i))] [])) := entry rfl
  have c2 : Steps p.tables e below (s₁.setTop (entryFrame m #[.ref t, .int (Int32.ofNat i)] 2)) (s₁.setTop (mkF m 3 #[.val (.ref t), .val (.int (Int32.ofNat i))] [.int (Int32.ofNat V.slots.size), .int (Int32.ofNat i)])) := c1.trans (by
    refine XS.iloadN X0.here hexec rfl (hb hbytes d0) rfl ?_
    refine XS.aloadN X0.here hexec rfl (hb hbytes d1) rfl rfl ?_
    refine X0.alen hexec (hV.mv X0.warmed.alike hh0) rfl rfl (hb hbytes d2) ?_
    exact Steps.refl _)
  obtain ⟨v3, T3, X3, E3, g3⟩ := X0.callS hexec (JO.Str_checkIndex.law l (Int32.ofNat i) (Int32.ofNat V.slots.size) fm) hown (wks W (staticW "java/lang/StringLatin1" 9 JO.Str_checkIndex.yN)) (wk W JO.Str_checkIndex.tab) (W := 0) (Nat.le_of_ble_eq_true rfl) (Nat.le_of_ble_eq_true rfl) (Nat.le_refl _) (Nat.le_refl _) (g := (mkF m 3 #[.val (.ref t), .val (.int (Int32.ofNat i))] [.int (Int32.ofNat V.slots.size), .int (Int32.ofNat i)])) rfl (by rw [hml]; rfl) c2 (argsL := [.int (Int32.ofNat i), .int (Int32.ofNat V.slots.size)]) (rest := []) rfl rfl (by show 2 * 0 + 0 ≤ _; decide) (hb hbytes d3) (⟨rfl, rf, s1.there X0.warmed.alike hh0, Int32.ofNat_not_neg (by omega), lt32 v31 hi⟩)
  obtain ⟨rfl, q3⟩ := E3
  have hh3 := q3.trans hh0
  have c4 : Steps p.tables e below (s₁.setTop (entryFrame m #[.ref t, .int (Int32.ofNat i)] 2)) (T3.setTop (mkF m 14 #[.val (.ref t), .val (.int (Int32.ofNat i))] [.int (chr8 u)])) := Steps.trans g3 (by
    refine XS.aloadN X3.here hexec rfl (hb hbytes d6) rfl rfl ?_
    refine XS.iloadN X3.here hexec rfl (hb hbytes d7) rfl ?_
    refine X3.aget hexec (hV.mv X3.warmed.alike hh3) rfl hu rfl rfl (hb hbytes d8) ?_
    refine sipushV X3.here hexec rfl 255 (hb hbytes d9) (by decide) ?_
    refine XS.iand X3.here hexec rfl (hb hbytes d12) rfl ?_
    refine i2c X3.here hexec rfl (hb hbytes d13) rfl ?_
    exact Steps.refl _)
  exact ⟨T3, some (.int (chr8 u)), _, _, _, X3, rfl, rfl, rfl, (fun h => by cases h), ⟨rfl, hh3⟩, fun fs hl => c4.trans (X3.ireturnOut hexec hret (narrow_c _) (Or.inr (Or.inr (Or.inr (Or.inl rfl)))) (hb hbytes d14) hl)⟩
end LChA
end StrChars
namespace StrChars.Road
open Jvm Sem ClassFile Op Lib Jvm.Stand Jvm.Free Jvm.Free.XT
open Jvm.Lib.Cold (StaticIs)
theorem consq {a : Array Value} {s : State} {c : Jvm.Cond} {L : List Jvm.Cond} (h0 : c.before a s = true) (h : ∀ w ∈ L, w.before a s = true) : ∀ w ∈ c :: L, w.before a s = true := fun w hw => (List.mem_cons.mp hw).elim (fun e => e ▸ h0) (h w)
/-- the words of String.length(), either coding -/
abbrev wordsLen : List Jvm.Cond := [.code Len.yN Len.yB 1 (some .int), .initialized ST, .fieldLink ST 9 ST "value" "[B", .fieldLink ST 38 ST "COMPACT_STRINGS" "Z", .fieldLink ST 15 ST "coder" "B", .code Cdr.yN Cdr.yB 1 (some .byte), .methodLink ST 335 Cdr.yN, .declares Cdr.yN, .selects ST Cdr.yN Cdr.yN, .instanceMethod Cdr.yN]
theorem tabLen_of {a : Array Value} {s : State} (h : ∀ w ∈ wordsLen, w.before a s = true) : Len.tab.before a s = true := by
  have hc : Cdr.tab.before a s = true := unparts (wk h (.code Cdr.yN Cdr.yB 1 (some .byte))) (wks h (.initialized Cdr.yN.cls :: Cdr.site))
  have q := consq hc h
  exact unparts (wk q (.code Len.yN Len.yB 1 (some .int))) (wks q (.initialized Len.yN.cls :: Len.site))
theorem movedLen {Z s : State} {a0 args : Array Value} (hZ : Z.Warmed39 s.vm) (hw : ∀ d ∈ wordsLen, d.before a0 Z = true) : ∀ d ∈ wordsLen, d.before args s = true := fun d hd => by
  have q := hw d hd
  have t : ∀ d ∈ wordsLen, d = .arrayClass .byte ∨ (d.onTables && d.keepsFace) = true := by decide +kernel
  rcases t d hd with rfl | t
  · exact RoadKit.mvA hZ q
  · exact RoadKit.mv hZ q t
/-- the bytes of the chars cs, low before high -/
def wideBytes : List Int32 → List Value
  | [] => []
  | c :: cs => .int (lo8 c) :: .int (hi8 c) :: wideBytes cs
theorem wide_lo (d : Value) : ∀ (cs : List Int32) (j : Nat), j < cs.length → (wideBytes cs).getD (2 * j) d = .int (lo8 (cs.getD j 0))
  | [], j, h => absurd h (Nat.not_lt_zero j)
  | c :: cs, 0, _ => rfl
  | c :: cs, j + 1, h => by
    have q := wide_lo d cs j (by simpa using h)
    rw [show 2 * (j + 1) = 2 * j + 1 + 1 from by omega]
    simpa [wideBytes] using q
theorem wide_hi (d : Value) : ∀ (cs : List Int32) (j : Nat), j < cs.length → (wideBytes cs).getD (2 * j + 1) d = .int (hi8 (cs.getD j 0))
  | [], j, h => absurd h (Nat.not_lt_zero j)
  | c :: cs, 0, _ => rfl
  | c :: cs, j + 1, h => by
    have q := wide_hi d cs j (by simpa using h)
    rw [show 2 * (j + 1) + 1 = 2 * j + 1 + 1 + 1 from by omega]
    simpa [wideBytes] using q
theorem low_at (d : Value) (cs : List Int32) (j : Nat) (h : j < cs.length) : (cs.map fun c => Value.int (lo8 c)).getD j d = .int (lo8 (cs.getD j 0)) := by
  simp [List.getD_eq_getElem?_getD, h]
/-- an array of N2 bytes vs codes the chars cs by the coder cd -/
def CodA (cs : List Int32) (cd N2 : Int32) (vs : List Value) : Prop := (cd = 0 ∧ N2 = Int32.ofNat cs.length ∧ vs = (cs.map fun c => Value.int (lo8 c)) ∧ ∀ c ∈ cs, ¬ 255 < c) ∨ (cd = 1 ∧ N2 = Int32.ofNat (2 * cs.length) ∧ vs = wideBytes cs ∧ ∃ c ∈ cs, 255 < c)
theorem CodA.cod {cs : List Int32} {cd N2 : Int32} {vs : List Value} {V : Cell} (h : CodA cs cd N2 vs) (hn : 2 * cs.length < 2 ^ 31) (hs : V.slots.size = N2.toNatClampNeg) (hv : RoadKit.Has V vs (.int 0)) : Cod cd cs.length (fun j => cs.getD j 0) V := by
  rcases h with ⟨rfl, rfl, rfl, h⟩ | ⟨rfl, rfl, rfl, c, hc, hw⟩
  · rw [n32 (by omega)] at hs
    exact Or.inl ⟨rfl, hs, fun j hj => ⟨by rw [hv j (by omega), low_at _ _ _ hj], by
      have e : cs.getD j 0 = cs[j] := by simp [List.getD_eq_getElem?_getD, hj]
      show ¬ 255 < cs.getD j 0
      rw [e]; exact h _ (List.getElem_mem _)⟩⟩
  · rw [n32 (by omega)] at hs
    obtain ⟨j, hj, rfl⟩ := List.getElem_of_mem hc
    exact Or.inr ⟨rfl, hs, fun j hj => ⟨by rw [hv _ (by omega), wide_lo _ _ _ hj], by rw [hv _ (by omega), wide_hi _ _ _ hj]⟩, j, hj, by
      have e : cs.getD j 0 = cs[j] := by simp [List.getD_eq_getElem?_getD, hj]
      show 255 < cs.getD j 0
      rw [e]; exact hw⟩
/-- an object of exactly java/lang/String, its two fields found: as the laws ask it -/
theorem strObj {Z U : State} {a0 : Array Value} {kI : Nat} (wi : (Jvm.Cond.instantiable ST kI).before a0 Z = true) (al : Z.vm.Alike U.vm) {x : Addr} {v0 c0 : Value} (E : RoadKit.Exa Z U.heap x ST) (V : RoadKit.Fld Z U.heap x ST "value" "[B" v0) (C : RoadKit.Fld Z U.heap x ST "coder" "B" c0) :
    ∃ (D : Cell) (fV fC : Field), Blank ST x D U ∧ Found ST "value" "[B" fV U ∧ Found ST "coder" "B" fC U ∧ D.slots[fV.slot]? = some v0 ∧ D.slots[fC.slot]? = some c0 ∧ RoadKit.slotOf Z ST "value" "[B" = fV.slot ∧ RoadKit.slotOf Z ST "coder" "B" = fC.slot := by
  obtain ⟨D, cfV, kV, iV, fV, hD, gV, stV, knV, obV, asV, slV⟩ := V
  obtain ⟨D', cfC, kC, iC, fC, hD', gC, stC, -, -, asC, slC⟩ := C
  cases hD.symm.trans hD'
  obtain ⟨D2, kD, e1, e2, e3, e4, e5⟩ := E
  cases hD.symm.trans e1
  obtain ⟨c2, k2, i1, i2, i3, -⟩ := Cond.instantiable_spec wi
  cases e2.symm.trans i1
  cases e3.symm.trans i2
  obtain ⟨kU, u1, u2⟩ := al.2.2 _ _ e3
  exact ⟨D, fV, fC, ⟨hD, ⟨knV, fun q hq => by rw [hq] at obV; cases obV⟩, by rw [al.findClass]; exact e2, kU, u1, by rw [u2]; exact i3, by rw [u2]; exact e5 i3⟩, ⟨SBG.found_only al ⟨cfV, kV, iV, gV⟩, stV⟩, ⟨SBG.found_only al ⟨cfC, kC, iC, gC⟩, stC⟩, slV, slC, by simp [RoadKit.slotOf, gV], by simp [RoadKit.slotOf, gC]⟩
theorem sta_is {Z U : State} (al : Z.vm.Alike U.vm) {C n d : String} {v : Value} (S : RoadKit.Sta Z U.heap C n d v) : StaticIs U C n d v := by
  obtain ⟨cfS, iS, kS, fS, st, cS, t1, t2, t3, t4, t5, t6, t7⟩ := S
  exact StaticIs.there (s := { Z with heap := U.heap }) ⟨cfS, iS, kS, fS, st, cS, t1, t2, t3, t4, t5, (fun q => by rw [q] at t6; cases t6), t7⟩ al rfl
/-- **length() OF SUCH A STRING** -/
theorem lenW {p : Program} {l : Launch} {e : Env} {R : Room} {s : State} {args : Array Value} {below : List Frame} {len W : Nat} {Z : State} {a0 : Array Value} {h : Heap} (hZ : Z.Warmed39 s.vm) (hw : ∀ d ∈ wordsLen, d.before a0 Z = true) {kI : Nat} (wi : (Jvm.Cond.instantiable ST kI).before a0 Z = true)
    {x t : Addr} {kb : ClassId} {cs : List Int32} {cd N2 z : Int32} {vs : List Value} (E : RoadKit.Exa Z h x ST) (V : RoadKit.Fld Z h x ST "value" "[B" (.ref t)) (C : RoadKit.Fld Z h x ST "coder" "B" (.int cd)) (K : RoadKit.Arv Z h t kb .byte N2 vs (.int 0)) (hc : CodA cs cd N2 vs) (hb : ∀ c ∈ cs, ¬ c < 0 ∧ ¬ (65535 : Int32) < c)
    (S : RoadKit.Sta Z h ST "COMPACT_STRINGS" "Z" (.int z)) (hz : ¬ z = 0) (l2 : cs.length ≤ 4000) (hfr : 2 ≤ R.frames) (hlo : W + 25 ≤ R.locals) :
    Back l R p e below s args (⟨"java/lang/String", "length", "()I"⟩ : MethodName) len W (fun P a => a = #[.ref x] ∧ P.U.heap = h ∧ P.cells + 0 ≤ R.cells ∧ P.slots + 0 ≤ R.slots)
      (fun P _ v B => ∃ L, (v = some (.int (Int32.ofNat cs.length)) ∧ L = [] ∧ B.U.heap = h) ∧ B.locs = P.locs ++ L ∧ B.cells = P.cells + 0 ∧ B.slots = P.slots + 0) := by
  obtain ⟨A, K1, K2, K3, K4, K5, K6⟩ := K
  have hcod := hc.cod (by omega) K3 K5
  intro m meth c P g ig mk a X hg hsize hdg hW hn hp'
  obtain ⟨rfl, rfl, r1, r2⟩ := hp'
  have al : Z.vm.Alike P.U.vm := hZ.alike.trans X.warmed.alike
  obtain ⟨D, fV, fC, hB, F1, F2, g1, g2, -, -⟩ := strObj wi al E V C
  have hx : Txt x t A cd cs.length (fun j => cs.getD j 0) P.U := ⟨⟨_, hB.2.2.1, D, hB.1, rfl, by cases q : D.vm <;> first | rfl | exact absurd q (hB.2.1.2 _)⟩, Has.of hB F1 g1, Has.of hB F2 g2, ⟨K1.1, State.isArrayOf_alike al K1.2.1, K1.2.2, by rcases hcod with ⟨-, q, -⟩ | ⟨-, q, -⟩ <;> omega⟩, hcod, fun j hj => by
    have e : cs.getD j 0 = cs[j] := by simp [List.getD_eq_getElem?_getD, hj]
    show ¬ cs.getD j 0 < 0 ∧ ¬ 65535 < cs.getD j 0
    rw [e]; exact hb _ (List.getElem_mem _)⟩
  obtain ⟨v, B, X', ⟨⟨hv, hh⟩, hl, hk, hs⟩, st⟩ := Len.pays x t A cd cs.length (fun j => cs.getD j 0) z (tabLen_of (movedLen hZ hw)) hfr hlo m meth c P g ig mk _ X hg hsize hdg hW hn ⟨r1, r2, rfl, hx, sta_is al S, hz⟩
  exact ⟨v, B, X', ⟨[], ⟨hv, rfl, hh⟩, hl, hk, hs⟩, st⟩
end StrChars.Road
namespace StrChars.Road
open Jvm Sem ClassFile Op Lib Jvm.Stand Jvm.Free Jvm.Free.XT
open Jvm.Lib.Cold (StaticIs)
/-- the road's facts of a String, as the laws ask it -/
theorem txt_of {Z U : State} {a0 : Array Value} {kI : Nat} (wi : (Jvm.Cond.instantiable ST kI).before a0 Z = true) (al : Z.vm.Alike U.vm) {x t : Addr} {kb : ClassId} {cs : List Int32} {cd N2 : Int32} {vs : List Value} (E : RoadKit.Exa Z U.heap x ST) (V : RoadKit.Fld Z U.heap x ST "value" "[B" (.ref t)) (C : RoadKit.Fld Z U.heap x ST "coder" "B" (.int cd)) (K : RoadKit.Arv Z U.heap t kb .byte N2 vs (.int 0)) (hc : CodA cs cd N2 vs) (hb : ∀ c ∈ cs, ¬ c < 0 ∧ ¬ (65535 : Int32) < c) (l2 : cs.length ≤ 4000) :
    ∃ A, Txt x t A cd cs.length (fun j => cs.getD j 0) U := by
  obtain ⟨A, K1, K2, K3, K4, K5, K6⟩ := K
  have hcod := hc.cod (by omega) K3 K5
  obtain ⟨D, fV, fC, hB, F1, F2, g1, g2, -, -⟩ := strObj wi al E V C
  exact ⟨A, ⟨_, hB.2.2.1, D, hB.1, rfl, by cases q : D.vm <;> first | rfl | exact absurd q (hB.2.1.2 _)⟩, Has.of hB F1 g1, Has.of hB F2 g2, ⟨K1.1, State.isArrayOf_alike al K1.2.1, K1.2.2, by rcases hcod with ⟨-, q, -⟩ | ⟨-, q, -⟩ <;> omega⟩, hcod, fun j hj => by
    have e : cs.getD j 0 = cs[j] := by simp [List.getD_eq_getElem?_getD, hj]
    show ¬ cs.getD j 0 < 0 ∧ ¬ 65535 < cs.getD j 0
    rw [e]; exact hb _ (List.getElem_mem _)⟩
end StrChars.Road
namespace StrChars
open Jvm Sem ClassFile Op Lib Jvm.Stand Jvm.Free.XT Jvm.Free.ALB Jvm.Free.JM Jvm.Free
open Jvm.Lib.Cold (StaticIs)
namespace ChN
def yN : MethodName := ⟨"java/lang/String", "charAt", "(I)C"⟩
abbrev yB : ByteArray := jdk_42_method_56_code
theorem d0 : decode yB 0 = .ok (.aload_n 0, 1) := by decide +kernel
theorem d1 : decode yB 1 = .ok (.invokevirtual 492, 3) := by decide +kernel
theorem d4 : decode yB 4 = .ok (.ifCond (.eq) 12, 3) := by decide +kernel
theorem d7 : decode yB 7 = .ok (.aload_n 0, 1) := by decide +kernel
theorem d8 : decode yB 8 = .ok (.getfield 9, 3) := by decide +kernel
theorem d11 : decode yB 11 = .ok (.iload_n 1, 1) := by decide +kernel
theorem d12 : decode yB 12 = .ok (.invokestatic 495, 3) := by decide +kernel
theorem d15 : decode yB 15 = .ok (.ireturn, 1) := by decide +kernel
def site : List Cond := [.fieldLink "java/lang/String" 9 "java/lang/String" "value" "[B", IsL.tab, LChA.tab] ++ virtW "java/lang/String" 492 "java/lang/String" IsL.yN IsL.yN ++ staticW "java/lang/String" 495 LChA.yN
def tab : Cond := tabOf yN yB 2 (some .char) site
def P (x t : Addr) (V : Cell) (n : Nat) (f : Nat → Int32) (z : Int32) (fm : Value) (i : Nat) (args : Array Value) (s : State) : Prop := args = #[.ref x, .int (Int32.ofNat i)] ∧ Txt x t V 0 n f s ∧ i < n ∧ StaticIs s "java/lang/String" "COMPACT_STRINGS" "Z" (.int z) ∧ ¬ z = 0 ∧ StaticIs s "jdk/internal/util/Preconditions" "SIOOBE_FORMATTER" "Ljava/util/function/BiFunction;" fm ∧ fm.isRef = true
def E (f : Nat → Int32) (i : Nat) (r : Option Value) (s u : State) : Prop := XT.PureE (some (.int (f i))) r s u
/-- charAt(i) of a Latin-1 String of n chars, i < n: f i -/
theorem law (l : Launch) (x t : Addr) (V : Cell) (n : Nat) (f : Nat → Int32) (z : Int32) (fm : Value) (i : Nat) : Law l yN 2 1 3 40 yB 2 (some .char) site (P x t V n f z fm i) (E f i) [] 0 0 := by
  refine Law.of_walk (plainFor_of_name (by decide +kernel)) (by decide +kernel) (by decide +kernel) (by decide) (fun _ _ h => by rw [h.1]; rfl) (fun _ U U' hal hh h => ⟨h.1, h.2.1.mv hal hh, h.2.2.1, h.2.2.2.1.there hal hh, h.2.2.2.2.1, h.2.2.2.2.2.1.there hal hh, h.2.2.2.2.2.2⟩) (fun r U U' V V' h1 hal h2 h => XT.PureE.mv r U U' V V' h1 hal h2 h) ?_
  intro p e s m args below meth c s₁ X0 hexec hbytes hml hret hlk hnm hown hh0 W hP
  obtain ⟨rfl, hx, hi, s1, hz, s3, rf⟩ := hP
  have v31 := hx.2.2.2.1.2.2.2
  have hr := hx.2.2.2.2.2 i hi
  have hx0 := hx.mv X0.warmed.alike hh0
  have c1 : Steps p.tables e below (s₁.setTop (entryFrame m #[.ref x, .int (Int32.ofNat i)] 2)) (s₁.setTop (mkF m 1 #[.val (.ref x), .val (.int (Int32.ofNat i))] [.ref x])) := Steps.trans (entry rfl) (by
    show Steps p.tables e below (s₁.setTop (mkF m 0 #[.val (.ref x), .val (.int (Int32.ofNat i))] [])) _
    refine XS.aloadN X0.here hexec rfl (hb hbytes d0) rfl rfl ?_
    exact Steps.refl _)
  obtain ⟨v2, T2, X2, E2, g2⟩ := X0.callV hexec (IsL.law l x 0 z) hown (wks W (virtW "java/lang/String" 492 "java/lang/String" IsL.yN IsL.yN)) rfl (by decide) (wk W IsL.tab) (W := 0) (Nat.le_of_ble_eq_true rfl) (Nat.le_of_ble_eq_true rfl) (Nat.le_refl _) (Nat.le_refl _) (hx0.1.fc X0.warmed.alike) hx0.1.is (g := (mkF m 1 #[.val (.ref x), .val (.int (Int32.ofNat i))] [.ref x])) rfl (by rw [hml]; rfl) c1 (argsL := []) (rest := []) rfl rfl (by show 2 * 0 + 0 ≤ _; decide) (hb hbytes d1) (⟨rfl, hx0.2.2.1, hx.2.2.2.2.1.cd, s1.there X0.warmed.alike hh0, hz⟩)
  obtain ⟨rfl, q2⟩ := E2
  have hh2 := q2.trans hh0
  have hx2 := hx.mv X2.warmed.alike hh2
  obtain ⟨-, k1, k2⟩ | ⟨k0, -⟩ := hx.2.2.2.2.1
  · have c3 : Steps p.tables e below (s₁.setTop (entryFrame m #[.ref x, .int (Int32.ofNat i)] 2)) (T2.setTop (mkF m 8 #[.val (.ref x), .val (.int (Int32.ofNat i))] [.ref x])) := Steps.trans g2 (by
      refine XS.ifNo X2.here hexec rfl (hb hbytes d4) rfl (i0_eq_f (by decide)) ?_
      refine XS.aloadN X2.here hexec rfl (hb hbytes d7) rfl rfl ?_
      exact Steps.refl _)
    obtain ⟨T4, X4, q4, st4⟩ := X2.hget hexec hown (wk W (.fieldLink "java/lang/String" 9 "java/lang/String" "value" "[B")) hx2.2.1 (g := (mkF m 8 #[.val (.ref x), .val (.int (Int32.ofNat i))] [.ref x])) rfl (rest := []) rfl (hb hbytes d8)
    have hh4 := q4.trans hh2
    have c5 : Steps p.tables e below (s₁.setTop (entryFrame m #[.ref x, .int (Int32.ofNat i)] 2)) (T4.setTop (mkF m 12 #[.val (.ref x), .val (.int (Int32.ofNat i))] [.int (Int32.ofNat i), .ref t])) := (c3.trans (st4 _ (Steps.refl _))).trans (by
      refine XS.iloadN X4.here hexec rfl (hb hbytes d11) rfl ?_
      exact Steps.refl _)
    obtain ⟨v6, T6, X6, E6, g6⟩ := X4.callS hexec (LChA.law l t V i (lo8 (f i)) fm) hown (wks W (staticW "java/lang/String" 495 LChA.yN)) (wk W LChA.tab) (W := 0) (Nat.le_of_ble_eq_true rfl) (Nat.le_of_ble_eq_true rfl) (Nat.le_refl _) (Nat.le_refl _) (g := (mkF m 12 #[.val (.ref x), .val (.int (Int32.ofNat i))] [.int (Int32.ofNat i), .ref t])) rfl (by rw [hml]; rfl) c5 (argsL := [.ref t, .int (Int32.ofNat i)]) (rest := []) rfl rfl (by show 2 * 0 + 0 ≤ _; decide) (hb hbytes d12) (⟨rfl, hx.2.2.2.1.mv X4.warmed.alike hh4, (k2 i hi).1, s3.there X4.warmed.alike hh4, rf⟩)
    obtain ⟨rfl, q6⟩ := E6
    rw [chr8_lo8 hr.1 (k2 i hi).2] at g6
    exact ⟨T6, some (.int (f i)), _, _, _, X6, rfl, rfl, rfl, (fun h => by cases h), ⟨rfl, q6.trans hh4⟩, fun fs hl => Steps.trans g6 (X6.ireturnOut hexec hret (narrow_ch hr.1 hr.2) (Or.inr (Or.inr (Or.inr (Or.inl rfl)))) (hb hbytes d15) hl)⟩
  · exact absurd k0 (by decide)
theorem pays {l : Launch} {R : Room} {p : Program} {e : Env} {below : List Frame} {s : State} {sargs : Array Value} {len W : Nat} (x t : Addr) (V : Cell) (n : Nat) (f : Nat → Int32) (z : Int32) (fm : Value) (i : Nat) (htab : tab.before sargs s = true) (hfr : 4 ≤ R.frames) (hlo : W + 53 ≤ R.locals) :
    Back l R p e below s sargs yN len W (fun A₁ a₁ => A₁.cells + 0 ≤ R.cells ∧ A₁.slots + 0 ≤ R.slots ∧ P x t V n f z fm i a₁ A₁.U) (fun A₁ _ v₁ B₁ => E f i v₁ A₁.U B₁.U ∧ B₁.locs = A₁.locs ++ [] ∧ B₁.cells = A₁.cells + 0 ∧ B₁.slots = A₁.slots + 0) :=
  (law l x t V n f z fm i).pays htab hfr (by omega)
end ChN
end StrChars
namespace StrChars.Road
open Jvm Sem ClassFile Op Lib Jvm.Stand Jvm.Free Jvm.Free.XT
open Jvm.Lib.Cold (StaticIs)
/-- the words of String.charAt(int), the Latin-1 road alone -/
abbrev wordsChN : List Jvm.Cond := [.code ChN.yN ChN.yB 2 (some .char), .initialized ST, .fieldLink ST 9 ST "value" "[B", .fieldLink ST 38 ST "COMPACT_STRINGS" "Z", .fieldLink ST 15 ST "coder" "B", .code IsL.yN IsL.yB 1 (some .boolean), .methodLink ST 492 IsL.yN, .declares IsL.yN, .selects ST IsL.yN IsL.yN, .instanceMethod IsL.yN,
  .methodLink ST 495 LChA.yN, .static LChA.yN, .code LChA.yN LChA.yB 2 (some .char), .initialized "java/lang/StringLatin1", .methodLink "java/lang/StringLatin1" 9 JO.Str_checkIndex.yN, .static JO.Str_checkIndex.yN, .code JO.Str_checkIndex.yN JO.Str_checkIndex.yB 2 none,
  .fieldLink ST 1053 "jdk/internal/util/Preconditions" "SIOOBE_FORMATTER" "Ljava/util/function/BiFunction;", .methodLink ST 1059 JC.PreCheck.yN, .static JC.PreCheck.yN, .code JC.PreCheck.yN JC.PreCheck.yB 3 (some .int), .initialized "jdk/internal/util/Preconditions"]
theorem tabChN_of {a : Array Value} {s : State} (h : ∀ w ∈ wordsChN, w.before a s = true) : ChN.tab.before a s = true := by
  have hp : JC.PreCheck.tab.before a s = true := unparts (wk h (.code JC.PreCheck.yN JC.PreCheck.yB 3 (some .int))) (wks h (.initialized JC.PreCheck.yN.cls :: JC.PreCheck.site))
  have qk := consq hp h
  have hk : JO.Str_checkIndex.tab.before a s = true := unparts (wk qk (.code JO.Str_checkIndex.yN JO.Str_checkIndex.yB 2 none)) (wks qk (.initialized JO.Str_checkIndex.yN.cls :: JO.Str_checkIndex.site))
  have ql := consq hk h
  have hl : LChA.tab.before a s = true := unparts (wk ql (.code LChA.yN LChA.yB 2 (some .char))) (wks ql (.initialized LChA.yN.cls :: LChA.site))
  have hi : IsL.tab.before a s = true := unparts (wk h (.code IsL.yN IsL.yB 1 (some .boolean))) (wks h (.initialized IsL.yN.cls :: IsL.site))
  have q := consq hi (consq hl h)
  exact unparts (wk q (.code ChN.yN ChN.yB 2 (some .char))) (wks q (.initialized ChN.yN.cls :: ChN.site))
theorem movedChN {Z s : State} {a0 args : Array Value} (hZ : Z.Warmed39 s.vm) (hw : ∀ d ∈ wordsChN, d.before a0 Z = true) : ∀ d ∈ wordsChN, d.before args s = true := fun d hd => by
  have t : ∀ d ∈ wordsChN, (d.onTables && d.keepsFace) = true := by decide +kernel
  exact RoadKit.mv hZ (hw d hd) (t d hd)
/-- **charAt(i) OF A LATIN-1 STRING**, i < n: the char -/
theorem chN {p : Program} {l : Launch} {e : Env} {R : Room} {s : State} {args : Array Value} {below : List Frame} {len W : Nat} {Z : State} {a0 : Array Value} {h : Heap} (hZ : Z.Warmed39 s.vm) (hw : ∀ d ∈ wordsChN, d.before a0 Z = true) {kI : Nat} (wi : (Jvm.Cond.instantiable ST kI).before a0 Z = true)
    {x t : Addr} {kb : ClassId} {cs : List Int32} {N2 z : Int32} {vs : List Value} {fm : Value} {i : Nat} {j : Int32} (E : RoadKit.Exa Z h x ST) (V : RoadKit.Fld Z h x ST "value" "[B" (.ref t)) (C : RoadKit.Fld Z h x ST "coder" "B" (.int 0)) (K : RoadKit.Arv Z h t kb .byte N2 vs (.int 0)) (hc : CodA cs 0 N2 vs) (hb : ∀ c ∈ cs, ¬ c < 0 ∧ ¬ (65535 : Int32) < c)
    (S : RoadKit.Sta Z h ST "COMPACT_STRINGS" "Z" (.int z)) (hz : ¬ z = 0) (F : RoadKit.Sta Z h "jdk/internal/util/Preconditions" "SIOOBE_FORMATTER" "Ljava/util/function/BiFunction;" fm) (rf : fm.isRef = true) (l2 : cs.length ≤ 4000) (hi : i < cs.length) (hj : j = Int32.ofNat i) (hfr : 4 ≤ R.frames) (hlo : W + 53 ≤ R.locals) :
    Back l R p e below s args (⟨"java/lang/String", "charAt", "(I)C"⟩ : MethodName) len W (fun P a => a = #[.ref x, .int j] ∧ P.U.heap = h ∧ P.cells + 0 ≤ R.cells ∧ P.slots + 0 ≤ R.slots)
      (fun P _ v B => ∃ L, (v = some (.int (cs.getD i 0)) ∧ L = [] ∧ B.U.heap = h) ∧ B.locs = P.locs ++ L ∧ B.cells = P.cells + 0 ∧ B.slots = P.slots + 0) := by
  subst hj
  intro m meth c P g ig mk a X hg hsize hdg hW hn hp'
  obtain ⟨rfl, rfl, r1, r2⟩ := hp'
  have al : Z.vm.Alike P.U.vm := hZ.alike.trans X.warmed.alike
  obtain ⟨A, hx⟩ := txt_of wi al E V C K hc hb l2
  obtain ⟨v, B, X', ⟨⟨hv, hh⟩, hl, hk, hs⟩, st⟩ := ChN.pays x t A cs.length (fun j => cs.getD j 0) z fm i (tabChN_of (movedChN hZ hw)) hfr hlo m meth c P g ig mk _ X hg hsize hdg hW hn ⟨r1, r2, rfl, hx, hi, sta_is al S, hz, sta_is al F, rf⟩
  exact ⟨v, B, X', ⟨[], ⟨hv, rfl, hh⟩, hl, hk, hs⟩, st⟩
/-- what backV says of its String, as the contracts of this text ask it: cs's low bytes, coder 0 -/
theorem codOf {cs : List Int32} {n : Nat} (hn : cs.length = n) (hb : ∀ c ∈ cs, ¬ 255 < c) : CodA cs 0 (Int32.ofNat n) ((cs.map lo8).map Value.int) := Or.inl ⟨rfl, by rw [hn], by simp [List.map_map, Function.comp_def], hb⟩
end StrChars.Road
end Jvm.Pilot.@@N@@
namespace Jvm.RoadKit
open Sem ClassFile Op Lib Jvm.Stand Jvm.Free Jvm.LawKit
section OwnStrs
variable {Z : State} {h h' : Heap} {a x : Addr} {ty : FieldType} {vs : List Value} {C n d : String} {w : Value} {ws : List Addr}
/-- none of ws is a class's cell of statics -/
def noS (h : Heap) (ws : List Addr) : Prop := ∀ x ∈ ws, ∀ c : Cell, h[x]? = some c → c.vm.isStatics = false
theorem noS0 : noS h [] := fun _ hx => by cases hx
theorem noSS (q : ∀ c : Cell, h[x]? = some c → c.vm.isStatics = false) (r : noS h ws) : noS h (x :: ws) := fun y hy c hc => by
  rcases List.mem_cons.mp hy with e | e
  · subst e; exact q c hc
  · exact r y e c hc
theorem noS_exa (E : Exa Z h x C) : ∀ c : Cell, h[x]? = some c → c.vm.isStatics = false := fun c hc => by
  obtain ⟨cell, k, h1, h2, h3, h4, -⟩ := E
  cases h1.symm.trans hc; exact h4
theorem sta_keep (F : Sta Z h C n d w) (K : Keep h h' ws) (q : noS h ws) : Sta Z h' C n d w := by
  obtain ⟨cf, i, k, f, st, cell, h1, h2, h3, h4, h5, h6, h7⟩ := F
  exact ⟨cf, i, k, f, st, cell, h1, h2, h3, h4, K.2.1 st cell h5 (fun hm => by rw [q st hm cell h5] at h6; cases h6), h6, h7⟩
theorem ArL.of_arv {k : ClassId} {z : Int32} {dv : Value} (F : Arv Z h a k ty z vs dv) (hl : z.toNatClampNeg = vs.length) : ArL Z h a ty vs := by
  obtain ⟨c, A, -, hsz, -, H, -⟩ := F
  refine ⟨c, A, List.ext_getElem? fun i => ?_⟩
  rw [Array.getElem?_toList]
  by_cases q : i < c.slots.size
  · rw [H i q, List.getD_eq_getElem?_getD, List.getElem?_eq_getElem (by omega)]; rfl
  · rw [Array.getElem?_eq_none (by omega), List.getElem?_eq_none (by omega)]
theorem ArL.to_arv (z : Int32) (dv : Value) (F : ArL Z h a ty vs) (hl : z.toNatClampNeg = vs.length) (hz : ¬ z < 0) (hf : ∀ v ∈ vs, fits ty v = true) : ∃ k, Arv Z h a k ty z vs dv := by
  obtain ⟨c, A, rfl⟩ := F
  refine ⟨c.cls, c, A, rfl, by rw [hl]; simp, hz, fun k hk => ?_, fun i hi => ?_⟩
  · rw [List.getD_eq_getElem?_getD, Array.getElem?_toList, Array.getElem?_eq_getElem hk]; rfl
  · have q : i < c.slots.toList.length := by simpa using hi
    rw [List.getD_eq_getElem?_getD, List.getElem?_eq_getElem q]
    exact hf _ (List.getElem_mem q)
end OwnStrs
end Jvm.RoadKit
namespace Jvm.RoadKit
open Sem ClassFile Op Lib Jvm.Stand Jvm.Free Jvm.LawKit
section OwnCold
variable {p : Program} {l : Launch} {e : Env} {R : Room} {s : State} {m : MethodId} {args : Array Value} {below : List Frame} {meth : Method} {c : Code} {T : State} {locs : List Loc} {cells slots : Nat}
/-- the return of a boolean in a walk that may have interned -/
theorem Go.retBW {vm0 : Vm} (X : Stand p l e R (s.setVm vm0) m args below meth c T locs cells slots) (hx : p.tables.exec = Jvm.exec) {n : Nat} (hS : s.Since vm0 n) (hn : n ≤ T.heap.size) {pc : Nat} {Ls : Array Slot} {b : Bool} {rest : List Value} (hret : meth.sig.returnType = some .boolean) (hd : decode c.code pc = .ok (.ireturn, 1)) (hlk : meth.locks = false)
    {Qa : Option Value → Heap → List Loc → Prop} {Qb : Vm → Heap → Prop} {K S : Nat} (hQ : Qa (some (.int (b2i b))) T.heap locs) (hq : Qb T.vm T.heap) (hc : cells ≤ K) (hs : slots ≤ S) :
    Go p.tables e below (fun o U' => ∃ v L, o = .returned v ∧ Qa v U'.heap L ∧ Qb U'.vm U'.heap ∧ ReturnedEndW s o U' L K S) (T.setTop (mkF m pc Ls (.int (b2i b) :: rest))) := by
  obtain ⟨fs, hr, hrun, hended, e1, e2, e3, e4⟩ := X.leaveW hS hn (v := some (.int (nar .boolean (b2i b)))) (fun h => by rw [hret] at h; cases h) hlk
  rw [nar_b2i] at hended e1
  exact ⟨_, _, Jvm.RoadKit.retN X hx hret (Or.inl rfl) hd hr, hrun, hended, _, _, rfl, hQ, hq, e1, e2, e3, e4.mono hc hs⟩
end OwnCold
end Jvm.RoadKit
namespace Jvm.RoadKit
open Sem ClassFile Op Lib Bundle Jvm.Stand Jvm.Free Jvm.LawKit Jvm.Free.SB Jvm.Free.SBG
section OwnCold2
variable {p : Program} {l : Launch} {e : Env} {R : Room} {s : State} {m : MethodId} {args : Array Value} {below : List Frame} {meth : Method} {c : Code} {T : State} {locs : List Loc} {cells slots : Nat} {Z : State} {a0 : Array Value} {EL : List (String × Nat)} {h : Heap} {vm0 : Vm}
theorem Go.retVW (X : Stand p l e R (s.setVm vm0) m args below meth c T locs cells slots) (hx : p.tables.exec = Jvm.exec) {n : Nat} (hS : s.Since vm0 n) (hn : n ≤ T.heap.size) {pc : Nat} {Ls : Array Slot} (hret : meth.sig.returnType = none) (hd : decode c.code pc = .ok (.return_, 1)) (hlk : meth.locks = false)
    {Qa : Option Value → Heap → List Loc → Prop} {Qb : Vm → Heap → Prop} {K S : Nat} (hQ : Qa none T.heap locs) (hq : Qb T.vm T.heap) (hc : cells ≤ K) (hs : slots ≤ S) :
    Go p.tables e below (fun o U' => ∃ v L, o = .returned v ∧ Qa v U'.heap L ∧ Qb U'.vm U'.heap ∧ ReturnedEndW s o U' L K S) (T.setTop (mkF m pc Ls [])) := by
  obtain ⟨fs, hr, hrun, hended, e1, e2, e3, e4⟩ := X.leaveW hS hn (v := none) (fun _ => rfl) hlk
  exact ⟨_, _, X.returnOut hx hret hd hr, hrun, hended, _, _, rfl, hQ, hq, e1, e2, e3, e4.mono hc hs⟩
/-- a call of a callee that may intern, and that writes the object x, which no constant stands for -/
theorem own_backSH {y : MethodName} {bytes : ByteArray} {maxL : Nat} {ret : Option FieldType} {rm : Room} {len W : Nat} {as' : Array Value} {Q : Option Value → Heap → List Loc → Prop} {x : Addr}
    (hM : MetFree l y (head1 [Cond.code y bytes maxL ret] rm) (fun a U => a = as' ∧ Z.Warmed39 U.vm ∧ U.heap = h ∧ CHv Z EL U.vm h ∧ Safe Z EL U.vm h x) (fun _ _ _ _ _ => True) (fun _ U o U' => ∃ v L, o = .returned v ∧ Q v U'.heap L ∧ CHr Z EL U.vm U.heap U'.vm U'.heap ∧ ReturnedEndW U o U' L rm.cells rm.slots))
    (hZ : Z.Warmed39 vm0) (wc : (Cond.code y bytes maxL ret).before a0 Z = true) (wz : (Cond.initialized y.cls).before a0 Z = true) (hf : rm.frames + 1 ≤ R.frames) (hl : W + (maxL + 11) + rm.locals ≤ R.locals) (hEL : EW Z a0 EL) (H : CHv Z EL vm0 h) (hlt : x < h.size) (hSf : Safe Z EL vm0 h x) :
    BackS l R p e below (s.setVm vm0) args y len W (fun A a => a = as' ∧ A.U.heap = h ∧ A.cells + rm.cells ≤ R.cells ∧ A.slots + rm.slots ≤ R.slots)
      (fun A _ v B => ∃ L, Q v B.U.heap L ∧ B.locs = A.locs ++ L ∧ B.cells = A.cells + rm.cells ∧ B.slots = A.slots + rm.slots ∧ CHr Z EL vm0 h B.U.vm B.U.heap) :=
  BackS.of_freeW (bytes := bytes) (maxL := maxL) (ret := ret) (E := fun _ first o t L k n => k = rm.cells ∧ n = rm.slots ∧ (∃ v, o = .returned v ∧ Q v t.heap L) ∧ CHr Z EL first.vm first.heap t.vm t.heap) hM hf hl
    (fun m meth c A a Y hp => have hU : Z.Warmed39 A.U.vm := wtrans (s := s.setVm vm0) hZ Y.warmed
      ⟨by show (Cond.and _ .tt).before a A.U = true; rw [Cond.before_and, mv hU wc]; rfl, mv hU wc, mv hU wz, hp.2.2.1, hp.2.2.2⟩)
    (fun m meth c A a g mk Y hp => ⟨hp.1, wtrans (s := s.setVm vm0) hZ Y.warmed, hp.2.1, (CHv.at Y hZ hEL H).1, (CHv.at Y hZ hEL H).safe hlt hSf⟩) (fun _ _ _ _ _ _ _ _ _ => trivial)
    (fun _ _ _ _ ⟨v, L, h1, h2, h3, h4⟩ => ⟨L, _, _, h4, rfl, rfl, ⟨v, h1, h2⟩, h3⟩)
    (fun m meth c A a g mk v t L k n Y hp _ _ ⟨e1, e2, ⟨v', e3, e4⟩, e5⟩ => by
      cases e3; subst e1 e2
      refine ⟨L, e4, rfl, rfl, rfl, (CHv.at Y hZ hEL H).trans ?_⟩
      rw [← hp.2.1]; exact e5)
end OwnCold2
end Jvm.RoadKit
namespace Jvm.Pilot.@@N@@
open Jvm Jvm.ClassFile Sem Op Lib Jvm.Free Jvm.Stand Jvm.LawKit Jvm.RoadKit Bundle Jvm.Pilot.@@N@@.Jvm.D
theorem pd_0 : parseMethodDescriptor "()I" = some ⟨[], some .int⟩ := by decide +kernel
theorem pd_1 : parseMethodDescriptor "()Z" = some ⟨[], some .boolean⟩ := by decide +kernel
theorem pd_2 : parseMethodDescriptor "(I)C" = some ⟨[.int], some .char⟩ := by decide +kernel
theorem pd_3 : parseMethodDescriptor "(C)Z" = some ⟨[.char], some .boolean⟩ := by decide +kernel
theorem pd_4 : parseMethodDescriptor "([CIILjava/lang/Void;)V" = some ⟨[(.array .char), .int, .int, (.object "java/lang/Void")], none⟩ := by decide +kernel
theorem pd_5 : parseMethodDescriptor "([C)V" = some ⟨[(.array .char)], none⟩ := by decide +kernel
theorem pd_6 : parseMethodDescriptor "(Ljava/lang/String;Ljava/lang/String;)V" = some ⟨[(.object "java/lang/String"), (.object "java/lang/String")], none⟩ := by decide +kernel
theorem pd_7 : parseMethodDescriptor "()V" = some ⟨[], none⟩ := by decide +kernel
theorem pd_8 : parseMethodDescriptor "(C)V" = some ⟨[.char], none⟩ := by decide +kernel
theorem d1_0 : decode method_2_code 0 = .ok (.iload_n 0, 1) := by decide +kernel
theorem d1_1 : decode method_2_code 1 = .ok (.bipush 8, 2) := by decide +kernel
theorem d1_3 : decode method_2_code 3 = .ok (.iushr, 1) := by decide +kernel
theorem d1_4 : decode method_2_code 4 = .ok (.iconst 1, 1) := by decide +kernel
theorem d1_5 : decode method_2_code 5 = .ok (.iand, 1) := by decide +kernel
theorem d1_6 : decode method_2_code 6 = .ok (.ifCond .eq 17, 3) := by decide +kernel
theorem d1_9 : decode method_2_code 9 = .ok (.iload_n 0, 1) := by decide +kernel
theorem d1_10 : decode method_2_code 10 = .ok (.iconst 1, 1) := by decide +kernel
theorem d1_11 : decode method_2_code 11 = .ok (.iand, 1) := by decide +kernel
theorem d1_12 : decode method_2_code 12 = .ok (.ifCond .eq 8, 3) := by decide +kernel
theorem d1_15 : decode method_2_code 15 = .ok (.bipush 9, 2) := by decide +kernel
theorem d1_17 : decode method_2_code 17 = .ok (.goto 5, 3) := by decide +kernel
theorem d1_20 : decode method_2_code 20 = .ok (.bipush 32, 2) := by decide +kernel
theorem d1_22 : decode method_2_code 22 = .ok (.ireturn, 1) := by decide +kernel
theorem d1_23 : decode method_2_code 23 = .ok (.iload_n 0, 1) := by decide +kernel
theorem d1_24 : decode method_2_code 24 = .ok (.sipush 255, 3) := by decide +kernel
theorem d1_27 : decode method_2_code 27 = .ok (.iand, 1) := by decide +kernel
theorem d1_28 : decode method_2_code 28 = .ok (.i2c, 1) := by decide +kernel
theorem d1_29 : decode method_2_code 29 = .ok (.ireturn, 1) := by decide +kernel
def f1 (p0 : Int32) : Int32 := (if ((((p0).toUInt32 >>> ((8 : Int32) &&& 31).toUInt32).toInt32) &&& (1 : Int32)) = (0 : Int32) then (nar .char (((p0 &&& (255 : Int32))).toUInt32.toUInt16.toUInt32.toInt32)) else (let z6 : Int32 := (if (p0 &&& (1 : Int32)) = (0 : Int32) then (32 : Int32) else (9 : Int32)); (nar .char z6)))
def Q1 (p0 : Int32) (h0 : Heap) (n0 : Nat) (v : Option Value) (h : Heap) (L : List Loc) : Prop := v = some (.int (f1 p0)) ∧ Fr n0 L ∧ h = h0
abbrev rmm1 : Room := { frames := 0, cells := 0, slots := 0, locals := 0 }
abbrev P1 (p0 : Int32) (h0 : Heap) (n0 : Nat) (s : State) : Outcome → State → Prop := fun o U' => ∃ v L, o = .returned v ∧ Q1 p0 h0 n0 v U'.heap L ∧ FrameEnd s o U' L rmm1.cells rmm1.slots
theorem pn_1 : plainName "com/example/paylode/paylode/header/HeaderReaderAtEndPinLaw" = true := by first | (simp [plainName, overriddenIn]; done) | decide +kernel
theorem ef_1 (m : MethodId) (p0 : Int32) : entryFrame m #[(.int p0)] 1 = mkF m 0 #[.val (.int p0)] [] := by first | (simp [entryFrame, mkF, argsToLocals, Value.category]; done) | rfl
set_option maxRecDepth 65536 in
set_option maxHeartbeats 40000000 in
theorem rm1 (l : Launch) (Z : State) (a0 : Array Value) (hw : ∀ d ∈ tables_1, d.before a0 Z = true) (ws : List Jvm.Cond) (p0 : Int32) (h0 : Heap) (n0 : Nat) :
    MetFree l (⟨"com/example/paylode/paylode/header/HeaderReaderAtEndPinLaw", "draw", "(I)C"⟩ : MethodName) (head1 (Jvm.Cond.code (⟨"com/example/paylode/paylode/header/HeaderReaderAtEndPinLaw", "draw", "(I)C"⟩ : MethodName) method_2_code 1 (some .char) :: ws) rmm1) (fun a U => a = #[(.int p0)] ∧ Z.Warmed39 U.vm ∧ U.heap = h0) (fun _ _ _ _ _ => True) (fun _ U o U' => ∃ v L, o = .returned v ∧ Q1 p0 h0 n0 v U'.heap L ∧ FrameEnd U o U' L rmm1.cells rmm1.slots) := by
  refine MetFree.of_bodySF (plainFor_of_name pn_1) hisR ?_
  intro p e s m args below meth c s₁ Bd hml0 hP hK
  obtain ⟨rfl, hZ, hh⟩ := hP
  have hx := Bd.exec
  have hby := Bd.bytes
  have hml : c.maxLocals = 1 := hml0
  have hown : s.vm.findClass "com/example/paylode/paylode/header/HeaderReaderAtEndPinLaw" = some m.cls := findClass_of_methodNamed Bd.named
  have hnm := (name_of_methodNamed Bd.named Bd.method).1
  have X0 : Stand p l e rmm1 s m #[(.int p0)] below meth c s₁ [] 0 0 := Stand.of_body Bd
  have e0 : s₁.heap = h0 := by rw [← hh, Bd.state]; rfl
  have N0 := Fr.nil n0
  show Go p.tables e below (P1 p0 h0 n0 s) (s₁.setTop (entryFrame m #[(.int p0)] 1))
  refine Go.back (fun t k => castTop (ef_1 m p0) k) ?_
  show Go p.tables e below (P1 p0 h0 n0 s) (s₁.setTop (mkF m 0 #[.val (.int p0)] []))
  have hf : f1 p0 = (if ((((p0).toUInt32 >>> ((8 : Int32) &&& 31).toUInt32).toInt32) &&& (1 : Int32)) = (0 : Int32) then (nar .char (((p0 &&& (255 : Int32))).toUInt32.toUInt16.toUInt32.toInt32)) else (let z6 : Int32 := (if (p0 &&& (1 : Int32)) = (0 : Int32) then (32 : Int32) else (9 : Int32)); (nar .char z6))) := rfl
  refine Go.back (fun t k => XS.iloadN X0.here hx rfl (hb hby d1_0) rfl  k) ?_
  show Go p.tables e below (P1 p0 h0 n0 s) (s₁.setTop (mkF m 1 #[.val (.int p0)] [(.int p0)]))
  refine Go.back (fun t k => XS.bipush X0.here hx rfl (hb hby d1_1) k) ?_
  show Go p.tables e below (P1 p0 h0 n0 s) (s₁.setTop (mkF m 3 #[.val (.int p0)] [(.int (8 : Int32)), (.int p0)]))
  refine Go.back (fun t k => XS.iushr X0.here hx rfl (hb hby d1_3) rfl k) ?_
  show Go p.tables e below (P1 p0 h0 n0 s) (s₁.setTop (mkF m 4 #[.val (.int p0)] [(.int (((p0).toUInt32 >>> ((8 : Int32) &&& 31).toUInt32).toInt32))]))
  refine Go.back (fun t k => XS.iconst X0.here hx rfl (hb hby d1_4) k) ?_
  show Go p.tables e below (P1 p0 h0 n0 s) (s₁.setTop (mkF m 5 #[.val (.int p0)] [(.int (1 : Int32)), (.int (((p0).toUInt32 >>> ((8 : Int32) &&& 31).toUInt32).toInt32))]))
  refine Go.back (fun t k => XS.iand X0.here hx rfl (hb hby d1_5) rfl k) ?_
  show Go p.tables e below (P1 p0 h0 n0 s) (s₁.setTop (mkF m 6 #[.val (.int p0)] [(.int ((((p0).toUInt32 >>> ((8 : Int32) &&& 31).toUInt32).toInt32) &&& (1 : Int32)))]))
  by_cases hc1 : ((((p0).toUInt32 >>> ((8 : Int32) &&& 31).toUInt32).toInt32) &&& (1 : Int32)) = (0 : Int32)
  · have r2 := hf.trans (if_pos hc1)
    refine Go.back (fun t k => XS.ifYes X0.here hx rfl (pc0 := 6) (pc' := 23) rfl (hb hby d1_6) rfl ((if0 _ _).trans (teq hc1).1) (by decide) (by decide) k) ?_
    show Go p.tables e below (P1 p0 h0 n0 s) (s₁.setTop (mkF m 23 #[.val (.int p0)] []))
    refine Go.back (fun t k => XS.iloadN X0.here hx rfl (hb hby d1_23) rfl  k) ?_
    show Go p.tables e below (P1 p0 h0 n0 s) (s₁.setTop (mkF m 24 #[.val (.int p0)] [(.int p0)]))
    refine Go.back (fun t k => XS.sipush X0.here hx rfl (hb hby d1_24) k) ?_
    show Go p.tables e below (P1 p0 h0 n0 s) (s₁.setTop (mkF m 27 #[.val (.int p0)] [(.int (255 : Int32)), (.int p0)]))
    refine Go.back (fun t k => XS.iand X0.here hx rfl (hb hby d1_27) rfl k) ?_
    show Go p.tables e below (P1 p0 h0 n0 s) (s₁.setTop (mkF m 28 #[.val (.int p0)] [(.int (p0 &&& (255 : Int32)))]))
    refine Go.back (fun t k => XS.i2c X0.here hx rfl (hb hby d1_28) rfl k) ?_
    show Go p.tables e below (P1 p0 h0 n0 s) (s₁.setTop (mkF m 29 #[.val (.int p0)] [(.int (((p0 &&& (255 : Int32))).toUInt32.toUInt16.toUInt32.toInt32))]))
    exact Go.retN (t := .char) X0 hx Bd.returns (by simp) (hb hby d1_29) Bd.notSynchronized ⟨by rw [r2], N0, e0⟩ (by decide) (by decide)
  · have r3 := hf.trans (if_neg hc1)
    refine Go.back (fun t k => XS.ifNo X0.here hx rfl (hb hby d1_6) rfl ((if0 _ _).trans (feq hc1).1) k) ?_
    show Go p.tables e below (P1 p0 h0 n0 s) (s₁.setTop (mkF m 9 #[.val (.int p0)] []))
    refine Go.back (fun t k => XS.iloadN X0.here hx rfl (hb hby d1_9) rfl  k) ?_
    show Go p.tables e below (P1 p0 h0 n0 s) (s₁.setTop (mkF m 10 #[.val (.int p0)] [(.int p0)]))
    refine Go.back (fun t k => XS.iconst X0.here hx rfl (hb hby d1_10) k) ?_
    show Go p.tables e below (P1 p0 h0 n0 s) (s₁.setTop (mkF m 11 #[.val (.int p0)] [(.int (1 : Int32)), (.int p0)]))
    refine Go.back (fun t k => XS.iand X0.here hx rfl (hb hby d1_11) rfl k) ?_
    show Go p.tables e below (P1 p0 h0 n0 s) (s₁.setTop (mkF m 12 #[.val (.int p0)] [(.int (p0 &&& (1 : Int32)))]))
    have J5 : ∀ (z6 : Int32) (hz6 : z6 = (if (p0 &&& (1 : Int32)) = (0 : Int32) then (32 : Int32) else (9 : Int32))), Go p.tables e below (P1 p0 h0 n0 s) (s₁.setTop (mkF m 22 #[.val (.int p0)] [(.int z6)])) := by
      intro z6 hz6
      have r7 : f1 p0 = (nar .char z6) := by subst hz6; exact r3
      show Go p.tables e below (P1 p0 h0 n0 s) (s₁.setTop (mkF m 22 #[.val (.int p0)] [(.int z6)]))
      exact Go.retN (t := .char) X0 hx Bd.returns (by simp) (hb hby d1_22) Bd.notSynchronized ⟨by rw [r7], N0, e0⟩ (by decide) (by decide)
    have r8 : (if (p0 &&& (1 : Int32)) = (0 : Int32) then (32 : Int32) else (9 : Int32)) = (if (p0 &&& (1 : Int32)) = (0 : Int32) then (32 : Int32) else (9 : Int32)) := rfl
    by_cases hc4 : (p0 &&& (1 : Int32)) = (0 : Int32)
    · have r9 := r8.trans (if_pos hc4)
      refine Go.back (fun t k => XS.ifYes X0.here hx rfl (pc0 := 12) (pc' := 20) rfl (hb hby d1_12) rfl ((if0 _ _).trans (teq hc4).1) (by decide) (by decide) k) ?_
      show Go p.tables e below (P1 p0 h0 n0 s) (s₁.setTop (mkF m 20 #[.val (.int p0)] []))
      refine Go.back (fun t k => XS.bipush X0.here hx rfl (hb hby d1_20) k) ?_
      show Go p.tables e below (P1 p0 h0 n0 s) (s₁.setTop (mkF m 22 #[.val (.int p0)] [(.int (32 : Int32))]))
      exact J5 (32 : Int32) r9.symm
    · have r10 := r8.trans (if_neg hc4)
      refine Go.back (fun t k => XS.ifNo X0.here hx rfl (hb hby d1_12) rfl ((if0 _ _).trans (feq hc4).1) k) ?_
      show Go p.tables e below (P1 p0 h0 n0 s) (s₁.setTop (mkF m 15 #[.val (.int p0)] []))
      refine Go.back (fun t k => XS.bipush X0.here hx rfl (hb hby d1_15) k) ?_
      show Go p.tables e below (P1 p0 h0 n0 s) (s₁.setTop (mkF m 17 #[.val (.int p0)] [(.int (9 : Int32))]))
      refine Go.back (fun t k => XS.goto X0.here hx rfl (pc0 := 17) (pc' := 22) rfl (hb hby d1_17) (by decide) (by decide) k) ?_
      show Go p.tables e below (P1 p0 h0 n0 s) (s₁.setTop (mkF m 22 #[.val (.int p0)] [(.int (9 : Int32))]))
      exact J5 (9 : Int32) r10.symm
theorem d15_0 : decode method_3_code 0 = .ok (.iload_n 0, 1) := by decide +kernel
theorem d15_1 : decode method_3_code 1 = .ok (.bipush 32, 2) := by decide +kernel
theorem d15_3 : decode method_3_code 3 = .ok (.if_icmp .eq 9, 3) := by decide +kernel
theorem d15_6 : decode method_3_code 6 = .ok (.iload_n 0, 1) := by decide +kernel
theorem d15_7 : decode method_3_code 7 = .ok (.bipush 9, 2) := by decide +kernel
theorem d15_9 : decode method_3_code 9 = .ok (.if_icmp .ne 7, 3) := by decide +kernel
theorem d15_12 : decode method_3_code 12 = .ok (.iconst 1, 1) := by decide +kernel
theorem d15_13 : decode method_3_code 13 = .ok (.goto 4, 3) := by decide +kernel
theorem d15_16 : decode method_3_code 16 = .ok (.iconst 0, 1) := by decide +kernel
theorem d15_17 : decode method_3_code 17 = .ok (.ireturn, 1) := by decide +kernel
def f15 (p0 : Int32) : Bool := (let z3 : Bool := (if p0 = (32 : Int32) then true else (if p0 = (9 : Int32) then true else false)); z3)
def Q15 (p0 : Int32) (h0 : Heap) (n0 : Nat) (v : Option Value) (h : Heap) (L : List Loc) : Prop := v = some (.int (b2i (f15 p0))) ∧ Fr n0 L ∧ h = h0
abbrev rmm15 : Room := { frames := 0, cells := 0, slots := 0, locals := 0 }
abbrev P15 (p0 : Int32) (h0 : Heap) (n0 : Nat) (s : State) : Outcome → State → Prop := fun o U' => ∃ v L, o = .returned v ∧ Q15 p0 h0 n0 v U'.heap L ∧ FrameEnd s o U' L rmm15.cells rmm15.slots
theorem pn_15 : plainName "com/example/paylode/paylode/header/HeaderReaderAtEndPinLaw" = true := by first | (simp [plainName, overriddenIn]; done) | decide +kernel
theorem ef_15 (m : MethodId) (p0 : Int32) : entryFrame m #[(.int p0)] 1 = mkF m 0 #[.val (.int p0)] [] := by first | (simp [entryFrame, mkF, argsToLocals, Value.category]; done) | rfl
set_option maxRecDepth 65536 in
set_option maxHeartbeats 40000000 in
theorem rm15 (l : Launch) (Z : State) (a0 : Array Value) (hw : ∀ d ∈ tables_1, d.before a0 Z = true) (ws : List Jvm.Cond) (p0 : Int32) (h0 : Heap) (n0 : Nat) :
    MetFree l (⟨"com/example/paylode/paylode/header/HeaderReaderAtEndPinLaw", "ws", "(C)Z"⟩ : MethodName) (head1 (Jvm.Cond.code (⟨"com/example/paylode/paylode/header/HeaderReaderAtEndPinLaw", "ws", "(C)Z"⟩ : MethodName) method_3_code 1 (some .boolean) :: ws) rmm15) (fun a U => a = #[(.int p0)] ∧ Z.Warmed39 U.vm ∧ U.heap = h0) (fun _ _ _ _ _ => True) (fun _ U o U' => ∃ v L, o = .returned v ∧ Q15 p0 h0 n0 v U'.heap L ∧ FrameEnd U o U' L rmm15.cells rmm15.slots) := by
  refine MetFree.of_bodySF (plainFor_of_name pn_15) hisR ?_
  intro p e s m args below meth c s₁ Bd hml0 hP hK
  obtain ⟨rfl, hZ, hh⟩ := hP
  have hx := Bd.exec
  have hby := Bd.bytes
  have hml : c.maxLocals = 1 := hml0
  have hown : s.vm.findClass "com/example/paylode/paylode/header/HeaderReaderAtEndPinLaw" = some m.cls := findClass_of_methodNamed Bd.named
  have hnm := (name_of_methodNamed Bd.named Bd.method).1
  have X0 : Stand p l e rmm15 s m #[(.int p0)] below meth c s₁ [] 0 0 := Stand.of_body Bd
  have e0 : s₁.heap = h0 := by rw [← hh, Bd.state]; rfl
  have N0 := Fr.nil n0
  show Go p.tables e below (P15 p0 h0 n0 s) (s₁.setTop (entryFrame m #[(.int p0)] 1))
  refine Go.back (fun t k => castTop (ef_15 m p0) k) ?_
  show Go p.tables e below (P15 p0 h0 n0 s) (s₁.setTop (mkF m 0 #[.val (.int p0)] []))
  have hf : f15 p0 = (let z3 : Bool := (if p0 = (32 : Int32) then true else (if p0 = (9 : Int32) then true else false)); z3) := rfl
  refine Go.back (fun t k => XS.iloadN X0.here hx rfl (hb hby d15_0) rfl  k) ?_
  show Go p.tables e below (P15 p0 h0 n0 s) (s₁.setTop (mkF m 1 #[.val (.int p0)] [(.int p0)]))
  refine Go.back (fun t k => XS.bipush X0.here hx rfl (hb hby d15_1) k) ?_
  show Go p.tables e below (P15 p0 h0 n0 s) (s₁.setTop (mkF m 3 #[.val (.int p0)] [(.int (32 : Int32)), (.int p0)]))
  have J2 : ∀ (z3 : Bool) (hz3 : z3 = (if p0 = (32 : Int32) then true else (if p0 = (9 : Int32) then true else false))), Go p.tables e below (P15 p0 h0 n0 s) (s₁.setTop (mkF m 17 #[.val (.int p0)] [(.int (b2i z3))])) := by
    intro z3 hz3
    have r4 : f15 p0 = z3 := by subst hz3; exact hf
    show Go p.tables e below (P15 p0 h0 n0 s) (s₁.setTop (mkF m 17 #[.val (.int p0)] [(.int (b2i z3))]))
    exact Go.retB (b := z3) X0 hx Bd.returns (hb hby d15_17) Bd.notSynchronized ⟨by rw [r4], N0, e0⟩ (by decide) (by decide)
  have r5 : (if p0 = (32 : Int32) then true else (if p0 = (9 : Int32) then true else false)) = (if p0 = (32 : Int32) then true else (if p0 = (9 : Int32) then true else false)) := rfl
  by_cases hc1 : p0 = (32 : Int32)
  · have r6 := r5.trans (if_pos hc1)
    refine Go.back (fun t k => XS.icmpYes X0.here hx rfl (pc0 := 3) (pc' := 12) rfl (hb hby d15_3) rfl (teq hc1).1 (by decide) (by decide) k) ?_
    show Go p.tables e below (P15 p0 h0 n0 s) (s₁.setTop (mkF m 12 #[.val (.int p0)] []))
    refine Go.back (fun t k => XS.iconst X0.here hx rfl (hb hby d15_12) k) ?_
    show Go p.tables e below (P15 p0 h0 n0 s) (s₁.setTop (mkF m 13 #[.val (.int p0)] [(.int (1 : Int32))]))
    refine Go.back (fun t k => XS.goto X0.here hx rfl (pc0 := 13) (pc' := 17) rfl (hb hby d15_13) (by decide) (by decide) k) ?_
    show Go p.tables e below (P15 p0 h0 n0 s) (s₁.setTop (mkF m 17 #[.val (.int p0)] [(.int (1 : Int32))]))
    exact J2 true r6.symm
  · have r7 := r5.trans (if_neg hc1)
    refine Go.back (fun t k => XS.icmpNo X0.here hx rfl (hb hby d15_3) rfl (feq hc1).1 k) ?_
    show Go p.tables e below (P15 p0 h0 n0 s) (s₁.setTop (mkF m 6 #[.val (.int p0)] []))
    refine Go.back (fun t k => XS.iloadN X0.here hx rfl (hb hby d15_6) rfl  k) ?_
    show Go p.tables e below (P15 p0 h0 n0 s) (s₁.setTop (mkF m 7 #[.val (.int p0)] [(.int p0)]))
    refine Go.back (fun t k => XS.bipush X0.here hx rfl (hb hby d15_7) k) ?_
    show Go p.tables e below (P15 p0 h0 n0 s) (s₁.setTop (mkF m 9 #[.val (.int p0)] [(.int (9 : Int32)), (.int p0)]))
    by_cases hc8 : p0 = (9 : Int32)
    · have r9 := r7.trans (if_pos hc8)
      refine Go.back (fun t k => XS.icmpNo X0.here hx rfl (hb hby d15_9) rfl (teq hc8).2 k) ?_
      show Go p.tables e below (P15 p0 h0 n0 s) (s₁.setTop (mkF m 12 #[.val (.int p0)] []))
      refine Go.back (fun t k => XS.iconst X0.here hx rfl (hb hby d15_12) k) ?_
      show Go p.tables e below (P15 p0 h0 n0 s) (s₁.setTop (mkF m 13 #[.val (.int p0)] [(.int (1 : Int32))]))
      refine Go.back (fun t k => XS.goto X0.here hx rfl (pc0 := 13) (pc' := 17) rfl (hb hby d15_13) (by decide) (by decide) k) ?_
      show Go p.tables e below (P15 p0 h0 n0 s) (s₁.setTop (mkF m 17 #[.val (.int p0)] [(.int (1 : Int32))]))
      exact J2 true r9.symm
    · have r10 := r7.trans (if_neg hc8)
      refine Go.back (fun t k => XS.icmpYes X0.here hx rfl (pc0 := 9) (pc' := 16) rfl (hb hby d15_9) rfl (feq hc8).2 (by decide) (by decide) k) ?_
      show Go p.tables e below (P15 p0 h0 n0 s) (s₁.setTop (mkF m 16 #[.val (.int p0)] []))
      refine Go.back (fun t k => XS.iconst X0.here hx rfl (hb hby d15_16) k) ?_
      show Go p.tables e below (P15 p0 h0 n0 s) (s₁.setTop (mkF m 17 #[.val (.int p0)] [(.int (0 : Int32))]))
      exact J2 false r10.symm
theorem d5_0 : decode prog_4_method_1_code 0 = .ok (.aload_n 0, 1) := by decide +kernel
theorem d5_1 : decode prog_4_method_1_code 1 = .ok (.invokespecial 1, 3) := by decide +kernel
theorem d5_4 : decode prog_4_method_1_code 4 = .ok (.aload_n 0, 1) := by decide +kernel
theorem d5_5 : decode prog_4_method_1_code 5 = .ok (.aload_n 1, 1) := by decide +kernel
theorem d5_6 : decode prog_4_method_1_code 6 = .ok (.putfield 7, 3) := by decide +kernel
theorem d5_9 : decode prog_4_method_1_code 9 = .ok (.aload_n 0, 1) := by decide +kernel
theorem d5_10 : decode prog_4_method_1_code 10 = .ok (.aload_n 2, 1) := by decide +kernel
theorem d5_11 : decode prog_4_method_1_code 11 = .ok (.putfield 13, 3) := by decide +kernel
theorem d5_14 : decode prog_4_method_1_code 14 = .ok (.return_, 1) := by decide +kernel
def Q5 (Z : State) (p0 : Addr) (p1 : Addr) (p2 : Addr) (h0 : Heap) (n0 : Nat) (v : Option Value) (h : Heap) (L : List Loc) : Prop := v = none ∧ Fr n0 L ∧ Keep h0 h [p0] ∧ Fld Z h p0 "com/example/paylode/paylode/header/HeaderReader" "position" "I" (.int (0 : Int32)) ∧ Fld Z h p0 "com/example/paylode/paylode/header/HeaderReader" "text" "Ljava/lang/String;" (.ref p1)
abbrev rmm5 : Room := { frames := 1, cells := 0, slots := 0, locals := 12 }
abbrev P5 (Z : State) (p0 : Addr) (p1 : Addr) (p2 : Addr) (h0 : Heap) (n0 : Nat) (s : State) : Outcome → State → Prop := fun o U' => ∃ v L, o = .returned v ∧ Q5 Z p0 p1 p2 h0 n0 v U'.heap L ∧ FrameEnd s o U' L rmm5.cells rmm5.slots
theorem pn_5 : plainName "com/example/paylode/paylode/header/HeaderReader" = true := by first | (simp [plainName, overriddenIn]; done) | decide +kernel
theorem ef_5 (m : MethodId) (p0 : Addr) (p1 : Addr) (p2 : Addr) : entryFrame m #[(.ref p0), (.ref p1), (.ref p2)] 3 = mkF m 0 #[.val (.ref p0), .val (.ref p1), .val (.ref p2)] [] := by first | (simp [entryFrame, mkF, argsToLocals, Value.category]; done) | rfl
set_option maxRecDepth 65536 in
set_option maxHeartbeats 40000000 in
theorem rm5 (l : Launch) (Z : State) (a0 : Array Value) (hw : ∀ d ∈ tables_1, d.before a0 Z = true) (ws : List Jvm.Cond) (p0 : Addr) (p1 : Addr) (p2 : Addr) (h0 : Heap) (n0 : Nat) (Z0 : n0 ≤ h0.size) (H0 : Exa Z h0 p0 "com/example/paylode/paylode/header/HeaderReader") (H1 : Fld Z h0 p0 "com/example/paylode/paylode/header/HeaderReader" "text" "Ljava/lang/String;" .null) (H2 : Fld Z h0 p0 "com/example/paylode/paylode/header/HeaderReader" "what" "Ljava/lang/String;" .null) (H3 : Fld Z h0 p0 "com/example/paylode/paylode/header/HeaderReader" "position" "I" (.int (0 : Int32))) (H4 : n0 ≤ p0) :
    MetFree l (⟨"com/example/paylode/paylode/header/HeaderReader", "<init>", "(Ljava/lang/String;Ljava/lang/String;)V"⟩ : MethodName) (head1 (Jvm.Cond.code (⟨"com/example/paylode/paylode/header/HeaderReader", "<init>", "(Ljava/lang/String;Ljava/lang/String;)V"⟩ : MethodName) prog_4_method_1_code 3 none :: ws) rmm5) (fun a U => a = #[(.ref p0), (.ref p1), (.ref p2)] ∧ Z.Warmed39 U.vm ∧ U.heap = h0) (fun _ _ _ _ _ => True) (fun _ U o U' => ∃ v L, o = .returned v ∧ Q5 Z p0 p1 p2 h0 n0 v U'.heap L ∧ FrameEnd U o U' L rmm5.cells rmm5.slots) := by
  refine MetFree.of_bodySF (plainFor_of_name pn_5) hisR ?_
  intro p e s m args below meth c s₁ Bd hml0 hP hK
  obtain ⟨rfl, hZ, hh⟩ := hP
  have hx := Bd.exec
  have hby := Bd.bytes
  have hml : c.maxLocals = 3 := hml0
  have hown : s.vm.findClass "com/example/paylode/paylode/header/HeaderReader" = some m.cls := findClass_of_methodNamed Bd.named
  have hnm := (name_of_methodNamed Bd.named Bd.method).1
  have X0 : Stand p l e rmm5 s m #[(.ref p0), (.ref p1), (.ref p2)] below meth c s₁ [] 0 0 := Stand.of_body Bd
  have e0 : s₁.heap = h0 := by rw [← hh, Bd.state]; rfl
  have N0 := Fr.nil n0
  show Go p.tables e below (P5 Z p0 p1 p2 h0 n0 s) (s₁.setTop (entryFrame m #[(.ref p0), (.ref p1), (.ref p2)] 3))
  refine Go.back (fun t k => castTop (ef_5 m p0 p1 p2) k) ?_
  show Go p.tables e below (P5 Z p0 p1 p2 h0 n0 s) (s₁.setTop (mkF m 0 #[.val (.ref p0), .val (.ref p1), .val (.ref p2)] []))
  refine Go.back (fun t k => XS.aloadN X0.here hx rfl (hb hby d5_0) rfl rfl  k) ?_
  show Go p.tables e below (P5 Z p0 p1 p2 h0 n0 s) (s₁.setTop (mkF m 1 #[.val (.ref p0), .val (.ref p1), .val (.ref p2)] [(.ref p0)]))
  obtain ⟨T1, X1, e1, st1⟩ := initO X0 hx hZ hown (hw _ (List.mem_of_getElem? (i := 33) rfl)) (hw _ (List.mem_of_getElem? (i := 16) rfl)) (hw _ (List.mem_of_getElem? (i := 17) rfl)) e0 (g := (mkF m 1 #[.val (.ref p0), .val (.ref p1), .val (.ref p2)] [(.ref p0)])) rfl (by rw [hml]; rfl) rfl (hb hby d5_1) (by decide) (W := 0) (by show 2 * 0 + _ ≤ _; exact Nat.le_of_eq rfl) (by decide)
  refine Go.back st1 ?_
  show Go p.tables e below (P5 Z p0 p1 p2 h0 n0 s) (T1.setTop (mkF m 4 #[.val (.ref p0), .val (.ref p1), .val (.ref p2)] []))
  refine Go.back (fun t k => XS.aloadN X1.here hx rfl (hb hby d5_4) rfl rfl  k) ?_
  show Go p.tables e below (P5 Z p0 p1 p2 h0 n0 s) (T1.setTop (mkF m 5 #[.val (.ref p0), .val (.ref p1), .val (.ref p2)] [(.ref p0)]))
  refine Go.back (fun t k => XS.aloadN X1.here hx rfl (hb hby d5_5) rfl rfl  k) ?_
  show Go p.tables e below (P5 Z p0 p1 p2 h0 n0 s) (T1.setTop (mkF m 6 #[.val (.ref p0), .val (.ref p1), .val (.ref p2)] [(.ref p1), (.ref p0)]))
  obtain ⟨T2, h2, X2, e2, W2, st2⟩ := putF X1 hx hZ hown (host := "") (Or.inl (hw _ (List.mem_of_getElem? (i := 34) rfl))) Via.refl e1 H1 H0 (Or.inr ⟨(hw _ (List.mem_of_getElem? (i := 35) rfl)), rfl, hnm⟩) (hw _ (List.mem_of_getElem? (i := 27) rfl)) (ty := (.object "java/lang/String")) (by decide) rfl rfl (g := (mkF m 6 #[.val (.ref p0), .val (.ref p1), .val (.ref p2)] [(.ref p1), (.ref p0)])) rfl rfl (hb hby d5_6)
  have F3 : Exa Z h2 p0 "com/example/paylode/paylode/header/HeaderReader" := H0.wr W2
  have F4 : Fld Z h2 p0 "com/example/paylode/paylode/header/HeaderReader" "text" "Ljava/lang/String;" (.ref p1) := H1.same W2
  have F5 : Fld Z h2 p0 "com/example/paylode/paylode/header/HeaderReader" "what" "Ljava/lang/String;" .null := H2.other W2 (Or.inr (slot_ne (Or.inr (hw _ (List.mem_of_getElem? (i := 37) rfl))) (Or.inr (hw _ (List.mem_of_getElem? (i := 35) rfl))) (by decide) (t := (.object "java/lang/String")) (t' := (.object "java/lang/String")) (by decide) (by decide)))
  have F6 : Fld Z h2 p0 "com/example/paylode/paylode/header/HeaderReader" "position" "I" (.int (0 : Int32)) := H3.other W2 (Or.inr (slot_ne (Or.inl (hw _ (List.mem_of_getElem? (i := 44) rfl))) (Or.inr (hw _ (List.mem_of_getElem? (i := 35) rfl))) (by decide) (t := .int) (t' := (.object "java/lang/String")) (by decide) (by decide)))
  have F7 : n0 ≤ h2.size := Nat.le_trans Z0 (Keep.of_wr W2).1
  have F8 : Keep h0 h2 [p0] := (Keep.refl h0 [p0]).wr W2 (Or.inl (List.mem_of_getElem? (i := 0) rfl))
  obtain ⟨Lo2, Y2, N2⟩ := pk X2 (Fr.snoc X2 N0 H4)
  refine Go.back st2 ?_
  show Go p.tables e below (P5 Z p0 p1 p2 h0 n0 s) (T2.setTop (mkF m 9 #[.val (.ref p0), .val (.ref p1), .val (.ref p2)] []))
  refine Go.back (fun t k => XS.aloadN Y2.here hx rfl (hb hby d5_9) rfl rfl  k) ?_
  show Go p.tables e below (P5 Z p0 p1 p2 h0 n0 s) (T2.setTop (mkF m 10 #[.val (.ref p0), .val (.ref p1), .val (.ref p2)] [(.ref p0)]))
  refine Go.back (fun t k => XS.aloadN Y2.here hx rfl (hb hby d5_10) rfl rfl  k) ?_
  show Go p.tables e below (P5 Z p0 p1 p2 h0 n0 s) (T2.setTop (mkF m 11 #[.val (.ref p0), .val (.ref p1), .val (.ref p2)] [(.ref p2), (.ref p0)]))
  obtain ⟨T9, h9, X9, e9, W9, st9⟩ := putF Y2 hx hZ hown (host := "") (Or.inl (hw _ (List.mem_of_getElem? (i := 36) rfl))) Via.refl e2 F5 F3 (Or.inr ⟨(hw _ (List.mem_of_getElem? (i := 37) rfl)), rfl, hnm⟩) (hw _ (List.mem_of_getElem? (i := 27) rfl)) (ty := (.object "java/lang/String")) (by decide) rfl rfl (g := (mkF m 11 #[.val (.ref p0), .val (.ref p1), .val (.ref p2)] [(.ref p2), (.ref p0)])) rfl rfl (hb hby d5_11)
  have F10 : Exa Z h9 p0 "com/example/paylode/paylode/header/HeaderReader" := F3.wr W9
  have F11 : Fld Z h9 p0 "com/example/paylode/paylode/header/HeaderReader" "text" "Ljava/lang/String;" (.ref p1) := F4.other W9 (Or.inr (slot_ne (Or.inr (hw _ (List.mem_of_getElem? (i := 35) rfl))) (Or.inr (hw _ (List.mem_of_getElem? (i := 37) rfl))) (by decide) (t := (.object "java/lang/String")) (t' := (.object "java/lang/String")) (by decide) (by decide)))
  have F12 : Fld Z h9 p0 "com/example/paylode/paylode/header/HeaderReader" "what" "Ljava/lang/String;" (.ref p2) := F5.same W9
  have F13 : Fld Z h9 p0 "com/example/paylode/paylode/header/HeaderReader" "position" "I" (.int (0 : Int32)) := F6.other W9 (Or.inr (slot_ne (Or.inl (hw _ (List.mem_of_getElem? (i := 44) rfl))) (Or.inr (hw _ (List.mem_of_getElem? (i := 37) rfl))) (by decide) (t := .int) (t' := (.object "java/lang/String")) (by decide) (by decide)))
  have F14 : n0 ≤ h9.size := Nat.le_trans F7 (Keep.of_wr W9).1
  have F15 : Keep h0 h9 [p0] := F8.wr W9 (Or.inl (List.mem_of_getElem? (i := 0) rfl))
  obtain ⟨Lo9, Y9, N9⟩ := pk X9 (Fr.snoc X9 N2 H4)
  refine Go.back st9 ?_
  show Go p.tables e below (P5 Z p0 p1 p2 h0 n0 s) (T9.setTop (mkF m 14 #[.val (.ref p0), .val (.ref p1), .val (.ref p2)] []))
  exact Go.retV Y9 hx Bd.returns (hb hby d5_14) Bd.notSynchronized ⟨rfl, N9, (by rw [e9]; exact F15), (by rw [e9]; exact F13), (by rw [e9]; exact F11)⟩ (by decide) (by decide)
theorem d6_0 : decode prog_4_method_2_code 0 = .ok (.aload_n 0, 1) := by decide +kernel
theorem d6_1 : decode prog_4_method_2_code 1 = .ok (.getfield 16, 3) := by decide +kernel
theorem d6_4 : decode prog_4_method_2_code 4 = .ok (.ireturn, 1) := by decide +kernel
def Q6 (Z : State) (p0 : Addr) (pos : Int32) (h0 : Heap) (n0 : Nat) (v : Option Value) (h : Heap) (L : List Loc) : Prop := v = some (.int pos) ∧ Fr n0 L ∧ h = h0
abbrev rmm6 : Room := { frames := 0, cells := 0, slots := 0, locals := 0 }
abbrev P6 (Z : State) (p0 : Addr) (pos : Int32) (h0 : Heap) (n0 : Nat) (s : State) : Outcome → State → Prop := fun o U' => ∃ v L, o = .returned v ∧ Q6 Z p0 pos h0 n0 v U'.heap L ∧ FrameEnd s o U' L rmm6.cells rmm6.slots
theorem pn_6 : plainName "com/example/paylode/paylode/header/HeaderReader" = true := by first | (simp [plainName, overriddenIn]; done) | decide +kernel
theorem ef_6 (m : MethodId) (p0 : Addr) : entryFrame m #[(.ref p0)] 1 = mkF m 0 #[.val (.ref p0)] [] := by first | (simp [entryFrame, mkF, argsToLocals, Value.category]; done) | rfl
set_option maxRecDepth 65536 in
set_option maxHeartbeats 40000000 in
theorem rm6 (l : Launch) (Z : State) (a0 : Array Value) (hw : ∀ d ∈ tables_1, d.before a0 Z = true) (ws : List Jvm.Cond) (p0 : Addr) (pos : Int32) (h0 : Heap) (n0 : Nat) (Z0 : n0 ≤ h0.size) (H0 : Fld Z h0 p0 "com/example/paylode/paylode/header/HeaderReader" "position" "I" (.int pos)) :
    MetFree l (⟨"com/example/paylode/paylode/header/HeaderReader", "position", "()I"⟩ : MethodName) (head1 (Jvm.Cond.code (⟨"com/example/paylode/paylode/header/HeaderReader", "position", "()I"⟩ : MethodName) prog_4_method_2_code 1 (some .int) :: ws) rmm6) (fun a U => a = #[(.ref p0)] ∧ Z.Warmed39 U.vm ∧ U.heap = h0) (fun _ _ _ _ _ => True) (fun _ U o U' => ∃ v L, o = .returned v ∧ Q6 Z p0 pos h0 n0 v U'.heap L ∧ FrameEnd U o U' L rmm6.cells rmm6.slots) := by
  refine MetFree.of_bodySF (plainFor_of_name pn_6) hisR ?_
  intro p e s m args below meth c s₁ Bd hml0 hP hK
  obtain ⟨rfl, hZ, hh⟩ := hP
  have hx := Bd.exec
  have hby := Bd.bytes
  have hml : c.maxLocals = 1 := hml0
  have hown : s.vm.findClass "com/example/paylode/paylode/header/HeaderReader" = some m.cls := findClass_of_methodNamed Bd.named
  have hnm := (name_of_methodNamed Bd.named Bd.method).1
  have X0 : Stand p l e rmm6 s m #[(.ref p0)] below meth c s₁ [] 0 0 := Stand.of_body Bd
  have e0 : s₁.heap = h0 := by rw [← hh, Bd.state]; rfl
  have N0 := Fr.nil n0
  show Go p.tables e below (P6 Z p0 pos h0 n0 s) (s₁.setTop (entryFrame m #[(.ref p0)] 1))
  refine Go.back (fun t k => castTop (ef_6 m p0) k) ?_
  show Go p.tables e below (P6 Z p0 pos h0 n0 s) (s₁.setTop (mkF m 0 #[.val (.ref p0)] []))
  refine Go.back (fun t k => XS.aloadN X0.here hx rfl (hb hby d6_0) rfl rfl  k) ?_
  show Go p.tables e below (P6 Z p0 pos h0 n0 s) (s₁.setTop (mkF m 1 #[.val (.ref p0)] [(.ref p0)]))
  obtain ⟨T1, X1, e1, st1⟩ := getF X0 hx hZ hown (host := "") (Or.inl (hw _ (List.mem_of_getElem? (i := 43) rfl))) Via.refl e0 H0 (g := (mkF m 1 #[.val (.ref p0)] [(.ref p0)])) rfl rfl (hb hby d6_1)
  refine Go.back st1 ?_
  show Go p.tables e below (P6 Z p0 pos h0 n0 s) (T1.setTop (mkF m 4 #[.val (.ref p0)] [(.int pos)]))
  exact Go.retI X1 hx Bd.returns (hb hby d6_4) Bd.notSynchronized ⟨rfl, N0, e1⟩ (by decide) (by decide)
theorem own_up {cs : List Int32} (h : ∀ c ∈ cs, ¬ c < 0 ∧ ¬ (255 : Int32) < c) : ∀ c ∈ cs, ¬ c < 0 ∧ ¬ (65535 : Int32) < c := fun c hc => ⟨(h c hc).1, fun q => (h c hc).2 (by
  rw [Int32.lt_iff_toInt_lt] at q ⊢
  have e1 : (65535 : Int32).toInt = 65535 := by decide
  have e2 : (255 : Int32).toInt = 255 := by decide
  omega)⟩
theorem own_len (n : Nat) (h : n ≤ 3) : (Int32.ofNat n).toNatClampNeg = n ∧ ¬ Int32.ofNat n < 0 := by
  have : n = 0 ∨ n = 1 ∨ n = 2 ∨ n = 3 := by omega
  rcases this with rfl | rfl | rfl | rfl <;> decide
theorem own_arv {Z : State} {h : Heap} {a : Addr} {cs : List Int32} (F : ArL Z h a .byte (List.map Value.int (List.map StrChars.lo8 cs))) (hl : cs.length ≤ 3) : ∃ k, Arv Z h a k .byte (Int32.ofNat cs.length) (List.map Value.int (List.map StrChars.lo8 cs)) (.int 0) :=
  ArL.to_arv _ _ F (by simp [own_len _ hl]) (own_len _ hl).2 (fun v hv => by
    obtain ⟨x, hx, rfl⟩ := List.mem_map.mp hv
    obtain ⟨y, -, rfl⟩ := List.mem_map.mp hx
    exact fits_nar_byte y)
theorem own_4000 {n : Nat} (h : n ≤ 3) : n ≤ 4000 := Nat.le_trans h (by decide)
/-- a place of the text, or its end -/
def own_pos (pos : Int32) (cs : List Int32) : Prop := ¬ pos < 0 ∧ pos.toNatClampNeg ≤ cs.length
theorem own_pos0 {cs : List Int32} : own_pos 0 cs := ⟨by decide, by show 0 ≤ _; omega⟩
theorem own_nn {p : Int32} (h : ¬ p < 0) : p = Int32.ofNat p.toNatClampNeg := by
  have q : 0 ≤ p.toInt := by
    by_cases z : p.toInt < 0
    · exact absurd (Int32.lt_iff_toInt_lt.mpr (by simpa using z)) h
    · omega
  have b := p.toInt_lt
  apply Int32.toInt_inj.mp
  rw [show p.toNatClampNeg = p.toInt.toNat from rfl, Int32.toInt_ofNat_small (by omega)]
  omega
theorem d7_0 : decode prog_4_method_3_code 0 = .ok (.aload_n 0, 1) := by decide +kernel
theorem d7_1 : decode prog_4_method_3_code 1 = .ok (.getfield 16, 3) := by decide +kernel
theorem d7_4 : decode prog_4_method_3_code 4 = .ok (.aload_n 0, 1) := by decide +kernel
theorem d7_5 : decode prog_4_method_3_code 5 = .ok (.getfield 7, 3) := by decide +kernel
theorem d7_8 : decode prog_4_method_3_code 8 = .ok (.invokevirtual 20, 3) := by decide +kernel
theorem d7_11 : decode prog_4_method_3_code 11 = .ok (.if_icmp .ne 7, 3) := by decide +kernel
theorem d7_14 : decode prog_4_method_3_code 14 = .ok (.iconst 1, 1) := by decide +kernel
theorem d7_15 : decode prog_4_method_3_code 15 = .ok (.goto 4, 3) := by decide +kernel
theorem d7_18 : decode prog_4_method_3_code 18 = .ok (.iconst 0, 1) := by decide +kernel
theorem d7_19 : decode prog_4_method_3_code 19 = .ok (.ireturn, 1) := by decide +kernel
def f7 (cs : List Int32) (pos : Int32) : Bool := (let z6 : Bool := (if pos = (Int32.ofNat (List.length cs)) then true else false); z6)
def Q7 (Z : State) (p0 : Addr) (tx : Addr) (vb : Addr) (cs : List Int32) (zc : Int32) (fm : Value) (pos : Int32) (h0 : Heap) (n0 : Nat) (v : Option Value) (h : Heap) (L : List Loc) : Prop := v = some (.int (b2i (f7 cs pos))) ∧ Fr n0 L ∧ h = h0
abbrev rmm7 : Room := { frames := 2, cells := 0, slots := 0, locals := 26 }
abbrev P7 (Z : State) (p0 : Addr) (tx : Addr) (vb : Addr) (cs : List Int32) (zc : Int32) (fm : Value) (pos : Int32) (h0 : Heap) (n0 : Nat) (s : State) : Outcome → State → Prop := fun o U' => ∃ v L, o = .returned v ∧ Q7 Z p0 tx vb cs zc fm pos h0 n0 v U'.heap L ∧ FrameEnd s o U' L rmm7.cells rmm7.slots
theorem pn_7 : plainName "com/example/paylode/paylode/header/HeaderReader" = true := by first | (simp [plainName, overriddenIn]; done) | decide +kernel
theorem ef_7 (m : MethodId) (p0 : Addr) : entryFrame m #[(.ref p0)] 1 = mkF m 0 #[.val (.ref p0)] [] := by first | (simp [entryFrame, mkF, argsToLocals, Value.category]; done) | rfl
set_option maxRecDepth 65536 in
set_option maxHeartbeats 40000000 in
theorem rm7 (l : Launch) (Z : State) (a0 : Array Value) (hw : ∀ d ∈ tables_1, d.before a0 Z = true) (ws : List Jvm.Cond) (p0 : Addr) (tx : Addr) (vb : Addr) (cs : List Int32) (zc : Int32) (fm : Value) (pos : Int32) (h0 : Heap) (n0 : Nat) (Z0 : n0 ≤ h0.size) (H0 : Exa Z h0 p0 "com/example/paylode/paylode/header/HeaderReader") (H1 : Fld Z h0 p0 "com/example/paylode/paylode/header/HeaderReader" "text" "Ljava/lang/String;" (.ref tx)) (H2 : Fld Z h0 p0 "com/example/paylode/paylode/header/HeaderReader" "position" "I" (.int pos)) (H3 : Exa Z h0 tx "java/lang/String") (H4 : Fld Z h0 tx "java/lang/String" "coder" "B" (.int (0 : Int32))) (H5 : Fld Z h0 tx "java/lang/String" "value" "[B" (.ref vb)) (H6 : ArL Z h0 vb .byte (List.map Value.int (List.map StrChars.lo8 cs))) (H7 : Sta Z h0 "java/lang/String" "COMPACT_STRINGS" "Z" (.int zc)) (H8 : Sta Z h0 "jdk/internal/util/Preconditions" "SIOOBE_FORMATTER" "Ljava/util/function/BiFunction;" fm) (hcs : ¬ zc = (0 : Int32)) (hp : ∀ c ∈ cs, ¬ c < 0 ∧ ¬ (255 : Int32) < c) (hl : cs.length ≤ 3) (hfm : fm.isRef = true) :
    MetFree l (⟨"com/example/paylode/paylode/header/HeaderReader", "atEnd", "()Z"⟩ : MethodName) (head1 (Jvm.Cond.code (⟨"com/example/paylode/paylode/header/HeaderReader", "atEnd", "()Z"⟩ : MethodName) prog_4_method_3_code 1 (some .boolean) :: ws) rmm7) (fun a U => a = #[(.ref p0)] ∧ Z.Warmed39 U.vm ∧ U.heap = h0) (fun _ _ _ _ _ => True) (fun _ U o U' => ∃ v L, o = .returned v ∧ Q7 Z p0 tx vb cs zc fm pos h0 n0 v U'.heap L ∧ FrameEnd U o U' L rmm7.cells rmm7.slots) := by
  refine MetFree.of_bodySF (plainFor_of_name pn_7) hisR ?_
  intro p e s m args below meth c s₁ Bd hml0 hP hK
  obtain ⟨rfl, hZ, hh⟩ := hP
  have hx := Bd.exec
  have hby := Bd.bytes
  have hml : c.maxLocals = 1 := hml0
  have hown : s.vm.findClass "com/example/paylode/paylode/header/HeaderReader" = some m.cls := findClass_of_methodNamed Bd.named
  have hnm := (name_of_methodNamed Bd.named Bd.method).1
  have X0 : Stand p l e rmm7 s m #[(.ref p0)] below meth c s₁ [] 0 0 := Stand.of_body Bd
  have e0 : s₁.heap = h0 := by rw [← hh, Bd.state]; rfl
  have hwl : ∀ d ∈ StrChars.Road.wordsLen, d.before a0 Z = true := fun d hd => hw d ((by decide +kernel : ∀ d ∈ StrChars.Road.wordsLen, d ∈ tables_1) d hd)
  have N0 := Fr.nil n0
  show Go p.tables e below (P7 Z p0 tx vb cs zc fm pos h0 n0 s) (s₁.setTop (entryFrame m #[(.ref p0)] 1))
  refine Go.back (fun t k => castTop (ef_7 m p0) k) ?_
  show Go p.tables e below (P7 Z p0 tx vb cs zc fm pos h0 n0 s) (s₁.setTop (mkF m 0 #[.val (.ref p0)] []))
  have hf0 : f7 cs pos = (let z6 : Bool := (if pos = (Int32.ofNat (List.length cs)) then true else false); z6) := rfl
  refine Go.back (fun t k => XS.aloadN X0.here hx rfl (hb hby d7_0) rfl rfl  k) ?_
  show Go p.tables e below (P7 Z p0 tx vb cs zc fm pos h0 n0 s) (s₁.setTop (mkF m 1 #[.val (.ref p0)] [(.ref p0)]))
  obtain ⟨T1, X1, e1, st1⟩ := getF X0 hx hZ hown (host := "") (Or.inl (hw _ (List.mem_of_getElem? (i := 43) rfl))) Via.refl e0 H2 (g := (mkF m 1 #[.val (.ref p0)] [(.ref p0)])) rfl rfl (hb hby d7_1)
  refine Go.back st1 ?_
  show Go p.tables e below (P7 Z p0 tx vb cs zc fm pos h0 n0 s) (T1.setTop (mkF m 4 #[.val (.ref p0)] [(.int pos)]))
  refine Go.back (fun t k => XS.aloadN X1.here hx rfl (hb hby d7_4) rfl rfl  k) ?_
  show Go p.tables e below (P7 Z p0 tx vb cs zc fm pos h0 n0 s) (T1.setTop (mkF m 5 #[.val (.ref p0)] [(.ref p0), (.int pos)]))
  obtain ⟨T2, X2, e2, st2⟩ := getF X1 hx hZ hown (host := "") (Or.inl (hw _ (List.mem_of_getElem? (i := 34) rfl))) Via.refl e1 H1 (g := (mkF m 5 #[.val (.ref p0)] [(.ref p0), (.int pos)])) rfl rfl (hb hby d7_5)
  refine Go.back st2 ?_
  show Go p.tables e below (P7 Z p0 tx vb cs zc fm pos h0 n0 s) (T2.setTop (mkF m 8 #[.val (.ref p0)] [(.ref tx), (.int pos)]))
  obtain ⟨kq3, Kq3⟩ := own_arv (cs := cs) H6 hl
  obtain ⟨cq3, kq3, q3a, q3b, q3c⟩ := isOf hZ e2 H3
  obtain ⟨_, _, ⟨T3, L3, k3, n3⟩, -, X3, ⟨Lc3, hQ3, l3, y3, z3⟩, st3⟩ := X2.virtualBack hx (y := (⟨"java/lang/String", "length", "()I"⟩ : MethodName)) (z := (⟨"java/lang/String", "length", "()I"⟩ : MethodName)) hown (mvT hZ (hw _ (List.mem_of_getElem? (i := 50) rfl))) (mvT hZ (hw _ (List.mem_of_getElem? (i := 51) rfl))) (notFace_of_selects (args := #[]) (mvT hZ (hw _ (List.mem_of_getElem? (i := 53) rfl)))) (mvT hZ (hw _ (List.mem_of_getElem? (i := 53) rfl))) (mvT hZ (hw _ (List.mem_of_getElem? (i := 52) rfl))) (by decide) (StrChars.Road.lenW (W := 1) hZ hwl (kI := 4) (hw _ (List.mem_of_getElem? (i := 6) rfl)) H3 H5 H4 Kq3 (StrChars.Road.codOf (cs := cs) rfl (fun c hc => (hp c hc).2)) (own_up hp) H7 hcs (own_4000 hl) (by decide) (by decide)) q3a q3c (g := (mkF m 8 #[.val (.ref p0)] [(.ref tx), (.int pos)])) rfl (by rw [hml]; rfl) (Steps.refl _) (argsL := []) (rest := [(.int pos)]) (lenOf pd_0 rfl) rfl (by show 2 * 0 + _ ≤ _; exact Nat.le_of_eq rfl) (hb hby d7_8) (fun _ _ => ⟨rfl, e2, (by decide : 0 + 0 ≤ _), (by decide : 0 + 0 ≤ _)⟩)
  dsimp only [Pt.U, Pt.locs, Pt.cells, Pt.slots] at X3 l3 y3 z3 st3 hQ3
  subst l3 y3 z3
  obtain ⟨hv3x, hL3x, e3⟩ := hQ3
  subst hL3x
  have N3q := Fr.nil n0
  have hQ3 : _ ∧ True := ⟨hv3x, trivial⟩
  obtain ⟨rfl, -⟩ := hQ3
  obtain ⟨Lo3, Y3, N3⟩ := pk X3 (Fr.app N0 N3q)
  refine Go.trans st3 ?_
  show Go p.tables e below (P7 Z p0 tx vb cs zc fm pos h0 n0 s) (T3.setTop (mkF m 11 #[.val (.ref p0)] [(.int (Int32.ofNat (List.length cs))), (.int pos)]))
  have J5 : ∀ (z6 : Bool) (hz6 : z6 = (if pos = (Int32.ofNat (List.length cs)) then true else false)), Go p.tables e below (P7 Z p0 tx vb cs zc fm pos h0 n0 s) (T3.setTop (mkF m 19 #[.val (.ref p0)] [(.int (b2i z6))])) := by
    intro z6 hz6
    have r7 : f7 cs pos = z6 := by subst hz6; exact hf0
    show Go p.tables e below (P7 Z p0 tx vb cs zc fm pos h0 n0 s) (T3.setTop (mkF m 19 #[.val (.ref p0)] [(.int (b2i z6))]))
    exact Go.retB (b := z6) Y3 hx Bd.returns (hb hby d7_19) Bd.notSynchronized ⟨by rw [r7], N3, e3⟩ (by decide) (by decide)
  have r8 : (if pos = (Int32.ofNat (List.length cs)) then true else false) = (if pos = (Int32.ofNat (List.length cs)) then true else false) := rfl
  by_cases hc4 : pos = (Int32.ofNat (List.length cs))
  · have r9 := r8.trans (if_pos hc4)
    refine Go.back (fun t k => XS.icmpNo Y3.here hx rfl (hb hby d7_11) rfl (teq hc4).2 k) ?_
    show Go p.tables e below (P7 Z p0 tx vb cs zc fm pos h0 n0 s) (T3.setTop (mkF m 14 #[.val (.ref p0)] []))
    refine Go.back (fun t k => XS.iconst Y3.here hx rfl (hb hby d7_14) k) ?_
    show Go p.tables e below (P7 Z p0 tx vb cs zc fm pos h0 n0 s) (T3.setTop (mkF m 15 #[.val (.ref p0)] [(.int (1 : Int32))]))
    refine Go.back (fun t k => XS.goto Y3.here hx rfl (pc0 := 15) (pc' := 19) rfl (hb hby d7_15) (by decide) (by decide) k) ?_
    show Go p.tables e below (P7 Z p0 tx vb cs zc fm pos h0 n0 s) (T3.setTop (mkF m 19 #[.val (.ref p0)] [(.int (1 : Int32))]))
    exact J5 true r9.symm
  · have r10 := r8.trans (if_neg hc4)
    refine Go.back (fun t k => XS.icmpYes Y3.here hx rfl (pc0 := 11) (pc' := 18) rfl (hb hby d7_11) rfl (feq hc4).2 (by decide) (by decide) k) ?_
    show Go p.tables e below (P7 Z p0 tx vb cs zc fm pos h0 n0 s) (T3.setTop (mkF m 18 #[.val (.ref p0)] []))
    refine Go.back (fun t k => XS.iconst Y3.here hx rfl (hb hby d7_18) k) ?_
    show Go p.tables e below (P7 Z p0 tx vb cs zc fm pos h0 n0 s) (T3.setTop (mkF m 19 #[.val (.ref p0)] [(.int (0 : Int32))]))
    exact J5 false r10.symm
theorem own_end {pos : Int32} {cs : List Int32} (h : own_pos pos cs) (hl : cs.length ≤ 3) : f7 cs pos = true ↔ pos.toNatClampNeg = cs.length := by
  have e := own_nn h.1
  simp only [f7]
  constructor
  · intro q
    split at q
    · rename_i z
      rw [z]; exact (own_len _ hl).1
    · cases q
  · intro q
    rw [if_pos (by rw [← q]; exact e)]
theorem own_chi {pos : Int32} {cs : List Int32} (h : own_pos pos cs) (hl : cs.length ≤ 3) (q : ¬ f7 cs pos = true) : pos.toNatClampNeg < cs.length := by
  have := h.2
  have z : ¬ pos.toNatClampNeg = cs.length := fun e => q ((own_end h hl).mpr e)
  omega
theorem d11_0 : decode prog_4_method_4_code 0 = .ok (.aload_n 0, 1) := by decide +kernel
theorem d11_1 : decode prog_4_method_4_code 1 = .ok (.invokevirtual 26, 3) := by decide +kernel
theorem d11_4 : decode prog_4_method_4_code 4 = .ok (.ifCond .ne 22, 3) := by decide +kernel
theorem d11_7 : decode prog_4_method_4_code 7 = .ok (.aload_n 0, 1) := by decide +kernel
theorem d11_8 : decode prog_4_method_4_code 8 = .ok (.getfield 7, 3) := by decide +kernel
theorem d11_11 : decode prog_4_method_4_code 11 = .ok (.aload_n 0, 1) := by decide +kernel
theorem d11_12 : decode prog_4_method_4_code 12 = .ok (.getfield 16, 3) := by decide +kernel
theorem d11_15 : decode prog_4_method_4_code 15 = .ok (.invokevirtual 30, 3) := by decide +kernel
theorem d11_18 : decode prog_4_method_4_code 18 = .ok (.iload_n 1, 1) := by decide +kernel
theorem d11_19 : decode prog_4_method_4_code 19 = .ok (.if_icmp .ne 7, 3) := by decide +kernel
theorem d11_22 : decode prog_4_method_4_code 22 = .ok (.iconst 1, 1) := by decide +kernel
theorem d11_23 : decode prog_4_method_4_code 23 = .ok (.goto 4, 3) := by decide +kernel
theorem d11_26 : decode prog_4_method_4_code 26 = .ok (.iconst 0, 1) := by decide +kernel
theorem d11_27 : decode prog_4_method_4_code 27 = .ok (.ireturn, 1) := by decide +kernel
def f11 (p1 : Int32) (cs : List Int32) (pos : Int32) : Bool := (let z4 : Bool := (if (f7 cs pos) = true then false else (if (List.getD cs (pos).toNatClampNeg 0) = p1 then true else false)); z4)
def Q11 (Z : State) (p0 : Addr) (p1 : Int32) (tx : Addr) (vb : Addr) (cs : List Int32) (zc : Int32) (fm : Value) (pos : Int32) (h0 : Heap) (n0 : Nat) (v : Option Value) (h : Heap) (L : List Loc) : Prop := v = some (.int (b2i (f11 p1 cs pos))) ∧ Fr n0 L ∧ h = h0
abbrev rmm11 : Room := { frames := 4, cells := 0, slots := 0, locals := 53 }
abbrev P11 (Z : State) (p0 : Addr) (p1 : Int32) (tx : Addr) (vb : Addr) (cs : List Int32) (zc : Int32) (fm : Value) (pos : Int32) (h0 : Heap) (n0 : Nat) (s : State) : Outcome → State → Prop := fun o U' => ∃ v L, o = .returned v ∧ Q11 Z p0 p1 tx vb cs zc fm pos h0 n0 v U'.heap L ∧ FrameEnd s o U' L rmm11.cells rmm11.slots
theorem pn_11 : plainName "com/example/paylode/paylode/header/HeaderReader" = true := by first | (simp [plainName, overriddenIn]; done) | decide +kernel
theorem ef_11 (m : MethodId) (p0 : Addr) (p1 : Int32) : entryFrame m #[(.ref p0), (.int p1)] 2 = mkF m 0 #[.val (.ref p0), .val (.int p1)] [] := by first | (simp [entryFrame, mkF, argsToLocals, Value.category]; done) | rfl
set_option maxRecDepth 65536 in
set_option maxHeartbeats 40000000 in
theorem rm11 (l : Launch) (Z : State) (a0 : Array Value) (hw : ∀ d ∈ tables_1, d.before a0 Z = true) (ws : List Jvm.Cond) (p0 : Addr) (p1 : Int32) (tx : Addr) (vb : Addr) (cs : List Int32) (zc : Int32) (fm : Value) (pos : Int32) (h0 : Heap) (n0 : Nat) (Z0 : n0 ≤ h0.size) (H0 : Exa Z h0 p0 "com/example/paylode/paylode/header/HeaderReader") (H1 : Fld Z h0 p0 "com/example/paylode/paylode/header/HeaderReader" "text" "Ljava/lang/String;" (.ref tx)) (H2 : Fld Z h0 p0 "com/example/paylode/paylode/header/HeaderReader" "position" "I" (.int pos)) (H3 : Exa Z h0 tx "java/lang/String") (H4 : Fld Z h0 tx "java/lang/String" "coder" "B" (.int (0 : Int32))) (H5 : Fld Z h0 tx "java/lang/String" "value" "[B" (.ref vb)) (H6 : ArL Z h0 vb .byte (List.map Value.int (List.map StrChars.lo8 cs))) (H7 : Sta Z h0 "java/lang/String" "COMPACT_STRINGS" "Z" (.int zc)) (H8 : Sta Z h0 "jdk/internal/util/Preconditions" "SIOOBE_FORMATTER" "Ljava/util/function/BiFunction;" fm) (hcs : ¬ zc = (0 : Int32)) (hp : ∀ c ∈ cs, ¬ c < 0 ∧ ¬ (255 : Int32) < c) (hl : cs.length ≤ 3) (hfm : fm.isRef = true) (hpos : own_pos pos cs) :
    MetFree l (⟨"com/example/paylode/paylode/header/HeaderReader", "at", "(C)Z"⟩ : MethodName) (head1 (Jvm.Cond.code (⟨"com/example/paylode/paylode/header/HeaderReader", "at", "(C)Z"⟩ : MethodName) prog_4_method_4_code 2 (some .boolean) :: ws) rmm11) (fun a U => a = #[(.ref p0), (.int p1)] ∧ Z.Warmed39 U.vm ∧ U.heap = h0) (fun _ _ _ _ _ => True) (fun _ U o U' => ∃ v L, o = .returned v ∧ Q11 Z p0 p1 tx vb cs zc fm pos h0 n0 v U'.heap L ∧ FrameEnd U o U' L rmm11.cells rmm11.slots) := by
  refine MetFree.of_bodySF (plainFor_of_name pn_11) hisR ?_
  intro p e s m args below meth c s₁ Bd hml0 hP hK
  obtain ⟨rfl, hZ, hh⟩ := hP
  have hx := Bd.exec
  have hby := Bd.bytes
  have hml : c.maxLocals = 2 := hml0
  have hown : s.vm.findClass "com/example/paylode/paylode/header/HeaderReader" = some m.cls := findClass_of_methodNamed Bd.named
  have hnm := (name_of_methodNamed Bd.named Bd.method).1
  have X0 : Stand p l e rmm11 s m #[(.ref p0), (.int p1)] below meth c s₁ [] 0 0 := Stand.of_body Bd
  have e0 : s₁.heap = h0 := by rw [← hh, Bd.state]; rfl
  have hwc : ∀ d ∈ StrChars.Road.wordsChN, d.before a0 Z = true := fun d hd => hw d ((by decide +kernel : ∀ d ∈ StrChars.Road.wordsChN, d ∈ tables_1) d hd)
  have N0 := Fr.nil n0
  show Go p.tables e below (P11 Z p0 p1 tx vb cs zc fm pos h0 n0 s) (s₁.setTop (entryFrame m #[(.ref p0), (.int p1)] 2))
  refine Go.back (fun t k => castTop (ef_11 m p0 p1) k) ?_
  show Go p.tables e below (P11 Z p0 p1 tx vb cs zc fm pos h0 n0 s) (s₁.setTop (mkF m 0 #[.val (.ref p0), .val (.int p1)] []))
  have hf0 : f11 p1 cs pos = (let z4 : Bool := (if (f7 cs pos) = true then false else (if (List.getD cs (pos).toNatClampNeg 0) = p1 then true else false)); z4) := rfl
  refine Go.back (fun t k => XS.aloadN X0.here hx rfl (hb hby d11_0) rfl rfl  k) ?_
  show Go p.tables e below (P11 Z p0 p1 tx vb cs zc fm pos h0 n0 s) (s₁.setTop (mkF m 1 #[.val (.ref p0), .val (.int p1)] [(.ref p0)]))
  obtain ⟨cq1, kq1, q1a, q1b, q1c⟩ := isOf hZ e0 H0
  obtain ⟨_, _, ⟨T1, L1, k1, n1⟩, -, X1, ⟨Lc1, hQ1, l1, y1, z1⟩, st1⟩ := X0.virtualBack hx (y := (⟨"com/example/paylode/paylode/header/HeaderReader", "atEnd", "()Z"⟩ : MethodName)) (z := (⟨"com/example/paylode/paylode/header/HeaderReader", "atEnd", "()Z"⟩ : MethodName)) hown (mvT hZ (hw _ (List.mem_of_getElem? (i := 71) rfl))) (mvT hZ (hw _ (List.mem_of_getElem? (i := 46) rfl))) (notFace_of_selects (args := #[]) (mvT hZ (hw _ (List.mem_of_getElem? (i := 48) rfl)))) (mvT hZ (hw _ (List.mem_of_getElem? (i := 48) rfl))) (mvT hZ (hw _ (List.mem_of_getElem? (i := 47) rfl))) (by decide) (backOf (W := 0) (rm7 l Z a0 hw [] p0 tx vb cs zc fm pos h0 n0 Z0 H0 H1 H2 H3 H4 H5 H6 H7 H8 hcs hp hl hfm) hZ (hw _ (List.mem_of_getElem? (i := 49) rfl)) (hw _ (List.mem_of_getElem? (i := 28) rfl)) (by decide) (by decide)) q1a q1c (g := (mkF m 1 #[.val (.ref p0), .val (.int p1)] [(.ref p0)])) rfl (by rw [hml]; rfl) (Steps.refl _) (argsL := []) (rest := []) (lenOf pd_1 rfl) rfl (by show 2 * 0 + _ ≤ _; exact Nat.le_of_eq rfl) (hb hby d11_1) (fun _ _ => ⟨rfl, e0, (by decide : 0 + 0 ≤ _), (by decide : 0 + 0 ≤ _)⟩)
  dsimp only [Pt.U, Pt.locs, Pt.cells, Pt.slots] at X1 l1 y1 z1 st1 hQ1
  subst l1 y1 z1
  obtain ⟨rfl, N1q, e1⟩ := hQ1
  obtain ⟨Lo1, Y1, N1⟩ := pk X1 (Fr.app N0 N1q)
  refine Go.trans st1 ?_
  show Go p.tables e below (P11 Z p0 p1 tx vb cs zc fm pos h0 n0 s) (T1.setTop (mkF m 4 #[.val (.ref p0), .val (.int p1)] [(.int (b2i (f7 cs pos)))]))
  have J3 : ∀ (T5 : State) (L5 : List Loc) (X5 : Stand p l e rmm11 s m #[(.ref p0), (.int p1)] below meth c T5 L5 0 0) (N5 : Fr n0 L5) (e5 : T5.heap = h0) (z4 : Bool) (hz4 : z4 = (if (f7 cs pos) = true then false else (if (List.getD cs (pos).toNatClampNeg 0) = p1 then true else false))), Go p.tables e below (P11 Z p0 p1 tx vb cs zc fm pos h0 n0 s) (T5.setTop (mkF m 27 #[.val (.ref p0), .val (.int p1)] [(.int (b2i z4))])) := by
    intro T5 L5 X5 N5 e5 z4 hz4
    have r6 : f11 p1 cs pos = z4 := by subst hz4; exact hf0
    show Go p.tables e below (P11 Z p0 p1 tx vb cs zc fm pos h0 n0 s) (T5.setTop (mkF m 27 #[.val (.ref p0), .val (.int p1)] [(.int (b2i z4))]))
    exact Go.retB (b := z4) X5 hx Bd.returns (hb hby d11_27) Bd.notSynchronized ⟨by rw [r6], N5, e5⟩ (by decide) (by decide)
  have r7 : (if (f7 cs pos) = true then false else (if (List.getD cs (pos).toNatClampNeg 0) = p1 then true else false)) = (if (f7 cs pos) = true then false else (if (List.getD cs (pos).toNatClampNeg 0) = p1 then true else false)) := rfl
  by_cases hc2 : (f7 cs pos) = true
  · have r8 := r7.trans (if_pos hc2)
    refine Go.back (fun t k => XS.ifYes Y1.here hx rfl (pc0 := 4) (pc' := 26) rfl (hb hby d11_4) rfl ((if0 _ _).trans (feq (b2i_t hc2)).2) (by decide) (by decide) k) ?_
    show Go p.tables e below (P11 Z p0 p1 tx vb cs zc fm pos h0 n0 s) (T1.setTop (mkF m 26 #[.val (.ref p0), .val (.int p1)] []))
    refine Go.back (fun t k => XS.iconst Y1.here hx rfl (hb hby d11_26) k) ?_
    show Go p.tables e below (P11 Z p0 p1 tx vb cs zc fm pos h0 n0 s) (T1.setTop (mkF m 27 #[.val (.ref p0), .val (.int p1)] [(.int (0 : Int32))]))
    exact J3 _ _ Y1 N1 e1 false r8.symm
  · have r9 := r7.trans (if_neg hc2)
    refine Go.back (fun t k => XS.ifNo Y1.here hx rfl (hb hby d11_4) rfl ((if0 _ _).trans (teq (b2i_f hc2)).2) k) ?_
    show Go p.tables e below (P11 Z p0 p1 tx vb cs zc fm pos h0 n0 s) (T1.setTop (mkF m 7 #[.val (.ref p0), .val (.int p1)] []))
    refine Go.back (fun t k => XS.aloadN Y1.here hx rfl (hb hby d11_7) rfl rfl  k) ?_
    show Go p.tables e below (P11 Z p0 p1 tx vb cs zc fm pos h0 n0 s) (T1.setTop (mkF m 8 #[.val (.ref p0), .val (.int p1)] [(.ref p0)]))
    obtain ⟨T10, X10, e10, st10⟩ := getF Y1 hx hZ hown (host := "") (Or.inl (hw _ (List.mem_of_getElem? (i := 34) rfl))) Via.refl e1 H1 (g := (mkF m 8 #[.val (.ref p0), .val (.int p1)] [(.ref p0)])) rfl rfl (hb hby d11_8)
    refine Go.back st10 ?_
    show Go p.tables e below (P11 Z p0 p1 tx vb cs zc fm pos h0 n0 s) (T10.setTop (mkF m 11 #[.val (.ref p0), .val (.int p1)] [(.ref tx)]))
    refine Go.back (fun t k => XS.aloadN X10.here hx rfl (hb hby d11_11) rfl rfl  k) ?_
    show Go p.tables e below (P11 Z p0 p1 tx vb cs zc fm pos h0 n0 s) (T10.setTop (mkF m 12 #[.val (.ref p0), .val (.int p1)] [(.ref p0), (.ref tx)]))
    obtain ⟨T11, X11, e11, st11⟩ := getF X10 hx hZ hown (host := "") (Or.inl (hw _ (List.mem_of_getElem? (i := 43) rfl))) Via.refl e10 H2 (g := (mkF m 12 #[.val (.ref p0), .val (.int p1)] [(.ref p0), (.ref tx)])) rfl rfl (hb hby d11_12)
    refine Go.back st11 ?_
    show Go p.tables e below (P11 Z p0 p1 tx vb cs zc fm pos h0 n0 s) (T11.setTop (mkF m 15 #[.val (.ref p0), .val (.int p1)] [(.int pos), (.ref tx)]))
    obtain ⟨kq12, Kq12⟩ := own_arv (cs := cs) H6 hl
    obtain ⟨cq12, kq12, q12a, q12b, q12c⟩ := isOf hZ e11 H3
    obtain ⟨_, _, ⟨T12, L12, k12, n12⟩, -, X12, ⟨Lc12, hQ12, l12, y12, z12⟩, st12⟩ := X11.virtualBack hx (y := (⟨"java/lang/String", "charAt", "(I)C"⟩ : MethodName)) (z := (⟨"java/lang/String", "charAt", "(I)C"⟩ : MethodName)) hown (mvT hZ (hw _ (List.mem_of_getElem? (i := 85) rfl))) (mvT hZ (hw _ (List.mem_of_getElem? (i := 86) rfl))) (notFace_of_selects (args := #[]) (mvT hZ (hw _ (List.mem_of_getElem? (i := 88) rfl)))) (mvT hZ (hw _ (List.mem_of_getElem? (i := 88) rfl))) (mvT hZ (hw _ (List.mem_of_getElem? (i := 87) rfl))) (by decide) (StrChars.Road.chN (W := 0) hZ hwc (kI := 4) (hw _ (List.mem_of_getElem? (i := 6) rfl)) (i := (pos).toNatClampNeg) (j := pos) H3 H5 H4 Kq12 (StrChars.Road.codOf (cs := cs) rfl (fun c hc => (hp c hc).2)) (own_up hp) H7 hcs H8 hfm (own_4000 hl) (own_chi hpos hl hc2) (own_nn hpos.1) (by decide) (by decide)) q12a q12c (g := (mkF m 15 #[.val (.ref p0), .val (.int p1)] [(.int pos), (.ref tx)])) rfl (by rw [hml]; rfl) (Steps.refl _) (argsL := [(.int pos)]) (rest := []) (lenOf pd_2 rfl) rfl (by show 2 * 0 + _ ≤ _; exact Nat.le_of_eq rfl) (hb hby d11_15) (fun _ _ => ⟨rfl, e11, (by decide : 0 + 0 ≤ _), (by decide : 0 + 0 ≤ _)⟩)
    dsimp only [Pt.U, Pt.locs, Pt.cells, Pt.slots] at X12 l12 y12 z12 st12 hQ12
    subst l12 y12 z12
    obtain ⟨hv12x, hL12x, e12⟩ := hQ12
    subst hL12x
    have N12q := Fr.nil n0
    have hQ12 : _ ∧ True := ⟨hv12x, trivial⟩
    obtain ⟨rfl, -⟩ := hQ12
    obtain ⟨Lo12, Y12, N12⟩ := pk X12 (Fr.app N1 N12q)
    refine Go.trans st12 ?_
    show Go p.tables e below (P11 Z p0 p1 tx vb cs zc fm pos h0 n0 s) (T12.setTop (mkF m 18 #[.val (.ref p0), .val (.int p1)] [(.int (List.getD cs (pos).toNatClampNeg 0))]))
    refine Go.back (fun t k => XS.iloadN Y12.here hx rfl (hb hby d11_18) rfl  k) ?_
    show Go p.tables e below (P11 Z p0 p1 tx vb cs zc fm pos h0 n0 s) (T12.setTop (mkF m 19 #[.val (.ref p0), .val (.int p1)] [(.int p1), (.int (List.getD cs (pos).toNatClampNeg 0))]))
    by_cases hc13 : (List.getD cs (pos).toNatClampNeg 0) = p1
    · have r14 := r9.trans (if_pos hc13)
      refine Go.back (fun t k => XS.icmpNo Y12.here hx rfl (hb hby d11_19) rfl (teq hc13).2 k) ?_
      show Go p.tables e below (P11 Z p0 p1 tx vb cs zc fm pos h0 n0 s) (T12.setTop (mkF m 22 #[.val (.ref p0), .val (.int p1)] []))
      refine Go.back (fun t k => XS.iconst Y12.here hx rfl (hb hby d11_22) k) ?_
      show Go p.tables e below (P11 Z p0 p1 tx vb cs zc fm pos h0 n0 s) (T12.setTop (mkF m 23 #[.val (.ref p0), .val (.int p1)] [(.int (1 : Int32))]))
      refine Go.back (fun t k => XS.goto Y12.here hx rfl (pc0 := 23) (pc' := 27) rfl (hb hby d11_23) (by decide) (by decide) k) ?_
      show Go p.tables e below (P11 Z p0 p1 tx vb cs zc fm pos h0 n0 s) (T12.setTop (mkF m 27 #[.val (.ref p0), .val (.int p1)] [(.int (1 : Int32))]))
      exact J3 _ _ Y12 N12 e12 true r14.symm
    · have r15 := r9.trans (if_neg hc13)
      refine Go.back (fun t k => XS.icmpYes Y12.here hx rfl (pc0 := 19) (pc' := 26) rfl (hb hby d11_19) rfl (feq hc13).2 (by decide) (by decide) k) ?_
      show Go p.tables e below (P11 Z p0 p1 tx vb cs zc fm pos h0 n0 s) (T12.setTop (mkF m 26 #[.val (.ref p0), .val (.int p1)] []))
      refine Go.back (fun t k => XS.iconst Y12.here hx rfl (hb hby d11_26) k) ?_
      show Go p.tables e below (P11 Z p0 p1 tx vb cs zc fm pos h0 n0 s) (T12.setTop (mkF m 27 #[.val (.ref p0), .val (.int p1)] [(.int (0 : Int32))]))
      exact J3 _ _ Y12 N12 e12 false r15.symm
theorem own_next {c pos pos' : Int32} {cs : List Int32} (h : own_pos pos cs) (hl : cs.length ≤ 3) (q : f11 c cs pos = true) (e : pos' = pos + 1) : own_pos pos' cs := by
  have z : ¬ f7 cs pos = true := fun z => by simp [f11, z] at q
  have lt := own_chi h hl z
  have e1 := own_nn h.1
  generalize pos.toNatClampNeg = k at *
  subst e1 e
  have : k = 0 ∨ k = 1 ∨ k = 2 := by omega
  rcases this with rfl | rfl | rfl
  · exact ⟨by decide, by show 1 ≤ _; omega⟩
  · exact ⟨by decide, by show 2 ≤ _; omega⟩
  · exact ⟨by decide, by show 3 ≤ _; omega⟩
theorem own_at3 {c : Int32} {cs : List Int32} (h : own_pos 3 cs) (hl : cs.length ≤ 3) : ¬ f11 c cs 3 = true := fun q => by
  have z : f7 cs 3 = true := (own_end h hl).mpr (by have := h.2; have e : (3 : Int32).toNatClampNeg = 3 := by decide
                                                    omega)
  simp [f11, z] at q
theorem d10_0 : decode prog_4_method_5_code 0 = .ok (.aload_n 0, 1) := by decide +kernel
theorem d10_1 : decode prog_4_method_5_code 1 = .ok (.bipush 32, 2) := by decide +kernel
theorem d10_3 : decode prog_4_method_5_code 3 = .ok (.invokevirtual 34, 3) := by decide +kernel
theorem d10_6 : decode prog_4_method_5_code 6 = .ok (.ifCond .ne 12, 3) := by decide +kernel
theorem d10_9 : decode prog_4_method_5_code 9 = .ok (.aload_n 0, 1) := by decide +kernel
theorem d10_10 : decode prog_4_method_5_code 10 = .ok (.bipush 9, 2) := by decide +kernel
theorem d10_12 : decode prog_4_method_5_code 12 = .ok (.invokevirtual 34, 3) := by decide +kernel
theorem d10_15 : decode prog_4_method_5_code 15 = .ok (.ifCond .eq 16, 3) := by decide +kernel
theorem d10_18 : decode prog_4_method_5_code 18 = .ok (.aload_n 0, 1) := by decide +kernel
theorem d10_19 : decode prog_4_method_5_code 19 = .ok (.dup, 1) := by decide +kernel
theorem d10_20 : decode prog_4_method_5_code 20 = .ok (.getfield 16, 3) := by decide +kernel
theorem d10_23 : decode prog_4_method_5_code 23 = .ok (.iconst 1, 1) := by decide +kernel
theorem d10_24 : decode prog_4_method_5_code 24 = .ok (.iadd, 1) := by decide +kernel
theorem d10_25 : decode prog_4_method_5_code 25 = .ok (.putfield 16, 3) := by decide +kernel
theorem d10_28 : decode prog_4_method_5_code 28 = .ok (.goto (-28), 3) := by decide +kernel
theorem d10_31 : decode prog_4_method_5_code 31 = .ok (.return_, 1) := by decide +kernel
def g10_1 (cs : List Int32) : Int32 := (if (f11 (32 : Int32) cs (0 : Int32)) = true then (if (f11 (32 : Int32) cs (1 : Int32)) = true then (if (f11 (32 : Int32) cs (2 : Int32)) = true then (3 : Int32) else (if (f11 (9 : Int32) cs (2 : Int32)) = true then (3 : Int32) else (2 : Int32))) else (if (f11 (9 : Int32) cs (1 : Int32)) = true then (if (f11 (32 : Int32) cs (2 : Int32)) = true then (3 : Int32) else (if (f11 (9 : Int32) cs (2 : Int32)) = true then (3 : Int32) else (2 : Int32))) else (1 : Int32))) else (if (f11 (9 : Int32) cs (0 : Int32)) = true then (if (f11 (32 : Int32) cs (1 : Int32)) = true then (if (f11 (32 : Int32) cs (2 : Int32)) = true then (3 : Int32) else (if (f11 (9 : Int32) cs (2 : Int32)) = true then (3 : Int32) else (2 : Int32))) else (if (f11 (9 : Int32) cs (1 : Int32)) = true then (if (f11 (32 : Int32) cs (2 : Int32)) = true then (3 : Int32) else (if (f11 (9 : Int32) cs (2 : Int32)) = true then (3 : Int32) else (2 : Int32))) else (1 : Int32))) else (0 : Int32)))
def Q10 (Z : State) (p0 : Addr) (tx : Addr) (vb : Addr) (cs : List Int32) (zc : Int32) (fm : Value) (h0 : Heap) (n0 : Nat) (v : Option Value) (h : Heap) (L : List Loc) : Prop := v = none ∧ Fr n0 L ∧ Keep h0 h [p0] ∧ Fld Z h p0 "com/example/paylode/paylode/header/HeaderReader" "position" "I" (.int (g10_1 cs)) ∧ Fld Z h p0 "com/example/paylode/paylode/header/HeaderReader" "text" "Ljava/lang/String;" (.ref tx)
abbrev rmm10 : Room := { frames := 5, cells := 0, slots := 0, locals := 66 }
abbrev P10 (Z : State) (p0 : Addr) (tx : Addr) (vb : Addr) (cs : List Int32) (zc : Int32) (fm : Value) (h0 : Heap) (n0 : Nat) (s : State) : Outcome → State → Prop := fun o U' => ∃ v L, o = .returned v ∧ Q10 Z p0 tx vb cs zc fm h0 n0 v U'.heap L ∧ FrameEnd s o U' L rmm10.cells rmm10.slots
theorem pn_10 : plainName "com/example/paylode/paylode/header/HeaderReader" = true := by first | (simp [plainName, overriddenIn]; done) | decide +kernel
theorem ef_10 (m : MethodId) (p0 : Addr) : entryFrame m #[(.ref p0)] 1 = mkF m 0 #[.val (.ref p0)] [] := by first | (simp [entryFrame, mkF, argsToLocals, Value.category]; done) | rfl
set_option maxRecDepth 65536 in
set_option maxHeartbeats 40000000 in
theorem rm10 (l : Launch) (Z : State) (a0 : Array Value) (hw : ∀ d ∈ tables_1, d.before a0 Z = true) (ws : List Jvm.Cond) (p0 : Addr) (tx : Addr) (vb : Addr) (cs : List Int32) (zc : Int32) (fm : Value) (h0 : Heap) (n0 : Nat) (Z0 : n0 ≤ h0.size) (H0 : Exa Z h0 p0 "com/example/paylode/paylode/header/HeaderReader") (H1 : Fld Z h0 p0 "com/example/paylode/paylode/header/HeaderReader" "text" "Ljava/lang/String;" (.ref tx)) (H2 : Fld Z h0 p0 "com/example/paylode/paylode/header/HeaderReader" "position" "I" (.int (0 : Int32))) (H3 : Exa Z h0 tx "java/lang/String") (H4 : Fld Z h0 tx "java/lang/String" "coder" "B" (.int (0 : Int32))) (H5 : Fld Z h0 tx "java/lang/String" "value" "[B" (.ref vb)) (H6 : ArL Z h0 vb .byte (List.map Value.int (List.map StrChars.lo8 cs))) (H7 : Sta Z h0 "java/lang/String" "COMPACT_STRINGS" "Z" (.int zc)) (H8 : Sta Z h0 "jdk/internal/util/Preconditions" "SIOOBE_FORMATTER" "Ljava/util/function/BiFunction;" fm) (H9 : n0 ≤ p0) (H10 : tx ≠ p0) (H11 : vb ≠ p0) (hcs : ¬ zc = (0 : Int32)) (hp : ∀ c ∈ cs, ¬ c < 0 ∧ ¬ (255 : Int32) < c) (hl : cs.length ≤ 3) (hfm : fm.isRef = true) :
    MetFree l (⟨"com/example/paylode/paylode/header/HeaderReader", "skipWhitespace", "()V"⟩ : MethodName) (head1 (Jvm.Cond.code (⟨"com/example/paylode/paylode/header/HeaderReader", "skipWhitespace", "()V"⟩ : MethodName) prog_4_method_5_code 1 none :: ws) rmm10) (fun a U => a = #[(.ref p0)] ∧ Z.Warmed39 U.vm ∧ U.heap = h0) (fun _ _ _ _ _ => True) (fun _ U o U' => ∃ v L, o = .returned v ∧ Q10 Z p0 tx vb cs zc fm h0 n0 v U'.heap L ∧ FrameEnd U o U' L rmm10.cells rmm10.slots) := by
  refine MetFree.of_bodySF (plainFor_of_name pn_10) hisR ?_
  intro p e s m args below meth c s₁ Bd hml0 hP hK
  obtain ⟨rfl, hZ, hh⟩ := hP
  have hx := Bd.exec
  have hby := Bd.bytes
  have hml : c.maxLocals = 1 := hml0
  have hown : s.vm.findClass "com/example/paylode/paylode/header/HeaderReader" = some m.cls := findClass_of_methodNamed Bd.named
  have hnm := (name_of_methodNamed Bd.named Bd.method).1
  have X0 : Stand p l e rmm10 s m #[(.ref p0)] below meth c s₁ [] 0 0 := Stand.of_body Bd
  have e0 : s₁.heap = h0 := by rw [← hh, Bd.state]; rfl
  have N0 := Fr.nil n0
  show Go p.tables e below (P10 Z p0 tx vb cs zc fm h0 n0 s) (s₁.setTop (entryFrame m #[(.ref p0)] 1))
  refine Go.back (fun t k => castTop (ef_10 m p0) k) ?_
  show Go p.tables e below (P10 Z p0 tx vb cs zc fm h0 n0 s) (s₁.setTop (mkF m 0 #[.val (.ref p0)] []))
  have hf1 : g10_1 cs = (if (f11 (32 : Int32) cs (0 : Int32)) = true then (if (f11 (32 : Int32) cs (1 : Int32)) = true then (if (f11 (32 : Int32) cs (2 : Int32)) = true then (3 : Int32) else (if (f11 (9 : Int32) cs (2 : Int32)) = true then (3 : Int32) else (2 : Int32))) else (if (f11 (9 : Int32) cs (1 : Int32)) = true then (if (f11 (32 : Int32) cs (2 : Int32)) = true then (3 : Int32) else (if (f11 (9 : Int32) cs (2 : Int32)) = true then (3 : Int32) else (2 : Int32))) else (1 : Int32))) else (if (f11 (9 : Int32) cs (0 : Int32)) = true then (if (f11 (32 : Int32) cs (1 : Int32)) = true then (if (f11 (32 : Int32) cs (2 : Int32)) = true then (3 : Int32) else (if (f11 (9 : Int32) cs (2 : Int32)) = true then (3 : Int32) else (2 : Int32))) else (if (f11 (9 : Int32) cs (1 : Int32)) = true then (if (f11 (32 : Int32) cs (2 : Int32)) = true then (3 : Int32) else (if (f11 (9 : Int32) cs (2 : Int32)) = true then (3 : Int32) else (2 : Int32))) else (1 : Int32))) else (0 : Int32))) := rfl
  refine Go.back (fun t k => XS.aloadN X0.here hx rfl (hb hby d10_0) rfl rfl  k) ?_
  show Go p.tables e below (P10 Z p0 tx vb cs zc fm h0 n0 s) (s₁.setTop (mkF m 1 #[.val (.ref p0)] [(.ref p0)]))
  refine Go.back (fun t k => XS.bipush X0.here hx rfl (hb hby d10_1) k) ?_
  show Go p.tables e below (P10 Z p0 tx vb cs zc fm h0 n0 s) (s₁.setTop (mkF m 3 #[.val (.ref p0)] [(.int (32 : Int32)), (.ref p0)]))
  obtain ⟨cq1, kq1, q1a, q1b, q1c⟩ := isOf hZ e0 H0
  obtain ⟨_, _, ⟨T1, L1, k1, n1⟩, -, X1, ⟨Lc1, hQ1, l1, y1, z1⟩, st1⟩ := X0.virtualBack hx (y := (⟨"com/example/paylode/paylode/header/HeaderReader", "at", "(C)Z"⟩ : MethodName)) (z := (⟨"com/example/paylode/paylode/header/HeaderReader", "at", "(C)Z"⟩ : MethodName)) hown (mvT hZ (hw _ (List.mem_of_getElem? (i := 66) rfl))) (mvT hZ (hw _ (List.mem_of_getElem? (i := 67) rfl))) (notFace_of_selects (args := #[]) (mvT hZ (hw _ (List.mem_of_getElem? (i := 69) rfl)))) (mvT hZ (hw _ (List.mem_of_getElem? (i := 69) rfl))) (mvT hZ (hw _ (List.mem_of_getElem? (i := 68) rfl))) (by decide) (backOf (W := 0) (rm11 l Z a0 hw [] p0 (32 : Int32) tx vb cs zc fm (0 : Int32) h0 n0 Z0 H0 H1 H2 H3 H4 H5 H6 H7 H8 hcs hp hl hfm own_pos0) hZ (hw _ (List.mem_of_getElem? (i := 70) rfl)) (hw _ (List.mem_of_getElem? (i := 28) rfl)) (by decide) (by decide)) q1a q1c (g := (mkF m 3 #[.val (.ref p0)] [(.int (32 : Int32)), (.ref p0)])) rfl (by rw [hml]; rfl) (Steps.refl _) (argsL := [(.int (32 : Int32))]) (rest := []) (lenOf pd_3 rfl) rfl (by show 2 * 0 + _ ≤ _; exact Nat.le_of_eq rfl) (hb hby d10_3) (fun _ _ => ⟨rfl, e0, (by decide : 0 + 0 ≤ _), (by decide : 0 + 0 ≤ _)⟩)
  dsimp only [Pt.U, Pt.locs, Pt.cells, Pt.slots] at X1 l1 y1 z1 st1 hQ1
  subst l1 y1 z1
  obtain ⟨rfl, N1q, e1⟩ := hQ1
  obtain ⟨Lo1, Y1, N1⟩ := pk X1 (Fr.app N0 N1q)
  refine Go.trans st1 ?_
  show Go p.tables e below (P10 Z p0 tx vb cs zc fm h0 n0 s) (T1.setTop (mkF m 6 #[.val (.ref p0)] [(.int (b2i (f11 (32 : Int32) cs (0 : Int32))))]))
  by_cases hc2 : (f11 (32 : Int32) cs (0 : Int32)) = true
  · have r3 := hf1.trans (if_pos hc2)
    refine Go.back (fun t k => XS.ifYes Y1.here hx rfl (pc0 := 6) (pc' := 18) rfl (hb hby d10_6) rfl ((if0 _ _).trans (feq (b2i_t hc2)).2) (by decide) (by decide) k) ?_
    show Go p.tables e below (P10 Z p0 tx vb cs zc fm h0 n0 s) (T1.setTop (mkF m 18 #[.val (.ref p0)] []))
    refine Go.back (fun t k => XS.aloadN Y1.here hx rfl (hb hby d10_18) rfl rfl  k) ?_
    show Go p.tables e below (P10 Z p0 tx vb cs zc fm h0 n0 s) (T1.setTop (mkF m 19 #[.val (.ref p0)] [(.ref p0)]))
    refine Go.back (fun t k => XS.dup Y1.here hx rfl (hb hby d10_19) rfl rfl k) ?_
    show Go p.tables e below (P10 Z p0 tx vb cs zc fm h0 n0 s) (T1.setTop (mkF m 20 #[.val (.ref p0)] [(.ref p0), (.ref p0)]))
    obtain ⟨T4, X4, e4, st4⟩ := getF Y1 hx hZ hown (host := "") (Or.inl (hw _ (List.mem_of_getElem? (i := 43) rfl))) Via.refl e1 H2 (g := (mkF m 20 #[.val (.ref p0)] [(.ref p0), (.ref p0)])) rfl rfl (hb hby d10_20)
    refine Go.back st4 ?_
    show Go p.tables e below (P10 Z p0 tx vb cs zc fm h0 n0 s) (T4.setTop (mkF m 23 #[.val (.ref p0)] [(.int (0 : Int32)), (.ref p0)]))
    refine Go.back (fun t k => XS.iconst X4.here hx rfl (hb hby d10_23) k) ?_
    show Go p.tables e below (P10 Z p0 tx vb cs zc fm h0 n0 s) (T4.setTop (mkF m 24 #[.val (.ref p0)] [(.int (1 : Int32)), (.int (0 : Int32)), (.ref p0)]))
    refine Go.back (fun t k => XS.iadd X4.here hx rfl (hb hby d10_24) rfl k) ?_
    show Go p.tables e below (P10 Z p0 tx vb cs zc fm h0 n0 s) (T4.setTop (mkF m 25 #[.val (.ref p0)] [(.int ((0 : Int32) + (1 : Int32))), (.ref p0)]))
    rw [show ((0 : Int32) + (1 : Int32)) = (1 : Int32) from by decide]
    obtain ⟨T5, h5, X5, e5, W5, st5⟩ := putF X4 hx hZ hown (host := "") (Or.inl (hw _ (List.mem_of_getElem? (i := 43) rfl))) Via.refl e4 H2 H0 (Or.inl (hw _ (List.mem_of_getElem? (i := 44) rfl))) (hw _ (List.mem_of_getElem? (i := 27) rfl)) (ty := .int) (by decide) rfl rfl (g := (mkF m 25 #[.val (.ref p0)] [(.int (1 : Int32)), (.ref p0)])) rfl rfl (hb hby d10_25)
    have F6 : Exa Z h5 p0 "com/example/paylode/paylode/header/HeaderReader" := H0.wr W5
    have F7 : Fld Z h5 p0 "com/example/paylode/paylode/header/HeaderReader" "text" "Ljava/lang/String;" (.ref tx) := H1.other W5 (Or.inr (slot_ne (Or.inr (hw _ (List.mem_of_getElem? (i := 35) rfl))) (Or.inl (hw _ (List.mem_of_getElem? (i := 44) rfl))) (by decide) (t := (.object "java/lang/String")) (t' := .int) (by decide) (by decide)))
    have F8 : Fld Z h5 p0 "com/example/paylode/paylode/header/HeaderReader" "position" "I" (.int (1 : Int32)) := H2.same W5
    have F9 : Exa Z h5 tx "java/lang/String" := H3.wr W5
    have F10 : Fld Z h5 tx "java/lang/String" "coder" "B" (.int (0 : Int32)) := H4.other W5 (Or.inl H10)
    have F11 : Fld Z h5 tx "java/lang/String" "value" "[B" (.ref vb) := H5.other W5 (Or.inl H10)
    have F12 : ArL Z h5 vb .byte (List.map Value.int (List.map StrChars.lo8 cs)) := H6.other W5 H11
    have F13 : Sta Z h5 "java/lang/String" "COMPACT_STRINGS" "Z" (.int zc) := H7.wr W5
    have F14 : Sta Z h5 "jdk/internal/util/Preconditions" "SIOOBE_FORMATTER" "Ljava/util/function/BiFunction;" fm := H8.wr W5
    have F15 : n0 ≤ h5.size := Nat.le_trans Z0 (Keep.of_wr W5).1
    have F16 : Keep h0 h5 [p0] := (Keep.refl h0 [p0]).wr W5 (Or.inl (List.mem_of_getElem? (i := 0) rfl))
    obtain ⟨Lo5, Y5, N5⟩ := pk X5 (Fr.snoc X5 N1 H9)
    refine Go.back st5 ?_
    show Go p.tables e below (P10 Z p0 tx vb cs zc fm h0 n0 s) (T5.setTop (mkF m 28 #[.val (.ref p0)] []))
    refine Go.back (fun t k => XS.goto Y5.here hx rfl (pc0 := 28) (pc' := 0) rfl (hb hby d10_28) (by decide) (by decide) k) ?_
    show Go p.tables e below (P10 Z p0 tx vb cs zc fm h0 n0 s) (T5.setTop (mkF m 0 #[.val (.ref p0)] []))
    refine Go.back (fun t k => XS.aloadN Y5.here hx rfl (hb hby d10_0) rfl rfl  k) ?_
    show Go p.tables e below (P10 Z p0 tx vb cs zc fm h0 n0 s) (T5.setTop (mkF m 1 #[.val (.ref p0)] [(.ref p0)]))
    refine Go.back (fun t k => XS.bipush Y5.here hx rfl (hb hby d10_1) k) ?_
    show Go p.tables e below (P10 Z p0 tx vb cs zc fm h0 n0 s) (T5.setTop (mkF m 3 #[.val (.ref p0)] [(.int (32 : Int32)), (.ref p0)]))
    obtain ⟨cq17, kq17, q17a, q17b, q17c⟩ := isOf hZ e5 F6
    obtain ⟨_, _, ⟨T17, L17, k17, n17⟩, -, X17, ⟨Lc17, hQ17, l17, y17, z17⟩, st17⟩ := Y5.virtualBack hx (y := (⟨"com/example/paylode/paylode/header/HeaderReader", "at", "(C)Z"⟩ : MethodName)) (z := (⟨"com/example/paylode/paylode/header/HeaderReader", "at", "(C)Z"⟩ : MethodName)) hown (mvT hZ (hw _ (List.mem_of_getElem? (i := 66) rfl))) (mvT hZ (hw _ (List.mem_of_getElem? (i := 67) rfl))) (notFace_of_selects (args := #[]) (mvT hZ (hw _ (List.mem_of_getElem? (i := 69) rfl)))) (mvT hZ (hw _ (List.mem_of_getElem? (i := 69) rfl))) (mvT hZ (hw _ (List.mem_of_getElem? (i := 68) rfl))) (by decide) (backOf (W := 0) (rm11 l Z a0 hw [] p0 (32 : Int32) tx vb cs zc fm (1 : Int32) h5 n0 F15 F6 F7 F8 F9 F10 F11 F12 F13 F14 hcs hp hl hfm (own_next own_pos0 hl hc2 (by decide))) hZ (hw _ (List.mem_of_getElem? (i := 70) rfl)) (hw _ (List.mem_of_getElem? (i := 28) rfl)) (by decide) (by decide)) q17a q17c (g := (mkF m 3 #[.val (.ref p0)] [(.int (32 : Int32)), (.ref p0)])) rfl (by rw [hml]; rfl) (Steps.refl _) (argsL := [(.int (32 : Int32))]) (rest := []) (lenOf pd_3 rfl) rfl (by show 2 * 0 + _ ≤ _; exact Nat.le_of_eq rfl) (hb hby d10_3) (fun _ _ => ⟨rfl, e5, (by decide : 0 + 0 ≤ _), (by decide : 0 + 0 ≤ _)⟩)
    dsimp only [Pt.U, Pt.locs, Pt.cells, Pt.slots] at X17 l17 y17 z17 st17 hQ17
    subst l17 y17 z17
    obtain ⟨rfl, N17q, e17⟩ := hQ17
    obtain ⟨Lo17, Y17, N17⟩ := pk X17 (Fr.app N5 N17q)
    refine Go.trans st17 ?_
    show Go p.tables e below (P10 Z p0 tx vb cs zc fm h0 n0 s) (T17.setTop (mkF m 6 #[.val (.ref p0)] [(.int (b2i (f11 (32 : Int32) cs (1 : Int32))))]))
    by_cases hc18 : (f11 (32 : Int32) cs (1 : Int32)) = true
    · have r19 := r3.trans (if_pos hc18)
      refine Go.back (fun t k => XS.ifYes Y17.here hx rfl (pc0 := 6) (pc' := 18) rfl (hb hby d10_6) rfl ((if0 _ _).trans (feq (b2i_t hc18)).2) (by decide) (by decide) k) ?_
      show Go p.tables e below (P10 Z p0 tx vb cs zc fm h0 n0 s) (T17.setTop (mkF m 18 #[.val (.ref p0)] []))
      refine Go.back (fun t k => XS.aloadN Y17.here hx rfl (hb hby d10_18) rfl rfl  k) ?_
      show Go p.tables e below (P10 Z p0 tx vb cs zc fm h0 n0 s) (T17.setTop (mkF m 19 #[.val (.ref p0)] [(.ref p0)]))
      refine Go.back (fun t k => XS.dup Y17.here hx rfl (hb hby d10_19) rfl rfl k) ?_
      show Go p.tables e below (P10 Z p0 tx vb cs zc fm h0 n0 s) (T17.setTop (mkF m 20 #[.val (.ref p0)] [(.ref p0), (.ref p0)]))
      obtain ⟨T20, X20, e20, st20⟩ := getF Y17 hx hZ hown (host := "") (Or.inl (hw _ (List.mem_of_getElem? (i := 43) rfl))) Via.refl e17 F8 (g := (mkF m 20 #[.val (.ref p0)] [(.ref p0), (.ref p0)])) rfl rfl (hb hby d10_20)
      refine Go.back st20 ?_
      show Go p.tables e below (P10 Z p0 tx vb cs zc fm h0 n0 s) (T20.setTop (mkF m 23 #[.val (.ref p0)] [(.int (1 : Int32)), (.ref p0)]))
      refine Go.back (fun t k => XS.iconst X20.here hx rfl (hb hby d10_23) k) ?_
      show Go p.tables e below (P10 Z p0 tx vb cs zc fm h0 n0 s) (T20.setTop (mkF m 24 #[.val (.ref p0)] [(.int (1 : Int32)), (.int (1 : Int32)), (.ref p0)]))
      refine Go.back (fun t k => XS.iadd X20.here hx rfl (hb hby d10_24) rfl k) ?_
      show Go p.tables e below (P10 Z p0 tx vb cs zc fm h0 n0 s) (T20.setTop (mkF m 25 #[.val (.ref p0)] [(.int ((1 : Int32) + (1 : Int32))), (.ref p0)]))
      rw [show ((1 : Int32) + (1 : Int32)) = (2 : Int32) from by decide]
      obtain ⟨T21, h21, X21, e21, W21, st21⟩ := putF X20 hx hZ hown (host := "") (Or.inl (hw _ (List.mem_of_getElem? (i := 43) rfl))) Via.refl e20 F8 F6 (Or.inl (hw _ (List.mem_of_getElem? (i := 44) rfl))) (hw _ (List.mem_of_getElem? (i := 27) rfl)) (ty := .int) (by decide) rfl rfl (g := (mkF m 25 #[.val (.ref p0)] [(.int (2 : Int32)), (.ref p0)])) rfl rfl (hb hby d10_25)
      have F22 : Exa Z h21 p0 "com/example/paylode/paylode/header/HeaderReader" := F6.wr W21
      have F23 : Fld Z h21 p0 "com/example/paylode/paylode/header/HeaderReader" "text" "Ljava/lang/String;" (.ref tx) := F7.other W21 (Or.inr (slot_ne (Or.inr (hw _ (List.mem_of_getElem? (i := 35) rfl))) (Or.inl (hw _ (List.mem_of_getElem? (i := 44) rfl))) (by decide) (t := (.object "java/lang/String")) (t' := .int) (by decide) (by decide)))
      have F24 : Fld Z h21 p0 "com/example/paylode/paylode/header/HeaderReader" "position" "I" (.int (2 : Int32)) := F8.same W21
      have F25 : Exa Z h21 tx "java/lang/String" := F9.wr W21
      have F26 : Fld Z h21 tx "java/lang/String" "coder" "B" (.int (0 : Int32)) := F10.other W21 (Or.inl H10)
      have F27 : Fld Z h21 tx "java/lang/String" "value" "[B" (.ref vb) := F11.other W21 (Or.inl H10)
      have F28 : ArL Z h21 vb .byte (List.map Value.int (List.map StrChars.lo8 cs)) := F12.other W21 H11
      have F29 : Sta Z h21 "java/lang/String" "COMPACT_STRINGS" "Z" (.int zc) := F13.wr W21
      have F30 : Sta Z h21 "jdk/internal/util/Preconditions" "SIOOBE_FORMATTER" "Ljava/util/function/BiFunction;" fm := F14.wr W21
      have F31 : n0 ≤ h21.size := Nat.le_trans F15 (Keep.of_wr W21).1
      have F32 : Keep h0 h21 [p0] := F16.wr W21 (Or.inl (List.mem_of_getElem? (i := 0) rfl))
      obtain ⟨Lo21, Y21, N21⟩ := pk X21 (Fr.snoc X21 N17 H9)
      refine Go.back st21 ?_
      show Go p.tables e below (P10 Z p0 tx vb cs zc fm h0 n0 s) (T21.setTop (mkF m 28 #[.val (.ref p0)] []))
      refine Go.back (fun t k => XS.goto Y21.here hx rfl (pc0 := 28) (pc' := 0) rfl (hb hby d10_28) (by decide) (by decide) k) ?_
      show Go p.tables e below (P10 Z p0 tx vb cs zc fm h0 n0 s) (T21.setTop (mkF m 0 #[.val (.ref p0)] []))
      refine Go.back (fun t k => XS.aloadN Y21.here hx rfl (hb hby d10_0) rfl rfl  k) ?_
      show Go p.tables e below (P10 Z p0 tx vb cs zc fm h0 n0 s) (T21.setTop (mkF m 1 #[.val (.ref p0)] [(.ref p0)]))
      refine Go.back (fun t k => XS.bipush Y21.here hx rfl (hb hby d10_1) k) ?_
      show Go p.tables e below (P10 Z p0 tx vb cs zc fm h0 n0 s) (T21.setTop (mkF m 3 #[.val (.ref p0)] [(.int (32 : Int32)), (.ref p0)]))
      obtain ⟨cq33, kq33, q33a, q33b, q33c⟩ := isOf hZ e21 F22
      obtain ⟨_, _, ⟨T33, L33, k33, n33⟩, -, X33, ⟨Lc33, hQ33, l33, y33, z33⟩, st33⟩ := Y21.virtualBack hx (y := (⟨"com/example/paylode/paylode/header/HeaderReader", "at", "(C)Z"⟩ : MethodName)) (z := (⟨"com/example/paylode/paylode/header/HeaderReader", "at", "(C)Z"⟩ : MethodName)) hown (mvT hZ (hw _ (List.mem_of_getElem? (i := 66) rfl))) (mvT hZ (hw _ (List.mem_of_getElem? (i := 67) rfl))) (notFace_of_selects (args := #[]) (mvT hZ (hw _ (List.mem_of_getElem? (i := 69) rfl)))) (mvT hZ (hw _ (List.mem_of_getElem? (i := 69) rfl))) (mvT hZ (hw _ (List.mem_of_getElem? (i := 68) rfl))) (by decide) (backOf (W := 0) (rm11 l Z a0 hw [] p0 (32 : Int32) tx vb cs zc fm (2 : Int32) h21 n0 F31 F22 F23 F24 F25 F26 F27 F28 F29 F30 hcs hp hl hfm (own_next (own_next own_pos0 hl hc2 (by decide)) hl hc18 (by decide))) hZ (hw _ (List.mem_of_getElem? (i := 70) rfl)) (hw _ (List.mem_of_getElem? (i := 28) rfl)) (by decide) (by decide)) q33a q33c (g := (mkF m 3 #[.val (.ref p0)] [(.int (32 : Int32)), (.ref p0)])) rfl (by rw [hml]; rfl) (Steps.refl _) (argsL := [(.int (32 : Int32))]) (rest := []) (lenOf pd_3 rfl) rfl (by show 2 * 0 + _ ≤ _; exact Nat.le_of_eq rfl) (hb hby d10_3) (fun _ _ => ⟨rfl, e21, (by decide : 0 + 0 ≤ _), (by decide : 0 + 0 ≤ _)⟩)
      dsimp only [Pt.U, Pt.locs, Pt.cells, Pt.slots] at X33 l33 y33 z33 st33 hQ33
      subst l33 y33 z33
      obtain ⟨rfl, N33q, e33⟩ := hQ33
      obtain ⟨Lo33, Y33, N33⟩ := pk X33 (Fr.app N21 N33q)
      refine Go.trans st33 ?_
      show Go p.tables e below (P10 Z p0 tx vb cs zc fm h0 n0 s) (T33.setTop (mkF m 6 #[.val (.ref p0)] [(.int (b2i (f11 (32 : Int32) cs (2 : Int32))))]))
      by_cases hc34 : (f11 (32 : Int32) cs (2 : Int32)) = true
      · have r35 := r19.trans (if_pos hc34)
        refine Go.back (fun t k => XS.ifYes Y33.here hx rfl (pc0 := 6) (pc' := 18) rfl (hb hby d10_6) rfl ((if0 _ _).trans (feq (b2i_t hc34)).2) (by decide) (by decide) k) ?_
        show Go p.tables e below (P10 Z p0 tx vb cs zc fm h0 n0 s) (T33.setTop (mkF m 18 #[.val (.ref p0)] []))
        refine Go.back (fun t k => XS.aloadN Y33.here hx rfl (hb hby d10_18) rfl rfl  k) ?_
        show Go p.tables e below (P10 Z p0 tx vb cs zc fm h0 n0 s) (T33.setTop (mkF m 19 #[.val (.ref p0)] [(.ref p0)]))
        refine Go.back (fun t k => XS.dup Y33.here hx rfl (hb hby d10_19) rfl rfl k) ?_
        show Go p.tables e below (P10 Z p0 tx vb cs zc fm h0 n0 s) (T33.setTop (mkF m 20 #[.val (.ref p0)] [(.ref p0), (.ref p0)]))
        obtain ⟨T36, X36, e36, st36⟩ := getF Y33 hx hZ hown (host := "") (Or.inl (hw _ (List.mem_of_getElem? (i := 43) rfl))) Via.refl e33 F24 (g := (mkF m 20 #[.val (.ref p0)] [(.ref p0), (.ref p0)])) rfl rfl (hb hby d10_20)
        refine Go.back st36 ?_
        show Go p.tables e below (P10 Z p0 tx vb cs zc fm h0 n0 s) (T36.setTop (mkF m 23 #[.val (.ref p0)] [(.int (2 : Int32)), (.ref p0)]))
        refine Go.back (fun t k => XS.iconst X36.here hx rfl (hb hby d10_23) k) ?_
        show Go p.tables e below (P10 Z p0 tx vb cs zc fm h0 n0 s) (T36.setTop (mkF m 24 #[.val (.ref p0)] [(.int (1 : Int32)), (.int (2 : Int32)), (.ref p0)]))
        refine Go.back (fun t k => XS.iadd X36.here hx rfl (hb hby d10_24) rfl k) ?_
        show Go p.tables e below (P10 Z p0 tx vb cs zc fm h0 n0 s) (T36.setTop (mkF m 25 #[.val (.ref p0)] [(.int ((2 : Int32) + (1 : Int32))), (.ref p0)]))
        rw [show ((2 : Int32) + (1 : Int32)) = (3 : Int32) from by decide]
        obtain ⟨T37, h37, X37, e37, W37, st37⟩ := putF X36 hx hZ hown (host := "") (Or.inl (hw _ (List.mem_of_getElem? (i := 43) rfl))) Via.refl e36 F24 F22 (Or.inl (hw _ (List.mem_of_getElem? (i := 44) rfl))) (hw _ (List.mem_of_getElem? (i := 27) rfl)) (ty := .int) (by decide) rfl rfl (g := (mkF m 25 #[.val (.ref p0)] [(.int (3 : Int32)), (.ref p0)])) rfl rfl (hb hby d10_25)
        have F38 : Exa Z h37 p0 "com/example/paylode/paylode/header/HeaderReader" := F22.wr W37
        have F39 : Fld Z h37 p0 "com/example/paylode/paylode/header/HeaderReader" "text" "Ljava/lang/String;" (.ref tx) := F23.other W37 (Or.inr (slot_ne (Or.inr (hw _ (List.mem_of_getElem? (i := 35) rfl))) (Or.inl (hw _ (List.mem_of_getElem? (i := 44) rfl))) (by decide) (t := (.object "java/lang/String")) (t' := .int) (by decide) (by decide)))
        have F40 : Fld Z h37 p0 "com/example/paylode/paylode/header/HeaderReader" "position" "I" (.int (3 : Int32)) := F24.same W37
        have F41 : Exa Z h37 tx "java/lang/String" := F25.wr W37
        have F42 : Fld Z h37 tx "java/lang/String" "coder" "B" (.int (0 : Int32)) := F26.other W37 (Or.inl H10)
        have F43 : Fld Z h37 tx "java/lang/String" "value" "[B" (.ref vb) := F27.other W37 (Or.inl H10)
        have F44 : ArL Z h37 vb .byte (List.map Value.int (List.map StrChars.lo8 cs)) := F28.other W37 H11
        have F45 : Sta Z h37 "java/lang/String" "COMPACT_STRINGS" "Z" (.int zc) := F29.wr W37
        have F46 : Sta Z h37 "jdk/internal/util/Preconditions" "SIOOBE_FORMATTER" "Ljava/util/function/BiFunction;" fm := F30.wr W37
        have F47 : n0 ≤ h37.size := Nat.le_trans F31 (Keep.of_wr W37).1
        have F48 : Keep h0 h37 [p0] := F32.wr W37 (Or.inl (List.mem_of_getElem? (i := 0) rfl))
        obtain ⟨Lo37, Y37, N37⟩ := pk X37 (Fr.snoc X37 N33 H9)
        refine Go.back st37 ?_
        show Go p.tables e below (P10 Z p0 tx vb cs zc fm h0 n0 s) (T37.setTop (mkF m 28 #[.val (.ref p0)] []))
        refine Go.back (fun t k => XS.goto Y37.here hx rfl (pc0 := 28) (pc' := 0) rfl (hb hby d10_28) (by decide) (by decide) k) ?_
        show Go p.tables e below (P10 Z p0 tx vb cs zc fm h0 n0 s) (T37.setTop (mkF m 0 #[.val (.ref p0)] []))
        refine Go.back (fun t k => XS.aloadN Y37.here hx rfl (hb hby d10_0) rfl rfl  k) ?_
        show Go p.tables e below (P10 Z p0 tx vb cs zc fm h0 n0 s) (T37.setTop (mkF m 1 #[.val (.ref p0)] [(.ref p0)]))
        refine Go.back (fun t k => XS.bipush Y37.here hx rfl (hb hby d10_1) k) ?_
        show Go p.tables e below (P10 Z p0 tx vb cs zc fm h0 n0 s) (T37.setTop (mkF m 3 #[.val (.ref p0)] [(.int (32 : Int32)), (.ref p0)]))
        obtain ⟨cq49, kq49, q49a, q49b, q49c⟩ := isOf hZ e37 F38
        obtain ⟨_, _, ⟨T49, L49, k49, n49⟩, -, X49, ⟨Lc49, hQ49, l49, y49, z49⟩, st49⟩ := Y37.virtualBack hx (y := (⟨"com/example/paylode/paylode/header/HeaderReader", "at", "(C)Z"⟩ : MethodName)) (z := (⟨"com/example/paylode/paylode/header/HeaderReader", "at", "(C)Z"⟩ : MethodName)) hown (mvT hZ (hw _ (List.mem_of_getElem? (i := 66) rfl))) (mvT hZ (hw _ (List.mem_of_getElem? (i := 67) rfl))) (notFace_of_selects (args := #[]) (mvT hZ (hw _ (List.mem_of_getElem? (i := 69) rfl)))) (mvT hZ (hw _ (List.mem_of_getElem? (i := 69) rfl))) (mvT hZ (hw _ (List.mem_of_getElem? (i := 68) rfl))) (by decide) (backOf (W := 0) (rm11 l Z a0 hw [] p0 (32 : Int32) tx vb cs zc fm (3 : Int32) h37 n0 F47 F38 F39 F40 F41 F42 F43 F44 F45 F46 hcs hp hl hfm (own_next (own_next (own_next own_pos0 hl hc2 (by decide)) hl hc18 (by decide)) hl hc34 (by decide))) hZ (hw _ (List.mem_of_getElem? (i := 70) rfl)) (hw _ (List.mem_of_getElem? (i := 28) rfl)) (by decide) (by decide)) q49a q49c (g := (mkF m 3 #[.val (.ref p0)] [(.int (32 : Int32)), (.ref p0)])) rfl (by rw [hml]; rfl) (Steps.refl _) (argsL := [(.int (32 : Int32))]) (rest := []) (lenOf pd_3 rfl) rfl (by show 2 * 0 + _ ≤ _; exact Nat.le_of_eq rfl) (hb hby d10_3) (fun _ _ => ⟨rfl, e37, (by decide : 0 + 0 ≤ _), (by decide : 0 + 0 ≤ _)⟩)
        dsimp only [Pt.U, Pt.locs, Pt.cells, Pt.slots] at X49 l49 y49 z49 st49 hQ49
        subst l49 y49 z49
        obtain ⟨rfl, N49q, e49⟩ := hQ49
        obtain ⟨Lo49, Y49, N49⟩ := pk X49 (Fr.app N37 N49q)
        refine Go.trans st49 ?_
        show Go p.tables e below (P10 Z p0 tx vb cs zc fm h0 n0 s) (T49.setTop (mkF m 6 #[.val (.ref p0)] [(.int (b2i (f11 (32 : Int32) cs (3 : Int32))))]))
        refine Go.back (fun t k => XS.ifNo Y49.here hx rfl (hb hby d10_6) rfl ((if0 _ _).trans (teq (b2i_f (own_at3 (own_next (own_next (own_next own_pos0 hl hc2 (by decide)) hl hc18 (by decide)) hl hc34 (by decide)) hl))).2) k) ?_
        show Go p.tables e below (P10 Z p0 tx vb cs zc fm h0 n0 s) (T49.setTop (mkF m 9 #[.val (.ref p0)] []))
        refine Go.back (fun t k => XS.aloadN Y49.here hx rfl (hb hby d10_9) rfl rfl  k) ?_
        show Go p.tables e below (P10 Z p0 tx vb cs zc fm h0 n0 s) (T49.setTop (mkF m 10 #[.val (.ref p0)] [(.ref p0)]))
        refine Go.back (fun t k => XS.bipush Y49.here hx rfl (hb hby d10_10) k) ?_
        show Go p.tables e below (P10 Z p0 tx vb cs zc fm h0 n0 s) (T49.setTop (mkF m 12 #[.val (.ref p0)] [(.int (9 : Int32)), (.ref p0)]))
        obtain ⟨cq50, kq50, q50a, q50b, q50c⟩ := isOf hZ e49 F38
        obtain ⟨_, _, ⟨T50, L50, k50, n50⟩, -, X50, ⟨Lc50, hQ50, l50, y50, z50⟩, st50⟩ := Y49.virtualBack hx (y := (⟨"com/example/paylode/paylode/header/HeaderReader", "at", "(C)Z"⟩ : MethodName)) (z := (⟨"com/example/paylode/paylode/header/HeaderReader", "at", "(C)Z"⟩ : MethodName)) hown (mvT hZ (hw _ (List.mem_of_getElem? (i := 66) rfl))) (mvT hZ (hw _ (List.mem_of_getElem? (i := 67) rfl))) (notFace_of_selects (args := #[]) (mvT hZ (hw _ (List.mem_of_getElem? (i := 69) rfl)))) (mvT hZ (hw _ (List.mem_of_getElem? (i := 69) rfl))) (mvT hZ (hw _ (List.mem_of_getElem? (i := 68) rfl))) (by decide) (backOf (W := 0) (rm11 l Z a0 hw [] p0 (9 : Int32) tx vb cs zc fm (3 : Int32) h37 n0 F47 F38 F39 F40 F41 F42 F43 F44 F45 F46 hcs hp hl hfm (own_next (own_next (own_next own_pos0 hl hc2 (by decide)) hl hc18 (by decide)) hl hc34 (by decide))) hZ (hw _ (List.mem_of_getElem? (i := 70) rfl)) (hw _ (List.mem_of_getElem? (i := 28) rfl)) (by decide) (by decide)) q50a q50c (g := (mkF m 12 #[.val (.ref p0)] [(.int (9 : Int32)), (.ref p0)])) rfl (by rw [hml]; rfl) (Steps.refl _) (argsL := [(.int (9 : Int32))]) (rest := []) (lenOf pd_3 rfl) rfl (by show 2 * 0 + _ ≤ _; exact Nat.le_of_eq rfl) (hb hby d10_12) (fun _ _ => ⟨rfl, e49, (by decide : 0 + 0 ≤ _), (by decide : 0 + 0 ≤ _)⟩)
        dsimp only [Pt.U, Pt.locs, Pt.cells, Pt.slots] at X50 l50 y50 z50 st50 hQ50
        subst l50 y50 z50
        obtain ⟨rfl, N50q, e50⟩ := hQ50
        obtain ⟨Lo50, Y50, N50⟩ := pk X50 (Fr.app N49 N50q)
        refine Go.trans st50 ?_
        show Go p.tables e below (P10 Z p0 tx vb cs zc fm h0 n0 s) (T50.setTop (mkF m 15 #[.val (.ref p0)] [(.int (b2i (f11 (9 : Int32) cs (3 : Int32))))]))
        refine Go.back (fun t k => XS.ifYes Y50.here hx rfl (pc0 := 15) (pc' := 31) rfl (hb hby d10_15) rfl ((if0 _ _).trans (teq (b2i_f (own_at3 (own_next (own_next (own_next own_pos0 hl hc2 (by decide)) hl hc18 (by decide)) hl hc34 (by decide)) hl))).1) (by decide) (by decide) k) ?_
        show Go p.tables e below (P10 Z p0 tx vb cs zc fm h0 n0 s) (T50.setTop (mkF m 31 #[.val (.ref p0)] []))
        exact Go.retV Y50 hx Bd.returns (hb hby d10_31) Bd.notSynchronized ⟨rfl, N50, (by rw [e50]; exact F48), (by rw [e50, r35]; exact F40), (by rw [e50]; exact F39)⟩ (by decide) (by decide)
      · have r51 := r19.trans (if_neg hc34)
        refine Go.back (fun t k => XS.ifNo Y33.here hx rfl (hb hby d10_6) rfl ((if0 _ _).trans (teq (b2i_f hc34)).2) k) ?_
        show Go p.tables e below (P10 Z p0 tx vb cs zc fm h0 n0 s) (T33.setTop (mkF m 9 #[.val (.ref p0)] []))
        refine Go.back (fun t k => XS.aloadN Y33.here hx rfl (hb hby d10_9) rfl rfl  k) ?_
        show Go p.tables e below (P10 Z p0 tx vb cs zc fm h0 n0 s) (T33.setTop (mkF m 10 #[.val (.ref p0)] [(.ref p0)]))
        refine Go.back (fun t k => XS.bipush Y33.here hx rfl (hb hby d10_10) k) ?_
        show Go p.tables e below (P10 Z p0 tx vb cs zc fm h0 n0 s) (T33.setTop (mkF m 12 #[.val (.ref p0)] [(.int (9 : Int32)), (.ref p0)]))
        obtain ⟨cq52, kq52, q52a, q52b, q52c⟩ := isOf hZ e33 F22
        obtain ⟨_, _, ⟨T52, L52, k52, n52⟩, -, X52, ⟨Lc52, hQ52, l52, y52, z52⟩, st52⟩ := Y33.virtualBack hx (y := (⟨"com/example/paylode/paylode/header/HeaderReader", "at", "(C)Z"⟩ : MethodName)) (z := (⟨"com/example/paylode/paylode/header/HeaderReader", "at", "(C)Z"⟩ : MethodName)) hown (mvT hZ (hw _ (List.mem_of_getElem? (i := 66) rfl))) (mvT hZ (hw _ (List.mem_of_getElem? (i := 67) rfl))) (notFace_of_selects (args := #[]) (mvT hZ (hw _ (List.mem_of_getElem? (i := 69) rfl)))) (mvT hZ (hw _ (List.mem_of_getElem? (i := 69) rfl))) (mvT hZ (hw _ (List.mem_of_getElem? (i := 68) rfl))) (by decide) (backOf (W := 0) (rm11 l Z a0 hw [] p0 (9 : Int32) tx vb cs zc fm (2 : Int32) h21 n0 F31 F22 F23 F24 F25 F26 F27 F28 F29 F30 hcs hp hl hfm (own_next (own_next own_pos0 hl hc2 (by decide)) hl hc18 (by decide))) hZ (hw _ (List.mem_of_getElem? (i := 70) rfl)) (hw _ (List.mem_of_getElem? (i := 28) rfl)) (by decide) (by decide)) q52a q52c (g := (mkF m 12 #[.val (.ref p0)] [(.int (9 : Int32)), (.ref p0)])) rfl (by rw [hml]; rfl) (Steps.refl _) (argsL := [(.int (9 : Int32))]) (rest := []) (lenOf pd_3 rfl) rfl (by show 2 * 0 + _ ≤ _; exact Nat.le_of_eq rfl) (hb hby d10_12) (fun _ _ => ⟨rfl, e33, (by decide : 0 + 0 ≤ _), (by decide : 0 + 0 ≤ _)⟩)
        dsimp only [Pt.U, Pt.locs, Pt.cells, Pt.slots] at X52 l52 y52 z52 st52 hQ52
        subst l52 y52 z52
        obtain ⟨rfl, N52q, e52⟩ := hQ52
        obtain ⟨Lo52, Y52, N52⟩ := pk X52 (Fr.app N33 N52q)
        refine Go.trans st52 ?_
        show Go p.tables e below (P10 Z p0 tx vb cs zc fm h0 n0 s) (T52.setTop (mkF m 15 #[.val (.ref p0)] [(.int (b2i (f11 (9 : Int32) cs (2 : Int32))))]))
        by_cases hc53 : (f11 (9 : Int32) cs (2 : Int32)) = true
        · have r54 := r51.trans (if_pos hc53)
          refine Go.back (fun t k => XS.ifNo Y52.here hx rfl (hb hby d10_15) rfl ((if0 _ _).trans (feq (b2i_t hc53)).1) k) ?_
          show Go p.tables e below (P10 Z p0 tx vb cs zc fm h0 n0 s) (T52.setTop (mkF m 18 #[.val (.ref p0)] []))
          refine Go.back (fun t k => XS.aloadN Y52.here hx rfl (hb hby d10_18) rfl rfl  k) ?_
          show Go p.tables e below (P10 Z p0 tx vb cs zc fm h0 n0 s) (T52.setTop (mkF m 19 #[.val (.ref p0)] [(.ref p0)]))
          refine Go.back (fun t k => XS.dup Y52.here hx rfl (hb hby d10_19) rfl rfl k) ?_
          show Go p.tables e below (P10 Z p0 tx vb cs zc fm h0 n0 s) (T52.setTop (mkF m 20 #[.val (.ref p0)] [(.ref p0), (.ref p0)]))
          obtain ⟨T55, X55, e55, st55⟩ := getF Y52 hx hZ hown (host := "") (Or.inl (hw _ (List.mem_of_getElem? (i := 43) rfl))) Via.refl e52 F24 (g := (mkF m 20 #[.val (.ref p0)] [(.ref p0), (.ref p0)])) rfl rfl (hb hby d10_20)
          refine Go.back st55 ?_
          show Go p.tables e below (P10 Z p0 tx vb cs zc fm h0 n0 s) (T55.setTop (mkF m 23 #[.val (.ref p0)] [(.int (2 : Int32)), (.ref p0)]))
          refine Go.back (fun t k => XS.iconst X55.here hx rfl (hb hby d10_23) k) ?_
          show Go p.tables e below (P10 Z p0 tx vb cs zc fm h0 n0 s) (T55.setTop (mkF m 24 #[.val (.ref p0)] [(.int (1 : Int32)), (.int (2 : Int32)), (.ref p0)]))
          refine Go.back (fun t k => XS.iadd X55.here hx rfl (hb hby d10_24) rfl k) ?_
          show Go p.tables e below (P10 Z p0 tx vb cs zc fm h0 n0 s) (T55.setTop (mkF m 25 #[.val (.ref p0)] [(.int ((2 : Int32) + (1 : Int32))), (.ref p0)]))
          rw [show ((2 : Int32) + (1 : Int32)) = (3 : Int32) from by decide]
          obtain ⟨T56, h56, X56, e56, W56, st56⟩ := putF X55 hx hZ hown (host := "") (Or.inl (hw _ (List.mem_of_getElem? (i := 43) rfl))) Via.refl e55 F24 F22 (Or.inl (hw _ (List.mem_of_getElem? (i := 44) rfl))) (hw _ (List.mem_of_getElem? (i := 27) rfl)) (ty := .int) (by decide) rfl rfl (g := (mkF m 25 #[.val (.ref p0)] [(.int (3 : Int32)), (.ref p0)])) rfl rfl (hb hby d10_25)
          have F57 : Exa Z h56 p0 "com/example/paylode/paylode/header/HeaderReader" := F22.wr W56
          have F58 : Fld Z h56 p0 "com/example/paylode/paylode/header/HeaderReader" "text" "Ljava/lang/String;" (.ref tx) := F23.other W56 (Or.inr (slot_ne (Or.inr (hw _ (List.mem_of_getElem? (i := 35) rfl))) (Or.inl (hw _ (List.mem_of_getElem? (i := 44) rfl))) (by decide) (t := (.object "java/lang/String")) (t' := .int) (by decide) (by decide)))
          have F59 : Fld Z h56 p0 "com/example/paylode/paylode/header/HeaderReader" "position" "I" (.int (3 : Int32)) := F24.same W56
          have F60 : Exa Z h56 tx "java/lang/String" := F25.wr W56
          have F61 : Fld Z h56 tx "java/lang/String" "coder" "B" (.int (0 : Int32)) := F26.other W56 (Or.inl H10)
          have F62 : Fld Z h56 tx "java/lang/String" "value" "[B" (.ref vb) := F27.other W56 (Or.inl H10)
          have F63 : ArL Z h56 vb .byte (List.map Value.int (List.map StrChars.lo8 cs)) := F28.other W56 H11
          have F64 : Sta Z h56 "java/lang/String" "COMPACT_STRINGS" "Z" (.int zc) := F29.wr W56
          have F65 : Sta Z h56 "jdk/internal/util/Preconditions" "SIOOBE_FORMATTER" "Ljava/util/function/BiFunction;" fm := F30.wr W56
          have F66 : n0 ≤ h56.size := Nat.le_trans F31 (Keep.of_wr W56).1
          have F67 : Keep h0 h56 [p0] := F32.wr W56 (Or.inl (List.mem_of_getElem? (i := 0) rfl))
          obtain ⟨Lo56, Y56, N56⟩ := pk X56 (Fr.snoc X56 N52 H9)
          refine Go.back st56 ?_
          show Go p.tables e below (P10 Z p0 tx vb cs zc fm h0 n0 s) (T56.setTop (mkF m 28 #[.val (.ref p0)] []))
          refine Go.back (fun t k => XS.goto Y56.here hx rfl (pc0 := 28) (pc' := 0) rfl (hb hby d10_28) (by decide) (by decide) k) ?_
          show Go p.tables e below (P10 Z p0 tx vb cs zc fm h0 n0 s) (T56.setTop (mkF m 0 #[.val (.ref p0)] []))
          refine Go.back (fun t k => XS.aloadN Y56.here hx rfl (hb hby d10_0) rfl rfl  k) ?_
          show Go p.tables e below (P10 Z p0 tx vb cs zc fm h0 n0 s) (T56.setTop (mkF m 1 #[.val (.ref p0)] [(.ref p0)]))
          refine Go.back (fun t k => XS.bipush Y56.here hx rfl (hb hby d10_1) k) ?_
          show Go p.tables e below (P10 Z p0 tx vb cs zc fm h0 n0 s) (T56.setTop (mkF m 3 #[.val (.ref p0)] [(.int (32 : Int32)), (.ref p0)]))
          obtain ⟨cq68, kq68, q68a, q68b, q68c⟩ := isOf hZ e56 F57
          obtain ⟨_, _, ⟨T68, L68, k68, n68⟩, -, X68, ⟨Lc68, hQ68, l68, y68, z68⟩, st68⟩ := Y56.virtualBack hx (y := (⟨"com/example/paylode/paylode/header/HeaderReader", "at", "(C)Z"⟩ : MethodName)) (z := (⟨"com/example/paylode/paylode/header/HeaderReader", "at", "(C)Z"⟩ : MethodName)) hown (mvT hZ (hw _ (List.mem_of_getElem? (i := 66) rfl))) (mvT hZ (hw _ (List.mem_of_getElem? (i := 67) rfl))) (notFace_of_selects (args := #[]) (mvT hZ (hw _ (List.mem_of_getElem? (i := 69) rfl)))) (mvT hZ (hw _ (List.mem_of_getElem? (i := 69) rfl))) (mvT hZ (hw _ (List.mem_of_getElem? (i := 68) rfl))) (by decide) (backOf (W := 0) (rm11 l Z a0 hw [] p0 (32 : Int32) tx vb cs zc fm (3 : Int32) h56 n0 F66 F57 F58 F59 F60 F61 F62 F63 F64 F65 hcs hp hl hfm (own_next (own_next (own_next own_pos0 hl hc2 (by decide)) hl hc18 (by decide)) hl hc53 (by decide))) hZ (hw _ (List.mem_of_getElem? (i := 70) rfl)) (hw _ (List.mem_of_getElem? (i := 28) rfl)) (by decide) (by decide)) q68a q68c (g := (mkF m 3 #[.val (.ref p0)] [(.int (32 : Int32)), (.ref p0)])) rfl (by rw [hml]; rfl) (Steps.refl _) (argsL := [(.int (32 : Int32))]) (rest := []) (lenOf pd_3 rfl) rfl (by show 2 * 0 + _ ≤ _; exact Nat.le_of_eq rfl) (hb hby d10_3) (fun _ _ => ⟨rfl, e56, (by decide : 0 + 0 ≤ _), (by decide : 0 + 0 ≤ _)⟩)
          dsimp only [Pt.U, Pt.locs, Pt.cells, Pt.slots] at X68 l68 y68 z68 st68 hQ68
          subst l68 y68 z68
          obtain ⟨rfl, N68q, e68⟩ := hQ68
          obtain ⟨Lo68, Y68, N68⟩ := pk X68 (Fr.app N56 N68q)
          refine Go.trans st68 ?_
          show Go p.tables e below (P10 Z p0 tx vb cs zc fm h0 n0 s) (T68.setTop (mkF m 6 #[.val (.ref p0)] [(.int (b2i (f11 (32 : Int32) cs (3 : Int32))))]))
          refine Go.back (fun t k => XS.ifNo Y68.here hx rfl (hb hby d10_6) rfl ((if0 _ _).trans (teq (b2i_f (own_at3 (own_next (own_next (own_next own_pos0 hl hc2 (by decide)) hl hc18 (by decide)) hl hc53 (by decide)) hl))).2) k) ?_
          show Go p.tables e below (P10 Z p0 tx vb cs zc fm h0 n0 s) (T68.setTop (mkF m 9 #[.val (.ref p0)] []))
          refine Go.back (fun t k => XS.aloadN Y68.here hx rfl (hb hby d10_9) rfl rfl  k) ?_
          show Go p.tables e below (P10 Z p0 tx vb cs zc fm h0 n0 s) (T68.setTop (mkF m 10 #[.val (.ref p0)] [(.ref p0)]))
          refine Go.back (fun t k => XS.bipush Y68.here hx rfl (hb hby d10_10) k) ?_
          show Go p.tables e below (P10 Z p0 tx vb cs zc fm h0 n0 s) (T68.setTop (mkF m 12 #[.val (.ref p0)] [(.int (9 : Int32)), (.ref p0)]))
          obtain ⟨cq69, kq69, q69a, q69b, q69c⟩ := isOf hZ e68 F57
          obtain ⟨_, _, ⟨T69, L69, k69, n69⟩, -, X69, ⟨Lc69, hQ69, l69, y69, z69⟩, st69⟩ := Y68.virtualBack hx (y := (⟨"com/example/paylode/paylode/header/HeaderReader", "at", "(C)Z"⟩ : MethodName)) (z := (⟨"com/example/paylode/paylode/header/HeaderReader", "at", "(C)Z"⟩ : MethodName)) hown (mvT hZ (hw _ (List.mem_of_getElem? (i := 66) rfl))) (mvT hZ (hw _ (List.mem_of_getElem? (i := 67) rfl))) (notFace_of_selects (args := #[]) (mvT hZ (hw _ (List.mem_of_getElem? (i := 69) rfl)))) (mvT hZ (hw _ (List.mem_of_getElem? (i := 69) rfl))) (mvT hZ (hw _ (List.mem_of_getElem? (i := 68) rfl))) (by decide) (backOf (W := 0) (rm11 l Z a0 hw [] p0 (9 : Int32) tx vb cs zc fm (3 : Int32) h56 n0 F66 F57 F58 F59 F60 F61 F62 F63 F64 F65 hcs hp hl hfm (own_next (own_next (own_next own_pos0 hl hc2 (by decide)) hl hc18 (by decide)) hl hc53 (by decide))) hZ (hw _ (List.mem_of_getElem? (i := 70) rfl)) (hw _ (List.mem_of_getElem? (i := 28) rfl)) (by decide) (by decide)) q69a q69c (g := (mkF m 12 #[.val (.ref p0)] [(.int (9 : Int32)), (.ref p0)])) rfl (by rw [hml]; rfl) (Steps.refl _) (argsL := [(.int (9 : Int32))]) (rest := []) (lenOf pd_3 rfl) rfl (by show 2 * 0 + _ ≤ _; exact Nat.le_of_eq rfl) (hb hby d10_12) (fun _ _ => ⟨rfl, e68, (by decide : 0 + 0 ≤ _), (by decide : 0 + 0 ≤ _)⟩)
          dsimp only [Pt.U, Pt.locs, Pt.cells, Pt.slots] at X69 l69 y69 z69 st69 hQ69
          subst l69 y69 z69
          obtain ⟨rfl, N69q, e69⟩ := hQ69
          obtain ⟨Lo69, Y69, N69⟩ := pk X69 (Fr.app N68 N69q)
          refine Go.trans st69 ?_
          show Go p.tables e below (P10 Z p0 tx vb cs zc fm h0 n0 s) (T69.setTop (mkF m 15 #[.val (.ref p0)] [(.int (b2i (f11 (9 : Int32) cs (3 : Int32))))]))
          refine Go.back (fun t k => XS.ifYes Y69.here hx rfl (pc0 := 15) (pc' := 31) rfl (hb hby d10_15) rfl ((if0 _ _).trans (teq (b2i_f (own_at3 (own_next (own_next (own_next own_pos0 hl hc2 (by decide)) hl hc18 (by decide)) hl hc53 (by decide)) hl))).1) (by decide) (by decide) k) ?_
          show Go p.tables e below (P10 Z p0 tx vb cs zc fm h0 n0 s) (T69.setTop (mkF m 31 #[.val (.ref p0)] []))
          exact Go.retV Y69 hx Bd.returns (hb hby d10_31) Bd.notSynchronized ⟨rfl, N69, (by rw [e69]; exact F67), (by rw [e69, r54]; exact F59), (by rw [e69]; exact F58)⟩ (by decide) (by decide)
        · have r70 := r51.trans (if_neg hc53)
          refine Go.back (fun t k => XS.ifYes Y52.here hx rfl (pc0 := 15) (pc' := 31) rfl (hb hby d10_15) rfl ((if0 _ _).trans (teq (b2i_f hc53)).1) (by decide) (by decide) k) ?_
          show Go p.tables e below (P10 Z p0 tx vb cs zc fm h0 n0 s) (T52.setTop (mkF m 31 #[.val (.ref p0)] []))
          exact Go.retV Y52 hx Bd.returns (hb hby d10_31) Bd.notSynchronized ⟨rfl, N52, (by rw [e52]; exact F32), (by rw [e52, r70]; exact F24), (by rw [e52]; exact F23)⟩ (by decide) (by decide)
    · have r71 := r3.trans (if_neg hc18)
      refine Go.back (fun t k => XS.ifNo Y17.here hx rfl (hb hby d10_6) rfl ((if0 _ _).trans (teq (b2i_f hc18)).2) k) ?_
      show Go p.tables e below (P10 Z p0 tx vb cs zc fm h0 n0 s) (T17.setTop (mkF m 9 #[.val (.ref p0)] []))
      refine Go.back (fun t k => XS.aloadN Y17.here hx rfl (hb hby d10_9) rfl rfl  k) ?_
      show Go p.tables e below (P10 Z p0 tx vb cs zc fm h0 n0 s) (T17.setTop (mkF m 10 #[.val (.ref p0)] [(.ref p0)]))
      refine Go.back (fun t k => XS.bipush Y17.here hx rfl (hb hby d10_10) k) ?_
      show Go p.tables e below (P10 Z p0 tx vb cs zc fm h0 n0 s) (T17.setTop (mkF m 12 #[.val (.ref p0)] [(.int (9 : Int32)), (.ref p0)]))
      obtain ⟨cq72, kq72, q72a, q72b, q72c⟩ := isOf hZ e17 F6
      obtain ⟨_, _, ⟨T72, L72, k72, n72⟩, -, X72, ⟨Lc72, hQ72, l72, y72, z72⟩, st72⟩ := Y17.virtualBack hx (y := (⟨"com/example/paylode/paylode/header/HeaderReader", "at", "(C)Z"⟩ : MethodName)) (z := (⟨"com/example/paylode/paylode/header/HeaderReader", "at", "(C)Z"⟩ : MethodName)) hown (mvT hZ (hw _ (List.mem_of_getElem? (i := 66) rfl))) (mvT hZ (hw _ (List.mem_of_getElem? (i := 67) rfl))) (notFace_of_selects (args := #[]) (mvT hZ (hw _ (List.mem_of_getElem? (i := 69) rfl)))) (mvT hZ (hw _ (List.mem_of_getElem? (i := 69) rfl))) (mvT hZ (hw _ (List.mem_of_getElem? (i := 68) rfl))) (by decide) (backOf (W := 0) (rm11 l Z a0 hw [] p0 (9 : Int32) tx vb cs zc fm (1 : Int32) h5 n0 F15 F6 F7 F8 F9 F10 F11 F12 F13 F14 hcs hp hl hfm (own_next own_pos0 hl hc2 (by decide))) hZ (hw _ (List.mem_of_getElem? (i := 70) rfl)) (hw _ (List.mem_of_getElem? (i := 28) rfl)) (by decide) (by decide)) q72a q72c (g := (mkF m 12 #[.val (.ref p0)] [(.int (9 : Int32)), (.ref p0)])) rfl (by rw [hml]; rfl) (Steps.refl _) (argsL := [(.int (9 : Int32))]) (rest := []) (lenOf pd_3 rfl) rfl (by show 2 * 0 + _ ≤ _; exact Nat.le_of_eq rfl) (hb hby d10_12) (fun _ _ => ⟨rfl, e17, (by decide : 0 + 0 ≤ _), (by decide : 0 + 0 ≤ _)⟩)
      dsimp only [Pt.U, Pt.locs, Pt.cells, Pt.slots] at X72 l72 y72 z72 st72 hQ72
      subst l72 y72 z72
      obtain ⟨rfl, N72q, e72⟩ := hQ72
      obtain ⟨Lo72, Y72, N72⟩ := pk X72 (Fr.app N17 N72q)
      refine Go.trans st72 ?_
      show Go p.tables e below (P10 Z p0 tx vb cs zc fm h0 n0 s) (T72.setTop (mkF m 15 #[.val (.ref p0)] [(.int (b2i (f11 (9 : Int32) cs (1 : Int32))))]))
      by_cases hc73 : (f11 (9 : Int32) cs (1 : Int32)) = true
      · have r74 := r71.trans (if_pos hc73)
        refine Go.back (fun t k => XS.ifNo Y72.here hx rfl (hb hby d10_15) rfl ((if0 _ _).trans (feq (b2i_t hc73)).1) k) ?_
        show Go p.tables e below (P10 Z p0 tx vb cs zc fm h0 n0 s) (T72.setTop (mkF m 18 #[.val (.ref p0)] []))
        refine Go.back (fun t k => XS.aloadN Y72.here hx rfl (hb hby d10_18) rfl rfl  k) ?_
        show Go p.tables e below (P10 Z p0 tx vb cs zc fm h0 n0 s) (T72.setTop (mkF m 19 #[.val (.ref p0)] [(.ref p0)]))
        refine Go.back (fun t k => XS.dup Y72.here hx rfl (hb hby d10_19) rfl rfl k) ?_
        show Go p.tables e below (P10 Z p0 tx vb cs zc fm h0 n0 s) (T72.setTop (mkF m 20 #[.val (.ref p0)] [(.ref p0), (.ref p0)]))
        obtain ⟨T75, X75, e75, st75⟩ := getF Y72 hx hZ hown (host := "") (Or.inl (hw _ (List.mem_of_getElem? (i := 43) rfl))) Via.refl e72 F8 (g := (mkF m 20 #[.val (.ref p0)] [(.ref p0), (.ref p0)])) rfl rfl (hb hby d10_20)
        refine Go.back st75 ?_
        show Go p.tables e below (P10 Z p0 tx vb cs zc fm h0 n0 s) (T75.setTop (mkF m 23 #[.val (.ref p0)] [(.int (1 : Int32)), (.ref p0)]))
        refine Go.back (fun t k => XS.iconst X75.here hx rfl (hb hby d10_23) k) ?_
        show Go p.tables e below (P10 Z p0 tx vb cs zc fm h0 n0 s) (T75.setTop (mkF m 24 #[.val (.ref p0)] [(.int (1 : Int32)), (.int (1 : Int32)), (.ref p0)]))
        refine Go.back (fun t k => XS.iadd X75.here hx rfl (hb hby d10_24) rfl k) ?_
        show Go p.tables e below (P10 Z p0 tx vb cs zc fm h0 n0 s) (T75.setTop (mkF m 25 #[.val (.ref p0)] [(.int ((1 : Int32) + (1 : Int32))), (.ref p0)]))
        rw [show ((1 : Int32) + (1 : Int32)) = (2 : Int32) from by decide]
        obtain ⟨T76, h76, X76, e76, W76, st76⟩ := putF X75 hx hZ hown (host := "") (Or.inl (hw _ (List.mem_of_getElem? (i := 43) rfl))) Via.refl e75 F8 F6 (Or.inl (hw _ (List.mem_of_getElem? (i := 44) rfl))) (hw _ (List.mem_of_getElem? (i := 27) rfl)) (ty := .int) (by decide) rfl rfl (g := (mkF m 25 #[.val (.ref p0)] [(.int (2 : Int32)), (.ref p0)])) rfl rfl (hb hby d10_25)
        have F77 : Exa Z h76 p0 "com/example/paylode/paylode/header/HeaderReader" := F6.wr W76
        have F78 : Fld Z h76 p0 "com/example/paylode/paylode/header/HeaderReader" "text" "Ljava/lang/String;" (.ref tx) := F7.other W76 (Or.inr (slot_ne (Or.inr (hw _ (List.mem_of_getElem? (i := 35) rfl))) (Or.inl (hw _ (List.mem_of_getElem? (i := 44) rfl))) (by decide) (t := (.object "java/lang/String")) (t' := .int) (by decide) (by decide)))
        have F79 : Fld Z h76 p0 "com/example/paylode/paylode/header/HeaderReader" "position" "I" (.int (2 : Int32)) := F8.same W76
        have F80 : Exa Z h76 tx "java/lang/String" := F9.wr W76
        have F81 : Fld Z h76 tx "java/lang/String" "coder" "B" (.int (0 : Int32)) := F10.other W76 (Or.inl H10)
        have F82 : Fld Z h76 tx "java/lang/String" "value" "[B" (.ref vb) := F11.other W76 (Or.inl H10)
        have F83 : ArL Z h76 vb .byte (List.map Value.int (List.map StrChars.lo8 cs)) := F12.other W76 H11
        have F84 : Sta Z h76 "java/lang/String" "COMPACT_STRINGS" "Z" (.int zc) := F13.wr W76
        have F85 : Sta Z h76 "jdk/internal/util/Preconditions" "SIOOBE_FORMATTER" "Ljava/util/function/BiFunction;" fm := F14.wr W76
        have F86 : n0 ≤ h76.size := Nat.le_trans F15 (Keep.of_wr W76).1
        have F87 : Keep h0 h76 [p0] := F16.wr W76 (Or.inl (List.mem_of_getElem? (i := 0) rfl))
        obtain ⟨Lo76, Y76, N76⟩ := pk X76 (Fr.snoc X76 N72 H9)
        refine Go.back st76 ?_
        show Go p.tables e below (P10 Z p0 tx vb cs zc fm h0 n0 s) (T76.setTop (mkF m 28 #[.val (.ref p0)] []))
        refine Go.back (fun t k => XS.goto Y76.here hx rfl (pc0 := 28) (pc' := 0) rfl (hb hby d10_28) (by decide) (by decide) k) ?_
        show Go p.tables e below (P10 Z p0 tx vb cs zc fm h0 n0 s) (T76.setTop (mkF m 0 #[.val (.ref p0)] []))
        refine Go.back (fun t k => XS.aloadN Y76.here hx rfl (hb hby d10_0) rfl rfl  k) ?_
        show Go p.tables e below (P10 Z p0 tx vb cs zc fm h0 n0 s) (T76.setTop (mkF m 1 #[.val (.ref p0)] [(.ref p0)]))
        refine Go.back (fun t k => XS.bipush Y76.here hx rfl (hb hby d10_1) k) ?_
        show Go p.tables e below (P10 Z p0 tx vb cs zc fm h0 n0 s) (T76.setTop (mkF m 3 #[.val (.ref p0)] [(.int (32 : Int32)), (.ref p0)]))
        obtain ⟨cq88, kq88, q88a, q88b, q88c⟩ := isOf hZ e76 F77
        obtain ⟨_, _, ⟨T88, L88, k88, n88⟩, -, X88, ⟨Lc88, hQ88, l88, y88, z88⟩, st88⟩ := Y76.virtualBack hx (y := (⟨"com/example/paylode/paylode/header/HeaderReader", "at", "(C)Z"⟩ : MethodName)) (z := (⟨"com/example/paylode/paylode/header/HeaderReader", "at", "(C)Z"⟩ : MethodName)) hown (mvT hZ (hw _ (List.mem_of_getElem? (i := 66) rfl))) (mvT hZ (hw _ (List.mem_of_getElem? (i := 67) rfl))) (notFace_of_selects (args := #[]) (mvT hZ (hw _ (List.mem_of_getElem? (i := 69) rfl)))) (mvT hZ (hw _ (List.mem_of_getElem? (i := 69) rfl))) (mvT hZ (hw _ (List.mem_of_getElem? (i := 68) rfl))) (by decide) (backOf (W := 0) (rm11 l Z a0 hw [] p0 (32 : Int32) tx vb cs zc fm (2 : Int32) h76 n0 F86 F77 F78 F79 F80 F81 F82 F83 F84 F85 hcs hp hl hfm (own_next (own_next own_pos0 hl hc2 (by decide)) hl hc73 (by decide))) hZ (hw _ (List.mem_of_getElem? (i := 70) rfl)) (hw _ (List.mem_of_getElem? (i := 28) rfl)) (by decide) (by decide)) q88a q88c (g := (mkF m 3 #[.val (.ref p0)] [(.int (32 : Int32)), (.ref p0)])) rfl (by rw [hml]; rfl) (Steps.refl _) (argsL := [(.int (32 : Int32))]) (rest := []) (lenOf pd_3 rfl) rfl (by show 2 * 0 + _ ≤ _; exact Nat.le_of_eq rfl) (hb hby d10_3) (fun _ _ => ⟨rfl, e76, (by decide : 0 + 0 ≤ _), (by decide : 0 + 0 ≤ _)⟩)
        dsimp only [Pt.U, Pt.locs, Pt.cells, Pt.slots] at X88 l88 y88 z88 st88 hQ88
        subst l88 y88 z88
        obtain ⟨rfl, N88q, e88⟩ := hQ88
        obtain ⟨Lo88, Y88, N88⟩ := pk X88 (Fr.app N76 N88q)
        refine Go.trans st88 ?_
        show Go p.tables e below (P10 Z p0 tx vb cs zc fm h0 n0 s) (T88.setTop (mkF m 6 #[.val (.ref p0)] [(.int (b2i (f11 (32 : Int32) cs (2 : Int32))))]))
        by_cases hc89 : (f11 (32 : Int32) cs (2 : Int32)) = true
        · have r90 := r74.trans (if_pos hc89)
          refine Go.back (fun t k => XS.ifYes Y88.here hx rfl (pc0 := 6) (pc' := 18) rfl (hb hby d10_6) rfl ((if0 _ _).trans (feq (b2i_t hc89)).2) (by decide) (by decide) k) ?_
          show Go p.tables e below (P10 Z p0 tx vb cs zc fm h0 n0 s) (T88.setTop (mkF m 18 #[.val (.ref p0)] []))
          refine Go.back (fun t k => XS.aloadN Y88.here hx rfl (hb hby d10_18) rfl rfl  k) ?_
          show Go p.tables e below (P10 Z p0 tx vb cs zc fm h0 n0 s) (T88.setTop (mkF m 19 #[.val (.ref p0)] [(.ref p0)]))
          refine Go.back (fun t k => XS.dup Y88.here hx rfl (hb hby d10_19) rfl rfl k) ?_
          show Go p.tables e below (P10 Z p0 tx vb cs zc fm h0 n0 s) (T88.setTop (mkF m 20 #[.val (.ref p0)] [(.ref p0), (.ref p0)]))
          obtain ⟨T91, X91, e91, st91⟩ := getF Y88 hx hZ hown (host := "") (Or.inl (hw _ (List.mem_of_getElem? (i := 43) rfl))) Via.refl e88 F79 (g := (mkF m 20 #[.val (.ref p0)] [(.ref p0), (.ref p0)])) rfl rfl (hb hby d10_20)
          refine Go.back st91 ?_
          show Go p.tables e below (P10 Z p0 tx vb cs zc fm h0 n0 s) (T91.setTop (mkF m 23 #[.val (.ref p0)] [(.int (2 : Int32)), (.ref p0)]))
          refine Go.back (fun t k => XS.iconst X91.here hx rfl (hb hby d10_23) k) ?_
          show Go p.tables e below (P10 Z p0 tx vb cs zc fm h0 n0 s) (T91.setTop (mkF m 24 #[.val (.ref p0)] [(.int (1 : Int32)), (.int (2 : Int32)), (.ref p0)]))
          refine Go.back (fun t k => XS.iadd X91.here hx rfl (hb hby d10_24) rfl k) ?_
          show Go p.tables e below (P10 Z p0 tx vb cs zc fm h0 n0 s) (T91.setTop (mkF m 25 #[.val (.ref p0)] [(.int ((2 : Int32) + (1 : Int32))), (.ref p0)]))
          rw [show ((2 : Int32) + (1 : Int32)) = (3 : Int32) from by decide]
          obtain ⟨T92, h92, X92, e92, W92, st92⟩ := putF X91 hx hZ hown (host := "") (Or.inl (hw _ (List.mem_of_getElem? (i := 43) rfl))) Via.refl e91 F79 F77 (Or.inl (hw _ (List.mem_of_getElem? (i := 44) rfl))) (hw _ (List.mem_of_getElem? (i := 27) rfl)) (ty := .int) (by decide) rfl rfl (g := (mkF m 25 #[.val (.ref p0)] [(.int (3 : Int32)), (.ref p0)])) rfl rfl (hb hby d10_25)
          have F93 : Exa Z h92 p0 "com/example/paylode/paylode/header/HeaderReader" := F77.wr W92
          have F94 : Fld Z h92 p0 "com/example/paylode/paylode/header/HeaderReader" "text" "Ljava/lang/String;" (.ref tx) := F78.other W92 (Or.inr (slot_ne (Or.inr (hw _ (List.mem_of_getElem? (i := 35) rfl))) (Or.inl (hw _ (List.mem_of_getElem? (i := 44) rfl))) (by decide) (t := (.object "java/lang/String")) (t' := .int) (by decide) (by decide)))
          have F95 : Fld Z h92 p0 "com/example/paylode/paylode/header/HeaderReader" "position" "I" (.int (3 : Int32)) := F79.same W92
          have F96 : Exa Z h92 tx "java/lang/String" := F80.wr W92
          have F97 : Fld Z h92 tx "java/lang/String" "coder" "B" (.int (0 : Int32)) := F81.other W92 (Or.inl H10)
          have F98 : Fld Z h92 tx "java/lang/String" "value" "[B" (.ref vb) := F82.other W92 (Or.inl H10)
          have F99 : ArL Z h92 vb .byte (List.map Value.int (List.map StrChars.lo8 cs)) := F83.other W92 H11
          have F100 : Sta Z h92 "java/lang/String" "COMPACT_STRINGS" "Z" (.int zc) := F84.wr W92
          have F101 : Sta Z h92 "jdk/internal/util/Preconditions" "SIOOBE_FORMATTER" "Ljava/util/function/BiFunction;" fm := F85.wr W92
          have F102 : n0 ≤ h92.size := Nat.le_trans F86 (Keep.of_wr W92).1
          have F103 : Keep h0 h92 [p0] := F87.wr W92 (Or.inl (List.mem_of_getElem? (i := 0) rfl))
          obtain ⟨Lo92, Y92, N92⟩ := pk X92 (Fr.snoc X92 N88 H9)
          refine Go.back st92 ?_
          show Go p.tables e below (P10 Z p0 tx vb cs zc fm h0 n0 s) (T92.setTop (mkF m 28 #[.val (.ref p0)] []))
          refine Go.back (fun t k => XS.goto Y92.here hx rfl (pc0 := 28) (pc' := 0) rfl (hb hby d10_28) (by decide) (by decide) k) ?_
          show Go p.tables e below (P10 Z p0 tx vb cs zc fm h0 n0 s) (T92.setTop (mkF m 0 #[.val (.ref p0)] []))
          refine Go.back (fun t k => XS.aloadN Y92.here hx rfl (hb hby d10_0) rfl rfl  k) ?_
          show Go p.tables e below (P10 Z p0 tx vb cs zc fm h0 n0 s) (T92.setTop (mkF m 1 #[.val (.ref p0)] [(.ref p0)]))
          refine Go.back (fun t k => XS.bipush Y92.here hx rfl (hb hby d10_1) k) ?_
          show Go p.tables e below (P10 Z p0 tx vb cs zc fm h0 n0 s) (T92.setTop (mkF m 3 #[.val (.ref p0)] [(.int (32 : Int32)), (.ref p0)]))
          obtain ⟨cq104, kq104, q104a, q104b, q104c⟩ := isOf hZ e92 F93
          obtain ⟨_, _, ⟨T104, L104, k104, n104⟩, -, X104, ⟨Lc104, hQ104, l104, y104, z104⟩, st104⟩ := Y92.virtualBack hx (y := (⟨"com/example/paylode/paylode/header/HeaderReader", "at", "(C)Z"⟩ : MethodName)) (z := (⟨"com/example/paylode/paylode/header/HeaderReader", "at", "(C)Z"⟩ : MethodName)) hown (mvT hZ (hw _ (List.mem_of_getElem? (i := 66) rfl))) (mvT hZ (hw _ (List.mem_of_getElem? (i := 67) rfl))) (notFace_of_selects (args := #[]) (mvT hZ (hw _ (List.mem_of_getElem? (i := 69) rfl)))) (mvT hZ (hw _ (List.mem_of_getElem? (i := 69) rfl))) (mvT hZ (hw _ (List.mem_of_getElem? (i := 68) rfl))) (by decide) (backOf (W := 0) (rm11 l Z a0 hw [] p0 (32 : Int32) tx vb cs zc fm (3 : Int32) h92 n0 F102 F93 F94 F95 F96 F97 F98 F99 F100 F101 hcs hp hl hfm (own_next (own_next (own_next own_pos0 hl hc2 (by decide)) hl hc73 (by decide)) hl hc89 (by decide))) hZ (hw _ (List.mem_of_getElem? (i := 70) rfl)) (hw _ (List.mem_of_getElem? (i := 28) rfl)) (by decide) (by decide)) q104a q104c (g := (mkF m 3 #[.val (.ref p0)] [(.int (32 : Int32)), (.ref p0)])) rfl (by rw [hml]; rfl) (Steps.refl _) (argsL := [(.int (32 : Int32))]) (rest := []) (lenOf pd_3 rfl) rfl (by show 2 * 0 + _ ≤ _; exact Nat.le_of_eq rfl) (hb hby d10_3) (fun _ _ => ⟨rfl, e92, (by decide : 0 + 0 ≤ _), (by decide : 0 + 0 ≤ _)⟩)
          dsimp only [Pt.U, Pt.locs, Pt.cells, Pt.slots] at X104 l104 y104 z104 st104 hQ104
          subst l104 y104 z104
          obtain ⟨rfl, N104q, e104⟩ := hQ104
          obtain ⟨Lo104, Y104, N104⟩ := pk X104 (Fr.app N92 N104q)
          refine Go.trans st104 ?_
          show Go p.tables e below (P10 Z p0 tx vb cs zc fm h0 n0 s) (T104.setTop (mkF m 6 #[.val (.ref p0)] [(.int (b2i (f11 (32 : Int32) cs (3 : Int32))))]))
          refine Go.back (fun t k => XS.ifNo Y104.here hx rfl (hb hby d10_6) rfl ((if0 _ _).trans (teq (b2i_f (own_at3 (own_next (own_next (own_next own_pos0 hl hc2 (by decide)) hl hc73 (by decide)) hl hc89 (by decide)) hl))).2) k) ?_
          show Go p.tables e below (P10 Z p0 tx vb cs zc fm h0 n0 s) (T104.setTop (mkF m 9 #[.val (.ref p0)] []))
          refine Go.back (fun t k => XS.aloadN Y104.here hx rfl (hb hby d10_9) rfl rfl  k) ?_
          show Go p.tables e below (P10 Z p0 tx vb cs zc fm h0 n0 s) (T104.setTop (mkF m 10 #[.val (.ref p0)] [(.ref p0)]))
          refine Go.back (fun t k => XS.bipush Y104.here hx rfl (hb hby d10_10) k) ?_
          show Go p.tables e below (P10 Z p0 tx vb cs zc fm h0 n0 s) (T104.setTop (mkF m 12 #[.val (.ref p0)] [(.int (9 : Int32)), (.ref p0)]))
          obtain ⟨cq105, kq105, q105a, q105b, q105c⟩ := isOf hZ e104 F93
          obtain ⟨_, _, ⟨T105, L105, k105, n105⟩, -, X105, ⟨Lc105, hQ105, l105, y105, z105⟩, st105⟩ := Y104.virtualBack hx (y := (⟨"com/example/paylode/paylode/header/HeaderReader", "at", "(C)Z"⟩ : MethodName)) (z := (⟨"com/example/paylode/paylode/header/HeaderReader", "at", "(C)Z"⟩ : MethodName)) hown (mvT hZ (hw _ (List.mem_of_getElem? (i := 66) rfl))) (mvT hZ (hw _ (List.mem_of_getElem? (i := 67) rfl))) (notFace_of_selects (args := #[]) (mvT hZ (hw _ (List.mem_of_getElem? (i := 69) rfl)))) (mvT hZ (hw _ (List.mem_of_getElem? (i := 69) rfl))) (mvT hZ (hw _ (List.mem_of_getElem? (i := 68) rfl))) (by decide) (backOf (W := 0) (rm11 l Z a0 hw [] p0 (9 : Int32) tx vb cs zc fm (3 : Int32) h92 n0 F102 F93 F94 F95 F96 F97 F98 F99 F100 F101 hcs hp hl hfm (own_next (own_next (own_next own_pos0 hl hc2 (by decide)) hl hc73 (by decide)) hl hc89 (by decide))) hZ (hw _ (List.mem_of_getElem? (i := 70) rfl)) (hw _ (List.mem_of_getElem? (i := 28) rfl)) (by decide) (by decide)) q105a q105c (g := (mkF m 12 #[.val (.ref p0)] [(.int (9 : Int32)), (.ref p0)])) rfl (by rw [hml]; rfl) (Steps.refl _) (argsL := [(.int (9 : Int32))]) (rest := []) (lenOf pd_3 rfl) rfl (by show 2 * 0 + _ ≤ _; exact Nat.le_of_eq rfl) (hb hby d10_12) (fun _ _ => ⟨rfl, e104, (by decide : 0 + 0 ≤ _), (by decide : 0 + 0 ≤ _)⟩)
          dsimp only [Pt.U, Pt.locs, Pt.cells, Pt.slots] at X105 l105 y105 z105 st105 hQ105
          subst l105 y105 z105
          obtain ⟨rfl, N105q, e105⟩ := hQ105
          obtain ⟨Lo105, Y105, N105⟩ := pk X105 (Fr.app N104 N105q)
          refine Go.trans st105 ?_
          show Go p.tables e below (P10 Z p0 tx vb cs zc fm h0 n0 s) (T105.setTop (mkF m 15 #[.val (.ref p0)] [(.int (b2i (f11 (9 : Int32) cs (3 : Int32))))]))
          refine Go.back (fun t k => XS.ifYes Y105.here hx rfl (pc0 := 15) (pc' := 31) rfl (hb hby d10_15) rfl ((if0 _ _).trans (teq (b2i_f (own_at3 (own_next (own_next (own_next own_pos0 hl hc2 (by decide)) hl hc73 (by decide)) hl hc89 (by decide)) hl))).1) (by decide) (by decide) k) ?_
          show Go p.tables e below (P10 Z p0 tx vb cs zc fm h0 n0 s) (T105.setTop (mkF m 31 #[.val (.ref p0)] []))
          exact Go.retV Y105 hx Bd.returns (hb hby d10_31) Bd.notSynchronized ⟨rfl, N105, (by rw [e105]; exact F103), (by rw [e105, r90]; exact F95), (by rw [e105]; exact F94)⟩ (by decide) (by decide)
        · have r106 := r74.trans (if_neg hc89)
          refine Go.back (fun t k => XS.ifNo Y88.here hx rfl (hb hby d10_6) rfl ((if0 _ _).trans (teq (b2i_f hc89)).2) k) ?_
          show Go p.tables e below (P10 Z p0 tx vb cs zc fm h0 n0 s) (T88.setTop (mkF m 9 #[.val (.ref p0)] []))
          refine Go.back (fun t k => XS.aloadN Y88.here hx rfl (hb hby d10_9) rfl rfl  k) ?_
          show Go p.tables e below (P10 Z p0 tx vb cs zc fm h0 n0 s) (T88.setTop (mkF m 10 #[.val (.ref p0)] [(.ref p0)]))
          refine Go.back (fun t k => XS.bipush Y88.here hx rfl (hb hby d10_10) k) ?_
          show Go p.tables e below (P10 Z p0 tx vb cs zc fm h0 n0 s) (T88.setTop (mkF m 12 #[.val (.ref p0)] [(.int (9 : Int32)), (.ref p0)]))
          obtain ⟨cq107, kq107, q107a, q107b, q107c⟩ := isOf hZ e88 F77
          obtain ⟨_, _, ⟨T107, L107, k107, n107⟩, -, X107, ⟨Lc107, hQ107, l107, y107, z107⟩, st107⟩ := Y88.virtualBack hx (y := (⟨"com/example/paylode/paylode/header/HeaderReader", "at", "(C)Z"⟩ : MethodName)) (z := (⟨"com/example/paylode/paylode/header/HeaderReader", "at", "(C)Z"⟩ : MethodName)) hown (mvT hZ (hw _ (List.mem_of_getElem? (i := 66) rfl))) (mvT hZ (hw _ (List.mem_of_getElem? (i := 67) rfl))) (notFace_of_selects (args := #[]) (mvT hZ (hw _ (List.mem_of_getElem? (i := 69) rfl)))) (mvT hZ (hw _ (List.mem_of_getElem? (i := 69) rfl))) (mvT hZ (hw _ (List.mem_of_getElem? (i := 68) rfl))) (by decide) (backOf (W := 0) (rm11 l Z a0 hw [] p0 (9 : Int32) tx vb cs zc fm (2 : Int32) h76 n0 F86 F77 F78 F79 F80 F81 F82 F83 F84 F85 hcs hp hl hfm (own_next (own_next own_pos0 hl hc2 (by decide)) hl hc73 (by decide))) hZ (hw _ (List.mem_of_getElem? (i := 70) rfl)) (hw _ (List.mem_of_getElem? (i := 28) rfl)) (by decide) (by decide)) q107a q107c (g := (mkF m 12 #[.val (.ref p0)] [(.int (9 : Int32)), (.ref p0)])) rfl (by rw [hml]; rfl) (Steps.refl _) (argsL := [(.int (9 : Int32))]) (rest := []) (lenOf pd_3 rfl) rfl (by show 2 * 0 + _ ≤ _; exact Nat.le_of_eq rfl) (hb hby d10_12) (fun _ _ => ⟨rfl, e88, (by decide : 0 + 0 ≤ _), (by decide : 0 + 0 ≤ _)⟩)
          dsimp only [Pt.U, Pt.locs, Pt.cells, Pt.slots] at X107 l107 y107 z107 st107 hQ107
          subst l107 y107 z107
          obtain ⟨rfl, N107q, e107⟩ := hQ107
          obtain ⟨Lo107, Y107, N107⟩ := pk X107 (Fr.app N88 N107q)
          refine Go.trans st107 ?_
          show Go p.tables e below (P10 Z p0 tx vb cs zc fm h0 n0 s) (T107.setTop (mkF m 15 #[.val (.ref p0)] [(.int (b2i (f11 (9 : Int32) cs (2 : Int32))))]))
          by_cases hc108 : (f11 (9 : Int32) cs (2 : Int32)) = true
          · have r109 := r106.trans (if_pos hc108)
            refine Go.back (fun t k => XS.ifNo Y107.here hx rfl (hb hby d10_15) rfl ((if0 _ _).trans (feq (b2i_t hc108)).1) k) ?_
            show Go p.tables e below (P10 Z p0 tx vb cs zc fm h0 n0 s) (T107.setTop (mkF m 18 #[.val (.ref p0)] []))
            refine Go.back (fun t k => XS.aloadN Y107.here hx rfl (hb hby d10_18) rfl rfl  k) ?_
            show Go p.tables e below (P10 Z p0 tx vb cs zc fm h0 n0 s) (T107.setTop (mkF m 19 #[.val (.ref p0)] [(.ref p0)]))
            refine Go.back (fun t k => XS.dup Y107.here hx rfl (hb hby d10_19) rfl rfl k) ?_
            show Go p.tables e below (P10 Z p0 tx vb cs zc fm h0 n0 s) (T107.setTop (mkF m 20 #[.val (.ref p0)] [(.ref p0), (.ref p0)]))
            obtain ⟨T110, X110, e110, st110⟩ := getF Y107 hx hZ hown (host := "") (Or.inl (hw _ (List.mem_of_getElem? (i := 43) rfl))) Via.refl e107 F79 (g := (mkF m 20 #[.val (.ref p0)] [(.ref p0), (.ref p0)])) rfl rfl (hb hby d10_20)
            refine Go.back st110 ?_
            show Go p.tables e below (P10 Z p0 tx vb cs zc fm h0 n0 s) (T110.setTop (mkF m 23 #[.val (.ref p0)] [(.int (2 : Int32)), (.ref p0)]))
            refine Go.back (fun t k => XS.iconst X110.here hx rfl (hb hby d10_23) k) ?_
            show Go p.tables e below (P10 Z p0 tx vb cs zc fm h0 n0 s) (T110.setTop (mkF m 24 #[.val (.ref p0)] [(.int (1 : Int32)), (.int (2 : Int32)), (.ref p0)]))
            refine Go.back (fun t k => XS.iadd X110.here hx rfl (hb hby d10_24) rfl k) ?_
            show Go p.tables e below (P10 Z p0 tx vb cs zc fm h0 n0 s) (T110.setTop (mkF m 25 #[.val (.ref p0)] [(.int ((2 : Int32) + (1 : Int32))), (.ref p0)]))
            rw [show ((2 : Int32) + (1 : Int32)) = (3 : Int32) from by decide]
            obtain ⟨T111, h111, X111, e111, W111, st111⟩ := putF X110 hx hZ hown (host := "") (Or.inl (hw _ (List.mem_of_getElem? (i := 43) rfl))) Via.refl e110 F79 F77 (Or.inl (hw _ (List.mem_of_getElem? (i := 44) rfl))) (hw _ (List.mem_of_getElem? (i := 27) rfl)) (ty := .int) (by decide) rfl rfl (g := (mkF m 25 #[.val (.ref p0)] [(.int (3 : Int32)), (.ref p0)])) rfl rfl (hb hby d10_25)
            have F112 : Exa Z h111 p0 "com/example/paylode/paylode/header/HeaderReader" := F77.wr W111
            have F113 : Fld Z h111 p0 "com/example/paylode/paylode/header/HeaderReader" "text" "Ljava/lang/String;" (.ref tx) := F78.other W111 (Or.inr (slot_ne (Or.inr (hw _ (List.mem_of_getElem? (i := 35) rfl))) (Or.inl (hw _ (List.mem_of_getElem? (i := 44) rfl))) (by decide) (t := (.object "java/lang/String")) (t' := .int) (by decide) (by decide)))
            have F114 : Fld Z h111 p0 "com/example/paylode/paylode/header/HeaderReader" "position" "I" (.int (3 : Int32)) := F79.same W111
            have F115 : Exa Z h111 tx "java/lang/String" := F80.wr W111
            have F116 : Fld Z h111 tx "java/lang/String" "coder" "B" (.int (0 : Int32)) := F81.other W111 (Or.inl H10)
            have F117 : Fld Z h111 tx "java/lang/String" "value" "[B" (.ref vb) := F82.other W111 (Or.inl H10)
            have F118 : ArL Z h111 vb .byte (List.map Value.int (List.map StrChars.lo8 cs)) := F83.other W111 H11
            have F119 : Sta Z h111 "java/lang/String" "COMPACT_STRINGS" "Z" (.int zc) := F84.wr W111
            have F120 : Sta Z h111 "jdk/internal/util/Preconditions" "SIOOBE_FORMATTER" "Ljava/util/function/BiFunction;" fm := F85.wr W111
            have F121 : n0 ≤ h111.size := Nat.le_trans F86 (Keep.of_wr W111).1
            have F122 : Keep h0 h111 [p0] := F87.wr W111 (Or.inl (List.mem_of_getElem? (i := 0) rfl))
            obtain ⟨Lo111, Y111, N111⟩ := pk X111 (Fr.snoc X111 N107 H9)
            refine Go.back st111 ?_
            show Go p.tables e below (P10 Z p0 tx vb cs zc fm h0 n0 s) (T111.setTop (mkF m 28 #[.val (.ref p0)] []))
            refine Go.back (fun t k => XS.goto Y111.here hx rfl (pc0 := 28) (pc' := 0) rfl (hb hby d10_28) (by decide) (by decide) k) ?_
            show Go p.tables e below (P10 Z p0 tx vb cs zc fm h0 n0 s) (T111.setTop (mkF m 0 #[.val (.ref p0)] []))
            refine Go.back (fun t k => XS.aloadN Y111.here hx rfl (hb hby d10_0) rfl rfl  k) ?_
            show Go p.tables e below (P10 Z p0 tx vb cs zc fm h0 n0 s) (T111.setTop (mkF m 1 #[.val (.ref p0)] [(.ref p0)]))
            refine Go.back (fun t k => XS.bipush Y111.here hx rfl (hb hby d10_1) k) ?_
            show Go p.tables e below (P10 Z p0 tx vb cs zc fm h0 n0 s) (T111.setTop (mkF m 3 #[.val (.ref p0)] [(.int (32 : Int32)), (.ref p0)]))
            obtain ⟨cq123, kq123, q123a, q123b, q123c⟩ := isOf hZ e111 F112
            obtain ⟨_, _, ⟨T123, L123, k123, n123⟩, -, X123, ⟨Lc123, hQ123, l123, y123, z123⟩, st123⟩ := Y111.virtualBack hx (y := (⟨"com/example/paylode/paylode/header/HeaderReader", "at", "(C)Z"⟩ : MethodName)) (z := (⟨"com/example/paylode/paylode/header/HeaderReader", "at", "(C)Z"⟩ : MethodName)) hown (mvT hZ (hw _ (List.mem_of_getElem? (i := 66) rfl))) (mvT hZ (hw _ (List.mem_of_getElem? (i := 67) rfl))) (notFace_of_selects (args := #[]) (mvT hZ (hw _ (List.mem_of_getElem? (i := 69) rfl)))) (mvT hZ (hw _ (List.mem_of_getElem? (i := 69) rfl))) (mvT hZ (hw _ (List.mem_of_getElem? (i := 68) rfl))) (by decide) (backOf (W := 0) (rm11 l Z a0 hw [] p0 (32 : Int32) tx vb cs zc fm (3 : Int32) h111 n0 F121 F112 F113 F114 F115 F116 F117 F118 F119 F120 hcs hp hl hfm (own_next (own_next (own_next own_pos0 hl hc2 (by decide)) hl hc73 (by decide)) hl hc108 (by decide))) hZ (hw _ (List.mem_of_getElem? (i := 70) rfl)) (hw _ (List.mem_of_getElem? (i := 28) rfl)) (by decide) (by decide)) q123a q123c (g := (mkF m 3 #[.val (.ref p0)] [(.int (32 : Int32)), (.ref p0)])) rfl (by rw [hml]; rfl) (Steps.refl _) (argsL := [(.int (32 : Int32))]) (rest := []) (lenOf pd_3 rfl) rfl (by show 2 * 0 + _ ≤ _; exact Nat.le_of_eq rfl) (hb hby d10_3) (fun _ _ => ⟨rfl, e111, (by decide : 0 + 0 ≤ _), (by decide : 0 + 0 ≤ _)⟩)
            dsimp only [Pt.U, Pt.locs, Pt.cells, Pt.slots] at X123 l123 y123 z123 st123 hQ123
            subst l123 y123 z123
            obtain ⟨rfl, N123q, e123⟩ := hQ123
            obtain ⟨Lo123, Y123, N123⟩ := pk X123 (Fr.app N111 N123q)
            refine Go.trans st123 ?_
            show Go p.tables e below (P10 Z p0 tx vb cs zc fm h0 n0 s) (T123.setTop (mkF m 6 #[.val (.ref p0)] [(.int (b2i (f11 (32 : Int32) cs (3 : Int32))))]))
            refine Go.back (fun t k => XS.ifNo Y123.here hx rfl (hb hby d10_6) rfl ((if0 _ _).trans (teq (b2i_f (own_at3 (own_next (own_next (own_next own_pos0 hl hc2 (by decide)) hl hc73 (by decide)) hl hc108 (by decide)) hl))).2) k) ?_
            show Go p.tables e below (P10 Z p0 tx vb cs zc fm h0 n0 s) (T123.setTop (mkF m 9 #[.val (.ref p0)] []))
            refine Go.back (fun t k => XS.aloadN Y123.here hx rfl (hb hby d10_9) rfl rfl  k) ?_
            show Go p.tables e below (P10 Z p0 tx vb cs zc fm h0 n0 s) (T123.setTop (mkF m 10 #[.val (.ref p0)] [(.ref p0)]))
            refine Go.back (fun t k => XS.bipush Y123.here hx rfl (hb hby d10_10) k) ?_
            show Go p.tables e below (P10 Z p0 tx vb cs zc fm h0 n0 s) (T123.setTop (mkF m 12 #[.val (.ref p0)] [(.int (9 : Int32)), (.ref p0)]))
            obtain ⟨cq124, kq124, q124a, q124b, q124c⟩ := isOf hZ e123 F112
            obtain ⟨_, _, ⟨T124, L124, k124, n124⟩, -, X124, ⟨Lc124, hQ124, l124, y124, z124⟩, st124⟩ := Y123.virtualBack hx (y := (⟨"com/example/paylode/paylode/header/HeaderReader", "at", "(C)Z"⟩ : MethodName)) (z := (⟨"com/example/paylode/paylode/header/HeaderReader", "at", "(C)Z"⟩ : MethodName)) hown (mvT hZ (hw _ (List.mem_of_getElem? (i := 66) rfl))) (mvT hZ (hw _ (List.mem_of_getElem? (i := 67) rfl))) (notFace_of_selects (args := #[]) (mvT hZ (hw _ (List.mem_of_getElem? (i := 69) rfl)))) (mvT hZ (hw _ (List.mem_of_getElem? (i := 69) rfl))) (mvT hZ (hw _ (List.mem_of_getElem? (i := 68) rfl))) (by decide) (backOf (W := 0) (rm11 l Z a0 hw [] p0 (9 : Int32) tx vb cs zc fm (3 : Int32) h111 n0 F121 F112 F113 F114 F115 F116 F117 F118 F119 F120 hcs hp hl hfm (own_next (own_next (own_next own_pos0 hl hc2 (by decide)) hl hc73 (by decide)) hl hc108 (by decide))) hZ (hw _ (List.mem_of_getElem? (i := 70) rfl)) (hw _ (List.mem_of_getElem? (i := 28) rfl)) (by decide) (by decide)) q124a q124c (g := (mkF m 12 #[.val (.ref p0)] [(.int (9 : Int32)), (.ref p0)])) rfl (by rw [hml]; rfl) (Steps.refl _) (argsL := [(.int (9 : Int32))]) (rest := []) (lenOf pd_3 rfl) rfl (by show 2 * 0 + _ ≤ _; exact Nat.le_of_eq rfl) (hb hby d10_12) (fun _ _ => ⟨rfl, e123, (by decide : 0 + 0 ≤ _), (by decide : 0 + 0 ≤ _)⟩)
            dsimp only [Pt.U, Pt.locs, Pt.cells, Pt.slots] at X124 l124 y124 z124 st124 hQ124
            subst l124 y124 z124
            obtain ⟨rfl, N124q, e124⟩ := hQ124
            obtain ⟨Lo124, Y124, N124⟩ := pk X124 (Fr.app N123 N124q)
            refine Go.trans st124 ?_
            show Go p.tables e below (P10 Z p0 tx vb cs zc fm h0 n0 s) (T124.setTop (mkF m 15 #[.val (.ref p0)] [(.int (b2i (f11 (9 : Int32) cs (3 : Int32))))]))
            refine Go.back (fun t k => XS.ifYes Y124.here hx rfl (pc0 := 15) (pc' := 31) rfl (hb hby d10_15) rfl ((if0 _ _).trans (teq (b2i_f (own_at3 (own_next (own_next (own_next own_pos0 hl hc2 (by decide)) hl hc73 (by decide)) hl hc108 (by decide)) hl))).1) (by decide) (by decide) k) ?_
            show Go p.tables e below (P10 Z p0 tx vb cs zc fm h0 n0 s) (T124.setTop (mkF m 31 #[.val (.ref p0)] []))
            exact Go.retV Y124 hx Bd.returns (hb hby d10_31) Bd.notSynchronized ⟨rfl, N124, (by rw [e124]; exact F122), (by rw [e124, r109]; exact F114), (by rw [e124]; exact F113)⟩ (by decide) (by decide)
          · have r125 := r106.trans (if_neg hc108)
            refine Go.back (fun t k => XS.ifYes Y107.here hx rfl (pc0 := 15) (pc' := 31) rfl (hb hby d10_15) rfl ((if0 _ _).trans (teq (b2i_f hc108)).1) (by decide) (by decide) k) ?_
            show Go p.tables e below (P10 Z p0 tx vb cs zc fm h0 n0 s) (T107.setTop (mkF m 31 #[.val (.ref p0)] []))
            exact Go.retV Y107 hx Bd.returns (hb hby d10_31) Bd.notSynchronized ⟨rfl, N107, (by rw [e107]; exact F87), (by rw [e107, r125]; exact F79), (by rw [e107]; exact F78)⟩ (by decide) (by decide)
      · have r126 := r71.trans (if_neg hc73)
        refine Go.back (fun t k => XS.ifYes Y72.here hx rfl (pc0 := 15) (pc' := 31) rfl (hb hby d10_15) rfl ((if0 _ _).trans (teq (b2i_f hc73)).1) (by decide) (by decide) k) ?_
        show Go p.tables e below (P10 Z p0 tx vb cs zc fm h0 n0 s) (T72.setTop (mkF m 31 #[.val (.ref p0)] []))
        exact Go.retV Y72 hx Bd.returns (hb hby d10_31) Bd.notSynchronized ⟨rfl, N72, (by rw [e72]; exact F16), (by rw [e72, r126]; exact F8), (by rw [e72]; exact F7)⟩ (by decide) (by decide)
  · have r127 := hf1.trans (if_neg hc2)
    refine Go.back (fun t k => XS.ifNo Y1.here hx rfl (hb hby d10_6) rfl ((if0 _ _).trans (teq (b2i_f hc2)).2) k) ?_
    show Go p.tables e below (P10 Z p0 tx vb cs zc fm h0 n0 s) (T1.setTop (mkF m 9 #[.val (.ref p0)] []))
    refine Go.back (fun t k => XS.aloadN Y1.here hx rfl (hb hby d10_9) rfl rfl  k) ?_
    show Go p.tables e below (P10 Z p0 tx vb cs zc fm h0 n0 s) (T1.setTop (mkF m 10 #[.val (.ref p0)] [(.ref p0)]))
    refine Go.back (fun t k => XS.bipush Y1.here hx rfl (hb hby d10_10) k) ?_
    show Go p.tables e below (P10 Z p0 tx vb cs zc fm h0 n0 s) (T1.setTop (mkF m 12 #[.val (.ref p0)] [(.int (9 : Int32)), (.ref p0)]))
    obtain ⟨cq128, kq128, q128a, q128b, q128c⟩ := isOf hZ e1 H0
    obtain ⟨_, _, ⟨T128, L128, k128, n128⟩, -, X128, ⟨Lc128, hQ128, l128, y128, z128⟩, st128⟩ := Y1.virtualBack hx (y := (⟨"com/example/paylode/paylode/header/HeaderReader", "at", "(C)Z"⟩ : MethodName)) (z := (⟨"com/example/paylode/paylode/header/HeaderReader", "at", "(C)Z"⟩ : MethodName)) hown (mvT hZ (hw _ (List.mem_of_getElem? (i := 66) rfl))) (mvT hZ (hw _ (List.mem_of_getElem? (i := 67) rfl))) (notFace_of_selects (args := #[]) (mvT hZ (hw _ (List.mem_of_getElem? (i := 69) rfl)))) (mvT hZ (hw _ (List.mem_of_getElem? (i := 69) rfl))) (mvT hZ (hw _ (List.mem_of_getElem? (i := 68) rfl))) (by decide) (backOf (W := 0) (rm11 l Z a0 hw [] p0 (9 : Int32) tx vb cs zc fm (0 : Int32) h0 n0 Z0 H0 H1 H2 H3 H4 H5 H6 H7 H8 hcs hp hl hfm own_pos0) hZ (hw _ (List.mem_of_getElem? (i := 70) rfl)) (hw _ (List.mem_of_getElem? (i := 28) rfl)) (by decide) (by decide)) q128a q128c (g := (mkF m 12 #[.val (.ref p0)] [(.int (9 : Int32)), (.ref p0)])) rfl (by rw [hml]; rfl) (Steps.refl _) (argsL := [(.int (9 : Int32))]) (rest := []) (lenOf pd_3 rfl) rfl (by show 2 * 0 + _ ≤ _; exact Nat.le_of_eq rfl) (hb hby d10_12) (fun _ _ => ⟨rfl, e1, (by decide : 0 + 0 ≤ _), (by decide : 0 + 0 ≤ _)⟩)
    dsimp only [Pt.U, Pt.locs, Pt.cells, Pt.slots] at X128 l128 y128 z128 st128 hQ128
    subst l128 y128 z128
    obtain ⟨rfl, N128q, e128⟩ := hQ128
    obtain ⟨Lo128, Y128, N128⟩ := pk X128 (Fr.app N1 N128q)
    refine Go.trans st128 ?_
    show Go p.tables e below (P10 Z p0 tx vb cs zc fm h0 n0 s) (T128.setTop (mkF m 15 #[.val (.ref p0)] [(.int (b2i (f11 (9 : Int32) cs (0 : Int32))))]))
    by_cases hc129 : (f11 (9 : Int32) cs (0 : Int32)) = true
    · have r130 := r127.trans (if_pos hc129)
      refine Go.back (fun t k => XS.ifNo Y128.here hx rfl (hb hby d10_15) rfl ((if0 _ _).trans (feq (b2i_t hc129)).1) k) ?_
      show Go p.tables e below (P10 Z p0 tx vb cs zc fm h0 n0 s) (T128.setTop (mkF m 18 #[.val (.ref p0)] []))
      refine Go.back (fun t k => XS.aloadN Y128.here hx rfl (hb hby d10_18) rfl rfl  k) ?_
      show Go p.tables e below (P10 Z p0 tx vb cs zc fm h0 n0 s) (T128.setTop (mkF m 19 #[.val (.ref p0)] [(.ref p0)]))
      refine Go.back (fun t k => XS.dup Y128.here hx rfl (hb hby d10_19) rfl rfl k) ?_
      show Go p.tables e below (P10 Z p0 tx vb cs zc fm h0 n0 s) (T128.setTop (mkF m 20 #[.val (.ref p0)] [(.ref p0), (.ref p0)]))
      obtain ⟨T131, X131, e131, st131⟩ := getF Y128 hx hZ hown (host := "") (Or.inl (hw _ (List.mem_of_getElem? (i := 43) rfl))) Via.refl e128 H2 (g := (mkF m 20 #[.val (.ref p0)] [(.ref p0), (.ref p0)])) rfl rfl (hb hby d10_20)
      refine Go.back st131 ?_
      show Go p.tables e below (P10 Z p0 tx vb cs zc fm h0 n0 s) (T131.setTop (mkF m 23 #[.val (.ref p0)] [(.int (0 : Int32)), (.ref p0)]))
      refine Go.back (fun t k => XS.iconst X131.here hx rfl (hb hby d10_23) k) ?_
      show Go p.tables e below (P10 Z p0 tx vb cs zc fm h0 n0 s) (T131.setTop (mkF m 24 #[.val (.ref p0)] [(.int (1 : Int32)), (.int (0 : Int32)), (.ref p0)]))
      refine Go.back (fun t k => XS.iadd X131.here hx rfl (hb hby d10_24) rfl k) ?_
      show Go p.tables e below (P10 Z p0 tx vb cs zc fm h0 n0 s) (T131.setTop (mkF m 25 #[.val (.ref p0)] [(.int ((0 : Int32) + (1 : Int32))), (.ref p0)]))
      rw [show ((0 : Int32) + (1 : Int32)) = (1 : Int32) from by decide]
      obtain ⟨T132, h132, X132, e132, W132, st132⟩ := putF X131 hx hZ hown (host := "") (Or.inl (hw _ (List.mem_of_getElem? (i := 43) rfl))) Via.refl e131 H2 H0 (Or.inl (hw _ (List.mem_of_getElem? (i := 44) rfl))) (hw _ (List.mem_of_getElem? (i := 27) rfl)) (ty := .int) (by decide) rfl rfl (g := (mkF m 25 #[.val (.ref p0)] [(.int (1 : Int32)), (.ref p0)])) rfl rfl (hb hby d10_25)
      have F133 : Exa Z h132 p0 "com/example/paylode/paylode/header/HeaderReader" := H0.wr W132
      have F134 : Fld Z h132 p0 "com/example/paylode/paylode/header/HeaderReader" "text" "Ljava/lang/String;" (.ref tx) := H1.other W132 (Or.inr (slot_ne (Or.inr (hw _ (List.mem_of_getElem? (i := 35) rfl))) (Or.inl (hw _ (List.mem_of_getElem? (i := 44) rfl))) (by decide) (t := (.object "java/lang/String")) (t' := .int) (by decide) (by decide)))
      have F135 : Fld Z h132 p0 "com/example/paylode/paylode/header/HeaderReader" "position" "I" (.int (1 : Int32)) := H2.same W132
      have F136 : Exa Z h132 tx "java/lang/String" := H3.wr W132
      have F137 : Fld Z h132 tx "java/lang/String" "coder" "B" (.int (0 : Int32)) := H4.other W132 (Or.inl H10)
      have F138 : Fld Z h132 tx "java/lang/String" "value" "[B" (.ref vb) := H5.other W132 (Or.inl H10)
      have F139 : ArL Z h132 vb .byte (List.map Value.int (List.map StrChars.lo8 cs)) := H6.other W132 H11
      have F140 : Sta Z h132 "java/lang/String" "COMPACT_STRINGS" "Z" (.int zc) := H7.wr W132
      have F141 : Sta Z h132 "jdk/internal/util/Preconditions" "SIOOBE_FORMATTER" "Ljava/util/function/BiFunction;" fm := H8.wr W132
      have F142 : n0 ≤ h132.size := Nat.le_trans Z0 (Keep.of_wr W132).1
      have F143 : Keep h0 h132 [p0] := (Keep.refl h0 [p0]).wr W132 (Or.inl (List.mem_of_getElem? (i := 0) rfl))
      obtain ⟨Lo132, Y132, N132⟩ := pk X132 (Fr.snoc X132 N128 H9)
      refine Go.back st132 ?_
      show Go p.tables e below (P10 Z p0 tx vb cs zc fm h0 n0 s) (T132.setTop (mkF m 28 #[.val (.ref p0)] []))
      refine Go.back (fun t k => XS.goto Y132.here hx rfl (pc0 := 28) (pc' := 0) rfl (hb hby d10_28) (by decide) (by decide) k) ?_
      show Go p.tables e below (P10 Z p0 tx vb cs zc fm h0 n0 s) (T132.setTop (mkF m 0 #[.val (.ref p0)] []))
      refine Go.back (fun t k => XS.aloadN Y132.here hx rfl (hb hby d10_0) rfl rfl  k) ?_
      show Go p.tables e below (P10 Z p0 tx vb cs zc fm h0 n0 s) (T132.setTop (mkF m 1 #[.val (.ref p0)] [(.ref p0)]))
      refine Go.back (fun t k => XS.bipush Y132.here hx rfl (hb hby d10_1) k) ?_
      show Go p.tables e below (P10 Z p0 tx vb cs zc fm h0 n0 s) (T132.setTop (mkF m 3 #[.val (.ref p0)] [(.int (32 : Int32)), (.ref p0)]))
      obtain ⟨cq144, kq144, q144a, q144b, q144c⟩ := isOf hZ e132 F133
      obtain ⟨_, _, ⟨T144, L144, k144, n144⟩, -, X144, ⟨Lc144, hQ144, l144, y144, z144⟩, st144⟩ := Y132.virtualBack hx (y := (⟨"com/example/paylode/paylode/header/HeaderReader", "at", "(C)Z"⟩ : MethodName)) (z := (⟨"com/example/paylode/paylode/header/HeaderReader", "at", "(C)Z"⟩ : MethodName)) hown (mvT hZ (hw _ (List.mem_of_getElem? (i := 66) rfl))) (mvT hZ (hw _ (List.mem_of_getElem? (i := 67) rfl))) (notFace_of_selects (args := #[]) (mvT hZ (hw _ (List.mem_of_getElem? (i := 69) rfl)))) (mvT hZ (hw _ (List.mem_of_getElem? (i := 69) rfl))) (mvT hZ (hw _ (List.mem_of_getElem? (i := 68) rfl))) (by decide) (backOf (W := 0) (rm11 l Z a0 hw [] p0 (32 : Int32) tx vb cs zc fm (1 : Int32) h132 n0 F142 F133 F134 F135 F136 F137 F138 F139 F140 F141 hcs hp hl hfm (own_next own_pos0 hl hc129 (by decide))) hZ (hw _ (List.mem_of_getElem? (i := 70) rfl)) (hw _ (List.mem_of_getElem? (i := 28) rfl)) (by decide) (by decide)) q144a q144c (g := (mkF m 3 #[.val (.ref p0)] [(.int (32 : Int32)), (.ref p0)])) rfl (by rw [hml]; rfl) (Steps.refl _) (argsL := [(.int (32 : Int32))]) (rest := []) (lenOf pd_3 rfl) rfl (by show 2 * 0 + _ ≤ _; exact Nat.le_of_eq rfl) (hb hby d10_3) (fun _ _ => ⟨rfl, e132, (by decide : 0 + 0 ≤ _), (by decide : 0 + 0 ≤ _)⟩)
      dsimp only [Pt.U, Pt.locs, Pt.cells, Pt.slots] at X144 l144 y144 z144 st144 hQ144
      subst l144 y144 z144
      obtain ⟨rfl, N144q, e144⟩ := hQ144
      obtain ⟨Lo144, Y144, N144⟩ := pk X144 (Fr.app N132 N144q)
      refine Go.trans st144 ?_
      show Go p.tables e below (P10 Z p0 tx vb cs zc fm h0 n0 s) (T144.setTop (mkF m 6 #[.val (.ref p0)] [(.int (b2i (f11 (32 : Int32) cs (1 : Int32))))]))
      by_cases hc145 : (f11 (32 : Int32) cs (1 : Int32)) = true
      · have r146 := r130.trans (if_pos hc145)
        refine Go.back (fun t k => XS.ifYes Y144.here hx rfl (pc0 := 6) (pc' := 18) rfl (hb hby d10_6) rfl ((if0 _ _).trans (feq (b2i_t hc145)).2) (by decide) (by decide) k) ?_
        show Go p.tables e below (P10 Z p0 tx vb cs zc fm h0 n0 s) (T144.setTop (mkF m 18 #[.val (.ref p0)] []))
        refine Go.back (fun t k => XS.aloadN Y144.here hx rfl (hb hby d10_18) rfl rfl  k) ?_
        show Go p.tables e below (P10 Z p0 tx vb cs zc fm h0 n0 s) (T144.setTop (mkF m 19 #[.val (.ref p0)] [(.ref p0)]))
        refine Go.back (fun t k => XS.dup Y144.here hx rfl (hb hby d10_19) rfl rfl k) ?_
        show Go p.tables e below (P10 Z p0 tx vb cs zc fm h0 n0 s) (T144.setTop (mkF m 20 #[.val (.ref p0)] [(.ref p0), (.ref p0)]))
        obtain ⟨T147, X147, e147, st147⟩ := getF Y144 hx hZ hown (host := "") (Or.inl (hw _ (List.mem_of_getElem? (i := 43) rfl))) Via.refl e144 F135 (g := (mkF m 20 #[.val (.ref p0)] [(.ref p0), (.ref p0)])) rfl rfl (hb hby d10_20)
        refine Go.back st147 ?_
        show Go p.tables e below (P10 Z p0 tx vb cs zc fm h0 n0 s) (T147.setTop (mkF m 23 #[.val (.ref p0)] [(.int (1 : Int32)), (.ref p0)]))
        refine Go.back (fun t k => XS.iconst X147.here hx rfl (hb hby d10_23) k) ?_
        show Go p.tables e below (P10 Z p0 tx vb cs zc fm h0 n0 s) (T147.setTop (mkF m 24 #[.val (.ref p0)] [(.int (1 : Int32)), (.int (1 : Int32)), (.ref p0)]))
        refine Go.back (fun t k => XS.iadd X147.here hx rfl (hb hby d10_24) rfl k) ?_
        show Go p.tables e below (P10 Z p0 tx vb cs zc fm h0 n0 s) (T147.setTop (mkF m 25 #[.val (.ref p0)] [(.int ((1 : Int32) + (1 : Int32))), (.ref p0)]))
        rw [show ((1 : Int32) + (1 : Int32)) = (2 : Int32) from by decide]
        obtain ⟨T148, h148, X148, e148, W148, st148⟩ := putF X147 hx hZ hown (host := "") (Or.inl (hw _ (List.mem_of_getElem? (i := 43) rfl))) Via.refl e147 F135 F133 (Or.inl (hw _ (List.mem_of_getElem? (i := 44) rfl))) (hw _ (List.mem_of_getElem? (i := 27) rfl)) (ty := .int) (by decide) rfl rfl (g := (mkF m 25 #[.val (.ref p0)] [(.int (2 : Int32)), (.ref p0)])) rfl rfl (hb hby d10_25)
        have F149 : Exa Z h148 p0 "com/example/paylode/paylode/header/HeaderReader" := F133.wr W148
        have F150 : Fld Z h148 p0 "com/example/paylode/paylode/header/HeaderReader" "text" "Ljava/lang/String;" (.ref tx) := F134.other W148 (Or.inr (slot_ne (Or.inr (hw _ (List.mem_of_getElem? (i := 35) rfl))) (Or.inl (hw _ (List.mem_of_getElem? (i := 44) rfl))) (by decide) (t := (.object "java/lang/String")) (t' := .int) (by decide) (by decide)))
        have F151 : Fld Z h148 p0 "com/example/paylode/paylode/header/HeaderReader" "position" "I" (.int (2 : Int32)) := F135.same W148
        have F152 : Exa Z h148 tx "java/lang/String" := F136.wr W148
        have F153 : Fld Z h148 tx "java/lang/String" "coder" "B" (.int (0 : Int32)) := F137.other W148 (Or.inl H10)
        have F154 : Fld Z h148 tx "java/lang/String" "value" "[B" (.ref vb) := F138.other W148 (Or.inl H10)
        have F155 : ArL Z h148 vb .byte (List.map Value.int (List.map StrChars.lo8 cs)) := F139.other W148 H11
        have F156 : Sta Z h148 "java/lang/String" "COMPACT_STRINGS" "Z" (.int zc) := F140.wr W148
        have F157 : Sta Z h148 "jdk/internal/util/Preconditions" "SIOOBE_FORMATTER" "Ljava/util/function/BiFunction;" fm := F141.wr W148
        have F158 : n0 ≤ h148.size := Nat.le_trans F142 (Keep.of_wr W148).1
        have F159 : Keep h0 h148 [p0] := F143.wr W148 (Or.inl (List.mem_of_getElem? (i := 0) rfl))
        obtain ⟨Lo148, Y148, N148⟩ := pk X148 (Fr.snoc X148 N144 H9)
        refine Go.back st148 ?_
        show Go p.tables e below (P10 Z p0 tx vb cs zc fm h0 n0 s) (T148.setTop (mkF m 28 #[.val (.ref p0)] []))
        refine Go.back (fun t k => XS.goto Y148.here hx rfl (pc0 := 28) (pc' := 0) rfl (hb hby d10_28) (by decide) (by decide) k) ?_
        show Go p.tables e below (P10 Z p0 tx vb cs zc fm h0 n0 s) (T148.setTop (mkF m 0 #[.val (.ref p0)] []))
        refine Go.back (fun t k => XS.aloadN Y148.here hx rfl (hb hby d10_0) rfl rfl  k) ?_
        show Go p.tables e below (P10 Z p0 tx vb cs zc fm h0 n0 s) (T148.setTop (mkF m 1 #[.val (.ref p0)] [(.ref p0)]))
        refine Go.back (fun t k => XS.bipush Y148.here hx rfl (hb hby d10_1) k) ?_
        show Go p.tables e below (P10 Z p0 tx vb cs zc fm h0 n0 s) (T148.setTop (mkF m 3 #[.val (.ref p0)] [(.int (32 : Int32)), (.ref p0)]))
        obtain ⟨cq160, kq160, q160a, q160b, q160c⟩ := isOf hZ e148 F149
        obtain ⟨_, _, ⟨T160, L160, k160, n160⟩, -, X160, ⟨Lc160, hQ160, l160, y160, z160⟩, st160⟩ := Y148.virtualBack hx (y := (⟨"com/example/paylode/paylode/header/HeaderReader", "at", "(C)Z"⟩ : MethodName)) (z := (⟨"com/example/paylode/paylode/header/HeaderReader", "at", "(C)Z"⟩ : MethodName)) hown (mvT hZ (hw _ (List.mem_of_getElem? (i := 66) rfl))) (mvT hZ (hw _ (List.mem_of_getElem? (i := 67) rfl))) (notFace_of_selects (args := #[]) (mvT hZ (hw _ (List.mem_of_getElem? (i := 69) rfl)))) (mvT hZ (hw _ (List.mem_of_getElem? (i := 69) rfl))) (mvT hZ (hw _ (List.mem_of_getElem? (i := 68) rfl))) (by decide) (backOf (W := 0) (rm11 l Z a0 hw [] p0 (32 : Int32) tx vb cs zc fm (2 : Int32) h148 n0 F158 F149 F150 F151 F152 F153 F154 F155 F156 F157 hcs hp hl hfm (own_next (own_next own_pos0 hl hc129 (by decide)) hl hc145 (by decide))) hZ (hw _ (List.mem_of_getElem? (i := 70) rfl)) (hw _ (List.mem_of_getElem? (i := 28) rfl)) (by decide) (by decide)) q160a q160c (g := (mkF m 3 #[.val (.ref p0)] [(.int (32 : Int32)), (.ref p0)])) rfl (by rw [hml]; rfl) (Steps.refl _) (argsL := [(.int (32 : Int32))]) (rest := []) (lenOf pd_3 rfl) rfl (by show 2 * 0 + _ ≤ _; exact Nat.le_of_eq rfl) (hb hby d10_3) (fun _ _ => ⟨rfl, e148, (by decide : 0 + 0 ≤ _), (by decide : 0 + 0 ≤ _)⟩)
        dsimp only [Pt.U, Pt.locs, Pt.cells, Pt.slots] at X160 l160 y160 z160 st160 hQ160
        subst l160 y160 z160
        obtain ⟨rfl, N160q, e160⟩ := hQ160
        obtain ⟨Lo160, Y160, N160⟩ := pk X160 (Fr.app N148 N160q)
        refine Go.trans st160 ?_
        show Go p.tables e below (P10 Z p0 tx vb cs zc fm h0 n0 s) (T160.setTop (mkF m 6 #[.val (.ref p0)] [(.int (b2i (f11 (32 : Int32) cs (2 : Int32))))]))
        by_cases hc161 : (f11 (32 : Int32) cs (2 : Int32)) = true
        · have r162 := r146.trans (if_pos hc161)
          refine Go.back (fun t k => XS.ifYes Y160.here hx rfl (pc0 := 6) (pc' := 18) rfl (hb hby d10_6) rfl ((if0 _ _).trans (feq (b2i_t hc161)).2) (by decide) (by decide) k) ?_
          show Go p.tables e below (P10 Z p0 tx vb cs zc fm h0 n0 s) (T160.setTop (mkF m 18 #[.val (.ref p0)] []))
          refine Go.back (fun t k => XS.aloadN Y160.here hx rfl (hb hby d10_18) rfl rfl  k) ?_
          show Go p.tables e below (P10 Z p0 tx vb cs zc fm h0 n0 s) (T160.setTop (mkF m 19 #[.val (.ref p0)] [(.ref p0)]))
          refine Go.back (fun t k => XS.dup Y160.here hx rfl (hb hby d10_19) rfl rfl k) ?_
          show Go p.tables e below (P10 Z p0 tx vb cs zc fm h0 n0 s) (T160.setTop (mkF m 20 #[.val (.ref p0)] [(.ref p0), (.ref p0)]))
          obtain ⟨T163, X163, e163, st163⟩ := getF Y160 hx hZ hown (host := "") (Or.inl (hw _ (List.mem_of_getElem? (i := 43) rfl))) Via.refl e160 F151 (g := (mkF m 20 #[.val (.ref p0)] [(.ref p0), (.ref p0)])) rfl rfl (hb hby d10_20)
          refine Go.back st163 ?_
          show Go p.tables e below (P10 Z p0 tx vb cs zc fm h0 n0 s) (T163.setTop (mkF m 23 #[.val (.ref p0)] [(.int (2 : Int32)), (.ref p0)]))
          refine Go.back (fun t k => XS.iconst X163.here hx rfl (hb hby d10_23) k) ?_
          show Go p.tables e below (P10 Z p0 tx vb cs zc fm h0 n0 s) (T163.setTop (mkF m 24 #[.val (.ref p0)] [(.int (1 : Int32)), (.int (2 : Int32)), (.ref p0)]))
          refine Go.back (fun t k => XS.iadd X163.here hx rfl (hb hby d10_24) rfl k) ?_
          show Go p.tables e below (P10 Z p0 tx vb cs zc fm h0 n0 s) (T163.setTop (mkF m 25 #[.val (.ref p0)] [(.int ((2 : Int32) + (1 : Int32))), (.ref p0)]))
          rw [show ((2 : Int32) + (1 : Int32)) = (3 : Int32) from by decide]
          obtain ⟨T164, h164, X164, e164, W164, st164⟩ := putF X163 hx hZ hown (host := "") (Or.inl (hw _ (List.mem_of_getElem? (i := 43) rfl))) Via.refl e163 F151 F149 (Or.inl (hw _ (List.mem_of_getElem? (i := 44) rfl))) (hw _ (List.mem_of_getElem? (i := 27) rfl)) (ty := .int) (by decide) rfl rfl (g := (mkF m 25 #[.val (.ref p0)] [(.int (3 : Int32)), (.ref p0)])) rfl rfl (hb hby d10_25)
          have F165 : Exa Z h164 p0 "com/example/paylode/paylode/header/HeaderReader" := F149.wr W164
          have F166 : Fld Z h164 p0 "com/example/paylode/paylode/header/HeaderReader" "text" "Ljava/lang/String;" (.ref tx) := F150.other W164 (Or.inr (slot_ne (Or.inr (hw _ (List.mem_of_getElem? (i := 35) rfl))) (Or.inl (hw _ (List.mem_of_getElem? (i := 44) rfl))) (by decide) (t := (.object "java/lang/String")) (t' := .int) (by decide) (by decide)))
          have F167 : Fld Z h164 p0 "com/example/paylode/paylode/header/HeaderReader" "position" "I" (.int (3 : Int32)) := F151.same W164
          have F168 : Exa Z h164 tx "java/lang/String" := F152.wr W164
          have F169 : Fld Z h164 tx "java/lang/String" "coder" "B" (.int (0 : Int32)) := F153.other W164 (Or.inl H10)
          have F170 : Fld Z h164 tx "java/lang/String" "value" "[B" (.ref vb) := F154.other W164 (Or.inl H10)
          have F171 : ArL Z h164 vb .byte (List.map Value.int (List.map StrChars.lo8 cs)) := F155.other W164 H11
          have F172 : Sta Z h164 "java/lang/String" "COMPACT_STRINGS" "Z" (.int zc) := F156.wr W164
          have F173 : Sta Z h164 "jdk/internal/util/Preconditions" "SIOOBE_FORMATTER" "Ljava/util/function/BiFunction;" fm := F157.wr W164
          have F174 : n0 ≤ h164.size := Nat.le_trans F158 (Keep.of_wr W164).1
          have F175 : Keep h0 h164 [p0] := F159.wr W164 (Or.inl (List.mem_of_getElem? (i := 0) rfl))
          obtain ⟨Lo164, Y164, N164⟩ := pk X164 (Fr.snoc X164 N160 H9)
          refine Go.back st164 ?_
          show Go p.tables e below (P10 Z p0 tx vb cs zc fm h0 n0 s) (T164.setTop (mkF m 28 #[.val (.ref p0)] []))
          refine Go.back (fun t k => XS.goto Y164.here hx rfl (pc0 := 28) (pc' := 0) rfl (hb hby d10_28) (by decide) (by decide) k) ?_
          show Go p.tables e below (P10 Z p0 tx vb cs zc fm h0 n0 s) (T164.setTop (mkF m 0 #[.val (.ref p0)] []))
          refine Go.back (fun t k => XS.aloadN Y164.here hx rfl (hb hby d10_0) rfl rfl  k) ?_
          show Go p.tables e below (P10 Z p0 tx vb cs zc fm h0 n0 s) (T164.setTop (mkF m 1 #[.val (.ref p0)] [(.ref p0)]))
          refine Go.back (fun t k => XS.bipush Y164.here hx rfl (hb hby d10_1) k) ?_
          show Go p.tables e below (P10 Z p0 tx vb cs zc fm h0 n0 s) (T164.setTop (mkF m 3 #[.val (.ref p0)] [(.int (32 : Int32)), (.ref p0)]))
          obtain ⟨cq176, kq176, q176a, q176b, q176c⟩ := isOf hZ e164 F165
          obtain ⟨_, _, ⟨T176, L176, k176, n176⟩, -, X176, ⟨Lc176, hQ176, l176, y176, z176⟩, st176⟩ := Y164.virtualBack hx (y := (⟨"com/example/paylode/paylode/header/HeaderReader", "at", "(C)Z"⟩ : MethodName)) (z := (⟨"com/example/paylode/paylode/header/HeaderReader", "at", "(C)Z"⟩ : MethodName)) hown (mvT hZ (hw _ (List.mem_of_getElem? (i := 66) rfl))) (mvT hZ (hw _ (List.mem_of_getElem? (i := 67) rfl))) (notFace_of_selects (args := #[]) (mvT hZ (hw _ (List.mem_of_getElem? (i := 69) rfl)))) (mvT hZ (hw _ (List.mem_of_getElem? (i := 69) rfl))) (mvT hZ (hw _ (List.mem_of_getElem? (i := 68) rfl))) (by decide) (backOf (W := 0) (rm11 l Z a0 hw [] p0 (32 : Int32) tx vb cs zc fm (3 : Int32) h164 n0 F174 F165 F166 F167 F168 F169 F170 F171 F172 F173 hcs hp hl hfm (own_next (own_next (own_next own_pos0 hl hc129 (by decide)) hl hc145 (by decide)) hl hc161 (by decide))) hZ (hw _ (List.mem_of_getElem? (i := 70) rfl)) (hw _ (List.mem_of_getElem? (i := 28) rfl)) (by decide) (by decide)) q176a q176c (g := (mkF m 3 #[.val (.ref p0)] [(.int (32 : Int32)), (.ref p0)])) rfl (by rw [hml]; rfl) (Steps.refl _) (argsL := [(.int (32 : Int32))]) (rest := []) (lenOf pd_3 rfl) rfl (by show 2 * 0 + _ ≤ _; exact Nat.le_of_eq rfl) (hb hby d10_3) (fun _ _ => ⟨rfl, e164, (by decide : 0 + 0 ≤ _), (by decide : 0 + 0 ≤ _)⟩)
          dsimp only [Pt.U, Pt.locs, Pt.cells, Pt.slots] at X176 l176 y176 z176 st176 hQ176
          subst l176 y176 z176
          obtain ⟨rfl, N176q, e176⟩ := hQ176
          obtain ⟨Lo176, Y176, N176⟩ := pk X176 (Fr.app N164 N176q)
          refine Go.trans st176 ?_
          show Go p.tables e below (P10 Z p0 tx vb cs zc fm h0 n0 s) (T176.setTop (mkF m 6 #[.val (.ref p0)] [(.int (b2i (f11 (32 : Int32) cs (3 : Int32))))]))
          refine Go.back (fun t k => XS.ifNo Y176.here hx rfl (hb hby d10_6) rfl ((if0 _ _).trans (teq (b2i_f (own_at3 (own_next (own_next (own_next own_pos0 hl hc129 (by decide)) hl hc145 (by decide)) hl hc161 (by decide)) hl))).2) k) ?_
          show Go p.tables e below (P10 Z p0 tx vb cs zc fm h0 n0 s) (T176.setTop (mkF m 9 #[.val (.ref p0)] []))
          refine Go.back (fun t k => XS.aloadN Y176.here hx rfl (hb hby d10_9) rfl rfl  k) ?_
          show Go p.tables e below (P10 Z p0 tx vb cs zc fm h0 n0 s) (T176.setTop (mkF m 10 #[.val (.ref p0)] [(.ref p0)]))
          refine Go.back (fun t k => XS.bipush Y176.here hx rfl (hb hby d10_10) k) ?_
          show Go p.tables e below (P10 Z p0 tx vb cs zc fm h0 n0 s) (T176.setTop (mkF m 12 #[.val (.ref p0)] [(.int (9 : Int32)), (.ref p0)]))
          obtain ⟨cq177, kq177, q177a, q177b, q177c⟩ := isOf hZ e176 F165
          obtain ⟨_, _, ⟨T177, L177, k177, n177⟩, -, X177, ⟨Lc177, hQ177, l177, y177, z177⟩, st177⟩ := Y176.virtualBack hx (y := (⟨"com/example/paylode/paylode/header/HeaderReader", "at", "(C)Z"⟩ : MethodName)) (z := (⟨"com/example/paylode/paylode/header/HeaderReader", "at", "(C)Z"⟩ : MethodName)) hown (mvT hZ (hw _ (List.mem_of_getElem? (i := 66) rfl))) (mvT hZ (hw _ (List.mem_of_getElem? (i := 67) rfl))) (notFace_of_selects (args := #[]) (mvT hZ (hw _ (List.mem_of_getElem? (i := 69) rfl)))) (mvT hZ (hw _ (List.mem_of_getElem? (i := 69) rfl))) (mvT hZ (hw _ (List.mem_of_getElem? (i := 68) rfl))) (by decide) (backOf (W := 0) (rm11 l Z a0 hw [] p0 (9 : Int32) tx vb cs zc fm (3 : Int32) h164 n0 F174 F165 F166 F167 F168 F169 F170 F171 F172 F173 hcs hp hl hfm (own_next (own_next (own_next own_pos0 hl hc129 (by decide)) hl hc145 (by decide)) hl hc161 (by decide))) hZ (hw _ (List.mem_of_getElem? (i := 70) rfl)) (hw _ (List.mem_of_getElem? (i := 28) rfl)) (by decide) (by decide)) q177a q177c (g := (mkF m 12 #[.val (.ref p0)] [(.int (9 : Int32)), (.ref p0)])) rfl (by rw [hml]; rfl) (Steps.refl _) (argsL := [(.int (9 : Int32))]) (rest := []) (lenOf pd_3 rfl) rfl (by show 2 * 0 + _ ≤ _; exact Nat.le_of_eq rfl) (hb hby d10_12) (fun _ _ => ⟨rfl, e176, (by decide : 0 + 0 ≤ _), (by decide : 0 + 0 ≤ _)⟩)
          dsimp only [Pt.U, Pt.locs, Pt.cells, Pt.slots] at X177 l177 y177 z177 st177 hQ177
          subst l177 y177 z177
          obtain ⟨rfl, N177q, e177⟩ := hQ177
          obtain ⟨Lo177, Y177, N177⟩ := pk X177 (Fr.app N176 N177q)
          refine Go.trans st177 ?_
          show Go p.tables e below (P10 Z p0 tx vb cs zc fm h0 n0 s) (T177.setTop (mkF m 15 #[.val (.ref p0)] [(.int (b2i (f11 (9 : Int32) cs (3 : Int32))))]))
          refine Go.back (fun t k => XS.ifYes Y177.here hx rfl (pc0 := 15) (pc' := 31) rfl (hb hby d10_15) rfl ((if0 _ _).trans (teq (b2i_f (own_at3 (own_next (own_next (own_next own_pos0 hl hc129 (by decide)) hl hc145 (by decide)) hl hc161 (by decide)) hl))).1) (by decide) (by decide) k) ?_
          show Go p.tables e below (P10 Z p0 tx vb cs zc fm h0 n0 s) (T177.setTop (mkF m 31 #[.val (.ref p0)] []))
          exact Go.retV Y177 hx Bd.returns (hb hby d10_31) Bd.notSynchronized ⟨rfl, N177, (by rw [e177]; exact F175), (by rw [e177, r162]; exact F167), (by rw [e177]; exact F166)⟩ (by decide) (by decide)
        · have r178 := r146.trans (if_neg hc161)
          refine Go.back (fun t k => XS.ifNo Y160.here hx rfl (hb hby d10_6) rfl ((if0 _ _).trans (teq (b2i_f hc161)).2) k) ?_
          show Go p.tables e below (P10 Z p0 tx vb cs zc fm h0 n0 s) (T160.setTop (mkF m 9 #[.val (.ref p0)] []))
          refine Go.back (fun t k => XS.aloadN Y160.here hx rfl (hb hby d10_9) rfl rfl  k) ?_
          show Go p.tables e below (P10 Z p0 tx vb cs zc fm h0 n0 s) (T160.setTop (mkF m 10 #[.val (.ref p0)] [(.ref p0)]))
          refine Go.back (fun t k => XS.bipush Y160.here hx rfl (hb hby d10_10) k) ?_
          show Go p.tables e below (P10 Z p0 tx vb cs zc fm h0 n0 s) (T160.setTop (mkF m 12 #[.val (.ref p0)] [(.int (9 : Int32)), (.ref p0)]))
          obtain ⟨cq179, kq179, q179a, q179b, q179c⟩ := isOf hZ e160 F149
          obtain ⟨_, _, ⟨T179, L179, k179, n179⟩, -, X179, ⟨Lc179, hQ179, l179, y179, z179⟩, st179⟩ := Y160.virtualBack hx (y := (⟨"com/example/paylode/paylode/header/HeaderReader", "at", "(C)Z"⟩ : MethodName)) (z := (⟨"com/example/paylode/paylode/header/HeaderReader", "at", "(C)Z"⟩ : MethodName)) hown (mvT hZ (hw _ (List.mem_of_getElem? (i := 66) rfl))) (mvT hZ (hw _ (List.mem_of_getElem? (i := 67) rfl))) (notFace_of_selects (args := #[]) (mvT hZ (hw _ (List.mem_of_getElem? (i := 69) rfl)))) (mvT hZ (hw _ (List.mem_of_getElem? (i := 69) rfl))) (mvT hZ (hw _ (List.mem_of_getElem? (i := 68) rfl))) (by decide) (backOf (W := 0) (rm11 l Z a0 hw [] p0 (9 : Int32) tx vb cs zc fm (2 : Int32) h148 n0 F158 F149 F150 F151 F152 F153 F154 F155 F156 F157 hcs hp hl hfm (own_next (own_next own_pos0 hl hc129 (by decide)) hl hc145 (by decide))) hZ (hw _ (List.mem_of_getElem? (i := 70) rfl)) (hw _ (List.mem_of_getElem? (i := 28) rfl)) (by decide) (by decide)) q179a q179c (g := (mkF m 12 #[.val (.ref p0)] [(.int (9 : Int32)), (.ref p0)])) rfl (by rw [hml]; rfl) (Steps.refl _) (argsL := [(.int (9 : Int32))]) (rest := []) (lenOf pd_3 rfl) rfl (by show 2 * 0 + _ ≤ _; exact Nat.le_of_eq rfl) (hb hby d10_12) (fun _ _ => ⟨rfl, e160, (by decide : 0 + 0 ≤ _), (by decide : 0 + 0 ≤ _)⟩)
          dsimp only [Pt.U, Pt.locs, Pt.cells, Pt.slots] at X179 l179 y179 z179 st179 hQ179
          subst l179 y179 z179
          obtain ⟨rfl, N179q, e179⟩ := hQ179
          obtain ⟨Lo179, Y179, N179⟩ := pk X179 (Fr.app N160 N179q)
          refine Go.trans st179 ?_
          show Go p.tables e below (P10 Z p0 tx vb cs zc fm h0 n0 s) (T179.setTop (mkF m 15 #[.val (.ref p0)] [(.int (b2i (f11 (9 : Int32) cs (2 : Int32))))]))
          by_cases hc180 : (f11 (9 : Int32) cs (2 : Int32)) = true
          · have r181 := r178.trans (if_pos hc180)
            refine Go.back (fun t k => XS.ifNo Y179.here hx rfl (hb hby d10_15) rfl ((if0 _ _).trans (feq (b2i_t hc180)).1) k) ?_
            show Go p.tables e below (P10 Z p0 tx vb cs zc fm h0 n0 s) (T179.setTop (mkF m 18 #[.val (.ref p0)] []))
            refine Go.back (fun t k => XS.aloadN Y179.here hx rfl (hb hby d10_18) rfl rfl  k) ?_
            show Go p.tables e below (P10 Z p0 tx vb cs zc fm h0 n0 s) (T179.setTop (mkF m 19 #[.val (.ref p0)] [(.ref p0)]))
            refine Go.back (fun t k => XS.dup Y179.here hx rfl (hb hby d10_19) rfl rfl k) ?_
            show Go p.tables e below (P10 Z p0 tx vb cs zc fm h0 n0 s) (T179.setTop (mkF m 20 #[.val (.ref p0)] [(.ref p0), (.ref p0)]))
            obtain ⟨T182, X182, e182, st182⟩ := getF Y179 hx hZ hown (host := "") (Or.inl (hw _ (List.mem_of_getElem? (i := 43) rfl))) Via.refl e179 F151 (g := (mkF m 20 #[.val (.ref p0)] [(.ref p0), (.ref p0)])) rfl rfl (hb hby d10_20)
            refine Go.back st182 ?_
            show Go p.tables e below (P10 Z p0 tx vb cs zc fm h0 n0 s) (T182.setTop (mkF m 23 #[.val (.ref p0)] [(.int (2 : Int32)), (.ref p0)]))
            refine Go.back (fun t k => XS.iconst X182.here hx rfl (hb hby d10_23) k) ?_
            show Go p.tables e below (P10 Z p0 tx vb cs zc fm h0 n0 s) (T182.setTop (mkF m 24 #[.val (.ref p0)] [(.int (1 : Int32)), (.int (2 : Int32)), (.ref p0)]))
            refine Go.back (fun t k => XS.iadd X182.here hx rfl (hb hby d10_24) rfl k) ?_
            show Go p.tables e below (P10 Z p0 tx vb cs zc fm h0 n0 s) (T182.setTop (mkF m 25 #[.val (.ref p0)] [(.int ((2 : Int32) + (1 : Int32))), (.ref p0)]))
            rw [show ((2 : Int32) + (1 : Int32)) = (3 : Int32) from by decide]
            obtain ⟨T183, h183, X183, e183, W183, st183⟩ := putF X182 hx hZ hown (host := "") (Or.inl (hw _ (List.mem_of_getElem? (i := 43) rfl))) Via.refl e182 F151 F149 (Or.inl (hw _ (List.mem_of_getElem? (i := 44) rfl))) (hw _ (List.mem_of_getElem? (i := 27) rfl)) (ty := .int) (by decide) rfl rfl (g := (mkF m 25 #[.val (.ref p0)] [(.int (3 : Int32)), (.ref p0)])) rfl rfl (hb hby d10_25)
            have F184 : Exa Z h183 p0 "com/example/paylode/paylode/header/HeaderReader" := F149.wr W183
            have F185 : Fld Z h183 p0 "com/example/paylode/paylode/header/HeaderReader" "text" "Ljava/lang/String;" (.ref tx) := F150.other W183 (Or.inr (slot_ne (Or.inr (hw _ (List.mem_of_getElem? (i := 35) rfl))) (Or.inl (hw _ (List.mem_of_getElem? (i := 44) rfl))) (by decide) (t := (.object "java/lang/String")) (t' := .int) (by decide) (by decide)))
            have F186 : Fld Z h183 p0 "com/example/paylode/paylode/header/HeaderReader" "position" "I" (.int (3 : Int32)) := F151.same W183
            have F187 : Exa Z h183 tx "java/lang/String" := F152.wr W183
            have F188 : Fld Z h183 tx "java/lang/String" "coder" "B" (.int (0 : Int32)) := F153.other W183 (Or.inl H10)
            have F189 : Fld Z h183 tx "java/lang/String" "value" "[B" (.ref vb) := F154.other W183 (Or.inl H10)
            have F190 : ArL Z h183 vb .byte (List.map Value.int (List.map StrChars.lo8 cs)) := F155.other W183 H11
            have F191 : Sta Z h183 "java/lang/String" "COMPACT_STRINGS" "Z" (.int zc) := F156.wr W183
            have F192 : Sta Z h183 "jdk/internal/util/Preconditions" "SIOOBE_FORMATTER" "Ljava/util/function/BiFunction;" fm := F157.wr W183
            have F193 : n0 ≤ h183.size := Nat.le_trans F158 (Keep.of_wr W183).1
            have F194 : Keep h0 h183 [p0] := F159.wr W183 (Or.inl (List.mem_of_getElem? (i := 0) rfl))
            obtain ⟨Lo183, Y183, N183⟩ := pk X183 (Fr.snoc X183 N179 H9)
            refine Go.back st183 ?_
            show Go p.tables e below (P10 Z p0 tx vb cs zc fm h0 n0 s) (T183.setTop (mkF m 28 #[.val (.ref p0)] []))
            refine Go.back (fun t k => XS.goto Y183.here hx rfl (pc0 := 28) (pc' := 0) rfl (hb hby d10_28) (by decide) (by decide) k) ?_
            show Go p.tables e below (P10 Z p0 tx vb cs zc fm h0 n0 s) (T183.setTop (mkF m 0 #[.val (.ref p0)] []))
            refine Go.back (fun t k => XS.aloadN Y183.here hx rfl (hb hby d10_0) rfl rfl  k) ?_
            show Go p.tables e below (P10 Z p0 tx vb cs zc fm h0 n0 s) (T183.setTop (mkF m 1 #[.val (.ref p0)] [(.ref p0)]))
            refine Go.back (fun t k => XS.bipush Y183.here hx rfl (hb hby d10_1) k) ?_
            show Go p.tables e below (P10 Z p0 tx vb cs zc fm h0 n0 s) (T183.setTop (mkF m 3 #[.val (.ref p0)] [(.int (32 : Int32)), (.ref p0)]))
            obtain ⟨cq195, kq195, q195a, q195b, q195c⟩ := isOf hZ e183 F184
            obtain ⟨_, _, ⟨T195, L195, k195, n195⟩, -, X195, ⟨Lc195, hQ195, l195, y195, z195⟩, st195⟩ := Y183.virtualBack hx (y := (⟨"com/example/paylode/paylode/header/HeaderReader", "at", "(C)Z"⟩ : MethodName)) (z := (⟨"com/example/paylode/paylode/header/HeaderReader", "at", "(C)Z"⟩ : MethodName)) hown (mvT hZ (hw _ (List.mem_of_getElem? (i := 66) rfl))) (mvT hZ (hw _ (List.mem_of_getElem? (i := 67) rfl))) (notFace_of_selects (args := #[]) (mvT hZ (hw _ (List.mem_of_getElem? (i := 69) rfl)))) (mvT hZ (hw _ (List.mem_of_getElem? (i := 69) rfl))) (mvT hZ (hw _ (List.mem_of_getElem? (i := 68) rfl))) (by decide) (backOf (W := 0) (rm11 l Z a0 hw [] p0 (32 : Int32) tx vb cs zc fm (3 : Int32) h183 n0 F193 F184 F185 F186 F187 F188 F189 F190 F191 F192 hcs hp hl hfm (own_next (own_next (own_next own_pos0 hl hc129 (by decide)) hl hc145 (by decide)) hl hc180 (by decide))) hZ (hw _ (List.mem_of_getElem? (i := 70) rfl)) (hw _ (List.mem_of_getElem? (i := 28) rfl)) (by decide) (by decide)) q195a q195c (g := (mkF m 3 #[.val (.ref p0)] [(.int (32 : Int32)), (.ref p0)])) rfl (by rw [hml]; rfl) (Steps.refl _) (argsL := [(.int (32 : Int32))]) (rest := []) (lenOf pd_3 rfl) rfl (by show 2 * 0 + _ ≤ _; exact Nat.le_of_eq rfl) (hb hby d10_3) (fun _ _ => ⟨rfl, e183, (by decide : 0 + 0 ≤ _), (by decide : 0 + 0 ≤ _)⟩)
            dsimp only [Pt.U, Pt.locs, Pt.cells, Pt.slots] at X195 l195 y195 z195 st195 hQ195
            subst l195 y195 z195
            obtain ⟨rfl, N195q, e195⟩ := hQ195
            obtain ⟨Lo195, Y195, N195⟩ := pk X195 (Fr.app N183 N195q)
            refine Go.trans st195 ?_
            show Go p.tables e below (P10 Z p0 tx vb cs zc fm h0 n0 s) (T195.setTop (mkF m 6 #[.val (.ref p0)] [(.int (b2i (f11 (32 : Int32) cs (3 : Int32))))]))
            refine Go.back (fun t k => XS.ifNo Y195.here hx rfl (hb hby d10_6) rfl ((if0 _ _).trans (teq (b2i_f (own_at3 (own_next (own_next (own_next own_pos0 hl hc129 (by decide)) hl hc145 (by decide)) hl hc180 (by decide)) hl))).2) k) ?_
            show Go p.tables e below (P10 Z p0 tx vb cs zc fm h0 n0 s) (T195.setTop (mkF m 9 #[.val (.ref p0)] []))
            refine Go.back (fun t k => XS.aloadN Y195.here hx rfl (hb hby d10_9) rfl rfl  k) ?_
            show Go p.tables e below (P10 Z p0 tx vb cs zc fm h0 n0 s) (T195.setTop (mkF m 10 #[.val (.ref p0)] [(.ref p0)]))
            refine Go.back (fun t k => XS.bipush Y195.here hx rfl (hb hby d10_10) k) ?_
            show Go p.tables e below (P10 Z p0 tx vb cs zc fm h0 n0 s) (T195.setTop (mkF m 12 #[.val (.ref p0)] [(.int (9 : Int32)), (.ref p0)]))
            obtain ⟨cq196, kq196, q196a, q196b, q196c⟩ := isOf hZ e195 F184
            obtain ⟨_, _, ⟨T196, L196, k196, n196⟩, -, X196, ⟨Lc196, hQ196, l196, y196, z196⟩, st196⟩ := Y195.virtualBack hx (y := (⟨"com/example/paylode/paylode/header/HeaderReader", "at", "(C)Z"⟩ : MethodName)) (z := (⟨"com/example/paylode/paylode/header/HeaderReader", "at", "(C)Z"⟩ : MethodName)) hown (mvT hZ (hw _ (List.mem_of_getElem? (i := 66) rfl))) (mvT hZ (hw _ (List.mem_of_getElem? (i := 67) rfl))) (notFace_of_selects (args := #[]) (mvT hZ (hw _ (List.mem_of_getElem? (i := 69) rfl)))) (mvT hZ (hw _ (List.mem_of_getElem? (i := 69) rfl))) (mvT hZ (hw _ (List.mem_of_getElem? (i := 68) rfl))) (by decide) (backOf (W := 0) (rm11 l Z a0 hw [] p0 (9 : Int32) tx vb cs zc fm (3 : Int32) h183 n0 F193 F184 F185 F186 F187 F188 F189 F190 F191 F192 hcs hp hl hfm (own_next (own_next (own_next own_pos0 hl hc129 (by decide)) hl hc145 (by decide)) hl hc180 (by decide))) hZ (hw _ (List.mem_of_getElem? (i := 70) rfl)) (hw _ (List.mem_of_getElem? (i := 28) rfl)) (by decide) (by decide)) q196a q196c (g := (mkF m 12 #[.val (.ref p0)] [(.int (9 : Int32)), (.ref p0)])) rfl (by rw [hml]; rfl) (Steps.refl _) (argsL := [(.int (9 : Int32))]) (rest := []) (lenOf pd_3 rfl) rfl (by show 2 * 0 + _ ≤ _; exact Nat.le_of_eq rfl) (hb hby d10_12) (fun _ _ => ⟨rfl, e195, (by decide : 0 + 0 ≤ _), (by decide : 0 + 0 ≤ _)⟩)
            dsimp only [Pt.U, Pt.locs, Pt.cells, Pt.slots] at X196 l196 y196 z196 st196 hQ196
            subst l196 y196 z196
            obtain ⟨rfl, N196q, e196⟩ := hQ196
            obtain ⟨Lo196, Y196, N196⟩ := pk X196 (Fr.app N195 N196q)
            refine Go.trans st196 ?_
            show Go p.tables e below (P10 Z p0 tx vb cs zc fm h0 n0 s) (T196.setTop (mkF m 15 #[.val (.ref p0)] [(.int (b2i (f11 (9 : Int32) cs (3 : Int32))))]))
            refine Go.back (fun t k => XS.ifYes Y196.here hx rfl (pc0 := 15) (pc' := 31) rfl (hb hby d10_15) rfl ((if0 _ _).trans (teq (b2i_f (own_at3 (own_next (own_next (own_next own_pos0 hl hc129 (by decide)) hl hc145 (by decide)) hl hc180 (by decide)) hl))).1) (by decide) (by decide) k) ?_
            show Go p.tables e below (P10 Z p0 tx vb cs zc fm h0 n0 s) (T196.setTop (mkF m 31 #[.val (.ref p0)] []))
            exact Go.retV Y196 hx Bd.returns (hb hby d10_31) Bd.notSynchronized ⟨rfl, N196, (by rw [e196]; exact F194), (by rw [e196, r181]; exact F186), (by rw [e196]; exact F185)⟩ (by decide) (by decide)
          · have r197 := r178.trans (if_neg hc180)
            refine Go.back (fun t k => XS.ifYes Y179.here hx rfl (pc0 := 15) (pc' := 31) rfl (hb hby d10_15) rfl ((if0 _ _).trans (teq (b2i_f hc180)).1) (by decide) (by decide) k) ?_
            show Go p.tables e below (P10 Z p0 tx vb cs zc fm h0 n0 s) (T179.setTop (mkF m 31 #[.val (.ref p0)] []))
            exact Go.retV Y179 hx Bd.returns (hb hby d10_31) Bd.notSynchronized ⟨rfl, N179, (by rw [e179]; exact F159), (by rw [e179, r197]; exact F151), (by rw [e179]; exact F150)⟩ (by decide) (by decide)
      · have r198 := r130.trans (if_neg hc145)
        refine Go.back (fun t k => XS.ifNo Y144.here hx rfl (hb hby d10_6) rfl ((if0 _ _).trans (teq (b2i_f hc145)).2) k) ?_
        show Go p.tables e below (P10 Z p0 tx vb cs zc fm h0 n0 s) (T144.setTop (mkF m 9 #[.val (.ref p0)] []))
        refine Go.back (fun t k => XS.aloadN Y144.here hx rfl (hb hby d10_9) rfl rfl  k) ?_
        show Go p.tables e below (P10 Z p0 tx vb cs zc fm h0 n0 s) (T144.setTop (mkF m 10 #[.val (.ref p0)] [(.ref p0)]))
        refine Go.back (fun t k => XS.bipush Y144.here hx rfl (hb hby d10_10) k) ?_
        show Go p.tables e below (P10 Z p0 tx vb cs zc fm h0 n0 s) (T144.setTop (mkF m 12 #[.val (.ref p0)] [(.int (9 : Int32)), (.ref p0)]))
        obtain ⟨cq199, kq199, q199a, q199b, q199c⟩ := isOf hZ e144 F133
        obtain ⟨_, _, ⟨T199, L199, k199, n199⟩, -, X199, ⟨Lc199, hQ199, l199, y199, z199⟩, st199⟩ := Y144.virtualBack hx (y := (⟨"com/example/paylode/paylode/header/HeaderReader", "at", "(C)Z"⟩ : MethodName)) (z := (⟨"com/example/paylode/paylode/header/HeaderReader", "at", "(C)Z"⟩ : MethodName)) hown (mvT hZ (hw _ (List.mem_of_getElem? (i := 66) rfl))) (mvT hZ (hw _ (List.mem_of_getElem? (i := 67) rfl))) (notFace_of_selects (args := #[]) (mvT hZ (hw _ (List.mem_of_getElem? (i := 69) rfl)))) (mvT hZ (hw _ (List.mem_of_getElem? (i := 69) rfl))) (mvT hZ (hw _ (List.mem_of_getElem? (i := 68) rfl))) (by decide) (backOf (W := 0) (rm11 l Z a0 hw [] p0 (9 : Int32) tx vb cs zc fm (1 : Int32) h132 n0 F142 F133 F134 F135 F136 F137 F138 F139 F140 F141 hcs hp hl hfm (own_next own_pos0 hl hc129 (by decide))) hZ (hw _ (List.mem_of_getElem? (i := 70) rfl)) (hw _ (List.mem_of_getElem? (i := 28) rfl)) (by decide) (by decide)) q199a q199c (g := (mkF m 12 #[.val (.ref p0)] [(.int (9 : Int32)), (.ref p0)])) rfl (by rw [hml]; rfl) (Steps.refl _) (argsL := [(.int (9 : Int32))]) (rest := []) (lenOf pd_3 rfl) rfl (by show 2 * 0 + _ ≤ _; exact Nat.le_of_eq rfl) (hb hby d10_12) (fun _ _ => ⟨rfl, e144, (by decide : 0 + 0 ≤ _), (by decide : 0 + 0 ≤ _)⟩)
        dsimp only [Pt.U, Pt.locs, Pt.cells, Pt.slots] at X199 l199 y199 z199 st199 hQ199
        subst l199 y199 z199
        obtain ⟨rfl, N199q, e199⟩ := hQ199
        obtain ⟨Lo199, Y199, N199⟩ := pk X199 (Fr.app N144 N199q)
        refine Go.trans st199 ?_
        show Go p.tables e below (P10 Z p0 tx vb cs zc fm h0 n0 s) (T199.setTop (mkF m 15 #[.val (.ref p0)] [(.int (b2i (f11 (9 : Int32) cs (1 : Int32))))]))
        by_cases hc200 : (f11 (9 : Int32) cs (1 : Int32)) = true
        · have r201 := r198.trans (if_pos hc200)
          refine Go.back (fun t k => XS.ifNo Y199.here hx rfl (hb hby d10_15) rfl ((if0 _ _).trans (feq (b2i_t hc200)).1) k) ?_
          show Go p.tables e below (P10 Z p0 tx vb cs zc fm h0 n0 s) (T199.setTop (mkF m 18 #[.val (.ref p0)] []))
          refine Go.back (fun t k => XS.aloadN Y199.here hx rfl (hb hby d10_18) rfl rfl  k) ?_
          show Go p.tables e below (P10 Z p0 tx vb cs zc fm h0 n0 s) (T199.setTop (mkF m 19 #[.val (.ref p0)] [(.ref p0)]))
          refine Go.back (fun t k => XS.dup Y199.here hx rfl (hb hby d10_19) rfl rfl k) ?_
          show Go p.tables e below (P10 Z p0 tx vb cs zc fm h0 n0 s) (T199.setTop (mkF m 20 #[.val (.ref p0)] [(.ref p0), (.ref p0)]))
          obtain ⟨T202, X202, e202, st202⟩ := getF Y199 hx hZ hown (host := "") (Or.inl (hw _ (List.mem_of_getElem? (i := 43) rfl))) Via.refl e199 F135 (g := (mkF m 20 #[.val (.ref p0)] [(.ref p0), (.ref p0)])) rfl rfl (hb hby d10_20)
          refine Go.back st202 ?_
          show Go p.tables e below (P10 Z p0 tx vb cs zc fm h0 n0 s) (T202.setTop (mkF m 23 #[.val (.ref p0)] [(.int (1 : Int32)), (.ref p0)]))
          refine Go.back (fun t k => XS.iconst X202.here hx rfl (hb hby d10_23) k) ?_
          show Go p.tables e below (P10 Z p0 tx vb cs zc fm h0 n0 s) (T202.setTop (mkF m 24 #[.val (.ref p0)] [(.int (1 : Int32)), (.int (1 : Int32)), (.ref p0)]))
          refine Go.back (fun t k => XS.iadd X202.here hx rfl (hb hby d10_24) rfl k) ?_
          show Go p.tables e below (P10 Z p0 tx vb cs zc fm h0 n0 s) (T202.setTop (mkF m 25 #[.val (.ref p0)] [(.int ((1 : Int32) + (1 : Int32))), (.ref p0)]))
          rw [show ((1 : Int32) + (1 : Int32)) = (2 : Int32) from by decide]
          obtain ⟨T203, h203, X203, e203, W203, st203⟩ := putF X202 hx hZ hown (host := "") (Or.inl (hw _ (List.mem_of_getElem? (i := 43) rfl))) Via.refl e202 F135 F133 (Or.inl (hw _ (List.mem_of_getElem? (i := 44) rfl))) (hw _ (List.mem_of_getElem? (i := 27) rfl)) (ty := .int) (by decide) rfl rfl (g := (mkF m 25 #[.val (.ref p0)] [(.int (2 : Int32)), (.ref p0)])) rfl rfl (hb hby d10_25)
          have F204 : Exa Z h203 p0 "com/example/paylode/paylode/header/HeaderReader" := F133.wr W203
          have F205 : Fld Z h203 p0 "com/example/paylode/paylode/header/HeaderReader" "text" "Ljava/lang/String;" (.ref tx) := F134.other W203 (Or.inr (slot_ne (Or.inr (hw _ (List.mem_of_getElem? (i := 35) rfl))) (Or.inl (hw _ (List.mem_of_getElem? (i := 44) rfl))) (by decide) (t := (.object "java/lang/String")) (t' := .int) (by decide) (by decide)))
          have F206 : Fld Z h203 p0 "com/example/paylode/paylode/header/HeaderReader" "position" "I" (.int (2 : Int32)) := F135.same W203
          have F207 : Exa Z h203 tx "java/lang/String" := F136.wr W203
          have F208 : Fld Z h203 tx "java/lang/String" "coder" "B" (.int (0 : Int32)) := F137.other W203 (Or.inl H10)
          have F209 : Fld Z h203 tx "java/lang/String" "value" "[B" (.ref vb) := F138.other W203 (Or.inl H10)
          have F210 : ArL Z h203 vb .byte (List.map Value.int (List.map StrChars.lo8 cs)) := F139.other W203 H11
          have F211 : Sta Z h203 "java/lang/String" "COMPACT_STRINGS" "Z" (.int zc) := F140.wr W203
          have F212 : Sta Z h203 "jdk/internal/util/Preconditions" "SIOOBE_FORMATTER" "Ljava/util/function/BiFunction;" fm := F141.wr W203
          have F213 : n0 ≤ h203.size := Nat.le_trans F142 (Keep.of_wr W203).1
          have F214 : Keep h0 h203 [p0] := F143.wr W203 (Or.inl (List.mem_of_getElem? (i := 0) rfl))
          obtain ⟨Lo203, Y203, N203⟩ := pk X203 (Fr.snoc X203 N199 H9)
          refine Go.back st203 ?_
          show Go p.tables e below (P10 Z p0 tx vb cs zc fm h0 n0 s) (T203.setTop (mkF m 28 #[.val (.ref p0)] []))
          refine Go.back (fun t k => XS.goto Y203.here hx rfl (pc0 := 28) (pc' := 0) rfl (hb hby d10_28) (by decide) (by decide) k) ?_
          show Go p.tables e below (P10 Z p0 tx vb cs zc fm h0 n0 s) (T203.setTop (mkF m 0 #[.val (.ref p0)] []))
          refine Go.back (fun t k => XS.aloadN Y203.here hx rfl (hb hby d10_0) rfl rfl  k) ?_
          show Go p.tables e below (P10 Z p0 tx vb cs zc fm h0 n0 s) (T203.setTop (mkF m 1 #[.val (.ref p0)] [(.ref p0)]))
          refine Go.back (fun t k => XS.bipush Y203.here hx rfl (hb hby d10_1) k) ?_
          show Go p.tables e below (P10 Z p0 tx vb cs zc fm h0 n0 s) (T203.setTop (mkF m 3 #[.val (.ref p0)] [(.int (32 : Int32)), (.ref p0)]))
          obtain ⟨cq215, kq215, q215a, q215b, q215c⟩ := isOf hZ e203 F204
          obtain ⟨_, _, ⟨T215, L215, k215, n215⟩, -, X215, ⟨Lc215, hQ215, l215, y215, z215⟩, st215⟩ := Y203.virtualBack hx (y := (⟨"com/example/paylode/paylode/header/HeaderReader", "at", "(C)Z"⟩ : MethodName)) (z := (⟨"com/example/paylode/paylode/header/HeaderReader", "at", "(C)Z"⟩ : MethodName)) hown (mvT hZ (hw _ (List.mem_of_getElem? (i := 66) rfl))) (mvT hZ (hw _ (List.mem_of_getElem? (i := 67) rfl))) (notFace_of_selects (args := #[]) (mvT hZ (hw _ (List.mem_of_getElem? (i := 69) rfl)))) (mvT hZ (hw _ (List.mem_of_getElem? (i := 69) rfl))) (mvT hZ (hw _ (List.mem_of_getElem? (i := 68) rfl))) (by decide) (backOf (W := 0) (rm11 l Z a0 hw [] p0 (32 : Int32) tx vb cs zc fm (2 : Int32) h203 n0 F213 F204 F205 F206 F207 F208 F209 F210 F211 F212 hcs hp hl hfm (own_next (own_next own_pos0 hl hc129 (by decide)) hl hc200 (by decide))) hZ (hw _ (List.mem_of_getElem? (i := 70) rfl)) (hw _ (List.mem_of_getElem? (i := 28) rfl)) (by decide) (by decide)) q215a q215c (g := (mkF m 3 #[.val (.ref p0)] [(.int (32 : Int32)), (.ref p0)])) rfl (by rw [hml]; rfl) (Steps.refl _) (argsL := [(.int (32 : Int32))]) (rest := []) (lenOf pd_3 rfl) rfl (by show 2 * 0 + _ ≤ _; exact Nat.le_of_eq rfl) (hb hby d10_3) (fun _ _ => ⟨rfl, e203, (by decide : 0 + 0 ≤ _), (by decide : 0 + 0 ≤ _)⟩)
          dsimp only [Pt.U, Pt.locs, Pt.cells, Pt.slots] at X215 l215 y215 z215 st215 hQ215
          subst l215 y215 z215
          obtain ⟨rfl, N215q, e215⟩ := hQ215
          obtain ⟨Lo215, Y215, N215⟩ := pk X215 (Fr.app N203 N215q)
          refine Go.trans st215 ?_
          show Go p.tables e below (P10 Z p0 tx vb cs zc fm h0 n0 s) (T215.setTop (mkF m 6 #[.val (.ref p0)] [(.int (b2i (f11 (32 : Int32) cs (2 : Int32))))]))
          by_cases hc216 : (f11 (32 : Int32) cs (2 : Int32)) = true
          · have r217 := r201.trans (if_pos hc216)
            refine Go.back (fun t k => XS.ifYes Y215.here hx rfl (pc0 := 6) (pc' := 18) rfl (hb hby d10_6) rfl ((if0 _ _).trans (feq (b2i_t hc216)).2) (by decide) (by decide) k) ?_
            show Go p.tables e below (P10 Z p0 tx vb cs zc fm h0 n0 s) (T215.setTop (mkF m 18 #[.val (.ref p0)] []))
            refine Go.back (fun t k => XS.aloadN Y215.here hx rfl (hb hby d10_18) rfl rfl  k) ?_
            show Go p.tables e below (P10 Z p0 tx vb cs zc fm h0 n0 s) (T215.setTop (mkF m 19 #[.val (.ref p0)] [(.ref p0)]))
            refine Go.back (fun t k => XS.dup Y215.here hx rfl (hb hby d10_19) rfl rfl k) ?_
            show Go p.tables e below (P10 Z p0 tx vb cs zc fm h0 n0 s) (T215.setTop (mkF m 20 #[.val (.ref p0)] [(.ref p0), (.ref p0)]))
            obtain ⟨T218, X218, e218, st218⟩ := getF Y215 hx hZ hown (host := "") (Or.inl (hw _ (List.mem_of_getElem? (i := 43) rfl))) Via.refl e215 F206 (g := (mkF m 20 #[.val (.ref p0)] [(.ref p0), (.ref p0)])) rfl rfl (hb hby d10_20)
            refine Go.back st218 ?_
            show Go p.tables e below (P10 Z p0 tx vb cs zc fm h0 n0 s) (T218.setTop (mkF m 23 #[.val (.ref p0)] [(.int (2 : Int32)), (.ref p0)]))
            refine Go.back (fun t k => XS.iconst X218.here hx rfl (hb hby d10_23) k) ?_
            show Go p.tables e below (P10 Z p0 tx vb cs zc fm h0 n0 s) (T218.setTop (mkF m 24 #[.val (.ref p0)] [(.int (1 : Int32)), (.int (2 : Int32)), (.ref p0)]))
            refine Go.back (fun t k => XS.iadd X218.here hx rfl (hb hby d10_24) rfl k) ?_
            show Go p.tables e below (P10 Z p0 tx vb cs zc fm h0 n0 s) (T218.setTop (mkF m 25 #[.val (.ref p0)] [(.int ((2 : Int32) + (1 : Int32))), (.ref p0)]))
            rw [show ((2 : Int32) + (1 : Int32)) = (3 : Int32) from by decide]
            obtain ⟨T219, h219, X219, e219, W219, st219⟩ := putF X218 hx hZ hown (host := "") (Or.inl (hw _ (List.mem_of_getElem? (i := 43) rfl))) Via.refl e218 F206 F204 (Or.inl (hw _ (List.mem_of_getElem? (i := 44) rfl))) (hw _ (List.mem_of_getElem? (i := 27) rfl)) (ty := .int) (by decide) rfl rfl (g := (mkF m 25 #[.val (.ref p0)] [(.int (3 : Int32)), (.ref p0)])) rfl rfl (hb hby d10_25)
            have F220 : Exa Z h219 p0 "com/example/paylode/paylode/header/HeaderReader" := F204.wr W219
            have F221 : Fld Z h219 p0 "com/example/paylode/paylode/header/HeaderReader" "text" "Ljava/lang/String;" (.ref tx) := F205.other W219 (Or.inr (slot_ne (Or.inr (hw _ (List.mem_of_getElem? (i := 35) rfl))) (Or.inl (hw _ (List.mem_of_getElem? (i := 44) rfl))) (by decide) (t := (.object "java/lang/String")) (t' := .int) (by decide) (by decide)))
            have F222 : Fld Z h219 p0 "com/example/paylode/paylode/header/HeaderReader" "position" "I" (.int (3 : Int32)) := F206.same W219
            have F223 : Exa Z h219 tx "java/lang/String" := F207.wr W219
            have F224 : Fld Z h219 tx "java/lang/String" "coder" "B" (.int (0 : Int32)) := F208.other W219 (Or.inl H10)
            have F225 : Fld Z h219 tx "java/lang/String" "value" "[B" (.ref vb) := F209.other W219 (Or.inl H10)
            have F226 : ArL Z h219 vb .byte (List.map Value.int (List.map StrChars.lo8 cs)) := F210.other W219 H11
            have F227 : Sta Z h219 "java/lang/String" "COMPACT_STRINGS" "Z" (.int zc) := F211.wr W219
            have F228 : Sta Z h219 "jdk/internal/util/Preconditions" "SIOOBE_FORMATTER" "Ljava/util/function/BiFunction;" fm := F212.wr W219
            have F229 : n0 ≤ h219.size := Nat.le_trans F213 (Keep.of_wr W219).1
            have F230 : Keep h0 h219 [p0] := F214.wr W219 (Or.inl (List.mem_of_getElem? (i := 0) rfl))
            obtain ⟨Lo219, Y219, N219⟩ := pk X219 (Fr.snoc X219 N215 H9)
            refine Go.back st219 ?_
            show Go p.tables e below (P10 Z p0 tx vb cs zc fm h0 n0 s) (T219.setTop (mkF m 28 #[.val (.ref p0)] []))
            refine Go.back (fun t k => XS.goto Y219.here hx rfl (pc0 := 28) (pc' := 0) rfl (hb hby d10_28) (by decide) (by decide) k) ?_
            show Go p.tables e below (P10 Z p0 tx vb cs zc fm h0 n0 s) (T219.setTop (mkF m 0 #[.val (.ref p0)] []))
            refine Go.back (fun t k => XS.aloadN Y219.here hx rfl (hb hby d10_0) rfl rfl  k) ?_
            show Go p.tables e below (P10 Z p0 tx vb cs zc fm h0 n0 s) (T219.setTop (mkF m 1 #[.val (.ref p0)] [(.ref p0)]))
            refine Go.back (fun t k => XS.bipush Y219.here hx rfl (hb hby d10_1) k) ?_
            show Go p.tables e below (P10 Z p0 tx vb cs zc fm h0 n0 s) (T219.setTop (mkF m 3 #[.val (.ref p0)] [(.int (32 : Int32)), (.ref p0)]))
            obtain ⟨cq231, kq231, q231a, q231b, q231c⟩ := isOf hZ e219 F220
            obtain ⟨_, _, ⟨T231, L231, k231, n231⟩, -, X231, ⟨Lc231, hQ231, l231, y231, z231⟩, st231⟩ := Y219.virtualBack hx (y := (⟨"com/example/paylode/paylode/header/HeaderReader", "at", "(C)Z"⟩ : MethodName)) (z := (⟨"com/example/paylode/paylode/header/HeaderReader", "at", "(C)Z"⟩ : MethodName)) hown (mvT hZ (hw _ (List.mem_of_getElem? (i := 66) rfl))) (mvT hZ (hw _ (List.mem_of_getElem? (i := 67) rfl))) (notFace_of_selects (args := #[]) (mvT hZ (hw _ (List.mem_of_getElem? (i := 69) rfl)))) (mvT hZ (hw _ (List.mem_of_getElem? (i := 69) rfl))) (mvT hZ (hw _ (List.mem_of_getElem? (i := 68) rfl))) (by decide) (backOf (W := 0) (rm11 l Z a0 hw [] p0 (32 : Int32) tx vb cs zc fm (3 : Int32) h219 n0 F229 F220 F221 F222 F223 F224 F225 F226 F227 F228 hcs hp hl hfm (own_next (own_next (own_next own_pos0 hl hc129 (by decide)) hl hc200 (by decide)) hl hc216 (by decide))) hZ (hw _ (List.mem_of_getElem? (i := 70) rfl)) (hw _ (List.mem_of_getElem? (i := 28) rfl)) (by decide) (by decide)) q231a q231c (g := (mkF m 3 #[.val (.ref p0)] [(.int (32 : Int32)), (.ref p0)])) rfl (by rw [hml]; rfl) (Steps.refl _) (argsL := [(.int (32 : Int32))]) (rest := []) (lenOf pd_3 rfl) rfl (by show 2 * 0 + _ ≤ _; exact Nat.le_of_eq rfl) (hb hby d10_3) (fun _ _ => ⟨rfl, e219, (by decide : 0 + 0 ≤ _), (by decide : 0 + 0 ≤ _)⟩)
            dsimp only [Pt.U, Pt.locs, Pt.cells, Pt.slots] at X231 l231 y231 z231 st231 hQ231
            subst l231 y231 z231
            obtain ⟨rfl, N231q, e231⟩ := hQ231
            obtain ⟨Lo231, Y231, N231⟩ := pk X231 (Fr.app N219 N231q)
            refine Go.trans st231 ?_
            show Go p.tables e below (P10 Z p0 tx vb cs zc fm h0 n0 s) (T231.setTop (mkF m 6 #[.val (.ref p0)] [(.int (b2i (f11 (32 : Int32) cs (3 : Int32))))]))
            refine Go.back (fun t k => XS.ifNo Y231.here hx rfl (hb hby d10_6) rfl ((if0 _ _).trans (teq (b2i_f (own_at3 (own_next (own_next (own_next own_pos0 hl hc129 (by decide)) hl hc200 (by decide)) hl hc216 (by decide)) hl))).2) k) ?_
            show Go p.tables e below (P10 Z p0 tx vb cs zc fm h0 n0 s) (T231.setTop (mkF m 9 #[.val (.ref p0)] []))
            refine Go.back (fun t k => XS.aloadN Y231.here hx rfl (hb hby d10_9) rfl rfl  k) ?_
            show Go p.tables e below (P10 Z p0 tx vb cs zc fm h0 n0 s) (T231.setTop (mkF m 10 #[.val (.ref p0)] [(.ref p0)]))
            refine Go.back (fun t k => XS.bipush Y231.here hx rfl (hb hby d10_10) k) ?_
            show Go p.tables e below (P10 Z p0 tx vb cs zc fm h0 n0 s) (T231.setTop (mkF m 12 #[.val (.ref p0)] [(.int (9 : Int32)), (.ref p0)]))
            obtain ⟨cq232, kq232, q232a, q232b, q232c⟩ := isOf hZ e231 F220
            obtain ⟨_, _, ⟨T232, L232, k232, n232⟩, -, X232, ⟨Lc232, hQ232, l232, y232, z232⟩, st232⟩ := Y231.virtualBack hx (y := (⟨"com/example/paylode/paylode/header/HeaderReader", "at", "(C)Z"⟩ : MethodName)) (z := (⟨"com/example/paylode/paylode/header/HeaderReader", "at", "(C)Z"⟩ : MethodName)) hown (mvT hZ (hw _ (List.mem_of_getElem? (i := 66) rfl))) (mvT hZ (hw _ (List.mem_of_getElem? (i := 67) rfl))) (notFace_of_selects (args := #[]) (mvT hZ (hw _ (List.mem_of_getElem? (i := 69) rfl)))) (mvT hZ (hw _ (List.mem_of_getElem? (i := 69) rfl))) (mvT hZ (hw _ (List.mem_of_getElem? (i := 68) rfl))) (by decide) (backOf (W := 0) (rm11 l Z a0 hw [] p0 (9 : Int32) tx vb cs zc fm (3 : Int32) h219 n0 F229 F220 F221 F222 F223 F224 F225 F226 F227 F228 hcs hp hl hfm (own_next (own_next (own_next own_pos0 hl hc129 (by decide)) hl hc200 (by decide)) hl hc216 (by decide))) hZ (hw _ (List.mem_of_getElem? (i := 70) rfl)) (hw _ (List.mem_of_getElem? (i := 28) rfl)) (by decide) (by decide)) q232a q232c (g := (mkF m 12 #[.val (.ref p0)] [(.int (9 : Int32)), (.ref p0)])) rfl (by rw [hml]; rfl) (Steps.refl _) (argsL := [(.int (9 : Int32))]) (rest := []) (lenOf pd_3 rfl) rfl (by show 2 * 0 + _ ≤ _; exact Nat.le_of_eq rfl) (hb hby d10_12) (fun _ _ => ⟨rfl, e231, (by decide : 0 + 0 ≤ _), (by decide : 0 + 0 ≤ _)⟩)
            dsimp only [Pt.U, Pt.locs, Pt.cells, Pt.slots] at X232 l232 y232 z232 st232 hQ232
            subst l232 y232 z232
            obtain ⟨rfl, N232q, e232⟩ := hQ232
            obtain ⟨Lo232, Y232, N232⟩ := pk X232 (Fr.app N231 N232q)
            refine Go.trans st232 ?_
            show Go p.tables e below (P10 Z p0 tx vb cs zc fm h0 n0 s) (T232.setTop (mkF m 15 #[.val (.ref p0)] [(.int (b2i (f11 (9 : Int32) cs (3 : Int32))))]))
            refine Go.back (fun t k => XS.ifYes Y232.here hx rfl (pc0 := 15) (pc' := 31) rfl (hb hby d10_15) rfl ((if0 _ _).trans (teq (b2i_f (own_at3 (own_next (own_next (own_next own_pos0 hl hc129 (by decide)) hl hc200 (by decide)) hl hc216 (by decide)) hl))).1) (by decide) (by decide) k) ?_
            show Go p.tables e below (P10 Z p0 tx vb cs zc fm h0 n0 s) (T232.setTop (mkF m 31 #[.val (.ref p0)] []))
            exact Go.retV Y232 hx Bd.returns (hb hby d10_31) Bd.notSynchronized ⟨rfl, N232, (by rw [e232]; exact F230), (by rw [e232, r217]; exact F222), (by rw [e232]; exact F221)⟩ (by decide) (by decide)
          · have r233 := r201.trans (if_neg hc216)
            refine Go.back (fun t k => XS.ifNo Y215.here hx rfl (hb hby d10_6) rfl ((if0 _ _).trans (teq (b2i_f hc216)).2) k) ?_
            show Go p.tables e below (P10 Z p0 tx vb cs zc fm h0 n0 s) (T215.setTop (mkF m 9 #[.val (.ref p0)] []))
            refine Go.back (fun t k => XS.aloadN Y215.here hx rfl (hb hby d10_9) rfl rfl  k) ?_
            show Go p.tables e below (P10 Z p0 tx vb cs zc fm h0 n0 s) (T215.setTop (mkF m 10 #[.val (.ref p0)] [(.ref p0)]))
            refine Go.back (fun t k => XS.bipush Y215.here hx rfl (hb hby d10_10) k) ?_
            show Go p.tables e below (P10 Z p0 tx vb cs zc fm h0 n0 s) (T215.setTop (mkF m 12 #[.val (.ref p0)] [(.int (9 : Int32)), (.ref p0)]))
            obtain ⟨cq234, kq234, q234a, q234b, q234c⟩ := isOf hZ e215 F204
            obtain ⟨_, _, ⟨T234, L234, k234, n234⟩, -, X234, ⟨Lc234, hQ234, l234, y234, z234⟩, st234⟩ := Y215.virtualBack hx (y := (⟨"com/example/paylode/paylode/header/HeaderReader", "at", "(C)Z"⟩ : MethodName)) (z := (⟨"com/example/paylode/paylode/header/HeaderReader", "at", "(C)Z"⟩ : MethodName)) hown (mvT hZ (hw _ (List.mem_of_getElem? (i := 66) rfl))) (mvT hZ (hw _ (List.mem_of_getElem? (i := 67) rfl))) (notFace_of_selects (args := #[]) (mvT hZ (hw _ (List.mem_of_getElem? (i := 69) rfl)))) (mvT hZ (hw _ (List.mem_of_getElem? (i := 69) rfl))) (mvT hZ (hw _ (List.mem_of_getElem? (i := 68) rfl))) (by decide) (backOf (W := 0) (rm11 l Z a0 hw [] p0 (9 : Int32) tx vb cs zc fm (2 : Int32) h203 n0 F213 F204 F205 F206 F207 F208 F209 F210 F211 F212 hcs hp hl hfm (own_next (own_next own_pos0 hl hc129 (by decide)) hl hc200 (by decide))) hZ (hw _ (List.mem_of_getElem? (i := 70) rfl)) (hw _ (List.mem_of_getElem? (i := 28) rfl)) (by decide) (by decide)) q234a q234c (g := (mkF m 12 #[.val (.ref p0)] [(.int (9 : Int32)), (.ref p0)])) rfl (by rw [hml]; rfl) (Steps.refl _) (argsL := [(.int (9 : Int32))]) (rest := []) (lenOf pd_3 rfl) rfl (by show 2 * 0 + _ ≤ _; exact Nat.le_of_eq rfl) (hb hby d10_12) (fun _ _ => ⟨rfl, e215, (by decide : 0 + 0 ≤ _), (by decide : 0 + 0 ≤ _)⟩)
            dsimp only [Pt.U, Pt.locs, Pt.cells, Pt.slots] at X234 l234 y234 z234 st234 hQ234
            subst l234 y234 z234
            obtain ⟨rfl, N234q, e234⟩ := hQ234
            obtain ⟨Lo234, Y234, N234⟩ := pk X234 (Fr.app N215 N234q)
            refine Go.trans st234 ?_
            show Go p.tables e below (P10 Z p0 tx vb cs zc fm h0 n0 s) (T234.setTop (mkF m 15 #[.val (.ref p0)] [(.int (b2i (f11 (9 : Int32) cs (2 : Int32))))]))
            by_cases hc235 : (f11 (9 : Int32) cs (2 : Int32)) = true
            · have r236 := r233.trans (if_pos hc235)
              refine Go.back (fun t k => XS.ifNo Y234.here hx rfl (hb hby d10_15) rfl ((if0 _ _).trans (feq (b2i_t hc235)).1) k) ?_
              show Go p.tables e below (P10 Z p0 tx vb cs zc fm h0 n0 s) (T234.setTop (mkF m 18 #[.val (.ref p0)] []))
              refine Go.back (fun t k => XS.aloadN Y234.here hx rfl (hb hby d10_18) rfl rfl  k) ?_
              show Go p.tables e below (P10 Z p0 tx vb cs zc fm h0 n0 s) (T234.setTop (mkF m 19 #[.val (.ref p0)] [(.ref p0)]))
              refine Go.back (fun t k => XS.dup Y234.here hx rfl (hb hby d10_19) rfl rfl k) ?_
              show Go p.tables e below (P10 Z p0 tx vb cs zc fm h0 n0 s) (T234.setTop (mkF m 20 #[.val (.ref p0)] [(.ref p0), (.ref p0)]))
              obtain ⟨T237, X237, e237, st237⟩ := getF Y234 hx hZ hown (host := "") (Or.inl (hw _ (List.mem_of_getElem? (i := 43) rfl))) Via.refl e234 F206 (g := (mkF m 20 #[.val (.ref p0)] [(.ref p0), (.ref p0)])) rfl rfl (hb hby d10_20)
              refine Go.back st237 ?_
              show Go p.tables e below (P10 Z p0 tx vb cs zc fm h0 n0 s) (T237.setTop (mkF m 23 #[.val (.ref p0)] [(.int (2 : Int32)), (.ref p0)]))
              refine Go.back (fun t k => XS.iconst X237.here hx rfl (hb hby d10_23) k) ?_
              show Go p.tables e below (P10 Z p0 tx vb cs zc fm h0 n0 s) (T237.setTop (mkF m 24 #[.val (.ref p0)] [(.int (1 : Int32)), (.int (2 : Int32)), (.ref p0)]))
              refine Go.back (fun t k => XS.iadd X237.here hx rfl (hb hby d10_24) rfl k) ?_
              show Go p.tables e below (P10 Z p0 tx vb cs zc fm h0 n0 s) (T237.setTop (mkF m 25 #[.val (.ref p0)] [(.int ((2 : Int32) + (1 : Int32))), (.ref p0)]))
              rw [show ((2 : Int32) + (1 : Int32)) = (3 : Int32) from by decide]
              obtain ⟨T238, h238, X238, e238, W238, st238⟩ := putF X237 hx hZ hown (host := "") (Or.inl (hw _ (List.mem_of_getElem? (i := 43) rfl))) Via.refl e237 F206 F204 (Or.inl (hw _ (List.mem_of_getElem? (i := 44) rfl))) (hw _ (List.mem_of_getElem? (i := 27) rfl)) (ty := .int) (by decide) rfl rfl (g := (mkF m 25 #[.val (.ref p0)] [(.int (3 : Int32)), (.ref p0)])) rfl rfl (hb hby d10_25)
              have F239 : Exa Z h238 p0 "com/example/paylode/paylode/header/HeaderReader" := F204.wr W238
              have F240 : Fld Z h238 p0 "com/example/paylode/paylode/header/HeaderReader" "text" "Ljava/lang/String;" (.ref tx) := F205.other W238 (Or.inr (slot_ne (Or.inr (hw _ (List.mem_of_getElem? (i := 35) rfl))) (Or.inl (hw _ (List.mem_of_getElem? (i := 44) rfl))) (by decide) (t := (.object "java/lang/String")) (t' := .int) (by decide) (by decide)))
              have F241 : Fld Z h238 p0 "com/example/paylode/paylode/header/HeaderReader" "position" "I" (.int (3 : Int32)) := F206.same W238
              have F242 : Exa Z h238 tx "java/lang/String" := F207.wr W238
              have F243 : Fld Z h238 tx "java/lang/String" "coder" "B" (.int (0 : Int32)) := F208.other W238 (Or.inl H10)
              have F244 : Fld Z h238 tx "java/lang/String" "value" "[B" (.ref vb) := F209.other W238 (Or.inl H10)
              have F245 : ArL Z h238 vb .byte (List.map Value.int (List.map StrChars.lo8 cs)) := F210.other W238 H11
              have F246 : Sta Z h238 "java/lang/String" "COMPACT_STRINGS" "Z" (.int zc) := F211.wr W238
              have F247 : Sta Z h238 "jdk/internal/util/Preconditions" "SIOOBE_FORMATTER" "Ljava/util/function/BiFunction;" fm := F212.wr W238
              have F248 : n0 ≤ h238.size := Nat.le_trans F213 (Keep.of_wr W238).1
              have F249 : Keep h0 h238 [p0] := F214.wr W238 (Or.inl (List.mem_of_getElem? (i := 0) rfl))
              obtain ⟨Lo238, Y238, N238⟩ := pk X238 (Fr.snoc X238 N234 H9)
              refine Go.back st238 ?_
              show Go p.tables e below (P10 Z p0 tx vb cs zc fm h0 n0 s) (T238.setTop (mkF m 28 #[.val (.ref p0)] []))
              refine Go.back (fun t k => XS.goto Y238.here hx rfl (pc0 := 28) (pc' := 0) rfl (hb hby d10_28) (by decide) (by decide) k) ?_
              show Go p.tables e below (P10 Z p0 tx vb cs zc fm h0 n0 s) (T238.setTop (mkF m 0 #[.val (.ref p0)] []))
              refine Go.back (fun t k => XS.aloadN Y238.here hx rfl (hb hby d10_0) rfl rfl  k) ?_
              show Go p.tables e below (P10 Z p0 tx vb cs zc fm h0 n0 s) (T238.setTop (mkF m 1 #[.val (.ref p0)] [(.ref p0)]))
              refine Go.back (fun t k => XS.bipush Y238.here hx rfl (hb hby d10_1) k) ?_
              show Go p.tables e below (P10 Z p0 tx vb cs zc fm h0 n0 s) (T238.setTop (mkF m 3 #[.val (.ref p0)] [(.int (32 : Int32)), (.ref p0)]))
              obtain ⟨cq250, kq250, q250a, q250b, q250c⟩ := isOf hZ e238 F239
              obtain ⟨_, _, ⟨T250, L250, k250, n250⟩, -, X250, ⟨Lc250, hQ250, l250, y250, z250⟩, st250⟩ := Y238.virtualBack hx (y := (⟨"com/example/paylode/paylode/header/HeaderReader", "at", "(C)Z"⟩ : MethodName)) (z := (⟨"com/example/paylode/paylode/header/HeaderReader", "at", "(C)Z"⟩ : MethodName)) hown (mvT hZ (hw _ (List.mem_of_getElem? (i := 66) rfl))) (mvT hZ (hw _ (List.mem_of_getElem? (i := 67) rfl))) (notFace_of_selects (args := #[]) (mvT hZ (hw _ (List.mem_of_getElem? (i := 69) rfl)))) (mvT hZ (hw _ (List.mem_of_getElem? (i := 69) rfl))) (mvT hZ (hw _ (List.mem_of_getElem? (i := 68) rfl))) (by decide) (backOf (W := 0) (rm11 l Z a0 hw [] p0 (32 : Int32) tx vb cs zc fm (3 : Int32) h238 n0 F248 F239 F240 F241 F242 F243 F244 F245 F246 F247 hcs hp hl hfm (own_next (own_next (own_next own_pos0 hl hc129 (by decide)) hl hc200 (by decide)) hl hc235 (by decide))) hZ (hw _ (List.mem_of_getElem? (i := 70) rfl)) (hw _ (List.mem_of_getElem? (i := 28) rfl)) (by decide) (by decide)) q250a q250c (g := (mkF m 3 #[.val (.ref p0)] [(.int (32 : Int32)), (.ref p0)])) rfl (by rw [hml]; rfl) (Steps.refl _) (argsL := [(.int (32 : Int32))]) (rest := []) (lenOf pd_3 rfl) rfl (by show 2 * 0 + _ ≤ _; exact Nat.le_of_eq rfl) (hb hby d10_3) (fun _ _ => ⟨rfl, e238, (by decide : 0 + 0 ≤ _), (by decide : 0 + 0 ≤ _)⟩)
              dsimp only [Pt.U, Pt.locs, Pt.cells, Pt.slots] at X250 l250 y250 z250 st250 hQ250
              subst l250 y250 z250
              obtain ⟨rfl, N250q, e250⟩ := hQ250
              obtain ⟨Lo250, Y250, N250⟩ := pk X250 (Fr.app N238 N250q)
              refine Go.trans st250 ?_
              show Go p.tables e below (P10 Z p0 tx vb cs zc fm h0 n0 s) (T250.setTop (mkF m 6 #[.val (.ref p0)] [(.int (b2i (f11 (32 : Int32) cs (3 : Int32))))]))
              refine Go.back (fun t k => XS.ifNo Y250.here hx rfl (hb hby d10_6) rfl ((if0 _ _).trans (teq (b2i_f (own_at3 (own_next (own_next (own_next own_pos0 hl hc129 (by decide)) hl hc200 (by decide)) hl hc235 (by decide)) hl))).2) k) ?_
              show Go p.tables e below (P10 Z p0 tx vb cs zc fm h0 n0 s) (T250.setTop (mkF m 9 #[.val (.ref p0)] []))
              refine Go.back (fun t k => XS.aloadN Y250.here hx rfl (hb hby d10_9) rfl rfl  k) ?_
              show Go p.tables e below (P10 Z p0 tx vb cs zc fm h0 n0 s) (T250.setTop (mkF m 10 #[.val (.ref p0)] [(.ref p0)]))
              refine Go.back (fun t k => XS.bipush Y250.here hx rfl (hb hby d10_10) k) ?_
              show Go p.tables e below (P10 Z p0 tx vb cs zc fm h0 n0 s) (T250.setTop (mkF m 12 #[.val (.ref p0)] [(.int (9 : Int32)), (.ref p0)]))
              obtain ⟨cq251, kq251, q251a, q251b, q251c⟩ := isOf hZ e250 F239
              obtain ⟨_, _, ⟨T251, L251, k251, n251⟩, -, X251, ⟨Lc251, hQ251, l251, y251, z251⟩, st251⟩ := Y250.virtualBack hx (y := (⟨"com/example/paylode/paylode/header/HeaderReader", "at", "(C)Z"⟩ : MethodName)) (z := (⟨"com/example/paylode/paylode/header/HeaderReader", "at", "(C)Z"⟩ : MethodName)) hown (mvT hZ (hw _ (List.mem_of_getElem? (i := 66) rfl))) (mvT hZ (hw _ (List.mem_of_getElem? (i := 67) rfl))) (notFace_of_selects (args := #[]) (mvT hZ (hw _ (List.mem_of_getElem? (i := 69) rfl)))) (mvT hZ (hw _ (List.mem_of_getElem? (i := 69) rfl))) (mvT hZ (hw _ (List.mem_of_getElem? (i := 68) rfl))) (by decide) (backOf (W := 0) (rm11 l Z a0 hw [] p0 (9 : Int32) tx vb cs zc fm (3 : Int32) h238 n0 F248 F239 F240 F241 F242 F243 F244 F245 F246 F247 hcs hp hl hfm (own_next (own_next (own_next own_pos0 hl hc129 (by decide)) hl hc200 (by decide)) hl hc235 (by decide))) hZ (hw _ (List.mem_of_getElem? (i := 70) rfl)) (hw _ (List.mem_of_getElem? (i := 28) rfl)) (by decide) (by decide)) q251a q251c (g := (mkF m 12 #[.val (.ref p0)] [(.int (9 : Int32)), (.ref p0)])) rfl (by rw [hml]; rfl) (Steps.refl _) (argsL := [(.int (9 : Int32))]) (rest := []) (lenOf pd_3 rfl) rfl (by show 2 * 0 + _ ≤ _; exact Nat.le_of_eq rfl) (hb hby d10_12) (fun _ _ => ⟨rfl, e250, (by decide : 0 + 0 ≤ _), (by decide : 0 + 0 ≤ _)⟩)
              dsimp only [Pt.U, Pt.locs, Pt.cells, Pt.slots] at X251 l251 y251 z251 st251 hQ251
              subst l251 y251 z251
              obtain ⟨rfl, N251q, e251⟩ := hQ251
              obtain ⟨Lo251, Y251, N251⟩ := pk X251 (Fr.app N250 N251q)
              refine Go.trans st251 ?_
              show Go p.tables e below (P10 Z p0 tx vb cs zc fm h0 n0 s) (T251.setTop (mkF m 15 #[.val (.ref p0)] [(.int (b2i (f11 (9 : Int32) cs (3 : Int32))))]))
              refine Go.back (fun t k => XS.ifYes Y251.here hx rfl (pc0 := 15) (pc' := 31) rfl (hb hby d10_15) rfl ((if0 _ _).trans (teq (b2i_f (own_at3 (own_next (own_next (own_next own_pos0 hl hc129 (by decide)) hl hc200 (by decide)) hl hc235 (by decide)) hl))).1) (by decide) (by decide) k) ?_
              show Go p.tables e below (P10 Z p0 tx vb cs zc fm h0 n0 s) (T251.setTop (mkF m 31 #[.val (.ref p0)] []))
              exact Go.retV Y251 hx Bd.returns (hb hby d10_31) Bd.notSynchronized ⟨rfl, N251, (by rw [e251]; exact F249), (by rw [e251, r236]; exact F241), (by rw [e251]; exact F240)⟩ (by decide) (by decide)
            · have r252 := r233.trans (if_neg hc235)
              refine Go.back (fun t k => XS.ifYes Y234.here hx rfl (pc0 := 15) (pc' := 31) rfl (hb hby d10_15) rfl ((if0 _ _).trans (teq (b2i_f hc235)).1) (by decide) (by decide) k) ?_
              show Go p.tables e below (P10 Z p0 tx vb cs zc fm h0 n0 s) (T234.setTop (mkF m 31 #[.val (.ref p0)] []))
              exact Go.retV Y234 hx Bd.returns (hb hby d10_31) Bd.notSynchronized ⟨rfl, N234, (by rw [e234]; exact F214), (by rw [e234, r252]; exact F206), (by rw [e234]; exact F205)⟩ (by decide) (by decide)
        · have r253 := r198.trans (if_neg hc200)
          refine Go.back (fun t k => XS.ifYes Y199.here hx rfl (pc0 := 15) (pc' := 31) rfl (hb hby d10_15) rfl ((if0 _ _).trans (teq (b2i_f hc200)).1) (by decide) (by decide) k) ?_
          show Go p.tables e below (P10 Z p0 tx vb cs zc fm h0 n0 s) (T199.setTop (mkF m 31 #[.val (.ref p0)] []))
          exact Go.retV Y199 hx Bd.returns (hb hby d10_31) Bd.notSynchronized ⟨rfl, N199, (by rw [e199]; exact F143), (by rw [e199, r253]; exact F135), (by rw [e199]; exact F134)⟩ (by decide) (by decide)
    · have r254 := r127.trans (if_neg hc129)
      refine Go.back (fun t k => XS.ifYes Y128.here hx rfl (pc0 := 15) (pc' := 31) rfl (hb hby d10_15) rfl ((if0 _ _).trans (teq (b2i_f hc129)).1) (by decide) (by decide) k) ?_
      show Go p.tables e below (P10 Z p0 tx vb cs zc fm h0 n0 s) (T128.setTop (mkF m 31 #[.val (.ref p0)] []))
      exact Go.retV Y128 hx Bd.returns (hb hby d10_31) Bd.notSynchronized ⟨rfl, N128, (by rw [e128]; exact (Keep.refl h0 [p0])), (by rw [e128, r254]; exact H2), (by rw [e128]; exact H1)⟩ (by decide) (by decide)
theorem d21_0 : decode prog_4_method_6_code 0 = .ok (.aload_n 0, 1) := by decide +kernel
theorem d21_1 : decode prog_4_method_6_code 1 = .ok (.iload_n 1, 1) := by decide +kernel
theorem d21_2 : decode prog_4_method_6_code 2 = .ok (.invokevirtual 34, 3) := by decide +kernel
theorem d21_5 : decode prog_4_method_6_code 5 = .ok (.ifCond .ne 18, 3) := by decide +kernel
theorem d21_23 : decode prog_4_method_6_code 23 = .ok (.aload_n 0, 1) := by decide +kernel
theorem d21_24 : decode prog_4_method_6_code 24 = .ok (.dup, 1) := by decide +kernel
theorem d21_25 : decode prog_4_method_6_code 25 = .ok (.getfield 16, 3) := by decide +kernel
theorem d21_28 : decode prog_4_method_6_code 28 = .ok (.iconst 1, 1) := by decide +kernel
theorem d21_29 : decode prog_4_method_6_code 29 = .ok (.iadd, 1) := by decide +kernel
theorem d21_30 : decode prog_4_method_6_code 30 = .ok (.putfield 16, 3) := by decide +kernel
theorem d21_33 : decode prog_4_method_6_code 33 = .ok (.return_, 1) := by decide +kernel
def Q21 (Z : State) (p0 : Addr) (p1 : Int32) (tx : Addr) (vb : Addr) (cs : List Int32) (zc : Int32) (fm : Value) (pos : Int32) (h0 : Heap) (n0 : Nat) (v : Option Value) (h : Heap) (L : List Loc) : Prop := v = none ∧ Fr n0 L ∧ Keep h0 h [p0] ∧ Fld Z h p0 "com/example/paylode/paylode/header/HeaderReader" "position" "I" (.int (pos + (1 : Int32))) ∧ Fld Z h p0 "com/example/paylode/paylode/header/HeaderReader" "text" "Ljava/lang/String;" (.ref tx)
abbrev rmm21 : Room := { frames := 5, cells := 0, slots := 0, locals := 66 }
abbrev P21 (Z : State) (p0 : Addr) (p1 : Int32) (tx : Addr) (vb : Addr) (cs : List Int32) (zc : Int32) (fm : Value) (pos : Int32) (h0 : Heap) (n0 : Nat) (s : State) : Outcome → State → Prop := fun o U' => ∃ v L, o = .returned v ∧ Q21 Z p0 p1 tx vb cs zc fm pos h0 n0 v U'.heap L ∧ FrameEnd s o U' L rmm21.cells rmm21.slots
theorem pn_21 : plainName "com/example/paylode/paylode/header/HeaderReader" = true := by first | (simp [plainName, overriddenIn]; done) | decide +kernel
theorem ef_21 (m : MethodId) (p0 : Addr) (p1 : Int32) : entryFrame m #[(.ref p0), (.int p1)] 2 = mkF m 0 #[.val (.ref p0), .val (.int p1)] [] := by first | (simp [entryFrame, mkF, argsToLocals, Value.category]; done) | rfl
set_option maxRecDepth 65536 in
set_option maxHeartbeats 40000000 in
theorem rm21 (l : Launch) (Z : State) (a0 : Array Value) (hw : ∀ d ∈ tables_1, d.before a0 Z = true) (ws : List Jvm.Cond) (p0 : Addr) (p1 : Int32) (tx : Addr) (vb : Addr) (cs : List Int32) (zc : Int32) (fm : Value) (pos : Int32) (h0 : Heap) (n0 : Nat) (Z0 : n0 ≤ h0.size) (H0 : Exa Z h0 p0 "com/example/paylode/paylode/header/HeaderReader") (H1 : Fld Z h0 p0 "com/example/paylode/paylode/header/HeaderReader" "text" "Ljava/lang/String;" (.ref tx)) (H2 : Fld Z h0 p0 "com/example/paylode/paylode/header/HeaderReader" "position" "I" (.int pos)) (H3 : Exa Z h0 tx "java/lang/String") (H4 : Fld Z h0 tx "java/lang/String" "coder" "B" (.int (0 : Int32))) (H5 : Fld Z h0 tx "java/lang/String" "value" "[B" (.ref vb)) (H6 : ArL Z h0 vb .byte (List.map Value.int (List.map StrChars.lo8 cs))) (H7 : Sta Z h0 "java/lang/String" "COMPACT_STRINGS" "Z" (.int zc)) (H8 : Sta Z h0 "jdk/internal/util/Preconditions" "SIOOBE_FORMATTER" "Ljava/util/function/BiFunction;" fm) (H9 : n0 ≤ p0) (H10 : tx ≠ p0) (H11 : vb ≠ p0) (hcs : ¬ zc = (0 : Int32)) (hp : ∀ c ∈ cs, ¬ c < 0 ∧ ¬ (255 : Int32) < c) (hl : cs.length ≤ 3) (hfm : fm.isRef = true) (hpos : own_pos pos cs) (hat : f11 p1 cs pos = true) :
    MetFree l (⟨"com/example/paylode/paylode/header/HeaderReader", "expect", "(C)V"⟩ : MethodName) (head1 (Jvm.Cond.code (⟨"com/example/paylode/paylode/header/HeaderReader", "expect", "(C)V"⟩ : MethodName) prog_4_method_6_code 2 none :: ws) rmm21) (fun a U => a = #[(.ref p0), (.int p1)] ∧ Z.Warmed39 U.vm ∧ U.heap = h0) (fun _ _ _ _ _ => True) (fun _ U o U' => ∃ v L, o = .returned v ∧ Q21 Z p0 p1 tx vb cs zc fm pos h0 n0 v U'.heap L ∧ FrameEnd U o U' L rmm21.cells rmm21.slots) := by
  refine MetFree.of_bodySF (plainFor_of_name pn_21) hisR ?_
  intro p e s m args below meth c s₁ Bd hml0 hP hK
  obtain ⟨rfl, hZ, hh⟩ := hP
  have hx := Bd.exec
  have hby := Bd.bytes
  have hml : c.maxLocals = 2 := hml0
  have hown : s.vm.findClass "com/example/paylode/paylode/header/HeaderReader" = some m.cls := findClass_of_methodNamed Bd.named
  have hnm := (name_of_methodNamed Bd.named Bd.method).1
  have X0 : Stand p l e rmm21 s m #[(.ref p0), (.int p1)] below meth c s₁ [] 0 0 := Stand.of_body Bd
  have e0 : s₁.heap = h0 := by rw [← hh, Bd.state]; rfl
  have N0 := Fr.nil n0
  show Go p.tables e below (P21 Z p0 p1 tx vb cs zc fm pos h0 n0 s) (s₁.setTop (entryFrame m #[(.ref p0), (.int p1)] 2))
  refine Go.back (fun t k => castTop (ef_21 m p0 p1) k) ?_
  show Go p.tables e below (P21 Z p0 p1 tx vb cs zc fm pos h0 n0 s) (s₁.setTop (mkF m 0 #[.val (.ref p0), .val (.int p1)] []))
  refine Go.back (fun t k => XS.aloadN X0.here hx rfl (hb hby d21_0) rfl rfl  k) ?_
  show Go p.tables e below (P21 Z p0 p1 tx vb cs zc fm pos h0 n0 s) (s₁.setTop (mkF m 1 #[.val (.ref p0), .val (.int p1)] [(.ref p0)]))
  refine Go.back (fun t k => XS.iloadN X0.here hx rfl (hb hby d21_1) rfl  k) ?_
  show Go p.tables e below (P21 Z p0 p1 tx vb cs zc fm pos h0 n0 s) (s₁.setTop (mkF m 2 #[.val (.ref p0), .val (.int p1)] [(.int p1), (.ref p0)]))
  obtain ⟨cq1, kq1, q1a, q1b, q1c⟩ := isOf hZ e0 H0
  obtain ⟨_, _, ⟨T1, L1, k1, n1⟩, -, X1, ⟨Lc1, hQ1, l1, y1, z1⟩, st1⟩ := X0.virtualBack hx (y := (⟨"com/example/paylode/paylode/header/HeaderReader", "at", "(C)Z"⟩ : MethodName)) (z := (⟨"com/example/paylode/paylode/header/HeaderReader", "at", "(C)Z"⟩ : MethodName)) hown (mvT hZ (hw _ (List.mem_of_getElem? (i := 66) rfl))) (mvT hZ (hw _ (List.mem_of_getElem? (i := 67) rfl))) (notFace_of_selects (args := #[]) (mvT hZ (hw _ (List.mem_of_getElem? (i := 69) rfl)))) (mvT hZ (hw _ (List.mem_of_getElem? (i := 69) rfl))) (mvT hZ (hw _ (List.mem_of_getElem? (i := 68) rfl))) (by decide) (backOf (W := 0) (rm11 l Z a0 hw [] p0 p1 tx vb cs zc fm pos h0 n0 Z0 H0 H1 H2 H3 H4 H5 H6 H7 H8 hcs hp hl hfm hpos) hZ (hw _ (List.mem_of_getElem? (i := 70) rfl)) (hw _ (List.mem_of_getElem? (i := 28) rfl)) (by decide) (by decide)) q1a q1c (g := (mkF m 2 #[.val (.ref p0), .val (.int p1)] [(.int p1), (.ref p0)])) rfl (by rw [hml]; rfl) (Steps.refl _) (argsL := [(.int p1)]) (rest := []) (lenOf pd_3 rfl) rfl (by show 2 * 0 + _ ≤ _; exact Nat.le_of_eq rfl) (hb hby d21_2) (fun _ _ => ⟨rfl, e0, (by decide : 0 + 0 ≤ _), (by decide : 0 + 0 ≤ _)⟩)
  dsimp only [Pt.U, Pt.locs, Pt.cells, Pt.slots] at X1 l1 y1 z1 st1 hQ1
  subst l1 y1 z1
  obtain ⟨rfl, N1q, e1⟩ := hQ1
  obtain ⟨Lo1, Y1, N1⟩ := pk X1 (Fr.app N0 N1q)
  refine Go.trans st1 ?_
  show Go p.tables e below (P21 Z p0 p1 tx vb cs zc fm pos h0 n0 s) (T1.setTop (mkF m 5 #[.val (.ref p0), .val (.int p1)] [(.int (b2i (f11 p1 cs pos)))]))
  refine Go.back (fun t k => XS.ifYes Y1.here hx rfl (pc0 := 5) (pc' := 23) rfl (hb hby d21_5) rfl ((if0 _ _).trans (feq (b2i_t hat)).2) (by decide) (by decide) k) ?_
  show Go p.tables e below (P21 Z p0 p1 tx vb cs zc fm pos h0 n0 s) (T1.setTop (mkF m 23 #[.val (.ref p0), .val (.int p1)] []))
  refine Go.back (fun t k => XS.aloadN Y1.here hx rfl (hb hby d21_23) rfl rfl  k) ?_
  show Go p.tables e below (P21 Z p0 p1 tx vb cs zc fm pos h0 n0 s) (T1.setTop (mkF m 24 #[.val (.ref p0), .val (.int p1)] [(.ref p0)]))
  refine Go.back (fun t k => XS.dup Y1.here hx rfl (hb hby d21_24) rfl rfl k) ?_
  show Go p.tables e below (P21 Z p0 p1 tx vb cs zc fm pos h0 n0 s) (T1.setTop (mkF m 25 #[.val (.ref p0), .val (.int p1)] [(.ref p0), (.ref p0)]))
  obtain ⟨T2, X2, e2, st2⟩ := getF Y1 hx hZ hown (host := "") (Or.inl (hw _ (List.mem_of_getElem? (i := 43) rfl))) Via.refl e1 H2 (g := (mkF m 25 #[.val (.ref p0), .val (.int p1)] [(.ref p0), (.ref p0)])) rfl rfl (hb hby d21_25)
  refine Go.back st2 ?_
  show Go p.tables e below (P21 Z p0 p1 tx vb cs zc fm pos h0 n0 s) (T2.setTop (mkF m 28 #[.val (.ref p0), .val (.int p1)] [(.int pos), (.ref p0)]))
  refine Go.back (fun t k => XS.iconst X2.here hx rfl (hb hby d21_28) k) ?_
  show Go p.tables e below (P21 Z p0 p1 tx vb cs zc fm pos h0 n0 s) (T2.setTop (mkF m 29 #[.val (.ref p0), .val (.int p1)] [(.int (1 : Int32)), (.int pos), (.ref p0)]))
  refine Go.back (fun t k => XS.iadd X2.here hx rfl (hb hby d21_29) rfl k) ?_
  show Go p.tables e below (P21 Z p0 p1 tx vb cs zc fm pos h0 n0 s) (T2.setTop (mkF m 30 #[.val (.ref p0), .val (.int p1)] [(.int (pos + (1 : Int32))), (.ref p0)]))
  obtain ⟨T3, h3, X3, e3, W3, st3⟩ := putF X2 hx hZ hown (host := "") (Or.inl (hw _ (List.mem_of_getElem? (i := 43) rfl))) Via.refl e2 H2 H0 (Or.inl (hw _ (List.mem_of_getElem? (i := 44) rfl))) (hw _ (List.mem_of_getElem? (i := 27) rfl)) (ty := .int) (by decide) rfl rfl (g := (mkF m 30 #[.val (.ref p0), .val (.int p1)] [(.int (pos + (1 : Int32))), (.ref p0)])) rfl rfl (hb hby d21_30)
  have F4 : Exa Z h3 p0 "com/example/paylode/paylode/header/HeaderReader" := H0.wr W3
  have F5 : Fld Z h3 p0 "com/example/paylode/paylode/header/HeaderReader" "text" "Ljava/lang/String;" (.ref tx) := H1.other W3 (Or.inr (slot_ne (Or.inr (hw _ (List.mem_of_getElem? (i := 35) rfl))) (Or.inl (hw _ (List.mem_of_getElem? (i := 44) rfl))) (by decide) (t := (.object "java/lang/String")) (t' := .int) (by decide) (by decide)))
  have F6 : Fld Z h3 p0 "com/example/paylode/paylode/header/HeaderReader" "position" "I" (.int (pos + (1 : Int32))) := H2.same W3
  have F7 : Exa Z h3 tx "java/lang/String" := H3.wr W3
  have F8 : Fld Z h3 tx "java/lang/String" "coder" "B" (.int (0 : Int32)) := H4.other W3 (Or.inl H10)
  have F9 : Fld Z h3 tx "java/lang/String" "value" "[B" (.ref vb) := H5.other W3 (Or.inl H10)
  have F10 : ArL Z h3 vb .byte (List.map Value.int (List.map StrChars.lo8 cs)) := H6.other W3 H11
  have F11 : Sta Z h3 "java/lang/String" "COMPACT_STRINGS" "Z" (.int zc) := H7.wr W3
  have F12 : Sta Z h3 "jdk/internal/util/Preconditions" "SIOOBE_FORMATTER" "Ljava/util/function/BiFunction;" fm := H8.wr W3
  have F13 : n0 ≤ h3.size := Nat.le_trans Z0 (Keep.of_wr W3).1
  have F14 : Keep h0 h3 [p0] := (Keep.refl h0 [p0]).wr W3 (Or.inl (List.mem_of_getElem? (i := 0) rfl))
  obtain ⟨Lo3, Y3, N3⟩ := pk X3 (Fr.snoc X3 N1 H9)
  refine Go.back st3 ?_
  show Go p.tables e below (P21 Z p0 p1 tx vb cs zc fm pos h0 n0 s) (T3.setTop (mkF m 33 #[.val (.ref p0), .val (.int p1)] []))
  exact Go.retV Y3 hx Bd.returns (hb hby d21_33) Bd.notSynchronized ⟨rfl, N3, (by rw [e3]; exact F14), (by rw [e3]; exact F6), (by rw [e3]; exact F5)⟩ (by decide) (by decide)
theorem own_and3 {p z : Int32} (h : z = p &&& (3 : Int32)) : z = 0 ∨ z = 1 ∨ z = 2 ∨ z = 3 := by
  have b : (p &&& (3 : Int32)).toBitVec.toNat ≤ 3 := by
    rw [Int32.toBitVec_and, BitVec.toNat_and]
    exact Nat.and_le_right
  have e : (p &&& (3 : Int32)) = Int32.ofNat (p &&& (3 : Int32)).toBitVec.toNat := by
    apply Int32.toBitVec_inj.mp
    show _ = BitVec.ofNat 32 _
    rw [BitVec.ofNat_toNat]; simp
  rw [h, e]
  generalize (p &&& (3 : Int32)).toBitVec.toNat = k at *
  have : k = 0 ∨ k = 1 ∨ k = 2 ∨ k = 3 := by omega
  rcases this with rfl | rfl | rfl | rfl <;> decide
theorem own_low (x : Int32) : nar .char (nar .char ((x &&& (255 : Int32)).toUInt32.toUInt16.toUInt32.toInt32)) = nar .char ((x &&& (255 : Int32)).toUInt32.toUInt16.toUInt32.toInt32) ∧ ¬ nar .char ((x &&& (255 : Int32)).toUInt32.toUInt16.toUInt32.toInt32) < 0 ∧ ¬ (255 : Int32) < nar .char ((x &&& (255 : Int32)).toUInt32.toUInt16.toUInt32.toInt32) := by
  have t : ∀ k : Fin 256, nar .char (nar .char ((Int32.ofNat k.val).toUInt32.toUInt16.toUInt32.toInt32)) = nar .char ((Int32.ofNat k.val).toUInt32.toUInt16.toUInt32.toInt32) ∧ ¬ nar .char ((Int32.ofNat k.val).toUInt32.toUInt16.toUInt32.toInt32) < 0 ∧ ¬ (255 : Int32) < nar .char ((Int32.ofNat k.val).toUInt32.toUInt16.toUInt32.toInt32) := by decide +kernel
  have h : (x &&& 255).toBitVec.toNat < 256 := by
    simp only [Int32.toBitVec_and, BitVec.toNat_and]
    exact Nat.lt_succ_of_le Nat.and_le_right
  have e : (x &&& 255) = Int32.ofNat (x &&& 255).toBitVec.toNat := by
    apply Int32.toBitVec_inj.mp
    show _ = BitVec.ofNat 32 _
    rw [BitVec.ofNat_toNat]; simp
  rw [e]
  exact t ⟨_, h⟩
theorem own_draw {p z : Int32} (h : z = f1 p) : nar .char z = z ∧ ¬ z < 0 ∧ ¬ (255 : Int32) < z := by
  rw [h]
  simp only [f1]
  split
  · exact own_low p
  · split <;> decide
theorem own_ws {a : Int32} (h : f15 a = true) : a = 32 ∨ a = 9 := by
  simp only [f15] at h
  split at h
  · left; assumption
  · split at h
    · right; assumption
    · cases h
theorem own_nws {a : Int32} (h : ¬ f15 a = true) : ¬ a = 32 ∧ ¬ a = 9 := ⟨fun q => h (by subst q; decide), fun q => h (by subst q; decide)⟩
theorem own_sk_0_0 : g10_1 ([] : List Int32) = 0 := by decide
theorem own_lit0 : (∀ c ∈ "".toList, c.toNat < 256) ∧ "".toList.map (fun c => Value.int (Jvm.Lit.byteI c.toNat.toUInt16)) = ([] : List Value) := ⟨by decide +kernel, by rfl⟩
theorem own_litv : ∀ c ∈ "value".toList, c.toNat < 256 := by decide +kernel
theorem own_wS : ∀ a ∈ Bundle.stringAtoms, a ∈ tables_1 := by decide +kernel
theorem own_sk_1_0 {a : Int32}  (ha : ¬ f15 a = true) : g10_1 [a] = 0 := by
  have q := own_nws ha; simp [g10_1, f11, f7, q]
theorem own_sk_1_1 {a : Int32} (ha : f15 a = true) : g10_1 [a] = 1 := by
  rcases own_ws ha with rfl | rfl <;> (simp [g10_1, f11, f7])
theorem own_sk_2_0 {a b : Int32}  (ha : ¬ f15 a = true) : g10_1 [a, b] = 0 := by
  have q := own_nws ha; simp [g10_1, f11, f7, q]
theorem own_sk_2_1 {a b : Int32} (ha : f15 a = true) (hb : ¬ f15 b = true) : g10_1 [a, b] = 1 := by
  rcases own_ws ha with rfl | rfl <;> (have q := own_nws hb; simp [g10_1, f11, f7, q])
theorem own_sk_2_2 {a b : Int32} (ha : f15 a = true) (hb : f15 b = true) : g10_1 [a, b] = 2 := by
  rcases own_ws ha with rfl | rfl <;> rcases own_ws hb with rfl | rfl <;> (simp [g10_1, f11, f7])
theorem own_sk_3_0 {a b c : Int32}  (ha : ¬ f15 a = true) : g10_1 [a, b, c] = 0 := by
  have q := own_nws ha; simp [g10_1, f11, f7, q]
theorem own_sk_3_1 {a b c : Int32} (ha : f15 a = true) (hb : ¬ f15 b = true) : g10_1 [a, b, c] = 1 := by
  rcases own_ws ha with rfl | rfl <;> (have q := own_nws hb; simp [g10_1, f11, f7, q])
theorem own_sk_3_2 {a b c : Int32} (ha : f15 a = true) (hb : f15 b = true) (hc : ¬ f15 c = true) : g10_1 [a, b, c] = 2 := by
  rcases own_ws ha with rfl | rfl <;> rcases own_ws hb with rfl | rfl <;> (have q := own_nws hc; simp [g10_1, f11, f7, q])
theorem own_sk_3_3 {a b c : Int32} (ha : f15 a = true) (hb : f15 b = true) (hc : f15 c = true) : g10_1 [a, b, c] = 3 := by
  rcases own_ws ha with rfl | rfl <;> rcases own_ws hb with rfl | rfl <;> rcases own_ws hc with rfl | rfl <;> (simp [g10_1, f11, f7])
abbrev EL1 : List (String × Nat) := [("com/example/paylode/paylode/header/HeaderReaderAtEndPinLaw", 20), ("java/lang/String", 7)]
theorem d3_0 : decode jdk_42_method_149_code 0 = .ok (.aload_n 0, 1) := by decide +kernel
theorem d3_1 : decode jdk_42_method_149_code 1 = .ok (.invokespecial 1, 3) := by decide +kernel
theorem d3_4 : decode jdk_42_method_149_code 4 = .ok (.iload_n 3, 1) := by decide +kernel
theorem d3_5 : decode jdk_42_method_149_code 5 = .ok (.ifCond .ne 22, 3) := by decide +kernel
theorem d3_8 : decode jdk_42_method_149_code 8 = .ok (.aload_n 0, 1) := by decide +kernel
theorem d3_9 : decode jdk_42_method_149_code 9 = .ok (.ldc 7, 2) := by decide +kernel
theorem d3_11 : decode jdk_42_method_149_code 11 = .ok (.getfield 9, 3) := by decide +kernel
theorem d3_14 : decode jdk_42_method_149_code 14 = .ok (.putfield 9, 3) := by decide +kernel
theorem d3_17 : decode jdk_42_method_149_code 17 = .ok (.aload_n 0, 1) := by decide +kernel
theorem d3_18 : decode jdk_42_method_149_code 18 = .ok (.ldc 7, 2) := by decide +kernel
theorem d3_20 : decode jdk_42_method_149_code 20 = .ok (.getfield 15, 3) := by decide +kernel
theorem d3_23 : decode jdk_42_method_149_code 23 = .ok (.putfield 15, 3) := by decide +kernel
theorem d3_26 : decode jdk_42_method_149_code 26 = .ok (.return_, 1) := by decide +kernel
abbrev rmm3 : Room := { frames := 1, cells := 4, slots := 8, locals := 12 }
def Q3 (Z : State) (p0 : Addr) (p1 : Addr) (h0 : Heap) (n0 : Nat) (v : Option Value) (h : Heap) (L : List Loc) : Prop := v = none ∧ Fr n0 L ∧ Keep h0 h [p0] ∧ ∃ vb : Addr, Fld Z h p0 "java/lang/String" "coder" "B" (.int (0 : Int32)) ∧ Fld Z h p0 "java/lang/String" "value" "[B" (.ref vb) ∧ ArL Z h vb .byte [] ∧ vb ≠ p0
abbrev P3 (Z : State) (p0 : Addr) (p1 : Addr) (h0 : Heap) (n0 : Nat) (s : State) : Outcome → State → Prop := fun o U' => ∃ v L, o = .returned v ∧ Q3 Z p0 p1 h0 n0 v U'.heap L ∧ CHr Z EL1 s.vm s.heap U'.vm U'.heap ∧ ReturnedEndW s o U' L rmm3.cells rmm3.slots
theorem pn_3 : plainName "java/lang/String" = true := by first | (simp [plainName, overriddenIn]; done) | decide +kernel
theorem ef_3 (m : MethodId) (p0 : Addr) (p1 : Addr) : entryFrame m #[(.ref p0), (.ref p1), (.int (0 : Int32)), (.int (0 : Int32)), .null] 6 = mkF m 0 #[.val (.ref p0), .val (.ref p1), .val (.int (0 : Int32)), .val (.int (0 : Int32)), .val .null, .unset] [] := by first | (simp [entryFrame, mkF, argsToLocals, Value.category]; done) | rfl
set_option maxRecDepth 65536 in
set_option maxHeartbeats 40000000 in
theorem rm3 (l : Launch) (Z : State) (a0 : Array Value) (hw : ∀ d ∈ tables_1, d.before a0 Z = true) (ws : List Jvm.Cond) (p0 : Addr) (p1 : Addr) (h0 : Heap) (n0 : Nat) (Z0 : n0 ≤ h0.size) (hEL : EW Z a0 EL1) (H0 : Exa Z h0 p0 "java/lang/String") (H1 : Fld Z h0 p0 "java/lang/String" "value" "[B" .null) (H2 : Fld Z h0 p0 "java/lang/String" "coder" "B" (.int (0 : Int32))) (H3 : n0 ≤ p0) :
    MetFree l (⟨"java/lang/String", "<init>", "([CIILjava/lang/Void;)V"⟩ : MethodName) (head1 [Jvm.Cond.code (⟨"java/lang/String", "<init>", "([CIILjava/lang/Void;)V"⟩ : MethodName) jdk_42_method_149_code 6 none] rmm3) (fun a U => a = #[(.ref p0), (.ref p1), (.int (0 : Int32)), (.int (0 : Int32)), .null] ∧ Z.Warmed39 U.vm ∧ U.heap = h0 ∧ CHv Z EL1 U.vm h0 ∧ Safe Z EL1 U.vm h0 p0) (fun _ _ _ _ _ => True) (fun _ U o U' => ∃ v L, o = .returned v ∧ Q3 Z p0 p1 h0 n0 v U'.heap L ∧ CHr Z EL1 U.vm U.heap U'.vm U'.heap ∧ ReturnedEndW U o U' L rmm3.cells rmm3.slots) := by
  refine MetFree.of_bodySF (plainFor_of_name pn_3) hisR ?_
  intro p e s m args below meth c s₁ Bd hml0 hP hK
  obtain ⟨rfl, hZ, hh, hCH, Sf0⟩ := hP
  have hx := Bd.exec
  have hby := Bd.bytes
  have hml : c.maxLocals = 6 := hml0
  have hown : s.vm.findClass "java/lang/String" = some m.cls := findClass_of_methodNamed Bd.named
  have hnm := (name_of_methodNamed Bd.named Bd.method).1
  have X0 : Stand p l e rmm3 s m #[(.ref p0), (.ref p1), (.int (0 : Int32)), (.int (0 : Int32)), .null] below meth c s₁ [] 0 0 := Stand.of_body Bd
  have e0 : s₁.heap = h0 := by rw [← hh, Bd.state]; rfl
  have N0 := Fr.nil n0
  show Go p.tables e below (P3 Z p0 p1 h0 n0 s) (s₁.setTop (entryFrame m #[(.ref p0), (.ref p1), (.int (0 : Int32)), (.int (0 : Int32)), .null] 6))
  refine Go.back (fun t k => castTop (ef_3 m p0 p1) k) ?_
  show Go p.tables e below (P3 Z p0 p1 h0 n0 s) (s₁.setTop (mkF m 0 #[.val (.ref p0), .val (.ref p1), .val (.int (0 : Int32)), .val (.int (0 : Int32)), .val .null, .unset] []))
  refine Go.back (fun t k => XS.aloadN X0.here hx rfl (hb hby d3_0) rfl rfl  k) ?_
  show Go p.tables e below (P3 Z p0 p1 h0 n0 s) (s₁.setTop (mkF m 1 #[.val (.ref p0), .val (.ref p1), .val (.int (0 : Int32)), .val (.int (0 : Int32)), .val .null, .unset] [(.ref p0)]))
  obtain ⟨T1, X1, e1, st1⟩ := initO X0 hx hZ hown (hw _ (List.mem_of_getElem? (i := 15) rfl)) (hw _ (List.mem_of_getElem? (i := 16) rfl)) (hw _ (List.mem_of_getElem? (i := 17) rfl)) e0 (g := (mkF m 1 #[.val (.ref p0), .val (.ref p1), .val (.int (0 : Int32)), .val (.int (0 : Int32)), .val .null, .unset] [(.ref p0)])) rfl (by rw [hml]; rfl) rfl (hb hby d3_1) (by decide) (W := 0) (by show 2 * 0 + _ ≤ _; exact Nat.le_of_eq rfl) (by decide)
  refine Go.back st1 ?_
  show Go p.tables e below (P3 Z p0 p1 h0 n0 s) (T1.setTop (mkF m 4 #[.val (.ref p0), .val (.ref p1), .val (.int (0 : Int32)), .val (.int (0 : Int32)), .val .null, .unset] []))
  refine Go.back (fun t k => XS.iloadN X1.here hx rfl (hb hby d3_4) rfl  k) ?_
  show Go p.tables e below (P3 Z p0 p1 h0 n0 s) (T1.setTop (mkF m 5 #[.val (.ref p0), .val (.ref p1), .val (.int (0 : Int32)), .val (.int (0 : Int32)), .val .null, .unset] [(.int (0 : Int32))]))
  refine Go.back (fun t k => XS.ifNo X1.here hx rfl (hb hby d3_5) rfl ((if0 _ _).trans (teq (by decide)).2) k) ?_
  show Go p.tables e below (P3 Z p0 p1 h0 n0 s) (T1.setTop (mkF m 8 #[.val (.ref p0), .val (.ref p1), .val (.int (0 : Int32)), .val (.int (0 : Int32)), .val .null, .unset] []))
  refine Go.back (fun t k => XS.aloadN X1.here hx rfl (hb hby d3_8) rfl rfl  k) ?_
  show Go p.tables e below (P3 Z p0 p1 h0 n0 s) (T1.setTop (mkF m 9 #[.val (.ref p0), .val (.ref p1), .val (.int (0 : Int32)), .val (.int (0 : Int32)), .val .null, .unset] [(.ref p0)]))
  obtain ⟨aA, TA, hA, kA, bA, kbA, XA, eA, EA, hSA, hkA, hZA, hownA, EaA, FcA, FvA, AbA, -, -, hCrA, -, hsfA, stA⟩ := ldcCH (s := s) (vm0 := s.vm) X1 hx hZ hown (hw _ (List.mem_of_getElem? (i := 18) rfl)) (fun d hd => hw d (own_wS d hd)) e1 ((State.WarmedH.refl s).since h0.size) (Nat.le_refl _) hEL (List.mem_of_getElem? (i := 1) rfl) hCH (vs := []) (z := 0) own_lit0 (by decide) rfl (g := (mkF m 9 #[.val (.ref p0), .val (.ref p1), .val (.int (0 : Int32)), .val (.int (0 : Int32)), .val .null, .unset] [(.ref p0)])) rfl (hb hby d3_9) (n := 0) (by decide +kernel) (by decide) (by decide) (by decide)
  have hltA : p0 < h0.size := H0.lt
  have SfA := hCrA.safe hltA Sf0
  have neA := hsfA p0 SfA
  have F2 : Exa Z hA p0 "java/lang/String" := H0.ext EA
  have F3 : Fld Z hA p0 "java/lang/String" "value" "[B" .null := H1.ext EA
  have F4 : Fld Z hA p0 "java/lang/String" "coder" "B" (.int (0 : Int32)) := H2.ext EA
  have F5 : n0 ≤ hA.size := Nat.le_trans Z0 EA.1
  have F6 : Keep h0 hA [p0] := (Keep.refl h0 [p0]).ext EA
  have AlA : ArL Z hA bA .byte [] := ArL.of_arv AbA rfl
  have hZ : Z.Warmed39 (s.setVm TA.vm).vm := hZA
  have hown := hownA
  refine Go.back stA ?_
  show Go p.tables e below (P3 Z p0 p1 h0 n0 s) (TA.setTop (mkF m 11 #[.val (.ref p0), .val (.ref p1), .val (.int (0 : Int32)), .val (.int (0 : Int32)), .val .null, .unset] [(.ref aA), (.ref p0)]))
  obtain ⟨T7, X7, e7, st7⟩ := getF XA hx hZ hown (host := "") (Or.inl (hw _ (List.mem_of_getElem? (i := 24) rfl))) Via.refl eA FvA (g := (mkF m 11 #[.val (.ref p0), .val (.ref p1), .val (.int (0 : Int32)), .val (.int (0 : Int32)), .val .null, .unset] [(.ref aA), (.ref p0)])) rfl rfl (hb hby d3_11)
  refine Go.back st7 ?_
  show Go p.tables e below (P3 Z p0 p1 h0 n0 s) (T7.setTop (mkF m 14 #[.val (.ref p0), .val (.ref p1), .val (.int (0 : Int32)), .val (.int (0 : Int32)), .val .null, .unset] [(.ref bA), (.ref p0)]))
  obtain ⟨T8, h8, X8, e8, W8, st8⟩ := putF X7 hx hZ hown (host := "") (Or.inl (hw _ (List.mem_of_getElem? (i := 24) rfl))) Via.refl e7 F3 F2 (Or.inr ⟨(hw _ (List.mem_of_getElem? (i := 20) rfl)), rfl, hnm⟩) (hw _ (List.mem_of_getElem? (i := 6) rfl)) (ty := (.array .byte)) (by decide) rfl rfl (g := (mkF m 14 #[.val (.ref p0), .val (.ref p1), .val (.int (0 : Int32)), .val (.int (0 : Int32)), .val .null, .unset] [(.ref bA), (.ref p0)])) rfl rfl (hb hby d3_14)
  have F9 : Exa Z h8 p0 "java/lang/String" := F2.wr W8
  have F10 : Fld Z h8 p0 "java/lang/String" "value" "[B" (.ref bA) := F3.same W8
  have F11 : Fld Z h8 p0 "java/lang/String" "coder" "B" (.int (0 : Int32)) := F4.other W8 (Or.inr (slot_ne (Or.inr (hw _ (List.mem_of_getElem? (i := 21) rfl))) (Or.inr (hw _ (List.mem_of_getElem? (i := 20) rfl))) (by decide) (t := .byte) (t' := (.array .byte)) (by decide) (by decide)))
  have F12 : n0 ≤ h8.size := Nat.le_trans F5 (Keep.of_wr W8).1
  have F13 : Keep h0 h8 [p0] := F6.wr W8 (Or.inl (List.mem_of_getElem? (i := 0) rfl))
  have F14 : Exa Z h8 aA "java/lang/String" := EaA.wr W8
  have F15 : Fld Z h8 aA "java/lang/String" "coder" "B" (.int (0 : Int32)) := FcA.other W8 (Or.inl (Ne.symm neA.1))
  have F16 : Fld Z h8 aA "java/lang/String" "value" "[B" (.ref bA) := FvA.other W8 (Or.inl (Ne.symm neA.1))
  have F17 : ArL Z h8 bA .byte [] := AlA.other W8 (Ne.symm neA.2)
  obtain ⟨Lo8, Y8, N8⟩ := pk X8 (Fr.snoc X8 N0 H3)
  refine Go.back st8 ?_
  show Go p.tables e below (P3 Z p0 p1 h0 n0 s) (T8.setTop (mkF m 17 #[.val (.ref p0), .val (.ref p1), .val (.int (0 : Int32)), .val (.int (0 : Int32)), .val .null, .unset] []))
  have hCvA2 := hCrA.1.wr W8 SfA
  have SfA2 := Safe.wr W8 SfA hCrA.1 SfA
  have hCrA2 := hCrA.trans (CHr.wr W8 SfA hCrA.1)
  have hkA2 := Nat.le_trans hkA (Keep.of_wr W8).1
  refine Go.back (fun t k => XS.aloadN Y8.here hx rfl (hb hby d3_17) rfl rfl  k) ?_
  show Go p.tables e below (P3 Z p0 p1 h0 n0 s) (T8.setTop (mkF m 18 #[.val (.ref p0), .val (.ref p1), .val (.int (0 : Int32)), .val (.int (0 : Int32)), .val .null, .unset] [(.ref p0)]))
  obtain ⟨aB, TB, hB, kB, bB, kbB, XB, eB, EB, hSB, hkB, hZB, hownB, EaB, FcB, FvB, AbB, -, -, hCrB, -, hsfB, stB⟩ := ldcCH (s := s) (vm0 := TA.vm) Y8 hx hZ hown (hw _ (List.mem_of_getElem? (i := 18) rfl)) (fun d hd => hw d (own_wS d hd)) e8 hSA hkA2 hEL (List.mem_of_getElem? (i := 1) rfl) hCvA2 (vs := []) (z := 0) own_lit0 (by decide) rfl (g := (mkF m 18 #[.val (.ref p0), .val (.ref p1), .val (.int (0 : Int32)), .val (.int (0 : Int32)), .val .null, .unset] [(.ref p0)])) rfl (hb hby d3_18) (n := 0) (by decide +kernel) (by decide) (by decide) (by decide)
  have hltB : p0 < h8.size := F9.lt
  have SfB := hCrB.safe hltB SfA2
  have neB := hsfB p0 SfB
  have F18 : Exa Z hB p0 "java/lang/String" := F9.ext EB
  have F19 : Fld Z hB p0 "java/lang/String" "value" "[B" (.ref bA) := F10.ext EB
  have F20 : Fld Z hB p0 "java/lang/String" "coder" "B" (.int (0 : Int32)) := F11.ext EB
  have F21 : n0 ≤ hB.size := Nat.le_trans F12 EB.1
  have F22 : Keep h0 hB [p0] := F13.ext EB
  have F23 : Exa Z hB aA "java/lang/String" := F14.ext EB
  have F24 : Fld Z hB aA "java/lang/String" "coder" "B" (.int (0 : Int32)) := F15.ext EB
  have F25 : Fld Z hB aA "java/lang/String" "value" "[B" (.ref bA) := F16.ext EB
  have F26 : ArL Z hB bA .byte [] := F17.ext EB
  have hZ : Z.Warmed39 (s.setVm TB.vm).vm := hZB
  have hown := hownB
  refine Go.back stB ?_
  show Go p.tables e below (P3 Z p0 p1 h0 n0 s) (TB.setTop (mkF m 20 #[.val (.ref p0), .val (.ref p1), .val (.int (0 : Int32)), .val (.int (0 : Int32)), .val .null, .unset] [(.ref aB), (.ref p0)]))
  obtain ⟨T27, X27, e27, st27⟩ := getF XB hx hZ hown (host := "") (Or.inl (hw _ (List.mem_of_getElem? (i := 25) rfl))) Via.refl eB FcB (g := (mkF m 20 #[.val (.ref p0), .val (.ref p1), .val (.int (0 : Int32)), .val (.int (0 : Int32)), .val .null, .unset] [(.ref aB), (.ref p0)])) rfl rfl (hb hby d3_20)
  refine Go.back st27 ?_
  show Go p.tables e below (P3 Z p0 p1 h0 n0 s) (T27.setTop (mkF m 23 #[.val (.ref p0), .val (.ref p1), .val (.int (0 : Int32)), .val (.int (0 : Int32)), .val .null, .unset] [(.int (0 : Int32)), (.ref p0)]))
  obtain ⟨T28, h28, X28, e28, W28, st28⟩ := putFN X27 hx hZ hown (hw _ (List.mem_of_getElem? (i := 25) rfl)) Via.refl e27 F20 F18 (Or.inr ⟨(hw _ (List.mem_of_getElem? (i := 21) rfl)), rfl, hnm⟩) (hw _ (List.mem_of_getElem? (i := 6) rfl)) (ty := .byte) (v' := (.int (0 : Int32))) (by decide) rfl rfl (g := (mkF m 23 #[.val (.ref p0), .val (.ref p1), .val (.int (0 : Int32)), .val (.int (0 : Int32)), .val .null, .unset] [(.int (0 : Int32)), (.ref p0)])) rfl rfl (hb hby d3_23)
  have F29 : Exa Z h28 p0 "java/lang/String" := F18.wr W28
  have F30 : Fld Z h28 p0 "java/lang/String" "value" "[B" (.ref bA) := F19.other W28 (Or.inr (slot_ne (Or.inr (hw _ (List.mem_of_getElem? (i := 20) rfl))) (Or.inr (hw _ (List.mem_of_getElem? (i := 21) rfl))) (by decide) (t := (.array .byte)) (t' := .byte) (by decide) (by decide)))
  have F31 : Fld Z h28 p0 "java/lang/String" "coder" "B" (.int (0 : Int32)) := F20.same W28
  have F32 : n0 ≤ h28.size := Nat.le_trans F21 (Keep.of_wr W28).1
  have F33 : Keep h0 h28 [p0] := F22.wr W28 (Or.inl (List.mem_of_getElem? (i := 0) rfl))
  have F34 : Exa Z h28 aA "java/lang/String" := F23.wr W28
  have F35 : Fld Z h28 aA "java/lang/String" "coder" "B" (.int (0 : Int32)) := F24.other W28 (Or.inl (Ne.symm neA.1))
  have F36 : Fld Z h28 aA "java/lang/String" "value" "[B" (.ref bA) := F25.other W28 (Or.inl (Ne.symm neA.1))
  have F37 : ArL Z h28 bA .byte [] := F26.other W28 (Ne.symm neA.2)
  have F38 : Exa Z h28 aB "java/lang/String" := EaB.wr W28
  have F39 : Fld Z h28 aB "java/lang/String" "coder" "B" (.int (0 : Int32)) := FcB.other W28 (Or.inl (Ne.symm neB.1))
  have F40 : Fld Z h28 aB "java/lang/String" "value" "[B" (.ref bB) := FvB.other W28 (Or.inl (Ne.symm neB.1))
  obtain ⟨Lo28, Y28, N28⟩ := pk X28 (Fr.snoc X28 N8 H3)
  refine Go.back st28 ?_
  show Go p.tables e below (P3 Z p0 p1 h0 n0 s) (T28.setTop (mkF m 26 #[.val (.ref p0), .val (.ref p1), .val (.int (0 : Int32)), .val (.int (0 : Int32)), .val .null, .unset] []))
  have hCrZ := hCrA2.trans (hCrB.trans (CHr.wr W28 SfB hCrB.1))
  have hkZ := Nat.le_trans hkB (Keep.of_wr W28).1
  exact Go.retVW (s := s) (vm0 := TB.vm) (Qa := Q3 Z p0 p1 h0 n0) (Qb := fun vm h => CHr Z EL1 s.vm s.heap vm h) Y28 hx hSB (by rw [e28]; exact hkZ) Bd.returns (hb hby d3_26) Bd.notSynchronized ⟨rfl, N28, by rw [e28]; exact F33, bA, by rw [e28]; exact F31, by rw [e28]; exact F30, by rw [e28]; exact F37, Ne.symm neA.2⟩ (by rw [hh, e28]; exact hCrZ.trans (CHv.at (s := s) (vm0 := TB.vm) Y28 hZ hEL hCrZ.1)) (by decide) (by decide)
theorem d2_0 : decode jdk_42_method_3_code 0 = .ok (.aload_n 0, 1) := by decide +kernel
theorem d2_1 : decode jdk_42_method_3_code 1 = .ok (.aload_n 1, 1) := by decide +kernel
theorem d2_2 : decode jdk_42_method_3_code 2 = .ok (.iconst 0, 1) := by decide +kernel
theorem d2_3 : decode jdk_42_method_3_code 3 = .ok (.aload_n 1, 1) := by decide +kernel
theorem d2_4 : decode jdk_42_method_3_code 4 = .ok (.arraylength, 1) := by decide +kernel
theorem d2_5 : decode jdk_42_method_3_code 5 = .ok (.aconst_null, 1) := by decide +kernel
theorem d2_6 : decode jdk_42_method_3_code 6 = .ok (.invokespecial 27, 3) := by decide +kernel
theorem d2_9 : decode jdk_42_method_3_code 9 = .ok (.return_, 1) := by decide +kernel
abbrev rmm2 : Room := { frames := 2, cells := 4, slots := 8, locals := 29 }
def Q2 (Z : State) (p0 : Addr) (p1 : Addr) (h0 : Heap) (n0 : Nat) (v : Option Value) (h : Heap) (L : List Loc) : Prop := v = none ∧ Fr n0 L ∧ Keep h0 h [p0] ∧ ∃ vb : Addr, Fld Z h p0 "java/lang/String" "coder" "B" (.int (0 : Int32)) ∧ Fld Z h p0 "java/lang/String" "value" "[B" (.ref vb) ∧ ArL Z h vb .byte [] ∧ vb ≠ p0
abbrev P2 (Z : State) (p0 : Addr) (p1 : Addr) (h0 : Heap) (n0 : Nat) (s : State) : Outcome → State → Prop := fun o U' => ∃ v L, o = .returned v ∧ Q2 Z p0 p1 h0 n0 v U'.heap L ∧ CHr Z EL1 s.vm s.heap U'.vm U'.heap ∧ ReturnedEndW s o U' L rmm2.cells rmm2.slots
theorem pn_2 : plainName "java/lang/String" = true := by first | (simp [plainName, overriddenIn]; done) | decide +kernel
theorem ef_2 (m : MethodId) (p0 : Addr) (p1 : Addr) : entryFrame m #[(.ref p0), (.ref p1)] 2 = mkF m 0 #[.val (.ref p0), .val (.ref p1)] [] := by first | (simp [entryFrame, mkF, argsToLocals, Value.category]; done) | rfl
set_option maxRecDepth 65536 in
set_option maxHeartbeats 40000000 in
theorem rm2 (l : Launch) (Z : State) (a0 : Array Value) (hw : ∀ d ∈ tables_1, d.before a0 Z = true) (ws : List Jvm.Cond) (p0 : Addr) (p1 : Addr) (h0 : Heap) (n0 : Nat) (Z0 : n0 ≤ h0.size) (hEL : EW Z a0 EL1) (H0 : Exa Z h0 p0 "java/lang/String") (H1 : Fld Z h0 p0 "java/lang/String" "value" "[B" .null) (H2 : Fld Z h0 p0 "java/lang/String" "coder" "B" (.int (0 : Int32))) (H3 : n0 ≤ p0) (H4 : ArL Z h0 p1 .char []) (H5 : p1 ≠ p0) :
    MetFree l (⟨"java/lang/String", "<init>", "([C)V"⟩ : MethodName) (head1 [Jvm.Cond.code (⟨"java/lang/String", "<init>", "([C)V"⟩ : MethodName) jdk_42_method_3_code 2 none] rmm2) (fun a U => a = #[(.ref p0), (.ref p1)] ∧ Z.Warmed39 U.vm ∧ U.heap = h0 ∧ CHv Z EL1 U.vm h0 ∧ Safe Z EL1 U.vm h0 p0) (fun _ _ _ _ _ => True) (fun _ U o U' => ∃ v L, o = .returned v ∧ Q2 Z p0 p1 h0 n0 v U'.heap L ∧ CHr Z EL1 U.vm U.heap U'.vm U'.heap ∧ ReturnedEndW U o U' L rmm2.cells rmm2.slots) := by
  refine MetFree.of_bodySF (plainFor_of_name pn_2) hisR ?_
  intro p e s m args below meth c s₁ Bd hml0 hP hK
  obtain ⟨rfl, hZ, hh, hCH, Sf0⟩ := hP
  have hx := Bd.exec
  have hby := Bd.bytes
  have hml : c.maxLocals = 2 := hml0
  have hown : s.vm.findClass "java/lang/String" = some m.cls := findClass_of_methodNamed Bd.named
  have hnm := (name_of_methodNamed Bd.named Bd.method).1
  have X0 : Stand p l e rmm2 s m #[(.ref p0), (.ref p1)] below meth c s₁ [] 0 0 := Stand.of_body Bd
  have e0 : s₁.heap = h0 := by rw [← hh, Bd.state]; rfl
  have N0 := Fr.nil n0
  show Go p.tables e below (P2 Z p0 p1 h0 n0 s) (s₁.setTop (entryFrame m #[(.ref p0), (.ref p1)] 2))
  refine Go.back (fun t k => castTop (ef_2 m p0 p1) k) ?_
  show Go p.tables e below (P2 Z p0 p1 h0 n0 s) (s₁.setTop (mkF m 0 #[.val (.ref p0), .val (.ref p1)] []))
  refine Go.back (fun t k => XS.aloadN X0.here hx rfl (hb hby d2_0) rfl rfl  k) ?_
  show Go p.tables e below (P2 Z p0 p1 h0 n0 s) (s₁.setTop (mkF m 1 #[.val (.ref p0), .val (.ref p1)] [(.ref p0)]))
  refine Go.back (fun t k => XS.aloadN X0.here hx rfl (hb hby d2_1) rfl rfl  k) ?_
  show Go p.tables e below (P2 Z p0 p1 h0 n0 s) (s₁.setTop (mkF m 2 #[.val (.ref p0), .val (.ref p1)] [(.ref p1), (.ref p0)]))
  refine Go.back (fun t k => XS.iconst X0.here hx rfl (hb hby d2_2) k) ?_
  show Go p.tables e below (P2 Z p0 p1 h0 n0 s) (s₁.setTop (mkF m 3 #[.val (.ref p0), .val (.ref p1)] [(.int (0 : Int32)), (.ref p1), (.ref p0)]))
  refine Go.back (fun t k => XS.aloadN X0.here hx rfl (hb hby d2_3) rfl rfl  k) ?_
  show Go p.tables e below (P2 Z p0 p1 h0 n0 s) (s₁.setTop (mkF m 4 #[.val (.ref p0), .val (.ref p1)] [(.ref p1), (.int (0 : Int32)), (.ref p1), (.ref p0)]))
  obtain ⟨cl1, Ar1, S1⟩ := H4.len
  refine Go.back (fun t k => X0.arraylength hx (by rw [e0]; exact Ar1.1) (State.isArrayOf_alike hZ.alike Ar1.2.1) (g := (mkF m 4 #[.val (.ref p0), .val (.ref p1)] [(.ref p1), (.int (0 : Int32)), (.ref p1), (.ref p0)])) rfl rfl (hb hby d2_4) t k) ?_
  rw [S1]
  show Go p.tables e below (P2 Z p0 p1 h0 n0 s) (s₁.setTop (mkF m 5 #[.val (.ref p0), .val (.ref p1)] [(.int (0 : Int32)), (.int (0 : Int32)), (.ref p1), (.ref p0)]))
  refine Go.back (fun t k => XS.aconstNull X0.here hx rfl (hb hby d2_5) k) ?_
  show Go p.tables e below (P2 Z p0 p1 h0 n0 s) (s₁.setTop (mkF m 6 #[.val (.ref p0), .val (.ref p1)] [.null, (.int (0 : Int32)), (.int (0 : Int32)), (.ref p1), (.ref p0)]))
  obtain ⟨_, vmC, ⟨TC, LC, kC, nC⟩, -, XC, hSC, hgC, ⟨LcC, hQC, lC, yC, zC, hCC⟩, stC⟩ := X0.specialBackS hx (y := (⟨"java/lang/String", "<init>", "([CIILjava/lang/Void;)V"⟩ : MethodName)) rfl hown (mvT hZ (hw _ (List.mem_of_getElem? (i := 11) rfl))) (mvT hZ (hw _ (List.mem_of_getElem? (i := 12) rfl))) (mvT hZ (hw _ (List.mem_of_getElem? (i := 14) rfl))) (by decide) (own_backSH (s := s) (vm0 := s.vm) (W := 0) (rm3 l Z a0 hw [] p0 p1 h0 n0 Z0 hEL H0 H1 H2 H3) hZ (hw _ (List.mem_of_getElem? (i := 14) rfl)) (hw _ (List.mem_of_getElem? (i := 7) rfl)) (by decide) (by decide) hEL hCH H0.lt Sf0) (g := (mkF m 6 #[.val (.ref p0), .val (.ref p1)] [.null, (.int (0 : Int32)), (.int (0 : Int32)), (.ref p1), (.ref p0)])) rfl (by rw [hml]; rfl) (Steps.refl _) (a := p0) (argsL := [(.ref p1), (.int (0 : Int32)), (.int (0 : Int32)), .null]) (rest := []) (lenOf pd_4 rfl) rfl (by show 2 * 0 + _ ≤ _; exact Nat.le_of_eq rfl) (hb hby d2_6) (fun _ _ => ⟨rfl, e0, (by decide : 0 + 4 ≤ _), (by decide : 0 + 8 ≤ _)⟩)
  dsimp only [Pt.U, Pt.locs, Pt.cells, Pt.slots] at XC hSC lC yC zC stC hQC hCC hgC
  subst lC yC zC
  obtain ⟨hC, eC⟩ : ∃ z, TC.heap = z := ⟨_, rfl⟩
  rw [eC] at hQC hCC
  obtain ⟨rfl, NCq, KC, vbC, FcC, FvC, AbC, nvC⟩ := hQC
  obtain ⟨LoC, YC, NC⟩ := pk XC (Fr.app N0 NCq)
  have F2 : Exa Z hC p0 "java/lang/String" := H0.keep KC
  have F3 : ArL Z hC p1 .char [] := H4.keep KC (ninS H5 nin0)
  have F4 : n0 ≤ hC.size := Nat.le_trans Z0 KC.1
  have F5 : Keep h0 hC [p0] := (Keep.refl h0 [p0]).trans KC (allS (P := fun x => x ∈ [p0] ∨ h0.size ≤ x) (Or.inl (List.mem_of_getElem? (i := 0) rfl)) all0)
  have hown : (s.setVm TC.vm).vm.findClass "java/lang/String" = some m.cls := by rw [show (s.setVm TC.vm).vm = TC.vm from rfl, hSC.1.alike.findClass]; exact hown
  have hZ : Z.Warmed39 (s.setVm TC.vm).vm := State.Warmed39.trans (t := s) hZ hSC.1
  refine Go.trans stC ?_
  show Go p.tables e below (P2 Z p0 p1 h0 n0 s) (TC.setTop (mkF m 9 #[.val (.ref p0), .val (.ref p1)] []))
  exact Go.retVW (s := s) (vm0 := TC.vm) (Qa := Q2 Z p0 p1 h0 n0) (Qb := fun vm h => CHr Z EL1 s.vm s.heap vm h) YC hx hSC (Nat.le_refl _) Bd.returns (hb hby d2_9) Bd.notSynchronized ⟨rfl, NC, by rw [eC]; exact F5, vbC, by rw [eC]; exact FcC, by rw [eC]; exact FvC, by rw [eC]; exact AbC, nvC⟩ (by rw [hh, eC]; exact hCC) (by decide) (by decide)
theorem own_fitsC {cs : List Int32} (h : ∀ c ∈ cs, ¬ c < 0 ∧ ¬ (255 : Int32) < c) : ∀ v ∈ List.map Value.int cs, fits .char v = true := fun v hv => by
  obtain ⟨x, hx, rfl⟩ := List.mem_map.mp hv
  have q := own_up h x hx
  have a1 : (0 : Int32) ≤ x := Int32.not_lt.mp q.1
  have a2 : x ≤ (65535 : Int32) := Int32.not_lt.mp q.2
  show (decide _ && decide _) = true
  rw [Bool.and_eq_true]; exact ⟨decide_eq_true a1, decide_eq_true a2⟩
def Q0 (Z : State) (p0 : Int32) (p1 : Int32) (p2 : Int32) (p3 : Int32) (h0 : Heap) (n0 : Nat) (v : Option Value) (h : Heap) (L : List Loc) : Prop := v = some (.int (1 : Int32)) ∧ Fr n0 L
abbrev P0 (Z : State) (p0 : Int32) (p1 : Int32) (p2 : Int32) (p3 : Int32) (h0 : Heap) (n0 : Nat) (s : State) : Outcome → State → Prop := fun o U' => ∃ v L, o = .returned v ∧ Q0 Z p0 p1 p2 p3 h0 n0 v U'.heap L ∧ True ∧ ReturnedEndW s o U' L room_1.cells room_1.slots
theorem pn_0 : plainName "com/example/paylode/paylode/header/HeaderReaderAtEndPinLaw" = true := by first | (simp [plainName, overriddenIn]; done) | decide +kernel
theorem ef_0 (m : MethodId) (p0 : Int32) (p1 : Int32) (p2 : Int32) (p3 : Int32) : entryFrame m #[(.int p0), (.int p1), (.int p2), (.int p3)] maxLocals = mkF m 0 #[.val (.int p0), .val (.int p1), .val (.int p2), .val (.int p3), .unset, .unset, .unset, .unset, .unset, .unset, .unset, .unset, .unset, .unset] [] := by first | (simp [entryFrame, mkF, argsToLocals, Value.category, maxLocals]; done) | rfl
set_option maxRecDepth 65536 in
set_option maxHeartbeats 40000000 in
theorem rm0 (l : Launch) (Z : State) (a0 : Array Value) (hw : ∀ d ∈ tables_1, d.before a0 Z = true) (ws : List Jvm.Cond) (p0 : Int32) (p1 : Int32) (p2 : Int32) (p3 : Int32) (h0 : Heap) (n0 : Nat) (Z0 : n0 ≤ h0.size) (hEL : EW Z a0 EL1) (zc : Int32) (fm : Value) (S1 : Sta Z h0 "java/lang/String" "COMPACT_STRINGS" "Z" (.int zc)) (S2 : Sta Z h0 "jdk/internal/util/Preconditions" "SIOOBE_FORMATTER" "Ljava/util/function/BiFunction;" fm) (hcs : ¬ zc = (0 : Int32)) (hfm : fm.isRef = true) :
    MetFree l x (head1 (Jvm.Cond.code x code maxLocals ret :: ws) room_1) (fun a U => a = #[(.int p0), (.int p1), (.int p2), (.int p3)] ∧ Z.Warmed39 U.vm ∧ U.heap = h0 ∧ CHv Z EL1 U.vm h0) (fun _ _ _ _ _ => True) (fun _ U o U' => ∃ v L, o = .returned v ∧ Q0 Z p0 p1 p2 p3 h0 n0 v U'.heap L ∧ True ∧ ReturnedEndW U o U' L room_1.cells room_1.slots) := by
  refine MetFree.of_bodySF (plainFor_of_name pn_0) hisR ?_
  intro p e s m args below meth c s₁ Bd hml0 hP hK
  obtain ⟨rfl, hZ, hh, hCH⟩ := hP
  have hx := Bd.exec
  have hby := Bd.bytes
  have hml : c.maxLocals = 14 := hml0
  have hown : s.vm.findClass "com/example/paylode/paylode/header/HeaderReaderAtEndPinLaw" = some m.cls := findClass_of_methodNamed Bd.named
  have hnm := (name_of_methodNamed Bd.named Bd.method).1
  have X0 : Stand p l e room_1 s m #[(.int p0), (.int p1), (.int p2), (.int p3)] below meth c s₁ [] 0 0 := Stand.of_body Bd
  have e0 : s₁.heap = h0 := by rw [← hh, Bd.state]; rfl
  have N0 := Fr.nil n0
  have hws : ∀ d ∈ StrChars.Road.words, d.before a0 Z = true := fun d hd => hw d ((by decide +kernel : ∀ d ∈ StrChars.Road.words, d ∈ tables_1) d hd)
  show Go p.tables e below (P0 Z p0 p1 p2 p3 h0 n0 s) (s₁.setTop (entryFrame m #[(.int p0), (.int p1), (.int p2), (.int p3)] maxLocals))
  refine Go.back (fun t k => castTop (ef_0 m p0 p1 p2 p3) k) ?_
  show Go p.tables e below (P0 Z p0 p1 p2 p3 h0 n0 s) (s₁.setTop (mkF m 0 #[.val (.int p0), .val (.int p1), .val (.int p2), .val (.int p3), .unset, .unset, .unset, .unset, .unset, .unset, .unset, .unset, .unset, .unset] []))
  refine Go.back (fun t k => XS.iloadN X0.here hx rfl (hb hby at_0) rfl  k) ?_
  show Go p.tables e below (P0 Z p0 p1 p2 p3 h0 n0 s) (s₁.setTop (mkF m 1 #[.val (.int p0), .val (.int p1), .val (.int p2), .val (.int p3), .unset, .unset, .unset, .unset, .unset, .unset, .unset, .unset, .unset, .unset] [(.int p0)]))
  refine Go.back (fun t k => XS.iconst X0.here hx rfl (hb hby at_1) k) ?_
  show Go p.tables e below (P0 Z p0 p1 p2 p3 h0 n0 s) (s₁.setTop (mkF m 2 #[.val (.int p0), .val (.int p1), .val (.int p2), .val (.int p3), .unset, .unset, .unset, .unset, .unset, .unset, .unset, .unset, .unset, .unset] [(.int (3 : Int32)), (.int p0)]))
  refine Go.back (fun t k => XS.iand X0.here hx rfl (hb hby at_2) rfl k) ?_
  show Go p.tables e below (P0 Z p0 p1 p2 p3 h0 n0 s) (s₁.setTop (mkF m 3 #[.val (.int p0), .val (.int p1), .val (.int p2), .val (.int p3), .unset, .unset, .unset, .unset, .unset, .unset, .unset, .unset, .unset, .unset] [(.int (p0 &&& (3 : Int32)))]))
  refine Go.back (fun t k => XS.istore X0.here hx rfl (hb hby at_3) rfl (l' := #[.val (.int p0), .val (.int p1), .val (.int p2), .val (.int p3), .val (.int (p0 &&& (3 : Int32))), .unset, .unset, .unset, .unset, .unset, .unset, .unset, .unset, .unset]) rfl k) ?_
  show Go p.tables e below (P0 Z p0 p1 p2 p3 h0 n0 s) (s₁.setTop (mkF m 5 #[.val (.int p0), .val (.int p1), .val (.int p2), .val (.int p3), .val (.int (p0 &&& (3 : Int32))), .unset, .unset, .unset, .unset, .unset, .unset, .unset, .unset, .unset] []))
  have J1 : ∀ (z2 : Int32) (hz2 : z2 = (p0 &&& (3 : Int32))), Go p.tables e below (P0 Z p0 p1 p2 p3 h0 n0 s) (s₁.setTop (mkF m 5 #[.val (.int p0), .val (.int p1), .val (.int p2), .val (.int p3), .val (.int z2), .unset, .unset, .unset, .unset, .unset, .unset, .unset, .unset, .unset] [])) := by
    intro z2 hz2
    show Go p.tables e below (P0 Z p0 p1 p2 p3 h0 n0 s) (s₁.setTop (mkF m 5 #[.val (.int p0), .val (.int p1), .val (.int p2), .val (.int p3), .val (.int z2), .unset, .unset, .unset, .unset, .unset, .unset, .unset, .unset, .unset] []))
    rcases own_and3 hz2 with hk | hk | hk | hk
    · clear hz2
      subst hk
      show Go p.tables e below (P0 Z p0 p1 p2 p3 h0 n0 s) (s₁.setTop (mkF m 5 #[.val (.int p0), .val (.int p1), .val (.int p2), .val (.int p3), .val (.int (0 : Int32)), .unset, .unset, .unset, .unset, .unset, .unset, .unset, .unset, .unset] []))
      refine Go.back (fun t k => XS.iloadN X0.here hx rfl (hb hby at_5) rfl  k) ?_
      show Go p.tables e below (P0 Z p0 p1 p2 p3 h0 n0 s) (s₁.setTop (mkF m 6 #[.val (.int p0), .val (.int p1), .val (.int p2), .val (.int p3), .val (.int (0 : Int32)), .unset, .unset, .unset, .unset, .unset, .unset, .unset, .unset, .unset] [(.int p1)]))
      obtain ⟨_, _, ⟨T3, L3, k3, n3⟩, -, X3, ⟨Lc3, hQ3, l3, y3, z3⟩, st3⟩ := Jvm.LawKit.callS X0 hx (y := (⟨"com/example/paylode/paylode/header/HeaderReaderAtEndPinLaw", "draw", "(I)C"⟩ : MethodName)) hown (mvT hZ (hw _ (List.mem_of_getElem? (i := 0) rfl))) (mvT hZ (hw _ (List.mem_of_getElem? (i := 1) rfl))) (mvT hZ (hw _ (List.mem_of_getElem? (i := 2) rfl))) (mvT hZ (hw _ (List.mem_of_getElem? (i := 3) rfl))) (by decide) (backOf (W := 0) (rm1 l Z a0 hw [] p1 h0 n0) hZ (hw _ (List.mem_of_getElem? (i := 3) rfl)) (hw _ (List.mem_of_getElem? (i := 2) rfl)) (by decide) (by decide)) (g := (mkF m 6 #[.val (.int p0), .val (.int p1), .val (.int p2), .val (.int p3), .val (.int (0 : Int32)), .unset, .unset, .unset, .unset, .unset, .unset, .unset, .unset, .unset] [(.int p1)])) rfl (by rw [hml]; rfl) (argsL := [(.int p1)]) (rest := []) (lenOf pd_2 rfl) rfl (by show 2 * 0 + _ ≤ _; exact Nat.le_of_eq rfl) (hb hby at_6) (fun _ _ => ⟨rfl, e0, (by decide : 0 + 0 ≤ _), (by decide : 0 + 0 ≤ _)⟩)
      dsimp only [Pt.U, Pt.locs, Pt.cells, Pt.slots] at X3 l3 y3 z3 st3 hQ3
      subst l3 y3 z3
      obtain ⟨rfl, N3q, e3⟩ := hQ3
      obtain ⟨Lo3, Y3, N3⟩ := pk X3 (Fr.app N0 N3q)
      refine Go.back st3 ?_
      show Go p.tables e below (P0 Z p0 p1 p2 p3 h0 n0 s) (T3.setTop (mkF m 9 #[.val (.int p0), .val (.int p1), .val (.int p2), .val (.int p3), .val (.int (0 : Int32)), .unset, .unset, .unset, .unset, .unset, .unset, .unset, .unset, .unset] [(.int (f1 p1))]))
      refine Go.back (fun t k => XS.istore Y3.here hx rfl (hb hby at_9) rfl (l' := #[.val (.int p0), .val (.int p1), .val (.int p2), .val (.int p3), .val (.int (0 : Int32)), .val (.int (f1 p1)), .unset, .unset, .unset, .unset, .unset, .unset, .unset, .unset]) rfl k) ?_
      show Go p.tables e below (P0 Z p0 p1 p2 p3 h0 n0 s) (T3.setTop (mkF m 11 #[.val (.int p0), .val (.int p1), .val (.int p2), .val (.int p3), .val (.int (0 : Int32)), .val (.int (f1 p1)), .unset, .unset, .unset, .unset, .unset, .unset, .unset, .unset] []))
      have J4 : ∀ (z5 : Int32) (hz5 : z5 = (f1 p1)), Go p.tables e below (P0 Z p0 p1 p2 p3 h0 n0 s) (T3.setTop (mkF m 11 #[.val (.int p0), .val (.int p1), .val (.int p2), .val (.int p3), .val (.int (0 : Int32)), .val (.int z5), .unset, .unset, .unset, .unset, .unset, .unset, .unset, .unset] [])) := by
        intro z5 hz5
        have dz5 := own_draw hz5
        show Go p.tables e below (P0 Z p0 p1 p2 p3 h0 n0 s) (T3.setTop (mkF m 11 #[.val (.int p0), .val (.int p1), .val (.int p2), .val (.int p3), .val (.int (0 : Int32)), .val (.int z5), .unset, .unset, .unset, .unset, .unset, .unset, .unset, .unset] []))
        refine Go.back (fun t k => XS.iloadN Y3.here hx rfl (hb hby at_11) rfl  k) ?_
        show Go p.tables e below (P0 Z p0 p1 p2 p3 h0 n0 s) (T3.setTop (mkF m 12 #[.val (.int p0), .val (.int p1), .val (.int p2), .val (.int p3), .val (.int (0 : Int32)), .val (.int z5), .unset, .unset, .unset, .unset, .unset, .unset, .unset, .unset] [(.int p2)]))
        obtain ⟨_, _, ⟨T6, L6, k6, n6⟩, -, X6, ⟨Lc6, hQ6, l6, y6, z6⟩, st6⟩ := Jvm.LawKit.callS Y3 hx (y := (⟨"com/example/paylode/paylode/header/HeaderReaderAtEndPinLaw", "draw", "(I)C"⟩ : MethodName)) hown (mvT hZ (hw _ (List.mem_of_getElem? (i := 0) rfl))) (mvT hZ (hw _ (List.mem_of_getElem? (i := 1) rfl))) (mvT hZ (hw _ (List.mem_of_getElem? (i := 2) rfl))) (mvT hZ (hw _ (List.mem_of_getElem? (i := 3) rfl))) (by decide) (backOf (W := 0) (rm1 l Z a0 hw [] p2 h0 n0) hZ (hw _ (List.mem_of_getElem? (i := 3) rfl)) (hw _ (List.mem_of_getElem? (i := 2) rfl)) (by decide) (by decide)) (g := (mkF m 12 #[.val (.int p0), .val (.int p1), .val (.int p2), .val (.int p3), .val (.int (0 : Int32)), .val (.int z5), .unset, .unset, .unset, .unset, .unset, .unset, .unset, .unset] [(.int p2)])) rfl (by rw [hml]; rfl) (argsL := [(.int p2)]) (rest := []) (lenOf pd_2 rfl) rfl (by show 2 * 0 + _ ≤ _; exact Nat.le_of_eq rfl) (hb hby at_12) (fun _ _ => ⟨rfl, e3, (by decide : 0 + 0 ≤ _), (by decide : 0 + 0 ≤ _)⟩)
        dsimp only [Pt.U, Pt.locs, Pt.cells, Pt.slots] at X6 l6 y6 z6 st6 hQ6
        subst l6 y6 z6
        obtain ⟨rfl, N6q, e6⟩ := hQ6
        obtain ⟨Lo6, Y6, N6⟩ := pk X6 (Fr.app N3 N6q)
        refine Go.back st6 ?_
        show Go p.tables e below (P0 Z p0 p1 p2 p3 h0 n0 s) (T6.setTop (mkF m 15 #[.val (.int p0), .val (.int p1), .val (.int p2), .val (.int p3), .val (.int (0 : Int32)), .val (.int z5), .unset, .unset, .unset, .unset, .unset, .unset, .unset, .unset] [(.int (f1 p2))]))
        refine Go.back (fun t k => XS.istore Y6.here hx rfl (hb hby at_15) rfl (l' := #[.val (.int p0), .val (.int p1), .val (.int p2), .val (.int p3), .val (.int (0 : Int32)), .val (.int z5), .val (.int (f1 p2)), .unset, .unset, .unset, .unset, .unset, .unset, .unset]) rfl k) ?_
        show Go p.tables e below (P0 Z p0 p1 p2 p3 h0 n0 s) (T6.setTop (mkF m 17 #[.val (.int p0), .val (.int p1), .val (.int p2), .val (.int p3), .val (.int (0 : Int32)), .val (.int z5), .val (.int (f1 p2)), .unset, .unset, .unset, .unset, .unset, .unset, .unset] []))
        have J7 : ∀ (z8 : Int32) (hz8 : z8 = (f1 p2)), Go p.tables e below (P0 Z p0 p1 p2 p3 h0 n0 s) (T6.setTop (mkF m 17 #[.val (.int p0), .val (.int p1), .val (.int p2), .val (.int p3), .val (.int (0 : Int32)), .val (.int z5), .val (.int z8), .unset, .unset, .unset, .unset, .unset, .unset, .unset] [])) := by
          intro z8 hz8
          have dz8 := own_draw hz8
          show Go p.tables e below (P0 Z p0 p1 p2 p3 h0 n0 s) (T6.setTop (mkF m 17 #[.val (.int p0), .val (.int p1), .val (.int p2), .val (.int p3), .val (.int (0 : Int32)), .val (.int z5), .val (.int z8), .unset, .unset, .unset, .unset, .unset, .unset, .unset] []))
          refine Go.back (fun t k => XS.iloadN Y6.here hx rfl (hb hby at_17) rfl  k) ?_
          show Go p.tables e below (P0 Z p0 p1 p2 p3 h0 n0 s) (T6.setTop (mkF m 18 #[.val (.int p0), .val (.int p1), .val (.int p2), .val (.int p3), .val (.int (0 : Int32)), .val (.int z5), .val (.int z8), .unset, .unset, .unset, .unset, .unset, .unset, .unset] [(.int p3)]))
          obtain ⟨_, _, ⟨T9, L9, k9, n9⟩, -, X9, ⟨Lc9, hQ9, l9, y9, z9⟩, st9⟩ := Jvm.LawKit.callS Y6 hx (y := (⟨"com/example/paylode/paylode/header/HeaderReaderAtEndPinLaw", "draw", "(I)C"⟩ : MethodName)) hown (mvT hZ (hw _ (List.mem_of_getElem? (i := 0) rfl))) (mvT hZ (hw _ (List.mem_of_getElem? (i := 1) rfl))) (mvT hZ (hw _ (List.mem_of_getElem? (i := 2) rfl))) (mvT hZ (hw _ (List.mem_of_getElem? (i := 3) rfl))) (by decide) (backOf (W := 0) (rm1 l Z a0 hw [] p3 h0 n0) hZ (hw _ (List.mem_of_getElem? (i := 3) rfl)) (hw _ (List.mem_of_getElem? (i := 2) rfl)) (by decide) (by decide)) (g := (mkF m 18 #[.val (.int p0), .val (.int p1), .val (.int p2), .val (.int p3), .val (.int (0 : Int32)), .val (.int z5), .val (.int z8), .unset, .unset, .unset, .unset, .unset, .unset, .unset] [(.int p3)])) rfl (by rw [hml]; rfl) (argsL := [(.int p3)]) (rest := []) (lenOf pd_2 rfl) rfl (by show 2 * 0 + _ ≤ _; exact Nat.le_of_eq rfl) (hb hby at_18) (fun _ _ => ⟨rfl, e6, (by decide : 0 + 0 ≤ _), (by decide : 0 + 0 ≤ _)⟩)
          dsimp only [Pt.U, Pt.locs, Pt.cells, Pt.slots] at X9 l9 y9 z9 st9 hQ9
          subst l9 y9 z9
          obtain ⟨rfl, N9q, e9⟩ := hQ9
          obtain ⟨Lo9, Y9, N9⟩ := pk X9 (Fr.app N6 N9q)
          refine Go.back st9 ?_
          show Go p.tables e below (P0 Z p0 p1 p2 p3 h0 n0 s) (T9.setTop (mkF m 21 #[.val (.int p0), .val (.int p1), .val (.int p2), .val (.int p3), .val (.int (0 : Int32)), .val (.int z5), .val (.int z8), .unset, .unset, .unset, .unset, .unset, .unset, .unset] [(.int (f1 p3))]))
          refine Go.back (fun t k => XS.istore Y9.here hx rfl (hb hby at_21) rfl (l' := #[.val (.int p0), .val (.int p1), .val (.int p2), .val (.int p3), .val (.int (0 : Int32)), .val (.int z5), .val (.int z8), .val (.int (f1 p3)), .unset, .unset, .unset, .unset, .unset, .unset]) rfl k) ?_
          show Go p.tables e below (P0 Z p0 p1 p2 p3 h0 n0 s) (T9.setTop (mkF m 23 #[.val (.int p0), .val (.int p1), .val (.int p2), .val (.int p3), .val (.int (0 : Int32)), .val (.int z5), .val (.int z8), .val (.int (f1 p3)), .unset, .unset, .unset, .unset, .unset, .unset] []))
          have J10 : ∀ (z11 : Int32) (hz11 : z11 = (f1 p3)), Go p.tables e below (P0 Z p0 p1 p2 p3 h0 n0 s) (T9.setTop (mkF m 23 #[.val (.int p0), .val (.int p1), .val (.int p2), .val (.int p3), .val (.int (0 : Int32)), .val (.int z5), .val (.int z8), .val (.int z11), .unset, .unset, .unset, .unset, .unset, .unset] [])) := by
            intro z11 hz11
            have dz11 := own_draw hz11
            show Go p.tables e below (P0 Z p0 p1 p2 p3 h0 n0 s) (T9.setTop (mkF m 23 #[.val (.int p0), .val (.int p1), .val (.int p2), .val (.int p3), .val (.int (0 : Int32)), .val (.int z5), .val (.int z8), .val (.int z11), .unset, .unset, .unset, .unset, .unset, .unset] []))
            refine Go.back (fun t k => XS.iload Y9.here hx rfl (hb hby at_23) rfl  k) ?_
            show Go p.tables e below (P0 Z p0 p1 p2 p3 h0 n0 s) (T9.setTop (mkF m 25 #[.val (.int p0), .val (.int p1), .val (.int p2), .val (.int p3), .val (.int (0 : Int32)), .val (.int z5), .val (.int z8), .val (.int z11), .unset, .unset, .unset, .unset, .unset, .unset] [(.int (0 : Int32))]))
            refine Go.back (fun t k => XS.ifNo Y9.here hx rfl (hb hby at_25) rfl ((if0 _ _).trans (teq (by decide)).2) k) ?_
            show Go p.tables e below (P0 Z p0 p1 p2 p3 h0 n0 s) (T9.setTop (mkF m 28 #[.val (.int p0), .val (.int p1), .val (.int p2), .val (.int p3), .val (.int (0 : Int32)), .val (.int z5), .val (.int z8), .val (.int z11), .unset, .unset, .unset, .unset, .unset, .unset] []))
            refine Go.back (fun t k => XS.iconst Y9.here hx rfl (hb hby at_28) k) ?_
            show Go p.tables e below (P0 Z p0 p1 p2 p3 h0 n0 s) (T9.setTop (mkF m 29 #[.val (.int p0), .val (.int p1), .val (.int p2), .val (.int p3), .val (.int (0 : Int32)), .val (.int z5), .val (.int z8), .val (.int z11), .unset, .unset, .unset, .unset, .unset, .unset] [(.int (0 : Int32))]))
            obtain ⟨T12, h12, k12, X12, e12, E12, A12, st12⟩ := newP Y9 hx hZ (hw _ (List.mem_of_getElem? (i := 4) rfl)) e9 (g := (mkF m 29 #[.val (.int p0), .val (.int p1), .val (.int p2), .val (.int p3), .val (.int (0 : Int32)), .val (.int z5), .val (.int z8), .val (.int z11), .unset, .unset, .unset, .unset, .unset, .unset] [(.int (0 : Int32))])) rfl (hb hby at_29) rfl (by decide) (cap := 0) (by decide) (by decide) (by decide) (by decide)
            obtain ⟨b12, g12⟩ : ∃ z, z = h0.size := ⟨_, rfl⟩
            rw [← g12] at A12 st12
            have g13 : n0 ≤ b12 := Nat.le_trans Z0 (Nat.le_of_eq g12.symm)
            have F14 : Sta Z h12 "java/lang/String" "COMPACT_STRINGS" "Z" (.int zc) := S1.ext E12
            have F15 : Sta Z h12 "jdk/internal/util/Preconditions" "SIOOBE_FORMATTER" "Ljava/util/function/BiFunction;" fm := S2.ext E12
            have F16 : n0 ≤ h12.size := Nat.le_trans Z0 E12.1
            have F17 : ArL Z h12 b12 .char [] := ArL.new (ty := .char) A12 (n := 0) rfl
            refine Go.back st12 ?_
            show Go p.tables e below (P0 Z p0 p1 p2 p3 h0 n0 s) (T12.setTop (mkF m 31 #[.val (.int p0), .val (.int p1), .val (.int p2), .val (.int p3), .val (.int (0 : Int32)), .val (.int z5), .val (.int z8), .val (.int z11), .unset, .unset, .unset, .unset, .unset, .unset] [(.ref b12)]))
            refine Go.back (fun t k => XS.astore X12.here hx rfl (hb hby at_31) rfl rfl (l' := #[.val (.int p0), .val (.int p1), .val (.int p2), .val (.int p3), .val (.int (0 : Int32)), .val (.int z5), .val (.int z8), .val (.int z11), .val (.ref b12), .unset, .unset, .unset, .unset, .unset]) rfl k) ?_
            show Go p.tables e below (P0 Z p0 p1 p2 p3 h0 n0 s) (T12.setTop (mkF m 33 #[.val (.int p0), .val (.int p1), .val (.int p2), .val (.int p3), .val (.int (0 : Int32)), .val (.int z5), .val (.int z8), .val (.int z11), .val (.ref b12), .unset, .unset, .unset, .unset, .unset] []))
            refine Go.back (fun t k => XS.goto X12.here hx rfl (pc0 := 33) (pc' := 99) rfl (hb hby at_33) (by decide) (by decide) k) ?_
            show Go p.tables e below (P0 Z p0 p1 p2 p3 h0 n0 s) (T12.setTop (mkF m 99 #[.val (.int p0), .val (.int p1), .val (.int p2), .val (.int p3), .val (.int (0 : Int32)), .val (.int z5), .val (.int z8), .val (.int z11), .val (.ref b12), .unset, .unset, .unset, .unset, .unset] []))
            have hp : ∀ c ∈ ([] : List Int32), ¬ c < 0 ∧ ¬ (255 : Int32) < c := fun _ hc => by cases hc
            have hl : ([] : List Int32).length ≤ 3 := Nat.le_of_ble_eq_true rfl
            obtain ⟨T18, h18, X18, e18, E18, A18, D18, -, st18⟩ := newO X12 hx hZ hown (hw _ (List.mem_of_getElem? (i := 5) rfl)) (hw _ (List.mem_of_getElem? (i := 6) rfl)) (hw _ (List.mem_of_getElem? (i := 7) rfl)) e12 (g := (mkF m 99 #[.val (.int p0), .val (.int p1), .val (.int p2), .val (.int p3), .val (.int (0 : Int32)), .val (.int z5), .val (.int z8), .val (.int z11), .val (.ref b12), .unset, .unset, .unset, .unset, .unset] [])) rfl (hb hby at_99) (by decide) (by decide)
            obtain ⟨b18, g18⟩ : ∃ z, z = h12.size := ⟨_, rfl⟩
            rw [← g18] at A18 D18 st18
            have ne19 : b12 ≠ b18 := Nat.ne_of_lt (Nat.lt_of_lt_of_le F17.lt (Nat.le_of_eq g18.symm))
            have g20 : n0 ≤ b18 := Nat.le_trans F16 (Nat.le_of_eq g18.symm)
            have F21 : Sta Z h18 "java/lang/String" "COMPACT_STRINGS" "Z" (.int zc) := F14.ext E18
            have F22 : Sta Z h18 "jdk/internal/util/Preconditions" "SIOOBE_FORMATTER" "Ljava/util/function/BiFunction;" fm := F15.ext E18
            have F23 : n0 ≤ h18.size := Nat.le_trans F16 E18.1
            have F24 : ArL Z h18 b12 .char [] := F17.ext E18
            have F25 : Fld Z h18 b18 "java/lang/String" "value" "[B" .null := D18 (Or.inr (hw _ (List.mem_of_getElem? (i := 20) rfl))) (ty := (.array .byte)) (by decide)
            have F26 : Fld Z h18 b18 "java/lang/String" "coder" "B" (.int (0 : Int32)) := D18 (Or.inr (hw _ (List.mem_of_getElem? (i := 21) rfl))) (ty := .byte) (by decide)
            refine Go.back st18 ?_
            show Go p.tables e below (P0 Z p0 p1 p2 p3 h0 n0 s) (T18.setTop (mkF m 102 #[.val (.int p0), .val (.int p1), .val (.int p2), .val (.int p3), .val (.int (0 : Int32)), .val (.int z5), .val (.int z8), .val (.int z11), .val (.ref b12), .unset, .unset, .unset, .unset, .unset] [(.ref b18)]))
            refine Go.back (fun t k => XS.dup X18.here hx rfl (hb hby at_102) rfl rfl k) ?_
            show Go p.tables e below (P0 Z p0 p1 p2 p3 h0 n0 s) (T18.setTop (mkF m 103 #[.val (.int p0), .val (.int p1), .val (.int p2), .val (.int p3), .val (.int (0 : Int32)), .val (.int z5), .val (.int z8), .val (.int z11), .val (.ref b12), .unset, .unset, .unset, .unset, .unset] [(.ref b18), (.ref b18)]))
            refine Go.back (fun t k => XS.aload X18.here hx rfl (hb hby at_103) rfl rfl  k) ?_
            show Go p.tables e below (P0 Z p0 p1 p2 p3 h0 n0 s) (T18.setTop (mkF m 105 #[.val (.int p0), .val (.int p1), .val (.int p2), .val (.int p3), .val (.int (0 : Int32)), .val (.int z5), .val (.int z8), .val (.int z11), .val (.ref b12), .unset, .unset, .unset, .unset, .unset] [(.ref b12), (.ref b18), (.ref b18)]))
            have hCHa := hCH.ext E12
            have hCHb := hCHa.ext E18
            have Sfx := Safe.ext E18 hCHa (Safe.new (Nat.le_of_eq g18.symm))
            obtain ⟨_, vmC, ⟨TC, LC, kC, nC⟩, -, XC, hSC, hgC, ⟨LcC, hQC, lC, yC, zC, hCC⟩, stC⟩ := X18.specialBackS hx (y := (⟨"java/lang/String", "<init>", "([C)V"⟩ : MethodName)) rfl hown (mvT hZ (hw _ (List.mem_of_getElem? (i := 8) rfl))) (mvT hZ (hw _ (List.mem_of_getElem? (i := 9) rfl))) (mvT hZ (hw _ (List.mem_of_getElem? (i := 10) rfl))) (by decide) (own_backSH (s := s) (vm0 := s.vm) (W := 1) (rm2 l Z a0 hw [] b18 b12 h18 n0 F23 hEL A18 F25 F26 g20 F24 ne19) hZ (hw _ (List.mem_of_getElem? (i := 10) rfl)) (hw _ (List.mem_of_getElem? (i := 7) rfl)) (by decide) (by decide) hEL hCHb A18.lt Sfx) (g := (mkF m 105 #[.val (.int p0), .val (.int p1), .val (.int p2), .val (.int p3), .val (.int (0 : Int32)), .val (.int z5), .val (.int z8), .val (.int z11), .val (.ref b12), .unset, .unset, .unset, .unset, .unset] [(.ref b12), (.ref b18), (.ref b18)])) rfl (by rw [hml]; rfl) (Steps.refl _) (a := b18) (argsL := [(.ref b12)]) (rest := [(.ref b18)]) (lenOf pd_5 rfl) rfl (by show 2 * 0 + _ ≤ _; exact Nat.le_of_eq rfl) (hb hby at_105) (fun _ _ => ⟨rfl, e18, (by decide : 2 + 4 ≤ _), (by decide : 4 + 8 ≤ _)⟩)
            dsimp only [Pt.U, Pt.locs, Pt.cells, Pt.slots] at XC hSC lC yC zC stC hQC hCC hgC
            subst lC yC zC
            obtain ⟨hC, eC⟩ : ∃ z, TC.heap = z := ⟨_, rfl⟩
            rw [eC] at hQC hCC
            obtain ⟨rfl, NCq, KC, vbC, FcC, FvC, AbC, nvC⟩ := hQC
            obtain ⟨LoC, YC, NC⟩ := pk XC (Fr.app N9 NCq)
            have F27 : Sta Z hC "java/lang/String" "COMPACT_STRINGS" "Z" (.int zc) := sta_keep F21 KC (noSS (noS_exa A18) noS0)
            have F28 : Sta Z hC "jdk/internal/util/Preconditions" "SIOOBE_FORMATTER" "Ljava/util/function/BiFunction;" fm := sta_keep F22 KC (noSS (noS_exa A18) noS0)
            have F29 : n0 ≤ hC.size := Nat.le_trans F23 KC.1
            have F30 : ArL Z hC b12 .char [] := F24.keep KC (ninS ne19 nin0)
            have F31 : Exa Z hC b18 "java/lang/String" := A18.keep KC
            have hown : (s.setVm TC.vm).vm.findClass "com/example/paylode/paylode/header/HeaderReaderAtEndPinLaw" = some m.cls := by rw [show (s.setVm TC.vm).vm = TC.vm from rfl, hSC.1.alike.findClass]; exact hown
            have hZ : Z.Warmed39 (s.setVm TC.vm).vm := State.Warmed39.trans (t := s) hZ hSC.1
            refine Go.trans stC ?_
            have F32 : ArL Z hC vbC .byte (List.map Value.int (List.map StrChars.lo8 [])) := AbC
            show Go p.tables e below (P0 Z p0 p1 p2 p3 h0 n0 s) (TC.setTop (mkF m 108 #[.val (.int p0), .val (.int p1), .val (.int p2), .val (.int p3), .val (.int (0 : Int32)), .val (.int z5), .val (.int z8), .val (.int z11), .val (.ref b12), .unset, .unset, .unset, .unset, .unset] [(.ref b18)]))
            refine Go.back (fun t k => XS.astore YC.here hx rfl (hb hby at_108) rfl rfl (l' := #[.val (.int p0), .val (.int p1), .val (.int p2), .val (.int p3), .val (.int (0 : Int32)), .val (.int z5), .val (.int z8), .val (.int z11), .val (.ref b12), .val (.ref b18), .unset, .unset, .unset, .unset]) rfl k) ?_
            show Go p.tables e below (P0 Z p0 p1 p2 p3 h0 n0 s) (TC.setTop (mkF m 110 #[.val (.int p0), .val (.int p1), .val (.int p2), .val (.int p3), .val (.int (0 : Int32)), .val (.int z5), .val (.int z8), .val (.int z11), .val (.ref b12), .val (.ref b18), .unset, .unset, .unset, .unset] []))
            obtain ⟨T33, h33, X33, e33, E33, A33, D33, -, st33⟩ := newO YC hx hZ hown (hw _ (List.mem_of_getElem? (i := 26) rfl)) (hw _ (List.mem_of_getElem? (i := 27) rfl)) (hw _ (List.mem_of_getElem? (i := 28) rfl)) eC (g := (mkF m 110 #[.val (.int p0), .val (.int p1), .val (.int p2), .val (.int p3), .val (.int (0 : Int32)), .val (.int z5), .val (.int z8), .val (.int z11), .val (.ref b12), .val (.ref b18), .unset, .unset, .unset, .unset] [])) rfl (hb hby at_110) (by decide) (by decide)
            obtain ⟨b33, g33⟩ : ∃ z, z = hC.size := ⟨_, rfl⟩
            rw [← g33] at A33 D33 st33
            have ne34 : b12 ≠ b33 := Nat.ne_of_lt (Nat.lt_of_lt_of_le F30.lt (Nat.le_of_eq g33.symm))
            have ne35 : b18 ≠ b33 := Nat.ne_of_lt (Nat.lt_of_lt_of_le F31.lt (Nat.le_of_eq g33.symm))
            have ne36 : vbC ≠ b33 := Nat.ne_of_lt (Nat.lt_of_lt_of_le F32.lt (Nat.le_of_eq g33.symm))
            have g37 : n0 ≤ b33 := Nat.le_trans F29 (Nat.le_of_eq g33.symm)
            have F38 : Sta Z h33 "java/lang/String" "COMPACT_STRINGS" "Z" (.int zc) := F27.ext E33
            have F39 : Sta Z h33 "jdk/internal/util/Preconditions" "SIOOBE_FORMATTER" "Ljava/util/function/BiFunction;" fm := F28.ext E33
            have F40 : n0 ≤ h33.size := Nat.le_trans F29 E33.1
            have F41 : ArL Z h33 b12 .char [] := F30.ext E33
            have F42 : Exa Z h33 b18 "java/lang/String" := F31.ext E33
            have F43 : Fld Z h33 b18 "java/lang/String" "coder" "B" (.int (0 : Int32)) := FcC.ext E33
            have F44 : Fld Z h33 b18 "java/lang/String" "value" "[B" (.ref vbC) := FvC.ext E33
            have F45 : ArL Z h33 vbC .byte (List.map Value.int (List.map StrChars.lo8 [])) := F32.ext E33
            have F46 : Fld Z h33 b33 "com/example/paylode/paylode/header/HeaderReader" "text" "Ljava/lang/String;" .null := D33 (Or.inr (hw _ (List.mem_of_getElem? (i := 35) rfl))) (ty := (.object "java/lang/String")) (by decide)
            have F47 : Fld Z h33 b33 "com/example/paylode/paylode/header/HeaderReader" "what" "Ljava/lang/String;" .null := D33 (Or.inr (hw _ (List.mem_of_getElem? (i := 37) rfl))) (ty := (.object "java/lang/String")) (by decide)
            have F48 : Fld Z h33 b33 "com/example/paylode/paylode/header/HeaderReader" "position" "I" (.int (0 : Int32)) := D33 (Or.inl (hw _ (List.mem_of_getElem? (i := 44) rfl))) (ty := .int) (by decide)
            refine Go.back st33 ?_
            show Go p.tables e below (P0 Z p0 p1 p2 p3 h0 n0 s) (T33.setTop (mkF m 113 #[.val (.int p0), .val (.int p1), .val (.int p2), .val (.int p3), .val (.int (0 : Int32)), .val (.int z5), .val (.int z8), .val (.int z11), .val (.ref b12), .val (.ref b18), .unset, .unset, .unset, .unset] [(.ref b33)]))
            refine Go.back (fun t k => XS.dup X33.here hx rfl (hb hby at_113) rfl rfl k) ?_
            show Go p.tables e below (P0 Z p0 p1 p2 p3 h0 n0 s) (T33.setTop (mkF m 114 #[.val (.int p0), .val (.int p1), .val (.int p2), .val (.int p3), .val (.int (0 : Int32)), .val (.int z5), .val (.int z8), .val (.int z11), .val (.ref b12), .val (.ref b18), .unset, .unset, .unset, .unset] [(.ref b33), (.ref b33)]))
            refine Go.back (fun t k => XS.aload X33.here hx rfl (hb hby at_114) rfl rfl  k) ?_
            show Go p.tables e below (P0 Z p0 p1 p2 p3 h0 n0 s) (T33.setTop (mkF m 116 #[.val (.int p0), .val (.int p1), .val (.int p2), .val (.int p3), .val (.int (0 : Int32)), .val (.int z5), .val (.int z8), .val (.int z11), .val (.ref b12), .val (.ref b18), .unset, .unset, .unset, .unset] [(.ref b18), (.ref b33), (.ref b33)]))
            obtain ⟨aV, TV, hV, kV, XV, eV, EV, hSV, hkV, hZV, hownV, stV⟩ := ldcS (s := s) (vm0 := TC.vm) X33 hx hZ hown (hw _ (List.mem_of_getElem? (i := 29) rfl)) (fun d hd => hw d (own_wS d hd)) e33 hSC (Nat.le_trans (Nat.le_of_eq (by rw [eC])) E33.1) (g := (mkF m 116 #[.val (.int p0), .val (.int p1), .val (.int p2), .val (.int p3), .val (.int (0 : Int32)), .val (.int z5), .val (.int z8), .val (.int z11), .val (.ref b12), .val (.ref b18), .unset, .unset, .unset, .unset] [(.ref b18), (.ref b33), (.ref b33)])) rfl (hb hby at_116) (n := 20) (by decide +kernel) (by decide) (by decide) (by decide)
            have F49 : Sta Z hV "java/lang/String" "COMPACT_STRINGS" "Z" (.int zc) := F38.ext EV
            have F50 : Sta Z hV "jdk/internal/util/Preconditions" "SIOOBE_FORMATTER" "Ljava/util/function/BiFunction;" fm := F39.ext EV
            have F51 : n0 ≤ hV.size := Nat.le_trans F40 EV.1
            have F52 : ArL Z hV b12 .char [] := F41.ext EV
            have F53 : Exa Z hV b18 "java/lang/String" := F42.ext EV
            have F54 : Fld Z hV b18 "java/lang/String" "coder" "B" (.int (0 : Int32)) := F43.ext EV
            have F55 : Fld Z hV b18 "java/lang/String" "value" "[B" (.ref vbC) := F44.ext EV
            have F56 : ArL Z hV vbC .byte (List.map Value.int (List.map StrChars.lo8 [])) := F45.ext EV
            have F57 : Exa Z hV b33 "com/example/paylode/paylode/header/HeaderReader" := A33.ext EV
            have F58 : Fld Z hV b33 "com/example/paylode/paylode/header/HeaderReader" "text" "Ljava/lang/String;" .null := F46.ext EV
            have F59 : Fld Z hV b33 "com/example/paylode/paylode/header/HeaderReader" "what" "Ljava/lang/String;" .null := F47.ext EV
            have F60 : Fld Z hV b33 "com/example/paylode/paylode/header/HeaderReader" "position" "I" (.int (0 : Int32)) := F48.ext EV
            have hZ : Z.Warmed39 (s.setVm TV.vm).vm := hZV
            have hown := hownV
            refine Go.back stV ?_
            show Go p.tables e below (P0 Z p0 p1 p2 p3 h0 n0 s) (TV.setTop (mkF m 118 #[.val (.int p0), .val (.int p1), .val (.int p2), .val (.int p3), .val (.int (0 : Int32)), .val (.int z5), .val (.int z8), .val (.int z11), .val (.ref b12), .val (.ref b18), .unset, .unset, .unset, .unset] [(.ref aV), (.ref b18), (.ref b33), (.ref b33)]))
            obtain ⟨_, _, ⟨T61, L61, k61, n61⟩, -, X61, ⟨Lc61, hQ61, l61, y61, z61⟩, st61⟩ := XV.specialBack hx (y := (⟨"com/example/paylode/paylode/header/HeaderReader", "<init>", "(Ljava/lang/String;Ljava/lang/String;)V"⟩ : MethodName)) rfl hown (mvT hZ (hw _ (List.mem_of_getElem? (i := 30) rfl))) (mvT hZ (hw _ (List.mem_of_getElem? (i := 31) rfl))) (mvT hZ (hw _ (List.mem_of_getElem? (i := 32) rfl))) (by decide) (backOf (W := 1) (rm5 l Z a0 hw [] b33 b18 aV hV n0 F51 F57 F58 F59 F60 g37) hZ (hw _ (List.mem_of_getElem? (i := 32) rfl)) (hw _ (List.mem_of_getElem? (i := 28) rfl)) (by decide) (by decide)) (g := (mkF m 118 #[.val (.int p0), .val (.int p1), .val (.int p2), .val (.int p3), .val (.int (0 : Int32)), .val (.int z5), .val (.int z8), .val (.int z11), .val (.ref b12), .val (.ref b18), .unset, .unset, .unset, .unset] [(.ref aV), (.ref b18), (.ref b33), (.ref b33)])) rfl (by rw [hml]; rfl) (Steps.refl _) (a := b33) (argsL := [(.ref b18), (.ref aV)]) (rest := [(.ref b33)]) (lenOf pd_6 rfl) rfl (by show 2 * 0 + _ ≤ _; exact Nat.le_of_eq rfl) (hb hby at_118) (fun _ _ => ⟨rfl, eV, (by decide : 9 + 0 ≤ _), (by decide : 39 + 0 ≤ _)⟩)
            dsimp only [Pt.U, Pt.locs, Pt.cells, Pt.slots] at X61 l61 y61 z61 st61 hQ61
            subst l61 y61 z61
            obtain ⟨h61, e61⟩ : ∃ z, T61.heap = z := ⟨_, rfl⟩
            rw [e61] at hQ61
            obtain ⟨rfl, N61q, K61, F72, F73⟩ := hQ61
            obtain ⟨Lo61, Y61, N61⟩ := pk X61 (Fr.app NC N61q)
            have F62 : Sta Z h61 "java/lang/String" "COMPACT_STRINGS" "Z" (.int zc) := sta_keep F49 K61 (noSS (noS_exa F57) noS0)
            have F63 : Sta Z h61 "jdk/internal/util/Preconditions" "SIOOBE_FORMATTER" "Ljava/util/function/BiFunction;" fm := sta_keep F50 K61 (noSS (noS_exa F57) noS0)
            have F64 : n0 ≤ h61.size := Nat.le_trans F51 K61.1
            have F65 : ArL Z h61 b12 .char [] := F52.keep K61 (ninS ne34 nin0)
            have F66 : Exa Z h61 b18 "java/lang/String" := F53.keep K61
            have F67 : Fld Z h61 b18 "java/lang/String" "coder" "B" (.int (0 : Int32)) := F54.keep K61 (ninS ne35 nin0)
            have F68 : Fld Z h61 b18 "java/lang/String" "value" "[B" (.ref vbC) := F55.keep K61 (ninS ne35 nin0)
            have F69 : ArL Z h61 vbC .byte (List.map Value.int (List.map StrChars.lo8 [])) := F56.keep K61 (ninS ne36 nin0)
            have F70 : Exa Z h61 b33 "com/example/paylode/paylode/header/HeaderReader" := F57.keep K61
            have F71 : kV ≤ h61.size := Nat.le_trans hkV K61.1
            refine Go.trans st61 ?_
            show Go p.tables e below (P0 Z p0 p1 p2 p3 h0 n0 s) (T61.setTop (mkF m 121 #[.val (.int p0), .val (.int p1), .val (.int p2), .val (.int p3), .val (.int (0 : Int32)), .val (.int z5), .val (.int z8), .val (.int z11), .val (.ref b12), .val (.ref b18), .unset, .unset, .unset, .unset] [(.ref b33)]))
            refine Go.back (fun t k => XS.astore Y61.here hx rfl (hb hby at_121) rfl rfl (l' := #[.val (.int p0), .val (.int p1), .val (.int p2), .val (.int p3), .val (.int (0 : Int32)), .val (.int z5), .val (.int z8), .val (.int z11), .val (.ref b12), .val (.ref b18), .val (.ref b33), .unset, .unset, .unset]) rfl k) ?_
            show Go p.tables e below (P0 Z p0 p1 p2 p3 h0 n0 s) (T61.setTop (mkF m 123 #[.val (.int p0), .val (.int p1), .val (.int p2), .val (.int p3), .val (.int (0 : Int32)), .val (.int z5), .val (.int z8), .val (.int z11), .val (.ref b12), .val (.ref b18), .val (.ref b33), .unset, .unset, .unset] []))
            refine Go.back (fun t k => XS.aload Y61.here hx rfl (hb hby at_123) rfl rfl  k) ?_
            show Go p.tables e below (P0 Z p0 p1 p2 p3 h0 n0 s) (T61.setTop (mkF m 125 #[.val (.int p0), .val (.int p1), .val (.int p2), .val (.int p3), .val (.int (0 : Int32)), .val (.int z5), .val (.int z8), .val (.int z11), .val (.ref b12), .val (.ref b18), .val (.ref b33), .unset, .unset, .unset] [(.ref b33)]))
            obtain ⟨cq74, kq74, q74a, q74b, q74c⟩ := isOf hZ e61 F70
            obtain ⟨_, _, ⟨T74, L74, k74, n74⟩, -, X74, ⟨Lc74, hQ74, l74, y74, z74⟩, st74⟩ := Y61.virtualBack hx (y := (⟨"com/example/paylode/paylode/header/HeaderReader", "position", "()I"⟩ : MethodName)) (z := (⟨"com/example/paylode/paylode/header/HeaderReader", "position", "()I"⟩ : MethodName)) hown (mvT hZ (hw _ (List.mem_of_getElem? (i := 38) rfl))) (mvT hZ (hw _ (List.mem_of_getElem? (i := 39) rfl))) (notFace_of_selects (args := #[]) (mvT hZ (hw _ (List.mem_of_getElem? (i := 41) rfl)))) (mvT hZ (hw _ (List.mem_of_getElem? (i := 41) rfl))) (mvT hZ (hw _ (List.mem_of_getElem? (i := 40) rfl))) (by decide) (backOf (W := 0) (rm6 l Z a0 hw [] b33 (0 : Int32) h61 n0 F64 F72) hZ (hw _ (List.mem_of_getElem? (i := 42) rfl)) (hw _ (List.mem_of_getElem? (i := 28) rfl)) (by decide) (by decide)) q74a q74c (g := (mkF m 125 #[.val (.int p0), .val (.int p1), .val (.int p2), .val (.int p3), .val (.int (0 : Int32)), .val (.int z5), .val (.int z8), .val (.int z11), .val (.ref b12), .val (.ref b18), .val (.ref b33), .unset, .unset, .unset] [(.ref b33)])) rfl (by rw [hml]; rfl) (Steps.refl _) (argsL := []) (rest := []) (lenOf pd_0 rfl) rfl (by show 2 * 0 + _ ≤ _; exact Nat.le_of_eq rfl) (hb hby at_125) (fun _ _ => ⟨rfl, e61, (by decide : 9 + 0 ≤ _), (by decide : 39 + 0 ≤ _)⟩)
            dsimp only [Pt.U, Pt.locs, Pt.cells, Pt.slots] at X74 l74 y74 z74 st74 hQ74
            subst l74 y74 z74
            obtain ⟨rfl, N74q, e74⟩ := hQ74
            obtain ⟨Lo74, Y74, N74⟩ := pk X74 (Fr.app N61 N74q)
            refine Go.trans st74 ?_
            show Go p.tables e below (P0 Z p0 p1 p2 p3 h0 n0 s) (T74.setTop (mkF m 128 #[.val (.int p0), .val (.int p1), .val (.int p2), .val (.int p3), .val (.int (0 : Int32)), .val (.int z5), .val (.int z8), .val (.int z11), .val (.ref b12), .val (.ref b18), .val (.ref b33), .unset, .unset, .unset] [(.int (0 : Int32))]))
            refine Go.back (fun t k => XS.ifNo Y74.here hx rfl (hb hby at_128) rfl ((if0 _ _).trans (teq (by decide)).2) k) ?_
            show Go p.tables e below (P0 Z p0 p1 p2 p3 h0 n0 s) (T74.setTop (mkF m 131 #[.val (.int p0), .val (.int p1), .val (.int p2), .val (.int p3), .val (.int (0 : Int32)), .val (.int z5), .val (.int z8), .val (.int z11), .val (.ref b12), .val (.ref b18), .val (.ref b33), .unset, .unset, .unset] []))
            refine Go.back (fun t k => XS.aload Y74.here hx rfl (hb hby at_131) rfl rfl  k) ?_
            show Go p.tables e below (P0 Z p0 p1 p2 p3 h0 n0 s) (T74.setTop (mkF m 133 #[.val (.int p0), .val (.int p1), .val (.int p2), .val (.int p3), .val (.int (0 : Int32)), .val (.int z5), .val (.int z8), .val (.int z11), .val (.ref b12), .val (.ref b18), .val (.ref b33), .unset, .unset, .unset] [(.ref b33)]))
            obtain ⟨cq75, kq75, q75a, q75b, q75c⟩ := isOf hZ e74 F70
            obtain ⟨_, _, ⟨T75, L75, k75, n75⟩, -, X75, ⟨Lc75, hQ75, l75, y75, z75⟩, st75⟩ := Y74.virtualBack hx (y := (⟨"com/example/paylode/paylode/header/HeaderReader", "atEnd", "()Z"⟩ : MethodName)) (z := (⟨"com/example/paylode/paylode/header/HeaderReader", "atEnd", "()Z"⟩ : MethodName)) hown (mvT hZ (hw _ (List.mem_of_getElem? (i := 45) rfl))) (mvT hZ (hw _ (List.mem_of_getElem? (i := 46) rfl))) (notFace_of_selects (args := #[]) (mvT hZ (hw _ (List.mem_of_getElem? (i := 48) rfl)))) (mvT hZ (hw _ (List.mem_of_getElem? (i := 48) rfl))) (mvT hZ (hw _ (List.mem_of_getElem? (i := 47) rfl))) (by decide) (backOf (W := 0) (rm7 l Z a0 hw [] b33 b18 vbC [] zc fm (0 : Int32) h61 n0 F64 F70 F73 F72 F66 F67 F68 F69 F62 F63 hcs hp hl hfm) hZ (hw _ (List.mem_of_getElem? (i := 49) rfl)) (hw _ (List.mem_of_getElem? (i := 28) rfl)) (by decide) (by decide)) q75a q75c (g := (mkF m 133 #[.val (.int p0), .val (.int p1), .val (.int p2), .val (.int p3), .val (.int (0 : Int32)), .val (.int z5), .val (.int z8), .val (.int z11), .val (.ref b12), .val (.ref b18), .val (.ref b33), .unset, .unset, .unset] [(.ref b33)])) rfl (by rw [hml]; rfl) (Steps.refl _) (argsL := []) (rest := []) (lenOf pd_1 rfl) rfl (by show 2 * 0 + _ ≤ _; exact Nat.le_of_eq rfl) (hb hby at_133) (fun _ _ => ⟨rfl, e74, (by decide : 9 + 0 ≤ _), (by decide : 39 + 0 ≤ _)⟩)
            dsimp only [Pt.U, Pt.locs, Pt.cells, Pt.slots] at X75 l75 y75 z75 st75 hQ75
            subst l75 y75 z75
            obtain ⟨rfl, N75q, e75⟩ := hQ75
            obtain ⟨Lo75, Y75, N75⟩ := pk X75 (Fr.app N74 N75q)
            refine Go.trans st75 ?_
            rw [show (f7 [] (0 : Int32)) = true from by first | rfl | simp [f7]]
            show Go p.tables e below (P0 Z p0 p1 p2 p3 h0 n0 s) (T75.setTop (mkF m 136 #[.val (.int p0), .val (.int p1), .val (.int p2), .val (.int p3), .val (.int (0 : Int32)), .val (.int z5), .val (.int z8), .val (.int z11), .val (.ref b12), .val (.ref b18), .val (.ref b33), .unset, .unset, .unset] [(.int (1 : Int32))]))
            refine Go.back (fun t k => XS.iload Y75.here hx rfl (hb hby at_136) rfl  k) ?_
            show Go p.tables e below (P0 Z p0 p1 p2 p3 h0 n0 s) (T75.setTop (mkF m 138 #[.val (.int p0), .val (.int p1), .val (.int p2), .val (.int p3), .val (.int (0 : Int32)), .val (.int z5), .val (.int z8), .val (.int z11), .val (.ref b12), .val (.ref b18), .val (.ref b33), .unset, .unset, .unset] [(.int (0 : Int32)), (.int (1 : Int32))]))
            refine Go.back (fun t k => XS.ifNo Y75.here hx rfl (hb hby at_138) rfl ((if0 _ _).trans (teq (by decide)).2) k) ?_
            show Go p.tables e below (P0 Z p0 p1 p2 p3 h0 n0 s) (T75.setTop (mkF m 141 #[.val (.int p0), .val (.int p1), .val (.int p2), .val (.int p3), .val (.int (0 : Int32)), .val (.int z5), .val (.int z8), .val (.int z11), .val (.ref b12), .val (.ref b18), .val (.ref b33), .unset, .unset, .unset] [(.int (1 : Int32))]))
            refine Go.back (fun t k => XS.iconst Y75.here hx rfl (hb hby at_141) k) ?_
            show Go p.tables e below (P0 Z p0 p1 p2 p3 h0 n0 s) (T75.setTop (mkF m 142 #[.val (.int p0), .val (.int p1), .val (.int p2), .val (.int p3), .val (.int (0 : Int32)), .val (.int z5), .val (.int z8), .val (.int z11), .val (.ref b12), .val (.ref b18), .val (.ref b33), .unset, .unset, .unset] [(.int (1 : Int32)), (.int (1 : Int32))]))
            refine Go.back (fun t k => XS.goto Y75.here hx rfl (pc0 := 142) (pc' := 146) rfl (hb hby at_142) (by decide) (by decide) k) ?_
            show Go p.tables e below (P0 Z p0 p1 p2 p3 h0 n0 s) (T75.setTop (mkF m 146 #[.val (.int p0), .val (.int p1), .val (.int p2), .val (.int p3), .val (.int (0 : Int32)), .val (.int z5), .val (.int z8), .val (.int z11), .val (.ref b12), .val (.ref b18), .val (.ref b33), .unset, .unset, .unset] [(.int (1 : Int32)), (.int (1 : Int32))]))
            refine Go.back (fun t k => XS.icmpNo Y75.here hx rfl (hb hby at_146) rfl (teq (by decide)).2 k) ?_
            show Go p.tables e below (P0 Z p0 p1 p2 p3 h0 n0 s) (T75.setTop (mkF m 149 #[.val (.int p0), .val (.int p1), .val (.int p2), .val (.int p3), .val (.int (0 : Int32)), .val (.int z5), .val (.int z8), .val (.int z11), .val (.ref b12), .val (.ref b18), .val (.ref b33), .unset, .unset, .unset] []))
            refine Go.back (fun t k => XS.iconst Y75.here hx rfl (hb hby at_149) k) ?_
            show Go p.tables e below (P0 Z p0 p1 p2 p3 h0 n0 s) (T75.setTop (mkF m 150 #[.val (.int p0), .val (.int p1), .val (.int p2), .val (.int p3), .val (.int (0 : Int32)), .val (.int z5), .val (.int z8), .val (.int z11), .val (.ref b12), .val (.ref b18), .val (.ref b33), .unset, .unset, .unset] [(.int (1 : Int32))]))
            refine Go.back (fun t k => XS.goto Y75.here hx rfl (pc0 := 150) (pc' := 154) rfl (hb hby at_150) (by decide) (by decide) k) ?_
            show Go p.tables e below (P0 Z p0 p1 p2 p3 h0 n0 s) (T75.setTop (mkF m 154 #[.val (.int p0), .val (.int p1), .val (.int p2), .val (.int p3), .val (.int (0 : Int32)), .val (.int z5), .val (.int z8), .val (.int z11), .val (.ref b12), .val (.ref b18), .val (.ref b33), .unset, .unset, .unset] [(.int (1 : Int32))]))
            refine Go.back (fun t k => XS.istore Y75.here hx rfl (hb hby at_154) rfl (l' := #[.val (.int p0), .val (.int p1), .val (.int p2), .val (.int p3), .val (.int (0 : Int32)), .val (.int z5), .val (.int z8), .val (.int z11), .val (.ref b12), .val (.ref b18), .val (.ref b33), .val (.int (1 : Int32)), .unset, .unset]) rfl k) ?_
            show Go p.tables e below (P0 Z p0 p1 p2 p3 h0 n0 s) (T75.setTop (mkF m 156 #[.val (.int p0), .val (.int p1), .val (.int p2), .val (.int p3), .val (.int (0 : Int32)), .val (.int z5), .val (.int z8), .val (.int z11), .val (.ref b12), .val (.ref b18), .val (.ref b33), .val (.int (1 : Int32)), .unset, .unset] []))
            refine Go.back (fun t k => XS.iload Y75.here hx rfl (hb hby at_156) rfl  k) ?_
            show Go p.tables e below (P0 Z p0 p1 p2 p3 h0 n0 s) (T75.setTop (mkF m 158 #[.val (.int p0), .val (.int p1), .val (.int p2), .val (.int p3), .val (.int (0 : Int32)), .val (.int z5), .val (.int z8), .val (.int z11), .val (.ref b12), .val (.ref b18), .val (.ref b33), .val (.int (1 : Int32)), .unset, .unset] [(.int (0 : Int32))]))
            refine Go.back (fun t k => XS.iconst Y75.here hx rfl (hb hby at_158) k) ?_
            show Go p.tables e below (P0 Z p0 p1 p2 p3 h0 n0 s) (T75.setTop (mkF m 159 #[.val (.int p0), .val (.int p1), .val (.int p2), .val (.int p3), .val (.int (0 : Int32)), .val (.int z5), .val (.int z8), .val (.int z11), .val (.ref b12), .val (.ref b18), .val (.ref b33), .val (.int (1 : Int32)), .unset, .unset] [(.int (1 : Int32)), (.int (0 : Int32))]))
            refine Go.back (fun t k => XS.icmpYes Y75.here hx rfl (pc0 := 159) (pc' := 216) rfl (hb hby at_159) rfl (tlt (by decide)).1 (by decide) (by decide) k) ?_
            show Go p.tables e below (P0 Z p0 p1 p2 p3 h0 n0 s) (T75.setTop (mkF m 216 #[.val (.int p0), .val (.int p1), .val (.int p2), .val (.int p3), .val (.int (0 : Int32)), .val (.int z5), .val (.int z8), .val (.int z11), .val (.ref b12), .val (.ref b18), .val (.ref b33), .val (.int (1 : Int32)), .unset, .unset] []))
            refine Go.back (fun t k => XS.iconst Y75.here hx rfl (hb hby at_216) k) ?_
            show Go p.tables e below (P0 Z p0 p1 p2 p3 h0 n0 s) (T75.setTop (mkF m 217 #[.val (.int p0), .val (.int p1), .val (.int p2), .val (.int p3), .val (.int (0 : Int32)), .val (.int z5), .val (.int z8), .val (.int z11), .val (.ref b12), .val (.ref b18), .val (.ref b33), .val (.int (1 : Int32)), .unset, .unset] [(.int (0 : Int32))]))
            refine Go.back (fun t k => XS.istore Y75.here hx rfl (hb hby at_217) rfl (l' := #[.val (.int p0), .val (.int p1), .val (.int p2), .val (.int p3), .val (.int (0 : Int32)), .val (.int z5), .val (.int z8), .val (.int z11), .val (.ref b12), .val (.ref b18), .val (.ref b33), .val (.int (1 : Int32)), .val (.int (0 : Int32)), .unset]) rfl k) ?_
            show Go p.tables e below (P0 Z p0 p1 p2 p3 h0 n0 s) (T75.setTop (mkF m 219 #[.val (.int p0), .val (.int p1), .val (.int p2), .val (.int p3), .val (.int (0 : Int32)), .val (.int z5), .val (.int z8), .val (.int z11), .val (.ref b12), .val (.ref b18), .val (.ref b33), .val (.int (1 : Int32)), .val (.int (0 : Int32)), .unset] []))
            refine Go.back (fun t k => XS.aload Y75.here hx rfl (hb hby at_219) rfl rfl  k) ?_
            show Go p.tables e below (P0 Z p0 p1 p2 p3 h0 n0 s) (T75.setTop (mkF m 221 #[.val (.int p0), .val (.int p1), .val (.int p2), .val (.int p3), .val (.int (0 : Int32)), .val (.int z5), .val (.int z8), .val (.int z11), .val (.ref b12), .val (.ref b18), .val (.ref b33), .val (.int (1 : Int32)), .val (.int (0 : Int32)), .unset] [(.ref b33)]))
            obtain ⟨cq76, kq76, q76a, q76b, q76c⟩ := isOf hZ e75 F70
            obtain ⟨_, _, ⟨T76, L76, k76, n76⟩, -, X76, ⟨Lc76, hQ76, l76, y76, z76⟩, st76⟩ := Y75.virtualBack hx (y := (⟨"com/example/paylode/paylode/header/HeaderReader", "skipWhitespace", "()V"⟩ : MethodName)) (z := (⟨"com/example/paylode/paylode/header/HeaderReader", "skipWhitespace", "()V"⟩ : MethodName)) hown (mvT hZ (hw _ (List.mem_of_getElem? (i := 61) rfl))) (mvT hZ (hw _ (List.mem_of_getElem? (i := 62) rfl))) (notFace_of_selects (args := #[]) (mvT hZ (hw _ (List.mem_of_getElem? (i := 64) rfl)))) (mvT hZ (hw _ (List.mem_of_getElem? (i := 64) rfl))) (mvT hZ (hw _ (List.mem_of_getElem? (i := 63) rfl))) (by decide) (backOf (W := 0) (rm10 l Z a0 hw [] b33 b18 vbC [] zc fm h61 n0 F64 F70 F73 F72 F66 F67 F68 F69 F62 F63 g37 ne35 ne36 hcs hp hl hfm) hZ (hw _ (List.mem_of_getElem? (i := 65) rfl)) (hw _ (List.mem_of_getElem? (i := 28) rfl)) (by decide) (by decide)) q76a q76c (g := (mkF m 221 #[.val (.int p0), .val (.int p1), .val (.int p2), .val (.int p3), .val (.int (0 : Int32)), .val (.int z5), .val (.int z8), .val (.int z11), .val (.ref b12), .val (.ref b18), .val (.ref b33), .val (.int (1 : Int32)), .val (.int (0 : Int32)), .unset] [(.ref b33)])) rfl (by rw [hml]; rfl) (Steps.refl _) (argsL := []) (rest := []) (lenOf pd_7 rfl) rfl (by show 2 * 0 + _ ≤ _; exact Nat.le_of_eq rfl) (hb hby at_221) (fun _ _ => ⟨rfl, e75, (by decide : 9 + 0 ≤ _), (by decide : 39 + 0 ≤ _)⟩)
            dsimp only [Pt.U, Pt.locs, Pt.cells, Pt.slots] at X76 l76 y76 z76 st76 hQ76
            subst l76 y76 z76
            obtain ⟨h76, e76⟩ : ∃ z, T76.heap = z := ⟨_, rfl⟩
            rw [e76] at hQ76
            obtain ⟨rfl, N76q, K76, F87, F88⟩ := hQ76
            obtain ⟨Lo76, Y76, N76⟩ := pk X76 (Fr.app N75 N76q)
            have F77 : Sta Z h76 "java/lang/String" "COMPACT_STRINGS" "Z" (.int zc) := sta_keep F62 K76 (noSS (noS_exa F70) noS0)
            have F78 : Sta Z h76 "jdk/internal/util/Preconditions" "SIOOBE_FORMATTER" "Ljava/util/function/BiFunction;" fm := sta_keep F63 K76 (noSS (noS_exa F70) noS0)
            have F79 : n0 ≤ h76.size := Nat.le_trans F64 K76.1
            have F80 : ArL Z h76 b12 .char [] := F65.keep K76 (ninS ne34 nin0)
            have F81 : Exa Z h76 b18 "java/lang/String" := F66.keep K76
            have F82 : Fld Z h76 b18 "java/lang/String" "coder" "B" (.int (0 : Int32)) := F67.keep K76 (ninS ne35 nin0)
            have F83 : Fld Z h76 b18 "java/lang/String" "value" "[B" (.ref vbC) := F68.keep K76 (ninS ne35 nin0)
            have F84 : ArL Z h76 vbC .byte (List.map Value.int (List.map StrChars.lo8 [])) := F69.keep K76 (ninS ne36 nin0)
            have F85 : Exa Z h76 b33 "com/example/paylode/paylode/header/HeaderReader" := F70.keep K76
            have F86 : kV ≤ h76.size := Nat.le_trans F71 K76.1
            refine Go.trans st76 ?_
            show Go p.tables e below (P0 Z p0 p1 p2 p3 h0 n0 s) (T76.setTop (mkF m 224 #[.val (.int p0), .val (.int p1), .val (.int p2), .val (.int p3), .val (.int (0 : Int32)), .val (.int z5), .val (.int z8), .val (.int z11), .val (.ref b12), .val (.ref b18), .val (.ref b33), .val (.int (1 : Int32)), .val (.int (0 : Int32)), .unset] []))
            have F89 : Fld Z h76 b33 "com/example/paylode/paylode/header/HeaderReader" "position" "I" (.int (0 : Int32)) := by
              have q := F87
              rw [show (g10_1 []) = (0 : Int32) from own_sk_0_0 ] at q
              exact q
            refine Go.back (fun t k => XS.iload Y76.here hx rfl (hb hby at_224) rfl  k) ?_
            show Go p.tables e below (P0 Z p0 p1 p2 p3 h0 n0 s) (T76.setTop (mkF m 226 #[.val (.int p0), .val (.int p1), .val (.int p2), .val (.int p3), .val (.int (0 : Int32)), .val (.int z5), .val (.int z8), .val (.int z11), .val (.ref b12), .val (.ref b18), .val (.ref b33), .val (.int (1 : Int32)), .val (.int (0 : Int32)), .unset] [(.int (1 : Int32))]))
            refine Go.back (fun t k => XS.ifNo Y76.here hx rfl (hb hby at_226) rfl ((if0 _ _).trans (feq (by decide)).1) k) ?_
            show Go p.tables e below (P0 Z p0 p1 p2 p3 h0 n0 s) (T76.setTop (mkF m 229 #[.val (.int p0), .val (.int p1), .val (.int p2), .val (.int p3), .val (.int (0 : Int32)), .val (.int z5), .val (.int z8), .val (.int z11), .val (.ref b12), .val (.ref b18), .val (.ref b33), .val (.int (1 : Int32)), .val (.int (0 : Int32)), .unset] []))
            refine Go.back (fun t k => XS.aload Y76.here hx rfl (hb hby at_229) rfl rfl  k) ?_
            show Go p.tables e below (P0 Z p0 p1 p2 p3 h0 n0 s) (T76.setTop (mkF m 231 #[.val (.int p0), .val (.int p1), .val (.int p2), .val (.int p3), .val (.int (0 : Int32)), .val (.int z5), .val (.int z8), .val (.int z11), .val (.ref b12), .val (.ref b18), .val (.ref b33), .val (.int (1 : Int32)), .val (.int (0 : Int32)), .unset] [(.ref b33)]))
            obtain ⟨cq90, kq90, q90a, q90b, q90c⟩ := isOf hZ e76 F85
            obtain ⟨_, _, ⟨T90, L90, k90, n90⟩, -, X90, ⟨Lc90, hQ90, l90, y90, z90⟩, st90⟩ := Y76.virtualBack hx (y := (⟨"com/example/paylode/paylode/header/HeaderReader", "position", "()I"⟩ : MethodName)) (z := (⟨"com/example/paylode/paylode/header/HeaderReader", "position", "()I"⟩ : MethodName)) hown (mvT hZ (hw _ (List.mem_of_getElem? (i := 38) rfl))) (mvT hZ (hw _ (List.mem_of_getElem? (i := 39) rfl))) (notFace_of_selects (args := #[]) (mvT hZ (hw _ (List.mem_of_getElem? (i := 41) rfl)))) (mvT hZ (hw _ (List.mem_of_getElem? (i := 41) rfl))) (mvT hZ (hw _ (List.mem_of_getElem? (i := 40) rfl))) (by decide) (backOf (W := 0) (rm6 l Z a0 hw [] b33 (0 : Int32) h76 n0 F79 F89) hZ (hw _ (List.mem_of_getElem? (i := 42) rfl)) (hw _ (List.mem_of_getElem? (i := 28) rfl)) (by decide) (by decide)) q90a q90c (g := (mkF m 231 #[.val (.int p0), .val (.int p1), .val (.int p2), .val (.int p3), .val (.int (0 : Int32)), .val (.int z5), .val (.int z8), .val (.int z11), .val (.ref b12), .val (.ref b18), .val (.ref b33), .val (.int (1 : Int32)), .val (.int (0 : Int32)), .unset] [(.ref b33)])) rfl (by rw [hml]; rfl) (Steps.refl _) (argsL := []) (rest := []) (lenOf pd_0 rfl) rfl (by show 2 * 0 + _ ≤ _; exact Nat.le_of_eq rfl) (hb hby at_231) (fun _ _ => ⟨rfl, e76, (by decide : 9 + 0 ≤ _), (by decide : 39 + 0 ≤ _)⟩)
            dsimp only [Pt.U, Pt.locs, Pt.cells, Pt.slots] at X90 l90 y90 z90 st90 hQ90
            subst l90 y90 z90
            obtain ⟨rfl, N90q, e90⟩ := hQ90
            obtain ⟨Lo90, Y90, N90⟩ := pk X90 (Fr.app N76 N90q)
            refine Go.trans st90 ?_
            show Go p.tables e below (P0 Z p0 p1 p2 p3 h0 n0 s) (T90.setTop (mkF m 234 #[.val (.int p0), .val (.int p1), .val (.int p2), .val (.int p3), .val (.int (0 : Int32)), .val (.int z5), .val (.int z8), .val (.int z11), .val (.ref b12), .val (.ref b18), .val (.ref b33), .val (.int (1 : Int32)), .val (.int (0 : Int32)), .unset] [(.int (0 : Int32))]))
            refine Go.back (fun t k => XS.iload Y90.here hx rfl (hb hby at_234) rfl  k) ?_
            show Go p.tables e below (P0 Z p0 p1 p2 p3 h0 n0 s) (T90.setTop (mkF m 236 #[.val (.int p0), .val (.int p1), .val (.int p2), .val (.int p3), .val (.int (0 : Int32)), .val (.int z5), .val (.int z8), .val (.int z11), .val (.ref b12), .val (.ref b18), .val (.ref b33), .val (.int (1 : Int32)), .val (.int (0 : Int32)), .unset] [(.int (0 : Int32)), (.int (0 : Int32))]))
            refine Go.back (fun t k => XS.icmpNo Y90.here hx rfl (hb hby at_236) rfl (teq (by decide)).2 k) ?_
            show Go p.tables e below (P0 Z p0 p1 p2 p3 h0 n0 s) (T90.setTop (mkF m 239 #[.val (.int p0), .val (.int p1), .val (.int p2), .val (.int p3), .val (.int (0 : Int32)), .val (.int z5), .val (.int z8), .val (.int z11), .val (.ref b12), .val (.ref b18), .val (.ref b33), .val (.int (1 : Int32)), .val (.int (0 : Int32)), .unset] []))
            refine Go.back (fun t k => XS.aload Y90.here hx rfl (hb hby at_239) rfl rfl  k) ?_
            show Go p.tables e below (P0 Z p0 p1 p2 p3 h0 n0 s) (T90.setTop (mkF m 241 #[.val (.int p0), .val (.int p1), .val (.int p2), .val (.int p3), .val (.int (0 : Int32)), .val (.int z5), .val (.int z8), .val (.int z11), .val (.ref b12), .val (.ref b18), .val (.ref b33), .val (.int (1 : Int32)), .val (.int (0 : Int32)), .unset] [(.ref b33)]))
            obtain ⟨cq91, kq91, q91a, q91b, q91c⟩ := isOf hZ e90 F85
            obtain ⟨_, _, ⟨T91, L91, k91, n91⟩, -, X91, ⟨Lc91, hQ91, l91, y91, z91⟩, st91⟩ := Y90.virtualBack hx (y := (⟨"com/example/paylode/paylode/header/HeaderReader", "atEnd", "()Z"⟩ : MethodName)) (z := (⟨"com/example/paylode/paylode/header/HeaderReader", "atEnd", "()Z"⟩ : MethodName)) hown (mvT hZ (hw _ (List.mem_of_getElem? (i := 45) rfl))) (mvT hZ (hw _ (List.mem_of_getElem? (i := 46) rfl))) (notFace_of_selects (args := #[]) (mvT hZ (hw _ (List.mem_of_getElem? (i := 48) rfl)))) (mvT hZ (hw _ (List.mem_of_getElem? (i := 48) rfl))) (mvT hZ (hw _ (List.mem_of_getElem? (i := 47) rfl))) (by decide) (backOf (W := 0) (rm7 l Z a0 hw [] b33 b18 vbC [] zc fm (0 : Int32) h76 n0 F79 F85 F88 F89 F81 F82 F83 F84 F77 F78 hcs hp hl hfm) hZ (hw _ (List.mem_of_getElem? (i := 49) rfl)) (hw _ (List.mem_of_getElem? (i := 28) rfl)) (by decide) (by decide)) q91a q91c (g := (mkF m 241 #[.val (.int p0), .val (.int p1), .val (.int p2), .val (.int p3), .val (.int (0 : Int32)), .val (.int z5), .val (.int z8), .val (.int z11), .val (.ref b12), .val (.ref b18), .val (.ref b33), .val (.int (1 : Int32)), .val (.int (0 : Int32)), .unset] [(.ref b33)])) rfl (by rw [hml]; rfl) (Steps.refl _) (argsL := []) (rest := []) (lenOf pd_1 rfl) rfl (by show 2 * 0 + _ ≤ _; exact Nat.le_of_eq rfl) (hb hby at_241) (fun _ _ => ⟨rfl, e90, (by decide : 9 + 0 ≤ _), (by decide : 39 + 0 ≤ _)⟩)
            dsimp only [Pt.U, Pt.locs, Pt.cells, Pt.slots] at X91 l91 y91 z91 st91 hQ91
            subst l91 y91 z91
            obtain ⟨rfl, N91q, e91⟩ := hQ91
            obtain ⟨Lo91, Y91, N91⟩ := pk X91 (Fr.app N90 N91q)
            refine Go.trans st91 ?_
            rw [show (f7 [] (0 : Int32)) = true from by first | rfl | simp [f7]]
            show Go p.tables e below (P0 Z p0 p1 p2 p3 h0 n0 s) (T91.setTop (mkF m 244 #[.val (.int p0), .val (.int p1), .val (.int p2), .val (.int p3), .val (.int (0 : Int32)), .val (.int z5), .val (.int z8), .val (.int z11), .val (.ref b12), .val (.ref b18), .val (.ref b33), .val (.int (1 : Int32)), .val (.int (0 : Int32)), .unset] [(.int (1 : Int32))]))
            refine Go.back (fun t k => XS.iload Y91.here hx rfl (hb hby at_244) rfl  k) ?_
            show Go p.tables e below (P0 Z p0 p1 p2 p3 h0 n0 s) (T91.setTop (mkF m 246 #[.val (.int p0), .val (.int p1), .val (.int p2), .val (.int p3), .val (.int (0 : Int32)), .val (.int z5), .val (.int z8), .val (.int z11), .val (.ref b12), .val (.ref b18), .val (.ref b33), .val (.int (1 : Int32)), .val (.int (0 : Int32)), .unset] [(.int (0 : Int32)), (.int (1 : Int32))]))
            refine Go.back (fun t k => XS.iload Y91.here hx rfl (hb hby at_246) rfl  k) ?_
            show Go p.tables e below (P0 Z p0 p1 p2 p3 h0 n0 s) (T91.setTop (mkF m 248 #[.val (.int p0), .val (.int p1), .val (.int p2), .val (.int p3), .val (.int (0 : Int32)), .val (.int z5), .val (.int z8), .val (.int z11), .val (.ref b12), .val (.ref b18), .val (.ref b33), .val (.int (1 : Int32)), .val (.int (0 : Int32)), .unset] [(.int (0 : Int32)), (.int (0 : Int32)), (.int (1 : Int32))]))
            refine Go.back (fun t k => XS.icmpNo Y91.here hx rfl (hb hby at_248) rfl (teq (by decide)).2 k) ?_
            show Go p.tables e below (P0 Z p0 p1 p2 p3 h0 n0 s) (T91.setTop (mkF m 251 #[.val (.int p0), .val (.int p1), .val (.int p2), .val (.int p3), .val (.int (0 : Int32)), .val (.int z5), .val (.int z8), .val (.int z11), .val (.ref b12), .val (.ref b18), .val (.ref b33), .val (.int (1 : Int32)), .val (.int (0 : Int32)), .unset] [(.int (1 : Int32))]))
            refine Go.back (fun t k => XS.iconst Y91.here hx rfl (hb hby at_251) k) ?_
            show Go p.tables e below (P0 Z p0 p1 p2 p3 h0 n0 s) (T91.setTop (mkF m 252 #[.val (.int p0), .val (.int p1), .val (.int p2), .val (.int p3), .val (.int (0 : Int32)), .val (.int z5), .val (.int z8), .val (.int z11), .val (.ref b12), .val (.ref b18), .val (.ref b33), .val (.int (1 : Int32)), .val (.int (0 : Int32)), .unset] [(.int (1 : Int32)), (.int (1 : Int32))]))
            refine Go.back (fun t k => XS.goto Y91.here hx rfl (pc0 := 252) (pc' := 256) rfl (hb hby at_252) (by decide) (by decide) k) ?_
            show Go p.tables e below (P0 Z p0 p1 p2 p3 h0 n0 s) (T91.setTop (mkF m 256 #[.val (.int p0), .val (.int p1), .val (.int p2), .val (.int p3), .val (.int (0 : Int32)), .val (.int z5), .val (.int z8), .val (.int z11), .val (.ref b12), .val (.ref b18), .val (.ref b33), .val (.int (1 : Int32)), .val (.int (0 : Int32)), .unset] [(.int (1 : Int32)), (.int (1 : Int32))]))
            refine Go.back (fun t k => XS.icmpNo Y91.here hx rfl (hb hby at_256) rfl (teq (by decide)).2 k) ?_
            show Go p.tables e below (P0 Z p0 p1 p2 p3 h0 n0 s) (T91.setTop (mkF m 259 #[.val (.int p0), .val (.int p1), .val (.int p2), .val (.int p3), .val (.int (0 : Int32)), .val (.int z5), .val (.int z8), .val (.int z11), .val (.ref b12), .val (.ref b18), .val (.ref b33), .val (.int (1 : Int32)), .val (.int (0 : Int32)), .unset] []))
            refine Go.back (fun t k => XS.iconst Y91.here hx rfl (hb hby at_259) k) ?_
            show Go p.tables e below (P0 Z p0 p1 p2 p3 h0 n0 s) (T91.setTop (mkF m 260 #[.val (.int p0), .val (.int p1), .val (.int p2), .val (.int p3), .val (.int (0 : Int32)), .val (.int z5), .val (.int z8), .val (.int z11), .val (.ref b12), .val (.ref b18), .val (.ref b33), .val (.int (1 : Int32)), .val (.int (0 : Int32)), .unset] [(.int (1 : Int32))]))
            refine Go.back (fun t k => XS.goto Y91.here hx rfl (pc0 := 260) (pc' := 264) rfl (hb hby at_260) (by decide) (by decide) k) ?_
            show Go p.tables e below (P0 Z p0 p1 p2 p3 h0 n0 s) (T91.setTop (mkF m 264 #[.val (.int p0), .val (.int p1), .val (.int p2), .val (.int p3), .val (.int (0 : Int32)), .val (.int z5), .val (.int z8), .val (.int z11), .val (.ref b12), .val (.ref b18), .val (.ref b33), .val (.int (1 : Int32)), .val (.int (0 : Int32)), .unset] [(.int (1 : Int32))]))
            refine Go.back (fun t k => XS.istore Y91.here hx rfl (hb hby at_264) rfl (l' := #[.val (.int p0), .val (.int p1), .val (.int p2), .val (.int p3), .val (.int (0 : Int32)), .val (.int z5), .val (.int z8), .val (.int z11), .val (.ref b12), .val (.ref b18), .val (.ref b33), .val (.int (1 : Int32)), .val (.int (0 : Int32)), .unset]) rfl k) ?_
            show Go p.tables e below (P0 Z p0 p1 p2 p3 h0 n0 s) (T91.setTop (mkF m 266 #[.val (.int p0), .val (.int p1), .val (.int p2), .val (.int p3), .val (.int (0 : Int32)), .val (.int z5), .val (.int z8), .val (.int z11), .val (.ref b12), .val (.ref b18), .val (.ref b33), .val (.int (1 : Int32)), .val (.int (0 : Int32)), .unset] []))
            refine Go.back (fun t k => XS.iload Y91.here hx rfl (hb hby at_266) rfl  k) ?_
            show Go p.tables e below (P0 Z p0 p1 p2 p3 h0 n0 s) (T91.setTop (mkF m 268 #[.val (.int p0), .val (.int p1), .val (.int p2), .val (.int p3), .val (.int (0 : Int32)), .val (.int z5), .val (.int z8), .val (.int z11), .val (.ref b12), .val (.ref b18), .val (.ref b33), .val (.int (1 : Int32)), .val (.int (0 : Int32)), .unset] [(.int (0 : Int32))]))
            refine Go.back (fun t k => XS.iload Y91.here hx rfl (hb hby at_268) rfl  k) ?_
            show Go p.tables e below (P0 Z p0 p1 p2 p3 h0 n0 s) (T91.setTop (mkF m 270 #[.val (.int p0), .val (.int p1), .val (.int p2), .val (.int p3), .val (.int (0 : Int32)), .val (.int z5), .val (.int z8), .val (.int z11), .val (.ref b12), .val (.ref b18), .val (.ref b33), .val (.int (1 : Int32)), .val (.int (0 : Int32)), .unset] [(.int (0 : Int32)), (.int (0 : Int32))]))
            refine Go.back (fun t k => XS.icmpYes Y91.here hx rfl (pc0 := 270) (pc' := 351) rfl (hb hby at_270) rfl (flt (by decide)).2.1 (by decide) (by decide) k) ?_
            show Go p.tables e below (P0 Z p0 p1 p2 p3 h0 n0 s) (T91.setTop (mkF m 351 #[.val (.int p0), .val (.int p1), .val (.int p2), .val (.int p3), .val (.int (0 : Int32)), .val (.int z5), .val (.int z8), .val (.int z11), .val (.ref b12), .val (.ref b18), .val (.ref b33), .val (.int (1 : Int32)), .val (.int (0 : Int32)), .unset] []))
            refine Go.back (fun t k => XS.iload Y91.here hx rfl (hb hby at_351) rfl  k) ?_
            show Go p.tables e below (P0 Z p0 p1 p2 p3 h0 n0 s) (T91.setTop (mkF m 353 #[.val (.int p0), .val (.int p1), .val (.int p2), .val (.int p3), .val (.int (0 : Int32)), .val (.int z5), .val (.int z8), .val (.int z11), .val (.ref b12), .val (.ref b18), .val (.ref b33), .val (.int (1 : Int32)), .val (.int (0 : Int32)), .unset] [(.int (1 : Int32))]))
            exact Go.retBW (s := s) (vm0 := TV.vm) (b := true) (Qa := Q0 Z p0 p1 p2 p3 h0 n0) (Qb := fun vm h => True) Y91 hx hSV (by rw [e91]; exact F86) Bd.returns (hb hby at_353) Bd.notSynchronized ⟨rfl, N91⟩ trivial (by decide) (by decide)
          exact J10 _ rfl
        exact J7 _ rfl
      exact J4 _ rfl
    · clear hz2
      subst hk
      show Go p.tables e below (P0 Z p0 p1 p2 p3 h0 n0 s) (s₁.setTop (mkF m 5 #[.val (.int p0), .val (.int p1), .val (.int p2), .val (.int p3), .val (.int (1 : Int32)), .unset, .unset, .unset, .unset, .unset, .unset, .unset, .unset, .unset] []))
      refine Go.back (fun t k => XS.iloadN X0.here hx rfl (hb hby at_5) rfl  k) ?_
      show Go p.tables e below (P0 Z p0 p1 p2 p3 h0 n0 s) (s₁.setTop (mkF m 6 #[.val (.int p0), .val (.int p1), .val (.int p2), .val (.int p3), .val (.int (1 : Int32)), .unset, .unset, .unset, .unset, .unset, .unset, .unset, .unset, .unset] [(.int p1)]))
      obtain ⟨_, _, ⟨T92, L92, k92, n92⟩, -, X92, ⟨Lc92, hQ92, l92, y92, z92⟩, st92⟩ := Jvm.LawKit.callS X0 hx (y := (⟨"com/example/paylode/paylode/header/HeaderReaderAtEndPinLaw", "draw", "(I)C"⟩ : MethodName)) hown (mvT hZ (hw _ (List.mem_of_getElem? (i := 0) rfl))) (mvT hZ (hw _ (List.mem_of_getElem? (i := 1) rfl))) (mvT hZ (hw _ (List.mem_of_getElem? (i := 2) rfl))) (mvT hZ (hw _ (List.mem_of_getElem? (i := 3) rfl))) (by decide) (backOf (W := 0) (rm1 l Z a0 hw [] p1 h0 n0) hZ (hw _ (List.mem_of_getElem? (i := 3) rfl)) (hw _ (List.mem_of_getElem? (i := 2) rfl)) (by decide) (by decide)) (g := (mkF m 6 #[.val (.int p0), .val (.int p1), .val (.int p2), .val (.int p3), .val (.int (1 : Int32)), .unset, .unset, .unset, .unset, .unset, .unset, .unset, .unset, .unset] [(.int p1)])) rfl (by rw [hml]; rfl) (argsL := [(.int p1)]) (rest := []) (lenOf pd_2 rfl) rfl (by show 2 * 0 + _ ≤ _; exact Nat.le_of_eq rfl) (hb hby at_6) (fun _ _ => ⟨rfl, e0, (by decide : 0 + 0 ≤ _), (by decide : 0 + 0 ≤ _)⟩)
      dsimp only [Pt.U, Pt.locs, Pt.cells, Pt.slots] at X92 l92 y92 z92 st92 hQ92
      subst l92 y92 z92
      obtain ⟨rfl, N92q, e92⟩ := hQ92
      obtain ⟨Lo92, Y92, N92⟩ := pk X92 (Fr.app N0 N92q)
      refine Go.back st92 ?_
      show Go p.tables e below (P0 Z p0 p1 p2 p3 h0 n0 s) (T92.setTop (mkF m 9 #[.val (.int p0), .val (.int p1), .val (.int p2), .val (.int p3), .val (.int (1 : Int32)), .unset, .unset, .unset, .unset, .unset, .unset, .unset, .unset, .unset] [(.int (f1 p1))]))
      refine Go.back (fun t k => XS.istore Y92.here hx rfl (hb hby at_9) rfl (l' := #[.val (.int p0), .val (.int p1), .val (.int p2), .val (.int p3), .val (.int (1 : Int32)), .val (.int (f1 p1)), .unset, .unset, .unset, .unset, .unset, .unset, .unset, .unset]) rfl k) ?_
      show Go p.tables e below (P0 Z p0 p1 p2 p3 h0 n0 s) (T92.setTop (mkF m 11 #[.val (.int p0), .val (.int p1), .val (.int p2), .val (.int p3), .val (.int (1 : Int32)), .val (.int (f1 p1)), .unset, .unset, .unset, .unset, .unset, .unset, .unset, .unset] []))
      have J93 : ∀ (z94 : Int32) (hz94 : z94 = (f1 p1)), Go p.tables e below (P0 Z p0 p1 p2 p3 h0 n0 s) (T92.setTop (mkF m 11 #[.val (.int p0), .val (.int p1), .val (.int p2), .val (.int p3), .val (.int (1 : Int32)), .val (.int z94), .unset, .unset, .unset, .unset, .unset, .unset, .unset, .unset] [])) := by
        intro z94 hz94
        have dz94 := own_draw hz94
        show Go p.tables e below (P0 Z p0 p1 p2 p3 h0 n0 s) (T92.setTop (mkF m 11 #[.val (.int p0), .val (.int p1), .val (.int p2), .val (.int p3), .val (.int (1 : Int32)), .val (.int z94), .unset, .unset, .unset, .unset, .unset, .unset, .unset, .unset] []))
        refine Go.back (fun t k => XS.iloadN Y92.here hx rfl (hb hby at_11) rfl  k) ?_
        show Go p.tables e below (P0 Z p0 p1 p2 p3 h0 n0 s) (T92.setTop (mkF m 12 #[.val (.int p0), .val (.int p1), .val (.int p2), .val (.int p3), .val (.int (1 : Int32)), .val (.int z94), .unset, .unset, .unset, .unset, .unset, .unset, .unset, .unset] [(.int p2)]))
        obtain ⟨_, _, ⟨T95, L95, k95, n95⟩, -, X95, ⟨Lc95, hQ95, l95, y95, z95⟩, st95⟩ := Jvm.LawKit.callS Y92 hx (y := (⟨"com/example/paylode/paylode/header/HeaderReaderAtEndPinLaw", "draw", "(I)C"⟩ : MethodName)) hown (mvT hZ (hw _ (List.mem_of_getElem? (i := 0) rfl))) (mvT hZ (hw _ (List.mem_of_getElem? (i := 1) rfl))) (mvT hZ (hw _ (List.mem_of_getElem? (i := 2) rfl))) (mvT hZ (hw _ (List.mem_of_getElem? (i := 3) rfl))) (by decide) (backOf (W := 0) (rm1 l Z a0 hw [] p2 h0 n0) hZ (hw _ (List.mem_of_getElem? (i := 3) rfl)) (hw _ (List.mem_of_getElem? (i := 2) rfl)) (by decide) (by decide)) (g := (mkF m 12 #[.val (.int p0), .val (.int p1), .val (.int p2), .val (.int p3), .val (.int (1 : Int32)), .val (.int z94), .unset, .unset, .unset, .unset, .unset, .unset, .unset, .unset] [(.int p2)])) rfl (by rw [hml]; rfl) (argsL := [(.int p2)]) (rest := []) (lenOf pd_2 rfl) rfl (by show 2 * 0 + _ ≤ _; exact Nat.le_of_eq rfl) (hb hby at_12) (fun _ _ => ⟨rfl, e92, (by decide : 0 + 0 ≤ _), (by decide : 0 + 0 ≤ _)⟩)
        dsimp only [Pt.U, Pt.locs, Pt.cells, Pt.slots] at X95 l95 y95 z95 st95 hQ95
        subst l95 y95 z95
        obtain ⟨rfl, N95q, e95⟩ := hQ95
        obtain ⟨Lo95, Y95, N95⟩ := pk X95 (Fr.app N92 N95q)
        refine Go.back st95 ?_
        show Go p.tables e below (P0 Z p0 p1 p2 p3 h0 n0 s) (T95.setTop (mkF m 15 #[.val (.int p0), .val (.int p1), .val (.int p2), .val (.int p3), .val (.int (1 : Int32)), .val (.int z94), .unset, .unset, .unset, .unset, .unset, .unset, .unset, .unset] [(.int (f1 p2))]))
        refine Go.back (fun t k => XS.istore Y95.here hx rfl (hb hby at_15) rfl (l' := #[.val (.int p0), .val (.int p1), .val (.int p2), .val (.int p3), .val (.int (1 : Int32)), .val (.int z94), .val (.int (f1 p2)), .unset, .unset, .unset, .unset, .unset, .unset, .unset]) rfl k) ?_
        show Go p.tables e below (P0 Z p0 p1 p2 p3 h0 n0 s) (T95.setTop (mkF m 17 #[.val (.int p0), .val (.int p1), .val (.int p2), .val (.int p3), .val (.int (1 : Int32)), .val (.int z94), .val (.int (f1 p2)), .unset, .unset, .unset, .unset, .unset, .unset, .unset] []))
        have J96 : ∀ (z97 : Int32) (hz97 : z97 = (f1 p2)), Go p.tables e below (P0 Z p0 p1 p2 p3 h0 n0 s) (T95.setTop (mkF m 17 #[.val (.int p0), .val (.int p1), .val (.int p2), .val (.int p3), .val (.int (1 : Int32)), .val (.int z94), .val (.int z97), .unset, .unset, .unset, .unset, .unset, .unset, .unset] [])) := by
          intro z97 hz97
          have dz97 := own_draw hz97
          show Go p.tables e below (P0 Z p0 p1 p2 p3 h0 n0 s) (T95.setTop (mkF m 17 #[.val (.int p0), .val (.int p1), .val (.int p2), .val (.int p3), .val (.int (1 : Int32)), .val (.int z94), .val (.int z97), .unset, .unset, .unset, .unset, .unset, .unset, .unset] []))
          refine Go.back (fun t k => XS.iloadN Y95.here hx rfl (hb hby at_17) rfl  k) ?_
          show Go p.tables e below (P0 Z p0 p1 p2 p3 h0 n0 s) (T95.setTop (mkF m 18 #[.val (.int p0), .val (.int p1), .val (.int p2), .val (.int p3), .val (.int (1 : Int32)), .val (.int z94), .val (.int z97), .unset, .unset, .unset, .unset, .unset, .unset, .unset] [(.int p3)]))
          obtain ⟨_, _, ⟨T98, L98, k98, n98⟩, -, X98, ⟨Lc98, hQ98, l98, y98, z98⟩, st98⟩ := Jvm.LawKit.callS Y95 hx (y := (⟨"com/example/paylode/paylode/header/HeaderReaderAtEndPinLaw", "draw", "(I)C"⟩ : MethodName)) hown (mvT hZ (hw _ (List.mem_of_getElem? (i := 0) rfl))) (mvT hZ (hw _ (List.mem_of_getElem? (i := 1) rfl))) (mvT hZ (hw _ (List.mem_of_getElem? (i := 2) rfl))) (mvT hZ (hw _ (List.mem_of_getElem? (i := 3) rfl))) (by decide) (backOf (W := 0) (rm1 l Z a0 hw [] p3 h0 n0) hZ (hw _ (List.mem_of_getElem? (i := 3) rfl)) (hw _ (List.mem_of_getElem? (i := 2) rfl)) (by decide) (by decide)) (g := (mkF m 18 #[.val (.int p0), .val (.int p1), .val (.int p2), .val (.int p3), .val (.int (1 : Int32)), .val (.int z94), .val (.int z97), .unset, .unset, .unset, .unset, .unset, .unset, .unset] [(.int p3)])) rfl (by rw [hml]; rfl) (argsL := [(.int p3)]) (rest := []) (lenOf pd_2 rfl) rfl (by show 2 * 0 + _ ≤ _; exact Nat.le_of_eq rfl) (hb hby at_18) (fun _ _ => ⟨rfl, e95, (by decide : 0 + 0 ≤ _), (by decide : 0 + 0 ≤ _)⟩)
          dsimp only [Pt.U, Pt.locs, Pt.cells, Pt.slots] at X98 l98 y98 z98 st98 hQ98
          subst l98 y98 z98
          obtain ⟨rfl, N98q, e98⟩ := hQ98
          obtain ⟨Lo98, Y98, N98⟩ := pk X98 (Fr.app N95 N98q)
          refine Go.back st98 ?_
          show Go p.tables e below (P0 Z p0 p1 p2 p3 h0 n0 s) (T98.setTop (mkF m 21 #[.val (.int p0), .val (.int p1), .val (.int p2), .val (.int p3), .val (.int (1 : Int32)), .val (.int z94), .val (.int z97), .unset, .unset, .unset, .unset, .unset, .unset, .unset] [(.int (f1 p3))]))
          refine Go.back (fun t k => XS.istore Y98.here hx rfl (hb hby at_21) rfl (l' := #[.val (.int p0), .val (.int p1), .val (.int p2), .val (.int p3), .val (.int (1 : Int32)), .val (.int z94), .val (.int z97), .val (.int (f1 p3)), .unset, .unset, .unset, .unset, .unset, .unset]) rfl k) ?_
          show Go p.tables e below (P0 Z p0 p1 p2 p3 h0 n0 s) (T98.setTop (mkF m 23 #[.val (.int p0), .val (.int p1), .val (.int p2), .val (.int p3), .val (.int (1 : Int32)), .val (.int z94), .val (.int z97), .val (.int (f1 p3)), .unset, .unset, .unset, .unset, .unset, .unset] []))
          have J99 : ∀ (z100 : Int32) (hz100 : z100 = (f1 p3)), Go p.tables e below (P0 Z p0 p1 p2 p3 h0 n0 s) (T98.setTop (mkF m 23 #[.val (.int p0), .val (.int p1), .val (.int p2), .val (.int p3), .val (.int (1 : Int32)), .val (.int z94), .val (.int z97), .val (.int z100), .unset, .unset, .unset, .unset, .unset, .unset] [])) := by
            intro z100 hz100
            have dz100 := own_draw hz100
            show Go p.tables e below (P0 Z p0 p1 p2 p3 h0 n0 s) (T98.setTop (mkF m 23 #[.val (.int p0), .val (.int p1), .val (.int p2), .val (.int p3), .val (.int (1 : Int32)), .val (.int z94), .val (.int z97), .val (.int z100), .unset, .unset, .unset, .unset, .unset, .unset] []))
            refine Go.back (fun t k => XS.iload Y98.here hx rfl (hb hby at_23) rfl  k) ?_
            show Go p.tables e below (P0 Z p0 p1 p2 p3 h0 n0 s) (T98.setTop (mkF m 25 #[.val (.int p0), .val (.int p1), .val (.int p2), .val (.int p3), .val (.int (1 : Int32)), .val (.int z94), .val (.int z97), .val (.int z100), .unset, .unset, .unset, .unset, .unset, .unset] [(.int (1 : Int32))]))
            refine Go.back (fun t k => XS.ifYes Y98.here hx rfl (pc0 := 25) (pc' := 36) rfl (hb hby at_25) rfl ((if0 _ _).trans (feq (by decide)).2) (by decide) (by decide) k) ?_
            show Go p.tables e below (P0 Z p0 p1 p2 p3 h0 n0 s) (T98.setTop (mkF m 36 #[.val (.int p0), .val (.int p1), .val (.int p2), .val (.int p3), .val (.int (1 : Int32)), .val (.int z94), .val (.int z97), .val (.int z100), .unset, .unset, .unset, .unset, .unset, .unset] []))
            refine Go.back (fun t k => XS.iload Y98.here hx rfl (hb hby at_36) rfl  k) ?_
            show Go p.tables e below (P0 Z p0 p1 p2 p3 h0 n0 s) (T98.setTop (mkF m 38 #[.val (.int p0), .val (.int p1), .val (.int p2), .val (.int p3), .val (.int (1 : Int32)), .val (.int z94), .val (.int z97), .val (.int z100), .unset, .unset, .unset, .unset, .unset, .unset] [(.int (1 : Int32))]))
            refine Go.back (fun t k => XS.iconst Y98.here hx rfl (hb hby at_38) k) ?_
            show Go p.tables e below (P0 Z p0 p1 p2 p3 h0 n0 s) (T98.setTop (mkF m 39 #[.val (.int p0), .val (.int p1), .val (.int p2), .val (.int p3), .val (.int (1 : Int32)), .val (.int z94), .val (.int z97), .val (.int z100), .unset, .unset, .unset, .unset, .unset, .unset] [(.int (1 : Int32)), (.int (1 : Int32))]))
            refine Go.back (fun t k => XS.icmpNo Y98.here hx rfl (hb hby at_39) rfl (teq (by decide)).2 k) ?_
            show Go p.tables e below (P0 Z p0 p1 p2 p3 h0 n0 s) (T98.setTop (mkF m 42 #[.val (.int p0), .val (.int p1), .val (.int p2), .val (.int p3), .val (.int (1 : Int32)), .val (.int z94), .val (.int z97), .val (.int z100), .unset, .unset, .unset, .unset, .unset, .unset] []))
            refine Go.back (fun t k => XS.iconst Y98.here hx rfl (hb hby at_42) k) ?_
            show Go p.tables e below (P0 Z p0 p1 p2 p3 h0 n0 s) (T98.setTop (mkF m 43 #[.val (.int p0), .val (.int p1), .val (.int p2), .val (.int p3), .val (.int (1 : Int32)), .val (.int z94), .val (.int z97), .val (.int z100), .unset, .unset, .unset, .unset, .unset, .unset] [(.int (1 : Int32))]))
            obtain ⟨T101, h101, k101, X101, e101, E101, A101, st101⟩ := newP Y98 hx hZ (hw _ (List.mem_of_getElem? (i := 4) rfl)) e98 (g := (mkF m 43 #[.val (.int p0), .val (.int p1), .val (.int p2), .val (.int p3), .val (.int (1 : Int32)), .val (.int z94), .val (.int z97), .val (.int z100), .unset, .unset, .unset, .unset, .unset, .unset] [(.int (1 : Int32))])) rfl (hb hby at_43) rfl (by decide) (cap := 1) (by decide) (by decide) (by decide) (by decide)
            obtain ⟨b101, g101⟩ : ∃ z, z = h0.size := ⟨_, rfl⟩
            rw [← g101] at A101 st101
            have g102 : n0 ≤ b101 := Nat.le_trans Z0 (Nat.le_of_eq g101.symm)
            have F103 : Sta Z h101 "java/lang/String" "COMPACT_STRINGS" "Z" (.int zc) := S1.ext E101
            have F104 : Sta Z h101 "jdk/internal/util/Preconditions" "SIOOBE_FORMATTER" "Ljava/util/function/BiFunction;" fm := S2.ext E101
            have F105 : n0 ≤ h101.size := Nat.le_trans Z0 E101.1
            have F106 : ArL Z h101 b101 .char [(.int (0 : Int32))] := ArL.new (ty := .char) A101 (n := 1) rfl
            refine Go.back st101 ?_
            show Go p.tables e below (P0 Z p0 p1 p2 p3 h0 n0 s) (T101.setTop (mkF m 45 #[.val (.int p0), .val (.int p1), .val (.int p2), .val (.int p3), .val (.int (1 : Int32)), .val (.int z94), .val (.int z97), .val (.int z100), .unset, .unset, .unset, .unset, .unset, .unset] [(.ref b101)]))
            refine Go.back (fun t k => XS.dup X101.here hx rfl (hb hby at_45) rfl rfl k) ?_
            show Go p.tables e below (P0 Z p0 p1 p2 p3 h0 n0 s) (T101.setTop (mkF m 46 #[.val (.int p0), .val (.int p1), .val (.int p2), .val (.int p3), .val (.int (1 : Int32)), .val (.int z94), .val (.int z97), .val (.int z100), .unset, .unset, .unset, .unset, .unset, .unset] [(.ref b101), (.ref b101)]))
            refine Go.back (fun t k => XS.iconst X101.here hx rfl (hb hby at_46) k) ?_
            show Go p.tables e below (P0 Z p0 p1 p2 p3 h0 n0 s) (T101.setTop (mkF m 47 #[.val (.int p0), .val (.int p1), .val (.int p2), .val (.int p3), .val (.int (1 : Int32)), .val (.int z94), .val (.int z97), .val (.int z100), .unset, .unset, .unset, .unset, .unset, .unset] [(.int (0 : Int32)), (.ref b101), (.ref b101)]))
            refine Go.back (fun t k => XS.iload X101.here hx rfl (hb hby at_47) rfl  k) ?_
            show Go p.tables e below (P0 Z p0 p1 p2 p3 h0 n0 s) (T101.setTop (mkF m 49 #[.val (.int p0), .val (.int p1), .val (.int p2), .val (.int p3), .val (.int (1 : Int32)), .val (.int z94), .val (.int z97), .val (.int z100), .unset, .unset, .unset, .unset, .unset, .unset] [(.int z94), (.int (0 : Int32)), (.ref b101), (.ref b101)]))
            obtain ⟨cl107, Ar107, hi107, -⟩ := F106.at (j := (0 : Int32)) (by decide) (Nat.le_of_ble_eq_true rfl)
            obtain ⟨T107, h107, X107, e107, W107, st107⟩ := stC X101 hx hZ e101 Ar107 (j := (0 : Int32)) hi107 (g := (mkF m 49 #[.val (.int p0), .val (.int p1), .val (.int p2), .val (.int p3), .val (.int (1 : Int32)), .val (.int z94), .val (.int z97), .val (.int z100), .unset, .unset, .unset, .unset, .unset, .unset] [(.int z94), (.int (0 : Int32)), (.ref b101), (.ref b101)])) rfl rfl (hb hby at_49)
            have F108 : Sta Z h107 "java/lang/String" "COMPACT_STRINGS" "Z" (.int zc) := F103.wr W107
            have F109 : Sta Z h107 "jdk/internal/util/Preconditions" "SIOOBE_FORMATTER" "Ljava/util/function/BiFunction;" fm := F104.wr W107
            have F110 : n0 ≤ h107.size := Nat.le_trans F105 (Keep.of_wr W107).1
            have F111 : ArL Z h107 b101 .char [(.int (nar .char z94))] := F106.set W107
            obtain ⟨Lo107, Y107, N107⟩ := pk X107 (Fr.snoc X107 N98 g102)
            refine Go.back st107 ?_
            show Go p.tables e below (P0 Z p0 p1 p2 p3 h0 n0 s) (T107.setTop (mkF m 50 #[.val (.int p0), .val (.int p1), .val (.int p2), .val (.int p3), .val (.int (1 : Int32)), .val (.int z94), .val (.int z97), .val (.int z100), .unset, .unset, .unset, .unset, .unset, .unset] [(.ref b101)]))
            refine Go.back (fun t k => XS.astore Y107.here hx rfl (hb hby at_50) rfl rfl (l' := #[.val (.int p0), .val (.int p1), .val (.int p2), .val (.int p3), .val (.int (1 : Int32)), .val (.int z94), .val (.int z97), .val (.int z100), .val (.ref b101), .unset, .unset, .unset, .unset, .unset]) rfl k) ?_
            show Go p.tables e below (P0 Z p0 p1 p2 p3 h0 n0 s) (T107.setTop (mkF m 52 #[.val (.int p0), .val (.int p1), .val (.int p2), .val (.int p3), .val (.int (1 : Int32)), .val (.int z94), .val (.int z97), .val (.int z100), .val (.ref b101), .unset, .unset, .unset, .unset, .unset] []))
            refine Go.back (fun t k => XS.goto Y107.here hx rfl (pc0 := 52) (pc' := 99) rfl (hb hby at_52) (by decide) (by decide) k) ?_
            show Go p.tables e below (P0 Z p0 p1 p2 p3 h0 n0 s) (T107.setTop (mkF m 99 #[.val (.int p0), .val (.int p1), .val (.int p2), .val (.int p3), .val (.int (1 : Int32)), .val (.int z94), .val (.int z97), .val (.int z100), .val (.ref b101), .unset, .unset, .unset, .unset, .unset] []))
            have F112 : ArL Z h107 b101 .char [(.int z94)] := by
              have q := F111
              rw [dz94.1] at q
              exact q
            have hp : ∀ c ∈ ([z94] : List Int32), ¬ c < 0 ∧ ¬ (255 : Int32) < c := by
              intro c hc
              simp only [List.mem_cons, List.not_mem_nil, or_false] at hc
              rcases hc with rfl
              · exact dz94.2
            have hl : ([z94] : List Int32).length ≤ 3 := Nat.le_of_ble_eq_true rfl
            obtain ⟨T113, h113, X113, e113, E113, A113, D113, -, st113⟩ := newO Y107 hx hZ hown (hw _ (List.mem_of_getElem? (i := 5) rfl)) (hw _ (List.mem_of_getElem? (i := 6) rfl)) (hw _ (List.mem_of_getElem? (i := 7) rfl)) e107 (g := (mkF m 99 #[.val (.int p0), .val (.int p1), .val (.int p2), .val (.int p3), .val (.int (1 : Int32)), .val (.int z94), .val (.int z97), .val (.int z100), .val (.ref b101), .unset, .unset, .unset, .unset, .unset] [])) rfl (hb hby at_99) (by decide) (by decide)
            obtain ⟨b113, g113⟩ : ∃ z, z = h107.size := ⟨_, rfl⟩
            rw [← g113] at A113 D113 st113
            have ne114 : b101 ≠ b113 := Nat.ne_of_lt (Nat.lt_of_lt_of_le F112.lt (Nat.le_of_eq g113.symm))
            have g115 : n0 ≤ b113 := Nat.le_trans F110 (Nat.le_of_eq g113.symm)
            have F116 : Sta Z h113 "java/lang/String" "COMPACT_STRINGS" "Z" (.int zc) := F108.ext E113
            have F117 : Sta Z h113 "jdk/internal/util/Preconditions" "SIOOBE_FORMATTER" "Ljava/util/function/BiFunction;" fm := F109.ext E113
            have F118 : n0 ≤ h113.size := Nat.le_trans F110 E113.1
            have F119 : ArL Z h113 b101 .char [(.int z94)] := F112.ext E113
            have F120 : Fld Z h113 b113 "java/lang/String" "value" "[B" .null := D113 (Or.inr (hw _ (List.mem_of_getElem? (i := 20) rfl))) (ty := (.array .byte)) (by decide)
            have F121 : Fld Z h113 b113 "java/lang/String" "coder" "B" (.int (0 : Int32)) := D113 (Or.inr (hw _ (List.mem_of_getElem? (i := 21) rfl))) (ty := .byte) (by decide)
            refine Go.back st113 ?_
            show Go p.tables e below (P0 Z p0 p1 p2 p3 h0 n0 s) (T113.setTop (mkF m 102 #[.val (.int p0), .val (.int p1), .val (.int p2), .val (.int p3), .val (.int (1 : Int32)), .val (.int z94), .val (.int z97), .val (.int z100), .val (.ref b101), .unset, .unset, .unset, .unset, .unset] [(.ref b113)]))
            refine Go.back (fun t k => XS.dup X113.here hx rfl (hb hby at_102) rfl rfl k) ?_
            show Go p.tables e below (P0 Z p0 p1 p2 p3 h0 n0 s) (T113.setTop (mkF m 103 #[.val (.int p0), .val (.int p1), .val (.int p2), .val (.int p3), .val (.int (1 : Int32)), .val (.int z94), .val (.int z97), .val (.int z100), .val (.ref b101), .unset, .unset, .unset, .unset, .unset] [(.ref b113), (.ref b113)]))
            refine Go.back (fun t k => XS.aload X113.here hx rfl (hb hby at_103) rfl rfl  k) ?_
            show Go p.tables e below (P0 Z p0 p1 p2 p3 h0 n0 s) (T113.setTop (mkF m 105 #[.val (.int p0), .val (.int p1), .val (.int p2), .val (.int p3), .val (.int (1 : Int32)), .val (.int z94), .val (.int z97), .val (.int z100), .val (.ref b101), .unset, .unset, .unset, .unset, .unset] [(.ref b101), (.ref b113), (.ref b113)]))
            obtain ⟨kc122, Kv122⟩ := ArL.to_arv (1 : Int32) (.int 0) F119 rfl (by decide) (own_fitsC (cs := [z94]) hp)
            obtain ⟨_, _, ⟨T122, L122, k122, n122⟩, -, X122, ⟨Lc122, hQ122, l122, y122, z122⟩, st122⟩ := X113.specialBack hx (y := (⟨"java/lang/String", "<init>", "([C)V"⟩ : MethodName)) rfl hown (mvT hZ (hw _ (List.mem_of_getElem? (i := 8) rfl))) (mvT hZ (hw _ (List.mem_of_getElem? (i := 9) rfl))) (mvT hZ (hw _ (List.mem_of_getElem? (i := 10) rfl))) (by decide) (StrChars.Road.backV (W := 1) hZ hws (kI := 4) (hw _ (List.mem_of_getElem? (i := 6) rfl)) (cs := ([z94] : List Int32)) (bs := (List.map StrChars.lo8 [z94])) (n := 1) g115 F118 A113 F120 F121 Kv122 F116 hcs rfl rfl (by decide) (by decide) hp rfl (by decide) (by decide)) (g := (mkF m 105 #[.val (.int p0), .val (.int p1), .val (.int p2), .val (.int p3), .val (.int (1 : Int32)), .val (.int z94), .val (.int z97), .val (.int z100), .val (.ref b101), .unset, .unset, .unset, .unset, .unset] [(.ref b101), (.ref b113), (.ref b113)])) rfl (by rw [hml]; rfl) (Steps.refl _) (a := b113) (argsL := [(.ref b101)]) (rest := [(.ref b113)]) (lenOf pd_5 rfl) rfl (by show 2 * 0 + _ ≤ _; exact Nat.le_of_eq rfl) (hb hby at_105) (fun _ _ => ⟨rfl, e113, (by decide : 2 + 1 ≤ _), (by decide : 5 + 1 ≤ _)⟩)
            dsimp only [Pt.U, Pt.locs, Pt.cells, Pt.slots] at X122 l122 y122 z122 st122 hQ122
            subst l122 y122 z122
            obtain ⟨h122, e122⟩ : ∃ z, T122.heap = z := ⟨_, rfl⟩
            rw [e122] at hQ122
            obtain ⟨rfl, N122q, K122, Ex122, Fc122, t122b, kb122, gt122, sz122, nt122, Fv122, Av122⟩ := hQ122
            obtain ⟨Lo122, Y122, N122⟩ := pk X122 (Fr.app N107 N122q)
            have F123 : Sta Z h122 "java/lang/String" "COMPACT_STRINGS" "Z" (.int zc) := sta_keep F116 K122 (noSS (noS_exa A113) noS0)
            have F124 : Sta Z h122 "jdk/internal/util/Preconditions" "SIOOBE_FORMATTER" "Ljava/util/function/BiFunction;" fm := sta_keep F117 K122 (noSS (noS_exa A113) noS0)
            have F125 : n0 ≤ h122.size := Nat.le_trans F118 K122.1
            have F126 : ArL Z h122 b101 .char [(.int z94)] := F119.keep K122 (ninS ne114 nin0)
            have F127 : Exa Z h122 b113 "java/lang/String" := A113.keep K122
            have At122 : ArL Z h122 t122b .byte (List.map Value.int (List.map StrChars.lo8 [z94])) := ArL.of_arv Av122 rfl
            refine Go.trans st122 ?_
            show Go p.tables e below (P0 Z p0 p1 p2 p3 h0 n0 s) (T122.setTop (mkF m 108 #[.val (.int p0), .val (.int p1), .val (.int p2), .val (.int p3), .val (.int (1 : Int32)), .val (.int z94), .val (.int z97), .val (.int z100), .val (.ref b101), .unset, .unset, .unset, .unset, .unset] [(.ref b113)]))
            refine Go.back (fun t k => XS.astore Y122.here hx rfl (hb hby at_108) rfl rfl (l' := #[.val (.int p0), .val (.int p1), .val (.int p2), .val (.int p3), .val (.int (1 : Int32)), .val (.int z94), .val (.int z97), .val (.int z100), .val (.ref b101), .val (.ref b113), .unset, .unset, .unset, .unset]) rfl k) ?_
            show Go p.tables e below (P0 Z p0 p1 p2 p3 h0 n0 s) (T122.setTop (mkF m 110 #[.val (.int p0), .val (.int p1), .val (.int p2), .val (.int p3), .val (.int (1 : Int32)), .val (.int z94), .val (.int z97), .val (.int z100), .val (.ref b101), .val (.ref b113), .unset, .unset, .unset, .unset] []))
            obtain ⟨T128, h128, X128, e128, E128, A128, D128, -, st128⟩ := newO Y122 hx hZ hown (hw _ (List.mem_of_getElem? (i := 26) rfl)) (hw _ (List.mem_of_getElem? (i := 27) rfl)) (hw _ (List.mem_of_getElem? (i := 28) rfl)) e122 (g := (mkF m 110 #[.val (.int p0), .val (.int p1), .val (.int p2), .val (.int p3), .val (.int (1 : Int32)), .val (.int z94), .val (.int z97), .val (.int z100), .val (.ref b101), .val (.ref b113), .unset, .unset, .unset, .unset] [])) rfl (hb hby at_110) (by decide) (by decide)
            obtain ⟨b128, g128⟩ : ∃ z, z = h122.size := ⟨_, rfl⟩
            rw [← g128] at A128 D128 st128
            have ne129 : b101 ≠ b128 := Nat.ne_of_lt (Nat.lt_of_lt_of_le F126.lt (Nat.le_of_eq g128.symm))
            have ne130 : b113 ≠ b128 := Nat.ne_of_lt (Nat.lt_of_lt_of_le F127.lt (Nat.le_of_eq g128.symm))
            have ne131 : t122b ≠ b128 := Nat.ne_of_lt (Nat.lt_of_lt_of_le At122.lt (Nat.le_of_eq g128.symm))
            have g132 : n0 ≤ b128 := Nat.le_trans F125 (Nat.le_of_eq g128.symm)
            have F133 : Sta Z h128 "java/lang/String" "COMPACT_STRINGS" "Z" (.int zc) := F123.ext E128
            have F134 : Sta Z h128 "jdk/internal/util/Preconditions" "SIOOBE_FORMATTER" "Ljava/util/function/BiFunction;" fm := F124.ext E128
            have F135 : n0 ≤ h128.size := Nat.le_trans F125 E128.1
            have F136 : ArL Z h128 b101 .char [(.int z94)] := F126.ext E128
            have F137 : Exa Z h128 b113 "java/lang/String" := F127.ext E128
            have F138 : Fld Z h128 b113 "java/lang/String" "coder" "B" (.int (0 : Int32)) := Fc122.ext E128
            have F139 : Fld Z h128 b113 "java/lang/String" "value" "[B" (.ref t122b) := Fv122.ext E128
            have F140 : ArL Z h128 t122b .byte (List.map Value.int (List.map StrChars.lo8 [z94])) := At122.ext E128
            have F141 : Fld Z h128 b128 "com/example/paylode/paylode/header/HeaderReader" "text" "Ljava/lang/String;" .null := D128 (Or.inr (hw _ (List.mem_of_getElem? (i := 35) rfl))) (ty := (.object "java/lang/String")) (by decide)
            have F142 : Fld Z h128 b128 "com/example/paylode/paylode/header/HeaderReader" "what" "Ljava/lang/String;" .null := D128 (Or.inr (hw _ (List.mem_of_getElem? (i := 37) rfl))) (ty := (.object "java/lang/String")) (by decide)
            have F143 : Fld Z h128 b128 "com/example/paylode/paylode/header/HeaderReader" "position" "I" (.int (0 : Int32)) := D128 (Or.inl (hw _ (List.mem_of_getElem? (i := 44) rfl))) (ty := .int) (by decide)
            refine Go.back st128 ?_
            show Go p.tables e below (P0 Z p0 p1 p2 p3 h0 n0 s) (T128.setTop (mkF m 113 #[.val (.int p0), .val (.int p1), .val (.int p2), .val (.int p3), .val (.int (1 : Int32)), .val (.int z94), .val (.int z97), .val (.int z100), .val (.ref b101), .val (.ref b113), .unset, .unset, .unset, .unset] [(.ref b128)]))
            refine Go.back (fun t k => XS.dup X128.here hx rfl (hb hby at_113) rfl rfl k) ?_
            show Go p.tables e below (P0 Z p0 p1 p2 p3 h0 n0 s) (T128.setTop (mkF m 114 #[.val (.int p0), .val (.int p1), .val (.int p2), .val (.int p3), .val (.int (1 : Int32)), .val (.int z94), .val (.int z97), .val (.int z100), .val (.ref b101), .val (.ref b113), .unset, .unset, .unset, .unset] [(.ref b128), (.ref b128)]))
            refine Go.back (fun t k => XS.aload X128.here hx rfl (hb hby at_114) rfl rfl  k) ?_
            show Go p.tables e below (P0 Z p0 p1 p2 p3 h0 n0 s) (T128.setTop (mkF m 116 #[.val (.int p0), .val (.int p1), .val (.int p2), .val (.int p3), .val (.int (1 : Int32)), .val (.int z94), .val (.int z97), .val (.int z100), .val (.ref b101), .val (.ref b113), .unset, .unset, .unset, .unset] [(.ref b113), (.ref b128), (.ref b128)]))
            obtain ⟨aV, TV, hV, kV, XV, eV, EV, hSV, hkV, hZV, hownV, stV⟩ := ldcS (s := s) (vm0 := s.vm) X128 hx hZ hown (hw _ (List.mem_of_getElem? (i := 29) rfl)) (fun d hd => hw d (own_wS d hd)) e128 ((State.WarmedH.refl s).since h128.size) (Nat.le_refl _) (g := (mkF m 116 #[.val (.int p0), .val (.int p1), .val (.int p2), .val (.int p3), .val (.int (1 : Int32)), .val (.int z94), .val (.int z97), .val (.int z100), .val (.ref b101), .val (.ref b113), .unset, .unset, .unset, .unset] [(.ref b113), (.ref b128), (.ref b128)])) rfl (hb hby at_116) (n := 20) (by decide +kernel) (by decide) (by decide) (by decide)
            have F144 : Sta Z hV "java/lang/String" "COMPACT_STRINGS" "Z" (.int zc) := F133.ext EV
            have F145 : Sta Z hV "jdk/internal/util/Preconditions" "SIOOBE_FORMATTER" "Ljava/util/function/BiFunction;" fm := F134.ext EV
            have F146 : n0 ≤ hV.size := Nat.le_trans F135 EV.1
            have F147 : ArL Z hV b101 .char [(.int z94)] := F136.ext EV
            have F148 : Exa Z hV b113 "java/lang/String" := F137.ext EV
            have F149 : Fld Z hV b113 "java/lang/String" "coder" "B" (.int (0 : Int32)) := F138.ext EV
            have F150 : Fld Z hV b113 "java/lang/String" "value" "[B" (.ref t122b) := F139.ext EV
            have F151 : ArL Z hV t122b .byte (List.map Value.int (List.map StrChars.lo8 [z94])) := F140.ext EV
            have F152 : Exa Z hV b128 "com/example/paylode/paylode/header/HeaderReader" := A128.ext EV
            have F153 : Fld Z hV b128 "com/example/paylode/paylode/header/HeaderReader" "text" "Ljava/lang/String;" .null := F141.ext EV
            have F154 : Fld Z hV b128 "com/example/paylode/paylode/header/HeaderReader" "what" "Ljava/lang/String;" .null := F142.ext EV
            have F155 : Fld Z hV b128 "com/example/paylode/paylode/header/HeaderReader" "position" "I" (.int (0 : Int32)) := F143.ext EV
            have hZ : Z.Warmed39 (s.setVm TV.vm).vm := hZV
            have hown := hownV
            refine Go.back stV ?_
            show Go p.tables e below (P0 Z p0 p1 p2 p3 h0 n0 s) (TV.setTop (mkF m 118 #[.val (.int p0), .val (.int p1), .val (.int p2), .val (.int p3), .val (.int (1 : Int32)), .val (.int z94), .val (.int z97), .val (.int z100), .val (.ref b101), .val (.ref b113), .unset, .unset, .unset, .unset] [(.ref aV), (.ref b113), (.ref b128), (.ref b128)]))
            obtain ⟨_, _, ⟨T156, L156, k156, n156⟩, -, X156, ⟨Lc156, hQ156, l156, y156, z156⟩, st156⟩ := XV.specialBack hx (y := (⟨"com/example/paylode/paylode/header/HeaderReader", "<init>", "(Ljava/lang/String;Ljava/lang/String;)V"⟩ : MethodName)) rfl hown (mvT hZ (hw _ (List.mem_of_getElem? (i := 30) rfl))) (mvT hZ (hw _ (List.mem_of_getElem? (i := 31) rfl))) (mvT hZ (hw _ (List.mem_of_getElem? (i := 32) rfl))) (by decide) (backOf (W := 1) (rm5 l Z a0 hw [] b128 b113 aV hV n0 F146 F152 F153 F154 F155 g132) hZ (hw _ (List.mem_of_getElem? (i := 32) rfl)) (hw _ (List.mem_of_getElem? (i := 28) rfl)) (by decide) (by decide)) (g := (mkF m 118 #[.val (.int p0), .val (.int p1), .val (.int p2), .val (.int p3), .val (.int (1 : Int32)), .val (.int z94), .val (.int z97), .val (.int z100), .val (.ref b101), .val (.ref b113), .unset, .unset, .unset, .unset] [(.ref aV), (.ref b113), (.ref b128), (.ref b128)])) rfl (by rw [hml]; rfl) (Steps.refl _) (a := b128) (argsL := [(.ref b113), (.ref aV)]) (rest := [(.ref b128)]) (lenOf pd_6 rfl) rfl (by show 2 * 0 + _ ≤ _; exact Nat.le_of_eq rfl) (hb hby at_118) (fun _ _ => ⟨rfl, eV, (by decide : 6 + 0 ≤ _), (by decide : 33 + 0 ≤ _)⟩)
            dsimp only [Pt.U, Pt.locs, Pt.cells, Pt.slots] at X156 l156 y156 z156 st156 hQ156
            subst l156 y156 z156
            obtain ⟨h156, e156⟩ : ∃ z, T156.heap = z := ⟨_, rfl⟩
            rw [e156] at hQ156
            obtain ⟨rfl, N156q, K156, F167, F168⟩ := hQ156
            obtain ⟨Lo156, Y156, N156⟩ := pk X156 (Fr.app N122 N156q)
            have F157 : Sta Z h156 "java/lang/String" "COMPACT_STRINGS" "Z" (.int zc) := sta_keep F144 K156 (noSS (noS_exa F152) noS0)
            have F158 : Sta Z h156 "jdk/internal/util/Preconditions" "SIOOBE_FORMATTER" "Ljava/util/function/BiFunction;" fm := sta_keep F145 K156 (noSS (noS_exa F152) noS0)
            have F159 : n0 ≤ h156.size := Nat.le_trans F146 K156.1
            have F160 : ArL Z h156 b101 .char [(.int z94)] := F147.keep K156 (ninS ne129 nin0)
            have F161 : Exa Z h156 b113 "java/lang/String" := F148.keep K156
            have F162 : Fld Z h156 b113 "java/lang/String" "coder" "B" (.int (0 : Int32)) := F149.keep K156 (ninS ne130 nin0)
            have F163 : Fld Z h156 b113 "java/lang/String" "value" "[B" (.ref t122b) := F150.keep K156 (ninS ne130 nin0)
            have F164 : ArL Z h156 t122b .byte (List.map Value.int (List.map StrChars.lo8 [z94])) := F151.keep K156 (ninS ne131 nin0)
            have F165 : Exa Z h156 b128 "com/example/paylode/paylode/header/HeaderReader" := F152.keep K156
            have F166 : kV ≤ h156.size := Nat.le_trans hkV K156.1
            refine Go.trans st156 ?_
            show Go p.tables e below (P0 Z p0 p1 p2 p3 h0 n0 s) (T156.setTop (mkF m 121 #[.val (.int p0), .val (.int p1), .val (.int p2), .val (.int p3), .val (.int (1 : Int32)), .val (.int z94), .val (.int z97), .val (.int z100), .val (.ref b101), .val (.ref b113), .unset, .unset, .unset, .unset] [(.ref b128)]))
            refine Go.back (fun t k => XS.astore Y156.here hx rfl (hb hby at_121) rfl rfl (l' := #[.val (.int p0), .val (.int p1), .val (.int p2), .val (.int p3), .val (.int (1 : Int32)), .val (.int z94), .val (.int z97), .val (.int z100), .val (.ref b101), .val (.ref b113), .val (.ref b128), .unset, .unset, .unset]) rfl k) ?_
            show Go p.tables e below (P0 Z p0 p1 p2 p3 h0 n0 s) (T156.setTop (mkF m 123 #[.val (.int p0), .val (.int p1), .val (.int p2), .val (.int p3), .val (.int (1 : Int32)), .val (.int z94), .val (.int z97), .val (.int z100), .val (.ref b101), .val (.ref b113), .val (.ref b128), .unset, .unset, .unset] []))
            refine Go.back (fun t k => XS.aload Y156.here hx rfl (hb hby at_123) rfl rfl  k) ?_
            show Go p.tables e below (P0 Z p0 p1 p2 p3 h0 n0 s) (T156.setTop (mkF m 125 #[.val (.int p0), .val (.int p1), .val (.int p2), .val (.int p3), .val (.int (1 : Int32)), .val (.int z94), .val (.int z97), .val (.int z100), .val (.ref b101), .val (.ref b113), .val (.ref b128), .unset, .unset, .unset] [(.ref b128)]))
            obtain ⟨cq169, kq169, q169a, q169b, q169c⟩ := isOf hZ e156 F165
            obtain ⟨_, _, ⟨T169, L169, k169, n169⟩, -, X169, ⟨Lc169, hQ169, l169, y169, z169⟩, st169⟩ := Y156.virtualBack hx (y := (⟨"com/example/paylode/paylode/header/HeaderReader", "position", "()I"⟩ : MethodName)) (z := (⟨"com/example/paylode/paylode/header/HeaderReader", "position", "()I"⟩ : MethodName)) hown (mvT hZ (hw _ (List.mem_of_getElem? (i := 38) rfl))) (mvT hZ (hw _ (List.mem_of_getElem? (i := 39) rfl))) (notFace_of_selects (args := #[]) (mvT hZ (hw _ (List.mem_of_getElem? (i := 41) rfl)))) (mvT hZ (hw _ (List.mem_of_getElem? (i := 41) rfl))) (mvT hZ (hw _ (List.mem_of_getElem? (i := 40) rfl))) (by decide) (backOf (W := 0) (rm6 l Z a0 hw [] b128 (0 : Int32) h156 n0 F159 F167) hZ (hw _ (List.mem_of_getElem? (i := 42) rfl)) (hw _ (List.mem_of_getElem? (i := 28) rfl)) (by decide) (by decide)) q169a q169c (g := (mkF m 125 #[.val (.int p0), .val (.int p1), .val (.int p2), .val (.int p3), .val (.int (1 : Int32)), .val (.int z94), .val (.int z97), .val (.int z100), .val (.ref b101), .val (.ref b113), .val (.ref b128), .unset, .unset, .unset] [(.ref b128)])) rfl (by rw [hml]; rfl) (Steps.refl _) (argsL := []) (rest := []) (lenOf pd_0 rfl) rfl (by show 2 * 0 + _ ≤ _; exact Nat.le_of_eq rfl) (hb hby at_125) (fun _ _ => ⟨rfl, e156, (by decide : 6 + 0 ≤ _), (by decide : 33 + 0 ≤ _)⟩)
            dsimp only [Pt.U, Pt.locs, Pt.cells, Pt.slots] at X169 l169 y169 z169 st169 hQ169
            subst l169 y169 z169
            obtain ⟨rfl, N169q, e169⟩ := hQ169
            obtain ⟨Lo169, Y169, N169⟩ := pk X169 (Fr.app N156 N169q)
            refine Go.trans st169 ?_
            show Go p.tables e below (P0 Z p0 p1 p2 p3 h0 n0 s) (T169.setTop (mkF m 128 #[.val (.int p0), .val (.int p1), .val (.int p2), .val (.int p3), .val (.int (1 : Int32)), .val (.int z94), .val (.int z97), .val (.int z100), .val (.ref b101), .val (.ref b113), .val (.ref b128), .unset, .unset, .unset] [(.int (0 : Int32))]))
            refine Go.back (fun t k => XS.ifNo Y169.here hx rfl (hb hby at_128) rfl ((if0 _ _).trans (teq (by decide)).2) k) ?_
            show Go p.tables e below (P0 Z p0 p1 p2 p3 h0 n0 s) (T169.setTop (mkF m 131 #[.val (.int p0), .val (.int p1), .val (.int p2), .val (.int p3), .val (.int (1 : Int32)), .val (.int z94), .val (.int z97), .val (.int z100), .val (.ref b101), .val (.ref b113), .val (.ref b128), .unset, .unset, .unset] []))
            refine Go.back (fun t k => XS.aload Y169.here hx rfl (hb hby at_131) rfl rfl  k) ?_
            show Go p.tables e below (P0 Z p0 p1 p2 p3 h0 n0 s) (T169.setTop (mkF m 133 #[.val (.int p0), .val (.int p1), .val (.int p2), .val (.int p3), .val (.int (1 : Int32)), .val (.int z94), .val (.int z97), .val (.int z100), .val (.ref b101), .val (.ref b113), .val (.ref b128), .unset, .unset, .unset] [(.ref b128)]))
            obtain ⟨cq170, kq170, q170a, q170b, q170c⟩ := isOf hZ e169 F165
            obtain ⟨_, _, ⟨T170, L170, k170, n170⟩, -, X170, ⟨Lc170, hQ170, l170, y170, z170⟩, st170⟩ := Y169.virtualBack hx (y := (⟨"com/example/paylode/paylode/header/HeaderReader", "atEnd", "()Z"⟩ : MethodName)) (z := (⟨"com/example/paylode/paylode/header/HeaderReader", "atEnd", "()Z"⟩ : MethodName)) hown (mvT hZ (hw _ (List.mem_of_getElem? (i := 45) rfl))) (mvT hZ (hw _ (List.mem_of_getElem? (i := 46) rfl))) (notFace_of_selects (args := #[]) (mvT hZ (hw _ (List.mem_of_getElem? (i := 48) rfl)))) (mvT hZ (hw _ (List.mem_of_getElem? (i := 48) rfl))) (mvT hZ (hw _ (List.mem_of_getElem? (i := 47) rfl))) (by decide) (backOf (W := 0) (rm7 l Z a0 hw [] b128 b113 t122b [z94] zc fm (0 : Int32) h156 n0 F159 F165 F168 F167 F161 F162 F163 F164 F157 F158 hcs hp hl hfm) hZ (hw _ (List.mem_of_getElem? (i := 49) rfl)) (hw _ (List.mem_of_getElem? (i := 28) rfl)) (by decide) (by decide)) q170a q170c (g := (mkF m 133 #[.val (.int p0), .val (.int p1), .val (.int p2), .val (.int p3), .val (.int (1 : Int32)), .val (.int z94), .val (.int z97), .val (.int z100), .val (.ref b101), .val (.ref b113), .val (.ref b128), .unset, .unset, .unset] [(.ref b128)])) rfl (by rw [hml]; rfl) (Steps.refl _) (argsL := []) (rest := []) (lenOf pd_1 rfl) rfl (by show 2 * 0 + _ ≤ _; exact Nat.le_of_eq rfl) (hb hby at_133) (fun _ _ => ⟨rfl, e169, (by decide : 6 + 0 ≤ _), (by decide : 33 + 0 ≤ _)⟩)
            dsimp only [Pt.U, Pt.locs, Pt.cells, Pt.slots] at X170 l170 y170 z170 st170 hQ170
            subst l170 y170 z170
            obtain ⟨rfl, N170q, e170⟩ := hQ170
            obtain ⟨Lo170, Y170, N170⟩ := pk X170 (Fr.app N169 N170q)
            refine Go.trans st170 ?_
            rw [show (f7 [z94] (0 : Int32)) = false from by first | rfl | simp [f7]]
            show Go p.tables e below (P0 Z p0 p1 p2 p3 h0 n0 s) (T170.setTop (mkF m 136 #[.val (.int p0), .val (.int p1), .val (.int p2), .val (.int p3), .val (.int (1 : Int32)), .val (.int z94), .val (.int z97), .val (.int z100), .val (.ref b101), .val (.ref b113), .val (.ref b128), .unset, .unset, .unset] [(.int (0 : Int32))]))
            refine Go.back (fun t k => XS.iload Y170.here hx rfl (hb hby at_136) rfl  k) ?_
            show Go p.tables e below (P0 Z p0 p1 p2 p3 h0 n0 s) (T170.setTop (mkF m 138 #[.val (.int p0), .val (.int p1), .val (.int p2), .val (.int p3), .val (.int (1 : Int32)), .val (.int z94), .val (.int z97), .val (.int z100), .val (.ref b101), .val (.ref b113), .val (.ref b128), .unset, .unset, .unset] [(.int (1 : Int32)), (.int (0 : Int32))]))
            refine Go.back (fun t k => XS.ifYes Y170.here hx rfl (pc0 := 138) (pc' := 145) rfl (hb hby at_138) rfl ((if0 _ _).trans (feq (by decide)).2) (by decide) (by decide) k) ?_
            show Go p.tables e below (P0 Z p0 p1 p2 p3 h0 n0 s) (T170.setTop (mkF m 145 #[.val (.int p0), .val (.int p1), .val (.int p2), .val (.int p3), .val (.int (1 : Int32)), .val (.int z94), .val (.int z97), .val (.int z100), .val (.ref b101), .val (.ref b113), .val (.ref b128), .unset, .unset, .unset] [(.int (0 : Int32))]))
            refine Go.back (fun t k => XS.iconst Y170.here hx rfl (hb hby at_145) k) ?_
            show Go p.tables e below (P0 Z p0 p1 p2 p3 h0 n0 s) (T170.setTop (mkF m 146 #[.val (.int p0), .val (.int p1), .val (.int p2), .val (.int p3), .val (.int (1 : Int32)), .val (.int z94), .val (.int z97), .val (.int z100), .val (.ref b101), .val (.ref b113), .val (.ref b128), .unset, .unset, .unset] [(.int (0 : Int32)), (.int (0 : Int32))]))
            refine Go.back (fun t k => XS.icmpNo Y170.here hx rfl (hb hby at_146) rfl (teq (by decide)).2 k) ?_
            show Go p.tables e below (P0 Z p0 p1 p2 p3 h0 n0 s) (T170.setTop (mkF m 149 #[.val (.int p0), .val (.int p1), .val (.int p2), .val (.int p3), .val (.int (1 : Int32)), .val (.int z94), .val (.int z97), .val (.int z100), .val (.ref b101), .val (.ref b113), .val (.ref b128), .unset, .unset, .unset] []))
            refine Go.back (fun t k => XS.iconst Y170.here hx rfl (hb hby at_149) k) ?_
            show Go p.tables e below (P0 Z p0 p1 p2 p3 h0 n0 s) (T170.setTop (mkF m 150 #[.val (.int p0), .val (.int p1), .val (.int p2), .val (.int p3), .val (.int (1 : Int32)), .val (.int z94), .val (.int z97), .val (.int z100), .val (.ref b101), .val (.ref b113), .val (.ref b128), .unset, .unset, .unset] [(.int (1 : Int32))]))
            refine Go.back (fun t k => XS.goto Y170.here hx rfl (pc0 := 150) (pc' := 154) rfl (hb hby at_150) (by decide) (by decide) k) ?_
            show Go p.tables e below (P0 Z p0 p1 p2 p3 h0 n0 s) (T170.setTop (mkF m 154 #[.val (.int p0), .val (.int p1), .val (.int p2), .val (.int p3), .val (.int (1 : Int32)), .val (.int z94), .val (.int z97), .val (.int z100), .val (.ref b101), .val (.ref b113), .val (.ref b128), .unset, .unset, .unset] [(.int (1 : Int32))]))
            refine Go.back (fun t k => XS.istore Y170.here hx rfl (hb hby at_154) rfl (l' := #[.val (.int p0), .val (.int p1), .val (.int p2), .val (.int p3), .val (.int (1 : Int32)), .val (.int z94), .val (.int z97), .val (.int z100), .val (.ref b101), .val (.ref b113), .val (.ref b128), .val (.int (1 : Int32)), .unset, .unset]) rfl k) ?_
            show Go p.tables e below (P0 Z p0 p1 p2 p3 h0 n0 s) (T170.setTop (mkF m 156 #[.val (.int p0), .val (.int p1), .val (.int p2), .val (.int p3), .val (.int (1 : Int32)), .val (.int z94), .val (.int z97), .val (.int z100), .val (.ref b101), .val (.ref b113), .val (.ref b128), .val (.int (1 : Int32)), .unset, .unset] []))
            refine Go.back (fun t k => XS.iload Y170.here hx rfl (hb hby at_156) rfl  k) ?_
            show Go p.tables e below (P0 Z p0 p1 p2 p3 h0 n0 s) (T170.setTop (mkF m 158 #[.val (.int p0), .val (.int p1), .val (.int p2), .val (.int p3), .val (.int (1 : Int32)), .val (.int z94), .val (.int z97), .val (.int z100), .val (.ref b101), .val (.ref b113), .val (.ref b128), .val (.int (1 : Int32)), .unset, .unset] [(.int (1 : Int32))]))
            refine Go.back (fun t k => XS.iconst Y170.here hx rfl (hb hby at_158) k) ?_
            show Go p.tables e below (P0 Z p0 p1 p2 p3 h0 n0 s) (T170.setTop (mkF m 159 #[.val (.int p0), .val (.int p1), .val (.int p2), .val (.int p3), .val (.int (1 : Int32)), .val (.int z94), .val (.int z97), .val (.int z100), .val (.ref b101), .val (.ref b113), .val (.ref b128), .val (.int (1 : Int32)), .unset, .unset] [(.int (1 : Int32)), (.int (1 : Int32))]))
            refine Go.back (fun t k => XS.icmpNo Y170.here hx rfl (hb hby at_159) rfl (flt (by decide)).1 k) ?_
            show Go p.tables e below (P0 Z p0 p1 p2 p3 h0 n0 s) (T170.setTop (mkF m 162 #[.val (.int p0), .val (.int p1), .val (.int p2), .val (.int p3), .val (.int (1 : Int32)), .val (.int z94), .val (.int z97), .val (.int z100), .val (.ref b101), .val (.ref b113), .val (.ref b128), .val (.int (1 : Int32)), .unset, .unset] []))
            refine Go.back (fun t k => XS.iload Y170.here hx rfl (hb hby at_162) rfl  k) ?_
            show Go p.tables e below (P0 Z p0 p1 p2 p3 h0 n0 s) (T170.setTop (mkF m 164 #[.val (.int p0), .val (.int p1), .val (.int p2), .val (.int p3), .val (.int (1 : Int32)), .val (.int z94), .val (.int z97), .val (.int z100), .val (.ref b101), .val (.ref b113), .val (.ref b128), .val (.int (1 : Int32)), .unset, .unset] [(.int z94)]))
            obtain ⟨_, _, ⟨T171, L171, k171, n171⟩, -, X171, ⟨Lc171, hQ171, l171, y171, z171⟩, st171⟩ := Jvm.LawKit.callS Y170 hx (y := (⟨"com/example/paylode/paylode/header/HeaderReaderAtEndPinLaw", "ws", "(C)Z"⟩ : MethodName)) hown (mvT hZ (hw _ (List.mem_of_getElem? (i := 82) rfl))) (mvT hZ (hw _ (List.mem_of_getElem? (i := 83) rfl))) (mvT hZ (hw _ (List.mem_of_getElem? (i := 2) rfl))) (mvT hZ (hw _ (List.mem_of_getElem? (i := 84) rfl))) (by decide) (backOf (W := 0) (rm15 l Z a0 hw [] z94 h156 n0) hZ (hw _ (List.mem_of_getElem? (i := 84) rfl)) (hw _ (List.mem_of_getElem? (i := 2) rfl)) (by decide) (by decide)) (g := (mkF m 164 #[.val (.int p0), .val (.int p1), .val (.int p2), .val (.int p3), .val (.int (1 : Int32)), .val (.int z94), .val (.int z97), .val (.int z100), .val (.ref b101), .val (.ref b113), .val (.ref b128), .val (.int (1 : Int32)), .unset, .unset] [(.int z94)])) rfl (by rw [hml]; rfl) (argsL := [(.int z94)]) (rest := []) (lenOf pd_3 rfl) rfl (by show 2 * 0 + _ ≤ _; exact Nat.le_of_eq rfl) (hb hby at_164) (fun _ _ => ⟨rfl, e170, (by decide : 6 + 0 ≤ _), (by decide : 33 + 0 ≤ _)⟩)
            dsimp only [Pt.U, Pt.locs, Pt.cells, Pt.slots] at X171 l171 y171 z171 st171 hQ171
            subst l171 y171 z171
            obtain ⟨rfl, N171q, e171⟩ := hQ171
            obtain ⟨Lo171, Y171, N171⟩ := pk X171 (Fr.app N170 N171q)
            refine Go.back st171 ?_
            show Go p.tables e below (P0 Z p0 p1 p2 p3 h0 n0 s) (T171.setTop (mkF m 167 #[.val (.int p0), .val (.int p1), .val (.int p2), .val (.int p3), .val (.int (1 : Int32)), .val (.int z94), .val (.int z97), .val (.int z100), .val (.ref b101), .val (.ref b113), .val (.ref b128), .val (.int (1 : Int32)), .unset, .unset] [(.int (b2i (f15 z94)))]))
            by_cases hc172 : (f15 z94) = true
            · refine Go.back (fun t k => XS.ifNo Y171.here hx rfl (hb hby at_167) rfl ((if0 _ _).trans (feq (b2i_t hc172)).1) k) ?_
              show Go p.tables e below (P0 Z p0 p1 p2 p3 h0 n0 s) (T171.setTop (mkF m 170 #[.val (.int p0), .val (.int p1), .val (.int p2), .val (.int p3), .val (.int (1 : Int32)), .val (.int z94), .val (.int z97), .val (.int z100), .val (.ref b101), .val (.ref b113), .val (.ref b128), .val (.int (1 : Int32)), .unset, .unset] []))
              refine Go.back (fun t k => XS.iload Y171.here hx rfl (hb hby at_170) rfl  k) ?_
              show Go p.tables e below (P0 Z p0 p1 p2 p3 h0 n0 s) (T171.setTop (mkF m 172 #[.val (.int p0), .val (.int p1), .val (.int p2), .val (.int p3), .val (.int (1 : Int32)), .val (.int z94), .val (.int z97), .val (.int z100), .val (.ref b101), .val (.ref b113), .val (.ref b128), .val (.int (1 : Int32)), .unset, .unset] [(.int (1 : Int32))]))
              refine Go.back (fun t k => XS.iconst Y171.here hx rfl (hb hby at_172) k) ?_
              show Go p.tables e below (P0 Z p0 p1 p2 p3 h0 n0 s) (T171.setTop (mkF m 173 #[.val (.int p0), .val (.int p1), .val (.int p2), .val (.int p3), .val (.int (1 : Int32)), .val (.int z94), .val (.int z97), .val (.int z100), .val (.ref b101), .val (.ref b113), .val (.ref b128), .val (.int (1 : Int32)), .unset, .unset] [(.int (2 : Int32)), (.int (1 : Int32))]))
              refine Go.back (fun t k => XS.icmpYes Y171.here hx rfl (pc0 := 173) (pc' := 210) rfl (hb hby at_173) rfl (tlt (by decide)).1 (by decide) (by decide) k) ?_
              show Go p.tables e below (P0 Z p0 p1 p2 p3 h0 n0 s) (T171.setTop (mkF m 210 #[.val (.int p0), .val (.int p1), .val (.int p2), .val (.int p3), .val (.int (1 : Int32)), .val (.int z94), .val (.int z97), .val (.int z100), .val (.ref b101), .val (.ref b113), .val (.ref b128), .val (.int (1 : Int32)), .unset, .unset] []))
              refine Go.back (fun t k => XS.iconst Y171.here hx rfl (hb hby at_210) k) ?_
              show Go p.tables e below (P0 Z p0 p1 p2 p3 h0 n0 s) (T171.setTop (mkF m 211 #[.val (.int p0), .val (.int p1), .val (.int p2), .val (.int p3), .val (.int (1 : Int32)), .val (.int z94), .val (.int z97), .val (.int z100), .val (.ref b101), .val (.ref b113), .val (.ref b128), .val (.int (1 : Int32)), .unset, .unset] [(.int (1 : Int32))]))
              refine Go.back (fun t k => XS.istore Y171.here hx rfl (hb hby at_211) rfl (l' := #[.val (.int p0), .val (.int p1), .val (.int p2), .val (.int p3), .val (.int (1 : Int32)), .val (.int z94), .val (.int z97), .val (.int z100), .val (.ref b101), .val (.ref b113), .val (.ref b128), .val (.int (1 : Int32)), .val (.int (1 : Int32)), .unset]) rfl k) ?_
              show Go p.tables e below (P0 Z p0 p1 p2 p3 h0 n0 s) (T171.setTop (mkF m 213 #[.val (.int p0), .val (.int p1), .val (.int p2), .val (.int p3), .val (.int (1 : Int32)), .val (.int z94), .val (.int z97), .val (.int z100), .val (.ref b101), .val (.ref b113), .val (.ref b128), .val (.int (1 : Int32)), .val (.int (1 : Int32)), .unset] []))
              refine Go.back (fun t k => XS.goto Y171.here hx rfl (pc0 := 213) (pc' := 219) rfl (hb hby at_213) (by decide) (by decide) k) ?_
              show Go p.tables e below (P0 Z p0 p1 p2 p3 h0 n0 s) (T171.setTop (mkF m 219 #[.val (.int p0), .val (.int p1), .val (.int p2), .val (.int p3), .val (.int (1 : Int32)), .val (.int z94), .val (.int z97), .val (.int z100), .val (.ref b101), .val (.ref b113), .val (.ref b128), .val (.int (1 : Int32)), .val (.int (1 : Int32)), .unset] []))
              refine Go.back (fun t k => XS.aload Y171.here hx rfl (hb hby at_219) rfl rfl  k) ?_
              show Go p.tables e below (P0 Z p0 p1 p2 p3 h0 n0 s) (T171.setTop (mkF m 221 #[.val (.int p0), .val (.int p1), .val (.int p2), .val (.int p3), .val (.int (1 : Int32)), .val (.int z94), .val (.int z97), .val (.int z100), .val (.ref b101), .val (.ref b113), .val (.ref b128), .val (.int (1 : Int32)), .val (.int (1 : Int32)), .unset] [(.ref b128)]))
              obtain ⟨cq173, kq173, q173a, q173b, q173c⟩ := isOf hZ e171 F165
              obtain ⟨_, _, ⟨T173, L173, k173, n173⟩, -, X173, ⟨Lc173, hQ173, l173, y173, z173⟩, st173⟩ := Y171.virtualBack hx (y := (⟨"com/example/paylode/paylode/header/HeaderReader", "skipWhitespace", "()V"⟩ : MethodName)) (z := (⟨"com/example/paylode/paylode/header/HeaderReader", "skipWhitespace", "()V"⟩ : MethodName)) hown (mvT hZ (hw _ (List.mem_of_getElem? (i := 61) rfl))) (mvT hZ (hw _ (List.mem_of_getElem? (i := 62) rfl))) (notFace_of_selects (args := #[]) (mvT hZ (hw _ (List.mem_of_getElem? (i := 64) rfl)))) (mvT hZ (hw _ (List.mem_of_getElem? (i := 64) rfl))) (mvT hZ (hw _ (List.mem_of_getElem? (i := 63) rfl))) (by decide) (backOf (W := 0) (rm10 l Z a0 hw [] b128 b113 t122b [z94] zc fm h156 n0 F159 F165 F168 F167 F161 F162 F163 F164 F157 F158 g132 ne130 ne131 hcs hp hl hfm) hZ (hw _ (List.mem_of_getElem? (i := 65) rfl)) (hw _ (List.mem_of_getElem? (i := 28) rfl)) (by decide) (by decide)) q173a q173c (g := (mkF m 221 #[.val (.int p0), .val (.int p1), .val (.int p2), .val (.int p3), .val (.int (1 : Int32)), .val (.int z94), .val (.int z97), .val (.int z100), .val (.ref b101), .val (.ref b113), .val (.ref b128), .val (.int (1 : Int32)), .val (.int (1 : Int32)), .unset] [(.ref b128)])) rfl (by rw [hml]; rfl) (Steps.refl _) (argsL := []) (rest := []) (lenOf pd_7 rfl) rfl (by show 2 * 0 + _ ≤ _; exact Nat.le_of_eq rfl) (hb hby at_221) (fun _ _ => ⟨rfl, e171, (by decide : 6 + 0 ≤ _), (by decide : 33 + 0 ≤ _)⟩)
              dsimp only [Pt.U, Pt.locs, Pt.cells, Pt.slots] at X173 l173 y173 z173 st173 hQ173
              subst l173 y173 z173
              obtain ⟨h173, e173⟩ : ∃ z, T173.heap = z := ⟨_, rfl⟩
              rw [e173] at hQ173
              obtain ⟨rfl, N173q, K173, F184, F185⟩ := hQ173
              obtain ⟨Lo173, Y173, N173⟩ := pk X173 (Fr.app N171 N173q)
              have F174 : Sta Z h173 "java/lang/String" "COMPACT_STRINGS" "Z" (.int zc) := sta_keep F157 K173 (noSS (noS_exa F165) noS0)
              have F175 : Sta Z h173 "jdk/internal/util/Preconditions" "SIOOBE_FORMATTER" "Ljava/util/function/BiFunction;" fm := sta_keep F158 K173 (noSS (noS_exa F165) noS0)
              have F176 : n0 ≤ h173.size := Nat.le_trans F159 K173.1
              have F177 : ArL Z h173 b101 .char [(.int z94)] := F160.keep K173 (ninS ne129 nin0)
              have F178 : Exa Z h173 b113 "java/lang/String" := F161.keep K173
              have F179 : Fld Z h173 b113 "java/lang/String" "coder" "B" (.int (0 : Int32)) := F162.keep K173 (ninS ne130 nin0)
              have F180 : Fld Z h173 b113 "java/lang/String" "value" "[B" (.ref t122b) := F163.keep K173 (ninS ne130 nin0)
              have F181 : ArL Z h173 t122b .byte (List.map Value.int (List.map StrChars.lo8 [z94])) := F164.keep K173 (ninS ne131 nin0)
              have F182 : Exa Z h173 b128 "com/example/paylode/paylode/header/HeaderReader" := F165.keep K173
              have F183 : kV ≤ h173.size := Nat.le_trans F166 K173.1
              refine Go.trans st173 ?_
              show Go p.tables e below (P0 Z p0 p1 p2 p3 h0 n0 s) (T173.setTop (mkF m 224 #[.val (.int p0), .val (.int p1), .val (.int p2), .val (.int p3), .val (.int (1 : Int32)), .val (.int z94), .val (.int z97), .val (.int z100), .val (.ref b101), .val (.ref b113), .val (.ref b128), .val (.int (1 : Int32)), .val (.int (1 : Int32)), .unset] []))
              have F186 : Fld Z h173 b128 "com/example/paylode/paylode/header/HeaderReader" "position" "I" (.int (1 : Int32)) := by
                have q := F184
                rw [show (g10_1 [z94]) = (1 : Int32) from own_sk_1_1 hc172] at q
                exact q
              refine Go.back (fun t k => XS.iload Y173.here hx rfl (hb hby at_224) rfl  k) ?_
              show Go p.tables e below (P0 Z p0 p1 p2 p3 h0 n0 s) (T173.setTop (mkF m 226 #[.val (.int p0), .val (.int p1), .val (.int p2), .val (.int p3), .val (.int (1 : Int32)), .val (.int z94), .val (.int z97), .val (.int z100), .val (.ref b101), .val (.ref b113), .val (.ref b128), .val (.int (1 : Int32)), .val (.int (1 : Int32)), .unset] [(.int (1 : Int32))]))
              refine Go.back (fun t k => XS.ifNo Y173.here hx rfl (hb hby at_226) rfl ((if0 _ _).trans (feq (by decide)).1) k) ?_
              show Go p.tables e below (P0 Z p0 p1 p2 p3 h0 n0 s) (T173.setTop (mkF m 229 #[.val (.int p0), .val (.int p1), .val (.int p2), .val (.int p3), .val (.int (1 : Int32)), .val (.int z94), .val (.int z97), .val (.int z100), .val (.ref b101), .val (.ref b113), .val (.ref b128), .val (.int (1 : Int32)), .val (.int (1 : Int32)), .unset] []))
              refine Go.back (fun t k => XS.aload Y173.here hx rfl (hb hby at_229) rfl rfl  k) ?_
              show Go p.tables e below (P0 Z p0 p1 p2 p3 h0 n0 s) (T173.setTop (mkF m 231 #[.val (.int p0), .val (.int p1), .val (.int p2), .val (.int p3), .val (.int (1 : Int32)), .val (.int z94), .val (.int z97), .val (.int z100), .val (.ref b101), .val (.ref b113), .val (.ref b128), .val (.int (1 : Int32)), .val (.int (1 : Int32)), .unset] [(.ref b128)]))
              obtain ⟨cq187, kq187, q187a, q187b, q187c⟩ := isOf hZ e173 F182
              obtain ⟨_, _, ⟨T187, L187, k187, n187⟩, -, X187, ⟨Lc187, hQ187, l187, y187, z187⟩, st187⟩ := Y173.virtualBack hx (y := (⟨"com/example/paylode/paylode/header/HeaderReader", "position", "()I"⟩ : MethodName)) (z := (⟨"com/example/paylode/paylode/header/HeaderReader", "position", "()I"⟩ : MethodName)) hown (mvT hZ (hw _ (List.mem_of_getElem? (i := 38) rfl))) (mvT hZ (hw _ (List.mem_of_getElem? (i := 39) rfl))) (notFace_of_selects (args := #[]) (mvT hZ (hw _ (List.mem_of_getElem? (i := 41) rfl)))) (mvT hZ (hw _ (List.mem_of_getElem? (i := 41) rfl))) (mvT hZ (hw _ (List.mem_of_getElem? (i := 40) rfl))) (by decide) (backOf (W := 0) (rm6 l Z a0 hw [] b128 (1 : Int32) h173 n0 F176 F186) hZ (hw _ (List.mem_of_getElem? (i := 42) rfl)) (hw _ (List.mem_of_getElem? (i := 28) rfl)) (by decide) (by decide)) q187a q187c (g := (mkF m 231 #[.val (.int p0), .val (.int p1), .val (.int p2), .val (.int p3), .val (.int (1 : Int32)), .val (.int z94), .val (.int z97), .val (.int z100), .val (.ref b101), .val (.ref b113), .val (.ref b128), .val (.int (1 : Int32)), .val (.int (1 : Int32)), .unset] [(.ref b128)])) rfl (by rw [hml]; rfl) (Steps.refl _) (argsL := []) (rest := []) (lenOf pd_0 rfl) rfl (by show 2 * 0 + _ ≤ _; exact Nat.le_of_eq rfl) (hb hby at_231) (fun _ _ => ⟨rfl, e173, (by decide : 6 + 0 ≤ _), (by decide : 33 + 0 ≤ _)⟩)
              dsimp only [Pt.U, Pt.locs, Pt.cells, Pt.slots] at X187 l187 y187 z187 st187 hQ187
              subst l187 y187 z187
              obtain ⟨rfl, N187q, e187⟩ := hQ187
              obtain ⟨Lo187, Y187, N187⟩ := pk X187 (Fr.app N173 N187q)
              refine Go.trans st187 ?_
              show Go p.tables e below (P0 Z p0 p1 p2 p3 h0 n0 s) (T187.setTop (mkF m 234 #[.val (.int p0), .val (.int p1), .val (.int p2), .val (.int p3), .val (.int (1 : Int32)), .val (.int z94), .val (.int z97), .val (.int z100), .val (.ref b101), .val (.ref b113), .val (.ref b128), .val (.int (1 : Int32)), .val (.int (1 : Int32)), .unset] [(.int (1 : Int32))]))
              refine Go.back (fun t k => XS.iload Y187.here hx rfl (hb hby at_234) rfl  k) ?_
              show Go p.tables e below (P0 Z p0 p1 p2 p3 h0 n0 s) (T187.setTop (mkF m 236 #[.val (.int p0), .val (.int p1), .val (.int p2), .val (.int p3), .val (.int (1 : Int32)), .val (.int z94), .val (.int z97), .val (.int z100), .val (.ref b101), .val (.ref b113), .val (.ref b128), .val (.int (1 : Int32)), .val (.int (1 : Int32)), .unset] [(.int (1 : Int32)), (.int (1 : Int32))]))
              refine Go.back (fun t k => XS.icmpNo Y187.here hx rfl (hb hby at_236) rfl (teq (by decide)).2 k) ?_
              show Go p.tables e below (P0 Z p0 p1 p2 p3 h0 n0 s) (T187.setTop (mkF m 239 #[.val (.int p0), .val (.int p1), .val (.int p2), .val (.int p3), .val (.int (1 : Int32)), .val (.int z94), .val (.int z97), .val (.int z100), .val (.ref b101), .val (.ref b113), .val (.ref b128), .val (.int (1 : Int32)), .val (.int (1 : Int32)), .unset] []))
              refine Go.back (fun t k => XS.aload Y187.here hx rfl (hb hby at_239) rfl rfl  k) ?_
              show Go p.tables e below (P0 Z p0 p1 p2 p3 h0 n0 s) (T187.setTop (mkF m 241 #[.val (.int p0), .val (.int p1), .val (.int p2), .val (.int p3), .val (.int (1 : Int32)), .val (.int z94), .val (.int z97), .val (.int z100), .val (.ref b101), .val (.ref b113), .val (.ref b128), .val (.int (1 : Int32)), .val (.int (1 : Int32)), .unset] [(.ref b128)]))
              obtain ⟨cq188, kq188, q188a, q188b, q188c⟩ := isOf hZ e187 F182
              obtain ⟨_, _, ⟨T188, L188, k188, n188⟩, -, X188, ⟨Lc188, hQ188, l188, y188, z188⟩, st188⟩ := Y187.virtualBack hx (y := (⟨"com/example/paylode/paylode/header/HeaderReader", "atEnd", "()Z"⟩ : MethodName)) (z := (⟨"com/example/paylode/paylode/header/HeaderReader", "atEnd", "()Z"⟩ : MethodName)) hown (mvT hZ (hw _ (List.mem_of_getElem? (i := 45) rfl))) (mvT hZ (hw _ (List.mem_of_getElem? (i := 46) rfl))) (notFace_of_selects (args := #[]) (mvT hZ (hw _ (List.mem_of_getElem? (i := 48) rfl)))) (mvT hZ (hw _ (List.mem_of_getElem? (i := 48) rfl))) (mvT hZ (hw _ (List.mem_of_getElem? (i := 47) rfl))) (by decide) (backOf (W := 0) (rm7 l Z a0 hw [] b128 b113 t122b [z94] zc fm (1 : Int32) h173 n0 F176 F182 F185 F186 F178 F179 F180 F181 F174 F175 hcs hp hl hfm) hZ (hw _ (List.mem_of_getElem? (i := 49) rfl)) (hw _ (List.mem_of_getElem? (i := 28) rfl)) (by decide) (by decide)) q188a q188c (g := (mkF m 241 #[.val (.int p0), .val (.int p1), .val (.int p2), .val (.int p3), .val (.int (1 : Int32)), .val (.int z94), .val (.int z97), .val (.int z100), .val (.ref b101), .val (.ref b113), .val (.ref b128), .val (.int (1 : Int32)), .val (.int (1 : Int32)), .unset] [(.ref b128)])) rfl (by rw [hml]; rfl) (Steps.refl _) (argsL := []) (rest := []) (lenOf pd_1 rfl) rfl (by show 2 * 0 + _ ≤ _; exact Nat.le_of_eq rfl) (hb hby at_241) (fun _ _ => ⟨rfl, e187, (by decide : 6 + 0 ≤ _), (by decide : 33 + 0 ≤ _)⟩)
              dsimp only [Pt.U, Pt.locs, Pt.cells, Pt.slots] at X188 l188 y188 z188 st188 hQ188
              subst l188 y188 z188
              obtain ⟨rfl, N188q, e188⟩ := hQ188
              obtain ⟨Lo188, Y188, N188⟩ := pk X188 (Fr.app N187 N188q)
              refine Go.trans st188 ?_
              rw [show (f7 [z94] (1 : Int32)) = true from by first | rfl | simp [f7]]
              show Go p.tables e below (P0 Z p0 p1 p2 p3 h0 n0 s) (T188.setTop (mkF m 244 #[.val (.int p0), .val (.int p1), .val (.int p2), .val (.int p3), .val (.int (1 : Int32)), .val (.int z94), .val (.int z97), .val (.int z100), .val (.ref b101), .val (.ref b113), .val (.ref b128), .val (.int (1 : Int32)), .val (.int (1 : Int32)), .unset] [(.int (1 : Int32))]))
              refine Go.back (fun t k => XS.iload Y188.here hx rfl (hb hby at_244) rfl  k) ?_
              show Go p.tables e below (P0 Z p0 p1 p2 p3 h0 n0 s) (T188.setTop (mkF m 246 #[.val (.int p0), .val (.int p1), .val (.int p2), .val (.int p3), .val (.int (1 : Int32)), .val (.int z94), .val (.int z97), .val (.int z100), .val (.ref b101), .val (.ref b113), .val (.ref b128), .val (.int (1 : Int32)), .val (.int (1 : Int32)), .unset] [(.int (1 : Int32)), (.int (1 : Int32))]))
              refine Go.back (fun t k => XS.iload Y188.here hx rfl (hb hby at_246) rfl  k) ?_
              show Go p.tables e below (P0 Z p0 p1 p2 p3 h0 n0 s) (T188.setTop (mkF m 248 #[.val (.int p0), .val (.int p1), .val (.int p2), .val (.int p3), .val (.int (1 : Int32)), .val (.int z94), .val (.int z97), .val (.int z100), .val (.ref b101), .val (.ref b113), .val (.ref b128), .val (.int (1 : Int32)), .val (.int (1 : Int32)), .unset] [(.int (1 : Int32)), (.int (1 : Int32)), (.int (1 : Int32))]))
              refine Go.back (fun t k => XS.icmpNo Y188.here hx rfl (hb hby at_248) rfl (teq (by decide)).2 k) ?_
              show Go p.tables e below (P0 Z p0 p1 p2 p3 h0 n0 s) (T188.setTop (mkF m 251 #[.val (.int p0), .val (.int p1), .val (.int p2), .val (.int p3), .val (.int (1 : Int32)), .val (.int z94), .val (.int z97), .val (.int z100), .val (.ref b101), .val (.ref b113), .val (.ref b128), .val (.int (1 : Int32)), .val (.int (1 : Int32)), .unset] [(.int (1 : Int32))]))
              refine Go.back (fun t k => XS.iconst Y188.here hx rfl (hb hby at_251) k) ?_
              show Go p.tables e below (P0 Z p0 p1 p2 p3 h0 n0 s) (T188.setTop (mkF m 252 #[.val (.int p0), .val (.int p1), .val (.int p2), .val (.int p3), .val (.int (1 : Int32)), .val (.int z94), .val (.int z97), .val (.int z100), .val (.ref b101), .val (.ref b113), .val (.ref b128), .val (.int (1 : Int32)), .val (.int (1 : Int32)), .unset] [(.int (1 : Int32)), (.int (1 : Int32))]))
              refine Go.back (fun t k => XS.goto Y188.here hx rfl (pc0 := 252) (pc' := 256) rfl (hb hby at_252) (by decide) (by decide) k) ?_
              show Go p.tables e below (P0 Z p0 p1 p2 p3 h0 n0 s) (T188.setTop (mkF m 256 #[.val (.int p0), .val (.int p1), .val (.int p2), .val (.int p3), .val (.int (1 : Int32)), .val (.int z94), .val (.int z97), .val (.int z100), .val (.ref b101), .val (.ref b113), .val (.ref b128), .val (.int (1 : Int32)), .val (.int (1 : Int32)), .unset] [(.int (1 : Int32)), (.int (1 : Int32))]))
              refine Go.back (fun t k => XS.icmpNo Y188.here hx rfl (hb hby at_256) rfl (teq (by decide)).2 k) ?_
              show Go p.tables e below (P0 Z p0 p1 p2 p3 h0 n0 s) (T188.setTop (mkF m 259 #[.val (.int p0), .val (.int p1), .val (.int p2), .val (.int p3), .val (.int (1 : Int32)), .val (.int z94), .val (.int z97), .val (.int z100), .val (.ref b101), .val (.ref b113), .val (.ref b128), .val (.int (1 : Int32)), .val (.int (1 : Int32)), .unset] []))
              refine Go.back (fun t k => XS.iconst Y188.here hx rfl (hb hby at_259) k) ?_
              show Go p.tables e below (P0 Z p0 p1 p2 p3 h0 n0 s) (T188.setTop (mkF m 260 #[.val (.int p0), .val (.int p1), .val (.int p2), .val (.int p3), .val (.int (1 : Int32)), .val (.int z94), .val (.int z97), .val (.int z100), .val (.ref b101), .val (.ref b113), .val (.ref b128), .val (.int (1 : Int32)), .val (.int (1 : Int32)), .unset] [(.int (1 : Int32))]))
              refine Go.back (fun t k => XS.goto Y188.here hx rfl (pc0 := 260) (pc' := 264) rfl (hb hby at_260) (by decide) (by decide) k) ?_
              show Go p.tables e below (P0 Z p0 p1 p2 p3 h0 n0 s) (T188.setTop (mkF m 264 #[.val (.int p0), .val (.int p1), .val (.int p2), .val (.int p3), .val (.int (1 : Int32)), .val (.int z94), .val (.int z97), .val (.int z100), .val (.ref b101), .val (.ref b113), .val (.ref b128), .val (.int (1 : Int32)), .val (.int (1 : Int32)), .unset] [(.int (1 : Int32))]))
              refine Go.back (fun t k => XS.istore Y188.here hx rfl (hb hby at_264) rfl (l' := #[.val (.int p0), .val (.int p1), .val (.int p2), .val (.int p3), .val (.int (1 : Int32)), .val (.int z94), .val (.int z97), .val (.int z100), .val (.ref b101), .val (.ref b113), .val (.ref b128), .val (.int (1 : Int32)), .val (.int (1 : Int32)), .unset]) rfl k) ?_
              show Go p.tables e below (P0 Z p0 p1 p2 p3 h0 n0 s) (T188.setTop (mkF m 266 #[.val (.int p0), .val (.int p1), .val (.int p2), .val (.int p3), .val (.int (1 : Int32)), .val (.int z94), .val (.int z97), .val (.int z100), .val (.ref b101), .val (.ref b113), .val (.ref b128), .val (.int (1 : Int32)), .val (.int (1 : Int32)), .unset] []))
              refine Go.back (fun t k => XS.iload Y188.here hx rfl (hb hby at_266) rfl  k) ?_
              show Go p.tables e below (P0 Z p0 p1 p2 p3 h0 n0 s) (T188.setTop (mkF m 268 #[.val (.int p0), .val (.int p1), .val (.int p2), .val (.int p3), .val (.int (1 : Int32)), .val (.int z94), .val (.int z97), .val (.int z100), .val (.ref b101), .val (.ref b113), .val (.ref b128), .val (.int (1 : Int32)), .val (.int (1 : Int32)), .unset] [(.int (1 : Int32))]))
              refine Go.back (fun t k => XS.iload Y188.here hx rfl (hb hby at_268) rfl  k) ?_
              show Go p.tables e below (P0 Z p0 p1 p2 p3 h0 n0 s) (T188.setTop (mkF m 270 #[.val (.int p0), .val (.int p1), .val (.int p2), .val (.int p3), .val (.int (1 : Int32)), .val (.int z94), .val (.int z97), .val (.int z100), .val (.ref b101), .val (.ref b113), .val (.ref b128), .val (.int (1 : Int32)), .val (.int (1 : Int32)), .unset] [(.int (1 : Int32)), (.int (1 : Int32))]))
              refine Go.back (fun t k => XS.icmpYes Y188.here hx rfl (pc0 := 270) (pc' := 351) rfl (hb hby at_270) rfl (flt (by decide)).2.1 (by decide) (by decide) k) ?_
              show Go p.tables e below (P0 Z p0 p1 p2 p3 h0 n0 s) (T188.setTop (mkF m 351 #[.val (.int p0), .val (.int p1), .val (.int p2), .val (.int p3), .val (.int (1 : Int32)), .val (.int z94), .val (.int z97), .val (.int z100), .val (.ref b101), .val (.ref b113), .val (.ref b128), .val (.int (1 : Int32)), .val (.int (1 : Int32)), .unset] []))
              refine Go.back (fun t k => XS.iload Y188.here hx rfl (hb hby at_351) rfl  k) ?_
              show Go p.tables e below (P0 Z p0 p1 p2 p3 h0 n0 s) (T188.setTop (mkF m 353 #[.val (.int p0), .val (.int p1), .val (.int p2), .val (.int p3), .val (.int (1 : Int32)), .val (.int z94), .val (.int z97), .val (.int z100), .val (.ref b101), .val (.ref b113), .val (.ref b128), .val (.int (1 : Int32)), .val (.int (1 : Int32)), .unset] [(.int (1 : Int32))]))
              exact Go.retBW (s := s) (vm0 := TV.vm) (b := true) (Qa := Q0 Z p0 p1 p2 p3 h0 n0) (Qb := fun vm h => True) Y188 hx hSV (by rw [e188]; exact F183) Bd.returns (hb hby at_353) Bd.notSynchronized ⟨rfl, N188⟩ trivial (by decide) (by decide)
            · refine Go.back (fun t k => XS.ifYes Y171.here hx rfl (pc0 := 167) (pc' := 216) rfl (hb hby at_167) rfl ((if0 _ _).trans (teq (b2i_f hc172)).1) (by decide) (by decide) k) ?_
              show Go p.tables e below (P0 Z p0 p1 p2 p3 h0 n0 s) (T171.setTop (mkF m 216 #[.val (.int p0), .val (.int p1), .val (.int p2), .val (.int p3), .val (.int (1 : Int32)), .val (.int z94), .val (.int z97), .val (.int z100), .val (.ref b101), .val (.ref b113), .val (.ref b128), .val (.int (1 : Int32)), .unset, .unset] []))
              refine Go.back (fun t k => XS.iconst Y171.here hx rfl (hb hby at_216) k) ?_
              show Go p.tables e below (P0 Z p0 p1 p2 p3 h0 n0 s) (T171.setTop (mkF m 217 #[.val (.int p0), .val (.int p1), .val (.int p2), .val (.int p3), .val (.int (1 : Int32)), .val (.int z94), .val (.int z97), .val (.int z100), .val (.ref b101), .val (.ref b113), .val (.ref b128), .val (.int (1 : Int32)), .unset, .unset] [(.int (0 : Int32))]))
              refine Go.back (fun t k => XS.istore Y171.here hx rfl (hb hby at_217) rfl (l' := #[.val (.int p0), .val (.int p1), .val (.int p2), .val (.int p3), .val (.int (1 : Int32)), .val (.int z94), .val (.int z97), .val (.int z100), .val (.ref b101), .val (.ref b113), .val (.ref b128), .val (.int (1 : Int32)), .val (.int (0 : Int32)), .unset]) rfl k) ?_
              show Go p.tables e below (P0 Z p0 p1 p2 p3 h0 n0 s) (T171.setTop (mkF m 219 #[.val (.int p0), .val (.int p1), .val (.int p2), .val (.int p3), .val (.int (1 : Int32)), .val (.int z94), .val (.int z97), .val (.int z100), .val (.ref b101), .val (.ref b113), .val (.ref b128), .val (.int (1 : Int32)), .val (.int (0 : Int32)), .unset] []))
              refine Go.back (fun t k => XS.aload Y171.here hx rfl (hb hby at_219) rfl rfl  k) ?_
              show Go p.tables e below (P0 Z p0 p1 p2 p3 h0 n0 s) (T171.setTop (mkF m 221 #[.val (.int p0), .val (.int p1), .val (.int p2), .val (.int p3), .val (.int (1 : Int32)), .val (.int z94), .val (.int z97), .val (.int z100), .val (.ref b101), .val (.ref b113), .val (.ref b128), .val (.int (1 : Int32)), .val (.int (0 : Int32)), .unset] [(.ref b128)]))
              obtain ⟨cq189, kq189, q189a, q189b, q189c⟩ := isOf hZ e171 F165
              obtain ⟨_, _, ⟨T189, L189, k189, n189⟩, -, X189, ⟨Lc189, hQ189, l189, y189, z189⟩, st189⟩ := Y171.virtualBack hx (y := (⟨"com/example/paylode/paylode/header/HeaderReader", "skipWhitespace", "()V"⟩ : MethodName)) (z := (⟨"com/example/paylode/paylode/header/HeaderReader", "skipWhitespace", "()V"⟩ : MethodName)) hown (mvT hZ (hw _ (List.mem_of_getElem? (i := 61) rfl))) (mvT hZ (hw _ (List.mem_of_getElem? (i := 62) rfl))) (notFace_of_selects (args := #[]) (mvT hZ (hw _ (List.mem_of_getElem? (i := 64) rfl)))) (mvT hZ (hw _ (List.mem_of_getElem? (i := 64) rfl))) (mvT hZ (hw _ (List.mem_of_getElem? (i := 63) rfl))) (by decide) (backOf (W := 0) (rm10 l Z a0 hw [] b128 b113 t122b [z94] zc fm h156 n0 F159 F165 F168 F167 F161 F162 F163 F164 F157 F158 g132 ne130 ne131 hcs hp hl hfm) hZ (hw _ (List.mem_of_getElem? (i := 65) rfl)) (hw _ (List.mem_of_getElem? (i := 28) rfl)) (by decide) (by decide)) q189a q189c (g := (mkF m 221 #[.val (.int p0), .val (.int p1), .val (.int p2), .val (.int p3), .val (.int (1 : Int32)), .val (.int z94), .val (.int z97), .val (.int z100), .val (.ref b101), .val (.ref b113), .val (.ref b128), .val (.int (1 : Int32)), .val (.int (0 : Int32)), .unset] [(.ref b128)])) rfl (by rw [hml]; rfl) (Steps.refl _) (argsL := []) (rest := []) (lenOf pd_7 rfl) rfl (by show 2 * 0 + _ ≤ _; exact Nat.le_of_eq rfl) (hb hby at_221) (fun _ _ => ⟨rfl, e171, (by decide : 6 + 0 ≤ _), (by decide : 33 + 0 ≤ _)⟩)
              dsimp only [Pt.U, Pt.locs, Pt.cells, Pt.slots] at X189 l189 y189 z189 st189 hQ189
              subst l189 y189 z189
              obtain ⟨h189, e189⟩ : ∃ z, T189.heap = z := ⟨_, rfl⟩
              rw [e189] at hQ189
              obtain ⟨rfl, N189q, K189, F200, F201⟩ := hQ189
              obtain ⟨Lo189, Y189, N189⟩ := pk X189 (Fr.app N171 N189q)
              have F190 : Sta Z h189 "java/lang/String" "COMPACT_STRINGS" "Z" (.int zc) := sta_keep F157 K189 (noSS (noS_exa F165) noS0)
              have F191 : Sta Z h189 "jdk/internal/util/Preconditions" "SIOOBE_FORMATTER" "Ljava/util/function/BiFunction;" fm := sta_keep F158 K189 (noSS (noS_exa F165) noS0)
              have F192 : n0 ≤ h189.size := Nat.le_trans F159 K189.1
              have F193 : ArL Z h189 b101 .char [(.int z94)] := F160.keep K189 (ninS ne129 nin0)
              have F194 : Exa Z h189 b113 "java/lang/String" := F161.keep K189
              have F195 : Fld Z h189 b113 "java/lang/String" "coder" "B" (.int (0 : Int32)) := F162.keep K189 (ninS ne130 nin0)
              have F196 : Fld Z h189 b113 "java/lang/String" "value" "[B" (.ref t122b) := F163.keep K189 (ninS ne130 nin0)
              have F197 : ArL Z h189 t122b .byte (List.map Value.int (List.map StrChars.lo8 [z94])) := F164.keep K189 (ninS ne131 nin0)
              have F198 : Exa Z h189 b128 "com/example/paylode/paylode/header/HeaderReader" := F165.keep K189
              have F199 : kV ≤ h189.size := Nat.le_trans F166 K189.1
              refine Go.trans st189 ?_
              show Go p.tables e below (P0 Z p0 p1 p2 p3 h0 n0 s) (T189.setTop (mkF m 224 #[.val (.int p0), .val (.int p1), .val (.int p2), .val (.int p3), .val (.int (1 : Int32)), .val (.int z94), .val (.int z97), .val (.int z100), .val (.ref b101), .val (.ref b113), .val (.ref b128), .val (.int (1 : Int32)), .val (.int (0 : Int32)), .unset] []))
              have F202 : Fld Z h189 b128 "com/example/paylode/paylode/header/HeaderReader" "position" "I" (.int (0 : Int32)) := by
                have q := F200
                rw [show (g10_1 [z94]) = (0 : Int32) from own_sk_1_0 hc172] at q
                exact q
              refine Go.back (fun t k => XS.iload Y189.here hx rfl (hb hby at_224) rfl  k) ?_
              show Go p.tables e below (P0 Z p0 p1 p2 p3 h0 n0 s) (T189.setTop (mkF m 226 #[.val (.int p0), .val (.int p1), .val (.int p2), .val (.int p3), .val (.int (1 : Int32)), .val (.int z94), .val (.int z97), .val (.int z100), .val (.ref b101), .val (.ref b113), .val (.ref b128), .val (.int (1 : Int32)), .val (.int (0 : Int32)), .unset] [(.int (1 : Int32))]))
              refine Go.back (fun t k => XS.ifNo Y189.here hx rfl (hb hby at_226) rfl ((if0 _ _).trans (feq (by decide)).1) k) ?_
              show Go p.tables e below (P0 Z p0 p1 p2 p3 h0 n0 s) (T189.setTop (mkF m 229 #[.val (.int p0), .val (.int p1), .val (.int p2), .val (.int p3), .val (.int (1 : Int32)), .val (.int z94), .val (.int z97), .val (.int z100), .val (.ref b101), .val (.ref b113), .val (.ref b128), .val (.int (1 : Int32)), .val (.int (0 : Int32)), .unset] []))
              refine Go.back (fun t k => XS.aload Y189.here hx rfl (hb hby at_229) rfl rfl  k) ?_
              show Go p.tables e below (P0 Z p0 p1 p2 p3 h0 n0 s) (T189.setTop (mkF m 231 #[.val (.int p0), .val (.int p1), .val (.int p2), .val (.int p3), .val (.int (1 : Int32)), .val (.int z94), .val (.int z97), .val (.int z100), .val (.ref b101), .val (.ref b113), .val (.ref b128), .val (.int (1 : Int32)), .val (.int (0 : Int32)), .unset] [(.ref b128)]))
              obtain ⟨cq203, kq203, q203a, q203b, q203c⟩ := isOf hZ e189 F198
              obtain ⟨_, _, ⟨T203, L203, k203, n203⟩, -, X203, ⟨Lc203, hQ203, l203, y203, z203⟩, st203⟩ := Y189.virtualBack hx (y := (⟨"com/example/paylode/paylode/header/HeaderReader", "position", "()I"⟩ : MethodName)) (z := (⟨"com/example/paylode/paylode/header/HeaderReader", "position", "()I"⟩ : MethodName)) hown (mvT hZ (hw _ (List.mem_of_getElem? (i := 38) rfl))) (mvT hZ (hw _ (List.mem_of_getElem? (i := 39) rfl))) (notFace_of_selects (args := #[]) (mvT hZ (hw _ (List.mem_of_getElem? (i := 41) rfl)))) (mvT hZ (hw _ (List.mem_of_getElem? (i := 41) rfl))) (mvT hZ (hw _ (List.mem_of_getElem? (i := 40) rfl))) (by decide) (backOf (W := 0) (rm6 l Z a0 hw [] b128 (0 : Int32) h189 n0 F192 F202) hZ (hw _ (List.mem_of_getElem? (i := 42) rfl)) (hw _ (List.mem_of_getElem? (i := 28) rfl)) (by decide) (by decide)) q203a q203c (g := (mkF m 231 #[.val (.int p0), .val (.int p1), .val (.int p2), .val (.int p3), .val (.int (1 : Int32)), .val (.int z94), .val (.int z97), .val (.int z100), .val (.ref b101), .val (.ref b113), .val (.ref b128), .val (.int (1 : Int32)), .val (.int (0 : Int32)), .unset] [(.ref b128)])) rfl (by rw [hml]; rfl) (Steps.refl _) (argsL := []) (rest := []) (lenOf pd_0 rfl) rfl (by show 2 * 0 + _ ≤ _; exact Nat.le_of_eq rfl) (hb hby at_231) (fun _ _ => ⟨rfl, e189, (by decide : 6 + 0 ≤ _), (by decide : 33 + 0 ≤ _)⟩)
              dsimp only [Pt.U, Pt.locs, Pt.cells, Pt.slots] at X203 l203 y203 z203 st203 hQ203
              subst l203 y203 z203
              obtain ⟨rfl, N203q, e203⟩ := hQ203
              obtain ⟨Lo203, Y203, N203⟩ := pk X203 (Fr.app N189 N203q)
              refine Go.trans st203 ?_
              show Go p.tables e below (P0 Z p0 p1 p2 p3 h0 n0 s) (T203.setTop (mkF m 234 #[.val (.int p0), .val (.int p1), .val (.int p2), .val (.int p3), .val (.int (1 : Int32)), .val (.int z94), .val (.int z97), .val (.int z100), .val (.ref b101), .val (.ref b113), .val (.ref b128), .val (.int (1 : Int32)), .val (.int (0 : Int32)), .unset] [(.int (0 : Int32))]))
              refine Go.back (fun t k => XS.iload Y203.here hx rfl (hb hby at_234) rfl  k) ?_
              show Go p.tables e below (P0 Z p0 p1 p2 p3 h0 n0 s) (T203.setTop (mkF m 236 #[.val (.int p0), .val (.int p1), .val (.int p2), .val (.int p3), .val (.int (1 : Int32)), .val (.int z94), .val (.int z97), .val (.int z100), .val (.ref b101), .val (.ref b113), .val (.ref b128), .val (.int (1 : Int32)), .val (.int (0 : Int32)), .unset] [(.int (0 : Int32)), (.int (0 : Int32))]))
              refine Go.back (fun t k => XS.icmpNo Y203.here hx rfl (hb hby at_236) rfl (teq (by decide)).2 k) ?_
              show Go p.tables e below (P0 Z p0 p1 p2 p3 h0 n0 s) (T203.setTop (mkF m 239 #[.val (.int p0), .val (.int p1), .val (.int p2), .val (.int p3), .val (.int (1 : Int32)), .val (.int z94), .val (.int z97), .val (.int z100), .val (.ref b101), .val (.ref b113), .val (.ref b128), .val (.int (1 : Int32)), .val (.int (0 : Int32)), .unset] []))
              refine Go.back (fun t k => XS.aload Y203.here hx rfl (hb hby at_239) rfl rfl  k) ?_
              show Go p.tables e below (P0 Z p0 p1 p2 p3 h0 n0 s) (T203.setTop (mkF m 241 #[.val (.int p0), .val (.int p1), .val (.int p2), .val (.int p3), .val (.int (1 : Int32)), .val (.int z94), .val (.int z97), .val (.int z100), .val (.ref b101), .val (.ref b113), .val (.ref b128), .val (.int (1 : Int32)), .val (.int (0 : Int32)), .unset] [(.ref b128)]))
              obtain ⟨cq204, kq204, q204a, q204b, q204c⟩ := isOf hZ e203 F198
              obtain ⟨_, _, ⟨T204, L204, k204, n204⟩, -, X204, ⟨Lc204, hQ204, l204, y204, z204⟩, st204⟩ := Y203.virtualBack hx (y := (⟨"com/example/paylode/paylode/header/HeaderReader", "atEnd", "()Z"⟩ : MethodName)) (z := (⟨"com/example/paylode/paylode/header/HeaderReader", "atEnd", "()Z"⟩ : MethodName)) hown (mvT hZ (hw _ (List.mem_of_getElem? (i := 45) rfl))) (mvT hZ (hw _ (List.mem_of_getElem? (i := 46) rfl))) (notFace_of_selects (args := #[]) (mvT hZ (hw _ (List.mem_of_getElem? (i := 48) rfl)))) (mvT hZ (hw _ (List.mem_of_getElem? (i := 48) rfl))) (mvT hZ (hw _ (List.mem_of_getElem? (i := 47) rfl))) (by decide) (backOf (W := 0) (rm7 l Z a0 hw [] b128 b113 t122b [z94] zc fm (0 : Int32) h189 n0 F192 F198 F201 F202 F194 F195 F196 F197 F190 F191 hcs hp hl hfm) hZ (hw _ (List.mem_of_getElem? (i := 49) rfl)) (hw _ (List.mem_of_getElem? (i := 28) rfl)) (by decide) (by decide)) q204a q204c (g := (mkF m 241 #[.val (.int p0), .val (.int p1), .val (.int p2), .val (.int p3), .val (.int (1 : Int32)), .val (.int z94), .val (.int z97), .val (.int z100), .val (.ref b101), .val (.ref b113), .val (.ref b128), .val (.int (1 : Int32)), .val (.int (0 : Int32)), .unset] [(.ref b128)])) rfl (by rw [hml]; rfl) (Steps.refl _) (argsL := []) (rest := []) (lenOf pd_1 rfl) rfl (by show 2 * 0 + _ ≤ _; exact Nat.le_of_eq rfl) (hb hby at_241) (fun _ _ => ⟨rfl, e203, (by decide : 6 + 0 ≤ _), (by decide : 33 + 0 ≤ _)⟩)
              dsimp only [Pt.U, Pt.locs, Pt.cells, Pt.slots] at X204 l204 y204 z204 st204 hQ204
              subst l204 y204 z204
              obtain ⟨rfl, N204q, e204⟩ := hQ204
              obtain ⟨Lo204, Y204, N204⟩ := pk X204 (Fr.app N203 N204q)
              refine Go.trans st204 ?_
              rw [show (f7 [z94] (0 : Int32)) = false from by first | rfl | simp [f7]]
              show Go p.tables e below (P0 Z p0 p1 p2 p3 h0 n0 s) (T204.setTop (mkF m 244 #[.val (.int p0), .val (.int p1), .val (.int p2), .val (.int p3), .val (.int (1 : Int32)), .val (.int z94), .val (.int z97), .val (.int z100), .val (.ref b101), .val (.ref b113), .val (.ref b128), .val (.int (1 : Int32)), .val (.int (0 : Int32)), .unset] [(.int (0 : Int32))]))
              refine Go.back (fun t k => XS.iload Y204.here hx rfl (hb hby at_244) rfl  k) ?_
              show Go p.tables e below (P0 Z p0 p1 p2 p3 h0 n0 s) (T204.setTop (mkF m 246 #[.val (.int p0), .val (.int p1), .val (.int p2), .val (.int p3), .val (.int (1 : Int32)), .val (.int z94), .val (.int z97), .val (.int z100), .val (.ref b101), .val (.ref b113), .val (.ref b128), .val (.int (1 : Int32)), .val (.int (0 : Int32)), .unset] [(.int (0 : Int32)), (.int (0 : Int32))]))
              refine Go.back (fun t k => XS.iload Y204.here hx rfl (hb hby at_246) rfl  k) ?_
              show Go p.tables e below (P0 Z p0 p1 p2 p3 h0 n0 s) (T204.setTop (mkF m 248 #[.val (.int p0), .val (.int p1), .val (.int p2), .val (.int p3), .val (.int (1 : Int32)), .val (.int z94), .val (.int z97), .val (.int z100), .val (.ref b101), .val (.ref b113), .val (.ref b128), .val (.int (1 : Int32)), .val (.int (0 : Int32)), .unset] [(.int (1 : Int32)), (.int (0 : Int32)), (.int (0 : Int32))]))
              refine Go.back (fun t k => XS.icmpYes Y204.here hx rfl (pc0 := 248) (pc' := 255) rfl (hb hby at_248) rfl (feq (by decide)).2 (by decide) (by decide) k) ?_
              show Go p.tables e below (P0 Z p0 p1 p2 p3 h0 n0 s) (T204.setTop (mkF m 255 #[.val (.int p0), .val (.int p1), .val (.int p2), .val (.int p3), .val (.int (1 : Int32)), .val (.int z94), .val (.int z97), .val (.int z100), .val (.ref b101), .val (.ref b113), .val (.ref b128), .val (.int (1 : Int32)), .val (.int (0 : Int32)), .unset] [(.int (0 : Int32))]))
              refine Go.back (fun t k => XS.iconst Y204.here hx rfl (hb hby at_255) k) ?_
              show Go p.tables e below (P0 Z p0 p1 p2 p3 h0 n0 s) (T204.setTop (mkF m 256 #[.val (.int p0), .val (.int p1), .val (.int p2), .val (.int p3), .val (.int (1 : Int32)), .val (.int z94), .val (.int z97), .val (.int z100), .val (.ref b101), .val (.ref b113), .val (.ref b128), .val (.int (1 : Int32)), .val (.int (0 : Int32)), .unset] [(.int (0 : Int32)), (.int (0 : Int32))]))
              refine Go.back (fun t k => XS.icmpNo Y204.here hx rfl (hb hby at_256) rfl (teq (by decide)).2 k) ?_
              show Go p.tables e below (P0 Z p0 p1 p2 p3 h0 n0 s) (T204.setTop (mkF m 259 #[.val (.int p0), .val (.int p1), .val (.int p2), .val (.int p3), .val (.int (1 : Int32)), .val (.int z94), .val (.int z97), .val (.int z100), .val (.ref b101), .val (.ref b113), .val (.ref b128), .val (.int (1 : Int32)), .val (.int (0 : Int32)), .unset] []))
              refine Go.back (fun t k => XS.iconst Y204.here hx rfl (hb hby at_259) k) ?_
              show Go p.tables e below (P0 Z p0 p1 p2 p3 h0 n0 s) (T204.setTop (mkF m 260 #[.val (.int p0), .val (.int p1), .val (.int p2), .val (.int p3), .val (.int (1 : Int32)), .val (.int z94), .val (.int z97), .val (.int z100), .val (.ref b101), .val (.ref b113), .val (.ref b128), .val (.int (1 : Int32)), .val (.int (0 : Int32)), .unset] [(.int (1 : Int32))]))
              refine Go.back (fun t k => XS.goto Y204.here hx rfl (pc0 := 260) (pc' := 264) rfl (hb hby at_260) (by decide) (by decide) k) ?_
              show Go p.tables e below (P0 Z p0 p1 p2 p3 h0 n0 s) (T204.setTop (mkF m 264 #[.val (.int p0), .val (.int p1), .val (.int p2), .val (.int p3), .val (.int (1 : Int32)), .val (.int z94), .val (.int z97), .val (.int z100), .val (.ref b101), .val (.ref b113), .val (.ref b128), .val (.int (1 : Int32)), .val (.int (0 : Int32)), .unset] [(.int (1 : Int32))]))
              refine Go.back (fun t k => XS.istore Y204.here hx rfl (hb hby at_264) rfl (l' := #[.val (.int p0), .val (.int p1), .val (.int p2), .val (.int p3), .val (.int (1 : Int32)), .val (.int z94), .val (.int z97), .val (.int z100), .val (.ref b101), .val (.ref b113), .val (.ref b128), .val (.int (1 : Int32)), .val (.int (0 : Int32)), .unset]) rfl k) ?_
              show Go p.tables e below (P0 Z p0 p1 p2 p3 h0 n0 s) (T204.setTop (mkF m 266 #[.val (.int p0), .val (.int p1), .val (.int p2), .val (.int p3), .val (.int (1 : Int32)), .val (.int z94), .val (.int z97), .val (.int z100), .val (.ref b101), .val (.ref b113), .val (.ref b128), .val (.int (1 : Int32)), .val (.int (0 : Int32)), .unset] []))
              refine Go.back (fun t k => XS.iload Y204.here hx rfl (hb hby at_266) rfl  k) ?_
              show Go p.tables e below (P0 Z p0 p1 p2 p3 h0 n0 s) (T204.setTop (mkF m 268 #[.val (.int p0), .val (.int p1), .val (.int p2), .val (.int p3), .val (.int (1 : Int32)), .val (.int z94), .val (.int z97), .val (.int z100), .val (.ref b101), .val (.ref b113), .val (.ref b128), .val (.int (1 : Int32)), .val (.int (0 : Int32)), .unset] [(.int (0 : Int32))]))
              refine Go.back (fun t k => XS.iload Y204.here hx rfl (hb hby at_268) rfl  k) ?_
              show Go p.tables e below (P0 Z p0 p1 p2 p3 h0 n0 s) (T204.setTop (mkF m 270 #[.val (.int p0), .val (.int p1), .val (.int p2), .val (.int p3), .val (.int (1 : Int32)), .val (.int z94), .val (.int z97), .val (.int z100), .val (.ref b101), .val (.ref b113), .val (.ref b128), .val (.int (1 : Int32)), .val (.int (0 : Int32)), .unset] [(.int (1 : Int32)), (.int (0 : Int32))]))
              refine Go.back (fun t k => XS.icmpNo Y204.here hx rfl (hb hby at_270) rfl (tlt (by decide)).2.1 k) ?_
              show Go p.tables e below (P0 Z p0 p1 p2 p3 h0 n0 s) (T204.setTop (mkF m 273 #[.val (.int p0), .val (.int p1), .val (.int p2), .val (.int p3), .val (.int (1 : Int32)), .val (.int z94), .val (.int z97), .val (.int z100), .val (.ref b101), .val (.ref b113), .val (.ref b128), .val (.int (1 : Int32)), .val (.int (0 : Int32)), .unset] []))
              refine Go.back (fun t k => XS.iload Y204.here hx rfl (hb hby at_273) rfl  k) ?_
              show Go p.tables e below (P0 Z p0 p1 p2 p3 h0 n0 s) (T204.setTop (mkF m 275 #[.val (.int p0), .val (.int p1), .val (.int p2), .val (.int p3), .val (.int (1 : Int32)), .val (.int z94), .val (.int z97), .val (.int z100), .val (.ref b101), .val (.ref b113), .val (.ref b128), .val (.int (1 : Int32)), .val (.int (0 : Int32)), .unset] [(.int (0 : Int32))]))
              refine Go.back (fun t k => XS.ifNo Y204.here hx rfl (hb hby at_275) rfl ((if0 _ _).trans (teq (by decide)).2) k) ?_
              show Go p.tables e below (P0 Z p0 p1 p2 p3 h0 n0 s) (T204.setTop (mkF m 278 #[.val (.int p0), .val (.int p1), .val (.int p2), .val (.int p3), .val (.int (1 : Int32)), .val (.int z94), .val (.int z97), .val (.int z100), .val (.ref b101), .val (.ref b113), .val (.ref b128), .val (.int (1 : Int32)), .val (.int (0 : Int32)), .unset] []))
              refine Go.back (fun t k => XS.iload Y204.here hx rfl (hb hby at_278) rfl  k) ?_
              show Go p.tables e below (P0 Z p0 p1 p2 p3 h0 n0 s) (T204.setTop (mkF m 280 #[.val (.int p0), .val (.int p1), .val (.int p2), .val (.int p3), .val (.int (1 : Int32)), .val (.int z94), .val (.int z97), .val (.int z100), .val (.ref b101), .val (.ref b113), .val (.ref b128), .val (.int (1 : Int32)), .val (.int (0 : Int32)), .unset] [(.int z94)]))
              refine Go.back (fun t k => XS.goto Y204.here hx rfl (pc0 := 280) (pc' := 296) rfl (hb hby at_280) (by decide) (by decide) k) ?_
              show Go p.tables e below (P0 Z p0 p1 p2 p3 h0 n0 s) (T204.setTop (mkF m 296 #[.val (.int p0), .val (.int p1), .val (.int p2), .val (.int p3), .val (.int (1 : Int32)), .val (.int z94), .val (.int z97), .val (.int z100), .val (.ref b101), .val (.ref b113), .val (.ref b128), .val (.int (1 : Int32)), .val (.int (0 : Int32)), .unset] [(.int z94)]))
              refine Go.back (fun t k => XS.istore Y204.here hx rfl (hb hby at_296) rfl (l' := #[.val (.int p0), .val (.int p1), .val (.int p2), .val (.int p3), .val (.int (1 : Int32)), .val (.int z94), .val (.int z97), .val (.int z100), .val (.ref b101), .val (.ref b113), .val (.ref b128), .val (.int (1 : Int32)), .val (.int (0 : Int32)), .val (.int z94)]) rfl k) ?_
              show Go p.tables e below (P0 Z p0 p1 p2 p3 h0 n0 s) (T204.setTop (mkF m 298 #[.val (.int p0), .val (.int p1), .val (.int p2), .val (.int p3), .val (.int (1 : Int32)), .val (.int z94), .val (.int z97), .val (.int z100), .val (.ref b101), .val (.ref b113), .val (.ref b128), .val (.int (1 : Int32)), .val (.int (0 : Int32)), .val (.int z94)] []))
              refine Go.back (fun t k => XS.aload Y204.here hx rfl (hb hby at_298) rfl rfl  k) ?_
              show Go p.tables e below (P0 Z p0 p1 p2 p3 h0 n0 s) (T204.setTop (mkF m 300 #[.val (.int p0), .val (.int p1), .val (.int p2), .val (.int p3), .val (.int (1 : Int32)), .val (.int z94), .val (.int z97), .val (.int z100), .val (.ref b101), .val (.ref b113), .val (.ref b128), .val (.int (1 : Int32)), .val (.int (0 : Int32)), .val (.int z94)] [(.ref b128)]))
              refine Go.back (fun t k => XS.iload Y204.here hx rfl (hb hby at_300) rfl  k) ?_
              show Go p.tables e below (P0 Z p0 p1 p2 p3 h0 n0 s) (T204.setTop (mkF m 302 #[.val (.int p0), .val (.int p1), .val (.int p2), .val (.int p3), .val (.int (1 : Int32)), .val (.int z94), .val (.int z97), .val (.int z100), .val (.ref b101), .val (.ref b113), .val (.ref b128), .val (.int (1 : Int32)), .val (.int (0 : Int32)), .val (.int z94)] [(.int z94), (.ref b128)]))
              obtain ⟨cq205, kq205, q205a, q205b, q205c⟩ := isOf hZ e204 F198
              obtain ⟨_, _, ⟨T205, L205, k205, n205⟩, -, X205, ⟨Lc205, hQ205, l205, y205, z205⟩, st205⟩ := Y204.virtualBack hx (y := (⟨"com/example/paylode/paylode/header/HeaderReader", "expect", "(C)V"⟩ : MethodName)) (z := (⟨"com/example/paylode/paylode/header/HeaderReader", "expect", "(C)V"⟩ : MethodName)) hown (mvT hZ (hw _ (List.mem_of_getElem? (i := 107) rfl))) (mvT hZ (hw _ (List.mem_of_getElem? (i := 108) rfl))) (notFace_of_selects (args := #[]) (mvT hZ (hw _ (List.mem_of_getElem? (i := 110) rfl)))) (mvT hZ (hw _ (List.mem_of_getElem? (i := 110) rfl))) (mvT hZ (hw _ (List.mem_of_getElem? (i := 109) rfl))) (by decide) (backOf (W := 0) (rm21 l Z a0 hw [] b128 z94 b113 t122b [z94] zc fm (0 : Int32) h189 n0 F192 F198 F201 F202 F194 F195 F196 F197 F190 F191 g132 ne130 ne131 hcs hp hl hfm ⟨by decide, Nat.le_of_ble_eq_true rfl⟩ (by simp [f11, f7])) hZ (hw _ (List.mem_of_getElem? (i := 111) rfl)) (hw _ (List.mem_of_getElem? (i := 28) rfl)) (by decide) (by decide)) q205a q205c (g := (mkF m 302 #[.val (.int p0), .val (.int p1), .val (.int p2), .val (.int p3), .val (.int (1 : Int32)), .val (.int z94), .val (.int z97), .val (.int z100), .val (.ref b101), .val (.ref b113), .val (.ref b128), .val (.int (1 : Int32)), .val (.int (0 : Int32)), .val (.int z94)] [(.int z94), (.ref b128)])) rfl (by rw [hml]; rfl) (Steps.refl _) (argsL := [(.int z94)]) (rest := []) (lenOf pd_8 rfl) rfl (by show 2 * 0 + _ ≤ _; exact Nat.le_of_eq rfl) (hb hby at_302) (fun _ _ => ⟨rfl, e204, (by decide : 6 + 0 ≤ _), (by decide : 33 + 0 ≤ _)⟩)
              dsimp only [Pt.U, Pt.locs, Pt.cells, Pt.slots] at X205 l205 y205 z205 st205 hQ205
              subst l205 y205 z205
              obtain ⟨h205, e205⟩ : ∃ z, T205.heap = z := ⟨_, rfl⟩
              rw [e205] at hQ205
              obtain ⟨rfl, N205q, K205, F216, F217⟩ := hQ205
              obtain ⟨Lo205, Y205, N205⟩ := pk X205 (Fr.app N204 N205q)
              have F206 : Sta Z h205 "java/lang/String" "COMPACT_STRINGS" "Z" (.int zc) := sta_keep F190 K205 (noSS (noS_exa F198) noS0)
              have F207 : Sta Z h205 "jdk/internal/util/Preconditions" "SIOOBE_FORMATTER" "Ljava/util/function/BiFunction;" fm := sta_keep F191 K205 (noSS (noS_exa F198) noS0)
              have F208 : n0 ≤ h205.size := Nat.le_trans F192 K205.1
              have F209 : ArL Z h205 b101 .char [(.int z94)] := F193.keep K205 (ninS ne129 nin0)
              have F210 : Exa Z h205 b113 "java/lang/String" := F194.keep K205
              have F211 : Fld Z h205 b113 "java/lang/String" "coder" "B" (.int (0 : Int32)) := F195.keep K205 (ninS ne130 nin0)
              have F212 : Fld Z h205 b113 "java/lang/String" "value" "[B" (.ref t122b) := F196.keep K205 (ninS ne130 nin0)
              have F213 : ArL Z h205 t122b .byte (List.map Value.int (List.map StrChars.lo8 [z94])) := F197.keep K205 (ninS ne131 nin0)
              have F214 : Exa Z h205 b128 "com/example/paylode/paylode/header/HeaderReader" := F198.keep K205
              have F215 : kV ≤ h205.size := Nat.le_trans F199 K205.1
              refine Go.trans st205 ?_
              show Go p.tables e below (P0 Z p0 p1 p2 p3 h0 n0 s) (T205.setTop (mkF m 305 #[.val (.int p0), .val (.int p1), .val (.int p2), .val (.int p3), .val (.int (1 : Int32)), .val (.int z94), .val (.int z97), .val (.int z100), .val (.ref b101), .val (.ref b113), .val (.ref b128), .val (.int (1 : Int32)), .val (.int (0 : Int32)), .val (.int z94)] []))
              have F218 : Fld Z h205 b128 "com/example/paylode/paylode/header/HeaderReader" "position" "I" (.int (1 : Int32)) := by
                have q := F216
                rw [show ((0 : Int32) + (1 : Int32)) = (1 : Int32) from by decide] at q
                exact q
              refine Go.back (fun t k => XS.iload Y205.here hx rfl (hb hby at_305) rfl  k) ?_
              show Go p.tables e below (P0 Z p0 p1 p2 p3 h0 n0 s) (T205.setTop (mkF m 307 #[.val (.int p0), .val (.int p1), .val (.int p2), .val (.int p3), .val (.int (1 : Int32)), .val (.int z94), .val (.int z97), .val (.int z100), .val (.ref b101), .val (.ref b113), .val (.ref b128), .val (.int (1 : Int32)), .val (.int (0 : Int32)), .val (.int z94)] [(.int (1 : Int32))]))
              refine Go.back (fun t k => XS.ifNo Y205.here hx rfl (hb hby at_307) rfl ((if0 _ _).trans (feq (by decide)).1) k) ?_
              show Go p.tables e below (P0 Z p0 p1 p2 p3 h0 n0 s) (T205.setTop (mkF m 310 #[.val (.int p0), .val (.int p1), .val (.int p2), .val (.int p3), .val (.int (1 : Int32)), .val (.int z94), .val (.int z97), .val (.int z100), .val (.ref b101), .val (.ref b113), .val (.ref b128), .val (.int (1 : Int32)), .val (.int (0 : Int32)), .val (.int z94)] []))
              refine Go.back (fun t k => XS.aload Y205.here hx rfl (hb hby at_310) rfl rfl  k) ?_
              show Go p.tables e below (P0 Z p0 p1 p2 p3 h0 n0 s) (T205.setTop (mkF m 312 #[.val (.int p0), .val (.int p1), .val (.int p2), .val (.int p3), .val (.int (1 : Int32)), .val (.int z94), .val (.int z97), .val (.int z100), .val (.ref b101), .val (.ref b113), .val (.ref b128), .val (.int (1 : Int32)), .val (.int (0 : Int32)), .val (.int z94)] [(.ref b128)]))
              obtain ⟨cq219, kq219, q219a, q219b, q219c⟩ := isOf hZ e205 F214
              obtain ⟨_, _, ⟨T219, L219, k219, n219⟩, -, X219, ⟨Lc219, hQ219, l219, y219, z219⟩, st219⟩ := Y205.virtualBack hx (y := (⟨"com/example/paylode/paylode/header/HeaderReader", "position", "()I"⟩ : MethodName)) (z := (⟨"com/example/paylode/paylode/header/HeaderReader", "position", "()I"⟩ : MethodName)) hown (mvT hZ (hw _ (List.mem_of_getElem? (i := 38) rfl))) (mvT hZ (hw _ (List.mem_of_getElem? (i := 39) rfl))) (notFace_of_selects (args := #[]) (mvT hZ (hw _ (List.mem_of_getElem? (i := 41) rfl)))) (mvT hZ (hw _ (List.mem_of_getElem? (i := 41) rfl))) (mvT hZ (hw _ (List.mem_of_getElem? (i := 40) rfl))) (by decide) (backOf (W := 0) (rm6 l Z a0 hw [] b128 (1 : Int32) h205 n0 F208 F218) hZ (hw _ (List.mem_of_getElem? (i := 42) rfl)) (hw _ (List.mem_of_getElem? (i := 28) rfl)) (by decide) (by decide)) q219a q219c (g := (mkF m 312 #[.val (.int p0), .val (.int p1), .val (.int p2), .val (.int p3), .val (.int (1 : Int32)), .val (.int z94), .val (.int z97), .val (.int z100), .val (.ref b101), .val (.ref b113), .val (.ref b128), .val (.int (1 : Int32)), .val (.int (0 : Int32)), .val (.int z94)] [(.ref b128)])) rfl (by rw [hml]; rfl) (Steps.refl _) (argsL := []) (rest := []) (lenOf pd_0 rfl) rfl (by show 2 * 0 + _ ≤ _; exact Nat.le_of_eq rfl) (hb hby at_312) (fun _ _ => ⟨rfl, e205, (by decide : 6 + 0 ≤ _), (by decide : 33 + 0 ≤ _)⟩)
              dsimp only [Pt.U, Pt.locs, Pt.cells, Pt.slots] at X219 l219 y219 z219 st219 hQ219
              subst l219 y219 z219
              obtain ⟨rfl, N219q, e219⟩ := hQ219
              obtain ⟨Lo219, Y219, N219⟩ := pk X219 (Fr.app N205 N219q)
              refine Go.trans st219 ?_
              show Go p.tables e below (P0 Z p0 p1 p2 p3 h0 n0 s) (T219.setTop (mkF m 315 #[.val (.int p0), .val (.int p1), .val (.int p2), .val (.int p3), .val (.int (1 : Int32)), .val (.int z94), .val (.int z97), .val (.int z100), .val (.ref b101), .val (.ref b113), .val (.ref b128), .val (.int (1 : Int32)), .val (.int (0 : Int32)), .val (.int z94)] [(.int (1 : Int32))]))
              refine Go.back (fun t k => XS.iload Y219.here hx rfl (hb hby at_315) rfl  k) ?_
              show Go p.tables e below (P0 Z p0 p1 p2 p3 h0 n0 s) (T219.setTop (mkF m 317 #[.val (.int p0), .val (.int p1), .val (.int p2), .val (.int p3), .val (.int (1 : Int32)), .val (.int z94), .val (.int z97), .val (.int z100), .val (.ref b101), .val (.ref b113), .val (.ref b128), .val (.int (1 : Int32)), .val (.int (0 : Int32)), .val (.int z94)] [(.int (0 : Int32)), (.int (1 : Int32))]))
              refine Go.back (fun t k => XS.iconst Y219.here hx rfl (hb hby at_317) k) ?_
              show Go p.tables e below (P0 Z p0 p1 p2 p3 h0 n0 s) (T219.setTop (mkF m 318 #[.val (.int p0), .val (.int p1), .val (.int p2), .val (.int p3), .val (.int (1 : Int32)), .val (.int z94), .val (.int z97), .val (.int z100), .val (.ref b101), .val (.ref b113), .val (.ref b128), .val (.int (1 : Int32)), .val (.int (0 : Int32)), .val (.int z94)] [(.int (1 : Int32)), (.int (0 : Int32)), (.int (1 : Int32))]))
              refine Go.back (fun t k => XS.iadd Y219.here hx rfl (hb hby at_318) rfl k) ?_
              show Go p.tables e below (P0 Z p0 p1 p2 p3 h0 n0 s) (T219.setTop (mkF m 319 #[.val (.int p0), .val (.int p1), .val (.int p2), .val (.int p3), .val (.int (1 : Int32)), .val (.int z94), .val (.int z97), .val (.int z100), .val (.ref b101), .val (.ref b113), .val (.ref b128), .val (.int (1 : Int32)), .val (.int (0 : Int32)), .val (.int z94)] [(.int ((0 : Int32) + (1 : Int32))), (.int (1 : Int32))]))
              rw [show ((0 : Int32) + (1 : Int32)) = (1 : Int32) from by decide]
              refine Go.back (fun t k => XS.icmpNo Y219.here hx rfl (hb hby at_319) rfl (teq (by decide)).2 k) ?_
              show Go p.tables e below (P0 Z p0 p1 p2 p3 h0 n0 s) (T219.setTop (mkF m 322 #[.val (.int p0), .val (.int p1), .val (.int p2), .val (.int p3), .val (.int (1 : Int32)), .val (.int z94), .val (.int z97), .val (.int z100), .val (.ref b101), .val (.ref b113), .val (.ref b128), .val (.int (1 : Int32)), .val (.int (0 : Int32)), .val (.int z94)] []))
              refine Go.back (fun t k => XS.aload Y219.here hx rfl (hb hby at_322) rfl rfl  k) ?_
              show Go p.tables e below (P0 Z p0 p1 p2 p3 h0 n0 s) (T219.setTop (mkF m 324 #[.val (.int p0), .val (.int p1), .val (.int p2), .val (.int p3), .val (.int (1 : Int32)), .val (.int z94), .val (.int z97), .val (.int z100), .val (.ref b101), .val (.ref b113), .val (.ref b128), .val (.int (1 : Int32)), .val (.int (0 : Int32)), .val (.int z94)] [(.ref b128)]))
              obtain ⟨cq220, kq220, q220a, q220b, q220c⟩ := isOf hZ e219 F214
              obtain ⟨_, _, ⟨T220, L220, k220, n220⟩, -, X220, ⟨Lc220, hQ220, l220, y220, z220⟩, st220⟩ := Y219.virtualBack hx (y := (⟨"com/example/paylode/paylode/header/HeaderReader", "atEnd", "()Z"⟩ : MethodName)) (z := (⟨"com/example/paylode/paylode/header/HeaderReader", "atEnd", "()Z"⟩ : MethodName)) hown (mvT hZ (hw _ (List.mem_of_getElem? (i := 45) rfl))) (mvT hZ (hw _ (List.mem_of_getElem? (i := 46) rfl))) (notFace_of_selects (args := #[]) (mvT hZ (hw _ (List.mem_of_getElem? (i := 48) rfl)))) (mvT hZ (hw _ (List.mem_of_getElem? (i := 48) rfl))) (mvT hZ (hw _ (List.mem_of_getElem? (i := 47) rfl))) (by decide) (backOf (W := 0) (rm7 l Z a0 hw [] b128 b113 t122b [z94] zc fm (1 : Int32) h205 n0 F208 F214 F217 F218 F210 F211 F212 F213 F206 F207 hcs hp hl hfm) hZ (hw _ (List.mem_of_getElem? (i := 49) rfl)) (hw _ (List.mem_of_getElem? (i := 28) rfl)) (by decide) (by decide)) q220a q220c (g := (mkF m 324 #[.val (.int p0), .val (.int p1), .val (.int p2), .val (.int p3), .val (.int (1 : Int32)), .val (.int z94), .val (.int z97), .val (.int z100), .val (.ref b101), .val (.ref b113), .val (.ref b128), .val (.int (1 : Int32)), .val (.int (0 : Int32)), .val (.int z94)] [(.ref b128)])) rfl (by rw [hml]; rfl) (Steps.refl _) (argsL := []) (rest := []) (lenOf pd_1 rfl) rfl (by show 2 * 0 + _ ≤ _; exact Nat.le_of_eq rfl) (hb hby at_324) (fun _ _ => ⟨rfl, e219, (by decide : 6 + 0 ≤ _), (by decide : 33 + 0 ≤ _)⟩)
              dsimp only [Pt.U, Pt.locs, Pt.cells, Pt.slots] at X220 l220 y220 z220 st220 hQ220
              subst l220 y220 z220
              obtain ⟨rfl, N220q, e220⟩ := hQ220
              obtain ⟨Lo220, Y220, N220⟩ := pk X220 (Fr.app N219 N220q)
              refine Go.trans st220 ?_
              rw [show (f7 [z94] (1 : Int32)) = true from by first | rfl | simp [f7]]
              show Go p.tables e below (P0 Z p0 p1 p2 p3 h0 n0 s) (T220.setTop (mkF m 327 #[.val (.int p0), .val (.int p1), .val (.int p2), .val (.int p3), .val (.int (1 : Int32)), .val (.int z94), .val (.int z97), .val (.int z100), .val (.ref b101), .val (.ref b113), .val (.ref b128), .val (.int (1 : Int32)), .val (.int (0 : Int32)), .val (.int z94)] [(.int (1 : Int32))]))
              refine Go.back (fun t k => XS.iload Y220.here hx rfl (hb hby at_327) rfl  k) ?_
              show Go p.tables e below (P0 Z p0 p1 p2 p3 h0 n0 s) (T220.setTop (mkF m 329 #[.val (.int p0), .val (.int p1), .val (.int p2), .val (.int p3), .val (.int (1 : Int32)), .val (.int z94), .val (.int z97), .val (.int z100), .val (.ref b101), .val (.ref b113), .val (.ref b128), .val (.int (1 : Int32)), .val (.int (0 : Int32)), .val (.int z94)] [(.int (0 : Int32)), (.int (1 : Int32))]))
              refine Go.back (fun t k => XS.iconst Y220.here hx rfl (hb hby at_329) k) ?_
              show Go p.tables e below (P0 Z p0 p1 p2 p3 h0 n0 s) (T220.setTop (mkF m 330 #[.val (.int p0), .val (.int p1), .val (.int p2), .val (.int p3), .val (.int (1 : Int32)), .val (.int z94), .val (.int z97), .val (.int z100), .val (.ref b101), .val (.ref b113), .val (.ref b128), .val (.int (1 : Int32)), .val (.int (0 : Int32)), .val (.int z94)] [(.int (1 : Int32)), (.int (0 : Int32)), (.int (1 : Int32))]))
              refine Go.back (fun t k => XS.iadd Y220.here hx rfl (hb hby at_330) rfl k) ?_
              show Go p.tables e below (P0 Z p0 p1 p2 p3 h0 n0 s) (T220.setTop (mkF m 331 #[.val (.int p0), .val (.int p1), .val (.int p2), .val (.int p3), .val (.int (1 : Int32)), .val (.int z94), .val (.int z97), .val (.int z100), .val (.ref b101), .val (.ref b113), .val (.ref b128), .val (.int (1 : Int32)), .val (.int (0 : Int32)), .val (.int z94)] [(.int ((0 : Int32) + (1 : Int32))), (.int (1 : Int32))]))
              rw [show ((0 : Int32) + (1 : Int32)) = (1 : Int32) from by decide]
              refine Go.back (fun t k => XS.iload Y220.here hx rfl (hb hby at_331) rfl  k) ?_
              show Go p.tables e below (P0 Z p0 p1 p2 p3 h0 n0 s) (T220.setTop (mkF m 333 #[.val (.int p0), .val (.int p1), .val (.int p2), .val (.int p3), .val (.int (1 : Int32)), .val (.int z94), .val (.int z97), .val (.int z100), .val (.ref b101), .val (.ref b113), .val (.ref b128), .val (.int (1 : Int32)), .val (.int (0 : Int32)), .val (.int z94)] [(.int (1 : Int32)), (.int (1 : Int32)), (.int (1 : Int32))]))
              refine Go.back (fun t k => XS.icmpNo Y220.here hx rfl (hb hby at_333) rfl (teq (by decide)).2 k) ?_
              show Go p.tables e below (P0 Z p0 p1 p2 p3 h0 n0 s) (T220.setTop (mkF m 336 #[.val (.int p0), .val (.int p1), .val (.int p2), .val (.int p3), .val (.int (1 : Int32)), .val (.int z94), .val (.int z97), .val (.int z100), .val (.ref b101), .val (.ref b113), .val (.ref b128), .val (.int (1 : Int32)), .val (.int (0 : Int32)), .val (.int z94)] [(.int (1 : Int32))]))
              refine Go.back (fun t k => XS.iconst Y220.here hx rfl (hb hby at_336) k) ?_
              show Go p.tables e below (P0 Z p0 p1 p2 p3 h0 n0 s) (T220.setTop (mkF m 337 #[.val (.int p0), .val (.int p1), .val (.int p2), .val (.int p3), .val (.int (1 : Int32)), .val (.int z94), .val (.int z97), .val (.int z100), .val (.ref b101), .val (.ref b113), .val (.ref b128), .val (.int (1 : Int32)), .val (.int (0 : Int32)), .val (.int z94)] [(.int (1 : Int32)), (.int (1 : Int32))]))
              refine Go.back (fun t k => XS.goto Y220.here hx rfl (pc0 := 337) (pc' := 341) rfl (hb hby at_337) (by decide) (by decide) k) ?_
              show Go p.tables e below (P0 Z p0 p1 p2 p3 h0 n0 s) (T220.setTop (mkF m 341 #[.val (.int p0), .val (.int p1), .val (.int p2), .val (.int p3), .val (.int (1 : Int32)), .val (.int z94), .val (.int z97), .val (.int z100), .val (.ref b101), .val (.ref b113), .val (.ref b128), .val (.int (1 : Int32)), .val (.int (0 : Int32)), .val (.int z94)] [(.int (1 : Int32)), (.int (1 : Int32))]))
              refine Go.back (fun t k => XS.icmpNo Y220.here hx rfl (hb hby at_341) rfl (teq (by decide)).2 k) ?_
              show Go p.tables e below (P0 Z p0 p1 p2 p3 h0 n0 s) (T220.setTop (mkF m 344 #[.val (.int p0), .val (.int p1), .val (.int p2), .val (.int p3), .val (.int (1 : Int32)), .val (.int z94), .val (.int z97), .val (.int z100), .val (.ref b101), .val (.ref b113), .val (.ref b128), .val (.int (1 : Int32)), .val (.int (0 : Int32)), .val (.int z94)] []))
              refine Go.back (fun t k => XS.iconst Y220.here hx rfl (hb hby at_344) k) ?_
              show Go p.tables e below (P0 Z p0 p1 p2 p3 h0 n0 s) (T220.setTop (mkF m 345 #[.val (.int p0), .val (.int p1), .val (.int p2), .val (.int p3), .val (.int (1 : Int32)), .val (.int z94), .val (.int z97), .val (.int z100), .val (.ref b101), .val (.ref b113), .val (.ref b128), .val (.int (1 : Int32)), .val (.int (0 : Int32)), .val (.int z94)] [(.int (1 : Int32))]))
              refine Go.back (fun t k => XS.goto Y220.here hx rfl (pc0 := 345) (pc' := 349) rfl (hb hby at_345) (by decide) (by decide) k) ?_
              show Go p.tables e below (P0 Z p0 p1 p2 p3 h0 n0 s) (T220.setTop (mkF m 349 #[.val (.int p0), .val (.int p1), .val (.int p2), .val (.int p3), .val (.int (1 : Int32)), .val (.int z94), .val (.int z97), .val (.int z100), .val (.ref b101), .val (.ref b113), .val (.ref b128), .val (.int (1 : Int32)), .val (.int (0 : Int32)), .val (.int z94)] [(.int (1 : Int32))]))
              refine Go.back (fun t k => XS.istore Y220.here hx rfl (hb hby at_349) rfl (l' := #[.val (.int p0), .val (.int p1), .val (.int p2), .val (.int p3), .val (.int (1 : Int32)), .val (.int z94), .val (.int z97), .val (.int z100), .val (.ref b101), .val (.ref b113), .val (.ref b128), .val (.int (1 : Int32)), .val (.int (0 : Int32)), .val (.int z94)]) rfl k) ?_
              show Go p.tables e below (P0 Z p0 p1 p2 p3 h0 n0 s) (T220.setTop (mkF m 351 #[.val (.int p0), .val (.int p1), .val (.int p2), .val (.int p3), .val (.int (1 : Int32)), .val (.int z94), .val (.int z97), .val (.int z100), .val (.ref b101), .val (.ref b113), .val (.ref b128), .val (.int (1 : Int32)), .val (.int (0 : Int32)), .val (.int z94)] []))
              refine Go.back (fun t k => XS.iload Y220.here hx rfl (hb hby at_351) rfl  k) ?_
              show Go p.tables e below (P0 Z p0 p1 p2 p3 h0 n0 s) (T220.setTop (mkF m 353 #[.val (.int p0), .val (.int p1), .val (.int p2), .val (.int p3), .val (.int (1 : Int32)), .val (.int z94), .val (.int z97), .val (.int z100), .val (.ref b101), .val (.ref b113), .val (.ref b128), .val (.int (1 : Int32)), .val (.int (0 : Int32)), .val (.int z94)] [(.int (1 : Int32))]))
              exact Go.retBW (s := s) (vm0 := TV.vm) (b := true) (Qa := Q0 Z p0 p1 p2 p3 h0 n0) (Qb := fun vm h => True) Y220 hx hSV (by rw [e220]; exact F215) Bd.returns (hb hby at_353) Bd.notSynchronized ⟨rfl, N220⟩ trivial (by decide) (by decide)
          exact J99 _ rfl
        exact J96 _ rfl
      exact J93 _ rfl
    · clear hz2
      subst hk
      show Go p.tables e below (P0 Z p0 p1 p2 p3 h0 n0 s) (s₁.setTop (mkF m 5 #[.val (.int p0), .val (.int p1), .val (.int p2), .val (.int p3), .val (.int (2 : Int32)), .unset, .unset, .unset, .unset, .unset, .unset, .unset, .unset, .unset] []))
      refine Go.back (fun t k => XS.iloadN X0.here hx rfl (hb hby at_5) rfl  k) ?_
      show Go p.tables e below (P0 Z p0 p1 p2 p3 h0 n0 s) (s₁.setTop (mkF m 6 #[.val (.int p0), .val (.int p1), .val (.int p2), .val (.int p3), .val (.int (2 : Int32)), .unset, .unset, .unset, .unset, .unset, .unset, .unset, .unset, .unset] [(.int p1)]))
      obtain ⟨_, _, ⟨T221, L221, k221, n221⟩, -, X221, ⟨Lc221, hQ221, l221, y221, z221⟩, st221⟩ := Jvm.LawKit.callS X0 hx (y := (⟨"com/example/paylode/paylode/header/HeaderReaderAtEndPinLaw", "draw", "(I)C"⟩ : MethodName)) hown (mvT hZ (hw _ (List.mem_of_getElem? (i := 0) rfl))) (mvT hZ (hw _ (List.mem_of_getElem? (i := 1) rfl))) (mvT hZ (hw _ (List.mem_of_getElem? (i := 2) rfl))) (mvT hZ (hw _ (List.mem_of_getElem? (i := 3) rfl))) (by decide) (backOf (W := 0) (rm1 l Z a0 hw [] p1 h0 n0) hZ (hw _ (List.mem_of_getElem? (i := 3) rfl)) (hw _ (List.mem_of_getElem? (i := 2) rfl)) (by decide) (by decide)) (g := (mkF m 6 #[.val (.int p0), .val (.int p1), .val (.int p2), .val (.int p3), .val (.int (2 : Int32)), .unset, .unset, .unset, .unset, .unset, .unset, .unset, .unset, .unset] [(.int p1)])) rfl (by rw [hml]; rfl) (argsL := [(.int p1)]) (rest := []) (lenOf pd_2 rfl) rfl (by show 2 * 0 + _ ≤ _; exact Nat.le_of_eq rfl) (hb hby at_6) (fun _ _ => ⟨rfl, e0, (by decide : 0 + 0 ≤ _), (by decide : 0 + 0 ≤ _)⟩)
      dsimp only [Pt.U, Pt.locs, Pt.cells, Pt.slots] at X221 l221 y221 z221 st221 hQ221
      subst l221 y221 z221
      obtain ⟨rfl, N221q, e221⟩ := hQ221
      obtain ⟨Lo221, Y221, N221⟩ := pk X221 (Fr.app N0 N221q)
      refine Go.back st221 ?_
      show Go p.tables e below (P0 Z p0 p1 p2 p3 h0 n0 s) (T221.setTop (mkF m 9 #[.val (.int p0), .val (.int p1), .val (.int p2), .val (.int p3), .val (.int (2 : Int32)), .unset, .unset, .unset, .unset, .unset, .unset, .unset, .unset, .unset] [(.int (f1 p1))]))
      refine Go.back (fun t k => XS.istore Y221.here hx rfl (hb hby at_9) rfl (l' := #[.val (.int p0), .val (.int p1), .val (.int p2), .val (.int p3), .val (.int (2 : Int32)), .val (.int (f1 p1)), .unset, .unset, .unset, .unset, .unset, .unset, .unset, .unset]) rfl k) ?_
      show Go p.tables e below (P0 Z p0 p1 p2 p3 h0 n0 s) (T221.setTop (mkF m 11 #[.val (.int p0), .val (.int p1), .val (.int p2), .val (.int p3), .val (.int (2 : Int32)), .val (.int (f1 p1)), .unset, .unset, .unset, .unset, .unset, .unset, .unset, .unset] []))
      have J222 : ∀ (z223 : Int32) (hz223 : z223 = (f1 p1)), Go p.tables e below (P0 Z p0 p1 p2 p3 h0 n0 s) (T221.setTop (mkF m 11 #[.val (.int p0), .val (.int p1), .val (.int p2), .val (.int p3), .val (.int (2 : Int32)), .val (.int z223), .unset, .unset, .unset, .unset, .unset, .unset, .unset, .unset] [])) := by
        intro z223 hz223
        have dz223 := own_draw hz223
        show Go p.tables e below (P0 Z p0 p1 p2 p3 h0 n0 s) (T221.setTop (mkF m 11 #[.val (.int p0), .val (.int p1), .val (.int p2), .val (.int p3), .val (.int (2 : Int32)), .val (.int z223), .unset, .unset, .unset, .unset, .unset, .unset, .unset, .unset] []))
        refine Go.back (fun t k => XS.iloadN Y221.here hx rfl (hb hby at_11) rfl  k) ?_
        show Go p.tables e below (P0 Z p0 p1 p2 p3 h0 n0 s) (T221.setTop (mkF m 12 #[.val (.int p0), .val (.int p1), .val (.int p2), .val (.int p3), .val (.int (2 : Int32)), .val (.int z223), .unset, .unset, .unset, .unset, .unset, .unset, .unset, .unset] [(.int p2)]))
        obtain ⟨_, _, ⟨T224, L224, k224, n224⟩, -, X224, ⟨Lc224, hQ224, l224, y224, z224⟩, st224⟩ := Jvm.LawKit.callS Y221 hx (y := (⟨"com/example/paylode/paylode/header/HeaderReaderAtEndPinLaw", "draw", "(I)C"⟩ : MethodName)) hown (mvT hZ (hw _ (List.mem_of_getElem? (i := 0) rfl))) (mvT hZ (hw _ (List.mem_of_getElem? (i := 1) rfl))) (mvT hZ (hw _ (List.mem_of_getElem? (i := 2) rfl))) (mvT hZ (hw _ (List.mem_of_getElem? (i := 3) rfl))) (by decide) (backOf (W := 0) (rm1 l Z a0 hw [] p2 h0 n0) hZ (hw _ (List.mem_of_getElem? (i := 3) rfl)) (hw _ (List.mem_of_getElem? (i := 2) rfl)) (by decide) (by decide)) (g := (mkF m 12 #[.val (.int p0), .val (.int p1), .val (.int p2), .val (.int p3), .val (.int (2 : Int32)), .val (.int z223), .unset, .unset, .unset, .unset, .unset, .unset, .unset, .unset] [(.int p2)])) rfl (by rw [hml]; rfl) (argsL := [(.int p2)]) (rest := []) (lenOf pd_2 rfl) rfl (by show 2 * 0 + _ ≤ _; exact Nat.le_of_eq rfl) (hb hby at_12) (fun _ _ => ⟨rfl, e221, (by decide : 0 + 0 ≤ _), (by decide : 0 + 0 ≤ _)⟩)
        dsimp only [Pt.U, Pt.locs, Pt.cells, Pt.slots] at X224 l224 y224 z224 st224 hQ224
        subst l224 y224 z224
        obtain ⟨rfl, N224q, e224⟩ := hQ224
        obtain ⟨Lo224, Y224, N224⟩ := pk X224 (Fr.app N221 N224q)
        refine Go.back st224 ?_
        show Go p.tables e below (P0 Z p0 p1 p2 p3 h0 n0 s) (T224.setTop (mkF m 15 #[.val (.int p0), .val (.int p1), .val (.int p2), .val (.int p3), .val (.int (2 : Int32)), .val (.int z223), .unset, .unset, .unset, .unset, .unset, .unset, .unset, .unset] [(.int (f1 p2))]))
        refine Go.back (fun t k => XS.istore Y224.here hx rfl (hb hby at_15) rfl (l' := #[.val (.int p0), .val (.int p1), .val (.int p2), .val (.int p3), .val (.int (2 : Int32)), .val (.int z223), .val (.int (f1 p2)), .unset, .unset, .unset, .unset, .unset, .unset, .unset]) rfl k) ?_
        show Go p.tables e below (P0 Z p0 p1 p2 p3 h0 n0 s) (T224.setTop (mkF m 17 #[.val (.int p0), .val (.int p1), .val (.int p2), .val (.int p3), .val (.int (2 : Int32)), .val (.int z223), .val (.int (f1 p2)), .unset, .unset, .unset, .unset, .unset, .unset, .unset] []))
        have J225 : ∀ (z226 : Int32) (hz226 : z226 = (f1 p2)), Go p.tables e below (P0 Z p0 p1 p2 p3 h0 n0 s) (T224.setTop (mkF m 17 #[.val (.int p0), .val (.int p1), .val (.int p2), .val (.int p3), .val (.int (2 : Int32)), .val (.int z223), .val (.int z226), .unset, .unset, .unset, .unset, .unset, .unset, .unset] [])) := by
          intro z226 hz226
          have dz226 := own_draw hz226
          show Go p.tables e below (P0 Z p0 p1 p2 p3 h0 n0 s) (T224.setTop (mkF m 17 #[.val (.int p0), .val (.int p1), .val (.int p2), .val (.int p3), .val (.int (2 : Int32)), .val (.int z223), .val (.int z226), .unset, .unset, .unset, .unset, .unset, .unset, .unset] []))
          refine Go.back (fun t k => XS.iloadN Y224.here hx rfl (hb hby at_17) rfl  k) ?_
          show Go p.tables e below (P0 Z p0 p1 p2 p3 h0 n0 s) (T224.setTop (mkF m 18 #[.val (.int p0), .val (.int p1), .val (.int p2), .val (.int p3), .val (.int (2 : Int32)), .val (.int z223), .val (.int z226), .unset, .unset, .unset, .unset, .unset, .unset, .unset] [(.int p3)]))
          obtain ⟨_, _, ⟨T227, L227, k227, n227⟩, -, X227, ⟨Lc227, hQ227, l227, y227, z227⟩, st227⟩ := Jvm.LawKit.callS Y224 hx (y := (⟨"com/example/paylode/paylode/header/HeaderReaderAtEndPinLaw", "draw", "(I)C"⟩ : MethodName)) hown (mvT hZ (hw _ (List.mem_of_getElem? (i := 0) rfl))) (mvT hZ (hw _ (List.mem_of_getElem? (i := 1) rfl))) (mvT hZ (hw _ (List.mem_of_getElem? (i := 2) rfl))) (mvT hZ (hw _ (List.mem_of_getElem? (i := 3) rfl))) (by decide) (backOf (W := 0) (rm1 l Z a0 hw [] p3 h0 n0) hZ (hw _ (List.mem_of_getElem? (i := 3) rfl)) (hw _ (List.mem_of_getElem? (i := 2) rfl)) (by decide) (by decide)) (g := (mkF m 18 #[.val (.int p0), .val (.int p1), .val (.int p2), .val (.int p3), .val (.int (2 : Int32)), .val (.int z223), .val (.int z226), .unset, .unset, .unset, .unset, .unset, .unset, .unset] [(.int p3)])) rfl (by rw [hml]; rfl) (argsL := [(.int p3)]) (rest := []) (lenOf pd_2 rfl) rfl (by show 2 * 0 + _ ≤ _; exact Nat.le_of_eq rfl) (hb hby at_18) (fun _ _ => ⟨rfl, e224, (by decide : 0 + 0 ≤ _), (by decide : 0 + 0 ≤ _)⟩)
          dsimp only [Pt.U, Pt.locs, Pt.cells, Pt.slots] at X227 l227 y227 z227 st227 hQ227
          subst l227 y227 z227
          obtain ⟨rfl, N227q, e227⟩ := hQ227
          obtain ⟨Lo227, Y227, N227⟩ := pk X227 (Fr.app N224 N227q)
          refine Go.back st227 ?_
          show Go p.tables e below (P0 Z p0 p1 p2 p3 h0 n0 s) (T227.setTop (mkF m 21 #[.val (.int p0), .val (.int p1), .val (.int p2), .val (.int p3), .val (.int (2 : Int32)), .val (.int z223), .val (.int z226), .unset, .unset, .unset, .unset, .unset, .unset, .unset] [(.int (f1 p3))]))
          refine Go.back (fun t k => XS.istore Y227.here hx rfl (hb hby at_21) rfl (l' := #[.val (.int p0), .val (.int p1), .val (.int p2), .val (.int p3), .val (.int (2 : Int32)), .val (.int z223), .val (.int z226), .val (.int (f1 p3)), .unset, .unset, .unset, .unset, .unset, .unset]) rfl k) ?_
          show Go p.tables e below (P0 Z p0 p1 p2 p3 h0 n0 s) (T227.setTop (mkF m 23 #[.val (.int p0), .val (.int p1), .val (.int p2), .val (.int p3), .val (.int (2 : Int32)), .val (.int z223), .val (.int z226), .val (.int (f1 p3)), .unset, .unset, .unset, .unset, .unset, .unset] []))
          have J228 : ∀ (z229 : Int32) (hz229 : z229 = (f1 p3)), Go p.tables e below (P0 Z p0 p1 p2 p3 h0 n0 s) (T227.setTop (mkF m 23 #[.val (.int p0), .val (.int p1), .val (.int p2), .val (.int p3), .val (.int (2 : Int32)), .val (.int z223), .val (.int z226), .val (.int z229), .unset, .unset, .unset, .unset, .unset, .unset] [])) := by
            intro z229 hz229
            have dz229 := own_draw hz229
            show Go p.tables e below (P0 Z p0 p1 p2 p3 h0 n0 s) (T227.setTop (mkF m 23 #[.val (.int p0), .val (.int p1), .val (.int p2), .val (.int p3), .val (.int (2 : Int32)), .val (.int z223), .val (.int z226), .val (.int z229), .unset, .unset, .unset, .unset, .unset, .unset] []))
            refine Go.back (fun t k => XS.iload Y227.here hx rfl (hb hby at_23) rfl  k) ?_
            show Go p.tables e below (P0 Z p0 p1 p2 p3 h0 n0 s) (T227.setTop (mkF m 25 #[.val (.int p0), .val (.int p1), .val (.int p2), .val (.int p3), .val (.int (2 : Int32)), .val (.int z223), .val (.int z226), .val (.int z229), .unset, .unset, .unset, .unset, .unset, .unset] [(.int (2 : Int32))]))
            refine Go.back (fun t k => XS.ifYes Y227.here hx rfl (pc0 := 25) (pc' := 36) rfl (hb hby at_25) rfl ((if0 _ _).trans (feq (by decide)).2) (by decide) (by decide) k) ?_
            show Go p.tables e below (P0 Z p0 p1 p2 p3 h0 n0 s) (T227.setTop (mkF m 36 #[.val (.int p0), .val (.int p1), .val (.int p2), .val (.int p3), .val (.int (2 : Int32)), .val (.int z223), .val (.int z226), .val (.int z229), .unset, .unset, .unset, .unset, .unset, .unset] []))
            refine Go.back (fun t k => XS.iload Y227.here hx rfl (hb hby at_36) rfl  k) ?_
            show Go p.tables e below (P0 Z p0 p1 p2 p3 h0 n0 s) (T227.setTop (mkF m 38 #[.val (.int p0), .val (.int p1), .val (.int p2), .val (.int p3), .val (.int (2 : Int32)), .val (.int z223), .val (.int z226), .val (.int z229), .unset, .unset, .unset, .unset, .unset, .unset] [(.int (2 : Int32))]))
            refine Go.back (fun t k => XS.iconst Y227.here hx rfl (hb hby at_38) k) ?_
            show Go p.tables e below (P0 Z p0 p1 p2 p3 h0 n0 s) (T227.setTop (mkF m 39 #[.val (.int p0), .val (.int p1), .val (.int p2), .val (.int p3), .val (.int (2 : Int32)), .val (.int z223), .val (.int z226), .val (.int z229), .unset, .unset, .unset, .unset, .unset, .unset] [(.int (1 : Int32)), (.int (2 : Int32))]))
            refine Go.back (fun t k => XS.icmpYes Y227.here hx rfl (pc0 := 39) (pc' := 55) rfl (hb hby at_39) rfl (feq (by decide)).2 (by decide) (by decide) k) ?_
            show Go p.tables e below (P0 Z p0 p1 p2 p3 h0 n0 s) (T227.setTop (mkF m 55 #[.val (.int p0), .val (.int p1), .val (.int p2), .val (.int p3), .val (.int (2 : Int32)), .val (.int z223), .val (.int z226), .val (.int z229), .unset, .unset, .unset, .unset, .unset, .unset] []))
            refine Go.back (fun t k => XS.iload Y227.here hx rfl (hb hby at_55) rfl  k) ?_
            show Go p.tables e below (P0 Z p0 p1 p2 p3 h0 n0 s) (T227.setTop (mkF m 57 #[.val (.int p0), .val (.int p1), .val (.int p2), .val (.int p3), .val (.int (2 : Int32)), .val (.int z223), .val (.int z226), .val (.int z229), .unset, .unset, .unset, .unset, .unset, .unset] [(.int (2 : Int32))]))
            refine Go.back (fun t k => XS.iconst Y227.here hx rfl (hb hby at_57) k) ?_
            show Go p.tables e below (P0 Z p0 p1 p2 p3 h0 n0 s) (T227.setTop (mkF m 58 #[.val (.int p0), .val (.int p1), .val (.int p2), .val (.int p3), .val (.int (2 : Int32)), .val (.int z223), .val (.int z226), .val (.int z229), .unset, .unset, .unset, .unset, .unset, .unset] [(.int (2 : Int32)), (.int (2 : Int32))]))
            refine Go.back (fun t k => XS.icmpNo Y227.here hx rfl (hb hby at_58) rfl (teq (by decide)).2 k) ?_
            show Go p.tables e below (P0 Z p0 p1 p2 p3 h0 n0 s) (T227.setTop (mkF m 61 #[.val (.int p0), .val (.int p1), .val (.int p2), .val (.int p3), .val (.int (2 : Int32)), .val (.int z223), .val (.int z226), .val (.int z229), .unset, .unset, .unset, .unset, .unset, .unset] []))
            refine Go.back (fun t k => XS.iconst Y227.here hx rfl (hb hby at_61) k) ?_
            show Go p.tables e below (P0 Z p0 p1 p2 p3 h0 n0 s) (T227.setTop (mkF m 62 #[.val (.int p0), .val (.int p1), .val (.int p2), .val (.int p3), .val (.int (2 : Int32)), .val (.int z223), .val (.int z226), .val (.int z229), .unset, .unset, .unset, .unset, .unset, .unset] [(.int (2 : Int32))]))
            obtain ⟨T230, h230, k230, X230, e230, E230, A230, st230⟩ := newP Y227 hx hZ (hw _ (List.mem_of_getElem? (i := 4) rfl)) e227 (g := (mkF m 62 #[.val (.int p0), .val (.int p1), .val (.int p2), .val (.int p3), .val (.int (2 : Int32)), .val (.int z223), .val (.int z226), .val (.int z229), .unset, .unset, .unset, .unset, .unset, .unset] [(.int (2 : Int32))])) rfl (hb hby at_62) rfl (by decide) (cap := 2) (by decide) (by decide) (by decide) (by decide)
            obtain ⟨b230, g230⟩ : ∃ z, z = h0.size := ⟨_, rfl⟩
            rw [← g230] at A230 st230
            have g231 : n0 ≤ b230 := Nat.le_trans Z0 (Nat.le_of_eq g230.symm)
            have F232 : Sta Z h230 "java/lang/String" "COMPACT_STRINGS" "Z" (.int zc) := S1.ext E230
            have F233 : Sta Z h230 "jdk/internal/util/Preconditions" "SIOOBE_FORMATTER" "Ljava/util/function/BiFunction;" fm := S2.ext E230
            have F234 : n0 ≤ h230.size := Nat.le_trans Z0 E230.1
            have F235 : ArL Z h230 b230 .char [(.int (0 : Int32)), (.int (0 : Int32))] := ArL.new (ty := .char) A230 (n := 2) rfl
            refine Go.back st230 ?_
            show Go p.tables e below (P0 Z p0 p1 p2 p3 h0 n0 s) (T230.setTop (mkF m 64 #[.val (.int p0), .val (.int p1), .val (.int p2), .val (.int p3), .val (.int (2 : Int32)), .val (.int z223), .val (.int z226), .val (.int z229), .unset, .unset, .unset, .unset, .unset, .unset] [(.ref b230)]))
            refine Go.back (fun t k => XS.dup X230.here hx rfl (hb hby at_64) rfl rfl k) ?_
            show Go p.tables e below (P0 Z p0 p1 p2 p3 h0 n0 s) (T230.setTop (mkF m 65 #[.val (.int p0), .val (.int p1), .val (.int p2), .val (.int p3), .val (.int (2 : Int32)), .val (.int z223), .val (.int z226), .val (.int z229), .unset, .unset, .unset, .unset, .unset, .unset] [(.ref b230), (.ref b230)]))
            refine Go.back (fun t k => XS.iconst X230.here hx rfl (hb hby at_65) k) ?_
            show Go p.tables e below (P0 Z p0 p1 p2 p3 h0 n0 s) (T230.setTop (mkF m 66 #[.val (.int p0), .val (.int p1), .val (.int p2), .val (.int p3), .val (.int (2 : Int32)), .val (.int z223), .val (.int z226), .val (.int z229), .unset, .unset, .unset, .unset, .unset, .unset] [(.int (0 : Int32)), (.ref b230), (.ref b230)]))
            refine Go.back (fun t k => XS.iload X230.here hx rfl (hb hby at_66) rfl  k) ?_
            show Go p.tables e below (P0 Z p0 p1 p2 p3 h0 n0 s) (T230.setTop (mkF m 68 #[.val (.int p0), .val (.int p1), .val (.int p2), .val (.int p3), .val (.int (2 : Int32)), .val (.int z223), .val (.int z226), .val (.int z229), .unset, .unset, .unset, .unset, .unset, .unset] [(.int z223), (.int (0 : Int32)), (.ref b230), (.ref b230)]))
            obtain ⟨cl236, Ar236, hi236, -⟩ := F235.at (j := (0 : Int32)) (by decide) (Nat.le_of_ble_eq_true rfl)
            obtain ⟨T236, h236, X236, e236, W236, st236⟩ := stC X230 hx hZ e230 Ar236 (j := (0 : Int32)) hi236 (g := (mkF m 68 #[.val (.int p0), .val (.int p1), .val (.int p2), .val (.int p3), .val (.int (2 : Int32)), .val (.int z223), .val (.int z226), .val (.int z229), .unset, .unset, .unset, .unset, .unset, .unset] [(.int z223), (.int (0 : Int32)), (.ref b230), (.ref b230)])) rfl rfl (hb hby at_68)
            have F237 : Sta Z h236 "java/lang/String" "COMPACT_STRINGS" "Z" (.int zc) := F232.wr W236
            have F238 : Sta Z h236 "jdk/internal/util/Preconditions" "SIOOBE_FORMATTER" "Ljava/util/function/BiFunction;" fm := F233.wr W236
            have F239 : n0 ≤ h236.size := Nat.le_trans F234 (Keep.of_wr W236).1
            have F240 : ArL Z h236 b230 .char [(.int (nar .char z223)), (.int (0 : Int32))] := F235.set W236
            obtain ⟨Lo236, Y236, N236⟩ := pk X236 (Fr.snoc X236 N227 g231)
            refine Go.back st236 ?_
            show Go p.tables e below (P0 Z p0 p1 p2 p3 h0 n0 s) (T236.setTop (mkF m 69 #[.val (.int p0), .val (.int p1), .val (.int p2), .val (.int p3), .val (.int (2 : Int32)), .val (.int z223), .val (.int z226), .val (.int z229), .unset, .unset, .unset, .unset, .unset, .unset] [(.ref b230)]))
            refine Go.back (fun t k => XS.dup Y236.here hx rfl (hb hby at_69) rfl rfl k) ?_
            show Go p.tables e below (P0 Z p0 p1 p2 p3 h0 n0 s) (T236.setTop (mkF m 70 #[.val (.int p0), .val (.int p1), .val (.int p2), .val (.int p3), .val (.int (2 : Int32)), .val (.int z223), .val (.int z226), .val (.int z229), .unset, .unset, .unset, .unset, .unset, .unset] [(.ref b230), (.ref b230)]))
            refine Go.back (fun t k => XS.iconst Y236.here hx rfl (hb hby at_70) k) ?_
            show Go p.tables e below (P0 Z p0 p1 p2 p3 h0 n0 s) (T236.setTop (mkF m 71 #[.val (.int p0), .val (.int p1), .val (.int p2), .val (.int p3), .val (.int (2 : Int32)), .val (.int z223), .val (.int z226), .val (.int z229), .unset, .unset, .unset, .unset, .unset, .unset] [(.int (1 : Int32)), (.ref b230), (.ref b230)]))
            refine Go.back (fun t k => XS.iload Y236.here hx rfl (hb hby at_71) rfl  k) ?_
            show Go p.tables e below (P0 Z p0 p1 p2 p3 h0 n0 s) (T236.setTop (mkF m 73 #[.val (.int p0), .val (.int p1), .val (.int p2), .val (.int p3), .val (.int (2 : Int32)), .val (.int z223), .val (.int z226), .val (.int z229), .unset, .unset, .unset, .unset, .unset, .unset] [(.int z226), (.int (1 : Int32)), (.ref b230), (.ref b230)]))
            obtain ⟨cl241, Ar241, hi241, -⟩ := F240.at (j := (1 : Int32)) (by decide) (Nat.le_of_ble_eq_true rfl)
            obtain ⟨T241, h241, X241, e241, W241, st241⟩ := stC Y236 hx hZ e236 Ar241 (j := (1 : Int32)) hi241 (g := (mkF m 73 #[.val (.int p0), .val (.int p1), .val (.int p2), .val (.int p3), .val (.int (2 : Int32)), .val (.int z223), .val (.int z226), .val (.int z229), .unset, .unset, .unset, .unset, .unset, .unset] [(.int z226), (.int (1 : Int32)), (.ref b230), (.ref b230)])) rfl rfl (hb hby at_73)
            have F242 : Sta Z h241 "java/lang/String" "COMPACT_STRINGS" "Z" (.int zc) := F237.wr W241
            have F243 : Sta Z h241 "jdk/internal/util/Preconditions" "SIOOBE_FORMATTER" "Ljava/util/function/BiFunction;" fm := F238.wr W241
            have F244 : n0 ≤ h241.size := Nat.le_trans F239 (Keep.of_wr W241).1
            have F245 : ArL Z h241 b230 .char [(.int (nar .char z223)), (.int (nar .char z226))] := F240.set W241
            obtain ⟨Lo241, Y241, N241⟩ := pk X241 (Fr.snoc X241 N236 g231)
            refine Go.back st241 ?_
            show Go p.tables e below (P0 Z p0 p1 p2 p3 h0 n0 s) (T241.setTop (mkF m 74 #[.val (.int p0), .val (.int p1), .val (.int p2), .val (.int p3), .val (.int (2 : Int32)), .val (.int z223), .val (.int z226), .val (.int z229), .unset, .unset, .unset, .unset, .unset, .unset] [(.ref b230)]))
            refine Go.back (fun t k => XS.astore Y241.here hx rfl (hb hby at_74) rfl rfl (l' := #[.val (.int p0), .val (.int p1), .val (.int p2), .val (.int p3), .val (.int (2 : Int32)), .val (.int z223), .val (.int z226), .val (.int z229), .val (.ref b230), .unset, .unset, .unset, .unset, .unset]) rfl k) ?_
            show Go p.tables e below (P0 Z p0 p1 p2 p3 h0 n0 s) (T241.setTop (mkF m 76 #[.val (.int p0), .val (.int p1), .val (.int p2), .val (.int p3), .val (.int (2 : Int32)), .val (.int z223), .val (.int z226), .val (.int z229), .val (.ref b230), .unset, .unset, .unset, .unset, .unset] []))
            refine Go.back (fun t k => XS.goto Y241.here hx rfl (pc0 := 76) (pc' := 99) rfl (hb hby at_76) (by decide) (by decide) k) ?_
            show Go p.tables e below (P0 Z p0 p1 p2 p3 h0 n0 s) (T241.setTop (mkF m 99 #[.val (.int p0), .val (.int p1), .val (.int p2), .val (.int p3), .val (.int (2 : Int32)), .val (.int z223), .val (.int z226), .val (.int z229), .val (.ref b230), .unset, .unset, .unset, .unset, .unset] []))
            have F246 : ArL Z h241 b230 .char [(.int z223), (.int z226)] := by
              have q := F245
              rw [dz223.1, dz226.1] at q
              exact q
            have hp : ∀ c ∈ ([z223, z226] : List Int32), ¬ c < 0 ∧ ¬ (255 : Int32) < c := by
              intro c hc
              simp only [List.mem_cons, List.not_mem_nil, or_false] at hc
              rcases hc with rfl | rfl
              · exact dz223.2
              · exact dz226.2
            have hl : ([z223, z226] : List Int32).length ≤ 3 := Nat.le_of_ble_eq_true rfl
            obtain ⟨T247, h247, X247, e247, E247, A247, D247, -, st247⟩ := newO Y241 hx hZ hown (hw _ (List.mem_of_getElem? (i := 5) rfl)) (hw _ (List.mem_of_getElem? (i := 6) rfl)) (hw _ (List.mem_of_getElem? (i := 7) rfl)) e241 (g := (mkF m 99 #[.val (.int p0), .val (.int p1), .val (.int p2), .val (.int p3), .val (.int (2 : Int32)), .val (.int z223), .val (.int z226), .val (.int z229), .val (.ref b230), .unset, .unset, .unset, .unset, .unset] [])) rfl (hb hby at_99) (by decide) (by decide)
            obtain ⟨b247, g247⟩ : ∃ z, z = h241.size := ⟨_, rfl⟩
            rw [← g247] at A247 D247 st247
            have ne248 : b230 ≠ b247 := Nat.ne_of_lt (Nat.lt_of_lt_of_le F246.lt (Nat.le_of_eq g247.symm))
            have g249 : n0 ≤ b247 := Nat.le_trans F244 (Nat.le_of_eq g247.symm)
            have F250 : Sta Z h247 "java/lang/String" "COMPACT_STRINGS" "Z" (.int zc) := F242.ext E247
            have F251 : Sta Z h247 "jdk/internal/util/Preconditions" "SIOOBE_FORMATTER" "Ljava/util/function/BiFunction;" fm := F243.ext E247
            have F252 : n0 ≤ h247.size := Nat.le_trans F244 E247.1
            have F253 : ArL Z h247 b230 .char [(.int z223), (.int z226)] := F246.ext E247
            have F254 : Fld Z h247 b247 "java/lang/String" "value" "[B" .null := D247 (Or.inr (hw _ (List.mem_of_getElem? (i := 20) rfl))) (ty := (.array .byte)) (by decide)
            have F255 : Fld Z h247 b247 "java/lang/String" "coder" "B" (.int (0 : Int32)) := D247 (Or.inr (hw _ (List.mem_of_getElem? (i := 21) rfl))) (ty := .byte) (by decide)
            refine Go.back st247 ?_
            show Go p.tables e below (P0 Z p0 p1 p2 p3 h0 n0 s) (T247.setTop (mkF m 102 #[.val (.int p0), .val (.int p1), .val (.int p2), .val (.int p3), .val (.int (2 : Int32)), .val (.int z223), .val (.int z226), .val (.int z229), .val (.ref b230), .unset, .unset, .unset, .unset, .unset] [(.ref b247)]))
            refine Go.back (fun t k => XS.dup X247.here hx rfl (hb hby at_102) rfl rfl k) ?_
            show Go p.tables e below (P0 Z p0 p1 p2 p3 h0 n0 s) (T247.setTop (mkF m 103 #[.val (.int p0), .val (.int p1), .val (.int p2), .val (.int p3), .val (.int (2 : Int32)), .val (.int z223), .val (.int z226), .val (.int z229), .val (.ref b230), .unset, .unset, .unset, .unset, .unset] [(.ref b247), (.ref b247)]))
            refine Go.back (fun t k => XS.aload X247.here hx rfl (hb hby at_103) rfl rfl  k) ?_
            show Go p.tables e below (P0 Z p0 p1 p2 p3 h0 n0 s) (T247.setTop (mkF m 105 #[.val (.int p0), .val (.int p1), .val (.int p2), .val (.int p3), .val (.int (2 : Int32)), .val (.int z223), .val (.int z226), .val (.int z229), .val (.ref b230), .unset, .unset, .unset, .unset, .unset] [(.ref b230), (.ref b247), (.ref b247)]))
            obtain ⟨kc256, Kv256⟩ := ArL.to_arv (2 : Int32) (.int 0) F253 rfl (by decide) (own_fitsC (cs := [z223, z226]) hp)
            obtain ⟨_, _, ⟨T256, L256, k256, n256⟩, -, X256, ⟨Lc256, hQ256, l256, y256, z256⟩, st256⟩ := X247.specialBack hx (y := (⟨"java/lang/String", "<init>", "([C)V"⟩ : MethodName)) rfl hown (mvT hZ (hw _ (List.mem_of_getElem? (i := 8) rfl))) (mvT hZ (hw _ (List.mem_of_getElem? (i := 9) rfl))) (mvT hZ (hw _ (List.mem_of_getElem? (i := 10) rfl))) (by decide) (StrChars.Road.backV (W := 1) hZ hws (kI := 4) (hw _ (List.mem_of_getElem? (i := 6) rfl)) (cs := ([z223, z226] : List Int32)) (bs := (List.map StrChars.lo8 [z223, z226])) (n := 2) g249 F252 A247 F254 F255 Kv256 F250 hcs rfl rfl (by decide) (by decide) hp rfl (by decide) (by decide)) (g := (mkF m 105 #[.val (.int p0), .val (.int p1), .val (.int p2), .val (.int p3), .val (.int (2 : Int32)), .val (.int z223), .val (.int z226), .val (.int z229), .val (.ref b230), .unset, .unset, .unset, .unset, .unset] [(.ref b230), (.ref b247), (.ref b247)])) rfl (by rw [hml]; rfl) (Steps.refl _) (a := b247) (argsL := [(.ref b230)]) (rest := [(.ref b247)]) (lenOf pd_5 rfl) rfl (by show 2 * 0 + _ ≤ _; exact Nat.le_of_eq rfl) (hb hby at_105) (fun _ _ => ⟨rfl, e247, (by decide : 2 + 1 ≤ _), (by decide : 6 + 2 ≤ _)⟩)
            dsimp only [Pt.U, Pt.locs, Pt.cells, Pt.slots] at X256 l256 y256 z256 st256 hQ256
            subst l256 y256 z256
            obtain ⟨h256, e256⟩ : ∃ z, T256.heap = z := ⟨_, rfl⟩
            rw [e256] at hQ256
            obtain ⟨rfl, N256q, K256, Ex256, Fc256, t256b, kb256, gt256, sz256, nt256, Fv256, Av256⟩ := hQ256
            obtain ⟨Lo256, Y256, N256⟩ := pk X256 (Fr.app N241 N256q)
            have F257 : Sta Z h256 "java/lang/String" "COMPACT_STRINGS" "Z" (.int zc) := sta_keep F250 K256 (noSS (noS_exa A247) noS0)
            have F258 : Sta Z h256 "jdk/internal/util/Preconditions" "SIOOBE_FORMATTER" "Ljava/util/function/BiFunction;" fm := sta_keep F251 K256 (noSS (noS_exa A247) noS0)
            have F259 : n0 ≤ h256.size := Nat.le_trans F252 K256.1
            have F260 : ArL Z h256 b230 .char [(.int z223), (.int z226)] := F253.keep K256 (ninS ne248 nin0)
            have F261 : Exa Z h256 b247 "java/lang/String" := A247.keep K256
            have At256 : ArL Z h256 t256b .byte (List.map Value.int (List.map StrChars.lo8 [z223, z226])) := ArL.of_arv Av256 rfl
            refine Go.trans st256 ?_
            show Go p.tables e below (P0 Z p0 p1 p2 p3 h0 n0 s) (T256.setTop (mkF m 108 #[.val (.int p0), .val (.int p1), .val (.int p2), .val (.int p3), .val (.int (2 : Int32)), .val (.int z223), .val (.int z226), .val (.int z229), .val (.ref b230), .unset, .unset, .unset, .unset, .unset] [(.ref b247)]))
            refine Go.back (fun t k => XS.astore Y256.here hx rfl (hb hby at_108) rfl rfl (l' := #[.val (.int p0), .val (.int p1), .val (.int p2), .val (.int p3), .val (.int (2 : Int32)), .val (.int z223), .val (.int z226), .val (.int z229), .val (.ref b230), .val (.ref b247), .unset, .unset, .unset, .unset]) rfl k) ?_
            show Go p.tables e below (P0 Z p0 p1 p2 p3 h0 n0 s) (T256.setTop (mkF m 110 #[.val (.int p0), .val (.int p1), .val (.int p2), .val (.int p3), .val (.int (2 : Int32)), .val (.int z223), .val (.int z226), .val (.int z229), .val (.ref b230), .val (.ref b247), .unset, .unset, .unset, .unset] []))
            obtain ⟨T262, h262, X262, e262, E262, A262, D262, -, st262⟩ := newO Y256 hx hZ hown (hw _ (List.mem_of_getElem? (i := 26) rfl)) (hw _ (List.mem_of_getElem? (i := 27) rfl)) (hw _ (List.mem_of_getElem? (i := 28) rfl)) e256 (g := (mkF m 110 #[.val (.int p0), .val (.int p1), .val (.int p2), .val (.int p3), .val (.int (2 : Int32)), .val (.int z223), .val (.int z226), .val (.int z229), .val (.ref b230), .val (.ref b247), .unset, .unset, .unset, .unset] [])) rfl (hb hby at_110) (by decide) (by decide)
            obtain ⟨b262, g262⟩ : ∃ z, z = h256.size := ⟨_, rfl⟩
            rw [← g262] at A262 D262 st262
            have ne263 : b230 ≠ b262 := Nat.ne_of_lt (Nat.lt_of_lt_of_le F260.lt (Nat.le_of_eq g262.symm))
            have ne264 : b247 ≠ b262 := Nat.ne_of_lt (Nat.lt_of_lt_of_le F261.lt (Nat.le_of_eq g262.symm))
            have ne265 : t256b ≠ b262 := Nat.ne_of_lt (Nat.lt_of_lt_of_le At256.lt (Nat.le_of_eq g262.symm))
            have g266 : n0 ≤ b262 := Nat.le_trans F259 (Nat.le_of_eq g262.symm)
            have F267 : Sta Z h262 "java/lang/String" "COMPACT_STRINGS" "Z" (.int zc) := F257.ext E262
            have F268 : Sta Z h262 "jdk/internal/util/Preconditions" "SIOOBE_FORMATTER" "Ljava/util/function/BiFunction;" fm := F258.ext E262
            have F269 : n0 ≤ h262.size := Nat.le_trans F259 E262.1
            have F270 : ArL Z h262 b230 .char [(.int z223), (.int z226)] := F260.ext E262
            have F271 : Exa Z h262 b247 "java/lang/String" := F261.ext E262
            have F272 : Fld Z h262 b247 "java/lang/String" "coder" "B" (.int (0 : Int32)) := Fc256.ext E262
            have F273 : Fld Z h262 b247 "java/lang/String" "value" "[B" (.ref t256b) := Fv256.ext E262
            have F274 : ArL Z h262 t256b .byte (List.map Value.int (List.map StrChars.lo8 [z223, z226])) := At256.ext E262
            have F275 : Fld Z h262 b262 "com/example/paylode/paylode/header/HeaderReader" "text" "Ljava/lang/String;" .null := D262 (Or.inr (hw _ (List.mem_of_getElem? (i := 35) rfl))) (ty := (.object "java/lang/String")) (by decide)
            have F276 : Fld Z h262 b262 "com/example/paylode/paylode/header/HeaderReader" "what" "Ljava/lang/String;" .null := D262 (Or.inr (hw _ (List.mem_of_getElem? (i := 37) rfl))) (ty := (.object "java/lang/String")) (by decide)
            have F277 : Fld Z h262 b262 "com/example/paylode/paylode/header/HeaderReader" "position" "I" (.int (0 : Int32)) := D262 (Or.inl (hw _ (List.mem_of_getElem? (i := 44) rfl))) (ty := .int) (by decide)
            refine Go.back st262 ?_
            show Go p.tables e below (P0 Z p0 p1 p2 p3 h0 n0 s) (T262.setTop (mkF m 113 #[.val (.int p0), .val (.int p1), .val (.int p2), .val (.int p3), .val (.int (2 : Int32)), .val (.int z223), .val (.int z226), .val (.int z229), .val (.ref b230), .val (.ref b247), .unset, .unset, .unset, .unset] [(.ref b262)]))
            refine Go.back (fun t k => XS.dup X262.here hx rfl (hb hby at_113) rfl rfl k) ?_
            show Go p.tables e below (P0 Z p0 p1 p2 p3 h0 n0 s) (T262.setTop (mkF m 114 #[.val (.int p0), .val (.int p1), .val (.int p2), .val (.int p3), .val (.int (2 : Int32)), .val (.int z223), .val (.int z226), .val (.int z229), .val (.ref b230), .val (.ref b247), .unset, .unset, .unset, .unset] [(.ref b262), (.ref b262)]))
            refine Go.back (fun t k => XS.aload X262.here hx rfl (hb hby at_114) rfl rfl  k) ?_
            show Go p.tables e below (P0 Z p0 p1 p2 p3 h0 n0 s) (T262.setTop (mkF m 116 #[.val (.int p0), .val (.int p1), .val (.int p2), .val (.int p3), .val (.int (2 : Int32)), .val (.int z223), .val (.int z226), .val (.int z229), .val (.ref b230), .val (.ref b247), .unset, .unset, .unset, .unset] [(.ref b247), (.ref b262), (.ref b262)]))
            obtain ⟨aV, TV, hV, kV, XV, eV, EV, hSV, hkV, hZV, hownV, stV⟩ := ldcS (s := s) (vm0 := s.vm) X262 hx hZ hown (hw _ (List.mem_of_getElem? (i := 29) rfl)) (fun d hd => hw d (own_wS d hd)) e262 ((State.WarmedH.refl s).since h262.size) (Nat.le_refl _) (g := (mkF m 116 #[.val (.int p0), .val (.int p1), .val (.int p2), .val (.int p3), .val (.int (2 : Int32)), .val (.int z223), .val (.int z226), .val (.int z229), .val (.ref b230), .val (.ref b247), .unset, .unset, .unset, .unset] [(.ref b247), (.ref b262), (.ref b262)])) rfl (hb hby at_116) (n := 20) (by decide +kernel) (by decide) (by decide) (by decide)
            have F278 : Sta Z hV "java/lang/String" "COMPACT_STRINGS" "Z" (.int zc) := F267.ext EV
            have F279 : Sta Z hV "jdk/internal/util/Preconditions" "SIOOBE_FORMATTER" "Ljava/util/function/BiFunction;" fm := F268.ext EV
            have F280 : n0 ≤ hV.size := Nat.le_trans F269 EV.1
            have F281 : ArL Z hV b230 .char [(.int z223), (.int z226)] := F270.ext EV
            have F282 : Exa Z hV b247 "java/lang/String" := F271.ext EV
            have F283 : Fld Z hV b247 "java/lang/String" "coder" "B" (.int (0 : Int32)) := F272.ext EV
            have F284 : Fld Z hV b247 "java/lang/String" "value" "[B" (.ref t256b) := F273.ext EV
            have F285 : ArL Z hV t256b .byte (List.map Value.int (List.map StrChars.lo8 [z223, z226])) := F274.ext EV
            have F286 : Exa Z hV b262 "com/example/paylode/paylode/header/HeaderReader" := A262.ext EV
            have F287 : Fld Z hV b262 "com/example/paylode/paylode/header/HeaderReader" "text" "Ljava/lang/String;" .null := F275.ext EV
            have F288 : Fld Z hV b262 "com/example/paylode/paylode/header/HeaderReader" "what" "Ljava/lang/String;" .null := F276.ext EV
            have F289 : Fld Z hV b262 "com/example/paylode/paylode/header/HeaderReader" "position" "I" (.int (0 : Int32)) := F277.ext EV
            have hZ : Z.Warmed39 (s.setVm TV.vm).vm := hZV
            have hown := hownV
            refine Go.back stV ?_
            show Go p.tables e below (P0 Z p0 p1 p2 p3 h0 n0 s) (TV.setTop (mkF m 118 #[.val (.int p0), .val (.int p1), .val (.int p2), .val (.int p3), .val (.int (2 : Int32)), .val (.int z223), .val (.int z226), .val (.int z229), .val (.ref b230), .val (.ref b247), .unset, .unset, .unset, .unset] [(.ref aV), (.ref b247), (.ref b262), (.ref b262)]))
            obtain ⟨_, _, ⟨T290, L290, k290, n290⟩, -, X290, ⟨Lc290, hQ290, l290, y290, z290⟩, st290⟩ := XV.specialBack hx (y := (⟨"com/example/paylode/paylode/header/HeaderReader", "<init>", "(Ljava/lang/String;Ljava/lang/String;)V"⟩ : MethodName)) rfl hown (mvT hZ (hw _ (List.mem_of_getElem? (i := 30) rfl))) (mvT hZ (hw _ (List.mem_of_getElem? (i := 31) rfl))) (mvT hZ (hw _ (List.mem_of_getElem? (i := 32) rfl))) (by decide) (backOf (W := 1) (rm5 l Z a0 hw [] b262 b247 aV hV n0 F280 F286 F287 F288 F289 g266) hZ (hw _ (List.mem_of_getElem? (i := 32) rfl)) (hw _ (List.mem_of_getElem? (i := 28) rfl)) (by decide) (by decide)) (g := (mkF m 118 #[.val (.int p0), .val (.int p1), .val (.int p2), .val (.int p3), .val (.int (2 : Int32)), .val (.int z223), .val (.int z226), .val (.int z229), .val (.ref b230), .val (.ref b247), .unset, .unset, .unset, .unset] [(.ref aV), (.ref b247), (.ref b262), (.ref b262)])) rfl (by rw [hml]; rfl) (Steps.refl _) (a := b262) (argsL := [(.ref b247), (.ref aV)]) (rest := [(.ref b262)]) (lenOf pd_6 rfl) rfl (by show 2 * 0 + _ ≤ _; exact Nat.le_of_eq rfl) (hb hby at_118) (fun _ _ => ⟨rfl, eV, (by decide : 6 + 0 ≤ _), (by decide : 35 + 0 ≤ _)⟩)
            dsimp only [Pt.U, Pt.locs, Pt.cells, Pt.slots] at X290 l290 y290 z290 st290 hQ290
            subst l290 y290 z290
            obtain ⟨h290, e290⟩ : ∃ z, T290.heap = z := ⟨_, rfl⟩
            rw [e290] at hQ290
            obtain ⟨rfl, N290q, K290, F301, F302⟩ := hQ290
            obtain ⟨Lo290, Y290, N290⟩ := pk X290 (Fr.app N256 N290q)
            have F291 : Sta Z h290 "java/lang/String" "COMPACT_STRINGS" "Z" (.int zc) := sta_keep F278 K290 (noSS (noS_exa F286) noS0)
            have F292 : Sta Z h290 "jdk/internal/util/Preconditions" "SIOOBE_FORMATTER" "Ljava/util/function/BiFunction;" fm := sta_keep F279 K290 (noSS (noS_exa F286) noS0)
            have F293 : n0 ≤ h290.size := Nat.le_trans F280 K290.1
            have F294 : ArL Z h290 b230 .char [(.int z223), (.int z226)] := F281.keep K290 (ninS ne263 nin0)
            have F295 : Exa Z h290 b247 "java/lang/String" := F282.keep K290
            have F296 : Fld Z h290 b247 "java/lang/String" "coder" "B" (.int (0 : Int32)) := F283.keep K290 (ninS ne264 nin0)
            have F297 : Fld Z h290 b247 "java/lang/String" "value" "[B" (.ref t256b) := F284.keep K290 (ninS ne264 nin0)
            have F298 : ArL Z h290 t256b .byte (List.map Value.int (List.map StrChars.lo8 [z223, z226])) := F285.keep K290 (ninS ne265 nin0)
            have F299 : Exa Z h290 b262 "com/example/paylode/paylode/header/HeaderReader" := F286.keep K290
            have F300 : kV ≤ h290.size := Nat.le_trans hkV K290.1
            refine Go.trans st290 ?_
            show Go p.tables e below (P0 Z p0 p1 p2 p3 h0 n0 s) (T290.setTop (mkF m 121 #[.val (.int p0), .val (.int p1), .val (.int p2), .val (.int p3), .val (.int (2 : Int32)), .val (.int z223), .val (.int z226), .val (.int z229), .val (.ref b230), .val (.ref b247), .unset, .unset, .unset, .unset] [(.ref b262)]))
            refine Go.back (fun t k => XS.astore Y290.here hx rfl (hb hby at_121) rfl rfl (l' := #[.val (.int p0), .val (.int p1), .val (.int p2), .val (.int p3), .val (.int (2 : Int32)), .val (.int z223), .val (.int z226), .val (.int z229), .val (.ref b230), .val (.ref b247), .val (.ref b262), .unset, .unset, .unset]) rfl k) ?_
            show Go p.tables e below (P0 Z p0 p1 p2 p3 h0 n0 s) (T290.setTop (mkF m 123 #[.val (.int p0), .val (.int p1), .val (.int p2), .val (.int p3), .val (.int (2 : Int32)), .val (.int z223), .val (.int z226), .val (.int z229), .val (.ref b230), .val (.ref b247), .val (.ref b262), .unset, .unset, .unset] []))
            refine Go.back (fun t k => XS.aload Y290.here hx rfl (hb hby at_123) rfl rfl  k) ?_
            show Go p.tables e below (P0 Z p0 p1 p2 p3 h0 n0 s) (T290.setTop (mkF m 125 #[.val (.int p0), .val (.int p1), .val (.int p2), .val (.int p3), .val (.int (2 : Int32)), .val (.int z223), .val (.int z226), .val (.int z229), .val (.ref b230), .val (.ref b247), .val (.ref b262), .unset, .unset, .unset] [(.ref b262)]))
            obtain ⟨cq303, kq303, q303a, q303b, q303c⟩ := isOf hZ e290 F299
            obtain ⟨_, _, ⟨T303, L303, k303, n303⟩, -, X303, ⟨Lc303, hQ303, l303, y303, z303⟩, st303⟩ := Y290.virtualBack hx (y := (⟨"com/example/paylode/paylode/header/HeaderReader", "position", "()I"⟩ : MethodName)) (z := (⟨"com/example/paylode/paylode/header/HeaderReader", "position", "()I"⟩ : MethodName)) hown (mvT hZ (hw _ (List.mem_of_getElem? (i := 38) rfl))) (mvT hZ (hw _ (List.mem_of_getElem? (i := 39) rfl))) (notFace_of_selects (args := #[]) (mvT hZ (hw _ (List.mem_of_getElem? (i := 41) rfl)))) (mvT hZ (hw _ (List.mem_of_getElem? (i := 41) rfl))) (mvT hZ (hw _ (List.mem_of_getElem? (i := 40) rfl))) (by decide) (backOf (W := 0) (rm6 l Z a0 hw [] b262 (0 : Int32) h290 n0 F293 F301) hZ (hw _ (List.mem_of_getElem? (i := 42) rfl)) (hw _ (List.mem_of_getElem? (i := 28) rfl)) (by decide) (by decide)) q303a q303c (g := (mkF m 125 #[.val (.int p0), .val (.int p1), .val (.int p2), .val (.int p3), .val (.int (2 : Int32)), .val (.int z223), .val (.int z226), .val (.int z229), .val (.ref b230), .val (.ref b247), .val (.ref b262), .unset, .unset, .unset] [(.ref b262)])) rfl (by rw [hml]; rfl) (Steps.refl _) (argsL := []) (rest := []) (lenOf pd_0 rfl) rfl (by show 2 * 0 + _ ≤ _; exact Nat.le_of_eq rfl) (hb hby at_125) (fun _ _ => ⟨rfl, e290, (by decide : 6 + 0 ≤ _), (by decide : 35 + 0 ≤ _)⟩)
            dsimp only [Pt.U, Pt.locs, Pt.cells, Pt.slots] at X303 l303 y303 z303 st303 hQ303
            subst l303 y303 z303
            obtain ⟨rfl, N303q, e303⟩ := hQ303
            obtain ⟨Lo303, Y303, N303⟩ := pk X303 (Fr.app N290 N303q)
            refine Go.trans st303 ?_
            show Go p.tables e below (P0 Z p0 p1 p2 p3 h0 n0 s) (T303.setTop (mkF m 128 #[.val (.int p0), .val (.int p1), .val (.int p2), .val (.int p3), .val (.int (2 : Int32)), .val (.int z223), .val (.int z226), .val (.int z229), .val (.ref b230), .val (.ref b247), .val (.ref b262), .unset, .unset, .unset] [(.int (0 : Int32))]))
            refine Go.back (fun t k => XS.ifNo Y303.here hx rfl (hb hby at_128) rfl ((if0 _ _).trans (teq (by decide)).2) k) ?_
            show Go p.tables e below (P0 Z p0 p1 p2 p3 h0 n0 s) (T303.setTop (mkF m 131 #[.val (.int p0), .val (.int p1), .val (.int p2), .val (.int p3), .val (.int (2 : Int32)), .val (.int z223), .val (.int z226), .val (.int z229), .val (.ref b230), .val (.ref b247), .val (.ref b262), .unset, .unset, .unset] []))
            refine Go.back (fun t k => XS.aload Y303.here hx rfl (hb hby at_131) rfl rfl  k) ?_
            show Go p.tables e below (P0 Z p0 p1 p2 p3 h0 n0 s) (T303.setTop (mkF m 133 #[.val (.int p0), .val (.int p1), .val (.int p2), .val (.int p3), .val (.int (2 : Int32)), .val (.int z223), .val (.int z226), .val (.int z229), .val (.ref b230), .val (.ref b247), .val (.ref b262), .unset, .unset, .unset] [(.ref b262)]))
            obtain ⟨cq304, kq304, q304a, q304b, q304c⟩ := isOf hZ e303 F299
            obtain ⟨_, _, ⟨T304, L304, k304, n304⟩, -, X304, ⟨Lc304, hQ304, l304, y304, z304⟩, st304⟩ := Y303.virtualBack hx (y := (⟨"com/example/paylode/paylode/header/HeaderReader", "atEnd", "()Z"⟩ : MethodName)) (z := (⟨"com/example/paylode/paylode/header/HeaderReader", "atEnd", "()Z"⟩ : MethodName)) hown (mvT hZ (hw _ (List.mem_of_getElem? (i := 45) rfl))) (mvT hZ (hw _ (List.mem_of_getElem? (i := 46) rfl))) (notFace_of_selects (args := #[]) (mvT hZ (hw _ (List.mem_of_getElem? (i := 48) rfl)))) (mvT hZ (hw _ (List.mem_of_getElem? (i := 48) rfl))) (mvT hZ (hw _ (List.mem_of_getElem? (i := 47) rfl))) (by decide) (backOf (W := 0) (rm7 l Z a0 hw [] b262 b247 t256b [z223, z226] zc fm (0 : Int32) h290 n0 F293 F299 F302 F301 F295 F296 F297 F298 F291 F292 hcs hp hl hfm) hZ (hw _ (List.mem_of_getElem? (i := 49) rfl)) (hw _ (List.mem_of_getElem? (i := 28) rfl)) (by decide) (by decide)) q304a q304c (g := (mkF m 133 #[.val (.int p0), .val (.int p1), .val (.int p2), .val (.int p3), .val (.int (2 : Int32)), .val (.int z223), .val (.int z226), .val (.int z229), .val (.ref b230), .val (.ref b247), .val (.ref b262), .unset, .unset, .unset] [(.ref b262)])) rfl (by rw [hml]; rfl) (Steps.refl _) (argsL := []) (rest := []) (lenOf pd_1 rfl) rfl (by show 2 * 0 + _ ≤ _; exact Nat.le_of_eq rfl) (hb hby at_133) (fun _ _ => ⟨rfl, e303, (by decide : 6 + 0 ≤ _), (by decide : 35 + 0 ≤ _)⟩)
            dsimp only [Pt.U, Pt.locs, Pt.cells, Pt.slots] at X304 l304 y304 z304 st304 hQ304
            subst l304 y304 z304
            obtain ⟨rfl, N304q, e304⟩ := hQ304
            obtain ⟨Lo304, Y304, N304⟩ := pk X304 (Fr.app N303 N304q)
            refine Go.trans st304 ?_
            rw [show (f7 [z223, z226] (0 : Int32)) = false from by first | rfl | simp [f7]]
            show Go p.tables e below (P0 Z p0 p1 p2 p3 h0 n0 s) (T304.setTop (mkF m 136 #[.val (.int p0), .val (.int p1), .val (.int p2), .val (.int p3), .val (.int (2 : Int32)), .val (.int z223), .val (.int z226), .val (.int z229), .val (.ref b230), .val (.ref b247), .val (.ref b262), .unset, .unset, .unset] [(.int (0 : Int32))]))
            refine Go.back (fun t k => XS.iload Y304.here hx rfl (hb hby at_136) rfl  k) ?_
            show Go p.tables e below (P0 Z p0 p1 p2 p3 h0 n0 s) (T304.setTop (mkF m 138 #[.val (.int p0), .val (.int p1), .val (.int p2), .val (.int p3), .val (.int (2 : Int32)), .val (.int z223), .val (.int z226), .val (.int z229), .val (.ref b230), .val (.ref b247), .val (.ref b262), .unset, .unset, .unset] [(.int (2 : Int32)), (.int (0 : Int32))]))
            refine Go.back (fun t k => XS.ifYes Y304.here hx rfl (pc0 := 138) (pc' := 145) rfl (hb hby at_138) rfl ((if0 _ _).trans (feq (by decide)).2) (by decide) (by decide) k) ?_
            show Go p.tables e below (P0 Z p0 p1 p2 p3 h0 n0 s) (T304.setTop (mkF m 145 #[.val (.int p0), .val (.int p1), .val (.int p2), .val (.int p3), .val (.int (2 : Int32)), .val (.int z223), .val (.int z226), .val (.int z229), .val (.ref b230), .val (.ref b247), .val (.ref b262), .unset, .unset, .unset] [(.int (0 : Int32))]))
            refine Go.back (fun t k => XS.iconst Y304.here hx rfl (hb hby at_145) k) ?_
            show Go p.tables e below (P0 Z p0 p1 p2 p3 h0 n0 s) (T304.setTop (mkF m 146 #[.val (.int p0), .val (.int p1), .val (.int p2), .val (.int p3), .val (.int (2 : Int32)), .val (.int z223), .val (.int z226), .val (.int z229), .val (.ref b230), .val (.ref b247), .val (.ref b262), .unset, .unset, .unset] [(.int (0 : Int32)), (.int (0 : Int32))]))
            refine Go.back (fun t k => XS.icmpNo Y304.here hx rfl (hb hby at_146) rfl (teq (by decide)).2 k) ?_
            show Go p.tables e below (P0 Z p0 p1 p2 p3 h0 n0 s) (T304.setTop (mkF m 149 #[.val (.int p0), .val (.int p1), .val (.int p2), .val (.int p3), .val (.int (2 : Int32)), .val (.int z223), .val (.int z226), .val (.int z229), .val (.ref b230), .val (.ref b247), .val (.ref b262), .unset, .unset, .unset] []))
            refine Go.back (fun t k => XS.iconst Y304.here hx rfl (hb hby at_149) k) ?_
            show Go p.tables e below (P0 Z p0 p1 p2 p3 h0 n0 s) (T304.setTop (mkF m 150 #[.val (.int p0), .val (.int p1), .val (.int p2), .val (.int p3), .val (.int (2 : Int32)), .val (.int z223), .val (.int z226), .val (.int z229), .val (.ref b230), .val (.ref b247), .val (.ref b262), .unset, .unset, .unset] [(.int (1 : Int32))]))
            refine Go.back (fun t k => XS.goto Y304.here hx rfl (pc0 := 150) (pc' := 154) rfl (hb hby at_150) (by decide) (by decide) k) ?_
            show Go p.tables e below (P0 Z p0 p1 p2 p3 h0 n0 s) (T304.setTop (mkF m 154 #[.val (.int p0), .val (.int p1), .val (.int p2), .val (.int p3), .val (.int (2 : Int32)), .val (.int z223), .val (.int z226), .val (.int z229), .val (.ref b230), .val (.ref b247), .val (.ref b262), .unset, .unset, .unset] [(.int (1 : Int32))]))
            refine Go.back (fun t k => XS.istore Y304.here hx rfl (hb hby at_154) rfl (l' := #[.val (.int p0), .val (.int p1), .val (.int p2), .val (.int p3), .val (.int (2 : Int32)), .val (.int z223), .val (.int z226), .val (.int z229), .val (.ref b230), .val (.ref b247), .val (.ref b262), .val (.int (1 : Int32)), .unset, .unset]) rfl k) ?_
            show Go p.tables e below (P0 Z p0 p1 p2 p3 h0 n0 s) (T304.setTop (mkF m 156 #[.val (.int p0), .val (.int p1), .val (.int p2), .val (.int p3), .val (.int (2 : Int32)), .val (.int z223), .val (.int z226), .val (.int z229), .val (.ref b230), .val (.ref b247), .val (.ref b262), .val (.int (1 : Int32)), .unset, .unset] []))
            refine Go.back (fun t k => XS.iload Y304.here hx rfl (hb hby at_156) rfl  k) ?_
            show Go p.tables e below (P0 Z p0 p1 p2 p3 h0 n0 s) (T304.setTop (mkF m 158 #[.val (.int p0), .val (.int p1), .val (.int p2), .val (.int p3), .val (.int (2 : Int32)), .val (.int z223), .val (.int z226), .val (.int z229), .val (.ref b230), .val (.ref b247), .val (.ref b262), .val (.int (1 : Int32)), .unset, .unset] [(.int (2 : Int32))]))
            refine Go.back (fun t k => XS.iconst Y304.here hx rfl (hb hby at_158) k) ?_
            show Go p.tables e below (P0 Z p0 p1 p2 p3 h0 n0 s) (T304.setTop (mkF m 159 #[.val (.int p0), .val (.int p1), .val (.int p2), .val (.int p3), .val (.int (2 : Int32)), .val (.int z223), .val (.int z226), .val (.int z229), .val (.ref b230), .val (.ref b247), .val (.ref b262), .val (.int (1 : Int32)), .unset, .unset] [(.int (1 : Int32)), (.int (2 : Int32))]))
            refine Go.back (fun t k => XS.icmpNo Y304.here hx rfl (hb hby at_159) rfl (flt (by decide)).1 k) ?_
            show Go p.tables e below (P0 Z p0 p1 p2 p3 h0 n0 s) (T304.setTop (mkF m 162 #[.val (.int p0), .val (.int p1), .val (.int p2), .val (.int p3), .val (.int (2 : Int32)), .val (.int z223), .val (.int z226), .val (.int z229), .val (.ref b230), .val (.ref b247), .val (.ref b262), .val (.int (1 : Int32)), .unset, .unset] []))
            refine Go.back (fun t k => XS.iload Y304.here hx rfl (hb hby at_162) rfl  k) ?_
            show Go p.tables e below (P0 Z p0 p1 p2 p3 h0 n0 s) (T304.setTop (mkF m 164 #[.val (.int p0), .val (.int p1), .val (.int p2), .val (.int p3), .val (.int (2 : Int32)), .val (.int z223), .val (.int z226), .val (.int z229), .val (.ref b230), .val (.ref b247), .val (.ref b262), .val (.int (1 : Int32)), .unset, .unset] [(.int z223)]))
            obtain ⟨_, _, ⟨T305, L305, k305, n305⟩, -, X305, ⟨Lc305, hQ305, l305, y305, z305⟩, st305⟩ := Jvm.LawKit.callS Y304 hx (y := (⟨"com/example/paylode/paylode/header/HeaderReaderAtEndPinLaw", "ws", "(C)Z"⟩ : MethodName)) hown (mvT hZ (hw _ (List.mem_of_getElem? (i := 82) rfl))) (mvT hZ (hw _ (List.mem_of_getElem? (i := 83) rfl))) (mvT hZ (hw _ (List.mem_of_getElem? (i := 2) rfl))) (mvT hZ (hw _ (List.mem_of_getElem? (i := 84) rfl))) (by decide) (backOf (W := 0) (rm15 l Z a0 hw [] z223 h290 n0) hZ (hw _ (List.mem_of_getElem? (i := 84) rfl)) (hw _ (List.mem_of_getElem? (i := 2) rfl)) (by decide) (by decide)) (g := (mkF m 164 #[.val (.int p0), .val (.int p1), .val (.int p2), .val (.int p3), .val (.int (2 : Int32)), .val (.int z223), .val (.int z226), .val (.int z229), .val (.ref b230), .val (.ref b247), .val (.ref b262), .val (.int (1 : Int32)), .unset, .unset] [(.int z223)])) rfl (by rw [hml]; rfl) (argsL := [(.int z223)]) (rest := []) (lenOf pd_3 rfl) rfl (by show 2 * 0 + _ ≤ _; exact Nat.le_of_eq rfl) (hb hby at_164) (fun _ _ => ⟨rfl, e304, (by decide : 6 + 0 ≤ _), (by decide : 35 + 0 ≤ _)⟩)
            dsimp only [Pt.U, Pt.locs, Pt.cells, Pt.slots] at X305 l305 y305 z305 st305 hQ305
            subst l305 y305 z305
            obtain ⟨rfl, N305q, e305⟩ := hQ305
            obtain ⟨Lo305, Y305, N305⟩ := pk X305 (Fr.app N304 N305q)
            refine Go.back st305 ?_
            show Go p.tables e below (P0 Z p0 p1 p2 p3 h0 n0 s) (T305.setTop (mkF m 167 #[.val (.int p0), .val (.int p1), .val (.int p2), .val (.int p3), .val (.int (2 : Int32)), .val (.int z223), .val (.int z226), .val (.int z229), .val (.ref b230), .val (.ref b247), .val (.ref b262), .val (.int (1 : Int32)), .unset, .unset] [(.int (b2i (f15 z223)))]))
            by_cases hc306 : (f15 z223) = true
            · refine Go.back (fun t k => XS.ifNo Y305.here hx rfl (hb hby at_167) rfl ((if0 _ _).trans (feq (b2i_t hc306)).1) k) ?_
              show Go p.tables e below (P0 Z p0 p1 p2 p3 h0 n0 s) (T305.setTop (mkF m 170 #[.val (.int p0), .val (.int p1), .val (.int p2), .val (.int p3), .val (.int (2 : Int32)), .val (.int z223), .val (.int z226), .val (.int z229), .val (.ref b230), .val (.ref b247), .val (.ref b262), .val (.int (1 : Int32)), .unset, .unset] []))
              refine Go.back (fun t k => XS.iload Y305.here hx rfl (hb hby at_170) rfl  k) ?_
              show Go p.tables e below (P0 Z p0 p1 p2 p3 h0 n0 s) (T305.setTop (mkF m 172 #[.val (.int p0), .val (.int p1), .val (.int p2), .val (.int p3), .val (.int (2 : Int32)), .val (.int z223), .val (.int z226), .val (.int z229), .val (.ref b230), .val (.ref b247), .val (.ref b262), .val (.int (1 : Int32)), .unset, .unset] [(.int (2 : Int32))]))
              refine Go.back (fun t k => XS.iconst Y305.here hx rfl (hb hby at_172) k) ?_
              show Go p.tables e below (P0 Z p0 p1 p2 p3 h0 n0 s) (T305.setTop (mkF m 173 #[.val (.int p0), .val (.int p1), .val (.int p2), .val (.int p3), .val (.int (2 : Int32)), .val (.int z223), .val (.int z226), .val (.int z229), .val (.ref b230), .val (.ref b247), .val (.ref b262), .val (.int (1 : Int32)), .unset, .unset] [(.int (2 : Int32)), (.int (2 : Int32))]))
              refine Go.back (fun t k => XS.icmpNo Y305.here hx rfl (hb hby at_173) rfl (flt (by decide)).1 k) ?_
              show Go p.tables e below (P0 Z p0 p1 p2 p3 h0 n0 s) (T305.setTop (mkF m 176 #[.val (.int p0), .val (.int p1), .val (.int p2), .val (.int p3), .val (.int (2 : Int32)), .val (.int z223), .val (.int z226), .val (.int z229), .val (.ref b230), .val (.ref b247), .val (.ref b262), .val (.int (1 : Int32)), .unset, .unset] []))
              refine Go.back (fun t k => XS.iload Y305.here hx rfl (hb hby at_176) rfl  k) ?_
              show Go p.tables e below (P0 Z p0 p1 p2 p3 h0 n0 s) (T305.setTop (mkF m 178 #[.val (.int p0), .val (.int p1), .val (.int p2), .val (.int p3), .val (.int (2 : Int32)), .val (.int z223), .val (.int z226), .val (.int z229), .val (.ref b230), .val (.ref b247), .val (.ref b262), .val (.int (1 : Int32)), .unset, .unset] [(.int z226)]))
              obtain ⟨_, _, ⟨T307, L307, k307, n307⟩, -, X307, ⟨Lc307, hQ307, l307, y307, z307⟩, st307⟩ := Jvm.LawKit.callS Y305 hx (y := (⟨"com/example/paylode/paylode/header/HeaderReaderAtEndPinLaw", "ws", "(C)Z"⟩ : MethodName)) hown (mvT hZ (hw _ (List.mem_of_getElem? (i := 82) rfl))) (mvT hZ (hw _ (List.mem_of_getElem? (i := 83) rfl))) (mvT hZ (hw _ (List.mem_of_getElem? (i := 2) rfl))) (mvT hZ (hw _ (List.mem_of_getElem? (i := 84) rfl))) (by decide) (backOf (W := 0) (rm15 l Z a0 hw [] z226 h290 n0) hZ (hw _ (List.mem_of_getElem? (i := 84) rfl)) (hw _ (List.mem_of_getElem? (i := 2) rfl)) (by decide) (by decide)) (g := (mkF m 178 #[.val (.int p0), .val (.int p1), .val (.int p2), .val (.int p3), .val (.int (2 : Int32)), .val (.int z223), .val (.int z226), .val (.int z229), .val (.ref b230), .val (.ref b247), .val (.ref b262), .val (.int (1 : Int32)), .unset, .unset] [(.int z226)])) rfl (by rw [hml]; rfl) (argsL := [(.int z226)]) (rest := []) (lenOf pd_3 rfl) rfl (by show 2 * 0 + _ ≤ _; exact Nat.le_of_eq rfl) (hb hby at_178) (fun _ _ => ⟨rfl, e305, (by decide : 6 + 0 ≤ _), (by decide : 35 + 0 ≤ _)⟩)
              dsimp only [Pt.U, Pt.locs, Pt.cells, Pt.slots] at X307 l307 y307 z307 st307 hQ307
              subst l307 y307 z307
              obtain ⟨rfl, N307q, e307⟩ := hQ307
              obtain ⟨Lo307, Y307, N307⟩ := pk X307 (Fr.app N305 N307q)
              refine Go.back st307 ?_
              show Go p.tables e below (P0 Z p0 p1 p2 p3 h0 n0 s) (T307.setTop (mkF m 181 #[.val (.int p0), .val (.int p1), .val (.int p2), .val (.int p3), .val (.int (2 : Int32)), .val (.int z223), .val (.int z226), .val (.int z229), .val (.ref b230), .val (.ref b247), .val (.ref b262), .val (.int (1 : Int32)), .unset, .unset] [(.int (b2i (f15 z226)))]))
              by_cases hc308 : (f15 z226) = true
              · refine Go.back (fun t k => XS.ifNo Y307.here hx rfl (hb hby at_181) rfl ((if0 _ _).trans (feq (b2i_t hc308)).1) k) ?_
                show Go p.tables e below (P0 Z p0 p1 p2 p3 h0 n0 s) (T307.setTop (mkF m 184 #[.val (.int p0), .val (.int p1), .val (.int p2), .val (.int p3), .val (.int (2 : Int32)), .val (.int z223), .val (.int z226), .val (.int z229), .val (.ref b230), .val (.ref b247), .val (.ref b262), .val (.int (1 : Int32)), .unset, .unset] []))
                refine Go.back (fun t k => XS.iload Y307.here hx rfl (hb hby at_184) rfl  k) ?_
                show Go p.tables e below (P0 Z p0 p1 p2 p3 h0 n0 s) (T307.setTop (mkF m 186 #[.val (.int p0), .val (.int p1), .val (.int p2), .val (.int p3), .val (.int (2 : Int32)), .val (.int z223), .val (.int z226), .val (.int z229), .val (.ref b230), .val (.ref b247), .val (.ref b262), .val (.int (1 : Int32)), .unset, .unset] [(.int (2 : Int32))]))
                refine Go.back (fun t k => XS.iconst Y307.here hx rfl (hb hby at_186) k) ?_
                show Go p.tables e below (P0 Z p0 p1 p2 p3 h0 n0 s) (T307.setTop (mkF m 187 #[.val (.int p0), .val (.int p1), .val (.int p2), .val (.int p3), .val (.int (2 : Int32)), .val (.int z223), .val (.int z226), .val (.int z229), .val (.ref b230), .val (.ref b247), .val (.ref b262), .val (.int (1 : Int32)), .unset, .unset] [(.int (3 : Int32)), (.int (2 : Int32))]))
                refine Go.back (fun t k => XS.icmpYes Y307.here hx rfl (pc0 := 187) (pc' := 204) rfl (hb hby at_187) rfl (tlt (by decide)).1 (by decide) (by decide) k) ?_
                show Go p.tables e below (P0 Z p0 p1 p2 p3 h0 n0 s) (T307.setTop (mkF m 204 #[.val (.int p0), .val (.int p1), .val (.int p2), .val (.int p3), .val (.int (2 : Int32)), .val (.int z223), .val (.int z226), .val (.int z229), .val (.ref b230), .val (.ref b247), .val (.ref b262), .val (.int (1 : Int32)), .unset, .unset] []))
                refine Go.back (fun t k => XS.iconst Y307.here hx rfl (hb hby at_204) k) ?_
                show Go p.tables e below (P0 Z p0 p1 p2 p3 h0 n0 s) (T307.setTop (mkF m 205 #[.val (.int p0), .val (.int p1), .val (.int p2), .val (.int p3), .val (.int (2 : Int32)), .val (.int z223), .val (.int z226), .val (.int z229), .val (.ref b230), .val (.ref b247), .val (.ref b262), .val (.int (1 : Int32)), .unset, .unset] [(.int (2 : Int32))]))
                refine Go.back (fun t k => XS.istore Y307.here hx rfl (hb hby at_205) rfl (l' := #[.val (.int p0), .val (.int p1), .val (.int p2), .val (.int p3), .val (.int (2 : Int32)), .val (.int z223), .val (.int z226), .val (.int z229), .val (.ref b230), .val (.ref b247), .val (.ref b262), .val (.int (1 : Int32)), .val (.int (2 : Int32)), .unset]) rfl k) ?_
                show Go p.tables e below (P0 Z p0 p1 p2 p3 h0 n0 s) (T307.setTop (mkF m 207 #[.val (.int p0), .val (.int p1), .val (.int p2), .val (.int p3), .val (.int (2 : Int32)), .val (.int z223), .val (.int z226), .val (.int z229), .val (.ref b230), .val (.ref b247), .val (.ref b262), .val (.int (1 : Int32)), .val (.int (2 : Int32)), .unset] []))
                refine Go.back (fun t k => XS.goto Y307.here hx rfl (pc0 := 207) (pc' := 219) rfl (hb hby at_207) (by decide) (by decide) k) ?_
                show Go p.tables e below (P0 Z p0 p1 p2 p3 h0 n0 s) (T307.setTop (mkF m 219 #[.val (.int p0), .val (.int p1), .val (.int p2), .val (.int p3), .val (.int (2 : Int32)), .val (.int z223), .val (.int z226), .val (.int z229), .val (.ref b230), .val (.ref b247), .val (.ref b262), .val (.int (1 : Int32)), .val (.int (2 : Int32)), .unset] []))
                refine Go.back (fun t k => XS.aload Y307.here hx rfl (hb hby at_219) rfl rfl  k) ?_
                show Go p.tables e below (P0 Z p0 p1 p2 p3 h0 n0 s) (T307.setTop (mkF m 221 #[.val (.int p0), .val (.int p1), .val (.int p2), .val (.int p3), .val (.int (2 : Int32)), .val (.int z223), .val (.int z226), .val (.int z229), .val (.ref b230), .val (.ref b247), .val (.ref b262), .val (.int (1 : Int32)), .val (.int (2 : Int32)), .unset] [(.ref b262)]))
                obtain ⟨cq309, kq309, q309a, q309b, q309c⟩ := isOf hZ e307 F299
                obtain ⟨_, _, ⟨T309, L309, k309, n309⟩, -, X309, ⟨Lc309, hQ309, l309, y309, z309⟩, st309⟩ := Y307.virtualBack hx (y := (⟨"com/example/paylode/paylode/header/HeaderReader", "skipWhitespace", "()V"⟩ : MethodName)) (z := (⟨"com/example/paylode/paylode/header/HeaderReader", "skipWhitespace", "()V"⟩ : MethodName)) hown (mvT hZ (hw _ (List.mem_of_getElem? (i := 61) rfl))) (mvT hZ (hw _ (List.mem_of_getElem? (i := 62) rfl))) (notFace_of_selects (args := #[]) (mvT hZ (hw _ (List.mem_of_getElem? (i := 64) rfl)))) (mvT hZ (hw _ (List.mem_of_getElem? (i := 64) rfl))) (mvT hZ (hw _ (List.mem_of_getElem? (i := 63) rfl))) (by decide) (backOf (W := 0) (rm10 l Z a0 hw [] b262 b247 t256b [z223, z226] zc fm h290 n0 F293 F299 F302 F301 F295 F296 F297 F298 F291 F292 g266 ne264 ne265 hcs hp hl hfm) hZ (hw _ (List.mem_of_getElem? (i := 65) rfl)) (hw _ (List.mem_of_getElem? (i := 28) rfl)) (by decide) (by decide)) q309a q309c (g := (mkF m 221 #[.val (.int p0), .val (.int p1), .val (.int p2), .val (.int p3), .val (.int (2 : Int32)), .val (.int z223), .val (.int z226), .val (.int z229), .val (.ref b230), .val (.ref b247), .val (.ref b262), .val (.int (1 : Int32)), .val (.int (2 : Int32)), .unset] [(.ref b262)])) rfl (by rw [hml]; rfl) (Steps.refl _) (argsL := []) (rest := []) (lenOf pd_7 rfl) rfl (by show 2 * 0 + _ ≤ _; exact Nat.le_of_eq rfl) (hb hby at_221) (fun _ _ => ⟨rfl, e307, (by decide : 6 + 0 ≤ _), (by decide : 35 + 0 ≤ _)⟩)
                dsimp only [Pt.U, Pt.locs, Pt.cells, Pt.slots] at X309 l309 y309 z309 st309 hQ309
                subst l309 y309 z309
                obtain ⟨h309, e309⟩ : ∃ z, T309.heap = z := ⟨_, rfl⟩
                rw [e309] at hQ309
                obtain ⟨rfl, N309q, K309, F320, F321⟩ := hQ309
                obtain ⟨Lo309, Y309, N309⟩ := pk X309 (Fr.app N307 N309q)
                have F310 : Sta Z h309 "java/lang/String" "COMPACT_STRINGS" "Z" (.int zc) := sta_keep F291 K309 (noSS (noS_exa F299) noS0)
                have F311 : Sta Z h309 "jdk/internal/util/Preconditions" "SIOOBE_FORMATTER" "Ljava/util/function/BiFunction;" fm := sta_keep F292 K309 (noSS (noS_exa F299) noS0)
                have F312 : n0 ≤ h309.size := Nat.le_trans F293 K309.1
                have F313 : ArL Z h309 b230 .char [(.int z223), (.int z226)] := F294.keep K309 (ninS ne263 nin0)
                have F314 : Exa Z h309 b247 "java/lang/String" := F295.keep K309
                have F315 : Fld Z h309 b247 "java/lang/String" "coder" "B" (.int (0 : Int32)) := F296.keep K309 (ninS ne264 nin0)
                have F316 : Fld Z h309 b247 "java/lang/String" "value" "[B" (.ref t256b) := F297.keep K309 (ninS ne264 nin0)
                have F317 : ArL Z h309 t256b .byte (List.map Value.int (List.map StrChars.lo8 [z223, z226])) := F298.keep K309 (ninS ne265 nin0)
                have F318 : Exa Z h309 b262 "com/example/paylode/paylode/header/HeaderReader" := F299.keep K309
                have F319 : kV ≤ h309.size := Nat.le_trans F300 K309.1
                refine Go.trans st309 ?_
                show Go p.tables e below (P0 Z p0 p1 p2 p3 h0 n0 s) (T309.setTop (mkF m 224 #[.val (.int p0), .val (.int p1), .val (.int p2), .val (.int p3), .val (.int (2 : Int32)), .val (.int z223), .val (.int z226), .val (.int z229), .val (.ref b230), .val (.ref b247), .val (.ref b262), .val (.int (1 : Int32)), .val (.int (2 : Int32)), .unset] []))
                have F322 : Fld Z h309 b262 "com/example/paylode/paylode/header/HeaderReader" "position" "I" (.int (2 : Int32)) := by
                  have q := F320
                  rw [show (g10_1 [z223, z226]) = (2 : Int32) from own_sk_2_2 hc306 hc308] at q
                  exact q
                refine Go.back (fun t k => XS.iload Y309.here hx rfl (hb hby at_224) rfl  k) ?_
                show Go p.tables e below (P0 Z p0 p1 p2 p3 h0 n0 s) (T309.setTop (mkF m 226 #[.val (.int p0), .val (.int p1), .val (.int p2), .val (.int p3), .val (.int (2 : Int32)), .val (.int z223), .val (.int z226), .val (.int z229), .val (.ref b230), .val (.ref b247), .val (.ref b262), .val (.int (1 : Int32)), .val (.int (2 : Int32)), .unset] [(.int (1 : Int32))]))
                refine Go.back (fun t k => XS.ifNo Y309.here hx rfl (hb hby at_226) rfl ((if0 _ _).trans (feq (by decide)).1) k) ?_
                show Go p.tables e below (P0 Z p0 p1 p2 p3 h0 n0 s) (T309.setTop (mkF m 229 #[.val (.int p0), .val (.int p1), .val (.int p2), .val (.int p3), .val (.int (2 : Int32)), .val (.int z223), .val (.int z226), .val (.int z229), .val (.ref b230), .val (.ref b247), .val (.ref b262), .val (.int (1 : Int32)), .val (.int (2 : Int32)), .unset] []))
                refine Go.back (fun t k => XS.aload Y309.here hx rfl (hb hby at_229) rfl rfl  k) ?_
                show Go p.tables e below (P0 Z p0 p1 p2 p3 h0 n0 s) (T309.setTop (mkF m 231 #[.val (.int p0), .val (.int p1), .val (.int p2), .val (.int p3), .val (.int (2 : Int32)), .val (.int z223), .val (.int z226), .val (.int z229), .val (.ref b230), .val (.ref b247), .val (.ref b262), .val (.int (1 : Int32)), .val (.int (2 : Int32)), .unset] [(.ref b262)]))
                obtain ⟨cq323, kq323, q323a, q323b, q323c⟩ := isOf hZ e309 F318
                obtain ⟨_, _, ⟨T323, L323, k323, n323⟩, -, X323, ⟨Lc323, hQ323, l323, y323, z323⟩, st323⟩ := Y309.virtualBack hx (y := (⟨"com/example/paylode/paylode/header/HeaderReader", "position", "()I"⟩ : MethodName)) (z := (⟨"com/example/paylode/paylode/header/HeaderReader", "position", "()I"⟩ : MethodName)) hown (mvT hZ (hw _ (List.mem_of_getElem? (i := 38) rfl))) (mvT hZ (hw _ (List.mem_of_getElem? (i := 39) rfl))) (notFace_of_selects (args := #[]) (mvT hZ (hw _ (List.mem_of_getElem? (i := 41) rfl)))) (mvT hZ (hw _ (List.mem_of_getElem? (i := 41) rfl))) (mvT hZ (hw _ (List.mem_of_getElem? (i := 40) rfl))) (by decide) (backOf (W := 0) (rm6 l Z a0 hw [] b262 (2 : Int32) h309 n0 F312 F322) hZ (hw _ (List.mem_of_getElem? (i := 42) rfl)) (hw _ (List.mem_of_getElem? (i := 28) rfl)) (by decide) (by decide)) q323a q323c (g := (mkF m 231 #[.val (.int p0), .val (.int p1), .val (.int p2), .val (.int p3), .val (.int (2 : Int32)), .val (.int z223), .val (.int z226), .val (.int z229), .val (.ref b230), .val (.ref b247), .val (.ref b262), .val (.int (1 : Int32)), .val (.int (2 : Int32)), .unset] [(.ref b262)])) rfl (by rw [hml]; rfl) (Steps.refl _) (argsL := []) (rest := []) (lenOf pd_0 rfl) rfl (by show 2 * 0 + _ ≤ _; exact Nat.le_of_eq rfl) (hb hby at_231) (fun _ _ => ⟨rfl, e309, (by decide : 6 + 0 ≤ _), (by decide : 35 + 0 ≤ _)⟩)
                dsimp only [Pt.U, Pt.locs, Pt.cells, Pt.slots] at X323 l323 y323 z323 st323 hQ323
                subst l323 y323 z323
                obtain ⟨rfl, N323q, e323⟩ := hQ323
                obtain ⟨Lo323, Y323, N323⟩ := pk X323 (Fr.app N309 N323q)
                refine Go.trans st323 ?_
                show Go p.tables e below (P0 Z p0 p1 p2 p3 h0 n0 s) (T323.setTop (mkF m 234 #[.val (.int p0), .val (.int p1), .val (.int p2), .val (.int p3), .val (.int (2 : Int32)), .val (.int z223), .val (.int z226), .val (.int z229), .val (.ref b230), .val (.ref b247), .val (.ref b262), .val (.int (1 : Int32)), .val (.int (2 : Int32)), .unset] [(.int (2 : Int32))]))
                refine Go.back (fun t k => XS.iload Y323.here hx rfl (hb hby at_234) rfl  k) ?_
                show Go p.tables e below (P0 Z p0 p1 p2 p3 h0 n0 s) (T323.setTop (mkF m 236 #[.val (.int p0), .val (.int p1), .val (.int p2), .val (.int p3), .val (.int (2 : Int32)), .val (.int z223), .val (.int z226), .val (.int z229), .val (.ref b230), .val (.ref b247), .val (.ref b262), .val (.int (1 : Int32)), .val (.int (2 : Int32)), .unset] [(.int (2 : Int32)), (.int (2 : Int32))]))
                refine Go.back (fun t k => XS.icmpNo Y323.here hx rfl (hb hby at_236) rfl (teq (by decide)).2 k) ?_
                show Go p.tables e below (P0 Z p0 p1 p2 p3 h0 n0 s) (T323.setTop (mkF m 239 #[.val (.int p0), .val (.int p1), .val (.int p2), .val (.int p3), .val (.int (2 : Int32)), .val (.int z223), .val (.int z226), .val (.int z229), .val (.ref b230), .val (.ref b247), .val (.ref b262), .val (.int (1 : Int32)), .val (.int (2 : Int32)), .unset] []))
                refine Go.back (fun t k => XS.aload Y323.here hx rfl (hb hby at_239) rfl rfl  k) ?_
                show Go p.tables e below (P0 Z p0 p1 p2 p3 h0 n0 s) (T323.setTop (mkF m 241 #[.val (.int p0), .val (.int p1), .val (.int p2), .val (.int p3), .val (.int (2 : Int32)), .val (.int z223), .val (.int z226), .val (.int z229), .val (.ref b230), .val (.ref b247), .val (.ref b262), .val (.int (1 : Int32)), .val (.int (2 : Int32)), .unset] [(.ref b262)]))
                obtain ⟨cq324, kq324, q324a, q324b, q324c⟩ := isOf hZ e323 F318
                obtain ⟨_, _, ⟨T324, L324, k324, n324⟩, -, X324, ⟨Lc324, hQ324, l324, y324, z324⟩, st324⟩ := Y323.virtualBack hx (y := (⟨"com/example/paylode/paylode/header/HeaderReader", "atEnd", "()Z"⟩ : MethodName)) (z := (⟨"com/example/paylode/paylode/header/HeaderReader", "atEnd", "()Z"⟩ : MethodName)) hown (mvT hZ (hw _ (List.mem_of_getElem? (i := 45) rfl))) (mvT hZ (hw _ (List.mem_of_getElem? (i := 46) rfl))) (notFace_of_selects (args := #[]) (mvT hZ (hw _ (List.mem_of_getElem? (i := 48) rfl)))) (mvT hZ (hw _ (List.mem_of_getElem? (i := 48) rfl))) (mvT hZ (hw _ (List.mem_of_getElem? (i := 47) rfl))) (by decide) (backOf (W := 0) (rm7 l Z a0 hw [] b262 b247 t256b [z223, z226] zc fm (2 : Int32) h309 n0 F312 F318 F321 F322 F314 F315 F316 F317 F310 F311 hcs hp hl hfm) hZ (hw _ (List.mem_of_getElem? (i := 49) rfl)) (hw _ (List.mem_of_getElem? (i := 28) rfl)) (by decide) (by decide)) q324a q324c (g := (mkF m 241 #[.val (.int p0), .val (.int p1), .val (.int p2), .val (.int p3), .val (.int (2 : Int32)), .val (.int z223), .val (.int z226), .val (.int z229), .val (.ref b230), .val (.ref b247), .val (.ref b262), .val (.int (1 : Int32)), .val (.int (2 : Int32)), .unset] [(.ref b262)])) rfl (by rw [hml]; rfl) (Steps.refl _) (argsL := []) (rest := []) (lenOf pd_1 rfl) rfl (by show 2 * 0 + _ ≤ _; exact Nat.le_of_eq rfl) (hb hby at_241) (fun _ _ => ⟨rfl, e323, (by decide : 6 + 0 ≤ _), (by decide : 35 + 0 ≤ _)⟩)
                dsimp only [Pt.U, Pt.locs, Pt.cells, Pt.slots] at X324 l324 y324 z324 st324 hQ324
                subst l324 y324 z324
                obtain ⟨rfl, N324q, e324⟩ := hQ324
                obtain ⟨Lo324, Y324, N324⟩ := pk X324 (Fr.app N323 N324q)
                refine Go.trans st324 ?_
                rw [show (f7 [z223, z226] (2 : Int32)) = true from by first | rfl | simp [f7]]
                show Go p.tables e below (P0 Z p0 p1 p2 p3 h0 n0 s) (T324.setTop (mkF m 244 #[.val (.int p0), .val (.int p1), .val (.int p2), .val (.int p3), .val (.int (2 : Int32)), .val (.int z223), .val (.int z226), .val (.int z229), .val (.ref b230), .val (.ref b247), .val (.ref b262), .val (.int (1 : Int32)), .val (.int (2 : Int32)), .unset] [(.int (1 : Int32))]))
                refine Go.back (fun t k => XS.iload Y324.here hx rfl (hb hby at_244) rfl  k) ?_
                show Go p.tables e below (P0 Z p0 p1 p2 p3 h0 n0 s) (T324.setTop (mkF m 246 #[.val (.int p0), .val (.int p1), .val (.int p2), .val (.int p3), .val (.int (2 : Int32)), .val (.int z223), .val (.int z226), .val (.int z229), .val (.ref b230), .val (.ref b247), .val (.ref b262), .val (.int (1 : Int32)), .val (.int (2 : Int32)), .unset] [(.int (2 : Int32)), (.int (1 : Int32))]))
                refine Go.back (fun t k => XS.iload Y324.here hx rfl (hb hby at_246) rfl  k) ?_
                show Go p.tables e below (P0 Z p0 p1 p2 p3 h0 n0 s) (T324.setTop (mkF m 248 #[.val (.int p0), .val (.int p1), .val (.int p2), .val (.int p3), .val (.int (2 : Int32)), .val (.int z223), .val (.int z226), .val (.int z229), .val (.ref b230), .val (.ref b247), .val (.ref b262), .val (.int (1 : Int32)), .val (.int (2 : Int32)), .unset] [(.int (2 : Int32)), (.int (2 : Int32)), (.int (1 : Int32))]))
                refine Go.back (fun t k => XS.icmpNo Y324.here hx rfl (hb hby at_248) rfl (teq (by decide)).2 k) ?_
                show Go p.tables e below (P0 Z p0 p1 p2 p3 h0 n0 s) (T324.setTop (mkF m 251 #[.val (.int p0), .val (.int p1), .val (.int p2), .val (.int p3), .val (.int (2 : Int32)), .val (.int z223), .val (.int z226), .val (.int z229), .val (.ref b230), .val (.ref b247), .val (.ref b262), .val (.int (1 : Int32)), .val (.int (2 : Int32)), .unset] [(.int (1 : Int32))]))
                refine Go.back (fun t k => XS.iconst Y324.here hx rfl (hb hby at_251) k) ?_
                show Go p.tables e below (P0 Z p0 p1 p2 p3 h0 n0 s) (T324.setTop (mkF m 252 #[.val (.int p0), .val (.int p1), .val (.int p2), .val (.int p3), .val (.int (2 : Int32)), .val (.int z223), .val (.int z226), .val (.int z229), .val (.ref b230), .val (.ref b247), .val (.ref b262), .val (.int (1 : Int32)), .val (.int (2 : Int32)), .unset] [(.int (1 : Int32)), (.int (1 : Int32))]))
                refine Go.back (fun t k => XS.goto Y324.here hx rfl (pc0 := 252) (pc' := 256) rfl (hb hby at_252) (by decide) (by decide) k) ?_
                show Go p.tables e below (P0 Z p0 p1 p2 p3 h0 n0 s) (T324.setTop (mkF m 256 #[.val (.int p0), .val (.int p1), .val (.int p2), .val (.int p3), .val (.int (2 : Int32)), .val (.int z223), .val (.int z226), .val (.int z229), .val (.ref b230), .val (.ref b247), .val (.ref b262), .val (.int (1 : Int32)), .val (.int (2 : Int32)), .unset] [(.int (1 : Int32)), (.int (1 : Int32))]))
                refine Go.back (fun t k => XS.icmpNo Y324.here hx rfl (hb hby at_256) rfl (teq (by decide)).2 k) ?_
                show Go p.tables e below (P0 Z p0 p1 p2 p3 h0 n0 s) (T324.setTop (mkF m 259 #[.val (.int p0), .val (.int p1), .val (.int p2), .val (.int p3), .val (.int (2 : Int32)), .val (.int z223), .val (.int z226), .val (.int z229), .val (.ref b230), .val (.ref b247), .val (.ref b262), .val (.int (1 : Int32)), .val (.int (2 : Int32)), .unset] []))
                refine Go.back (fun t k => XS.iconst Y324.here hx rfl (hb hby at_259) k) ?_
                show Go p.tables e below (P0 Z p0 p1 p2 p3 h0 n0 s) (T324.setTop (mkF m 260 #[.val (.int p0), .val (.int p1), .val (.int p2), .val (.int p3), .val (.int (2 : Int32)), .val (.int z223), .val (.int z226), .val (.int z229), .val (.ref b230), .val (.ref b247), .val (.ref b262), .val (.int (1 : Int32)), .val (.int (2 : Int32)), .unset] [(.int (1 : Int32))]))
                refine Go.back (fun t k => XS.goto Y324.here hx rfl (pc0 := 260) (pc' := 264) rfl (hb hby at_260) (by decide) (by decide) k) ?_
                show Go p.tables e below (P0 Z p0 p1 p2 p3 h0 n0 s) (T324.setTop (mkF m 264 #[.val (.int p0), .val (.int p1), .val (.int p2), .val (.int p3), .val (.int (2 : Int32)), .val (.int z223), .val (.int z226), .val (.int z229), .val (.ref b230), .val (.ref b247), .val (.ref b262), .val (.int (1 : Int32)), .val (.int (2 : Int32)), .unset] [(.int (1 : Int32))]))
                refine Go.back (fun t k => XS.istore Y324.here hx rfl (hb hby at_264) rfl (l' := #[.val (.int p0), .val (.int p1), .val (.int p2), .val (.int p3), .val (.int (2 : Int32)), .val (.int z223), .val (.int z226), .val (.int z229), .val (.ref b230), .val (.ref b247), .val (.ref b262), .val (.int (1 : Int32)), .val (.int (2 : Int32)), .unset]) rfl k) ?_
                show Go p.tables e below (P0 Z p0 p1 p2 p3 h0 n0 s) (T324.setTop (mkF m 266 #[.val (.int p0), .val (.int p1), .val (.int p2), .val (.int p3), .val (.int (2 : Int32)), .val (.int z223), .val (.int z226), .val (.int z229), .val (.ref b230), .val (.ref b247), .val (.ref b262), .val (.int (1 : Int32)), .val (.int (2 : Int32)), .unset] []))
                refine Go.back (fun t k => XS.iload Y324.here hx rfl (hb hby at_266) rfl  k) ?_
                show Go p.tables e below (P0 Z p0 p1 p2 p3 h0 n0 s) (T324.setTop (mkF m 268 #[.val (.int p0), .val (.int p1), .val (.int p2), .val (.int p3), .val (.int (2 : Int32)), .val (.int z223), .val (.int z226), .val (.int z229), .val (.ref b230), .val (.ref b247), .val (.ref b262), .val (.int (1 : Int32)), .val (.int (2 : Int32)), .unset] [(.int (2 : Int32))]))
                refine Go.back (fun t k => XS.iload Y324.here hx rfl (hb hby at_268) rfl  k) ?_
                show Go p.tables e below (P0 Z p0 p1 p2 p3 h0 n0 s) (T324.setTop (mkF m 270 #[.val (.int p0), .val (.int p1), .val (.int p2), .val (.int p3), .val (.int (2 : Int32)), .val (.int z223), .val (.int z226), .val (.int z229), .val (.ref b230), .val (.ref b247), .val (.ref b262), .val (.int (1 : Int32)), .val (.int (2 : Int32)), .unset] [(.int (2 : Int32)), (.int (2 : Int32))]))
                refine Go.back (fun t k => XS.icmpYes Y324.here hx rfl (pc0 := 270) (pc' := 351) rfl (hb hby at_270) rfl (flt (by decide)).2.1 (by decide) (by decide) k) ?_
                show Go p.tables e below (P0 Z p0 p1 p2 p3 h0 n0 s) (T324.setTop (mkF m 351 #[.val (.int p0), .val (.int p1), .val (.int p2), .val (.int p3), .val (.int (2 : Int32)), .val (.int z223), .val (.int z226), .val (.int z229), .val (.ref b230), .val (.ref b247), .val (.ref b262), .val (.int (1 : Int32)), .val (.int (2 : Int32)), .unset] []))
                refine Go.back (fun t k => XS.iload Y324.here hx rfl (hb hby at_351) rfl  k) ?_
                show Go p.tables e below (P0 Z p0 p1 p2 p3 h0 n0 s) (T324.setTop (mkF m 353 #[.val (.int p0), .val (.int p1), .val (.int p2), .val (.int p3), .val (.int (2 : Int32)), .val (.int z223), .val (.int z226), .val (.int z229), .val (.ref b230), .val (.ref b247), .val (.ref b262), .val (.int (1 : Int32)), .val (.int (2 : Int32)), .unset] [(.int (1 : Int32))]))
                exact Go.retBW (s := s) (vm0 := TV.vm) (b := true) (Qa := Q0 Z p0 p1 p2 p3 h0 n0) (Qb := fun vm h => True) Y324 hx hSV (by rw [e324]; exact F319) Bd.returns (hb hby at_353) Bd.notSynchronized ⟨rfl, N324⟩ trivial (by decide) (by decide)
              · refine Go.back (fun t k => XS.ifYes Y307.here hx rfl (pc0 := 181) (pc' := 210) rfl (hb hby at_181) rfl ((if0 _ _).trans (teq (b2i_f hc308)).1) (by decide) (by decide) k) ?_
                show Go p.tables e below (P0 Z p0 p1 p2 p3 h0 n0 s) (T307.setTop (mkF m 210 #[.val (.int p0), .val (.int p1), .val (.int p2), .val (.int p3), .val (.int (2 : Int32)), .val (.int z223), .val (.int z226), .val (.int z229), .val (.ref b230), .val (.ref b247), .val (.ref b262), .val (.int (1 : Int32)), .unset, .unset] []))
                refine Go.back (fun t k => XS.iconst Y307.here hx rfl (hb hby at_210) k) ?_
                show Go p.tables e below (P0 Z p0 p1 p2 p3 h0 n0 s) (T307.setTop (mkF m 211 #[.val (.int p0), .val (.int p1), .val (.int p2), .val (.int p3), .val (.int (2 : Int32)), .val (.int z223), .val (.int z226), .val (.int z229), .val (.ref b230), .val (.ref b247), .val (.ref b262), .val (.int (1 : Int32)), .unset, .unset] [(.int (1 : Int32))]))
                refine Go.back (fun t k => XS.istore Y307.here hx rfl (hb hby at_211) rfl (l' := #[.val (.int p0), .val (.int p1), .val (.int p2), .val (.int p3), .val (.int (2 : Int32)), .val (.int z223), .val (.int z226), .val (.int z229), .val (.ref b230), .val (.ref b247), .val (.ref b262), .val (.int (1 : Int32)), .val (.int (1 : Int32)), .unset]) rfl k) ?_
                show Go p.tables e below (P0 Z p0 p1 p2 p3 h0 n0 s) (T307.setTop (mkF m 213 #[.val (.int p0), .val (.int p1), .val (.int p2), .val (.int p3), .val (.int (2 : Int32)), .val (.int z223), .val (.int z226), .val (.int z229), .val (.ref b230), .val (.ref b247), .val (.ref b262), .val (.int (1 : Int32)), .val (.int (1 : Int32)), .unset] []))
                refine Go.back (fun t k => XS.goto Y307.here hx rfl (pc0 := 213) (pc' := 219) rfl (hb hby at_213) (by decide) (by decide) k) ?_
                show Go p.tables e below (P0 Z p0 p1 p2 p3 h0 n0 s) (T307.setTop (mkF m 219 #[.val (.int p0), .val (.int p1), .val (.int p2), .val (.int p3), .val (.int (2 : Int32)), .val (.int z223), .val (.int z226), .val (.int z229), .val (.ref b230), .val (.ref b247), .val (.ref b262), .val (.int (1 : Int32)), .val (.int (1 : Int32)), .unset] []))
                refine Go.back (fun t k => XS.aload Y307.here hx rfl (hb hby at_219) rfl rfl  k) ?_
                show Go p.tables e below (P0 Z p0 p1 p2 p3 h0 n0 s) (T307.setTop (mkF m 221 #[.val (.int p0), .val (.int p1), .val (.int p2), .val (.int p3), .val (.int (2 : Int32)), .val (.int z223), .val (.int z226), .val (.int z229), .val (.ref b230), .val (.ref b247), .val (.ref b262), .val (.int (1 : Int32)), .val (.int (1 : Int32)), .unset] [(.ref b262)]))
                obtain ⟨cq325, kq325, q325a, q325b, q325c⟩ := isOf hZ e307 F299
                obtain ⟨_, _, ⟨T325, L325, k325, n325⟩, -, X325, ⟨Lc325, hQ325, l325, y325, z325⟩, st325⟩ := Y307.virtualBack hx (y := (⟨"com/example/paylode/paylode/header/HeaderReader", "skipWhitespace", "()V"⟩ : MethodName)) (z := (⟨"com/example/paylode/paylode/header/HeaderReader", "skipWhitespace", "()V"⟩ : MethodName)) hown (mvT hZ (hw _ (List.mem_of_getElem? (i := 61) rfl))) (mvT hZ (hw _ (List.mem_of_getElem? (i := 62) rfl))) (notFace_of_selects (args := #[]) (mvT hZ (hw _ (List.mem_of_getElem? (i := 64) rfl)))) (mvT hZ (hw _ (List.mem_of_getElem? (i := 64) rfl))) (mvT hZ (hw _ (List.mem_of_getElem? (i := 63) rfl))) (by decide) (backOf (W := 0) (rm10 l Z a0 hw [] b262 b247 t256b [z223, z226] zc fm h290 n0 F293 F299 F302 F301 F295 F296 F297 F298 F291 F292 g266 ne264 ne265 hcs hp hl hfm) hZ (hw _ (List.mem_of_getElem? (i := 65) rfl)) (hw _ (List.mem_of_getElem? (i := 28) rfl)) (by decide) (by decide)) q325a q325c (g := (mkF m 221 #[.val (.int p0), .val (.int p1), .val (.int p2), .val (.int p3), .val (.int (2 : Int32)), .val (.int z223), .val (.int z226), .val (.int z229), .val (.ref b230), .val (.ref b247), .val (.ref b262), .val (.int (1 : Int32)), .val (.int (1 : Int32)), .unset] [(.ref b262)])) rfl (by rw [hml]; rfl) (Steps.refl _) (argsL := []) (rest := []) (lenOf pd_7 rfl) rfl (by show 2 * 0 + _ ≤ _; exact Nat.le_of_eq rfl) (hb hby at_221) (fun _ _ => ⟨rfl, e307, (by decide : 6 + 0 ≤ _), (by decide : 35 + 0 ≤ _)⟩)
                dsimp only [Pt.U, Pt.locs, Pt.cells, Pt.slots] at X325 l325 y325 z325 st325 hQ325
                subst l325 y325 z325
                obtain ⟨h325, e325⟩ : ∃ z, T325.heap = z := ⟨_, rfl⟩
                rw [e325] at hQ325
                obtain ⟨rfl, N325q, K325, F336, F337⟩ := hQ325
                obtain ⟨Lo325, Y325, N325⟩ := pk X325 (Fr.app N307 N325q)
                have F326 : Sta Z h325 "java/lang/String" "COMPACT_STRINGS" "Z" (.int zc) := sta_keep F291 K325 (noSS (noS_exa F299) noS0)
                have F327 : Sta Z h325 "jdk/internal/util/Preconditions" "SIOOBE_FORMATTER" "Ljava/util/function/BiFunction;" fm := sta_keep F292 K325 (noSS (noS_exa F299) noS0)
                have F328 : n0 ≤ h325.size := Nat.le_trans F293 K325.1
                have F329 : ArL Z h325 b230 .char [(.int z223), (.int z226)] := F294.keep K325 (ninS ne263 nin0)
                have F330 : Exa Z h325 b247 "java/lang/String" := F295.keep K325
                have F331 : Fld Z h325 b247 "java/lang/String" "coder" "B" (.int (0 : Int32)) := F296.keep K325 (ninS ne264 nin0)
                have F332 : Fld Z h325 b247 "java/lang/String" "value" "[B" (.ref t256b) := F297.keep K325 (ninS ne264 nin0)
                have F333 : ArL Z h325 t256b .byte (List.map Value.int (List.map StrChars.lo8 [z223, z226])) := F298.keep K325 (ninS ne265 nin0)
                have F334 : Exa Z h325 b262 "com/example/paylode/paylode/header/HeaderReader" := F299.keep K325
                have F335 : kV ≤ h325.size := Nat.le_trans F300 K325.1
                refine Go.trans st325 ?_
                show Go p.tables e below (P0 Z p0 p1 p2 p3 h0 n0 s) (T325.setTop (mkF m 224 #[.val (.int p0), .val (.int p1), .val (.int p2), .val (.int p3), .val (.int (2 : Int32)), .val (.int z223), .val (.int z226), .val (.int z229), .val (.ref b230), .val (.ref b247), .val (.ref b262), .val (.int (1 : Int32)), .val (.int (1 : Int32)), .unset] []))
                have F338 : Fld Z h325 b262 "com/example/paylode/paylode/header/HeaderReader" "position" "I" (.int (1 : Int32)) := by
                  have q := F336
                  rw [show (g10_1 [z223, z226]) = (1 : Int32) from own_sk_2_1 hc306 hc308] at q
                  exact q
                refine Go.back (fun t k => XS.iload Y325.here hx rfl (hb hby at_224) rfl  k) ?_
                show Go p.tables e below (P0 Z p0 p1 p2 p3 h0 n0 s) (T325.setTop (mkF m 226 #[.val (.int p0), .val (.int p1), .val (.int p2), .val (.int p3), .val (.int (2 : Int32)), .val (.int z223), .val (.int z226), .val (.int z229), .val (.ref b230), .val (.ref b247), .val (.ref b262), .val (.int (1 : Int32)), .val (.int (1 : Int32)), .unset] [(.int (1 : Int32))]))
                refine Go.back (fun t k => XS.ifNo Y325.here hx rfl (hb hby at_226) rfl ((if0 _ _).trans (feq (by decide)).1) k) ?_
                show Go p.tables e below (P0 Z p0 p1 p2 p3 h0 n0 s) (T325.setTop (mkF m 229 #[.val (.int p0), .val (.int p1), .val (.int p2), .val (.int p3), .val (.int (2 : Int32)), .val (.int z223), .val (.int z226), .val (.int z229), .val (.ref b230), .val (.ref b247), .val (.ref b262), .val (.int (1 : Int32)), .val (.int (1 : Int32)), .unset] []))
                refine Go.back (fun t k => XS.aload Y325.here hx rfl (hb hby at_229) rfl rfl  k) ?_
                show Go p.tables e below (P0 Z p0 p1 p2 p3 h0 n0 s) (T325.setTop (mkF m 231 #[.val (.int p0), .val (.int p1), .val (.int p2), .val (.int p3), .val (.int (2 : Int32)), .val (.int z223), .val (.int z226), .val (.int z229), .val (.ref b230), .val (.ref b247), .val (.ref b262), .val (.int (1 : Int32)), .val (.int (1 : Int32)), .unset] [(.ref b262)]))
                obtain ⟨cq339, kq339, q339a, q339b, q339c⟩ := isOf hZ e325 F334
                obtain ⟨_, _, ⟨T339, L339, k339, n339⟩, -, X339, ⟨Lc339, hQ339, l339, y339, z339⟩, st339⟩ := Y325.virtualBack hx (y := (⟨"com/example/paylode/paylode/header/HeaderReader", "position", "()I"⟩ : MethodName)) (z := (⟨"com/example/paylode/paylode/header/HeaderReader", "position", "()I"⟩ : MethodName)) hown (mvT hZ (hw _ (List.mem_of_getElem? (i := 38) rfl))) (mvT hZ (hw _ (List.mem_of_getElem? (i := 39) rfl))) (notFace_of_selects (args := #[]) (mvT hZ (hw _ (List.mem_of_getElem? (i := 41) rfl)))) (mvT hZ (hw _ (List.mem_of_getElem? (i := 41) rfl))) (mvT hZ (hw _ (List.mem_of_getElem? (i := 40) rfl))) (by decide) (backOf (W := 0) (rm6 l Z a0 hw [] b262 (1 : Int32) h325 n0 F328 F338) hZ (hw _ (List.mem_of_getElem? (i := 42) rfl)) (hw _ (List.mem_of_getElem? (i := 28) rfl)) (by decide) (by decide)) q339a q339c (g := (mkF m 231 #[.val (.int p0), .val (.int p1), .val (.int p2), .val (.int p3), .val (.int (2 : Int32)), .val (.int z223), .val (.int z226), .val (.int z229), .val (.ref b230), .val (.ref b247), .val (.ref b262), .val (.int (1 : Int32)), .val (.int (1 : Int32)), .unset] [(.ref b262)])) rfl (by rw [hml]; rfl) (Steps.refl _) (argsL := []) (rest := []) (lenOf pd_0 rfl) rfl (by show 2 * 0 + _ ≤ _; exact Nat.le_of_eq rfl) (hb hby at_231) (fun _ _ => ⟨rfl, e325, (by decide : 6 + 0 ≤ _), (by decide : 35 + 0 ≤ _)⟩)
                dsimp only [Pt.U, Pt.locs, Pt.cells, Pt.slots] at X339 l339 y339 z339 st339 hQ339
                subst l339 y339 z339
                obtain ⟨rfl, N339q, e339⟩ := hQ339
                obtain ⟨Lo339, Y339, N339⟩ := pk X339 (Fr.app N325 N339q)
                refine Go.trans st339 ?_
                show Go p.tables e below (P0 Z p0 p1 p2 p3 h0 n0 s) (T339.setTop (mkF m 234 #[.val (.int p0), .val (.int p1), .val (.int p2), .val (.int p3), .val (.int (2 : Int32)), .val (.int z223), .val (.int z226), .val (.int z229), .val (.ref b230), .val (.ref b247), .val (.ref b262), .val (.int (1 : Int32)), .val (.int (1 : Int32)), .unset] [(.int (1 : Int32))]))
                refine Go.back (fun t k => XS.iload Y339.here hx rfl (hb hby at_234) rfl  k) ?_
                show Go p.tables e below (P0 Z p0 p1 p2 p3 h0 n0 s) (T339.setTop (mkF m 236 #[.val (.int p0), .val (.int p1), .val (.int p2), .val (.int p3), .val (.int (2 : Int32)), .val (.int z223), .val (.int z226), .val (.int z229), .val (.ref b230), .val (.ref b247), .val (.ref b262), .val (.int (1 : Int32)), .val (.int (1 : Int32)), .unset] [(.int (1 : Int32)), (.int (1 : Int32))]))
                refine Go.back (fun t k => XS.icmpNo Y339.here hx rfl (hb hby at_236) rfl (teq (by decide)).2 k) ?_
                show Go p.tables e below (P0 Z p0 p1 p2 p3 h0 n0 s) (T339.setTop (mkF m 239 #[.val (.int p0), .val (.int p1), .val (.int p2), .val (.int p3), .val (.int (2 : Int32)), .val (.int z223), .val (.int z226), .val (.int z229), .val (.ref b230), .val (.ref b247), .val (.ref b262), .val (.int (1 : Int32)), .val (.int (1 : Int32)), .unset] []))
                refine Go.back (fun t k => XS.aload Y339.here hx rfl (hb hby at_239) rfl rfl  k) ?_
                show Go p.tables e below (P0 Z p0 p1 p2 p3 h0 n0 s) (T339.setTop (mkF m 241 #[.val (.int p0), .val (.int p1), .val (.int p2), .val (.int p3), .val (.int (2 : Int32)), .val (.int z223), .val (.int z226), .val (.int z229), .val (.ref b230), .val (.ref b247), .val (.ref b262), .val (.int (1 : Int32)), .val (.int (1 : Int32)), .unset] [(.ref b262)]))
                obtain ⟨cq340, kq340, q340a, q340b, q340c⟩ := isOf hZ e339 F334
                obtain ⟨_, _, ⟨T340, L340, k340, n340⟩, -, X340, ⟨Lc340, hQ340, l340, y340, z340⟩, st340⟩ := Y339.virtualBack hx (y := (⟨"com/example/paylode/paylode/header/HeaderReader", "atEnd", "()Z"⟩ : MethodName)) (z := (⟨"com/example/paylode/paylode/header/HeaderReader", "atEnd", "()Z"⟩ : MethodName)) hown (mvT hZ (hw _ (List.mem_of_getElem? (i := 45) rfl))) (mvT hZ (hw _ (List.mem_of_getElem? (i := 46) rfl))) (notFace_of_selects (args := #[]) (mvT hZ (hw _ (List.mem_of_getElem? (i := 48) rfl)))) (mvT hZ (hw _ (List.mem_of_getElem? (i := 48) rfl))) (mvT hZ (hw _ (List.mem_of_getElem? (i := 47) rfl))) (by decide) (backOf (W := 0) (rm7 l Z a0 hw [] b262 b247 t256b [z223, z226] zc fm (1 : Int32) h325 n0 F328 F334 F337 F338 F330 F331 F332 F333 F326 F327 hcs hp hl hfm) hZ (hw _ (List.mem_of_getElem? (i := 49) rfl)) (hw _ (List.mem_of_getElem? (i := 28) rfl)) (by decide) (by decide)) q340a q340c (g := (mkF m 241 #[.val (.int p0), .val (.int p1), .val (.int p2), .val (.int p3), .val (.int (2 : Int32)), .val (.int z223), .val (.int z226), .val (.int z229), .val (.ref b230), .val (.ref b247), .val (.ref b262), .val (.int (1 : Int32)), .val (.int (1 : Int32)), .unset] [(.ref b262)])) rfl (by rw [hml]; rfl) (Steps.refl _) (argsL := []) (rest := []) (lenOf pd_1 rfl) rfl (by show 2 * 0 + _ ≤ _; exact Nat.le_of_eq rfl) (hb hby at_241) (fun _ _ => ⟨rfl, e339, (by decide : 6 + 0 ≤ _), (by decide : 35 + 0 ≤ _)⟩)
                dsimp only [Pt.U, Pt.locs, Pt.cells, Pt.slots] at X340 l340 y340 z340 st340 hQ340
                subst l340 y340 z340
                obtain ⟨rfl, N340q, e340⟩ := hQ340
                obtain ⟨Lo340, Y340, N340⟩ := pk X340 (Fr.app N339 N340q)
                refine Go.trans st340 ?_
                rw [show (f7 [z223, z226] (1 : Int32)) = false from by first | rfl | simp [f7]]
                show Go p.tables e below (P0 Z p0 p1 p2 p3 h0 n0 s) (T340.setTop (mkF m 244 #[.val (.int p0), .val (.int p1), .val (.int p2), .val (.int p3), .val (.int (2 : Int32)), .val (.int z223), .val (.int z226), .val (.int z229), .val (.ref b230), .val (.ref b247), .val (.ref b262), .val (.int (1 : Int32)), .val (.int (1 : Int32)), .unset] [(.int (0 : Int32))]))
                refine Go.back (fun t k => XS.iload Y340.here hx rfl (hb hby at_244) rfl  k) ?_
                show Go p.tables e below (P0 Z p0 p1 p2 p3 h0 n0 s) (T340.setTop (mkF m 246 #[.val (.int p0), .val (.int p1), .val (.int p2), .val (.int p3), .val (.int (2 : Int32)), .val (.int z223), .val (.int z226), .val (.int z229), .val (.ref b230), .val (.ref b247), .val (.ref b262), .val (.int (1 : Int32)), .val (.int (1 : Int32)), .unset] [(.int (1 : Int32)), (.int (0 : Int32))]))
                refine Go.back (fun t k => XS.iload Y340.here hx rfl (hb hby at_246) rfl  k) ?_
                show Go p.tables e below (P0 Z p0 p1 p2 p3 h0 n0 s) (T340.setTop (mkF m 248 #[.val (.int p0), .val (.int p1), .val (.int p2), .val (.int p3), .val (.int (2 : Int32)), .val (.int z223), .val (.int z226), .val (.int z229), .val (.ref b230), .val (.ref b247), .val (.ref b262), .val (.int (1 : Int32)), .val (.int (1 : Int32)), .unset] [(.int (2 : Int32)), (.int (1 : Int32)), (.int (0 : Int32))]))
                refine Go.back (fun t k => XS.icmpYes Y340.here hx rfl (pc0 := 248) (pc' := 255) rfl (hb hby at_248) rfl (feq (by decide)).2 (by decide) (by decide) k) ?_
                show Go p.tables e below (P0 Z p0 p1 p2 p3 h0 n0 s) (T340.setTop (mkF m 255 #[.val (.int p0), .val (.int p1), .val (.int p2), .val (.int p3), .val (.int (2 : Int32)), .val (.int z223), .val (.int z226), .val (.int z229), .val (.ref b230), .val (.ref b247), .val (.ref b262), .val (.int (1 : Int32)), .val (.int (1 : Int32)), .unset] [(.int (0 : Int32))]))
                refine Go.back (fun t k => XS.iconst Y340.here hx rfl (hb hby at_255) k) ?_
                show Go p.tables e below (P0 Z p0 p1 p2 p3 h0 n0 s) (T340.setTop (mkF m 256 #[.val (.int p0), .val (.int p1), .val (.int p2), .val (.int p3), .val (.int (2 : Int32)), .val (.int z223), .val (.int z226), .val (.int z229), .val (.ref b230), .val (.ref b247), .val (.ref b262), .val (.int (1 : Int32)), .val (.int (1 : Int32)), .unset] [(.int (0 : Int32)), (.int (0 : Int32))]))
                refine Go.back (fun t k => XS.icmpNo Y340.here hx rfl (hb hby at_256) rfl (teq (by decide)).2 k) ?_
                show Go p.tables e below (P0 Z p0 p1 p2 p3 h0 n0 s) (T340.setTop (mkF m 259 #[.val (.int p0), .val (.int p1), .val (.int p2), .val (.int p3), .val (.int (2 : Int32)), .val (.int z223), .val (.int z226), .val (.int z229), .val (.ref b230), .val (.ref b247), .val (.ref b262), .val (.int (1 : Int32)), .val (.int (1 : Int32)), .unset] []))
                refine Go.back (fun t k => XS.iconst Y340.here hx rfl (hb hby at_259) k) ?_
                show Go p.tables e below (P0 Z p0 p1 p2 p3 h0 n0 s) (T340.setTop (mkF m 260 #[.val (.int p0), .val (.int p1), .val (.int p2), .val (.int p3), .val (.int (2 : Int32)), .val (.int z223), .val (.int z226), .val (.int z229), .val (.ref b230), .val (.ref b247), .val (.ref b262), .val (.int (1 : Int32)), .val (.int (1 : Int32)), .unset] [(.int (1 : Int32))]))
                refine Go.back (fun t k => XS.goto Y340.here hx rfl (pc0 := 260) (pc' := 264) rfl (hb hby at_260) (by decide) (by decide) k) ?_
                show Go p.tables e below (P0 Z p0 p1 p2 p3 h0 n0 s) (T340.setTop (mkF m 264 #[.val (.int p0), .val (.int p1), .val (.int p2), .val (.int p3), .val (.int (2 : Int32)), .val (.int z223), .val (.int z226), .val (.int z229), .val (.ref b230), .val (.ref b247), .val (.ref b262), .val (.int (1 : Int32)), .val (.int (1 : Int32)), .unset] [(.int (1 : Int32))]))
                refine Go.back (fun t k => XS.istore Y340.here hx rfl (hb hby at_264) rfl (l' := #[.val (.int p0), .val (.int p1), .val (.int p2), .val (.int p3), .val (.int (2 : Int32)), .val (.int z223), .val (.int z226), .val (.int z229), .val (.ref b230), .val (.ref b247), .val (.ref b262), .val (.int (1 : Int32)), .val (.int (1 : Int32)), .unset]) rfl k) ?_
                show Go p.tables e below (P0 Z p0 p1 p2 p3 h0 n0 s) (T340.setTop (mkF m 266 #[.val (.int p0), .val (.int p1), .val (.int p2), .val (.int p3), .val (.int (2 : Int32)), .val (.int z223), .val (.int z226), .val (.int z229), .val (.ref b230), .val (.ref b247), .val (.ref b262), .val (.int (1 : Int32)), .val (.int (1 : Int32)), .unset] []))
                refine Go.back (fun t k => XS.iload Y340.here hx rfl (hb hby at_266) rfl  k) ?_
                show Go p.tables e below (P0 Z p0 p1 p2 p3 h0 n0 s) (T340.setTop (mkF m 268 #[.val (.int p0), .val (.int p1), .val (.int p2), .val (.int p3), .val (.int (2 : Int32)), .val (.int z223), .val (.int z226), .val (.int z229), .val (.ref b230), .val (.ref b247), .val (.ref b262), .val (.int (1 : Int32)), .val (.int (1 : Int32)), .unset] [(.int (1 : Int32))]))
                refine Go.back (fun t k => XS.iload Y340.here hx rfl (hb hby at_268) rfl  k) ?_
                show Go p.tables e below (P0 Z p0 p1 p2 p3 h0 n0 s) (T340.setTop (mkF m 270 #[.val (.int p0), .val (.int p1), .val (.int p2), .val (.int p3), .val (.int (2 : Int32)), .val (.int z223), .val (.int z226), .val (.int z229), .val (.ref b230), .val (.ref b247), .val (.ref b262), .val (.int (1 : Int32)), .val (.int (1 : Int32)), .unset] [(.int (2 : Int32)), (.int (1 : Int32))]))
                refine Go.back (fun t k => XS.icmpNo Y340.here hx rfl (hb hby at_270) rfl (tlt (by decide)).2.1 k) ?_
                show Go p.tables e below (P0 Z p0 p1 p2 p3 h0 n0 s) (T340.setTop (mkF m 273 #[.val (.int p0), .val (.int p1), .val (.int p2), .val (.int p3), .val (.int (2 : Int32)), .val (.int z223), .val (.int z226), .val (.int z229), .val (.ref b230), .val (.ref b247), .val (.ref b262), .val (.int (1 : Int32)), .val (.int (1 : Int32)), .unset] []))
                refine Go.back (fun t k => XS.iload Y340.here hx rfl (hb hby at_273) rfl  k) ?_
                show Go p.tables e below (P0 Z p0 p1 p2 p3 h0 n0 s) (T340.setTop (mkF m 275 #[.val (.int p0), .val (.int p1), .val (.int p2), .val (.int p3), .val (.int (2 : Int32)), .val (.int z223), .val (.int z226), .val (.int z229), .val (.ref b230), .val (.ref b247), .val (.ref b262), .val (.int (1 : Int32)), .val (.int (1 : Int32)), .unset] [(.int (1 : Int32))]))
                refine Go.back (fun t k => XS.ifYes Y340.here hx rfl (pc0 := 275) (pc' := 283) rfl (hb hby at_275) rfl ((if0 _ _).trans (feq (by decide)).2) (by decide) (by decide) k) ?_
                show Go p.tables e below (P0 Z p0 p1 p2 p3 h0 n0 s) (T340.setTop (mkF m 283 #[.val (.int p0), .val (.int p1), .val (.int p2), .val (.int p3), .val (.int (2 : Int32)), .val (.int z223), .val (.int z226), .val (.int z229), .val (.ref b230), .val (.ref b247), .val (.ref b262), .val (.int (1 : Int32)), .val (.int (1 : Int32)), .unset] []))
                refine Go.back (fun t k => XS.iload Y340.here hx rfl (hb hby at_283) rfl  k) ?_
                show Go p.tables e below (P0 Z p0 p1 p2 p3 h0 n0 s) (T340.setTop (mkF m 285 #[.val (.int p0), .val (.int p1), .val (.int p2), .val (.int p3), .val (.int (2 : Int32)), .val (.int z223), .val (.int z226), .val (.int z229), .val (.ref b230), .val (.ref b247), .val (.ref b262), .val (.int (1 : Int32)), .val (.int (1 : Int32)), .unset] [(.int (1 : Int32))]))
                refine Go.back (fun t k => XS.iconst Y340.here hx rfl (hb hby at_285) k) ?_
                show Go p.tables e below (P0 Z p0 p1 p2 p3 h0 n0 s) (T340.setTop (mkF m 286 #[.val (.int p0), .val (.int p1), .val (.int p2), .val (.int p3), .val (.int (2 : Int32)), .val (.int z223), .val (.int z226), .val (.int z229), .val (.ref b230), .val (.ref b247), .val (.ref b262), .val (.int (1 : Int32)), .val (.int (1 : Int32)), .unset] [(.int (1 : Int32)), (.int (1 : Int32))]))
                refine Go.back (fun t k => XS.icmpNo Y340.here hx rfl (hb hby at_286) rfl (teq (by decide)).2 k) ?_
                show Go p.tables e below (P0 Z p0 p1 p2 p3 h0 n0 s) (T340.setTop (mkF m 289 #[.val (.int p0), .val (.int p1), .val (.int p2), .val (.int p3), .val (.int (2 : Int32)), .val (.int z223), .val (.int z226), .val (.int z229), .val (.ref b230), .val (.ref b247), .val (.ref b262), .val (.int (1 : Int32)), .val (.int (1 : Int32)), .unset] []))
                refine Go.back (fun t k => XS.iload Y340.here hx rfl (hb hby at_289) rfl  k) ?_
                show Go p.tables e below (P0 Z p0 p1 p2 p3 h0 n0 s) (T340.setTop (mkF m 291 #[.val (.int p0), .val (.int p1), .val (.int p2), .val (.int p3), .val (.int (2 : Int32)), .val (.int z223), .val (.int z226), .val (.int z229), .val (.ref b230), .val (.ref b247), .val (.ref b262), .val (.int (1 : Int32)), .val (.int (1 : Int32)), .unset] [(.int z226)]))
                refine Go.back (fun t k => XS.goto Y340.here hx rfl (pc0 := 291) (pc' := 296) rfl (hb hby at_291) (by decide) (by decide) k) ?_
                show Go p.tables e below (P0 Z p0 p1 p2 p3 h0 n0 s) (T340.setTop (mkF m 296 #[.val (.int p0), .val (.int p1), .val (.int p2), .val (.int p3), .val (.int (2 : Int32)), .val (.int z223), .val (.int z226), .val (.int z229), .val (.ref b230), .val (.ref b247), .val (.ref b262), .val (.int (1 : Int32)), .val (.int (1 : Int32)), .unset] [(.int z226)]))
                refine Go.back (fun t k => XS.istore Y340.here hx rfl (hb hby at_296) rfl (l' := #[.val (.int p0), .val (.int p1), .val (.int p2), .val (.int p3), .val (.int (2 : Int32)), .val (.int z223), .val (.int z226), .val (.int z229), .val (.ref b230), .val (.ref b247), .val (.ref b262), .val (.int (1 : Int32)), .val (.int (1 : Int32)), .val (.int z226)]) rfl k) ?_
                show Go p.tables e below (P0 Z p0 p1 p2 p3 h0 n0 s) (T340.setTop (mkF m 298 #[.val (.int p0), .val (.int p1), .val (.int p2), .val (.int p3), .val (.int (2 : Int32)), .val (.int z223), .val (.int z226), .val (.int z229), .val (.ref b230), .val (.ref b247), .val (.ref b262), .val (.int (1 : Int32)), .val (.int (1 : Int32)), .val (.int z226)] []))
                refine Go.back (fun t k => XS.aload Y340.here hx rfl (hb hby at_298) rfl rfl  k) ?_
                show Go p.tables e below (P0 Z p0 p1 p2 p3 h0 n0 s) (T340.setTop (mkF m 300 #[.val (.int p0), .val (.int p1), .val (.int p2), .val (.int p3), .val (.int (2 : Int32)), .val (.int z223), .val (.int z226), .val (.int z229), .val (.ref b230), .val (.ref b247), .val (.ref b262), .val (.int (1 : Int32)), .val (.int (1 : Int32)), .val (.int z226)] [(.ref b262)]))
                refine Go.back (fun t k => XS.iload Y340.here hx rfl (hb hby at_300) rfl  k) ?_
                show Go p.tables e below (P0 Z p0 p1 p2 p3 h0 n0 s) (T340.setTop (mkF m 302 #[.val (.int p0), .val (.int p1), .val (.int p2), .val (.int p3), .val (.int (2 : Int32)), .val (.int z223), .val (.int z226), .val (.int z229), .val (.ref b230), .val (.ref b247), .val (.ref b262), .val (.int (1 : Int32)), .val (.int (1 : Int32)), .val (.int z226)] [(.int z226), (.ref b262)]))
                obtain ⟨cq341, kq341, q341a, q341b, q341c⟩ := isOf hZ e340 F334
                obtain ⟨_, _, ⟨T341, L341, k341, n341⟩, -, X341, ⟨Lc341, hQ341, l341, y341, z341⟩, st341⟩ := Y340.virtualBack hx (y := (⟨"com/example/paylode/paylode/header/HeaderReader", "expect", "(C)V"⟩ : MethodName)) (z := (⟨"com/example/paylode/paylode/header/HeaderReader", "expect", "(C)V"⟩ : MethodName)) hown (mvT hZ (hw _ (List.mem_of_getElem? (i := 107) rfl))) (mvT hZ (hw _ (List.mem_of_getElem? (i := 108) rfl))) (notFace_of_selects (args := #[]) (mvT hZ (hw _ (List.mem_of_getElem? (i := 110) rfl)))) (mvT hZ (hw _ (List.mem_of_getElem? (i := 110) rfl))) (mvT hZ (hw _ (List.mem_of_getElem? (i := 109) rfl))) (by decide) (backOf (W := 0) (rm21 l Z a0 hw [] b262 z226 b247 t256b [z223, z226] zc fm (1 : Int32) h325 n0 F328 F334 F337 F338 F330 F331 F332 F333 F326 F327 g266 ne264 ne265 hcs hp hl hfm ⟨by decide, Nat.le_of_ble_eq_true rfl⟩ (by simp [f11, f7])) hZ (hw _ (List.mem_of_getElem? (i := 111) rfl)) (hw _ (List.mem_of_getElem? (i := 28) rfl)) (by decide) (by decide)) q341a q341c (g := (mkF m 302 #[.val (.int p0), .val (.int p1), .val (.int p2), .val (.int p3), .val (.int (2 : Int32)), .val (.int z223), .val (.int z226), .val (.int z229), .val (.ref b230), .val (.ref b247), .val (.ref b262), .val (.int (1 : Int32)), .val (.int (1 : Int32)), .val (.int z226)] [(.int z226), (.ref b262)])) rfl (by rw [hml]; rfl) (Steps.refl _) (argsL := [(.int z226)]) (rest := []) (lenOf pd_8 rfl) rfl (by show 2 * 0 + _ ≤ _; exact Nat.le_of_eq rfl) (hb hby at_302) (fun _ _ => ⟨rfl, e340, (by decide : 6 + 0 ≤ _), (by decide : 35 + 0 ≤ _)⟩)
                dsimp only [Pt.U, Pt.locs, Pt.cells, Pt.slots] at X341 l341 y341 z341 st341 hQ341
                subst l341 y341 z341
                obtain ⟨h341, e341⟩ : ∃ z, T341.heap = z := ⟨_, rfl⟩
                rw [e341] at hQ341
                obtain ⟨rfl, N341q, K341, F352, F353⟩ := hQ341
                obtain ⟨Lo341, Y341, N341⟩ := pk X341 (Fr.app N340 N341q)
                have F342 : Sta Z h341 "java/lang/String" "COMPACT_STRINGS" "Z" (.int zc) := sta_keep F326 K341 (noSS (noS_exa F334) noS0)
                have F343 : Sta Z h341 "jdk/internal/util/Preconditions" "SIOOBE_FORMATTER" "Ljava/util/function/BiFunction;" fm := sta_keep F327 K341 (noSS (noS_exa F334) noS0)
                have F344 : n0 ≤ h341.size := Nat.le_trans F328 K341.1
                have F345 : ArL Z h341 b230 .char [(.int z223), (.int z226)] := F329.keep K341 (ninS ne263 nin0)
                have F346 : Exa Z h341 b247 "java/lang/String" := F330.keep K341
                have F347 : Fld Z h341 b247 "java/lang/String" "coder" "B" (.int (0 : Int32)) := F331.keep K341 (ninS ne264 nin0)
                have F348 : Fld Z h341 b247 "java/lang/String" "value" "[B" (.ref t256b) := F332.keep K341 (ninS ne264 nin0)
                have F349 : ArL Z h341 t256b .byte (List.map Value.int (List.map StrChars.lo8 [z223, z226])) := F333.keep K341 (ninS ne265 nin0)
                have F350 : Exa Z h341 b262 "com/example/paylode/paylode/header/HeaderReader" := F334.keep K341
                have F351 : kV ≤ h341.size := Nat.le_trans F335 K341.1
                refine Go.trans st341 ?_
                show Go p.tables e below (P0 Z p0 p1 p2 p3 h0 n0 s) (T341.setTop (mkF m 305 #[.val (.int p0), .val (.int p1), .val (.int p2), .val (.int p3), .val (.int (2 : Int32)), .val (.int z223), .val (.int z226), .val (.int z229), .val (.ref b230), .val (.ref b247), .val (.ref b262), .val (.int (1 : Int32)), .val (.int (1 : Int32)), .val (.int z226)] []))
                have F354 : Fld Z h341 b262 "com/example/paylode/paylode/header/HeaderReader" "position" "I" (.int (2 : Int32)) := by
                  have q := F352
                  rw [show ((1 : Int32) + (1 : Int32)) = (2 : Int32) from by decide] at q
                  exact q
                refine Go.back (fun t k => XS.iload Y341.here hx rfl (hb hby at_305) rfl  k) ?_
                show Go p.tables e below (P0 Z p0 p1 p2 p3 h0 n0 s) (T341.setTop (mkF m 307 #[.val (.int p0), .val (.int p1), .val (.int p2), .val (.int p3), .val (.int (2 : Int32)), .val (.int z223), .val (.int z226), .val (.int z229), .val (.ref b230), .val (.ref b247), .val (.ref b262), .val (.int (1 : Int32)), .val (.int (1 : Int32)), .val (.int z226)] [(.int (1 : Int32))]))
                refine Go.back (fun t k => XS.ifNo Y341.here hx rfl (hb hby at_307) rfl ((if0 _ _).trans (feq (by decide)).1) k) ?_
                show Go p.tables e below (P0 Z p0 p1 p2 p3 h0 n0 s) (T341.setTop (mkF m 310 #[.val (.int p0), .val (.int p1), .val (.int p2), .val (.int p3), .val (.int (2 : Int32)), .val (.int z223), .val (.int z226), .val (.int z229), .val (.ref b230), .val (.ref b247), .val (.ref b262), .val (.int (1 : Int32)), .val (.int (1 : Int32)), .val (.int z226)] []))
                refine Go.back (fun t k => XS.aload Y341.here hx rfl (hb hby at_310) rfl rfl  k) ?_
                show Go p.tables e below (P0 Z p0 p1 p2 p3 h0 n0 s) (T341.setTop (mkF m 312 #[.val (.int p0), .val (.int p1), .val (.int p2), .val (.int p3), .val (.int (2 : Int32)), .val (.int z223), .val (.int z226), .val (.int z229), .val (.ref b230), .val (.ref b247), .val (.ref b262), .val (.int (1 : Int32)), .val (.int (1 : Int32)), .val (.int z226)] [(.ref b262)]))
                obtain ⟨cq355, kq355, q355a, q355b, q355c⟩ := isOf hZ e341 F350
                obtain ⟨_, _, ⟨T355, L355, k355, n355⟩, -, X355, ⟨Lc355, hQ355, l355, y355, z355⟩, st355⟩ := Y341.virtualBack hx (y := (⟨"com/example/paylode/paylode/header/HeaderReader", "position", "()I"⟩ : MethodName)) (z := (⟨"com/example/paylode/paylode/header/HeaderReader", "position", "()I"⟩ : MethodName)) hown (mvT hZ (hw _ (List.mem_of_getElem? (i := 38) rfl))) (mvT hZ (hw _ (List.mem_of_getElem? (i := 39) rfl))) (notFace_of_selects (args := #[]) (mvT hZ (hw _ (List.mem_of_getElem? (i := 41) rfl)))) (mvT hZ (hw _ (List.mem_of_getElem? (i := 41) rfl))) (mvT hZ (hw _ (List.mem_of_getElem? (i := 40) rfl))) (by decide) (backOf (W := 0) (rm6 l Z a0 hw [] b262 (2 : Int32) h341 n0 F344 F354) hZ (hw _ (List.mem_of_getElem? (i := 42) rfl)) (hw _ (List.mem_of_getElem? (i := 28) rfl)) (by decide) (by decide)) q355a q355c (g := (mkF m 312 #[.val (.int p0), .val (.int p1), .val (.int p2), .val (.int p3), .val (.int (2 : Int32)), .val (.int z223), .val (.int z226), .val (.int z229), .val (.ref b230), .val (.ref b247), .val (.ref b262), .val (.int (1 : Int32)), .val (.int (1 : Int32)), .val (.int z226)] [(.ref b262)])) rfl (by rw [hml]; rfl) (Steps.refl _) (argsL := []) (rest := []) (lenOf pd_0 rfl) rfl (by show 2 * 0 + _ ≤ _; exact Nat.le_of_eq rfl) (hb hby at_312) (fun _ _ => ⟨rfl, e341, (by decide : 6 + 0 ≤ _), (by decide : 35 + 0 ≤ _)⟩)
                dsimp only [Pt.U, Pt.locs, Pt.cells, Pt.slots] at X355 l355 y355 z355 st355 hQ355
                subst l355 y355 z355
                obtain ⟨rfl, N355q, e355⟩ := hQ355
                obtain ⟨Lo355, Y355, N355⟩ := pk X355 (Fr.app N341 N355q)
                refine Go.trans st355 ?_
                show Go p.tables e below (P0 Z p0 p1 p2 p3 h0 n0 s) (T355.setTop (mkF m 315 #[.val (.int p0), .val (.int p1), .val (.int p2), .val (.int p3), .val (.int (2 : Int32)), .val (.int z223), .val (.int z226), .val (.int z229), .val (.ref b230), .val (.ref b247), .val (.ref b262), .val (.int (1 : Int32)), .val (.int (1 : Int32)), .val (.int z226)] [(.int (2 : Int32))]))
                refine Go.back (fun t k => XS.iload Y355.here hx rfl (hb hby at_315) rfl  k) ?_
                show Go p.tables e below (P0 Z p0 p1 p2 p3 h0 n0 s) (T355.setTop (mkF m 317 #[.val (.int p0), .val (.int p1), .val (.int p2), .val (.int p3), .val (.int (2 : Int32)), .val (.int z223), .val (.int z226), .val (.int z229), .val (.ref b230), .val (.ref b247), .val (.ref b262), .val (.int (1 : Int32)), .val (.int (1 : Int32)), .val (.int z226)] [(.int (1 : Int32)), (.int (2 : Int32))]))
                refine Go.back (fun t k => XS.iconst Y355.here hx rfl (hb hby at_317) k) ?_
                show Go p.tables e below (P0 Z p0 p1 p2 p3 h0 n0 s) (T355.setTop (mkF m 318 #[.val (.int p0), .val (.int p1), .val (.int p2), .val (.int p3), .val (.int (2 : Int32)), .val (.int z223), .val (.int z226), .val (.int z229), .val (.ref b230), .val (.ref b247), .val (.ref b262), .val (.int (1 : Int32)), .val (.int (1 : Int32)), .val (.int z226)] [(.int (1 : Int32)), (.int (1 : Int32)), (.int (2 : Int32))]))
                refine Go.back (fun t k => XS.iadd Y355.here hx rfl (hb hby at_318) rfl k) ?_
                show Go p.tables e below (P0 Z p0 p1 p2 p3 h0 n0 s) (T355.setTop (mkF m 319 #[.val (.int p0), .val (.int p1), .val (.int p2), .val (.int p3), .val (.int (2 : Int32)), .val (.int z223), .val (.int z226), .val (.int z229), .val (.ref b230), .val (.ref b247), .val (.ref b262), .val (.int (1 : Int32)), .val (.int (1 : Int32)), .val (.int z226)] [(.int ((1 : Int32) + (1 : Int32))), (.int (2 : Int32))]))
                rw [show ((1 : Int32) + (1 : Int32)) = (2 : Int32) from by decide]
                refine Go.back (fun t k => XS.icmpNo Y355.here hx rfl (hb hby at_319) rfl (teq (by decide)).2 k) ?_
                show Go p.tables e below (P0 Z p0 p1 p2 p3 h0 n0 s) (T355.setTop (mkF m 322 #[.val (.int p0), .val (.int p1), .val (.int p2), .val (.int p3), .val (.int (2 : Int32)), .val (.int z223), .val (.int z226), .val (.int z229), .val (.ref b230), .val (.ref b247), .val (.ref b262), .val (.int (1 : Int32)), .val (.int (1 : Int32)), .val (.int z226)] []))
                refine Go.back (fun t k => XS.aload Y355.here hx rfl (hb hby at_322) rfl rfl  k) ?_
                show Go p.tables e below (P0 Z p0 p1 p2 p3 h0 n0 s) (T355.setTop (mkF m 324 #[.val (.int p0), .val (.int p1), .val (.int p2), .val (.int p3), .val (.int (2 : Int32)), .val (.int z223), .val (.int z226), .val (.int z229), .val (.ref b230), .val (.ref b247), .val (.ref b262), .val (.int (1 : Int32)), .val (.int (1 : Int32)), .val (.int z226)] [(.ref b262)]))
                obtain ⟨cq356, kq356, q356a, q356b, q356c⟩ := isOf hZ e355 F350
                obtain ⟨_, _, ⟨T356, L356, k356, n356⟩, -, X356, ⟨Lc356, hQ356, l356, y356, z356⟩, st356⟩ := Y355.virtualBack hx (y := (⟨"com/example/paylode/paylode/header/HeaderReader", "atEnd", "()Z"⟩ : MethodName)) (z := (⟨"com/example/paylode/paylode/header/HeaderReader", "atEnd", "()Z"⟩ : MethodName)) hown (mvT hZ (hw _ (List.mem_of_getElem? (i := 45) rfl))) (mvT hZ (hw _ (List.mem_of_getElem? (i := 46) rfl))) (notFace_of_selects (args := #[]) (mvT hZ (hw _ (List.mem_of_getElem? (i := 48) rfl)))) (mvT hZ (hw _ (List.mem_of_getElem? (i := 48) rfl))) (mvT hZ (hw _ (List.mem_of_getElem? (i := 47) rfl))) (by decide) (backOf (W := 0) (rm7 l Z a0 hw [] b262 b247 t256b [z223, z226] zc fm (2 : Int32) h341 n0 F344 F350 F353 F354 F346 F347 F348 F349 F342 F343 hcs hp hl hfm) hZ (hw _ (List.mem_of_getElem? (i := 49) rfl)) (hw _ (List.mem_of_getElem? (i := 28) rfl)) (by decide) (by decide)) q356a q356c (g := (mkF m 324 #[.val (.int p0), .val (.int p1), .val (.int p2), .val (.int p3), .val (.int (2 : Int32)), .val (.int z223), .val (.int z226), .val (.int z229), .val (.ref b230), .val (.ref b247), .val (.ref b262), .val (.int (1 : Int32)), .val (.int (1 : Int32)), .val (.int z226)] [(.ref b262)])) rfl (by rw [hml]; rfl) (Steps.refl _) (argsL := []) (rest := []) (lenOf pd_1 rfl) rfl (by show 2 * 0 + _ ≤ _; exact Nat.le_of_eq rfl) (hb hby at_324) (fun _ _ => ⟨rfl, e355, (by decide : 6 + 0 ≤ _), (by decide : 35 + 0 ≤ _)⟩)
                dsimp only [Pt.U, Pt.locs, Pt.cells, Pt.slots] at X356 l356 y356 z356 st356 hQ356
                subst l356 y356 z356
                obtain ⟨rfl, N356q, e356⟩ := hQ356
                obtain ⟨Lo356, Y356, N356⟩ := pk X356 (Fr.app N355 N356q)
                refine Go.trans st356 ?_
                rw [show (f7 [z223, z226] (2 : Int32)) = true from by first | rfl | simp [f7]]
                show Go p.tables e below (P0 Z p0 p1 p2 p3 h0 n0 s) (T356.setTop (mkF m 327 #[.val (.int p0), .val (.int p1), .val (.int p2), .val (.int p3), .val (.int (2 : Int32)), .val (.int z223), .val (.int z226), .val (.int z229), .val (.ref b230), .val (.ref b247), .val (.ref b262), .val (.int (1 : Int32)), .val (.int (1 : Int32)), .val (.int z226)] [(.int (1 : Int32))]))
                refine Go.back (fun t k => XS.iload Y356.here hx rfl (hb hby at_327) rfl  k) ?_
                show Go p.tables e below (P0 Z p0 p1 p2 p3 h0 n0 s) (T356.setTop (mkF m 329 #[.val (.int p0), .val (.int p1), .val (.int p2), .val (.int p3), .val (.int (2 : Int32)), .val (.int z223), .val (.int z226), .val (.int z229), .val (.ref b230), .val (.ref b247), .val (.ref b262), .val (.int (1 : Int32)), .val (.int (1 : Int32)), .val (.int z226)] [(.int (1 : Int32)), (.int (1 : Int32))]))
                refine Go.back (fun t k => XS.iconst Y356.here hx rfl (hb hby at_329) k) ?_
                show Go p.tables e below (P0 Z p0 p1 p2 p3 h0 n0 s) (T356.setTop (mkF m 330 #[.val (.int p0), .val (.int p1), .val (.int p2), .val (.int p3), .val (.int (2 : Int32)), .val (.int z223), .val (.int z226), .val (.int z229), .val (.ref b230), .val (.ref b247), .val (.ref b262), .val (.int (1 : Int32)), .val (.int (1 : Int32)), .val (.int z226)] [(.int (1 : Int32)), (.int (1 : Int32)), (.int (1 : Int32))]))
                refine Go.back (fun t k => XS.iadd Y356.here hx rfl (hb hby at_330) rfl k) ?_
                show Go p.tables e below (P0 Z p0 p1 p2 p3 h0 n0 s) (T356.setTop (mkF m 331 #[.val (.int p0), .val (.int p1), .val (.int p2), .val (.int p3), .val (.int (2 : Int32)), .val (.int z223), .val (.int z226), .val (.int z229), .val (.ref b230), .val (.ref b247), .val (.ref b262), .val (.int (1 : Int32)), .val (.int (1 : Int32)), .val (.int z226)] [(.int ((1 : Int32) + (1 : Int32))), (.int (1 : Int32))]))
                rw [show ((1 : Int32) + (1 : Int32)) = (2 : Int32) from by decide]
                refine Go.back (fun t k => XS.iload Y356.here hx rfl (hb hby at_331) rfl  k) ?_
                show Go p.tables e below (P0 Z p0 p1 p2 p3 h0 n0 s) (T356.setTop (mkF m 333 #[.val (.int p0), .val (.int p1), .val (.int p2), .val (.int p3), .val (.int (2 : Int32)), .val (.int z223), .val (.int z226), .val (.int z229), .val (.ref b230), .val (.ref b247), .val (.ref b262), .val (.int (1 : Int32)), .val (.int (1 : Int32)), .val (.int z226)] [(.int (2 : Int32)), (.int (2 : Int32)), (.int (1 : Int32))]))
                refine Go.back (fun t k => XS.icmpNo Y356.here hx rfl (hb hby at_333) rfl (teq (by decide)).2 k) ?_
                show Go p.tables e below (P0 Z p0 p1 p2 p3 h0 n0 s) (T356.setTop (mkF m 336 #[.val (.int p0), .val (.int p1), .val (.int p2), .val (.int p3), .val (.int (2 : Int32)), .val (.int z223), .val (.int z226), .val (.int z229), .val (.ref b230), .val (.ref b247), .val (.ref b262), .val (.int (1 : Int32)), .val (.int (1 : Int32)), .val (.int z226)] [(.int (1 : Int32))]))
                refine Go.back (fun t k => XS.iconst Y356.here hx rfl (hb hby at_336) k) ?_
                show Go p.tables e below (P0 Z p0 p1 p2 p3 h0 n0 s) (T356.setTop (mkF m 337 #[.val (.int p0), .val (.int p1), .val (.int p2), .val (.int p3), .val (.int (2 : Int32)), .val (.int z223), .val (.int z226), .val (.int z229), .val (.ref b230), .val (.ref b247), .val (.ref b262), .val (.int (1 : Int32)), .val (.int (1 : Int32)), .val (.int z226)] [(.int (1 : Int32)), (.int (1 : Int32))]))
                refine Go.back (fun t k => XS.goto Y356.here hx rfl (pc0 := 337) (pc' := 341) rfl (hb hby at_337) (by decide) (by decide) k) ?_
                show Go p.tables e below (P0 Z p0 p1 p2 p3 h0 n0 s) (T356.setTop (mkF m 341 #[.val (.int p0), .val (.int p1), .val (.int p2), .val (.int p3), .val (.int (2 : Int32)), .val (.int z223), .val (.int z226), .val (.int z229), .val (.ref b230), .val (.ref b247), .val (.ref b262), .val (.int (1 : Int32)), .val (.int (1 : Int32)), .val (.int z226)] [(.int (1 : Int32)), (.int (1 : Int32))]))
                refine Go.back (fun t k => XS.icmpNo Y356.here hx rfl (hb hby at_341) rfl (teq (by decide)).2 k) ?_
                show Go p.tables e below (P0 Z p0 p1 p2 p3 h0 n0 s) (T356.setTop (mkF m 344 #[.val (.int p0), .val (.int p1), .val (.int p2), .val (.int p3), .val (.int (2 : Int32)), .val (.int z223), .val (.int z226), .val (.int z229), .val (.ref b230), .val (.ref b247), .val (.ref b262), .val (.int (1 : Int32)), .val (.int (1 : Int32)), .val (.int z226)] []))
                refine Go.back (fun t k => XS.iconst Y356.here hx rfl (hb hby at_344) k) ?_
                show Go p.tables e below (P0 Z p0 p1 p2 p3 h0 n0 s) (T356.setTop (mkF m 345 #[.val (.int p0), .val (.int p1), .val (.int p2), .val (.int p3), .val (.int (2 : Int32)), .val (.int z223), .val (.int z226), .val (.int z229), .val (.ref b230), .val (.ref b247), .val (.ref b262), .val (.int (1 : Int32)), .val (.int (1 : Int32)), .val (.int z226)] [(.int (1 : Int32))]))
                refine Go.back (fun t k => XS.goto Y356.here hx rfl (pc0 := 345) (pc' := 349) rfl (hb hby at_345) (by decide) (by decide) k) ?_
                show Go p.tables e below (P0 Z p0 p1 p2 p3 h0 n0 s) (T356.setTop (mkF m 349 #[.val (.int p0), .val (.int p1), .val (.int p2), .val (.int p3), .val (.int (2 : Int32)), .val (.int z223), .val (.int z226), .val (.int z229), .val (.ref b230), .val (.ref b247), .val (.ref b262), .val (.int (1 : Int32)), .val (.int (1 : Int32)), .val (.int z226)] [(.int (1 : Int32))]))
                refine Go.back (fun t k => XS.istore Y356.here hx rfl (hb hby at_349) rfl (l' := #[.val (.int p0), .val (.int p1), .val (.int p2), .val (.int p3), .val (.int (2 : Int32)), .val (.int z223), .val (.int z226), .val (.int z229), .val (.ref b230), .val (.ref b247), .val (.ref b262), .val (.int (1 : Int32)), .val (.int (1 : Int32)), .val (.int z226)]) rfl k) ?_
                show Go p.tables e below (P0 Z p0 p1 p2 p3 h0 n0 s) (T356.setTop (mkF m 351 #[.val (.int p0), .val (.int p1), .val (.int p2), .val (.int p3), .val (.int (2 : Int32)), .val (.int z223), .val (.int z226), .val (.int z229), .val (.ref b230), .val (.ref b247), .val (.ref b262), .val (.int (1 : Int32)), .val (.int (1 : Int32)), .val (.int z226)] []))
                refine Go.back (fun t k => XS.iload Y356.here hx rfl (hb hby at_351) rfl  k) ?_
                show Go p.tables e below (P0 Z p0 p1 p2 p3 h0 n0 s) (T356.setTop (mkF m 353 #[.val (.int p0), .val (.int p1), .val (.int p2), .val (.int p3), .val (.int (2 : Int32)), .val (.int z223), .val (.int z226), .val (.int z229), .val (.ref b230), .val (.ref b247), .val (.ref b262), .val (.int (1 : Int32)), .val (.int (1 : Int32)), .val (.int z226)] [(.int (1 : Int32))]))
                exact Go.retBW (s := s) (vm0 := TV.vm) (b := true) (Qa := Q0 Z p0 p1 p2 p3 h0 n0) (Qb := fun vm h => True) Y356 hx hSV (by rw [e356]; exact F351) Bd.returns (hb hby at_353) Bd.notSynchronized ⟨rfl, N356⟩ trivial (by decide) (by decide)
            · refine Go.back (fun t k => XS.ifYes Y305.here hx rfl (pc0 := 167) (pc' := 216) rfl (hb hby at_167) rfl ((if0 _ _).trans (teq (b2i_f hc306)).1) (by decide) (by decide) k) ?_
              show Go p.tables e below (P0 Z p0 p1 p2 p3 h0 n0 s) (T305.setTop (mkF m 216 #[.val (.int p0), .val (.int p1), .val (.int p2), .val (.int p3), .val (.int (2 : Int32)), .val (.int z223), .val (.int z226), .val (.int z229), .val (.ref b230), .val (.ref b247), .val (.ref b262), .val (.int (1 : Int32)), .unset, .unset] []))
              refine Go.back (fun t k => XS.iconst Y305.here hx rfl (hb hby at_216) k) ?_
              show Go p.tables e below (P0 Z p0 p1 p2 p3 h0 n0 s) (T305.setTop (mkF m 217 #[.val (.int p0), .val (.int p1), .val (.int p2), .val (.int p3), .val (.int (2 : Int32)), .val (.int z223), .val (.int z226), .val (.int z229), .val (.ref b230), .val (.ref b247), .val (.ref b262), .val (.int (1 : Int32)), .unset, .unset] [(.int (0 : Int32))]))
              refine Go.back (fun t k => XS.istore Y305.here hx rfl (hb hby at_217) rfl (l' := #[.val (.int p0), .val (.int p1), .val (.int p2), .val (.int p3), .val (.int (2 : Int32)), .val (.int z223), .val (.int z226), .val (.int z229), .val (.ref b230), .val (.ref b247), .val (.ref b262), .val (.int (1 : Int32)), .val (.int (0 : Int32)), .unset]) rfl k) ?_
              show Go p.tables e below (P0 Z p0 p1 p2 p3 h0 n0 s) (T305.setTop (mkF m 219 #[.val (.int p0), .val (.int p1), .val (.int p2), .val (.int p3), .val (.int (2 : Int32)), .val (.int z223), .val (.int z226), .val (.int z229), .val (.ref b230), .val (.ref b247), .val (.ref b262), .val (.int (1 : Int32)), .val (.int (0 : Int32)), .unset] []))
              refine Go.back (fun t k => XS.aload Y305.here hx rfl (hb hby at_219) rfl rfl  k) ?_
              show Go p.tables e below (P0 Z p0 p1 p2 p3 h0 n0 s) (T305.setTop (mkF m 221 #[.val (.int p0), .val (.int p1), .val (.int p2), .val (.int p3), .val (.int (2 : Int32)), .val (.int z223), .val (.int z226), .val (.int z229), .val (.ref b230), .val (.ref b247), .val (.ref b262), .val (.int (1 : Int32)), .val (.int (0 : Int32)), .unset] [(.ref b262)]))
              obtain ⟨cq357, kq357, q357a, q357b, q357c⟩ := isOf hZ e305 F299
              obtain ⟨_, _, ⟨T357, L357, k357, n357⟩, -, X357, ⟨Lc357, hQ357, l357, y357, z357⟩, st357⟩ := Y305.virtualBack hx (y := (⟨"com/example/paylode/paylode/header/HeaderReader", "skipWhitespace", "()V"⟩ : MethodName)) (z := (⟨"com/example/paylode/paylode/header/HeaderReader", "skipWhitespace", "()V"⟩ : MethodName)) hown (mvT hZ (hw _ (List.mem_of_getElem? (i := 61) rfl))) (mvT hZ (hw _ (List.mem_of_getElem? (i := 62) rfl))) (notFace_of_selects (args := #[]) (mvT hZ (hw _ (List.mem_of_getElem? (i := 64) rfl)))) (mvT hZ (hw _ (List.mem_of_getElem? (i := 64) rfl))) (mvT hZ (hw _ (List.mem_of_getElem? (i := 63) rfl))) (by decide) (backOf (W := 0) (rm10 l Z a0 hw [] b262 b247 t256b [z223, z226] zc fm h290 n0 F293 F299 F302 F301 F295 F296 F297 F298 F291 F292 g266 ne264 ne265 hcs hp hl hfm) hZ (hw _ (List.mem_of_getElem? (i := 65) rfl)) (hw _ (List.mem_of_getElem? (i := 28) rfl)) (by decide) (by decide)) q357a q357c (g := (mkF m 221 #[.val (.int p0), .val (.int p1), .val (.int p2), .val (.int p3), .val (.int (2 : Int32)), .val (.int z223), .val (.int z226), .val (.int z229), .val (.ref b230), .val (.ref b247), .val (.ref b262), .val (.int (1 : Int32)), .val (.int (0 : Int32)), .unset] [(.ref b262)])) rfl (by rw [hml]; rfl) (Steps.refl _) (argsL := []) (rest := []) (lenOf pd_7 rfl) rfl (by show 2 * 0 + _ ≤ _; exact Nat.le_of_eq rfl) (hb hby at_221) (fun _ _ => ⟨rfl, e305, (by decide : 6 + 0 ≤ _), (by decide : 35 + 0 ≤ _)⟩)
              dsimp only [Pt.U, Pt.locs, Pt.cells, Pt.slots] at X357 l357 y357 z357 st357 hQ357
              subst l357 y357 z357
              obtain ⟨h357, e357⟩ : ∃ z, T357.heap = z := ⟨_, rfl⟩
              rw [e357] at hQ357
              obtain ⟨rfl, N357q, K357, F368, F369⟩ := hQ357
              obtain ⟨Lo357, Y357, N357⟩ := pk X357 (Fr.app N305 N357q)
              have F358 : Sta Z h357 "java/lang/String" "COMPACT_STRINGS" "Z" (.int zc) := sta_keep F291 K357 (noSS (noS_exa F299) noS0)
              have F359 : Sta Z h357 "jdk/internal/util/Preconditions" "SIOOBE_FORMATTER" "Ljava/util/function/BiFunction;" fm := sta_keep F292 K357 (noSS (noS_exa F299) noS0)
              have F360 : n0 ≤ h357.size := Nat.le_trans F293 K357.1
              have F361 : ArL Z h357 b230 .char [(.int z223), (.int z226)] := F294.keep K357 (ninS ne263 nin0)
              have F362 : Exa Z h357 b247 "java/lang/String" := F295.keep K357
              have F363 : Fld Z h357 b247 "java/lang/String" "coder" "B" (.int (0 : Int32)) := F296.keep K357 (ninS ne264 nin0)
              have F364 : Fld Z h357 b247 "java/lang/String" "value" "[B" (.ref t256b) := F297.keep K357 (ninS ne264 nin0)
              have F365 : ArL Z h357 t256b .byte (List.map Value.int (List.map StrChars.lo8 [z223, z226])) := F298.keep K357 (ninS ne265 nin0)
              have F366 : Exa Z h357 b262 "com/example/paylode/paylode/header/HeaderReader" := F299.keep K357
              have F367 : kV ≤ h357.size := Nat.le_trans F300 K357.1
              refine Go.trans st357 ?_
              show Go p.tables e below (P0 Z p0 p1 p2 p3 h0 n0 s) (T357.setTop (mkF m 224 #[.val (.int p0), .val (.int p1), .val (.int p2), .val (.int p3), .val (.int (2 : Int32)), .val (.int z223), .val (.int z226), .val (.int z229), .val (.ref b230), .val (.ref b247), .val (.ref b262), .val (.int (1 : Int32)), .val (.int (0 : Int32)), .unset] []))
              have F370 : Fld Z h357 b262 "com/example/paylode/paylode/header/HeaderReader" "position" "I" (.int (0 : Int32)) := by
                have q := F368
                rw [show (g10_1 [z223, z226]) = (0 : Int32) from own_sk_2_0 hc306] at q
                exact q
              refine Go.back (fun t k => XS.iload Y357.here hx rfl (hb hby at_224) rfl  k) ?_
              show Go p.tables e below (P0 Z p0 p1 p2 p3 h0 n0 s) (T357.setTop (mkF m 226 #[.val (.int p0), .val (.int p1), .val (.int p2), .val (.int p3), .val (.int (2 : Int32)), .val (.int z223), .val (.int z226), .val (.int z229), .val (.ref b230), .val (.ref b247), .val (.ref b262), .val (.int (1 : Int32)), .val (.int (0 : Int32)), .unset] [(.int (1 : Int32))]))
              refine Go.back (fun t k => XS.ifNo Y357.here hx rfl (hb hby at_226) rfl ((if0 _ _).trans (feq (by decide)).1) k) ?_
              show Go p.tables e below (P0 Z p0 p1 p2 p3 h0 n0 s) (T357.setTop (mkF m 229 #[.val (.int p0), .val (.int p1), .val (.int p2), .val (.int p3), .val (.int (2 : Int32)), .val (.int z223), .val (.int z226), .val (.int z229), .val (.ref b230), .val (.ref b247), .val (.ref b262), .val (.int (1 : Int32)), .val (.int (0 : Int32)), .unset] []))
              refine Go.back (fun t k => XS.aload Y357.here hx rfl (hb hby at_229) rfl rfl  k) ?_
              show Go p.tables e below (P0 Z p0 p1 p2 p3 h0 n0 s) (T357.setTop (mkF m 231 #[.val (.int p0), .val (.int p1), .val (.int p2), .val (.int p3), .val (.int (2 : Int32)), .val (.int z223), .val (.int z226), .val (.int z229), .val (.ref b230), .val (.ref b247), .val (.ref b262), .val (.int (1 : Int32)), .val (.int (0 : Int32)), .unset] [(.ref b262)]))
              obtain ⟨cq371, kq371, q371a, q371b, q371c⟩ := isOf hZ e357 F366
              obtain ⟨_, _, ⟨T371, L371, k371, n371⟩, -, X371, ⟨Lc371, hQ371, l371, y371, z371⟩, st371⟩ := Y357.virtualBack hx (y := (⟨"com/example/paylode/paylode/header/HeaderReader", "position", "()I"⟩ : MethodName)) (z := (⟨"com/example/paylode/paylode/header/HeaderReader", "position", "()I"⟩ : MethodName)) hown (mvT hZ (hw _ (List.mem_of_getElem? (i := 38) rfl))) (mvT hZ (hw _ (List.mem_of_getElem? (i := 39) rfl))) (notFace_of_selects (args := #[]) (mvT hZ (hw _ (List.mem_of_getElem? (i := 41) rfl)))) (mvT hZ (hw _ (List.mem_of_getElem? (i := 41) rfl))) (mvT hZ (hw _ (List.mem_of_getElem? (i := 40) rfl))) (by decide) (backOf (W := 0) (rm6 l Z a0 hw [] b262 (0 : Int32) h357 n0 F360 F370) hZ (hw _ (List.mem_of_getElem? (i := 42) rfl)) (hw _ (List.mem_of_getElem? (i := 28) rfl)) (by decide) (by decide)) q371a q371c (g := (mkF m 231 #[.val (.int p0), .val (.int p1), .val (.int p2), .val (.int p3), .val (.int (2 : Int32)), .val (.int z223), .val (.int z226), .val (.int z229), .val (.ref b230), .val (.ref b247), .val (.ref b262), .val (.int (1 : Int32)), .val (.int (0 : Int32)), .unset] [(.ref b262)])) rfl (by rw [hml]; rfl) (Steps.refl _) (argsL := []) (rest := []) (lenOf pd_0 rfl) rfl (by show 2 * 0 + _ ≤ _; exact Nat.le_of_eq rfl) (hb hby at_231) (fun _ _ => ⟨rfl, e357, (by decide : 6 + 0 ≤ _), (by decide : 35 + 0 ≤ _)⟩)
              dsimp only [Pt.U, Pt.locs, Pt.cells, Pt.slots] at X371 l371 y371 z371 st371 hQ371
              subst l371 y371 z371
              obtain ⟨rfl, N371q, e371⟩ := hQ371
              obtain ⟨Lo371, Y371, N371⟩ := pk X371 (Fr.app N357 N371q)
              refine Go.trans st371 ?_
              show Go p.tables e below (P0 Z p0 p1 p2 p3 h0 n0 s) (T371.setTop (mkF m 234 #[.val (.int p0), .val (.int p1), .val (.int p2), .val (.int p3), .val (.int (2 : Int32)), .val (.int z223), .val (.int z226), .val (.int z229), .val (.ref b230), .val (.ref b247), .val (.ref b262), .val (.int (1 : Int32)), .val (.int (0 : Int32)), .unset] [(.int (0 : Int32))]))
              refine Go.back (fun t k => XS.iload Y371.here hx rfl (hb hby at_234) rfl  k) ?_
              show Go p.tables e below (P0 Z p0 p1 p2 p3 h0 n0 s) (T371.setTop (mkF m 236 #[.val (.int p0), .val (.int p1), .val (.int p2), .val (.int p3), .val (.int (2 : Int32)), .val (.int z223), .val (.int z226), .val (.int z229), .val (.ref b230), .val (.ref b247), .val (.ref b262), .val (.int (1 : Int32)), .val (.int (0 : Int32)), .unset] [(.int (0 : Int32)), (.int (0 : Int32))]))
              refine Go.back (fun t k => XS.icmpNo Y371.here hx rfl (hb hby at_236) rfl (teq (by decide)).2 k) ?_
              show Go p.tables e below (P0 Z p0 p1 p2 p3 h0 n0 s) (T371.setTop (mkF m 239 #[.val (.int p0), .val (.int p1), .val (.int p2), .val (.int p3), .val (.int (2 : Int32)), .val (.int z223), .val (.int z226), .val (.int z229), .val (.ref b230), .val (.ref b247), .val (.ref b262), .val (.int (1 : Int32)), .val (.int (0 : Int32)), .unset] []))
              refine Go.back (fun t k => XS.aload Y371.here hx rfl (hb hby at_239) rfl rfl  k) ?_
              show Go p.tables e below (P0 Z p0 p1 p2 p3 h0 n0 s) (T371.setTop (mkF m 241 #[.val (.int p0), .val (.int p1), .val (.int p2), .val (.int p3), .val (.int (2 : Int32)), .val (.int z223), .val (.int z226), .val (.int z229), .val (.ref b230), .val (.ref b247), .val (.ref b262), .val (.int (1 : Int32)), .val (.int (0 : Int32)), .unset] [(.ref b262)]))
              obtain ⟨cq372, kq372, q372a, q372b, q372c⟩ := isOf hZ e371 F366
              obtain ⟨_, _, ⟨T372, L372, k372, n372⟩, -, X372, ⟨Lc372, hQ372, l372, y372, z372⟩, st372⟩ := Y371.virtualBack hx (y := (⟨"com/example/paylode/paylode/header/HeaderReader", "atEnd", "()Z"⟩ : MethodName)) (z := (⟨"com/example/paylode/paylode/header/HeaderReader", "atEnd", "()Z"⟩ : MethodName)) hown (mvT hZ (hw _ (List.mem_of_getElem? (i := 45) rfl))) (mvT hZ (hw _ (List.mem_of_getElem? (i := 46) rfl))) (notFace_of_selects (args := #[]) (mvT hZ (hw _ (List.mem_of_getElem? (i := 48) rfl)))) (mvT hZ (hw _ (List.mem_of_getElem? (i := 48) rfl))) (mvT hZ (hw _ (List.mem_of_getElem? (i := 47) rfl))) (by decide) (backOf (W := 0) (rm7 l Z a0 hw [] b262 b247 t256b [z223, z226] zc fm (0 : Int32) h357 n0 F360 F366 F369 F370 F362 F363 F364 F365 F358 F359 hcs hp hl hfm) hZ (hw _ (List.mem_of_getElem? (i := 49) rfl)) (hw _ (List.mem_of_getElem? (i := 28) rfl)) (by decide) (by decide)) q372a q372c (g := (mkF m 241 #[.val (.int p0), .val (.int p1), .val (.int p2), .val (.int p3), .val (.int (2 : Int32)), .val (.int z223), .val (.int z226), .val (.int z229), .val (.ref b230), .val (.ref b247), .val (.ref b262), .val (.int (1 : Int32)), .val (.int (0 : Int32)), .unset] [(.ref b262)])) rfl (by rw [hml]; rfl) (Steps.refl _) (argsL := []) (rest := []) (lenOf pd_1 rfl) rfl (by show 2 * 0 + _ ≤ _; exact Nat.le_of_eq rfl) (hb hby at_241) (fun _ _ => ⟨rfl, e371, (by decide : 6 + 0 ≤ _), (by decide : 35 + 0 ≤ _)⟩)
              dsimp only [Pt.U, Pt.locs, Pt.cells, Pt.slots] at X372 l372 y372 z372 st372 hQ372
              subst l372 y372 z372
              obtain ⟨rfl, N372q, e372⟩ := hQ372
              obtain ⟨Lo372, Y372, N372⟩ := pk X372 (Fr.app N371 N372q)
              refine Go.trans st372 ?_
              rw [show (f7 [z223, z226] (0 : Int32)) = false from by first | rfl | simp [f7]]
              show Go p.tables e below (P0 Z p0 p1 p2 p3 h0 n0 s) (T372.setTop (mkF m 244 #[.val (.int p0), .val (.int p1), .val (.int p2), .val (.int p3), .val (.int (2 : Int32)), .val (.int z223), .val (.int z226), .val (.int z229), .val (.ref b230), .val (.ref b247), .val (.ref b262), .val (.int (1 : Int32)), .val (.int (0 : Int32)), .unset] [(.int (0 : Int32))]))
              refine Go.back (fun t k => XS.iload Y372.here hx rfl (hb hby at_244) rfl  k) ?_
              show Go p.tables e below (P0 Z p0 p1 p2 p3 h0 n0 s) (T372.setTop (mkF m 246 #[.val (.int p0), .val (.int p1), .val (.int p2), .val (.int p3), .val (.int (2 : Int32)), .val (.int z223), .val (.int z226), .val (.int z229), .val (.ref b230), .val (.ref b247), .val (.ref b262), .val (.int (1 : Int32)), .val (.int (0 : Int32)), .unset] [(.int (0 : Int32)), (.int (0 : Int32))]))
              refine Go.back (fun t k => XS.iload Y372.here hx rfl (hb hby at_246) rfl  k) ?_
              show Go p.tables e below (P0 Z p0 p1 p2 p3 h0 n0 s) (T372.setTop (mkF m 248 #[.val (.int p0), .val (.int p1), .val (.int p2), .val (.int p3), .val (.int (2 : Int32)), .val (.int z223), .val (.int z226), .val (.int z229), .val (.ref b230), .val (.ref b247), .val (.ref b262), .val (.int (1 : Int32)), .val (.int (0 : Int32)), .unset] [(.int (2 : Int32)), (.int (0 : Int32)), (.int (0 : Int32))]))
              refine Go.back (fun t k => XS.icmpYes Y372.here hx rfl (pc0 := 248) (pc' := 255) rfl (hb hby at_248) rfl (feq (by decide)).2 (by decide) (by decide) k) ?_
              show Go p.tables e below (P0 Z p0 p1 p2 p3 h0 n0 s) (T372.setTop (mkF m 255 #[.val (.int p0), .val (.int p1), .val (.int p2), .val (.int p3), .val (.int (2 : Int32)), .val (.int z223), .val (.int z226), .val (.int z229), .val (.ref b230), .val (.ref b247), .val (.ref b262), .val (.int (1 : Int32)), .val (.int (0 : Int32)), .unset] [(.int (0 : Int32))]))
              refine Go.back (fun t k => XS.iconst Y372.here hx rfl (hb hby at_255) k) ?_
              show Go p.tables e below (P0 Z p0 p1 p2 p3 h0 n0 s) (T372.setTop (mkF m 256 #[.val (.int p0), .val (.int p1), .val (.int p2), .val (.int p3), .val (.int (2 : Int32)), .val (.int z223), .val (.int z226), .val (.int z229), .val (.ref b230), .val (.ref b247), .val (.ref b262), .val (.int (1 : Int32)), .val (.int (0 : Int32)), .unset] [(.int (0 : Int32)), (.int (0 : Int32))]))
              refine Go.back (fun t k => XS.icmpNo Y372.here hx rfl (hb hby at_256) rfl (teq (by decide)).2 k) ?_
              show Go p.tables e below (P0 Z p0 p1 p2 p3 h0 n0 s) (T372.setTop (mkF m 259 #[.val (.int p0), .val (.int p1), .val (.int p2), .val (.int p3), .val (.int (2 : Int32)), .val (.int z223), .val (.int z226), .val (.int z229), .val (.ref b230), .val (.ref b247), .val (.ref b262), .val (.int (1 : Int32)), .val (.int (0 : Int32)), .unset] []))
              refine Go.back (fun t k => XS.iconst Y372.here hx rfl (hb hby at_259) k) ?_
              show Go p.tables e below (P0 Z p0 p1 p2 p3 h0 n0 s) (T372.setTop (mkF m 260 #[.val (.int p0), .val (.int p1), .val (.int p2), .val (.int p3), .val (.int (2 : Int32)), .val (.int z223), .val (.int z226), .val (.int z229), .val (.ref b230), .val (.ref b247), .val (.ref b262), .val (.int (1 : Int32)), .val (.int (0 : Int32)), .unset] [(.int (1 : Int32))]))
              refine Go.back (fun t k => XS.goto Y372.here hx rfl (pc0 := 260) (pc' := 264) rfl (hb hby at_260) (by decide) (by decide) k) ?_
              show Go p.tables e below (P0 Z p0 p1 p2 p3 h0 n0 s) (T372.setTop (mkF m 264 #[.val (.int p0), .val (.int p1), .val (.int p2), .val (.int p3), .val (.int (2 : Int32)), .val (.int z223), .val (.int z226), .val (.int z229), .val (.ref b230), .val (.ref b247), .val (.ref b262), .val (.int (1 : Int32)), .val (.int (0 : Int32)), .unset] [(.int (1 : Int32))]))
              refine Go.back (fun t k => XS.istore Y372.here hx rfl (hb hby at_264) rfl (l' := #[.val (.int p0), .val (.int p1), .val (.int p2), .val (.int p3), .val (.int (2 : Int32)), .val (.int z223), .val (.int z226), .val (.int z229), .val (.ref b230), .val (.ref b247), .val (.ref b262), .val (.int (1 : Int32)), .val (.int (0 : Int32)), .unset]) rfl k) ?_
              show Go p.tables e below (P0 Z p0 p1 p2 p3 h0 n0 s) (T372.setTop (mkF m 266 #[.val (.int p0), .val (.int p1), .val (.int p2), .val (.int p3), .val (.int (2 : Int32)), .val (.int z223), .val (.int z226), .val (.int z229), .val (.ref b230), .val (.ref b247), .val (.ref b262), .val (.int (1 : Int32)), .val (.int (0 : Int32)), .unset] []))
              refine Go.back (fun t k => XS.iload Y372.here hx rfl (hb hby at_266) rfl  k) ?_
              show Go p.tables e below (P0 Z p0 p1 p2 p3 h0 n0 s) (T372.setTop (mkF m 268 #[.val (.int p0), .val (.int p1), .val (.int p2), .val (.int p3), .val (.int (2 : Int32)), .val (.int z223), .val (.int z226), .val (.int z229), .val (.ref b230), .val (.ref b247), .val (.ref b262), .val (.int (1 : Int32)), .val (.int (0 : Int32)), .unset] [(.int (0 : Int32))]))
              refine Go.back (fun t k => XS.iload Y372.here hx rfl (hb hby at_268) rfl  k) ?_
              show Go p.tables e below (P0 Z p0 p1 p2 p3 h0 n0 s) (T372.setTop (mkF m 270 #[.val (.int p0), .val (.int p1), .val (.int p2), .val (.int p3), .val (.int (2 : Int32)), .val (.int z223), .val (.int z226), .val (.int z229), .val (.ref b230), .val (.ref b247), .val (.ref b262), .val (.int (1 : Int32)), .val (.int (0 : Int32)), .unset] [(.int (2 : Int32)), (.int (0 : Int32))]))
              refine Go.back (fun t k => XS.icmpNo Y372.here hx rfl (hb hby at_270) rfl (tlt (by decide)).2.1 k) ?_
              show Go p.tables e below (P0 Z p0 p1 p2 p3 h0 n0 s) (T372.setTop (mkF m 273 #[.val (.int p0), .val (.int p1), .val (.int p2), .val (.int p3), .val (.int (2 : Int32)), .val (.int z223), .val (.int z226), .val (.int z229), .val (.ref b230), .val (.ref b247), .val (.ref b262), .val (.int (1 : Int32)), .val (.int (0 : Int32)), .unset] []))
              refine Go.back (fun t k => XS.iload Y372.here hx rfl (hb hby at_273) rfl  k) ?_
              show Go p.tables e below (P0 Z p0 p1 p2 p3 h0 n0 s) (T372.setTop (mkF m 275 #[.val (.int p0), .val (.int p1), .val (.int p2), .val (.int p3), .val (.int (2 : Int32)), .val (.int z223), .val (.int z226), .val (.int z229), .val (.ref b230), .val (.ref b247), .val (.ref b262), .val (.int (1 : Int32)), .val (.int (0 : Int32)), .unset] [(.int (0 : Int32))]))
              refine Go.back (fun t k => XS.ifNo Y372.here hx rfl (hb hby at_275) rfl ((if0 _ _).trans (teq (by decide)).2) k) ?_
              show Go p.tables e below (P0 Z p0 p1 p2 p3 h0 n0 s) (T372.setTop (mkF m 278 #[.val (.int p0), .val (.int p1), .val (.int p2), .val (.int p3), .val (.int (2 : Int32)), .val (.int z223), .val (.int z226), .val (.int z229), .val (.ref b230), .val (.ref b247), .val (.ref b262), .val (.int (1 : Int32)), .val (.int (0 : Int32)), .unset] []))
              refine Go.back (fun t k => XS.iload Y372.here hx rfl (hb hby at_278) rfl  k) ?_
              show Go p.tables e below (P0 Z p0 p1 p2 p3 h0 n0 s) (T372.setTop (mkF m 280 #[.val (.int p0), .val (.int p1), .val (.int p2), .val (.int p3), .val (.int (2 : Int32)), .val (.int z223), .val (.int z226), .val (.int z229), .val (.ref b230), .val (.ref b247), .val (.ref b262), .val (.int (1 : Int32)), .val (.int (0 : Int32)), .unset] [(.int z223)]))
              refine Go.back (fun t k => XS.goto Y372.here hx rfl (pc0 := 280) (pc' := 296) rfl (hb hby at_280) (by decide) (by decide) k) ?_
              show Go p.tables e below (P0 Z p0 p1 p2 p3 h0 n0 s) (T372.setTop (mkF m 296 #[.val (.int p0), .val (.int p1), .val (.int p2), .val (.int p3), .val (.int (2 : Int32)), .val (.int z223), .val (.int z226), .val (.int z229), .val (.ref b230), .val (.ref b247), .val (.ref b262), .val (.int (1 : Int32)), .val (.int (0 : Int32)), .unset] [(.int z223)]))
              refine Go.back (fun t k => XS.istore Y372.here hx rfl (hb hby at_296) rfl (l' := #[.val (.int p0), .val (.int p1), .val (.int p2), .val (.int p3), .val (.int (2 : Int32)), .val (.int z223), .val (.int z226), .val (.int z229), .val (.ref b230), .val (.ref b247), .val (.ref b262), .val (.int (1 : Int32)), .val (.int (0 : Int32)), .val (.int z223)]) rfl k) ?_
              show Go p.tables e below (P0 Z p0 p1 p2 p3 h0 n0 s) (T372.setTop (mkF m 298 #[.val (.int p0), .val (.int p1), .val (.int p2), .val (.int p3), .val (.int (2 : Int32)), .val (.int z223), .val (.int z226), .val (.int z229), .val (.ref b230), .val (.ref b247), .val (.ref b262), .val (.int (1 : Int32)), .val (.int (0 : Int32)), .val (.int z223)] []))
              refine Go.back (fun t k => XS.aload Y372.here hx rfl (hb hby at_298) rfl rfl  k) ?_
              show Go p.tables e below (P0 Z p0 p1 p2 p3 h0 n0 s) (T372.setTop (mkF m 300 #[.val (.int p0), .val (.int p1), .val (.int p2), .val (.int p3), .val (.int (2 : Int32)), .val (.int z223), .val (.int z226), .val (.int z229), .val (.ref b230), .val (.ref b247), .val (.ref b262), .val (.int (1 : Int32)), .val (.int (0 : Int32)), .val (.int z223)] [(.ref b262)]))
              refine Go.back (fun t k => XS.iload Y372.here hx rfl (hb hby at_300) rfl  k) ?_
              show Go p.tables e below (P0 Z p0 p1 p2 p3 h0 n0 s) (T372.setTop (mkF m 302 #[.val (.int p0), .val (.int p1), .val (.int p2), .val (.int p3), .val (.int (2 : Int32)), .val (.int z223), .val (.int z226), .val (.int z229), .val (.ref b230), .val (.ref b247), .val (.ref b262), .val (.int (1 : Int32)), .val (.int (0 : Int32)), .val (.int z223)] [(.int z223), (.ref b262)]))
              obtain ⟨cq373, kq373, q373a, q373b, q373c⟩ := isOf hZ e372 F366
              obtain ⟨_, _, ⟨T373, L373, k373, n373⟩, -, X373, ⟨Lc373, hQ373, l373, y373, z373⟩, st373⟩ := Y372.virtualBack hx (y := (⟨"com/example/paylode/paylode/header/HeaderReader", "expect", "(C)V"⟩ : MethodName)) (z := (⟨"com/example/paylode/paylode/header/HeaderReader", "expect", "(C)V"⟩ : MethodName)) hown (mvT hZ (hw _ (List.mem_of_getElem? (i := 107) rfl))) (mvT hZ (hw _ (List.mem_of_getElem? (i := 108) rfl))) (notFace_of_selects (args := #[]) (mvT hZ (hw _ (List.mem_of_getElem? (i := 110) rfl)))) (mvT hZ (hw _ (List.mem_of_getElem? (i := 110) rfl))) (mvT hZ (hw _ (List.mem_of_getElem? (i := 109) rfl))) (by decide) (backOf (W := 0) (rm21 l Z a0 hw [] b262 z223 b247 t256b [z223, z226] zc fm (0 : Int32) h357 n0 F360 F366 F369 F370 F362 F363 F364 F365 F358 F359 g266 ne264 ne265 hcs hp hl hfm ⟨by decide, Nat.le_of_ble_eq_true rfl⟩ (by simp [f11, f7])) hZ (hw _ (List.mem_of_getElem? (i := 111) rfl)) (hw _ (List.mem_of_getElem? (i := 28) rfl)) (by decide) (by decide)) q373a q373c (g := (mkF m 302 #[.val (.int p0), .val (.int p1), .val (.int p2), .val (.int p3), .val (.int (2 : Int32)), .val (.int z223), .val (.int z226), .val (.int z229), .val (.ref b230), .val (.ref b247), .val (.ref b262), .val (.int (1 : Int32)), .val (.int (0 : Int32)), .val (.int z223)] [(.int z223), (.ref b262)])) rfl (by rw [hml]; rfl) (Steps.refl _) (argsL := [(.int z223)]) (rest := []) (lenOf pd_8 rfl) rfl (by show 2 * 0 + _ ≤ _; exact Nat.le_of_eq rfl) (hb hby at_302) (fun _ _ => ⟨rfl, e372, (by decide : 6 + 0 ≤ _), (by decide : 35 + 0 ≤ _)⟩)
              dsimp only [Pt.U, Pt.locs, Pt.cells, Pt.slots] at X373 l373 y373 z373 st373 hQ373
              subst l373 y373 z373
              obtain ⟨h373, e373⟩ : ∃ z, T373.heap = z := ⟨_, rfl⟩
              rw [e373] at hQ373
              obtain ⟨rfl, N373q, K373, F384, F385⟩ := hQ373
              obtain ⟨Lo373, Y373, N373⟩ := pk X373 (Fr.app N372 N373q)
              have F374 : Sta Z h373 "java/lang/String" "COMPACT_STRINGS" "Z" (.int zc) := sta_keep F358 K373 (noSS (noS_exa F366) noS0)
              have F375 : Sta Z h373 "jdk/internal/util/Preconditions" "SIOOBE_FORMATTER" "Ljava/util/function/BiFunction;" fm := sta_keep F359 K373 (noSS (noS_exa F366) noS0)
              have F376 : n0 ≤ h373.size := Nat.le_trans F360 K373.1
              have F377 : ArL Z h373 b230 .char [(.int z223), (.int z226)] := F361.keep K373 (ninS ne263 nin0)
              have F378 : Exa Z h373 b247 "java/lang/String" := F362.keep K373
              have F379 : Fld Z h373 b247 "java/lang/String" "coder" "B" (.int (0 : Int32)) := F363.keep K373 (ninS ne264 nin0)
              have F380 : Fld Z h373 b247 "java/lang/String" "value" "[B" (.ref t256b) := F364.keep K373 (ninS ne264 nin0)
              have F381 : ArL Z h373 t256b .byte (List.map Value.int (List.map StrChars.lo8 [z223, z226])) := F365.keep K373 (ninS ne265 nin0)
              have F382 : Exa Z h373 b262 "com/example/paylode/paylode/header/HeaderReader" := F366.keep K373
              have F383 : kV ≤ h373.size := Nat.le_trans F367 K373.1
              refine Go.trans st373 ?_
              show Go p.tables e below (P0 Z p0 p1 p2 p3 h0 n0 s) (T373.setTop (mkF m 305 #[.val (.int p0), .val (.int p1), .val (.int p2), .val (.int p3), .val (.int (2 : Int32)), .val (.int z223), .val (.int z226), .val (.int z229), .val (.ref b230), .val (.ref b247), .val (.ref b262), .val (.int (1 : Int32)), .val (.int (0 : Int32)), .val (.int z223)] []))
              have F386 : Fld Z h373 b262 "com/example/paylode/paylode/header/HeaderReader" "position" "I" (.int (1 : Int32)) := by
                have q := F384
                rw [show ((0 : Int32) + (1 : Int32)) = (1 : Int32) from by decide] at q
                exact q
              refine Go.back (fun t k => XS.iload Y373.here hx rfl (hb hby at_305) rfl  k) ?_
              show Go p.tables e below (P0 Z p0 p1 p2 p3 h0 n0 s) (T373.setTop (mkF m 307 #[.val (.int p0), .val (.int p1), .val (.int p2), .val (.int p3), .val (.int (2 : Int32)), .val (.int z223), .val (.int z226), .val (.int z229), .val (.ref b230), .val (.ref b247), .val (.ref b262), .val (.int (1 : Int32)), .val (.int (0 : Int32)), .val (.int z223)] [(.int (1 : Int32))]))
              refine Go.back (fun t k => XS.ifNo Y373.here hx rfl (hb hby at_307) rfl ((if0 _ _).trans (feq (by decide)).1) k) ?_
              show Go p.tables e below (P0 Z p0 p1 p2 p3 h0 n0 s) (T373.setTop (mkF m 310 #[.val (.int p0), .val (.int p1), .val (.int p2), .val (.int p3), .val (.int (2 : Int32)), .val (.int z223), .val (.int z226), .val (.int z229), .val (.ref b230), .val (.ref b247), .val (.ref b262), .val (.int (1 : Int32)), .val (.int (0 : Int32)), .val (.int z223)] []))
              refine Go.back (fun t k => XS.aload Y373.here hx rfl (hb hby at_310) rfl rfl  k) ?_
              show Go p.tables e below (P0 Z p0 p1 p2 p3 h0 n0 s) (T373.setTop (mkF m 312 #[.val (.int p0), .val (.int p1), .val (.int p2), .val (.int p3), .val (.int (2 : Int32)), .val (.int z223), .val (.int z226), .val (.int z229), .val (.ref b230), .val (.ref b247), .val (.ref b262), .val (.int (1 : Int32)), .val (.int (0 : Int32)), .val (.int z223)] [(.ref b262)]))
              obtain ⟨cq387, kq387, q387a, q387b, q387c⟩ := isOf hZ e373 F382
              obtain ⟨_, _, ⟨T387, L387, k387, n387⟩, -, X387, ⟨Lc387, hQ387, l387, y387, z387⟩, st387⟩ := Y373.virtualBack hx (y := (⟨"com/example/paylode/paylode/header/HeaderReader", "position", "()I"⟩ : MethodName)) (z := (⟨"com/example/paylode/paylode/header/HeaderReader", "position", "()I"⟩ : MethodName)) hown (mvT hZ (hw _ (List.mem_of_getElem? (i := 38) rfl))) (mvT hZ (hw _ (List.mem_of_getElem? (i := 39) rfl))) (notFace_of_selects (args := #[]) (mvT hZ (hw _ (List.mem_of_getElem? (i := 41) rfl)))) (mvT hZ (hw _ (List.mem_of_getElem? (i := 41) rfl))) (mvT hZ (hw _ (List.mem_of_getElem? (i := 40) rfl))) (by decide) (backOf (W := 0) (rm6 l Z a0 hw [] b262 (1 : Int32) h373 n0 F376 F386) hZ (hw _ (List.mem_of_getElem? (i := 42) rfl)) (hw _ (List.mem_of_getElem? (i := 28) rfl)) (by decide) (by decide)) q387a q387c (g := (mkF m 312 #[.val (.int p0), .val (.int p1), .val (.int p2), .val (.int p3), .val (.int (2 : Int32)), .val (.int z223), .val (.int z226), .val (.int z229), .val (.ref b230), .val (.ref b247), .val (.ref b262), .val (.int (1 : Int32)), .val (.int (0 : Int32)), .val (.int z223)] [(.ref b262)])) rfl (by rw [hml]; rfl) (Steps.refl _) (argsL := []) (rest := []) (lenOf pd_0 rfl) rfl (by show 2 * 0 + _ ≤ _; exact Nat.le_of_eq rfl) (hb hby at_312) (fun _ _ => ⟨rfl, e373, (by decide : 6 + 0 ≤ _), (by decide : 35 + 0 ≤ _)⟩)
              dsimp only [Pt.U, Pt.locs, Pt.cells, Pt.slots] at X387 l387 y387 z387 st387 hQ387
              subst l387 y387 z387
              obtain ⟨rfl, N387q, e387⟩ := hQ387
              obtain ⟨Lo387, Y387, N387⟩ := pk X387 (Fr.app N373 N387q)
              refine Go.trans st387 ?_
              show Go p.tables e below (P0 Z p0 p1 p2 p3 h0 n0 s) (T387.setTop (mkF m 315 #[.val (.int p0), .val (.int p1), .val (.int p2), .val (.int p3), .val (.int (2 : Int32)), .val (.int z223), .val (.int z226), .val (.int z229), .val (.ref b230), .val (.ref b247), .val (.ref b262), .val (.int (1 : Int32)), .val (.int (0 : Int32)), .val (.int z223)] [(.int (1 : Int32))]))
              refine Go.back (fun t k => XS.iload Y387.here hx rfl (hb hby at_315) rfl  k) ?_
              show Go p.tables e below (P0 Z p0 p1 p2 p3 h0 n0 s) (T387.setTop (mkF m 317 #[.val (.int p0), .val (.int p1), .val (.int p2), .val (.int p3), .val (.int (2 : Int32)), .val (.int z223), .val (.int z226), .val (.int z229), .val (.ref b230), .val (.ref b247), .val (.ref b262), .val (.int (1 : Int32)), .val (.int (0 : Int32)), .val (.int z223)] [(.int (0 : Int32)), (.int (1 : Int32))]))
              refine Go.back (fun t k => XS.iconst Y387.here hx rfl (hb hby at_317) k) ?_
              show Go p.tables e below (P0 Z p0 p1 p2 p3 h0 n0 s) (T387.setTop (mkF m 318 #[.val (.int p0), .val (.int p1), .val (.int p2), .val (.int p3), .val (.int (2 : Int32)), .val (.int z223), .val (.int z226), .val (.int z229), .val (.ref b230), .val (.ref b247), .val (.ref b262), .val (.int (1 : Int32)), .val (.int (0 : Int32)), .val (.int z223)] [(.int (1 : Int32)), (.int (0 : Int32)), (.int (1 : Int32))]))
              refine Go.back (fun t k => XS.iadd Y387.here hx rfl (hb hby at_318) rfl k) ?_
              show Go p.tables e below (P0 Z p0 p1 p2 p3 h0 n0 s) (T387.setTop (mkF m 319 #[.val (.int p0), .val (.int p1), .val (.int p2), .val (.int p3), .val (.int (2 : Int32)), .val (.int z223), .val (.int z226), .val (.int z229), .val (.ref b230), .val (.ref b247), .val (.ref b262), .val (.int (1 : Int32)), .val (.int (0 : Int32)), .val (.int z223)] [(.int ((0 : Int32) + (1 : Int32))), (.int (1 : Int32))]))
              rw [show ((0 : Int32) + (1 : Int32)) = (1 : Int32) from by decide]
              refine Go.back (fun t k => XS.icmpNo Y387.here hx rfl (hb hby at_319) rfl (teq (by decide)).2 k) ?_
              show Go p.tables e below (P0 Z p0 p1 p2 p3 h0 n0 s) (T387.setTop (mkF m 322 #[.val (.int p0), .val (.int p1), .val (.int p2), .val (.int p3), .val (.int (2 : Int32)), .val (.int z223), .val (.int z226), .val (.int z229), .val (.ref b230), .val (.ref b247), .val (.ref b262), .val (.int (1 : Int32)), .val (.int (0 : Int32)), .val (.int z223)] []))
              refine Go.back (fun t k => XS.aload Y387.here hx rfl (hb hby at_322) rfl rfl  k) ?_
              show Go p.tables e below (P0 Z p0 p1 p2 p3 h0 n0 s) (T387.setTop (mkF m 324 #[.val (.int p0), .val (.int p1), .val (.int p2), .val (.int p3), .val (.int (2 : Int32)), .val (.int z223), .val (.int z226), .val (.int z229), .val (.ref b230), .val (.ref b247), .val (.ref b262), .val (.int (1 : Int32)), .val (.int (0 : Int32)), .val (.int z223)] [(.ref b262)]))
              obtain ⟨cq388, kq388, q388a, q388b, q388c⟩ := isOf hZ e387 F382
              obtain ⟨_, _, ⟨T388, L388, k388, n388⟩, -, X388, ⟨Lc388, hQ388, l388, y388, z388⟩, st388⟩ := Y387.virtualBack hx (y := (⟨"com/example/paylode/paylode/header/HeaderReader", "atEnd", "()Z"⟩ : MethodName)) (z := (⟨"com/example/paylode/paylode/header/HeaderReader", "atEnd", "()Z"⟩ : MethodName)) hown (mvT hZ (hw _ (List.mem_of_getElem? (i := 45) rfl))) (mvT hZ (hw _ (List.mem_of_getElem? (i := 46) rfl))) (notFace_of_selects (args := #[]) (mvT hZ (hw _ (List.mem_of_getElem? (i := 48) rfl)))) (mvT hZ (hw _ (List.mem_of_getElem? (i := 48) rfl))) (mvT hZ (hw _ (List.mem_of_getElem? (i := 47) rfl))) (by decide) (backOf (W := 0) (rm7 l Z a0 hw [] b262 b247 t256b [z223, z226] zc fm (1 : Int32) h373 n0 F376 F382 F385 F386 F378 F379 F380 F381 F374 F375 hcs hp hl hfm) hZ (hw _ (List.mem_of_getElem? (i := 49) rfl)) (hw _ (List.mem_of_getElem? (i := 28) rfl)) (by decide) (by decide)) q388a q388c (g := (mkF m 324 #[.val (.int p0), .val (.int p1), .val (.int p2), .val (.int p3), .val (.int (2 : Int32)), .val (.int z223), .val (.int z226), .val (.int z229), .val (.ref b230), .val (.ref b247), .val (.ref b262), .val (.int (1 : Int32)), .val (.int (0 : Int32)), .val (.int z223)] [(.ref b262)])) rfl (by rw [hml]; rfl) (Steps.refl _) (argsL := []) (rest := []) (lenOf pd_1 rfl) rfl (by show 2 * 0 + _ ≤ _; exact Nat.le_of_eq rfl) (hb hby at_324) (fun _ _ => ⟨rfl, e387, (by decide : 6 + 0 ≤ _), (by decide : 35 + 0 ≤ _)⟩)
              dsimp only [Pt.U, Pt.locs, Pt.cells, Pt.slots] at X388 l388 y388 z388 st388 hQ388
              subst l388 y388 z388
              obtain ⟨rfl, N388q, e388⟩ := hQ388
              obtain ⟨Lo388, Y388, N388⟩ := pk X388 (Fr.app N387 N388q)
              refine Go.trans st388 ?_
              rw [show (f7 [z223, z226] (1 : Int32)) = false from by first | rfl | simp [f7]]
              show Go p.tables e below (P0 Z p0 p1 p2 p3 h0 n0 s) (T388.setTop (mkF m 327 #[.val (.int p0), .val (.int p1), .val (.int p2), .val (.int p3), .val (.int (2 : Int32)), .val (.int z223), .val (.int z226), .val (.int z229), .val (.ref b230), .val (.ref b247), .val (.ref b262), .val (.int (1 : Int32)), .val (.int (0 : Int32)), .val (.int z223)] [(.int (0 : Int32))]))
              refine Go.back (fun t k => XS.iload Y388.here hx rfl (hb hby at_327) rfl  k) ?_
              show Go p.tables e below (P0 Z p0 p1 p2 p3 h0 n0 s) (T388.setTop (mkF m 329 #[.val (.int p0), .val (.int p1), .val (.int p2), .val (.int p3), .val (.int (2 : Int32)), .val (.int z223), .val (.int z226), .val (.int z229), .val (.ref b230), .val (.ref b247), .val (.ref b262), .val (.int (1 : Int32)), .val (.int (0 : Int32)), .val (.int z223)] [(.int (0 : Int32)), (.int (0 : Int32))]))
              refine Go.back (fun t k => XS.iconst Y388.here hx rfl (hb hby at_329) k) ?_
              show Go p.tables e below (P0 Z p0 p1 p2 p3 h0 n0 s) (T388.setTop (mkF m 330 #[.val (.int p0), .val (.int p1), .val (.int p2), .val (.int p3), .val (.int (2 : Int32)), .val (.int z223), .val (.int z226), .val (.int z229), .val (.ref b230), .val (.ref b247), .val (.ref b262), .val (.int (1 : Int32)), .val (.int (0 : Int32)), .val (.int z223)] [(.int (1 : Int32)), (.int (0 : Int32)), (.int (0 : Int32))]))
              refine Go.back (fun t k => XS.iadd Y388.here hx rfl (hb hby at_330) rfl k) ?_
              show Go p.tables e below (P0 Z p0 p1 p2 p3 h0 n0 s) (T388.setTop (mkF m 331 #[.val (.int p0), .val (.int p1), .val (.int p2), .val (.int p3), .val (.int (2 : Int32)), .val (.int z223), .val (.int z226), .val (.int z229), .val (.ref b230), .val (.ref b247), .val (.ref b262), .val (.int (1 : Int32)), .val (.int (0 : Int32)), .val (.int z223)] [(.int ((0 : Int32) + (1 : Int32))), (.int (0 : Int32))]))
              rw [show ((0 : Int32) + (1 : Int32)) = (1 : Int32) from by decide]
              refine Go.back (fun t k => XS.iload Y388.here hx rfl (hb hby at_331) rfl  k) ?_
              show Go p.tables e below (P0 Z p0 p1 p2 p3 h0 n0 s) (T388.setTop (mkF m 333 #[.val (.int p0), .val (.int p1), .val (.int p2), .val (.int p3), .val (.int (2 : Int32)), .val (.int z223), .val (.int z226), .val (.int z229), .val (.ref b230), .val (.ref b247), .val (.ref b262), .val (.int (1 : Int32)), .val (.int (0 : Int32)), .val (.int z223)] [(.int (2 : Int32)), (.int (1 : Int32)), (.int (0 : Int32))]))
              refine Go.back (fun t k => XS.icmpYes Y388.here hx rfl (pc0 := 333) (pc' := 340) rfl (hb hby at_333) rfl (feq (by decide)).2 (by decide) (by decide) k) ?_
              show Go p.tables e below (P0 Z p0 p1 p2 p3 h0 n0 s) (T388.setTop (mkF m 340 #[.val (.int p0), .val (.int p1), .val (.int p2), .val (.int p3), .val (.int (2 : Int32)), .val (.int z223), .val (.int z226), .val (.int z229), .val (.ref b230), .val (.ref b247), .val (.ref b262), .val (.int (1 : Int32)), .val (.int (0 : Int32)), .val (.int z223)] [(.int (0 : Int32))]))
              refine Go.back (fun t k => XS.iconst Y388.here hx rfl (hb hby at_340) k) ?_
              show Go p.tables e below (P0 Z p0 p1 p2 p3 h0 n0 s) (T388.setTop (mkF m 341 #[.val (.int p0), .val (.int p1), .val (.int p2), .val (.int p3), .val (.int (2 : Int32)), .val (.int z223), .val (.int z226), .val (.int z229), .val (.ref b230), .val (.ref b247), .val (.ref b262), .val (.int (1 : Int32)), .val (.int (0 : Int32)), .val (.int z223)] [(.int (0 : Int32)), (.int (0 : Int32))]))
              refine Go.back (fun t k => XS.icmpNo Y388.here hx rfl (hb hby at_341) rfl (teq (by decide)).2 k) ?_
              show Go p.tables e below (P0 Z p0 p1 p2 p3 h0 n0 s) (T388.setTop (mkF m 344 #[.val (.int p0), .val (.int p1), .val (.int p2), .val (.int p3), .val (.int (2 : Int32)), .val (.int z223), .val (.int z226), .val (.int z229), .val (.ref b230), .val (.ref b247), .val (.ref b262), .val (.int (1 : Int32)), .val (.int (0 : Int32)), .val (.int z223)] []))
              refine Go.back (fun t k => XS.iconst Y388.here hx rfl (hb hby at_344) k) ?_
              show Go p.tables e below (P0 Z p0 p1 p2 p3 h0 n0 s) (T388.setTop (mkF m 345 #[.val (.int p0), .val (.int p1), .val (.int p2), .val (.int p3), .val (.int (2 : Int32)), .val (.int z223), .val (.int z226), .val (.int z229), .val (.ref b230), .val (.ref b247), .val (.ref b262), .val (.int (1 : Int32)), .val (.int (0 : Int32)), .val (.int z223)] [(.int (1 : Int32))]))
              refine Go.back (fun t k => XS.goto Y388.here hx rfl (pc0 := 345) (pc' := 349) rfl (hb hby at_345) (by decide) (by decide) k) ?_
              show Go p.tables e below (P0 Z p0 p1 p2 p3 h0 n0 s) (T388.setTop (mkF m 349 #[.val (.int p0), .val (.int p1), .val (.int p2), .val (.int p3), .val (.int (2 : Int32)), .val (.int z223), .val (.int z226), .val (.int z229), .val (.ref b230), .val (.ref b247), .val (.ref b262), .val (.int (1 : Int32)), .val (.int (0 : Int32)), .val (.int z223)] [(.int (1 : Int32))]))
              refine Go.back (fun t k => XS.istore Y388.here hx rfl (hb hby at_349) rfl (l' := #[.val (.int p0), .val (.int p1), .val (.int p2), .val (.int p3), .val (.int (2 : Int32)), .val (.int z223), .val (.int z226), .val (.int z229), .val (.ref b230), .val (.ref b247), .val (.ref b262), .val (.int (1 : Int32)), .val (.int (0 : Int32)), .val (.int z223)]) rfl k) ?_
              show Go p.tables e below (P0 Z p0 p1 p2 p3 h0 n0 s) (T388.setTop (mkF m 351 #[.val (.int p0), .val (.int p1), .val (.int p2), .val (.int p3), .val (.int (2 : Int32)), .val (.int z223), .val (.int z226), .val (.int z229), .val (.ref b230), .val (.ref b247), .val (.ref b262), .val (.int (1 : Int32)), .val (.int (0 : Int32)), .val (.int z223)] []))
              refine Go.back (fun t k => XS.iload Y388.here hx rfl (hb hby at_351) rfl  k) ?_
              show Go p.tables e below (P0 Z p0 p1 p2 p3 h0 n0 s) (T388.setTop (mkF m 353 #[.val (.int p0), .val (.int p1), .val (.int p2), .val (.int p3), .val (.int (2 : Int32)), .val (.int z223), .val (.int z226), .val (.int z229), .val (.ref b230), .val (.ref b247), .val (.ref b262), .val (.int (1 : Int32)), .val (.int (0 : Int32)), .val (.int z223)] [(.int (1 : Int32))]))
              exact Go.retBW (s := s) (vm0 := TV.vm) (b := true) (Qa := Q0 Z p0 p1 p2 p3 h0 n0) (Qb := fun vm h => True) Y388 hx hSV (by rw [e388]; exact F383) Bd.returns (hb hby at_353) Bd.notSynchronized ⟨rfl, N388⟩ trivial (by decide) (by decide)
          exact J228 _ rfl
        exact J225 _ rfl
      exact J222 _ rfl
    · clear hz2
      subst hk
      show Go p.tables e below (P0 Z p0 p1 p2 p3 h0 n0 s) (s₁.setTop (mkF m 5 #[.val (.int p0), .val (.int p1), .val (.int p2), .val (.int p3), .val (.int (3 : Int32)), .unset, .unset, .unset, .unset, .unset, .unset, .unset, .unset, .unset] []))
      refine Go.back (fun t k => XS.iloadN X0.here hx rfl (hb hby at_5) rfl  k) ?_
      show Go p.tables e below (P0 Z p0 p1 p2 p3 h0 n0 s) (s₁.setTop (mkF m 6 #[.val (.int p0), .val (.int p1), .val (.int p2), .val (.int p3), .val (.int (3 : Int32)), .unset, .unset, .unset, .unset, .unset, .unset, .unset, .unset, .unset] [(.int p1)]))
      obtain ⟨_, _, ⟨T389, L389, k389, n389⟩, -, X389, ⟨Lc389, hQ389, l389, y389, z389⟩, st389⟩ := Jvm.LawKit.callS X0 hx (y := (⟨"com/example/paylode/paylode/header/HeaderReaderAtEndPinLaw", "draw", "(I)C"⟩ : MethodName)) hown (mvT hZ (hw _ (List.mem_of_getElem? (i := 0) rfl))) (mvT hZ (hw _ (List.mem_of_getElem? (i := 1) rfl))) (mvT hZ (hw _ (List.mem_of_getElem? (i := 2) rfl))) (mvT hZ (hw _ (List.mem_of_getElem? (i := 3) rfl))) (by decide) (backOf (W := 0) (rm1 l Z a0 hw [] p1 h0 n0) hZ (hw _ (List.mem_of_getElem? (i := 3) rfl)) (hw _ (List.mem_of_getElem? (i := 2) rfl)) (by decide) (by decide)) (g := (mkF m 6 #[.val (.int p0), .val (.int p1), .val (.int p2), .val (.int p3), .val (.int (3 : Int32)), .unset, .unset, .unset, .unset, .unset, .unset, .unset, .unset, .unset] [(.int p1)])) rfl (by rw [hml]; rfl) (argsL := [(.int p1)]) (rest := []) (lenOf pd_2 rfl) rfl (by show 2 * 0 + _ ≤ _; exact Nat.le_of_eq rfl) (hb hby at_6) (fun _ _ => ⟨rfl, e0, (by decide : 0 + 0 ≤ _), (by decide : 0 + 0 ≤ _)⟩)
      dsimp only [Pt.U, Pt.locs, Pt.cells, Pt.slots] at X389 l389 y389 z389 st389 hQ389
      subst l389 y389 z389
      obtain ⟨rfl, N389q, e389⟩ := hQ389
      obtain ⟨Lo389, Y389, N389⟩ := pk X389 (Fr.app N0 N389q)
      refine Go.back st389 ?_
      show Go p.tables e below (P0 Z p0 p1 p2 p3 h0 n0 s) (T389.setTop (mkF m 9 #[.val (.int p0), .val (.int p1), .val (.int p2), .val (.int p3), .val (.int (3 : Int32)), .unset, .unset, .unset, .unset, .unset, .unset, .unset, .unset, .unset] [(.int (f1 p1))]))
      refine Go.back (fun t k => XS.istore Y389.here hx rfl (hb hby at_9) rfl (l' := #[.val (.int p0), .val (.int p1), .val (.int p2), .val (.int p3), .val (.int (3 : Int32)), .val (.int (f1 p1)), .unset, .unset, .unset, .unset, .unset, .unset, .unset, .unset]) rfl k) ?_
      show Go p.tables e below (P0 Z p0 p1 p2 p3 h0 n0 s) (T389.setTop (mkF m 11 #[.val (.int p0), .val (.int p1), .val (.int p2), .val (.int p3), .val (.int (3 : Int32)), .val (.int (f1 p1)), .unset, .unset, .unset, .unset, .unset, .unset, .unset, .unset] []))
      have J390 : ∀ (z391 : Int32) (hz391 : z391 = (f1 p1)), Go p.tables e below (P0 Z p0 p1 p2 p3 h0 n0 s) (T389.setTop (mkF m 11 #[.val (.int p0), .val (.int p1), .val (.int p2), .val (.int p3), .val (.int (3 : Int32)), .val (.int z391), .unset, .unset, .unset, .unset, .unset, .unset, .unset, .unset] [])) := by
        intro z391 hz391
        have dz391 := own_draw hz391
        show Go p.tables e below (P0 Z p0 p1 p2 p3 h0 n0 s) (T389.setTop (mkF m 11 #[.val (.int p0), .val (.int p1), .val (.int p2), .val (.int p3), .val (.int (3 : Int32)), .val (.int z391), .unset, .unset, .unset, .unset, .unset, .unset, .unset, .unset] []))
        refine Go.back (fun t k => XS.iloadN Y389.here hx rfl (hb hby at_11) rfl  k) ?_
        show Go p.tables e below (P0 Z p0 p1 p2 p3 h0 n0 s) (T389.setTop (mkF m 12 #[.val (.int p0), .val (.int p1), .val (.int p2), .val (.int p3), .val (.int (3 : Int32)), .val (.int z391), .unset, .unset, .unset, .unset, .unset, .unset, .unset, .unset] [(.int p2)]))
        obtain ⟨_, _, ⟨T392, L392, k392, n392⟩, -, X392, ⟨Lc392, hQ392, l392, y392, z392⟩, st392⟩ := Jvm.LawKit.callS Y389 hx (y := (⟨"com/example/paylode/paylode/header/HeaderReaderAtEndPinLaw", "draw", "(I)C"⟩ : MethodName)) hown (mvT hZ (hw _ (List.mem_of_getElem? (i := 0) rfl))) (mvT hZ (hw _ (List.mem_of_getElem? (i := 1) rfl))) (mvT hZ (hw _ (List.mem_of_getElem? (i := 2) rfl))) (mvT hZ (hw _ (List.mem_of_getElem? (i := 3) rfl))) (by decide) (backOf (W := 0) (rm1 l Z a0 hw [] p2 h0 n0) hZ (hw _ (List.mem_of_getElem? (i := 3) rfl)) (hw _ (List.mem_of_getElem? (i := 2) rfl)) (by decide) (by decide)) (g := (mkF m 12 #[.val (.int p0), .val (.int p1), .val (.int p2), .val (.int p3), .val (.int (3 : Int32)), .val (.int z391), .unset, .unset, .unset, .unset, .unset, .unset, .unset, .unset] [(.int p2)])) rfl (by rw [hml]; rfl) (argsL := [(.int p2)]) (rest := []) (lenOf pd_2 rfl) rfl (by show 2 * 0 + _ ≤ _; exact Nat.le_of_eq rfl) (hb hby at_12) (fun _ _ => ⟨rfl, e389, (by decide : 0 + 0 ≤ _), (by decide : 0 + 0 ≤ _)⟩)
        dsimp only [Pt.U, Pt.locs, Pt.cells, Pt.slots] at X392 l392 y392 z392 st392 hQ392
        subst l392 y392 z392
        obtain ⟨rfl, N392q, e392⟩ := hQ392
        obtain ⟨Lo392, Y392, N392⟩ := pk X392 (Fr.app N389 N392q)
        refine Go.back st392 ?_
        show Go p.tables e below (P0 Z p0 p1 p2 p3 h0 n0 s) (T392.setTop (mkF m 15 #[.val (.int p0), .val (.int p1), .val (.int p2), .val (.int p3), .val (.int (3 : Int32)), .val (.int z391), .unset, .unset, .unset, .unset, .unset, .unset, .unset, .unset] [(.int (f1 p2))]))
        refine Go.back (fun t k => XS.istore Y392.here hx rfl (hb hby at_15) rfl (l' := #[.val (.int p0), .val (.int p1), .val (.int p2), .val (.int p3), .val (.int (3 : Int32)), .val (.int z391), .val (.int (f1 p2)), .unset, .unset, .unset, .unset, .unset, .unset, .unset]) rfl k) ?_
        show Go p.tables e below (P0 Z p0 p1 p2 p3 h0 n0 s) (T392.setTop (mkF m 17 #[.val (.int p0), .val (.int p1), .val (.int p2), .val (.int p3), .val (.int (3 : Int32)), .val (.int z391), .val (.int (f1 p2)), .unset, .unset, .unset, .unset, .unset, .unset, .unset] []))
        have J393 : ∀ (z394 : Int32) (hz394 : z394 = (f1 p2)), Go p.tables e below (P0 Z p0 p1 p2 p3 h0 n0 s) (T392.setTop (mkF m 17 #[.val (.int p0), .val (.int p1), .val (.int p2), .val (.int p3), .val (.int (3 : Int32)), .val (.int z391), .val (.int z394), .unset, .unset, .unset, .unset, .unset, .unset, .unset] [])) := by
          intro z394 hz394
          have dz394 := own_draw hz394
          show Go p.tables e below (P0 Z p0 p1 p2 p3 h0 n0 s) (T392.setTop (mkF m 17 #[.val (.int p0), .val (.int p1), .val (.int p2), .val (.int p3), .val (.int (3 : Int32)), .val (.int z391), .val (.int z394), .unset, .unset, .unset, .unset, .unset, .unset, .unset] []))
          refine Go.back (fun t k => XS.iloadN Y392.here hx rfl (hb hby at_17) rfl  k) ?_
          show Go p.tables e below (P0 Z p0 p1 p2 p3 h0 n0 s) (T392.setTop (mkF m 18 #[.val (.int p0), .val (.int p1), .val (.int p2), .val (.int p3), .val (.int (3 : Int32)), .val (.int z391), .val (.int z394), .unset, .unset, .unset, .unset, .unset, .unset, .unset] [(.int p3)]))
          obtain ⟨_, _, ⟨T395, L395, k395, n395⟩, -, X395, ⟨Lc395, hQ395, l395, y395, z395⟩, st395⟩ := Jvm.LawKit.callS Y392 hx (y := (⟨"com/example/paylode/paylode/header/HeaderReaderAtEndPinLaw", "draw", "(I)C"⟩ : MethodName)) hown (mvT hZ (hw _ (List.mem_of_getElem? (i := 0) rfl))) (mvT hZ (hw _ (List.mem_of_getElem? (i := 1) rfl))) (mvT hZ (hw _ (List.mem_of_getElem? (i := 2) rfl))) (mvT hZ (hw _ (List.mem_of_getElem? (i := 3) rfl))) (by decide) (backOf (W := 0) (rm1 l Z a0 hw [] p3 h0 n0) hZ (hw _ (List.mem_of_getElem? (i := 3) rfl)) (hw _ (List.mem_of_getElem? (i := 2) rfl)) (by decide) (by decide)) (g := (mkF m 18 #[.val (.int p0), .val (.int p1), .val (.int p2), .val (.int p3), .val (.int (3 : Int32)), .val (.int z391), .val (.int z394), .unset, .unset, .unset, .unset, .unset, .unset, .unset] [(.int p3)])) rfl (by rw [hml]; rfl) (argsL := [(.int p3)]) (rest := []) (lenOf pd_2 rfl) rfl (by show 2 * 0 + _ ≤ _; exact Nat.le_of_eq rfl) (hb hby at_18) (fun _ _ => ⟨rfl, e392, (by decide : 0 + 0 ≤ _), (by decide : 0 + 0 ≤ _)⟩)
          dsimp only [Pt.U, Pt.locs, Pt.cells, Pt.slots] at X395 l395 y395 z395 st395 hQ395
          subst l395 y395 z395
          obtain ⟨rfl, N395q, e395⟩ := hQ395
          obtain ⟨Lo395, Y395, N395⟩ := pk X395 (Fr.app N392 N395q)
          refine Go.back st395 ?_
          show Go p.tables e below (P0 Z p0 p1 p2 p3 h0 n0 s) (T395.setTop (mkF m 21 #[.val (.int p0), .val (.int p1), .val (.int p2), .val (.int p3), .val (.int (3 : Int32)), .val (.int z391), .val (.int z394), .unset, .unset, .unset, .unset, .unset, .unset, .unset] [(.int (f1 p3))]))
          refine Go.back (fun t k => XS.istore Y395.here hx rfl (hb hby at_21) rfl (l' := #[.val (.int p0), .val (.int p1), .val (.int p2), .val (.int p3), .val (.int (3 : Int32)), .val (.int z391), .val (.int z394), .val (.int (f1 p3)), .unset, .unset, .unset, .unset, .unset, .unset]) rfl k) ?_
          show Go p.tables e below (P0 Z p0 p1 p2 p3 h0 n0 s) (T395.setTop (mkF m 23 #[.val (.int p0), .val (.int p1), .val (.int p2), .val (.int p3), .val (.int (3 : Int32)), .val (.int z391), .val (.int z394), .val (.int (f1 p3)), .unset, .unset, .unset, .unset, .unset, .unset] []))
          have J396 : ∀ (z397 : Int32) (hz397 : z397 = (f1 p3)), Go p.tables e below (P0 Z p0 p1 p2 p3 h0 n0 s) (T395.setTop (mkF m 23 #[.val (.int p0), .val (.int p1), .val (.int p2), .val (.int p3), .val (.int (3 : Int32)), .val (.int z391), .val (.int z394), .val (.int z397), .unset, .unset, .unset, .unset, .unset, .unset] [])) := by
            intro z397 hz397
            have dz397 := own_draw hz397
            show Go p.tables e below (P0 Z p0 p1 p2 p3 h0 n0 s) (T395.setTop (mkF m 23 #[.val (.int p0), .val (.int p1), .val (.int p2), .val (.int p3), .val (.int (3 : Int32)), .val (.int z391), .val (.int z394), .val (.int z397), .unset, .unset, .unset, .unset, .unset, .unset] []))
            refine Go.back (fun t k => XS.iload Y395.here hx rfl (hb hby at_23) rfl  k) ?_
            show Go p.tables e below (P0 Z p0 p1 p2 p3 h0 n0 s) (T395.setTop (mkF m 25 #[.val (.int p0), .val (.int p1), .val (.int p2), .val (.int p3), .val (.int (3 : Int32)), .val (.int z391), .val (.int z394), .val (.int z397), .unset, .unset, .unset, .unset, .unset, .unset] [(.int (3 : Int32))]))
            refine Go.back (fun t k => XS.ifYes Y395.here hx rfl (pc0 := 25) (pc' := 36) rfl (hb hby at_25) rfl ((if0 _ _).trans (feq (by decide)).2) (by decide) (by decide) k) ?_
            show Go p.tables e below (P0 Z p0 p1 p2 p3 h0 n0 s) (T395.setTop (mkF m 36 #[.val (.int p0), .val (.int p1), .val (.int p2), .val (.int p3), .val (.int (3 : Int32)), .val (.int z391), .val (.int z394), .val (.int z397), .unset, .unset, .unset, .unset, .unset, .unset] []))
            refine Go.back (fun t k => XS.iload Y395.here hx rfl (hb hby at_36) rfl  k) ?_
            show Go p.tables e below (P0 Z p0 p1 p2 p3 h0 n0 s) (T395.setTop (mkF m 38 #[.val (.int p0), .val (.int p1), .val (.int p2), .val (.int p3), .val (.int (3 : Int32)), .val (.int z391), .val (.int z394), .val (.int z397), .unset, .unset, .unset, .unset, .unset, .unset] [(.int (3 : Int32))]))
            refine Go.back (fun t k => XS.iconst Y395.here hx rfl (hb hby at_38) k) ?_
            show Go p.tables e below (P0 Z p0 p1 p2 p3 h0 n0 s) (T395.setTop (mkF m 39 #[.val (.int p0), .val (.int p1), .val (.int p2), .val (.int p3), .val (.int (3 : Int32)), .val (.int z391), .val (.int z394), .val (.int z397), .unset, .unset, .unset, .unset, .unset, .unset] [(.int (1 : Int32)), (.int (3 : Int32))]))
            refine Go.back (fun t k => XS.icmpYes Y395.here hx rfl (pc0 := 39) (pc' := 55) rfl (hb hby at_39) rfl (feq (by decide)).2 (by decide) (by decide) k) ?_
            show Go p.tables e below (P0 Z p0 p1 p2 p3 h0 n0 s) (T395.setTop (mkF m 55 #[.val (.int p0), .val (.int p1), .val (.int p2), .val (.int p3), .val (.int (3 : Int32)), .val (.int z391), .val (.int z394), .val (.int z397), .unset, .unset, .unset, .unset, .unset, .unset] []))
            refine Go.back (fun t k => XS.iload Y395.here hx rfl (hb hby at_55) rfl  k) ?_
            show Go p.tables e below (P0 Z p0 p1 p2 p3 h0 n0 s) (T395.setTop (mkF m 57 #[.val (.int p0), .val (.int p1), .val (.int p2), .val (.int p3), .val (.int (3 : Int32)), .val (.int z391), .val (.int z394), .val (.int z397), .unset, .unset, .unset, .unset, .unset, .unset] [(.int (3 : Int32))]))
            refine Go.back (fun t k => XS.iconst Y395.here hx rfl (hb hby at_57) k) ?_
            show Go p.tables e below (P0 Z p0 p1 p2 p3 h0 n0 s) (T395.setTop (mkF m 58 #[.val (.int p0), .val (.int p1), .val (.int p2), .val (.int p3), .val (.int (3 : Int32)), .val (.int z391), .val (.int z394), .val (.int z397), .unset, .unset, .unset, .unset, .unset, .unset] [(.int (2 : Int32)), (.int (3 : Int32))]))
            refine Go.back (fun t k => XS.icmpYes Y395.here hx rfl (pc0 := 58) (pc' := 79) rfl (hb hby at_58) rfl (feq (by decide)).2 (by decide) (by decide) k) ?_
            show Go p.tables e below (P0 Z p0 p1 p2 p3 h0 n0 s) (T395.setTop (mkF m 79 #[.val (.int p0), .val (.int p1), .val (.int p2), .val (.int p3), .val (.int (3 : Int32)), .val (.int z391), .val (.int z394), .val (.int z397), .unset, .unset, .unset, .unset, .unset, .unset] []))
            refine Go.back (fun t k => XS.iconst Y395.here hx rfl (hb hby at_79) k) ?_
            show Go p.tables e below (P0 Z p0 p1 p2 p3 h0 n0 s) (T395.setTop (mkF m 80 #[.val (.int p0), .val (.int p1), .val (.int p2), .val (.int p3), .val (.int (3 : Int32)), .val (.int z391), .val (.int z394), .val (.int z397), .unset, .unset, .unset, .unset, .unset, .unset] [(.int (3 : Int32))]))
            obtain ⟨T398, h398, k398, X398, e398, E398, A398, st398⟩ := newP Y395 hx hZ (hw _ (List.mem_of_getElem? (i := 4) rfl)) e395 (g := (mkF m 80 #[.val (.int p0), .val (.int p1), .val (.int p2), .val (.int p3), .val (.int (3 : Int32)), .val (.int z391), .val (.int z394), .val (.int z397), .unset, .unset, .unset, .unset, .unset, .unset] [(.int (3 : Int32))])) rfl (hb hby at_80) rfl (by decide) (cap := 3) (by decide) (by decide) (by decide) (by decide)
            obtain ⟨b398, g398⟩ : ∃ z, z = h0.size := ⟨_, rfl⟩
            rw [← g398] at A398 st398
            have g399 : n0 ≤ b398 := Nat.le_trans Z0 (Nat.le_of_eq g398.symm)
            have F400 : Sta Z h398 "java/lang/String" "COMPACT_STRINGS" "Z" (.int zc) := S1.ext E398
            have F401 : Sta Z h398 "jdk/internal/util/Preconditions" "SIOOBE_FORMATTER" "Ljava/util/function/BiFunction;" fm := S2.ext E398
            have F402 : n0 ≤ h398.size := Nat.le_trans Z0 E398.1
            have F403 : ArL Z h398 b398 .char [(.int (0 : Int32)), (.int (0 : Int32)), (.int (0 : Int32))] := ArL.new (ty := .char) A398 (n := 3) rfl
            refine Go.back st398 ?_
            show Go p.tables e below (P0 Z p0 p1 p2 p3 h0 n0 s) (T398.setTop (mkF m 82 #[.val (.int p0), .val (.int p1), .val (.int p2), .val (.int p3), .val (.int (3 : Int32)), .val (.int z391), .val (.int z394), .val (.int z397), .unset, .unset, .unset, .unset, .unset, .unset] [(.ref b398)]))
            refine Go.back (fun t k => XS.dup X398.here hx rfl (hb hby at_82) rfl rfl k) ?_
            show Go p.tables e below (P0 Z p0 p1 p2 p3 h0 n0 s) (T398.setTop (mkF m 83 #[.val (.int p0), .val (.int p1), .val (.int p2), .val (.int p3), .val (.int (3 : Int32)), .val (.int z391), .val (.int z394), .val (.int z397), .unset, .unset, .unset, .unset, .unset, .unset] [(.ref b398), (.ref b398)]))
            refine Go.back (fun t k => XS.iconst X398.here hx rfl (hb hby at_83) k) ?_
            show Go p.tables e below (P0 Z p0 p1 p2 p3 h0 n0 s) (T398.setTop (mkF m 84 #[.val (.int p0), .val (.int p1), .val (.int p2), .val (.int p3), .val (.int (3 : Int32)), .val (.int z391), .val (.int z394), .val (.int z397), .unset, .unset, .unset, .unset, .unset, .unset] [(.int (0 : Int32)), (.ref b398), (.ref b398)]))
            refine Go.back (fun t k => XS.iload X398.here hx rfl (hb hby at_84) rfl  k) ?_
            show Go p.tables e below (P0 Z p0 p1 p2 p3 h0 n0 s) (T398.setTop (mkF m 86 #[.val (.int p0), .val (.int p1), .val (.int p2), .val (.int p3), .val (.int (3 : Int32)), .val (.int z391), .val (.int z394), .val (.int z397), .unset, .unset, .unset, .unset, .unset, .unset] [(.int z391), (.int (0 : Int32)), (.ref b398), (.ref b398)]))
            obtain ⟨cl404, Ar404, hi404, -⟩ := F403.at (j := (0 : Int32)) (by decide) (Nat.le_of_ble_eq_true rfl)
            obtain ⟨T404, h404, X404, e404, W404, st404⟩ := stC X398 hx hZ e398 Ar404 (j := (0 : Int32)) hi404 (g := (mkF m 86 #[.val (.int p0), .val (.int p1), .val (.int p2), .val (.int p3), .val (.int (3 : Int32)), .val (.int z391), .val (.int z394), .val (.int z397), .unset, .unset, .unset, .unset, .unset, .unset] [(.int z391), (.int (0 : Int32)), (.ref b398), (.ref b398)])) rfl rfl (hb hby at_86)
            have F405 : Sta Z h404 "java/lang/String" "COMPACT_STRINGS" "Z" (.int zc) := F400.wr W404
            have F406 : Sta Z h404 "jdk/internal/util/Preconditions" "SIOOBE_FORMATTER" "Ljava/util/function/BiFunction;" fm := F401.wr W404
            have F407 : n0 ≤ h404.size := Nat.le_trans F402 (Keep.of_wr W404).1
            have F408 : ArL Z h404 b398 .char [(.int (nar .char z391)), (.int (0 : Int32)), (.int (0 : Int32))] := F403.set W404
            obtain ⟨Lo404, Y404, N404⟩ := pk X404 (Fr.snoc X404 N395 g399)
            refine Go.back st404 ?_
            show Go p.tables e below (P0 Z p0 p1 p2 p3 h0 n0 s) (T404.setTop (mkF m 87 #[.val (.int p0), .val (.int p1), .val (.int p2), .val (.int p3), .val (.int (3 : Int32)), .val (.int z391), .val (.int z394), .val (.int z397), .unset, .unset, .unset, .unset, .unset, .unset] [(.ref b398)]))
            refine Go.back (fun t k => XS.dup Y404.here hx rfl (hb hby at_87) rfl rfl k) ?_
            show Go p.tables e below (P0 Z p0 p1 p2 p3 h0 n0 s) (T404.setTop (mkF m 88 #[.val (.int p0), .val (.int p1), .val (.int p2), .val (.int p3), .val (.int (3 : Int32)), .val (.int z391), .val (.int z394), .val (.int z397), .unset, .unset, .unset, .unset, .unset, .unset] [(.ref b398), (.ref b398)]))
            refine Go.back (fun t k => XS.iconst Y404.here hx rfl (hb hby at_88) k) ?_
            show Go p.tables e below (P0 Z p0 p1 p2 p3 h0 n0 s) (T404.setTop (mkF m 89 #[.val (.int p0), .val (.int p1), .val (.int p2), .val (.int p3), .val (.int (3 : Int32)), .val (.int z391), .val (.int z394), .val (.int z397), .unset, .unset, .unset, .unset, .unset, .unset] [(.int (1 : Int32)), (.ref b398), (.ref b398)]))
            refine Go.back (fun t k => XS.iload Y404.here hx rfl (hb hby at_89) rfl  k) ?_
            show Go p.tables e below (P0 Z p0 p1 p2 p3 h0 n0 s) (T404.setTop (mkF m 91 #[.val (.int p0), .val (.int p1), .val (.int p2), .val (.int p3), .val (.int (3 : Int32)), .val (.int z391), .val (.int z394), .val (.int z397), .unset, .unset, .unset, .unset, .unset, .unset] [(.int z394), (.int (1 : Int32)), (.ref b398), (.ref b398)]))
            obtain ⟨cl409, Ar409, hi409, -⟩ := F408.at (j := (1 : Int32)) (by decide) (Nat.le_of_ble_eq_true rfl)
            obtain ⟨T409, h409, X409, e409, W409, st409⟩ := stC Y404 hx hZ e404 Ar409 (j := (1 : Int32)) hi409 (g := (mkF m 91 #[.val (.int p0), .val (.int p1), .val (.int p2), .val (.int p3), .val (.int (3 : Int32)), .val (.int z391), .val (.int z394), .val (.int z397), .unset, .unset, .unset, .unset, .unset, .unset] [(.int z394), (.int (1 : Int32)), (.ref b398), (.ref b398)])) rfl rfl (hb hby at_91)
            have F410 : Sta Z h409 "java/lang/String" "COMPACT_STRINGS" "Z" (.int zc) := F405.wr W409
            have F411 : Sta Z h409 "jdk/internal/util/Preconditions" "SIOOBE_FORMATTER" "Ljava/util/function/BiFunction;" fm := F406.wr W409
            have F412 : n0 ≤ h409.size := Nat.le_trans F407 (Keep.of_wr W409).1
            have F413 : ArL Z h409 b398 .char [(.int (nar .char z391)), (.int (nar .char z394)), (.int (0 : Int32))] := F408.set W409
            obtain ⟨Lo409, Y409, N409⟩ := pk X409 (Fr.snoc X409 N404 g399)
            refine Go.back st409 ?_
            show Go p.tables e below (P0 Z p0 p1 p2 p3 h0 n0 s) (T409.setTop (mkF m 92 #[.val (.int p0), .val (.int p1), .val (.int p2), .val (.int p3), .val (.int (3 : Int32)), .val (.int z391), .val (.int z394), .val (.int z397), .unset, .unset, .unset, .unset, .unset, .unset] [(.ref b398)]))
            refine Go.back (fun t k => XS.dup Y409.here hx rfl (hb hby at_92) rfl rfl k) ?_
            show Go p.tables e below (P0 Z p0 p1 p2 p3 h0 n0 s) (T409.setTop (mkF m 93 #[.val (.int p0), .val (.int p1), .val (.int p2), .val (.int p3), .val (.int (3 : Int32)), .val (.int z391), .val (.int z394), .val (.int z397), .unset, .unset, .unset, .unset, .unset, .unset] [(.ref b398), (.ref b398)]))
            refine Go.back (fun t k => XS.iconst Y409.here hx rfl (hb hby at_93) k) ?_
            show Go p.tables e below (P0 Z p0 p1 p2 p3 h0 n0 s) (T409.setTop (mkF m 94 #[.val (.int p0), .val (.int p1), .val (.int p2), .val (.int p3), .val (.int (3 : Int32)), .val (.int z391), .val (.int z394), .val (.int z397), .unset, .unset, .unset, .unset, .unset, .unset] [(.int (2 : Int32)), (.ref b398), (.ref b398)]))
            refine Go.back (fun t k => XS.iload Y409.here hx rfl (hb hby at_94) rfl  k) ?_
            show Go p.tables e below (P0 Z p0 p1 p2 p3 h0 n0 s) (T409.setTop (mkF m 96 #[.val (.int p0), .val (.int p1), .val (.int p2), .val (.int p3), .val (.int (3 : Int32)), .val (.int z391), .val (.int z394), .val (.int z397), .unset, .unset, .unset, .unset, .unset, .unset] [(.int z397), (.int (2 : Int32)), (.ref b398), (.ref b398)]))
            obtain ⟨cl414, Ar414, hi414, -⟩ := F413.at (j := (2 : Int32)) (by decide) (Nat.le_of_ble_eq_true rfl)
            obtain ⟨T414, h414, X414, e414, W414, st414⟩ := stC Y409 hx hZ e409 Ar414 (j := (2 : Int32)) hi414 (g := (mkF m 96 #[.val (.int p0), .val (.int p1), .val (.int p2), .val (.int p3), .val (.int (3 : Int32)), .val (.int z391), .val (.int z394), .val (.int z397), .unset, .unset, .unset, .unset, .unset, .unset] [(.int z397), (.int (2 : Int32)), (.ref b398), (.ref b398)])) rfl rfl (hb hby at_96)
            have F415 : Sta Z h414 "java/lang/String" "COMPACT_STRINGS" "Z" (.int zc) := F410.wr W414
            have F416 : Sta Z h414 "jdk/internal/util/Preconditions" "SIOOBE_FORMATTER" "Ljava/util/function/BiFunction;" fm := F411.wr W414
            have F417 : n0 ≤ h414.size := Nat.le_trans F412 (Keep.of_wr W414).1
            have F418 : ArL Z h414 b398 .char [(.int (nar .char z391)), (.int (nar .char z394)), (.int (nar .char z397))] := F413.set W414
            obtain ⟨Lo414, Y414, N414⟩ := pk X414 (Fr.snoc X414 N409 g399)
            refine Go.back st414 ?_
            show Go p.tables e below (P0 Z p0 p1 p2 p3 h0 n0 s) (T414.setTop (mkF m 97 #[.val (.int p0), .val (.int p1), .val (.int p2), .val (.int p3), .val (.int (3 : Int32)), .val (.int z391), .val (.int z394), .val (.int z397), .unset, .unset, .unset, .unset, .unset, .unset] [(.ref b398)]))
            refine Go.back (fun t k => XS.astore Y414.here hx rfl (hb hby at_97) rfl rfl (l' := #[.val (.int p0), .val (.int p1), .val (.int p2), .val (.int p3), .val (.int (3 : Int32)), .val (.int z391), .val (.int z394), .val (.int z397), .val (.ref b398), .unset, .unset, .unset, .unset, .unset]) rfl k) ?_
            show Go p.tables e below (P0 Z p0 p1 p2 p3 h0 n0 s) (T414.setTop (mkF m 99 #[.val (.int p0), .val (.int p1), .val (.int p2), .val (.int p3), .val (.int (3 : Int32)), .val (.int z391), .val (.int z394), .val (.int z397), .val (.ref b398), .unset, .unset, .unset, .unset, .unset] []))
            have F419 : ArL Z h414 b398 .char [(.int z391), (.int z394), (.int z397)] := by
              have q := F418
              rw [dz391.1, dz394.1, dz397.1] at q
              exact q
            have hp : ∀ c ∈ ([z391, z394, z397] : List Int32), ¬ c < 0 ∧ ¬ (255 : Int32) < c := by
              intro c hc
              simp only [List.mem_cons, List.not_mem_nil, or_false] at hc
              rcases hc with rfl | rfl | rfl
              · exact dz391.2
              · exact dz394.2
              · exact dz397.2
            have hl : ([z391, z394, z397] : List Int32).length ≤ 3 := Nat.le_of_ble_eq_true rfl
            obtain ⟨T420, h420, X420, e420, E420, A420, D420, -, st420⟩ := newO Y414 hx hZ hown (hw _ (List.mem_of_getElem? (i := 5) rfl)) (hw _ (List.mem_of_getElem? (i := 6) rfl)) (hw _ (List.mem_of_getElem? (i := 7) rfl)) e414 (g := (mkF m 99 #[.val (.int p0), .val (.int p1), .val (.int p2), .val (.int p3), .val (.int (3 : Int32)), .val (.int z391), .val (.int z394), .val (.int z397), .val (.ref b398), .unset, .unset, .unset, .unset, .unset] [])) rfl (hb hby at_99) (by decide) (by decide)
            obtain ⟨b420, g420⟩ : ∃ z, z = h414.size := ⟨_, rfl⟩
            rw [← g420] at A420 D420 st420
            have ne421 : b398 ≠ b420 := Nat.ne_of_lt (Nat.lt_of_lt_of_le F419.lt (Nat.le_of_eq g420.symm))
            have g422 : n0 ≤ b420 := Nat.le_trans F417 (Nat.le_of_eq g420.symm)
            have F423 : Sta Z h420 "java/lang/String" "COMPACT_STRINGS" "Z" (.int zc) := F415.ext E420
            have F424 : Sta Z h420 "jdk/internal/util/Preconditions" "SIOOBE_FORMATTER" "Ljava/util/function/BiFunction;" fm := F416.ext E420
            have F425 : n0 ≤ h420.size := Nat.le_trans F417 E420.1
            have F426 : ArL Z h420 b398 .char [(.int z391), (.int z394), (.int z397)] := F419.ext E420
            have F427 : Fld Z h420 b420 "java/lang/String" "value" "[B" .null := D420 (Or.inr (hw _ (List.mem_of_getElem? (i := 20) rfl))) (ty := (.array .byte)) (by decide)
            have F428 : Fld Z h420 b420 "java/lang/String" "coder" "B" (.int (0 : Int32)) := D420 (Or.inr (hw _ (List.mem_of_getElem? (i := 21) rfl))) (ty := .byte) (by decide)
            refine Go.back st420 ?_
            show Go p.tables e below (P0 Z p0 p1 p2 p3 h0 n0 s) (T420.setTop (mkF m 102 #[.val (.int p0), .val (.int p1), .val (.int p2), .val (.int p3), .val (.int (3 : Int32)), .val (.int z391), .val (.int z394), .val (.int z397), .val (.ref b398), .unset, .unset, .unset, .unset, .unset] [(.ref b420)]))
            refine Go.back (fun t k => XS.dup X420.here hx rfl (hb hby at_102) rfl rfl k) ?_
            show Go p.tables e below (P0 Z p0 p1 p2 p3 h0 n0 s) (T420.setTop (mkF m 103 #[.val (.int p0), .val (.int p1), .val (.int p2), .val (.int p3), .val (.int (3 : Int32)), .val (.int z391), .val (.int z394), .val (.int z397), .val (.ref b398), .unset, .unset, .unset, .unset, .unset] [(.ref b420), (.ref b420)]))
            refine Go.back (fun t k => XS.aload X420.here hx rfl (hb hby at_103) rfl rfl  k) ?_
            show Go p.tables e below (P0 Z p0 p1 p2 p3 h0 n0 s) (T420.setTop (mkF m 105 #[.val (.int p0), .val (.int p1), .val (.int p2), .val (.int p3), .val (.int (3 : Int32)), .val (.int z391), .val (.int z394), .val (.int z397), .val (.ref b398), .unset, .unset, .unset, .unset, .unset] [(.ref b398), (.ref b420), (.ref b420)]))
            obtain ⟨kc429, Kv429⟩ := ArL.to_arv (3 : Int32) (.int 0) F426 rfl (by decide) (own_fitsC (cs := [z391, z394, z397]) hp)
            obtain ⟨_, _, ⟨T429, L429, k429, n429⟩, -, X429, ⟨Lc429, hQ429, l429, y429, z429⟩, st429⟩ := X420.specialBack hx (y := (⟨"java/lang/String", "<init>", "([C)V"⟩ : MethodName)) rfl hown (mvT hZ (hw _ (List.mem_of_getElem? (i := 8) rfl))) (mvT hZ (hw _ (List.mem_of_getElem? (i := 9) rfl))) (mvT hZ (hw _ (List.mem_of_getElem? (i := 10) rfl))) (by decide) (StrChars.Road.backV (W := 1) hZ hws (kI := 4) (hw _ (List.mem_of_getElem? (i := 6) rfl)) (cs := ([z391, z394, z397] : List Int32)) (bs := (List.map StrChars.lo8 [z391, z394, z397])) (n := 3) g422 F425 A420 F427 F428 Kv429 F423 hcs rfl rfl (by decide) (by decide) hp rfl (by decide) (by decide)) (g := (mkF m 105 #[.val (.int p0), .val (.int p1), .val (.int p2), .val (.int p3), .val (.int (3 : Int32)), .val (.int z391), .val (.int z394), .val (.int z397), .val (.ref b398), .unset, .unset, .unset, .unset, .unset] [(.ref b398), (.ref b420), (.ref b420)])) rfl (by rw [hml]; rfl) (Steps.refl _) (a := b420) (argsL := [(.ref b398)]) (rest := [(.ref b420)]) (lenOf pd_5 rfl) rfl (by show 2 * 0 + _ ≤ _; exact Nat.le_of_eq rfl) (hb hby at_105) (fun _ _ => ⟨rfl, e420, (by decide : 2 + 1 ≤ _), (by decide : 7 + 3 ≤ _)⟩)
            dsimp only [Pt.U, Pt.locs, Pt.cells, Pt.slots] at X429 l429 y429 z429 st429 hQ429
            subst l429 y429 z429
            obtain ⟨h429, e429⟩ : ∃ z, T429.heap = z := ⟨_, rfl⟩
            rw [e429] at hQ429
            obtain ⟨rfl, N429q, K429, Ex429, Fc429, t429b, kb429, gt429, sz429, nt429, Fv429, Av429⟩ := hQ429
            obtain ⟨Lo429, Y429, N429⟩ := pk X429 (Fr.app N414 N429q)
            have F430 : Sta Z h429 "java/lang/String" "COMPACT_STRINGS" "Z" (.int zc) := sta_keep F423 K429 (noSS (noS_exa A420) noS0)
            have F431 : Sta Z h429 "jdk/internal/util/Preconditions" "SIOOBE_FORMATTER" "Ljava/util/function/BiFunction;" fm := sta_keep F424 K429 (noSS (noS_exa A420) noS0)
            have F432 : n0 ≤ h429.size := Nat.le_trans F425 K429.1
            have F433 : ArL Z h429 b398 .char [(.int z391), (.int z394), (.int z397)] := F426.keep K429 (ninS ne421 nin0)
            have F434 : Exa Z h429 b420 "java/lang/String" := A420.keep K429
            have At429 : ArL Z h429 t429b .byte (List.map Value.int (List.map StrChars.lo8 [z391, z394, z397])) := ArL.of_arv Av429 rfl
            refine Go.trans st429 ?_
            show Go p.tables e below (P0 Z p0 p1 p2 p3 h0 n0 s) (T429.setTop (mkF m 108 #[.val (.int p0), .val (.int p1), .val (.int p2), .val (.int p3), .val (.int (3 : Int32)), .val (.int z391), .val (.int z394), .val (.int z397), .val (.ref b398), .unset, .unset, .unset, .unset, .unset] [(.ref b420)]))
            refine Go.back (fun t k => XS.astore Y429.here hx rfl (hb hby at_108) rfl rfl (l' := #[.val (.int p0), .val (.int p1), .val (.int p2), .val (.int p3), .val (.int (3 : Int32)), .val (.int z391), .val (.int z394), .val (.int z397), .val (.ref b398), .val (.ref b420), .unset, .unset, .unset, .unset]) rfl k) ?_
            show Go p.tables e below (P0 Z p0 p1 p2 p3 h0 n0 s) (T429.setTop (mkF m 110 #[.val (.int p0), .val (.int p1), .val (.int p2), .val (.int p3), .val (.int (3 : Int32)), .val (.int z391), .val (.int z394), .val (.int z397), .val (.ref b398), .val (.ref b420), .unset, .unset, .unset, .unset] []))
            obtain ⟨T435, h435, X435, e435, E435, A435, D435, -, st435⟩ := newO Y429 hx hZ hown (hw _ (List.mem_of_getElem? (i := 26) rfl)) (hw _ (List.mem_of_getElem? (i := 27) rfl)) (hw _ (List.mem_of_getElem? (i := 28) rfl)) e429 (g := (mkF m 110 #[.val (.int p0), .val (.int p1), .val (.int p2), .val (.int p3), .val (.int (3 : Int32)), .val (.int z391), .val (.int z394), .val (.int z397), .val (.ref b398), .val (.ref b420), .unset, .unset, .unset, .unset] [])) rfl (hb hby at_110) (by decide) (by decide)
            obtain ⟨b435, g435⟩ : ∃ z, z = h429.size := ⟨_, rfl⟩
            rw [← g435] at A435 D435 st435
            have ne436 : b398 ≠ b435 := Nat.ne_of_lt (Nat.lt_of_lt_of_le F433.lt (Nat.le_of_eq g435.symm))
            have ne437 : b420 ≠ b435 := Nat.ne_of_lt (Nat.lt_of_lt_of_le F434.lt (Nat.le_of_eq g435.symm))
            have ne438 : t429b ≠ b435 := Nat.ne_of_lt (Nat.lt_of_lt_of_le At429.lt (Nat.le_of_eq g435.symm))
            have g439 : n0 ≤ b435 := Nat.le_trans F432 (Nat.le_of_eq g435.symm)
            have F440 : Sta Z h435 "java/lang/String" "COMPACT_STRINGS" "Z" (.int zc) := F430.ext E435
            have F441 : Sta Z h435 "jdk/internal/util/Preconditions" "SIOOBE_FORMATTER" "Ljava/util/function/BiFunction;" fm := F431.ext E435
            have F442 : n0 ≤ h435.size := Nat.le_trans F432 E435.1
            have F443 : ArL Z h435 b398 .char [(.int z391), (.int z394), (.int z397)] := F433.ext E435
            have F444 : Exa Z h435 b420 "java/lang/String" := F434.ext E435
            have F445 : Fld Z h435 b420 "java/lang/String" "coder" "B" (.int (0 : Int32)) := Fc429.ext E435
            have F446 : Fld Z h435 b420 "java/lang/String" "value" "[B" (.ref t429b) := Fv429.ext E435
            have F447 : ArL Z h435 t429b .byte (List.map Value.int (List.map StrChars.lo8 [z391, z394, z397])) := At429.ext E435
            have F448 : Fld Z h435 b435 "com/example/paylode/paylode/header/HeaderReader" "text" "Ljava/lang/String;" .null := D435 (Or.inr (hw _ (List.mem_of_getElem? (i := 35) rfl))) (ty := (.object "java/lang/String")) (by decide)
            have F449 : Fld Z h435 b435 "com/example/paylode/paylode/header/HeaderReader" "what" "Ljava/lang/String;" .null := D435 (Or.inr (hw _ (List.mem_of_getElem? (i := 37) rfl))) (ty := (.object "java/lang/String")) (by decide)
            have F450 : Fld Z h435 b435 "com/example/paylode/paylode/header/HeaderReader" "position" "I" (.int (0 : Int32)) := D435 (Or.inl (hw _ (List.mem_of_getElem? (i := 44) rfl))) (ty := .int) (by decide)
            refine Go.back st435 ?_
            show Go p.tables e below (P0 Z p0 p1 p2 p3 h0 n0 s) (T435.setTop (mkF m 113 #[.val (.int p0), .val (.int p1), .val (.int p2), .val (.int p3), .val (.int (3 : Int32)), .val (.int z391), .val (.int z394), .val (.int z397), .val (.ref b398), .val (.ref b420), .unset, .unset, .unset, .unset] [(.ref b435)]))
            refine Go.back (fun t k => XS.dup X435.here hx rfl (hb hby at_113) rfl rfl k) ?_
            show Go p.tables e below (P0 Z p0 p1 p2 p3 h0 n0 s) (T435.setTop (mkF m 114 #[.val (.int p0), .val (.int p1), .val (.int p2), .val (.int p3), .val (.int (3 : Int32)), .val (.int z391), .val (.int z394), .val (.int z397), .val (.ref b398), .val (.ref b420), .unset, .unset, .unset, .unset] [(.ref b435), (.ref b435)]))
            refine Go.back (fun t k => XS.aload X435.here hx rfl (hb hby at_114) rfl rfl  k) ?_
            show Go p.tables e below (P0 Z p0 p1 p2 p3 h0 n0 s) (T435.setTop (mkF m 116 #[.val (.int p0), .val (.int p1), .val (.int p2), .val (.int p3), .val (.int (3 : Int32)), .val (.int z391), .val (.int z394), .val (.int z397), .val (.ref b398), .val (.ref b420), .unset, .unset, .unset, .unset] [(.ref b420), (.ref b435), (.ref b435)]))
            obtain ⟨aV, TV, hV, kV, XV, eV, EV, hSV, hkV, hZV, hownV, stV⟩ := ldcS (s := s) (vm0 := s.vm) X435 hx hZ hown (hw _ (List.mem_of_getElem? (i := 29) rfl)) (fun d hd => hw d (own_wS d hd)) e435 ((State.WarmedH.refl s).since h435.size) (Nat.le_refl _) (g := (mkF m 116 #[.val (.int p0), .val (.int p1), .val (.int p2), .val (.int p3), .val (.int (3 : Int32)), .val (.int z391), .val (.int z394), .val (.int z397), .val (.ref b398), .val (.ref b420), .unset, .unset, .unset, .unset] [(.ref b420), (.ref b435), (.ref b435)])) rfl (hb hby at_116) (n := 20) (by decide +kernel) (by decide) (by decide) (by decide)
            have F451 : Sta Z hV "java/lang/String" "COMPACT_STRINGS" "Z" (.int zc) := F440.ext EV
            have F452 : Sta Z hV "jdk/internal/util/Preconditions" "SIOOBE_FORMATTER" "Ljava/util/function/BiFunction;" fm := F441.ext EV
            have F453 : n0 ≤ hV.size := Nat.le_trans F442 EV.1
            have F454 : ArL Z hV b398 .char [(.int z391), (.int z394), (.int z397)] := F443.ext EV
            have F455 : Exa Z hV b420 "java/lang/String" := F444.ext EV
            have F456 : Fld Z hV b420 "java/lang/String" "coder" "B" (.int (0 : Int32)) := F445.ext EV
            have F457 : Fld Z hV b420 "java/lang/String" "value" "[B" (.ref t429b) := F446.ext EV
            have F458 : ArL Z hV t429b .byte (List.map Value.int (List.map StrChars.lo8 [z391, z394, z397])) := F447.ext EV
            have F459 : Exa Z hV b435 "com/example/paylode/paylode/header/HeaderReader" := A435.ext EV
            have F460 : Fld Z hV b435 "com/example/paylode/paylode/header/HeaderReader" "text" "Ljava/lang/String;" .null := F448.ext EV
            have F461 : Fld Z hV b435 "com/example/paylode/paylode/header/HeaderReader" "what" "Ljava/lang/String;" .null := F449.ext EV
            have F462 : Fld Z hV b435 "com/example/paylode/paylode/header/HeaderReader" "position" "I" (.int (0 : Int32)) := F450.ext EV
            have hZ : Z.Warmed39 (s.setVm TV.vm).vm := hZV
            have hown := hownV
            refine Go.back stV ?_
            show Go p.tables e below (P0 Z p0 p1 p2 p3 h0 n0 s) (TV.setTop (mkF m 118 #[.val (.int p0), .val (.int p1), .val (.int p2), .val (.int p3), .val (.int (3 : Int32)), .val (.int z391), .val (.int z394), .val (.int z397), .val (.ref b398), .val (.ref b420), .unset, .unset, .unset, .unset] [(.ref aV), (.ref b420), (.ref b435), (.ref b435)]))
            obtain ⟨_, _, ⟨T463, L463, k463, n463⟩, -, X463, ⟨Lc463, hQ463, l463, y463, z463⟩, st463⟩ := XV.specialBack hx (y := (⟨"com/example/paylode/paylode/header/HeaderReader", "<init>", "(Ljava/lang/String;Ljava/lang/String;)V"⟩ : MethodName)) rfl hown (mvT hZ (hw _ (List.mem_of_getElem? (i := 30) rfl))) (mvT hZ (hw _ (List.mem_of_getElem? (i := 31) rfl))) (mvT hZ (hw _ (List.mem_of_getElem? (i := 32) rfl))) (by decide) (backOf (W := 1) (rm5 l Z a0 hw [] b435 b420 aV hV n0 F453 F459 F460 F461 F462 g439) hZ (hw _ (List.mem_of_getElem? (i := 32) rfl)) (hw _ (List.mem_of_getElem? (i := 28) rfl)) (by decide) (by decide)) (g := (mkF m 118 #[.val (.int p0), .val (.int p1), .val (.int p2), .val (.int p3), .val (.int (3 : Int32)), .val (.int z391), .val (.int z394), .val (.int z397), .val (.ref b398), .val (.ref b420), .unset, .unset, .unset, .unset] [(.ref aV), (.ref b420), (.ref b435), (.ref b435)])) rfl (by rw [hml]; rfl) (Steps.refl _) (a := b435) (argsL := [(.ref b420), (.ref aV)]) (rest := [(.ref b435)]) (lenOf pd_6 rfl) rfl (by show 2 * 0 + _ ≤ _; exact Nat.le_of_eq rfl) (hb hby at_118) (fun _ _ => ⟨rfl, eV, (by decide : 6 + 0 ≤ _), (by decide : 37 + 0 ≤ _)⟩)
            dsimp only [Pt.U, Pt.locs, Pt.cells, Pt.slots] at X463 l463 y463 z463 st463 hQ463
            subst l463 y463 z463
            obtain ⟨h463, e463⟩ : ∃ z, T463.heap = z := ⟨_, rfl⟩
            rw [e463] at hQ463
            obtain ⟨rfl, N463q, K463, F474, F475⟩ := hQ463
            obtain ⟨Lo463, Y463, N463⟩ := pk X463 (Fr.app N429 N463q)
            have F464 : Sta Z h463 "java/lang/String" "COMPACT_STRINGS" "Z" (.int zc) := sta_keep F451 K463 (noSS (noS_exa F459) noS0)
            have F465 : Sta Z h463 "jdk/internal/util/Preconditions" "SIOOBE_FORMATTER" "Ljava/util/function/BiFunction;" fm := sta_keep F452 K463 (noSS (noS_exa F459) noS0)
            have F466 : n0 ≤ h463.size := Nat.le_trans F453 K463.1
            have F467 : ArL Z h463 b398 .char [(.int z391), (.int z394), (.int z397)] := F454.keep K463 (ninS ne436 nin0)
            have F468 : Exa Z h463 b420 "java/lang/String" := F455.keep K463
            have F469 : Fld Z h463 b420 "java/lang/String" "coder" "B" (.int (0 : Int32)) := F456.keep K463 (ninS ne437 nin0)
            have F470 : Fld Z h463 b420 "java/lang/String" "value" "[B" (.ref t429b) := F457.keep K463 (ninS ne437 nin0)
            have F471 : ArL Z h463 t429b .byte (List.map Value.int (List.map StrChars.lo8 [z391, z394, z397])) := F458.keep K463 (ninS ne438 nin0)
            have F472 : Exa Z h463 b435 "com/example/paylode/paylode/header/HeaderReader" := F459.keep K463
            have F473 : kV ≤ h463.size := Nat.le_trans hkV K463.1
            refine Go.trans st463 ?_
            show Go p.tables e below (P0 Z p0 p1 p2 p3 h0 n0 s) (T463.setTop (mkF m 121 #[.val (.int p0), .val (.int p1), .val (.int p2), .val (.int p3), .val (.int (3 : Int32)), .val (.int z391), .val (.int z394), .val (.int z397), .val (.ref b398), .val (.ref b420), .unset, .unset, .unset, .unset] [(.ref b435)]))
            refine Go.back (fun t k => XS.astore Y463.here hx rfl (hb hby at_121) rfl rfl (l' := #[.val (.int p0), .val (.int p1), .val (.int p2), .val (.int p3), .val (.int (3 : Int32)), .val (.int z391), .val (.int z394), .val (.int z397), .val (.ref b398), .val (.ref b420), .val (.ref b435), .unset, .unset, .unset]) rfl k) ?_
            show Go p.tables e below (P0 Z p0 p1 p2 p3 h0 n0 s) (T463.setTop (mkF m 123 #[.val (.int p0), .val (.int p1), .val (.int p2), .val (.int p3), .val (.int (3 : Int32)), .val (.int z391), .val (.int z394), .val (.int z397), .val (.ref b398), .val (.ref b420), .val (.ref b435), .unset, .unset, .unset] []))
            refine Go.back (fun t k => XS.aload Y463.here hx rfl (hb hby at_123) rfl rfl  k) ?_
            show Go p.tables e below (P0 Z p0 p1 p2 p3 h0 n0 s) (T463.setTop (mkF m 125 #[.val (.int p0), .val (.int p1), .val (.int p2), .val (.int p3), .val (.int (3 : Int32)), .val (.int z391), .val (.int z394), .val (.int z397), .val (.ref b398), .val (.ref b420), .val (.ref b435), .unset, .unset, .unset] [(.ref b435)]))
            obtain ⟨cq476, kq476, q476a, q476b, q476c⟩ := isOf hZ e463 F472
            obtain ⟨_, _, ⟨T476, L476, k476, n476⟩, -, X476, ⟨Lc476, hQ476, l476, y476, z476⟩, st476⟩ := Y463.virtualBack hx (y := (⟨"com/example/paylode/paylode/header/HeaderReader", "position", "()I"⟩ : MethodName)) (z := (⟨"com/example/paylode/paylode/header/HeaderReader", "position", "()I"⟩ : MethodName)) hown (mvT hZ (hw _ (List.mem_of_getElem? (i := 38) rfl))) (mvT hZ (hw _ (List.mem_of_getElem? (i := 39) rfl))) (notFace_of_selects (args := #[]) (mvT hZ (hw _ (List.mem_of_getElem? (i := 41) rfl)))) (mvT hZ (hw _ (List.mem_of_getElem? (i := 41) rfl))) (mvT hZ (hw _ (List.mem_of_getElem? (i := 40) rfl))) (by decide) (backOf (W := 0) (rm6 l Z a0 hw [] b435 (0 : Int32) h463 n0 F466 F474) hZ (hw _ (List.mem_of_getElem? (i := 42) rfl)) (hw _ (List.mem_of_getElem? (i := 28) rfl)) (by decide) (by decide)) q476a q476c (g := (mkF m 125 #[.val (.int p0), .val (.int p1), .val (.int p2), .val (.int p3), .val (.int (3 : Int32)), .val (.int z391), .val (.int z394), .val (.int z397), .val (.ref b398), .val (.ref b420), .val (.ref b435), .unset, .unset, .unset] [(.ref b435)])) rfl (by rw [hml]; rfl) (Steps.refl _) (argsL := []) (rest := []) (lenOf pd_0 rfl) rfl (by show 2 * 0 + _ ≤ _; exact Nat.le_of_eq rfl) (hb hby at_125) (fun _ _ => ⟨rfl, e463, (by decide : 6 + 0 ≤ _), (by decide : 37 + 0 ≤ _)⟩)
            dsimp only [Pt.U, Pt.locs, Pt.cells, Pt.slots] at X476 l476 y476 z476 st476 hQ476
            subst l476 y476 z476
            obtain ⟨rfl, N476q, e476⟩ := hQ476
            obtain ⟨Lo476, Y476, N476⟩ := pk X476 (Fr.app N463 N476q)
            refine Go.trans st476 ?_
            show Go p.tables e below (P0 Z p0 p1 p2 p3 h0 n0 s) (T476.setTop (mkF m 128 #[.val (.int p0), .val (.int p1), .val (.int p2), .val (.int p3), .val (.int (3 : Int32)), .val (.int z391), .val (.int z394), .val (.int z397), .val (.ref b398), .val (.ref b420), .val (.ref b435), .unset, .unset, .unset] [(.int (0 : Int32))]))
            refine Go.back (fun t k => XS.ifNo Y476.here hx rfl (hb hby at_128) rfl ((if0 _ _).trans (teq (by decide)).2) k) ?_
            show Go p.tables e below (P0 Z p0 p1 p2 p3 h0 n0 s) (T476.setTop (mkF m 131 #[.val (.int p0), .val (.int p1), .val (.int p2), .val (.int p3), .val (.int (3 : Int32)), .val (.int z391), .val (.int z394), .val (.int z397), .val (.ref b398), .val (.ref b420), .val (.ref b435), .unset, .unset, .unset] []))
            refine Go.back (fun t k => XS.aload Y476.here hx rfl (hb hby at_131) rfl rfl  k) ?_
            show Go p.tables e below (P0 Z p0 p1 p2 p3 h0 n0 s) (T476.setTop (mkF m 133 #[.val (.int p0), .val (.int p1), .val (.int p2), .val (.int p3), .val (.int (3 : Int32)), .val (.int z391), .val (.int z394), .val (.int z397), .val (.ref b398), .val (.ref b420), .val (.ref b435), .unset, .unset, .unset] [(.ref b435)]))
            obtain ⟨cq477, kq477, q477a, q477b, q477c⟩ := isOf hZ e476 F472
            obtain ⟨_, _, ⟨T477, L477, k477, n477⟩, -, X477, ⟨Lc477, hQ477, l477, y477, z477⟩, st477⟩ := Y476.virtualBack hx (y := (⟨"com/example/paylode/paylode/header/HeaderReader", "atEnd", "()Z"⟩ : MethodName)) (z := (⟨"com/example/paylode/paylode/header/HeaderReader", "atEnd", "()Z"⟩ : MethodName)) hown (mvT hZ (hw _ (List.mem_of_getElem? (i := 45) rfl))) (mvT hZ (hw _ (List.mem_of_getElem? (i := 46) rfl))) (notFace_of_selects (args := #[]) (mvT hZ (hw _ (List.mem_of_getElem? (i := 48) rfl)))) (mvT hZ (hw _ (List.mem_of_getElem? (i := 48) rfl))) (mvT hZ (hw _ (List.mem_of_getElem? (i := 47) rfl))) (by decide) (backOf (W := 0) (rm7 l Z a0 hw [] b435 b420 t429b [z391, z394, z397] zc fm (0 : Int32) h463 n0 F466 F472 F475 F474 F468 F469 F470 F471 F464 F465 hcs hp hl hfm) hZ (hw _ (List.mem_of_getElem? (i := 49) rfl)) (hw _ (List.mem_of_getElem? (i := 28) rfl)) (by decide) (by decide)) q477a q477c (g := (mkF m 133 #[.val (.int p0), .val (.int p1), .val (.int p2), .val (.int p3), .val (.int (3 : Int32)), .val (.int z391), .val (.int z394), .val (.int z397), .val (.ref b398), .val (.ref b420), .val (.ref b435), .unset, .unset, .unset] [(.ref b435)])) rfl (by rw [hml]; rfl) (Steps.refl _) (argsL := []) (rest := []) (lenOf pd_1 rfl) rfl (by show 2 * 0 + _ ≤ _; exact Nat.le_of_eq rfl) (hb hby at_133) (fun _ _ => ⟨rfl, e476, (by decide : 6 + 0 ≤ _), (by decide : 37 + 0 ≤ _)⟩)
            dsimp only [Pt.U, Pt.locs, Pt.cells, Pt.slots] at X477 l477 y477 z477 st477 hQ477
            subst l477 y477 z477
            obtain ⟨rfl, N477q, e477⟩ := hQ477
            obtain ⟨Lo477, Y477, N477⟩ := pk X477 (Fr.app N476 N477q)
            refine Go.trans st477 ?_
            rw [show (f7 [z391, z394, z397] (0 : Int32)) = false from by first | rfl | simp [f7]]
            show Go p.tables e below (P0 Z p0 p1 p2 p3 h0 n0 s) (T477.setTop (mkF m 136 #[.val (.int p0), .val (.int p1), .val (.int p2), .val (.int p3), .val (.int (3 : Int32)), .val (.int z391), .val (.int z394), .val (.int z397), .val (.ref b398), .val (.ref b420), .val (.ref b435), .unset, .unset, .unset] [(.int (0 : Int32))]))
            refine Go.back (fun t k => XS.iload Y477.here hx rfl (hb hby at_136) rfl  k) ?_
            show Go p.tables e below (P0 Z p0 p1 p2 p3 h0 n0 s) (T477.setTop (mkF m 138 #[.val (.int p0), .val (.int p1), .val (.int p2), .val (.int p3), .val (.int (3 : Int32)), .val (.int z391), .val (.int z394), .val (.int z397), .val (.ref b398), .val (.ref b420), .val (.ref b435), .unset, .unset, .unset] [(.int (3 : Int32)), (.int (0 : Int32))]))
            refine Go.back (fun t k => XS.ifYes Y477.here hx rfl (pc0 := 138) (pc' := 145) rfl (hb hby at_138) rfl ((if0 _ _).trans (feq (by decide)).2) (by decide) (by decide) k) ?_
            show Go p.tables e below (P0 Z p0 p1 p2 p3 h0 n0 s) (T477.setTop (mkF m 145 #[.val (.int p0), .val (.int p1), .val (.int p2), .val (.int p3), .val (.int (3 : Int32)), .val (.int z391), .val (.int z394), .val (.int z397), .val (.ref b398), .val (.ref b420), .val (.ref b435), .unset, .unset, .unset] [(.int (0 : Int32))]))
            refine Go.back (fun t k => XS.iconst Y477.here hx rfl (hb hby at_145) k) ?_
            show Go p.tables e below (P0 Z p0 p1 p2 p3 h0 n0 s) (T477.setTop (mkF m 146 #[.val (.int p0), .val (.int p1), .val (.int p2), .val (.int p3), .val (.int (3 : Int32)), .val (.int z391), .val (.int z394), .val (.int z397), .val (.ref b398), .val (.ref b420), .val (.ref b435), .unset, .unset, .unset] [(.int (0 : Int32)), (.int (0 : Int32))]))
            refine Go.back (fun t k => XS.icmpNo Y477.here hx rfl (hb hby at_146) rfl (teq (by decide)).2 k) ?_
            show Go p.tables e below (P0 Z p0 p1 p2 p3 h0 n0 s) (T477.setTop (mkF m 149 #[.val (.int p0), .val (.int p1), .val (.int p2), .val (.int p3), .val (.int (3 : Int32)), .val (.int z391), .val (.int z394), .val (.int z397), .val (.ref b398), .val (.ref b420), .val (.ref b435), .unset, .unset, .unset] []))
            refine Go.back (fun t k => XS.iconst Y477.here hx rfl (hb hby at_149) k) ?_
            show Go p.tables e below (P0 Z p0 p1 p2 p3 h0 n0 s) (T477.setTop (mkF m 150 #[.val (.int p0), .val (.int p1), .val (.int p2), .val (.int p3), .val (.int (3 : Int32)), .val (.int z391), .val (.int z394), .val (.int z397), .val (.ref b398), .val (.ref b420), .val (.ref b435), .unset, .unset, .unset] [(.int (1 : Int32))]))
            refine Go.back (fun t k => XS.goto Y477.here hx rfl (pc0 := 150) (pc' := 154) rfl (hb hby at_150) (by decide) (by decide) k) ?_
            show Go p.tables e below (P0 Z p0 p1 p2 p3 h0 n0 s) (T477.setTop (mkF m 154 #[.val (.int p0), .val (.int p1), .val (.int p2), .val (.int p3), .val (.int (3 : Int32)), .val (.int z391), .val (.int z394), .val (.int z397), .val (.ref b398), .val (.ref b420), .val (.ref b435), .unset, .unset, .unset] [(.int (1 : Int32))]))
            refine Go.back (fun t k => XS.istore Y477.here hx rfl (hb hby at_154) rfl (l' := #[.val (.int p0), .val (.int p1), .val (.int p2), .val (.int p3), .val (.int (3 : Int32)), .val (.int z391), .val (.int z394), .val (.int z397), .val (.ref b398), .val (.ref b420), .val (.ref b435), .val (.int (1 : Int32)), .unset, .unset]) rfl k) ?_
            show Go p.tables e below (P0 Z p0 p1 p2 p3 h0 n0 s) (T477.setTop (mkF m 156 #[.val (.int p0), .val (.int p1), .val (.int p2), .val (.int p3), .val (.int (3 : Int32)), .val (.int z391), .val (.int z394), .val (.int z397), .val (.ref b398), .val (.ref b420), .val (.ref b435), .val (.int (1 : Int32)), .unset, .unset] []))
            refine Go.back (fun t k => XS.iload Y477.here hx rfl (hb hby at_156) rfl  k) ?_
            show Go p.tables e below (P0 Z p0 p1 p2 p3 h0 n0 s) (T477.setTop (mkF m 158 #[.val (.int p0), .val (.int p1), .val (.int p2), .val (.int p3), .val (.int (3 : Int32)), .val (.int z391), .val (.int z394), .val (.int z397), .val (.ref b398), .val (.ref b420), .val (.ref b435), .val (.int (1 : Int32)), .unset, .unset] [(.int (3 : Int32))]))
            refine Go.back (fun t k => XS.iconst Y477.here hx rfl (hb hby at_158) k) ?_
            show Go p.tables e below (P0 Z p0 p1 p2 p3 h0 n0 s) (T477.setTop (mkF m 159 #[.val (.int p0), .val (.int p1), .val (.int p2), .val (.int p3), .val (.int (3 : Int32)), .val (.int z391), .val (.int z394), .val (.int z397), .val (.ref b398), .val (.ref b420), .val (.ref b435), .val (.int (1 : Int32)), .unset, .unset] [(.int (1 : Int32)), (.int (3 : Int32))]))
            refine Go.back (fun t k => XS.icmpNo Y477.here hx rfl (hb hby at_159) rfl (flt (by decide)).1 k) ?_
            show Go p.tables e below (P0 Z p0 p1 p2 p3 h0 n0 s) (T477.setTop (mkF m 162 #[.val (.int p0), .val (.int p1), .val (.int p2), .val (.int p3), .val (.int (3 : Int32)), .val (.int z391), .val (.int z394), .val (.int z397), .val (.ref b398), .val (.ref b420), .val (.ref b435), .val (.int (1 : Int32)), .unset, .unset] []))
            refine Go.back (fun t k => XS.iload Y477.here hx rfl (hb hby at_162) rfl  k) ?_
            show Go p.tables e below (P0 Z p0 p1 p2 p3 h0 n0 s) (T477.setTop (mkF m 164 #[.val (.int p0), .val (.int p1), .val (.int p2), .val (.int p3), .val (.int (3 : Int32)), .val (.int z391), .val (.int z394), .val (.int z397), .val (.ref b398), .val (.ref b420), .val (.ref b435), .val (.int (1 : Int32)), .unset, .unset] [(.int z391)]))
            obtain ⟨_, _, ⟨T478, L478, k478, n478⟩, -, X478, ⟨Lc478, hQ478, l478, y478, z478⟩, st478⟩ := Jvm.LawKit.callS Y477 hx (y := (⟨"com/example/paylode/paylode/header/HeaderReaderAtEndPinLaw", "ws", "(C)Z"⟩ : MethodName)) hown (mvT hZ (hw _ (List.mem_of_getElem? (i := 82) rfl))) (mvT hZ (hw _ (List.mem_of_getElem? (i := 83) rfl))) (mvT hZ (hw _ (List.mem_of_getElem? (i := 2) rfl))) (mvT hZ (hw _ (List.mem_of_getElem? (i := 84) rfl))) (by decide) (backOf (W := 0) (rm15 l Z a0 hw [] z391 h463 n0) hZ (hw _ (List.mem_of_getElem? (i := 84) rfl)) (hw _ (List.mem_of_getElem? (i := 2) rfl)) (by decide) (by decide)) (g := (mkF m 164 #[.val (.int p0), .val (.int p1), .val (.int p2), .val (.int p3), .val (.int (3 : Int32)), .val (.int z391), .val (.int z394), .val (.int z397), .val (.ref b398), .val (.ref b420), .val (.ref b435), .val (.int (1 : Int32)), .unset, .unset] [(.int z391)])) rfl (by rw [hml]; rfl) (argsL := [(.int z391)]) (rest := []) (lenOf pd_3 rfl) rfl (by show 2 * 0 + _ ≤ _; exact Nat.le_of_eq rfl) (hb hby at_164) (fun _ _ => ⟨rfl, e477, (by decide : 6 + 0 ≤ _), (by decide : 37 + 0 ≤ _)⟩)
            dsimp only [Pt.U, Pt.locs, Pt.cells, Pt.slots] at X478 l478 y478 z478 st478 hQ478
            subst l478 y478 z478
            obtain ⟨rfl, N478q, e478⟩ := hQ478
            obtain ⟨Lo478, Y478, N478⟩ := pk X478 (Fr.app N477 N478q)
            refine Go.back st478 ?_
            show Go p.tables e below (P0 Z p0 p1 p2 p3 h0 n0 s) (T478.setTop (mkF m 167 #[.val (.int p0), .val (.int p1), .val (.int p2), .val (.int p3), .val (.int (3 : Int32)), .val (.int z391), .val (.int z394), .val (.int z397), .val (.ref b398), .val (.ref b420), .val (.ref b435), .val (.int (1 : Int32)), .unset, .unset] [(.int (b2i (f15 z391)))]))
            by_cases hc479 : (f15 z391) = true
            · refine Go.back (fun t k => XS.ifNo Y478.here hx rfl (hb hby at_167) rfl ((if0 _ _).trans (feq (b2i_t hc479)).1) k) ?_
              show Go p.tables e below (P0 Z p0 p1 p2 p3 h0 n0 s) (T478.setTop (mkF m 170 #[.val (.int p0), .val (.int p1), .val (.int p2), .val (.int p3), .val (.int (3 : Int32)), .val (.int z391), .val (.int z394), .val (.int z397), .val (.ref b398), .val (.ref b420), .val (.ref b435), .val (.int (1 : Int32)), .unset, .unset] []))
              refine Go.back (fun t k => XS.iload Y478.here hx rfl (hb hby at_170) rfl  k) ?_
              show Go p.tables e below (P0 Z p0 p1 p2 p3 h0 n0 s) (T478.setTop (mkF m 172 #[.val (.int p0), .val (.int p1), .val (.int p2), .val (.int p3), .val (.int (3 : Int32)), .val (.int z391), .val (.int z394), .val (.int z397), .val (.ref b398), .val (.ref b420), .val (.ref b435), .val (.int (1 : Int32)), .unset, .unset] [(.int (3 : Int32))]))
              refine Go.back (fun t k => XS.iconst Y478.here hx rfl (hb hby at_172) k) ?_
              show Go p.tables e below (P0 Z p0 p1 p2 p3 h0 n0 s) (T478.setTop (mkF m 173 #[.val (.int p0), .val (.int p1), .val (.int p2), .val (.int p3), .val (.int (3 : Int32)), .val (.int z391), .val (.int z394), .val (.int z397), .val (.ref b398), .val (.ref b420), .val (.ref b435), .val (.int (1 : Int32)), .unset, .unset] [(.int (2 : Int32)), (.int (3 : Int32))]))
              refine Go.back (fun t k => XS.icmpNo Y478.here hx rfl (hb hby at_173) rfl (flt (by decide)).1 k) ?_
              show Go p.tables e below (P0 Z p0 p1 p2 p3 h0 n0 s) (T478.setTop (mkF m 176 #[.val (.int p0), .val (.int p1), .val (.int p2), .val (.int p3), .val (.int (3 : Int32)), .val (.int z391), .val (.int z394), .val (.int z397), .val (.ref b398), .val (.ref b420), .val (.ref b435), .val (.int (1 : Int32)), .unset, .unset] []))
              refine Go.back (fun t k => XS.iload Y478.here hx rfl (hb hby at_176) rfl  k) ?_
              show Go p.tables e below (P0 Z p0 p1 p2 p3 h0 n0 s) (T478.setTop (mkF m 178 #[.val (.int p0), .val (.int p1), .val (.int p2), .val (.int p3), .val (.int (3 : Int32)), .val (.int z391), .val (.int z394), .val (.int z397), .val (.ref b398), .val (.ref b420), .val (.ref b435), .val (.int (1 : Int32)), .unset, .unset] [(.int z394)]))
              obtain ⟨_, _, ⟨T480, L480, k480, n480⟩, -, X480, ⟨Lc480, hQ480, l480, y480, z480⟩, st480⟩ := Jvm.LawKit.callS Y478 hx (y := (⟨"com/example/paylode/paylode/header/HeaderReaderAtEndPinLaw", "ws", "(C)Z"⟩ : MethodName)) hown (mvT hZ (hw _ (List.mem_of_getElem? (i := 82) rfl))) (mvT hZ (hw _ (List.mem_of_getElem? (i := 83) rfl))) (mvT hZ (hw _ (List.mem_of_getElem? (i := 2) rfl))) (mvT hZ (hw _ (List.mem_of_getElem? (i := 84) rfl))) (by decide) (backOf (W := 0) (rm15 l Z a0 hw [] z394 h463 n0) hZ (hw _ (List.mem_of_getElem? (i := 84) rfl)) (hw _ (List.mem_of_getElem? (i := 2) rfl)) (by decide) (by decide)) (g := (mkF m 178 #[.val (.int p0), .val (.int p1), .val (.int p2), .val (.int p3), .val (.int (3 : Int32)), .val (.int z391), .val (.int z394), .val (.int z397), .val (.ref b398), .val (.ref b420), .val (.ref b435), .val (.int (1 : Int32)), .unset, .unset] [(.int z394)])) rfl (by rw [hml]; rfl) (argsL := [(.int z394)]) (rest := []) (lenOf pd_3 rfl) rfl (by show 2 * 0 + _ ≤ _; exact Nat.le_of_eq rfl) (hb hby at_178) (fun _ _ => ⟨rfl, e478, (by decide : 6 + 0 ≤ _), (by decide : 37 + 0 ≤ _)⟩)
              dsimp only [Pt.U, Pt.locs, Pt.cells, Pt.slots] at X480 l480 y480 z480 st480 hQ480
              subst l480 y480 z480
              obtain ⟨rfl, N480q, e480⟩ := hQ480
              obtain ⟨Lo480, Y480, N480⟩ := pk X480 (Fr.app N478 N480q)
              refine Go.back st480 ?_
              show Go p.tables e below (P0 Z p0 p1 p2 p3 h0 n0 s) (T480.setTop (mkF m 181 #[.val (.int p0), .val (.int p1), .val (.int p2), .val (.int p3), .val (.int (3 : Int32)), .val (.int z391), .val (.int z394), .val (.int z397), .val (.ref b398), .val (.ref b420), .val (.ref b435), .val (.int (1 : Int32)), .unset, .unset] [(.int (b2i (f15 z394)))]))
              by_cases hc481 : (f15 z394) = true
              · refine Go.back (fun t k => XS.ifNo Y480.here hx rfl (hb hby at_181) rfl ((if0 _ _).trans (feq (b2i_t hc481)).1) k) ?_
                show Go p.tables e below (P0 Z p0 p1 p2 p3 h0 n0 s) (T480.setTop (mkF m 184 #[.val (.int p0), .val (.int p1), .val (.int p2), .val (.int p3), .val (.int (3 : Int32)), .val (.int z391), .val (.int z394), .val (.int z397), .val (.ref b398), .val (.ref b420), .val (.ref b435), .val (.int (1 : Int32)), .unset, .unset] []))
                refine Go.back (fun t k => XS.iload Y480.here hx rfl (hb hby at_184) rfl  k) ?_
                show Go p.tables e below (P0 Z p0 p1 p2 p3 h0 n0 s) (T480.setTop (mkF m 186 #[.val (.int p0), .val (.int p1), .val (.int p2), .val (.int p3), .val (.int (3 : Int32)), .val (.int z391), .val (.int z394), .val (.int z397), .val (.ref b398), .val (.ref b420), .val (.ref b435), .val (.int (1 : Int32)), .unset, .unset] [(.int (3 : Int32))]))
                refine Go.back (fun t k => XS.iconst Y480.here hx rfl (hb hby at_186) k) ?_
                show Go p.tables e below (P0 Z p0 p1 p2 p3 h0 n0 s) (T480.setTop (mkF m 187 #[.val (.int p0), .val (.int p1), .val (.int p2), .val (.int p3), .val (.int (3 : Int32)), .val (.int z391), .val (.int z394), .val (.int z397), .val (.ref b398), .val (.ref b420), .val (.ref b435), .val (.int (1 : Int32)), .unset, .unset] [(.int (3 : Int32)), (.int (3 : Int32))]))
                refine Go.back (fun t k => XS.icmpNo Y480.here hx rfl (hb hby at_187) rfl (flt (by decide)).1 k) ?_
                show Go p.tables e below (P0 Z p0 p1 p2 p3 h0 n0 s) (T480.setTop (mkF m 190 #[.val (.int p0), .val (.int p1), .val (.int p2), .val (.int p3), .val (.int (3 : Int32)), .val (.int z391), .val (.int z394), .val (.int z397), .val (.ref b398), .val (.ref b420), .val (.ref b435), .val (.int (1 : Int32)), .unset, .unset] []))
                refine Go.back (fun t k => XS.iload Y480.here hx rfl (hb hby at_190) rfl  k) ?_
                show Go p.tables e below (P0 Z p0 p1 p2 p3 h0 n0 s) (T480.setTop (mkF m 192 #[.val (.int p0), .val (.int p1), .val (.int p2), .val (.int p3), .val (.int (3 : Int32)), .val (.int z391), .val (.int z394), .val (.int z397), .val (.ref b398), .val (.ref b420), .val (.ref b435), .val (.int (1 : Int32)), .unset, .unset] [(.int z397)]))
                obtain ⟨_, _, ⟨T482, L482, k482, n482⟩, -, X482, ⟨Lc482, hQ482, l482, y482, z482⟩, st482⟩ := Jvm.LawKit.callS Y480 hx (y := (⟨"com/example/paylode/paylode/header/HeaderReaderAtEndPinLaw", "ws", "(C)Z"⟩ : MethodName)) hown (mvT hZ (hw _ (List.mem_of_getElem? (i := 82) rfl))) (mvT hZ (hw _ (List.mem_of_getElem? (i := 83) rfl))) (mvT hZ (hw _ (List.mem_of_getElem? (i := 2) rfl))) (mvT hZ (hw _ (List.mem_of_getElem? (i := 84) rfl))) (by decide) (backOf (W := 0) (rm15 l Z a0 hw [] z397 h463 n0) hZ (hw _ (List.mem_of_getElem? (i := 84) rfl)) (hw _ (List.mem_of_getElem? (i := 2) rfl)) (by decide) (by decide)) (g := (mkF m 192 #[.val (.int p0), .val (.int p1), .val (.int p2), .val (.int p3), .val (.int (3 : Int32)), .val (.int z391), .val (.int z394), .val (.int z397), .val (.ref b398), .val (.ref b420), .val (.ref b435), .val (.int (1 : Int32)), .unset, .unset] [(.int z397)])) rfl (by rw [hml]; rfl) (argsL := [(.int z397)]) (rest := []) (lenOf pd_3 rfl) rfl (by show 2 * 0 + _ ≤ _; exact Nat.le_of_eq rfl) (hb hby at_192) (fun _ _ => ⟨rfl, e480, (by decide : 6 + 0 ≤ _), (by decide : 37 + 0 ≤ _)⟩)
                dsimp only [Pt.U, Pt.locs, Pt.cells, Pt.slots] at X482 l482 y482 z482 st482 hQ482
                subst l482 y482 z482
                obtain ⟨rfl, N482q, e482⟩ := hQ482
                obtain ⟨Lo482, Y482, N482⟩ := pk X482 (Fr.app N480 N482q)
                refine Go.back st482 ?_
                show Go p.tables e below (P0 Z p0 p1 p2 p3 h0 n0 s) (T482.setTop (mkF m 195 #[.val (.int p0), .val (.int p1), .val (.int p2), .val (.int p3), .val (.int (3 : Int32)), .val (.int z391), .val (.int z394), .val (.int z397), .val (.ref b398), .val (.ref b420), .val (.ref b435), .val (.int (1 : Int32)), .unset, .unset] [(.int (b2i (f15 z397)))]))
                by_cases hc483 : (f15 z397) = true
                · refine Go.back (fun t k => XS.ifNo Y482.here hx rfl (hb hby at_195) rfl ((if0 _ _).trans (feq (b2i_t hc483)).1) k) ?_
                  show Go p.tables e below (P0 Z p0 p1 p2 p3 h0 n0 s) (T482.setTop (mkF m 198 #[.val (.int p0), .val (.int p1), .val (.int p2), .val (.int p3), .val (.int (3 : Int32)), .val (.int z391), .val (.int z394), .val (.int z397), .val (.ref b398), .val (.ref b420), .val (.ref b435), .val (.int (1 : Int32)), .unset, .unset] []))
                  refine Go.back (fun t k => XS.iconst Y482.here hx rfl (hb hby at_198) k) ?_
                  show Go p.tables e below (P0 Z p0 p1 p2 p3 h0 n0 s) (T482.setTop (mkF m 199 #[.val (.int p0), .val (.int p1), .val (.int p2), .val (.int p3), .val (.int (3 : Int32)), .val (.int z391), .val (.int z394), .val (.int z397), .val (.ref b398), .val (.ref b420), .val (.ref b435), .val (.int (1 : Int32)), .unset, .unset] [(.int (3 : Int32))]))
                  refine Go.back (fun t k => XS.istore Y482.here hx rfl (hb hby at_199) rfl (l' := #[.val (.int p0), .val (.int p1), .val (.int p2), .val (.int p3), .val (.int (3 : Int32)), .val (.int z391), .val (.int z394), .val (.int z397), .val (.ref b398), .val (.ref b420), .val (.ref b435), .val (.int (1 : Int32)), .val (.int (3 : Int32)), .unset]) rfl k) ?_
                  show Go p.tables e below (P0 Z p0 p1 p2 p3 h0 n0 s) (T482.setTop (mkF m 201 #[.val (.int p0), .val (.int p1), .val (.int p2), .val (.int p3), .val (.int (3 : Int32)), .val (.int z391), .val (.int z394), .val (.int z397), .val (.ref b398), .val (.ref b420), .val (.ref b435), .val (.int (1 : Int32)), .val (.int (3 : Int32)), .unset] []))
                  refine Go.back (fun t k => XS.goto Y482.here hx rfl (pc0 := 201) (pc' := 219) rfl (hb hby at_201) (by decide) (by decide) k) ?_
                  show Go p.tables e below (P0 Z p0 p1 p2 p3 h0 n0 s) (T482.setTop (mkF m 219 #[.val (.int p0), .val (.int p1), .val (.int p2), .val (.int p3), .val (.int (3 : Int32)), .val (.int z391), .val (.int z394), .val (.int z397), .val (.ref b398), .val (.ref b420), .val (.ref b435), .val (.int (1 : Int32)), .val (.int (3 : Int32)), .unset] []))
                  refine Go.back (fun t k => XS.aload Y482.here hx rfl (hb hby at_219) rfl rfl  k) ?_
                  show Go p.tables e below (P0 Z p0 p1 p2 p3 h0 n0 s) (T482.setTop (mkF m 221 #[.val (.int p0), .val (.int p1), .val (.int p2), .val (.int p3), .val (.int (3 : Int32)), .val (.int z391), .val (.int z394), .val (.int z397), .val (.ref b398), .val (.ref b420), .val (.ref b435), .val (.int (1 : Int32)), .val (.int (3 : Int32)), .unset] [(.ref b435)]))
                  obtain ⟨cq484, kq484, q484a, q484b, q484c⟩ := isOf hZ e482 F472
                  obtain ⟨_, _, ⟨T484, L484, k484, n484⟩, -, X484, ⟨Lc484, hQ484, l484, y484, z484⟩, st484⟩ := Y482.virtualBack hx (y := (⟨"com/example/paylode/paylode/header/HeaderReader", "skipWhitespace", "()V"⟩ : MethodName)) (z := (⟨"com/example/paylode/paylode/header/HeaderReader", "skipWhitespace", "()V"⟩ : MethodName)) hown (mvT hZ (hw _ (List.mem_of_getElem? (i := 61) rfl))) (mvT hZ (hw _ (List.mem_of_getElem? (i := 62) rfl))) (notFace_of_selects (args := #[]) (mvT hZ (hw _ (List.mem_of_getElem? (i := 64) rfl)))) (mvT hZ (hw _ (List.mem_of_getElem? (i := 64) rfl))) (mvT hZ (hw _ (List.mem_of_getElem? (i := 63) rfl))) (by decide) (backOf (W := 0) (rm10 l Z a0 hw [] b435 b420 t429b [z391, z394, z397] zc fm h463 n0 F466 F472 F475 F474 F468 F469 F470 F471 F464 F465 g439 ne437 ne438 hcs hp hl hfm) hZ (hw _ (List.mem_of_getElem? (i := 65) rfl)) (hw _ (List.mem_of_getElem? (i := 28) rfl)) (by decide) (by decide)) q484a q484c (g := (mkF m 221 #[.val (.int p0), .val (.int p1), .val (.int p2), .val (.int p3), .val (.int (3 : Int32)), .val (.int z391), .val (.int z394), .val (.int z397), .val (.ref b398), .val (.ref b420), .val (.ref b435), .val (.int (1 : Int32)), .val (.int (3 : Int32)), .unset] [(.ref b435)])) rfl (by rw [hml]; rfl) (Steps.refl _) (argsL := []) (rest := []) (lenOf pd_7 rfl) rfl (by show 2 * 0 + _ ≤ _; exact Nat.le_of_eq rfl) (hb hby at_221) (fun _ _ => ⟨rfl, e482, (by decide : 6 + 0 ≤ _), (by decide : 37 + 0 ≤ _)⟩)
                  dsimp only [Pt.U, Pt.locs, Pt.cells, Pt.slots] at X484 l484 y484 z484 st484 hQ484
                  subst l484 y484 z484
                  obtain ⟨h484, e484⟩ : ∃ z, T484.heap = z := ⟨_, rfl⟩
                  rw [e484] at hQ484
                  obtain ⟨rfl, N484q, K484, F495, F496⟩ := hQ484
                  obtain ⟨Lo484, Y484, N484⟩ := pk X484 (Fr.app N482 N484q)
                  have F485 : Sta Z h484 "java/lang/String" "COMPACT_STRINGS" "Z" (.int zc) := sta_keep F464 K484 (noSS (noS_exa F472) noS0)
                  have F486 : Sta Z h484 "jdk/internal/util/Preconditions" "SIOOBE_FORMATTER" "Ljava/util/function/BiFunction;" fm := sta_keep F465 K484 (noSS (noS_exa F472) noS0)
                  have F487 : n0 ≤ h484.size := Nat.le_trans F466 K484.1
                  have F488 : ArL Z h484 b398 .char [(.int z391), (.int z394), (.int z397)] := F467.keep K484 (ninS ne436 nin0)
                  have F489 : Exa Z h484 b420 "java/lang/String" := F468.keep K484
                  have F490 : Fld Z h484 b420 "java/lang/String" "coder" "B" (.int (0 : Int32)) := F469.keep K484 (ninS ne437 nin0)
                  have F491 : Fld Z h484 b420 "java/lang/String" "value" "[B" (.ref t429b) := F470.keep K484 (ninS ne437 nin0)
                  have F492 : ArL Z h484 t429b .byte (List.map Value.int (List.map StrChars.lo8 [z391, z394, z397])) := F471.keep K484 (ninS ne438 nin0)
                  have F493 : Exa Z h484 b435 "com/example/paylode/paylode/header/HeaderReader" := F472.keep K484
                  have F494 : kV ≤ h484.size := Nat.le_trans F473 K484.1
                  refine Go.trans st484 ?_
                  show Go p.tables e below (P0 Z p0 p1 p2 p3 h0 n0 s) (T484.setTop (mkF m 224 #[.val (.int p0), .val (.int p1), .val (.int p2), .val (.int p3), .val (.int (3 : Int32)), .val (.int z391), .val (.int z394), .val (.int z397), .val (.ref b398), .val (.ref b420), .val (.ref b435), .val (.int (1 : Int32)), .val (.int (3 : Int32)), .unset] []))
                  have F497 : Fld Z h484 b435 "com/example/paylode/paylode/header/HeaderReader" "position" "I" (.int (3 : Int32)) := by
                    have q := F495
                    rw [show (g10_1 [z391, z394, z397]) = (3 : Int32) from own_sk_3_3 hc479 hc481 hc483] at q
                    exact q
                  refine Go.back (fun t k => XS.iload Y484.here hx rfl (hb hby at_224) rfl  k) ?_
                  show Go p.tables e below (P0 Z p0 p1 p2 p3 h0 n0 s) (T484.setTop (mkF m 226 #[.val (.int p0), .val (.int p1), .val (.int p2), .val (.int p3), .val (.int (3 : Int32)), .val (.int z391), .val (.int z394), .val (.int z397), .val (.ref b398), .val (.ref b420), .val (.ref b435), .val (.int (1 : Int32)), .val (.int (3 : Int32)), .unset] [(.int (1 : Int32))]))
                  refine Go.back (fun t k => XS.ifNo Y484.here hx rfl (hb hby at_226) rfl ((if0 _ _).trans (feq (by decide)).1) k) ?_
                  show Go p.tables e below (P0 Z p0 p1 p2 p3 h0 n0 s) (T484.setTop (mkF m 229 #[.val (.int p0), .val (.int p1), .val (.int p2), .val (.int p3), .val (.int (3 : Int32)), .val (.int z391), .val (.int z394), .val (.int z397), .val (.ref b398), .val (.ref b420), .val (.ref b435), .val (.int (1 : Int32)), .val (.int (3 : Int32)), .unset] []))
                  refine Go.back (fun t k => XS.aload Y484.here hx rfl (hb hby at_229) rfl rfl  k) ?_
                  show Go p.tables e below (P0 Z p0 p1 p2 p3 h0 n0 s) (T484.setTop (mkF m 231 #[.val (.int p0), .val (.int p1), .val (.int p2), .val (.int p3), .val (.int (3 : Int32)), .val (.int z391), .val (.int z394), .val (.int z397), .val (.ref b398), .val (.ref b420), .val (.ref b435), .val (.int (1 : Int32)), .val (.int (3 : Int32)), .unset] [(.ref b435)]))
                  obtain ⟨cq498, kq498, q498a, q498b, q498c⟩ := isOf hZ e484 F493
                  obtain ⟨_, _, ⟨T498, L498, k498, n498⟩, -, X498, ⟨Lc498, hQ498, l498, y498, z498⟩, st498⟩ := Y484.virtualBack hx (y := (⟨"com/example/paylode/paylode/header/HeaderReader", "position", "()I"⟩ : MethodName)) (z := (⟨"com/example/paylode/paylode/header/HeaderReader", "position", "()I"⟩ : MethodName)) hown (mvT hZ (hw _ (List.mem_of_getElem? (i := 38) rfl))) (mvT hZ (hw _ (List.mem_of_getElem? (i := 39) rfl))) (notFace_of_selects (args := #[]) (mvT hZ (hw _ (List.mem_of_getElem? (i := 41) rfl)))) (mvT hZ (hw _ (List.mem_of_getElem? (i := 41) rfl))) (mvT hZ (hw _ (List.mem_of_getElem? (i := 40) rfl))) (by decide) (backOf (W := 0) (rm6 l Z a0 hw [] b435 (3 : Int32) h484 n0 F487 F497) hZ (hw _ (List.mem_of_getElem? (i := 42) rfl)) (hw _ (List.mem_of_getElem? (i := 28) rfl)) (by decide) (by decide)) q498a q498c (g := (mkF m 231 #[.val (.int p0), .val (.int p1), .val (.int p2), .val (.int p3), .val (.int (3 : Int32)), .val (.int z391), .val (.int z394), .val (.int z397), .val (.ref b398), .val (.ref b420), .val (.ref b435), .val (.int (1 : Int32)), .val (.int (3 : Int32)), .unset] [(.ref b435)])) rfl (by rw [hml]; rfl) (Steps.refl _) (argsL := []) (rest := []) (lenOf pd_0 rfl) rfl (by show 2 * 0 + _ ≤ _; exact Nat.le_of_eq rfl) (hb hby at_231) (fun _ _ => ⟨rfl, e484, (by decide : 6 + 0 ≤ _), (by decide : 37 + 0 ≤ _)⟩)
                  dsimp only [Pt.U, Pt.locs, Pt.cells, Pt.slots] at X498 l498 y498 z498 st498 hQ498
                  subst l498 y498 z498
                  obtain ⟨rfl, N498q, e498⟩ := hQ498
                  obtain ⟨Lo498, Y498, N498⟩ := pk X498 (Fr.app N484 N498q)
                  refine Go.trans st498 ?_
                  show Go p.tables e below (P0 Z p0 p1 p2 p3 h0 n0 s) (T498.setTop (mkF m 234 #[.val (.int p0), .val (.int p1), .val (.int p2), .val (.int p3), .val (.int (3 : Int32)), .val (.int z391), .val (.int z394), .val (.int z397), .val (.ref b398), .val (.ref b420), .val (.ref b435), .val (.int (1 : Int32)), .val (.int (3 : Int32)), .unset] [(.int (3 : Int32))]))
                  refine Go.back (fun t k => XS.iload Y498.here hx rfl (hb hby at_234) rfl  k) ?_
                  show Go p.tables e below (P0 Z p0 p1 p2 p3 h0 n0 s) (T498.setTop (mkF m 236 #[.val (.int p0), .val (.int p1), .val (.int p2), .val (.int p3), .val (.int (3 : Int32)), .val (.int z391), .val (.int z394), .val (.int z397), .val (.ref b398), .val (.ref b420), .val (.ref b435), .val (.int (1 : Int32)), .val (.int (3 : Int32)), .unset] [(.int (3 : Int32)), (.int (3 : Int32))]))
                  refine Go.back (fun t k => XS.icmpNo Y498.here hx rfl (hb hby at_236) rfl (teq (by decide)).2 k) ?_
                  show Go p.tables e below (P0 Z p0 p1 p2 p3 h0 n0 s) (T498.setTop (mkF m 239 #[.val (.int p0), .val (.int p1), .val (.int p2), .val (.int p3), .val (.int (3 : Int32)), .val (.int z391), .val (.int z394), .val (.int z397), .val (.ref b398), .val (.ref b420), .val (.ref b435), .val (.int (1 : Int32)), .val (.int (3 : Int32)), .unset] []))
                  refine Go.back (fun t k => XS.aload Y498.here hx rfl (hb hby at_239) rfl rfl  k) ?_
                  show Go p.tables e below (P0 Z p0 p1 p2 p3 h0 n0 s) (T498.setTop (mkF m 241 #[.val (.int p0), .val (.int p1), .val (.int p2), .val (.int p3), .val (.int (3 : Int32)), .val (.int z391), .val (.int z394), .val (.int z397), .val (.ref b398), .val (.ref b420), .val (.ref b435), .val (.int (1 : Int32)), .val (.int (3 : Int32)), .unset] [(.ref b435)]))
                  obtain ⟨cq499, kq499, q499a, q499b, q499c⟩ := isOf hZ e498 F493
                  obtain ⟨_, _, ⟨T499, L499, k499, n499⟩, -, X499, ⟨Lc499, hQ499, l499, y499, z499⟩, st499⟩ := Y498.virtualBack hx (y := (⟨"com/example/paylode/paylode/header/HeaderReader", "atEnd", "()Z"⟩ : MethodName)) (z := (⟨"com/example/paylode/paylode/header/HeaderReader", "atEnd", "()Z"⟩ : MethodName)) hown (mvT hZ (hw _ (List.mem_of_getElem? (i := 45) rfl))) (mvT hZ (hw _ (List.mem_of_getElem? (i := 46) rfl))) (notFace_of_selects (args := #[]) (mvT hZ (hw _ (List.mem_of_getElem? (i := 48) rfl)))) (mvT hZ (hw _ (List.mem_of_getElem? (i := 48) rfl))) (mvT hZ (hw _ (List.mem_of_getElem? (i := 47) rfl))) (by decide) (backOf (W := 0) (rm7 l Z a0 hw [] b435 b420 t429b [z391, z394, z397] zc fm (3 : Int32) h484 n0 F487 F493 F496 F497 F489 F490 F491 F492 F485 F486 hcs hp hl hfm) hZ (hw _ (List.mem_of_getElem? (i := 49) rfl)) (hw _ (List.mem_of_getElem? (i := 28) rfl)) (by decide) (by decide)) q499a q499c (g := (mkF m 241 #[.val (.int p0), .val (.int p1), .val (.int p2), .val (.int p3), .val (.int (3 : Int32)), .val (.int z391), .val (.int z394), .val (.int z397), .val (.ref b398), .val (.ref b420), .val (.ref b435), .val (.int (1 : Int32)), .val (.int (3 : Int32)), .unset] [(.ref b435)])) rfl (by rw [hml]; rfl) (Steps.refl _) (argsL := []) (rest := []) (lenOf pd_1 rfl) rfl (by show 2 * 0 + _ ≤ _; exact Nat.le_of_eq rfl) (hb hby at_241) (fun _ _ => ⟨rfl, e498, (by decide : 6 + 0 ≤ _), (by decide : 37 + 0 ≤ _)⟩)
                  dsimp only [Pt.U, Pt.locs, Pt.cells, Pt.slots] at X499 l499 y499 z499 st499 hQ499
                  subst l499 y499 z499
                  obtain ⟨rfl, N499q, e499⟩ := hQ499
                  obtain ⟨Lo499, Y499, N499⟩ := pk X499 (Fr.app N498 N499q)
                  refine Go.trans st499 ?_
                  rw [show (f7 [z391, z394, z397] (3 : Int32)) = true from by first | rfl | simp [f7]]
                  show Go p.tables e below (P0 Z p0 p1 p2 p3 h0 n0 s) (T499.setTop (mkF m 244 #[.val (.int p0), .val (.int p1), .val (.int p2), .val (.int p3), .val (.int (3 : Int32)), .val (.int z391), .val (.int z394), .val (.int z397), .val (.ref b398), .val (.ref b420), .val (.ref b435), .val (.int (1 : Int32)), .val (.int (3 : Int32)), .unset] [(.int (1 : Int32))]))
                  refine Go.back (fun t k => XS.iload Y499.here hx rfl (hb hby at_244) rfl  k) ?_
                  show Go p.tables e below (P0 Z p0 p1 p2 p3 h0 n0 s) (T499.setTop (mkF m 246 #[.val (.int p0), .val (.int p1), .val (.int p2), .val (.int p3), .val (.int (3 : Int32)), .val (.int z391), .val (.int z394), .val (.int z397), .val (.ref b398), .val (.ref b420), .val (.ref b435), .val (.int (1 : Int32)), .val (.int (3 : Int32)), .unset] [(.int (3 : Int32)), (.int (1 : Int32))]))
                  refine Go.back (fun t k => XS.iload Y499.here hx rfl (hb hby at_246) rfl  k) ?_
                  show Go p.tables e below (P0 Z p0 p1 p2 p3 h0 n0 s) (T499.setTop (mkF m 248 #[.val (.int p0), .val (.int p1), .val (.int p2), .val (.int p3), .val (.int (3 : Int32)), .val (.int z391), .val (.int z394), .val (.int z397), .val (.ref b398), .val (.ref b420), .val (.ref b435), .val (.int (1 : Int32)), .val (.int (3 : Int32)), .unset] [(.int (3 : Int32)), (.int (3 : Int32)), (.int (1 : Int32))]))
                  refine Go.back (fun t k => XS.icmpNo Y499.here hx rfl (hb hby at_248) rfl (teq (by decide)).2 k) ?_
                  show Go p.tables e below (P0 Z p0 p1 p2 p3 h0 n0 s) (T499.setTop (mkF m 251 #[.val (.int p0), .val (.int p1), .val (.int p2), .val (.int p3), .val (.int (3 : Int32)), .val (.int z391), .val (.int z394), .val (.int z397), .val (.ref b398), .val (.ref b420), .val (.ref b435), .val (.int (1 : Int32)), .val (.int (3 : Int32)), .unset] [(.int (1 : Int32))]))
                  refine Go.back (fun t k => XS.iconst Y499.here hx rfl (hb hby at_251) k) ?_
                  show Go p.tables e below (P0 Z p0 p1 p2 p3 h0 n0 s) (T499.setTop (mkF m 252 #[.val (.int p0), .val (.int p1), .val (.int p2), .val (.int p3), .val (.int (3 : Int32)), .val (.int z391), .val (.int z394), .val (.int z397), .val (.ref b398), .val (.ref b420), .val (.ref b435), .val (.int (1 : Int32)), .val (.int (3 : Int32)), .unset] [(.int (1 : Int32)), (.int (1 : Int32))]))
                  refine Go.back (fun t k => XS.goto Y499.here hx rfl (pc0 := 252) (pc' := 256) rfl (hb hby at_252) (by decide) (by decide) k) ?_
                  show Go p.tables e below (P0 Z p0 p1 p2 p3 h0 n0 s) (T499.setTop (mkF m 256 #[.val (.int p0), .val (.int p1), .val (.int p2), .val (.int p3), .val (.int (3 : Int32)), .val (.int z391), .val (.int z394), .val (.int z397), .val (.ref b398), .val (.ref b420), .val (.ref b435), .val (.int (1 : Int32)), .val (.int (3 : Int32)), .unset] [(.int (1 : Int32)), (.int (1 : Int32))]))
                  refine Go.back (fun t k => XS.icmpNo Y499.here hx rfl (hb hby at_256) rfl (teq (by decide)).2 k) ?_
                  show Go p.tables e below (P0 Z p0 p1 p2 p3 h0 n0 s) (T499.setTop (mkF m 259 #[.val (.int p0), .val (.int p1), .val (.int p2), .val (.int p3), .val (.int (3 : Int32)), .val (.int z391), .val (.int z394), .val (.int z397), .val (.ref b398), .val (.ref b420), .val (.ref b435), .val (.int (1 : Int32)), .val (.int (3 : Int32)), .unset] []))
                  refine Go.back (fun t k => XS.iconst Y499.here hx rfl (hb hby at_259) k) ?_
                  show Go p.tables e below (P0 Z p0 p1 p2 p3 h0 n0 s) (T499.setTop (mkF m 260 #[.val (.int p0), .val (.int p1), .val (.int p2), .val (.int p3), .val (.int (3 : Int32)), .val (.int z391), .val (.int z394), .val (.int z397), .val (.ref b398), .val (.ref b420), .val (.ref b435), .val (.int (1 : Int32)), .val (.int (3 : Int32)), .unset] [(.int (1 : Int32))]))
                  refine Go.back (fun t k => XS.goto Y499.here hx rfl (pc0 := 260) (pc' := 264) rfl (hb hby at_260) (by decide) (by decide) k) ?_
                  show Go p.tables e below (P0 Z p0 p1 p2 p3 h0 n0 s) (T499.setTop (mkF m 264 #[.val (.int p0), .val (.int p1), .val (.int p2), .val (.int p3), .val (.int (3 : Int32)), .val (.int z391), .val (.int z394), .val (.int z397), .val (.ref b398), .val (.ref b420), .val (.ref b435), .val (.int (1 : Int32)), .val (.int (3 : Int32)), .unset] [(.int (1 : Int32))]))
                  refine Go.back (fun t k => XS.istore Y499.here hx rfl (hb hby at_264) rfl (l' := #[.val (.int p0), .val (.int p1), .val (.int p2), .val (.int p3), .val (.int (3 : Int32)), .val (.int z391), .val (.int z394), .val (.int z397), .val (.ref b398), .val (.ref b420), .val (.ref b435), .val (.int (1 : Int32)), .val (.int (3 : Int32)), .unset]) rfl k) ?_
                  show Go p.tables e below (P0 Z p0 p1 p2 p3 h0 n0 s) (T499.setTop (mkF m 266 #[.val (.int p0), .val (.int p1), .val (.int p2), .val (.int p3), .val (.int (3 : Int32)), .val (.int z391), .val (.int z394), .val (.int z397), .val (.ref b398), .val (.ref b420), .val (.ref b435), .val (.int (1 : Int32)), .val (.int (3 : Int32)), .unset] []))
                  refine Go.back (fun t k => XS.iload Y499.here hx rfl (hb hby at_266) rfl  k) ?_
                  show Go p.tables e below (P0 Z p0 p1 p2 p3 h0 n0 s) (T499.setTop (mkF m 268 #[.val (.int p0), .val (.int p1), .val (.int p2), .val (.int p3), .val (.int (3 : Int32)), .val (.int z391), .val (.int z394), .val (.int z397), .val (.ref b398), .val (.ref b420), .val (.ref b435), .val (.int (1 : Int32)), .val (.int (3 : Int32)), .unset] [(.int (3 : Int32))]))
                  refine Go.back (fun t k => XS.iload Y499.here hx rfl (hb hby at_268) rfl  k) ?_
                  show Go p.tables e below (P0 Z p0 p1 p2 p3 h0 n0 s) (T499.setTop (mkF m 270 #[.val (.int p0), .val (.int p1), .val (.int p2), .val (.int p3), .val (.int (3 : Int32)), .val (.int z391), .val (.int z394), .val (.int z397), .val (.ref b398), .val (.ref b420), .val (.ref b435), .val (.int (1 : Int32)), .val (.int (3 : Int32)), .unset] [(.int (3 : Int32)), (.int (3 : Int32))]))
                  refine Go.back (fun t k => XS.icmpYes Y499.here hx rfl (pc0 := 270) (pc' := 351) rfl (hb hby at_270) rfl (flt (by decide)).2.1 (by decide) (by decide) k) ?_
                  show Go p.tables e below (P0 Z p0 p1 p2 p3 h0 n0 s) (T499.setTop (mkF m 351 #[.val (.int p0), .val (.int p1), .val (.int p2), .val (.int p3), .val (.int (3 : Int32)), .val (.int z391), .val (.int z394), .val (.int z397), .val (.ref b398), .val (.ref b420), .val (.ref b435), .val (.int (1 : Int32)), .val (.int (3 : Int32)), .unset] []))
                  refine Go.back (fun t k => XS.iload Y499.here hx rfl (hb hby at_351) rfl  k) ?_
                  show Go p.tables e below (P0 Z p0 p1 p2 p3 h0 n0 s) (T499.setTop (mkF m 353 #[.val (.int p0), .val (.int p1), .val (.int p2), .val (.int p3), .val (.int (3 : Int32)), .val (.int z391), .val (.int z394), .val (.int z397), .val (.ref b398), .val (.ref b420), .val (.ref b435), .val (.int (1 : Int32)), .val (.int (3 : Int32)), .unset] [(.int (1 : Int32))]))
                  exact Go.retBW (s := s) (vm0 := TV.vm) (b := true) (Qa := Q0 Z p0 p1 p2 p3 h0 n0) (Qb := fun vm h => True) Y499 hx hSV (by rw [e499]; exact F494) Bd.returns (hb hby at_353) Bd.notSynchronized ⟨rfl, N499⟩ trivial (by decide) (by decide)
                · refine Go.back (fun t k => XS.ifYes Y482.here hx rfl (pc0 := 195) (pc' := 204) rfl (hb hby at_195) rfl ((if0 _ _).trans (teq (b2i_f hc483)).1) (by decide) (by decide) k) ?_
                  show Go p.tables e below (P0 Z p0 p1 p2 p3 h0 n0 s) (T482.setTop (mkF m 204 #[.val (.int p0), .val (.int p1), .val (.int p2), .val (.int p3), .val (.int (3 : Int32)), .val (.int z391), .val (.int z394), .val (.int z397), .val (.ref b398), .val (.ref b420), .val (.ref b435), .val (.int (1 : Int32)), .unset, .unset] []))
                  refine Go.back (fun t k => XS.iconst Y482.here hx rfl (hb hby at_204) k) ?_
                  show Go p.tables e below (P0 Z p0 p1 p2 p3 h0 n0 s) (T482.setTop (mkF m 205 #[.val (.int p0), .val (.int p1), .val (.int p2), .val (.int p3), .val (.int (3 : Int32)), .val (.int z391), .val (.int z394), .val (.int z397), .val (.ref b398), .val (.ref b420), .val (.ref b435), .val (.int (1 : Int32)), .unset, .unset] [(.int (2 : Int32))]))
                  refine Go.back (fun t k => XS.istore Y482.here hx rfl (hb hby at_205) rfl (l' := #[.val (.int p0), .val (.int p1), .val (.int p2), .val (.int p3), .val (.int (3 : Int32)), .val (.int z391), .val (.int z394), .val (.int z397), .val (.ref b398), .val (.ref b420), .val (.ref b435), .val (.int (1 : Int32)), .val (.int (2 : Int32)), .unset]) rfl k) ?_
                  show Go p.tables e below (P0 Z p0 p1 p2 p3 h0 n0 s) (T482.setTop (mkF m 207 #[.val (.int p0), .val (.int p1), .val (.int p2), .val (.int p3), .val (.int (3 : Int32)), .val (.int z391), .val (.int z394), .val (.int z397), .val (.ref b398), .val (.ref b420), .val (.ref b435), .val (.int (1 : Int32)), .val (.int (2 : Int32)), .unset] []))
                  refine Go.back (fun t k => XS.goto Y482.here hx rfl (pc0 := 207) (pc' := 219) rfl (hb hby at_207) (by decide) (by decide) k) ?_
                  show Go p.tables e below (P0 Z p0 p1 p2 p3 h0 n0 s) (T482.setTop (mkF m 219 #[.val (.int p0), .val (.int p1), .val (.int p2), .val (.int p3), .val (.int (3 : Int32)), .val (.int z391), .val (.int z394), .val (.int z397), .val (.ref b398), .val (.ref b420), .val (.ref b435), .val (.int (1 : Int32)), .val (.int (2 : Int32)), .unset] []))
                  refine Go.back (fun t k => XS.aload Y482.here hx rfl (hb hby at_219) rfl rfl  k) ?_
                  show Go p.tables e below (P0 Z p0 p1 p2 p3 h0 n0 s) (T482.setTop (mkF m 221 #[.val (.int p0), .val (.int p1), .val (.int p2), .val (.int p3), .val (.int (3 : Int32)), .val (.int z391), .val (.int z394), .val (.int z397), .val (.ref b398), .val (.ref b420), .val (.ref b435), .val (.int (1 : Int32)), .val (.int (2 : Int32)), .unset] [(.ref b435)]))
                  obtain ⟨cq500, kq500, q500a, q500b, q500c⟩ := isOf hZ e482 F472
                  obtain ⟨_, _, ⟨T500, L500, k500, n500⟩, -, X500, ⟨Lc500, hQ500, l500, y500, z500⟩, st500⟩ := Y482.virtualBack hx (y := (⟨"com/example/paylode/paylode/header/HeaderReader", "skipWhitespace", "()V"⟩ : MethodName)) (z := (⟨"com/example/paylode/paylode/header/HeaderReader", "skipWhitespace", "()V"⟩ : MethodName)) hown (mvT hZ (hw _ (List.mem_of_getElem? (i := 61) rfl))) (mvT hZ (hw _ (List.mem_of_getElem? (i := 62) rfl))) (notFace_of_selects (args := #[]) (mvT hZ (hw _ (List.mem_of_getElem? (i := 64) rfl)))) (mvT hZ (hw _ (List.mem_of_getElem? (i := 64) rfl))) (mvT hZ (hw _ (List.mem_of_getElem? (i := 63) rfl))) (by decide) (backOf (W := 0) (rm10 l Z a0 hw [] b435 b420 t429b [z391, z394, z397] zc fm h463 n0 F466 F472 F475 F474 F468 F469 F470 F471 F464 F465 g439 ne437 ne438 hcs hp hl hfm) hZ (hw _ (List.mem_of_getElem? (i := 65) rfl)) (hw _ (List.mem_of_getElem? (i := 28) rfl)) (by decide) (by decide)) q500a q500c (g := (mkF m 221 #[.val (.int p0), .val (.int p1), .val (.int p2), .val (.int p3), .val (.int (3 : Int32)), .val (.int z391), .val (.int z394), .val (.int z397), .val (.ref b398), .val (.ref b420), .val (.ref b435), .val (.int (1 : Int32)), .val (.int (2 : Int32)), .unset] [(.ref b435)])) rfl (by rw [hml]; rfl) (Steps.refl _) (argsL := []) (rest := []) (lenOf pd_7 rfl) rfl (by show 2 * 0 + _ ≤ _; exact Nat.le_of_eq rfl) (hb hby at_221) (fun _ _ => ⟨rfl, e482, (by decide : 6 + 0 ≤ _), (by decide : 37 + 0 ≤ _)⟩)
                  dsimp only [Pt.U, Pt.locs, Pt.cells, Pt.slots] at X500 l500 y500 z500 st500 hQ500
                  subst l500 y500 z500
                  obtain ⟨h500, e500⟩ : ∃ z, T500.heap = z := ⟨_, rfl⟩
                  rw [e500] at hQ500
                  obtain ⟨rfl, N500q, K500, F511, F512⟩ := hQ500
                  obtain ⟨Lo500, Y500, N500⟩ := pk X500 (Fr.app N482 N500q)
                  have F501 : Sta Z h500 "java/lang/String" "COMPACT_STRINGS" "Z" (.int zc) := sta_keep F464 K500 (noSS (noS_exa F472) noS0)
                  have F502 : Sta Z h500 "jdk/internal/util/Preconditions" "SIOOBE_FORMATTER" "Ljava/util/function/BiFunction;" fm := sta_keep F465 K500 (noSS (noS_exa F472) noS0)
                  have F503 : n0 ≤ h500.size := Nat.le_trans F466 K500.1
                  have F504 : ArL Z h500 b398 .char [(.int z391), (.int z394), (.int z397)] := F467.keep K500 (ninS ne436 nin0)
                  have F505 : Exa Z h500 b420 "java/lang/String" := F468.keep K500
                  have F506 : Fld Z h500 b420 "java/lang/String" "coder" "B" (.int (0 : Int32)) := F469.keep K500 (ninS ne437 nin0)
                  have F507 : Fld Z h500 b420 "java/lang/String" "value" "[B" (.ref t429b) := F470.keep K500 (ninS ne437 nin0)
                  have F508 : ArL Z h500 t429b .byte (List.map Value.int (List.map StrChars.lo8 [z391, z394, z397])) := F471.keep K500 (ninS ne438 nin0)
                  have F509 : Exa Z h500 b435 "com/example/paylode/paylode/header/HeaderReader" := F472.keep K500
                  have F510 : kV ≤ h500.size := Nat.le_trans F473 K500.1
                  refine Go.trans st500 ?_
                  show Go p.tables e below (P0 Z p0 p1 p2 p3 h0 n0 s) (T500.setTop (mkF m 224 #[.val (.int p0), .val (.int p1), .val (.int p2), .val (.int p3), .val (.int (3 : Int32)), .val (.int z391), .val (.int z394), .val (.int z397), .val (.ref b398), .val (.ref b420), .val (.ref b435), .val (.int (1 : Int32)), .val (.int (2 : Int32)), .unset] []))
                  have F513 : Fld Z h500 b435 "com/example/paylode/paylode/header/HeaderReader" "position" "I" (.int (2 : Int32)) := by
                    have q := F511
                    rw [show (g10_1 [z391, z394, z397]) = (2 : Int32) from own_sk_3_2 hc479 hc481 hc483] at q
                    exact q
                  refine Go.back (fun t k => XS.iload Y500.here hx rfl (hb hby at_224) rfl  k) ?_
                  show Go p.tables e below (P0 Z p0 p1 p2 p3 h0 n0 s) (T500.setTop (mkF m 226 #[.val (.int p0), .val (.int p1), .val (.int p2), .val (.int p3), .val (.int (3 : Int32)), .val (.int z391), .val (.int z394), .val (.int z397), .val (.ref b398), .val (.ref b420), .val (.ref b435), .val (.int (1 : Int32)), .val (.int (2 : Int32)), .unset] [(.int (1 : Int32))]))
                  refine Go.back (fun t k => XS.ifNo Y500.here hx rfl (hb hby at_226) rfl ((if0 _ _).trans (feq (by decide)).1) k) ?_
                  show Go p.tables e below (P0 Z p0 p1 p2 p3 h0 n0 s) (T500.setTop (mkF m 229 #[.val (.int p0), .val (.int p1), .val (.int p2), .val (.int p3), .val (.int (3 : Int32)), .val (.int z391), .val (.int z394), .val (.int z397), .val (.ref b398), .val (.ref b420), .val (.ref b435), .val (.int (1 : Int32)), .val (.int (2 : Int32)), .unset] []))
                  refine Go.back (fun t k => XS.aload Y500.here hx rfl (hb hby at_229) rfl rfl  k) ?_
                  show Go p.tables e below (P0 Z p0 p1 p2 p3 h0 n0 s) (T500.setTop (mkF m 231 #[.val (.int p0), .val (.int p1), .val (.int p2), .val (.int p3), .val (.int (3 : Int32)), .val (.int z391), .val (.int z394), .val (.int z397), .val (.ref b398), .val (.ref b420), .val (.ref b435), .val (.int (1 : Int32)), .val (.int (2 : Int32)), .unset] [(.ref b435)]))
                  obtain ⟨cq514, kq514, q514a, q514b, q514c⟩ := isOf hZ e500 F509
                  obtain ⟨_, _, ⟨T514, L514, k514, n514⟩, -, X514, ⟨Lc514, hQ514, l514, y514, z514⟩, st514⟩ := Y500.virtualBack hx (y := (⟨"com/example/paylode/paylode/header/HeaderReader", "position", "()I"⟩ : MethodName)) (z := (⟨"com/example/paylode/paylode/header/HeaderReader", "position", "()I"⟩ : MethodName)) hown (mvT hZ (hw _ (List.mem_of_getElem? (i := 38) rfl))) (mvT hZ (hw _ (List.mem_of_getElem? (i := 39) rfl))) (notFace_of_selects (args := #[]) (mvT hZ (hw _ (List.mem_of_getElem? (i := 41) rfl)))) (mvT hZ (hw _ (List.mem_of_getElem? (i := 41) rfl))) (mvT hZ (hw _ (List.mem_of_getElem? (i := 40) rfl))) (by decide) (backOf (W := 0) (rm6 l Z a0 hw [] b435 (2 : Int32) h500 n0 F503 F513) hZ (hw _ (List.mem_of_getElem? (i := 42) rfl)) (hw _ (List.mem_of_getElem? (i := 28) rfl)) (by decide) (by decide)) q514a q514c (g := (mkF m 231 #[.val (.int p0), .val (.int p1), .val (.int p2), .val (.int p3), .val (.int (3 : Int32)), .val (.int z391), .val (.int z394), .val (.int z397), .val (.ref b398), .val (.ref b420), .val (.ref b435), .val (.int (1 : Int32)), .val (.int (2 : Int32)), .unset] [(.ref b435)])) rfl (by rw [hml]; rfl) (Steps.refl _) (argsL := []) (rest := []) (lenOf pd_0 rfl) rfl (by show 2 * 0 + _ ≤ _; exact Nat.le_of_eq rfl) (hb hby at_231) (fun _ _ => ⟨rfl, e500, (by decide : 6 + 0 ≤ _), (by decide : 37 + 0 ≤ _)⟩)
                  dsimp only [Pt.U, Pt.locs, Pt.cells, Pt.slots] at X514 l514 y514 z514 st514 hQ514
                  subst l514 y514 z514
                  obtain ⟨rfl, N514q, e514⟩ := hQ514
                  obtain ⟨Lo514, Y514, N514⟩ := pk X514 (Fr.app N500 N514q)
                  refine Go.trans st514 ?_
                  show Go p.tables e below (P0 Z p0 p1 p2 p3 h0 n0 s) (T514.setTop (mkF m 234 #[.val (.int p0), .val (.int p1), .val (.int p2), .val (.int p3), .val (.int (3 : Int32)), .val (.int z391), .val (.int z394), .val (.int z397), .val (.ref b398), .val (.ref b420), .val (.ref b435), .val (.int (1 : Int32)), .val (.int (2 : Int32)), .unset] [(.int (2 : Int32))]))
                  refine Go.back (fun t k => XS.iload Y514.here hx rfl (hb hby at_234) rfl  k) ?_
                  show Go p.tables e below (P0 Z p0 p1 p2 p3 h0 n0 s) (T514.setTop (mkF m 236 #[.val (.int p0), .val (.int p1), .val (.int p2), .val (.int p3), .val (.int (3 : Int32)), .val (.int z391), .val (.int z394), .val (.int z397), .val (.ref b398), .val (.ref b420), .val (.ref b435), .val (.int (1 : Int32)), .val (.int (2 : Int32)), .unset] [(.int (2 : Int32)), (.int (2 : Int32))]))
                  refine Go.back (fun t k => XS.icmpNo Y514.here hx rfl (hb hby at_236) rfl (teq (by decide)).2 k) ?_
                  show Go p.tables e below (P0 Z p0 p1 p2 p3 h0 n0 s) (T514.setTop (mkF m 239 #[.val (.int p0), .val (.int p1), .val (.int p2), .val (.int p3), .val (.int (3 : Int32)), .val (.int z391), .val (.int z394), .val (.int z397), .val (.ref b398), .val (.ref b420), .val (.ref b435), .val (.int (1 : Int32)), .val (.int (2 : Int32)), .unset] []))
                  refine Go.back (fun t k => XS.aload Y514.here hx rfl (hb hby at_239) rfl rfl  k) ?_
                  show Go p.tables e below (P0 Z p0 p1 p2 p3 h0 n0 s) (T514.setTop (mkF m 241 #[.val (.int p0), .val (.int p1), .val (.int p2), .val (.int p3), .val (.int (3 : Int32)), .val (.int z391), .val (.int z394), .val (.int z397), .val (.ref b398), .val (.ref b420), .val (.ref b435), .val (.int (1 : Int32)), .val (.int (2 : Int32)), .unset] [(.ref b435)]))
                  obtain ⟨cq515, kq515, q515a, q515b, q515c⟩ := isOf hZ e514 F509
                  obtain ⟨_, _, ⟨T515, L515, k515, n515⟩, -, X515, ⟨Lc515, hQ515, l515, y515, z515⟩, st515⟩ := Y514.virtualBack hx (y := (⟨"com/example/paylode/paylode/header/HeaderReader", "atEnd", "()Z"⟩ : MethodName)) (z := (⟨"com/example/paylode/paylode/header/HeaderReader", "atEnd", "()Z"⟩ : MethodName)) hown (mvT hZ (hw _ (List.mem_of_getElem? (i := 45) rfl))) (mvT hZ (hw _ (List.mem_of_getElem? (i := 46) rfl))) (notFace_of_selects (args := #[]) (mvT hZ (hw _ (List.mem_of_getElem? (i := 48) rfl)))) (mvT hZ (hw _ (List.mem_of_getElem? (i := 48) rfl))) (mvT hZ (hw _ (List.mem_of_getElem? (i := 47) rfl))) (by decide) (backOf (W := 0) (rm7 l Z a0 hw [] b435 b420 t429b [z391, z394, z397] zc fm (2 : Int32) h500 n0 F503 F509 F512 F513 F505 F506 F507 F508 F501 F502 hcs hp hl hfm) hZ (hw _ (List.mem_of_getElem? (i := 49) rfl)) (hw _ (List.mem_of_getElem? (i := 28) rfl)) (by decide) (by decide)) q515a q515c (g := (mkF m 241 #[.val (.int p0), .val (.int p1), .val (.int p2), .val (.int p3), .val (.int (3 : Int32)), .val (.int z391), .val (.int z394), .val (.int z397), .val (.ref b398), .val (.ref b420), .val (.ref b435), .val (.int (1 : Int32)), .val (.int (2 : Int32)), .unset] [(.ref b435)])) rfl (by rw [hml]; rfl) (Steps.refl _) (argsL := []) (rest := []) (lenOf pd_1 rfl) rfl (by show 2 * 0 + _ ≤ _; exact Nat.le_of_eq rfl) (hb hby at_241) (fun _ _ => ⟨rfl, e514, (by decide : 6 + 0 ≤ _), (by decide : 37 + 0 ≤ _)⟩)
                  dsimp only [Pt.U, Pt.locs, Pt.cells, Pt.slots] at X515 l515 y515 z515 st515 hQ515
                  subst l515 y515 z515
                  obtain ⟨rfl, N515q, e515⟩ := hQ515
                  obtain ⟨Lo515, Y515, N515⟩ := pk X515 (Fr.app N514 N515q)
                  refine Go.trans st515 ?_
                  rw [show (f7 [z391, z394, z397] (2 : Int32)) = false from by first | rfl | simp [f7]]
                  show Go p.tables e below (P0 Z p0 p1 p2 p3 h0 n0 s) (T515.setTop (mkF m 244 #[.val (.int p0), .val (.int p1), .val (.int p2), .val (.int p3), .val (.int (3 : Int32)), .val (.int z391), .val (.int z394), .val (.int z397), .val (.ref b398), .val (.ref b420), .val (.ref b435), .val (.int (1 : Int32)), .val (.int (2 : Int32)), .unset] [(.int (0 : Int32))]))
                  refine Go.back (fun t k => XS.iload Y515.here hx rfl (hb hby at_244) rfl  k) ?_
                  show Go p.tables e below (P0 Z p0 p1 p2 p3 h0 n0 s) (T515.setTop (mkF m 246 #[.val (.int p0), .val (.int p1), .val (.int p2), .val (.int p3), .val (.int (3 : Int32)), .val (.int z391), .val (.int z394), .val (.int z397), .val (.ref b398), .val (.ref b420), .val (.ref b435), .val (.int (1 : Int32)), .val (.int (2 : Int32)), .unset] [(.int (2 : Int32)), (.int (0 : Int32))]))
                  refine Go.back (fun t k => XS.iload Y515.here hx rfl (hb hby at_246) rfl  k) ?_
                  show Go p.tables e below (P0 Z p0 p1 p2 p3 h0 n0 s) (T515.setTop (mkF m 248 #[.val (.int p0), .val (.int p1), .val (.int p2), .val (.int p3), .val (.int (3 : Int32)), .val (.int z391), .val (.int z394), .val (.int z397), .val (.ref b398), .val (.ref b420), .val (.ref b435), .val (.int (1 : Int32)), .val (.int (2 : Int32)), .unset] [(.int (3 : Int32)), (.int (2 : Int32)), (.int (0 : Int32))]))
                  refine Go.back (fun t k => XS.icmpYes Y515.here hx rfl (pc0 := 248) (pc' := 255) rfl (hb hby at_248) rfl (feq (by decide)).2 (by decide) (by decide) k) ?_
                  show Go p.tables e below (P0 Z p0 p1 p2 p3 h0 n0 s) (T515.setTop (mkF m 255 #[.val (.int p0), .val (.int p1), .val (.int p2), .val (.int p3), .val (.int (3 : Int32)), .val (.int z391), .val (.int z394), .val (.int z397), .val (.ref b398), .val (.ref b420), .val (.ref b435), .val (.int (1 : Int32)), .val (.int (2 : Int32)), .unset] [(.int (0 : Int32))]))
                  refine Go.back (fun t k => XS.iconst Y515.here hx rfl (hb hby at_255) k) ?_
                  show Go p.tables e below (P0 Z p0 p1 p2 p3 h0 n0 s) (T515.setTop (mkF m 256 #[.val (.int p0), .val (.int p1), .val (.int p2), .val (.int p3), .val (.int (3 : Int32)), .val (.int z391), .val (.int z394), .val (.int z397), .val (.ref b398), .val (.ref b420), .val (.ref b435), .val (.int (1 : Int32)), .val (.int (2 : Int32)), .unset] [(.int (0 : Int32)), (.int (0 : Int32))]))
                  refine Go.back (fun t k => XS.icmpNo Y515.here hx rfl (hb hby at_256) rfl (teq (by decide)).2 k) ?_
                  show Go p.tables e below (P0 Z p0 p1 p2 p3 h0 n0 s) (T515.setTop (mkF m 259 #[.val (.int p0), .val (.int p1), .val (.int p2), .val (.int p3), .val (.int (3 : Int32)), .val (.int z391), .val (.int z394), .val (.int z397), .val (.ref b398), .val (.ref b420), .val (.ref b435), .val (.int (1 : Int32)), .val (.int (2 : Int32)), .unset] []))
                  refine Go.back (fun t k => XS.iconst Y515.here hx rfl (hb hby at_259) k) ?_
                  show Go p.tables e below (P0 Z p0 p1 p2 p3 h0 n0 s) (T515.setTop (mkF m 260 #[.val (.int p0), .val (.int p1), .val (.int p2), .val (.int p3), .val (.int (3 : Int32)), .val (.int z391), .val (.int z394), .val (.int z397), .val (.ref b398), .val (.ref b420), .val (.ref b435), .val (.int (1 : Int32)), .val (.int (2 : Int32)), .unset] [(.int (1 : Int32))]))
                  refine Go.back (fun t k => XS.goto Y515.here hx rfl (pc0 := 260) (pc' := 264) rfl (hb hby at_260) (by decide) (by decide) k) ?_
                  show Go p.tables e below (P0 Z p0 p1 p2 p3 h0 n0 s) (T515.setTop (mkF m 264 #[.val (.int p0), .val (.int p1), .val (.int p2), .val (.int p3), .val (.int (3 : Int32)), .val (.int z391), .val (.int z394), .val (.int z397), .val (.ref b398), .val (.ref b420), .val (.ref b435), .val (.int (1 : Int32)), .val (.int (2 : Int32)), .unset] [(.int (1 : Int32))]))
                  refine Go.back (fun t k => XS.istore Y515.here hx rfl (hb hby at_264) rfl (l' := #[.val (.int p0), .val (.int p1), .val (.int p2), .val (.int p3), .val (.int (3 : Int32)), .val (.int z391), .val (.int z394), .val (.int z397), .val (.ref b398), .val (.ref b420), .val (.ref b435), .val (.int (1 : Int32)), .val (.int (2 : Int32)), .unset]) rfl k) ?_
                  show Go p.tables e below (P0 Z p0 p1 p2 p3 h0 n0 s) (T515.setTop (mkF m 266 #[.val (.int p0), .val (.int p1), .val (.int p2), .val (.int p3), .val (.int (3 : Int32)), .val (.int z391), .val (.int z394), .val (.int z397), .val (.ref b398), .val (.ref b420), .val (.ref b435), .val (.int (1 : Int32)), .val (.int (2 : Int32)), .unset] []))
                  refine Go.back (fun t k => XS.iload Y515.here hx rfl (hb hby at_266) rfl  k) ?_
                  show Go p.tables e below (P0 Z p0 p1 p2 p3 h0 n0 s) (T515.setTop (mkF m 268 #[.val (.int p0), .val (.int p1), .val (.int p2), .val (.int p3), .val (.int (3 : Int32)), .val (.int z391), .val (.int z394), .val (.int z397), .val (.ref b398), .val (.ref b420), .val (.ref b435), .val (.int (1 : Int32)), .val (.int (2 : Int32)), .unset] [(.int (2 : Int32))]))
                  refine Go.back (fun t k => XS.iload Y515.here hx rfl (hb hby at_268) rfl  k) ?_
                  show Go p.tables e below (P0 Z p0 p1 p2 p3 h0 n0 s) (T515.setTop (mkF m 270 #[.val (.int p0), .val (.int p1), .val (.int p2), .val (.int p3), .val (.int (3 : Int32)), .val (.int z391), .val (.int z394), .val (.int z397), .val (.ref b398), .val (.ref b420), .val (.ref b435), .val (.int (1 : Int32)), .val (.int (2 : Int32)), .unset] [(.int (3 : Int32)), (.int (2 : Int32))]))
                  refine Go.back (fun t k => XS.icmpNo Y515.here hx rfl (hb hby at_270) rfl (tlt (by decide)).2.1 k) ?_
                  show Go p.tables e below (P0 Z p0 p1 p2 p3 h0 n0 s) (T515.setTop (mkF m 273 #[.val (.int p0), .val (.int p1), .val (.int p2), .val (.int p3), .val (.int (3 : Int32)), .val (.int z391), .val (.int z394), .val (.int z397), .val (.ref b398), .val (.ref b420), .val (.ref b435), .val (.int (1 : Int32)), .val (.int (2 : Int32)), .unset] []))
                  refine Go.back (fun t k => XS.iload Y515.here hx rfl (hb hby at_273) rfl  k) ?_
                  show Go p.tables e below (P0 Z p0 p1 p2 p3 h0 n0 s) (T515.setTop (mkF m 275 #[.val (.int p0), .val (.int p1), .val (.int p2), .val (.int p3), .val (.int (3 : Int32)), .val (.int z391), .val (.int z394), .val (.int z397), .val (.ref b398), .val (.ref b420), .val (.ref b435), .val (.int (1 : Int32)), .val (.int (2 : Int32)), .unset] [(.int (2 : Int32))]))
                  refine Go.back (fun t k => XS.ifYes Y515.here hx rfl (pc0 := 275) (pc' := 283) rfl (hb hby at_275) rfl ((if0 _ _).trans (feq (by decide)).2) (by decide) (by decide) k) ?_
                  show Go p.tables e below (P0 Z p0 p1 p2 p3 h0 n0 s) (T515.setTop (mkF m 283 #[.val (.int p0), .val (.int p1), .val (.int p2), .val (.int p3), .val (.int (3 : Int32)), .val (.int z391), .val (.int z394), .val (.int z397), .val (.ref b398), .val (.ref b420), .val (.ref b435), .val (.int (1 : Int32)), .val (.int (2 : Int32)), .unset] []))
                  refine Go.back (fun t k => XS.iload Y515.here hx rfl (hb hby at_283) rfl  k) ?_
                  show Go p.tables e below (P0 Z p0 p1 p2 p3 h0 n0 s) (T515.setTop (mkF m 285 #[.val (.int p0), .val (.int p1), .val (.int p2), .val (.int p3), .val (.int (3 : Int32)), .val (.int z391), .val (.int z394), .val (.int z397), .val (.ref b398), .val (.ref b420), .val (.ref b435), .val (.int (1 : Int32)), .val (.int (2 : Int32)), .unset] [(.int (2 : Int32))]))
                  refine Go.back (fun t k => XS.iconst Y515.here hx rfl (hb hby at_285) k) ?_
                  show Go p.tables e below (P0 Z p0 p1 p2 p3 h0 n0 s) (T515.setTop (mkF m 286 #[.val (.int p0), .val (.int p1), .val (.int p2), .val (.int p3), .val (.int (3 : Int32)), .val (.int z391), .val (.int z394), .val (.int z397), .val (.ref b398), .val (.ref b420), .val (.ref b435), .val (.int (1 : Int32)), .val (.int (2 : Int32)), .unset] [(.int (1 : Int32)), (.int (2 : Int32))]))
                  refine Go.back (fun t k => XS.icmpYes Y515.here hx rfl (pc0 := 286) (pc' := 294) rfl (hb hby at_286) rfl (feq (by decide)).2 (by decide) (by decide) k) ?_
                  show Go p.tables e below (P0 Z p0 p1 p2 p3 h0 n0 s) (T515.setTop (mkF m 294 #[.val (.int p0), .val (.int p1), .val (.int p2), .val (.int p3), .val (.int (3 : Int32)), .val (.int z391), .val (.int z394), .val (.int z397), .val (.ref b398), .val (.ref b420), .val (.ref b435), .val (.int (1 : Int32)), .val (.int (2 : Int32)), .unset] []))
                  refine Go.back (fun t k => XS.iload Y515.here hx rfl (hb hby at_294) rfl  k) ?_
                  show Go p.tables e below (P0 Z p0 p1 p2 p3 h0 n0 s) (T515.setTop (mkF m 296 #[.val (.int p0), .val (.int p1), .val (.int p2), .val (.int p3), .val (.int (3 : Int32)), .val (.int z391), .val (.int z394), .val (.int z397), .val (.ref b398), .val (.ref b420), .val (.ref b435), .val (.int (1 : Int32)), .val (.int (2 : Int32)), .unset] [(.int z397)]))
                  refine Go.back (fun t k => XS.istore Y515.here hx rfl (hb hby at_296) rfl (l' := #[.val (.int p0), .val (.int p1), .val (.int p2), .val (.int p3), .val (.int (3 : Int32)), .val (.int z391), .val (.int z394), .val (.int z397), .val (.ref b398), .val (.ref b420), .val (.ref b435), .val (.int (1 : Int32)), .val (.int (2 : Int32)), .val (.int z397)]) rfl k) ?_
                  show Go p.tables e below (P0 Z p0 p1 p2 p3 h0 n0 s) (T515.setTop (mkF m 298 #[.val (.int p0), .val (.int p1), .val (.int p2), .val (.int p3), .val (.int (3 : Int32)), .val (.int z391), .val (.int z394), .val (.int z397), .val (.ref b398), .val (.ref b420), .val (.ref b435), .val (.int (1 : Int32)), .val (.int (2 : Int32)), .val (.int z397)] []))
                  refine Go.back (fun t k => XS.aload Y515.here hx rfl (hb hby at_298) rfl rfl  k) ?_
                  show Go p.tables e below (P0 Z p0 p1 p2 p3 h0 n0 s) (T515.setTop (mkF m 300 #[.val (.int p0), .val (.int p1), .val (.int p2), .val (.int p3), .val (.int (3 : Int32)), .val (.int z391), .val (.int z394), .val (.int z397), .val (.ref b398), .val (.ref b420), .val (.ref b435), .val (.int (1 : Int32)), .val (.int (2 : Int32)), .val (.int z397)] [(.ref b435)]))
                  refine Go.back (fun t k => XS.iload Y515.here hx rfl (hb hby at_300) rfl  k) ?_
                  show Go p.tables e below (P0 Z p0 p1 p2 p3 h0 n0 s) (T515.setTop (mkF m 302 #[.val (.int p0), .val (.int p1), .val (.int p2), .val (.int p3), .val (.int (3 : Int32)), .val (.int z391), .val (.int z394), .val (.int z397), .val (.ref b398), .val (.ref b420), .val (.ref b435), .val (.int (1 : Int32)), .val (.int (2 : Int32)), .val (.int z397)] [(.int z397), (.ref b435)]))
                  obtain ⟨cq516, kq516, q516a, q516b, q516c⟩ := isOf hZ e515 F509
                  obtain ⟨_, _, ⟨T516, L516, k516, n516⟩, -, X516, ⟨Lc516, hQ516, l516, y516, z516⟩, st516⟩ := Y515.virtualBack hx (y := (⟨"com/example/paylode/paylode/header/HeaderReader", "expect", "(C)V"⟩ : MethodName)) (z := (⟨"com/example/paylode/paylode/header/HeaderReader", "expect", "(C)V"⟩ : MethodName)) hown (mvT hZ (hw _ (List.mem_of_getElem? (i := 107) rfl))) (mvT hZ (hw _ (List.mem_of_getElem? (i := 108) rfl))) (notFace_of_selects (args := #[]) (mvT hZ (hw _ (List.mem_of_getElem? (i := 110) rfl)))) (mvT hZ (hw _ (List.mem_of_getElem? (i := 110) rfl))) (mvT hZ (hw _ (List.mem_of_getElem? (i := 109) rfl))) (by decide) (backOf (W := 0) (rm21 l Z a0 hw [] b435 z397 b420 t429b [z391, z394, z397] zc fm (2 : Int32) h500 n0 F503 F509 F512 F513 F505 F506 F507 F508 F501 F502 g439 ne437 ne438 hcs hp hl hfm ⟨by decide, Nat.le_of_ble_eq_true rfl⟩ (by simp [f11, f7])) hZ (hw _ (List.mem_of_getElem? (i := 111) rfl)) (hw _ (List.mem_of_getElem? (i := 28) rfl)) (by decide) (by decide)) q516a q516c (g := (mkF m 302 #[.val (.int p0), .val (.int p1), .val (.int p2), .val (.int p3), .val (.int (3 : Int32)), .val (.int z391), .val (.int z394), .val (.int z397), .val (.ref b398), .val (.ref b420), .val (.ref b435), .val (.int (1 : Int32)), .val (.int (2 : Int32)), .val (.int z397)] [(.int z397), (.ref b435)])) rfl (by rw [hml]; rfl) (Steps.refl _) (argsL := [(.int z397)]) (rest := []) (lenOf pd_8 rfl) rfl (by show 2 * 0 + _ ≤ _; exact Nat.le_of_eq rfl) (hb hby at_302) (fun _ _ => ⟨rfl, e515, (by decide : 6 + 0 ≤ _), (by decide : 37 + 0 ≤ _)⟩)
                  dsimp only [Pt.U, Pt.locs, Pt.cells, Pt.slots] at X516 l516 y516 z516 st516 hQ516
                  subst l516 y516 z516
                  obtain ⟨h516, e516⟩ : ∃ z, T516.heap = z := ⟨_, rfl⟩
                  rw [e516] at hQ516
                  obtain ⟨rfl, N516q, K516, F527, F528⟩ := hQ516
                  obtain ⟨Lo516, Y516, N516⟩ := pk X516 (Fr.app N515 N516q)
                  have F517 : Sta Z h516 "java/lang/String" "COMPACT_STRINGS" "Z" (.int zc) := sta_keep F501 K516 (noSS (noS_exa F509) noS0)
                  have F518 : Sta Z h516 "jdk/internal/util/Preconditions" "SIOOBE_FORMATTER" "Ljava/util/function/BiFunction;" fm := sta_keep F502 K516 (noSS (noS_exa F509) noS0)
                  have F519 : n0 ≤ h516.size := Nat.le_trans F503 K516.1
                  have F520 : ArL Z h516 b398 .char [(.int z391), (.int z394), (.int z397)] := F504.keep K516 (ninS ne436 nin0)
                  have F521 : Exa Z h516 b420 "java/lang/String" := F505.keep K516
                  have F522 : Fld Z h516 b420 "java/lang/String" "coder" "B" (.int (0 : Int32)) := F506.keep K516 (ninS ne437 nin0)
                  have F523 : Fld Z h516 b420 "java/lang/String" "value" "[B" (.ref t429b) := F507.keep K516 (ninS ne437 nin0)
                  have F524 : ArL Z h516 t429b .byte (List.map Value.int (List.map StrChars.lo8 [z391, z394, z397])) := F508.keep K516 (ninS ne438 nin0)
                  have F525 : Exa Z h516 b435 "com/example/paylode/paylode/header/HeaderReader" := F509.keep K516
                  have F526 : kV ≤ h516.size := Nat.le_trans F510 K516.1
                  refine Go.trans st516 ?_
                  show Go p.tables e below (P0 Z p0 p1 p2 p3 h0 n0 s) (T516.setTop (mkF m 305 #[.val (.int p0), .val (.int p1), .val (.int p2), .val (.int p3), .val (.int (3 : Int32)), .val (.int z391), .val (.int z394), .val (.int z397), .val (.ref b398), .val (.ref b420), .val (.ref b435), .val (.int (1 : Int32)), .val (.int (2 : Int32)), .val (.int z397)] []))
                  have F529 : Fld Z h516 b435 "com/example/paylode/paylode/header/HeaderReader" "position" "I" (.int (3 : Int32)) := by
                    have q := F527
                    rw [show ((2 : Int32) + (1 : Int32)) = (3 : Int32) from by decide] at q
                    exact q
                  refine Go.back (fun t k => XS.iload Y516.here hx rfl (hb hby at_305) rfl  k) ?_
                  show Go p.tables e below (P0 Z p0 p1 p2 p3 h0 n0 s) (T516.setTop (mkF m 307 #[.val (.int p0), .val (.int p1), .val (.int p2), .val (.int p3), .val (.int (3 : Int32)), .val (.int z391), .val (.int z394), .val (.int z397), .val (.ref b398), .val (.ref b420), .val (.ref b435), .val (.int (1 : Int32)), .val (.int (2 : Int32)), .val (.int z397)] [(.int (1 : Int32))]))
                  refine Go.back (fun t k => XS.ifNo Y516.here hx rfl (hb hby at_307) rfl ((if0 _ _).trans (feq (by decide)).1) k) ?_
                  show Go p.tables e below (P0 Z p0 p1 p2 p3 h0 n0 s) (T516.setTop (mkF m 310 #[.val (.int p0), .val (.int p1), .val (.int p2), .val (.int p3), .val (.int (3 : Int32)), .val (.int z391), .val (.int z394), .val (.int z397), .val (.ref b398), .val (.ref b420), .val (.ref b435), .val (.int (1 : Int32)), .val (.int (2 : Int32)), .val (.int z397)] []))
                  refine Go.back (fun t k => XS.aload Y516.here hx rfl (hb hby at_310) rfl rfl  k) ?_
                  show Go p.tables e below (P0 Z p0 p1 p2 p3 h0 n0 s) (T516.setTop (mkF m 312 #[.val (.int p0), .val (.int p1), .val (.int p2), .val (.int p3), .val (.int (3 : Int32)), .val (.int z391), .val (.int z394), .val (.int z397), .val (.ref b398), .val (.ref b420), .val (.ref b435), .val (.int (1 : Int32)), .val (.int (2 : Int32)), .val (.int z397)] [(.ref b435)]))
                  obtain ⟨cq530, kq530, q530a, q530b, q530c⟩ := isOf hZ e516 F525
                  obtain ⟨_, _, ⟨T530, L530, k530, n530⟩, -, X530, ⟨Lc530, hQ530, l530, y530, z530⟩, st530⟩ := Y516.virtualBack hx (y := (⟨"com/example/paylode/paylode/header/HeaderReader", "position", "()I"⟩ : MethodName)) (z := (⟨"com/example/paylode/paylode/header/HeaderReader", "position", "()I"⟩ : MethodName)) hown (mvT hZ (hw _ (List.mem_of_getElem? (i := 38) rfl))) (mvT hZ (hw _ (List.mem_of_getElem? (i := 39) rfl))) (notFace_of_selects (args := #[]) (mvT hZ (hw _ (List.mem_of_getElem? (i := 41) rfl)))) (mvT hZ (hw _ (List.mem_of_getElem? (i := 41) rfl))) (mvT hZ (hw _ (List.mem_of_getElem? (i := 40) rfl))) (by decide) (backOf (W := 0) (rm6 l Z a0 hw [] b435 (3 : Int32) h516 n0 F519 F529) hZ (hw _ (List.mem_of_getElem? (i := 42) rfl)) (hw _ (List.mem_of_getElem? (i := 28) rfl)) (by decide) (by decide)) q530a q530c (g := (mkF m 312 #[.val (.int p0), .val (.int p1), .val (.int p2), .val (.int p3), .val (.int (3 : Int32)), .val (.int z391), .val (.int z394), .val (.int z397), .val (.ref b398), .val (.ref b420), .val (.ref b435), .val (.int (1 : Int32)), .val (.int (2 : Int32)), .val (.int z397)] [(.ref b435)])) rfl (by rw [hml]; rfl) (Steps.refl _) (argsL := []) (rest := []) (lenOf pd_0 rfl) rfl (by show 2 * 0 + _ ≤ _; exact Nat.le_of_eq rfl) (hb hby at_312) (fun _ _ => ⟨rfl, e516, (by decide : 6 + 0 ≤ _), (by decide : 37 + 0 ≤ _)⟩)
                  dsimp only [Pt.U, Pt.locs, Pt.cells, Pt.slots] at X530 l530 y530 z530 st530 hQ530
                  subst l530 y530 z530
                  obtain ⟨rfl, N530q, e530⟩ := hQ530
                  obtain ⟨Lo530, Y530, N530⟩ := pk X530 (Fr.app N516 N530q)
                  refine Go.trans st530 ?_
                  show Go p.tables e below (P0 Z p0 p1 p2 p3 h0 n0 s) (T530.setTop (mkF m 315 #[.val (.int p0), .val (.int p1), .val (.int p2), .val (.int p3), .val (.int (3 : Int32)), .val (.int z391), .val (.int z394), .val (.int z397), .val (.ref b398), .val (.ref b420), .val (.ref b435), .val (.int (1 : Int32)), .val (.int (2 : Int32)), .val (.int z397)] [(.int (3 : Int32))]))
                  refine Go.back (fun t k => XS.iload Y530.here hx rfl (hb hby at_315) rfl  k) ?_
                  show Go p.tables e below (P0 Z p0 p1 p2 p3 h0 n0 s) (T530.setTop (mkF m 317 #[.val (.int p0), .val (.int p1), .val (.int p2), .val (.int p3), .val (.int (3 : Int32)), .val (.int z391), .val (.int z394), .val (.int z397), .val (.ref b398), .val (.ref b420), .val (.ref b435), .val (.int (1 : Int32)), .val (.int (2 : Int32)), .val (.int z397)] [(.int (2 : Int32)), (.int (3 : Int32))]))
                  refine Go.back (fun t k => XS.iconst Y530.here hx rfl (hb hby at_317) k) ?_
                  show Go p.tables e below (P0 Z p0 p1 p2 p3 h0 n0 s) (T530.setTop (mkF m 318 #[.val (.int p0), .val (.int p1), .val (.int p2), .val (.int p3), .val (.int (3 : Int32)), .val (.int z391), .val (.int z394), .val (.int z397), .val (.ref b398), .val (.ref b420), .val (.ref b435), .val (.int (1 : Int32)), .val (.int (2 : Int32)), .val (.int z397)] [(.int (1 : Int32)), (.int (2 : Int32)), (.int (3 : Int32))]))
                  refine Go.back (fun t k => XS.iadd Y530.here hx rfl (hb hby at_318) rfl k) ?_
                  show Go p.tables e below (P0 Z p0 p1 p2 p3 h0 n0 s) (T530.setTop (mkF m 319 #[.val (.int p0), .val (.int p1), .val (.int p2), .val (.int p3), .val (.int (3 : Int32)), .val (.int z391), .val (.int z394), .val (.int z397), .val (.ref b398), .val (.ref b420), .val (.ref b435), .val (.int (1 : Int32)), .val (.int (2 : Int32)), .val (.int z397)] [(.int ((2 : Int32) + (1 : Int32))), (.int (3 : Int32))]))
                  rw [show ((2 : Int32) + (1 : Int32)) = (3 : Int32) from by decide]
                  refine Go.back (fun t k => XS.icmpNo Y530.here hx rfl (hb hby at_319) rfl (teq (by decide)).2 k) ?_
                  show Go p.tables e below (P0 Z p0 p1 p2 p3 h0 n0 s) (T530.setTop (mkF m 322 #[.val (.int p0), .val (.int p1), .val (.int p2), .val (.int p3), .val (.int (3 : Int32)), .val (.int z391), .val (.int z394), .val (.int z397), .val (.ref b398), .val (.ref b420), .val (.ref b435), .val (.int (1 : Int32)), .val (.int (2 : Int32)), .val (.int z397)] []))
                  refine Go.back (fun t k => XS.aload Y530.here hx rfl (hb hby at_322) rfl rfl  k) ?_
                  show Go p.tables e below (P0 Z p0 p1 p2 p3 h0 n0 s) (T530.setTop (mkF m 324 #[.val (.int p0), .val (.int p1), .val (.int p2), .val (.int p3), .val (.int (3 : Int32)), .val (.int z391), .val (.int z394), .val (.int z397), .val (.ref b398), .val (.ref b420), .val (.ref b435), .val (.int (1 : Int32)), .val (.int (2 : Int32)), .val (.int z397)] [(.ref b435)]))
                  obtain ⟨cq531, kq531, q531a, q531b, q531c⟩ := isOf hZ e530 F525
                  obtain ⟨_, _, ⟨T531, L531, k531, n531⟩, -, X531, ⟨Lc531, hQ531, l531, y531, z531⟩, st531⟩ := Y530.virtualBack hx (y := (⟨"com/example/paylode/paylode/header/HeaderReader", "atEnd", "()Z"⟩ : MethodName)) (z := (⟨"com/example/paylode/paylode/header/HeaderReader", "atEnd", "()Z"⟩ : MethodName)) hown (mvT hZ (hw _ (List.mem_of_getElem? (i := 45) rfl))) (mvT hZ (hw _ (List.mem_of_getElem? (i := 46) rfl))) (notFace_of_selects (args := #[]) (mvT hZ (hw _ (List.mem_of_getElem? (i := 48) rfl)))) (mvT hZ (hw _ (List.mem_of_getElem? (i := 48) rfl))) (mvT hZ (hw _ (List.mem_of_getElem? (i := 47) rfl))) (by decide) (backOf (W := 0) (rm7 l Z a0 hw [] b435 b420 t429b [z391, z394, z397] zc fm (3 : Int32) h516 n0 F519 F525 F528 F529 F521 F522 F523 F524 F517 F518 hcs hp hl hfm) hZ (hw _ (List.mem_of_getElem? (i := 49) rfl)) (hw _ (List.mem_of_getElem? (i := 28) rfl)) (by decide) (by decide)) q531a q531c (g := (mkF m 324 #[.val (.int p0), .val (.int p1), .val (.int p2), .val (.int p3), .val (.int (3 : Int32)), .val (.int z391), .val (.int z394), .val (.int z397), .val (.ref b398), .val (.ref b420), .val (.ref b435), .val (.int (1 : Int32)), .val (.int (2 : Int32)), .val (.int z397)] [(.ref b435)])) rfl (by rw [hml]; rfl) (Steps.refl _) (argsL := []) (rest := []) (lenOf pd_1 rfl) rfl (by show 2 * 0 + _ ≤ _; exact Nat.le_of_eq rfl) (hb hby at_324) (fun _ _ => ⟨rfl, e530, (by decide : 6 + 0 ≤ _), (by decide : 37 + 0 ≤ _)⟩)
                  dsimp only [Pt.U, Pt.locs, Pt.cells, Pt.slots] at X531 l531 y531 z531 st531 hQ531
                  subst l531 y531 z531
                  obtain ⟨rfl, N531q, e531⟩ := hQ531
                  obtain ⟨Lo531, Y531, N531⟩ := pk X531 (Fr.app N530 N531q)
                  refine Go.trans st531 ?_
                  rw [show (f7 [z391, z394, z397] (3 : Int32)) = true from by first | rfl | simp [f7]]
                  show Go p.tables e below (P0 Z p0 p1 p2 p3 h0 n0 s) (T531.setTop (mkF m 327 #[.val (.int p0), .val (.int p1), .val (.int p2), .val (.int p3), .val (.int (3 : Int32)), .val (.int z391), .val (.int z394), .val (.int z397), .val (.ref b398), .val (.ref b420), .val (.ref b435), .val (.int (1 : Int32)), .val (.int (2 : Int32)), .val (.int z397)] [(.int (1 : Int32))]))
                  refine Go.back (fun t k => XS.iload Y531.here hx rfl (hb hby at_327) rfl  k) ?_
                  show Go p.tables e below (P0 Z p0 p1 p2 p3 h0 n0 s) (T531.setTop (mkF m 329 #[.val (.int p0), .val (.int p1), .val (.int p2), .val (.int p3), .val (.int (3 : Int32)), .val (.int z391), .val (.int z394), .val (.int z397), .val (.ref b398), .val (.ref b420), .val (.ref b435), .val (.int (1 : Int32)), .val (.int (2 : Int32)), .val (.int z397)] [(.int (2 : Int32)), (.int (1 : Int32))]))
                  refine Go.back (fun t k => XS.iconst Y531.here hx rfl (hb hby at_329) k) ?_
                  show Go p.tables e below (P0 Z p0 p1 p2 p3 h0 n0 s) (T531.setTop (mkF m 330 #[.val (.int p0), .val (.int p1), .val (.int p2), .val (.int p3), .val (.int (3 : Int32)), .val (.int z391), .val (.int z394), .val (.int z397), .val (.ref b398), .val (.ref b420), .val (.ref b435), .val (.int (1 : Int32)), .val (.int (2 : Int32)), .val (.int z397)] [(.int (1 : Int32)), (.int (2 : Int32)), (.int (1 : Int32))]))
                  refine Go.back (fun t k => XS.iadd Y531.here hx rfl (hb hby at_330) rfl k) ?_
                  show Go p.tables e below (P0 Z p0 p1 p2 p3 h0 n0 s) (T531.setTop (mkF m 331 #[.val (.int p0), .val (.int p1), .val (.int p2), .val (.int p3), .val (.int (3 : Int32)), .val (.int z391), .val (.int z394), .val (.int z397), .val (.ref b398), .val (.ref b420), .val (.ref b435), .val (.int (1 : Int32)), .val (.int (2 : Int32)), .val (.int z397)] [(.int ((2 : Int32) + (1 : Int32))), (.int (1 : Int32))]))
                  rw [show ((2 : Int32) + (1 : Int32)) = (3 : Int32) from by decide]
                  refine Go.back (fun t k => XS.iload Y531.here hx rfl (hb hby at_331) rfl  k) ?_
                  show Go p.tables e below (P0 Z p0 p1 p2 p3 h0 n0 s) (T531.setTop (mkF m 333 #[.val (.int p0), .val (.int p1), .val (.int p2), .val (.int p3), .val (.int (3 : Int32)), .val (.int z391), .val (.int z394), .val (.int z397), .val (.ref b398), .val (.ref b420), .val (.ref b435), .val (.int (1 : Int32)), .val (.int (2 : Int32)), .val (.int z397)] [(.int (3 : Int32)), (.int (3 : Int32)), (.int (1 : Int32))]))
                  refine Go.back (fun t k => XS.icmpNo Y531.here hx rfl (hb hby at_333) rfl (teq (by decide)).2 k) ?_
                  show Go p.tables e below (P0 Z p0 p1 p2 p3 h0 n0 s) (T531.setTop (mkF m 336 #[.val (.int p0), .val (.int p1), .val (.int p2), .val (.int p3), .val (.int (3 : Int32)), .val (.int z391), .val (.int z394), .val (.int z397), .val (.ref b398), .val (.ref b420), .val (.ref b435), .val (.int (1 : Int32)), .val (.int (2 : Int32)), .val (.int z397)] [(.int (1 : Int32))]))
                  refine Go.back (fun t k => XS.iconst Y531.here hx rfl (hb hby at_336) k) ?_
                  show Go p.tables e below (P0 Z p0 p1 p2 p3 h0 n0 s) (T531.setTop (mkF m 337 #[.val (.int p0), .val (.int p1), .val (.int p2), .val (.int p3), .val (.int (3 : Int32)), .val (.int z391), .val (.int z394), .val (.int z397), .val (.ref b398), .val (.ref b420), .val (.ref b435), .val (.int (1 : Int32)), .val (.int (2 : Int32)), .val (.int z397)] [(.int (1 : Int32)), (.int (1 : Int32))]))
                  refine Go.back (fun t k => XS.goto Y531.here hx rfl (pc0 := 337) (pc' := 341) rfl (hb hby at_337) (by decide) (by decide) k) ?_
                  show Go p.tables e below (P0 Z p0 p1 p2 p3 h0 n0 s) (T531.setTop (mkF m 341 #[.val (.int p0), .val (.int p1), .val (.int p2), .val (.int p3), .val (.int (3 : Int32)), .val (.int z391), .val (.int z394), .val (.int z397), .val (.ref b398), .val (.ref b420), .val (.ref b435), .val (.int (1 : Int32)), .val (.int (2 : Int32)), .val (.int z397)] [(.int (1 : Int32)), (.int (1 : Int32))]))
                  refine Go.back (fun t k => XS.icmpNo Y531.here hx rfl (hb hby at_341) rfl (teq (by decide)).2 k) ?_
                  show Go p.tables e below (P0 Z p0 p1 p2 p3 h0 n0 s) (T531.setTop (mkF m 344 #[.val (.int p0), .val (.int p1), .val (.int p2), .val (.int p3), .val (.int (3 : Int32)), .val (.int z391), .val (.int z394), .val (.int z397), .val (.ref b398), .val (.ref b420), .val (.ref b435), .val (.int (1 : Int32)), .val (.int (2 : Int32)), .val (.int z397)] []))
                  refine Go.back (fun t k => XS.iconst Y531.here hx rfl (hb hby at_344) k) ?_
                  show Go p.tables e below (P0 Z p0 p1 p2 p3 h0 n0 s) (T531.setTop (mkF m 345 #[.val (.int p0), .val (.int p1), .val (.int p2), .val (.int p3), .val (.int (3 : Int32)), .val (.int z391), .val (.int z394), .val (.int z397), .val (.ref b398), .val (.ref b420), .val (.ref b435), .val (.int (1 : Int32)), .val (.int (2 : Int32)), .val (.int z397)] [(.int (1 : Int32))]))
                  refine Go.back (fun t k => XS.goto Y531.here hx rfl (pc0 := 345) (pc' := 349) rfl (hb hby at_345) (by decide) (by decide) k) ?_
                  show Go p.tables e below (P0 Z p0 p1 p2 p3 h0 n0 s) (T531.setTop (mkF m 349 #[.val (.int p0), .val (.int p1), .val (.int p2), .val (.int p3), .val (.int (3 : Int32)), .val (.int z391), .val (.int z394), .val (.int z397), .val (.ref b398), .val (.ref b420), .val (.ref b435), .val (.int (1 : Int32)), .val (.int (2 : Int32)), .val (.int z397)] [(.int (1 : Int32))]))
                  refine Go.back (fun t k => XS.istore Y531.here hx rfl (hb hby at_349) rfl (l' := #[.val (.int p0), .val (.int p1), .val (.int p2), .val (.int p3), .val (.int (3 : Int32)), .val (.int z391), .val (.int z394), .val (.int z397), .val (.ref b398), .val (.ref b420), .val (.ref b435), .val (.int (1 : Int32)), .val (.int (2 : Int32)), .val (.int z397)]) rfl k) ?_
                  show Go p.tables e below (P0 Z p0 p1 p2 p3 h0 n0 s) (T531.setTop (mkF m 351 #[.val (.int p0), .val (.int p1), .val (.int p2), .val (.int p3), .val (.int (3 : Int32)), .val (.int z391), .val (.int z394), .val (.int z397), .val (.ref b398), .val (.ref b420), .val (.ref b435), .val (.int (1 : Int32)), .val (.int (2 : Int32)), .val (.int z397)] []))
                  refine Go.back (fun t k => XS.iload Y531.here hx rfl (hb hby at_351) rfl  k) ?_
                  show Go p.tables e below (P0 Z p0 p1 p2 p3 h0 n0 s) (T531.setTop (mkF m 353 #[.val (.int p0), .val (.int p1), .val (.int p2), .val (.int p3), .val (.int (3 : Int32)), .val (.int z391), .val (.int z394), .val (.int z397), .val (.ref b398), .val (.ref b420), .val (.ref b435), .val (.int (1 : Int32)), .val (.int (2 : Int32)), .val (.int z397)] [(.int (1 : Int32))]))
                  exact Go.retBW (s := s) (vm0 := TV.vm) (b := true) (Qa := Q0 Z p0 p1 p2 p3 h0 n0) (Qb := fun vm h => True) Y531 hx hSV (by rw [e531]; exact F526) Bd.returns (hb hby at_353) Bd.notSynchronized ⟨rfl, N531⟩ trivial (by decide) (by decide)
              · refine Go.back (fun t k => XS.ifYes Y480.here hx rfl (pc0 := 181) (pc' := 210) rfl (hb hby at_181) rfl ((if0 _ _).trans (teq (b2i_f hc481)).1) (by decide) (by decide) k) ?_
                show Go p.tables e below (P0 Z p0 p1 p2 p3 h0 n0 s) (T480.setTop (mkF m 210 #[.val (.int p0), .val (.int p1), .val (.int p2), .val (.int p3), .val (.int (3 : Int32)), .val (.int z391), .val (.int z394), .val (.int z397), .val (.ref b398), .val (.ref b420), .val (.ref b435), .val (.int (1 : Int32)), .unset, .unset] []))
                refine Go.back (fun t k => XS.iconst Y480.here hx rfl (hb hby at_210) k) ?_
                show Go p.tables e below (P0 Z p0 p1 p2 p3 h0 n0 s) (T480.setTop (mkF m 211 #[.val (.int p0), .val (.int p1), .val (.int p2), .val (.int p3), .val (.int (3 : Int32)), .val (.int z391), .val (.int z394), .val (.int z397), .val (.ref b398), .val (.ref b420), .val (.ref b435), .val (.int (1 : Int32)), .unset, .unset] [(.int (1 : Int32))]))
                refine Go.back (fun t k => XS.istore Y480.here hx rfl (hb hby at_211) rfl (l' := #[.val (.int p0), .val (.int p1), .val (.int p2), .val (.int p3), .val (.int (3 : Int32)), .val (.int z391), .val (.int z394), .val (.int z397), .val (.ref b398), .val (.ref b420), .val (.ref b435), .val (.int (1 : Int32)), .val (.int (1 : Int32)), .unset]) rfl k) ?_
                show Go p.tables e below (P0 Z p0 p1 p2 p3 h0 n0 s) (T480.setTop (mkF m 213 #[.val (.int p0), .val (.int p1), .val (.int p2), .val (.int p3), .val (.int (3 : Int32)), .val (.int z391), .val (.int z394), .val (.int z397), .val (.ref b398), .val (.ref b420), .val (.ref b435), .val (.int (1 : Int32)), .val (.int (1 : Int32)), .unset] []))
                refine Go.back (fun t k => XS.goto Y480.here hx rfl (pc0 := 213) (pc' := 219) rfl (hb hby at_213) (by decide) (by decide) k) ?_
                show Go p.tables e below (P0 Z p0 p1 p2 p3 h0 n0 s) (T480.setTop (mkF m 219 #[.val (.int p0), .val (.int p1), .val (.int p2), .val (.int p3), .val (.int (3 : Int32)), .val (.int z391), .val (.int z394), .val (.int z397), .val (.ref b398), .val (.ref b420), .val (.ref b435), .val (.int (1 : Int32)), .val (.int (1 : Int32)), .unset] []))
                refine Go.back (fun t k => XS.aload Y480.here hx rfl (hb hby at_219) rfl rfl  k) ?_
                show Go p.tables e below (P0 Z p0 p1 p2 p3 h0 n0 s) (T480.setTop (mkF m 221 #[.val (.int p0), .val (.int p1), .val (.int p2), .val (.int p3), .val (.int (3 : Int32)), .val (.int z391), .val (.int z394), .val (.int z397), .val (.ref b398), .val (.ref b420), .val (.ref b435), .val (.int (1 : Int32)), .val (.int (1 : Int32)), .unset] [(.ref b435)]))
                obtain ⟨cq532, kq532, q532a, q532b, q532c⟩ := isOf hZ e480 F472
                obtain ⟨_, _, ⟨T532, L532, k532, n532⟩, -, X532, ⟨Lc532, hQ532, l532, y532, z532⟩, st532⟩ := Y480.virtualBack hx (y := (⟨"com/example/paylode/paylode/header/HeaderReader", "skipWhitespace", "()V"⟩ : MethodName)) (z := (⟨"com/example/paylode/paylode/header/HeaderReader", "skipWhitespace", "()V"⟩ : MethodName)) hown (mvT hZ (hw _ (List.mem_of_getElem? (i := 61) rfl))) (mvT hZ (hw _ (List.mem_of_getElem? (i := 62) rfl))) (notFace_of_selects (args := #[]) (mvT hZ (hw _ (List.mem_of_getElem? (i := 64) rfl)))) (mvT hZ (hw _ (List.mem_of_getElem? (i := 64) rfl))) (mvT hZ (hw _ (List.mem_of_getElem? (i := 63) rfl))) (by decide) (backOf (W := 0) (rm10 l Z a0 hw [] b435 b420 t429b [z391, z394, z397] zc fm h463 n0 F466 F472 F475 F474 F468 F469 F470 F471 F464 F465 g439 ne437 ne438 hcs hp hl hfm) hZ (hw _ (List.mem_of_getElem? (i := 65) rfl)) (hw _ (List.mem_of_getElem? (i := 28) rfl)) (by decide) (by decide)) q532a q532c (g := (mkF m 221 #[.val (.int p0), .val (.int p1), .val (.int p2), .val (.int p3), .val (.int (3 : Int32)), .val (.int z391), .val (.int z394), .val (.int z397), .val (.ref b398), .val (.ref b420), .val (.ref b435), .val (.int (1 : Int32)), .val (.int (1 : Int32)), .unset] [(.ref b435)])) rfl (by rw [hml]; rfl) (Steps.refl _) (argsL := []) (rest := []) (lenOf pd_7 rfl) rfl (by show 2 * 0 + _ ≤ _; exact Nat.le_of_eq rfl) (hb hby at_221) (fun _ _ => ⟨rfl, e480, (by decide : 6 + 0 ≤ _), (by decide : 37 + 0 ≤ _)⟩)
                dsimp only [Pt.U, Pt.locs, Pt.cells, Pt.slots] at X532 l532 y532 z532 st532 hQ532
                subst l532 y532 z532
                obtain ⟨h532, e532⟩ : ∃ z, T532.heap = z := ⟨_, rfl⟩
                rw [e532] at hQ532
                obtain ⟨rfl, N532q, K532, F543, F544⟩ := hQ532
                obtain ⟨Lo532, Y532, N532⟩ := pk X532 (Fr.app N480 N532q)
                have F533 : Sta Z h532 "java/lang/String" "COMPACT_STRINGS" "Z" (.int zc) := sta_keep F464 K532 (noSS (noS_exa F472) noS0)
                have F534 : Sta Z h532 "jdk/internal/util/Preconditions" "SIOOBE_FORMATTER" "Ljava/util/function/BiFunction;" fm := sta_keep F465 K532 (noSS (noS_exa F472) noS0)
                have F535 : n0 ≤ h532.size := Nat.le_trans F466 K532.1
                have F536 : ArL Z h532 b398 .char [(.int z391), (.int z394), (.int z397)] := F467.keep K532 (ninS ne436 nin0)
                have F537 : Exa Z h532 b420 "java/lang/String" := F468.keep K532
                have F538 : Fld Z h532 b420 "java/lang/String" "coder" "B" (.int (0 : Int32)) := F469.keep K532 (ninS ne437 nin0)
                have F539 : Fld Z h532 b420 "java/lang/String" "value" "[B" (.ref t429b) := F470.keep K532 (ninS ne437 nin0)
                have F540 : ArL Z h532 t429b .byte (List.map Value.int (List.map StrChars.lo8 [z391, z394, z397])) := F471.keep K532 (ninS ne438 nin0)
                have F541 : Exa Z h532 b435 "com/example/paylode/paylode/header/HeaderReader" := F472.keep K532
                have F542 : kV ≤ h532.size := Nat.le_trans F473 K532.1
                refine Go.trans st532 ?_
                show Go p.tables e below (P0 Z p0 p1 p2 p3 h0 n0 s) (T532.setTop (mkF m 224 #[.val (.int p0), .val (.int p1), .val (.int p2), .val (.int p3), .val (.int (3 : Int32)), .val (.int z391), .val (.int z394), .val (.int z397), .val (.ref b398), .val (.ref b420), .val (.ref b435), .val (.int (1 : Int32)), .val (.int (1 : Int32)), .unset] []))
                have F545 : Fld Z h532 b435 "com/example/paylode/paylode/header/HeaderReader" "position" "I" (.int (1 : Int32)) := by
                  have q := F543
                  rw [show (g10_1 [z391, z394, z397]) = (1 : Int32) from own_sk_3_1 hc479 hc481] at q
                  exact q
                refine Go.back (fun t k => XS.iload Y532.here hx rfl (hb hby at_224) rfl  k) ?_
                show Go p.tables e below (P0 Z p0 p1 p2 p3 h0 n0 s) (T532.setTop (mkF m 226 #[.val (.int p0), .val (.int p1), .val (.int p2), .val (.int p3), .val (.int (3 : Int32)), .val (.int z391), .val (.int z394), .val (.int z397), .val (.ref b398), .val (.ref b420), .val (.ref b435), .val (.int (1 : Int32)), .val (.int (1 : Int32)), .unset] [(.int (1 : Int32))]))
                refine Go.back (fun t k => XS.ifNo Y532.here hx rfl (hb hby at_226) rfl ((if0 _ _).trans (feq (by decide)).1) k) ?_
                show Go p.tables e below (P0 Z p0 p1 p2 p3 h0 n0 s) (T532.setTop (mkF m 229 #[.val (.int p0), .val (.int p1), .val (.int p2), .val (.int p3), .val (.int (3 : Int32)), .val (.int z391), .val (.int z394), .val (.int z397), .val (.ref b398), .val (.ref b420), .val (.ref b435), .val (.int (1 : Int32)), .val (.int (1 : Int32)), .unset] []))
                refine Go.back (fun t k => XS.aload Y532.here hx rfl (hb hby at_229) rfl rfl  k) ?_
                show Go p.tables e below (P0 Z p0 p1 p2 p3 h0 n0 s) (T532.setTop (mkF m 231 #[.val (.int p0), .val (.int p1), .val (.int p2), .val (.int p3), .val (.int (3 : Int32)), .val (.int z391), .val (.int z394), .val (.int z397), .val (.ref b398), .val (.ref b420), .val (.ref b435), .val (.int (1 : Int32)), .val (.int (1 : Int32)), .unset] [(.ref b435)]))
                obtain ⟨cq546, kq546, q546a, q546b, q546c⟩ := isOf hZ e532 F541
                obtain ⟨_, _, ⟨T546, L546, k546, n546⟩, -, X546, ⟨Lc546, hQ546, l546, y546, z546⟩, st546⟩ := Y532.virtualBack hx (y := (⟨"com/example/paylode/paylode/header/HeaderReader", "position", "()I"⟩ : MethodName)) (z := (⟨"com/example/paylode/paylode/header/HeaderReader", "position", "()I"⟩ : MethodName)) hown (mvT hZ (hw _ (List.mem_of_getElem? (i := 38) rfl))) (mvT hZ (hw _ (List.mem_of_getElem? (i := 39) rfl))) (notFace_of_selects (args := #[]) (mvT hZ (hw _ (List.mem_of_getElem? (i := 41) rfl)))) (mvT hZ (hw _ (List.mem_of_getElem? (i := 41) rfl))) (mvT hZ (hw _ (List.mem_of_getElem? (i := 40) rfl))) (by decide) (backOf (W := 0) (rm6 l Z a0 hw [] b435 (1 : Int32) h532 n0 F535 F545) hZ (hw _ (List.mem_of_getElem? (i := 42) rfl)) (hw _ (List.mem_of_getElem? (i := 28) rfl)) (by decide) (by decide)) q546a q546c (g := (mkF m 231 #[.val (.int p0), .val (.int p1), .val (.int p2), .val (.int p3), .val (.int (3 : Int32)), .val (.int z391), .val (.int z394), .val (.int z397), .val (.ref b398), .val (.ref b420), .val (.ref b435), .val (.int (1 : Int32)), .val (.int (1 : Int32)), .unset] [(.ref b435)])) rfl (by rw [hml]; rfl) (Steps.refl _) (argsL := []) (rest := []) (lenOf pd_0 rfl) rfl (by show 2 * 0 + _ ≤ _; exact Nat.le_of_eq rfl) (hb hby at_231) (fun _ _ => ⟨rfl, e532, (by decide : 6 + 0 ≤ _), (by decide : 37 + 0 ≤ _)⟩)
                dsimp only [Pt.U, Pt.locs, Pt.cells, Pt.slots] at X546 l546 y546 z546 st546 hQ546
                subst l546 y546 z546
                obtain ⟨rfl, N546q, e546⟩ := hQ546
                obtain ⟨Lo546, Y546, N546⟩ := pk X546 (Fr.app N532 N546q)
                refine Go.trans st546 ?_
                show Go p.tables e below (P0 Z p0 p1 p2 p3 h0 n0 s) (T546.setTop (mkF m 234 #[.val (.int p0), .val (.int p1), .val (.int p2), .val (.int p3), .val (.int (3 : Int32)), .val (.int z391), .val (.int z394), .val (.int z397), .val (.ref b398), .val (.ref b420), .val (.ref b435), .val (.int (1 : Int32)), .val (.int (1 : Int32)), .unset] [(.int (1 : Int32))]))
                refine Go.back (fun t k => XS.iload Y546.here hx rfl (hb hby at_234) rfl  k) ?_
                show Go p.tables e below (P0 Z p0 p1 p2 p3 h0 n0 s) (T546.setTop (mkF m 236 #[.val (.int p0), .val (.int p1), .val (.int p2), .val (.int p3), .val (.int (3 : Int32)), .val (.int z391), .val (.int z394), .val (.int z397), .val (.ref b398), .val (.ref b420), .val (.ref b435), .val (.int (1 : Int32)), .val (.int (1 : Int32)), .unset] [(.int (1 : Int32)), (.int (1 : Int32))]))
                refine Go.back (fun t k => XS.icmpNo Y546.here hx rfl (hb hby at_236) rfl (teq (by decide)).2 k) ?_
                show Go p.tables e below (P0 Z p0 p1 p2 p3 h0 n0 s) (T546.setTop (mkF m 239 #[.val (.int p0), .val (.int p1), .val (.int p2), .val (.int p3), .val (.int (3 : Int32)), .val (.int z391), .val (.int z394), .val (.int z397), .val (.ref b398), .val (.ref b420), .val (.ref b435), .val (.int (1 : Int32)), .val (.int (1 : Int32)), .unset] []))
                refine Go.back (fun t k => XS.aload Y546.here hx rfl (hb hby at_239) rfl rfl  k) ?_
                show Go p.tables e below (P0 Z p0 p1 p2 p3 h0 n0 s) (T546.setTop (mkF m 241 #[.val (.int p0), .val (.int p1), .val (.int p2), .val (.int p3), .val (.int (3 : Int32)), .val (.int z391), .val (.int z394), .val (.int z397), .val (.ref b398), .val (.ref b420), .val (.ref b435), .val (.int (1 : Int32)), .val (.int (1 : Int32)), .unset] [(.ref b435)]))
                obtain ⟨cq547, kq547, q547a, q547b, q547c⟩ := isOf hZ e546 F541
                obtain ⟨_, _, ⟨T547, L547, k547, n547⟩, -, X547, ⟨Lc547, hQ547, l547, y547, z547⟩, st547⟩ := Y546.virtualBack hx (y := (⟨"com/example/paylode/paylode/header/HeaderReader", "atEnd", "()Z"⟩ : MethodName)) (z := (⟨"com/example/paylode/paylode/header/HeaderReader", "atEnd", "()Z"⟩ : MethodName)) hown (mvT hZ (hw _ (List.mem_of_getElem? (i := 45) rfl))) (mvT hZ (hw _ (List.mem_of_getElem? (i := 46) rfl))) (notFace_of_selects (args := #[]) (mvT hZ (hw _ (List.mem_of_getElem? (i := 48) rfl)))) (mvT hZ (hw _ (List.mem_of_getElem? (i := 48) rfl))) (mvT hZ (hw _ (List.mem_of_getElem? (i := 47) rfl))) (by decide) (backOf (W := 0) (rm7 l Z a0 hw [] b435 b420 t429b [z391, z394, z397] zc fm (1 : Int32) h532 n0 F535 F541 F544 F545 F537 F538 F539 F540 F533 F534 hcs hp hl hfm) hZ (hw _ (List.mem_of_getElem? (i := 49) rfl)) (hw _ (List.mem_of_getElem? (i := 28) rfl)) (by decide) (by decide)) q547a q547c (g := (mkF m 241 #[.val (.int p0), .val (.int p1), .val (.int p2), .val (.int p3), .val (.int (3 : Int32)), .val (.int z391), .val (.int z394), .val (.int z397), .val (.ref b398), .val (.ref b420), .val (.ref b435), .val (.int (1 : Int32)), .val (.int (1 : Int32)), .unset] [(.ref b435)])) rfl (by rw [hml]; rfl) (Steps.refl _) (argsL := []) (rest := []) (lenOf pd_1 rfl) rfl (by show 2 * 0 + _ ≤ _; exact Nat.le_of_eq rfl) (hb hby at_241) (fun _ _ => ⟨rfl, e546, (by decide : 6 + 0 ≤ _), (by decide : 37 + 0 ≤ _)⟩)
                dsimp only [Pt.U, Pt.locs, Pt.cells, Pt.slots] at X547 l547 y547 z547 st547 hQ547
                subst l547 y547 z547
                obtain ⟨rfl, N547q, e547⟩ := hQ547
                obtain ⟨Lo547, Y547, N547⟩ := pk X547 (Fr.app N546 N547q)
                refine Go.trans st547 ?_
                rw [show (f7 [z391, z394, z397] (1 : Int32)) = false from by first | rfl | simp [f7]]
                show Go p.tables e below (P0 Z p0 p1 p2 p3 h0 n0 s) (T547.setTop (mkF m 244 #[.val (.int p0), .val (.int p1), .val (.int p2), .val (.int p3), .val (.int (3 : Int32)), .val (.int z391), .val (.int z394), .val (.int z397), .val (.ref b398), .val (.ref b420), .val (.ref b435), .val (.int (1 : Int32)), .val (.int (1 : Int32)), .unset] [(.int (0 : Int32))]))
                refine Go.back (fun t k => XS.iload Y547.here hx rfl (hb hby at_244) rfl  k) ?_
                show Go p.tables e below (P0 Z p0 p1 p2 p3 h0 n0 s) (T547.setTop (mkF m 246 #[.val (.int p0), .val (.int p1), .val (.int p2), .val (.int p3), .val (.int (3 : Int32)), .val (.int z391), .val (.int z394), .val (.int z397), .val (.ref b398), .val (.ref b420), .val (.ref b435), .val (.int (1 : Int32)), .val (.int (1 : Int32)), .unset] [(.int (1 : Int32)), (.int (0 : Int32))]))
                refine Go.back (fun t k => XS.iload Y547.here hx rfl (hb hby at_246) rfl  k) ?_
                show Go p.tables e below (P0 Z p0 p1 p2 p3 h0 n0 s) (T547.setTop (mkF m 248 #[.val (.int p0), .val (.int p1), .val (.int p2), .val (.int p3), .val (.int (3 : Int32)), .val (.int z391), .val (.int z394), .val (.int z397), .val (.ref b398), .val (.ref b420), .val (.ref b435), .val (.int (1 : Int32)), .val (.int (1 : Int32)), .unset] [(.int (3 : Int32)), (.int (1 : Int32)), (.int (0 : Int32))]))
                refine Go.back (fun t k => XS.icmpYes Y547.here hx rfl (pc0 := 248) (pc' := 255) rfl (hb hby at_248) rfl (feq (by decide)).2 (by decide) (by decide) k) ?_
                show Go p.tables e below (P0 Z p0 p1 p2 p3 h0 n0 s) (T547.setTop (mkF m 255 #[.val (.int p0), .val (.int p1), .val (.int p2), .val (.int p3), .val (.int (3 : Int32)), .val (.int z391), .val (.int z394), .val (.int z397), .val (.ref b398), .val (.ref b420), .val (.ref b435), .val (.int (1 : Int32)), .val (.int (1 : Int32)), .unset] [(.int (0 : Int32))]))
                refine Go.back (fun t k => XS.iconst Y547.here hx rfl (hb hby at_255) k) ?_
                show Go p.tables e below (P0 Z p0 p1 p2 p3 h0 n0 s) (T547.setTop (mkF m 256 #[.val (.int p0), .val (.int p1), .val (.int p2), .val (.int p3), .val (.int (3 : Int32)), .val (.int z391), .val (.int z394), .val (.int z397), .val (.ref b398), .val (.ref b420), .val (.ref b435), .val (.int (1 : Int32)), .val (.int (1 : Int32)), .unset] [(.int (0 : Int32)), (.int (0 : Int32))]))
                refine Go.back (fun t k => XS.icmpNo Y547.here hx rfl (hb hby at_256) rfl (teq (by decide)).2 k) ?_
                show Go p.tables e below (P0 Z p0 p1 p2 p3 h0 n0 s) (T547.setTop (mkF m 259 #[.val (.int p0), .val (.int p1), .val (.int p2), .val (.int p3), .val (.int (3 : Int32)), .val (.int z391), .val (.int z394), .val (.int z397), .val (.ref b398), .val (.ref b420), .val (.ref b435), .val (.int (1 : Int32)), .val (.int (1 : Int32)), .unset] []))
                refine Go.back (fun t k => XS.iconst Y547.here hx rfl (hb hby at_259) k) ?_
                show Go p.tables e below (P0 Z p0 p1 p2 p3 h0 n0 s) (T547.setTop (mkF m 260 #[.val (.int p0), .val (.int p1), .val (.int p2), .val (.int p3), .val (.int (3 : Int32)), .val (.int z391), .val (.int z394), .val (.int z397), .val (.ref b398), .val (.ref b420), .val (.ref b435), .val (.int (1 : Int32)), .val (.int (1 : Int32)), .unset] [(.int (1 : Int32))]))
                refine Go.back (fun t k => XS.goto Y547.here hx rfl (pc0 := 260) (pc' := 264) rfl (hb hby at_260) (by decide) (by decide) k) ?_
                show Go p.tables e below (P0 Z p0 p1 p2 p3 h0 n0 s) (T547.setTop (mkF m 264 #[.val (.int p0), .val (.int p1), .val (.int p2), .val (.int p3), .val (.int (3 : Int32)), .val (.int z391), .val (.int z394), .val (.int z397), .val (.ref b398), .val (.ref b420), .val (.ref b435), .val (.int (1 : Int32)), .val (.int (1 : Int32)), .unset] [(.int (1 : Int32))]))
                refine Go.back (fun t k => XS.istore Y547.here hx rfl (hb hby at_264) rfl (l' := #[.val (.int p0), .val (.int p1), .val (.int p2), .val (.int p3), .val (.int (3 : Int32)), .val (.int z391), .val (.int z394), .val (.int z397), .val (.ref b398), .val (.ref b420), .val (.ref b435), .val (.int (1 : Int32)), .val (.int (1 : Int32)), .unset]) rfl k) ?_
                show Go p.tables e below (P0 Z p0 p1 p2 p3 h0 n0 s) (T547.setTop (mkF m 266 #[.val (.int p0), .val (.int p1), .val (.int p2), .val (.int p3), .val (.int (3 : Int32)), .val (.int z391), .val (.int z394), .val (.int z397), .val (.ref b398), .val (.ref b420), .val (.ref b435), .val (.int (1 : Int32)), .val (.int (1 : Int32)), .unset] []))
                refine Go.back (fun t k => XS.iload Y547.here hx rfl (hb hby at_266) rfl  k) ?_
                show Go p.tables e below (P0 Z p0 p1 p2 p3 h0 n0 s) (T547.setTop (mkF m 268 #[.val (.int p0), .val (.int p1), .val (.int p2), .val (.int p3), .val (.int (3 : Int32)), .val (.int z391), .val (.int z394), .val (.int z397), .val (.ref b398), .val (.ref b420), .val (.ref b435), .val (.int (1 : Int32)), .val (.int (1 : Int32)), .unset] [(.int (1 : Int32))]))
                refine Go.back (fun t k => XS.iload Y547.here hx rfl (hb hby at_268) rfl  k) ?_
                show Go p.tables e below (P0 Z p0 p1 p2 p3 h0 n0 s) (T547.setTop (mkF m 270 #[.val (.int p0), .val (.int p1), .val (.int p2), .val (.int p3), .val (.int (3 : Int32)), .val (.int z391), .val (.int z394), .val (.int z397), .val (.ref b398), .val (.ref b420), .val (.ref b435), .val (.int (1 : Int32)), .val (.int (1 : Int32)), .unset] [(.int (3 : Int32)), (.int (1 : Int32))]))
                refine Go.back (fun t k => XS.icmpNo Y547.here hx rfl (hb hby at_270) rfl (tlt (by decide)).2.1 k) ?_
                show Go p.tables e below (P0 Z p0 p1 p2 p3 h0 n0 s) (T547.setTop (mkF m 273 #[.val (.int p0), .val (.int p1), .val (.int p2), .val (.int p3), .val (.int (3 : Int32)), .val (.int z391), .val (.int z394), .val (.int z397), .val (.ref b398), .val (.ref b420), .val (.ref b435), .val (.int (1 : Int32)), .val (.int (1 : Int32)), .unset] []))
                refine Go.back (fun t k => XS.iload Y547.here hx rfl (hb hby at_273) rfl  k) ?_
                show Go p.tables e below (P0 Z p0 p1 p2 p3 h0 n0 s) (T547.setTop (mkF m 275 #[.val (.int p0), .val (.int p1), .val (.int p2), .val (.int p3), .val (.int (3 : Int32)), .val (.int z391), .val (.int z394), .val (.int z397), .val (.ref b398), .val (.ref b420), .val (.ref b435), .val (.int (1 : Int32)), .val (.int (1 : Int32)), .unset] [(.int (1 : Int32))]))
                refine Go.back (fun t k => XS.ifYes Y547.here hx rfl (pc0 := 275) (pc' := 283) rfl (hb hby at_275) rfl ((if0 _ _).trans (feq (by decide)).2) (by decide) (by decide) k) ?_
                show Go p.tables e below (P0 Z p0 p1 p2 p3 h0 n0 s) (T547.setTop (mkF m 283 #[.val (.int p0), .val (.int p1), .val (.int p2), .val (.int p3), .val (.int (3 : Int32)), .val (.int z391), .val (.int z394), .val (.int z397), .val (.ref b398), .val (.ref b420), .val (.ref b435), .val (.int (1 : Int32)), .val (.int (1 : Int32)), .unset] []))
                refine Go.back (fun t k => XS.iload Y547.here hx rfl (hb hby at_283) rfl  k) ?_
                show Go p.tables e below (P0 Z p0 p1 p2 p3 h0 n0 s) (T547.setTop (mkF m 285 #[.val (.int p0), .val (.int p1), .val (.int p2), .val (.int p3), .val (.int (3 : Int32)), .val (.int z391), .val (.int z394), .val (.int z397), .val (.ref b398), .val (.ref b420), .val (.ref b435), .val (.int (1 : Int32)), .val (.int (1 : Int32)), .unset] [(.int (1 : Int32))]))
                refine Go.back (fun t k => XS.iconst Y547.here hx rfl (hb hby at_285) k) ?_
                show Go p.tables e below (P0 Z p0 p1 p2 p3 h0 n0 s) (T547.setTop (mkF m 286 #[.val (.int p0), .val (.int p1), .val (.int p2), .val (.int p3), .val (.int (3 : Int32)), .val (.int z391), .val (.int z394), .val (.int z397), .val (.ref b398), .val (.ref b420), .val (.ref b435), .val (.int (1 : Int32)), .val (.int (1 : Int32)), .unset] [(.int (1 : Int32)), (.int (1 : Int32))]))
                refine Go.back (fun t k => XS.icmpNo Y547.here hx rfl (hb hby at_286) rfl (teq (by decide)).2 k) ?_
                show Go p.tables e below (P0 Z p0 p1 p2 p3 h0 n0 s) (T547.setTop (mkF m 289 #[.val (.int p0), .val (.int p1), .val (.int p2), .val (.int p3), .val (.int (3 : Int32)), .val (.int z391), .val (.int z394), .val (.int z397), .val (.ref b398), .val (.ref b420), .val (.ref b435), .val (.int (1 : Int32)), .val (.int (1 : Int32)), .unset] []))
                refine Go.back (fun t k => XS.iload Y547.here hx rfl (hb hby at_289) rfl  k) ?_
                show Go p.tables e below (P0 Z p0 p1 p2 p3 h0 n0 s) (T547.setTop (mkF m 291 #[.val (.int p0), .val (.int p1), .val (.int p2), .val (.int p3), .val (.int (3 : Int32)), .val (.int z391), .val (.int z394), .val (.int z397), .val (.ref b398), .val (.ref b420), .val (.ref b435), .val (.int (1 : Int32)), .val (.int (1 : Int32)), .unset] [(.int z394)]))
                refine Go.back (fun t k => XS.goto Y547.here hx rfl (pc0 := 291) (pc' := 296) rfl (hb hby at_291) (by decide) (by decide) k) ?_
                show Go p.tables e below (P0 Z p0 p1 p2 p3 h0 n0 s) (T547.setTop (mkF m 296 #[.val (.int p0), .val (.int p1), .val (.int p2), .val (.int p3), .val (.int (3 : Int32)), .val (.int z391), .val (.int z394), .val (.int z397), .val (.ref b398), .val (.ref b420), .val (.ref b435), .val (.int (1 : Int32)), .val (.int (1 : Int32)), .unset] [(.int z394)]))
                refine Go.back (fun t k => XS.istore Y547.here hx rfl (hb hby at_296) rfl (l' := #[.val (.int p0), .val (.int p1), .val (.int p2), .val (.int p3), .val (.int (3 : Int32)), .val (.int z391), .val (.int z394), .val (.int z397), .val (.ref b398), .val (.ref b420), .val (.ref b435), .val (.int (1 : Int32)), .val (.int (1 : Int32)), .val (.int z394)]) rfl k) ?_
                show Go p.tables e below (P0 Z p0 p1 p2 p3 h0 n0 s) (T547.setTop (mkF m 298 #[.val (.int p0), .val (.int p1), .val (.int p2), .val (.int p3), .val (.int (3 : Int32)), .val (.int z391), .val (.int z394), .val (.int z397), .val (.ref b398), .val (.ref b420), .val (.ref b435), .val (.int (1 : Int32)), .val (.int (1 : Int32)), .val (.int z394)] []))
                refine Go.back (fun t k => XS.aload Y547.here hx rfl (hb hby at_298) rfl rfl  k) ?_
                show Go p.tables e below (P0 Z p0 p1 p2 p3 h0 n0 s) (T547.setTop (mkF m 300 #[.val (.int p0), .val (.int p1), .val (.int p2), .val (.int p3), .val (.int (3 : Int32)), .val (.int z391), .val (.int z394), .val (.int z397), .val (.ref b398), .val (.ref b420), .val (.ref b435), .val (.int (1 : Int32)), .val (.int (1 : Int32)), .val (.int z394)] [(.ref b435)]))
                refine Go.back (fun t k => XS.iload Y547.here hx rfl (hb hby at_300) rfl  k) ?_
                show Go p.tables e below (P0 Z p0 p1 p2 p3 h0 n0 s) (T547.setTop (mkF m 302 #[.val (.int p0), .val (.int p1), .val (.int p2), .val (.int p3), .val (.int (3 : Int32)), .val (.int z391), .val (.int z394), .val (.int z397), .val (.ref b398), .val (.ref b420), .val (.ref b435), .val (.int (1 : Int32)), .val (.int (1 : Int32)), .val (.int z394)] [(.int z394), (.ref b435)]))
                obtain ⟨cq548, kq548, q548a, q548b, q548c⟩ := isOf hZ e547 F541
                obtain ⟨_, _, ⟨T548, L548, k548, n548⟩, -, X548, ⟨Lc548, hQ548, l548, y548, z548⟩, st548⟩ := Y547.virtualBack hx (y := (⟨"com/example/paylode/paylode/header/HeaderReader", "expect", "(C)V"⟩ : MethodName)) (z := (⟨"com/example/paylode/paylode/header/HeaderReader", "expect", "(C)V"⟩ : MethodName)) hown (mvT hZ (hw _ (List.mem_of_getElem? (i := 107) rfl))) (mvT hZ (hw _ (List.mem_of_getElem? (i := 108) rfl))) (notFace_of_selects (args := #[]) (mvT hZ (hw _ (List.mem_of_getElem? (i := 110) rfl)))) (mvT hZ (hw _ (List.mem_of_getElem? (i := 110) rfl))) (mvT hZ (hw _ (List.mem_of_getElem? (i := 109) rfl))) (by decide) (backOf (W := 0) (rm21 l Z a0 hw [] b435 z394 b420 t429b [z391, z394, z397] zc fm (1 : Int32) h532 n0 F535 F541 F544 F545 F537 F538 F539 F540 F533 F534 g439 ne437 ne438 hcs hp hl hfm ⟨by decide, Nat.le_of_ble_eq_true rfl⟩ (by simp [f11, f7])) hZ (hw _ (List.mem_of_getElem? (i := 111) rfl)) (hw _ (List.mem_of_getElem? (i := 28) rfl)) (by decide) (by decide)) q548a q548c (g := (mkF m 302 #[.val (.int p0), .val (.int p1), .val (.int p2), .val (.int p3), .val (.int (3 : Int32)), .val (.int z391), .val (.int z394), .val (.int z397), .val (.ref b398), .val (.ref b420), .val (.ref b435), .val (.int (1 : Int32)), .val (.int (1 : Int32)), .val (.int z394)] [(.int z394), (.ref b435)])) rfl (by rw [hml]; rfl) (Steps.refl _) (argsL := [(.int z394)]) (rest := []) (lenOf pd_8 rfl) rfl (by show 2 * 0 + _ ≤ _; exact Nat.le_of_eq rfl) (hb hby at_302) (fun _ _ => ⟨rfl, e547, (by decide : 6 + 0 ≤ _), (by decide : 37 + 0 ≤ _)⟩)
                dsimp only [Pt.U, Pt.locs, Pt.cells, Pt.slots] at X548 l548 y548 z548 st548 hQ548
                subst l548 y548 z548
                obtain ⟨h548, e548⟩ : ∃ z, T548.heap = z := ⟨_, rfl⟩
                rw [e548] at hQ548
                obtain ⟨rfl, N548q, K548, F559, F560⟩ := hQ548
                obtain ⟨Lo548, Y548, N548⟩ := pk X548 (Fr.app N547 N548q)
                have F549 : Sta Z h548 "java/lang/String" "COMPACT_STRINGS" "Z" (.int zc) := sta_keep F533 K548 (noSS (noS_exa F541) noS0)
                have F550 : Sta Z h548 "jdk/internal/util/Preconditions" "SIOOBE_FORMATTER" "Ljava/util/function/BiFunction;" fm := sta_keep F534 K548 (noSS (noS_exa F541) noS0)
                have F551 : n0 ≤ h548.size := Nat.le_trans F535 K548.1
                have F552 : ArL Z h548 b398 .char [(.int z391), (.int z394), (.int z397)] := F536.keep K548 (ninS ne436 nin0)
                have F553 : Exa Z h548 b420 "java/lang/String" := F537.keep K548
                have F554 : Fld Z h548 b420 "java/lang/String" "coder" "B" (.int (0 : Int32)) := F538.keep K548 (ninS ne437 nin0)
                have F555 : Fld Z h548 b420 "java/lang/String" "value" "[B" (.ref t429b) := F539.keep K548 (ninS ne437 nin0)
                have F556 : ArL Z h548 t429b .byte (List.map Value.int (List.map StrChars.lo8 [z391, z394, z397])) := F540.keep K548 (ninS ne438 nin0)
                have F557 : Exa Z h548 b435 "com/example/paylode/paylode/header/HeaderReader" := F541.keep K548
                have F558 : kV ≤ h548.size := Nat.le_trans F542 K548.1
                refine Go.trans st548 ?_
                show Go p.tables e below (P0 Z p0 p1 p2 p3 h0 n0 s) (T548.setTop (mkF m 305 #[.val (.int p0), .val (.int p1), .val (.int p2), .val (.int p3), .val (.int (3 : Int32)), .val (.int z391), .val (.int z394), .val (.int z397), .val (.ref b398), .val (.ref b420), .val (.ref b435), .val (.int (1 : Int32)), .val (.int (1 : Int32)), .val (.int z394)] []))
                have F561 : Fld Z h548 b435 "com/example/paylode/paylode/header/HeaderReader" "position" "I" (.int (2 : Int32)) := by
                  have q := F559
                  rw [show ((1 : Int32) + (1 : Int32)) = (2 : Int32) from by decide] at q
                  exact q
                refine Go.back (fun t k => XS.iload Y548.here hx rfl (hb hby at_305) rfl  k) ?_
                show Go p.tables e below (P0 Z p0 p1 p2 p3 h0 n0 s) (T548.setTop (mkF m 307 #[.val (.int p0), .val (.int p1), .val (.int p2), .val (.int p3), .val (.int (3 : Int32)), .val (.int z391), .val (.int z394), .val (.int z397), .val (.ref b398), .val (.ref b420), .val (.ref b435), .val (.int (1 : Int32)), .val (.int (1 : Int32)), .val (.int z394)] [(.int (1 : Int32))]))
                refine Go.back (fun t k => XS.ifNo Y548.here hx rfl (hb hby at_307) rfl ((if0 _ _).trans (feq (by decide)).1) k) ?_
                show Go p.tables e below (P0 Z p0 p1 p2 p3 h0 n0 s) (T548.setTop (mkF m 310 #[.val (.int p0), .val (.int p1), .val (.int p2), .val (.int p3), .val (.int (3 : Int32)), .val (.int z391), .val (.int z394), .val (.int z397), .val (.ref b398), .val (.ref b420), .val (.ref b435), .val (.int (1 : Int32)), .val (.int (1 : Int32)), .val (.int z394)] []))
                refine Go.back (fun t k => XS.aload Y548.here hx rfl (hb hby at_310) rfl rfl  k) ?_
                show Go p.tables e below (P0 Z p0 p1 p2 p3 h0 n0 s) (T548.setTop (mkF m 312 #[.val (.int p0), .val (.int p1), .val (.int p2), .val (.int p3), .val (.int (3 : Int32)), .val (.int z391), .val (.int z394), .val (.int z397), .val (.ref b398), .val (.ref b420), .val (.ref b435), .val (.int (1 : Int32)), .val (.int (1 : Int32)), .val (.int z394)] [(.ref b435)]))
                obtain ⟨cq562, kq562, q562a, q562b, q562c⟩ := isOf hZ e548 F557
                obtain ⟨_, _, ⟨T562, L562, k562, n562⟩, -, X562, ⟨Lc562, hQ562, l562, y562, z562⟩, st562⟩ := Y548.virtualBack hx (y := (⟨"com/example/paylode/paylode/header/HeaderReader", "position", "()I"⟩ : MethodName)) (z := (⟨"com/example/paylode/paylode/header/HeaderReader", "position", "()I"⟩ : MethodName)) hown (mvT hZ (hw _ (List.mem_of_getElem? (i := 38) rfl))) (mvT hZ (hw _ (List.mem_of_getElem? (i := 39) rfl))) (notFace_of_selects (args := #[]) (mvT hZ (hw _ (List.mem_of_getElem? (i := 41) rfl)))) (mvT hZ (hw _ (List.mem_of_getElem? (i := 41) rfl))) (mvT hZ (hw _ (List.mem_of_getElem? (i := 40) rfl))) (by decide) (backOf (W := 0) (rm6 l Z a0 hw [] b435 (2 : Int32) h548 n0 F551 F561) hZ (hw _ (List.mem_of_getElem? (i := 42) rfl)) (hw _ (List.mem_of_getElem? (i := 28) rfl)) (by decide) (by decide)) q562a q562c (g := (mkF m 312 #[.val (.int p0), .val (.int p1), .val (.int p2), .val (.int p3), .val (.int (3 : Int32)), .val (.int z391), .val (.int z394), .val (.int z397), .val (.ref b398), .val (.ref b420), .val (.ref b435), .val (.int (1 : Int32)), .val (.int (1 : Int32)), .val (.int z394)] [(.ref b435)])) rfl (by rw [hml]; rfl) (Steps.refl _) (argsL := []) (rest := []) (lenOf pd_0 rfl) rfl (by show 2 * 0 + _ ≤ _; exact Nat.le_of_eq rfl) (hb hby at_312) (fun _ _ => ⟨rfl, e548, (by decide : 6 + 0 ≤ _), (by decide : 37 + 0 ≤ _)⟩)
                dsimp only [Pt.U, Pt.locs, Pt.cells, Pt.slots] at X562 l562 y562 z562 st562 hQ562
                subst l562 y562 z562
                obtain ⟨rfl, N562q, e562⟩ := hQ562
                obtain ⟨Lo562, Y562, N562⟩ := pk X562 (Fr.app N548 N562q)
                refine Go.trans st562 ?_
                show Go p.tables e below (P0 Z p0 p1 p2 p3 h0 n0 s) (T562.setTop (mkF m 315 #[.val (.int p0), .val (.int p1), .val (.int p2), .val (.int p3), .val (.int (3 : Int32)), .val (.int z391), .val (.int z394), .val (.int z397), .val (.ref b398), .val (.ref b420), .val (.ref b435), .val (.int (1 : Int32)), .val (.int (1 : Int32)), .val (.int z394)] [(.int (2 : Int32))]))
                refine Go.back (fun t k => XS.iload Y562.here hx rfl (hb hby at_315) rfl  k) ?_
                show Go p.tables e below (P0 Z p0 p1 p2 p3 h0 n0 s) (T562.setTop (mkF m 317 #[.val (.int p0), .val (.int p1), .val (.int p2), .val (.int p3), .val (.int (3 : Int32)), .val (.int z391), .val (.int z394), .val (.int z397), .val (.ref b398), .val (.ref b420), .val (.ref b435), .val (.int (1 : Int32)), .val (.int (1 : Int32)), .val (.int z394)] [(.int (1 : Int32)), (.int (2 : Int32))]))
                refine Go.back (fun t k => XS.iconst Y562.here hx rfl (hb hby at_317) k) ?_
                show Go p.tables e below (P0 Z p0 p1 p2 p3 h0 n0 s) (T562.setTop (mkF m 318 #[.val (.int p0), .val (.int p1), .val (.int p2), .val (.int p3), .val (.int (3 : Int32)), .val (.int z391), .val (.int z394), .val (.int z397), .val (.ref b398), .val (.ref b420), .val (.ref b435), .val (.int (1 : Int32)), .val (.int (1 : Int32)), .val (.int z394)] [(.int (1 : Int32)), (.int (1 : Int32)), (.int (2 : Int32))]))
                refine Go.back (fun t k => XS.iadd Y562.here hx rfl (hb hby at_318) rfl k) ?_
                show Go p.tables e below (P0 Z p0 p1 p2 p3 h0 n0 s) (T562.setTop (mkF m 319 #[.val (.int p0), .val (.int p1), .val (.int p2), .val (.int p3), .val (.int (3 : Int32)), .val (.int z391), .val (.int z394), .val (.int z397), .val (.ref b398), .val (.ref b420), .val (.ref b435), .val (.int (1 : Int32)), .val (.int (1 : Int32)), .val (.int z394)] [(.int ((1 : Int32) + (1 : Int32))), (.int (2 : Int32))]))
                rw [show ((1 : Int32) + (1 : Int32)) = (2 : Int32) from by decide]
                refine Go.back (fun t k => XS.icmpNo Y562.here hx rfl (hb hby at_319) rfl (teq (by decide)).2 k) ?_
                show Go p.tables e below (P0 Z p0 p1 p2 p3 h0 n0 s) (T562.setTop (mkF m 322 #[.val (.int p0), .val (.int p1), .val (.int p2), .val (.int p3), .val (.int (3 : Int32)), .val (.int z391), .val (.int z394), .val (.int z397), .val (.ref b398), .val (.ref b420), .val (.ref b435), .val (.int (1 : Int32)), .val (.int (1 : Int32)), .val (.int z394)] []))
                refine Go.back (fun t k => XS.aload Y562.here hx rfl (hb hby at_322) rfl rfl  k) ?_
                show Go p.tables e below (P0 Z p0 p1 p2 p3 h0 n0 s) (T562.setTop (mkF m 324 #[.val (.int p0), .val (.int p1), .val (.int p2), .val (.int p3), .val (.int (3 : Int32)), .val (.int z391), .val (.int z394), .val (.int z397), .val (.ref b398), .val (.ref b420), .val (.ref b435), .val (.int (1 : Int32)), .val (.int (1 : Int32)), .val (.int z394)] [(.ref b435)]))
                obtain ⟨cq563, kq563, q563a, q563b, q563c⟩ := isOf hZ e562 F557
                obtain ⟨_, _, ⟨T563, L563, k563, n563⟩, -, X563, ⟨Lc563, hQ563, l563, y563, z563⟩, st563⟩ := Y562.virtualBack hx (y := (⟨"com/example/paylode/paylode/header/HeaderReader", "atEnd", "()Z"⟩ : MethodName)) (z := (⟨"com/example/paylode/paylode/header/HeaderReader", "atEnd", "()Z"⟩ : MethodName)) hown (mvT hZ (hw _ (List.mem_of_getElem? (i := 45) rfl))) (mvT hZ (hw _ (List.mem_of_getElem? (i := 46) rfl))) (notFace_of_selects (args := #[]) (mvT hZ (hw _ (List.mem_of_getElem? (i := 48) rfl)))) (mvT hZ (hw _ (List.mem_of_getElem? (i := 48) rfl))) (mvT hZ (hw _ (List.mem_of_getElem? (i := 47) rfl))) (by decide) (backOf (W := 0) (rm7 l Z a0 hw [] b435 b420 t429b [z391, z394, z397] zc fm (2 : Int32) h548 n0 F551 F557 F560 F561 F553 F554 F555 F556 F549 F550 hcs hp hl hfm) hZ (hw _ (List.mem_of_getElem? (i := 49) rfl)) (hw _ (List.mem_of_getElem? (i := 28) rfl)) (by decide) (by decide)) q563a q563c (g := (mkF m 324 #[.val (.int p0), .val (.int p1), .val (.int p2), .val (.int p3), .val (.int (3 : Int32)), .val (.int z391), .val (.int z394), .val (.int z397), .val (.ref b398), .val (.ref b420), .val (.ref b435), .val (.int (1 : Int32)), .val (.int (1 : Int32)), .val (.int z394)] [(.ref b435)])) rfl (by rw [hml]; rfl) (Steps.refl _) (argsL := []) (rest := []) (lenOf pd_1 rfl) rfl (by show 2 * 0 + _ ≤ _; exact Nat.le_of_eq rfl) (hb hby at_324) (fun _ _ => ⟨rfl, e562, (by decide : 6 + 0 ≤ _), (by decide : 37 + 0 ≤ _)⟩)
                dsimp only [Pt.U, Pt.locs, Pt.cells, Pt.slots] at X563 l563 y563 z563 st563 hQ563
                subst l563 y563 z563
                obtain ⟨rfl, N563q, e563⟩ := hQ563
                obtain ⟨Lo563, Y563, N563⟩ := pk X563 (Fr.app N562 N563q)
                refine Go.trans st563 ?_
                rw [show (f7 [z391, z394, z397] (2 : Int32)) = false from by first | rfl | simp [f7]]
                show Go p.tables e below (P0 Z p0 p1 p2 p3 h0 n0 s) (T563.setTop (mkF m 327 #[.val (.int p0), .val (.int p1), .val (.int p2), .val (.int p3), .val (.int (3 : Int32)), .val (.int z391), .val (.int z394), .val (.int z397), .val (.ref b398), .val (.ref b420), .val (.ref b435), .val (.int (1 : Int32)), .val (.int (1 : Int32)), .val (.int z394)] [(.int (0 : Int32))]))
                refine Go.back (fun t k => XS.iload Y563.here hx rfl (hb hby at_327) rfl  k) ?_
                show Go p.tables e below (P0 Z p0 p1 p2 p3 h0 n0 s) (T563.setTop (mkF m 329 #[.val (.int p0), .val (.int p1), .val (.int p2), .val (.int p3), .val (.int (3 : Int32)), .val (.int z391), .val (.int z394), .val (.int z397), .val (.ref b398), .val (.ref b420), .val (.ref b435), .val (.int (1 : Int32)), .val (.int (1 : Int32)), .val (.int z394)] [(.int (1 : Int32)), (.int (0 : Int32))]))
                refine Go.back (fun t k => XS.iconst Y563.here hx rfl (hb hby at_329) k) ?_
                show Go p.tables e below (P0 Z p0 p1 p2 p3 h0 n0 s) (T563.setTop (mkF m 330 #[.val (.int p0), .val (.int p1), .val (.int p2), .val (.int p3), .val (.int (3 : Int32)), .val (.int z391), .val (.int z394), .val (.int z397), .val (.ref b398), .val (.ref b420), .val (.ref b435), .val (.int (1 : Int32)), .val (.int (1 : Int32)), .val (.int z394)] [(.int (1 : Int32)), (.int (1 : Int32)), (.int (0 : Int32))]))
                refine Go.back (fun t k => XS.iadd Y563.here hx rfl (hb hby at_330) rfl k) ?_
                show Go p.tables e below (P0 Z p0 p1 p2 p3 h0 n0 s) (T563.setTop (mkF m 331 #[.val (.int p0), .val (.int p1), .val (.int p2), .val (.int p3), .val (.int (3 : Int32)), .val (.int z391), .val (.int z394), .val (.int z397), .val (.ref b398), .val (.ref b420), .val (.ref b435), .val (.int (1 : Int32)), .val (.int (1 : Int32)), .val (.int z394)] [(.int ((1 : Int32) + (1 : Int32))), (.int (0 : Int32))]))
                rw [show ((1 : Int32) + (1 : Int32)) = (2 : Int32) from by decide]
                refine Go.back (fun t k => XS.iload Y563.here hx rfl (hb hby at_331) rfl  k) ?_
                show Go p.tables e below (P0 Z p0 p1 p2 p3 h0 n0 s) (T563.setTop (mkF m 333 #[.val (.int p0), .val (.int p1), .val (.int p2), .val (.int p3), .val (.int (3 : Int32)), .val (.int z391), .val (.int z394), .val (.int z397), .val (.ref b398), .val (.ref b420), .val (.ref b435), .val (.int (1 : Int32)), .val (.int (1 : Int32)), .val (.int z394)] [(.int (3 : Int32)), (.int (2 : Int32)), (.int (0 : Int32))]))
                refine Go.back (fun t k => XS.icmpYes Y563.here hx rfl (pc0 := 333) (pc' := 340) rfl (hb hby at_333) rfl (feq (by decide)).2 (by decide) (by decide) k) ?_
                show Go p.tables e below (P0 Z p0 p1 p2 p3 h0 n0 s) (T563.setTop (mkF m 340 #[.val (.int p0), .val (.int p1), .val (.int p2), .val (.int p3), .val (.int (3 : Int32)), .val (.int z391), .val (.int z394), .val (.int z397), .val (.ref b398), .val (.ref b420), .val (.ref b435), .val (.int (1 : Int32)), .val (.int (1 : Int32)), .val (.int z394)] [(.int (0 : Int32))]))
                refine Go.back (fun t k => XS.iconst Y563.here hx rfl (hb hby at_340) k) ?_
                show Go p.tables e below (P0 Z p0 p1 p2 p3 h0 n0 s) (T563.setTop (mkF m 341 #[.val (.int p0), .val (.int p1), .val (.int p2), .val (.int p3), .val (.int (3 : Int32)), .val (.int z391), .val (.int z394), .val (.int z397), .val (.ref b398), .val (.ref b420), .val (.ref b435), .val (.int (1 : Int32)), .val (.int (1 : Int32)), .val (.int z394)] [(.int (0 : Int32)), (.int (0 : Int32))]))
                refine Go.back (fun t k => XS.icmpNo Y563.here hx rfl (hb hby at_341) rfl (teq (by decide)).2 k) ?_
                show Go p.tables e below (P0 Z p0 p1 p2 p3 h0 n0 s) (T563.setTop (mkF m 344 #[.val (.int p0), .val (.int p1), .val (.int p2), .val (.int p3), .val (.int (3 : Int32)), .val (.int z391), .val (.int z394), .val (.int z397), .val (.ref b398), .val (.ref b420), .val (.ref b435), .val (.int (1 : Int32)), .val (.int (1 : Int32)), .val (.int z394)] []))
                refine Go.back (fun t k => XS.iconst Y563.here hx rfl (hb hby at_344) k) ?_
                show Go p.tables e below (P0 Z p0 p1 p2 p3 h0 n0 s) (T563.setTop (mkF m 345 #[.val (.int p0), .val (.int p1), .val (.int p2), .val (.int p3), .val (.int (3 : Int32)), .val (.int z391), .val (.int z394), .val (.int z397), .val (.ref b398), .val (.ref b420), .val (.ref b435), .val (.int (1 : Int32)), .val (.int (1 : Int32)), .val (.int z394)] [(.int (1 : Int32))]))
                refine Go.back (fun t k => XS.goto Y563.here hx rfl (pc0 := 345) (pc' := 349) rfl (hb hby at_345) (by decide) (by decide) k) ?_
                show Go p.tables e below (P0 Z p0 p1 p2 p3 h0 n0 s) (T563.setTop (mkF m 349 #[.val (.int p0), .val (.int p1), .val (.int p2), .val (.int p3), .val (.int (3 : Int32)), .val (.int z391), .val (.int z394), .val (.int z397), .val (.ref b398), .val (.ref b420), .val (.ref b435), .val (.int (1 : Int32)), .val (.int (1 : Int32)), .val (.int z394)] [(.int (1 : Int32))]))
                refine Go.back (fun t k => XS.istore Y563.here hx rfl (hb hby at_349) rfl (l' := #[.val (.int p0), .val (.int p1), .val (.int p2), .val (.int p3), .val (.int (3 : Int32)), .val (.int z391), .val (.int z394), .val (.int z397), .val (.ref b398), .val (.ref b420), .val (.ref b435), .val (.int (1 : Int32)), .val (.int (1 : Int32)), .val (.int z394)]) rfl k) ?_
                show Go p.tables e below (P0 Z p0 p1 p2 p3 h0 n0 s) (T563.setTop (mkF m 351 #[.val (.int p0), .val (.int p1), .val (.int p2), .val (.int p3), .val (.int (3 : Int32)), .val (.int z391), .val (.int z394), .val (.int z397), .val (.ref b398), .val (.ref b420), .val (.ref b435), .val (.int (1 : Int32)), .val (.int (1 : Int32)), .val (.int z394)] []))
                refine Go.back (fun t k => XS.iload Y563.here hx rfl (hb hby at_351) rfl  k) ?_
                show Go p.tables e below (P0 Z p0 p1 p2 p3 h0 n0 s) (T563.setTop (mkF m 353 #[.val (.int p0), .val (.int p1), .val (.int p2), .val (.int p3), .val (.int (3 : Int32)), .val (.int z391), .val (.int z394), .val (.int z397), .val (.ref b398), .val (.ref b420), .val (.ref b435), .val (.int (1 : Int32)), .val (.int (1 : Int32)), .val (.int z394)] [(.int (1 : Int32))]))
                exact Go.retBW (s := s) (vm0 := TV.vm) (b := true) (Qa := Q0 Z p0 p1 p2 p3 h0 n0) (Qb := fun vm h => True) Y563 hx hSV (by rw [e563]; exact F558) Bd.returns (hb hby at_353) Bd.notSynchronized ⟨rfl, N563⟩ trivial (by decide) (by decide)
            · refine Go.back (fun t k => XS.ifYes Y478.here hx rfl (pc0 := 167) (pc' := 216) rfl (hb hby at_167) rfl ((if0 _ _).trans (teq (b2i_f hc479)).1) (by decide) (by decide) k) ?_
              show Go p.tables e below (P0 Z p0 p1 p2 p3 h0 n0 s) (T478.setTop (mkF m 216 #[.val (.int p0), .val (.int p1), .val (.int p2), .val (.int p3), .val (.int (3 : Int32)), .val (.int z391), .val (.int z394), .val (.int z397), .val (.ref b398), .val (.ref b420), .val (.ref b435), .val (.int (1 : Int32)), .unset, .unset] []))
              refine Go.back (fun t k => XS.iconst Y478.here hx rfl (hb hby at_216) k) ?_
              show Go p.tables e below (P0 Z p0 p1 p2 p3 h0 n0 s) (T478.setTop (mkF m 217 #[.val (.int p0), .val (.int p1), .val (.int p2), .val (.int p3), .val (.int (3 : Int32)), .val (.int z391), .val (.int z394), .val (.int z397), .val (.ref b398), .val (.ref b420), .val (.ref b435), .val (.int (1 : Int32)), .unset, .unset] [(.int (0 : Int32))]))
              refine Go.back (fun t k => XS.istore Y478.here hx rfl (hb hby at_217) rfl (l' := #[.val (.int p0), .val (.int p1), .val (.int p2), .val (.int p3), .val (.int (3 : Int32)), .val (.int z391), .val (.int z394), .val (.int z397), .val (.ref b398), .val (.ref b420), .val (.ref b435), .val (.int (1 : Int32)), .val (.int (0 : Int32)), .unset]) rfl k) ?_
              show Go p.tables e below (P0 Z p0 p1 p2 p3 h0 n0 s) (T478.setTop (mkF m 219 #[.val (.int p0), .val (.int p1), .val (.int p2), .val (.int p3), .val (.int (3 : Int32)), .val (.int z391), .val (.int z394), .val (.int z397), .val (.ref b398), .val (.ref b420), .val (.ref b435), .val (.int (1 : Int32)), .val (.int (0 : Int32)), .unset] []))
              refine Go.back (fun t k => XS.aload Y478.here hx rfl (hb hby at_219) rfl rfl  k) ?_
              show Go p.tables e below (P0 Z p0 p1 p2 p3 h0 n0 s) (T478.setTop (mkF m 221 #[.val (.int p0), .val (.int p1), .val (.int p2), .val (.int p3), .val (.int (3 : Int32)), .val (.int z391), .val (.int z394), .val (.int z397), .val (.ref b398), .val (.ref b420), .val (.ref b435), .val (.int (1 : Int32)), .val (.int (0 : Int32)), .unset] [(.ref b435)]))
              obtain ⟨cq564, kq564, q564a, q564b, q564c⟩ := isOf hZ e478 F472
              obtain ⟨_, _, ⟨T564, L564, k564, n564⟩, -, X564, ⟨Lc564, hQ564, l564, y564, z564⟩, st564⟩ := Y478.virtualBack hx (y := (⟨"com/example/paylode/paylode/header/HeaderReader", "skipWhitespace", "()V"⟩ : MethodName)) (z := (⟨"com/example/paylode/paylode/header/HeaderReader", "skipWhitespace", "()V"⟩ : MethodName)) hown (mvT hZ (hw _ (List.mem_of_getElem? (i := 61) rfl))) (mvT hZ (hw _ (List.mem_of_getElem? (i := 62) rfl))) (notFace_of_selects (args := #[]) (mvT hZ (hw _ (List.mem_of_getElem? (i := 64) rfl)))) (mvT hZ (hw _ (List.mem_of_getElem? (i := 64) rfl))) (mvT hZ (hw _ (List.mem_of_getElem? (i := 63) rfl))) (by decide) (backOf (W := 0) (rm10 l Z a0 hw [] b435 b420 t429b [z391, z394, z397] zc fm h463 n0 F466 F472 F475 F474 F468 F469 F470 F471 F464 F465 g439 ne437 ne438 hcs hp hl hfm) hZ (hw _ (List.mem_of_getElem? (i := 65) rfl)) (hw _ (List.mem_of_getElem? (i := 28) rfl)) (by decide) (by decide)) q564a q564c (g := (mkF m 221 #[.val (.int p0), .val (.int p1), .val (.int p2), .val (.int p3), .val (.int (3 : Int32)), .val (.int z391), .val (.int z394), .val (.int z397), .val (.ref b398), .val (.ref b420), .val (.ref b435), .val (.int (1 : Int32)), .val (.int (0 : Int32)), .unset] [(.ref b435)])) rfl (by rw [hml]; rfl) (Steps.refl _) (argsL := []) (rest := []) (lenOf pd_7 rfl) rfl (by show 2 * 0 + _ ≤ _; exact Nat.le_of_eq rfl) (hb hby at_221) (fun _ _ => ⟨rfl, e478, (by decide : 6 + 0 ≤ _), (by decide : 37 + 0 ≤ _)⟩)
              dsimp only [Pt.U, Pt.locs, Pt.cells, Pt.slots] at X564 l564 y564 z564 st564 hQ564
              subst l564 y564 z564
              obtain ⟨h564, e564⟩ : ∃ z, T564.heap = z := ⟨_, rfl⟩
              rw [e564] at hQ564
              obtain ⟨rfl, N564q, K564, F575, F576⟩ := hQ564
              obtain ⟨Lo564, Y564, N564⟩ := pk X564 (Fr.app N478 N564q)
              have F565 : Sta Z h564 "java/lang/String" "COMPACT_STRINGS" "Z" (.int zc) := sta_keep F464 K564 (noSS (noS_exa F472) noS0)
              have F566 : Sta Z h564 "jdk/internal/util/Preconditions" "SIOOBE_FORMATTER" "Ljava/util/function/BiFunction;" fm := sta_keep F465 K564 (noSS (noS_exa F472) noS0)
              have F567 : n0 ≤ h564.size := Nat.le_trans F466 K564.1
              have F568 : ArL Z h564 b398 .char [(.int z391), (.int z394), (.int z397)] := F467.keep K564 (ninS ne436 nin0)
              have F569 : Exa Z h564 b420 "java/lang/String" := F468.keep K564
              have F570 : Fld Z h564 b420 "java/lang/String" "coder" "B" (.int (0 : Int32)) := F469.keep K564 (ninS ne437 nin0)
              have F571 : Fld Z h564 b420 "java/lang/String" "value" "[B" (.ref t429b) := F470.keep K564 (ninS ne437 nin0)
              have F572 : ArL Z h564 t429b .byte (List.map Value.int (List.map StrChars.lo8 [z391, z394, z397])) := F471.keep K564 (ninS ne438 nin0)
              have F573 : Exa Z h564 b435 "com/example/paylode/paylode/header/HeaderReader" := F472.keep K564
              have F574 : kV ≤ h564.size := Nat.le_trans F473 K564.1
              refine Go.trans st564 ?_
              show Go p.tables e below (P0 Z p0 p1 p2 p3 h0 n0 s) (T564.setTop (mkF m 224 #[.val (.int p0), .val (.int p1), .val (.int p2), .val (.int p3), .val (.int (3 : Int32)), .val (.int z391), .val (.int z394), .val (.int z397), .val (.ref b398), .val (.ref b420), .val (.ref b435), .val (.int (1 : Int32)), .val (.int (0 : Int32)), .unset] []))
              have F577 : Fld Z h564 b435 "com/example/paylode/paylode/header/HeaderReader" "position" "I" (.int (0 : Int32)) := by
                have q := F575
                rw [show (g10_1 [z391, z394, z397]) = (0 : Int32) from own_sk_3_0 hc479] at q
                exact q
              refine Go.back (fun t k => XS.iload Y564.here hx rfl (hb hby at_224) rfl  k) ?_
              show Go p.tables e below (P0 Z p0 p1 p2 p3 h0 n0 s) (T564.setTop (mkF m 226 #[.val (.int p0), .val (.int p1), .val (.int p2), .val (.int p3), .val (.int (3 : Int32)), .val (.int z391), .val (.int z394), .val (.int z397), .val (.ref b398), .val (.ref b420), .val (.ref b435), .val (.int (1 : Int32)), .val (.int (0 : Int32)), .unset] [(.int (1 : Int32))]))
              refine Go.back (fun t k => XS.ifNo Y564.here hx rfl (hb hby at_226) rfl ((if0 _ _).trans (feq (by decide)).1) k) ?_
              show Go p.tables e below (P0 Z p0 p1 p2 p3 h0 n0 s) (T564.setTop (mkF m 229 #[.val (.int p0), .val (.int p1), .val (.int p2), .val (.int p3), .val (.int (3 : Int32)), .val (.int z391), .val (.int z394), .val (.int z397), .val (.ref b398), .val (.ref b420), .val (.ref b435), .val (.int (1 : Int32)), .val (.int (0 : Int32)), .unset] []))
              refine Go.back (fun t k => XS.aload Y564.here hx rfl (hb hby at_229) rfl rfl  k) ?_
              show Go p.tables e below (P0 Z p0 p1 p2 p3 h0 n0 s) (T564.setTop (mkF m 231 #[.val (.int p0), .val (.int p1), .val (.int p2), .val (.int p3), .val (.int (3 : Int32)), .val (.int z391), .val (.int z394), .val (.int z397), .val (.ref b398), .val (.ref b420), .val (.ref b435), .val (.int (1 : Int32)), .val (.int (0 : Int32)), .unset] [(.ref b435)]))
              obtain ⟨cq578, kq578, q578a, q578b, q578c⟩ := isOf hZ e564 F573
              obtain ⟨_, _, ⟨T578, L578, k578, n578⟩, -, X578, ⟨Lc578, hQ578, l578, y578, z578⟩, st578⟩ := Y564.virtualBack hx (y := (⟨"com/example/paylode/paylode/header/HeaderReader", "position", "()I"⟩ : MethodName)) (z := (⟨"com/example/paylode/paylode/header/HeaderReader", "position", "()I"⟩ : MethodName)) hown (mvT hZ (hw _ (List.mem_of_getElem? (i := 38) rfl))) (mvT hZ (hw _ (List.mem_of_getElem? (i := 39) rfl))) (notFace_of_selects (args := #[]) (mvT hZ (hw _ (List.mem_of_getElem? (i := 41) rfl)))) (mvT hZ (hw _ (List.mem_of_getElem? (i := 41) rfl))) (mvT hZ (hw _ (List.mem_of_getElem? (i := 40) rfl))) (by decide) (backOf (W := 0) (rm6 l Z a0 hw [] b435 (0 : Int32) h564 n0 F567 F577) hZ (hw _ (List.mem_of_getElem? (i := 42) rfl)) (hw _ (List.mem_of_getElem? (i := 28) rfl)) (by decide) (by decide)) q578a q578c (g := (mkF m 231 #[.val (.int p0), .val (.int p1), .val (.int p2), .val (.int p3), .val (.int (3 : Int32)), .val (.int z391), .val (.int z394), .val (.int z397), .val (.ref b398), .val (.ref b420), .val (.ref b435), .val (.int (1 : Int32)), .val (.int (0 : Int32)), .unset] [(.ref b435)])) rfl (by rw [hml]; rfl) (Steps.refl _) (argsL := []) (rest := []) (lenOf pd_0 rfl) rfl (by show 2 * 0 + _ ≤ _; exact Nat.le_of_eq rfl) (hb hby at_231) (fun _ _ => ⟨rfl, e564, (by decide : 6 + 0 ≤ _), (by decide : 37 + 0 ≤ _)⟩)
              dsimp only [Pt.U, Pt.locs, Pt.cells, Pt.slots] at X578 l578 y578 z578 st578 hQ578
              subst l578 y578 z578
              obtain ⟨rfl, N578q, e578⟩ := hQ578
              obtain ⟨Lo578, Y578, N578⟩ := pk X578 (Fr.app N564 N578q)
              refine Go.trans st578 ?_
              show Go p.tables e below (P0 Z p0 p1 p2 p3 h0 n0 s) (T578.setTop (mkF m 234 #[.val (.int p0), .val (.int p1), .val (.int p2), .val (.int p3), .val (.int (3 : Int32)), .val (.int z391), .val (.int z394), .val (.int z397), .val (.ref b398), .val (.ref b420), .val (.ref b435), .val (.int (1 : Int32)), .val (.int (0 : Int32)), .unset] [(.int (0 : Int32))]))
              refine Go.back (fun t k => XS.iload Y578.here hx rfl (hb hby at_234) rfl  k) ?_
              show Go p.tables e below (P0 Z p0 p1 p2 p3 h0 n0 s) (T578.setTop (mkF m 236 #[.val (.int p0), .val (.int p1), .val (.int p2), .val (.int p3), .val (.int (3 : Int32)), .val (.int z391), .val (.int z394), .val (.int z397), .val (.ref b398), .val (.ref b420), .val (.ref b435), .val (.int (1 : Int32)), .val (.int (0 : Int32)), .unset] [(.int (0 : Int32)), (.int (0 : Int32))]))
              refine Go.back (fun t k => XS.icmpNo Y578.here hx rfl (hb hby at_236) rfl (teq (by decide)).2 k) ?_
              show Go p.tables e below (P0 Z p0 p1 p2 p3 h0 n0 s) (T578.setTop (mkF m 239 #[.val (.int p0), .val (.int p1), .val (.int p2), .val (.int p3), .val (.int (3 : Int32)), .val (.int z391), .val (.int z394), .val (.int z397), .val (.ref b398), .val (.ref b420), .val (.ref b435), .val (.int (1 : Int32)), .val (.int (0 : Int32)), .unset] []))
              refine Go.back (fun t k => XS.aload Y578.here hx rfl (hb hby at_239) rfl rfl  k) ?_
              show Go p.tables e below (P0 Z p0 p1 p2 p3 h0 n0 s) (T578.setTop (mkF m 241 #[.val (.int p0), .val (.int p1), .val (.int p2), .val (.int p3), .val (.int (3 : Int32)), .val (.int z391), .val (.int z394), .val (.int z397), .val (.ref b398), .val (.ref b420), .val (.ref b435), .val (.int (1 : Int32)), .val (.int (0 : Int32)), .unset] [(.ref b435)]))
              obtain ⟨cq579, kq579, q579a, q579b, q579c⟩ := isOf hZ e578 F573
              obtain ⟨_, _, ⟨T579, L579, k579, n579⟩, -, X579, ⟨Lc579, hQ579, l579, y579, z579⟩, st579⟩ := Y578.virtualBack hx (y := (⟨"com/example/paylode/paylode/header/HeaderReader", "atEnd", "()Z"⟩ : MethodName)) (z := (⟨"com/example/paylode/paylode/header/HeaderReader", "atEnd", "()Z"⟩ : MethodName)) hown (mvT hZ (hw _ (List.mem_of_getElem? (i := 45) rfl))) (mvT hZ (hw _ (List.mem_of_getElem? (i := 46) rfl))) (notFace_of_selects (args := #[]) (mvT hZ (hw _ (List.mem_of_getElem? (i := 48) rfl)))) (mvT hZ (hw _ (List.mem_of_getElem? (i := 48) rfl))) (mvT hZ (hw _ (List.mem_of_getElem? (i := 47) rfl))) (by decide) (backOf (W := 0) (rm7 l Z a0 hw [] b435 b420 t429b [z391, z394, z397] zc fm (0 : Int32) h564 n0 F567 F573 F576 F577 F569 F570 F571 F572 F565 F566 hcs hp hl hfm) hZ (hw _ (List.mem_of_getElem? (i := 49) rfl)) (hw _ (List.mem_of_getElem? (i := 28) rfl)) (by decide) (by decide)) q579a q579c (g := (mkF m 241 #[.val (.int p0), .val (.int p1), .val (.int p2), .val (.int p3), .val (.int (3 : Int32)), .val (.int z391), .val (.int z394), .val (.int z397), .val (.ref b398), .val (.ref b420), .val (.ref b435), .val (.int (1 : Int32)), .val (.int (0 : Int32)), .unset] [(.ref b435)])) rfl (by rw [hml]; rfl) (Steps.refl _) (argsL := []) (rest := []) (lenOf pd_1 rfl) rfl (by show 2 * 0 + _ ≤ _; exact Nat.le_of_eq rfl) (hb hby at_241) (fun _ _ => ⟨rfl, e578, (by decide : 6 + 0 ≤ _), (by decide : 37 + 0 ≤ _)⟩)
              dsimp only [Pt.U, Pt.locs, Pt.cells, Pt.slots] at X579 l579 y579 z579 st579 hQ579
              subst l579 y579 z579
              obtain ⟨rfl, N579q, e579⟩ := hQ579
              obtain ⟨Lo579, Y579, N579⟩ := pk X579 (Fr.app N578 N579q)
              refine Go.trans st579 ?_
              rw [show (f7 [z391, z394, z397] (0 : Int32)) = false from by first | rfl | simp [f7]]
              show Go p.tables e below (P0 Z p0 p1 p2 p3 h0 n0 s) (T579.setTop (mkF m 244 #[.val (.int p0), .val (.int p1), .val (.int p2), .val (.int p3), .val (.int (3 : Int32)), .val (.int z391), .val (.int z394), .val (.int z397), .val (.ref b398), .val (.ref b420), .val (.ref b435), .val (.int (1 : Int32)), .val (.int (0 : Int32)), .unset] [(.int (0 : Int32))]))
              refine Go.back (fun t k => XS.iload Y579.here hx rfl (hb hby at_244) rfl  k) ?_
              show Go p.tables e below (P0 Z p0 p1 p2 p3 h0 n0 s) (T579.setTop (mkF m 246 #[.val (.int p0), .val (.int p1), .val (.int p2), .val (.int p3), .val (.int (3 : Int32)), .val (.int z391), .val (.int z394), .val (.int z397), .val (.ref b398), .val (.ref b420), .val (.ref b435), .val (.int (1 : Int32)), .val (.int (0 : Int32)), .unset] [(.int (0 : Int32)), (.int (0 : Int32))]))
              refine Go.back (fun t k => XS.iload Y579.here hx rfl (hb hby at_246) rfl  k) ?_
              show Go p.tables e below (P0 Z p0 p1 p2 p3 h0 n0 s) (T579.setTop (mkF m 248 #[.val (.int p0), .val (.int p1), .val (.int p2), .val (.int p3), .val (.int (3 : Int32)), .val (.int z391), .val (.int z394), .val (.int z397), .val (.ref b398), .val (.ref b420), .val (.ref b435), .val (.int (1 : Int32)), .val (.int (0 : Int32)), .unset] [(.int (3 : Int32)), (.int (0 : Int32)), (.int (0 : Int32))]))
              refine Go.back (fun t k => XS.icmpYes Y579.here hx rfl (pc0 := 248) (pc' := 255) rfl (hb hby at_248) rfl (feq (by decide)).2 (by decide) (by decide) k) ?_
              show Go p.tables e below (P0 Z p0 p1 p2 p3 h0 n0 s) (T579.setTop (mkF m 255 #[.val (.int p0), .val (.int p1), .val (.int p2), .val (.int p3), .val (.int (3 : Int32)), .val (.int z391), .val (.int z394), .val (.int z397), .val (.ref b398), .val (.ref b420), .val (.ref b435), .val (.int (1 : Int32)), .val (.int (0 : Int32)), .unset] [(.int (0 : Int32))]))
              refine Go.back (fun t k => XS.iconst Y579.here hx rfl (hb hby at_255) k) ?_
              show Go p.tables e below (P0 Z p0 p1 p2 p3 h0 n0 s) (T579.setTop (mkF m 256 #[.val (.int p0), .val (.int p1), .val (.int p2), .val (.int p3), .val (.int (3 : Int32)), .val (.int z391), .val (.int z394), .val (.int z397), .val (.ref b398), .val (.ref b420), .val (.ref b435), .val (.int (1 : Int32)), .val (.int (0 : Int32)), .unset] [(.int (0 : Int32)), (.int (0 : Int32))]))
              refine Go.back (fun t k => XS.icmpNo Y579.here hx rfl (hb hby at_256) rfl (teq (by decide)).2 k) ?_
              show Go p.tables e below (P0 Z p0 p1 p2 p3 h0 n0 s) (T579.setTop (mkF m 259 #[.val (.int p0), .val (.int p1), .val (.int p2), .val (.int p3), .val (.int (3 : Int32)), .val (.int z391), .val (.int z394), .val (.int z397), .val (.ref b398), .val (.ref b420), .val (.ref b435), .val (.int (1 : Int32)), .val (.int (0 : Int32)), .unset] []))
              refine Go.back (fun t k => XS.iconst Y579.here hx rfl (hb hby at_259) k) ?_
              show Go p.tables e below (P0 Z p0 p1 p2 p3 h0 n0 s) (T579.setTop (mkF m 260 #[.val (.int p0), .val (.int p1), .val (.int p2), .val (.int p3), .val (.int (3 : Int32)), .val (.int z391), .val (.int z394), .val (.int z397), .val (.ref b398), .val (.ref b420), .val (.ref b435), .val (.int (1 : Int32)), .val (.int (0 : Int32)), .unset] [(.int (1 : Int32))]))
              refine Go.back (fun t k => XS.goto Y579.here hx rfl (pc0 := 260) (pc' := 264) rfl (hb hby at_260) (by decide) (by decide) k) ?_
              show Go p.tables e below (P0 Z p0 p1 p2 p3 h0 n0 s) (T579.setTop (mkF m 264 #[.val (.int p0), .val (.int p1), .val (.int p2), .val (.int p3), .val (.int (3 : Int32)), .val (.int z391), .val (.int z394), .val (.int z397), .val (.ref b398), .val (.ref b420), .val (.ref b435), .val (.int (1 : Int32)), .val (.int (0 : Int32)), .unset] [(.int (1 : Int32))]))
              refine Go.back (fun t k => XS.istore Y579.here hx rfl (hb hby at_264) rfl (l' := #[.val (.int p0), .val (.int p1), .val (.int p2), .val (.int p3), .val (.int (3 : Int32)), .val (.int z391), .val (.int z394), .val (.int z397), .val (.ref b398), .val (.ref b420), .val (.ref b435), .val (.int (1 : Int32)), .val (.int (0 : Int32)), .unset]) rfl k) ?_
              show Go p.tables e below (P0 Z p0 p1 p2 p3 h0 n0 s) (T579.setTop (mkF m 266 #[.val (.int p0), .val (.int p1), .val (.int p2), .val (.int p3), .val (.int (3 : Int32)), .val (.int z391), .val (.int z394), .val (.int z397), .val (.ref b398), .val (.ref b420), .val (.ref b435), .val (.int (1 : Int32)), .val (.int (0 : Int32)), .unset] []))
              refine Go.back (fun t k => XS.iload Y579.here hx rfl (hb hby at_266) rfl  k) ?_
              show Go p.tables e below (P0 Z p0 p1 p2 p3 h0 n0 s) (T579.setTop (mkF m 268 #[.val (.int p0), .val (.int p1), .val (.int p2), .val (.int p3), .val (.int (3 : Int32)), .val (.int z391), .val (.int z394), .val (.int z397), .val (.ref b398), .val (.ref b420), .val (.ref b435), .val (.int (1 : Int32)), .val (.int (0 : Int32)), .unset] [(.int (0 : Int32))]))
              refine Go.back (fun t k => XS.iload Y579.here hx rfl (hb hby at_268) rfl  k) ?_
              show Go p.tables e below (P0 Z p0 p1 p2 p3 h0 n0 s) (T579.setTop (mkF m 270 #[.val (.int p0), .val (.int p1), .val (.int p2), .val (.int p3), .val (.int (3 : Int32)), .val (.int z391), .val (.int z394), .val (.int z397), .val (.ref b398), .val (.ref b420), .val (.ref b435), .val (.int (1 : Int32)), .val (.int (0 : Int32)), .unset] [(.int (3 : Int32)), (.int (0 : Int32))]))
              refine Go.back (fun t k => XS.icmpNo Y579.here hx rfl (hb hby at_270) rfl (tlt (by decide)).2.1 k) ?_
              show Go p.tables e below (P0 Z p0 p1 p2 p3 h0 n0 s) (T579.setTop (mkF m 273 #[.val (.int p0), .val (.int p1), .val (.int p2), .val (.int p3), .val (.int (3 : Int32)), .val (.int z391), .val (.int z394), .val (.int z397), .val (.ref b398), .val (.ref b420), .val (.ref b435), .val (.int (1 : Int32)), .val (.int (0 : Int32)), .unset] []))
              refine Go.back (fun t k => XS.iload Y579.here hx rfl (hb hby at_273) rfl  k) ?_
              show Go p.tables e below (P0 Z p0 p1 p2 p3 h0 n0 s) (T579.setTop (mkF m 275 #[.val (.int p0), .val (.int p1), .val (.int p2), .val (.int p3), .val (.int (3 : Int32)), .val (.int z391), .val (.int z394), .val (.int z397), .val (.ref b398), .val (.ref b420), .val (.ref b435), .val (.int (1 : Int32)), .val (.int (0 : Int32)), .unset] [(.int (0 : Int32))]))
              refine Go.back (fun t k => XS.ifNo Y579.here hx rfl (hb hby at_275) rfl ((if0 _ _).trans (teq (by decide)).2) k) ?_
              show Go p.tables e below (P0 Z p0 p1 p2 p3 h0 n0 s) (T579.setTop (mkF m 278 #[.val (.int p0), .val (.int p1), .val (.int p2), .val (.int p3), .val (.int (3 : Int32)), .val (.int z391), .val (.int z394), .val (.int z397), .val (.ref b398), .val (.ref b420), .val (.ref b435), .val (.int (1 : Int32)), .val (.int (0 : Int32)), .unset] []))
              refine Go.back (fun t k => XS.iload Y579.here hx rfl (hb hby at_278) rfl  k) ?_
              show Go p.tables e below (P0 Z p0 p1 p2 p3 h0 n0 s) (T579.setTop (mkF m 280 #[.val (.int p0), .val (.int p1), .val (.int p2), .val (.int p3), .val (.int (3 : Int32)), .val (.int z391), .val (.int z394), .val (.int z397), .val (.ref b398), .val (.ref b420), .val (.ref b435), .val (.int (1 : Int32)), .val (.int (0 : Int32)), .unset] [(.int z391)]))
              refine Go.back (fun t k => XS.goto Y579.here hx rfl (pc0 := 280) (pc' := 296) rfl (hb hby at_280) (by decide) (by decide) k) ?_
              show Go p.tables e below (P0 Z p0 p1 p2 p3 h0 n0 s) (T579.setTop (mkF m 296 #[.val (.int p0), .val (.int p1), .val (.int p2), .val (.int p3), .val (.int (3 : Int32)), .val (.int z391), .val (.int z394), .val (.int z397), .val (.ref b398), .val (.ref b420), .val (.ref b435), .val (.int (1 : Int32)), .val (.int (0 : Int32)), .unset] [(.int z391)]))
              refine Go.back (fun t k => XS.istore Y579.here hx rfl (hb hby at_296) rfl (l' := #[.val (.int p0), .val (.int p1), .val (.int p2), .val (.int p3), .val (.int (3 : Int32)), .val (.int z391), .val (.int z394), .val (.int z397), .val (.ref b398), .val (.ref b420), .val (.ref b435), .val (.int (1 : Int32)), .val (.int (0 : Int32)), .val (.int z391)]) rfl k) ?_
              show Go p.tables e below (P0 Z p0 p1 p2 p3 h0 n0 s) (T579.setTop (mkF m 298 #[.val (.int p0), .val (.int p1), .val (.int p2), .val (.int p3), .val (.int (3 : Int32)), .val (.int z391), .val (.int z394), .val (.int z397), .val (.ref b398), .val (.ref b420), .val (.ref b435), .val (.int (1 : Int32)), .val (.int (0 : Int32)), .val (.int z391)] []))
              refine Go.back (fun t k => XS.aload Y579.here hx rfl (hb hby at_298) rfl rfl  k) ?_
              show Go p.tables e below (P0 Z p0 p1 p2 p3 h0 n0 s) (T579.setTop (mkF m 300 #[.val (.int p0), .val (.int p1), .val (.int p2), .val (.int p3), .val (.int (3 : Int32)), .val (.int z391), .val (.int z394), .val (.int z397), .val (.ref b398), .val (.ref b420), .val (.ref b435), .val (.int (1 : Int32)), .val (.int (0 : Int32)), .val (.int z391)] [(.ref b435)]))
              refine Go.back (fun t k => XS.iload Y579.here hx rfl (hb hby at_300) rfl  k) ?_
              show Go p.tables e below (P0 Z p0 p1 p2 p3 h0 n0 s) (T579.setTop (mkF m 302 #[.val (.int p0), .val (.int p1), .val (.int p2), .val (.int p3), .val (.int (3 : Int32)), .val (.int z391), .val (.int z394), .val (.int z397), .val (.ref b398), .val (.ref b420), .val (.ref b435), .val (.int (1 : Int32)), .val (.int (0 : Int32)), .val (.int z391)] [(.int z391), (.ref b435)]))
              obtain ⟨cq580, kq580, q580a, q580b, q580c⟩ := isOf hZ e579 F573
              obtain ⟨_, _, ⟨T580, L580, k580, n580⟩, -, X580, ⟨Lc580, hQ580, l580, y580, z580⟩, st580⟩ := Y579.virtualBack hx (y := (⟨"com/example/paylode/paylode/header/HeaderReader", "expect", "(C)V"⟩ : MethodName)) (z := (⟨"com/example/paylode/paylode/header/HeaderReader", "expect", "(C)V"⟩ : MethodName)) hown (mvT hZ (hw _ (List.mem_of_getElem? (i := 107) rfl))) (mvT hZ (hw _ (List.mem_of_getElem? (i := 108) rfl))) (notFace_of_selects (args := #[]) (mvT hZ (hw _ (List.mem_of_getElem? (i := 110) rfl)))) (mvT hZ (hw _ (List.mem_of_getElem? (i := 110) rfl))) (mvT hZ (hw _ (List.mem_of_getElem? (i := 109) rfl))) (by decide) (backOf (W := 0) (rm21 l Z a0 hw [] b435 z391 b420 t429b [z391, z394, z397] zc fm (0 : Int32) h564 n0 F567 F573 F576 F577 F569 F570 F571 F572 F565 F566 g439 ne437 ne438 hcs hp hl hfm ⟨by decide, Nat.le_of_ble_eq_true rfl⟩ (by simp [f11, f7])) hZ (hw _ (List.mem_of_getElem? (i := 111) rfl)) (hw _ (List.mem_of_getElem? (i := 28) rfl)) (by decide) (by decide)) q580a q580c (g := (mkF m 302 #[.val (.int p0), .val (.int p1), .val (.int p2), .val (.int p3), .val (.int (3 : Int32)), .val (.int z391), .val (.int z394), .val (.int z397), .val (.ref b398), .val (.ref b420), .val (.ref b435), .val (.int (1 : Int32)), .val (.int (0 : Int32)), .val (.int z391)] [(.int z391), (.ref b435)])) rfl (by rw [hml]; rfl) (Steps.refl _) (argsL := [(.int z391)]) (rest := []) (lenOf pd_8 rfl) rfl (by show 2 * 0 + _ ≤ _; exact Nat.le_of_eq rfl) (hb hby at_302) (fun _ _ => ⟨rfl, e579, (by decide : 6 + 0 ≤ _), (by decide : 37 + 0 ≤ _)⟩)
              dsimp only [Pt.U, Pt.locs, Pt.cells, Pt.slots] at X580 l580 y580 z580 st580 hQ580
              subst l580 y580 z580
              obtain ⟨h580, e580⟩ : ∃ z, T580.heap = z := ⟨_, rfl⟩
              rw [e580] at hQ580
              obtain ⟨rfl, N580q, K580, F591, F592⟩ := hQ580
              obtain ⟨Lo580, Y580, N580⟩ := pk X580 (Fr.app N579 N580q)
              have F581 : Sta Z h580 "java/lang/String" "COMPACT_STRINGS" "Z" (.int zc) := sta_keep F565 K580 (noSS (noS_exa F573) noS0)
              have F582 : Sta Z h580 "jdk/internal/util/Preconditions" "SIOOBE_FORMATTER" "Ljava/util/function/BiFunction;" fm := sta_keep F566 K580 (noSS (noS_exa F573) noS0)
              have F583 : n0 ≤ h580.size := Nat.le_trans F567 K580.1
              have F584 : ArL Z h580 b398 .char [(.int z391), (.int z394), (.int z397)] := F568.keep K580 (ninS ne436 nin0)
              have F585 : Exa Z h580 b420 "java/lang/String" := F569.keep K580
              have F586 : Fld Z h580 b420 "java/lang/String" "coder" "B" (.int (0 : Int32)) := F570.keep K580 (ninS ne437 nin0)
              have F587 : Fld Z h580 b420 "java/lang/String" "value" "[B" (.ref t429b) := F571.keep K580 (ninS ne437 nin0)
              have F588 : ArL Z h580 t429b .byte (List.map Value.int (List.map StrChars.lo8 [z391, z394, z397])) := F572.keep K580 (ninS ne438 nin0)
              have F589 : Exa Z h580 b435 "com/example/paylode/paylode/header/HeaderReader" := F573.keep K580
              have F590 : kV ≤ h580.size := Nat.le_trans F574 K580.1
              refine Go.trans st580 ?_
              show Go p.tables e below (P0 Z p0 p1 p2 p3 h0 n0 s) (T580.setTop (mkF m 305 #[.val (.int p0), .val (.int p1), .val (.int p2), .val (.int p3), .val (.int (3 : Int32)), .val (.int z391), .val (.int z394), .val (.int z397), .val (.ref b398), .val (.ref b420), .val (.ref b435), .val (.int (1 : Int32)), .val (.int (0 : Int32)), .val (.int z391)] []))
              have F593 : Fld Z h580 b435 "com/example/paylode/paylode/header/HeaderReader" "position" "I" (.int (1 : Int32)) := by
                have q := F591
                rw [show ((0 : Int32) + (1 : Int32)) = (1 : Int32) from by decide] at q
                exact q
              refine Go.back (fun t k => XS.iload Y580.here hx rfl (hb hby at_305) rfl  k) ?_
              show Go p.tables e below (P0 Z p0 p1 p2 p3 h0 n0 s) (T580.setTop (mkF m 307 #[.val (.int p0), .val (.int p1), .val (.int p2), .val (.int p3), .val (.int (3 : Int32)), .val (.int z391), .val (.int z394), .val (.int z397), .val (.ref b398), .val (.ref b420), .val (.ref b435), .val (.int (1 : Int32)), .val (.int (0 : Int32)), .val (.int z391)] [(.int (1 : Int32))]))
              refine Go.back (fun t k => XS.ifNo Y580.here hx rfl (hb hby at_307) rfl ((if0 _ _).trans (feq (by decide)).1) k) ?_
              show Go p.tables e below (P0 Z p0 p1 p2 p3 h0 n0 s) (T580.setTop (mkF m 310 #[.val (.int p0), .val (.int p1), .val (.int p2), .val (.int p3), .val (.int (3 : Int32)), .val (.int z391), .val (.int z394), .val (.int z397), .val (.ref b398), .val (.ref b420), .val (.ref b435), .val (.int (1 : Int32)), .val (.int (0 : Int32)), .val (.int z391)] []))
              refine Go.back (fun t k => XS.aload Y580.here hx rfl (hb hby at_310) rfl rfl  k) ?_
              show Go p.tables e below (P0 Z p0 p1 p2 p3 h0 n0 s) (T580.setTop (mkF m 312 #[.val (.int p0), .val (.int p1), .val (.int p2), .val (.int p3), .val (.int (3 : Int32)), .val (.int z391), .val (.int z394), .val (.int z397), .val (.ref b398), .val (.ref b420), .val (.ref b435), .val (.int (1 : Int32)), .val (.int (0 : Int32)), .val (.int z391)] [(.ref b435)]))
              obtain ⟨cq594, kq594, q594a, q594b, q594c⟩ := isOf hZ e580 F589
              obtain ⟨_, _, ⟨T594, L594, k594, n594⟩, -, X594, ⟨Lc594, hQ594, l594, y594, z594⟩, st594⟩ := Y580.virtualBack hx (y := (⟨"com/example/paylode/paylode/header/HeaderReader", "position", "()I"⟩ : MethodName)) (z := (⟨"com/example/paylode/paylode/header/HeaderReader", "position", "()I"⟩ : MethodName)) hown (mvT hZ (hw _ (List.mem_of_getElem? (i := 38) rfl))) (mvT hZ (hw _ (List.mem_of_getElem? (i := 39) rfl))) (notFace_of_selects (args := #[]) (mvT hZ (hw _ (List.mem_of_getElem? (i := 41) rfl)))) (mvT hZ (hw _ (List.mem_of_getElem? (i := 41) rfl))) (mvT hZ (hw _ (List.mem_of_getElem? (i := 40) rfl))) (by decide) (backOf (W := 0) (rm6 l Z a0 hw [] b435 (1 : Int32) h580 n0 F583 F593) hZ (hw _ (List.mem_of_getElem? (i := 42) rfl)) (hw _ (List.mem_of_getElem? (i := 28) rfl)) (by decide) (by decide)) q594a q594c (g := (mkF m 312 #[.val (.int p0), .val (.int p1), .val (.int p2), .val (.int p3), .val (.int (3 : Int32)), .val (.int z391), .val (.int z394), .val (.int z397), .val (.ref b398), .val (.ref b420), .val (.ref b435), .val (.int (1 : Int32)), .val (.int (0 : Int32)), .val (.int z391)] [(.ref b435)])) rfl (by rw [hml]; rfl) (Steps.refl _) (argsL := []) (rest := []) (lenOf pd_0 rfl) rfl (by show 2 * 0 + _ ≤ _; exact Nat.le_of_eq rfl) (hb hby at_312) (fun _ _ => ⟨rfl, e580, (by decide : 6 + 0 ≤ _), (by decide : 37 + 0 ≤ _)⟩)
              dsimp only [Pt.U, Pt.locs, Pt.cells, Pt.slots] at X594 l594 y594 z594 st594 hQ594
              subst l594 y594 z594
              obtain ⟨rfl, N594q, e594⟩ := hQ594
              obtain ⟨Lo594, Y594, N594⟩ := pk X594 (Fr.app N580 N594q)
              refine Go.trans st594 ?_
              show Go p.tables e below (P0 Z p0 p1 p2 p3 h0 n0 s) (T594.setTop (mkF m 315 #[.val (.int p0), .val (.int p1), .val (.int p2), .val (.int p3), .val (.int (3 : Int32)), .val (.int z391), .val (.int z394), .val (.int z397), .val (.ref b398), .val (.ref b420), .val (.ref b435), .val (.int (1 : Int32)), .val (.int (0 : Int32)), .val (.int z391)] [(.int (1 : Int32))]))
              refine Go.back (fun t k => XS.iload Y594.here hx rfl (hb hby at_315) rfl  k) ?_
              show Go p.tables e below (P0 Z p0 p1 p2 p3 h0 n0 s) (T594.setTop (mkF m 317 #[.val (.int p0), .val (.int p1), .val (.int p2), .val (.int p3), .val (.int (3 : Int32)), .val (.int z391), .val (.int z394), .val (.int z397), .val (.ref b398), .val (.ref b420), .val (.ref b435), .val (.int (1 : Int32)), .val (.int (0 : Int32)), .val (.int z391)] [(.int (0 : Int32)), (.int (1 : Int32))]))
              refine Go.back (fun t k => XS.iconst Y594.here hx rfl (hb hby at_317) k) ?_
              show Go p.tables e below (P0 Z p0 p1 p2 p3 h0 n0 s) (T594.setTop (mkF m 318 #[.val (.int p0), .val (.int p1), .val (.int p2), .val (.int p3), .val (.int (3 : Int32)), .val (.int z391), .val (.int z394), .val (.int z397), .val (.ref b398), .val (.ref b420), .val (.ref b435), .val (.int (1 : Int32)), .val (.int (0 : Int32)), .val (.int z391)] [(.int (1 : Int32)), (.int (0 : Int32)), (.int (1 : Int32))]))
              refine Go.back (fun t k => XS.iadd Y594.here hx rfl (hb hby at_318) rfl k) ?_
              show Go p.tables e below (P0 Z p0 p1 p2 p3 h0 n0 s) (T594.setTop (mkF m 319 #[.val (.int p0), .val (.int p1), .val (.int p2), .val (.int p3), .val (.int (3 : Int32)), .val (.int z391), .val (.int z394), .val (.int z397), .val (.ref b398), .val (.ref b420), .val (.ref b435), .val (.int (1 : Int32)), .val (.int (0 : Int32)), .val (.int z391)] [(.int ((0 : Int32) + (1 : Int32))), (.int (1 : Int32))]))
              rw [show ((0 : Int32) + (1 : Int32)) = (1 : Int32) from by decide]
              refine Go.back (fun t k => XS.icmpNo Y594.here hx rfl (hb hby at_319) rfl (teq (by decide)).2 k) ?_
              show Go p.tables e below (P0 Z p0 p1 p2 p3 h0 n0 s) (T594.setTop (mkF m 322 #[.val (.int p0), .val (.int p1), .val (.int p2), .val (.int p3), .val (.int (3 : Int32)), .val (.int z391), .val (.int z394), .val (.int z397), .val (.ref b398), .val (.ref b420), .val (.ref b435), .val (.int (1 : Int32)), .val (.int (0 : Int32)), .val (.int z391)] []))
              refine Go.back (fun t k => XS.aload Y594.here hx rfl (hb hby at_322) rfl rfl  k) ?_
              show Go p.tables e below (P0 Z p0 p1 p2 p3 h0 n0 s) (T594.setTop (mkF m 324 #[.val (.int p0), .val (.int p1), .val (.int p2), .val (.int p3), .val (.int (3 : Int32)), .val (.int z391), .val (.int z394), .val (.int z397), .val (.ref b398), .val (.ref b420), .val (.ref b435), .val (.int (1 : Int32)), .val (.int (0 : Int32)), .val (.int z391)] [(.ref b435)]))
              obtain ⟨cq595, kq595, q595a, q595b, q595c⟩ := isOf hZ e594 F589
              obtain ⟨_, _, ⟨T595, L595, k595, n595⟩, -, X595, ⟨Lc595, hQ595, l595, y595, z595⟩, st595⟩ := Y594.virtualBack hx (y := (⟨"com/example/paylode/paylode/header/HeaderReader", "atEnd", "()Z"⟩ : MethodName)) (z := (⟨"com/example/paylode/paylode/header/HeaderReader", "atEnd", "()Z"⟩ : MethodName)) hown (mvT hZ (hw _ (List.mem_of_getElem? (i := 45) rfl))) (mvT hZ (hw _ (List.mem_of_getElem? (i := 46) rfl))) (notFace_of_selects (args := #[]) (mvT hZ (hw _ (List.mem_of_getElem? (i := 48) rfl)))) (mvT hZ (hw _ (List.mem_of_getElem? (i := 48) rfl))) (mvT hZ (hw _ (List.mem_of_getElem? (i := 47) rfl))) (by decide) (backOf (W := 0) (rm7 l Z a0 hw [] b435 b420 t429b [z391, z394, z397] zc fm (1 : Int32) h580 n0 F583 F589 F592 F593 F585 F586 F587 F588 F581 F582 hcs hp hl hfm) hZ (hw _ (List.mem_of_getElem? (i := 49) rfl)) (hw _ (List.mem_of_getElem? (i := 28) rfl)) (by decide) (by decide)) q595a q595c (g := (mkF m 324 #[.val (.int p0), .val (.int p1), .val (.int p2), .val (.int p3), .val (.int (3 : Int32)), .val (.int z391), .val (.int z394), .val (.int z397), .val (.ref b398), .val (.ref b420), .val (.ref b435), .val (.int (1 : Int32)), .val (.int (0 : Int32)), .val (.int z391)] [(.ref b435)])) rfl (by rw [hml]; rfl) (Steps.refl _) (argsL := []) (rest := []) (lenOf pd_1 rfl) rfl (by show 2 * 0 + _ ≤ _; exact Nat.le_of_eq rfl) (hb hby at_324) (fun _ _ => ⟨rfl, e594, (by decide : 6 + 0 ≤ _), (by decide : 37 + 0 ≤ _)⟩)
              dsimp only [Pt.U, Pt.locs, Pt.cells, Pt.slots] at X595 l595 y595 z595 st595 hQ595
              subst l595 y595 z595
              obtain ⟨rfl, N595q, e595⟩ := hQ595
              obtain ⟨Lo595, Y595, N595⟩ := pk X595 (Fr.app N594 N595q)
              refine Go.trans st595 ?_
              rw [show (f7 [z391, z394, z397] (1 : Int32)) = false from by first | rfl | simp [f7]]
              show Go p.tables e below (P0 Z p0 p1 p2 p3 h0 n0 s) (T595.setTop (mkF m 327 #[.val (.int p0), .val (.int p1), .val (.int p2), .val (.int p3), .val (.int (3 : Int32)), .val (.int z391), .val (.int z394), .val (.int z397), .val (.ref b398), .val (.ref b420), .val (.ref b435), .val (.int (1 : Int32)), .val (.int (0 : Int32)), .val (.int z391)] [(.int (0 : Int32))]))
              refine Go.back (fun t k => XS.iload Y595.here hx rfl (hb hby at_327) rfl  k) ?_
              show Go p.tables e below (P0 Z p0 p1 p2 p3 h0 n0 s) (T595.setTop (mkF m 329 #[.val (.int p0), .val (.int p1), .val (.int p2), .val (.int p3), .val (.int (3 : Int32)), .val (.int z391), .val (.int z394), .val (.int z397), .val (.ref b398), .val (.ref b420), .val (.ref b435), .val (.int (1 : Int32)), .val (.int (0 : Int32)), .val (.int z391)] [(.int (0 : Int32)), (.int (0 : Int32))]))
              refine Go.back (fun t k => XS.iconst Y595.here hx rfl (hb hby at_329) k) ?_
              show Go p.tables e below (P0 Z p0 p1 p2 p3 h0 n0 s) (T595.setTop (mkF m 330 #[.val (.int p0), .val (.int p1), .val (.int p2), .val (.int p3), .val (.int (3 : Int32)), .val (.int z391), .val (.int z394), .val (.int z397), .val (.ref b398), .val (.ref b420), .val (.ref b435), .val (.int (1 : Int32)), .val (.int (0 : Int32)), .val (.int z391)] [(.int (1 : Int32)), (.int (0 : Int32)), (.int (0 : Int32))]))
              refine Go.back (fun t k => XS.iadd Y595.here hx rfl (hb hby at_330) rfl k) ?_
              show Go p.tables e below (P0 Z p0 p1 p2 p3 h0 n0 s) (T595.setTop (mkF m 331 #[.val (.int p0), .val (.int p1), .val (.int p2), .val (.int p3), .val (.int (3 : Int32)), .val (.int z391), .val (.int z394), .val (.int z397), .val (.ref b398), .val (.ref b420), .val (.ref b435), .val (.int (1 : Int32)), .val (.int (0 : Int32)), .val (.int z391)] [(.int ((0 : Int32) + (1 : Int32))), (.int (0 : Int32))]))
              rw [show ((0 : Int32) + (1 : Int32)) = (1 : Int32) from by decide]
              refine Go.back (fun t k => XS.iload Y595.here hx rfl (hb hby at_331) rfl  k) ?_
              show Go p.tables e below (P0 Z p0 p1 p2 p3 h0 n0 s) (T595.setTop (mkF m 333 #[.val (.int p0), .val (.int p1), .val (.int p2), .val (.int p3), .val (.int (3 : Int32)), .val (.int z391), .val (.int z394), .val (.int z397), .val (.ref b398), .val (.ref b420), .val (.ref b435), .val (.int (1 : Int32)), .val (.int (0 : Int32)), .val (.int z391)] [(.int (3 : Int32)), (.int (1 : Int32)), (.int (0 : Int32))]))
              refine Go.back (fun t k => XS.icmpYes Y595.here hx rfl (pc0 := 333) (pc' := 340) rfl (hb hby at_333) rfl (feq (by decide)).2 (by decide) (by decide) k) ?_
              show Go p.tables e below (P0 Z p0 p1 p2 p3 h0 n0 s) (T595.setTop (mkF m 340 #[.val (.int p0), .val (.int p1), .val (.int p2), .val (.int p3), .val (.int (3 : Int32)), .val (.int z391), .val (.int z394), .val (.int z397), .val (.ref b398), .val (.ref b420), .val (.ref b435), .val (.int (1 : Int32)), .val (.int (0 : Int32)), .val (.int z391)] [(.int (0 : Int32))]))
              refine Go.back (fun t k => XS.iconst Y595.here hx rfl (hb hby at_340) k) ?_
              show Go p.tables e below (P0 Z p0 p1 p2 p3 h0 n0 s) (T595.setTop (mkF m 341 #[.val (.int p0), .val (.int p1), .val (.int p2), .val (.int p3), .val (.int (3 : Int32)), .val (.int z391), .val (.int z394), .val (.int z397), .val (.ref b398), .val (.ref b420), .val (.ref b435), .val (.int (1 : Int32)), .val (.int (0 : Int32)), .val (.int z391)] [(.int (0 : Int32)), (.int (0 : Int32))]))
              refine Go.back (fun t k => XS.icmpNo Y595.here hx rfl (hb hby at_341) rfl (teq (by decide)).2 k) ?_
              show Go p.tables e below (P0 Z p0 p1 p2 p3 h0 n0 s) (T595.setTop (mkF m 344 #[.val (.int p0), .val (.int p1), .val (.int p2), .val (.int p3), .val (.int (3 : Int32)), .val (.int z391), .val (.int z394), .val (.int z397), .val (.ref b398), .val (.ref b420), .val (.ref b435), .val (.int (1 : Int32)), .val (.int (0 : Int32)), .val (.int z391)] []))
              refine Go.back (fun t k => XS.iconst Y595.here hx rfl (hb hby at_344) k) ?_
              show Go p.tables e below (P0 Z p0 p1 p2 p3 h0 n0 s) (T595.setTop (mkF m 345 #[.val (.int p0), .val (.int p1), .val (.int p2), .val (.int p3), .val (.int (3 : Int32)), .val (.int z391), .val (.int z394), .val (.int z397), .val (.ref b398), .val (.ref b420), .val (.ref b435), .val (.int (1 : Int32)), .val (.int (0 : Int32)), .val (.int z391)] [(.int (1 : Int32))]))
              refine Go.back (fun t k => XS.goto Y595.here hx rfl (pc0 := 345) (pc' := 349) rfl (hb hby at_345) (by decide) (by decide) k) ?_
              show Go p.tables e below (P0 Z p0 p1 p2 p3 h0 n0 s) (T595.setTop (mkF m 349 #[.val (.int p0), .val (.int p1), .val (.int p2), .val (.int p3), .val (.int (3 : Int32)), .val (.int z391), .val (.int z394), .val (.int z397), .val (.ref b398), .val (.ref b420), .val (.ref b435), .val (.int (1 : Int32)), .val (.int (0 : Int32)), .val (.int z391)] [(.int (1 : Int32))]))
              refine Go.back (fun t k => XS.istore Y595.here hx rfl (hb hby at_349) rfl (l' := #[.val (.int p0), .val (.int p1), .val (.int p2), .val (.int p3), .val (.int (3 : Int32)), .val (.int z391), .val (.int z394), .val (.int z397), .val (.ref b398), .val (.ref b420), .val (.ref b435), .val (.int (1 : Int32)), .val (.int (0 : Int32)), .val (.int z391)]) rfl k) ?_
              show Go p.tables e below (P0 Z p0 p1 p2 p3 h0 n0 s) (T595.setTop (mkF m 351 #[.val (.int p0), .val (.int p1), .val (.int p2), .val (.int p3), .val (.int (3 : Int32)), .val (.int z391), .val (.int z394), .val (.int z397), .val (.ref b398), .val (.ref b420), .val (.ref b435), .val (.int (1 : Int32)), .val (.int (0 : Int32)), .val (.int z391)] []))
              refine Go.back (fun t k => XS.iload Y595.here hx rfl (hb hby at_351) rfl  k) ?_
              show Go p.tables e below (P0 Z p0 p1 p2 p3 h0 n0 s) (T595.setTop (mkF m 353 #[.val (.int p0), .val (.int p1), .val (.int p2), .val (.int p3), .val (.int (3 : Int32)), .val (.int z391), .val (.int z394), .val (.int z397), .val (.ref b398), .val (.ref b420), .val (.ref b435), .val (.int (1 : Int32)), .val (.int (0 : Int32)), .val (.int z391)] [(.int (1 : Int32))]))
              exact Go.retBW (s := s) (vm0 := TV.vm) (b := true) (Qa := Q0 Z p0 p1 p2 p3 h0 n0) (Qb := fun vm h => True) Y595 hx hSV (by rw [e595]; exact F590) Bd.returns (hb hby at_353) Bd.notSynchronized ⟨rfl, N595⟩ trivial (by decide) (by decide)
          exact J396 _ rfl
        exact J393 _ rfl
      exact J390 _ rfl
  exact J1 _ rfl
theorem own_isRef {Z : State} {a0 : Array Value} {t : Term} (h : (Jvm.Cond.isRef t).before a0 Z = true) : ∃ v, t.eval a0 Z none [] Z = some v ∧ v.isRef = true := by
  simp only [Cond.before, Cond.holds, Cond.value] at h
  cases q : t.eval a0 Z none [] Z with
  | none => simp [q] at h
  | some v =>
    refine ⟨v, rfl, ?_⟩
    rw [q] at h
    cases v <;> first | rfl | (simp at h)
set_option maxRecDepth 65536 in
set_option maxHeartbeats 40000000 in
theorem comes_1 {Post : Tables → Env → Array Value → State → Outcome → State → Prop} (hpost : ∀ tb e args s v u, (limb_1_1.after args s (.returned v) u = true ∧ limb_1_2.after args s (.returned v) u = true ∧ True) → FramedW s (.returned v) u (Jvm.fieldLocs frame_1_writes args s ++ Jvm.arrayLocs frame_1_arrays args s ++ Jvm.staticLocs frame_1_statics s) 24 2176 → Post tb e args s (.returned v) u) :
    ArmFor flags0 classFile x code maxLocals ret World_1 tables_1 room_1 Calls_1 rest_1 Pre_1 Post := by
  intro l hfl _ _ p e ha hc hk s m args below hf hA hF happ hP
  obtain ⟨hcalls, hrest, hpre⟩ := hP
  obtain ⟨-, -, -, hnamed, -, -, -, hat⟩ := (Spec.applies_iff hf).mp happ
  obtain ⟨hg, hn⟩ := and_e (Cond.before_iff.mp (show (Jvm.Cond.and given_1 narrow_1).before args s = true from hpre))
  obtain ⟨g1, g2⟩ := and_e hg
  obtain ⟨g3, g4⟩ := and_e g2
  obtain ⟨g5, g6⟩ := and_e g4
  obtain ⟨g7, g8⟩ := and_e g6
  obtain ⟨w0, w1, w2, w3, rfl⟩ : ∃ w0 w1 w2 w3 : Value, args = #[w0, w1, w2, w3] := by
    have hs : args.size = 4 := by simpa [Cond.value, given_1] using g1
    obtain ⟨L⟩ := args
    match L, hs with
    | [w0, w1, w2, w3], _ => exact ⟨w0, w1, w2, w3, rfl⟩
  have hw := fun d (hd : d ∈ tables_1) => atoms_spec (ws := Jvm.Cond.code x code maxLocals ret :: tables_1) hat d (List.mem_cons_of_mem _ hd)
  have hfit : Fit s := fun {y c} hc i hi => by
    obtain ⟨ha, rfl⟩ := Array.getElem?_eq_some_iff.mp hc
    have q := List.all_eq_true.mp ((Array.all_eq_true_iff_forall_mem.mp hF) _ (Array.getElem_mem ha)) i (List.mem_range.mpr hi)
    simpa [Array.getElem?_eq_getElem hi] using q
  obtain ⟨hsets, hown0⟩ := atoms_of _ (rest_1_c_eq ▸ (show rest_1_c.before _ s = true from hrest))
  have hr0 := Cond.before_iff.mp hown0
  obtain ⟨i0, ei0⟩ := is_v g3
  obtain rfl : w0 = (.int i0) := Option.some.inj ei0
  obtain ⟨i1, ei1⟩ := is_v g5
  obtain rfl : w1 = (.int i1) := Option.some.inj ei1
  obtain ⟨i2, ei2⟩ := is_v g7
  obtain rfl : w2 = (.int i2) := Option.some.inj ei2
  obtain ⟨i3, ei3⟩ := is_v g8
  obtain rfl : w3 = (.int i3) := Option.some.inj ei3
  have hcw : Jvm.Lit.compactW.before _ s = true := hsets _ (List.mem_of_getElem? (i := 2) rfl)
  obtain ⟨cs, hcs0⟩ := Cond.isInt_spec (hsets _ (List.mem_of_getElem? (i := 1) rfl))
  have hcs : ¬ cs = (0 : Int32) := fun h => by
    have q := hcw
    simp only [Jvm.Lit.compactW, Cond.before, Cond.holds, Cond.value, hcs0, h] at q
    simp [Term.eval] at q
  have S0 := Sta.start hcs0 (Or.inl (hsets _ (List.mem_of_getElem? (i := 0) rfl)))
  obtain ⟨fm, hfm0, hfm⟩ := own_isRef (hsets _ (List.mem_of_getElem? (i := 8) rfl))
  have S9 := Sta.start hfm0 (Or.inl (hsets _ (List.mem_of_getElem? (i := 7) rfl)))
  have hEL : EW s _ EL1 := EW.cons (hw _ (List.mem_of_getElem? (i := 29) rfl)) own_litv (EW.cons (hw _ (List.mem_of_getElem? (i := 18) rfl)) own_lit0.1 EW.nil)
  have hCH := CHv.start hEL (fun p hp => hcalls.1 p hp) hcw (hw _ (List.mem_of_getElem? (i := 19) rfl)) (hw _ (List.mem_of_getElem? (i := 6) rfl))
  obtain ⟨n, o, h1, h2, h3, v, L, rfl, hQ, -, hq⟩ := rm0 l s _ hw tables_1 i0 i1 i2 i3 s.heap s.heap.size (Nat.le_refl _) hEL cs fm S0 S9 hcs hfm p e ha hc hk s m _ below hf ((Spec.applies_iff_loose hf).mp happ).1 ⟨rfl, State.Warmed39.refl s, rfl, hCH⟩ trivial
  have hv : v = some (.int (1 : Int32)) := hQ.1
  subst hv
  have N : Fr s.heap.size L := by first | exact hQ.2.1 | exact hQ.2
  refine ⟨n, _, h1, h2, h3, hpost _ _ _ _ _ _ ⟨Cond.after_iff.mpr rfl, Cond.after_iff.mpr (eq_i res_at (Term.int_eval (1)) rfl), trivial⟩ ⟨hq.1, hq.2.1, hq.2.2.1, (hq.2.2.2.sift fun y hy => Or.inr (N y hy)).mono (by decide) (by decide)⟩⟩
theorem main_1_1 : Claimed_1_1 := comes_1 fun _ _ _ _ _ _ h hF => ⟨h.1, hF⟩
theorem main_1_2 : Claimed_1_2 := comes_1 fun _ _ _ _ _ _ h hF => ⟨h.2.1, hF⟩
end Jvm.Pilot.@@N@@
namespace Jvm.Pilot.@@N@@
open Jvm Jvm.ClassFile Sem Op Lib Jvm.Free Jvm.Stand Jvm.Pilot.@@N@@.Jvm.D
/-! MADE BY PROGRAM (witnessworld.py) out of the Statement's table words and the real class files: 20 classes; the members and pool entries that the words name. The judged class is class 1, her method 3. -/
namespace start1
open Jvm.ClassFile
def u (s : String) : CpInfo := .utf8 (stringToUtf16 s)
/-- a pool by its gaps: so many unusable entries, then the entry; so many at the end -/
def gap : Nat → List CpInfo → List CpInfo
  | 0, r => r
  | n + 1, r => .unusable :: gap n r
def poolList (es : List (Nat × CpInfo)) (last : Nat) : List CpInfo := es.foldr (fun e r => gap e.1 (e.2 :: r)) (gap last [])
def pool (es : List (Nat × CpInfo)) (last : Nat) : Array CpInfo := ⟨poolList es last⟩
def fileOf (pool : Array CpInfo) (this : Nat) (attrs : Array Attribute := #[]) (ms : Array MethodInfo := #[]) (fl : Nat := 33) (sup : Nat := 0) (ifs : Array Nat := #[]) (fds : Array FieldInfo := #[]) : ClassFile where
  minorVersion := 0
  majorVersion := 65
  constantPool := pool
  accessFlags := fl
  thisClass := this
  superClass := sup
  interfaces := ifs
  fields := fds
  methods := ms
  attributes := attrs
def plain (name : String) (sup : Option ClassId) : Class where
  name := name
  kind := .ordinary
  loader := none
  accessFlags := 33
  super := sup
  interfaces := #[]
  cf := none
  fields := #[]
  methods := #[]
  instanceTypes := #[]
  staticTypes := #[]
  resolved := #[]
  callSites := []
  init := .initialized
  statics := none
  mirror := none

def pool0 : Array CpInfo := pool [(5, u "<init>"), (0, u "()V"), (1, .class_ 10), (1, u "java/lang/Object")] 113

def k0c0 : Code := { maxStack := 0, maxLocals := 1, code := object_method_1_code, exceptionTable := #[], attributes := #[] }
def k0m0 : Method := { name := "<init>", desc := "()V", sig := { parameters := [], returnType := none }, accessFlags := 1, code := some k0c0 }
/-- java/lang/Object -/
def k0 : Class := { plain "java/lang/Object" none with
  accessFlags := 33
  interfaces := #[]
  cf := some (fileOf pool0 8 #[] #[{ accessFlags := 1, nameIndex := 5, descriptorIndex := 6, attributes := #[] }] 33 0 #[] #[])
  fields := #[]
  methods := #[k0m0]
  instanceTypes := #[]
  staticTypes := #[]
  resolved := Array.replicate 124 none
  statics := none }

def pool1 : Array CpInfo := pool [(2, .class_ 4), (1, u "java/lang/Object"), (0, u "<init>"), (0, u "()V"), (0, .methodref 8 9), (0, .class_ 10), (0, .nameAndType 11 12), (0, u "com/example/paylode/paylode/header/HeaderReaderAtEndPinLaw"), (0, u "draw"), (0, u "(I)C"), (0, .class_ 14), (0, u "java/lang/String"), (0, .methodref 13 16), (0, .nameAndType 5 17), (0, u "([C)V"), (0, .class_ 19), (0, u "com/example/paylode/paylode/header/HeaderReader"), (0, .string 21), (0, u "value"), (0, .methodref 18 23), (0, .nameAndType 5 24), (0, u "(Ljava/lang/String;Ljava/lang/String;)V"), (0, .methodref 18 26), (0, .nameAndType 27 28), (0, u "position"), (0, u "()I"), (0, .methodref 18 30), (0, .nameAndType 31 32), (0, u "atEnd"), (0, u "()Z"), (0, .methodref 8 34), (0, .nameAndType 35 36), (0, u "ws"), (0, u "(C)Z"), (0, .methodref 18 38), (0, .nameAndType 39 6), (0, u "skipWhitespace"), (0, .methodref 18 41), (0, .nameAndType 42 43), (0, u "expect"), (0, u "(C)V"), (3, u "law"), (0, u "(IIII)Z")] 4

def k1m0 : Method := { name := "<init>", desc := "()V", sig := { parameters := [], returnType := none }, accessFlags := 1, code := none }
def k1c1 : Code := { maxStack := 2, maxLocals := 1, code := method_2_code, exceptionTable := #[], attributes := #[] }
def k1m1 : Method := { name := "draw", desc := "(I)C", sig := { parameters := [.int], returnType := some .char }, accessFlags := 10, code := some k1c1 }
def k1c2 : Code := { maxStack := 2, maxLocals := 1, code := method_3_code, exceptionTable := #[], attributes := #[] }
def k1m2 : Method := { name := "ws", desc := "(C)Z", sig := { parameters := [.char], returnType := some .boolean }, accessFlags := 10, code := some k1c2 }
def k1c3 : Code := { maxStack := 4, maxLocals := 14, code := code, exceptionTable := #[], attributes := #[] }
def k1m3 : Method := { name := "law", desc := "(IIII)Z", sig := { parameters := [.int, .int, .int, .int], returnType := some .boolean }, accessFlags := 9, code := some k1c3 }
/-- com/example/paylode/paylode/header/HeaderReaderAtEndPinLaw -/
def k1 : Class := { plain "com/example/paylode/paylode/header/HeaderReaderAtEndPinLaw" (some 0) with
  accessFlags := 49
  interfaces := #[]
  cf := some (fileOf pool1 8 #[] #[{ accessFlags := 1, nameIndex := 5, descriptorIndex := 6, attributes := #[] }, { accessFlags := 10, nameIndex := 11, descriptorIndex := 12, attributes := #[] }, { accessFlags := 10, nameIndex := 35, descriptorIndex := 36, attributes := #[] }, { accessFlags := 9, nameIndex := 47, descriptorIndex := 48, attributes := #[] }] 49 2 #[] #[])
  fields := #[]
  methods := #[k1m0, k1m1, k1m2, k1m3]
  instanceTypes := #[]
  staticTypes := #[]
  resolved := Array.replicate 53 none
  statics := none }

def pool2 : Array CpInfo := pool [(1, .class_ 2), (0, u "java/io/Serializable"), (0, .class_ 4), (0, u "java/lang/Object")] 2

/-- java/io/Serializable -/
def k2 : Class := { plain "java/io/Serializable" (some 0) with
  accessFlags := 1537
  interfaces := #[]
  cf := some (fileOf pool2 1 #[] #[] 1537 3 #[] #[])
  fields := #[]
  methods := #[]
  instanceTypes := #[]
  staticTypes := #[]
  resolved := Array.replicate 7 none
  statics := none }

def pool3 : Array CpInfo := pool [(1, .class_ 2), (0, u "java/lang/Comparable"), (0, .class_ 4), (0, u "java/lang/Object")] 7

/-- java/lang/Comparable -/
def k3 : Class := { plain "java/lang/Comparable" (some 0) with
  accessFlags := 1537
  interfaces := #[]
  cf := some (fileOf pool3 1 #[] #[] 1537 3 #[] #[])
  fields := #[]
  methods := #[]
  instanceTypes := #[]
  staticTypes := #[]
  resolved := Array.replicate 12 none
  statics := none }

def pool4 : Array CpInfo := pool [(2, .class_ 4), (1, u "java/lang/CharSequence"), (42, .class_ 48), (0, u "java/lang/CharSequence$1CodePointIterator"), (10, .class_ 60), (0, u "java/lang/CharSequence$1CharIterator"), (5, .class_ 67), (0, u "java/lang/Object")] 63

/-- java/lang/CharSequence -/
def k4 : Class := { plain "java/lang/CharSequence" (some 0) with
  accessFlags := 1537
  interfaces := #[]
  cf := some (fileOf pool4 2 #[.nestMembers #[47, 59]] #[] 1537 66 #[] #[])
  fields := #[]
  methods := #[]
  instanceTypes := #[]
  staticTypes := #[]
  resolved := Array.replicate 131 none
  statics := none }

def pool5 : Array CpInfo := pool [(1, .class_ 2), (0, u "java/lang/constant/Constable"), (0, .class_ 4), (0, u "java/lang/Object")] 6

/-- java/lang/constant/Constable -/
def k5 : Class := { plain "java/lang/constant/Constable" (some 0) with
  accessFlags := 1537
  interfaces := #[]
  cf := some (fileOf pool5 1 #[] #[] 1537 3 #[] #[])
  fields := #[]
  methods := #[]
  instanceTypes := #[]
  staticTypes := #[]
  resolved := Array.replicate 11 none
  statics := none }

def pool6 : Array CpInfo := pool [(1, .class_ 2), (0, u "java/lang/constant/ConstantDesc"), (0, .class_ 4), (0, u "java/lang/Object")] 32

/-- java/lang/constant/ConstantDesc -/
def k6 : Class := { plain "java/lang/constant/ConstantDesc" (some 0) with
  accessFlags := 1537
  interfaces := #[]
  cf := some (fileOf pool6 1 #[] #[] 1537 3 #[] #[])
  fields := #[]
  methods := #[]
  instanceTypes := #[]
  staticTypes := #[]
  resolved := Array.replicate 37 none
  statics := none }

def pool7 : Array CpInfo := pool [(1, .methodref 2 3), (0, .class_ 4), (0, .nameAndType 5 6), (0, u "java/lang/Object"), (0, u "<init>"), (0, u "()V"), (0, .string 8), (0, u ""), (0, .fieldref 10 11), (0, .class_ 12), (0, .nameAndType 13 14), (0, u "java/lang/String"), (0, u "value"), (0, u "[B"), (0, .fieldref 10 16), (0, .nameAndType 17 18), (0, u "coder"), (0, u "B"), (2, u "hash"), (0, u "I"), (2, u "hashIsZero"), (0, u "Z"), (0, .methodref 10 28), (0, .nameAndType 5 29), (0, u "([CIILjava/lang/Void;)V"), (8, .fieldref 10 39), (0, .nameAndType 40 26), (0, u "COMPACT_STRINGS"), (1, .class_ 44), (1, u "java/lang/StringUTF16"), (0, u "compress"), (1, .methodref 42 48), (0, .nameAndType 49 50), (0, u "coderFromArrayLen"), (0, u "([BI)B"), (56, .class_ 109), (1, u "java/lang/StringLatin1"), (32, u "()Z"), (34, .methodref 42 178), (0, .nameAndType 45 179), (0, u "([CII)[B"), (154, u "()I"), (0, .methodref 10 336), (0, .nameAndType 17 337), (0, u "()B"), (25, u "([BI)C"), (27, u "(II)V"), (35, u "(I)C"), (64, .methodref 10 493), (0, .nameAndType 494 142), (0, u "isLatin1"), (0, .methodref 107 496), (0, .nameAndType 497 363), (0, u "charAt"), (3, u "checkIndex"), (5, u "length"), (67, .class_ 576), (0, u "java/lang/CharSequence"), (22, u "CASE_INSENSITIVE_ORDER"), (0, u "Ljava/util/Comparator;"), (409, u "([C)V"), (42, .fieldref 1054 1055), (0, .class_ 1056), (0, .nameAndType 1057 1058), (0, u "jdk/internal/util/Preconditions"), (0, u "SIOOBE_FORMATTER"), (0, u "Ljava/util/function/BiFunction;"), (0, .methodref 1054 1060), (0, .nameAndType 501 1061), (0, u "(IILjava/util/function/BiFunction;)I"), (39, u "serialPersistentFields"), (0, u "[Ljava/io/ObjectStreamField;"), (0, .class_ 1104), (0, u "java/lang/String$CaseInsensitiveComparator"), (1, .class_ 1107), (0, u "java/io/Serializable"), (0, .class_ 1109), (0, u "java/lang/Comparable"), (0, .class_ 1111), (0, u "java/lang/constant/Constable"), (0, .class_ 1113), (0, u "java/lang/constant/ConstantDesc"), (2, u "serialVersionUID"), (0, u "J"), (3, u "REPL"), (0, u "C"), (2, u "LATIN1"), (1, u "UTF16")] 323

def k7m0 : Method := { name := "<init>", desc := "()V", sig := { parameters := [], returnType := none }, accessFlags := 1, code := none }
def k7c1 : Code := { maxStack := 5, maxLocals := 2, code := jdk_42_method_3_code, exceptionTable := #[], attributes := #[] }
def k7m1 : Method := { name := "<init>", desc := "([C)V", sig := { parameters := [(.array .char)], returnType := none }, accessFlags := 1, code := some k7c1 }
def k7c2 : Code := { maxStack := 2, maxLocals := 1, code := jdk_42_method_54_code, exceptionTable := #[], attributes := #[] }
def k7m2 : Method := { name := "length", desc := "()I", sig := { parameters := [], returnType := some .int }, accessFlags := 1, code := some k7c2 }
def k7c3 : Code := { maxStack := 2, maxLocals := 2, code := jdk_42_method_56_code, exceptionTable := #[], attributes := #[] }
def k7m3 : Method := { name := "charAt", desc := "(I)C", sig := { parameters := [.int], returnType := some .char }, accessFlags := 1, code := some k7c3 }
def k7c4 : Code := { maxStack := 4, maxLocals := 6, code := jdk_42_method_149_code, exceptionTable := #[], attributes := #[] }
def k7m4 : Method := { name := "<init>", desc := "([CIILjava/lang/Void;)V", sig := { parameters := [(.array .char), .int, .int, (.object "java/lang/Void")], returnType := none }, accessFlags := 2, code := some k7c4 }
def k7c5 : Code := { maxStack := 1, maxLocals := 1, code := jdk_42_method_152_code, exceptionTable := #[], attributes := #[] }
def k7m5 : Method := { name := "coder", desc := "()B", sig := { parameters := [], returnType := some .byte }, accessFlags := 0, code := some k7c5 }
def k7c6 : Code := { maxStack := 1, maxLocals := 1, code := jdk_42_method_154_code, exceptionTable := #[], attributes := #[] }
def k7m6 : Method := { name := "isLatin1", desc := "()Z", sig := { parameters := [], returnType := some .boolean }, accessFlags := 0, code := some k7c6 }
def k7c7 : Code := { maxStack := 3, maxLocals := 2, code := jdk_42_method_155_code, exceptionTable := #[], attributes := #[] }
def k7m7 : Method := { name := "checkIndex", desc := "(II)V", sig := { parameters := [.int, .int], returnType := none }, accessFlags := 8, code := some k7c7 }
/-- java/lang/String -/
def k7 : Class := { plain "java/lang/String" (some 0) with
  accessFlags := 49
  interfaces := #[2, 3, 4, 5, 6]
  cf := some (fileOf pool7 10 #[.nestMembers #[1103]] #[{ accessFlags := 1, nameIndex := 5, descriptorIndex := 6, attributes := #[] }, { accessFlags := 1, nameIndex := 5, descriptorIndex := 1010, attributes := #[] }, { accessFlags := 1, nameIndex := 507, descriptorIndex := 334, attributes := #[] }, { accessFlags := 1, nameIndex := 497, descriptorIndex := 427, attributes := #[] }, { accessFlags := 2, nameIndex := 5, descriptorIndex := 29, attributes := #[] }, { accessFlags := 0, nameIndex := 17, descriptorIndex := 337, attributes := #[] }, { accessFlags := 0, nameIndex := 494, descriptorIndex := 142, attributes := #[] }, { accessFlags := 8, nameIndex := 501, descriptorIndex := 391, attributes := #[] }] 49 2 #[1106, 1108, 575, 1110, 1112] #[{ accessFlags := 18, nameIndex := 13, descriptorIndex := 14, attributes := #[] }, { accessFlags := 18, nameIndex := 17, descriptorIndex := 18, attributes := #[] }, { accessFlags := 2, nameIndex := 21, descriptorIndex := 22, attributes := #[] }, { accessFlags := 2, nameIndex := 25, descriptorIndex := 26, attributes := #[] }, { accessFlags := 26, nameIndex := 1116, descriptorIndex := 1117, attributes := #[] }, { accessFlags := 24, nameIndex := 40, descriptorIndex := 26, attributes := #[] }, { accessFlags := 26, nameIndex := 1101, descriptorIndex := 1102, attributes := #[] }, { accessFlags := 26, nameIndex := 1121, descriptorIndex := 1122, attributes := #[] }, { accessFlags := 25, nameIndex := 599, descriptorIndex := 600, attributes := #[] }, { accessFlags := 24, nameIndex := 1125, descriptorIndex := 18, attributes := #[] }, { accessFlags := 24, nameIndex := 1127, descriptorIndex := 18, attributes := #[] }])
  fields := #[{ name := "value", type := (.array .byte), accessFlags := 18, slot := 0, constantValue := 0 }, { name := "coder", type := .byte, accessFlags := 18, slot := 1, constantValue := 0 }, { name := "hash", type := .int, accessFlags := 2, slot := 2, constantValue := 0 }, { name := "hashIsZero", type := .boolean, accessFlags := 2, slot := 3, constantValue := 0 }, { name := "serialVersionUID", type := .long, accessFlags := 26, slot := 0, constantValue := 0 }, { name := "COMPACT_STRINGS", type := .boolean, accessFlags := 24, slot := 1, constantValue := 0 }, { name := "serialPersistentFields", type := (.array (.object "java/io/ObjectStreamField")), accessFlags := 26, slot := 2, constantValue := 0 }, { name := "REPL", type := .char, accessFlags := 26, slot := 3, constantValue := 0 }, { name := "CASE_INSENSITIVE_ORDER", type := (.object "java/util/Comparator"), accessFlags := 25, slot := 4, constantValue := 0 }, { name := "LATIN1", type := .byte, accessFlags := 24, slot := 5, constantValue := 0 }, { name := "UTF16", type := .byte, accessFlags := 24, slot := 6, constantValue := 0 }]
  methods := #[k7m0, k7m1, k7m2, k7m3, k7m4, k7m5, k7m6, k7m7]
  instanceTypes := #[(.array .byte), .byte, .int, .boolean]
  staticTypes := #[.long, .boolean, (.array (.object "java/io/ObjectStreamField")), .char, (.object "java/util/Comparator"), .byte, .byte]
  resolved := Array.replicate 1451 none
  statics := some 0 }

def pool8 : Array CpInfo := pool [(1, .methodref 2 3), (0, .class_ 4), (0, .nameAndType 5 6), (0, u "java/lang/Object"), (0, u "<init>"), (0, u "()V"), (0, .fieldref 8 9), (0, .class_ 10), (0, .nameAndType 11 12), (0, u "com/example/paylode/paylode/header/HeaderReader"), (0, u "text"), (0, u "Ljava/lang/String;"), (0, .fieldref 8 14), (0, .nameAndType 15 12), (0, u "what"), (0, .fieldref 8 17), (0, .nameAndType 18 19), (0, u "position"), (0, u "I"), (0, .methodref 21 22), (0, .class_ 23), (0, .nameAndType 24 25), (0, u "java/lang/String"), (0, u "length"), (0, u "()I"), (0, .methodref 8 27), (0, .nameAndType 28 29), (0, u "atEnd"), (0, u "()Z"), (0, .methodref 21 31), (0, .nameAndType 32 33), (0, u "charAt"), (0, u "(I)C"), (0, .methodref 8 35), (0, .nameAndType 36 37), (0, u "at"), (0, u "(C)Z"), (10, u "skipWhitespace"), (9, u "expect"), (0, u "(C)V"), (46, u "(Ljava/lang/String;Ljava/lang/String;)V")] 30

def k8c0 : Code := { maxStack := 2, maxLocals := 3, code := prog_4_method_1_code, exceptionTable := #[], attributes := #[] }
def k8m0 : Method := { name := "<init>", desc := "(Ljava/lang/String;Ljava/lang/String;)V", sig := { parameters := [(.object "java/lang/String"), (.object "java/lang/String")], returnType := none }, accessFlags := 0, code := some k8c0 }
def k8c1 : Code := { maxStack := 1, maxLocals := 1, code := prog_4_method_2_code, exceptionTable := #[], attributes := #[] }
def k8m1 : Method := { name := "position", desc := "()I", sig := { parameters := [], returnType := some .int }, accessFlags := 0, code := some k8c1 }
def k8c2 : Code := { maxStack := 2, maxLocals := 1, code := prog_4_method_3_code, exceptionTable := #[], attributes := #[] }
def k8m2 : Method := { name := "atEnd", desc := "()Z", sig := { parameters := [], returnType := some .boolean }, accessFlags := 0, code := some k8c2 }
def k8c3 : Code := { maxStack := 2, maxLocals := 2, code := prog_4_method_4_code, exceptionTable := #[], attributes := #[] }
def k8m3 : Method := { name := "at", desc := "(C)Z", sig := { parameters := [.char], returnType := some .boolean }, accessFlags := 0, code := some k8c3 }
def k8c4 : Code := { maxStack := 3, maxLocals := 1, code := prog_4_method_5_code, exceptionTable := #[], attributes := #[] }
def k8m4 : Method := { name := "skipWhitespace", desc := "()V", sig := { parameters := [], returnType := none }, accessFlags := 0, code := some k8c4 }
def k8c5 : Code := { maxStack := 3, maxLocals := 2, code := prog_4_method_6_code, exceptionTable := #[], attributes := #[] }
def k8m5 : Method := { name := "expect", desc := "(C)V", sig := { parameters := [.char], returnType := none }, accessFlags := 0, code := some k8c5 }
/-- com/example/paylode/paylode/header/HeaderReader -/
def k8 : Class := { plain "com/example/paylode/paylode/header/HeaderReader" (some 0) with
  accessFlags := 48
  interfaces := #[]
  cf := some (fileOf pool8 8 #[] #[{ accessFlags := 0, nameIndex := 5, descriptorIndex := 106, attributes := #[] }, { accessFlags := 0, nameIndex := 18, descriptorIndex := 25, attributes := #[] }, { accessFlags := 0, nameIndex := 28, descriptorIndex := 29, attributes := #[] }, { accessFlags := 0, nameIndex := 36, descriptorIndex := 37, attributes := #[] }, { accessFlags := 0, nameIndex := 48, descriptorIndex := 6, attributes := #[] }, { accessFlags := 0, nameIndex := 58, descriptorIndex := 59, attributes := #[] }] 48 2 #[] #[{ accessFlags := 18, nameIndex := 11, descriptorIndex := 12, attributes := #[] }, { accessFlags := 18, nameIndex := 15, descriptorIndex := 12, attributes := #[] }, { accessFlags := 2, nameIndex := 18, descriptorIndex := 19, attributes := #[] }])
  fields := #[{ name := "text", type := (.object "java/lang/String"), accessFlags := 18, slot := 0, constantValue := 0 }, { name := "what", type := (.object "java/lang/String"), accessFlags := 18, slot := 1, constantValue := 0 }, { name := "position", type := .int, accessFlags := 2, slot := 2, constantValue := 0 }]
  methods := #[k8m0, k8m1, k8m2, k8m3, k8m4, k8m5]
  instanceTypes := #[(.object "java/lang/String"), (.object "java/lang/String"), .int]
  staticTypes := #[]
  resolved := Array.replicate 137 none
  statics := none }

def pool9 : Array CpInfo := pool [(6, .class_ 8), (1, u "java/lang/Object"), (0, u "<init>"), (0, u "()V"), (1, .class_ 14), (1, u "java/lang/StringUTF16"), (31, u "$assertionsDisabled"), (0, u "Z"), (13, u "HI_BYTE_SHIFT"), (0, u "I"), (2, u "LO_BYTE_SHIFT"), (49, .methodref 12 116), (0, .nameAndType 117 118), (0, u "compress"), (0, u "([CI[BII)I"), (3, u "([CII)[B"), (138, u "coderFromArrayLen"), (0, u "([BI)B"), (106, .class_ 371), (1, u "java/lang/StringUTF16$LinesSpliterator"), (58, u "MAX_LENGTH"), (196, .class_ 628), (0, u "java/lang/StringUTF16$CodePointsSpliterator"), (0, .class_ 630), (0, u "java/lang/StringUTF16$CharsSpliterator")] 4

def k9m0 : Method := { name := "<init>", desc := "()V", sig := { parameters := [], returnType := none }, accessFlags := 0, code := none }
def k9c1 : Code := { maxStack := 2, maxLocals := 2, code := jdk_52_method_15_code, exceptionTable := #[], attributes := #[] }
def k9m1 : Method := { name := "coderFromArrayLen", desc := "([BI)B", sig := { parameters := [(.array .byte), .int], returnType := some .byte }, accessFlags := 8, code := some k9c1 }
def k9c2 : Code := { maxStack := 5, maxLocals := 6, code := jdk_52_method_16_code, exceptionTable := #[], attributes := #[] }
def k9m2 : Method := { name := "compress", desc := "([CII)[B", sig := { parameters := [(.array .char), .int, .int], returnType := some (.array .byte) }, accessFlags := 9, code := some k9c2 }
def k9c3 : Code := { maxStack := 3, maxLocals := 7, code := jdk_52_method_21_code, exceptionTable := #[], attributes := #[] }
def k9m3 : Method := { name := "compress", desc := "([CI[BII)I", sig := { parameters := [(.array .char), .int, (.array .byte), .int, .int], returnType := some .int }, accessFlags := 9, code := some k9c3 }
/-- java/lang/StringUTF16 -/
def k9 : Class := { plain "java/lang/StringUTF16" (some 0) with
  accessFlags := 48
  interfaces := #[]
  cf := some (fileOf pool9 12 #[.nestMembers #[627, 629, 369]] #[{ accessFlags := 0, nameIndex := 9, descriptorIndex := 10, attributes := #[] }, { accessFlags := 8, nameIndex := 261, descriptorIndex := 262, attributes := #[] }, { accessFlags := 9, nameIndex := 117, descriptorIndex := 122, attributes := #[] }, { accessFlags := 9, nameIndex := 117, descriptorIndex := 118, attributes := #[] }] 48 6 #[] #[{ accessFlags := 26, nameIndex := 61, descriptorIndex := 62, attributes := #[] }, { accessFlags := 26, nameIndex := 65, descriptorIndex := 62, attributes := #[] }, { accessFlags := 24, nameIndex := 430, descriptorIndex := 62, attributes := #[] }, { accessFlags := 4120, nameIndex := 46, descriptorIndex := 47, attributes := #[] }])
  fields := #[{ name := "HI_BYTE_SHIFT", type := .int, accessFlags := 26, slot := 0, constantValue := 0 }, { name := "LO_BYTE_SHIFT", type := .int, accessFlags := 26, slot := 1, constantValue := 0 }, { name := "MAX_LENGTH", type := .int, accessFlags := 24, slot := 2, constantValue := 0 }, { name := "$assertionsDisabled", type := .boolean, accessFlags := 4120, slot := 3, constantValue := 0 }]
  methods := #[k9m0, k9m1, k9m2, k9m3]
  instanceTypes := #[]
  staticTypes := #[.int, .int, .int, .boolean]
  resolved := Array.replicate 635 none
  statics := none }

def pool10 : Array CpInfo := pool [(1, .class_ 2), (0, u "java/lang/String"), (1, .class_ 6), (1, u "java/lang/Object"), (0, u "<init>"), (0, u "()V"), (0, .methodref 1 10), (0, .nameAndType 11 12), (0, u "checkIndex"), (0, u "(II)V"), (1, .class_ 16), (1, u "java/lang/StringLatin1"), (36, u "([BI)C"), (67, u "$assertionsDisabled"), (0, u "Z"), (98, .class_ 223), (1, u "java/lang/StringLatin1$LinesSpliterator"), (28, u "charAt"), (137, .class_ 391), (0, u "java/lang/StringLatin1$CharsSpliterator")] 3

def k10m0 : Method := { name := "<init>", desc := "()V", sig := { parameters := [], returnType := none }, accessFlags := 0, code := none }
def k10c1 : Code := { maxStack := 2, maxLocals := 2, code := jdk_43_method_2_code, exceptionTable := #[], attributes := #[] }
def k10m1 : Method := { name := "charAt", desc := "([BI)C", sig := { parameters := [(.array .byte), .int], returnType := some .char }, accessFlags := 9, code := some k10c1 }
/-- java/lang/StringLatin1 -/
def k10 : Class := { plain "java/lang/StringLatin1" (some 0) with
  accessFlags := 48
  interfaces := #[]
  cf := some (fileOf pool10 14 #[.nestMembers #[390, 221]] #[{ accessFlags := 0, nameIndex := 7, descriptorIndex := 8, attributes := #[] }, { accessFlags := 9, nameIndex := 252, descriptorIndex := 53, attributes := #[] }] 48 4 #[] #[{ accessFlags := 4120, nameIndex := 121, descriptorIndex := 122, attributes := #[] }])
  fields := #[{ name := "$assertionsDisabled", type := .boolean, accessFlags := 4120, slot := 0, constantValue := 0 }]
  methods := #[k10m0, k10m1]
  instanceTypes := #[]
  staticTypes := #[.boolean]
  resolved := Array.replicate 395 none
  statics := none }

def pool11 : Array CpInfo := pool [(2, .class_ 4), (1, u "java/lang/Object"), (0, u "<init>"), (0, u "()V"), (17, .class_ 26), (1, u "jdk/internal/util/Preconditions"), (6, u "checkIndex"), (21, .class_ 56), (0, u "jdk/internal/util/Preconditions$4"), (57, .class_ 115), (0, u "jdk/internal/util/Preconditions$1"), (7, u "SIOOBE_FORMATTER"), (0, u "Ljava/util/function/BiFunction;"), (0, .class_ 126), (0, u "jdk/internal/util/Preconditions$2"), (3, u "AIOOBE_FORMATTER"), (0, .class_ 132), (0, u "jdk/internal/util/Preconditions$3"), (3, u "IOOBE_FORMATTER"), (41, u "(IILjava/util/function/BiFunction;)I")] 15

def k11m0 : Method := { name := "<init>", desc := "()V", sig := { parameters := [], returnType := none }, accessFlags := 1, code := none }
def k11c1 : Code := { maxStack := 3, maxLocals := 3, code := jdk_41_method_11_code, exceptionTable := #[], attributes := #[] }
def k11m1 : Method := { name := "checkIndex", desc := "(IILjava/util/function/BiFunction;)I", sig := { parameters := [.int, .int, (.object "java/util/function/BiFunction")], returnType := some .int }, accessFlags := 9, code := some k11c1 }
/-- jdk/internal/util/Preconditions -/
def k11 : Class := { plain "jdk/internal/util/Preconditions" (some 0) with
  accessFlags := 33
  interfaces := #[]
  cf := some (fileOf pool11 24 #[.nestMembers #[55, 131, 125, 114]] #[{ accessFlags := 1, nameIndex := 5, descriptorIndex := 6, attributes := #[] }, { accessFlags := 9, nameIndex := 33, descriptorIndex := 178, attributes := #[] }] 33 2 #[] #[{ accessFlags := 25, nameIndex := 123, descriptorIndex := 124, attributes := #[] }, { accessFlags := 25, nameIndex := 130, descriptorIndex := 124, attributes := #[] }, { accessFlags := 25, nameIndex := 136, descriptorIndex := 124, attributes := #[] }])
  fields := #[{ name := "SIOOBE_FORMATTER", type := (.object "java/util/function/BiFunction"), accessFlags := 25, slot := 0, constantValue := 0 }, { name := "AIOOBE_FORMATTER", type := (.object "java/util/function/BiFunction"), accessFlags := 25, slot := 1, constantValue := 0 }, { name := "IOOBE_FORMATTER", type := (.object "java/util/function/BiFunction"), accessFlags := 25, slot := 2, constantValue := 0 }]
  methods := #[k11m0, k11m1]
  instanceTypes := #[]
  staticTypes := #[(.object "java/util/function/BiFunction"), (.object "java/util/function/BiFunction"), (.object "java/util/function/BiFunction")]
  resolved := Array.replicate 194 none
  statics := some 1 }

def pool12 : Array CpInfo := pool [(9, u "<init>"), (6, .class_ 18), (1, u "java/lang/Object"), (0, u "()V"), (1, .class_ 23), (1, u "jdk/internal/util/ArraysSupport"), (0, u "LOG2_ARRAY_LONG_INDEX_SCALE"), (0, u "I"), (2, u "U"), (0, u "Ljdk/internal/misc/Unsafe;"), (8, u "BIG_ENDIAN"), (0, u "Z"), (8, u "LOG2_BYTE_BIT_SIZE"), (4, u "LOG2_ARRAY_INT_INDEX_SCALE"), (54, u "JLA"), (0, u "Ljdk/internal/access/JavaLangAccess;"), (11, u "LOG2_ARRAY_BOOLEAN_INDEX_SCALE"), (9, u "LOG2_ARRAY_BYTE_INDEX_SCALE"), (5, u "LOG2_ARRAY_CHAR_INDEX_SCALE"), (5, u "LOG2_ARRAY_SHORT_INDEX_SCALE"), (18, u "LOG2_ARRAY_FLOAT_INDEX_SCALE"), (24, u "LOG2_ARRAY_DOUBLE_INDEX_SCALE"), (89, u "T_BOOLEAN"), (2, u "T_CHAR"), (1, u "T_FLOAT"), (1, u "T_DOUBLE"), (1, u "T_BYTE"), (1, u "T_SHORT"), (1, u "T_INT"), (1, u "T_LONG"), (1, u "SOFT_MAX_ARRAY_LENGTH")] 83

def k12m0 : Method := { name := "<init>", desc := "()V", sig := { parameters := [], returnType := none }, accessFlags := 2, code := none }
/-- jdk/internal/util/ArraysSupport -/
def k12 : Class := { plain "jdk/internal/util/ArraysSupport" (some 0) with
  accessFlags := 33
  interfaces := #[]
  cf := some (fileOf pool12 21 #[] #[{ accessFlags := 2, nameIndex := 9, descriptorIndex := 19, attributes := #[] }] 33 16 #[] #[{ accessFlags := 24, nameIndex := 28, descriptorIndex := 29, attributes := #[] }, { accessFlags := 26, nameIndex := 38, descriptorIndex := 39, attributes := #[] }, { accessFlags := 25, nameIndex := 121, descriptorIndex := 25, attributes := #[] }, { accessFlags := 25, nameIndex := 131, descriptorIndex := 25, attributes := #[] }, { accessFlags := 25, nameIndex := 137, descriptorIndex := 25, attributes := #[] }, { accessFlags := 25, nameIndex := 143, descriptorIndex := 25, attributes := #[] }, { accessFlags := 25, nameIndex := 53, descriptorIndex := 25, attributes := #[] }, { accessFlags := 25, nameIndex := 24, descriptorIndex := 25, attributes := #[] }, { accessFlags := 25, nameIndex := 162, descriptorIndex := 25, attributes := #[] }, { accessFlags := 25, nameIndex := 187, descriptorIndex := 25, attributes := #[] }, { accessFlags := 26, nameIndex := 48, descriptorIndex := 25, attributes := #[] }, { accessFlags := 25, nameIndex := 277, descriptorIndex := 25, attributes := #[] }, { accessFlags := 25, nameIndex := 280, descriptorIndex := 25, attributes := #[] }, { accessFlags := 25, nameIndex := 282, descriptorIndex := 25, attributes := #[] }, { accessFlags := 25, nameIndex := 284, descriptorIndex := 25, attributes := #[] }, { accessFlags := 25, nameIndex := 286, descriptorIndex := 25, attributes := #[] }, { accessFlags := 25, nameIndex := 288, descriptorIndex := 25, attributes := #[] }, { accessFlags := 25, nameIndex := 290, descriptorIndex := 25, attributes := #[] }, { accessFlags := 25, nameIndex := 292, descriptorIndex := 25, attributes := #[] }, { accessFlags := 26, nameIndex := 108, descriptorIndex := 109, attributes := #[] }, { accessFlags := 25, nameIndex := 294, descriptorIndex := 25, attributes := #[] }])
  fields := #[{ name := "U", type := (.object "jdk/internal/misc/Unsafe"), accessFlags := 24, slot := 0, constantValue := 0 }, { name := "BIG_ENDIAN", type := .boolean, accessFlags := 26, slot := 1, constantValue := 0 }, { name := "LOG2_ARRAY_BOOLEAN_INDEX_SCALE", type := .int, accessFlags := 25, slot := 2, constantValue := 0 }, { name := "LOG2_ARRAY_BYTE_INDEX_SCALE", type := .int, accessFlags := 25, slot := 3, constantValue := 0 }, { name := "LOG2_ARRAY_CHAR_INDEX_SCALE", type := .int, accessFlags := 25, slot := 4, constantValue := 0 }, { name := "LOG2_ARRAY_SHORT_INDEX_SCALE", type := .int, accessFlags := 25, slot := 5, constantValue := 0 }, { name := "LOG2_ARRAY_INT_INDEX_SCALE", type := .int, accessFlags := 25, slot := 6, constantValue := 0 }, { name := "LOG2_ARRAY_LONG_INDEX_SCALE", type := .int, accessFlags := 25, slot := 7, constantValue := 0 }, { name := "LOG2_ARRAY_FLOAT_INDEX_SCALE", type := .int, accessFlags := 25, slot := 8, constantValue := 0 }, { name := "LOG2_ARRAY_DOUBLE_INDEX_SCALE", type := .int, accessFlags := 25, slot := 9, constantValue := 0 }, { name := "LOG2_BYTE_BIT_SIZE", type := .int, accessFlags := 26, slot := 10, constantValue := 0 }, { name := "T_BOOLEAN", type := .int, accessFlags := 25, slot := 11, constantValue := 0 }, { name := "T_CHAR", type := .int, accessFlags := 25, slot := 12, constantValue := 0 }, { name := "T_FLOAT", type := .int, accessFlags := 25, slot := 13, constantValue := 0 }, { name := "T_DOUBLE", type := .int, accessFlags := 25, slot := 14, constantValue := 0 }, { name := "T_BYTE", type := .int, accessFlags := 25, slot := 15, constantValue := 0 }, { name := "T_SHORT", type := .int, accessFlags := 25, slot := 16, constantValue := 0 }, { name := "T_INT", type := .int, accessFlags := 25, slot := 17, constantValue := 0 }, { name := "T_LONG", type := .int, accessFlags := 25, slot := 18, constantValue := 0 }, { name := "JLA", type := (.object "jdk/internal/access/JavaLangAccess"), accessFlags := 26, slot := 19, constantValue := 0 }, { name := "SOFT_MAX_ARRAY_LENGTH", type := .int, accessFlags := 25, slot := 20, constantValue := 0 }]
  methods := #[k12m0]
  instanceTypes := #[]
  staticTypes := #[(.object "jdk/internal/misc/Unsafe"), .boolean, .int, .int, .int, .int, .int, .int, .int, .int, .int, .int, .int, .int, .int, .int, .int, .int, .int, (.object "jdk/internal/access/JavaLangAccess"), .int]
  resolved := Array.replicate 378 none
  statics := none }

def pool13 : Array CpInfo := pool [(1, u "java/lang/Cloneable"), (0, .class_ 1), (0, u "java/lang/Object"), (0, .class_ 3)] 3

/-- java/lang/Cloneable -/
def k13 : Class := { plain "java/lang/Cloneable" (some 0) with
  accessFlags := 1537
  interfaces := #[]
  cf := some (fileOf pool13 2 #[] #[] 1537 4 #[] #[])
  fields := #[]
  methods := #[]
  instanceTypes := #[]
  staticTypes := #[]
  resolved := Array.replicate 8 none
  statics := none }

/-- the primitive byte -/
def k14 : Class := { plain "byte" none with kind := .primitive 'B', accessFlags := 0x411 }
/-- [B -/
def k15 : Class := { plain "[B" (some 0) with kind := .array 14 .byte, interfaces := #[13, 2], accessFlags := 1041 }

/-- the primitive char -/
def k16 : Class := { plain "char" none with kind := .primitive 'C', accessFlags := 0x411 }
/-- [C -/
def k17 : Class := { plain "[C" (some 0) with kind := .array 16 .char, interfaces := #[13, 2], accessFlags := 1041 }

/-- the primitive int -/
def k18 : Class := { plain "int" none with kind := .primitive 'I', accessFlags := 0x411 }
/-- [I -/
def k19 : Class := { plain "[I" (some 0) with kind := .array 18 .int, interfaces := #[13, 2], accessFlags := 1041 }

def heap : Heap := #[{ cls := 7, slots := #[.long 0, .int 1, .null, .int 0, .null, .int 0, .int 0], vm := .statics 7 },
  { cls := 11, slots := #[.null, .null, .null], vm := .statics 11 }]
def classes : Array Class := #[k0, k1, k2, k3, k4, k5, k6, k7, k8, k9, k10, k11, k12, k13, k14, k15, k16, k17, k18, k19]
def interned : List (Array UInt16 × Addr) := []
def slotsUsed : Nat := 10
def theMethod : MethodId := ⟨1, 3⟩
def args0 : Array Value := #[.int 5, .int 6, .int 7, .int 8]
def aboutOver (below : List Frame) : State where
  vm := { classes := classes, interned := interned.toArray }
  heap := heap
  slotsUsed := slotsUsed
  threads := #[{ frames := .invoking theMethod args0 :: below }]
def below0 : List Frame := [.native { method := ⟨0, 0⟩, args := #[] }]
def about1 : State := aboutOver below0
def p0 : Program := .bare "" "" ""
def e0 : Env := launch0.env 0 0 0
theorem w_frames : about1.frames = Frame.invoking theMethod args0 :: below0 := rfl
set_option maxRecDepth 65536 in
theorem w_args : argsFit about1.vm theMethod args0 = true := by decide +kernel
set_option maxRecDepth 65536 in
theorem w_heap : heapFits about1 = true := by decide +kernel
set_option maxRecDepth 65536 in
theorem w_runnable : about1.curStatus? = some .runnable := by decide +kernel
set_option maxRecDepth 65536 in
theorem w_alone : about1.alone = true := by decide +kernel
set_option maxRecDepth 65536 in
theorem w_named : about1.methodNamed? x = some theMethod := by decide +kernel
set_option maxRecDepth 65536 in
theorem w_hears : about1.hears theMethod below0 = true := by decide +kernel
set_option maxRecDepth 65536 in
theorem w_ripe : about1.ripe theMethod args0 below0 = true := by decide +kernel
theorem w_running : about1.status = .running := rfl
set_option maxRecDepth 65536 in
theorem w_room : about1.hasRoom e0.platform room_1 = true :=
  launch0.hasRoom_least _ room_1 (by decide +kernel) (by decide +kernel) (by decide +kernel) (by decide +kernel) (by decide +kernel) (by decide +kernel)
theorem allAtoms_all (ts : List Jvm.Cond) (a : Array Jvm.Value) (st : Jvm.State) : (allAtoms ts).before a st = ts.all (fun c => c.before a st) := by
  induction ts with
  | nil => rfl
  | cons c t ih =>
    show (Jvm.Cond.and c (allAtoms t)).before a st = _
    rw [Jvm.Cond.before_and, ih, List.all_cons]
def words1 : List Jvm.Cond := Jvm.Cond.code x code maxLocals ret :: tables_1
/-- a 'code' word, met by the world's own term for the bytes: nothing is compared byte by byte -/
theorem code_word {y : MethodName} {bytes : ByteArray} {mx : Nat} {rt : Option FieldType} {a : Array Value} {s : State} {m : MethodId} {meth : Method} {c : Code} (h1 : s.methodNamed? y = some m) (h2 : s.vm.method? m = some meth) (h3 : meth.code = some c) (h4 : c.code = bytes)
    (h5 : (c.maxLocals == mx && c.exceptionTable.isEmpty && decide (c.maxStack ≤ mostOperands) && decide (meth.sig.returnType = rt) && !meth.locks && decide (parseMethodDescriptor y.desc = some meth.sig)) = true) : (Jvm.Cond.code y bytes mx rt).before a s = true := by
  simp only [Bool.and_eq_true, beq_iff_eq, Bool.not_eq_true', decide_eq_true_eq] at h5
  obtain ⟨⟨⟨⟨⟨g1, g2⟩, g3⟩, g4⟩, g5⟩, g6⟩ := h5
  simp [Cond.before, Cond.holds, Cond.value, h1, h2, h3, h4, g1, g2, g3, g4, g5, g6]
def isCode : Jvm.Cond → Bool
  | .code _ _ _ _ => true
  | _ => false
theorem all_split {L : List Jvm.Cond} {P : Jvm.Cond → Bool} (h1 : L.all (fun c => isCode c || P c) = true) (h2 : ∀ c ∈ L.filter isCode, P c = true) : L.all P = true := by
  refine List.all_eq_true.mpr fun c hc => ?_
  have h := List.all_eq_true.mp h1 c hc
  rcases Bool.eq_false_or_eq_true (isCode c) with hi | hi
  · exact h2 c (List.mem_filter.mpr ⟨hc, hi⟩)
  · simpa [hi] using h
set_option maxRecDepth 65536 in
theorem w_c0 : (Jvm.Cond.code x code maxLocals ret).before args0 about1 = true := code_word (m := ⟨1, 3⟩) (meth := k1m3) (c := k1c3) (by decide +kernel) rfl rfl rfl (by decide +kernel)
set_option maxRecDepth 65536 in
theorem w_c1 : (Jvm.Cond.code ({ cls := "com/example/paylode/paylode/header/HeaderReaderAtEndPinLaw", name := "draw", desc := "(I)C" } : Jvm.MethodName) method_2_code (1 : Nat) (Option.some Jvm.ClassFile.FieldType.char)).before args0 about1 = true := code_word (m := ⟨1, 1⟩) (meth := k1m1) (c := k1c1) (by decide +kernel) rfl rfl rfl (by decide +kernel)
set_option maxRecDepth 65536 in
theorem w_c2 : (Jvm.Cond.code ({ cls := "java/lang/String", name := "<init>", desc := "([C)V" } : Jvm.MethodName) jdk_42_method_3_code (2 : Nat) (Option.none : Option Jvm.ClassFile.FieldType)).before args0 about1 = true := code_word (m := ⟨7, 1⟩) (meth := k7m1) (c := k7c1) (by decide +kernel) rfl rfl rfl (by decide +kernel)
set_option maxRecDepth 65536 in
theorem w_c3 : (Jvm.Cond.code ({ cls := "java/lang/String", name := "<init>", desc := "([CIILjava/lang/Void;)V" } : Jvm.MethodName) jdk_42_method_149_code (6 : Nat) (Option.none : Option Jvm.ClassFile.FieldType)).before args0 about1 = true := code_word (m := ⟨7, 4⟩) (meth := k7m4) (c := k7c4) (by decide +kernel) rfl rfl rfl (by decide +kernel)
set_option maxRecDepth 65536 in
theorem w_c4 : (Jvm.Cond.code ({ cls := "java/lang/Object", name := "<init>", desc := "()V" } : Jvm.MethodName) object_method_1_code (1 : Nat) (Option.none : Option Jvm.ClassFile.FieldType)).before args0 about1 = true := code_word (m := ⟨0, 0⟩) (meth := k0m0) (c := k0c0) (by decide +kernel) rfl rfl rfl (by decide +kernel)
set_option maxRecDepth 65536 in
theorem w_c5 : (Jvm.Cond.code ({ cls := "com/example/paylode/paylode/header/HeaderReader", name := "<init>", desc := "(Ljava/lang/String;Ljava/lang/String;)V" } : Jvm.MethodName) prog_4_method_1_code (3 : Nat) (Option.none : Option Jvm.ClassFile.FieldType)).before args0 about1 = true := code_word (m := ⟨8, 0⟩) (meth := k8m0) (c := k8c0) (by decide +kernel) rfl rfl rfl (by decide +kernel)
set_option maxRecDepth 65536 in
theorem w_c6 : (Jvm.Cond.code ({ cls := "com/example/paylode/paylode/header/HeaderReader", name := "position", desc := "()I" } : Jvm.MethodName) prog_4_method_2_code (1 : Nat) (Option.some Jvm.ClassFile.FieldType.int)).before args0 about1 = true := code_word (m := ⟨8, 1⟩) (meth := k8m1) (c := k8c1) (by decide +kernel) rfl rfl rfl (by decide +kernel)
set_option maxRecDepth 65536 in
theorem w_c7 : (Jvm.Cond.code ({ cls := "com/example/paylode/paylode/header/HeaderReader", name := "atEnd", desc := "()Z" } : Jvm.MethodName) prog_4_method_3_code (1 : Nat) (Option.some Jvm.ClassFile.FieldType.boolean)).before args0 about1 = true := code_word (m := ⟨8, 2⟩) (meth := k8m2) (c := k8c2) (by decide +kernel) rfl rfl rfl (by decide +kernel)
set_option maxRecDepth 65536 in
theorem w_c8 : (Jvm.Cond.code ({ cls := "java/lang/String", name := "length", desc := "()I" } : Jvm.MethodName) jdk_42_method_54_code (1 : Nat) (Option.some Jvm.ClassFile.FieldType.int)).before args0 about1 = true := code_word (m := ⟨7, 2⟩) (meth := k7m2) (c := k7c2) (by decide +kernel) rfl rfl rfl (by decide +kernel)
set_option maxRecDepth 65536 in
theorem w_c9 : (Jvm.Cond.code ({ cls := "java/lang/String", name := "coder", desc := "()B" } : Jvm.MethodName) jdk_42_method_152_code (1 : Nat) (Option.some Jvm.ClassFile.FieldType.byte)).before args0 about1 = true := code_word (m := ⟨7, 5⟩) (meth := k7m5) (c := k7c5) (by decide +kernel) rfl rfl rfl (by decide +kernel)
set_option maxRecDepth 65536 in
theorem w_c10 : (Jvm.Cond.code ({ cls := "com/example/paylode/paylode/header/HeaderReader", name := "skipWhitespace", desc := "()V" } : Jvm.MethodName) prog_4_method_5_code (1 : Nat) (Option.none : Option Jvm.ClassFile.FieldType)).before args0 about1 = true := code_word (m := ⟨8, 4⟩) (meth := k8m4) (c := k8c4) (by decide +kernel) rfl rfl rfl (by decide +kernel)
set_option maxRecDepth 65536 in
theorem w_c11 : (Jvm.Cond.code ({ cls := "com/example/paylode/paylode/header/HeaderReader", name := "at", desc := "(C)Z" } : Jvm.MethodName) prog_4_method_4_code (2 : Nat) (Option.some Jvm.ClassFile.FieldType.boolean)).before args0 about1 = true := code_word (m := ⟨8, 3⟩) (meth := k8m3) (c := k8c3) (by decide +kernel) rfl rfl rfl (by decide +kernel)
set_option maxRecDepth 65536 in
theorem w_c12 : (Jvm.Cond.code ({ cls := "java/lang/StringUTF16", name := "compress", desc := "([CII)[B" } : Jvm.MethodName) jdk_52_method_16_code (6 : Nat) (Option.some (Jvm.ClassFile.FieldType.array Jvm.ClassFile.FieldType.byte))).before args0 about1 = true := code_word (m := ⟨9, 2⟩) (meth := k9m2) (c := k9c2) (by decide +kernel) rfl rfl rfl (by decide +kernel)
set_option maxRecDepth 65536 in
theorem w_c13 : (Jvm.Cond.code ({ cls := "java/lang/StringUTF16", name := "compress", desc := "([CI[BII)I" } : Jvm.MethodName) jdk_52_method_21_code (7 : Nat) (Option.some Jvm.ClassFile.FieldType.int)).before args0 about1 = true := code_word (m := ⟨9, 3⟩) (meth := k9m3) (c := k9c3) (by decide +kernel) rfl rfl rfl (by decide +kernel)
set_option maxRecDepth 65536 in
theorem w_c14 : (Jvm.Cond.code ({ cls := "java/lang/StringUTF16", name := "coderFromArrayLen", desc := "([BI)B" } : Jvm.MethodName) jdk_52_method_15_code (2 : Nat) (Option.some Jvm.ClassFile.FieldType.byte)).before args0 about1 = true := code_word (m := ⟨9, 1⟩) (meth := k9m1) (c := k9c1) (by decide +kernel) rfl rfl rfl (by decide +kernel)
set_option maxRecDepth 65536 in
theorem w_c15 : (Jvm.Cond.code ({ cls := "com/example/paylode/paylode/header/HeaderReaderAtEndPinLaw", name := "ws", desc := "(C)Z" } : Jvm.MethodName) method_3_code (1 : Nat) (Option.some Jvm.ClassFile.FieldType.boolean)).before args0 about1 = true := code_word (m := ⟨1, 2⟩) (meth := k1m2) (c := k1c2) (by decide +kernel) rfl rfl rfl (by decide +kernel)
set_option maxRecDepth 65536 in
theorem w_c16 : (Jvm.Cond.code ({ cls := "java/lang/String", name := "charAt", desc := "(I)C" } : Jvm.MethodName) jdk_42_method_56_code (2 : Nat) (Option.some Jvm.ClassFile.FieldType.char)).before args0 about1 = true := code_word (m := ⟨7, 3⟩) (meth := k7m3) (c := k7c3) (by decide +kernel) rfl rfl rfl (by decide +kernel)
set_option maxRecDepth 65536 in
theorem w_c17 : (Jvm.Cond.code ({ cls := "java/lang/String", name := "isLatin1", desc := "()Z" } : Jvm.MethodName) jdk_42_method_154_code (1 : Nat) (Option.some Jvm.ClassFile.FieldType.boolean)).before args0 about1 = true := code_word (m := ⟨7, 6⟩) (meth := k7m6) (c := k7c6) (by decide +kernel) rfl rfl rfl (by decide +kernel)
set_option maxRecDepth 65536 in
theorem w_c18 : (Jvm.Cond.code ({ cls := "java/lang/StringLatin1", name := "charAt", desc := "([BI)C" } : Jvm.MethodName) jdk_43_method_2_code (2 : Nat) (Option.some Jvm.ClassFile.FieldType.char)).before args0 about1 = true := code_word (m := ⟨10, 1⟩) (meth := k10m1) (c := k10c1) (by decide +kernel) rfl rfl rfl (by decide +kernel)
set_option maxRecDepth 65536 in
theorem w_c19 : (Jvm.Cond.code ({ cls := "java/lang/String", name := "checkIndex", desc := "(II)V" } : Jvm.MethodName) jdk_42_method_155_code (2 : Nat) (Option.none : Option Jvm.ClassFile.FieldType)).before args0 about1 = true := code_word (m := ⟨7, 7⟩) (meth := k7m7) (c := k7c7) (by decide +kernel) rfl rfl rfl (by decide +kernel)
set_option maxRecDepth 65536 in
theorem w_c20 : (Jvm.Cond.code ({ cls := "jdk/internal/util/Preconditions", name := "checkIndex", desc := "(IILjava/util/function/BiFunction;)I" } : Jvm.MethodName) jdk_41_method_11_code (3 : Nat) (Option.some Jvm.ClassFile.FieldType.int)).before args0 about1 = true := code_word (m := ⟨11, 1⟩) (meth := k11m1) (c := k11c1) (by decide +kernel) rfl rfl rfl (by decide +kernel)
set_option maxRecDepth 65536 in
theorem w_c21 : (Jvm.Cond.code ({ cls := "com/example/paylode/paylode/header/HeaderReader", name := "expect", desc := "(C)V" } : Jvm.MethodName) prog_4_method_6_code (2 : Nat) (Option.none : Option Jvm.ClassFile.FieldType)).before args0 about1 = true := code_word (m := ⟨8, 5⟩) (meth := k8m5) (c := k8c5) (by decide +kernel) rfl rfl rfl (by decide +kernel)
def codes1 : List Jvm.Cond := [Jvm.Cond.code x code maxLocals ret, Jvm.Cond.code ({ cls := "com/example/paylode/paylode/header/HeaderReaderAtEndPinLaw", name := "draw", desc := "(I)C" } : Jvm.MethodName) method_2_code (1 : Nat) (Option.some Jvm.ClassFile.FieldType.char), Jvm.Cond.code ({ cls := "java/lang/String", name := "<init>", desc := "([C)V" } : Jvm.MethodName) jdk_42_method_3_code (2 : Nat) (Option.none : Option Jvm.ClassFile.FieldType), Jvm.Cond.code ({ cls := "java/lang/String", name := "<init>", desc := "([CIILjava/lang/Void;)V" } : Jvm.MethodName) jdk_42_method_149_code (6 : Nat) (Option.none : Option Jvm.ClassFile.FieldType), Jvm.Cond.code ({ cls := "java/lang/Object", name := "<init>", desc := "()V" } : Jvm.MethodName) object_method_1_code (1 : Nat) (Option.none : Option Jvm.ClassFile.FieldType), Jvm.Cond.code ({ cls := "com/example/paylode/paylode/header/HeaderReader", name := "<init>", desc := "(Ljava/lang/String;Ljava/lang/String;)V" } : Jvm.MethodName) prog_4_method_1_code (3 : Nat) (Option.none : Option Jvm.ClassFile.FieldType), Jvm.Cond.code ({ cls := "com/example/paylode/paylode/header/HeaderReader", name := "position", desc := "()I" } : Jvm.MethodName) prog_4_method_2_code (1 : Nat) (Option.some Jvm.ClassFile.FieldType.int), Jvm.Cond.code ({ cls := "com/example/paylode/paylode/header/HeaderReader", name := "atEnd", desc := "()Z" } : Jvm.MethodName) prog_4_method_3_code (1 : Nat) (Option.some Jvm.ClassFile.FieldType.boolean), Jvm.Cond.code ({ cls := "java/lang/String", name := "length", desc := "()I" } : Jvm.MethodName) jdk_42_method_54_code (1 : Nat) (Option.some Jvm.ClassFile.FieldType.int), Jvm.Cond.code ({ cls := "java/lang/String", name := "coder", desc := "()B" } : Jvm.MethodName) jdk_42_method_152_code (1 : Nat) (Option.some Jvm.ClassFile.FieldType.byte), Jvm.Cond.code ({ cls := "com/example/paylode/paylode/header/HeaderReader", name := "skipWhitespace", desc := "()V" } : Jvm.MethodName) prog_4_method_5_code (1 : Nat) (Option.none : Option Jvm.ClassFile.FieldType), Jvm.Cond.code ({ cls := "com/example/paylode/paylode/header/HeaderReader", name := "at", desc := "(C)Z" } : Jvm.MethodName) prog_4_method_4_code (2 : Nat) (Option.some Jvm.ClassFile.FieldType.boolean), Jvm.Cond.code ({ cls := "java/lang/StringUTF16", name := "compress", desc := "([CII)[B" } : Jvm.MethodName) jdk_52_method_16_code (6 : Nat) (Option.some (Jvm.ClassFile.FieldType.array Jvm.ClassFile.FieldType.byte)), Jvm.Cond.code ({ cls := "java/lang/StringUTF16", name := "compress", desc := "([CI[BII)I" } : Jvm.MethodName) jdk_52_method_21_code (7 : Nat) (Option.some Jvm.ClassFile.FieldType.int), Jvm.Cond.code ({ cls := "java/lang/StringUTF16", name := "coderFromArrayLen", desc := "([BI)B" } : Jvm.MethodName) jdk_52_method_15_code (2 : Nat) (Option.some Jvm.ClassFile.FieldType.byte), Jvm.Cond.code ({ cls := "com/example/paylode/paylode/header/HeaderReaderAtEndPinLaw", name := "ws", desc := "(C)Z" } : Jvm.MethodName) method_3_code (1 : Nat) (Option.some Jvm.ClassFile.FieldType.boolean), Jvm.Cond.code ({ cls := "java/lang/String", name := "charAt", desc := "(I)C" } : Jvm.MethodName) jdk_42_method_56_code (2 : Nat) (Option.some Jvm.ClassFile.FieldType.char), Jvm.Cond.code ({ cls := "java/lang/String", name := "isLatin1", desc := "()Z" } : Jvm.MethodName) jdk_42_method_154_code (1 : Nat) (Option.some Jvm.ClassFile.FieldType.boolean), Jvm.Cond.code ({ cls := "java/lang/StringLatin1", name := "charAt", desc := "([BI)C" } : Jvm.MethodName) jdk_43_method_2_code (2 : Nat) (Option.some Jvm.ClassFile.FieldType.char), Jvm.Cond.code ({ cls := "java/lang/String", name := "checkIndex", desc := "(II)V" } : Jvm.MethodName) jdk_42_method_155_code (2 : Nat) (Option.none : Option Jvm.ClassFile.FieldType), Jvm.Cond.code ({ cls := "jdk/internal/util/Preconditions", name := "checkIndex", desc := "(IILjava/util/function/BiFunction;)I" } : Jvm.MethodName) jdk_41_method_11_code (3 : Nat) (Option.some Jvm.ClassFile.FieldType.int), Jvm.Cond.code ({ cls := "com/example/paylode/paylode/header/HeaderReader", name := "expect", desc := "(C)V" } : Jvm.MethodName) prog_4_method_6_code (2 : Nat) (Option.none : Option Jvm.ClassFile.FieldType)]
set_option maxRecDepth 65536 in
theorem codes_eq : words1.filter isCode = codes1 := rfl
theorem w_codes : ∀ c ∈ words1.filter isCode, c.before args0 about1 = true := by
  rw [codes_eq]
  intro c hc
  simp only [codes1, List.mem_cons, List.not_mem_nil, or_false] at hc
  rcases hc with rfl | rfl | rfl | rfl | rfl | rfl | rfl | rfl | rfl | rfl | rfl | rfl | rfl | rfl | rfl | rfl | rfl | rfl | rfl | rfl | rfl | rfl
  · exact w_c0
  · exact w_c1
  · exact w_c2
  · exact w_c3
  · exact w_c4
  · exact w_c5
  · exact w_c6
  · exact w_c7
  · exact w_c8
  · exact w_c9
  · exact w_c10
  · exact w_c11
  · exact w_c12
  · exact w_c13
  · exact w_c14
  · exact w_c15
  · exact w_c16
  · exact w_c17
  · exact w_c18
  · exact w_c19
  · exact w_c20
  · exact w_c21
set_option maxRecDepth 65536 in
theorem w_t1 : (words1.take 24).all (fun c => isCode c || c.before args0 about1) = true := by decide +kernel
set_option maxRecDepth 65536 in
theorem w_t2 : ((words1.drop 24).take 24).all (fun c => isCode c || c.before args0 about1) = true := by decide +kernel
set_option maxRecDepth 65536 in
theorem w_t3 : (((words1.drop 24).drop 24).take 24).all (fun c => isCode c || c.before args0 about1) = true := by decide +kernel
set_option maxRecDepth 65536 in
theorem w_t4 : ((((words1.drop 24).drop 24).drop 24).take 24).all (fun c => isCode c || c.before args0 about1) = true := by decide +kernel
set_option maxRecDepth 65536 in
theorem w_t5 : ((((words1.drop 24).drop 24).drop 24).drop 24).all (fun c => isCode c || c.before args0 about1) = true := by decide +kernel
theorem w_tables : (allAtoms (Jvm.Cond.code x code maxLocals ret :: tables_1)).before args0 about1 = true := by
  rw [allAtoms_all]
  show words1.all (fun c => c.before args0 about1) = true
  refine all_split ?_ w_codes
  rw [← List.take_append_drop 24 words1, List.all_append, w_t1, ← List.take_append_drop 24 (words1.drop 24), List.all_append, w_t2, ← List.take_append_drop 24 ((words1.drop 24).drop 24), List.all_append, w_t3, ← List.take_append_drop 24 (((words1.drop 24).drop 24).drop 24), List.all_append, w_t4, w_t5]
  rfl
set_option maxRecDepth 65536 in
theorem w_rest : rest_1_c.before args0 about1 = true := by decide +kernel
set_option maxRecDepth 65536 in
theorem w_case : (Jvm.Cond.and given_1 narrow_1).before args0 about1 = true := by decide +kernel
set_option maxRecDepth 65536 in
theorem w_consts : constsHeld consts_1 about1 := Jvm.Lit.constsHeldB_iff.mp (by decide +kernel)
theorem w_applies : (headSpec (Jvm.Cond.code x code maxLocals ret :: tables_1) room_1).applies x e0.platform about1 = true :=
  (Spec.applies_iff w_frames).mpr ⟨w_running, w_runnable, w_alone, w_named, w_hears, w_ripe, w_room, w_tables⟩
theorem atStart : AtStart classFile x code maxLocals ret World_1 tables_1 room_1 Calls_1 rest_1 Pre_1 launch0 p0 e0 about1 theMethod args0 below0 :=
  ⟨lists_1, trivial, launch0.admits_env _ _ _, launch0.least_env, fairChoices_fair.cas, fairChoices_fair.clock, w_frames, w_args, w_heap, w_applies, ⟨w_consts, trivial⟩, w_rest, w_case⟩
end start1
theorem witness_1 : WitnessClaimed_1 := ⟨start1.p0, start1.e0, start1.about1, start1.theMethod, start1.args0, start1.below0, start1.atStart⟩
end Jvm.Pilot.@@N@@
