import JvmDerived
import JvmDerived.Pilot.@@N@@Statement
import JvmDerived.Pilot.@@N@@Code
set_option linter.unusedVariables false
set_option linter.unusedSimpArgs false
namespace Jvm.Pilot.@@N@@
open Jvm Jvm.ClassFile Sem Op Lib Jvm.Free Jvm.Stand Jvm.LawKit Jvm.RoadKit Bundle Jvm.Pilot.@@N@@.Jvm.D
/-- Java's shifts -/
def shlI (x y : Int32) : Int32 := x <<< (y &&& 31)
def shrI (x y : Int32) : Int32 := x >>> (y &&& 31)
def ushrI (x y : Int32) : Int32 := (x.toUInt32 >>> (y &&& 31).toUInt32).toInt32
def shlJ (x : Int64) (y : Int32) : Int64 := x <<< (y &&& 0x3f).toInt64
def shrJ (x : Int64) (y : Int32) : Int64 := x >>> (y &&& 0x3f).toInt64
def ushrJ (x : Int64) (y : Int32) : Int64 := (x.toUInt64 >>> (y &&& 0x3f).toInt64.toUInt64).toInt64
section Kit
variable {p : Program} {l : Launch} {e : Env} {R : Room} {s : State} {m : MethodId} {args : Array Value} {below : List Frame} {meth : Method} {c : ClassFile.Code} {Z : State} {a0 : Array Value} {n0 : Nat} {Q : Option Value → Heap → Prop} {K N : Nat} {h : Heap} {k n : Nat} {own : String} {bytes : ByteArray} {maxl : Nat} {ret : Option FieldType} {nm : String} {pc pc' pc1 pct : Nat} {Ls : Array Slot} {st : List Value}
/-- the run from T0 comes back with a value and a heap of which Q holds, having written nothing below n0 -/
def Ends (p : Program) (e : Env) (below : List Frame) (s : State) (n0 : Nat) (Q : Option Value → Heap → Prop) (K N : Nat) (T0 : State) : Prop :=
  ∃ t o, Steps p.tables e below T0 t ∧ t.status = .running ∧ Ended t below o ∧ ∃ v L, o = .returned v ∧ (Q v t.heap ∧ Fr n0 L) ∧ FrameEnd s o t L K N
/-- from every state of this invocation whose heap is h and whose top frame is f the run comes back so -/
def Go (p : Program) (l : Launch) (e : Env) (R : Room) (s : State) (m : MethodId) (args : Array Value) (below : List Frame) (meth : Method) (c : ClassFile.Code) (n0 : Nat) (Q : Option Value → Heap → Prop) (K N : Nat) (h : Heap) (k n : Nat) (f : JFrame) : Prop :=
  ∀ T L, Fr n0 L → Stand p l e R s m args below meth c T L k n → T.heap = h → Ends p e below s n0 Q K N (T.setTop f)
/-- what is known of the invocation throughout -/
def Cx (p : Program) (s : State) (m : MethodId) (meth : Method) (c : ClassFile.Code) (Z : State) (n0 : Nat) (own : String) (bytes : ByteArray) (maxl : Nat) (ret : Option FieldType) (nm : String) : Prop :=
  p.tables.exec = Jvm.exec ∧ Z.Warmed39 s.vm ∧ s.vm.findClass own = some m.cls ∧ c.code = bytes ∧ c.maxLocals = maxl ∧ meth.sig.returnType = ret ∧ meth.locks = false ∧ meth.name = nm ∧ n0 ≤ s.heap.size
def In (b : ByteArray) (pc len : Nat) (i : Instr) (pc' : Nat) : Prop := decode b pc = .ok (i, len) ∧ pc' = pc + len
def Jm (b : ByteArray) (pc : Nat) (i : Int → Instr) (pc' pct : Nat) : Prop := ∃ o, decode b pc = .ok (i o, 3) ∧ pc' = pc + 3 ∧ 0 ≤ (pc : Int) + o ∧ ((pc : Int) + o).toNat = pct
theorem g_st {f f' : JFrame} (H : ∀ {T L}, Stand p l e R s m args below meth c T L k n → T.heap = h → ∀ t, Steps p.tables e below (T.setTop f') t → Steps p.tables e below (T.setTop f) t) (G : Go p l e R s m args below meth c n0 Q K N h k n (f')) : Go p l e R s m args below meth c n0 Q K N h k n f := fun T L hL X eT => by
  obtain ⟨t, o, h1, h2⟩ := G T L hL X eT
  exact ⟨t, o, H X eT t h1, h2⟩
theorem g_cast {f f' : JFrame} (q : f = f') (G : Go p l e R s m args below meth c n0 Q K N h k n (f')) : Go p l e R s m args below meth c n0 Q K N h k n f := q ▸ G
theorem g_more {k' n' : Nat} {f : JFrame} (hk : k ≤ k') (hn : n ≤ n') (G : Go p l e R s m args below meth c n0 Q K N h (k') (n') f) : Go p l e R s m args below meth c n0 Q K N h k n f := fun T L hL X eT => G T L hL (X.more hk hn) eT
theorem Stand.up {T : State} {L : List Loc} (X : Stand p l e R s m args below meth c T L k n) : s.heap.size ≤ T.heap.size := by
  exact X.same.2.1
theorem g_iadd (C : Cx p s m meth c Z n0 own bytes maxl ret nm) {x y : Int32} (d : In bytes pc 1 (.iadd) pc') (G : Go p l e R s m args below meth c n0 Q K N h k n (mkF m pc' Ls (.int (x + y) :: st))) : Go p l e R s m args below meth c n0 Q K N h k n (mkF m pc Ls (.int y :: .int x :: st)) := by
  obtain ⟨d, rfl⟩ := d
  exact g_st (fun X _ t kt => XS.iadd X.here C.1 rfl (hb C.2.2.2.1 d) rfl kt) G
theorem g_isub (C : Cx p s m meth c Z n0 own bytes maxl ret nm) {x y : Int32} (d : In bytes pc 1 (.isub) pc') (G : Go p l e R s m args below meth c n0 Q K N h k n (mkF m pc' Ls (.int (x - y) :: st))) : Go p l e R s m args below meth c n0 Q K N h k n (mkF m pc Ls (.int y :: .int x :: st)) := by
  obtain ⟨d, rfl⟩ := d
  exact g_st (fun X _ t kt => XS.isub X.here C.1 rfl (hb C.2.2.2.1 d) rfl kt) G
theorem g_imul (C : Cx p s m meth c Z n0 own bytes maxl ret nm) {x y : Int32} (d : In bytes pc 1 (.imul) pc') (G : Go p l e R s m args below meth c n0 Q K N h k n (mkF m pc' Ls (.int (x * y) :: st))) : Go p l e R s m args below meth c n0 Q K N h k n (mkF m pc Ls (.int y :: .int x :: st)) := by
  obtain ⟨d, rfl⟩ := d
  exact g_st (fun X _ t kt => XS.imul X.here C.1 rfl (hb C.2.2.2.1 d) rfl kt) G
theorem g_iand (C : Cx p s m meth c Z n0 own bytes maxl ret nm) {x y : Int32} (d : In bytes pc 1 (.iand) pc') (G : Go p l e R s m args below meth c n0 Q K N h k n (mkF m pc' Ls (.int (x &&& y) :: st))) : Go p l e R s m args below meth c n0 Q K N h k n (mkF m pc Ls (.int y :: .int x :: st)) := by
  obtain ⟨d, rfl⟩ := d
  exact g_st (fun X _ t kt => XS.iand X.here C.1 rfl (hb C.2.2.2.1 d) rfl kt) G
theorem g_ior (C : Cx p s m meth c Z n0 own bytes maxl ret nm) {x y : Int32} (d : In bytes pc 1 (.ior) pc') (G : Go p l e R s m args below meth c n0 Q K N h k n (mkF m pc' Ls (.int (x ||| y) :: st))) : Go p l e R s m args below meth c n0 Q K N h k n (mkF m pc Ls (.int y :: .int x :: st)) := by
  obtain ⟨d, rfl⟩ := d
  exact g_st (fun X _ t kt => XS.ior X.here C.1 rfl (hb C.2.2.2.1 d) rfl kt) G
theorem g_ixor (C : Cx p s m meth c Z n0 own bytes maxl ret nm) {x y : Int32} (d : In bytes pc 1 (.ixor) pc') (G : Go p l e R s m args below meth c n0 Q K N h k n (mkF m pc' Ls (.int (x ^^^ y) :: st))) : Go p l e R s m args below meth c n0 Q K N h k n (mkF m pc Ls (.int y :: .int x :: st)) := by
  obtain ⟨d, rfl⟩ := d
  exact g_st (fun X _ t kt => XS.ixor X.here C.1 rfl (hb C.2.2.2.1 d) rfl kt) G
theorem g_idiv (C : Cx p s m meth c Z n0 own bytes maxl ret nm) {x y : Int32} (d : In bytes pc 1 (.idiv) pc') (hy : y ≠ 0) (G : Go p l e R s m args below meth c n0 Q K N h k n (mkF m pc' Ls (.int (x / y) :: st))) : Go p l e R s m args below meth c n0 Q K N h k n (mkF m pc Ls (.int y :: .int x :: st)) := by
  obtain ⟨d, rfl⟩ := d
  exact g_st (fun X _ t kt => XS.idiv X.here C.1 rfl (hb C.2.2.2.1 d) rfl hy kt) G
theorem g_irem (C : Cx p s m meth c Z n0 own bytes maxl ret nm) {x y : Int32} (d : In bytes pc 1 (.irem) pc') (hy : y ≠ 0) (G : Go p l e R s m args below meth c n0 Q K N h k n (mkF m pc' Ls (.int (x - (x / y) * y) :: st))) : Go p l e R s m args below meth c n0 Q K N h k n (mkF m pc Ls (.int y :: .int x :: st)) := by
  obtain ⟨d, rfl⟩ := d
  exact g_st (fun X _ t kt => XS.irem X.here C.1 rfl (hb C.2.2.2.1 d) rfl hy kt) G
theorem g_iload (C : Cx p s m meth c Z n0 own bytes maxl ret nm) {i : Nat} {v : Int32} (d : In bytes pc 2 (.iload i) pc') (hl : Ls[i]? = some (.val (.int v))) (G : Go p l e R s m args below meth c n0 Q K N h k n (mkF m pc' Ls (.int v :: st))) : Go p l e R s m args below meth c n0 Q K N h k n (mkF m pc Ls st) := by
  obtain ⟨d, rfl⟩ := d
  exact g_st (fun X _ t kt => XS.iload X.here C.1 rfl (hb C.2.2.2.1 d) hl kt) G
theorem g_iloadN (C : Cx p s m meth c Z n0 own bytes maxl ret nm) {i : Fin 4} {v : Int32} (d : In bytes pc 1 (.iload_n i) pc') (hl : Ls[i.val]? = some (.val (.int v))) (G : Go p l e R s m args below meth c n0 Q K N h k n (mkF m pc' Ls (.int v :: st))) : Go p l e R s m args below meth c n0 Q K N h k n (mkF m pc Ls st) := by
  obtain ⟨d, rfl⟩ := d
  exact g_st (fun X _ t kt => XS.iloadN X.here C.1 rfl (hb C.2.2.2.1 d) hl kt) G
theorem g_istore (C : Cx p s m meth c Z n0 own bytes maxl ret nm) {i : Nat} {x : Int32} (l' : Array Slot) (d : In bytes pc 2 (.istore i) pc') (hl : storeLocals Ls i (.int x) = some l') (G : Go p l e R s m args below meth c n0 Q K N h k n (mkF m pc' l' st)) : Go p l e R s m args below meth c n0 Q K N h k n (mkF m pc Ls (.int x :: st)) := by
  obtain ⟨d, rfl⟩ := d
  exact g_st (fun X _ t kt => XS.istore X.here C.1 rfl (hb C.2.2.2.1 d) rfl hl kt) G
theorem g_istoreN (C : Cx p s m meth c Z n0 own bytes maxl ret nm) {i : Fin 4} {x : Int32} (l' : Array Slot) (d : In bytes pc 1 (.istore_n i) pc') (hl : storeLocals Ls i.val (.int x) = some l') (G : Go p l e R s m args below meth c n0 Q K N h k n (mkF m pc' l' st)) : Go p l e R s m args below meth c n0 Q K N h k n (mkF m pc Ls (.int x :: st)) := by
  obtain ⟨d, rfl⟩ := d
  exact g_st (fun X _ t kt => XS.istoreN X.here C.1 rfl (hb C.2.2.2.1 d) rfl hl kt) G
theorem g_ladd (C : Cx p s m meth c Z n0 own bytes maxl ret nm) {x y : Int64} (d : In bytes pc 1 (.ladd) pc') (G : Go p l e R s m args below meth c n0 Q K N h k n (mkF m pc' Ls (.long (x + y) :: st))) : Go p l e R s m args below meth c n0 Q K N h k n (mkF m pc Ls (.long y :: .long x :: st)) := by
  obtain ⟨d, rfl⟩ := d
  exact g_st (fun X _ t kt => XS.ladd X.here C.1 rfl (hb C.2.2.2.1 d) rfl kt) G
theorem g_lsub (C : Cx p s m meth c Z n0 own bytes maxl ret nm) {x y : Int64} (d : In bytes pc 1 (.lsub) pc') (G : Go p l e R s m args below meth c n0 Q K N h k n (mkF m pc' Ls (.long (x - y) :: st))) : Go p l e R s m args below meth c n0 Q K N h k n (mkF m pc Ls (.long y :: .long x :: st)) := by
  obtain ⟨d, rfl⟩ := d
  exact g_st (fun X _ t kt => XS.lsub X.here C.1 rfl (hb C.2.2.2.1 d) rfl kt) G
theorem g_lmul (C : Cx p s m meth c Z n0 own bytes maxl ret nm) {x y : Int64} (d : In bytes pc 1 (.lmul) pc') (G : Go p l e R s m args below meth c n0 Q K N h k n (mkF m pc' Ls (.long (x * y) :: st))) : Go p l e R s m args below meth c n0 Q K N h k n (mkF m pc Ls (.long y :: .long x :: st)) := by
  obtain ⟨d, rfl⟩ := d
  exact g_st (fun X _ t kt => XS.lmul X.here C.1 rfl (hb C.2.2.2.1 d) rfl kt) G
theorem g_land (C : Cx p s m meth c Z n0 own bytes maxl ret nm) {x y : Int64} (d : In bytes pc 1 (.land) pc') (G : Go p l e R s m args below meth c n0 Q K N h k n (mkF m pc' Ls (.long (x &&& y) :: st))) : Go p l e R s m args below meth c n0 Q K N h k n (mkF m pc Ls (.long y :: .long x :: st)) := by
  obtain ⟨d, rfl⟩ := d
  exact g_st (fun X _ t kt => XS.land X.here C.1 rfl (hb C.2.2.2.1 d) rfl kt) G
theorem g_lor (C : Cx p s m meth c Z n0 own bytes maxl ret nm) {x y : Int64} (d : In bytes pc 1 (.lor) pc') (G : Go p l e R s m args below meth c n0 Q K N h k n (mkF m pc' Ls (.long (x ||| y) :: st))) : Go p l e R s m args below meth c n0 Q K N h k n (mkF m pc Ls (.long y :: .long x :: st)) := by
  obtain ⟨d, rfl⟩ := d
  exact g_st (fun X _ t kt => XS.lor X.here C.1 rfl (hb C.2.2.2.1 d) rfl kt) G
theorem g_lxor (C : Cx p s m meth c Z n0 own bytes maxl ret nm) {x y : Int64} (d : In bytes pc 1 (.lxor) pc') (G : Go p l e R s m args below meth c n0 Q K N h k n (mkF m pc' Ls (.long (x ^^^ y) :: st))) : Go p l e R s m args below meth c n0 Q K N h k n (mkF m pc Ls (.long y :: .long x :: st)) := by
  obtain ⟨d, rfl⟩ := d
  exact g_st (fun X _ t kt => XS.lxor X.here C.1 rfl (hb C.2.2.2.1 d) rfl kt) G
theorem g_ldiv (C : Cx p s m meth c Z n0 own bytes maxl ret nm) {x y : Int64} (d : In bytes pc 1 (.ldiv) pc') (hy : y ≠ 0) (G : Go p l e R s m args below meth c n0 Q K N h k n (mkF m pc' Ls (.long (x / y) :: st))) : Go p l e R s m args below meth c n0 Q K N h k n (mkF m pc Ls (.long y :: .long x :: st)) := by
  obtain ⟨d, rfl⟩ := d
  exact g_st (fun X _ t kt => XS.ldiv X.here C.1 rfl (hb C.2.2.2.1 d) rfl hy kt) G
theorem g_lrem (C : Cx p s m meth c Z n0 own bytes maxl ret nm) {x y : Int64} (d : In bytes pc 1 (.lrem) pc') (hy : y ≠ 0) (G : Go p l e R s m args below meth c n0 Q K N h k n (mkF m pc' Ls (.long (x - (x / y) * y) :: st))) : Go p l e R s m args below meth c n0 Q K N h k n (mkF m pc Ls (.long y :: .long x :: st)) := by
  obtain ⟨d, rfl⟩ := d
  exact g_st (fun X _ t kt => XS.lrem X.here C.1 rfl (hb C.2.2.2.1 d) rfl hy kt) G
theorem g_lload (C : Cx p s m meth c Z n0 own bytes maxl ret nm) {i : Nat} {v : Int64} (d : In bytes pc 2 (.lload i) pc') (hl : Ls[i]? = some (.val (.long v))) (G : Go p l e R s m args below meth c n0 Q K N h k n (mkF m pc' Ls (.long v :: st))) : Go p l e R s m args below meth c n0 Q K N h k n (mkF m pc Ls st) := by
  obtain ⟨d, rfl⟩ := d
  exact g_st (fun X _ t kt => XS.lload X.here C.1 rfl (hb C.2.2.2.1 d) hl kt) G
theorem g_lloadN (C : Cx p s m meth c Z n0 own bytes maxl ret nm) {i : Fin 4} {v : Int64} (d : In bytes pc 1 (.lload_n i) pc') (hl : Ls[i.val]? = some (.val (.long v))) (G : Go p l e R s m args below meth c n0 Q K N h k n (mkF m pc' Ls (.long v :: st))) : Go p l e R s m args below meth c n0 Q K N h k n (mkF m pc Ls st) := by
  obtain ⟨d, rfl⟩ := d
  exact g_st (fun X _ t kt => XS.lloadN X.here C.1 rfl (hb C.2.2.2.1 d) hl kt) G
theorem g_lstore (C : Cx p s m meth c Z n0 own bytes maxl ret nm) {i : Nat} {x : Int64} (l' : Array Slot) (d : In bytes pc 2 (.lstore i) pc') (hl : storeLocals Ls i (.long x) = some l') (G : Go p l e R s m args below meth c n0 Q K N h k n (mkF m pc' l' st)) : Go p l e R s m args below meth c n0 Q K N h k n (mkF m pc Ls (.long x :: st)) := by
  obtain ⟨d, rfl⟩ := d
  exact g_st (fun X _ t kt => XS.lstore X.here C.1 rfl (hb C.2.2.2.1 d) rfl hl kt) G
theorem g_lstoreN (C : Cx p s m meth c Z n0 own bytes maxl ret nm) {i : Fin 4} {x : Int64} (l' : Array Slot) (d : In bytes pc 1 (.lstore_n i) pc') (hl : storeLocals Ls i.val (.long x) = some l') (G : Go p l e R s m args below meth c n0 Q K N h k n (mkF m pc' l' st)) : Go p l e R s m args below meth c n0 Q K N h k n (mkF m pc Ls (.long x :: st)) := by
  obtain ⟨d, rfl⟩ := d
  exact g_st (fun X _ t kt => XS.lstoreN X.here C.1 rfl (hb C.2.2.2.1 d) rfl hl kt) G
theorem g_aload (C : Cx p s m meth c Z n0 own bytes maxl ret nm) {i : Nat} {v : Value} (d : In bytes pc 2 (.aload i) pc') (hl : Ls[i]? = some (.val v)) (hv : v.isRef = true) (G : Go p l e R s m args below meth c n0 Q K N h k n (mkF m pc' Ls (v :: st))) : Go p l e R s m args below meth c n0 Q K N h k n (mkF m pc Ls st) := by
  obtain ⟨d, rfl⟩ := d
  exact g_st (fun X _ t kt => XS.aload X.here C.1 rfl (hb C.2.2.2.1 d) hl hv kt) G
theorem g_astore (C : Cx p s m meth c Z n0 own bytes maxl ret nm) {i : Nat} {x : Value} (l' : Array Slot) (d : In bytes pc 2 (.astore i) pc') (hv : x.isRef = true) (hl : storeLocals Ls i x = some l') (G : Go p l e R s m args below meth c n0 Q K N h k n (mkF m pc' l' st)) : Go p l e R s m args below meth c n0 Q K N h k n (mkF m pc Ls (x :: st)) := by
  obtain ⟨d, rfl⟩ := d
  exact g_st (fun X _ t kt => XS.astore X.here C.1 rfl (hb C.2.2.2.1 d) rfl hv hl kt) G
theorem g_aloadN (C : Cx p s m meth c Z n0 own bytes maxl ret nm) {i : Fin 4} {v : Value} (d : In bytes pc 1 (.aload_n i) pc') (hl : Ls[i.val]? = some (.val v)) (hv : v.isRef = true) (G : Go p l e R s m args below meth c n0 Q K N h k n (mkF m pc' Ls (v :: st))) : Go p l e R s m args below meth c n0 Q K N h k n (mkF m pc Ls st) := by
  obtain ⟨d, rfl⟩ := d
  exact g_st (fun X _ t kt => XS.aloadN X.here C.1 rfl (hb C.2.2.2.1 d) hl hv kt) G
theorem g_astoreN (C : Cx p s m meth c Z n0 own bytes maxl ret nm) {i : Fin 4} {x : Value} (l' : Array Slot) (d : In bytes pc 1 (.astore_n i) pc') (hv : x.isRef = true) (hl : storeLocals Ls i.val x = some l') (G : Go p l e R s m args below meth c n0 Q K N h k n (mkF m pc' l' st)) : Go p l e R s m args below meth c n0 Q K N h k n (mkF m pc Ls (x :: st)) := by
  obtain ⟨d, rfl⟩ := d
  exact g_st (fun X _ t kt => XS.astoreN X.here C.1 rfl (hb C.2.2.2.1 d) rfl hv hl kt) G
theorem g_ishl (C : Cx p s m meth c Z n0 own bytes maxl ret nm) {x y : Int32} (d : In bytes pc 1 (.ishl) pc') (G : Go p l e R s m args below meth c n0 Q K N h k n (mkF m pc' Ls (.int (shlI x y) :: st))) : Go p l e R s m args below meth c n0 Q K N h k n (mkF m pc Ls (.int y :: .int x :: st)) := by
  obtain ⟨d, rfl⟩ := d
  exact g_st (fun X _ t kt => XS.ishl X.here C.1 rfl (hb C.2.2.2.1 d) rfl kt) G
theorem g_ishr (C : Cx p s m meth c Z n0 own bytes maxl ret nm) {x y : Int32} (d : In bytes pc 1 (.ishr) pc') (G : Go p l e R s m args below meth c n0 Q K N h k n (mkF m pc' Ls (.int (shrI x y) :: st))) : Go p l e R s m args below meth c n0 Q K N h k n (mkF m pc Ls (.int y :: .int x :: st)) := by
  obtain ⟨d, rfl⟩ := d
  exact g_st (fun X _ t kt => XS.ishr X.here C.1 rfl (hb C.2.2.2.1 d) rfl kt) G
theorem g_iushr (C : Cx p s m meth c Z n0 own bytes maxl ret nm) {x y : Int32} (d : In bytes pc 1 (.iushr) pc') (G : Go p l e R s m args below meth c n0 Q K N h k n (mkF m pc' Ls (.int (ushrI x y) :: st))) : Go p l e R s m args below meth c n0 Q K N h k n (mkF m pc Ls (.int y :: .int x :: st)) := by
  obtain ⟨d, rfl⟩ := d
  exact g_st (fun X _ t kt => XS.iushr X.here C.1 rfl (hb C.2.2.2.1 d) rfl kt) G
theorem g_lshl (C : Cx p s m meth c Z n0 own bytes maxl ret nm) {x : Int64} {y : Int32} (d : In bytes pc 1 (.lshl) pc') (G : Go p l e R s m args below meth c n0 Q K N h k n (mkF m pc' Ls (.long (shlJ x y) :: st))) : Go p l e R s m args below meth c n0 Q K N h k n (mkF m pc Ls (.int y :: .long x :: st)) := by
  obtain ⟨d, rfl⟩ := d
  exact g_st (fun X _ t kt => XS.lshl X.here C.1 rfl (hb C.2.2.2.1 d) rfl kt) G
theorem g_lshr (C : Cx p s m meth c Z n0 own bytes maxl ret nm) {x : Int64} {y : Int32} (d : In bytes pc 1 (.lshr) pc') (G : Go p l e R s m args below meth c n0 Q K N h k n (mkF m pc' Ls (.long (shrJ x y) :: st))) : Go p l e R s m args below meth c n0 Q K N h k n (mkF m pc Ls (.int y :: .long x :: st)) := by
  obtain ⟨d, rfl⟩ := d
  exact g_st (fun X _ t kt => XS.lshr X.here C.1 rfl (hb C.2.2.2.1 d) rfl kt) G
theorem g_lushr (C : Cx p s m meth c Z n0 own bytes maxl ret nm) {x : Int64} {y : Int32} (d : In bytes pc 1 (.lushr) pc') (G : Go p l e R s m args below meth c n0 Q K N h k n (mkF m pc' Ls (.long (ushrJ x y) :: st))) : Go p l e R s m args below meth c n0 Q K N h k n (mkF m pc Ls (.int y :: .long x :: st)) := by
  obtain ⟨d, rfl⟩ := d
  exact g_st (fun X _ t kt => XS.lushr X.here C.1 rfl (hb C.2.2.2.1 d) rfl kt) G
theorem g_i2l (C : Cx p s m meth c Z n0 own bytes maxl ret nm) {x : Int32} (d : In bytes pc 1 (.i2l) pc') (G : Go p l e R s m args below meth c n0 Q K N h k n (mkF m pc' Ls (.long x.toInt64 :: st))) : Go p l e R s m args below meth c n0 Q K N h k n (mkF m pc Ls (.int x :: st)) := by
  obtain ⟨d, rfl⟩ := d
  exact g_st (fun X _ t kt => XS.i2l X.here C.1 rfl (hb C.2.2.2.1 d) rfl kt) G
theorem g_l2i (C : Cx p s m meth c Z n0 own bytes maxl ret nm) {x : Int64} (d : In bytes pc 1 (.l2i) pc') (G : Go p l e R s m args below meth c n0 Q K N h k n (mkF m pc' Ls (.int x.toInt32 :: st))) : Go p l e R s m args below meth c n0 Q K N h k n (mkF m pc Ls (.long x :: st)) := by
  obtain ⟨d, rfl⟩ := d
  exact g_st (fun X _ t kt => XS.l2i X.here C.1 rfl (hb C.2.2.2.1 d) rfl kt) G
theorem g_i2b (C : Cx p s m meth c Z n0 own bytes maxl ret nm) {x : Int32} (d : In bytes pc 1 (.i2b) pc') (G : Go p l e R s m args below meth c n0 Q K N h k n (mkF m pc' Ls (.int x.toInt8.toInt32 :: st))) : Go p l e R s m args below meth c n0 Q K N h k n (mkF m pc Ls (.int x :: st)) := by
  obtain ⟨d, rfl⟩ := d
  exact g_st (fun X _ t kt => XS.i2b X.here C.1 rfl (hb C.2.2.2.1 d) rfl kt) G
theorem g_ineg (C : Cx p s m meth c Z n0 own bytes maxl ret nm) {x : Int32} (d : In bytes pc 1 (.ineg) pc') (G : Go p l e R s m args below meth c n0 Q K N h k n (mkF m pc' Ls (.int (-x) :: st))) : Go p l e R s m args below meth c n0 Q K N h k n (mkF m pc Ls (.int x :: st)) := by
  obtain ⟨d, rfl⟩ := d
  exact g_st (fun X _ t kt => XS.ineg X.here C.1 rfl (hb C.2.2.2.1 d) rfl kt) G
theorem g_lneg (C : Cx p s m meth c Z n0 own bytes maxl ret nm) {x : Int64} (d : In bytes pc 1 (.lneg) pc') (G : Go p l e R s m args below meth c n0 Q K N h k n (mkF m pc' Ls (.long (-x) :: st))) : Go p l e R s m args below meth c n0 Q K N h k n (mkF m pc Ls (.long x :: st)) := by
  obtain ⟨d, rfl⟩ := d
  exact g_st (fun X _ t kt => XS.lneg X.here C.1 rfl (hb C.2.2.2.1 d) rfl kt) G
theorem g_iconst (C : Cx p s m meth c Z n0 own bytes maxl ret nm) {i : Int} (v : Int32) (hv : Int32.ofInt i = v) (d : In bytes pc 1 (.iconst i) pc') (G : Go p l e R s m args below meth c n0 Q K N h k n (mkF m pc' Ls (.int v :: st))) : Go p l e R s m args below meth c n0 Q K N h k n (mkF m pc Ls st) := by
  obtain ⟨d, rfl⟩ := d
  exact g_st (fun X _ t kt => XS.iconst X.here C.1 rfl (hb C.2.2.2.1 d) (hv ▸ kt)) G
theorem g_bipush (C : Cx p s m meth c Z n0 own bytes maxl ret nm) {i : Int} (v : Int32) (hv : (Int8.ofInt i).toInt32 = v) (d : In bytes pc 2 (.bipush i) pc') (G : Go p l e R s m args below meth c n0 Q K N h k n (mkF m pc' Ls (.int v :: st))) : Go p l e R s m args below meth c n0 Q K N h k n (mkF m pc Ls st) := by
  obtain ⟨d, rfl⟩ := d
  exact g_st (fun X _ t kt => XS.bipush X.here C.1 rfl (hb C.2.2.2.1 d) (hv ▸ kt)) G
theorem g_sipush (C : Cx p s m meth c Z n0 own bytes maxl ret nm) {i : Int} (v : Int32) (hv : (Int16.ofInt i).toInt32 = v) (d : In bytes pc 3 (.sipush i) pc') (G : Go p l e R s m args below meth c n0 Q K N h k n (mkF m pc' Ls (.int v :: st))) : Go p l e R s m args below meth c n0 Q K N h k n (mkF m pc Ls st) := by
  obtain ⟨d, rfl⟩ := d
  exact g_st (fun X _ t kt => XS.sipush X.here C.1 rfl (hb C.2.2.2.1 d) (hv ▸ kt)) G
theorem g_lconst (C : Cx p s m meth c Z n0 own bytes maxl ret nm) {i : Fin 2} (v : Int64) (hv : Int64.ofNat i = v) (d : In bytes pc 1 (.lconst i) pc') (G : Go p l e R s m args below meth c n0 Q K N h k n (mkF m pc' Ls (.long v :: st))) : Go p l e R s m args below meth c n0 Q K N h k n (mkF m pc Ls st) := by
  obtain ⟨d, rfl⟩ := d
  exact g_st (fun X _ t kt => XS.lconst X.here C.1 rfl (hb C.2.2.2.1 d) (hv ▸ kt)) G
theorem g_aconst (C : Cx p s m meth c Z n0 own bytes maxl ret nm) (d : In bytes pc 1 (.aconst_null) pc') (G : Go p l e R s m args below meth c n0 Q K N h k n (mkF m pc' Ls (.null :: st))) : Go p l e R s m args below meth c n0 Q K N h k n (mkF m pc Ls st) := by
  obtain ⟨d, rfl⟩ := d
  exact g_st (fun X _ t kt => XS.aconstNull X.here C.1 rfl (hb C.2.2.2.1 d) kt) G
theorem g_dup (C : Cx p s m meth c Z n0 own bytes maxl ret nm) {x : Value} (d : In bytes pc 1 (.dup) pc') (hc : x.category = 1) (G : Go p l e R s m args below meth c n0 Q K N h k n (mkF m pc' Ls (x :: x :: st))) : Go p l e R s m args below meth c n0 Q K N h k n (mkF m pc Ls (x :: st)) := by
  obtain ⟨d, rfl⟩ := d
  exact g_st (fun X _ t kt => XS.dup X.here C.1 rfl (hb C.2.2.2.1 d) rfl hc kt) G
theorem g_pop (C : Cx p s m meth c Z n0 own bytes maxl ret nm) {x : Value} (d : In bytes pc 1 (.pop) pc') (hc : x.category = 1) (G : Go p l e R s m args below meth c n0 Q K N h k n (mkF m pc' Ls st)) : Go p l e R s m args below meth c n0 Q K N h k n (mkF m pc Ls (x :: st)) := by
  obtain ⟨d, rfl⟩ := d
  exact g_st (fun X _ t kt => XS.pop X.here C.1 rfl (hb C.2.2.2.1 d) rfl hc kt) G
theorem g_iinc (C : Cx p s m meth c Z n0 own bytes maxl ret nm) {i : Nat} {cst : Int} {x : Int32} (y : Int32) (l' : Array Slot) (d : In bytes pc 3 (.iinc i cst) pc') (hl : Ls[i]? = some (.val (.int x))) (hv : y = x + Int32.ofInt cst) (hl' : storeLocals Ls i (.int y) = some l') (G : Go p l e R s m args below meth c n0 Q K N h k n (mkF m pc' l' st)) : Go p l e R s m args below meth c n0 Q K N h k n (mkF m pc Ls st) := by
  obtain ⟨d, rfl⟩ := d
  exact g_st (fun X _ t kt => XS.iinc X.here C.1 rfl (hb C.2.2.2.1 d) hl (hv ▸ hl') kt) G
theorem g_goto (C : Cx p s m meth c Z n0 own bytes maxl ret nm) (d : Jm bytes pc .goto pc' pct) (G : Go p l e R s m args below meth c n0 Q K N h k n (mkF m pct Ls st)) : Go p l e R s m args below meth c n0 Q K N h k n (mkF m pc Ls st) := by
  obtain ⟨o, d, rfl, h1, h2⟩ := d
  exact g_st (fun X _ t kt => XS.goto X.here C.1 rfl (pc0 := pc) (pc' := pct) rfl (hb C.2.2.2.1 d) h1 h2 kt) G
theorem g_icmp_lt (C : Cx p s m meth c Z n0 own bytes maxl ret nm) (d : Jm bytes pc (.if_icmp .lt) pc' pct) {x y : Int32} (Gt : x < y → Go p l e R s m args below meth c n0 Q K N h k n (mkF m pct Ls st)) (Gf : ¬ (x < y) → Go p l e R s m args below meth c n0 Q K N h k n (mkF m pc' Ls st)) : Go p l e R s m args below meth c n0 Q K N h k n (mkF m pc Ls (.int y :: .int x :: st)) := by
  obtain ⟨o, d, rfl, h1, h2⟩ := d
  by_cases q : x < y
  · exact g_st (fun X _ t kt => XS.icmpYes X.here C.1 rfl (pc0 := pc) (pc' := pct) rfl (hb C.2.2.2.1 d) rfl (tlt q).1 h1 h2 kt) (Gt q)
  · exact g_st (fun X _ t kt => XS.icmpNo X.here C.1 rfl (hb C.2.2.2.1 d) rfl (flt q).1 kt) (Gf q)
theorem g_if_lt (C : Cx p s m meth c Z n0 own bytes maxl ret nm) (d : Jm bytes pc (.ifCond .lt) pc' pct) {x : Int32} (Gt : x < 0 → Go p l e R s m args below meth c n0 Q K N h k n (mkF m pct Ls st)) (Gf : ¬ (x < 0) → Go p l e R s m args below meth c n0 Q K N h k n (mkF m pc' Ls st)) : Go p l e R s m args below meth c n0 Q K N h k n (mkF m pc Ls (.int x :: st)) := by
  obtain ⟨o, d, rfl, h1, h2⟩ := d
  by_cases q : x < 0
  · exact g_st (fun X _ t kt => XS.ifYes X.here C.1 rfl (pc0 := pc) (pc' := pct) rfl (hb C.2.2.2.1 d) rfl ((if0 _ _).trans (tlt q).1) h1 h2 kt) (Gt q)
  · exact g_st (fun X _ t kt => XS.ifNo X.here C.1 rfl (hb C.2.2.2.1 d) rfl ((if0 _ _).trans (flt q).1) kt) (Gf q)
theorem g_lcmp_lt (C : Cx p s m meth c Z n0 own bytes maxl ret nm) {x y : Int64} (d1 : In bytes pc 1 .lcmp pc1) (d : Jm bytes pc1 (.ifCond .lt) pc' pct) (Gt : x < y → Go p l e R s m args below meth c n0 Q K N h k n (mkF m pct Ls st)) (Gf : ¬ (x < y) → Go p l e R s m args below meth c n0 Q K N h k n (mkF m pc' Ls st)) : Go p l e R s m args below meth c n0 Q K N h k n (mkF m pc Ls (.long y :: .long x :: st)) := by
  obtain ⟨d1, rfl⟩ := d1
  refine g_st (fun X _ t kt => XS.lcmp X.here C.1 rfl (hb C.2.2.2.1 d1) rfl kt) ?_
  exact g_if_lt C d (fun q => Gt ((lw_lt x y).mp q)) (fun q => Gf (fun z => q ((lw_lt x y).mpr z)))
theorem g_icmp_ge (C : Cx p s m meth c Z n0 own bytes maxl ret nm) (d : Jm bytes pc (.if_icmp .ge) pc' pct) {x y : Int32} (Gt : ¬ (x < y) → Go p l e R s m args below meth c n0 Q K N h k n (mkF m pct Ls st)) (Gf : x < y → Go p l e R s m args below meth c n0 Q K N h k n (mkF m pc' Ls st)) : Go p l e R s m args below meth c n0 Q K N h k n (mkF m pc Ls (.int y :: .int x :: st)) := by
  obtain ⟨o, d, rfl, h1, h2⟩ := d
  by_cases q : ¬ (x < y)
  · exact g_st (fun X _ t kt => XS.icmpYes X.here C.1 rfl (pc0 := pc) (pc' := pct) rfl (hb C.2.2.2.1 d) rfl (flt q).2.1 h1 h2 kt) (Gt q)
  · exact g_st (fun X _ t kt => XS.icmpNo X.here C.1 rfl (hb C.2.2.2.1 d) rfl (tlt (Decidable.not_not.mp q)).2.1 kt) (Gf (Decidable.not_not.mp q))
theorem g_if_ge (C : Cx p s m meth c Z n0 own bytes maxl ret nm) (d : Jm bytes pc (.ifCond .ge) pc' pct) {x : Int32} (Gt : ¬ (x < 0) → Go p l e R s m args below meth c n0 Q K N h k n (mkF m pct Ls st)) (Gf : x < 0 → Go p l e R s m args below meth c n0 Q K N h k n (mkF m pc' Ls st)) : Go p l e R s m args below meth c n0 Q K N h k n (mkF m pc Ls (.int x :: st)) := by
  obtain ⟨o, d, rfl, h1, h2⟩ := d
  by_cases q : ¬ (x < 0)
  · exact g_st (fun X _ t kt => XS.ifYes X.here C.1 rfl (pc0 := pc) (pc' := pct) rfl (hb C.2.2.2.1 d) rfl ((if0 _ _).trans (flt q).2.1) h1 h2 kt) (Gt q)
  · exact g_st (fun X _ t kt => XS.ifNo X.here C.1 rfl (hb C.2.2.2.1 d) rfl ((if0 _ _).trans (tlt (Decidable.not_not.mp q)).2.1) kt) (Gf (Decidable.not_not.mp q))
theorem g_lcmp_ge (C : Cx p s m meth c Z n0 own bytes maxl ret nm) {x y : Int64} (d1 : In bytes pc 1 .lcmp pc1) (d : Jm bytes pc1 (.ifCond .ge) pc' pct) (Gt : ¬ (x < y) → Go p l e R s m args below meth c n0 Q K N h k n (mkF m pct Ls st)) (Gf : x < y → Go p l e R s m args below meth c n0 Q K N h k n (mkF m pc' Ls st)) : Go p l e R s m args below meth c n0 Q K N h k n (mkF m pc Ls (.long y :: .long x :: st)) := by
  obtain ⟨d1, rfl⟩ := d1
  refine g_st (fun X _ t kt => XS.lcmp X.here C.1 rfl (hb C.2.2.2.1 d1) rfl kt) ?_
  exact g_if_ge C d (fun q => Gt (fun z => q ((lw_lt x y).mpr z))) (fun q => Gf ((lw_lt x y).mp q))
theorem g_icmp_gt (C : Cx p s m meth c Z n0 own bytes maxl ret nm) (d : Jm bytes pc (.if_icmp .gt) pc' pct) {x y : Int32} (Gt : y < x → Go p l e R s m args below meth c n0 Q K N h k n (mkF m pct Ls st)) (Gf : ¬ (y < x) → Go p l e R s m args below meth c n0 Q K N h k n (mkF m pc' Ls st)) : Go p l e R s m args below meth c n0 Q K N h k n (mkF m pc Ls (.int y :: .int x :: st)) := by
  obtain ⟨o, d, rfl, h1, h2⟩ := d
  by_cases q : y < x
  · exact g_st (fun X _ t kt => XS.icmpYes X.here C.1 rfl (pc0 := pc) (pc' := pct) rfl (hb C.2.2.2.1 d) rfl (tlt q).2.2.1 h1 h2 kt) (Gt q)
  · exact g_st (fun X _ t kt => XS.icmpNo X.here C.1 rfl (hb C.2.2.2.1 d) rfl (flt q).2.2.1 kt) (Gf q)
theorem g_if_gt (C : Cx p s m meth c Z n0 own bytes maxl ret nm) (d : Jm bytes pc (.ifCond .gt) pc' pct) {x : Int32} (Gt : 0 < x → Go p l e R s m args below meth c n0 Q K N h k n (mkF m pct Ls st)) (Gf : ¬ (0 < x) → Go p l e R s m args below meth c n0 Q K N h k n (mkF m pc' Ls st)) : Go p l e R s m args below meth c n0 Q K N h k n (mkF m pc Ls (.int x :: st)) := by
  obtain ⟨o, d, rfl, h1, h2⟩ := d
  by_cases q : 0 < x
  · exact g_st (fun X _ t kt => XS.ifYes X.here C.1 rfl (pc0 := pc) (pc' := pct) rfl (hb C.2.2.2.1 d) rfl ((if0 _ _).trans (tlt q).2.2.1) h1 h2 kt) (Gt q)
  · exact g_st (fun X _ t kt => XS.ifNo X.here C.1 rfl (hb C.2.2.2.1 d) rfl ((if0 _ _).trans (flt q).2.2.1) kt) (Gf q)
theorem g_lcmp_gt (C : Cx p s m meth c Z n0 own bytes maxl ret nm) {x y : Int64} (d1 : In bytes pc 1 .lcmp pc1) (d : Jm bytes pc1 (.ifCond .gt) pc' pct) (Gt : y < x → Go p l e R s m args below meth c n0 Q K N h k n (mkF m pct Ls st)) (Gf : ¬ (y < x) → Go p l e R s m args below meth c n0 Q K N h k n (mkF m pc' Ls st)) : Go p l e R s m args below meth c n0 Q K N h k n (mkF m pc Ls (.long y :: .long x :: st)) := by
  obtain ⟨d1, rfl⟩ := d1
  refine g_st (fun X _ t kt => XS.lcmp X.here C.1 rfl (hb C.2.2.2.1 d1) rfl kt) ?_
  exact g_if_gt C d (fun q => Gt ((lw_gt x y).mp q)) (fun q => Gf (fun z => q ((lw_gt x y).mpr z)))
theorem g_icmp_le (C : Cx p s m meth c Z n0 own bytes maxl ret nm) (d : Jm bytes pc (.if_icmp .le) pc' pct) {x y : Int32} (Gt : ¬ (y < x) → Go p l e R s m args below meth c n0 Q K N h k n (mkF m pct Ls st)) (Gf : y < x → Go p l e R s m args below meth c n0 Q K N h k n (mkF m pc' Ls st)) : Go p l e R s m args below meth c n0 Q K N h k n (mkF m pc Ls (.int y :: .int x :: st)) := by
  obtain ⟨o, d, rfl, h1, h2⟩ := d
  by_cases q : ¬ (y < x)
  · exact g_st (fun X _ t kt => XS.icmpYes X.here C.1 rfl (pc0 := pc) (pc' := pct) rfl (hb C.2.2.2.1 d) rfl (flt q).2.2.2 h1 h2 kt) (Gt q)
  · exact g_st (fun X _ t kt => XS.icmpNo X.here C.1 rfl (hb C.2.2.2.1 d) rfl (tlt (Decidable.not_not.mp q)).2.2.2 kt) (Gf (Decidable.not_not.mp q))
theorem g_if_le (C : Cx p s m meth c Z n0 own bytes maxl ret nm) (d : Jm bytes pc (.ifCond .le) pc' pct) {x : Int32} (Gt : ¬ (0 < x) → Go p l e R s m args below meth c n0 Q K N h k n (mkF m pct Ls st)) (Gf : 0 < x → Go p l e R s m args below meth c n0 Q K N h k n (mkF m pc' Ls st)) : Go p l e R s m args below meth c n0 Q K N h k n (mkF m pc Ls (.int x :: st)) := by
  obtain ⟨o, d, rfl, h1, h2⟩ := d
  by_cases q : ¬ (0 < x)
  · exact g_st (fun X _ t kt => XS.ifYes X.here C.1 rfl (pc0 := pc) (pc' := pct) rfl (hb C.2.2.2.1 d) rfl ((if0 _ _).trans (flt q).2.2.2) h1 h2 kt) (Gt q)
  · exact g_st (fun X _ t kt => XS.ifNo X.here C.1 rfl (hb C.2.2.2.1 d) rfl ((if0 _ _).trans (tlt (Decidable.not_not.mp q)).2.2.2) kt) (Gf (Decidable.not_not.mp q))
theorem g_lcmp_le (C : Cx p s m meth c Z n0 own bytes maxl ret nm) {x y : Int64} (d1 : In bytes pc 1 .lcmp pc1) (d : Jm bytes pc1 (.ifCond .le) pc' pct) (Gt : ¬ (y < x) → Go p l e R s m args below meth c n0 Q K N h k n (mkF m pct Ls st)) (Gf : y < x → Go p l e R s m args below meth c n0 Q K N h k n (mkF m pc' Ls st)) : Go p l e R s m args below meth c n0 Q K N h k n (mkF m pc Ls (.long y :: .long x :: st)) := by
  obtain ⟨d1, rfl⟩ := d1
  refine g_st (fun X _ t kt => XS.lcmp X.here C.1 rfl (hb C.2.2.2.1 d1) rfl kt) ?_
  exact g_if_le C d (fun q => Gt (fun z => q ((lw_gt x y).mpr z))) (fun q => Gf ((lw_gt x y).mp q))
theorem g_icmp_eq (C : Cx p s m meth c Z n0 own bytes maxl ret nm) (d : Jm bytes pc (.if_icmp .eq) pc' pct) {x y : Int32} (Gt : x = y → Go p l e R s m args below meth c n0 Q K N h k n (mkF m pct Ls st)) (Gf : ¬ (x = y) → Go p l e R s m args below meth c n0 Q K N h k n (mkF m pc' Ls st)) : Go p l e R s m args below meth c n0 Q K N h k n (mkF m pc Ls (.int y :: .int x :: st)) := by
  obtain ⟨o, d, rfl, h1, h2⟩ := d
  by_cases q : x = y
  · exact g_st (fun X _ t kt => XS.icmpYes X.here C.1 rfl (pc0 := pc) (pc' := pct) rfl (hb C.2.2.2.1 d) rfl (teq q).1 h1 h2 kt) (Gt q)
  · exact g_st (fun X _ t kt => XS.icmpNo X.here C.1 rfl (hb C.2.2.2.1 d) rfl (feq q).1 kt) (Gf q)
theorem g_if_eq (C : Cx p s m meth c Z n0 own bytes maxl ret nm) (d : Jm bytes pc (.ifCond .eq) pc' pct) {x : Int32} (Gt : x = 0 → Go p l e R s m args below meth c n0 Q K N h k n (mkF m pct Ls st)) (Gf : ¬ (x = 0) → Go p l e R s m args below meth c n0 Q K N h k n (mkF m pc' Ls st)) : Go p l e R s m args below meth c n0 Q K N h k n (mkF m pc Ls (.int x :: st)) := by
  obtain ⟨o, d, rfl, h1, h2⟩ := d
  by_cases q : x = 0
  · exact g_st (fun X _ t kt => XS.ifYes X.here C.1 rfl (pc0 := pc) (pc' := pct) rfl (hb C.2.2.2.1 d) rfl ((if0 _ _).trans (teq q).1) h1 h2 kt) (Gt q)
  · exact g_st (fun X _ t kt => XS.ifNo X.here C.1 rfl (hb C.2.2.2.1 d) rfl ((if0 _ _).trans (feq q).1) kt) (Gf q)
theorem g_lcmp_eq (C : Cx p s m meth c Z n0 own bytes maxl ret nm) {x y : Int64} (d1 : In bytes pc 1 .lcmp pc1) (d : Jm bytes pc1 (.ifCond .eq) pc' pct) (Gt : x = y → Go p l e R s m args below meth c n0 Q K N h k n (mkF m pct Ls st)) (Gf : ¬ (x = y) → Go p l e R s m args below meth c n0 Q K N h k n (mkF m pc' Ls st)) : Go p l e R s m args below meth c n0 Q K N h k n (mkF m pc Ls (.long y :: .long x :: st)) := by
  obtain ⟨d1, rfl⟩ := d1
  refine g_st (fun X _ t kt => XS.lcmp X.here C.1 rfl (hb C.2.2.2.1 d1) rfl kt) ?_
  exact g_if_eq C d (fun q => Gt ((lw_eq x y).mp q)) (fun q => Gf (fun z => q ((lw_eq x y).mpr z)))
theorem g_icmp_ne (C : Cx p s m meth c Z n0 own bytes maxl ret nm) (d : Jm bytes pc (.if_icmp .ne) pc' pct) {x y : Int32} (Gt : ¬ (x = y) → Go p l e R s m args below meth c n0 Q K N h k n (mkF m pct Ls st)) (Gf : x = y → Go p l e R s m args below meth c n0 Q K N h k n (mkF m pc' Ls st)) : Go p l e R s m args below meth c n0 Q K N h k n (mkF m pc Ls (.int y :: .int x :: st)) := by
  obtain ⟨o, d, rfl, h1, h2⟩ := d
  by_cases q : ¬ (x = y)
  · exact g_st (fun X _ t kt => XS.icmpYes X.here C.1 rfl (pc0 := pc) (pc' := pct) rfl (hb C.2.2.2.1 d) rfl (feq q).2 h1 h2 kt) (Gt q)
  · exact g_st (fun X _ t kt => XS.icmpNo X.here C.1 rfl (hb C.2.2.2.1 d) rfl (teq (Decidable.not_not.mp q)).2 kt) (Gf (Decidable.not_not.mp q))
theorem g_if_ne (C : Cx p s m meth c Z n0 own bytes maxl ret nm) (d : Jm bytes pc (.ifCond .ne) pc' pct) {x : Int32} (Gt : ¬ (x = 0) → Go p l e R s m args below meth c n0 Q K N h k n (mkF m pct Ls st)) (Gf : x = 0 → Go p l e R s m args below meth c n0 Q K N h k n (mkF m pc' Ls st)) : Go p l e R s m args below meth c n0 Q K N h k n (mkF m pc Ls (.int x :: st)) := by
  obtain ⟨o, d, rfl, h1, h2⟩ := d
  by_cases q : ¬ (x = 0)
  · exact g_st (fun X _ t kt => XS.ifYes X.here C.1 rfl (pc0 := pc) (pc' := pct) rfl (hb C.2.2.2.1 d) rfl ((if0 _ _).trans (feq q).2) h1 h2 kt) (Gt q)
  · exact g_st (fun X _ t kt => XS.ifNo X.here C.1 rfl (hb C.2.2.2.1 d) rfl ((if0 _ _).trans (teq (Decidable.not_not.mp q)).2) kt) (Gf (Decidable.not_not.mp q))
theorem g_lcmp_ne (C : Cx p s m meth c Z n0 own bytes maxl ret nm) {x y : Int64} (d1 : In bytes pc 1 .lcmp pc1) (d : Jm bytes pc1 (.ifCond .ne) pc' pct) (Gt : ¬ (x = y) → Go p l e R s m args below meth c n0 Q K N h k n (mkF m pct Ls st)) (Gf : x = y → Go p l e R s m args below meth c n0 Q K N h k n (mkF m pc' Ls st)) : Go p l e R s m args below meth c n0 Q K N h k n (mkF m pc Ls (.long y :: .long x :: st)) := by
  obtain ⟨d1, rfl⟩ := d1
  refine g_st (fun X _ t kt => XS.lcmp X.here C.1 rfl (hb C.2.2.2.1 d1) rfl kt) ?_
  exact g_if_ne C d (fun q => Gt (fun z => q ((lw_eq x y).mpr z))) (fun q => Gf ((lw_eq x y).mp q))
theorem g_ldc2 (C : Cx p s m meth c Z n0 own bytes maxl ret nm) {i : Nat} {v : Int64} (w : (Cond.constantLong own i v).before a0 Z = true) (d : In bytes pc 3 (.ldc2_w i) pc') (G : Go p l e R s m args below meth c n0 Q K N h k n (mkF m pc' Ls (.long v :: st))) : Go p l e R s m args below meth c n0 Q K N h k n (mkF m pc Ls st) := by
  obtain ⟨d, rfl⟩ := d
  exact g_st (fun X _ t kt => X.ldc2Long C.1 C.2.2.1 (mvT C.2.1 w) (g := mkF m pc Ls st) rfl (hb C.2.2.2.1 d) _ kt) G
theorem g_ldc (C : Cx p s m meth c Z n0 own bytes maxl ret nm) {i : Nat} {v : Int32} (w : (Cond.constant own i v).before a0 Z = true) (d : In bytes pc 2 (.ldc i) pc') (G : Go p l e R s m args below meth c n0 Q K N h k n (mkF m pc' Ls (.int v :: st))) : Go p l e R s m args below meth c n0 Q K N h k n (mkF m pc Ls st) := by
  obtain ⟨d, rfl⟩ := d
  exact g_st (fun X _ t kt => X.ldcInt C.1 C.2.2.1 (mvT C.2.1 w) (g := mkF m pc Ls st) rfl (hb C.2.2.2.1 d) _ kt) G
theorem g_getF (C : Cx p s m meth c Z n0 own bytes maxl ret nm) {i : Nat} {O f ds : String} (w : (Cond.fieldLink own i O f ds).before a0 Z = true) (d : In bytes pc 3 (.getfield i) pc') {a : Addr} {v : Value} (F : Fld Z h a O f ds v) (G : Go p l e R s m args below meth c n0 Q K N h k n (mkF m pc' Ls (v :: st))) : Go p l e R s m args below meth c n0 Q K N h k n (mkF m pc Ls (.ref a :: st)) := by
  obtain ⟨d, rfl⟩ := d
  intro T L hL X eT
  obtain ⟨T', X', e', st'⟩ := getF X C.1 C.2.1 C.2.2.1 (host := "") (Or.inl w) Via.refl eT F (g := mkF m pc Ls (.ref a :: st)) rfl rfl (hb C.2.2.2.1 d)
  obtain ⟨t, o, h1, h2⟩ := G T' L hL X' e'
  exact ⟨t, o, st' t h1, h2⟩
theorem g_putF (C : Cx p s m meth c Z n0 own bytes maxl ret nm) {i kk : Nat} {O f ds K' : String} {ty : FieldType} (w : (Cond.fieldLink own i O f ds).before a0 Z = true) (d : In bytes pc 3 (.putfield i) pc') {a : Addr} {v v' old : Value} (F : Fld Z h a O f ds old) (E : Exa Z h a K')
    (L : (Cond.lays K' O f ds).before a0 Z = true ∨ ((Cond.laysFinal K' O f ds).before a0 Z = true ∧ own = O ∧ nm = "<init>")) (wi : (Cond.instantiable K' kk).before a0 Z = true) (hty : parseFieldDescriptor ds = some ty) (hn : narrow ty v = v') (hf : fits ty v' = true) (ge : n0 ≤ a)
    (G : ∀ h', Wr h h' a (Jvm.RoadKit.slotOf Z O f ds) v' → Go p l e R s m args below meth c n0 Q K N h' k n (mkF m pc' Ls st)) : Go p l e R s m args below meth c n0 Q K N h k n (mkF m pc Ls (v :: .ref a :: st)) := by
  obtain ⟨d, rfl⟩ := d
  intro T Lo hL X eT
  have L' : (Cond.lays K' O f ds).before a0 Z = true ∨ ((Cond.laysFinal K' O f ds).before a0 Z = true ∧ own = O ∧ meth.name = "<init>") := L.imp id fun q => ⟨q.1, q.2.1, C.2.2.2.2.2.2.2.1.trans q.2.2⟩
  obtain ⟨T', h', X', e', W', st'⟩ := putFN X C.1 C.2.1 C.2.2.1 w Via.refl eT F E L' wi hty hn hf (g := mkF m pc Ls (v :: .ref a :: st)) rfl rfl (hb C.2.2.2.1 d)
  obtain ⟨t, o, h1, h2⟩ := G h' W' T' _ (Fr.snoc X' hL ge) X' e'
  exact ⟨t, o, st' t h1, h2⟩
theorem g_new (C : Cx p s m meth c Z n0 own bytes maxl ret nm) {i sz : Nat} {K' : String} (w : (Cond.classLink own i K').before a0 Z = true) (wi : (Cond.instantiable K' sz).before a0 Z = true) (wz : (Cond.initialized K').before a0 Z = true) (d : In bytes pc 3 (.new i) pc') (hc : k + 1 ≤ R.cells) (hl : n + sz ≤ R.slots)
    (G : ∀ h' a, n0 ≤ a → a = h.size → Ext h h' → Exa Z h' a K' → (∀ {O f ds : String} {ty : FieldType}, Laid Z a0 K' O f ds → parseFieldDescriptor ds = some ty → Fld Z h' a O f ds (defaultValue ty)) → Go p l e R s m args below meth c n0 Q K N h' (k + 1) (n + sz) (mkF m pc' Ls (.ref a :: st))) : Go p l e R s m args below meth c n0 Q K N h k n (mkF m pc Ls st) := by
  obtain ⟨d, rfl⟩ := d
  intro T Lo hL X eT
  have ge : n0 ≤ h.size := Nat.le_trans C.2.2.2.2.2.2.2.2 (eT ▸ Stand.up X)
  obtain ⟨T', h', X', e', E', A', D', -, st'⟩ := newO X C.1 C.2.1 C.2.2.1 w wi wz eT (g := mkF m pc Ls st) rfl (hb C.2.2.2.1 d) hc hl
  obtain ⟨t, o, h1, h2⟩ := G h' h.size ge rfl E' A' D' T' _ hL X' e'
  exact ⟨t, o, st' t h1, h2⟩
theorem g_newarr (C : Cx p s m meth c Z n0 own bytes maxl ret nm) {aty : ArrayType} (w : (Cond.arrayClass (newarray.typeOf aty)).before a0 Z = true) (d : In bytes pc 2 (.newarray aty) pc') {z : Int32} (hz : ¬ z < 0) (cap : Nat) (hcap : z.toNatClampNeg ≤ cap) (hb8 : cap * 8 ≤ 536870912) (hc : k + 1 ≤ R.cells) (hl : n + cap ≤ R.slots)
    (G : ∀ h' a kA, n0 ≤ a → a = h.size → Ext h h' → Arr Z h' a (newA kA (newarray.typeOf aty) z) (newarray.typeOf aty) → Go p l e R s m args below meth c n0 Q K N h' (k + 1) (n + cap) (mkF m pc' Ls (.ref a :: st))) : Go p l e R s m args below meth c n0 Q K N h k n (mkF m pc Ls (.int z :: st)) := by
  obtain ⟨d, rfl⟩ := d
  intro T Lo hL X eT
  have ge : n0 ≤ h.size := Nat.le_trans C.2.2.2.2.2.2.2.2 (eT ▸ Stand.up X)
  obtain ⟨T', h', kA, X', e', E', A', st'⟩ := newP X C.1 C.2.1 w eT (g := mkF m pc Ls (.int z :: st)) rfl (hb C.2.2.2.1 d) rfl hz hcap hb8 hc hl
  obtain ⟨t, o, h1, h2⟩ := G h' h.size kA ge rfl E' A' T' _ hL X' e'
  exact ⟨t, o, st' t h1, h2⟩
theorem g_initO (C : Cx p s m meth c Z n0 own bytes maxl ret nm) {i : Nat} (w1 : (Cond.methodLink own i Lib.objectInit).before a0 Z = true) (w2 : (Cond.instanceMethod Lib.objectInit).before a0 Z = true) (w3 : (Cond.code Lib.objectInit ⟨#[0xb1]⟩ 1 none).before a0 Z = true) (d : In bytes pc 3 (.invokespecial i) pc') (hsz : Ls.size = maxl) {a : Addr} (hf : 1 ≤ R.frames) (W : Nat) (hW : (st.map fun v => v.category).sum ≤ W) (hl : W + 12 ≤ R.locals) (G : Go p l e R s m args below meth c n0 Q K N h k n (mkF m pc' Ls st)) : Go p l e R s m args below meth c n0 Q K N h k n (mkF m pc Ls (.ref a :: st)) := by
  obtain ⟨d, rfl⟩ := d
  intro T L hL X eT
  obtain ⟨T', X', e', st'⟩ := initO X C.1 C.2.1 C.2.2.1 w1 w2 w3 eT (g := mkF m pc Ls (.ref a :: st)) rfl (by rw [C.2.2.2.2.1]; exact hsz) rfl (hb C.2.2.2.1 d) hf (W := W) (by show 2 * 0 + _ ≤ _; omega) hl
  obtain ⟨t, o, h1, h2⟩ := G T' L hL X' e'
  exact ⟨t, o, st' t h1, h2⟩
theorem g_retI (C : Cx p s m meth c Z n0 own bytes maxl (some .int) nm) (d : In bytes pc 1 .ireturn pc') {z : Int32} (hk : k ≤ K) (hn : n ≤ N) (q : Q (some (.int z)) h) : Go p l e R s m args below meth c n0 Q K N h k n (mkF m pc Ls ([.int z])) := by
  obtain ⟨d, rfl⟩ := d
  intro T L hL X eT
  have hlk : meth.locks = false := C.2.2.2.2.2.2.1
  obtain ⟨fs, hr, hrun, hended, hW, hsame⟩ := X.leave (v := some (.int z)) (fun h => by rw [C.2.2.2.2.2.1] at h; cases h) hlk
  refine ⟨_, _, X.ireturnOut C.1 C.2.2.2.2.2.1 rfl (Or.inl rfl) (hb C.2.2.2.1 d) hr, hrun, hended, _, _, rfl, ⟨?_, hL⟩, ⟨_, rfl⟩, hW, hsame.mono hk hn⟩
  show Q _ T.heap
  rw [eT]; exact q
theorem g_retJ (C : Cx p s m meth c Z n0 own bytes maxl (some .long) nm) (d : In bytes pc 1 .lreturn pc') {z : Int64} (hk : k ≤ K) (hn : n ≤ N) (q : Q (some (.long z)) h) : Go p l e R s m args below meth c n0 Q K N h k n (mkF m pc Ls ([.long z])) := by
  obtain ⟨d, rfl⟩ := d
  intro T L hL X eT
  have hlk : meth.locks = false := C.2.2.2.2.2.2.1
  obtain ⟨fs, hr, hrun, hended, hW, hsame⟩ := X.leave (v := some (.long z)) (fun h => by rw [C.2.2.2.2.2.1] at h; cases h) hlk
  refine ⟨_, _, X.lreturnOut C.1 C.2.2.2.2.2.1 (hb C.2.2.2.1 d) hr, hrun, hended, _, _, rfl, ⟨?_, hL⟩, ⟨_, rfl⟩, hW, hsame.mono hk hn⟩
  show Q _ T.heap
  rw [eT]; exact q
theorem g_retZ (C : Cx p s m meth c Z n0 own bytes maxl (some .boolean) nm) (d : In bytes pc 1 .ireturn pc') {z : Int32} (hk : k ≤ K) (hn : n ≤ N) (q : Q (some (.int (z &&& 1))) h) : Go p l e R s m args below meth c n0 Q K N h k n (mkF m pc Ls ([.int z])) := by
  obtain ⟨d, rfl⟩ := d
  intro T L hL X eT
  have hlk : meth.locks = false := C.2.2.2.2.2.2.1
  obtain ⟨fs, hr, hrun, hended, hW, hsame⟩ := X.leave (v := some (.int (z &&& 1))) (fun h => by rw [C.2.2.2.2.2.1] at h; cases h) hlk
  refine ⟨_, _, retN X C.1 (t := .boolean) C.2.2.2.2.2.1 (by simp) (hb C.2.2.2.1 d) hr, hrun, hended, _, _, rfl, ⟨?_, hL⟩, ⟨_, rfl⟩, hW, hsame.mono hk hn⟩
  show Q _ T.heap
  rw [eT]; exact q
theorem g_retA (C : Cx p s m meth c Z n0 own bytes maxl ret nm) {ty : FieldType} (hret : ret = some ty) (hty : ty.isReference = true) (d : In bytes pc 1 .areturn pc') {z : Value} (hz : z.isRef = true) (hk : k ≤ K) (hn : n ≤ N) (q : Q (some z) h) : Go p l e R s m args below meth c n0 Q K N h k n (mkF m pc Ls ([z])) := by
  obtain ⟨d, rfl⟩ := d
  subst hret
  intro T L hL X eT
  have hlk : meth.locks = false := C.2.2.2.2.2.2.1
  obtain ⟨fs, hr, hrun, hended, hW, hsame⟩ := X.leave (v := some z) (fun h => by rw [C.2.2.2.2.2.1] at h; cases h) hlk
  refine ⟨_, _, X.areturnOut C.1 hz C.2.2.2.2.2.1 hty (hb C.2.2.2.1 d) hr, hrun, hended, _, _, rfl, ⟨?_, hL⟩, ⟨_, rfl⟩, hW, hsame.mono hk hn⟩
  show Q _ T.heap
  rw [eT]; exact q
theorem g_ret (C : Cx p s m meth c Z n0 own bytes maxl none nm) (d : In bytes pc 1 .return_ pc') (hk : k ≤ K) (hn : n ≤ N) (q : Q none h) : Go p l e R s m args below meth c n0 Q K N h k n (mkF m pc Ls []) := by
  obtain ⟨d, rfl⟩ := d
  intro T L hL X eT
  have hlk : meth.locks = false := C.2.2.2.2.2.2.1
  obtain ⟨fs, hr, hrun, hended, hW, hsame⟩ := X.leave (v := none) (fun _ => rfl) hlk
  refine ⟨_, _, X.returnOut C.1 C.2.2.2.2.2.1 (hb C.2.2.2.1 d) hr, hrun, hended, _, _, rfl, ⟨?_, hL⟩, ⟨_, rfl⟩, hW, hsame.mono hk hn⟩
  show Q _ T.heap
  rw [eT]; exact q
/-- a method's contract: called with 'as' at a heap h0 it comes back so -/
abbrev Con (l : Launch) (Z : State) (y : MethodName) (bytes : ByteArray) (maxl : Nat) (ret : Option FieldType) (rm : Room) (ws : List Jvm.Cond) (as : Array Value) (h0 : Heap) (n0 : Nat) (Q : Option Value → Heap → Prop) : Prop :=
  MetFree l y (head1 (Jvm.Cond.code y bytes maxl ret :: ws) rm) (fun a U => a = as ∧ Z.Warmed39 U.vm ∧ U.heap = h0) (fun _ _ _ _ _ => True) (fun _ U o U' => ∃ v L, o = .returned v ∧ (Q v U'.heap ∧ Fr n0 L) ∧ FrameEnd U o U' L rm.cells rm.slots)
theorem con_of {y : MethodName} {rm : Room} {ws : List Jvm.Cond} {as : Array Value} {h0 : Heap} {Ls0 : Array Slot} (hpl : plainFor y = true) (he : ∀ m, entryFrame m as maxl = mkF m 0 Ls0 []) (hn0 : n0 ≤ h0.size)
    (B : ∀ (p : Program) (e : Env) (s : State) (m : MethodId) (below : List Frame) (meth : Method) (c : ClassFile.Code), Cx p s m meth c Z n0 y.cls bytes maxl ret y.name → Go p l e rm s m as below meth c n0 Q rm.cells rm.slots h0 0 0 (mkF m 0 Ls0 [])) : Con l Z y bytes maxl ret rm ws as h0 n0 Q := by
  refine MetFree.of_bodySF hpl hisR ?_
  intro p e s m args below meth c s₁ Bd hml0 hP hK
  obtain ⟨rfl, hZ, hh⟩ := hP
  have hlk : meth.locks = false := BodyLoose.notSynchronized Bd
  have X0 : Stand p l e rm s m _ below meth c s₁ [] 0 0 := Stand.of_body Bd
  have e0 : s₁.heap = h0 := by rw [← hh, Bd.state]; rfl
  obtain ⟨t, o, h1, h2, h3, v, L, h4, h5, h6⟩ := B p e s m below meth c ⟨Bd.exec, hZ, findClass_of_methodNamed Bd.named, Bd.bytes, hml0, Bd.returns, hlk, (name_of_methodNamed Bd.named Bd.method).1, by rw [hh]; exact hn0⟩ s₁ [] (Fr.nil n0) X0 e0
  exact ⟨t, o, castTop (he m) h1, h2, h3, v, L, h4, h5, h6⟩
theorem g_callS (C : Cx p s m meth c Z n0 own bytes maxl ret nm) {y : MethodName} {by' : ByteArray} {ml : Nat} {rt : Option FieldType} {rm : Room} {as : Array Value} {Q' : Option Value → Heap → Prop} (con : Con l Z y by' ml rt rm [] as h n0 Q') {i : Nat} (w1 : (Cond.methodLink own i y).before a0 Z = true) (w2 : (Cond.static y).before a0 Z = true) (w3 : (Cond.initialized y.cls).before a0 Z = true) (w4 : (Cond.code y by' ml rt).before a0 Z = true) (hy : y.cls ≠ "java/lang/invoke/MethodHandle" ∧ y.cls ≠ "java/lang/invoke/VarHandle")
    (d : In bytes pc 3 (.invokestatic i) pc') {ps : List FieldType} {r : Option FieldType} (hpd : parseMethodDescriptor y.desc = some ⟨ps, r⟩) (argsL rest : List Value) (has : as = argsL.toArray) (hlen : argsL.length = ps.length) (hsz : Ls.size = maxl) (W : Nat) (hW : (rest.map fun v => v.category).sum ≤ W) (r1 : rm.frames + 1 ≤ R.frames) (r2 : W + (ml + 11) + rm.locals ≤ R.locals) (r3 : k + rm.cells ≤ R.cells) (r4 : n + rm.slots ≤ R.slots)
    (G : ∀ v h', Q' v h' → Go p l e R s m args below meth c n0 Q K N h' (k + rm.cells) (n + rm.slots) (mkF m pc' Ls (v.toList ++ rest))) : Go p l e R s m args below meth c n0 Q K N h k n (mkF m pc Ls (argsL.reverse ++ rest)) := by
  obtain ⟨d, rfl⟩ := d
  intro T L hL X eT
  obtain ⟨v, vm₁, ⟨T', L2, k2, n2⟩, -, X', ⟨Lc, hQ, l2, y2, z2⟩, st'⟩ := Jvm.LawKit.callS X C.1 (y := y) C.2.2.1 (mvT C.2.1 w1) (mvT C.2.1 w2) (mvT C.2.1 w3) (mvT C.2.1 w4) hy (backOf (W := W) (Q := fun v h L => Q' v h ∧ Fr n0 L) con C.2.1 w4 w3 r1 r2) (g := mkF m pc Ls (argsL.reverse ++ rest)) rfl (by rw [C.2.2.2.2.1]; exact hsz) (argsL := argsL) (rest := rest) (lenOf hpd hlen) rfl (by show 2 * 0 + _ ≤ _; omega) (hb C.2.2.2.1 d) (fun _ _ => ⟨has.symm, eT, r3, r4⟩)
  dsimp only [Pt.U, Pt.locs, Pt.cells, Pt.slots] at X' l2 y2 z2 st' hQ
  subst l2 y2 z2
  obtain ⟨t, o, h1, h2⟩ := G v T'.heap hQ.1 T' _ (Fr.app hL hQ.2) X' rfl
  exact ⟨t, o, st' t h1, h2⟩
theorem g_callI (C : Cx p s m meth c Z n0 own bytes maxl ret nm) {y : MethodName} {by' : ByteArray} {ml : Nat} {rm : Room} {as : Array Value} {Q' : Option Value → Heap → Prop} (con : Con l Z y by' ml none rm [] as h n0 Q') {i : Nat} (hini : y.name = "<init>") (w1 : (Cond.methodLink own i y).before a0 Z = true) (w2 : (Cond.instanceMethod y).before a0 Z = true) (w3 : (Cond.initialized y.cls).before a0 Z = true) (w4 : (Cond.code y by' ml none).before a0 Z = true) (hy : y.cls ≠ "java/lang/invoke/MethodHandle" ∧ y.cls ≠ "java/lang/invoke/VarHandle")
    (d : In bytes pc 3 (.invokespecial i) pc') {ps : List FieldType} {r : Option FieldType} (hpd : parseMethodDescriptor y.desc = some ⟨ps, r⟩) {a : Addr} (argsL rest : List Value) (has : as = (.ref a :: argsL).toArray) (hlen : argsL.length = ps.length) (hsz : Ls.size = maxl) (W : Nat) (hW : (rest.map fun v => v.category).sum ≤ W) (r1 : rm.frames + 1 ≤ R.frames) (r2 : W + (ml + 11) + rm.locals ≤ R.locals) (r3 : k + rm.cells ≤ R.cells) (r4 : n + rm.slots ≤ R.slots)
    (G : ∀ v h', Q' v h' → Go p l e R s m args below meth c n0 Q K N h' (k + rm.cells) (n + rm.slots) (mkF m pc' Ls (v.toList ++ rest))) : Go p l e R s m args below meth c n0 Q K N h k n (mkF m pc Ls (argsL.reverse ++ .ref a :: rest)) := by
  obtain ⟨d, rfl⟩ := d
  intro T L hL X eT
  obtain ⟨v, vm₁, ⟨T', L2, k2, n2⟩, -, X', ⟨Lc, hQ, l2, y2, z2⟩, st'⟩ := X.specialBack C.1 (y := y) hini C.2.2.1 (mvT C.2.1 w1) (mvT C.2.1 w2) (mvT C.2.1 w4) hy (backOf (W := W) (Q := fun v h L => Q' v h ∧ Fr n0 L) con C.2.1 w4 w3 r1 r2) (g := mkF m pc Ls (argsL.reverse ++ .ref a :: rest)) rfl (by rw [C.2.2.2.2.1]; exact hsz) (Steps.refl _) (a := a) (argsL := argsL) (rest := rest) (lenOf hpd hlen) rfl (by show 2 * 0 + _ ≤ _; omega) (hb C.2.2.2.1 d) (fun _ _ => ⟨has.symm, eT, r3, r4⟩)
  dsimp only [Pt.U, Pt.locs, Pt.cells, Pt.slots] at X' l2 y2 z2 st' hQ
  subst l2 y2 z2
  obtain ⟨t, o, h1, h2⟩ := G v T'.heap hQ.1 T' _ (Fr.app hL hQ.2) X' rfl
  exact ⟨t, o, st'.trans h1, h2⟩
theorem g_callV (C : Cx p s m meth c Z n0 own bytes maxl ret nm) {y : MethodName} {by' : ByteArray} {ml : Nat} {rt : Option FieldType} {rm : Room} {as : Array Value} {Q' : Option Value → Heap → Prop} (con : Con l Z y by' ml rt rm [] as h n0 Q') {i : Nat} (w1 : (Cond.methodLink own i y).before a0 Z = true) (w2 : (Cond.declares y).before a0 Z = true) (w5 : (Cond.instanceMethod y).before a0 Z = true) {K' : String} (w6 : (Cond.selects K' y y).before a0 Z = true) (w3 : (Cond.initialized y.cls).before a0 Z = true) (w4 : (Cond.code y by' ml rt).before a0 Z = true) (hy : y.cls ≠ "java/lang/invoke/MethodHandle" ∧ y.cls ≠ "java/lang/invoke/VarHandle")
    (d : In bytes pc 3 (.invokevirtual i) pc') {ps : List FieldType} {r : Option FieldType} (hpd : parseMethodDescriptor y.desc = some ⟨ps, r⟩) {a : Addr} (E : Exa Z h a K') (argsL rest : List Value) (has : as = (.ref a :: argsL).toArray) (hlen : argsL.length = ps.length) (hsz : Ls.size = maxl) (W : Nat) (hW : (rest.map fun v => v.category).sum ≤ W) (r1 : rm.frames + 1 ≤ R.frames) (r2 : W + (ml + 11) + rm.locals ≤ R.locals) (r3 : k + rm.cells ≤ R.cells) (r4 : n + rm.slots ≤ R.slots)
    (G : ∀ v h', Q' v h' → Go p l e R s m args below meth c n0 Q K N h' (k + rm.cells) (n + rm.slots) (mkF m pc' Ls (v.toList ++ rest))) : Go p l e R s m args below meth c n0 Q K N h k n (mkF m pc Ls (argsL.reverse ++ .ref a :: rest)) := by
  obtain ⟨d, rfl⟩ := d
  intro T L hL X eT
  obtain ⟨cq, kq, q1, q2, q3⟩ := isOf C.2.1 eT E
  obtain ⟨v, vm₁, ⟨T', L2, k2, n2⟩, -, X', ⟨Lc, hQ, l2, y2, z2⟩, st'⟩ := X.virtualBack C.1 (y := y) (z := y) C.2.2.1 (mvT C.2.1 w1) (mvT C.2.1 w2) (notFace_of_selects (args := #[]) (mvT C.2.1 w6)) (mvT C.2.1 w6) (mvT C.2.1 w5) hy (backOf (W := W) (Q := fun v h L => Q' v h ∧ Fr n0 L) con C.2.1 w4 w3 r1 r2) q1 q3 (g := mkF m pc Ls (argsL.reverse ++ .ref a :: rest)) rfl (by rw [C.2.2.2.2.1]; exact hsz) (Steps.refl _) (argsL := argsL) (rest := rest) (lenOf hpd hlen) rfl (by show 2 * 0 + _ ≤ _; omega) (hb C.2.2.2.1 d) (fun _ _ => ⟨has.symm, eT, r3, r4⟩)
  dsimp only [Pt.U, Pt.locs, Pt.cells, Pt.slots] at X' l2 y2 z2 st' hQ
  subst l2 y2 z2
  obtain ⟨t, o, h1, h2⟩ := G v T'.heap hQ.1 T' _ (Fr.app hL hQ.2) X' rfl
  exact ⟨t, o, st'.trans h1, h2⟩
theorem g_callP (C : Cx p s m meth c Z n0 own bytes maxl ret nm) {y : MethodName} {by' : ByteArray} {ml : Nat} {rt : Option FieldType} {rm : Room} {as : Array Value} {Q' : Option Value → Heap → Prop} (con : Con l Z y by' ml rt rm [] as h n0 Q') {i : Nat} (w1 : (Cond.methodLink own i y).before a0 Z = true) (w5 : (Cond.instanceMethod y).before a0 Z = true) (w6 : (Cond.selects y.cls y y).before a0 Z = true) (w7 : (Cond.privateMethod y).before a0 Z = true) (w3 : (Cond.initialized y.cls).before a0 Z = true) (w4 : (Cond.code y by' ml rt).before a0 Z = true) (hy : y.cls ≠ "java/lang/invoke/MethodHandle" ∧ y.cls ≠ "java/lang/invoke/VarHandle")
    (d : In bytes pc 3 (.invokevirtual i) pc') {ps : List FieldType} {r : Option FieldType} (hpd : parseMethodDescriptor y.desc = some ⟨ps, r⟩) {a : Addr} {K' : String} (E : Exa Z h a K') (argsL rest : List Value) (has : as = (.ref a :: argsL).toArray) (hlen : argsL.length = ps.length) (hsz : Ls.size = maxl) (W : Nat) (hW : (rest.map fun v => v.category).sum ≤ W) (r1 : rm.frames + 1 ≤ R.frames) (r2 : W + (ml + 11) + rm.locals ≤ R.locals) (r3 : k + rm.cells ≤ R.cells) (r4 : n + rm.slots ≤ R.slots)
    (G : ∀ v h', Q' v h' → Go p l e R s m args below meth c n0 Q K N h' (k + rm.cells) (n + rm.slots) (mkF m pc' Ls (v.toList ++ rest))) : Go p l e R s m args below meth c n0 Q K N h k n (mkF m pc Ls (argsL.reverse ++ .ref a :: rest)) := by
  obtain ⟨d, rfl⟩ := d
  intro T L hL X eT
  obtain ⟨cq, q1, q2⟩ := E.cell
  obtain ⟨v, vm₁, ⟨T', L2, k2, n2⟩, -, X', ⟨Lc, hQ, l2, y2, z2⟩, st'⟩ := X.privateBack C.1 (y := y) C.2.2.1 (mvT C.2.1 w1) (mvT C.2.1 w5) (mvT C.2.1 w6) (Cond.privateMethod_at (mvP C.2.1 w7 (args := #[]))) (mvT C.2.1 w4) hy (backOf (W := W) (Q := fun v h L => Q' v h ∧ Fr n0 L) con C.2.1 w4 w3 r1 r2) (g := mkF m pc Ls (argsL.reverse ++ .ref a :: rest)) rfl (by rw [C.2.2.2.2.1]; exact hsz) (Steps.refl _) (a := a) (by rw [eT]; exact q1) q2 (argsL := argsL) (rest := rest) (lenOf hpd hlen) rfl (by show 2 * 0 + _ ≤ _; omega) (hb C.2.2.2.1 d) (fun _ _ => ⟨has.symm, eT, r3, r4⟩)
  dsimp only [Pt.U, Pt.locs, Pt.cells, Pt.slots] at X' l2 y2 z2 st' hQ
  subst l2 y2 z2
  obtain ⟨t, o, h1, h2⟩ := G v T'.heap hQ.1 T' _ (Fr.app hL hQ.2) X' rfl
  exact ⟨t, o, st'.trans h1, h2⟩
/-- an array of z places at a, whose contents are f -/
def LArr (Z : State) (h : Heap) (a : Addr) (z : Nat) (f : Nat → Int64) : Prop := ∃ c : Cell, Arr Z h a c .long ∧ c.slots.size = z ∧ z < 2 ^ 31 ∧ ∀ i, i < z → c.slots[i]? = some (.long (f i))
theorem LArr.lt {a : Addr} {z : Nat} {f : Nat → Int64} (A : LArr Z h a z f) : a < h.size := by obtain ⟨c, A, -⟩ := A; exact A.lt
theorem LArr.ext {h' : Heap} {a : Addr} {z : Nat} {f : Nat → Int64} (A : LArr Z h a z f) (E : Ext h h') : LArr Z h' a z f := by obtain ⟨c, A, r⟩ := A; exact ⟨c, A.ext E, r⟩
theorem LArr.other {h' : Heap} {a b : Addr} {sl : Nat} {v : Value} {z : Nat} {f : Nat → Int64} (A : LArr Z h b z f) (W : Wr h h' a sl v) (q : b ≠ a) : LArr Z h' b z f := by obtain ⟨c, A, r⟩ := A; exact ⟨c, A.other W q, r⟩
theorem LArr.keep {h' : Heap} {a : Addr} {ws : List Addr} {z : Nat} {f : Nat → Int64} (A : LArr Z h a z f) (K : Keep h h' ws) (q : a ∉ ws) : LArr Z h' a z f := by obtain ⟨c, A, r⟩ := A; exact ⟨c, ⟨K.2.1 a c A.1 q, A.2⟩, r⟩
theorem LArr.congr {a : Addr} {z : Nat} {f g : Nat → Int64} (A : LArr Z h a z f) (q : ∀ i, i < z → g i = f i) : LArr Z h a z g := by obtain ⟨c, A, r1, r2, r3⟩ := A; exact ⟨c, A, r1, r2, fun i hi => by rw [q i hi]; exact r3 i hi⟩
theorem LArr.new {a : Addr} {kA : ClassId} {z : Int32} (A : Arr Z h a (newA kA .long z) .long) : LArr Z h a z.toNatClampNeg (fun _ => 0) :=
  ⟨_, A, sz_new _ _ _, z.toNatClampNeg_lt, fun i hi => by simp [newA, hi, defaultValue]⟩
theorem LArr.set {h' : Heap} {a : Addr} {z j : Nat} {x : Int64} {f : Nat → Int64} (A : LArr Z h a z f) (W : Wr h h' a j (.long x)) : LArr Z h' a z (fun i => if i = j then x else f i) := by
  obtain ⟨c, A, r1, r2, r3⟩ := A
  refine ⟨_, A.same W, by simp [Cell.setSlot, r1], r2, fun i hi => ?_⟩
  by_cases q : i = j
  · subst q
    simp [Cell.setSlot, r1, hi]
  · simp only [q, if_false]
    rw [← r3 i hi]
    exact Array.getElem?_setIfInBounds_ne (Ne.symm q)
theorem g_laload (C : Cx p s m meth c Z n0 own bytes maxl ret nm) (d : In bytes pc 1 .laload pc') {a : Addr} {z : Nat} {f : Nat → Int64} {j : Int32} (A : LArr Z h a z f) (h1 : 0 ≤ j.toInt) (h2 : j.toInt < z) (v : Int64) (hv : f j.toInt.toNat = v) (G : Go p l e R s m args below meth c n0 Q K N h k n (mkF m pc' Ls (.long v :: st))) : Go p l e R s m args below meth c n0 Q K N h k n (mkF m pc Ls (.int j :: .ref a :: st)) := by
  obtain ⟨d, rfl⟩ := d
  obtain ⟨cl, A, r1, r2, r3⟩ := A
  have e1 : j.toNatClampNeg = j.toInt.toNat := rfl
  have hj : ¬ (j < 0 ∨ cl.slots.size ≤ j.toNatClampNeg) := by
    rw [Int32.lt_iff_toInt_lt, show (0 : Int32).toInt = 0 from rfl, r1, e1]; omega
  have hat : cl.slots[j.toNatClampNeg]? = some (.long v) := by rw [← hv, e1]; exact r3 _ (by omega)
  exact g_st (fun X eT t kt => X.laload C.1 (j := j) (v := .long v) (by rw [eT]; exact A.1) (State.isArrayOf_alike C.2.1.alike A.2.1) A.2.2 hj hat (g := mkF m pc Ls (.int j :: .ref a :: st)) rfl rfl (hb C.2.2.2.1 d) _ kt) G
theorem g_lastore (C : Cx p s m meth c Z n0 own bytes maxl ret nm) (d : In bytes pc 1 .lastore pc') {a : Addr} {z : Nat} {f : Nat → Int64} {j : Int32} {x : Int64} (A : LArr Z h a z f) (h1 : 0 ≤ j.toInt) (h2 : j.toInt < z) (ge : n0 ≤ a) (G : ∀ h', Wr h h' a j.toInt.toNat (.long x) → Go p l e R s m args below meth c n0 Q K N h' k n (mkF m pc' Ls st)) : Go p l e R s m args below meth c n0 Q K N h k n (mkF m pc Ls (.long x :: .int j :: .ref a :: st)) := by
  obtain ⟨d, rfl⟩ := d
  obtain ⟨cl, A, r1, r2, r3⟩ := A
  have e1 : j.toNatClampNeg = j.toInt.toNat := rfl
  have hj : ¬ (j < 0 ∨ cl.slots.size ≤ j.toNatClampNeg) := by
    rw [Int32.lt_iff_toInt_lt, show (0 : Int32).toInt = 0 from rfl, r1, e1]; omega
  intro T L hL X eT
  obtain ⟨T', h', X', e', W', st'⟩ := stJ X C.1 C.2.1 eT A (j := j) hj (g := mkF m pc Ls (.long x :: .int j :: .ref a :: st)) rfl rfl (hb C.2.2.2.1 d)
  obtain ⟨t, o, h1, h2⟩ := G h' W' T' _ (Fr.snoc X' hL ge) X' e'
  exact ⟨t, o, st' t h1, h2⟩
theorem g_lenLArr (C : Cx p s m meth c Z n0 own bytes maxl ret nm) (d : In bytes pc 1 .arraylength pc') {a : Addr} {z : Nat} {f : Nat → Int64} (A : LArr Z h a z f) (v : Int32) (hv : v = Int32.ofNat z) (G : Go p l e R s m args below meth c n0 Q K N h k n (mkF m pc' Ls (.int v :: st))) : Go p l e R s m args below meth c n0 Q K N h k n (mkF m pc Ls (.ref a :: st)) := by
  obtain ⟨d, rfl⟩ := d
  obtain ⟨cl, A, r1, r2, r3⟩ := A
  refine g_st (fun X eT t kt => X.arraylength C.1 (by rw [eT]; exact A.1) (State.isArrayOf_alike C.2.1.alike A.2.1) (g := mkF m pc Ls (.ref a :: st)) rfl rfl (hb C.2.2.2.1 d) _ ?_) G
  rw [r1]
  subst hv
  exact kt
/-- an array of z places at a, whose contents are f -/
def IArr (Z : State) (h : Heap) (a : Addr) (z : Nat) (f : Nat → Int32) : Prop := ∃ c : Cell, Arr Z h a c .int ∧ c.slots.size = z ∧ z < 2 ^ 31 ∧ ∀ i, i < z → c.slots[i]? = some (.int (f i))
theorem IArr.lt {a : Addr} {z : Nat} {f : Nat → Int32} (A : IArr Z h a z f) : a < h.size := by obtain ⟨c, A, -⟩ := A; exact A.lt
theorem IArr.ext {h' : Heap} {a : Addr} {z : Nat} {f : Nat → Int32} (A : IArr Z h a z f) (E : Ext h h') : IArr Z h' a z f := by obtain ⟨c, A, r⟩ := A; exact ⟨c, A.ext E, r⟩
theorem IArr.other {h' : Heap} {a b : Addr} {sl : Nat} {v : Value} {z : Nat} {f : Nat → Int32} (A : IArr Z h b z f) (W : Wr h h' a sl v) (q : b ≠ a) : IArr Z h' b z f := by obtain ⟨c, A, r⟩ := A; exact ⟨c, A.other W q, r⟩
theorem IArr.keep {h' : Heap} {a : Addr} {ws : List Addr} {z : Nat} {f : Nat → Int32} (A : IArr Z h a z f) (K : Keep h h' ws) (q : a ∉ ws) : IArr Z h' a z f := by obtain ⟨c, A, r⟩ := A; exact ⟨c, ⟨K.2.1 a c A.1 q, A.2⟩, r⟩
theorem IArr.congr {a : Addr} {z : Nat} {f g : Nat → Int32} (A : IArr Z h a z f) (q : ∀ i, i < z → g i = f i) : IArr Z h a z g := by obtain ⟨c, A, r1, r2, r3⟩ := A; exact ⟨c, A, r1, r2, fun i hi => by rw [q i hi]; exact r3 i hi⟩
theorem IArr.new {a : Addr} {kA : ClassId} {z : Int32} (A : Arr Z h a (newA kA .int z) .int) : IArr Z h a z.toNatClampNeg (fun _ => 0) :=
  ⟨_, A, sz_new _ _ _, z.toNatClampNeg_lt, fun i hi => by simp [newA, hi, defaultValue]⟩
theorem IArr.set {h' : Heap} {a : Addr} {z j : Nat} {x : Int32} {f : Nat → Int32} (A : IArr Z h a z f) (W : Wr h h' a j (.int x)) : IArr Z h' a z (fun i => if i = j then x else f i) := by
  obtain ⟨c, A, r1, r2, r3⟩ := A
  refine ⟨_, A.same W, by simp [Cell.setSlot, r1], r2, fun i hi => ?_⟩
  by_cases q : i = j
  · subst q
    simp [Cell.setSlot, r1, hi]
  · simp only [q, if_false]
    rw [← r3 i hi]
    exact Array.getElem?_setIfInBounds_ne (Ne.symm q)
theorem g_iaload (C : Cx p s m meth c Z n0 own bytes maxl ret nm) (d : In bytes pc 1 .iaload pc') {a : Addr} {z : Nat} {f : Nat → Int32} {j : Int32} (A : IArr Z h a z f) (h1 : 0 ≤ j.toInt) (h2 : j.toInt < z) (v : Int32) (hv : f j.toInt.toNat = v) (G : Go p l e R s m args below meth c n0 Q K N h k n (mkF m pc' Ls (.int v :: st))) : Go p l e R s m args below meth c n0 Q K N h k n (mkF m pc Ls (.int j :: .ref a :: st)) := by
  obtain ⟨d, rfl⟩ := d
  obtain ⟨cl, A, r1, r2, r3⟩ := A
  have e1 : j.toNatClampNeg = j.toInt.toNat := rfl
  have hj : ¬ (j < 0 ∨ cl.slots.size ≤ j.toNatClampNeg) := by
    rw [Int32.lt_iff_toInt_lt, show (0 : Int32).toInt = 0 from rfl, r1, e1]; omega
  have hat : cl.slots[j.toNatClampNeg]? = some (.int v) := by rw [← hv, e1]; exact r3 _ (by omega)
  exact g_st (fun X eT t kt => X.iaload C.1 (j := j) (v := .int v) (by rw [eT]; exact A.1) (State.isArrayOf_alike C.2.1.alike A.2.1) A.2.2 hj hat (g := mkF m pc Ls (.int j :: .ref a :: st)) rfl rfl (hb C.2.2.2.1 d) _ kt) G
theorem g_iastore (C : Cx p s m meth c Z n0 own bytes maxl ret nm) (d : In bytes pc 1 .iastore pc') {a : Addr} {z : Nat} {f : Nat → Int32} {j : Int32} {x : Int32} (A : IArr Z h a z f) (h1 : 0 ≤ j.toInt) (h2 : j.toInt < z) (ge : n0 ≤ a) (G : ∀ h', Wr h h' a j.toInt.toNat (.int x) → Go p l e R s m args below meth c n0 Q K N h' k n (mkF m pc' Ls st)) : Go p l e R s m args below meth c n0 Q K N h k n (mkF m pc Ls (.int x :: .int j :: .ref a :: st)) := by
  obtain ⟨d, rfl⟩ := d
  obtain ⟨cl, A, r1, r2, r3⟩ := A
  have e1 : j.toNatClampNeg = j.toInt.toNat := rfl
  have hj : ¬ (j < 0 ∨ cl.slots.size ≤ j.toNatClampNeg) := by
    rw [Int32.lt_iff_toInt_lt, show (0 : Int32).toInt = 0 from rfl, r1, e1]; omega
  intro T L hL X eT
  obtain ⟨T', h', X', e', W', st'⟩ := stI X C.1 C.2.1 eT A (j := j) hj (g := mkF m pc Ls (.int x :: .int j :: .ref a :: st)) rfl rfl (hb C.2.2.2.1 d)
  obtain ⟨t, o, h1, h2⟩ := G h' W' T' _ (Fr.snoc X' hL ge) X' e'
  exact ⟨t, o, st' t h1, h2⟩
theorem g_lenIArr (C : Cx p s m meth c Z n0 own bytes maxl ret nm) (d : In bytes pc 1 .arraylength pc') {a : Addr} {z : Nat} {f : Nat → Int32} (A : IArr Z h a z f) (v : Int32) (hv : v = Int32.ofNat z) (G : Go p l e R s m args below meth c n0 Q K N h k n (mkF m pc' Ls (.int v :: st))) : Go p l e R s m args below meth c n0 Q K N h k n (mkF m pc Ls (.ref a :: st)) := by
  obtain ⟨d, rfl⟩ := d
  obtain ⟨cl, A, r1, r2, r3⟩ := A
  refine g_st (fun X eT t kt => X.arraylength C.1 (by rw [eT]; exact A.1) (State.isArrayOf_alike C.2.1.alike A.2.1) (g := mkF m pc Ls (.ref a :: st)) rfl rfl (hb C.2.2.2.1 d) _ ?_) G
  rw [r1]
  subst hv
  exact kt
/-- an array of z places at a, whose contents are f -/
def BArr (Z : State) (h : Heap) (a : Addr) (z : Nat) (f : Nat → Int32) : Prop := ∃ c : Cell, Arr Z h a c .byte ∧ c.slots.size = z ∧ z < 2 ^ 31 ∧ ∀ i, i < z → c.slots[i]? = some (.int (f i))
theorem BArr.lt {a : Addr} {z : Nat} {f : Nat → Int32} (A : BArr Z h a z f) : a < h.size := by obtain ⟨c, A, -⟩ := A; exact A.lt
theorem BArr.ext {h' : Heap} {a : Addr} {z : Nat} {f : Nat → Int32} (A : BArr Z h a z f) (E : Ext h h') : BArr Z h' a z f := by obtain ⟨c, A, r⟩ := A; exact ⟨c, A.ext E, r⟩
theorem BArr.other {h' : Heap} {a b : Addr} {sl : Nat} {v : Value} {z : Nat} {f : Nat → Int32} (A : BArr Z h b z f) (W : Wr h h' a sl v) (q : b ≠ a) : BArr Z h' b z f := by obtain ⟨c, A, r⟩ := A; exact ⟨c, A.other W q, r⟩
theorem BArr.keep {h' : Heap} {a : Addr} {ws : List Addr} {z : Nat} {f : Nat → Int32} (A : BArr Z h a z f) (K : Keep h h' ws) (q : a ∉ ws) : BArr Z h' a z f := by obtain ⟨c, A, r⟩ := A; exact ⟨c, ⟨K.2.1 a c A.1 q, A.2⟩, r⟩
theorem BArr.congr {a : Addr} {z : Nat} {f g : Nat → Int32} (A : BArr Z h a z f) (q : ∀ i, i < z → g i = f i) : BArr Z h a z g := by obtain ⟨c, A, r1, r2, r3⟩ := A; exact ⟨c, A, r1, r2, fun i hi => by rw [q i hi]; exact r3 i hi⟩
theorem BArr.new {a : Addr} {kA : ClassId} {z : Int32} (A : Arr Z h a (newA kA .byte z) .byte) : BArr Z h a z.toNatClampNeg (fun _ => 0) :=
  ⟨_, A, sz_new _ _ _, z.toNatClampNeg_lt, fun i hi => by simp [newA, hi, defaultValue]⟩
theorem BArr.set {h' : Heap} {a : Addr} {z j : Nat} {x : Int32} {f : Nat → Int32} (A : BArr Z h a z f) (W : Wr h h' a j (.int x)) : BArr Z h' a z (fun i => if i = j then x else f i) := by
  obtain ⟨c, A, r1, r2, r3⟩ := A
  refine ⟨_, A.same W, by simp [Cell.setSlot, r1], r2, fun i hi => ?_⟩
  by_cases q : i = j
  · subst q
    simp [Cell.setSlot, r1, hi]
  · simp only [q, if_false]
    rw [← r3 i hi]
    exact Array.getElem?_setIfInBounds_ne (Ne.symm q)
theorem g_baload (C : Cx p s m meth c Z n0 own bytes maxl ret nm) (d : In bytes pc 1 .baload pc') {a : Addr} {z : Nat} {f : Nat → Int32} {j : Int32} (A : BArr Z h a z f) (h1 : 0 ≤ j.toInt) (h2 : j.toInt < z) (v : Int32) (hv : f j.toInt.toNat = v) (G : Go p l e R s m args below meth c n0 Q K N h k n (mkF m pc' Ls (.int v :: st))) : Go p l e R s m args below meth c n0 Q K N h k n (mkF m pc Ls (.int j :: .ref a :: st)) := by
  obtain ⟨d, rfl⟩ := d
  obtain ⟨cl, A, r1, r2, r3⟩ := A
  have e1 : j.toNatClampNeg = j.toInt.toNat := rfl
  have hj : ¬ (j < 0 ∨ cl.slots.size ≤ j.toNatClampNeg) := by
    rw [Int32.lt_iff_toInt_lt, show (0 : Int32).toInt = 0 from rfl, r1, e1]; omega
  have hat : cl.slots[j.toNatClampNeg]? = some (.int v) := by rw [← hv, e1]; exact r3 _ (by omega)
  exact g_st (fun X eT t kt => X.baloadBytes C.1 (j := j) (v := .int v) (by rw [eT]; exact A.1) (State.isArrayOf_alike C.2.1.alike A.2.1) A.2.2 hj hat (g := mkF m pc Ls (.int j :: .ref a :: st)) rfl rfl (hb C.2.2.2.1 d) _ kt) G
theorem g_bastore (C : Cx p s m meth c Z n0 own bytes maxl ret nm) (d : In bytes pc 1 .bastore pc') {a : Addr} {z : Nat} {f : Nat → Int32} {j : Int32} {x : Int32} (A : BArr Z h a z f) (h1 : 0 ≤ j.toInt) (h2 : j.toInt < z) (ge : n0 ≤ a) (G : ∀ h', Wr h h' a j.toInt.toNat (.int x.toInt8.toInt32) → Go p l e R s m args below meth c n0 Q K N h' k n (mkF m pc' Ls st)) : Go p l e R s m args below meth c n0 Q K N h k n (mkF m pc Ls (.int x :: .int j :: .ref a :: st)) := by
  obtain ⟨d, rfl⟩ := d
  obtain ⟨cl, A, r1, r2, r3⟩ := A
  have e1 : j.toNatClampNeg = j.toInt.toNat := rfl
  have hj : ¬ (j < 0 ∨ cl.slots.size ≤ j.toNatClampNeg) := by
    rw [Int32.lt_iff_toInt_lt, show (0 : Int32).toInt = 0 from rfl, r1, e1]; omega
  intro T L hL X eT
  obtain ⟨T', h', X', e', W', st'⟩ := stB X C.1 C.2.1 eT A (j := j) hj (g := mkF m pc Ls (.int x :: .int j :: .ref a :: st)) rfl rfl (hb C.2.2.2.1 d)
  obtain ⟨t, o, h1, h2⟩ := G h' W' T' _ (Fr.snoc X' hL ge) X' e'
  exact ⟨t, o, st' t h1, h2⟩
theorem g_lenBArr (C : Cx p s m meth c Z n0 own bytes maxl ret nm) (d : In bytes pc 1 .arraylength pc') {a : Addr} {z : Nat} {f : Nat → Int32} (A : BArr Z h a z f) (v : Int32) (hv : v = Int32.ofNat z) (G : Go p l e R s m args below meth c n0 Q K N h k n (mkF m pc' Ls (.int v :: st))) : Go p l e R s m args below meth c n0 Q K N h k n (mkF m pc Ls (.ref a :: st)) := by
  obtain ⟨d, rfl⟩ := d
  obtain ⟨cl, A, r1, r2, r3⟩ := A
  refine g_st (fun X eT t kt => X.arraylength C.1 (by rw [eT]; exact A.1) (State.isArrayOf_alike C.2.1.alike A.2.1) (g := mkF m pc Ls (.ref a :: st)) rfl rfl (hb C.2.2.2.1 d) _ ?_) G
  rw [r1]
  subst hv
  exact kt
theorem g_join {ι : Type} (hh : ι → Heap) (k' n' : Nat) (f : ι → JFrame) (P : ι → Prop) {f0 : JFrame} (H : (∀ x, P x → Go p l e R s m args below meth c n0 Q K N (hh x) (k') (n') ((f x))) → Go p l e R s m args below meth c n0 Q K N h k n f0) (G : ∀ x, P x → Go p l e R s m args below meth c n0 Q K N (hh x) (k') (n') ((f x))) : Go p l e R s m args below meth c n0 Q K N h k n f0 := H G
theorem g_loop {ι : Type} (hh : ι → Heap) (f : ι → JFrame) (P : ι → Prop) (μ : ι → Nat) (step : ∀ x, P x → (∀ y, P y → μ y < μ x → Go p l e R s m args below meth c n0 Q K N (hh y) k n ((f y))) → Go p l e R s m args below meth c n0 Q K N (hh x) k n ((f x))) : ∀ x, P x → Go p l e R s m args below meth c n0 Q K N (hh x) k n ((f x)) := by
  intro x
  generalize hm : μ x = t
  induction t using Nat.strongRecOn generalizing x with
  | _ t ih => exact fun hx => step x hx fun y hy hlt => ih (μ y) (by omega) y rfl hy
end Kit
def NN (x : Int64) : Nat := x.toBitVec.toNat
theorem NN_lt (x : Int64) : NN x < 18446744073709551616 := x.toBitVec.isLt
theorem NN_inj {x y : Int64} (h : NN x = NN y) : x = y := Int64.toBitVec_inj.mp (BitVec.eq_of_toNat_eq h)
theorem NN_and (x y : Int64) : NN (x &&& y) = NN x &&& NN y := BitVec.toNat_and x.toBitVec y.toBitVec
theorem NN_ushr (x : Int64) (q : Int32) (k : Nat) (hk : q.toBitVec.toNat % 64 = k) : NN (ushrJ x q) = NN x / 2 ^ k := by
  have h5 := (sm64 q k hk).2
  show (x.toBitVec >>> ((q &&& 0x3f).toInt64.toBitVec % 64)).toNat = x.toBitVec.toNat / 2 ^ k
  rw [BitVec.ushiftRight_eq', BitVec.toNat_ushiftRight, Nat.shiftRight_eq_div_pow, BitVec.toNat_umod, (sm64 q k hk).1, BitVec.toNat_ofNat]; congr 2; show k % 2 ^ 64 % 64 = k; omega
theorem and_not_zero (x m : BitVec 64) : x &&& ~~~m = 0 ↔ x &&& m = x := by
  constructor
  · intro h
    apply BitVec.eq_of_getLsbD_eq
    intro i hi
    have := congrArg (fun z => BitVec.getLsbD z i) h
    simp [hi] at this ⊢
    exact this
  · intro h
    apply BitVec.eq_of_getLsbD_eq
    intro i hi
    have := congrArg (fun z => BitVec.getLsbD z i) h
    simp [hi] at this ⊢
    exact this
theorem lo7 (x : Int64) : NN (x &&& 127) = NN x % 128 := by
  rw [NN_and, show NN 127 = 2 ^ 7 - 1 from rfl, Nat.and_two_pow_sub_one_eq_mod]
theorem hi7 (x : Int64) : x &&& (-128) = 0 ↔ NN x < 128 := by
  have e : x &&& (-128) = 0 ↔ x &&& 127 = x := by
    rw [← Int64.toBitVec_inj, ← Int64.toBitVec_inj, Int64.toBitVec_and, Int64.toBitVec_and, show (-128 : Int64).toBitVec = ~~~(127 : Int64).toBitVec from by decide]
    exact and_not_zero _ _
  rw [e]
  constructor
  · intro z; rw [← z, lo7]; omega
  · intro z; apply NN_inj; rw [lo7]; omega
/-- how many groups of seven bits -/
def LenOk (N L : Nat) : Prop := 1 ≤ L ∧ L ≤ 10 ∧ N < 128 ^ L ∧ (L = 1 ∨ 128 ^ (L - 1) ≤ N)
theorem lenE (N : Nat) (h : N < 18446744073709551616) : ∃ L, LenOk N L := by
  unfold LenOk
  by_cases h1 : N < 128 ^ 1
  · exact ⟨1, by decide, by decide, h1, Or.inl rfl⟩
  by_cases h2 : N < 128 ^ 2
  · exact ⟨2, by decide, by decide, h2, Or.inr (by show 128 ^ 1 ≤ N; omega)⟩
  by_cases h3 : N < 128 ^ 3
  · exact ⟨3, by decide, by decide, h3, Or.inr (by show 128 ^ 2 ≤ N; omega)⟩
  by_cases h4 : N < 128 ^ 4
  · exact ⟨4, by decide, by decide, h4, Or.inr (by show 128 ^ 3 ≤ N; omega)⟩
  by_cases h5 : N < 128 ^ 5
  · exact ⟨5, by decide, by decide, h5, Or.inr (by show 128 ^ 4 ≤ N; omega)⟩
  by_cases h6 : N < 128 ^ 6
  · exact ⟨6, by decide, by decide, h6, Or.inr (by show 128 ^ 5 ≤ N; omega)⟩
  by_cases h7 : N < 128 ^ 7
  · exact ⟨7, by decide, by decide, h7, Or.inr (by show 128 ^ 6 ≤ N; omega)⟩
  by_cases h8 : N < 128 ^ 8
  · exact ⟨8, by decide, by decide, h8, Or.inr (by show 128 ^ 7 ≤ N; omega)⟩
  by_cases h9 : N < 128 ^ 9
  · exact ⟨9, by decide, by decide, h9, Or.inr (by show 128 ^ 8 ≤ N; omega)⟩
  · exact ⟨10, by decide, by decide, by show N < 128 ^ 10; omega, Or.inr (by show 128 ^ 9 ≤ N; omega)⟩
theorem pow_mono {a b : Nat} (h : a ≤ b) : 128 ^ a ≤ 128 ^ b := Nat.pow_le_pow_right (by decide) h
theorem len_hit {N L t : Nat} (h : LenOk N L) (h1 : N < 128 ^ t) (h2 : t = 1 ∨ 128 ^ (t - 1) ≤ N) (ht : 1 ≤ t) : L = t := by
  obtain ⟨a, b, c, d⟩ := h
  rcases Nat.lt_trichotomy L t with q | q | q
  · rcases h2 with z | z
    · omega
    · have := pow_mono (show L ≤ t - 1 by omega); omega
  · exact q
  · rcases d with z | z
    · omega
    · have := pow_mono (show t ≤ L - 1 by omega); omega
theorem more_iff {N L j : Nat} (h : LenOk N L) (hj : j < L) : N / 128 ^ j < 128 ↔ j + 1 = L := by
  obtain ⟨a, b, c, d⟩ := h
  have e : 128 ^ (j + 1) = 128 ^ j * 128 := Nat.pow_succ 128 j
  have p := Nat.pow_pos (n := j) (show 0 < 128 by decide)
  rw [Nat.div_lt_iff_lt_mul p]
  constructor
  · intro z
    rcases Nat.lt_or_ge (j + 1) L with q | q
    · rcases d with y | y
      · omega
      · have := pow_mono (show j + 1 ≤ L - 1 by omega); rw [Nat.mul_comm] at z; omega
    · omega
  · rintro rfl; rw [Nat.mul_comm]; omega
/-- the value's j-th group and above -/
def cu (v : Int64) (j : Nat) : Int64 := ushrJ v (Int32.ofNat (7 * j))
theorem cu_NN (v : Int64) (j : Nat) (h : j ≤ 9) : NN (cu v j) = NN v / 128 ^ j := by
  have e : (Int32.ofNat (7 * j)).toBitVec.toNat % 64 = 7 * j := by
    show (7 * j) % 2 ^ 32 % 64 = 7 * j
    omega
  unfold cu
  rw [NN_ushr v _ _ e, Nat.pow_mul]
theorem cu_0 (v : Int64) : cu v 0 = v := NN_inj (by rw [cu_NN v 0 (by decide), Nat.pow_zero, Nat.div_one])
theorem cu_s (v : Int64) (j : Nat) (h : j + 1 ≤ 9) : ushrJ (cu v j) 7 = cu v (j + 1) := by
  apply NN_inj
  rw [NN_ushr _ 7 7 (by decide), cu_NN v j (by omega), cu_NN v (j + 1) h, Nat.div_div_eq_div_mul, Nat.pow_succ 128 j]
/-- the byte that stands for a group -/
def b1 (x : Int64) : Int32 := ((x &&& 127).toInt32 ||| 128).toInt8.toInt32
def b0 (x : Int64) : Int32 := (x &&& 127).toInt32.toInt8.toInt32
theorem x7 (x : Int64) : ∃ m : Fin 128, x &&& 127 = Int64.ofNat m.val := by
  have h := lo7 x
  refine ⟨⟨NN (x &&& 127), by omega⟩, NN_inj ?_⟩
  show _ = (NN (x &&& 127)) % 2 ^ 64
  have := NN_lt (x &&& 127)
  omega
theorem b1_eq (x : Int64) : ((x &&& 127) ||| 128).toInt32.toInt8.toInt32.toInt8.toInt32 = b1 x := by
  obtain ⟨m, e⟩ := x7 x
  have : ∀ m : Fin 128, ((Int64.ofNat m.val) ||| 128).toInt32.toInt8.toInt32.toInt8.toInt32 = ((Int64.ofNat m.val).toInt32 ||| 128).toInt8.toInt32 := by decide +kernel
  unfold b1
  rw [e]; exact this m
theorem b0_eq (x : Int64) (h : NN x < 128) : x.toInt32.toInt8.toInt32.toInt8.toInt32 = b0 x := by
  have e1 : x &&& 127 = x := NN_inj (by rw [lo7]; omega)
  obtain ⟨m, e⟩ := x7 x
  have : ∀ m : Fin 128, (Int64.ofNat m.val).toInt32.toInt8.toInt32.toInt8.toInt32 = (Int64.ofNat m.val).toInt32.toInt8.toInt32 := by decide +kernel
  unfold b0
  rw [e1] at e ⊢
  rw [e]; exact this m
theorem byte2 (x : Int32) : x.toInt8.toInt32.toInt8.toInt32 = x.toInt8.toInt32 := by simp
/-- the bytes behind j written groups of L -/
def pf (v : Int64) (off L j : Nat) (f : Nat → Int32) : Nat → Int32 := fun i => if off ≤ i ∧ i < off + j then (if i - off + 1 = L then b0 (cu v (i - off)) else b1 (cu v (i - off))) else f i
theorem pf_0 (v : Int64) (off L : Nat) (f : Nat → Int32) : pf v off L 0 f = f := by
  funext i; unfold pf; rw [if_neg (by omega)]
theorem pf_s (v : Int64) (off L j : Nat) (f : Nat → Int32) (x : Int32) (hx : x = if j + 1 = L then b0 (cu v j) else b1 (cu v j)) : (fun i => if i = off + j then x else pf v off L j f i) = pf v off L (j + 1) f := by
  funext i
  unfold pf
  by_cases q : i = off + j
  · rw [if_pos q, if_pos (by omega), hx, show i - off = j by omega]
  · rw [if_neg q]
    by_cases q2 : off ≤ i ∧ i < off + j
    · have q3 : off ≤ i ∧ i < off + (j + 1) := by omega
      simp only [q2, q3, and_self, if_true]
    · have q3 : ¬ (off ≤ i ∧ i < off + (j + 1)) := by omega
      simp only [q2, q3, if_false]
/-- what 'at' asks of the array at i -/
def atOk (F : Nat → Int32) (i off len : Int32) (v : Int64) (fill : Int32) : Prop :=
  ((i - off < 0 ∨ ¬ (i - off < len)) → F i.toInt.toNat = fill) ∧ (¬ (i - off < 0) → i - off < len → (i - off < len - 1 → F i.toInt.toNat = (((ushrJ v (7 * (i - off))) &&& 127).toInt32 ||| 128).toInt8.toInt32) ∧ (¬ (i - off < len - 1) → F i.toInt.toNat = ((ushrJ v (7 * (i - off))) &&& 127).toInt32.toInt8.toInt32))
theorem at_ok {i off len : Int32} {v : Int64} {fill : Int32} {L : Nat} (hi : 0 ≤ i.toInt ∧ i.toInt < 18) (ho : 0 ≤ off.toInt ∧ off.toInt ≤ 7) (hl : len.toInt = L) (hL : 1 ≤ L ∧ L ≤ 10) : atOk (pf v off.toInt.toNat L L (fun _ => fill)) i off len v fill := by
  have a := c_isub i off; have := rng32 (i - off); have b := c_isub len 1; have := rng32 (len - 1); have e1 : (1 : Int32).toInt = 1 := rfl; have e0 : (0 : Int32).toInt = 0 := rfl
  have d : (i - off).toInt = i.toInt - off.toInt := by omega
  have d1 : (len - 1).toInt = L - 1 := by omega
  have key : ¬ (i - off < 0) → i - off < len → (7 * (i - off) : Int32) = Int32.ofNat (7 * (i.toInt.toNat - off.toInt.toNat)) := by
    intro z1 z2
    rw [Int32.lt_iff_toInt_lt] at z1 z2
    apply Int32.toInt_inj.mp
    have c := c_imul 7 (i - off); have := rng32 (7 * (i - off)); have e7 : (7 : Int32).toInt = 7 := rfl
    have q : (Int32.ofNat (7 * (i.toInt.toNat - off.toInt.toNat))).toInt = (7 * (i.toInt.toNat - off.toInt.toNat) : Nat) := Int32.toInt_ofNat_of_lt (by omega)
    rw [q]; rw [e7] at c; omega
  refine ⟨fun z => ?_, fun z1 z2 => ⟨fun z3 => ?_, fun z3 => ?_⟩⟩
  · simp only [Int32.lt_iff_toInt_lt] at z
    show (if _ then _ else _) = _
    rw [if_neg (by omega)]
  · rw [key z1 z2]
    simp only [Int32.lt_iff_toInt_lt] at z1 z2 z3
    show (if _ then _ else _) = _
    rw [if_pos (by omega), if_neg (by omega)]; rfl
  · rw [key z1 z2]
    simp only [Int32.lt_iff_toInt_lt] at z1 z2 z3
    show (if _ then _ else _) = _
    rw [if_pos (by omega), if_pos (by omega)]; rfl
theorem off7 (o : Int32) : 0 ≤ (o &&& 7).toInt ∧ (o &&& 7).toInt ≤ 7 := by
  have h := c_mask o 7 3 (by decide) (by decide)
  rw [h]; omega
theorem ush0 (v : Int64) (q : Int32) (t : Nat) (hq : q.toBitVec.toNat % 64 = 7 * t) : ushrJ v q = 0 ↔ NN v < 128 ^ t := by
  have h := NN_ushr v q _ hq
  rw [Nat.pow_mul] at h
  have p := Nat.pow_pos (n := t) (show 0 < 128 by decide)
  constructor
  · intro z
    rw [z] at h
    have h0 : NN 0 = 0 := rfl
    rw [h0] at h
    exact (Nat.div_eq_zero_iff_lt p).mp h.symm
  · intro z
    apply NN_inj
    rw [h, show NN 0 = 0 from rfl]
    exact Nat.div_eq_of_lt z
theorem lit_eq {r : Int32} {L t : Nat} (k : Int32) (h : r.toInt = L) (e : L = t) (hk : k.toInt = t) : r = k := Int32.toInt_inj.mp (by omega)

theorem wd_0 {a0 : Array Value} {Z : State} (hw : ∀ d ∈ tables_1, d.before a0 Z = true) : (Jvm.Cond.arrayClass Jvm.ClassFile.FieldType.byte).before a0 Z = true := hw _ (List.mem_of_getElem? (i := 0) rfl)
theorem wd_1 {a0 : Array Value} {Z : State} (hw : ∀ d ∈ tables_1, d.before a0 Z = true) : (Jvm.Cond.methodLink "com/example/dalmine/dalmine/index/IndexFormatPutVarintPinLaw" (7 : Nat) ({ cls := "com/example/dalmine/dalmine/index/IndexFormat", name := "putVarint", desc := "([BIJ)I" } : Jvm.MethodName)).before a0 Z = true := hw _ (List.mem_of_getElem? (i := 1) rfl)
theorem wd_2 {a0 : Array Value} {Z : State} (hw : ∀ d ∈ tables_1, d.before a0 Z = true) : (Jvm.Cond.static ({ cls := "com/example/dalmine/dalmine/index/IndexFormat", name := "putVarint", desc := "([BIJ)I" } : Jvm.MethodName)).before a0 Z = true := hw _ (List.mem_of_getElem? (i := 2) rfl)
theorem wd_3 {a0 : Array Value} {Z : State} (hw : ∀ d ∈ tables_1, d.before a0 Z = true) : (Jvm.Cond.initialized "com/example/dalmine/dalmine/index/IndexFormat").before a0 Z = true := hw _ (List.mem_of_getElem? (i := 3) rfl)
theorem wd_4 {a0 : Array Value} {Z : State} (hw : ∀ d ∈ tables_1, d.before a0 Z = true) : (Jvm.Cond.code ({ cls := "com/example/dalmine/dalmine/index/IndexFormat", name := "putVarint", desc := "([BIJ)I" } : Jvm.MethodName) prog_12_method_9_code (7 : Nat) (Option.some Jvm.ClassFile.FieldType.int)).before a0 Z = true := hw _ (List.mem_of_getElem? (i := 4) rfl)
theorem wd_5 {a0 : Array Value} {Z : State} (hw : ∀ d ∈ tables_1, d.before a0 Z = true) : (Jvm.Cond.constantLong "com/example/dalmine/dalmine/index/IndexFormat" (116 : Nat) (-128 : Int64)).before a0 Z = true := hw _ (List.mem_of_getElem? (i := 5) rfl)
theorem wd_6 {a0 : Array Value} {Z : State} (hw : ∀ d ∈ tables_1, d.before a0 Z = true) : (Jvm.Cond.methodLink "com/example/dalmine/dalmine/index/IndexFormatPutVarintPinLaw" (13 : Nat) ({ cls := "com/example/dalmine/dalmine/index/IndexFormatPutVarintPinLaw", name := "varintLength", desc := "(J)I" } : Jvm.MethodName)).before a0 Z = true := hw _ (List.mem_of_getElem? (i := 6) rfl)
theorem wd_7 {a0 : Array Value} {Z : State} (hw : ∀ d ∈ tables_1, d.before a0 Z = true) : (Jvm.Cond.static ({ cls := "com/example/dalmine/dalmine/index/IndexFormatPutVarintPinLaw", name := "varintLength", desc := "(J)I" } : Jvm.MethodName)).before a0 Z = true := hw _ (List.mem_of_getElem? (i := 7) rfl)
theorem wd_8 {a0 : Array Value} {Z : State} (hw : ∀ d ∈ tables_1, d.before a0 Z = true) : (Jvm.Cond.initialized "com/example/dalmine/dalmine/index/IndexFormatPutVarintPinLaw").before a0 Z = true := hw _ (List.mem_of_getElem? (i := 8) rfl)
theorem wd_9 {a0 : Array Value} {Z : State} (hw : ∀ d ∈ tables_1, d.before a0 Z = true) : (Jvm.Cond.code ({ cls := "com/example/dalmine/dalmine/index/IndexFormatPutVarintPinLaw", name := "varintLength", desc := "(J)I" } : Jvm.MethodName) method_3_code (2 : Nat) (Option.some Jvm.ClassFile.FieldType.int)).before a0 Z = true := hw _ (List.mem_of_getElem? (i := 9) rfl)
theorem wd_10 {a0 : Array Value} {Z : State} (hw : ∀ d ∈ tables_1, d.before a0 Z = true) : (Jvm.Cond.methodLink "com/example/dalmine/dalmine/index/IndexFormatPutVarintPinLaw" (19 : Nat) ({ cls := "com/example/dalmine/dalmine/index/IndexFormatPutVarintPinLaw", name := "at", desc := "([BIIIJB)Z" } : Jvm.MethodName)).before a0 Z = true := hw _ (List.mem_of_getElem? (i := 10) rfl)
theorem wd_11 {a0 : Array Value} {Z : State} (hw : ∀ d ∈ tables_1, d.before a0 Z = true) : (Jvm.Cond.static ({ cls := "com/example/dalmine/dalmine/index/IndexFormatPutVarintPinLaw", name := "at", desc := "([BIIIJB)Z" } : Jvm.MethodName)).before a0 Z = true := hw _ (List.mem_of_getElem? (i := 11) rfl)
theorem wd_12 {a0 : Array Value} {Z : State} (hw : ∀ d ∈ tables_1, d.before a0 Z = true) : (Jvm.Cond.code ({ cls := "com/example/dalmine/dalmine/index/IndexFormatPutVarintPinLaw", name := "at", desc := "([BIIIJB)Z" } : Jvm.MethodName) method_4_code (9 : Nat) (Option.some Jvm.ClassFile.FieldType.boolean)).before a0 Z = true := hw _ (List.mem_of_getElem? (i := 12) rfl)
theorem wd_13 {a0 : Array Value} {Z : State} (hw : ∀ d ∈ tables_1, d.before a0 Z = true) : (Jvm.Cond.constantLong "com/example/dalmine/dalmine/index/IndexFormatPutVarintPinLaw" (23 : Nat) (127 : Int64)).before a0 Z = true := hw _ (List.mem_of_getElem? (i := 13) rfl)
theorem wd_14 {a0 : Array Value} {Z : State} (hw : ∀ d ∈ tables_1, d.before a0 Z = true) : (Jvm.Cond.constantLong "com/example/dalmine/dalmine/index/IndexFormat" (118 : Nat) (127 : Int64)).before a0 Z = true := hw _ (List.mem_of_getElem? (i := 14) rfl)
theorem wd_15 {a0 : Array Value} {Z : State} (hw : ∀ d ∈ tables_1, d.before a0 Z = true) : (Jvm.Cond.constantLong "com/example/dalmine/dalmine/index/IndexFormat" (120 : Nat) (128 : Int64)).before a0 Z = true := hw _ (List.mem_of_getElem? (i := 15) rfl)
theorem D0_0 : In code 0 1 (.lload_n 0) 1 := ⟨at_0, rfl⟩
theorem D0_1 : In code 1 1 (.iload_n 2) 2 := ⟨at_1, rfl⟩
theorem D0_2 : In code 2 2 (.bipush 63) 4 := ⟨at_2, rfl⟩
theorem D0_4 : In code 4 1 (.iand) 5 := ⟨at_4, rfl⟩
theorem D0_5 : In code 5 1 (.lushr) 6 := ⟨at_5, rfl⟩
theorem D0_6 : In code 6 2 (.lstore 5) 8 := ⟨at_6, rfl⟩
theorem D0_8 : In code 8 1 (.iload_n 3) 9 := ⟨at_8, rfl⟩
theorem D0_9 : In code 9 2 (.bipush 7) 11 := ⟨at_9, rfl⟩
theorem D0_11 : In code 11 1 (.iand) 12 := ⟨at_11, rfl⟩
theorem D0_12 : In code 12 2 (.istore 7) 14 := ⟨at_12, rfl⟩
theorem D0_14 : In code 14 2 (.iload 4) 16 := ⟨at_14, rfl⟩
theorem D0_16 : In code 16 1 (.i2b) 17 := ⟨at_16, rfl⟩
theorem D0_17 : In code 17 2 (.istore 8) 19 := ⟨at_17, rfl⟩
theorem D0_19 : In code 19 2 (.bipush 18) 21 := ⟨at_19, rfl⟩
theorem D0_21 : In code 21 2 (.newarray .byte) 23 := ⟨at_21, rfl⟩
theorem D0_23 : In code 23 1 (.dup) 24 := ⟨at_23, rfl⟩
theorem D0_24 : In code 24 1 (.iconst 0) 25 := ⟨at_24, rfl⟩
theorem D0_25 : In code 25 2 (.iload 8) 27 := ⟨at_25, rfl⟩
theorem D0_27 : In code 27 1 (.bastore) 28 := ⟨at_27, rfl⟩
theorem D0_28 : In code 28 1 (.dup) 29 := ⟨at_28, rfl⟩
theorem D0_29 : In code 29 1 (.iconst 1) 30 := ⟨at_29, rfl⟩
theorem D0_30 : In code 30 2 (.iload 8) 32 := ⟨at_30, rfl⟩
theorem D0_32 : In code 32 1 (.bastore) 33 := ⟨at_32, rfl⟩
theorem D0_33 : In code 33 1 (.dup) 34 := ⟨at_33, rfl⟩
theorem D0_34 : In code 34 1 (.iconst 2) 35 := ⟨at_34, rfl⟩
theorem D0_35 : In code 35 2 (.iload 8) 37 := ⟨at_35, rfl⟩
theorem D0_37 : In code 37 1 (.bastore) 38 := ⟨at_37, rfl⟩
theorem D0_38 : In code 38 1 (.dup) 39 := ⟨at_38, rfl⟩
theorem D0_39 : In code 39 1 (.iconst 3) 40 := ⟨at_39, rfl⟩
theorem D0_40 : In code 40 2 (.iload 8) 42 := ⟨at_40, rfl⟩
theorem D0_42 : In code 42 1 (.bastore) 43 := ⟨at_42, rfl⟩
theorem D0_43 : In code 43 1 (.dup) 44 := ⟨at_43, rfl⟩
theorem D0_44 : In code 44 1 (.iconst 4) 45 := ⟨at_44, rfl⟩
theorem D0_45 : In code 45 2 (.iload 8) 47 := ⟨at_45, rfl⟩
theorem D0_47 : In code 47 1 (.bastore) 48 := ⟨at_47, rfl⟩
theorem D0_48 : In code 48 1 (.dup) 49 := ⟨at_48, rfl⟩
theorem D0_49 : In code 49 1 (.iconst 5) 50 := ⟨at_49, rfl⟩
theorem D0_50 : In code 50 2 (.iload 8) 52 := ⟨at_50, rfl⟩
theorem D0_52 : In code 52 1 (.bastore) 53 := ⟨at_52, rfl⟩
theorem D0_53 : In code 53 1 (.dup) 54 := ⟨at_53, rfl⟩
theorem D0_54 : In code 54 2 (.bipush 6) 56 := ⟨at_54, rfl⟩
theorem D0_56 : In code 56 2 (.iload 8) 58 := ⟨at_56, rfl⟩
theorem D0_58 : In code 58 1 (.bastore) 59 := ⟨at_58, rfl⟩
theorem D0_59 : In code 59 1 (.dup) 60 := ⟨at_59, rfl⟩
theorem D0_60 : In code 60 2 (.bipush 7) 62 := ⟨at_60, rfl⟩
theorem D0_62 : In code 62 2 (.iload 8) 64 := ⟨at_62, rfl⟩
theorem D0_64 : In code 64 1 (.bastore) 65 := ⟨at_64, rfl⟩
theorem D0_65 : In code 65 1 (.dup) 66 := ⟨at_65, rfl⟩
theorem D0_66 : In code 66 2 (.bipush 8) 68 := ⟨at_66, rfl⟩
theorem D0_68 : In code 68 2 (.iload 8) 70 := ⟨at_68, rfl⟩
theorem D0_70 : In code 70 1 (.bastore) 71 := ⟨at_70, rfl⟩
theorem D0_71 : In code 71 1 (.dup) 72 := ⟨at_71, rfl⟩
theorem D0_72 : In code 72 2 (.bipush 9) 74 := ⟨at_72, rfl⟩
theorem D0_74 : In code 74 2 (.iload 8) 76 := ⟨at_74, rfl⟩
theorem D0_76 : In code 76 1 (.bastore) 77 := ⟨at_76, rfl⟩
theorem D0_77 : In code 77 1 (.dup) 78 := ⟨at_77, rfl⟩
theorem D0_78 : In code 78 2 (.bipush 10) 80 := ⟨at_78, rfl⟩
theorem D0_80 : In code 80 2 (.iload 8) 82 := ⟨at_80, rfl⟩
theorem D0_82 : In code 82 1 (.bastore) 83 := ⟨at_82, rfl⟩
theorem D0_83 : In code 83 1 (.dup) 84 := ⟨at_83, rfl⟩
theorem D0_84 : In code 84 2 (.bipush 11) 86 := ⟨at_84, rfl⟩
theorem D0_86 : In code 86 2 (.iload 8) 88 := ⟨at_86, rfl⟩
theorem D0_88 : In code 88 1 (.bastore) 89 := ⟨at_88, rfl⟩
theorem D0_89 : In code 89 1 (.dup) 90 := ⟨at_89, rfl⟩
theorem D0_90 : In code 90 2 (.bipush 12) 92 := ⟨at_90, rfl⟩
theorem D0_92 : In code 92 2 (.iload 8) 94 := ⟨at_92, rfl⟩
theorem D0_94 : In code 94 1 (.bastore) 95 := ⟨at_94, rfl⟩
theorem D0_95 : In code 95 1 (.dup) 96 := ⟨at_95, rfl⟩
theorem D0_96 : In code 96 2 (.bipush 13) 98 := ⟨at_96, rfl⟩
theorem D0_98 : In code 98 2 (.iload 8) 100 := ⟨at_98, rfl⟩
theorem D0_100 : In code 100 1 (.bastore) 101 := ⟨at_100, rfl⟩
theorem D0_101 : In code 101 1 (.dup) 102 := ⟨at_101, rfl⟩
theorem D0_102 : In code 102 2 (.bipush 14) 104 := ⟨at_102, rfl⟩
theorem D0_104 : In code 104 2 (.iload 8) 106 := ⟨at_104, rfl⟩
theorem D0_106 : In code 106 1 (.bastore) 107 := ⟨at_106, rfl⟩
theorem D0_107 : In code 107 1 (.dup) 108 := ⟨at_107, rfl⟩
theorem D0_108 : In code 108 2 (.bipush 15) 110 := ⟨at_108, rfl⟩
theorem D0_110 : In code 110 2 (.iload 8) 112 := ⟨at_110, rfl⟩
theorem D0_112 : In code 112 1 (.bastore) 113 := ⟨at_112, rfl⟩
theorem D0_113 : In code 113 1 (.dup) 114 := ⟨at_113, rfl⟩
theorem D0_114 : In code 114 2 (.bipush 16) 116 := ⟨at_114, rfl⟩
theorem D0_116 : In code 116 2 (.iload 8) 118 := ⟨at_116, rfl⟩
theorem D0_118 : In code 118 1 (.bastore) 119 := ⟨at_118, rfl⟩
theorem D0_119 : In code 119 1 (.dup) 120 := ⟨at_119, rfl⟩
theorem D0_120 : In code 120 2 (.bipush 17) 122 := ⟨at_120, rfl⟩
theorem D0_122 : In code 122 2 (.iload 8) 124 := ⟨at_122, rfl⟩
theorem D0_124 : In code 124 1 (.bastore) 125 := ⟨at_124, rfl⟩
theorem D0_125 : In code 125 2 (.astore 9) 127 := ⟨at_125, rfl⟩
theorem D0_127 : In code 127 2 (.aload 9) 129 := ⟨at_127, rfl⟩
theorem D0_129 : In code 129 2 (.iload 7) 131 := ⟨at_129, rfl⟩
theorem D0_131 : In code 131 2 (.lload 5) 133 := ⟨at_131, rfl⟩
theorem D0_133 : In code 133 3 (.invokestatic 7) 136 := ⟨at_133, rfl⟩
theorem D0_136 : In code 136 2 (.istore 10) 138 := ⟨at_136, rfl⟩
theorem D0_138 : In code 138 2 (.lload 5) 140 := ⟨at_138, rfl⟩
theorem D0_140 : In code 140 3 (.invokestatic 13) 143 := ⟨at_140, rfl⟩
theorem D0_143 : In code 143 2 (.istore 11) 145 := ⟨at_143, rfl⟩
theorem D0_145 : In code 145 2 (.iload 10) 147 := ⟨at_145, rfl⟩
theorem D0_147 : In code 147 2 (.iload 7) 149 := ⟨at_147, rfl⟩
theorem D0_149 : In code 149 2 (.iload 11) 151 := ⟨at_149, rfl⟩
theorem D0_151 : In code 151 1 (.iadd) 152 := ⟨at_151, rfl⟩
theorem D0_152 : Jm code 152 (.if_icmp .eq) 155 157 := ⟨5, at_152, rfl, by decide, by decide⟩
theorem D0_157 : In code 157 1 (.iconst 1) 158 := ⟨at_157, rfl⟩
theorem D0_158 : In code 158 2 (.istore 12) 160 := ⟨at_158, rfl⟩
theorem D0_160 : In code 160 2 (.iload 12) 162 := ⟨at_160, rfl⟩
theorem D0_162 : In code 162 2 (.aload 9) 164 := ⟨at_162, rfl⟩
theorem D0_164 : In code 164 1 (.iconst 0) 165 := ⟨at_164, rfl⟩
theorem D0_165 : In code 165 2 (.iload 7) 167 := ⟨at_165, rfl⟩
theorem D0_167 : In code 167 2 (.iload 11) 169 := ⟨at_167, rfl⟩
theorem D0_169 : In code 169 2 (.lload 5) 171 := ⟨at_169, rfl⟩
theorem D0_171 : In code 171 2 (.iload 8) 173 := ⟨at_171, rfl⟩
theorem D0_173 : In code 173 3 (.invokestatic 19) 176 := ⟨at_173, rfl⟩
theorem D0_176 : In code 176 1 (.iand) 177 := ⟨at_176, rfl⟩
theorem D0_177 : In code 177 2 (.istore 12) 179 := ⟨at_177, rfl⟩
theorem D0_179 : In code 179 2 (.iload 12) 181 := ⟨at_179, rfl⟩
theorem D0_181 : In code 181 2 (.aload 9) 183 := ⟨at_181, rfl⟩
theorem D0_183 : In code 183 1 (.iconst 1) 184 := ⟨at_183, rfl⟩
theorem D0_184 : In code 184 2 (.iload 7) 186 := ⟨at_184, rfl⟩
theorem D0_186 : In code 186 2 (.iload 11) 188 := ⟨at_186, rfl⟩
theorem D0_188 : In code 188 2 (.lload 5) 190 := ⟨at_188, rfl⟩
theorem D0_190 : In code 190 2 (.iload 8) 192 := ⟨at_190, rfl⟩
theorem D0_192 : In code 192 3 (.invokestatic 19) 195 := ⟨at_192, rfl⟩
theorem D0_195 : In code 195 1 (.iand) 196 := ⟨at_195, rfl⟩
theorem D0_196 : In code 196 2 (.istore 12) 198 := ⟨at_196, rfl⟩
theorem D0_198 : In code 198 2 (.iload 12) 200 := ⟨at_198, rfl⟩
theorem D0_200 : In code 200 2 (.aload 9) 202 := ⟨at_200, rfl⟩
theorem D0_202 : In code 202 1 (.iconst 2) 203 := ⟨at_202, rfl⟩
theorem D0_203 : In code 203 2 (.iload 7) 205 := ⟨at_203, rfl⟩
theorem D0_205 : In code 205 2 (.iload 11) 207 := ⟨at_205, rfl⟩
theorem D0_207 : In code 207 2 (.lload 5) 209 := ⟨at_207, rfl⟩
theorem D0_209 : In code 209 2 (.iload 8) 211 := ⟨at_209, rfl⟩
theorem D0_211 : In code 211 3 (.invokestatic 19) 214 := ⟨at_211, rfl⟩
theorem D0_214 : In code 214 1 (.iand) 215 := ⟨at_214, rfl⟩
theorem D0_215 : In code 215 2 (.istore 12) 217 := ⟨at_215, rfl⟩
theorem D0_217 : In code 217 2 (.iload 12) 219 := ⟨at_217, rfl⟩
theorem D0_219 : In code 219 2 (.aload 9) 221 := ⟨at_219, rfl⟩
theorem D0_221 : In code 221 1 (.iconst 3) 222 := ⟨at_221, rfl⟩
theorem D0_222 : In code 222 2 (.iload 7) 224 := ⟨at_222, rfl⟩
theorem D0_224 : In code 224 2 (.iload 11) 226 := ⟨at_224, rfl⟩
theorem D0_226 : In code 226 2 (.lload 5) 228 := ⟨at_226, rfl⟩
theorem D0_228 : In code 228 2 (.iload 8) 230 := ⟨at_228, rfl⟩
theorem D0_230 : In code 230 3 (.invokestatic 19) 233 := ⟨at_230, rfl⟩
theorem D0_233 : In code 233 1 (.iand) 234 := ⟨at_233, rfl⟩
theorem D0_234 : In code 234 2 (.istore 12) 236 := ⟨at_234, rfl⟩
theorem D0_236 : In code 236 2 (.iload 12) 238 := ⟨at_236, rfl⟩
theorem D0_238 : In code 238 2 (.aload 9) 240 := ⟨at_238, rfl⟩
theorem D0_240 : In code 240 1 (.iconst 4) 241 := ⟨at_240, rfl⟩
theorem D0_241 : In code 241 2 (.iload 7) 243 := ⟨at_241, rfl⟩
theorem D0_243 : In code 243 2 (.iload 11) 245 := ⟨at_243, rfl⟩
theorem D0_245 : In code 245 2 (.lload 5) 247 := ⟨at_245, rfl⟩
theorem D0_247 : In code 247 2 (.iload 8) 249 := ⟨at_247, rfl⟩
theorem D0_249 : In code 249 3 (.invokestatic 19) 252 := ⟨at_249, rfl⟩
theorem D0_252 : In code 252 1 (.iand) 253 := ⟨at_252, rfl⟩
theorem D0_253 : In code 253 2 (.istore 12) 255 := ⟨at_253, rfl⟩
theorem D0_255 : In code 255 2 (.iload 12) 257 := ⟨at_255, rfl⟩
theorem D0_257 : In code 257 2 (.aload 9) 259 := ⟨at_257, rfl⟩
theorem D0_259 : In code 259 1 (.iconst 5) 260 := ⟨at_259, rfl⟩
theorem D0_260 : In code 260 2 (.iload 7) 262 := ⟨at_260, rfl⟩
theorem D0_262 : In code 262 2 (.iload 11) 264 := ⟨at_262, rfl⟩
theorem D0_264 : In code 264 2 (.lload 5) 266 := ⟨at_264, rfl⟩
theorem D0_266 : In code 266 2 (.iload 8) 268 := ⟨at_266, rfl⟩
theorem D0_268 : In code 268 3 (.invokestatic 19) 271 := ⟨at_268, rfl⟩
theorem D0_271 : In code 271 1 (.iand) 272 := ⟨at_271, rfl⟩
theorem D0_272 : In code 272 2 (.istore 12) 274 := ⟨at_272, rfl⟩
theorem D0_274 : In code 274 2 (.iload 12) 276 := ⟨at_274, rfl⟩
theorem D0_276 : In code 276 2 (.aload 9) 278 := ⟨at_276, rfl⟩
theorem D0_278 : In code 278 2 (.bipush 6) 280 := ⟨at_278, rfl⟩
theorem D0_280 : In code 280 2 (.iload 7) 282 := ⟨at_280, rfl⟩
theorem D0_282 : In code 282 2 (.iload 11) 284 := ⟨at_282, rfl⟩
theorem D0_284 : In code 284 2 (.lload 5) 286 := ⟨at_284, rfl⟩
theorem D0_286 : In code 286 2 (.iload 8) 288 := ⟨at_286, rfl⟩
theorem D0_288 : In code 288 3 (.invokestatic 19) 291 := ⟨at_288, rfl⟩
theorem D0_291 : In code 291 1 (.iand) 292 := ⟨at_291, rfl⟩
theorem D0_292 : In code 292 2 (.istore 12) 294 := ⟨at_292, rfl⟩
theorem D0_294 : In code 294 2 (.iload 12) 296 := ⟨at_294, rfl⟩
theorem D0_296 : In code 296 2 (.aload 9) 298 := ⟨at_296, rfl⟩
theorem D0_298 : In code 298 2 (.bipush 7) 300 := ⟨at_298, rfl⟩
theorem D0_300 : In code 300 2 (.iload 7) 302 := ⟨at_300, rfl⟩
theorem D0_302 : In code 302 2 (.iload 11) 304 := ⟨at_302, rfl⟩
theorem D0_304 : In code 304 2 (.lload 5) 306 := ⟨at_304, rfl⟩
theorem D0_306 : In code 306 2 (.iload 8) 308 := ⟨at_306, rfl⟩
theorem D0_308 : In code 308 3 (.invokestatic 19) 311 := ⟨at_308, rfl⟩
theorem D0_311 : In code 311 1 (.iand) 312 := ⟨at_311, rfl⟩
theorem D0_312 : In code 312 2 (.istore 12) 314 := ⟨at_312, rfl⟩
theorem D0_314 : In code 314 2 (.iload 12) 316 := ⟨at_314, rfl⟩
theorem D0_316 : In code 316 2 (.aload 9) 318 := ⟨at_316, rfl⟩
theorem D0_318 : In code 318 2 (.bipush 8) 320 := ⟨at_318, rfl⟩
theorem D0_320 : In code 320 2 (.iload 7) 322 := ⟨at_320, rfl⟩
theorem D0_322 : In code 322 2 (.iload 11) 324 := ⟨at_322, rfl⟩
theorem D0_324 : In code 324 2 (.lload 5) 326 := ⟨at_324, rfl⟩
theorem D0_326 : In code 326 2 (.iload 8) 328 := ⟨at_326, rfl⟩
theorem D0_328 : In code 328 3 (.invokestatic 19) 331 := ⟨at_328, rfl⟩
theorem D0_331 : In code 331 1 (.iand) 332 := ⟨at_331, rfl⟩
theorem D0_332 : In code 332 2 (.istore 12) 334 := ⟨at_332, rfl⟩
theorem D0_334 : In code 334 2 (.iload 12) 336 := ⟨at_334, rfl⟩
theorem D0_336 : In code 336 2 (.aload 9) 338 := ⟨at_336, rfl⟩
theorem D0_338 : In code 338 2 (.bipush 9) 340 := ⟨at_338, rfl⟩
theorem D0_340 : In code 340 2 (.iload 7) 342 := ⟨at_340, rfl⟩
theorem D0_342 : In code 342 2 (.iload 11) 344 := ⟨at_342, rfl⟩
theorem D0_344 : In code 344 2 (.lload 5) 346 := ⟨at_344, rfl⟩
theorem D0_346 : In code 346 2 (.iload 8) 348 := ⟨at_346, rfl⟩
theorem D0_348 : In code 348 3 (.invokestatic 19) 351 := ⟨at_348, rfl⟩
theorem D0_351 : In code 351 1 (.iand) 352 := ⟨at_351, rfl⟩
theorem D0_352 : In code 352 2 (.istore 12) 354 := ⟨at_352, rfl⟩
theorem D0_354 : In code 354 2 (.iload 12) 356 := ⟨at_354, rfl⟩
theorem D0_356 : In code 356 2 (.aload 9) 358 := ⟨at_356, rfl⟩
theorem D0_358 : In code 358 2 (.bipush 10) 360 := ⟨at_358, rfl⟩
theorem D0_360 : In code 360 2 (.iload 7) 362 := ⟨at_360, rfl⟩
theorem D0_362 : In code 362 2 (.iload 11) 364 := ⟨at_362, rfl⟩
theorem D0_364 : In code 364 2 (.lload 5) 366 := ⟨at_364, rfl⟩
theorem D0_366 : In code 366 2 (.iload 8) 368 := ⟨at_366, rfl⟩
theorem D0_368 : In code 368 3 (.invokestatic 19) 371 := ⟨at_368, rfl⟩
theorem D0_371 : In code 371 1 (.iand) 372 := ⟨at_371, rfl⟩
theorem D0_372 : In code 372 2 (.istore 12) 374 := ⟨at_372, rfl⟩
theorem D0_374 : In code 374 2 (.iload 12) 376 := ⟨at_374, rfl⟩
theorem D0_376 : In code 376 2 (.aload 9) 378 := ⟨at_376, rfl⟩
theorem D0_378 : In code 378 2 (.bipush 11) 380 := ⟨at_378, rfl⟩
theorem D0_380 : In code 380 2 (.iload 7) 382 := ⟨at_380, rfl⟩
theorem D0_382 : In code 382 2 (.iload 11) 384 := ⟨at_382, rfl⟩
theorem D0_384 : In code 384 2 (.lload 5) 386 := ⟨at_384, rfl⟩
theorem D0_386 : In code 386 2 (.iload 8) 388 := ⟨at_386, rfl⟩
theorem D0_388 : In code 388 3 (.invokestatic 19) 391 := ⟨at_388, rfl⟩
theorem D0_391 : In code 391 1 (.iand) 392 := ⟨at_391, rfl⟩
theorem D0_392 : In code 392 2 (.istore 12) 394 := ⟨at_392, rfl⟩
theorem D0_394 : In code 394 2 (.iload 12) 396 := ⟨at_394, rfl⟩
theorem D0_396 : In code 396 2 (.aload 9) 398 := ⟨at_396, rfl⟩
theorem D0_398 : In code 398 2 (.bipush 12) 400 := ⟨at_398, rfl⟩
theorem D0_400 : In code 400 2 (.iload 7) 402 := ⟨at_400, rfl⟩
theorem D0_402 : In code 402 2 (.iload 11) 404 := ⟨at_402, rfl⟩
theorem D0_404 : In code 404 2 (.lload 5) 406 := ⟨at_404, rfl⟩
theorem D0_406 : In code 406 2 (.iload 8) 408 := ⟨at_406, rfl⟩
theorem D0_408 : In code 408 3 (.invokestatic 19) 411 := ⟨at_408, rfl⟩
theorem D0_411 : In code 411 1 (.iand) 412 := ⟨at_411, rfl⟩
theorem D0_412 : In code 412 2 (.istore 12) 414 := ⟨at_412, rfl⟩
theorem D0_414 : In code 414 2 (.iload 12) 416 := ⟨at_414, rfl⟩
theorem D0_416 : In code 416 2 (.aload 9) 418 := ⟨at_416, rfl⟩
theorem D0_418 : In code 418 2 (.bipush 13) 420 := ⟨at_418, rfl⟩
theorem D0_420 : In code 420 2 (.iload 7) 422 := ⟨at_420, rfl⟩
theorem D0_422 : In code 422 2 (.iload 11) 424 := ⟨at_422, rfl⟩
theorem D0_424 : In code 424 2 (.lload 5) 426 := ⟨at_424, rfl⟩
theorem D0_426 : In code 426 2 (.iload 8) 428 := ⟨at_426, rfl⟩
theorem D0_428 : In code 428 3 (.invokestatic 19) 431 := ⟨at_428, rfl⟩
theorem D0_431 : In code 431 1 (.iand) 432 := ⟨at_431, rfl⟩
theorem D0_432 : In code 432 2 (.istore 12) 434 := ⟨at_432, rfl⟩
theorem D0_434 : In code 434 2 (.iload 12) 436 := ⟨at_434, rfl⟩
theorem D0_436 : In code 436 2 (.aload 9) 438 := ⟨at_436, rfl⟩
theorem D0_438 : In code 438 2 (.bipush 14) 440 := ⟨at_438, rfl⟩
theorem D0_440 : In code 440 2 (.iload 7) 442 := ⟨at_440, rfl⟩
theorem D0_442 : In code 442 2 (.iload 11) 444 := ⟨at_442, rfl⟩
theorem D0_444 : In code 444 2 (.lload 5) 446 := ⟨at_444, rfl⟩
theorem D0_446 : In code 446 2 (.iload 8) 448 := ⟨at_446, rfl⟩
theorem D0_448 : In code 448 3 (.invokestatic 19) 451 := ⟨at_448, rfl⟩
theorem D0_451 : In code 451 1 (.iand) 452 := ⟨at_451, rfl⟩
theorem D0_452 : In code 452 2 (.istore 12) 454 := ⟨at_452, rfl⟩
theorem D0_454 : In code 454 2 (.iload 12) 456 := ⟨at_454, rfl⟩
theorem D0_456 : In code 456 2 (.aload 9) 458 := ⟨at_456, rfl⟩
theorem D0_458 : In code 458 2 (.bipush 15) 460 := ⟨at_458, rfl⟩
theorem D0_460 : In code 460 2 (.iload 7) 462 := ⟨at_460, rfl⟩
theorem D0_462 : In code 462 2 (.iload 11) 464 := ⟨at_462, rfl⟩
theorem D0_464 : In code 464 2 (.lload 5) 466 := ⟨at_464, rfl⟩
theorem D0_466 : In code 466 2 (.iload 8) 468 := ⟨at_466, rfl⟩
theorem D0_468 : In code 468 3 (.invokestatic 19) 471 := ⟨at_468, rfl⟩
theorem D0_471 : In code 471 1 (.iand) 472 := ⟨at_471, rfl⟩
theorem D0_472 : In code 472 2 (.istore 12) 474 := ⟨at_472, rfl⟩
theorem D0_474 : In code 474 2 (.iload 12) 476 := ⟨at_474, rfl⟩
theorem D0_476 : In code 476 2 (.aload 9) 478 := ⟨at_476, rfl⟩
theorem D0_478 : In code 478 2 (.bipush 16) 480 := ⟨at_478, rfl⟩
theorem D0_480 : In code 480 2 (.iload 7) 482 := ⟨at_480, rfl⟩
theorem D0_482 : In code 482 2 (.iload 11) 484 := ⟨at_482, rfl⟩
theorem D0_484 : In code 484 2 (.lload 5) 486 := ⟨at_484, rfl⟩
theorem D0_486 : In code 486 2 (.iload 8) 488 := ⟨at_486, rfl⟩
theorem D0_488 : In code 488 3 (.invokestatic 19) 491 := ⟨at_488, rfl⟩
theorem D0_491 : In code 491 1 (.iand) 492 := ⟨at_491, rfl⟩
theorem D0_492 : In code 492 2 (.istore 12) 494 := ⟨at_492, rfl⟩
theorem D0_494 : In code 494 2 (.iload 12) 496 := ⟨at_494, rfl⟩
theorem D0_496 : In code 496 2 (.aload 9) 498 := ⟨at_496, rfl⟩
theorem D0_498 : In code 498 2 (.bipush 17) 500 := ⟨at_498, rfl⟩
theorem D0_500 : In code 500 2 (.iload 7) 502 := ⟨at_500, rfl⟩
theorem D0_502 : In code 502 2 (.iload 11) 504 := ⟨at_502, rfl⟩
theorem D0_504 : In code 504 2 (.lload 5) 506 := ⟨at_504, rfl⟩
theorem D0_506 : In code 506 2 (.iload 8) 508 := ⟨at_506, rfl⟩
theorem D0_508 : In code 508 3 (.invokestatic 19) 511 := ⟨at_508, rfl⟩
theorem D0_511 : In code 511 1 (.iand) 512 := ⟨at_511, rfl⟩
theorem D0_512 : In code 512 2 (.istore 12) 514 := ⟨at_512, rfl⟩
theorem D0_514 : In code 514 2 (.iload 12) 516 := ⟨at_514, rfl⟩
theorem D0_516 : In code 516 1 (.ireturn) 517 := ⟨at_516, rfl⟩
theorem D1_0 : In prog_12_method_9_code 0 1 (.lload_n 2) 1 := ⟨by decide +kernel, rfl⟩
theorem D1_1 : In prog_12_method_9_code 1 2 (.lstore 4) 3 := ⟨by decide +kernel, rfl⟩
theorem D1_3 : In prog_12_method_9_code 3 1 (.iload_n 1) 4 := ⟨by decide +kernel, rfl⟩
theorem D1_4 : In prog_12_method_9_code 4 2 (.istore 6) 6 := ⟨by decide +kernel, rfl⟩
theorem D1_6 : In prog_12_method_9_code 6 2 (.lload 4) 8 := ⟨by decide +kernel, rfl⟩
theorem D1_8 : In prog_12_method_9_code 8 3 (.ldc2_w 116) 11 := ⟨by decide +kernel, rfl⟩
theorem D1_11 : In prog_12_method_9_code 11 1 (.land) 12 := ⟨by decide +kernel, rfl⟩
theorem D1_12 : In prog_12_method_9_code 12 1 (.lconst 0) 13 := ⟨by decide +kernel, rfl⟩
theorem D1_13 : In prog_12_method_9_code 13 1 (.lcmp) 14 := ⟨by decide +kernel, rfl⟩
theorem D1_14 : Jm prog_12_method_9_code 14 (.ifCond .eq) 17 46 := ⟨32, by decide +kernel, rfl, by decide, by decide⟩
theorem D1_17 : In prog_12_method_9_code 17 1 (.aload_n 0) 18 := ⟨by decide +kernel, rfl⟩
theorem D1_18 : In prog_12_method_9_code 18 2 (.iload 6) 20 := ⟨by decide +kernel, rfl⟩
theorem D1_20 : In prog_12_method_9_code 20 3 (.iinc 6 1) 23 := ⟨by decide +kernel, rfl⟩
theorem D1_23 : In prog_12_method_9_code 23 2 (.lload 4) 25 := ⟨by decide +kernel, rfl⟩
theorem D1_25 : In prog_12_method_9_code 25 3 (.ldc2_w 118) 28 := ⟨by decide +kernel, rfl⟩
theorem D1_28 : In prog_12_method_9_code 28 1 (.land) 29 := ⟨by decide +kernel, rfl⟩
theorem D1_29 : In prog_12_method_9_code 29 3 (.ldc2_w 120) 32 := ⟨by decide +kernel, rfl⟩
theorem D1_32 : In prog_12_method_9_code 32 1 (.lor) 33 := ⟨by decide +kernel, rfl⟩
theorem D1_33 : In prog_12_method_9_code 33 1 (.l2i) 34 := ⟨by decide +kernel, rfl⟩
theorem D1_34 : In prog_12_method_9_code 34 1 (.i2b) 35 := ⟨by decide +kernel, rfl⟩
theorem D1_35 : In prog_12_method_9_code 35 1 (.bastore) 36 := ⟨by decide +kernel, rfl⟩
theorem D1_36 : In prog_12_method_9_code 36 2 (.lload 4) 38 := ⟨by decide +kernel, rfl⟩
theorem D1_38 : In prog_12_method_9_code 38 2 (.bipush 7) 40 := ⟨by decide +kernel, rfl⟩
theorem D1_40 : In prog_12_method_9_code 40 1 (.lushr) 41 := ⟨by decide +kernel, rfl⟩
theorem D1_41 : In prog_12_method_9_code 41 2 (.lstore 4) 43 := ⟨by decide +kernel, rfl⟩
theorem D1_43 : Jm prog_12_method_9_code 43 .goto 46 6 := ⟨(-37), by decide +kernel, rfl, by decide, by decide⟩
theorem D1_46 : In prog_12_method_9_code 46 1 (.aload_n 0) 47 := ⟨by decide +kernel, rfl⟩
theorem D1_47 : In prog_12_method_9_code 47 2 (.iload 6) 49 := ⟨by decide +kernel, rfl⟩
theorem D1_49 : In prog_12_method_9_code 49 3 (.iinc 6 1) 52 := ⟨by decide +kernel, rfl⟩
theorem D1_52 : In prog_12_method_9_code 52 2 (.lload 4) 54 := ⟨by decide +kernel, rfl⟩
theorem D1_54 : In prog_12_method_9_code 54 1 (.l2i) 55 := ⟨by decide +kernel, rfl⟩
theorem D1_55 : In prog_12_method_9_code 55 1 (.i2b) 56 := ⟨by decide +kernel, rfl⟩
theorem D1_56 : In prog_12_method_9_code 56 1 (.bastore) 57 := ⟨by decide +kernel, rfl⟩
theorem D1_57 : In prog_12_method_9_code 57 2 (.iload 6) 59 := ⟨by decide +kernel, rfl⟩
theorem D1_59 : In prog_12_method_9_code 59 1 (.ireturn) 60 := ⟨by decide +kernel, rfl⟩
theorem D2_0 : In method_3_code 0 1 (.lload_n 0) 1 := ⟨by decide +kernel, rfl⟩
theorem D2_1 : In method_3_code 1 2 (.bipush 7) 3 := ⟨by decide +kernel, rfl⟩
theorem D2_3 : In method_3_code 3 1 (.lushr) 4 := ⟨by decide +kernel, rfl⟩
theorem D2_4 : In method_3_code 4 1 (.lconst 0) 5 := ⟨by decide +kernel, rfl⟩
theorem D2_5 : In method_3_code 5 1 (.lcmp) 6 := ⟨by decide +kernel, rfl⟩
theorem D2_6 : Jm method_3_code 6 (.ifCond .ne) 9 11 := ⟨5, by decide +kernel, rfl, by decide, by decide⟩
theorem D2_9 : In method_3_code 9 1 (.iconst 1) 10 := ⟨by decide +kernel, rfl⟩
theorem D2_10 : In method_3_code 10 1 (.ireturn) 11 := ⟨by decide +kernel, rfl⟩
theorem D2_11 : In method_3_code 11 1 (.lload_n 0) 12 := ⟨by decide +kernel, rfl⟩
theorem D2_12 : In method_3_code 12 2 (.bipush 14) 14 := ⟨by decide +kernel, rfl⟩
theorem D2_14 : In method_3_code 14 1 (.lushr) 15 := ⟨by decide +kernel, rfl⟩
theorem D2_15 : In method_3_code 15 1 (.lconst 0) 16 := ⟨by decide +kernel, rfl⟩
theorem D2_16 : In method_3_code 16 1 (.lcmp) 17 := ⟨by decide +kernel, rfl⟩
theorem D2_17 : Jm method_3_code 17 (.ifCond .ne) 20 22 := ⟨5, by decide +kernel, rfl, by decide, by decide⟩
theorem D2_20 : In method_3_code 20 1 (.iconst 2) 21 := ⟨by decide +kernel, rfl⟩
theorem D2_21 : In method_3_code 21 1 (.ireturn) 22 := ⟨by decide +kernel, rfl⟩
theorem D2_22 : In method_3_code 22 1 (.lload_n 0) 23 := ⟨by decide +kernel, rfl⟩
theorem D2_23 : In method_3_code 23 2 (.bipush 21) 25 := ⟨by decide +kernel, rfl⟩
theorem D2_25 : In method_3_code 25 1 (.lushr) 26 := ⟨by decide +kernel, rfl⟩
theorem D2_26 : In method_3_code 26 1 (.lconst 0) 27 := ⟨by decide +kernel, rfl⟩
theorem D2_27 : In method_3_code 27 1 (.lcmp) 28 := ⟨by decide +kernel, rfl⟩
theorem D2_28 : Jm method_3_code 28 (.ifCond .ne) 31 33 := ⟨5, by decide +kernel, rfl, by decide, by decide⟩
theorem D2_31 : In method_3_code 31 1 (.iconst 3) 32 := ⟨by decide +kernel, rfl⟩
theorem D2_32 : In method_3_code 32 1 (.ireturn) 33 := ⟨by decide +kernel, rfl⟩
theorem D2_33 : In method_3_code 33 1 (.lload_n 0) 34 := ⟨by decide +kernel, rfl⟩
theorem D2_34 : In method_3_code 34 2 (.bipush 28) 36 := ⟨by decide +kernel, rfl⟩
theorem D2_36 : In method_3_code 36 1 (.lushr) 37 := ⟨by decide +kernel, rfl⟩
theorem D2_37 : In method_3_code 37 1 (.lconst 0) 38 := ⟨by decide +kernel, rfl⟩
theorem D2_38 : In method_3_code 38 1 (.lcmp) 39 := ⟨by decide +kernel, rfl⟩
theorem D2_39 : Jm method_3_code 39 (.ifCond .ne) 42 44 := ⟨5, by decide +kernel, rfl, by decide, by decide⟩
theorem D2_42 : In method_3_code 42 1 (.iconst 4) 43 := ⟨by decide +kernel, rfl⟩
theorem D2_43 : In method_3_code 43 1 (.ireturn) 44 := ⟨by decide +kernel, rfl⟩
theorem D2_44 : In method_3_code 44 1 (.lload_n 0) 45 := ⟨by decide +kernel, rfl⟩
theorem D2_45 : In method_3_code 45 2 (.bipush 35) 47 := ⟨by decide +kernel, rfl⟩
theorem D2_47 : In method_3_code 47 1 (.lushr) 48 := ⟨by decide +kernel, rfl⟩
theorem D2_48 : In method_3_code 48 1 (.lconst 0) 49 := ⟨by decide +kernel, rfl⟩
theorem D2_49 : In method_3_code 49 1 (.lcmp) 50 := ⟨by decide +kernel, rfl⟩
theorem D2_50 : Jm method_3_code 50 (.ifCond .ne) 53 55 := ⟨5, by decide +kernel, rfl, by decide, by decide⟩
theorem D2_53 : In method_3_code 53 1 (.iconst 5) 54 := ⟨by decide +kernel, rfl⟩
theorem D2_54 : In method_3_code 54 1 (.ireturn) 55 := ⟨by decide +kernel, rfl⟩
theorem D2_55 : In method_3_code 55 1 (.lload_n 0) 56 := ⟨by decide +kernel, rfl⟩
theorem D2_56 : In method_3_code 56 2 (.bipush 42) 58 := ⟨by decide +kernel, rfl⟩
theorem D2_58 : In method_3_code 58 1 (.lushr) 59 := ⟨by decide +kernel, rfl⟩
theorem D2_59 : In method_3_code 59 1 (.lconst 0) 60 := ⟨by decide +kernel, rfl⟩
theorem D2_60 : In method_3_code 60 1 (.lcmp) 61 := ⟨by decide +kernel, rfl⟩
theorem D2_61 : Jm method_3_code 61 (.ifCond .ne) 64 67 := ⟨6, by decide +kernel, rfl, by decide, by decide⟩
theorem D2_64 : In method_3_code 64 2 (.bipush 6) 66 := ⟨by decide +kernel, rfl⟩
theorem D2_66 : In method_3_code 66 1 (.ireturn) 67 := ⟨by decide +kernel, rfl⟩
theorem D2_67 : In method_3_code 67 1 (.lload_n 0) 68 := ⟨by decide +kernel, rfl⟩
theorem D2_68 : In method_3_code 68 2 (.bipush 49) 70 := ⟨by decide +kernel, rfl⟩
theorem D2_70 : In method_3_code 70 1 (.lushr) 71 := ⟨by decide +kernel, rfl⟩
theorem D2_71 : In method_3_code 71 1 (.lconst 0) 72 := ⟨by decide +kernel, rfl⟩
theorem D2_72 : In method_3_code 72 1 (.lcmp) 73 := ⟨by decide +kernel, rfl⟩
theorem D2_73 : Jm method_3_code 73 (.ifCond .ne) 76 79 := ⟨6, by decide +kernel, rfl, by decide, by decide⟩
theorem D2_76 : In method_3_code 76 2 (.bipush 7) 78 := ⟨by decide +kernel, rfl⟩
theorem D2_78 : In method_3_code 78 1 (.ireturn) 79 := ⟨by decide +kernel, rfl⟩
theorem D2_79 : In method_3_code 79 1 (.lload_n 0) 80 := ⟨by decide +kernel, rfl⟩
theorem D2_80 : In method_3_code 80 2 (.bipush 56) 82 := ⟨by decide +kernel, rfl⟩
theorem D2_82 : In method_3_code 82 1 (.lushr) 83 := ⟨by decide +kernel, rfl⟩
theorem D2_83 : In method_3_code 83 1 (.lconst 0) 84 := ⟨by decide +kernel, rfl⟩
theorem D2_84 : In method_3_code 84 1 (.lcmp) 85 := ⟨by decide +kernel, rfl⟩
theorem D2_85 : Jm method_3_code 85 (.ifCond .ne) 88 91 := ⟨6, by decide +kernel, rfl, by decide, by decide⟩
theorem D2_88 : In method_3_code 88 2 (.bipush 8) 90 := ⟨by decide +kernel, rfl⟩
theorem D2_90 : In method_3_code 90 1 (.ireturn) 91 := ⟨by decide +kernel, rfl⟩
theorem D2_91 : In method_3_code 91 1 (.lload_n 0) 92 := ⟨by decide +kernel, rfl⟩
theorem D2_92 : In method_3_code 92 2 (.bipush 63) 94 := ⟨by decide +kernel, rfl⟩
theorem D2_94 : In method_3_code 94 1 (.lushr) 95 := ⟨by decide +kernel, rfl⟩
theorem D2_95 : In method_3_code 95 1 (.lconst 0) 96 := ⟨by decide +kernel, rfl⟩
theorem D2_96 : In method_3_code 96 1 (.lcmp) 97 := ⟨by decide +kernel, rfl⟩
theorem D2_97 : Jm method_3_code 97 (.ifCond .ne) 100 103 := ⟨6, by decide +kernel, rfl, by decide, by decide⟩
theorem D2_100 : In method_3_code 100 2 (.bipush 9) 102 := ⟨by decide +kernel, rfl⟩
theorem D2_102 : In method_3_code 102 1 (.ireturn) 103 := ⟨by decide +kernel, rfl⟩
theorem D2_103 : In method_3_code 103 2 (.bipush 10) 105 := ⟨by decide +kernel, rfl⟩
theorem D2_105 : In method_3_code 105 1 (.ireturn) 106 := ⟨by decide +kernel, rfl⟩
theorem D3_0 : In method_4_code 0 1 (.iload_n 1) 1 := ⟨by decide +kernel, rfl⟩
theorem D3_1 : In method_4_code 1 1 (.iload_n 2) 2 := ⟨by decide +kernel, rfl⟩
theorem D3_2 : In method_4_code 2 1 (.isub) 3 := ⟨by decide +kernel, rfl⟩
theorem D3_3 : In method_4_code 3 2 (.istore 7) 5 := ⟨by decide +kernel, rfl⟩
theorem D3_5 : In method_4_code 5 2 (.iload 7) 7 := ⟨by decide +kernel, rfl⟩
theorem D3_7 : Jm method_4_code 7 (.ifCond .lt) 10 16 := ⟨9, by decide +kernel, rfl, by decide, by decide⟩
theorem D3_10 : In method_4_code 10 2 (.iload 7) 12 := ⟨by decide +kernel, rfl⟩
theorem D3_12 : In method_4_code 12 1 (.iload_n 3) 13 := ⟨by decide +kernel, rfl⟩
theorem D3_13 : Jm method_4_code 13 (.if_icmp .lt) 16 30 := ⟨17, by decide +kernel, rfl, by decide, by decide⟩
theorem D3_16 : In method_4_code 16 1 (.aload_n 0) 17 := ⟨by decide +kernel, rfl⟩
theorem D3_17 : In method_4_code 17 1 (.iload_n 1) 18 := ⟨by decide +kernel, rfl⟩
theorem D3_18 : In method_4_code 18 1 (.baload) 19 := ⟨by decide +kernel, rfl⟩
theorem D3_19 : In method_4_code 19 2 (.iload 6) 21 := ⟨by decide +kernel, rfl⟩
theorem D3_21 : Jm method_4_code 21 (.if_icmp .ne) 24 28 := ⟨7, by decide +kernel, rfl, by decide, by decide⟩
theorem D3_24 : In method_4_code 24 1 (.iconst 1) 25 := ⟨by decide +kernel, rfl⟩
theorem D3_25 : Jm method_4_code 25 .goto 28 29 := ⟨4, by decide +kernel, rfl, by decide, by decide⟩
theorem D3_29 : In method_4_code 29 1 (.ireturn) 30 := ⟨by decide +kernel, rfl⟩
theorem D3_30 : In method_4_code 30 2 (.lload 4) 32 := ⟨by decide +kernel, rfl⟩
theorem D3_32 : In method_4_code 32 2 (.bipush 7) 34 := ⟨by decide +kernel, rfl⟩
theorem D3_34 : In method_4_code 34 2 (.iload 7) 36 := ⟨by decide +kernel, rfl⟩
theorem D3_36 : In method_4_code 36 1 (.imul) 37 := ⟨by decide +kernel, rfl⟩
theorem D3_37 : In method_4_code 37 1 (.lushr) 38 := ⟨by decide +kernel, rfl⟩
theorem D3_38 : In method_4_code 38 3 (.ldc2_w 23) 41 := ⟨by decide +kernel, rfl⟩
theorem D3_41 : In method_4_code 41 1 (.land) 42 := ⟨by decide +kernel, rfl⟩
theorem D3_42 : In method_4_code 42 1 (.l2i) 43 := ⟨by decide +kernel, rfl⟩
theorem D3_43 : In method_4_code 43 2 (.istore 8) 45 := ⟨by decide +kernel, rfl⟩
theorem D3_45 : In method_4_code 45 2 (.iload 7) 47 := ⟨by decide +kernel, rfl⟩
theorem D3_47 : In method_4_code 47 1 (.iload_n 3) 48 := ⟨by decide +kernel, rfl⟩
theorem D3_48 : In method_4_code 48 1 (.iconst 1) 49 := ⟨by decide +kernel, rfl⟩
theorem D3_49 : In method_4_code 49 1 (.isub) 50 := ⟨by decide +kernel, rfl⟩
theorem D3_50 : Jm method_4_code 50 (.if_icmp .ge) 53 61 := ⟨11, by decide +kernel, rfl, by decide, by decide⟩
theorem D3_53 : In method_4_code 53 2 (.iload 8) 55 := ⟨by decide +kernel, rfl⟩
theorem D3_55 : In method_4_code 55 3 (.sipush 128) 58 := ⟨by decide +kernel, rfl⟩
theorem D3_58 : In method_4_code 58 1 (.ior) 59 := ⟨by decide +kernel, rfl⟩
theorem D3_59 : In method_4_code 59 2 (.istore 8) 61 := ⟨by decide +kernel, rfl⟩
theorem D3_61 : In method_4_code 61 1 (.aload_n 0) 62 := ⟨by decide +kernel, rfl⟩
theorem D3_62 : In method_4_code 62 1 (.iload_n 1) 63 := ⟨by decide +kernel, rfl⟩
theorem D3_63 : In method_4_code 63 1 (.baload) 64 := ⟨by decide +kernel, rfl⟩
theorem D3_64 : In method_4_code 64 2 (.iload 8) 66 := ⟨by decide +kernel, rfl⟩
theorem D3_66 : In method_4_code 66 1 (.i2b) 67 := ⟨by decide +kernel, rfl⟩
theorem D3_67 : Jm method_4_code 67 (.if_icmp .ne) 70 74 := ⟨7, by decide +kernel, rfl, by decide, by decide⟩
theorem D3_70 : In method_4_code 70 1 (.iconst 1) 71 := ⟨by decide +kernel, rfl⟩
theorem D3_71 : Jm method_4_code 71 .goto 74 75 := ⟨4, by decide +kernel, rfl, by decide, by decide⟩
theorem D3_75 : In method_4_code 75 1 (.ireturn) 76 := ⟨by decide +kernel, rfl⟩
theorem pd_0 : parseMethodDescriptor "([BIJ)I" = some ⟨[(.array .byte), .int, .long], some .int⟩ := by decide +kernel
theorem pd_1 : parseMethodDescriptor "(J)I" = some ⟨[.long], some .int⟩ := by decide +kernel
theorem pd_2 : parseMethodDescriptor "([BIIIJB)Z" = some ⟨[(.array .byte), .int, .int, .int, .long, .byte], some .boolean⟩ := by decide +kernel
theorem pn_0 : plainName "com/example/dalmine/dalmine/index/IndexFormat" = true := by first | (simp [plainName, overriddenIn]; done) | decide +kernel
theorem pn_1 : plainName "com/example/dalmine/dalmine/index/IndexFormatPutVarintPinLaw" = true := by first | (simp [plainName, overriddenIn]; done) | decide +kernel
set_option maxRecDepth 65536 in
set_option maxHeartbeats 40000000 in
theorem c_pv (l : Launch) {Z : State} {a0 : Array Value} (hw : ∀ d ∈ tables_1, d.before a0 Z = true) (h0 : Heap) (n0 : Nat) (hn0 : n0 ≤ h0.size) (a : Addr) (off : Int32) (v : Int64) (r : Int32) (L : Nat) (f : Nat → Int32) (ga : n0 ≤ a) (H : BArr Z h0 a 18 f) (ho : 0 ≤ off.toInt ∧ off.toInt ≤ 7) (hL : LenOk (NN v) L) (hr : r.toInt = off.toInt + L) : Con l Z (⟨"com/example/dalmine/dalmine/index/IndexFormat", "putVarint", "([BIJ)I"⟩ : MethodName) prog_12_method_9_code 7 (some .int) ({ frames := 0, cells := 0, slots := 0, locals := 0 } : Room) [] #[(.ref a), (.int off), (.long v)] h0 n0 (fun v1 h' => v1 = some (.int r) ∧ Keep h0 h' [a] ∧ BArr Z h' a 18 (pf v off.toInt.toNat L L f)) := by
  refine con_of (Ls0 := #[.val (.ref a), .val (.int off), .val (.long v), .second, .unset, .unset, .unset]) (plainFor_of_name pn_0) (fun m => by first | (simp [entryFrame, mkF, argsToLocals, Value.category]; done) | rfl) hn0 ?_
  intro p e s m below meth c C
  refine g_lloadN C D1_0 rfl ?_
  refine g_lstore C #[.val (.ref a), .val (.int off), .val (.long v), .second, .val (.long v), .second, .unset] D1_1 rfl ?_
  refine g_iloadN C D1_3 rfl ?_
  refine g_istore C #[.val (.ref a), .val (.int off), .val (.long v), .second, .val (.long v), .second, .val (.int off)] D1_4 rfl ?_
  refine g_cast (f' := mkF m 6 #[.val (.ref a), .val (.int off), .val (.long v), .second, .val (.long (cu v 0)), .second, .val (.int off)] []) (by rw [cu_0]) ?_
  refine g_loop (ι := Heap × Int32 × Nat) (fun y => y.1) (fun y => mkF m 6 #[.val (.ref a), .val (.int off), .val (.long v), .second, .val (.long (cu v y.2.2)), .second, .val (.int y.2.1)] []) (fun y => y.2.2 < L ∧ y.2.1.toInt = off.toInt + y.2.2 ∧ Keep h0 y.1 [a] ∧ BArr Z y.1 a 18 (pf v off.toInt.toNat L y.2.2 f)) (fun y => L - y.2.2) ?_ (h0, off, 0) ⟨hL.1, by show off.toInt = off.toInt + (0 : Nat); omega, Keep.refl _ _, by show BArr Z h0 a 18 (pf v off.toInt.toNat L 0 f); rw [pf_0]; exact H⟩
  rintro ⟨hh, po, j⟩ ⟨p1, p2, KK, Ab⟩ ih
  try dsimp only at p1 p2 KK Ab ih ⊢
  have mi := more_iff hL p1
  have hj9 : j ≤ 9 := by have := hL.2.1; omega
  rw [← cu_NN v j hj9] at mi
  generalize q_cj : cu v j = cj at *
  refine g_lload C D1_6 rfl ?_
  refine g_ldc2 C (wd_5 hw) D1_8 ?_
  refine g_land C D1_11 ?_
  refine g_lconst C (0 : Int64) rfl D1_12 ?_
  refine g_lcmp_eq C D1_13 D1_14 (fun q1 => ?_) (fun q1 => ?_)
  · refine g_aloadN C D1_46 rfl rfl ?_
    refine g_iload C D1_47 rfl ?_
    refine g_iinc C (po + (1 : Int32)) #[.val (.ref a), .val (.int off), .val (.long v), .second, .val (.long cj), .second, .val (.int (po + (1 : Int32)))] D1_49 rfl rfl rfl ?_
    refine g_lload C D1_52 rfl ?_
    refine g_l2i C D1_54 ?_
    refine g_i2b C D1_55 ?_
    refine g_bastore C D1_56 Ab (by omega) (by have := hL.2.1; omega) ga ?_
    intro h2 W3
    have A4 := BArr.set Ab W3
    have K5 := KK.wr W3 (Or.inl (by simp))
    refine g_iload C D1_57 rfl ?_
    refine g_retI C D1_59 (by decide) (by decide) ?_
    have q1 := (hi7 cj).mp q1
    have q2 := mi.mp q1
    have e1 : po.toInt.toNat = off.toInt.toNat + j := by omega
    have A9 := pf_s v off.toInt.toNat L j f _ (show cj.toInt32.toInt8.toInt32.toInt8.toInt32 = _ by rw [if_pos q2, q_cj]; exact b0_eq cj q1)
    rw [e1, A9, q2] at A4
    have e2 : po + 1 = r := by
      apply Int32.toInt_inj.mp
      have c := c_iadd po 1; have := rng32 (po + 1); have e : (1 : Int32).toInt = 1 := rfl; have := hL.2.1
      omega
    exact ⟨by rw [e2], K5, A4⟩
  · refine g_aloadN C D1_17 rfl rfl ?_
    refine g_iload C D1_18 rfl ?_
    refine g_iinc C (po + (1 : Int32)) #[.val (.ref a), .val (.int off), .val (.long v), .second, .val (.long cj), .second, .val (.int (po + (1 : Int32)))] D1_20 rfl rfl rfl ?_
    refine g_lload C D1_23 rfl ?_
    refine g_ldc2 C (wd_14 hw) D1_25 ?_
    refine g_land C D1_28 ?_
    refine g_ldc2 C (wd_15 hw) D1_29 ?_
    refine g_lor C D1_32 ?_
    refine g_l2i C D1_33 ?_
    refine g_i2b C D1_34 ?_
    refine g_bastore C D1_35 Ab (by omega) (by have := hL.2.1; omega) ga ?_
    intro h6 W7
    have A8 := BArr.set Ab W7
    have K9 := KK.wr W7 (Or.inl (by simp))
    refine g_lload C D1_36 rfl ?_
    refine g_bipush C (7 : Int32) rfl D1_38 ?_
    refine g_lushr C D1_40 ?_
    refine g_lstore C #[.val (.ref a), .val (.int off), .val (.long v), .second, .val (.long (ushrJ cj (7 : Int32))), .second, .val (.int (po + (1 : Int32)))] D1_41 rfl ?_
    refine g_goto C D1_43 ?_
    have q1 : ¬ NN cj < 128 := fun z => q1 ((hi7 cj).mpr z)
    have q2 : ¬ j + 1 = L := fun z => q1 (mi.mpr z)
    have e1 : po.toInt.toNat = off.toInt.toNat + j := by omega
    have A9 := pf_s v off.toInt.toNat L j f _ (show ((cj &&& 127) ||| 128).toInt32.toInt8.toInt32.toInt8.toInt32 = _ by rw [if_neg q2, q_cj]; exact b1_eq cj)
    rw [e1, A9] at A8
    have e2 : (po + 1).toInt = off.toInt + (j + 1 : Nat) := by
      have c := c_iadd po 1; have := rng32 (po + 1); have e : (1 : Int32).toInt = 1 := rfl; have := hL.2.1
      omega
    have e3 : ushrJ cj 7 = cu v (j + 1) := by rw [← q_cj]; exact cu_s v j (by have := hL.2.1; omega)
    rw [e3]
    exact ih (h6, po + 1, j + 1) ⟨by show j + 1 < L; omega, e2, K9, A8⟩ (by show L - (j + 1) < L - j; omega)
set_option maxRecDepth 65536 in
set_option maxHeartbeats 40000000 in
theorem c_vl (l : Launch) {Z : State} {a0 : Array Value} (hw : ∀ d ∈ tables_1, d.before a0 Z = true) (h0 : Heap) (n0 : Nat) (hn0 : n0 ≤ h0.size) (v : Int64) (r : Int32) (L : Nat) (hL : LenOk (NN v) L) (hr : r.toInt = L) : Con l Z (⟨"com/example/dalmine/dalmine/index/IndexFormatPutVarintPinLaw", "varintLength", "(J)I"⟩ : MethodName) method_3_code 2 (some .int) ({ frames := 0, cells := 0, slots := 0, locals := 0 } : Room) [] #[(.long v)] h0 n0 (fun v1 h' => v1 = some (.int r) ∧ h0 = h') := by
  refine con_of (Ls0 := #[.val (.long v), .second]) (plainFor_of_name pn_1) (fun m => by first | (simp [entryFrame, mkF, argsToLocals, Value.category]; done) | rfl) hn0 ?_
  intro p e s m below meth c C
  refine g_lloadN C D2_0 rfl ?_
  refine g_bipush C (7 : Int32) rfl D2_1 ?_
  refine g_lushr C D2_3 ?_
  refine g_lconst C (0 : Int64) rfl D2_4 ?_
  refine g_lcmp_ne C D2_5 D2_6 (fun q1 => ?_) (fun q1 => ?_)
  · have g1 : 128 ^ 1 ≤ NN v := by have := mt (ush0 v 7 1 (by decide)).mpr q1; omega
    refine g_lloadN C D2_11 rfl ?_
    refine g_bipush C (14 : Int32) rfl D2_12 ?_
    refine g_lushr C D2_14 ?_
    refine g_lconst C (0 : Int64) rfl D2_15 ?_
    refine g_lcmp_ne C D2_16 D2_17 (fun q2 => ?_) (fun q2 => ?_)
    · have g2 : 128 ^ 2 ≤ NN v := by have := mt (ush0 v 14 2 (by decide)).mpr q2; omega
      refine g_lloadN C D2_22 rfl ?_
      refine g_bipush C (21 : Int32) rfl D2_23 ?_
      refine g_lushr C D2_25 ?_
      refine g_lconst C (0 : Int64) rfl D2_26 ?_
      refine g_lcmp_ne C D2_27 D2_28 (fun q3 => ?_) (fun q3 => ?_)
      · have g3 : 128 ^ 3 ≤ NN v := by have := mt (ush0 v 21 3 (by decide)).mpr q3; omega
        refine g_lloadN C D2_33 rfl ?_
        refine g_bipush C (28 : Int32) rfl D2_34 ?_
        refine g_lushr C D2_36 ?_
        refine g_lconst C (0 : Int64) rfl D2_37 ?_
        refine g_lcmp_ne C D2_38 D2_39 (fun q4 => ?_) (fun q4 => ?_)
        · have g4 : 128 ^ 4 ≤ NN v := by have := mt (ush0 v 28 4 (by decide)).mpr q4; omega
          refine g_lloadN C D2_44 rfl ?_
          refine g_bipush C (35 : Int32) rfl D2_45 ?_
          refine g_lushr C D2_47 ?_
          refine g_lconst C (0 : Int64) rfl D2_48 ?_
          refine g_lcmp_ne C D2_49 D2_50 (fun q5 => ?_) (fun q5 => ?_)
          · have g5 : 128 ^ 5 ≤ NN v := by have := mt (ush0 v 35 5 (by decide)).mpr q5; omega
            refine g_lloadN C D2_55 rfl ?_
            refine g_bipush C (42 : Int32) rfl D2_56 ?_
            refine g_lushr C D2_58 ?_
            refine g_lconst C (0 : Int64) rfl D2_59 ?_
            refine g_lcmp_ne C D2_60 D2_61 (fun q6 => ?_) (fun q6 => ?_)
            · have g6 : 128 ^ 6 ≤ NN v := by have := mt (ush0 v 42 6 (by decide)).mpr q6; omega
              refine g_lloadN C D2_67 rfl ?_
              refine g_bipush C (49 : Int32) rfl D2_68 ?_
              refine g_lushr C D2_70 ?_
              refine g_lconst C (0 : Int64) rfl D2_71 ?_
              refine g_lcmp_ne C D2_72 D2_73 (fun q7 => ?_) (fun q7 => ?_)
              · have g7 : 128 ^ 7 ≤ NN v := by have := mt (ush0 v 49 7 (by decide)).mpr q7; omega
                refine g_lloadN C D2_79 rfl ?_
                refine g_bipush C (56 : Int32) rfl D2_80 ?_
                refine g_lushr C D2_82 ?_
                refine g_lconst C (0 : Int64) rfl D2_83 ?_
                refine g_lcmp_ne C D2_84 D2_85 (fun q8 => ?_) (fun q8 => ?_)
                · have g8 : 128 ^ 8 ≤ NN v := by have := mt (ush0 v 56 8 (by decide)).mpr q8; omega
                  refine g_lloadN C D2_91 rfl ?_
                  refine g_bipush C (63 : Int32) rfl D2_92 ?_
                  refine g_lushr C D2_94 ?_
                  refine g_lconst C (0 : Int64) rfl D2_95 ?_
                  refine g_lcmp_ne C D2_96 D2_97 (fun q9 => ?_) (fun q9 => ?_)
                  · have g9 : 128 ^ 9 ≤ NN v := by have := mt (ush0 v 63 9 (by decide)).mpr q9; omega
                    refine g_bipush C (10 : Int32) rfl D2_103 ?_
                    refine g_retI C D2_105 (by decide) (by decide) ?_
                    obtain rfl := lit_eq 10 hr (len_hit hL (by have := NN_lt v; show NN v < 128 ^ 10; omega) (Or.inr g9) (by decide)) rfl
                    exact ⟨rfl, rfl⟩
                  · refine g_bipush C (9 : Int32) rfl D2_100 ?_
                    refine g_retI C D2_102 (by decide) (by decide) ?_
                    obtain rfl := lit_eq 9 hr (len_hit hL ((ush0 v 63 9 (by decide)).mp q9) (Or.inr g8) (by decide)) rfl
                    exact ⟨rfl, rfl⟩
                · refine g_bipush C (8 : Int32) rfl D2_88 ?_
                  refine g_retI C D2_90 (by decide) (by decide) ?_
                  obtain rfl := lit_eq 8 hr (len_hit hL ((ush0 v 56 8 (by decide)).mp q8) (Or.inr g7) (by decide)) rfl
                  exact ⟨rfl, rfl⟩
              · refine g_bipush C (7 : Int32) rfl D2_76 ?_
                refine g_retI C D2_78 (by decide) (by decide) ?_
                obtain rfl := lit_eq 7 hr (len_hit hL ((ush0 v 49 7 (by decide)).mp q7) (Or.inr g6) (by decide)) rfl
                exact ⟨rfl, rfl⟩
            · refine g_bipush C (6 : Int32) rfl D2_64 ?_
              refine g_retI C D2_66 (by decide) (by decide) ?_
              obtain rfl := lit_eq 6 hr (len_hit hL ((ush0 v 42 6 (by decide)).mp q6) (Or.inr g5) (by decide)) rfl
              exact ⟨rfl, rfl⟩
          · refine g_iconst C (5 : Int32) rfl D2_53 ?_
            refine g_retI C D2_54 (by decide) (by decide) ?_
            obtain rfl := lit_eq 5 hr (len_hit hL ((ush0 v 35 5 (by decide)).mp q5) (Or.inr g4) (by decide)) rfl
            exact ⟨rfl, rfl⟩
        · refine g_iconst C (4 : Int32) rfl D2_42 ?_
          refine g_retI C D2_43 (by decide) (by decide) ?_
          obtain rfl := lit_eq 4 hr (len_hit hL ((ush0 v 28 4 (by decide)).mp q4) (Or.inr g3) (by decide)) rfl
          exact ⟨rfl, rfl⟩
      · refine g_iconst C (3 : Int32) rfl D2_31 ?_
        refine g_retI C D2_32 (by decide) (by decide) ?_
        obtain rfl := lit_eq 3 hr (len_hit hL ((ush0 v 21 3 (by decide)).mp q3) (Or.inr g2) (by decide)) rfl
        exact ⟨rfl, rfl⟩
    · refine g_iconst C (2 : Int32) rfl D2_20 ?_
      refine g_retI C D2_21 (by decide) (by decide) ?_
      obtain rfl := lit_eq 2 hr (len_hit hL ((ush0 v 14 2 (by decide)).mp q2) (Or.inr g1) (by decide)) rfl
      exact ⟨rfl, rfl⟩
  · refine g_iconst C (1 : Int32) rfl D2_9 ?_
    refine g_retI C D2_10 (by decide) (by decide) ?_
    obtain rfl := lit_eq 1 hr (len_hit hL ((ush0 v 7 1 (by decide)).mp q1) (Or.inl rfl) (by decide)) rfl
    exact ⟨rfl, rfl⟩
set_option maxRecDepth 65536 in
set_option maxHeartbeats 40000000 in
theorem c_at (l : Launch) {Z : State} {a0 : Array Value} (hw : ∀ d ∈ tables_1, d.before a0 Z = true) (h0 : Heap) (n0 : Nat) (hn0 : n0 ≤ h0.size) (a : Addr) (i off len : Int32) (v : Int64) (fill : Int32) (F : Nat → Int32) (H : BArr Z h0 a 18 F) (hi : 0 ≤ i.toInt ∧ i.toInt < ((18 : Nat) : Int)) (hs : atOk F i off len v fill) : Con l Z (⟨"com/example/dalmine/dalmine/index/IndexFormatPutVarintPinLaw", "at", "([BIIIJB)Z"⟩ : MethodName) method_4_code 9 (some .boolean) ({ frames := 0, cells := 0, slots := 0, locals := 0 } : Room) [] #[(.ref a), (.int i), (.int off), (.int len), (.long v), (.int fill)] h0 n0 (fun v1 h' => v1 = some (.int 1) ∧ h0 = h') := by
  refine con_of (Ls0 := #[.val (.ref a), .val (.int i), .val (.int off), .val (.int len), .val (.long v), .second, .val (.int fill), .unset, .unset]) (plainFor_of_name pn_1) (fun m => by first | (simp [entryFrame, mkF, argsToLocals, Value.category]; done) | rfl) hn0 ?_
  intro p e s m below meth c C
  refine g_iloadN C D3_0 rfl ?_
  refine g_iloadN C D3_1 rfl ?_
  refine g_isub C D3_2 ?_
  refine g_istore C #[.val (.ref a), .val (.int i), .val (.int off), .val (.int len), .val (.long v), .second, .val (.int fill), .val (.int (i - off)), .unset] D3_3 rfl ?_
  refine g_iload C D3_5 rfl ?_
  refine g_if_lt C D3_7 (fun q1 => ?_) (fun q1 => ?_)
  · refine g_aloadN C D3_16 rfl rfl ?_
    refine g_iloadN C D3_17 rfl ?_
    refine g_baload C D3_18 H hi.1 hi.2 (F i.toInt.toNat) rfl ?_
    refine g_iload C D3_19 rfl ?_
    refine g_icmp_ne C D3_21 (fun q2 => ?_) (fun q2 => ?_)
    · exfalso
      exact q2 (hs.1 (Or.inl q1))
    refine g_iconst C (1 : Int32) rfl D3_24 ?_
    refine g_goto C D3_25 ?_
    refine g_retZ C D3_29 (by decide) (by decide) ?_
    exact ⟨rfl, rfl⟩
  · refine g_iload C D3_10 rfl ?_
    refine g_iloadN C D3_12 rfl ?_
    refine g_icmp_lt C D3_13 (fun q3 => ?_) (fun q3 => ?_)
    · refine g_lload C D3_30 rfl ?_
      refine g_bipush C (7 : Int32) rfl D3_32 ?_
      refine g_iload C D3_34 rfl ?_
      refine g_imul C D3_36 ?_
      refine g_lushr C D3_37 ?_
      refine g_ldc2 C (wd_13 hw) D3_38 ?_
      refine g_land C D3_41 ?_
      refine g_l2i C D3_42 ?_
      refine g_istore C #[.val (.ref a), .val (.int i), .val (.int off), .val (.int len), .val (.long v), .second, .val (.int fill), .val (.int (i - off)), .val (.int (((ushrJ v ((7 : Int32) * (i - off))) &&& (127 : Int64)).toInt32))] D3_43 rfl ?_
      refine g_iload C D3_45 rfl ?_
      refine g_iloadN C D3_47 rfl ?_
      refine g_iconst C (1 : Int32) rfl D3_48 ?_
      refine g_isub C D3_49 ?_
      refine g_icmp_ge C D3_50 (fun q4 => ?_) (fun q4 => ?_)
      · refine g_aloadN C D3_61 rfl rfl ?_
        refine g_iloadN C D3_62 rfl ?_
        refine g_baload C D3_63 H hi.1 hi.2 (F i.toInt.toNat) rfl ?_
        refine g_iload C D3_64 rfl ?_
        refine g_i2b C D3_66 ?_
        refine g_icmp_ne C D3_67 (fun q5 => ?_) (fun q5 => ?_)
        · exfalso
          exact q5 ((hs.2 q1 q3).2 q4)
        refine g_iconst C (1 : Int32) rfl D3_70 ?_
        refine g_goto C D3_71 ?_
        refine g_retZ C D3_75 (by decide) (by decide) ?_
        exact ⟨rfl, rfl⟩
      · refine g_iload C D3_53 rfl ?_
        refine g_sipush C (128 : Int32) rfl D3_55 ?_
        refine g_ior C D3_58 ?_
        refine g_istore C #[.val (.ref a), .val (.int i), .val (.int off), .val (.int len), .val (.long v), .second, .val (.int fill), .val (.int (i - off)), .val (.int ((((ushrJ v ((7 : Int32) * (i - off))) &&& (127 : Int64)).toInt32) ||| (128 : Int32)))] D3_59 rfl ?_
        refine g_aloadN C D3_61 rfl rfl ?_
        refine g_iloadN C D3_62 rfl ?_
        refine g_baload C D3_63 H hi.1 hi.2 (F i.toInt.toNat) rfl ?_
        refine g_iload C D3_64 rfl ?_
        refine g_i2b C D3_66 ?_
        refine g_icmp_ne C D3_67 (fun q6 => ?_) (fun q6 => ?_)
        · exfalso
          exact q6 ((hs.2 q1 q3).1 q4)
        refine g_iconst C (1 : Int32) rfl D3_70 ?_
        refine g_goto C D3_71 ?_
        refine g_retZ C D3_75 (by decide) (by decide) ?_
        exact ⟨rfl, rfl⟩
    · refine g_aloadN C D3_16 rfl rfl ?_
      refine g_iloadN C D3_17 rfl ?_
      refine g_baload C D3_18 H hi.1 hi.2 (F i.toInt.toNat) rfl ?_
      refine g_iload C D3_19 rfl ?_
      refine g_icmp_ne C D3_21 (fun q7 => ?_) (fun q7 => ?_)
      · exfalso
        exact q7 (hs.1 (Or.inr q3))
      refine g_iconst C (1 : Int32) rfl D3_24 ?_
      refine g_goto C D3_25 ?_
      refine g_retZ C D3_29 (by decide) (by decide) ?_
      exact ⟨rfl, rfl⟩
set_option maxRecDepth 65536 in
set_option maxHeartbeats 40000000 in
theorem c_law (l : Launch) {Z : State} {a0 : Array Value} (hw : ∀ d ∈ tables_1, d.before a0 Z = true) (ws : List Jvm.Cond) (h0 : Heap) (n0 : Nat) (hn0 : n0 ≤ h0.size) (i_v : Int64) (i_s i_o i_p : Int32)  : Con l Z x code maxLocals ret room_1 ws #[(.long i_v), (.int i_s), (.int i_o), (.int i_p)] h0 n0 (fun v h' => v = some (.int 1) ∧ True) := by
  refine con_of (Ls0 := #[.val (.long i_v), .second, .val (.int i_s), .val (.int i_o), .val (.int i_p), .unset, .unset, .unset, .unset, .unset, .unset, .unset, .unset]) (plainFor_of_name pn_1) (fun m => by first | (simp [entryFrame, mkF, argsToLocals, Value.category, maxLocals]; done) | rfl) hn0 ?_
  intro p e s m below meth c C
  refine g_lloadN C D0_0 rfl ?_
  refine g_iloadN C D0_1 rfl ?_
  refine g_bipush C (63 : Int32) rfl D0_2 ?_
  refine g_iand C D0_4 ?_
  refine g_lushr C D0_5 ?_
  generalize q_v : (ushrJ i_v (i_s &&& (63 : Int32))) = v
  refine g_lstore C #[.val (.long i_v), .second, .val (.int i_s), .val (.int i_o), .val (.int i_p), .val (.long v), .second, .unset, .unset, .unset, .unset, .unset, .unset] D0_6 rfl ?_
  refine g_iloadN C D0_8 rfl ?_
  refine g_bipush C (7 : Int32) rfl D0_9 ?_
  refine g_iand C D0_11 ?_
  generalize q_off : (i_o &&& (7 : Int32)) = off
  have ho : 0 ≤ off.toInt ∧ off.toInt ≤ 7 := q_off ▸ off7 i_o
  refine g_istore C #[.val (.long i_v), .second, .val (.int i_s), .val (.int i_o), .val (.int i_p), .val (.long v), .second, .val (.int off), .unset, .unset, .unset, .unset, .unset] D0_12 rfl ?_
  refine g_iload C D0_14 rfl ?_
  refine g_i2b C D0_16 ?_
  generalize q_fl : (i_p.toInt8.toInt32) = fl
  have hfl : fl.toInt8.toInt32 = fl := by rw [← q_fl]; exact byte2 i_p
  refine g_istore C #[.val (.long i_v), .second, .val (.int i_s), .val (.int i_o), .val (.int i_p), .val (.long v), .second, .val (.int off), .val (.int fl), .unset, .unset, .unset, .unset] D0_17 rfl ?_
  refine g_bipush C (18 : Int32) rfl D0_19 ?_
  refine g_newarr C (aty := .byte) (wd_0 hw) D0_21 (by decide) 18 (by decide) (by decide) (by decide) (by decide) ?_
  intro h1 b2 kA3 ge4 ea5 E6 X7
  have A8 : BArr Z h1 b2 18 (fun _ => (0 : Int32)) := BArr.new X7
  refine g_dup C D0_23 rfl ?_
  refine g_iconst C (0 : Int32) rfl D0_24 ?_
  refine g_iload C D0_25 rfl ?_
  refine g_bastore C D0_27 A8 (by decide) (by decide) ge4 ?_
  intro h9 W10
  have A11 := BArr.set A8 W10
  refine g_dup C D0_28 rfl ?_
  refine g_iconst C (1 : Int32) rfl D0_29 ?_
  refine g_iload C D0_30 rfl ?_
  refine g_bastore C D0_32 A11 (by decide) (by decide) ge4 ?_
  intro h12 W13
  have A14 := BArr.set A11 W13
  refine g_dup C D0_33 rfl ?_
  refine g_iconst C (2 : Int32) rfl D0_34 ?_
  refine g_iload C D0_35 rfl ?_
  refine g_bastore C D0_37 A14 (by decide) (by decide) ge4 ?_
  intro h15 W16
  have A17 := BArr.set A14 W16
  refine g_dup C D0_38 rfl ?_
  refine g_iconst C (3 : Int32) rfl D0_39 ?_
  refine g_iload C D0_40 rfl ?_
  refine g_bastore C D0_42 A17 (by decide) (by decide) ge4 ?_
  intro h18 W19
  have A20 := BArr.set A17 W19
  refine g_dup C D0_43 rfl ?_
  refine g_iconst C (4 : Int32) rfl D0_44 ?_
  refine g_iload C D0_45 rfl ?_
  refine g_bastore C D0_47 A20 (by decide) (by decide) ge4 ?_
  intro h21 W22
  have A23 := BArr.set A20 W22
  refine g_dup C D0_48 rfl ?_
  refine g_iconst C (5 : Int32) rfl D0_49 ?_
  refine g_iload C D0_50 rfl ?_
  refine g_bastore C D0_52 A23 (by decide) (by decide) ge4 ?_
  intro h24 W25
  have A26 := BArr.set A23 W25
  refine g_dup C D0_53 rfl ?_
  refine g_bipush C (6 : Int32) rfl D0_54 ?_
  refine g_iload C D0_56 rfl ?_
  refine g_bastore C D0_58 A26 (by decide) (by decide) ge4 ?_
  intro h27 W28
  have A29 := BArr.set A26 W28
  refine g_dup C D0_59 rfl ?_
  refine g_bipush C (7 : Int32) rfl D0_60 ?_
  refine g_iload C D0_62 rfl ?_
  refine g_bastore C D0_64 A29 (by decide) (by decide) ge4 ?_
  intro h30 W31
  have A32 := BArr.set A29 W31
  refine g_dup C D0_65 rfl ?_
  refine g_bipush C (8 : Int32) rfl D0_66 ?_
  refine g_iload C D0_68 rfl ?_
  refine g_bastore C D0_70 A32 (by decide) (by decide) ge4 ?_
  intro h33 W34
  have A35 := BArr.set A32 W34
  refine g_dup C D0_71 rfl ?_
  refine g_bipush C (9 : Int32) rfl D0_72 ?_
  refine g_iload C D0_74 rfl ?_
  refine g_bastore C D0_76 A35 (by decide) (by decide) ge4 ?_
  intro h36 W37
  have A38 := BArr.set A35 W37
  refine g_dup C D0_77 rfl ?_
  refine g_bipush C (10 : Int32) rfl D0_78 ?_
  refine g_iload C D0_80 rfl ?_
  refine g_bastore C D0_82 A38 (by decide) (by decide) ge4 ?_
  intro h39 W40
  have A41 := BArr.set A38 W40
  refine g_dup C D0_83 rfl ?_
  refine g_bipush C (11 : Int32) rfl D0_84 ?_
  refine g_iload C D0_86 rfl ?_
  refine g_bastore C D0_88 A41 (by decide) (by decide) ge4 ?_
  intro h42 W43
  have A44 := BArr.set A41 W43
  refine g_dup C D0_89 rfl ?_
  refine g_bipush C (12 : Int32) rfl D0_90 ?_
  refine g_iload C D0_92 rfl ?_
  refine g_bastore C D0_94 A44 (by decide) (by decide) ge4 ?_
  intro h45 W46
  have A47 := BArr.set A44 W46
  refine g_dup C D0_95 rfl ?_
  refine g_bipush C (13 : Int32) rfl D0_96 ?_
  refine g_iload C D0_98 rfl ?_
  refine g_bastore C D0_100 A47 (by decide) (by decide) ge4 ?_
  intro h48 W49
  have A50 := BArr.set A47 W49
  refine g_dup C D0_101 rfl ?_
  refine g_bipush C (14 : Int32) rfl D0_102 ?_
  refine g_iload C D0_104 rfl ?_
  refine g_bastore C D0_106 A50 (by decide) (by decide) ge4 ?_
  intro h51 W52
  have A53 := BArr.set A50 W52
  refine g_dup C D0_107 rfl ?_
  refine g_bipush C (15 : Int32) rfl D0_108 ?_
  refine g_iload C D0_110 rfl ?_
  refine g_bastore C D0_112 A53 (by decide) (by decide) ge4 ?_
  intro h54 W55
  have A56 := BArr.set A53 W55
  refine g_dup C D0_113 rfl ?_
  refine g_bipush C (16 : Int32) rfl D0_114 ?_
  refine g_iload C D0_116 rfl ?_
  refine g_bastore C D0_118 A56 (by decide) (by decide) ge4 ?_
  intro h57 W58
  have A59 := BArr.set A56 W58
  refine g_dup C D0_119 rfl ?_
  refine g_bipush C (17 : Int32) rfl D0_120 ?_
  refine g_iload C D0_122 rfl ?_
  refine g_bastore C D0_124 A59 (by decide) (by decide) ge4 ?_
  intro h60 W61
  have A62 := BArr.set A59 W61
  refine g_astore C #[.val (.long i_v), .second, .val (.int i_s), .val (.int i_o), .val (.int i_p), .val (.long v), .second, .val (.int off), .val (.int fl), .val (.ref b2), .unset, .unset, .unset] D0_125 rfl rfl ?_
  have Aw : BArr Z h60 b2 18 (fun _ => fl) := by
    refine A62.congr (fun i hi => ?_)
    rcases (show i = 0 ∨ i = 1 ∨ i = 2 ∨ i = 3 ∨ i = 4 ∨ i = 5 ∨ i = 6 ∨ i = 7 ∨ i = 8 ∨ i = 9 ∨ i = 10 ∨ i = 11 ∨ i = 12 ∨ i = 13 ∨ i = 14 ∨ i = 15 ∨ i = 16 ∨ i = 17 by omega) with rfl | rfl | rfl | rfl | rfl | rfl | rfl | rfl | rfl | rfl | rfl | rfl | rfl | rfl | rfl | rfl | rfl | rfl <;> exact hfl.symm
  have hzw : n0 ≤ h60.size := Nat.le_trans ge4 (Nat.le_of_lt Aw.lt)
  obtain ⟨L, hL⟩ := lenE (NN v) (NN_lt v)
  obtain ⟨ln, hln⟩ : ∃ ln : Int32, ln.toInt = L := ⟨Int32.ofNat L, Int32.toInt_ofNat_of_lt (by have := hL.2.1; omega)⟩
  have hen : (off + ln).toInt = off.toInt + L := by
    have c := c_iadd off ln; have := rng32 (off + ln); have := hL.2.1
    omega
  refine g_aload C D0_127 rfl rfl ?_
  refine g_iload C D0_129 rfl ?_
  refine g_lload C D0_131 rfl ?_
  refine g_callS C (c_pv l hw h60 n0 hzw b2 off v (off + ln) L (fun _ => fl) ge4 Aw ho hL hen) (wd_1 hw) (wd_2 hw) (wd_3 hw) (wd_4 hw) (by decide) D0_133 pd_0 [(.ref b2), (.int off), (.long v)] [] rfl rfl rfl 0 (Nat.le_of_eq rfl) (by decide) (by decide) (by decide) (by decide) ?_
  rintro _ hA ⟨rfl, KA, HA⟩
  have hz2 : n0 ≤ hA.size := Nat.le_trans hzw KA.1
  refine g_cast (f' := mkF m 136 #[.val (.long i_v), .second, .val (.int i_s), .val (.int i_o), .val (.int i_p), .val (.long v), .second, .val (.int off), .val (.int fl), .val (.ref b2), .unset, .unset, .unset] [(.int (off + ln))]) rfl ?_
  refine g_istore C #[.val (.long i_v), .second, .val (.int i_s), .val (.int i_o), .val (.int i_p), .val (.long v), .second, .val (.int off), .val (.int fl), .val (.ref b2), .val (.int (off + ln)), .unset, .unset] D0_136 rfl ?_
  refine g_lload C D0_138 rfl ?_
  refine g_callS C (c_vl l hw hA n0 hz2 v ln L hL hln) (wd_6 hw) (wd_7 hw) (wd_8 hw) (wd_9 hw) (by decide) D0_140 pd_1 [(.long v)] [] rfl rfl rfl 0 (Nat.le_of_eq rfl) (by decide) (by decide) (by decide) (by decide) ?_
  rintro _ _ ⟨rfl, rfl⟩
  refine g_cast (f' := mkF m 143 #[.val (.long i_v), .second, .val (.int i_s), .val (.int i_o), .val (.int i_p), .val (.long v), .second, .val (.int off), .val (.int fl), .val (.ref b2), .val (.int (off + ln)), .unset, .unset] [(.int ln)]) rfl ?_
  refine g_istore C #[.val (.long i_v), .second, .val (.int i_s), .val (.int i_o), .val (.int i_p), .val (.long v), .second, .val (.int off), .val (.int fl), .val (.ref b2), .val (.int (off + ln)), .val (.int ln), .unset] D0_143 rfl ?_
  refine g_iload C D0_145 rfl ?_
  refine g_iload C D0_147 rfl ?_
  refine g_iload C D0_149 rfl ?_
  refine g_iadd C D0_151 ?_
  refine g_icmp_eq C D0_152 (fun q63 => ?_) (fun q63 => ?_)
  rotate_left
  · exfalso
    exact q63 rfl
  refine g_iconst C (1 : Int32) rfl D0_157 ?_
  refine g_istore C #[.val (.long i_v), .second, .val (.int i_s), .val (.int i_o), .val (.int i_p), .val (.long v), .second, .val (.int off), .val (.int fl), .val (.ref b2), .val (.int (off + ln)), .val (.int ln), .val (.int (1 : Int32))] D0_158 rfl ?_
  refine g_iload C D0_160 rfl ?_
  refine g_aload C D0_162 rfl rfl ?_
  refine g_iconst C (0 : Int32) rfl D0_164 ?_
  refine g_iload C D0_165 rfl ?_
  refine g_iload C D0_167 rfl ?_
  refine g_lload C D0_169 rfl ?_
  refine g_iload C D0_171 rfl ?_
  refine g_callS C (c_at l hw hA n0 hz2 b2 0 off ln v fl _ HA (by decide) (at_ok (by decide) ho hln ⟨hL.1, hL.2.1⟩)) (wd_10 hw) (wd_11 hw) (wd_8 hw) (wd_12 hw) (by decide) D0_173 pd_2 [(.ref b2), (.int (0 : Int32)), (.int off), (.int ln), (.long v), (.int fl)] [(.int (1 : Int32))] rfl rfl rfl 1 (Nat.le_of_eq rfl) (by decide) (by decide) (by decide) (by decide) ?_
  rintro _ _ ⟨rfl, rfl⟩
  refine g_cast (f' := mkF m 176 #[.val (.long i_v), .second, .val (.int i_s), .val (.int i_o), .val (.int i_p), .val (.long v), .second, .val (.int off), .val (.int fl), .val (.ref b2), .val (.int (off + ln)), .val (.int ln), .val (.int (1 : Int32))] [(.int (1 : Int32)), (.int (1 : Int32))]) rfl ?_
  refine g_iand C D0_176 ?_
  refine g_cast (f' := mkF m 177 #[.val (.long i_v), .second, .val (.int i_s), .val (.int i_o), .val (.int i_p), .val (.long v), .second, .val (.int off), .val (.int fl), .val (.ref b2), .val (.int (off + ln)), .val (.int ln), .val (.int (1 : Int32))] [(.int (1 : Int32))]) rfl ?_
  refine g_istore C #[.val (.long i_v), .second, .val (.int i_s), .val (.int i_o), .val (.int i_p), .val (.long v), .second, .val (.int off), .val (.int fl), .val (.ref b2), .val (.int (off + ln)), .val (.int ln), .val (.int (1 : Int32))] D0_177 rfl ?_
  refine g_iload C D0_179 rfl ?_
  refine g_aload C D0_181 rfl rfl ?_
  refine g_iconst C (1 : Int32) rfl D0_183 ?_
  refine g_iload C D0_184 rfl ?_
  refine g_iload C D0_186 rfl ?_
  refine g_lload C D0_188 rfl ?_
  refine g_iload C D0_190 rfl ?_
  refine g_callS C (c_at l hw hA n0 hz2 b2 1 off ln v fl _ HA (by decide) (at_ok (by decide) ho hln ⟨hL.1, hL.2.1⟩)) (wd_10 hw) (wd_11 hw) (wd_8 hw) (wd_12 hw) (by decide) D0_192 pd_2 [(.ref b2), (.int (1 : Int32)), (.int off), (.int ln), (.long v), (.int fl)] [(.int (1 : Int32))] rfl rfl rfl 1 (Nat.le_of_eq rfl) (by decide) (by decide) (by decide) (by decide) ?_
  rintro _ _ ⟨rfl, rfl⟩
  refine g_cast (f' := mkF m 195 #[.val (.long i_v), .second, .val (.int i_s), .val (.int i_o), .val (.int i_p), .val (.long v), .second, .val (.int off), .val (.int fl), .val (.ref b2), .val (.int (off + ln)), .val (.int ln), .val (.int (1 : Int32))] [(.int (1 : Int32)), (.int (1 : Int32))]) rfl ?_
  refine g_iand C D0_195 ?_
  refine g_cast (f' := mkF m 196 #[.val (.long i_v), .second, .val (.int i_s), .val (.int i_o), .val (.int i_p), .val (.long v), .second, .val (.int off), .val (.int fl), .val (.ref b2), .val (.int (off + ln)), .val (.int ln), .val (.int (1 : Int32))] [(.int (1 : Int32))]) rfl ?_
  refine g_istore C #[.val (.long i_v), .second, .val (.int i_s), .val (.int i_o), .val (.int i_p), .val (.long v), .second, .val (.int off), .val (.int fl), .val (.ref b2), .val (.int (off + ln)), .val (.int ln), .val (.int (1 : Int32))] D0_196 rfl ?_
  refine g_iload C D0_198 rfl ?_
  refine g_aload C D0_200 rfl rfl ?_
  refine g_iconst C (2 : Int32) rfl D0_202 ?_
  refine g_iload C D0_203 rfl ?_
  refine g_iload C D0_205 rfl ?_
  refine g_lload C D0_207 rfl ?_
  refine g_iload C D0_209 rfl ?_
  refine g_callS C (c_at l hw hA n0 hz2 b2 2 off ln v fl _ HA (by decide) (at_ok (by decide) ho hln ⟨hL.1, hL.2.1⟩)) (wd_10 hw) (wd_11 hw) (wd_8 hw) (wd_12 hw) (by decide) D0_211 pd_2 [(.ref b2), (.int (2 : Int32)), (.int off), (.int ln), (.long v), (.int fl)] [(.int (1 : Int32))] rfl rfl rfl 1 (Nat.le_of_eq rfl) (by decide) (by decide) (by decide) (by decide) ?_
  rintro _ _ ⟨rfl, rfl⟩
  refine g_cast (f' := mkF m 214 #[.val (.long i_v), .second, .val (.int i_s), .val (.int i_o), .val (.int i_p), .val (.long v), .second, .val (.int off), .val (.int fl), .val (.ref b2), .val (.int (off + ln)), .val (.int ln), .val (.int (1 : Int32))] [(.int (1 : Int32)), (.int (1 : Int32))]) rfl ?_
  refine g_iand C D0_214 ?_
  refine g_cast (f' := mkF m 215 #[.val (.long i_v), .second, .val (.int i_s), .val (.int i_o), .val (.int i_p), .val (.long v), .second, .val (.int off), .val (.int fl), .val (.ref b2), .val (.int (off + ln)), .val (.int ln), .val (.int (1 : Int32))] [(.int (1 : Int32))]) rfl ?_
  refine g_istore C #[.val (.long i_v), .second, .val (.int i_s), .val (.int i_o), .val (.int i_p), .val (.long v), .second, .val (.int off), .val (.int fl), .val (.ref b2), .val (.int (off + ln)), .val (.int ln), .val (.int (1 : Int32))] D0_215 rfl ?_
  refine g_iload C D0_217 rfl ?_
  refine g_aload C D0_219 rfl rfl ?_
  refine g_iconst C (3 : Int32) rfl D0_221 ?_
  refine g_iload C D0_222 rfl ?_
  refine g_iload C D0_224 rfl ?_
  refine g_lload C D0_226 rfl ?_
  refine g_iload C D0_228 rfl ?_
  refine g_callS C (c_at l hw hA n0 hz2 b2 3 off ln v fl _ HA (by decide) (at_ok (by decide) ho hln ⟨hL.1, hL.2.1⟩)) (wd_10 hw) (wd_11 hw) (wd_8 hw) (wd_12 hw) (by decide) D0_230 pd_2 [(.ref b2), (.int (3 : Int32)), (.int off), (.int ln), (.long v), (.int fl)] [(.int (1 : Int32))] rfl rfl rfl 1 (Nat.le_of_eq rfl) (by decide) (by decide) (by decide) (by decide) ?_
  rintro _ _ ⟨rfl, rfl⟩
  refine g_cast (f' := mkF m 233 #[.val (.long i_v), .second, .val (.int i_s), .val (.int i_o), .val (.int i_p), .val (.long v), .second, .val (.int off), .val (.int fl), .val (.ref b2), .val (.int (off + ln)), .val (.int ln), .val (.int (1 : Int32))] [(.int (1 : Int32)), (.int (1 : Int32))]) rfl ?_
  refine g_iand C D0_233 ?_
  refine g_cast (f' := mkF m 234 #[.val (.long i_v), .second, .val (.int i_s), .val (.int i_o), .val (.int i_p), .val (.long v), .second, .val (.int off), .val (.int fl), .val (.ref b2), .val (.int (off + ln)), .val (.int ln), .val (.int (1 : Int32))] [(.int (1 : Int32))]) rfl ?_
  refine g_istore C #[.val (.long i_v), .second, .val (.int i_s), .val (.int i_o), .val (.int i_p), .val (.long v), .second, .val (.int off), .val (.int fl), .val (.ref b2), .val (.int (off + ln)), .val (.int ln), .val (.int (1 : Int32))] D0_234 rfl ?_
  refine g_iload C D0_236 rfl ?_
  refine g_aload C D0_238 rfl rfl ?_
  refine g_iconst C (4 : Int32) rfl D0_240 ?_
  refine g_iload C D0_241 rfl ?_
  refine g_iload C D0_243 rfl ?_
  refine g_lload C D0_245 rfl ?_
  refine g_iload C D0_247 rfl ?_
  refine g_callS C (c_at l hw hA n0 hz2 b2 4 off ln v fl _ HA (by decide) (at_ok (by decide) ho hln ⟨hL.1, hL.2.1⟩)) (wd_10 hw) (wd_11 hw) (wd_8 hw) (wd_12 hw) (by decide) D0_249 pd_2 [(.ref b2), (.int (4 : Int32)), (.int off), (.int ln), (.long v), (.int fl)] [(.int (1 : Int32))] rfl rfl rfl 1 (Nat.le_of_eq rfl) (by decide) (by decide) (by decide) (by decide) ?_
  rintro _ _ ⟨rfl, rfl⟩
  refine g_cast (f' := mkF m 252 #[.val (.long i_v), .second, .val (.int i_s), .val (.int i_o), .val (.int i_p), .val (.long v), .second, .val (.int off), .val (.int fl), .val (.ref b2), .val (.int (off + ln)), .val (.int ln), .val (.int (1 : Int32))] [(.int (1 : Int32)), (.int (1 : Int32))]) rfl ?_
  refine g_iand C D0_252 ?_
  refine g_cast (f' := mkF m 253 #[.val (.long i_v), .second, .val (.int i_s), .val (.int i_o), .val (.int i_p), .val (.long v), .second, .val (.int off), .val (.int fl), .val (.ref b2), .val (.int (off + ln)), .val (.int ln), .val (.int (1 : Int32))] [(.int (1 : Int32))]) rfl ?_
  refine g_istore C #[.val (.long i_v), .second, .val (.int i_s), .val (.int i_o), .val (.int i_p), .val (.long v), .second, .val (.int off), .val (.int fl), .val (.ref b2), .val (.int (off + ln)), .val (.int ln), .val (.int (1 : Int32))] D0_253 rfl ?_
  refine g_iload C D0_255 rfl ?_
  refine g_aload C D0_257 rfl rfl ?_
  refine g_iconst C (5 : Int32) rfl D0_259 ?_
  refine g_iload C D0_260 rfl ?_
  refine g_iload C D0_262 rfl ?_
  refine g_lload C D0_264 rfl ?_
  refine g_iload C D0_266 rfl ?_
  refine g_callS C (c_at l hw hA n0 hz2 b2 5 off ln v fl _ HA (by decide) (at_ok (by decide) ho hln ⟨hL.1, hL.2.1⟩)) (wd_10 hw) (wd_11 hw) (wd_8 hw) (wd_12 hw) (by decide) D0_268 pd_2 [(.ref b2), (.int (5 : Int32)), (.int off), (.int ln), (.long v), (.int fl)] [(.int (1 : Int32))] rfl rfl rfl 1 (Nat.le_of_eq rfl) (by decide) (by decide) (by decide) (by decide) ?_
  rintro _ _ ⟨rfl, rfl⟩
  refine g_cast (f' := mkF m 271 #[.val (.long i_v), .second, .val (.int i_s), .val (.int i_o), .val (.int i_p), .val (.long v), .second, .val (.int off), .val (.int fl), .val (.ref b2), .val (.int (off + ln)), .val (.int ln), .val (.int (1 : Int32))] [(.int (1 : Int32)), (.int (1 : Int32))]) rfl ?_
  refine g_iand C D0_271 ?_
  refine g_cast (f' := mkF m 272 #[.val (.long i_v), .second, .val (.int i_s), .val (.int i_o), .val (.int i_p), .val (.long v), .second, .val (.int off), .val (.int fl), .val (.ref b2), .val (.int (off + ln)), .val (.int ln), .val (.int (1 : Int32))] [(.int (1 : Int32))]) rfl ?_
  refine g_istore C #[.val (.long i_v), .second, .val (.int i_s), .val (.int i_o), .val (.int i_p), .val (.long v), .second, .val (.int off), .val (.int fl), .val (.ref b2), .val (.int (off + ln)), .val (.int ln), .val (.int (1 : Int32))] D0_272 rfl ?_
  refine g_iload C D0_274 rfl ?_
  refine g_aload C D0_276 rfl rfl ?_
  refine g_bipush C (6 : Int32) rfl D0_278 ?_
  refine g_iload C D0_280 rfl ?_
  refine g_iload C D0_282 rfl ?_
  refine g_lload C D0_284 rfl ?_
  refine g_iload C D0_286 rfl ?_
  refine g_callS C (c_at l hw hA n0 hz2 b2 6 off ln v fl _ HA (by decide) (at_ok (by decide) ho hln ⟨hL.1, hL.2.1⟩)) (wd_10 hw) (wd_11 hw) (wd_8 hw) (wd_12 hw) (by decide) D0_288 pd_2 [(.ref b2), (.int (6 : Int32)), (.int off), (.int ln), (.long v), (.int fl)] [(.int (1 : Int32))] rfl rfl rfl 1 (Nat.le_of_eq rfl) (by decide) (by decide) (by decide) (by decide) ?_
  rintro _ _ ⟨rfl, rfl⟩
  refine g_cast (f' := mkF m 291 #[.val (.long i_v), .second, .val (.int i_s), .val (.int i_o), .val (.int i_p), .val (.long v), .second, .val (.int off), .val (.int fl), .val (.ref b2), .val (.int (off + ln)), .val (.int ln), .val (.int (1 : Int32))] [(.int (1 : Int32)), (.int (1 : Int32))]) rfl ?_
  refine g_iand C D0_291 ?_
  refine g_cast (f' := mkF m 292 #[.val (.long i_v), .second, .val (.int i_s), .val (.int i_o), .val (.int i_p), .val (.long v), .second, .val (.int off), .val (.int fl), .val (.ref b2), .val (.int (off + ln)), .val (.int ln), .val (.int (1 : Int32))] [(.int (1 : Int32))]) rfl ?_
  refine g_istore C #[.val (.long i_v), .second, .val (.int i_s), .val (.int i_o), .val (.int i_p), .val (.long v), .second, .val (.int off), .val (.int fl), .val (.ref b2), .val (.int (off + ln)), .val (.int ln), .val (.int (1 : Int32))] D0_292 rfl ?_
  refine g_iload C D0_294 rfl ?_
  refine g_aload C D0_296 rfl rfl ?_
  refine g_bipush C (7 : Int32) rfl D0_298 ?_
  refine g_iload C D0_300 rfl ?_
  refine g_iload C D0_302 rfl ?_
  refine g_lload C D0_304 rfl ?_
  refine g_iload C D0_306 rfl ?_
  refine g_callS C (c_at l hw hA n0 hz2 b2 7 off ln v fl _ HA (by decide) (at_ok (by decide) ho hln ⟨hL.1, hL.2.1⟩)) (wd_10 hw) (wd_11 hw) (wd_8 hw) (wd_12 hw) (by decide) D0_308 pd_2 [(.ref b2), (.int (7 : Int32)), (.int off), (.int ln), (.long v), (.int fl)] [(.int (1 : Int32))] rfl rfl rfl 1 (Nat.le_of_eq rfl) (by decide) (by decide) (by decide) (by decide) ?_
  rintro _ _ ⟨rfl, rfl⟩
  refine g_cast (f' := mkF m 311 #[.val (.long i_v), .second, .val (.int i_s), .val (.int i_o), .val (.int i_p), .val (.long v), .second, .val (.int off), .val (.int fl), .val (.ref b2), .val (.int (off + ln)), .val (.int ln), .val (.int (1 : Int32))] [(.int (1 : Int32)), (.int (1 : Int32))]) rfl ?_
  refine g_iand C D0_311 ?_
  refine g_cast (f' := mkF m 312 #[.val (.long i_v), .second, .val (.int i_s), .val (.int i_o), .val (.int i_p), .val (.long v), .second, .val (.int off), .val (.int fl), .val (.ref b2), .val (.int (off + ln)), .val (.int ln), .val (.int (1 : Int32))] [(.int (1 : Int32))]) rfl ?_
  refine g_istore C #[.val (.long i_v), .second, .val (.int i_s), .val (.int i_o), .val (.int i_p), .val (.long v), .second, .val (.int off), .val (.int fl), .val (.ref b2), .val (.int (off + ln)), .val (.int ln), .val (.int (1 : Int32))] D0_312 rfl ?_
  refine g_iload C D0_314 rfl ?_
  refine g_aload C D0_316 rfl rfl ?_
  refine g_bipush C (8 : Int32) rfl D0_318 ?_
  refine g_iload C D0_320 rfl ?_
  refine g_iload C D0_322 rfl ?_
  refine g_lload C D0_324 rfl ?_
  refine g_iload C D0_326 rfl ?_
  refine g_callS C (c_at l hw hA n0 hz2 b2 8 off ln v fl _ HA (by decide) (at_ok (by decide) ho hln ⟨hL.1, hL.2.1⟩)) (wd_10 hw) (wd_11 hw) (wd_8 hw) (wd_12 hw) (by decide) D0_328 pd_2 [(.ref b2), (.int (8 : Int32)), (.int off), (.int ln), (.long v), (.int fl)] [(.int (1 : Int32))] rfl rfl rfl 1 (Nat.le_of_eq rfl) (by decide) (by decide) (by decide) (by decide) ?_
  rintro _ _ ⟨rfl, rfl⟩
  refine g_cast (f' := mkF m 331 #[.val (.long i_v), .second, .val (.int i_s), .val (.int i_o), .val (.int i_p), .val (.long v), .second, .val (.int off), .val (.int fl), .val (.ref b2), .val (.int (off + ln)), .val (.int ln), .val (.int (1 : Int32))] [(.int (1 : Int32)), (.int (1 : Int32))]) rfl ?_
  refine g_iand C D0_331 ?_
  refine g_cast (f' := mkF m 332 #[.val (.long i_v), .second, .val (.int i_s), .val (.int i_o), .val (.int i_p), .val (.long v), .second, .val (.int off), .val (.int fl), .val (.ref b2), .val (.int (off + ln)), .val (.int ln), .val (.int (1 : Int32))] [(.int (1 : Int32))]) rfl ?_
  refine g_istore C #[.val (.long i_v), .second, .val (.int i_s), .val (.int i_o), .val (.int i_p), .val (.long v), .second, .val (.int off), .val (.int fl), .val (.ref b2), .val (.int (off + ln)), .val (.int ln), .val (.int (1 : Int32))] D0_332 rfl ?_
  refine g_iload C D0_334 rfl ?_
  refine g_aload C D0_336 rfl rfl ?_
  refine g_bipush C (9 : Int32) rfl D0_338 ?_
  refine g_iload C D0_340 rfl ?_
  refine g_iload C D0_342 rfl ?_
  refine g_lload C D0_344 rfl ?_
  refine g_iload C D0_346 rfl ?_
  refine g_callS C (c_at l hw hA n0 hz2 b2 9 off ln v fl _ HA (by decide) (at_ok (by decide) ho hln ⟨hL.1, hL.2.1⟩)) (wd_10 hw) (wd_11 hw) (wd_8 hw) (wd_12 hw) (by decide) D0_348 pd_2 [(.ref b2), (.int (9 : Int32)), (.int off), (.int ln), (.long v), (.int fl)] [(.int (1 : Int32))] rfl rfl rfl 1 (Nat.le_of_eq rfl) (by decide) (by decide) (by decide) (by decide) ?_
  rintro _ _ ⟨rfl, rfl⟩
  refine g_cast (f' := mkF m 351 #[.val (.long i_v), .second, .val (.int i_s), .val (.int i_o), .val (.int i_p), .val (.long v), .second, .val (.int off), .val (.int fl), .val (.ref b2), .val (.int (off + ln)), .val (.int ln), .val (.int (1 : Int32))] [(.int (1 : Int32)), (.int (1 : Int32))]) rfl ?_
  refine g_iand C D0_351 ?_
  refine g_cast (f' := mkF m 352 #[.val (.long i_v), .second, .val (.int i_s), .val (.int i_o), .val (.int i_p), .val (.long v), .second, .val (.int off), .val (.int fl), .val (.ref b2), .val (.int (off + ln)), .val (.int ln), .val (.int (1 : Int32))] [(.int (1 : Int32))]) rfl ?_
  refine g_istore C #[.val (.long i_v), .second, .val (.int i_s), .val (.int i_o), .val (.int i_p), .val (.long v), .second, .val (.int off), .val (.int fl), .val (.ref b2), .val (.int (off + ln)), .val (.int ln), .val (.int (1 : Int32))] D0_352 rfl ?_
  refine g_iload C D0_354 rfl ?_
  refine g_aload C D0_356 rfl rfl ?_
  refine g_bipush C (10 : Int32) rfl D0_358 ?_
  refine g_iload C D0_360 rfl ?_
  refine g_iload C D0_362 rfl ?_
  refine g_lload C D0_364 rfl ?_
  refine g_iload C D0_366 rfl ?_
  refine g_callS C (c_at l hw hA n0 hz2 b2 10 off ln v fl _ HA (by decide) (at_ok (by decide) ho hln ⟨hL.1, hL.2.1⟩)) (wd_10 hw) (wd_11 hw) (wd_8 hw) (wd_12 hw) (by decide) D0_368 pd_2 [(.ref b2), (.int (10 : Int32)), (.int off), (.int ln), (.long v), (.int fl)] [(.int (1 : Int32))] rfl rfl rfl 1 (Nat.le_of_eq rfl) (by decide) (by decide) (by decide) (by decide) ?_
  rintro _ _ ⟨rfl, rfl⟩
  refine g_cast (f' := mkF m 371 #[.val (.long i_v), .second, .val (.int i_s), .val (.int i_o), .val (.int i_p), .val (.long v), .second, .val (.int off), .val (.int fl), .val (.ref b2), .val (.int (off + ln)), .val (.int ln), .val (.int (1 : Int32))] [(.int (1 : Int32)), (.int (1 : Int32))]) rfl ?_
  refine g_iand C D0_371 ?_
  refine g_cast (f' := mkF m 372 #[.val (.long i_v), .second, .val (.int i_s), .val (.int i_o), .val (.int i_p), .val (.long v), .second, .val (.int off), .val (.int fl), .val (.ref b2), .val (.int (off + ln)), .val (.int ln), .val (.int (1 : Int32))] [(.int (1 : Int32))]) rfl ?_
  refine g_istore C #[.val (.long i_v), .second, .val (.int i_s), .val (.int i_o), .val (.int i_p), .val (.long v), .second, .val (.int off), .val (.int fl), .val (.ref b2), .val (.int (off + ln)), .val (.int ln), .val (.int (1 : Int32))] D0_372 rfl ?_
  refine g_iload C D0_374 rfl ?_
  refine g_aload C D0_376 rfl rfl ?_
  refine g_bipush C (11 : Int32) rfl D0_378 ?_
  refine g_iload C D0_380 rfl ?_
  refine g_iload C D0_382 rfl ?_
  refine g_lload C D0_384 rfl ?_
  refine g_iload C D0_386 rfl ?_
  refine g_callS C (c_at l hw hA n0 hz2 b2 11 off ln v fl _ HA (by decide) (at_ok (by decide) ho hln ⟨hL.1, hL.2.1⟩)) (wd_10 hw) (wd_11 hw) (wd_8 hw) (wd_12 hw) (by decide) D0_388 pd_2 [(.ref b2), (.int (11 : Int32)), (.int off), (.int ln), (.long v), (.int fl)] [(.int (1 : Int32))] rfl rfl rfl 1 (Nat.le_of_eq rfl) (by decide) (by decide) (by decide) (by decide) ?_
  rintro _ _ ⟨rfl, rfl⟩
  refine g_cast (f' := mkF m 391 #[.val (.long i_v), .second, .val (.int i_s), .val (.int i_o), .val (.int i_p), .val (.long v), .second, .val (.int off), .val (.int fl), .val (.ref b2), .val (.int (off + ln)), .val (.int ln), .val (.int (1 : Int32))] [(.int (1 : Int32)), (.int (1 : Int32))]) rfl ?_
  refine g_iand C D0_391 ?_
  refine g_cast (f' := mkF m 392 #[.val (.long i_v), .second, .val (.int i_s), .val (.int i_o), .val (.int i_p), .val (.long v), .second, .val (.int off), .val (.int fl), .val (.ref b2), .val (.int (off + ln)), .val (.int ln), .val (.int (1 : Int32))] [(.int (1 : Int32))]) rfl ?_
  refine g_istore C #[.val (.long i_v), .second, .val (.int i_s), .val (.int i_o), .val (.int i_p), .val (.long v), .second, .val (.int off), .val (.int fl), .val (.ref b2), .val (.int (off + ln)), .val (.int ln), .val (.int (1 : Int32))] D0_392 rfl ?_
  refine g_iload C D0_394 rfl ?_
  refine g_aload C D0_396 rfl rfl ?_
  refine g_bipush C (12 : Int32) rfl D0_398 ?_
  refine g_iload C D0_400 rfl ?_
  refine g_iload C D0_402 rfl ?_
  refine g_lload C D0_404 rfl ?_
  refine g_iload C D0_406 rfl ?_
  refine g_callS C (c_at l hw hA n0 hz2 b2 12 off ln v fl _ HA (by decide) (at_ok (by decide) ho hln ⟨hL.1, hL.2.1⟩)) (wd_10 hw) (wd_11 hw) (wd_8 hw) (wd_12 hw) (by decide) D0_408 pd_2 [(.ref b2), (.int (12 : Int32)), (.int off), (.int ln), (.long v), (.int fl)] [(.int (1 : Int32))] rfl rfl rfl 1 (Nat.le_of_eq rfl) (by decide) (by decide) (by decide) (by decide) ?_
  rintro _ _ ⟨rfl, rfl⟩
  refine g_cast (f' := mkF m 411 #[.val (.long i_v), .second, .val (.int i_s), .val (.int i_o), .val (.int i_p), .val (.long v), .second, .val (.int off), .val (.int fl), .val (.ref b2), .val (.int (off + ln)), .val (.int ln), .val (.int (1 : Int32))] [(.int (1 : Int32)), (.int (1 : Int32))]) rfl ?_
  refine g_iand C D0_411 ?_
  refine g_cast (f' := mkF m 412 #[.val (.long i_v), .second, .val (.int i_s), .val (.int i_o), .val (.int i_p), .val (.long v), .second, .val (.int off), .val (.int fl), .val (.ref b2), .val (.int (off + ln)), .val (.int ln), .val (.int (1 : Int32))] [(.int (1 : Int32))]) rfl ?_
  refine g_istore C #[.val (.long i_v), .second, .val (.int i_s), .val (.int i_o), .val (.int i_p), .val (.long v), .second, .val (.int off), .val (.int fl), .val (.ref b2), .val (.int (off + ln)), .val (.int ln), .val (.int (1 : Int32))] D0_412 rfl ?_
  refine g_iload C D0_414 rfl ?_
  refine g_aload C D0_416 rfl rfl ?_
  refine g_bipush C (13 : Int32) rfl D0_418 ?_
  refine g_iload C D0_420 rfl ?_
  refine g_iload C D0_422 rfl ?_
  refine g_lload C D0_424 rfl ?_
  refine g_iload C D0_426 rfl ?_
  refine g_callS C (c_at l hw hA n0 hz2 b2 13 off ln v fl _ HA (by decide) (at_ok (by decide) ho hln ⟨hL.1, hL.2.1⟩)) (wd_10 hw) (wd_11 hw) (wd_8 hw) (wd_12 hw) (by decide) D0_428 pd_2 [(.ref b2), (.int (13 : Int32)), (.int off), (.int ln), (.long v), (.int fl)] [(.int (1 : Int32))] rfl rfl rfl 1 (Nat.le_of_eq rfl) (by decide) (by decide) (by decide) (by decide) ?_
  rintro _ _ ⟨rfl, rfl⟩
  refine g_cast (f' := mkF m 431 #[.val (.long i_v), .second, .val (.int i_s), .val (.int i_o), .val (.int i_p), .val (.long v), .second, .val (.int off), .val (.int fl), .val (.ref b2), .val (.int (off + ln)), .val (.int ln), .val (.int (1 : Int32))] [(.int (1 : Int32)), (.int (1 : Int32))]) rfl ?_
  refine g_iand C D0_431 ?_
  refine g_cast (f' := mkF m 432 #[.val (.long i_v), .second, .val (.int i_s), .val (.int i_o), .val (.int i_p), .val (.long v), .second, .val (.int off), .val (.int fl), .val (.ref b2), .val (.int (off + ln)), .val (.int ln), .val (.int (1 : Int32))] [(.int (1 : Int32))]) rfl ?_
  refine g_istore C #[.val (.long i_v), .second, .val (.int i_s), .val (.int i_o), .val (.int i_p), .val (.long v), .second, .val (.int off), .val (.int fl), .val (.ref b2), .val (.int (off + ln)), .val (.int ln), .val (.int (1 : Int32))] D0_432 rfl ?_
  refine g_iload C D0_434 rfl ?_
  refine g_aload C D0_436 rfl rfl ?_
  refine g_bipush C (14 : Int32) rfl D0_438 ?_
  refine g_iload C D0_440 rfl ?_
  refine g_iload C D0_442 rfl ?_
  refine g_lload C D0_444 rfl ?_
  refine g_iload C D0_446 rfl ?_
  refine g_callS C (c_at l hw hA n0 hz2 b2 14 off ln v fl _ HA (by decide) (at_ok (by decide) ho hln ⟨hL.1, hL.2.1⟩)) (wd_10 hw) (wd_11 hw) (wd_8 hw) (wd_12 hw) (by decide) D0_448 pd_2 [(.ref b2), (.int (14 : Int32)), (.int off), (.int ln), (.long v), (.int fl)] [(.int (1 : Int32))] rfl rfl rfl 1 (Nat.le_of_eq rfl) (by decide) (by decide) (by decide) (by decide) ?_
  rintro _ _ ⟨rfl, rfl⟩
  refine g_cast (f' := mkF m 451 #[.val (.long i_v), .second, .val (.int i_s), .val (.int i_o), .val (.int i_p), .val (.long v), .second, .val (.int off), .val (.int fl), .val (.ref b2), .val (.int (off + ln)), .val (.int ln), .val (.int (1 : Int32))] [(.int (1 : Int32)), (.int (1 : Int32))]) rfl ?_
  refine g_iand C D0_451 ?_
  refine g_cast (f' := mkF m 452 #[.val (.long i_v), .second, .val (.int i_s), .val (.int i_o), .val (.int i_p), .val (.long v), .second, .val (.int off), .val (.int fl), .val (.ref b2), .val (.int (off + ln)), .val (.int ln), .val (.int (1 : Int32))] [(.int (1 : Int32))]) rfl ?_
  refine g_istore C #[.val (.long i_v), .second, .val (.int i_s), .val (.int i_o), .val (.int i_p), .val (.long v), .second, .val (.int off), .val (.int fl), .val (.ref b2), .val (.int (off + ln)), .val (.int ln), .val (.int (1 : Int32))] D0_452 rfl ?_
  refine g_iload C D0_454 rfl ?_
  refine g_aload C D0_456 rfl rfl ?_
  refine g_bipush C (15 : Int32) rfl D0_458 ?_
  refine g_iload C D0_460 rfl ?_
  refine g_iload C D0_462 rfl ?_
  refine g_lload C D0_464 rfl ?_
  refine g_iload C D0_466 rfl ?_
  refine g_callS C (c_at l hw hA n0 hz2 b2 15 off ln v fl _ HA (by decide) (at_ok (by decide) ho hln ⟨hL.1, hL.2.1⟩)) (wd_10 hw) (wd_11 hw) (wd_8 hw) (wd_12 hw) (by decide) D0_468 pd_2 [(.ref b2), (.int (15 : Int32)), (.int off), (.int ln), (.long v), (.int fl)] [(.int (1 : Int32))] rfl rfl rfl 1 (Nat.le_of_eq rfl) (by decide) (by decide) (by decide) (by decide) ?_
  rintro _ _ ⟨rfl, rfl⟩
  refine g_cast (f' := mkF m 471 #[.val (.long i_v), .second, .val (.int i_s), .val (.int i_o), .val (.int i_p), .val (.long v), .second, .val (.int off), .val (.int fl), .val (.ref b2), .val (.int (off + ln)), .val (.int ln), .val (.int (1 : Int32))] [(.int (1 : Int32)), (.int (1 : Int32))]) rfl ?_
  refine g_iand C D0_471 ?_
  refine g_cast (f' := mkF m 472 #[.val (.long i_v), .second, .val (.int i_s), .val (.int i_o), .val (.int i_p), .val (.long v), .second, .val (.int off), .val (.int fl), .val (.ref b2), .val (.int (off + ln)), .val (.int ln), .val (.int (1 : Int32))] [(.int (1 : Int32))]) rfl ?_
  refine g_istore C #[.val (.long i_v), .second, .val (.int i_s), .val (.int i_o), .val (.int i_p), .val (.long v), .second, .val (.int off), .val (.int fl), .val (.ref b2), .val (.int (off + ln)), .val (.int ln), .val (.int (1 : Int32))] D0_472 rfl ?_
  refine g_iload C D0_474 rfl ?_
  refine g_aload C D0_476 rfl rfl ?_
  refine g_bipush C (16 : Int32) rfl D0_478 ?_
  refine g_iload C D0_480 rfl ?_
  refine g_iload C D0_482 rfl ?_
  refine g_lload C D0_484 rfl ?_
  refine g_iload C D0_486 rfl ?_
  refine g_callS C (c_at l hw hA n0 hz2 b2 16 off ln v fl _ HA (by decide) (at_ok (by decide) ho hln ⟨hL.1, hL.2.1⟩)) (wd_10 hw) (wd_11 hw) (wd_8 hw) (wd_12 hw) (by decide) D0_488 pd_2 [(.ref b2), (.int (16 : Int32)), (.int off), (.int ln), (.long v), (.int fl)] [(.int (1 : Int32))] rfl rfl rfl 1 (Nat.le_of_eq rfl) (by decide) (by decide) (by decide) (by decide) ?_
  rintro _ _ ⟨rfl, rfl⟩
  refine g_cast (f' := mkF m 491 #[.val (.long i_v), .second, .val (.int i_s), .val (.int i_o), .val (.int i_p), .val (.long v), .second, .val (.int off), .val (.int fl), .val (.ref b2), .val (.int (off + ln)), .val (.int ln), .val (.int (1 : Int32))] [(.int (1 : Int32)), (.int (1 : Int32))]) rfl ?_
  refine g_iand C D0_491 ?_
  refine g_cast (f' := mkF m 492 #[.val (.long i_v), .second, .val (.int i_s), .val (.int i_o), .val (.int i_p), .val (.long v), .second, .val (.int off), .val (.int fl), .val (.ref b2), .val (.int (off + ln)), .val (.int ln), .val (.int (1 : Int32))] [(.int (1 : Int32))]) rfl ?_
  refine g_istore C #[.val (.long i_v), .second, .val (.int i_s), .val (.int i_o), .val (.int i_p), .val (.long v), .second, .val (.int off), .val (.int fl), .val (.ref b2), .val (.int (off + ln)), .val (.int ln), .val (.int (1 : Int32))] D0_492 rfl ?_
  refine g_iload C D0_494 rfl ?_
  refine g_aload C D0_496 rfl rfl ?_
  refine g_bipush C (17 : Int32) rfl D0_498 ?_
  refine g_iload C D0_500 rfl ?_
  refine g_iload C D0_502 rfl ?_
  refine g_lload C D0_504 rfl ?_
  refine g_iload C D0_506 rfl ?_
  refine g_callS C (c_at l hw hA n0 hz2 b2 17 off ln v fl _ HA (by decide) (at_ok (by decide) ho hln ⟨hL.1, hL.2.1⟩)) (wd_10 hw) (wd_11 hw) (wd_8 hw) (wd_12 hw) (by decide) D0_508 pd_2 [(.ref b2), (.int (17 : Int32)), (.int off), (.int ln), (.long v), (.int fl)] [(.int (1 : Int32))] rfl rfl rfl 1 (Nat.le_of_eq rfl) (by decide) (by decide) (by decide) (by decide) ?_
  rintro _ _ ⟨rfl, rfl⟩
  refine g_cast (f' := mkF m 511 #[.val (.long i_v), .second, .val (.int i_s), .val (.int i_o), .val (.int i_p), .val (.long v), .second, .val (.int off), .val (.int fl), .val (.ref b2), .val (.int (off + ln)), .val (.int ln), .val (.int (1 : Int32))] [(.int (1 : Int32)), (.int (1 : Int32))]) rfl ?_
  refine g_iand C D0_511 ?_
  refine g_cast (f' := mkF m 512 #[.val (.long i_v), .second, .val (.int i_s), .val (.int i_o), .val (.int i_p), .val (.long v), .second, .val (.int off), .val (.int fl), .val (.ref b2), .val (.int (off + ln)), .val (.int ln), .val (.int (1 : Int32))] [(.int (1 : Int32))]) rfl ?_
  refine g_istore C #[.val (.long i_v), .second, .val (.int i_s), .val (.int i_o), .val (.int i_p), .val (.long v), .second, .val (.int off), .val (.int fl), .val (.ref b2), .val (.int (off + ln)), .val (.int ln), .val (.int (1 : Int32))] D0_512 rfl ?_
  refine g_iload C D0_514 rfl ?_
  refine g_retZ C D0_516 (by decide) (by decide) ?_
  exact ⟨rfl, trivial⟩
set_option maxRecDepth 65536 in
set_option maxHeartbeats 40000000 in
theorem comes_1 {Post : Tables → Env → Array Value → State → Outcome → State → Prop} (hpost : ∀ tb e args s v u, (limb_1_1.after args s (.returned v) u = true ∧ limb_1_2.after args s (.returned v) u = true ∧ True) → FrameEnd s (.returned v) u (Jvm.fieldLocs frame_1_writes args s ++ Jvm.arrayLocs frame_1_arrays args s ++ Jvm.staticLocs frame_1_statics s) 16 128 → Post tb e args s (.returned v) u) :
    ArmFor flags0 classFile x code maxLocals ret World_1 tables_1 room_1 Calls_1 rest_1 Pre_1 Post := by
  intro l hfl _ _ p e ha hc hk s m args below hf hA hF happ hP
  obtain ⟨hcalls, hrest, hpre⟩ := hP
  obtain ⟨-, -, -, hnamed, -, -, -, hat⟩ := (Spec.applies_iff hf).mp happ
  obtain ⟨hg, hn⟩ := and_e (Cond.before_iff.mp (show (Jvm.Cond.and given_1 narrow_1).before args s = true from hpre))
  obtain ⟨gc, g0⟩ := and_e hg
  obtain ⟨ga0, g1⟩ := and_e g0
  obtain ⟨ga1, g2⟩ := and_e g1
  obtain ⟨ga2, g3⟩ := and_e g2
  have ga3 := g3
  obtain ⟨w0, w1, w2, w3, rfl⟩ : ∃ w0 w1 w2 w3 : Value, args = #[w0, w1, w2, w3] := by
    have hs : args.size = 4 := by simpa [Cond.value, given_1] using gc
    obtain ⟨L⟩ := args
    match L, hs with
    | [w0, w1, w2, w3], _ => exact ⟨w0, w1, w2, w3, rfl⟩
  have hw := fun d (hd : d ∈ tables_1) => atoms_spec (ws := Jvm.Cond.code x code maxLocals ret :: tables_1) hat d (List.mem_cons_of_mem _ hd)
  obtain ⟨i0, ei0⟩ := isL_v ga0
  obtain rfl : w0 = (.long i0) := Option.some.inj ei0
  obtain ⟨i1, ei1⟩ := is_v ga1
  obtain rfl : w1 = (.int i1) := Option.some.inj ei1
  obtain ⟨i2, ei2⟩ := is_v ga2
  obtain rfl : w2 = (.int i2) := Option.some.inj ei2
  obtain ⟨i3, ei3⟩ := is_v ga3
  obtain rfl : w3 = (.int i3) := Option.some.inj ei3
  obtain ⟨n, o, h1, h2, h3, _, L, rfl, ⟨⟨rfl, _⟩, N⟩, hq⟩ := c_law l hw tables_1 s.heap s.heap.size (Nat.le_refl _) i0 i1 i2 i3 p e ha hc hk s m _ below hf ((Spec.applies_iff_loose hf).mp happ).1 ⟨rfl, State.Warmed39.refl s, rfl⟩ trivial
  refine ⟨n, _, h1, h2, h3, hpost _ _ _ _ _ _ ⟨Cond.after_iff.mpr rfl, Cond.after_iff.mpr (eq_i res_at (Term.int_eval (1)) rfl), trivial⟩ ⟨hq.1, hq.2.1, (hq.2.2.sift fun y hy => Or.inr (N y hy)).mono (by decide) (by decide)⟩⟩
theorem main_1_1 : Claimed_1_1 := comes_1 fun _ _ _ _ _ _ h hF => ⟨h.1, hF⟩
theorem main_1_2 : Claimed_1_2 := comes_1 fun _ _ _ _ _ _ h hF => ⟨h.2.1, hF⟩
end Jvm.Pilot.@@N@@
namespace Jvm.Pilot.@@N@@
open Jvm Jvm.ClassFile Sem Op Lib Jvm.Free Jvm.Stand Jvm.Pilot.@@N@@.Jvm.D
/-! MADE BY PROGRAM (witnessworld.py) out of the Statement's table words and the real class files: 9 classes; the members and pool entries that the words name. The judged class is class 1, her method 1. -/
namespace start1
open Jvm.ClassFile
def u (s : String) : CpInfo := .utf8 (stringToUtf16 s)
/-- a pool by its gaps: so many unusable entries, then the entry; so many at the end -/
def gap : Nat → List CpInfo → List CpInfo
  | 0, r => r
  | n + 1, r => .unusable :: gap n r
def poolList (es : List (Nat × CpInfo)) (last : Nat) : List CpInfo := es.foldr (fun e r => gap e.1 (e.2 :: r)) (gap last [])
def pool (es : List (Nat × CpInfo)) (last : Nat) : Array CpInfo := ⟨poolList es last⟩
def fileOf (pool : Array CpInfo) (this : Nat) (attrs : Array Attribute := #[]) (ms : Array MethodInfo := #[]) (fl : Nat := 33) (sup : Nat := 0) (ifs : Array Nat := #[]) (fds : Array FieldInfo := #[]) : ClassFile where
  minorVersion := 0
  majorVersion := 65
  constantPool := pool
  accessFlags := fl
  thisClass := this
  superClass := sup
  interfaces := ifs
  fields := fds
  methods := ms
  attributes := attrs
def plain (name : String) (sup : Option ClassId) : Class where
  name := name
  kind := .ordinary
  loader := none
  accessFlags := 33
  super := sup
  interfaces := #[]
  cf := none
  fields := #[]
  methods := #[]
  instanceTypes := #[]
  staticTypes := #[]
  resolved := #[]
  callSites := []
  init := .initialized
  statics := none
  mirror := none

def pool0 : Array CpInfo := pool [(5, u "<init>"), (0, u "()V"), (1, .class_ 10), (1, u "java/lang/Object")] 113

def k0m0 : Method := { name := "<init>", desc := "()V", sig := { parameters := [], returnType := none }, accessFlags := 1, code := none }
/-- java/lang/Object -/
def k0 : Class := { plain "java/lang/Object" none with
  accessFlags := 33
  interfaces := #[]
  cf := some (fileOf pool0 8 #[] #[{ accessFlags := 1, nameIndex := 5, descriptorIndex := 6, attributes := #[] }] 33 0 #[] #[])
  fields := #[]
  methods := #[k0m0]
  instanceTypes := #[]
  staticTypes := #[]
  resolved := Array.replicate 124 none
  statics := none }

def pool1 : Array CpInfo := pool [(2, .class_ 4), (1, u "java/lang/Object"), (0, u "<init>"), (0, u "()V"), (0, .methodref 8 9), (0, .class_ 10), (0, .nameAndType 11 12), (0, u "com/example/dalmine/dalmine/index/IndexFormat"), (0, u "putVarint"), (0, u "([BIJ)I"), (0, .methodref 14 15), (0, .class_ 16), (0, .nameAndType 17 18), (0, u "com/example/dalmine/dalmine/index/IndexFormatPutVarintPinLaw"), (0, u "varintLength"), (0, u "(J)I"), (0, .methodref 14 20), (0, .nameAndType 21 22), (0, u "at"), (0, u "([BIIIJB)Z"), (0, .long 127), (3, u "law"), (0, u "(JIII)Z")] 5

def k1m0 : Method := { name := "<init>", desc := "()V", sig := { parameters := [], returnType := none }, accessFlags := 1, code := none }
def k1c1 : Code := { maxStack := 8, maxLocals := 13, code := code, exceptionTable := #[], attributes := #[] }
def k1m1 : Method := { name := "law", desc := "(JIII)Z", sig := { parameters := [.long, .int, .int, .int], returnType := some .boolean }, accessFlags := 9, code := some k1c1 }
def k1c2 : Code := { maxStack := 4, maxLocals := 2, code := method_3_code, exceptionTable := #[], attributes := #[] }
def k1m2 : Method := { name := "varintLength", desc := "(J)I", sig := { parameters := [.long], returnType := some .int }, accessFlags := 10, code := some k1c2 }
def k1c3 : Code := { maxStack := 4, maxLocals := 9, code := method_4_code, exceptionTable := #[], attributes := #[] }
def k1m3 : Method := { name := "at", desc := "([BIIIJB)Z", sig := { parameters := [(.array .byte), .int, .int, .int, .long, .byte], returnType := some .boolean }, accessFlags := 10, code := some k1c3 }
/-- com/example/dalmine/dalmine/index/IndexFormatPutVarintPinLaw -/
def k1 : Class := { plain "com/example/dalmine/dalmine/index/IndexFormatPutVarintPinLaw" (some 0) with
  accessFlags := 49
  interfaces := #[]
  cf := some (fileOf pool1 14 #[] #[{ accessFlags := 1, nameIndex := 5, descriptorIndex := 6, attributes := #[] }, { accessFlags := 9, nameIndex := 27, descriptorIndex := 28, attributes := #[] }, { accessFlags := 10, nameIndex := 17, descriptorIndex := 18, attributes := #[] }, { accessFlags := 10, nameIndex := 21, descriptorIndex := 22, attributes := #[] }] 49 2 #[] #[])
  fields := #[]
  methods := #[k1m0, k1m1, k1m2, k1m3]
  instanceTypes := #[]
  staticTypes := #[]
  resolved := Array.replicate 34 none
  statics := none }

def pool2 : Array CpInfo := pool [(2, .class_ 4), (1, u "java/lang/Object"), (0, u "<init>"), (0, u "()V"), (33, .class_ 42), (1, u "com/example/dalmine/dalmine/index/IndexFormat"), (13, u "MAGIC"), (0, u "[B"), (11, u "HEADER_BYTES"), (0, u "I"), (16, u "ANALYSES"), (0, u "Ljava/util/List;"), (27, .long 18446744073709551488), (1, .long 127), (1, .long 128), (3, u "putVarint"), (0, u "([BIJ)I"), (93, u "ITEMS"), (0, u "Ljava/lang/String;"), (3, u "TERMS"), (2, u "POSTINGS"), (2, u "REVIEWS"), (2, u "VERSION"), (3, u "MAX_VARINT_BYTES")] 60

def k2m0 : Method := { name := "<init>", desc := "()V", sig := { parameters := [], returnType := none }, accessFlags := 2, code := none }
def k2c1 : Code := { maxStack := 6, maxLocals := 7, code := prog_12_method_9_code, exceptionTable := #[], attributes := #[] }
def k2m1 : Method := { name := "putVarint", desc := "([BIJ)I", sig := { parameters := [(.array .byte), .int, .long], returnType := some .int }, accessFlags := 8, code := some k2c1 }
/-- com/example/dalmine/dalmine/index/IndexFormat -/
def k2 : Class := { plain "com/example/dalmine/dalmine/index/IndexFormat" (some 0) with
  accessFlags := 32
  interfaces := #[]
  cf := some (fileOf pool2 40 #[] #[{ accessFlags := 2, nameIndex := 5, descriptorIndex := 6, attributes := #[] }, { accessFlags := 8, nameIndex := 124, descriptorIndex := 125, attributes := #[] }] 32 2 #[] #[{ accessFlags := 24, nameIndex := 219, descriptorIndex := 220, attributes := #[] }, { accessFlags := 24, nameIndex := 224, descriptorIndex := 220, attributes := #[] }, { accessFlags := 24, nameIndex := 227, descriptorIndex := 220, attributes := #[] }, { accessFlags := 24, nameIndex := 230, descriptorIndex := 220, attributes := #[] }, { accessFlags := 26, nameIndex := 56, descriptorIndex := 57, attributes := #[] }, { accessFlags := 26, nameIndex := 233, descriptorIndex := 70, attributes := #[] }, { accessFlags := 26, nameIndex := 87, descriptorIndex := 88, attributes := #[] }, { accessFlags := 24, nameIndex := 69, descriptorIndex := 70, attributes := #[] }, { accessFlags := 24, nameIndex := 237, descriptorIndex := 70, attributes := #[] }])
  fields := #[{ name := "ITEMS", type := (.object "java/lang/String"), accessFlags := 24, slot := 0, constantValue := 0 }, { name := "TERMS", type := (.object "java/lang/String"), accessFlags := 24, slot := 1, constantValue := 0 }, { name := "POSTINGS", type := (.object "java/lang/String"), accessFlags := 24, slot := 2, constantValue := 0 }, { name := "REVIEWS", type := (.object "java/lang/String"), accessFlags := 24, slot := 3, constantValue := 0 }, { name := "MAGIC", type := (.array .byte), accessFlags := 26, slot := 4, constantValue := 0 }, { name := "VERSION", type := .int, accessFlags := 26, slot := 5, constantValue := 0 }, { name := "ANALYSES", type := (.object "java/util/List"), accessFlags := 26, slot := 6, constantValue := 0 }, { name := "HEADER_BYTES", type := .int, accessFlags := 24, slot := 7, constantValue := 0 }, { name := "MAX_VARINT_BYTES", type := .int, accessFlags := 24, slot := 8, constantValue := 0 }]
  methods := #[k2m0, k2m1]
  instanceTypes := #[]
  staticTypes := #[(.object "java/lang/String"), (.object "java/lang/String"), (.object "java/lang/String"), (.object "java/lang/String"), (.array .byte), .int, (.object "java/util/List"), .int, .int]
  resolved := Array.replicate 298 none
  statics := none }

def pool3 : Array CpInfo := pool [(1, u "java/lang/Cloneable"), (0, .class_ 1), (0, u "java/lang/Object"), (0, .class_ 3)] 3

/-- java/lang/Cloneable -/
def k3 : Class := { plain "java/lang/Cloneable" (some 0) with
  accessFlags := 1537
  interfaces := #[]
  cf := some (fileOf pool3 2 #[] #[] 1537 4 #[] #[])
  fields := #[]
  methods := #[]
  instanceTypes := #[]
  staticTypes := #[]
  resolved := Array.replicate 8 none
  statics := none }

def pool4 : Array CpInfo := pool [(1, u "java/io/Serializable"), (0, .class_ 1), (0, u "java/lang/Object"), (0, .class_ 3)] 3

/-- java/io/Serializable -/
def k4 : Class := { plain "java/io/Serializable" (some 0) with
  accessFlags := 1537
  interfaces := #[]
  cf := some (fileOf pool4 2 #[] #[] 1537 4 #[] #[])
  fields := #[]
  methods := #[]
  instanceTypes := #[]
  staticTypes := #[]
  resolved := Array.replicate 8 none
  statics := none }

/-- the primitive byte -/
def k5 : Class := { plain "byte" none with kind := .primitive 'B', accessFlags := 0x411 }
/-- [B -/
def k6 : Class := { plain "[B" (some 0) with kind := .array 5 .byte, interfaces := #[3, 4], accessFlags := 1041 }

/-- the primitive int -/
def k7 : Class := { plain "int" none with kind := .primitive 'I', accessFlags := 0x411 }
/-- [I -/
def k8 : Class := { plain "[I" (some 0) with kind := .array 7 .int, interfaces := #[3, 4], accessFlags := 1041 }

def heap : Heap := #[]
def classes : Array Class := #[k0, k1, k2, k3, k4, k5, k6, k7, k8]
def interned : List (Array UInt16 × Addr) := []
def slotsUsed : Nat := 0
def theMethod : MethodId := ⟨1, 1⟩
def args0 : Array Value := #[.long 5, .int 5, .int 5, .int 5]
def aboutOver (below : List Frame) : State where
  vm := { classes := classes, interned := interned.toArray }
  heap := heap
  slotsUsed := slotsUsed
  threads := #[{ frames := .invoking theMethod args0 :: below }]
def below0 : List Frame := [.native { method := ⟨0, 0⟩, args := #[] }]
def about1 : State := aboutOver below0
def p0 : Program := .bare "" "" ""
def e0 : Env := launch0.env 0 0 0
theorem w_frames : about1.frames = Frame.invoking theMethod args0 :: below0 := rfl
set_option maxRecDepth 65536 in
theorem w_args : argsFit about1.vm theMethod args0 = true := by decide +kernel
set_option maxRecDepth 65536 in
theorem w_heap : heapFits about1 = true := by decide +kernel
set_option maxRecDepth 65536 in
theorem w_runnable : about1.curStatus? = some .runnable := by decide +kernel
set_option maxRecDepth 65536 in
theorem w_alone : about1.alone = true := by decide +kernel
set_option maxRecDepth 65536 in
theorem w_named : about1.methodNamed? x = some theMethod := by decide +kernel
set_option maxRecDepth 65536 in
theorem w_hears : about1.hears theMethod below0 = true := by decide +kernel
set_option maxRecDepth 65536 in
theorem w_ripe : about1.ripe theMethod args0 below0 = true := by decide +kernel
theorem w_running : about1.status = .running := rfl
set_option maxRecDepth 65536 in
theorem w_room : about1.hasRoom e0.platform room_1 = true :=
  launch0.hasRoom_least _ room_1 (by decide +kernel) (by decide +kernel) (by decide +kernel) (by decide +kernel) (by decide +kernel) (by decide +kernel)
theorem allAtoms_all (ts : List Jvm.Cond) (a : Array Jvm.Value) (st : Jvm.State) : (allAtoms ts).before a st = ts.all (fun c => c.before a st) := by
  induction ts with
  | nil => rfl
  | cons c t ih =>
    show (Jvm.Cond.and c (allAtoms t)).before a st = _
    rw [Jvm.Cond.before_and, ih, List.all_cons]
def words1 : List Jvm.Cond := Jvm.Cond.code x code maxLocals ret :: tables_1
/-- a 'code' word, met by the world's own term for the bytes: nothing is compared byte by byte -/
theorem code_word {y : MethodName} {bytes : ByteArray} {mx : Nat} {rt : Option FieldType} {a : Array Value} {s : State} {m : MethodId} {meth : Method} {c : Code} (h1 : s.methodNamed? y = some m) (h2 : s.vm.method? m = some meth) (h3 : meth.code = some c) (h4 : c.code = bytes)
    (h5 : (c.maxLocals == mx && c.exceptionTable.isEmpty && decide (c.maxStack ≤ mostOperands) && decide (meth.sig.returnType = rt) && !meth.locks && decide (parseMethodDescriptor y.desc = some meth.sig)) = true) : (Jvm.Cond.code y bytes mx rt).before a s = true := by
  simp only [Bool.and_eq_true, beq_iff_eq, Bool.not_eq_true', decide_eq_true_eq] at h5
  obtain ⟨⟨⟨⟨⟨g1, g2⟩, g3⟩, g4⟩, g5⟩, g6⟩ := h5
  simp [Cond.before, Cond.holds, Cond.value, h1, h2, h3, h4, g1, g2, g3, g4, g5, g6]
def isCode : Jvm.Cond → Bool
  | .code _ _ _ _ => true
  | _ => false
theorem all_split {L : List Jvm.Cond} {P : Jvm.Cond → Bool} (h1 : L.all (fun c => isCode c || P c) = true) (h2 : ∀ c ∈ L.filter isCode, P c = true) : L.all P = true := by
  refine List.all_eq_true.mpr fun c hc => ?_
  have h := List.all_eq_true.mp h1 c hc
  rcases Bool.eq_false_or_eq_true (isCode c) with hi | hi
  · exact h2 c (List.mem_filter.mpr ⟨hc, hi⟩)
  · simpa [hi] using h
set_option maxRecDepth 65536 in
theorem w_c0 : (Jvm.Cond.code x code maxLocals ret).before args0 about1 = true := code_word (m := ⟨1, 1⟩) (meth := k1m1) (c := k1c1) (by decide +kernel) rfl rfl rfl (by decide +kernel)
set_option maxRecDepth 65536 in
theorem w_c1 : (Jvm.Cond.code ({ cls := "com/example/dalmine/dalmine/index/IndexFormat", name := "putVarint", desc := "([BIJ)I" } : Jvm.MethodName) prog_12_method_9_code (7 : Nat) (Option.some Jvm.ClassFile.FieldType.int)).before args0 about1 = true := code_word (m := ⟨2, 1⟩) (meth := k2m1) (c := k2c1) (by decide +kernel) rfl rfl rfl (by decide +kernel)
set_option maxRecDepth 65536 in
theorem w_c2 : (Jvm.Cond.code ({ cls := "com/example/dalmine/dalmine/index/IndexFormatPutVarintPinLaw", name := "varintLength", desc := "(J)I" } : Jvm.MethodName) method_3_code (2 : Nat) (Option.some Jvm.ClassFile.FieldType.int)).before args0 about1 = true := code_word (m := ⟨1, 2⟩) (meth := k1m2) (c := k1c2) (by decide +kernel) rfl rfl rfl (by decide +kernel)
set_option maxRecDepth 65536 in
theorem w_c3 : (Jvm.Cond.code ({ cls := "com/example/dalmine/dalmine/index/IndexFormatPutVarintPinLaw", name := "at", desc := "([BIIIJB)Z" } : Jvm.MethodName) method_4_code (9 : Nat) (Option.some Jvm.ClassFile.FieldType.boolean)).before args0 about1 = true := code_word (m := ⟨1, 3⟩) (meth := k1m3) (c := k1c3) (by decide +kernel) rfl rfl rfl (by decide +kernel)
def codes1 : List Jvm.Cond := [Jvm.Cond.code x code maxLocals ret, Jvm.Cond.code ({ cls := "com/example/dalmine/dalmine/index/IndexFormat", name := "putVarint", desc := "([BIJ)I" } : Jvm.MethodName) prog_12_method_9_code (7 : Nat) (Option.some Jvm.ClassFile.FieldType.int), Jvm.Cond.code ({ cls := "com/example/dalmine/dalmine/index/IndexFormatPutVarintPinLaw", name := "varintLength", desc := "(J)I" } : Jvm.MethodName) method_3_code (2 : Nat) (Option.some Jvm.ClassFile.FieldType.int), Jvm.Cond.code ({ cls := "com/example/dalmine/dalmine/index/IndexFormatPutVarintPinLaw", name := "at", desc := "([BIIIJB)Z" } : Jvm.MethodName) method_4_code (9 : Nat) (Option.some Jvm.ClassFile.FieldType.boolean)]
set_option maxRecDepth 65536 in
theorem codes_eq : words1.filter isCode = codes1 := rfl
theorem w_codes : ∀ c ∈ words1.filter isCode, c.before args0 about1 = true := by
  rw [codes_eq]
  intro c hc
  simp only [codes1, List.mem_cons, List.not_mem_nil, or_false] at hc
  rcases hc with rfl | rfl | rfl | rfl
  · exact w_c0
  · exact w_c1
  · exact w_c2
  · exact w_c3
set_option maxRecDepth 65536 in
theorem w_t1 : words1.all (fun c => isCode c || c.before args0 about1) = true := by decide +kernel
theorem w_tables : (allAtoms (Jvm.Cond.code x code maxLocals ret :: tables_1)).before args0 about1 = true := by
  rw [allAtoms_all]
  show words1.all (fun c => c.before args0 about1) = true
  refine all_split ?_ w_codes
  rw [w_t1]
set_option maxRecDepth 65536 in
theorem w_case : (Jvm.Cond.and given_1 narrow_1).before args0 about1 = true := by decide +kernel
theorem w_applies : (headSpec (Jvm.Cond.code x code maxLocals ret :: tables_1) room_1).applies x e0.platform about1 = true :=
  (Spec.applies_iff w_frames).mpr ⟨w_running, w_runnable, w_alone, w_named, w_hears, w_ripe, w_room, w_tables⟩
theorem atStart : AtStart classFile x code maxLocals ret World_1 tables_1 room_1 Calls_1 rest_1 Pre_1 launch0 p0 e0 about1 theMethod args0 below0 :=
  ⟨lists_1, trivial, launch0.admits_env _ _ _, launch0.least_env, fairChoices_fair.cas, fairChoices_fair.clock, w_frames, w_args, w_heap, w_applies, trivial, trivial, w_case⟩
end start1
theorem witness_1 : WitnessClaimed_1 := ⟨start1.p0, start1.e0, start1.about1, start1.theMethod, start1.args0, start1.below0, start1.atStart⟩
end Jvm.Pilot.@@N@@
