import JvmDerived
import JvmDerived.Pilot.@@N@@Statement
import JvmDerived.Pilot.@@N@@Code
set_option linter.unusedVariables false
set_option linter.unusedSimpArgs false
namespace Jvm.Pilot.@@N@@
open Jvm Jvm.ClassFile Sem Op Lib Jvm.Free Jvm.Stand Jvm.LawKit Jvm.RoadKit Bundle Jvm.Pilot.@@N@@.Jvm.D
/-- Java's shifts -/
def shlI (x y : Int32) : Int32 := x <<< (y &&& 31)
def shrI (x y : Int32) : Int32 := x >>> (y &&& 31)
def ushrI (x y : Int32) : Int32 := (x.toUInt32 >>> (y &&& 31).toUInt32).toInt32
def shlJ (x : Int64) (y : Int32) : Int64 := x <<< (y &&& 0x3f).toInt64
def shrJ (x : Int64) (y : Int32) : Int64 := x >>> (y &&& 0x3f).toInt64
def ushrJ (x : Int64) (y : Int32) : Int64 := (x.toUInt64 >>> (y &&& 0x3f).toInt64.toUInt64).toInt64
section Kit
variable {p : Program} {l : Launch} {e : Env} {R : Room} {s : State} {m : MethodId} {args : Array Value} {below : List Frame} {meth : Method} {c : ClassFile.Code} {Z : State} {a0 : Array Value} {n0 : Nat} {Q : Option Value → Heap → Prop} {K N : Nat} {h : Heap} {k n : Nat} {own : String} {bytes : ByteArray} {maxl : Nat} {ret : Option FieldType} {nm : String} {pc pc' pc1 pct : Nat} {Ls : Array Slot} {st : List Value}
/-- the run from T0 comes back with a value and a heap of which Q holds, having written nothing below n0 -/
def Ends (p : Program) (e : Env) (below : List Frame) (s : State) (n0 : Nat) (Q : Option Value → Heap → Prop) (K N : Nat) (T0 : State) : Prop :=
  ∃ t o, Steps p.tables e below T0 t ∧ t.status = .running ∧ Ended t below o ∧ ∃ v L, o = .returned v ∧ (Q v t.heap ∧ Fr n0 L) ∧ FrameEnd s o t L K N
/-- from every state of this invocation whose heap is h and whose top frame is f the run comes back so -/
def Go (p : Program) (l : Launch) (e : Env) (R : Room) (s : State) (m : MethodId) (args : Array Value) (below : List Frame) (meth : Method) (c : ClassFile.Code) (n0 : Nat) (Q : Option Value → Heap → Prop) (K N : Nat) (h : Heap) (k n : Nat) (f : JFrame) : Prop :=
  ∀ T L, Fr n0 L → Stand p l e R s m args below meth c T L k n → T.heap = h → Ends p e below s n0 Q K N (T.setTop f)
/-- what is known of the invocation throughout -/
def Cx (p : Program) (s : State) (m : MethodId) (meth : Method) (c : ClassFile.Code) (Z : State) (n0 : Nat) (own : String) (bytes : ByteArray) (maxl : Nat) (ret : Option FieldType) (nm : String) : Prop :=
  p.tables.exec = Jvm.exec ∧ Z.Warmed39 s.vm ∧ s.vm.findClass own = some m.cls ∧ c.code = bytes ∧ c.maxLocals = maxl ∧ meth.sig.returnType = ret ∧ meth.locks = false ∧ meth.name = nm ∧ n0 ≤ s.heap.size
def In (b : ByteArray) (pc len : Nat) (i : Instr) (pc' : Nat) : Prop := decode b pc = .ok (i, len) ∧ pc' = pc + len
def Jm (b : ByteArray) (pc : Nat) (i : Int → Instr) (pc' pct : Nat) : Prop := ∃ o, decode b pc = .ok (i o, 3) ∧ pc' = pc + 3 ∧ 0 ≤ (pc : Int) + o ∧ ((pc : Int) + o).toNat = pct
theorem g_st {f f' : JFrame} (H : ∀ {T L}, Stand p l e R s m args below meth c T L k n → T.heap = h → ∀ t, Steps p.tables e below (T.setTop f') t → Steps p.tables e below (T.setTop f) t) (G : Go p l e R s m args below meth c n0 Q K N h k n (f')) : Go p l e R s m args below meth c n0 Q K N h k n f := fun T L hL X eT => by
  obtain ⟨t, o, h1, h2⟩ := G T L hL X eT
  exact ⟨t, o, H X eT t h1, h2⟩
theorem g_cast {f f' : JFrame} (q : f = f') (G : Go p l e R s m args below meth c n0 Q K N h k n (f')) : Go p l e R s m args below meth c n0 Q K N h k n f := q ▸ G
theorem g_more {k' n' : Nat} {f : JFrame} (hk : k ≤ k') (hn : n ≤ n') (G : Go p l e R s m args below meth c n0 Q K N h (k') (n') f) : Go p l e R s m args below meth c n0 Q K N h k n f := fun T L hL X eT => G T L hL (X.more hk hn) eT
theorem Stand.up {T : State} {L : List Loc} (X : Stand p l e R s m args below meth c T L k n) : s.heap.size ≤ T.heap.size := by
  exact X.same.2.1
theorem g_iadd (C : Cx p s m meth c Z n0 own bytes maxl ret nm) {x y : Int32} (d : In bytes pc 1 (.iadd) pc') (G : Go p l e R s m args below meth c n0 Q K N h k n (mkF m pc' Ls (.int (x + y) :: st))) : Go p l e R s m args below meth c n0 Q K N h k n (mkF m pc Ls (.int y :: .int x :: st)) := by
  obtain ⟨d, rfl⟩ := d
  exact g_st (fun X _ t kt => XS.iadd X.here C.1 rfl (hb C.2.2.2.1 d) rfl kt) G
theorem g_isub (C : Cx p s m meth c Z n0 own bytes maxl ret nm) {x y : Int32} (d : In bytes pc 1 (.isub) pc') (G : Go p l e R s m args below meth c n0 Q K N h k n (mkF m pc' Ls (.int (x - y) :: st))) : Go p l e R s m args below meth c n0 Q K N h k n (mkF m pc Ls (.int y :: .int x :: st)) := by
  obtain ⟨d, rfl⟩ := d
  exact g_st (fun X _ t kt => XS.isub X.here C.1 rfl (hb C.2.2.2.1 d) rfl kt) G
theorem g_imul (C : Cx p s m meth c Z n0 own bytes maxl ret nm) {x y : Int32} (d : In bytes pc 1 (.imul) pc') (G : Go p l e R s m args below meth c n0 Q K N h k n (mkF m pc' Ls (.int (x * y) :: st))) : Go p l e R s m args below meth c n0 Q K N h k n (mkF m pc Ls (.int y :: .int x :: st)) := by
  obtain ⟨d, rfl⟩ := d
  exact g_st (fun X _ t kt => XS.imul X.here C.1 rfl (hb C.2.2.2.1 d) rfl kt) G
theorem g_iand (C : Cx p s m meth c Z n0 own bytes maxl ret nm) {x y : Int32} (d : In bytes pc 1 (.iand) pc') (G : Go p l e R s m args below meth c n0 Q K N h k n (mkF m pc' Ls (.int (x &&& y) :: st))) : Go p l e R s m args below meth c n0 Q K N h k n (mkF m pc Ls (.int y :: .int x :: st)) := by
  obtain ⟨d, rfl⟩ := d
  exact g_st (fun X _ t kt => XS.iand X.here C.1 rfl (hb C.2.2.2.1 d) rfl kt) G
theorem g_ior (C : Cx p s m meth c Z n0 own bytes maxl ret nm) {x y : Int32} (d : In bytes pc 1 (.ior) pc') (G : Go p l e R s m args below meth c n0 Q K N h k n (mkF m pc' Ls (.int (x ||| y) :: st))) : Go p l e R s m args below meth c n0 Q K N h k n (mkF m pc Ls (.int y :: .int x :: st)) := by
  obtain ⟨d, rfl⟩ := d
  exact g_st (fun X _ t kt => XS.ior X.here C.1 rfl (hb C.2.2.2.1 d) rfl kt) G
theorem g_ixor (C : Cx p s m meth c Z n0 own bytes maxl ret nm) {x y : Int32} (d : In bytes pc 1 (.ixor) pc') (G : Go p l e R s m args below meth c n0 Q K N h k n (mkF m pc' Ls (.int (x ^^^ y) :: st))) : Go p l e R s m args below meth c n0 Q K N h k n (mkF m pc Ls (.int y :: .int x :: st)) := by
  obtain ⟨d, rfl⟩ := d
  exact g_st (fun X _ t kt => XS.ixor X.here C.1 rfl (hb C.2.2.2.1 d) rfl kt) G
theorem g_idiv (C : Cx p s m meth c Z n0 own bytes maxl ret nm) {x y : Int32} (d : In bytes pc 1 (.idiv) pc') (hy : y ≠ 0) (G : Go p l e R s m args below meth c n0 Q K N h k n (mkF m pc' Ls (.int (x / y) :: st))) : Go p l e R s m args below meth c n0 Q K N h k n (mkF m pc Ls (.int y :: .int x :: st)) := by
  obtain ⟨d, rfl⟩ := d
  exact g_st (fun X _ t kt => XS.idiv X.here C.1 rfl (hb C.2.2.2.1 d) rfl hy kt) G
theorem g_irem (C : Cx p s m meth c Z n0 own bytes maxl ret nm) {x y : Int32} (d : In bytes pc 1 (.irem) pc') (hy : y ≠ 0) (G : Go p l e R s m args below meth c n0 Q K N h k n (mkF m pc' Ls (.int (x - (x / y) * y) :: st))) : Go p l e R s m args below meth c n0 Q K N h k n (mkF m pc Ls (.int y :: .int x :: st)) := by
  obtain ⟨d, rfl⟩ := d
  exact g_st (fun X _ t kt => XS.irem X.here C.1 rfl (hb C.2.2.2.1 d) rfl hy kt) G
theorem g_iload (C : Cx p s m meth c Z n0 own bytes maxl ret nm) {i : Nat} {v : Int32} (d : In bytes pc 2 (.iload i) pc') (hl : Ls[i]? = some (.val (.int v))) (G : Go p l e R s m args below meth c n0 Q K N h k n (mkF m pc' Ls (.int v :: st))) : Go p l e R s m args below meth c n0 Q K N h k n (mkF m pc Ls st) := by
  obtain ⟨d, rfl⟩ := d
  exact g_st (fun X _ t kt => XS.iload X.here C.1 rfl (hb C.2.2.2.1 d) hl kt) G
theorem g_iloadN (C : Cx p s m meth c Z n0 own bytes maxl ret nm) {i : Fin 4} {v : Int32} (d : In bytes pc 1 (.iload_n i) pc') (hl : Ls[i.val]? = some (.val (.int v))) (G : Go p l e R s m args below meth c n0 Q K N h k n (mkF m pc' Ls (.int v :: st))) : Go p l e R s m args below meth c n0 Q K N h k n (mkF m pc Ls st) := by
  obtain ⟨d, rfl⟩ := d
  exact g_st (fun X _ t kt => XS.iloadN X.here C.1 rfl (hb C.2.2.2.1 d) hl kt) G
theorem g_istore (C : Cx p s m meth c Z n0 own bytes maxl ret nm) {i : Nat} {x : Int32} (l' : Array Slot) (d : In bytes pc 2 (.istore i) pc') (hl : storeLocals Ls i (.int x) = some l') (G : Go p l e R s m args below meth c n0 Q K N h k n (mkF m pc' l' st)) : Go p l e R s m args below meth c n0 Q K N h k n (mkF m pc Ls (.int x :: st)) := by
  obtain ⟨d, rfl⟩ := d
  exact g_st (fun X _ t kt => XS.istore X.here C.1 rfl (hb C.2.2.2.1 d) rfl hl kt) G
theorem g_istoreN (C : Cx p s m meth c Z n0 own bytes maxl ret nm) {i : Fin 4} {x : Int32} (l' : Array Slot) (d : In bytes pc 1 (.istore_n i) pc') (hl : storeLocals Ls i.val (.int x) = some l') (G : Go p l e R s m args below meth c n0 Q K N h k n (mkF m pc' l' st)) : Go p l e R s m args below meth c n0 Q K N h k n (mkF m pc Ls (.int x :: st)) := by
  obtain ⟨d, rfl⟩ := d
  exact g_st (fun X _ t kt => XS.istoreN X.here C.1 rfl (hb C.2.2.2.1 d) rfl hl kt) G
theorem g_ladd (C : Cx p s m meth c Z n0 own bytes maxl ret nm) {x y : Int64} (d : In bytes pc 1 (.ladd) pc') (G : Go p l e R s m args below meth c n0 Q K N h k n (mkF m pc' Ls (.long (x + y) :: st))) : Go p l e R s m args below meth c n0 Q K N h k n (mkF m pc Ls (.long y :: .long x :: st)) := by
  obtain ⟨d, rfl⟩ := d
  exact g_st (fun X _ t kt => XS.ladd X.here C.1 rfl (hb C.2.2.2.1 d) rfl kt) G
theorem g_lsub (C : Cx p s m meth c Z n0 own bytes maxl ret nm) {x y : Int64} (d : In bytes pc 1 (.lsub) pc') (G : Go p l e R s m args below meth c n0 Q K N h k n (mkF m pc' Ls (.long (x - y) :: st))) : Go p l e R s m args below meth c n0 Q K N h k n (mkF m pc Ls (.long y :: .long x :: st)) := by
  obtain ⟨d, rfl⟩ := d
  exact g_st (fun X _ t kt => XS.lsub X.here C.1 rfl (hb C.2.2.2.1 d) rfl kt) G
theorem g_lmul (C : Cx p s m meth c Z n0 own bytes maxl ret nm) {x y : Int64} (d : In bytes pc 1 (.lmul) pc') (G : Go p l e R s m args below meth c n0 Q K N h k n (mkF m pc' Ls (.long (x * y) :: st))) : Go p l e R s m args below meth c n0 Q K N h k n (mkF m pc Ls (.long y :: .long x :: st)) := by
  obtain ⟨d, rfl⟩ := d
  exact g_st (fun X _ t kt => XS.lmul X.here C.1 rfl (hb C.2.2.2.1 d) rfl kt) G
theorem g_land (C : Cx p s m meth c Z n0 own bytes maxl ret nm) {x y : Int64} (d : In bytes pc 1 (.land) pc') (G : Go p l e R s m args below meth c n0 Q K N h k n (mkF m pc' Ls (.long (x &&& y) :: st))) : Go p l e R s m args below meth c n0 Q K N h k n (mkF m pc Ls (.long y :: .long x :: st)) := by
  obtain ⟨d, rfl⟩ := d
  exact g_st (fun X _ t kt => XS.land X.here C.1 rfl (hb C.2.2.2.1 d) rfl kt) G
theorem g_lor (C : Cx p s m meth c Z n0 own bytes maxl ret nm) {x y : Int64} (d : In bytes pc 1 (.lor) pc') (G : Go p l e R s m args below meth c n0 Q K N h k n (mkF m pc' Ls (.long (x ||| y) :: st))) : Go p l e R s m args below meth c n0 Q K N h k n (mkF m pc Ls (.long y :: .long x :: st)) := by
  obtain ⟨d, rfl⟩ := d
  exact g_st (fun X _ t kt => XS.lor X.here C.1 rfl (hb C.2.2.2.1 d) rfl kt) G
theorem g_lxor (C : Cx p s m meth c Z n0 own bytes maxl ret nm) {x y : Int64} (d : In bytes pc 1 (.lxor) pc') (G : Go p l e R s m args below meth c n0 Q K N h k n (mkF m pc' Ls (.long (x ^^^ y) :: st))) : Go p l e R s m args below meth c n0 Q K N h k n (mkF m pc Ls (.long y :: .long x :: st)) := by
  obtain ⟨d, rfl⟩ := d
  exact g_st (fun X _ t kt => XS.lxor X.here C.1 rfl (hb C.2.2.2.1 d) rfl kt) G
theorem g_ldiv (C : Cx p s m meth c Z n0 own bytes maxl ret nm) {x y : Int64} (d : In bytes pc 1 (.ldiv) pc') (hy : y ≠ 0) (G : Go p l e R s m args below meth c n0 Q K N h k n (mkF m pc' Ls (.long (x / y) :: st))) : Go p l e R s m args below meth c n0 Q K N h k n (mkF m pc Ls (.long y :: .long x :: st)) := by
  obtain ⟨d, rfl⟩ := d
  exact g_st (fun X _ t kt => XS.ldiv X.here C.1 rfl (hb C.2.2.2.1 d) rfl hy kt) G
theorem g_lrem (C : Cx p s m meth c Z n0 own bytes maxl ret nm) {x y : Int64} (d : In bytes pc 1 (.lrem) pc') (hy : y ≠ 0) (G : Go p l e R s m args below meth c n0 Q K N h k n (mkF m pc' Ls (.long (x - (x / y) * y) :: st))) : Go p l e R s m args below meth c n0 Q K N h k n (mkF m pc Ls (.long y :: .long x :: st)) := by
  obtain ⟨d, rfl⟩ := d
  exact g_st (fun X _ t kt => XS.lrem X.here C.1 rfl (hb C.2.2.2.1 d) rfl hy kt) G
theorem g_lload (C : Cx p s m meth c Z n0 own bytes maxl ret nm) {i : Nat} {v : Int64} (d : In bytes pc 2 (.lload i) pc') (hl : Ls[i]? = some (.val (.long v))) (G : Go p l e R s m args below meth c n0 Q K N h k n (mkF m pc' Ls (.long v :: st))) : Go p l e R s m args below meth c n0 Q K N h k n (mkF m pc Ls st) := by
  obtain ⟨d, rfl⟩ := d
  exact g_st (fun X _ t kt => XS.lload X.here C.1 rfl (hb C.2.2.2.1 d) hl kt) G
theorem g_lloadN (C : Cx p s m meth c Z n0 own bytes maxl ret nm) {i : Fin 4} {v : Int64} (d : In bytes pc 1 (.lload_n i) pc') (hl : Ls[i.val]? = some (.val (.long v))) (G : Go p l e R s m args below meth c n0 Q K N h k n (mkF m pc' Ls (.long v :: st))) : Go p l e R s m args below meth c n0 Q K N h k n (mkF m pc Ls st) := by
  obtain ⟨d, rfl⟩ := d
  exact g_st (fun X _ t kt => XS.lloadN X.here C.1 rfl (hb C.2.2.2.1 d) hl kt) G
theorem g_lstore (C : Cx p s m meth c Z n0 own bytes maxl ret nm) {i : Nat} {x : Int64} (l' : Array Slot) (d : In bytes pc 2 (.lstore i) pc') (hl : storeLocals Ls i (.long x) = some l') (G : Go p l e R s m args below meth c n0 Q K N h k n (mkF m pc' l' st)) : Go p l e R s m args below meth c n0 Q K N h k n (mkF m pc Ls (.long x :: st)) := by
  obtain ⟨d, rfl⟩ := d
  exact g_st (fun X _ t kt => XS.lstore X.here C.1 rfl (hb C.2.2.2.1 d) rfl hl kt) G
theorem g_lstoreN (C : Cx p s m meth c Z n0 own bytes maxl ret nm) {i : Fin 4} {x : Int64} (l' : Array Slot) (d : In bytes pc 1 (.lstore_n i) pc') (hl : storeLocals Ls i.val (.long x) = some l') (G : Go p l e R s m args below meth c n0 Q K N h k n (mkF m pc' l' st)) : Go p l e R s m args below meth c n0 Q K N h k n (mkF m pc Ls (.long x :: st)) := by
  obtain ⟨d, rfl⟩ := d
  exact g_st (fun X _ t kt => XS.lstoreN X.here C.1 rfl (hb C.2.2.2.1 d) rfl hl kt) G
theorem g_aload (C : Cx p s m meth c Z n0 own bytes maxl ret nm) {i : Nat} {v : Value} (d : In bytes pc 2 (.aload i) pc') (hl : Ls[i]? = some (.val v)) (hv : v.isRef = true) (G : Go p l e R s m args below meth c n0 Q K N h k n (mkF m pc' Ls (v :: st))) : Go p l e R s m args below meth c n0 Q K N h k n (mkF m pc Ls st) := by
  obtain ⟨d, rfl⟩ := d
  exact g_st (fun X _ t kt => XS.aload X.here C.1 rfl (hb C.2.2.2.1 d) hl hv kt) G
theorem g_astore (C : Cx p s m meth c Z n0 own bytes maxl ret nm) {i : Nat} {x : Value} (l' : Array Slot) (d : In bytes pc 2 (.astore i) pc') (hv : x.isRef = true) (hl : storeLocals Ls i x = some l') (G : Go p l e R s m args below meth c n0 Q K N h k n (mkF m pc' l' st)) : Go p l e R s m args below meth c n0 Q K N h k n (mkF m pc Ls (x :: st)) := by
  obtain ⟨d, rfl⟩ := d
  exact g_st (fun X _ t kt => XS.astore X.here C.1 rfl (hb C.2.2.2.1 d) rfl hv hl kt) G
theorem g_aloadN (C : Cx p s m meth c Z n0 own bytes maxl ret nm) {i : Fin 4} {v : Value} (d : In bytes pc 1 (.aload_n i) pc') (hl : Ls[i.val]? = some (.val v)) (hv : v.isRef = true) (G : Go p l e R s m args below meth c n0 Q K N h k n (mkF m pc' Ls (v :: st))) : Go p l e R s m args below meth c n0 Q K N h k n (mkF m pc Ls st) := by
  obtain ⟨d, rfl⟩ := d
  exact g_st (fun X _ t kt => XS.aloadN X.here C.1 rfl (hb C.2.2.2.1 d) hl hv kt) G
theorem g_astoreN (C : Cx p s m meth c Z n0 own bytes maxl ret nm) {i : Fin 4} {x : Value} (l' : Array Slot) (d : In bytes pc 1 (.astore_n i) pc') (hv : x.isRef = true) (hl : storeLocals Ls i.val x = some l') (G : Go p l e R s m args below meth c n0 Q K N h k n (mkF m pc' l' st)) : Go p l e R s m args below meth c n0 Q K N h k n (mkF m pc Ls (x :: st)) := by
  obtain ⟨d, rfl⟩ := d
  exact g_st (fun X _ t kt => XS.astoreN X.here C.1 rfl (hb C.2.2.2.1 d) rfl hv hl kt) G
theorem g_ishl (C : Cx p s m meth c Z n0 own bytes maxl ret nm) {x y : Int32} (d : In bytes pc 1 (.ishl) pc') (G : Go p l e R s m args below meth c n0 Q K N h k n (mkF m pc' Ls (.int (shlI x y) :: st))) : Go p l e R s m args below meth c n0 Q K N h k n (mkF m pc Ls (.int y :: .int x :: st)) := by
  obtain ⟨d, rfl⟩ := d
  exact g_st (fun X _ t kt => XS.ishl X.here C.1 rfl (hb C.2.2.2.1 d) rfl kt) G
theorem g_ishr (C : Cx p s m meth c Z n0 own bytes maxl ret nm) {x y : Int32} (d : In bytes pc 1 (.ishr) pc') (G : Go p l e R s m args below meth c n0 Q K N h k n (mkF m pc' Ls (.int (shrI x y) :: st))) : Go p l e R s m args below meth c n0 Q K N h k n (mkF m pc Ls (.int y :: .int x :: st)) := by
  obtain ⟨d, rfl⟩ := d
  exact g_st (fun X _ t kt => XS.ishr X.here C.1 rfl (hb C.2.2.2.1 d) rfl kt) G
theorem g_iushr (C : Cx p s m meth c Z n0 own bytes maxl ret nm) {x y : Int32} (d : In bytes pc 1 (.iushr) pc') (G : Go p l e R s m args below meth c n0 Q K N h k n (mkF m pc' Ls (.int (ushrI x y) :: st))) : Go p l e R s m args below meth c n0 Q K N h k n (mkF m pc Ls (.int y :: .int x :: st)) := by
  obtain ⟨d, rfl⟩ := d
  exact g_st (fun X _ t kt => XS.iushr X.here C.1 rfl (hb C.2.2.2.1 d) rfl kt) G
theorem g_lshl (C : Cx p s m meth c Z n0 own bytes maxl ret nm) {x : Int64} {y : Int32} (d : In bytes pc 1 (.lshl) pc') (G : Go p l e R s m args below meth c n0 Q K N h k n (mkF m pc' Ls (.long (shlJ x y) :: st))) : Go p l e R s m args below meth c n0 Q K N h k n (mkF m pc Ls (.int y :: .long x :: st)) := by
  obtain ⟨d, rfl⟩ := d
  exact g_st (fun X _ t kt => XS.lshl X.here C.1 rfl (hb C.2.2.2.1 d) rfl kt) G
theorem g_lshr (C : Cx p s m meth c Z n0 own bytes maxl ret nm) {x : Int64} {y : Int32} (d : In bytes pc 1 (.lshr) pc') (G : Go p l e R s m args below meth c n0 Q K N h k n (mkF m pc' Ls (.long (shrJ x y) :: st))) : Go p l e R s m args below meth c n0 Q K N h k n (mkF m pc Ls (.int y :: .long x :: st)) := by
  obtain ⟨d, rfl⟩ := d
  exact g_st (fun X _ t kt => XS.lshr X.here C.1 rfl (hb C.2.2.2.1 d) rfl kt) G
theorem g_lushr (C : Cx p s m meth c Z n0 own bytes maxl ret nm) {x : Int64} {y : Int32} (d : In bytes pc 1 (.lushr) pc') (G : Go p l e R s m args below meth c n0 Q K N h k n (mkF m pc' Ls (.long (ushrJ x y) :: st))) : Go p l e R s m args below meth c n0 Q K N h k n (mkF m pc Ls (.int y :: .long x :: st)) := by
  obtain ⟨d, rfl⟩ := d
  exact g_st (fun X _ t kt => XS.lushr X.here C.1 rfl (hb C.2.2.2.1 d) rfl kt) G
theorem g_i2l (C : Cx p s m meth c Z n0 own bytes maxl ret nm) {x : Int32} (d : In bytes pc 1 (.i2l) pc') (G : Go p l e R s m args below meth c n0 Q K N h k n (mkF m pc' Ls (.long x.toInt64 :: st))) : Go p l e R s m args below meth c n0 Q K N h k n (mkF m pc Ls (.int x :: st)) := by
  obtain ⟨d, rfl⟩ := d
  exact g_st (fun X _ t kt => XS.i2l X.here C.1 rfl (hb C.2.2.2.1 d) rfl kt) G
theorem g_l2i (C : Cx p s m meth c Z n0 own bytes maxl ret nm) {x : Int64} (d : In bytes pc 1 (.l2i) pc') (G : Go p l e R s m args below meth c n0 Q K N h k n (mkF m pc' Ls (.int x.toInt32 :: st))) : Go p l e R s m args below meth c n0 Q K N h k n (mkF m pc Ls (.long x :: st)) := by
  obtain ⟨d, rfl⟩ := d
  exact g_st (fun X _ t kt => XS.l2i X.here C.1 rfl (hb C.2.2.2.1 d) rfl kt) G
theorem g_i2b (C : Cx p s m meth c Z n0 own bytes maxl ret nm) {x : Int32} (d : In bytes pc 1 (.i2b) pc') (G : Go p l e R s m args below meth c n0 Q K N h k n (mkF m pc' Ls (.int x.toInt8.toInt32 :: st))) : Go p l e R s m args below meth c n0 Q K N h k n (mkF m pc Ls (.int x :: st)) := by
  obtain ⟨d, rfl⟩ := d
  exact g_st (fun X _ t kt => XS.i2b X.here C.1 rfl (hb C.2.2.2.1 d) rfl kt) G
theorem g_ineg (C : Cx p s m meth c Z n0 own bytes maxl ret nm) {x : Int32} (d : In bytes pc 1 (.ineg) pc') (G : Go p l e R s m args below meth c n0 Q K N h k n (mkF m pc' Ls (.int (-x) :: st))) : Go p l e R s m args below meth c n0 Q K N h k n (mkF m pc Ls (.int x :: st)) := by
  obtain ⟨d, rfl⟩ := d
  exact g_st (fun X _ t kt => XS.ineg X.here C.1 rfl (hb C.2.2.2.1 d) rfl kt) G
theorem g_lneg (C : Cx p s m meth c Z n0 own bytes maxl ret nm) {x : Int64} (d : In bytes pc 1 (.lneg) pc') (G : Go p l e R s m args below meth c n0 Q K N h k n (mkF m pc' Ls (.long (-x) :: st))) : Go p l e R s m args below meth c n0 Q K N h k n (mkF m pc Ls (.long x :: st)) := by
  obtain ⟨d, rfl⟩ := d
  exact g_st (fun X _ t kt => XS.lneg X.here C.1 rfl (hb C.2.2.2.1 d) rfl kt) G
theorem g_iconst (C : Cx p s m meth c Z n0 own bytes maxl ret nm) {i : Int} (v : Int32) (hv : Int32.ofInt i = v) (d : In bytes pc 1 (.iconst i) pc') (G : Go p l e R s m args below meth c n0 Q K N h k n (mkF m pc' Ls (.int v :: st))) : Go p l e R s m args below meth c n0 Q K N h k n (mkF m pc Ls st) := by
  obtain ⟨d, rfl⟩ := d
  exact g_st (fun X _ t kt => XS.iconst X.here C.1 rfl (hb C.2.2.2.1 d) (hv ▸ kt)) G
theorem g_bipush (C : Cx p s m meth c Z n0 own bytes maxl ret nm) {i : Int} (v : Int32) (hv : (Int8.ofInt i).toInt32 = v) (d : In bytes pc 2 (.bipush i) pc') (G : Go p l e R s m args below meth c n0 Q K N h k n (mkF m pc' Ls (.int v :: st))) : Go p l e R s m args below meth c n0 Q K N h k n (mkF m pc Ls st) := by
  obtain ⟨d, rfl⟩ := d
  exact g_st (fun X _ t kt => XS.bipush X.here C.1 rfl (hb C.2.2.2.1 d) (hv ▸ kt)) G
theorem g_sipush (C : Cx p s m meth c Z n0 own bytes maxl ret nm) {i : Int} (v : Int32) (hv : (Int16.ofInt i).toInt32 = v) (d : In bytes pc 3 (.sipush i) pc') (G : Go p l e R s m args below meth c n0 Q K N h k n (mkF m pc' Ls (.int v :: st))) : Go p l e R s m args below meth c n0 Q K N h k n (mkF m pc Ls st) := by
  obtain ⟨d, rfl⟩ := d
  exact g_st (fun X _ t kt => XS.sipush X.here C.1 rfl (hb C.2.2.2.1 d) (hv ▸ kt)) G
theorem g_lconst (C : Cx p s m meth c Z n0 own bytes maxl ret nm) {i : Fin 2} (v : Int64) (hv : Int64.ofNat i = v) (d : In bytes pc 1 (.lconst i) pc') (G : Go p l e R s m args below meth c n0 Q K N h k n (mkF m pc' Ls (.long v :: st))) : Go p l e R s m args below meth c n0 Q K N h k n (mkF m pc Ls st) := by
  obtain ⟨d, rfl⟩ := d
  exact g_st (fun X _ t kt => XS.lconst X.here C.1 rfl (hb C.2.2.2.1 d) (hv ▸ kt)) G
theorem g_aconst (C : Cx p s m meth c Z n0 own bytes maxl ret nm) (d : In bytes pc 1 (.aconst_null) pc') (G : Go p l e R s m args below meth c n0 Q K N h k n (mkF m pc' Ls (.null :: st))) : Go p l e R s m args below meth c n0 Q K N h k n (mkF m pc Ls st) := by
  obtain ⟨d, rfl⟩ := d
  exact g_st (fun X _ t kt => XS.aconstNull X.here C.1 rfl (hb C.2.2.2.1 d) kt) G
theorem g_dup (C : Cx p s m meth c Z n0 own bytes maxl ret nm) {x : Value} (d : In bytes pc 1 (.dup) pc') (hc : x.category = 1) (G : Go p l e R s m args below meth c n0 Q K N h k n (mkF m pc' Ls (x :: x :: st))) : Go p l e R s m args below meth c n0 Q K N h k n (mkF m pc Ls (x :: st)) := by
  obtain ⟨d, rfl⟩ := d
  exact g_st (fun X _ t kt => XS.dup X.here C.1 rfl (hb C.2.2.2.1 d) rfl hc kt) G
theorem g_pop (C : Cx p s m meth c Z n0 own bytes maxl ret nm) {x : Value} (d : In bytes pc 1 (.pop) pc') (hc : x.category = 1) (G : Go p l e R s m args below meth c n0 Q K N h k n (mkF m pc' Ls st)) : Go p l e R s m args below meth c n0 Q K N h k n (mkF m pc Ls (x :: st)) := by
  obtain ⟨d, rfl⟩ := d
  exact g_st (fun X _ t kt => XS.pop X.here C.1 rfl (hb C.2.2.2.1 d) rfl hc kt) G
theorem g_iinc (C : Cx p s m meth c Z n0 own bytes maxl ret nm) {i : Nat} {cst : Int} {x : Int32} (y : Int32) (l' : Array Slot) (d : In bytes pc 3 (.iinc i cst) pc') (hl : Ls[i]? = some (.val (.int x))) (hv : y = x + Int32.ofInt cst) (hl' : storeLocals Ls i (.int y) = some l') (G : Go p l e R s m args below meth c n0 Q K N h k n (mkF m pc' l' st)) : Go p l e R s m args below meth c n0 Q K N h k n (mkF m pc Ls st) := by
  obtain ⟨d, rfl⟩ := d
  exact g_st (fun X _ t kt => XS.iinc X.here C.1 rfl (hb C.2.2.2.1 d) hl (hv ▸ hl') kt) G
theorem g_goto (C : Cx p s m meth c Z n0 own bytes maxl ret nm) (d : Jm bytes pc .goto pc' pct) (G : Go p l e R s m args below meth c n0 Q K N h k n (mkF m pct Ls st)) : Go p l e R s m args below meth c n0 Q K N h k n (mkF m pc Ls st) := by
  obtain ⟨o, d, rfl, h1, h2⟩ := d
  exact g_st (fun X _ t kt => XS.goto X.here C.1 rfl (pc0 := pc) (pc' := pct) rfl (hb C.2.2.2.1 d) h1 h2 kt) G
theorem g_icmp_lt (C : Cx p s m meth c Z n0 own bytes maxl ret nm) (d : Jm bytes pc (.if_icmp .lt) pc' pct) {x y : Int32} (Gt : x < y → Go p l e R s m args below meth c n0 Q K N h k n (mkF m pct Ls st)) (Gf : ¬ (x < y) → Go p l e R s m args below meth c n0 Q K N h k n (mkF m pc' Ls st)) : Go p l e R s m args below meth c n0 Q K N h k n (mkF m pc Ls (.int y :: .int x :: st)) := by
  obtain ⟨o, d, rfl, h1, h2⟩ := d
  by_cases q : x < y
  · exact g_st (fun X _ t kt => XS.icmpYes X.here C.1 rfl (pc0 := pc) (pc' := pct) rfl (hb C.2.2.2.1 d) rfl (tlt q).1 h1 h2 kt) (Gt q)
  · exact g_st (fun X _ t kt => XS.icmpNo X.here C.1 rfl (hb C.2.2.2.1 d) rfl (flt q).1 kt) (Gf q)
theorem g_if_lt (C : Cx p s m meth c Z n0 own bytes maxl ret nm) (d : Jm bytes pc (.ifCond .lt) pc' pct) {x : Int32} (Gt : x < 0 → Go p l e R s m args below meth c n0 Q K N h k n (mkF m pct Ls st)) (Gf : ¬ (x < 0) → Go p l e R s m args below meth c n0 Q K N h k n (mkF m pc' Ls st)) : Go p l e R s m args below meth c n0 Q K N h k n (mkF m pc Ls (.int x :: st)) := by
  obtain ⟨o, d, rfl, h1, h2⟩ := d
  by_cases q : x < 0
  · exact g_st (fun X _ t kt => XS.ifYes X.here C.1 rfl (pc0 := pc) (pc' := pct) rfl (hb C.2.2.2.1 d) rfl ((if0 _ _).trans (tlt q).1) h1 h2 kt) (Gt q)
  · exact g_st (fun X _ t kt => XS.ifNo X.here C.1 rfl (hb C.2.2.2.1 d) rfl ((if0 _ _).trans (flt q).1) kt) (Gf q)
theorem g_lcmp_lt (C : Cx p s m meth c Z n0 own bytes maxl ret nm) {x y : Int64} (d1 : In bytes pc 1 .lcmp pc1) (d : Jm bytes pc1 (.ifCond .lt) pc' pct) (Gt : x < y → Go p l e R s m args below meth c n0 Q K N h k n (mkF m pct Ls st)) (Gf : ¬ (x < y) → Go p l e R s m args below meth c n0 Q K N h k n (mkF m pc' Ls st)) : Go p l e R s m args below meth c n0 Q K N h k n (mkF m pc Ls (.long y :: .long x :: st)) := by
  obtain ⟨d1, rfl⟩ := d1
  refine g_st (fun X _ t kt => XS.lcmp X.here C.1 rfl (hb C.2.2.2.1 d1) rfl kt) ?_
  exact g_if_lt C d (fun q => Gt ((lw_lt x y).mp q)) (fun q => Gf (fun z => q ((lw_lt x y).mpr z)))
theorem g_icmp_ge (C : Cx p s m meth c Z n0 own bytes maxl ret nm) (d : Jm bytes pc (.if_icmp .ge) pc' pct) {x y : Int32} (Gt : ¬ (x < y) → Go p l e R s m args below meth c n0 Q K N h k n (mkF m pct Ls st)) (Gf : x < y → Go p l e R s m args below meth c n0 Q K N h k n (mkF m pc' Ls st)) : Go p l e R s m args below meth c n0 Q K N h k n (mkF m pc Ls (.int y :: .int x :: st)) := by
  obtain ⟨o, d, rfl, h1, h2⟩ := d
  by_cases q : ¬ (x < y)
  · exact g_st (fun X _ t kt => XS.icmpYes X.here C.1 rfl (pc0 := pc) (pc' := pct) rfl (hb C.2.2.2.1 d) rfl (flt q).2.1 h1 h2 kt) (Gt q)
  · exact g_st (fun X _ t kt => XS.icmpNo X.here C.1 rfl (hb C.2.2.2.1 d) rfl (tlt (Decidable.not_not.mp q)).2.1 kt) (Gf (Decidable.not_not.mp q))
theorem g_if_ge (C : Cx p s m meth c Z n0 own bytes maxl ret nm) (d : Jm bytes pc (.ifCond .ge) pc' pct) {x : Int32} (Gt : ¬ (x < 0) → Go p l e R s m args below meth c n0 Q K N h k n (mkF m pct Ls st)) (Gf : x < 0 → Go p l e R s m args below meth c n0 Q K N h k n (mkF m pc' Ls st)) : Go p l e R s m args below meth c n0 Q K N h k n (mkF m pc Ls (.int x :: st)) := by
  obtain ⟨o, d, rfl, h1, h2⟩ := d
  by_cases q : ¬ (x < 0)
  · exact g_st (fun X _ t kt => XS.ifYes X.here C.1 rfl (pc0 := pc) (pc' := pct) rfl (hb C.2.2.2.1 d) rfl ((if0 _ _).trans (flt q).2.1) h1 h2 kt) (Gt q)
  · exact g_st (fun X _ t kt => XS.ifNo X.here C.1 rfl (hb C.2.2.2.1 d) rfl ((if0 _ _).trans (tlt (Decidable.not_not.mp q)).2.1) kt) (Gf (Decidable.not_not.mp q))
theorem g_lcmp_ge (C : Cx p s m meth c Z n0 own bytes maxl ret nm) {x y : Int64} (d1 : In bytes pc 1 .lcmp pc1) (d : Jm bytes pc1 (.ifCond .ge) pc' pct) (Gt : ¬ (x < y) → Go p l e R s m args below meth c n0 Q K N h k n (mkF m pct Ls st)) (Gf : x < y → Go p l e R s m args below meth c n0 Q K N h k n (mkF m pc' Ls st)) : Go p l e R s m args below meth c n0 Q K N h k n (mkF m pc Ls (.long y :: .long x :: st)) := by
  obtain ⟨d1, rfl⟩ := d1
  refine g_st (fun X _ t kt => XS.lcmp X.here C.1 rfl (hb C.2.2.2.1 d1) rfl kt) ?_
  exact g_if_ge C d (fun q => Gt (fun z => q ((lw_lt x y).mpr z))) (fun q => Gf ((lw_lt x y).mp q))
theorem g_icmp_gt (C : Cx p s m meth c Z n0 own bytes maxl ret nm) (d : Jm bytes pc (.if_icmp .gt) pc' pct) {x y : Int32} (Gt : y < x → Go p l e R s m args below meth c n0 Q K N h k n (mkF m pct Ls st)) (Gf : ¬ (y < x) → Go p l e R s m args below meth c n0 Q K N h k n (mkF m pc' Ls st)) : Go p l e R s m args below meth c n0 Q K N h k n (mkF m pc Ls (.int y :: .int x :: st)) := by
  obtain ⟨o, d, rfl, h1, h2⟩ := d
  by_cases q : y < x
  · exact g_st (fun X _ t kt => XS.icmpYes X.here C.1 rfl (pc0 := pc) (pc' := pct) rfl (hb C.2.2.2.1 d) rfl (tlt q).2.2.1 h1 h2 kt) (Gt q)
  · exact g_st (fun X _ t kt => XS.icmpNo X.here C.1 rfl (hb C.2.2.2.1 d) rfl (flt q).2.2.1 kt) (Gf q)
theorem g_if_gt (C : Cx p s m meth c Z n0 own bytes maxl ret nm) (d : Jm bytes pc (.ifCond .gt) pc' pct) {x : Int32} (Gt : 0 < x → Go p l e R s m args below meth c n0 Q K N h k n (mkF m pct Ls st)) (Gf : ¬ (0 < x) → Go p l e R s m args below meth c n0 Q K N h k n (mkF m pc' Ls st)) : Go p l e R s m args below meth c n0 Q K N h k n (mkF m pc Ls (.int x :: st)) := by
  obtain ⟨o, d, rfl, h1, h2⟩ := d
  by_cases q : 0 < x
  · exact g_st (fun X _ t kt => XS.ifYes X.here C.1 rfl (pc0 := pc) (pc' := pct) rfl (hb C.2.2.2.1 d) rfl ((if0 _ _).trans (tlt q).2.2.1) h1 h2 kt) (Gt q)
  · exact g_st (fun X _ t kt => XS.ifNo X.here C.1 rfl (hb C.2.2.2.1 d) rfl ((if0 _ _).trans (flt q).2.2.1) kt) (Gf q)
theorem g_lcmp_gt (C : Cx p s m meth c Z n0 own bytes maxl ret nm) {x y : Int64} (d1 : In bytes pc 1 .lcmp pc1) (d : Jm bytes pc1 (.ifCond .gt) pc' pct) (Gt : y < x → Go p l e R s m args below meth c n0 Q K N h k n (mkF m pct Ls st)) (Gf : ¬ (y < x) → Go p l e R s m args below meth c n0 Q K N h k n (mkF m pc' Ls st)) : Go p l e R s m args below meth c n0 Q K N h k n (mkF m pc Ls (.long y :: .long x :: st)) := by
  obtain ⟨d1, rfl⟩ := d1
  refine g_st (fun X _ t kt => XS.lcmp X.here C.1 rfl (hb C.2.2.2.1 d1) rfl kt) ?_
  exact g_if_gt C d (fun q => Gt ((lw_gt x y).mp q)) (fun q => Gf (fun z => q ((lw_gt x y).mpr z)))
theorem g_icmp_le (C : Cx p s m meth c Z n0 own bytes maxl ret nm) (d : Jm bytes pc (.if_icmp .le) pc' pct) {x y : Int32} (Gt : ¬ (y < x) → Go p l e R s m args below meth c n0 Q K N h k n (mkF m pct Ls st)) (Gf : y < x → Go p l e R s m args below meth c n0 Q K N h k n (mkF m pc' Ls st)) : Go p l e R s m args below meth c n0 Q K N h k n (mkF m pc Ls (.int y :: .int x :: st)) := by
  obtain ⟨o, d, rfl, h1, h2⟩ := d
  by_cases q : ¬ (y < x)
  · exact g_st (fun X _ t kt => XS.icmpYes X.here C.1 rfl (pc0 := pc) (pc' := pct) rfl (hb C.2.2.2.1 d) rfl (flt q).2.2.2 h1 h2 kt) (Gt q)
  · exact g_st (fun X _ t kt => XS.icmpNo X.here C.1 rfl (hb C.2.2.2.1 d) rfl (tlt (Decidable.not_not.mp q)).2.2.2 kt) (Gf (Decidable.not_not.mp q))
theorem g_if_le (C : Cx p s m meth c Z n0 own bytes maxl ret nm) (d : Jm bytes pc (.ifCond .le) pc' pct) {x : Int32} (Gt : ¬ (0 < x) → Go p l e R s m args below meth c n0 Q K N h k n (mkF m pct Ls st)) (Gf : 0 < x → Go p l e R s m args below meth c n0 Q K N h k n (mkF m pc' Ls st)) : Go p l e R s m args below meth c n0 Q K N h k n (mkF m pc Ls (.int x :: st)) := by
  obtain ⟨o, d, rfl, h1, h2⟩ := d
  by_cases q : ¬ (0 < x)
  · exact g_st (fun X _ t kt => XS.ifYes X.here C.1 rfl (pc0 := pc) (pc' := pct) rfl (hb C.2.2.2.1 d) rfl ((if0 _ _).trans (flt q).2.2.2) h1 h2 kt) (Gt q)
  · exact g_st (fun X _ t kt => XS.ifNo X.here C.1 rfl (hb C.2.2.2.1 d) rfl ((if0 _ _).trans (tlt (Decidable.not_not.mp q)).2.2.2) kt) (Gf (Decidable.not_not.mp q))
theorem g_lcmp_le (C : Cx p s m meth c Z n0 own bytes maxl ret nm) {x y : Int64} (d1 : In bytes pc 1 .lcmp pc1) (d : Jm bytes pc1 (.ifCond .le) pc' pct) (Gt : ¬ (y < x) → Go p l e R s m args below meth c n0 Q K N h k n (mkF m pct Ls st)) (Gf : y < x → Go p l e R s m args below meth c n0 Q K N h k n (mkF m pc' Ls st)) : Go p l e R s m args below meth c n0 Q K N h k n (mkF m pc Ls (.long y :: .long x :: st)) := by
  obtain ⟨d1, rfl⟩ := d1
  refine g_st (fun X _ t kt => XS.lcmp X.here C.1 rfl (hb C.2.2.2.1 d1) rfl kt) ?_
  exact g_if_le C d (fun q => Gt (fun z => q ((lw_gt x y).mpr z))) (fun q => Gf ((lw_gt x y).mp q))
theorem g_icmp_eq (C : Cx p s m meth c Z n0 own bytes maxl ret nm) (d : Jm bytes pc (.if_icmp .eq) pc' pct) {x y : Int32} (Gt : x = y → Go p l e R s m args below meth c n0 Q K N h k n (mkF m pct Ls st)) (Gf : ¬ (x = y) → Go p l e R s m args below meth c n0 Q K N h k n (mkF m pc' Ls st)) : Go p l e R s m args below meth c n0 Q K N h k n (mkF m pc Ls (.int y :: .int x :: st)) := by
  obtain ⟨o, d, rfl, h1, h2⟩ := d
  by_cases q : x = y
  · exact g_st (fun X _ t kt => XS.icmpYes X.here C.1 rfl (pc0 := pc) (pc' := pct) rfl (hb C.2.2.2.1 d) rfl (teq q).1 h1 h2 kt) (Gt q)
  · exact g_st (fun X _ t kt => XS.icmpNo X.here C.1 rfl (hb C.2.2.2.1 d) rfl (feq q).1 kt) (Gf q)
theorem g_if_eq (C : Cx p s m meth c Z n0 own bytes maxl ret nm) (d : Jm bytes pc (.ifCond .eq) pc' pct) {x : Int32} (Gt : x = 0 → Go p l e R s m args below meth c n0 Q K N h k n (mkF m pct Ls st)) (Gf : ¬ (x = 0) → Go p l e R s m args below meth c n0 Q K N h k n (mkF m pc' Ls st)) : Go p l e R s m args below meth c n0 Q K N h k n (mkF m pc Ls (.int x :: st)) := by
  obtain ⟨o, d, rfl, h1, h2⟩ := d
  by_cases q : x = 0
  · exact g_st (fun X _ t kt => XS.ifYes X.here C.1 rfl (pc0 := pc) (pc' := pct) rfl (hb C.2.2.2.1 d) rfl ((if0 _ _).trans (teq q).1) h1 h2 kt) (Gt q)
  · exact g_st (fun X _ t kt => XS.ifNo X.here C.1 rfl (hb C.2.2.2.1 d) rfl ((if0 _ _).trans (feq q).1) kt) (Gf q)
theorem g_lcmp_eq (C : Cx p s m meth c Z n0 own bytes maxl ret nm) {x y : Int64} (d1 : In bytes pc 1 .lcmp pc1) (d : Jm bytes pc1 (.ifCond .eq) pc' pct) (Gt : x = y → Go p l e R s m args below meth c n0 Q K N h k n (mkF m pct Ls st)) (Gf : ¬ (x = y) → Go p l e R s m args below meth c n0 Q K N h k n (mkF m pc' Ls st)) : Go p l e R s m args below meth c n0 Q K N h k n (mkF m pc Ls (.long y :: .long x :: st)) := by
  obtain ⟨d1, rfl⟩ := d1
  refine g_st (fun X _ t kt => XS.lcmp X.here C.1 rfl (hb C.2.2.2.1 d1) rfl kt) ?_
  exact g_if_eq C d (fun q => Gt ((lw_eq x y).mp q)) (fun q => Gf (fun z => q ((lw_eq x y).mpr z)))
theorem g_icmp_ne (C : Cx p s m meth c Z n0 own bytes maxl ret nm) (d : Jm bytes pc (.if_icmp .ne) pc' pct) {x y : Int32} (Gt : ¬ (x = y) → Go p l e R s m args below meth c n0 Q K N h k n (mkF m pct Ls st)) (Gf : x = y → Go p l e R s m args below meth c n0 Q K N h k n (mkF m pc' Ls st)) : Go p l e R s m args below meth c n0 Q K N h k n (mkF m pc Ls (.int y :: .int x :: st)) := by
  obtain ⟨o, d, rfl, h1, h2⟩ := d
  by_cases q : ¬ (x = y)
  · exact g_st (fun X _ t kt => XS.icmpYes X.here C.1 rfl (pc0 := pc) (pc' := pct) rfl (hb C.2.2.2.1 d) rfl (feq q).2 h1 h2 kt) (Gt q)
  · exact g_st (fun X _ t kt => XS.icmpNo X.here C.1 rfl (hb C.2.2.2.1 d) rfl (teq (Decidable.not_not.mp q)).2 kt) (Gf (Decidable.not_not.mp q))
theorem g_if_ne (C : Cx p s m meth c Z n0 own bytes maxl ret nm) (d : Jm bytes pc (.ifCond .ne) pc' pct) {x : Int32} (Gt : ¬ (x = 0) → Go p l e R s m args below meth c n0 Q K N h k n (mkF m pct Ls st)) (Gf : x = 0 → Go p l e R s m args below meth c n0 Q K N h k n (mkF m pc' Ls st)) : Go p l e R s m args below meth c n0 Q K N h k n (mkF m pc Ls (.int x :: st)) := by
  obtain ⟨o, d, rfl, h1, h2⟩ := d
  by_cases q : ¬ (x = 0)
  · exact g_st (fun X _ t kt => XS.ifYes X.here C.1 rfl (pc0 := pc) (pc' := pct) rfl (hb C.2.2.2.1 d) rfl ((if0 _ _).trans (feq q).2) h1 h2 kt) (Gt q)
  · exact g_st (fun X _ t kt => XS.ifNo X.here C.1 rfl (hb C.2.2.2.1 d) rfl ((if0 _ _).trans (teq (Decidable.not_not.mp q)).2) kt) (Gf (Decidable.not_not.mp q))
theorem g_lcmp_ne (C : Cx p s m meth c Z n0 own bytes maxl ret nm) {x y : Int64} (d1 : In bytes pc 1 .lcmp pc1) (d : Jm bytes pc1 (.ifCond .ne) pc' pct) (Gt : ¬ (x = y) → Go p l e R s m args below meth c n0 Q K N h k n (mkF m pct Ls st)) (Gf : x = y → Go p l e R s m args below meth c n0 Q K N h k n (mkF m pc' Ls st)) : Go p l e R s m args below meth c n0 Q K N h k n (mkF m pc Ls (.long y :: .long x :: st)) := by
  obtain ⟨d1, rfl⟩ := d1
  refine g_st (fun X _ t kt => XS.lcmp X.here C.1 rfl (hb C.2.2.2.1 d1) rfl kt) ?_
  exact g_if_ne C d (fun q => Gt (fun z => q ((lw_eq x y).mpr z))) (fun q => Gf ((lw_eq x y).mp q))
theorem g_ldc2 (C : Cx p s m meth c Z n0 own bytes maxl ret nm) {i : Nat} {v : Int64} (w : (Cond.constantLong own i v).before a0 Z = true) (d : In bytes pc 3 (.ldc2_w i) pc') (G : Go p l e R s m args below meth c n0 Q K N h k n (mkF m pc' Ls (.long v :: st))) : Go p l e R s m args below meth c n0 Q K N h k n (mkF m pc Ls st) := by
  obtain ⟨d, rfl⟩ := d
  exact g_st (fun X _ t kt => X.ldc2Long C.1 C.2.2.1 (mvT C.2.1 w) (g := mkF m pc Ls st) rfl (hb C.2.2.2.1 d) _ kt) G
theorem g_ldc (C : Cx p s m meth c Z n0 own bytes maxl ret nm) {i : Nat} {v : Int32} (w : (Cond.constant own i v).before a0 Z = true) (d : In bytes pc 2 (.ldc i) pc') (G : Go p l e R s m args below meth c n0 Q K N h k n (mkF m pc' Ls (.int v :: st))) : Go p l e R s m args below meth c n0 Q K N h k n (mkF m pc Ls st) := by
  obtain ⟨d, rfl⟩ := d
  exact g_st (fun X _ t kt => X.ldcInt C.1 C.2.2.1 (mvT C.2.1 w) (g := mkF m pc Ls st) rfl (hb C.2.2.2.1 d) _ kt) G
theorem g_getF (C : Cx p s m meth c Z n0 own bytes maxl ret nm) {i : Nat} {O f ds : String} (w : (Cond.fieldLink own i O f ds).before a0 Z = true) (d : In bytes pc 3 (.getfield i) pc') {a : Addr} {v : Value} (F : Fld Z h a O f ds v) (G : Go p l e R s m args below meth c n0 Q K N h k n (mkF m pc' Ls (v :: st))) : Go p l e R s m args below meth c n0 Q K N h k n (mkF m pc Ls (.ref a :: st)) := by
  obtain ⟨d, rfl⟩ := d
  intro T L hL X eT
  obtain ⟨T', X', e', st'⟩ := getF X C.1 C.2.1 C.2.2.1 (host := "") (Or.inl w) Via.refl eT F (g := mkF m pc Ls (.ref a :: st)) rfl rfl (hb C.2.2.2.1 d)
  obtain ⟨t, o, h1, h2⟩ := G T' L hL X' e'
  exact ⟨t, o, st' t h1, h2⟩
theorem g_putF (C : Cx p s m meth c Z n0 own bytes maxl ret nm) {i kk : Nat} {O f ds K' : String} {ty : FieldType} (w : (Cond.fieldLink own i O f ds).before a0 Z = true) (d : In bytes pc 3 (.putfield i) pc') {a : Addr} {v v' old : Value} (F : Fld Z h a O f ds old) (E : Exa Z h a K')
    (L : (Cond.lays K' O f ds).before a0 Z = true ∨ ((Cond.laysFinal K' O f ds).before a0 Z = true ∧ own = O ∧ nm = "<init>")) (wi : (Cond.instantiable K' kk).before a0 Z = true) (hty : parseFieldDescriptor ds = some ty) (hn : narrow ty v = v') (hf : fits ty v' = true) (ge : n0 ≤ a)
    (G : ∀ h', Wr h h' a (Jvm.RoadKit.slotOf Z O f ds) v' → Go p l e R s m args below meth c n0 Q K N h' k n (mkF m pc' Ls st)) : Go p l e R s m args below meth c n0 Q K N h k n (mkF m pc Ls (v :: .ref a :: st)) := by
  obtain ⟨d, rfl⟩ := d
  intro T Lo hL X eT
  have L' : (Cond.lays K' O f ds).before a0 Z = true ∨ ((Cond.laysFinal K' O f ds).before a0 Z = true ∧ own = O ∧ meth.name = "<init>") := L.imp id fun q => ⟨q.1, q.2.1, C.2.2.2.2.2.2.2.1.trans q.2.2⟩
  obtain ⟨T', h', X', e', W', st'⟩ := putFN X C.1 C.2.1 C.2.2.1 w Via.refl eT F E L' wi hty hn hf (g := mkF m pc Ls (v :: .ref a :: st)) rfl rfl (hb C.2.2.2.1 d)
  obtain ⟨t, o, h1, h2⟩ := G h' W' T' _ (Fr.snoc X' hL ge) X' e'
  exact ⟨t, o, st' t h1, h2⟩
theorem g_new (C : Cx p s m meth c Z n0 own bytes maxl ret nm) {i sz : Nat} {K' : String} (w : (Cond.classLink own i K').before a0 Z = true) (wi : (Cond.instantiable K' sz).before a0 Z = true) (wz : (Cond.initialized K').before a0 Z = true) (d : In bytes pc 3 (.new i) pc') (hc : k + 1 ≤ R.cells) (hl : n + sz ≤ R.slots)
    (G : ∀ h' a, n0 ≤ a → a = h.size → Ext h h' → Exa Z h' a K' → (∀ {O f ds : String} {ty : FieldType}, Laid Z a0 K' O f ds → parseFieldDescriptor ds = some ty → Fld Z h' a O f ds (defaultValue ty)) → Go p l e R s m args below meth c n0 Q K N h' (k + 1) (n + sz) (mkF m pc' Ls (.ref a :: st))) : Go p l e R s m args below meth c n0 Q K N h k n (mkF m pc Ls st) := by
  obtain ⟨d, rfl⟩ := d
  intro T Lo hL X eT
  have ge : n0 ≤ h.size := Nat.le_trans C.2.2.2.2.2.2.2.2 (eT ▸ Stand.up X)
  obtain ⟨T', h', X', e', E', A', D', -, st'⟩ := newO X C.1 C.2.1 C.2.2.1 w wi wz eT (g := mkF m pc Ls st) rfl (hb C.2.2.2.1 d) hc hl
  obtain ⟨t, o, h1, h2⟩ := G h' h.size ge rfl E' A' D' T' _ hL X' e'
  exact ⟨t, o, st' t h1, h2⟩
theorem g_newarr (C : Cx p s m meth c Z n0 own bytes maxl ret nm) {aty : ArrayType} (w : (Cond.arrayClass (newarray.typeOf aty)).before a0 Z = true) (d : In bytes pc 2 (.newarray aty) pc') {z : Int32} (hz : ¬ z < 0) (cap : Nat) (hcap : z.toNatClampNeg ≤ cap) (hb8 : cap * 8 ≤ 536870912) (hc : k + 1 ≤ R.cells) (hl : n + cap ≤ R.slots)
    (G : ∀ h' a kA, n0 ≤ a → a = h.size → Ext h h' → Arr Z h' a (newA kA (newarray.typeOf aty) z) (newarray.typeOf aty) → Go p l e R s m args below meth c n0 Q K N h' (k + 1) (n + cap) (mkF m pc' Ls (.ref a :: st))) : Go p l e R s m args below meth c n0 Q K N h k n (mkF m pc Ls (.int z :: st)) := by
  obtain ⟨d, rfl⟩ := d
  intro T Lo hL X eT
  have ge : n0 ≤ h.size := Nat.le_trans C.2.2.2.2.2.2.2.2 (eT ▸ Stand.up X)
  obtain ⟨T', h', kA, X', e', E', A', st'⟩ := newP X C.1 C.2.1 w eT (g := mkF m pc Ls (.int z :: st)) rfl (hb C.2.2.2.1 d) rfl hz hcap hb8 hc hl
  obtain ⟨t, o, h1, h2⟩ := G h' h.size kA ge rfl E' A' T' _ hL X' e'
  exact ⟨t, o, st' t h1, h2⟩
theorem g_initO (C : Cx p s m meth c Z n0 own bytes maxl ret nm) {i : Nat} (w1 : (Cond.methodLink own i Lib.objectInit).before a0 Z = true) (w2 : (Cond.instanceMethod Lib.objectInit).before a0 Z = true) (w3 : (Cond.code Lib.objectInit ⟨#[0xb1]⟩ 1 none).before a0 Z = true) (d : In bytes pc 3 (.invokespecial i) pc') (hsz : Ls.size = maxl) {a : Addr} (hf : 1 ≤ R.frames) (W : Nat) (hW : (st.map fun v => v.category).sum ≤ W) (hl : W + 12 ≤ R.locals) (G : Go p l e R s m args below meth c n0 Q K N h k n (mkF m pc' Ls st)) : Go p l e R s m args below meth c n0 Q K N h k n (mkF m pc Ls (.ref a :: st)) := by
  obtain ⟨d, rfl⟩ := d
  intro T L hL X eT
  obtain ⟨T', X', e', st'⟩ := initO X C.1 C.2.1 C.2.2.1 w1 w2 w3 eT (g := mkF m pc Ls (.ref a :: st)) rfl (by rw [C.2.2.2.2.1]; exact hsz) rfl (hb C.2.2.2.1 d) hf (W := W) (by show 2 * 0 + _ ≤ _; omega) hl
  obtain ⟨t, o, h1, h2⟩ := G T' L hL X' e'
  exact ⟨t, o, st' t h1, h2⟩
theorem g_retI (C : Cx p s m meth c Z n0 own bytes maxl (some .int) nm) (d : In bytes pc 1 .ireturn pc') {z : Int32} (hk : k ≤ K) (hn : n ≤ N) (q : Q (some (.int z)) h) : Go p l e R s m args below meth c n0 Q K N h k n (mkF m pc Ls ([.int z])) := by
  obtain ⟨d, rfl⟩ := d
  intro T L hL X eT
  have hlk : meth.locks = false := C.2.2.2.2.2.2.1
  obtain ⟨fs, hr, hrun, hended, hW, hsame⟩ := X.leave (v := some (.int z)) (fun h => by rw [C.2.2.2.2.2.1] at h; cases h) hlk
  refine ⟨_, _, X.ireturnOut C.1 C.2.2.2.2.2.1 rfl (Or.inl rfl) (hb C.2.2.2.1 d) hr, hrun, hended, _, _, rfl, ⟨?_, hL⟩, ⟨_, rfl⟩, hW, hsame.mono hk hn⟩
  show Q _ T.heap
  rw [eT]; exact q
theorem g_retJ (C : Cx p s m meth c Z n0 own bytes maxl (some .long) nm) (d : In bytes pc 1 .lreturn pc') {z : Int64} (hk : k ≤ K) (hn : n ≤ N) (q : Q (some (.long z)) h) : Go p l e R s m args below meth c n0 Q K N h k n (mkF m pc Ls ([.long z])) := by
  obtain ⟨d, rfl⟩ := d
  intro T L hL X eT
  have hlk : meth.locks = false := C.2.2.2.2.2.2.1
  obtain ⟨fs, hr, hrun, hended, hW, hsame⟩ := X.leave (v := some (.long z)) (fun h => by rw [C.2.2.2.2.2.1] at h; cases h) hlk
  refine ⟨_, _, X.lreturnOut C.1 C.2.2.2.2.2.1 (hb C.2.2.2.1 d) hr, hrun, hended, _, _, rfl, ⟨?_, hL⟩, ⟨_, rfl⟩, hW, hsame.mono hk hn⟩
  show Q _ T.heap
  rw [eT]; exact q
theorem g_retZ (C : Cx p s m meth c Z n0 own bytes maxl (some .boolean) nm) (d : In bytes pc 1 .ireturn pc') {z : Int32} (hk : k ≤ K) (hn : n ≤ N) (q : Q (some (.int (z &&& 1))) h) : Go p l e R s m args below meth c n0 Q K N h k n (mkF m pc Ls ([.int z])) := by
  obtain ⟨d, rfl⟩ := d
  intro T L hL X eT
  have hlk : meth.locks = false := C.2.2.2.2.2.2.1
  obtain ⟨fs, hr, hrun, hended, hW, hsame⟩ := X.leave (v := some (.int (z &&& 1))) (fun h => by rw [C.2.2.2.2.2.1] at h; cases h) hlk
  refine ⟨_, _, retN X C.1 (t := .boolean) C.2.2.2.2.2.1 (by simp) (hb C.2.2.2.1 d) hr, hrun, hended, _, _, rfl, ⟨?_, hL⟩, ⟨_, rfl⟩, hW, hsame.mono hk hn⟩
  show Q _ T.heap
  rw [eT]; exact q
theorem g_retA (C : Cx p s m meth c Z n0 own bytes maxl ret nm) {ty : FieldType} (hret : ret = some ty) (hty : ty.isReference = true) (d : In bytes pc 1 .areturn pc') {z : Value} (hz : z.isRef = true) (hk : k ≤ K) (hn : n ≤ N) (q : Q (some z) h) : Go p l e R s m args below meth c n0 Q K N h k n (mkF m pc Ls ([z])) := by
  obtain ⟨d, rfl⟩ := d
  subst hret
  intro T L hL X eT
  have hlk : meth.locks = false := C.2.2.2.2.2.2.1
  obtain ⟨fs, hr, hrun, hended, hW, hsame⟩ := X.leave (v := some z) (fun h => by rw [C.2.2.2.2.2.1] at h; cases h) hlk
  refine ⟨_, _, X.areturnOut C.1 hz C.2.2.2.2.2.1 hty (hb C.2.2.2.1 d) hr, hrun, hended, _, _, rfl, ⟨?_, hL⟩, ⟨_, rfl⟩, hW, hsame.mono hk hn⟩
  show Q _ T.heap
  rw [eT]; exact q
theorem g_ret (C : Cx p s m meth c Z n0 own bytes maxl none nm) (d : In bytes pc 1 .return_ pc') (hk : k ≤ K) (hn : n ≤ N) (q : Q none h) : Go p l e R s m args below meth c n0 Q K N h k n (mkF m pc Ls []) := by
  obtain ⟨d, rfl⟩ := d
  intro T L hL X eT
  have hlk : meth.locks = false := C.2.2.2.2.2.2.1
  obtain ⟨fs, hr, hrun, hended, hW, hsame⟩ := X.leave (v := none) (fun _ => rfl) hlk
  refine ⟨_, _, X.returnOut C.1 C.2.2.2.2.2.1 (hb C.2.2.2.1 d) hr, hrun, hended, _, _, rfl, ⟨?_, hL⟩, ⟨_, rfl⟩, hW, hsame.mono hk hn⟩
  show Q _ T.heap
  rw [eT]; exact q
/-- a method's contract: called with 'as' at a heap h0 it comes back so -/
abbrev Con (l : Launch) (Z : State) (y : MethodName) (bytes : ByteArray) (maxl : Nat) (ret : Option FieldType) (rm : Room) (ws : List Jvm.Cond) (as : Array Value) (h0 : Heap) (n0 : Nat) (Q : Option Value → Heap → Prop) : Prop :=
  MetFree l y (head1 (Jvm.Cond.code y bytes maxl ret :: ws) rm) (fun a U => a = as ∧ Z.Warmed39 U.vm ∧ U.heap = h0) (fun _ _ _ _ _ => True) (fun _ U o U' => ∃ v L, o = .returned v ∧ (Q v U'.heap ∧ Fr n0 L) ∧ FrameEnd U o U' L rm.cells rm.slots)
theorem con_of {y : MethodName} {rm : Room} {ws : List Jvm.Cond} {as : Array Value} {h0 : Heap} {Ls0 : Array Slot} (hpl : plainFor y = true) (he : ∀ m, entryFrame m as maxl = mkF m 0 Ls0 []) (hn0 : n0 ≤ h0.size)
    (B : ∀ (p : Program) (e : Env) (s : State) (m : MethodId) (below : List Frame) (meth : Method) (c : ClassFile.Code), Cx p s m meth c Z n0 y.cls bytes maxl ret y.name → Go p l e rm s m as below meth c n0 Q rm.cells rm.slots h0 0 0 (mkF m 0 Ls0 [])) : Con l Z y bytes maxl ret rm ws as h0 n0 Q := by
  refine MetFree.of_bodySF hpl hisR ?_
  intro p e s m args below meth c s₁ Bd hml0 hP hK
  obtain ⟨rfl, hZ, hh⟩ := hP
  have hlk : meth.locks = false := BodyLoose.notSynchronized Bd
  have X0 : Stand p l e rm s m _ below meth c s₁ [] 0 0 := Stand.of_body Bd
  have e0 : s₁.heap = h0 := by rw [← hh, Bd.state]; rfl
  obtain ⟨t, o, h1, h2, h3, v, L, h4, h5, h6⟩ := B p e s m below meth c ⟨Bd.exec, hZ, findClass_of_methodNamed Bd.named, Bd.bytes, hml0, Bd.returns, hlk, (name_of_methodNamed Bd.named Bd.method).1, by rw [hh]; exact hn0⟩ s₁ [] (Fr.nil n0) X0 e0
  exact ⟨t, o, castTop (he m) h1, h2, h3, v, L, h4, h5, h6⟩
theorem g_callS (C : Cx p s m meth c Z n0 own bytes maxl ret nm) {y : MethodName} {by' : ByteArray} {ml : Nat} {rt : Option FieldType} {rm : Room} {as : Array Value} {Q' : Option Value → Heap → Prop} (con : Con l Z y by' ml rt rm [] as h n0 Q') {i : Nat} (w1 : (Cond.methodLink own i y).before a0 Z = true) (w2 : (Cond.static y).before a0 Z = true) (w3 : (Cond.initialized y.cls).before a0 Z = true) (w4 : (Cond.code y by' ml rt).before a0 Z = true) (hy : y.cls ≠ "java/lang/invoke/MethodHandle" ∧ y.cls ≠ "java/lang/invoke/VarHandle")
    (d : In bytes pc 3 (.invokestatic i) pc') {ps : List FieldType} {r : Option FieldType} (hpd : parseMethodDescriptor y.desc = some ⟨ps, r⟩) (argsL rest : List Value) (has : as = argsL.toArray) (hlen : argsL.length = ps.length) (hsz : Ls.size = maxl) (W : Nat) (hW : (rest.map fun v => v.category).sum ≤ W) (r1 : rm.frames + 1 ≤ R.frames) (r2 : W + (ml + 11) + rm.locals ≤ R.locals) (r3 : k + rm.cells ≤ R.cells) (r4 : n + rm.slots ≤ R.slots)
    (G : ∀ v h', Q' v h' → Go p l e R s m args below meth c n0 Q K N h' (k + rm.cells) (n + rm.slots) (mkF m pc' Ls (v.toList ++ rest))) : Go p l e R s m args below meth c n0 Q K N h k n (mkF m pc Ls (argsL.reverse ++ rest)) := by
  obtain ⟨d, rfl⟩ := d
  intro T L hL X eT
  obtain ⟨v, vm₁, ⟨T', L2, k2, n2⟩, -, X', ⟨Lc, hQ, l2, y2, z2⟩, st'⟩ := Jvm.LawKit.callS X C.1 (y := y) C.2.2.1 (mvT C.2.1 w1) (mvT C.2.1 w2) (mvT C.2.1 w3) (mvT C.2.1 w4) hy (backOf (W := W) (Q := fun v h L => Q' v h ∧ Fr n0 L) con C.2.1 w4 w3 r1 r2) (g := mkF m pc Ls (argsL.reverse ++ rest)) rfl (by rw [C.2.2.2.2.1]; exact hsz) (argsL := argsL) (rest := rest) (lenOf hpd hlen) rfl (by show 2 * 0 + _ ≤ _; omega) (hb C.2.2.2.1 d) (fun _ _ => ⟨has.symm, eT, r3, r4⟩)
  dsimp only [Pt.U, Pt.locs, Pt.cells, Pt.slots] at X' l2 y2 z2 st' hQ
  subst l2 y2 z2
  obtain ⟨t, o, h1, h2⟩ := G v T'.heap hQ.1 T' _ (Fr.app hL hQ.2) X' rfl
  exact ⟨t, o, st' t h1, h2⟩
theorem g_callI (C : Cx p s m meth c Z n0 own bytes maxl ret nm) {y : MethodName} {by' : ByteArray} {ml : Nat} {rm : Room} {as : Array Value} {Q' : Option Value → Heap → Prop} (con : Con l Z y by' ml none rm [] as h n0 Q') {i : Nat} (hini : y.name = "<init>") (w1 : (Cond.methodLink own i y).before a0 Z = true) (w2 : (Cond.instanceMethod y).before a0 Z = true) (w3 : (Cond.initialized y.cls).before a0 Z = true) (w4 : (Cond.code y by' ml none).before a0 Z = true) (hy : y.cls ≠ "java/lang/invoke/MethodHandle" ∧ y.cls ≠ "java/lang/invoke/VarHandle")
    (d : In bytes pc 3 (.invokespecial i) pc') {ps : List FieldType} {r : Option FieldType} (hpd : parseMethodDescriptor y.desc = some ⟨ps, r⟩) {a : Addr} (argsL rest : List Value) (has : as = (.ref a :: argsL).toArray) (hlen : argsL.length = ps.length) (hsz : Ls.size = maxl) (W : Nat) (hW : (rest.map fun v => v.category).sum ≤ W) (r1 : rm.frames + 1 ≤ R.frames) (r2 : W + (ml + 11) + rm.locals ≤ R.locals) (r3 : k + rm.cells ≤ R.cells) (r4 : n + rm.slots ≤ R.slots)
    (G : ∀ v h', Q' v h' → Go p l e R s m args below meth c n0 Q K N h' (k + rm.cells) (n + rm.slots) (mkF m pc' Ls (v.toList ++ rest))) : Go p l e R s m args below meth c n0 Q K N h k n (mkF m pc Ls (argsL.reverse ++ .ref a :: rest)) := by
  obtain ⟨d, rfl⟩ := d
  intro T L hL X eT
  obtain ⟨v, vm₁, ⟨T', L2, k2, n2⟩, -, X', ⟨Lc, hQ, l2, y2, z2⟩, st'⟩ := X.specialBack C.1 (y := y) hini C.2.2.1 (mvT C.2.1 w1) (mvT C.2.1 w2) (mvT C.2.1 w4) hy (backOf (W := W) (Q := fun v h L => Q' v h ∧ Fr n0 L) con C.2.1 w4 w3 r1 r2) (g := mkF m pc Ls (argsL.reverse ++ .ref a :: rest)) rfl (by rw [C.2.2.2.2.1]; exact hsz) (Steps.refl _) (a := a) (argsL := argsL) (rest := rest) (lenOf hpd hlen) rfl (by show 2 * 0 + _ ≤ _; omega) (hb C.2.2.2.1 d) (fun _ _ => ⟨has.symm, eT, r3, r4⟩)
  dsimp only [Pt.U, Pt.locs, Pt.cells, Pt.slots] at X' l2 y2 z2 st' hQ
  subst l2 y2 z2
  obtain ⟨t, o, h1, h2⟩ := G v T'.heap hQ.1 T' _ (Fr.app hL hQ.2) X' rfl
  exact ⟨t, o, st'.trans h1, h2⟩
theorem g_callV (C : Cx p s m meth c Z n0 own bytes maxl ret nm) {y : MethodName} {by' : ByteArray} {ml : Nat} {rt : Option FieldType} {rm : Room} {as : Array Value} {Q' : Option Value → Heap → Prop} (con : Con l Z y by' ml rt rm [] as h n0 Q') {i : Nat} (w1 : (Cond.methodLink own i y).before a0 Z = true) (w2 : (Cond.declares y).before a0 Z = true) (w5 : (Cond.instanceMethod y).before a0 Z = true) {K' : String} (w6 : (Cond.selects K' y y).before a0 Z = true) (w3 : (Cond.initialized y.cls).before a0 Z = true) (w4 : (Cond.code y by' ml rt).before a0 Z = true) (hy : y.cls ≠ "java/lang/invoke/MethodHandle" ∧ y.cls ≠ "java/lang/invoke/VarHandle")
    (d : In bytes pc 3 (.invokevirtual i) pc') {ps : List FieldType} {r : Option FieldType} (hpd : parseMethodDescriptor y.desc = some ⟨ps, r⟩) {a : Addr} (E : Exa Z h a K') (argsL rest : List Value) (has : as = (.ref a :: argsL).toArray) (hlen : argsL.length = ps.length) (hsz : Ls.size = maxl) (W : Nat) (hW : (rest.map fun v => v.category).sum ≤ W) (r1 : rm.frames + 1 ≤ R.frames) (r2 : W + (ml + 11) + rm.locals ≤ R.locals) (r3 : k + rm.cells ≤ R.cells) (r4 : n + rm.slots ≤ R.slots)
    (G : ∀ v h', Q' v h' → Go p l e R s m args below meth c n0 Q K N h' (k + rm.cells) (n + rm.slots) (mkF m pc' Ls (v.toList ++ rest))) : Go p l e R s m args below meth c n0 Q K N h k n (mkF m pc Ls (argsL.reverse ++ .ref a :: rest)) := by
  obtain ⟨d, rfl⟩ := d
  intro T L hL X eT
  obtain ⟨cq, kq, q1, q2, q3⟩ := isOf C.2.1 eT E
  obtain ⟨v, vm₁, ⟨T', L2, k2, n2⟩, -, X', ⟨Lc, hQ, l2, y2, z2⟩, st'⟩ := X.virtualBack C.1 (y := y) (z := y) C.2.2.1 (mvT C.2.1 w1) (mvT C.2.1 w2) (notFace_of_selects (args := #[]) (mvT C.2.1 w6)) (mvT C.2.1 w6) (mvT C.2.1 w5) hy (backOf (W := W) (Q := fun v h L => Q' v h ∧ Fr n0 L) con C.2.1 w4 w3 r1 r2) q1 q3 (g := mkF m pc Ls (argsL.reverse ++ .ref a :: rest)) rfl (by rw [C.2.2.2.2.1]; exact hsz) (Steps.refl _) (argsL := argsL) (rest := rest) (lenOf hpd hlen) rfl (by show 2 * 0 + _ ≤ _; omega) (hb C.2.2.2.1 d) (fun _ _ => ⟨has.symm, eT, r3, r4⟩)
  dsimp only [Pt.U, Pt.locs, Pt.cells, Pt.slots] at X' l2 y2 z2 st' hQ
  subst l2 y2 z2
  obtain ⟨t, o, h1, h2⟩ := G v T'.heap hQ.1 T' _ (Fr.app hL hQ.2) X' rfl
  exact ⟨t, o, st'.trans h1, h2⟩
theorem g_callP (C : Cx p s m meth c Z n0 own bytes maxl ret nm) {y : MethodName} {by' : ByteArray} {ml : Nat} {rt : Option FieldType} {rm : Room} {as : Array Value} {Q' : Option Value → Heap → Prop} (con : Con l Z y by' ml rt rm [] as h n0 Q') {i : Nat} (w1 : (Cond.methodLink own i y).before a0 Z = true) (w5 : (Cond.instanceMethod y).before a0 Z = true) {K1 : String} {y1 y2 : MethodName} (w6 : (Cond.selects K1 y1 y2).before a0 Z = true) (hcl : y2.cls = y.cls) (w7 : (Cond.privateMethod y).before a0 Z = true) (w3 : (Cond.initialized y.cls).before a0 Z = true) (w4 : (Cond.code y by' ml rt).before a0 Z = true) (hy : y.cls ≠ "java/lang/invoke/MethodHandle" ∧ y.cls ≠ "java/lang/invoke/VarHandle")
    (d : In bytes pc 3 (.invokevirtual i) pc') {ps : List FieldType} {r : Option FieldType} (hpd : parseMethodDescriptor y.desc = some ⟨ps, r⟩) {a : Addr} {K' : String} (E : Exa Z h a K') (argsL rest : List Value) (has : as = (.ref a :: argsL).toArray) (hlen : argsL.length = ps.length) (hsz : Ls.size = maxl) (W : Nat) (hW : (rest.map fun v => v.category).sum ≤ W) (r1 : rm.frames + 1 ≤ R.frames) (r2 : W + (ml + 11) + rm.locals ≤ R.locals) (r3 : k + rm.cells ≤ R.cells) (r4 : n + rm.slots ≤ R.slots)
    (G : ∀ v h', Q' v h' → Go p l e R s m args below meth c n0 Q K N h' (k + rm.cells) (n + rm.slots) (mkF m pc' Ls (v.toList ++ rest))) : Go p l e R s m args below meth c n0 Q K N h k n (mkF m pc Ls (argsL.reverse ++ .ref a :: rest)) := by
  obtain ⟨d, rfl⟩ := d
  intro T L hL X eT
  obtain ⟨cq, q1, q2⟩ := E.cell
  have hin : (Cond.instanceMethod y).before args s = true := mvT C.2.1 w5
  have hco : (Cond.code y by' ml rt).before args s = true := mvT C.2.1 w4
  have hse : (Cond.selects K1 y1 y2).before args s = true := mvT C.2.1 w6
  obtain ⟨mk, mM, hnm, hmM, hst, hab⟩ := Cond.instanceMethod_spec hin
  obtain ⟨mM', cM, hmM', -, -, -, -, -, -, hsg⟩ := Cond.code_spec hnm hco
  cases hmM.symm.trans hmM'
  obtain ⟨c2, rr2, m2, -, -, q3, -, kP, hkP, hkI⟩ := Cond.selects_spec hse
  have hcl2 : mk.cls = m2.cls := by
    have u1 := findClass_of_methodNamed hnm
    have u2 := findClass_of_methodNamed q3
    rw [hcl] at u2
    exact Option.some.inj (u1.symm.trans u2)
  rw [← hcl2] at hkP
  have hsl : selectMethod e.platform s.vm cq.cls mk = .method mk := selectMethod_private hmM (Cond.privateMethod_at (mvP C.2.1 w7 (args := #[])) mk mM hnm hmM)
  obtain ⟨vm₁, X₁, hs₁⟩ := X.invokevirtual C.1 C.2.2.1 (mvT C.2.1 w1) hnm hmM hst hkP hkI hy (a := a) (cell := cq) (by rw [eT]; exact q1) q2 hsl hmM hab hkP hkI (g := mkF m pc Ls (argsL.reverse ++ .ref a :: rest)) rfl (argsL := argsL) (rest := rest) (lenOf hpd hlen _ hsg) rfl (hb C.2.2.2.1 d)
  have hB := backOf (W := W) (Q := fun v h L => Q' v h ∧ Fr n0 L) (R := R) (p := p) (e := e) (below := below) (args := args) (len := 3) con C.2.1 w4 w3 r1 r2
  obtain ⟨v, ⟨T', L2, k2, n2⟩, X', ⟨Lc, hQ, l2, y2', z2⟩, st'⟩ := hB m meth c ⟨T.setVm vm₁, L, k, n⟩ (mkF m pc Ls rest) (.invokevirtual i) mk (.ref a :: argsL).toArray X₁ rfl (by rw [C.2.2.2.2.1]; exact hsz) (hb C.2.2.2.1 d) (by show 2 * 0 + (rest.map fun v => v.category).sum ≤ W; omega) (X₁.named hnm) ⟨has.symm, eT, r3, r4⟩
  dsimp only [Pt.U, Pt.locs, Pt.cells, Pt.slots] at X' l2 y2' z2 st' hQ
  subst l2 y2' z2
  obtain ⟨t, o, h1, h2⟩ := G v T'.heap hQ.1 T' _ (Fr.app hL hQ.2) X' rfl
  exact ⟨t, o, (hs₁ _ fun acts => by rw [doInvoke_state]; exact Steps.refl _).trans (st'.trans h1), h2⟩
/-- an array of z places at a, whose contents are f -/
def LArr (Z : State) (h : Heap) (a : Addr) (z : Nat) (f : Nat → Int64) : Prop := ∃ c : Cell, Arr Z h a c .long ∧ c.slots.size = z ∧ z < 2 ^ 31 ∧ ∀ i, i < z → c.slots[i]? = some (.long (f i))
theorem LArr.lt {a : Addr} {z : Nat} {f : Nat → Int64} (A : LArr Z h a z f) : a < h.size := by obtain ⟨c, A, -⟩ := A; exact A.lt
theorem LArr.ext {h' : Heap} {a : Addr} {z : Nat} {f : Nat → Int64} (A : LArr Z h a z f) (E : Ext h h') : LArr Z h' a z f := by obtain ⟨c, A, r⟩ := A; exact ⟨c, A.ext E, r⟩
theorem LArr.other {h' : Heap} {a b : Addr} {sl : Nat} {v : Value} {z : Nat} {f : Nat → Int64} (A : LArr Z h b z f) (W : Wr h h' a sl v) (q : b ≠ a) : LArr Z h' b z f := by obtain ⟨c, A, r⟩ := A; exact ⟨c, A.other W q, r⟩
theorem LArr.keep {h' : Heap} {a : Addr} {ws : List Addr} {z : Nat} {f : Nat → Int64} (A : LArr Z h a z f) (K : Keep h h' ws) (q : a ∉ ws) : LArr Z h' a z f := by obtain ⟨c, A, r⟩ := A; exact ⟨c, ⟨K.2.1 a c A.1 q, A.2⟩, r⟩
theorem LArr.congr {a : Addr} {z : Nat} {f g : Nat → Int64} (A : LArr Z h a z f) (q : ∀ i, i < z → g i = f i) : LArr Z h a z g := by obtain ⟨c, A, r1, r2, r3⟩ := A; exact ⟨c, A, r1, r2, fun i hi => by rw [q i hi]; exact r3 i hi⟩
theorem LArr.new {a : Addr} {kA : ClassId} {z : Int32} (A : Arr Z h a (newA kA .long z) .long) : LArr Z h a z.toNatClampNeg (fun _ => 0) :=
  ⟨_, A, sz_new _ _ _, z.toNatClampNeg_lt, fun i hi => by simp [newA, hi, defaultValue]⟩
theorem LArr.set {h' : Heap} {a : Addr} {z j : Nat} {x : Int64} {f : Nat → Int64} (A : LArr Z h a z f) (W : Wr h h' a j (.long x)) : LArr Z h' a z (fun i => if i = j then x else f i) := by
  obtain ⟨c, A, r1, r2, r3⟩ := A
  refine ⟨_, A.same W, by simp [Cell.setSlot, r1], r2, fun i hi => ?_⟩
  by_cases q : i = j
  · subst q
    simp [Cell.setSlot, r1, hi]
  · simp only [q, if_false]
    rw [← r3 i hi]
    exact Array.getElem?_setIfInBounds_ne (Ne.symm q)
theorem g_laload (C : Cx p s m meth c Z n0 own bytes maxl ret nm) (d : In bytes pc 1 .laload pc') {a : Addr} {z : Nat} {f : Nat → Int64} {j : Int32} (A : LArr Z h a z f) (h1 : 0 ≤ j.toInt) (h2 : j.toInt < z) (v : Int64) (hv : f j.toInt.toNat = v) (G : Go p l e R s m args below meth c n0 Q K N h k n (mkF m pc' Ls (.long v :: st))) : Go p l e R s m args below meth c n0 Q K N h k n (mkF m pc Ls (.int j :: .ref a :: st)) := by
  obtain ⟨d, rfl⟩ := d
  obtain ⟨cl, A, r1, r2, r3⟩ := A
  have e1 : j.toNatClampNeg = j.toInt.toNat := rfl
  have hj : ¬ (j < 0 ∨ cl.slots.size ≤ j.toNatClampNeg) := by
    rw [Int32.lt_iff_toInt_lt, show (0 : Int32).toInt = 0 from rfl, r1, e1]; omega
  have hat : cl.slots[j.toNatClampNeg]? = some (.long v) := by rw [← hv, e1]; exact r3 _ (by omega)
  exact g_st (fun X eT t kt => X.laload C.1 (j := j) (v := .long v) (by rw [eT]; exact A.1) (State.isArrayOf_alike C.2.1.alike A.2.1) A.2.2 hj hat (g := mkF m pc Ls (.int j :: .ref a :: st)) rfl rfl (hb C.2.2.2.1 d) _ kt) G
theorem g_lastore (C : Cx p s m meth c Z n0 own bytes maxl ret nm) (d : In bytes pc 1 .lastore pc') {a : Addr} {z : Nat} {f : Nat → Int64} {j : Int32} {x : Int64} (A : LArr Z h a z f) (h1 : 0 ≤ j.toInt) (h2 : j.toInt < z) (ge : n0 ≤ a) (G : ∀ h', Wr h h' a j.toInt.toNat (.long x) → Go p l e R s m args below meth c n0 Q K N h' k n (mkF m pc' Ls st)) : Go p l e R s m args below meth c n0 Q K N h k n (mkF m pc Ls (.long x :: .int j :: .ref a :: st)) := by
  obtain ⟨d, rfl⟩ := d
  obtain ⟨cl, A, r1, r2, r3⟩ := A
  have e1 : j.toNatClampNeg = j.toInt.toNat := rfl
  have hj : ¬ (j < 0 ∨ cl.slots.size ≤ j.toNatClampNeg) := by
    rw [Int32.lt_iff_toInt_lt, show (0 : Int32).toInt = 0 from rfl, r1, e1]; omega
  intro T L hL X eT
  obtain ⟨T', h', X', e', W', st'⟩ := stJ X C.1 C.2.1 eT A (j := j) hj (g := mkF m pc Ls (.long x :: .int j :: .ref a :: st)) rfl rfl (hb C.2.2.2.1 d)
  obtain ⟨t, o, h1, h2⟩ := G h' W' T' _ (Fr.snoc X' hL ge) X' e'
  exact ⟨t, o, st' t h1, h2⟩
theorem g_lenLArr (C : Cx p s m meth c Z n0 own bytes maxl ret nm) (d : In bytes pc 1 .arraylength pc') {a : Addr} {z : Nat} {f : Nat → Int64} (A : LArr Z h a z f) (v : Int32) (hv : v = Int32.ofNat z) (G : Go p l e R s m args below meth c n0 Q K N h k n (mkF m pc' Ls (.int v :: st))) : Go p l e R s m args below meth c n0 Q K N h k n (mkF m pc Ls (.ref a :: st)) := by
  obtain ⟨d, rfl⟩ := d
  obtain ⟨cl, A, r1, r2, r3⟩ := A
  refine g_st (fun X eT t kt => X.arraylength C.1 (by rw [eT]; exact A.1) (State.isArrayOf_alike C.2.1.alike A.2.1) (g := mkF m pc Ls (.ref a :: st)) rfl rfl (hb C.2.2.2.1 d) _ ?_) G
  rw [r1]
  subst hv
  exact kt
/-- an array of z places at a, whose contents are f -/
def IArr (Z : State) (h : Heap) (a : Addr) (z : Nat) (f : Nat → Int32) : Prop := ∃ c : Cell, Arr Z h a c .int ∧ c.slots.size = z ∧ z < 2 ^ 31 ∧ ∀ i, i < z → c.slots[i]? = some (.int (f i))
theorem IArr.lt {a : Addr} {z : Nat} {f : Nat → Int32} (A : IArr Z h a z f) : a < h.size := by obtain ⟨c, A, -⟩ := A; exact A.lt
theorem IArr.ext {h' : Heap} {a : Addr} {z : Nat} {f : Nat → Int32} (A : IArr Z h a z f) (E : Ext h h') : IArr Z h' a z f := by obtain ⟨c, A, r⟩ := A; exact ⟨c, A.ext E, r⟩
theorem IArr.other {h' : Heap} {a b : Addr} {sl : Nat} {v : Value} {z : Nat} {f : Nat → Int32} (A : IArr Z h b z f) (W : Wr h h' a sl v) (q : b ≠ a) : IArr Z h' b z f := by obtain ⟨c, A, r⟩ := A; exact ⟨c, A.other W q, r⟩
theorem IArr.keep {h' : Heap} {a : Addr} {ws : List Addr} {z : Nat} {f : Nat → Int32} (A : IArr Z h a z f) (K : Keep h h' ws) (q : a ∉ ws) : IArr Z h' a z f := by obtain ⟨c, A, r⟩ := A; exact ⟨c, ⟨K.2.1 a c A.1 q, A.2⟩, r⟩
theorem IArr.congr {a : Addr} {z : Nat} {f g : Nat → Int32} (A : IArr Z h a z f) (q : ∀ i, i < z → g i = f i) : IArr Z h a z g := by obtain ⟨c, A, r1, r2, r3⟩ := A; exact ⟨c, A, r1, r2, fun i hi => by rw [q i hi]; exact r3 i hi⟩
theorem IArr.new {a : Addr} {kA : ClassId} {z : Int32} (A : Arr Z h a (newA kA .int z) .int) : IArr Z h a z.toNatClampNeg (fun _ => 0) :=
  ⟨_, A, sz_new _ _ _, z.toNatClampNeg_lt, fun i hi => by simp [newA, hi, defaultValue]⟩
theorem IArr.set {h' : Heap} {a : Addr} {z j : Nat} {x : Int32} {f : Nat → Int32} (A : IArr Z h a z f) (W : Wr h h' a j (.int x)) : IArr Z h' a z (fun i => if i = j then x else f i) := by
  obtain ⟨c, A, r1, r2, r3⟩ := A
  refine ⟨_, A.same W, by simp [Cell.setSlot, r1], r2, fun i hi => ?_⟩
  by_cases q : i = j
  · subst q
    simp [Cell.setSlot, r1, hi]
  · simp only [q, if_false]
    rw [← r3 i hi]
    exact Array.getElem?_setIfInBounds_ne (Ne.symm q)
theorem g_iaload (C : Cx p s m meth c Z n0 own bytes maxl ret nm) (d : In bytes pc 1 .iaload pc') {a : Addr} {z : Nat} {f : Nat → Int32} {j : Int32} (A : IArr Z h a z f) (h1 : 0 ≤ j.toInt) (h2 : j.toInt < z) (v : Int32) (hv : f j.toInt.toNat = v) (G : Go p l e R s m args below meth c n0 Q K N h k n (mkF m pc' Ls (.int v :: st))) : Go p l e R s m args below meth c n0 Q K N h k n (mkF m pc Ls (.int j :: .ref a :: st)) := by
  obtain ⟨d, rfl⟩ := d
  obtain ⟨cl, A, r1, r2, r3⟩ := A
  have e1 : j.toNatClampNeg = j.toInt.toNat := rfl
  have hj : ¬ (j < 0 ∨ cl.slots.size ≤ j.toNatClampNeg) := by
    rw [Int32.lt_iff_toInt_lt, show (0 : Int32).toInt = 0 from rfl, r1, e1]; omega
  have hat : cl.slots[j.toNatClampNeg]? = some (.int v) := by rw [← hv, e1]; exact r3 _ (by omega)
  exact g_st (fun X eT t kt => X.iaload C.1 (j := j) (v := .int v) (by rw [eT]; exact A.1) (State.isArrayOf_alike C.2.1.alike A.2.1) A.2.2 hj hat (g := mkF m pc Ls (.int j :: .ref a :: st)) rfl rfl (hb C.2.2.2.1 d) _ kt) G
theorem g_iastore (C : Cx p s m meth c Z n0 own bytes maxl ret nm) (d : In bytes pc 1 .iastore pc') {a : Addr} {z : Nat} {f : Nat → Int32} {j : Int32} {x : Int32} (A : IArr Z h a z f) (h1 : 0 ≤ j.toInt) (h2 : j.toInt < z) (ge : n0 ≤ a) (G : ∀ h', Wr h h' a j.toInt.toNat (.int x) → Go p l e R s m args below meth c n0 Q K N h' k n (mkF m pc' Ls st)) : Go p l e R s m args below meth c n0 Q K N h k n (mkF m pc Ls (.int x :: .int j :: .ref a :: st)) := by
  obtain ⟨d, rfl⟩ := d
  obtain ⟨cl, A, r1, r2, r3⟩ := A
  have e1 : j.toNatClampNeg = j.toInt.toNat := rfl
  have hj : ¬ (j < 0 ∨ cl.slots.size ≤ j.toNatClampNeg) := by
    rw [Int32.lt_iff_toInt_lt, show (0 : Int32).toInt = 0 from rfl, r1, e1]; omega
  intro T L hL X eT
  obtain ⟨T', h', X', e', W', st'⟩ := stI X C.1 C.2.1 eT A (j := j) hj (g := mkF m pc Ls (.int x :: .int j :: .ref a :: st)) rfl rfl (hb C.2.2.2.1 d)
  obtain ⟨t, o, h1, h2⟩ := G h' W' T' _ (Fr.snoc X' hL ge) X' e'
  exact ⟨t, o, st' t h1, h2⟩
theorem g_lenIArr (C : Cx p s m meth c Z n0 own bytes maxl ret nm) (d : In bytes pc 1 .arraylength pc') {a : Addr} {z : Nat} {f : Nat → Int32} (A : IArr Z h a z f) (v : Int32) (hv : v = Int32.ofNat z) (G : Go p l e R s m args below meth c n0 Q K N h k n (mkF m pc' Ls (.int v :: st))) : Go p l e R s m args below meth c n0 Q K N h k n (mkF m pc Ls (.ref a :: st)) := by
  obtain ⟨d, rfl⟩ := d
  obtain ⟨cl, A, r1, r2, r3⟩ := A
  refine g_st (fun X eT t kt => X.arraylength C.1 (by rw [eT]; exact A.1) (State.isArrayOf_alike C.2.1.alike A.2.1) (g := mkF m pc Ls (.ref a :: st)) rfl rfl (hb C.2.2.2.1 d) _ ?_) G
  rw [r1]
  subst hv
  exact kt
/-- an array of z places at a, whose contents are f -/
def BArr (Z : State) (h : Heap) (a : Addr) (z : Nat) (f : Nat → Int32) : Prop := ∃ c : Cell, Arr Z h a c .byte ∧ c.slots.size = z ∧ z < 2 ^ 31 ∧ ∀ i, i < z → c.slots[i]? = some (.int (f i))
theorem BArr.lt {a : Addr} {z : Nat} {f : Nat → Int32} (A : BArr Z h a z f) : a < h.size := by obtain ⟨c, A, -⟩ := A; exact A.lt
theorem BArr.ext {h' : Heap} {a : Addr} {z : Nat} {f : Nat → Int32} (A : BArr Z h a z f) (E : Ext h h') : BArr Z h' a z f := by obtain ⟨c, A, r⟩ := A; exact ⟨c, A.ext E, r⟩
theorem BArr.other {h' : Heap} {a b : Addr} {sl : Nat} {v : Value} {z : Nat} {f : Nat → Int32} (A : BArr Z h b z f) (W : Wr h h' a sl v) (q : b ≠ a) : BArr Z h' b z f := by obtain ⟨c, A, r⟩ := A; exact ⟨c, A.other W q, r⟩
theorem BArr.keep {h' : Heap} {a : Addr} {ws : List Addr} {z : Nat} {f : Nat → Int32} (A : BArr Z h a z f) (K : Keep h h' ws) (q : a ∉ ws) : BArr Z h' a z f := by obtain ⟨c, A, r⟩ := A; exact ⟨c, ⟨K.2.1 a c A.1 q, A.2⟩, r⟩
theorem BArr.congr {a : Addr} {z : Nat} {f g : Nat → Int32} (A : BArr Z h a z f) (q : ∀ i, i < z → g i = f i) : BArr Z h a z g := by obtain ⟨c, A, r1, r2, r3⟩ := A; exact ⟨c, A, r1, r2, fun i hi => by rw [q i hi]; exact r3 i hi⟩
theorem BArr.new {a : Addr} {kA : ClassId} {z : Int32} (A : Arr Z h a (newA kA .byte z) .byte) : BArr Z h a z.toNatClampNeg (fun _ => 0) :=
  ⟨_, A, sz_new _ _ _, z.toNatClampNeg_lt, fun i hi => by simp [newA, hi, defaultValue]⟩
theorem BArr.set {h' : Heap} {a : Addr} {z j : Nat} {x : Int32} {f : Nat → Int32} (A : BArr Z h a z f) (W : Wr h h' a j (.int x)) : BArr Z h' a z (fun i => if i = j then x else f i) := by
  obtain ⟨c, A, r1, r2, r3⟩ := A
  refine ⟨_, A.same W, by simp [Cell.setSlot, r1], r2, fun i hi => ?_⟩
  by_cases q : i = j
  · subst q
    simp [Cell.setSlot, r1, hi]
  · simp only [q, if_false]
    rw [← r3 i hi]
    exact Array.getElem?_setIfInBounds_ne (Ne.symm q)
theorem g_baload (C : Cx p s m meth c Z n0 own bytes maxl ret nm) (d : In bytes pc 1 .baload pc') {a : Addr} {z : Nat} {f : Nat → Int32} {j : Int32} (A : BArr Z h a z f) (h1 : 0 ≤ j.toInt) (h2 : j.toInt < z) (v : Int32) (hv : f j.toInt.toNat = v) (G : Go p l e R s m args below meth c n0 Q K N h k n (mkF m pc' Ls (.int v :: st))) : Go p l e R s m args below meth c n0 Q K N h k n (mkF m pc Ls (.int j :: .ref a :: st)) := by
  obtain ⟨d, rfl⟩ := d
  obtain ⟨cl, A, r1, r2, r3⟩ := A
  have e1 : j.toNatClampNeg = j.toInt.toNat := rfl
  have hj : ¬ (j < 0 ∨ cl.slots.size ≤ j.toNatClampNeg) := by
    rw [Int32.lt_iff_toInt_lt, show (0 : Int32).toInt = 0 from rfl, r1, e1]; omega
  have hat : cl.slots[j.toNatClampNeg]? = some (.int v) := by rw [← hv, e1]; exact r3 _ (by omega)
  exact g_st (fun X eT t kt => X.baloadBytes C.1 (j := j) (v := .int v) (by rw [eT]; exact A.1) (State.isArrayOf_alike C.2.1.alike A.2.1) A.2.2 hj hat (g := mkF m pc Ls (.int j :: .ref a :: st)) rfl rfl (hb C.2.2.2.1 d) _ kt) G
theorem g_bastore (C : Cx p s m meth c Z n0 own bytes maxl ret nm) (d : In bytes pc 1 .bastore pc') {a : Addr} {z : Nat} {f : Nat → Int32} {j : Int32} {x : Int32} (A : BArr Z h a z f) (h1 : 0 ≤ j.toInt) (h2 : j.toInt < z) (ge : n0 ≤ a) (G : ∀ h', Wr h h' a j.toInt.toNat (.int x.toInt8.toInt32) → Go p l e R s m args below meth c n0 Q K N h' k n (mkF m pc' Ls st)) : Go p l e R s m args below meth c n0 Q K N h k n (mkF m pc Ls (.int x :: .int j :: .ref a :: st)) := by
  obtain ⟨d, rfl⟩ := d
  obtain ⟨cl, A, r1, r2, r3⟩ := A
  have e1 : j.toNatClampNeg = j.toInt.toNat := rfl
  have hj : ¬ (j < 0 ∨ cl.slots.size ≤ j.toNatClampNeg) := by
    rw [Int32.lt_iff_toInt_lt, show (0 : Int32).toInt = 0 from rfl, r1, e1]; omega
  intro T L hL X eT
  obtain ⟨T', h', X', e', W', st'⟩ := stB X C.1 C.2.1 eT A (j := j) hj (g := mkF m pc Ls (.int x :: .int j :: .ref a :: st)) rfl rfl (hb C.2.2.2.1 d)
  obtain ⟨t, o, h1, h2⟩ := G h' W' T' _ (Fr.snoc X' hL ge) X' e'
  exact ⟨t, o, st' t h1, h2⟩
theorem g_lenBArr (C : Cx p s m meth c Z n0 own bytes maxl ret nm) (d : In bytes pc 1 .arraylength pc') {a : Addr} {z : Nat} {f : Nat → Int32} (A : BArr Z h a z f) (v : Int32) (hv : v = Int32.ofNat z) (G : Go p l e R s m args below meth c n0 Q K N h k n (mkF m pc' Ls (.int v :: st))) : Go p l e R s m args below meth c n0 Q K N h k n (mkF m pc Ls (.ref a :: st)) := by
  obtain ⟨d, rfl⟩ := d
  obtain ⟨cl, A, r1, r2, r3⟩ := A
  refine g_st (fun X eT t kt => X.arraylength C.1 (by rw [eT]; exact A.1) (State.isArrayOf_alike C.2.1.alike A.2.1) (g := mkF m pc Ls (.ref a :: st)) rfl rfl (hb C.2.2.2.1 d) _ ?_) G
  rw [r1]
  subst hv
  exact kt
/-- nothing below lo was written -/
def KL (lo : Nat) (h h' : Heap) : Prop := h.size ≤ h'.size ∧ ∀ (x : Addr) (c : Cell), x < lo → h[x]? = some c → h'[x]? = some c
theorem KL.refl (lo : Nat) (h : Heap) : KL lo h h := ⟨Nat.le_refl _, fun _ _ _ q => q⟩
theorem KL.trans {lo : Nat} {h h1 h2 : Heap} (A : KL lo h h1) (B : KL lo h1 h2) : KL lo h h2 := ⟨Nat.le_trans A.1 B.1, fun x c q r => B.2 x c q (A.2 x c q r)⟩
theorem KL.mono {lo lo' : Nat} {h h1 : Heap} (A : KL lo h h1) (q : lo' ≤ lo) : KL lo' h h1 := ⟨A.1, fun x c r z => A.2 x c (Nat.lt_of_lt_of_le r q) z⟩
theorem KL.ext {lo : Nat} {h h1 h2 : Heap} (A : KL lo h h1) (E : Ext h1 h2) : KL lo h h2 := ⟨Nat.le_trans A.1 E.1, fun x c q r => E.2 x c (A.2 x c q r)⟩
theorem KL.wr {lo : Nat} {h h1 h2 : Heap} {a : Addr} {sl : Nat} {v : Value} (A : KL lo h h1) (W : Wr h1 h2 a sl v) (q : lo ≤ a) : KL lo h h2 :=
  A.trans ⟨(Keep.of_wr W).1, fun x c r z => (Keep.of_wr W).2.1 x c z (fun y => by cases List.mem_singleton.mp y; exact absurd r (Nat.not_lt.mpr q))⟩
theorem KL.keep {lo : Nat} {h h1 h2 : Heap} {ws : List Addr} (A : KL lo h h1) (K : Keep h1 h2 ws) (q : ∀ x ∈ ws, lo ≤ x) : KL lo h h2 :=
  A.trans ⟨K.1, fun x c r z => K.2.1 x c z (fun y => absurd r (Nat.not_lt.mpr (q x y)))⟩
theorem LArr.kl {h' : Heap} {a : Addr} {z lo : Nat} {f : Nat → Int64} (A : LArr Z h a z f) (K : KL lo h h') (q : a < lo) : LArr Z h' a z f := by obtain ⟨c, A, r⟩ := A; exact ⟨c, ⟨K.2 a c q A.1, A.2⟩, r⟩
theorem IArr.kl {h' : Heap} {a : Addr} {z lo : Nat} {f : Nat → Int32} (A : IArr Z h a z f) (K : KL lo h h') (q : a < lo) : IArr Z h' a z f := by obtain ⟨c, A, r⟩ := A; exact ⟨c, ⟨K.2 a c q A.1, A.2⟩, r⟩
theorem Fld.kl {h' : Heap} {a : Addr} {lo : Nat} {C n d : String} {v : Value} (F : Fld Z h a C n d v) (K : KL lo h h') (q : a < lo) : Fld Z h' a C n d v := by obtain ⟨cell, cf, k, i, f, h1, r⟩ := F; exact ⟨cell, cf, k, i, f, K.2 _ _ q h1, r⟩
theorem Exa.kl {h' : Heap} {a : Addr} {lo : Nat} {C : String} (F : Exa Z h a C) (K : KL lo h h') (q : a < lo) : Exa Z h' a C := by obtain ⟨cell, k, h1, r⟩ := F; exact ⟨cell, k, K.2 _ _ q h1, r⟩
/-- an array of ints as the library's copying law takes it -/
theorem IArr.arv {a : Addr} {z : Nat} {f : Nat → Int32} (A : IArr Z h a z f) : ∃ k, Arv Z h a k .int (Int32.ofNat z) ((List.range z).map fun i => Value.int (f i)) (.int 0) := by
  obtain ⟨c, A, r1, r2, r3⟩ := A
  have e1 : (Int32.ofNat z).toInt = z := Int32.toInt_ofNat_of_lt r2
  have e2 : (Int32.ofNat z).toNatClampNeg = z := by show (Int32.ofNat z).toInt.toNat = z; omega
  have g1 : ∀ i, i < z → ((List.range z).map fun i => Value.int (f i)).getD i (.int 0) = .int (f i) := fun i hi => by simp [hi]
  refine ⟨c.cls, c, A, rfl, by rw [r1, e2], by rw [Int32.lt_iff_toInt_lt, e1]; show ¬ ((z : Int) < 0); omega, fun i hi => ?_, fun i hi => ?_⟩
  · rw [r1] at hi; rw [g1 i hi]; exact r3 i hi
  · rw [r1] at hi; rw [g1 i hi]; rfl
theorem IArr.of_arv {a : Addr} {k : ClassId} {z : Nat} {f : Nat → Int32} {vs : List Value} (hz : z < 2 ^ 31) (A : Arv Z h a k .int (Int32.ofNat z) vs (.int 0)) (q : ∀ i, i < z → vs.getD i (.int 0) = .int (f i)) : IArr Z h a z f := by
  obtain ⟨c, A, -, r2, -, r4, -⟩ := A
  have e1 : (Int32.ofNat z).toInt = z := Int32.toInt_ofNat_of_lt hz
  have e2 : (Int32.ofNat z).toNatClampNeg = z := by show (Int32.ofNat z).toInt.toNat = z; omega
  rw [e2] at r2
  exact ⟨c, A, r2, hz, fun i hi => by rw [← q i hi]; exact r4 i (by omega)⟩
theorem g_acopy (C : Cx p s m meth c Z n0 own bytes maxl ret nm) {i : Nat} (w1 : (Cond.methodLink own i Jvm.Stand.acN).before a0 Z = true) (w2 : (Cond.native Jvm.Stand.acN).before a0 Z = true) (w3 : (Cond.static Jvm.Stand.acN).before a0 Z = true) (w4 : (Cond.initialized "java/lang/System").before a0 Z = true) (d : In bytes pc 3 (.invokestatic i) pc') {a b : Addr} {z z' : Nat} {f f' : Nat → Int32}
    (A : IArr Z h a z f) (B : IArr Z h b z' f') (hzz : z ≤ z') (nn : Int32) (hnn : nn.toInt = z) (ge : n0 ≤ b) (hsz : Ls.size = maxl) (hf : 1 ≤ R.frames) (W : Nat) (hW : (st.map fun v => v.category).sum ≤ W) (hlo : W + (nativeFrameWords "java/lang/System" "arraycopy" 5 + 11) ≤ R.locals)
    (G : ∀ h', Keep h h' [b] → IArr Z h' b z' (fun i => if i < z then f i else f' i) → Go p l e R s m args below meth c n0 Q K N h' k n (mkF m pc' Ls st)) : Go p l e R s m args below meth c n0 Q K N h k n (mkF m pc Ls (.int nn :: .int 0 :: .ref b :: .int 0 :: .ref a :: st)) := by
  obtain ⟨d, rfl⟩ := d
  intro T L hL X eT
  obtain ⟨k1, A1⟩ := A.arv
  obtain ⟨k2, B1⟩ := B.arv
  have hz' : z' < 2 ^ 31 := by obtain ⟨_, _, _, r, _⟩ := B; exact r
  have e1 : (Int32.ofNat z).toNatClampNeg = z := by show (Int32.ofNat z).toInt.toNat = z; rw [Int32.toInt_ofNat_of_lt (by omega)]; omega
  have e2 : (Int32.ofNat z').toNatClampNeg = z' := by show (Int32.ofNat z').toInt.toNat = z'; rw [Int32.toInt_ofNat_of_lt (by omega)]; omega
  have e3 : nn.toNatClampNeg = z := by show nn.toInt.toNat = z; omega
  have e0 : (0 : Int32).toNatClampNeg = 0 := rfl
  obtain ⟨T', h', L', X', e', N', K', V', st'⟩ := cpA X C.1 C.2.1 C.2.2.1 w1 w2 w3 w4 eT (sp := 0) (dp := 0) (nn := nn) A1 B1 (Or.inl ⟨rfl, rfl⟩) (by decide) (by decide) (by rw [Int32.lt_iff_toInt_lt, hnn]; show ¬ ((z : Int) < 0); omega) (by rw [e0, e1, e3]; omega) (by rw [e0, e2, e3]; omega) rfl (by rw [e0, e3]; simp; omega) hL ge (g := mkF m pc Ls (.int nn :: .int 0 :: .ref b :: .int 0 :: .ref a :: st)) rfl (by rw [C.2.2.2.2.1]; exact hsz) rfl (hb C.2.2.2.1 d) hf (W := W) (by show 2 * 0 + _ ≤ _; omega) hlo
  have V2 : IArr Z h' b z' (fun i => if i < z then f i else f' i) := by
    refine IArr.of_arv hz' V' (fun i hi => ?_)
    rw [e0, e3]
    by_cases q : i < z
    · simp [q, List.getD_eq_getElem?_getD, List.getElem?_append]
    · simp [q, hi, List.getD_eq_getElem?_getD, List.getElem?_append, show z + (i - z) = i by omega, show i - z < z' - z by omega]
  obtain ⟨t, o, h1, h2⟩ := G h' K' V2 T' _ N' X' e'
  exact ⟨t, o, st' t h1, h2⟩
theorem g_join {ι : Type} (hh : ι → Heap) (k' n' : Nat) (f : ι → JFrame) (P : ι → Prop) {f0 : JFrame} (H : (∀ x, P x → Go p l e R s m args below meth c n0 Q K N (hh x) (k') (n') ((f x))) → Go p l e R s m args below meth c n0 Q K N h k n f0) (G : ∀ x, P x → Go p l e R s m args below meth c n0 Q K N (hh x) (k') (n') ((f x))) : Go p l e R s m args below meth c n0 Q K N h k n f0 := H G
theorem g_loop {ι : Type} (hh : ι → Heap) (f : ι → JFrame) (P : ι → Prop) (μ : ι → Nat) (step : ∀ x, P x → (∀ y, P y → μ y < μ x → Go p l e R s m args below meth c n0 Q K N (hh y) k n ((f y))) → Go p l e R s m args below meth c n0 Q K N (hh x) k n ((f x))) : ∀ x, P x → Go p l e R s m args below meth c n0 Q K N (hh x) k n ((f x)) := by
  intro x
  generalize hm : μ x = t
  induction t using Nat.strongRecOn generalizing x with
  | _ t ih => exact fun hx => step x hx fun y hy hlt => ih (μ y) (by omega) y rfl hy
end Kit
def up {α : Type} (f : Nat → α) (j : Nat) (x : α) : Nat → α := fun i => if i = j then x else f i
theorem up_at {α : Type} (f : Nat → α) (j : Nat) (x : α) : up f j x j = x := if_pos rfl
theorem up_ne {α : Type} (f : Nat → α) {j i : Nat} (x : α) (h : ¬ i = j) : up f j x i = f i := if_neg h
/-- where the search for an id starts among n places -/
def placeJ (id : Int64) (n : Int32) : Int32 := (ushrJ ((ushrJ (id * (-7046029254386353131)) 32) * n.toInt64) 32).toInt32
theorem place_rng (id : Int64) : 0 ≤ (placeJ id 16).toInt ∧ (placeJ id 16).toInt < 16 := by
  unfold placeJ
  have h1 : (ushrJ (id * (-7046029254386353131)) 32).toInt = ((id * (-7046029254386353131)).toInt % 18446744073709551616) / (2 ^ 32 : Nat) := c_lushr _ 32 32 (by decide) (by decide)
  generalize ushrJ (id * (-7046029254386353131)) 32 = x at *
  have r0 := rng64 (id * (-7046029254386353131))
  have h2 := c_lmul x (16 : Int32).toInt64
  have e16 : (16 : Int32).toInt64.toInt = 16 := rfl
  rw [e16] at h2
  have r1 := rng64 (x * (16 : Int32).toInt64)
  have h3 : (ushrJ (x * (16 : Int32).toInt64) 32).toInt = ((x * (16 : Int32).toInt64).toInt % 18446744073709551616) / (2 ^ 32 : Nat) := c_lushr _ 32 32 (by decide) (by decide)
  generalize x * (16 : Int32).toInt64 = y at *
  have h4 := c_l2i (ushrJ y 32)
  have r2 := rng32 (ushrJ y 32).toInt32
  have h5 : 0 ≤ x.toInt ∧ x.toInt < 4294967296 := by omega
  have h6 : 0 ≤ (ushrJ y 32).toInt ∧ (ushrJ y 32).toInt < 16 := by
    have : y.toInt = x.toInt * 16 := by omega
    omega
  omega
def home (id : Int64) : Nat := (placeJ id 16).toInt.toNat
theorem home_lt (id : Int64) : home id < 16 := by have := place_rng id; unfold home; omega
theorem neg_ne {x : Int64} (h : 0 ≤ x.toInt) : ¬ x = -1 := fun z => by rw [z] at h; exact absurd h (by decide)
/-- the index, without a heap: direct's length and contents, the table's ids and numbers, how many are hashed, how many are numbered, their ids, numbers and places -/
def INV (z : Nat) (f : Nat → Int32) (g : Nat → Int64) (q : Nat → Int32) (hs : Int32) (cnt : Nat) (X : Nat → Int64) (nu : Nat → Int32) (PL : Nat → Nat) : Prop :=
  (∀ j, j < cnt → 0 ≤ (X j).toInt ∧ 0 ≤ (nu j).toInt ∧ (nu j).toInt < 100) ∧
  (∀ i j, i < cnt → j < cnt → X i = X j → i = j) ∧
  (∀ x : Nat, x < z → (f x = 0 ∧ ∀ j, j < cnt → ¬ (X j).toInt = x) ∨ (∃ j, j < cnt ∧ (X j).toInt = x ∧ f x = nu j + 1)) ∧
  (∀ p, p < 16 → g p = -1 ∨ ∃ j, j < cnt ∧ g p = X j ∧ q p = nu j ∧ p = PL j) ∧
  (∀ j, j < cnt → (z : Int) ≤ (X j).toInt → PL j < 16 ∧ g (PL j) = X j ∧ ∀ d, d < (PL j + 16 - home (X j)) % 16 → ¬ g ((home (X j) + d) % 16) = -1) ∧
  (0 ≤ hs.toInt ∧ hs.toInt ≤ cnt ∧ (hs.toInt = 0 → ∀ p, p < 16 → g p = -1)) ∧ cnt ≤ 4 ∧ z ≤ 65548
/-- what get answers -/
def GR (cnt : Nat) (X : Nat → Int64) (nu : Nat → Int32) (id : Int64) (r : Int32) : Prop := (∃ j, j < cnt ∧ X j = id ∧ r = nu j) ∨ ((∀ j, j < cnt → ¬ X j = id) ∧ r = -1)
theorem pick5 (a b c d : Nat) : ∃ e, e < 5 ∧ ¬ e = a ∧ ¬ e = b ∧ ¬ e = c ∧ ¬ e = d := by
  by_cases h0 : 0 = a ∨ 0 = b ∨ 0 = c ∨ 0 = d
  · by_cases h1 : 1 = a ∨ 1 = b ∨ 1 = c ∨ 1 = d
    · by_cases h2 : 2 = a ∨ 2 = b ∨ 2 = c ∨ 2 = d
      · by_cases h3 : 3 = a ∨ 3 = b ∨ 3 = c ∨ 3 = d
        · exact ⟨4, by omega⟩
        · exact ⟨3, by omega⟩
      · exact ⟨2, by omega⟩
    · exact ⟨1, by omega⟩
  · exact ⟨0, by omega⟩
section Inv
variable {z : Nat} {f : Nat → Int32} {g : Nat → Int64} {q : Nat → Int32} {hs : Int32} {cnt : Nat} {X : Nat → Int64} {nu : Nat → Int32} {PL : Nat → Nat} {id : Int64}
theorem inv_empty (I : INV z f g q hs cnt X nu PL) : ∃ E, E < 16 ∧ g E = -1 := by
  obtain ⟨-, -, -, hd, -, -, h4, -⟩ := I
  obtain ⟨e, e1, e2, e3, e4, e5⟩ := pick5 (PL 0) (PL 1) (PL 2) (PL 3)
  refine ⟨e, by omega, ?_⟩
  rcases hd e (by omega) with h | ⟨j, j1, -, -, j2⟩
  · exact h
  · rcases (show j = 0 ∨ j = 1 ∨ j = 2 ∨ j = 3 by omega) with rfl | rfl | rfl | rfl
    · exact absurd j2 e2
    · exact absurd j2 e3
    · exact absurd j2 e4
    · exact absurd j2 e5
theorem get_direct (I : INV z f g q hs cnt X nu PL) {x : Nat} (hx : x < z) (e : id.toInt = x) : GR cnt X nu id (f x - 1) := by
  rcases I.2.2.1 x hx with ⟨h1, h2⟩ | ⟨j, h1, h2, h3⟩
  · exact Or.inr ⟨fun j hj z => h2 j hj (by rw [z]; exact e), by rw [h1]; rfl⟩
  · exact Or.inl ⟨j, h1, Int64.toInt_inj.mp (by omega), by rw [h3, Int32.add_sub_cancel]⟩
theorem get_none (I : INV z f g q hs cnt X nu PL) (h : hs.toInt ≤ 0) (hz : (z : Int) ≤ id.toInt) : GR cnt X nu id (-1) := by
  obtain ⟨ha, -, -, -, he, ⟨f1, f2, f3⟩, -⟩ := I
  refine Or.inr ⟨fun j hj e => ?_, rfl⟩
  obtain ⟨p1, p2, -⟩ := he j hj (by rw [e]; exact hz)
  exact neg_ne (ha j hj).1 (p2.symm.trans (f3 (by omega) _ p1))
/-- k places have been looked at in vain -/
def PR (g : Nat → Int64) (id : Int64) (k p : Nat) : Prop := k < 16 ∧ p = (home id + k) % 16 ∧ ∀ d, d < k → ¬ g ((home id + d) % 16) = id ∧ ¬ g ((home id + d) % 16) = -1
theorem PR.zero (g : Nat → Int64) (id : Int64) : PR g id 0 (home id) := ⟨by omega, by have := home_lt id; omega, fun d h => absurd h (Nat.not_lt_zero _)⟩
theorem PR.lt {k p : Nat} (P : PR g id k p) : p < 16 := by obtain ⟨a, b, -⟩ := P; omega
theorem get_hit (I : INV z f g q hs cnt X nu PL) (h0 : 0 ≤ id.toInt) {p : Nat} (hp : p < 16) (h : g p = id) : GR cnt X nu id (q p) := by
  rcases I.2.2.2.1 p hp with e | ⟨j, j1, j2, j3, -⟩
  · exact absurd (h.symm.trans e) (neg_ne h0)
  · exact Or.inl ⟨j, j1, j2.symm.trans h, j3⟩
theorem get_miss (I : INV z f g q hs cnt X nu PL) (hz : (z : Int) ≤ id.toInt) {k p : Nat} (P : PR g id k p) (h : g p = -1) : GR cnt X nu id (-1) := by
  obtain ⟨ha, -, -, -, he, -, -⟩ := I
  refine Or.inr ⟨fun j hj e => ?_, rfl⟩
  obtain ⟨p1, p2, p3⟩ := he j hj (by rw [e]; exact hz)
  obtain ⟨k1, k2, k3⟩ := P
  rw [e] at p2 p3
  have hl := home_lt id
  have hpos : 0 ≤ id.toInt := e ▸ (ha j hj).1
  rcases Nat.lt_trichotomy ((PL j + 16 - home id) % 16) k with c | c | c
  · have e1 : (home id + (PL j + 16 - home id) % 16) % 16 = PL j := by omega
    have := (k3 _ c).1
    rw [e1] at this; exact this p2
  · have e1 : p = PL j := by omega
    rw [e1, p2] at h; exact neg_ne hpos h
  · have := p3 k c
    rw [← k2] at this; exact this h
theorem probe_k {k p E : Nat} (hE : E < 16) (gE : g E = -1) (P : PR g id k p) (h2 : ¬ g p = -1) : k + 1 < 16 := by
  obtain ⟨k1, k2, k3⟩ := P
  have hl := home_lt id
  rcases Nat.lt_trichotomy ((E + 16 - home id) % 16) k with c | c | c
  · have e1 : (home id + (E + 16 - home id) % 16) % 16 = E := by omega
    have := (k3 _ c).2
    rw [e1] at this; exact absurd gE this
  · have e1 : p = E := by omega
    rw [e1] at h2; exact absurd gE h2
  · omega
theorem probe_step {k p E : Nat} (hE : E < 16) (gE : g E = -1) (P : PR g id k p) (h1 : ¬ g p = id) (h2 : ¬ g p = -1) : PR g id (k + 1) ((p + 1) % 16) ∧ (E + 16 - (p + 1) % 16) % 16 < (E + 16 - p) % 16 := by
  have hk := probe_k hE gE P h2
  have hp := P.lt
  have hne : ¬ p = E := fun e => h2 (e ▸ gE)
  obtain ⟨k1, k2, k3⟩ := P
  refine ⟨⟨hk, by omega, fun d hd => ?_⟩, by omega⟩
  by_cases c : d = k
  · rw [c, ← k2]; exact ⟨h1, h2⟩
  · exact k3 d (by omega)
/-- k places have been looked at, none was empty -/
def PE (g : Nat → Int64) (id : Int64) (k p : Nat) : Prop := k < 16 ∧ p = (home id + k) % 16 ∧ ∀ d, d < k → ¬ g ((home id + d) % 16) = -1
theorem PE.zero (g : Nat → Int64) (id : Int64) : PE g id 0 (home id) := ⟨by omega, by have := home_lt id; omega, fun d h => absurd h (Nat.not_lt_zero _)⟩
theorem PE.lt {k p : Nat} (P : PE g id k p) : p < 16 := by obtain ⟨a, b, -⟩ := P; omega
theorem pe_step {k p E : Nat} (hE : E < 16) (gE : g E = -1) (P : PE g id k p) (h2 : ¬ g p = -1) : PE g id (k + 1) ((p + 1) % 16) ∧ (E + 16 - (p + 1) % 16) % 16 < (E + 16 - p) % 16 := by
  have hp := P.lt
  have hne : ¬ p = E := fun e => h2 (e ▸ gE)
  obtain ⟨k1, k2, k3⟩ := P
  have hl := home_lt id
  have hk : k + 1 < 16 := by
    rcases Nat.lt_trichotomy ((E + 16 - home id) % 16) k with c | c | c
    · have e1 : (home id + (E + 16 - home id) % 16) % 16 = E := by omega
      have := k3 _ c
      rw [e1] at this; exact absurd gE this
    · exact absurd (by omega : p = E) hne
    · omega
  refine ⟨⟨hk, by omega, fun d hd => ?_⟩, by omega⟩
  by_cases c : d = k
  · rw [c, ← k2]; exact h2
  · exact k3 d (by omega)
theorem small_ne {j : Int32} (h : 0 ≤ j.toInt ∧ j.toInt < 100) : ¬ j + 1 = 0 := fun z => by
  have a := c_iadd j 1; have := rng32 (j + 1); have e1 : (1 : Int32).toInt = 1 := rfl
  rw [z, show (0 : Int32).toInt = 0 from rfl] at *; omega
theorem ofNat_toInt {n : Nat} (h : n < 100) : (Int32.ofNat n).toInt = n := Int32.toInt_ofNat_of_lt (by omega)
theorem add_direct (I : INV z f g q hs cnt X nu PL) {x : Nat} (hx : x < z) (e : id.toInt = x) (hn : ∀ j, j < cnt → ¬ X j = id) (hc : cnt < 4) :
    INV z (up f x (Int32.ofNat cnt + 1)) g q hs (cnt + 1) (up X cnt id) (up nu cnt (Int32.ofNat cnt)) PL := by
  obtain ⟨ha, hb, hcc, hd, he, hf, -, h9⟩ := I
  refine ⟨fun j hj => ?_, fun i j hi hj => ?_, fun y hy => ?_, fun p hp => ?_, fun j hj hz => ?_, ⟨hf.1, by have := hf.2.1; omega, hf.2.2⟩, by omega, h9⟩
  · by_cases c : j = cnt
    · rw [c, up_at, up_at, ofNat_toInt (by omega)]; omega
    · rw [up_ne _ _ c, up_ne _ _ c]; exact ha j (by omega)
  · by_cases c : i = cnt
    · by_cases c2 : j = cnt
      · intro _; omega
      · rw [c, up_at, up_ne _ _ c2]; intro z; exact absurd z.symm (hn j (by omega))
    · by_cases c2 : j = cnt
      · rw [c2, up_at, up_ne _ _ c]; intro z; exact absurd z (hn i (by omega))
      · rw [up_ne _ _ c, up_ne _ _ c2]; exact hb i j (by omega) (by omega)
  · by_cases c : y = x
    · refine Or.inr ⟨cnt, by omega, ?_, ?_⟩
      · rw [up_at, c]; exact e
      · rw [c, up_at, up_at]
    · rw [up_ne _ _ c]
      rcases hcc y hy with ⟨h1, h2⟩ | ⟨j, h1, h2, h3⟩
      · refine Or.inl ⟨h1, fun j hj => ?_⟩
        by_cases c2 : j = cnt
        · rw [c2, up_at]; omega
        · rw [up_ne _ _ c2]; exact h2 j (by omega)
      · have c2 : ¬ j = cnt := by omega
        exact Or.inr ⟨j, by omega, by rw [up_ne _ _ c2]; exact h2, by rw [up_ne _ _ c2]; exact h3⟩
  · rcases hd p hp with h | ⟨j, h1, h2, h3, h4⟩
    · exact Or.inl h
    · have c2 : ¬ j = cnt := by omega
      exact Or.inr ⟨j, by omega, by rw [up_ne _ _ c2]; exact h2, by rw [up_ne _ _ c2]; exact h3, h4⟩
  · by_cases c : j = cnt
    · rw [c, up_at] at hz; omega
    · rw [up_ne _ _ c] at hz ⊢; exact he j (by omega) hz
theorem add_hash (I : INV z f g q hs cnt X nu PL) (h0 : 0 ≤ id.toInt) (hz0 : (z : Int) ≤ id.toInt) (hn : ∀ j, j < cnt → ¬ X j = id) (hc : cnt < 4) {k p : Nat} (P : PE g id k p) (hp : g p = -1) :
    INV z f (up g p id) (up q p (Int32.ofNat cnt)) (hs + 1) (cnt + 1) (up X cnt id) (up nu cnt (Int32.ofNat cnt)) (up PL cnt p) := by
  have hpl := P.lt
  have hl := home_lt id
  obtain ⟨k1, k2, k3⟩ := P
  obtain ⟨ha, hb, hcc, hd, he, hf, -, h9⟩ := I
  have hsx : (hs + 1).toInt = hs.toInt + 1 := by
    have a := c_iadd hs 1; have := rng32 (hs + 1); have e1 : (1 : Int32).toInt = 1 := rfl; have := hf.1; have := hf.2.1; omega
  refine ⟨fun j hj => ?_, fun i j hi hj => ?_, fun y hy => ?_, fun p' hp' => ?_, fun j hj hz => ?_, ⟨by have := hf.1; omega, by have := hf.2.1; omega, fun z => by have := hf.1; omega⟩, by omega, h9⟩
  · by_cases c : j = cnt
    · rw [c, up_at, up_at, ofNat_toInt (by omega)]; omega
    · rw [up_ne _ _ c, up_ne _ _ c]; exact ha j (by omega)
  · by_cases c : i = cnt
    · by_cases c2 : j = cnt
      · intro _; omega
      · rw [c, up_at, up_ne _ _ c2]; intro z; exact absurd z.symm (hn j (by omega))
    · by_cases c2 : j = cnt
      · rw [c2, up_at, up_ne _ _ c]; intro z; exact absurd z (hn i (by omega))
      · rw [up_ne _ _ c, up_ne _ _ c2]; exact hb i j (by omega) (by omega)
  · rcases hcc y hy with ⟨h1, h2⟩ | ⟨j, h1, h2, h3⟩
    · refine Or.inl ⟨h1, fun j hj => ?_⟩
      by_cases c2 : j = cnt
      · rw [c2, up_at]; omega
      · rw [up_ne _ _ c2]; exact h2 j (by omega)
    · have c2 : ¬ j = cnt := by omega
      exact Or.inr ⟨j, by omega, by rw [up_ne _ _ c2]; exact h2, by rw [up_ne _ _ c2]; exact h3⟩
  · by_cases c : p' = p
    · exact Or.inr ⟨cnt, by omega, by rw [c, up_at, up_at], by rw [c, up_at, up_at], by rw [c, up_at]⟩
    · rw [up_ne _ _ c, up_ne _ _ c]
      rcases hd p' hp' with h | ⟨j, h1, h2, h3, h4⟩
      · exact Or.inl h
      · have c2 : ¬ j = cnt := by omega
        exact Or.inr ⟨j, by omega, by rw [up_ne _ _ c2]; exact h2, by rw [up_ne _ _ c2]; exact h3, by rw [up_ne _ _ c2]; exact h4⟩
  · by_cases c : j = cnt
    · have e1 : up X cnt id cnt = id := up_at _ _ _
      have e2 : up PL cnt p cnt = p := up_at _ _ _
      rw [c, e1, e2]
      refine ⟨hpl, up_at _ _ _, fun d hd' => ?_⟩
      by_cases c3 : (home id + d) % 16 = p
      · rw [c3, up_at]; exact neg_ne h0
      · rw [up_ne _ _ c3]; exact k3 d (by omega)
    · rw [up_ne _ _ c] at hz ⊢
      rw [up_ne _ _ c]
      obtain ⟨p1, p2, p3⟩ := he j (by omega) hz
      have c4 : ¬ PL j = p := fun z => by rw [z, hp] at p2; exact neg_ne (ha j (by omega)).1 p2.symm
      refine ⟨p1, by rw [up_ne _ _ c4]; exact p2, fun d hd' => ?_⟩
      by_cases c3 : (home (X j) + d) % 16 = p
      · rw [c3, up_at]; exact neg_ne h0
      · rw [up_ne _ _ c3]; exact p3 d hd'
/-- direct, lengthened -/
def base (f : Nat → Int32) (z : Nat) : Nat → Int32 := fun x => if x < z then f x else 0
/-- behind t places of growDirect's loop -/
def GL (f : Nat → Int32) (z z' : Nat) (g : Nat → Int64) (q : Nat → Int32) (cnt : Nat) (X : Nat → Int64) (nu : Nat → Int32) (t : Nat) (F : Nat → Int32) : Prop :=
  (∀ x : Nat, x < z' → F x = base f z x ∨ ∃ j, j < cnt ∧ (X j).toInt = x ∧ F x = nu j + 1) ∧ ∀ p, p < t → ¬ g p = -1 → (g p).toInt < z' → F (g p).toInt.toNat = q p + 1
theorem GL.zero (f : Nat → Int32) (z z' : Nat) (g : Nat → Int64) (q : Nat → Int32) (cnt : Nat) (X : Nat → Int64) (nu : Nat → Int32) : GL f z z' g q cnt X nu 0 (base f z) := ⟨fun x _ => Or.inl rfl, fun p h => absurd h (Nat.not_lt_zero _)⟩
theorem gl_skip {z' t : Nat} {F : Nat → Int32} (G : GL f z z' g q cnt X nu t F) (h : g t = -1 ∨ ¬ (g t).toInt < z') : GL f z z' g q cnt X nu (t + 1) F := by
  refine ⟨G.1, fun p hp h1 h2 => ?_⟩
  by_cases c : p = t
  · subst c; rcases h with h | h
    · exact absurd h h1
    · exact absurd h2 h
  · exact G.2 p (by omega) h1 h2
theorem gl_put (I : INV z f g q hs cnt X nu PL) {z' t : Nat} {F : Nat → Int32} (ht : t < 16) (G : GL f z z' g q cnt X nu t F) (h : ¬ g t = -1) (h2 : (g t).toInt < z') : GL f z z' g q cnt X nu (t + 1) (up F (g t).toInt.toNat (q t + 1)) := by
  obtain ⟨ha, hb, -, hd, -⟩ := I
  rcases hd t ht with e | ⟨j, j1, j2, j3, j4⟩
  · exact absurd e h
  have hpos := (ha j j1).1
  refine ⟨fun x hx => ?_, fun p hp h1 h3 => ?_⟩
  · by_cases c : x = (g t).toInt.toNat
    · refine Or.inr ⟨j, j1, by rw [c, ← j2]; rw [j2]; omega, by rw [c, up_at, j3]⟩
    · rw [up_ne _ _ c]; exact G.1 x hx
  · by_cases c : (g p).toInt.toNat = (g t).toInt.toNat
    · rw [c, up_at]
      by_cases c2 : p = t
      · rw [c2]
      · rcases hd p (by omega) with e | ⟨i, i1, i2, i3, i4⟩
        · exact absurd e h1
        have := (ha i i1).1
        have e2 : X i = X j := Int64.toInt_inj.mp (by rw [← i2, ← j2]; rw [i2, j2] at c ⊢; omega)
        have := hb i j i1 j1 e2
        rw [i3, j3, this]
    · rw [up_ne _ _ c]
      have c2 : ¬ p = t := fun z => c (by rw [z])
      exact G.2 p (by omega) h1 h3
theorem grow_inv (I : INV z f g q hs cnt X nu PL) {z' : Nat} {F : Nat → Int32} (hz : z ≤ z') (hz' : z' ≤ 65548) (G : GL f z z' g q cnt X nu 16 F) : INV z' F g q hs cnt X nu PL := by
  have I0 := I
  obtain ⟨ha, hb, hcc, hd, he, hf, h4, h9⟩ := I
  refine ⟨ha, hb, fun x hx => ?_, hd, fun j hj hzz => he j hj (by omega), hf, h4, hz'⟩
  by_cases c : ∃ j, j < cnt ∧ (X j).toInt = x
  · obtain ⟨j, j1, j2⟩ := c
    refine Or.inr ⟨j, j1, j2, ?_⟩
    rcases G.1 x hx with h | ⟨i, i1, i2, i3⟩
    · by_cases c2 : x < z
      · rw [h]; unfold base; rw [if_pos c2]
        rcases hcc x c2 with ⟨-, n⟩ | ⟨i, i1, i2, i3⟩
        · exact absurd j2 (n j j1)
        · rw [i3, hb i j i1 j1 (Int64.toInt_inj.mp (by omega))]
      · obtain ⟨p1, p2, -⟩ := he j j1 (by omega)
        have := G.2 (PL j) p1 (by rw [p2]; exact neg_ne (ha j j1).1) (by rw [p2]; omega)
        rw [p2, show (X j).toInt.toNat = x by omega] at this
        rw [this]
        rcases hd (PL j) p1 with e | ⟨i, i1, i2, i3, -⟩
        · exact absurd (p2.symm.trans e) (neg_ne (ha j j1).1)
        · rw [i3, hb i j i1 j1 (i2.symm.trans p2)]
    · rw [i3, hb i j i1 j1 (Int64.toInt_inj.mp (by omega))]
  · refine Or.inl ⟨?_, fun j hj e => c ⟨j, hj, e⟩⟩
    rcases G.1 x hx with h | ⟨i, i1, i2, -⟩
    · rw [h]; unfold base
      by_cases c2 : x < z
      · rw [if_pos c2]
        rcases hcc x c2 with ⟨n, -⟩ | ⟨i, i1, i2, -⟩
        · exact n
        · exact absurd ⟨i, i1, i2⟩ c
      · rw [if_neg c2]
    · exact absurd ⟨i, i1, i2⟩ c
end Inv
theorem fill_step (f : Nat → Int64) (v0 : Int64) {i : Int32} (p1 : 0 ≤ i.toInt) (e : (i + 1).toInt = i.toInt + 1) (j : Nat) : (if (j : Int) < (i + 1).toInt then v0 else f j) = if j = i.toInt.toNat then v0 else (if (j : Int) < i.toInt then v0 else f j) := by
  by_cases q : j = i.toInt.toNat
  · rw [if_pos q, if_pos (by omega)]
  · rw [if_neg q]
    by_cases q2 : (j : Int) < i.toInt
    · rw [if_pos q2, if_pos (by omega)]
    · rw [if_neg q2, if_neg (by omega)]
theorem len_int {z : Nat} (hz : z ≤ 65548) : (Int32.ofNat z).toInt = z := Int32.toInt_ofNat_of_lt (by omega)
theorem lt_len (id : Int64) {z : Nat} (hz : z ≤ 65548) : id < (Int32.ofNat z).toInt64 ↔ id.toInt < z := by
  rw [Int64.lt_iff_toInt_lt, c_i2l, len_int hz]
theorem not_pos {h : Int32} (q : ¬ (0 < h)) : h.toInt ≤ 0 := by
  rw [Int32.lt_iff_toInt_lt, show (0 : Int32).toInt = 0 from rfl] at q; omega
theorem small_l2i {id : Int64} (h0 : 0 ≤ id.toInt) (h1 : id.toInt < 1000000) : id.toInt32.toInt = id.toInt := by
  have c := c_l2i id; have := rng32 id.toInt32; omega
theorem add1 {i : Int32} (h : 0 ≤ i.toInt) (h2 : i.toInt < 1000000) : (i + 1).toInt = i.toInt + 1 := by
  have a := c_iadd i 1; have := rng32 (i + 1); have e : (1 : Int32).toInt = 1 := rfl
  omega
theorem wrap_no {pl : Int32} (p1 : 0 ≤ pl.toInt) (p2 : pl.toInt.toNat < 16) (q : ¬ pl + 1 = 16) : (pl + 1).toInt.toNat = (pl.toInt.toNat + 1) % 16 := by
  have a := add1 (i := pl) p1 (by omega)
  have : ¬ (pl + 1).toInt = 16 := fun z => q (Int32.toInt_inj.mp z)
  omega
theorem wrap_yes {pl : Int32} (p1 : 0 ≤ pl.toInt) (q : pl + 1 = 16) : (0 : Int32).toInt.toNat = (pl.toInt.toNat + 1) % 16 := by
  have e : (pl + 1).toInt = 16 := by rw [q]; rfl
  have c := c_iadd pl 1; have e1 : (1 : Int32).toInt = 1 := rfl
  have := rng32 pl
  rw [show (0 : Int32).toInt.toNat = 0 from rfl]
  omega
theorem no_grow {z : Nat} {f : Nat → Int32} {g : Nat → Int64} {q : Nat → Int32} {hs : Int32} {cnt : Nat} {X : Nat → Int64} {nu : Nat → Int32} {PL : Nat → Nat} (I : INV z f g q hs cnt X nu PL) (h : ((16 : Int32) / 4) * 3 < hs + 1) : False := by
  obtain ⟨-, -, -, -, -, ⟨f1, f2, -⟩, f4, -⟩ := I
  rw [Int32.lt_iff_toInt_lt, show (((16 : Int32) / 4) * 3).toInt = 12 from by decide] at h
  have := add1 (i := hs) f1 (by omega)
  omega
def maxR (a b r : Int64) : Prop := (a < b ∧ r = b) ∨ (¬ (a < b) ∧ r = a)
theorem maxT {a b r : Int64} (q : a < b) (h : maxR a b r) : r = b := h.elim (fun h => h.2) (fun h => absurd q h.1)
theorem maxF {a b r : Int64} (q : ¬ (a < b)) (h : maxR a b r) : r = a := h.elim (fun h => absurd h.1 q) (fun h => h.2)
def minJR (a b r : Int64) : Prop := (b < a ∧ r = b) ∨ (¬ (b < a) ∧ r = a)
theorem minJT {a b r : Int64} (q : b < a) (h : minJR a b r) : r = b := h.elim (fun h => h.2) (fun h => absurd q h.1)
theorem minJF {a b r : Int64} (q : ¬ (b < a)) (h : minJR a b r) : r = a := h.elim (fun h => absurd h.1 q) (fun h => h.2)
def minIR (a b r : Int32) : Prop := (b < a ∧ r = b) ∨ (¬ (b < a) ∧ r = a)
theorem minIT {a b r : Int32} (q : b < a) (h : minIR a b r) : r = b := h.elim (fun h => h.2) (fun h => absurd q h.1)
theorem minIF {a b r : Int32} (q : ¬ (b < a)) (h : minIR a b r) : r = a := h.elim (fun h => absurd h.1 q) (fun h => h.2)
theorem minI_le {a b : Int32} (h : a.toInt ≤ b.toInt) : minIR a b a := Or.inr ⟨by rw [Int32.lt_iff_toInt_lt]; omega, rfl⟩
theorem gl_empty {z z' : Nat} {f : Nat → Int32} {g : Nat → Int64} {q : Nat → Int32} {hs : Int32} {cnt : Nat} {X : Nat → Int64} {nu : Nat → Int32} {PL : Nat → Nat} (I : INV z f g q hs cnt X nu PL) (h : hs.toInt ≤ 0) : GL f z z' g q cnt X nu 16 (base f z) :=
  ⟨fun x _ => Or.inl rfl, fun p hp h1 => absurd (I.2.2.2.2.2.1.2.2 (by have := I.2.2.2.2.2.1.1; omega) p hp) h1⟩
theorem g_nonneg {z : Nat} {f : Nat → Int32} {g : Nat → Int64} {q : Nat → Int32} {hs : Int32} {cnt : Nat} {X : Nat → Int64} {nu : Nat → Int32} {PL : Nat → Nat} (I : INV z f g q hs cnt X nu PL) {p : Nat} (hp : p < 16) (h : ¬ g p = -1) : 0 ≤ (g p).toInt := by
  rcases I.2.2.2.1 p hp with e | ⟨j, j1, j2, -, -⟩
  · exact absurd e h
  · rw [j2]; exact (I.1 j j1).1
theorem lt_ln (x : Int64) {ln : Int32} {S : Nat} (h : ln.toInt = S) : x < ln.toInt64 ↔ x.toInt < S := by rw [Int64.lt_iff_toInt_lt, c_i2l, h]
/-- how long direct becomes -/
def newlen (z : Nat) (id : Int64) : Nat := max (id.toInt.toNat + 1) (max 16 (2 * z))
/-- when direct grows -/
def GC (most : Int32) (z : Nat) (id : Int64) (cn : Nat) (X : Nat → Int64) : Prop := (∀ j, j < cn → ¬ X j = id) ∧ (cn : Int) < most.toInt ∧ (z : Int) ≤ id.toInt ∧ id.toInt < 4 * cn + 65536 ∧ newlen z id ≤ 4 * cn + 65536
/-- what add does -/
def AR (most : Int32) (id : Int64) (cn : Nat) (X : Nat → Int64) (nu : Nat → Int32) (r : Int32) (cn' : Nat) (X' : Nat → Int64) (nu' : Nat → Int32) : Prop :=
  (∃ j, j < cn ∧ X j = id ∧ r = nu j ∧ cn' = cn ∧ X' = X ∧ nu' = nu) ∨ ((∀ j, j < cn → ¬ X j = id) ∧ most.toInt ≤ cn ∧ r = -1 ∧ cn' = cn ∧ X' = X ∧ nu' = nu) ∨ ((∀ j, j < cn → ¬ X j = id) ∧ (cn : Int) < most.toInt ∧ r = Int32.ofNat cn ∧ cn' = cn + 1 ∧ X' = up X cn id ∧ nu' = up nu cn (Int32.ofNat cn))
theorem gr_found {z : Nat} {f : Nat → Int32} {g : Nat → Int64} {q : Nat → Int32} {hs : Int32} {cn : Nat} {X : Nat → Int64} {nu : Nat → Int32} {PL : Nat → Nat} (I : INV z f g q hs cn X nu PL) {id : Int64} {r : Int32} (h : GR cn X nu id r) (q1 : ¬ r < 0) : ∃ j, j < cn ∧ X j = id ∧ r = nu j := by
  rcases h with h | ⟨-, rfl⟩
  · exact h
  · exact absurd (by decide) q1
theorem gr_not {z : Nat} {f : Nat → Int32} {g : Nat → Int64} {q : Nat → Int32} {hs : Int32} {cn : Nat} {X : Nat → Int64} {nu : Nat → Int32} {PL : Nat → Nat} (I : INV z f g q hs cn X nu PL) {id : Int64} {r : Int32} (h : GR cn X nu id r) (q1 : r < 0) : (∀ j, j < cn → ¬ X j = id) ∧ r = -1 := by
  rcases h with ⟨j, j1, j2, rfl⟩ | h
  · rw [Int32.lt_iff_toInt_lt, show (0 : Int32).toInt = 0 from rfl] at q1
    have := (I.1 j j1).2.1; omega
  · exact h
theorem cn_int {cn : Nat} (h : cn ≤ 4) : (Int32.ofNat cn).toInt = cn := ofNat_toInt (by omega)
theorem bd_ok {cn : Nat} (h : cn ≤ 4) {bd : Int64} (e : ((4 : Int64) * (Int32.ofNat cn).toInt64) + (65536 : Int64) = bd) : bd.toInt = 4 * cn + 65536 := by
  subst e
  have a := c_lmul 4 (Int32.ofNat cn).toInt64; have b := c_ladd (4 * (Int32.ofNat cn).toInt64) 65536
  rw [c_i2l, cn_int h, show (4 : Int64).toInt = 4 from rfl] at a
  rw [show (65536 : Int64).toInt = 65536 from rfl] at b
  have := rng64 (4 * (Int32.ofNat cn).toInt64); have := rng64 (4 * (Int32.ofNat cn).toInt64 + 65536)
  omega
theorem bd_min {cn : Nat} (h : cn ≤ 4) {bd : Int64} (e : bd.toInt = 4 * cn + 65536) : minJR 2147483639 bd bd := Or.inl ⟨by rw [Int64.lt_iff_toInt_lt, e, show (2147483639 : Int64).toInt = 2147483639 from rfl]; omega, rfl⟩
/-- the two maxima that give the new length -/
theorem gr_ok {z : Nat} {id : Int64} (hz : z ≤ 65548) (h0 : 0 ≤ id.toInt) (h1 : id.toInt < 65552) : ∃ m1 gr : Int64, maxR 16 ((2 : Int64) * (Int32.ofNat z).toInt64) m1 ∧ maxR (id + 1) m1 gr ∧ gr.toInt = newlen z id := by
  have a := c_lmul 2 (Int32.ofNat z).toInt64; have b := c_ladd id 1
  rw [c_i2l, len_int hz, show (2 : Int64).toInt = 2 from rfl] at a
  rw [show (1 : Int64).toInt = 1 from rfl] at b
  have r1 := rng64 (2 * (Int32.ofNat z).toInt64); have r2 := rng64 (id + 1)
  have e1 : (2 * (Int32.ofNat z).toInt64).toInt = 2 * z := by omega
  have e2 : (id + 1).toInt = id.toInt + 1 := by omega
  have e16 : (16 : Int64).toInt = 16 := rfl
  unfold newlen
  have key : ∀ m1 : Int64, m1.toInt = (max 16 (2 * z) : Nat) → ∃ gr : Int64, maxR (id + 1) m1 gr ∧ gr.toInt = (max (id.toInt.toNat + 1) (max 16 (2 * z)) : Nat) := by
    intro m1 hm
    by_cases c : id + 1 < m1
    · refine ⟨m1, Or.inl ⟨c, rfl⟩, ?_⟩
      rw [Int64.lt_iff_toInt_lt] at c; omega
    · refine ⟨id + 1, Or.inr ⟨c, rfl⟩, ?_⟩
      rw [Int64.lt_iff_toInt_lt] at c; omega
  by_cases c : (16 : Int64) < 2 * (Int32.ofNat z).toInt64
  · have c' := c
    rw [Int64.lt_iff_toInt_lt] at c'
    obtain ⟨gr, g1, g2⟩ := key _ (show (2 * (Int32.ofNat z).toInt64).toInt = (max 16 (2 * z) : Nat) by omega)
    exact ⟨_, gr, Or.inl ⟨c, rfl⟩, g1, g2⟩
  · have c' := c
    rw [Int64.lt_iff_toInt_lt] at c'
    obtain ⟨gr, g1, g2⟩ := key 16 (show (16 : Int64).toInt = (max 16 (2 * z) : Nat) by omega)
    exact ⟨_, gr, Or.inr ⟨c, rfl⟩, g1, g2⟩
theorem newlen_gt (z : Nat) (id : Int64) (h0 : 0 ≤ id.toInt) (h : (z : Int) ≤ id.toInt) : z < newlen z id ∧ id.toInt < newlen z id ∧ 2 * z ≤ newlen z id := by unfold newlen; omega
theorem cn_succ (cn : Nat) : Int32.ofNat cn + 1 = Int32.ofNat (cn + 1) := (Int32.ofNat_add cn 1).symm

/-- the index as it is made -/
theorem inv0 : INV 0 (fun _ => 0) (fun _ => -1) (fun _ => 0) 0 0 (fun _ => 0) (fun _ => 0) (fun _ => 0) :=
  ⟨fun j h => absurd h (Nat.not_lt_zero _), fun i j h => absurd h (Nat.not_lt_zero _), fun x h => absurd h (Nat.not_lt_zero _), fun p _ => Or.inl rfl, fun j h => absurd h (Nat.not_lt_zero _), ⟨by decide, by decide, fun _ p _ => rfl⟩, by omega, by omega⟩
/-- what an add takes of the room -/
theorem pickS (most : Int32) (z : Nat) (id : Int64) (cn : Nat) (X : Nat → Int64) : ∃ S, (GC most z id cn X ∧ S = newlen z id) ∨ (¬ GC most z id cn X ∧ S = 0) := by
  by_cases c : GC most z id cn X
  · exact ⟨_, Or.inl ⟨c, rfl⟩⟩
  · exact ⟨_, Or.inr ⟨c, rfl⟩⟩
theorem bud {most : Int32} {z : Nat} {id : Int64} {cn : Nat} {X : Nat → Int64} {S u : Nat} (hS : (GC most z id cn X ∧ S = newlen z id) ∨ (¬ GC most z id cn X ∧ S = 0)) (hz : z ≤ 65548) (hc : cn < 4) (hu : u ≤ 2 * z) : u + S ≤ 131096 := by
  rcases hS with ⟨g, rfl⟩ | ⟨-, rfl⟩
  · have h1 := g.2.2.2.2
    have h2 : 2 * z ≤ newlen z id := by unfold newlen; omega
    omega
  · omega
theorem bud2 {most : Int32} {z z' : Nat} {id : Int64} {cn : Nat} {X : Nat → Int64} {S u : Nat} (hS : (GC most z id cn X ∧ S = newlen z id) ∨ (¬ GC most z id cn X ∧ S = 0)) (hj : (GC most z id cn X ∧ z' = S) ∨ (¬ GC most z id cn X ∧ z' = z)) (hu : u ≤ 2 * z) : u + S ≤ 2 * z' := by
  rcases hS with ⟨g, rfl⟩ | ⟨g, rfl⟩
  · rcases hj with ⟨-, rfl⟩ | ⟨g', -⟩
    · have h2 : 2 * z ≤ newlen z id := by unfold newlen; omega
      omega
    · exact absurd g g'
  · rcases hj with ⟨g', -⟩ | ⟨-, rfl⟩
    · exact absurd g' g
    · omega
theorem nn_15 (x : Int64) : 0 ≤ (x &&& 15).toInt := by have h := c_maskL x 15 4 (by decide) (by decide); omega
theorem nn_7 (x : Int64) : 0 ≤ (65536 + (x &&& 7)).toInt := by
  have h := c_maskL x 7 3 (by decide) (by decide)
  have a := c_ladd 65536 (x &&& 7); have := rng64 (65536 + (x &&& 7)); have e : (65536 : Int64).toInt = 65536 := rfl
  omega
theorem nn_65535 (x : Int64) : 0 ≤ (x &&& 65535).toInt := by have h := c_maskL x 65535 16 (by decide) (by decide); omega
theorem nn_131071 (x : Int64) : 0 ≤ (x &&& 131071).toInt := by have h := c_maskL x 131071 17 (by decide) (by decide); omega
theorem nn_max (x : Int64) : 0 ≤ (x &&& 9223372036854775807).toInt := by have h := c_maskL x 9223372036854775807 63 (by decide) (by decide); omega
/-- the count of the numbered stays small -/
def NB (cn : Nat) (nu : Nat → Int32) : Prop := ∀ j, j < cn → (nu j).toInt < cn
theorem ar_cn {most : Int32} {id : Int64} {cn : Nat} {X : Nat → Int64} {nu : Nat → Int32} {r : Int32} {cn' : Nat} {X' : Nat → Int64} {nu' : Nat → Int32} (h : AR most id cn X nu r cn' X' nu') : cn ≤ cn' ∧ cn' ≤ cn + 1 := by
  rcases h with ⟨_, _, _, _, e, _⟩ | ⟨_, _, _, e, _⟩ | ⟨_, _, _, e, _⟩ <;> omega
theorem ar_nb {most : Int32} {id : Int64} {cn : Nat} {X : Nat → Int64} {nu : Nat → Int32} {r : Int32} {cn' : Nat} {X' : Nat → Int64} {nu' : Nat → Int32} (h : AR most id cn X nu r cn' X' nu') (hb : NB cn nu) (hc : cn < 4) : NB cn' nu' := by
  rcases h with ⟨_, _, _, _, rfl, _, rfl⟩ | ⟨_, _, _, rfl, _, rfl⟩ | ⟨_, _, _, rfl, _, rfl⟩
  · exact hb
  · exact hb
  · intro j hj
    by_cases c : j = cn
    · rw [c, up_at, ofNat_toInt (by omega)]; omega
    · rw [up_ne _ _ c]; have := hb j (by omega); omega
/-- an id is numbered r -/
def FO (cn : Nat) (X : Nat → Int64) (nu : Nat → Int32) (id : Int64) (r : Int32) : Prop := ∃ j, j < cn ∧ X j = id ∧ r = nu j
theorem ar_fo {most : Int32} {id : Int64} {cn : Nat} {X : Nat → Int64} {nu : Nat → Int32} {r : Int32} {cn' : Nat} {X' : Nat → Int64} {nu' : Nat → Int32} (h : AR most id cn X nu r cn' X' nu') (hm : (cn : Int) < most.toInt) : FO cn' X' nu' id r := by
  rcases h with ⟨j, j1, j2, j3, rfl, rfl, rfl⟩ | ⟨_, z, _⟩ | ⟨_, _, rfl, rfl, rfl, rfl⟩
  · exact ⟨j, j1, j2, j3⟩
  · omega
  · exact ⟨cn, by omega, up_at _ _ _, (up_at _ _ _).symm⟩
theorem ar_keep {most : Int32} {id : Int64} {cn : Nat} {X : Nat → Int64} {nu : Nat → Int32} {r : Int32} {cn' : Nat} {X' : Nat → Int64} {nu' : Nat → Int32} (h : AR most id cn X nu r cn' X' nu') {y : Int64} {t : Int32} (f : FO cn X nu y t) : FO cn' X' nu' y t := by
  obtain ⟨j, j1, j2, j3⟩ := f
  rcases h with ⟨_, _, _, _, rfl, rfl, rfl⟩ | ⟨_, _, _, rfl, rfl, rfl⟩ | ⟨_, _, _, rfl, rfl, rfl⟩
  · exact ⟨j, j1, j2, j3⟩
  · exact ⟨j, j1, j2, j3⟩
  · have c : ¬ j = cn := by omega
    exact ⟨j, by omega, by rw [up_ne _ _ c]; exact j2, by rw [up_ne _ _ c]; exact j3⟩

/-- every id below t has its place -/
def DD (cn : Nat) (X : Nat → Int64) (t : Nat) (R : Nat → Int64) : Prop := ∀ j, j < cn → (X j).toInt < t → R j = X j
def TT (cn : Nat) (X : Nat → Int64) (z : Nat) (g : Nat → Int64) (t : Nat) (R : Nat → Int64) : Prop := DD cn X z R ∧ ∀ p, p < t → ∀ j, j < cn → g p = X j → R j = X j
def NU (cn : Nat) (nu : Nat → Int32) : Prop := ∀ j, j < cn → nu j = Int32.ofNat j
section Ids
variable {z : Nat} {f : Nat → Int32} {g : Nat → Int64} {q : Nat → Int32} {hs : Int32} {cn : Nat} {X : Nat → Int64} {nu : Nat → Int32} {PL : Nat → Nat} {R : Nat → Int64}
theorem DD.zero (I : INV z f g q hs cn X nu PL) : DD cn X 0 R := fun j hj h => by have := (I.1 j hj).1; omega
theorem f_at (I : INV z f g q hs cn X nu PL) (hnu : NU cn nu) {t : Nat} (ht : t < z) (h : ¬ f t = 0) : ∃ j, j < cn ∧ (X j).toInt = t ∧ (f t - 1).toInt = j := by
  rcases I.2.2.1 t ht with ⟨e, -⟩ | ⟨j, j1, j2, e⟩
  · exact absurd e h
  · exact ⟨j, j1, j2, by rw [e, Int32.add_sub_cancel, hnu j j1, ofNat_toInt (by have := I.2.2.2.2.2.2.1; omega)]⟩
theorem q_at (I : INV z f g q hs cn X nu PL) (hnu : NU cn nu) {t : Nat} (ht : t < 16) (h : ¬ g t = -1) : ∃ j, j < cn ∧ g t = X j ∧ (q t).toInt = j := by
  rcases I.2.2.2.1 t ht with e | ⟨j, j1, j2, e, -⟩
  · exact absurd e h
  · exact ⟨j, j1, j2, by rw [e, hnu j j1, ofNat_toInt (by have := I.2.2.2.2.2.2.1; omega)]⟩
theorem dd_skip (I : INV z f g q hs cn X nu PL) {t : Nat} (ht : t < z) (h : f t = 0) (D : DD cn X t R) : DD cn X (t + 1) R := by
  intro j hj hx
  by_cases c : (X j).toInt = t
  · rcases I.2.2.1 t ht with ⟨-, n⟩ | ⟨i, i1, -, e⟩
    · exact absurd c (n j hj)
    · exact absurd (e.symm.trans h) (small_ne (I.1 i i1).2)
  · exact D j hj (by omega)
theorem dd_put (I : INV z f g q hs cn X nu PL) (hnu : NU cn nu) {t : Nat} (ht : t < z) (h : ¬ f t = 0) (D : DD cn X t R) {v : Int64} (hv : v.toInt = t) : DD cn X (t + 1) (up R (f t - 1).toInt.toNat v) := by
  obtain ⟨i, i1, i2, i3⟩ := f_at I hnu ht h
  rw [i3, Int.toNat_natCast]
  intro j hj hx
  by_cases c : j = i
  · rw [c, up_at]; exact Int64.toInt_inj.mp (by omega)
  · rw [up_ne _ _ c]
    refine D j hj ?_
    have : ¬ (X j).toInt = t := fun e => c (I.2.1 j i hj i1 (Int64.toInt_inj.mp (by omega)))
    omega
theorem TT.zero (D : DD cn X z R) : TT cn X z g 0 R := ⟨D, fun p h => absurd h (Nat.not_lt_zero _)⟩
theorem tt_skip (I : INV z f g q hs cn X nu PL) {t : Nat} (h : g t = -1) (T : TT cn X z g t R) : TT cn X z g (t + 1) R := by
  refine ⟨T.1, fun p hp j hj e => ?_⟩
  by_cases c : p = t
  · rw [c, h] at e; exact absurd e.symm (neg_ne (I.1 j hj).1)
  · exact T.2 p (by omega) j hj e
theorem tt_put (I : INV z f g q hs cn X nu PL) (hnu : NU cn nu) {t : Nat} (ht : t < 16) (h : ¬ g t = -1) (T : TT cn X z g t R) : TT cn X z g (t + 1) (up R (q t).toInt.toNat (g t)) := by
  obtain ⟨i, i1, i2, i3⟩ := q_at I hnu ht h
  rw [i3, Int.toNat_natCast]
  refine ⟨fun j hj hx => ?_, fun p hp j hj e => ?_⟩
  · by_cases c : j = i
    · rw [c, up_at]; exact i2
    · rw [up_ne _ _ c]; exact T.1 j hj hx
  · by_cases c : j = i
    · rw [c, up_at]; exact i2
    · rw [up_ne _ _ c]
      refine T.2 p ?_ j hj e
      have : ¬ p = t := fun z => c (I.2.1 j i hj i1 (by rw [← e, ← i2, z]))
      omega
theorem tt_end (I : INV z f g q hs cn X nu PL) (T : TT cn X z g 16 R) : ∀ j, j < cn → R j = X j := by
  intro j hj
  by_cases c : (X j).toInt < z
  · exact T.1 j hj c
  · obtain ⟨p1, p2, -⟩ := I.2.2.2.2.1 j hj (by omega)
    exact T.2 _ p1 j hj p2
end Ids
theorem ar_nu {most : Int32} {id : Int64} {cn : Nat} {X : Nat → Int64} {nu : Nat → Int32} {r : Int32} {cn' : Nat} {X' : Nat → Int64} {nu' : Nat → Int32} (h : AR most id cn X nu r cn' X' nu') (hb : NU cn nu) : NU cn' nu' := by
  rcases h with ⟨_, _, _, _, rfl, _, rfl⟩ | ⟨_, _, _, rfl, _, rfl⟩ | ⟨_, _, _, rfl, _, rfl⟩
  · exact hb
  · exact hb
  · intro j hj
    by_cases c : j = cn
    · rw [c, up_at]
    · rw [up_ne _ _ c]; exact hb j (by omega)
/-- what the law's step does -/
def SR (most : Int32) (v : Int64) (cn : Nat) (E : Nat → Int64) (cn' : Nat) (E' : Nat → Int64) : Prop :=
  ((∃ j, j < cn ∧ E j = v) ∧ cn' = cn ∧ E' = E) ∨ ((∀ j, j < cn → ¬ E j = v) ∧ most.toInt ≤ cn ∧ cn' = cn ∧ E' = E) ∨ ((∀ j, j < cn → ¬ E j = v) ∧ (cn : Int) < most.toInt ∧ cn' = cn + 1 ∧ E' = up E cn v)
theorem sim {most : Int32} {id : Int64} {cn : Nat} {X : Nat → Int64} {nu : Nat → Int32} {r : Int32} {c1 : Nat} {X1 : Nat → Int64} {nu1 : Nat → Int32} (h : AR most id cn X nu r c1 X1 nu1) {E : Nat → Int64} (hE : ∀ j, j < cn → E j = X j) {c2 : Nat} {E2 : Nat → Int64} (s : SR most id cn E c2 E2) : c2 = c1 ∧ ∀ j, j < c1 → E2 j = X1 j := by
  rcases h with ⟨j, j1, j2, _, rfl, rfl, _⟩ | ⟨n, m, _, rfl, rfl, _⟩ | ⟨n, m, _, rfl, rfl, _⟩
  · rcases s with ⟨_, rfl, rfl⟩ | ⟨n, _⟩ | ⟨n, _⟩
    · exact ⟨rfl, hE⟩
    · exact absurd ((hE j j1).trans j2) (n j j1)
    · exact absurd ((hE j j1).trans j2) (n j j1)
  · rcases s with ⟨_, rfl, rfl⟩ | ⟨_, _, rfl, rfl⟩ | ⟨_, m2, _⟩
    · exact ⟨rfl, hE⟩
    · exact ⟨rfl, hE⟩
    · omega
  · rcases s with ⟨⟨j, j1, j2⟩, _⟩ | ⟨_, m2, _⟩ | ⟨_, _, rfl, rfl⟩
    · exact absurd ((hE j j1).symm.trans j2) (n j j1)
    · omega
    · refine ⟨rfl, fun j hj => ?_⟩
      by_cases c : j = cn
      · rw [c, up_at, up_at]
      · rw [up_ne _ _ c, up_ne _ _ c]; exact hE j (by omega)
theorem lt_k {cn : Nat} (h4 : cn ≤ 4) (k : Nat) (hk : k < 100) : Int32.ofNat k < Int32.ofNat cn ↔ k < cn := by
  rw [Int32.lt_iff_toInt_lt, ofNat_toInt hk, ofNat_toInt (by omega)]; omega
theorem most7 (x : Int32) : 0 ≤ (ushrI x 10 &&& 7).toInt := by have h := c_mask (ushrI x 10) 7 3 (by decide) (by decide); omega

theorem wd_0 {a0 : Array Value} {Z : State} (hw : ∀ d ∈ tables_1, d.before a0 Z = true) : (Jvm.Cond.methodLink "com/example/grawl/grawl/graph/IdIndexIdsPinLaw" (7 : Nat) ({ cls := "com/example/grawl/grawl/graph/IdIndexIdsPinLaw", name := "pick", desc := "(JZ)J" } : Jvm.MethodName)).before a0 Z = true := hw _ (List.mem_of_getElem? (i := 0) rfl)
theorem wd_1 {a0 : Array Value} {Z : State} (hw : ∀ d ∈ tables_1, d.before a0 Z = true) : (Jvm.Cond.static ({ cls := "com/example/grawl/grawl/graph/IdIndexIdsPinLaw", name := "pick", desc := "(JZ)J" } : Jvm.MethodName)).before a0 Z = true := hw _ (List.mem_of_getElem? (i := 1) rfl)
theorem wd_2 {a0 : Array Value} {Z : State} (hw : ∀ d ∈ tables_1, d.before a0 Z = true) : (Jvm.Cond.initialized "com/example/grawl/grawl/graph/IdIndexIdsPinLaw").before a0 Z = true := hw _ (List.mem_of_getElem? (i := 2) rfl)
theorem wd_3 {a0 : Array Value} {Z : State} (hw : ∀ d ∈ tables_1, d.before a0 Z = true) : (Jvm.Cond.code ({ cls := "com/example/grawl/grawl/graph/IdIndexIdsPinLaw", name := "pick", desc := "(JZ)J" } : Jvm.MethodName) method_3_code (3 : Nat) (Option.some Jvm.ClassFile.FieldType.long)).before a0 Z = true := hw _ (List.mem_of_getElem? (i := 3) rfl)
theorem wd_4 {a0 : Array Value} {Z : State} (hw : ∀ d ∈ tables_1, d.before a0 Z = true) : (Jvm.Cond.constantLong "com/example/grawl/grawl/graph/IdIndexIdsPinLaw" (30 : Nat) (131071 : Int64)).before a0 Z = true := hw _ (List.mem_of_getElem? (i := 4) rfl)
theorem wd_5 {a0 : Array Value} {Z : State} (hw : ∀ d ∈ tables_1, d.before a0 Z = true) : (Jvm.Cond.constantLong "com/example/grawl/grawl/graph/IdIndexIdsPinLaw" (34 : Nat) (9223372036854775807 : Int64)).before a0 Z = true := hw _ (List.mem_of_getElem? (i := 5) rfl)
theorem wd_6 {a0 : Array Value} {Z : State} (hw : ∀ d ∈ tables_1, d.before a0 Z = true) : (Jvm.Cond.classLink "com/example/grawl/grawl/graph/IdIndexIdsPinLaw" (13 : Nat) "com/example/grawl/grawl/graph/IdIndex").before a0 Z = true := hw _ (List.mem_of_getElem? (i := 6) rfl)
theorem wd_7 {a0 : Array Value} {Z : State} (hw : ∀ d ∈ tables_1, d.before a0 Z = true) : (Jvm.Cond.instantiable "com/example/grawl/grawl/graph/IdIndex" (6 : Nat)).before a0 Z = true := hw _ (List.mem_of_getElem? (i := 7) rfl)
theorem wd_8 {a0 : Array Value} {Z : State} (hw : ∀ d ∈ tables_1, d.before a0 Z = true) : (Jvm.Cond.initialized "com/example/grawl/grawl/graph/IdIndex").before a0 Z = true := hw _ (List.mem_of_getElem? (i := 8) rfl)
theorem wd_9 {a0 : Array Value} {Z : State} (hw : ∀ d ∈ tables_1, d.before a0 Z = true) : (Jvm.Cond.methodLink "com/example/grawl/grawl/graph/IdIndexIdsPinLaw" (15 : Nat) ({ cls := "com/example/grawl/grawl/graph/IdIndex", name := "<init>", desc := "(I)V" } : Jvm.MethodName)).before a0 Z = true := hw _ (List.mem_of_getElem? (i := 9) rfl)
theorem wd_10 {a0 : Array Value} {Z : State} (hw : ∀ d ∈ tables_1, d.before a0 Z = true) : (Jvm.Cond.instanceMethod ({ cls := "com/example/grawl/grawl/graph/IdIndex", name := "<init>", desc := "(I)V" } : Jvm.MethodName)).before a0 Z = true := hw _ (List.mem_of_getElem? (i := 10) rfl)
theorem wd_11 {a0 : Array Value} {Z : State} (hw : ∀ d ∈ tables_1, d.before a0 Z = true) : (Jvm.Cond.code ({ cls := "com/example/grawl/grawl/graph/IdIndex", name := "<init>", desc := "(I)V" } : Jvm.MethodName) prog_29_method_1_code (2 : Nat) (Option.none : Option Jvm.ClassFile.FieldType)).before a0 Z = true := hw _ (List.mem_of_getElem? (i := 11) rfl)
theorem wd_12 {a0 : Array Value} {Z : State} (hw : ∀ d ∈ tables_1, d.before a0 Z = true) : (Jvm.Cond.methodLink "com/example/grawl/grawl/graph/IdIndex" (1 : Nat) ({ cls := "java/lang/Object", name := "<init>", desc := "()V" } : Jvm.MethodName)).before a0 Z = true := hw _ (List.mem_of_getElem? (i := 12) rfl)
theorem wd_13 {a0 : Array Value} {Z : State} (hw : ∀ d ∈ tables_1, d.before a0 Z = true) : (Jvm.Cond.instanceMethod ({ cls := "java/lang/Object", name := "<init>", desc := "()V" } : Jvm.MethodName)).before a0 Z = true := hw _ (List.mem_of_getElem? (i := 13) rfl)
theorem wd_14 {a0 : Array Value} {Z : State} (hw : ∀ d ∈ tables_1, d.before a0 Z = true) : (Jvm.Cond.code ({ cls := "java/lang/Object", name := "<init>", desc := "()V" } : Jvm.MethodName) object_method_1_code (1 : Nat) (Option.none : Option Jvm.ClassFile.FieldType)).before a0 Z = true := hw _ (List.mem_of_getElem? (i := 14) rfl)
theorem wd_15 {a0 : Array Value} {Z : State} (hw : ∀ d ∈ tables_1, d.before a0 Z = true) : (Jvm.Cond.arrayClass Jvm.ClassFile.FieldType.int).before a0 Z = true := hw _ (List.mem_of_getElem? (i := 15) rfl)
theorem wd_16 {a0 : Array Value} {Z : State} (hw : ∀ d ∈ tables_1, d.before a0 Z = true) : (Jvm.Cond.fieldLink "com/example/grawl/grawl/graph/IdIndex" (7 : Nat) "com/example/grawl/grawl/graph/IdIndex" "direct" "[I").before a0 Z = true := hw _ (List.mem_of_getElem? (i := 16) rfl)
theorem wd_17 {a0 : Array Value} {Z : State} (hw : ∀ d ∈ tables_1, d.before a0 Z = true) : (Jvm.Cond.lays "com/example/grawl/grawl/graph/IdIndex" "com/example/grawl/grawl/graph/IdIndex" "direct" "[I").before a0 Z = true := hw _ (List.mem_of_getElem? (i := 17) rfl)
theorem wd_18 {a0 : Array Value} {Z : State} (hw : ∀ d ∈ tables_1, d.before a0 Z = true) : (Jvm.Cond.methodLink "com/example/grawl/grawl/graph/IdIndex" (13 : Nat) ({ cls := "com/example/grawl/grawl/graph/IdIndex", name := "emptyPlaces", desc := "(I)[J" } : Jvm.MethodName)).before a0 Z = true := hw _ (List.mem_of_getElem? (i := 18) rfl)
theorem wd_19 {a0 : Array Value} {Z : State} (hw : ∀ d ∈ tables_1, d.before a0 Z = true) : (Jvm.Cond.static ({ cls := "com/example/grawl/grawl/graph/IdIndex", name := "emptyPlaces", desc := "(I)[J" } : Jvm.MethodName)).before a0 Z = true := hw _ (List.mem_of_getElem? (i := 19) rfl)
theorem wd_20 {a0 : Array Value} {Z : State} (hw : ∀ d ∈ tables_1, d.before a0 Z = true) : (Jvm.Cond.code ({ cls := "com/example/grawl/grawl/graph/IdIndex", name := "emptyPlaces", desc := "(I)[J" } : Jvm.MethodName) prog_29_method_11_code (2 : Nat) (Option.some (Jvm.ClassFile.FieldType.array Jvm.ClassFile.FieldType.long))).before a0 Z = true := hw _ (List.mem_of_getElem? (i := 20) rfl)
theorem wd_21 {a0 : Array Value} {Z : State} (hw : ∀ d ∈ tables_1, d.before a0 Z = true) : (Jvm.Cond.arrayClass Jvm.ClassFile.FieldType.long).before a0 Z = true := hw _ (List.mem_of_getElem? (i := 21) rfl)
theorem wd_22 {a0 : Array Value} {Z : State} (hw : ∀ d ∈ tables_1, d.before a0 Z = true) : (Jvm.Cond.constantLong "com/example/grawl/grawl/graph/IdIndex" (71 : Nat) (-1 : Int64)).before a0 Z = true := hw _ (List.mem_of_getElem? (i := 22) rfl)
theorem wd_23 {a0 : Array Value} {Z : State} (hw : ∀ d ∈ tables_1, d.before a0 Z = true) : (Jvm.Cond.methodLink "com/example/grawl/grawl/graph/IdIndex" (89 : Nat) ({ cls := "java/util/Arrays", name := "fill", desc := "([JJ)V" } : Jvm.MethodName)).before a0 Z = true := hw _ (List.mem_of_getElem? (i := 23) rfl)
theorem wd_24 {a0 : Array Value} {Z : State} (hw : ∀ d ∈ tables_1, d.before a0 Z = true) : (Jvm.Cond.static ({ cls := "java/util/Arrays", name := "fill", desc := "([JJ)V" } : Jvm.MethodName)).before a0 Z = true := hw _ (List.mem_of_getElem? (i := 24) rfl)
theorem wd_25 {a0 : Array Value} {Z : State} (hw : ∀ d ∈ tables_1, d.before a0 Z = true) : (Jvm.Cond.initialized "java/util/Arrays").before a0 Z = true := hw _ (List.mem_of_getElem? (i := 25) rfl)
theorem wd_26 {a0 : Array Value} {Z : State} (hw : ∀ d ∈ tables_1, d.before a0 Z = true) : (Jvm.Cond.code ({ cls := "java/util/Arrays", name := "fill", desc := "([JJ)V" } : Jvm.MethodName) jdk_65_method_101_code (5 : Nat) (Option.none : Option Jvm.ClassFile.FieldType)).before a0 Z = true := hw _ (List.mem_of_getElem? (i := 26) rfl)
theorem wd_27 {a0 : Array Value} {Z : State} (hw : ∀ d ∈ tables_1, d.before a0 Z = true) : (Jvm.Cond.fieldLink "com/example/grawl/grawl/graph/IdIndex" (17 : Nat) "com/example/grawl/grawl/graph/IdIndex" "ids" "[J").before a0 Z = true := hw _ (List.mem_of_getElem? (i := 27) rfl)
theorem wd_28 {a0 : Array Value} {Z : State} (hw : ∀ d ∈ tables_1, d.before a0 Z = true) : (Jvm.Cond.lays "com/example/grawl/grawl/graph/IdIndex" "com/example/grawl/grawl/graph/IdIndex" "ids" "[J").before a0 Z = true := hw _ (List.mem_of_getElem? (i := 28) rfl)
theorem wd_29 {a0 : Array Value} {Z : State} (hw : ∀ d ∈ tables_1, d.before a0 Z = true) : (Jvm.Cond.fieldLink "com/example/grawl/grawl/graph/IdIndex" (21 : Nat) "com/example/grawl/grawl/graph/IdIndex" "numbers" "[I").before a0 Z = true := hw _ (List.mem_of_getElem? (i := 29) rfl)
theorem wd_30 {a0 : Array Value} {Z : State} (hw : ∀ d ∈ tables_1, d.before a0 Z = true) : (Jvm.Cond.lays "com/example/grawl/grawl/graph/IdIndex" "com/example/grawl/grawl/graph/IdIndex" "numbers" "[I").before a0 Z = true := hw _ (List.mem_of_getElem? (i := 30) rfl)
theorem wd_31 {a0 : Array Value} {Z : State} (hw : ∀ d ∈ tables_1, d.before a0 Z = true) : (Jvm.Cond.fieldLink "com/example/grawl/grawl/graph/IdIndex" (24 : Nat) "com/example/grawl/grawl/graph/IdIndex" "most" "I").before a0 Z = true := hw _ (List.mem_of_getElem? (i := 31) rfl)
theorem wd_32 {a0 : Array Value} {Z : State} (hw : ∀ d ∈ tables_1, d.before a0 Z = true) : (Jvm.Cond.laysFinal "com/example/grawl/grawl/graph/IdIndex" "com/example/grawl/grawl/graph/IdIndex" "most" "I").before a0 Z = true := hw _ (List.mem_of_getElem? (i := 32) rfl)
theorem wd_33 {a0 : Array Value} {Z : State} (hw : ∀ d ∈ tables_1, d.before a0 Z = true) : (Jvm.Cond.methodLink "com/example/grawl/grawl/graph/IdIndexIdsPinLaw" (18 : Nat) ({ cls := "com/example/grawl/grawl/graph/IdIndex", name := "add", desc := "(J)I" } : Jvm.MethodName)).before a0 Z = true := hw _ (List.mem_of_getElem? (i := 33) rfl)
theorem wd_34 {a0 : Array Value} {Z : State} (hw : ∀ d ∈ tables_1, d.before a0 Z = true) : (Jvm.Cond.declares ({ cls := "com/example/grawl/grawl/graph/IdIndex", name := "add", desc := "(J)I" } : Jvm.MethodName)).before a0 Z = true := hw _ (List.mem_of_getElem? (i := 34) rfl)
theorem wd_35 {a0 : Array Value} {Z : State} (hw : ∀ d ∈ tables_1, d.before a0 Z = true) : (Jvm.Cond.instanceMethod ({ cls := "com/example/grawl/grawl/graph/IdIndex", name := "add", desc := "(J)I" } : Jvm.MethodName)).before a0 Z = true := hw _ (List.mem_of_getElem? (i := 35) rfl)
theorem wd_36 {a0 : Array Value} {Z : State} (hw : ∀ d ∈ tables_1, d.before a0 Z = true) : (Jvm.Cond.selects "com/example/grawl/grawl/graph/IdIndex" ({ cls := "com/example/grawl/grawl/graph/IdIndex", name := "add", desc := "(J)I" } : Jvm.MethodName) ({ cls := "com/example/grawl/grawl/graph/IdIndex", name := "add", desc := "(J)I" } : Jvm.MethodName)).before a0 Z = true := hw _ (List.mem_of_getElem? (i := 36) rfl)
theorem wd_37 {a0 : Array Value} {Z : State} (hw : ∀ d ∈ tables_1, d.before a0 Z = true) : (Jvm.Cond.code ({ cls := "com/example/grawl/grawl/graph/IdIndex", name := "add", desc := "(J)I" } : Jvm.MethodName) prog_29_method_2_code (8 : Nat) (Option.some Jvm.ClassFile.FieldType.int)).before a0 Z = true := hw _ (List.mem_of_getElem? (i := 37) rfl)
theorem wd_38 {a0 : Array Value} {Z : State} (hw : ∀ d ∈ tables_1, d.before a0 Z = true) : (Jvm.Cond.methodLink "com/example/grawl/grawl/graph/IdIndex" (28 : Nat) ({ cls := "com/example/grawl/grawl/graph/IdIndex", name := "get", desc := "(J)I" } : Jvm.MethodName)).before a0 Z = true := hw _ (List.mem_of_getElem? (i := 38) rfl)
theorem wd_39 {a0 : Array Value} {Z : State} (hw : ∀ d ∈ tables_1, d.before a0 Z = true) : (Jvm.Cond.declares ({ cls := "com/example/grawl/grawl/graph/IdIndex", name := "get", desc := "(J)I" } : Jvm.MethodName)).before a0 Z = true := hw _ (List.mem_of_getElem? (i := 39) rfl)
theorem wd_40 {a0 : Array Value} {Z : State} (hw : ∀ d ∈ tables_1, d.before a0 Z = true) : (Jvm.Cond.instanceMethod ({ cls := "com/example/grawl/grawl/graph/IdIndex", name := "get", desc := "(J)I" } : Jvm.MethodName)).before a0 Z = true := hw _ (List.mem_of_getElem? (i := 40) rfl)
theorem wd_41 {a0 : Array Value} {Z : State} (hw : ∀ d ∈ tables_1, d.before a0 Z = true) : (Jvm.Cond.selects "com/example/grawl/grawl/graph/IdIndex" ({ cls := "com/example/grawl/grawl/graph/IdIndex", name := "get", desc := "(J)I" } : Jvm.MethodName) ({ cls := "com/example/grawl/grawl/graph/IdIndex", name := "get", desc := "(J)I" } : Jvm.MethodName)).before a0 Z = true := hw _ (List.mem_of_getElem? (i := 41) rfl)
theorem wd_42 {a0 : Array Value} {Z : State} (hw : ∀ d ∈ tables_1, d.before a0 Z = true) : (Jvm.Cond.code ({ cls := "com/example/grawl/grawl/graph/IdIndex", name := "get", desc := "(J)I" } : Jvm.MethodName) prog_29_method_3_code (7 : Nat) (Option.some Jvm.ClassFile.FieldType.int)).before a0 Z = true := hw _ (List.mem_of_getElem? (i := 42) rfl)
theorem wd_43 {a0 : Array Value} {Z : State} (hw : ∀ d ∈ tables_1, d.before a0 Z = true) : (Jvm.Cond.fieldLink "com/example/grawl/grawl/graph/IdIndex" (64 : Nat) "com/example/grawl/grawl/graph/IdIndex" "hashed" "I").before a0 Z = true := hw _ (List.mem_of_getElem? (i := 43) rfl)
theorem wd_44 {a0 : Array Value} {Z : State} (hw : ∀ d ∈ tables_1, d.before a0 Z = true) : (Jvm.Cond.lays "com/example/grawl/grawl/graph/IdIndex" "com/example/grawl/grawl/graph/IdIndex" "hashed" "I").before a0 Z = true := hw _ (List.mem_of_getElem? (i := 44) rfl)
theorem wd_45 {a0 : Array Value} {Z : State} (hw : ∀ d ∈ tables_1, d.before a0 Z = true) : (Jvm.Cond.fieldLink "com/example/grawl/grawl/graph/IdIndex" (32 : Nat) "com/example/grawl/grawl/graph/IdIndex" "count" "I").before a0 Z = true := hw _ (List.mem_of_getElem? (i := 45) rfl)
theorem wd_46 {a0 : Array Value} {Z : State} (hw : ∀ d ∈ tables_1, d.before a0 Z = true) : (Jvm.Cond.lays "com/example/grawl/grawl/graph/IdIndex" "com/example/grawl/grawl/graph/IdIndex" "count" "I").before a0 Z = true := hw _ (List.mem_of_getElem? (i := 46) rfl)
theorem wd_47 {a0 : Array Value} {Z : State} (hw : ∀ d ∈ tables_1, d.before a0 Z = true) : (Jvm.Cond.methodLink "com/example/grawl/grawl/graph/IdIndexIdsPinLaw" (22 : Nat) ({ cls := "com/example/grawl/grawl/graph/IdIndex", name := "ids", desc := "()[J" } : Jvm.MethodName)).before a0 Z = true := hw _ (List.mem_of_getElem? (i := 47) rfl)
theorem wd_48 {a0 : Array Value} {Z : State} (hw : ∀ d ∈ tables_1, d.before a0 Z = true) : (Jvm.Cond.declares ({ cls := "com/example/grawl/grawl/graph/IdIndex", name := "ids", desc := "()[J" } : Jvm.MethodName)).before a0 Z = true := hw _ (List.mem_of_getElem? (i := 48) rfl)
theorem wd_49 {a0 : Array Value} {Z : State} (hw : ∀ d ∈ tables_1, d.before a0 Z = true) : (Jvm.Cond.instanceMethod ({ cls := "com/example/grawl/grawl/graph/IdIndex", name := "ids", desc := "()[J" } : Jvm.MethodName)).before a0 Z = true := hw _ (List.mem_of_getElem? (i := 49) rfl)
theorem wd_50 {a0 : Array Value} {Z : State} (hw : ∀ d ∈ tables_1, d.before a0 Z = true) : (Jvm.Cond.selects "com/example/grawl/grawl/graph/IdIndex" ({ cls := "com/example/grawl/grawl/graph/IdIndex", name := "ids", desc := "()[J" } : Jvm.MethodName) ({ cls := "com/example/grawl/grawl/graph/IdIndex", name := "ids", desc := "()[J" } : Jvm.MethodName)).before a0 Z = true := hw _ (List.mem_of_getElem? (i := 50) rfl)
theorem wd_51 {a0 : Array Value} {Z : State} (hw : ∀ d ∈ tables_1, d.before a0 Z = true) : (Jvm.Cond.code ({ cls := "com/example/grawl/grawl/graph/IdIndex", name := "ids", desc := "()[J" } : Jvm.MethodName) prog_29_method_5_code (3 : Nat) (Option.some (Jvm.ClassFile.FieldType.array Jvm.ClassFile.FieldType.long))).before a0 Z = true := hw _ (List.mem_of_getElem? (i := 51) rfl)
theorem wd_52 {a0 : Array Value} {Z : State} (hw : ∀ d ∈ tables_1, d.before a0 Z = true) : (Jvm.Cond.methodLink "com/example/grawl/grawl/graph/IdIndexIdsPinLaw" (26 : Nat) ({ cls := "com/example/grawl/grawl/graph/IdIndexIdsPinLaw", name := "step", desc := "([JIJI)I" } : Jvm.MethodName)).before a0 Z = true := hw _ (List.mem_of_getElem? (i := 52) rfl)
theorem wd_53 {a0 : Array Value} {Z : State} (hw : ∀ d ∈ tables_1, d.before a0 Z = true) : (Jvm.Cond.static ({ cls := "com/example/grawl/grawl/graph/IdIndexIdsPinLaw", name := "step", desc := "([JIJI)I" } : Jvm.MethodName)).before a0 Z = true := hw _ (List.mem_of_getElem? (i := 53) rfl)
theorem wd_54 {a0 : Array Value} {Z : State} (hw : ∀ d ∈ tables_1, d.before a0 Z = true) : (Jvm.Cond.code ({ cls := "com/example/grawl/grawl/graph/IdIndexIdsPinLaw", name := "step", desc := "([JIJI)I" } : Jvm.MethodName) method_4_code (6 : Nat) (Option.some Jvm.ClassFile.FieldType.int)).before a0 Z = true := hw _ (List.mem_of_getElem? (i := 54) rfl)
theorem wd_55 {a0 : Array Value} {Z : State} (hw : ∀ d ∈ tables_1, d.before a0 Z = true) : (Jvm.Cond.constantLong "com/example/grawl/grawl/graph/IdIndex" (37 : Nat) (2147483639 : Int64)).before a0 Z = true := hw _ (List.mem_of_getElem? (i := 55) rfl)
theorem wd_56 {a0 : Array Value} {Z : State} (hw : ∀ d ∈ tables_1, d.before a0 Z = true) : (Jvm.Cond.constantLong "com/example/grawl/grawl/graph/IdIndex" (39 : Nat) (4 : Int64)).before a0 Z = true := hw _ (List.mem_of_getElem? (i := 56) rfl)
theorem wd_57 {a0 : Array Value} {Z : State} (hw : ∀ d ∈ tables_1, d.before a0 Z = true) : (Jvm.Cond.constantLong "com/example/grawl/grawl/graph/IdIndex" (41 : Nat) (65536 : Int64)).before a0 Z = true := hw _ (List.mem_of_getElem? (i := 57) rfl)
theorem wd_58 {a0 : Array Value} {Z : State} (hw : ∀ d ∈ tables_1, d.before a0 Z = true) : (Jvm.Cond.methodLink "com/example/grawl/grawl/graph/IdIndex" (43 : Nat) ({ cls := "java/lang/Math", name := "min", desc := "(JJ)J" } : Jvm.MethodName)).before a0 Z = true := hw _ (List.mem_of_getElem? (i := 58) rfl)
theorem wd_59 {a0 : Array Value} {Z : State} (hw : ∀ d ∈ tables_1, d.before a0 Z = true) : (Jvm.Cond.static ({ cls := "java/lang/Math", name := "min", desc := "(JJ)J" } : Jvm.MethodName)).before a0 Z = true := hw _ (List.mem_of_getElem? (i := 59) rfl)
theorem wd_60 {a0 : Array Value} {Z : State} (hw : ∀ d ∈ tables_1, d.before a0 Z = true) : (Jvm.Cond.initialized "java/lang/Math").before a0 Z = true := hw _ (List.mem_of_getElem? (i := 60) rfl)
theorem wd_61 {a0 : Array Value} {Z : State} (hw : ∀ d ∈ tables_1, d.before a0 Z = true) : (Jvm.Cond.code ({ cls := "java/lang/Math", name := "min", desc := "(JJ)J" } : Jvm.MethodName) jdk_29_method_70_code (4 : Nat) (Option.some Jvm.ClassFile.FieldType.long)).before a0 Z = true := hw _ (List.mem_of_getElem? (i := 61) rfl)
theorem wd_62 {a0 : Array Value} {Z : State} (hw : ∀ d ∈ tables_1, d.before a0 Z = true) : (Jvm.Cond.methodLink "com/example/grawl/grawl/graph/IdIndex" (60 : Nat) ({ cls := "com/example/grawl/grawl/graph/IdIndex", name := "hash", desc := "(JI)V" } : Jvm.MethodName)).before a0 Z = true := hw _ (List.mem_of_getElem? (i := 62) rfl)
theorem wd_63 {a0 : Array Value} {Z : State} (hw : ∀ d ∈ tables_1, d.before a0 Z = true) : (Jvm.Cond.instanceMethod ({ cls := "com/example/grawl/grawl/graph/IdIndex", name := "hash", desc := "(JI)V" } : Jvm.MethodName)).before a0 Z = true := hw _ (List.mem_of_getElem? (i := 63) rfl)
theorem wd_64 {a0 : Array Value} {Z : State} (hw : ∀ d ∈ tables_1, d.before a0 Z = true) : (Jvm.Cond.privateMethod ({ cls := "com/example/grawl/grawl/graph/IdIndex", name := "hash", desc := "(JI)V" } : Jvm.MethodName)).before a0 Z = true := hw _ (List.mem_of_getElem? (i := 64) rfl)
theorem wd_65 {a0 : Array Value} {Z : State} (hw : ∀ d ∈ tables_1, d.before a0 Z = true) : (Jvm.Cond.code ({ cls := "com/example/grawl/grawl/graph/IdIndex", name := "hash", desc := "(JI)V" } : Jvm.MethodName) prog_29_method_8_code (5 : Nat) (Option.none : Option Jvm.ClassFile.FieldType)).before a0 Z = true := hw _ (List.mem_of_getElem? (i := 65) rfl)
theorem wd_66 {a0 : Array Value} {Z : State} (hw : ∀ d ∈ tables_1, d.before a0 Z = true) : (Jvm.Cond.methodLink "com/example/grawl/grawl/graph/IdIndex" (67 : Nat) ({ cls := "com/example/grawl/grawl/graph/IdIndex", name := "placeOf", desc := "(JI)I" } : Jvm.MethodName)).before a0 Z = true := hw _ (List.mem_of_getElem? (i := 66) rfl)
theorem wd_67 {a0 : Array Value} {Z : State} (hw : ∀ d ∈ tables_1, d.before a0 Z = true) : (Jvm.Cond.static ({ cls := "com/example/grawl/grawl/graph/IdIndex", name := "placeOf", desc := "(JI)I" } : Jvm.MethodName)).before a0 Z = true := hw _ (List.mem_of_getElem? (i := 67) rfl)
theorem wd_68 {a0 : Array Value} {Z : State} (hw : ∀ d ∈ tables_1, d.before a0 Z = true) : (Jvm.Cond.code ({ cls := "com/example/grawl/grawl/graph/IdIndex", name := "placeOf", desc := "(JI)I" } : Jvm.MethodName) prog_29_method_10_code (3 : Nat) (Option.some Jvm.ClassFile.FieldType.int)).before a0 Z = true := hw _ (List.mem_of_getElem? (i := 68) rfl)
theorem wd_69 {a0 : Array Value} {Z : State} (hw : ∀ d ∈ tables_1, d.before a0 Z = true) : (Jvm.Cond.constantLong "com/example/grawl/grawl/graph/IdIndex" (87 : Nat) (-7046029254386353131 : Int64)).before a0 Z = true := hw _ (List.mem_of_getElem? (i := 69) rfl)
theorem wd_70 {a0 : Array Value} {Z : State} (hw : ∀ d ∈ tables_1, d.before a0 Z = true) : (Jvm.Cond.constantLong "com/example/grawl/grawl/graph/IdIndex" (49 : Nat) (16 : Int64)).before a0 Z = true := hw _ (List.mem_of_getElem? (i := 70) rfl)
theorem wd_71 {a0 : Array Value} {Z : State} (hw : ∀ d ∈ tables_1, d.before a0 Z = true) : (Jvm.Cond.constantLong "com/example/grawl/grawl/graph/IdIndex" (51 : Nat) (2 : Int64)).before a0 Z = true := hw _ (List.mem_of_getElem? (i := 71) rfl)
theorem wd_72 {a0 : Array Value} {Z : State} (hw : ∀ d ∈ tables_1, d.before a0 Z = true) : (Jvm.Cond.methodLink "com/example/grawl/grawl/graph/IdIndex" (53 : Nat) ({ cls := "java/lang/Math", name := "max", desc := "(JJ)J" } : Jvm.MethodName)).before a0 Z = true := hw _ (List.mem_of_getElem? (i := 72) rfl)
theorem wd_73 {a0 : Array Value} {Z : State} (hw : ∀ d ∈ tables_1, d.before a0 Z = true) : (Jvm.Cond.static ({ cls := "java/lang/Math", name := "max", desc := "(JJ)J" } : Jvm.MethodName)).before a0 Z = true := hw _ (List.mem_of_getElem? (i := 73) rfl)
theorem wd_74 {a0 : Array Value} {Z : State} (hw : ∀ d ∈ tables_1, d.before a0 Z = true) : (Jvm.Cond.code ({ cls := "java/lang/Math", name := "max", desc := "(JJ)J" } : Jvm.MethodName) jdk_29_method_66_code (4 : Nat) (Option.some Jvm.ClassFile.FieldType.long)).before a0 Z = true := hw _ (List.mem_of_getElem? (i := 74) rfl)
theorem wd_75 {a0 : Array Value} {Z : State} (hw : ∀ d ∈ tables_1, d.before a0 Z = true) : (Jvm.Cond.methodLink "com/example/grawl/grawl/graph/IdIndex" (56 : Nat) ({ cls := "com/example/grawl/grawl/graph/IdIndex", name := "growDirect", desc := "(I)V" } : Jvm.MethodName)).before a0 Z = true := hw _ (List.mem_of_getElem? (i := 75) rfl)
theorem wd_76 {a0 : Array Value} {Z : State} (hw : ∀ d ∈ tables_1, d.before a0 Z = true) : (Jvm.Cond.instanceMethod ({ cls := "com/example/grawl/grawl/graph/IdIndex", name := "growDirect", desc := "(I)V" } : Jvm.MethodName)).before a0 Z = true := hw _ (List.mem_of_getElem? (i := 76) rfl)
theorem wd_77 {a0 : Array Value} {Z : State} (hw : ∀ d ∈ tables_1, d.before a0 Z = true) : (Jvm.Cond.privateMethod ({ cls := "com/example/grawl/grawl/graph/IdIndex", name := "growDirect", desc := "(I)V" } : Jvm.MethodName)).before a0 Z = true := hw _ (List.mem_of_getElem? (i := 77) rfl)
theorem wd_78 {a0 : Array Value} {Z : State} (hw : ∀ d ∈ tables_1, d.before a0 Z = true) : (Jvm.Cond.code ({ cls := "com/example/grawl/grawl/graph/IdIndex", name := "growDirect", desc := "(I)V" } : Jvm.MethodName) prog_29_method_7_code (5 : Nat) (Option.none : Option Jvm.ClassFile.FieldType)).before a0 Z = true := hw _ (List.mem_of_getElem? (i := 78) rfl)
theorem wd_79 {a0 : Array Value} {Z : State} (hw : ∀ d ∈ tables_1, d.before a0 Z = true) : (Jvm.Cond.methodLink "com/example/grawl/grawl/graph/IdIndex" (73 : Nat) ({ cls := "java/util/Arrays", name := "copyOf", desc := "([II)[I" } : Jvm.MethodName)).before a0 Z = true := hw _ (List.mem_of_getElem? (i := 79) rfl)
theorem wd_80 {a0 : Array Value} {Z : State} (hw : ∀ d ∈ tables_1, d.before a0 Z = true) : (Jvm.Cond.static ({ cls := "java/util/Arrays", name := "copyOf", desc := "([II)[I" } : Jvm.MethodName)).before a0 Z = true := hw _ (List.mem_of_getElem? (i := 80) rfl)
theorem wd_81 {a0 : Array Value} {Z : State} (hw : ∀ d ∈ tables_1, d.before a0 Z = true) : (Jvm.Cond.code ({ cls := "java/util/Arrays", name := "copyOf", desc := "([II)[I" } : Jvm.MethodName) jdk_65_method_123_code (3 : Nat) (Option.some (Jvm.ClassFile.FieldType.array Jvm.ClassFile.FieldType.int))).before a0 Z = true := hw _ (List.mem_of_getElem? (i := 81) rfl)
theorem wd_82 {a0 : Array Value} {Z : State} (hw : ∀ d ∈ tables_1, d.before a0 Z = true) : (Jvm.Cond.methodLink "java/util/Arrays" (304 : Nat) ({ cls := "java/lang/Math", name := "min", desc := "(II)I" } : Jvm.MethodName)).before a0 Z = true := hw _ (List.mem_of_getElem? (i := 82) rfl)
theorem wd_83 {a0 : Array Value} {Z : State} (hw : ∀ d ∈ tables_1, d.before a0 Z = true) : (Jvm.Cond.static ({ cls := "java/lang/Math", name := "min", desc := "(II)I" } : Jvm.MethodName)).before a0 Z = true := hw _ (List.mem_of_getElem? (i := 83) rfl)
theorem wd_84 {a0 : Array Value} {Z : State} (hw : ∀ d ∈ tables_1, d.before a0 Z = true) : (Jvm.Cond.code ({ cls := "java/lang/Math", name := "min", desc := "(II)I" } : Jvm.MethodName) jdk_29_method_69_code (2 : Nat) (Option.some Jvm.ClassFile.FieldType.int)).before a0 Z = true := hw _ (List.mem_of_getElem? (i := 84) rfl)
theorem wd_85 {a0 : Array Value} {Z : State} (hw : ∀ d ∈ tables_1, d.before a0 Z = true) : (Jvm.Cond.methodLink "java/util/Arrays" (150 : Nat) ({ cls := "java/lang/System", name := "arraycopy", desc := "(Ljava/lang/Object;ILjava/lang/Object;II)V" } : Jvm.MethodName)).before a0 Z = true := hw _ (List.mem_of_getElem? (i := 85) rfl)
theorem wd_86 {a0 : Array Value} {Z : State} (hw : ∀ d ∈ tables_1, d.before a0 Z = true) : (Jvm.Cond.static ({ cls := "java/lang/System", name := "arraycopy", desc := "(Ljava/lang/Object;ILjava/lang/Object;II)V" } : Jvm.MethodName)).before a0 Z = true := hw _ (List.mem_of_getElem? (i := 86) rfl)
theorem wd_87 {a0 : Array Value} {Z : State} (hw : ∀ d ∈ tables_1, d.before a0 Z = true) : (Jvm.Cond.initialized "java/lang/System").before a0 Z = true := hw _ (List.mem_of_getElem? (i := 87) rfl)
theorem wd_88 {a0 : Array Value} {Z : State} (hw : ∀ d ∈ tables_1, d.before a0 Z = true) : (Jvm.Cond.native ({ cls := "java/lang/System", name := "arraycopy", desc := "(Ljava/lang/Object;ILjava/lang/Object;II)V" } : Jvm.MethodName)).before a0 Z = true := hw _ (List.mem_of_getElem? (i := 88) rfl)
theorem D0_0 : In code 0 1 (.lload_n 0) 1 := ⟨at_0, rfl⟩
theorem D0_1 : In code 1 2 (.iload 8) 3 := ⟨at_1, rfl⟩
theorem D0_3 : In code 3 1 (.iconst 1) 4 := ⟨at_3, rfl⟩
theorem D0_4 : In code 4 1 (.iand) 5 := ⟨at_4, rfl⟩
theorem D0_5 : Jm code 5 (.ifCond .eq) 8 12 := ⟨7, at_5, rfl, by decide, by decide⟩
theorem D0_8 : In code 8 1 (.iconst 1) 9 := ⟨at_8, rfl⟩
theorem D0_9 : Jm code 9 .goto 12 13 := ⟨4, at_9, rfl, by decide, by decide⟩
theorem D0_12 : In code 12 1 (.iconst 0) 13 := ⟨at_12, rfl⟩
theorem D0_13 : In code 13 3 (.invokestatic 7) 16 := ⟨at_13, rfl⟩
theorem D0_16 : In code 16 2 (.lstore 9) 18 := ⟨at_16, rfl⟩
theorem D0_18 : In code 18 2 (.iload 8) 20 := ⟨at_18, rfl⟩
theorem D0_20 : In code 20 1 (.iconst 1) 21 := ⟨at_20, rfl⟩
theorem D0_21 : In code 21 1 (.iushr) 22 := ⟨at_21, rfl⟩
theorem D0_22 : In code 22 1 (.iconst 3) 23 := ⟨at_22, rfl⟩
theorem D0_23 : In code 23 1 (.iand) 24 := ⟨at_23, rfl⟩
theorem D0_24 : In code 24 2 (.istore 11) 26 := ⟨at_24, rfl⟩
theorem D0_26 : In code 26 2 (.iload 11) 28 := ⟨at_26, rfl⟩
theorem D0_28 : Jm code 28 (.ifCond .ne) 31 36 := ⟨8, at_28, rfl, by decide, by decide⟩
theorem D0_31 : In code 31 2 (.lload 9) 33 := ⟨at_31, rfl⟩
theorem D0_33 : Jm code 33 .goto 36 54 := ⟨21, at_33, rfl, by decide, by decide⟩
theorem D0_36 : In code 36 1 (.lload_n 2) 37 := ⟨at_36, rfl⟩
theorem D0_37 : In code 37 2 (.iload 8) 39 := ⟨at_37, rfl⟩
theorem D0_39 : In code 39 1 (.iconst 3) 40 := ⟨at_39, rfl⟩
theorem D0_40 : In code 40 1 (.iushr) 41 := ⟨at_40, rfl⟩
theorem D0_41 : In code 41 1 (.iconst 1) 42 := ⟨at_41, rfl⟩
theorem D0_42 : In code 42 1 (.iand) 43 := ⟨at_42, rfl⟩
theorem D0_43 : Jm code 43 (.ifCond .eq) 46 50 := ⟨7, at_43, rfl, by decide, by decide⟩
theorem D0_46 : In code 46 1 (.iconst 1) 47 := ⟨at_46, rfl⟩
theorem D0_47 : Jm code 47 .goto 50 51 := ⟨4, at_47, rfl, by decide, by decide⟩
theorem D0_50 : In code 50 1 (.iconst 0) 51 := ⟨at_50, rfl⟩
theorem D0_51 : In code 51 3 (.invokestatic 7) 54 := ⟨at_51, rfl⟩
theorem D0_54 : In code 54 2 (.lstore 12) 56 := ⟨at_54, rfl⟩
theorem D0_56 : In code 56 2 (.iload 8) 58 := ⟨at_56, rfl⟩
theorem D0_58 : In code 58 1 (.iconst 4) 59 := ⟨at_58, rfl⟩
theorem D0_59 : In code 59 1 (.iushr) 60 := ⟨at_59, rfl⟩
theorem D0_60 : In code 60 1 (.iconst 3) 61 := ⟨at_60, rfl⟩
theorem D0_61 : In code 61 1 (.iand) 62 := ⟨at_61, rfl⟩
theorem D0_62 : In code 62 2 (.istore 14) 64 := ⟨at_62, rfl⟩
theorem D0_64 : In code 64 2 (.iload 14) 66 := ⟨at_64, rfl⟩
theorem D0_66 : Jm code 66 (.ifCond .ne) 69 74 := ⟨8, at_66, rfl, by decide, by decide⟩
theorem D0_69 : In code 69 2 (.lload 12) 71 := ⟨at_69, rfl⟩
theorem D0_71 : Jm code 71 .goto 74 105 := ⟨34, at_71, rfl, by decide, by decide⟩
theorem D0_74 : In code 74 2 (.iload 14) 76 := ⟨at_74, rfl⟩
theorem D0_76 : In code 76 1 (.iconst 1) 77 := ⟨at_76, rfl⟩
theorem D0_77 : Jm code 77 (.if_icmp .ne) 80 85 := ⟨8, at_77, rfl, by decide, by decide⟩
theorem D0_80 : In code 80 2 (.lload 9) 82 := ⟨at_80, rfl⟩
theorem D0_82 : Jm code 82 .goto 85 105 := ⟨23, at_82, rfl, by decide, by decide⟩
theorem D0_85 : In code 85 2 (.lload 4) 87 := ⟨at_85, rfl⟩
theorem D0_87 : In code 87 2 (.iload 8) 89 := ⟨at_87, rfl⟩
theorem D0_89 : In code 89 2 (.bipush 6) 91 := ⟨at_89, rfl⟩
theorem D0_91 : In code 91 1 (.iushr) 92 := ⟨at_91, rfl⟩
theorem D0_92 : In code 92 1 (.iconst 1) 93 := ⟨at_92, rfl⟩
theorem D0_93 : In code 93 1 (.iand) 94 := ⟨at_93, rfl⟩
theorem D0_94 : Jm code 94 (.ifCond .eq) 97 101 := ⟨7, at_94, rfl, by decide, by decide⟩
theorem D0_97 : In code 97 1 (.iconst 1) 98 := ⟨at_97, rfl⟩
theorem D0_98 : Jm code 98 .goto 101 102 := ⟨4, at_98, rfl, by decide, by decide⟩
theorem D0_101 : In code 101 1 (.iconst 0) 102 := ⟨at_101, rfl⟩
theorem D0_102 : In code 102 3 (.invokestatic 7) 105 := ⟨at_102, rfl⟩
theorem D0_105 : In code 105 2 (.lstore 15) 107 := ⟨at_105, rfl⟩
theorem D0_107 : In code 107 2 (.iload 8) 109 := ⟨at_107, rfl⟩
theorem D0_109 : In code 109 2 (.bipush 7) 111 := ⟨at_109, rfl⟩
theorem D0_111 : In code 111 1 (.iushr) 112 := ⟨at_111, rfl⟩
theorem D0_112 : In code 112 1 (.iconst 3) 113 := ⟨at_112, rfl⟩
theorem D0_113 : In code 113 1 (.iand) 114 := ⟨at_113, rfl⟩
theorem D0_114 : In code 114 2 (.istore 17) 116 := ⟨at_114, rfl⟩
theorem D0_116 : In code 116 2 (.iload 17) 118 := ⟨at_116, rfl⟩
theorem D0_118 : Jm code 118 (.ifCond .ne) 121 126 := ⟨8, at_118, rfl, by decide, by decide⟩
theorem D0_121 : In code 121 2 (.lload 15) 123 := ⟨at_121, rfl⟩
theorem D0_123 : Jm code 123 .goto 126 168 := ⟨45, at_123, rfl, by decide, by decide⟩
theorem D0_126 : In code 126 2 (.iload 17) 128 := ⟨at_126, rfl⟩
theorem D0_128 : In code 128 1 (.iconst 1) 129 := ⟨at_128, rfl⟩
theorem D0_129 : Jm code 129 (.if_icmp .ne) 132 137 := ⟨8, at_129, rfl, by decide, by decide⟩
theorem D0_132 : In code 132 2 (.lload 9) 134 := ⟨at_132, rfl⟩
theorem D0_134 : Jm code 134 .goto 137 168 := ⟨34, at_134, rfl, by decide, by decide⟩
theorem D0_137 : In code 137 2 (.iload 17) 139 := ⟨at_137, rfl⟩
theorem D0_139 : In code 139 1 (.iconst 2) 140 := ⟨at_139, rfl⟩
theorem D0_140 : Jm code 140 (.if_icmp .ne) 143 148 := ⟨8, at_140, rfl, by decide, by decide⟩
theorem D0_143 : In code 143 2 (.lload 12) 145 := ⟨at_143, rfl⟩
theorem D0_145 : Jm code 145 .goto 148 168 := ⟨23, at_145, rfl, by decide, by decide⟩
theorem D0_148 : In code 148 2 (.lload 6) 150 := ⟨at_148, rfl⟩
theorem D0_150 : In code 150 2 (.iload 8) 152 := ⟨at_150, rfl⟩
theorem D0_152 : In code 152 2 (.bipush 9) 154 := ⟨at_152, rfl⟩
theorem D0_154 : In code 154 1 (.iushr) 155 := ⟨at_154, rfl⟩
theorem D0_155 : In code 155 1 (.iconst 1) 156 := ⟨at_155, rfl⟩
theorem D0_156 : In code 156 1 (.iand) 157 := ⟨at_156, rfl⟩
theorem D0_157 : Jm code 157 (.ifCond .eq) 160 164 := ⟨7, at_157, rfl, by decide, by decide⟩
theorem D0_160 : In code 160 1 (.iconst 1) 161 := ⟨at_160, rfl⟩
theorem D0_161 : Jm code 161 .goto 164 165 := ⟨4, at_161, rfl, by decide, by decide⟩
theorem D0_164 : In code 164 1 (.iconst 0) 165 := ⟨at_164, rfl⟩
theorem D0_165 : In code 165 3 (.invokestatic 7) 168 := ⟨at_165, rfl⟩
theorem D0_168 : In code 168 2 (.lstore 18) 170 := ⟨at_168, rfl⟩
theorem D0_170 : In code 170 2 (.iload 8) 172 := ⟨at_170, rfl⟩
theorem D0_172 : In code 172 2 (.bipush 10) 174 := ⟨at_172, rfl⟩
theorem D0_174 : In code 174 1 (.iushr) 175 := ⟨at_174, rfl⟩
theorem D0_175 : In code 175 2 (.bipush 7) 177 := ⟨at_175, rfl⟩
theorem D0_177 : In code 177 1 (.iand) 178 := ⟨at_177, rfl⟩
theorem D0_178 : In code 178 2 (.istore 20) 180 := ⟨at_178, rfl⟩
theorem D0_180 : In code 180 3 (.new 13) 183 := ⟨at_180, rfl⟩
theorem D0_183 : In code 183 1 (.dup) 184 := ⟨at_183, rfl⟩
theorem D0_184 : In code 184 2 (.iload 20) 186 := ⟨at_184, rfl⟩
theorem D0_186 : In code 186 3 (.invokespecial 15) 189 := ⟨at_186, rfl⟩
theorem D0_189 : In code 189 2 (.astore 21) 191 := ⟨at_189, rfl⟩
theorem D0_191 : In code 191 2 (.aload 21) 193 := ⟨at_191, rfl⟩
theorem D0_193 : In code 193 2 (.lload 9) 195 := ⟨at_193, rfl⟩
theorem D0_195 : In code 195 3 (.invokevirtual 18) 198 := ⟨at_195, rfl⟩
theorem D0_198 : In code 198 1 (.pop) 199 := ⟨at_198, rfl⟩
theorem D0_199 : In code 199 2 (.aload 21) 201 := ⟨at_199, rfl⟩
theorem D0_201 : In code 201 2 (.lload 12) 203 := ⟨at_201, rfl⟩
theorem D0_203 : In code 203 3 (.invokevirtual 18) 206 := ⟨at_203, rfl⟩
theorem D0_206 : In code 206 1 (.pop) 207 := ⟨at_206, rfl⟩
theorem D0_207 : In code 207 2 (.aload 21) 209 := ⟨at_207, rfl⟩
theorem D0_209 : In code 209 2 (.lload 15) 211 := ⟨at_209, rfl⟩
theorem D0_211 : In code 211 3 (.invokevirtual 18) 214 := ⟨at_211, rfl⟩
theorem D0_214 : In code 214 1 (.pop) 215 := ⟨at_214, rfl⟩
theorem D0_215 : In code 215 2 (.aload 21) 217 := ⟨at_215, rfl⟩
theorem D0_217 : In code 217 2 (.lload 18) 219 := ⟨at_217, rfl⟩
theorem D0_219 : In code 219 3 (.invokevirtual 18) 222 := ⟨at_219, rfl⟩
theorem D0_222 : In code 222 1 (.pop) 223 := ⟨at_222, rfl⟩
theorem D0_223 : In code 223 2 (.aload 21) 225 := ⟨at_223, rfl⟩
theorem D0_225 : In code 225 3 (.invokevirtual 22) 228 := ⟨at_225, rfl⟩
theorem D0_228 : In code 228 2 (.astore 22) 230 := ⟨at_228, rfl⟩
theorem D0_230 : In code 230 1 (.iconst 4) 231 := ⟨at_230, rfl⟩
theorem D0_231 : In code 231 2 (.newarray .long) 233 := ⟨at_231, rfl⟩
theorem D0_233 : In code 233 2 (.astore 23) 235 := ⟨at_233, rfl⟩
theorem D0_235 : In code 235 1 (.iconst 0) 236 := ⟨at_235, rfl⟩
theorem D0_236 : In code 236 2 (.istore 24) 238 := ⟨at_236, rfl⟩
theorem D0_238 : In code 238 2 (.aload 23) 240 := ⟨at_238, rfl⟩
theorem D0_240 : In code 240 2 (.iload 24) 242 := ⟨at_240, rfl⟩
theorem D0_242 : In code 242 2 (.lload 9) 244 := ⟨at_242, rfl⟩
theorem D0_244 : In code 244 2 (.iload 20) 246 := ⟨at_244, rfl⟩
theorem D0_246 : In code 246 3 (.invokestatic 26) 249 := ⟨at_246, rfl⟩
theorem D0_249 : In code 249 2 (.istore 24) 251 := ⟨at_249, rfl⟩
theorem D0_251 : In code 251 2 (.aload 23) 253 := ⟨at_251, rfl⟩
theorem D0_253 : In code 253 2 (.iload 24) 255 := ⟨at_253, rfl⟩
theorem D0_255 : In code 255 2 (.lload 12) 257 := ⟨at_255, rfl⟩
theorem D0_257 : In code 257 2 (.iload 20) 259 := ⟨at_257, rfl⟩
theorem D0_259 : In code 259 3 (.invokestatic 26) 262 := ⟨at_259, rfl⟩
theorem D0_262 : In code 262 2 (.istore 24) 264 := ⟨at_262, rfl⟩
theorem D0_264 : In code 264 2 (.aload 23) 266 := ⟨at_264, rfl⟩
theorem D0_266 : In code 266 2 (.iload 24) 268 := ⟨at_266, rfl⟩
theorem D0_268 : In code 268 2 (.lload 15) 270 := ⟨at_268, rfl⟩
theorem D0_270 : In code 270 2 (.iload 20) 272 := ⟨at_270, rfl⟩
theorem D0_272 : In code 272 3 (.invokestatic 26) 275 := ⟨at_272, rfl⟩
theorem D0_275 : In code 275 2 (.istore 24) 277 := ⟨at_275, rfl⟩
theorem D0_277 : In code 277 2 (.aload 23) 279 := ⟨at_277, rfl⟩
theorem D0_279 : In code 279 2 (.iload 24) 281 := ⟨at_279, rfl⟩
theorem D0_281 : In code 281 2 (.lload 18) 283 := ⟨at_281, rfl⟩
theorem D0_283 : In code 283 2 (.iload 20) 285 := ⟨at_283, rfl⟩
theorem D0_285 : In code 285 3 (.invokestatic 26) 288 := ⟨at_285, rfl⟩
theorem D0_288 : In code 288 2 (.istore 24) 290 := ⟨at_288, rfl⟩
theorem D0_290 : In code 290 2 (.aload 22) 292 := ⟨at_290, rfl⟩
theorem D0_292 : In code 292 1 (.arraylength) 293 := ⟨at_292, rfl⟩
theorem D0_293 : In code 293 2 (.iload 24) 295 := ⟨at_293, rfl⟩
theorem D0_295 : Jm code 295 (.if_icmp .eq) 298 300 := ⟨5, at_295, rfl, by decide, by decide⟩
theorem D0_300 : In code 300 2 (.iload 24) 302 := ⟨at_300, rfl⟩
theorem D0_302 : In code 302 1 (.iconst 1) 303 := ⟨at_302, rfl⟩
theorem D0_303 : Jm code 303 (.if_icmp .lt) 306 318 := ⟨15, at_303, rfl, by decide, by decide⟩
theorem D0_306 : In code 306 2 (.aload 22) 308 := ⟨at_306, rfl⟩
theorem D0_308 : In code 308 1 (.iconst 0) 309 := ⟨at_308, rfl⟩
theorem D0_309 : In code 309 1 (.laload) 310 := ⟨at_309, rfl⟩
theorem D0_310 : In code 310 2 (.aload 23) 312 := ⟨at_310, rfl⟩
theorem D0_312 : In code 312 1 (.iconst 0) 313 := ⟨at_312, rfl⟩
theorem D0_313 : In code 313 1 (.laload) 314 := ⟨at_313, rfl⟩
theorem D0_314 : In code 314 1 (.lcmp) 315 := ⟨at_314, rfl⟩
theorem D0_315 : Jm code 315 (.ifCond .ne) 318 376 := ⟨61, at_315, rfl, by decide, by decide⟩
theorem D0_318 : In code 318 2 (.iload 24) 320 := ⟨at_318, rfl⟩
theorem D0_320 : In code 320 1 (.iconst 2) 321 := ⟨at_320, rfl⟩
theorem D0_321 : Jm code 321 (.if_icmp .lt) 324 336 := ⟨15, at_321, rfl, by decide, by decide⟩
theorem D0_324 : In code 324 2 (.aload 22) 326 := ⟨at_324, rfl⟩
theorem D0_326 : In code 326 1 (.iconst 1) 327 := ⟨at_326, rfl⟩
theorem D0_327 : In code 327 1 (.laload) 328 := ⟨at_327, rfl⟩
theorem D0_328 : In code 328 2 (.aload 23) 330 := ⟨at_328, rfl⟩
theorem D0_330 : In code 330 1 (.iconst 1) 331 := ⟨at_330, rfl⟩
theorem D0_331 : In code 331 1 (.laload) 332 := ⟨at_331, rfl⟩
theorem D0_332 : In code 332 1 (.lcmp) 333 := ⟨at_332, rfl⟩
theorem D0_333 : Jm code 333 (.ifCond .ne) 336 376 := ⟨43, at_333, rfl, by decide, by decide⟩
theorem D0_336 : In code 336 2 (.iload 24) 338 := ⟨at_336, rfl⟩
theorem D0_338 : In code 338 1 (.iconst 3) 339 := ⟨at_338, rfl⟩
theorem D0_339 : Jm code 339 (.if_icmp .lt) 342 354 := ⟨15, at_339, rfl, by decide, by decide⟩
theorem D0_342 : In code 342 2 (.aload 22) 344 := ⟨at_342, rfl⟩
theorem D0_344 : In code 344 1 (.iconst 2) 345 := ⟨at_344, rfl⟩
theorem D0_345 : In code 345 1 (.laload) 346 := ⟨at_345, rfl⟩
theorem D0_346 : In code 346 2 (.aload 23) 348 := ⟨at_346, rfl⟩
theorem D0_348 : In code 348 1 (.iconst 2) 349 := ⟨at_348, rfl⟩
theorem D0_349 : In code 349 1 (.laload) 350 := ⟨at_349, rfl⟩
theorem D0_350 : In code 350 1 (.lcmp) 351 := ⟨at_350, rfl⟩
theorem D0_351 : Jm code 351 (.ifCond .ne) 354 376 := ⟨25, at_351, rfl, by decide, by decide⟩
theorem D0_354 : In code 354 2 (.iload 24) 356 := ⟨at_354, rfl⟩
theorem D0_356 : In code 356 1 (.iconst 4) 357 := ⟨at_356, rfl⟩
theorem D0_357 : Jm code 357 (.if_icmp .lt) 360 372 := ⟨15, at_357, rfl, by decide, by decide⟩
theorem D0_360 : In code 360 2 (.aload 22) 362 := ⟨at_360, rfl⟩
theorem D0_362 : In code 362 1 (.iconst 3) 363 := ⟨at_362, rfl⟩
theorem D0_363 : In code 363 1 (.laload) 364 := ⟨at_363, rfl⟩
theorem D0_364 : In code 364 2 (.aload 23) 366 := ⟨at_364, rfl⟩
theorem D0_366 : In code 366 1 (.iconst 3) 367 := ⟨at_366, rfl⟩
theorem D0_367 : In code 367 1 (.laload) 368 := ⟨at_367, rfl⟩
theorem D0_368 : In code 368 1 (.lcmp) 369 := ⟨at_368, rfl⟩
theorem D0_369 : Jm code 369 (.ifCond .ne) 372 376 := ⟨7, at_369, rfl, by decide, by decide⟩
theorem D0_372 : In code 372 1 (.iconst 1) 373 := ⟨at_372, rfl⟩
theorem D0_373 : Jm code 373 .goto 376 377 := ⟨4, at_373, rfl, by decide, by decide⟩
theorem D0_377 : In code 377 1 (.ireturn) 378 := ⟨at_377, rfl⟩
theorem D1_0 : In method_3_code 0 1 (.iload_n 2) 1 := ⟨by decide +kernel, rfl⟩
theorem D1_1 : Jm method_3_code 1 (.ifCond .eq) 4 12 := ⟨11, by decide +kernel, rfl, by decide, by decide⟩
theorem D1_4 : In method_3_code 4 1 (.lload_n 0) 5 := ⟨by decide +kernel, rfl⟩
theorem D1_5 : In method_3_code 5 3 (.ldc2_w 30) 8 := ⟨by decide +kernel, rfl⟩
theorem D1_8 : In method_3_code 8 1 (.land) 9 := ⟨by decide +kernel, rfl⟩
theorem D1_9 : Jm method_3_code 9 .goto 12 17 := ⟨8, by decide +kernel, rfl, by decide, by decide⟩
theorem D1_12 : In method_3_code 12 1 (.lload_n 0) 13 := ⟨by decide +kernel, rfl⟩
theorem D1_13 : In method_3_code 13 3 (.ldc2_w 34) 16 := ⟨by decide +kernel, rfl⟩
theorem D1_16 : In method_3_code 16 1 (.land) 17 := ⟨by decide +kernel, rfl⟩
theorem D1_17 : In method_3_code 17 1 (.lreturn) 18 := ⟨by decide +kernel, rfl⟩
theorem D2_0 : In prog_29_method_1_code 0 1 (.aload_n 0) 1 := ⟨by decide +kernel, rfl⟩
theorem D2_1 : In prog_29_method_1_code 1 3 (.invokespecial 1) 4 := ⟨by decide +kernel, rfl⟩
theorem D2_4 : In prog_29_method_1_code 4 1 (.aload_n 0) 5 := ⟨by decide +kernel, rfl⟩
theorem D2_5 : In prog_29_method_1_code 5 1 (.iconst 0) 6 := ⟨by decide +kernel, rfl⟩
theorem D2_6 : In prog_29_method_1_code 6 2 (.newarray .int) 8 := ⟨by decide +kernel, rfl⟩
theorem D2_8 : In prog_29_method_1_code 8 3 (.putfield 7) 11 := ⟨by decide +kernel, rfl⟩
theorem D2_11 : In prog_29_method_1_code 11 1 (.aload_n 0) 12 := ⟨by decide +kernel, rfl⟩
theorem D2_12 : In prog_29_method_1_code 12 2 (.bipush 16) 14 := ⟨by decide +kernel, rfl⟩
theorem D2_14 : In prog_29_method_1_code 14 3 (.invokestatic 13) 17 := ⟨by decide +kernel, rfl⟩
theorem D2_17 : In prog_29_method_1_code 17 3 (.putfield 17) 20 := ⟨by decide +kernel, rfl⟩
theorem D2_20 : In prog_29_method_1_code 20 1 (.aload_n 0) 21 := ⟨by decide +kernel, rfl⟩
theorem D2_21 : In prog_29_method_1_code 21 2 (.bipush 16) 23 := ⟨by decide +kernel, rfl⟩
theorem D2_23 : In prog_29_method_1_code 23 2 (.newarray .int) 25 := ⟨by decide +kernel, rfl⟩
theorem D2_25 : In prog_29_method_1_code 25 3 (.putfield 21) 28 := ⟨by decide +kernel, rfl⟩
theorem D2_28 : In prog_29_method_1_code 28 1 (.aload_n 0) 29 := ⟨by decide +kernel, rfl⟩
theorem D2_29 : In prog_29_method_1_code 29 1 (.iload_n 1) 30 := ⟨by decide +kernel, rfl⟩
theorem D2_30 : In prog_29_method_1_code 30 3 (.putfield 24) 33 := ⟨by decide +kernel, rfl⟩
theorem D2_33 : In prog_29_method_1_code 33 1 (.return_) 34 := ⟨by decide +kernel, rfl⟩
theorem D4_0 : In prog_29_method_11_code 0 1 (.iload_n 0) 1 := ⟨by decide +kernel, rfl⟩
theorem D4_1 : In prog_29_method_11_code 1 2 (.newarray .long) 3 := ⟨by decide +kernel, rfl⟩
theorem D4_3 : In prog_29_method_11_code 3 1 (.astore_n 1) 4 := ⟨by decide +kernel, rfl⟩
theorem D4_4 : In prog_29_method_11_code 4 1 (.aload_n 1) 5 := ⟨by decide +kernel, rfl⟩
theorem D4_5 : In prog_29_method_11_code 5 3 (.ldc2_w 71) 8 := ⟨by decide +kernel, rfl⟩
theorem D4_8 : In prog_29_method_11_code 8 3 (.invokestatic 89) 11 := ⟨by decide +kernel, rfl⟩
theorem D4_11 : In prog_29_method_11_code 11 1 (.aload_n 1) 12 := ⟨by decide +kernel, rfl⟩
theorem D4_12 : In prog_29_method_11_code 12 1 (.areturn) 13 := ⟨by decide +kernel, rfl⟩
theorem D5_0 : In jdk_65_method_101_code 0 1 (.iconst 0) 1 := ⟨by decide +kernel, rfl⟩
theorem D5_1 : In jdk_65_method_101_code 1 1 (.istore_n 3) 2 := ⟨by decide +kernel, rfl⟩
theorem D5_2 : In jdk_65_method_101_code 2 1 (.aload_n 0) 3 := ⟨by decide +kernel, rfl⟩
theorem D5_3 : In jdk_65_method_101_code 3 1 (.arraylength) 4 := ⟨by decide +kernel, rfl⟩
theorem D5_4 : In jdk_65_method_101_code 4 2 (.istore 4) 6 := ⟨by decide +kernel, rfl⟩
theorem D5_6 : In jdk_65_method_101_code 6 1 (.iload_n 3) 7 := ⟨by decide +kernel, rfl⟩
theorem D5_7 : In jdk_65_method_101_code 7 2 (.iload 4) 9 := ⟨by decide +kernel, rfl⟩
theorem D5_9 : Jm jdk_65_method_101_code 9 (.if_icmp .ge) 12 22 := ⟨13, by decide +kernel, rfl, by decide, by decide⟩
theorem D5_12 : In jdk_65_method_101_code 12 1 (.aload_n 0) 13 := ⟨by decide +kernel, rfl⟩
theorem D5_13 : In jdk_65_method_101_code 13 1 (.iload_n 3) 14 := ⟨by decide +kernel, rfl⟩
theorem D5_14 : In jdk_65_method_101_code 14 1 (.lload_n 1) 15 := ⟨by decide +kernel, rfl⟩
theorem D5_15 : In jdk_65_method_101_code 15 1 (.lastore) 16 := ⟨by decide +kernel, rfl⟩
theorem D5_16 : In jdk_65_method_101_code 16 3 (.iinc 3 1) 19 := ⟨by decide +kernel, rfl⟩
theorem D5_19 : Jm jdk_65_method_101_code 19 .goto 22 6 := ⟨(-13), by decide +kernel, rfl, by decide, by decide⟩
theorem D5_22 : In jdk_65_method_101_code 22 1 (.return_) 23 := ⟨by decide +kernel, rfl⟩
theorem D6_0 : In prog_29_method_2_code 0 1 (.aload_n 0) 1 := ⟨by decide +kernel, rfl⟩
theorem D6_1 : In prog_29_method_2_code 1 1 (.lload_n 1) 2 := ⟨by decide +kernel, rfl⟩
theorem D6_2 : In prog_29_method_2_code 2 3 (.invokevirtual 28) 5 := ⟨by decide +kernel, rfl⟩
theorem D6_5 : In prog_29_method_2_code 5 1 (.istore_n 3) 6 := ⟨by decide +kernel, rfl⟩
theorem D6_6 : In prog_29_method_2_code 6 1 (.iload_n 3) 7 := ⟨by decide +kernel, rfl⟩
theorem D6_7 : Jm prog_29_method_2_code 7 (.ifCond .ge) 10 150 := ⟨143, by decide +kernel, rfl, by decide, by decide⟩
theorem D6_10 : In prog_29_method_2_code 10 1 (.aload_n 0) 11 := ⟨by decide +kernel, rfl⟩
theorem D6_11 : In prog_29_method_2_code 11 3 (.getfield 32) 14 := ⟨by decide +kernel, rfl⟩
theorem D6_14 : In prog_29_method_2_code 14 1 (.aload_n 0) 15 := ⟨by decide +kernel, rfl⟩
theorem D6_15 : In prog_29_method_2_code 15 3 (.getfield 24) 18 := ⟨by decide +kernel, rfl⟩
theorem D6_18 : Jm prog_29_method_2_code 18 (.if_icmp .ge) 21 150 := ⟨132, by decide +kernel, rfl, by decide, by decide⟩
theorem D6_21 : In prog_29_method_2_code 21 3 (.ldc2_w 37) 24 := ⟨by decide +kernel, rfl⟩
theorem D6_24 : In prog_29_method_2_code 24 3 (.ldc2_w 39) 27 := ⟨by decide +kernel, rfl⟩
theorem D6_27 : In prog_29_method_2_code 27 1 (.aload_n 0) 28 := ⟨by decide +kernel, rfl⟩
theorem D6_28 : In prog_29_method_2_code 28 3 (.getfield 32) 31 := ⟨by decide +kernel, rfl⟩
theorem D6_31 : In prog_29_method_2_code 31 1 (.i2l) 32 := ⟨by decide +kernel, rfl⟩
theorem D6_32 : In prog_29_method_2_code 32 1 (.lmul) 33 := ⟨by decide +kernel, rfl⟩
theorem D6_33 : In prog_29_method_2_code 33 3 (.ldc2_w 41) 36 := ⟨by decide +kernel, rfl⟩
theorem D6_36 : In prog_29_method_2_code 36 1 (.ladd) 37 := ⟨by decide +kernel, rfl⟩
theorem D6_37 : In prog_29_method_2_code 37 3 (.invokestatic 43) 40 := ⟨by decide +kernel, rfl⟩
theorem D6_40 : In prog_29_method_2_code 40 2 (.lstore 4) 42 := ⟨by decide +kernel, rfl⟩
theorem D6_42 : In prog_29_method_2_code 42 1 (.lload_n 1) 43 := ⟨by decide +kernel, rfl⟩
theorem D6_43 : In prog_29_method_2_code 43 1 (.aload_n 0) 44 := ⟨by decide +kernel, rfl⟩
theorem D6_44 : In prog_29_method_2_code 44 3 (.getfield 7) 47 := ⟨by decide +kernel, rfl⟩
theorem D6_47 : In prog_29_method_2_code 47 1 (.arraylength) 48 := ⟨by decide +kernel, rfl⟩
theorem D6_48 : In prog_29_method_2_code 48 1 (.i2l) 49 := ⟨by decide +kernel, rfl⟩
theorem D6_49 : In prog_29_method_2_code 49 1 (.lcmp) 50 := ⟨by decide +kernel, rfl⟩
theorem D6_50 : Jm prog_29_method_2_code 50 (.ifCond .lt) 53 99 := ⟨49, by decide +kernel, rfl, by decide, by decide⟩
theorem D6_53 : In prog_29_method_2_code 53 1 (.lload_n 1) 54 := ⟨by decide +kernel, rfl⟩
theorem D6_54 : In prog_29_method_2_code 54 2 (.lload 4) 56 := ⟨by decide +kernel, rfl⟩
theorem D6_56 : In prog_29_method_2_code 56 1 (.lcmp) 57 := ⟨by decide +kernel, rfl⟩
theorem D6_57 : Jm prog_29_method_2_code 57 (.ifCond .ge) 60 99 := ⟨42, by decide +kernel, rfl, by decide, by decide⟩
theorem D6_60 : In prog_29_method_2_code 60 1 (.lload_n 1) 61 := ⟨by decide +kernel, rfl⟩
theorem D6_61 : In prog_29_method_2_code 61 1 (.lconst 1) 62 := ⟨by decide +kernel, rfl⟩
theorem D6_62 : In prog_29_method_2_code 62 1 (.ladd) 63 := ⟨by decide +kernel, rfl⟩
theorem D6_63 : In prog_29_method_2_code 63 3 (.ldc2_w 49) 66 := ⟨by decide +kernel, rfl⟩
theorem D6_66 : In prog_29_method_2_code 66 3 (.ldc2_w 51) 69 := ⟨by decide +kernel, rfl⟩
theorem D6_69 : In prog_29_method_2_code 69 1 (.aload_n 0) 70 := ⟨by decide +kernel, rfl⟩
theorem D6_70 : In prog_29_method_2_code 70 3 (.getfield 7) 73 := ⟨by decide +kernel, rfl⟩
theorem D6_73 : In prog_29_method_2_code 73 1 (.arraylength) 74 := ⟨by decide +kernel, rfl⟩
theorem D6_74 : In prog_29_method_2_code 74 1 (.i2l) 75 := ⟨by decide +kernel, rfl⟩
theorem D6_75 : In prog_29_method_2_code 75 1 (.lmul) 76 := ⟨by decide +kernel, rfl⟩
theorem D6_76 : In prog_29_method_2_code 76 3 (.invokestatic 53) 79 := ⟨by decide +kernel, rfl⟩
theorem D6_79 : In prog_29_method_2_code 79 3 (.invokestatic 53) 82 := ⟨by decide +kernel, rfl⟩
theorem D6_82 : In prog_29_method_2_code 82 2 (.lstore 6) 84 := ⟨by decide +kernel, rfl⟩
theorem D6_84 : In prog_29_method_2_code 84 2 (.lload 6) 86 := ⟨by decide +kernel, rfl⟩
theorem D6_86 : In prog_29_method_2_code 86 2 (.lload 4) 88 := ⟨by decide +kernel, rfl⟩
theorem D6_88 : In prog_29_method_2_code 88 1 (.lcmp) 89 := ⟨by decide +kernel, rfl⟩
theorem D6_89 : Jm prog_29_method_2_code 89 (.ifCond .gt) 92 99 := ⟨10, by decide +kernel, rfl, by decide, by decide⟩
theorem D6_92 : In prog_29_method_2_code 92 1 (.aload_n 0) 93 := ⟨by decide +kernel, rfl⟩
theorem D6_93 : In prog_29_method_2_code 93 2 (.lload 6) 95 := ⟨by decide +kernel, rfl⟩
theorem D6_95 : In prog_29_method_2_code 95 1 (.l2i) 96 := ⟨by decide +kernel, rfl⟩
theorem D6_96 : In prog_29_method_2_code 96 3 (.invokevirtual 56) 99 := ⟨by decide +kernel, rfl⟩
theorem D6_99 : In prog_29_method_2_code 99 1 (.lload_n 1) 100 := ⟨by decide +kernel, rfl⟩
theorem D6_100 : In prog_29_method_2_code 100 1 (.aload_n 0) 101 := ⟨by decide +kernel, rfl⟩
theorem D6_101 : In prog_29_method_2_code 101 3 (.getfield 7) 104 := ⟨by decide +kernel, rfl⟩
theorem D6_104 : In prog_29_method_2_code 104 1 (.arraylength) 105 := ⟨by decide +kernel, rfl⟩
theorem D6_105 : In prog_29_method_2_code 105 1 (.i2l) 106 := ⟨by decide +kernel, rfl⟩
theorem D6_106 : In prog_29_method_2_code 106 1 (.lcmp) 107 := ⟨by decide +kernel, rfl⟩
theorem D6_107 : Jm prog_29_method_2_code 107 (.ifCond .ge) 110 126 := ⟨19, by decide +kernel, rfl, by decide, by decide⟩
theorem D6_110 : In prog_29_method_2_code 110 1 (.aload_n 0) 111 := ⟨by decide +kernel, rfl⟩
theorem D6_111 : In prog_29_method_2_code 111 3 (.getfield 7) 114 := ⟨by decide +kernel, rfl⟩
theorem D6_114 : In prog_29_method_2_code 114 1 (.lload_n 1) 115 := ⟨by decide +kernel, rfl⟩
theorem D6_115 : In prog_29_method_2_code 115 1 (.l2i) 116 := ⟨by decide +kernel, rfl⟩
theorem D6_116 : In prog_29_method_2_code 116 1 (.aload_n 0) 117 := ⟨by decide +kernel, rfl⟩
theorem D6_117 : In prog_29_method_2_code 117 3 (.getfield 32) 120 := ⟨by decide +kernel, rfl⟩
theorem D6_120 : In prog_29_method_2_code 120 1 (.iconst 1) 121 := ⟨by decide +kernel, rfl⟩
theorem D6_121 : In prog_29_method_2_code 121 1 (.iadd) 122 := ⟨by decide +kernel, rfl⟩
theorem D6_122 : In prog_29_method_2_code 122 1 (.iastore) 123 := ⟨by decide +kernel, rfl⟩
theorem D6_123 : Jm prog_29_method_2_code 123 .goto 126 135 := ⟨12, by decide +kernel, rfl, by decide, by decide⟩
theorem D6_126 : In prog_29_method_2_code 126 1 (.aload_n 0) 127 := ⟨by decide +kernel, rfl⟩
theorem D6_127 : In prog_29_method_2_code 127 1 (.lload_n 1) 128 := ⟨by decide +kernel, rfl⟩
theorem D6_128 : In prog_29_method_2_code 128 1 (.aload_n 0) 129 := ⟨by decide +kernel, rfl⟩
theorem D6_129 : In prog_29_method_2_code 129 3 (.getfield 32) 132 := ⟨by decide +kernel, rfl⟩
theorem D6_132 : In prog_29_method_2_code 132 3 (.invokevirtual 60) 135 := ⟨by decide +kernel, rfl⟩
theorem D6_135 : In prog_29_method_2_code 135 1 (.aload_n 0) 136 := ⟨by decide +kernel, rfl⟩
theorem D6_136 : In prog_29_method_2_code 136 3 (.getfield 32) 139 := ⟨by decide +kernel, rfl⟩
theorem D6_139 : In prog_29_method_2_code 139 1 (.istore_n 3) 140 := ⟨by decide +kernel, rfl⟩
theorem D6_140 : In prog_29_method_2_code 140 1 (.aload_n 0) 141 := ⟨by decide +kernel, rfl⟩
theorem D6_141 : In prog_29_method_2_code 141 1 (.dup) 142 := ⟨by decide +kernel, rfl⟩
theorem D6_142 : In prog_29_method_2_code 142 3 (.getfield 32) 145 := ⟨by decide +kernel, rfl⟩
theorem D6_145 : In prog_29_method_2_code 145 1 (.iconst 1) 146 := ⟨by decide +kernel, rfl⟩
theorem D6_146 : In prog_29_method_2_code 146 1 (.iadd) 147 := ⟨by decide +kernel, rfl⟩
theorem D6_147 : In prog_29_method_2_code 147 3 (.putfield 32) 150 := ⟨by decide +kernel, rfl⟩
theorem D6_150 : In prog_29_method_2_code 150 1 (.iload_n 3) 151 := ⟨by decide +kernel, rfl⟩
theorem D6_151 : In prog_29_method_2_code 151 1 (.ireturn) 152 := ⟨by decide +kernel, rfl⟩
theorem D7_0 : In prog_29_method_3_code 0 1 (.iconst (-1)) 1 := ⟨by decide +kernel, rfl⟩
theorem D7_1 : In prog_29_method_3_code 1 1 (.istore_n 3) 2 := ⟨by decide +kernel, rfl⟩
theorem D7_2 : In prog_29_method_3_code 2 1 (.lload_n 1) 3 := ⟨by decide +kernel, rfl⟩
theorem D7_3 : In prog_29_method_3_code 3 1 (.aload_n 0) 4 := ⟨by decide +kernel, rfl⟩
theorem D7_4 : In prog_29_method_3_code 4 3 (.getfield 7) 7 := ⟨by decide +kernel, rfl⟩
theorem D7_7 : In prog_29_method_3_code 7 1 (.arraylength) 8 := ⟨by decide +kernel, rfl⟩
theorem D7_8 : In prog_29_method_3_code 8 1 (.i2l) 9 := ⟨by decide +kernel, rfl⟩
theorem D7_9 : In prog_29_method_3_code 9 1 (.lcmp) 10 := ⟨by decide +kernel, rfl⟩
theorem D7_10 : Jm prog_29_method_3_code 10 (.ifCond .ge) 13 26 := ⟨16, by decide +kernel, rfl, by decide, by decide⟩
theorem D7_13 : In prog_29_method_3_code 13 1 (.aload_n 0) 14 := ⟨by decide +kernel, rfl⟩
theorem D7_14 : In prog_29_method_3_code 14 3 (.getfield 7) 17 := ⟨by decide +kernel, rfl⟩
theorem D7_17 : In prog_29_method_3_code 17 1 (.lload_n 1) 18 := ⟨by decide +kernel, rfl⟩
theorem D7_18 : In prog_29_method_3_code 18 1 (.l2i) 19 := ⟨by decide +kernel, rfl⟩
theorem D7_19 : In prog_29_method_3_code 19 1 (.iaload) 20 := ⟨by decide +kernel, rfl⟩
theorem D7_20 : In prog_29_method_3_code 20 1 (.iconst 1) 21 := ⟨by decide +kernel, rfl⟩
theorem D7_21 : In prog_29_method_3_code 21 1 (.isub) 22 := ⟨by decide +kernel, rfl⟩
theorem D7_22 : In prog_29_method_3_code 22 1 (.istore_n 3) 23 := ⟨by decide +kernel, rfl⟩
theorem D7_23 : Jm prog_29_method_3_code 23 .goto 26 124 := ⟨101, by decide +kernel, rfl, by decide, by decide⟩
theorem D7_26 : In prog_29_method_3_code 26 1 (.aload_n 0) 27 := ⟨by decide +kernel, rfl⟩
theorem D7_27 : In prog_29_method_3_code 27 3 (.getfield 64) 30 := ⟨by decide +kernel, rfl⟩
theorem D7_30 : Jm prog_29_method_3_code 30 (.ifCond .le) 33 124 := ⟨94, by decide +kernel, rfl, by decide, by decide⟩
theorem D7_33 : In prog_29_method_3_code 33 1 (.lload_n 1) 34 := ⟨by decide +kernel, rfl⟩
theorem D7_34 : In prog_29_method_3_code 34 1 (.aload_n 0) 35 := ⟨by decide +kernel, rfl⟩
theorem D7_35 : In prog_29_method_3_code 35 3 (.getfield 17) 38 := ⟨by decide +kernel, rfl⟩
theorem D7_38 : In prog_29_method_3_code 38 1 (.arraylength) 39 := ⟨by decide +kernel, rfl⟩
theorem D7_39 : In prog_29_method_3_code 39 3 (.invokestatic 67) 42 := ⟨by decide +kernel, rfl⟩
theorem D7_42 : In prog_29_method_3_code 42 2 (.istore 4) 44 := ⟨by decide +kernel, rfl⟩
theorem D7_44 : In prog_29_method_3_code 44 1 (.aload_n 0) 45 := ⟨by decide +kernel, rfl⟩
theorem D7_45 : In prog_29_method_3_code 45 3 (.getfield 17) 48 := ⟨by decide +kernel, rfl⟩
theorem D7_48 : In prog_29_method_3_code 48 2 (.iload 4) 50 := ⟨by decide +kernel, rfl⟩
theorem D7_50 : In prog_29_method_3_code 50 1 (.laload) 51 := ⟨by decide +kernel, rfl⟩
theorem D7_51 : In prog_29_method_3_code 51 2 (.lstore 5) 53 := ⟨by decide +kernel, rfl⟩
theorem D7_53 : In prog_29_method_3_code 53 2 (.lload 5) 55 := ⟨by decide +kernel, rfl⟩
theorem D7_55 : In prog_29_method_3_code 55 1 (.lload_n 1) 56 := ⟨by decide +kernel, rfl⟩
theorem D7_56 : In prog_29_method_3_code 56 1 (.lcmp) 57 := ⟨by decide +kernel, rfl⟩
theorem D7_57 : Jm prog_29_method_3_code 57 (.ifCond .eq) 60 103 := ⟨46, by decide +kernel, rfl, by decide, by decide⟩
theorem D7_60 : In prog_29_method_3_code 60 2 (.lload 5) 62 := ⟨by decide +kernel, rfl⟩
theorem D7_62 : In prog_29_method_3_code 62 3 (.ldc2_w 71) 65 := ⟨by decide +kernel, rfl⟩
theorem D7_65 : In prog_29_method_3_code 65 1 (.lcmp) 66 := ⟨by decide +kernel, rfl⟩
theorem D7_66 : Jm prog_29_method_3_code 66 (.ifCond .eq) 69 103 := ⟨37, by decide +kernel, rfl, by decide, by decide⟩
theorem D7_69 : In prog_29_method_3_code 69 2 (.iload 4) 71 := ⟨by decide +kernel, rfl⟩
theorem D7_71 : In prog_29_method_3_code 71 1 (.iconst 1) 72 := ⟨by decide +kernel, rfl⟩
theorem D7_72 : In prog_29_method_3_code 72 1 (.iadd) 73 := ⟨by decide +kernel, rfl⟩
theorem D7_73 : In prog_29_method_3_code 73 1 (.aload_n 0) 74 := ⟨by decide +kernel, rfl⟩
theorem D7_74 : In prog_29_method_3_code 74 3 (.getfield 17) 77 := ⟨by decide +kernel, rfl⟩
theorem D7_77 : In prog_29_method_3_code 77 1 (.arraylength) 78 := ⟨by decide +kernel, rfl⟩
theorem D7_78 : Jm prog_29_method_3_code 78 (.if_icmp .ne) 81 85 := ⟨7, by decide +kernel, rfl, by decide, by decide⟩
theorem D7_81 : In prog_29_method_3_code 81 1 (.iconst 0) 82 := ⟨by decide +kernel, rfl⟩
theorem D7_82 : Jm prog_29_method_3_code 82 .goto 85 89 := ⟨7, by decide +kernel, rfl, by decide, by decide⟩
theorem D7_85 : In prog_29_method_3_code 85 2 (.iload 4) 87 := ⟨by decide +kernel, rfl⟩
theorem D7_87 : In prog_29_method_3_code 87 1 (.iconst 1) 88 := ⟨by decide +kernel, rfl⟩
theorem D7_88 : In prog_29_method_3_code 88 1 (.iadd) 89 := ⟨by decide +kernel, rfl⟩
theorem D7_89 : In prog_29_method_3_code 89 2 (.istore 4) 91 := ⟨by decide +kernel, rfl⟩
theorem D7_91 : In prog_29_method_3_code 91 1 (.aload_n 0) 92 := ⟨by decide +kernel, rfl⟩
theorem D7_92 : In prog_29_method_3_code 92 3 (.getfield 17) 95 := ⟨by decide +kernel, rfl⟩
theorem D7_95 : In prog_29_method_3_code 95 2 (.iload 4) 97 := ⟨by decide +kernel, rfl⟩
theorem D7_97 : In prog_29_method_3_code 97 1 (.laload) 98 := ⟨by decide +kernel, rfl⟩
theorem D7_98 : In prog_29_method_3_code 98 2 (.lstore 5) 100 := ⟨by decide +kernel, rfl⟩
theorem D7_100 : Jm prog_29_method_3_code 100 .goto 103 53 := ⟨(-47), by decide +kernel, rfl, by decide, by decide⟩
theorem D7_103 : In prog_29_method_3_code 103 2 (.lload 5) 105 := ⟨by decide +kernel, rfl⟩
theorem D7_105 : In prog_29_method_3_code 105 3 (.ldc2_w 71) 108 := ⟨by decide +kernel, rfl⟩
theorem D7_108 : In prog_29_method_3_code 108 1 (.lcmp) 109 := ⟨by decide +kernel, rfl⟩
theorem D7_109 : Jm prog_29_method_3_code 109 (.ifCond .ne) 112 116 := ⟨7, by decide +kernel, rfl, by decide, by decide⟩
theorem D7_112 : In prog_29_method_3_code 112 1 (.iconst (-1)) 113 := ⟨by decide +kernel, rfl⟩
theorem D7_113 : Jm prog_29_method_3_code 113 .goto 116 123 := ⟨10, by decide +kernel, rfl, by decide, by decide⟩
theorem D7_116 : In prog_29_method_3_code 116 1 (.aload_n 0) 117 := ⟨by decide +kernel, rfl⟩
theorem D7_117 : In prog_29_method_3_code 117 3 (.getfield 21) 120 := ⟨by decide +kernel, rfl⟩
theorem D7_120 : In prog_29_method_3_code 120 2 (.iload 4) 122 := ⟨by decide +kernel, rfl⟩
theorem D7_122 : In prog_29_method_3_code 122 1 (.iaload) 123 := ⟨by decide +kernel, rfl⟩
theorem D7_123 : In prog_29_method_3_code 123 1 (.istore_n 3) 124 := ⟨by decide +kernel, rfl⟩
theorem D7_124 : In prog_29_method_3_code 124 1 (.iload_n 3) 125 := ⟨by decide +kernel, rfl⟩
theorem D7_125 : In prog_29_method_3_code 125 1 (.ireturn) 126 := ⟨by decide +kernel, rfl⟩
theorem D8_0 : In prog_29_method_5_code 0 1 (.aload_n 0) 1 := ⟨by decide +kernel, rfl⟩
theorem D8_1 : In prog_29_method_5_code 1 3 (.getfield 32) 4 := ⟨by decide +kernel, rfl⟩
theorem D8_4 : In prog_29_method_5_code 4 2 (.newarray .long) 6 := ⟨by decide +kernel, rfl⟩
theorem D8_6 : In prog_29_method_5_code 6 1 (.astore_n 1) 7 := ⟨by decide +kernel, rfl⟩
theorem D8_7 : In prog_29_method_5_code 7 1 (.iconst 0) 8 := ⟨by decide +kernel, rfl⟩
theorem D8_8 : In prog_29_method_5_code 8 1 (.istore_n 2) 9 := ⟨by decide +kernel, rfl⟩
theorem D8_9 : In prog_29_method_5_code 9 1 (.iload_n 2) 10 := ⟨by decide +kernel, rfl⟩
theorem D8_10 : In prog_29_method_5_code 10 1 (.aload_n 0) 11 := ⟨by decide +kernel, rfl⟩
theorem D8_11 : In prog_29_method_5_code 11 3 (.getfield 7) 14 := ⟨by decide +kernel, rfl⟩
theorem D8_14 : In prog_29_method_5_code 14 1 (.arraylength) 15 := ⟨by decide +kernel, rfl⟩
theorem D8_15 : Jm prog_29_method_5_code 15 (.if_icmp .ge) 18 45 := ⟨30, by decide +kernel, rfl, by decide, by decide⟩
theorem D8_18 : In prog_29_method_5_code 18 1 (.aload_n 0) 19 := ⟨by decide +kernel, rfl⟩
theorem D8_19 : In prog_29_method_5_code 19 3 (.getfield 7) 22 := ⟨by decide +kernel, rfl⟩
theorem D8_22 : In prog_29_method_5_code 22 1 (.iload_n 2) 23 := ⟨by decide +kernel, rfl⟩
theorem D8_23 : In prog_29_method_5_code 23 1 (.iaload) 24 := ⟨by decide +kernel, rfl⟩
theorem D8_24 : Jm prog_29_method_5_code 24 (.ifCond .eq) 27 39 := ⟨15, by decide +kernel, rfl, by decide, by decide⟩
theorem D8_27 : In prog_29_method_5_code 27 1 (.aload_n 1) 28 := ⟨by decide +kernel, rfl⟩
theorem D8_28 : In prog_29_method_5_code 28 1 (.aload_n 0) 29 := ⟨by decide +kernel, rfl⟩
theorem D8_29 : In prog_29_method_5_code 29 3 (.getfield 7) 32 := ⟨by decide +kernel, rfl⟩
theorem D8_32 : In prog_29_method_5_code 32 1 (.iload_n 2) 33 := ⟨by decide +kernel, rfl⟩
theorem D8_33 : In prog_29_method_5_code 33 1 (.iaload) 34 := ⟨by decide +kernel, rfl⟩
theorem D8_34 : In prog_29_method_5_code 34 1 (.iconst 1) 35 := ⟨by decide +kernel, rfl⟩
theorem D8_35 : In prog_29_method_5_code 35 1 (.isub) 36 := ⟨by decide +kernel, rfl⟩
theorem D8_36 : In prog_29_method_5_code 36 1 (.iload_n 2) 37 := ⟨by decide +kernel, rfl⟩
theorem D8_37 : In prog_29_method_5_code 37 1 (.i2l) 38 := ⟨by decide +kernel, rfl⟩
theorem D8_38 : In prog_29_method_5_code 38 1 (.lastore) 39 := ⟨by decide +kernel, rfl⟩
theorem D8_39 : In prog_29_method_5_code 39 3 (.iinc 2 1) 42 := ⟨by decide +kernel, rfl⟩
theorem D8_42 : Jm prog_29_method_5_code 42 .goto 45 9 := ⟨(-33), by decide +kernel, rfl, by decide, by decide⟩
theorem D8_45 : In prog_29_method_5_code 45 1 (.iconst 0) 46 := ⟨by decide +kernel, rfl⟩
theorem D8_46 : In prog_29_method_5_code 46 1 (.istore_n 2) 47 := ⟨by decide +kernel, rfl⟩
theorem D8_47 : In prog_29_method_5_code 47 1 (.iload_n 2) 48 := ⟨by decide +kernel, rfl⟩
theorem D8_48 : In prog_29_method_5_code 48 1 (.aload_n 0) 49 := ⟨by decide +kernel, rfl⟩
theorem D8_49 : In prog_29_method_5_code 49 3 (.getfield 17) 52 := ⟨by decide +kernel, rfl⟩
theorem D8_52 : In prog_29_method_5_code 52 1 (.arraylength) 53 := ⟨by decide +kernel, rfl⟩
theorem D8_53 : Jm prog_29_method_5_code 53 (.if_icmp .ge) 56 89 := ⟨36, by decide +kernel, rfl, by decide, by decide⟩
theorem D8_56 : In prog_29_method_5_code 56 1 (.aload_n 0) 57 := ⟨by decide +kernel, rfl⟩
theorem D8_57 : In prog_29_method_5_code 57 3 (.getfield 17) 60 := ⟨by decide +kernel, rfl⟩
theorem D8_60 : In prog_29_method_5_code 60 1 (.iload_n 2) 61 := ⟨by decide +kernel, rfl⟩
theorem D8_61 : In prog_29_method_5_code 61 1 (.laload) 62 := ⟨by decide +kernel, rfl⟩
theorem D8_62 : In prog_29_method_5_code 62 3 (.ldc2_w 71) 65 := ⟨by decide +kernel, rfl⟩
theorem D8_65 : In prog_29_method_5_code 65 1 (.lcmp) 66 := ⟨by decide +kernel, rfl⟩
theorem D8_66 : Jm prog_29_method_5_code 66 (.ifCond .eq) 69 83 := ⟨17, by decide +kernel, rfl, by decide, by decide⟩
theorem D8_69 : In prog_29_method_5_code 69 1 (.aload_n 1) 70 := ⟨by decide +kernel, rfl⟩
theorem D8_70 : In prog_29_method_5_code 70 1 (.aload_n 0) 71 := ⟨by decide +kernel, rfl⟩
theorem D8_71 : In prog_29_method_5_code 71 3 (.getfield 21) 74 := ⟨by decide +kernel, rfl⟩
theorem D8_74 : In prog_29_method_5_code 74 1 (.iload_n 2) 75 := ⟨by decide +kernel, rfl⟩
theorem D8_75 : In prog_29_method_5_code 75 1 (.iaload) 76 := ⟨by decide +kernel, rfl⟩
theorem D8_76 : In prog_29_method_5_code 76 1 (.aload_n 0) 77 := ⟨by decide +kernel, rfl⟩
theorem D8_77 : In prog_29_method_5_code 77 3 (.getfield 17) 80 := ⟨by decide +kernel, rfl⟩
theorem D8_80 : In prog_29_method_5_code 80 1 (.iload_n 2) 81 := ⟨by decide +kernel, rfl⟩
theorem D8_81 : In prog_29_method_5_code 81 1 (.laload) 82 := ⟨by decide +kernel, rfl⟩
theorem D8_82 : In prog_29_method_5_code 82 1 (.lastore) 83 := ⟨by decide +kernel, rfl⟩
theorem D8_83 : In prog_29_method_5_code 83 3 (.iinc 2 1) 86 := ⟨by decide +kernel, rfl⟩
theorem D8_86 : Jm prog_29_method_5_code 86 .goto 89 47 := ⟨(-39), by decide +kernel, rfl, by decide, by decide⟩
theorem D8_89 : In prog_29_method_5_code 89 1 (.aload_n 1) 90 := ⟨by decide +kernel, rfl⟩
theorem D8_90 : In prog_29_method_5_code 90 1 (.areturn) 91 := ⟨by decide +kernel, rfl⟩
theorem D9_0 : In method_4_code 0 1 (.iload_n 1) 1 := ⟨by decide +kernel, rfl⟩
theorem D9_1 : Jm method_4_code 1 (.ifCond .le) 4 12 := ⟨11, by decide +kernel, rfl, by decide, by decide⟩
theorem D9_4 : In method_4_code 4 1 (.aload_n 0) 5 := ⟨by decide +kernel, rfl⟩
theorem D9_5 : In method_4_code 5 1 (.iconst 0) 6 := ⟨by decide +kernel, rfl⟩
theorem D9_6 : In method_4_code 6 1 (.laload) 7 := ⟨by decide +kernel, rfl⟩
theorem D9_7 : In method_4_code 7 1 (.lload_n 2) 8 := ⟨by decide +kernel, rfl⟩
theorem D9_8 : In method_4_code 8 1 (.lcmp) 9 := ⟨by decide +kernel, rfl⟩
theorem D9_9 : Jm method_4_code 9 (.ifCond .eq) 12 51 := ⟨42, by decide +kernel, rfl, by decide, by decide⟩
theorem D9_12 : In method_4_code 12 1 (.iload_n 1) 13 := ⟨by decide +kernel, rfl⟩
theorem D9_13 : In method_4_code 13 1 (.iconst 1) 14 := ⟨by decide +kernel, rfl⟩
theorem D9_14 : Jm method_4_code 14 (.if_icmp .le) 17 25 := ⟨11, by decide +kernel, rfl, by decide, by decide⟩
theorem D9_17 : In method_4_code 17 1 (.aload_n 0) 18 := ⟨by decide +kernel, rfl⟩
theorem D9_18 : In method_4_code 18 1 (.iconst 1) 19 := ⟨by decide +kernel, rfl⟩
theorem D9_19 : In method_4_code 19 1 (.laload) 20 := ⟨by decide +kernel, rfl⟩
theorem D9_20 : In method_4_code 20 1 (.lload_n 2) 21 := ⟨by decide +kernel, rfl⟩
theorem D9_21 : In method_4_code 21 1 (.lcmp) 22 := ⟨by decide +kernel, rfl⟩
theorem D9_22 : Jm method_4_code 22 (.ifCond .eq) 25 51 := ⟨29, by decide +kernel, rfl, by decide, by decide⟩
theorem D9_25 : In method_4_code 25 1 (.iload_n 1) 26 := ⟨by decide +kernel, rfl⟩
theorem D9_26 : In method_4_code 26 1 (.iconst 2) 27 := ⟨by decide +kernel, rfl⟩
theorem D9_27 : Jm method_4_code 27 (.if_icmp .le) 30 38 := ⟨11, by decide +kernel, rfl, by decide, by decide⟩
theorem D9_30 : In method_4_code 30 1 (.aload_n 0) 31 := ⟨by decide +kernel, rfl⟩
theorem D9_31 : In method_4_code 31 1 (.iconst 2) 32 := ⟨by decide +kernel, rfl⟩
theorem D9_32 : In method_4_code 32 1 (.laload) 33 := ⟨by decide +kernel, rfl⟩
theorem D9_33 : In method_4_code 33 1 (.lload_n 2) 34 := ⟨by decide +kernel, rfl⟩
theorem D9_34 : In method_4_code 34 1 (.lcmp) 35 := ⟨by decide +kernel, rfl⟩
theorem D9_35 : Jm method_4_code 35 (.ifCond .eq) 38 51 := ⟨16, by decide +kernel, rfl, by decide, by decide⟩
theorem D9_38 : In method_4_code 38 1 (.iload_n 1) 39 := ⟨by decide +kernel, rfl⟩
theorem D9_39 : In method_4_code 39 1 (.iconst 3) 40 := ⟨by decide +kernel, rfl⟩
theorem D9_40 : Jm method_4_code 40 (.if_icmp .le) 43 55 := ⟨15, by decide +kernel, rfl, by decide, by decide⟩
theorem D9_43 : In method_4_code 43 1 (.aload_n 0) 44 := ⟨by decide +kernel, rfl⟩
theorem D9_44 : In method_4_code 44 1 (.iconst 3) 45 := ⟨by decide +kernel, rfl⟩
theorem D9_45 : In method_4_code 45 1 (.laload) 46 := ⟨by decide +kernel, rfl⟩
theorem D9_46 : In method_4_code 46 1 (.lload_n 2) 47 := ⟨by decide +kernel, rfl⟩
theorem D9_47 : In method_4_code 47 1 (.lcmp) 48 := ⟨by decide +kernel, rfl⟩
theorem D9_48 : Jm method_4_code 48 (.ifCond .ne) 51 55 := ⟨7, by decide +kernel, rfl, by decide, by decide⟩
theorem D9_51 : In method_4_code 51 1 (.iconst 1) 52 := ⟨by decide +kernel, rfl⟩
theorem D9_52 : Jm method_4_code 52 .goto 55 56 := ⟨4, by decide +kernel, rfl, by decide, by decide⟩
theorem D9_55 : In method_4_code 55 1 (.iconst 0) 56 := ⟨by decide +kernel, rfl⟩
theorem D9_56 : In method_4_code 56 2 (.istore 5) 58 := ⟨by decide +kernel, rfl⟩
theorem D9_58 : In method_4_code 58 2 (.iload 5) 60 := ⟨by decide +kernel, rfl⟩
theorem D9_60 : Jm method_4_code 60 (.ifCond .ne) 63 74 := ⟨14, by decide +kernel, rfl, by decide, by decide⟩
theorem D9_63 : In method_4_code 63 1 (.iload_n 1) 64 := ⟨by decide +kernel, rfl⟩
theorem D9_64 : In method_4_code 64 2 (.iload 4) 66 := ⟨by decide +kernel, rfl⟩
theorem D9_66 : Jm method_4_code 66 (.if_icmp .ge) 69 74 := ⟨8, by decide +kernel, rfl, by decide, by decide⟩
theorem D9_69 : In method_4_code 69 1 (.iload_n 1) 70 := ⟨by decide +kernel, rfl⟩
theorem D9_70 : In method_4_code 70 1 (.iconst 4) 71 := ⟨by decide +kernel, rfl⟩
theorem D9_71 : Jm method_4_code 71 (.if_icmp .lt) 74 76 := ⟨5, by decide +kernel, rfl, by decide, by decide⟩
theorem D9_74 : In method_4_code 74 1 (.iload_n 1) 75 := ⟨by decide +kernel, rfl⟩
theorem D9_75 : In method_4_code 75 1 (.ireturn) 76 := ⟨by decide +kernel, rfl⟩
theorem D9_76 : In method_4_code 76 1 (.aload_n 0) 77 := ⟨by decide +kernel, rfl⟩
theorem D9_77 : In method_4_code 77 1 (.iload_n 1) 78 := ⟨by decide +kernel, rfl⟩
theorem D9_78 : In method_4_code 78 1 (.lload_n 2) 79 := ⟨by decide +kernel, rfl⟩
theorem D9_79 : In method_4_code 79 1 (.lastore) 80 := ⟨by decide +kernel, rfl⟩
theorem D9_80 : In method_4_code 80 1 (.iload_n 1) 81 := ⟨by decide +kernel, rfl⟩
theorem D9_81 : In method_4_code 81 1 (.iconst 1) 82 := ⟨by decide +kernel, rfl⟩
theorem D9_82 : In method_4_code 82 1 (.iadd) 83 := ⟨by decide +kernel, rfl⟩
theorem D9_83 : In method_4_code 83 1 (.ireturn) 84 := ⟨by decide +kernel, rfl⟩
theorem D10_0 : In jdk_29_method_70_code 0 1 (.lload_n 0) 1 := ⟨by decide +kernel, rfl⟩
theorem D10_1 : In jdk_29_method_70_code 1 1 (.lload_n 2) 2 := ⟨by decide +kernel, rfl⟩
theorem D10_2 : In jdk_29_method_70_code 2 1 (.lcmp) 3 := ⟨by decide +kernel, rfl⟩
theorem D10_3 : Jm jdk_29_method_70_code 3 (.ifCond .gt) 6 10 := ⟨7, by decide +kernel, rfl, by decide, by decide⟩
theorem D10_6 : In jdk_29_method_70_code 6 1 (.lload_n 0) 7 := ⟨by decide +kernel, rfl⟩
theorem D10_7 : Jm jdk_29_method_70_code 7 .goto 10 11 := ⟨4, by decide +kernel, rfl, by decide, by decide⟩
theorem D10_10 : In jdk_29_method_70_code 10 1 (.lload_n 2) 11 := ⟨by decide +kernel, rfl⟩
theorem D10_11 : In jdk_29_method_70_code 11 1 (.lreturn) 12 := ⟨by decide +kernel, rfl⟩
theorem D11_0 : In prog_29_method_8_code 0 1 (.lload_n 1) 1 := ⟨by decide +kernel, rfl⟩
theorem D11_1 : In prog_29_method_8_code 1 1 (.aload_n 0) 2 := ⟨by decide +kernel, rfl⟩
theorem D11_2 : In prog_29_method_8_code 2 3 (.getfield 17) 5 := ⟨by decide +kernel, rfl⟩
theorem D11_5 : In prog_29_method_8_code 5 1 (.arraylength) 6 := ⟨by decide +kernel, rfl⟩
theorem D11_6 : In prog_29_method_8_code 6 3 (.invokestatic 67) 9 := ⟨by decide +kernel, rfl⟩
theorem D11_9 : In prog_29_method_8_code 9 2 (.istore 4) 11 := ⟨by decide +kernel, rfl⟩
theorem D11_11 : In prog_29_method_8_code 11 1 (.aload_n 0) 12 := ⟨by decide +kernel, rfl⟩
theorem D11_12 : In prog_29_method_8_code 12 3 (.getfield 17) 15 := ⟨by decide +kernel, rfl⟩
theorem D11_15 : In prog_29_method_8_code 15 2 (.iload 4) 17 := ⟨by decide +kernel, rfl⟩
theorem D11_17 : In prog_29_method_8_code 17 1 (.laload) 18 := ⟨by decide +kernel, rfl⟩
theorem D11_18 : In prog_29_method_8_code 18 3 (.ldc2_w 71) 21 := ⟨by decide +kernel, rfl⟩
theorem D11_21 : In prog_29_method_8_code 21 1 (.lcmp) 22 := ⟨by decide +kernel, rfl⟩
theorem D11_22 : Jm prog_29_method_8_code 22 (.ifCond .eq) 25 50 := ⟨28, by decide +kernel, rfl, by decide, by decide⟩
theorem D11_25 : In prog_29_method_8_code 25 2 (.iload 4) 27 := ⟨by decide +kernel, rfl⟩
theorem D11_27 : In prog_29_method_8_code 27 1 (.iconst 1) 28 := ⟨by decide +kernel, rfl⟩
theorem D11_28 : In prog_29_method_8_code 28 1 (.iadd) 29 := ⟨by decide +kernel, rfl⟩
theorem D11_29 : In prog_29_method_8_code 29 1 (.aload_n 0) 30 := ⟨by decide +kernel, rfl⟩
theorem D11_30 : In prog_29_method_8_code 30 3 (.getfield 17) 33 := ⟨by decide +kernel, rfl⟩
theorem D11_33 : In prog_29_method_8_code 33 1 (.arraylength) 34 := ⟨by decide +kernel, rfl⟩
theorem D11_34 : Jm prog_29_method_8_code 34 (.if_icmp .ne) 37 41 := ⟨7, by decide +kernel, rfl, by decide, by decide⟩
theorem D11_37 : In prog_29_method_8_code 37 1 (.iconst 0) 38 := ⟨by decide +kernel, rfl⟩
theorem D11_38 : Jm prog_29_method_8_code 38 .goto 41 45 := ⟨7, by decide +kernel, rfl, by decide, by decide⟩
theorem D11_41 : In prog_29_method_8_code 41 2 (.iload 4) 43 := ⟨by decide +kernel, rfl⟩
theorem D11_43 : In prog_29_method_8_code 43 1 (.iconst 1) 44 := ⟨by decide +kernel, rfl⟩
theorem D11_44 : In prog_29_method_8_code 44 1 (.iadd) 45 := ⟨by decide +kernel, rfl⟩
theorem D11_45 : In prog_29_method_8_code 45 2 (.istore 4) 47 := ⟨by decide +kernel, rfl⟩
theorem D11_47 : Jm prog_29_method_8_code 47 .goto 50 11 := ⟨(-36), by decide +kernel, rfl, by decide, by decide⟩
theorem D11_50 : In prog_29_method_8_code 50 1 (.aload_n 0) 51 := ⟨by decide +kernel, rfl⟩
theorem D11_51 : In prog_29_method_8_code 51 3 (.getfield 17) 54 := ⟨by decide +kernel, rfl⟩
theorem D11_54 : In prog_29_method_8_code 54 2 (.iload 4) 56 := ⟨by decide +kernel, rfl⟩
theorem D11_56 : In prog_29_method_8_code 56 1 (.lload_n 1) 57 := ⟨by decide +kernel, rfl⟩
theorem D11_57 : In prog_29_method_8_code 57 1 (.lastore) 58 := ⟨by decide +kernel, rfl⟩
theorem D11_58 : In prog_29_method_8_code 58 1 (.aload_n 0) 59 := ⟨by decide +kernel, rfl⟩
theorem D11_59 : In prog_29_method_8_code 59 3 (.getfield 21) 62 := ⟨by decide +kernel, rfl⟩
theorem D11_62 : In prog_29_method_8_code 62 2 (.iload 4) 64 := ⟨by decide +kernel, rfl⟩
theorem D11_64 : In prog_29_method_8_code 64 1 (.iload_n 3) 65 := ⟨by decide +kernel, rfl⟩
theorem D11_65 : In prog_29_method_8_code 65 1 (.iastore) 66 := ⟨by decide +kernel, rfl⟩
theorem D11_66 : In prog_29_method_8_code 66 1 (.aload_n 0) 67 := ⟨by decide +kernel, rfl⟩
theorem D11_67 : In prog_29_method_8_code 67 1 (.dup) 68 := ⟨by decide +kernel, rfl⟩
theorem D11_68 : In prog_29_method_8_code 68 3 (.getfield 64) 71 := ⟨by decide +kernel, rfl⟩
theorem D11_71 : In prog_29_method_8_code 71 1 (.iconst 1) 72 := ⟨by decide +kernel, rfl⟩
theorem D11_72 : In prog_29_method_8_code 72 1 (.iadd) 73 := ⟨by decide +kernel, rfl⟩
theorem D11_73 : In prog_29_method_8_code 73 3 (.putfield 64) 76 := ⟨by decide +kernel, rfl⟩
theorem D11_76 : In prog_29_method_8_code 76 1 (.aload_n 0) 77 := ⟨by decide +kernel, rfl⟩
theorem D11_77 : In prog_29_method_8_code 77 3 (.getfield 64) 80 := ⟨by decide +kernel, rfl⟩
theorem D11_80 : In prog_29_method_8_code 80 1 (.aload_n 0) 81 := ⟨by decide +kernel, rfl⟩
theorem D11_81 : In prog_29_method_8_code 81 3 (.getfield 17) 84 := ⟨by decide +kernel, rfl⟩
theorem D11_84 : In prog_29_method_8_code 84 1 (.arraylength) 85 := ⟨by decide +kernel, rfl⟩
theorem D11_85 : In prog_29_method_8_code 85 1 (.iconst 4) 86 := ⟨by decide +kernel, rfl⟩
theorem D11_86 : In prog_29_method_8_code 86 1 (.idiv) 87 := ⟨by decide +kernel, rfl⟩
theorem D11_87 : In prog_29_method_8_code 87 1 (.iconst 3) 88 := ⟨by decide +kernel, rfl⟩
theorem D11_88 : In prog_29_method_8_code 88 1 (.imul) 89 := ⟨by decide +kernel, rfl⟩
theorem D11_89 : Jm prog_29_method_8_code 89 (.if_icmp .le) 92 106 := ⟨17, by decide +kernel, rfl, by decide, by decide⟩
theorem D11_106 : In prog_29_method_8_code 106 1 (.return_) 107 := ⟨by decide +kernel, rfl⟩
theorem D12_0 : In prog_29_method_10_code 0 1 (.lload_n 0) 1 := ⟨by decide +kernel, rfl⟩
theorem D12_1 : In prog_29_method_10_code 1 3 (.ldc2_w 87) 4 := ⟨by decide +kernel, rfl⟩
theorem D12_4 : In prog_29_method_10_code 4 1 (.lmul) 5 := ⟨by decide +kernel, rfl⟩
theorem D12_5 : In prog_29_method_10_code 5 2 (.bipush 32) 7 := ⟨by decide +kernel, rfl⟩
theorem D12_7 : In prog_29_method_10_code 7 1 (.lushr) 8 := ⟨by decide +kernel, rfl⟩
theorem D12_8 : In prog_29_method_10_code 8 1 (.iload_n 2) 9 := ⟨by decide +kernel, rfl⟩
theorem D12_9 : In prog_29_method_10_code 9 1 (.i2l) 10 := ⟨by decide +kernel, rfl⟩
theorem D12_10 : In prog_29_method_10_code 10 1 (.lmul) 11 := ⟨by decide +kernel, rfl⟩
theorem D12_11 : In prog_29_method_10_code 11 2 (.bipush 32) 13 := ⟨by decide +kernel, rfl⟩
theorem D12_13 : In prog_29_method_10_code 13 1 (.lushr) 14 := ⟨by decide +kernel, rfl⟩
theorem D12_14 : In prog_29_method_10_code 14 1 (.l2i) 15 := ⟨by decide +kernel, rfl⟩
theorem D12_15 : In prog_29_method_10_code 15 1 (.ireturn) 16 := ⟨by decide +kernel, rfl⟩
theorem D13_0 : In jdk_29_method_66_code 0 1 (.lload_n 0) 1 := ⟨by decide +kernel, rfl⟩
theorem D13_1 : In jdk_29_method_66_code 1 1 (.lload_n 2) 2 := ⟨by decide +kernel, rfl⟩
theorem D13_2 : In jdk_29_method_66_code 2 1 (.lcmp) 3 := ⟨by decide +kernel, rfl⟩
theorem D13_3 : Jm jdk_29_method_66_code 3 (.ifCond .lt) 6 10 := ⟨7, by decide +kernel, rfl, by decide, by decide⟩
theorem D13_6 : In jdk_29_method_66_code 6 1 (.lload_n 0) 7 := ⟨by decide +kernel, rfl⟩
theorem D13_7 : Jm jdk_29_method_66_code 7 .goto 10 11 := ⟨4, by decide +kernel, rfl, by decide, by decide⟩
theorem D13_10 : In jdk_29_method_66_code 10 1 (.lload_n 2) 11 := ⟨by decide +kernel, rfl⟩
theorem D13_11 : In jdk_29_method_66_code 11 1 (.lreturn) 12 := ⟨by decide +kernel, rfl⟩
theorem D14_0 : In prog_29_method_7_code 0 1 (.aload_n 0) 1 := ⟨by decide +kernel, rfl⟩
theorem D14_1 : In prog_29_method_7_code 1 1 (.aload_n 0) 2 := ⟨by decide +kernel, rfl⟩
theorem D14_2 : In prog_29_method_7_code 2 3 (.getfield 7) 5 := ⟨by decide +kernel, rfl⟩
theorem D14_5 : In prog_29_method_7_code 5 1 (.iload_n 1) 6 := ⟨by decide +kernel, rfl⟩
theorem D14_6 : In prog_29_method_7_code 6 3 (.invokestatic 73) 9 := ⟨by decide +kernel, rfl⟩
theorem D14_9 : In prog_29_method_7_code 9 3 (.putfield 7) 12 := ⟨by decide +kernel, rfl⟩
theorem D14_12 : In prog_29_method_7_code 12 1 (.aload_n 0) 13 := ⟨by decide +kernel, rfl⟩
theorem D14_13 : In prog_29_method_7_code 13 3 (.getfield 64) 16 := ⟨by decide +kernel, rfl⟩
theorem D14_16 : Jm prog_29_method_7_code 16 (.ifCond .le) 19 73 := ⟨57, by decide +kernel, rfl, by decide, by decide⟩
theorem D14_19 : In prog_29_method_7_code 19 1 (.iconst 0) 20 := ⟨by decide +kernel, rfl⟩
theorem D14_20 : In prog_29_method_7_code 20 1 (.istore_n 2) 21 := ⟨by decide +kernel, rfl⟩
theorem D14_21 : In prog_29_method_7_code 21 1 (.iload_n 2) 22 := ⟨by decide +kernel, rfl⟩
theorem D14_22 : In prog_29_method_7_code 22 1 (.aload_n 0) 23 := ⟨by decide +kernel, rfl⟩
theorem D14_23 : In prog_29_method_7_code 23 3 (.getfield 17) 26 := ⟨by decide +kernel, rfl⟩
theorem D14_26 : In prog_29_method_7_code 26 1 (.arraylength) 27 := ⟨by decide +kernel, rfl⟩
theorem D14_27 : Jm prog_29_method_7_code 27 (.if_icmp .ge) 30 73 := ⟨46, by decide +kernel, rfl, by decide, by decide⟩
theorem D14_30 : In prog_29_method_7_code 30 1 (.aload_n 0) 31 := ⟨by decide +kernel, rfl⟩
theorem D14_31 : In prog_29_method_7_code 31 3 (.getfield 17) 34 := ⟨by decide +kernel, rfl⟩
theorem D14_34 : In prog_29_method_7_code 34 1 (.iload_n 2) 35 := ⟨by decide +kernel, rfl⟩
theorem D14_35 : In prog_29_method_7_code 35 1 (.laload) 36 := ⟨by decide +kernel, rfl⟩
theorem D14_36 : In prog_29_method_7_code 36 1 (.lstore_n 3) 37 := ⟨by decide +kernel, rfl⟩
theorem D14_37 : In prog_29_method_7_code 37 1 (.lload_n 3) 38 := ⟨by decide +kernel, rfl⟩
theorem D14_38 : In prog_29_method_7_code 38 3 (.ldc2_w 71) 41 := ⟨by decide +kernel, rfl⟩
theorem D14_41 : In prog_29_method_7_code 41 1 (.lcmp) 42 := ⟨by decide +kernel, rfl⟩
theorem D14_42 : Jm prog_29_method_7_code 42 (.ifCond .eq) 45 67 := ⟨25, by decide +kernel, rfl, by decide, by decide⟩
theorem D14_45 : In prog_29_method_7_code 45 1 (.lload_n 3) 46 := ⟨by decide +kernel, rfl⟩
theorem D14_46 : In prog_29_method_7_code 46 1 (.iload_n 1) 47 := ⟨by decide +kernel, rfl⟩
theorem D14_47 : In prog_29_method_7_code 47 1 (.i2l) 48 := ⟨by decide +kernel, rfl⟩
theorem D14_48 : In prog_29_method_7_code 48 1 (.lcmp) 49 := ⟨by decide +kernel, rfl⟩
theorem D14_49 : Jm prog_29_method_7_code 49 (.ifCond .ge) 52 67 := ⟨18, by decide +kernel, rfl, by decide, by decide⟩
theorem D14_52 : In prog_29_method_7_code 52 1 (.aload_n 0) 53 := ⟨by decide +kernel, rfl⟩
theorem D14_53 : In prog_29_method_7_code 53 3 (.getfield 7) 56 := ⟨by decide +kernel, rfl⟩
theorem D14_56 : In prog_29_method_7_code 56 1 (.lload_n 3) 57 := ⟨by decide +kernel, rfl⟩
theorem D14_57 : In prog_29_method_7_code 57 1 (.l2i) 58 := ⟨by decide +kernel, rfl⟩
theorem D14_58 : In prog_29_method_7_code 58 1 (.aload_n 0) 59 := ⟨by decide +kernel, rfl⟩
theorem D14_59 : In prog_29_method_7_code 59 3 (.getfield 21) 62 := ⟨by decide +kernel, rfl⟩
theorem D14_62 : In prog_29_method_7_code 62 1 (.iload_n 2) 63 := ⟨by decide +kernel, rfl⟩
theorem D14_63 : In prog_29_method_7_code 63 1 (.iaload) 64 := ⟨by decide +kernel, rfl⟩
theorem D14_64 : In prog_29_method_7_code 64 1 (.iconst 1) 65 := ⟨by decide +kernel, rfl⟩
theorem D14_65 : In prog_29_method_7_code 65 1 (.iadd) 66 := ⟨by decide +kernel, rfl⟩
theorem D14_66 : In prog_29_method_7_code 66 1 (.iastore) 67 := ⟨by decide +kernel, rfl⟩
theorem D14_67 : In prog_29_method_7_code 67 3 (.iinc 2 1) 70 := ⟨by decide +kernel, rfl⟩
theorem D14_70 : Jm prog_29_method_7_code 70 .goto 73 21 := ⟨(-49), by decide +kernel, rfl, by decide, by decide⟩
theorem D14_73 : In prog_29_method_7_code 73 1 (.return_) 74 := ⟨by decide +kernel, rfl⟩
theorem D15_0 : In jdk_65_method_123_code 0 1 (.iload_n 1) 1 := ⟨by decide +kernel, rfl⟩
theorem D15_1 : In jdk_65_method_123_code 1 1 (.aload_n 0) 2 := ⟨by decide +kernel, rfl⟩
theorem D15_2 : In jdk_65_method_123_code 2 1 (.arraylength) 3 := ⟨by decide +kernel, rfl⟩
theorem D15_3 : Jm jdk_65_method_123_code 3 (.if_icmp .ne) 6 14 := ⟨11, by decide +kernel, rfl, by decide, by decide⟩
theorem D15_14 : In jdk_65_method_123_code 14 1 (.iload_n 1) 15 := ⟨by decide +kernel, rfl⟩
theorem D15_15 : In jdk_65_method_123_code 15 2 (.newarray .int) 17 := ⟨by decide +kernel, rfl⟩
theorem D15_17 : In jdk_65_method_123_code 17 1 (.astore_n 2) 18 := ⟨by decide +kernel, rfl⟩
theorem D15_18 : In jdk_65_method_123_code 18 1 (.aload_n 0) 19 := ⟨by decide +kernel, rfl⟩
theorem D15_19 : In jdk_65_method_123_code 19 1 (.iconst 0) 20 := ⟨by decide +kernel, rfl⟩
theorem D15_20 : In jdk_65_method_123_code 20 1 (.aload_n 2) 21 := ⟨by decide +kernel, rfl⟩
theorem D15_21 : In jdk_65_method_123_code 21 1 (.iconst 0) 22 := ⟨by decide +kernel, rfl⟩
theorem D15_22 : In jdk_65_method_123_code 22 1 (.aload_n 0) 23 := ⟨by decide +kernel, rfl⟩
theorem D15_23 : In jdk_65_method_123_code 23 1 (.arraylength) 24 := ⟨by decide +kernel, rfl⟩
theorem D15_24 : In jdk_65_method_123_code 24 1 (.iload_n 1) 25 := ⟨by decide +kernel, rfl⟩
theorem D15_25 : In jdk_65_method_123_code 25 3 (.invokestatic 304) 28 := ⟨by decide +kernel, rfl⟩
theorem D15_28 : In jdk_65_method_123_code 28 3 (.invokestatic 150) 31 := ⟨by decide +kernel, rfl⟩
theorem D15_31 : In jdk_65_method_123_code 31 1 (.aload_n 2) 32 := ⟨by decide +kernel, rfl⟩
theorem D15_32 : In jdk_65_method_123_code 32 1 (.areturn) 33 := ⟨by decide +kernel, rfl⟩
theorem D16_0 : In jdk_29_method_69_code 0 1 (.iload_n 0) 1 := ⟨by decide +kernel, rfl⟩
theorem D16_1 : In jdk_29_method_69_code 1 1 (.iload_n 1) 2 := ⟨by decide +kernel, rfl⟩
theorem D16_2 : Jm jdk_29_method_69_code 2 (.if_icmp .gt) 5 9 := ⟨7, by decide +kernel, rfl, by decide, by decide⟩
theorem D16_5 : In jdk_29_method_69_code 5 1 (.iload_n 0) 6 := ⟨by decide +kernel, rfl⟩
theorem D16_6 : Jm jdk_29_method_69_code 6 .goto 9 10 := ⟨4, by decide +kernel, rfl, by decide, by decide⟩
theorem D16_9 : In jdk_29_method_69_code 9 1 (.iload_n 1) 10 := ⟨by decide +kernel, rfl⟩
theorem D16_10 : In jdk_29_method_69_code 10 1 (.ireturn) 11 := ⟨by decide +kernel, rfl⟩
theorem pd_0 : parseMethodDescriptor "([JJ)V" = some ⟨[(.array .long), .long], none⟩ := by decide +kernel
theorem pd_1 : parseMethodDescriptor "(I)[J" = some ⟨[.int], some (.array .long)⟩ := by decide +kernel
theorem pd_2 : parseMethodDescriptor "(JI)I" = some ⟨[.long, .int], some .int⟩ := by decide +kernel
theorem pd_3 : parseMethodDescriptor "(II)I" = some ⟨[.int, .int], some .int⟩ := by decide +kernel
theorem pd_4 : parseMethodDescriptor "([II)[I" = some ⟨[(.array .int), .int], some (.array .int)⟩ := by decide +kernel
theorem pd_5 : parseMethodDescriptor "(J)I" = some ⟨[.long], some .int⟩ := by decide +kernel
theorem pd_6 : parseMethodDescriptor "(JJ)J" = some ⟨[.long, .long], some .long⟩ := by decide +kernel
theorem pd_7 : parseMethodDescriptor "(I)V" = some ⟨[.int], none⟩ := by decide +kernel
theorem pd_8 : parseMethodDescriptor "(JI)V" = some ⟨[.long, .int], none⟩ := by decide +kernel
theorem pd_9 : parseMethodDescriptor "(JZ)J" = some ⟨[.long, .boolean], some .long⟩ := by decide +kernel
theorem pd_10 : parseMethodDescriptor "()[J" = some ⟨[], some (.array .long)⟩ := by decide +kernel
theorem pd_11 : parseMethodDescriptor "([JIJI)I" = some ⟨[(.array .long), .int, .long, .int], some .int⟩ := by decide +kernel
theorem pn_0 : plainName "com/example/grawl/grawl/graph/IdIndex" = true := by first | (simp [plainName, overriddenIn]; done) | decide +kernel
theorem pn_1 : plainName "java/util/Arrays" = true := by first | (simp [plainName, overriddenIn]; done) | decide +kernel
theorem pn_2 : plainName "com/example/grawl/grawl/graph/IdIndexIdsPinLaw" = true := by first | (simp [plainName, overriddenIn]; done) | decide +kernel
def RI (Z : State) (h : Heap) (a : Addr) (f0 : Value) (f1 : Value) (f2 : Value) (f3 : Int32) (f4 : Int32) (f5 : Int32) : Prop := Exa Z h a "com/example/grawl/grawl/graph/IdIndex" ∧ Fld Z h a "com/example/grawl/grawl/graph/IdIndex" "direct" "[I" f0 ∧ Fld Z h a "com/example/grawl/grawl/graph/IdIndex" "ids" "[J" f1 ∧ Fld Z h a "com/example/grawl/grawl/graph/IdIndex" "numbers" "[I" f2 ∧ Fld Z h a "com/example/grawl/grawl/graph/IdIndex" "most" "I" (.int f3) ∧ Fld Z h a "com/example/grawl/grawl/graph/IdIndex" "hashed" "I" (.int f4) ∧ Fld Z h a "com/example/grawl/grawl/graph/IdIndex" "count" "I" (.int f5)
theorem RI.lt {Z : State} {h : Heap} {a : Addr} {f0 : Value} {f1 : Value} {f2 : Value} {f3 : Int32} {f4 : Int32} {f5 : Int32} (H : RI Z h a f0 f1 f2 f3 f4 f5) : a < h.size := H.1.lt
theorem RI.ext {Z : State} {h h' : Heap} {a : Addr} {f0 : Value} {f1 : Value} {f2 : Value} {f3 : Int32} {f4 : Int32} {f5 : Int32} (H : RI Z h a f0 f1 f2 f3 f4 f5) (E : Ext h h') : RI Z h' a f0 f1 f2 f3 f4 f5 := ⟨H.1.ext E, H.2.1.ext E, H.2.2.1.ext E, H.2.2.2.1.ext E, H.2.2.2.2.1.ext E, H.2.2.2.2.2.1.ext E, H.2.2.2.2.2.2.ext E⟩
theorem RI.keep {Z : State} {h h' : Heap} {a : Addr} {f0 : Value} {f1 : Value} {f2 : Value} {f3 : Int32} {f4 : Int32} {f5 : Int32} {ws : List Addr} (H : RI Z h a f0 f1 f2 f3 f4 f5) (K : Keep h h' ws) (q : a ∉ ws) : RI Z h' a f0 f1 f2 f3 f4 f5 := ⟨H.1.keep K, H.2.1.keep K q, H.2.2.1.keep K q, H.2.2.2.1.keep K q, H.2.2.2.2.1.keep K q, H.2.2.2.2.2.1.keep K q, H.2.2.2.2.2.2.keep K q⟩
theorem RI.kl {Z : State} {h h' : Heap} {a : Addr} {f0 : Value} {f1 : Value} {f2 : Value} {f3 : Int32} {f4 : Int32} {f5 : Int32} {lo : Nat} (H : RI Z h a f0 f1 f2 f3 f4 f5) (K : KL lo h h') (q : a < lo) : RI Z h' a f0 f1 f2 f3 f4 f5 := ⟨Exa.kl H.1 K q, Fld.kl H.2.1 K q, Fld.kl H.2.2.1 K q, Fld.kl H.2.2.2.1 K q, Fld.kl H.2.2.2.2.1 K q, Fld.kl H.2.2.2.2.2.1 K q, Fld.kl H.2.2.2.2.2.2 K q⟩
theorem RI.other {Z : State} {h h' : Heap} {a : Addr} {f0 : Value} {f1 : Value} {f2 : Value} {f3 : Int32} {f4 : Int32} {f5 : Int32} {b : Addr} {sl : Nat} {v : Value} (H : RI Z h a f0 f1 f2 f3 f4 f5) (W : Wr h h' b sl v) (q : a ≠ b) : RI Z h' a f0 f1 f2 f3 f4 f5 := ⟨H.1.wr W, H.2.1.other W (Or.inl q), H.2.2.1.other W (Or.inl q), H.2.2.2.1.other W (Or.inl q), H.2.2.2.2.1.other W (Or.inl q), H.2.2.2.2.2.1.other W (Or.inl q), H.2.2.2.2.2.2.other W (Or.inl q)⟩
theorem RI.set_direct {Z : State} {h h' : Heap} {a : Addr} {f0 : Value} {f1 : Value} {f2 : Value} {f3 : Int32} {f4 : Int32} {f5 : Int32} {a0 : Array Value} (hw : ∀ d ∈ tables_1, d.before a0 Z = true) {g : Value} (H : RI Z h a f0 f1 f2 f3 f4 f5) (W : Wr h h' a (Jvm.RoadKit.slotOf Z "com/example/grawl/grawl/graph/IdIndex" "direct" "[I") g) : RI Z h' a g f1 f2 f3 f4 f5 := ⟨H.1.wr W, H.2.1.same W, H.2.2.1.other W (Or.inr (slot_ne (Or.inl (wd_28 hw)) (Or.inl (wd_17 hw)) (by decide) (t := (.array .long)) (t' := (.array .int)) (by decide) (by decide))), H.2.2.2.1.other W (Or.inr (slot_ne (Or.inl (wd_30 hw)) (Or.inl (wd_17 hw)) (by decide) (t := (.array .int)) (t' := (.array .int)) (by decide) (by decide))), H.2.2.2.2.1.other W (Or.inr (slot_ne (Or.inr (wd_32 hw)) (Or.inl (wd_17 hw)) (by decide) (t := .int) (t' := (.array .int)) (by decide) (by decide))), H.2.2.2.2.2.1.other W (Or.inr (slot_ne (Or.inl (wd_44 hw)) (Or.inl (wd_17 hw)) (by decide) (t := .int) (t' := (.array .int)) (by decide) (by decide))), H.2.2.2.2.2.2.other W (Or.inr (slot_ne (Or.inl (wd_46 hw)) (Or.inl (wd_17 hw)) (by decide) (t := .int) (t' := (.array .int)) (by decide) (by decide)))⟩
theorem RI.set_ids {Z : State} {h h' : Heap} {a : Addr} {f0 : Value} {f1 : Value} {f2 : Value} {f3 : Int32} {f4 : Int32} {f5 : Int32} {a0 : Array Value} (hw : ∀ d ∈ tables_1, d.before a0 Z = true) {g : Value} (H : RI Z h a f0 f1 f2 f3 f4 f5) (W : Wr h h' a (Jvm.RoadKit.slotOf Z "com/example/grawl/grawl/graph/IdIndex" "ids" "[J") g) : RI Z h' a f0 g f2 f3 f4 f5 := ⟨H.1.wr W, H.2.1.other W (Or.inr (slot_ne (Or.inl (wd_17 hw)) (Or.inl (wd_28 hw)) (by decide) (t := (.array .int)) (t' := (.array .long)) (by decide) (by decide))), H.2.2.1.same W, H.2.2.2.1.other W (Or.inr (slot_ne (Or.inl (wd_30 hw)) (Or.inl (wd_28 hw)) (by decide) (t := (.array .int)) (t' := (.array .long)) (by decide) (by decide))), H.2.2.2.2.1.other W (Or.inr (slot_ne (Or.inr (wd_32 hw)) (Or.inl (wd_28 hw)) (by decide) (t := .int) (t' := (.array .long)) (by decide) (by decide))), H.2.2.2.2.2.1.other W (Or.inr (slot_ne (Or.inl (wd_44 hw)) (Or.inl (wd_28 hw)) (by decide) (t := .int) (t' := (.array .long)) (by decide) (by decide))), H.2.2.2.2.2.2.other W (Or.inr (slot_ne (Or.inl (wd_46 hw)) (Or.inl (wd_28 hw)) (by decide) (t := .int) (t' := (.array .long)) (by decide) (by decide)))⟩
theorem RI.set_numbers {Z : State} {h h' : Heap} {a : Addr} {f0 : Value} {f1 : Value} {f2 : Value} {f3 : Int32} {f4 : Int32} {f5 : Int32} {a0 : Array Value} (hw : ∀ d ∈ tables_1, d.before a0 Z = true) {g : Value} (H : RI Z h a f0 f1 f2 f3 f4 f5) (W : Wr h h' a (Jvm.RoadKit.slotOf Z "com/example/grawl/grawl/graph/IdIndex" "numbers" "[I") g) : RI Z h' a f0 f1 g f3 f4 f5 := ⟨H.1.wr W, H.2.1.other W (Or.inr (slot_ne (Or.inl (wd_17 hw)) (Or.inl (wd_30 hw)) (by decide) (t := (.array .int)) (t' := (.array .int)) (by decide) (by decide))), H.2.2.1.other W (Or.inr (slot_ne (Or.inl (wd_28 hw)) (Or.inl (wd_30 hw)) (by decide) (t := (.array .long)) (t' := (.array .int)) (by decide) (by decide))), H.2.2.2.1.same W, H.2.2.2.2.1.other W (Or.inr (slot_ne (Or.inr (wd_32 hw)) (Or.inl (wd_30 hw)) (by decide) (t := .int) (t' := (.array .int)) (by decide) (by decide))), H.2.2.2.2.2.1.other W (Or.inr (slot_ne (Or.inl (wd_44 hw)) (Or.inl (wd_30 hw)) (by decide) (t := .int) (t' := (.array .int)) (by decide) (by decide))), H.2.2.2.2.2.2.other W (Or.inr (slot_ne (Or.inl (wd_46 hw)) (Or.inl (wd_30 hw)) (by decide) (t := .int) (t' := (.array .int)) (by decide) (by decide)))⟩
theorem RI.set_most {Z : State} {h h' : Heap} {a : Addr} {f0 : Value} {f1 : Value} {f2 : Value} {f3 : Int32} {f4 : Int32} {f5 : Int32} {a0 : Array Value} (hw : ∀ d ∈ tables_1, d.before a0 Z = true) {g : Int32} (H : RI Z h a f0 f1 f2 f3 f4 f5) (W : Wr h h' a (Jvm.RoadKit.slotOf Z "com/example/grawl/grawl/graph/IdIndex" "most" "I") (.int g)) : RI Z h' a f0 f1 f2 g f4 f5 := ⟨H.1.wr W, H.2.1.other W (Or.inr (slot_ne (Or.inl (wd_17 hw)) (Or.inr (wd_32 hw)) (by decide) (t := (.array .int)) (t' := .int) (by decide) (by decide))), H.2.2.1.other W (Or.inr (slot_ne (Or.inl (wd_28 hw)) (Or.inr (wd_32 hw)) (by decide) (t := (.array .long)) (t' := .int) (by decide) (by decide))), H.2.2.2.1.other W (Or.inr (slot_ne (Or.inl (wd_30 hw)) (Or.inr (wd_32 hw)) (by decide) (t := (.array .int)) (t' := .int) (by decide) (by decide))), H.2.2.2.2.1.same W, H.2.2.2.2.2.1.other W (Or.inr (slot_ne (Or.inl (wd_44 hw)) (Or.inr (wd_32 hw)) (by decide) (t := .int) (t' := .int) (by decide) (by decide))), H.2.2.2.2.2.2.other W (Or.inr (slot_ne (Or.inl (wd_46 hw)) (Or.inr (wd_32 hw)) (by decide) (t := .int) (t' := .int) (by decide) (by decide)))⟩
theorem RI.set_hashed {Z : State} {h h' : Heap} {a : Addr} {f0 : Value} {f1 : Value} {f2 : Value} {f3 : Int32} {f4 : Int32} {f5 : Int32} {a0 : Array Value} (hw : ∀ d ∈ tables_1, d.before a0 Z = true) {g : Int32} (H : RI Z h a f0 f1 f2 f3 f4 f5) (W : Wr h h' a (Jvm.RoadKit.slotOf Z "com/example/grawl/grawl/graph/IdIndex" "hashed" "I") (.int g)) : RI Z h' a f0 f1 f2 f3 g f5 := ⟨H.1.wr W, H.2.1.other W (Or.inr (slot_ne (Or.inl (wd_17 hw)) (Or.inl (wd_44 hw)) (by decide) (t := (.array .int)) (t' := .int) (by decide) (by decide))), H.2.2.1.other W (Or.inr (slot_ne (Or.inl (wd_28 hw)) (Or.inl (wd_44 hw)) (by decide) (t := (.array .long)) (t' := .int) (by decide) (by decide))), H.2.2.2.1.other W (Or.inr (slot_ne (Or.inl (wd_30 hw)) (Or.inl (wd_44 hw)) (by decide) (t := (.array .int)) (t' := .int) (by decide) (by decide))), H.2.2.2.2.1.other W (Or.inr (slot_ne (Or.inr (wd_32 hw)) (Or.inl (wd_44 hw)) (by decide) (t := .int) (t' := .int) (by decide) (by decide))), H.2.2.2.2.2.1.same W, H.2.2.2.2.2.2.other W (Or.inr (slot_ne (Or.inl (wd_46 hw)) (Or.inl (wd_44 hw)) (by decide) (t := .int) (t' := .int) (by decide) (by decide)))⟩
theorem RI.set_count {Z : State} {h h' : Heap} {a : Addr} {f0 : Value} {f1 : Value} {f2 : Value} {f3 : Int32} {f4 : Int32} {f5 : Int32} {a0 : Array Value} (hw : ∀ d ∈ tables_1, d.before a0 Z = true) {g : Int32} (H : RI Z h a f0 f1 f2 f3 f4 f5) (W : Wr h h' a (Jvm.RoadKit.slotOf Z "com/example/grawl/grawl/graph/IdIndex" "count" "I") (.int g)) : RI Z h' a f0 f1 f2 f3 f4 g := ⟨H.1.wr W, H.2.1.other W (Or.inr (slot_ne (Or.inl (wd_17 hw)) (Or.inl (wd_46 hw)) (by decide) (t := (.array .int)) (t' := .int) (by decide) (by decide))), H.2.2.1.other W (Or.inr (slot_ne (Or.inl (wd_28 hw)) (Or.inl (wd_46 hw)) (by decide) (t := (.array .long)) (t' := .int) (by decide) (by decide))), H.2.2.2.1.other W (Or.inr (slot_ne (Or.inl (wd_30 hw)) (Or.inl (wd_46 hw)) (by decide) (t := (.array .int)) (t' := .int) (by decide) (by decide))), H.2.2.2.2.1.other W (Or.inr (slot_ne (Or.inr (wd_32 hw)) (Or.inl (wd_46 hw)) (by decide) (t := .int) (t' := .int) (by decide) (by decide))), H.2.2.2.2.2.1.other W (Or.inr (slot_ne (Or.inl (wd_44 hw)) (Or.inl (wd_46 hw)) (by decide) (t := .int) (t' := .int) (by decide) (by decide))), H.2.2.2.2.2.2.same W⟩
/-- an IdIndex at a, all of it at or above lo -/
def IX (Z : State) (h : Heap) (lo : Nat) (a : Addr) (most hs cnt : Int32) (z : Nat) (f : Nat → Int32) (g : Nat → Int64) (q : Nat → Int32) : Prop :=
  ∃ d i n, RI Z h a (.ref d) (.ref i) (.ref n) most hs cnt ∧ IArr Z h d z f ∧ LArr Z h i 16 g ∧ IArr Z h n 16 q ∧ (lo ≤ a ∧ lo ≤ d ∧ lo ≤ i ∧ lo ≤ n) ∧ (a ≠ d ∧ a ≠ i ∧ a ≠ n ∧ d ≠ i ∧ d ≠ n ∧ i ≠ n)
theorem IX.exa {Z : State} {h : Heap} {lo : Nat} {a : Addr} {most hs cnt : Int32} {z : Nat} {f : Nat → Int32} {g : Nat → Int64} {q : Nat → Int32} (H : IX Z h lo a most hs cnt z f g q) : Exa Z h a "com/example/grawl/grawl/graph/IdIndex" := by obtain ⟨_, _, _, H, _⟩ := H; exact H.1
theorem IX.lt {Z : State} {h : Heap} {lo : Nat} {a : Addr} {most hs cnt : Int32} {z : Nat} {f : Nat → Int32} {g : Nat → Int64} {q : Nat → Int32} (H : IX Z h lo a most hs cnt z f g q) : lo ≤ a ∧ a < h.size := by obtain ⟨_, _, _, H, _, _, _, l, _⟩ := H; exact ⟨l.1, H.lt⟩

set_option maxRecDepth 65536 in
set_option maxHeartbeats 40000000 in
theorem c_place (l : Launch) {Z : State} {a0 : Array Value} (hw : ∀ d ∈ tables_1, d.before a0 Z = true) (h0 : Heap) (n0 : Nat) (hn0 : n0 ≤ h0.size) (id : Int64) (pn : Int32)  : Con l Z (⟨"com/example/grawl/grawl/graph/IdIndex", "placeOf", "(JI)I"⟩ : MethodName) prog_29_method_10_code 3 (some .int) ({ frames := 0, cells := 0, slots := 0, locals := 0 } : Room) [] #[(.long id), (.int pn)] h0 n0 (fun v h' => v = some (.int (placeJ id pn)) ∧ h0 = h') := by
  refine con_of (Ls0 := #[.val (.long id), .second, .val (.int pn)]) (plainFor_of_name pn_0) (fun m => by first | (simp [entryFrame, mkF, argsToLocals, Value.category]; done) | rfl) hn0 ?_
  intro p e s m below meth c C
  refine g_lloadN C D12_0 rfl ?_
  refine g_ldc2 C (wd_69 hw) D12_1 ?_
  refine g_lmul C D12_4 ?_
  refine g_bipush C (32 : Int32) rfl D12_5 ?_
  refine g_lushr C D12_7 ?_
  refine g_iloadN C D12_8 rfl ?_
  refine g_i2l C D12_9 ?_
  refine g_lmul C D12_10 ?_
  refine g_bipush C (32 : Int32) rfl D12_11 ?_
  refine g_lushr C D12_13 ?_
  refine g_l2i C D12_14 ?_
  refine g_retI C D12_15 (by decide) (by decide) ?_
  exact ⟨rfl, rfl⟩
set_option maxRecDepth 65536 in
set_option maxHeartbeats 40000000 in
theorem c_fill (l : Launch) {Z : State} {a0 : Array Value} (hw : ∀ d ∈ tables_1, d.before a0 Z = true) (h0 : Heap) (n0 : Nat) (hn0 : n0 ≤ h0.size) (a : Addr) (v0 : Int64) (f : Nat → Int64) (ga : n0 ≤ a) (Aa : LArr Z h0 a 16 f) : Con l Z (⟨"java/util/Arrays", "fill", "([JJ)V"⟩ : MethodName) jdk_65_method_101_code 5 none ({ frames := 0, cells := 0, slots := 0, locals := 0 } : Room) [] #[(.ref a), (.long v0)] h0 n0 (fun v h' => v = none ∧ Keep h0 h' [a] ∧ LArr Z h' a 16 (fun _ => v0)) := by
  refine con_of (Ls0 := #[.val (.ref a), .val (.long v0), .second, .unset, .unset]) (plainFor_of_name pn_1) (fun m => by first | (simp [entryFrame, mkF, argsToLocals, Value.category]; done) | rfl) hn0 ?_
  intro p e s m below meth c C
  refine g_iconst C (0 : Int32) rfl D5_0 ?_
  refine g_istoreN C #[.val (.ref a), .val (.long v0), .second, .val (.int (0 : Int32)), .unset] D5_1 rfl ?_
  refine g_aloadN C D5_2 rfl rfl ?_
  refine g_lenLArr C D5_3 Aa (16 : Int32) rfl ?_
  refine g_istore C #[.val (.ref a), .val (.long v0), .second, .val (.int (0 : Int32)), .val (.int (16 : Int32))] D5_4 rfl ?_
  refine g_loop (ι := Heap × Int32) (fun y => y.1) (fun y => mkF m 6 #[.val (.ref a), .val (.long v0), .second, .val (.int y.2), .val (.int (16 : Int32))] []) (fun y => 0 ≤ y.2.toInt ∧ y.2.toInt ≤ 16 ∧ Keep h0 y.1 [a] ∧ LArr Z y.1 a 16 (fun j => if (j : Int) < y.2.toInt then v0 else f j)) (fun y => 16 - y.2.toInt.toNat) ?_ (h0, 0) ⟨by show (0 : Int) ≤ (0 : Int32).toInt; decide, by show (0 : Int32).toInt ≤ 16; decide, Keep.refl _ _, Aa.congr (fun j hj => if_neg (by show ¬ ((j : Int) < 0); omega))⟩
  rintro ⟨hh, i⟩ ⟨p1, p2, KK, Ab⟩ ih
  try dsimp only at p1 p2 KK Ab ih ⊢
  refine g_iloadN C D5_6 rfl ?_
  refine g_iload C D5_7 rfl ?_
  refine g_icmp_ge C D5_9 (fun q1 => ?_) (fun q1 => ?_)
  · refine g_ret C D5_22 (by decide) (by decide) ?_
    rw [Int32.lt_iff_toInt_lt, show (16 : Int32).toInt = 16 from rfl] at q1
    exact ⟨rfl, KK, Ab.congr (fun j hj => (if_pos (by omega)).symm)⟩
  · rw [Int32.lt_iff_toInt_lt, show (16 : Int32).toInt = 16 from rfl] at q1
    refine g_aloadN C D5_12 rfl rfl ?_
    refine g_iloadN C D5_13 rfl ?_
    refine g_lloadN C D5_14 rfl ?_
    refine g_lastore C D5_15 Ab p1 (by omega) ga ?_
    intro h2 W3
    have A4 := LArr.set Ab W3
    have K5 := KK.wr W3 (Or.inl (by simp))
    refine g_iinc C (i + (1 : Int32)) #[.val (.ref a), .val (.long v0), .second, .val (.int (i + (1 : Int32))), .val (.int (16 : Int32))] D5_16 rfl rfl rfl ?_
    refine g_goto C D5_19 ?_
    have i1 : (i + 1).toInt = i.toInt + 1 := by have c := c_iadd i 1; have := rng32 (i + 1); have e : (1 : Int32).toInt = 1 := rfl; omega
    exact ih (h2, i + 1) ⟨by show 0 ≤ (i + 1).toInt; omega, by show (i + 1).toInt ≤ 16; omega, K5, A4.congr (fun j hj => fill_step f v0 p1 i1 j)⟩ (by show 16 - (i + 1).toInt.toNat < 16 - i.toInt.toNat; omega)
set_option maxRecDepth 65536 in
set_option maxHeartbeats 40000000 in
theorem c_ep (l : Launch) {Z : State} {a0 : Array Value} (hw : ∀ d ∈ tables_1, d.before a0 Z = true) (h0 : Heap) (n0 : Nat) (hn0 : n0 ≤ h0.size)   : Con l Z (⟨"com/example/grawl/grawl/graph/IdIndex", "emptyPlaces", "(I)[J"⟩ : MethodName) prog_29_method_11_code 2 (some (.array .long)) ({ frames := 1, cells := 1, slots := 16, locals := 16 } : Room) [] #[(.int (16 : Int32))] h0 n0 (fun v h' => ∃ b, v = some (.ref b) ∧ h0.size ≤ b ∧ LArr Z h' b 16 (fun _ => -1) ∧ KL h0.size h0 h') := by
  refine con_of (Ls0 := #[.val (.int (16 : Int32)), .unset]) (plainFor_of_name pn_0) (fun m => by first | (simp [entryFrame, mkF, argsToLocals, Value.category]; done) | rfl) hn0 ?_
  intro p e s m below meth c C
  refine g_iloadN C D4_0 rfl ?_
  refine g_newarr C (aty := .long) (wd_21 hw) D4_1 (by decide) 16 (by decide) (by decide) (by decide) (by decide) ?_
  intro h1 b2 kA3 ge4 ea5 E6 X7
  have A8 : LArr Z h1 b2 16 (fun _ => (0 : Int64)) := LArr.new X7
  refine g_astoreN C #[.val (.int (16 : Int32)), .val (.ref b2)] D4_3 rfl rfl ?_
  refine g_aloadN C D4_4 rfl rfl ?_
  refine g_ldc2 C (wd_22 hw) D4_5 ?_
  have hz8 : n0 ≤ h1.size := Nat.le_trans ge4 (Nat.le_of_lt A8.lt)
  refine g_callS C (c_fill l hw h1 n0 hz8 b2 (-1) _ ge4 A8) (wd_23 hw) (wd_24 hw) (wd_25 hw) (wd_26 hw) (by decide) D4_8 pd_0 [(.ref b2), (.long (-1 : Int64))] [] rfl rfl rfl 0 (Nat.le_of_eq rfl) (by decide) (by decide) (by decide) (by decide) ?_
  rintro _ hA ⟨rfl, KA, HA⟩
  refine g_cast (f' := mkF m 11 #[.val (.int (16 : Int32)), .val (.ref b2)] []) rfl ?_
  refine g_aloadN C D4_11 rfl rfl ?_
  refine g_retA C rfl rfl D4_12 rfl (by decide) (by decide) ?_
  exact ⟨b2, rfl, Nat.le_of_eq ea5.symm, HA, (KL.refl _ _).ext E6 |>.keep KA (fun x hx => by cases List.mem_singleton.mp hx; exact Nat.le_of_eq ea5.symm)⟩
set_option maxRecDepth 65536 in
set_option maxHeartbeats 40000000 in
theorem c_init (l : Launch) {Z : State} {a0 : Array Value} (hw : ∀ d ∈ tables_1, d.before a0 Z = true) (h0 : Heap) (n0 : Nat) (hn0 : n0 ≤ h0.size) (lo : Nat) (a : Addr) (most : Int32) (hlo : n0 ≤ lo) (l_a : lo ≤ a) (H : RI Z h0 a .null .null .null 0 0 0) : Con l Z (⟨"com/example/grawl/grawl/graph/IdIndex", "<init>", "(I)V"⟩ : MethodName) prog_29_method_1_code 2 none ({ frames := 2, cells := 3, slots := 32, locals := 30 } : Room) [] #[(.ref a), (.int most)] h0 n0 (fun v h' => v = none ∧ IX Z h' lo a most 0 0 0 (fun _ => 0) (fun _ => -1) (fun _ => 0) ∧ KL lo h0 h') := by
  refine con_of (Ls0 := #[.val (.ref a), .val (.int most)]) (plainFor_of_name pn_0) (fun m => by first | (simp [entryFrame, mkF, argsToLocals, Value.category]; done) | rfl) hn0 ?_
  intro p e s m below meth c C
  refine g_aloadN C D2_0 rfl rfl ?_
  refine g_initO C (wd_12 hw) (wd_13 hw) (wd_14 hw) D2_1 rfl (by decide) 0 (Nat.le_of_eq rfl) (by decide) ?_
  refine g_aloadN C D2_4 rfl rfl ?_
  refine g_iconst C (0 : Int32) rfl D2_5 ?_
  refine g_newarr C (aty := .int) (wd_15 hw) D2_6 (by decide) 0 (by decide) (by decide) (by decide) (by decide) ?_
  intro h1 b2 kA3 ge4 ea5 E6 X7
  have A8 : IArr Z h1 b2 0 (fun _ => (0 : Int32)) := IArr.new X7
  have ne_a_b2 : a ≠ b2 := Nat.ne_of_lt (ea5 ▸ H.lt)
  have H9 := H.ext E6
  have lo_b2 : lo ≤ b2 := ea5 ▸ (Nat.le_trans l_a (Nat.le_of_lt H.lt))
  have K10 := (KL.refl lo h0).ext E6
  refine g_putF C (wd_16 hw) D2_8 H9.2.1 H9.1 (Or.inl (wd_17 hw)) (wd_7 hw) (ty := (.array .int)) (v' := (.ref b2)) (by decide) rfl rfl (Nat.le_trans hlo l_a) ?_
  intro h11 W12
  have H13 := RI.set_direct hw (g := (.ref b2)) H9 W12
  have K14 := K10.wr W12 l_a
  have A15 := A8.other W12 (Ne.symm ne_a_b2)
  refine g_aloadN C D2_11 rfl rfl ?_
  refine g_bipush C (16 : Int32) rfl D2_12 ?_
  have hz14 : n0 ≤ h11.size := Nat.le_trans (Nat.le_trans hlo l_a) (Nat.le_of_lt H13.lt)
  refine g_callS C (c_ep l hw h11 n0 hz14) (wd_18 hw) (wd_19 hw) (wd_8 hw) (wd_20 hw) (by decide) D2_14 pd_1 [(.int (16 : Int32))] [(.ref a)] rfl rfl rfl 1 (Nat.le_of_eq rfl) (by decide) (by decide) (by decide) (by decide) ?_
  rintro _ hE ⟨bi, rfl, gbi, Abi, KE⟩
  have ne_a_bi : a ≠ bi := Nat.ne_of_lt (Nat.lt_of_lt_of_le H13.lt gbi)
  have ne_b2_bi : b2 ≠ bi := Nat.ne_of_lt (Nat.lt_of_lt_of_le A15.lt gbi)
  have lo_bi : lo ≤ bi := Nat.le_trans (Nat.le_trans l_a (Nat.le_of_lt H13.lt)) gbi
  have HE := H13.kl KE H13.lt
  have AE := A15.kl KE A15.lt
  have KE2 := KL.trans K14 (KE.mono (Nat.le_trans l_a (Nat.le_of_lt H13.lt)))
  refine g_cast (f' := mkF m 17 #[.val (.ref a), .val (.int most)] [(.ref bi), (.ref a)]) rfl ?_
  refine g_putF C (wd_27 hw) D2_17 HE.2.2.1 HE.1 (Or.inl (wd_28 hw)) (wd_7 hw) (ty := (.array .long)) (v' := (.ref bi)) (by decide) rfl rfl (Nat.le_trans hlo l_a) ?_
  intro h16 W17
  have H18 := RI.set_ids hw (g := (.ref bi)) HE W17
  have K19 := KE2.wr W17 l_a
  have A20 := AE.other W17 (Ne.symm ne_a_b2)
  have A21 := Abi.other W17 (Ne.symm ne_a_bi)
  refine g_aloadN C D2_20 rfl rfl ?_
  refine g_bipush C (16 : Int32) rfl D2_21 ?_
  refine g_newarr C (aty := .int) (wd_15 hw) D2_23 (by decide) 16 (by decide) (by decide) (by decide) (by decide) ?_
  intro h22 b23 kA24 ge25 ea26 E27 X28
  have A29 : IArr Z h22 b23 16 (fun _ => (0 : Int32)) := IArr.new X28
  have ne_a_b23 : a ≠ b23 := Nat.ne_of_lt (ea26 ▸ H18.lt)
  have H30 := H18.ext E27
  have ne_b2_b23 : b2 ≠ b23 := Nat.ne_of_lt (ea26 ▸ A20.lt)
  have A31 := A20.ext E27
  have ne_bi_b23 : bi ≠ b23 := Nat.ne_of_lt (ea26 ▸ A21.lt)
  have A32 := A21.ext E27
  have lo_b23 : lo ≤ b23 := ea26 ▸ (Nat.le_trans l_a (Nat.le_of_lt H18.lt))
  have K33 := K19.ext E27
  refine g_putF C (wd_29 hw) D2_25 H30.2.2.2.1 H30.1 (Or.inl (wd_30 hw)) (wd_7 hw) (ty := (.array .int)) (v' := (.ref b23)) (by decide) rfl rfl (Nat.le_trans hlo l_a) ?_
  intro h34 W35
  have H36 := RI.set_numbers hw (g := (.ref b23)) H30 W35
  have K37 := K33.wr W35 l_a
  have A38 := A31.other W35 (Ne.symm ne_a_b2)
  have A39 := A32.other W35 (Ne.symm ne_a_bi)
  have A40 := A29.other W35 (Ne.symm ne_a_b23)
  refine g_aloadN C D2_28 rfl rfl ?_
  refine g_iloadN C D2_29 rfl ?_
  refine g_putF C (wd_31 hw) D2_30 H36.2.2.2.2.1 H36.1 (Or.inr ⟨(wd_32 hw), rfl, rfl⟩) (wd_7 hw) (ty := .int) (v' := (.int most)) (by decide) rfl rfl (Nat.le_trans hlo l_a) ?_
  intro h41 W42
  have H43 := RI.set_most hw (g := most) H36 W42
  have K44 := K37.wr W42 l_a
  have A45 := A38.other W42 (Ne.symm ne_a_b2)
  have A46 := A39.other W42 (Ne.symm ne_a_bi)
  have A47 := A40.other W42 (Ne.symm ne_a_b23)
  refine g_ret C D2_33 (by decide) (by decide) ?_
  exact ⟨rfl, ⟨b2, bi, b23, H43, A45, A46, A47, ⟨l_a, lo_b2, lo_bi, lo_b23⟩, ⟨ne_a_b2, ne_a_bi, ne_a_b23, ne_b2_bi, ne_b2_b23, ne_bi_b23⟩⟩, K44⟩
set_option maxRecDepth 65536 in
set_option maxHeartbeats 40000000 in
theorem c_get (l : Launch) {Z : State} {a0 : Array Value} (hw : ∀ d ∈ tables_1, d.before a0 Z = true) (h0 : Heap) (n0 : Nat) (hn0 : n0 ≤ h0.size) (lo : Nat) (a : Addr) (most hs cnt : Int32) (z : Nat) (f : Nat → Int32) (g : Nat → Int64) (q : Nat → Int32) (id : Int64) (cn : Nat) (X : Nat → Int64) (nu : Nat → Int32) (PL : Nat → Nat) (hlo : n0 ≤ lo) (H : IX Z h0 lo a most hs cnt z f g q) (I : INV z f g q hs cn X nu PL) (h0i : 0 ≤ id.toInt) : Con l Z (⟨"com/example/grawl/grawl/graph/IdIndex", "get", "(J)I"⟩ : MethodName) prog_29_method_3_code 7 (some .int) ({ frames := 1, cells := 0, slots := 0, locals := 14 } : Room) [] #[(.ref a), (.long id)] h0 n0 (fun v h' => ∃ r, v = some (.int r) ∧ GR cn X nu id r ∧ h0 = h') := by
  refine con_of (Ls0 := #[.val (.ref a), .val (.long id), .second, .unset, .unset, .unset, .unset]) (plainFor_of_name pn_0) (fun m => by first | (simp [entryFrame, mkF, argsToLocals, Value.category]; done) | rfl) hn0 ?_
  intro p e s m below meth c C
  obtain ⟨d, i1, n1, HI, Ad, Ai, An, ⟨l_a, l_d, l_i, l_n⟩, ⟨ne_a_d, ne_a_i1, ne_a_n1, ne_d_i1, ne_d_n1, ne_i1_n1⟩⟩ := H
  have hz := I.2.2.2.2.2.2.2
  refine g_iconst C (-1 : Int32) rfl D7_0 ?_
  refine g_istoreN C #[.val (.ref a), .val (.long id), .second, .val (.int (-1 : Int32)), .unset, .unset, .unset] D7_1 rfl ?_
  refine g_lloadN C D7_2 rfl ?_
  refine g_aloadN C D7_3 rfl rfl ?_
  refine g_getF C (wd_16 hw) D7_4 HI.2.1 ?_
  refine g_lenIArr C D7_7 Ad (Int32.ofNat z) rfl ?_
  refine g_i2l C D7_8 ?_
  refine g_lcmp_ge C D7_9 D7_10 (fun q1 => ?_) (fun q1 => ?_)
  · have q1 : (z : Int) ≤ id.toInt := by have := mt (lt_len id hz).mpr q1; omega
    refine g_aloadN C D7_26 rfl rfl ?_
    refine g_getF C (wd_43 hw) D7_27 HI.2.2.2.2.2.1 ?_
    refine g_if_le C D7_30 (fun q2 => ?_) (fun q2 => ?_)
    · refine g_iloadN C D7_124 rfl ?_
      refine g_retI C D7_125 (by decide) (by decide) ?_
      exact ⟨_, rfl, get_none I (not_pos q2) q1, rfl⟩
    · have pr := place_rng id
      refine g_lloadN C D7_33 rfl ?_
      refine g_aloadN C D7_34 rfl rfl ?_
      refine g_getF C (wd_27 hw) D7_35 HI.2.2.1 ?_
      refine g_lenLArr C D7_38 Ai (16 : Int32) rfl ?_
      refine g_callS C (c_place l hw h0 n0 hn0 id 16) (wd_66 hw) (wd_67 hw) (wd_8 hw) (wd_68 hw) (by decide) D7_39 pd_2 [(.long id), (.int (16 : Int32))] [] rfl rfl rfl 0 (Nat.le_of_eq rfl) (by decide) (by decide) (by decide) (by decide) ?_
      rintro _ _ ⟨rfl, rfl⟩
      refine g_cast (f' := mkF m 42 #[.val (.ref a), .val (.long id), .second, .val (.int (-1 : Int32)), .unset, .unset, .unset] [(.int (placeJ id 16))]) rfl ?_
      refine g_istore C #[.val (.ref a), .val (.long id), .second, .val (.int (-1 : Int32)), .val (.int (placeJ id 16)), .unset, .unset] D7_42 rfl ?_
      refine g_aloadN C D7_44 rfl rfl ?_
      refine g_getF C (wd_27 hw) D7_45 HI.2.2.1 ?_
      refine g_iload C D7_48 rfl ?_
      refine g_laload C D7_50 Ai pr.1 (by have := pr.2; omega) (g (home id)) rfl ?_
      refine g_lstore C #[.val (.ref a), .val (.long id), .second, .val (.int (-1 : Int32)), .val (.int (placeJ id 16)), .val (.long (g (home id))), .second] D7_51 rfl ?_
      obtain ⟨E, hE, gE⟩ := inv_empty I
      refine g_loop (ι := Int32 × Nat) (fun y => h0) (fun y => mkF m 53 #[.val (.ref a), .val (.long id), .second, .val (.int (-1 : Int32)), .val (.int y.1), .val (.long (g y.1.toInt.toNat)), .second] []) (fun y => 0 ≤ y.1.toInt ∧ PR g id y.2 y.1.toInt.toNat) (fun y => (E + 16 - y.1.toInt.toNat) % 16) ?_ (placeJ id 16, 0) ⟨pr.1, PR.zero g id⟩
      rintro ⟨pl, k⟩ ⟨p1, p2⟩ ih
      try dsimp only at p1 p2 ih ⊢
      have plt := p2.lt
      refine g_lload C D7_53 rfl ?_
      refine g_lloadN C D7_55 rfl ?_
      refine g_lcmp_eq C D7_56 D7_57 (fun q3 => ?_) (fun q3 => ?_)
      · refine g_lload C D7_103 rfl ?_
        refine g_ldc2 C (wd_22 hw) D7_105 ?_
        refine g_lcmp_ne C D7_108 D7_109 (fun q4 => ?_) (fun q4 => ?_)
        rotate_left
        · exfalso
          exact neg_ne h0i (q3.symm.trans q4)
        refine g_aloadN C D7_116 rfl rfl ?_
        refine g_getF C (wd_29 hw) D7_117 HI.2.2.2.1 ?_
        refine g_iload C D7_120 rfl ?_
        refine g_iaload C D7_122 An p1 (by omega) (q pl.toInt.toNat) rfl ?_
        refine g_istoreN C #[.val (.ref a), .val (.long id), .second, .val (.int (q pl.toInt.toNat)), .val (.int pl), .val (.long (g pl.toInt.toNat)), .second] D7_123 rfl ?_
        refine g_iloadN C D7_124 rfl ?_
        refine g_retI C D7_125 (by decide) (by decide) ?_
        exact ⟨_, rfl, get_hit I h0i plt q3, rfl⟩
      · refine g_lload C D7_60 rfl ?_
        refine g_ldc2 C (wd_22 hw) D7_62 ?_
        refine g_lcmp_eq C D7_65 D7_66 (fun q5 => ?_) (fun q5 => ?_)
        · refine g_lload C D7_103 rfl ?_
          refine g_ldc2 C (wd_22 hw) D7_105 ?_
          refine g_lcmp_ne C D7_108 D7_109 (fun q6 => ?_) (fun q6 => ?_)
          · exfalso
            exact q6 q5
          refine g_iconst C (-1 : Int32) rfl D7_112 ?_
          refine g_goto C D7_113 ?_
          refine g_istoreN C #[.val (.ref a), .val (.long id), .second, .val (.int (-1 : Int32)), .val (.int pl), .val (.long (g pl.toInt.toNat)), .second] D7_123 rfl ?_
          refine g_iloadN C D7_124 rfl ?_
          refine g_retI C D7_125 (by decide) (by decide) ?_
          exact ⟨_, rfl, get_miss I q1 p2 q5, rfl⟩
        · obtain ⟨s1, s2⟩ := probe_step hE gE p2 q3 q5
          have pa := add1 (i := pl) p1 (by omega)
          refine g_iload C D7_69 rfl ?_
          refine g_iconst C (1 : Int32) rfl D7_71 ?_
          refine g_iadd C D7_72 ?_
          refine g_aloadN C D7_73 rfl rfl ?_
          refine g_getF C (wd_27 hw) D7_74 HI.2.2.1 ?_
          refine g_lenLArr C D7_77 Ai (16 : Int32) rfl ?_
          refine g_icmp_ne C D7_78 (fun q7 => ?_) (fun q7 => ?_)
          · have ep : (pl + 1).toInt.toNat = (pl.toInt.toNat + 1) % 16 := wrap_no p1 plt q7
            refine g_iload C D7_85 rfl ?_
            refine g_iconst C (1 : Int32) rfl D7_87 ?_
            refine g_iadd C D7_88 ?_
            refine g_istore C #[.val (.ref a), .val (.long id), .second, .val (.int (-1 : Int32)), .val (.int (pl + (1 : Int32))), .val (.long (g pl.toInt.toNat)), .second] D7_89 rfl ?_
            refine g_aloadN C D7_91 rfl rfl ?_
            refine g_getF C (wd_27 hw) D7_92 HI.2.2.1 ?_
            refine g_iload C D7_95 rfl ?_
            refine g_laload C D7_97 Ai (by omega) (by omega) (g (pl + 1).toInt.toNat) rfl ?_
            refine g_lstore C #[.val (.ref a), .val (.long id), .second, .val (.int (-1 : Int32)), .val (.int (pl + (1 : Int32))), .val (.long (g (pl + 1).toInt.toNat)), .second] D7_98 rfl ?_
            refine g_goto C D7_100 ?_
            exact ih (pl + 1, k + 1) ⟨by show 0 ≤ (pl + 1).toInt; omega, by show PR g id (k + 1) (pl + 1).toInt.toNat; rw [ep]; exact s1⟩ (by show (E + 16 - (pl + 1).toInt.toNat) % 16 < (E + 16 - pl.toInt.toNat) % 16; rw [ep]; exact s2)
          · have ep : (0 : Int32).toInt.toNat = (pl.toInt.toNat + 1) % 16 := wrap_yes p1 q7
            refine g_iconst C (0 : Int32) rfl D7_81 ?_
            refine g_goto C D7_82 ?_
            refine g_istore C #[.val (.ref a), .val (.long id), .second, .val (.int (-1 : Int32)), .val (.int (0 : Int32)), .val (.long (g pl.toInt.toNat)), .second] D7_89 rfl ?_
            refine g_aloadN C D7_91 rfl rfl ?_
            refine g_getF C (wd_27 hw) D7_92 HI.2.2.1 ?_
            refine g_iload C D7_95 rfl ?_
            refine g_laload C D7_97 Ai (by decide) (by decide) (g (0 : Int32).toInt.toNat) rfl ?_
            refine g_lstore C #[.val (.ref a), .val (.long id), .second, .val (.int (-1 : Int32)), .val (.int (0 : Int32)), .val (.long (g (0 : Int32).toInt.toNat)), .second] D7_98 rfl ?_
            refine g_goto C D7_100 ?_
            exact ih (0, k + 1) ⟨by show (0 : Int) ≤ (0 : Int32).toInt; decide, by show PR g id (k + 1) (0 : Int32).toInt.toNat; rw [ep]; exact s1⟩ (by show (E + 16 - (0 : Int32).toInt.toNat) % 16 < (E + 16 - pl.toInt.toNat) % 16; rw [ep]; exact s2)
  · have q1 := (lt_len id hz).mp q1
    have e1 : id.toInt32.toInt = id.toInt := small_l2i h0i (by omega)
    refine g_aloadN C D7_13 rfl rfl ?_
    refine g_getF C (wd_16 hw) D7_14 HI.2.1 ?_
    refine g_lloadN C D7_17 rfl ?_
    refine g_l2i C D7_18 ?_
    refine g_iaload C D7_19 Ad (by omega) (by omega) (f id.toInt.toNat) (by rw [e1]) ?_
    refine g_iconst C (1 : Int32) rfl D7_20 ?_
    refine g_isub C D7_21 ?_
    refine g_istoreN C #[.val (.ref a), .val (.long id), .second, .val (.int ((f id.toInt.toNat) - (1 : Int32))), .unset, .unset, .unset] D7_22 rfl ?_
    refine g_goto C D7_23 ?_
    refine g_iloadN C D7_124 rfl ?_
    refine g_retI C D7_125 (by decide) (by decide) ?_
    exact ⟨_, rfl, get_direct I (x := id.toInt.toNat) (by omega) (by omega), rfl⟩
set_option maxRecDepth 65536 in
set_option maxHeartbeats 40000000 in
theorem c_hash (l : Launch) {Z : State} {a0 : Array Value} (hw : ∀ d ∈ tables_1, d.before a0 Z = true) (h0 : Heap) (n0 : Nat) (hn0 : n0 ≤ h0.size) (lo : Nat) (a : Addr) (most hs cnt : Int32) (z : Nat) (f : Nat → Int32) (g : Nat → Int64) (q : Nat → Int32) (id : Int64) (nb : Int32) (cn : Nat) (X : Nat → Int64) (nu : Nat → Int32) (PL : Nat → Nat) (hlo : n0 ≤ lo) (H : IX Z h0 lo a most hs cnt z f g q) (I : INV z f g q hs cn X nu PL) : Con l Z (⟨"com/example/grawl/grawl/graph/IdIndex", "hash", "(JI)V"⟩ : MethodName) prog_29_method_8_code 5 none ({ frames := 1, cells := 0, slots := 0, locals := 14 } : Room) [] #[(.ref a), (.long id), (.int nb)] h0 n0 (fun v h' => v = none ∧ ∃ k p, PE g id k p ∧ g p = -1 ∧ IX Z h' lo a most (hs + 1) cnt z f (up g p id) (up q p nb) ∧ KL lo h0 h') := by
  refine con_of (Ls0 := #[.val (.ref a), .val (.long id), .second, .val (.int nb), .unset]) (plainFor_of_name pn_0) (fun m => by first | (simp [entryFrame, mkF, argsToLocals, Value.category]; done) | rfl) hn0 ?_
  intro p e s m below meth c C
  obtain ⟨d, i1, n1, HI, Ad, Ai, An, ⟨l_a, l_d, l_i, l_n⟩, ⟨ne_a_d, ne_a_i1, ne_a_n1, ne_d_i1, ne_d_n1, ne_i1_n1⟩⟩ := H
  obtain ⟨E, hE, gE⟩ := inv_empty I
  have pr := place_rng id
  refine g_lloadN C D11_0 rfl ?_
  refine g_aloadN C D11_1 rfl rfl ?_
  refine g_getF C (wd_27 hw) D11_2 HI.2.2.1 ?_
  refine g_lenLArr C D11_5 Ai (16 : Int32) rfl ?_
  refine g_callS C (c_place l hw h0 n0 hn0 id 16) (wd_66 hw) (wd_67 hw) (wd_8 hw) (wd_68 hw) (by decide) D11_6 pd_2 [(.long id), (.int (16 : Int32))] [] rfl rfl rfl 0 (Nat.le_of_eq rfl) (by decide) (by decide) (by decide) (by decide) ?_
  rintro _ _ ⟨rfl, rfl⟩
  refine g_cast (f' := mkF m 9 #[.val (.ref a), .val (.long id), .second, .val (.int nb), .unset] [(.int (placeJ id 16))]) rfl ?_
  refine g_istore C #[.val (.ref a), .val (.long id), .second, .val (.int nb), .val (.int (placeJ id 16))] D11_9 rfl ?_
  refine g_loop (ι := Int32 × Nat) (fun y => h0) (fun y => mkF m 11 #[.val (.ref a), .val (.long id), .second, .val (.int nb), .val (.int y.1)] []) (fun y => 0 ≤ y.1.toInt ∧ PE g id y.2 y.1.toInt.toNat) (fun y => (E + 16 - y.1.toInt.toNat) % 16) ?_ (placeJ id 16, 0) ⟨pr.1, PE.zero g id⟩
  rintro ⟨pl, k⟩ ⟨p1, p2⟩ ih
  try dsimp only at p1 p2 ih ⊢
  have plt := p2.lt
  refine g_aloadN C D11_11 rfl rfl ?_
  refine g_getF C (wd_27 hw) D11_12 HI.2.2.1 ?_
  refine g_iload C D11_15 rfl ?_
  refine g_laload C D11_17 Ai p1 (by omega) (g pl.toInt.toNat) rfl ?_
  refine g_ldc2 C (wd_22 hw) D11_18 ?_
  refine g_lcmp_eq C D11_21 D11_22 (fun q1 => ?_) (fun q1 => ?_)
  · refine g_aloadN C D11_50 rfl rfl ?_
    refine g_getF C (wd_27 hw) D11_51 HI.2.2.1 ?_
    refine g_iload C D11_54 rfl ?_
    refine g_lloadN C D11_56 rfl ?_
    refine g_lastore C D11_57 Ai p1 (by omega) (Nat.le_trans hlo l_i) ?_
    intro h2 W3
    have A4 := LArr.set Ai W3
    have K5 := (KL.refl lo h0).wr W3 l_i
    have H6 := HI.other W3 ne_a_i1
    have A7 := Ad.other W3 ne_d_i1
    have A8 := An.other W3 (Ne.symm ne_i1_n1)
    refine g_aloadN C D11_58 rfl rfl ?_
    refine g_getF C (wd_29 hw) D11_59 H6.2.2.2.1 ?_
    refine g_iload C D11_62 rfl ?_
    refine g_iloadN C D11_64 rfl ?_
    refine g_iastore C D11_65 A8 p1 (by omega) (Nat.le_trans hlo l_n) ?_
    intro h9 W10
    have A11 := IArr.set A8 W10
    have K12 := K5.wr W10 l_n
    have H13 := H6.other W10 ne_a_n1
    have A14 := A7.other W10 ne_d_n1
    have A15 := A4.other W10 ne_i1_n1
    refine g_aloadN C D11_66 rfl rfl ?_
    refine g_dup C D11_67 rfl ?_
    refine g_getF C (wd_43 hw) D11_68 H13.2.2.2.2.2.1 ?_
    refine g_iconst C (1 : Int32) rfl D11_71 ?_
    refine g_iadd C D11_72 ?_
    refine g_putF C (wd_43 hw) D11_73 H13.2.2.2.2.2.1 H13.1 (Or.inl (wd_44 hw)) (wd_7 hw) (ty := .int) (v' := (.int (hs + (1 : Int32)))) (by decide) rfl rfl (Nat.le_trans hlo l_a) ?_
    intro h16 W17
    have H18 := RI.set_hashed hw (g := (hs + (1 : Int32))) H13 W17
    have K19 := K12.wr W17 l_a
    have A20 := A14.other W17 (Ne.symm ne_a_d)
    have A21 := A15.other W17 (Ne.symm ne_a_i1)
    have A22 := A11.other W17 (Ne.symm ne_a_n1)
    refine g_aloadN C D11_76 rfl rfl ?_
    refine g_getF C (wd_43 hw) D11_77 H18.2.2.2.2.2.1 ?_
    refine g_aloadN C D11_80 rfl rfl ?_
    refine g_getF C (wd_27 hw) D11_81 H18.2.2.1 ?_
    refine g_lenLArr C D11_84 A21 (16 : Int32) rfl ?_
    refine g_iconst C (4 : Int32) rfl D11_85 ?_
    refine g_idiv C D11_86 (by decide) ?_
    refine g_iconst C (3 : Int32) rfl D11_87 ?_
    refine g_imul C D11_88 ?_
    refine g_icmp_le C D11_89 (fun q23 => ?_) (fun q23 => ?_)
    rotate_left
    · exfalso
      exact no_grow I q23
    refine g_ret C D11_106 (by decide) (by decide) ?_
    exact ⟨rfl, k, pl.toInt.toNat, p2, q1, ⟨d, i1, n1, H18, A20, A21, A22, ⟨l_a, l_d, l_i, l_n⟩, ⟨ne_a_d, ne_a_i1, ne_a_n1, ne_d_i1, ne_d_n1, ne_i1_n1⟩⟩, K19⟩
  · obtain ⟨s1, s2⟩ := pe_step hE gE p2 q1
    have pa := add1 (i := pl) p1 (by omega)
    refine g_iload C D11_25 rfl ?_
    refine g_iconst C (1 : Int32) rfl D11_27 ?_
    refine g_iadd C D11_28 ?_
    refine g_aloadN C D11_29 rfl rfl ?_
    refine g_getF C (wd_27 hw) D11_30 HI.2.2.1 ?_
    refine g_lenLArr C D11_33 Ai (16 : Int32) rfl ?_
    refine g_icmp_ne C D11_34 (fun q24 => ?_) (fun q24 => ?_)
    · have ep : (pl + 1).toInt.toNat = (pl.toInt.toNat + 1) % 16 := wrap_no p1 plt q24
      refine g_iload C D11_41 rfl ?_
      refine g_iconst C (1 : Int32) rfl D11_43 ?_
      refine g_iadd C D11_44 ?_
      refine g_istore C #[.val (.ref a), .val (.long id), .second, .val (.int nb), .val (.int (pl + (1 : Int32)))] D11_45 rfl ?_
      refine g_goto C D11_47 ?_
      exact ih (pl + 1, k + 1) ⟨by show 0 ≤ (pl + 1).toInt; omega, by show PE g id (k + 1) (pl + 1).toInt.toNat; rw [ep]; exact s1⟩ (by show (E + 16 - (pl + 1).toInt.toNat) % 16 < (E + 16 - pl.toInt.toNat) % 16; rw [ep]; exact s2)
    · have ep : (0 : Int32).toInt.toNat = (pl.toInt.toNat + 1) % 16 := wrap_yes p1 q24
      refine g_iconst C (0 : Int32) rfl D11_37 ?_
      refine g_goto C D11_38 ?_
      refine g_istore C #[.val (.ref a), .val (.long id), .second, .val (.int nb), .val (.int (0 : Int32))] D11_45 rfl ?_
      refine g_goto C D11_47 ?_
      exact ih (0, k + 1) ⟨by show (0 : Int) ≤ (0 : Int32).toInt; decide, by show PE g id (k + 1) (0 : Int32).toInt.toNat; rw [ep]; exact s1⟩ (by show (E + 16 - (0 : Int32).toInt.toNat) % 16 < (E + 16 - pl.toInt.toNat) % 16; rw [ep]; exact s2)
set_option maxRecDepth 65536 in
set_option maxHeartbeats 40000000 in
theorem c_max (l : Launch) {Z : State} {a0 : Array Value} (hw : ∀ d ∈ tables_1, d.before a0 Z = true) (h0 : Heap) (n0 : Nat) (hn0 : n0 ≤ h0.size) (x y r : Int64) (hs : maxR x y r) : Con l Z (⟨"java/lang/Math", "max", "(JJ)J"⟩ : MethodName) jdk_29_method_66_code 4 (some .long) ({ frames := 0, cells := 0, slots := 0, locals := 0 } : Room) [] #[(.long x), (.long y)] h0 n0 (fun v h' => v = some (.long r) ∧ h0 = h') := by
  refine con_of (Ls0 := #[.val (.long x), .second, .val (.long y), .second]) (Jvm.Free.JP.mathPlain rfl (by decide +kernel)) (fun m => by first | (simp [entryFrame, mkF, argsToLocals, Value.category]; done) | rfl) hn0 ?_
  intro p e s m below meth c C
  refine g_lloadN C D13_0 rfl ?_
  refine g_lloadN C D13_1 rfl ?_
  refine g_lcmp_lt C D13_2 D13_3 (fun q1 => ?_) (fun q1 => ?_)
  · refine g_lloadN C D13_10 rfl ?_
    refine g_retJ C D13_11 (by decide) (by decide) ?_
    obtain rfl := maxT q1 hs
    exact ⟨rfl, rfl⟩
  · refine g_lloadN C D13_6 rfl ?_
    refine g_goto C D13_7 ?_
    refine g_retJ C D13_11 (by decide) (by decide) ?_
    obtain rfl := maxF q1 hs
    exact ⟨rfl, rfl⟩
set_option maxRecDepth 65536 in
set_option maxHeartbeats 40000000 in
theorem c_minJ (l : Launch) {Z : State} {a0 : Array Value} (hw : ∀ d ∈ tables_1, d.before a0 Z = true) (h0 : Heap) (n0 : Nat) (hn0 : n0 ≤ h0.size) (x y r : Int64) (hs : minJR x y r) : Con l Z (⟨"java/lang/Math", "min", "(JJ)J"⟩ : MethodName) jdk_29_method_70_code 4 (some .long) ({ frames := 0, cells := 0, slots := 0, locals := 0 } : Room) [] #[(.long x), (.long y)] h0 n0 (fun v h' => v = some (.long r) ∧ h0 = h') := by
  refine con_of (Ls0 := #[.val (.long x), .second, .val (.long y), .second]) (Jvm.Free.JP.mathPlain rfl (by decide +kernel)) (fun m => by first | (simp [entryFrame, mkF, argsToLocals, Value.category]; done) | rfl) hn0 ?_
  intro p e s m below meth c C
  refine g_lloadN C D10_0 rfl ?_
  refine g_lloadN C D10_1 rfl ?_
  refine g_lcmp_gt C D10_2 D10_3 (fun q1 => ?_) (fun q1 => ?_)
  · refine g_lloadN C D10_10 rfl ?_
    refine g_retJ C D10_11 (by decide) (by decide) ?_
    obtain rfl := minJT q1 hs
    exact ⟨rfl, rfl⟩
  · refine g_lloadN C D10_6 rfl ?_
    refine g_goto C D10_7 ?_
    refine g_retJ C D10_11 (by decide) (by decide) ?_
    obtain rfl := minJF q1 hs
    exact ⟨rfl, rfl⟩
set_option maxRecDepth 65536 in
set_option maxHeartbeats 40000000 in
theorem c_minI (l : Launch) {Z : State} {a0 : Array Value} (hw : ∀ d ∈ tables_1, d.before a0 Z = true) (h0 : Heap) (n0 : Nat) (hn0 : n0 ≤ h0.size) (x y r : Int32) (hs : minIR x y r) : Con l Z (⟨"java/lang/Math", "min", "(II)I"⟩ : MethodName) jdk_29_method_69_code 2 (some .int) ({ frames := 0, cells := 0, slots := 0, locals := 0 } : Room) [] #[(.int x), (.int y)] h0 n0 (fun v h' => v = some (.int r) ∧ h0 = h') := by
  refine con_of (Ls0 := #[.val (.int x), .val (.int y)]) (Jvm.Free.JP.mathPlain rfl (by decide +kernel)) (fun m => by first | (simp [entryFrame, mkF, argsToLocals, Value.category]; done) | rfl) hn0 ?_
  intro p e s m below meth c C
  refine g_iloadN C D16_0 rfl ?_
  refine g_iloadN C D16_1 rfl ?_
  refine g_icmp_gt C D16_2 (fun q1 => ?_) (fun q1 => ?_)
  · refine g_iloadN C D16_9 rfl ?_
    refine g_retI C D16_10 (by decide) (by decide) ?_
    obtain rfl := minIT q1 hs
    exact ⟨rfl, rfl⟩
  · refine g_iloadN C D16_5 rfl ?_
    refine g_goto C D16_6 ?_
    refine g_retI C D16_10 (by decide) (by decide) ?_
    obtain rfl := minIF q1 hs
    exact ⟨rfl, rfl⟩
set_option maxRecDepth 65536 in
set_option maxHeartbeats 40000000 in
theorem c_copy (l : Launch) {Z : State} {a0 : Array Value} (hw : ∀ d ∈ tables_1, d.before a0 Z = true) (h0 : Heap) (n0 : Nat) (hn0 : n0 ≤ h0.size) (b : Addr) (ln : Int32) (z S : Nat) (f : Nat → Int32) (Ab : IArr Z h0 b z f) (hz : z ≤ 65548) (hln : ln.toInt = S) (hS : z < S) (hS2 : S ≤ 65548) : Con l Z (⟨"java/util/Arrays", "copyOf", "([II)[I"⟩ : MethodName) jdk_65_method_123_code 3 (some (.array .int)) ({ frames := 1, cells := 1, slots := S, locals := 40 } : Room) [] #[(.ref b), (.int ln)] h0 n0 (fun v h' => ∃ r, v = some (.ref r) ∧ h0.size ≤ r ∧ IArr Z h' r S (base f z) ∧ KL h0.size h0 h') := by
  refine con_of (Ls0 := #[.val (.ref b), .val (.int ln), .unset]) (plainFor_of_name pn_1) (fun m => by first | (simp [entryFrame, mkF, argsToLocals, Value.category]; done) | rfl) hn0 ?_
  intro p e s m below meth c C
  have lz := len_int hz
  refine g_iloadN C D15_0 rfl ?_
  refine g_aloadN C D15_1 rfl rfl ?_
  refine g_lenIArr C D15_2 Ab (Int32.ofNat z) rfl ?_
  refine g_icmp_ne C D15_3 (fun q1 => ?_) (fun q1 => ?_)
  rotate_left
  · exfalso
    rw [q1, lz] at hln; omega
  refine g_iloadN C D15_14 rfl ?_
  refine g_newarr C (aty := .int) (wd_15 hw) D15_15 (by rw [Int32.lt_iff_toInt_lt, show (0 : Int32).toInt = 0 from rfl]; omega) (S) (by show ln.toInt.toNat ≤ S; omega) (by omega) (Nat.le_of_ble_eq_true rfl) (by show 0 + S ≤ S; omega) ?_
  intro h2 b3 kA4 ge5 ea6 E7 X8
  have A9 : IArr Z h2 b3 ln.toNatClampNeg (fun _ => (0 : Int32)) := IArr.new X8
  have ne_b_b3 : b ≠ b3 := Nat.ne_of_lt (ea6 ▸ Ab.lt)
  have A10 := Ab.ext E7
  refine g_astoreN C #[.val (.ref b), .val (.int ln), .val (.ref b3)] D15_17 rfl rfl ?_
  refine g_aloadN C D15_18 rfl rfl ?_
  refine g_iconst C (0 : Int32) rfl D15_19 ?_
  refine g_aloadN C D15_20 rfl rfl ?_
  refine g_iconst C (0 : Int32) rfl D15_21 ?_
  refine g_aloadN C D15_22 rfl rfl ?_
  refine g_lenIArr C D15_23 A10 (Int32.ofNat z) rfl ?_
  refine g_iloadN C D15_24 rfl ?_
  have hz25 : n0 ≤ h2.size := Nat.le_trans hn0 E7.1
  refine g_callS C (c_minI l hw h2 n0 hz25 (Int32.ofNat z) ln (Int32.ofNat z) (minI_le (by rw [lz]; omega))) (wd_82 hw) (wd_83 hw) (wd_60 hw) (wd_84 hw) (by decide) D15_25 pd_3 [(.int (Int32.ofNat z)), (.int ln)] [(.int (0 : Int32)), (.ref b3), (.int (0 : Int32)), (.ref b)] rfl rfl rfl 4 (Nat.le_of_eq rfl) (Nat.le_of_ble_eq_true rfl) (Nat.le_of_ble_eq_true rfl) (Nat.le_of_ble_eq_true rfl) (by show 0 + S + 0 ≤ S; omega) ?_
  rintro _ _ ⟨rfl, rfl⟩
  refine g_cast (f' := mkF m 28 #[.val (.ref b), .val (.int ln), .val (.ref b3)] [(.int (Int32.ofNat z)), (.int (0 : Int32)), (.ref b3), (.int (0 : Int32)), (.ref b)]) rfl ?_
  refine g_acopy C (wd_85 hw) (wd_88 hw) (wd_86 hw) (wd_87 hw) D15_28 A10 A9 (by show z ≤ ln.toInt.toNat; omega) (Int32.ofNat z) lz ge5 rfl (Nat.le_of_ble_eq_true rfl) 0 (Nat.le_of_eq rfl) (Nat.le_of_ble_eq_true rfl) ?_
  intro hC KC AC
  refine g_aloadN C D15_31 rfl rfl ?_
  refine g_retA C rfl rfl D15_32 rfl (Nat.le_of_ble_eq_true rfl) (by show 0 + S + 0 ≤ S; omega) ?_
  have AC2 : IArr Z hC b3 S (base f z) := by
    have e : ln.toNatClampNeg = S := by show ln.toInt.toNat = S; omega
    rw [e] at AC; exact AC
  exact ⟨b3, rfl, Nat.le_of_eq ea6.symm, AC2, (KL.refl _ _).ext E7 |>.keep KC (fun x hx => by cases List.mem_singleton.mp hx; exact Nat.le_of_eq ea6.symm)⟩
set_option maxRecDepth 65536 in
set_option maxHeartbeats 40000000 in
theorem c_grow (l : Launch) {Z : State} {a0 : Array Value} (hw : ∀ d ∈ tables_1, d.before a0 Z = true) (h0 : Heap) (n0 : Nat) (hn0 : n0 ≤ h0.size) (lo : Nat) (a : Addr) (most hs cnt : Int32) (z : Nat) (f : Nat → Int32) (g : Nat → Int64) (q : Nat → Int32) (ln : Int32) (S : Nat) (cn : Nat) (X : Nat → Int64) (nu : Nat → Int32) (PL : Nat → Nat) (hlo : n0 ≤ lo) (H : IX Z h0 lo a most hs cnt z f g q) (I : INV z f g q hs cn X nu PL) (hln : ln.toInt = S) (hS : z < S) (hS2 : S ≤ 65548) : Con l Z (⟨"com/example/grawl/grawl/graph/IdIndex", "growDirect", "(I)V"⟩ : MethodName) prog_29_method_7_code 5 none ({ frames := 2, cells := 1, slots := S, locals := 55 } : Room) [] #[(.ref a), (.int ln)] h0 n0 (fun v h' => v = none ∧ ∃ F, GL f z S g q cn X nu 16 F ∧ IX Z h' lo a most hs cnt S F g q ∧ KL lo h0 h') := by
  refine con_of (Ls0 := #[.val (.ref a), .val (.int ln), .unset, .unset, .unset]) (plainFor_of_name pn_0) (fun m => by first | (simp [entryFrame, mkF, argsToLocals, Value.category]; done) | rfl) hn0 ?_
  intro p e s m below meth c C
  obtain ⟨d, i1, n1, HI, Ad, Ai, An, ⟨l_a, l_d, l_i, l_n⟩, ⟨ne_a_d, ne_a_i1, ne_a_n1, ne_d_i1, ne_d_n1, ne_i1_n1⟩⟩ := H
  have hz := I.2.2.2.2.2.2.2
  refine g_aloadN C D14_0 rfl rfl ?_
  refine g_aloadN C D14_1 rfl rfl ?_
  refine g_getF C (wd_16 hw) D14_2 HI.2.1 ?_
  refine g_iloadN C D14_5 rfl ?_
  refine g_callS C (c_copy l hw h0 n0 hn0 d ln z S f Ad hz hln hS hS2) (wd_79 hw) (wd_80 hw) (wd_25 hw) (wd_81 hw) (by decide) D14_6 pd_4 [(.ref d), (.int ln)] [(.ref a)] rfl rfl rfl 1 (Nat.le_of_eq rfl) (Nat.le_of_ble_eq_true rfl) (Nat.le_of_ble_eq_true rfl) (Nat.le_of_ble_eq_true rfl) (by show 0 + S ≤ S; omega) ?_
  rintro _ hC ⟨b2, rfl, gb2, Ab2, KC⟩
  have ne_a_b2 : a ≠ b2 := Nat.ne_of_lt (Nat.lt_of_lt_of_le HI.lt gb2)
  have ne_i1_b2 : i1 ≠ b2 := Nat.ne_of_lt (Nat.lt_of_lt_of_le Ai.lt gb2)
  have ne_n1_b2 : n1 ≠ b2 := Nat.ne_of_lt (Nat.lt_of_lt_of_le An.lt gb2)
  have lo_b2 : lo ≤ b2 := Nat.le_trans (Nat.le_trans l_a (Nat.le_of_lt HI.lt)) gb2
  have KC2 := KL.trans (KL.refl lo h0) (KC.mono (Nat.le_trans l_a (Nat.le_of_lt HI.lt)))
  have HIC := HI.kl KC HI.lt
  have AiC := Ai.kl KC Ai.lt
  have AnC := An.kl KC An.lt
  refine g_cast (f' := mkF m 9 #[.val (.ref a), .val (.int ln), .unset, .unset, .unset] [(.ref b2), (.ref a)]) rfl ?_
  refine g_putF C (wd_16 hw) D14_9 HIC.2.1 HIC.1 (Or.inl (wd_17 hw)) (wd_7 hw) (ty := (.array .int)) (v' := (.ref b2)) (by decide) rfl rfl (Nat.le_trans hlo l_a) ?_
  intro h1 W2
  have H3 := RI.set_direct hw (g := (.ref b2)) HIC W2
  have K4 := KC2.wr W2 l_a
  have A5 := AiC.other W2 (Ne.symm ne_a_i1)
  have A6 := AnC.other W2 (Ne.symm ne_a_n1)
  have A7 := Ab2.other W2 (Ne.symm ne_a_b2)
  refine g_aloadN C D14_12 rfl rfl ?_
  refine g_getF C (wd_43 hw) D14_13 H3.2.2.2.2.2.1 ?_
  refine g_if_le C D14_16 (fun q8 => ?_) (fun q8 => ?_)
  · refine g_ret C D14_73 (Nat.le_of_ble_eq_true rfl) (by show 0 + S ≤ S; omega) ?_
    exact ⟨rfl, _, gl_empty I (not_pos q8), ⟨b2, i1, n1, H3, A7, A5, A6, ⟨l_a, lo_b2, l_i, l_n⟩, ⟨ne_a_b2, ne_a_i1, ne_a_n1, Ne.symm ne_i1_b2, Ne.symm ne_n1_b2, ne_i1_n1⟩⟩, K4⟩
  · refine g_iconst C (0 : Int32) rfl D14_19 ?_
    refine g_istoreN C #[.val (.ref a), .val (.int ln), .val (.int (0 : Int32)), .unset, .unset] D14_20 rfl ?_
    refine g_loop (ι := Heap × Int32 × (Nat → Int32) × Slot × Slot) (fun y => y.1) (fun y => mkF m 21 #[.val (.ref a), .val (.int ln), .val (.int y.2.1), y.2.2.2.1, y.2.2.2.2] []) (fun y => 0 ≤ y.2.1.toInt ∧ y.2.1.toInt ≤ 16 ∧ RI Z y.1 a (.ref b2) (.ref i1) (.ref n1) most hs cnt ∧ IArr Z y.1 b2 S y.2.2.1 ∧ LArr Z y.1 i1 16 g ∧ IArr Z y.1 n1 16 q ∧ KL lo h0 y.1 ∧ GL f z S g q cn X nu y.2.1.toInt.toNat y.2.2.1 ∧ ((y.2.2.2.1 = .unset ∧ y.2.2.2.2 = .unset) ∨ ∃ w : Int64, y.2.2.2.1 = .val (.long w) ∧ y.2.2.2.2 = .second)) (fun y => 16 - y.2.1.toInt.toNat) ?_ (h1, 0, base f z, .unset, .unset) ⟨by show (0 : Int) ≤ (0 : Int32).toInt; decide, by show (0 : Int32).toInt ≤ 16; decide, H3, A7, A5, A6, K4, GL.zero f z S g q cn X nu, Or.inl ⟨rfl, rfl⟩⟩
    rintro ⟨hL, i, F, s3, s4⟩ ⟨p1, p2, HL, AbL, AiL, AnL, KL1, GLi, sl⟩ ih
    try dsimp only at p1 p2 HL AbL AiL AnL KL1 GLi sl ih ⊢
    refine g_iloadN C D14_21 rfl ?_
    refine g_aloadN C D14_22 rfl rfl ?_
    refine g_getF C (wd_27 hw) D14_23 HL.2.2.1 ?_
    refine g_lenLArr C D14_26 AiL (16 : Int32) rfl ?_
    refine g_icmp_ge C D14_27 (fun q9 => ?_) (fun q9 => ?_)
    · refine g_ret C D14_73 (Nat.le_of_ble_eq_true rfl) (by show 0 + S ≤ S; omega) ?_
      rw [Int32.lt_iff_toInt_lt, show (16 : Int32).toInt = 16 from rfl] at q9
      have e16 : i.toInt.toNat = 16 := by omega
      rw [e16] at GLi
      exact ⟨rfl, F, GLi, ⟨b2, i1, n1, HL, AbL, AiL, AnL, ⟨l_a, lo_b2, l_i, l_n⟩, ⟨ne_a_b2, ne_a_i1, ne_a_n1, Ne.symm ne_i1_b2, Ne.symm ne_n1_b2, ne_i1_n1⟩⟩, KL1⟩
    · rw [Int32.lt_iff_toInt_lt, show (16 : Int32).toInt = 16 from rfl] at q9
      have ia := add1 (i := i) p1 (by omega)
      have ei : (i + 1).toInt.toNat = i.toInt.toNat + 1 := by omega
      refine g_aloadN C D14_30 rfl rfl ?_
      refine g_getF C (wd_27 hw) D14_31 HL.2.2.1 ?_
      refine g_iloadN C D14_34 rfl ?_
      refine g_laload C D14_35 AiL p1 (by omega) (g i.toInt.toNat) rfl ?_
      refine g_lstoreN C #[.val (.ref a), .val (.int ln), .val (.int i), .val (.long (g i.toInt.toNat)), .second] D14_36 (by rcases sl with ⟨z1, z2⟩ | ⟨w, z1, z2⟩ <;> subst z1 <;> subst z2 <;> rfl) ?_
      refine g_lloadN C D14_37 rfl ?_
      refine g_ldc2 C (wd_22 hw) D14_38 ?_
      refine g_lcmp_eq C D14_41 D14_42 (fun q10 => ?_) (fun q10 => ?_)
      · refine g_iinc C (i + (1 : Int32)) #[.val (.ref a), .val (.int ln), .val (.int (i + (1 : Int32))), .val (.long (g i.toInt.toNat)), .second] D14_67 rfl rfl rfl ?_
        refine g_goto C D14_70 ?_
        exact ih (hL, i + 1, F, .val (.long (g i.toInt.toNat)), .second) ⟨by show 0 ≤ (i + 1).toInt; omega, by show (i + 1).toInt ≤ 16; omega, HL, AbL, AiL, AnL, KL1, by show GL f z S g q cn X nu (i + 1).toInt.toNat _; rw [ei]; exact gl_skip GLi (Or.inl q10), Or.inr ⟨_, rfl, rfl⟩⟩ (by show 16 - (i + 1).toInt.toNat < 16 - i.toInt.toNat; omega)
      · refine g_lloadN C D14_45 rfl ?_
        refine g_iloadN C D14_46 rfl ?_
        refine g_i2l C D14_47 ?_
        refine g_lcmp_ge C D14_48 D14_49 (fun q11 => ?_) (fun q11 => ?_)
        · refine g_iinc C (i + (1 : Int32)) #[.val (.ref a), .val (.int ln), .val (.int (i + (1 : Int32))), .val (.long (g i.toInt.toNat)), .second] D14_67 rfl rfl rfl ?_
          refine g_goto C D14_70 ?_
          exact ih (hL, i + 1, F, .val (.long (g i.toInt.toNat)), .second) ⟨by show 0 ≤ (i + 1).toInt; omega, by show (i + 1).toInt ≤ 16; omega, HL, AbL, AiL, AnL, KL1, by show GL f z S g q cn X nu (i + 1).toInt.toNat _; rw [ei]; exact gl_skip GLi (Or.inr (fun z => q11 ((lt_ln _ hln).mpr z))), Or.inr ⟨_, rfl, rfl⟩⟩ (by show 16 - (i + 1).toInt.toNat < 16 - i.toInt.toNat; omega)
        · have q4 := (lt_ln _ hln).mp q11
          have q5 := g_nonneg I (p := i.toInt.toNat) (by omega) q10
          have e1 : (g i.toInt.toNat).toInt32.toInt = (g i.toInt.toNat).toInt := small_l2i q5 (by omega)
          refine g_aloadN C D14_52 rfl rfl ?_
          refine g_getF C (wd_16 hw) D14_53 HL.2.1 ?_
          refine g_lloadN C D14_56 rfl ?_
          refine g_l2i C D14_57 ?_
          refine g_aloadN C D14_58 rfl rfl ?_
          refine g_getF C (wd_29 hw) D14_59 HL.2.2.2.1 ?_
          refine g_iloadN C D14_62 rfl ?_
          refine g_iaload C D14_63 AnL p1 (by omega) (q i.toInt.toNat) rfl ?_
          refine g_iconst C (1 : Int32) rfl D14_64 ?_
          refine g_iadd C D14_65 ?_
          refine g_iastore C D14_66 AbL (by omega) (by omega) (Nat.le_trans hlo lo_b2) ?_
          intro h12 W13
          have A14 := IArr.set AbL W13
          have K15 := KL1.wr W13 lo_b2
          have H16 := HL.other W13 ne_a_b2
          have A17 := AiL.other W13 ne_i1_b2
          have A18 := AnL.other W13 ne_n1_b2
          rw [e1] at A14
          refine g_iinc C (i + (1 : Int32)) #[.val (.ref a), .val (.int ln), .val (.int (i + (1 : Int32))), .val (.long (g i.toInt.toNat)), .second] D14_67 rfl rfl rfl ?_
          refine g_goto C D14_70 ?_
          exact ih (h12, i + 1, (up F (g i.toInt.toNat).toInt.toNat (q i.toInt.toNat + 1)), .val (.long (g i.toInt.toNat)), .second) ⟨by show 0 ≤ (i + 1).toInt; omega, by show (i + 1).toInt ≤ 16; omega, H16, A14, A17, A18, K15, by show GL f z S g q cn X nu (i + 1).toInt.toNat _; rw [ei]; exact gl_put I (by omega) GLi q10 q4, Or.inr ⟨_, rfl, rfl⟩⟩ (by show 16 - (i + 1).toInt.toNat < 16 - i.toInt.toNat; omega)
set_option maxRecDepth 65536 in
set_option maxHeartbeats 40000000 in
theorem c_add (l : Launch) {Z : State} {a0 : Array Value} (hw : ∀ d ∈ tables_1, d.before a0 Z = true) (h0 : Heap) (n0 : Nat) (hn0 : n0 ≤ h0.size) (lo : Nat) (a : Addr) (most hs : Int32) (z : Nat) (f : Nat → Int32) (g : Nat → Int64) (q : Nat → Int32) (id : Int64) (S : Nat) (cn : Nat) (X : Nat → Int64) (nu : Nat → Int32) (PL : Nat → Nat) (hlo : n0 ≤ lo) (H : IX Z h0 lo a most hs (Int32.ofNat cn) z f g q) (I : INV z f g q hs cn X nu PL) (h0i : 0 ≤ id.toInt) (hc4 : cn < 4) (hS : (GC most z id cn X ∧ S = newlen z id) ∨ (¬ GC most z id cn X ∧ S = 0)) : Con l Z (⟨"com/example/grawl/grawl/graph/IdIndex", "add", "(J)I"⟩ : MethodName) prog_29_method_2_code 8 (some .int) ({ frames := 3, cells := 1, slots := S, locals := 71 } : Room) [] #[(.ref a), (.long id)] h0 n0 (fun v h' => ∃ r cn' X' nu' z' f' g' q' hs' PL', v = some (.int r) ∧ AR most id cn X nu r cn' X' nu' ∧ IX Z h' lo a most hs' (Int32.ofNat cn') z' f' g' q' ∧ INV z' f' g' q' hs' cn' X' nu' PL' ∧ ((GC most z id cn X ∧ z' = S) ∨ (¬ GC most z id cn X ∧ z' = z)) ∧ KL lo h0 h') := by
  refine con_of (Ls0 := #[.val (.ref a), .val (.long id), .second, .unset, .unset, .unset, .unset, .unset]) (plainFor_of_name pn_0) (fun m => by first | (simp [entryFrame, mkF, argsToLocals, Value.category]; done) | rfl) hn0 ?_
  intro p e s m below meth c C
  have H0 := H
  obtain ⟨d, i1, n1, HI, Ad, Ai, An, ⟨l_a, l_d, l_i, l_n⟩, ⟨ne_a_d, ne_a_i1, ne_a_n1, ne_d_i1, ne_d_n1, ne_i1_n1⟩⟩ := H
  have hz := I.2.2.2.2.2.2.2
  have h4 := I.2.2.2.2.2.2.1
  have cni := cn_int h4
  refine g_aloadN C D6_0 rfl rfl ?_
  refine g_lloadN C D6_1 rfl ?_
  refine g_callV C (c_get l hw h0 n0 hn0 lo a most hs (Int32.ofNat cn) z f g q id cn X nu PL hlo H0 I h0i) (wd_38 hw) (wd_39 hw) (wd_40 hw) (wd_41 hw) (wd_8 hw) (wd_42 hw) (by decide) D6_2 pd_5 HI.1 [(.long id)] [] rfl rfl rfl 0 (Nat.le_of_eq rfl) (Nat.le_of_ble_eq_true rfl) (Nat.le_of_ble_eq_true rfl) (Nat.le_of_ble_eq_true rfl) (Nat.zero_le _) ?_
  rintro _ _ ⟨r, rfl, hr, rfl⟩
  refine g_cast (f' := mkF m 5 #[.val (.ref a), .val (.long id), .second, .unset, .unset, .unset, .unset, .unset] [(.int r)]) rfl ?_
  refine g_istoreN C #[.val (.ref a), .val (.long id), .second, .val (.int r), .unset, .unset, .unset, .unset] D6_5 rfl ?_
  refine g_iloadN C D6_6 rfl ?_
  refine g_if_ge C D6_7 (fun q1 => ?_) (fun q1 => ?_)
  · refine g_iloadN C D6_150 rfl ?_
    refine g_retI C D6_151 (Nat.le_of_ble_eq_true rfl) (by first | exact Nat.zero_le _ | (show _ ≤ S; omega)) ?_
    obtain ⟨j, j1, j2, j3⟩ := gr_found I hr q1
    exact ⟨_, cn, X, nu, z, f, g, q, hs, PL, rfl, Or.inl ⟨j, j1, j2, j3, rfl, rfl, rfl⟩, H0, I, Or.inr ⟨fun z => z.1 j j1 j2, rfl⟩, KL.refl _ _⟩
  · obtain ⟨hn, rfl⟩ := gr_not I hr q1
    refine g_aloadN C D6_10 rfl rfl ?_
    refine g_getF C (wd_45 hw) D6_11 HI.2.2.2.2.2.2 ?_
    refine g_aloadN C D6_14 rfl rfl ?_
    refine g_getF C (wd_31 hw) D6_15 HI.2.2.2.2.1 ?_
    refine g_icmp_ge C D6_18 (fun q2 => ?_) (fun q2 => ?_)
    · refine g_iloadN C D6_150 rfl ?_
      refine g_retI C D6_151 (Nat.le_of_ble_eq_true rfl) (by first | exact Nat.zero_le _ | (show _ ≤ S; omega)) ?_
      rw [Int32.lt_iff_toInt_lt, cni] at q2
      exact ⟨_, cn, X, nu, z, f, g, q, hs, PL, rfl, Or.inr (Or.inl ⟨hn, by omega, rfl, rfl, rfl, rfl⟩), H0, I, Or.inr ⟨fun z => by have := z.2.1; omega, rfl⟩, KL.refl _ _⟩
    · rw [Int32.lt_iff_toInt_lt, cni] at q2
      refine g_ldc2 C (wd_55 hw) D6_21 ?_
      refine g_ldc2 C (wd_56 hw) D6_24 ?_
      refine g_aloadN C D6_27 rfl rfl ?_
      refine g_getF C (wd_45 hw) D6_28 HI.2.2.2.2.2.2 ?_
      refine g_i2l C D6_31 ?_
      refine g_lmul C D6_32 ?_
      refine g_ldc2 C (wd_57 hw) D6_33 ?_
      refine g_ladd C D6_36 ?_
      generalize q_bd : (((4 : Int64) * ((Int32.ofNat cn).toInt64)) + (65536 : Int64)) = bd
      have hbd := bd_ok h4 q_bd
      refine g_callS C (c_minJ l hw h0 n0 hn0 2147483639 bd bd (bd_min h4 hbd)) (wd_58 hw) (wd_59 hw) (wd_60 hw) (wd_61 hw) (by decide) D6_37 pd_6 [(.long (2147483639 : Int64)), (.long bd)] [] rfl rfl rfl 0 (Nat.le_of_eq rfl) (Nat.le_of_ble_eq_true rfl) (Nat.le_of_ble_eq_true rfl) (Nat.le_of_ble_eq_true rfl) (Nat.zero_le _) ?_
      rintro _ _ ⟨rfl, rfl⟩
      refine g_cast (f' := mkF m 40 #[.val (.ref a), .val (.long id), .second, .val (.int (-1 : Int32)), .unset, .unset, .unset, .unset] [(.long bd)]) rfl ?_
      refine g_lstore C #[.val (.ref a), .val (.long id), .second, .val (.int (-1 : Int32)), .val (.long bd), .second, .unset, .unset] D6_40 rfl ?_
      refine g_join (ι := Heap × Nat × (Nat → Int32) × Slot × Slot) (fun y => y.1) 1 S (fun y => mkF m 99 #[.val (.ref a), .val (.long id), .second, .val (.int (-1 : Int32)), .val (.long bd), .second, y.2.2.2.1, y.2.2.2.2] []) (fun y => IX Z y.1 lo a most hs (Int32.ofNat cn) y.2.1 y.2.2.1 g q ∧ INV y.2.1 y.2.2.1 g q hs cn X nu PL ∧ KL lo h0 y.1 ∧ ((GC most z id cn X ∧ y.2.1 = S) ∨ (¬ GC most z id cn X ∧ y.2.1 = z))) (fun J => ?_) ?_
      · refine g_lloadN C D6_42 rfl ?_
        refine g_aloadN C D6_43 rfl rfl ?_
        refine g_getF C (wd_16 hw) D6_44 HI.2.1 ?_
        refine g_lenIArr C D6_47 Ad (Int32.ofNat z) rfl ?_
        refine g_i2l C D6_48 ?_
        refine g_lcmp_lt C D6_49 D6_50 (fun q3 => ?_) (fun q3 => ?_)
        · exact g_more (Nat.le_of_ble_eq_true rfl) (Nat.zero_le _) (J (h0, z, f, .unset, .unset) ⟨H0, I, KL.refl _ _, Or.inr ⟨fun z => absurd ((lt_len id hz).mp q3) (by have := z.2.2.1; omega), rfl⟩⟩)
        · have hzid : (z : Int) ≤ id.toInt := by have := mt (lt_len id hz).mpr q3; omega
          refine g_lloadN C D6_53 rfl ?_
          refine g_lload C D6_54 rfl ?_
          refine g_lcmp_ge C D6_56 D6_57 (fun q4 => ?_) (fun q4 => ?_)
          · rw [Int64.lt_iff_toInt_lt, hbd] at q4
            exact g_more (Nat.le_of_ble_eq_true rfl) (Nat.zero_le _) (J (h0, z, f, .unset, .unset) ⟨H0, I, KL.refl _ _, Or.inr ⟨fun z => absurd z.2.2.2.1 q4, rfl⟩⟩)
          · rw [Int64.lt_iff_toInt_lt, hbd] at q4
            obtain ⟨m1, gr, mr1, mr2, hgr⟩ := gr_ok hz h0i (by omega)
            refine g_lloadN C D6_60 rfl ?_
            refine g_lconst C (1 : Int64) rfl D6_61 ?_
            refine g_ladd C D6_62 ?_
            refine g_ldc2 C (wd_70 hw) D6_63 ?_
            refine g_ldc2 C (wd_71 hw) D6_66 ?_
            refine g_aloadN C D6_69 rfl rfl ?_
            refine g_getF C (wd_16 hw) D6_70 HI.2.1 ?_
            refine g_lenIArr C D6_73 Ad (Int32.ofNat z) rfl ?_
            refine g_i2l C D6_74 ?_
            refine g_lmul C D6_75 ?_
            refine g_callS C (c_max l hw h0 n0 hn0 (16 : Int64) ((2 : Int64) * ((Int32.ofNat z).toInt64)) m1 mr1) (wd_72 hw) (wd_73 hw) (wd_60 hw) (wd_74 hw) (by decide) D6_76 pd_6 [(.long (16 : Int64)), (.long ((2 : Int64) * ((Int32.ofNat z).toInt64)))] [(.long (id + (1 : Int64)))] rfl rfl rfl 2 (Nat.le_of_eq rfl) (Nat.le_of_ble_eq_true rfl) (Nat.le_of_ble_eq_true rfl) (Nat.le_of_ble_eq_true rfl) (Nat.zero_le _) ?_
            rintro _ _ ⟨rfl, rfl⟩
            refine g_cast (f' := mkF m 79 #[.val (.ref a), .val (.long id), .second, .val (.int (-1 : Int32)), .val (.long bd), .second, .unset, .unset] [(.long m1), (.long (id + (1 : Int64)))]) rfl ?_
            refine g_callS C (c_max l hw h0 n0 hn0 (id + (1 : Int64)) m1 gr mr2) (wd_72 hw) (wd_73 hw) (wd_60 hw) (wd_74 hw) (by decide) D6_79 pd_6 [(.long (id + (1 : Int64))), (.long m1)] [] rfl rfl rfl 0 (Nat.le_of_eq rfl) (Nat.le_of_ble_eq_true rfl) (Nat.le_of_ble_eq_true rfl) (Nat.le_of_ble_eq_true rfl) (Nat.zero_le _) ?_
            rintro _ _ ⟨rfl, rfl⟩
            refine g_cast (f' := mkF m 82 #[.val (.ref a), .val (.long id), .second, .val (.int (-1 : Int32)), .val (.long bd), .second, .unset, .unset] [(.long gr)]) rfl ?_
            refine g_lstore C #[.val (.ref a), .val (.long id), .second, .val (.int (-1 : Int32)), .val (.long bd), .second, .val (.long gr), .second] D6_82 rfl ?_
            refine g_lload C D6_84 rfl ?_
            refine g_lload C D6_86 rfl ?_
            refine g_lcmp_gt C D6_88 D6_89 (fun q5 => ?_) (fun q5 => ?_)
            · rw [Int64.lt_iff_toInt_lt, hbd, hgr] at q5
              exact g_more (Nat.le_of_ble_eq_true rfl) (Nat.zero_le _) (J (h0, z, f, .val (.long gr), .second) ⟨H0, I, KL.refl _ _, Or.inr ⟨fun z => absurd z.2.2.2.2 (by omega), rfl⟩⟩)
            · rw [Int64.lt_iff_toInt_lt, hbd, hgr] at q5
              have gc : GC most z id cn X := ⟨hn, q2, hzid, q4, by omega⟩
              have eS : S = newlen z id := hS.elim (fun z => z.2) (fun z => absurd gc z.1)
              obtain ⟨u1, u2, u3⟩ := newlen_gt z id h0i hzid
              have eg : gr.toInt32.toInt = S := by have := small_l2i (id := gr) (by omega) (by omega); omega
              refine g_aloadN C D6_92 rfl rfl ?_
              refine g_lload C D6_93 rfl ?_
              refine g_l2i C D6_95 ?_
              refine g_callP C (c_grow l hw h0 n0 hn0 lo a most hs (Int32.ofNat cn) z f g q gr.toInt32 S cn X nu PL hlo H0 I eg (by omega) (by omega)) (wd_75 hw) (wd_76 hw) (wd_36 hw) rfl (wd_77 hw) (wd_8 hw) (wd_78 hw) (by decide) D6_96 pd_7 HI.1 [(.int (gr.toInt32))] [] rfl rfl rfl 0 (Nat.le_of_eq rfl) (Nat.le_of_ble_eq_true rfl) (Nat.le_of_ble_eq_true rfl) (Nat.le_of_ble_eq_true rfl) (by show 0 + S ≤ S; omega) ?_
              rintro _ hG ⟨rfl, F, hF, HG, KG⟩
              refine g_cast (f' := mkF m 99 #[.val (.ref a), .val (.long id), .second, .val (.int (-1 : Int32)), .val (.long bd), .second, .val (.long gr), .second] []) rfl ?_
              exact g_more (Nat.le_of_ble_eq_true rfl) (by show 0 + S ≤ S; omega) (J (hG, S, F, .val (.long gr), .second) ⟨HG, grow_inv I (by show z ≤ S; omega) (by show S ≤ 65548; omega) hF, KG, Or.inl ⟨gc, rfl⟩⟩)
      clear HI Ad Ai An l_a l_d l_i l_n ne_a_d ne_a_i1 ne_a_n1 ne_d_i1 ne_d_n1 ne_i1_n1
      rintro ⟨hJ, z1, F, s6, s7⟩ ⟨HJ, IJ, KJ, gj⟩
      try dsimp only at HJ IJ KJ gj ⊢
      have HJ0 := HJ
      obtain ⟨d, i1, n1, HI, Ad, Ai, An, ⟨l_a, l_d, l_i, l_n⟩, ⟨ne_a_d, ne_a_i1, ne_a_n1, ne_d_i1, ne_d_n1, ne_i1_n1⟩⟩ := HJ
      have hz1 := IJ.2.2.2.2.2.2.2
      refine g_lloadN C D6_99 rfl ?_
      refine g_aloadN C D6_100 rfl rfl ?_
      refine g_getF C (wd_16 hw) D6_101 HI.2.1 ?_
      refine g_lenIArr C D6_104 Ad (Int32.ofNat z1) rfl ?_
      refine g_i2l C D6_105 ?_
      refine g_lcmp_ge C D6_106 D6_107 (fun q6 => ?_) (fun q6 => ?_)
      · have q7 : (z1 : Int) ≤ id.toInt := by have := mt (lt_len id hz1).mpr q6; omega
        refine g_aloadN C D6_126 rfl rfl ?_
        refine g_lloadN C D6_127 rfl ?_
        refine g_aloadN C D6_128 rfl rfl ?_
        refine g_getF C (wd_45 hw) D6_129 HI.2.2.2.2.2.2 ?_
        have hzj : n0 ≤ hJ.size := Nat.le_trans hn0 KJ.1
        refine g_callP C (c_hash l hw hJ n0 hzj lo a most hs (Int32.ofNat cn) z1 F g q id (Int32.ofNat cn) cn X nu PL hlo HJ0 IJ) (wd_62 hw) (wd_63 hw) (wd_36 hw) rfl (wd_64 hw) (wd_8 hw) (wd_65 hw) (by decide) D6_132 pd_8 HI.1 [(.long id), (.int (Int32.ofNat cn))] [] rfl rfl rfl 0 (Nat.le_of_eq rfl) (Nat.le_of_ble_eq_true rfl) (Nat.le_of_ble_eq_true rfl) (Nat.le_of_ble_eq_true rfl) (by show S + 0 ≤ S; omega) ?_
        rintro _ hH ⟨rfl, kk, pp, hpe, hgp, HH, KH⟩
        refine g_cast (f' := mkF m 135 #[.val (.ref a), .val (.long id), .second, .val (.int (-1 : Int32)), .val (.long bd), .second, s6, s7] []) rfl ?_
        clear HI Ad Ai An l_a l_d l_i l_n ne_a_d ne_a_i1 ne_a_n1 ne_d_i1 ne_d_n1 ne_i1_n1
        obtain ⟨d, i1, n1, HI, Ad, Ai, An, ⟨l_a, l_d, l_i, l_n⟩, ⟨ne_a_d, ne_a_i1, ne_a_n1, ne_d_i1, ne_d_n1, ne_i1_n1⟩⟩ := HH
        have KH2 := KL.trans KJ KH
        refine g_aloadN C D6_135 rfl rfl ?_
        refine g_getF C (wd_45 hw) D6_136 HI.2.2.2.2.2.2 ?_
        refine g_istoreN C #[.val (.ref a), .val (.long id), .second, .val (.int (Int32.ofNat cn)), .val (.long bd), .second, s6, s7] D6_139 rfl ?_
        refine g_aloadN C D6_140 rfl rfl ?_
        refine g_dup C D6_141 rfl ?_
        refine g_getF C (wd_45 hw) D6_142 HI.2.2.2.2.2.2 ?_
        refine g_iconst C (1 : Int32) rfl D6_145 ?_
        refine g_iadd C D6_146 ?_
        refine g_putF C (wd_45 hw) D6_147 HI.2.2.2.2.2.2 HI.1 (Or.inl (wd_46 hw)) (wd_7 hw) (ty := .int) (v' := (.int ((Int32.ofNat cn) + (1 : Int32)))) (by decide) rfl rfl (Nat.le_trans hlo l_a) ?_
        intro h7 W8
        have H9 := RI.set_count hw (g := ((Int32.ofNat cn) + (1 : Int32))) HI W8
        have K10 := KH2.wr W8 l_a
        have A11 := Ad.other W8 (Ne.symm ne_a_d)
        have A12 := Ai.other W8 (Ne.symm ne_a_i1)
        have A13 := An.other W8 (Ne.symm ne_a_n1)
        refine g_iloadN C D6_150 rfl ?_
        refine g_retI C D6_151 (Nat.le_of_ble_eq_true rfl) (by first | exact Nat.le_refl _ | (show S + 0 ≤ S; omega)) ?_
        have HF := H9
        rw [cn_succ] at HF
        exact ⟨_, cn + 1, up X cn id, up nu cn (Int32.ofNat cn), z1, F, up g pp id, up q pp (Int32.ofNat cn), hs + 1, up PL cn pp, rfl, Or.inr (Or.inr ⟨hn, q2, rfl, rfl, rfl, rfl⟩), ⟨d, i1, n1, HF, A11, A12, A13, ⟨l_a, l_d, l_i, l_n⟩, ⟨ne_a_d, ne_a_i1, ne_a_n1, ne_d_i1, ne_d_n1, ne_i1_n1⟩⟩, add_hash IJ h0i q7 hn hc4 hpe hgp, gj, K10⟩
      · have q7 := (lt_len id hz1).mp q6
        have e1 : id.toInt32.toInt = id.toInt := small_l2i h0i (by omega)
        refine g_aloadN C D6_110 rfl rfl ?_
        refine g_getF C (wd_16 hw) D6_111 HI.2.1 ?_
        refine g_lloadN C D6_114 rfl ?_
        refine g_l2i C D6_115 ?_
        refine g_aloadN C D6_116 rfl rfl ?_
        refine g_getF C (wd_45 hw) D6_117 HI.2.2.2.2.2.2 ?_
        refine g_iconst C (1 : Int32) rfl D6_120 ?_
        refine g_iadd C D6_121 ?_
        refine g_iastore C D6_122 Ad (by omega) (by omega) (Nat.le_trans hlo l_d) ?_
        intro h14 W15
        have A16 := IArr.set Ad W15
        have K17 := KJ.wr W15 l_d
        have H18 := HI.other W15 ne_a_d
        have A19 := Ai.other W15 (Ne.symm ne_d_i1)
        have A20 := An.other W15 (Ne.symm ne_d_n1)
        refine g_goto C D6_123 ?_
        refine g_aloadN C D6_135 rfl rfl ?_
        refine g_getF C (wd_45 hw) D6_136 H18.2.2.2.2.2.2 ?_
        refine g_istoreN C #[.val (.ref a), .val (.long id), .second, .val (.int (Int32.ofNat cn)), .val (.long bd), .second, s6, s7] D6_139 rfl ?_
        refine g_aloadN C D6_140 rfl rfl ?_
        refine g_dup C D6_141 rfl ?_
        refine g_getF C (wd_45 hw) D6_142 H18.2.2.2.2.2.2 ?_
        refine g_iconst C (1 : Int32) rfl D6_145 ?_
        refine g_iadd C D6_146 ?_
        refine g_putF C (wd_45 hw) D6_147 H18.2.2.2.2.2.2 H18.1 (Or.inl (wd_46 hw)) (wd_7 hw) (ty := .int) (v' := (.int ((Int32.ofNat cn) + (1 : Int32)))) (by decide) rfl rfl (Nat.le_trans hlo l_a) ?_
        intro h21 W22
        have H23 := RI.set_count hw (g := ((Int32.ofNat cn) + (1 : Int32))) H18 W22
        have K24 := K17.wr W22 l_a
        have A25 := A16.other W22 (Ne.symm ne_a_d)
        have A26 := A19.other W22 (Ne.symm ne_a_i1)
        have A27 := A20.other W22 (Ne.symm ne_a_n1)
        refine g_iloadN C D6_150 rfl ?_
        refine g_retI C D6_151 (Nat.le_of_ble_eq_true rfl) (by first | exact Nat.le_refl _ | (show S + 0 ≤ S; omega)) ?_
        rw [e1] at A25
        have HF := H23
        rw [cn_succ] at HF
        exact ⟨_, cn + 1, up X cn id, up nu cn (Int32.ofNat cn), z1, up F id.toInt.toNat (Int32.ofNat cn + 1), g, q, hs, PL, rfl, Or.inr (Or.inr ⟨hn, q2, rfl, rfl, rfl, rfl⟩), ⟨d, i1, n1, HF, A25, A26, A27, ⟨l_a, l_d, l_i, l_n⟩, ⟨ne_a_d, ne_a_i1, ne_a_n1, ne_d_i1, ne_d_n1, ne_i1_n1⟩⟩, add_direct IJ (x := id.toInt.toNat) (by omega) (by omega) hn hc4, gj, K24⟩
set_option maxRecDepth 65536 in
set_option maxHeartbeats 40000000 in
theorem c_pick (l : Launch) {Z : State} {a0 : Array Value} (hw : ∀ d ∈ tables_1, d.before a0 Z = true) (h0 : Heap) (n0 : Nat) (hn0 : n0 ≤ h0.size) (x : Int64) (bo : Int32)  : Con l Z (⟨"com/example/grawl/grawl/graph/IdIndexIdsPinLaw", "pick", "(JZ)J"⟩ : MethodName) method_3_code 3 (some .long) ({ frames := 0, cells := 0, slots := 0, locals := 0 } : Room) [] #[(.long x), (.int bo)] h0 n0 (fun v h' => ∃ r, v = some (.long r) ∧ 0 ≤ r.toInt ∧ h0 = h') := by
  refine con_of (Ls0 := #[.val (.long x), .second, .val (.int bo)]) (plainFor_of_name pn_2) (fun m => by first | (simp [entryFrame, mkF, argsToLocals, Value.category]; done) | rfl) hn0 ?_
  intro p e s m below meth c C
  refine g_iloadN C D1_0 rfl ?_
  refine g_if_eq C D1_1 (fun q1 => ?_) (fun q1 => ?_)
  · refine g_lloadN C D1_12 rfl ?_
    refine g_ldc2 C (wd_5 hw) D1_13 ?_
    refine g_land C D1_16 ?_
    refine g_retJ C D1_17 (by decide) (by decide) ?_
    exact ⟨_, rfl, nn_max x, rfl⟩
  · refine g_lloadN C D1_4 rfl ?_
    refine g_ldc2 C (wd_4 hw) D1_5 ?_
    refine g_land C D1_8 ?_
    refine g_goto C D1_9 ?_
    refine g_retJ C D1_17 (by decide) (by decide) ?_
    exact ⟨_, rfl, nn_131071 x, rfl⟩
set_option maxRecDepth 65536 in
set_option maxHeartbeats 40000000 in
theorem c_ids (l : Launch) {Z : State} {a0 : Array Value} (hw : ∀ d ∈ tables_1, d.before a0 Z = true) (h0 : Heap) (n0 : Nat) (hn0 : n0 ≤ h0.size) (lo : Nat) (a : Addr) (most hs : Int32) (z : Nat) (f : Nat → Int32) (g : Nat → Int64) (q : Nat → Int32) (cn : Nat) (X : Nat → Int64) (nu : Nat → Int32) (PL : Nat → Nat) (hlo : n0 ≤ lo) (H : IX Z h0 lo a most hs (Int32.ofNat cn) z f g q) (I : INV z f g q hs cn X nu PL) (hnu : NU cn nu) : Con l Z (⟨"com/example/grawl/grawl/graph/IdIndex", "ids", "()[J"⟩ : MethodName) prog_29_method_5_code 3 (some (.array .long)) ({ frames := 0, cells := 1, slots := 4, locals := 0 } : Room) [] #[(.ref a)] h0 n0 (fun v h' => ∃ b R, v = some (.ref b) ∧ h0.size ≤ b ∧ LArr Z h' b cn R ∧ (∀ j, j < cn → R j = X j) ∧ KL h0.size h0 h') := by
  refine con_of (Ls0 := #[.val (.ref a), .unset, .unset]) (plainFor_of_name pn_0) (fun m => by first | (simp [entryFrame, mkF, argsToLocals, Value.category]; done) | rfl) hn0 ?_
  intro p e s m below meth c C
  obtain ⟨d, i1, n1, HI, Ad, Ai, An, ⟨l_a, l_d, l_i, l_n⟩, ⟨ne_a_d, ne_a_i1, ne_a_n1, ne_d_i1, ne_d_n1, ne_i1_n1⟩⟩ := H
  have hz := I.2.2.2.2.2.2.2
  have lz := len_int hz
  have h4 := I.2.2.2.2.2.2.1
  have cni := cn_int h4
  refine g_aloadN C D8_0 rfl rfl ?_
  refine g_getF C (wd_45 hw) D8_1 HI.2.2.2.2.2.2 ?_
  refine g_newarr C (aty := .long) (wd_21 hw) D8_4 (by rw [Int32.lt_iff_toInt_lt, cni, show (0 : Int32).toInt = 0 from rfl]; omega) 4 (by show (Int32.ofNat cn).toInt.toNat ≤ 4; omega) (by decide) (by decide) (by decide) ?_
  intro h1 b2 kA3 ge4 ea5 E6 X7
  have A8 : LArr Z h1 b2 (Int32.ofNat cn).toNatClampNeg (fun _ => (0 : Int64)) := LArr.new X7
  have ne_a_b2 : a ≠ b2 := Nat.ne_of_lt (ea5 ▸ HI.lt)
  have H9 := HI.ext E6
  have ne_d_b2 : d ≠ b2 := Nat.ne_of_lt (ea5 ▸ Ad.lt)
  have A10 := Ad.ext E6
  have ne_i1_b2 : i1 ≠ b2 := Nat.ne_of_lt (ea5 ▸ Ai.lt)
  have A11 := Ai.ext E6
  have ne_n1_b2 : n1 ≠ b2 := Nat.ne_of_lt (ea5 ▸ An.lt)
  have A12 := An.ext E6
  have AR0 : LArr Z h1 b2 cn (fun _ => (0 : Int64)) := by
    have e : (Int32.ofNat cn).toNatClampNeg = cn := by show (Int32.ofNat cn).toInt.toNat = cn; omega
    have t := A8
    rw [e] at t; exact t
  have lb : h0.size ≤ b2 := Nat.le_of_eq ea5.symm
  have KR0 := (KL.refl h0.size h0).ext E6
  refine g_astoreN C #[.val (.ref a), .val (.ref b2), .unset] D8_6 rfl rfl ?_
  refine g_iconst C (0 : Int32) rfl D8_7 ?_
  refine g_istoreN C #[.val (.ref a), .val (.ref b2), .val (.int (0 : Int32))] D8_8 rfl ?_
  refine g_loop (ι := Heap × Int32 × (Nat → Int64)) (fun y => y.1) (fun y => mkF m 9 #[.val (.ref a), .val (.ref b2), .val (.int y.2.1)] []) (fun y => 0 ≤ y.2.1.toInt ∧ y.2.1.toInt ≤ z ∧ RI Z y.1 a (.ref d) (.ref i1) (.ref n1) most hs (Int32.ofNat cn) ∧ IArr Z y.1 d z f ∧ LArr Z y.1 i1 16 g ∧ IArr Z y.1 n1 16 q ∧ LArr Z y.1 b2 cn y.2.2 ∧ KL h0.size h0 y.1 ∧ DD cn X y.2.1.toInt.toNat y.2.2) (fun y => z - y.2.1.toInt.toNat) ?_ (h1, 0, fun _ => 0) ⟨by show (0 : Int) ≤ (0 : Int32).toInt; decide, by show (0 : Int32).toInt ≤ (z : Int); exact Int.natCast_nonneg z, H9, A10, A11, A12, AR0, KR0, DD.zero I⟩
  rintro ⟨hA, i, R⟩ ⟨p1A, p2A, HA, DA, YA, MA, BA, KA, SA⟩ ihA
  try dsimp only at p1A p2A HA DA YA MA BA KA SA ihA ⊢
  refine g_iloadN C D8_9 rfl ?_
  refine g_aloadN C D8_10 rfl rfl ?_
  refine g_getF C (wd_16 hw) D8_11 HA.2.1 ?_
  refine g_lenIArr C D8_14 DA (Int32.ofNat z) rfl ?_
  refine g_icmp_ge C D8_15 (fun q13 => ?_) (fun q13 => ?_)
  · rw [Int32.lt_iff_toInt_lt, lz] at q13
    have ez : i.toInt.toNat = z := by omega
    rw [ez] at SA
    refine g_iconst C (0 : Int32) rfl D8_45 ?_
    refine g_istoreN C #[.val (.ref a), .val (.ref b2), .val (.int (0 : Int32))] D8_46 rfl ?_
    refine g_loop (ι := Heap × Int32 × (Nat → Int64)) (fun y => y.1) (fun y => mkF m 47 #[.val (.ref a), .val (.ref b2), .val (.int y.2.1)] []) (fun y => 0 ≤ y.2.1.toInt ∧ y.2.1.toInt ≤ 16 ∧ RI Z y.1 a (.ref d) (.ref i1) (.ref n1) most hs (Int32.ofNat cn) ∧ IArr Z y.1 d z f ∧ LArr Z y.1 i1 16 g ∧ IArr Z y.1 n1 16 q ∧ LArr Z y.1 b2 cn y.2.2 ∧ KL h0.size h0 y.1 ∧ TT cn X z g y.2.1.toInt.toNat y.2.2) (fun y => 16 - y.2.1.toInt.toNat) ?_ (hA, 0, R) ⟨by show (0 : Int) ≤ (0 : Int32).toInt; decide, by show (0 : Int32).toInt ≤ 16; decide, HA, DA, YA, MA, BA, KA, TT.zero SA⟩
    rintro ⟨hB, j, R2⟩ ⟨p1B, p2B, HB, DB, YB, MB, BB, KB, SB⟩ ihB
    try dsimp only at p1B p2B HB DB YB MB BB KB SB ihB ⊢
    refine g_iloadN C D8_47 rfl ?_
    refine g_aloadN C D8_48 rfl rfl ?_
    refine g_getF C (wd_27 hw) D8_49 HB.2.2.1 ?_
    refine g_lenLArr C D8_52 YB (16 : Int32) rfl ?_
    refine g_icmp_ge C D8_53 (fun q14 => ?_) (fun q14 => ?_)
    · refine g_aloadN C D8_89 rfl rfl ?_
      refine g_retA C rfl rfl D8_90 rfl (by decide) (by decide) ?_
      rw [Int32.lt_iff_toInt_lt, show (16 : Int32).toInt = 16 from rfl] at q14
      have e16 : j.toInt.toNat = 16 := by omega
      rw [e16] at SB
      exact ⟨b2, R2, rfl, lb, BB, tt_end I SB, KB⟩
    · rw [Int32.lt_iff_toInt_lt, show (16 : Int32).toInt = 16 from rfl] at q14
      have ja := add1 (i := j) p1B (by omega)
      have eiB : (j + 1).toInt.toNat = j.toInt.toNat + 1 := by omega
      refine g_aloadN C D8_56 rfl rfl ?_
      refine g_getF C (wd_27 hw) D8_57 HB.2.2.1 ?_
      refine g_iloadN C D8_60 rfl ?_
      refine g_laload C D8_61 YB p1B (by omega) (g j.toInt.toNat) rfl ?_
      refine g_ldc2 C (wd_22 hw) D8_62 ?_
      refine g_lcmp_eq C D8_65 D8_66 (fun q15 => ?_) (fun q15 => ?_)
      · refine g_iinc C (j + (1 : Int32)) #[.val (.ref a), .val (.ref b2), .val (.int (j + (1 : Int32)))] D8_83 rfl rfl rfl ?_
        refine g_goto C D8_86 ?_
        exact ihB (hB, j + 1, R2) ⟨by show 0 ≤ (j + 1).toInt; omega, by show (j + 1).toInt ≤ 16; omega, HB, DB, YB, MB, BB, KB, by show TT cn X z g (j + 1).toInt.toNat _; rw [eiB]; exact tt_skip I q15 SB⟩ (by show 16 - (j + 1).toInt.toNat < 16 - j.toInt.toNat; omega)
      · obtain ⟨jj, jj1, jj2, jj3⟩ := q_at I hnu (t := j.toInt.toNat) (by omega) q15
        refine g_aloadN C D8_69 rfl rfl ?_
        refine g_aloadN C D8_70 rfl rfl ?_
        refine g_getF C (wd_29 hw) D8_71 HB.2.2.2.1 ?_
        refine g_iloadN C D8_74 rfl ?_
        refine g_iaload C D8_75 MB p1B (by omega) (q j.toInt.toNat) rfl ?_
        refine g_aloadN C D8_76 rfl rfl ?_
        refine g_getF C (wd_27 hw) D8_77 HB.2.2.1 ?_
        refine g_iloadN C D8_80 rfl ?_
        refine g_laload C D8_81 YB p1B (by omega) (g j.toInt.toNat) rfl ?_
        refine g_lastore C D8_82 BB (by omega) (by omega) ge4 ?_
        intro h16 W17
        have A18 := LArr.set BB W17
        have K19 := KB.wr W17 lb
        have H20 := HB.other W17 ne_a_b2
        have A21 := DB.other W17 ne_d_b2
        have A22 := YB.other W17 ne_i1_b2
        have A23 := MB.other W17 ne_n1_b2
        refine g_iinc C (j + (1 : Int32)) #[.val (.ref a), .val (.ref b2), .val (.int (j + (1 : Int32)))] D8_83 rfl rfl rfl ?_
        refine g_goto C D8_86 ?_
        exact ihB (h16, j + 1, (up R2 (q j.toInt.toNat).toInt.toNat (g j.toInt.toNat))) ⟨by show 0 ≤ (j + 1).toInt; omega, by show (j + 1).toInt ≤ 16; omega, H20, A21, A22, A23, A18, K19, by show TT cn X z g (j + 1).toInt.toNat _; rw [eiB]; exact tt_put I hnu (by omega) q15 SB⟩ (by show 16 - (j + 1).toInt.toNat < 16 - j.toInt.toNat; omega)
  · rw [Int32.lt_iff_toInt_lt, lz] at q13
    have ia := add1 (i := i) p1A (by omega)
    have eiA : (i + 1).toInt.toNat = i.toInt.toNat + 1 := by omega
    refine g_aloadN C D8_18 rfl rfl ?_
    refine g_getF C (wd_16 hw) D8_19 HA.2.1 ?_
    refine g_iloadN C D8_22 rfl ?_
    refine g_iaload C D8_23 DA p1A (by omega) (f i.toInt.toNat) rfl ?_
    refine g_if_eq C D8_24 (fun q24 => ?_) (fun q24 => ?_)
    · refine g_iinc C (i + (1 : Int32)) #[.val (.ref a), .val (.ref b2), .val (.int (i + (1 : Int32)))] D8_39 rfl rfl rfl ?_
      refine g_goto C D8_42 ?_
      exact ihA (hA, i + 1, R) ⟨by show 0 ≤ (i + 1).toInt; omega, by show (i + 1).toInt ≤ z; omega, HA, DA, YA, MA, BA, KA, by show DD cn X (i + 1).toInt.toNat _; rw [eiA]; exact dd_skip I (by omega) q24 SA⟩ (by show z - (i + 1).toInt.toNat < z - i.toInt.toNat; omega)
    · obtain ⟨jj, jj1, jj2, jj3⟩ := f_at I hnu (t := i.toInt.toNat) (by omega) q24
      refine g_aloadN C D8_27 rfl rfl ?_
      refine g_aloadN C D8_28 rfl rfl ?_
      refine g_getF C (wd_16 hw) D8_29 HA.2.1 ?_
      refine g_iloadN C D8_32 rfl ?_
      refine g_iaload C D8_33 DA p1A (by omega) (f i.toInt.toNat) rfl ?_
      refine g_iconst C (1 : Int32) rfl D8_34 ?_
      refine g_isub C D8_35 ?_
      refine g_iloadN C D8_36 rfl ?_
      refine g_i2l C D8_37 ?_
      refine g_lastore C D8_38 BA (by omega) (by omega) ge4 ?_
      intro h25 W26
      have A27 := LArr.set BA W26
      have K28 := KA.wr W26 lb
      have H29 := HA.other W26 ne_a_b2
      have A30 := DA.other W26 ne_d_b2
      have A31 := YA.other W26 ne_i1_b2
      have A32 := MA.other W26 ne_n1_b2
      refine g_iinc C (i + (1 : Int32)) #[.val (.ref a), .val (.ref b2), .val (.int (i + (1 : Int32)))] D8_39 rfl rfl rfl ?_
      refine g_goto C D8_42 ?_
      exact ihA (h25, i + 1, (up R (f i.toInt.toNat - 1).toInt.toNat i.toInt64)) ⟨by show 0 ≤ (i + 1).toInt; omega, by show (i + 1).toInt ≤ z; omega, H29, A30, A31, A32, A27, K28, by show DD cn X (i + 1).toInt.toNat _; rw [eiA]; exact dd_put I hnu (by omega) q24 SA (by rw [c_i2l]; omega)⟩ (by show z - (i + 1).toInt.toNat < z - i.toInt.toNat; omega)
set_option maxRecDepth 65536 in
set_option maxHeartbeats 40000000 in
theorem c_step (l : Launch) {Z : State} {a0 : Array Value} (hw : ∀ d ∈ tables_1, d.before a0 Z = true) (h0 : Heap) (n0 : Nat) (hn0 : n0 ≤ h0.size) (ea : Addr) (cn : Nat) (v : Int64) (most : Int32) (E : Nat → Int64) (ge : n0 ≤ ea) (Ae : LArr Z h0 ea 4 E) (hc4 : cn < 4) : Con l Z (⟨"com/example/grawl/grawl/graph/IdIndexIdsPinLaw", "step", "([JIJI)I"⟩ : MethodName) method_4_code 6 (some .int) ({ frames := 0, cells := 0, slots := 0, locals := 0 } : Room) [] #[(.ref ea), (.int (Int32.ofNat cn)), (.long v), (.int most)] h0 n0 (fun r h' => ∃ cn' E', r = some (.int (Int32.ofNat cn')) ∧ SR most v cn E cn' E' ∧ LArr Z h' ea 4 E' ∧ KL ea h0 h') := by
  refine con_of (Ls0 := #[.val (.ref ea), .val (.int (Int32.ofNat cn)), .val (.long v), .second, .val (.int most), .unset]) (plainFor_of_name pn_2) (fun m => by first | (simp [entryFrame, mkF, argsToLocals, Value.category]; done) | rfl) hn0 ?_
  intro p e s m below meth c C
  have cni := cn_int (Nat.le_of_lt hc4)
  have h4 := Nat.le_of_lt hc4
  refine g_join (ι := Int32) (fun y => h0) 0 0 (fun y => mkF m 56 #[.val (.ref ea), .val (.int (Int32.ofNat cn)), .val (.long v), .second, .val (.int most), .unset] [(.int y)]) (fun y => (y = 1 ∧ ∃ j, j < cn ∧ E j = v) ∨ (y = 0 ∧ ∀ j, j < cn → ¬ E j = v)) (fun J => ?_) ?_
  · refine g_iloadN C D9_0 rfl ?_
    refine g_if_le C D9_1 (fun q1 => ?_) (fun q1 => ?_)
    · have le0 : cn ≤ 0 := Nat.le_of_not_lt (fun z => q1 ((lt_k h4 0 (by decide)).mpr z))
      refine g_iloadN C D9_12 rfl ?_
      refine g_iconst C (1 : Int32) rfl D9_13 ?_
      refine g_icmp_le C D9_14 (fun q2 => ?_) (fun q2 => ?_)
      rotate_left
      · exfalso
        exact absurd ((lt_k h4 1 (by decide)).mp q2) (by omega)
      refine g_iloadN C D9_25 rfl ?_
      refine g_iconst C (2 : Int32) rfl D9_26 ?_
      refine g_icmp_le C D9_27 (fun q3 => ?_) (fun q3 => ?_)
      rotate_left
      · exfalso
        exact absurd ((lt_k h4 2 (by decide)).mp q3) (by omega)
      refine g_iloadN C D9_38 rfl ?_
      refine g_iconst C (3 : Int32) rfl D9_39 ?_
      refine g_icmp_le C D9_40 (fun q4 => ?_) (fun q4 => ?_)
      rotate_left
      · exfalso
        exact absurd ((lt_k h4 3 (by decide)).mp q4) (by omega)
      refine g_iconst C (0 : Int32) rfl D9_55 ?_
      exact J 0 (Or.inr ⟨rfl, fun j hj => by
        rcases (show False by omega) with z
        exact z.elim⟩)
    · have gt0 : 0 < cn := (lt_k h4 0 (by decide)).mp q1
      refine g_aloadN C D9_4 rfl rfl ?_
      refine g_iconst C (0 : Int32) rfl D9_5 ?_
      refine g_laload C D9_6 Ae (by decide) (by decide) (E 0) rfl ?_
      refine g_lloadN C D9_7 rfl ?_
      refine g_lcmp_eq C D9_8 D9_9 (fun q5 => ?_) (fun q5 => ?_)
      · refine g_iconst C (1 : Int32) rfl D9_51 ?_
        refine g_goto C D9_52 ?_
        exact J 1 (Or.inl ⟨rfl, 0, gt0, q5⟩)
      · refine g_iloadN C D9_12 rfl ?_
        refine g_iconst C (1 : Int32) rfl D9_13 ?_
        refine g_icmp_le C D9_14 (fun q6 => ?_) (fun q6 => ?_)
        · have le1 : cn ≤ 1 := Nat.le_of_not_lt (fun z => q6 ((lt_k h4 1 (by decide)).mpr z))
          refine g_iloadN C D9_25 rfl ?_
          refine g_iconst C (2 : Int32) rfl D9_26 ?_
          refine g_icmp_le C D9_27 (fun q7 => ?_) (fun q7 => ?_)
          rotate_left
          · exfalso
            exact absurd ((lt_k h4 2 (by decide)).mp q7) (by omega)
          refine g_iloadN C D9_38 rfl ?_
          refine g_iconst C (3 : Int32) rfl D9_39 ?_
          refine g_icmp_le C D9_40 (fun q8 => ?_) (fun q8 => ?_)
          rotate_left
          · exfalso
            exact absurd ((lt_k h4 3 (by decide)).mp q8) (by omega)
          refine g_iconst C (0 : Int32) rfl D9_55 ?_
          exact J 0 (Or.inr ⟨rfl, fun j hj => by
            rcases (show j = 0 by omega) with rfl
            · exact q5⟩)
        · have gt1 : 1 < cn := (lt_k h4 1 (by decide)).mp q6
          refine g_aloadN C D9_17 rfl rfl ?_
          refine g_iconst C (1 : Int32) rfl D9_18 ?_
          refine g_laload C D9_19 Ae (by decide) (by decide) (E 1) rfl ?_
          refine g_lloadN C D9_20 rfl ?_
          refine g_lcmp_eq C D9_21 D9_22 (fun q9 => ?_) (fun q9 => ?_)
          · refine g_iconst C (1 : Int32) rfl D9_51 ?_
            refine g_goto C D9_52 ?_
            exact J 1 (Or.inl ⟨rfl, 1, gt1, q9⟩)
          · refine g_iloadN C D9_25 rfl ?_
            refine g_iconst C (2 : Int32) rfl D9_26 ?_
            refine g_icmp_le C D9_27 (fun q10 => ?_) (fun q10 => ?_)
            · have le2 : cn ≤ 2 := Nat.le_of_not_lt (fun z => q10 ((lt_k h4 2 (by decide)).mpr z))
              refine g_iloadN C D9_38 rfl ?_
              refine g_iconst C (3 : Int32) rfl D9_39 ?_
              refine g_icmp_le C D9_40 (fun q11 => ?_) (fun q11 => ?_)
              rotate_left
              · exfalso
                exact absurd ((lt_k h4 3 (by decide)).mp q11) (by omega)
              refine g_iconst C (0 : Int32) rfl D9_55 ?_
              exact J 0 (Or.inr ⟨rfl, fun j hj => by
                rcases (show j = 0 ∨ j = 1 by omega) with rfl | rfl
                · exact q5
                · exact q9⟩)
            · have gt2 : 2 < cn := (lt_k h4 2 (by decide)).mp q10
              refine g_aloadN C D9_30 rfl rfl ?_
              refine g_iconst C (2 : Int32) rfl D9_31 ?_
              refine g_laload C D9_32 Ae (by decide) (by decide) (E 2) rfl ?_
              refine g_lloadN C D9_33 rfl ?_
              refine g_lcmp_eq C D9_34 D9_35 (fun q12 => ?_) (fun q12 => ?_)
              · refine g_iconst C (1 : Int32) rfl D9_51 ?_
                refine g_goto C D9_52 ?_
                exact J 1 (Or.inl ⟨rfl, 2, gt2, q12⟩)
              · refine g_iloadN C D9_38 rfl ?_
                refine g_iconst C (3 : Int32) rfl D9_39 ?_
                refine g_icmp_le C D9_40 (fun q13 => ?_) (fun q13 => ?_)
                · have le3 : cn ≤ 3 := Nat.le_of_not_lt (fun z => q13 ((lt_k h4 3 (by decide)).mpr z))
                  refine g_iconst C (0 : Int32) rfl D9_55 ?_
                  exact J 0 (Or.inr ⟨rfl, fun j hj => by
                    rcases (show j = 0 ∨ j = 1 ∨ j = 2 by omega) with rfl | rfl | rfl
                    · exact q5
                    · exact q9
                    · exact q12⟩)
                · have gt3 : 3 < cn := (lt_k h4 3 (by decide)).mp q13
                  refine g_aloadN C D9_43 rfl rfl ?_
                  refine g_iconst C (3 : Int32) rfl D9_44 ?_
                  refine g_laload C D9_45 Ae (by decide) (by decide) (E 3) rfl ?_
                  refine g_lloadN C D9_46 rfl ?_
                  refine g_lcmp_ne C D9_47 D9_48 (fun q14 => ?_) (fun q14 => ?_)
                  · refine g_iconst C (0 : Int32) rfl D9_55 ?_
                    exact J 0 (Or.inr ⟨rfl, fun j hj => by
                      rcases (show j = 0 ∨ j = 1 ∨ j = 2 ∨ j = 3 by omega) with rfl | rfl | rfl | rfl
                      · exact q5
                      · exact q9
                      · exact q12
                      · exact q14⟩)
                  · refine g_iconst C (1 : Int32) rfl D9_51 ?_
                    refine g_goto C D9_52 ?_
                    exact J 1 (Or.inl ⟨rfl, 3, gt3, q14⟩)
  rintro y hy
  refine g_istore C #[.val (.ref ea), .val (.int (Int32.ofNat cn)), .val (.long v), .second, .val (.int most), .val (.int y)] D9_56 rfl ?_
  refine g_iload C D9_58 rfl ?_
  refine g_if_ne C D9_60 (fun q15 => ?_) (fun q15 => ?_)
  · have hs : ∃ j, j < cn ∧ E j = v := hy.elim (fun z => z.2) (fun z => absurd z.1 q15)
    refine g_iloadN C D9_74 rfl ?_
    refine g_retI C D9_75 (by decide) (by decide) ?_
    exact ⟨cn, E, rfl, Or.inl ⟨hs, rfl, rfl⟩, Ae, KL.refl _ _⟩
  · have hn : ∀ j, j < cn → ¬ E j = v := hy.elim (fun z => absurd (z.1.symm.trans q15) (by decide)) (fun z => z.2)
    refine g_iloadN C D9_63 rfl ?_
    refine g_iload C D9_64 rfl ?_
    refine g_icmp_ge C D9_66 (fun q16 => ?_) (fun q16 => ?_)
    · rw [Int32.lt_iff_toInt_lt, cni] at q16
      refine g_iloadN C D9_74 rfl ?_
      refine g_retI C D9_75 (by decide) (by decide) ?_
      exact ⟨cn, E, rfl, Or.inr (Or.inl ⟨hn, by omega, rfl, rfl⟩), Ae, KL.refl _ _⟩
    · rw [Int32.lt_iff_toInt_lt, cni] at q16
      refine g_iloadN C D9_69 rfl ?_
      refine g_iconst C (4 : Int32) rfl D9_70 ?_
      refine g_icmp_lt C D9_71 (fun q17 => ?_) (fun q17 => ?_)
      rotate_left
      · exfalso
        exact q17 (by rw [Int32.lt_iff_toInt_lt, cni, show (4 : Int32).toInt = 4 from rfl]; omega)
      refine g_aloadN C D9_76 rfl rfl ?_
      refine g_iloadN C D9_77 rfl ?_
      refine g_lloadN C D9_78 rfl ?_
      refine g_lastore C D9_79 Ae (by omega) (by rw [cni]; show (cn : Int) < (4 : Nat); omega) ge ?_
      intro h18 W19
      have A20 := LArr.set Ae W19
      have K21 := (KL.refl ea h0).wr W19 (Nat.le_refl ea)
      refine g_iloadN C D9_80 rfl ?_
      refine g_iconst C (1 : Int32) rfl D9_81 ?_
      refine g_iadd C D9_82 ?_
      refine g_retI C D9_83 (by decide) (by decide) ?_
      have AF := A20
      rw [cni, Int.toNat_natCast] at AF
      exact ⟨cn + 1, up E cn v, congrArg (fun z => some (Value.int z)) (cn_succ cn), Or.inr (Or.inr ⟨hn, q16, rfl, rfl⟩), AF, K21⟩
set_option maxRecDepth 65536 in
set_option maxHeartbeats 40000000 in
theorem law_2 (l : Launch) {Z : State} {a0 : Array Value} (hw : ∀ d ∈ tables_1, d.before a0 Z = true) {p : Program} {e : Env} {s : State} {m : MethodId} {below : List Frame} {meth : Method} {c : ClassFile.Code} (n0 : Nat) (C : Cx p s m meth c Z n0 x.cls code maxLocals ret x.name) (xa xb xc xd : Int64) (sel : Int32) (ia ib ic id : Int64) (na : 0 ≤ ia.toInt) (nb : 0 ≤ ib.toInt) (nc : 0 ≤ ic.toInt) (nd : 0 ≤ id.toInt) (kb kc kd mo : Int32) (h1 : Heap) (hz1 : n0 ≤ h1.size) : Go p l e room_1 s m #[(.long xa), (.long xb), (.long xc), (.long xd), (.int sel)] below meth c n0 (fun v h' => v = some (.int 1) ∧ True) room_1.cells room_1.slots h1 0 0 (mkF m 180 #[.val (.long xa), .second, .val (.long xb), .second, .val (.long xc), .second, .val (.long xd), .second, .val (.int sel), .val (.long ia), .second, .val (.int kb), .val (.long ib), .second, .val (.int kc), .val (.long ic), .second, .val (.int kd), .val (.long id), .second, .val (.int mo), .unset, .unset, .unset, .unset] []) := by
  refine g_new C (wd_6 hw) (wd_7 hw) (wd_8 hw) D0_180 (by decide) (by decide) ?_
  intro h11 b12 ge13 ea14 E15 X16 F17
  have H18 : RI Z h11 b12 .null .null .null (0 : Int32) (0 : Int32) (0 : Int32) := ⟨X16, F17 (Or.inl (wd_17 hw)) (ty := (.array .int)) (by decide), F17 (Or.inl (wd_28 hw)) (ty := (.array .long)) (by decide), F17 (Or.inl (wd_30 hw)) (ty := (.array .int)) (by decide), F17 (Or.inr (wd_32 hw)) (ty := .int) (by decide), F17 (Or.inl (wd_44 hw)) (ty := .int) (by decide), F17 (Or.inl (wd_46 hw)) (ty := .int) (by decide)⟩
  refine g_dup C D0_183 rfl ?_
  refine g_iload C D0_184 rfl ?_
  have hzI : n0 ≤ h11.size := Nat.le_trans ge13 (Nat.le_of_lt H18.lt)
  refine g_callI C (c_init l hw h11 n0 hzI b12 b12 mo ge13 (Nat.le_refl _) H18) rfl (wd_9 hw) (wd_10 hw) (wd_8 hw) (wd_11 hw) (by decide) D0_186 pd_7 [(.int mo)] [(.ref b12)] rfl rfl rfl 1 (Nat.le_of_eq rfl) (by decide) (by decide) (by decide) (by decide) ?_
  rintro _ hI ⟨rfl, H0, KI⟩
  have I0 := inv0
  have hlo : n0 ≤ b12 := ge13
  refine g_cast (f' := mkF m 189 #[.val (.long xa), .second, .val (.long xb), .second, .val (.long xc), .second, .val (.long xd), .second, .val (.int sel), .val (.long ia), .second, .val (.int kb), .val (.long ib), .second, .val (.int kc), .val (.long ic), .second, .val (.int kd), .val (.long id), .second, .val (.int mo), .unset, .unset, .unset, .unset] [(.ref b12)]) rfl ?_
  have u0 : 0 ≤ 2 * 0 := Nat.le_refl _
  have nu_0 : NU 0 (fun _ => 0) := fun j hj => absurd hj (Nat.not_lt_zero _)
  have ct0 : 0 ≤ 0 := Nat.le_refl _
  refine g_astore C #[.val (.long xa), .second, .val (.long xb), .second, .val (.long xc), .second, .val (.long xd), .second, .val (.int sel), .val (.long ia), .second, .val (.int kb), .val (.long ib), .second, .val (.int kc), .val (.long ic), .second, .val (.int kd), .val (.long id), .second, .val (.int mo), .val (.ref b12), .unset, .unset, .unset] D0_189 rfl rfl ?_
  refine g_aload C D0_191 rfl rfl ?_
  refine g_lload C D0_193 rfl ?_
  have hz0 := I0.2.2.2.2.2.2.2
  obtain ⟨S1, hS1⟩ := pickS mo 0 ia 0 (fun _ => 0)
  have bu1 := bud hS1 hz0 (by omega) u0
  have hh1 : n0 ≤ hI.size := Nat.le_trans hlo (Nat.le_of_lt (IX.lt H0).2)
  refine g_callV C (c_add l hw hI n0 hh1 b12 b12 mo 0 0 (fun _ => 0) (fun _ => -1) (fun _ => 0) ia S1 0 (fun _ => 0) (fun _ => 0) (fun _ => 0) hlo H0 I0 na (by omega) hS1) (wd_33 hw) (wd_34 hw) (wd_35 hw) (wd_36 hw) (wd_8 hw) (wd_37 hw) (by decide) D0_195 pd_5 (IX.exa H0) [(.long ia)] [] rfl rfl rfl 0 (Nat.le_of_eq rfl) (Nat.le_of_ble_eq_true rfl) (Nat.le_of_ble_eq_true rfl) (Nat.le_of_ble_eq_true rfl) (by show (38 + S1) ≤ 182080; omega) ?_
  rintro _ h_1 ⟨r1, cn1, X1, nu1, z1, f1, g1, q1, hs1, PL1, rfl, AR1, H1, I1, gj1, K1⟩
  have u1 := bud2 hS1 gj1 u0
  have ct1 : cn1 ≤ 1 := by have := (ar_cn AR1).2; omega
  have nu_1 := ar_nu AR1 nu_0
  refine g_cast (f' := mkF m 198 #[.val (.long xa), .second, .val (.long xb), .second, .val (.long xc), .second, .val (.long xd), .second, .val (.int sel), .val (.long ia), .second, .val (.int kb), .val (.long ib), .second, .val (.int kc), .val (.long ic), .second, .val (.int kd), .val (.long id), .second, .val (.int mo), .val (.ref b12), .unset, .unset, .unset] [(.int r1)]) rfl ?_
  refine g_pop C D0_198 rfl ?_
  refine g_aload C D0_199 rfl rfl ?_
  refine g_lload C D0_201 rfl ?_
  have hz1 := I1.2.2.2.2.2.2.2
  obtain ⟨S2, hS2⟩ := pickS mo z1 ib cn1 X1
  have bu2 := bud hS2 hz1 (by omega) u1
  have hh2 : n0 ≤ h_1.size := Nat.le_trans hlo (Nat.le_of_lt (IX.lt H1).2)
  refine g_callV C (c_add l hw h_1 n0 hh2 b12 b12 mo hs1 z1 f1 g1 q1 ib S2 cn1 X1 nu1 PL1 hlo H1 I1 nb (by omega) hS2) (wd_33 hw) (wd_34 hw) (wd_35 hw) (wd_36 hw) (wd_8 hw) (wd_37 hw) (by decide) D0_203 pd_5 (IX.exa H1) [(.long ib)] [] rfl rfl rfl 0 (Nat.le_of_eq rfl) (Nat.le_of_ble_eq_true rfl) (Nat.le_of_ble_eq_true rfl) (Nat.le_of_ble_eq_true rfl) (by show ((38 + S1) + S2) ≤ 182080; omega) ?_
  rintro _ h_2 ⟨r2, cn2, X2, nu2, z2, f2, g2, q2, hs2, PL2, rfl, AR2, H2, I2, gj2, K2⟩
  have u2 := bud2 hS2 gj2 u1
  have ct2 : cn2 ≤ 2 := by have := (ar_cn AR2).2; omega
  have nu_2 := ar_nu AR2 nu_1
  refine g_cast (f' := mkF m 206 #[.val (.long xa), .second, .val (.long xb), .second, .val (.long xc), .second, .val (.long xd), .second, .val (.int sel), .val (.long ia), .second, .val (.int kb), .val (.long ib), .second, .val (.int kc), .val (.long ic), .second, .val (.int kd), .val (.long id), .second, .val (.int mo), .val (.ref b12), .unset, .unset, .unset] [(.int r2)]) rfl ?_
  refine g_pop C D0_206 rfl ?_
  refine g_aload C D0_207 rfl rfl ?_
  refine g_lload C D0_209 rfl ?_
  have hz2 := I2.2.2.2.2.2.2.2
  obtain ⟨S3, hS3⟩ := pickS mo z2 ic cn2 X2
  have bu3 := bud hS3 hz2 (by omega) u2
  have hh3 : n0 ≤ h_2.size := Nat.le_trans hlo (Nat.le_of_lt (IX.lt H2).2)
  refine g_callV C (c_add l hw h_2 n0 hh3 b12 b12 mo hs2 z2 f2 g2 q2 ic S3 cn2 X2 nu2 PL2 hlo H2 I2 nc (by omega) hS3) (wd_33 hw) (wd_34 hw) (wd_35 hw) (wd_36 hw) (wd_8 hw) (wd_37 hw) (by decide) D0_211 pd_5 (IX.exa H2) [(.long ic)] [] rfl rfl rfl 0 (Nat.le_of_eq rfl) (Nat.le_of_ble_eq_true rfl) (Nat.le_of_ble_eq_true rfl) (Nat.le_of_ble_eq_true rfl) (by show (((38 + S1) + S2) + S3) ≤ 182080; omega) ?_
  rintro _ h_3 ⟨r3, cn3, X3, nu3, z3, f3, g3, q3, hs3, PL3, rfl, AR3, H3, I3, gj3, K3⟩
  have u3 := bud2 hS3 gj3 u2
  have ct3 : cn3 ≤ 3 := by have := (ar_cn AR3).2; omega
  have nu_3 := ar_nu AR3 nu_2
  refine g_cast (f' := mkF m 214 #[.val (.long xa), .second, .val (.long xb), .second, .val (.long xc), .second, .val (.long xd), .second, .val (.int sel), .val (.long ia), .second, .val (.int kb), .val (.long ib), .second, .val (.int kc), .val (.long ic), .second, .val (.int kd), .val (.long id), .second, .val (.int mo), .val (.ref b12), .unset, .unset, .unset] [(.int r3)]) rfl ?_
  refine g_pop C D0_214 rfl ?_
  refine g_aload C D0_215 rfl rfl ?_
  refine g_lload C D0_217 rfl ?_
  have hz3 := I3.2.2.2.2.2.2.2
  obtain ⟨S4, hS4⟩ := pickS mo z3 id cn3 X3
  have bu4 := bud hS4 hz3 (by omega) u3
  have hh4 : n0 ≤ h_3.size := Nat.le_trans hlo (Nat.le_of_lt (IX.lt H3).2)
  refine g_callV C (c_add l hw h_3 n0 hh4 b12 b12 mo hs3 z3 f3 g3 q3 id S4 cn3 X3 nu3 PL3 hlo H3 I3 nd (by omega) hS4) (wd_33 hw) (wd_34 hw) (wd_35 hw) (wd_36 hw) (wd_8 hw) (wd_37 hw) (by decide) D0_219 pd_5 (IX.exa H3) [(.long id)] [] rfl rfl rfl 0 (Nat.le_of_eq rfl) (Nat.le_of_ble_eq_true rfl) (Nat.le_of_ble_eq_true rfl) (Nat.le_of_ble_eq_true rfl) (by show ((((38 + S1) + S2) + S3) + S4) ≤ 182080; omega) ?_
  rintro _ h_4 ⟨r4, cn4, X4, nu4, z4, f4, g4, q4, hs4, PL4, rfl, AR4, H4, I4, gj4, K4⟩
  have u4 := bud2 hS4 gj4 u3
  have ct4 : cn4 ≤ 4 := by have := (ar_cn AR4).2; omega
  have nu_4 := ar_nu AR4 nu_3
  refine g_cast (f' := mkF m 222 #[.val (.long xa), .second, .val (.long xb), .second, .val (.long xc), .second, .val (.long xd), .second, .val (.int sel), .val (.long ia), .second, .val (.int kb), .val (.long ib), .second, .val (.int kc), .val (.long ic), .second, .val (.int kd), .val (.long id), .second, .val (.int mo), .val (.ref b12), .unset, .unset, .unset] [(.int r4)]) rfl ?_
  have hh5 : n0 ≤ h_4.size := Nat.le_trans hlo (Nat.le_of_lt (IX.lt H4).2)
  refine g_pop C D0_222 rfl ?_
  refine g_aload C D0_223 rfl rfl ?_
  refine g_callV C (c_ids l hw h_4 n0 hh5 b12 b12 mo hs4 z4 f4 g4 q4 cn4 X4 nu4 PL4 hlo H4 I4 nu_4) (wd_47 hw) (wd_48 hw) (wd_49 hw) (wd_50 hw) (wd_8 hw) (wd_51 hw) (by decide) D0_225 pd_10 (IX.exa H4) [] [] rfl rfl rfl 0 (Nat.le_of_eq rfl) (Nat.le_of_ble_eq_true rfl) (Nat.le_of_ble_eq_true rfl) (Nat.le_of_ble_eq_true rfl) (by show ((((38 + S1) + S2) + S3) + S4) + 4 ≤ 182080; omega) ?_
  rintro _ h_5 ⟨gb, R, rfl, gbl, AG, hR, K5⟩
  refine g_cast (f' := mkF m 228 #[.val (.long xa), .second, .val (.long xb), .second, .val (.long xc), .second, .val (.long xd), .second, .val (.int sel), .val (.long ia), .second, .val (.int kb), .val (.long ib), .second, .val (.int kc), .val (.long ic), .second, .val (.int kd), .val (.long id), .second, .val (.int mo), .val (.ref b12), .unset, .unset, .unset] [(.ref gb)]) rfl ?_
  have hz5 : n0 ≤ h_5.size := Nat.le_trans hh5 K5.1
  refine g_astore C #[.val (.long xa), .second, .val (.long xb), .second, .val (.long xc), .second, .val (.long xd), .second, .val (.int sel), .val (.long ia), .second, .val (.int kb), .val (.long ib), .second, .val (.int kc), .val (.long ic), .second, .val (.int kd), .val (.long id), .second, .val (.int mo), .val (.ref b12), .val (.ref gb), .unset, .unset] D0_228 rfl rfl ?_
  refine g_iconst C (4 : Int32) rfl D0_230 ?_
  refine g_newarr C (aty := .long) (wd_21 hw) D0_231 (by decide) 4 (by decide) (by decide) (Nat.le_of_ble_eq_true rfl) (by show (((((38 + S1) + S2) + S3) + S4) + 4) + 4 ≤ 182080; omega) ?_
  intro h19 b20 kA21 ge22 ea23 E24 X25
  have A26 : LArr Z h19 b20 4 (fun _ => (0 : Int64)) := LArr.new X25
  have ne_gb_b20 : gb ≠ b20 := Nat.ne_of_lt (ea23 ▸ AG.lt)
  have A27 := AG.ext E24
  refine g_astore C #[.val (.long xa), .second, .val (.long xb), .second, .val (.long xc), .second, .val (.long xd), .second, .val (.int sel), .val (.long ia), .second, .val (.int kb), .val (.long ib), .second, .val (.int kc), .val (.long ic), .second, .val (.int kd), .val (.long id), .second, .val (.int mo), .val (.ref b12), .val (.ref gb), .val (.ref b20), .unset] D0_233 rfl rfl ?_
  refine g_iconst C (0 : Int32) rfl D0_235 ?_
  refine g_istore C #[.val (.long xa), .second, .val (.long xb), .second, .val (.long xc), .second, .val (.long xd), .second, .val (.int sel), .val (.long ia), .second, .val (.int kb), .val (.long ib), .second, .val (.int kc), .val (.long ic), .second, .val (.int kd), .val (.long id), .second, .val (.int mo), .val (.ref b12), .val (.ref gb), .val (.ref b20), .val (.int (0 : Int32))] D0_236 rfl ?_
  have gle : gb < b20 := ea23 ▸ AG.lt
  have AE0 := A26
  have AG0 := A27
  have hE0 : ∀ j, j < 0 → (fun _ => (0 : Int64)) j = (fun _ => (0 : Int64)) j := fun _ _ => rfl
  refine g_cast (f' := mkF m 238 #[.val (.long xa), .second, .val (.long xb), .second, .val (.long xc), .second, .val (.long xd), .second, .val (.int sel), .val (.long ia), .second, .val (.int kb), .val (.long ib), .second, .val (.int kc), .val (.long ic), .second, .val (.int kd), .val (.long id), .second, .val (.int mo), .val (.ref b12), .val (.ref gb), .val (.ref b20), .val (.int (Int32.ofNat 0))] []) rfl ?_
  refine g_aload C D0_238 rfl rfl ?_
  refine g_iload C D0_240 rfl ?_
  refine g_lload C D0_242 rfl ?_
  refine g_iload C D0_244 rfl ?_
  have hg1 : n0 ≤ h19.size := Nat.le_trans ge22 (Nat.le_of_lt AE0.lt)
  refine g_callS C (c_step l hw h19 n0 hg1 b20 0 ia mo (fun _ => 0) ge22 AE0 (by omega)) (wd_52 hw) (wd_53 hw) (wd_2 hw) (wd_54 hw) (by decide) D0_246 pd_11 [(.ref b20), (.int (Int32.ofNat 0)), (.long ia), (.int mo)] [] rfl rfl rfl 0 (Nat.le_of_eq rfl) (Nat.le_of_ble_eq_true rfl) (Nat.le_of_ble_eq_true rfl) (Nat.le_of_ble_eq_true rfl) (by show ((((((38 + S1) + S2) + S3) + S4) + 4) + 4) ≤ 182080; omega) ?_
  rintro _ k_1 ⟨m1, E1, rfl, SR1, AE1, KE1⟩
  obtain ⟨em1, hE1⟩ := sim AR1 hE0 SR1
  rw [em1]
  have AG1 := AG0.kl KE1 gle
  refine g_cast (f' := mkF m 249 #[.val (.long xa), .second, .val (.long xb), .second, .val (.long xc), .second, .val (.long xd), .second, .val (.int sel), .val (.long ia), .second, .val (.int kb), .val (.long ib), .second, .val (.int kc), .val (.long ic), .second, .val (.int kd), .val (.long id), .second, .val (.int mo), .val (.ref b12), .val (.ref gb), .val (.ref b20), .val (.int (Int32.ofNat 0))] [(.int (Int32.ofNat cn1))]) rfl ?_
  refine g_istore C #[.val (.long xa), .second, .val (.long xb), .second, .val (.long xc), .second, .val (.long xd), .second, .val (.int sel), .val (.long ia), .second, .val (.int kb), .val (.long ib), .second, .val (.int kc), .val (.long ic), .second, .val (.int kd), .val (.long id), .second, .val (.int mo), .val (.ref b12), .val (.ref gb), .val (.ref b20), .val (.int (Int32.ofNat cn1))] D0_249 rfl ?_
  refine g_aload C D0_251 rfl rfl ?_
  refine g_iload C D0_253 rfl ?_
  refine g_lload C D0_255 rfl ?_
  refine g_iload C D0_257 rfl ?_
  have hg2 : n0 ≤ k_1.size := Nat.le_trans ge22 (Nat.le_of_lt AE1.lt)
  refine g_callS C (c_step l hw k_1 n0 hg2 b20 cn1 ib mo E1 ge22 AE1 (by omega)) (wd_52 hw) (wd_53 hw) (wd_2 hw) (wd_54 hw) (by decide) D0_259 pd_11 [(.ref b20), (.int (Int32.ofNat cn1)), (.long ib), (.int mo)] [] rfl rfl rfl 0 (Nat.le_of_eq rfl) (Nat.le_of_ble_eq_true rfl) (Nat.le_of_ble_eq_true rfl) (Nat.le_of_ble_eq_true rfl) (by show ((((((38 + S1) + S2) + S3) + S4) + 4) + 4) ≤ 182080; omega) ?_
  rintro _ k_2 ⟨m2, E2, rfl, SR2, AE2, KE2⟩
  obtain ⟨em2, hE2⟩ := sim AR2 hE1 SR2
  rw [em2]
  have AG2 := AG1.kl KE2 gle
  refine g_cast (f' := mkF m 262 #[.val (.long xa), .second, .val (.long xb), .second, .val (.long xc), .second, .val (.long xd), .second, .val (.int sel), .val (.long ia), .second, .val (.int kb), .val (.long ib), .second, .val (.int kc), .val (.long ic), .second, .val (.int kd), .val (.long id), .second, .val (.int mo), .val (.ref b12), .val (.ref gb), .val (.ref b20), .val (.int (Int32.ofNat cn1))] [(.int (Int32.ofNat cn2))]) rfl ?_
  refine g_istore C #[.val (.long xa), .second, .val (.long xb), .second, .val (.long xc), .second, .val (.long xd), .second, .val (.int sel), .val (.long ia), .second, .val (.int kb), .val (.long ib), .second, .val (.int kc), .val (.long ic), .second, .val (.int kd), .val (.long id), .second, .val (.int mo), .val (.ref b12), .val (.ref gb), .val (.ref b20), .val (.int (Int32.ofNat cn2))] D0_262 rfl ?_
  refine g_aload C D0_264 rfl rfl ?_
  refine g_iload C D0_266 rfl ?_
  refine g_lload C D0_268 rfl ?_
  refine g_iload C D0_270 rfl ?_
  have hg3 : n0 ≤ k_2.size := Nat.le_trans ge22 (Nat.le_of_lt AE2.lt)
  refine g_callS C (c_step l hw k_2 n0 hg3 b20 cn2 ic mo E2 ge22 AE2 (by omega)) (wd_52 hw) (wd_53 hw) (wd_2 hw) (wd_54 hw) (by decide) D0_272 pd_11 [(.ref b20), (.int (Int32.ofNat cn2)), (.long ic), (.int mo)] [] rfl rfl rfl 0 (Nat.le_of_eq rfl) (Nat.le_of_ble_eq_true rfl) (Nat.le_of_ble_eq_true rfl) (Nat.le_of_ble_eq_true rfl) (by show ((((((38 + S1) + S2) + S3) + S4) + 4) + 4) ≤ 182080; omega) ?_
  rintro _ k_3 ⟨m3, E3, rfl, SR3, AE3, KE3⟩
  obtain ⟨em3, hE3⟩ := sim AR3 hE2 SR3
  rw [em3]
  have AG3 := AG2.kl KE3 gle
  refine g_cast (f' := mkF m 275 #[.val (.long xa), .second, .val (.long xb), .second, .val (.long xc), .second, .val (.long xd), .second, .val (.int sel), .val (.long ia), .second, .val (.int kb), .val (.long ib), .second, .val (.int kc), .val (.long ic), .second, .val (.int kd), .val (.long id), .second, .val (.int mo), .val (.ref b12), .val (.ref gb), .val (.ref b20), .val (.int (Int32.ofNat cn2))] [(.int (Int32.ofNat cn3))]) rfl ?_
  refine g_istore C #[.val (.long xa), .second, .val (.long xb), .second, .val (.long xc), .second, .val (.long xd), .second, .val (.int sel), .val (.long ia), .second, .val (.int kb), .val (.long ib), .second, .val (.int kc), .val (.long ic), .second, .val (.int kd), .val (.long id), .second, .val (.int mo), .val (.ref b12), .val (.ref gb), .val (.ref b20), .val (.int (Int32.ofNat cn3))] D0_275 rfl ?_
  refine g_aload C D0_277 rfl rfl ?_
  refine g_iload C D0_279 rfl ?_
  refine g_lload C D0_281 rfl ?_
  refine g_iload C D0_283 rfl ?_
  have hg4 : n0 ≤ k_3.size := Nat.le_trans ge22 (Nat.le_of_lt AE3.lt)
  refine g_callS C (c_step l hw k_3 n0 hg4 b20 cn3 id mo E3 ge22 AE3 (by omega)) (wd_52 hw) (wd_53 hw) (wd_2 hw) (wd_54 hw) (by decide) D0_285 pd_11 [(.ref b20), (.int (Int32.ofNat cn3)), (.long id), (.int mo)] [] rfl rfl rfl 0 (Nat.le_of_eq rfl) (Nat.le_of_ble_eq_true rfl) (Nat.le_of_ble_eq_true rfl) (Nat.le_of_ble_eq_true rfl) (by show ((((((38 + S1) + S2) + S3) + S4) + 4) + 4) ≤ 182080; omega) ?_
  rintro _ k_4 ⟨m4, E4, rfl, SR4, AE4, KE4⟩
  obtain ⟨em4, hE4⟩ := sim AR4 hE3 SR4
  rw [em4]
  have AG4 := AG3.kl KE4 gle
  refine g_cast (f' := mkF m 288 #[.val (.long xa), .second, .val (.long xb), .second, .val (.long xc), .second, .val (.long xd), .second, .val (.int sel), .val (.long ia), .second, .val (.int kb), .val (.long ib), .second, .val (.int kc), .val (.long ic), .second, .val (.int kd), .val (.long id), .second, .val (.int mo), .val (.ref b12), .val (.ref gb), .val (.ref b20), .val (.int (Int32.ofNat cn3))] [(.int (Int32.ofNat cn4))]) rfl ?_
  refine g_istore C #[.val (.long xa), .second, .val (.long xb), .second, .val (.long xc), .second, .val (.long xd), .second, .val (.int sel), .val (.long ia), .second, .val (.int kb), .val (.long ib), .second, .val (.int kc), .val (.long ic), .second, .val (.int kd), .val (.long id), .second, .val (.int mo), .val (.ref b12), .val (.ref gb), .val (.ref b20), .val (.int (Int32.ofNat cn4))] D0_288 rfl ?_
  refine g_aload C D0_290 rfl rfl ?_
  refine g_lenLArr C D0_292 AG4 (Int32.ofNat cn4) rfl ?_
  refine g_iload C D0_293 rfl ?_
  refine g_icmp_eq C D0_295 (fun q28 => ?_) (fun q28 => ?_)
  rotate_left
  · exfalso
    exact q28 rfl
  rcases (show cn4 = 0 ∨ cn4 = 1 ∨ cn4 = 2 ∨ cn4 = 3 ∨ cn4 = 4 by omega) with rfl | rfl | rfl | rfl | rfl
  · refine g_iload C D0_300 rfl ?_
    refine g_iconst C (1 : Int32) rfl D0_302 ?_
    refine g_icmp_lt C D0_303 (fun q29 => ?_) (fun q29 => ?_)
    rotate_left
    · exfalso
      exact q29 (by decide)
    refine g_iload C D0_318 rfl ?_
    refine g_iconst C (2 : Int32) rfl D0_320 ?_
    refine g_icmp_lt C D0_321 (fun q30 => ?_) (fun q30 => ?_)
    rotate_left
    · exfalso
      exact q30 (by decide)
    refine g_iload C D0_336 rfl ?_
    refine g_iconst C (3 : Int32) rfl D0_338 ?_
    refine g_icmp_lt C D0_339 (fun q31 => ?_) (fun q31 => ?_)
    rotate_left
    · exfalso
      exact q31 (by decide)
    refine g_iload C D0_354 rfl ?_
    refine g_iconst C (4 : Int32) rfl D0_356 ?_
    refine g_icmp_lt C D0_357 (fun q32 => ?_) (fun q32 => ?_)
    rotate_left
    · exfalso
      exact q32 (by decide)
    refine g_iconst C (1 : Int32) rfl D0_372 ?_
    refine g_goto C D0_373 ?_
    refine g_retZ C D0_377 (Nat.le_of_ble_eq_true rfl) (by show ((((((38 + S1) + S2) + S3) + S4) + 4) + 4) ≤ 182080; omega) ?_
    exact ⟨rfl, trivial⟩
  · refine g_iload C D0_300 rfl ?_
    refine g_iconst C (1 : Int32) rfl D0_302 ?_
    refine g_icmp_lt C D0_303 (fun q33 => ?_) (fun q33 => ?_)
    · exfalso
      exact absurd q33 (by decide)
    refine g_aload C D0_306 rfl rfl ?_
    refine g_iconst C (0 : Int32) rfl D0_308 ?_
    refine g_laload C D0_309 AG4 (by decide) (by decide) (R 0) rfl ?_
    refine g_aload C D0_310 rfl rfl ?_
    refine g_iconst C (0 : Int32) rfl D0_312 ?_
    refine g_laload C D0_313 AE4 (by decide) (by decide) (E4 0) rfl ?_
    refine g_lcmp_ne C D0_314 D0_315 (fun q34 => ?_) (fun q34 => ?_)
    · exfalso
      exact q34 ((hR 0 (by decide)).trans (hE4 0 (by decide)).symm)
    refine g_iload C D0_318 rfl ?_
    refine g_iconst C (2 : Int32) rfl D0_320 ?_
    refine g_icmp_lt C D0_321 (fun q35 => ?_) (fun q35 => ?_)
    rotate_left
    · exfalso
      exact q35 (by decide)
    refine g_iload C D0_336 rfl ?_
    refine g_iconst C (3 : Int32) rfl D0_338 ?_
    refine g_icmp_lt C D0_339 (fun q36 => ?_) (fun q36 => ?_)
    rotate_left
    · exfalso
      exact q36 (by decide)
    refine g_iload C D0_354 rfl ?_
    refine g_iconst C (4 : Int32) rfl D0_356 ?_
    refine g_icmp_lt C D0_357 (fun q37 => ?_) (fun q37 => ?_)
    rotate_left
    · exfalso
      exact q37 (by decide)
    refine g_iconst C (1 : Int32) rfl D0_372 ?_
    refine g_goto C D0_373 ?_
    refine g_retZ C D0_377 (Nat.le_of_ble_eq_true rfl) (by show ((((((38 + S1) + S2) + S3) + S4) + 4) + 4) ≤ 182080; omega) ?_
    exact ⟨rfl, trivial⟩
  · refine g_iload C D0_300 rfl ?_
    refine g_iconst C (1 : Int32) rfl D0_302 ?_
    refine g_icmp_lt C D0_303 (fun q38 => ?_) (fun q38 => ?_)
    · exfalso
      exact absurd q38 (by decide)
    refine g_aload C D0_306 rfl rfl ?_
    refine g_iconst C (0 : Int32) rfl D0_308 ?_
    refine g_laload C D0_309 AG4 (by decide) (by decide) (R 0) rfl ?_
    refine g_aload C D0_310 rfl rfl ?_
    refine g_iconst C (0 : Int32) rfl D0_312 ?_
    refine g_laload C D0_313 AE4 (by decide) (by decide) (E4 0) rfl ?_
    refine g_lcmp_ne C D0_314 D0_315 (fun q39 => ?_) (fun q39 => ?_)
    · exfalso
      exact q39 ((hR 0 (by decide)).trans (hE4 0 (by decide)).symm)
    refine g_iload C D0_318 rfl ?_
    refine g_iconst C (2 : Int32) rfl D0_320 ?_
    refine g_icmp_lt C D0_321 (fun q40 => ?_) (fun q40 => ?_)
    · exfalso
      exact absurd q40 (by decide)
    refine g_aload C D0_324 rfl rfl ?_
    refine g_iconst C (1 : Int32) rfl D0_326 ?_
    refine g_laload C D0_327 AG4 (by decide) (by decide) (R 1) rfl ?_
    refine g_aload C D0_328 rfl rfl ?_
    refine g_iconst C (1 : Int32) rfl D0_330 ?_
    refine g_laload C D0_331 AE4 (by decide) (by decide) (E4 1) rfl ?_
    refine g_lcmp_ne C D0_332 D0_333 (fun q41 => ?_) (fun q41 => ?_)
    · exfalso
      exact q41 ((hR 1 (by decide)).trans (hE4 1 (by decide)).symm)
    refine g_iload C D0_336 rfl ?_
    refine g_iconst C (3 : Int32) rfl D0_338 ?_
    refine g_icmp_lt C D0_339 (fun q42 => ?_) (fun q42 => ?_)
    rotate_left
    · exfalso
      exact q42 (by decide)
    refine g_iload C D0_354 rfl ?_
    refine g_iconst C (4 : Int32) rfl D0_356 ?_
    refine g_icmp_lt C D0_357 (fun q43 => ?_) (fun q43 => ?_)
    rotate_left
    · exfalso
      exact q43 (by decide)
    refine g_iconst C (1 : Int32) rfl D0_372 ?_
    refine g_goto C D0_373 ?_
    refine g_retZ C D0_377 (Nat.le_of_ble_eq_true rfl) (by show ((((((38 + S1) + S2) + S3) + S4) + 4) + 4) ≤ 182080; omega) ?_
    exact ⟨rfl, trivial⟩
  · refine g_iload C D0_300 rfl ?_
    refine g_iconst C (1 : Int32) rfl D0_302 ?_
    refine g_icmp_lt C D0_303 (fun q44 => ?_) (fun q44 => ?_)
    · exfalso
      exact absurd q44 (by decide)
    refine g_aload C D0_306 rfl rfl ?_
    refine g_iconst C (0 : Int32) rfl D0_308 ?_
    refine g_laload C D0_309 AG4 (by decide) (by decide) (R 0) rfl ?_
    refine g_aload C D0_310 rfl rfl ?_
    refine g_iconst C (0 : Int32) rfl D0_312 ?_
    refine g_laload C D0_313 AE4 (by decide) (by decide) (E4 0) rfl ?_
    refine g_lcmp_ne C D0_314 D0_315 (fun q45 => ?_) (fun q45 => ?_)
    · exfalso
      exact q45 ((hR 0 (by decide)).trans (hE4 0 (by decide)).symm)
    refine g_iload C D0_318 rfl ?_
    refine g_iconst C (2 : Int32) rfl D0_320 ?_
    refine g_icmp_lt C D0_321 (fun q46 => ?_) (fun q46 => ?_)
    · exfalso
      exact absurd q46 (by decide)
    refine g_aload C D0_324 rfl rfl ?_
    refine g_iconst C (1 : Int32) rfl D0_326 ?_
    refine g_laload C D0_327 AG4 (by decide) (by decide) (R 1) rfl ?_
    refine g_aload C D0_328 rfl rfl ?_
    refine g_iconst C (1 : Int32) rfl D0_330 ?_
    refine g_laload C D0_331 AE4 (by decide) (by decide) (E4 1) rfl ?_
    refine g_lcmp_ne C D0_332 D0_333 (fun q47 => ?_) (fun q47 => ?_)
    · exfalso
      exact q47 ((hR 1 (by decide)).trans (hE4 1 (by decide)).symm)
    refine g_iload C D0_336 rfl ?_
    refine g_iconst C (3 : Int32) rfl D0_338 ?_
    refine g_icmp_lt C D0_339 (fun q48 => ?_) (fun q48 => ?_)
    · exfalso
      exact absurd q48 (by decide)
    refine g_aload C D0_342 rfl rfl ?_
    refine g_iconst C (2 : Int32) rfl D0_344 ?_
    refine g_laload C D0_345 AG4 (by decide) (by decide) (R 2) rfl ?_
    refine g_aload C D0_346 rfl rfl ?_
    refine g_iconst C (2 : Int32) rfl D0_348 ?_
    refine g_laload C D0_349 AE4 (by decide) (by decide) (E4 2) rfl ?_
    refine g_lcmp_ne C D0_350 D0_351 (fun q49 => ?_) (fun q49 => ?_)
    · exfalso
      exact q49 ((hR 2 (by decide)).trans (hE4 2 (by decide)).symm)
    refine g_iload C D0_354 rfl ?_
    refine g_iconst C (4 : Int32) rfl D0_356 ?_
    refine g_icmp_lt C D0_357 (fun q50 => ?_) (fun q50 => ?_)
    rotate_left
    · exfalso
      exact q50 (by decide)
    refine g_iconst C (1 : Int32) rfl D0_372 ?_
    refine g_goto C D0_373 ?_
    refine g_retZ C D0_377 (Nat.le_of_ble_eq_true rfl) (by show ((((((38 + S1) + S2) + S3) + S4) + 4) + 4) ≤ 182080; omega) ?_
    exact ⟨rfl, trivial⟩
  · refine g_iload C D0_300 rfl ?_
    refine g_iconst C (1 : Int32) rfl D0_302 ?_
    refine g_icmp_lt C D0_303 (fun q51 => ?_) (fun q51 => ?_)
    · exfalso
      exact absurd q51 (by decide)
    refine g_aload C D0_306 rfl rfl ?_
    refine g_iconst C (0 : Int32) rfl D0_308 ?_
    refine g_laload C D0_309 AG4 (by decide) (by decide) (R 0) rfl ?_
    refine g_aload C D0_310 rfl rfl ?_
    refine g_iconst C (0 : Int32) rfl D0_312 ?_
    refine g_laload C D0_313 AE4 (by decide) (by decide) (E4 0) rfl ?_
    refine g_lcmp_ne C D0_314 D0_315 (fun q52 => ?_) (fun q52 => ?_)
    · exfalso
      exact q52 ((hR 0 (by decide)).trans (hE4 0 (by decide)).symm)
    refine g_iload C D0_318 rfl ?_
    refine g_iconst C (2 : Int32) rfl D0_320 ?_
    refine g_icmp_lt C D0_321 (fun q53 => ?_) (fun q53 => ?_)
    · exfalso
      exact absurd q53 (by decide)
    refine g_aload C D0_324 rfl rfl ?_
    refine g_iconst C (1 : Int32) rfl D0_326 ?_
    refine g_laload C D0_327 AG4 (by decide) (by decide) (R 1) rfl ?_
    refine g_aload C D0_328 rfl rfl ?_
    refine g_iconst C (1 : Int32) rfl D0_330 ?_
    refine g_laload C D0_331 AE4 (by decide) (by decide) (E4 1) rfl ?_
    refine g_lcmp_ne C D0_332 D0_333 (fun q54 => ?_) (fun q54 => ?_)
    · exfalso
      exact q54 ((hR 1 (by decide)).trans (hE4 1 (by decide)).symm)
    refine g_iload C D0_336 rfl ?_
    refine g_iconst C (3 : Int32) rfl D0_338 ?_
    refine g_icmp_lt C D0_339 (fun q55 => ?_) (fun q55 => ?_)
    · exfalso
      exact absurd q55 (by decide)
    refine g_aload C D0_342 rfl rfl ?_
    refine g_iconst C (2 : Int32) rfl D0_344 ?_
    refine g_laload C D0_345 AG4 (by decide) (by decide) (R 2) rfl ?_
    refine g_aload C D0_346 rfl rfl ?_
    refine g_iconst C (2 : Int32) rfl D0_348 ?_
    refine g_laload C D0_349 AE4 (by decide) (by decide) (E4 2) rfl ?_
    refine g_lcmp_ne C D0_350 D0_351 (fun q56 => ?_) (fun q56 => ?_)
    · exfalso
      exact q56 ((hR 2 (by decide)).trans (hE4 2 (by decide)).symm)
    refine g_iload C D0_354 rfl ?_
    refine g_iconst C (4 : Int32) rfl D0_356 ?_
    refine g_icmp_lt C D0_357 (fun q57 => ?_) (fun q57 => ?_)
    · exfalso
      exact absurd q57 (by decide)
    refine g_aload C D0_360 rfl rfl ?_
    refine g_iconst C (3 : Int32) rfl D0_362 ?_
    refine g_laload C D0_363 AG4 (by decide) (by decide) (R 3) rfl ?_
    refine g_aload C D0_364 rfl rfl ?_
    refine g_iconst C (3 : Int32) rfl D0_366 ?_
    refine g_laload C D0_367 AE4 (by decide) (by decide) (E4 3) rfl ?_
    refine g_lcmp_ne C D0_368 D0_369 (fun q58 => ?_) (fun q58 => ?_)
    · exfalso
      exact q58 ((hR 3 (by decide)).trans (hE4 3 (by decide)).symm)
    refine g_iconst C (1 : Int32) rfl D0_372 ?_
    refine g_goto C D0_373 ?_
    refine g_retZ C D0_377 (Nat.le_of_ble_eq_true rfl) (by show ((((((38 + S1) + S2) + S3) + S4) + 4) + 4) ≤ 182080; omega) ?_
    exact ⟨rfl, trivial⟩
set_option maxRecDepth 65536 in
set_option maxHeartbeats 40000000 in
theorem c_law (l : Launch) {Z : State} {a0 : Array Value} (hw : ∀ d ∈ tables_1, d.before a0 Z = true) (ws : List Jvm.Cond) (h0 : Heap) (n0 : Nat) (hn0 : n0 ≤ h0.size) (xa xb xc xd : Int64) (sel : Int32)  : Con l Z x code maxLocals ret room_1 ws #[(.long xa), (.long xb), (.long xc), (.long xd), (.int sel)] h0 n0 (fun v h' => v = some (.int 1) ∧ True) := by
  refine con_of (Ls0 := #[.val (.long xa), .second, .val (.long xb), .second, .val (.long xc), .second, .val (.long xd), .second, .val (.int sel), .unset, .unset, .unset, .unset, .unset, .unset, .unset, .unset, .unset, .unset, .unset, .unset, .unset, .unset, .unset, .unset]) (plainFor_of_name pn_2) (fun m => by first | (simp [entryFrame, mkF, argsToLocals, Value.category, maxLocals]; done) | rfl) hn0 ?_
  intro p e s m below meth c C
  refine g_join (ι := Int64) (fun y => h0) 0 0 (fun y => mkF m 16 #[.val (.long xa), .second, .val (.long xb), .second, .val (.long xc), .second, .val (.long xd), .second, .val (.int sel), .unset, .unset, .unset, .unset, .unset, .unset, .unset, .unset, .unset, .unset, .unset, .unset, .unset, .unset, .unset, .unset] [(.long y)]) (fun y => 0 ≤ y.toInt) (fun J => ?_) ?_
  · refine g_lloadN C D0_0 rfl ?_
    refine g_iload C D0_1 rfl ?_
    refine g_iconst C (1 : Int32) rfl D0_3 ?_
    refine g_iand C D0_4 ?_
    refine g_if_eq C D0_5 (fun q1 => ?_) (fun q1 => ?_)
    · refine g_iconst C (0 : Int32) rfl D0_12 ?_
      refine g_callS C (c_pick l hw h0 n0 hn0 xa (0 : Int32)) (wd_0 hw) (wd_1 hw) (wd_2 hw) (wd_3 hw) (by decide) D0_13 pd_9 [(.long xa), (.int (0 : Int32))] [] rfl rfl rfl 0 (Nat.le_of_eq rfl) (by decide) (by decide) (by decide) (by decide) ?_
      rintro _ _ ⟨r, rfl, nr, rfl⟩
      refine g_cast (f' := mkF m 16 #[.val (.long xa), .second, .val (.long xb), .second, .val (.long xc), .second, .val (.long xd), .second, .val (.int sel), .unset, .unset, .unset, .unset, .unset, .unset, .unset, .unset, .unset, .unset, .unset, .unset, .unset, .unset, .unset, .unset] [(.long r)]) rfl ?_
      exact J r nr
    · refine g_iconst C (1 : Int32) rfl D0_8 ?_
      refine g_goto C D0_9 ?_
      refine g_callS C (c_pick l hw h0 n0 hn0 xa (1 : Int32)) (wd_0 hw) (wd_1 hw) (wd_2 hw) (wd_3 hw) (by decide) D0_13 pd_9 [(.long xa), (.int (1 : Int32))] [] rfl rfl rfl 0 (Nat.le_of_eq rfl) (by decide) (by decide) (by decide) (by decide) ?_
      rintro _ _ ⟨r, rfl, nr, rfl⟩
      refine g_cast (f' := mkF m 16 #[.val (.long xa), .second, .val (.long xb), .second, .val (.long xc), .second, .val (.long xd), .second, .val (.int sel), .unset, .unset, .unset, .unset, .unset, .unset, .unset, .unset, .unset, .unset, .unset, .unset, .unset, .unset, .unset, .unset] [(.long r)]) rfl ?_
      exact J r nr
  rintro ia na
  refine g_lstore C #[.val (.long xa), .second, .val (.long xb), .second, .val (.long xc), .second, .val (.long xd), .second, .val (.int sel), .val (.long ia), .second, .unset, .unset, .unset, .unset, .unset, .unset, .unset, .unset, .unset, .unset, .unset, .unset, .unset, .unset] D0_16 rfl ?_
  refine g_iload C D0_18 rfl ?_
  refine g_iconst C (1 : Int32) rfl D0_20 ?_
  refine g_iushr C D0_21 ?_
  refine g_iconst C (3 : Int32) rfl D0_22 ?_
  refine g_iand C D0_23 ?_
  refine g_istore C #[.val (.long xa), .second, .val (.long xb), .second, .val (.long xc), .second, .val (.long xd), .second, .val (.int sel), .val (.long ia), .second, .val (.int ((ushrI sel (1 : Int32)) &&& (3 : Int32))), .unset, .unset, .unset, .unset, .unset, .unset, .unset, .unset, .unset, .unset, .unset, .unset, .unset] D0_24 rfl ?_
  refine g_join (ι := Int64) (fun y => h0) 0 0 (fun y => mkF m 54 #[.val (.long xa), .second, .val (.long xb), .second, .val (.long xc), .second, .val (.long xd), .second, .val (.int sel), .val (.long ia), .second, .val (.int ((ushrI sel (1 : Int32)) &&& (3 : Int32))), .unset, .unset, .unset, .unset, .unset, .unset, .unset, .unset, .unset, .unset, .unset, .unset, .unset] [(.long y)]) (fun y => 0 ≤ y.toInt) (fun J => ?_) ?_
  · refine g_iload C D0_26 rfl ?_
    refine g_if_ne C D0_28 (fun q2 => ?_) (fun q2 => ?_)
    · refine g_lloadN C D0_36 rfl ?_
      refine g_iload C D0_37 rfl ?_
      refine g_iconst C (3 : Int32) rfl D0_39 ?_
      refine g_iushr C D0_40 ?_
      refine g_iconst C (1 : Int32) rfl D0_41 ?_
      refine g_iand C D0_42 ?_
      refine g_if_eq C D0_43 (fun q3 => ?_) (fun q3 => ?_)
      · refine g_iconst C (0 : Int32) rfl D0_50 ?_
        refine g_callS C (c_pick l hw h0 n0 hn0 xb (0 : Int32)) (wd_0 hw) (wd_1 hw) (wd_2 hw) (wd_3 hw) (by decide) D0_51 pd_9 [(.long xb), (.int (0 : Int32))] [] rfl rfl rfl 0 (Nat.le_of_eq rfl) (by decide) (by decide) (by decide) (by decide) ?_
        rintro _ _ ⟨r, rfl, nr, rfl⟩
        refine g_cast (f' := mkF m 54 #[.val (.long xa), .second, .val (.long xb), .second, .val (.long xc), .second, .val (.long xd), .second, .val (.int sel), .val (.long ia), .second, .val (.int ((ushrI sel (1 : Int32)) &&& (3 : Int32))), .unset, .unset, .unset, .unset, .unset, .unset, .unset, .unset, .unset, .unset, .unset, .unset, .unset] [(.long r)]) rfl ?_
        exact J r nr
      · refine g_iconst C (1 : Int32) rfl D0_46 ?_
        refine g_goto C D0_47 ?_
        refine g_callS C (c_pick l hw h0 n0 hn0 xb (1 : Int32)) (wd_0 hw) (wd_1 hw) (wd_2 hw) (wd_3 hw) (by decide) D0_51 pd_9 [(.long xb), (.int (1 : Int32))] [] rfl rfl rfl 0 (Nat.le_of_eq rfl) (by decide) (by decide) (by decide) (by decide) ?_
        rintro _ _ ⟨r, rfl, nr, rfl⟩
        refine g_cast (f' := mkF m 54 #[.val (.long xa), .second, .val (.long xb), .second, .val (.long xc), .second, .val (.long xd), .second, .val (.int sel), .val (.long ia), .second, .val (.int ((ushrI sel (1 : Int32)) &&& (3 : Int32))), .unset, .unset, .unset, .unset, .unset, .unset, .unset, .unset, .unset, .unset, .unset, .unset, .unset] [(.long r)]) rfl ?_
        exact J r nr
    · refine g_lload C D0_31 rfl ?_
      refine g_goto C D0_33 ?_
      exact J ia na
  rintro ib nb
  refine g_lstore C #[.val (.long xa), .second, .val (.long xb), .second, .val (.long xc), .second, .val (.long xd), .second, .val (.int sel), .val (.long ia), .second, .val (.int ((ushrI sel (1 : Int32)) &&& (3 : Int32))), .val (.long ib), .second, .unset, .unset, .unset, .unset, .unset, .unset, .unset, .unset, .unset, .unset, .unset] D0_54 rfl ?_
  refine g_iload C D0_56 rfl ?_
  refine g_iconst C (4 : Int32) rfl D0_58 ?_
  refine g_iushr C D0_59 ?_
  refine g_iconst C (3 : Int32) rfl D0_60 ?_
  refine g_iand C D0_61 ?_
  refine g_istore C #[.val (.long xa), .second, .val (.long xb), .second, .val (.long xc), .second, .val (.long xd), .second, .val (.int sel), .val (.long ia), .second, .val (.int ((ushrI sel (1 : Int32)) &&& (3 : Int32))), .val (.long ib), .second, .val (.int ((ushrI sel (4 : Int32)) &&& (3 : Int32))), .unset, .unset, .unset, .unset, .unset, .unset, .unset, .unset, .unset, .unset] D0_62 rfl ?_
  refine g_join (ι := Int64) (fun y => h0) 0 0 (fun y => mkF m 105 #[.val (.long xa), .second, .val (.long xb), .second, .val (.long xc), .second, .val (.long xd), .second, .val (.int sel), .val (.long ia), .second, .val (.int ((ushrI sel (1 : Int32)) &&& (3 : Int32))), .val (.long ib), .second, .val (.int ((ushrI sel (4 : Int32)) &&& (3 : Int32))), .unset, .unset, .unset, .unset, .unset, .unset, .unset, .unset, .unset, .unset] [(.long y)]) (fun y => 0 ≤ y.toInt) (fun J => ?_) ?_
  · refine g_iload C D0_64 rfl ?_
    refine g_if_ne C D0_66 (fun q4 => ?_) (fun q4 => ?_)
    · refine g_iload C D0_74 rfl ?_
      refine g_iconst C (1 : Int32) rfl D0_76 ?_
      refine g_icmp_ne C D0_77 (fun q5 => ?_) (fun q5 => ?_)
      · refine g_lload C D0_85 rfl ?_
        refine g_iload C D0_87 rfl ?_
        refine g_bipush C (6 : Int32) rfl D0_89 ?_
        refine g_iushr C D0_91 ?_
        refine g_iconst C (1 : Int32) rfl D0_92 ?_
        refine g_iand C D0_93 ?_
        refine g_if_eq C D0_94 (fun q6 => ?_) (fun q6 => ?_)
        · refine g_iconst C (0 : Int32) rfl D0_101 ?_
          refine g_callS C (c_pick l hw h0 n0 hn0 xc (0 : Int32)) (wd_0 hw) (wd_1 hw) (wd_2 hw) (wd_3 hw) (by decide) D0_102 pd_9 [(.long xc), (.int (0 : Int32))] [] rfl rfl rfl 0 (Nat.le_of_eq rfl) (by decide) (by decide) (by decide) (by decide) ?_
          rintro _ _ ⟨r, rfl, nr, rfl⟩
          refine g_cast (f' := mkF m 105 #[.val (.long xa), .second, .val (.long xb), .second, .val (.long xc), .second, .val (.long xd), .second, .val (.int sel), .val (.long ia), .second, .val (.int ((ushrI sel (1 : Int32)) &&& (3 : Int32))), .val (.long ib), .second, .val (.int ((ushrI sel (4 : Int32)) &&& (3 : Int32))), .unset, .unset, .unset, .unset, .unset, .unset, .unset, .unset, .unset, .unset] [(.long r)]) rfl ?_
          exact J r nr
        · refine g_iconst C (1 : Int32) rfl D0_97 ?_
          refine g_goto C D0_98 ?_
          refine g_callS C (c_pick l hw h0 n0 hn0 xc (1 : Int32)) (wd_0 hw) (wd_1 hw) (wd_2 hw) (wd_3 hw) (by decide) D0_102 pd_9 [(.long xc), (.int (1 : Int32))] [] rfl rfl rfl 0 (Nat.le_of_eq rfl) (by decide) (by decide) (by decide) (by decide) ?_
          rintro _ _ ⟨r, rfl, nr, rfl⟩
          refine g_cast (f' := mkF m 105 #[.val (.long xa), .second, .val (.long xb), .second, .val (.long xc), .second, .val (.long xd), .second, .val (.int sel), .val (.long ia), .second, .val (.int ((ushrI sel (1 : Int32)) &&& (3 : Int32))), .val (.long ib), .second, .val (.int ((ushrI sel (4 : Int32)) &&& (3 : Int32))), .unset, .unset, .unset, .unset, .unset, .unset, .unset, .unset, .unset, .unset] [(.long r)]) rfl ?_
          exact J r nr
      · refine g_lload C D0_80 rfl ?_
        refine g_goto C D0_82 ?_
        exact J ia na
    · refine g_lload C D0_69 rfl ?_
      refine g_goto C D0_71 ?_
      exact J ib nb
  rintro ic nc
  refine g_lstore C #[.val (.long xa), .second, .val (.long xb), .second, .val (.long xc), .second, .val (.long xd), .second, .val (.int sel), .val (.long ia), .second, .val (.int ((ushrI sel (1 : Int32)) &&& (3 : Int32))), .val (.long ib), .second, .val (.int ((ushrI sel (4 : Int32)) &&& (3 : Int32))), .val (.long ic), .second, .unset, .unset, .unset, .unset, .unset, .unset, .unset, .unset] D0_105 rfl ?_
  refine g_iload C D0_107 rfl ?_
  refine g_bipush C (7 : Int32) rfl D0_109 ?_
  refine g_iushr C D0_111 ?_
  refine g_iconst C (3 : Int32) rfl D0_112 ?_
  refine g_iand C D0_113 ?_
  refine g_istore C #[.val (.long xa), .second, .val (.long xb), .second, .val (.long xc), .second, .val (.long xd), .second, .val (.int sel), .val (.long ia), .second, .val (.int ((ushrI sel (1 : Int32)) &&& (3 : Int32))), .val (.long ib), .second, .val (.int ((ushrI sel (4 : Int32)) &&& (3 : Int32))), .val (.long ic), .second, .val (.int ((ushrI sel (7 : Int32)) &&& (3 : Int32))), .unset, .unset, .unset, .unset, .unset, .unset, .unset] D0_114 rfl ?_
  refine g_join (ι := Int64) (fun y => h0) 0 0 (fun y => mkF m 168 #[.val (.long xa), .second, .val (.long xb), .second, .val (.long xc), .second, .val (.long xd), .second, .val (.int sel), .val (.long ia), .second, .val (.int ((ushrI sel (1 : Int32)) &&& (3 : Int32))), .val (.long ib), .second, .val (.int ((ushrI sel (4 : Int32)) &&& (3 : Int32))), .val (.long ic), .second, .val (.int ((ushrI sel (7 : Int32)) &&& (3 : Int32))), .unset, .unset, .unset, .unset, .unset, .unset, .unset] [(.long y)]) (fun y => 0 ≤ y.toInt) (fun J => ?_) ?_
  · refine g_iload C D0_116 rfl ?_
    refine g_if_ne C D0_118 (fun q7 => ?_) (fun q7 => ?_)
    · refine g_iload C D0_126 rfl ?_
      refine g_iconst C (1 : Int32) rfl D0_128 ?_
      refine g_icmp_ne C D0_129 (fun q8 => ?_) (fun q8 => ?_)
      · refine g_iload C D0_137 rfl ?_
        refine g_iconst C (2 : Int32) rfl D0_139 ?_
        refine g_icmp_ne C D0_140 (fun q9 => ?_) (fun q9 => ?_)
        · refine g_lload C D0_148 rfl ?_
          refine g_iload C D0_150 rfl ?_
          refine g_bipush C (9 : Int32) rfl D0_152 ?_
          refine g_iushr C D0_154 ?_
          refine g_iconst C (1 : Int32) rfl D0_155 ?_
          refine g_iand C D0_156 ?_
          refine g_if_eq C D0_157 (fun q10 => ?_) (fun q10 => ?_)
          · refine g_iconst C (0 : Int32) rfl D0_164 ?_
            refine g_callS C (c_pick l hw h0 n0 hn0 xd (0 : Int32)) (wd_0 hw) (wd_1 hw) (wd_2 hw) (wd_3 hw) (by decide) D0_165 pd_9 [(.long xd), (.int (0 : Int32))] [] rfl rfl rfl 0 (Nat.le_of_eq rfl) (by decide) (by decide) (by decide) (by decide) ?_
            rintro _ _ ⟨r, rfl, nr, rfl⟩
            refine g_cast (f' := mkF m 168 #[.val (.long xa), .second, .val (.long xb), .second, .val (.long xc), .second, .val (.long xd), .second, .val (.int sel), .val (.long ia), .second, .val (.int ((ushrI sel (1 : Int32)) &&& (3 : Int32))), .val (.long ib), .second, .val (.int ((ushrI sel (4 : Int32)) &&& (3 : Int32))), .val (.long ic), .second, .val (.int ((ushrI sel (7 : Int32)) &&& (3 : Int32))), .unset, .unset, .unset, .unset, .unset, .unset, .unset] [(.long r)]) rfl ?_
            exact J r nr
          · refine g_iconst C (1 : Int32) rfl D0_160 ?_
            refine g_goto C D0_161 ?_
            refine g_callS C (c_pick l hw h0 n0 hn0 xd (1 : Int32)) (wd_0 hw) (wd_1 hw) (wd_2 hw) (wd_3 hw) (by decide) D0_165 pd_9 [(.long xd), (.int (1 : Int32))] [] rfl rfl rfl 0 (Nat.le_of_eq rfl) (by decide) (by decide) (by decide) (by decide) ?_
            rintro _ _ ⟨r, rfl, nr, rfl⟩
            refine g_cast (f' := mkF m 168 #[.val (.long xa), .second, .val (.long xb), .second, .val (.long xc), .second, .val (.long xd), .second, .val (.int sel), .val (.long ia), .second, .val (.int ((ushrI sel (1 : Int32)) &&& (3 : Int32))), .val (.long ib), .second, .val (.int ((ushrI sel (4 : Int32)) &&& (3 : Int32))), .val (.long ic), .second, .val (.int ((ushrI sel (7 : Int32)) &&& (3 : Int32))), .unset, .unset, .unset, .unset, .unset, .unset, .unset] [(.long r)]) rfl ?_
            exact J r nr
        · refine g_lload C D0_143 rfl ?_
          refine g_goto C D0_145 ?_
          exact J ib nb
      · refine g_lload C D0_132 rfl ?_
        refine g_goto C D0_134 ?_
        exact J ia na
    · refine g_lload C D0_121 rfl ?_
      refine g_goto C D0_123 ?_
      exact J ic nc
  rintro id nd
  refine g_lstore C #[.val (.long xa), .second, .val (.long xb), .second, .val (.long xc), .second, .val (.long xd), .second, .val (.int sel), .val (.long ia), .second, .val (.int ((ushrI sel (1 : Int32)) &&& (3 : Int32))), .val (.long ib), .second, .val (.int ((ushrI sel (4 : Int32)) &&& (3 : Int32))), .val (.long ic), .second, .val (.int ((ushrI sel (7 : Int32)) &&& (3 : Int32))), .val (.long id), .second, .unset, .unset, .unset, .unset, .unset] D0_168 rfl ?_
  refine g_iload C D0_170 rfl ?_
  refine g_bipush C (10 : Int32) rfl D0_172 ?_
  refine g_iushr C D0_174 ?_
  refine g_bipush C (7 : Int32) rfl D0_175 ?_
  refine g_iand C D0_177 ?_
  have b_m := most7 sel
  generalize q_mo : ((ushrI sel (10 : Int32)) &&& (7 : Int32)) = mo
  rw [q_mo] at b_m
  refine g_istore C #[.val (.long xa), .second, .val (.long xb), .second, .val (.long xc), .second, .val (.long xd), .second, .val (.int sel), .val (.long ia), .second, .val (.int ((ushrI sel (1 : Int32)) &&& (3 : Int32))), .val (.long ib), .second, .val (.int ((ushrI sel (4 : Int32)) &&& (3 : Int32))), .val (.long ic), .second, .val (.int ((ushrI sel (7 : Int32)) &&& (3 : Int32))), .val (.long id), .second, .val (.int mo), .unset, .unset, .unset, .unset] D0_178 rfl ?_
  exact law_2 l hw n0 C xa xb xc xd sel ia ib ic id na nb nc nd _ _ _ mo h0 hn0
set_option maxRecDepth 65536 in
set_option maxHeartbeats 40000000 in
theorem comes_1 {Post : Tables → Env → Array Value → State → Outcome → State → Prop} (hpost : ∀ tb e args s v u, (limb_1_1.after args s (.returned v) u = true ∧ limb_1_2.after args s (.returned v) u = true ∧ True) → FrameEnd s (.returned v) u (Jvm.fieldLocs frame_1_writes args s ++ Jvm.arrayLocs frame_1_arrays args s ++ Jvm.staticLocs frame_1_statics s) 32 182080 → Post tb e args s (.returned v) u) :
    ArmFor flags0 classFile x code maxLocals ret World_1 tables_1 room_1 Calls_1 rest_1 Pre_1 Post := by
  intro l hfl _ _ p e ha hc hk s m args below hf hA hF happ hP
  obtain ⟨hcalls, hrest, hpre⟩ := hP
  obtain ⟨-, -, -, hnamed, -, -, -, hat⟩ := (Spec.applies_iff hf).mp happ
  obtain ⟨hg, hn⟩ := and_e (Cond.before_iff.mp (show (Jvm.Cond.and given_1 narrow_1).before args s = true from hpre))
  obtain ⟨gc, g0⟩ := and_e hg
  obtain ⟨ga0, g1⟩ := and_e g0
  obtain ⟨ga1, g2⟩ := and_e g1
  obtain ⟨ga2, g3⟩ := and_e g2
  obtain ⟨ga3, g4⟩ := and_e g3
  have ga4 := g4
  obtain ⟨w0, w1, w2, w3, w4, rfl⟩ : ∃ w0 w1 w2 w3 w4 : Value, args = #[w0, w1, w2, w3, w4] := by
    have hs : args.size = 5 := by simpa [Cond.value, given_1] using gc
    obtain ⟨L⟩ := args
    match L, hs with
    | [w0, w1, w2, w3, w4], _ => exact ⟨w0, w1, w2, w3, w4, rfl⟩
  have hw := fun d (hd : d ∈ tables_1) => atoms_spec (ws := Jvm.Cond.code x code maxLocals ret :: tables_1) hat d (List.mem_cons_of_mem _ hd)
  obtain ⟨i0, ei0⟩ := isL_v ga0
  obtain rfl : w0 = (.long i0) := Option.some.inj ei0
  obtain ⟨i1, ei1⟩ := isL_v ga1
  obtain rfl : w1 = (.long i1) := Option.some.inj ei1
  obtain ⟨i2, ei2⟩ := isL_v ga2
  obtain rfl : w2 = (.long i2) := Option.some.inj ei2
  obtain ⟨i3, ei3⟩ := isL_v ga3
  obtain rfl : w3 = (.long i3) := Option.some.inj ei3
  obtain ⟨i4, ei4⟩ := is_v ga4
  obtain rfl : w4 = (.int i4) := Option.some.inj ei4
  obtain ⟨n, o, h1, h2, h3, _, L, rfl, ⟨⟨rfl, _⟩, N⟩, hq⟩ := c_law l hw tables_1 s.heap s.heap.size (Nat.le_refl _) i0 i1 i2 i3 i4 p e ha hc hk s m _ below hf ((Spec.applies_iff_loose hf).mp happ).1 ⟨rfl, State.Warmed39.refl s, rfl⟩ trivial
  refine ⟨n, _, h1, h2, h3, hpost _ _ _ _ _ _ ⟨Cond.after_iff.mpr rfl, Cond.after_iff.mpr (eq_i res_at (Term.int_eval (1)) rfl), trivial⟩ ⟨hq.1, hq.2.1, (hq.2.2.sift fun y hy => Or.inr (N y hy)).mono (by decide) (by decide)⟩⟩
theorem main_1_1 : Claimed_1_1 := comes_1 fun _ _ _ _ _ _ h hF => ⟨h.1, hF⟩
theorem main_1_2 : Claimed_1_2 := comes_1 fun _ _ _ _ _ _ h hF => ⟨h.2.1, hF⟩
end Jvm.Pilot.@@N@@
namespace Jvm.Pilot.@@N@@
open Jvm Jvm.ClassFile Sem Op Lib Jvm.Free Jvm.Stand Jvm.Pilot.@@N@@.Jvm.D
/-! MADE BY PROGRAM (witnessworld.py) out of the Statement's table words and the real class files: 14 classes; the members and pool entries that the words name. The judged class is class 1, her method 1. -/
namespace start1
open Jvm.ClassFile
def u (s : String) : CpInfo := .utf8 (stringToUtf16 s)
/-- a pool by its gaps: so many unusable entries, then the entry; so many at the end -/
def gap : Nat → List CpInfo → List CpInfo
  | 0, r => r
  | n + 1, r => .unusable :: gap n r
def poolList (es : List (Nat × CpInfo)) (last : Nat) : List CpInfo := es.foldr (fun e r => gap e.1 (e.2 :: r)) (gap last [])
def pool (es : List (Nat × CpInfo)) (last : Nat) : Array CpInfo := ⟨poolList es last⟩
def fileOf (pool : Array CpInfo) (this : Nat) (attrs : Array Attribute := #[]) (ms : Array MethodInfo := #[]) (fl : Nat := 33) (sup : Nat := 0) (ifs : Array Nat := #[]) (fds : Array FieldInfo := #[]) : ClassFile where
  minorVersion := 0
  majorVersion := 65
  constantPool := pool
  accessFlags := fl
  thisClass := this
  superClass := sup
  interfaces := ifs
  fields := fds
  methods := ms
  attributes := attrs
def plain (name : String) (sup : Option ClassId) : Class where
  name := name
  kind := .ordinary
  loader := none
  accessFlags := 33
  super := sup
  interfaces := #[]
  cf := none
  fields := #[]
  methods := #[]
  instanceTypes := #[]
  staticTypes := #[]
  resolved := #[]
  callSites := []
  init := .initialized
  statics := none
  mirror := none

def pool0 : Array CpInfo := pool [(5, u "<init>"), (0, u "()V"), (1, .class_ 10), (1, u "java/lang/Object")] 113

def k0c0 : Code := { maxStack := 0, maxLocals := 1, code := object_method_1_code, exceptionTable := #[], attributes := #[] }
def k0m0 : Method := { name := "<init>", desc := "()V", sig := { parameters := [], returnType := none }, accessFlags := 1, code := some k0c0 }
/-- java/lang/Object -/
def k0 : Class := { plain "java/lang/Object" none with
  accessFlags := 33
  interfaces := #[]
  cf := some (fileOf pool0 8 #[] #[{ accessFlags := 1, nameIndex := 5, descriptorIndex := 6, attributes := #[] }] 33 0 #[] #[])
  fields := #[]
  methods := #[k0m0]
  instanceTypes := #[]
  staticTypes := #[]
  resolved := Array.replicate 124 none
  statics := none }

def pool1 : Array CpInfo := pool [(2, .class_ 4), (1, u "java/lang/Object"), (0, u "<init>"), (0, u "()V"), (0, .methodref 8 9), (0, .class_ 10), (0, .nameAndType 11 12), (0, u "com/example/grawl/grawl/graph/IdIndexIdsPinLaw"), (0, u "pick"), (0, u "(JZ)J"), (0, .class_ 14), (0, u "com/example/grawl/grawl/graph/IdIndex"), (0, .methodref 13 16), (0, .nameAndType 5 17), (0, u "(I)V"), (0, .methodref 13 19), (0, .nameAndType 20 21), (0, u "add"), (0, u "(J)I"), (0, .methodref 13 23), (0, .nameAndType 24 25), (0, u "ids"), (0, u "()[J"), (0, .methodref 8 27), (0, .nameAndType 28 29), (0, u "step"), (0, u "([JIJI)I"), (0, .long 131071), (3, .long 9223372036854775807), (3, u "law"), (0, u "(JJJJI)Z")] 5

def k1m0 : Method := { name := "<init>", desc := "()V", sig := { parameters := [], returnType := none }, accessFlags := 2, code := none }
def k1c1 : Code := { maxStack := 5, maxLocals := 25, code := code, exceptionTable := #[], attributes := #[] }
def k1m1 : Method := { name := "law", desc := "(JJJJI)Z", sig := { parameters := [.long, .long, .long, .long, .int], returnType := some .boolean }, accessFlags := 9, code := some k1c1 }
def k1c2 : Code := { maxStack := 4, maxLocals := 3, code := method_3_code, exceptionTable := #[], attributes := #[] }
def k1m2 : Method := { name := "pick", desc := "(JZ)J", sig := { parameters := [.long, .boolean], returnType := some .long }, accessFlags := 10, code := some k1c2 }
def k1c3 : Code := { maxStack := 4, maxLocals := 6, code := method_4_code, exceptionTable := #[], attributes := #[] }
def k1m3 : Method := { name := "step", desc := "([JIJI)I", sig := { parameters := [(.array .long), .int, .long, .int], returnType := some .int }, accessFlags := 10, code := some k1c3 }
/-- com/example/grawl/grawl/graph/IdIndexIdsPinLaw -/
def k1 : Class := { plain "com/example/grawl/grawl/graph/IdIndexIdsPinLaw" (some 0) with
  accessFlags := 49
  interfaces := #[]
  cf := some (fileOf pool1 8 #[] #[{ accessFlags := 2, nameIndex := 5, descriptorIndex := 6, attributes := #[] }, { accessFlags := 9, nameIndex := 38, descriptorIndex := 39, attributes := #[] }, { accessFlags := 10, nameIndex := 11, descriptorIndex := 12, attributes := #[] }, { accessFlags := 10, nameIndex := 28, descriptorIndex := 29, attributes := #[] }] 49 2 #[] #[])
  fields := #[]
  methods := #[k1m0, k1m1, k1m2, k1m3]
  instanceTypes := #[]
  staticTypes := #[]
  resolved := Array.replicate 45 none
  statics := none }

def pool2 : Array CpInfo := pool [(1, .methodref 2 3), (0, .class_ 4), (0, .nameAndType 5 6), (0, u "java/lang/Object"), (0, u "<init>"), (0, u "()V"), (0, .fieldref 8 9), (0, .class_ 10), (0, .nameAndType 11 12), (0, u "com/example/grawl/grawl/graph/IdIndex"), (0, u "direct"), (0, u "[I"), (0, .methodref 8 14), (0, .nameAndType 15 16), (0, u "emptyPlaces"), (0, u "(I)[J"), (0, .fieldref 8 18), (0, .nameAndType 19 20), (0, u "ids"), (0, u "[J"), (0, .fieldref 8 22), (0, .nameAndType 23 12), (0, u "numbers"), (0, .fieldref 8 25), (0, .nameAndType 26 27), (0, u "most"), (0, u "I"), (0, .methodref 8 29), (0, .nameAndType 30 31), (0, u "get"), (0, u "(J)I"), (0, .fieldref 8 33), (0, .nameAndType 34 27), (0, u "count"), (2, .long 2147483639), (1, .long 4), (1, .long 65536), (1, .methodref 44 45), (0, .class_ 46), (0, .nameAndType 47 48), (0, u "java/lang/Math"), (0, u "min"), (0, u "(JJ)J"), (0, .long 16), (1, .long 2), (1, .methodref 44 54), (0, .nameAndType 55 48), (0, u "max"), (0, .methodref 8 57), (0, .nameAndType 58 59), (0, u "growDirect"), (0, u "(I)V"), (0, .methodref 8 61), (0, .nameAndType 62 63), (0, u "hash"), (0, u "(JI)V"), (0, .fieldref 8 65), (0, .nameAndType 66 27), (0, u "hashed"), (0, .methodref 8 68), (0, .nameAndType 69 70), (0, u "placeOf"), (0, u "(JI)I"), (0, .long 18446744073709551615), (1, .methodref 74 75), (0, .class_ 76), (0, .nameAndType 77 78), (0, u "java/util/Arrays"), (0, u "copyOf"), (0, u "([II)[I"), (0, .integer 2147483639), (7, .long 11400714819323198485), (1, .methodref 74 90), (0, .nameAndType 91 92), (0, u "fill"), (0, u "([JJ)V"), (0, u "EMPTY"), (0, u "J"), (1, u "SPREAD"), (0, u "FIRST_PLACES"), (1, u "LEAST_DIRECT"), (3, u "add"), (2, u "()[J")] 6

def k2c0 : Code := { maxStack := 2, maxLocals := 2, code := prog_29_method_1_code, exceptionTable := #[], attributes := #[] }
def k2m0 : Method := { name := "<init>", desc := "(I)V", sig := { parameters := [.int], returnType := none }, accessFlags := 0, code := some k2c0 }
def k2c1 : Code := { maxStack := 8, maxLocals := 8, code := prog_29_method_2_code, exceptionTable := #[], attributes := #[] }
def k2m1 : Method := { name := "add", desc := "(J)I", sig := { parameters := [.long], returnType := some .int }, accessFlags := 0, code := some k2c1 }
def k2c2 : Code := { maxStack := 4, maxLocals := 7, code := prog_29_method_3_code, exceptionTable := #[], attributes := #[] }
def k2m2 : Method := { name := "get", desc := "(J)I", sig := { parameters := [.long], returnType := some .int }, accessFlags := 0, code := some k2c2 }
def k2c3 : Code := { maxStack := 4, maxLocals := 3, code := prog_29_method_5_code, exceptionTable := #[], attributes := #[] }
def k2m3 : Method := { name := "ids", desc := "()[J", sig := { parameters := [], returnType := some (.array .long) }, accessFlags := 0, code := some k2c3 }
def k2c4 : Code := { maxStack := 4, maxLocals := 5, code := prog_29_method_7_code, exceptionTable := #[], attributes := #[] }
def k2m4 : Method := { name := "growDirect", desc := "(I)V", sig := { parameters := [.int], returnType := none }, accessFlags := 2, code := some k2c4 }
def k2c5 : Code := { maxStack := 4, maxLocals := 5, code := prog_29_method_8_code, exceptionTable := #[], attributes := #[] }
def k2m5 : Method := { name := "hash", desc := "(JI)V", sig := { parameters := [.long, .int], returnType := none }, accessFlags := 2, code := some k2c5 }
def k2c6 : Code := { maxStack := 4, maxLocals := 3, code := prog_29_method_10_code, exceptionTable := #[], attributes := #[] }
def k2m6 : Method := { name := "placeOf", desc := "(JI)I", sig := { parameters := [.long, .int], returnType := some .int }, accessFlags := 10, code := some k2c6 }
def k2c7 : Code := { maxStack := 3, maxLocals := 2, code := prog_29_method_11_code, exceptionTable := #[], attributes := #[] }
def k2m7 : Method := { name := "emptyPlaces", desc := "(I)[J", sig := { parameters := [.int], returnType := some (.array .long) }, accessFlags := 10, code := some k2c7 }
/-- com/example/grawl/grawl/graph/IdIndex -/
def k2 : Class := { plain "com/example/grawl/grawl/graph/IdIndex" (some 0) with
  accessFlags := 48
  interfaces := #[]
  cf := some (fileOf pool2 8 #[] #[{ accessFlags := 0, nameIndex := 5, descriptorIndex := 59, attributes := #[] }, { accessFlags := 0, nameIndex := 103, descriptorIndex := 31, attributes := #[] }, { accessFlags := 0, nameIndex := 30, descriptorIndex := 31, attributes := #[] }, { accessFlags := 0, nameIndex := 19, descriptorIndex := 106, attributes := #[] }, { accessFlags := 2, nameIndex := 58, descriptorIndex := 59, attributes := #[] }, { accessFlags := 2, nameIndex := 62, descriptorIndex := 63, attributes := #[] }, { accessFlags := 10, nameIndex := 69, descriptorIndex := 70, attributes := #[] }, { accessFlags := 10, nameIndex := 15, descriptorIndex := 16, attributes := #[] }] 48 2 #[] #[{ accessFlags := 26, nameIndex := 93, descriptorIndex := 94, attributes := #[] }, { accessFlags := 26, nameIndex := 96, descriptorIndex := 94, attributes := #[] }, { accessFlags := 26, nameIndex := 97, descriptorIndex := 27, attributes := #[] }, { accessFlags := 26, nameIndex := 99, descriptorIndex := 27, attributes := #[] }, { accessFlags := 18, nameIndex := 26, descriptorIndex := 27, attributes := #[] }, { accessFlags := 2, nameIndex := 11, descriptorIndex := 12, attributes := #[] }, { accessFlags := 2, nameIndex := 19, descriptorIndex := 20, attributes := #[] }, { accessFlags := 2, nameIndex := 23, descriptorIndex := 12, attributes := #[] }, { accessFlags := 2, nameIndex := 66, descriptorIndex := 27, attributes := #[] }, { accessFlags := 2, nameIndex := 34, descriptorIndex := 27, attributes := #[] }])
  fields := #[{ name := "EMPTY", type := .long, accessFlags := 26, slot := 0, constantValue := 0 }, { name := "SPREAD", type := .long, accessFlags := 26, slot := 1, constantValue := 0 }, { name := "FIRST_PLACES", type := .int, accessFlags := 26, slot := 2, constantValue := 0 }, { name := "LEAST_DIRECT", type := .int, accessFlags := 26, slot := 3, constantValue := 0 }, { name := "most", type := .int, accessFlags := 18, slot := 0, constantValue := 0 }, { name := "direct", type := (.array .int), accessFlags := 2, slot := 1, constantValue := 0 }, { name := "ids", type := (.array .long), accessFlags := 2, slot := 2, constantValue := 0 }, { name := "numbers", type := (.array .int), accessFlags := 2, slot := 3, constantValue := 0 }, { name := "hashed", type := .int, accessFlags := 2, slot := 4, constantValue := 0 }, { name := "count", type := .int, accessFlags := 2, slot := 5, constantValue := 0 }]
  methods := #[k2m0, k2m1, k2m2, k2m3, k2m4, k2m5, k2m6, k2m7]
  instanceTypes := #[.int, (.array .int), (.array .long), (.array .int), .int, .int]
  staticTypes := #[.long, .long, .int, .int]
  resolved := Array.replicate 113 none
  statics := none }

def pool3 : Array CpInfo := pool [(2, .class_ 4), (1, u "java/lang/Object"), (0, u "<init>"), (0, u "()V"), (7, .class_ 16), (1, u "java/util/Arrays"), (57, .class_ 76), (1, u "java/util/Arrays$NaturalOrder"), (36, .class_ 115), (1, u "java/util/Arrays$LegacyMergeSort"), (1, u "Z"), (32, .methodref 151 152), (0, .class_ 153), (0, .nameAndType 154 155), (0, u "java/lang/System"), (0, u "arraycopy"), (0, u "(Ljava/lang/Object;ILjava/lang/Object;II)V"), (146, u "copyOf"), (1, .methodref 305 306), (0, .class_ 307), (0, .nameAndType 308 309), (0, u "java/lang/Math"), (0, u "min"), (0, u "(II)I"), (65, .class_ 376), (0, u "java/util/Arrays$ArrayList"), (68, u "$assertionsDisabled"), (269, u "MIN_ARRAY_SORT_GRAN"), (0, u "I"), (2, u "INSERTIONSORT_THRESHOLD"), (120, u "fill"), (0, u "([JJ)V"), (29, u "([II)[I"), (103, .class_ 976), (0, u "java/util/Arrays$ArrayItr")] 52

def k3m0 : Method := { name := "<init>", desc := "()V", sig := { parameters := [], returnType := none }, accessFlags := 2, code := none }
def k3c1 : Code := { maxStack := 4, maxLocals := 5, code := jdk_65_method_101_code, exceptionTable := #[], attributes := #[] }
def k3m1 : Method := { name := "fill", desc := "([JJ)V", sig := { parameters := [(.array .long), .long], returnType := none }, accessFlags := 9, code := some k3c1 }
def k3c2 : Code := { maxStack := 6, maxLocals := 3, code := jdk_65_method_123_code, exceptionTable := #[], attributes := #[] }
def k3m2 : Method := { name := "copyOf", desc := "([II)[I", sig := { parameters := [(.array .int), .int], returnType := some (.array .int) }, accessFlags := 9, code := some k3c2 }
/-- java/util/Arrays -/
def k3 : Class := { plain "java/util/Arrays" (some 0) with
  accessFlags := 49
  interfaces := #[]
  cf := some (fileOf pool3 14 #[.nestMembers #[975, 375, 113, 74]] #[{ accessFlags := 2, nameIndex := 5, descriptorIndex := 6, attributes := #[] }, { accessFlags := 9, nameIndex := 840, descriptorIndex := 841, attributes := #[] }, { accessFlags := 9, nameIndex := 302, descriptorIndex := 871, attributes := #[] }] 49 2 #[] #[{ accessFlags := 26, nameIndex := 715, descriptorIndex := 716, attributes := #[] }, { accessFlags := 26, nameIndex := 719, descriptorIndex := 716, attributes := #[] }, { accessFlags := 4120, nameIndex := 445, descriptorIndex := 117, attributes := #[] }])
  fields := #[{ name := "MIN_ARRAY_SORT_GRAN", type := .int, accessFlags := 26, slot := 0, constantValue := 0 }, { name := "INSERTIONSORT_THRESHOLD", type := .int, accessFlags := 26, slot := 1, constantValue := 0 }, { name := "$assertionsDisabled", type := .boolean, accessFlags := 4120, slot := 2, constantValue := 0 }]
  methods := #[k3m0, k3m1, k3m2]
  instanceTypes := #[]
  staticTypes := #[.int, .int, .boolean]
  resolved := Array.replicate 1029 none
  statics := none }

def pool4 : Array CpInfo := pool [(1, .class_ 2), (0, u "java/lang/Math"), (1, .class_ 6), (1, u "java/lang/Object"), (0, u "<init>"), (0, u "()V"), (89, .class_ 100), (1, u "java/lang/Math$RandomNumberGeneratorHolder"), (20, u "(JJ)J"), (50, u "negativeZeroFloatBits"), (0, u "J"), (2, u "negativeZeroDoubleBits"), (21, u "max"), (2, u "min"), (43, u "$assertionsDisabled"), (0, u "Z"), (88, u "(II)I"), (2, u "twoToTheDoubleScaleDown"), (0, u "D"), (4, u "twoToTheDoubleScaleUp"), (9, u "E"), (3, u "PI"), (2, u "TAU"), (2, u "DEGREES_TO_RADIANS"), (0, u "RADIANS_TO_DEGREES")] 94

def k4m0 : Method := { name := "<init>", desc := "()V", sig := { parameters := [], returnType := none }, accessFlags := 2, code := none }
def k4c1 : Code := { maxStack := 4, maxLocals := 4, code := jdk_29_method_66_code, exceptionTable := #[], attributes := #[] }
def k4m1 : Method := { name := "max", desc := "(JJ)J", sig := { parameters := [.long, .long], returnType := some .long }, accessFlags := 9, code := some k4c1 }
def k4c2 : Code := { maxStack := 2, maxLocals := 2, code := jdk_29_method_69_code, exceptionTable := #[], attributes := #[] }
def k4m2 : Method := { name := "min", desc := "(II)I", sig := { parameters := [.int, .int], returnType := some .int }, accessFlags := 9, code := some k4c2 }
def k4c3 : Code := { maxStack := 4, maxLocals := 4, code := jdk_29_method_70_code, exceptionTable := #[], attributes := #[] }
def k4m3 : Method := { name := "min", desc := "(JJ)J", sig := { parameters := [.long, .long], returnType := some .long }, accessFlags := 9, code := some k4c3 }
/-- java/lang/Math -/
def k4 : Class := { plain "java/lang/Math" (some 0) with
  accessFlags := 49
  interfaces := #[]
  cf := some (fileOf pool4 1 #[.nestMembers #[98]] #[{ accessFlags := 2, nameIndex := 7, descriptorIndex := 8, attributes := #[] }, { accessFlags := 9, nameIndex := 198, descriptorIndex := 121, attributes := #[] }, { accessFlags := 9, nameIndex := 201, descriptorIndex := 335, attributes := #[] }, { accessFlags := 9, nameIndex := 201, descriptorIndex := 121, attributes := #[] }] 49 4 #[] #[{ accessFlags := 25, nameIndex := 354, descriptorIndex := 339, attributes := #[] }, { accessFlags := 25, nameIndex := 358, descriptorIndex := 339, attributes := #[] }, { accessFlags := 25, nameIndex := 361, descriptorIndex := 339, attributes := #[] }, { accessFlags := 26, nameIndex := 364, descriptorIndex := 339, attributes := #[] }, { accessFlags := 26, nameIndex := 365, descriptorIndex := 339, attributes := #[] }, { accessFlags := 26, nameIndex := 172, descriptorIndex := 173, attributes := #[] }, { accessFlags := 26, nameIndex := 176, descriptorIndex := 173, attributes := #[] }, { accessFlags := 8, nameIndex := 344, descriptorIndex := 339, attributes := #[] }, { accessFlags := 8, nameIndex := 338, descriptorIndex := 339, attributes := #[] }, { accessFlags := 4120, nameIndex := 245, descriptorIndex := 246, attributes := #[] }])
  fields := #[{ name := "E", type := .double, accessFlags := 25, slot := 0, constantValue := 0 }, { name := "PI", type := .double, accessFlags := 25, slot := 1, constantValue := 0 }, { name := "TAU", type := .double, accessFlags := 25, slot := 2, constantValue := 0 }, { name := "DEGREES_TO_RADIANS", type := .double, accessFlags := 26, slot := 3, constantValue := 0 }, { name := "RADIANS_TO_DEGREES", type := .double, accessFlags := 26, slot := 4, constantValue := 0 }, { name := "negativeZeroFloatBits", type := .long, accessFlags := 26, slot := 5, constantValue := 0 }, { name := "negativeZeroDoubleBits", type := .long, accessFlags := 26, slot := 6, constantValue := 0 }, { name := "twoToTheDoubleScaleUp", type := .double, accessFlags := 8, slot := 7, constantValue := 0 }, { name := "twoToTheDoubleScaleDown", type := .double, accessFlags := 8, slot := 8, constantValue := 0 }, { name := "$assertionsDisabled", type := .boolean, accessFlags := 4120, slot := 9, constantValue := 0 }]
  methods := #[k4m0, k4m1, k4m2, k4m3]
  instanceTypes := #[]
  staticTypes := #[.double, .double, .double, .double, .double, .long, .long, .double, .double, .boolean]
  resolved := Array.replicate 460 none
  statics := none }

def pool5 : Array CpInfo := pool [(2, .class_ 4), (1, u "java/lang/Object"), (0, u "<init>"), (0, u "()V"), (1, .class_ 10), (1, u "java/lang/System"), (0, u "allowSecurityManager"), (0, u "I"), (16, u "cons"), (0, u "Ljava/io/Console;"), (77, .class_ 110), (1, u "java/lang/System$CallersHolder"), (43, u "initialErrStream"), (0, u "Ljava/io/PrintStream;"), (19, u "security"), (0, u "Ljava/lang/SecurityManager;"), (31, .class_ 209), (0, u "java/lang/System$1"), (7, u "props"), (0, u "Ljava/util/Properties;"), (2, u "lineSeparator"), (0, u "Ljava/lang/String;"), (96, .class_ 321), (1, u "java/lang/System$LoggerFinder"), (5, .class_ 328), (0, u "java/lang/System$Logger"), (67, u "err"), (2, u "out"), (91, u "notSupportedJnuEncoding"), (15, u "in"), (17, u "initialIn"), (0, u "Ljava/io/InputStream;"), (35, u "bootLayer"), (0, u "Ljava/lang/ModuleLayer;"), (99, .class_ 664), (0, u "java/lang/System$2"), (9, u "NEVER"), (2, u "MAYBE"), (49, u "arraycopy"), (0, u "(Ljava/lang/Object;ILjava/lang/Object;II)V"), (72, .class_ 802), (0, u "java/lang/System$Logger$Level")] 31

def k5m0 : Method := { name := "<init>", desc := "()V", sig := { parameters := [], returnType := none }, accessFlags := 2, code := none }
def k5m1 : Method := { name := "arraycopy", desc := "(Ljava/lang/Object;ILjava/lang/Object;II)V", sig := { parameters := [(.object "java/lang/Object"), .int, (.object "java/lang/Object"), .int, .int], returnType := none }, accessFlags := 265, code := none }
/-- java/lang/System -/
def k5 : Class := { plain "java/lang/System" (some 0) with
  accessFlags := 49
  interfaces := #[]
  cf := some (fileOf pool5 8 #[.nestMembers #[319, 327, 801, 108, 663, 208]] #[{ accessFlags := 2, nameIndex := 5, descriptorIndex := 6, attributes := #[] }, { accessFlags := 265, nameIndex := 727, descriptorIndex := 728, attributes := #[] }] 49 2 #[] #[{ accessFlags := 25, nameIndex := 507, descriptorIndex := 526, attributes := #[] }, { accessFlags := 25, nameIndex := 399, descriptorIndex := 155, attributes := #[] }, { accessFlags := 25, nameIndex := 396, descriptorIndex := 155, attributes := #[] }, { accessFlags := 10, nameIndex := 525, descriptorIndex := 526, attributes := #[] }, { accessFlags := 26, nameIndex := 674, descriptorIndex := 12, attributes := #[] }, { accessFlags := 26, nameIndex := 677, descriptorIndex := 12, attributes := #[] }, { accessFlags := 10, nameIndex := 11, descriptorIndex := 12, attributes := #[] }, { accessFlags := 74, nameIndex := 175, descriptorIndex := 176, attributes := #[] }, { accessFlags := 10, nameIndex := 491, descriptorIndex := 222, attributes := #[] }, { accessFlags := 74, nameIndex := 29, descriptorIndex := 30, attributes := #[] }, { accessFlags := 74, nameIndex := 154, descriptorIndex := 155, attributes := #[] }, { accessFlags := 10, nameIndex := 217, descriptorIndex := 218, attributes := #[] }, { accessFlags := 10, nameIndex := 221, descriptorIndex := 222, attributes := #[] }, { accessFlags := 8, nameIndex := 562, descriptorIndex := 563, attributes := #[] }])
  fields := #[{ name := "in", type := (.object "java/io/InputStream"), accessFlags := 25, slot := 0, constantValue := 0 }, { name := "out", type := (.object "java/io/PrintStream"), accessFlags := 25, slot := 1, constantValue := 0 }, { name := "err", type := (.object "java/io/PrintStream"), accessFlags := 25, slot := 2, constantValue := 0 }, { name := "initialIn", type := (.object "java/io/InputStream"), accessFlags := 10, slot := 3, constantValue := 0 }, { name := "NEVER", type := .int, accessFlags := 26, slot := 4, constantValue := 0 }, { name := "MAYBE", type := .int, accessFlags := 26, slot := 5, constantValue := 0 }, { name := "allowSecurityManager", type := .int, accessFlags := 10, slot := 6, constantValue := 0 }, { name := "security", type := (.object "java/lang/SecurityManager"), accessFlags := 74, slot := 7, constantValue := 0 }, { name := "notSupportedJnuEncoding", type := (.object "java/lang/String"), accessFlags := 10, slot := 8, constantValue := 0 }, { name := "cons", type := (.object "java/io/Console"), accessFlags := 74, slot := 9, constantValue := 0 }, { name := "initialErrStream", type := (.object "java/io/PrintStream"), accessFlags := 74, slot := 10, constantValue := 0 }, { name := "props", type := (.object "java/util/Properties"), accessFlags := 10, slot := 11, constantValue := 0 }, { name := "lineSeparator", type := (.object "java/lang/String"), accessFlags := 10, slot := 12, constantValue := 0 }, { name := "bootLayer", type := (.object "java/lang/ModuleLayer"), accessFlags := 8, slot := 13, constantValue := 0 }]
  methods := #[k5m0, k5m1]
  instanceTypes := #[]
  staticTypes := #[(.object "java/io/InputStream"), (.object "java/io/PrintStream"), (.object "java/io/PrintStream"), (.object "java/io/InputStream"), .int, .int, .int, (.object "java/lang/SecurityManager"), (.object "java/lang/String"), (.object "java/io/Console"), (.object "java/io/PrintStream"), (.object "java/util/Properties"), (.object "java/lang/String"), (.object "java/lang/ModuleLayer")]
  resolved := Array.replicate 834 none
  statics := none }

def pool6 : Array CpInfo := pool [(1, u "java/lang/Cloneable"), (0, .class_ 1), (0, u "java/lang/Object"), (0, .class_ 3)] 3

/-- java/lang/Cloneable -/
def k6 : Class := { plain "java/lang/Cloneable" (some 0) with
  accessFlags := 1537
  interfaces := #[]
  cf := some (fileOf pool6 2 #[] #[] 1537 4 #[] #[])
  fields := #[]
  methods := #[]
  instanceTypes := #[]
  staticTypes := #[]
  resolved := Array.replicate 8 none
  statics := none }

def pool7 : Array CpInfo := pool [(1, u "java/io/Serializable"), (0, .class_ 1), (0, u "java/lang/Object"), (0, .class_ 3)] 3

/-- java/io/Serializable -/
def k7 : Class := { plain "java/io/Serializable" (some 0) with
  accessFlags := 1537
  interfaces := #[]
  cf := some (fileOf pool7 2 #[] #[] 1537 4 #[] #[])
  fields := #[]
  methods := #[]
  instanceTypes := #[]
  staticTypes := #[]
  resolved := Array.replicate 8 none
  statics := none }

/-- the primitive byte -/
def k8 : Class := { plain "byte" none with kind := .primitive 'B', accessFlags := 0x411 }
/-- [B -/
def k9 : Class := { plain "[B" (some 0) with kind := .array 8 .byte, interfaces := #[6, 7], accessFlags := 1041 }

/-- the primitive int -/
def k10 : Class := { plain "int" none with kind := .primitive 'I', accessFlags := 0x411 }
/-- [I -/
def k11 : Class := { plain "[I" (some 0) with kind := .array 10 .int, interfaces := #[6, 7], accessFlags := 1041 }

/-- the primitive long -/
def k12 : Class := { plain "long" none with kind := .primitive 'J', accessFlags := 0x411 }
/-- [J -/
def k13 : Class := { plain "[J" (some 0) with kind := .array 12 .long, interfaces := #[6, 7], accessFlags := 1041 }

def heap : Heap := #[]
def classes : Array Class := #[k0, k1, k2, k3, k4, k5, k6, k7, k8, k9, k10, k11, k12, k13]
def interned : List (Array UInt16 × Addr) := []
def slotsUsed : Nat := 0
def theMethod : MethodId := ⟨1, 1⟩
def args0 : Array Value := #[.long 5, .long 5, .long 5, .long 5, .int 5]
def aboutOver (below : List Frame) : State where
  vm := { classes := classes, interned := interned.toArray }
  heap := heap
  slotsUsed := slotsUsed
  threads := #[{ frames := .invoking theMethod args0 :: below }]
def below0 : List Frame := [.native { method := ⟨0, 0⟩, args := #[] }]
def about1 : State := aboutOver below0
def p0 : Program := .bare "" "" ""
def e0 : Env := launch0.env 0 0 0
theorem w_frames : about1.frames = Frame.invoking theMethod args0 :: below0 := rfl
set_option maxRecDepth 65536 in
theorem w_args : argsFit about1.vm theMethod args0 = true := by decide +kernel
set_option maxRecDepth 65536 in
theorem w_heap : heapFits about1 = true := by decide +kernel
set_option maxRecDepth 65536 in
theorem w_runnable : about1.curStatus? = some .runnable := by decide +kernel
set_option maxRecDepth 65536 in
theorem w_alone : about1.alone = true := by decide +kernel
set_option maxRecDepth 65536 in
theorem w_named : about1.methodNamed? x = some theMethod := by decide +kernel
set_option maxRecDepth 65536 in
theorem w_hears : about1.hears theMethod below0 = true := by decide +kernel
set_option maxRecDepth 65536 in
theorem w_ripe : about1.ripe theMethod args0 below0 = true := by decide +kernel
theorem w_running : about1.status = .running := rfl
set_option maxRecDepth 65536 in
theorem w_room : about1.hasRoom e0.platform room_1 = true :=
  launch0.hasRoom_least _ room_1 (by decide +kernel) (by decide +kernel) (by decide +kernel) (by decide +kernel) (by decide +kernel) (by decide +kernel)
theorem allAtoms_all (ts : List Jvm.Cond) (a : Array Jvm.Value) (st : Jvm.State) : (allAtoms ts).before a st = ts.all (fun c => c.before a st) := by
  induction ts with
  | nil => rfl
  | cons c t ih =>
    show (Jvm.Cond.and c (allAtoms t)).before a st = _
    rw [Jvm.Cond.before_and, ih, List.all_cons]
def words1 : List Jvm.Cond := Jvm.Cond.code x code maxLocals ret :: tables_1
/-- a 'code' word, met by the world's own term for the bytes: nothing is compared byte by byte -/
theorem code_word {y : MethodName} {bytes : ByteArray} {mx : Nat} {rt : Option FieldType} {a : Array Value} {s : State} {m : MethodId} {meth : Method} {c : Code} (h1 : s.methodNamed? y = some m) (h2 : s.vm.method? m = some meth) (h3 : meth.code = some c) (h4 : c.code = bytes)
    (h5 : (c.maxLocals == mx && c.exceptionTable.isEmpty && decide (c.maxStack ≤ mostOperands) && decide (meth.sig.returnType = rt) && !meth.locks && decide (parseMethodDescriptor y.desc = some meth.sig)) = true) : (Jvm.Cond.code y bytes mx rt).before a s = true := by
  simp only [Bool.and_eq_true, beq_iff_eq, Bool.not_eq_true', decide_eq_true_eq] at h5
  obtain ⟨⟨⟨⟨⟨g1, g2⟩, g3⟩, g4⟩, g5⟩, g6⟩ := h5
  simp [Cond.before, Cond.holds, Cond.value, h1, h2, h3, h4, g1, g2, g3, g4, g5, g6]
def isCode : Jvm.Cond → Bool
  | .code _ _ _ _ => true
  | _ => false
theorem all_split {L : List Jvm.Cond} {P : Jvm.Cond → Bool} (h1 : L.all (fun c => isCode c || P c) = true) (h2 : ∀ c ∈ L.filter isCode, P c = true) : L.all P = true := by
  refine List.all_eq_true.mpr fun c hc => ?_
  have h := List.all_eq_true.mp h1 c hc
  rcases Bool.eq_false_or_eq_true (isCode c) with hi | hi
  · exact h2 c (List.mem_filter.mpr ⟨hc, hi⟩)
  · simpa [hi] using h
set_option maxRecDepth 65536 in
theorem w_c0 : (Jvm.Cond.code x code maxLocals ret).before args0 about1 = true := code_word (m := ⟨1, 1⟩) (meth := k1m1) (c := k1c1) (by decide +kernel) rfl rfl rfl (by decide +kernel)
set_option maxRecDepth 65536 in
theorem w_c1 : (Jvm.Cond.code ({ cls := "com/example/grawl/grawl/graph/IdIndexIdsPinLaw", name := "pick", desc := "(JZ)J" } : Jvm.MethodName) method_3_code (3 : Nat) (Option.some Jvm.ClassFile.FieldType.long)).before args0 about1 = true := code_word (m := ⟨1, 2⟩) (meth := k1m2) (c := k1c2) (by decide +kernel) rfl rfl rfl (by decide +kernel)
set_option maxRecDepth 65536 in
theorem w_c2 : (Jvm.Cond.code ({ cls := "com/example/grawl/grawl/graph/IdIndex", name := "<init>", desc := "(I)V" } : Jvm.MethodName) prog_29_method_1_code (2 : Nat) (Option.none : Option Jvm.ClassFile.FieldType)).before args0 about1 = true := code_word (m := ⟨2, 0⟩) (meth := k2m0) (c := k2c0) (by decide +kernel) rfl rfl rfl (by decide +kernel)
set_option maxRecDepth 65536 in
theorem w_c3 : (Jvm.Cond.code ({ cls := "java/lang/Object", name := "<init>", desc := "()V" } : Jvm.MethodName) object_method_1_code (1 : Nat) (Option.none : Option Jvm.ClassFile.FieldType)).before args0 about1 = true := code_word (m := ⟨0, 0⟩) (meth := k0m0) (c := k0c0) (by decide +kernel) rfl rfl rfl (by decide +kernel)
set_option maxRecDepth 65536 in
theorem w_c4 : (Jvm.Cond.code ({ cls := "com/example/grawl/grawl/graph/IdIndex", name := "emptyPlaces", desc := "(I)[J" } : Jvm.MethodName) prog_29_method_11_code (2 : Nat) (Option.some (Jvm.ClassFile.FieldType.array Jvm.ClassFile.FieldType.long))).before args0 about1 = true := code_word (m := ⟨2, 7⟩) (meth := k2m7) (c := k2c7) (by decide +kernel) rfl rfl rfl (by decide +kernel)
set_option maxRecDepth 65536 in
theorem w_c5 : (Jvm.Cond.code ({ cls := "java/util/Arrays", name := "fill", desc := "([JJ)V" } : Jvm.MethodName) jdk_65_method_101_code (5 : Nat) (Option.none : Option Jvm.ClassFile.FieldType)).before args0 about1 = true := code_word (m := ⟨3, 1⟩) (meth := k3m1) (c := k3c1) (by decide +kernel) rfl rfl rfl (by decide +kernel)
set_option maxRecDepth 65536 in
theorem w_c6 : (Jvm.Cond.code ({ cls := "com/example/grawl/grawl/graph/IdIndex", name := "add", desc := "(J)I" } : Jvm.MethodName) prog_29_method_2_code (8 : Nat) (Option.some Jvm.ClassFile.FieldType.int)).before args0 about1 = true := code_word (m := ⟨2, 1⟩) (meth := k2m1) (c := k2c1) (by decide +kernel) rfl rfl rfl (by decide +kernel)
set_option maxRecDepth 65536 in
theorem w_c7 : (Jvm.Cond.code ({ cls := "com/example/grawl/grawl/graph/IdIndex", name := "get", desc := "(J)I" } : Jvm.MethodName) prog_29_method_3_code (7 : Nat) (Option.some Jvm.ClassFile.FieldType.int)).before args0 about1 = true := code_word (m := ⟨2, 2⟩) (meth := k2m2) (c := k2c2) (by decide +kernel) rfl rfl rfl (by decide +kernel)
set_option maxRecDepth 65536 in
theorem w_c8 : (Jvm.Cond.code ({ cls := "com/example/grawl/grawl/graph/IdIndex", name := "ids", desc := "()[J" } : Jvm.MethodName) prog_29_method_5_code (3 : Nat) (Option.some (Jvm.ClassFile.FieldType.array Jvm.ClassFile.FieldType.long))).before args0 about1 = true := code_word (m := ⟨2, 3⟩) (meth := k2m3) (c := k2c3) (by decide +kernel) rfl rfl rfl (by decide +kernel)
set_option maxRecDepth 65536 in
theorem w_c9 : (Jvm.Cond.code ({ cls := "com/example/grawl/grawl/graph/IdIndexIdsPinLaw", name := "step", desc := "([JIJI)I" } : Jvm.MethodName) method_4_code (6 : Nat) (Option.some Jvm.ClassFile.FieldType.int)).before args0 about1 = true := code_word (m := ⟨1, 3⟩) (meth := k1m3) (c := k1c3) (by decide +kernel) rfl rfl rfl (by decide +kernel)
set_option maxRecDepth 65536 in
theorem w_c10 : (Jvm.Cond.code ({ cls := "java/lang/Math", name := "min", desc := "(JJ)J" } : Jvm.MethodName) jdk_29_method_70_code (4 : Nat) (Option.some Jvm.ClassFile.FieldType.long)).before args0 about1 = true := code_word (m := ⟨4, 3⟩) (meth := k4m3) (c := k4c3) (by decide +kernel) rfl rfl rfl (by decide +kernel)
set_option maxRecDepth 65536 in
theorem w_c11 : (Jvm.Cond.code ({ cls := "com/example/grawl/grawl/graph/IdIndex", name := "hash", desc := "(JI)V" } : Jvm.MethodName) prog_29_method_8_code (5 : Nat) (Option.none : Option Jvm.ClassFile.FieldType)).before args0 about1 = true := code_word (m := ⟨2, 5⟩) (meth := k2m5) (c := k2c5) (by decide +kernel) rfl rfl rfl (by decide +kernel)
set_option maxRecDepth 65536 in
theorem w_c12 : (Jvm.Cond.code ({ cls := "com/example/grawl/grawl/graph/IdIndex", name := "placeOf", desc := "(JI)I" } : Jvm.MethodName) prog_29_method_10_code (3 : Nat) (Option.some Jvm.ClassFile.FieldType.int)).before args0 about1 = true := code_word (m := ⟨2, 6⟩) (meth := k2m6) (c := k2c6) (by decide +kernel) rfl rfl rfl (by decide +kernel)
set_option maxRecDepth 65536 in
theorem w_c13 : (Jvm.Cond.code ({ cls := "java/lang/Math", name := "max", desc := "(JJ)J" } : Jvm.MethodName) jdk_29_method_66_code (4 : Nat) (Option.some Jvm.ClassFile.FieldType.long)).before args0 about1 = true := code_word (m := ⟨4, 1⟩) (meth := k4m1) (c := k4c1) (by decide +kernel) rfl rfl rfl (by decide +kernel)
set_option maxRecDepth 65536 in
theorem w_c14 : (Jvm.Cond.code ({ cls := "com/example/grawl/grawl/graph/IdIndex", name := "growDirect", desc := "(I)V" } : Jvm.MethodName) prog_29_method_7_code (5 : Nat) (Option.none : Option Jvm.ClassFile.FieldType)).before args0 about1 = true := code_word (m := ⟨2, 4⟩) (meth := k2m4) (c := k2c4) (by decide +kernel) rfl rfl rfl (by decide +kernel)
set_option maxRecDepth 65536 in
theorem w_c15 : (Jvm.Cond.code ({ cls := "java/util/Arrays", name := "copyOf", desc := "([II)[I" } : Jvm.MethodName) jdk_65_method_123_code (3 : Nat) (Option.some (Jvm.ClassFile.FieldType.array Jvm.ClassFile.FieldType.int))).before args0 about1 = true := code_word (m := ⟨3, 2⟩) (meth := k3m2) (c := k3c2) (by decide +kernel) rfl rfl rfl (by decide +kernel)
set_option maxRecDepth 65536 in
theorem w_c16 : (Jvm.Cond.code ({ cls := "java/lang/Math", name := "min", desc := "(II)I" } : Jvm.MethodName) jdk_29_method_69_code (2 : Nat) (Option.some Jvm.ClassFile.FieldType.int)).before args0 about1 = true := code_word (m := ⟨4, 2⟩) (meth := k4m2) (c := k4c2) (by decide +kernel) rfl rfl rfl (by decide +kernel)
def codes1 : List Jvm.Cond := [Jvm.Cond.code x code maxLocals ret, Jvm.Cond.code ({ cls := "com/example/grawl/grawl/graph/IdIndexIdsPinLaw", name := "pick", desc := "(JZ)J" } : Jvm.MethodName) method_3_code (3 : Nat) (Option.some Jvm.ClassFile.FieldType.long), Jvm.Cond.code ({ cls := "com/example/grawl/grawl/graph/IdIndex", name := "<init>", desc := "(I)V" } : Jvm.MethodName) prog_29_method_1_code (2 : Nat) (Option.none : Option Jvm.ClassFile.FieldType), Jvm.Cond.code ({ cls := "java/lang/Object", name := "<init>", desc := "()V" } : Jvm.MethodName) object_method_1_code (1 : Nat) (Option.none : Option Jvm.ClassFile.FieldType), Jvm.Cond.code ({ cls := "com/example/grawl/grawl/graph/IdIndex", name := "emptyPlaces", desc := "(I)[J" } : Jvm.MethodName) prog_29_method_11_code (2 : Nat) (Option.some (Jvm.ClassFile.FieldType.array Jvm.ClassFile.FieldType.long)), Jvm.Cond.code ({ cls := "java/util/Arrays", name := "fill", desc := "([JJ)V" } : Jvm.MethodName) jdk_65_method_101_code (5 : Nat) (Option.none : Option Jvm.ClassFile.FieldType), Jvm.Cond.code ({ cls := "com/example/grawl/grawl/graph/IdIndex", name := "add", desc := "(J)I" } : Jvm.MethodName) prog_29_method_2_code (8 : Nat) (Option.some Jvm.ClassFile.FieldType.int), Jvm.Cond.code ({ cls := "com/example/grawl/grawl/graph/IdIndex", name := "get", desc := "(J)I" } : Jvm.MethodName) prog_29_method_3_code (7 : Nat) (Option.some Jvm.ClassFile.FieldType.int), Jvm.Cond.code ({ cls := "com/example/grawl/grawl/graph/IdIndex", name := "ids", desc := "()[J" } : Jvm.MethodName) prog_29_method_5_code (3 : Nat) (Option.some (Jvm.ClassFile.FieldType.array Jvm.ClassFile.FieldType.long)), Jvm.Cond.code ({ cls := "com/example/grawl/grawl/graph/IdIndexIdsPinLaw", name := "step", desc := "([JIJI)I" } : Jvm.MethodName) method_4_code (6 : Nat) (Option.some Jvm.ClassFile.FieldType.int), Jvm.Cond.code ({ cls := "java/lang/Math", name := "min", desc := "(JJ)J" } : Jvm.MethodName) jdk_29_method_70_code (4 : Nat) (Option.some Jvm.ClassFile.FieldType.long), Jvm.Cond.code ({ cls := "com/example/grawl/grawl/graph/IdIndex", name := "hash", desc := "(JI)V" } : Jvm.MethodName) prog_29_method_8_code (5 : Nat) (Option.none : Option Jvm.ClassFile.FieldType), Jvm.Cond.code ({ cls := "com/example/grawl/grawl/graph/IdIndex", name := "placeOf", desc := "(JI)I" } : Jvm.MethodName) prog_29_method_10_code (3 : Nat) (Option.some Jvm.ClassFile.FieldType.int), Jvm.Cond.code ({ cls := "java/lang/Math", name := "max", desc := "(JJ)J" } : Jvm.MethodName) jdk_29_method_66_code (4 : Nat) (Option.some Jvm.ClassFile.FieldType.long), Jvm.Cond.code ({ cls := "com/example/grawl/grawl/graph/IdIndex", name := "growDirect", desc := "(I)V" } : Jvm.MethodName) prog_29_method_7_code (5 : Nat) (Option.none : Option Jvm.ClassFile.FieldType), Jvm.Cond.code ({ cls := "java/util/Arrays", name := "copyOf", desc := "([II)[I" } : Jvm.MethodName) jdk_65_method_123_code (3 : Nat) (Option.some (Jvm.ClassFile.FieldType.array Jvm.ClassFile.FieldType.int)), Jvm.Cond.code ({ cls := "java/lang/Math", name := "min", desc := "(II)I" } : Jvm.MethodName) jdk_29_method_69_code (2 : Nat) (Option.some Jvm.ClassFile.FieldType.int)]
set_option maxRecDepth 65536 in
theorem codes_eq : words1.filter isCode = codes1 := rfl
theorem w_codes : ∀ c ∈ words1.filter isCode, c.before args0 about1 = true := by
  rw [codes_eq]
  intro c hc
  simp only [codes1, List.mem_cons, List.not_mem_nil, or_false] at hc
  rcases hc with rfl | rfl | rfl | rfl | rfl | rfl | rfl | rfl | rfl | rfl | rfl | rfl | rfl | rfl | rfl | rfl | rfl
  · exact w_c0
  · exact w_c1
  · exact w_c2
  · exact w_c3
  · exact w_c4
  · exact w_c5
  · exact w_c6
  · exact w_c7
  · exact w_c8
  · exact w_c9
  · exact w_c10
  · exact w_c11
  · exact w_c12
  · exact w_c13
  · exact w_c14
  · exact w_c15
  · exact w_c16
set_option maxRecDepth 65536 in
theorem w_t1 : (words1.take 24).all (fun c => isCode c || c.before args0 about1) = true := by decide +kernel
set_option maxRecDepth 65536 in
theorem w_t2 : ((words1.drop 24).take 24).all (fun c => isCode c || c.before args0 about1) = true := by decide +kernel
set_option maxRecDepth 65536 in
theorem w_t3 : (((words1.drop 24).drop 24).take 24).all (fun c => isCode c || c.before args0 about1) = true := by decide +kernel
set_option maxRecDepth 65536 in
theorem w_t4 : (((words1.drop 24).drop 24).drop 24).all (fun c => isCode c || c.before args0 about1) = true := by decide +kernel
theorem w_tables : (allAtoms (Jvm.Cond.code x code maxLocals ret :: tables_1)).before args0 about1 = true := by
  rw [allAtoms_all]
  show words1.all (fun c => c.before args0 about1) = true
  refine all_split ?_ w_codes
  rw [← List.take_append_drop 24 words1, List.all_append, w_t1, ← List.take_append_drop 24 (words1.drop 24), List.all_append, w_t2, ← List.take_append_drop 24 ((words1.drop 24).drop 24), List.all_append, w_t3, w_t4]
  rfl
set_option maxRecDepth 65536 in
theorem w_case : (Jvm.Cond.and given_1 narrow_1).before args0 about1 = true := by decide +kernel
theorem w_applies : (headSpec (Jvm.Cond.code x code maxLocals ret :: tables_1) room_1).applies x e0.platform about1 = true :=
  (Spec.applies_iff w_frames).mpr ⟨w_running, w_runnable, w_alone, w_named, w_hears, w_ripe, w_room, w_tables⟩
theorem atStart : AtStart classFile x code maxLocals ret World_1 tables_1 room_1 Calls_1 rest_1 Pre_1 launch0 p0 e0 about1 theMethod args0 below0 :=
  ⟨lists_1, trivial, launch0.admits_env _ _ _, launch0.least_env, fairChoices_fair.cas, fairChoices_fair.clock, w_frames, w_args, w_heap, w_applies, trivial, trivial, w_case⟩
end start1
theorem witness_1 : WitnessClaimed_1 := ⟨start1.p0, start1.e0, start1.about1, start1.theMethod, start1.args0, start1.below0, start1.atStart⟩
end Jvm.Pilot.@@N@@
