import JvmDerived
import JvmDerived.Pilot.@@N@@Statement
import JvmDerived.Pilot.@@N@@Code
set_option linter.unusedVariables false
set_option linter.unusedSimpArgs false
namespace Jvm.Pilot.@@N@@
open Jvm Jvm.ClassFile Sem Op Lib Jvm.Free Jvm.Stand Jvm.LawKit Jvm.RoadKit Bundle Jvm.Pilot.@@N@@.Jvm.D
/-- Java's shifts -/
def shlI (x y : Int32) : Int32 := x <<< (y &&& 31)
def shrI (x y : Int32) : Int32 := x >>> (y &&& 31)
def ushrI (x y : Int32) : Int32 := (x.toUInt32 >>> (y &&& 31).toUInt32).toInt32
def shlJ (x : Int64) (y : Int32) : Int64 := x <<< (y &&& 0x3f).toInt64
def shrJ (x : Int64) (y : Int32) : Int64 := x >>> (y &&& 0x3f).toInt64
def ushrJ (x : Int64) (y : Int32) : Int64 := (x.toUInt64 >>> (y &&& 0x3f).toInt64.toUInt64).toInt64
section Kit
variable {p : Program} {l : Launch} {e : Env} {R : Room} {s : State} {m : MethodId} {args : Array Value} {below : List Frame} {meth : Method} {c : ClassFile.Code} {Z : State} {a0 : Array Value} {n0 : Nat} {Q : Option Value → Heap → Prop} {K N : Nat} {h : Heap} {k n : Nat} {own : String} {bytes : ByteArray} {maxl : Nat} {ret : Option FieldType} {nm : String} {pc pc' pc1 pct : Nat} {Ls : Array Slot} {st : List Value}
/-- the run from T0 comes back with a value and a heap of which Q holds, having written nothing below n0 -/
def Ends (p : Program) (e : Env) (below : List Frame) (s : State) (n0 : Nat) (Q : Option Value → Heap → Prop) (K N : Nat) (T0 : State) : Prop :=
  ∃ t o, Steps p.tables e below T0 t ∧ t.status = .running ∧ Ended t below o ∧ ∃ v L, o = .returned v ∧ (Q v t.heap ∧ Fr n0 L) ∧ FrameEnd s o t L K N
/-- from every state of this invocation whose heap is h and whose top frame is f the run comes back so -/
def Go (p : Program) (l : Launch) (e : Env) (R : Room) (s : State) (m : MethodId) (args : Array Value) (below : List Frame) (meth : Method) (c : ClassFile.Code) (n0 : Nat) (Q : Option Value → Heap → Prop) (K N : Nat) (h : Heap) (k n : Nat) (f : JFrame) : Prop :=
  ∀ T L, Fr n0 L → Stand p l e R s m args below meth c T L k n → T.heap = h → Ends p e below s n0 Q K N (T.setTop f)
/-- what is known of the invocation throughout -/
def Cx (p : Program) (s : State) (m : MethodId) (meth : Method) (c : ClassFile.Code) (Z : State) (n0 : Nat) (own : String) (bytes : ByteArray) (maxl : Nat) (ret : Option FieldType) (nm : String) : Prop :=
  p.tables.exec = Jvm.exec ∧ Z.Warmed39 s.vm ∧ s.vm.findClass own = some m.cls ∧ c.code = bytes ∧ c.maxLocals = maxl ∧ meth.sig.returnType = ret ∧ meth.locks = false ∧ meth.name = nm ∧ n0 ≤ s.heap.size
def In (b : ByteArray) (pc len : Nat) (i : Instr) (pc' : Nat) : Prop := decode b pc = .ok (i, len) ∧ pc' = pc + len
def Jm (b : ByteArray) (pc : Nat) (i : Int → Instr) (pc' pct : Nat) : Prop := ∃ o, decode b pc = .ok (i o, 3) ∧ pc' = pc + 3 ∧ 0 ≤ (pc : Int) + o ∧ ((pc : Int) + o).toNat = pct
theorem g_st {f f' : JFrame} (H : ∀ {T L}, Stand p l e R s m args below meth c T L k n → T.heap = h → ∀ t, Steps p.tables e below (T.setTop f') t → Steps p.tables e below (T.setTop f) t) (G : Go p l e R s m args below meth c n0 Q K N h k n (f')) : Go p l e R s m args below meth c n0 Q K N h k n f := fun T L hL X eT => by
  obtain ⟨t, o, h1, h2⟩ := G T L hL X eT
  exact ⟨t, o, H X eT t h1, h2⟩
theorem g_cast {f f' : JFrame} (q : f = f') (G : Go p l e R s m args below meth c n0 Q K N h k n (f')) : Go p l e R s m args below meth c n0 Q K N h k n f := q ▸ G
theorem g_more {k' n' : Nat} {f : JFrame} (hk : k ≤ k') (hn : n ≤ n') (G : Go p l e R s m args below meth c n0 Q K N h (k') (n') f) : Go p l e R s m args below meth c n0 Q K N h k n f := fun T L hL X eT => G T L hL (X.more hk hn) eT
theorem Stand.up {T : State} {L : List Loc} (X : Stand p l e R s m args below meth c T L k n) : s.heap.size ≤ T.heap.size := by
  exact X.same.2.1
theorem g_iadd (C : Cx p s m meth c Z n0 own bytes maxl ret nm) {x y : Int32} (d : In bytes pc 1 (.iadd) pc') (G : Go p l e R s m args below meth c n0 Q K N h k n (mkF m pc' Ls (.int (x + y) :: st))) : Go p l e R s m args below meth c n0 Q K N h k n (mkF m pc Ls (.int y :: .int x :: st)) := by
  obtain ⟨d, rfl⟩ := d
  exact g_st (fun X _ t kt => XS.iadd X.here C.1 rfl (hb C.2.2.2.1 d) rfl kt) G
theorem g_isub (C : Cx p s m meth c Z n0 own bytes maxl ret nm) {x y : Int32} (d : In bytes pc 1 (.isub) pc') (G : Go p l e R s m args below meth c n0 Q K N h k n (mkF m pc' Ls (.int (x - y) :: st))) : Go p l e R s m args below meth c n0 Q K N h k n (mkF m pc Ls (.int y :: .int x :: st)) := by
  obtain ⟨d, rfl⟩ := d
  exact g_st (fun X _ t kt => XS.isub X.here C.1 rfl (hb C.2.2.2.1 d) rfl kt) G
theorem g_imul (C : Cx p s m meth c Z n0 own bytes maxl ret nm) {x y : Int32} (d : In bytes pc 1 (.imul) pc') (G : Go p l e R s m args below meth c n0 Q K N h k n (mkF m pc' Ls (.int (x * y) :: st))) : Go p l e R s m args below meth c n0 Q K N h k n (mkF m pc Ls (.int y :: .int x :: st)) := by
  obtain ⟨d, rfl⟩ := d
  exact g_st (fun X _ t kt => XS.imul X.here C.1 rfl (hb C.2.2.2.1 d) rfl kt) G
theorem g_iand (C : Cx p s m meth c Z n0 own bytes maxl ret nm) {x y : Int32} (d : In bytes pc 1 (.iand) pc') (G : Go p l e R s m args below meth c n0 Q K N h k n (mkF m pc' Ls (.int (x &&& y) :: st))) : Go p l e R s m args below meth c n0 Q K N h k n (mkF m pc Ls (.int y :: .int x :: st)) := by
  obtain ⟨d, rfl⟩ := d
  exact g_st (fun X _ t kt => XS.iand X.here C.1 rfl (hb C.2.2.2.1 d) rfl kt) G
theorem g_ior (C : Cx p s m meth c Z n0 own bytes maxl ret nm) {x y : Int32} (d : In bytes pc 1 (.ior) pc') (G : Go p l e R s m args below meth c n0 Q K N h k n (mkF m pc' Ls (.int (x ||| y) :: st))) : Go p l e R s m args below meth c n0 Q K N h k n (mkF m pc Ls (.int y :: .int x :: st)) := by
  obtain ⟨d, rfl⟩ := d
  exact g_st (fun X _ t kt => XS.ior X.here C.1 rfl (hb C.2.2.2.1 d) rfl kt) G
theorem g_ixor (C : Cx p s m meth c Z n0 own bytes maxl ret nm) {x y : Int32} (d : In bytes pc 1 (.ixor) pc') (G : Go p l e R s m args below meth c n0 Q K N h k n (mkF m pc' Ls (.int (x ^^^ y) :: st))) : Go p l e R s m args below meth c n0 Q K N h k n (mkF m pc Ls (.int y :: .int x :: st)) := by
  obtain ⟨d, rfl⟩ := d
  exact g_st (fun X _ t kt => XS.ixor X.here C.1 rfl (hb C.2.2.2.1 d) rfl kt) G
theorem g_idiv (C : Cx p s m meth c Z n0 own bytes maxl ret nm) {x y : Int32} (d : In bytes pc 1 (.idiv) pc') (hy : y ≠ 0) (G : Go p l e R s m args below meth c n0 Q K N h k n (mkF m pc' Ls (.int (x / y) :: st))) : Go p l e R s m args below meth c n0 Q K N h k n (mkF m pc Ls (.int y :: .int x :: st)) := by
  obtain ⟨d, rfl⟩ := d
  exact g_st (fun X _ t kt => XS.idiv X.here C.1 rfl (hb C.2.2.2.1 d) rfl hy kt) G
theorem g_irem (C : Cx p s m meth c Z n0 own bytes maxl ret nm) {x y : Int32} (d : In bytes pc 1 (.irem) pc') (hy : y ≠ 0) (G : Go p l e R s m args below meth c n0 Q K N h k n (mkF m pc' Ls (.int (x - (x / y) * y) :: st))) : Go p l e R s m args below meth c n0 Q K N h k n (mkF m pc Ls (.int y :: .int x :: st)) := by
  obtain ⟨d, rfl⟩ := d
  exact g_st (fun X _ t kt => XS.irem X.here C.1 rfl (hb C.2.2.2.1 d) rfl hy kt) G
theorem g_iload (C : Cx p s m meth c Z n0 own bytes maxl ret nm) {i : Nat} {v : Int32} (d : In bytes pc 2 (.iload i) pc') (hl : Ls[i]? = some (.val (.int v))) (G : Go p l e R s m args below meth c n0 Q K N h k n (mkF m pc' Ls (.int v :: st))) : Go p l e R s m args below meth c n0 Q K N h k n (mkF m pc Ls st) := by
  obtain ⟨d, rfl⟩ := d
  exact g_st (fun X _ t kt => XS.iload X.here C.1 rfl (hb C.2.2.2.1 d) hl kt) G
theorem g_iloadN (C : Cx p s m meth c Z n0 own bytes maxl ret nm) {i : Fin 4} {v : Int32} (d : In bytes pc 1 (.iload_n i) pc') (hl : Ls[i.val]? = some (.val (.int v))) (G : Go p l e R s m args below meth c n0 Q K N h k n (mkF m pc' Ls (.int v :: st))) : Go p l e R s m args below meth c n0 Q K N h k n (mkF m pc Ls st) := by
  obtain ⟨d, rfl⟩ := d
  exact g_st (fun X _ t kt => XS.iloadN X.here C.1 rfl (hb C.2.2.2.1 d) hl kt) G
theorem g_istore (C : Cx p s m meth c Z n0 own bytes maxl ret nm) {i : Nat} {x : Int32} (l' : Array Slot) (d : In bytes pc 2 (.istore i) pc') (hl : storeLocals Ls i (.int x) = some l') (G : Go p l e R s m args below meth c n0 Q K N h k n (mkF m pc' l' st)) : Go p l e R s m args below meth c n0 Q K N h k n (mkF m pc Ls (.int x :: st)) := by
  obtain ⟨d, rfl⟩ := d
  exact g_st (fun X _ t kt => XS.istore X.here C.1 rfl (hb C.2.2.2.1 d) rfl hl kt) G
theorem g_istoreN (C : Cx p s m meth c Z n0 own bytes maxl ret nm) {i : Fin 4} {x : Int32} (l' : Array Slot) (d : In bytes pc 1 (.istore_n i) pc') (hl : storeLocals Ls i.val (.int x) = some l') (G : Go p l e R s m args below meth c n0 Q K N h k n (mkF m pc' l' st)) : Go p l e R s m args below meth c n0 Q K N h k n (mkF m pc Ls (.int x :: st)) := by
  obtain ⟨d, rfl⟩ := d
  exact g_st (fun X _ t kt => XS.istoreN X.here C.1 rfl (hb C.2.2.2.1 d) rfl hl kt) G
theorem g_ladd (C : Cx p s m meth c Z n0 own bytes maxl ret nm) {x y : Int64} (d : In bytes pc 1 (.ladd) pc') (G : Go p l e R s m args below meth c n0 Q K N h k n (mkF m pc' Ls (.long (x + y) :: st))) : Go p l e R s m args below meth c n0 Q K N h k n (mkF m pc Ls (.long y :: .long x :: st)) := by
  obtain ⟨d, rfl⟩ := d
  exact g_st (fun X _ t kt => XS.ladd X.here C.1 rfl (hb C.2.2.2.1 d) rfl kt) G
theorem g_lsub (C : Cx p s m meth c Z n0 own bytes maxl ret nm) {x y : Int64} (d : In bytes pc 1 (.lsub) pc') (G : Go p l e R s m args below meth c n0 Q K N h k n (mkF m pc' Ls (.long (x - y) :: st))) : Go p l e R s m args below meth c n0 Q K N h k n (mkF m pc Ls (.long y :: .long x :: st)) := by
  obtain ⟨d, rfl⟩ := d
  exact g_st (fun X _ t kt => XS.lsub X.here C.1 rfl (hb C.2.2.2.1 d) rfl kt) G
theorem g_lmul (C : Cx p s m meth c Z n0 own bytes maxl ret nm) {x y : Int64} (d : In bytes pc 1 (.lmul) pc') (G : Go p l e R s m args below meth c n0 Q K N h k n (mkF m pc' Ls (.long (x * y) :: st))) : Go p l e R s m args below meth c n0 Q K N h k n (mkF m pc Ls (.long y :: .long x :: st)) := by
  obtain ⟨d, rfl⟩ := d
  exact g_st (fun X _ t kt => XS.lmul X.here C.1 rfl (hb C.2.2.2.1 d) rfl kt) G
theorem g_land (C : Cx p s m meth c Z n0 own bytes maxl ret nm) {x y : Int64} (d : In bytes pc 1 (.land) pc') (G : Go p l e R s m args below meth c n0 Q K N h k n (mkF m pc' Ls (.long (x &&& y) :: st))) : Go p l e R s m args below meth c n0 Q K N h k n (mkF m pc Ls (.long y :: .long x :: st)) := by
  obtain ⟨d, rfl⟩ := d
  exact g_st (fun X _ t kt => XS.land X.here C.1 rfl (hb C.2.2.2.1 d) rfl kt) G
theorem g_lor (C : Cx p s m meth c Z n0 own bytes maxl ret nm) {x y : Int64} (d : In bytes pc 1 (.lor) pc') (G : Go p l e R s m args below meth c n0 Q K N h k n (mkF m pc' Ls (.long (x ||| y) :: st))) : Go p l e R s m args below meth c n0 Q K N h k n (mkF m pc Ls (.long y :: .long x :: st)) := by
  obtain ⟨d, rfl⟩ := d
  exact g_st (fun X _ t kt => XS.lor X.here C.1 rfl (hb C.2.2.2.1 d) rfl kt) G
theorem g_lxor (C : Cx p s m meth c Z n0 own bytes maxl ret nm) {x y : Int64} (d : In bytes pc 1 (.lxor) pc') (G : Go p l e R s m args below meth c n0 Q K N h k n (mkF m pc' Ls (.long (x ^^^ y) :: st))) : Go p l e R s m args below meth c n0 Q K N h k n (mkF m pc Ls (.long y :: .long x :: st)) := by
  obtain ⟨d, rfl⟩ := d
  exact g_st (fun X _ t kt => XS.lxor X.here C.1 rfl (hb C.2.2.2.1 d) rfl kt) G
theorem g_ldiv (C : Cx p s m meth c Z n0 own bytes maxl ret nm) {x y : Int64} (d : In bytes pc 1 (.ldiv) pc') (hy : y ≠ 0) (G : Go p l e R s m args below meth c n0 Q K N h k n (mkF m pc' Ls (.long (x / y) :: st))) : Go p l e R s m args below meth c n0 Q K N h k n (mkF m pc Ls (.long y :: .long x :: st)) := by
  obtain ⟨d, rfl⟩ := d
  exact g_st (fun X _ t kt => XS.ldiv X.here C.1 rfl (hb C.2.2.2.1 d) rfl hy kt) G
theorem g_lrem (C : Cx p s m meth c Z n0 own bytes maxl ret nm) {x y : Int64} (d : In bytes pc 1 (.lrem) pc') (hy : y ≠ 0) (G : Go p l e R s m args below meth c n0 Q K N h k n (mkF m pc' Ls (.long (x - (x / y) * y) :: st))) : Go p l e R s m args below meth c n0 Q K N h k n (mkF m pc Ls (.long y :: .long x :: st)) := by
  obtain ⟨d, rfl⟩ := d
  exact g_st (fun X _ t kt => XS.lrem X.here C.1 rfl (hb C.2.2.2.1 d) rfl hy kt) G
theorem g_lload (C : Cx p s m meth c Z n0 own bytes maxl ret nm) {i : Nat} {v : Int64} (d : In bytes pc 2 (.lload i) pc') (hl : Ls[i]? = some (.val (.long v))) (G : Go p l e R s m args below meth c n0 Q K N h k n (mkF m pc' Ls (.long v :: st))) : Go p l e R s m args below meth c n0 Q K N h k n (mkF m pc Ls st) := by
  obtain ⟨d, rfl⟩ := d
  exact g_st (fun X _ t kt => XS.lload X.here C.1 rfl (hb C.2.2.2.1 d) hl kt) G
theorem g_lloadN (C : Cx p s m meth c Z n0 own bytes maxl ret nm) {i : Fin 4} {v : Int64} (d : In bytes pc 1 (.lload_n i) pc') (hl : Ls[i.val]? = some (.val (.long v))) (G : Go p l e R s m args below meth c n0 Q K N h k n (mkF m pc' Ls (.long v :: st))) : Go p l e R s m args below meth c n0 Q K N h k n (mkF m pc Ls st) := by
  obtain ⟨d, rfl⟩ := d
  exact g_st (fun X _ t kt => XS.lloadN X.here C.1 rfl (hb C.2.2.2.1 d) hl kt) G
theorem g_lstore (C : Cx p s m meth c Z n0 own bytes maxl ret nm) {i : Nat} {x : Int64} (l' : Array Slot) (d : In bytes pc 2 (.lstore i) pc') (hl : storeLocals Ls i (.long x) = some l') (G : Go p l e R s m args below meth c n0 Q K N h k n (mkF m pc' l' st)) : Go p l e R s m args below meth c n0 Q K N h k n (mkF m pc Ls (.long x :: st)) := by
  obtain ⟨d, rfl⟩ := d
  exact g_st (fun X _ t kt => XS.lstore X.here C.1 rfl (hb C.2.2.2.1 d) rfl hl kt) G
theorem g_lstoreN (C : Cx p s m meth c Z n0 own bytes maxl ret nm) {i : Fin 4} {x : Int64} (l' : Array Slot) (d : In bytes pc 1 (.lstore_n i) pc') (hl : storeLocals Ls i.val (.long x) = some l') (G : Go p l e R s m args below meth c n0 Q K N h k n (mkF m pc' l' st)) : Go p l e R s m args below meth c n0 Q K N h k n (mkF m pc Ls (.long x :: st)) := by
  obtain ⟨d, rfl⟩ := d
  exact g_st (fun X _ t kt => XS.lstoreN X.here C.1 rfl (hb C.2.2.2.1 d) rfl hl kt) G
theorem g_aload (C : Cx p s m meth c Z n0 own bytes maxl ret nm) {i : Nat} {v : Value} (d : In bytes pc 2 (.aload i) pc') (hl : Ls[i]? = some (.val v)) (hv : v.isRef = true) (G : Go p l e R s m args below meth c n0 Q K N h k n (mkF m pc' Ls (v :: st))) : Go p l e R s m args below meth c n0 Q K N h k n (mkF m pc Ls st) := by
  obtain ⟨d, rfl⟩ := d
  exact g_st (fun X _ t kt => XS.aload X.here C.1 rfl (hb C.2.2.2.1 d) hl hv kt) G
theorem g_astore (C : Cx p s m meth c Z n0 own bytes maxl ret nm) {i : Nat} {x : Value} (l' : Array Slot) (d : In bytes pc 2 (.astore i) pc') (hv : x.isRef = true) (hl : storeLocals Ls i x = some l') (G : Go p l e R s m args below meth c n0 Q K N h k n (mkF m pc' l' st)) : Go p l e R s m args below meth c n0 Q K N h k n (mkF m pc Ls (x :: st)) := by
  obtain ⟨d, rfl⟩ := d
  exact g_st (fun X _ t kt => XS.astore X.here C.1 rfl (hb C.2.2.2.1 d) rfl hv hl kt) G
theorem g_aloadN (C : Cx p s m meth c Z n0 own bytes maxl ret nm) {i : Fin 4} {v : Value} (d : In bytes pc 1 (.aload_n i) pc') (hl : Ls[i.val]? = some (.val v)) (hv : v.isRef = true) (G : Go p l e R s m args below meth c n0 Q K N h k n (mkF m pc' Ls (v :: st))) : Go p l e R s m args below meth c n0 Q K N h k n (mkF m pc Ls st) := by
  obtain ⟨d, rfl⟩ := d
  exact g_st (fun X _ t kt => XS.aloadN X.here C.1 rfl (hb C.2.2.2.1 d) hl hv kt) G
theorem g_astoreN (C : Cx p s m meth c Z n0 own bytes maxl ret nm) {i : Fin 4} {x : Value} (l' : Array Slot) (d : In bytes pc 1 (.astore_n i) pc') (hv : x.isRef = true) (hl : storeLocals Ls i.val x = some l') (G : Go p l e R s m args below meth c n0 Q K N h k n (mkF m pc' l' st)) : Go p l e R s m args below meth c n0 Q K N h k n (mkF m pc Ls (x :: st)) := by
  obtain ⟨d, rfl⟩ := d
  exact g_st (fun X _ t kt => XS.astoreN X.here C.1 rfl (hb C.2.2.2.1 d) rfl hv hl kt) G
theorem g_ishl (C : Cx p s m meth c Z n0 own bytes maxl ret nm) {x y : Int32} (d : In bytes pc 1 (.ishl) pc') (G : Go p l e R s m args below meth c n0 Q K N h k n (mkF m pc' Ls (.int (shlI x y) :: st))) : Go p l e R s m args below meth c n0 Q K N h k n (mkF m pc Ls (.int y :: .int x :: st)) := by
  obtain ⟨d, rfl⟩ := d
  exact g_st (fun X _ t kt => XS.ishl X.here C.1 rfl (hb C.2.2.2.1 d) rfl kt) G
theorem g_ishr (C : Cx p s m meth c Z n0 own bytes maxl ret nm) {x y : Int32} (d : In bytes pc 1 (.ishr) pc') (G : Go p l e R s m args below meth c n0 Q K N h k n (mkF m pc' Ls (.int (shrI x y) :: st))) : Go p l e R s m args below meth c n0 Q K N h k n (mkF m pc Ls (.int y :: .int x :: st)) := by
  obtain ⟨d, rfl⟩ := d
  exact g_st (fun X _ t kt => XS.ishr X.here C.1 rfl (hb C.2.2.2.1 d) rfl kt) G
theorem g_iushr (C : Cx p s m meth c Z n0 own bytes maxl ret nm) {x y : Int32} (d : In bytes pc 1 (.iushr) pc') (G : Go p l e R s m args below meth c n0 Q K N h k n (mkF m pc' Ls (.int (ushrI x y) :: st))) : Go p l e R s m args below meth c n0 Q K N h k n (mkF m pc Ls (.int y :: .int x :: st)) := by
  obtain ⟨d, rfl⟩ := d
  exact g_st (fun X _ t kt => XS.iushr X.here C.1 rfl (hb C.2.2.2.1 d) rfl kt) G
theorem g_lshl (C : Cx p s m meth c Z n0 own bytes maxl ret nm) {x : Int64} {y : Int32} (d : In bytes pc 1 (.lshl) pc') (G : Go p l e R s m args below meth c n0 Q K N h k n (mkF m pc' Ls (.long (shlJ x y) :: st))) : Go p l e R s m args below meth c n0 Q K N h k n (mkF m pc Ls (.int y :: .long x :: st)) := by
  obtain ⟨d, rfl⟩ := d
  exact g_st (fun X _ t kt => XS.lshl X.here C.1 rfl (hb C.2.2.2.1 d) rfl kt) G
theorem g_lshr (C : Cx p s m meth c Z n0 own bytes maxl ret nm) {x : Int64} {y : Int32} (d : In bytes pc 1 (.lshr) pc') (G : Go p l e R s m args below meth c n0 Q K N h k n (mkF m pc' Ls (.long (shrJ x y) :: st))) : Go p l e R s m args below meth c n0 Q K N h k n (mkF m pc Ls (.int y :: .long x :: st)) := by
  obtain ⟨d, rfl⟩ := d
  exact g_st (fun X _ t kt => XS.lshr X.here C.1 rfl (hb C.2.2.2.1 d) rfl kt) G
theorem g_lushr (C : Cx p s m meth c Z n0 own bytes maxl ret nm) {x : Int64} {y : Int32} (d : In bytes pc 1 (.lushr) pc') (G : Go p l e R s m args below meth c n0 Q K N h k n (mkF m pc' Ls (.long (ushrJ x y) :: st))) : Go p l e R s m args below meth c n0 Q K N h k n (mkF m pc Ls (.int y :: .long x :: st)) := by
  obtain ⟨d, rfl⟩ := d
  exact g_st (fun X _ t kt => XS.lushr X.here C.1 rfl (hb C.2.2.2.1 d) rfl kt) G
theorem g_i2l (C : Cx p s m meth c Z n0 own bytes maxl ret nm) {x : Int32} (d : In bytes pc 1 (.i2l) pc') (G : Go p l e R s m args below meth c n0 Q K N h k n (mkF m pc' Ls (.long x.toInt64 :: st))) : Go p l e R s m args below meth c n0 Q K N h k n (mkF m pc Ls (.int x :: st)) := by
  obtain ⟨d, rfl⟩ := d
  exact g_st (fun X _ t kt => XS.i2l X.here C.1 rfl (hb C.2.2.2.1 d) rfl kt) G
theorem g_l2i (C : Cx p s m meth c Z n0 own bytes maxl ret nm) {x : Int64} (d : In bytes pc 1 (.l2i) pc') (G : Go p l e R s m args below meth c n0 Q K N h k n (mkF m pc' Ls (.int x.toInt32 :: st))) : Go p l e R s m args below meth c n0 Q K N h k n (mkF m pc Ls (.long x :: st)) := by
  obtain ⟨d, rfl⟩ := d
  exact g_st (fun X _ t kt => XS.l2i X.here C.1 rfl (hb C.2.2.2.1 d) rfl kt) G
theorem g_i2b (C : Cx p s m meth c Z n0 own bytes maxl ret nm) {x : Int32} (d : In bytes pc 1 (.i2b) pc') (G : Go p l e R s m args below meth c n0 Q K N h k n (mkF m pc' Ls (.int x.toInt8.toInt32 :: st))) : Go p l e R s m args below meth c n0 Q K N h k n (mkF m pc Ls (.int x :: st)) := by
  obtain ⟨d, rfl⟩ := d
  exact g_st (fun X _ t kt => XS.i2b X.here C.1 rfl (hb C.2.2.2.1 d) rfl kt) G
theorem g_ineg (C : Cx p s m meth c Z n0 own bytes maxl ret nm) {x : Int32} (d : In bytes pc 1 (.ineg) pc') (G : Go p l e R s m args below meth c n0 Q K N h k n (mkF m pc' Ls (.int (-x) :: st))) : Go p l e R s m args below meth c n0 Q K N h k n (mkF m pc Ls (.int x :: st)) := by
  obtain ⟨d, rfl⟩ := d
  exact g_st (fun X _ t kt => XS.ineg X.here C.1 rfl (hb C.2.2.2.1 d) rfl kt) G
theorem g_lneg (C : Cx p s m meth c Z n0 own bytes maxl ret nm) {x : Int64} (d : In bytes pc 1 (.lneg) pc') (G : Go p l e R s m args below meth c n0 Q K N h k n (mkF m pc' Ls (.long (-x) :: st))) : Go p l e R s m args below meth c n0 Q K N h k n (mkF m pc Ls (.long x :: st)) := by
  obtain ⟨d, rfl⟩ := d
  exact g_st (fun X _ t kt => XS.lneg X.here C.1 rfl (hb C.2.2.2.1 d) rfl kt) G
theorem g_iconst (C : Cx p s m meth c Z n0 own bytes maxl ret nm) {i : Int} (v : Int32) (hv : Int32.ofInt i = v) (d : In bytes pc 1 (.iconst i) pc') (G : Go p l e R s m args below meth c n0 Q K N h k n (mkF m pc' Ls (.int v :: st))) : Go p l e R s m args below meth c n0 Q K N h k n (mkF m pc Ls st) := by
  obtain ⟨d, rfl⟩ := d
  exact g_st (fun X _ t kt => XS.iconst X.here C.1 rfl (hb C.2.2.2.1 d) (hv ▸ kt)) G
theorem g_bipush (C : Cx p s m meth c Z n0 own bytes maxl ret nm) {i : Int} (v : Int32) (hv : (Int8.ofInt i).toInt32 = v) (d : In bytes pc 2 (.bipush i) pc') (G : Go p l e R s m args below meth c n0 Q K N h k n (mkF m pc' Ls (.int v :: st))) : Go p l e R s m args below meth c n0 Q K N h k n (mkF m pc Ls st) := by
  obtain ⟨d, rfl⟩ := d
  exact g_st (fun X _ t kt => XS.bipush X.here C.1 rfl (hb C.2.2.2.1 d) (hv ▸ kt)) G
theorem g_sipush (C : Cx p s m meth c Z n0 own bytes maxl ret nm) {i : Int} (v : Int32) (hv : (Int16.ofInt i).toInt32 = v) (d : In bytes pc 3 (.sipush i) pc') (G : Go p l e R s m args below meth c n0 Q K N h k n (mkF m pc' Ls (.int v :: st))) : Go p l e R s m args below meth c n0 Q K N h k n (mkF m pc Ls st) := by
  obtain ⟨d, rfl⟩ := d
  exact g_st (fun X _ t kt => XS.sipush X.here C.1 rfl (hb C.2.2.2.1 d) (hv ▸ kt)) G
theorem g_lconst (C : Cx p s m meth c Z n0 own bytes maxl ret nm) {i : Fin 2} (v : Int64) (hv : Int64.ofNat i = v) (d : In bytes pc 1 (.lconst i) pc') (G : Go p l e R s m args below meth c n0 Q K N h k n (mkF m pc' Ls (.long v :: st))) : Go p l e R s m args below meth c n0 Q K N h k n (mkF m pc Ls st) := by
  obtain ⟨d, rfl⟩ := d
  exact g_st (fun X _ t kt => XS.lconst X.here C.1 rfl (hb C.2.2.2.1 d) (hv ▸ kt)) G
theorem g_aconst (C : Cx p s m meth c Z n0 own bytes maxl ret nm) (d : In bytes pc 1 (.aconst_null) pc') (G : Go p l e R s m args below meth c n0 Q K N h k n (mkF m pc' Ls (.null :: st))) : Go p l e R s m args below meth c n0 Q K N h k n (mkF m pc Ls st) := by
  obtain ⟨d, rfl⟩ := d
  exact g_st (fun X _ t kt => XS.aconstNull X.here C.1 rfl (hb C.2.2.2.1 d) kt) G
theorem g_dup (C : Cx p s m meth c Z n0 own bytes maxl ret nm) {x : Value} (d : In bytes pc 1 (.dup) pc') (hc : x.category = 1) (G : Go p l e R s m args below meth c n0 Q K N h k n (mkF m pc' Ls (x :: x :: st))) : Go p l e R s m args below meth c n0 Q K N h k n (mkF m pc Ls (x :: st)) := by
  obtain ⟨d, rfl⟩ := d
  exact g_st (fun X _ t kt => XS.dup X.here C.1 rfl (hb C.2.2.2.1 d) rfl hc kt) G
theorem g_pop (C : Cx p s m meth c Z n0 own bytes maxl ret nm) {x : Value} (d : In bytes pc 1 (.pop) pc') (hc : x.category = 1) (G : Go p l e R s m args below meth c n0 Q K N h k n (mkF m pc' Ls st)) : Go p l e R s m args below meth c n0 Q K N h k n (mkF m pc Ls (x :: st)) := by
  obtain ⟨d, rfl⟩ := d
  exact g_st (fun X _ t kt => XS.pop X.here C.1 rfl (hb C.2.2.2.1 d) rfl hc kt) G
theorem g_iinc (C : Cx p s m meth c Z n0 own bytes maxl ret nm) {i : Nat} {cst : Int} {x : Int32} (y : Int32) (l' : Array Slot) (d : In bytes pc 3 (.iinc i cst) pc') (hl : Ls[i]? = some (.val (.int x))) (hv : y = x + Int32.ofInt cst) (hl' : storeLocals Ls i (.int y) = some l') (G : Go p l e R s m args below meth c n0 Q K N h k n (mkF m pc' l' st)) : Go p l e R s m args below meth c n0 Q K N h k n (mkF m pc Ls st) := by
  obtain ⟨d, rfl⟩ := d
  exact g_st (fun X _ t kt => XS.iinc X.here C.1 rfl (hb C.2.2.2.1 d) hl (hv ▸ hl') kt) G
theorem g_goto (C : Cx p s m meth c Z n0 own bytes maxl ret nm) (d : Jm bytes pc .goto pc' pct) (G : Go p l e R s m args below meth c n0 Q K N h k n (mkF m pct Ls st)) : Go p l e R s m args below meth c n0 Q K N h k n (mkF m pc Ls st) := by
  obtain ⟨o, d, rfl, h1, h2⟩ := d
  exact g_st (fun X _ t kt => XS.goto X.here C.1 rfl (pc0 := pc) (pc' := pct) rfl (hb C.2.2.2.1 d) h1 h2 kt) G
theorem g_icmp_lt (C : Cx p s m meth c Z n0 own bytes maxl ret nm) (d : Jm bytes pc (.if_icmp .lt) pc' pct) {x y : Int32} (Gt : x < y → Go p l e R s m args below meth c n0 Q K N h k n (mkF m pct Ls st)) (Gf : ¬ (x < y) → Go p l e R s m args below meth c n0 Q K N h k n (mkF m pc' Ls st)) : Go p l e R s m args below meth c n0 Q K N h k n (mkF m pc Ls (.int y :: .int x :: st)) := by
  obtain ⟨o, d, rfl, h1, h2⟩ := d
  by_cases q : x < y
  · exact g_st (fun X _ t kt => XS.icmpYes X.here C.1 rfl (pc0 := pc) (pc' := pct) rfl (hb C.2.2.2.1 d) rfl (tlt q).1 h1 h2 kt) (Gt q)
  · exact g_st (fun X _ t kt => XS.icmpNo X.here C.1 rfl (hb C.2.2.2.1 d) rfl (flt q).1 kt) (Gf q)
theorem g_if_lt (C : Cx p s m meth c Z n0 own bytes maxl ret nm) (d : Jm bytes pc (.ifCond .lt) pc' pct) {x : Int32} (Gt : x < 0 → Go p l e R s m args below meth c n0 Q K N h k n (mkF m pct Ls st)) (Gf : ¬ (x < 0) → Go p l e R s m args below meth c n0 Q K N h k n (mkF m pc' Ls st)) : Go p l e R s m args below meth c n0 Q K N h k n (mkF m pc Ls (.int x :: st)) := by
  obtain ⟨o, d, rfl, h1, h2⟩ := d
  by_cases q : x < 0
  · exact g_st (fun X _ t kt => XS.ifYes X.here C.1 rfl (pc0 := pc) (pc' := pct) rfl (hb C.2.2.2.1 d) rfl ((if0 _ _).trans (tlt q).1) h1 h2 kt) (Gt q)
  · exact g_st (fun X _ t kt => XS.ifNo X.here C.1 rfl (hb C.2.2.2.1 d) rfl ((if0 _ _).trans (flt q).1) kt) (Gf q)
theorem g_lcmp_lt (C : Cx p s m meth c Z n0 own bytes maxl ret nm) {x y : Int64} (d1 : In bytes pc 1 .lcmp pc1) (d : Jm bytes pc1 (.ifCond .lt) pc' pct) (Gt : x < y → Go p l e R s m args below meth c n0 Q K N h k n (mkF m pct Ls st)) (Gf : ¬ (x < y) → Go p l e R s m args below meth c n0 Q K N h k n (mkF m pc' Ls st)) : Go p l e R s m args below meth c n0 Q K N h k n (mkF m pc Ls (.long y :: .long x :: st)) := by
  obtain ⟨d1, rfl⟩ := d1
  refine g_st (fun X _ t kt => XS.lcmp X.here C.1 rfl (hb C.2.2.2.1 d1) rfl kt) ?_
  exact g_if_lt C d (fun q => Gt ((lw_lt x y).mp q)) (fun q => Gf (fun z => q ((lw_lt x y).mpr z)))
theorem g_icmp_ge (C : Cx p s m meth c Z n0 own bytes maxl ret nm) (d : Jm bytes pc (.if_icmp .ge) pc' pct) {x y : Int32} (Gt : ¬ (x < y) → Go p l e R s m args below meth c n0 Q K N h k n (mkF m pct Ls st)) (Gf : x < y → Go p l e R s m args below meth c n0 Q K N h k n (mkF m pc' Ls st)) : Go p l e R s m args below meth c n0 Q K N h k n (mkF m pc Ls (.int y :: .int x :: st)) := by
  obtain ⟨o, d, rfl, h1, h2⟩ := d
  by_cases q : ¬ (x < y)
  · exact g_st (fun X _ t kt => XS.icmpYes X.here C.1 rfl (pc0 := pc) (pc' := pct) rfl (hb C.2.2.2.1 d) rfl (flt q).2.1 h1 h2 kt) (Gt q)
  · exact g_st (fun X _ t kt => XS.icmpNo X.here C.1 rfl (hb C.2.2.2.1 d) rfl (tlt (Decidable.not_not.mp q)).2.1 kt) (Gf (Decidable.not_not.mp q))
theorem g_if_ge (C : Cx p s m meth c Z n0 own bytes maxl ret nm) (d : Jm bytes pc (.ifCond .ge) pc' pct) {x : Int32} (Gt : ¬ (x < 0) → Go p l e R s m args below meth c n0 Q K N h k n (mkF m pct Ls st)) (Gf : x < 0 → Go p l e R s m args below meth c n0 Q K N h k n (mkF m pc' Ls st)) : Go p l e R s m args below meth c n0 Q K N h k n (mkF m pc Ls (.int x :: st)) := by
  obtain ⟨o, d, rfl, h1, h2⟩ := d
  by_cases q : ¬ (x < 0)
  · exact g_st (fun X _ t kt => XS.ifYes X.here C.1 rfl (pc0 := pc) (pc' := pct) rfl (hb C.2.2.2.1 d) rfl ((if0 _ _).trans (flt q).2.1) h1 h2 kt) (Gt q)
  · exact g_st (fun X _ t kt => XS.ifNo X.here C.1 rfl (hb C.2.2.2.1 d) rfl ((if0 _ _).trans (tlt (Decidable.not_not.mp q)).2.1) kt) (Gf (Decidable.not_not.mp q))
theorem g_lcmp_ge (C : Cx p s m meth c Z n0 own bytes maxl ret nm) {x y : Int64} (d1 : In bytes pc 1 .lcmp pc1) (d : Jm bytes pc1 (.ifCond .ge) pc' pct) (Gt : ¬ (x < y) → Go p l e R s m args below meth c n0 Q K N h k n (mkF m pct Ls st)) (Gf : x < y → Go p l e R s m args below meth c n0 Q K N h k n (mkF m pc' Ls st)) : Go p l e R s m args below meth c n0 Q K N h k n (mkF m pc Ls (.long y :: .long x :: st)) := by
  obtain ⟨d1, rfl⟩ := d1
  refine g_st (fun X _ t kt => XS.lcmp X.here C.1 rfl (hb C.2.2.2.1 d1) rfl kt) ?_
  exact g_if_ge C d (fun q => Gt (fun z => q ((lw_lt x y).mpr z))) (fun q => Gf ((lw_lt x y).mp q))
theorem g_icmp_gt (C : Cx p s m meth c Z n0 own bytes maxl ret nm) (d : Jm bytes pc (.if_icmp .gt) pc' pct) {x y : Int32} (Gt : y < x → Go p l e R s m args below meth c n0 Q K N h k n (mkF m pct Ls st)) (Gf : ¬ (y < x) → Go p l e R s m args below meth c n0 Q K N h k n (mkF m pc' Ls st)) : Go p l e R s m args below meth c n0 Q K N h k n (mkF m pc Ls (.int y :: .int x :: st)) := by
  obtain ⟨o, d, rfl, h1, h2⟩ := d
  by_cases q : y < x
  · exact g_st (fun X _ t kt => XS.icmpYes X.here C.1 rfl (pc0 := pc) (pc' := pct) rfl (hb C.2.2.2.1 d) rfl (tlt q).2.2.1 h1 h2 kt) (Gt q)
  · exact g_st (fun X _ t kt => XS.icmpNo X.here C.1 rfl (hb C.2.2.2.1 d) rfl (flt q).2.2.1 kt) (Gf q)
theorem g_if_gt (C : Cx p s m meth c Z n0 own bytes maxl ret nm) (d : Jm bytes pc (.ifCond .gt) pc' pct) {x : Int32} (Gt : 0 < x → Go p l e R s m args below meth c n0 Q K N h k n (mkF m pct Ls st)) (Gf : ¬ (0 < x) → Go p l e R s m args below meth c n0 Q K N h k n (mkF m pc' Ls st)) : Go p l e R s m args below meth c n0 Q K N h k n (mkF m pc Ls (.int x :: st)) := by
  obtain ⟨o, d, rfl, h1, h2⟩ := d
  by_cases q : 0 < x
  · exact g_st (fun X _ t kt => XS.ifYes X.here C.1 rfl (pc0 := pc) (pc' := pct) rfl (hb C.2.2.2.1 d) rfl ((if0 _ _).trans (tlt q).2.2.1) h1 h2 kt) (Gt q)
  · exact g_st (fun X _ t kt => XS.ifNo X.here C.1 rfl (hb C.2.2.2.1 d) rfl ((if0 _ _).trans (flt q).2.2.1) kt) (Gf q)
theorem g_lcmp_gt (C : Cx p s m meth c Z n0 own bytes maxl ret nm) {x y : Int64} (d1 : In bytes pc 1 .lcmp pc1) (d : Jm bytes pc1 (.ifCond .gt) pc' pct) (Gt : y < x → Go p l e R s m args below meth c n0 Q K N h k n (mkF m pct Ls st)) (Gf : ¬ (y < x) → Go p l e R s m args below meth c n0 Q K N h k n (mkF m pc' Ls st)) : Go p l e R s m args below meth c n0 Q K N h k n (mkF m pc Ls (.long y :: .long x :: st)) := by
  obtain ⟨d1, rfl⟩ := d1
  refine g_st (fun X _ t kt => XS.lcmp X.here C.1 rfl (hb C.2.2.2.1 d1) rfl kt) ?_
  exact g_if_gt C d (fun q => Gt ((lw_gt x y).mp q)) (fun q => Gf (fun z => q ((lw_gt x y).mpr z)))
theorem g_icmp_le (C : Cx p s m meth c Z n0 own bytes maxl ret nm) (d : Jm bytes pc (.if_icmp .le) pc' pct) {x y : Int32} (Gt : ¬ (y < x) → Go p l e R s m args below meth c n0 Q K N h k n (mkF m pct Ls st)) (Gf : y < x → Go p l e R s m args below meth c n0 Q K N h k n (mkF m pc' Ls st)) : Go p l e R s m args below meth c n0 Q K N h k n (mkF m pc Ls (.int y :: .int x :: st)) := by
  obtain ⟨o, d, rfl, h1, h2⟩ := d
  by_cases q : ¬ (y < x)
  · exact g_st (fun X _ t kt => XS.icmpYes X.here C.1 rfl (pc0 := pc) (pc' := pct) rfl (hb C.2.2.2.1 d) rfl (flt q).2.2.2 h1 h2 kt) (Gt q)
  · exact g_st (fun X _ t kt => XS.icmpNo X.here C.1 rfl (hb C.2.2.2.1 d) rfl (tlt (Decidable.not_not.mp q)).2.2.2 kt) (Gf (Decidable.not_not.mp q))
theorem g_if_le (C : Cx p s m meth c Z n0 own bytes maxl ret nm) (d : Jm bytes pc (.ifCond .le) pc' pct) {x : Int32} (Gt : ¬ (0 < x) → Go p l e R s m args below meth c n0 Q K N h k n (mkF m pct Ls st)) (Gf : 0 < x → Go p l e R s m args below meth c n0 Q K N h k n (mkF m pc' Ls st)) : Go p l e R s m args below meth c n0 Q K N h k n (mkF m pc Ls (.int x :: st)) := by
  obtain ⟨o, d, rfl, h1, h2⟩ := d
  by_cases q : ¬ (0 < x)
  · exact g_st (fun X _ t kt => XS.ifYes X.here C.1 rfl (pc0 := pc) (pc' := pct) rfl (hb C.2.2.2.1 d) rfl ((if0 _ _).trans (flt q).2.2.2) h1 h2 kt) (Gt q)
  · exact g_st (fun X _ t kt => XS.ifNo X.here C.1 rfl (hb C.2.2.2.1 d) rfl ((if0 _ _).trans (tlt (Decidable.not_not.mp q)).2.2.2) kt) (Gf (Decidable.not_not.mp q))
theorem g_lcmp_le (C : Cx p s m meth c Z n0 own bytes maxl ret nm) {x y : Int64} (d1 : In bytes pc 1 .lcmp pc1) (d : Jm bytes pc1 (.ifCond .le) pc' pct) (Gt : ¬ (y < x) → Go p l e R s m args below meth c n0 Q K N h k n (mkF m pct Ls st)) (Gf : y < x → Go p l e R s m args below meth c n0 Q K N h k n (mkF m pc' Ls st)) : Go p l e R s m args below meth c n0 Q K N h k n (mkF m pc Ls (.long y :: .long x :: st)) := by
  obtain ⟨d1, rfl⟩ := d1
  refine g_st (fun X _ t kt => XS.lcmp X.here C.1 rfl (hb C.2.2.2.1 d1) rfl kt) ?_
  exact g_if_le C d (fun q => Gt (fun z => q ((lw_gt x y).mpr z))) (fun q => Gf ((lw_gt x y).mp q))
theorem g_icmp_eq (C : Cx p s m meth c Z n0 own bytes maxl ret nm) (d : Jm bytes pc (.if_icmp .eq) pc' pct) {x y : Int32} (Gt : x = y → Go p l e R s m args below meth c n0 Q K N h k n (mkF m pct Ls st)) (Gf : ¬ (x = y) → Go p l e R s m args below meth c n0 Q K N h k n (mkF m pc' Ls st)) : Go p l e R s m args below meth c n0 Q K N h k n (mkF m pc Ls (.int y :: .int x :: st)) := by
  obtain ⟨o, d, rfl, h1, h2⟩ := d
  by_cases q : x = y
  · exact g_st (fun X _ t kt => XS.icmpYes X.here C.1 rfl (pc0 := pc) (pc' := pct) rfl (hb C.2.2.2.1 d) rfl (teq q).1 h1 h2 kt) (Gt q)
  · exact g_st (fun X _ t kt => XS.icmpNo X.here C.1 rfl (hb C.2.2.2.1 d) rfl (feq q).1 kt) (Gf q)
theorem g_if_eq (C : Cx p s m meth c Z n0 own bytes maxl ret nm) (d : Jm bytes pc (.ifCond .eq) pc' pct) {x : Int32} (Gt : x = 0 → Go p l e R s m args below meth c n0 Q K N h k n (mkF m pct Ls st)) (Gf : ¬ (x = 0) → Go p l e R s m args below meth c n0 Q K N h k n (mkF m pc' Ls st)) : Go p l e R s m args below meth c n0 Q K N h k n (mkF m pc Ls (.int x :: st)) := by
  obtain ⟨o, d, rfl, h1, h2⟩ := d
  by_cases q : x = 0
  · exact g_st (fun X _ t kt => XS.ifYes X.here C.1 rfl (pc0 := pc) (pc' := pct) rfl (hb C.2.2.2.1 d) rfl ((if0 _ _).trans (teq q).1) h1 h2 kt) (Gt q)
  · exact g_st (fun X _ t kt => XS.ifNo X.here C.1 rfl (hb C.2.2.2.1 d) rfl ((if0 _ _).trans (feq q).1) kt) (Gf q)
theorem g_lcmp_eq (C : Cx p s m meth c Z n0 own bytes maxl ret nm) {x y : Int64} (d1 : In bytes pc 1 .lcmp pc1) (d : Jm bytes pc1 (.ifCond .eq) pc' pct) (Gt : x = y → Go p l e R s m args below meth c n0 Q K N h k n (mkF m pct Ls st)) (Gf : ¬ (x = y) → Go p l e R s m args below meth c n0 Q K N h k n (mkF m pc' Ls st)) : Go p l e R s m args below meth c n0 Q K N h k n (mkF m pc Ls (.long y :: .long x :: st)) := by
  obtain ⟨d1, rfl⟩ := d1
  refine g_st (fun X _ t kt => XS.lcmp X.here C.1 rfl (hb C.2.2.2.1 d1) rfl kt) ?_
  exact g_if_eq C d (fun q => Gt ((lw_eq x y).mp q)) (fun q => Gf (fun z => q ((lw_eq x y).mpr z)))
theorem g_icmp_ne (C : Cx p s m meth c Z n0 own bytes maxl ret nm) (d : Jm bytes pc (.if_icmp .ne) pc' pct) {x y : Int32} (Gt : ¬ (x = y) → Go p l e R s m args below meth c n0 Q K N h k n (mkF m pct Ls st)) (Gf : x = y → Go p l e R s m args below meth c n0 Q K N h k n (mkF m pc' Ls st)) : Go p l e R s m args below meth c n0 Q K N h k n (mkF m pc Ls (.int y :: .int x :: st)) := by
  obtain ⟨o, d, rfl, h1, h2⟩ := d
  by_cases q : ¬ (x = y)
  · exact g_st (fun X _ t kt => XS.icmpYes X.here C.1 rfl (pc0 := pc) (pc' := pct) rfl (hb C.2.2.2.1 d) rfl (feq q).2 h1 h2 kt) (Gt q)
  · exact g_st (fun X _ t kt => XS.icmpNo X.here C.1 rfl (hb C.2.2.2.1 d) rfl (teq (Decidable.not_not.mp q)).2 kt) (Gf (Decidable.not_not.mp q))
theorem g_if_ne (C : Cx p s m meth c Z n0 own bytes maxl ret nm) (d : Jm bytes pc (.ifCond .ne) pc' pct) {x : Int32} (Gt : ¬ (x = 0) → Go p l e R s m args below meth c n0 Q K N h k n (mkF m pct Ls st)) (Gf : x = 0 → Go p l e R s m args below meth c n0 Q K N h k n (mkF m pc' Ls st)) : Go p l e R s m args below meth c n0 Q K N h k n (mkF m pc Ls (.int x :: st)) := by
  obtain ⟨o, d, rfl, h1, h2⟩ := d
  by_cases q : ¬ (x = 0)
  · exact g_st (fun X _ t kt => XS.ifYes X.here C.1 rfl (pc0 := pc) (pc' := pct) rfl (hb C.2.2.2.1 d) rfl ((if0 _ _).trans (feq q).2) h1 h2 kt) (Gt q)
  · exact g_st (fun X _ t kt => XS.ifNo X.here C.1 rfl (hb C.2.2.2.1 d) rfl ((if0 _ _).trans (teq (Decidable.not_not.mp q)).2) kt) (Gf (Decidable.not_not.mp q))
theorem g_lcmp_ne (C : Cx p s m meth c Z n0 own bytes maxl ret nm) {x y : Int64} (d1 : In bytes pc 1 .lcmp pc1) (d : Jm bytes pc1 (.ifCond .ne) pc' pct) (Gt : ¬ (x = y) → Go p l e R s m args below meth c n0 Q K N h k n (mkF m pct Ls st)) (Gf : x = y → Go p l e R s m args below meth c n0 Q K N h k n (mkF m pc' Ls st)) : Go p l e R s m args below meth c n0 Q K N h k n (mkF m pc Ls (.long y :: .long x :: st)) := by
  obtain ⟨d1, rfl⟩ := d1
  refine g_st (fun X _ t kt => XS.lcmp X.here C.1 rfl (hb C.2.2.2.1 d1) rfl kt) ?_
  exact g_if_ne C d (fun q => Gt (fun z => q ((lw_eq x y).mpr z))) (fun q => Gf ((lw_eq x y).mp q))
theorem g_ldc2 (C : Cx p s m meth c Z n0 own bytes maxl ret nm) {i : Nat} {v : Int64} (w : (Cond.constantLong own i v).before a0 Z = true) (d : In bytes pc 3 (.ldc2_w i) pc') (G : Go p l e R s m args below meth c n0 Q K N h k n (mkF m pc' Ls (.long v :: st))) : Go p l e R s m args below meth c n0 Q K N h k n (mkF m pc Ls st) := by
  obtain ⟨d, rfl⟩ := d
  exact g_st (fun X _ t kt => X.ldc2Long C.1 C.2.2.1 (mvT C.2.1 w) (g := mkF m pc Ls st) rfl (hb C.2.2.2.1 d) _ kt) G
theorem g_ldc (C : Cx p s m meth c Z n0 own bytes maxl ret nm) {i : Nat} {v : Int32} (w : (Cond.constant own i v).before a0 Z = true) (d : In bytes pc 2 (.ldc i) pc') (G : Go p l e R s m args below meth c n0 Q K N h k n (mkF m pc' Ls (.int v :: st))) : Go p l e R s m args below meth c n0 Q K N h k n (mkF m pc Ls st) := by
  obtain ⟨d, rfl⟩ := d
  exact g_st (fun X _ t kt => X.ldcInt C.1 C.2.2.1 (mvT C.2.1 w) (g := mkF m pc Ls st) rfl (hb C.2.2.2.1 d) _ kt) G
theorem g_getF (C : Cx p s m meth c Z n0 own bytes maxl ret nm) {i : Nat} {O f ds : String} (w : (Cond.fieldLink own i O f ds).before a0 Z = true) (d : In bytes pc 3 (.getfield i) pc') {a : Addr} {v : Value} (F : Fld Z h a O f ds v) (G : Go p l e R s m args below meth c n0 Q K N h k n (mkF m pc' Ls (v :: st))) : Go p l e R s m args below meth c n0 Q K N h k n (mkF m pc Ls (.ref a :: st)) := by
  obtain ⟨d, rfl⟩ := d
  intro T L hL X eT
  obtain ⟨T', X', e', st'⟩ := getF X C.1 C.2.1 C.2.2.1 (host := "") (Or.inl w) Via.refl eT F (g := mkF m pc Ls (.ref a :: st)) rfl rfl (hb C.2.2.2.1 d)
  obtain ⟨t, o, h1, h2⟩ := G T' L hL X' e'
  exact ⟨t, o, st' t h1, h2⟩
theorem g_putF (C : Cx p s m meth c Z n0 own bytes maxl ret nm) {i kk : Nat} {O f ds K' : String} {ty : FieldType} (w : (Cond.fieldLink own i O f ds).before a0 Z = true) (d : In bytes pc 3 (.putfield i) pc') {a : Addr} {v v' old : Value} (F : Fld Z h a O f ds old) (E : Exa Z h a K')
    (L : (Cond.lays K' O f ds).before a0 Z = true ∨ ((Cond.laysFinal K' O f ds).before a0 Z = true ∧ own = O ∧ nm = "<init>")) (wi : (Cond.instantiable K' kk).before a0 Z = true) (hty : parseFieldDescriptor ds = some ty) (hn : narrow ty v = v') (hf : fits ty v' = true) (ge : n0 ≤ a)
    (G : ∀ h', Wr h h' a (Jvm.RoadKit.slotOf Z O f ds) v' → Go p l e R s m args below meth c n0 Q K N h' k n (mkF m pc' Ls st)) : Go p l e R s m args below meth c n0 Q K N h k n (mkF m pc Ls (v :: .ref a :: st)) := by
  obtain ⟨d, rfl⟩ := d
  intro T Lo hL X eT
  have L' : (Cond.lays K' O f ds).before a0 Z = true ∨ ((Cond.laysFinal K' O f ds).before a0 Z = true ∧ own = O ∧ meth.name = "<init>") := L.imp id fun q => ⟨q.1, q.2.1, C.2.2.2.2.2.2.2.1.trans q.2.2⟩
  obtain ⟨T', h', X', e', W', st'⟩ := putFN X C.1 C.2.1 C.2.2.1 w Via.refl eT F E L' wi hty hn hf (g := mkF m pc Ls (v :: .ref a :: st)) rfl rfl (hb C.2.2.2.1 d)
  obtain ⟨t, o, h1, h2⟩ := G h' W' T' _ (Fr.snoc X' hL ge) X' e'
  exact ⟨t, o, st' t h1, h2⟩
theorem g_new (C : Cx p s m meth c Z n0 own bytes maxl ret nm) {i sz : Nat} {K' : String} (w : (Cond.classLink own i K').before a0 Z = true) (wi : (Cond.instantiable K' sz).before a0 Z = true) (wz : (Cond.initialized K').before a0 Z = true) (d : In bytes pc 3 (.new i) pc') (hc : k + 1 ≤ R.cells) (hl : n + sz ≤ R.slots)
    (G : ∀ h' a, n0 ≤ a → a = h.size → Ext h h' → Exa Z h' a K' → (∀ {O f ds : String} {ty : FieldType}, Laid Z a0 K' O f ds → parseFieldDescriptor ds = some ty → Fld Z h' a O f ds (defaultValue ty)) → Go p l e R s m args below meth c n0 Q K N h' (k + 1) (n + sz) (mkF m pc' Ls (.ref a :: st))) : Go p l e R s m args below meth c n0 Q K N h k n (mkF m pc Ls st) := by
  obtain ⟨d, rfl⟩ := d
  intro T Lo hL X eT
  have ge : n0 ≤ h.size := Nat.le_trans C.2.2.2.2.2.2.2.2 (eT ▸ Stand.up X)
  obtain ⟨T', h', X', e', E', A', D', -, st'⟩ := newO X C.1 C.2.1 C.2.2.1 w wi wz eT (g := mkF m pc Ls st) rfl (hb C.2.2.2.1 d) hc hl
  obtain ⟨t, o, h1, h2⟩ := G h' h.size ge rfl E' A' D' T' _ hL X' e'
  exact ⟨t, o, st' t h1, h2⟩
theorem g_newarr (C : Cx p s m meth c Z n0 own bytes maxl ret nm) {aty : ArrayType} (w : (Cond.arrayClass (newarray.typeOf aty)).before a0 Z = true) (d : In bytes pc 2 (.newarray aty) pc') {z : Int32} (hz : ¬ z < 0) (cap : Nat) (hcap : z.toNatClampNeg ≤ cap) (hb8 : cap * 8 ≤ 536870912) (hc : k + 1 ≤ R.cells) (hl : n + cap ≤ R.slots)
    (G : ∀ h' a kA, n0 ≤ a → a = h.size → Ext h h' → Arr Z h' a (newA kA (newarray.typeOf aty) z) (newarray.typeOf aty) → Go p l e R s m args below meth c n0 Q K N h' (k + 1) (n + cap) (mkF m pc' Ls (.ref a :: st))) : Go p l e R s m args below meth c n0 Q K N h k n (mkF m pc Ls (.int z :: st)) := by
  obtain ⟨d, rfl⟩ := d
  intro T Lo hL X eT
  have ge : n0 ≤ h.size := Nat.le_trans C.2.2.2.2.2.2.2.2 (eT ▸ Stand.up X)
  obtain ⟨T', h', kA, X', e', E', A', st'⟩ := newP X C.1 C.2.1 w eT (g := mkF m pc Ls (.int z :: st)) rfl (hb C.2.2.2.1 d) rfl hz hcap hb8 hc hl
  obtain ⟨t, o, h1, h2⟩ := G h' h.size kA ge rfl E' A' T' _ hL X' e'
  exact ⟨t, o, st' t h1, h2⟩
theorem g_initO (C : Cx p s m meth c Z n0 own bytes maxl ret nm) {i : Nat} (w1 : (Cond.methodLink own i Lib.objectInit).before a0 Z = true) (w2 : (Cond.instanceMethod Lib.objectInit).before a0 Z = true) (w3 : (Cond.code Lib.objectInit ⟨#[0xb1]⟩ 1 none).before a0 Z = true) (d : In bytes pc 3 (.invokespecial i) pc') (hsz : Ls.size = maxl) {a : Addr} (hf : 1 ≤ R.frames) (W : Nat) (hW : (st.map fun v => v.category).sum ≤ W) (hl : W + 12 ≤ R.locals) (G : Go p l e R s m args below meth c n0 Q K N h k n (mkF m pc' Ls st)) : Go p l e R s m args below meth c n0 Q K N h k n (mkF m pc Ls (.ref a :: st)) := by
  obtain ⟨d, rfl⟩ := d
  intro T L hL X eT
  obtain ⟨T', X', e', st'⟩ := initO X C.1 C.2.1 C.2.2.1 w1 w2 w3 eT (g := mkF m pc Ls (.ref a :: st)) rfl (by rw [C.2.2.2.2.1]; exact hsz) rfl (hb C.2.2.2.1 d) hf (W := W) (by show 2 * 0 + _ ≤ _; omega) hl
  obtain ⟨t, o, h1, h2⟩ := G T' L hL X' e'
  exact ⟨t, o, st' t h1, h2⟩
theorem g_retI (C : Cx p s m meth c Z n0 own bytes maxl (some .int) nm) (d : In bytes pc 1 .ireturn pc') {z : Int32} (hk : k ≤ K) (hn : n ≤ N) (q : Q (some (.int z)) h) : Go p l e R s m args below meth c n0 Q K N h k n (mkF m pc Ls ([.int z])) := by
  obtain ⟨d, rfl⟩ := d
  intro T L hL X eT
  have hlk : meth.locks = false := C.2.2.2.2.2.2.1
  obtain ⟨fs, hr, hrun, hended, hW, hsame⟩ := X.leave (v := some (.int z)) (fun h => by rw [C.2.2.2.2.2.1] at h; cases h) hlk
  refine ⟨_, _, X.ireturnOut C.1 C.2.2.2.2.2.1 rfl (Or.inl rfl) (hb C.2.2.2.1 d) hr, hrun, hended, _, _, rfl, ⟨?_, hL⟩, ⟨_, rfl⟩, hW, hsame.mono hk hn⟩
  show Q _ T.heap
  rw [eT]; exact q
theorem g_retJ (C : Cx p s m meth c Z n0 own bytes maxl (some .long) nm) (d : In bytes pc 1 .lreturn pc') {z : Int64} (hk : k ≤ K) (hn : n ≤ N) (q : Q (some (.long z)) h) : Go p l e R s m args below meth c n0 Q K N h k n (mkF m pc Ls ([.long z])) := by
  obtain ⟨d, rfl⟩ := d
  intro T L hL X eT
  have hlk : meth.locks = false := C.2.2.2.2.2.2.1
  obtain ⟨fs, hr, hrun, hended, hW, hsame⟩ := X.leave (v := some (.long z)) (fun h => by rw [C.2.2.2.2.2.1] at h; cases h) hlk
  refine ⟨_, _, X.lreturnOut C.1 C.2.2.2.2.2.1 (hb C.2.2.2.1 d) hr, hrun, hended, _, _, rfl, ⟨?_, hL⟩, ⟨_, rfl⟩, hW, hsame.mono hk hn⟩
  show Q _ T.heap
  rw [eT]; exact q
theorem g_retZ (C : Cx p s m meth c Z n0 own bytes maxl (some .boolean) nm) (d : In bytes pc 1 .ireturn pc') {z : Int32} (hk : k ≤ K) (hn : n ≤ N) (q : Q (some (.int (z &&& 1))) h) : Go p l e R s m args below meth c n0 Q K N h k n (mkF m pc Ls ([.int z])) := by
  obtain ⟨d, rfl⟩ := d
  intro T L hL X eT
  have hlk : meth.locks = false := C.2.2.2.2.2.2.1
  obtain ⟨fs, hr, hrun, hended, hW, hsame⟩ := X.leave (v := some (.int (z &&& 1))) (fun h => by rw [C.2.2.2.2.2.1] at h; cases h) hlk
  refine ⟨_, _, retN X C.1 (t := .boolean) C.2.2.2.2.2.1 (by simp) (hb C.2.2.2.1 d) hr, hrun, hended, _, _, rfl, ⟨?_, hL⟩, ⟨_, rfl⟩, hW, hsame.mono hk hn⟩
  show Q _ T.heap
  rw [eT]; exact q
theorem g_retA (C : Cx p s m meth c Z n0 own bytes maxl ret nm) {ty : FieldType} (hret : ret = some ty) (hty : ty.isReference = true) (d : In bytes pc 1 .areturn pc') {z : Value} (hz : z.isRef = true) (hk : k ≤ K) (hn : n ≤ N) (q : Q (some z) h) : Go p l e R s m args below meth c n0 Q K N h k n (mkF m pc Ls ([z])) := by
  obtain ⟨d, rfl⟩ := d
  subst hret
  intro T L hL X eT
  have hlk : meth.locks = false := C.2.2.2.2.2.2.1
  obtain ⟨fs, hr, hrun, hended, hW, hsame⟩ := X.leave (v := some z) (fun h => by rw [C.2.2.2.2.2.1] at h; cases h) hlk
  refine ⟨_, _, X.areturnOut C.1 hz C.2.2.2.2.2.1 hty (hb C.2.2.2.1 d) hr, hrun, hended, _, _, rfl, ⟨?_, hL⟩, ⟨_, rfl⟩, hW, hsame.mono hk hn⟩
  show Q _ T.heap
  rw [eT]; exact q
theorem g_ret (C : Cx p s m meth c Z n0 own bytes maxl none nm) (d : In bytes pc 1 .return_ pc') (hk : k ≤ K) (hn : n ≤ N) (q : Q none h) : Go p l e R s m args below meth c n0 Q K N h k n (mkF m pc Ls []) := by
  obtain ⟨d, rfl⟩ := d
  intro T L hL X eT
  have hlk : meth.locks = false := C.2.2.2.2.2.2.1
  obtain ⟨fs, hr, hrun, hended, hW, hsame⟩ := X.leave (v := none) (fun _ => rfl) hlk
  refine ⟨_, _, X.returnOut C.1 C.2.2.2.2.2.1 (hb C.2.2.2.1 d) hr, hrun, hended, _, _, rfl, ⟨?_, hL⟩, ⟨_, rfl⟩, hW, hsame.mono hk hn⟩
  show Q _ T.heap
  rw [eT]; exact q
/-- a method's contract: called with 'as' at a heap h0 it comes back so -/
abbrev Con (l : Launch) (Z : State) (y : MethodName) (bytes : ByteArray) (maxl : Nat) (ret : Option FieldType) (rm : Room) (ws : List Jvm.Cond) (as : Array Value) (h0 : Heap) (n0 : Nat) (Q : Option Value → Heap → Prop) : Prop :=
  MetFree l y (head1 (Jvm.Cond.code y bytes maxl ret :: ws) rm) (fun a U => a = as ∧ Z.Warmed39 U.vm ∧ U.heap = h0) (fun _ _ _ _ _ => True) (fun _ U o U' => ∃ v L, o = .returned v ∧ (Q v U'.heap ∧ Fr n0 L) ∧ FrameEnd U o U' L rm.cells rm.slots)
theorem con_of {y : MethodName} {rm : Room} {ws : List Jvm.Cond} {as : Array Value} {h0 : Heap} {Ls0 : Array Slot} (hpl : plainFor y = true) (he : ∀ m, entryFrame m as maxl = mkF m 0 Ls0 []) (hn0 : n0 ≤ h0.size)
    (B : ∀ (p : Program) (e : Env) (s : State) (m : MethodId) (below : List Frame) (meth : Method) (c : ClassFile.Code), Cx p s m meth c Z n0 y.cls bytes maxl ret y.name → Go p l e rm s m as below meth c n0 Q rm.cells rm.slots h0 0 0 (mkF m 0 Ls0 [])) : Con l Z y bytes maxl ret rm ws as h0 n0 Q := by
  refine MetFree.of_bodySF hpl hisR ?_
  intro p e s m args below meth c s₁ Bd hml0 hP hK
  obtain ⟨rfl, hZ, hh⟩ := hP
  have hlk : meth.locks = false := BodyLoose.notSynchronized Bd
  have X0 : Stand p l e rm s m _ below meth c s₁ [] 0 0 := Stand.of_body Bd
  have e0 : s₁.heap = h0 := by rw [← hh, Bd.state]; rfl
  obtain ⟨t, o, h1, h2, h3, v, L, h4, h5, h6⟩ := B p e s m below meth c ⟨Bd.exec, hZ, findClass_of_methodNamed Bd.named, Bd.bytes, hml0, Bd.returns, hlk, (name_of_methodNamed Bd.named Bd.method).1, by rw [hh]; exact hn0⟩ s₁ [] (Fr.nil n0) X0 e0
  exact ⟨t, o, castTop (he m) h1, h2, h3, v, L, h4, h5, h6⟩
theorem g_callS (C : Cx p s m meth c Z n0 own bytes maxl ret nm) {y : MethodName} {by' : ByteArray} {ml : Nat} {rt : Option FieldType} {rm : Room} {as : Array Value} {Q' : Option Value → Heap → Prop} (con : Con l Z y by' ml rt rm [] as h n0 Q') {i : Nat} (w1 : (Cond.methodLink own i y).before a0 Z = true) (w2 : (Cond.static y).before a0 Z = true) (w3 : (Cond.initialized y.cls).before a0 Z = true) (w4 : (Cond.code y by' ml rt).before a0 Z = true) (hy : y.cls ≠ "java/lang/invoke/MethodHandle" ∧ y.cls ≠ "java/lang/invoke/VarHandle")
    (d : In bytes pc 3 (.invokestatic i) pc') {ps : List FieldType} {r : Option FieldType} (hpd : parseMethodDescriptor y.desc = some ⟨ps, r⟩) (argsL rest : List Value) (has : as = argsL.toArray) (hlen : argsL.length = ps.length) (hsz : Ls.size = maxl) (W : Nat) (hW : (rest.map fun v => v.category).sum ≤ W) (r1 : rm.frames + 1 ≤ R.frames) (r2 : W + (ml + 11) + rm.locals ≤ R.locals) (r3 : k + rm.cells ≤ R.cells) (r4 : n + rm.slots ≤ R.slots)
    (G : ∀ v h', Q' v h' → Go p l e R s m args below meth c n0 Q K N h' (k + rm.cells) (n + rm.slots) (mkF m pc' Ls (v.toList ++ rest))) : Go p l e R s m args below meth c n0 Q K N h k n (mkF m pc Ls (argsL.reverse ++ rest)) := by
  obtain ⟨d, rfl⟩ := d
  intro T L hL X eT
  obtain ⟨v, vm₁, ⟨T', L2, k2, n2⟩, -, X', ⟨Lc, hQ, l2, y2, z2⟩, st'⟩ := Jvm.LawKit.callS X C.1 (y := y) C.2.2.1 (mvT C.2.1 w1) (mvT C.2.1 w2) (mvT C.2.1 w3) (mvT C.2.1 w4) hy (backOf (W := W) (Q := fun v h L => Q' v h ∧ Fr n0 L) con C.2.1 w4 w3 r1 r2) (g := mkF m pc Ls (argsL.reverse ++ rest)) rfl (by rw [C.2.2.2.2.1]; exact hsz) (argsL := argsL) (rest := rest) (lenOf hpd hlen) rfl (by show 2 * 0 + _ ≤ _; omega) (hb C.2.2.2.1 d) (fun _ _ => ⟨has.symm, eT, r3, r4⟩)
  dsimp only [Pt.U, Pt.locs, Pt.cells, Pt.slots] at X' l2 y2 z2 st' hQ
  subst l2 y2 z2
  obtain ⟨t, o, h1, h2⟩ := G v T'.heap hQ.1 T' _ (Fr.app hL hQ.2) X' rfl
  exact ⟨t, o, st' t h1, h2⟩
theorem g_callI (C : Cx p s m meth c Z n0 own bytes maxl ret nm) {y : MethodName} {by' : ByteArray} {ml : Nat} {rm : Room} {as : Array Value} {Q' : Option Value → Heap → Prop} (con : Con l Z y by' ml none rm [] as h n0 Q') {i : Nat} (hini : y.name = "<init>") (w1 : (Cond.methodLink own i y).before a0 Z = true) (w2 : (Cond.instanceMethod y).before a0 Z = true) (w3 : (Cond.initialized y.cls).before a0 Z = true) (w4 : (Cond.code y by' ml none).before a0 Z = true) (hy : y.cls ≠ "java/lang/invoke/MethodHandle" ∧ y.cls ≠ "java/lang/invoke/VarHandle")
    (d : In bytes pc 3 (.invokespecial i) pc') {ps : List FieldType} {r : Option FieldType} (hpd : parseMethodDescriptor y.desc = some ⟨ps, r⟩) {a : Addr} (argsL rest : List Value) (has : as = (.ref a :: argsL).toArray) (hlen : argsL.length = ps.length) (hsz : Ls.size = maxl) (W : Nat) (hW : (rest.map fun v => v.category).sum ≤ W) (r1 : rm.frames + 1 ≤ R.frames) (r2 : W + (ml + 11) + rm.locals ≤ R.locals) (r3 : k + rm.cells ≤ R.cells) (r4 : n + rm.slots ≤ R.slots)
    (G : ∀ v h', Q' v h' → Go p l e R s m args below meth c n0 Q K N h' (k + rm.cells) (n + rm.slots) (mkF m pc' Ls (v.toList ++ rest))) : Go p l e R s m args below meth c n0 Q K N h k n (mkF m pc Ls (argsL.reverse ++ .ref a :: rest)) := by
  obtain ⟨d, rfl⟩ := d
  intro T L hL X eT
  obtain ⟨v, vm₁, ⟨T', L2, k2, n2⟩, -, X', ⟨Lc, hQ, l2, y2, z2⟩, st'⟩ := X.specialBack C.1 (y := y) hini C.2.2.1 (mvT C.2.1 w1) (mvT C.2.1 w2) (mvT C.2.1 w4) hy (backOf (W := W) (Q := fun v h L => Q' v h ∧ Fr n0 L) con C.2.1 w4 w3 r1 r2) (g := mkF m pc Ls (argsL.reverse ++ .ref a :: rest)) rfl (by rw [C.2.2.2.2.1]; exact hsz) (Steps.refl _) (a := a) (argsL := argsL) (rest := rest) (lenOf hpd hlen) rfl (by show 2 * 0 + _ ≤ _; omega) (hb C.2.2.2.1 d) (fun _ _ => ⟨has.symm, eT, r3, r4⟩)
  dsimp only [Pt.U, Pt.locs, Pt.cells, Pt.slots] at X' l2 y2 z2 st' hQ
  subst l2 y2 z2
  obtain ⟨t, o, h1, h2⟩ := G v T'.heap hQ.1 T' _ (Fr.app hL hQ.2) X' rfl
  exact ⟨t, o, st'.trans h1, h2⟩
theorem g_callV (C : Cx p s m meth c Z n0 own bytes maxl ret nm) {y : MethodName} {by' : ByteArray} {ml : Nat} {rt : Option FieldType} {rm : Room} {as : Array Value} {Q' : Option Value → Heap → Prop} (con : Con l Z y by' ml rt rm [] as h n0 Q') {i : Nat} (w1 : (Cond.methodLink own i y).before a0 Z = true) (w2 : (Cond.declares y).before a0 Z = true) (w5 : (Cond.instanceMethod y).before a0 Z = true) {K' : String} (w6 : (Cond.selects K' y y).before a0 Z = true) (w3 : (Cond.initialized y.cls).before a0 Z = true) (w4 : (Cond.code y by' ml rt).before a0 Z = true) (hy : y.cls ≠ "java/lang/invoke/MethodHandle" ∧ y.cls ≠ "java/lang/invoke/VarHandle")
    (d : In bytes pc 3 (.invokevirtual i) pc') {ps : List FieldType} {r : Option FieldType} (hpd : parseMethodDescriptor y.desc = some ⟨ps, r⟩) {a : Addr} (E : Exa Z h a K') (argsL rest : List Value) (has : as = (.ref a :: argsL).toArray) (hlen : argsL.length = ps.length) (hsz : Ls.size = maxl) (W : Nat) (hW : (rest.map fun v => v.category).sum ≤ W) (r1 : rm.frames + 1 ≤ R.frames) (r2 : W + (ml + 11) + rm.locals ≤ R.locals) (r3 : k + rm.cells ≤ R.cells) (r4 : n + rm.slots ≤ R.slots)
    (G : ∀ v h', Q' v h' → Go p l e R s m args below meth c n0 Q K N h' (k + rm.cells) (n + rm.slots) (mkF m pc' Ls (v.toList ++ rest))) : Go p l e R s m args below meth c n0 Q K N h k n (mkF m pc Ls (argsL.reverse ++ .ref a :: rest)) := by
  obtain ⟨d, rfl⟩ := d
  intro T L hL X eT
  obtain ⟨cq, kq, q1, q2, q3⟩ := isOf C.2.1 eT E
  obtain ⟨v, vm₁, ⟨T', L2, k2, n2⟩, -, X', ⟨Lc, hQ, l2, y2, z2⟩, st'⟩ := X.virtualBack C.1 (y := y) (z := y) C.2.2.1 (mvT C.2.1 w1) (mvT C.2.1 w2) (notFace_of_selects (args := #[]) (mvT C.2.1 w6)) (mvT C.2.1 w6) (mvT C.2.1 w5) hy (backOf (W := W) (Q := fun v h L => Q' v h ∧ Fr n0 L) con C.2.1 w4 w3 r1 r2) q1 q3 (g := mkF m pc Ls (argsL.reverse ++ .ref a :: rest)) rfl (by rw [C.2.2.2.2.1]; exact hsz) (Steps.refl _) (argsL := argsL) (rest := rest) (lenOf hpd hlen) rfl (by show 2 * 0 + _ ≤ _; omega) (hb C.2.2.2.1 d) (fun _ _ => ⟨has.symm, eT, r3, r4⟩)
  dsimp only [Pt.U, Pt.locs, Pt.cells, Pt.slots] at X' l2 y2 z2 st' hQ
  subst l2 y2 z2
  obtain ⟨t, o, h1, h2⟩ := G v T'.heap hQ.1 T' _ (Fr.app hL hQ.2) X' rfl
  exact ⟨t, o, st'.trans h1, h2⟩
theorem g_callP (C : Cx p s m meth c Z n0 own bytes maxl ret nm) {y : MethodName} {by' : ByteArray} {ml : Nat} {rt : Option FieldType} {rm : Room} {as : Array Value} {Q' : Option Value → Heap → Prop} (con : Con l Z y by' ml rt rm [] as h n0 Q') {i : Nat} (w1 : (Cond.methodLink own i y).before a0 Z = true) (w5 : (Cond.instanceMethod y).before a0 Z = true) (w6 : (Cond.selects y.cls y y).before a0 Z = true) (w7 : (Cond.privateMethod y).before a0 Z = true) (w3 : (Cond.initialized y.cls).before a0 Z = true) (w4 : (Cond.code y by' ml rt).before a0 Z = true) (hy : y.cls ≠ "java/lang/invoke/MethodHandle" ∧ y.cls ≠ "java/lang/invoke/VarHandle")
    (d : In bytes pc 3 (.invokevirtual i) pc') {ps : List FieldType} {r : Option FieldType} (hpd : parseMethodDescriptor y.desc = some ⟨ps, r⟩) {a : Addr} {K' : String} (E : Exa Z h a K') (argsL rest : List Value) (has : as = (.ref a :: argsL).toArray) (hlen : argsL.length = ps.length) (hsz : Ls.size = maxl) (W : Nat) (hW : (rest.map fun v => v.category).sum ≤ W) (r1 : rm.frames + 1 ≤ R.frames) (r2 : W + (ml + 11) + rm.locals ≤ R.locals) (r3 : k + rm.cells ≤ R.cells) (r4 : n + rm.slots ≤ R.slots)
    (G : ∀ v h', Q' v h' → Go p l e R s m args below meth c n0 Q K N h' (k + rm.cells) (n + rm.slots) (mkF m pc' Ls (v.toList ++ rest))) : Go p l e R s m args below meth c n0 Q K N h k n (mkF m pc Ls (argsL.reverse ++ .ref a :: rest)) := by
  obtain ⟨d, rfl⟩ := d
  intro T L hL X eT
  obtain ⟨cq, q1, q2⟩ := E.cell
  obtain ⟨v, vm₁, ⟨T', L2, k2, n2⟩, -, X', ⟨Lc, hQ, l2, y2, z2⟩, st'⟩ := X.privateBack C.1 (y := y) C.2.2.1 (mvT C.2.1 w1) (mvT C.2.1 w5) (mvT C.2.1 w6) (Cond.privateMethod_at (mvP C.2.1 w7 (args := #[]))) (mvT C.2.1 w4) hy (backOf (W := W) (Q := fun v h L => Q' v h ∧ Fr n0 L) con C.2.1 w4 w3 r1 r2) (g := mkF m pc Ls (argsL.reverse ++ .ref a :: rest)) rfl (by rw [C.2.2.2.2.1]; exact hsz) (Steps.refl _) (a := a) (by rw [eT]; exact q1) q2 (argsL := argsL) (rest := rest) (lenOf hpd hlen) rfl (by show 2 * 0 + _ ≤ _; omega) (hb C.2.2.2.1 d) (fun _ _ => ⟨has.symm, eT, r3, r4⟩)
  dsimp only [Pt.U, Pt.locs, Pt.cells, Pt.slots] at X' l2 y2 z2 st' hQ
  subst l2 y2 z2
  obtain ⟨t, o, h1, h2⟩ := G v T'.heap hQ.1 T' _ (Fr.app hL hQ.2) X' rfl
  exact ⟨t, o, st'.trans h1, h2⟩
/-- an array of z places at a, whose contents are f -/
def LArr (Z : State) (h : Heap) (a : Addr) (z : Nat) (f : Nat → Int64) : Prop := ∃ c : Cell, Arr Z h a c .long ∧ c.slots.size = z ∧ z < 2 ^ 31 ∧ ∀ i, i < z → c.slots[i]? = some (.long (f i))
theorem LArr.lt {a : Addr} {z : Nat} {f : Nat → Int64} (A : LArr Z h a z f) : a < h.size := by obtain ⟨c, A, -⟩ := A; exact A.lt
theorem LArr.ext {h' : Heap} {a : Addr} {z : Nat} {f : Nat → Int64} (A : LArr Z h a z f) (E : Ext h h') : LArr Z h' a z f := by obtain ⟨c, A, r⟩ := A; exact ⟨c, A.ext E, r⟩
theorem LArr.other {h' : Heap} {a b : Addr} {sl : Nat} {v : Value} {z : Nat} {f : Nat → Int64} (A : LArr Z h b z f) (W : Wr h h' a sl v) (q : b ≠ a) : LArr Z h' b z f := by obtain ⟨c, A, r⟩ := A; exact ⟨c, A.other W q, r⟩
theorem LArr.keep {h' : Heap} {a : Addr} {ws : List Addr} {z : Nat} {f : Nat → Int64} (A : LArr Z h a z f) (K : Keep h h' ws) (q : a ∉ ws) : LArr Z h' a z f := by obtain ⟨c, A, r⟩ := A; exact ⟨c, ⟨K.2.1 a c A.1 q, A.2⟩, r⟩
theorem LArr.congr {a : Addr} {z : Nat} {f g : Nat → Int64} (A : LArr Z h a z f) (q : ∀ i, i < z → g i = f i) : LArr Z h a z g := by obtain ⟨c, A, r1, r2, r3⟩ := A; exact ⟨c, A, r1, r2, fun i hi => by rw [q i hi]; exact r3 i hi⟩
theorem LArr.new {a : Addr} {kA : ClassId} {z : Int32} (A : Arr Z h a (newA kA .long z) .long) : LArr Z h a z.toNatClampNeg (fun _ => 0) :=
  ⟨_, A, sz_new _ _ _, z.toNatClampNeg_lt, fun i hi => by simp [newA, hi, defaultValue]⟩
theorem LArr.set {h' : Heap} {a : Addr} {z j : Nat} {x : Int64} {f : Nat → Int64} (A : LArr Z h a z f) (W : Wr h h' a j (.long x)) : LArr Z h' a z (fun i => if i = j then x else f i) := by
  obtain ⟨c, A, r1, r2, r3⟩ := A
  refine ⟨_, A.same W, by simp [Cell.setSlot, r1], r2, fun i hi => ?_⟩
  by_cases q : i = j
  · subst q
    simp [Cell.setSlot, r1, hi]
  · simp only [q, if_false]
    rw [← r3 i hi]
    exact Array.getElem?_setIfInBounds_ne (Ne.symm q)
theorem g_laload (C : Cx p s m meth c Z n0 own bytes maxl ret nm) (d : In bytes pc 1 .laload pc') {a : Addr} {z : Nat} {f : Nat → Int64} {j : Int32} (A : LArr Z h a z f) (h1 : 0 ≤ j.toInt) (h2 : j.toInt < z) (v : Int64) (hv : f j.toInt.toNat = v) (G : Go p l e R s m args below meth c n0 Q K N h k n (mkF m pc' Ls (.long v :: st))) : Go p l e R s m args below meth c n0 Q K N h k n (mkF m pc Ls (.int j :: .ref a :: st)) := by
  obtain ⟨d, rfl⟩ := d
  obtain ⟨cl, A, r1, r2, r3⟩ := A
  have e1 : j.toNatClampNeg = j.toInt.toNat := rfl
  have hj : ¬ (j < 0 ∨ cl.slots.size ≤ j.toNatClampNeg) := by
    rw [Int32.lt_iff_toInt_lt, show (0 : Int32).toInt = 0 from rfl, r1, e1]; omega
  have hat : cl.slots[j.toNatClampNeg]? = some (.long v) := by rw [← hv, e1]; exact r3 _ (by omega)
  exact g_st (fun X eT t kt => X.laload C.1 (j := j) (v := .long v) (by rw [eT]; exact A.1) (State.isArrayOf_alike C.2.1.alike A.2.1) A.2.2 hj hat (g := mkF m pc Ls (.int j :: .ref a :: st)) rfl rfl (hb C.2.2.2.1 d) _ kt) G
theorem g_lastore (C : Cx p s m meth c Z n0 own bytes maxl ret nm) (d : In bytes pc 1 .lastore pc') {a : Addr} {z : Nat} {f : Nat → Int64} {j : Int32} {x : Int64} (A : LArr Z h a z f) (h1 : 0 ≤ j.toInt) (h2 : j.toInt < z) (ge : n0 ≤ a) (G : ∀ h', Wr h h' a j.toInt.toNat (.long x) → Go p l e R s m args below meth c n0 Q K N h' k n (mkF m pc' Ls st)) : Go p l e R s m args below meth c n0 Q K N h k n (mkF m pc Ls (.long x :: .int j :: .ref a :: st)) := by
  obtain ⟨d, rfl⟩ := d
  obtain ⟨cl, A, r1, r2, r3⟩ := A
  have e1 : j.toNatClampNeg = j.toInt.toNat := rfl
  have hj : ¬ (j < 0 ∨ cl.slots.size ≤ j.toNatClampNeg) := by
    rw [Int32.lt_iff_toInt_lt, show (0 : Int32).toInt = 0 from rfl, r1, e1]; omega
  intro T L hL X eT
  obtain ⟨T', h', X', e', W', st'⟩ := stJ X C.1 C.2.1 eT A (j := j) hj (g := mkF m pc Ls (.long x :: .int j :: .ref a :: st)) rfl rfl (hb C.2.2.2.1 d)
  obtain ⟨t, o, h1, h2⟩ := G h' W' T' _ (Fr.snoc X' hL ge) X' e'
  exact ⟨t, o, st' t h1, h2⟩
theorem g_lenLArr (C : Cx p s m meth c Z n0 own bytes maxl ret nm) (d : In bytes pc 1 .arraylength pc') {a : Addr} {z : Nat} {f : Nat → Int64} (A : LArr Z h a z f) (v : Int32) (hv : v = Int32.ofNat z) (G : Go p l e R s m args below meth c n0 Q K N h k n (mkF m pc' Ls (.int v :: st))) : Go p l e R s m args below meth c n0 Q K N h k n (mkF m pc Ls (.ref a :: st)) := by
  obtain ⟨d, rfl⟩ := d
  obtain ⟨cl, A, r1, r2, r3⟩ := A
  refine g_st (fun X eT t kt => X.arraylength C.1 (by rw [eT]; exact A.1) (State.isArrayOf_alike C.2.1.alike A.2.1) (g := mkF m pc Ls (.ref a :: st)) rfl rfl (hb C.2.2.2.1 d) _ ?_) G
  rw [r1]
  subst hv
  exact kt
/-- an array of z places at a, whose contents are f -/
def IArr (Z : State) (h : Heap) (a : Addr) (z : Nat) (f : Nat → Int32) : Prop := ∃ c : Cell, Arr Z h a c .int ∧ c.slots.size = z ∧ z < 2 ^ 31 ∧ ∀ i, i < z → c.slots[i]? = some (.int (f i))
theorem IArr.lt {a : Addr} {z : Nat} {f : Nat → Int32} (A : IArr Z h a z f) : a < h.size := by obtain ⟨c, A, -⟩ := A; exact A.lt
theorem IArr.ext {h' : Heap} {a : Addr} {z : Nat} {f : Nat → Int32} (A : IArr Z h a z f) (E : Ext h h') : IArr Z h' a z f := by obtain ⟨c, A, r⟩ := A; exact ⟨c, A.ext E, r⟩
theorem IArr.other {h' : Heap} {a b : Addr} {sl : Nat} {v : Value} {z : Nat} {f : Nat → Int32} (A : IArr Z h b z f) (W : Wr h h' a sl v) (q : b ≠ a) : IArr Z h' b z f := by obtain ⟨c, A, r⟩ := A; exact ⟨c, A.other W q, r⟩
theorem IArr.keep {h' : Heap} {a : Addr} {ws : List Addr} {z : Nat} {f : Nat → Int32} (A : IArr Z h a z f) (K : Keep h h' ws) (q : a ∉ ws) : IArr Z h' a z f := by obtain ⟨c, A, r⟩ := A; exact ⟨c, ⟨K.2.1 a c A.1 q, A.2⟩, r⟩
theorem IArr.congr {a : Addr} {z : Nat} {f g : Nat → Int32} (A : IArr Z h a z f) (q : ∀ i, i < z → g i = f i) : IArr Z h a z g := by obtain ⟨c, A, r1, r2, r3⟩ := A; exact ⟨c, A, r1, r2, fun i hi => by rw [q i hi]; exact r3 i hi⟩
theorem IArr.new {a : Addr} {kA : ClassId} {z : Int32} (A : Arr Z h a (newA kA .int z) .int) : IArr Z h a z.toNatClampNeg (fun _ => 0) :=
  ⟨_, A, sz_new _ _ _, z.toNatClampNeg_lt, fun i hi => by simp [newA, hi, defaultValue]⟩
theorem IArr.set {h' : Heap} {a : Addr} {z j : Nat} {x : Int32} {f : Nat → Int32} (A : IArr Z h a z f) (W : Wr h h' a j (.int x)) : IArr Z h' a z (fun i => if i = j then x else f i) := by
  obtain ⟨c, A, r1, r2, r3⟩ := A
  refine ⟨_, A.same W, by simp [Cell.setSlot, r1], r2, fun i hi => ?_⟩
  by_cases q : i = j
  · subst q
    simp [Cell.setSlot, r1, hi]
  · simp only [q, if_false]
    rw [← r3 i hi]
    exact Array.getElem?_setIfInBounds_ne (Ne.symm q)
theorem g_iaload (C : Cx p s m meth c Z n0 own bytes maxl ret nm) (d : In bytes pc 1 .iaload pc') {a : Addr} {z : Nat} {f : Nat → Int32} {j : Int32} (A : IArr Z h a z f) (h1 : 0 ≤ j.toInt) (h2 : j.toInt < z) (v : Int32) (hv : f j.toInt.toNat = v) (G : Go p l e R s m args below meth c n0 Q K N h k n (mkF m pc' Ls (.int v :: st))) : Go p l e R s m args below meth c n0 Q K N h k n (mkF m pc Ls (.int j :: .ref a :: st)) := by
  obtain ⟨d, rfl⟩ := d
  obtain ⟨cl, A, r1, r2, r3⟩ := A
  have e1 : j.toNatClampNeg = j.toInt.toNat := rfl
  have hj : ¬ (j < 0 ∨ cl.slots.size ≤ j.toNatClampNeg) := by
    rw [Int32.lt_iff_toInt_lt, show (0 : Int32).toInt = 0 from rfl, r1, e1]; omega
  have hat : cl.slots[j.toNatClampNeg]? = some (.int v) := by rw [← hv, e1]; exact r3 _ (by omega)
  exact g_st (fun X eT t kt => X.iaload C.1 (j := j) (v := .int v) (by rw [eT]; exact A.1) (State.isArrayOf_alike C.2.1.alike A.2.1) A.2.2 hj hat (g := mkF m pc Ls (.int j :: .ref a :: st)) rfl rfl (hb C.2.2.2.1 d) _ kt) G
theorem g_iastore (C : Cx p s m meth c Z n0 own bytes maxl ret nm) (d : In bytes pc 1 .iastore pc') {a : Addr} {z : Nat} {f : Nat → Int32} {j : Int32} {x : Int32} (A : IArr Z h a z f) (h1 : 0 ≤ j.toInt) (h2 : j.toInt < z) (ge : n0 ≤ a) (G : ∀ h', Wr h h' a j.toInt.toNat (.int x) → Go p l e R s m args below meth c n0 Q K N h' k n (mkF m pc' Ls st)) : Go p l e R s m args below meth c n0 Q K N h k n (mkF m pc Ls (.int x :: .int j :: .ref a :: st)) := by
  obtain ⟨d, rfl⟩ := d
  obtain ⟨cl, A, r1, r2, r3⟩ := A
  have e1 : j.toNatClampNeg = j.toInt.toNat := rfl
  have hj : ¬ (j < 0 ∨ cl.slots.size ≤ j.toNatClampNeg) := by
    rw [Int32.lt_iff_toInt_lt, show (0 : Int32).toInt = 0 from rfl, r1, e1]; omega
  intro T L hL X eT
  obtain ⟨T', h', X', e', W', st'⟩ := stI X C.1 C.2.1 eT A (j := j) hj (g := mkF m pc Ls (.int x :: .int j :: .ref a :: st)) rfl rfl (hb C.2.2.2.1 d)
  obtain ⟨t, o, h1, h2⟩ := G h' W' T' _ (Fr.snoc X' hL ge) X' e'
  exact ⟨t, o, st' t h1, h2⟩
theorem g_lenIArr (C : Cx p s m meth c Z n0 own bytes maxl ret nm) (d : In bytes pc 1 .arraylength pc') {a : Addr} {z : Nat} {f : Nat → Int32} (A : IArr Z h a z f) (v : Int32) (hv : v = Int32.ofNat z) (G : Go p l e R s m args below meth c n0 Q K N h k n (mkF m pc' Ls (.int v :: st))) : Go p l e R s m args below meth c n0 Q K N h k n (mkF m pc Ls (.ref a :: st)) := by
  obtain ⟨d, rfl⟩ := d
  obtain ⟨cl, A, r1, r2, r3⟩ := A
  refine g_st (fun X eT t kt => X.arraylength C.1 (by rw [eT]; exact A.1) (State.isArrayOf_alike C.2.1.alike A.2.1) (g := mkF m pc Ls (.ref a :: st)) rfl rfl (hb C.2.2.2.1 d) _ ?_) G
  rw [r1]
  subst hv
  exact kt
/-- an array of z places at a, whose contents are f -/
def BArr (Z : State) (h : Heap) (a : Addr) (z : Nat) (f : Nat → Int32) : Prop := ∃ c : Cell, Arr Z h a c .byte ∧ c.slots.size = z ∧ z < 2 ^ 31 ∧ ∀ i, i < z → c.slots[i]? = some (.int (f i))
theorem BArr.lt {a : Addr} {z : Nat} {f : Nat → Int32} (A : BArr Z h a z f) : a < h.size := by obtain ⟨c, A, -⟩ := A; exact A.lt
theorem BArr.ext {h' : Heap} {a : Addr} {z : Nat} {f : Nat → Int32} (A : BArr Z h a z f) (E : Ext h h') : BArr Z h' a z f := by obtain ⟨c, A, r⟩ := A; exact ⟨c, A.ext E, r⟩
theorem BArr.other {h' : Heap} {a b : Addr} {sl : Nat} {v : Value} {z : Nat} {f : Nat → Int32} (A : BArr Z h b z f) (W : Wr h h' a sl v) (q : b ≠ a) : BArr Z h' b z f := by obtain ⟨c, A, r⟩ := A; exact ⟨c, A.other W q, r⟩
theorem BArr.keep {h' : Heap} {a : Addr} {ws : List Addr} {z : Nat} {f : Nat → Int32} (A : BArr Z h a z f) (K : Keep h h' ws) (q : a ∉ ws) : BArr Z h' a z f := by obtain ⟨c, A, r⟩ := A; exact ⟨c, ⟨K.2.1 a c A.1 q, A.2⟩, r⟩
theorem BArr.congr {a : Addr} {z : Nat} {f g : Nat → Int32} (A : BArr Z h a z f) (q : ∀ i, i < z → g i = f i) : BArr Z h a z g := by obtain ⟨c, A, r1, r2, r3⟩ := A; exact ⟨c, A, r1, r2, fun i hi => by rw [q i hi]; exact r3 i hi⟩
theorem BArr.new {a : Addr} {kA : ClassId} {z : Int32} (A : Arr Z h a (newA kA .byte z) .byte) : BArr Z h a z.toNatClampNeg (fun _ => 0) :=
  ⟨_, A, sz_new _ _ _, z.toNatClampNeg_lt, fun i hi => by simp [newA, hi, defaultValue]⟩
theorem BArr.set {h' : Heap} {a : Addr} {z j : Nat} {x : Int32} {f : Nat → Int32} (A : BArr Z h a z f) (W : Wr h h' a j (.int x)) : BArr Z h' a z (fun i => if i = j then x else f i) := by
  obtain ⟨c, A, r1, r2, r3⟩ := A
  refine ⟨_, A.same W, by simp [Cell.setSlot, r1], r2, fun i hi => ?_⟩
  by_cases q : i = j
  · subst q
    simp [Cell.setSlot, r1, hi]
  · simp only [q, if_false]
    rw [← r3 i hi]
    exact Array.getElem?_setIfInBounds_ne (Ne.symm q)
theorem g_baload (C : Cx p s m meth c Z n0 own bytes maxl ret nm) (d : In bytes pc 1 .baload pc') {a : Addr} {z : Nat} {f : Nat → Int32} {j : Int32} (A : BArr Z h a z f) (h1 : 0 ≤ j.toInt) (h2 : j.toInt < z) (v : Int32) (hv : f j.toInt.toNat = v) (G : Go p l e R s m args below meth c n0 Q K N h k n (mkF m pc' Ls (.int v :: st))) : Go p l e R s m args below meth c n0 Q K N h k n (mkF m pc Ls (.int j :: .ref a :: st)) := by
  obtain ⟨d, rfl⟩ := d
  obtain ⟨cl, A, r1, r2, r3⟩ := A
  have e1 : j.toNatClampNeg = j.toInt.toNat := rfl
  have hj : ¬ (j < 0 ∨ cl.slots.size ≤ j.toNatClampNeg) := by
    rw [Int32.lt_iff_toInt_lt, show (0 : Int32).toInt = 0 from rfl, r1, e1]; omega
  have hat : cl.slots[j.toNatClampNeg]? = some (.int v) := by rw [← hv, e1]; exact r3 _ (by omega)
  exact g_st (fun X eT t kt => X.baloadBytes C.1 (j := j) (v := .int v) (by rw [eT]; exact A.1) (State.isArrayOf_alike C.2.1.alike A.2.1) A.2.2 hj hat (g := mkF m pc Ls (.int j :: .ref a :: st)) rfl rfl (hb C.2.2.2.1 d) _ kt) G
theorem g_bastore (C : Cx p s m meth c Z n0 own bytes maxl ret nm) (d : In bytes pc 1 .bastore pc') {a : Addr} {z : Nat} {f : Nat → Int32} {j : Int32} {x : Int32} (A : BArr Z h a z f) (h1 : 0 ≤ j.toInt) (h2 : j.toInt < z) (ge : n0 ≤ a) (G : ∀ h', Wr h h' a j.toInt.toNat (.int x.toInt8.toInt32) → Go p l e R s m args below meth c n0 Q K N h' k n (mkF m pc' Ls st)) : Go p l e R s m args below meth c n0 Q K N h k n (mkF m pc Ls (.int x :: .int j :: .ref a :: st)) := by
  obtain ⟨d, rfl⟩ := d
  obtain ⟨cl, A, r1, r2, r3⟩ := A
  have e1 : j.toNatClampNeg = j.toInt.toNat := rfl
  have hj : ¬ (j < 0 ∨ cl.slots.size ≤ j.toNatClampNeg) := by
    rw [Int32.lt_iff_toInt_lt, show (0 : Int32).toInt = 0 from rfl, r1, e1]; omega
  intro T L hL X eT
  obtain ⟨T', h', X', e', W', st'⟩ := stB X C.1 C.2.1 eT A (j := j) hj (g := mkF m pc Ls (.int x :: .int j :: .ref a :: st)) rfl rfl (hb C.2.2.2.1 d)
  obtain ⟨t, o, h1, h2⟩ := G h' W' T' _ (Fr.snoc X' hL ge) X' e'
  exact ⟨t, o, st' t h1, h2⟩
theorem g_lenBArr (C : Cx p s m meth c Z n0 own bytes maxl ret nm) (d : In bytes pc 1 .arraylength pc') {a : Addr} {z : Nat} {f : Nat → Int32} (A : BArr Z h a z f) (v : Int32) (hv : v = Int32.ofNat z) (G : Go p l e R s m args below meth c n0 Q K N h k n (mkF m pc' Ls (.int v :: st))) : Go p l e R s m args below meth c n0 Q K N h k n (mkF m pc Ls (.ref a :: st)) := by
  obtain ⟨d, rfl⟩ := d
  obtain ⟨cl, A, r1, r2, r3⟩ := A
  refine g_st (fun X eT t kt => X.arraylength C.1 (by rw [eT]; exact A.1) (State.isArrayOf_alike C.2.1.alike A.2.1) (g := mkF m pc Ls (.ref a :: st)) rfl rfl (hb C.2.2.2.1 d) _ ?_) G
  rw [r1]
  subst hv
  exact kt
theorem g_join {ι : Type} (hh : ι → Heap) (k' n' : Nat) (f : ι → JFrame) (P : ι → Prop) {f0 : JFrame} (H : (∀ x, P x → Go p l e R s m args below meth c n0 Q K N (hh x) (k') (n') ((f x))) → Go p l e R s m args below meth c n0 Q K N h k n f0) (G : ∀ x, P x → Go p l e R s m args below meth c n0 Q K N (hh x) (k') (n') ((f x))) : Go p l e R s m args below meth c n0 Q K N h k n f0 := H G
theorem g_loop {ι : Type} (hh : ι → Heap) (f : ι → JFrame) (P : ι → Prop) (μ : ι → Nat) (step : ∀ x, P x → (∀ y, P y → μ y < μ x → Go p l e R s m args below meth c n0 Q K N (hh y) k n ((f y))) → Go p l e R s m args below meth c n0 Q K N (hh x) k n ((f x))) : ∀ x, P x → Go p l e R s m args below meth c n0 Q K N (hh x) k n ((f x)) := by
  intro x
  generalize hm : μ x = t
  induction t using Nat.strongRecOn generalizing x with
  | _ t ih => exact fun hx => step x hx fun y hy hlt => ih (μ y) (by omega) y rfl hy
end Kit
def NN (x : Int64) : Nat := x.toBitVec.toNat
theorem NN_lt (x : Int64) : NN x < 18446744073709551616 := x.toBitVec.isLt
theorem NN_add (x y : Int64) : NN (x + y) = (NN x + NN y) % 18446744073709551616 := BitVec.toNat_add x.toBitVec y.toBitVec
theorem NN_mul (x y : Int64) : NN (x * y) = (NN x * NN y) % 18446744073709551616 := BitVec.toNat_mul x.toBitVec y.toBitVec
theorem NN_and (x y : Int64) : NN (x &&& y) = NN x &&& NN y := BitVec.toNat_and x.toBitVec y.toBitVec
theorem NN_or (x y : Int64) : NN (x ||| y) = NN x ||| NN y := BitVec.toNat_or x.toBitVec y.toBitVec
theorem NN_xor (x y : Int64) : NN (x ^^^ y) = NN x ^^^ NN y := BitVec.toNat_xor x.toBitVec y.toBitVec
theorem NN_shl (x : Int64) (q : Int32) (k : Nat) (hk : q.toBitVec.toNat % 64 = k) : NN (shlJ x q) = NN x * 2 ^ k % 18446744073709551616 := by
  show (x.toBitVec <<< ((q &&& 0x3f).toInt64.toBitVec.smod 64)).toNat = _
  rw [BitVec.shiftLeft_eq', (sm64 q k hk).1, smod64 k (sm64 q k hk).2, BitVec.toNat_shiftLeft, Nat.shiftLeft_eq]
  rfl
theorem NN_ushr (x : Int64) (q : Int32) (k : Nat) (hk : q.toBitVec.toNat % 64 = k) : NN (ushrJ x q) = NN x / 2 ^ k := by
  have h5 := (sm64 q k hk).2
  show (x.toBitVec >>> ((q &&& 0x3f).toInt64.toBitVec % 64)).toNat = x.toBitVec.toNat / 2 ^ k
  rw [BitVec.ushiftRight_eq', BitVec.toNat_ushiftRight, Nat.shiftRight_eq_div_pow, BitVec.toNat_umod, (sm64 q k hk).1, BitVec.toNat_ofNat]; congr 2; show k % 2 ^ 64 % 64 = k; omega
theorem NN_pos {x : Int64} (h : 0 ≤ x.toInt) : (NN x : Int) = x.toInt := by
  have h2 := x.toBitVec.isLt
  have e : x.toInt = x.toBitVec.toInt := rfl
  rw [BitVec.toInt_eq_toNat_cond] at e
  unfold NN
  split at e <;> omega
theorem NN_small {x : Int64} (h : NN x < 9223372036854775808) : x.toInt = NN x := by
  have e : x.toInt = x.toBitVec.toInt := rfl
  rw [BitVec.toInt_eq_toNat_cond] at e
  unfold NN at *
  split at e <;> omega
theorem and_k (k a b c d : Nat) (hb : b < 2 ^ k) (hd : d < 2 ^ k) : (b + 2 ^ k * a) &&& (d + 2 ^ k * c) = (b &&& d) + 2 ^ k * (a &&& c) := by
  have h1 : ((b + 2 ^ k * a) &&& (d + 2 ^ k * c)) % 2 ^ k = b &&& d := by
    rw [Nat.and_mod_two_pow, Nat.add_mul_mod_self_left, Nat.add_mul_mod_self_left, Nat.mod_eq_of_lt hb, Nat.mod_eq_of_lt hd]
  have h2 : ((b + 2 ^ k * a) &&& (d + 2 ^ k * c)) / 2 ^ k = a &&& c := by
    rw [Nat.and_div_two_pow, Nat.add_mul_div_left _ _ (Nat.two_pow_pos k), Nat.add_mul_div_left _ _ (Nat.two_pow_pos k), Nat.div_eq_of_lt hb, Nat.div_eq_of_lt hd, Nat.zero_add, Nat.zero_add]
  have h3 := Nat.mod_add_div ((b + 2 ^ k * a) &&& (d + 2 ^ k * c)) (2 ^ k)
  rw [h1, h2] at h3
  exact h3.symm
theorem xor_k (k a b c d : Nat) (hb : b < 2 ^ k) (hd : d < 2 ^ k) : (b + 2 ^ k * a) ^^^ (d + 2 ^ k * c) = (b ^^^ d) + 2 ^ k * (a ^^^ c) := by
  have h1 : ((b + 2 ^ k * a) ^^^ (d + 2 ^ k * c)) % 2 ^ k = b ^^^ d := by
    rw [Nat.xor_mod_two_pow, Nat.add_mul_mod_self_left, Nat.add_mul_mod_self_left, Nat.mod_eq_of_lt hb, Nat.mod_eq_of_lt hd]
  have h2 : ((b + 2 ^ k * a) ^^^ (d + 2 ^ k * c)) / 2 ^ k = a ^^^ c := by
    rw [Nat.xor_div_two_pow, Nat.add_mul_div_left _ _ (Nat.two_pow_pos k), Nat.add_mul_div_left _ _ (Nat.two_pow_pos k), Nat.div_eq_of_lt hb, Nat.div_eq_of_lt hd, Nat.zero_add, Nat.zero_add]
  have h3 := Nat.mod_add_div ((b + 2 ^ k * a) ^^^ (d + 2 ^ k * c)) (2 ^ k)
  rw [h1, h2] at h3
  exact h3.symm
theorem or_hi (k a b : Nat) (hb : b < 2 ^ k) : b ||| (a * 2 ^ k) = b + a * 2 ^ k := by
  have := Nat.two_pow_add_eq_or_of_lt hb a
  rw [Nat.or_comm, Nat.mul_comm, ← this, Nat.add_comm]
def dec1 (d : Int64) : Int64 := ((d * 10) + ushrJ d 8) &&& 71777214294589695
def dec2 (y : Int64) : Int64 := ((y * 100) + ushrJ y 16) &&& 281470681808895
def dec3 (y : Int64) : Int64 := ((y * 10000) + ushrJ y 32) &&& 4294967295
def decimalJ (w : Int64) (n : Int32) : Int64 := dec3 (dec2 (dec1 (shlJ (w ^^^ 3472328296227680304) (64 - 8 * n))))
theorem lane8 (a b : Nat) (h : a < 256) : (a + 256 * b) &&& 255 = a := by
  rw [show (255 : Nat) = 2 ^ 8 - 1 from rfl, Nat.and_two_pow_sub_one_eq_mod]; omega
theorem lane16 (a b : Nat) (h : a < 65536) : (a + 65536 * b) &&& 65535 = a := by
  rw [show (65535 : Nat) = 2 ^ 16 - 1 from rfl, Nat.and_two_pow_sub_one_eq_mod]; omega
theorem dec1_ok (d : Int64) (e0 e1 e2 e3 e4 e5 e6 e7 : Nat) (h0 : e0 ≤ 9) (h1 : e1 ≤ 9) (h2 : e2 ≤ 9) (h3 : e3 ≤ 9) (h4 : e4 ≤ 9) (h5 : e5 ≤ 9) (h6 : e6 ≤ 9) (h7 : e7 ≤ 9)
    (hd : NN d = e0 + 256 * (e1 + 256 * e2 + 65536 * e3 + 16777216 * e4 + 4294967296 * e5 + 1099511627776 * e6 + 281474976710656 * e7)) :
    NN (dec1 d) = (10 * e0 + e1) + 65536 * ((10 * e2 + e3) + 65536 * ((10 * e4 + e5) + 65536 * (10 * e6 + e7))) := by
  unfold dec1
  have q1 : NN d * 10 % 18446744073709551616 = NN d * 10 := Nat.mod_eq_of_lt (by omega)
  have q2 : NN d / 2 ^ 8 = e1 + 256 * e2 + 65536 * e3 + 16777216 * e4 + 4294967296 * e5 + 1099511627776 * e6 + 281474976710656 * e7 := by
    rw [hd, show (2 : Nat) ^ 8 = 256 from rfl, Nat.add_mul_div_left _ _ (by decide), Nat.div_eq_of_lt (by omega), Nat.zero_add]
  have q3 : NN d * 10 + (e1 + 256 * e2 + 65536 * e3 + 16777216 * e4 + 4294967296 * e5 + 1099511627776 * e6 + 281474976710656 * e7)
      = ((10 * e0 + e1) + 256 * (10 * e1 + e2)) + 2 ^ 16 * (((10 * e2 + e3) + 256 * (10 * e3 + e4)) + 2 ^ 16 * (((10 * e4 + e5) + 256 * (10 * e5 + e6)) + 2 ^ 16 * ((10 * e6 + e7) + 256 * (10 * e7)))) := by rw [hd]; omega
  rw [NN_and, NN_add, NN_mul, NN_ushr d 8 8 (by decide), show NN 10 = 10 from rfl, q1, q2, Nat.mod_eq_of_lt (by omega), q3, show NN 71777214294589695 = 255 + 2 ^ 16 * (255 + 2 ^ 16 * (255 + 2 ^ 16 * 255)) from by decide]
  have b0 : (10 * e0 + e1) + 256 * (10 * e1 + e2) < 2 ^ 16 := by omega
  have b1 : (10 * e2 + e3) + 256 * (10 * e3 + e4) < 2 ^ 16 := by omega
  have b2 : (10 * e4 + e5) + 256 * (10 * e5 + e6) < 2 ^ 16 := by omega
  rw [and_k 16 _ _ _ _ b0 (by decide), and_k 16 _ _ _ _ b1 (by decide), and_k 16 _ _ _ _ b2 (by decide), lane8 _ _ (by omega), lane8 _ _ (by omega), lane8 _ _ (by omega), lane8 _ _ (by omega)]
theorem dec2_ok (y : Int64) (v0 v1 v2 v3 : Nat) (h0 : v0 ≤ 99) (h1 : v1 ≤ 99) (h2 : v2 ≤ 99) (h3 : v3 ≤ 99) (hd : NN y = v0 + 65536 * (v1 + 65536 * (v2 + 65536 * v3))) : NN (dec2 y) = (100 * v0 + v1) + 4294967296 * (100 * v2 + v3) := by
  unfold dec2
  have q1 : NN y * 100 % 18446744073709551616 = NN y * 100 := Nat.mod_eq_of_lt (by omega)
  have q2 : NN y / 2 ^ 16 = v1 + 65536 * (v2 + 65536 * v3) := by
    rw [hd, show (2 : Nat) ^ 16 = 65536 from rfl, Nat.add_mul_div_left _ _ (by decide), Nat.div_eq_of_lt (by omega), Nat.zero_add]
  have q3 : NN y * 100 + (v1 + 65536 * (v2 + 65536 * v3)) = ((100 * v0 + v1) + 65536 * (100 * v1 + v2)) + 2 ^ 32 * ((100 * v2 + v3) + 65536 * (100 * v3)) := by rw [hd]; omega
  rw [NN_and, NN_add, NN_mul, NN_ushr y 16 16 (by decide), show NN 100 = 100 from rfl, q1, q2, Nat.mod_eq_of_lt (by omega), q3, show NN 281470681808895 = 65535 + 2 ^ 32 * 65535 from by decide]
  have b0 : (100 * v0 + v1) + 65536 * (100 * v1 + v2) < 2 ^ 32 := by omega
  rw [and_k 32 _ _ _ _ b0 (by decide), lane16 _ _ (by omega), lane16 _ _ (by omega)]
theorem dec3_ok (y : Int64) (u0 u1 : Nat) (h0 : u0 ≤ 9999) (h1 : u1 ≤ 9999) (hd : NN y = u0 + 4294967296 * u1) : NN (dec3 y) = 10000 * u0 + u1 := by
  unfold dec3
  have q1 : NN y * 10000 % 18446744073709551616 = NN y * 10000 := Nat.mod_eq_of_lt (by omega)
  have q2 : NN y / 2 ^ 32 = u1 := by
    rw [hd, show (2 : Nat) ^ 32 = 4294967296 from rfl, Nat.add_mul_div_left _ _ (by decide), Nat.div_eq_of_lt (by omega), Nat.zero_add]
  have q3 : NN y * 10000 + u1 = (10000 * u0 + u1) + 2 ^ 32 * (10000 * u1) := by rw [hd]; omega
  rw [NN_and, NN_add, NN_mul, NN_ushr y 32 32 (by decide), show NN 10000 = 10000 from rfl, q1, q2, Nat.mod_eq_of_lt (by omega), q3, show NN 4294967295 = 2 ^ 32 - 1 from rfl, Nat.and_two_pow_sub_one_eq_mod, Nat.add_mul_mod_self_left]
  exact Nat.mod_eq_of_lt (by omega)
theorem swar (d : Int64) (e0 e1 e2 e3 e4 e5 e6 e7 : Nat) (h0 : e0 ≤ 9) (h1 : e1 ≤ 9) (h2 : e2 ≤ 9) (h3 : e3 ≤ 9) (h4 : e4 ≤ 9) (h5 : e5 ≤ 9) (h6 : e6 ≤ 9) (h7 : e7 ≤ 9)
    (hd : NN d = e0 + 256 * (e1 + 256 * e2 + 65536 * e3 + 16777216 * e4 + 4294967296 * e5 + 1099511627776 * e6 + 281474976710656 * e7)) :
    NN (dec3 (dec2 (dec1 d))) = 10000000 * e0 + 1000000 * e1 + 100000 * e2 + 10000 * e3 + 1000 * e4 + 100 * e5 + 10 * e6 + e7 := by
  have a := dec1_ok d e0 e1 e2 e3 e4 e5 e6 e7 h0 h1 h2 h3 h4 h5 h6 h7 hd
  have b := dec2_ok _ _ _ _ _ (by omega) (by omega) (by omega) (by omega) a
  have c := dec3_ok _ _ _ (by omega) (by omega) b
  rw [c]; omega
theorem or_shl (acc b : Int64) (q : Int32) (k : Nat) (hk : q.toBitVec.toNat % 64 = k) (hk2 : k ≤ 56) (h1 : NN acc < 2 ^ k) (h2 : NN b < 256) : NN (acc ||| shlJ b q) = NN acc + NN b * 2 ^ k := by
  rw [NN_or, NN_shl b q k hk]
  have h3 : NN b * 2 ^ k < 18446744073709551616 := by
    have := Nat.mul_le_mul (show NN b ≤ 255 by omega) (Nat.pow_le_pow_right (show 0 < 2 by decide) hk2)
    have : (255 : Nat) * 2 ^ 56 < 18446744073709551616 := by decide
    omega
  rw [Nat.mod_eq_of_lt h3]
  exact or_hi k _ _ h1
def wordJ (b0 b1 b2 b3 b4 b5 b6 b7 : Int64) : Int64 := (((((((b0 ||| shlJ b1 8) ||| shlJ b2 16) ||| shlJ b3 24) ||| shlJ b4 32) ||| shlJ b5 40) ||| shlJ b6 48) ||| shlJ b7 56)
theorem word_ok (b0 b1 b2 b3 b4 b5 b6 b7 : Int64) (h0 : NN b0 < 256) (h1 : NN b1 < 256) (h2 : NN b2 < 256) (h3 : NN b3 < 256) (h4 : NN b4 < 256) (h5 : NN b5 < 256) (h6 : NN b6 < 256) (h7 : NN b7 < 256) :
    NN (wordJ b0 b1 b2 b3 b4 b5 b6 b7) = NN b0 + 2 ^ 8 * (NN b1 + 2 ^ 8 * (NN b2 + 2 ^ 8 * (NN b3 + 2 ^ 8 * (NN b4 + 2 ^ 8 * (NN b5 + 2 ^ 8 * (NN b6 + 2 ^ 8 * NN b7)))))) := by
  unfold wordJ
  have a1 := or_shl b0 b1 8 8 (by decide) (by decide) (by omega) h1
  have a2 := or_shl _ b2 16 16 (by decide) (by decide) (by rw [a1]; omega) h2
  have a3 := or_shl _ b3 24 24 (by decide) (by decide) (by rw [a2, a1]; omega) h3
  have a4 := or_shl _ b4 32 32 (by decide) (by decide) (by rw [a3, a2, a1]; omega) h4
  have a5 := or_shl _ b5 40 40 (by decide) (by decide) (by rw [a4, a3, a2, a1]; omega) h5
  have a6 := or_shl _ b6 48 48 (by decide) (by decide) (by rw [a5, a4, a3, a2, a1]; omega) h6
  have a7 := or_shl _ b7 56 56 (by decide) (by decide) (by rw [a6, a5, a4, a3, a2, a1]; omega) h7
  rw [a7, a6, a5, a4, a3, a2, a1]; omega
theorem xor_word (b0 b1 b2 b3 b4 b5 b6 b7 : Nat) (h0 : b0 < 2 ^ 8) (h1 : b1 < 2 ^ 8) (h2 : b2 < 2 ^ 8) (h3 : b3 < 2 ^ 8) (h4 : b4 < 2 ^ 8) (h5 : b5 < 2 ^ 8) (h6 : b6 < 2 ^ 8) :
    (b0 + 2 ^ 8 * (b1 + 2 ^ 8 * (b2 + 2 ^ 8 * (b3 + 2 ^ 8 * (b4 + 2 ^ 8 * (b5 + 2 ^ 8 * (b6 + 2 ^ 8 * b7))))))) ^^^ 3472328296227680304 =
      (b0 ^^^ 48) + 2 ^ 8 * ((b1 ^^^ 48) + 2 ^ 8 * ((b2 ^^^ 48) + 2 ^ 8 * ((b3 ^^^ 48) + 2 ^ 8 * ((b4 ^^^ 48) + 2 ^ 8 * ((b5 ^^^ 48) + 2 ^ 8 * ((b6 ^^^ 48) + 2 ^ 8 * (b7 ^^^ 48))))))) := by
  rw [show (3472328296227680304 : Nat) = 48 + 2 ^ 8 * (48 + 2 ^ 8 * (48 + 2 ^ 8 * (48 + 2 ^ 8 * (48 + 2 ^ 8 * (48 + 2 ^ 8 * (48 + 2 ^ 8 * 48)))))) from by decide]
  rw [xor_k 8 _ _ _ _ h0 (by decide), xor_k 8 _ _ _ _ h1 (by decide), xor_k 8 _ _ _ _ h2 (by decide), xor_k 8 _ _ _ _ h3 (by decide), xor_k 8 _ _ _ _ h4 (by decide), xor_k 8 _ _ _ _ h5 (by decide), xor_k 8 _ _ _ _ h6 (by decide)]
theorem xor48 (e : Nat) (h : e ≤ 9) : (48 + e) ^^^ 48 = e := by
  have : ∀ e : Fin 10, (48 + e.val) ^^^ 48 = e.val := by decide
  exact this ⟨e, by omega⟩
theorem xor_lt (b : Nat) (h : b < 256) : b ^^^ 48 < 256 := Nat.xor_lt_two_pow (n := 8) h (by decide)
theorem sum_lt (e0 e1 e2 e3 e4 e5 e6 e7 : Nat) (h0 : e0 ≤ 9) (h1 : e1 ≤ 9) (h2 : e2 ≤ 9) (h3 : e3 ≤ 9) (h4 : e4 ≤ 9) (h5 : e5 ≤ 9) (h6 : e6 ≤ 9) (h7 : e7 ≤ 9) : 10000000 * e0 + 1000000 * e1 + 100000 * e2 + 10000 * e3 + 1000 * e4 + 100 * e5 + 10 * e6 + e7 < 9223372036854775808 := by omega
theorem sum_pos (d0 d1 d2 d3 d4 d5 d6 d7 : Int) (h0 : 0 ≤ d0 ∧ d0 ≤ 9) (h1 : 0 ≤ d1 ∧ d1 ≤ 9) (h2 : 0 ≤ d2 ∧ d2 ≤ 9) (h3 : 0 ≤ d3 ∧ d3 ≤ 9) (h4 : 0 ≤ d4 ∧ d4 ≤ 9) (h5 : 0 ≤ d5 ∧ d5 ≤ 9) (h6 : 0 ≤ d6 ∧ d6 ≤ 9) (h7 : 0 ≤ d7 ∧ d7 ≤ 9) : 0 ≤ d0 * 10000000 + d1 * 1000000 + d2 * 100000 + d3 * 10000 + d4 * 1000 + d5 * 100 + d6 * 10 + d7 := by omega
theorem divP {x lo hi P : Int} (h : x = lo + P * hi) (h0 : 0 ≤ lo) (h1 : lo < P) : x / P = hi := by
  rw [h, Int.add_mul_ediv_left _ _ (by omega), Int.ediv_eq_zero_of_lt h0 h1, Int.zero_add]
theorem shift_lo (lo hi P S : Nat) (h : lo < P) : (lo + P * hi) * S % (P * S) = lo * S := by
  rcases Nat.eq_zero_or_pos S with rfl | hS
  · simp
  · rw [Nat.add_mul, Nat.mul_assoc, Nat.mul_comm hi S, ← Nat.mul_assoc, Nat.add_mul_mod_self_left]
    exact Nat.mod_eq_of_lt ((Nat.mul_lt_mul_right hS).mpr h)
def digJ (sd : Int64) (i : Int32) : Int64 := (((ushrJ sd ((8 : Int32) * i)) &&& (255 : Int64)) - ((((ushrJ sd ((8 : Int32) * i)) &&& (255 : Int64)) / (10 : Int64)) * (10 : Int64)))
theorem dig_rng (sd : Int64) (i : Int32) : 0 ≤ (digJ sd i).toInt ∧ (digJ sd i).toInt ≤ 9 := by
  unfold digJ
  have h := c_maskL (ushrJ sd (8 * i)) 255 8 (by decide) (by decide)
  generalize (ushrJ sd (8 * i)) &&& 255 = x at *
  have a := (c_lrem x 10 10 rfl).1 (by omega)
  rw [a]; omega
theorem mask_rng (x : Int64) : 0 ≤ (x &&& 255).toInt ∧ (x &&& 255).toInt ≤ 255 := by
  have h := c_maskL x 255 8 (by decide) (by decide)
  rw [h]; omega
theorem dig48 (sd : Int64) (i : Int32) : ((48 : Int64) + digJ sd i).toInt = 48 + (digJ sd i).toInt := by
  have a := c_ladd 48 (digJ sd i); have := dig_rng sd i; have := rng64 ((48 : Int64) + digJ sd i); have e : (48 : Int64).toInt = 48 := rfl
  omega
/-- a byte of the word -/
def BY (sd : Int64) (n i : Int32) (r : Int64) : Prop := 0 ≤ r.toInt ∧ r.toInt ≤ 255 ∧ (i < n → r.toInt = 48 + (digJ sd i).toInt)
theorem mul_lit {x L : Int64} (l : Int) (hL : L.toInt = l) (h : 0 ≤ x.toInt ∧ x.toInt ≤ 9) (hl : 0 ≤ l ∧ l ≤ 10000000) : (x * L).toInt = x.toInt * l := by
  have a := c_lmul x L; rw [hL] at a
  have := rng64 (x * L)
  have h1 := Int.mul_nonneg h.1 hl.1
  have h2 := Int.mul_le_mul h.2 hl.2 hl.1 (by decide)
  omega
theorem add_ok (x y : Int64) (h : 0 ≤ x.toInt + y.toInt ∧ x.toInt + y.toInt < 1000000000) : (x + y).toInt = x.toInt + y.toInt := by
  have a := c_ladd x y; have := rng64 (x + y); omega
def allJ (d0 d1 d2 d3 d4 d5 d6 d7 : Int64) : Int64 := ((((((((d0 * (10000000 : Int64)) + (d1 * (1000000 : Int64))) + (d2 * (100000 : Int64))) + (d3 * (10000 : Int64))) + (d4 * (1000 : Int64))) + (d5 * (100 : Int64))) + (d6 * (10 : Int64))) + d7)
theorem all_ok (d0 d1 d2 d3 d4 d5 d6 d7 : Int64) (h0 : 0 ≤ d0.toInt ∧ d0.toInt ≤ 9) (h1 : 0 ≤ d1.toInt ∧ d1.toInt ≤ 9) (h2 : 0 ≤ d2.toInt ∧ d2.toInt ≤ 9) (h3 : 0 ≤ d3.toInt ∧ d3.toInt ≤ 9) (h4 : 0 ≤ d4.toInt ∧ d4.toInt ≤ 9) (h5 : 0 ≤ d5.toInt ∧ d5.toInt ≤ 9) (h6 : 0 ≤ d6.toInt ∧ d6.toInt ≤ 9) (h7 : 0 ≤ d7.toInt ∧ d7.toInt ≤ 9) :
    (allJ d0 d1 d2 d3 d4 d5 d6 d7).toInt = d0.toInt * 10000000 + d1.toInt * 1000000 + d2.toInt * 100000 + d3.toInt * 10000 + d4.toInt * 1000 + d5.toInt * 100 + d6.toInt * 10 + d7.toInt := by
  unfold allJ
  have m0 := mul_lit (L := 10000000) 10000000 rfl h0 (by decide)
  have m1 := mul_lit (L := 1000000) 1000000 rfl h1 (by decide)
  have m2 := mul_lit (L := 100000) 100000 rfl h2 (by decide)
  have m3 := mul_lit (L := 10000) 10000 rfl h3 (by decide)
  have m4 := mul_lit (L := 1000) 1000 rfl h4 (by decide)
  have m5 := mul_lit (L := 100) 100 rfl h5 (by decide)
  have m6 := mul_lit (L := 10) 10 rfl h6 (by decide)
  generalize d0 * (10000000 : Int64) = x0 at *; generalize d1 * (1000000 : Int64) = x1 at *; generalize d2 * (100000 : Int64) = x2 at *; generalize d3 * (10000 : Int64) = x3 at *; generalize d4 * (1000 : Int64) = x4 at *; generalize d5 * (100 : Int64) = x5 at *; generalize d6 * (10 : Int64) = x6 at *
  have a1 := add_ok x0 x1 (by omega); have a2 := add_ok (x0 + x1) x2 (by omega); have a3 := add_ok (x0 + x1 + x2) x3 (by omega); have a4 := add_ok (x0 + x1 + x2 + x3) x4 (by omega); have a5 := add_ok (x0 + x1 + x2 + x3 + x4) x5 (by omega); have a6 := add_ok (x0 + x1 + x2 + x3 + x4 + x5) x6 (by omega); have a7 := add_ok (x0 + x1 + x2 + x3 + x4 + x5 + x6) d7 (by omega)
  rw [a7, a6, a5, a4, a3, a2, a1]; omega
theorem ediv_1 (d0 d1 d2 d3 d4 d5 d6 d7 : Int) (z0 : 0 ≤ d0 ∧ d0 ≤ 9) (z1 : 0 ≤ d1 ∧ d1 ≤ 9) (z2 : 0 ≤ d2 ∧ d2 ≤ 9) (z3 : 0 ≤ d3 ∧ d3 ≤ 9) (z4 : 0 ≤ d4 ∧ d4 ≤ 9) (z5 : 0 ≤ d5 ∧ d5 ≤ 9) (z6 : 0 ≤ d6 ∧ d6 ≤ 9) (z7 : 0 ≤ d7 ∧ d7 ≤ 9) : (d0 * 10000000 + d1 * 1000000 + d2 * 100000 + d3 * 10000 + d4 * 1000 + d5 * 100 + d6 * 10 + d7) / 10000000 = d0 * 1 := divP (lo := d1 * 1000000 + d2 * 100000 + d3 * 10000 + d4 * 1000 + d5 * 100 + d6 * 10 + d7 * 1) (by omega) (by omega) (by omega)
theorem fin_1 (sd b0 b1 b2 b3 b4 b5 b6 b7 : Int64) (h0 : BY sd 1 0 b0) (h1 : BY sd 1 1 b1) (h2 : BY sd 1 2 b2) (h3 : BY sd 1 3 b3) (h4 : BY sd 1 4 b4) (h5 : BY sd 1 5 b5) (h6 : BY sd 1 6 b6) (h7 : BY sd 1 7 b7) : decimalJ (wordJ b0 b1 b2 b3 b4 b5 b6 b7) 1 = allJ (digJ sd 0) (digJ sd 1) (digJ sd 2) (digJ sd 3) (digJ sd 4) (digJ sd 5) (digJ sd 6) (digJ sd 7) / 10000000 := by
  have hd : ∀ i : Int32, NN (digJ sd i) ≤ 9 := fun i => by have := dig_rng sd i; have := NN_pos (x := digJ sd i) this.1; omega
  have hb : ∀ (i : Int32) (r : Int64), BY sd 1 i r → NN r < 256 := fun i r h => by have := NN_pos (x := r) h.1; have := h.2.1; omega
  have hc : ∀ (i : Int32) (r : Int64), BY sd 1 i r → i < 1 → NN r = 48 + NN (digJ sd i) := fun i r h q => by have := NN_pos (x := r) h.1; have := h.2.2 q; have := NN_pos (x := digJ sd i) (dig_rng sd i).1; omega
  have W := word_ok b0 b1 b2 b3 b4 b5 b6 b7 (hb _ _ h0) (hb _ _ h1) (hb _ _ h2) (hb _ _ h3) (hb _ _ h4) (hb _ _ h5) (hb _ _ h6) (hb _ _ h7)
  have x0 := xor_word _ _ _ _ _ _ _ (NN b7) (hb _ _ h0) (hb _ _ h1) (hb _ _ h2) (hb _ _ h3) (hb _ _ h4) (hb _ _ h5) (hb _ _ h6)
  have y0 := hd 0
  have D : NN (shlJ (wordJ b0 b1 b2 b3 b4 b5 b6 b7 ^^^ 3472328296227680304) (64 - 8 * 1)) = 0 + 256 * (0 + 256 * 0 + 65536 * 0 + 16777216 * 0 + 4294967296 * 0 + 1099511627776 * 0 + 281474976710656 * (NN (digJ sd 0))) := by
    rw [NN_shl _ _ 56 (by decide), NN_xor, W, show NN 3472328296227680304 = 3472328296227680304 from rfl, x0, hc _ _ h0 (by decide), xor48 _ (hd _)]
    generalize NN b1 ^^^ 48 = c1; generalize NN b2 ^^^ 48 = c2; generalize NN b3 ^^^ 48 = c3; generalize NN b4 ^^^ 48 = c4; generalize NN b5 ^^^ 48 = c5; generalize NN b6 ^^^ 48 = c6; generalize NN b7 ^^^ 48 = c7
    have e1 : NN (digJ sd 0) + 2 ^ 8 * (c1 + 2 ^ 8 * (c2 + 2 ^ 8 * (c3 + 2 ^ 8 * (c4 + 2 ^ 8 * (c5 + 2 ^ 8 * (c6 + 2 ^ 8 * (c7))))))) = (NN (digJ sd 0)) + 256 * (c1 + 2 ^ 8 * (c2 + 2 ^ 8 * (c3 + 2 ^ 8 * (c4 + 2 ^ 8 * (c5 + 2 ^ 8 * (c6 + 2 ^ 8 * (c7))))))) := by omega
    rw [e1, show (18446744073709551616 : Nat) = 256 * 2 ^ 56 from by decide, shift_lo _ _ _ _ (by omega)]
    omega
  have F := swar _ 0 0 0 0 0 0 0 (NN (digJ sd 0)) (by decide) (by decide) (by decide) (by decide) (by decide) (by decide) (by decide) (hd _) D
  have A := all_ok (digJ sd 0) (digJ sd 1) (digJ sd 2) (digJ sd 3) (digJ sd 4) (digJ sd 5) (digJ sd 6) (digJ sd 7) (dig_rng sd 0) (dig_rng sd 1) (dig_rng sd 2) (dig_rng sd 3) (dig_rng sd 4) (dig_rng sd 5) (dig_rng sd 6) (dig_rng sd 7)
  have z0 := dig_rng sd 0; have z1 := dig_rng sd 1; have z2 := dig_rng sd 2; have z3 := dig_rng sd 3; have z4 := dig_rng sd 4; have z5 := dig_rng sd 5; have z6 := dig_rng sd 6; have z7 := dig_rng sd 7
  have q0 := NN_pos (x := digJ sd 0) z0.1
  apply Int64.toInt_inj.mp
  have G : (allJ (digJ sd 0) (digJ sd 1) (digJ sd 2) (digJ sd 3) (digJ sd 4) (digJ sd 5) (digJ sd 6) (digJ sd 7) / 10000000).toInt = (allJ (digJ sd 0) (digJ sd 1) (digJ sd 2) (digJ sd 3) (digJ sd 4) (digJ sd 5) (digJ sd 6) (digJ sd 7)).toInt / 10000000 := (c_ldiv _ 10000000 10000000 rfl (by decide)).1 (by rw [A]; exact sum_pos _ _ _ _ _ _ _ _ z0 z1 z2 z3 z4 z5 z6 z7)
  have R : NN (decimalJ (wordJ b0 b1 b2 b3 b4 b5 b6 b7) 1) = _ := F
  have R2 : (decimalJ (wordJ b0 b1 b2 b3 b4 b5 b6 b7) 1).toInt = ((NN (decimalJ (wordJ b0 b1 b2 b3 b4 b5 b6 b7) 1) : Nat) : Int) := NN_small (by rw [R]; exact sum_lt _ _ _ _ _ _ _ _ (by decide) (by decide) (by decide) (by decide) (by decide) (by decide) (by decide) (hd _))
  have E := ediv_1 _ _ _ _ _ _ _ _ z0 z1 z2 z3 z4 z5 z6 z7
  rw [R2, R, G, A, E]
  clear F R R2 G A E D W x0
  omega
theorem ediv_2 (d0 d1 d2 d3 d4 d5 d6 d7 : Int) (z0 : 0 ≤ d0 ∧ d0 ≤ 9) (z1 : 0 ≤ d1 ∧ d1 ≤ 9) (z2 : 0 ≤ d2 ∧ d2 ≤ 9) (z3 : 0 ≤ d3 ∧ d3 ≤ 9) (z4 : 0 ≤ d4 ∧ d4 ≤ 9) (z5 : 0 ≤ d5 ∧ d5 ≤ 9) (z6 : 0 ≤ d6 ∧ d6 ≤ 9) (z7 : 0 ≤ d7 ∧ d7 ≤ 9) : (d0 * 10000000 + d1 * 1000000 + d2 * 100000 + d3 * 10000 + d4 * 1000 + d5 * 100 + d6 * 10 + d7) / 1000000 = d0 * 10 + d1 * 1 := divP (lo := d2 * 100000 + d3 * 10000 + d4 * 1000 + d5 * 100 + d6 * 10 + d7 * 1) (by omega) (by omega) (by omega)
theorem fin_2 (sd b0 b1 b2 b3 b4 b5 b6 b7 : Int64) (h0 : BY sd 2 0 b0) (h1 : BY sd 2 1 b1) (h2 : BY sd 2 2 b2) (h3 : BY sd 2 3 b3) (h4 : BY sd 2 4 b4) (h5 : BY sd 2 5 b5) (h6 : BY sd 2 6 b6) (h7 : BY sd 2 7 b7) : decimalJ (wordJ b0 b1 b2 b3 b4 b5 b6 b7) 2 = allJ (digJ sd 0) (digJ sd 1) (digJ sd 2) (digJ sd 3) (digJ sd 4) (digJ sd 5) (digJ sd 6) (digJ sd 7) / 1000000 := by
  have hd : ∀ i : Int32, NN (digJ sd i) ≤ 9 := fun i => by have := dig_rng sd i; have := NN_pos (x := digJ sd i) this.1; omega
  have hb : ∀ (i : Int32) (r : Int64), BY sd 2 i r → NN r < 256 := fun i r h => by have := NN_pos (x := r) h.1; have := h.2.1; omega
  have hc : ∀ (i : Int32) (r : Int64), BY sd 2 i r → i < 2 → NN r = 48 + NN (digJ sd i) := fun i r h q => by have := NN_pos (x := r) h.1; have := h.2.2 q; have := NN_pos (x := digJ sd i) (dig_rng sd i).1; omega
  have W := word_ok b0 b1 b2 b3 b4 b5 b6 b7 (hb _ _ h0) (hb _ _ h1) (hb _ _ h2) (hb _ _ h3) (hb _ _ h4) (hb _ _ h5) (hb _ _ h6) (hb _ _ h7)
  have x0 := xor_word _ _ _ _ _ _ _ (NN b7) (hb _ _ h0) (hb _ _ h1) (hb _ _ h2) (hb _ _ h3) (hb _ _ h4) (hb _ _ h5) (hb _ _ h6)
  have y0 := hd 0; have y1 := hd 1
  have D : NN (shlJ (wordJ b0 b1 b2 b3 b4 b5 b6 b7 ^^^ 3472328296227680304) (64 - 8 * 2)) = 0 + 256 * (0 + 256 * 0 + 65536 * 0 + 16777216 * 0 + 4294967296 * 0 + 1099511627776 * (NN (digJ sd 0)) + 281474976710656 * (NN (digJ sd 1))) := by
    rw [NN_shl _ _ 48 (by decide), NN_xor, W, show NN 3472328296227680304 = 3472328296227680304 from rfl, x0, hc _ _ h0 (by decide), xor48 _ (hd _), hc _ _ h1 (by decide), xor48 _ (hd _)]
    generalize NN b2 ^^^ 48 = c2; generalize NN b3 ^^^ 48 = c3; generalize NN b4 ^^^ 48 = c4; generalize NN b5 ^^^ 48 = c5; generalize NN b6 ^^^ 48 = c6; generalize NN b7 ^^^ 48 = c7
    have e1 : NN (digJ sd 0) + 2 ^ 8 * (NN (digJ sd 1) + 2 ^ 8 * (c2 + 2 ^ 8 * (c3 + 2 ^ 8 * (c4 + 2 ^ 8 * (c5 + 2 ^ 8 * (c6 + 2 ^ 8 * (c7))))))) = (NN (digJ sd 0) + 256 * NN (digJ sd 1)) + 65536 * (c2 + 2 ^ 8 * (c3 + 2 ^ 8 * (c4 + 2 ^ 8 * (c5 + 2 ^ 8 * (c6 + 2 ^ 8 * (c7)))))) := by omega
    rw [e1, show (18446744073709551616 : Nat) = 65536 * 2 ^ 48 from by decide, shift_lo _ _ _ _ (by omega)]
    omega
  have F := swar _ 0 0 0 0 0 0 (NN (digJ sd 0)) (NN (digJ sd 1)) (by decide) (by decide) (by decide) (by decide) (by decide) (by decide) (hd _) (hd _) D
  have A := all_ok (digJ sd 0) (digJ sd 1) (digJ sd 2) (digJ sd 3) (digJ sd 4) (digJ sd 5) (digJ sd 6) (digJ sd 7) (dig_rng sd 0) (dig_rng sd 1) (dig_rng sd 2) (dig_rng sd 3) (dig_rng sd 4) (dig_rng sd 5) (dig_rng sd 6) (dig_rng sd 7)
  have z0 := dig_rng sd 0; have z1 := dig_rng sd 1; have z2 := dig_rng sd 2; have z3 := dig_rng sd 3; have z4 := dig_rng sd 4; have z5 := dig_rng sd 5; have z6 := dig_rng sd 6; have z7 := dig_rng sd 7
  have q0 := NN_pos (x := digJ sd 0) z0.1; have q1 := NN_pos (x := digJ sd 1) z1.1
  apply Int64.toInt_inj.mp
  have G : (allJ (digJ sd 0) (digJ sd 1) (digJ sd 2) (digJ sd 3) (digJ sd 4) (digJ sd 5) (digJ sd 6) (digJ sd 7) / 1000000).toInt = (allJ (digJ sd 0) (digJ sd 1) (digJ sd 2) (digJ sd 3) (digJ sd 4) (digJ sd 5) (digJ sd 6) (digJ sd 7)).toInt / 1000000 := (c_ldiv _ 1000000 1000000 rfl (by decide)).1 (by rw [A]; exact sum_pos _ _ _ _ _ _ _ _ z0 z1 z2 z3 z4 z5 z6 z7)
  have R : NN (decimalJ (wordJ b0 b1 b2 b3 b4 b5 b6 b7) 2) = _ := F
  have R2 : (decimalJ (wordJ b0 b1 b2 b3 b4 b5 b6 b7) 2).toInt = ((NN (decimalJ (wordJ b0 b1 b2 b3 b4 b5 b6 b7) 2) : Nat) : Int) := NN_small (by rw [R]; exact sum_lt _ _ _ _ _ _ _ _ (by decide) (by decide) (by decide) (by decide) (by decide) (by decide) (hd _) (hd _))
  have E := ediv_2 _ _ _ _ _ _ _ _ z0 z1 z2 z3 z4 z5 z6 z7
  rw [R2, R, G, A, E]
  clear F R R2 G A E D W x0
  omega
theorem ediv_3 (d0 d1 d2 d3 d4 d5 d6 d7 : Int) (z0 : 0 ≤ d0 ∧ d0 ≤ 9) (z1 : 0 ≤ d1 ∧ d1 ≤ 9) (z2 : 0 ≤ d2 ∧ d2 ≤ 9) (z3 : 0 ≤ d3 ∧ d3 ≤ 9) (z4 : 0 ≤ d4 ∧ d4 ≤ 9) (z5 : 0 ≤ d5 ∧ d5 ≤ 9) (z6 : 0 ≤ d6 ∧ d6 ≤ 9) (z7 : 0 ≤ d7 ∧ d7 ≤ 9) : (d0 * 10000000 + d1 * 1000000 + d2 * 100000 + d3 * 10000 + d4 * 1000 + d5 * 100 + d6 * 10 + d7) / 100000 = d0 * 100 + d1 * 10 + d2 * 1 := divP (lo := d3 * 10000 + d4 * 1000 + d5 * 100 + d6 * 10 + d7 * 1) (by omega) (by omega) (by omega)
theorem fin_3 (sd b0 b1 b2 b3 b4 b5 b6 b7 : Int64) (h0 : BY sd 3 0 b0) (h1 : BY sd 3 1 b1) (h2 : BY sd 3 2 b2) (h3 : BY sd 3 3 b3) (h4 : BY sd 3 4 b4) (h5 : BY sd 3 5 b5) (h6 : BY sd 3 6 b6) (h7 : BY sd 3 7 b7) : decimalJ (wordJ b0 b1 b2 b3 b4 b5 b6 b7) 3 = allJ (digJ sd 0) (digJ sd 1) (digJ sd 2) (digJ sd 3) (digJ sd 4) (digJ sd 5) (digJ sd 6) (digJ sd 7) / 100000 := by
  have hd : ∀ i : Int32, NN (digJ sd i) ≤ 9 := fun i => by have := dig_rng sd i; have := NN_pos (x := digJ sd i) this.1; omega
  have hb : ∀ (i : Int32) (r : Int64), BY sd 3 i r → NN r < 256 := fun i r h => by have := NN_pos (x := r) h.1; have := h.2.1; omega
  have hc : ∀ (i : Int32) (r : Int64), BY sd 3 i r → i < 3 → NN r = 48 + NN (digJ sd i) := fun i r h q => by have := NN_pos (x := r) h.1; have := h.2.2 q; have := NN_pos (x := digJ sd i) (dig_rng sd i).1; omega
  have W := word_ok b0 b1 b2 b3 b4 b5 b6 b7 (hb _ _ h0) (hb _ _ h1) (hb _ _ h2) (hb _ _ h3) (hb _ _ h4) (hb _ _ h5) (hb _ _ h6) (hb _ _ h7)
  have x0 := xor_word _ _ _ _ _ _ _ (NN b7) (hb _ _ h0) (hb _ _ h1) (hb _ _ h2) (hb _ _ h3) (hb _ _ h4) (hb _ _ h5) (hb _ _ h6)
  have y0 := hd 0; have y1 := hd 1; have y2 := hd 2
  have D : NN (shlJ (wordJ b0 b1 b2 b3 b4 b5 b6 b7 ^^^ 3472328296227680304) (64 - 8 * 3)) = 0 + 256 * (0 + 256 * 0 + 65536 * 0 + 16777216 * 0 + 4294967296 * (NN (digJ sd 0)) + 1099511627776 * (NN (digJ sd 1)) + 281474976710656 * (NN (digJ sd 2))) := by
    rw [NN_shl _ _ 40 (by decide), NN_xor, W, show NN 3472328296227680304 = 3472328296227680304 from rfl, x0, hc _ _ h0 (by decide), xor48 _ (hd _), hc _ _ h1 (by decide), xor48 _ (hd _), hc _ _ h2 (by decide), xor48 _ (hd _)]
    generalize NN b3 ^^^ 48 = c3; generalize NN b4 ^^^ 48 = c4; generalize NN b5 ^^^ 48 = c5; generalize NN b6 ^^^ 48 = c6; generalize NN b7 ^^^ 48 = c7
    have e1 : NN (digJ sd 0) + 2 ^ 8 * (NN (digJ sd 1) + 2 ^ 8 * (NN (digJ sd 2) + 2 ^ 8 * (c3 + 2 ^ 8 * (c4 + 2 ^ 8 * (c5 + 2 ^ 8 * (c6 + 2 ^ 8 * (c7))))))) = (NN (digJ sd 0) + 256 * NN (digJ sd 1) + 65536 * NN (digJ sd 2)) + 16777216 * (c3 + 2 ^ 8 * (c4 + 2 ^ 8 * (c5 + 2 ^ 8 * (c6 + 2 ^ 8 * (c7))))) := by omega
    rw [e1, show (18446744073709551616 : Nat) = 16777216 * 2 ^ 40 from by decide, shift_lo _ _ _ _ (by omega)]
    omega
  have F := swar _ 0 0 0 0 0 (NN (digJ sd 0)) (NN (digJ sd 1)) (NN (digJ sd 2)) (by decide) (by decide) (by decide) (by decide) (by decide) (hd _) (hd _) (hd _) D
  have A := all_ok (digJ sd 0) (digJ sd 1) (digJ sd 2) (digJ sd 3) (digJ sd 4) (digJ sd 5) (digJ sd 6) (digJ sd 7) (dig_rng sd 0) (dig_rng sd 1) (dig_rng sd 2) (dig_rng sd 3) (dig_rng sd 4) (dig_rng sd 5) (dig_rng sd 6) (dig_rng sd 7)
  have z0 := dig_rng sd 0; have z1 := dig_rng sd 1; have z2 := dig_rng sd 2; have z3 := dig_rng sd 3; have z4 := dig_rng sd 4; have z5 := dig_rng sd 5; have z6 := dig_rng sd 6; have z7 := dig_rng sd 7
  have q0 := NN_pos (x := digJ sd 0) z0.1; have q1 := NN_pos (x := digJ sd 1) z1.1; have q2 := NN_pos (x := digJ sd 2) z2.1
  apply Int64.toInt_inj.mp
  have G : (allJ (digJ sd 0) (digJ sd 1) (digJ sd 2) (digJ sd 3) (digJ sd 4) (digJ sd 5) (digJ sd 6) (digJ sd 7) / 100000).toInt = (allJ (digJ sd 0) (digJ sd 1) (digJ sd 2) (digJ sd 3) (digJ sd 4) (digJ sd 5) (digJ sd 6) (digJ sd 7)).toInt / 100000 := (c_ldiv _ 100000 100000 rfl (by decide)).1 (by rw [A]; exact sum_pos _ _ _ _ _ _ _ _ z0 z1 z2 z3 z4 z5 z6 z7)
  have R : NN (decimalJ (wordJ b0 b1 b2 b3 b4 b5 b6 b7) 3) = _ := F
  have R2 : (decimalJ (wordJ b0 b1 b2 b3 b4 b5 b6 b7) 3).toInt = ((NN (decimalJ (wordJ b0 b1 b2 b3 b4 b5 b6 b7) 3) : Nat) : Int) := NN_small (by rw [R]; exact sum_lt _ _ _ _ _ _ _ _ (by decide) (by decide) (by decide) (by decide) (by decide) (hd _) (hd _) (hd _))
  have E := ediv_3 _ _ _ _ _ _ _ _ z0 z1 z2 z3 z4 z5 z6 z7
  rw [R2, R, G, A, E]
  clear F R R2 G A E D W x0
  omega
theorem ediv_4 (d0 d1 d2 d3 d4 d5 d6 d7 : Int) (z0 : 0 ≤ d0 ∧ d0 ≤ 9) (z1 : 0 ≤ d1 ∧ d1 ≤ 9) (z2 : 0 ≤ d2 ∧ d2 ≤ 9) (z3 : 0 ≤ d3 ∧ d3 ≤ 9) (z4 : 0 ≤ d4 ∧ d4 ≤ 9) (z5 : 0 ≤ d5 ∧ d5 ≤ 9) (z6 : 0 ≤ d6 ∧ d6 ≤ 9) (z7 : 0 ≤ d7 ∧ d7 ≤ 9) : (d0 * 10000000 + d1 * 1000000 + d2 * 100000 + d3 * 10000 + d4 * 1000 + d5 * 100 + d6 * 10 + d7) / 10000 = d0 * 1000 + d1 * 100 + d2 * 10 + d3 * 1 := divP (lo := d4 * 1000 + d5 * 100 + d6 * 10 + d7 * 1) (by omega) (by omega) (by omega)
theorem fin_4 (sd b0 b1 b2 b3 b4 b5 b6 b7 : Int64) (h0 : BY sd 4 0 b0) (h1 : BY sd 4 1 b1) (h2 : BY sd 4 2 b2) (h3 : BY sd 4 3 b3) (h4 : BY sd 4 4 b4) (h5 : BY sd 4 5 b5) (h6 : BY sd 4 6 b6) (h7 : BY sd 4 7 b7) : decimalJ (wordJ b0 b1 b2 b3 b4 b5 b6 b7) 4 = allJ (digJ sd 0) (digJ sd 1) (digJ sd 2) (digJ sd 3) (digJ sd 4) (digJ sd 5) (digJ sd 6) (digJ sd 7) / 10000 := by
  have hd : ∀ i : Int32, NN (digJ sd i) ≤ 9 := fun i => by have := dig_rng sd i; have := NN_pos (x := digJ sd i) this.1; omega
  have hb : ∀ (i : Int32) (r : Int64), BY sd 4 i r → NN r < 256 := fun i r h => by have := NN_pos (x := r) h.1; have := h.2.1; omega
  have hc : ∀ (i : Int32) (r : Int64), BY sd 4 i r → i < 4 → NN r = 48 + NN (digJ sd i) := fun i r h q => by have := NN_pos (x := r) h.1; have := h.2.2 q; have := NN_pos (x := digJ sd i) (dig_rng sd i).1; omega
  have W := word_ok b0 b1 b2 b3 b4 b5 b6 b7 (hb _ _ h0) (hb _ _ h1) (hb _ _ h2) (hb _ _ h3) (hb _ _ h4) (hb _ _ h5) (hb _ _ h6) (hb _ _ h7)
  have x0 := xor_word _ _ _ _ _ _ _ (NN b7) (hb _ _ h0) (hb _ _ h1) (hb _ _ h2) (hb _ _ h3) (hb _ _ h4) (hb _ _ h5) (hb _ _ h6)
  have y0 := hd 0; have y1 := hd 1; have y2 := hd 2; have y3 := hd 3
  have D : NN (shlJ (wordJ b0 b1 b2 b3 b4 b5 b6 b7 ^^^ 3472328296227680304) (64 - 8 * 4)) = 0 + 256 * (0 + 256 * 0 + 65536 * 0 + 16777216 * (NN (digJ sd 0)) + 4294967296 * (NN (digJ sd 1)) + 1099511627776 * (NN (digJ sd 2)) + 281474976710656 * (NN (digJ sd 3))) := by
    rw [NN_shl _ _ 32 (by decide), NN_xor, W, show NN 3472328296227680304 = 3472328296227680304 from rfl, x0, hc _ _ h0 (by decide), xor48 _ (hd _), hc _ _ h1 (by decide), xor48 _ (hd _), hc _ _ h2 (by decide), xor48 _ (hd _), hc _ _ h3 (by decide), xor48 _ (hd _)]
    generalize NN b4 ^^^ 48 = c4; generalize NN b5 ^^^ 48 = c5; generalize NN b6 ^^^ 48 = c6; generalize NN b7 ^^^ 48 = c7
    have e1 : NN (digJ sd 0) + 2 ^ 8 * (NN (digJ sd 1) + 2 ^ 8 * (NN (digJ sd 2) + 2 ^ 8 * (NN (digJ sd 3) + 2 ^ 8 * (c4 + 2 ^ 8 * (c5 + 2 ^ 8 * (c6 + 2 ^ 8 * (c7))))))) = (NN (digJ sd 0) + 256 * NN (digJ sd 1) + 65536 * NN (digJ sd 2) + 16777216 * NN (digJ sd 3)) + 4294967296 * (c4 + 2 ^ 8 * (c5 + 2 ^ 8 * (c6 + 2 ^ 8 * (c7)))) := by omega
    rw [e1, show (18446744073709551616 : Nat) = 4294967296 * 2 ^ 32 from by decide, shift_lo _ _ _ _ (by omega)]
    omega
  have F := swar _ 0 0 0 0 (NN (digJ sd 0)) (NN (digJ sd 1)) (NN (digJ sd 2)) (NN (digJ sd 3)) (by decide) (by decide) (by decide) (by decide) (hd _) (hd _) (hd _) (hd _) D
  have A := all_ok (digJ sd 0) (digJ sd 1) (digJ sd 2) (digJ sd 3) (digJ sd 4) (digJ sd 5) (digJ sd 6) (digJ sd 7) (dig_rng sd 0) (dig_rng sd 1) (dig_rng sd 2) (dig_rng sd 3) (dig_rng sd 4) (dig_rng sd 5) (dig_rng sd 6) (dig_rng sd 7)
  have z0 := dig_rng sd 0; have z1 := dig_rng sd 1; have z2 := dig_rng sd 2; have z3 := dig_rng sd 3; have z4 := dig_rng sd 4; have z5 := dig_rng sd 5; have z6 := dig_rng sd 6; have z7 := dig_rng sd 7
  have q0 := NN_pos (x := digJ sd 0) z0.1; have q1 := NN_pos (x := digJ sd 1) z1.1; have q2 := NN_pos (x := digJ sd 2) z2.1; have q3 := NN_pos (x := digJ sd 3) z3.1
  apply Int64.toInt_inj.mp
  have G : (allJ (digJ sd 0) (digJ sd 1) (digJ sd 2) (digJ sd 3) (digJ sd 4) (digJ sd 5) (digJ sd 6) (digJ sd 7) / 10000).toInt = (allJ (digJ sd 0) (digJ sd 1) (digJ sd 2) (digJ sd 3) (digJ sd 4) (digJ sd 5) (digJ sd 6) (digJ sd 7)).toInt / 10000 := (c_ldiv _ 10000 10000 rfl (by decide)).1 (by rw [A]; exact sum_pos _ _ _ _ _ _ _ _ z0 z1 z2 z3 z4 z5 z6 z7)
  have R : NN (decimalJ (wordJ b0 b1 b2 b3 b4 b5 b6 b7) 4) = _ := F
  have R2 : (decimalJ (wordJ b0 b1 b2 b3 b4 b5 b6 b7) 4).toInt = ((NN (decimalJ (wordJ b0 b1 b2 b3 b4 b5 b6 b7) 4) : Nat) : Int) := NN_small (by rw [R]; exact sum_lt _ _ _ _ _ _ _ _ (by decide) (by decide) (by decide) (by decide) (hd _) (hd _) (hd _) (hd _))
  have E := ediv_4 _ _ _ _ _ _ _ _ z0 z1 z2 z3 z4 z5 z6 z7
  rw [R2, R, G, A, E]
  clear F R R2 G A E D W x0
  omega
theorem ediv_5 (d0 d1 d2 d3 d4 d5 d6 d7 : Int) (z0 : 0 ≤ d0 ∧ d0 ≤ 9) (z1 : 0 ≤ d1 ∧ d1 ≤ 9) (z2 : 0 ≤ d2 ∧ d2 ≤ 9) (z3 : 0 ≤ d3 ∧ d3 ≤ 9) (z4 : 0 ≤ d4 ∧ d4 ≤ 9) (z5 : 0 ≤ d5 ∧ d5 ≤ 9) (z6 : 0 ≤ d6 ∧ d6 ≤ 9) (z7 : 0 ≤ d7 ∧ d7 ≤ 9) : (d0 * 10000000 + d1 * 1000000 + d2 * 100000 + d3 * 10000 + d4 * 1000 + d5 * 100 + d6 * 10 + d7) / 1000 = d0 * 10000 + d1 * 1000 + d2 * 100 + d3 * 10 + d4 * 1 := divP (lo := d5 * 100 + d6 * 10 + d7 * 1) (by omega) (by omega) (by omega)
theorem fin_5 (sd b0 b1 b2 b3 b4 b5 b6 b7 : Int64) (h0 : BY sd 5 0 b0) (h1 : BY sd 5 1 b1) (h2 : BY sd 5 2 b2) (h3 : BY sd 5 3 b3) (h4 : BY sd 5 4 b4) (h5 : BY sd 5 5 b5) (h6 : BY sd 5 6 b6) (h7 : BY sd 5 7 b7) : decimalJ (wordJ b0 b1 b2 b3 b4 b5 b6 b7) 5 = allJ (digJ sd 0) (digJ sd 1) (digJ sd 2) (digJ sd 3) (digJ sd 4) (digJ sd 5) (digJ sd 6) (digJ sd 7) / 1000 := by
  have hd : ∀ i : Int32, NN (digJ sd i) ≤ 9 := fun i => by have := dig_rng sd i; have := NN_pos (x := digJ sd i) this.1; omega
  have hb : ∀ (i : Int32) (r : Int64), BY sd 5 i r → NN r < 256 := fun i r h => by have := NN_pos (x := r) h.1; have := h.2.1; omega
  have hc : ∀ (i : Int32) (r : Int64), BY sd 5 i r → i < 5 → NN r = 48 + NN (digJ sd i) := fun i r h q => by have := NN_pos (x := r) h.1; have := h.2.2 q; have := NN_pos (x := digJ sd i) (dig_rng sd i).1; omega
  have W := word_ok b0 b1 b2 b3 b4 b5 b6 b7 (hb _ _ h0) (hb _ _ h1) (hb _ _ h2) (hb _ _ h3) (hb _ _ h4) (hb _ _ h5) (hb _ _ h6) (hb _ _ h7)
  have x0 := xor_word _ _ _ _ _ _ _ (NN b7) (hb _ _ h0) (hb _ _ h1) (hb _ _ h2) (hb _ _ h3) (hb _ _ h4) (hb _ _ h5) (hb _ _ h6)
  have y0 := hd 0; have y1 := hd 1; have y2 := hd 2; have y3 := hd 3; have y4 := hd 4
  have D : NN (shlJ (wordJ b0 b1 b2 b3 b4 b5 b6 b7 ^^^ 3472328296227680304) (64 - 8 * 5)) = 0 + 256 * (0 + 256 * 0 + 65536 * (NN (digJ sd 0)) + 16777216 * (NN (digJ sd 1)) + 4294967296 * (NN (digJ sd 2)) + 1099511627776 * (NN (digJ sd 3)) + 281474976710656 * (NN (digJ sd 4))) := by
    rw [NN_shl _ _ 24 (by decide), NN_xor, W, show NN 3472328296227680304 = 3472328296227680304 from rfl, x0, hc _ _ h0 (by decide), xor48 _ (hd _), hc _ _ h1 (by decide), xor48 _ (hd _), hc _ _ h2 (by decide), xor48 _ (hd _), hc _ _ h3 (by decide), xor48 _ (hd _), hc _ _ h4 (by decide), xor48 _ (hd _)]
    generalize NN b5 ^^^ 48 = c5; generalize NN b6 ^^^ 48 = c6; generalize NN b7 ^^^ 48 = c7
    have e1 : NN (digJ sd 0) + 2 ^ 8 * (NN (digJ sd 1) + 2 ^ 8 * (NN (digJ sd 2) + 2 ^ 8 * (NN (digJ sd 3) + 2 ^ 8 * (NN (digJ sd 4) + 2 ^ 8 * (c5 + 2 ^ 8 * (c6 + 2 ^ 8 * (c7))))))) = (NN (digJ sd 0) + 256 * NN (digJ sd 1) + 65536 * NN (digJ sd 2) + 16777216 * NN (digJ sd 3) + 4294967296 * NN (digJ sd 4)) + 1099511627776 * (c5 + 2 ^ 8 * (c6 + 2 ^ 8 * (c7))) := by omega
    rw [e1, show (18446744073709551616 : Nat) = 1099511627776 * 2 ^ 24 from by decide, shift_lo _ _ _ _ (by omega)]
    omega
  have F := swar _ 0 0 0 (NN (digJ sd 0)) (NN (digJ sd 1)) (NN (digJ sd 2)) (NN (digJ sd 3)) (NN (digJ sd 4)) (by decide) (by decide) (by decide) (hd _) (hd _) (hd _) (hd _) (hd _) D
  have A := all_ok (digJ sd 0) (digJ sd 1) (digJ sd 2) (digJ sd 3) (digJ sd 4) (digJ sd 5) (digJ sd 6) (digJ sd 7) (dig_rng sd 0) (dig_rng sd 1) (dig_rng sd 2) (dig_rng sd 3) (dig_rng sd 4) (dig_rng sd 5) (dig_rng sd 6) (dig_rng sd 7)
  have z0 := dig_rng sd 0; have z1 := dig_rng sd 1; have z2 := dig_rng sd 2; have z3 := dig_rng sd 3; have z4 := dig_rng sd 4; have z5 := dig_rng sd 5; have z6 := dig_rng sd 6; have z7 := dig_rng sd 7
  have q0 := NN_pos (x := digJ sd 0) z0.1; have q1 := NN_pos (x := digJ sd 1) z1.1; have q2 := NN_pos (x := digJ sd 2) z2.1; have q3 := NN_pos (x := digJ sd 3) z3.1; have q4 := NN_pos (x := digJ sd 4) z4.1
  apply Int64.toInt_inj.mp
  have G : (allJ (digJ sd 0) (digJ sd 1) (digJ sd 2) (digJ sd 3) (digJ sd 4) (digJ sd 5) (digJ sd 6) (digJ sd 7) / 1000).toInt = (allJ (digJ sd 0) (digJ sd 1) (digJ sd 2) (digJ sd 3) (digJ sd 4) (digJ sd 5) (digJ sd 6) (digJ sd 7)).toInt / 1000 := (c_ldiv _ 1000 1000 rfl (by decide)).1 (by rw [A]; exact sum_pos _ _ _ _ _ _ _ _ z0 z1 z2 z3 z4 z5 z6 z7)
  have R : NN (decimalJ (wordJ b0 b1 b2 b3 b4 b5 b6 b7) 5) = _ := F
  have R2 : (decimalJ (wordJ b0 b1 b2 b3 b4 b5 b6 b7) 5).toInt = ((NN (decimalJ (wordJ b0 b1 b2 b3 b4 b5 b6 b7) 5) : Nat) : Int) := NN_small (by rw [R]; exact sum_lt _ _ _ _ _ _ _ _ (by decide) (by decide) (by decide) (hd _) (hd _) (hd _) (hd _) (hd _))
  have E := ediv_5 _ _ _ _ _ _ _ _ z0 z1 z2 z3 z4 z5 z6 z7
  rw [R2, R, G, A, E]
  clear F R R2 G A E D W x0
  omega
theorem ediv_6 (d0 d1 d2 d3 d4 d5 d6 d7 : Int) (z0 : 0 ≤ d0 ∧ d0 ≤ 9) (z1 : 0 ≤ d1 ∧ d1 ≤ 9) (z2 : 0 ≤ d2 ∧ d2 ≤ 9) (z3 : 0 ≤ d3 ∧ d3 ≤ 9) (z4 : 0 ≤ d4 ∧ d4 ≤ 9) (z5 : 0 ≤ d5 ∧ d5 ≤ 9) (z6 : 0 ≤ d6 ∧ d6 ≤ 9) (z7 : 0 ≤ d7 ∧ d7 ≤ 9) : (d0 * 10000000 + d1 * 1000000 + d2 * 100000 + d3 * 10000 + d4 * 1000 + d5 * 100 + d6 * 10 + d7) / 100 = d0 * 100000 + d1 * 10000 + d2 * 1000 + d3 * 100 + d4 * 10 + d5 * 1 := divP (lo := d6 * 10 + d7 * 1) (by omega) (by omega) (by omega)
theorem fin_6 (sd b0 b1 b2 b3 b4 b5 b6 b7 : Int64) (h0 : BY sd 6 0 b0) (h1 : BY sd 6 1 b1) (h2 : BY sd 6 2 b2) (h3 : BY sd 6 3 b3) (h4 : BY sd 6 4 b4) (h5 : BY sd 6 5 b5) (h6 : BY sd 6 6 b6) (h7 : BY sd 6 7 b7) : decimalJ (wordJ b0 b1 b2 b3 b4 b5 b6 b7) 6 = allJ (digJ sd 0) (digJ sd 1) (digJ sd 2) (digJ sd 3) (digJ sd 4) (digJ sd 5) (digJ sd 6) (digJ sd 7) / 100 := by
  have hd : ∀ i : Int32, NN (digJ sd i) ≤ 9 := fun i => by have := dig_rng sd i; have := NN_pos (x := digJ sd i) this.1; omega
  have hb : ∀ (i : Int32) (r : Int64), BY sd 6 i r → NN r < 256 := fun i r h => by have := NN_pos (x := r) h.1; have := h.2.1; omega
  have hc : ∀ (i : Int32) (r : Int64), BY sd 6 i r → i < 6 → NN r = 48 + NN (digJ sd i) := fun i r h q => by have := NN_pos (x := r) h.1; have := h.2.2 q; have := NN_pos (x := digJ sd i) (dig_rng sd i).1; omega
  have W := word_ok b0 b1 b2 b3 b4 b5 b6 b7 (hb _ _ h0) (hb _ _ h1) (hb _ _ h2) (hb _ _ h3) (hb _ _ h4) (hb _ _ h5) (hb _ _ h6) (hb _ _ h7)
  have x0 := xor_word _ _ _ _ _ _ _ (NN b7) (hb _ _ h0) (hb _ _ h1) (hb _ _ h2) (hb _ _ h3) (hb _ _ h4) (hb _ _ h5) (hb _ _ h6)
  have y0 := hd 0; have y1 := hd 1; have y2 := hd 2; have y3 := hd 3; have y4 := hd 4; have y5 := hd 5
  have D : NN (shlJ (wordJ b0 b1 b2 b3 b4 b5 b6 b7 ^^^ 3472328296227680304) (64 - 8 * 6)) = 0 + 256 * (0 + 256 * (NN (digJ sd 0)) + 65536 * (NN (digJ sd 1)) + 16777216 * (NN (digJ sd 2)) + 4294967296 * (NN (digJ sd 3)) + 1099511627776 * (NN (digJ sd 4)) + 281474976710656 * (NN (digJ sd 5))) := by
    rw [NN_shl _ _ 16 (by decide), NN_xor, W, show NN 3472328296227680304 = 3472328296227680304 from rfl, x0, hc _ _ h0 (by decide), xor48 _ (hd _), hc _ _ h1 (by decide), xor48 _ (hd _), hc _ _ h2 (by decide), xor48 _ (hd _), hc _ _ h3 (by decide), xor48 _ (hd _), hc _ _ h4 (by decide), xor48 _ (hd _), hc _ _ h5 (by decide), xor48 _ (hd _)]
    generalize NN b6 ^^^ 48 = c6; generalize NN b7 ^^^ 48 = c7
    have e1 : NN (digJ sd 0) + 2 ^ 8 * (NN (digJ sd 1) + 2 ^ 8 * (NN (digJ sd 2) + 2 ^ 8 * (NN (digJ sd 3) + 2 ^ 8 * (NN (digJ sd 4) + 2 ^ 8 * (NN (digJ sd 5) + 2 ^ 8 * (c6 + 2 ^ 8 * (c7))))))) = (NN (digJ sd 0) + 256 * NN (digJ sd 1) + 65536 * NN (digJ sd 2) + 16777216 * NN (digJ sd 3) + 4294967296 * NN (digJ sd 4) + 1099511627776 * NN (digJ sd 5)) + 281474976710656 * (c6 + 2 ^ 8 * (c7)) := by omega
    rw [e1, show (18446744073709551616 : Nat) = 281474976710656 * 2 ^ 16 from by decide, shift_lo _ _ _ _ (by omega)]
    omega
  have F := swar _ 0 0 (NN (digJ sd 0)) (NN (digJ sd 1)) (NN (digJ sd 2)) (NN (digJ sd 3)) (NN (digJ sd 4)) (NN (digJ sd 5)) (by decide) (by decide) (hd _) (hd _) (hd _) (hd _) (hd _) (hd _) D
  have A := all_ok (digJ sd 0) (digJ sd 1) (digJ sd 2) (digJ sd 3) (digJ sd 4) (digJ sd 5) (digJ sd 6) (digJ sd 7) (dig_rng sd 0) (dig_rng sd 1) (dig_rng sd 2) (dig_rng sd 3) (dig_rng sd 4) (dig_rng sd 5) (dig_rng sd 6) (dig_rng sd 7)
  have z0 := dig_rng sd 0; have z1 := dig_rng sd 1; have z2 := dig_rng sd 2; have z3 := dig_rng sd 3; have z4 := dig_rng sd 4; have z5 := dig_rng sd 5; have z6 := dig_rng sd 6; have z7 := dig_rng sd 7
  have q0 := NN_pos (x := digJ sd 0) z0.1; have q1 := NN_pos (x := digJ sd 1) z1.1; have q2 := NN_pos (x := digJ sd 2) z2.1; have q3 := NN_pos (x := digJ sd 3) z3.1; have q4 := NN_pos (x := digJ sd 4) z4.1; have q5 := NN_pos (x := digJ sd 5) z5.1
  apply Int64.toInt_inj.mp
  have G : (allJ (digJ sd 0) (digJ sd 1) (digJ sd 2) (digJ sd 3) (digJ sd 4) (digJ sd 5) (digJ sd 6) (digJ sd 7) / 100).toInt = (allJ (digJ sd 0) (digJ sd 1) (digJ sd 2) (digJ sd 3) (digJ sd 4) (digJ sd 5) (digJ sd 6) (digJ sd 7)).toInt / 100 := (c_ldiv _ 100 100 rfl (by decide)).1 (by rw [A]; exact sum_pos _ _ _ _ _ _ _ _ z0 z1 z2 z3 z4 z5 z6 z7)
  have R : NN (decimalJ (wordJ b0 b1 b2 b3 b4 b5 b6 b7) 6) = _ := F
  have R2 : (decimalJ (wordJ b0 b1 b2 b3 b4 b5 b6 b7) 6).toInt = ((NN (decimalJ (wordJ b0 b1 b2 b3 b4 b5 b6 b7) 6) : Nat) : Int) := NN_small (by rw [R]; exact sum_lt _ _ _ _ _ _ _ _ (by decide) (by decide) (hd _) (hd _) (hd _) (hd _) (hd _) (hd _))
  have E := ediv_6 _ _ _ _ _ _ _ _ z0 z1 z2 z3 z4 z5 z6 z7
  rw [R2, R, G, A, E]
  clear F R R2 G A E D W x0
  omega
theorem ediv_7 (d0 d1 d2 d3 d4 d5 d6 d7 : Int) (z0 : 0 ≤ d0 ∧ d0 ≤ 9) (z1 : 0 ≤ d1 ∧ d1 ≤ 9) (z2 : 0 ≤ d2 ∧ d2 ≤ 9) (z3 : 0 ≤ d3 ∧ d3 ≤ 9) (z4 : 0 ≤ d4 ∧ d4 ≤ 9) (z5 : 0 ≤ d5 ∧ d5 ≤ 9) (z6 : 0 ≤ d6 ∧ d6 ≤ 9) (z7 : 0 ≤ d7 ∧ d7 ≤ 9) : (d0 * 10000000 + d1 * 1000000 + d2 * 100000 + d3 * 10000 + d4 * 1000 + d5 * 100 + d6 * 10 + d7) / 10 = d0 * 1000000 + d1 * 100000 + d2 * 10000 + d3 * 1000 + d4 * 100 + d5 * 10 + d6 * 1 := divP (lo := d7 * 1) (by omega) (by omega) (by omega)
theorem fin_7 (sd b0 b1 b2 b3 b4 b5 b6 b7 : Int64) (h0 : BY sd 7 0 b0) (h1 : BY sd 7 1 b1) (h2 : BY sd 7 2 b2) (h3 : BY sd 7 3 b3) (h4 : BY sd 7 4 b4) (h5 : BY sd 7 5 b5) (h6 : BY sd 7 6 b6) (h7 : BY sd 7 7 b7) : decimalJ (wordJ b0 b1 b2 b3 b4 b5 b6 b7) 7 = allJ (digJ sd 0) (digJ sd 1) (digJ sd 2) (digJ sd 3) (digJ sd 4) (digJ sd 5) (digJ sd 6) (digJ sd 7) / 10 := by
  have hd : ∀ i : Int32, NN (digJ sd i) ≤ 9 := fun i => by have := dig_rng sd i; have := NN_pos (x := digJ sd i) this.1; omega
  have hb : ∀ (i : Int32) (r : Int64), BY sd 7 i r → NN r < 256 := fun i r h => by have := NN_pos (x := r) h.1; have := h.2.1; omega
  have hc : ∀ (i : Int32) (r : Int64), BY sd 7 i r → i < 7 → NN r = 48 + NN (digJ sd i) := fun i r h q => by have := NN_pos (x := r) h.1; have := h.2.2 q; have := NN_pos (x := digJ sd i) (dig_rng sd i).1; omega
  have W := word_ok b0 b1 b2 b3 b4 b5 b6 b7 (hb _ _ h0) (hb _ _ h1) (hb _ _ h2) (hb _ _ h3) (hb _ _ h4) (hb _ _ h5) (hb _ _ h6) (hb _ _ h7)
  have x0 := xor_word _ _ _ _ _ _ _ (NN b7) (hb _ _ h0) (hb _ _ h1) (hb _ _ h2) (hb _ _ h3) (hb _ _ h4) (hb _ _ h5) (hb _ _ h6)
  have y0 := hd 0; have y1 := hd 1; have y2 := hd 2; have y3 := hd 3; have y4 := hd 4; have y5 := hd 5; have y6 := hd 6
  have D : NN (shlJ (wordJ b0 b1 b2 b3 b4 b5 b6 b7 ^^^ 3472328296227680304) (64 - 8 * 7)) = 0 + 256 * ((NN (digJ sd 0)) + 256 * (NN (digJ sd 1)) + 65536 * (NN (digJ sd 2)) + 16777216 * (NN (digJ sd 3)) + 4294967296 * (NN (digJ sd 4)) + 1099511627776 * (NN (digJ sd 5)) + 281474976710656 * (NN (digJ sd 6))) := by
    rw [NN_shl _ _ 8 (by decide), NN_xor, W, show NN 3472328296227680304 = 3472328296227680304 from rfl, x0, hc _ _ h0 (by decide), xor48 _ (hd _), hc _ _ h1 (by decide), xor48 _ (hd _), hc _ _ h2 (by decide), xor48 _ (hd _), hc _ _ h3 (by decide), xor48 _ (hd _), hc _ _ h4 (by decide), xor48 _ (hd _), hc _ _ h5 (by decide), xor48 _ (hd _), hc _ _ h6 (by decide), xor48 _ (hd _)]
    generalize NN b7 ^^^ 48 = c7
    have e1 : NN (digJ sd 0) + 2 ^ 8 * (NN (digJ sd 1) + 2 ^ 8 * (NN (digJ sd 2) + 2 ^ 8 * (NN (digJ sd 3) + 2 ^ 8 * (NN (digJ sd 4) + 2 ^ 8 * (NN (digJ sd 5) + 2 ^ 8 * (NN (digJ sd 6) + 2 ^ 8 * (c7))))))) = (NN (digJ sd 0) + 256 * NN (digJ sd 1) + 65536 * NN (digJ sd 2) + 16777216 * NN (digJ sd 3) + 4294967296 * NN (digJ sd 4) + 1099511627776 * NN (digJ sd 5) + 281474976710656 * NN (digJ sd 6)) + 72057594037927936 * (c7) := by omega
    rw [e1, show (18446744073709551616 : Nat) = 72057594037927936 * 2 ^ 8 from by decide, shift_lo _ _ _ _ (by omega)]
    omega
  have F := swar _ 0 (NN (digJ sd 0)) (NN (digJ sd 1)) (NN (digJ sd 2)) (NN (digJ sd 3)) (NN (digJ sd 4)) (NN (digJ sd 5)) (NN (digJ sd 6)) (by decide) (hd _) (hd _) (hd _) (hd _) (hd _) (hd _) (hd _) D
  have A := all_ok (digJ sd 0) (digJ sd 1) (digJ sd 2) (digJ sd 3) (digJ sd 4) (digJ sd 5) (digJ sd 6) (digJ sd 7) (dig_rng sd 0) (dig_rng sd 1) (dig_rng sd 2) (dig_rng sd 3) (dig_rng sd 4) (dig_rng sd 5) (dig_rng sd 6) (dig_rng sd 7)
  have z0 := dig_rng sd 0; have z1 := dig_rng sd 1; have z2 := dig_rng sd 2; have z3 := dig_rng sd 3; have z4 := dig_rng sd 4; have z5 := dig_rng sd 5; have z6 := dig_rng sd 6; have z7 := dig_rng sd 7
  have q0 := NN_pos (x := digJ sd 0) z0.1; have q1 := NN_pos (x := digJ sd 1) z1.1; have q2 := NN_pos (x := digJ sd 2) z2.1; have q3 := NN_pos (x := digJ sd 3) z3.1; have q4 := NN_pos (x := digJ sd 4) z4.1; have q5 := NN_pos (x := digJ sd 5) z5.1; have q6 := NN_pos (x := digJ sd 6) z6.1
  apply Int64.toInt_inj.mp
  have G : (allJ (digJ sd 0) (digJ sd 1) (digJ sd 2) (digJ sd 3) (digJ sd 4) (digJ sd 5) (digJ sd 6) (digJ sd 7) / 10).toInt = (allJ (digJ sd 0) (digJ sd 1) (digJ sd 2) (digJ sd 3) (digJ sd 4) (digJ sd 5) (digJ sd 6) (digJ sd 7)).toInt / 10 := (c_ldiv _ 10 10 rfl (by decide)).1 (by rw [A]; exact sum_pos _ _ _ _ _ _ _ _ z0 z1 z2 z3 z4 z5 z6 z7)
  have R : NN (decimalJ (wordJ b0 b1 b2 b3 b4 b5 b6 b7) 7) = _ := F
  have R2 : (decimalJ (wordJ b0 b1 b2 b3 b4 b5 b6 b7) 7).toInt = ((NN (decimalJ (wordJ b0 b1 b2 b3 b4 b5 b6 b7) 7) : Nat) : Int) := NN_small (by rw [R]; exact sum_lt _ _ _ _ _ _ _ _ (by decide) (hd _) (hd _) (hd _) (hd _) (hd _) (hd _) (hd _))
  have E := ediv_7 _ _ _ _ _ _ _ _ z0 z1 z2 z3 z4 z5 z6 z7
  rw [R2, R, G, A, E]
  clear F R R2 G A E D W x0
  omega
theorem ediv_8 (d0 d1 d2 d3 d4 d5 d6 d7 : Int) (z0 : 0 ≤ d0 ∧ d0 ≤ 9) (z1 : 0 ≤ d1 ∧ d1 ≤ 9) (z2 : 0 ≤ d2 ∧ d2 ≤ 9) (z3 : 0 ≤ d3 ∧ d3 ≤ 9) (z4 : 0 ≤ d4 ∧ d4 ≤ 9) (z5 : 0 ≤ d5 ∧ d5 ≤ 9) (z6 : 0 ≤ d6 ∧ d6 ≤ 9) (z7 : 0 ≤ d7 ∧ d7 ≤ 9) : (d0 * 10000000 + d1 * 1000000 + d2 * 100000 + d3 * 10000 + d4 * 1000 + d5 * 100 + d6 * 10 + d7) / 1 = d0 * 10000000 + d1 * 1000000 + d2 * 100000 + d3 * 10000 + d4 * 1000 + d5 * 100 + d6 * 10 + d7 * 1 := divP (lo := 0) (by omega) (by omega) (by omega)
theorem fin_8 (sd b0 b1 b2 b3 b4 b5 b6 b7 : Int64) (h0 : BY sd 8 0 b0) (h1 : BY sd 8 1 b1) (h2 : BY sd 8 2 b2) (h3 : BY sd 8 3 b3) (h4 : BY sd 8 4 b4) (h5 : BY sd 8 5 b5) (h6 : BY sd 8 6 b6) (h7 : BY sd 8 7 b7) : decimalJ (wordJ b0 b1 b2 b3 b4 b5 b6 b7) 8 = allJ (digJ sd 0) (digJ sd 1) (digJ sd 2) (digJ sd 3) (digJ sd 4) (digJ sd 5) (digJ sd 6) (digJ sd 7) / 1 := by
  have hd : ∀ i : Int32, NN (digJ sd i) ≤ 9 := fun i => by have := dig_rng sd i; have := NN_pos (x := digJ sd i) this.1; omega
  have hb : ∀ (i : Int32) (r : Int64), BY sd 8 i r → NN r < 256 := fun i r h => by have := NN_pos (x := r) h.1; have := h.2.1; omega
  have hc : ∀ (i : Int32) (r : Int64), BY sd 8 i r → i < 8 → NN r = 48 + NN (digJ sd i) := fun i r h q => by have := NN_pos (x := r) h.1; have := h.2.2 q; have := NN_pos (x := digJ sd i) (dig_rng sd i).1; omega
  have W := word_ok b0 b1 b2 b3 b4 b5 b6 b7 (hb _ _ h0) (hb _ _ h1) (hb _ _ h2) (hb _ _ h3) (hb _ _ h4) (hb _ _ h5) (hb _ _ h6) (hb _ _ h7)
  have x0 := xor_word _ _ _ _ _ _ _ (NN b7) (hb _ _ h0) (hb _ _ h1) (hb _ _ h2) (hb _ _ h3) (hb _ _ h4) (hb _ _ h5) (hb _ _ h6)
  have y0 := hd 0; have y1 := hd 1; have y2 := hd 2; have y3 := hd 3; have y4 := hd 4; have y5 := hd 5; have y6 := hd 6; have y7 := hd 7
  have D : NN (shlJ (wordJ b0 b1 b2 b3 b4 b5 b6 b7 ^^^ 3472328296227680304) (64 - 8 * 8)) = (NN (digJ sd 0)) + 256 * ((NN (digJ sd 1)) + 256 * (NN (digJ sd 2)) + 65536 * (NN (digJ sd 3)) + 16777216 * (NN (digJ sd 4)) + 4294967296 * (NN (digJ sd 5)) + 1099511627776 * (NN (digJ sd 6)) + 281474976710656 * (NN (digJ sd 7))) := by
    rw [NN_shl _ _ 0 (by decide), NN_xor, W, show NN 3472328296227680304 = 3472328296227680304 from rfl, x0, hc _ _ h0 (by decide), xor48 _ (hd _), hc _ _ h1 (by decide), xor48 _ (hd _), hc _ _ h2 (by decide), xor48 _ (hd _), hc _ _ h3 (by decide), xor48 _ (hd _), hc _ _ h4 (by decide), xor48 _ (hd _), hc _ _ h5 (by decide), xor48 _ (hd _), hc _ _ h6 (by decide), xor48 _ (hd _), hc _ _ h7 (by decide), xor48 _ (hd _)]
    skip
    have e1 : NN (digJ sd 0) + 2 ^ 8 * (NN (digJ sd 1) + 2 ^ 8 * (NN (digJ sd 2) + 2 ^ 8 * (NN (digJ sd 3) + 2 ^ 8 * (NN (digJ sd 4) + 2 ^ 8 * (NN (digJ sd 5) + 2 ^ 8 * (NN (digJ sd 6) + 2 ^ 8 * (NN (digJ sd 7)))))))) = (NN (digJ sd 0) + 256 * NN (digJ sd 1) + 65536 * NN (digJ sd 2) + 16777216 * NN (digJ sd 3) + 4294967296 * NN (digJ sd 4) + 1099511627776 * NN (digJ sd 5) + 281474976710656 * NN (digJ sd 6) + 72057594037927936 * NN (digJ sd 7)) + 18446744073709551616 * (0) := by omega
    rw [Nat.pow_zero, Nat.mul_one, Nat.mod_eq_of_lt (by omega)]
    omega
  have F := swar _ (NN (digJ sd 0)) (NN (digJ sd 1)) (NN (digJ sd 2)) (NN (digJ sd 3)) (NN (digJ sd 4)) (NN (digJ sd 5)) (NN (digJ sd 6)) (NN (digJ sd 7)) (hd _) (hd _) (hd _) (hd _) (hd _) (hd _) (hd _) (hd _) D
  have A := all_ok (digJ sd 0) (digJ sd 1) (digJ sd 2) (digJ sd 3) (digJ sd 4) (digJ sd 5) (digJ sd 6) (digJ sd 7) (dig_rng sd 0) (dig_rng sd 1) (dig_rng sd 2) (dig_rng sd 3) (dig_rng sd 4) (dig_rng sd 5) (dig_rng sd 6) (dig_rng sd 7)
  have z0 := dig_rng sd 0; have z1 := dig_rng sd 1; have z2 := dig_rng sd 2; have z3 := dig_rng sd 3; have z4 := dig_rng sd 4; have z5 := dig_rng sd 5; have z6 := dig_rng sd 6; have z7 := dig_rng sd 7
  have q0 := NN_pos (x := digJ sd 0) z0.1; have q1 := NN_pos (x := digJ sd 1) z1.1; have q2 := NN_pos (x := digJ sd 2) z2.1; have q3 := NN_pos (x := digJ sd 3) z3.1; have q4 := NN_pos (x := digJ sd 4) z4.1; have q5 := NN_pos (x := digJ sd 5) z5.1; have q6 := NN_pos (x := digJ sd 6) z6.1; have q7 := NN_pos (x := digJ sd 7) z7.1
  apply Int64.toInt_inj.mp
  have G : (allJ (digJ sd 0) (digJ sd 1) (digJ sd 2) (digJ sd 3) (digJ sd 4) (digJ sd 5) (digJ sd 6) (digJ sd 7) / 1).toInt = (allJ (digJ sd 0) (digJ sd 1) (digJ sd 2) (digJ sd 3) (digJ sd 4) (digJ sd 5) (digJ sd 6) (digJ sd 7)).toInt / 1 := (c_ldiv _ 1 1 rfl (by decide)).1 (by rw [A]; exact sum_pos _ _ _ _ _ _ _ _ z0 z1 z2 z3 z4 z5 z6 z7)
  have R : NN (decimalJ (wordJ b0 b1 b2 b3 b4 b5 b6 b7) 8) = _ := F
  have R2 : (decimalJ (wordJ b0 b1 b2 b3 b4 b5 b6 b7) 8).toInt = ((NN (decimalJ (wordJ b0 b1 b2 b3 b4 b5 b6 b7) 8) : Nat) : Int) := NN_small (by rw [R]; exact sum_lt _ _ _ _ _ _ _ _ (hd _) (hd _) (hd _) (hd _) (hd _) (hd _) (hd _) (hd _))
  have E := ediv_8 _ _ _ _ _ _ _ _ z0 z1 z2 z3 z4 z5 z6 z7
  rw [R2, R, G, A, E]
  clear F R R2 G A E D W x0
  omega
theorem num8 (k : Int32) : (k &&& 7) + 1 = 1 ∨ (k &&& 7) + 1 = 2 ∨ (k &&& 7) + 1 = 3 ∨ (k &&& 7) + 1 = 4 ∨ (k &&& 7) + 1 = 5 ∨ (k &&& 7) + 1 = 6 ∨ (k &&& 7) + 1 = 7 ∨ (k &&& 7) + 1 = 8 := by
  have h := c_mask k 7 3 (by decide) (by decide)
  have hx : (k &&& 7).toInt = 0 ∨ (k &&& 7).toInt = 1 ∨ (k &&& 7).toInt = 2 ∨ (k &&& 7).toInt = 3 ∨ (k &&& 7).toInt = 4 ∨ (k &&& 7).toInt = 5 ∨ (k &&& 7).toInt = 6 ∨ (k &&& 7).toInt = 7 := by omega
  rcases hx with q | q | q | q | q | q | q | q
  · exact Or.inl (by rw [show k &&& 7 = 0 from Int32.toInt_inj.mp q]; rfl)
  · exact Or.inr (Or.inl (by rw [show k &&& 7 = 1 from Int32.toInt_inj.mp q]; rfl))
  · exact Or.inr (Or.inr (Or.inl (by rw [show k &&& 7 = 2 from Int32.toInt_inj.mp q]; rfl)))
  · exact Or.inr (Or.inr (Or.inr (Or.inl (by rw [show k &&& 7 = 3 from Int32.toInt_inj.mp q]; rfl))))
  · exact Or.inr (Or.inr (Or.inr (Or.inr (Or.inl (by rw [show k &&& 7 = 4 from Int32.toInt_inj.mp q]; rfl)))))
  · exact Or.inr (Or.inr (Or.inr (Or.inr (Or.inr (Or.inl (by rw [show k &&& 7 = 5 from Int32.toInt_inj.mp q]; rfl))))))
  · exact Or.inr (Or.inr (Or.inr (Or.inr (Or.inr (Or.inr (Or.inl (by rw [show k &&& 7 = 6 from Int32.toInt_inj.mp q]; rfl)))))))
  · exact Or.inr (Or.inr (Or.inr (Or.inr (Or.inr (Or.inr (Or.inr ((by rw [show k &&& 7 = 7 from Int32.toInt_inj.mp q]; rfl))))))))
def upd (f : Nat → Int64) (j : Nat) (x : Int64) : Nat → Int64 := fun i => if i = j then x else f i
theorem wd_0 {a0 : Array Value} {Z : State} (hw : ∀ d ∈ tables_1, d.before a0 Z = true) : (Jvm.Cond.methodLink "com/example/grawl/grawl/graph/ByteWordsDecimalPinLaw" (19 : Nat) ({ cls := "com/example/grawl/grawl/graph/ByteWordsDecimalPinLaw", name := "byteAt", desc := "(JJII)J" } : Jvm.MethodName)).before a0 Z = true := hw _ (List.mem_of_getElem? (i := 0) rfl)
theorem wd_1 {a0 : Array Value} {Z : State} (hw : ∀ d ∈ tables_1, d.before a0 Z = true) : (Jvm.Cond.static ({ cls := "com/example/grawl/grawl/graph/ByteWordsDecimalPinLaw", name := "byteAt", desc := "(JJII)J" } : Jvm.MethodName)).before a0 Z = true := hw _ (List.mem_of_getElem? (i := 1) rfl)
theorem wd_2 {a0 : Array Value} {Z : State} (hw : ∀ d ∈ tables_1, d.before a0 Z = true) : (Jvm.Cond.initialized "com/example/grawl/grawl/graph/ByteWordsDecimalPinLaw").before a0 Z = true := hw _ (List.mem_of_getElem? (i := 2) rfl)
theorem wd_3 {a0 : Array Value} {Z : State} (hw : ∀ d ∈ tables_1, d.before a0 Z = true) : (Jvm.Cond.code ({ cls := "com/example/grawl/grawl/graph/ByteWordsDecimalPinLaw", name := "byteAt", desc := "(JJII)J" } : Jvm.MethodName) method_3_code (6 : Nat) (Option.some Jvm.ClassFile.FieldType.long)).before a0 Z = true := hw _ (List.mem_of_getElem? (i := 3) rfl)
theorem wd_4 {a0 : Array Value} {Z : State} (hw : ∀ d ∈ tables_1, d.before a0 Z = true) : (Jvm.Cond.constantLong "com/example/grawl/grawl/graph/ByteWordsDecimalPinLaw" (11 : Nat) (48 : Int64)).before a0 Z = true := hw _ (List.mem_of_getElem? (i := 4) rfl)
theorem wd_5 {a0 : Array Value} {Z : State} (hw : ∀ d ∈ tables_1, d.before a0 Z = true) : (Jvm.Cond.methodLink "com/example/grawl/grawl/graph/ByteWordsDecimalPinLaw" (13 : Nat) ({ cls := "com/example/grawl/grawl/graph/ByteWordsDecimalPinLaw", name := "digit", desc := "(JI)J" } : Jvm.MethodName)).before a0 Z = true := hw _ (List.mem_of_getElem? (i := 5) rfl)
theorem wd_6 {a0 : Array Value} {Z : State} (hw : ∀ d ∈ tables_1, d.before a0 Z = true) : (Jvm.Cond.static ({ cls := "com/example/grawl/grawl/graph/ByteWordsDecimalPinLaw", name := "digit", desc := "(JI)J" } : Jvm.MethodName)).before a0 Z = true := hw _ (List.mem_of_getElem? (i := 6) rfl)
theorem wd_7 {a0 : Array Value} {Z : State} (hw : ∀ d ∈ tables_1, d.before a0 Z = true) : (Jvm.Cond.code ({ cls := "com/example/grawl/grawl/graph/ByteWordsDecimalPinLaw", name := "digit", desc := "(JI)J" } : Jvm.MethodName) method_2_code (3 : Nat) (Option.some Jvm.ClassFile.FieldType.long)).before a0 Z = true := hw _ (List.mem_of_getElem? (i := 7) rfl)
theorem wd_8 {a0 : Array Value} {Z : State} (hw : ∀ d ∈ tables_1, d.before a0 Z = true) : (Jvm.Cond.constantLong "com/example/grawl/grawl/graph/ByteWordsDecimalPinLaw" (7 : Nat) (255 : Int64)).before a0 Z = true := hw _ (List.mem_of_getElem? (i := 8) rfl)
theorem wd_9 {a0 : Array Value} {Z : State} (hw : ∀ d ∈ tables_1, d.before a0 Z = true) : (Jvm.Cond.constantLong "com/example/grawl/grawl/graph/ByteWordsDecimalPinLaw" (9 : Nat) (10 : Int64)).before a0 Z = true := hw _ (List.mem_of_getElem? (i := 9) rfl)
theorem wd_10 {a0 : Array Value} {Z : State} (hw : ∀ d ∈ tables_1, d.before a0 Z = true) : (Jvm.Cond.constantLong "com/example/grawl/grawl/graph/ByteWordsDecimalPinLaw" (23 : Nat) (10000000 : Int64)).before a0 Z = true := hw _ (List.mem_of_getElem? (i := 10) rfl)
theorem wd_11 {a0 : Array Value} {Z : State} (hw : ∀ d ∈ tables_1, d.before a0 Z = true) : (Jvm.Cond.constantLong "com/example/grawl/grawl/graph/ByteWordsDecimalPinLaw" (25 : Nat) (1000000 : Int64)).before a0 Z = true := hw _ (List.mem_of_getElem? (i := 11) rfl)
theorem wd_12 {a0 : Array Value} {Z : State} (hw : ∀ d ∈ tables_1, d.before a0 Z = true) : (Jvm.Cond.constantLong "com/example/grawl/grawl/graph/ByteWordsDecimalPinLaw" (27 : Nat) (100000 : Int64)).before a0 Z = true := hw _ (List.mem_of_getElem? (i := 12) rfl)
theorem wd_13 {a0 : Array Value} {Z : State} (hw : ∀ d ∈ tables_1, d.before a0 Z = true) : (Jvm.Cond.constantLong "com/example/grawl/grawl/graph/ByteWordsDecimalPinLaw" (29 : Nat) (10000 : Int64)).before a0 Z = true := hw _ (List.mem_of_getElem? (i := 13) rfl)
theorem wd_14 {a0 : Array Value} {Z : State} (hw : ∀ d ∈ tables_1, d.before a0 Z = true) : (Jvm.Cond.constantLong "com/example/grawl/grawl/graph/ByteWordsDecimalPinLaw" (31 : Nat) (1000 : Int64)).before a0 Z = true := hw _ (List.mem_of_getElem? (i := 14) rfl)
theorem wd_15 {a0 : Array Value} {Z : State} (hw : ∀ d ∈ tables_1, d.before a0 Z = true) : (Jvm.Cond.constantLong "com/example/grawl/grawl/graph/ByteWordsDecimalPinLaw" (33 : Nat) (100 : Int64)).before a0 Z = true := hw _ (List.mem_of_getElem? (i := 15) rfl)
theorem wd_16 {a0 : Array Value} {Z : State} (hw : ∀ d ∈ tables_1, d.before a0 Z = true) : (Jvm.Cond.arrayClass Jvm.ClassFile.FieldType.long).before a0 Z = true := hw _ (List.mem_of_getElem? (i := 16) rfl)
theorem wd_17 {a0 : Array Value} {Z : State} (hw : ∀ d ∈ tables_1, d.before a0 Z = true) : (Jvm.Cond.constantLong "com/example/grawl/grawl/graph/ByteWordsDecimalPinLaw" (35 : Nat) (100000000 : Int64)).before a0 Z = true := hw _ (List.mem_of_getElem? (i := 17) rfl)
theorem wd_18 {a0 : Array Value} {Z : State} (hw : ∀ d ∈ tables_1, d.before a0 Z = true) : (Jvm.Cond.methodLink "com/example/grawl/grawl/graph/ByteWordsDecimalPinLaw" (37 : Nat) ({ cls := "com/example/grawl/grawl/graph/ByteWords", name := "decimal", desc := "(JI)J" } : Jvm.MethodName)).before a0 Z = true := hw _ (List.mem_of_getElem? (i := 18) rfl)
theorem wd_19 {a0 : Array Value} {Z : State} (hw : ∀ d ∈ tables_1, d.before a0 Z = true) : (Jvm.Cond.static ({ cls := "com/example/grawl/grawl/graph/ByteWords", name := "decimal", desc := "(JI)J" } : Jvm.MethodName)).before a0 Z = true := hw _ (List.mem_of_getElem? (i := 19) rfl)
theorem wd_20 {a0 : Array Value} {Z : State} (hw : ∀ d ∈ tables_1, d.before a0 Z = true) : (Jvm.Cond.initialized "com/example/grawl/grawl/graph/ByteWords").before a0 Z = true := hw _ (List.mem_of_getElem? (i := 20) rfl)
theorem wd_21 {a0 : Array Value} {Z : State} (hw : ∀ d ∈ tables_1, d.before a0 Z = true) : (Jvm.Cond.code ({ cls := "com/example/grawl/grawl/graph/ByteWords", name := "decimal", desc := "(JI)J" } : Jvm.MethodName) prog_23_method_4_code (9 : Nat) (Option.some Jvm.ClassFile.FieldType.long)).before a0 Z = true := hw _ (List.mem_of_getElem? (i := 21) rfl)
theorem wd_22 {a0 : Array Value} {Z : State} (hw : ∀ d ∈ tables_1, d.before a0 Z = true) : (Jvm.Cond.constantLong "com/example/grawl/grawl/graph/ByteWords" (19 : Nat) (3472328296227680304 : Int64)).before a0 Z = true := hw _ (List.mem_of_getElem? (i := 22) rfl)
theorem wd_23 {a0 : Array Value} {Z : State} (hw : ∀ d ∈ tables_1, d.before a0 Z = true) : (Jvm.Cond.constantLong "com/example/grawl/grawl/graph/ByteWords" (33 : Nat) (10 : Int64)).before a0 Z = true := hw _ (List.mem_of_getElem? (i := 23) rfl)
theorem wd_24 {a0 : Array Value} {Z : State} (hw : ∀ d ∈ tables_1, d.before a0 Z = true) : (Jvm.Cond.constantLong "com/example/grawl/grawl/graph/ByteWords" (35 : Nat) (71777214294589695 : Int64)).before a0 Z = true := hw _ (List.mem_of_getElem? (i := 24) rfl)
theorem wd_25 {a0 : Array Value} {Z : State} (hw : ∀ d ∈ tables_1, d.before a0 Z = true) : (Jvm.Cond.constantLong "com/example/grawl/grawl/graph/ByteWords" (37 : Nat) (100 : Int64)).before a0 Z = true := hw _ (List.mem_of_getElem? (i := 25) rfl)
theorem wd_26 {a0 : Array Value} {Z : State} (hw : ∀ d ∈ tables_1, d.before a0 Z = true) : (Jvm.Cond.constantLong "com/example/grawl/grawl/graph/ByteWords" (39 : Nat) (281470681808895 : Int64)).before a0 Z = true := hw _ (List.mem_of_getElem? (i := 26) rfl)
theorem wd_27 {a0 : Array Value} {Z : State} (hw : ∀ d ∈ tables_1, d.before a0 Z = true) : (Jvm.Cond.constantLong "com/example/grawl/grawl/graph/ByteWords" (41 : Nat) (10000 : Int64)).before a0 Z = true := hw _ (List.mem_of_getElem? (i := 27) rfl)
theorem wd_28 {a0 : Array Value} {Z : State} (hw : ∀ d ∈ tables_1, d.before a0 Z = true) : (Jvm.Cond.constantLong "com/example/grawl/grawl/graph/ByteWords" (43 : Nat) (4294967295 : Int64)).before a0 Z = true := hw _ (List.mem_of_getElem? (i := 28) rfl)
theorem D0_0 : In code 0 2 (.iload 4) 2 := ⟨at_0, rfl⟩
theorem D0_2 : In code 2 2 (.bipush 7) 4 := ⟨at_2, rfl⟩
theorem D0_4 : In code 4 1 (.iand) 5 := ⟨at_4, rfl⟩
theorem D0_5 : In code 5 1 (.iconst 1) 6 := ⟨at_5, rfl⟩
theorem D0_6 : In code 6 1 (.iadd) 7 := ⟨at_6, rfl⟩
theorem D0_7 : In code 7 2 (.istore 5) 9 := ⟨at_7, rfl⟩
theorem D0_9 : In code 9 1 (.lload_n 0) 10 := ⟨at_9, rfl⟩
theorem D0_10 : In code 10 1 (.lload_n 2) 11 := ⟨at_10, rfl⟩
theorem D0_11 : In code 11 2 (.iload 5) 13 := ⟨at_11, rfl⟩
theorem D0_13 : In code 13 1 (.iconst 0) 14 := ⟨at_13, rfl⟩
theorem D0_14 : In code 14 3 (.invokestatic 19) 17 := ⟨at_14, rfl⟩
theorem D0_17 : In code 17 1 (.lload_n 0) 18 := ⟨at_17, rfl⟩
theorem D0_18 : In code 18 1 (.lload_n 2) 19 := ⟨at_18, rfl⟩
theorem D0_19 : In code 19 2 (.iload 5) 21 := ⟨at_19, rfl⟩
theorem D0_21 : In code 21 1 (.iconst 1) 22 := ⟨at_21, rfl⟩
theorem D0_22 : In code 22 3 (.invokestatic 19) 25 := ⟨at_22, rfl⟩
theorem D0_25 : In code 25 2 (.bipush 8) 27 := ⟨at_25, rfl⟩
theorem D0_27 : In code 27 1 (.lshl) 28 := ⟨at_27, rfl⟩
theorem D0_28 : In code 28 1 (.lor) 29 := ⟨at_28, rfl⟩
theorem D0_29 : In code 29 1 (.lload_n 0) 30 := ⟨at_29, rfl⟩
theorem D0_30 : In code 30 1 (.lload_n 2) 31 := ⟨at_30, rfl⟩
theorem D0_31 : In code 31 2 (.iload 5) 33 := ⟨at_31, rfl⟩
theorem D0_33 : In code 33 1 (.iconst 2) 34 := ⟨at_33, rfl⟩
theorem D0_34 : In code 34 3 (.invokestatic 19) 37 := ⟨at_34, rfl⟩
theorem D0_37 : In code 37 2 (.bipush 16) 39 := ⟨at_37, rfl⟩
theorem D0_39 : In code 39 1 (.lshl) 40 := ⟨at_39, rfl⟩
theorem D0_40 : In code 40 1 (.lor) 41 := ⟨at_40, rfl⟩
theorem D0_41 : In code 41 1 (.lload_n 0) 42 := ⟨at_41, rfl⟩
theorem D0_42 : In code 42 1 (.lload_n 2) 43 := ⟨at_42, rfl⟩
theorem D0_43 : In code 43 2 (.iload 5) 45 := ⟨at_43, rfl⟩
theorem D0_45 : In code 45 1 (.iconst 3) 46 := ⟨at_45, rfl⟩
theorem D0_46 : In code 46 3 (.invokestatic 19) 49 := ⟨at_46, rfl⟩
theorem D0_49 : In code 49 2 (.bipush 24) 51 := ⟨at_49, rfl⟩
theorem D0_51 : In code 51 1 (.lshl) 52 := ⟨at_51, rfl⟩
theorem D0_52 : In code 52 1 (.lor) 53 := ⟨at_52, rfl⟩
theorem D0_53 : In code 53 1 (.lload_n 0) 54 := ⟨at_53, rfl⟩
theorem D0_54 : In code 54 1 (.lload_n 2) 55 := ⟨at_54, rfl⟩
theorem D0_55 : In code 55 2 (.iload 5) 57 := ⟨at_55, rfl⟩
theorem D0_57 : In code 57 1 (.iconst 4) 58 := ⟨at_57, rfl⟩
theorem D0_58 : In code 58 3 (.invokestatic 19) 61 := ⟨at_58, rfl⟩
theorem D0_61 : In code 61 2 (.bipush 32) 63 := ⟨at_61, rfl⟩
theorem D0_63 : In code 63 1 (.lshl) 64 := ⟨at_63, rfl⟩
theorem D0_64 : In code 64 1 (.lor) 65 := ⟨at_64, rfl⟩
theorem D0_65 : In code 65 1 (.lload_n 0) 66 := ⟨at_65, rfl⟩
theorem D0_66 : In code 66 1 (.lload_n 2) 67 := ⟨at_66, rfl⟩
theorem D0_67 : In code 67 2 (.iload 5) 69 := ⟨at_67, rfl⟩
theorem D0_69 : In code 69 1 (.iconst 5) 70 := ⟨at_69, rfl⟩
theorem D0_70 : In code 70 3 (.invokestatic 19) 73 := ⟨at_70, rfl⟩
theorem D0_73 : In code 73 2 (.bipush 40) 75 := ⟨at_73, rfl⟩
theorem D0_75 : In code 75 1 (.lshl) 76 := ⟨at_75, rfl⟩
theorem D0_76 : In code 76 1 (.lor) 77 := ⟨at_76, rfl⟩
theorem D0_77 : In code 77 1 (.lload_n 0) 78 := ⟨at_77, rfl⟩
theorem D0_78 : In code 78 1 (.lload_n 2) 79 := ⟨at_78, rfl⟩
theorem D0_79 : In code 79 2 (.iload 5) 81 := ⟨at_79, rfl⟩
theorem D0_81 : In code 81 2 (.bipush 6) 83 := ⟨at_81, rfl⟩
theorem D0_83 : In code 83 3 (.invokestatic 19) 86 := ⟨at_83, rfl⟩
theorem D0_86 : In code 86 2 (.bipush 48) 88 := ⟨at_86, rfl⟩
theorem D0_88 : In code 88 1 (.lshl) 89 := ⟨at_88, rfl⟩
theorem D0_89 : In code 89 1 (.lor) 90 := ⟨at_89, rfl⟩
theorem D0_90 : In code 90 1 (.lload_n 0) 91 := ⟨at_90, rfl⟩
theorem D0_91 : In code 91 1 (.lload_n 2) 92 := ⟨at_91, rfl⟩
theorem D0_92 : In code 92 2 (.iload 5) 94 := ⟨at_92, rfl⟩
theorem D0_94 : In code 94 2 (.bipush 7) 96 := ⟨at_94, rfl⟩
theorem D0_96 : In code 96 3 (.invokestatic 19) 99 := ⟨at_96, rfl⟩
theorem D0_99 : In code 99 2 (.bipush 56) 101 := ⟨at_99, rfl⟩
theorem D0_101 : In code 101 1 (.lshl) 102 := ⟨at_101, rfl⟩
theorem D0_102 : In code 102 1 (.lor) 103 := ⟨at_102, rfl⟩
theorem D0_103 : In code 103 2 (.lstore 6) 105 := ⟨at_103, rfl⟩
theorem D0_105 : In code 105 1 (.lload_n 0) 106 := ⟨at_105, rfl⟩
theorem D0_106 : In code 106 1 (.iconst 0) 107 := ⟨at_106, rfl⟩
theorem D0_107 : In code 107 3 (.invokestatic 13) 110 := ⟨at_107, rfl⟩
theorem D0_110 : In code 110 3 (.ldc2_w 23) 113 := ⟨at_110, rfl⟩
theorem D0_113 : In code 113 1 (.lmul) 114 := ⟨at_113, rfl⟩
theorem D0_114 : In code 114 1 (.lload_n 0) 115 := ⟨at_114, rfl⟩
theorem D0_115 : In code 115 1 (.iconst 1) 116 := ⟨at_115, rfl⟩
theorem D0_116 : In code 116 3 (.invokestatic 13) 119 := ⟨at_116, rfl⟩
theorem D0_119 : In code 119 3 (.ldc2_w 25) 122 := ⟨at_119, rfl⟩
theorem D0_122 : In code 122 1 (.lmul) 123 := ⟨at_122, rfl⟩
theorem D0_123 : In code 123 1 (.ladd) 124 := ⟨at_123, rfl⟩
theorem D0_124 : In code 124 1 (.lload_n 0) 125 := ⟨at_124, rfl⟩
theorem D0_125 : In code 125 1 (.iconst 2) 126 := ⟨at_125, rfl⟩
theorem D0_126 : In code 126 3 (.invokestatic 13) 129 := ⟨at_126, rfl⟩
theorem D0_129 : In code 129 3 (.ldc2_w 27) 132 := ⟨at_129, rfl⟩
theorem D0_132 : In code 132 1 (.lmul) 133 := ⟨at_132, rfl⟩
theorem D0_133 : In code 133 1 (.ladd) 134 := ⟨at_133, rfl⟩
theorem D0_134 : In code 134 1 (.lload_n 0) 135 := ⟨at_134, rfl⟩
theorem D0_135 : In code 135 1 (.iconst 3) 136 := ⟨at_135, rfl⟩
theorem D0_136 : In code 136 3 (.invokestatic 13) 139 := ⟨at_136, rfl⟩
theorem D0_139 : In code 139 3 (.ldc2_w 29) 142 := ⟨at_139, rfl⟩
theorem D0_142 : In code 142 1 (.lmul) 143 := ⟨at_142, rfl⟩
theorem D0_143 : In code 143 1 (.ladd) 144 := ⟨at_143, rfl⟩
theorem D0_144 : In code 144 1 (.lload_n 0) 145 := ⟨at_144, rfl⟩
theorem D0_145 : In code 145 1 (.iconst 4) 146 := ⟨at_145, rfl⟩
theorem D0_146 : In code 146 3 (.invokestatic 13) 149 := ⟨at_146, rfl⟩
theorem D0_149 : In code 149 3 (.ldc2_w 31) 152 := ⟨at_149, rfl⟩
theorem D0_152 : In code 152 1 (.lmul) 153 := ⟨at_152, rfl⟩
theorem D0_153 : In code 153 1 (.ladd) 154 := ⟨at_153, rfl⟩
theorem D0_154 : In code 154 1 (.lload_n 0) 155 := ⟨at_154, rfl⟩
theorem D0_155 : In code 155 1 (.iconst 5) 156 := ⟨at_155, rfl⟩
theorem D0_156 : In code 156 3 (.invokestatic 13) 159 := ⟨at_156, rfl⟩
theorem D0_159 : In code 159 3 (.ldc2_w 33) 162 := ⟨at_159, rfl⟩
theorem D0_162 : In code 162 1 (.lmul) 163 := ⟨at_162, rfl⟩
theorem D0_163 : In code 163 1 (.ladd) 164 := ⟨at_163, rfl⟩
theorem D0_164 : In code 164 1 (.lload_n 0) 165 := ⟨at_164, rfl⟩
theorem D0_165 : In code 165 2 (.bipush 6) 167 := ⟨at_165, rfl⟩
theorem D0_167 : In code 167 3 (.invokestatic 13) 170 := ⟨at_167, rfl⟩
theorem D0_170 : In code 170 3 (.ldc2_w 9) 173 := ⟨at_170, rfl⟩
theorem D0_173 : In code 173 1 (.lmul) 174 := ⟨at_173, rfl⟩
theorem D0_174 : In code 174 1 (.ladd) 175 := ⟨at_174, rfl⟩
theorem D0_175 : In code 175 1 (.lload_n 0) 176 := ⟨at_175, rfl⟩
theorem D0_176 : In code 176 2 (.bipush 7) 178 := ⟨at_176, rfl⟩
theorem D0_178 : In code 178 3 (.invokestatic 13) 181 := ⟨at_178, rfl⟩
theorem D0_181 : In code 181 1 (.ladd) 182 := ⟨at_181, rfl⟩
theorem D0_182 : In code 182 2 (.lstore 8) 184 := ⟨at_182, rfl⟩
theorem D0_184 : In code 184 2 (.bipush 9) 186 := ⟨at_184, rfl⟩
theorem D0_186 : In code 186 2 (.newarray .long) 188 := ⟨at_186, rfl⟩
theorem D0_188 : In code 188 1 (.dup) 189 := ⟨at_188, rfl⟩
theorem D0_189 : In code 189 1 (.iconst 0) 190 := ⟨at_189, rfl⟩
theorem D0_190 : In code 190 1 (.lconst 1) 191 := ⟨at_190, rfl⟩
theorem D0_191 : In code 191 1 (.lastore) 192 := ⟨at_191, rfl⟩
theorem D0_192 : In code 192 1 (.dup) 193 := ⟨at_192, rfl⟩
theorem D0_193 : In code 193 1 (.iconst 1) 194 := ⟨at_193, rfl⟩
theorem D0_194 : In code 194 3 (.ldc2_w 9) 197 := ⟨at_194, rfl⟩
theorem D0_197 : In code 197 1 (.lastore) 198 := ⟨at_197, rfl⟩
theorem D0_198 : In code 198 1 (.dup) 199 := ⟨at_198, rfl⟩
theorem D0_199 : In code 199 1 (.iconst 2) 200 := ⟨at_199, rfl⟩
theorem D0_200 : In code 200 3 (.ldc2_w 33) 203 := ⟨at_200, rfl⟩
theorem D0_203 : In code 203 1 (.lastore) 204 := ⟨at_203, rfl⟩
theorem D0_204 : In code 204 1 (.dup) 205 := ⟨at_204, rfl⟩
theorem D0_205 : In code 205 1 (.iconst 3) 206 := ⟨at_205, rfl⟩
theorem D0_206 : In code 206 3 (.ldc2_w 31) 209 := ⟨at_206, rfl⟩
theorem D0_209 : In code 209 1 (.lastore) 210 := ⟨at_209, rfl⟩
theorem D0_210 : In code 210 1 (.dup) 211 := ⟨at_210, rfl⟩
theorem D0_211 : In code 211 1 (.iconst 4) 212 := ⟨at_211, rfl⟩
theorem D0_212 : In code 212 3 (.ldc2_w 29) 215 := ⟨at_212, rfl⟩
theorem D0_215 : In code 215 1 (.lastore) 216 := ⟨at_215, rfl⟩
theorem D0_216 : In code 216 1 (.dup) 217 := ⟨at_216, rfl⟩
theorem D0_217 : In code 217 1 (.iconst 5) 218 := ⟨at_217, rfl⟩
theorem D0_218 : In code 218 3 (.ldc2_w 27) 221 := ⟨at_218, rfl⟩
theorem D0_221 : In code 221 1 (.lastore) 222 := ⟨at_221, rfl⟩
theorem D0_222 : In code 222 1 (.dup) 223 := ⟨at_222, rfl⟩
theorem D0_223 : In code 223 2 (.bipush 6) 225 := ⟨at_223, rfl⟩
theorem D0_225 : In code 225 3 (.ldc2_w 25) 228 := ⟨at_225, rfl⟩
theorem D0_228 : In code 228 1 (.lastore) 229 := ⟨at_228, rfl⟩
theorem D0_229 : In code 229 1 (.dup) 230 := ⟨at_229, rfl⟩
theorem D0_230 : In code 230 2 (.bipush 7) 232 := ⟨at_230, rfl⟩
theorem D0_232 : In code 232 3 (.ldc2_w 23) 235 := ⟨at_232, rfl⟩
theorem D0_235 : In code 235 1 (.lastore) 236 := ⟨at_235, rfl⟩
theorem D0_236 : In code 236 1 (.dup) 237 := ⟨at_236, rfl⟩
theorem D0_237 : In code 237 2 (.bipush 8) 239 := ⟨at_237, rfl⟩
theorem D0_239 : In code 239 3 (.ldc2_w 35) 242 := ⟨at_239, rfl⟩
theorem D0_242 : In code 242 1 (.lastore) 243 := ⟨at_242, rfl⟩
theorem D0_243 : In code 243 2 (.astore 10) 245 := ⟨at_243, rfl⟩
theorem D0_245 : In code 245 2 (.lload 8) 247 := ⟨at_245, rfl⟩
theorem D0_247 : In code 247 2 (.aload 10) 249 := ⟨at_247, rfl⟩
theorem D0_249 : In code 249 2 (.bipush 8) 251 := ⟨at_249, rfl⟩
theorem D0_251 : In code 251 2 (.iload 5) 253 := ⟨at_251, rfl⟩
theorem D0_253 : In code 253 1 (.isub) 254 := ⟨at_253, rfl⟩
theorem D0_254 : In code 254 1 (.laload) 255 := ⟨at_254, rfl⟩
theorem D0_255 : In code 255 1 (.ldiv) 256 := ⟨at_255, rfl⟩
theorem D0_256 : In code 256 2 (.lstore 11) 258 := ⟨at_256, rfl⟩
theorem D0_258 : In code 258 2 (.lload 6) 260 := ⟨at_258, rfl⟩
theorem D0_260 : In code 260 2 (.iload 5) 262 := ⟨at_260, rfl⟩
theorem D0_262 : In code 262 3 (.invokestatic 37) 265 := ⟨at_262, rfl⟩
theorem D0_265 : In code 265 2 (.lload 11) 267 := ⟨at_265, rfl⟩
theorem D0_267 : In code 267 1 (.lcmp) 268 := ⟨at_267, rfl⟩
theorem D0_268 : Jm code 268 (.ifCond .ne) 271 275 := ⟨7, at_268, rfl, by decide, by decide⟩
theorem D0_271 : In code 271 1 (.iconst 1) 272 := ⟨at_271, rfl⟩
theorem D0_272 : Jm code 272 .goto 275 276 := ⟨4, at_272, rfl, by decide, by decide⟩
theorem D0_276 : In code 276 1 (.ireturn) 277 := ⟨at_276, rfl⟩
theorem D1_0 : In method_3_code 0 2 (.iload 5) 2 := ⟨by decide +kernel, rfl⟩
theorem D1_2 : In method_3_code 2 2 (.iload 4) 4 := ⟨by decide +kernel, rfl⟩
theorem D1_4 : Jm method_3_code 4 (.if_icmp .ge) 7 18 := ⟨14, by decide +kernel, rfl, by decide, by decide⟩
theorem D1_7 : In method_3_code 7 3 (.ldc2_w 11) 10 := ⟨by decide +kernel, rfl⟩
theorem D1_10 : In method_3_code 10 1 (.lload_n 0) 11 := ⟨by decide +kernel, rfl⟩
theorem D1_11 : In method_3_code 11 2 (.iload 5) 13 := ⟨by decide +kernel, rfl⟩
theorem D1_13 : In method_3_code 13 3 (.invokestatic 13) 16 := ⟨by decide +kernel, rfl⟩
theorem D1_16 : In method_3_code 16 1 (.ladd) 17 := ⟨by decide +kernel, rfl⟩
theorem D1_17 : In method_3_code 17 1 (.lreturn) 18 := ⟨by decide +kernel, rfl⟩
theorem D1_18 : In method_3_code 18 1 (.lload_n 2) 19 := ⟨by decide +kernel, rfl⟩
theorem D1_19 : In method_3_code 19 2 (.bipush 8) 21 := ⟨by decide +kernel, rfl⟩
theorem D1_21 : In method_3_code 21 2 (.iload 5) 23 := ⟨by decide +kernel, rfl⟩
theorem D1_23 : In method_3_code 23 1 (.imul) 24 := ⟨by decide +kernel, rfl⟩
theorem D1_24 : In method_3_code 24 1 (.lushr) 25 := ⟨by decide +kernel, rfl⟩
theorem D1_25 : In method_3_code 25 3 (.ldc2_w 7) 28 := ⟨by decide +kernel, rfl⟩
theorem D1_28 : In method_3_code 28 1 (.land) 29 := ⟨by decide +kernel, rfl⟩
theorem D1_29 : In method_3_code 29 1 (.lreturn) 30 := ⟨by decide +kernel, rfl⟩
theorem D2_0 : In method_2_code 0 1 (.lload_n 0) 1 := ⟨by decide +kernel, rfl⟩
theorem D2_1 : In method_2_code 1 2 (.bipush 8) 3 := ⟨by decide +kernel, rfl⟩
theorem D2_3 : In method_2_code 3 1 (.iload_n 2) 4 := ⟨by decide +kernel, rfl⟩
theorem D2_4 : In method_2_code 4 1 (.imul) 5 := ⟨by decide +kernel, rfl⟩
theorem D2_5 : In method_2_code 5 1 (.lushr) 6 := ⟨by decide +kernel, rfl⟩
theorem D2_6 : In method_2_code 6 3 (.ldc2_w 7) 9 := ⟨by decide +kernel, rfl⟩
theorem D2_9 : In method_2_code 9 1 (.land) 10 := ⟨by decide +kernel, rfl⟩
theorem D2_10 : In method_2_code 10 3 (.ldc2_w 9) 13 := ⟨by decide +kernel, rfl⟩
theorem D2_13 : In method_2_code 13 1 (.lrem) 14 := ⟨by decide +kernel, rfl⟩
theorem D2_14 : In method_2_code 14 1 (.lreturn) 15 := ⟨by decide +kernel, rfl⟩
theorem D3_0 : In prog_23_method_4_code 0 1 (.lload_n 0) 1 := ⟨by decide +kernel, rfl⟩
theorem D3_1 : In prog_23_method_4_code 1 3 (.ldc2_w 19) 4 := ⟨by decide +kernel, rfl⟩
theorem D3_4 : In prog_23_method_4_code 4 1 (.lxor) 5 := ⟨by decide +kernel, rfl⟩
theorem D3_5 : In prog_23_method_4_code 5 2 (.bipush 64) 7 := ⟨by decide +kernel, rfl⟩
theorem D3_7 : In prog_23_method_4_code 7 2 (.bipush 8) 9 := ⟨by decide +kernel, rfl⟩
theorem D3_9 : In prog_23_method_4_code 9 1 (.iload_n 2) 10 := ⟨by decide +kernel, rfl⟩
theorem D3_10 : In prog_23_method_4_code 10 1 (.imul) 11 := ⟨by decide +kernel, rfl⟩
theorem D3_11 : In prog_23_method_4_code 11 1 (.isub) 12 := ⟨by decide +kernel, rfl⟩
theorem D3_12 : In prog_23_method_4_code 12 1 (.lshl) 13 := ⟨by decide +kernel, rfl⟩
theorem D3_13 : In prog_23_method_4_code 13 1 (.lstore_n 3) 14 := ⟨by decide +kernel, rfl⟩
theorem D3_14 : In prog_23_method_4_code 14 1 (.lload_n 3) 15 := ⟨by decide +kernel, rfl⟩
theorem D3_15 : In prog_23_method_4_code 15 3 (.ldc2_w 33) 18 := ⟨by decide +kernel, rfl⟩
theorem D3_18 : In prog_23_method_4_code 18 1 (.lmul) 19 := ⟨by decide +kernel, rfl⟩
theorem D3_19 : In prog_23_method_4_code 19 1 (.lload_n 3) 20 := ⟨by decide +kernel, rfl⟩
theorem D3_20 : In prog_23_method_4_code 20 2 (.bipush 8) 22 := ⟨by decide +kernel, rfl⟩
theorem D3_22 : In prog_23_method_4_code 22 1 (.lushr) 23 := ⟨by decide +kernel, rfl⟩
theorem D3_23 : In prog_23_method_4_code 23 1 (.ladd) 24 := ⟨by decide +kernel, rfl⟩
theorem D3_24 : In prog_23_method_4_code 24 3 (.ldc2_w 35) 27 := ⟨by decide +kernel, rfl⟩
theorem D3_27 : In prog_23_method_4_code 27 1 (.land) 28 := ⟨by decide +kernel, rfl⟩
theorem D3_28 : In prog_23_method_4_code 28 2 (.lstore 5) 30 := ⟨by decide +kernel, rfl⟩
theorem D3_30 : In prog_23_method_4_code 30 2 (.lload 5) 32 := ⟨by decide +kernel, rfl⟩
theorem D3_32 : In prog_23_method_4_code 32 3 (.ldc2_w 37) 35 := ⟨by decide +kernel, rfl⟩
theorem D3_35 : In prog_23_method_4_code 35 1 (.lmul) 36 := ⟨by decide +kernel, rfl⟩
theorem D3_36 : In prog_23_method_4_code 36 2 (.lload 5) 38 := ⟨by decide +kernel, rfl⟩
theorem D3_38 : In prog_23_method_4_code 38 2 (.bipush 16) 40 := ⟨by decide +kernel, rfl⟩
theorem D3_40 : In prog_23_method_4_code 40 1 (.lushr) 41 := ⟨by decide +kernel, rfl⟩
theorem D3_41 : In prog_23_method_4_code 41 1 (.ladd) 42 := ⟨by decide +kernel, rfl⟩
theorem D3_42 : In prog_23_method_4_code 42 3 (.ldc2_w 39) 45 := ⟨by decide +kernel, rfl⟩
theorem D3_45 : In prog_23_method_4_code 45 1 (.land) 46 := ⟨by decide +kernel, rfl⟩
theorem D3_46 : In prog_23_method_4_code 46 2 (.lstore 7) 48 := ⟨by decide +kernel, rfl⟩
theorem D3_48 : In prog_23_method_4_code 48 2 (.lload 7) 50 := ⟨by decide +kernel, rfl⟩
theorem D3_50 : In prog_23_method_4_code 50 3 (.ldc2_w 41) 53 := ⟨by decide +kernel, rfl⟩
theorem D3_53 : In prog_23_method_4_code 53 1 (.lmul) 54 := ⟨by decide +kernel, rfl⟩
theorem D3_54 : In prog_23_method_4_code 54 2 (.lload 7) 56 := ⟨by decide +kernel, rfl⟩
theorem D3_56 : In prog_23_method_4_code 56 2 (.bipush 32) 58 := ⟨by decide +kernel, rfl⟩
theorem D3_58 : In prog_23_method_4_code 58 1 (.lushr) 59 := ⟨by decide +kernel, rfl⟩
theorem D3_59 : In prog_23_method_4_code 59 1 (.ladd) 60 := ⟨by decide +kernel, rfl⟩
theorem D3_60 : In prog_23_method_4_code 60 3 (.ldc2_w 43) 63 := ⟨by decide +kernel, rfl⟩
theorem D3_63 : In prog_23_method_4_code 63 1 (.land) 64 := ⟨by decide +kernel, rfl⟩
theorem D3_64 : In prog_23_method_4_code 64 1 (.lreturn) 65 := ⟨by decide +kernel, rfl⟩
theorem pd_0 : parseMethodDescriptor "(JI)J" = some ⟨[.long, .int], some .long⟩ := by decide +kernel
theorem pd_1 : parseMethodDescriptor "(JJII)J" = some ⟨[.long, .long, .int, .int], some .long⟩ := by decide +kernel
theorem pn_0 : plainName "com/example/grawl/grawl/graph/ByteWordsDecimalPinLaw" = true := by first | (simp [plainName, overriddenIn]; done) | decide +kernel
theorem pn_1 : plainName "com/example/grawl/grawl/graph/ByteWords" = true := by first | (simp [plainName, overriddenIn]; done) | decide +kernel
set_option maxRecDepth 65536 in
set_option maxHeartbeats 40000000 in
theorem c_digit (l : Launch) {Z : State} {a0 : Array Value} (hw : ∀ d ∈ tables_1, d.before a0 Z = true) (h0 : Heap) (n0 : Nat) (hn0 : n0 ≤ h0.size) (sd : Int64) (i : Int32)  : Con l Z (⟨"com/example/grawl/grawl/graph/ByteWordsDecimalPinLaw", "digit", "(JI)J"⟩ : MethodName) method_2_code 3 (some .long) ({ frames := 0, cells := 0, slots := 0, locals := 0 } : Room) [] #[(.long sd), (.int i)] h0 n0 (fun v h' => v = some (.long (digJ sd i)) ∧ h0 = h') := by
  refine con_of (Ls0 := #[.val (.long sd), .second, .val (.int i)]) (plainFor_of_name pn_0) (fun m => by first | (simp [entryFrame, mkF, argsToLocals, Value.category]; done) | rfl) hn0 ?_
  intro p e s m below meth c C
  refine g_lloadN C D2_0 rfl ?_
  refine g_bipush C (8 : Int32) rfl D2_1 ?_
  refine g_iloadN C D2_3 rfl ?_
  refine g_imul C D2_4 ?_
  refine g_lushr C D2_5 ?_
  refine g_ldc2 C (wd_8 hw) D2_6 ?_
  refine g_land C D2_9 ?_
  refine g_ldc2 C (wd_9 hw) D2_10 ?_
  refine g_lrem C D2_13 (by decide) ?_
  refine g_retJ C D2_14 (by decide) (by decide) ?_
  exact ⟨rfl, rfl⟩
set_option maxRecDepth 65536 in
set_option maxHeartbeats 40000000 in
theorem c_byte (l : Launch) {Z : State} {a0 : Array Value} (hw : ∀ d ∈ tables_1, d.before a0 Z = true) (h0 : Heap) (n0 : Nat) (hn0 : n0 ≤ h0.size) (sd rest : Int64) (n1 i : Int32)  : Con l Z (⟨"com/example/grawl/grawl/graph/ByteWordsDecimalPinLaw", "byteAt", "(JJII)J"⟩ : MethodName) method_3_code 6 (some .long) ({ frames := 1, cells := 0, slots := 0, locals := 16 } : Room) [] #[(.long sd), (.long rest), (.int n1), (.int i)] h0 n0 (fun v h' => ∃ r, v = some (.long r) ∧ BY sd n1 i r ∧ h0 = h') := by
  refine con_of (Ls0 := #[.val (.long sd), .second, .val (.long rest), .second, .val (.int n1), .val (.int i)]) (plainFor_of_name pn_0) (fun m => by first | (simp [entryFrame, mkF, argsToLocals, Value.category]; done) | rfl) hn0 ?_
  intro p e s m below meth c C
  refine g_iload C D1_0 rfl ?_
  refine g_iload C D1_2 rfl ?_
  refine g_icmp_ge C D1_4 (fun q1 => ?_) (fun q1 => ?_)
  · refine g_lloadN C D1_18 rfl ?_
    refine g_bipush C (8 : Int32) rfl D1_19 ?_
    refine g_iload C D1_21 rfl ?_
    refine g_imul C D1_23 ?_
    refine g_lushr C D1_24 ?_
    refine g_ldc2 C (wd_8 hw) D1_25 ?_
    refine g_land C D1_28 ?_
    refine g_retJ C D1_29 (by decide) (by decide) ?_
    exact ⟨_, rfl, ⟨(mask_rng _).1, (mask_rng _).2, fun z => absurd z q1⟩, rfl⟩
  · refine g_ldc2 C (wd_4 hw) D1_7 ?_
    refine g_lloadN C D1_10 rfl ?_
    refine g_iload C D1_11 rfl ?_
    refine g_callS C (c_digit l hw h0 n0 hn0 sd i) (wd_5 hw) (wd_6 hw) (wd_2 hw) (wd_7 hw) (by decide) D1_13 pd_0 [(.long sd), (.int i)] [(.long (48 : Int64))] rfl rfl rfl 2 (Nat.le_of_eq rfl) (by decide) (by decide) (by decide) (by decide) ?_
    rintro _ _ ⟨rfl, rfl⟩
    refine g_cast (f' := mkF m 16 #[.val (.long sd), .second, .val (.long rest), .second, .val (.int n1), .val (.int i)] [(.long (digJ sd i)), (.long (48 : Int64))]) rfl ?_
    refine g_ladd C D1_16 ?_
    refine g_retJ C D1_17 (by decide) (by decide) ?_
    exact ⟨_, rfl, ⟨by rw [dig48]; have := dig_rng sd i; omega, by rw [dig48]; have := dig_rng sd i; omega, fun _ => dig48 sd i⟩, rfl⟩
set_option maxRecDepth 65536 in
set_option maxHeartbeats 40000000 in
theorem c_dec (l : Launch) {Z : State} {a0 : Array Value} (hw : ∀ d ∈ tables_1, d.before a0 Z = true) (h0 : Heap) (n0 : Nat) (hn0 : n0 ≤ h0.size) (w0 : Int64) (n1 : Int32)  : Con l Z (⟨"com/example/grawl/grawl/graph/ByteWords", "decimal", "(JI)J"⟩ : MethodName) prog_23_method_4_code 9 (some .long) ({ frames := 0, cells := 0, slots := 0, locals := 0 } : Room) [] #[(.long w0), (.int n1)] h0 n0 (fun v h' => v = some (.long (decimalJ w0 n1)) ∧ h0 = h') := by
  refine con_of (Ls0 := #[.val (.long w0), .second, .val (.int n1), .unset, .unset, .unset, .unset, .unset, .unset]) (plainFor_of_name pn_1) (fun m => by first | (simp [entryFrame, mkF, argsToLocals, Value.category]; done) | rfl) hn0 ?_
  intro p e s m below meth c C
  refine g_lloadN C D3_0 rfl ?_
  refine g_ldc2 C (wd_22 hw) D3_1 ?_
  refine g_lxor C D3_4 ?_
  refine g_bipush C (64 : Int32) rfl D3_5 ?_
  refine g_bipush C (8 : Int32) rfl D3_7 ?_
  refine g_iloadN C D3_9 rfl ?_
  refine g_imul C D3_10 ?_
  refine g_isub C D3_11 ?_
  refine g_lshl C D3_12 ?_
  generalize q_d0 : (shlJ (w0 ^^^ (3472328296227680304 : Int64)) ((64 : Int32) - ((8 : Int32) * n1))) = d0
  refine g_lstoreN C #[.val (.long w0), .second, .val (.int n1), .val (.long d0), .second, .unset, .unset, .unset, .unset] D3_13 rfl ?_
  refine g_lloadN C D3_14 rfl ?_
  refine g_ldc2 C (wd_23 hw) D3_15 ?_
  refine g_lmul C D3_18 ?_
  refine g_lloadN C D3_19 rfl ?_
  refine g_bipush C (8 : Int32) rfl D3_20 ?_
  refine g_lushr C D3_22 ?_
  refine g_ladd C D3_23 ?_
  refine g_ldc2 C (wd_24 hw) D3_24 ?_
  refine g_land C D3_27 ?_
  generalize q_d1 : (((d0 * (10 : Int64)) + (ushrJ d0 (8 : Int32))) &&& (71777214294589695 : Int64)) = d1
  refine g_lstore C #[.val (.long w0), .second, .val (.int n1), .val (.long d0), .second, .val (.long d1), .second, .unset, .unset] D3_28 rfl ?_
  refine g_lload C D3_30 rfl ?_
  refine g_ldc2 C (wd_25 hw) D3_32 ?_
  refine g_lmul C D3_35 ?_
  refine g_lload C D3_36 rfl ?_
  refine g_bipush C (16 : Int32) rfl D3_38 ?_
  refine g_lushr C D3_40 ?_
  refine g_ladd C D3_41 ?_
  refine g_ldc2 C (wd_26 hw) D3_42 ?_
  refine g_land C D3_45 ?_
  generalize q_d2 : (((d1 * (100 : Int64)) + (ushrJ d1 (16 : Int32))) &&& (281470681808895 : Int64)) = d2
  refine g_lstore C #[.val (.long w0), .second, .val (.int n1), .val (.long d0), .second, .val (.long d1), .second, .val (.long d2), .second] D3_46 rfl ?_
  refine g_lload C D3_48 rfl ?_
  refine g_ldc2 C (wd_27 hw) D3_50 ?_
  refine g_lmul C D3_53 ?_
  refine g_lload C D3_54 rfl ?_
  refine g_bipush C (32 : Int32) rfl D3_56 ?_
  refine g_lushr C D3_58 ?_
  refine g_ladd C D3_59 ?_
  refine g_ldc2 C (wd_28 hw) D3_60 ?_
  refine g_land C D3_63 ?_
  refine g_retJ C D3_64 (by decide) (by decide) ?_
  subst q_d2 q_d1 q_d0
  exact ⟨rfl, rfl⟩
set_option maxRecDepth 65536 in
set_option maxHeartbeats 40000000 in
theorem c_law (l : Launch) {Z : State} {a0 : Array Value} (hw : ∀ d ∈ tables_1, d.before a0 Z = true) (ws : List Jvm.Cond) (h0 : Heap) (n0 : Nat) (hn0 : n0 ≤ h0.size) (sd rest : Int64) (i_k : Int32)  : Con l Z x code maxLocals ret room_1 ws #[(.long sd), (.long rest), (.int i_k)] h0 n0 (fun v h' => v = some (.int 1) ∧ True) := by
  refine con_of (Ls0 := #[.val (.long sd), .second, .val (.long rest), .second, .val (.int i_k), .unset, .unset, .unset, .unset, .unset, .unset, .unset, .unset]) (plainFor_of_name pn_0) (fun m => by first | (simp [entryFrame, mkF, argsToLocals, Value.category, maxLocals]; done) | rfl) hn0 ?_
  intro p e s m below meth c C
  refine g_iload C D0_0 rfl ?_
  refine g_bipush C (7 : Int32) rfl D0_2 ?_
  refine g_iand C D0_4 ?_
  refine g_iconst C (1 : Int32) rfl D0_5 ?_
  refine g_iadd C D0_6 ?_
  generalize q_n1 : ((i_k &&& (7 : Int32)) + (1 : Int32)) = n1
  have b_n := num8 i_k
  rw [q_n1] at b_n
  refine g_istore C #[.val (.long sd), .second, .val (.long rest), .second, .val (.int i_k), .val (.int n1), .unset, .unset, .unset, .unset, .unset, .unset, .unset] D0_7 rfl ?_
  refine g_lloadN C D0_9 rfl ?_
  refine g_lloadN C D0_10 rfl ?_
  refine g_iload C D0_11 rfl ?_
  refine g_iconst C (0 : Int32) rfl D0_13 ?_
  refine g_callS C (c_byte l hw h0 n0 hn0 sd rest n1 0) (wd_0 hw) (wd_1 hw) (wd_2 hw) (wd_3 hw) (by decide) D0_14 pd_1 [(.long sd), (.long rest), (.int n1), (.int (0 : Int32))] [] rfl rfl rfl 0 (Nat.le_of_eq rfl) (by decide) (by decide) (by decide) (by decide) ?_
  rintro _ _ ⟨y0, rfl, hb0, rfl⟩
  refine g_cast (f' := mkF m 17 #[.val (.long sd), .second, .val (.long rest), .second, .val (.int i_k), .val (.int n1), .unset, .unset, .unset, .unset, .unset, .unset, .unset] [(.long y0)]) rfl ?_
  refine g_lloadN C D0_17 rfl ?_
  refine g_lloadN C D0_18 rfl ?_
  refine g_iload C D0_19 rfl ?_
  refine g_iconst C (1 : Int32) rfl D0_21 ?_
  refine g_callS C (c_byte l hw h0 n0 hn0 sd rest n1 1) (wd_0 hw) (wd_1 hw) (wd_2 hw) (wd_3 hw) (by decide) D0_22 pd_1 [(.long sd), (.long rest), (.int n1), (.int (1 : Int32))] [(.long y0)] rfl rfl rfl 2 (Nat.le_of_eq rfl) (by decide) (by decide) (by decide) (by decide) ?_
  rintro _ _ ⟨y1, rfl, hb1, rfl⟩
  refine g_cast (f' := mkF m 25 #[.val (.long sd), .second, .val (.long rest), .second, .val (.int i_k), .val (.int n1), .unset, .unset, .unset, .unset, .unset, .unset, .unset] [(.long y1), (.long y0)]) rfl ?_
  refine g_bipush C (8 : Int32) rfl D0_25 ?_
  refine g_lshl C D0_27 ?_
  refine g_lor C D0_28 ?_
  refine g_lloadN C D0_29 rfl ?_
  refine g_lloadN C D0_30 rfl ?_
  refine g_iload C D0_31 rfl ?_
  refine g_iconst C (2 : Int32) rfl D0_33 ?_
  refine g_callS C (c_byte l hw h0 n0 hn0 sd rest n1 2) (wd_0 hw) (wd_1 hw) (wd_2 hw) (wd_3 hw) (by decide) D0_34 pd_1 [(.long sd), (.long rest), (.int n1), (.int (2 : Int32))] [(.long (y0 ||| (shlJ y1 (8 : Int32))))] rfl rfl rfl 2 (Nat.le_of_eq rfl) (by decide) (by decide) (by decide) (by decide) ?_
  rintro _ _ ⟨y2, rfl, hb2, rfl⟩
  refine g_cast (f' := mkF m 37 #[.val (.long sd), .second, .val (.long rest), .second, .val (.int i_k), .val (.int n1), .unset, .unset, .unset, .unset, .unset, .unset, .unset] [(.long y2), (.long (y0 ||| (shlJ y1 (8 : Int32))))]) rfl ?_
  refine g_bipush C (16 : Int32) rfl D0_37 ?_
  refine g_lshl C D0_39 ?_
  refine g_lor C D0_40 ?_
  refine g_lloadN C D0_41 rfl ?_
  refine g_lloadN C D0_42 rfl ?_
  refine g_iload C D0_43 rfl ?_
  refine g_iconst C (3 : Int32) rfl D0_45 ?_
  refine g_callS C (c_byte l hw h0 n0 hn0 sd rest n1 3) (wd_0 hw) (wd_1 hw) (wd_2 hw) (wd_3 hw) (by decide) D0_46 pd_1 [(.long sd), (.long rest), (.int n1), (.int (3 : Int32))] [(.long ((y0 ||| (shlJ y1 (8 : Int32))) ||| (shlJ y2 (16 : Int32))))] rfl rfl rfl 2 (Nat.le_of_eq rfl) (by decide) (by decide) (by decide) (by decide) ?_
  rintro _ _ ⟨y3, rfl, hb3, rfl⟩
  refine g_cast (f' := mkF m 49 #[.val (.long sd), .second, .val (.long rest), .second, .val (.int i_k), .val (.int n1), .unset, .unset, .unset, .unset, .unset, .unset, .unset] [(.long y3), (.long ((y0 ||| (shlJ y1 (8 : Int32))) ||| (shlJ y2 (16 : Int32))))]) rfl ?_
  refine g_bipush C (24 : Int32) rfl D0_49 ?_
  refine g_lshl C D0_51 ?_
  refine g_lor C D0_52 ?_
  refine g_lloadN C D0_53 rfl ?_
  refine g_lloadN C D0_54 rfl ?_
  refine g_iload C D0_55 rfl ?_
  refine g_iconst C (4 : Int32) rfl D0_57 ?_
  refine g_callS C (c_byte l hw h0 n0 hn0 sd rest n1 4) (wd_0 hw) (wd_1 hw) (wd_2 hw) (wd_3 hw) (by decide) D0_58 pd_1 [(.long sd), (.long rest), (.int n1), (.int (4 : Int32))] [(.long (((y0 ||| (shlJ y1 (8 : Int32))) ||| (shlJ y2 (16 : Int32))) ||| (shlJ y3 (24 : Int32))))] rfl rfl rfl 2 (Nat.le_of_eq rfl) (by decide) (by decide) (by decide) (by decide) ?_
  rintro _ _ ⟨y4, rfl, hb4, rfl⟩
  refine g_cast (f' := mkF m 61 #[.val (.long sd), .second, .val (.long rest), .second, .val (.int i_k), .val (.int n1), .unset, .unset, .unset, .unset, .unset, .unset, .unset] [(.long y4), (.long (((y0 ||| (shlJ y1 (8 : Int32))) ||| (shlJ y2 (16 : Int32))) ||| (shlJ y3 (24 : Int32))))]) rfl ?_
  refine g_bipush C (32 : Int32) rfl D0_61 ?_
  refine g_lshl C D0_63 ?_
  refine g_lor C D0_64 ?_
  refine g_lloadN C D0_65 rfl ?_
  refine g_lloadN C D0_66 rfl ?_
  refine g_iload C D0_67 rfl ?_
  refine g_iconst C (5 : Int32) rfl D0_69 ?_
  refine g_callS C (c_byte l hw h0 n0 hn0 sd rest n1 5) (wd_0 hw) (wd_1 hw) (wd_2 hw) (wd_3 hw) (by decide) D0_70 pd_1 [(.long sd), (.long rest), (.int n1), (.int (5 : Int32))] [(.long ((((y0 ||| (shlJ y1 (8 : Int32))) ||| (shlJ y2 (16 : Int32))) ||| (shlJ y3 (24 : Int32))) ||| (shlJ y4 (32 : Int32))))] rfl rfl rfl 2 (Nat.le_of_eq rfl) (by decide) (by decide) (by decide) (by decide) ?_
  rintro _ _ ⟨y5, rfl, hb5, rfl⟩
  refine g_cast (f' := mkF m 73 #[.val (.long sd), .second, .val (.long rest), .second, .val (.int i_k), .val (.int n1), .unset, .unset, .unset, .unset, .unset, .unset, .unset] [(.long y5), (.long ((((y0 ||| (shlJ y1 (8 : Int32))) ||| (shlJ y2 (16 : Int32))) ||| (shlJ y3 (24 : Int32))) ||| (shlJ y4 (32 : Int32))))]) rfl ?_
  refine g_bipush C (40 : Int32) rfl D0_73 ?_
  refine g_lshl C D0_75 ?_
  refine g_lor C D0_76 ?_
  refine g_lloadN C D0_77 rfl ?_
  refine g_lloadN C D0_78 rfl ?_
  refine g_iload C D0_79 rfl ?_
  refine g_bipush C (6 : Int32) rfl D0_81 ?_
  refine g_callS C (c_byte l hw h0 n0 hn0 sd rest n1 6) (wd_0 hw) (wd_1 hw) (wd_2 hw) (wd_3 hw) (by decide) D0_83 pd_1 [(.long sd), (.long rest), (.int n1), (.int (6 : Int32))] [(.long (((((y0 ||| (shlJ y1 (8 : Int32))) ||| (shlJ y2 (16 : Int32))) ||| (shlJ y3 (24 : Int32))) ||| (shlJ y4 (32 : Int32))) ||| (shlJ y5 (40 : Int32))))] rfl rfl rfl 2 (Nat.le_of_eq rfl) (by decide) (by decide) (by decide) (by decide) ?_
  rintro _ _ ⟨y6, rfl, hb6, rfl⟩
  refine g_cast (f' := mkF m 86 #[.val (.long sd), .second, .val (.long rest), .second, .val (.int i_k), .val (.int n1), .unset, .unset, .unset, .unset, .unset, .unset, .unset] [(.long y6), (.long (((((y0 ||| (shlJ y1 (8 : Int32))) ||| (shlJ y2 (16 : Int32))) ||| (shlJ y3 (24 : Int32))) ||| (shlJ y4 (32 : Int32))) ||| (shlJ y5 (40 : Int32))))]) rfl ?_
  refine g_bipush C (48 : Int32) rfl D0_86 ?_
  refine g_lshl C D0_88 ?_
  refine g_lor C D0_89 ?_
  refine g_lloadN C D0_90 rfl ?_
  refine g_lloadN C D0_91 rfl ?_
  refine g_iload C D0_92 rfl ?_
  refine g_bipush C (7 : Int32) rfl D0_94 ?_
  refine g_callS C (c_byte l hw h0 n0 hn0 sd rest n1 7) (wd_0 hw) (wd_1 hw) (wd_2 hw) (wd_3 hw) (by decide) D0_96 pd_1 [(.long sd), (.long rest), (.int n1), (.int (7 : Int32))] [(.long ((((((y0 ||| (shlJ y1 (8 : Int32))) ||| (shlJ y2 (16 : Int32))) ||| (shlJ y3 (24 : Int32))) ||| (shlJ y4 (32 : Int32))) ||| (shlJ y5 (40 : Int32))) ||| (shlJ y6 (48 : Int32))))] rfl rfl rfl 2 (Nat.le_of_eq rfl) (by decide) (by decide) (by decide) (by decide) ?_
  rintro _ _ ⟨y7, rfl, hb7, rfl⟩
  refine g_cast (f' := mkF m 99 #[.val (.long sd), .second, .val (.long rest), .second, .val (.int i_k), .val (.int n1), .unset, .unset, .unset, .unset, .unset, .unset, .unset] [(.long y7), (.long ((((((y0 ||| (shlJ y1 (8 : Int32))) ||| (shlJ y2 (16 : Int32))) ||| (shlJ y3 (24 : Int32))) ||| (shlJ y4 (32 : Int32))) ||| (shlJ y5 (40 : Int32))) ||| (shlJ y6 (48 : Int32))))]) rfl ?_
  refine g_bipush C (56 : Int32) rfl D0_99 ?_
  refine g_lshl C D0_101 ?_
  refine g_lor C D0_102 ?_
  generalize q_wd : (((((((y0 ||| (shlJ y1 (8 : Int32))) ||| (shlJ y2 (16 : Int32))) ||| (shlJ y3 (24 : Int32))) ||| (shlJ y4 (32 : Int32))) ||| (shlJ y5 (40 : Int32))) ||| (shlJ y6 (48 : Int32))) ||| (shlJ y7 (56 : Int32))) = wd
  replace q_wd : wordJ y0 y1 y2 y3 y4 y5 y6 y7 = wd := q_wd
  refine g_lstore C #[.val (.long sd), .second, .val (.long rest), .second, .val (.int i_k), .val (.int n1), .val (.long wd), .second, .unset, .unset, .unset, .unset, .unset] D0_103 rfl ?_
  refine g_lloadN C D0_105 rfl ?_
  refine g_iconst C (0 : Int32) rfl D0_106 ?_
  refine g_callS C (c_digit l hw h0 n0 hn0 sd 0) (wd_5 hw) (wd_6 hw) (wd_2 hw) (wd_7 hw) (by decide) D0_107 pd_0 [(.long sd), (.int (0 : Int32))] [] rfl rfl rfl 0 (Nat.le_of_eq rfl) (by decide) (by decide) (by decide) (by decide) ?_
  rintro _ _ ⟨rfl, rfl⟩
  refine g_cast (f' := mkF m 110 #[.val (.long sd), .second, .val (.long rest), .second, .val (.int i_k), .val (.int n1), .val (.long wd), .second, .unset, .unset, .unset, .unset, .unset] [(.long (digJ sd (0 : Int32)))]) rfl ?_
  refine g_ldc2 C (wd_10 hw) D0_110 ?_
  refine g_lmul C D0_113 ?_
  refine g_lloadN C D0_114 rfl ?_
  refine g_iconst C (1 : Int32) rfl D0_115 ?_
  refine g_callS C (c_digit l hw h0 n0 hn0 sd 1) (wd_5 hw) (wd_6 hw) (wd_2 hw) (wd_7 hw) (by decide) D0_116 pd_0 [(.long sd), (.int (1 : Int32))] [(.long ((digJ sd (0 : Int32)) * (10000000 : Int64)))] rfl rfl rfl 2 (Nat.le_of_eq rfl) (by decide) (by decide) (by decide) (by decide) ?_
  rintro _ _ ⟨rfl, rfl⟩
  refine g_cast (f' := mkF m 119 #[.val (.long sd), .second, .val (.long rest), .second, .val (.int i_k), .val (.int n1), .val (.long wd), .second, .unset, .unset, .unset, .unset, .unset] [(.long (digJ sd (1 : Int32))), (.long ((digJ sd (0 : Int32)) * (10000000 : Int64)))]) rfl ?_
  refine g_ldc2 C (wd_11 hw) D0_119 ?_
  refine g_lmul C D0_122 ?_
  refine g_ladd C D0_123 ?_
  refine g_lloadN C D0_124 rfl ?_
  refine g_iconst C (2 : Int32) rfl D0_125 ?_
  refine g_callS C (c_digit l hw h0 n0 hn0 sd 2) (wd_5 hw) (wd_6 hw) (wd_2 hw) (wd_7 hw) (by decide) D0_126 pd_0 [(.long sd), (.int (2 : Int32))] [(.long (((digJ sd (0 : Int32)) * (10000000 : Int64)) + ((digJ sd (1 : Int32)) * (1000000 : Int64))))] rfl rfl rfl 2 (Nat.le_of_eq rfl) (by decide) (by decide) (by decide) (by decide) ?_
  rintro _ _ ⟨rfl, rfl⟩
  refine g_cast (f' := mkF m 129 #[.val (.long sd), .second, .val (.long rest), .second, .val (.int i_k), .val (.int n1), .val (.long wd), .second, .unset, .unset, .unset, .unset, .unset] [(.long (digJ sd (2 : Int32))), (.long (((digJ sd (0 : Int32)) * (10000000 : Int64)) + ((digJ sd (1 : Int32)) * (1000000 : Int64))))]) rfl ?_
  refine g_ldc2 C (wd_12 hw) D0_129 ?_
  refine g_lmul C D0_132 ?_
  refine g_ladd C D0_133 ?_
  refine g_lloadN C D0_134 rfl ?_
  refine g_iconst C (3 : Int32) rfl D0_135 ?_
  refine g_callS C (c_digit l hw h0 n0 hn0 sd 3) (wd_5 hw) (wd_6 hw) (wd_2 hw) (wd_7 hw) (by decide) D0_136 pd_0 [(.long sd), (.int (3 : Int32))] [(.long ((((digJ sd (0 : Int32)) * (10000000 : Int64)) + ((digJ sd (1 : Int32)) * (1000000 : Int64))) + ((digJ sd (2 : Int32)) * (100000 : Int64))))] rfl rfl rfl 2 (Nat.le_of_eq rfl) (by decide) (by decide) (by decide) (by decide) ?_
  rintro _ _ ⟨rfl, rfl⟩
  refine g_cast (f' := mkF m 139 #[.val (.long sd), .second, .val (.long rest), .second, .val (.int i_k), .val (.int n1), .val (.long wd), .second, .unset, .unset, .unset, .unset, .unset] [(.long (digJ sd (3 : Int32))), (.long ((((digJ sd (0 : Int32)) * (10000000 : Int64)) + ((digJ sd (1 : Int32)) * (1000000 : Int64))) + ((digJ sd (2 : Int32)) * (100000 : Int64))))]) rfl ?_
  refine g_ldc2 C (wd_13 hw) D0_139 ?_
  refine g_lmul C D0_142 ?_
  refine g_ladd C D0_143 ?_
  refine g_lloadN C D0_144 rfl ?_
  refine g_iconst C (4 : Int32) rfl D0_145 ?_
  refine g_callS C (c_digit l hw h0 n0 hn0 sd 4) (wd_5 hw) (wd_6 hw) (wd_2 hw) (wd_7 hw) (by decide) D0_146 pd_0 [(.long sd), (.int (4 : Int32))] [(.long (((((digJ sd (0 : Int32)) * (10000000 : Int64)) + ((digJ sd (1 : Int32)) * (1000000 : Int64))) + ((digJ sd (2 : Int32)) * (100000 : Int64))) + ((digJ sd (3 : Int32)) * (10000 : Int64))))] rfl rfl rfl 2 (Nat.le_of_eq rfl) (by decide) (by decide) (by decide) (by decide) ?_
  rintro _ _ ⟨rfl, rfl⟩
  refine g_cast (f' := mkF m 149 #[.val (.long sd), .second, .val (.long rest), .second, .val (.int i_k), .val (.int n1), .val (.long wd), .second, .unset, .unset, .unset, .unset, .unset] [(.long (digJ sd (4 : Int32))), (.long (((((digJ sd (0 : Int32)) * (10000000 : Int64)) + ((digJ sd (1 : Int32)) * (1000000 : Int64))) + ((digJ sd (2 : Int32)) * (100000 : Int64))) + ((digJ sd (3 : Int32)) * (10000 : Int64))))]) rfl ?_
  refine g_ldc2 C (wd_14 hw) D0_149 ?_
  refine g_lmul C D0_152 ?_
  refine g_ladd C D0_153 ?_
  refine g_lloadN C D0_154 rfl ?_
  refine g_iconst C (5 : Int32) rfl D0_155 ?_
  refine g_callS C (c_digit l hw h0 n0 hn0 sd 5) (wd_5 hw) (wd_6 hw) (wd_2 hw) (wd_7 hw) (by decide) D0_156 pd_0 [(.long sd), (.int (5 : Int32))] [(.long ((((((digJ sd (0 : Int32)) * (10000000 : Int64)) + ((digJ sd (1 : Int32)) * (1000000 : Int64))) + ((digJ sd (2 : Int32)) * (100000 : Int64))) + ((digJ sd (3 : Int32)) * (10000 : Int64))) + ((digJ sd (4 : Int32)) * (1000 : Int64))))] rfl rfl rfl 2 (Nat.le_of_eq rfl) (by decide) (by decide) (by decide) (by decide) ?_
  rintro _ _ ⟨rfl, rfl⟩
  refine g_cast (f' := mkF m 159 #[.val (.long sd), .second, .val (.long rest), .second, .val (.int i_k), .val (.int n1), .val (.long wd), .second, .unset, .unset, .unset, .unset, .unset] [(.long (digJ sd (5 : Int32))), (.long ((((((digJ sd (0 : Int32)) * (10000000 : Int64)) + ((digJ sd (1 : Int32)) * (1000000 : Int64))) + ((digJ sd (2 : Int32)) * (100000 : Int64))) + ((digJ sd (3 : Int32)) * (10000 : Int64))) + ((digJ sd (4 : Int32)) * (1000 : Int64))))]) rfl ?_
  refine g_ldc2 C (wd_15 hw) D0_159 ?_
  refine g_lmul C D0_162 ?_
  refine g_ladd C D0_163 ?_
  refine g_lloadN C D0_164 rfl ?_
  refine g_bipush C (6 : Int32) rfl D0_165 ?_
  refine g_callS C (c_digit l hw h0 n0 hn0 sd 6) (wd_5 hw) (wd_6 hw) (wd_2 hw) (wd_7 hw) (by decide) D0_167 pd_0 [(.long sd), (.int (6 : Int32))] [(.long (((((((digJ sd (0 : Int32)) * (10000000 : Int64)) + ((digJ sd (1 : Int32)) * (1000000 : Int64))) + ((digJ sd (2 : Int32)) * (100000 : Int64))) + ((digJ sd (3 : Int32)) * (10000 : Int64))) + ((digJ sd (4 : Int32)) * (1000 : Int64))) + ((digJ sd (5 : Int32)) * (100 : Int64))))] rfl rfl rfl 2 (Nat.le_of_eq rfl) (by decide) (by decide) (by decide) (by decide) ?_
  rintro _ _ ⟨rfl, rfl⟩
  refine g_cast (f' := mkF m 170 #[.val (.long sd), .second, .val (.long rest), .second, .val (.int i_k), .val (.int n1), .val (.long wd), .second, .unset, .unset, .unset, .unset, .unset] [(.long (digJ sd (6 : Int32))), (.long (((((((digJ sd (0 : Int32)) * (10000000 : Int64)) + ((digJ sd (1 : Int32)) * (1000000 : Int64))) + ((digJ sd (2 : Int32)) * (100000 : Int64))) + ((digJ sd (3 : Int32)) * (10000 : Int64))) + ((digJ sd (4 : Int32)) * (1000 : Int64))) + ((digJ sd (5 : Int32)) * (100 : Int64))))]) rfl ?_
  refine g_ldc2 C (wd_9 hw) D0_170 ?_
  refine g_lmul C D0_173 ?_
  refine g_ladd C D0_174 ?_
  refine g_lloadN C D0_175 rfl ?_
  refine g_bipush C (7 : Int32) rfl D0_176 ?_
  refine g_callS C (c_digit l hw h0 n0 hn0 sd 7) (wd_5 hw) (wd_6 hw) (wd_2 hw) (wd_7 hw) (by decide) D0_178 pd_0 [(.long sd), (.int (7 : Int32))] [(.long ((((((((digJ sd (0 : Int32)) * (10000000 : Int64)) + ((digJ sd (1 : Int32)) * (1000000 : Int64))) + ((digJ sd (2 : Int32)) * (100000 : Int64))) + ((digJ sd (3 : Int32)) * (10000 : Int64))) + ((digJ sd (4 : Int32)) * (1000 : Int64))) + ((digJ sd (5 : Int32)) * (100 : Int64))) + ((digJ sd (6 : Int32)) * (10 : Int64))))] rfl rfl rfl 2 (Nat.le_of_eq rfl) (by decide) (by decide) (by decide) (by decide) ?_
  rintro _ _ ⟨rfl, rfl⟩
  refine g_cast (f' := mkF m 181 #[.val (.long sd), .second, .val (.long rest), .second, .val (.int i_k), .val (.int n1), .val (.long wd), .second, .unset, .unset, .unset, .unset, .unset] [(.long (digJ sd (7 : Int32))), (.long ((((((((digJ sd (0 : Int32)) * (10000000 : Int64)) + ((digJ sd (1 : Int32)) * (1000000 : Int64))) + ((digJ sd (2 : Int32)) * (100000 : Int64))) + ((digJ sd (3 : Int32)) * (10000 : Int64))) + ((digJ sd (4 : Int32)) * (1000 : Int64))) + ((digJ sd (5 : Int32)) * (100 : Int64))) + ((digJ sd (6 : Int32)) * (10 : Int64))))]) rfl ?_
  refine g_ladd C D0_181 ?_
  generalize q_al : (((((((((digJ sd (0 : Int32)) * (10000000 : Int64)) + ((digJ sd (1 : Int32)) * (1000000 : Int64))) + ((digJ sd (2 : Int32)) * (100000 : Int64))) + ((digJ sd (3 : Int32)) * (10000 : Int64))) + ((digJ sd (4 : Int32)) * (1000 : Int64))) + ((digJ sd (5 : Int32)) * (100 : Int64))) + ((digJ sd (6 : Int32)) * (10 : Int64))) + (digJ sd (7 : Int32))) = al
  replace q_al : allJ (digJ sd 0) (digJ sd 1) (digJ sd 2) (digJ sd 3) (digJ sd 4) (digJ sd 5) (digJ sd 6) (digJ sd 7) = al := q_al
  refine g_lstore C #[.val (.long sd), .second, .val (.long rest), .second, .val (.int i_k), .val (.int n1), .val (.long wd), .second, .val (.long al), .second, .unset, .unset, .unset] D0_182 rfl ?_
  refine g_bipush C (9 : Int32) rfl D0_184 ?_
  refine g_newarr C (aty := .long) (wd_16 hw) D0_186 (by decide) 9 (by decide) (by decide) (by decide) (by decide) ?_
  intro h1 b2 kA3 ge4 ea5 E6 X7
  have A8 : LArr Z h1 b2 9 (fun _ => (0 : Int64)) := LArr.new X7
  refine g_dup C D0_188 rfl ?_
  refine g_iconst C (0 : Int32) rfl D0_189 ?_
  refine g_lconst C (1 : Int64) rfl D0_190 ?_
  refine g_lastore C D0_191 A8 (by decide) (by decide) ge4 ?_
  intro h9 W10
  have A11 := LArr.set A8 W10
  refine g_dup C D0_192 rfl ?_
  refine g_iconst C (1 : Int32) rfl D0_193 ?_
  refine g_ldc2 C (wd_9 hw) D0_194 ?_
  refine g_lastore C D0_197 A11 (by decide) (by decide) ge4 ?_
  intro h12 W13
  have A14 := LArr.set A11 W13
  refine g_dup C D0_198 rfl ?_
  refine g_iconst C (2 : Int32) rfl D0_199 ?_
  refine g_ldc2 C (wd_15 hw) D0_200 ?_
  refine g_lastore C D0_203 A14 (by decide) (by decide) ge4 ?_
  intro h15 W16
  have A17 := LArr.set A14 W16
  refine g_dup C D0_204 rfl ?_
  refine g_iconst C (3 : Int32) rfl D0_205 ?_
  refine g_ldc2 C (wd_14 hw) D0_206 ?_
  refine g_lastore C D0_209 A17 (by decide) (by decide) ge4 ?_
  intro h18 W19
  have A20 := LArr.set A17 W19
  refine g_dup C D0_210 rfl ?_
  refine g_iconst C (4 : Int32) rfl D0_211 ?_
  refine g_ldc2 C (wd_13 hw) D0_212 ?_
  refine g_lastore C D0_215 A20 (by decide) (by decide) ge4 ?_
  intro h21 W22
  have A23 := LArr.set A20 W22
  refine g_dup C D0_216 rfl ?_
  refine g_iconst C (5 : Int32) rfl D0_217 ?_
  refine g_ldc2 C (wd_12 hw) D0_218 ?_
  refine g_lastore C D0_221 A23 (by decide) (by decide) ge4 ?_
  intro h24 W25
  have A26 := LArr.set A23 W25
  refine g_dup C D0_222 rfl ?_
  refine g_bipush C (6 : Int32) rfl D0_223 ?_
  refine g_ldc2 C (wd_11 hw) D0_225 ?_
  refine g_lastore C D0_228 A26 (by decide) (by decide) ge4 ?_
  intro h27 W28
  have A29 := LArr.set A26 W28
  refine g_dup C D0_229 rfl ?_
  refine g_bipush C (7 : Int32) rfl D0_230 ?_
  refine g_ldc2 C (wd_10 hw) D0_232 ?_
  refine g_lastore C D0_235 A29 (by decide) (by decide) ge4 ?_
  intro h30 W31
  have A32 := LArr.set A29 W31
  refine g_dup C D0_236 rfl ?_
  refine g_bipush C (8 : Int32) rfl D0_237 ?_
  refine g_ldc2 C (wd_17 hw) D0_239 ?_
  refine g_lastore C D0_242 A32 (by decide) (by decide) ge4 ?_
  intro h33 W34
  have A35 := LArr.set A32 W34
  refine g_astore C #[.val (.long sd), .second, .val (.long rest), .second, .val (.int i_k), .val (.int n1), .val (.long wd), .second, .val (.long al), .second, .val (.ref b2), .unset, .unset] D0_243 rfl rfl ?_
  have Aw : LArr Z h33 b2 9 (upd (upd (upd (upd (upd (upd (upd (upd (upd (fun _ => (0 : Int64)) 0 (1 : Int64)) 1 (10 : Int64)) 2 (100 : Int64)) 3 (1000 : Int64)) 4 (10000 : Int64)) 5 (100000 : Int64)) 6 (1000000 : Int64)) 7 (10000000 : Int64)) 8 (100000000 : Int64)) := A35
  have hzw : n0 ≤ h33.size := Nat.le_trans ge4 (Nat.le_of_lt Aw.lt)
  rcases b_n with q_k | q_k | q_k | q_k | q_k | q_k | q_k | q_k
  · subst q_k
    refine g_lload C D0_245 rfl ?_
    refine g_aload C D0_247 rfl rfl ?_
    refine g_bipush C (8 : Int32) rfl D0_249 ?_
    refine g_iload C D0_251 rfl ?_
    refine g_isub C D0_253 ?_
    refine g_laload C D0_254 Aw (by decide) (by decide) (10000000 : Int64) rfl ?_
    refine g_ldiv C D0_255 (by decide) ?_
    refine g_lstore C #[.val (.long sd), .second, .val (.long rest), .second, .val (.int i_k), .val (.int (1 : Int32)), .val (.long wd), .second, .val (.long al), .second, .val (.ref b2), .val (.long (al / (10000000 : Int64))), .second] D0_256 rfl ?_
    refine g_lload C D0_258 rfl ?_
    refine g_iload C D0_260 rfl ?_
    refine g_callS C (c_dec l hw h33 n0 hzw wd 1) (wd_18 hw) (wd_19 hw) (wd_20 hw) (wd_21 hw) (by decide) D0_262 pd_0 [(.long wd), (.int (1 : Int32))] [] rfl rfl rfl 0 (Nat.le_of_eq rfl) (by decide) (by decide) (by decide) (by decide) ?_
    rintro _ _ ⟨rfl, rfl⟩
    refine g_cast (f' := mkF m 265 #[.val (.long sd), .second, .val (.long rest), .second, .val (.int i_k), .val (.int (1 : Int32)), .val (.long wd), .second, .val (.long al), .second, .val (.ref b2), .val (.long (al / (10000000 : Int64))), .second] [(.long (decimalJ wd (1 : Int32)))]) rfl ?_
    refine g_lload C D0_265 rfl ?_
    refine g_lcmp_ne C D0_267 D0_268 (fun q36 => ?_) (fun q36 => ?_)
    · exfalso
      exact q36 (by rw [← q_wd, ← q_al]; exact fin_1 sd _ _ _ _ _ _ _ _ hb0 hb1 hb2 hb3 hb4 hb5 hb6 hb7)
    refine g_iconst C (1 : Int32) rfl D0_271 ?_
    refine g_goto C D0_272 ?_
    refine g_retZ C D0_276 (by decide) (by decide) ?_
    exact ⟨rfl, trivial⟩
  · subst q_k
    refine g_lload C D0_245 rfl ?_
    refine g_aload C D0_247 rfl rfl ?_
    refine g_bipush C (8 : Int32) rfl D0_249 ?_
    refine g_iload C D0_251 rfl ?_
    refine g_isub C D0_253 ?_
    refine g_laload C D0_254 Aw (by decide) (by decide) (1000000 : Int64) rfl ?_
    refine g_ldiv C D0_255 (by decide) ?_
    refine g_lstore C #[.val (.long sd), .second, .val (.long rest), .second, .val (.int i_k), .val (.int (2 : Int32)), .val (.long wd), .second, .val (.long al), .second, .val (.ref b2), .val (.long (al / (1000000 : Int64))), .second] D0_256 rfl ?_
    refine g_lload C D0_258 rfl ?_
    refine g_iload C D0_260 rfl ?_
    refine g_callS C (c_dec l hw h33 n0 hzw wd 2) (wd_18 hw) (wd_19 hw) (wd_20 hw) (wd_21 hw) (by decide) D0_262 pd_0 [(.long wd), (.int (2 : Int32))] [] rfl rfl rfl 0 (Nat.le_of_eq rfl) (by decide) (by decide) (by decide) (by decide) ?_
    rintro _ _ ⟨rfl, rfl⟩
    refine g_cast (f' := mkF m 265 #[.val (.long sd), .second, .val (.long rest), .second, .val (.int i_k), .val (.int (2 : Int32)), .val (.long wd), .second, .val (.long al), .second, .val (.ref b2), .val (.long (al / (1000000 : Int64))), .second] [(.long (decimalJ wd (2 : Int32)))]) rfl ?_
    refine g_lload C D0_265 rfl ?_
    refine g_lcmp_ne C D0_267 D0_268 (fun q37 => ?_) (fun q37 => ?_)
    · exfalso
      exact q37 (by rw [← q_wd, ← q_al]; exact fin_2 sd _ _ _ _ _ _ _ _ hb0 hb1 hb2 hb3 hb4 hb5 hb6 hb7)
    refine g_iconst C (1 : Int32) rfl D0_271 ?_
    refine g_goto C D0_272 ?_
    refine g_retZ C D0_276 (by decide) (by decide) ?_
    exact ⟨rfl, trivial⟩
  · subst q_k
    refine g_lload C D0_245 rfl ?_
    refine g_aload C D0_247 rfl rfl ?_
    refine g_bipush C (8 : Int32) rfl D0_249 ?_
    refine g_iload C D0_251 rfl ?_
    refine g_isub C D0_253 ?_
    refine g_laload C D0_254 Aw (by decide) (by decide) (100000 : Int64) rfl ?_
    refine g_ldiv C D0_255 (by decide) ?_
    refine g_lstore C #[.val (.long sd), .second, .val (.long rest), .second, .val (.int i_k), .val (.int (3 : Int32)), .val (.long wd), .second, .val (.long al), .second, .val (.ref b2), .val (.long (al / (100000 : Int64))), .second] D0_256 rfl ?_
    refine g_lload C D0_258 rfl ?_
    refine g_iload C D0_260 rfl ?_
    refine g_callS C (c_dec l hw h33 n0 hzw wd 3) (wd_18 hw) (wd_19 hw) (wd_20 hw) (wd_21 hw) (by decide) D0_262 pd_0 [(.long wd), (.int (3 : Int32))] [] rfl rfl rfl 0 (Nat.le_of_eq rfl) (by decide) (by decide) (by decide) (by decide) ?_
    rintro _ _ ⟨rfl, rfl⟩
    refine g_cast (f' := mkF m 265 #[.val (.long sd), .second, .val (.long rest), .second, .val (.int i_k), .val (.int (3 : Int32)), .val (.long wd), .second, .val (.long al), .second, .val (.ref b2), .val (.long (al / (100000 : Int64))), .second] [(.long (decimalJ wd (3 : Int32)))]) rfl ?_
    refine g_lload C D0_265 rfl ?_
    refine g_lcmp_ne C D0_267 D0_268 (fun q38 => ?_) (fun q38 => ?_)
    · exfalso
      exact q38 (by rw [← q_wd, ← q_al]; exact fin_3 sd _ _ _ _ _ _ _ _ hb0 hb1 hb2 hb3 hb4 hb5 hb6 hb7)
    refine g_iconst C (1 : Int32) rfl D0_271 ?_
    refine g_goto C D0_272 ?_
    refine g_retZ C D0_276 (by decide) (by decide) ?_
    exact ⟨rfl, trivial⟩
  · subst q_k
    refine g_lload C D0_245 rfl ?_
    refine g_aload C D0_247 rfl rfl ?_
    refine g_bipush C (8 : Int32) rfl D0_249 ?_
    refine g_iload C D0_251 rfl ?_
    refine g_isub C D0_253 ?_
    refine g_laload C D0_254 Aw (by decide) (by decide) (10000 : Int64) rfl ?_
    refine g_ldiv C D0_255 (by decide) ?_
    refine g_lstore C #[.val (.long sd), .second, .val (.long rest), .second, .val (.int i_k), .val (.int (4 : Int32)), .val (.long wd), .second, .val (.long al), .second, .val (.ref b2), .val (.long (al / (10000 : Int64))), .second] D0_256 rfl ?_
    refine g_lload C D0_258 rfl ?_
    refine g_iload C D0_260 rfl ?_
    refine g_callS C (c_dec l hw h33 n0 hzw wd 4) (wd_18 hw) (wd_19 hw) (wd_20 hw) (wd_21 hw) (by decide) D0_262 pd_0 [(.long wd), (.int (4 : Int32))] [] rfl rfl rfl 0 (Nat.le_of_eq rfl) (by decide) (by decide) (by decide) (by decide) ?_
    rintro _ _ ⟨rfl, rfl⟩
    refine g_cast (f' := mkF m 265 #[.val (.long sd), .second, .val (.long rest), .second, .val (.int i_k), .val (.int (4 : Int32)), .val (.long wd), .second, .val (.long al), .second, .val (.ref b2), .val (.long (al / (10000 : Int64))), .second] [(.long (decimalJ wd (4 : Int32)))]) rfl ?_
    refine g_lload C D0_265 rfl ?_
    refine g_lcmp_ne C D0_267 D0_268 (fun q39 => ?_) (fun q39 => ?_)
    · exfalso
      exact q39 (by rw [← q_wd, ← q_al]; exact fin_4 sd _ _ _ _ _ _ _ _ hb0 hb1 hb2 hb3 hb4 hb5 hb6 hb7)
    refine g_iconst C (1 : Int32) rfl D0_271 ?_
    refine g_goto C D0_272 ?_
    refine g_retZ C D0_276 (by decide) (by decide) ?_
    exact ⟨rfl, trivial⟩
  · subst q_k
    refine g_lload C D0_245 rfl ?_
    refine g_aload C D0_247 rfl rfl ?_
    refine g_bipush C (8 : Int32) rfl D0_249 ?_
    refine g_iload C D0_251 rfl ?_
    refine g_isub C D0_253 ?_
    refine g_laload C D0_254 Aw (by decide) (by decide) (1000 : Int64) rfl ?_
    refine g_ldiv C D0_255 (by decide) ?_
    refine g_lstore C #[.val (.long sd), .second, .val (.long rest), .second, .val (.int i_k), .val (.int (5 : Int32)), .val (.long wd), .second, .val (.long al), .second, .val (.ref b2), .val (.long (al / (1000 : Int64))), .second] D0_256 rfl ?_
    refine g_lload C D0_258 rfl ?_
    refine g_iload C D0_260 rfl ?_
    refine g_callS C (c_dec l hw h33 n0 hzw wd 5) (wd_18 hw) (wd_19 hw) (wd_20 hw) (wd_21 hw) (by decide) D0_262 pd_0 [(.long wd), (.int (5 : Int32))] [] rfl rfl rfl 0 (Nat.le_of_eq rfl) (by decide) (by decide) (by decide) (by decide) ?_
    rintro _ _ ⟨rfl, rfl⟩
    refine g_cast (f' := mkF m 265 #[.val (.long sd), .second, .val (.long rest), .second, .val (.int i_k), .val (.int (5 : Int32)), .val (.long wd), .second, .val (.long al), .second, .val (.ref b2), .val (.long (al / (1000 : Int64))), .second] [(.long (decimalJ wd (5 : Int32)))]) rfl ?_
    refine g_lload C D0_265 rfl ?_
    refine g_lcmp_ne C D0_267 D0_268 (fun q40 => ?_) (fun q40 => ?_)
    · exfalso
      exact q40 (by rw [← q_wd, ← q_al]; exact fin_5 sd _ _ _ _ _ _ _ _ hb0 hb1 hb2 hb3 hb4 hb5 hb6 hb7)
    refine g_iconst C (1 : Int32) rfl D0_271 ?_
    refine g_goto C D0_272 ?_
    refine g_retZ C D0_276 (by decide) (by decide) ?_
    exact ⟨rfl, trivial⟩
  · subst q_k
    refine g_lload C D0_245 rfl ?_
    refine g_aload C D0_247 rfl rfl ?_
    refine g_bipush C (8 : Int32) rfl D0_249 ?_
    refine g_iload C D0_251 rfl ?_
    refine g_isub C D0_253 ?_
    refine g_laload C D0_254 Aw (by decide) (by decide) (100 : Int64) rfl ?_
    refine g_ldiv C D0_255 (by decide) ?_
    refine g_lstore C #[.val (.long sd), .second, .val (.long rest), .second, .val (.int i_k), .val (.int (6 : Int32)), .val (.long wd), .second, .val (.long al), .second, .val (.ref b2), .val (.long (al / (100 : Int64))), .second] D0_256 rfl ?_
    refine g_lload C D0_258 rfl ?_
    refine g_iload C D0_260 rfl ?_
    refine g_callS C (c_dec l hw h33 n0 hzw wd 6) (wd_18 hw) (wd_19 hw) (wd_20 hw) (wd_21 hw) (by decide) D0_262 pd_0 [(.long wd), (.int (6 : Int32))] [] rfl rfl rfl 0 (Nat.le_of_eq rfl) (by decide) (by decide) (by decide) (by decide) ?_
    rintro _ _ ⟨rfl, rfl⟩
    refine g_cast (f' := mkF m 265 #[.val (.long sd), .second, .val (.long rest), .second, .val (.int i_k), .val (.int (6 : Int32)), .val (.long wd), .second, .val (.long al), .second, .val (.ref b2), .val (.long (al / (100 : Int64))), .second] [(.long (decimalJ wd (6 : Int32)))]) rfl ?_
    refine g_lload C D0_265 rfl ?_
    refine g_lcmp_ne C D0_267 D0_268 (fun q41 => ?_) (fun q41 => ?_)
    · exfalso
      exact q41 (by rw [← q_wd, ← q_al]; exact fin_6 sd _ _ _ _ _ _ _ _ hb0 hb1 hb2 hb3 hb4 hb5 hb6 hb7)
    refine g_iconst C (1 : Int32) rfl D0_271 ?_
    refine g_goto C D0_272 ?_
    refine g_retZ C D0_276 (by decide) (by decide) ?_
    exact ⟨rfl, trivial⟩
  · subst q_k
    refine g_lload C D0_245 rfl ?_
    refine g_aload C D0_247 rfl rfl ?_
    refine g_bipush C (8 : Int32) rfl D0_249 ?_
    refine g_iload C D0_251 rfl ?_
    refine g_isub C D0_253 ?_
    refine g_laload C D0_254 Aw (by decide) (by decide) (10 : Int64) rfl ?_
    refine g_ldiv C D0_255 (by decide) ?_
    refine g_lstore C #[.val (.long sd), .second, .val (.long rest), .second, .val (.int i_k), .val (.int (7 : Int32)), .val (.long wd), .second, .val (.long al), .second, .val (.ref b2), .val (.long (al / (10 : Int64))), .second] D0_256 rfl ?_
    refine g_lload C D0_258 rfl ?_
    refine g_iload C D0_260 rfl ?_
    refine g_callS C (c_dec l hw h33 n0 hzw wd 7) (wd_18 hw) (wd_19 hw) (wd_20 hw) (wd_21 hw) (by decide) D0_262 pd_0 [(.long wd), (.int (7 : Int32))] [] rfl rfl rfl 0 (Nat.le_of_eq rfl) (by decide) (by decide) (by decide) (by decide) ?_
    rintro _ _ ⟨rfl, rfl⟩
    refine g_cast (f' := mkF m 265 #[.val (.long sd), .second, .val (.long rest), .second, .val (.int i_k), .val (.int (7 : Int32)), .val (.long wd), .second, .val (.long al), .second, .val (.ref b2), .val (.long (al / (10 : Int64))), .second] [(.long (decimalJ wd (7 : Int32)))]) rfl ?_
    refine g_lload C D0_265 rfl ?_
    refine g_lcmp_ne C D0_267 D0_268 (fun q42 => ?_) (fun q42 => ?_)
    · exfalso
      exact q42 (by rw [← q_wd, ← q_al]; exact fin_7 sd _ _ _ _ _ _ _ _ hb0 hb1 hb2 hb3 hb4 hb5 hb6 hb7)
    refine g_iconst C (1 : Int32) rfl D0_271 ?_
    refine g_goto C D0_272 ?_
    refine g_retZ C D0_276 (by decide) (by decide) ?_
    exact ⟨rfl, trivial⟩
  · subst q_k
    refine g_lload C D0_245 rfl ?_
    refine g_aload C D0_247 rfl rfl ?_
    refine g_bipush C (8 : Int32) rfl D0_249 ?_
    refine g_iload C D0_251 rfl ?_
    refine g_isub C D0_253 ?_
    refine g_laload C D0_254 Aw (by decide) (by decide) (1 : Int64) rfl ?_
    refine g_ldiv C D0_255 (by decide) ?_
    refine g_lstore C #[.val (.long sd), .second, .val (.long rest), .second, .val (.int i_k), .val (.int (8 : Int32)), .val (.long wd), .second, .val (.long al), .second, .val (.ref b2), .val (.long (al / (1 : Int64))), .second] D0_256 rfl ?_
    refine g_lload C D0_258 rfl ?_
    refine g_iload C D0_260 rfl ?_
    refine g_callS C (c_dec l hw h33 n0 hzw wd 8) (wd_18 hw) (wd_19 hw) (wd_20 hw) (wd_21 hw) (by decide) D0_262 pd_0 [(.long wd), (.int (8 : Int32))] [] rfl rfl rfl 0 (Nat.le_of_eq rfl) (by decide) (by decide) (by decide) (by decide) ?_
    rintro _ _ ⟨rfl, rfl⟩
    refine g_cast (f' := mkF m 265 #[.val (.long sd), .second, .val (.long rest), .second, .val (.int i_k), .val (.int (8 : Int32)), .val (.long wd), .second, .val (.long al), .second, .val (.ref b2), .val (.long (al / (1 : Int64))), .second] [(.long (decimalJ wd (8 : Int32)))]) rfl ?_
    refine g_lload C D0_265 rfl ?_
    refine g_lcmp_ne C D0_267 D0_268 (fun q43 => ?_) (fun q43 => ?_)
    · exfalso
      exact q43 (by rw [← q_wd, ← q_al]; exact fin_8 sd _ _ _ _ _ _ _ _ hb0 hb1 hb2 hb3 hb4 hb5 hb6 hb7)
    refine g_iconst C (1 : Int32) rfl D0_271 ?_
    refine g_goto C D0_272 ?_
    refine g_retZ C D0_276 (by decide) (by decide) ?_
    exact ⟨rfl, trivial⟩
set_option maxRecDepth 65536 in
set_option maxHeartbeats 40000000 in
theorem comes_1 {Post : Tables → Env → Array Value → State → Outcome → State → Prop} (hpost : ∀ tb e args s v u, (limb_1_1.after args s (.returned v) u = true ∧ limb_1_2.after args s (.returned v) u = true ∧ True) → FrameEnd s (.returned v) u (Jvm.fieldLocs frame_1_writes args s ++ Jvm.arrayLocs frame_1_arrays args s ++ Jvm.staticLocs frame_1_statics s) 16 128 → Post tb e args s (.returned v) u) :
    ArmFor flags0 classFile x code maxLocals ret World_1 tables_1 room_1 Calls_1 rest_1 Pre_1 Post := by
  intro l hfl _ _ p e ha hc hk s m args below hf hA hF happ hP
  obtain ⟨hcalls, hrest, hpre⟩ := hP
  obtain ⟨-, -, -, hnamed, -, -, -, hat⟩ := (Spec.applies_iff hf).mp happ
  obtain ⟨hg, hn⟩ := and_e (Cond.before_iff.mp (show (Jvm.Cond.and given_1 narrow_1).before args s = true from hpre))
  obtain ⟨gc, g0⟩ := and_e hg
  obtain ⟨ga0, g1⟩ := and_e g0
  obtain ⟨ga1, g2⟩ := and_e g1
  have ga2 := g2
  obtain ⟨w0, w1, w2, rfl⟩ : ∃ w0 w1 w2 : Value, args = #[w0, w1, w2] := by
    have hs : args.size = 3 := by simpa [Cond.value, given_1] using gc
    obtain ⟨L⟩ := args
    match L, hs with
    | [w0, w1, w2], _ => exact ⟨w0, w1, w2, rfl⟩
  have hw := fun d (hd : d ∈ tables_1) => atoms_spec (ws := Jvm.Cond.code x code maxLocals ret :: tables_1) hat d (List.mem_cons_of_mem _ hd)
  obtain ⟨i0, ei0⟩ := isL_v ga0
  obtain rfl : w0 = (.long i0) := Option.some.inj ei0
  obtain ⟨i1, ei1⟩ := isL_v ga1
  obtain rfl : w1 = (.long i1) := Option.some.inj ei1
  obtain ⟨i2, ei2⟩ := is_v ga2
  obtain rfl : w2 = (.int i2) := Option.some.inj ei2
  obtain ⟨n, o, h1, h2, h3, _, L, rfl, ⟨⟨rfl, _⟩, N⟩, hq⟩ := c_law l hw tables_1 s.heap s.heap.size (Nat.le_refl _) i0 i1 i2 p e ha hc hk s m _ below hf ((Spec.applies_iff_loose hf).mp happ).1 ⟨rfl, State.Warmed39.refl s, rfl⟩ trivial
  refine ⟨n, _, h1, h2, h3, hpost _ _ _ _ _ _ ⟨Cond.after_iff.mpr rfl, Cond.after_iff.mpr (eq_i res_at (Term.int_eval (1)) rfl), trivial⟩ ⟨hq.1, hq.2.1, (hq.2.2.sift fun y hy => Or.inr (N y hy)).mono (by decide) (by decide)⟩⟩
theorem main_1_1 : Claimed_1_1 := comes_1 fun _ _ _ _ _ _ h hF => ⟨h.1, hF⟩
theorem main_1_2 : Claimed_1_2 := comes_1 fun _ _ _ _ _ _ h hF => ⟨h.2.1, hF⟩
end Jvm.Pilot.@@N@@
namespace Jvm.Pilot.@@N@@
open Jvm Jvm.ClassFile Sem Op Lib Jvm.Free Jvm.Stand Jvm.Pilot.@@N@@.Jvm.D
/-! MADE BY PROGRAM (witnessworld.py) out of the Statement's table words and the real class files: 11 classes; the members and pool entries that the words name. The judged class is class 1, her method 3. -/
namespace start1
open Jvm.ClassFile
def u (s : String) : CpInfo := .utf8 (stringToUtf16 s)
/-- a pool by its gaps: so many unusable entries, then the entry; so many at the end -/
def gap : Nat → List CpInfo → List CpInfo
  | 0, r => r
  | n + 1, r => .unusable :: gap n r
def poolList (es : List (Nat × CpInfo)) (last : Nat) : List CpInfo := es.foldr (fun e r => gap e.1 (e.2 :: r)) (gap last [])
def pool (es : List (Nat × CpInfo)) (last : Nat) : Array CpInfo := ⟨poolList es last⟩
def fileOf (pool : Array CpInfo) (this : Nat) (attrs : Array Attribute := #[]) (ms : Array MethodInfo := #[]) (fl : Nat := 33) (sup : Nat := 0) (ifs : Array Nat := #[]) (fds : Array FieldInfo := #[]) : ClassFile where
  minorVersion := 0
  majorVersion := 65
  constantPool := pool
  accessFlags := fl
  thisClass := this
  superClass := sup
  interfaces := ifs
  fields := fds
  methods := ms
  attributes := attrs
def plain (name : String) (sup : Option ClassId) : Class where
  name := name
  kind := .ordinary
  loader := none
  accessFlags := 33
  super := sup
  interfaces := #[]
  cf := none
  fields := #[]
  methods := #[]
  instanceTypes := #[]
  staticTypes := #[]
  resolved := #[]
  callSites := []
  init := .initialized
  statics := none
  mirror := none

def pool0 : Array CpInfo := pool [(5, u "<init>"), (0, u "()V"), (1, .class_ 10), (1, u "java/lang/Object")] 113

def k0m0 : Method := { name := "<init>", desc := "()V", sig := { parameters := [], returnType := none }, accessFlags := 1, code := none }
/-- java/lang/Object -/
def k0 : Class := { plain "java/lang/Object" none with
  accessFlags := 33
  interfaces := #[]
  cf := some (fileOf pool0 8 #[] #[{ accessFlags := 1, nameIndex := 5, descriptorIndex := 6, attributes := #[] }] 33 0 #[] #[])
  fields := #[]
  methods := #[k0m0]
  instanceTypes := #[]
  staticTypes := #[]
  resolved := Array.replicate 124 none
  statics := none }

def pool1 : Array CpInfo := pool [(2, .class_ 4), (1, u "java/lang/Object"), (0, u "<init>"), (0, u "()V"), (0, .long 255), (1, .long 10), (1, .long 48), (1, .methodref 14 15), (0, .class_ 16), (0, .nameAndType 17 18), (0, u "com/example/grawl/grawl/graph/ByteWordsDecimalPinLaw"), (0, u "digit"), (0, u "(JI)J"), (0, .methodref 14 20), (0, .nameAndType 21 22), (0, u "byteAt"), (0, u "(JJII)J"), (0, .long 10000000), (1, .long 1000000), (1, .long 100000), (1, .long 10000), (1, .long 1000), (1, .long 100), (1, .long 100000000), (1, .methodref 38 39), (0, .class_ 40), (0, .nameAndType 41 18), (0, u "com/example/grawl/grawl/graph/ByteWords"), (0, u "decimal"), (3, u "law"), (0, u "(JJI)Z")] 4

def k1m0 : Method := { name := "<init>", desc := "()V", sig := { parameters := [], returnType := none }, accessFlags := 2, code := none }
def k1c1 : Code := { maxStack := 4, maxLocals := 3, code := method_2_code, exceptionTable := #[], attributes := #[] }
def k1m1 : Method := { name := "digit", desc := "(JI)J", sig := { parameters := [.long, .int], returnType := some .long }, accessFlags := 10, code := some k1c1 }
def k1c2 : Code := { maxStack := 5, maxLocals := 6, code := method_3_code, exceptionTable := #[], attributes := #[] }
def k1m2 : Method := { name := "byteAt", desc := "(JJII)J", sig := { parameters := [.long, .long, .int, .int], returnType := some .long }, accessFlags := 10, code := some k1c2 }
def k1c3 : Code := { maxStack := 8, maxLocals := 13, code := code, exceptionTable := #[], attributes := #[] }
def k1m3 : Method := { name := "law", desc := "(JJI)Z", sig := { parameters := [.long, .long, .int], returnType := some .boolean }, accessFlags := 9, code := some k1c3 }
/-- com/example/grawl/grawl/graph/ByteWordsDecimalPinLaw -/
def k1 : Class := { plain "com/example/grawl/grawl/graph/ByteWordsDecimalPinLaw" (some 0) with
  accessFlags := 49
  interfaces := #[]
  cf := some (fileOf pool1 14 #[] #[{ accessFlags := 2, nameIndex := 5, descriptorIndex := 6, attributes := #[] }, { accessFlags := 10, nameIndex := 17, descriptorIndex := 18, attributes := #[] }, { accessFlags := 10, nameIndex := 21, descriptorIndex := 22, attributes := #[] }, { accessFlags := 9, nameIndex := 45, descriptorIndex := 46, attributes := #[] }] 49 2 #[] #[])
  fields := #[]
  methods := #[k1m0, k1m1, k1m2, k1m3]
  instanceTypes := #[]
  staticTypes := #[]
  resolved := Array.replicate 51 none
  statics := none }

def pool2 : Array CpInfo := pool [(2, .class_ 4), (1, u "java/lang/Object"), (0, u "<init>"), (0, u "()V"), (1, .class_ 10), (1, u "com/example/grawl/grawl/graph/ByteWords"), (0, u "WORDS"), (0, u "Ljava/lang/invoke/VarHandle;"), (6, .long 3472328296227680304), (13, .long 10), (1, .long 71777214294589695), (1, .long 100), (1, .long 281470681808895), (1, .long 10000), (1, .long 4294967295), (25, u "LOW_BITS"), (0, u "J"), (1, u "HIGH_BITS"), (0, u "ZEROS"), (0, u "HIGH_HALVES"), (4, u "decimal"), (0, u "(JI)J")] 8

def k2m0 : Method := { name := "<init>", desc := "()V", sig := { parameters := [], returnType := none }, accessFlags := 2, code := none }
def k2c1 : Code := { maxStack := 5, maxLocals := 9, code := prog_23_method_4_code, exceptionTable := #[], attributes := #[] }
def k2m1 : Method := { name := "decimal", desc := "(JI)J", sig := { parameters := [.long, .int], returnType := some .long }, accessFlags := 8, code := some k2c1 }
/-- com/example/grawl/grawl/graph/ByteWords -/
def k2 : Class := { plain "com/example/grawl/grawl/graph/ByteWords" (some 0) with
  accessFlags := 48
  interfaces := #[]
  cf := some (fileOf pool2 8 #[] #[{ accessFlags := 2, nameIndex := 5, descriptorIndex := 6, attributes := #[] }, { accessFlags := 8, nameIndex := 79, descriptorIndex := 80, attributes := #[] }] 48 2 #[] #[{ accessFlags := 26, nameIndex := 11, descriptorIndex := 12, attributes := #[] }, { accessFlags := 26, nameIndex := 69, descriptorIndex := 70, attributes := #[] }, { accessFlags := 26, nameIndex := 72, descriptorIndex := 70, attributes := #[] }, { accessFlags := 26, nameIndex := 73, descriptorIndex := 70, attributes := #[] }, { accessFlags := 26, nameIndex := 74, descriptorIndex := 70, attributes := #[] }])
  fields := #[{ name := "WORDS", type := (.object "java/lang/invoke/VarHandle"), accessFlags := 26, slot := 0, constantValue := 0 }, { name := "LOW_BITS", type := .long, accessFlags := 26, slot := 1, constantValue := 0 }, { name := "HIGH_BITS", type := .long, accessFlags := 26, slot := 2, constantValue := 0 }, { name := "ZEROS", type := .long, accessFlags := 26, slot := 3, constantValue := 0 }, { name := "HIGH_HALVES", type := .long, accessFlags := 26, slot := 4, constantValue := 0 }]
  methods := #[k2m0, k2m1]
  instanceTypes := #[]
  staticTypes := #[(.object "java/lang/invoke/VarHandle"), .long, .long, .long, .long]
  resolved := Array.replicate 89 none
  statics := none }

def pool3 : Array CpInfo := pool [(1, u "java/lang/Cloneable"), (0, .class_ 1), (0, u "java/lang/Object"), (0, .class_ 3)] 3

/-- java/lang/Cloneable -/
def k3 : Class := { plain "java/lang/Cloneable" (some 0) with
  accessFlags := 1537
  interfaces := #[]
  cf := some (fileOf pool3 2 #[] #[] 1537 4 #[] #[])
  fields := #[]
  methods := #[]
  instanceTypes := #[]
  staticTypes := #[]
  resolved := Array.replicate 8 none
  statics := none }

def pool4 : Array CpInfo := pool [(1, u "java/io/Serializable"), (0, .class_ 1), (0, u "java/lang/Object"), (0, .class_ 3)] 3

/-- java/io/Serializable -/
def k4 : Class := { plain "java/io/Serializable" (some 0) with
  accessFlags := 1537
  interfaces := #[]
  cf := some (fileOf pool4 2 #[] #[] 1537 4 #[] #[])
  fields := #[]
  methods := #[]
  instanceTypes := #[]
  staticTypes := #[]
  resolved := Array.replicate 8 none
  statics := none }

/-- the primitive byte -/
def k5 : Class := { plain "byte" none with kind := .primitive 'B', accessFlags := 0x411 }
/-- [B -/
def k6 : Class := { plain "[B" (some 0) with kind := .array 5 .byte, interfaces := #[3, 4], accessFlags := 1041 }

/-- the primitive int -/
def k7 : Class := { plain "int" none with kind := .primitive 'I', accessFlags := 0x411 }
/-- [I -/
def k8 : Class := { plain "[I" (some 0) with kind := .array 7 .int, interfaces := #[3, 4], accessFlags := 1041 }

/-- the primitive long -/
def k9 : Class := { plain "long" none with kind := .primitive 'J', accessFlags := 0x411 }
/-- [J -/
def k10 : Class := { plain "[J" (some 0) with kind := .array 9 .long, interfaces := #[3, 4], accessFlags := 1041 }

def heap : Heap := #[]
def classes : Array Class := #[k0, k1, k2, k3, k4, k5, k6, k7, k8, k9, k10]
def interned : List (Array UInt16 × Addr) := []
def slotsUsed : Nat := 0
def theMethod : MethodId := ⟨1, 3⟩
def args0 : Array Value := #[.long 5, .long 5, .int 5]
def aboutOver (below : List Frame) : State where
  vm := { classes := classes, interned := interned.toArray }
  heap := heap
  slotsUsed := slotsUsed
  threads := #[{ frames := .invoking theMethod args0 :: below }]
def below0 : List Frame := [.native { method := ⟨0, 0⟩, args := #[] }]
def about1 : State := aboutOver below0
def p0 : Program := .bare "" "" ""
def e0 : Env := launch0.env 0 0 0
theorem w_frames : about1.frames = Frame.invoking theMethod args0 :: below0 := rfl
set_option maxRecDepth 65536 in
theorem w_args : argsFit about1.vm theMethod args0 = true := by decide +kernel
set_option maxRecDepth 65536 in
theorem w_heap : heapFits about1 = true := by decide +kernel
set_option maxRecDepth 65536 in
theorem w_runnable : about1.curStatus? = some .runnable := by decide +kernel
set_option maxRecDepth 65536 in
theorem w_alone : about1.alone = true := by decide +kernel
set_option maxRecDepth 65536 in
theorem w_named : about1.methodNamed? x = some theMethod := by decide +kernel
set_option maxRecDepth 65536 in
theorem w_hears : about1.hears theMethod below0 = true := by decide +kernel
set_option maxRecDepth 65536 in
theorem w_ripe : about1.ripe theMethod args0 below0 = true := by decide +kernel
theorem w_running : about1.status = .running := rfl
set_option maxRecDepth 65536 in
theorem w_room : about1.hasRoom e0.platform room_1 = true :=
  launch0.hasRoom_least _ room_1 (by decide +kernel) (by decide +kernel) (by decide +kernel) (by decide +kernel) (by decide +kernel) (by decide +kernel)
theorem allAtoms_all (ts : List Jvm.Cond) (a : Array Jvm.Value) (st : Jvm.State) : (allAtoms ts).before a st = ts.all (fun c => c.before a st) := by
  induction ts with
  | nil => rfl
  | cons c t ih =>
    show (Jvm.Cond.and c (allAtoms t)).before a st = _
    rw [Jvm.Cond.before_and, ih, List.all_cons]
def words1 : List Jvm.Cond := Jvm.Cond.code x code maxLocals ret :: tables_1
/-- a 'code' word, met by the world's own term for the bytes: nothing is compared byte by byte -/
theorem code_word {y : MethodName} {bytes : ByteArray} {mx : Nat} {rt : Option FieldType} {a : Array Value} {s : State} {m : MethodId} {meth : Method} {c : Code} (h1 : s.methodNamed? y = some m) (h2 : s.vm.method? m = some meth) (h3 : meth.code = some c) (h4 : c.code = bytes)
    (h5 : (c.maxLocals == mx && c.exceptionTable.isEmpty && decide (c.maxStack ≤ mostOperands) && decide (meth.sig.returnType = rt) && !meth.locks && decide (parseMethodDescriptor y.desc = some meth.sig)) = true) : (Jvm.Cond.code y bytes mx rt).before a s = true := by
  simp only [Bool.and_eq_true, beq_iff_eq, Bool.not_eq_true', decide_eq_true_eq] at h5
  obtain ⟨⟨⟨⟨⟨g1, g2⟩, g3⟩, g4⟩, g5⟩, g6⟩ := h5
  simp [Cond.before, Cond.holds, Cond.value, h1, h2, h3, h4, g1, g2, g3, g4, g5, g6]
def isCode : Jvm.Cond → Bool
  | .code _ _ _ _ => true
  | _ => false
theorem all_split {L : List Jvm.Cond} {P : Jvm.Cond → Bool} (h1 : L.all (fun c => isCode c || P c) = true) (h2 : ∀ c ∈ L.filter isCode, P c = true) : L.all P = true := by
  refine List.all_eq_true.mpr fun c hc => ?_
  have h := List.all_eq_true.mp h1 c hc
  rcases Bool.eq_false_or_eq_true (isCode c) with hi | hi
  · exact h2 c (List.mem_filter.mpr ⟨hc, hi⟩)
  · simpa [hi] using h
set_option maxRecDepth 65536 in
theorem w_c0 : (Jvm.Cond.code x code maxLocals ret).before args0 about1 = true := code_word (m := ⟨1, 3⟩) (meth := k1m3) (c := k1c3) (by decide +kernel) rfl rfl rfl (by decide +kernel)
set_option maxRecDepth 65536 in
theorem w_c1 : (Jvm.Cond.code ({ cls := "com/example/grawl/grawl/graph/ByteWordsDecimalPinLaw", name := "byteAt", desc := "(JJII)J" } : Jvm.MethodName) method_3_code (6 : Nat) (Option.some Jvm.ClassFile.FieldType.long)).before args0 about1 = true := code_word (m := ⟨1, 2⟩) (meth := k1m2) (c := k1c2) (by decide +kernel) rfl rfl rfl (by decide +kernel)
set_option maxRecDepth 65536 in
theorem w_c2 : (Jvm.Cond.code ({ cls := "com/example/grawl/grawl/graph/ByteWordsDecimalPinLaw", name := "digit", desc := "(JI)J" } : Jvm.MethodName) method_2_code (3 : Nat) (Option.some Jvm.ClassFile.FieldType.long)).before args0 about1 = true := code_word (m := ⟨1, 1⟩) (meth := k1m1) (c := k1c1) (by decide +kernel) rfl rfl rfl (by decide +kernel)
set_option maxRecDepth 65536 in
theorem w_c3 : (Jvm.Cond.code ({ cls := "com/example/grawl/grawl/graph/ByteWords", name := "decimal", desc := "(JI)J" } : Jvm.MethodName) prog_23_method_4_code (9 : Nat) (Option.some Jvm.ClassFile.FieldType.long)).before args0 about1 = true := code_word (m := ⟨2, 1⟩) (meth := k2m1) (c := k2c1) (by decide +kernel) rfl rfl rfl (by decide +kernel)
def codes1 : List Jvm.Cond := [Jvm.Cond.code x code maxLocals ret, Jvm.Cond.code ({ cls := "com/example/grawl/grawl/graph/ByteWordsDecimalPinLaw", name := "byteAt", desc := "(JJII)J" } : Jvm.MethodName) method_3_code (6 : Nat) (Option.some Jvm.ClassFile.FieldType.long), Jvm.Cond.code ({ cls := "com/example/grawl/grawl/graph/ByteWordsDecimalPinLaw", name := "digit", desc := "(JI)J" } : Jvm.MethodName) method_2_code (3 : Nat) (Option.some Jvm.ClassFile.FieldType.long), Jvm.Cond.code ({ cls := "com/example/grawl/grawl/graph/ByteWords", name := "decimal", desc := "(JI)J" } : Jvm.MethodName) prog_23_method_4_code (9 : Nat) (Option.some Jvm.ClassFile.FieldType.long)]
set_option maxRecDepth 65536 in
theorem codes_eq : words1.filter isCode = codes1 := rfl
theorem w_codes : ∀ c ∈ words1.filter isCode, c.before args0 about1 = true := by
  rw [codes_eq]
  intro c hc
  simp only [codes1, List.mem_cons, List.not_mem_nil, or_false] at hc
  rcases hc with rfl | rfl | rfl | rfl
  · exact w_c0
  · exact w_c1
  · exact w_c2
  · exact w_c3
set_option maxRecDepth 65536 in
theorem w_t1 : (words1.take 24).all (fun c => isCode c || c.before args0 about1) = true := by decide +kernel
set_option maxRecDepth 65536 in
theorem w_t2 : (words1.drop 24).all (fun c => isCode c || c.before args0 about1) = true := by decide +kernel
theorem w_tables : (allAtoms (Jvm.Cond.code x code maxLocals ret :: tables_1)).before args0 about1 = true := by
  rw [allAtoms_all]
  show words1.all (fun c => c.before args0 about1) = true
  refine all_split ?_ w_codes
  rw [← List.take_append_drop 24 words1, List.all_append, w_t1, w_t2]
  rfl
set_option maxRecDepth 65536 in
theorem w_case : (Jvm.Cond.and given_1 narrow_1).before args0 about1 = true := by decide +kernel
theorem w_applies : (headSpec (Jvm.Cond.code x code maxLocals ret :: tables_1) room_1).applies x e0.platform about1 = true :=
  (Spec.applies_iff w_frames).mpr ⟨w_running, w_runnable, w_alone, w_named, w_hears, w_ripe, w_room, w_tables⟩
theorem atStart : AtStart classFile x code maxLocals ret World_1 tables_1 room_1 Calls_1 rest_1 Pre_1 launch0 p0 e0 about1 theMethod args0 below0 :=
  ⟨lists_1, trivial, launch0.admits_env _ _ _, launch0.least_env, fairChoices_fair.cas, fairChoices_fair.clock, w_frames, w_args, w_heap, w_applies, trivial, trivial, w_case⟩
end start1
theorem witness_1 : WitnessClaimed_1 := ⟨start1.p0, start1.e0, start1.about1, start1.theMethod, start1.args0, start1.below0, start1.atStart⟩
end Jvm.Pilot.@@N@@
