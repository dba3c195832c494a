import JvmDerived
import JvmDerived.Pilot.@@N@@Statement
import JvmDerived.Pilot.@@N@@Code
set_option linter.unusedVariables false
set_option linter.unusedSimpArgs false
namespace Jvm.Pilot.@@N@@
open Jvm Jvm.ClassFile Sem Op Lib Jvm.Free Jvm.Stand Jvm.LawKit Jvm.RoadKit Bundle Jvm.Pilot.@@N@@.Jvm.D
/-- Java's shifts -/
def shlI (x y : Int32) : Int32 := x <<< (y &&& 31)
def shrI (x y : Int32) : Int32 := x >>> (y &&& 31)
def ushrI (x y : Int32) : Int32 := (x.toUInt32 >>> (y &&& 31).toUInt32).toInt32
def shlJ (x : Int64) (y : Int32) : Int64 := x <<< (y &&& 0x3f).toInt64
def shrJ (x : Int64) (y : Int32) : Int64 := x >>> (y &&& 0x3f).toInt64
def ushrJ (x : Int64) (y : Int32) : Int64 := (x.toUInt64 >>> (y &&& 0x3f).toInt64.toUInt64).toInt64
section Kit
variable {p : Program} {l : Launch} {e : Env} {R : Room} {s : State} {m : MethodId} {args : Array Value} {below : List Frame} {meth : Method} {c : ClassFile.Code} {Z : State} {a0 : Array Value} {n0 : Nat} {Q : Option Value → Heap → Prop} {K N : Nat} {h : Heap} {k n : Nat} {own : String} {bytes : ByteArray} {maxl : Nat} {ret : Option FieldType} {nm : String} {pc pc' pc1 pct : Nat} {Ls : Array Slot} {st : List Value}
/-- the run from T0 comes back with a value and a heap of which Q holds, having written nothing below n0 -/
def Ends (p : Program) (e : Env) (below : List Frame) (s : State) (n0 : Nat) (Q : Option Value → Heap → Prop) (K N : Nat) (T0 : State) : Prop :=
  ∃ t o, Steps p.tables e below T0 t ∧ t.status = .running ∧ Ended t below o ∧ ∃ v L, o = .returned v ∧ (Q v t.heap ∧ Fr n0 L) ∧ FrameEnd s o t L K N
/-- from every state of this invocation whose heap is h and whose top frame is f the run comes back so -/
def Go (p : Program) (l : Launch) (e : Env) (R : Room) (s : State) (m : MethodId) (args : Array Value) (below : List Frame) (meth : Method) (c : ClassFile.Code) (n0 : Nat) (Q : Option Value → Heap → Prop) (K N : Nat) (h : Heap) (k n : Nat) (f : JFrame) : Prop :=
  ∀ T L, Fr n0 L → Stand p l e R s m args below meth c T L k n → T.heap = h → Ends p e below s n0 Q K N (T.setTop f)
/-- what is known of the invocation throughout -/
def Cx (p : Program) (s : State) (m : MethodId) (meth : Method) (c : ClassFile.Code) (Z : State) (n0 : Nat) (own : String) (bytes : ByteArray) (maxl : Nat) (ret : Option FieldType) (nm : String) : Prop :=
  p.tables.exec = Jvm.exec ∧ Z.Warmed39 s.vm ∧ s.vm.findClass own = some m.cls ∧ c.code = bytes ∧ c.maxLocals = maxl ∧ meth.sig.returnType = ret ∧ meth.locks = false ∧ meth.name = nm ∧ n0 ≤ s.heap.size
def In (b : ByteArray) (pc len : Nat) (i : Instr) (pc' : Nat) : Prop := decode b pc = .ok (i, len) ∧ pc' = pc + len
def Jm (b : ByteArray) (pc : Nat) (i : Int → Instr) (pc' pct : Nat) : Prop := ∃ o, decode b pc = .ok (i o, 3) ∧ pc' = pc + 3 ∧ 0 ≤ (pc : Int) + o ∧ ((pc : Int) + o).toNat = pct
theorem g_st {f f' : JFrame} (H : ∀ {T L}, Stand p l e R s m args below meth c T L k n → T.heap = h → ∀ t, Steps p.tables e below (T.setTop f') t → Steps p.tables e below (T.setTop f) t) (G : Go p l e R s m args below meth c n0 Q K N h k n (f')) : Go p l e R s m args below meth c n0 Q K N h k n f := fun T L hL X eT => by
  obtain ⟨t, o, h1, h2⟩ := G T L hL X eT
  exact ⟨t, o, H X eT t h1, h2⟩
theorem g_cast {f f' : JFrame} (q : f = f') (G : Go p l e R s m args below meth c n0 Q K N h k n (f')) : Go p l e R s m args below meth c n0 Q K N h k n f := q ▸ G
theorem g_more {k' n' : Nat} {f : JFrame} (hk : k ≤ k') (hn : n ≤ n') (G : Go p l e R s m args below meth c n0 Q K N h (k') (n') f) : Go p l e R s m args below meth c n0 Q K N h k n f := fun T L hL X eT => G T L hL (X.more hk hn) eT
theorem Stand.up {T : State} {L : List Loc} (X : Stand p l e R s m args below meth c T L k n) : s.heap.size ≤ T.heap.size := by
  exact X.same.2.1
theorem g_iadd (C : Cx p s m meth c Z n0 own bytes maxl ret nm) {x y : Int32} (d : In bytes pc 1 (.iadd) pc') (G : Go p l e R s m args below meth c n0 Q K N h k n (mkF m pc' Ls (.int (x + y) :: st))) : Go p l e R s m args below meth c n0 Q K N h k n (mkF m pc Ls (.int y :: .int x :: st)) := by
  obtain ⟨d, rfl⟩ := d
  exact g_st (fun X _ t kt => XS.iadd X.here C.1 rfl (hb C.2.2.2.1 d) rfl kt) G
theorem g_isub (C : Cx p s m meth c Z n0 own bytes maxl ret nm) {x y : Int32} (d : In bytes pc 1 (.isub) pc') (G : Go p l e R s m args below meth c n0 Q K N h k n (mkF m pc' Ls (.int (x - y) :: st))) : Go p l e R s m args below meth c n0 Q K N h k n (mkF m pc Ls (.int y :: .int x :: st)) := by
  obtain ⟨d, rfl⟩ := d
  exact g_st (fun X _ t kt => XS.isub X.here C.1 rfl (hb C.2.2.2.1 d) rfl kt) G
theorem g_imul (C : Cx p s m meth c Z n0 own bytes maxl ret nm) {x y : Int32} (d : In bytes pc 1 (.imul) pc') (G : Go p l e R s m args below meth c n0 Q K N h k n (mkF m pc' Ls (.int (x * y) :: st))) : Go p l e R s m args below meth c n0 Q K N h k n (mkF m pc Ls (.int y :: .int x :: st)) := by
  obtain ⟨d, rfl⟩ := d
  exact g_st (fun X _ t kt => XS.imul X.here C.1 rfl (hb C.2.2.2.1 d) rfl kt) G
theorem g_iand (C : Cx p s m meth c Z n0 own bytes maxl ret nm) {x y : Int32} (d : In bytes pc 1 (.iand) pc') (G : Go p l e R s m args below meth c n0 Q K N h k n (mkF m pc' Ls (.int (x &&& y) :: st))) : Go p l e R s m args below meth c n0 Q K N h k n (mkF m pc Ls (.int y :: .int x :: st)) := by
  obtain ⟨d, rfl⟩ := d
  exact g_st (fun X _ t kt => XS.iand X.here C.1 rfl (hb C.2.2.2.1 d) rfl kt) G
theorem g_ior (C : Cx p s m meth c Z n0 own bytes maxl ret nm) {x y : Int32} (d : In bytes pc 1 (.ior) pc') (G : Go p l e R s m args below meth c n0 Q K N h k n (mkF m pc' Ls (.int (x ||| y) :: st))) : Go p l e R s m args below meth c n0 Q K N h k n (mkF m pc Ls (.int y :: .int x :: st)) := by
  obtain ⟨d, rfl⟩ := d
  exact g_st (fun X _ t kt => XS.ior X.here C.1 rfl (hb C.2.2.2.1 d) rfl kt) G
theorem g_ixor (C : Cx p s m meth c Z n0 own bytes maxl ret nm) {x y : Int32} (d : In bytes pc 1 (.ixor) pc') (G : Go p l e R s m args below meth c n0 Q K N h k n (mkF m pc' Ls (.int (x ^^^ y) :: st))) : Go p l e R s m args below meth c n0 Q K N h k n (mkF m pc Ls (.int y :: .int x :: st)) := by
  obtain ⟨d, rfl⟩ := d
  exact g_st (fun X _ t kt => XS.ixor X.here C.1 rfl (hb C.2.2.2.1 d) rfl kt) G
theorem g_idiv (C : Cx p s m meth c Z n0 own bytes maxl ret nm) {x y : Int32} (d : In bytes pc 1 (.idiv) pc') (hy : y ≠ 0) (G : Go p l e R s m args below meth c n0 Q K N h k n (mkF m pc' Ls (.int (x / y) :: st))) : Go p l e R s m args below meth c n0 Q K N h k n (mkF m pc Ls (.int y :: .int x :: st)) := by
  obtain ⟨d, rfl⟩ := d
  exact g_st (fun X _ t kt => XS.idiv X.here C.1 rfl (hb C.2.2.2.1 d) rfl hy kt) G
theorem g_irem (C : Cx p s m meth c Z n0 own bytes maxl ret nm) {x y : Int32} (d : In bytes pc 1 (.irem) pc') (hy : y ≠ 0) (G : Go p l e R s m args below meth c n0 Q K N h k n (mkF m pc' Ls (.int (x - (x / y) * y) :: st))) : Go p l e R s m args below meth c n0 Q K N h k n (mkF m pc Ls (.int y :: .int x :: st)) := by
  obtain ⟨d, rfl⟩ := d
  exact g_st (fun X _ t kt => XS.irem X.here C.1 rfl (hb C.2.2.2.1 d) rfl hy kt) G
theorem g_iload (C : Cx p s m meth c Z n0 own bytes maxl ret nm) {i : Nat} {v : Int32} (d : In bytes pc 2 (.iload i) pc') (hl : Ls[i]? = some (.val (.int v))) (G : Go p l e R s m args below meth c n0 Q K N h k n (mkF m pc' Ls (.int v :: st))) : Go p l e R s m args below meth c n0 Q K N h k n (mkF m pc Ls st) := by
  obtain ⟨d, rfl⟩ := d
  exact g_st (fun X _ t kt => XS.iload X.here C.1 rfl (hb C.2.2.2.1 d) hl kt) G
theorem g_iloadN (C : Cx p s m meth c Z n0 own bytes maxl ret nm) {i : Fin 4} {v : Int32} (d : In bytes pc 1 (.iload_n i) pc') (hl : Ls[i.val]? = some (.val (.int v))) (G : Go p l e R s m args below meth c n0 Q K N h k n (mkF m pc' Ls (.int v :: st))) : Go p l e R s m args below meth c n0 Q K N h k n (mkF m pc Ls st) := by
  obtain ⟨d, rfl⟩ := d
  exact g_st (fun X _ t kt => XS.iloadN X.here C.1 rfl (hb C.2.2.2.1 d) hl kt) G
theorem g_istore (C : Cx p s m meth c Z n0 own bytes maxl ret nm) {i : Nat} {x : Int32} (l' : Array Slot) (d : In bytes pc 2 (.istore i) pc') (hl : storeLocals Ls i (.int x) = some l') (G : Go p l e R s m args below meth c n0 Q K N h k n (mkF m pc' l' st)) : Go p l e R s m args below meth c n0 Q K N h k n (mkF m pc Ls (.int x :: st)) := by
  obtain ⟨d, rfl⟩ := d
  exact g_st (fun X _ t kt => XS.istore X.here C.1 rfl (hb C.2.2.2.1 d) rfl hl kt) G
theorem g_istoreN (C : Cx p s m meth c Z n0 own bytes maxl ret nm) {i : Fin 4} {x : Int32} (l' : Array Slot) (d : In bytes pc 1 (.istore_n i) pc') (hl : storeLocals Ls i.val (.int x) = some l') (G : Go p l e R s m args below meth c n0 Q K N h k n (mkF m pc' l' st)) : Go p l e R s m args below meth c n0 Q K N h k n (mkF m pc Ls (.int x :: st)) := by
  obtain ⟨d, rfl⟩ := d
  exact g_st (fun X _ t kt => XS.istoreN X.here C.1 rfl (hb C.2.2.2.1 d) rfl hl kt) G
theorem g_ladd (C : Cx p s m meth c Z n0 own bytes maxl ret nm) {x y : Int64} (d : In bytes pc 1 (.ladd) pc') (G : Go p l e R s m args below meth c n0 Q K N h k n (mkF m pc' Ls (.long (x + y) :: st))) : Go p l e R s m args below meth c n0 Q K N h k n (mkF m pc Ls (.long y :: .long x :: st)) := by
  obtain ⟨d, rfl⟩ := d
  exact g_st (fun X _ t kt => XS.ladd X.here C.1 rfl (hb C.2.2.2.1 d) rfl kt) G
theorem g_lsub (C : Cx p s m meth c Z n0 own bytes maxl ret nm) {x y : Int64} (d : In bytes pc 1 (.lsub) pc') (G : Go p l e R s m args below meth c n0 Q K N h k n (mkF m pc' Ls (.long (x - y) :: st))) : Go p l e R s m args below meth c n0 Q K N h k n (mkF m pc Ls (.long y :: .long x :: st)) := by
  obtain ⟨d, rfl⟩ := d
  exact g_st (fun X _ t kt => XS.lsub X.here C.1 rfl (hb C.2.2.2.1 d) rfl kt) G
theorem g_lmul (C : Cx p s m meth c Z n0 own bytes maxl ret nm) {x y : Int64} (d : In bytes pc 1 (.lmul) pc') (G : Go p l e R s m args below meth c n0 Q K N h k n (mkF m pc' Ls (.long (x * y) :: st))) : Go p l e R s m args below meth c n0 Q K N h k n (mkF m pc Ls (.long y :: .long x :: st)) := by
  obtain ⟨d, rfl⟩ := d
  exact g_st (fun X _ t kt => XS.lmul X.here C.1 rfl (hb C.2.2.2.1 d) rfl kt) G
theorem g_land (C : Cx p s m meth c Z n0 own bytes maxl ret nm) {x y : Int64} (d : In bytes pc 1 (.land) pc') (G : Go p l e R s m args below meth c n0 Q K N h k n (mkF m pc' Ls (.long (x &&& y) :: st))) : Go p l e R s m args below meth c n0 Q K N h k n (mkF m pc Ls (.long y :: .long x :: st)) := by
  obtain ⟨d, rfl⟩ := d
  exact g_st (fun X _ t kt => XS.land X.here C.1 rfl (hb C.2.2.2.1 d) rfl kt) G
theorem g_lor (C : Cx p s m meth c Z n0 own bytes maxl ret nm) {x y : Int64} (d : In bytes pc 1 (.lor) pc') (G : Go p l e R s m args below meth c n0 Q K N h k n (mkF m pc' Ls (.long (x ||| y) :: st))) : Go p l e R s m args below meth c n0 Q K N h k n (mkF m pc Ls (.long y :: .long x :: st)) := by
  obtain ⟨d, rfl⟩ := d
  exact g_st (fun X _ t kt => XS.lor X.here C.1 rfl (hb C.2.2.2.1 d) rfl kt) G
theorem g_lxor (C : Cx p s m meth c Z n0 own bytes maxl ret nm) {x y : Int64} (d : In bytes pc 1 (.lxor) pc') (G : Go p l e R s m args below meth c n0 Q K N h k n (mkF m pc' Ls (.long (x ^^^ y) :: st))) : Go p l e R s m args below meth c n0 Q K N h k n (mkF m pc Ls (.long y :: .long x :: st)) := by
  obtain ⟨d, rfl⟩ := d
  exact g_st (fun X _ t kt => XS.lxor X.here C.1 rfl (hb C.2.2.2.1 d) rfl kt) G
theorem g_ldiv (C : Cx p s m meth c Z n0 own bytes maxl ret nm) {x y : Int64} (d : In bytes pc 1 (.ldiv) pc') (hy : y ≠ 0) (G : Go p l e R s m args below meth c n0 Q K N h k n (mkF m pc' Ls (.long (x / y) :: st))) : Go p l e R s m args below meth c n0 Q K N h k n (mkF m pc Ls (.long y :: .long x :: st)) := by
  obtain ⟨d, rfl⟩ := d
  exact g_st (fun X _ t kt => XS.ldiv X.here C.1 rfl (hb C.2.2.2.1 d) rfl hy kt) G
theorem g_lrem (C : Cx p s m meth c Z n0 own bytes maxl ret nm) {x y : Int64} (d : In bytes pc 1 (.lrem) pc') (hy : y ≠ 0) (G : Go p l e R s m args below meth c n0 Q K N h k n (mkF m pc' Ls (.long (x - (x / y) * y) :: st))) : Go p l e R s m args below meth c n0 Q K N h k n (mkF m pc Ls (.long y :: .long x :: st)) := by
  obtain ⟨d, rfl⟩ := d
  exact g_st (fun X _ t kt => XS.lrem X.here C.1 rfl (hb C.2.2.2.1 d) rfl hy kt) G
theorem g_lload (C : Cx p s m meth c Z n0 own bytes maxl ret nm) {i : Nat} {v : Int64} (d : In bytes pc 2 (.lload i) pc') (hl : Ls[i]? = some (.val (.long v))) (G : Go p l e R s m args below meth c n0 Q K N h k n (mkF m pc' Ls (.long v :: st))) : Go p l e R s m args below meth c n0 Q K N h k n (mkF m pc Ls st) := by
  obtain ⟨d, rfl⟩ := d
  exact g_st (fun X _ t kt => XS.lload X.here C.1 rfl (hb C.2.2.2.1 d) hl kt) G
theorem g_lloadN (C : Cx p s m meth c Z n0 own bytes maxl ret nm) {i : Fin 4} {v : Int64} (d : In bytes pc 1 (.lload_n i) pc') (hl : Ls[i.val]? = some (.val (.long v))) (G : Go p l e R s m args below meth c n0 Q K N h k n (mkF m pc' Ls (.long v :: st))) : Go p l e R s m args below meth c n0 Q K N h k n (mkF m pc Ls st) := by
  obtain ⟨d, rfl⟩ := d
  exact g_st (fun X _ t kt => XS.lloadN X.here C.1 rfl (hb C.2.2.2.1 d) hl kt) G
theorem g_lstore (C : Cx p s m meth c Z n0 own bytes maxl ret nm) {i : Nat} {x : Int64} (l' : Array Slot) (d : In bytes pc 2 (.lstore i) pc') (hl : storeLocals Ls i (.long x) = some l') (G : Go p l e R s m args below meth c n0 Q K N h k n (mkF m pc' l' st)) : Go p l e R s m args below meth c n0 Q K N h k n (mkF m pc Ls (.long x :: st)) := by
  obtain ⟨d, rfl⟩ := d
  exact g_st (fun X _ t kt => XS.lstore X.here C.1 rfl (hb C.2.2.2.1 d) rfl hl kt) G
theorem g_lstoreN (C : Cx p s m meth c Z n0 own bytes maxl ret nm) {i : Fin 4} {x : Int64} (l' : Array Slot) (d : In bytes pc 1 (.lstore_n i) pc') (hl : storeLocals Ls i.val (.long x) = some l') (G : Go p l e R s m args below meth c n0 Q K N h k n (mkF m pc' l' st)) : Go p l e R s m args below meth c n0 Q K N h k n (mkF m pc Ls (.long x :: st)) := by
  obtain ⟨d, rfl⟩ := d
  exact g_st (fun X _ t kt => XS.lstoreN X.here C.1 rfl (hb C.2.2.2.1 d) rfl hl kt) G
theorem g_aload (C : Cx p s m meth c Z n0 own bytes maxl ret nm) {i : Nat} {v : Value} (d : In bytes pc 2 (.aload i) pc') (hl : Ls[i]? = some (.val v)) (hv : v.isRef = true) (G : Go p l e R s m args below meth c n0 Q K N h k n (mkF m pc' Ls (v :: st))) : Go p l e R s m args below meth c n0 Q K N h k n (mkF m pc Ls st) := by
  obtain ⟨d, rfl⟩ := d
  exact g_st (fun X _ t kt => XS.aload X.here C.1 rfl (hb C.2.2.2.1 d) hl hv kt) G
theorem g_astore (C : Cx p s m meth c Z n0 own bytes maxl ret nm) {i : Nat} {x : Value} (l' : Array Slot) (d : In bytes pc 2 (.astore i) pc') (hv : x.isRef = true) (hl : storeLocals Ls i x = some l') (G : Go p l e R s m args below meth c n0 Q K N h k n (mkF m pc' l' st)) : Go p l e R s m args below meth c n0 Q K N h k n (mkF m pc Ls (x :: st)) := by
  obtain ⟨d, rfl⟩ := d
  exact g_st (fun X _ t kt => XS.astore X.here C.1 rfl (hb C.2.2.2.1 d) rfl hv hl kt) G
theorem g_aloadN (C : Cx p s m meth c Z n0 own bytes maxl ret nm) {i : Fin 4} {v : Value} (d : In bytes pc 1 (.aload_n i) pc') (hl : Ls[i.val]? = some (.val v)) (hv : v.isRef = true) (G : Go p l e R s m args below meth c n0 Q K N h k n (mkF m pc' Ls (v :: st))) : Go p l e R s m args below meth c n0 Q K N h k n (mkF m pc Ls st) := by
  obtain ⟨d, rfl⟩ := d
  exact g_st (fun X _ t kt => XS.aloadN X.here C.1 rfl (hb C.2.2.2.1 d) hl hv kt) G
theorem g_astoreN (C : Cx p s m meth c Z n0 own bytes maxl ret nm) {i : Fin 4} {x : Value} (l' : Array Slot) (d : In bytes pc 1 (.astore_n i) pc') (hv : x.isRef = true) (hl : storeLocals Ls i.val x = some l') (G : Go p l e R s m args below meth c n0 Q K N h k n (mkF m pc' l' st)) : Go p l e R s m args below meth c n0 Q K N h k n (mkF m pc Ls (x :: st)) := by
  obtain ⟨d, rfl⟩ := d
  exact g_st (fun X _ t kt => XS.astoreN X.here C.1 rfl (hb C.2.2.2.1 d) rfl hv hl kt) G
theorem g_ishl (C : Cx p s m meth c Z n0 own bytes maxl ret nm) {x y : Int32} (d : In bytes pc 1 (.ishl) pc') (G : Go p l e R s m args below meth c n0 Q K N h k n (mkF m pc' Ls (.int (shlI x y) :: st))) : Go p l e R s m args below meth c n0 Q K N h k n (mkF m pc Ls (.int y :: .int x :: st)) := by
  obtain ⟨d, rfl⟩ := d
  exact g_st (fun X _ t kt => XS.ishl X.here C.1 rfl (hb C.2.2.2.1 d) rfl kt) G
theorem g_ishr (C : Cx p s m meth c Z n0 own bytes maxl ret nm) {x y : Int32} (d : In bytes pc 1 (.ishr) pc') (G : Go p l e R s m args below meth c n0 Q K N h k n (mkF m pc' Ls (.int (shrI x y) :: st))) : Go p l e R s m args below meth c n0 Q K N h k n (mkF m pc Ls (.int y :: .int x :: st)) := by
  obtain ⟨d, rfl⟩ := d
  exact g_st (fun X _ t kt => XS.ishr X.here C.1 rfl (hb C.2.2.2.1 d) rfl kt) G
theorem g_iushr (C : Cx p s m meth c Z n0 own bytes maxl ret nm) {x y : Int32} (d : In bytes pc 1 (.iushr) pc') (G : Go p l e R s m args below meth c n0 Q K N h k n (mkF m pc' Ls (.int (ushrI x y) :: st))) : Go p l e R s m args below meth c n0 Q K N h k n (mkF m pc Ls (.int y :: .int x :: st)) := by
  obtain ⟨d, rfl⟩ := d
  exact g_st (fun X _ t kt => XS.iushr X.here C.1 rfl (hb C.2.2.2.1 d) rfl kt) G
theorem g_lshl (C : Cx p s m meth c Z n0 own bytes maxl ret nm) {x : Int64} {y : Int32} (d : In bytes pc 1 (.lshl) pc') (G : Go p l e R s m args below meth c n0 Q K N h k n (mkF m pc' Ls (.long (shlJ x y) :: st))) : Go p l e R s m args below meth c n0 Q K N h k n (mkF m pc Ls (.int y :: .long x :: st)) := by
  obtain ⟨d, rfl⟩ := d
  exact g_st (fun X _ t kt => XS.lshl X.here C.1 rfl (hb C.2.2.2.1 d) rfl kt) G
theorem g_lshr (C : Cx p s m meth c Z n0 own bytes maxl ret nm) {x : Int64} {y : Int32} (d : In bytes pc 1 (.lshr) pc') (G : Go p l e R s m args below meth c n0 Q K N h k n (mkF m pc' Ls (.long (shrJ x y) :: st))) : Go p l e R s m args below meth c n0 Q K N h k n (mkF m pc Ls (.int y :: .long x :: st)) := by
  obtain ⟨d, rfl⟩ := d
  exact g_st (fun X _ t kt => XS.lshr X.here C.1 rfl (hb C.2.2.2.1 d) rfl kt) G
theorem g_lushr (C : Cx p s m meth c Z n0 own bytes maxl ret nm) {x : Int64} {y : Int32} (d : In bytes pc 1 (.lushr) pc') (G : Go p l e R s m args below meth c n0 Q K N h k n (mkF m pc' Ls (.long (ushrJ x y) :: st))) : Go p l e R s m args below meth c n0 Q K N h k n (mkF m pc Ls (.int y :: .long x :: st)) := by
  obtain ⟨d, rfl⟩ := d
  exact g_st (fun X _ t kt => XS.lushr X.here C.1 rfl (hb C.2.2.2.1 d) rfl kt) G
theorem g_i2l (C : Cx p s m meth c Z n0 own bytes maxl ret nm) {x : Int32} (d : In bytes pc 1 (.i2l) pc') (G : Go p l e R s m args below meth c n0 Q K N h k n (mkF m pc' Ls (.long x.toInt64 :: st))) : Go p l e R s m args below meth c n0 Q K N h k n (mkF m pc Ls (.int x :: st)) := by
  obtain ⟨d, rfl⟩ := d
  exact g_st (fun X _ t kt => XS.i2l X.here C.1 rfl (hb C.2.2.2.1 d) rfl kt) G
theorem g_l2i (C : Cx p s m meth c Z n0 own bytes maxl ret nm) {x : Int64} (d : In bytes pc 1 (.l2i) pc') (G : Go p l e R s m args below meth c n0 Q K N h k n (mkF m pc' Ls (.int x.toInt32 :: st))) : Go p l e R s m args below meth c n0 Q K N h k n (mkF m pc Ls (.long x :: st)) := by
  obtain ⟨d, rfl⟩ := d
  exact g_st (fun X _ t kt => XS.l2i X.here C.1 rfl (hb C.2.2.2.1 d) rfl kt) G
theorem g_i2b (C : Cx p s m meth c Z n0 own bytes maxl ret nm) {x : Int32} (d : In bytes pc 1 (.i2b) pc') (G : Go p l e R s m args below meth c n0 Q K N h k n (mkF m pc' Ls (.int x.toInt8.toInt32 :: st))) : Go p l e R s m args below meth c n0 Q K N h k n (mkF m pc Ls (.int x :: st)) := by
  obtain ⟨d, rfl⟩ := d
  exact g_st (fun X _ t kt => XS.i2b X.here C.1 rfl (hb C.2.2.2.1 d) rfl kt) G
theorem g_ineg (C : Cx p s m meth c Z n0 own bytes maxl ret nm) {x : Int32} (d : In bytes pc 1 (.ineg) pc') (G : Go p l e R s m args below meth c n0 Q K N h k n (mkF m pc' Ls (.int (-x) :: st))) : Go p l e R s m args below meth c n0 Q K N h k n (mkF m pc Ls (.int x :: st)) := by
  obtain ⟨d, rfl⟩ := d
  exact g_st (fun X _ t kt => XS.ineg X.here C.1 rfl (hb C.2.2.2.1 d) rfl kt) G
theorem g_lneg (C : Cx p s m meth c Z n0 own bytes maxl ret nm) {x : Int64} (d : In bytes pc 1 (.lneg) pc') (G : Go p l e R s m args below meth c n0 Q K N h k n (mkF m pc' Ls (.long (-x) :: st))) : Go p l e R s m args below meth c n0 Q K N h k n (mkF m pc Ls (.long x :: st)) := by
  obtain ⟨d, rfl⟩ := d
  exact g_st (fun X _ t kt => XS.lneg X.here C.1 rfl (hb C.2.2.2.1 d) rfl kt) G
theorem g_iconst (C : Cx p s m meth c Z n0 own bytes maxl ret nm) {i : Int} (v : Int32) (hv : Int32.ofInt i = v) (d : In bytes pc 1 (.iconst i) pc') (G : Go p l e R s m args below meth c n0 Q K N h k n (mkF m pc' Ls (.int v :: st))) : Go p l e R s m args below meth c n0 Q K N h k n (mkF m pc Ls st) := by
  obtain ⟨d, rfl⟩ := d
  exact g_st (fun X _ t kt => XS.iconst X.here C.1 rfl (hb C.2.2.2.1 d) (hv ▸ kt)) G
theorem g_bipush (C : Cx p s m meth c Z n0 own bytes maxl ret nm) {i : Int} (v : Int32) (hv : (Int8.ofInt i).toInt32 = v) (d : In bytes pc 2 (.bipush i) pc') (G : Go p l e R s m args below meth c n0 Q K N h k n (mkF m pc' Ls (.int v :: st))) : Go p l e R s m args below meth c n0 Q K N h k n (mkF m pc Ls st) := by
  obtain ⟨d, rfl⟩ := d
  exact g_st (fun X _ t kt => XS.bipush X.here C.1 rfl (hb C.2.2.2.1 d) (hv ▸ kt)) G
theorem g_sipush (C : Cx p s m meth c Z n0 own bytes maxl ret nm) {i : Int} (v : Int32) (hv : (Int16.ofInt i).toInt32 = v) (d : In bytes pc 3 (.sipush i) pc') (G : Go p l e R s m args below meth c n0 Q K N h k n (mkF m pc' Ls (.int v :: st))) : Go p l e R s m args below meth c n0 Q K N h k n (mkF m pc Ls st) := by
  obtain ⟨d, rfl⟩ := d
  exact g_st (fun X _ t kt => XS.sipush X.here C.1 rfl (hb C.2.2.2.1 d) (hv ▸ kt)) G
theorem g_lconst (C : Cx p s m meth c Z n0 own bytes maxl ret nm) {i : Fin 2} (v : Int64) (hv : Int64.ofNat i = v) (d : In bytes pc 1 (.lconst i) pc') (G : Go p l e R s m args below meth c n0 Q K N h k n (mkF m pc' Ls (.long v :: st))) : Go p l e R s m args below meth c n0 Q K N h k n (mkF m pc Ls st) := by
  obtain ⟨d, rfl⟩ := d
  exact g_st (fun X _ t kt => XS.lconst X.here C.1 rfl (hb C.2.2.2.1 d) (hv ▸ kt)) G
theorem g_aconst (C : Cx p s m meth c Z n0 own bytes maxl ret nm) (d : In bytes pc 1 (.aconst_null) pc') (G : Go p l e R s m args below meth c n0 Q K N h k n (mkF m pc' Ls (.null :: st))) : Go p l e R s m args below meth c n0 Q K N h k n (mkF m pc Ls st) := by
  obtain ⟨d, rfl⟩ := d
  exact g_st (fun X _ t kt => XS.aconstNull X.here C.1 rfl (hb C.2.2.2.1 d) kt) G
theorem g_dup (C : Cx p s m meth c Z n0 own bytes maxl ret nm) {x : Value} (d : In bytes pc 1 (.dup) pc') (hc : x.category = 1) (G : Go p l e R s m args below meth c n0 Q K N h k n (mkF m pc' Ls (x :: x :: st))) : Go p l e R s m args below meth c n0 Q K N h k n (mkF m pc Ls (x :: st)) := by
  obtain ⟨d, rfl⟩ := d
  exact g_st (fun X _ t kt => XS.dup X.here C.1 rfl (hb C.2.2.2.1 d) rfl hc kt) G
theorem g_pop (C : Cx p s m meth c Z n0 own bytes maxl ret nm) {x : Value} (d : In bytes pc 1 (.pop) pc') (hc : x.category = 1) (G : Go p l e R s m args below meth c n0 Q K N h k n (mkF m pc' Ls st)) : Go p l e R s m args below meth c n0 Q K N h k n (mkF m pc Ls (x :: st)) := by
  obtain ⟨d, rfl⟩ := d
  exact g_st (fun X _ t kt => XS.pop X.here C.1 rfl (hb C.2.2.2.1 d) rfl hc kt) G
theorem g_iinc (C : Cx p s m meth c Z n0 own bytes maxl ret nm) {i : Nat} {cst : Int} {x : Int32} (y : Int32) (l' : Array Slot) (d : In bytes pc 3 (.iinc i cst) pc') (hl : Ls[i]? = some (.val (.int x))) (hv : y = x + Int32.ofInt cst) (hl' : storeLocals Ls i (.int y) = some l') (G : Go p l e R s m args below meth c n0 Q K N h k n (mkF m pc' l' st)) : Go p l e R s m args below meth c n0 Q K N h k n (mkF m pc Ls st) := by
  obtain ⟨d, rfl⟩ := d
  exact g_st (fun X _ t kt => XS.iinc X.here C.1 rfl (hb C.2.2.2.1 d) hl (hv ▸ hl') kt) G
theorem g_goto (C : Cx p s m meth c Z n0 own bytes maxl ret nm) (d : Jm bytes pc .goto pc' pct) (G : Go p l e R s m args below meth c n0 Q K N h k n (mkF m pct Ls st)) : Go p l e R s m args below meth c n0 Q K N h k n (mkF m pc Ls st) := by
  obtain ⟨o, d, rfl, h1, h2⟩ := d
  exact g_st (fun X _ t kt => XS.goto X.here C.1 rfl (pc0 := pc) (pc' := pct) rfl (hb C.2.2.2.1 d) h1 h2 kt) G
theorem g_icmp_lt (C : Cx p s m meth c Z n0 own bytes maxl ret nm) (d : Jm bytes pc (.if_icmp .lt) pc' pct) {x y : Int32} (Gt : x < y → Go p l e R s m args below meth c n0 Q K N h k n (mkF m pct Ls st)) (Gf : ¬ (x < y) → Go p l e R s m args below meth c n0 Q K N h k n (mkF m pc' Ls st)) : Go p l e R s m args below meth c n0 Q K N h k n (mkF m pc Ls (.int y :: .int x :: st)) := by
  obtain ⟨o, d, rfl, h1, h2⟩ := d
  by_cases q : x < y
  · exact g_st (fun X _ t kt => XS.icmpYes X.here C.1 rfl (pc0 := pc) (pc' := pct) rfl (hb C.2.2.2.1 d) rfl (tlt q).1 h1 h2 kt) (Gt q)
  · exact g_st (fun X _ t kt => XS.icmpNo X.here C.1 rfl (hb C.2.2.2.1 d) rfl (flt q).1 kt) (Gf q)
theorem g_if_lt (C : Cx p s m meth c Z n0 own bytes maxl ret nm) (d : Jm bytes pc (.ifCond .lt) pc' pct) {x : Int32} (Gt : x < 0 → Go p l e R s m args below meth c n0 Q K N h k n (mkF m pct Ls st)) (Gf : ¬ (x < 0) → Go p l e R s m args below meth c n0 Q K N h k n (mkF m pc' Ls st)) : Go p l e R s m args below meth c n0 Q K N h k n (mkF m pc Ls (.int x :: st)) := by
  obtain ⟨o, d, rfl, h1, h2⟩ := d
  by_cases q : x < 0
  · exact g_st (fun X _ t kt => XS.ifYes X.here C.1 rfl (pc0 := pc) (pc' := pct) rfl (hb C.2.2.2.1 d) rfl ((if0 _ _).trans (tlt q).1) h1 h2 kt) (Gt q)
  · exact g_st (fun X _ t kt => XS.ifNo X.here C.1 rfl (hb C.2.2.2.1 d) rfl ((if0 _ _).trans (flt q).1) kt) (Gf q)
theorem g_lcmp_lt (C : Cx p s m meth c Z n0 own bytes maxl ret nm) {x y : Int64} (d1 : In bytes pc 1 .lcmp pc1) (d : Jm bytes pc1 (.ifCond .lt) pc' pct) (Gt : x < y → Go p l e R s m args below meth c n0 Q K N h k n (mkF m pct Ls st)) (Gf : ¬ (x < y) → Go p l e R s m args below meth c n0 Q K N h k n (mkF m pc' Ls st)) : Go p l e R s m args below meth c n0 Q K N h k n (mkF m pc Ls (.long y :: .long x :: st)) := by
  obtain ⟨d1, rfl⟩ := d1
  refine g_st (fun X _ t kt => XS.lcmp X.here C.1 rfl (hb C.2.2.2.1 d1) rfl kt) ?_
  exact g_if_lt C d (fun q => Gt ((lw_lt x y).mp q)) (fun q => Gf (fun z => q ((lw_lt x y).mpr z)))
theorem g_icmp_ge (C : Cx p s m meth c Z n0 own bytes maxl ret nm) (d : Jm bytes pc (.if_icmp .ge) pc' pct) {x y : Int32} (Gt : ¬ (x < y) → Go p l e R s m args below meth c n0 Q K N h k n (mkF m pct Ls st)) (Gf : x < y → Go p l e R s m args below meth c n0 Q K N h k n (mkF m pc' Ls st)) : Go p l e R s m args below meth c n0 Q K N h k n (mkF m pc Ls (.int y :: .int x :: st)) := by
  obtain ⟨o, d, rfl, h1, h2⟩ := d
  by_cases q : ¬ (x < y)
  · exact g_st (fun X _ t kt => XS.icmpYes X.here C.1 rfl (pc0 := pc) (pc' := pct) rfl (hb C.2.2.2.1 d) rfl (flt q).2.1 h1 h2 kt) (Gt q)
  · exact g_st (fun X _ t kt => XS.icmpNo X.here C.1 rfl (hb C.2.2.2.1 d) rfl (tlt (Decidable.not_not.mp q)).2.1 kt) (Gf (Decidable.not_not.mp q))
theorem g_if_ge (C : Cx p s m meth c Z n0 own bytes maxl ret nm) (d : Jm bytes pc (.ifCond .ge) pc' pct) {x : Int32} (Gt : ¬ (x < 0) → Go p l e R s m args below meth c n0 Q K N h k n (mkF m pct Ls st)) (Gf : x < 0 → Go p l e R s m args below meth c n0 Q K N h k n (mkF m pc' Ls st)) : Go p l e R s m args below meth c n0 Q K N h k n (mkF m pc Ls (.int x :: st)) := by
  obtain ⟨o, d, rfl, h1, h2⟩ := d
  by_cases q : ¬ (x < 0)
  · exact g_st (fun X _ t kt => XS.ifYes X.here C.1 rfl (pc0 := pc) (pc' := pct) rfl (hb C.2.2.2.1 d) rfl ((if0 _ _).trans (flt q).2.1) h1 h2 kt) (Gt q)
  · exact g_st (fun X _ t kt => XS.ifNo X.here C.1 rfl (hb C.2.2.2.1 d) rfl ((if0 _ _).trans (tlt (Decidable.not_not.mp q)).2.1) kt) (Gf (Decidable.not_not.mp q))
theorem g_lcmp_ge (C : Cx p s m meth c Z n0 own bytes maxl ret nm) {x y : Int64} (d1 : In bytes pc 1 .lcmp pc1) (d : Jm bytes pc1 (.ifCond .ge) pc' pct) (Gt : ¬ (x < y) → Go p l e R s m args below meth c n0 Q K N h k n (mkF m pct Ls st)) (Gf : x < y → Go p l e R s m args below meth c n0 Q K N h k n (mkF m pc' Ls st)) : Go p l e R s m args below meth c n0 Q K N h k n (mkF m pc Ls (.long y :: .long x :: st)) := by
  obtain ⟨d1, rfl⟩ := d1
  refine g_st (fun X _ t kt => XS.lcmp X.here C.1 rfl (hb C.2.2.2.1 d1) rfl kt) ?_
  exact g_if_ge C d (fun q => Gt (fun z => q ((lw_lt x y).mpr z))) (fun q => Gf ((lw_lt x y).mp q))
theorem g_icmp_gt (C : Cx p s m meth c Z n0 own bytes maxl ret nm) (d : Jm bytes pc (.if_icmp .gt) pc' pct) {x y : Int32} (Gt : y < x → Go p l e R s m args below meth c n0 Q K N h k n (mkF m pct Ls st)) (Gf : ¬ (y < x) → Go p l e R s m args below meth c n0 Q K N h k n (mkF m pc' Ls st)) : Go p l e R s m args below meth c n0 Q K N h k n (mkF m pc Ls (.int y :: .int x :: st)) := by
  obtain ⟨o, d, rfl, h1, h2⟩ := d
  by_cases q : y < x
  · exact g_st (fun X _ t kt => XS.icmpYes X.here C.1 rfl (pc0 := pc) (pc' := pct) rfl (hb C.2.2.2.1 d) rfl (tlt q).2.2.1 h1 h2 kt) (Gt q)
  · exact g_st (fun X _ t kt => XS.icmpNo X.here C.1 rfl (hb C.2.2.2.1 d) rfl (flt q).2.2.1 kt) (Gf q)
theorem g_if_gt (C : Cx p s m meth c Z n0 own bytes maxl ret nm) (d : Jm bytes pc (.ifCond .gt) pc' pct) {x : Int32} (Gt : 0 < x → Go p l e R s m args below meth c n0 Q K N h k n (mkF m pct Ls st)) (Gf : ¬ (0 < x) → Go p l e R s m args below meth c n0 Q K N h k n (mkF m pc' Ls st)) : Go p l e R s m args below meth c n0 Q K N h k n (mkF m pc Ls (.int x :: st)) := by
  obtain ⟨o, d, rfl, h1, h2⟩ := d
  by_cases q : 0 < x
  · exact g_st (fun X _ t kt => XS.ifYes X.here C.1 rfl (pc0 := pc) (pc' := pct) rfl (hb C.2.2.2.1 d) rfl ((if0 _ _).trans (tlt q).2.2.1) h1 h2 kt) (Gt q)
  · exact g_st (fun X _ t kt => XS.ifNo X.here C.1 rfl (hb C.2.2.2.1 d) rfl ((if0 _ _).trans (flt q).2.2.1) kt) (Gf q)
theorem g_lcmp_gt (C : Cx p s m meth c Z n0 own bytes maxl ret nm) {x y : Int64} (d1 : In bytes pc 1 .lcmp pc1) (d : Jm bytes pc1 (.ifCond .gt) pc' pct) (Gt : y < x → Go p l e R s m args below meth c n0 Q K N h k n (mkF m pct Ls st)) (Gf : ¬ (y < x) → Go p l e R s m args below meth c n0 Q K N h k n (mkF m pc' Ls st)) : Go p l e R s m args below meth c n0 Q K N h k n (mkF m pc Ls (.long y :: .long x :: st)) := by
  obtain ⟨d1, rfl⟩ := d1
  refine g_st (fun X _ t kt => XS.lcmp X.here C.1 rfl (hb C.2.2.2.1 d1) rfl kt) ?_
  exact g_if_gt C d (fun q => Gt ((lw_gt x y).mp q)) (fun q => Gf (fun z => q ((lw_gt x y).mpr z)))
theorem g_icmp_le (C : Cx p s m meth c Z n0 own bytes maxl ret nm) (d : Jm bytes pc (.if_icmp .le) pc' pct) {x y : Int32} (Gt : ¬ (y < x) → Go p l e R s m args below meth c n0 Q K N h k n (mkF m pct Ls st)) (Gf : y < x → Go p l e R s m args below meth c n0 Q K N h k n (mkF m pc' Ls st)) : Go p l e R s m args below meth c n0 Q K N h k n (mkF m pc Ls (.int y :: .int x :: st)) := by
  obtain ⟨o, d, rfl, h1, h2⟩ := d
  by_cases q : ¬ (y < x)
  · exact g_st (fun X _ t kt => XS.icmpYes X.here C.1 rfl (pc0 := pc) (pc' := pct) rfl (hb C.2.2.2.1 d) rfl (flt q).2.2.2 h1 h2 kt) (Gt q)
  · exact g_st (fun X _ t kt => XS.icmpNo X.here C.1 rfl (hb C.2.2.2.1 d) rfl (tlt (Decidable.not_not.mp q)).2.2.2 kt) (Gf (Decidable.not_not.mp q))
theorem g_if_le (C : Cx p s m meth c Z n0 own bytes maxl ret nm) (d : Jm bytes pc (.ifCond .le) pc' pct) {x : Int32} (Gt : ¬ (0 < x) → Go p l e R s m args below meth c n0 Q K N h k n (mkF m pct Ls st)) (Gf : 0 < x → Go p l e R s m args below meth c n0 Q K N h k n (mkF m pc' Ls st)) : Go p l e R s m args below meth c n0 Q K N h k n (mkF m pc Ls (.int x :: st)) := by
  obtain ⟨o, d, rfl, h1, h2⟩ := d
  by_cases q : ¬ (0 < x)
  · exact g_st (fun X _ t kt => XS.ifYes X.here C.1 rfl (pc0 := pc) (pc' := pct) rfl (hb C.2.2.2.1 d) rfl ((if0 _ _).trans (flt q).2.2.2) h1 h2 kt) (Gt q)
  · exact g_st (fun X _ t kt => XS.ifNo X.here C.1 rfl (hb C.2.2.2.1 d) rfl ((if0 _ _).trans (tlt (Decidable.not_not.mp q)).2.2.2) kt) (Gf (Decidable.not_not.mp q))
theorem g_lcmp_le (C : Cx p s m meth c Z n0 own bytes maxl ret nm) {x y : Int64} (d1 : In bytes pc 1 .lcmp pc1) (d : Jm bytes pc1 (.ifCond .le) pc' pct) (Gt : ¬ (y < x) → Go p l e R s m args below meth c n0 Q K N h k n (mkF m pct Ls st)) (Gf : y < x → Go p l e R s m args below meth c n0 Q K N h k n (mkF m pc' Ls st)) : Go p l e R s m args below meth c n0 Q K N h k n (mkF m pc Ls (.long y :: .long x :: st)) := by
  obtain ⟨d1, rfl⟩ := d1
  refine g_st (fun X _ t kt => XS.lcmp X.here C.1 rfl (hb C.2.2.2.1 d1) rfl kt) ?_
  exact g_if_le C d (fun q => Gt (fun z => q ((lw_gt x y).mpr z))) (fun q => Gf ((lw_gt x y).mp q))
theorem g_icmp_eq (C : Cx p s m meth c Z n0 own bytes maxl ret nm) (d : Jm bytes pc (.if_icmp .eq) pc' pct) {x y : Int32} (Gt : x = y → Go p l e R s m args below meth c n0 Q K N h k n (mkF m pct Ls st)) (Gf : ¬ (x = y) → Go p l e R s m args below meth c n0 Q K N h k n (mkF m pc' Ls st)) : Go p l e R s m args below meth c n0 Q K N h k n (mkF m pc Ls (.int y :: .int x :: st)) := by
  obtain ⟨o, d, rfl, h1, h2⟩ := d
  by_cases q : x = y
  · exact g_st (fun X _ t kt => XS.icmpYes X.here C.1 rfl (pc0 := pc) (pc' := pct) rfl (hb C.2.2.2.1 d) rfl (teq q).1 h1 h2 kt) (Gt q)
  · exact g_st (fun X _ t kt => XS.icmpNo X.here C.1 rfl (hb C.2.2.2.1 d) rfl (feq q).1 kt) (Gf q)
theorem g_if_eq (C : Cx p s m meth c Z n0 own bytes maxl ret nm) (d : Jm bytes pc (.ifCond .eq) pc' pct) {x : Int32} (Gt : x = 0 → Go p l e R s m args below meth c n0 Q K N h k n (mkF m pct Ls st)) (Gf : ¬ (x = 0) → Go p l e R s m args below meth c n0 Q K N h k n (mkF m pc' Ls st)) : Go p l e R s m args below meth c n0 Q K N h k n (mkF m pc Ls (.int x :: st)) := by
  obtain ⟨o, d, rfl, h1, h2⟩ := d
  by_cases q : x = 0
  · exact g_st (fun X _ t kt => XS.ifYes X.here C.1 rfl (pc0 := pc) (pc' := pct) rfl (hb C.2.2.2.1 d) rfl ((if0 _ _).trans (teq q).1) h1 h2 kt) (Gt q)
  · exact g_st (fun X _ t kt => XS.ifNo X.here C.1 rfl (hb C.2.2.2.1 d) rfl ((if0 _ _).trans (feq q).1) kt) (Gf q)
theorem g_lcmp_eq (C : Cx p s m meth c Z n0 own bytes maxl ret nm) {x y : Int64} (d1 : In bytes pc 1 .lcmp pc1) (d : Jm bytes pc1 (.ifCond .eq) pc' pct) (Gt : x = y → Go p l e R s m args below meth c n0 Q K N h k n (mkF m pct Ls st)) (Gf : ¬ (x = y) → Go p l e R s m args below meth c n0 Q K N h k n (mkF m pc' Ls st)) : Go p l e R s m args below meth c n0 Q K N h k n (mkF m pc Ls (.long y :: .long x :: st)) := by
  obtain ⟨d1, rfl⟩ := d1
  refine g_st (fun X _ t kt => XS.lcmp X.here C.1 rfl (hb C.2.2.2.1 d1) rfl kt) ?_
  exact g_if_eq C d (fun q => Gt ((lw_eq x y).mp q)) (fun q => Gf (fun z => q ((lw_eq x y).mpr z)))
theorem g_icmp_ne (C : Cx p s m meth c Z n0 own bytes maxl ret nm) (d : Jm bytes pc (.if_icmp .ne) pc' pct) {x y : Int32} (Gt : ¬ (x = y) → Go p l e R s m args below meth c n0 Q K N h k n (mkF m pct Ls st)) (Gf : x = y → Go p l e R s m args below meth c n0 Q K N h k n (mkF m pc' Ls st)) : Go p l e R s m args below meth c n0 Q K N h k n (mkF m pc Ls (.int y :: .int x :: st)) := by
  obtain ⟨o, d, rfl, h1, h2⟩ := d
  by_cases q : ¬ (x = y)
  · exact g_st (fun X _ t kt => XS.icmpYes X.here C.1 rfl (pc0 := pc) (pc' := pct) rfl (hb C.2.2.2.1 d) rfl (feq q).2 h1 h2 kt) (Gt q)
  · exact g_st (fun X _ t kt => XS.icmpNo X.here C.1 rfl (hb C.2.2.2.1 d) rfl (teq (Decidable.not_not.mp q)).2 kt) (Gf (Decidable.not_not.mp q))
theorem g_if_ne (C : Cx p s m meth c Z n0 own bytes maxl ret nm) (d : Jm bytes pc (.ifCond .ne) pc' pct) {x : Int32} (Gt : ¬ (x = 0) → Go p l e R s m args below meth c n0 Q K N h k n (mkF m pct Ls st)) (Gf : x = 0 → Go p l e R s m args below meth c n0 Q K N h k n (mkF m pc' Ls st)) : Go p l e R s m args below meth c n0 Q K N h k n (mkF m pc Ls (.int x :: st)) := by
  obtain ⟨o, d, rfl, h1, h2⟩ := d
  by_cases q : ¬ (x = 0)
  · exact g_st (fun X _ t kt => XS.ifYes X.here C.1 rfl (pc0 := pc) (pc' := pct) rfl (hb C.2.2.2.1 d) rfl ((if0 _ _).trans (feq q).2) h1 h2 kt) (Gt q)
  · exact g_st (fun X _ t kt => XS.ifNo X.here C.1 rfl (hb C.2.2.2.1 d) rfl ((if0 _ _).trans (teq (Decidable.not_not.mp q)).2) kt) (Gf (Decidable.not_not.mp q))
theorem g_lcmp_ne (C : Cx p s m meth c Z n0 own bytes maxl ret nm) {x y : Int64} (d1 : In bytes pc 1 .lcmp pc1) (d : Jm bytes pc1 (.ifCond .ne) pc' pct) (Gt : ¬ (x = y) → Go p l e R s m args below meth c n0 Q K N h k n (mkF m pct Ls st)) (Gf : x = y → Go p l e R s m args below meth c n0 Q K N h k n (mkF m pc' Ls st)) : Go p l e R s m args below meth c n0 Q K N h k n (mkF m pc Ls (.long y :: .long x :: st)) := by
  obtain ⟨d1, rfl⟩ := d1
  refine g_st (fun X _ t kt => XS.lcmp X.here C.1 rfl (hb C.2.2.2.1 d1) rfl kt) ?_
  exact g_if_ne C d (fun q => Gt (fun z => q ((lw_eq x y).mpr z))) (fun q => Gf ((lw_eq x y).mp q))
theorem g_ldc2 (C : Cx p s m meth c Z n0 own bytes maxl ret nm) {i : Nat} {v : Int64} (w : (Cond.constantLong own i v).before a0 Z = true) (d : In bytes pc 3 (.ldc2_w i) pc') (G : Go p l e R s m args below meth c n0 Q K N h k n (mkF m pc' Ls (.long v :: st))) : Go p l e R s m args below meth c n0 Q K N h k n (mkF m pc Ls st) := by
  obtain ⟨d, rfl⟩ := d
  exact g_st (fun X _ t kt => X.ldc2Long C.1 C.2.2.1 (mvT C.2.1 w) (g := mkF m pc Ls st) rfl (hb C.2.2.2.1 d) _ kt) G
theorem g_ldc (C : Cx p s m meth c Z n0 own bytes maxl ret nm) {i : Nat} {v : Int32} (w : (Cond.constant own i v).before a0 Z = true) (d : In bytes pc 2 (.ldc i) pc') (G : Go p l e R s m args below meth c n0 Q K N h k n (mkF m pc' Ls (.int v :: st))) : Go p l e R s m args below meth c n0 Q K N h k n (mkF m pc Ls st) := by
  obtain ⟨d, rfl⟩ := d
  exact g_st (fun X _ t kt => X.ldcInt C.1 C.2.2.1 (mvT C.2.1 w) (g := mkF m pc Ls st) rfl (hb C.2.2.2.1 d) _ kt) G
theorem g_getF (C : Cx p s m meth c Z n0 own bytes maxl ret nm) {i : Nat} {O f ds : String} (w : (Cond.fieldLink own i O f ds).before a0 Z = true) (d : In bytes pc 3 (.getfield i) pc') {a : Addr} {v : Value} (F : Fld Z h a O f ds v) (G : Go p l e R s m args below meth c n0 Q K N h k n (mkF m pc' Ls (v :: st))) : Go p l e R s m args below meth c n0 Q K N h k n (mkF m pc Ls (.ref a :: st)) := by
  obtain ⟨d, rfl⟩ := d
  intro T L hL X eT
  obtain ⟨T', X', e', st'⟩ := getF X C.1 C.2.1 C.2.2.1 (host := "") (Or.inl w) Via.refl eT F (g := mkF m pc Ls (.ref a :: st)) rfl rfl (hb C.2.2.2.1 d)
  obtain ⟨t, o, h1, h2⟩ := G T' L hL X' e'
  exact ⟨t, o, st' t h1, h2⟩
theorem g_putF (C : Cx p s m meth c Z n0 own bytes maxl ret nm) {i kk : Nat} {O f ds K' : String} {ty : FieldType} (w : (Cond.fieldLink own i O f ds).before a0 Z = true) (d : In bytes pc 3 (.putfield i) pc') {a : Addr} {v v' old : Value} (F : Fld Z h a O f ds old) (E : Exa Z h a K')
    (L : (Cond.lays K' O f ds).before a0 Z = true ∨ ((Cond.laysFinal K' O f ds).before a0 Z = true ∧ own = O ∧ nm = "<init>")) (wi : (Cond.instantiable K' kk).before a0 Z = true) (hty : parseFieldDescriptor ds = some ty) (hn : narrow ty v = v') (hf : fits ty v' = true) (ge : n0 ≤ a)
    (G : ∀ h', Wr h h' a (Jvm.RoadKit.slotOf Z O f ds) v' → Go p l e R s m args below meth c n0 Q K N h' k n (mkF m pc' Ls st)) : Go p l e R s m args below meth c n0 Q K N h k n (mkF m pc Ls (v :: .ref a :: st)) := by
  obtain ⟨d, rfl⟩ := d
  intro T Lo hL X eT
  have L' : (Cond.lays K' O f ds).before a0 Z = true ∨ ((Cond.laysFinal K' O f ds).before a0 Z = true ∧ own = O ∧ meth.name = "<init>") := L.imp id fun q => ⟨q.1, q.2.1, C.2.2.2.2.2.2.2.1.trans q.2.2⟩
  obtain ⟨T', h', X', e', W', st'⟩ := putFN X C.1 C.2.1 C.2.2.1 w Via.refl eT F E L' wi hty hn hf (g := mkF m pc Ls (v :: .ref a :: st)) rfl rfl (hb C.2.2.2.1 d)
  obtain ⟨t, o, h1, h2⟩ := G h' W' T' _ (Fr.snoc X' hL ge) X' e'
  exact ⟨t, o, st' t h1, h2⟩
theorem g_new (C : Cx p s m meth c Z n0 own bytes maxl ret nm) {i sz : Nat} {K' : String} (w : (Cond.classLink own i K').before a0 Z = true) (wi : (Cond.instantiable K' sz).before a0 Z = true) (wz : (Cond.initialized K').before a0 Z = true) (d : In bytes pc 3 (.new i) pc') (hc : k + 1 ≤ R.cells) (hl : n + sz ≤ R.slots)
    (G : ∀ h' a, n0 ≤ a → a = h.size → Ext h h' → Exa Z h' a K' → (∀ {O f ds : String} {ty : FieldType}, Laid Z a0 K' O f ds → parseFieldDescriptor ds = some ty → Fld Z h' a O f ds (defaultValue ty)) → Go p l e R s m args below meth c n0 Q K N h' (k + 1) (n + sz) (mkF m pc' Ls (.ref a :: st))) : Go p l e R s m args below meth c n0 Q K N h k n (mkF m pc Ls st) := by
  obtain ⟨d, rfl⟩ := d
  intro T Lo hL X eT
  have ge : n0 ≤ h.size := Nat.le_trans C.2.2.2.2.2.2.2.2 (eT ▸ Stand.up X)
  obtain ⟨T', h', X', e', E', A', D', -, st'⟩ := newO X C.1 C.2.1 C.2.2.1 w wi wz eT (g := mkF m pc Ls st) rfl (hb C.2.2.2.1 d) hc hl
  obtain ⟨t, o, h1, h2⟩ := G h' h.size ge rfl E' A' D' T' _ hL X' e'
  exact ⟨t, o, st' t h1, h2⟩
theorem g_newarr (C : Cx p s m meth c Z n0 own bytes maxl ret nm) {aty : ArrayType} (w : (Cond.arrayClass (newarray.typeOf aty)).before a0 Z = true) (d : In bytes pc 2 (.newarray aty) pc') {z : Int32} (hz : ¬ z < 0) (cap : Nat) (hcap : z.toNatClampNeg ≤ cap) (hb8 : cap * 8 ≤ 536870912) (hc : k + 1 ≤ R.cells) (hl : n + cap ≤ R.slots)
    (G : ∀ h' a kA, n0 ≤ a → a = h.size → Ext h h' → Arr Z h' a (newA kA (newarray.typeOf aty) z) (newarray.typeOf aty) → Go p l e R s m args below meth c n0 Q K N h' (k + 1) (n + cap) (mkF m pc' Ls (.ref a :: st))) : Go p l e R s m args below meth c n0 Q K N h k n (mkF m pc Ls (.int z :: st)) := by
  obtain ⟨d, rfl⟩ := d
  intro T Lo hL X eT
  have ge : n0 ≤ h.size := Nat.le_trans C.2.2.2.2.2.2.2.2 (eT ▸ Stand.up X)
  obtain ⟨T', h', kA, X', e', E', A', st'⟩ := newP X C.1 C.2.1 w eT (g := mkF m pc Ls (.int z :: st)) rfl (hb C.2.2.2.1 d) rfl hz hcap hb8 hc hl
  obtain ⟨t, o, h1, h2⟩ := G h' h.size kA ge rfl E' A' T' _ hL X' e'
  exact ⟨t, o, st' t h1, h2⟩
theorem g_initO (C : Cx p s m meth c Z n0 own bytes maxl ret nm) {i : Nat} (w1 : (Cond.methodLink own i Lib.objectInit).before a0 Z = true) (w2 : (Cond.instanceMethod Lib.objectInit).before a0 Z = true) (w3 : (Cond.code Lib.objectInit ⟨#[0xb1]⟩ 1 none).before a0 Z = true) (d : In bytes pc 3 (.invokespecial i) pc') (hsz : Ls.size = maxl) {a : Addr} (hf : 1 ≤ R.frames) (W : Nat) (hW : (st.map fun v => v.category).sum ≤ W) (hl : W + 12 ≤ R.locals) (G : Go p l e R s m args below meth c n0 Q K N h k n (mkF m pc' Ls st)) : Go p l e R s m args below meth c n0 Q K N h k n (mkF m pc Ls (.ref a :: st)) := by
  obtain ⟨d, rfl⟩ := d
  intro T L hL X eT
  obtain ⟨T', X', e', st'⟩ := initO X C.1 C.2.1 C.2.2.1 w1 w2 w3 eT (g := mkF m pc Ls (.ref a :: st)) rfl (by rw [C.2.2.2.2.1]; exact hsz) rfl (hb C.2.2.2.1 d) hf (W := W) (by show 2 * 0 + _ ≤ _; omega) hl
  obtain ⟨t, o, h1, h2⟩ := G T' L hL X' e'
  exact ⟨t, o, st' t h1, h2⟩
theorem g_retI (C : Cx p s m meth c Z n0 own bytes maxl (some .int) nm) (d : In bytes pc 1 .ireturn pc') {z : Int32} (hk : k ≤ K) (hn : n ≤ N) (q : Q (some (.int z)) h) : Go p l e R s m args below meth c n0 Q K N h k n (mkF m pc Ls ([.int z])) := by
  obtain ⟨d, rfl⟩ := d
  intro T L hL X eT
  have hlk : meth.locks = false := C.2.2.2.2.2.2.1
  obtain ⟨fs, hr, hrun, hended, hW, hsame⟩ := X.leave (v := some (.int z)) (fun h => by rw [C.2.2.2.2.2.1] at h; cases h) hlk
  refine ⟨_, _, X.ireturnOut C.1 C.2.2.2.2.2.1 rfl (Or.inl rfl) (hb C.2.2.2.1 d) hr, hrun, hended, _, _, rfl, ⟨?_, hL⟩, ⟨_, rfl⟩, hW, hsame.mono hk hn⟩
  show Q _ T.heap
  rw [eT]; exact q
theorem g_retJ (C : Cx p s m meth c Z n0 own bytes maxl (some .long) nm) (d : In bytes pc 1 .lreturn pc') {z : Int64} (hk : k ≤ K) (hn : n ≤ N) (q : Q (some (.long z)) h) : Go p l e R s m args below meth c n0 Q K N h k n (mkF m pc Ls ([.long z])) := by
  obtain ⟨d, rfl⟩ := d
  intro T L hL X eT
  have hlk : meth.locks = false := C.2.2.2.2.2.2.1
  obtain ⟨fs, hr, hrun, hended, hW, hsame⟩ := X.leave (v := some (.long z)) (fun h => by rw [C.2.2.2.2.2.1] at h; cases h) hlk
  refine ⟨_, _, X.lreturnOut C.1 C.2.2.2.2.2.1 (hb C.2.2.2.1 d) hr, hrun, hended, _, _, rfl, ⟨?_, hL⟩, ⟨_, rfl⟩, hW, hsame.mono hk hn⟩
  show Q _ T.heap
  rw [eT]; exact q
theorem g_retZ (C : Cx p s m meth c Z n0 own bytes maxl (some .boolean) nm) (d : In bytes pc 1 .ireturn pc') {z : Int32} (hk : k ≤ K) (hn : n ≤ N) (q : Q (some (.int (z &&& 1))) h) : Go p l e R s m args below meth c n0 Q K N h k n (mkF m pc Ls ([.int z])) := by
  obtain ⟨d, rfl⟩ := d
  intro T L hL X eT
  have hlk : meth.locks = false := C.2.2.2.2.2.2.1
  obtain ⟨fs, hr, hrun, hended, hW, hsame⟩ := X.leave (v := some (.int (z &&& 1))) (fun h => by rw [C.2.2.2.2.2.1] at h; cases h) hlk
  refine ⟨_, _, retN X C.1 (t := .boolean) C.2.2.2.2.2.1 (by simp) (hb C.2.2.2.1 d) hr, hrun, hended, _, _, rfl, ⟨?_, hL⟩, ⟨_, rfl⟩, hW, hsame.mono hk hn⟩
  show Q _ T.heap
  rw [eT]; exact q
theorem g_retA (C : Cx p s m meth c Z n0 own bytes maxl ret nm) {ty : FieldType} (hret : ret = some ty) (hty : ty.isReference = true) (d : In bytes pc 1 .areturn pc') {z : Value} (hz : z.isRef = true) (hk : k ≤ K) (hn : n ≤ N) (q : Q (some z) h) : Go p l e R s m args below meth c n0 Q K N h k n (mkF m pc Ls ([z])) := by
  obtain ⟨d, rfl⟩ := d
  subst hret
  intro T L hL X eT
  have hlk : meth.locks = false := C.2.2.2.2.2.2.1
  obtain ⟨fs, hr, hrun, hended, hW, hsame⟩ := X.leave (v := some z) (fun h => by rw [C.2.2.2.2.2.1] at h; cases h) hlk
  refine ⟨_, _, X.areturnOut C.1 hz C.2.2.2.2.2.1 hty (hb C.2.2.2.1 d) hr, hrun, hended, _, _, rfl, ⟨?_, hL⟩, ⟨_, rfl⟩, hW, hsame.mono hk hn⟩
  show Q _ T.heap
  rw [eT]; exact q
theorem g_ret (C : Cx p s m meth c Z n0 own bytes maxl none nm) (d : In bytes pc 1 .return_ pc') (hk : k ≤ K) (hn : n ≤ N) (q : Q none h) : Go p l e R s m args below meth c n0 Q K N h k n (mkF m pc Ls []) := by
  obtain ⟨d, rfl⟩ := d
  intro T L hL X eT
  have hlk : meth.locks = false := C.2.2.2.2.2.2.1
  obtain ⟨fs, hr, hrun, hended, hW, hsame⟩ := X.leave (v := none) (fun _ => rfl) hlk
  refine ⟨_, _, X.returnOut C.1 C.2.2.2.2.2.1 (hb C.2.2.2.1 d) hr, hrun, hended, _, _, rfl, ⟨?_, hL⟩, ⟨_, rfl⟩, hW, hsame.mono hk hn⟩
  show Q _ T.heap
  rw [eT]; exact q
/-- a method's contract: called with 'as' at a heap h0 it comes back so -/
abbrev Con (l : Launch) (Z : State) (y : MethodName) (bytes : ByteArray) (maxl : Nat) (ret : Option FieldType) (rm : Room) (ws : List Jvm.Cond) (as : Array Value) (h0 : Heap) (n0 : Nat) (Q : Option Value → Heap → Prop) : Prop :=
  MetFree l y (head1 (Jvm.Cond.code y bytes maxl ret :: ws) rm) (fun a U => a = as ∧ Z.Warmed39 U.vm ∧ U.heap = h0) (fun _ _ _ _ _ => True) (fun _ U o U' => ∃ v L, o = .returned v ∧ (Q v U'.heap ∧ Fr n0 L) ∧ FrameEnd U o U' L rm.cells rm.slots)
theorem con_of {y : MethodName} {rm : Room} {ws : List Jvm.Cond} {as : Array Value} {h0 : Heap} {Ls0 : Array Slot} (hpl : plainFor y = true) (he : ∀ m, entryFrame m as maxl = mkF m 0 Ls0 []) (hn0 : n0 ≤ h0.size)
    (B : ∀ (p : Program) (e : Env) (s : State) (m : MethodId) (below : List Frame) (meth : Method) (c : ClassFile.Code), Cx p s m meth c Z n0 y.cls bytes maxl ret y.name → Go p l e rm s m as below meth c n0 Q rm.cells rm.slots h0 0 0 (mkF m 0 Ls0 [])) : Con l Z y bytes maxl ret rm ws as h0 n0 Q := by
  refine MetFree.of_bodySF hpl hisR ?_
  intro p e s m args below meth c s₁ Bd hml0 hP hK
  obtain ⟨rfl, hZ, hh⟩ := hP
  have hlk : meth.locks = false := BodyLoose.notSynchronized Bd
  have X0 : Stand p l e rm s m _ below meth c s₁ [] 0 0 := Stand.of_body Bd
  have e0 : s₁.heap = h0 := by rw [← hh, Bd.state]; rfl
  obtain ⟨t, o, h1, h2, h3, v, L, h4, h5, h6⟩ := B p e s m below meth c ⟨Bd.exec, hZ, findClass_of_methodNamed Bd.named, Bd.bytes, hml0, Bd.returns, hlk, (name_of_methodNamed Bd.named Bd.method).1, by rw [hh]; exact hn0⟩ s₁ [] (Fr.nil n0) X0 e0
  exact ⟨t, o, castTop (he m) h1, h2, h3, v, L, h4, h5, h6⟩
theorem g_callS (C : Cx p s m meth c Z n0 own bytes maxl ret nm) {y : MethodName} {by' : ByteArray} {ml : Nat} {rt : Option FieldType} {rm : Room} {as : Array Value} {Q' : Option Value → Heap → Prop} (con : Con l Z y by' ml rt rm [] as h n0 Q') {i : Nat} (w1 : (Cond.methodLink own i y).before a0 Z = true) (w2 : (Cond.static y).before a0 Z = true) (w3 : (Cond.initialized y.cls).before a0 Z = true) (w4 : (Cond.code y by' ml rt).before a0 Z = true) (hy : y.cls ≠ "java/lang/invoke/MethodHandle" ∧ y.cls ≠ "java/lang/invoke/VarHandle")
    (d : In bytes pc 3 (.invokestatic i) pc') {ps : List FieldType} {r : Option FieldType} (hpd : parseMethodDescriptor y.desc = some ⟨ps, r⟩) (argsL rest : List Value) (has : as = argsL.toArray) (hlen : argsL.length = ps.length) (hsz : Ls.size = maxl) (W : Nat) (hW : (rest.map fun v => v.category).sum ≤ W) (r1 : rm.frames + 1 ≤ R.frames) (r2 : W + (ml + 11) + rm.locals ≤ R.locals) (r3 : k + rm.cells ≤ R.cells) (r4 : n + rm.slots ≤ R.slots)
    (G : ∀ v h', Q' v h' → Go p l e R s m args below meth c n0 Q K N h' (k + rm.cells) (n + rm.slots) (mkF m pc' Ls (v.toList ++ rest))) : Go p l e R s m args below meth c n0 Q K N h k n (mkF m pc Ls (argsL.reverse ++ rest)) := by
  obtain ⟨d, rfl⟩ := d
  intro T L hL X eT
  obtain ⟨v, vm₁, ⟨T', L2, k2, n2⟩, -, X', ⟨Lc, hQ, l2, y2, z2⟩, st'⟩ := Jvm.LawKit.callS X C.1 (y := y) C.2.2.1 (mvT C.2.1 w1) (mvT C.2.1 w2) (mvT C.2.1 w3) (mvT C.2.1 w4) hy (backOf (W := W) (Q := fun v h L => Q' v h ∧ Fr n0 L) con C.2.1 w4 w3 r1 r2) (g := mkF m pc Ls (argsL.reverse ++ rest)) rfl (by rw [C.2.2.2.2.1]; exact hsz) (argsL := argsL) (rest := rest) (lenOf hpd hlen) rfl (by show 2 * 0 + _ ≤ _; omega) (hb C.2.2.2.1 d) (fun _ _ => ⟨has.symm, eT, r3, r4⟩)
  dsimp only [Pt.U, Pt.locs, Pt.cells, Pt.slots] at X' l2 y2 z2 st' hQ
  subst l2 y2 z2
  obtain ⟨t, o, h1, h2⟩ := G v T'.heap hQ.1 T' _ (Fr.app hL hQ.2) X' rfl
  exact ⟨t, o, st' t h1, h2⟩
theorem g_callI (C : Cx p s m meth c Z n0 own bytes maxl ret nm) {y : MethodName} {by' : ByteArray} {ml : Nat} {rm : Room} {as : Array Value} {Q' : Option Value → Heap → Prop} (con : Con l Z y by' ml none rm [] as h n0 Q') {i : Nat} (hini : y.name = "<init>") (w1 : (Cond.methodLink own i y).before a0 Z = true) (w2 : (Cond.instanceMethod y).before a0 Z = true) (w3 : (Cond.initialized y.cls).before a0 Z = true) (w4 : (Cond.code y by' ml none).before a0 Z = true) (hy : y.cls ≠ "java/lang/invoke/MethodHandle" ∧ y.cls ≠ "java/lang/invoke/VarHandle")
    (d : In bytes pc 3 (.invokespecial i) pc') {ps : List FieldType} {r : Option FieldType} (hpd : parseMethodDescriptor y.desc = some ⟨ps, r⟩) {a : Addr} (argsL rest : List Value) (has : as = (.ref a :: argsL).toArray) (hlen : argsL.length = ps.length) (hsz : Ls.size = maxl) (W : Nat) (hW : (rest.map fun v => v.category).sum ≤ W) (r1 : rm.frames + 1 ≤ R.frames) (r2 : W + (ml + 11) + rm.locals ≤ R.locals) (r3 : k + rm.cells ≤ R.cells) (r4 : n + rm.slots ≤ R.slots)
    (G : ∀ v h', Q' v h' → Go p l e R s m args below meth c n0 Q K N h' (k + rm.cells) (n + rm.slots) (mkF m pc' Ls (v.toList ++ rest))) : Go p l e R s m args below meth c n0 Q K N h k n (mkF m pc Ls (argsL.reverse ++ .ref a :: rest)) := by
  obtain ⟨d, rfl⟩ := d
  intro T L hL X eT
  obtain ⟨v, vm₁, ⟨T', L2, k2, n2⟩, -, X', ⟨Lc, hQ, l2, y2, z2⟩, st'⟩ := X.specialBack C.1 (y := y) hini C.2.2.1 (mvT C.2.1 w1) (mvT C.2.1 w2) (mvT C.2.1 w4) hy (backOf (W := W) (Q := fun v h L => Q' v h ∧ Fr n0 L) con C.2.1 w4 w3 r1 r2) (g := mkF m pc Ls (argsL.reverse ++ .ref a :: rest)) rfl (by rw [C.2.2.2.2.1]; exact hsz) (Steps.refl _) (a := a) (argsL := argsL) (rest := rest) (lenOf hpd hlen) rfl (by show 2 * 0 + _ ≤ _; omega) (hb C.2.2.2.1 d) (fun _ _ => ⟨has.symm, eT, r3, r4⟩)
  dsimp only [Pt.U, Pt.locs, Pt.cells, Pt.slots] at X' l2 y2 z2 st' hQ
  subst l2 y2 z2
  obtain ⟨t, o, h1, h2⟩ := G v T'.heap hQ.1 T' _ (Fr.app hL hQ.2) X' rfl
  exact ⟨t, o, st'.trans h1, h2⟩
theorem g_callV (C : Cx p s m meth c Z n0 own bytes maxl ret nm) {y : MethodName} {by' : ByteArray} {ml : Nat} {rt : Option FieldType} {rm : Room} {as : Array Value} {Q' : Option Value → Heap → Prop} (con : Con l Z y by' ml rt rm [] as h n0 Q') {i : Nat} (w1 : (Cond.methodLink own i y).before a0 Z = true) (w2 : (Cond.declares y).before a0 Z = true) (w5 : (Cond.instanceMethod y).before a0 Z = true) {K' : String} (w6 : (Cond.selects K' y y).before a0 Z = true) (w3 : (Cond.initialized y.cls).before a0 Z = true) (w4 : (Cond.code y by' ml rt).before a0 Z = true) (hy : y.cls ≠ "java/lang/invoke/MethodHandle" ∧ y.cls ≠ "java/lang/invoke/VarHandle")
    (d : In bytes pc 3 (.invokevirtual i) pc') {ps : List FieldType} {r : Option FieldType} (hpd : parseMethodDescriptor y.desc = some ⟨ps, r⟩) {a : Addr} (E : Exa Z h a K') (argsL rest : List Value) (has : as = (.ref a :: argsL).toArray) (hlen : argsL.length = ps.length) (hsz : Ls.size = maxl) (W : Nat) (hW : (rest.map fun v => v.category).sum ≤ W) (r1 : rm.frames + 1 ≤ R.frames) (r2 : W + (ml + 11) + rm.locals ≤ R.locals) (r3 : k + rm.cells ≤ R.cells) (r4 : n + rm.slots ≤ R.slots)
    (G : ∀ v h', Q' v h' → Go p l e R s m args below meth c n0 Q K N h' (k + rm.cells) (n + rm.slots) (mkF m pc' Ls (v.toList ++ rest))) : Go p l e R s m args below meth c n0 Q K N h k n (mkF m pc Ls (argsL.reverse ++ .ref a :: rest)) := by
  obtain ⟨d, rfl⟩ := d
  intro T L hL X eT
  obtain ⟨cq, kq, q1, q2, q3⟩ := isOf C.2.1 eT E
  obtain ⟨v, vm₁, ⟨T', L2, k2, n2⟩, -, X', ⟨Lc, hQ, l2, y2, z2⟩, st'⟩ := X.virtualBack C.1 (y := y) (z := y) C.2.2.1 (mvT C.2.1 w1) (mvT C.2.1 w2) (notFace_of_selects (args := #[]) (mvT C.2.1 w6)) (mvT C.2.1 w6) (mvT C.2.1 w5) hy (backOf (W := W) (Q := fun v h L => Q' v h ∧ Fr n0 L) con C.2.1 w4 w3 r1 r2) q1 q3 (g := mkF m pc Ls (argsL.reverse ++ .ref a :: rest)) rfl (by rw [C.2.2.2.2.1]; exact hsz) (Steps.refl _) (argsL := argsL) (rest := rest) (lenOf hpd hlen) rfl (by show 2 * 0 + _ ≤ _; omega) (hb C.2.2.2.1 d) (fun _ _ => ⟨has.symm, eT, r3, r4⟩)
  dsimp only [Pt.U, Pt.locs, Pt.cells, Pt.slots] at X' l2 y2 z2 st' hQ
  subst l2 y2 z2
  obtain ⟨t, o, h1, h2⟩ := G v T'.heap hQ.1 T' _ (Fr.app hL hQ.2) X' rfl
  exact ⟨t, o, st'.trans h1, h2⟩
theorem g_callP (C : Cx p s m meth c Z n0 own bytes maxl ret nm) {y : MethodName} {by' : ByteArray} {ml : Nat} {rt : Option FieldType} {rm : Room} {as : Array Value} {Q' : Option Value → Heap → Prop} (con : Con l Z y by' ml rt rm [] as h n0 Q') {i : Nat} (w1 : (Cond.methodLink own i y).before a0 Z = true) (w5 : (Cond.instanceMethod y).before a0 Z = true) (w6 : (Cond.selects y.cls y y).before a0 Z = true) (w7 : (Cond.privateMethod y).before a0 Z = true) (w3 : (Cond.initialized y.cls).before a0 Z = true) (w4 : (Cond.code y by' ml rt).before a0 Z = true) (hy : y.cls ≠ "java/lang/invoke/MethodHandle" ∧ y.cls ≠ "java/lang/invoke/VarHandle")
    (d : In bytes pc 3 (.invokevirtual i) pc') {ps : List FieldType} {r : Option FieldType} (hpd : parseMethodDescriptor y.desc = some ⟨ps, r⟩) {a : Addr} {K' : String} (E : Exa Z h a K') (argsL rest : List Value) (has : as = (.ref a :: argsL).toArray) (hlen : argsL.length = ps.length) (hsz : Ls.size = maxl) (W : Nat) (hW : (rest.map fun v => v.category).sum ≤ W) (r1 : rm.frames + 1 ≤ R.frames) (r2 : W + (ml + 11) + rm.locals ≤ R.locals) (r3 : k + rm.cells ≤ R.cells) (r4 : n + rm.slots ≤ R.slots)
    (G : ∀ v h', Q' v h' → Go p l e R s m args below meth c n0 Q K N h' (k + rm.cells) (n + rm.slots) (mkF m pc' Ls (v.toList ++ rest))) : Go p l e R s m args below meth c n0 Q K N h k n (mkF m pc Ls (argsL.reverse ++ .ref a :: rest)) := by
  obtain ⟨d, rfl⟩ := d
  intro T L hL X eT
  obtain ⟨cq, q1, q2⟩ := E.cell
  obtain ⟨v, vm₁, ⟨T', L2, k2, n2⟩, -, X', ⟨Lc, hQ, l2, y2, z2⟩, st'⟩ := X.privateBack C.1 (y := y) C.2.2.1 (mvT C.2.1 w1) (mvT C.2.1 w5) (mvT C.2.1 w6) (Cond.privateMethod_at (mvP C.2.1 w7 (args := #[]))) (mvT C.2.1 w4) hy (backOf (W := W) (Q := fun v h L => Q' v h ∧ Fr n0 L) con C.2.1 w4 w3 r1 r2) (g := mkF m pc Ls (argsL.reverse ++ .ref a :: rest)) rfl (by rw [C.2.2.2.2.1]; exact hsz) (Steps.refl _) (a := a) (by rw [eT]; exact q1) q2 (argsL := argsL) (rest := rest) (lenOf hpd hlen) rfl (by show 2 * 0 + _ ≤ _; omega) (hb C.2.2.2.1 d) (fun _ _ => ⟨has.symm, eT, r3, r4⟩)
  dsimp only [Pt.U, Pt.locs, Pt.cells, Pt.slots] at X' l2 y2 z2 st' hQ
  subst l2 y2 z2
  obtain ⟨t, o, h1, h2⟩ := G v T'.heap hQ.1 T' _ (Fr.app hL hQ.2) X' rfl
  exact ⟨t, o, st'.trans h1, h2⟩
/-- an array of z places at a, whose contents are f -/
def LArr (Z : State) (h : Heap) (a : Addr) (z : Nat) (f : Nat → Int64) : Prop := ∃ c : Cell, Arr Z h a c .long ∧ c.slots.size = z ∧ z < 2 ^ 31 ∧ ∀ i, i < z → c.slots[i]? = some (.long (f i))
theorem LArr.lt {a : Addr} {z : Nat} {f : Nat → Int64} (A : LArr Z h a z f) : a < h.size := by obtain ⟨c, A, -⟩ := A; exact A.lt
theorem LArr.ext {h' : Heap} {a : Addr} {z : Nat} {f : Nat → Int64} (A : LArr Z h a z f) (E : Ext h h') : LArr Z h' a z f := by obtain ⟨c, A, r⟩ := A; exact ⟨c, A.ext E, r⟩
theorem LArr.other {h' : Heap} {a b : Addr} {sl : Nat} {v : Value} {z : Nat} {f : Nat → Int64} (A : LArr Z h b z f) (W : Wr h h' a sl v) (q : b ≠ a) : LArr Z h' b z f := by obtain ⟨c, A, r⟩ := A; exact ⟨c, A.other W q, r⟩
theorem LArr.keep {h' : Heap} {a : Addr} {ws : List Addr} {z : Nat} {f : Nat → Int64} (A : LArr Z h a z f) (K : Keep h h' ws) (q : a ∉ ws) : LArr Z h' a z f := by obtain ⟨c, A, r⟩ := A; exact ⟨c, ⟨K.2.1 a c A.1 q, A.2⟩, r⟩
theorem LArr.congr {a : Addr} {z : Nat} {f g : Nat → Int64} (A : LArr Z h a z f) (q : ∀ i, i < z → g i = f i) : LArr Z h a z g := by obtain ⟨c, A, r1, r2, r3⟩ := A; exact ⟨c, A, r1, r2, fun i hi => by rw [q i hi]; exact r3 i hi⟩
theorem LArr.new {a : Addr} {kA : ClassId} {z : Int32} (A : Arr Z h a (newA kA .long z) .long) : LArr Z h a z.toNatClampNeg (fun _ => 0) :=
  ⟨_, A, sz_new _ _ _, z.toNatClampNeg_lt, fun i hi => by simp [newA, hi, defaultValue]⟩
theorem LArr.set {h' : Heap} {a : Addr} {z j : Nat} {x : Int64} {f : Nat → Int64} (A : LArr Z h a z f) (W : Wr h h' a j (.long x)) : LArr Z h' a z (fun i => if i = j then x else f i) := by
  obtain ⟨c, A, r1, r2, r3⟩ := A
  refine ⟨_, A.same W, by simp [Cell.setSlot, r1], r2, fun i hi => ?_⟩
  by_cases q : i = j
  · subst q
    simp [Cell.setSlot, r1, hi]
  · simp only [q, if_false]
    rw [← r3 i hi]
    exact Array.getElem?_setIfInBounds_ne (Ne.symm q)
theorem g_laload (C : Cx p s m meth c Z n0 own bytes maxl ret nm) (d : In bytes pc 1 .laload pc') {a : Addr} {z : Nat} {f : Nat → Int64} {j : Int32} (A : LArr Z h a z f) (h1 : 0 ≤ j.toInt) (h2 : j.toInt < z) (v : Int64) (hv : f j.toInt.toNat = v) (G : Go p l e R s m args below meth c n0 Q K N h k n (mkF m pc' Ls (.long v :: st))) : Go p l e R s m args below meth c n0 Q K N h k n (mkF m pc Ls (.int j :: .ref a :: st)) := by
  obtain ⟨d, rfl⟩ := d
  obtain ⟨cl, A, r1, r2, r3⟩ := A
  have e1 : j.toNatClampNeg = j.toInt.toNat := rfl
  have hj : ¬ (j < 0 ∨ cl.slots.size ≤ j.toNatClampNeg) := by
    rw [Int32.lt_iff_toInt_lt, show (0 : Int32).toInt = 0 from rfl, r1, e1]; omega
  have hat : cl.slots[j.toNatClampNeg]? = some (.long v) := by rw [← hv, e1]; exact r3 _ (by omega)
  exact g_st (fun X eT t kt => X.laload C.1 (j := j) (v := .long v) (by rw [eT]; exact A.1) (State.isArrayOf_alike C.2.1.alike A.2.1) A.2.2 hj hat (g := mkF m pc Ls (.int j :: .ref a :: st)) rfl rfl (hb C.2.2.2.1 d) _ kt) G
theorem g_lastore (C : Cx p s m meth c Z n0 own bytes maxl ret nm) (d : In bytes pc 1 .lastore pc') {a : Addr} {z : Nat} {f : Nat → Int64} {j : Int32} {x : Int64} (A : LArr Z h a z f) (h1 : 0 ≤ j.toInt) (h2 : j.toInt < z) (ge : n0 ≤ a) (G : ∀ h', Wr h h' a j.toInt.toNat (.long x) → Go p l e R s m args below meth c n0 Q K N h' k n (mkF m pc' Ls st)) : Go p l e R s m args below meth c n0 Q K N h k n (mkF m pc Ls (.long x :: .int j :: .ref a :: st)) := by
  obtain ⟨d, rfl⟩ := d
  obtain ⟨cl, A, r1, r2, r3⟩ := A
  have e1 : j.toNatClampNeg = j.toInt.toNat := rfl
  have hj : ¬ (j < 0 ∨ cl.slots.size ≤ j.toNatClampNeg) := by
    rw [Int32.lt_iff_toInt_lt, show (0 : Int32).toInt = 0 from rfl, r1, e1]; omega
  intro T L hL X eT
  obtain ⟨T', h', X', e', W', st'⟩ := stJ X C.1 C.2.1 eT A (j := j) hj (g := mkF m pc Ls (.long x :: .int j :: .ref a :: st)) rfl rfl (hb C.2.2.2.1 d)
  obtain ⟨t, o, h1, h2⟩ := G h' W' T' _ (Fr.snoc X' hL ge) X' e'
  exact ⟨t, o, st' t h1, h2⟩
theorem g_lenLArr (C : Cx p s m meth c Z n0 own bytes maxl ret nm) (d : In bytes pc 1 .arraylength pc') {a : Addr} {z : Nat} {f : Nat → Int64} (A : LArr Z h a z f) (v : Int32) (hv : v = Int32.ofNat z) (G : Go p l e R s m args below meth c n0 Q K N h k n (mkF m pc' Ls (.int v :: st))) : Go p l e R s m args below meth c n0 Q K N h k n (mkF m pc Ls (.ref a :: st)) := by
  obtain ⟨d, rfl⟩ := d
  obtain ⟨cl, A, r1, r2, r3⟩ := A
  refine g_st (fun X eT t kt => X.arraylength C.1 (by rw [eT]; exact A.1) (State.isArrayOf_alike C.2.1.alike A.2.1) (g := mkF m pc Ls (.ref a :: st)) rfl rfl (hb C.2.2.2.1 d) _ ?_) G
  rw [r1]
  subst hv
  exact kt
/-- an array of z places at a, whose contents are f -/
def IArr (Z : State) (h : Heap) (a : Addr) (z : Nat) (f : Nat → Int32) : Prop := ∃ c : Cell, Arr Z h a c .int ∧ c.slots.size = z ∧ z < 2 ^ 31 ∧ ∀ i, i < z → c.slots[i]? = some (.int (f i))
theorem IArr.lt {a : Addr} {z : Nat} {f : Nat → Int32} (A : IArr Z h a z f) : a < h.size := by obtain ⟨c, A, -⟩ := A; exact A.lt
theorem IArr.ext {h' : Heap} {a : Addr} {z : Nat} {f : Nat → Int32} (A : IArr Z h a z f) (E : Ext h h') : IArr Z h' a z f := by obtain ⟨c, A, r⟩ := A; exact ⟨c, A.ext E, r⟩
theorem IArr.other {h' : Heap} {a b : Addr} {sl : Nat} {v : Value} {z : Nat} {f : Nat → Int32} (A : IArr Z h b z f) (W : Wr h h' a sl v) (q : b ≠ a) : IArr Z h' b z f := by obtain ⟨c, A, r⟩ := A; exact ⟨c, A.other W q, r⟩
theorem IArr.keep {h' : Heap} {a : Addr} {ws : List Addr} {z : Nat} {f : Nat → Int32} (A : IArr Z h a z f) (K : Keep h h' ws) (q : a ∉ ws) : IArr Z h' a z f := by obtain ⟨c, A, r⟩ := A; exact ⟨c, ⟨K.2.1 a c A.1 q, A.2⟩, r⟩
theorem IArr.congr {a : Addr} {z : Nat} {f g : Nat → Int32} (A : IArr Z h a z f) (q : ∀ i, i < z → g i = f i) : IArr Z h a z g := by obtain ⟨c, A, r1, r2, r3⟩ := A; exact ⟨c, A, r1, r2, fun i hi => by rw [q i hi]; exact r3 i hi⟩
theorem IArr.new {a : Addr} {kA : ClassId} {z : Int32} (A : Arr Z h a (newA kA .int z) .int) : IArr Z h a z.toNatClampNeg (fun _ => 0) :=
  ⟨_, A, sz_new _ _ _, z.toNatClampNeg_lt, fun i hi => by simp [newA, hi, defaultValue]⟩
theorem IArr.set {h' : Heap} {a : Addr} {z j : Nat} {x : Int32} {f : Nat → Int32} (A : IArr Z h a z f) (W : Wr h h' a j (.int x)) : IArr Z h' a z (fun i => if i = j then x else f i) := by
  obtain ⟨c, A, r1, r2, r3⟩ := A
  refine ⟨_, A.same W, by simp [Cell.setSlot, r1], r2, fun i hi => ?_⟩
  by_cases q : i = j
  · subst q
    simp [Cell.setSlot, r1, hi]
  · simp only [q, if_false]
    rw [← r3 i hi]
    exact Array.getElem?_setIfInBounds_ne (Ne.symm q)
theorem g_iaload (C : Cx p s m meth c Z n0 own bytes maxl ret nm) (d : In bytes pc 1 .iaload pc') {a : Addr} {z : Nat} {f : Nat → Int32} {j : Int32} (A : IArr Z h a z f) (h1 : 0 ≤ j.toInt) (h2 : j.toInt < z) (v : Int32) (hv : f j.toInt.toNat = v) (G : Go p l e R s m args below meth c n0 Q K N h k n (mkF m pc' Ls (.int v :: st))) : Go p l e R s m args below meth c n0 Q K N h k n (mkF m pc Ls (.int j :: .ref a :: st)) := by
  obtain ⟨d, rfl⟩ := d
  obtain ⟨cl, A, r1, r2, r3⟩ := A
  have e1 : j.toNatClampNeg = j.toInt.toNat := rfl
  have hj : ¬ (j < 0 ∨ cl.slots.size ≤ j.toNatClampNeg) := by
    rw [Int32.lt_iff_toInt_lt, show (0 : Int32).toInt = 0 from rfl, r1, e1]; omega
  have hat : cl.slots[j.toNatClampNeg]? = some (.int v) := by rw [← hv, e1]; exact r3 _ (by omega)
  exact g_st (fun X eT t kt => X.iaload C.1 (j := j) (v := .int v) (by rw [eT]; exact A.1) (State.isArrayOf_alike C.2.1.alike A.2.1) A.2.2 hj hat (g := mkF m pc Ls (.int j :: .ref a :: st)) rfl rfl (hb C.2.2.2.1 d) _ kt) G
theorem g_iastore (C : Cx p s m meth c Z n0 own bytes maxl ret nm) (d : In bytes pc 1 .iastore pc') {a : Addr} {z : Nat} {f : Nat → Int32} {j : Int32} {x : Int32} (A : IArr Z h a z f) (h1 : 0 ≤ j.toInt) (h2 : j.toInt < z) (ge : n0 ≤ a) (G : ∀ h', Wr h h' a j.toInt.toNat (.int x) → Go p l e R s m args below meth c n0 Q K N h' k n (mkF m pc' Ls st)) : Go p l e R s m args below meth c n0 Q K N h k n (mkF m pc Ls (.int x :: .int j :: .ref a :: st)) := by
  obtain ⟨d, rfl⟩ := d
  obtain ⟨cl, A, r1, r2, r3⟩ := A
  have e1 : j.toNatClampNeg = j.toInt.toNat := rfl
  have hj : ¬ (j < 0 ∨ cl.slots.size ≤ j.toNatClampNeg) := by
    rw [Int32.lt_iff_toInt_lt, show (0 : Int32).toInt = 0 from rfl, r1, e1]; omega
  intro T L hL X eT
  obtain ⟨T', h', X', e', W', st'⟩ := stI X C.1 C.2.1 eT A (j := j) hj (g := mkF m pc Ls (.int x :: .int j :: .ref a :: st)) rfl rfl (hb C.2.2.2.1 d)
  obtain ⟨t, o, h1, h2⟩ := G h' W' T' _ (Fr.snoc X' hL ge) X' e'
  exact ⟨t, o, st' t h1, h2⟩
theorem g_lenIArr (C : Cx p s m meth c Z n0 own bytes maxl ret nm) (d : In bytes pc 1 .arraylength pc') {a : Addr} {z : Nat} {f : Nat → Int32} (A : IArr Z h a z f) (v : Int32) (hv : v = Int32.ofNat z) (G : Go p l e R s m args below meth c n0 Q K N h k n (mkF m pc' Ls (.int v :: st))) : Go p l e R s m args below meth c n0 Q K N h k n (mkF m pc Ls (.ref a :: st)) := by
  obtain ⟨d, rfl⟩ := d
  obtain ⟨cl, A, r1, r2, r3⟩ := A
  refine g_st (fun X eT t kt => X.arraylength C.1 (by rw [eT]; exact A.1) (State.isArrayOf_alike C.2.1.alike A.2.1) (g := mkF m pc Ls (.ref a :: st)) rfl rfl (hb C.2.2.2.1 d) _ ?_) G
  rw [r1]
  subst hv
  exact kt
/-- an array of z places at a, whose contents are f -/
def BArr (Z : State) (h : Heap) (a : Addr) (z : Nat) (f : Nat → Int32) : Prop := ∃ c : Cell, Arr Z h a c .byte ∧ c.slots.size = z ∧ z < 2 ^ 31 ∧ ∀ i, i < z → c.slots[i]? = some (.int (f i))
theorem BArr.lt {a : Addr} {z : Nat} {f : Nat → Int32} (A : BArr Z h a z f) : a < h.size := by obtain ⟨c, A, -⟩ := A; exact A.lt
theorem BArr.ext {h' : Heap} {a : Addr} {z : Nat} {f : Nat → Int32} (A : BArr Z h a z f) (E : Ext h h') : BArr Z h' a z f := by obtain ⟨c, A, r⟩ := A; exact ⟨c, A.ext E, r⟩
theorem BArr.other {h' : Heap} {a b : Addr} {sl : Nat} {v : Value} {z : Nat} {f : Nat → Int32} (A : BArr Z h b z f) (W : Wr h h' a sl v) (q : b ≠ a) : BArr Z h' b z f := by obtain ⟨c, A, r⟩ := A; exact ⟨c, A.other W q, r⟩
theorem BArr.keep {h' : Heap} {a : Addr} {ws : List Addr} {z : Nat} {f : Nat → Int32} (A : BArr Z h a z f) (K : Keep h h' ws) (q : a ∉ ws) : BArr Z h' a z f := by obtain ⟨c, A, r⟩ := A; exact ⟨c, ⟨K.2.1 a c A.1 q, A.2⟩, r⟩
theorem BArr.congr {a : Addr} {z : Nat} {f g : Nat → Int32} (A : BArr Z h a z f) (q : ∀ i, i < z → g i = f i) : BArr Z h a z g := by obtain ⟨c, A, r1, r2, r3⟩ := A; exact ⟨c, A, r1, r2, fun i hi => by rw [q i hi]; exact r3 i hi⟩
theorem BArr.new {a : Addr} {kA : ClassId} {z : Int32} (A : Arr Z h a (newA kA .byte z) .byte) : BArr Z h a z.toNatClampNeg (fun _ => 0) :=
  ⟨_, A, sz_new _ _ _, z.toNatClampNeg_lt, fun i hi => by simp [newA, hi, defaultValue]⟩
theorem BArr.set {h' : Heap} {a : Addr} {z j : Nat} {x : Int32} {f : Nat → Int32} (A : BArr Z h a z f) (W : Wr h h' a j (.int x)) : BArr Z h' a z (fun i => if i = j then x else f i) := by
  obtain ⟨c, A, r1, r2, r3⟩ := A
  refine ⟨_, A.same W, by simp [Cell.setSlot, r1], r2, fun i hi => ?_⟩
  by_cases q : i = j
  · subst q
    simp [Cell.setSlot, r1, hi]
  · simp only [q, if_false]
    rw [← r3 i hi]
    exact Array.getElem?_setIfInBounds_ne (Ne.symm q)
theorem g_baload (C : Cx p s m meth c Z n0 own bytes maxl ret nm) (d : In bytes pc 1 .baload pc') {a : Addr} {z : Nat} {f : Nat → Int32} {j : Int32} (A : BArr Z h a z f) (h1 : 0 ≤ j.toInt) (h2 : j.toInt < z) (v : Int32) (hv : f j.toInt.toNat = v) (G : Go p l e R s m args below meth c n0 Q K N h k n (mkF m pc' Ls (.int v :: st))) : Go p l e R s m args below meth c n0 Q K N h k n (mkF m pc Ls (.int j :: .ref a :: st)) := by
  obtain ⟨d, rfl⟩ := d
  obtain ⟨cl, A, r1, r2, r3⟩ := A
  have e1 : j.toNatClampNeg = j.toInt.toNat := rfl
  have hj : ¬ (j < 0 ∨ cl.slots.size ≤ j.toNatClampNeg) := by
    rw [Int32.lt_iff_toInt_lt, show (0 : Int32).toInt = 0 from rfl, r1, e1]; omega
  have hat : cl.slots[j.toNatClampNeg]? = some (.int v) := by rw [← hv, e1]; exact r3 _ (by omega)
  exact g_st (fun X eT t kt => X.baloadBytes C.1 (j := j) (v := .int v) (by rw [eT]; exact A.1) (State.isArrayOf_alike C.2.1.alike A.2.1) A.2.2 hj hat (g := mkF m pc Ls (.int j :: .ref a :: st)) rfl rfl (hb C.2.2.2.1 d) _ kt) G
theorem g_bastore (C : Cx p s m meth c Z n0 own bytes maxl ret nm) (d : In bytes pc 1 .bastore pc') {a : Addr} {z : Nat} {f : Nat → Int32} {j : Int32} {x : Int32} (A : BArr Z h a z f) (h1 : 0 ≤ j.toInt) (h2 : j.toInt < z) (ge : n0 ≤ a) (G : ∀ h', Wr h h' a j.toInt.toNat (.int x.toInt8.toInt32) → Go p l e R s m args below meth c n0 Q K N h' k n (mkF m pc' Ls st)) : Go p l e R s m args below meth c n0 Q K N h k n (mkF m pc Ls (.int x :: .int j :: .ref a :: st)) := by
  obtain ⟨d, rfl⟩ := d
  obtain ⟨cl, A, r1, r2, r3⟩ := A
  have e1 : j.toNatClampNeg = j.toInt.toNat := rfl
  have hj : ¬ (j < 0 ∨ cl.slots.size ≤ j.toNatClampNeg) := by
    rw [Int32.lt_iff_toInt_lt, show (0 : Int32).toInt = 0 from rfl, r1, e1]; omega
  intro T L hL X eT
  obtain ⟨T', h', X', e', W', st'⟩ := stB X C.1 C.2.1 eT A (j := j) hj (g := mkF m pc Ls (.int x :: .int j :: .ref a :: st)) rfl rfl (hb C.2.2.2.1 d)
  obtain ⟨t, o, h1, h2⟩ := G h' W' T' _ (Fr.snoc X' hL ge) X' e'
  exact ⟨t, o, st' t h1, h2⟩
theorem g_lenBArr (C : Cx p s m meth c Z n0 own bytes maxl ret nm) (d : In bytes pc 1 .arraylength pc') {a : Addr} {z : Nat} {f : Nat → Int32} (A : BArr Z h a z f) (v : Int32) (hv : v = Int32.ofNat z) (G : Go p l e R s m args below meth c n0 Q K N h k n (mkF m pc' Ls (.int v :: st))) : Go p l e R s m args below meth c n0 Q K N h k n (mkF m pc Ls (.ref a :: st)) := by
  obtain ⟨d, rfl⟩ := d
  obtain ⟨cl, A, r1, r2, r3⟩ := A
  refine g_st (fun X eT t kt => X.arraylength C.1 (by rw [eT]; exact A.1) (State.isArrayOf_alike C.2.1.alike A.2.1) (g := mkF m pc Ls (.ref a :: st)) rfl rfl (hb C.2.2.2.1 d) _ ?_) G
  rw [r1]
  subst hv
  exact kt
theorem g_join {ι : Type} (hh : ι → Heap) (k' n' : Nat) (f : ι → JFrame) (P : ι → Prop) {f0 : JFrame} (H : (∀ x, P x → Go p l e R s m args below meth c n0 Q K N (hh x) (k') (n') ((f x))) → Go p l e R s m args below meth c n0 Q K N h k n f0) (G : ∀ x, P x → Go p l e R s m args below meth c n0 Q K N (hh x) (k') (n') ((f x))) : Go p l e R s m args below meth c n0 Q K N h k n f0 := H G
theorem g_loop {ι : Type} (hh : ι → Heap) (f : ι → JFrame) (P : ι → Prop) (μ : ι → Nat) (step : ∀ x, P x → (∀ y, P y → μ y < μ x → Go p l e R s m args below meth c n0 Q K N (hh y) k n ((f y))) → Go p l e R s m args below meth c n0 Q K N (hh x) k n ((f x))) : ∀ x, P x → Go p l e R s m args below meth c n0 Q K N (hh x) k n ((f x)) := by
  intro x
  generalize hm : μ x = t
  induction t using Nat.strongRecOn generalizing x with
  | _ t ih => exact fun hx => step x hx fun y hy hlt => ih (μ y) (by omega) y rfl hy
end Kit
/-- nothing below lo was written -/
def KL (lo : Nat) (h h' : Heap) : Prop := h.size ≤ h'.size ∧ ∀ (x : Addr) (c : Cell), x < lo → h[x]? = some c → h'[x]? = some c
theorem KL.refl (lo : Nat) (h : Heap) : KL lo h h := ⟨Nat.le_refl _, fun _ _ _ q => q⟩
theorem KL.trans {lo : Nat} {h h1 h2 : Heap} (A : KL lo h h1) (B : KL lo h1 h2) : KL lo h h2 := ⟨Nat.le_trans A.1 B.1, fun x c q r => B.2 x c q (A.2 x c q r)⟩
theorem KL.ext {lo : Nat} {h h1 h2 : Heap} (A : KL lo h h1) (E : Ext h1 h2) : KL lo h h2 := ⟨Nat.le_trans A.1 E.1, fun x c q r => E.2 x c (A.2 x c q r)⟩
theorem KL.wr {lo : Nat} {h h1 h2 : Heap} {a : Addr} {sl : Nat} {v : Value} (A : KL lo h h1) (W : Wr h1 h2 a sl v) (q : lo ≤ a) : KL lo h h2 :=
  A.trans ⟨(Keep.of_wr W).1, fun x c r z => (Keep.of_wr W).2.1 x c z (fun y => by cases List.mem_singleton.mp y; exact absurd r (Nat.not_lt.mpr q))⟩
theorem LArr.kl {Z : State} {h h' : Heap} {a : Addr} {z lo : Nat} {f : Nat → Int64} (A : LArr Z h a z f) (K : KL lo h h') (q : a < lo) : LArr Z h' a z f := by obtain ⟨c, A, r⟩ := A; exact ⟨c, ⟨K.2 a c q A.1, A.2⟩, r⟩
def upd (f : Nat → Int64) (j : Nat) (x : Int64) : Nat → Int64 := fun i => if i = j then x else f i
def max2 (a b : Int64) : Int64 := if a < b then b else a
def maxR (a b r : Int64) : Prop := (a < b ∧ r = b) ∨ (¬ (a < b) ∧ r = a)
theorem maxT {a b r : Int64} (q : a < b) (h : maxR a b r) : r = b := h.elim (fun h => h.2) (fun h => absurd q h.1)
theorem maxF {a b r : Int64} (q : ¬ (a < b)) (h : maxR a b r) : r = a := h.elim (fun h => absurd h.1 q) (fun h => h.2)
theorem maxI (a b : Int64) : maxR a b (max2 a b) := by
  unfold max2
  by_cases q : a < b
  · exact Or.inl ⟨q, if_pos q⟩
  · exact Or.inr ⟨q, if_neg q⟩
def mxR (cnt : Int32) (f : Nat → Int64) (ts mv : Int64) : Prop := (cnt = 0 ∧ mv = ts) ∨ (¬ cnt = 0 ∧ maxR (f (cnt.toInt.toNat - 1)) ts mv)
theorem mxT {cnt : Int32} {f : Nat → Int64} {ts mv : Int64} (q : cnt = 0) (h : mxR cnt f ts mv) : mv = ts := h.elim (fun h => h.2) (fun h => absurd q h.1)
theorem mxF {cnt : Int32} {f : Nat → Int64} {ts mv : Int64} (q : ¬ cnt = 0) (h : mxR cnt f ts mv) : maxR (f (cnt.toInt.toNat - 1)) ts mv := h.elim (fun h => absurd h.1 q) (fun h => h.2)
theorem mx_step {cnt : Int32} {f : Nat → Int64} {ts M : Int64} {k : Nat} (hc : ¬ cnt = 0) (hk : cnt.toInt.toNat - 1 = k) (hf : f k = M) : mxR cnt f ts (max2 M ts) := Or.inr ⟨hc, by rw [hk, hf]; exact maxI _ _⟩
theorem upd_at (f : Nat → Int64) (j : Nat) (x : Int64) : upd f j x j = x := if_pos rfl
theorem upd_ne {f : Nat → Int64} {j i : Nat} {x y : Int64} (h : ¬ i = j) (e : f i = y) : upd f j x i = y := (if_neg h).trans e
theorem sub1 {cnt : Int32} (q : ¬ cnt = 0) (h : 0 ≤ cnt.toInt) : (cnt - 1).toInt = cnt.toInt - 1 := by
  have a := c_isub cnt 1; have := rng32 (cnt - 1); have e : (1 : Int32).toInt = 1 := rfl
  have := rng32 cnt
  omega
theorem add1 {i : Int32} (h : 0 ≤ i.toInt) (h2 : i.toInt < 1000) : (i + 1).toInt = i.toInt + 1 := by
  have a := c_iadd i 1; have := rng32 (i + 1); have e : (1 : Int32).toInt = 1 := rfl
  omega
theorem pos_of {cnt : Int32} (q : ¬ cnt = 0) (h : 0 ≤ cnt.toInt) : 1 ≤ cnt.toInt := by
  have : ¬ cnt.toInt = 0 := fun z => q (Int32.toInt_inj.mp z)
  omega
def FR (fm : Nat → Int64) (cnt : Int32) (t : Int64) (r : Int32) : Prop := 0 ≤ r.toInt ∧ r.toInt ≤ cnt.toInt ∧ (∀ i : Nat, (i : Int) < r.toInt → fm i < t) ∧ (∀ i : Nat, r.toInt ≤ (i : Int) → (i : Int) < cnt.toInt → ¬ (fm i < t))
theorem mid_of {i1 i2 md : Int32} (p1 : 0 ≤ i1.toInt) (q : i1.toInt < i2.toInt) (b : i2.toInt < 64) (e : ushrI (i1 + i2) 1 = md) : i1.toInt ≤ md.toInt ∧ md.toInt < i2.toInt := by
  subst e
  have h := c_iushr (i1 + i2) 1 1 (by decide) (by decide)
  have a := c_iadd i1 i2; have := rng32 (i1 + i2)
  unfold ushrI
  rw [h]
  omega
theorem not_lt_up {a b t : Int64} (h1 : ¬ a < t) (h2 : ¬ b < a) : ¬ b < t := by
  rw [Int64.lt_iff_toInt_lt] at *; omega
theorem lt_down {a b t : Int64} (h1 : ¬ b < a) (h2 : b < t) : a < t := by
  rw [Int64.lt_iff_toInt_lt] at *; omega
def mono (f : Nat → Int64) (k : Nat) : Prop := ∀ i j : Nat, i ≤ j → j < k → ¬ (f j < f i)
theorem mono0 (f : Nat → Int64) : mono f 0 := fun i j _ h => absurd h (Nat.not_lt_zero _)
theorem lt_irr (a : Int64) : ¬ (a < a) := Int64.lt_irrefl
theorem mono_step {f : Nat → Int64} {k : Nat} {mv : Int64} (h : mono f k) (hv : ∀ i, i < k → ¬ (mv < f i)) : mono (upd f k mv) (k + 1) := by
  intro i j h1 h2
  unfold upd
  by_cases a : j = k
  · rw [if_pos a]
    by_cases b : i = k
    · rw [if_pos b]; exact lt_irr _
    · rw [if_neg b]; exact hv i (by omega)
  · rw [if_neg a, if_neg (by omega)]; exact h i j h1 (by omega)
theorem max2_ge (a b : Int64) : ¬ (max2 a b < a) ∧ ¬ (max2 a b < b) := by
  unfold max2
  by_cases q : a < b
  · rw [if_pos q]; exact ⟨fun z => by rw [Int64.lt_iff_toInt_lt] at *; omega, lt_irr _⟩
  · rw [if_neg q]; exact ⟨lt_irr _, q⟩
theorem max2_lt {a b t : Int64} (h : max2 a b < t) : b < t := lt_down (max2_ge a b).2 h
theorem max2_nlt {a b t : Int64} (h1 : a < t) (h : ¬ (max2 a b < t)) : ¬ (b < t) := by
  unfold max2 at h
  by_cases q : a < b
  · rw [if_pos q] at h; exact h
  · rw [if_neg q] at h; exact absurd h1 h
theorem mono_next {f : Nat → Int64} {k : Nat} {m : Int64} (h : mono f (k + 1)) : mono (upd f (k + 1) (max2 (f k) m)) (k + 2) :=
  mono_step h fun i hi => fun z => (max2_ge (f k) m).1 (by
    have := h i k (by omega) (by omega)
    rw [Int64.lt_iff_toInt_lt] at *; omega)
theorem mono_nx {f : Nat → Int64} {k : Nat} {m M : Int64} (h : mono f (k + 1)) (e : f k = M) : mono (upd f (k + 1) (max2 M m)) (k + 2) := e ▸ mono_next h
theorem mono_int {f : Nat → Int64} {k : Nat} {cnt : Int32} (h : mono f k) (e : cnt.toInt = k) : ∀ i j : Nat, i ≤ j → (j : Int) < cnt.toInt → ¬ (f j < f i) := fun i j h1 h2 => h i j h1 (by omega)
theorem mod5 (z : Int32) : (ushrI z 1 - (ushrI z 1 / 5) * 5) = 0 ∨ (ushrI z 1 - (ushrI z 1 / 5) * 5) = 1 ∨ (ushrI z 1 - (ushrI z 1 / 5) * 5) = 2 ∨ (ushrI z 1 - (ushrI z 1 / 5) * 5) = 3 ∨ (ushrI z 1 - (ushrI z 1 / 5) * 5) = 4 := by
  have h : (ushrI z 1).toInt = (z.toInt % 4294967296) / (2 ^ 1 : Nat) := c_iushr z 1 1 (by decide) (by decide)
  generalize ushrI z 1 = x at *
  have hd : (5 : Int32) ≠ -1 := by decide
  have a := (c_idiv x 5 5 rfl hd).1 (by omega)
  have b := c_imul (x / 5) 5; have c := c_isub x ((x / 5) * 5)
  have := rng32 (x / 5 * 5); have := rng32 (x - x / 5 * 5); have := rng32 x
  have e5 : (5 : Int32).toInt = 5 := rfl
  have : (x - x / 5 * 5).toInt = 0 ∨ (x - x / 5 * 5).toInt = 1 ∨ (x - x / 5 * 5).toInt = 2 ∨ (x - x / 5 * 5).toInt = 3 ∨ (x - x / 5 * 5).toInt = 4 := by
    rw [a, e5] at b; omega
  rcases this with q | q | q | q | q
  · exact Or.inl (Int32.toInt_inj.mp q)
  · exact Or.inr (Or.inl (Int32.toInt_inj.mp q))
  · exact Or.inr (Or.inr (Or.inl (Int32.toInt_inj.mp q)))
  · exact Or.inr (Or.inr (Or.inr (Or.inl (Int32.toInt_inj.mp q))))
  · exact Or.inr (Or.inr (Or.inr (Or.inr (Int32.toInt_inj.mp q))))
/-- one turn of the law's own search, downwards: behind it the found place is r if r is at or above j -/
theorem want_hit {r y y' : Int32} {j : Int32} {f : Nat → Int64} {cnt : Int32} {t m : Int64} {k : Nat} (hj : j.toInt = k) (h : FR f cnt t r) (hc : (k : Int) < cnt.toInt) (hm : ∀ q : f k < t, m < t) (q : ¬ (m < t)) (h0 : (k : Int) + 1 ≤ r.toInt → y = r) : (k : Int) ≤ r.toInt → j = r := by
  intro z
  apply Int32.toInt_inj.mp
  by_cases a : r.toInt = k
  · omega
  · exact absurd (hm (h.2.2.1 k (by omega))) q
theorem want_miss {r y : Int32} {f : Nat → Int64} {cnt : Int32} {t m : Int64} {k : Nat} (h : FR f cnt t r) (hc : (k : Int) < cnt.toInt) (hm : (∀ i : Nat, i < k → f i < t) → ¬ (f k < t) → ¬ (m < t)) (q : m < t) (h0 : (k : Int) + 1 ≤ r.toInt → y = r) : (k : Int) ≤ r.toInt → y = r := by
  intro z
  by_cases a : r.toInt = k
  · exact absurd q (hm (fun i hi => h.2.2.1 i (by omega)) (h.2.2.2 k (by omega) hc))
  · exact h0 (by omega)

theorem wd_0 {a0 : Array Value} {Z : State} (hw : ∀ d ∈ tables_1, d.before a0 Z = true) : (Jvm.Cond.classLink "com/example/offset/offset/log/BatchTableFirstReachingPinLaw" (7 : Nat) "com/example/offset/offset/log/BatchTable").before a0 Z = true := hw _ (List.mem_of_getElem? (i := 0) rfl)
theorem wd_1 {a0 : Array Value} {Z : State} (hw : ∀ d ∈ tables_1, d.before a0 Z = true) : (Jvm.Cond.instantiable "com/example/offset/offset/log/BatchTable" (7 : Nat)).before a0 Z = true := hw _ (List.mem_of_getElem? (i := 1) rfl)
theorem wd_2 {a0 : Array Value} {Z : State} (hw : ∀ d ∈ tables_1, d.before a0 Z = true) : (Jvm.Cond.initialized "com/example/offset/offset/log/BatchTable").before a0 Z = true := hw _ (List.mem_of_getElem? (i := 2) rfl)
theorem wd_3 {a0 : Array Value} {Z : State} (hw : ∀ d ∈ tables_1, d.before a0 Z = true) : (Jvm.Cond.methodLink "com/example/offset/offset/log/BatchTableFirstReachingPinLaw" (9 : Nat) ({ cls := "com/example/offset/offset/log/BatchTable", name := "<init>", desc := "(Z)V" } : Jvm.MethodName)).before a0 Z = true := hw _ (List.mem_of_getElem? (i := 3) rfl)
theorem wd_4 {a0 : Array Value} {Z : State} (hw : ∀ d ∈ tables_1, d.before a0 Z = true) : (Jvm.Cond.instanceMethod ({ cls := "com/example/offset/offset/log/BatchTable", name := "<init>", desc := "(Z)V" } : Jvm.MethodName)).before a0 Z = true := hw _ (List.mem_of_getElem? (i := 4) rfl)
theorem wd_5 {a0 : Array Value} {Z : State} (hw : ∀ d ∈ tables_1, d.before a0 Z = true) : (Jvm.Cond.code ({ cls := "com/example/offset/offset/log/BatchTable", name := "<init>", desc := "(Z)V" } : Jvm.MethodName) prog_45_method_1_code (2 : Nat) (Option.none : Option Jvm.ClassFile.FieldType)).before a0 Z = true := hw _ (List.mem_of_getElem? (i := 5) rfl)
theorem wd_6 {a0 : Array Value} {Z : State} (hw : ∀ d ∈ tables_1, d.before a0 Z = true) : (Jvm.Cond.methodLink "com/example/offset/offset/log/BatchTable" (1 : Nat) ({ cls := "java/lang/Object", name := "<init>", desc := "()V" } : Jvm.MethodName)).before a0 Z = true := hw _ (List.mem_of_getElem? (i := 6) rfl)
theorem wd_7 {a0 : Array Value} {Z : State} (hw : ∀ d ∈ tables_1, d.before a0 Z = true) : (Jvm.Cond.instanceMethod ({ cls := "java/lang/Object", name := "<init>", desc := "()V" } : Jvm.MethodName)).before a0 Z = true := hw _ (List.mem_of_getElem? (i := 7) rfl)
theorem wd_8 {a0 : Array Value} {Z : State} (hw : ∀ d ∈ tables_1, d.before a0 Z = true) : (Jvm.Cond.code ({ cls := "java/lang/Object", name := "<init>", desc := "()V" } : Jvm.MethodName) object_method_1_code (1 : Nat) (Option.none : Option Jvm.ClassFile.FieldType)).before a0 Z = true := hw _ (List.mem_of_getElem? (i := 8) rfl)
theorem wd_9 {a0 : Array Value} {Z : State} (hw : ∀ d ∈ tables_1, d.before a0 Z = true) : (Jvm.Cond.arrayClass Jvm.ClassFile.FieldType.long).before a0 Z = true := hw _ (List.mem_of_getElem? (i := 9) rfl)
theorem wd_10 {a0 : Array Value} {Z : State} (hw : ∀ d ∈ tables_1, d.before a0 Z = true) : (Jvm.Cond.fieldLink "com/example/offset/offset/log/BatchTable" (9 : Nat) "com/example/offset/offset/log/BatchTable" "offsets" "[J").before a0 Z = true := hw _ (List.mem_of_getElem? (i := 10) rfl)
theorem wd_11 {a0 : Array Value} {Z : State} (hw : ∀ d ∈ tables_1, d.before a0 Z = true) : (Jvm.Cond.lays "com/example/offset/offset/log/BatchTable" "com/example/offset/offset/log/BatchTable" "offsets" "[J").before a0 Z = true := hw _ (List.mem_of_getElem? (i := 11) rfl)
theorem wd_12 {a0 : Array Value} {Z : State} (hw : ∀ d ∈ tables_1, d.before a0 Z = true) : (Jvm.Cond.fieldLink "com/example/offset/offset/log/BatchTable" (13 : Nat) "com/example/offset/offset/log/BatchTable" "positions" "[J").before a0 Z = true := hw _ (List.mem_of_getElem? (i := 12) rfl)
theorem wd_13 {a0 : Array Value} {Z : State} (hw : ∀ d ∈ tables_1, d.before a0 Z = true) : (Jvm.Cond.lays "com/example/offset/offset/log/BatchTable" "com/example/offset/offset/log/BatchTable" "positions" "[J").before a0 Z = true := hw _ (List.mem_of_getElem? (i := 13) rfl)
theorem wd_14 {a0 : Array Value} {Z : State} (hw : ∀ d ∈ tables_1, d.before a0 Z = true) : (Jvm.Cond.fieldLink "com/example/offset/offset/log/BatchTable" (16 : Nat) "com/example/offset/offset/log/BatchTable" "maxTimestampsUpTo" "[J").before a0 Z = true := hw _ (List.mem_of_getElem? (i := 14) rfl)
theorem wd_15 {a0 : Array Value} {Z : State} (hw : ∀ d ∈ tables_1, d.before a0 Z = true) : (Jvm.Cond.lays "com/example/offset/offset/log/BatchTable" "com/example/offset/offset/log/BatchTable" "maxTimestampsUpTo" "[J").before a0 Z = true := hw _ (List.mem_of_getElem? (i := 15) rfl)
theorem wd_16 {a0 : Array Value} {Z : State} (hw : ∀ d ∈ tables_1, d.before a0 Z = true) : (Jvm.Cond.fieldLink "com/example/offset/offset/log/BatchTable" (19 : Nat) "com/example/offset/offset/log/BatchTable" "gaps" "Z").before a0 Z = true := hw _ (List.mem_of_getElem? (i := 16) rfl)
theorem wd_17 {a0 : Array Value} {Z : State} (hw : ∀ d ∈ tables_1, d.before a0 Z = true) : (Jvm.Cond.laysFinal "com/example/offset/offset/log/BatchTable" "com/example/offset/offset/log/BatchTable" "gaps" "Z").before a0 Z = true := hw _ (List.mem_of_getElem? (i := 17) rfl)
theorem wd_18 {a0 : Array Value} {Z : State} (hw : ∀ d ∈ tables_1, d.before a0 Z = true) : (Jvm.Cond.fieldLink "com/example/offset/offset/log/BatchTable" (23 : Nat) "com/example/offset/offset/log/BatchTable" "ends" "[J").before a0 Z = true := hw _ (List.mem_of_getElem? (i := 18) rfl)
theorem wd_19 {a0 : Array Value} {Z : State} (hw : ∀ d ∈ tables_1, d.before a0 Z = true) : (Jvm.Cond.lays "com/example/offset/offset/log/BatchTable" "com/example/offset/offset/log/BatchTable" "ends" "[J").before a0 Z = true := hw _ (List.mem_of_getElem? (i := 19) rfl)
theorem wd_20 {a0 : Array Value} {Z : State} (hw : ∀ d ∈ tables_1, d.before a0 Z = true) : (Jvm.Cond.methodLink "com/example/offset/offset/log/BatchTableFirstReachingPinLaw" (28 : Nat) ({ cls := "com/example/offset/offset/log/BatchTable", name := "firstReaching", desc := "(J)I" } : Jvm.MethodName)).before a0 Z = true := hw _ (List.mem_of_getElem? (i := 20) rfl)
theorem wd_21 {a0 : Array Value} {Z : State} (hw : ∀ d ∈ tables_1, d.before a0 Z = true) : (Jvm.Cond.declares ({ cls := "com/example/offset/offset/log/BatchTable", name := "firstReaching", desc := "(J)I" } : Jvm.MethodName)).before a0 Z = true := hw _ (List.mem_of_getElem? (i := 21) rfl)
theorem wd_22 {a0 : Array Value} {Z : State} (hw : ∀ d ∈ tables_1, d.before a0 Z = true) : (Jvm.Cond.instanceMethod ({ cls := "com/example/offset/offset/log/BatchTable", name := "firstReaching", desc := "(J)I" } : Jvm.MethodName)).before a0 Z = true := hw _ (List.mem_of_getElem? (i := 22) rfl)
theorem wd_23 {a0 : Array Value} {Z : State} (hw : ∀ d ∈ tables_1, d.before a0 Z = true) : (Jvm.Cond.selects "com/example/offset/offset/log/BatchTable" ({ cls := "com/example/offset/offset/log/BatchTable", name := "firstReaching", desc := "(J)I" } : Jvm.MethodName) ({ cls := "com/example/offset/offset/log/BatchTable", name := "firstReaching", desc := "(J)I" } : Jvm.MethodName)).before a0 Z = true := hw _ (List.mem_of_getElem? (i := 23) rfl)
theorem wd_24 {a0 : Array Value} {Z : State} (hw : ∀ d ∈ tables_1, d.before a0 Z = true) : (Jvm.Cond.code ({ cls := "com/example/offset/offset/log/BatchTable", name := "firstReaching", desc := "(J)I" } : Jvm.MethodName) prog_45_method_10_code (6 : Nat) (Option.some Jvm.ClassFile.FieldType.int)).before a0 Z = true := hw _ (List.mem_of_getElem? (i := 24) rfl)
theorem wd_25 {a0 : Array Value} {Z : State} (hw : ∀ d ∈ tables_1, d.before a0 Z = true) : (Jvm.Cond.fieldLink "com/example/offset/offset/log/BatchTable" (26 : Nat) "com/example/offset/offset/log/BatchTable" "count" "I").before a0 Z = true := hw _ (List.mem_of_getElem? (i := 25) rfl)
theorem wd_26 {a0 : Array Value} {Z : State} (hw : ∀ d ∈ tables_1, d.before a0 Z = true) : (Jvm.Cond.lays "com/example/offset/offset/log/BatchTable" "com/example/offset/offset/log/BatchTable" "count" "I").before a0 Z = true := hw _ (List.mem_of_getElem? (i := 26) rfl)
theorem wd_27 {a0 : Array Value} {Z : State} (hw : ∀ d ∈ tables_1, d.before a0 Z = true) : (Jvm.Cond.methodLink "com/example/offset/offset/log/BatchTableFirstReachingPinLaw" (12 : Nat) ({ cls := "com/example/offset/offset/log/BatchTable", name := "add", desc := "(JJJJ)V" } : Jvm.MethodName)).before a0 Z = true := hw _ (List.mem_of_getElem? (i := 27) rfl)
theorem wd_28 {a0 : Array Value} {Z : State} (hw : ∀ d ∈ tables_1, d.before a0 Z = true) : (Jvm.Cond.declares ({ cls := "com/example/offset/offset/log/BatchTable", name := "add", desc := "(JJJJ)V" } : Jvm.MethodName)).before a0 Z = true := hw _ (List.mem_of_getElem? (i := 28) rfl)
theorem wd_29 {a0 : Array Value} {Z : State} (hw : ∀ d ∈ tables_1, d.before a0 Z = true) : (Jvm.Cond.instanceMethod ({ cls := "com/example/offset/offset/log/BatchTable", name := "add", desc := "(JJJJ)V" } : Jvm.MethodName)).before a0 Z = true := hw _ (List.mem_of_getElem? (i := 29) rfl)
theorem wd_30 {a0 : Array Value} {Z : State} (hw : ∀ d ∈ tables_1, d.before a0 Z = true) : (Jvm.Cond.selects "com/example/offset/offset/log/BatchTable" ({ cls := "com/example/offset/offset/log/BatchTable", name := "add", desc := "(JJJJ)V" } : Jvm.MethodName) ({ cls := "com/example/offset/offset/log/BatchTable", name := "add", desc := "(JJJJ)V" } : Jvm.MethodName)).before a0 Z = true := hw _ (List.mem_of_getElem? (i := 30) rfl)
theorem wd_31 {a0 : Array Value} {Z : State} (hw : ∀ d ∈ tables_1, d.before a0 Z = true) : (Jvm.Cond.code ({ cls := "com/example/offset/offset/log/BatchTable", name := "add", desc := "(JJJJ)V" } : Jvm.MethodName) prog_45_method_7_code (9 : Nat) (Option.none : Option Jvm.ClassFile.FieldType)).before a0 Z = true := hw _ (List.mem_of_getElem? (i := 31) rfl)
theorem wd_32 {a0 : Array Value} {Z : State} (hw : ∀ d ∈ tables_1, d.before a0 Z = true) : (Jvm.Cond.fieldLink "com/example/offset/offset/log/BatchTable" (30 : Nat) "com/example/offset/offset/log/BatchTable" "lastEnd" "J").before a0 Z = true := hw _ (List.mem_of_getElem? (i := 32) rfl)
theorem wd_33 {a0 : Array Value} {Z : State} (hw : ∀ d ∈ tables_1, d.before a0 Z = true) : (Jvm.Cond.lays "com/example/offset/offset/log/BatchTable" "com/example/offset/offset/log/BatchTable" "lastEnd" "J").before a0 Z = true := hw _ (List.mem_of_getElem? (i := 33) rfl)
theorem wd_34 {a0 : Array Value} {Z : State} (hw : ∀ d ∈ tables_1, d.before a0 Z = true) : (Jvm.Cond.constantLong "com/example/offset/offset/log/BatchTableFirstReachingPinLaw" (16 : Nat) (10 : Int64)).before a0 Z = true := hw _ (List.mem_of_getElem? (i := 34) rfl)
theorem wd_35 {a0 : Array Value} {Z : State} (hw : ∀ d ∈ tables_1, d.before a0 Z = true) : (Jvm.Cond.constantLong "com/example/offset/offset/log/BatchTableFirstReachingPinLaw" (18 : Nat) (2 : Int64)).before a0 Z = true := hw _ (List.mem_of_getElem? (i := 35) rfl)
theorem wd_36 {a0 : Array Value} {Z : State} (hw : ∀ d ∈ tables_1, d.before a0 Z = true) : (Jvm.Cond.methodLink "com/example/offset/offset/log/BatchTable" (40 : Nat) ({ cls := "java/lang/Math", name := "max", desc := "(JJ)J" } : Jvm.MethodName)).before a0 Z = true := hw _ (List.mem_of_getElem? (i := 36) rfl)
theorem wd_37 {a0 : Array Value} {Z : State} (hw : ∀ d ∈ tables_1, d.before a0 Z = true) : (Jvm.Cond.static ({ cls := "java/lang/Math", name := "max", desc := "(JJ)J" } : Jvm.MethodName)).before a0 Z = true := hw _ (List.mem_of_getElem? (i := 37) rfl)
theorem wd_38 {a0 : Array Value} {Z : State} (hw : ∀ d ∈ tables_1, d.before a0 Z = true) : (Jvm.Cond.initialized "java/lang/Math").before a0 Z = true := hw _ (List.mem_of_getElem? (i := 38) rfl)
theorem wd_39 {a0 : Array Value} {Z : State} (hw : ∀ d ∈ tables_1, d.before a0 Z = true) : (Jvm.Cond.code ({ cls := "java/lang/Math", name := "max", desc := "(JJ)J" } : Jvm.MethodName) jdk_29_method_66_code (4 : Nat) (Option.some Jvm.ClassFile.FieldType.long)).before a0 Z = true := hw _ (List.mem_of_getElem? (i := 39) rfl)
theorem wd_40 {a0 : Array Value} {Z : State} (hw : ∀ d ∈ tables_1, d.before a0 Z = true) : (Jvm.Cond.constantLong "com/example/offset/offset/log/BatchTableFirstReachingPinLaw" (20 : Nat) (20 : Int64)).before a0 Z = true := hw _ (List.mem_of_getElem? (i := 40) rfl)
theorem wd_41 {a0 : Array Value} {Z : State} (hw : ∀ d ∈ tables_1, d.before a0 Z = true) : (Jvm.Cond.constantLong "com/example/offset/offset/log/BatchTableFirstReachingPinLaw" (22 : Nat) (3 : Int64)).before a0 Z = true := hw _ (List.mem_of_getElem? (i := 41) rfl)
theorem wd_42 {a0 : Array Value} {Z : State} (hw : ∀ d ∈ tables_1, d.before a0 Z = true) : (Jvm.Cond.constantLong "com/example/offset/offset/log/BatchTableFirstReachingPinLaw" (24 : Nat) (30 : Int64)).before a0 Z = true := hw _ (List.mem_of_getElem? (i := 42) rfl)
theorem wd_43 {a0 : Array Value} {Z : State} (hw : ∀ d ∈ tables_1, d.before a0 Z = true) : (Jvm.Cond.constantLong "com/example/offset/offset/log/BatchTableFirstReachingPinLaw" (26 : Nat) (4 : Int64)).before a0 Z = true := hw _ (List.mem_of_getElem? (i := 43) rfl)
theorem D0_0 : In code 0 1 (.iload_n 0) 1 := ⟨at_0, rfl⟩
theorem D0_1 : In code 1 1 (.iconst 1) 2 := ⟨at_1, rfl⟩
theorem D0_2 : In code 2 1 (.iand) 3 := ⟨at_2, rfl⟩
theorem D0_3 : Jm code 3 (.ifCond .eq) 6 10 := ⟨7, at_3, rfl, by decide, by decide⟩
theorem D0_6 : In code 6 1 (.iconst 1) 7 := ⟨at_6, rfl⟩
theorem D0_7 : Jm code 7 .goto 10 11 := ⟨4, at_7, rfl, by decide, by decide⟩
theorem D0_10 : In code 10 1 (.iconst 0) 11 := ⟨at_10, rfl⟩
theorem D0_11 : In code 11 2 (.istore 11) 13 := ⟨at_11, rfl⟩
theorem D0_13 : In code 13 1 (.iload_n 0) 14 := ⟨at_13, rfl⟩
theorem D0_14 : In code 14 1 (.iconst 1) 15 := ⟨at_14, rfl⟩
theorem D0_15 : In code 15 1 (.iushr) 16 := ⟨at_15, rfl⟩
theorem D0_16 : In code 16 1 (.iconst 5) 17 := ⟨at_16, rfl⟩
theorem D0_17 : In code 17 1 (.irem) 18 := ⟨at_17, rfl⟩
theorem D0_18 : In code 18 2 (.istore 12) 20 := ⟨at_18, rfl⟩
theorem D0_20 : In code 20 3 (.new 7) 23 := ⟨at_20, rfl⟩
theorem D0_23 : In code 23 1 (.dup) 24 := ⟨at_23, rfl⟩
theorem D0_24 : In code 24 2 (.iload 11) 26 := ⟨at_24, rfl⟩
theorem D0_26 : In code 26 3 (.invokespecial 9) 29 := ⟨at_26, rfl⟩
theorem D0_29 : In code 29 2 (.astore 13) 31 := ⟨at_29, rfl⟩
theorem D0_31 : In code 31 2 (.iload 12) 33 := ⟨at_31, rfl⟩
theorem D0_33 : Jm code 33 (.ifCond .le) 36 45 := ⟨12, at_33, rfl, by decide, by decide⟩
theorem D0_36 : In code 36 2 (.aload 13) 38 := ⟨at_36, rfl⟩
theorem D0_38 : In code 38 1 (.lconst 0) 39 := ⟨at_38, rfl⟩
theorem D0_39 : In code 39 1 (.lconst 0) 40 := ⟨at_39, rfl⟩
theorem D0_40 : In code 40 1 (.lconst 1) 41 := ⟨at_40, rfl⟩
theorem D0_41 : In code 41 1 (.lload_n 1) 42 := ⟨at_41, rfl⟩
theorem D0_42 : In code 42 3 (.invokevirtual 12) 45 := ⟨at_42, rfl⟩
theorem D0_45 : In code 45 2 (.iload 12) 47 := ⟨at_45, rfl⟩
theorem D0_47 : In code 47 1 (.iconst 1) 48 := ⟨at_47, rfl⟩
theorem D0_48 : Jm code 48 (.if_icmp .le) 51 64 := ⟨16, at_48, rfl, by decide, by decide⟩
theorem D0_51 : In code 51 2 (.aload 13) 53 := ⟨at_51, rfl⟩
theorem D0_53 : In code 53 1 (.lconst 1) 54 := ⟨at_53, rfl⟩
theorem D0_54 : In code 54 3 (.ldc2_w 16) 57 := ⟨at_54, rfl⟩
theorem D0_57 : In code 57 3 (.ldc2_w 18) 60 := ⟨at_57, rfl⟩
theorem D0_60 : In code 60 1 (.lload_n 3) 61 := ⟨at_60, rfl⟩
theorem D0_61 : In code 61 3 (.invokevirtual 12) 64 := ⟨at_61, rfl⟩
theorem D0_64 : In code 64 2 (.iload 12) 66 := ⟨at_64, rfl⟩
theorem D0_66 : In code 66 1 (.iconst 2) 67 := ⟨at_66, rfl⟩
theorem D0_67 : Jm code 67 (.if_icmp .le) 70 86 := ⟨19, at_67, rfl, by decide, by decide⟩
theorem D0_70 : In code 70 2 (.aload 13) 72 := ⟨at_70, rfl⟩
theorem D0_72 : In code 72 3 (.ldc2_w 18) 75 := ⟨at_72, rfl⟩
theorem D0_75 : In code 75 3 (.ldc2_w 20) 78 := ⟨at_75, rfl⟩
theorem D0_78 : In code 78 3 (.ldc2_w 22) 81 := ⟨at_78, rfl⟩
theorem D0_81 : In code 81 2 (.lload 5) 83 := ⟨at_81, rfl⟩
theorem D0_83 : In code 83 3 (.invokevirtual 12) 86 := ⟨at_83, rfl⟩
theorem D0_86 : In code 86 2 (.iload 12) 88 := ⟨at_86, rfl⟩
theorem D0_88 : In code 88 1 (.iconst 3) 89 := ⟨at_88, rfl⟩
theorem D0_89 : Jm code 89 (.if_icmp .le) 92 108 := ⟨19, at_89, rfl, by decide, by decide⟩
theorem D0_92 : In code 92 2 (.aload 13) 94 := ⟨at_92, rfl⟩
theorem D0_94 : In code 94 3 (.ldc2_w 22) 97 := ⟨at_94, rfl⟩
theorem D0_97 : In code 97 3 (.ldc2_w 24) 100 := ⟨at_97, rfl⟩
theorem D0_100 : In code 100 3 (.ldc2_w 26) 103 := ⟨at_100, rfl⟩
theorem D0_103 : In code 103 2 (.lload 7) 105 := ⟨at_103, rfl⟩
theorem D0_105 : In code 105 3 (.invokevirtual 12) 108 := ⟨at_105, rfl⟩
theorem D0_108 : In code 108 2 (.aload 13) 110 := ⟨at_108, rfl⟩
theorem D0_110 : In code 110 2 (.lload 9) 112 := ⟨at_110, rfl⟩
theorem D0_112 : In code 112 3 (.invokevirtual 28) 115 := ⟨at_112, rfl⟩
theorem D0_115 : In code 115 2 (.istore 14) 117 := ⟨at_115, rfl⟩
theorem D0_117 : In code 117 2 (.iload 12) 119 := ⟨at_117, rfl⟩
theorem D0_119 : In code 119 2 (.istore 15) 121 := ⟨at_119, rfl⟩
theorem D0_121 : In code 121 2 (.iload 12) 123 := ⟨at_121, rfl⟩
theorem D0_123 : In code 123 1 (.iconst 3) 124 := ⟨at_123, rfl⟩
theorem D0_124 : Jm code 124 (.if_icmp .le) 127 138 := ⟨14, at_124, rfl, by decide, by decide⟩
theorem D0_127 : In code 127 2 (.lload 7) 129 := ⟨at_127, rfl⟩
theorem D0_129 : In code 129 2 (.lload 9) 131 := ⟨at_129, rfl⟩
theorem D0_131 : In code 131 1 (.lcmp) 132 := ⟨at_131, rfl⟩
theorem D0_132 : Jm code 132 (.ifCond .lt) 135 138 := ⟨6, at_132, rfl, by decide, by decide⟩
theorem D0_135 : In code 135 1 (.iconst 3) 136 := ⟨at_135, rfl⟩
theorem D0_136 : In code 136 2 (.istore 15) 138 := ⟨at_136, rfl⟩
theorem D0_138 : In code 138 2 (.iload 12) 140 := ⟨at_138, rfl⟩
theorem D0_140 : In code 140 1 (.iconst 2) 141 := ⟨at_140, rfl⟩
theorem D0_141 : Jm code 141 (.if_icmp .le) 144 155 := ⟨14, at_141, rfl, by decide, by decide⟩
theorem D0_144 : In code 144 2 (.lload 5) 146 := ⟨at_144, rfl⟩
theorem D0_146 : In code 146 2 (.lload 9) 148 := ⟨at_146, rfl⟩
theorem D0_148 : In code 148 1 (.lcmp) 149 := ⟨at_148, rfl⟩
theorem D0_149 : Jm code 149 (.ifCond .lt) 152 155 := ⟨6, at_149, rfl, by decide, by decide⟩
theorem D0_152 : In code 152 1 (.iconst 2) 153 := ⟨at_152, rfl⟩
theorem D0_153 : In code 153 2 (.istore 15) 155 := ⟨at_153, rfl⟩
theorem D0_155 : In code 155 2 (.iload 12) 157 := ⟨at_155, rfl⟩
theorem D0_157 : In code 157 1 (.iconst 1) 158 := ⟨at_157, rfl⟩
theorem D0_158 : Jm code 158 (.if_icmp .le) 161 171 := ⟨13, at_158, rfl, by decide, by decide⟩
theorem D0_161 : In code 161 1 (.lload_n 3) 162 := ⟨at_161, rfl⟩
theorem D0_162 : In code 162 2 (.lload 9) 164 := ⟨at_162, rfl⟩
theorem D0_164 : In code 164 1 (.lcmp) 165 := ⟨at_164, rfl⟩
theorem D0_165 : Jm code 165 (.ifCond .lt) 168 171 := ⟨6, at_165, rfl, by decide, by decide⟩
theorem D0_168 : In code 168 1 (.iconst 1) 169 := ⟨at_168, rfl⟩
theorem D0_169 : In code 169 2 (.istore 15) 171 := ⟨at_169, rfl⟩
theorem D0_171 : In code 171 2 (.iload 12) 173 := ⟨at_171, rfl⟩
theorem D0_173 : Jm code 173 (.ifCond .le) 176 186 := ⟨13, at_173, rfl, by decide, by decide⟩
theorem D0_176 : In code 176 1 (.lload_n 1) 177 := ⟨at_176, rfl⟩
theorem D0_177 : In code 177 2 (.lload 9) 179 := ⟨at_177, rfl⟩
theorem D0_179 : In code 179 1 (.lcmp) 180 := ⟨at_179, rfl⟩
theorem D0_180 : Jm code 180 (.ifCond .lt) 183 186 := ⟨6, at_180, rfl, by decide, by decide⟩
theorem D0_183 : In code 183 1 (.iconst 0) 184 := ⟨at_183, rfl⟩
theorem D0_184 : In code 184 2 (.istore 15) 186 := ⟨at_184, rfl⟩
theorem D0_186 : In code 186 2 (.iload 14) 188 := ⟨at_186, rfl⟩
theorem D0_188 : In code 188 2 (.iload 15) 190 := ⟨at_188, rfl⟩
theorem D0_190 : Jm code 190 (.if_icmp .ne) 193 197 := ⟨7, at_190, rfl, by decide, by decide⟩
theorem D0_193 : In code 193 1 (.iconst 1) 194 := ⟨at_193, rfl⟩
theorem D0_194 : Jm code 194 .goto 197 198 := ⟨4, at_194, rfl, by decide, by decide⟩
theorem D0_198 : In code 198 1 (.ireturn) 199 := ⟨at_198, rfl⟩
theorem D1_0 : In prog_45_method_1_code 0 1 (.aload_n 0) 1 := ⟨by decide +kernel, rfl⟩
theorem D1_1 : In prog_45_method_1_code 1 3 (.invokespecial 1) 4 := ⟨by decide +kernel, rfl⟩
theorem D1_4 : In prog_45_method_1_code 4 1 (.aload_n 0) 5 := ⟨by decide +kernel, rfl⟩
theorem D1_5 : In prog_45_method_1_code 5 2 (.bipush 64) 7 := ⟨by decide +kernel, rfl⟩
theorem D1_7 : In prog_45_method_1_code 7 2 (.newarray .long) 9 := ⟨by decide +kernel, rfl⟩
theorem D1_9 : In prog_45_method_1_code 9 3 (.putfield 9) 12 := ⟨by decide +kernel, rfl⟩
theorem D1_12 : In prog_45_method_1_code 12 1 (.aload_n 0) 13 := ⟨by decide +kernel, rfl⟩
theorem D1_13 : In prog_45_method_1_code 13 2 (.bipush 64) 15 := ⟨by decide +kernel, rfl⟩
theorem D1_15 : In prog_45_method_1_code 15 2 (.newarray .long) 17 := ⟨by decide +kernel, rfl⟩
theorem D1_17 : In prog_45_method_1_code 17 3 (.putfield 13) 20 := ⟨by decide +kernel, rfl⟩
theorem D1_20 : In prog_45_method_1_code 20 1 (.aload_n 0) 21 := ⟨by decide +kernel, rfl⟩
theorem D1_21 : In prog_45_method_1_code 21 2 (.bipush 64) 23 := ⟨by decide +kernel, rfl⟩
theorem D1_23 : In prog_45_method_1_code 23 2 (.newarray .long) 25 := ⟨by decide +kernel, rfl⟩
theorem D1_25 : In prog_45_method_1_code 25 3 (.putfield 16) 28 := ⟨by decide +kernel, rfl⟩
theorem D1_28 : In prog_45_method_1_code 28 1 (.aload_n 0) 29 := ⟨by decide +kernel, rfl⟩
theorem D1_29 : In prog_45_method_1_code 29 1 (.iload_n 1) 30 := ⟨by decide +kernel, rfl⟩
theorem D1_30 : In prog_45_method_1_code 30 3 (.putfield 19) 33 := ⟨by decide +kernel, rfl⟩
theorem D1_33 : In prog_45_method_1_code 33 1 (.aload_n 0) 34 := ⟨by decide +kernel, rfl⟩
theorem D1_34 : In prog_45_method_1_code 34 1 (.iload_n 1) 35 := ⟨by decide +kernel, rfl⟩
theorem D1_35 : Jm prog_45_method_1_code 35 (.ifCond .eq) 38 45 := ⟨10, by decide +kernel, rfl, by decide, by decide⟩
theorem D1_38 : In prog_45_method_1_code 38 2 (.bipush 64) 40 := ⟨by decide +kernel, rfl⟩
theorem D1_40 : In prog_45_method_1_code 40 2 (.newarray .long) 42 := ⟨by decide +kernel, rfl⟩
theorem D1_42 : Jm prog_45_method_1_code 42 .goto 45 46 := ⟨4, by decide +kernel, rfl, by decide, by decide⟩
theorem D1_45 : In prog_45_method_1_code 45 1 (.aconst_null) 46 := ⟨by decide +kernel, rfl⟩
theorem D1_46 : In prog_45_method_1_code 46 3 (.putfield 23) 49 := ⟨by decide +kernel, rfl⟩
theorem D1_49 : In prog_45_method_1_code 49 1 (.return_) 50 := ⟨by decide +kernel, rfl⟩
theorem D3_0 : In prog_45_method_10_code 0 1 (.iconst 0) 1 := ⟨by decide +kernel, rfl⟩
theorem D3_1 : In prog_45_method_10_code 1 1 (.istore_n 3) 2 := ⟨by decide +kernel, rfl⟩
theorem D3_2 : In prog_45_method_10_code 2 1 (.aload_n 0) 3 := ⟨by decide +kernel, rfl⟩
theorem D3_3 : In prog_45_method_10_code 3 3 (.getfield 26) 6 := ⟨by decide +kernel, rfl⟩
theorem D3_6 : In prog_45_method_10_code 6 2 (.istore 4) 8 := ⟨by decide +kernel, rfl⟩
theorem D3_8 : In prog_45_method_10_code 8 1 (.iload_n 3) 9 := ⟨by decide +kernel, rfl⟩
theorem D3_9 : In prog_45_method_10_code 9 2 (.iload 4) 11 := ⟨by decide +kernel, rfl⟩
theorem D3_11 : Jm prog_45_method_10_code 11 (.if_icmp .ge) 14 49 := ⟨38, by decide +kernel, rfl, by decide, by decide⟩
theorem D3_14 : In prog_45_method_10_code 14 1 (.iload_n 3) 15 := ⟨by decide +kernel, rfl⟩
theorem D3_15 : In prog_45_method_10_code 15 2 (.iload 4) 17 := ⟨by decide +kernel, rfl⟩
theorem D3_17 : In prog_45_method_10_code 17 1 (.iadd) 18 := ⟨by decide +kernel, rfl⟩
theorem D3_18 : In prog_45_method_10_code 18 1 (.iconst 1) 19 := ⟨by decide +kernel, rfl⟩
theorem D3_19 : In prog_45_method_10_code 19 1 (.iushr) 20 := ⟨by decide +kernel, rfl⟩
theorem D3_20 : In prog_45_method_10_code 20 2 (.istore 5) 22 := ⟨by decide +kernel, rfl⟩
theorem D3_22 : In prog_45_method_10_code 22 1 (.aload_n 0) 23 := ⟨by decide +kernel, rfl⟩
theorem D3_23 : In prog_45_method_10_code 23 3 (.getfield 16) 26 := ⟨by decide +kernel, rfl⟩
theorem D3_26 : In prog_45_method_10_code 26 2 (.iload 5) 28 := ⟨by decide +kernel, rfl⟩
theorem D3_28 : In prog_45_method_10_code 28 1 (.laload) 29 := ⟨by decide +kernel, rfl⟩
theorem D3_29 : In prog_45_method_10_code 29 1 (.lload_n 1) 30 := ⟨by decide +kernel, rfl⟩
theorem D3_30 : In prog_45_method_10_code 30 1 (.lcmp) 31 := ⟨by decide +kernel, rfl⟩
theorem D3_31 : Jm prog_45_method_10_code 31 (.ifCond .ge) 34 42 := ⟨11, by decide +kernel, rfl, by decide, by decide⟩
theorem D3_34 : In prog_45_method_10_code 34 2 (.iload 5) 36 := ⟨by decide +kernel, rfl⟩
theorem D3_36 : In prog_45_method_10_code 36 1 (.iconst 1) 37 := ⟨by decide +kernel, rfl⟩
theorem D3_37 : In prog_45_method_10_code 37 1 (.iadd) 38 := ⟨by decide +kernel, rfl⟩
theorem D3_38 : In prog_45_method_10_code 38 1 (.istore_n 3) 39 := ⟨by decide +kernel, rfl⟩
theorem D3_39 : Jm prog_45_method_10_code 39 .goto 42 46 := ⟨7, by decide +kernel, rfl, by decide, by decide⟩
theorem D3_42 : In prog_45_method_10_code 42 2 (.iload 5) 44 := ⟨by decide +kernel, rfl⟩
theorem D3_44 : In prog_45_method_10_code 44 2 (.istore 4) 46 := ⟨by decide +kernel, rfl⟩
theorem D3_46 : Jm prog_45_method_10_code 46 .goto 49 8 := ⟨(-38), by decide +kernel, rfl, by decide, by decide⟩
theorem D3_49 : In prog_45_method_10_code 49 1 (.iload_n 3) 50 := ⟨by decide +kernel, rfl⟩
theorem D3_50 : In prog_45_method_10_code 50 1 (.ireturn) 51 := ⟨by decide +kernel, rfl⟩
theorem D4_0 : In prog_45_method_7_code 0 1 (.aload_n 0) 1 := ⟨by decide +kernel, rfl⟩
theorem D4_1 : In prog_45_method_7_code 1 3 (.getfield 26) 4 := ⟨by decide +kernel, rfl⟩
theorem D4_4 : In prog_45_method_7_code 4 1 (.aload_n 0) 5 := ⟨by decide +kernel, rfl⟩
theorem D4_5 : In prog_45_method_7_code 5 3 (.getfield 9) 8 := ⟨by decide +kernel, rfl⟩
theorem D4_8 : In prog_45_method_7_code 8 1 (.arraylength) 9 := ⟨by decide +kernel, rfl⟩
theorem D4_9 : Jm prog_45_method_7_code 9 (.if_icmp .ne) 12 87 := ⟨78, by decide +kernel, rfl, by decide, by decide⟩
theorem D4_87 : In prog_45_method_7_code 87 1 (.aload_n 0) 88 := ⟨by decide +kernel, rfl⟩
theorem D4_88 : In prog_45_method_7_code 88 3 (.getfield 9) 91 := ⟨by decide +kernel, rfl⟩
theorem D4_91 : In prog_45_method_7_code 91 1 (.aload_n 0) 92 := ⟨by decide +kernel, rfl⟩
theorem D4_92 : In prog_45_method_7_code 92 3 (.getfield 26) 95 := ⟨by decide +kernel, rfl⟩
theorem D4_95 : In prog_45_method_7_code 95 1 (.lload_n 1) 96 := ⟨by decide +kernel, rfl⟩
theorem D4_96 : In prog_45_method_7_code 96 1 (.lastore) 97 := ⟨by decide +kernel, rfl⟩
theorem D4_97 : In prog_45_method_7_code 97 1 (.aload_n 0) 98 := ⟨by decide +kernel, rfl⟩
theorem D4_98 : In prog_45_method_7_code 98 3 (.getfield 13) 101 := ⟨by decide +kernel, rfl⟩
theorem D4_101 : In prog_45_method_7_code 101 1 (.aload_n 0) 102 := ⟨by decide +kernel, rfl⟩
theorem D4_102 : In prog_45_method_7_code 102 3 (.getfield 26) 105 := ⟨by decide +kernel, rfl⟩
theorem D4_105 : In prog_45_method_7_code 105 1 (.lload_n 3) 106 := ⟨by decide +kernel, rfl⟩
theorem D4_106 : In prog_45_method_7_code 106 1 (.lastore) 107 := ⟨by decide +kernel, rfl⟩
theorem D4_107 : In prog_45_method_7_code 107 1 (.aload_n 0) 108 := ⟨by decide +kernel, rfl⟩
theorem D4_108 : In prog_45_method_7_code 108 3 (.getfield 16) 111 := ⟨by decide +kernel, rfl⟩
theorem D4_111 : In prog_45_method_7_code 111 1 (.aload_n 0) 112 := ⟨by decide +kernel, rfl⟩
theorem D4_112 : In prog_45_method_7_code 112 3 (.getfield 26) 115 := ⟨by decide +kernel, rfl⟩
theorem D4_115 : In prog_45_method_7_code 115 1 (.aload_n 0) 116 := ⟨by decide +kernel, rfl⟩
theorem D4_116 : In prog_45_method_7_code 116 3 (.getfield 26) 119 := ⟨by decide +kernel, rfl⟩
theorem D4_119 : Jm prog_45_method_7_code 119 (.ifCond .ne) 122 127 := ⟨8, by decide +kernel, rfl, by decide, by decide⟩
theorem D4_122 : In prog_45_method_7_code 122 2 (.lload 7) 124 := ⟨by decide +kernel, rfl⟩
theorem D4_124 : Jm prog_45_method_7_code 124 .goto 127 143 := ⟨19, by decide +kernel, rfl, by decide, by decide⟩
theorem D4_127 : In prog_45_method_7_code 127 1 (.aload_n 0) 128 := ⟨by decide +kernel, rfl⟩
theorem D4_128 : In prog_45_method_7_code 128 3 (.getfield 16) 131 := ⟨by decide +kernel, rfl⟩
theorem D4_131 : In prog_45_method_7_code 131 1 (.aload_n 0) 132 := ⟨by decide +kernel, rfl⟩
theorem D4_132 : In prog_45_method_7_code 132 3 (.getfield 26) 135 := ⟨by decide +kernel, rfl⟩
theorem D4_135 : In prog_45_method_7_code 135 1 (.iconst 1) 136 := ⟨by decide +kernel, rfl⟩
theorem D4_136 : In prog_45_method_7_code 136 1 (.isub) 137 := ⟨by decide +kernel, rfl⟩
theorem D4_137 : In prog_45_method_7_code 137 1 (.laload) 138 := ⟨by decide +kernel, rfl⟩
theorem D4_138 : In prog_45_method_7_code 138 2 (.lload 7) 140 := ⟨by decide +kernel, rfl⟩
theorem D4_140 : In prog_45_method_7_code 140 3 (.invokestatic 40) 143 := ⟨by decide +kernel, rfl⟩
theorem D4_143 : In prog_45_method_7_code 143 1 (.lastore) 144 := ⟨by decide +kernel, rfl⟩
theorem D4_144 : In prog_45_method_7_code 144 1 (.aload_n 0) 145 := ⟨by decide +kernel, rfl⟩
theorem D4_145 : In prog_45_method_7_code 145 3 (.getfield 19) 148 := ⟨by decide +kernel, rfl⟩
theorem D4_148 : Jm prog_45_method_7_code 148 (.ifCond .eq) 151 162 := ⟨14, by decide +kernel, rfl, by decide, by decide⟩
theorem D4_151 : In prog_45_method_7_code 151 1 (.aload_n 0) 152 := ⟨by decide +kernel, rfl⟩
theorem D4_152 : In prog_45_method_7_code 152 3 (.getfield 23) 155 := ⟨by decide +kernel, rfl⟩
theorem D4_155 : In prog_45_method_7_code 155 1 (.aload_n 0) 156 := ⟨by decide +kernel, rfl⟩
theorem D4_156 : In prog_45_method_7_code 156 3 (.getfield 26) 159 := ⟨by decide +kernel, rfl⟩
theorem D4_159 : In prog_45_method_7_code 159 2 (.lload 5) 161 := ⟨by decide +kernel, rfl⟩
theorem D4_161 : In prog_45_method_7_code 161 1 (.lastore) 162 := ⟨by decide +kernel, rfl⟩
theorem D4_162 : In prog_45_method_7_code 162 1 (.aload_n 0) 163 := ⟨by decide +kernel, rfl⟩
theorem D4_163 : In prog_45_method_7_code 163 1 (.dup) 164 := ⟨by decide +kernel, rfl⟩
theorem D4_164 : In prog_45_method_7_code 164 3 (.getfield 26) 167 := ⟨by decide +kernel, rfl⟩
theorem D4_167 : In prog_45_method_7_code 167 1 (.iconst 1) 168 := ⟨by decide +kernel, rfl⟩
theorem D4_168 : In prog_45_method_7_code 168 1 (.iadd) 169 := ⟨by decide +kernel, rfl⟩
theorem D4_169 : In prog_45_method_7_code 169 3 (.putfield 26) 172 := ⟨by decide +kernel, rfl⟩
theorem D4_172 : In prog_45_method_7_code 172 1 (.aload_n 0) 173 := ⟨by decide +kernel, rfl⟩
theorem D4_173 : In prog_45_method_7_code 173 2 (.lload 5) 175 := ⟨by decide +kernel, rfl⟩
theorem D4_175 : In prog_45_method_7_code 175 3 (.putfield 30) 178 := ⟨by decide +kernel, rfl⟩
theorem D4_178 : In prog_45_method_7_code 178 1 (.return_) 179 := ⟨by decide +kernel, rfl⟩
theorem D5_0 : In jdk_29_method_66_code 0 1 (.lload_n 0) 1 := ⟨by decide +kernel, rfl⟩
theorem D5_1 : In jdk_29_method_66_code 1 1 (.lload_n 2) 2 := ⟨by decide +kernel, rfl⟩
theorem D5_2 : In jdk_29_method_66_code 2 1 (.lcmp) 3 := ⟨by decide +kernel, rfl⟩
theorem D5_3 : Jm jdk_29_method_66_code 3 (.ifCond .lt) 6 10 := ⟨7, by decide +kernel, rfl, by decide, by decide⟩
theorem D5_6 : In jdk_29_method_66_code 6 1 (.lload_n 0) 7 := ⟨by decide +kernel, rfl⟩
theorem D5_7 : Jm jdk_29_method_66_code 7 .goto 10 11 := ⟨4, by decide +kernel, rfl, by decide, by decide⟩
theorem D5_10 : In jdk_29_method_66_code 10 1 (.lload_n 2) 11 := ⟨by decide +kernel, rfl⟩
theorem D5_11 : In jdk_29_method_66_code 11 1 (.lreturn) 12 := ⟨by decide +kernel, rfl⟩
theorem pd_0 : parseMethodDescriptor "(JJ)J" = some ⟨[.long, .long], some .long⟩ := by decide +kernel
theorem pd_1 : parseMethodDescriptor "(Z)V" = some ⟨[.boolean], none⟩ := by decide +kernel
theorem pd_2 : parseMethodDescriptor "(J)I" = some ⟨[.long], some .int⟩ := by decide +kernel
theorem pd_3 : parseMethodDescriptor "(JJJJ)V" = some ⟨[.long, .long, .long, .long], none⟩ := by decide +kernel
theorem pn_0 : plainName "com/example/offset/offset/log/BatchTable" = true := by first | (simp [plainName, overriddenIn]; done) | decide +kernel
theorem pn_1 : plainName "com/example/offset/offset/log/BatchTableFirstReachingPinLaw" = true := by first | (simp [plainName, overriddenIn]; done) | decide +kernel
def RB (Z : State) (h : Heap) (a : Addr) (f0 : Value) (f1 : Value) (f2 : Value) (f3 : Int32) (f4 : Value) (f5 : Int32) (f6 : Int64) : Prop := Exa Z h a "com/example/offset/offset/log/BatchTable" ∧ Fld Z h a "com/example/offset/offset/log/BatchTable" "offsets" "[J" f0 ∧ Fld Z h a "com/example/offset/offset/log/BatchTable" "positions" "[J" f1 ∧ Fld Z h a "com/example/offset/offset/log/BatchTable" "maxTimestampsUpTo" "[J" f2 ∧ Fld Z h a "com/example/offset/offset/log/BatchTable" "gaps" "Z" (.int f3) ∧ Fld Z h a "com/example/offset/offset/log/BatchTable" "ends" "[J" f4 ∧ Fld Z h a "com/example/offset/offset/log/BatchTable" "count" "I" (.int f5) ∧ Fld Z h a "com/example/offset/offset/log/BatchTable" "lastEnd" "J" (.long f6)
theorem RB.lt {Z : State} {h : Heap} {a : Addr} {f0 : Value} {f1 : Value} {f2 : Value} {f3 : Int32} {f4 : Value} {f5 : Int32} {f6 : Int64} (H : RB Z h a f0 f1 f2 f3 f4 f5 f6) : a < h.size := H.1.lt
theorem RB.ext {Z : State} {h h' : Heap} {a : Addr} {f0 : Value} {f1 : Value} {f2 : Value} {f3 : Int32} {f4 : Value} {f5 : Int32} {f6 : Int64} (H : RB Z h a f0 f1 f2 f3 f4 f5 f6) (E : Ext h h') : RB Z h' a f0 f1 f2 f3 f4 f5 f6 := ⟨H.1.ext E, H.2.1.ext E, H.2.2.1.ext E, H.2.2.2.1.ext E, H.2.2.2.2.1.ext E, H.2.2.2.2.2.1.ext E, H.2.2.2.2.2.2.1.ext E, H.2.2.2.2.2.2.2.ext E⟩
theorem RB.keep {Z : State} {h h' : Heap} {a : Addr} {f0 : Value} {f1 : Value} {f2 : Value} {f3 : Int32} {f4 : Value} {f5 : Int32} {f6 : Int64} {ws : List Addr} (H : RB Z h a f0 f1 f2 f3 f4 f5 f6) (K : Keep h h' ws) (q : a ∉ ws) : RB Z h' a f0 f1 f2 f3 f4 f5 f6 := ⟨H.1.keep K, H.2.1.keep K q, H.2.2.1.keep K q, H.2.2.2.1.keep K q, H.2.2.2.2.1.keep K q, H.2.2.2.2.2.1.keep K q, H.2.2.2.2.2.2.1.keep K q, H.2.2.2.2.2.2.2.keep K q⟩
theorem RB.other {Z : State} {h h' : Heap} {a : Addr} {f0 : Value} {f1 : Value} {f2 : Value} {f3 : Int32} {f4 : Value} {f5 : Int32} {f6 : Int64} {b : Addr} {sl : Nat} {v : Value} (H : RB Z h a f0 f1 f2 f3 f4 f5 f6) (W : Wr h h' b sl v) (q : a ≠ b) : RB Z h' a f0 f1 f2 f3 f4 f5 f6 := ⟨H.1.wr W, H.2.1.other W (Or.inl q), H.2.2.1.other W (Or.inl q), H.2.2.2.1.other W (Or.inl q), H.2.2.2.2.1.other W (Or.inl q), H.2.2.2.2.2.1.other W (Or.inl q), H.2.2.2.2.2.2.1.other W (Or.inl q), H.2.2.2.2.2.2.2.other W (Or.inl q)⟩
theorem RB.set_offsets {Z : State} {h h' : Heap} {a : Addr} {f0 : Value} {f1 : Value} {f2 : Value} {f3 : Int32} {f4 : Value} {f5 : Int32} {f6 : Int64} {a0 : Array Value} (hw : ∀ d ∈ tables_1, d.before a0 Z = true) {g : Value} (H : RB Z h a f0 f1 f2 f3 f4 f5 f6) (W : Wr h h' a (Jvm.RoadKit.slotOf Z "com/example/offset/offset/log/BatchTable" "offsets" "[J") g) : RB Z h' a g f1 f2 f3 f4 f5 f6 := ⟨H.1.wr W, H.2.1.same W, H.2.2.1.other W (Or.inr (slot_ne (Or.inl (wd_13 hw)) (Or.inl (wd_11 hw)) (by decide) (t := (.array .long)) (t' := (.array .long)) (by decide) (by decide))), H.2.2.2.1.other W (Or.inr (slot_ne (Or.inl (wd_15 hw)) (Or.inl (wd_11 hw)) (by decide) (t := (.array .long)) (t' := (.array .long)) (by decide) (by decide))), H.2.2.2.2.1.other W (Or.inr (slot_ne (Or.inr (wd_17 hw)) (Or.inl (wd_11 hw)) (by decide) (t := .boolean) (t' := (.array .long)) (by decide) (by decide))), H.2.2.2.2.2.1.other W (Or.inr (slot_ne (Or.inl (wd_19 hw)) (Or.inl (wd_11 hw)) (by decide) (t := (.array .long)) (t' := (.array .long)) (by decide) (by decide))), H.2.2.2.2.2.2.1.other W (Or.inr (slot_ne (Or.inl (wd_26 hw)) (Or.inl (wd_11 hw)) (by decide) (t := .int) (t' := (.array .long)) (by decide) (by decide))), H.2.2.2.2.2.2.2.other W (Or.inr (slot_ne (Or.inl (wd_33 hw)) (Or.inl (wd_11 hw)) (by decide) (t := .long) (t' := (.array .long)) (by decide) (by decide)))⟩
theorem RB.set_positions {Z : State} {h h' : Heap} {a : Addr} {f0 : Value} {f1 : Value} {f2 : Value} {f3 : Int32} {f4 : Value} {f5 : Int32} {f6 : Int64} {a0 : Array Value} (hw : ∀ d ∈ tables_1, d.before a0 Z = true) {g : Value} (H : RB Z h a f0 f1 f2 f3 f4 f5 f6) (W : Wr h h' a (Jvm.RoadKit.slotOf Z "com/example/offset/offset/log/BatchTable" "positions" "[J") g) : RB Z h' a f0 g f2 f3 f4 f5 f6 := ⟨H.1.wr W, H.2.1.other W (Or.inr (slot_ne (Or.inl (wd_11 hw)) (Or.inl (wd_13 hw)) (by decide) (t := (.array .long)) (t' := (.array .long)) (by decide) (by decide))), H.2.2.1.same W, H.2.2.2.1.other W (Or.inr (slot_ne (Or.inl (wd_15 hw)) (Or.inl (wd_13 hw)) (by decide) (t := (.array .long)) (t' := (.array .long)) (by decide) (by decide))), H.2.2.2.2.1.other W (Or.inr (slot_ne (Or.inr (wd_17 hw)) (Or.inl (wd_13 hw)) (by decide) (t := .boolean) (t' := (.array .long)) (by decide) (by decide))), H.2.2.2.2.2.1.other W (Or.inr (slot_ne (Or.inl (wd_19 hw)) (Or.inl (wd_13 hw)) (by decide) (t := (.array .long)) (t' := (.array .long)) (by decide) (by decide))), H.2.2.2.2.2.2.1.other W (Or.inr (slot_ne (Or.inl (wd_26 hw)) (Or.inl (wd_13 hw)) (by decide) (t := .int) (t' := (.array .long)) (by decide) (by decide))), H.2.2.2.2.2.2.2.other W (Or.inr (slot_ne (Or.inl (wd_33 hw)) (Or.inl (wd_13 hw)) (by decide) (t := .long) (t' := (.array .long)) (by decide) (by decide)))⟩
theorem RB.set_maxTimestampsUpTo {Z : State} {h h' : Heap} {a : Addr} {f0 : Value} {f1 : Value} {f2 : Value} {f3 : Int32} {f4 : Value} {f5 : Int32} {f6 : Int64} {a0 : Array Value} (hw : ∀ d ∈ tables_1, d.before a0 Z = true) {g : Value} (H : RB Z h a f0 f1 f2 f3 f4 f5 f6) (W : Wr h h' a (Jvm.RoadKit.slotOf Z "com/example/offset/offset/log/BatchTable" "maxTimestampsUpTo" "[J") g) : RB Z h' a f0 f1 g f3 f4 f5 f6 := ⟨H.1.wr W, H.2.1.other W (Or.inr (slot_ne (Or.inl (wd_11 hw)) (Or.inl (wd_15 hw)) (by decide) (t := (.array .long)) (t' := (.array .long)) (by decide) (by decide))), H.2.2.1.other W (Or.inr (slot_ne (Or.inl (wd_13 hw)) (Or.inl (wd_15 hw)) (by decide) (t := (.array .long)) (t' := (.array .long)) (by decide) (by decide))), H.2.2.2.1.same W, H.2.2.2.2.1.other W (Or.inr (slot_ne (Or.inr (wd_17 hw)) (Or.inl (wd_15 hw)) (by decide) (t := .boolean) (t' := (.array .long)) (by decide) (by decide))), H.2.2.2.2.2.1.other W (Or.inr (slot_ne (Or.inl (wd_19 hw)) (Or.inl (wd_15 hw)) (by decide) (t := (.array .long)) (t' := (.array .long)) (by decide) (by decide))), H.2.2.2.2.2.2.1.other W (Or.inr (slot_ne (Or.inl (wd_26 hw)) (Or.inl (wd_15 hw)) (by decide) (t := .int) (t' := (.array .long)) (by decide) (by decide))), H.2.2.2.2.2.2.2.other W (Or.inr (slot_ne (Or.inl (wd_33 hw)) (Or.inl (wd_15 hw)) (by decide) (t := .long) (t' := (.array .long)) (by decide) (by decide)))⟩
theorem RB.set_gaps {Z : State} {h h' : Heap} {a : Addr} {f0 : Value} {f1 : Value} {f2 : Value} {f3 : Int32} {f4 : Value} {f5 : Int32} {f6 : Int64} {a0 : Array Value} (hw : ∀ d ∈ tables_1, d.before a0 Z = true) {g : Int32} (H : RB Z h a f0 f1 f2 f3 f4 f5 f6) (W : Wr h h' a (Jvm.RoadKit.slotOf Z "com/example/offset/offset/log/BatchTable" "gaps" "Z") (.int g)) : RB Z h' a f0 f1 f2 g f4 f5 f6 := ⟨H.1.wr W, H.2.1.other W (Or.inr (slot_ne (Or.inl (wd_11 hw)) (Or.inr (wd_17 hw)) (by decide) (t := (.array .long)) (t' := .boolean) (by decide) (by decide))), H.2.2.1.other W (Or.inr (slot_ne (Or.inl (wd_13 hw)) (Or.inr (wd_17 hw)) (by decide) (t := (.array .long)) (t' := .boolean) (by decide) (by decide))), H.2.2.2.1.other W (Or.inr (slot_ne (Or.inl (wd_15 hw)) (Or.inr (wd_17 hw)) (by decide) (t := (.array .long)) (t' := .boolean) (by decide) (by decide))), H.2.2.2.2.1.same W, H.2.2.2.2.2.1.other W (Or.inr (slot_ne (Or.inl (wd_19 hw)) (Or.inr (wd_17 hw)) (by decide) (t := (.array .long)) (t' := .boolean) (by decide) (by decide))), H.2.2.2.2.2.2.1.other W (Or.inr (slot_ne (Or.inl (wd_26 hw)) (Or.inr (wd_17 hw)) (by decide) (t := .int) (t' := .boolean) (by decide) (by decide))), H.2.2.2.2.2.2.2.other W (Or.inr (slot_ne (Or.inl (wd_33 hw)) (Or.inr (wd_17 hw)) (by decide) (t := .long) (t' := .boolean) (by decide) (by decide)))⟩
theorem RB.set_ends {Z : State} {h h' : Heap} {a : Addr} {f0 : Value} {f1 : Value} {f2 : Value} {f3 : Int32} {f4 : Value} {f5 : Int32} {f6 : Int64} {a0 : Array Value} (hw : ∀ d ∈ tables_1, d.before a0 Z = true) {g : Value} (H : RB Z h a f0 f1 f2 f3 f4 f5 f6) (W : Wr h h' a (Jvm.RoadKit.slotOf Z "com/example/offset/offset/log/BatchTable" "ends" "[J") g) : RB Z h' a f0 f1 f2 f3 g f5 f6 := ⟨H.1.wr W, H.2.1.other W (Or.inr (slot_ne (Or.inl (wd_11 hw)) (Or.inl (wd_19 hw)) (by decide) (t := (.array .long)) (t' := (.array .long)) (by decide) (by decide))), H.2.2.1.other W (Or.inr (slot_ne (Or.inl (wd_13 hw)) (Or.inl (wd_19 hw)) (by decide) (t := (.array .long)) (t' := (.array .long)) (by decide) (by decide))), H.2.2.2.1.other W (Or.inr (slot_ne (Or.inl (wd_15 hw)) (Or.inl (wd_19 hw)) (by decide) (t := (.array .long)) (t' := (.array .long)) (by decide) (by decide))), H.2.2.2.2.1.other W (Or.inr (slot_ne (Or.inr (wd_17 hw)) (Or.inl (wd_19 hw)) (by decide) (t := .boolean) (t' := (.array .long)) (by decide) (by decide))), H.2.2.2.2.2.1.same W, H.2.2.2.2.2.2.1.other W (Or.inr (slot_ne (Or.inl (wd_26 hw)) (Or.inl (wd_19 hw)) (by decide) (t := .int) (t' := (.array .long)) (by decide) (by decide))), H.2.2.2.2.2.2.2.other W (Or.inr (slot_ne (Or.inl (wd_33 hw)) (Or.inl (wd_19 hw)) (by decide) (t := .long) (t' := (.array .long)) (by decide) (by decide)))⟩
theorem RB.set_count {Z : State} {h h' : Heap} {a : Addr} {f0 : Value} {f1 : Value} {f2 : Value} {f3 : Int32} {f4 : Value} {f5 : Int32} {f6 : Int64} {a0 : Array Value} (hw : ∀ d ∈ tables_1, d.before a0 Z = true) {g : Int32} (H : RB Z h a f0 f1 f2 f3 f4 f5 f6) (W : Wr h h' a (Jvm.RoadKit.slotOf Z "com/example/offset/offset/log/BatchTable" "count" "I") (.int g)) : RB Z h' a f0 f1 f2 f3 f4 g f6 := ⟨H.1.wr W, H.2.1.other W (Or.inr (slot_ne (Or.inl (wd_11 hw)) (Or.inl (wd_26 hw)) (by decide) (t := (.array .long)) (t' := .int) (by decide) (by decide))), H.2.2.1.other W (Or.inr (slot_ne (Or.inl (wd_13 hw)) (Or.inl (wd_26 hw)) (by decide) (t := (.array .long)) (t' := .int) (by decide) (by decide))), H.2.2.2.1.other W (Or.inr (slot_ne (Or.inl (wd_15 hw)) (Or.inl (wd_26 hw)) (by decide) (t := (.array .long)) (t' := .int) (by decide) (by decide))), H.2.2.2.2.1.other W (Or.inr (slot_ne (Or.inr (wd_17 hw)) (Or.inl (wd_26 hw)) (by decide) (t := .boolean) (t' := .int) (by decide) (by decide))), H.2.2.2.2.2.1.other W (Or.inr (slot_ne (Or.inl (wd_19 hw)) (Or.inl (wd_26 hw)) (by decide) (t := (.array .long)) (t' := .int) (by decide) (by decide))), H.2.2.2.2.2.2.1.same W, H.2.2.2.2.2.2.2.other W (Or.inr (slot_ne (Or.inl (wd_33 hw)) (Or.inl (wd_26 hw)) (by decide) (t := .long) (t' := .int) (by decide) (by decide)))⟩
theorem RB.set_lastEnd {Z : State} {h h' : Heap} {a : Addr} {f0 : Value} {f1 : Value} {f2 : Value} {f3 : Int32} {f4 : Value} {f5 : Int32} {f6 : Int64} {a0 : Array Value} (hw : ∀ d ∈ tables_1, d.before a0 Z = true) {g : Int64} (H : RB Z h a f0 f1 f2 f3 f4 f5 f6) (W : Wr h h' a (Jvm.RoadKit.slotOf Z "com/example/offset/offset/log/BatchTable" "lastEnd" "J") (.long g)) : RB Z h' a f0 f1 f2 f3 f4 f5 g := ⟨H.1.wr W, H.2.1.other W (Or.inr (slot_ne (Or.inl (wd_11 hw)) (Or.inl (wd_33 hw)) (by decide) (t := (.array .long)) (t' := .long) (by decide) (by decide))), H.2.2.1.other W (Or.inr (slot_ne (Or.inl (wd_13 hw)) (Or.inl (wd_33 hw)) (by decide) (t := (.array .long)) (t' := .long) (by decide) (by decide))), H.2.2.2.1.other W (Or.inr (slot_ne (Or.inl (wd_15 hw)) (Or.inl (wd_33 hw)) (by decide) (t := (.array .long)) (t' := .long) (by decide) (by decide))), H.2.2.2.2.1.other W (Or.inr (slot_ne (Or.inr (wd_17 hw)) (Or.inl (wd_33 hw)) (by decide) (t := .boolean) (t' := .long) (by decide) (by decide))), H.2.2.2.2.2.1.other W (Or.inr (slot_ne (Or.inl (wd_19 hw)) (Or.inl (wd_33 hw)) (by decide) (t := (.array .long)) (t' := .long) (by decide) (by decide))), H.2.2.2.2.2.2.1.other W (Or.inr (slot_ne (Or.inl (wd_26 hw)) (Or.inl (wd_33 hw)) (by decide) (t := .int) (t' := .long) (by decide) (by decide))), H.2.2.2.2.2.2.2.same W⟩
/-- the ends, where there are any -/
def EndsOk (Z : State) (h : Heap) (lo : Nat) (a o p mx : Addr) (g : Int32) (en : Value) (fe : Nat → Int64) : Prop := (g = 0 ∧ en = .null) ∨ (g = 1 ∧ ∃ e, en = .ref e ∧ lo ≤ e ∧ a ≠ e ∧ o ≠ e ∧ p ≠ e ∧ mx ≠ e ∧ LArr Z h e 64 fe)
/-- a BatchTable at a, all of it at or above lo -/
def BT (Z : State) (h : Heap) (lo : Nat) (a : Addr) (g cnt : Int32) (last : Int64) (fo fm fe : Nat → Int64) : Prop :=
  ∃ o p mx en fp, RB Z h a (.ref o) (.ref p) (.ref mx) g en cnt last ∧ LArr Z h o 64 fo ∧ LArr Z h p 64 fp ∧ LArr Z h mx 64 fm ∧ (lo ≤ a ∧ lo ≤ o ∧ lo ≤ p ∧ lo ≤ mx) ∧ (a ≠ o ∧ a ≠ p ∧ a ≠ mx ∧ o ≠ p ∧ o ≠ mx ∧ p ≠ mx) ∧ EndsOk Z h lo a o p mx g en fe
theorem BT.exa {Z : State} {h : Heap} {lo : Nat} {a : Addr} {g cnt : Int32} {last : Int64} {fo fm fe : Nat → Int64} (H : BT Z h lo a g cnt last fo fm fe) : Exa Z h a "com/example/offset/offset/log/BatchTable" := by obtain ⟨_, _, _, _, _, H, _⟩ := H; exact H.1

set_option maxRecDepth 65536 in
set_option maxHeartbeats 40000000 in
theorem c_max (l : Launch) {Z : State} {a0 : Array Value} (hw : ∀ d ∈ tables_1, d.before a0 Z = true) (h0 : Heap) (n0 : Nat) (hn0 : n0 ≤ h0.size) (x y r : Int64) (hs : maxR x y r) : Con l Z (⟨"java/lang/Math", "max", "(JJ)J"⟩ : MethodName) jdk_29_method_66_code 4 (some .long) ({ frames := 0, cells := 0, slots := 0, locals := 0 } : Room) [] #[(.long x), (.long y)] h0 n0 (fun v h' => v = some (.long r) ∧ h0 = h') := by
  refine con_of (Ls0 := #[.val (.long x), .second, .val (.long y), .second]) (Jvm.Free.JP.mathPlain rfl (by decide +kernel)) (fun m => by first | (simp [entryFrame, mkF, argsToLocals, Value.category]; done) | rfl) hn0 ?_
  intro p e s m below meth c C
  refine g_lloadN C D5_0 rfl ?_
  refine g_lloadN C D5_1 rfl ?_
  refine g_lcmp_lt C D5_2 D5_3 (fun q1 => ?_) (fun q1 => ?_)
  · refine g_lloadN C D5_10 rfl ?_
    refine g_retJ C D5_11 (by decide) (by decide) ?_
    obtain rfl := maxT q1 hs
    exact ⟨rfl, rfl⟩
  · refine g_lloadN C D5_6 rfl ?_
    refine g_goto C D5_7 ?_
    refine g_retJ C D5_11 (by decide) (by decide) ?_
    obtain rfl := maxF q1 hs
    exact ⟨rfl, rfl⟩
theorem g_one {g : Int32} (h : ¬ g = 0) (h1 : g &&& 1 = g) : g = 1 := by
  rcases and_one g with q | q
  · exact absurd (h1.symm.trans q) h
  · exact h1.symm.trans q
set_option maxRecDepth 65536 in
set_option maxHeartbeats 40000000 in
theorem c_init (l : Launch) {Z : State} {a0 : Array Value} (hw : ∀ d ∈ tables_1, d.before a0 Z = true) (h0 : Heap) (n0 : Nat) (hn0 : n0 ≤ h0.size) (lo : Nat) (a : Addr) (g : Int32) (hlo : n0 ≤ lo) (l_a : lo ≤ a) (hg : g &&& 1 = g) (H : RB Z h0 a .null .null .null 0 .null 0 0) : Con l Z (⟨"com/example/offset/offset/log/BatchTable", "<init>", "(Z)V"⟩ : MethodName) prog_45_method_1_code 2 none ({ frames := 1, cells := 4, slots := 256, locals := 12 } : Room) [] #[(.ref a), (.int g)] h0 n0 (fun v h' => v = none ∧ BT Z h' lo a g 0 0 (fun _ => 0) (fun _ => 0) (fun _ => 0) ∧ KL lo h0 h') := by
  refine con_of (Ls0 := #[.val (.ref a), .val (.int g)]) (plainFor_of_name pn_0) (fun m => by first | (simp [entryFrame, mkF, argsToLocals, Value.category]; done) | rfl) hn0 ?_
  intro p e s m below meth c C
  refine g_aloadN C D1_0 rfl rfl ?_
  refine g_initO C (wd_6 hw) (wd_7 hw) (wd_8 hw) D1_1 rfl (by decide) 0 (Nat.le_of_eq rfl) (by decide) ?_
  refine g_aloadN C D1_4 rfl rfl ?_
  refine g_bipush C (64 : Int32) rfl D1_5 ?_
  refine g_newarr C (aty := .long) (wd_9 hw) D1_7 (by decide) 64 (by decide) (by decide) (by decide) (by decide) ?_
  intro h1 b2 kA3 ge4 ea5 E6 X7
  have A8 : LArr Z h1 b2 64 (fun _ => (0 : Int64)) := LArr.new X7
  have ne_a_b2 : a ≠ b2 := Nat.ne_of_lt (ea5 ▸ H.lt)
  have H9 := H.ext E6
  have lo_b2 : lo ≤ b2 := ea5 ▸ (Nat.le_trans l_a (Nat.le_of_lt H.lt))
  have K10 := (KL.refl lo h0).ext E6
  refine g_putF C (wd_10 hw) D1_9 H9.2.1 H9.1 (Or.inl (wd_11 hw)) (wd_1 hw) (ty := (.array .long)) (v' := (.ref b2)) (by decide) rfl rfl (Nat.le_trans hlo l_a) ?_
  intro h11 W12
  have H13 := RB.set_offsets hw (g := (.ref b2)) H9 W12
  have K14 := K10.wr W12 l_a
  have A15 := A8.other W12 (Ne.symm ne_a_b2)
  refine g_aloadN C D1_12 rfl rfl ?_
  refine g_bipush C (64 : Int32) rfl D1_13 ?_
  refine g_newarr C (aty := .long) (wd_9 hw) D1_15 (by decide) 64 (by decide) (by decide) (by decide) (by decide) ?_
  intro h16 b17 kA18 ge19 ea20 E21 X22
  have A23 : LArr Z h16 b17 64 (fun _ => (0 : Int64)) := LArr.new X22
  have ne_a_b17 : a ≠ b17 := Nat.ne_of_lt (ea20 ▸ H13.lt)
  have H24 := H13.ext E21
  have ne_b2_b17 : b2 ≠ b17 := Nat.ne_of_lt (ea20 ▸ A15.lt)
  have A25 := A15.ext E21
  have lo_b17 : lo ≤ b17 := ea20 ▸ (Nat.le_trans l_a (Nat.le_of_lt H13.lt))
  have K26 := K14.ext E21
  refine g_putF C (wd_12 hw) D1_17 H24.2.2.1 H24.1 (Or.inl (wd_13 hw)) (wd_1 hw) (ty := (.array .long)) (v' := (.ref b17)) (by decide) rfl rfl (Nat.le_trans hlo l_a) ?_
  intro h27 W28
  have H29 := RB.set_positions hw (g := (.ref b17)) H24 W28
  have K30 := K26.wr W28 l_a
  have A31 := A25.other W28 (Ne.symm ne_a_b2)
  have A32 := A23.other W28 (Ne.symm ne_a_b17)
  refine g_aloadN C D1_20 rfl rfl ?_
  refine g_bipush C (64 : Int32) rfl D1_21 ?_
  refine g_newarr C (aty := .long) (wd_9 hw) D1_23 (by decide) 64 (by decide) (by decide) (by decide) (by decide) ?_
  intro h33 b34 kA35 ge36 ea37 E38 X39
  have A40 : LArr Z h33 b34 64 (fun _ => (0 : Int64)) := LArr.new X39
  have ne_a_b34 : a ≠ b34 := Nat.ne_of_lt (ea37 ▸ H29.lt)
  have H41 := H29.ext E38
  have ne_b2_b34 : b2 ≠ b34 := Nat.ne_of_lt (ea37 ▸ A31.lt)
  have A42 := A31.ext E38
  have ne_b17_b34 : b17 ≠ b34 := Nat.ne_of_lt (ea37 ▸ A32.lt)
  have A43 := A32.ext E38
  have lo_b34 : lo ≤ b34 := ea37 ▸ (Nat.le_trans l_a (Nat.le_of_lt H29.lt))
  have K44 := K30.ext E38
  refine g_putF C (wd_14 hw) D1_25 H41.2.2.2.1 H41.1 (Or.inl (wd_15 hw)) (wd_1 hw) (ty := (.array .long)) (v' := (.ref b34)) (by decide) rfl rfl (Nat.le_trans hlo l_a) ?_
  intro h45 W46
  have H47 := RB.set_maxTimestampsUpTo hw (g := (.ref b34)) H41 W46
  have K48 := K44.wr W46 l_a
  have A49 := A42.other W46 (Ne.symm ne_a_b2)
  have A50 := A43.other W46 (Ne.symm ne_a_b17)
  have A51 := A40.other W46 (Ne.symm ne_a_b34)
  refine g_aloadN C D1_28 rfl rfl ?_
  refine g_iloadN C D1_29 rfl ?_
  refine g_putF C (wd_16 hw) D1_30 H47.2.2.2.2.1 H47.1 (Or.inr ⟨(wd_17 hw), rfl, rfl⟩) (wd_1 hw) (ty := .boolean) (v' := (.int g)) (by decide) (by show Value.int (g &&& 1) = _; rw [hg]) (hg ▸ fits_nar_bool g) (Nat.le_trans hlo l_a) ?_
  intro h52 W53
  have H54 := RB.set_gaps hw (g := g) H47 W53
  have K55 := K48.wr W53 l_a
  have A56 := A49.other W53 (Ne.symm ne_a_b2)
  have A57 := A50.other W53 (Ne.symm ne_a_b17)
  have A58 := A51.other W53 (Ne.symm ne_a_b34)
  refine g_aloadN C D1_33 rfl rfl ?_
  refine g_iloadN C D1_34 rfl ?_
  refine g_if_eq C D1_35 (fun q59 => ?_) (fun q59 => ?_)
  · refine g_aconst C D1_45 ?_
    refine g_putF C (wd_18 hw) D1_46 H54.2.2.2.2.2.1 H54.1 (Or.inl (wd_19 hw)) (wd_1 hw) (ty := (.array .long)) (v' := .null) (by decide) rfl rfl (Nat.le_trans hlo l_a) ?_
    intro h60 W61
    have H62 := RB.set_ends hw (g := .null) H54 W61
    have K63 := K55.wr W61 l_a
    have A64 := A56.other W61 (Ne.symm ne_a_b2)
    have A65 := A57.other W61 (Ne.symm ne_a_b17)
    have A66 := A58.other W61 (Ne.symm ne_a_b34)
    refine g_ret C D1_49 (by decide) (by decide) ?_
    exact ⟨rfl, ⟨b2, b17, b34, _, _, H62, A64, A65, A66, ⟨l_a, lo_b2, lo_b17, lo_b34⟩, ⟨ne_a_b2, ne_a_b17, ne_a_b34, ne_b2_b17, ne_b2_b34, ne_b17_b34⟩, Or.inl ⟨q59, rfl⟩⟩, K63⟩
  · refine g_bipush C (64 : Int32) rfl D1_38 ?_
    refine g_newarr C (aty := .long) (wd_9 hw) D1_40 (by decide) 64 (by decide) (by decide) (by decide) (by decide) ?_
    intro h67 b68 kA69 ge70 ea71 E72 X73
    have A74 : LArr Z h67 b68 64 (fun _ => (0 : Int64)) := LArr.new X73
    have ne_a_b68 : a ≠ b68 := Nat.ne_of_lt (ea71 ▸ H54.lt)
    have H75 := H54.ext E72
    have ne_b2_b68 : b2 ≠ b68 := Nat.ne_of_lt (ea71 ▸ A56.lt)
    have A76 := A56.ext E72
    have ne_b17_b68 : b17 ≠ b68 := Nat.ne_of_lt (ea71 ▸ A57.lt)
    have A77 := A57.ext E72
    have ne_b34_b68 : b34 ≠ b68 := Nat.ne_of_lt (ea71 ▸ A58.lt)
    have A78 := A58.ext E72
    have lo_b68 : lo ≤ b68 := ea71 ▸ (Nat.le_trans l_a (Nat.le_of_lt H54.lt))
    have K79 := K55.ext E72
    refine g_goto C D1_42 ?_
    refine g_putF C (wd_18 hw) D1_46 H75.2.2.2.2.2.1 H75.1 (Or.inl (wd_19 hw)) (wd_1 hw) (ty := (.array .long)) (v' := (.ref b68)) (by decide) rfl rfl (Nat.le_trans hlo l_a) ?_
    intro h80 W81
    have H82 := RB.set_ends hw (g := (.ref b68)) H75 W81
    have K83 := K79.wr W81 l_a
    have A84 := A76.other W81 (Ne.symm ne_a_b2)
    have A85 := A77.other W81 (Ne.symm ne_a_b17)
    have A86 := A78.other W81 (Ne.symm ne_a_b34)
    have A87 := A74.other W81 (Ne.symm ne_a_b68)
    refine g_ret C D1_49 (by decide) (by decide) ?_
    exact ⟨rfl, ⟨b2, b17, b34, _, _, H82, A84, A85, A86, ⟨l_a, lo_b2, lo_b17, lo_b34⟩, ⟨ne_a_b2, ne_a_b17, ne_a_b34, ne_b2_b17, ne_b2_b34, ne_b17_b34⟩, Or.inr ⟨g_one q59 hg, b68, rfl, lo_b68, ne_a_b68, ne_b2_b68, ne_b17_b68, ne_b34_b68, A87⟩⟩, K83⟩
set_option maxRecDepth 65536 in
set_option maxHeartbeats 40000000 in
theorem c_add (l : Launch) {Z : State} {a0 : Array Value} (hw : ∀ d ∈ tables_1, d.before a0 Z = true) (h0 : Heap) (n0 : Nat) (hn0 : n0 ≤ h0.size) (lo : Nat) (a : Addr) (of ps nd ts : Int64) (g cnt c1 : Int32) (last mv : Int64) (fo fm fe fo' fm' fe' : Nat → Int64) (j : Nat) (hlo : n0 ≤ lo) (H : BT Z h0 lo a g cnt last fo fm fe) (b1 : 0 ≤ cnt.toInt) (b2 : cnt.toInt < ((64 : Nat) : Int)) (hc1 : cnt + 1 = c1) (hj : cnt.toInt.toNat = j) (hs : mxR cnt fm ts mv) (ho' : fo' = upd fo j of) (hm' : fm' = upd fm j mv) (he' : fe' = upd fe j nd) : Con l Z (⟨"com/example/offset/offset/log/BatchTable", "add", "(JJJJ)V"⟩ : MethodName) prog_45_method_7_code 9 none ({ frames := 1, cells := 0, slots := 0, locals := 17 } : Room) [] #[(.ref a), (.long of), (.long ps), (.long nd), (.long ts)] h0 n0 (fun v h' => v = none ∧ BT Z h' lo a g c1 nd fo' fm' fe' ∧ KL lo h0 h') := by
  refine con_of (Ls0 := #[.val (.ref a), .val (.long of), .second, .val (.long ps), .second, .val (.long nd), .second, .val (.long ts), .second]) (plainFor_of_name pn_0) (fun m => by first | (simp [entryFrame, mkF, argsToLocals, Value.category]; done) | rfl) hn0 ?_
  intro p e s m below meth c C
  obtain ⟨o, p1, mx, en, fp, HB, Ao, Ap, Am, ⟨l_a, l_o, l_p, l_m⟩, ⟨ne_a_o, ne_a_p1, ne_a_mx, ne_o_p1, ne_o_mx, ne_p1_mx⟩, EO⟩ := H
  refine g_aloadN C D4_0 rfl rfl ?_
  refine g_getF C (wd_25 hw) D4_1 HB.2.2.2.2.2.2.1 ?_
  refine g_aloadN C D4_4 rfl rfl ?_
  refine g_getF C (wd_10 hw) D4_5 HB.2.1 ?_
  refine g_lenLArr C D4_8 Ao (64 : Int32) rfl ?_
  refine g_icmp_ne C D4_9 (fun q1 => ?_) (fun q1 => ?_)
  rotate_left
  · exfalso
    rw [q1] at b2; exact absurd b2 (by decide)
  refine g_aloadN C D4_87 rfl rfl ?_
  refine g_getF C (wd_10 hw) D4_88 HB.2.1 ?_
  refine g_aloadN C D4_91 rfl rfl ?_
  refine g_getF C (wd_25 hw) D4_92 HB.2.2.2.2.2.2.1 ?_
  refine g_lloadN C D4_95 rfl ?_
  refine g_lastore C D4_96 Ao b1 b2 (Nat.le_trans hlo l_o) ?_
  intro h2 W3
  have A4 := LArr.set Ao W3
  have K5 := (KL.refl lo h0).wr W3 l_o
  have H6 := HB.other W3 ne_a_o
  have A7 := Ap.other W3 (Ne.symm ne_o_p1)
  have A8 := Am.other W3 (Ne.symm ne_o_mx)
  refine g_aloadN C D4_97 rfl rfl ?_
  refine g_getF C (wd_12 hw) D4_98 H6.2.2.1 ?_
  refine g_aloadN C D4_101 rfl rfl ?_
  refine g_getF C (wd_25 hw) D4_102 H6.2.2.2.2.2.2.1 ?_
  refine g_lloadN C D4_105 rfl ?_
  refine g_lastore C D4_106 A7 b1 b2 (Nat.le_trans hlo l_p) ?_
  intro h9 W10
  have A11 := LArr.set A7 W10
  have K12 := K5.wr W10 l_p
  have H13 := H6.other W10 ne_a_p1
  have A14 := A4.other W10 ne_o_p1
  have A15 := A8.other W10 (Ne.symm ne_p1_mx)
  refine g_aloadN C D4_107 rfl rfl ?_
  refine g_getF C (wd_14 hw) D4_108 H13.2.2.2.1 ?_
  refine g_aloadN C D4_111 rfl rfl ?_
  refine g_getF C (wd_25 hw) D4_112 H13.2.2.2.2.2.2.1 ?_
  refine g_aloadN C D4_115 rfl rfl ?_
  refine g_getF C (wd_25 hw) D4_116 H13.2.2.2.2.2.2.1 ?_
  refine g_join (ι := Unit) (fun y => h9) 0 0 (fun y => mkF m 143 #[.val (.ref a), .val (.long of), .second, .val (.long ps), .second, .val (.long nd), .second, .val (.long ts), .second] [(.long mv), (.int cnt), (.ref mx)]) (fun y => True) (fun J => ?_) ?_
  · refine g_if_ne C D4_119 (fun q16 => ?_) (fun q16 => ?_)
    · refine g_aloadN C D4_127 rfl rfl ?_
      refine g_getF C (wd_14 hw) D4_128 H13.2.2.2.1 ?_
      refine g_aloadN C D4_131 rfl rfl ?_
      refine g_getF C (wd_25 hw) D4_132 H13.2.2.2.2.2.2.1 ?_
      refine g_iconst C (1 : Int32) rfl D4_135 ?_
      refine g_isub C D4_136 ?_
      refine g_laload C D4_137 A15 (by rw [sub1 q16 b1]; have := pos_of q16 b1; omega) (by rw [sub1 q16 b1]; omega) (fm (cnt.toInt.toNat - 1)) (by rw [sub1 q16 b1]; congr 1; have := pos_of q16 b1; omega) ?_
      refine g_lload C D4_138 rfl ?_
      have hz140 : n0 ≤ h9.size := Nat.le_trans hn0 K12.1
      refine g_callS C (c_max l hw h9 n0 hz140 (fm (cnt.toInt.toNat - 1)) ts mv (mxF q16 hs)) (wd_36 hw) (wd_37 hw) (wd_38 hw) (wd_39 hw) (by decide) D4_140 pd_0 [(.long (fm (cnt.toInt.toNat - 1))), (.long ts)] [(.int cnt), (.ref mx)] rfl rfl rfl 2 (Nat.le_of_eq rfl) (by decide) (by decide) (by decide) (by decide) ?_
      rintro _ _ ⟨rfl, rfl⟩
      refine g_cast (f' := mkF m 143 #[.val (.ref a), .val (.long of), .second, .val (.long ps), .second, .val (.long nd), .second, .val (.long ts), .second] [(.long mv), (.int cnt), (.ref mx)]) rfl ?_
      exact J () trivial
    · refine g_lload C D4_122 rfl ?_
      refine g_goto C D4_124 ?_
      obtain rfl := mxT q16 hs
      exact J () trivial
  rintro - -
  try dsimp only
  refine g_lastore C D4_143 A15 b1 b2 (Nat.le_trans hlo l_m) ?_
  intro h17 W18
  have A19 := LArr.set A15 W18
  have K20 := K12.wr W18 l_m
  have H21 := H13.other W18 ne_a_mx
  have A22 := A14.other W18 ne_o_mx
  have A23 := A11.other W18 ne_p1_mx
  refine g_aloadN C D4_144 rfl rfl ?_
  refine g_getF C (wd_16 hw) D4_145 H21.2.2.2.2.1 ?_
  refine g_if_eq C D4_148 (fun q24 => ?_) (fun q24 => ?_)
  · obtain rfl : en = .null := by
      rcases EO with z | z
      · exact z.2
      · exact absurd (z.1.symm.trans q24) (by decide)
    refine g_aloadN C D4_162 rfl rfl ?_
    refine g_dup C D4_163 rfl ?_
    refine g_getF C (wd_25 hw) D4_164 H21.2.2.2.2.2.2.1 ?_
    refine g_iconst C (1 : Int32) rfl D4_167 ?_
    refine g_iadd C D4_168 ?_
    refine g_putF C (wd_25 hw) D4_169 H21.2.2.2.2.2.2.1 H21.1 (Or.inl (wd_26 hw)) (wd_1 hw) (ty := .int) (v' := (.int (cnt + (1 : Int32)))) (by decide) rfl rfl (Nat.le_trans hlo l_a) ?_
    intro h25 W26
    have H27 := RB.set_count hw (g := (cnt + (1 : Int32))) H21 W26
    have K28 := K20.wr W26 l_a
    have A29 := A22.other W26 (Ne.symm ne_a_o)
    have A30 := A23.other W26 (Ne.symm ne_a_p1)
    have A31 := A19.other W26 (Ne.symm ne_a_mx)
    refine g_aloadN C D4_172 rfl rfl ?_
    refine g_lload C D4_173 rfl ?_
    refine g_putF C (wd_32 hw) D4_175 H27.2.2.2.2.2.2.2 H27.1 (Or.inl (wd_33 hw)) (wd_1 hw) (ty := .long) (v' := (.long nd)) (by decide) rfl rfl (Nat.le_trans hlo l_a) ?_
    intro h32 W33
    have H34 := RB.set_lastEnd hw (g := nd) H27 W33
    have K35 := K28.wr W33 l_a
    have A36 := A29.other W33 (Ne.symm ne_a_o)
    have A37 := A30.other W33 (Ne.symm ne_a_p1)
    have A38 := A31.other W33 (Ne.symm ne_a_mx)
    refine g_ret C D4_178 (by decide) (by decide) ?_
    subst ho' hm' he'
    exact ⟨rfl, ⟨o, p1, mx, .null, _, hc1 ▸ H34, hj ▸ A36, A37, hj ▸ A38, ⟨l_a, l_o, l_p, l_m⟩, ⟨ne_a_o, ne_a_p1, ne_a_mx, ne_o_p1, ne_o_mx, ne_p1_mx⟩, Or.inl ⟨q24, rfl⟩⟩, K35⟩
  · obtain ⟨gq, e1, rfl, l_e, ne_a_e1, ne_o_e1, ne_p1_e1, ne_mx_e1, Ae⟩ : g = 1 ∧ ∃ e, en = .ref e ∧ lo ≤ e ∧ a ≠ e ∧ o ≠ e ∧ p1 ≠ e ∧ mx ≠ e ∧ LArr Z h0 e 64 fe := by
      rcases EO with z | z
      · exact absurd z.1 q24
      · exact z
    have A39 := Ae.other W3 (Ne.symm ne_o_e1)
    have A40 := A39.other W10 (Ne.symm ne_p1_e1)
    have A41 := A40.other W18 (Ne.symm ne_mx_e1)
    refine g_aloadN C D4_151 rfl rfl ?_
    refine g_getF C (wd_18 hw) D4_152 H21.2.2.2.2.2.1 ?_
    refine g_aloadN C D4_155 rfl rfl ?_
    refine g_getF C (wd_25 hw) D4_156 H21.2.2.2.2.2.2.1 ?_
    refine g_lload C D4_159 rfl ?_
    refine g_lastore C D4_161 A41 b1 b2 (Nat.le_trans hlo l_e) ?_
    intro h42 W43
    have A44 := LArr.set A41 W43
    have K45 := K20.wr W43 l_e
    have H46 := H21.other W43 ne_a_e1
    have A47 := A22.other W43 ne_o_e1
    have A48 := A23.other W43 ne_p1_e1
    have A49 := A19.other W43 ne_mx_e1
    refine g_aloadN C D4_162 rfl rfl ?_
    refine g_dup C D4_163 rfl ?_
    refine g_getF C (wd_25 hw) D4_164 H46.2.2.2.2.2.2.1 ?_
    refine g_iconst C (1 : Int32) rfl D4_167 ?_
    refine g_iadd C D4_168 ?_
    refine g_putF C (wd_25 hw) D4_169 H46.2.2.2.2.2.2.1 H46.1 (Or.inl (wd_26 hw)) (wd_1 hw) (ty := .int) (v' := (.int (cnt + (1 : Int32)))) (by decide) rfl rfl (Nat.le_trans hlo l_a) ?_
    intro h50 W51
    have H52 := RB.set_count hw (g := (cnt + (1 : Int32))) H46 W51
    have K53 := K45.wr W51 l_a
    have A54 := A47.other W51 (Ne.symm ne_a_o)
    have A55 := A48.other W51 (Ne.symm ne_a_p1)
    have A56 := A49.other W51 (Ne.symm ne_a_mx)
    have A57 := A44.other W51 (Ne.symm ne_a_e1)
    refine g_aloadN C D4_172 rfl rfl ?_
    refine g_lload C D4_173 rfl ?_
    refine g_putF C (wd_32 hw) D4_175 H52.2.2.2.2.2.2.2 H52.1 (Or.inl (wd_33 hw)) (wd_1 hw) (ty := .long) (v' := (.long nd)) (by decide) rfl rfl (Nat.le_trans hlo l_a) ?_
    intro h58 W59
    have H60 := RB.set_lastEnd hw (g := nd) H52 W59
    have K61 := K53.wr W59 l_a
    have A62 := A54.other W59 (Ne.symm ne_a_o)
    have A63 := A55.other W59 (Ne.symm ne_a_p1)
    have A64 := A56.other W59 (Ne.symm ne_a_mx)
    have A65 := A57.other W59 (Ne.symm ne_a_e1)
    refine g_ret C D4_178 (by decide) (by decide) ?_
    subst ho' hm' he'
    exact ⟨rfl, ⟨o, p1, mx, (.ref e1), _, hc1 ▸ H60, hj ▸ A62, A63, hj ▸ A64, ⟨l_a, l_o, l_p, l_m⟩, ⟨ne_a_o, ne_a_p1, ne_a_mx, ne_o_p1, ne_o_mx, ne_p1_mx⟩, Or.inr ⟨gq, e1, rfl, l_e, ne_a_e1, ne_o_e1, ne_p1_e1, ne_mx_e1, hj ▸ A65⟩⟩, K61⟩
set_option maxRecDepth 65536 in
set_option maxHeartbeats 40000000 in
theorem c_fr (l : Launch) {Z : State} {a0 : Array Value} (hw : ∀ d ∈ tables_1, d.before a0 Z = true) (h0 : Heap) (n0 : Nat) (hn0 : n0 ≤ h0.size) (lo : Nat) (a : Addr) (t : Int64) (g cnt : Int32) (last : Int64) (fo fm fe : Nat → Int64) (H : BT Z h0 lo a g cnt last fo fm fe) (b1 : 0 ≤ cnt.toInt) (b2 : cnt.toInt < ((64 : Nat) : Int)) (hlo : n0 ≤ lo) (hm : ∀ i j : Nat, i ≤ j → (j : Int) < cnt.toInt → ¬ (fm j < fm i)) : Con l Z (⟨"com/example/offset/offset/log/BatchTable", "firstReaching", "(J)I"⟩ : MethodName) prog_45_method_10_code 6 (some .int) ({ frames := 0, cells := 0, slots := 0, locals := 0 } : Room) [] #[(.ref a), (.long t)] h0 n0 (fun v h' => ∃ r, v = some (.int r) ∧ FR fm cnt t r ∧ h0 = h') := by
  refine con_of (Ls0 := #[.val (.ref a), .val (.long t), .second, .unset, .unset, .unset]) (plainFor_of_name pn_0) (fun m => by first | (simp [entryFrame, mkF, argsToLocals, Value.category]; done) | rfl) hn0 ?_
  intro p e s m below meth c C
  obtain ⟨o, p1, mx, en, fp, HB, Ao, Ap, Am, ⟨l_a, l_o, l_p, l_m⟩, ⟨ne_a_o, ne_a_p1, ne_a_mx, ne_o_p1, ne_o_mx, ne_p1_mx⟩, EO⟩ := H
  refine g_iconst C (0 : Int32) rfl D3_0 ?_
  refine g_istoreN C #[.val (.ref a), .val (.long t), .second, .val (.int (0 : Int32)), .unset, .unset] D3_1 rfl ?_
  refine g_aloadN C D3_2 rfl rfl ?_
  refine g_getF C (wd_25 hw) D3_3 HB.2.2.2.2.2.2.1 ?_
  refine g_istore C #[.val (.ref a), .val (.long t), .second, .val (.int (0 : Int32)), .val (.int cnt), .unset] D3_6 rfl ?_
  refine g_loop (ι := Int32 × Int32 × Slot) (fun y => h0) (fun y => mkF m 8 #[.val (.ref a), .val (.long t), .second, .val (.int y.1), .val (.int y.2.1), y.2.2] []) (fun y => 0 ≤ y.1.toInt ∧ y.1.toInt ≤ y.2.1.toInt ∧ y.2.1.toInt ≤ cnt.toInt ∧ (∀ i : Nat, (i : Int) < y.1.toInt → fm i < t) ∧ (∀ i : Nat, y.2.1.toInt ≤ (i : Int) → (i : Int) < cnt.toInt → ¬ (fm i < t)) ∧ (y.2.2 = .unset ∨ ∃ w : Int32, y.2.2 = .val (.int w))) (fun y => (y.2.1.toInt - y.1.toInt).toNat) ?_ (0, cnt, .unset) ⟨by show (0 : Int) ≤ (0 : Int32).toInt; decide, b1, Int.le_refl _, fun i u => absurd u (by show ¬ ((i : Int) < 0); omega), fun i u1 u2 => absurd u2 (by have : cnt.toInt ≤ (i : Int) := u1; omega), Or.inl rfl⟩
  rintro ⟨i1, i2, s5⟩ ⟨p1', p2', p3', p4', p5', p6'⟩ ih
  try dsimp only at p1' p2' p3' p4' p5' p6' ih ⊢
  refine g_iloadN C D3_8 rfl ?_
  refine g_iload C D3_9 rfl ?_
  refine g_icmp_ge C D3_11 (fun q1 => ?_) (fun q1 => ?_)
  · refine g_iloadN C D3_49 rfl ?_
    refine g_retI C D3_50 (by decide) (by decide) ?_
    rw [Int32.lt_iff_toInt_lt] at q1
    exact ⟨i1, rfl, ⟨p1', by omega, p4', fun i u1 u2 => p5' i (by omega) u2⟩, rfl⟩
  · refine g_iloadN C D3_14 rfl ?_
    refine g_iload C D3_15 rfl ?_
    refine g_iadd C D3_17 ?_
    refine g_iconst C (1 : Int32) rfl D3_18 ?_
    refine g_iushr C D3_19 ?_
    generalize q_md : (ushrI (i1 + i2) (1 : Int32)) = md
    rw [Int32.lt_iff_toInt_lt] at q1
    obtain ⟨m1, m2⟩ := mid_of p1' q1 (by omega) q_md
    refine g_istore C #[.val (.ref a), .val (.long t), .second, .val (.int i1), .val (.int i2), .val (.int md)] D3_20 (by rcases p6' with z | ⟨w, z⟩ <;> subst z <;> rfl) ?_
    refine g_aloadN C D3_22 rfl rfl ?_
    refine g_getF C (wd_14 hw) D3_23 HB.2.2.2.1 ?_
    refine g_iload C D3_26 rfl ?_
    refine g_laload C D3_28 Am (by omega) (by omega) (fm md.toInt.toNat) rfl ?_
    refine g_lloadN C D3_29 rfl ?_
    refine g_lcmp_ge C D3_30 D3_31 (fun q2 => ?_) (fun q2 => ?_)
    · refine g_iload C D3_42 rfl ?_
      refine g_istore C #[.val (.ref a), .val (.long t), .second, .val (.int i1), .val (.int md), .val (.int md)] D3_44 rfl ?_
      refine g_goto C D3_46 ?_
      exact ih (i1, md, .val (.int md)) ⟨p1', by show i1.toInt ≤ md.toInt; omega, by show md.toInt ≤ cnt.toInt; omega, p4', fun i u1 u2 => not_lt_up q2 (hm md.toInt.toNat i (by have : md.toInt ≤ (i : Int) := u1; omega) u2), Or.inr ⟨md, rfl⟩⟩ (by show (md.toInt - i1.toInt).toNat < (i2.toInt - i1.toInt).toNat; omega)
    · refine g_iload C D3_34 rfl ?_
      refine g_iconst C (1 : Int32) rfl D3_36 ?_
      refine g_iadd C D3_37 ?_
      have md1 := add1 (i := md) (by omega) (by omega)
      refine g_istoreN C #[.val (.ref a), .val (.long t), .second, .val (.int (md + (1 : Int32))), .val (.int i2), .val (.int md)] D3_38 rfl ?_
      refine g_goto C D3_39 ?_
      refine g_goto C D3_46 ?_
      exact ih ((md + 1), i2, .val (.int md)) ⟨by show 0 ≤ (md + 1).toInt; omega, by show (md + 1).toInt ≤ i2.toInt; omega, p3', fun i u1 => lt_down (hm i md.toInt.toNat (by have : (i : Int) < (md + 1).toInt := u1; omega) (by omega)) q2, p5', Or.inr ⟨md, rfl⟩⟩ (by show (i2.toInt - (md + 1).toInt).toNat < (i2.toInt - i1.toInt).toNat; omega)
set_option maxRecDepth 65536 in
set_option maxHeartbeats 40000000 in
theorem seg_0 (l : Launch) {Z : State} {a0 : Array Value} (hw : ∀ d ∈ tables_1, d.before a0 Z = true) {p : Program} {e : Env} {s : State} {m : MethodId} {below : List Frame} {meth : Method} {c : ClassFile.Code} (n0 : Nat) (C : Cx p s m meth c Z n0 x.cls code maxLocals ret x.name) (v0 v1 v2 v3 t0 : Int64) (i_f g : Int32) (hA : Heap) (b3 : Addr) (ge4 : n0 ≤ b3) (hz2 : n0 ≤ hA.size) (HA : BT Z hA b3 b3 g 0 0 (fun _ => (0 : Int64)) (fun _ => (0 : Int64)) (fun _ => (0 : Int64))) (mo0 : mono (fun _ => (0 : Int64)) 0)  : Go p l e room_1 s m #[(.int i_f), (.long v0), (.long v1), (.long v2), (.long v3), (.long t0)] below meth c n0 (fun v h' => v = some (.int 1) ∧ True) room_1.cells room_1.slots hA 5 263 (mkF m 108 #[.val (.int i_f), .val (.long v0), .second, .val (.long v1), .second, .val (.long v2), .second, .val (.long v3), .second, .val (.long t0), .second, .val (.int g), .val (.int (0 : Int32)), .val (.ref b3), .unset, .unset] []) := by
  refine g_aload C D0_108 rfl rfl ?_
  refine g_lload C D0_110 rfl ?_
  refine g_callV C (c_fr l hw hA n0 hz2 b3 b3 t0 g 0 0 (fun _ => (0 : Int64)) (fun _ => (0 : Int64)) (fun _ => (0 : Int64)) HA (by decide) (by decide) ge4 (mono_int mo0 rfl)) (wd_20 hw) (wd_21 hw) (wd_22 hw) (wd_23 hw) (wd_2 hw) (wd_24 hw) (by decide) D0_112 pd_2 (BT.exa HA) [(.long t0)] [] rfl rfl rfl 0 (Nat.le_of_eq rfl) (by decide) (by decide) (by decide) (by decide) ?_
  rintro _ _ ⟨r0, rfl, hr, rfl⟩
  refine g_cast (f' := mkF m 115 #[.val (.int i_f), .val (.long v0), .second, .val (.long v1), .second, .val (.long v2), .second, .val (.long v3), .second, .val (.long t0), .second, .val (.int g), .val (.int (0 : Int32)), .val (.ref b3), .unset, .unset] [(.int r0)]) rfl ?_
  refine g_istore C #[.val (.int i_f), .val (.long v0), .second, .val (.long v1), .second, .val (.long v2), .second, .val (.long v3), .second, .val (.long t0), .second, .val (.int g), .val (.int (0 : Int32)), .val (.ref b3), .val (.int r0), .unset] D0_115 rfl ?_
  refine g_iload C D0_117 rfl ?_
  refine g_istore C #[.val (.int i_f), .val (.long v0), .second, .val (.long v1), .second, .val (.long v2), .second, .val (.long v3), .second, .val (.long t0), .second, .val (.int g), .val (.int (0 : Int32)), .val (.ref b3), .val (.int r0), .val (.int (0 : Int32))] D0_119 rfl ?_
  have w0 : (0 : Int) ≤ r0.toInt → (0 : Int32) = r0 := fun z => Int32.toInt_inj.mp (by have := hr.2.1; have e : (0 : Int32).toInt = 0 := rfl; omega)
  refine g_iload C D0_121 rfl ?_
  refine g_iconst C (3 : Int32) rfl D0_123 ?_
  refine g_icmp_le C D0_124 (fun q14 => ?_) (fun q14 => ?_)
  rotate_left
  · exfalso
    exact absurd q14 (by decide)
  refine g_iload C D0_138 rfl ?_
  refine g_iconst C (2 : Int32) rfl D0_140 ?_
  refine g_icmp_le C D0_141 (fun q15 => ?_) (fun q15 => ?_)
  rotate_left
  · exfalso
    exact absurd q15 (by decide)
  refine g_iload C D0_155 rfl ?_
  refine g_iconst C (1 : Int32) rfl D0_157 ?_
  refine g_icmp_le C D0_158 (fun q16 => ?_) (fun q16 => ?_)
  rotate_left
  · exfalso
    exact absurd q16 (by decide)
  refine g_iload C D0_171 rfl ?_
  refine g_if_le C D0_173 (fun q17 => ?_) (fun q17 => ?_)
  rotate_left
  · exfalso
    exact absurd q17 (by decide)
  refine g_iload C D0_186 rfl ?_
  refine g_iload C D0_188 rfl ?_
  refine g_icmp_ne C D0_190 (fun q18 => ?_) (fun q18 => ?_)
  · exfalso
    exact q18 (w0 hr.1).symm
  refine g_iconst C (1 : Int32) rfl D0_193 ?_
  refine g_goto C D0_194 ?_
  refine g_retZ C D0_198 (by decide) (by decide) ?_
  exact ⟨rfl, trivial⟩
set_option maxRecDepth 65536 in
set_option maxHeartbeats 40000000 in
theorem seg_1 (l : Launch) {Z : State} {a0 : Array Value} (hw : ∀ d ∈ tables_1, d.before a0 Z = true) {p : Program} {e : Env} {s : State} {m : MethodId} {below : List Frame} {meth : Method} {c : ClassFile.Code} (n0 : Nat) (C : Cx p s m meth c Z n0 x.cls code maxLocals ret x.name) (v0 v1 v2 v3 t0 : Int64) (i_f g : Int32) (hB15 : Heap) (b3 : Addr) (ge4 : n0 ≤ b3) (hz18 : n0 ≤ hB15.size) (fo1 fm1 fe1 : Nat → Int64) (HB17 : BT Z hB15 b3 b3 g 1 (1 : Int64) fo1 fm1 fe1) (mo1 : mono fm1 1) (fa1_0 : fm1 0 = v0) : Go p l e room_1 s m #[(.int i_f), (.long v0), (.long v1), (.long v2), (.long v3), (.long t0)] below meth c n0 (fun v h' => v = some (.int 1) ∧ True) room_1.cells room_1.slots hB15 5 263 (mkF m 108 #[.val (.int i_f), .val (.long v0), .second, .val (.long v1), .second, .val (.long v2), .second, .val (.long v3), .second, .val (.long t0), .second, .val (.int g), .val (.int (1 : Int32)), .val (.ref b3), .unset, .unset] []) := by
  refine g_aload C D0_108 rfl rfl ?_
  refine g_lload C D0_110 rfl ?_
  refine g_callV C (c_fr l hw hB15 n0 hz18 b3 b3 t0 g 1 (1 : Int64) fo1 fm1 fe1 HB17 (by decide) (by decide) ge4 (mono_int mo1 rfl)) (wd_20 hw) (wd_21 hw) (wd_22 hw) (wd_23 hw) (wd_2 hw) (wd_24 hw) (by decide) D0_112 pd_2 (BT.exa HB17) [(.long t0)] [] rfl rfl rfl 0 (Nat.le_of_eq rfl) (by decide) (by decide) (by decide) (by decide) ?_
  rintro _ _ ⟨r0, rfl, hr, rfl⟩
  refine g_cast (f' := mkF m 115 #[.val (.int i_f), .val (.long v0), .second, .val (.long v1), .second, .val (.long v2), .second, .val (.long v3), .second, .val (.long t0), .second, .val (.int g), .val (.int (1 : Int32)), .val (.ref b3), .unset, .unset] [(.int r0)]) rfl ?_
  refine g_istore C #[.val (.int i_f), .val (.long v0), .second, .val (.long v1), .second, .val (.long v2), .second, .val (.long v3), .second, .val (.long t0), .second, .val (.int g), .val (.int (1 : Int32)), .val (.ref b3), .val (.int r0), .unset] D0_115 rfl ?_
  refine g_iload C D0_117 rfl ?_
  refine g_istore C #[.val (.int i_f), .val (.long v0), .second, .val (.long v1), .second, .val (.long v2), .second, .val (.long v3), .second, .val (.long t0), .second, .val (.int g), .val (.int (1 : Int32)), .val (.ref b3), .val (.int r0), .val (.int (1 : Int32))] D0_119 rfl ?_
  have w1 : (1 : Int) ≤ r0.toInt → (1 : Int32) = r0 := fun z => Int32.toInt_inj.mp (by have := hr.2.1; have e : (1 : Int32).toInt = 1 := rfl; omega)
  refine g_iload C D0_121 rfl ?_
  refine g_iconst C (3 : Int32) rfl D0_123 ?_
  refine g_icmp_le C D0_124 (fun q22 => ?_) (fun q22 => ?_)
  rotate_left
  · exfalso
    exact absurd q22 (by decide)
  refine g_iload C D0_138 rfl ?_
  refine g_iconst C (2 : Int32) rfl D0_140 ?_
  refine g_icmp_le C D0_141 (fun q23 => ?_) (fun q23 => ?_)
  rotate_left
  · exfalso
    exact absurd q23 (by decide)
  refine g_iload C D0_155 rfl ?_
  refine g_iconst C (1 : Int32) rfl D0_157 ?_
  refine g_icmp_le C D0_158 (fun q24 => ?_) (fun q24 => ?_)
  rotate_left
  · exfalso
    exact absurd q24 (by decide)
  refine g_iload C D0_171 rfl ?_
  refine g_if_le C D0_173 (fun q25 => ?_) (fun q25 => ?_)
  · exfalso
    exact q25 (by decide)
  refine g_join (ι := Int32) (fun y => hB15) 5 263 (fun y => mkF m 186 #[.val (.int i_f), .val (.long v0), .second, .val (.long v1), .second, .val (.long v2), .second, .val (.long v3), .second, .val (.long t0), .second, .val (.int g), .val (.int (1 : Int32)), .val (.ref b3), .val (.int r0), .val (.int y)] []) (fun y => ((0 : Nat) : Int) ≤ r0.toInt → y = r0) (fun J => ?_) ?_
  · refine g_lloadN C D0_176 rfl ?_
    refine g_lload C D0_177 rfl ?_
    refine g_lcmp_lt C D0_179 D0_180 (fun q26 => ?_) (fun q26 => ?_)
    · exact J _ (want_miss (k := 0) (m := v0) hr (by decide) (fun _ z => by rw [fa1_0] at z; exact z) q26 w1)
    · refine g_iconst C (0 : Int32) rfl D0_183 ?_
      refine g_istore C #[.val (.int i_f), .val (.long v0), .second, .val (.long v1), .second, .val (.long v2), .second, .val (.long v3), .second, .val (.long t0), .second, .val (.int g), .val (.int (1 : Int32)), .val (.ref b3), .val (.int r0), .val (.int (0 : Int32))] D0_184 rfl ?_
      exact J _ (want_hit (k := 0) (y := (1 : Int32)) (y' := (1 : Int32)) (m := v0) rfl hr (by decide) (fun z => by rw [fa1_0] at z; exact z) q26 w1)
  intro x0 w0
  try dsimp only at w0 ⊢
  refine g_iload C D0_186 rfl ?_
  refine g_iload C D0_188 rfl ?_
  refine g_icmp_ne C D0_190 (fun q27 => ?_) (fun q27 => ?_)
  · exfalso
    exact q27 (w0 hr.1).symm
  refine g_iconst C (1 : Int32) rfl D0_193 ?_
  refine g_goto C D0_194 ?_
  refine g_retZ C D0_198 (by decide) (by decide) ?_
  exact ⟨rfl, trivial⟩
set_option maxRecDepth 65536 in
set_option maxHeartbeats 40000000 in
theorem seg_2 (l : Launch) {Z : State} {a0 : Array Value} (hw : ∀ d ∈ tables_1, d.before a0 Z = true) {p : Program} {e : Env} {s : State} {m : MethodId} {below : List Frame} {meth : Method} {c : ClassFile.Code} (n0 : Nat) (C : Cx p s m meth c Z n0 x.cls code maxLocals ret x.name) (v0 v1 v2 v3 t0 : Int64) (i_f g : Int32) (hB28 : Heap) (b3 : Addr) (ge4 : n0 ≤ b3) (hz31 : n0 ≤ hB28.size) (fo2 fm2 fe2 : Nat → Int64) (HB30 : BT Z hB28 b3 b3 g 2 (2 : Int64) fo2 fm2 fe2) (mo2 : mono fm2 2) (fa2_0 : fm2 0 = v0) (fa2_1 : fm2 1 = (max2 v0 v1)) : Go p l e room_1 s m #[(.int i_f), (.long v0), (.long v1), (.long v2), (.long v3), (.long t0)] below meth c n0 (fun v h' => v = some (.int 1) ∧ True) room_1.cells room_1.slots hB28 5 263 (mkF m 108 #[.val (.int i_f), .val (.long v0), .second, .val (.long v1), .second, .val (.long v2), .second, .val (.long v3), .second, .val (.long t0), .second, .val (.int g), .val (.int (2 : Int32)), .val (.ref b3), .unset, .unset] []) := by
  refine g_aload C D0_108 rfl rfl ?_
  refine g_lload C D0_110 rfl ?_
  refine g_callV C (c_fr l hw hB28 n0 hz31 b3 b3 t0 g 2 (2 : Int64) fo2 fm2 fe2 HB30 (by decide) (by decide) ge4 (mono_int mo2 rfl)) (wd_20 hw) (wd_21 hw) (wd_22 hw) (wd_23 hw) (wd_2 hw) (wd_24 hw) (by decide) D0_112 pd_2 (BT.exa HB30) [(.long t0)] [] rfl rfl rfl 0 (Nat.le_of_eq rfl) (by decide) (by decide) (by decide) (by decide) ?_
  rintro _ _ ⟨r0, rfl, hr, rfl⟩
  refine g_cast (f' := mkF m 115 #[.val (.int i_f), .val (.long v0), .second, .val (.long v1), .second, .val (.long v2), .second, .val (.long v3), .second, .val (.long t0), .second, .val (.int g), .val (.int (2 : Int32)), .val (.ref b3), .unset, .unset] [(.int r0)]) rfl ?_
  refine g_istore C #[.val (.int i_f), .val (.long v0), .second, .val (.long v1), .second, .val (.long v2), .second, .val (.long v3), .second, .val (.long t0), .second, .val (.int g), .val (.int (2 : Int32)), .val (.ref b3), .val (.int r0), .unset] D0_115 rfl ?_
  refine g_iload C D0_117 rfl ?_
  refine g_istore C #[.val (.int i_f), .val (.long v0), .second, .val (.long v1), .second, .val (.long v2), .second, .val (.long v3), .second, .val (.long t0), .second, .val (.int g), .val (.int (2 : Int32)), .val (.ref b3), .val (.int r0), .val (.int (2 : Int32))] D0_119 rfl ?_
  have w2 : (2 : Int) ≤ r0.toInt → (2 : Int32) = r0 := fun z => Int32.toInt_inj.mp (by have := hr.2.1; have e : (2 : Int32).toInt = 2 := rfl; omega)
  refine g_iload C D0_121 rfl ?_
  refine g_iconst C (3 : Int32) rfl D0_123 ?_
  refine g_icmp_le C D0_124 (fun q34 => ?_) (fun q34 => ?_)
  rotate_left
  · exfalso
    exact absurd q34 (by decide)
  refine g_iload C D0_138 rfl ?_
  refine g_iconst C (2 : Int32) rfl D0_140 ?_
  refine g_icmp_le C D0_141 (fun q35 => ?_) (fun q35 => ?_)
  rotate_left
  · exfalso
    exact absurd q35 (by decide)
  refine g_iload C D0_155 rfl ?_
  refine g_iconst C (1 : Int32) rfl D0_157 ?_
  refine g_icmp_le C D0_158 (fun q36 => ?_) (fun q36 => ?_)
  · exfalso
    exact q36 (by decide)
  refine g_join (ι := Int32) (fun y => hB28) 5 263 (fun y => mkF m 171 #[.val (.int i_f), .val (.long v0), .second, .val (.long v1), .second, .val (.long v2), .second, .val (.long v3), .second, .val (.long t0), .second, .val (.int g), .val (.int (2 : Int32)), .val (.ref b3), .val (.int r0), .val (.int y)] []) (fun y => ((1 : Nat) : Int) ≤ r0.toInt → y = r0) (fun J => ?_) ?_
  · refine g_lloadN C D0_161 rfl ?_
    refine g_lload C D0_162 rfl ?_
    refine g_lcmp_lt C D0_164 D0_165 (fun q37 => ?_) (fun q37 => ?_)
    · exact J _ (want_miss (k := 1) (m := v1) hr (by decide) (fun u z => by have u1 := u 0 (by decide); rw [fa2_0] at u1; rw [fa2_1] at z; exact max2_nlt u1 z) q37 w2)
    · refine g_iconst C (1 : Int32) rfl D0_168 ?_
      refine g_istore C #[.val (.int i_f), .val (.long v0), .second, .val (.long v1), .second, .val (.long v2), .second, .val (.long v3), .second, .val (.long t0), .second, .val (.int g), .val (.int (2 : Int32)), .val (.ref b3), .val (.int r0), .val (.int (1 : Int32))] D0_169 rfl ?_
      exact J _ (want_hit (k := 1) (y := (2 : Int32)) (y' := (2 : Int32)) (m := v1) rfl hr (by decide) (fun z => by rw [fa2_1] at z; exact max2_lt z) q37 w2)
  intro x1 w1
  try dsimp only at w1 ⊢
  refine g_iload C D0_171 rfl ?_
  refine g_if_le C D0_173 (fun q38 => ?_) (fun q38 => ?_)
  · exfalso
    exact q38 (by decide)
  refine g_join (ι := Int32) (fun y => hB28) 5 263 (fun y => mkF m 186 #[.val (.int i_f), .val (.long v0), .second, .val (.long v1), .second, .val (.long v2), .second, .val (.long v3), .second, .val (.long t0), .second, .val (.int g), .val (.int (2 : Int32)), .val (.ref b3), .val (.int r0), .val (.int y)] []) (fun y => ((0 : Nat) : Int) ≤ r0.toInt → y = r0) (fun J => ?_) ?_
  · refine g_lloadN C D0_176 rfl ?_
    refine g_lload C D0_177 rfl ?_
    refine g_lcmp_lt C D0_179 D0_180 (fun q39 => ?_) (fun q39 => ?_)
    · exact J _ (want_miss (k := 0) (m := v0) hr (by decide) (fun _ z => by rw [fa2_0] at z; exact z) q39 w1)
    · refine g_iconst C (0 : Int32) rfl D0_183 ?_
      refine g_istore C #[.val (.int i_f), .val (.long v0), .second, .val (.long v1), .second, .val (.long v2), .second, .val (.long v3), .second, .val (.long t0), .second, .val (.int g), .val (.int (2 : Int32)), .val (.ref b3), .val (.int r0), .val (.int (0 : Int32))] D0_184 rfl ?_
      exact J _ (want_hit (k := 0) (y := x1) (y' := x1) (m := v0) rfl hr (by decide) (fun z => by rw [fa2_0] at z; exact z) q39 w1)
  intro x0 w0
  try dsimp only at w0 ⊢
  refine g_iload C D0_186 rfl ?_
  refine g_iload C D0_188 rfl ?_
  refine g_icmp_ne C D0_190 (fun q40 => ?_) (fun q40 => ?_)
  · exfalso
    exact q40 (w0 hr.1).symm
  refine g_iconst C (1 : Int32) rfl D0_193 ?_
  refine g_goto C D0_194 ?_
  refine g_retZ C D0_198 (by decide) (by decide) ?_
  exact ⟨rfl, trivial⟩
set_option maxRecDepth 65536 in
set_option maxHeartbeats 40000000 in
theorem seg_3 (l : Launch) {Z : State} {a0 : Array Value} (hw : ∀ d ∈ tables_1, d.before a0 Z = true) {p : Program} {e : Env} {s : State} {m : MethodId} {below : List Frame} {meth : Method} {c : ClassFile.Code} (n0 : Nat) (C : Cx p s m meth c Z n0 x.cls code maxLocals ret x.name) (v0 v1 v2 v3 t0 : Int64) (i_f g : Int32) (hB45 : Heap) (b3 : Addr) (ge4 : n0 ≤ b3) (hz48 : n0 ≤ hB45.size) (fo3 fm3 fe3 : Nat → Int64) (HB47 : BT Z hB45 b3 b3 g 3 (3 : Int64) fo3 fm3 fe3) (mo3 : mono fm3 3) (fa3_0 : fm3 0 = v0) (fa3_1 : fm3 1 = (max2 v0 v1)) (fa3_2 : fm3 2 = (max2 (max2 v0 v1) v2)) : Go p l e room_1 s m #[(.int i_f), (.long v0), (.long v1), (.long v2), (.long v3), (.long t0)] below meth c n0 (fun v h' => v = some (.int 1) ∧ True) room_1.cells room_1.slots hB45 5 263 (mkF m 108 #[.val (.int i_f), .val (.long v0), .second, .val (.long v1), .second, .val (.long v2), .second, .val (.long v3), .second, .val (.long t0), .second, .val (.int g), .val (.int (3 : Int32)), .val (.ref b3), .unset, .unset] []) := by
  refine g_aload C D0_108 rfl rfl ?_
  refine g_lload C D0_110 rfl ?_
  refine g_callV C (c_fr l hw hB45 n0 hz48 b3 b3 t0 g 3 (3 : Int64) fo3 fm3 fe3 HB47 (by decide) (by decide) ge4 (mono_int mo3 rfl)) (wd_20 hw) (wd_21 hw) (wd_22 hw) (wd_23 hw) (wd_2 hw) (wd_24 hw) (by decide) D0_112 pd_2 (BT.exa HB47) [(.long t0)] [] rfl rfl rfl 0 (Nat.le_of_eq rfl) (by decide) (by decide) (by decide) (by decide) ?_
  rintro _ _ ⟨r0, rfl, hr, rfl⟩
  refine g_cast (f' := mkF m 115 #[.val (.int i_f), .val (.long v0), .second, .val (.long v1), .second, .val (.long v2), .second, .val (.long v3), .second, .val (.long t0), .second, .val (.int g), .val (.int (3 : Int32)), .val (.ref b3), .unset, .unset] [(.int r0)]) rfl ?_
  refine g_istore C #[.val (.int i_f), .val (.long v0), .second, .val (.long v1), .second, .val (.long v2), .second, .val (.long v3), .second, .val (.long t0), .second, .val (.int g), .val (.int (3 : Int32)), .val (.ref b3), .val (.int r0), .unset] D0_115 rfl ?_
  refine g_iload C D0_117 rfl ?_
  refine g_istore C #[.val (.int i_f), .val (.long v0), .second, .val (.long v1), .second, .val (.long v2), .second, .val (.long v3), .second, .val (.long t0), .second, .val (.int g), .val (.int (3 : Int32)), .val (.ref b3), .val (.int r0), .val (.int (3 : Int32))] D0_119 rfl ?_
  have w3 : (3 : Int) ≤ r0.toInt → (3 : Int32) = r0 := fun z => Int32.toInt_inj.mp (by have := hr.2.1; have e : (3 : Int32).toInt = 3 := rfl; omega)
  refine g_iload C D0_121 rfl ?_
  refine g_iconst C (3 : Int32) rfl D0_123 ?_
  refine g_icmp_le C D0_124 (fun q50 => ?_) (fun q50 => ?_)
  rotate_left
  · exfalso
    exact absurd q50 (by decide)
  refine g_iload C D0_138 rfl ?_
  refine g_iconst C (2 : Int32) rfl D0_140 ?_
  refine g_icmp_le C D0_141 (fun q51 => ?_) (fun q51 => ?_)
  · exfalso
    exact q51 (by decide)
  refine g_join (ι := Int32) (fun y => hB45) 5 263 (fun y => mkF m 155 #[.val (.int i_f), .val (.long v0), .second, .val (.long v1), .second, .val (.long v2), .second, .val (.long v3), .second, .val (.long t0), .second, .val (.int g), .val (.int (3 : Int32)), .val (.ref b3), .val (.int r0), .val (.int y)] []) (fun y => ((2 : Nat) : Int) ≤ r0.toInt → y = r0) (fun J => ?_) ?_
  · refine g_lload C D0_144 rfl ?_
    refine g_lload C D0_146 rfl ?_
    refine g_lcmp_lt C D0_148 D0_149 (fun q52 => ?_) (fun q52 => ?_)
    · exact J _ (want_miss (k := 2) (m := v2) hr (by decide) (fun u z => by have u1 := u 1 (by decide); rw [fa3_1] at u1; rw [fa3_2] at z; exact max2_nlt u1 z) q52 w3)
    · refine g_iconst C (2 : Int32) rfl D0_152 ?_
      refine g_istore C #[.val (.int i_f), .val (.long v0), .second, .val (.long v1), .second, .val (.long v2), .second, .val (.long v3), .second, .val (.long t0), .second, .val (.int g), .val (.int (3 : Int32)), .val (.ref b3), .val (.int r0), .val (.int (2 : Int32))] D0_153 rfl ?_
      exact J _ (want_hit (k := 2) (y := (3 : Int32)) (y' := (3 : Int32)) (m := v2) rfl hr (by decide) (fun z => by rw [fa3_2] at z; exact max2_lt z) q52 w3)
  intro x2 w2
  try dsimp only at w2 ⊢
  refine g_iload C D0_155 rfl ?_
  refine g_iconst C (1 : Int32) rfl D0_157 ?_
  refine g_icmp_le C D0_158 (fun q53 => ?_) (fun q53 => ?_)
  · exfalso
    exact q53 (by decide)
  refine g_join (ι := Int32) (fun y => hB45) 5 263 (fun y => mkF m 171 #[.val (.int i_f), .val (.long v0), .second, .val (.long v1), .second, .val (.long v2), .second, .val (.long v3), .second, .val (.long t0), .second, .val (.int g), .val (.int (3 : Int32)), .val (.ref b3), .val (.int r0), .val (.int y)] []) (fun y => ((1 : Nat) : Int) ≤ r0.toInt → y = r0) (fun J => ?_) ?_
  · refine g_lloadN C D0_161 rfl ?_
    refine g_lload C D0_162 rfl ?_
    refine g_lcmp_lt C D0_164 D0_165 (fun q54 => ?_) (fun q54 => ?_)
    · exact J _ (want_miss (k := 1) (m := v1) hr (by decide) (fun u z => by have u1 := u 0 (by decide); rw [fa3_0] at u1; rw [fa3_1] at z; exact max2_nlt u1 z) q54 w2)
    · refine g_iconst C (1 : Int32) rfl D0_168 ?_
      refine g_istore C #[.val (.int i_f), .val (.long v0), .second, .val (.long v1), .second, .val (.long v2), .second, .val (.long v3), .second, .val (.long t0), .second, .val (.int g), .val (.int (3 : Int32)), .val (.ref b3), .val (.int r0), .val (.int (1 : Int32))] D0_169 rfl ?_
      exact J _ (want_hit (k := 1) (y := x2) (y' := x2) (m := v1) rfl hr (by decide) (fun z => by rw [fa3_1] at z; exact max2_lt z) q54 w2)
  intro x1 w1
  try dsimp only at w1 ⊢
  refine g_iload C D0_171 rfl ?_
  refine g_if_le C D0_173 (fun q55 => ?_) (fun q55 => ?_)
  · exfalso
    exact q55 (by decide)
  refine g_join (ι := Int32) (fun y => hB45) 5 263 (fun y => mkF m 186 #[.val (.int i_f), .val (.long v0), .second, .val (.long v1), .second, .val (.long v2), .second, .val (.long v3), .second, .val (.long t0), .second, .val (.int g), .val (.int (3 : Int32)), .val (.ref b3), .val (.int r0), .val (.int y)] []) (fun y => ((0 : Nat) : Int) ≤ r0.toInt → y = r0) (fun J => ?_) ?_
  · refine g_lloadN C D0_176 rfl ?_
    refine g_lload C D0_177 rfl ?_
    refine g_lcmp_lt C D0_179 D0_180 (fun q56 => ?_) (fun q56 => ?_)
    · exact J _ (want_miss (k := 0) (m := v0) hr (by decide) (fun _ z => by rw [fa3_0] at z; exact z) q56 w1)
    · refine g_iconst C (0 : Int32) rfl D0_183 ?_
      refine g_istore C #[.val (.int i_f), .val (.long v0), .second, .val (.long v1), .second, .val (.long v2), .second, .val (.long v3), .second, .val (.long t0), .second, .val (.int g), .val (.int (3 : Int32)), .val (.ref b3), .val (.int r0), .val (.int (0 : Int32))] D0_184 rfl ?_
      exact J _ (want_hit (k := 0) (y := x1) (y' := x1) (m := v0) rfl hr (by decide) (fun z => by rw [fa3_0] at z; exact z) q56 w1)
  intro x0 w0
  try dsimp only at w0 ⊢
  refine g_iload C D0_186 rfl ?_
  refine g_iload C D0_188 rfl ?_
  refine g_icmp_ne C D0_190 (fun q57 => ?_) (fun q57 => ?_)
  · exfalso
    exact q57 (w0 hr.1).symm
  refine g_iconst C (1 : Int32) rfl D0_193 ?_
  refine g_goto C D0_194 ?_
  refine g_retZ C D0_198 (by decide) (by decide) ?_
  exact ⟨rfl, trivial⟩
set_option maxRecDepth 65536 in
set_option maxHeartbeats 40000000 in
theorem seg_4 (l : Launch) {Z : State} {a0 : Array Value} (hw : ∀ d ∈ tables_1, d.before a0 Z = true) {p : Program} {e : Env} {s : State} {m : MethodId} {below : List Frame} {meth : Method} {c : ClassFile.Code} (n0 : Nat) (C : Cx p s m meth c Z n0 x.cls code maxLocals ret x.name) (v0 v1 v2 v3 t0 : Int64) (i_f g : Int32) (hB66 : Heap) (b3 : Addr) (ge4 : n0 ≤ b3) (hz69 : n0 ≤ hB66.size) (fo4 fm4 fe4 : Nat → Int64) (HB68 : BT Z hB66 b3 b3 g 4 (4 : Int64) fo4 fm4 fe4) (mo4 : mono fm4 4) (fa4_0 : fm4 0 = v0) (fa4_1 : fm4 1 = (max2 v0 v1)) (fa4_2 : fm4 2 = (max2 (max2 v0 v1) v2)) (fa4_3 : fm4 3 = (max2 (max2 (max2 v0 v1) v2) v3)) : Go p l e room_1 s m #[(.int i_f), (.long v0), (.long v1), (.long v2), (.long v3), (.long t0)] below meth c n0 (fun v h' => v = some (.int 1) ∧ True) room_1.cells room_1.slots hB66 5 263 (mkF m 108 #[.val (.int i_f), .val (.long v0), .second, .val (.long v1), .second, .val (.long v2), .second, .val (.long v3), .second, .val (.long t0), .second, .val (.int g), .val (.int (4 : Int32)), .val (.ref b3), .unset, .unset] []) := by
  refine g_aload C D0_108 rfl rfl ?_
  refine g_lload C D0_110 rfl ?_
  refine g_callV C (c_fr l hw hB66 n0 hz69 b3 b3 t0 g 4 (4 : Int64) fo4 fm4 fe4 HB68 (by decide) (by decide) ge4 (mono_int mo4 rfl)) (wd_20 hw) (wd_21 hw) (wd_22 hw) (wd_23 hw) (wd_2 hw) (wd_24 hw) (by decide) D0_112 pd_2 (BT.exa HB68) [(.long t0)] [] rfl rfl rfl 0 (Nat.le_of_eq rfl) (by decide) (by decide) (by decide) (by decide) ?_
  rintro _ _ ⟨r0, rfl, hr, rfl⟩
  refine g_cast (f' := mkF m 115 #[.val (.int i_f), .val (.long v0), .second, .val (.long v1), .second, .val (.long v2), .second, .val (.long v3), .second, .val (.long t0), .second, .val (.int g), .val (.int (4 : Int32)), .val (.ref b3), .unset, .unset] [(.int r0)]) rfl ?_
  refine g_istore C #[.val (.int i_f), .val (.long v0), .second, .val (.long v1), .second, .val (.long v2), .second, .val (.long v3), .second, .val (.long t0), .second, .val (.int g), .val (.int (4 : Int32)), .val (.ref b3), .val (.int r0), .unset] D0_115 rfl ?_
  refine g_iload C D0_117 rfl ?_
  refine g_istore C #[.val (.int i_f), .val (.long v0), .second, .val (.long v1), .second, .val (.long v2), .second, .val (.long v3), .second, .val (.long t0), .second, .val (.int g), .val (.int (4 : Int32)), .val (.ref b3), .val (.int r0), .val (.int (4 : Int32))] D0_119 rfl ?_
  have w4 : (4 : Int) ≤ r0.toInt → (4 : Int32) = r0 := fun z => Int32.toInt_inj.mp (by have := hr.2.1; have e : (4 : Int32).toInt = 4 := rfl; omega)
  refine g_iload C D0_121 rfl ?_
  refine g_iconst C (3 : Int32) rfl D0_123 ?_
  refine g_icmp_le C D0_124 (fun q70 => ?_) (fun q70 => ?_)
  · exfalso
    exact q70 (by decide)
  refine g_join (ι := Int32) (fun y => hB66) 5 263 (fun y => mkF m 138 #[.val (.int i_f), .val (.long v0), .second, .val (.long v1), .second, .val (.long v2), .second, .val (.long v3), .second, .val (.long t0), .second, .val (.int g), .val (.int (4 : Int32)), .val (.ref b3), .val (.int r0), .val (.int y)] []) (fun y => ((3 : Nat) : Int) ≤ r0.toInt → y = r0) (fun J => ?_) ?_
  · refine g_lload C D0_127 rfl ?_
    refine g_lload C D0_129 rfl ?_
    refine g_lcmp_lt C D0_131 D0_132 (fun q71 => ?_) (fun q71 => ?_)
    · exact J _ (want_miss (k := 3) (m := v3) hr (by decide) (fun u z => by have u1 := u 2 (by decide); rw [fa4_2] at u1; rw [fa4_3] at z; exact max2_nlt u1 z) q71 w4)
    · refine g_iconst C (3 : Int32) rfl D0_135 ?_
      refine g_istore C #[.val (.int i_f), .val (.long v0), .second, .val (.long v1), .second, .val (.long v2), .second, .val (.long v3), .second, .val (.long t0), .second, .val (.int g), .val (.int (4 : Int32)), .val (.ref b3), .val (.int r0), .val (.int (3 : Int32))] D0_136 rfl ?_
      exact J _ (want_hit (k := 3) (y := (4 : Int32)) (y' := (4 : Int32)) (m := v3) rfl hr (by decide) (fun z => by rw [fa4_3] at z; exact max2_lt z) q71 w4)
  intro x3 w3
  try dsimp only at w3 ⊢
  refine g_iload C D0_138 rfl ?_
  refine g_iconst C (2 : Int32) rfl D0_140 ?_
  refine g_icmp_le C D0_141 (fun q72 => ?_) (fun q72 => ?_)
  · exfalso
    exact q72 (by decide)
  refine g_join (ι := Int32) (fun y => hB66) 5 263 (fun y => mkF m 155 #[.val (.int i_f), .val (.long v0), .second, .val (.long v1), .second, .val (.long v2), .second, .val (.long v3), .second, .val (.long t0), .second, .val (.int g), .val (.int (4 : Int32)), .val (.ref b3), .val (.int r0), .val (.int y)] []) (fun y => ((2 : Nat) : Int) ≤ r0.toInt → y = r0) (fun J => ?_) ?_
  · refine g_lload C D0_144 rfl ?_
    refine g_lload C D0_146 rfl ?_
    refine g_lcmp_lt C D0_148 D0_149 (fun q73 => ?_) (fun q73 => ?_)
    · exact J _ (want_miss (k := 2) (m := v2) hr (by decide) (fun u z => by have u1 := u 1 (by decide); rw [fa4_1] at u1; rw [fa4_2] at z; exact max2_nlt u1 z) q73 w3)
    · refine g_iconst C (2 : Int32) rfl D0_152 ?_
      refine g_istore C #[.val (.int i_f), .val (.long v0), .second, .val (.long v1), .second, .val (.long v2), .second, .val (.long v3), .second, .val (.long t0), .second, .val (.int g), .val (.int (4 : Int32)), .val (.ref b3), .val (.int r0), .val (.int (2 : Int32))] D0_153 rfl ?_
      exact J _ (want_hit (k := 2) (y := x3) (y' := x3) (m := v2) rfl hr (by decide) (fun z => by rw [fa4_2] at z; exact max2_lt z) q73 w3)
  intro x2 w2
  try dsimp only at w2 ⊢
  refine g_iload C D0_155 rfl ?_
  refine g_iconst C (1 : Int32) rfl D0_157 ?_
  refine g_icmp_le C D0_158 (fun q74 => ?_) (fun q74 => ?_)
  · exfalso
    exact q74 (by decide)
  refine g_join (ι := Int32) (fun y => hB66) 5 263 (fun y => mkF m 171 #[.val (.int i_f), .val (.long v0), .second, .val (.long v1), .second, .val (.long v2), .second, .val (.long v3), .second, .val (.long t0), .second, .val (.int g), .val (.int (4 : Int32)), .val (.ref b3), .val (.int r0), .val (.int y)] []) (fun y => ((1 : Nat) : Int) ≤ r0.toInt → y = r0) (fun J => ?_) ?_
  · refine g_lloadN C D0_161 rfl ?_
    refine g_lload C D0_162 rfl ?_
    refine g_lcmp_lt C D0_164 D0_165 (fun q75 => ?_) (fun q75 => ?_)
    · exact J _ (want_miss (k := 1) (m := v1) hr (by decide) (fun u z => by have u1 := u 0 (by decide); rw [fa4_0] at u1; rw [fa4_1] at z; exact max2_nlt u1 z) q75 w2)
    · refine g_iconst C (1 : Int32) rfl D0_168 ?_
      refine g_istore C #[.val (.int i_f), .val (.long v0), .second, .val (.long v1), .second, .val (.long v2), .second, .val (.long v3), .second, .val (.long t0), .second, .val (.int g), .val (.int (4 : Int32)), .val (.ref b3), .val (.int r0), .val (.int (1 : Int32))] D0_169 rfl ?_
      exact J _ (want_hit (k := 1) (y := x2) (y' := x2) (m := v1) rfl hr (by decide) (fun z => by rw [fa4_1] at z; exact max2_lt z) q75 w2)
  intro x1 w1
  try dsimp only at w1 ⊢
  refine g_iload C D0_171 rfl ?_
  refine g_if_le C D0_173 (fun q76 => ?_) (fun q76 => ?_)
  · exfalso
    exact q76 (by decide)
  refine g_join (ι := Int32) (fun y => hB66) 5 263 (fun y => mkF m 186 #[.val (.int i_f), .val (.long v0), .second, .val (.long v1), .second, .val (.long v2), .second, .val (.long v3), .second, .val (.long t0), .second, .val (.int g), .val (.int (4 : Int32)), .val (.ref b3), .val (.int r0), .val (.int y)] []) (fun y => ((0 : Nat) : Int) ≤ r0.toInt → y = r0) (fun J => ?_) ?_
  · refine g_lloadN C D0_176 rfl ?_
    refine g_lload C D0_177 rfl ?_
    refine g_lcmp_lt C D0_179 D0_180 (fun q77 => ?_) (fun q77 => ?_)
    · exact J _ (want_miss (k := 0) (m := v0) hr (by decide) (fun _ z => by rw [fa4_0] at z; exact z) q77 w1)
    · refine g_iconst C (0 : Int32) rfl D0_183 ?_
      refine g_istore C #[.val (.int i_f), .val (.long v0), .second, .val (.long v1), .second, .val (.long v2), .second, .val (.long v3), .second, .val (.long t0), .second, .val (.int g), .val (.int (4 : Int32)), .val (.ref b3), .val (.int r0), .val (.int (0 : Int32))] D0_184 rfl ?_
      exact J _ (want_hit (k := 0) (y := x1) (y' := x1) (m := v0) rfl hr (by decide) (fun z => by rw [fa4_0] at z; exact z) q77 w1)
  intro x0 w0
  try dsimp only at w0 ⊢
  refine g_iload C D0_186 rfl ?_
  refine g_iload C D0_188 rfl ?_
  refine g_icmp_ne C D0_190 (fun q78 => ?_) (fun q78 => ?_)
  · exfalso
    exact q78 (w0 hr.1).symm
  refine g_iconst C (1 : Int32) rfl D0_193 ?_
  refine g_goto C D0_194 ?_
  refine g_retZ C D0_198 (by decide) (by decide) ?_
  exact ⟨rfl, trivial⟩
set_option maxRecDepth 65536 in
set_option maxHeartbeats 40000000 in
theorem c_law (l : Launch) {Z : State} {a0 : Array Value} (hw : ∀ d ∈ tables_1, d.before a0 Z = true) (ws : List Jvm.Cond) (h0 : Heap) (n0 : Nat) (hn0 : n0 ≤ h0.size) (i_f : Int32) (v0 v1 v2 v3 t0 : Int64)  : Con l Z x code maxLocals ret room_1 ws #[(.int i_f), (.long v0), (.long v1), (.long v2), (.long v3), (.long t0)] h0 n0 (fun v h' => v = some (.int 1) ∧ True) := by
  refine con_of (Ls0 := #[.val (.int i_f), .val (.long v0), .second, .val (.long v1), .second, .val (.long v2), .second, .val (.long v3), .second, .val (.long t0), .second, .unset, .unset, .unset, .unset, .unset]) (plainFor_of_name pn_1) (fun m => by first | (simp [entryFrame, mkF, argsToLocals, Value.category, maxLocals]; done) | rfl) hn0 ?_
  intro p e s m below meth c C
  refine g_join (ι := Int32) (fun y => h0) 0 0 (fun y => mkF m 11 #[.val (.int i_f), .val (.long v0), .second, .val (.long v1), .second, .val (.long v2), .second, .val (.long v3), .second, .val (.long t0), .second, .unset, .unset, .unset, .unset, .unset] [(.int y)]) (fun y => y &&& 1 = y) (fun J => ?_) ?_
  · refine g_iloadN C D0_0 rfl ?_
    refine g_iconst C (1 : Int32) rfl D0_1 ?_
    refine g_iand C D0_2 ?_
    refine g_if_eq C D0_3 (fun q1 => ?_) (fun q1 => ?_)
    · refine g_iconst C (0 : Int32) rfl D0_10 ?_
      exact J _ rfl
    · refine g_iconst C (1 : Int32) rfl D0_6 ?_
      refine g_goto C D0_7 ?_
      exact J _ rfl
  intro g hg
  try dsimp only at hg ⊢
  refine g_istore C #[.val (.int i_f), .val (.long v0), .second, .val (.long v1), .second, .val (.long v2), .second, .val (.long v3), .second, .val (.long t0), .second, .val (.int g), .unset, .unset, .unset, .unset] D0_11 rfl ?_
  refine g_iloadN C D0_13 rfl ?_
  refine g_iconst C (1 : Int32) rfl D0_14 ?_
  refine g_iushr C D0_15 ?_
  refine g_iconst C (5 : Int32) rfl D0_16 ?_
  refine g_irem C D0_17 (by decide) ?_
  generalize q_n1 : ((ushrI i_f (1 : Int32)) - ((ushrI i_f (1 : Int32)) / (5 : Int32)) * (5 : Int32)) = n1
  have b_n := mod5 i_f
  rw [q_n1] at b_n
  refine g_istore C #[.val (.int i_f), .val (.long v0), .second, .val (.long v1), .second, .val (.long v2), .second, .val (.long v3), .second, .val (.long t0), .second, .val (.int g), .val (.int n1), .unset, .unset, .unset] D0_18 rfl ?_
  refine g_new C (wd_0 hw) (wd_1 hw) (wd_2 hw) D0_20 (by decide) (by decide) ?_
  intro h2 b3 ge4 ea5 E6 X7 F8
  have H9 : RB Z h2 b3 .null .null .null (0 : Int32) .null (0 : Int32) (0 : Int64) := ⟨X7, F8 (Or.inl (wd_11 hw)) (ty := (.array .long)) (by decide), F8 (Or.inl (wd_13 hw)) (ty := (.array .long)) (by decide), F8 (Or.inl (wd_15 hw)) (ty := (.array .long)) (by decide), F8 (Or.inr (wd_17 hw)) (ty := .boolean) (by decide), F8 (Or.inl (wd_19 hw)) (ty := (.array .long)) (by decide), F8 (Or.inl (wd_26 hw)) (ty := .int) (by decide), F8 (Or.inl (wd_33 hw)) (ty := .long) (by decide)⟩
  refine g_dup C D0_23 rfl ?_
  refine g_iload C D0_24 rfl ?_
  have hz1 : n0 ≤ h2.size := Nat.le_trans ge4 (Nat.le_of_lt H9.lt)
  refine g_callI C (c_init l hw h2 n0 hz1 b3 b3 g ge4 (Nat.le_refl _) hg H9) rfl (wd_3 hw) (wd_4 hw) (wd_2 hw) (wd_5 hw) (by decide) D0_26 pd_1 [(.int g)] [(.ref b3)] rfl rfl rfl 1 (Nat.le_of_eq rfl) (by decide) (by decide) (by decide) (by decide) ?_
  rintro _ hA ⟨rfl, HA, KA⟩
  have hz2 : n0 ≤ hA.size := Nat.le_trans hz1 KA.1
  refine g_cast (f' := mkF m 29 #[.val (.int i_f), .val (.long v0), .second, .val (.long v1), .second, .val (.long v2), .second, .val (.long v3), .second, .val (.long t0), .second, .val (.int g), .val (.int n1), .unset, .unset, .unset] [(.ref b3)]) rfl ?_
  refine g_astore C #[.val (.int i_f), .val (.long v0), .second, .val (.long v1), .second, .val (.long v2), .second, .val (.long v3), .second, .val (.long t0), .second, .val (.int g), .val (.int n1), .val (.ref b3), .unset, .unset] D0_29 rfl rfl ?_
  rcases b_n with q_k | q_k | q_k | q_k | q_k
  · subst q_k
    have mo0 := mono0 (fun _ => (0 : Int64))
    refine g_iload C D0_31 rfl ?_
    refine g_if_le C D0_33 (fun q10 => ?_) (fun q10 => ?_)
    rotate_left
    · exfalso
      exact absurd q10 (by decide)
    refine g_iload C D0_45 rfl ?_
    refine g_iconst C (1 : Int32) rfl D0_47 ?_
    refine g_icmp_le C D0_48 (fun q11 => ?_) (fun q11 => ?_)
    rotate_left
    · exfalso
      exact absurd q11 (by decide)
    refine g_iload C D0_64 rfl ?_
    refine g_iconst C (2 : Int32) rfl D0_66 ?_
    refine g_icmp_le C D0_67 (fun q12 => ?_) (fun q12 => ?_)
    rotate_left
    · exfalso
      exact absurd q12 (by decide)
    refine g_iload C D0_86 rfl ?_
    refine g_iconst C (3 : Int32) rfl D0_88 ?_
    refine g_icmp_le C D0_89 (fun q13 => ?_) (fun q13 => ?_)
    rotate_left
    · exfalso
      exact absurd q13 (by decide)
    exact seg_0 l hw n0 C v0 v1 v2 v3 t0 i_f g hA b3 ge4 hz2 HA mo0 
  · subst q_k
    have mo0 := mono0 (fun _ => (0 : Int64))
    refine g_iload C D0_31 rfl ?_
    refine g_if_le C D0_33 (fun q14 => ?_) (fun q14 => ?_)
    · exfalso
      exact q14 (by decide)
    refine g_aload C D0_36 rfl rfl ?_
    refine g_lconst C (0 : Int64) rfl D0_38 ?_
    refine g_lconst C (0 : Int64) rfl D0_39 ?_
    refine g_lconst C (1 : Int64) rfl D0_40 ?_
    refine g_lloadN C D0_41 rfl ?_
    obtain ⟨fo1, efo1⟩ : ∃ f, f = upd (fun _ => (0 : Int64)) 0 (0 : Int64) := ⟨_, rfl⟩
    obtain ⟨fm1, efm1⟩ : ∃ f, f = upd (fun _ => (0 : Int64)) 0 v0 := ⟨_, rfl⟩
    obtain ⟨fe1, efe1⟩ : ∃ f, f = upd (fun _ => (0 : Int64)) 0 (1 : Int64) := ⟨_, rfl⟩
    refine g_callV C (c_add l hw hA n0 hz2 b3 b3 (0 : Int64) (0 : Int64) (1 : Int64) v0 g 0 1 0 v0 (fun _ => (0 : Int64)) (fun _ => (0 : Int64)) (fun _ => (0 : Int64)) fo1 fm1 fe1 0 ge4 HA (by decide) (by decide) (by decide) (by decide) (Or.inl ⟨rfl, rfl⟩) efo1 efm1 efe1) (wd_27 hw) (wd_28 hw) (wd_29 hw) (wd_30 hw) (wd_2 hw) (wd_31 hw) (by decide) D0_42 pd_3 (BT.exa HA) [(.long (0 : Int64)), (.long (0 : Int64)), (.long (1 : Int64)), (.long v0)] [] rfl rfl rfl 0 (Nat.le_of_eq rfl) (by decide) (by decide) (by decide) (by decide) ?_
    rintro _ hB15 ⟨rfl, HB17, KB16⟩
    have hz18 : n0 ≤ hB15.size := Nat.le_trans hz2 KB16.1
    refine g_cast (f' := mkF m 45 #[.val (.int i_f), .val (.long v0), .second, .val (.long v1), .second, .val (.long v2), .second, .val (.long v3), .second, .val (.long t0), .second, .val (.int g), .val (.int (1 : Int32)), .val (.ref b3), .unset, .unset] []) rfl ?_
    have fa1_0 : fm1 0 = v0 := by rw [efm1]; exact upd_at _ _ _
    have mo1 : mono fm1 1 := by rw [efm1]; exact mono_step mo0 (fun i hi => absurd hi (Nat.not_lt_zero _))
    refine g_iload C D0_45 rfl ?_
    refine g_iconst C (1 : Int32) rfl D0_47 ?_
    refine g_icmp_le C D0_48 (fun q19 => ?_) (fun q19 => ?_)
    rotate_left
    · exfalso
      exact absurd q19 (by decide)
    refine g_iload C D0_64 rfl ?_
    refine g_iconst C (2 : Int32) rfl D0_66 ?_
    refine g_icmp_le C D0_67 (fun q20 => ?_) (fun q20 => ?_)
    rotate_left
    · exfalso
      exact absurd q20 (by decide)
    refine g_iload C D0_86 rfl ?_
    refine g_iconst C (3 : Int32) rfl D0_88 ?_
    refine g_icmp_le C D0_89 (fun q21 => ?_) (fun q21 => ?_)
    rotate_left
    · exfalso
      exact absurd q21 (by decide)
    exact seg_1 l hw n0 C v0 v1 v2 v3 t0 i_f g hB15 b3 ge4 hz18 _ _ _ HB17 mo1 fa1_0
  · subst q_k
    have mo0 := mono0 (fun _ => (0 : Int64))
    refine g_iload C D0_31 rfl ?_
    refine g_if_le C D0_33 (fun q22 => ?_) (fun q22 => ?_)
    · exfalso
      exact q22 (by decide)
    refine g_aload C D0_36 rfl rfl ?_
    refine g_lconst C (0 : Int64) rfl D0_38 ?_
    refine g_lconst C (0 : Int64) rfl D0_39 ?_
    refine g_lconst C (1 : Int64) rfl D0_40 ?_
    refine g_lloadN C D0_41 rfl ?_
    obtain ⟨fo1, efo1⟩ : ∃ f, f = upd (fun _ => (0 : Int64)) 0 (0 : Int64) := ⟨_, rfl⟩
    obtain ⟨fm1, efm1⟩ : ∃ f, f = upd (fun _ => (0 : Int64)) 0 v0 := ⟨_, rfl⟩
    obtain ⟨fe1, efe1⟩ : ∃ f, f = upd (fun _ => (0 : Int64)) 0 (1 : Int64) := ⟨_, rfl⟩
    refine g_callV C (c_add l hw hA n0 hz2 b3 b3 (0 : Int64) (0 : Int64) (1 : Int64) v0 g 0 1 0 v0 (fun _ => (0 : Int64)) (fun _ => (0 : Int64)) (fun _ => (0 : Int64)) fo1 fm1 fe1 0 ge4 HA (by decide) (by decide) (by decide) (by decide) (Or.inl ⟨rfl, rfl⟩) efo1 efm1 efe1) (wd_27 hw) (wd_28 hw) (wd_29 hw) (wd_30 hw) (wd_2 hw) (wd_31 hw) (by decide) D0_42 pd_3 (BT.exa HA) [(.long (0 : Int64)), (.long (0 : Int64)), (.long (1 : Int64)), (.long v0)] [] rfl rfl rfl 0 (Nat.le_of_eq rfl) (by decide) (by decide) (by decide) (by decide) ?_
    rintro _ hB23 ⟨rfl, HB25, KB24⟩
    have hz26 : n0 ≤ hB23.size := Nat.le_trans hz2 KB24.1
    refine g_cast (f' := mkF m 45 #[.val (.int i_f), .val (.long v0), .second, .val (.long v1), .second, .val (.long v2), .second, .val (.long v3), .second, .val (.long t0), .second, .val (.int g), .val (.int (2 : Int32)), .val (.ref b3), .unset, .unset] []) rfl ?_
    have fa1_0 : fm1 0 = v0 := by rw [efm1]; exact upd_at _ _ _
    have mo1 : mono fm1 1 := by rw [efm1]; exact mono_step mo0 (fun i hi => absurd hi (Nat.not_lt_zero _))
    refine g_iload C D0_45 rfl ?_
    refine g_iconst C (1 : Int32) rfl D0_47 ?_
    refine g_icmp_le C D0_48 (fun q27 => ?_) (fun q27 => ?_)
    · exfalso
      exact q27 (by decide)
    refine g_aload C D0_51 rfl rfl ?_
    refine g_lconst C (1 : Int64) rfl D0_53 ?_
    refine g_ldc2 C (wd_34 hw) D0_54 ?_
    refine g_ldc2 C (wd_35 hw) D0_57 ?_
    refine g_lloadN C D0_60 rfl ?_
    obtain ⟨fo2, efo2⟩ : ∃ f, f = upd fo1 1 (1 : Int64) := ⟨_, rfl⟩
    obtain ⟨fm2, efm2⟩ : ∃ f, f = upd fm1 1 (max2 v0 v1) := ⟨_, rfl⟩
    obtain ⟨fe2, efe2⟩ : ∃ f, f = upd fe1 1 (2 : Int64) := ⟨_, rfl⟩
    refine g_callV C (c_add l hw hB23 n0 hz26 b3 b3 (1 : Int64) (10 : Int64) (2 : Int64) v1 g 1 2 (1 : Int64) (max2 v0 v1) fo1 fm1 fe1 fo2 fm2 fe2 1 ge4 HB25 (by decide) (by decide) (by decide) (by decide) (mx_step (by decide) (by decide) fa1_0) efo2 efm2 efe2) (wd_27 hw) (wd_28 hw) (wd_29 hw) (wd_30 hw) (wd_2 hw) (wd_31 hw) (by decide) D0_61 pd_3 (BT.exa HB25) [(.long (1 : Int64)), (.long (10 : Int64)), (.long (2 : Int64)), (.long v1)] [] rfl rfl rfl 0 (Nat.le_of_eq rfl) (by decide) (by decide) (by decide) (by decide) ?_
    rintro _ hB28 ⟨rfl, HB30, KB29⟩
    have hz31 : n0 ≤ hB28.size := Nat.le_trans hz26 KB29.1
    refine g_cast (f' := mkF m 64 #[.val (.int i_f), .val (.long v0), .second, .val (.long v1), .second, .val (.long v2), .second, .val (.long v3), .second, .val (.long t0), .second, .val (.int g), .val (.int (2 : Int32)), .val (.ref b3), .unset, .unset] []) rfl ?_
    have fa2_0 : fm2 0 = v0 := by rw [efm2]; exact upd_ne (by decide) fa1_0
    have fa2_1 : fm2 1 = (max2 v0 v1) := by rw [efm2]; exact upd_at _ _ _
    have mo2 : mono fm2 2 := by rw [efm2]; exact mono_nx mo1 fa1_0
    refine g_iload C D0_64 rfl ?_
    refine g_iconst C (2 : Int32) rfl D0_66 ?_
    refine g_icmp_le C D0_67 (fun q32 => ?_) (fun q32 => ?_)
    rotate_left
    · exfalso
      exact absurd q32 (by decide)
    refine g_iload C D0_86 rfl ?_
    refine g_iconst C (3 : Int32) rfl D0_88 ?_
    refine g_icmp_le C D0_89 (fun q33 => ?_) (fun q33 => ?_)
    rotate_left
    · exfalso
      exact absurd q33 (by decide)
    exact seg_2 l hw n0 C v0 v1 v2 v3 t0 i_f g hB28 b3 ge4 hz31 _ _ _ HB30 mo2 fa2_0 fa2_1
  · subst q_k
    have mo0 := mono0 (fun _ => (0 : Int64))
    refine g_iload C D0_31 rfl ?_
    refine g_if_le C D0_33 (fun q34 => ?_) (fun q34 => ?_)
    · exfalso
      exact q34 (by decide)
    refine g_aload C D0_36 rfl rfl ?_
    refine g_lconst C (0 : Int64) rfl D0_38 ?_
    refine g_lconst C (0 : Int64) rfl D0_39 ?_
    refine g_lconst C (1 : Int64) rfl D0_40 ?_
    refine g_lloadN C D0_41 rfl ?_
    obtain ⟨fo1, efo1⟩ : ∃ f, f = upd (fun _ => (0 : Int64)) 0 (0 : Int64) := ⟨_, rfl⟩
    obtain ⟨fm1, efm1⟩ : ∃ f, f = upd (fun _ => (0 : Int64)) 0 v0 := ⟨_, rfl⟩
    obtain ⟨fe1, efe1⟩ : ∃ f, f = upd (fun _ => (0 : Int64)) 0 (1 : Int64) := ⟨_, rfl⟩
    refine g_callV C (c_add l hw hA n0 hz2 b3 b3 (0 : Int64) (0 : Int64) (1 : Int64) v0 g 0 1 0 v0 (fun _ => (0 : Int64)) (fun _ => (0 : Int64)) (fun _ => (0 : Int64)) fo1 fm1 fe1 0 ge4 HA (by decide) (by decide) (by decide) (by decide) (Or.inl ⟨rfl, rfl⟩) efo1 efm1 efe1) (wd_27 hw) (wd_28 hw) (wd_29 hw) (wd_30 hw) (wd_2 hw) (wd_31 hw) (by decide) D0_42 pd_3 (BT.exa HA) [(.long (0 : Int64)), (.long (0 : Int64)), (.long (1 : Int64)), (.long v0)] [] rfl rfl rfl 0 (Nat.le_of_eq rfl) (by decide) (by decide) (by decide) (by decide) ?_
    rintro _ hB35 ⟨rfl, HB37, KB36⟩
    have hz38 : n0 ≤ hB35.size := Nat.le_trans hz2 KB36.1
    refine g_cast (f' := mkF m 45 #[.val (.int i_f), .val (.long v0), .second, .val (.long v1), .second, .val (.long v2), .second, .val (.long v3), .second, .val (.long t0), .second, .val (.int g), .val (.int (3 : Int32)), .val (.ref b3), .unset, .unset] []) rfl ?_
    have fa1_0 : fm1 0 = v0 := by rw [efm1]; exact upd_at _ _ _
    have mo1 : mono fm1 1 := by rw [efm1]; exact mono_step mo0 (fun i hi => absurd hi (Nat.not_lt_zero _))
    refine g_iload C D0_45 rfl ?_
    refine g_iconst C (1 : Int32) rfl D0_47 ?_
    refine g_icmp_le C D0_48 (fun q39 => ?_) (fun q39 => ?_)
    · exfalso
      exact q39 (by decide)
    refine g_aload C D0_51 rfl rfl ?_
    refine g_lconst C (1 : Int64) rfl D0_53 ?_
    refine g_ldc2 C (wd_34 hw) D0_54 ?_
    refine g_ldc2 C (wd_35 hw) D0_57 ?_
    refine g_lloadN C D0_60 rfl ?_
    obtain ⟨fo2, efo2⟩ : ∃ f, f = upd fo1 1 (1 : Int64) := ⟨_, rfl⟩
    obtain ⟨fm2, efm2⟩ : ∃ f, f = upd fm1 1 (max2 v0 v1) := ⟨_, rfl⟩
    obtain ⟨fe2, efe2⟩ : ∃ f, f = upd fe1 1 (2 : Int64) := ⟨_, rfl⟩
    refine g_callV C (c_add l hw hB35 n0 hz38 b3 b3 (1 : Int64) (10 : Int64) (2 : Int64) v1 g 1 2 (1 : Int64) (max2 v0 v1) fo1 fm1 fe1 fo2 fm2 fe2 1 ge4 HB37 (by decide) (by decide) (by decide) (by decide) (mx_step (by decide) (by decide) fa1_0) efo2 efm2 efe2) (wd_27 hw) (wd_28 hw) (wd_29 hw) (wd_30 hw) (wd_2 hw) (wd_31 hw) (by decide) D0_61 pd_3 (BT.exa HB37) [(.long (1 : Int64)), (.long (10 : Int64)), (.long (2 : Int64)), (.long v1)] [] rfl rfl rfl 0 (Nat.le_of_eq rfl) (by decide) (by decide) (by decide) (by decide) ?_
    rintro _ hB40 ⟨rfl, HB42, KB41⟩
    have hz43 : n0 ≤ hB40.size := Nat.le_trans hz38 KB41.1
    refine g_cast (f' := mkF m 64 #[.val (.int i_f), .val (.long v0), .second, .val (.long v1), .second, .val (.long v2), .second, .val (.long v3), .second, .val (.long t0), .second, .val (.int g), .val (.int (3 : Int32)), .val (.ref b3), .unset, .unset] []) rfl ?_
    have fa2_0 : fm2 0 = v0 := by rw [efm2]; exact upd_ne (by decide) fa1_0
    have fa2_1 : fm2 1 = (max2 v0 v1) := by rw [efm2]; exact upd_at _ _ _
    have mo2 : mono fm2 2 := by rw [efm2]; exact mono_nx mo1 fa1_0
    refine g_iload C D0_64 rfl ?_
    refine g_iconst C (2 : Int32) rfl D0_66 ?_
    refine g_icmp_le C D0_67 (fun q44 => ?_) (fun q44 => ?_)
    · exfalso
      exact q44 (by decide)
    refine g_aload C D0_70 rfl rfl ?_
    refine g_ldc2 C (wd_35 hw) D0_72 ?_
    refine g_ldc2 C (wd_40 hw) D0_75 ?_
    refine g_ldc2 C (wd_41 hw) D0_78 ?_
    refine g_lload C D0_81 rfl ?_
    obtain ⟨fo3, efo3⟩ : ∃ f, f = upd fo2 2 (2 : Int64) := ⟨_, rfl⟩
    obtain ⟨fm3, efm3⟩ : ∃ f, f = upd fm2 2 (max2 (max2 v0 v1) v2) := ⟨_, rfl⟩
    obtain ⟨fe3, efe3⟩ : ∃ f, f = upd fe2 2 (3 : Int64) := ⟨_, rfl⟩
    refine g_callV C (c_add l hw hB40 n0 hz43 b3 b3 (2 : Int64) (20 : Int64) (3 : Int64) v2 g 2 3 (2 : Int64) (max2 (max2 v0 v1) v2) fo2 fm2 fe2 fo3 fm3 fe3 2 ge4 HB42 (by decide) (by decide) (by decide) (by decide) (mx_step (by decide) (by decide) fa2_1) efo3 efm3 efe3) (wd_27 hw) (wd_28 hw) (wd_29 hw) (wd_30 hw) (wd_2 hw) (wd_31 hw) (by decide) D0_83 pd_3 (BT.exa HB42) [(.long (2 : Int64)), (.long (20 : Int64)), (.long (3 : Int64)), (.long v2)] [] rfl rfl rfl 0 (Nat.le_of_eq rfl) (by decide) (by decide) (by decide) (by decide) ?_
    rintro _ hB45 ⟨rfl, HB47, KB46⟩
    have hz48 : n0 ≤ hB45.size := Nat.le_trans hz43 KB46.1
    refine g_cast (f' := mkF m 86 #[.val (.int i_f), .val (.long v0), .second, .val (.long v1), .second, .val (.long v2), .second, .val (.long v3), .second, .val (.long t0), .second, .val (.int g), .val (.int (3 : Int32)), .val (.ref b3), .unset, .unset] []) rfl ?_
    have fa3_0 : fm3 0 = v0 := by rw [efm3]; exact upd_ne (by decide) fa2_0
    have fa3_1 : fm3 1 = (max2 v0 v1) := by rw [efm3]; exact upd_ne (by decide) fa2_1
    have fa3_2 : fm3 2 = (max2 (max2 v0 v1) v2) := by rw [efm3]; exact upd_at _ _ _
    have mo3 : mono fm3 3 := by rw [efm3]; exact mono_nx mo2 fa2_1
    refine g_iload C D0_86 rfl ?_
    refine g_iconst C (3 : Int32) rfl D0_88 ?_
    refine g_icmp_le C D0_89 (fun q49 => ?_) (fun q49 => ?_)
    rotate_left
    · exfalso
      exact absurd q49 (by decide)
    exact seg_3 l hw n0 C v0 v1 v2 v3 t0 i_f g hB45 b3 ge4 hz48 _ _ _ HB47 mo3 fa3_0 fa3_1 fa3_2
  · subst q_k
    have mo0 := mono0 (fun _ => (0 : Int64))
    refine g_iload C D0_31 rfl ?_
    refine g_if_le C D0_33 (fun q50 => ?_) (fun q50 => ?_)
    · exfalso
      exact q50 (by decide)
    refine g_aload C D0_36 rfl rfl ?_
    refine g_lconst C (0 : Int64) rfl D0_38 ?_
    refine g_lconst C (0 : Int64) rfl D0_39 ?_
    refine g_lconst C (1 : Int64) rfl D0_40 ?_
    refine g_lloadN C D0_41 rfl ?_
    obtain ⟨fo1, efo1⟩ : ∃ f, f = upd (fun _ => (0 : Int64)) 0 (0 : Int64) := ⟨_, rfl⟩
    obtain ⟨fm1, efm1⟩ : ∃ f, f = upd (fun _ => (0 : Int64)) 0 v0 := ⟨_, rfl⟩
    obtain ⟨fe1, efe1⟩ : ∃ f, f = upd (fun _ => (0 : Int64)) 0 (1 : Int64) := ⟨_, rfl⟩
    refine g_callV C (c_add l hw hA n0 hz2 b3 b3 (0 : Int64) (0 : Int64) (1 : Int64) v0 g 0 1 0 v0 (fun _ => (0 : Int64)) (fun _ => (0 : Int64)) (fun _ => (0 : Int64)) fo1 fm1 fe1 0 ge4 HA (by decide) (by decide) (by decide) (by decide) (Or.inl ⟨rfl, rfl⟩) efo1 efm1 efe1) (wd_27 hw) (wd_28 hw) (wd_29 hw) (wd_30 hw) (wd_2 hw) (wd_31 hw) (by decide) D0_42 pd_3 (BT.exa HA) [(.long (0 : Int64)), (.long (0 : Int64)), (.long (1 : Int64)), (.long v0)] [] rfl rfl rfl 0 (Nat.le_of_eq rfl) (by decide) (by decide) (by decide) (by decide) ?_
    rintro _ hB51 ⟨rfl, HB53, KB52⟩
    have hz54 : n0 ≤ hB51.size := Nat.le_trans hz2 KB52.1
    refine g_cast (f' := mkF m 45 #[.val (.int i_f), .val (.long v0), .second, .val (.long v1), .second, .val (.long v2), .second, .val (.long v3), .second, .val (.long t0), .second, .val (.int g), .val (.int (4 : Int32)), .val (.ref b3), .unset, .unset] []) rfl ?_
    have fa1_0 : fm1 0 = v0 := by rw [efm1]; exact upd_at _ _ _
    have mo1 : mono fm1 1 := by rw [efm1]; exact mono_step mo0 (fun i hi => absurd hi (Nat.not_lt_zero _))
    refine g_iload C D0_45 rfl ?_
    refine g_iconst C (1 : Int32) rfl D0_47 ?_
    refine g_icmp_le C D0_48 (fun q55 => ?_) (fun q55 => ?_)
    · exfalso
      exact q55 (by decide)
    refine g_aload C D0_51 rfl rfl ?_
    refine g_lconst C (1 : Int64) rfl D0_53 ?_
    refine g_ldc2 C (wd_34 hw) D0_54 ?_
    refine g_ldc2 C (wd_35 hw) D0_57 ?_
    refine g_lloadN C D0_60 rfl ?_
    obtain ⟨fo2, efo2⟩ : ∃ f, f = upd fo1 1 (1 : Int64) := ⟨_, rfl⟩
    obtain ⟨fm2, efm2⟩ : ∃ f, f = upd fm1 1 (max2 v0 v1) := ⟨_, rfl⟩
    obtain ⟨fe2, efe2⟩ : ∃ f, f = upd fe1 1 (2 : Int64) := ⟨_, rfl⟩
    refine g_callV C (c_add l hw hB51 n0 hz54 b3 b3 (1 : Int64) (10 : Int64) (2 : Int64) v1 g 1 2 (1 : Int64) (max2 v0 v1) fo1 fm1 fe1 fo2 fm2 fe2 1 ge4 HB53 (by decide) (by decide) (by decide) (by decide) (mx_step (by decide) (by decide) fa1_0) efo2 efm2 efe2) (wd_27 hw) (wd_28 hw) (wd_29 hw) (wd_30 hw) (wd_2 hw) (wd_31 hw) (by decide) D0_61 pd_3 (BT.exa HB53) [(.long (1 : Int64)), (.long (10 : Int64)), (.long (2 : Int64)), (.long v1)] [] rfl rfl rfl 0 (Nat.le_of_eq rfl) (by decide) (by decide) (by decide) (by decide) ?_
    rintro _ hB56 ⟨rfl, HB58, KB57⟩
    have hz59 : n0 ≤ hB56.size := Nat.le_trans hz54 KB57.1
    refine g_cast (f' := mkF m 64 #[.val (.int i_f), .val (.long v0), .second, .val (.long v1), .second, .val (.long v2), .second, .val (.long v3), .second, .val (.long t0), .second, .val (.int g), .val (.int (4 : Int32)), .val (.ref b3), .unset, .unset] []) rfl ?_
    have fa2_0 : fm2 0 = v0 := by rw [efm2]; exact upd_ne (by decide) fa1_0
    have fa2_1 : fm2 1 = (max2 v0 v1) := by rw [efm2]; exact upd_at _ _ _
    have mo2 : mono fm2 2 := by rw [efm2]; exact mono_nx mo1 fa1_0
    refine g_iload C D0_64 rfl ?_
    refine g_iconst C (2 : Int32) rfl D0_66 ?_
    refine g_icmp_le C D0_67 (fun q60 => ?_) (fun q60 => ?_)
    · exfalso
      exact q60 (by decide)
    refine g_aload C D0_70 rfl rfl ?_
    refine g_ldc2 C (wd_35 hw) D0_72 ?_
    refine g_ldc2 C (wd_40 hw) D0_75 ?_
    refine g_ldc2 C (wd_41 hw) D0_78 ?_
    refine g_lload C D0_81 rfl ?_
    obtain ⟨fo3, efo3⟩ : ∃ f, f = upd fo2 2 (2 : Int64) := ⟨_, rfl⟩
    obtain ⟨fm3, efm3⟩ : ∃ f, f = upd fm2 2 (max2 (max2 v0 v1) v2) := ⟨_, rfl⟩
    obtain ⟨fe3, efe3⟩ : ∃ f, f = upd fe2 2 (3 : Int64) := ⟨_, rfl⟩
    refine g_callV C (c_add l hw hB56 n0 hz59 b3 b3 (2 : Int64) (20 : Int64) (3 : Int64) v2 g 2 3 (2 : Int64) (max2 (max2 v0 v1) v2) fo2 fm2 fe2 fo3 fm3 fe3 2 ge4 HB58 (by decide) (by decide) (by decide) (by decide) (mx_step (by decide) (by decide) fa2_1) efo3 efm3 efe3) (wd_27 hw) (wd_28 hw) (wd_29 hw) (wd_30 hw) (wd_2 hw) (wd_31 hw) (by decide) D0_83 pd_3 (BT.exa HB58) [(.long (2 : Int64)), (.long (20 : Int64)), (.long (3 : Int64)), (.long v2)] [] rfl rfl rfl 0 (Nat.le_of_eq rfl) (by decide) (by decide) (by decide) (by decide) ?_
    rintro _ hB61 ⟨rfl, HB63, KB62⟩
    have hz64 : n0 ≤ hB61.size := Nat.le_trans hz59 KB62.1
    refine g_cast (f' := mkF m 86 #[.val (.int i_f), .val (.long v0), .second, .val (.long v1), .second, .val (.long v2), .second, .val (.long v3), .second, .val (.long t0), .second, .val (.int g), .val (.int (4 : Int32)), .val (.ref b3), .unset, .unset] []) rfl ?_
    have fa3_0 : fm3 0 = v0 := by rw [efm3]; exact upd_ne (by decide) fa2_0
    have fa3_1 : fm3 1 = (max2 v0 v1) := by rw [efm3]; exact upd_ne (by decide) fa2_1
    have fa3_2 : fm3 2 = (max2 (max2 v0 v1) v2) := by rw [efm3]; exact upd_at _ _ _
    have mo3 : mono fm3 3 := by rw [efm3]; exact mono_nx mo2 fa2_1
    refine g_iload C D0_86 rfl ?_
    refine g_iconst C (3 : Int32) rfl D0_88 ?_
    refine g_icmp_le C D0_89 (fun q65 => ?_) (fun q65 => ?_)
    · exfalso
      exact q65 (by decide)
    refine g_aload C D0_92 rfl rfl ?_
    refine g_ldc2 C (wd_41 hw) D0_94 ?_
    refine g_ldc2 C (wd_42 hw) D0_97 ?_
    refine g_ldc2 C (wd_43 hw) D0_100 ?_
    refine g_lload C D0_103 rfl ?_
    obtain ⟨fo4, efo4⟩ : ∃ f, f = upd fo3 3 (3 : Int64) := ⟨_, rfl⟩
    obtain ⟨fm4, efm4⟩ : ∃ f, f = upd fm3 3 (max2 (max2 (max2 v0 v1) v2) v3) := ⟨_, rfl⟩
    obtain ⟨fe4, efe4⟩ : ∃ f, f = upd fe3 3 (4 : Int64) := ⟨_, rfl⟩
    refine g_callV C (c_add l hw hB61 n0 hz64 b3 b3 (3 : Int64) (30 : Int64) (4 : Int64) v3 g 3 4 (3 : Int64) (max2 (max2 (max2 v0 v1) v2) v3) fo3 fm3 fe3 fo4 fm4 fe4 3 ge4 HB63 (by decide) (by decide) (by decide) (by decide) (mx_step (by decide) (by decide) fa3_2) efo4 efm4 efe4) (wd_27 hw) (wd_28 hw) (wd_29 hw) (wd_30 hw) (wd_2 hw) (wd_31 hw) (by decide) D0_105 pd_3 (BT.exa HB63) [(.long (3 : Int64)), (.long (30 : Int64)), (.long (4 : Int64)), (.long v3)] [] rfl rfl rfl 0 (Nat.le_of_eq rfl) (by decide) (by decide) (by decide) (by decide) ?_
    rintro _ hB66 ⟨rfl, HB68, KB67⟩
    have hz69 : n0 ≤ hB66.size := Nat.le_trans hz64 KB67.1
    refine g_cast (f' := mkF m 108 #[.val (.int i_f), .val (.long v0), .second, .val (.long v1), .second, .val (.long v2), .second, .val (.long v3), .second, .val (.long t0), .second, .val (.int g), .val (.int (4 : Int32)), .val (.ref b3), .unset, .unset] []) rfl ?_
    have fa4_0 : fm4 0 = v0 := by rw [efm4]; exact upd_ne (by decide) fa3_0
    have fa4_1 : fm4 1 = (max2 v0 v1) := by rw [efm4]; exact upd_ne (by decide) fa3_1
    have fa4_2 : fm4 2 = (max2 (max2 v0 v1) v2) := by rw [efm4]; exact upd_ne (by decide) fa3_2
    have fa4_3 : fm4 3 = (max2 (max2 (max2 v0 v1) v2) v3) := by rw [efm4]; exact upd_at _ _ _
    have mo4 : mono fm4 4 := by rw [efm4]; exact mono_nx mo3 fa3_2
    exact seg_4 l hw n0 C v0 v1 v2 v3 t0 i_f g hB66 b3 ge4 hz69 _ _ _ HB68 mo4 fa4_0 fa4_1 fa4_2 fa4_3
set_option maxRecDepth 65536 in
set_option maxHeartbeats 40000000 in
theorem comes_1 {Post : Tables → Env → Array Value → State → Outcome → State → Prop} (hpost : ∀ tb e args s v u, (limb_1_1.after args s (.returned v) u = true ∧ limb_1_2.after args s (.returned v) u = true ∧ True) → FrameEnd s (.returned v) u (Jvm.fieldLocs frame_1_writes args s ++ Jvm.arrayLocs frame_1_arrays args s ++ Jvm.staticLocs frame_1_statics s) 24 640 → Post tb e args s (.returned v) u) :
    ArmFor flags0 classFile x code maxLocals ret World_1 tables_1 room_1 Calls_1 rest_1 Pre_1 Post := by
  intro l hfl _ _ p e ha hc hk s m args below hf hA hF happ hP
  obtain ⟨hcalls, hrest, hpre⟩ := hP
  obtain ⟨-, -, -, hnamed, -, -, -, hat⟩ := (Spec.applies_iff hf).mp happ
  obtain ⟨hg, hn⟩ := and_e (Cond.before_iff.mp (show (Jvm.Cond.and given_1 narrow_1).before args s = true from hpre))
  obtain ⟨gc, g0⟩ := and_e hg
  obtain ⟨ga0, g1⟩ := and_e g0
  obtain ⟨ga1, g2⟩ := and_e g1
  obtain ⟨ga2, g3⟩ := and_e g2
  obtain ⟨ga3, g4⟩ := and_e g3
  obtain ⟨ga4, g5⟩ := and_e g4
  have ga5 := g5
  obtain ⟨w0, w1, w2, w3, w4, w5, rfl⟩ : ∃ w0 w1 w2 w3 w4 w5 : Value, args = #[w0, w1, w2, w3, w4, w5] := by
    have hs : args.size = 6 := by simpa [Cond.value, given_1] using gc
    obtain ⟨L⟩ := args
    match L, hs with
    | [w0, w1, w2, w3, w4, w5], _ => exact ⟨w0, w1, w2, w3, w4, w5, rfl⟩
  have hw := fun d (hd : d ∈ tables_1) => atoms_spec (ws := Jvm.Cond.code x code maxLocals ret :: tables_1) hat d (List.mem_cons_of_mem _ hd)
  obtain ⟨i0, ei0⟩ := is_v ga0
  obtain rfl : w0 = (.int i0) := Option.some.inj ei0
  obtain ⟨i1, ei1⟩ := isL_v ga1
  obtain rfl : w1 = (.long i1) := Option.some.inj ei1
  obtain ⟨i2, ei2⟩ := isL_v ga2
  obtain rfl : w2 = (.long i2) := Option.some.inj ei2
  obtain ⟨i3, ei3⟩ := isL_v ga3
  obtain rfl : w3 = (.long i3) := Option.some.inj ei3
  obtain ⟨i4, ei4⟩ := isL_v ga4
  obtain rfl : w4 = (.long i4) := Option.some.inj ei4
  obtain ⟨i5, ei5⟩ := isL_v ga5
  obtain rfl : w5 = (.long i5) := Option.some.inj ei5
  obtain ⟨n, o, h1, h2, h3, _, L, rfl, ⟨⟨rfl, _⟩, N⟩, hq⟩ := c_law l hw tables_1 s.heap s.heap.size (Nat.le_refl _) i0 i1 i2 i3 i4 i5 p e ha hc hk s m _ below hf ((Spec.applies_iff_loose hf).mp happ).1 ⟨rfl, State.Warmed39.refl s, rfl⟩ trivial
  refine ⟨n, _, h1, h2, h3, hpost _ _ _ _ _ _ ⟨Cond.after_iff.mpr rfl, Cond.after_iff.mpr (eq_i res_at (Term.int_eval (1)) rfl), trivial⟩ ⟨hq.1, hq.2.1, (hq.2.2.sift fun y hy => Or.inr (N y hy)).mono (by decide) (by decide)⟩⟩
theorem main_1_1 : Claimed_1_1 := comes_1 fun _ _ _ _ _ _ h hF => ⟨h.1, hF⟩
theorem main_1_2 : Claimed_1_2 := comes_1 fun _ _ _ _ _ _ h hF => ⟨h.2.1, hF⟩
end Jvm.Pilot.@@N@@
namespace Jvm.Pilot.@@N@@
open Jvm Jvm.ClassFile Sem Op Lib Jvm.Free Jvm.Stand Jvm.Pilot.@@N@@.Jvm.D
/-! MADE BY PROGRAM (witnessworld.py) out of the Statement's table words and the real class files: 12 classes; the members and pool entries that the words name. The judged class is class 1, her method 1. -/
namespace start1
open Jvm.ClassFile
def u (s : String) : CpInfo := .utf8 (stringToUtf16 s)
/-- a pool by its gaps: so many unusable entries, then the entry; so many at the end -/
def gap : Nat → List CpInfo → List CpInfo
  | 0, r => r
  | n + 1, r => .unusable :: gap n r
def poolList (es : List (Nat × CpInfo)) (last : Nat) : List CpInfo := es.foldr (fun e r => gap e.1 (e.2 :: r)) (gap last [])
def pool (es : List (Nat × CpInfo)) (last : Nat) : Array CpInfo := ⟨poolList es last⟩
def fileOf (pool : Array CpInfo) (this : Nat) (attrs : Array Attribute := #[]) (ms : Array MethodInfo := #[]) (fl : Nat := 33) (sup : Nat := 0) (ifs : Array Nat := #[]) (fds : Array FieldInfo := #[]) : ClassFile where
  minorVersion := 0
  majorVersion := 65
  constantPool := pool
  accessFlags := fl
  thisClass := this
  superClass := sup
  interfaces := ifs
  fields := fds
  methods := ms
  attributes := attrs
def plain (name : String) (sup : Option ClassId) : Class where
  name := name
  kind := .ordinary
  loader := none
  accessFlags := 33
  super := sup
  interfaces := #[]
  cf := none
  fields := #[]
  methods := #[]
  instanceTypes := #[]
  staticTypes := #[]
  resolved := #[]
  callSites := []
  init := .initialized
  statics := none
  mirror := none

def pool0 : Array CpInfo := pool [(5, u "<init>"), (0, u "()V"), (1, .class_ 10), (1, u "java/lang/Object")] 113

def k0c0 : Code := { maxStack := 0, maxLocals := 1, code := object_method_1_code, exceptionTable := #[], attributes := #[] }
def k0m0 : Method := { name := "<init>", desc := "()V", sig := { parameters := [], returnType := none }, accessFlags := 1, code := some k0c0 }
/-- java/lang/Object -/
def k0 : Class := { plain "java/lang/Object" none with
  accessFlags := 33
  interfaces := #[]
  cf := some (fileOf pool0 8 #[] #[{ accessFlags := 1, nameIndex := 5, descriptorIndex := 6, attributes := #[] }] 33 0 #[] #[])
  fields := #[]
  methods := #[k0m0]
  instanceTypes := #[]
  staticTypes := #[]
  resolved := Array.replicate 124 none
  statics := none }

def pool1 : Array CpInfo := pool [(2, .class_ 4), (1, u "java/lang/Object"), (0, u "<init>"), (0, u "()V"), (0, .class_ 8), (0, u "com/example/offset/offset/log/BatchTable"), (0, .methodref 7 10), (0, .nameAndType 5 11), (0, u "(Z)V"), (0, .methodref 7 13), (0, .nameAndType 14 15), (0, u "add"), (0, u "(JJJJ)V"), (0, .long 10), (1, .long 2), (1, .long 20), (1, .long 3), (1, .long 30), (1, .long 4), (1, .methodref 7 29), (0, .nameAndType 30 31), (0, u "firstReaching"), (0, u "(J)I"), (0, .class_ 33), (0, u "com/example/offset/offset/log/BatchTableFirstReachingPinLaw"), (2, u "law"), (0, u "(IJJJJJ)Z")] 3

def k1m0 : Method := { name := "<init>", desc := "()V", sig := { parameters := [], returnType := none }, accessFlags := 2, code := none }
def k1c1 : Code := { maxStack := 9, maxLocals := 16, code := code, exceptionTable := #[], attributes := #[] }
def k1m1 : Method := { name := "law", desc := "(IJJJJJ)Z", sig := { parameters := [.int, .long, .long, .long, .long, .long], returnType := some .boolean }, accessFlags := 9, code := some k1c1 }
/-- com/example/offset/offset/log/BatchTableFirstReachingPinLaw -/
def k1 : Class := { plain "com/example/offset/offset/log/BatchTableFirstReachingPinLaw" (some 0) with
  accessFlags := 49
  interfaces := #[]
  cf := some (fileOf pool1 32 #[] #[{ accessFlags := 2, nameIndex := 5, descriptorIndex := 6, attributes := #[] }, { accessFlags := 9, nameIndex := 36, descriptorIndex := 37, attributes := #[] }] 49 2 #[] #[])
  fields := #[]
  methods := #[k1m0, k1m1]
  instanceTypes := #[]
  staticTypes := #[]
  resolved := Array.replicate 41 none
  statics := none }

def pool2 : Array CpInfo := pool [(1, .methodref 2 3), (0, .class_ 4), (0, .nameAndType 5 6), (0, u "java/lang/Object"), (0, u "<init>"), (0, u "()V"), (0, .class_ 8), (0, u "com/example/offset/offset/log/BatchTable"), (0, .fieldref 7 10), (0, .nameAndType 11 12), (0, u "offsets"), (0, u "[J"), (0, .fieldref 7 14), (0, .nameAndType 15 12), (0, u "positions"), (0, .fieldref 7 17), (0, .nameAndType 18 12), (0, u "maxTimestampsUpTo"), (0, .fieldref 7 20), (0, .nameAndType 21 22), (0, u "gaps"), (0, u "Z"), (0, .fieldref 7 24), (0, .nameAndType 25 12), (0, u "ends"), (0, .fieldref 7 27), (0, .nameAndType 28 29), (0, u "count"), (0, u "I"), (0, .fieldref 7 31), (0, .nameAndType 32 33), (0, u "lastEnd"), (0, u "J"), (6, .methodref 41 42), (0, .class_ 43), (0, .nameAndType 44 45), (0, u "java/lang/Math"), (0, u "max"), (0, u "(JJ)J"), (12, u "FIRST_CAPACITY"), (2, u "(Z)V"), (8, u "add"), (0, u "(JJJJ)V"), (3, u "(J)I"), (0, u "firstReaching")] 2

def k2c0 : Code := { maxStack := 2, maxLocals := 2, code := prog_45_method_1_code, exceptionTable := #[], attributes := #[] }
def k2m0 : Method := { name := "<init>", desc := "(Z)V", sig := { parameters := [.boolean], returnType := none }, accessFlags := 0, code := some k2c0 }
def k2c1 : Code := { maxStack := 6, maxLocals := 9, code := prog_45_method_7_code, exceptionTable := #[], attributes := #[] }
def k2m1 : Method := { name := "add", desc := "(JJJJ)V", sig := { parameters := [.long, .long, .long, .long], returnType := none }, accessFlags := 0, code := some k2c1 }
def k2c2 : Code := { maxStack := 4, maxLocals := 6, code := prog_45_method_10_code, exceptionTable := #[], attributes := #[] }
def k2m2 : Method := { name := "firstReaching", desc := "(J)I", sig := { parameters := [.long], returnType := some .int }, accessFlags := 0, code := some k2c2 }
/-- com/example/offset/offset/log/BatchTable -/
def k2 : Class := { plain "com/example/offset/offset/log/BatchTable" (some 0) with
  accessFlags := 48
  interfaces := #[]
  cf := some (fileOf pool2 7 #[] #[{ accessFlags := 0, nameIndex := 5, descriptorIndex := 61, attributes := #[] }, { accessFlags := 0, nameIndex := 70, descriptorIndex := 71, attributes := #[] }, { accessFlags := 0, nameIndex := 76, descriptorIndex := 75, attributes := #[] }] 48 2 #[] #[{ accessFlags := 26, nameIndex := 58, descriptorIndex := 29, attributes := #[] }, { accessFlags := 18, nameIndex := 21, descriptorIndex := 22, attributes := #[] }, { accessFlags := 2, nameIndex := 11, descriptorIndex := 12, attributes := #[] }, { accessFlags := 2, nameIndex := 15, descriptorIndex := 12, attributes := #[] }, { accessFlags := 2, nameIndex := 18, descriptorIndex := 12, attributes := #[] }, { accessFlags := 2, nameIndex := 25, descriptorIndex := 12, attributes := #[] }, { accessFlags := 2, nameIndex := 28, descriptorIndex := 29, attributes := #[] }, { accessFlags := 2, nameIndex := 32, descriptorIndex := 33, attributes := #[] }])
  fields := #[{ name := "FIRST_CAPACITY", type := .int, accessFlags := 26, slot := 0, constantValue := 0 }, { name := "gaps", type := .boolean, accessFlags := 18, slot := 0, constantValue := 0 }, { name := "offsets", type := (.array .long), accessFlags := 2, slot := 1, constantValue := 0 }, { name := "positions", type := (.array .long), accessFlags := 2, slot := 2, constantValue := 0 }, { name := "maxTimestampsUpTo", type := (.array .long), accessFlags := 2, slot := 3, constantValue := 0 }, { name := "ends", type := (.array .long), accessFlags := 2, slot := 4, constantValue := 0 }, { name := "count", type := .int, accessFlags := 2, slot := 5, constantValue := 0 }, { name := "lastEnd", type := .long, accessFlags := 2, slot := 6, constantValue := 0 }]
  methods := #[k2m0, k2m1, k2m2]
  instanceTypes := #[.boolean, (.array .long), (.array .long), (.array .long), (.array .long), .int, .long]
  staticTypes := #[.int]
  resolved := Array.replicate 79 none
  statics := none }

def pool3 : Array CpInfo := pool [(1, .class_ 2), (0, u "java/lang/Math"), (1, .class_ 6), (1, u "java/lang/Object"), (0, u "<init>"), (0, u "()V"), (89, .class_ 100), (1, u "java/lang/Math$RandomNumberGeneratorHolder"), (20, u "(JJ)J"), (50, u "negativeZeroFloatBits"), (0, u "J"), (2, u "negativeZeroDoubleBits"), (21, u "max"), (46, u "$assertionsDisabled"), (0, u "Z"), (91, u "twoToTheDoubleScaleDown"), (0, u "D"), (4, u "twoToTheDoubleScaleUp"), (9, u "E"), (3, u "PI"), (2, u "TAU"), (2, u "DEGREES_TO_RADIANS"), (0, u "RADIANS_TO_DEGREES")] 94

def k3m0 : Method := { name := "<init>", desc := "()V", sig := { parameters := [], returnType := none }, accessFlags := 2, code := none }
def k3c1 : Code := { maxStack := 4, maxLocals := 4, code := jdk_29_method_66_code, exceptionTable := #[], attributes := #[] }
def k3m1 : Method := { name := "max", desc := "(JJ)J", sig := { parameters := [.long, .long], returnType := some .long }, accessFlags := 9, code := some k3c1 }
/-- java/lang/Math -/
def k3 : Class := { plain "java/lang/Math" (some 0) with
  accessFlags := 49
  interfaces := #[]
  cf := some (fileOf pool3 1 #[.nestMembers #[98]] #[{ accessFlags := 2, nameIndex := 7, descriptorIndex := 8, attributes := #[] }, { accessFlags := 9, nameIndex := 198, descriptorIndex := 121, attributes := #[] }] 49 4 #[] #[{ accessFlags := 25, nameIndex := 354, descriptorIndex := 339, attributes := #[] }, { accessFlags := 25, nameIndex := 358, descriptorIndex := 339, attributes := #[] }, { accessFlags := 25, nameIndex := 361, descriptorIndex := 339, attributes := #[] }, { accessFlags := 26, nameIndex := 364, descriptorIndex := 339, attributes := #[] }, { accessFlags := 26, nameIndex := 365, descriptorIndex := 339, attributes := #[] }, { accessFlags := 26, nameIndex := 172, descriptorIndex := 173, attributes := #[] }, { accessFlags := 26, nameIndex := 176, descriptorIndex := 173, attributes := #[] }, { accessFlags := 8, nameIndex := 344, descriptorIndex := 339, attributes := #[] }, { accessFlags := 8, nameIndex := 338, descriptorIndex := 339, attributes := #[] }, { accessFlags := 4120, nameIndex := 245, descriptorIndex := 246, attributes := #[] }])
  fields := #[{ name := "E", type := .double, accessFlags := 25, slot := 0, constantValue := 0 }, { name := "PI", type := .double, accessFlags := 25, slot := 1, constantValue := 0 }, { name := "TAU", type := .double, accessFlags := 25, slot := 2, constantValue := 0 }, { name := "DEGREES_TO_RADIANS", type := .double, accessFlags := 26, slot := 3, constantValue := 0 }, { name := "RADIANS_TO_DEGREES", type := .double, accessFlags := 26, slot := 4, constantValue := 0 }, { name := "negativeZeroFloatBits", type := .long, accessFlags := 26, slot := 5, constantValue := 0 }, { name := "negativeZeroDoubleBits", type := .long, accessFlags := 26, slot := 6, constantValue := 0 }, { name := "twoToTheDoubleScaleUp", type := .double, accessFlags := 8, slot := 7, constantValue := 0 }, { name := "twoToTheDoubleScaleDown", type := .double, accessFlags := 8, slot := 8, constantValue := 0 }, { name := "$assertionsDisabled", type := .boolean, accessFlags := 4120, slot := 9, constantValue := 0 }]
  methods := #[k3m0, k3m1]
  instanceTypes := #[]
  staticTypes := #[.double, .double, .double, .double, .double, .long, .long, .double, .double, .boolean]
  resolved := Array.replicate 460 none
  statics := none }

def pool4 : Array CpInfo := pool [(1, u "java/lang/Cloneable"), (0, .class_ 1), (0, u "java/lang/Object"), (0, .class_ 3)] 3

/-- java/lang/Cloneable -/
def k4 : Class := { plain "java/lang/Cloneable" (some 0) with
  accessFlags := 1537
  interfaces := #[]
  cf := some (fileOf pool4 2 #[] #[] 1537 4 #[] #[])
  fields := #[]
  methods := #[]
  instanceTypes := #[]
  staticTypes := #[]
  resolved := Array.replicate 8 none
  statics := none }

def pool5 : Array CpInfo := pool [(1, u "java/io/Serializable"), (0, .class_ 1), (0, u "java/lang/Object"), (0, .class_ 3)] 3

/-- java/io/Serializable -/
def k5 : Class := { plain "java/io/Serializable" (some 0) with
  accessFlags := 1537
  interfaces := #[]
  cf := some (fileOf pool5 2 #[] #[] 1537 4 #[] #[])
  fields := #[]
  methods := #[]
  instanceTypes := #[]
  staticTypes := #[]
  resolved := Array.replicate 8 none
  statics := none }

/-- the primitive byte -/
def k6 : Class := { plain "byte" none with kind := .primitive 'B', accessFlags := 0x411 }
/-- [B -/
def k7 : Class := { plain "[B" (some 0) with kind := .array 6 .byte, interfaces := #[4, 5], accessFlags := 1041 }

/-- the primitive int -/
def k8 : Class := { plain "int" none with kind := .primitive 'I', accessFlags := 0x411 }
/-- [I -/
def k9 : Class := { plain "[I" (some 0) with kind := .array 8 .int, interfaces := #[4, 5], accessFlags := 1041 }

/-- the primitive long -/
def k10 : Class := { plain "long" none with kind := .primitive 'J', accessFlags := 0x411 }
/-- [J -/
def k11 : Class := { plain "[J" (some 0) with kind := .array 10 .long, interfaces := #[4, 5], accessFlags := 1041 }

def heap : Heap := #[]
def classes : Array Class := #[k0, k1, k2, k3, k4, k5, k6, k7, k8, k9, k10, k11]
def interned : List (Array UInt16 × Addr) := []
def slotsUsed : Nat := 0
def theMethod : MethodId := ⟨1, 1⟩
def args0 : Array Value := #[.int 5, .long 5, .long 5, .long 5, .long 5, .long 5]
def aboutOver (below : List Frame) : State where
  vm := { classes := classes, interned := interned.toArray }
  heap := heap
  slotsUsed := slotsUsed
  threads := #[{ frames := .invoking theMethod args0 :: below }]
def below0 : List Frame := [.native { method := ⟨0, 0⟩, args := #[] }]
def about1 : State := aboutOver below0
def p0 : Program := .bare "" "" ""
def e0 : Env := launch0.env 0 0 0
theorem w_frames : about1.frames = Frame.invoking theMethod args0 :: below0 := rfl
set_option maxRecDepth 65536 in
theorem w_args : argsFit about1.vm theMethod args0 = true := by decide +kernel
set_option maxRecDepth 65536 in
theorem w_heap : heapFits about1 = true := by decide +kernel
set_option maxRecDepth 65536 in
theorem w_runnable : about1.curStatus? = some .runnable := by decide +kernel
set_option maxRecDepth 65536 in
theorem w_alone : about1.alone = true := by decide +kernel
set_option maxRecDepth 65536 in
theorem w_named : about1.methodNamed? x = some theMethod := by decide +kernel
set_option maxRecDepth 65536 in
theorem w_hears : about1.hears theMethod below0 = true := by decide +kernel
set_option maxRecDepth 65536 in
theorem w_ripe : about1.ripe theMethod args0 below0 = true := by decide +kernel
theorem w_running : about1.status = .running := rfl
set_option maxRecDepth 65536 in
theorem w_room : about1.hasRoom e0.platform room_1 = true :=
  launch0.hasRoom_least _ room_1 (by decide +kernel) (by decide +kernel) (by decide +kernel) (by decide +kernel) (by decide +kernel) (by decide +kernel)
theorem allAtoms_all (ts : List Jvm.Cond) (a : Array Jvm.Value) (st : Jvm.State) : (allAtoms ts).before a st = ts.all (fun c => c.before a st) := by
  induction ts with
  | nil => rfl
  | cons c t ih =>
    show (Jvm.Cond.and c (allAtoms t)).before a st = _
    rw [Jvm.Cond.before_and, ih, List.all_cons]
def words1 : List Jvm.Cond := Jvm.Cond.code x code maxLocals ret :: tables_1
/-- a 'code' word, met by the world's own term for the bytes: nothing is compared byte by byte -/
theorem code_word {y : MethodName} {bytes : ByteArray} {mx : Nat} {rt : Option FieldType} {a : Array Value} {s : State} {m : MethodId} {meth : Method} {c : Code} (h1 : s.methodNamed? y = some m) (h2 : s.vm.method? m = some meth) (h3 : meth.code = some c) (h4 : c.code = bytes)
    (h5 : (c.maxLocals == mx && c.exceptionTable.isEmpty && decide (c.maxStack ≤ mostOperands) && decide (meth.sig.returnType = rt) && !meth.locks && decide (parseMethodDescriptor y.desc = some meth.sig)) = true) : (Jvm.Cond.code y bytes mx rt).before a s = true := by
  simp only [Bool.and_eq_true, beq_iff_eq, Bool.not_eq_true', decide_eq_true_eq] at h5
  obtain ⟨⟨⟨⟨⟨g1, g2⟩, g3⟩, g4⟩, g5⟩, g6⟩ := h5
  simp [Cond.before, Cond.holds, Cond.value, h1, h2, h3, h4, g1, g2, g3, g4, g5, g6]
def isCode : Jvm.Cond → Bool
  | .code _ _ _ _ => true
  | _ => false
theorem all_split {L : List Jvm.Cond} {P : Jvm.Cond → Bool} (h1 : L.all (fun c => isCode c || P c) = true) (h2 : ∀ c ∈ L.filter isCode, P c = true) : L.all P = true := by
  refine List.all_eq_true.mpr fun c hc => ?_
  have h := List.all_eq_true.mp h1 c hc
  rcases Bool.eq_false_or_eq_true (isCode c) with hi | hi
  · exact h2 c (List.mem_filter.mpr ⟨hc, hi⟩)
  · simpa [hi] using h
set_option maxRecDepth 65536 in
theorem w_c0 : (Jvm.Cond.code x code maxLocals ret).before args0 about1 = true := code_word (m := ⟨1, 1⟩) (meth := k1m1) (c := k1c1) (by decide +kernel) rfl rfl rfl (by decide +kernel)
set_option maxRecDepth 65536 in
theorem w_c1 : (Jvm.Cond.code ({ cls := "com/example/offset/offset/log/BatchTable", name := "<init>", desc := "(Z)V" } : Jvm.MethodName) prog_45_method_1_code (2 : Nat) (Option.none : Option Jvm.ClassFile.FieldType)).before args0 about1 = true := code_word (m := ⟨2, 0⟩) (meth := k2m0) (c := k2c0) (by decide +kernel) rfl rfl rfl (by decide +kernel)
set_option maxRecDepth 65536 in
theorem w_c2 : (Jvm.Cond.code ({ cls := "java/lang/Object", name := "<init>", desc := "()V" } : Jvm.MethodName) object_method_1_code (1 : Nat) (Option.none : Option Jvm.ClassFile.FieldType)).before args0 about1 = true := code_word (m := ⟨0, 0⟩) (meth := k0m0) (c := k0c0) (by decide +kernel) rfl rfl rfl (by decide +kernel)
set_option maxRecDepth 65536 in
theorem w_c3 : (Jvm.Cond.code ({ cls := "com/example/offset/offset/log/BatchTable", name := "firstReaching", desc := "(J)I" } : Jvm.MethodName) prog_45_method_10_code (6 : Nat) (Option.some Jvm.ClassFile.FieldType.int)).before args0 about1 = true := code_word (m := ⟨2, 2⟩) (meth := k2m2) (c := k2c2) (by decide +kernel) rfl rfl rfl (by decide +kernel)
set_option maxRecDepth 65536 in
theorem w_c4 : (Jvm.Cond.code ({ cls := "com/example/offset/offset/log/BatchTable", name := "add", desc := "(JJJJ)V" } : Jvm.MethodName) prog_45_method_7_code (9 : Nat) (Option.none : Option Jvm.ClassFile.FieldType)).before args0 about1 = true := code_word (m := ⟨2, 1⟩) (meth := k2m1) (c := k2c1) (by decide +kernel) rfl rfl rfl (by decide +kernel)
set_option maxRecDepth 65536 in
theorem w_c5 : (Jvm.Cond.code ({ cls := "java/lang/Math", name := "max", desc := "(JJ)J" } : Jvm.MethodName) jdk_29_method_66_code (4 : Nat) (Option.some Jvm.ClassFile.FieldType.long)).before args0 about1 = true := code_word (m := ⟨3, 1⟩) (meth := k3m1) (c := k3c1) (by decide +kernel) rfl rfl rfl (by decide +kernel)
def codes1 : List Jvm.Cond := [Jvm.Cond.code x code maxLocals ret, Jvm.Cond.code ({ cls := "com/example/offset/offset/log/BatchTable", name := "<init>", desc := "(Z)V" } : Jvm.MethodName) prog_45_method_1_code (2 : Nat) (Option.none : Option Jvm.ClassFile.FieldType), Jvm.Cond.code ({ cls := "java/lang/Object", name := "<init>", desc := "()V" } : Jvm.MethodName) object_method_1_code (1 : Nat) (Option.none : Option Jvm.ClassFile.FieldType), Jvm.Cond.code ({ cls := "com/example/offset/offset/log/BatchTable", name := "firstReaching", desc := "(J)I" } : Jvm.MethodName) prog_45_method_10_code (6 : Nat) (Option.some Jvm.ClassFile.FieldType.int), Jvm.Cond.code ({ cls := "com/example/offset/offset/log/BatchTable", name := "add", desc := "(JJJJ)V" } : Jvm.MethodName) prog_45_method_7_code (9 : Nat) (Option.none : Option Jvm.ClassFile.FieldType), Jvm.Cond.code ({ cls := "java/lang/Math", name := "max", desc := "(JJ)J" } : Jvm.MethodName) jdk_29_method_66_code (4 : Nat) (Option.some Jvm.ClassFile.FieldType.long)]
set_option maxRecDepth 65536 in
theorem codes_eq : words1.filter isCode = codes1 := rfl
theorem w_codes : ∀ c ∈ words1.filter isCode, c.before args0 about1 = true := by
  rw [codes_eq]
  intro c hc
  simp only [codes1, List.mem_cons, List.not_mem_nil, or_false] at hc
  rcases hc with rfl | rfl | rfl | rfl | rfl | rfl
  · exact w_c0
  · exact w_c1
  · exact w_c2
  · exact w_c3
  · exact w_c4
  · exact w_c5
set_option maxRecDepth 65536 in
theorem w_t1 : (words1.take 24).all (fun c => isCode c || c.before args0 about1) = true := by decide +kernel
set_option maxRecDepth 65536 in
theorem w_t2 : (words1.drop 24).all (fun c => isCode c || c.before args0 about1) = true := by decide +kernel
theorem w_tables : (allAtoms (Jvm.Cond.code x code maxLocals ret :: tables_1)).before args0 about1 = true := by
  rw [allAtoms_all]
  show words1.all (fun c => c.before args0 about1) = true
  refine all_split ?_ w_codes
  rw [← List.take_append_drop 24 words1, List.all_append, w_t1, w_t2]
  rfl
set_option maxRecDepth 65536 in
theorem w_case : (Jvm.Cond.and given_1 narrow_1).before args0 about1 = true := by decide +kernel
theorem w_applies : (headSpec (Jvm.Cond.code x code maxLocals ret :: tables_1) room_1).applies x e0.platform about1 = true :=
  (Spec.applies_iff w_frames).mpr ⟨w_running, w_runnable, w_alone, w_named, w_hears, w_ripe, w_room, w_tables⟩
theorem atStart : AtStart classFile x code maxLocals ret World_1 tables_1 room_1 Calls_1 rest_1 Pre_1 launch0 p0 e0 about1 theMethod args0 below0 :=
  ⟨lists_1, trivial, launch0.admits_env _ _ _, launch0.least_env, fairChoices_fair.cas, fairChoices_fair.clock, w_frames, w_args, w_heap, w_applies, trivial, trivial, w_case⟩
end start1
theorem witness_1 : WitnessClaimed_1 := ⟨start1.p0, start1.e0, start1.about1, start1.theMethod, start1.args0, start1.below0, start1.atStart⟩
end Jvm.Pilot.@@N@@
