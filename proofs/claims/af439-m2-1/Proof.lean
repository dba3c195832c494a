import JvmDerived
import JvmDerived.Pilot.@@N@@Statement
import JvmDerived.Pilot.@@N@@Code
set_option linter.unusedVariables false
set_option linter.unusedSimpArgs false
namespace Jvm.Pilot.@@N@@
open Jvm Jvm.ClassFile Sem Op Lib Jvm.Free Jvm.Stand Jvm.LawKit Jvm.RoadKit Bundle Jvm.Pilot.@@N@@.Jvm.D
/-- Java's shifts -/
def shlI (x y : Int32) : Int32 := x <<< (y &&& 31)
def shrI (x y : Int32) : Int32 := x >>> (y &&& 31)
def ushrI (x y : Int32) : Int32 := (x.toUInt32 >>> (y &&& 31).toUInt32).toInt32
def shlJ (x : Int64) (y : Int32) : Int64 := x <<< (y &&& 0x3f).toInt64
def shrJ (x : Int64) (y : Int32) : Int64 := x >>> (y &&& 0x3f).toInt64
def ushrJ (x : Int64) (y : Int32) : Int64 := (x.toUInt64 >>> (y &&& 0x3f).toInt64.toUInt64).toInt64
section Kit
variable {p : Program} {l : Launch} {e : Env} {R : Room} {s : State} {m : MethodId} {args : Array Value} {below : List Frame} {meth : Method} {c : ClassFile.Code} {Z : State} {a0 : Array Value} {n0 : Nat} {Q : Option Value → Heap → Prop} {K N : Nat} {h : Heap} {k n : Nat} {own : String} {bytes : ByteArray} {maxl : Nat} {ret : Option FieldType} {nm : String} {pc pc' pc1 pct : Nat} {Ls : Array Slot} {st : List Value}
/-- the run from T0 comes back with a value and a heap of which Q holds, having written nothing below n0 -/
def Ends (p : Program) (e : Env) (below : List Frame) (s : State) (n0 : Nat) (Q : Option Value → Heap → Prop) (K N : Nat) (T0 : State) : Prop :=
  ∃ t o, Steps p.tables e below T0 t ∧ t.status = .running ∧ Ended t below o ∧ ∃ v L, o = .returned v ∧ (Q v t.heap ∧ Fr n0 L) ∧ FrameEnd s o t L K N
/-- from every state of this invocation whose heap is h and whose top frame is f the run comes back so -/
def Go (p : Program) (l : Launch) (e : Env) (R : Room) (s : State) (m : MethodId) (args : Array Value) (below : List Frame) (meth : Method) (c : ClassFile.Code) (n0 : Nat) (Q : Option Value → Heap → Prop) (K N : Nat) (h : Heap) (k n : Nat) (f : JFrame) : Prop :=
  ∀ T L, Fr n0 L → Stand p l e R s m args below meth c T L k n → T.heap = h → Ends p e below s n0 Q K N (T.setTop f)
/-- what is known of the invocation throughout -/
def Cx (p : Program) (s : State) (m : MethodId) (meth : Method) (c : ClassFile.Code) (Z : State) (n0 : Nat) (own : String) (bytes : ByteArray) (maxl : Nat) (ret : Option FieldType) (nm : String) : Prop :=
  p.tables.exec = Jvm.exec ∧ Z.Warmed39 s.vm ∧ s.vm.findClass own = some m.cls ∧ c.code = bytes ∧ c.maxLocals = maxl ∧ meth.sig.returnType = ret ∧ meth.locks = false ∧ meth.name = nm ∧ n0 ≤ s.heap.size
def In (b : ByteArray) (pc len : Nat) (i : Instr) (pc' : Nat) : Prop := decode b pc = .ok (i, len) ∧ pc' = pc + len
def Jm (b : ByteArray) (pc : Nat) (i : Int → Instr) (pc' pct : Nat) : Prop := ∃ o, decode b pc = .ok (i o, 3) ∧ pc' = pc + 3 ∧ 0 ≤ (pc : Int) + o ∧ ((pc : Int) + o).toNat = pct
theorem g_st {f f' : JFrame} (H : ∀ {T L}, Stand p l e R s m args below meth c T L k n → T.heap = h → ∀ t, Steps p.tables e below (T.setTop f') t → Steps p.tables e below (T.setTop f) t) (G : Go p l e R s m args below meth c n0 Q K N h k n (f')) : Go p l e R s m args below meth c n0 Q K N h k n f := fun T L hL X eT => by
  obtain ⟨t, o, h1, h2⟩ := G T L hL X eT
  exact ⟨t, o, H X eT t h1, h2⟩
theorem g_cast {f f' : JFrame} (q : f = f') (G : Go p l e R s m args below meth c n0 Q K N h k n (f')) : Go p l e R s m args below meth c n0 Q K N h k n f := q ▸ G
theorem g_more {k' n' : Nat} {f : JFrame} (hk : k ≤ k') (hn : n ≤ n') (G : Go p l e R s m args below meth c n0 Q K N h (k') (n') f) : Go p l e R s m args below meth c n0 Q K N h k n f := fun T L hL X eT => G T L hL (X.more hk hn) eT
theorem Stand.up {T : State} {L : List Loc} (X : Stand p l e R s m args below meth c T L k n) : s.heap.size ≤ T.heap.size := by
  exact X.same.2.1
theorem g_iadd (C : Cx p s m meth c Z n0 own bytes maxl ret nm) {x y : Int32} (d : In bytes pc 1 (.iadd) pc') (G : Go p l e R s m args below meth c n0 Q K N h k n (mkF m pc' Ls (.int (x + y) :: st))) : Go p l e R s m args below meth c n0 Q K N h k n (mkF m pc Ls (.int y :: .int x :: st)) := by
  obtain ⟨d, rfl⟩ := d
  exact g_st (fun X _ t kt => XS.iadd X.here C.1 rfl (hb C.2.2.2.1 d) rfl kt) G
theorem g_isub (C : Cx p s m meth c Z n0 own bytes maxl ret nm) {x y : Int32} (d : In bytes pc 1 (.isub) pc') (G : Go p l e R s m args below meth c n0 Q K N h k n (mkF m pc' Ls (.int (x - y) :: st))) : Go p l e R s m args below meth c n0 Q K N h k n (mkF m pc Ls (.int y :: .int x :: st)) := by
  obtain ⟨d, rfl⟩ := d
  exact g_st (fun X _ t kt => XS.isub X.here C.1 rfl (hb C.2.2.2.1 d) rfl kt) G
theorem g_imul (C : Cx p s m meth c Z n0 own bytes maxl ret nm) {x y : Int32} (d : In bytes pc 1 (.imul) pc') (G : Go p l e R s m args below meth c n0 Q K N h k n (mkF m pc' Ls (.int (x * y) :: st))) : Go p l e R s m args below meth c n0 Q K N h k n (mkF m pc Ls (.int y :: .int x :: st)) := by
  obtain ⟨d, rfl⟩ := d
  exact g_st (fun X _ t kt => XS.imul X.here C.1 rfl (hb C.2.2.2.1 d) rfl kt) G
theorem g_iand (C : Cx p s m meth c Z n0 own bytes maxl ret nm) {x y : Int32} (d : In bytes pc 1 (.iand) pc') (G : Go p l e R s m args below meth c n0 Q K N h k n (mkF m pc' Ls (.int (x &&& y) :: st))) : Go p l e R s m args below meth c n0 Q K N h k n (mkF m pc Ls (.int y :: .int x :: st)) := by
  obtain ⟨d, rfl⟩ := d
  exact g_st (fun X _ t kt => XS.iand X.here C.1 rfl (hb C.2.2.2.1 d) rfl kt) G
theorem g_ior (C : Cx p s m meth c Z n0 own bytes maxl ret nm) {x y : Int32} (d : In bytes pc 1 (.ior) pc') (G : Go p l e R s m args below meth c n0 Q K N h k n (mkF m pc' Ls (.int (x ||| y) :: st))) : Go p l e R s m args below meth c n0 Q K N h k n (mkF m pc Ls (.int y :: .int x :: st)) := by
  obtain ⟨d, rfl⟩ := d
  exact g_st (fun X _ t kt => XS.ior X.here C.1 rfl (hb C.2.2.2.1 d) rfl kt) G
theorem g_ixor (C : Cx p s m meth c Z n0 own bytes maxl ret nm) {x y : Int32} (d : In bytes pc 1 (.ixor) pc') (G : Go p l e R s m args below meth c n0 Q K N h k n (mkF m pc' Ls (.int (x ^^^ y) :: st))) : Go p l e R s m args below meth c n0 Q K N h k n (mkF m pc Ls (.int y :: .int x :: st)) := by
  obtain ⟨d, rfl⟩ := d
  exact g_st (fun X _ t kt => XS.ixor X.here C.1 rfl (hb C.2.2.2.1 d) rfl kt) G
theorem g_idiv (C : Cx p s m meth c Z n0 own bytes maxl ret nm) {x y : Int32} (d : In bytes pc 1 (.idiv) pc') (hy : y ≠ 0) (G : Go p l e R s m args below meth c n0 Q K N h k n (mkF m pc' Ls (.int (x / y) :: st))) : Go p l e R s m args below meth c n0 Q K N h k n (mkF m pc Ls (.int y :: .int x :: st)) := by
  obtain ⟨d, rfl⟩ := d
  exact g_st (fun X _ t kt => XS.idiv X.here C.1 rfl (hb C.2.2.2.1 d) rfl hy kt) G
theorem g_irem (C : Cx p s m meth c Z n0 own bytes maxl ret nm) {x y : Int32} (d : In bytes pc 1 (.irem) pc') (hy : y ≠ 0) (G : Go p l e R s m args below meth c n0 Q K N h k n (mkF m pc' Ls (.int (x - (x / y) * y) :: st))) : Go p l e R s m args below meth c n0 Q K N h k n (mkF m pc Ls (.int y :: .int x :: st)) := by
  obtain ⟨d, rfl⟩ := d
  exact g_st (fun X _ t kt => XS.irem X.here C.1 rfl (hb C.2.2.2.1 d) rfl hy kt) G
theorem g_iload (C : Cx p s m meth c Z n0 own bytes maxl ret nm) {i : Nat} {v : Int32} (d : In bytes pc 2 (.iload i) pc') (hl : Ls[i]? = some (.val (.int v))) (G : Go p l e R s m args below meth c n0 Q K N h k n (mkF m pc' Ls (.int v :: st))) : Go p l e R s m args below meth c n0 Q K N h k n (mkF m pc Ls st) := by
  obtain ⟨d, rfl⟩ := d
  exact g_st (fun X _ t kt => XS.iload X.here C.1 rfl (hb C.2.2.2.1 d) hl kt) G
theorem g_iloadN (C : Cx p s m meth c Z n0 own bytes maxl ret nm) {i : Fin 4} {v : Int32} (d : In bytes pc 1 (.iload_n i) pc') (hl : Ls[i.val]? = some (.val (.int v))) (G : Go p l e R s m args below meth c n0 Q K N h k n (mkF m pc' Ls (.int v :: st))) : Go p l e R s m args below meth c n0 Q K N h k n (mkF m pc Ls st) := by
  obtain ⟨d, rfl⟩ := d
  exact g_st (fun X _ t kt => XS.iloadN X.here C.1 rfl (hb C.2.2.2.1 d) hl kt) G
theorem g_istore (C : Cx p s m meth c Z n0 own bytes maxl ret nm) {i : Nat} {x : Int32} (l' : Array Slot) (d : In bytes pc 2 (.istore i) pc') (hl : storeLocals Ls i (.int x) = some l') (G : Go p l e R s m args below meth c n0 Q K N h k n (mkF m pc' l' st)) : Go p l e R s m args below meth c n0 Q K N h k n (mkF m pc Ls (.int x :: st)) := by
  obtain ⟨d, rfl⟩ := d
  exact g_st (fun X _ t kt => XS.istore X.here C.1 rfl (hb C.2.2.2.1 d) rfl hl kt) G
theorem g_istoreN (C : Cx p s m meth c Z n0 own bytes maxl ret nm) {i : Fin 4} {x : Int32} (l' : Array Slot) (d : In bytes pc 1 (.istore_n i) pc') (hl : storeLocals Ls i.val (.int x) = some l') (G : Go p l e R s m args below meth c n0 Q K N h k n (mkF m pc' l' st)) : Go p l e R s m args below meth c n0 Q K N h k n (mkF m pc Ls (.int x :: st)) := by
  obtain ⟨d, rfl⟩ := d
  exact g_st (fun X _ t kt => XS.istoreN X.here C.1 rfl (hb C.2.2.2.1 d) rfl hl kt) G
theorem g_ladd (C : Cx p s m meth c Z n0 own bytes maxl ret nm) {x y : Int64} (d : In bytes pc 1 (.ladd) pc') (G : Go p l e R s m args below meth c n0 Q K N h k n (mkF m pc' Ls (.long (x + y) :: st))) : Go p l e R s m args below meth c n0 Q K N h k n (mkF m pc Ls (.long y :: .long x :: st)) := by
  obtain ⟨d, rfl⟩ := d
  exact g_st (fun X _ t kt => XS.ladd X.here C.1 rfl (hb C.2.2.2.1 d) rfl kt) G
theorem g_lsub (C : Cx p s m meth c Z n0 own bytes maxl ret nm) {x y : Int64} (d : In bytes pc 1 (.lsub) pc') (G : Go p l e R s m args below meth c n0 Q K N h k n (mkF m pc' Ls (.long (x - y) :: st))) : Go p l e R s m args below meth c n0 Q K N h k n (mkF m pc Ls (.long y :: .long x :: st)) := by
  obtain ⟨d, rfl⟩ := d
  exact g_st (fun X _ t kt => XS.lsub X.here C.1 rfl (hb C.2.2.2.1 d) rfl kt) G
theorem g_lmul (C : Cx p s m meth c Z n0 own bytes maxl ret nm) {x y : Int64} (d : In bytes pc 1 (.lmul) pc') (G : Go p l e R s m args below meth c n0 Q K N h k n (mkF m pc' Ls (.long (x * y) :: st))) : Go p l e R s m args below meth c n0 Q K N h k n (mkF m pc Ls (.long y :: .long x :: st)) := by
  obtain ⟨d, rfl⟩ := d
  exact g_st (fun X _ t kt => XS.lmul X.here C.1 rfl (hb C.2.2.2.1 d) rfl kt) G
theorem g_land (C : Cx p s m meth c Z n0 own bytes maxl ret nm) {x y : Int64} (d : In bytes pc 1 (.land) pc') (G : Go p l e R s m args below meth c n0 Q K N h k n (mkF m pc' Ls (.long (x &&& y) :: st))) : Go p l e R s m args below meth c n0 Q K N h k n (mkF m pc Ls (.long y :: .long x :: st)) := by
  obtain ⟨d, rfl⟩ := d
  exact g_st (fun X _ t kt => XS.land X.here C.1 rfl (hb C.2.2.2.1 d) rfl kt) G
theorem g_lor (C : Cx p s m meth c Z n0 own bytes maxl ret nm) {x y : Int64} (d : In bytes pc 1 (.lor) pc') (G : Go p l e R s m args below meth c n0 Q K N h k n (mkF m pc' Ls (.long (x ||| y) :: st))) : Go p l e R s m args below meth c n0 Q K N h k n (mkF m pc Ls (.long y :: .long x :: st)) := by
  obtain ⟨d, rfl⟩ := d
  exact g_st (fun X _ t kt => XS.lor X.here C.1 rfl (hb C.2.2.2.1 d) rfl kt) G
theorem g_lxor (C : Cx p s m meth c Z n0 own bytes maxl ret nm) {x y : Int64} (d : In bytes pc 1 (.lxor) pc') (G : Go p l e R s m args below meth c n0 Q K N h k n (mkF m pc' Ls (.long (x ^^^ y) :: st))) : Go p l e R s m args below meth c n0 Q K N h k n (mkF m pc Ls (.long y :: .long x :: st)) := by
  obtain ⟨d, rfl⟩ := d
  exact g_st (fun X _ t kt => XS.lxor X.here C.1 rfl (hb C.2.2.2.1 d) rfl kt) G
theorem g_ldiv (C : Cx p s m meth c Z n0 own bytes maxl ret nm) {x y : Int64} (d : In bytes pc 1 (.ldiv) pc') (hy : y ≠ 0) (G : Go p l e R s m args below meth c n0 Q K N h k n (mkF m pc' Ls (.long (x / y) :: st))) : Go p l e R s m args below meth c n0 Q K N h k n (mkF m pc Ls (.long y :: .long x :: st)) := by
  obtain ⟨d, rfl⟩ := d
  exact g_st (fun X _ t kt => XS.ldiv X.here C.1 rfl (hb C.2.2.2.1 d) rfl hy kt) G
theorem g_lrem (C : Cx p s m meth c Z n0 own bytes maxl ret nm) {x y : Int64} (d : In bytes pc 1 (.lrem) pc') (hy : y ≠ 0) (G : Go p l e R s m args below meth c n0 Q K N h k n (mkF m pc' Ls (.long (x - (x / y) * y) :: st))) : Go p l e R s m args below meth c n0 Q K N h k n (mkF m pc Ls (.long y :: .long x :: st)) := by
  obtain ⟨d, rfl⟩ := d
  exact g_st (fun X _ t kt => XS.lrem X.here C.1 rfl (hb C.2.2.2.1 d) rfl hy kt) G
theorem g_lload (C : Cx p s m meth c Z n0 own bytes maxl ret nm) {i : Nat} {v : Int64} (d : In bytes pc 2 (.lload i) pc') (hl : Ls[i]? = some (.val (.long v))) (G : Go p l e R s m args below meth c n0 Q K N h k n (mkF m pc' Ls (.long v :: st))) : Go p l e R s m args below meth c n0 Q K N h k n (mkF m pc Ls st) := by
  obtain ⟨d, rfl⟩ := d
  exact g_st (fun X _ t kt => XS.lload X.here C.1 rfl (hb C.2.2.2.1 d) hl kt) G
theorem g_lloadN (C : Cx p s m meth c Z n0 own bytes maxl ret nm) {i : Fin 4} {v : Int64} (d : In bytes pc 1 (.lload_n i) pc') (hl : Ls[i.val]? = some (.val (.long v))) (G : Go p l e R s m args below meth c n0 Q K N h k n (mkF m pc' Ls (.long v :: st))) : Go p l e R s m args below meth c n0 Q K N h k n (mkF m pc Ls st) := by
  obtain ⟨d, rfl⟩ := d
  exact g_st (fun X _ t kt => XS.lloadN X.here C.1 rfl (hb C.2.2.2.1 d) hl kt) G
theorem g_lstore (C : Cx p s m meth c Z n0 own bytes maxl ret nm) {i : Nat} {x : Int64} (l' : Array Slot) (d : In bytes pc 2 (.lstore i) pc') (hl : storeLocals Ls i (.long x) = some l') (G : Go p l e R s m args below meth c n0 Q K N h k n (mkF m pc' l' st)) : Go p l e R s m args below meth c n0 Q K N h k n (mkF m pc Ls (.long x :: st)) := by
  obtain ⟨d, rfl⟩ := d
  exact g_st (fun X _ t kt => XS.lstore X.here C.1 rfl (hb C.2.2.2.1 d) rfl hl kt) G
theorem g_lstoreN (C : Cx p s m meth c Z n0 own bytes maxl ret nm) {i : Fin 4} {x : Int64} (l' : Array Slot) (d : In bytes pc 1 (.lstore_n i) pc') (hl : storeLocals Ls i.val (.long x) = some l') (G : Go p l e R s m args below meth c n0 Q K N h k n (mkF m pc' l' st)) : Go p l e R s m args below meth c n0 Q K N h k n (mkF m pc Ls (.long x :: st)) := by
  obtain ⟨d, rfl⟩ := d
  exact g_st (fun X _ t kt => XS.lstoreN X.here C.1 rfl (hb C.2.2.2.1 d) rfl hl kt) G
theorem g_aload (C : Cx p s m meth c Z n0 own bytes maxl ret nm) {i : Nat} {v : Value} (d : In bytes pc 2 (.aload i) pc') (hl : Ls[i]? = some (.val v)) (hv : v.isRef = true) (G : Go p l e R s m args below meth c n0 Q K N h k n (mkF m pc' Ls (v :: st))) : Go p l e R s m args below meth c n0 Q K N h k n (mkF m pc Ls st) := by
  obtain ⟨d, rfl⟩ := d
  exact g_st (fun X _ t kt => XS.aload X.here C.1 rfl (hb C.2.2.2.1 d) hl hv kt) G
theorem g_astore (C : Cx p s m meth c Z n0 own bytes maxl ret nm) {i : Nat} {x : Value} (l' : Array Slot) (d : In bytes pc 2 (.astore i) pc') (hv : x.isRef = true) (hl : storeLocals Ls i x = some l') (G : Go p l e R s m args below meth c n0 Q K N h k n (mkF m pc' l' st)) : Go p l e R s m args below meth c n0 Q K N h k n (mkF m pc Ls (x :: st)) := by
  obtain ⟨d, rfl⟩ := d
  exact g_st (fun X _ t kt => XS.astore X.here C.1 rfl (hb C.2.2.2.1 d) rfl hv hl kt) G
theorem g_aloadN (C : Cx p s m meth c Z n0 own bytes maxl ret nm) {i : Fin 4} {v : Value} (d : In bytes pc 1 (.aload_n i) pc') (hl : Ls[i.val]? = some (.val v)) (hv : v.isRef = true) (G : Go p l e R s m args below meth c n0 Q K N h k n (mkF m pc' Ls (v :: st))) : Go p l e R s m args below meth c n0 Q K N h k n (mkF m pc Ls st) := by
  obtain ⟨d, rfl⟩ := d
  exact g_st (fun X _ t kt => XS.aloadN X.here C.1 rfl (hb C.2.2.2.1 d) hl hv kt) G
theorem g_astoreN (C : Cx p s m meth c Z n0 own bytes maxl ret nm) {i : Fin 4} {x : Value} (l' : Array Slot) (d : In bytes pc 1 (.astore_n i) pc') (hv : x.isRef = true) (hl : storeLocals Ls i.val x = some l') (G : Go p l e R s m args below meth c n0 Q K N h k n (mkF m pc' l' st)) : Go p l e R s m args below meth c n0 Q K N h k n (mkF m pc Ls (x :: st)) := by
  obtain ⟨d, rfl⟩ := d
  exact g_st (fun X _ t kt => XS.astoreN X.here C.1 rfl (hb C.2.2.2.1 d) rfl hv hl kt) G
theorem g_ishl (C : Cx p s m meth c Z n0 own bytes maxl ret nm) {x y : Int32} (d : In bytes pc 1 (.ishl) pc') (G : Go p l e R s m args below meth c n0 Q K N h k n (mkF m pc' Ls (.int (shlI x y) :: st))) : Go p l e R s m args below meth c n0 Q K N h k n (mkF m pc Ls (.int y :: .int x :: st)) := by
  obtain ⟨d, rfl⟩ := d
  exact g_st (fun X _ t kt => XS.ishl X.here C.1 rfl (hb C.2.2.2.1 d) rfl kt) G
theorem g_ishr (C : Cx p s m meth c Z n0 own bytes maxl ret nm) {x y : Int32} (d : In bytes pc 1 (.ishr) pc') (G : Go p l e R s m args below meth c n0 Q K N h k n (mkF m pc' Ls (.int (shrI x y) :: st))) : Go p l e R s m args below meth c n0 Q K N h k n (mkF m pc Ls (.int y :: .int x :: st)) := by
  obtain ⟨d, rfl⟩ := d
  exact g_st (fun X _ t kt => XS.ishr X.here C.1 rfl (hb C.2.2.2.1 d) rfl kt) G
theorem g_iushr (C : Cx p s m meth c Z n0 own bytes maxl ret nm) {x y : Int32} (d : In bytes pc 1 (.iushr) pc') (G : Go p l e R s m args below meth c n0 Q K N h k n (mkF m pc' Ls (.int (ushrI x y) :: st))) : Go p l e R s m args below meth c n0 Q K N h k n (mkF m pc Ls (.int y :: .int x :: st)) := by
  obtain ⟨d, rfl⟩ := d
  exact g_st (fun X _ t kt => XS.iushr X.here C.1 rfl (hb C.2.2.2.1 d) rfl kt) G
theorem g_lshl (C : Cx p s m meth c Z n0 own bytes maxl ret nm) {x : Int64} {y : Int32} (d : In bytes pc 1 (.lshl) pc') (G : Go p l e R s m args below meth c n0 Q K N h k n (mkF m pc' Ls (.long (shlJ x y) :: st))) : Go p l e R s m args below meth c n0 Q K N h k n (mkF m pc Ls (.int y :: .long x :: st)) := by
  obtain ⟨d, rfl⟩ := d
  exact g_st (fun X _ t kt => XS.lshl X.here C.1 rfl (hb C.2.2.2.1 d) rfl kt) G
theorem g_lshr (C : Cx p s m meth c Z n0 own bytes maxl ret nm) {x : Int64} {y : Int32} (d : In bytes pc 1 (.lshr) pc') (G : Go p l e R s m args below meth c n0 Q K N h k n (mkF m pc' Ls (.long (shrJ x y) :: st))) : Go p l e R s m args below meth c n0 Q K N h k n (mkF m pc Ls (.int y :: .long x :: st)) := by
  obtain ⟨d, rfl⟩ := d
  exact g_st (fun X _ t kt => XS.lshr X.here C.1 rfl (hb C.2.2.2.1 d) rfl kt) G
theorem g_lushr (C : Cx p s m meth c Z n0 own bytes maxl ret nm) {x : Int64} {y : Int32} (d : In bytes pc 1 (.lushr) pc') (G : Go p l e R s m args below meth c n0 Q K N h k n (mkF m pc' Ls (.long (ushrJ x y) :: st))) : Go p l e R s m args below meth c n0 Q K N h k n (mkF m pc Ls (.int y :: .long x :: st)) := by
  obtain ⟨d, rfl⟩ := d
  exact g_st (fun X _ t kt => XS.lushr X.here C.1 rfl (hb C.2.2.2.1 d) rfl kt) G
theorem g_i2l (C : Cx p s m meth c Z n0 own bytes maxl ret nm) {x : Int32} (d : In bytes pc 1 (.i2l) pc') (G : Go p l e R s m args below meth c n0 Q K N h k n (mkF m pc' Ls (.long x.toInt64 :: st))) : Go p l e R s m args below meth c n0 Q K N h k n (mkF m pc Ls (.int x :: st)) := by
  obtain ⟨d, rfl⟩ := d
  exact g_st (fun X _ t kt => XS.i2l X.here C.1 rfl (hb C.2.2.2.1 d) rfl kt) G
theorem g_l2i (C : Cx p s m meth c Z n0 own bytes maxl ret nm) {x : Int64} (d : In bytes pc 1 (.l2i) pc') (G : Go p l e R s m args below meth c n0 Q K N h k n (mkF m pc' Ls (.int x.toInt32 :: st))) : Go p l e R s m args below meth c n0 Q K N h k n (mkF m pc Ls (.long x :: st)) := by
  obtain ⟨d, rfl⟩ := d
  exact g_st (fun X _ t kt => XS.l2i X.here C.1 rfl (hb C.2.2.2.1 d) rfl kt) G
theorem g_i2b (C : Cx p s m meth c Z n0 own bytes maxl ret nm) {x : Int32} (d : In bytes pc 1 (.i2b) pc') (G : Go p l e R s m args below meth c n0 Q K N h k n (mkF m pc' Ls (.int x.toInt8.toInt32 :: st))) : Go p l e R s m args below meth c n0 Q K N h k n (mkF m pc Ls (.int x :: st)) := by
  obtain ⟨d, rfl⟩ := d
  exact g_st (fun X _ t kt => XS.i2b X.here C.1 rfl (hb C.2.2.2.1 d) rfl kt) G
theorem g_ineg (C : Cx p s m meth c Z n0 own bytes maxl ret nm) {x : Int32} (d : In bytes pc 1 (.ineg) pc') (G : Go p l e R s m args below meth c n0 Q K N h k n (mkF m pc' Ls (.int (-x) :: st))) : Go p l e R s m args below meth c n0 Q K N h k n (mkF m pc Ls (.int x :: st)) := by
  obtain ⟨d, rfl⟩ := d
  exact g_st (fun X _ t kt => XS.ineg X.here C.1 rfl (hb C.2.2.2.1 d) rfl kt) G
theorem g_lneg (C : Cx p s m meth c Z n0 own bytes maxl ret nm) {x : Int64} (d : In bytes pc 1 (.lneg) pc') (G : Go p l e R s m args below meth c n0 Q K N h k n (mkF m pc' Ls (.long (-x) :: st))) : Go p l e R s m args below meth c n0 Q K N h k n (mkF m pc Ls (.long x :: st)) := by
  obtain ⟨d, rfl⟩ := d
  exact g_st (fun X _ t kt => XS.lneg X.here C.1 rfl (hb C.2.2.2.1 d) rfl kt) G
theorem g_iconst (C : Cx p s m meth c Z n0 own bytes maxl ret nm) {i : Int} (v : Int32) (hv : Int32.ofInt i = v) (d : In bytes pc 1 (.iconst i) pc') (G : Go p l e R s m args below meth c n0 Q K N h k n (mkF m pc' Ls (.int v :: st))) : Go p l e R s m args below meth c n0 Q K N h k n (mkF m pc Ls st) := by
  obtain ⟨d, rfl⟩ := d
  exact g_st (fun X _ t kt => XS.iconst X.here C.1 rfl (hb C.2.2.2.1 d) (hv ▸ kt)) G
theorem g_bipush (C : Cx p s m meth c Z n0 own bytes maxl ret nm) {i : Int} (v : Int32) (hv : (Int8.ofInt i).toInt32 = v) (d : In bytes pc 2 (.bipush i) pc') (G : Go p l e R s m args below meth c n0 Q K N h k n (mkF m pc' Ls (.int v :: st))) : Go p l e R s m args below meth c n0 Q K N h k n (mkF m pc Ls st) := by
  obtain ⟨d, rfl⟩ := d
  exact g_st (fun X _ t kt => XS.bipush X.here C.1 rfl (hb C.2.2.2.1 d) (hv ▸ kt)) G
theorem g_sipush (C : Cx p s m meth c Z n0 own bytes maxl ret nm) {i : Int} (v : Int32) (hv : (Int16.ofInt i).toInt32 = v) (d : In bytes pc 3 (.sipush i) pc') (G : Go p l e R s m args below meth c n0 Q K N h k n (mkF m pc' Ls (.int v :: st))) : Go p l e R s m args below meth c n0 Q K N h k n (mkF m pc Ls st) := by
  obtain ⟨d, rfl⟩ := d
  exact g_st (fun X _ t kt => XS.sipush X.here C.1 rfl (hb C.2.2.2.1 d) (hv ▸ kt)) G
theorem g_lconst (C : Cx p s m meth c Z n0 own bytes maxl ret nm) {i : Fin 2} (v : Int64) (hv : Int64.ofNat i = v) (d : In bytes pc 1 (.lconst i) pc') (G : Go p l e R s m args below meth c n0 Q K N h k n (mkF m pc' Ls (.long v :: st))) : Go p l e R s m args below meth c n0 Q K N h k n (mkF m pc Ls st) := by
  obtain ⟨d, rfl⟩ := d
  exact g_st (fun X _ t kt => XS.lconst X.here C.1 rfl (hb C.2.2.2.1 d) (hv ▸ kt)) G
theorem g_aconst (C : Cx p s m meth c Z n0 own bytes maxl ret nm) (d : In bytes pc 1 (.aconst_null) pc') (G : Go p l e R s m args below meth c n0 Q K N h k n (mkF m pc' Ls (.null :: st))) : Go p l e R s m args below meth c n0 Q K N h k n (mkF m pc Ls st) := by
  obtain ⟨d, rfl⟩ := d
  exact g_st (fun X _ t kt => XS.aconstNull X.here C.1 rfl (hb C.2.2.2.1 d) kt) G
theorem g_dup (C : Cx p s m meth c Z n0 own bytes maxl ret nm) {x : Value} (d : In bytes pc 1 (.dup) pc') (hc : x.category = 1) (G : Go p l e R s m args below meth c n0 Q K N h k n (mkF m pc' Ls (x :: x :: st))) : Go p l e R s m args below meth c n0 Q K N h k n (mkF m pc Ls (x :: st)) := by
  obtain ⟨d, rfl⟩ := d
  exact g_st (fun X _ t kt => XS.dup X.here C.1 rfl (hb C.2.2.2.1 d) rfl hc kt) G
theorem g_pop (C : Cx p s m meth c Z n0 own bytes maxl ret nm) {x : Value} (d : In bytes pc 1 (.pop) pc') (hc : x.category = 1) (G : Go p l e R s m args below meth c n0 Q K N h k n (mkF m pc' Ls st)) : Go p l e R s m args below meth c n0 Q K N h k n (mkF m pc Ls (x :: st)) := by
  obtain ⟨d, rfl⟩ := d
  exact g_st (fun X _ t kt => XS.pop X.here C.1 rfl (hb C.2.2.2.1 d) rfl hc kt) G
theorem g_iinc (C : Cx p s m meth c Z n0 own bytes maxl ret nm) {i : Nat} {cst : Int} {x : Int32} (y : Int32) (l' : Array Slot) (d : In bytes pc 3 (.iinc i cst) pc') (hl : Ls[i]? = some (.val (.int x))) (hv : y = x + Int32.ofInt cst) (hl' : storeLocals Ls i (.int y) = some l') (G : Go p l e R s m args below meth c n0 Q K N h k n (mkF m pc' l' st)) : Go p l e R s m args below meth c n0 Q K N h k n (mkF m pc Ls st) := by
  obtain ⟨d, rfl⟩ := d
  exact g_st (fun X _ t kt => XS.iinc X.here C.1 rfl (hb C.2.2.2.1 d) hl (hv ▸ hl') kt) G
theorem g_goto (C : Cx p s m meth c Z n0 own bytes maxl ret nm) (d : Jm bytes pc .goto pc' pct) (G : Go p l e R s m args below meth c n0 Q K N h k n (mkF m pct Ls st)) : Go p l e R s m args below meth c n0 Q K N h k n (mkF m pc Ls st) := by
  obtain ⟨o, d, rfl, h1, h2⟩ := d
  exact g_st (fun X _ t kt => XS.goto X.here C.1 rfl (pc0 := pc) (pc' := pct) rfl (hb C.2.2.2.1 d) h1 h2 kt) G
theorem g_icmp_lt (C : Cx p s m meth c Z n0 own bytes maxl ret nm) (d : Jm bytes pc (.if_icmp .lt) pc' pct) {x y : Int32} (Gt : x < y → Go p l e R s m args below meth c n0 Q K N h k n (mkF m pct Ls st)) (Gf : ¬ (x < y) → Go p l e R s m args below meth c n0 Q K N h k n (mkF m pc' Ls st)) : Go p l e R s m args below meth c n0 Q K N h k n (mkF m pc Ls (.int y :: .int x :: st)) := by
  obtain ⟨o, d, rfl, h1, h2⟩ := d
  by_cases q : x < y
  · exact g_st (fun X _ t kt => XS.icmpYes X.here C.1 rfl (pc0 := pc) (pc' := pct) rfl (hb C.2.2.2.1 d) rfl (tlt q).1 h1 h2 kt) (Gt q)
  · exact g_st (fun X _ t kt => XS.icmpNo X.here C.1 rfl (hb C.2.2.2.1 d) rfl (flt q).1 kt) (Gf q)
theorem g_if_lt (C : Cx p s m meth c Z n0 own bytes maxl ret nm) (d : Jm bytes pc (.ifCond .lt) pc' pct) {x : Int32} (Gt : x < 0 → Go p l e R s m args below meth c n0 Q K N h k n (mkF m pct Ls st)) (Gf : ¬ (x < 0) → Go p l e R s m args below meth c n0 Q K N h k n (mkF m pc' Ls st)) : Go p l e R s m args below meth c n0 Q K N h k n (mkF m pc Ls (.int x :: st)) := by
  obtain ⟨o, d, rfl, h1, h2⟩ := d
  by_cases q : x < 0
  · exact g_st (fun X _ t kt => XS.ifYes X.here C.1 rfl (pc0 := pc) (pc' := pct) rfl (hb C.2.2.2.1 d) rfl ((if0 _ _).trans (tlt q).1) h1 h2 kt) (Gt q)
  · exact g_st (fun X _ t kt => XS.ifNo X.here C.1 rfl (hb C.2.2.2.1 d) rfl ((if0 _ _).trans (flt q).1) kt) (Gf q)
theorem g_lcmp_lt (C : Cx p s m meth c Z n0 own bytes maxl ret nm) {x y : Int64} (d1 : In bytes pc 1 .lcmp pc1) (d : Jm bytes pc1 (.ifCond .lt) pc' pct) (Gt : x < y → Go p l e R s m args below meth c n0 Q K N h k n (mkF m pct Ls st)) (Gf : ¬ (x < y) → Go p l e R s m args below meth c n0 Q K N h k n (mkF m pc' Ls st)) : Go p l e R s m args below meth c n0 Q K N h k n (mkF m pc Ls (.long y :: .long x :: st)) := by
  obtain ⟨d1, rfl⟩ := d1
  refine g_st (fun X _ t kt => XS.lcmp X.here C.1 rfl (hb C.2.2.2.1 d1) rfl kt) ?_
  exact g_if_lt C d (fun q => Gt ((lw_lt x y).mp q)) (fun q => Gf (fun z => q ((lw_lt x y).mpr z)))
theorem g_icmp_ge (C : Cx p s m meth c Z n0 own bytes maxl ret nm) (d : Jm bytes pc (.if_icmp .ge) pc' pct) {x y : Int32} (Gt : ¬ (x < y) → Go p l e R s m args below meth c n0 Q K N h k n (mkF m pct Ls st)) (Gf : x < y → Go p l e R s m args below meth c n0 Q K N h k n (mkF m pc' Ls st)) : Go p l e R s m args below meth c n0 Q K N h k n (mkF m pc Ls (.int y :: .int x :: st)) := by
  obtain ⟨o, d, rfl, h1, h2⟩ := d
  by_cases q : ¬ (x < y)
  · exact g_st (fun X _ t kt => XS.icmpYes X.here C.1 rfl (pc0 := pc) (pc' := pct) rfl (hb C.2.2.2.1 d) rfl (flt q).2.1 h1 h2 kt) (Gt q)
  · exact g_st (fun X _ t kt => XS.icmpNo X.here C.1 rfl (hb C.2.2.2.1 d) rfl (tlt (Decidable.not_not.mp q)).2.1 kt) (Gf (Decidable.not_not.mp q))
theorem g_if_ge (C : Cx p s m meth c Z n0 own bytes maxl ret nm) (d : Jm bytes pc (.ifCond .ge) pc' pct) {x : Int32} (Gt : ¬ (x < 0) → Go p l e R s m args below meth c n0 Q K N h k n (mkF m pct Ls st)) (Gf : x < 0 → Go p l e R s m args below meth c n0 Q K N h k n (mkF m pc' Ls st)) : Go p l e R s m args below meth c n0 Q K N h k n (mkF m pc Ls (.int x :: st)) := by
  obtain ⟨o, d, rfl, h1, h2⟩ := d
  by_cases q : ¬ (x < 0)
  · exact g_st (fun X _ t kt => XS.ifYes X.here C.1 rfl (pc0 := pc) (pc' := pct) rfl (hb C.2.2.2.1 d) rfl ((if0 _ _).trans (flt q).2.1) h1 h2 kt) (Gt q)
  · exact g_st (fun X _ t kt => XS.ifNo X.here C.1 rfl (hb C.2.2.2.1 d) rfl ((if0 _ _).trans (tlt (Decidable.not_not.mp q)).2.1) kt) (Gf (Decidable.not_not.mp q))
theorem g_lcmp_ge (C : Cx p s m meth c Z n0 own bytes maxl ret nm) {x y : Int64} (d1 : In bytes pc 1 .lcmp pc1) (d : Jm bytes pc1 (.ifCond .ge) pc' pct) (Gt : ¬ (x < y) → Go p l e R s m args below meth c n0 Q K N h k n (mkF m pct Ls st)) (Gf : x < y → Go p l e R s m args below meth c n0 Q K N h k n (mkF m pc' Ls st)) : Go p l e R s m args below meth c n0 Q K N h k n (mkF m pc Ls (.long y :: .long x :: st)) := by
  obtain ⟨d1, rfl⟩ := d1
  refine g_st (fun X _ t kt => XS.lcmp X.here C.1 rfl (hb C.2.2.2.1 d1) rfl kt) ?_
  exact g_if_ge C d (fun q => Gt (fun z => q ((lw_lt x y).mpr z))) (fun q => Gf ((lw_lt x y).mp q))
theorem g_icmp_gt (C : Cx p s m meth c Z n0 own bytes maxl ret nm) (d : Jm bytes pc (.if_icmp .gt) pc' pct) {x y : Int32} (Gt : y < x → Go p l e R s m args below meth c n0 Q K N h k n (mkF m pct Ls st)) (Gf : ¬ (y < x) → Go p l e R s m args below meth c n0 Q K N h k n (mkF m pc' Ls st)) : Go p l e R s m args below meth c n0 Q K N h k n (mkF m pc Ls (.int y :: .int x :: st)) := by
  obtain ⟨o, d, rfl, h1, h2⟩ := d
  by_cases q : y < x
  · exact g_st (fun X _ t kt => XS.icmpYes X.here C.1 rfl (pc0 := pc) (pc' := pct) rfl (hb C.2.2.2.1 d) rfl (tlt q).2.2.1 h1 h2 kt) (Gt q)
  · exact g_st (fun X _ t kt => XS.icmpNo X.here C.1 rfl (hb C.2.2.2.1 d) rfl (flt q).2.2.1 kt) (Gf q)
theorem g_if_gt (C : Cx p s m meth c Z n0 own bytes maxl ret nm) (d : Jm bytes pc (.ifCond .gt) pc' pct) {x : Int32} (Gt : 0 < x → Go p l e R s m args below meth c n0 Q K N h k n (mkF m pct Ls st)) (Gf : ¬ (0 < x) → Go p l e R s m args below meth c n0 Q K N h k n (mkF m pc' Ls st)) : Go p l e R s m args below meth c n0 Q K N h k n (mkF m pc Ls (.int x :: st)) := by
  obtain ⟨o, d, rfl, h1, h2⟩ := d
  by_cases q : 0 < x
  · exact g_st (fun X _ t kt => XS.ifYes X.here C.1 rfl (pc0 := pc) (pc' := pct) rfl (hb C.2.2.2.1 d) rfl ((if0 _ _).trans (tlt q).2.2.1) h1 h2 kt) (Gt q)
  · exact g_st (fun X _ t kt => XS.ifNo X.here C.1 rfl (hb C.2.2.2.1 d) rfl ((if0 _ _).trans (flt q).2.2.1) kt) (Gf q)
theorem g_lcmp_gt (C : Cx p s m meth c Z n0 own bytes maxl ret nm) {x y : Int64} (d1 : In bytes pc 1 .lcmp pc1) (d : Jm bytes pc1 (.ifCond .gt) pc' pct) (Gt : y < x → Go p l e R s m args below meth c n0 Q K N h k n (mkF m pct Ls st)) (Gf : ¬ (y < x) → Go p l e R s m args below meth c n0 Q K N h k n (mkF m pc' Ls st)) : Go p l e R s m args below meth c n0 Q K N h k n (mkF m pc Ls (.long y :: .long x :: st)) := by
  obtain ⟨d1, rfl⟩ := d1
  refine g_st (fun X _ t kt => XS.lcmp X.here C.1 rfl (hb C.2.2.2.1 d1) rfl kt) ?_
  exact g_if_gt C d (fun q => Gt ((lw_gt x y).mp q)) (fun q => Gf (fun z => q ((lw_gt x y).mpr z)))
theorem g_icmp_le (C : Cx p s m meth c Z n0 own bytes maxl ret nm) (d : Jm bytes pc (.if_icmp .le) pc' pct) {x y : Int32} (Gt : ¬ (y < x) → Go p l e R s m args below meth c n0 Q K N h k n (mkF m pct Ls st)) (Gf : y < x → Go p l e R s m args below meth c n0 Q K N h k n (mkF m pc' Ls st)) : Go p l e R s m args below meth c n0 Q K N h k n (mkF m pc Ls (.int y :: .int x :: st)) := by
  obtain ⟨o, d, rfl, h1, h2⟩ := d
  by_cases q : ¬ (y < x)
  · exact g_st (fun X _ t kt => XS.icmpYes X.here C.1 rfl (pc0 := pc) (pc' := pct) rfl (hb C.2.2.2.1 d) rfl (flt q).2.2.2 h1 h2 kt) (Gt q)
  · exact g_st (fun X _ t kt => XS.icmpNo X.here C.1 rfl (hb C.2.2.2.1 d) rfl (tlt (Decidable.not_not.mp q)).2.2.2 kt) (Gf (Decidable.not_not.mp q))
theorem g_if_le (C : Cx p s m meth c Z n0 own bytes maxl ret nm) (d : Jm bytes pc (.ifCond .le) pc' pct) {x : Int32} (Gt : ¬ (0 < x) → Go p l e R s m args below meth c n0 Q K N h k n (mkF m pct Ls st)) (Gf : 0 < x → Go p l e R s m args below meth c n0 Q K N h k n (mkF m pc' Ls st)) : Go p l e R s m args below meth c n0 Q K N h k n (mkF m pc Ls (.int x :: st)) := by
  obtain ⟨o, d, rfl, h1, h2⟩ := d
  by_cases q : ¬ (0 < x)
  · exact g_st (fun X _ t kt => XS.ifYes X.here C.1 rfl (pc0 := pc) (pc' := pct) rfl (hb C.2.2.2.1 d) rfl ((if0 _ _).trans (flt q).2.2.2) h1 h2 kt) (Gt q)
  · exact g_st (fun X _ t kt => XS.ifNo X.here C.1 rfl (hb C.2.2.2.1 d) rfl ((if0 _ _).trans (tlt (Decidable.not_not.mp q)).2.2.2) kt) (Gf (Decidable.not_not.mp q))
theorem g_lcmp_le (C : Cx p s m meth c Z n0 own bytes maxl ret nm) {x y : Int64} (d1 : In bytes pc 1 .lcmp pc1) (d : Jm bytes pc1 (.ifCond .le) pc' pct) (Gt : ¬ (y < x) → Go p l e R s m args below meth c n0 Q K N h k n (mkF m pct Ls st)) (Gf : y < x → Go p l e R s m args below meth c n0 Q K N h k n (mkF m pc' Ls st)) : Go p l e R s m args below meth c n0 Q K N h k n (mkF m pc Ls (.long y :: .long x :: st)) := by
  obtain ⟨d1, rfl⟩ := d1
  refine g_st (fun X _ t kt => XS.lcmp X.here C.1 rfl (hb C.2.2.2.1 d1) rfl kt) ?_
  exact g_if_le C d (fun q => Gt (fun z => q ((lw_gt x y).mpr z))) (fun q => Gf ((lw_gt x y).mp q))
theorem g_icmp_eq (C : Cx p s m meth c Z n0 own bytes maxl ret nm) (d : Jm bytes pc (.if_icmp .eq) pc' pct) {x y : Int32} (Gt : x = y → Go p l e R s m args below meth c n0 Q K N h k n (mkF m pct Ls st)) (Gf : ¬ (x = y) → Go p l e R s m args below meth c n0 Q K N h k n (mkF m pc' Ls st)) : Go p l e R s m args below meth c n0 Q K N h k n (mkF m pc Ls (.int y :: .int x :: st)) := by
  obtain ⟨o, d, rfl, h1, h2⟩ := d
  by_cases q : x = y
  · exact g_st (fun X _ t kt => XS.icmpYes X.here C.1 rfl (pc0 := pc) (pc' := pct) rfl (hb C.2.2.2.1 d) rfl (teq q).1 h1 h2 kt) (Gt q)
  · exact g_st (fun X _ t kt => XS.icmpNo X.here C.1 rfl (hb C.2.2.2.1 d) rfl (feq q).1 kt) (Gf q)
theorem g_if_eq (C : Cx p s m meth c Z n0 own bytes maxl ret nm) (d : Jm bytes pc (.ifCond .eq) pc' pct) {x : Int32} (Gt : x = 0 → Go p l e R s m args below meth c n0 Q K N h k n (mkF m pct Ls st)) (Gf : ¬ (x = 0) → Go p l e R s m args below meth c n0 Q K N h k n (mkF m pc' Ls st)) : Go p l e R s m args below meth c n0 Q K N h k n (mkF m pc Ls (.int x :: st)) := by
  obtain ⟨o, d, rfl, h1, h2⟩ := d
  by_cases q : x = 0
  · exact g_st (fun X _ t kt => XS.ifYes X.here C.1 rfl (pc0 := pc) (pc' := pct) rfl (hb C.2.2.2.1 d) rfl ((if0 _ _).trans (teq q).1) h1 h2 kt) (Gt q)
  · exact g_st (fun X _ t kt => XS.ifNo X.here C.1 rfl (hb C.2.2.2.1 d) rfl ((if0 _ _).trans (feq q).1) kt) (Gf q)
theorem g_lcmp_eq (C : Cx p s m meth c Z n0 own bytes maxl ret nm) {x y : Int64} (d1 : In bytes pc 1 .lcmp pc1) (d : Jm bytes pc1 (.ifCond .eq) pc' pct) (Gt : x = y → Go p l e R s m args below meth c n0 Q K N h k n (mkF m pct Ls st)) (Gf : ¬ (x = y) → Go p l e R s m args below meth c n0 Q K N h k n (mkF m pc' Ls st)) : Go p l e R s m args below meth c n0 Q K N h k n (mkF m pc Ls (.long y :: .long x :: st)) := by
  obtain ⟨d1, rfl⟩ := d1
  refine g_st (fun X _ t kt => XS.lcmp X.here C.1 rfl (hb C.2.2.2.1 d1) rfl kt) ?_
  exact g_if_eq C d (fun q => Gt ((lw_eq x y).mp q)) (fun q => Gf (fun z => q ((lw_eq x y).mpr z)))
theorem g_icmp_ne (C : Cx p s m meth c Z n0 own bytes maxl ret nm) (d : Jm bytes pc (.if_icmp .ne) pc' pct) {x y : Int32} (Gt : ¬ (x = y) → Go p l e R s m args below meth c n0 Q K N h k n (mkF m pct Ls st)) (Gf : x = y → Go p l e R s m args below meth c n0 Q K N h k n (mkF m pc' Ls st)) : Go p l e R s m args below meth c n0 Q K N h k n (mkF m pc Ls (.int y :: .int x :: st)) := by
  obtain ⟨o, d, rfl, h1, h2⟩ := d
  by_cases q : ¬ (x = y)
  · exact g_st (fun X _ t kt => XS.icmpYes X.here C.1 rfl (pc0 := pc) (pc' := pct) rfl (hb C.2.2.2.1 d) rfl (feq q).2 h1 h2 kt) (Gt q)
  · exact g_st (fun X _ t kt => XS.icmpNo X.here C.1 rfl (hb C.2.2.2.1 d) rfl (teq (Decidable.not_not.mp q)).2 kt) (Gf (Decidable.not_not.mp q))
theorem g_if_ne (C : Cx p s m meth c Z n0 own bytes maxl ret nm) (d : Jm bytes pc (.ifCond .ne) pc' pct) {x : Int32} (Gt : ¬ (x = 0) → Go p l e R s m args below meth c n0 Q K N h k n (mkF m pct Ls st)) (Gf : x = 0 → Go p l e R s m args below meth c n0 Q K N h k n (mkF m pc' Ls st)) : Go p l e R s m args below meth c n0 Q K N h k n (mkF m pc Ls (.int x :: st)) := by
  obtain ⟨o, d, rfl, h1, h2⟩ := d
  by_cases q : ¬ (x = 0)
  · exact g_st (fun X _ t kt => XS.ifYes X.here C.1 rfl (pc0 := pc) (pc' := pct) rfl (hb C.2.2.2.1 d) rfl ((if0 _ _).trans (feq q).2) h1 h2 kt) (Gt q)
  · exact g_st (fun X _ t kt => XS.ifNo X.here C.1 rfl (hb C.2.2.2.1 d) rfl ((if0 _ _).trans (teq (Decidable.not_not.mp q)).2) kt) (Gf (Decidable.not_not.mp q))
theorem g_lcmp_ne (C : Cx p s m meth c Z n0 own bytes maxl ret nm) {x y : Int64} (d1 : In bytes pc 1 .lcmp pc1) (d : Jm bytes pc1 (.ifCond .ne) pc' pct) (Gt : ¬ (x = y) → Go p l e R s m args below meth c n0 Q K N h k n (mkF m pct Ls st)) (Gf : x = y → Go p l e R s m args below meth c n0 Q K N h k n (mkF m pc' Ls st)) : Go p l e R s m args below meth c n0 Q K N h k n (mkF m pc Ls (.long y :: .long x :: st)) := by
  obtain ⟨d1, rfl⟩ := d1
  refine g_st (fun X _ t kt => XS.lcmp X.here C.1 rfl (hb C.2.2.2.1 d1) rfl kt) ?_
  exact g_if_ne C d (fun q => Gt (fun z => q ((lw_eq x y).mpr z))) (fun q => Gf ((lw_eq x y).mp q))
theorem g_ldc2 (C : Cx p s m meth c Z n0 own bytes maxl ret nm) {i : Nat} {v : Int64} (w : (Cond.constantLong own i v).before a0 Z = true) (d : In bytes pc 3 (.ldc2_w i) pc') (G : Go p l e R s m args below meth c n0 Q K N h k n (mkF m pc' Ls (.long v :: st))) : Go p l e R s m args below meth c n0 Q K N h k n (mkF m pc Ls st) := by
  obtain ⟨d, rfl⟩ := d
  exact g_st (fun X _ t kt => X.ldc2Long C.1 C.2.2.1 (mvT C.2.1 w) (g := mkF m pc Ls st) rfl (hb C.2.2.2.1 d) _ kt) G
theorem g_ldc (C : Cx p s m meth c Z n0 own bytes maxl ret nm) {i : Nat} {v : Int32} (w : (Cond.constant own i v).before a0 Z = true) (d : In bytes pc 2 (.ldc i) pc') (G : Go p l e R s m args below meth c n0 Q K N h k n (mkF m pc' Ls (.int v :: st))) : Go p l e R s m args below meth c n0 Q K N h k n (mkF m pc Ls st) := by
  obtain ⟨d, rfl⟩ := d
  exact g_st (fun X _ t kt => X.ldcInt C.1 C.2.2.1 (mvT C.2.1 w) (g := mkF m pc Ls st) rfl (hb C.2.2.2.1 d) _ kt) G
theorem g_getF (C : Cx p s m meth c Z n0 own bytes maxl ret nm) {i : Nat} {O f ds : String} (w : (Cond.fieldLink own i O f ds).before a0 Z = true) (d : In bytes pc 3 (.getfield i) pc') {a : Addr} {v : Value} (F : Fld Z h a O f ds v) (G : Go p l e R s m args below meth c n0 Q K N h k n (mkF m pc' Ls (v :: st))) : Go p l e R s m args below meth c n0 Q K N h k n (mkF m pc Ls (.ref a :: st)) := by
  obtain ⟨d, rfl⟩ := d
  intro T L hL X eT
  obtain ⟨T', X', e', st'⟩ := getF X C.1 C.2.1 C.2.2.1 (host := "") (Or.inl w) Via.refl eT F (g := mkF m pc Ls (.ref a :: st)) rfl rfl (hb C.2.2.2.1 d)
  obtain ⟨t, o, h1, h2⟩ := G T' L hL X' e'
  exact ⟨t, o, st' t h1, h2⟩
theorem g_putF (C : Cx p s m meth c Z n0 own bytes maxl ret nm) {i kk : Nat} {O f ds K' : String} {ty : FieldType} (w : (Cond.fieldLink own i O f ds).before a0 Z = true) (d : In bytes pc 3 (.putfield i) pc') {a : Addr} {v v' old : Value} (F : Fld Z h a O f ds old) (E : Exa Z h a K')
    (L : (Cond.lays K' O f ds).before a0 Z = true ∨ ((Cond.laysFinal K' O f ds).before a0 Z = true ∧ own = O ∧ nm = "<init>")) (wi : (Cond.instantiable K' kk).before a0 Z = true) (hty : parseFieldDescriptor ds = some ty) (hn : narrow ty v = v') (hf : fits ty v' = true) (ge : n0 ≤ a)
    (G : ∀ h', Wr h h' a (Jvm.RoadKit.slotOf Z O f ds) v' → Go p l e R s m args below meth c n0 Q K N h' k n (mkF m pc' Ls st)) : Go p l e R s m args below meth c n0 Q K N h k n (mkF m pc Ls (v :: .ref a :: st)) := by
  obtain ⟨d, rfl⟩ := d
  intro T Lo hL X eT
  have L' : (Cond.lays K' O f ds).before a0 Z = true ∨ ((Cond.laysFinal K' O f ds).before a0 Z = true ∧ own = O ∧ meth.name = "<init>") := L.imp id fun q => ⟨q.1, q.2.1, C.2.2.2.2.2.2.2.1.trans q.2.2⟩
  obtain ⟨T', h', X', e', W', st'⟩ := putFN X C.1 C.2.1 C.2.2.1 w Via.refl eT F E L' wi hty hn hf (g := mkF m pc Ls (v :: .ref a :: st)) rfl rfl (hb C.2.2.2.1 d)
  obtain ⟨t, o, h1, h2⟩ := G h' W' T' _ (Fr.snoc X' hL ge) X' e'
  exact ⟨t, o, st' t h1, h2⟩
theorem g_new (C : Cx p s m meth c Z n0 own bytes maxl ret nm) {i sz : Nat} {K' : String} (w : (Cond.classLink own i K').before a0 Z = true) (wi : (Cond.instantiable K' sz).before a0 Z = true) (wz : (Cond.initialized K').before a0 Z = true) (d : In bytes pc 3 (.new i) pc') (hc : k + 1 ≤ R.cells) (hl : n + sz ≤ R.slots)
    (G : ∀ h' a, n0 ≤ a → a = h.size → Ext h h' → Exa Z h' a K' → (∀ {O f ds : String} {ty : FieldType}, Laid Z a0 K' O f ds → parseFieldDescriptor ds = some ty → Fld Z h' a O f ds (defaultValue ty)) → Go p l e R s m args below meth c n0 Q K N h' (k + 1) (n + sz) (mkF m pc' Ls (.ref a :: st))) : Go p l e R s m args below meth c n0 Q K N h k n (mkF m pc Ls st) := by
  obtain ⟨d, rfl⟩ := d
  intro T Lo hL X eT
  have ge : n0 ≤ h.size := Nat.le_trans C.2.2.2.2.2.2.2.2 (eT ▸ Stand.up X)
  obtain ⟨T', h', X', e', E', A', D', -, st'⟩ := newO X C.1 C.2.1 C.2.2.1 w wi wz eT (g := mkF m pc Ls st) rfl (hb C.2.2.2.1 d) hc hl
  obtain ⟨t, o, h1, h2⟩ := G h' h.size ge rfl E' A' D' T' _ hL X' e'
  exact ⟨t, o, st' t h1, h2⟩
theorem g_newarr (C : Cx p s m meth c Z n0 own bytes maxl ret nm) {aty : ArrayType} (w : (Cond.arrayClass (newarray.typeOf aty)).before a0 Z = true) (d : In bytes pc 2 (.newarray aty) pc') {z : Int32} (hz : ¬ z < 0) (cap : Nat) (hcap : z.toNatClampNeg ≤ cap) (hb8 : cap * 8 ≤ 536870912) (hc : k + 1 ≤ R.cells) (hl : n + cap ≤ R.slots)
    (G : ∀ h' a kA, n0 ≤ a → a = h.size → Ext h h' → Arr Z h' a (newA kA (newarray.typeOf aty) z) (newarray.typeOf aty) → Go p l e R s m args below meth c n0 Q K N h' (k + 1) (n + cap) (mkF m pc' Ls (.ref a :: st))) : Go p l e R s m args below meth c n0 Q K N h k n (mkF m pc Ls (.int z :: st)) := by
  obtain ⟨d, rfl⟩ := d
  intro T Lo hL X eT
  have ge : n0 ≤ h.size := Nat.le_trans C.2.2.2.2.2.2.2.2 (eT ▸ Stand.up X)
  obtain ⟨T', h', kA, X', e', E', A', st'⟩ := newP X C.1 C.2.1 w eT (g := mkF m pc Ls (.int z :: st)) rfl (hb C.2.2.2.1 d) rfl hz hcap hb8 hc hl
  obtain ⟨t, o, h1, h2⟩ := G h' h.size kA ge rfl E' A' T' _ hL X' e'
  exact ⟨t, o, st' t h1, h2⟩
theorem g_initO (C : Cx p s m meth c Z n0 own bytes maxl ret nm) {i : Nat} (w1 : (Cond.methodLink own i Lib.objectInit).before a0 Z = true) (w2 : (Cond.instanceMethod Lib.objectInit).before a0 Z = true) (w3 : (Cond.code Lib.objectInit ⟨#[0xb1]⟩ 1 none).before a0 Z = true) (d : In bytes pc 3 (.invokespecial i) pc') (hsz : Ls.size = maxl) {a : Addr} (hf : 1 ≤ R.frames) (W : Nat) (hW : (st.map fun v => v.category).sum ≤ W) (hl : W + 12 ≤ R.locals) (G : Go p l e R s m args below meth c n0 Q K N h k n (mkF m pc' Ls st)) : Go p l e R s m args below meth c n0 Q K N h k n (mkF m pc Ls (.ref a :: st)) := by
  obtain ⟨d, rfl⟩ := d
  intro T L hL X eT
  obtain ⟨T', X', e', st'⟩ := initO X C.1 C.2.1 C.2.2.1 w1 w2 w3 eT (g := mkF m pc Ls (.ref a :: st)) rfl (by rw [C.2.2.2.2.1]; exact hsz) rfl (hb C.2.2.2.1 d) hf (W := W) (by show 2 * 0 + _ ≤ _; omega) hl
  obtain ⟨t, o, h1, h2⟩ := G T' L hL X' e'
  exact ⟨t, o, st' t h1, h2⟩
theorem g_retI (C : Cx p s m meth c Z n0 own bytes maxl (some .int) nm) (d : In bytes pc 1 .ireturn pc') {z : Int32} (hk : k ≤ K) (hn : n ≤ N) (q : Q (some (.int z)) h) : Go p l e R s m args below meth c n0 Q K N h k n (mkF m pc Ls ([.int z])) := by
  obtain ⟨d, rfl⟩ := d
  intro T L hL X eT
  have hlk : meth.locks = false := C.2.2.2.2.2.2.1
  obtain ⟨fs, hr, hrun, hended, hW, hsame⟩ := X.leave (v := some (.int z)) (fun h => by rw [C.2.2.2.2.2.1] at h; cases h) hlk
  refine ⟨_, _, X.ireturnOut C.1 C.2.2.2.2.2.1 rfl (Or.inl rfl) (hb C.2.2.2.1 d) hr, hrun, hended, _, _, rfl, ⟨?_, hL⟩, ⟨_, rfl⟩, hW, hsame.mono hk hn⟩
  show Q _ T.heap
  rw [eT]; exact q
theorem g_retJ (C : Cx p s m meth c Z n0 own bytes maxl (some .long) nm) (d : In bytes pc 1 .lreturn pc') {z : Int64} (hk : k ≤ K) (hn : n ≤ N) (q : Q (some (.long z)) h) : Go p l e R s m args below meth c n0 Q K N h k n (mkF m pc Ls ([.long z])) := by
  obtain ⟨d, rfl⟩ := d
  intro T L hL X eT
  have hlk : meth.locks = false := C.2.2.2.2.2.2.1
  obtain ⟨fs, hr, hrun, hended, hW, hsame⟩ := X.leave (v := some (.long z)) (fun h => by rw [C.2.2.2.2.2.1] at h; cases h) hlk
  refine ⟨_, _, X.lreturnOut C.1 C.2.2.2.2.2.1 (hb C.2.2.2.1 d) hr, hrun, hended, _, _, rfl, ⟨?_, hL⟩, ⟨_, rfl⟩, hW, hsame.mono hk hn⟩
  show Q _ T.heap
  rw [eT]; exact q
theorem g_retZ (C : Cx p s m meth c Z n0 own bytes maxl (some .boolean) nm) (d : In bytes pc 1 .ireturn pc') {z : Int32} (hk : k ≤ K) (hn : n ≤ N) (q : Q (some (.int (z &&& 1))) h) : Go p l e R s m args below meth c n0 Q K N h k n (mkF m pc Ls ([.int z])) := by
  obtain ⟨d, rfl⟩ := d
  intro T L hL X eT
  have hlk : meth.locks = false := C.2.2.2.2.2.2.1
  obtain ⟨fs, hr, hrun, hended, hW, hsame⟩ := X.leave (v := some (.int (z &&& 1))) (fun h => by rw [C.2.2.2.2.2.1] at h; cases h) hlk
  refine ⟨_, _, retN X C.1 (t := .boolean) C.2.2.2.2.2.1 (by simp) (hb C.2.2.2.1 d) hr, hrun, hended, _, _, rfl, ⟨?_, hL⟩, ⟨_, rfl⟩, hW, hsame.mono hk hn⟩
  show Q _ T.heap
  rw [eT]; exact q
theorem g_retA (C : Cx p s m meth c Z n0 own bytes maxl ret nm) {ty : FieldType} (hret : ret = some ty) (hty : ty.isReference = true) (d : In bytes pc 1 .areturn pc') {z : Value} (hz : z.isRef = true) (hk : k ≤ K) (hn : n ≤ N) (q : Q (some z) h) : Go p l e R s m args below meth c n0 Q K N h k n (mkF m pc Ls ([z])) := by
  obtain ⟨d, rfl⟩ := d
  subst hret
  intro T L hL X eT
  have hlk : meth.locks = false := C.2.2.2.2.2.2.1
  obtain ⟨fs, hr, hrun, hended, hW, hsame⟩ := X.leave (v := some z) (fun h => by rw [C.2.2.2.2.2.1] at h; cases h) hlk
  refine ⟨_, _, X.areturnOut C.1 hz C.2.2.2.2.2.1 hty (hb C.2.2.2.1 d) hr, hrun, hended, _, _, rfl, ⟨?_, hL⟩, ⟨_, rfl⟩, hW, hsame.mono hk hn⟩
  show Q _ T.heap
  rw [eT]; exact q
theorem g_ret (C : Cx p s m meth c Z n0 own bytes maxl none nm) (d : In bytes pc 1 .return_ pc') (hk : k ≤ K) (hn : n ≤ N) (q : Q none h) : Go p l e R s m args below meth c n0 Q K N h k n (mkF m pc Ls []) := by
  obtain ⟨d, rfl⟩ := d
  intro T L hL X eT
  have hlk : meth.locks = false := C.2.2.2.2.2.2.1
  obtain ⟨fs, hr, hrun, hended, hW, hsame⟩ := X.leave (v := none) (fun _ => rfl) hlk
  refine ⟨_, _, X.returnOut C.1 C.2.2.2.2.2.1 (hb C.2.2.2.1 d) hr, hrun, hended, _, _, rfl, ⟨?_, hL⟩, ⟨_, rfl⟩, hW, hsame.mono hk hn⟩
  show Q _ T.heap
  rw [eT]; exact q
/-- a method's contract: called with 'as' at a heap h0 it comes back so -/
abbrev Con (l : Launch) (Z : State) (y : MethodName) (bytes : ByteArray) (maxl : Nat) (ret : Option FieldType) (rm : Room) (ws : List Jvm.Cond) (as : Array Value) (h0 : Heap) (n0 : Nat) (Q : Option Value → Heap → Prop) : Prop :=
  MetFree l y (head1 (Jvm.Cond.code y bytes maxl ret :: ws) rm) (fun a U => a = as ∧ Z.Warmed39 U.vm ∧ U.heap = h0) (fun _ _ _ _ _ => True) (fun _ U o U' => ∃ v L, o = .returned v ∧ (Q v U'.heap ∧ Fr n0 L) ∧ FrameEnd U o U' L rm.cells rm.slots)
theorem con_of {y : MethodName} {rm : Room} {ws : List Jvm.Cond} {as : Array Value} {h0 : Heap} {Ls0 : Array Slot} (hpl : plainFor y = true) (he : ∀ m, entryFrame m as maxl = mkF m 0 Ls0 []) (hn0 : n0 ≤ h0.size)
    (B : ∀ (p : Program) (e : Env) (s : State) (m : MethodId) (below : List Frame) (meth : Method) (c : ClassFile.Code), Cx p s m meth c Z n0 y.cls bytes maxl ret y.name → Go p l e rm s m as below meth c n0 Q rm.cells rm.slots h0 0 0 (mkF m 0 Ls0 [])) : Con l Z y bytes maxl ret rm ws as h0 n0 Q := by
  refine MetFree.of_bodySF hpl hisR ?_
  intro p e s m args below meth c s₁ Bd hml0 hP hK
  obtain ⟨rfl, hZ, hh⟩ := hP
  have hlk : meth.locks = false := BodyLoose.notSynchronized Bd
  have X0 : Stand p l e rm s m _ below meth c s₁ [] 0 0 := Stand.of_body Bd
  have e0 : s₁.heap = h0 := by rw [← hh, Bd.state]; rfl
  obtain ⟨t, o, h1, h2, h3, v, L, h4, h5, h6⟩ := B p e s m below meth c ⟨Bd.exec, hZ, findClass_of_methodNamed Bd.named, Bd.bytes, hml0, Bd.returns, hlk, (name_of_methodNamed Bd.named Bd.method).1, by rw [hh]; exact hn0⟩ s₁ [] (Fr.nil n0) X0 e0
  exact ⟨t, o, castTop (he m) h1, h2, h3, v, L, h4, h5, h6⟩
theorem g_callS (C : Cx p s m meth c Z n0 own bytes maxl ret nm) {y : MethodName} {by' : ByteArray} {ml : Nat} {rt : Option FieldType} {rm : Room} {as : Array Value} {Q' : Option Value → Heap → Prop} (con : Con l Z y by' ml rt rm [] as h n0 Q') {i : Nat} (w1 : (Cond.methodLink own i y).before a0 Z = true) (w2 : (Cond.static y).before a0 Z = true) (w3 : (Cond.initialized y.cls).before a0 Z = true) (w4 : (Cond.code y by' ml rt).before a0 Z = true) (hy : y.cls ≠ "java/lang/invoke/MethodHandle" ∧ y.cls ≠ "java/lang/invoke/VarHandle")
    (d : In bytes pc 3 (.invokestatic i) pc') {ps : List FieldType} {r : Option FieldType} (hpd : parseMethodDescriptor y.desc = some ⟨ps, r⟩) (argsL rest : List Value) (has : as = argsL.toArray) (hlen : argsL.length = ps.length) (hsz : Ls.size = maxl) (W : Nat) (hW : (rest.map fun v => v.category).sum ≤ W) (r1 : rm.frames + 1 ≤ R.frames) (r2 : W + (ml + 11) + rm.locals ≤ R.locals) (r3 : k + rm.cells ≤ R.cells) (r4 : n + rm.slots ≤ R.slots)
    (G : ∀ v h', Q' v h' → Go p l e R s m args below meth c n0 Q K N h' (k + rm.cells) (n + rm.slots) (mkF m pc' Ls (v.toList ++ rest))) : Go p l e R s m args below meth c n0 Q K N h k n (mkF m pc Ls (argsL.reverse ++ rest)) := by
  obtain ⟨d, rfl⟩ := d
  intro T L hL X eT
  obtain ⟨v, vm₁, ⟨T', L2, k2, n2⟩, -, X', ⟨Lc, hQ, l2, y2, z2⟩, st'⟩ := Jvm.LawKit.callS X C.1 (y := y) C.2.2.1 (mvT C.2.1 w1) (mvT C.2.1 w2) (mvT C.2.1 w3) (mvT C.2.1 w4) hy (backOf (W := W) (Q := fun v h L => Q' v h ∧ Fr n0 L) con C.2.1 w4 w3 r1 r2) (g := mkF m pc Ls (argsL.reverse ++ rest)) rfl (by rw [C.2.2.2.2.1]; exact hsz) (argsL := argsL) (rest := rest) (lenOf hpd hlen) rfl (by show 2 * 0 + _ ≤ _; omega) (hb C.2.2.2.1 d) (fun _ _ => ⟨has.symm, eT, r3, r4⟩)
  dsimp only [Pt.U, Pt.locs, Pt.cells, Pt.slots] at X' l2 y2 z2 st' hQ
  subst l2 y2 z2
  obtain ⟨t, o, h1, h2⟩ := G v T'.heap hQ.1 T' _ (Fr.app hL hQ.2) X' rfl
  exact ⟨t, o, st' t h1, h2⟩
theorem g_callI (C : Cx p s m meth c Z n0 own bytes maxl ret nm) {y : MethodName} {by' : ByteArray} {ml : Nat} {rm : Room} {as : Array Value} {Q' : Option Value → Heap → Prop} (con : Con l Z y by' ml none rm [] as h n0 Q') {i : Nat} (hini : y.name = "<init>") (w1 : (Cond.methodLink own i y).before a0 Z = true) (w2 : (Cond.instanceMethod y).before a0 Z = true) (w3 : (Cond.initialized y.cls).before a0 Z = true) (w4 : (Cond.code y by' ml none).before a0 Z = true) (hy : y.cls ≠ "java/lang/invoke/MethodHandle" ∧ y.cls ≠ "java/lang/invoke/VarHandle")
    (d : In bytes pc 3 (.invokespecial i) pc') {ps : List FieldType} {r : Option FieldType} (hpd : parseMethodDescriptor y.desc = some ⟨ps, r⟩) {a : Addr} (argsL rest : List Value) (has : as = (.ref a :: argsL).toArray) (hlen : argsL.length = ps.length) (hsz : Ls.size = maxl) (W : Nat) (hW : (rest.map fun v => v.category).sum ≤ W) (r1 : rm.frames + 1 ≤ R.frames) (r2 : W + (ml + 11) + rm.locals ≤ R.locals) (r3 : k + rm.cells ≤ R.cells) (r4 : n + rm.slots ≤ R.slots)
    (G : ∀ v h', Q' v h' → Go p l e R s m args below meth c n0 Q K N h' (k + rm.cells) (n + rm.slots) (mkF m pc' Ls (v.toList ++ rest))) : Go p l e R s m args below meth c n0 Q K N h k n (mkF m pc Ls (argsL.reverse ++ .ref a :: rest)) := by
  obtain ⟨d, rfl⟩ := d
  intro T L hL X eT
  obtain ⟨v, vm₁, ⟨T', L2, k2, n2⟩, -, X', ⟨Lc, hQ, l2, y2, z2⟩, st'⟩ := X.specialBack C.1 (y := y) hini C.2.2.1 (mvT C.2.1 w1) (mvT C.2.1 w2) (mvT C.2.1 w4) hy (backOf (W := W) (Q := fun v h L => Q' v h ∧ Fr n0 L) con C.2.1 w4 w3 r1 r2) (g := mkF m pc Ls (argsL.reverse ++ .ref a :: rest)) rfl (by rw [C.2.2.2.2.1]; exact hsz) (Steps.refl _) (a := a) (argsL := argsL) (rest := rest) (lenOf hpd hlen) rfl (by show 2 * 0 + _ ≤ _; omega) (hb C.2.2.2.1 d) (fun _ _ => ⟨has.symm, eT, r3, r4⟩)
  dsimp only [Pt.U, Pt.locs, Pt.cells, Pt.slots] at X' l2 y2 z2 st' hQ
  subst l2 y2 z2
  obtain ⟨t, o, h1, h2⟩ := G v T'.heap hQ.1 T' _ (Fr.app hL hQ.2) X' rfl
  exact ⟨t, o, st'.trans h1, h2⟩
theorem g_callV (C : Cx p s m meth c Z n0 own bytes maxl ret nm) {y : MethodName} {by' : ByteArray} {ml : Nat} {rt : Option FieldType} {rm : Room} {as : Array Value} {Q' : Option Value → Heap → Prop} (con : Con l Z y by' ml rt rm [] as h n0 Q') {i : Nat} (w1 : (Cond.methodLink own i y).before a0 Z = true) (w2 : (Cond.declares y).before a0 Z = true) (w5 : (Cond.instanceMethod y).before a0 Z = true) {K' : String} (w6 : (Cond.selects K' y y).before a0 Z = true) (w3 : (Cond.initialized y.cls).before a0 Z = true) (w4 : (Cond.code y by' ml rt).before a0 Z = true) (hy : y.cls ≠ "java/lang/invoke/MethodHandle" ∧ y.cls ≠ "java/lang/invoke/VarHandle")
    (d : In bytes pc 3 (.invokevirtual i) pc') {ps : List FieldType} {r : Option FieldType} (hpd : parseMethodDescriptor y.desc = some ⟨ps, r⟩) {a : Addr} (E : Exa Z h a K') (argsL rest : List Value) (has : as = (.ref a :: argsL).toArray) (hlen : argsL.length = ps.length) (hsz : Ls.size = maxl) (W : Nat) (hW : (rest.map fun v => v.category).sum ≤ W) (r1 : rm.frames + 1 ≤ R.frames) (r2 : W + (ml + 11) + rm.locals ≤ R.locals) (r3 : k + rm.cells ≤ R.cells) (r4 : n + rm.slots ≤ R.slots)
    (G : ∀ v h', Q' v h' → Go p l e R s m args below meth c n0 Q K N h' (k + rm.cells) (n + rm.slots) (mkF m pc' Ls (v.toList ++ rest))) : Go p l e R s m args below meth c n0 Q K N h k n (mkF m pc Ls (argsL.reverse ++ .ref a :: rest)) := by
  obtain ⟨d, rfl⟩ := d
  intro T L hL X eT
  obtain ⟨cq, kq, q1, q2, q3⟩ := isOf C.2.1 eT E
  obtain ⟨v, vm₁, ⟨T', L2, k2, n2⟩, -, X', ⟨Lc, hQ, l2, y2, z2⟩, st'⟩ := X.virtualBack C.1 (y := y) (z := y) C.2.2.1 (mvT C.2.1 w1) (mvT C.2.1 w2) (notFace_of_selects (args := #[]) (mvT C.2.1 w6)) (mvT C.2.1 w6) (mvT C.2.1 w5) hy (backOf (W := W) (Q := fun v h L => Q' v h ∧ Fr n0 L) con C.2.1 w4 w3 r1 r2) q1 q3 (g := mkF m pc Ls (argsL.reverse ++ .ref a :: rest)) rfl (by rw [C.2.2.2.2.1]; exact hsz) (Steps.refl _) (argsL := argsL) (rest := rest) (lenOf hpd hlen) rfl (by show 2 * 0 + _ ≤ _; omega) (hb C.2.2.2.1 d) (fun _ _ => ⟨has.symm, eT, r3, r4⟩)
  dsimp only [Pt.U, Pt.locs, Pt.cells, Pt.slots] at X' l2 y2 z2 st' hQ
  subst l2 y2 z2
  obtain ⟨t, o, h1, h2⟩ := G v T'.heap hQ.1 T' _ (Fr.app hL hQ.2) X' rfl
  exact ⟨t, o, st'.trans h1, h2⟩
theorem g_callP (C : Cx p s m meth c Z n0 own bytes maxl ret nm) {y : MethodName} {by' : ByteArray} {ml : Nat} {rt : Option FieldType} {rm : Room} {as : Array Value} {Q' : Option Value → Heap → Prop} (con : Con l Z y by' ml rt rm [] as h n0 Q') {i : Nat} (w1 : (Cond.methodLink own i y).before a0 Z = true) (w5 : (Cond.instanceMethod y).before a0 Z = true) (w6 : (Cond.selects y.cls y y).before a0 Z = true) (w7 : (Cond.privateMethod y).before a0 Z = true) (w3 : (Cond.initialized y.cls).before a0 Z = true) (w4 : (Cond.code y by' ml rt).before a0 Z = true) (hy : y.cls ≠ "java/lang/invoke/MethodHandle" ∧ y.cls ≠ "java/lang/invoke/VarHandle")
    (d : In bytes pc 3 (.invokevirtual i) pc') {ps : List FieldType} {r : Option FieldType} (hpd : parseMethodDescriptor y.desc = some ⟨ps, r⟩) {a : Addr} {K' : String} (E : Exa Z h a K') (argsL rest : List Value) (has : as = (.ref a :: argsL).toArray) (hlen : argsL.length = ps.length) (hsz : Ls.size = maxl) (W : Nat) (hW : (rest.map fun v => v.category).sum ≤ W) (r1 : rm.frames + 1 ≤ R.frames) (r2 : W + (ml + 11) + rm.locals ≤ R.locals) (r3 : k + rm.cells ≤ R.cells) (r4 : n + rm.slots ≤ R.slots)
    (G : ∀ v h', Q' v h' → Go p l e R s m args below meth c n0 Q K N h' (k + rm.cells) (n + rm.slots) (mkF m pc' Ls (v.toList ++ rest))) : Go p l e R s m args below meth c n0 Q K N h k n (mkF m pc Ls (argsL.reverse ++ .ref a :: rest)) := by
  obtain ⟨d, rfl⟩ := d
  intro T L hL X eT
  obtain ⟨cq, q1, q2⟩ := E.cell
  obtain ⟨v, vm₁, ⟨T', L2, k2, n2⟩, -, X', ⟨Lc, hQ, l2, y2, z2⟩, st'⟩ := X.privateBack C.1 (y := y) C.2.2.1 (mvT C.2.1 w1) (mvT C.2.1 w5) (mvT C.2.1 w6) (Cond.privateMethod_at (mvP C.2.1 w7 (args := #[]))) (mvT C.2.1 w4) hy (backOf (W := W) (Q := fun v h L => Q' v h ∧ Fr n0 L) con C.2.1 w4 w3 r1 r2) (g := mkF m pc Ls (argsL.reverse ++ .ref a :: rest)) rfl (by rw [C.2.2.2.2.1]; exact hsz) (Steps.refl _) (a := a) (by rw [eT]; exact q1) q2 (argsL := argsL) (rest := rest) (lenOf hpd hlen) rfl (by show 2 * 0 + _ ≤ _; omega) (hb C.2.2.2.1 d) (fun _ _ => ⟨has.symm, eT, r3, r4⟩)
  dsimp only [Pt.U, Pt.locs, Pt.cells, Pt.slots] at X' l2 y2 z2 st' hQ
  subst l2 y2 z2
  obtain ⟨t, o, h1, h2⟩ := G v T'.heap hQ.1 T' _ (Fr.app hL hQ.2) X' rfl
  exact ⟨t, o, st'.trans h1, h2⟩
/-- an array of z places at a, whose contents are f -/
def LArr (Z : State) (h : Heap) (a : Addr) (z : Nat) (f : Nat → Int64) : Prop := ∃ c : Cell, Arr Z h a c .long ∧ c.slots.size = z ∧ z < 2 ^ 31 ∧ ∀ i, i < z → c.slots[i]? = some (.long (f i))
theorem LArr.lt {a : Addr} {z : Nat} {f : Nat → Int64} (A : LArr Z h a z f) : a < h.size := by obtain ⟨c, A, -⟩ := A; exact A.lt
theorem LArr.ext {h' : Heap} {a : Addr} {z : Nat} {f : Nat → Int64} (A : LArr Z h a z f) (E : Ext h h') : LArr Z h' a z f := by obtain ⟨c, A, r⟩ := A; exact ⟨c, A.ext E, r⟩
theorem LArr.other {h' : Heap} {a b : Addr} {sl : Nat} {v : Value} {z : Nat} {f : Nat → Int64} (A : LArr Z h b z f) (W : Wr h h' a sl v) (q : b ≠ a) : LArr Z h' b z f := by obtain ⟨c, A, r⟩ := A; exact ⟨c, A.other W q, r⟩
theorem LArr.keep {h' : Heap} {a : Addr} {ws : List Addr} {z : Nat} {f : Nat → Int64} (A : LArr Z h a z f) (K : Keep h h' ws) (q : a ∉ ws) : LArr Z h' a z f := by obtain ⟨c, A, r⟩ := A; exact ⟨c, ⟨K.2.1 a c A.1 q, A.2⟩, r⟩
theorem LArr.congr {a : Addr} {z : Nat} {f g : Nat → Int64} (A : LArr Z h a z f) (q : ∀ i, i < z → g i = f i) : LArr Z h a z g := by obtain ⟨c, A, r1, r2, r3⟩ := A; exact ⟨c, A, r1, r2, fun i hi => by rw [q i hi]; exact r3 i hi⟩
theorem LArr.new {a : Addr} {kA : ClassId} {z : Int32} (A : Arr Z h a (newA kA .long z) .long) : LArr Z h a z.toNatClampNeg (fun _ => 0) :=
  ⟨_, A, sz_new _ _ _, z.toNatClampNeg_lt, fun i hi => by simp [newA, hi, defaultValue]⟩
theorem LArr.set {h' : Heap} {a : Addr} {z j : Nat} {x : Int64} {f : Nat → Int64} (A : LArr Z h a z f) (W : Wr h h' a j (.long x)) : LArr Z h' a z (fun i => if i = j then x else f i) := by
  obtain ⟨c, A, r1, r2, r3⟩ := A
  refine ⟨_, A.same W, by simp [Cell.setSlot, r1], r2, fun i hi => ?_⟩
  by_cases q : i = j
  · subst q
    simp [Cell.setSlot, r1, hi]
  · simp only [q, if_false]
    rw [← r3 i hi]
    exact Array.getElem?_setIfInBounds_ne (Ne.symm q)
theorem g_laload (C : Cx p s m meth c Z n0 own bytes maxl ret nm) (d : In bytes pc 1 .laload pc') {a : Addr} {z : Nat} {f : Nat → Int64} {j : Int32} (A : LArr Z h a z f) (h1 : 0 ≤ j.toInt) (h2 : j.toInt < z) (v : Int64) (hv : f j.toInt.toNat = v) (G : Go p l e R s m args below meth c n0 Q K N h k n (mkF m pc' Ls (.long v :: st))) : Go p l e R s m args below meth c n0 Q K N h k n (mkF m pc Ls (.int j :: .ref a :: st)) := by
  obtain ⟨d, rfl⟩ := d
  obtain ⟨cl, A, r1, r2, r3⟩ := A
  have e1 : j.toNatClampNeg = j.toInt.toNat := rfl
  have hj : ¬ (j < 0 ∨ cl.slots.size ≤ j.toNatClampNeg) := by
    rw [Int32.lt_iff_toInt_lt, show (0 : Int32).toInt = 0 from rfl, r1, e1]; omega
  have hat : cl.slots[j.toNatClampNeg]? = some (.long v) := by rw [← hv, e1]; exact r3 _ (by omega)
  exact g_st (fun X eT t kt => X.laload C.1 (j := j) (v := .long v) (by rw [eT]; exact A.1) (State.isArrayOf_alike C.2.1.alike A.2.1) A.2.2 hj hat (g := mkF m pc Ls (.int j :: .ref a :: st)) rfl rfl (hb C.2.2.2.1 d) _ kt) G
theorem g_lastore (C : Cx p s m meth c Z n0 own bytes maxl ret nm) (d : In bytes pc 1 .lastore pc') {a : Addr} {z : Nat} {f : Nat → Int64} {j : Int32} {x : Int64} (A : LArr Z h a z f) (h1 : 0 ≤ j.toInt) (h2 : j.toInt < z) (ge : n0 ≤ a) (G : ∀ h', Wr h h' a j.toInt.toNat (.long x) → Go p l e R s m args below meth c n0 Q K N h' k n (mkF m pc' Ls st)) : Go p l e R s m args below meth c n0 Q K N h k n (mkF m pc Ls (.long x :: .int j :: .ref a :: st)) := by
  obtain ⟨d, rfl⟩ := d
  obtain ⟨cl, A, r1, r2, r3⟩ := A
  have e1 : j.toNatClampNeg = j.toInt.toNat := rfl
  have hj : ¬ (j < 0 ∨ cl.slots.size ≤ j.toNatClampNeg) := by
    rw [Int32.lt_iff_toInt_lt, show (0 : Int32).toInt = 0 from rfl, r1, e1]; omega
  intro T L hL X eT
  obtain ⟨T', h', X', e', W', st'⟩ := stJ X C.1 C.2.1 eT A (j := j) hj (g := mkF m pc Ls (.long x :: .int j :: .ref a :: st)) rfl rfl (hb C.2.2.2.1 d)
  obtain ⟨t, o, h1, h2⟩ := G h' W' T' _ (Fr.snoc X' hL ge) X' e'
  exact ⟨t, o, st' t h1, h2⟩
theorem g_lenLArr (C : Cx p s m meth c Z n0 own bytes maxl ret nm) (d : In bytes pc 1 .arraylength pc') {a : Addr} {z : Nat} {f : Nat → Int64} (A : LArr Z h a z f) (v : Int32) (hv : v = Int32.ofNat z) (G : Go p l e R s m args below meth c n0 Q K N h k n (mkF m pc' Ls (.int v :: st))) : Go p l e R s m args below meth c n0 Q K N h k n (mkF m pc Ls (.ref a :: st)) := by
  obtain ⟨d, rfl⟩ := d
  obtain ⟨cl, A, r1, r2, r3⟩ := A
  refine g_st (fun X eT t kt => X.arraylength C.1 (by rw [eT]; exact A.1) (State.isArrayOf_alike C.2.1.alike A.2.1) (g := mkF m pc Ls (.ref a :: st)) rfl rfl (hb C.2.2.2.1 d) _ ?_) G
  rw [r1]
  subst hv
  exact kt
/-- an array of z places at a, whose contents are f -/
def IArr (Z : State) (h : Heap) (a : Addr) (z : Nat) (f : Nat → Int32) : Prop := ∃ c : Cell, Arr Z h a c .int ∧ c.slots.size = z ∧ z < 2 ^ 31 ∧ ∀ i, i < z → c.slots[i]? = some (.int (f i))
theorem IArr.lt {a : Addr} {z : Nat} {f : Nat → Int32} (A : IArr Z h a z f) : a < h.size := by obtain ⟨c, A, -⟩ := A; exact A.lt
theorem IArr.ext {h' : Heap} {a : Addr} {z : Nat} {f : Nat → Int32} (A : IArr Z h a z f) (E : Ext h h') : IArr Z h' a z f := by obtain ⟨c, A, r⟩ := A; exact ⟨c, A.ext E, r⟩
theorem IArr.other {h' : Heap} {a b : Addr} {sl : Nat} {v : Value} {z : Nat} {f : Nat → Int32} (A : IArr Z h b z f) (W : Wr h h' a sl v) (q : b ≠ a) : IArr Z h' b z f := by obtain ⟨c, A, r⟩ := A; exact ⟨c, A.other W q, r⟩
theorem IArr.keep {h' : Heap} {a : Addr} {ws : List Addr} {z : Nat} {f : Nat → Int32} (A : IArr Z h a z f) (K : Keep h h' ws) (q : a ∉ ws) : IArr Z h' a z f := by obtain ⟨c, A, r⟩ := A; exact ⟨c, ⟨K.2.1 a c A.1 q, A.2⟩, r⟩
theorem IArr.congr {a : Addr} {z : Nat} {f g : Nat → Int32} (A : IArr Z h a z f) (q : ∀ i, i < z → g i = f i) : IArr Z h a z g := by obtain ⟨c, A, r1, r2, r3⟩ := A; exact ⟨c, A, r1, r2, fun i hi => by rw [q i hi]; exact r3 i hi⟩
theorem IArr.new {a : Addr} {kA : ClassId} {z : Int32} (A : Arr Z h a (newA kA .int z) .int) : IArr Z h a z.toNatClampNeg (fun _ => 0) :=
  ⟨_, A, sz_new _ _ _, z.toNatClampNeg_lt, fun i hi => by simp [newA, hi, defaultValue]⟩
theorem IArr.set {h' : Heap} {a : Addr} {z j : Nat} {x : Int32} {f : Nat → Int32} (A : IArr Z h a z f) (W : Wr h h' a j (.int x)) : IArr Z h' a z (fun i => if i = j then x else f i) := by
  obtain ⟨c, A, r1, r2, r3⟩ := A
  refine ⟨_, A.same W, by simp [Cell.setSlot, r1], r2, fun i hi => ?_⟩
  by_cases q : i = j
  · subst q
    simp [Cell.setSlot, r1, hi]
  · simp only [q, if_false]
    rw [← r3 i hi]
    exact Array.getElem?_setIfInBounds_ne (Ne.symm q)
theorem g_iaload (C : Cx p s m meth c Z n0 own bytes maxl ret nm) (d : In bytes pc 1 .iaload pc') {a : Addr} {z : Nat} {f : Nat → Int32} {j : Int32} (A : IArr Z h a z f) (h1 : 0 ≤ j.toInt) (h2 : j.toInt < z) (v : Int32) (hv : f j.toInt.toNat = v) (G : Go p l e R s m args below meth c n0 Q K N h k n (mkF m pc' Ls (.int v :: st))) : Go p l e R s m args below meth c n0 Q K N h k n (mkF m pc Ls (.int j :: .ref a :: st)) := by
  obtain ⟨d, rfl⟩ := d
  obtain ⟨cl, A, r1, r2, r3⟩ := A
  have e1 : j.toNatClampNeg = j.toInt.toNat := rfl
  have hj : ¬ (j < 0 ∨ cl.slots.size ≤ j.toNatClampNeg) := by
    rw [Int32.lt_iff_toInt_lt, show (0 : Int32).toInt = 0 from rfl, r1, e1]; omega
  have hat : cl.slots[j.toNatClampNeg]? = some (.int v) := by rw [← hv, e1]; exact r3 _ (by omega)
  exact g_st (fun X eT t kt => X.iaload C.1 (j := j) (v := .int v) (by rw [eT]; exact A.1) (State.isArrayOf_alike C.2.1.alike A.2.1) A.2.2 hj hat (g := mkF m pc Ls (.int j :: .ref a :: st)) rfl rfl (hb C.2.2.2.1 d) _ kt) G
theorem g_iastore (C : Cx p s m meth c Z n0 own bytes maxl ret nm) (d : In bytes pc 1 .iastore pc') {a : Addr} {z : Nat} {f : Nat → Int32} {j : Int32} {x : Int32} (A : IArr Z h a z f) (h1 : 0 ≤ j.toInt) (h2 : j.toInt < z) (ge : n0 ≤ a) (G : ∀ h', Wr h h' a j.toInt.toNat (.int x) → Go p l e R s m args below meth c n0 Q K N h' k n (mkF m pc' Ls st)) : Go p l e R s m args below meth c n0 Q K N h k n (mkF m pc Ls (.int x :: .int j :: .ref a :: st)) := by
  obtain ⟨d, rfl⟩ := d
  obtain ⟨cl, A, r1, r2, r3⟩ := A
  have e1 : j.toNatClampNeg = j.toInt.toNat := rfl
  have hj : ¬ (j < 0 ∨ cl.slots.size ≤ j.toNatClampNeg) := by
    rw [Int32.lt_iff_toInt_lt, show (0 : Int32).toInt = 0 from rfl, r1, e1]; omega
  intro T L hL X eT
  obtain ⟨T', h', X', e', W', st'⟩ := stI X C.1 C.2.1 eT A (j := j) hj (g := mkF m pc Ls (.int x :: .int j :: .ref a :: st)) rfl rfl (hb C.2.2.2.1 d)
  obtain ⟨t, o, h1, h2⟩ := G h' W' T' _ (Fr.snoc X' hL ge) X' e'
  exact ⟨t, o, st' t h1, h2⟩
theorem g_lenIArr (C : Cx p s m meth c Z n0 own bytes maxl ret nm) (d : In bytes pc 1 .arraylength pc') {a : Addr} {z : Nat} {f : Nat → Int32} (A : IArr Z h a z f) (v : Int32) (hv : v = Int32.ofNat z) (G : Go p l e R s m args below meth c n0 Q K N h k n (mkF m pc' Ls (.int v :: st))) : Go p l e R s m args below meth c n0 Q K N h k n (mkF m pc Ls (.ref a :: st)) := by
  obtain ⟨d, rfl⟩ := d
  obtain ⟨cl, A, r1, r2, r3⟩ := A
  refine g_st (fun X eT t kt => X.arraylength C.1 (by rw [eT]; exact A.1) (State.isArrayOf_alike C.2.1.alike A.2.1) (g := mkF m pc Ls (.ref a :: st)) rfl rfl (hb C.2.2.2.1 d) _ ?_) G
  rw [r1]
  subst hv
  exact kt
/-- an array of z places at a, whose contents are f -/
def BArr (Z : State) (h : Heap) (a : Addr) (z : Nat) (f : Nat → Int32) : Prop := ∃ c : Cell, Arr Z h a c .byte ∧ c.slots.size = z ∧ z < 2 ^ 31 ∧ ∀ i, i < z → c.slots[i]? = some (.int (f i))
theorem BArr.lt {a : Addr} {z : Nat} {f : Nat → Int32} (A : BArr Z h a z f) : a < h.size := by obtain ⟨c, A, -⟩ := A; exact A.lt
theorem BArr.ext {h' : Heap} {a : Addr} {z : Nat} {f : Nat → Int32} (A : BArr Z h a z f) (E : Ext h h') : BArr Z h' a z f := by obtain ⟨c, A, r⟩ := A; exact ⟨c, A.ext E, r⟩
theorem BArr.other {h' : Heap} {a b : Addr} {sl : Nat} {v : Value} {z : Nat} {f : Nat → Int32} (A : BArr Z h b z f) (W : Wr h h' a sl v) (q : b ≠ a) : BArr Z h' b z f := by obtain ⟨c, A, r⟩ := A; exact ⟨c, A.other W q, r⟩
theorem BArr.keep {h' : Heap} {a : Addr} {ws : List Addr} {z : Nat} {f : Nat → Int32} (A : BArr Z h a z f) (K : Keep h h' ws) (q : a ∉ ws) : BArr Z h' a z f := by obtain ⟨c, A, r⟩ := A; exact ⟨c, ⟨K.2.1 a c A.1 q, A.2⟩, r⟩
theorem BArr.congr {a : Addr} {z : Nat} {f g : Nat → Int32} (A : BArr Z h a z f) (q : ∀ i, i < z → g i = f i) : BArr Z h a z g := by obtain ⟨c, A, r1, r2, r3⟩ := A; exact ⟨c, A, r1, r2, fun i hi => by rw [q i hi]; exact r3 i hi⟩
theorem BArr.new {a : Addr} {kA : ClassId} {z : Int32} (A : Arr Z h a (newA kA .byte z) .byte) : BArr Z h a z.toNatClampNeg (fun _ => 0) :=
  ⟨_, A, sz_new _ _ _, z.toNatClampNeg_lt, fun i hi => by simp [newA, hi, defaultValue]⟩
theorem BArr.set {h' : Heap} {a : Addr} {z j : Nat} {x : Int32} {f : Nat → Int32} (A : BArr Z h a z f) (W : Wr h h' a j (.int x)) : BArr Z h' a z (fun i => if i = j then x else f i) := by
  obtain ⟨c, A, r1, r2, r3⟩ := A
  refine ⟨_, A.same W, by simp [Cell.setSlot, r1], r2, fun i hi => ?_⟩
  by_cases q : i = j
  · subst q
    simp [Cell.setSlot, r1, hi]
  · simp only [q, if_false]
    rw [← r3 i hi]
    exact Array.getElem?_setIfInBounds_ne (Ne.symm q)
theorem g_baload (C : Cx p s m meth c Z n0 own bytes maxl ret nm) (d : In bytes pc 1 .baload pc') {a : Addr} {z : Nat} {f : Nat → Int32} {j : Int32} (A : BArr Z h a z f) (h1 : 0 ≤ j.toInt) (h2 : j.toInt < z) (v : Int32) (hv : f j.toInt.toNat = v) (G : Go p l e R s m args below meth c n0 Q K N h k n (mkF m pc' Ls (.int v :: st))) : Go p l e R s m args below meth c n0 Q K N h k n (mkF m pc Ls (.int j :: .ref a :: st)) := by
  obtain ⟨d, rfl⟩ := d
  obtain ⟨cl, A, r1, r2, r3⟩ := A
  have e1 : j.toNatClampNeg = j.toInt.toNat := rfl
  have hj : ¬ (j < 0 ∨ cl.slots.size ≤ j.toNatClampNeg) := by
    rw [Int32.lt_iff_toInt_lt, show (0 : Int32).toInt = 0 from rfl, r1, e1]; omega
  have hat : cl.slots[j.toNatClampNeg]? = some (.int v) := by rw [← hv, e1]; exact r3 _ (by omega)
  exact g_st (fun X eT t kt => X.baloadBytes C.1 (j := j) (v := .int v) (by rw [eT]; exact A.1) (State.isArrayOf_alike C.2.1.alike A.2.1) A.2.2 hj hat (g := mkF m pc Ls (.int j :: .ref a :: st)) rfl rfl (hb C.2.2.2.1 d) _ kt) G
theorem g_bastore (C : Cx p s m meth c Z n0 own bytes maxl ret nm) (d : In bytes pc 1 .bastore pc') {a : Addr} {z : Nat} {f : Nat → Int32} {j : Int32} {x : Int32} (A : BArr Z h a z f) (h1 : 0 ≤ j.toInt) (h2 : j.toInt < z) (ge : n0 ≤ a) (G : ∀ h', Wr h h' a j.toInt.toNat (.int x.toInt8.toInt32) → Go p l e R s m args below meth c n0 Q K N h' k n (mkF m pc' Ls st)) : Go p l e R s m args below meth c n0 Q K N h k n (mkF m pc Ls (.int x :: .int j :: .ref a :: st)) := by
  obtain ⟨d, rfl⟩ := d
  obtain ⟨cl, A, r1, r2, r3⟩ := A
  have e1 : j.toNatClampNeg = j.toInt.toNat := rfl
  have hj : ¬ (j < 0 ∨ cl.slots.size ≤ j.toNatClampNeg) := by
    rw [Int32.lt_iff_toInt_lt, show (0 : Int32).toInt = 0 from rfl, r1, e1]; omega
  intro T L hL X eT
  obtain ⟨T', h', X', e', W', st'⟩ := stB X C.1 C.2.1 eT A (j := j) hj (g := mkF m pc Ls (.int x :: .int j :: .ref a :: st)) rfl rfl (hb C.2.2.2.1 d)
  obtain ⟨t, o, h1, h2⟩ := G h' W' T' _ (Fr.snoc X' hL ge) X' e'
  exact ⟨t, o, st' t h1, h2⟩
theorem g_lenBArr (C : Cx p s m meth c Z n0 own bytes maxl ret nm) (d : In bytes pc 1 .arraylength pc') {a : Addr} {z : Nat} {f : Nat → Int32} (A : BArr Z h a z f) (v : Int32) (hv : v = Int32.ofNat z) (G : Go p l e R s m args below meth c n0 Q K N h k n (mkF m pc' Ls (.int v :: st))) : Go p l e R s m args below meth c n0 Q K N h k n (mkF m pc Ls (.ref a :: st)) := by
  obtain ⟨d, rfl⟩ := d
  obtain ⟨cl, A, r1, r2, r3⟩ := A
  refine g_st (fun X eT t kt => X.arraylength C.1 (by rw [eT]; exact A.1) (State.isArrayOf_alike C.2.1.alike A.2.1) (g := mkF m pc Ls (.ref a :: st)) rfl rfl (hb C.2.2.2.1 d) _ ?_) G
  rw [r1]
  subst hv
  exact kt
theorem g_join {ι : Type} (hh : ι → Heap) (k' n' : Nat) (f : ι → JFrame) (P : ι → Prop) {f0 : JFrame} (H : (∀ x, P x → Go p l e R s m args below meth c n0 Q K N (hh x) (k') (n') ((f x))) → Go p l e R s m args below meth c n0 Q K N h k n f0) (G : ∀ x, P x → Go p l e R s m args below meth c n0 Q K N (hh x) (k') (n') ((f x))) : Go p l e R s m args below meth c n0 Q K N h k n f0 := H G
theorem g_loop {ι : Type} (hh : ι → Heap) (f : ι → JFrame) (P : ι → Prop) (μ : ι → Nat) (step : ∀ x, P x → (∀ y, P y → μ y < μ x → Go p l e R s m args below meth c n0 Q K N (hh y) k n ((f y))) → Go p l e R s m args below meth c n0 Q K N (hh x) k n ((f x))) : ∀ x, P x → Go p l e R s m args below meth c n0 Q K N (hh x) k n ((f x)) := by
  intro x
  generalize hm : μ x = t
  induction t using Nat.strongRecOn generalizing x with
  | _ t ih => exact fun hx => step x hx fun y hy hlt => ih (μ y) (by omega) y rfl hy
end Kit
/-- nothing below lo was written -/
def KL (lo : Nat) (h h' : Heap) : Prop := h.size ≤ h'.size ∧ ∀ (x : Addr) (c : Cell), x < lo → h[x]? = some c → h'[x]? = some c
theorem KL.refl (lo : Nat) (h : Heap) : KL lo h h := ⟨Nat.le_refl _, fun _ _ _ q => q⟩
theorem KL.trans {lo : Nat} {h h1 h2 : Heap} (A : KL lo h h1) (B : KL lo h1 h2) : KL lo h h2 := ⟨Nat.le_trans A.1 B.1, fun x c q r => B.2 x c q (A.2 x c q r)⟩
theorem KL.ext {lo : Nat} {h h1 h2 : Heap} (A : KL lo h h1) (E : Ext h1 h2) : KL lo h h2 := ⟨Nat.le_trans A.1 E.1, fun x c q r => E.2 x c (A.2 x c q r)⟩
theorem KL.wr {lo : Nat} {h h1 h2 : Heap} {a : Addr} {sl : Nat} {v : Value} (A : KL lo h h1) (W : Wr h1 h2 a sl v) (q : lo ≤ a) : KL lo h h2 :=
  A.trans ⟨(Keep.of_wr W).1, fun x c r z => (Keep.of_wr W).2.1 x c z (fun y => by cases List.mem_singleton.mp y; exact absurd r (Nat.not_lt.mpr q))⟩
theorem LArr.kl {Z : State} {h h' : Heap} {a : Addr} {z lo : Nat} {f : Nat → Int64} (A : LArr Z h a z f) (K : KL lo h h') (q : a < lo) : LArr Z h' a z f := by obtain ⟨c, A, r⟩ := A; exact ⟨c, ⟨K.2 a c q A.1, A.2⟩, r⟩
def upd (f : Nat → Int64) (j : Nat) (x : Int64) : Nat → Int64 := fun i => if i = j then x else f i
def max2 (a b : Int64) : Int64 := if a < b then b else a
def maxR (a b r : Int64) : Prop := (a < b ∧ r = b) ∨ (¬ (a < b) ∧ r = a)
theorem maxT {a b r : Int64} (q : a < b) (h : maxR a b r) : r = b := h.elim (fun h => h.2) (fun h => absurd q h.1)
theorem maxF {a b r : Int64} (q : ¬ (a < b)) (h : maxR a b r) : r = a := h.elim (fun h => absurd h.1 q) (fun h => h.2)
theorem maxI (a b : Int64) : maxR a b (max2 a b) := by
  unfold max2
  by_cases q : a < b
  · exact Or.inl ⟨q, if_pos q⟩
  · exact Or.inr ⟨q, if_neg q⟩
def mxR (cnt : Int32) (f : Nat → Int64) (ts mv : Int64) : Prop := (cnt = 0 ∧ mv = ts) ∨ (¬ cnt = 0 ∧ maxR (f (cnt.toInt.toNat - 1)) ts mv)
theorem mxT {cnt : Int32} {f : Nat → Int64} {ts mv : Int64} (q : cnt = 0) (h : mxR cnt f ts mv) : mv = ts := h.elim (fun h => h.2) (fun h => absurd q h.1)
theorem mxF {cnt : Int32} {f : Nat → Int64} {ts mv : Int64} (q : ¬ cnt = 0) (h : mxR cnt f ts mv) : maxR (f (cnt.toInt.toNat - 1)) ts mv := h.elim (fun h => absurd h.1 q) (fun h => h.2)
theorem sub1 {cnt : Int32} (q : ¬ cnt = 0) (h : 0 ≤ cnt.toInt) : (cnt - 1).toInt = cnt.toInt - 1 := by
  have a := c_isub cnt 1; have := rng32 (cnt - 1); have e : (1 : Int32).toInt = 1 := rfl
  have := rng32 cnt
  omega
theorem add1 {i : Int32} (h : 0 ≤ i.toInt) (h2 : i.toInt < 1000) : (i + 1).toInt = i.toInt + 1 := by
  have a := c_iadd i 1; have := rng32 (i + 1); have e : (1 : Int32).toInt = 1 := rfl
  omega
theorem pos_of {cnt : Int32} (q : ¬ cnt = 0) (h : 0 ≤ cnt.toInt) : 1 ≤ cnt.toInt := by
  have : ¬ cnt.toInt = 0 := fun z => q (Int32.toInt_inj.mp z)
  omega
def noR (g cnt : Int32) (last : Int64) (fo fe : Nat → Int64) (i : Int32) (r : Int64) : Prop := (¬ g = 0 ∧ r = fe i.toInt.toNat) ∨ (g = 0 ∧ i + 1 = cnt ∧ r = last) ∨ (g = 0 ∧ ¬ i + 1 = cnt ∧ r = fo (i.toInt.toNat + 1))
theorem no1 {g cnt : Int32} {last : Int64} {fo fe : Nat → Int64} {i : Int32} {r : Int64} (q : ¬ g = 0) (h : noR g cnt last fo fe i r) : r = fe i.toInt.toNat := by
  rcases h with h | h | h
  · exact h.2
  · exact absurd h.1 q
  · exact absurd h.1 q
theorem no2 {g cnt : Int32} {last : Int64} {fo fe : Nat → Int64} {i : Int32} {r : Int64} (q : g = 0) (q2 : i + 1 = cnt) (h : noR g cnt last fo fe i r) : r = last := by
  rcases h with h | h | h
  · exact absurd q h.1
  · exact h.2.2
  · exact absurd q2 h.2.1
theorem no3 {g cnt : Int32} {last : Int64} {fo fe : Nat → Int64} {i : Int32} {r : Int64} (q : g = 0) (q2 : ¬ i + 1 = cnt) (h : noR g cnt last fo fe i r) : r = fo (i.toInt.toNat + 1) := by
  rcases h with h | h | h
  · exact absurd q h.1
  · exact absurd h.2.1 q2
  · exact h.2.2
theorem next_ok {g m : Int32} {n : Nat} {fo fe : Nat → Int64} {i : Int32} (hK : g = 0 → ∀ k : Nat, k + 1 < n → fo (k + 1) = fe k) (h1 : 0 ≤ i.toInt) (h2 : i.toInt < m.toInt) (h3 : m.toInt ≤ n) (h4 : m.toInt < 60) : noR g m (fe (m.toInt.toNat - 1)) fo fe i (fe i.toInt.toNat) := by
  have e := add1 (i := i) h1 (by omega)
  by_cases q : g = 0
  · by_cases q2 : i + 1 = m
    · refine Or.inr (Or.inl ⟨q, q2, ?_⟩)
      rw [← q2, e]; congr 1; omega
    · refine Or.inr (Or.inr ⟨q, q2, (hK q _ ?_).symm⟩)
      have : ¬ (i + 1).toInt = m.toInt := fun z => q2 (Int32.toInt_inj.mp z)
      omega
  · exact Or.inl ⟨q, rfl⟩
theorem mod3 (z : Int32) : ((1 : Int32) + ((ushrI z 1 &&& 3) - ((ushrI z 1 &&& 3) / 3) * 3)) = 1 ∨ ((1 : Int32) + ((ushrI z 1 &&& 3) - ((ushrI z 1 &&& 3) / 3) * 3)) = 2 ∨ ((1 : Int32) + ((ushrI z 1 &&& 3) - ((ushrI z 1 &&& 3) / 3) * 3)) = 3 := by
  have h := c_mask (ushrI z 1) 3 2 (by decide) (by decide)
  generalize ushrI z 1 &&& 3 = x at *
  have hx : x.toInt = 0 ∨ x.toInt = 1 ∨ x.toInt = 2 ∨ x.toInt = 3 := by omega
  rcases hx with q | q | q | q
  · obtain rfl : x = 0 := Int32.toInt_inj.mp q
    exact Or.inl (by decide)
  · obtain rfl : x = 1 := Int32.toInt_inj.mp q
    exact Or.inr (Or.inl (by decide))
  · obtain rfl : x = 2 := Int32.toInt_inj.mp q
    exact Or.inr (Or.inr (by decide))
  · obtain rfl : x = 3 := Int32.toInt_inj.mp q
    exact Or.inl (by decide)
theorem modn (x : Int32) (n : Int32) (hn : n = 1 ∨ n = 2 ∨ n = 3) : 1 ≤ ((1 : Int32) + ((x &&& 3) - ((x &&& 3) / n) * n)).toInt ∧ ((1 : Int32) + ((x &&& 3) - ((x &&& 3) / n) * n)).toInt ≤ n.toInt := by
  have h := c_mask x 3 2 (by decide) (by decide)
  generalize x &&& 3 = x at *
  have hx : x.toInt = 0 ∨ x.toInt = 1 ∨ x.toInt = 2 ∨ x.toInt = 3 := by omega
  rcases hx with q | q | q | q
  · obtain rfl : x = 0 := Int32.toInt_inj.mp q
    rcases hn with rfl | rfl | rfl <;> decide
  · obtain rfl : x = 1 := Int32.toInt_inj.mp q
    rcases hn with rfl | rfl | rfl <;> decide
  · obtain rfl : x = 2 := Int32.toInt_inj.mp q
    rcases hn with rfl | rfl | rfl <;> decide
  · obtain rfl : x = 3 := Int32.toInt_inj.mp q
    rcases hn with rfl | rfl | rfl <;> decide
theorem lt_lit {m : Int32} {k : Int32} {j : Int} (h : ¬ (k < m)) (e : k.toInt = j) : m.toInt ≤ j := by rw [Int32.lt_iff_toInt_lt] at h; omega
theorem gt_lit {m : Int32} {k : Int32} {j : Int} (h : k < m) (e : k.toInt = j) : j < m.toInt := by rw [Int32.lt_iff_toInt_lt] at h; omega

theorem wd_0 {a0 : Array Value} {Z : State} (hw : ∀ d ∈ tables_1, d.before a0 Z = true) : (Jvm.Cond.methodLink "com/example/offset/offset/log/BatchTableNextOffsetPinLaw" (13 : Nat) ({ cls := "java/lang/Math", name := "min", desc := "(JJ)J" } : Jvm.MethodName)).before a0 Z = true := hw _ (List.mem_of_getElem? (i := 0) rfl)
theorem wd_1 {a0 : Array Value} {Z : State} (hw : ∀ d ∈ tables_1, d.before a0 Z = true) : (Jvm.Cond.static ({ cls := "java/lang/Math", name := "min", desc := "(JJ)J" } : Jvm.MethodName)).before a0 Z = true := hw _ (List.mem_of_getElem? (i := 1) rfl)
theorem wd_2 {a0 : Array Value} {Z : State} (hw : ∀ d ∈ tables_1, d.before a0 Z = true) : (Jvm.Cond.initialized "java/lang/Math").before a0 Z = true := hw _ (List.mem_of_getElem? (i := 2) rfl)
theorem wd_3 {a0 : Array Value} {Z : State} (hw : ∀ d ∈ tables_1, d.before a0 Z = true) : (Jvm.Cond.code ({ cls := "java/lang/Math", name := "min", desc := "(JJ)J" } : Jvm.MethodName) jdk_29_method_70_code (4 : Nat) (Option.some Jvm.ClassFile.FieldType.long)).before a0 Z = true := hw _ (List.mem_of_getElem? (i := 3) rfl)
theorem wd_4 {a0 : Array Value} {Z : State} (hw : ∀ d ∈ tables_1, d.before a0 Z = true) : (Jvm.Cond.methodLink "com/example/offset/offset/log/BatchTableNextOffsetPinLaw" (19 : Nat) ({ cls := "java/lang/Math", name := "max", desc := "(JJ)J" } : Jvm.MethodName)).before a0 Z = true := hw _ (List.mem_of_getElem? (i := 4) rfl)
theorem wd_5 {a0 : Array Value} {Z : State} (hw : ∀ d ∈ tables_1, d.before a0 Z = true) : (Jvm.Cond.static ({ cls := "java/lang/Math", name := "max", desc := "(JJ)J" } : Jvm.MethodName)).before a0 Z = true := hw _ (List.mem_of_getElem? (i := 5) rfl)
theorem wd_6 {a0 : Array Value} {Z : State} (hw : ∀ d ∈ tables_1, d.before a0 Z = true) : (Jvm.Cond.code ({ cls := "java/lang/Math", name := "max", desc := "(JJ)J" } : Jvm.MethodName) jdk_29_method_66_code (4 : Nat) (Option.some Jvm.ClassFile.FieldType.long)).before a0 Z = true := hw _ (List.mem_of_getElem? (i := 6) rfl)
theorem wd_7 {a0 : Array Value} {Z : State} (hw : ∀ d ∈ tables_1, d.before a0 Z = true) : (Jvm.Cond.arrayClass Jvm.ClassFile.FieldType.long).before a0 Z = true := hw _ (List.mem_of_getElem? (i := 7) rfl)
theorem wd_8 {a0 : Array Value} {Z : State} (hw : ∀ d ∈ tables_1, d.before a0 Z = true) : (Jvm.Cond.methodLink "com/example/offset/offset/log/BatchTableNextOffsetPinLaw" (22 : Nat) ({ cls := "com/example/offset/offset/log/BatchTableNextOffsetPinLaw", name := "endOf", desc := "([JIIZJ)J" } : Jvm.MethodName)).before a0 Z = true := hw _ (List.mem_of_getElem? (i := 8) rfl)
theorem wd_9 {a0 : Array Value} {Z : State} (hw : ∀ d ∈ tables_1, d.before a0 Z = true) : (Jvm.Cond.static ({ cls := "com/example/offset/offset/log/BatchTableNextOffsetPinLaw", name := "endOf", desc := "([JIIZJ)J" } : Jvm.MethodName)).before a0 Z = true := hw _ (List.mem_of_getElem? (i := 9) rfl)
theorem wd_10 {a0 : Array Value} {Z : State} (hw : ∀ d ∈ tables_1, d.before a0 Z = true) : (Jvm.Cond.initialized "com/example/offset/offset/log/BatchTableNextOffsetPinLaw").before a0 Z = true := hw _ (List.mem_of_getElem? (i := 10) rfl)
theorem wd_11 {a0 : Array Value} {Z : State} (hw : ∀ d ∈ tables_1, d.before a0 Z = true) : (Jvm.Cond.code ({ cls := "com/example/offset/offset/log/BatchTableNextOffsetPinLaw", name := "endOf", desc := "([JIIZJ)J" } : Jvm.MethodName) method_2_code (7 : Nat) (Option.some Jvm.ClassFile.FieldType.long)).before a0 Z = true := hw _ (List.mem_of_getElem? (i := 11) rfl)
theorem wd_12 {a0 : Array Value} {Z : State} (hw : ∀ d ∈ tables_1, d.before a0 Z = true) : (Jvm.Cond.constantLong "com/example/offset/offset/log/BatchTableNextOffsetPinLaw" (7 : Nat) (63 : Int64)).before a0 Z = true := hw _ (List.mem_of_getElem? (i := 12) rfl)
theorem wd_13 {a0 : Array Value} {Z : State} (hw : ∀ d ∈ tables_1, d.before a0 Z = true) : (Jvm.Cond.constantLong "com/example/offset/offset/log/BatchTableNextOffsetPinLaw" (11 : Nat) (9223372036854775807 : Int64)).before a0 Z = true := hw _ (List.mem_of_getElem? (i := 13) rfl)
theorem wd_14 {a0 : Array Value} {Z : State} (hw : ∀ d ∈ tables_1, d.before a0 Z = true) : (Jvm.Cond.classLink "com/example/offset/offset/log/BatchTableNextOffsetPinLaw" (28 : Nat) "com/example/offset/offset/log/BatchTable").before a0 Z = true := hw _ (List.mem_of_getElem? (i := 14) rfl)
theorem wd_15 {a0 : Array Value} {Z : State} (hw : ∀ d ∈ tables_1, d.before a0 Z = true) : (Jvm.Cond.instantiable "com/example/offset/offset/log/BatchTable" (7 : Nat)).before a0 Z = true := hw _ (List.mem_of_getElem? (i := 15) rfl)
theorem wd_16 {a0 : Array Value} {Z : State} (hw : ∀ d ∈ tables_1, d.before a0 Z = true) : (Jvm.Cond.initialized "com/example/offset/offset/log/BatchTable").before a0 Z = true := hw _ (List.mem_of_getElem? (i := 16) rfl)
theorem wd_17 {a0 : Array Value} {Z : State} (hw : ∀ d ∈ tables_1, d.before a0 Z = true) : (Jvm.Cond.methodLink "com/example/offset/offset/log/BatchTableNextOffsetPinLaw" (30 : Nat) ({ cls := "com/example/offset/offset/log/BatchTable", name := "<init>", desc := "(Z)V" } : Jvm.MethodName)).before a0 Z = true := hw _ (List.mem_of_getElem? (i := 17) rfl)
theorem wd_18 {a0 : Array Value} {Z : State} (hw : ∀ d ∈ tables_1, d.before a0 Z = true) : (Jvm.Cond.instanceMethod ({ cls := "com/example/offset/offset/log/BatchTable", name := "<init>", desc := "(Z)V" } : Jvm.MethodName)).before a0 Z = true := hw _ (List.mem_of_getElem? (i := 18) rfl)
theorem wd_19 {a0 : Array Value} {Z : State} (hw : ∀ d ∈ tables_1, d.before a0 Z = true) : (Jvm.Cond.code ({ cls := "com/example/offset/offset/log/BatchTable", name := "<init>", desc := "(Z)V" } : Jvm.MethodName) prog_45_method_1_code (2 : Nat) (Option.none : Option Jvm.ClassFile.FieldType)).before a0 Z = true := hw _ (List.mem_of_getElem? (i := 19) rfl)
theorem wd_20 {a0 : Array Value} {Z : State} (hw : ∀ d ∈ tables_1, d.before a0 Z = true) : (Jvm.Cond.methodLink "com/example/offset/offset/log/BatchTable" (1 : Nat) ({ cls := "java/lang/Object", name := "<init>", desc := "()V" } : Jvm.MethodName)).before a0 Z = true := hw _ (List.mem_of_getElem? (i := 20) rfl)
theorem wd_21 {a0 : Array Value} {Z : State} (hw : ∀ d ∈ tables_1, d.before a0 Z = true) : (Jvm.Cond.instanceMethod ({ cls := "java/lang/Object", name := "<init>", desc := "()V" } : Jvm.MethodName)).before a0 Z = true := hw _ (List.mem_of_getElem? (i := 21) rfl)
theorem wd_22 {a0 : Array Value} {Z : State} (hw : ∀ d ∈ tables_1, d.before a0 Z = true) : (Jvm.Cond.code ({ cls := "java/lang/Object", name := "<init>", desc := "()V" } : Jvm.MethodName) object_method_1_code (1 : Nat) (Option.none : Option Jvm.ClassFile.FieldType)).before a0 Z = true := hw _ (List.mem_of_getElem? (i := 22) rfl)
theorem wd_23 {a0 : Array Value} {Z : State} (hw : ∀ d ∈ tables_1, d.before a0 Z = true) : (Jvm.Cond.fieldLink "com/example/offset/offset/log/BatchTable" (9 : Nat) "com/example/offset/offset/log/BatchTable" "offsets" "[J").before a0 Z = true := hw _ (List.mem_of_getElem? (i := 23) rfl)
theorem wd_24 {a0 : Array Value} {Z : State} (hw : ∀ d ∈ tables_1, d.before a0 Z = true) : (Jvm.Cond.lays "com/example/offset/offset/log/BatchTable" "com/example/offset/offset/log/BatchTable" "offsets" "[J").before a0 Z = true := hw _ (List.mem_of_getElem? (i := 24) rfl)
theorem wd_25 {a0 : Array Value} {Z : State} (hw : ∀ d ∈ tables_1, d.before a0 Z = true) : (Jvm.Cond.fieldLink "com/example/offset/offset/log/BatchTable" (13 : Nat) "com/example/offset/offset/log/BatchTable" "positions" "[J").before a0 Z = true := hw _ (List.mem_of_getElem? (i := 25) rfl)
theorem wd_26 {a0 : Array Value} {Z : State} (hw : ∀ d ∈ tables_1, d.before a0 Z = true) : (Jvm.Cond.lays "com/example/offset/offset/log/BatchTable" "com/example/offset/offset/log/BatchTable" "positions" "[J").before a0 Z = true := hw _ (List.mem_of_getElem? (i := 26) rfl)
theorem wd_27 {a0 : Array Value} {Z : State} (hw : ∀ d ∈ tables_1, d.before a0 Z = true) : (Jvm.Cond.fieldLink "com/example/offset/offset/log/BatchTable" (16 : Nat) "com/example/offset/offset/log/BatchTable" "maxTimestampsUpTo" "[J").before a0 Z = true := hw _ (List.mem_of_getElem? (i := 27) rfl)
theorem wd_28 {a0 : Array Value} {Z : State} (hw : ∀ d ∈ tables_1, d.before a0 Z = true) : (Jvm.Cond.lays "com/example/offset/offset/log/BatchTable" "com/example/offset/offset/log/BatchTable" "maxTimestampsUpTo" "[J").before a0 Z = true := hw _ (List.mem_of_getElem? (i := 28) rfl)
theorem wd_29 {a0 : Array Value} {Z : State} (hw : ∀ d ∈ tables_1, d.before a0 Z = true) : (Jvm.Cond.fieldLink "com/example/offset/offset/log/BatchTable" (19 : Nat) "com/example/offset/offset/log/BatchTable" "gaps" "Z").before a0 Z = true := hw _ (List.mem_of_getElem? (i := 29) rfl)
theorem wd_30 {a0 : Array Value} {Z : State} (hw : ∀ d ∈ tables_1, d.before a0 Z = true) : (Jvm.Cond.laysFinal "com/example/offset/offset/log/BatchTable" "com/example/offset/offset/log/BatchTable" "gaps" "Z").before a0 Z = true := hw _ (List.mem_of_getElem? (i := 30) rfl)
theorem wd_31 {a0 : Array Value} {Z : State} (hw : ∀ d ∈ tables_1, d.before a0 Z = true) : (Jvm.Cond.fieldLink "com/example/offset/offset/log/BatchTable" (23 : Nat) "com/example/offset/offset/log/BatchTable" "ends" "[J").before a0 Z = true := hw _ (List.mem_of_getElem? (i := 31) rfl)
theorem wd_32 {a0 : Array Value} {Z : State} (hw : ∀ d ∈ tables_1, d.before a0 Z = true) : (Jvm.Cond.lays "com/example/offset/offset/log/BatchTable" "com/example/offset/offset/log/BatchTable" "ends" "[J").before a0 Z = true := hw _ (List.mem_of_getElem? (i := 32) rfl)
theorem wd_33 {a0 : Array Value} {Z : State} (hw : ∀ d ∈ tables_1, d.before a0 Z = true) : (Jvm.Cond.methodLink "com/example/offset/offset/log/BatchTableNextOffsetPinLaw" (33 : Nat) ({ cls := "com/example/offset/offset/log/BatchTable", name := "add", desc := "(JJJJ)V" } : Jvm.MethodName)).before a0 Z = true := hw _ (List.mem_of_getElem? (i := 33) rfl)
theorem wd_34 {a0 : Array Value} {Z : State} (hw : ∀ d ∈ tables_1, d.before a0 Z = true) : (Jvm.Cond.declares ({ cls := "com/example/offset/offset/log/BatchTable", name := "add", desc := "(JJJJ)V" } : Jvm.MethodName)).before a0 Z = true := hw _ (List.mem_of_getElem? (i := 34) rfl)
theorem wd_35 {a0 : Array Value} {Z : State} (hw : ∀ d ∈ tables_1, d.before a0 Z = true) : (Jvm.Cond.instanceMethod ({ cls := "com/example/offset/offset/log/BatchTable", name := "add", desc := "(JJJJ)V" } : Jvm.MethodName)).before a0 Z = true := hw _ (List.mem_of_getElem? (i := 35) rfl)
theorem wd_36 {a0 : Array Value} {Z : State} (hw : ∀ d ∈ tables_1, d.before a0 Z = true) : (Jvm.Cond.selects "com/example/offset/offset/log/BatchTable" ({ cls := "com/example/offset/offset/log/BatchTable", name := "add", desc := "(JJJJ)V" } : Jvm.MethodName) ({ cls := "com/example/offset/offset/log/BatchTable", name := "add", desc := "(JJJJ)V" } : Jvm.MethodName)).before a0 Z = true := hw _ (List.mem_of_getElem? (i := 36) rfl)
theorem wd_37 {a0 : Array Value} {Z : State} (hw : ∀ d ∈ tables_1, d.before a0 Z = true) : (Jvm.Cond.code ({ cls := "com/example/offset/offset/log/BatchTable", name := "add", desc := "(JJJJ)V" } : Jvm.MethodName) prog_45_method_7_code (9 : Nat) (Option.none : Option Jvm.ClassFile.FieldType)).before a0 Z = true := hw _ (List.mem_of_getElem? (i := 37) rfl)
theorem wd_38 {a0 : Array Value} {Z : State} (hw : ∀ d ∈ tables_1, d.before a0 Z = true) : (Jvm.Cond.fieldLink "com/example/offset/offset/log/BatchTable" (26 : Nat) "com/example/offset/offset/log/BatchTable" "count" "I").before a0 Z = true := hw _ (List.mem_of_getElem? (i := 38) rfl)
theorem wd_39 {a0 : Array Value} {Z : State} (hw : ∀ d ∈ tables_1, d.before a0 Z = true) : (Jvm.Cond.lays "com/example/offset/offset/log/BatchTable" "com/example/offset/offset/log/BatchTable" "count" "I").before a0 Z = true := hw _ (List.mem_of_getElem? (i := 39) rfl)
theorem wd_40 {a0 : Array Value} {Z : State} (hw : ∀ d ∈ tables_1, d.before a0 Z = true) : (Jvm.Cond.fieldLink "com/example/offset/offset/log/BatchTable" (30 : Nat) "com/example/offset/offset/log/BatchTable" "lastEnd" "J").before a0 Z = true := hw _ (List.mem_of_getElem? (i := 40) rfl)
theorem wd_41 {a0 : Array Value} {Z : State} (hw : ∀ d ∈ tables_1, d.before a0 Z = true) : (Jvm.Cond.lays "com/example/offset/offset/log/BatchTable" "com/example/offset/offset/log/BatchTable" "lastEnd" "J").before a0 Z = true := hw _ (List.mem_of_getElem? (i := 41) rfl)
theorem wd_42 {a0 : Array Value} {Z : State} (hw : ∀ d ∈ tables_1, d.before a0 Z = true) : (Jvm.Cond.methodLink "com/example/offset/offset/log/BatchTable" (40 : Nat) ({ cls := "java/lang/Math", name := "max", desc := "(JJ)J" } : Jvm.MethodName)).before a0 Z = true := hw _ (List.mem_of_getElem? (i := 42) rfl)
theorem wd_43 {a0 : Array Value} {Z : State} (hw : ∀ d ∈ tables_1, d.before a0 Z = true) : (Jvm.Cond.methodLink "com/example/offset/offset/log/BatchTableNextOffsetPinLaw" (43 : Nat) ({ cls := "com/example/offset/offset/log/BatchTable", name := "nextOffset", desc := "(I)J" } : Jvm.MethodName)).before a0 Z = true := hw _ (List.mem_of_getElem? (i := 43) rfl)
theorem wd_44 {a0 : Array Value} {Z : State} (hw : ∀ d ∈ tables_1, d.before a0 Z = true) : (Jvm.Cond.declares ({ cls := "com/example/offset/offset/log/BatchTable", name := "nextOffset", desc := "(I)J" } : Jvm.MethodName)).before a0 Z = true := hw _ (List.mem_of_getElem? (i := 44) rfl)
theorem wd_45 {a0 : Array Value} {Z : State} (hw : ∀ d ∈ tables_1, d.before a0 Z = true) : (Jvm.Cond.instanceMethod ({ cls := "com/example/offset/offset/log/BatchTable", name := "nextOffset", desc := "(I)J" } : Jvm.MethodName)).before a0 Z = true := hw _ (List.mem_of_getElem? (i := 45) rfl)
theorem wd_46 {a0 : Array Value} {Z : State} (hw : ∀ d ∈ tables_1, d.before a0 Z = true) : (Jvm.Cond.selects "com/example/offset/offset/log/BatchTable" ({ cls := "com/example/offset/offset/log/BatchTable", name := "nextOffset", desc := "(I)J" } : Jvm.MethodName) ({ cls := "com/example/offset/offset/log/BatchTable", name := "nextOffset", desc := "(I)J" } : Jvm.MethodName)).before a0 Z = true := hw _ (List.mem_of_getElem? (i := 46) rfl)
theorem wd_47 {a0 : Array Value} {Z : State} (hw : ∀ d ∈ tables_1, d.before a0 Z = true) : (Jvm.Cond.code ({ cls := "com/example/offset/offset/log/BatchTable", name := "nextOffset", desc := "(I)J" } : Jvm.MethodName) prog_45_method_6_code (2 : Nat) (Option.some Jvm.ClassFile.FieldType.long)).before a0 Z = true := hw _ (List.mem_of_getElem? (i := 47) rfl)
theorem wd_48 {a0 : Array Value} {Z : State} (hw : ∀ d ∈ tables_1, d.before a0 Z = true) : (Jvm.Cond.constantLong "com/example/offset/offset/log/BatchTableNextOffsetPinLaw" (37 : Nat) (2 : Int64)).before a0 Z = true := hw _ (List.mem_of_getElem? (i := 48) rfl)
theorem wd_49 {a0 : Array Value} {Z : State} (hw : ∀ d ∈ tables_1, d.before a0 Z = true) : (Jvm.Cond.methodLink "com/example/offset/offset/log/BatchTableNextOffsetPinLaw" (39 : Nat) ({ cls := "com/example/offset/offset/log/BatchTable", name := "truncate", desc := "(I)V" } : Jvm.MethodName)).before a0 Z = true := hw _ (List.mem_of_getElem? (i := 49) rfl)
theorem wd_50 {a0 : Array Value} {Z : State} (hw : ∀ d ∈ tables_1, d.before a0 Z = true) : (Jvm.Cond.declares ({ cls := "com/example/offset/offset/log/BatchTable", name := "truncate", desc := "(I)V" } : Jvm.MethodName)).before a0 Z = true := hw _ (List.mem_of_getElem? (i := 50) rfl)
theorem wd_51 {a0 : Array Value} {Z : State} (hw : ∀ d ∈ tables_1, d.before a0 Z = true) : (Jvm.Cond.instanceMethod ({ cls := "com/example/offset/offset/log/BatchTable", name := "truncate", desc := "(I)V" } : Jvm.MethodName)).before a0 Z = true := hw _ (List.mem_of_getElem? (i := 51) rfl)
theorem wd_52 {a0 : Array Value} {Z : State} (hw : ∀ d ∈ tables_1, d.before a0 Z = true) : (Jvm.Cond.selects "com/example/offset/offset/log/BatchTable" ({ cls := "com/example/offset/offset/log/BatchTable", name := "truncate", desc := "(I)V" } : Jvm.MethodName) ({ cls := "com/example/offset/offset/log/BatchTable", name := "truncate", desc := "(I)V" } : Jvm.MethodName)).before a0 Z = true := hw _ (List.mem_of_getElem? (i := 52) rfl)
theorem wd_53 {a0 : Array Value} {Z : State} (hw : ∀ d ∈ tables_1, d.before a0 Z = true) : (Jvm.Cond.code ({ cls := "com/example/offset/offset/log/BatchTable", name := "truncate", desc := "(I)V" } : Jvm.MethodName) prog_45_method_8_code (2 : Nat) (Option.none : Option Jvm.ClassFile.FieldType)).before a0 Z = true := hw _ (List.mem_of_getElem? (i := 53) rfl)
theorem wd_54 {a0 : Array Value} {Z : State} (hw : ∀ d ∈ tables_1, d.before a0 Z = true) : (Jvm.Cond.methodLink "com/example/offset/offset/log/BatchTable" (46 : Nat) ({ cls := "com/example/offset/offset/log/BatchTable", name := "nextOffset", desc := "(I)J" } : Jvm.MethodName)).before a0 Z = true := hw _ (List.mem_of_getElem? (i := 54) rfl)
theorem D0_0 : In code 0 1 (.lload_n 0) 1 := ⟨at_0, rfl⟩
theorem D0_1 : In code 1 1 (.lload_n 2) 2 := ⟨at_1, rfl⟩
theorem D0_2 : In code 2 3 (.invokestatic 13) 5 := ⟨at_2, rfl⟩
theorem D0_5 : In code 5 2 (.lload 4) 7 := ⟨at_5, rfl⟩
theorem D0_7 : In code 7 3 (.invokestatic 13) 10 := ⟨at_7, rfl⟩
theorem D0_10 : In code 10 2 (.lstore 9) 12 := ⟨at_10, rfl⟩
theorem D0_12 : In code 12 1 (.lload_n 0) 13 := ⟨at_12, rfl⟩
theorem D0_13 : In code 13 1 (.lload_n 2) 14 := ⟨at_13, rfl⟩
theorem D0_14 : In code 14 3 (.invokestatic 19) 17 := ⟨at_14, rfl⟩
theorem D0_17 : In code 17 2 (.lload 4) 19 := ⟨at_17, rfl⟩
theorem D0_19 : In code 19 3 (.invokestatic 19) 22 := ⟨at_19, rfl⟩
theorem D0_22 : In code 22 2 (.lstore 11) 24 := ⟨at_22, rfl⟩
theorem D0_24 : In code 24 1 (.lload_n 0) 25 := ⟨at_24, rfl⟩
theorem D0_25 : In code 25 1 (.lload_n 2) 26 := ⟨at_25, rfl⟩
theorem D0_26 : In code 26 1 (.ladd) 27 := ⟨at_26, rfl⟩
theorem D0_27 : In code 27 2 (.lload 4) 29 := ⟨at_27, rfl⟩
theorem D0_29 : In code 29 1 (.ladd) 30 := ⟨at_29, rfl⟩
theorem D0_30 : In code 30 2 (.lload 9) 32 := ⟨at_30, rfl⟩
theorem D0_32 : In code 32 1 (.lsub) 33 := ⟨at_32, rfl⟩
theorem D0_33 : In code 33 2 (.lload 11) 35 := ⟨at_33, rfl⟩
theorem D0_35 : In code 35 1 (.lsub) 36 := ⟨at_35, rfl⟩
theorem D0_36 : In code 36 2 (.lstore 13) 38 := ⟨at_36, rfl⟩
theorem D0_38 : In code 38 1 (.iconst 3) 39 := ⟨at_38, rfl⟩
theorem D0_39 : In code 39 2 (.newarray .long) 41 := ⟨at_39, rfl⟩
theorem D0_41 : In code 41 1 (.dup) 42 := ⟨at_41, rfl⟩
theorem D0_42 : In code 42 1 (.iconst 0) 43 := ⟨at_42, rfl⟩
theorem D0_43 : In code 43 2 (.lload 9) 45 := ⟨at_43, rfl⟩
theorem D0_45 : In code 45 1 (.lastore) 46 := ⟨at_45, rfl⟩
theorem D0_46 : In code 46 1 (.dup) 47 := ⟨at_46, rfl⟩
theorem D0_47 : In code 47 1 (.iconst 1) 48 := ⟨at_47, rfl⟩
theorem D0_48 : In code 48 2 (.lload 13) 50 := ⟨at_48, rfl⟩
theorem D0_50 : In code 50 1 (.lastore) 51 := ⟨at_50, rfl⟩
theorem D0_51 : In code 51 1 (.dup) 52 := ⟨at_51, rfl⟩
theorem D0_52 : In code 52 1 (.iconst 2) 53 := ⟨at_52, rfl⟩
theorem D0_53 : In code 53 2 (.lload 11) 55 := ⟨at_53, rfl⟩
theorem D0_55 : In code 55 1 (.lastore) 56 := ⟨at_55, rfl⟩
theorem D0_56 : In code 56 2 (.astore 15) 58 := ⟨at_56, rfl⟩
theorem D0_58 : In code 58 2 (.iload 8) 60 := ⟨at_58, rfl⟩
theorem D0_60 : In code 60 1 (.iconst 1) 61 := ⟨at_60, rfl⟩
theorem D0_61 : In code 61 1 (.iand) 62 := ⟨at_61, rfl⟩
theorem D0_62 : Jm code 62 (.ifCond .eq) 65 69 := ⟨7, at_62, rfl, by decide, by decide⟩
theorem D0_65 : In code 65 1 (.iconst 1) 66 := ⟨at_65, rfl⟩
theorem D0_66 : Jm code 66 .goto 69 70 := ⟨4, at_66, rfl, by decide, by decide⟩
theorem D0_69 : In code 69 1 (.iconst 0) 70 := ⟨at_69, rfl⟩
theorem D0_70 : In code 70 2 (.istore 16) 72 := ⟨at_70, rfl⟩
theorem D0_72 : In code 72 1 (.iconst 1) 73 := ⟨at_72, rfl⟩
theorem D0_73 : In code 73 2 (.iload 8) 75 := ⟨at_73, rfl⟩
theorem D0_75 : In code 75 1 (.iconst 1) 76 := ⟨at_75, rfl⟩
theorem D0_76 : In code 76 1 (.iushr) 77 := ⟨at_76, rfl⟩
theorem D0_77 : In code 77 1 (.iconst 3) 78 := ⟨at_77, rfl⟩
theorem D0_78 : In code 78 1 (.iand) 79 := ⟨at_78, rfl⟩
theorem D0_79 : In code 79 1 (.iconst 3) 80 := ⟨at_79, rfl⟩
theorem D0_80 : In code 80 1 (.irem) 81 := ⟨at_80, rfl⟩
theorem D0_81 : In code 81 1 (.iadd) 82 := ⟨at_81, rfl⟩
theorem D0_82 : In code 82 2 (.istore 17) 84 := ⟨at_82, rfl⟩
theorem D0_84 : In code 84 2 (.aload 15) 86 := ⟨at_84, rfl⟩
theorem D0_86 : In code 86 1 (.iconst 0) 87 := ⟨at_86, rfl⟩
theorem D0_87 : In code 87 2 (.iload 17) 89 := ⟨at_87, rfl⟩
theorem D0_89 : In code 89 2 (.iload 16) 91 := ⟨at_89, rfl⟩
theorem D0_91 : In code 91 2 (.lload 6) 93 := ⟨at_91, rfl⟩
theorem D0_93 : In code 93 3 (.invokestatic 22) 96 := ⟨at_93, rfl⟩
theorem D0_96 : In code 96 2 (.lstore 18) 98 := ⟨at_96, rfl⟩
theorem D0_98 : In code 98 2 (.aload 15) 100 := ⟨at_98, rfl⟩
theorem D0_100 : In code 100 1 (.iconst 1) 101 := ⟨at_100, rfl⟩
theorem D0_101 : In code 101 2 (.iload 17) 103 := ⟨at_101, rfl⟩
theorem D0_103 : In code 103 2 (.iload 16) 105 := ⟨at_103, rfl⟩
theorem D0_105 : In code 105 2 (.lload 6) 107 := ⟨at_105, rfl⟩
theorem D0_107 : In code 107 3 (.invokestatic 22) 110 := ⟨at_107, rfl⟩
theorem D0_110 : In code 110 2 (.lstore 20) 112 := ⟨at_110, rfl⟩
theorem D0_112 : In code 112 2 (.aload 15) 114 := ⟨at_112, rfl⟩
theorem D0_114 : In code 114 1 (.iconst 2) 115 := ⟨at_114, rfl⟩
theorem D0_115 : In code 115 2 (.iload 17) 117 := ⟨at_115, rfl⟩
theorem D0_117 : In code 117 2 (.iload 16) 119 := ⟨at_117, rfl⟩
theorem D0_119 : In code 119 2 (.lload 6) 121 := ⟨at_119, rfl⟩
theorem D0_121 : In code 121 3 (.invokestatic 22) 124 := ⟨at_121, rfl⟩
theorem D0_124 : In code 124 2 (.lstore 22) 126 := ⟨at_124, rfl⟩
theorem D0_126 : In code 126 3 (.new 28) 129 := ⟨at_126, rfl⟩
theorem D0_129 : In code 129 1 (.dup) 130 := ⟨at_129, rfl⟩
theorem D0_130 : In code 130 2 (.iload 16) 132 := ⟨at_130, rfl⟩
theorem D0_132 : In code 132 3 (.invokespecial 30) 135 := ⟨at_132, rfl⟩
theorem D0_135 : In code 135 2 (.astore 24) 137 := ⟨at_135, rfl⟩
theorem D0_137 : In code 137 2 (.aload 24) 139 := ⟨at_137, rfl⟩
theorem D0_139 : In code 139 2 (.aload 15) 141 := ⟨at_139, rfl⟩
theorem D0_141 : In code 141 1 (.iconst 0) 142 := ⟨at_141, rfl⟩
theorem D0_142 : In code 142 1 (.laload) 143 := ⟨at_142, rfl⟩
theorem D0_143 : In code 143 1 (.lconst 0) 144 := ⟨at_143, rfl⟩
theorem D0_144 : In code 144 2 (.lload 18) 146 := ⟨at_144, rfl⟩
theorem D0_146 : In code 146 2 (.lload 6) 148 := ⟨at_146, rfl⟩
theorem D0_148 : In code 148 3 (.invokevirtual 33) 151 := ⟨at_148, rfl⟩
theorem D0_151 : In code 151 2 (.iload 17) 153 := ⟨at_151, rfl⟩
theorem D0_153 : In code 153 1 (.iconst 1) 154 := ⟨at_153, rfl⟩
theorem D0_154 : Jm code 154 (.if_icmp .le) 157 171 := ⟨17, at_154, rfl, by decide, by decide⟩
theorem D0_157 : In code 157 2 (.aload 24) 159 := ⟨at_157, rfl⟩
theorem D0_159 : In code 159 2 (.aload 15) 161 := ⟨at_159, rfl⟩
theorem D0_161 : In code 161 1 (.iconst 1) 162 := ⟨at_161, rfl⟩
theorem D0_162 : In code 162 1 (.laload) 163 := ⟨at_162, rfl⟩
theorem D0_163 : In code 163 1 (.lconst 1) 164 := ⟨at_163, rfl⟩
theorem D0_164 : In code 164 2 (.lload 20) 166 := ⟨at_164, rfl⟩
theorem D0_166 : In code 166 2 (.lload 6) 168 := ⟨at_166, rfl⟩
theorem D0_168 : In code 168 3 (.invokevirtual 33) 171 := ⟨at_168, rfl⟩
theorem D0_171 : In code 171 2 (.iload 17) 173 := ⟨at_171, rfl⟩
theorem D0_173 : In code 173 1 (.iconst 2) 174 := ⟨at_173, rfl⟩
theorem D0_174 : Jm code 174 (.if_icmp .le) 177 193 := ⟨19, at_174, rfl, by decide, by decide⟩
theorem D0_177 : In code 177 2 (.aload 24) 179 := ⟨at_177, rfl⟩
theorem D0_179 : In code 179 2 (.aload 15) 181 := ⟨at_179, rfl⟩
theorem D0_181 : In code 181 1 (.iconst 2) 182 := ⟨at_181, rfl⟩
theorem D0_182 : In code 182 1 (.laload) 183 := ⟨at_182, rfl⟩
theorem D0_183 : In code 183 3 (.ldc2_w 37) 186 := ⟨at_183, rfl⟩
theorem D0_186 : In code 186 2 (.lload 22) 188 := ⟨at_186, rfl⟩
theorem D0_188 : In code 188 2 (.lload 6) 190 := ⟨at_188, rfl⟩
theorem D0_190 : In code 190 3 (.invokevirtual 33) 193 := ⟨at_190, rfl⟩
theorem D0_193 : In code 193 2 (.iload 17) 195 := ⟨at_193, rfl⟩
theorem D0_195 : In code 195 2 (.istore 25) 197 := ⟨at_195, rfl⟩
theorem D0_197 : In code 197 2 (.iload 8) 199 := ⟨at_197, rfl⟩
theorem D0_199 : In code 199 2 (.bipush 32) 201 := ⟨at_199, rfl⟩
theorem D0_201 : In code 201 1 (.iand) 202 := ⟨at_201, rfl⟩
theorem D0_202 : Jm code 202 (.ifCond .eq) 205 225 := ⟨23, at_202, rfl, by decide, by decide⟩
theorem D0_205 : In code 205 1 (.iconst 1) 206 := ⟨at_205, rfl⟩
theorem D0_206 : In code 206 2 (.iload 8) 208 := ⟨at_206, rfl⟩
theorem D0_208 : In code 208 1 (.iconst 3) 209 := ⟨at_208, rfl⟩
theorem D0_209 : In code 209 1 (.iushr) 210 := ⟨at_209, rfl⟩
theorem D0_210 : In code 210 1 (.iconst 3) 211 := ⟨at_210, rfl⟩
theorem D0_211 : In code 211 1 (.iand) 212 := ⟨at_211, rfl⟩
theorem D0_212 : In code 212 2 (.iload 17) 214 := ⟨at_212, rfl⟩
theorem D0_214 : In code 214 1 (.irem) 215 := ⟨at_214, rfl⟩
theorem D0_215 : In code 215 1 (.iadd) 216 := ⟨at_215, rfl⟩
theorem D0_216 : In code 216 2 (.istore 25) 218 := ⟨at_216, rfl⟩
theorem D0_218 : In code 218 2 (.aload 24) 220 := ⟨at_218, rfl⟩
theorem D0_220 : In code 220 2 (.iload 25) 222 := ⟨at_220, rfl⟩
theorem D0_222 : In code 222 3 (.invokevirtual 39) 225 := ⟨at_222, rfl⟩
theorem D0_225 : In code 225 2 (.aload 24) 227 := ⟨at_225, rfl⟩
theorem D0_227 : In code 227 1 (.iconst 0) 228 := ⟨at_227, rfl⟩
theorem D0_228 : In code 228 3 (.invokevirtual 43) 231 := ⟨at_228, rfl⟩
theorem D0_231 : In code 231 2 (.lload 18) 233 := ⟨at_231, rfl⟩
theorem D0_233 : In code 233 1 (.lcmp) 234 := ⟨at_233, rfl⟩
theorem D0_234 : Jm code 234 (.ifCond .ne) 237 241 := ⟨7, at_234, rfl, by decide, by decide⟩
theorem D0_237 : In code 237 1 (.iconst 1) 238 := ⟨at_237, rfl⟩
theorem D0_238 : Jm code 238 .goto 241 242 := ⟨4, at_238, rfl, by decide, by decide⟩
theorem D0_242 : In code 242 2 (.istore 26) 244 := ⟨at_242, rfl⟩
theorem D0_244 : In code 244 2 (.iload 25) 246 := ⟨at_244, rfl⟩
theorem D0_246 : In code 246 1 (.iconst 1) 247 := ⟨at_246, rfl⟩
theorem D0_247 : Jm code 247 (.if_icmp .le) 250 274 := ⟨27, at_247, rfl, by decide, by decide⟩
theorem D0_250 : In code 250 2 (.iload 26) 252 := ⟨at_250, rfl⟩
theorem D0_252 : Jm code 252 (.ifCond .eq) 255 271 := ⟨19, at_252, rfl, by decide, by decide⟩
theorem D0_255 : In code 255 2 (.aload 24) 257 := ⟨at_255, rfl⟩
theorem D0_257 : In code 257 1 (.iconst 1) 258 := ⟨at_257, rfl⟩
theorem D0_258 : In code 258 3 (.invokevirtual 43) 261 := ⟨at_258, rfl⟩
theorem D0_261 : In code 261 2 (.lload 20) 263 := ⟨at_261, rfl⟩
theorem D0_263 : In code 263 1 (.lcmp) 264 := ⟨at_263, rfl⟩
theorem D0_264 : Jm code 264 (.ifCond .ne) 267 271 := ⟨7, at_264, rfl, by decide, by decide⟩
theorem D0_267 : In code 267 1 (.iconst 1) 268 := ⟨at_267, rfl⟩
theorem D0_268 : Jm code 268 .goto 271 272 := ⟨4, at_268, rfl, by decide, by decide⟩
theorem D0_272 : In code 272 2 (.istore 26) 274 := ⟨at_272, rfl⟩
theorem D0_274 : In code 274 2 (.iload 25) 276 := ⟨at_274, rfl⟩
theorem D0_276 : In code 276 1 (.iconst 2) 277 := ⟨at_276, rfl⟩
theorem D0_277 : Jm code 277 (.if_icmp .le) 280 304 := ⟨27, at_277, rfl, by decide, by decide⟩
theorem D0_280 : In code 280 2 (.iload 26) 282 := ⟨at_280, rfl⟩
theorem D0_282 : Jm code 282 (.ifCond .eq) 285 301 := ⟨19, at_282, rfl, by decide, by decide⟩
theorem D0_285 : In code 285 2 (.aload 24) 287 := ⟨at_285, rfl⟩
theorem D0_287 : In code 287 1 (.iconst 2) 288 := ⟨at_287, rfl⟩
theorem D0_288 : In code 288 3 (.invokevirtual 43) 291 := ⟨at_288, rfl⟩
theorem D0_291 : In code 291 2 (.lload 22) 293 := ⟨at_291, rfl⟩
theorem D0_293 : In code 293 1 (.lcmp) 294 := ⟨at_293, rfl⟩
theorem D0_294 : Jm code 294 (.ifCond .ne) 297 301 := ⟨7, at_294, rfl, by decide, by decide⟩
theorem D0_297 : In code 297 1 (.iconst 1) 298 := ⟨at_297, rfl⟩
theorem D0_298 : Jm code 298 .goto 301 302 := ⟨4, at_298, rfl, by decide, by decide⟩
theorem D0_302 : In code 302 2 (.istore 26) 304 := ⟨at_302, rfl⟩
theorem D0_304 : In code 304 2 (.iload 26) 306 := ⟨at_304, rfl⟩
theorem D0_306 : In code 306 1 (.ireturn) 307 := ⟨at_306, rfl⟩
theorem D1_0 : In jdk_29_method_70_code 0 1 (.lload_n 0) 1 := ⟨by decide +kernel, rfl⟩
theorem D1_1 : In jdk_29_method_70_code 1 1 (.lload_n 2) 2 := ⟨by decide +kernel, rfl⟩
theorem D1_2 : In jdk_29_method_70_code 2 1 (.lcmp) 3 := ⟨by decide +kernel, rfl⟩
theorem D1_3 : Jm jdk_29_method_70_code 3 (.ifCond .gt) 6 10 := ⟨7, by decide +kernel, rfl, by decide, by decide⟩
theorem D1_6 : In jdk_29_method_70_code 6 1 (.lload_n 0) 7 := ⟨by decide +kernel, rfl⟩
theorem D1_7 : Jm jdk_29_method_70_code 7 .goto 10 11 := ⟨4, by decide +kernel, rfl, by decide, by decide⟩
theorem D1_10 : In jdk_29_method_70_code 10 1 (.lload_n 2) 11 := ⟨by decide +kernel, rfl⟩
theorem D1_11 : In jdk_29_method_70_code 11 1 (.lreturn) 12 := ⟨by decide +kernel, rfl⟩
theorem D2_0 : In jdk_29_method_66_code 0 1 (.lload_n 0) 1 := ⟨by decide +kernel, rfl⟩
theorem D2_1 : In jdk_29_method_66_code 1 1 (.lload_n 2) 2 := ⟨by decide +kernel, rfl⟩
theorem D2_2 : In jdk_29_method_66_code 2 1 (.lcmp) 3 := ⟨by decide +kernel, rfl⟩
theorem D2_3 : Jm jdk_29_method_66_code 3 (.ifCond .lt) 6 10 := ⟨7, by decide +kernel, rfl, by decide, by decide⟩
theorem D2_6 : In jdk_29_method_66_code 6 1 (.lload_n 0) 7 := ⟨by decide +kernel, rfl⟩
theorem D2_7 : Jm jdk_29_method_66_code 7 .goto 10 11 := ⟨4, by decide +kernel, rfl, by decide, by decide⟩
theorem D2_10 : In jdk_29_method_66_code 10 1 (.lload_n 2) 11 := ⟨by decide +kernel, rfl⟩
theorem D2_11 : In jdk_29_method_66_code 11 1 (.lreturn) 12 := ⟨by decide +kernel, rfl⟩
theorem D3_0 : In method_2_code 0 1 (.iload_n 1) 1 := ⟨by decide +kernel, rfl⟩
theorem D3_1 : In method_2_code 1 1 (.iload_n 2) 2 := ⟨by decide +kernel, rfl⟩
theorem D3_2 : Jm method_2_code 2 (.if_icmp .lt) 5 7 := ⟨5, by decide +kernel, rfl, by decide, by decide⟩
theorem D3_5 : In method_2_code 5 1 (.lconst 0) 6 := ⟨by decide +kernel, rfl⟩
theorem D3_6 : In method_2_code 6 1 (.lreturn) 7 := ⟨by decide +kernel, rfl⟩
theorem D3_7 : In method_2_code 7 2 (.lload 4) 9 := ⟨by decide +kernel, rfl⟩
theorem D3_9 : In method_2_code 9 2 (.bipush 6) 11 := ⟨by decide +kernel, rfl⟩
theorem D3_11 : In method_2_code 11 1 (.iload_n 1) 12 := ⟨by decide +kernel, rfl⟩
theorem D3_12 : In method_2_code 12 1 (.imul) 13 := ⟨by decide +kernel, rfl⟩
theorem D3_13 : In method_2_code 13 1 (.lushr) 14 := ⟨by decide +kernel, rfl⟩
theorem D3_14 : In method_2_code 14 3 (.ldc2_w 7) 17 := ⟨by decide +kernel, rfl⟩
theorem D3_17 : In method_2_code 17 1 (.land) 18 := ⟨by decide +kernel, rfl⟩
theorem D3_18 : In method_2_code 18 1 (.l2i) 19 := ⟨by decide +kernel, rfl⟩
theorem D3_19 : In method_2_code 19 2 (.istore 6) 21 := ⟨by decide +kernel, rfl⟩
theorem D3_21 : In method_2_code 21 1 (.iload_n 1) 22 := ⟨by decide +kernel, rfl⟩
theorem D3_22 : In method_2_code 22 1 (.iload_n 2) 23 := ⟨by decide +kernel, rfl⟩
theorem D3_23 : In method_2_code 23 1 (.iconst 1) 24 := ⟨by decide +kernel, rfl⟩
theorem D3_24 : In method_2_code 24 1 (.isub) 25 := ⟨by decide +kernel, rfl⟩
theorem D3_25 : Jm method_2_code 25 (.if_icmp .ne) 28 43 := ⟨18, by decide +kernel, rfl, by decide, by decide⟩
theorem D3_28 : In method_2_code 28 1 (.aload_n 0) 29 := ⟨by decide +kernel, rfl⟩
theorem D3_29 : In method_2_code 29 1 (.iload_n 1) 30 := ⟨by decide +kernel, rfl⟩
theorem D3_30 : In method_2_code 30 1 (.laload) 31 := ⟨by decide +kernel, rfl⟩
theorem D3_31 : In method_2_code 31 3 (.ldc2_w 11) 34 := ⟨by decide +kernel, rfl⟩
theorem D3_34 : In method_2_code 34 1 (.aload_n 0) 35 := ⟨by decide +kernel, rfl⟩
theorem D3_35 : In method_2_code 35 1 (.iload_n 1) 36 := ⟨by decide +kernel, rfl⟩
theorem D3_36 : In method_2_code 36 1 (.laload) 37 := ⟨by decide +kernel, rfl⟩
theorem D3_37 : In method_2_code 37 1 (.lsub) 38 := ⟨by decide +kernel, rfl⟩
theorem D3_38 : In method_2_code 38 2 (.iload 6) 40 := ⟨by decide +kernel, rfl⟩
theorem D3_40 : In method_2_code 40 1 (.lushr) 41 := ⟨by decide +kernel, rfl⟩
theorem D3_41 : In method_2_code 41 1 (.ladd) 42 := ⟨by decide +kernel, rfl⟩
theorem D3_42 : In method_2_code 42 1 (.lreturn) 43 := ⟨by decide +kernel, rfl⟩
theorem D3_43 : In method_2_code 43 1 (.iload_n 3) 44 := ⟨by decide +kernel, rfl⟩
theorem D3_44 : Jm method_2_code 44 (.ifCond .eq) 47 64 := ⟨20, by decide +kernel, rfl, by decide, by decide⟩
theorem D3_47 : In method_2_code 47 1 (.aload_n 0) 48 := ⟨by decide +kernel, rfl⟩
theorem D3_48 : In method_2_code 48 1 (.iload_n 1) 49 := ⟨by decide +kernel, rfl⟩
theorem D3_49 : In method_2_code 49 1 (.laload) 50 := ⟨by decide +kernel, rfl⟩
theorem D3_50 : In method_2_code 50 1 (.aload_n 0) 51 := ⟨by decide +kernel, rfl⟩
theorem D3_51 : In method_2_code 51 1 (.iload_n 1) 52 := ⟨by decide +kernel, rfl⟩
theorem D3_52 : In method_2_code 52 1 (.iconst 1) 53 := ⟨by decide +kernel, rfl⟩
theorem D3_53 : In method_2_code 53 1 (.iadd) 54 := ⟨by decide +kernel, rfl⟩
theorem D3_54 : In method_2_code 54 1 (.laload) 55 := ⟨by decide +kernel, rfl⟩
theorem D3_55 : In method_2_code 55 1 (.aload_n 0) 56 := ⟨by decide +kernel, rfl⟩
theorem D3_56 : In method_2_code 56 1 (.iload_n 1) 57 := ⟨by decide +kernel, rfl⟩
theorem D3_57 : In method_2_code 57 1 (.laload) 58 := ⟨by decide +kernel, rfl⟩
theorem D3_58 : In method_2_code 58 1 (.lsub) 59 := ⟨by decide +kernel, rfl⟩
theorem D3_59 : In method_2_code 59 2 (.iload 6) 61 := ⟨by decide +kernel, rfl⟩
theorem D3_61 : In method_2_code 61 1 (.lushr) 62 := ⟨by decide +kernel, rfl⟩
theorem D3_62 : In method_2_code 62 1 (.ladd) 63 := ⟨by decide +kernel, rfl⟩
theorem D3_63 : In method_2_code 63 1 (.lreturn) 64 := ⟨by decide +kernel, rfl⟩
theorem D3_64 : In method_2_code 64 1 (.aload_n 0) 65 := ⟨by decide +kernel, rfl⟩
theorem D3_65 : In method_2_code 65 1 (.iload_n 1) 66 := ⟨by decide +kernel, rfl⟩
theorem D3_66 : In method_2_code 66 1 (.iconst 1) 67 := ⟨by decide +kernel, rfl⟩
theorem D3_67 : In method_2_code 67 1 (.iadd) 68 := ⟨by decide +kernel, rfl⟩
theorem D3_68 : In method_2_code 68 1 (.laload) 69 := ⟨by decide +kernel, rfl⟩
theorem D3_69 : In method_2_code 69 1 (.lreturn) 70 := ⟨by decide +kernel, rfl⟩
theorem D4_0 : In prog_45_method_1_code 0 1 (.aload_n 0) 1 := ⟨by decide +kernel, rfl⟩
theorem D4_1 : In prog_45_method_1_code 1 3 (.invokespecial 1) 4 := ⟨by decide +kernel, rfl⟩
theorem D4_4 : In prog_45_method_1_code 4 1 (.aload_n 0) 5 := ⟨by decide +kernel, rfl⟩
theorem D4_5 : In prog_45_method_1_code 5 2 (.bipush 64) 7 := ⟨by decide +kernel, rfl⟩
theorem D4_7 : In prog_45_method_1_code 7 2 (.newarray .long) 9 := ⟨by decide +kernel, rfl⟩
theorem D4_9 : In prog_45_method_1_code 9 3 (.putfield 9) 12 := ⟨by decide +kernel, rfl⟩
theorem D4_12 : In prog_45_method_1_code 12 1 (.aload_n 0) 13 := ⟨by decide +kernel, rfl⟩
theorem D4_13 : In prog_45_method_1_code 13 2 (.bipush 64) 15 := ⟨by decide +kernel, rfl⟩
theorem D4_15 : In prog_45_method_1_code 15 2 (.newarray .long) 17 := ⟨by decide +kernel, rfl⟩
theorem D4_17 : In prog_45_method_1_code 17 3 (.putfield 13) 20 := ⟨by decide +kernel, rfl⟩
theorem D4_20 : In prog_45_method_1_code 20 1 (.aload_n 0) 21 := ⟨by decide +kernel, rfl⟩
theorem D4_21 : In prog_45_method_1_code 21 2 (.bipush 64) 23 := ⟨by decide +kernel, rfl⟩
theorem D4_23 : In prog_45_method_1_code 23 2 (.newarray .long) 25 := ⟨by decide +kernel, rfl⟩
theorem D4_25 : In prog_45_method_1_code 25 3 (.putfield 16) 28 := ⟨by decide +kernel, rfl⟩
theorem D4_28 : In prog_45_method_1_code 28 1 (.aload_n 0) 29 := ⟨by decide +kernel, rfl⟩
theorem D4_29 : In prog_45_method_1_code 29 1 (.iload_n 1) 30 := ⟨by decide +kernel, rfl⟩
theorem D4_30 : In prog_45_method_1_code 30 3 (.putfield 19) 33 := ⟨by decide +kernel, rfl⟩
theorem D4_33 : In prog_45_method_1_code 33 1 (.aload_n 0) 34 := ⟨by decide +kernel, rfl⟩
theorem D4_34 : In prog_45_method_1_code 34 1 (.iload_n 1) 35 := ⟨by decide +kernel, rfl⟩
theorem D4_35 : Jm prog_45_method_1_code 35 (.ifCond .eq) 38 45 := ⟨10, by decide +kernel, rfl, by decide, by decide⟩
theorem D4_38 : In prog_45_method_1_code 38 2 (.bipush 64) 40 := ⟨by decide +kernel, rfl⟩
theorem D4_40 : In prog_45_method_1_code 40 2 (.newarray .long) 42 := ⟨by decide +kernel, rfl⟩
theorem D4_42 : Jm prog_45_method_1_code 42 .goto 45 46 := ⟨4, by decide +kernel, rfl, by decide, by decide⟩
theorem D4_45 : In prog_45_method_1_code 45 1 (.aconst_null) 46 := ⟨by decide +kernel, rfl⟩
theorem D4_46 : In prog_45_method_1_code 46 3 (.putfield 23) 49 := ⟨by decide +kernel, rfl⟩
theorem D4_49 : In prog_45_method_1_code 49 1 (.return_) 50 := ⟨by decide +kernel, rfl⟩
theorem D6_0 : In prog_45_method_7_code 0 1 (.aload_n 0) 1 := ⟨by decide +kernel, rfl⟩
theorem D6_1 : In prog_45_method_7_code 1 3 (.getfield 26) 4 := ⟨by decide +kernel, rfl⟩
theorem D6_4 : In prog_45_method_7_code 4 1 (.aload_n 0) 5 := ⟨by decide +kernel, rfl⟩
theorem D6_5 : In prog_45_method_7_code 5 3 (.getfield 9) 8 := ⟨by decide +kernel, rfl⟩
theorem D6_8 : In prog_45_method_7_code 8 1 (.arraylength) 9 := ⟨by decide +kernel, rfl⟩
theorem D6_9 : Jm prog_45_method_7_code 9 (.if_icmp .ne) 12 87 := ⟨78, by decide +kernel, rfl, by decide, by decide⟩
theorem D6_87 : In prog_45_method_7_code 87 1 (.aload_n 0) 88 := ⟨by decide +kernel, rfl⟩
theorem D6_88 : In prog_45_method_7_code 88 3 (.getfield 9) 91 := ⟨by decide +kernel, rfl⟩
theorem D6_91 : In prog_45_method_7_code 91 1 (.aload_n 0) 92 := ⟨by decide +kernel, rfl⟩
theorem D6_92 : In prog_45_method_7_code 92 3 (.getfield 26) 95 := ⟨by decide +kernel, rfl⟩
theorem D6_95 : In prog_45_method_7_code 95 1 (.lload_n 1) 96 := ⟨by decide +kernel, rfl⟩
theorem D6_96 : In prog_45_method_7_code 96 1 (.lastore) 97 := ⟨by decide +kernel, rfl⟩
theorem D6_97 : In prog_45_method_7_code 97 1 (.aload_n 0) 98 := ⟨by decide +kernel, rfl⟩
theorem D6_98 : In prog_45_method_7_code 98 3 (.getfield 13) 101 := ⟨by decide +kernel, rfl⟩
theorem D6_101 : In prog_45_method_7_code 101 1 (.aload_n 0) 102 := ⟨by decide +kernel, rfl⟩
theorem D6_102 : In prog_45_method_7_code 102 3 (.getfield 26) 105 := ⟨by decide +kernel, rfl⟩
theorem D6_105 : In prog_45_method_7_code 105 1 (.lload_n 3) 106 := ⟨by decide +kernel, rfl⟩
theorem D6_106 : In prog_45_method_7_code 106 1 (.lastore) 107 := ⟨by decide +kernel, rfl⟩
theorem D6_107 : In prog_45_method_7_code 107 1 (.aload_n 0) 108 := ⟨by decide +kernel, rfl⟩
theorem D6_108 : In prog_45_method_7_code 108 3 (.getfield 16) 111 := ⟨by decide +kernel, rfl⟩
theorem D6_111 : In prog_45_method_7_code 111 1 (.aload_n 0) 112 := ⟨by decide +kernel, rfl⟩
theorem D6_112 : In prog_45_method_7_code 112 3 (.getfield 26) 115 := ⟨by decide +kernel, rfl⟩
theorem D6_115 : In prog_45_method_7_code 115 1 (.aload_n 0) 116 := ⟨by decide +kernel, rfl⟩
theorem D6_116 : In prog_45_method_7_code 116 3 (.getfield 26) 119 := ⟨by decide +kernel, rfl⟩
theorem D6_119 : Jm prog_45_method_7_code 119 (.ifCond .ne) 122 127 := ⟨8, by decide +kernel, rfl, by decide, by decide⟩
theorem D6_122 : In prog_45_method_7_code 122 2 (.lload 7) 124 := ⟨by decide +kernel, rfl⟩
theorem D6_124 : Jm prog_45_method_7_code 124 .goto 127 143 := ⟨19, by decide +kernel, rfl, by decide, by decide⟩
theorem D6_127 : In prog_45_method_7_code 127 1 (.aload_n 0) 128 := ⟨by decide +kernel, rfl⟩
theorem D6_128 : In prog_45_method_7_code 128 3 (.getfield 16) 131 := ⟨by decide +kernel, rfl⟩
theorem D6_131 : In prog_45_method_7_code 131 1 (.aload_n 0) 132 := ⟨by decide +kernel, rfl⟩
theorem D6_132 : In prog_45_method_7_code 132 3 (.getfield 26) 135 := ⟨by decide +kernel, rfl⟩
theorem D6_135 : In prog_45_method_7_code 135 1 (.iconst 1) 136 := ⟨by decide +kernel, rfl⟩
theorem D6_136 : In prog_45_method_7_code 136 1 (.isub) 137 := ⟨by decide +kernel, rfl⟩
theorem D6_137 : In prog_45_method_7_code 137 1 (.laload) 138 := ⟨by decide +kernel, rfl⟩
theorem D6_138 : In prog_45_method_7_code 138 2 (.lload 7) 140 := ⟨by decide +kernel, rfl⟩
theorem D6_140 : In prog_45_method_7_code 140 3 (.invokestatic 40) 143 := ⟨by decide +kernel, rfl⟩
theorem D6_143 : In prog_45_method_7_code 143 1 (.lastore) 144 := ⟨by decide +kernel, rfl⟩
theorem D6_144 : In prog_45_method_7_code 144 1 (.aload_n 0) 145 := ⟨by decide +kernel, rfl⟩
theorem D6_145 : In prog_45_method_7_code 145 3 (.getfield 19) 148 := ⟨by decide +kernel, rfl⟩
theorem D6_148 : Jm prog_45_method_7_code 148 (.ifCond .eq) 151 162 := ⟨14, by decide +kernel, rfl, by decide, by decide⟩
theorem D6_151 : In prog_45_method_7_code 151 1 (.aload_n 0) 152 := ⟨by decide +kernel, rfl⟩
theorem D6_152 : In prog_45_method_7_code 152 3 (.getfield 23) 155 := ⟨by decide +kernel, rfl⟩
theorem D6_155 : In prog_45_method_7_code 155 1 (.aload_n 0) 156 := ⟨by decide +kernel, rfl⟩
theorem D6_156 : In prog_45_method_7_code 156 3 (.getfield 26) 159 := ⟨by decide +kernel, rfl⟩
theorem D6_159 : In prog_45_method_7_code 159 2 (.lload 5) 161 := ⟨by decide +kernel, rfl⟩
theorem D6_161 : In prog_45_method_7_code 161 1 (.lastore) 162 := ⟨by decide +kernel, rfl⟩
theorem D6_162 : In prog_45_method_7_code 162 1 (.aload_n 0) 163 := ⟨by decide +kernel, rfl⟩
theorem D6_163 : In prog_45_method_7_code 163 1 (.dup) 164 := ⟨by decide +kernel, rfl⟩
theorem D6_164 : In prog_45_method_7_code 164 3 (.getfield 26) 167 := ⟨by decide +kernel, rfl⟩
theorem D6_167 : In prog_45_method_7_code 167 1 (.iconst 1) 168 := ⟨by decide +kernel, rfl⟩
theorem D6_168 : In prog_45_method_7_code 168 1 (.iadd) 169 := ⟨by decide +kernel, rfl⟩
theorem D6_169 : In prog_45_method_7_code 169 3 (.putfield 26) 172 := ⟨by decide +kernel, rfl⟩
theorem D6_172 : In prog_45_method_7_code 172 1 (.aload_n 0) 173 := ⟨by decide +kernel, rfl⟩
theorem D6_173 : In prog_45_method_7_code 173 2 (.lload 5) 175 := ⟨by decide +kernel, rfl⟩
theorem D6_175 : In prog_45_method_7_code 175 3 (.putfield 30) 178 := ⟨by decide +kernel, rfl⟩
theorem D6_178 : In prog_45_method_7_code 178 1 (.return_) 179 := ⟨by decide +kernel, rfl⟩
theorem D7_0 : In prog_45_method_6_code 0 1 (.aload_n 0) 1 := ⟨by decide +kernel, rfl⟩
theorem D7_1 : In prog_45_method_6_code 1 3 (.getfield 19) 4 := ⟨by decide +kernel, rfl⟩
theorem D7_4 : Jm prog_45_method_6_code 4 (.ifCond .eq) 7 14 := ⟨10, by decide +kernel, rfl, by decide, by decide⟩
theorem D7_7 : In prog_45_method_6_code 7 1 (.aload_n 0) 8 := ⟨by decide +kernel, rfl⟩
theorem D7_8 : In prog_45_method_6_code 8 3 (.getfield 23) 11 := ⟨by decide +kernel, rfl⟩
theorem D7_11 : In prog_45_method_6_code 11 1 (.iload_n 1) 12 := ⟨by decide +kernel, rfl⟩
theorem D7_12 : In prog_45_method_6_code 12 1 (.laload) 13 := ⟨by decide +kernel, rfl⟩
theorem D7_13 : In prog_45_method_6_code 13 1 (.lreturn) 14 := ⟨by decide +kernel, rfl⟩
theorem D7_14 : In prog_45_method_6_code 14 1 (.iload_n 1) 15 := ⟨by decide +kernel, rfl⟩
theorem D7_15 : In prog_45_method_6_code 15 1 (.iconst 1) 16 := ⟨by decide +kernel, rfl⟩
theorem D7_16 : In prog_45_method_6_code 16 1 (.iadd) 17 := ⟨by decide +kernel, rfl⟩
theorem D7_17 : In prog_45_method_6_code 17 1 (.aload_n 0) 18 := ⟨by decide +kernel, rfl⟩
theorem D7_18 : In prog_45_method_6_code 18 3 (.getfield 26) 21 := ⟨by decide +kernel, rfl⟩
theorem D7_21 : Jm prog_45_method_6_code 21 (.if_icmp .ne) 24 31 := ⟨10, by decide +kernel, rfl, by decide, by decide⟩
theorem D7_24 : In prog_45_method_6_code 24 1 (.aload_n 0) 25 := ⟨by decide +kernel, rfl⟩
theorem D7_25 : In prog_45_method_6_code 25 3 (.getfield 30) 28 := ⟨by decide +kernel, rfl⟩
theorem D7_28 : Jm prog_45_method_6_code 28 .goto 31 39 := ⟨11, by decide +kernel, rfl, by decide, by decide⟩
theorem D7_31 : In prog_45_method_6_code 31 1 (.aload_n 0) 32 := ⟨by decide +kernel, rfl⟩
theorem D7_32 : In prog_45_method_6_code 32 3 (.getfield 9) 35 := ⟨by decide +kernel, rfl⟩
theorem D7_35 : In prog_45_method_6_code 35 1 (.iload_n 1) 36 := ⟨by decide +kernel, rfl⟩
theorem D7_36 : In prog_45_method_6_code 36 1 (.iconst 1) 37 := ⟨by decide +kernel, rfl⟩
theorem D7_37 : In prog_45_method_6_code 37 1 (.iadd) 38 := ⟨by decide +kernel, rfl⟩
theorem D7_38 : In prog_45_method_6_code 38 1 (.laload) 39 := ⟨by decide +kernel, rfl⟩
theorem D7_39 : In prog_45_method_6_code 39 1 (.lreturn) 40 := ⟨by decide +kernel, rfl⟩
theorem D8_0 : In prog_45_method_8_code 0 1 (.aload_n 0) 1 := ⟨by decide +kernel, rfl⟩
theorem D8_1 : In prog_45_method_8_code 1 1 (.iload_n 1) 2 := ⟨by decide +kernel, rfl⟩
theorem D8_2 : Jm prog_45_method_8_code 2 (.ifCond .ne) 5 14 := ⟨12, by decide +kernel, rfl, by decide, by decide⟩
theorem D8_14 : In prog_45_method_8_code 14 1 (.aload_n 0) 15 := ⟨by decide +kernel, rfl⟩
theorem D8_15 : In prog_45_method_8_code 15 1 (.iload_n 1) 16 := ⟨by decide +kernel, rfl⟩
theorem D8_16 : In prog_45_method_8_code 16 1 (.iconst 1) 17 := ⟨by decide +kernel, rfl⟩
theorem D8_17 : In prog_45_method_8_code 17 1 (.isub) 18 := ⟨by decide +kernel, rfl⟩
theorem D8_18 : In prog_45_method_8_code 18 3 (.invokevirtual 46) 21 := ⟨by decide +kernel, rfl⟩
theorem D8_21 : In prog_45_method_8_code 21 3 (.putfield 30) 24 := ⟨by decide +kernel, rfl⟩
theorem D8_24 : In prog_45_method_8_code 24 1 (.aload_n 0) 25 := ⟨by decide +kernel, rfl⟩
theorem D8_25 : In prog_45_method_8_code 25 1 (.iload_n 1) 26 := ⟨by decide +kernel, rfl⟩
theorem D8_26 : In prog_45_method_8_code 26 3 (.putfield 26) 29 := ⟨by decide +kernel, rfl⟩
theorem D8_29 : In prog_45_method_8_code 29 1 (.return_) 30 := ⟨by decide +kernel, rfl⟩
theorem pd_0 : parseMethodDescriptor "(JJ)J" = some ⟨[.long, .long], some .long⟩ := by decide +kernel
theorem pd_1 : parseMethodDescriptor "(I)J" = some ⟨[.int], some .long⟩ := by decide +kernel
theorem pd_2 : parseMethodDescriptor "([JIIZJ)J" = some ⟨[(.array .long), .int, .int, .boolean, .long], some .long⟩ := by decide +kernel
theorem pd_3 : parseMethodDescriptor "(Z)V" = some ⟨[.boolean], none⟩ := by decide +kernel
theorem pd_4 : parseMethodDescriptor "(JJJJ)V" = some ⟨[.long, .long, .long, .long], none⟩ := by decide +kernel
theorem pd_5 : parseMethodDescriptor "(I)V" = some ⟨[.int], none⟩ := by decide +kernel
theorem pn_0 : plainName "com/example/offset/offset/log/BatchTable" = true := by first | (simp [plainName, overriddenIn]; done) | decide +kernel
theorem pn_1 : plainName "com/example/offset/offset/log/BatchTableNextOffsetPinLaw" = true := by first | (simp [plainName, overriddenIn]; done) | decide +kernel
def RB (Z : State) (h : Heap) (a : Addr) (f0 : Value) (f1 : Value) (f2 : Value) (f3 : Int32) (f4 : Value) (f5 : Int32) (f6 : Int64) : Prop := Exa Z h a "com/example/offset/offset/log/BatchTable" ∧ Fld Z h a "com/example/offset/offset/log/BatchTable" "offsets" "[J" f0 ∧ Fld Z h a "com/example/offset/offset/log/BatchTable" "positions" "[J" f1 ∧ Fld Z h a "com/example/offset/offset/log/BatchTable" "maxTimestampsUpTo" "[J" f2 ∧ Fld Z h a "com/example/offset/offset/log/BatchTable" "gaps" "Z" (.int f3) ∧ Fld Z h a "com/example/offset/offset/log/BatchTable" "ends" "[J" f4 ∧ Fld Z h a "com/example/offset/offset/log/BatchTable" "count" "I" (.int f5) ∧ Fld Z h a "com/example/offset/offset/log/BatchTable" "lastEnd" "J" (.long f6)
theorem RB.lt {Z : State} {h : Heap} {a : Addr} {f0 : Value} {f1 : Value} {f2 : Value} {f3 : Int32} {f4 : Value} {f5 : Int32} {f6 : Int64} (H : RB Z h a f0 f1 f2 f3 f4 f5 f6) : a < h.size := H.1.lt
theorem RB.ext {Z : State} {h h' : Heap} {a : Addr} {f0 : Value} {f1 : Value} {f2 : Value} {f3 : Int32} {f4 : Value} {f5 : Int32} {f6 : Int64} (H : RB Z h a f0 f1 f2 f3 f4 f5 f6) (E : Ext h h') : RB Z h' a f0 f1 f2 f3 f4 f5 f6 := ⟨H.1.ext E, H.2.1.ext E, H.2.2.1.ext E, H.2.2.2.1.ext E, H.2.2.2.2.1.ext E, H.2.2.2.2.2.1.ext E, H.2.2.2.2.2.2.1.ext E, H.2.2.2.2.2.2.2.ext E⟩
theorem RB.keep {Z : State} {h h' : Heap} {a : Addr} {f0 : Value} {f1 : Value} {f2 : Value} {f3 : Int32} {f4 : Value} {f5 : Int32} {f6 : Int64} {ws : List Addr} (H : RB Z h a f0 f1 f2 f3 f4 f5 f6) (K : Keep h h' ws) (q : a ∉ ws) : RB Z h' a f0 f1 f2 f3 f4 f5 f6 := ⟨H.1.keep K, H.2.1.keep K q, H.2.2.1.keep K q, H.2.2.2.1.keep K q, H.2.2.2.2.1.keep K q, H.2.2.2.2.2.1.keep K q, H.2.2.2.2.2.2.1.keep K q, H.2.2.2.2.2.2.2.keep K q⟩
theorem RB.other {Z : State} {h h' : Heap} {a : Addr} {f0 : Value} {f1 : Value} {f2 : Value} {f3 : Int32} {f4 : Value} {f5 : Int32} {f6 : Int64} {b : Addr} {sl : Nat} {v : Value} (H : RB Z h a f0 f1 f2 f3 f4 f5 f6) (W : Wr h h' b sl v) (q : a ≠ b) : RB Z h' a f0 f1 f2 f3 f4 f5 f6 := ⟨H.1.wr W, H.2.1.other W (Or.inl q), H.2.2.1.other W (Or.inl q), H.2.2.2.1.other W (Or.inl q), H.2.2.2.2.1.other W (Or.inl q), H.2.2.2.2.2.1.other W (Or.inl q), H.2.2.2.2.2.2.1.other W (Or.inl q), H.2.2.2.2.2.2.2.other W (Or.inl q)⟩
theorem RB.set_offsets {Z : State} {h h' : Heap} {a : Addr} {f0 : Value} {f1 : Value} {f2 : Value} {f3 : Int32} {f4 : Value} {f5 : Int32} {f6 : Int64} {a0 : Array Value} (hw : ∀ d ∈ tables_1, d.before a0 Z = true) {g : Value} (H : RB Z h a f0 f1 f2 f3 f4 f5 f6) (W : Wr h h' a (Jvm.RoadKit.slotOf Z "com/example/offset/offset/log/BatchTable" "offsets" "[J") g) : RB Z h' a g f1 f2 f3 f4 f5 f6 := ⟨H.1.wr W, H.2.1.same W, H.2.2.1.other W (Or.inr (slot_ne (Or.inl (wd_26 hw)) (Or.inl (wd_24 hw)) (by decide) (t := (.array .long)) (t' := (.array .long)) (by decide) (by decide))), H.2.2.2.1.other W (Or.inr (slot_ne (Or.inl (wd_28 hw)) (Or.inl (wd_24 hw)) (by decide) (t := (.array .long)) (t' := (.array .long)) (by decide) (by decide))), H.2.2.2.2.1.other W (Or.inr (slot_ne (Or.inr (wd_30 hw)) (Or.inl (wd_24 hw)) (by decide) (t := .boolean) (t' := (.array .long)) (by decide) (by decide))), H.2.2.2.2.2.1.other W (Or.inr (slot_ne (Or.inl (wd_32 hw)) (Or.inl (wd_24 hw)) (by decide) (t := (.array .long)) (t' := (.array .long)) (by decide) (by decide))), H.2.2.2.2.2.2.1.other W (Or.inr (slot_ne (Or.inl (wd_39 hw)) (Or.inl (wd_24 hw)) (by decide) (t := .int) (t' := (.array .long)) (by decide) (by decide))), H.2.2.2.2.2.2.2.other W (Or.inr (slot_ne (Or.inl (wd_41 hw)) (Or.inl (wd_24 hw)) (by decide) (t := .long) (t' := (.array .long)) (by decide) (by decide)))⟩
theorem RB.set_positions {Z : State} {h h' : Heap} {a : Addr} {f0 : Value} {f1 : Value} {f2 : Value} {f3 : Int32} {f4 : Value} {f5 : Int32} {f6 : Int64} {a0 : Array Value} (hw : ∀ d ∈ tables_1, d.before a0 Z = true) {g : Value} (H : RB Z h a f0 f1 f2 f3 f4 f5 f6) (W : Wr h h' a (Jvm.RoadKit.slotOf Z "com/example/offset/offset/log/BatchTable" "positions" "[J") g) : RB Z h' a f0 g f2 f3 f4 f5 f6 := ⟨H.1.wr W, H.2.1.other W (Or.inr (slot_ne (Or.inl (wd_24 hw)) (Or.inl (wd_26 hw)) (by decide) (t := (.array .long)) (t' := (.array .long)) (by decide) (by decide))), H.2.2.1.same W, H.2.2.2.1.other W (Or.inr (slot_ne (Or.inl (wd_28 hw)) (Or.inl (wd_26 hw)) (by decide) (t := (.array .long)) (t' := (.array .long)) (by decide) (by decide))), H.2.2.2.2.1.other W (Or.inr (slot_ne (Or.inr (wd_30 hw)) (Or.inl (wd_26 hw)) (by decide) (t := .boolean) (t' := (.array .long)) (by decide) (by decide))), H.2.2.2.2.2.1.other W (Or.inr (slot_ne (Or.inl (wd_32 hw)) (Or.inl (wd_26 hw)) (by decide) (t := (.array .long)) (t' := (.array .long)) (by decide) (by decide))), H.2.2.2.2.2.2.1.other W (Or.inr (slot_ne (Or.inl (wd_39 hw)) (Or.inl (wd_26 hw)) (by decide) (t := .int) (t' := (.array .long)) (by decide) (by decide))), H.2.2.2.2.2.2.2.other W (Or.inr (slot_ne (Or.inl (wd_41 hw)) (Or.inl (wd_26 hw)) (by decide) (t := .long) (t' := (.array .long)) (by decide) (by decide)))⟩
theorem RB.set_maxTimestampsUpTo {Z : State} {h h' : Heap} {a : Addr} {f0 : Value} {f1 : Value} {f2 : Value} {f3 : Int32} {f4 : Value} {f5 : Int32} {f6 : Int64} {a0 : Array Value} (hw : ∀ d ∈ tables_1, d.before a0 Z = true) {g : Value} (H : RB Z h a f0 f1 f2 f3 f4 f5 f6) (W : Wr h h' a (Jvm.RoadKit.slotOf Z "com/example/offset/offset/log/BatchTable" "maxTimestampsUpTo" "[J") g) : RB Z h' a f0 f1 g f3 f4 f5 f6 := ⟨H.1.wr W, H.2.1.other W (Or.inr (slot_ne (Or.inl (wd_24 hw)) (Or.inl (wd_28 hw)) (by decide) (t := (.array .long)) (t' := (.array .long)) (by decide) (by decide))), H.2.2.1.other W (Or.inr (slot_ne (Or.inl (wd_26 hw)) (Or.inl (wd_28 hw)) (by decide) (t := (.array .long)) (t' := (.array .long)) (by decide) (by decide))), H.2.2.2.1.same W, H.2.2.2.2.1.other W (Or.inr (slot_ne (Or.inr (wd_30 hw)) (Or.inl (wd_28 hw)) (by decide) (t := .boolean) (t' := (.array .long)) (by decide) (by decide))), H.2.2.2.2.2.1.other W (Or.inr (slot_ne (Or.inl (wd_32 hw)) (Or.inl (wd_28 hw)) (by decide) (t := (.array .long)) (t' := (.array .long)) (by decide) (by decide))), H.2.2.2.2.2.2.1.other W (Or.inr (slot_ne (Or.inl (wd_39 hw)) (Or.inl (wd_28 hw)) (by decide) (t := .int) (t' := (.array .long)) (by decide) (by decide))), H.2.2.2.2.2.2.2.other W (Or.inr (slot_ne (Or.inl (wd_41 hw)) (Or.inl (wd_28 hw)) (by decide) (t := .long) (t' := (.array .long)) (by decide) (by decide)))⟩
theorem RB.set_gaps {Z : State} {h h' : Heap} {a : Addr} {f0 : Value} {f1 : Value} {f2 : Value} {f3 : Int32} {f4 : Value} {f5 : Int32} {f6 : Int64} {a0 : Array Value} (hw : ∀ d ∈ tables_1, d.before a0 Z = true) {g : Int32} (H : RB Z h a f0 f1 f2 f3 f4 f5 f6) (W : Wr h h' a (Jvm.RoadKit.slotOf Z "com/example/offset/offset/log/BatchTable" "gaps" "Z") (.int g)) : RB Z h' a f0 f1 f2 g f4 f5 f6 := ⟨H.1.wr W, H.2.1.other W (Or.inr (slot_ne (Or.inl (wd_24 hw)) (Or.inr (wd_30 hw)) (by decide) (t := (.array .long)) (t' := .boolean) (by decide) (by decide))), H.2.2.1.other W (Or.inr (slot_ne (Or.inl (wd_26 hw)) (Or.inr (wd_30 hw)) (by decide) (t := (.array .long)) (t' := .boolean) (by decide) (by decide))), H.2.2.2.1.other W (Or.inr (slot_ne (Or.inl (wd_28 hw)) (Or.inr (wd_30 hw)) (by decide) (t := (.array .long)) (t' := .boolean) (by decide) (by decide))), H.2.2.2.2.1.same W, H.2.2.2.2.2.1.other W (Or.inr (slot_ne (Or.inl (wd_32 hw)) (Or.inr (wd_30 hw)) (by decide) (t := (.array .long)) (t' := .boolean) (by decide) (by decide))), H.2.2.2.2.2.2.1.other W (Or.inr (slot_ne (Or.inl (wd_39 hw)) (Or.inr (wd_30 hw)) (by decide) (t := .int) (t' := .boolean) (by decide) (by decide))), H.2.2.2.2.2.2.2.other W (Or.inr (slot_ne (Or.inl (wd_41 hw)) (Or.inr (wd_30 hw)) (by decide) (t := .long) (t' := .boolean) (by decide) (by decide)))⟩
theorem RB.set_ends {Z : State} {h h' : Heap} {a : Addr} {f0 : Value} {f1 : Value} {f2 : Value} {f3 : Int32} {f4 : Value} {f5 : Int32} {f6 : Int64} {a0 : Array Value} (hw : ∀ d ∈ tables_1, d.before a0 Z = true) {g : Value} (H : RB Z h a f0 f1 f2 f3 f4 f5 f6) (W : Wr h h' a (Jvm.RoadKit.slotOf Z "com/example/offset/offset/log/BatchTable" "ends" "[J") g) : RB Z h' a f0 f1 f2 f3 g f5 f6 := ⟨H.1.wr W, H.2.1.other W (Or.inr (slot_ne (Or.inl (wd_24 hw)) (Or.inl (wd_32 hw)) (by decide) (t := (.array .long)) (t' := (.array .long)) (by decide) (by decide))), H.2.2.1.other W (Or.inr (slot_ne (Or.inl (wd_26 hw)) (Or.inl (wd_32 hw)) (by decide) (t := (.array .long)) (t' := (.array .long)) (by decide) (by decide))), H.2.2.2.1.other W (Or.inr (slot_ne (Or.inl (wd_28 hw)) (Or.inl (wd_32 hw)) (by decide) (t := (.array .long)) (t' := (.array .long)) (by decide) (by decide))), H.2.2.2.2.1.other W (Or.inr (slot_ne (Or.inr (wd_30 hw)) (Or.inl (wd_32 hw)) (by decide) (t := .boolean) (t' := (.array .long)) (by decide) (by decide))), H.2.2.2.2.2.1.same W, H.2.2.2.2.2.2.1.other W (Or.inr (slot_ne (Or.inl (wd_39 hw)) (Or.inl (wd_32 hw)) (by decide) (t := .int) (t' := (.array .long)) (by decide) (by decide))), H.2.2.2.2.2.2.2.other W (Or.inr (slot_ne (Or.inl (wd_41 hw)) (Or.inl (wd_32 hw)) (by decide) (t := .long) (t' := (.array .long)) (by decide) (by decide)))⟩
theorem RB.set_count {Z : State} {h h' : Heap} {a : Addr} {f0 : Value} {f1 : Value} {f2 : Value} {f3 : Int32} {f4 : Value} {f5 : Int32} {f6 : Int64} {a0 : Array Value} (hw : ∀ d ∈ tables_1, d.before a0 Z = true) {g : Int32} (H : RB Z h a f0 f1 f2 f3 f4 f5 f6) (W : Wr h h' a (Jvm.RoadKit.slotOf Z "com/example/offset/offset/log/BatchTable" "count" "I") (.int g)) : RB Z h' a f0 f1 f2 f3 f4 g f6 := ⟨H.1.wr W, H.2.1.other W (Or.inr (slot_ne (Or.inl (wd_24 hw)) (Or.inl (wd_39 hw)) (by decide) (t := (.array .long)) (t' := .int) (by decide) (by decide))), H.2.2.1.other W (Or.inr (slot_ne (Or.inl (wd_26 hw)) (Or.inl (wd_39 hw)) (by decide) (t := (.array .long)) (t' := .int) (by decide) (by decide))), H.2.2.2.1.other W (Or.inr (slot_ne (Or.inl (wd_28 hw)) (Or.inl (wd_39 hw)) (by decide) (t := (.array .long)) (t' := .int) (by decide) (by decide))), H.2.2.2.2.1.other W (Or.inr (slot_ne (Or.inr (wd_30 hw)) (Or.inl (wd_39 hw)) (by decide) (t := .boolean) (t' := .int) (by decide) (by decide))), H.2.2.2.2.2.1.other W (Or.inr (slot_ne (Or.inl (wd_32 hw)) (Or.inl (wd_39 hw)) (by decide) (t := (.array .long)) (t' := .int) (by decide) (by decide))), H.2.2.2.2.2.2.1.same W, H.2.2.2.2.2.2.2.other W (Or.inr (slot_ne (Or.inl (wd_41 hw)) (Or.inl (wd_39 hw)) (by decide) (t := .long) (t' := .int) (by decide) (by decide)))⟩
theorem RB.set_lastEnd {Z : State} {h h' : Heap} {a : Addr} {f0 : Value} {f1 : Value} {f2 : Value} {f3 : Int32} {f4 : Value} {f5 : Int32} {f6 : Int64} {a0 : Array Value} (hw : ∀ d ∈ tables_1, d.before a0 Z = true) {g : Int64} (H : RB Z h a f0 f1 f2 f3 f4 f5 f6) (W : Wr h h' a (Jvm.RoadKit.slotOf Z "com/example/offset/offset/log/BatchTable" "lastEnd" "J") (.long g)) : RB Z h' a f0 f1 f2 f3 f4 f5 g := ⟨H.1.wr W, H.2.1.other W (Or.inr (slot_ne (Or.inl (wd_24 hw)) (Or.inl (wd_41 hw)) (by decide) (t := (.array .long)) (t' := .long) (by decide) (by decide))), H.2.2.1.other W (Or.inr (slot_ne (Or.inl (wd_26 hw)) (Or.inl (wd_41 hw)) (by decide) (t := (.array .long)) (t' := .long) (by decide) (by decide))), H.2.2.2.1.other W (Or.inr (slot_ne (Or.inl (wd_28 hw)) (Or.inl (wd_41 hw)) (by decide) (t := (.array .long)) (t' := .long) (by decide) (by decide))), H.2.2.2.2.1.other W (Or.inr (slot_ne (Or.inr (wd_30 hw)) (Or.inl (wd_41 hw)) (by decide) (t := .boolean) (t' := .long) (by decide) (by decide))), H.2.2.2.2.2.1.other W (Or.inr (slot_ne (Or.inl (wd_32 hw)) (Or.inl (wd_41 hw)) (by decide) (t := (.array .long)) (t' := .long) (by decide) (by decide))), H.2.2.2.2.2.2.1.other W (Or.inr (slot_ne (Or.inl (wd_39 hw)) (Or.inl (wd_41 hw)) (by decide) (t := .int) (t' := .long) (by decide) (by decide))), H.2.2.2.2.2.2.2.same W⟩
/-- the ends, where there are any -/
def EndsOk (Z : State) (h : Heap) (lo : Nat) (a o p mx : Addr) (g : Int32) (en : Value) (fe : Nat → Int64) : Prop := (g = 0 ∧ en = .null) ∨ (g = 1 ∧ ∃ e, en = .ref e ∧ lo ≤ e ∧ a ≠ e ∧ o ≠ e ∧ p ≠ e ∧ mx ≠ e ∧ LArr Z h e 64 fe)
/-- a BatchTable at a, all of it at or above lo -/
def BT (Z : State) (h : Heap) (lo : Nat) (a : Addr) (g cnt : Int32) (last : Int64) (fo fm fe : Nat → Int64) : Prop :=
  ∃ o p mx en fp, RB Z h a (.ref o) (.ref p) (.ref mx) g en cnt last ∧ LArr Z h o 64 fo ∧ LArr Z h p 64 fp ∧ LArr Z h mx 64 fm ∧ (lo ≤ a ∧ lo ≤ o ∧ lo ≤ p ∧ lo ≤ mx) ∧ (a ≠ o ∧ a ≠ p ∧ a ≠ mx ∧ o ≠ p ∧ o ≠ mx ∧ p ≠ mx) ∧ EndsOk Z h lo a o p mx g en fe
theorem BT.exa {Z : State} {h : Heap} {lo : Nat} {a : Addr} {g cnt : Int32} {last : Int64} {fo fm fe : Nat → Int64} (H : BT Z h lo a g cnt last fo fm fe) : Exa Z h a "com/example/offset/offset/log/BatchTable" := by obtain ⟨_, _, _, _, _, H, _⟩ := H; exact H.1

set_option maxRecDepth 65536 in
set_option maxHeartbeats 40000000 in
theorem c_max (l : Launch) {Z : State} {a0 : Array Value} (hw : ∀ d ∈ tables_1, d.before a0 Z = true) (h0 : Heap) (n0 : Nat) (hn0 : n0 ≤ h0.size) (x y r : Int64) (hs : maxR x y r) : Con l Z (⟨"java/lang/Math", "max", "(JJ)J"⟩ : MethodName) jdk_29_method_66_code 4 (some .long) ({ frames := 0, cells := 0, slots := 0, locals := 0 } : Room) [] #[(.long x), (.long y)] h0 n0 (fun v h' => v = some (.long r) ∧ h0 = h') := by
  refine con_of (Ls0 := #[.val (.long x), .second, .val (.long y), .second]) (Jvm.Free.JP.mathPlain rfl (by decide +kernel)) (fun m => by first | (simp [entryFrame, mkF, argsToLocals, Value.category]; done) | rfl) hn0 ?_
  intro p e s m below meth c C
  refine g_lloadN C D2_0 rfl ?_
  refine g_lloadN C D2_1 rfl ?_
  refine g_lcmp_lt C D2_2 D2_3 (fun q1 => ?_) (fun q1 => ?_)
  · refine g_lloadN C D2_10 rfl ?_
    refine g_retJ C D2_11 (by decide) (by decide) ?_
    obtain rfl := maxT q1 hs
    exact ⟨rfl, rfl⟩
  · refine g_lloadN C D2_6 rfl ?_
    refine g_goto C D2_7 ?_
    refine g_retJ C D2_11 (by decide) (by decide) ?_
    obtain rfl := maxF q1 hs
    exact ⟨rfl, rfl⟩
set_option maxRecDepth 65536 in
set_option maxHeartbeats 40000000 in
theorem c_min (l : Launch) {Z : State} {a0 : Array Value} (hw : ∀ d ∈ tables_1, d.before a0 Z = true) (h0 : Heap) (n0 : Nat) (hn0 : n0 ≤ h0.size) (x y : Int64)  : Con l Z (⟨"java/lang/Math", "min", "(JJ)J"⟩ : MethodName) jdk_29_method_70_code 4 (some .long) ({ frames := 0, cells := 0, slots := 0, locals := 0 } : Room) [] #[(.long x), (.long y)] h0 n0 (fun v h' => ∃ r, v = some (.long r) ∧ h0 = h') := by
  refine con_of (Ls0 := #[.val (.long x), .second, .val (.long y), .second]) (Jvm.Free.JP.mathPlain rfl (by decide +kernel)) (fun m => by first | (simp [entryFrame, mkF, argsToLocals, Value.category]; done) | rfl) hn0 ?_
  intro p e s m below meth c C
  refine g_lloadN C D1_0 rfl ?_
  refine g_lloadN C D1_1 rfl ?_
  refine g_lcmp_gt C D1_2 D1_3 (fun q1 => ?_) (fun q1 => ?_)
  · refine g_lloadN C D1_10 rfl ?_
    refine g_retJ C D1_11 (by decide) (by decide) ?_
    exact ⟨_, rfl, rfl⟩
  · refine g_lloadN C D1_6 rfl ?_
    refine g_goto C D1_7 ?_
    refine g_retJ C D1_11 (by decide) (by decide) ?_
    exact ⟨_, rfl, rfl⟩
theorem g_one {g : Int32} (h : ¬ g = 0) (h1 : g &&& 1 = g) : g = 1 := by
  rcases and_one g with q | q
  · exact absurd (h1.symm.trans q) h
  · exact h1.symm.trans q
set_option maxRecDepth 65536 in
set_option maxHeartbeats 40000000 in
theorem c_init (l : Launch) {Z : State} {a0 : Array Value} (hw : ∀ d ∈ tables_1, d.before a0 Z = true) (h0 : Heap) (n0 : Nat) (hn0 : n0 ≤ h0.size) (lo : Nat) (a : Addr) (g : Int32) (hlo : n0 ≤ lo) (l_a : lo ≤ a) (hg : g &&& 1 = g) (H : RB Z h0 a .null .null .null 0 .null 0 0) : Con l Z (⟨"com/example/offset/offset/log/BatchTable", "<init>", "(Z)V"⟩ : MethodName) prog_45_method_1_code 2 none ({ frames := 1, cells := 4, slots := 256, locals := 12 } : Room) [] #[(.ref a), (.int g)] h0 n0 (fun v h' => v = none ∧ BT Z h' lo a g 0 0 (fun _ => 0) (fun _ => 0) (fun _ => 0) ∧ KL lo h0 h') := by
  refine con_of (Ls0 := #[.val (.ref a), .val (.int g)]) (plainFor_of_name pn_0) (fun m => by first | (simp [entryFrame, mkF, argsToLocals, Value.category]; done) | rfl) hn0 ?_
  intro p e s m below meth c C
  refine g_aloadN C D4_0 rfl rfl ?_
  refine g_initO C (wd_20 hw) (wd_21 hw) (wd_22 hw) D4_1 rfl (by decide) 0 (Nat.le_of_eq rfl) (by decide) ?_
  refine g_aloadN C D4_4 rfl rfl ?_
  refine g_bipush C (64 : Int32) rfl D4_5 ?_
  refine g_newarr C (aty := .long) (wd_7 hw) D4_7 (by decide) 64 (by decide) (by decide) (by decide) (by decide) ?_
  intro h1 b2 kA3 ge4 ea5 E6 X7
  have A8 : LArr Z h1 b2 64 (fun _ => (0 : Int64)) := LArr.new X7
  have ne_a_b2 : a ≠ b2 := Nat.ne_of_lt (ea5 ▸ H.lt)
  have H9 := H.ext E6
  have lo_b2 : lo ≤ b2 := ea5 ▸ (Nat.le_trans l_a (Nat.le_of_lt H.lt))
  have K10 := (KL.refl lo h0).ext E6
  refine g_putF C (wd_23 hw) D4_9 H9.2.1 H9.1 (Or.inl (wd_24 hw)) (wd_15 hw) (ty := (.array .long)) (v' := (.ref b2)) (by decide) rfl rfl (Nat.le_trans hlo l_a) ?_
  intro h11 W12
  have H13 := RB.set_offsets hw (g := (.ref b2)) H9 W12
  have K14 := K10.wr W12 l_a
  have A15 := A8.other W12 (Ne.symm ne_a_b2)
  refine g_aloadN C D4_12 rfl rfl ?_
  refine g_bipush C (64 : Int32) rfl D4_13 ?_
  refine g_newarr C (aty := .long) (wd_7 hw) D4_15 (by decide) 64 (by decide) (by decide) (by decide) (by decide) ?_
  intro h16 b17 kA18 ge19 ea20 E21 X22
  have A23 : LArr Z h16 b17 64 (fun _ => (0 : Int64)) := LArr.new X22
  have ne_a_b17 : a ≠ b17 := Nat.ne_of_lt (ea20 ▸ H13.lt)
  have H24 := H13.ext E21
  have ne_b2_b17 : b2 ≠ b17 := Nat.ne_of_lt (ea20 ▸ A15.lt)
  have A25 := A15.ext E21
  have lo_b17 : lo ≤ b17 := ea20 ▸ (Nat.le_trans l_a (Nat.le_of_lt H13.lt))
  have K26 := K14.ext E21
  refine g_putF C (wd_25 hw) D4_17 H24.2.2.1 H24.1 (Or.inl (wd_26 hw)) (wd_15 hw) (ty := (.array .long)) (v' := (.ref b17)) (by decide) rfl rfl (Nat.le_trans hlo l_a) ?_
  intro h27 W28
  have H29 := RB.set_positions hw (g := (.ref b17)) H24 W28
  have K30 := K26.wr W28 l_a
  have A31 := A25.other W28 (Ne.symm ne_a_b2)
  have A32 := A23.other W28 (Ne.symm ne_a_b17)
  refine g_aloadN C D4_20 rfl rfl ?_
  refine g_bipush C (64 : Int32) rfl D4_21 ?_
  refine g_newarr C (aty := .long) (wd_7 hw) D4_23 (by decide) 64 (by decide) (by decide) (by decide) (by decide) ?_
  intro h33 b34 kA35 ge36 ea37 E38 X39
  have A40 : LArr Z h33 b34 64 (fun _ => (0 : Int64)) := LArr.new X39
  have ne_a_b34 : a ≠ b34 := Nat.ne_of_lt (ea37 ▸ H29.lt)
  have H41 := H29.ext E38
  have ne_b2_b34 : b2 ≠ b34 := Nat.ne_of_lt (ea37 ▸ A31.lt)
  have A42 := A31.ext E38
  have ne_b17_b34 : b17 ≠ b34 := Nat.ne_of_lt (ea37 ▸ A32.lt)
  have A43 := A32.ext E38
  have lo_b34 : lo ≤ b34 := ea37 ▸ (Nat.le_trans l_a (Nat.le_of_lt H29.lt))
  have K44 := K30.ext E38
  refine g_putF C (wd_27 hw) D4_25 H41.2.2.2.1 H41.1 (Or.inl (wd_28 hw)) (wd_15 hw) (ty := (.array .long)) (v' := (.ref b34)) (by decide) rfl rfl (Nat.le_trans hlo l_a) ?_
  intro h45 W46
  have H47 := RB.set_maxTimestampsUpTo hw (g := (.ref b34)) H41 W46
  have K48 := K44.wr W46 l_a
  have A49 := A42.other W46 (Ne.symm ne_a_b2)
  have A50 := A43.other W46 (Ne.symm ne_a_b17)
  have A51 := A40.other W46 (Ne.symm ne_a_b34)
  refine g_aloadN C D4_28 rfl rfl ?_
  refine g_iloadN C D4_29 rfl ?_
  refine g_putF C (wd_29 hw) D4_30 H47.2.2.2.2.1 H47.1 (Or.inr ⟨(wd_30 hw), rfl, rfl⟩) (wd_15 hw) (ty := .boolean) (v' := (.int g)) (by decide) (by show Value.int (g &&& 1) = _; rw [hg]) (hg ▸ fits_nar_bool g) (Nat.le_trans hlo l_a) ?_
  intro h52 W53
  have H54 := RB.set_gaps hw (g := g) H47 W53
  have K55 := K48.wr W53 l_a
  have A56 := A49.other W53 (Ne.symm ne_a_b2)
  have A57 := A50.other W53 (Ne.symm ne_a_b17)
  have A58 := A51.other W53 (Ne.symm ne_a_b34)
  refine g_aloadN C D4_33 rfl rfl ?_
  refine g_iloadN C D4_34 rfl ?_
  refine g_if_eq C D4_35 (fun q59 => ?_) (fun q59 => ?_)
  · refine g_aconst C D4_45 ?_
    refine g_putF C (wd_31 hw) D4_46 H54.2.2.2.2.2.1 H54.1 (Or.inl (wd_32 hw)) (wd_15 hw) (ty := (.array .long)) (v' := .null) (by decide) rfl rfl (Nat.le_trans hlo l_a) ?_
    intro h60 W61
    have H62 := RB.set_ends hw (g := .null) H54 W61
    have K63 := K55.wr W61 l_a
    have A64 := A56.other W61 (Ne.symm ne_a_b2)
    have A65 := A57.other W61 (Ne.symm ne_a_b17)
    have A66 := A58.other W61 (Ne.symm ne_a_b34)
    refine g_ret C D4_49 (by decide) (by decide) ?_
    exact ⟨rfl, ⟨b2, b17, b34, _, _, H62, A64, A65, A66, ⟨l_a, lo_b2, lo_b17, lo_b34⟩, ⟨ne_a_b2, ne_a_b17, ne_a_b34, ne_b2_b17, ne_b2_b34, ne_b17_b34⟩, Or.inl ⟨q59, rfl⟩⟩, K63⟩
  · refine g_bipush C (64 : Int32) rfl D4_38 ?_
    refine g_newarr C (aty := .long) (wd_7 hw) D4_40 (by decide) 64 (by decide) (by decide) (by decide) (by decide) ?_
    intro h67 b68 kA69 ge70 ea71 E72 X73
    have A74 : LArr Z h67 b68 64 (fun _ => (0 : Int64)) := LArr.new X73
    have ne_a_b68 : a ≠ b68 := Nat.ne_of_lt (ea71 ▸ H54.lt)
    have H75 := H54.ext E72
    have ne_b2_b68 : b2 ≠ b68 := Nat.ne_of_lt (ea71 ▸ A56.lt)
    have A76 := A56.ext E72
    have ne_b17_b68 : b17 ≠ b68 := Nat.ne_of_lt (ea71 ▸ A57.lt)
    have A77 := A57.ext E72
    have ne_b34_b68 : b34 ≠ b68 := Nat.ne_of_lt (ea71 ▸ A58.lt)
    have A78 := A58.ext E72
    have lo_b68 : lo ≤ b68 := ea71 ▸ (Nat.le_trans l_a (Nat.le_of_lt H54.lt))
    have K79 := K55.ext E72
    refine g_goto C D4_42 ?_
    refine g_putF C (wd_31 hw) D4_46 H75.2.2.2.2.2.1 H75.1 (Or.inl (wd_32 hw)) (wd_15 hw) (ty := (.array .long)) (v' := (.ref b68)) (by decide) rfl rfl (Nat.le_trans hlo l_a) ?_
    intro h80 W81
    have H82 := RB.set_ends hw (g := (.ref b68)) H75 W81
    have K83 := K79.wr W81 l_a
    have A84 := A76.other W81 (Ne.symm ne_a_b2)
    have A85 := A77.other W81 (Ne.symm ne_a_b17)
    have A86 := A78.other W81 (Ne.symm ne_a_b34)
    have A87 := A74.other W81 (Ne.symm ne_a_b68)
    refine g_ret C D4_49 (by decide) (by decide) ?_
    exact ⟨rfl, ⟨b2, b17, b34, _, _, H82, A84, A85, A86, ⟨l_a, lo_b2, lo_b17, lo_b34⟩, ⟨ne_a_b2, ne_a_b17, ne_a_b34, ne_b2_b17, ne_b2_b34, ne_b17_b34⟩, Or.inr ⟨g_one q59 hg, b68, rfl, lo_b68, ne_a_b68, ne_b2_b68, ne_b17_b68, ne_b34_b68, A87⟩⟩, K83⟩
set_option maxRecDepth 65536 in
set_option maxHeartbeats 40000000 in
theorem c_add (l : Launch) {Z : State} {a0 : Array Value} (hw : ∀ d ∈ tables_1, d.before a0 Z = true) (h0 : Heap) (n0 : Nat) (hn0 : n0 ≤ h0.size) (lo : Nat) (a : Addr) (of ps nd ts : Int64) (g cnt c1 : Int32) (last mv : Int64) (fo fm fe : Nat → Int64) (j : Nat) (hlo : n0 ≤ lo) (H : BT Z h0 lo a g cnt last fo fm fe) (b1 : 0 ≤ cnt.toInt) (b2 : cnt.toInt < ((64 : Nat) : Int)) (hc1 : cnt + 1 = c1) (hj : cnt.toInt.toNat = j) (hs : mxR cnt fm ts mv) : Con l Z (⟨"com/example/offset/offset/log/BatchTable", "add", "(JJJJ)V"⟩ : MethodName) prog_45_method_7_code 9 none ({ frames := 1, cells := 0, slots := 0, locals := 17 } : Room) [] #[(.ref a), (.long of), (.long ps), (.long nd), (.long ts)] h0 n0 (fun v h' => v = none ∧ BT Z h' lo a g c1 nd (upd fo j of) (upd fm j mv) (upd fe j nd) ∧ KL lo h0 h') := by
  refine con_of (Ls0 := #[.val (.ref a), .val (.long of), .second, .val (.long ps), .second, .val (.long nd), .second, .val (.long ts), .second]) (plainFor_of_name pn_0) (fun m => by first | (simp [entryFrame, mkF, argsToLocals, Value.category]; done) | rfl) hn0 ?_
  intro p e s m below meth c C
  obtain ⟨o, p1, mx, en, fp, HB, Ao, Ap, Am, ⟨l_a, l_o, l_p, l_m⟩, ⟨ne_a_o, ne_a_p1, ne_a_mx, ne_o_p1, ne_o_mx, ne_p1_mx⟩, EO⟩ := H
  refine g_aloadN C D6_0 rfl rfl ?_
  refine g_getF C (wd_38 hw) D6_1 HB.2.2.2.2.2.2.1 ?_
  refine g_aloadN C D6_4 rfl rfl ?_
  refine g_getF C (wd_23 hw) D6_5 HB.2.1 ?_
  refine g_lenLArr C D6_8 Ao (64 : Int32) rfl ?_
  refine g_icmp_ne C D6_9 (fun q1 => ?_) (fun q1 => ?_)
  rotate_left
  · exfalso
    rw [q1] at b2; exact absurd b2 (by decide)
  refine g_aloadN C D6_87 rfl rfl ?_
  refine g_getF C (wd_23 hw) D6_88 HB.2.1 ?_
  refine g_aloadN C D6_91 rfl rfl ?_
  refine g_getF C (wd_38 hw) D6_92 HB.2.2.2.2.2.2.1 ?_
  refine g_lloadN C D6_95 rfl ?_
  refine g_lastore C D6_96 Ao b1 b2 (Nat.le_trans hlo l_o) ?_
  intro h2 W3
  have A4 := LArr.set Ao W3
  have K5 := (KL.refl lo h0).wr W3 l_o
  have H6 := HB.other W3 ne_a_o
  have A7 := Ap.other W3 (Ne.symm ne_o_p1)
  have A8 := Am.other W3 (Ne.symm ne_o_mx)
  refine g_aloadN C D6_97 rfl rfl ?_
  refine g_getF C (wd_25 hw) D6_98 H6.2.2.1 ?_
  refine g_aloadN C D6_101 rfl rfl ?_
  refine g_getF C (wd_38 hw) D6_102 H6.2.2.2.2.2.2.1 ?_
  refine g_lloadN C D6_105 rfl ?_
  refine g_lastore C D6_106 A7 b1 b2 (Nat.le_trans hlo l_p) ?_
  intro h9 W10
  have A11 := LArr.set A7 W10
  have K12 := K5.wr W10 l_p
  have H13 := H6.other W10 ne_a_p1
  have A14 := A4.other W10 ne_o_p1
  have A15 := A8.other W10 (Ne.symm ne_p1_mx)
  refine g_aloadN C D6_107 rfl rfl ?_
  refine g_getF C (wd_27 hw) D6_108 H13.2.2.2.1 ?_
  refine g_aloadN C D6_111 rfl rfl ?_
  refine g_getF C (wd_38 hw) D6_112 H13.2.2.2.2.2.2.1 ?_
  refine g_aloadN C D6_115 rfl rfl ?_
  refine g_getF C (wd_38 hw) D6_116 H13.2.2.2.2.2.2.1 ?_
  refine g_join (ι := Unit) (fun y => h9) 0 0 (fun y => mkF m 143 #[.val (.ref a), .val (.long of), .second, .val (.long ps), .second, .val (.long nd), .second, .val (.long ts), .second] [(.long mv), (.int cnt), (.ref mx)]) (fun y => True) (fun J => ?_) ?_
  · refine g_if_ne C D6_119 (fun q16 => ?_) (fun q16 => ?_)
    · refine g_aloadN C D6_127 rfl rfl ?_
      refine g_getF C (wd_27 hw) D6_128 H13.2.2.2.1 ?_
      refine g_aloadN C D6_131 rfl rfl ?_
      refine g_getF C (wd_38 hw) D6_132 H13.2.2.2.2.2.2.1 ?_
      refine g_iconst C (1 : Int32) rfl D6_135 ?_
      refine g_isub C D6_136 ?_
      refine g_laload C D6_137 A15 (by rw [sub1 q16 b1]; have := pos_of q16 b1; omega) (by rw [sub1 q16 b1]; omega) (fm (cnt.toInt.toNat - 1)) (by rw [sub1 q16 b1]; congr 1; have := pos_of q16 b1; omega) ?_
      refine g_lload C D6_138 rfl ?_
      have hz140 : n0 ≤ h9.size := Nat.le_trans hn0 K12.1
      refine g_callS C (c_max l hw h9 n0 hz140 (fm (cnt.toInt.toNat - 1)) ts mv (mxF q16 hs)) (wd_42 hw) (wd_5 hw) (wd_2 hw) (wd_6 hw) (by decide) D6_140 pd_0 [(.long (fm (cnt.toInt.toNat - 1))), (.long ts)] [(.int cnt), (.ref mx)] rfl rfl rfl 2 (Nat.le_of_eq rfl) (by decide) (by decide) (by decide) (by decide) ?_
      rintro _ _ ⟨rfl, rfl⟩
      refine g_cast (f' := mkF m 143 #[.val (.ref a), .val (.long of), .second, .val (.long ps), .second, .val (.long nd), .second, .val (.long ts), .second] [(.long mv), (.int cnt), (.ref mx)]) rfl ?_
      exact J () trivial
    · refine g_lload C D6_122 rfl ?_
      refine g_goto C D6_124 ?_
      obtain rfl := mxT q16 hs
      exact J () trivial
  rintro - -
  try dsimp only
  refine g_lastore C D6_143 A15 b1 b2 (Nat.le_trans hlo l_m) ?_
  intro h17 W18
  have A19 := LArr.set A15 W18
  have K20 := K12.wr W18 l_m
  have H21 := H13.other W18 ne_a_mx
  have A22 := A14.other W18 ne_o_mx
  have A23 := A11.other W18 ne_p1_mx
  refine g_aloadN C D6_144 rfl rfl ?_
  refine g_getF C (wd_29 hw) D6_145 H21.2.2.2.2.1 ?_
  refine g_if_eq C D6_148 (fun q24 => ?_) (fun q24 => ?_)
  · obtain rfl : en = .null := by
      rcases EO with z | z
      · exact z.2
      · exact absurd (z.1.symm.trans q24) (by decide)
    refine g_aloadN C D6_162 rfl rfl ?_
    refine g_dup C D6_163 rfl ?_
    refine g_getF C (wd_38 hw) D6_164 H21.2.2.2.2.2.2.1 ?_
    refine g_iconst C (1 : Int32) rfl D6_167 ?_
    refine g_iadd C D6_168 ?_
    refine g_putF C (wd_38 hw) D6_169 H21.2.2.2.2.2.2.1 H21.1 (Or.inl (wd_39 hw)) (wd_15 hw) (ty := .int) (v' := (.int (cnt + (1 : Int32)))) (by decide) rfl rfl (Nat.le_trans hlo l_a) ?_
    intro h25 W26
    have H27 := RB.set_count hw (g := (cnt + (1 : Int32))) H21 W26
    have K28 := K20.wr W26 l_a
    have A29 := A22.other W26 (Ne.symm ne_a_o)
    have A30 := A23.other W26 (Ne.symm ne_a_p1)
    have A31 := A19.other W26 (Ne.symm ne_a_mx)
    refine g_aloadN C D6_172 rfl rfl ?_
    refine g_lload C D6_173 rfl ?_
    refine g_putF C (wd_40 hw) D6_175 H27.2.2.2.2.2.2.2 H27.1 (Or.inl (wd_41 hw)) (wd_15 hw) (ty := .long) (v' := (.long nd)) (by decide) rfl rfl (Nat.le_trans hlo l_a) ?_
    intro h32 W33
    have H34 := RB.set_lastEnd hw (g := nd) H27 W33
    have K35 := K28.wr W33 l_a
    have A36 := A29.other W33 (Ne.symm ne_a_o)
    have A37 := A30.other W33 (Ne.symm ne_a_p1)
    have A38 := A31.other W33 (Ne.symm ne_a_mx)
    refine g_ret C D6_178 (by decide) (by decide) ?_
    exact ⟨rfl, ⟨o, p1, mx, .null, _, hc1 ▸ H34, hj ▸ A36, A37, hj ▸ A38, ⟨l_a, l_o, l_p, l_m⟩, ⟨ne_a_o, ne_a_p1, ne_a_mx, ne_o_p1, ne_o_mx, ne_p1_mx⟩, Or.inl ⟨q24, rfl⟩⟩, K35⟩
  · obtain ⟨gq, e1, rfl, l_e, ne_a_e1, ne_o_e1, ne_p1_e1, ne_mx_e1, Ae⟩ : g = 1 ∧ ∃ e, en = .ref e ∧ lo ≤ e ∧ a ≠ e ∧ o ≠ e ∧ p1 ≠ e ∧ mx ≠ e ∧ LArr Z h0 e 64 fe := by
      rcases EO with z | z
      · exact absurd z.1 q24
      · exact z
    have A39 := Ae.other W3 (Ne.symm ne_o_e1)
    have A40 := A39.other W10 (Ne.symm ne_p1_e1)
    have A41 := A40.other W18 (Ne.symm ne_mx_e1)
    refine g_aloadN C D6_151 rfl rfl ?_
    refine g_getF C (wd_31 hw) D6_152 H21.2.2.2.2.2.1 ?_
    refine g_aloadN C D6_155 rfl rfl ?_
    refine g_getF C (wd_38 hw) D6_156 H21.2.2.2.2.2.2.1 ?_
    refine g_lload C D6_159 rfl ?_
    refine g_lastore C D6_161 A41 b1 b2 (Nat.le_trans hlo l_e) ?_
    intro h42 W43
    have A44 := LArr.set A41 W43
    have K45 := K20.wr W43 l_e
    have H46 := H21.other W43 ne_a_e1
    have A47 := A22.other W43 ne_o_e1
    have A48 := A23.other W43 ne_p1_e1
    have A49 := A19.other W43 ne_mx_e1
    refine g_aloadN C D6_162 rfl rfl ?_
    refine g_dup C D6_163 rfl ?_
    refine g_getF C (wd_38 hw) D6_164 H46.2.2.2.2.2.2.1 ?_
    refine g_iconst C (1 : Int32) rfl D6_167 ?_
    refine g_iadd C D6_168 ?_
    refine g_putF C (wd_38 hw) D6_169 H46.2.2.2.2.2.2.1 H46.1 (Or.inl (wd_39 hw)) (wd_15 hw) (ty := .int) (v' := (.int (cnt + (1 : Int32)))) (by decide) rfl rfl (Nat.le_trans hlo l_a) ?_
    intro h50 W51
    have H52 := RB.set_count hw (g := (cnt + (1 : Int32))) H46 W51
    have K53 := K45.wr W51 l_a
    have A54 := A47.other W51 (Ne.symm ne_a_o)
    have A55 := A48.other W51 (Ne.symm ne_a_p1)
    have A56 := A49.other W51 (Ne.symm ne_a_mx)
    have A57 := A44.other W51 (Ne.symm ne_a_e1)
    refine g_aloadN C D6_172 rfl rfl ?_
    refine g_lload C D6_173 rfl ?_
    refine g_putF C (wd_40 hw) D6_175 H52.2.2.2.2.2.2.2 H52.1 (Or.inl (wd_41 hw)) (wd_15 hw) (ty := .long) (v' := (.long nd)) (by decide) rfl rfl (Nat.le_trans hlo l_a) ?_
    intro h58 W59
    have H60 := RB.set_lastEnd hw (g := nd) H52 W59
    have K61 := K53.wr W59 l_a
    have A62 := A54.other W59 (Ne.symm ne_a_o)
    have A63 := A55.other W59 (Ne.symm ne_a_p1)
    have A64 := A56.other W59 (Ne.symm ne_a_mx)
    have A65 := A57.other W59 (Ne.symm ne_a_e1)
    refine g_ret C D6_178 (by decide) (by decide) ?_
    exact ⟨rfl, ⟨o, p1, mx, (.ref e1), _, hc1 ▸ H60, hj ▸ A62, A63, hj ▸ A64, ⟨l_a, l_o, l_p, l_m⟩, ⟨ne_a_o, ne_a_p1, ne_a_mx, ne_o_p1, ne_o_mx, ne_p1_mx⟩, Or.inr ⟨gq, e1, rfl, l_e, ne_a_e1, ne_o_e1, ne_p1_e1, ne_mx_e1, hj ▸ A65⟩⟩, K61⟩
set_option maxRecDepth 65536 in
set_option maxHeartbeats 40000000 in
theorem c_no (l : Launch) {Z : State} {a0 : Array Value} (hw : ∀ d ∈ tables_1, d.before a0 Z = true) (h0 : Heap) (n0 : Nat) (hn0 : n0 ≤ h0.size) (lo : Nat) (a : Addr) (i : Int32) (r : Int64) (g cnt : Int32) (last : Int64) (fo fm fe : Nat → Int64) (H : BT Z h0 lo a g cnt last fo fm fe) (b1 : 0 ≤ i.toInt) (b2 : i.toInt < 60) (hlo : n0 ≤ lo) (hs : noR g cnt last fo fe i r) : Con l Z (⟨"com/example/offset/offset/log/BatchTable", "nextOffset", "(I)J"⟩ : MethodName) prog_45_method_6_code 2 (some .long) ({ frames := 0, cells := 0, slots := 0, locals := 0 } : Room) [] #[(.ref a), (.int i)] h0 n0 (fun v h' => v = some (.long r) ∧ h0 = h') := by
  refine con_of (Ls0 := #[.val (.ref a), .val (.int i)]) (plainFor_of_name pn_0) (fun m => by first | (simp [entryFrame, mkF, argsToLocals, Value.category]; done) | rfl) hn0 ?_
  intro p e s m below meth c C
  obtain ⟨o, p1, mx, en, fp, HB, Ao, Ap, Am, ⟨l_a, l_o, l_p, l_m⟩, ⟨ne_a_o, ne_a_p1, ne_a_mx, ne_o_p1, ne_o_mx, ne_p1_mx⟩, EO⟩ := H
  have ia := add1 (i := i) b1 (by omega)
  refine g_aloadN C D7_0 rfl rfl ?_
  refine g_getF C (wd_29 hw) D7_1 HB.2.2.2.2.1 ?_
  refine g_if_eq C D7_4 (fun q1 => ?_) (fun q1 => ?_)
  · refine g_iloadN C D7_14 rfl ?_
    refine g_iconst C (1 : Int32) rfl D7_15 ?_
    refine g_iadd C D7_16 ?_
    refine g_aloadN C D7_17 rfl rfl ?_
    refine g_getF C (wd_38 hw) D7_18 HB.2.2.2.2.2.2.1 ?_
    refine g_icmp_ne C D7_21 (fun q2 => ?_) (fun q2 => ?_)
    · refine g_aloadN C D7_31 rfl rfl ?_
      refine g_getF C (wd_23 hw) D7_32 HB.2.1 ?_
      refine g_iloadN C D7_35 rfl ?_
      refine g_iconst C (1 : Int32) rfl D7_36 ?_
      refine g_iadd C D7_37 ?_
      refine g_laload C D7_38 Ao (by omega) (by omega) (fo (i.toInt.toNat + 1)) (by rw [ia]; congr 1; omega) ?_
      refine g_retJ C D7_39 (by decide) (by decide) ?_
      obtain rfl := no3 q1 q2 hs
      exact ⟨rfl, rfl⟩
    · refine g_aloadN C D7_24 rfl rfl ?_
      refine g_getF C (wd_40 hw) D7_25 HB.2.2.2.2.2.2.2 ?_
      refine g_goto C D7_28 ?_
      refine g_retJ C D7_39 (by decide) (by decide) ?_
      obtain rfl := no2 q1 q2 hs
      exact ⟨rfl, rfl⟩
  · obtain ⟨gq, e1, rfl, l_e, ne_a_e1, ne_o_e1, ne_p1_e1, ne_mx_e1, Ae⟩ : g = 1 ∧ ∃ e, en = .ref e ∧ lo ≤ e ∧ a ≠ e ∧ o ≠ e ∧ p1 ≠ e ∧ mx ≠ e ∧ LArr Z h0 e 64 fe := by
      rcases EO with z | z
      · exact absurd z.1 q1
      · exact z
    refine g_aloadN C D7_7 rfl rfl ?_
    refine g_getF C (wd_31 hw) D7_8 HB.2.2.2.2.2.1 ?_
    refine g_iloadN C D7_11 rfl ?_
    refine g_laload C D7_12 Ae b1 (by omega) (fe i.toInt.toNat) rfl ?_
    refine g_retJ C D7_13 (by decide) (by decide) ?_
    obtain rfl := no1 q1 hs
    exact ⟨rfl, rfl⟩
set_option maxRecDepth 65536 in
set_option maxHeartbeats 40000000 in
theorem c_tr (l : Launch) {Z : State} {a0 : Array Value} (hw : ∀ d ∈ tables_1, d.before a0 Z = true) (h0 : Heap) (n0 : Nat) (hn0 : n0 ≤ h0.size) (lo : Nat) (a : Addr) (k : Int32) (r : Int64) (g cnt : Int32) (last : Int64) (fo fm fe : Nat → Int64) (H : BT Z h0 lo a g cnt last fo fm fe) (b1 : 1 ≤ k.toInt) (b2 : k.toInt < 60) (hlo : n0 ≤ lo) (hs : noR g cnt last fo fe (k - 1) r) : Con l Z (⟨"com/example/offset/offset/log/BatchTable", "truncate", "(I)V"⟩ : MethodName) prog_45_method_8_code 2 none ({ frames := 1, cells := 0, slots := 0, locals := 14 } : Room) [] #[(.ref a), (.int k)] h0 n0 (fun v h' => v = none ∧ BT Z h' lo a g k r fo fm fe ∧ KL lo h0 h') := by
  refine con_of (Ls0 := #[.val (.ref a), .val (.int k)]) (plainFor_of_name pn_0) (fun m => by first | (simp [entryFrame, mkF, argsToLocals, Value.category]; done) | rfl) hn0 ?_
  intro p e s m below meth c C
  have H0 := H
  obtain ⟨o, p1, mx, en, fp, HB, Ao, Ap, Am, ⟨l_a, l_o, l_p, l_m⟩, ⟨ne_a_o, ne_a_p1, ne_a_mx, ne_o_p1, ne_o_mx, ne_p1_mx⟩, EO⟩ := H
  refine g_aloadN C D8_0 rfl rfl ?_
  refine g_iloadN C D8_1 rfl ?_
  refine g_if_ne C D8_2 (fun q1 => ?_) (fun q1 => ?_)
  rotate_left
  · exfalso
    rw [q1] at b1; exact absurd b1 (by decide)
  have k1 : (k - 1).toInt = k.toInt - 1 := sub1 (fun z => by rw [z] at b1; exact absurd b1 (by decide)) (by omega)
  refine g_aloadN C D8_14 rfl rfl ?_
  refine g_iloadN C D8_15 rfl ?_
  refine g_iconst C (1 : Int32) rfl D8_16 ?_
  refine g_isub C D8_17 ?_
  refine g_callV C (c_no l hw h0 n0 hn0 lo a (k - 1) r g cnt last fo fm fe H0 (by rw [k1]; omega) (by rw [k1]; omega) hlo hs) (wd_54 hw) (wd_44 hw) (wd_45 hw) (wd_46 hw) (wd_16 hw) (wd_47 hw) (by decide) D8_18 pd_1 HB.1 [(.int (k - (1 : Int32)))] [(.ref a)] rfl rfl rfl 1 (Nat.le_of_eq rfl) (by decide) (by decide) (by decide) (by decide) ?_
  rintro _ _ ⟨rfl, rfl⟩
  refine g_cast (f' := mkF m 21 #[.val (.ref a), .val (.int k)] [(.long r), (.ref a)]) rfl ?_
  refine g_putF C (wd_40 hw) D8_21 HB.2.2.2.2.2.2.2 HB.1 (Or.inl (wd_41 hw)) (wd_15 hw) (ty := .long) (v' := (.long r)) (by decide) rfl rfl (Nat.le_trans hlo l_a) ?_
  intro h2 W3
  have H4 := RB.set_lastEnd hw (g := r) HB W3
  have K5 := (KL.refl lo h0).wr W3 l_a
  have A6 := Ao.other W3 (Ne.symm ne_a_o)
  have A7 := Ap.other W3 (Ne.symm ne_a_p1)
  have A8 := Am.other W3 (Ne.symm ne_a_mx)
  refine g_aloadN C D8_24 rfl rfl ?_
  refine g_iloadN C D8_25 rfl ?_
  refine g_putF C (wd_38 hw) D8_26 H4.2.2.2.2.2.2.1 H4.1 (Or.inl (wd_39 hw)) (wd_15 hw) (ty := .int) (v' := (.int k)) (by decide) rfl rfl (Nat.le_trans hlo l_a) ?_
  intro h9 W10
  have H11 := RB.set_count hw (g := k) H4 W10
  have K12 := K5.wr W10 l_a
  have A13 := A6.other W10 (Ne.symm ne_a_o)
  have A14 := A7.other W10 (Ne.symm ne_a_p1)
  have A15 := A8.other W10 (Ne.symm ne_a_mx)
  refine g_ret C D8_29 (by decide) (by decide) ?_
  have EO' : EndsOk Z h9 lo a o p1 mx g en fe := by
    rcases EO with z | ⟨z, e1, z1, z2, z3, z4, z5, z6, z7⟩
    · exact Or.inl z
    · exact Or.inr ⟨z, e1, z1, z2, z3, z4, z5, z6, (z7.other W3 (Ne.symm z3)).other W10 (Ne.symm z3)⟩
  exact ⟨rfl, ⟨o, p1, mx, en, _, H11, A13, A14, A15, ⟨l_a, l_o, l_p, l_m⟩, ⟨ne_a_o, ne_a_p1, ne_a_mx, ne_o_p1, ne_o_mx, ne_p1_mx⟩, EO'⟩, K12⟩
set_option maxRecDepth 65536 in
set_option maxHeartbeats 40000000 in
theorem c_end (l : Launch) {Z : State} {a0 : Array Value} (hw : ∀ d ∈ tables_1, d.before a0 Z = true) (h0 : Heap) (n0 : Nat) (hn0 : n0 ≤ h0.size) (b : Addr) (i n1 g : Int32) (d : Int64) (f : Nat → Int64) (Ab : LArr Z h0 b 3 f) (b1 : 0 ≤ i.toInt) (b3 : n1.toInt ≤ 3) : Con l Z (⟨"com/example/offset/offset/log/BatchTableNextOffsetPinLaw", "endOf", "([JIIZJ)J"⟩ : MethodName) method_2_code 7 (some .long) ({ frames := 0, cells := 0, slots := 0, locals := 0 } : Room) [] #[(.ref b), (.int i), (.int n1), (.int g), (.long d)] h0 n0 (fun v h' => ∃ r, v = some (.long r) ∧ (g = 0 → i.toInt + 1 < n1.toInt → r = f (i.toInt.toNat + 1)) ∧ h0 = h') := by
  refine con_of (Ls0 := #[.val (.ref b), .val (.int i), .val (.int n1), .val (.int g), .val (.long d), .second, .unset]) (plainFor_of_name pn_1) (fun m => by first | (simp [entryFrame, mkF, argsToLocals, Value.category]; done) | rfl) hn0 ?_
  intro p e s m below meth c C
  refine g_iloadN C D3_0 rfl ?_
  refine g_iloadN C D3_1 rfl ?_
  refine g_icmp_lt C D3_2 (fun q1 => ?_) (fun q1 => ?_)
  · rw [Int32.lt_iff_toInt_lt] at q1
    refine g_lload C D3_7 rfl ?_
    refine g_bipush C (6 : Int32) rfl D3_9 ?_
    refine g_iloadN C D3_11 rfl ?_
    refine g_imul C D3_12 ?_
    refine g_lushr C D3_13 ?_
    refine g_ldc2 C (wd_12 hw) D3_14 ?_
    refine g_land C D3_17 ?_
    refine g_l2i C D3_18 ?_
    refine g_istore C #[.val (.ref b), .val (.int i), .val (.int n1), .val (.int g), .val (.long d), .second, .val (.int (((ushrJ d ((6 : Int32) * i)) &&& (63 : Int64)).toInt32))] D3_19 rfl ?_
    refine g_iloadN C D3_21 rfl ?_
    refine g_iloadN C D3_22 rfl ?_
    refine g_iconst C (1 : Int32) rfl D3_23 ?_
    refine g_isub C D3_24 ?_
    refine g_icmp_ne C D3_25 (fun q2 => ?_) (fun q2 => ?_)
    · refine g_iloadN C D3_43 rfl ?_
      refine g_if_eq C D3_44 (fun q3 => ?_) (fun q3 => ?_)
      · have ia := add1 (i := i) b1 (by omega)
        have h1 := sub1 (cnt := n1) (fun z => by rw [z] at q1; exact absurd (Int.lt_of_le_of_lt b1 q1) (by decide)) (by omega)
        have h2 : ¬ i.toInt = (n1 - 1).toInt := fun z => q2 (Int32.toInt_inj.mp z)
        refine g_aloadN C D3_64 rfl rfl ?_
        refine g_iloadN C D3_65 rfl ?_
        refine g_iconst C (1 : Int32) rfl D3_66 ?_
        refine g_iadd C D3_67 ?_
        refine g_laload C D3_68 Ab (by omega) (by omega) (f (i.toInt.toNat + 1)) (by rw [ia]; congr 1; omega) ?_
        refine g_retJ C D3_69 (by decide) (by decide) ?_
        exact ⟨_, rfl, fun _ _ => rfl, rfl⟩
      · have ia := add1 (i := i) b1 (by omega)
        have h1 := sub1 (cnt := n1) (fun z => by rw [z] at q1; exact absurd (Int.lt_of_le_of_lt b1 q1) (by decide)) (by omega)
        have h2 : ¬ i.toInt = (n1 - 1).toInt := fun z => q2 (Int32.toInt_inj.mp z)
        refine g_aloadN C D3_47 rfl rfl ?_
        refine g_iloadN C D3_48 rfl ?_
        refine g_laload C D3_49 Ab b1 (by omega) (f i.toInt.toNat) rfl ?_
        refine g_aloadN C D3_50 rfl rfl ?_
        refine g_iloadN C D3_51 rfl ?_
        refine g_iconst C (1 : Int32) rfl D3_52 ?_
        refine g_iadd C D3_53 ?_
        refine g_laload C D3_54 Ab (by omega) (by omega) (f (i.toInt.toNat + 1)) (by rw [ia]; congr 1; omega) ?_
        refine g_aloadN C D3_55 rfl rfl ?_
        refine g_iloadN C D3_56 rfl ?_
        refine g_laload C D3_57 Ab b1 (by omega) (f i.toInt.toNat) rfl ?_
        refine g_lsub C D3_58 ?_
        refine g_iload C D3_59 rfl ?_
        refine g_lushr C D3_61 ?_
        refine g_ladd C D3_62 ?_
        refine g_retJ C D3_63 (by decide) (by decide) ?_
        exact ⟨_, rfl, fun z _ => absurd z q3, rfl⟩
    · have h1 := sub1 (cnt := n1) (fun z => by rw [z] at q1; exact absurd (Int.lt_of_le_of_lt b1 q1) (by decide)) (by omega)
      have h2 : i.toInt = (n1 - 1).toInt := congrArg Int32.toInt q2
      refine g_aloadN C D3_28 rfl rfl ?_
      refine g_iloadN C D3_29 rfl ?_
      refine g_laload C D3_30 Ab b1 (by omega) (f i.toInt.toNat) rfl ?_
      refine g_ldc2 C (wd_13 hw) D3_31 ?_
      refine g_aloadN C D3_34 rfl rfl ?_
      refine g_iloadN C D3_35 rfl ?_
      refine g_laload C D3_36 Ab b1 (by omega) (f i.toInt.toNat) rfl ?_
      refine g_lsub C D3_37 ?_
      refine g_iload C D3_38 rfl ?_
      refine g_lushr C D3_40 ?_
      refine g_ladd C D3_41 ?_
      refine g_retJ C D3_42 (by decide) (by decide) ?_
      exact ⟨_, rfl, fun _ z => absurd z (by omega), rfl⟩
  · rw [Int32.lt_iff_toInt_lt] at q1
    refine g_lconst C (0 : Int64) rfl D3_5 ?_
    refine g_retJ C D3_6 (by decide) (by decide) ?_
    exact ⟨_, rfl, fun _ z => absurd z (by omega), rfl⟩
set_option maxRecDepth 65536 in
set_option maxHeartbeats 40000000 in
theorem c_law (l : Launch) {Z : State} {a0 : Array Value} (hw : ∀ d ∈ tables_1, d.before a0 Z = true) (ws : List Jvm.Cond) (h0 : Heap) (n0 : Nat) (hn0 : n0 ≤ h0.size) (i_a i_b i_c i_d : Int64) (i_f : Int32)  : Con l Z x code maxLocals ret room_1 ws #[(.long i_a), (.long i_b), (.long i_c), (.long i_d), (.int i_f)] h0 n0 (fun v h' => v = some (.int 1) ∧ True) := by
  refine con_of (Ls0 := #[.val (.long i_a), .second, .val (.long i_b), .second, .val (.long i_c), .second, .val (.long i_d), .second, .val (.int i_f), .unset, .unset, .unset, .unset, .unset, .unset, .unset, .unset, .unset, .unset, .unset, .unset, .unset, .unset, .unset, .unset, .unset, .unset]) (plainFor_of_name pn_1) (fun m => by first | (simp [entryFrame, mkF, argsToLocals, Value.category, maxLocals]; done) | rfl) hn0 ?_
  intro p e s m below meth c C
  refine g_lloadN C D0_0 rfl ?_
  refine g_lloadN C D0_1 rfl ?_
  refine g_callS C (c_min l hw h0 n0 hn0 i_a i_b) (wd_0 hw) (wd_1 hw) (wd_2 hw) (wd_3 hw) (by decide) D0_2 pd_0 [(.long i_a), (.long i_b)] [] rfl rfl rfl 0 (Nat.le_of_eq rfl) (by decide) (by decide) (by decide) (by decide) ?_
  rintro _ _ ⟨lw0, rfl, rfl⟩
  refine g_cast (f' := mkF m 5 #[.val (.long i_a), .second, .val (.long i_b), .second, .val (.long i_c), .second, .val (.long i_d), .second, .val (.int i_f), .unset, .unset, .unset, .unset, .unset, .unset, .unset, .unset, .unset, .unset, .unset, .unset, .unset, .unset, .unset, .unset, .unset, .unset] [(.long lw0)]) rfl ?_
  refine g_lload C D0_5 rfl ?_
  refine g_callS C (c_min l hw h0 n0 hn0 lw0 i_c) (wd_0 hw) (wd_1 hw) (wd_2 hw) (wd_3 hw) (by decide) D0_7 pd_0 [(.long lw0), (.long i_c)] [] rfl rfl rfl 0 (Nat.le_of_eq rfl) (by decide) (by decide) (by decide) (by decide) ?_
  rintro _ _ ⟨lw1, rfl, rfl⟩
  refine g_cast (f' := mkF m 10 #[.val (.long i_a), .second, .val (.long i_b), .second, .val (.long i_c), .second, .val (.long i_d), .second, .val (.int i_f), .unset, .unset, .unset, .unset, .unset, .unset, .unset, .unset, .unset, .unset, .unset, .unset, .unset, .unset, .unset, .unset, .unset, .unset] [(.long lw1)]) rfl ?_
  refine g_lstore C #[.val (.long i_a), .second, .val (.long i_b), .second, .val (.long i_c), .second, .val (.long i_d), .second, .val (.int i_f), .val (.long lw1), .second, .unset, .unset, .unset, .unset, .unset, .unset, .unset, .unset, .unset, .unset, .unset, .unset, .unset, .unset, .unset, .unset] D0_10 rfl ?_
  refine g_lloadN C D0_12 rfl ?_
  refine g_lloadN C D0_13 rfl ?_
  refine g_callS C (c_max l hw h0 n0 hn0 i_a i_b _ (maxI _ _)) (wd_4 hw) (wd_5 hw) (wd_2 hw) (wd_6 hw) (by decide) D0_14 pd_0 [(.long i_a), (.long i_b)] [] rfl rfl rfl 0 (Nat.le_of_eq rfl) (by decide) (by decide) (by decide) (by decide) ?_
  rintro _ _ ⟨rfl, rfl⟩
  refine g_cast (f' := mkF m 17 #[.val (.long i_a), .second, .val (.long i_b), .second, .val (.long i_c), .second, .val (.long i_d), .second, .val (.int i_f), .val (.long lw1), .second, .unset, .unset, .unset, .unset, .unset, .unset, .unset, .unset, .unset, .unset, .unset, .unset, .unset, .unset, .unset, .unset] [(.long (max2 i_a i_b))]) rfl ?_
  generalize q_hg0 : (max2 i_a i_b) = hg0
  refine g_lload C D0_17 rfl ?_
  refine g_callS C (c_max l hw h0 n0 hn0 hg0 i_c _ (maxI _ _)) (wd_4 hw) (wd_5 hw) (wd_2 hw) (wd_6 hw) (by decide) D0_19 pd_0 [(.long hg0), (.long i_c)] [] rfl rfl rfl 0 (Nat.le_of_eq rfl) (by decide) (by decide) (by decide) (by decide) ?_
  rintro _ _ ⟨rfl, rfl⟩
  refine g_cast (f' := mkF m 22 #[.val (.long i_a), .second, .val (.long i_b), .second, .val (.long i_c), .second, .val (.long i_d), .second, .val (.int i_f), .val (.long lw1), .second, .unset, .unset, .unset, .unset, .unset, .unset, .unset, .unset, .unset, .unset, .unset, .unset, .unset, .unset, .unset, .unset] [(.long (max2 hg0 i_c))]) rfl ?_
  generalize q_hg1 : (max2 hg0 i_c) = hg1
  refine g_lstore C #[.val (.long i_a), .second, .val (.long i_b), .second, .val (.long i_c), .second, .val (.long i_d), .second, .val (.int i_f), .val (.long lw1), .second, .val (.long hg1), .second, .unset, .unset, .unset, .unset, .unset, .unset, .unset, .unset, .unset, .unset, .unset, .unset, .unset, .unset] D0_22 rfl ?_
  refine g_lloadN C D0_24 rfl ?_
  refine g_lloadN C D0_25 rfl ?_
  refine g_ladd C D0_26 ?_
  refine g_lload C D0_27 rfl ?_
  refine g_ladd C D0_29 ?_
  refine g_lload C D0_30 rfl ?_
  refine g_lsub C D0_32 ?_
  refine g_lload C D0_33 rfl ?_
  refine g_lsub C D0_35 ?_
  generalize q_md : ((((i_a + i_b) + i_c) - lw1) - hg1) = md
  refine g_lstore C #[.val (.long i_a), .second, .val (.long i_b), .second, .val (.long i_c), .second, .val (.long i_d), .second, .val (.int i_f), .val (.long lw1), .second, .val (.long hg1), .second, .val (.long md), .second, .unset, .unset, .unset, .unset, .unset, .unset, .unset, .unset, .unset, .unset, .unset, .unset] D0_36 rfl ?_
  refine g_iconst C (3 : Int32) rfl D0_38 ?_
  refine g_newarr C (aty := .long) (wd_7 hw) D0_39 (by decide) 3 (by decide) (by decide) (by decide) (by decide) ?_
  intro h1 b2 kA3 ge4 ea5 E6 X7
  have A8 : LArr Z h1 b2 3 (fun _ => (0 : Int64)) := LArr.new X7
  refine g_dup C D0_41 rfl ?_
  refine g_iconst C (0 : Int32) rfl D0_42 ?_
  refine g_lload C D0_43 rfl ?_
  refine g_lastore C D0_45 A8 (by decide) (by decide) ge4 ?_
  intro h9 W10
  have A11 := LArr.set A8 W10
  refine g_dup C D0_46 rfl ?_
  refine g_iconst C (1 : Int32) rfl D0_47 ?_
  refine g_lload C D0_48 rfl ?_
  refine g_lastore C D0_50 A11 (by decide) (by decide) ge4 ?_
  intro h12 W13
  have A14 := LArr.set A11 W13
  refine g_dup C D0_51 rfl ?_
  refine g_iconst C (2 : Int32) rfl D0_52 ?_
  refine g_lload C D0_53 rfl ?_
  refine g_lastore C D0_55 A14 (by decide) (by decide) ge4 ?_
  intro h15 W16
  have A17 := LArr.set A14 W16
  refine g_astore C #[.val (.long i_a), .second, .val (.long i_b), .second, .val (.long i_c), .second, .val (.long i_d), .second, .val (.int i_f), .val (.long lw1), .second, .val (.long hg1), .second, .val (.long md), .second, .val (.ref b2), .unset, .unset, .unset, .unset, .unset, .unset, .unset, .unset, .unset, .unset, .unset] D0_56 rfl rfl ?_
  have Aw : LArr Z h15 b2 3 (upd (upd (upd (fun _ => (0 : Int64)) 0 lw1) 1 md) 2 hg1) := A17
  have hzw : n0 ≤ h15.size := Nat.le_trans ge4 (Nat.le_of_lt Aw.lt)
  refine g_join (ι := Int32) (fun y => h15) 1 3 (fun y => mkF m 70 #[.val (.long i_a), .second, .val (.long i_b), .second, .val (.long i_c), .second, .val (.long i_d), .second, .val (.int i_f), .val (.long lw1), .second, .val (.long hg1), .second, .val (.long md), .second, .val (.ref b2), .unset, .unset, .unset, .unset, .unset, .unset, .unset, .unset, .unset, .unset, .unset] [(.int y)]) (fun y => y &&& 1 = y) (fun J => ?_) ?_
  · refine g_iload C D0_58 rfl ?_
    refine g_iconst C (1 : Int32) rfl D0_60 ?_
    refine g_iand C D0_61 ?_
    refine g_if_eq C D0_62 (fun q18 => ?_) (fun q18 => ?_)
    · refine g_iconst C (0 : Int32) rfl D0_69 ?_
      exact J _ rfl
    · refine g_iconst C (1 : Int32) rfl D0_65 ?_
      refine g_goto C D0_66 ?_
      exact J _ rfl
  intro g hg
  try dsimp only at hg ⊢
  refine g_istore C #[.val (.long i_a), .second, .val (.long i_b), .second, .val (.long i_c), .second, .val (.long i_d), .second, .val (.int i_f), .val (.long lw1), .second, .val (.long hg1), .second, .val (.long md), .second, .val (.ref b2), .val (.int g), .unset, .unset, .unset, .unset, .unset, .unset, .unset, .unset, .unset, .unset] D0_70 rfl ?_
  refine g_iconst C (1 : Int32) rfl D0_72 ?_
  refine g_iload C D0_73 rfl ?_
  refine g_iconst C (1 : Int32) rfl D0_75 ?_
  refine g_iushr C D0_76 ?_
  refine g_iconst C (3 : Int32) rfl D0_77 ?_
  refine g_iand C D0_78 ?_
  refine g_iconst C (3 : Int32) rfl D0_79 ?_
  refine g_irem C D0_80 (by decide) ?_
  refine g_iadd C D0_81 ?_
  generalize q_n1 : ((1 : Int32) + (((ushrI i_f (1 : Int32)) &&& (3 : Int32)) - (((ushrI i_f (1 : Int32)) &&& (3 : Int32)) / (3 : Int32)) * (3 : Int32))) = n1
  have b_n := mod3 i_f
  rw [q_n1] at b_n
  refine g_istore C #[.val (.long i_a), .second, .val (.long i_b), .second, .val (.long i_c), .second, .val (.long i_d), .second, .val (.int i_f), .val (.long lw1), .second, .val (.long hg1), .second, .val (.long md), .second, .val (.ref b2), .val (.int g), .val (.int n1), .unset, .unset, .unset, .unset, .unset, .unset, .unset, .unset, .unset] D0_82 rfl ?_
  rcases b_n with q_k | q_k | q_k
  · subst q_k
    refine g_aload C D0_84 rfl rfl ?_
    refine g_iconst C (0 : Int32) rfl D0_86 ?_
    refine g_iload C D0_87 rfl ?_
    refine g_iload C D0_89 rfl ?_
    refine g_lload C D0_91 rfl ?_
    refine g_callS C (c_end l hw h15 n0 hzw b2 0 1 g i_d (upd (upd (upd (fun _ => (0 : Int64)) 0 lw1) 1 md) 2 hg1) Aw (by decide) (by decide)) (wd_8 hw) (wd_9 hw) (wd_10 hw) (wd_11 hw) (by decide) D0_93 pd_2 [(.ref b2), (.int (0 : Int32)), (.int (1 : Int32)), (.int g), (.long i_d)] [] rfl rfl rfl 0 (Nat.le_of_eq rfl) (by decide) (by decide) (by decide) (by decide) ?_
    rintro _ _ ⟨e0, rfl, he0, rfl⟩
    refine g_cast (f' := mkF m 96 #[.val (.long i_a), .second, .val (.long i_b), .second, .val (.long i_c), .second, .val (.long i_d), .second, .val (.int i_f), .val (.long lw1), .second, .val (.long hg1), .second, .val (.long md), .second, .val (.ref b2), .val (.int g), .val (.int (1 : Int32)), .unset, .unset, .unset, .unset, .unset, .unset, .unset, .unset, .unset] [(.long e0)]) rfl ?_
    refine g_lstore C #[.val (.long i_a), .second, .val (.long i_b), .second, .val (.long i_c), .second, .val (.long i_d), .second, .val (.int i_f), .val (.long lw1), .second, .val (.long hg1), .second, .val (.long md), .second, .val (.ref b2), .val (.int g), .val (.int (1 : Int32)), .val (.long e0), .second, .unset, .unset, .unset, .unset, .unset, .unset, .unset] D0_96 rfl ?_
    refine g_aload C D0_98 rfl rfl ?_
    refine g_iconst C (1 : Int32) rfl D0_100 ?_
    refine g_iload C D0_101 rfl ?_
    refine g_iload C D0_103 rfl ?_
    refine g_lload C D0_105 rfl ?_
    refine g_callS C (c_end l hw h15 n0 hzw b2 1 1 g i_d (upd (upd (upd (fun _ => (0 : Int64)) 0 lw1) 1 md) 2 hg1) Aw (by decide) (by decide)) (wd_8 hw) (wd_9 hw) (wd_10 hw) (wd_11 hw) (by decide) D0_107 pd_2 [(.ref b2), (.int (1 : Int32)), (.int (1 : Int32)), (.int g), (.long i_d)] [] rfl rfl rfl 0 (Nat.le_of_eq rfl) (by decide) (by decide) (by decide) (by decide) ?_
    rintro _ _ ⟨e1, rfl, he1, rfl⟩
    refine g_cast (f' := mkF m 110 #[.val (.long i_a), .second, .val (.long i_b), .second, .val (.long i_c), .second, .val (.long i_d), .second, .val (.int i_f), .val (.long lw1), .second, .val (.long hg1), .second, .val (.long md), .second, .val (.ref b2), .val (.int g), .val (.int (1 : Int32)), .val (.long e0), .second, .unset, .unset, .unset, .unset, .unset, .unset, .unset] [(.long e1)]) rfl ?_
    refine g_lstore C #[.val (.long i_a), .second, .val (.long i_b), .second, .val (.long i_c), .second, .val (.long i_d), .second, .val (.int i_f), .val (.long lw1), .second, .val (.long hg1), .second, .val (.long md), .second, .val (.ref b2), .val (.int g), .val (.int (1 : Int32)), .val (.long e0), .second, .val (.long e1), .second, .unset, .unset, .unset, .unset, .unset] D0_110 rfl ?_
    refine g_aload C D0_112 rfl rfl ?_
    refine g_iconst C (2 : Int32) rfl D0_114 ?_
    refine g_iload C D0_115 rfl ?_
    refine g_iload C D0_117 rfl ?_
    refine g_lload C D0_119 rfl ?_
    refine g_callS C (c_end l hw h15 n0 hzw b2 2 1 g i_d (upd (upd (upd (fun _ => (0 : Int64)) 0 lw1) 1 md) 2 hg1) Aw (by decide) (by decide)) (wd_8 hw) (wd_9 hw) (wd_10 hw) (wd_11 hw) (by decide) D0_121 pd_2 [(.ref b2), (.int (2 : Int32)), (.int (1 : Int32)), (.int g), (.long i_d)] [] rfl rfl rfl 0 (Nat.le_of_eq rfl) (by decide) (by decide) (by decide) (by decide) ?_
    rintro _ _ ⟨e2, rfl, he2, rfl⟩
    refine g_cast (f' := mkF m 124 #[.val (.long i_a), .second, .val (.long i_b), .second, .val (.long i_c), .second, .val (.long i_d), .second, .val (.int i_f), .val (.long lw1), .second, .val (.long hg1), .second, .val (.long md), .second, .val (.ref b2), .val (.int g), .val (.int (1 : Int32)), .val (.long e0), .second, .val (.long e1), .second, .unset, .unset, .unset, .unset, .unset] [(.long e2)]) rfl ?_
    refine g_lstore C #[.val (.long i_a), .second, .val (.long i_b), .second, .val (.long i_c), .second, .val (.long i_d), .second, .val (.int i_f), .val (.long lw1), .second, .val (.long hg1), .second, .val (.long md), .second, .val (.ref b2), .val (.int g), .val (.int (1 : Int32)), .val (.long e0), .second, .val (.long e1), .second, .val (.long e2), .second, .unset, .unset, .unset] D0_124 rfl ?_
    refine g_new C (wd_14 hw) (wd_15 hw) (wd_16 hw) D0_126 (by decide) (by decide) ?_
    intro h19 b20 ge21 ea22 E23 X24 F25
    have H26 : RB Z h19 b20 .null .null .null (0 : Int32) .null (0 : Int32) (0 : Int64) := ⟨X24, F25 (Or.inl (wd_24 hw)) (ty := (.array .long)) (by decide), F25 (Or.inl (wd_26 hw)) (ty := (.array .long)) (by decide), F25 (Or.inl (wd_28 hw)) (ty := (.array .long)) (by decide), F25 (Or.inr (wd_30 hw)) (ty := .boolean) (by decide), F25 (Or.inl (wd_32 hw)) (ty := (.array .long)) (by decide), F25 (Or.inl (wd_39 hw)) (ty := .int) (by decide), F25 (Or.inl (wd_41 hw)) (ty := .long) (by decide)⟩
    have ne_b2_b20 : b2 ≠ b20 := Nat.ne_of_lt (ea22 ▸ Aw.lt)
    have A27 := Aw.ext E23
    have lt_b : b2 < b20 := by rw [ea22]; exact Aw.lt
    refine g_dup C D0_129 rfl ?_
    refine g_iload C D0_130 rfl ?_
    have hz1 : n0 ≤ h19.size := Nat.le_trans ge21 (Nat.le_of_lt H26.lt)
    refine g_callI C (c_init l hw h19 n0 hz1 b20 b20 g ge21 (Nat.le_refl _) hg H26) rfl (wd_17 hw) (wd_18 hw) (wd_16 hw) (wd_19 hw) (by decide) D0_132 pd_3 [(.int g)] [(.ref b20)] rfl rfl rfl 1 (Nat.le_of_eq rfl) (by decide) (by decide) (by decide) (by decide) ?_
    rintro _ hA ⟨rfl, HA, KA⟩
    have hz2 : n0 ≤ hA.size := Nat.le_trans hz1 KA.1
    have AwA := A27.kl KA lt_b
    refine g_cast (f' := mkF m 135 #[.val (.long i_a), .second, .val (.long i_b), .second, .val (.long i_c), .second, .val (.long i_d), .second, .val (.int i_f), .val (.long lw1), .second, .val (.long hg1), .second, .val (.long md), .second, .val (.ref b2), .val (.int g), .val (.int (1 : Int32)), .val (.long e0), .second, .val (.long e1), .second, .val (.long e2), .second, .unset, .unset, .unset] [(.ref b20)]) rfl ?_
    refine g_astore C #[.val (.long i_a), .second, .val (.long i_b), .second, .val (.long i_c), .second, .val (.long i_d), .second, .val (.int i_f), .val (.long lw1), .second, .val (.long hg1), .second, .val (.long md), .second, .val (.ref b2), .val (.int g), .val (.int (1 : Int32)), .val (.long e0), .second, .val (.long e1), .second, .val (.long e2), .second, .val (.ref b20), .unset, .unset] D0_135 rfl rfl ?_
    refine g_aload C D0_137 rfl rfl ?_
    refine g_aload C D0_139 rfl rfl ?_
    refine g_iconst C (0 : Int32) rfl D0_141 ?_
    refine g_laload C D0_142 AwA (by decide) (by decide) lw1 rfl ?_
    refine g_lconst C (0 : Int64) rfl D0_143 ?_
    refine g_lload C D0_144 rfl ?_
    refine g_lload C D0_146 rfl ?_
    refine g_callV C (c_add l hw hA n0 hz2 b20 b20 lw1 (0 : Int64) e0 i_d g 0 1 0 i_d (fun _ => (0 : Int64)) (fun _ => (0 : Int64)) (fun _ => (0 : Int64)) 0 ge21 HA (by decide) (by decide) rfl rfl (Or.inl ⟨rfl, rfl⟩)) (wd_33 hw) (wd_34 hw) (wd_35 hw) (wd_36 hw) (wd_16 hw) (wd_37 hw) (by decide) D0_148 pd_4 (BT.exa HA) [(.long lw1), (.long (0 : Int64)), (.long e0), (.long i_d)] [] rfl rfl rfl 0 (Nat.le_of_eq rfl) (by decide) (by decide) (by decide) (by decide) ?_
    rintro _ hB28 ⟨rfl, HB30, KB29⟩
    have hz31 : n0 ≤ hB28.size := Nat.le_trans hz2 KB29.1
    have AwB32 := AwA.kl KB29 lt_b
    refine g_cast (f' := mkF m 151 #[.val (.long i_a), .second, .val (.long i_b), .second, .val (.long i_c), .second, .val (.long i_d), .second, .val (.int i_f), .val (.long lw1), .second, .val (.long hg1), .second, .val (.long md), .second, .val (.ref b2), .val (.int g), .val (.int (1 : Int32)), .val (.long e0), .second, .val (.long e1), .second, .val (.long e2), .second, .val (.ref b20), .unset, .unset] []) rfl ?_
    refine g_iload C D0_151 rfl ?_
    refine g_iconst C (1 : Int32) rfl D0_153 ?_
    refine g_icmp_le C D0_154 (fun q33 => ?_) (fun q33 => ?_)
    rotate_left
    · exfalso
      exact absurd q33 (by decide)
    refine g_iload C D0_171 rfl ?_
    refine g_iconst C (2 : Int32) rfl D0_173 ?_
    refine g_icmp_le C D0_174 (fun q34 => ?_) (fun q34 => ?_)
    rotate_left
    · exfalso
      exact absurd q34 (by decide)
    have hK : g = 0 → ∀ k : Nat, k + 1 < 1 → (upd (fun _ => (0 : Int64)) 0 lw1) (k + 1) = (upd (fun _ => (0 : Int64)) 0 e0) k := by
      intro z k hk
      omega
    refine g_iload C D0_193 rfl ?_
    refine g_istore C #[.val (.long i_a), .second, .val (.long i_b), .second, .val (.long i_c), .second, .val (.long i_d), .second, .val (.int i_f), .val (.long lw1), .second, .val (.long hg1), .second, .val (.long md), .second, .val (.ref b2), .val (.int g), .val (.int (1 : Int32)), .val (.long e0), .second, .val (.long e1), .second, .val (.long e2), .second, .val (.ref b20), .val (.int (1 : Int32)), .unset] D0_195 rfl ?_
    have HP35 : BT Z hB28 b20 b20 g 1 ((upd (fun _ => (0 : Int64)) 0 e0) ((1 : Int32).toInt.toNat - 1)) (upd (fun _ => (0 : Int64)) 0 lw1) (upd (fun _ => (0 : Int64)) 0 i_d) (upd (fun _ => (0 : Int64)) 0 e0) := HB30
    refine g_join (ι := Heap × Int32) (fun y => y.1) 6 266 (fun y => mkF m 225 #[.val (.long i_a), .second, .val (.long i_b), .second, .val (.long i_c), .second, .val (.long i_d), .second, .val (.int i_f), .val (.long lw1), .second, .val (.long hg1), .second, .val (.long md), .second, .val (.ref b2), .val (.int g), .val (.int (1 : Int32)), .val (.long e0), .second, .val (.long e1), .second, .val (.long e2), .second, .val (.ref b20), .val (.int y.2), .unset] []) (fun y => BT Z y.1 b20 b20 g y.2 ((upd (fun _ => (0 : Int64)) 0 e0) (y.2.toInt.toNat - 1)) (upd (fun _ => (0 : Int64)) 0 lw1) (upd (fun _ => (0 : Int64)) 0 i_d) (upd (fun _ => (0 : Int64)) 0 e0) ∧ n0 ≤ y.1.size ∧ 1 ≤ y.2.toInt ∧ y.2.toInt ≤ 1) (fun J => ?_) ?_
    · refine g_iload C D0_197 rfl ?_
      refine g_bipush C (32 : Int32) rfl D0_199 ?_
      refine g_iand C D0_201 ?_
      refine g_if_eq C D0_202 (fun q36 => ?_) (fun q36 => ?_)
      · exact J (hB28, 1) ⟨HP35, hz31, by show (1 : Int) ≤ (1 : Int32).toInt; decide, by show (1 : Int32).toInt ≤ 1; decide⟩
      · refine g_iconst C (1 : Int32) rfl D0_205 ?_
        refine g_iload C D0_206 rfl ?_
        refine g_iconst C (3 : Int32) rfl D0_208 ?_
        refine g_iushr C D0_209 ?_
        refine g_iconst C (3 : Int32) rfl D0_210 ?_
        refine g_iand C D0_211 ?_
        refine g_iload C D0_212 rfl ?_
        refine g_irem C D0_214 (by decide) ?_
        refine g_iadd C D0_215 ?_
        generalize q_m1 : ((1 : Int32) + (((ushrI i_f (3 : Int32)) &&& (3 : Int32)) - (((ushrI i_f (3 : Int32)) &&& (3 : Int32)) / (1 : Int32)) * (1 : Int32))) = m1
        have b_m := modn (ushrI i_f 3) 1 (by decide)
        rw [q_m1, show (1 : Int32).toInt = 1 from rfl] at b_m
        have k1 : (m1 - 1).toInt = m1.toInt - 1 := sub1 (fun z => by rw [z] at b_m; exact absurd b_m.1 (by decide)) (by omega)
        refine g_istore C #[.val (.long i_a), .second, .val (.long i_b), .second, .val (.long i_c), .second, .val (.long i_d), .second, .val (.int i_f), .val (.long lw1), .second, .val (.long hg1), .second, .val (.long md), .second, .val (.ref b2), .val (.int g), .val (.int (1 : Int32)), .val (.long e0), .second, .val (.long e1), .second, .val (.long e2), .second, .val (.ref b20), .val (.int m1), .unset] D0_216 rfl ?_
        refine g_aload C D0_218 rfl rfl ?_
        refine g_iload C D0_220 rfl ?_
        refine g_callV C (c_tr l hw hB28 n0 hz31 b20 b20 m1 ((upd (fun _ => (0 : Int64)) 0 e0) (m1 - 1).toInt.toNat) g 1 _ (upd (fun _ => (0 : Int64)) 0 lw1) (upd (fun _ => (0 : Int64)) 0 i_d) (upd (fun _ => (0 : Int64)) 0 e0) HP35 b_m.1 (by omega) ge21 (next_ok hK (by omega) (by rw [k1, show (1 : Int32).toInt = 1 from rfl]; omega) (by decide) (by decide))) (wd_49 hw) (wd_50 hw) (wd_51 hw) (wd_52 hw) (wd_16 hw) (wd_53 hw) (by decide) D0_222 pd_5 (BT.exa HP35) [(.int m1)] [] rfl rfl rfl 0 (Nat.le_of_eq rfl) (by decide) (by decide) (by decide) (by decide) ?_
        rintro _ hT ⟨rfl, HT, KT⟩
        refine g_cast (f' := mkF m 225 #[.val (.long i_a), .second, .val (.long i_b), .second, .val (.long i_c), .second, .val (.long i_d), .second, .val (.int i_f), .val (.long lw1), .second, .val (.long hg1), .second, .val (.long md), .second, .val (.ref b2), .val (.int g), .val (.int (1 : Int32)), .val (.long e0), .second, .val (.long e1), .second, .val (.long e2), .second, .val (.ref b20), .val (.int m1), .unset] []) rfl ?_
        have hzT : n0 ≤ hT.size := Nat.le_trans hz31 KT.1
        have HT' : BT Z hT b20 b20 g m1 ((upd (fun _ => (0 : Int64)) 0 e0) (m1.toInt.toNat - 1)) (upd (fun _ => (0 : Int64)) 0 lw1) (upd (fun _ => (0 : Int64)) 0 i_d) (upd (fun _ => (0 : Int64)) 0 e0) := by
          have e : (m1 - 1).toInt.toNat = m1.toInt.toNat - 1 := by rw [k1]; omega
          rw [← e]; exact HT
        exact J (hT, m1) ⟨HT', hzT, b_m.1, b_m.2⟩
    rintro ⟨hJ, mJ⟩ ⟨HJ, hzJ, b_1, b_2⟩
    try dsimp only at HJ hzJ b_1 b_2 ⊢
    refine g_aload C D0_225 rfl rfl ?_
    refine g_iconst C (0 : Int32) rfl D0_227 ?_
    refine g_callV C (c_no l hw hJ n0 hzJ b20 b20 0 e0 g mJ _ (upd (fun _ => (0 : Int64)) 0 lw1) (upd (fun _ => (0 : Int64)) 0 i_d) (upd (fun _ => (0 : Int64)) 0 e0) HJ (by decide) (by decide) ge21 (next_ok (n := 1) hK (by decide) (by show (0 : Int) < mJ.toInt; omega) (by omega) (by omega))) (wd_43 hw) (wd_44 hw) (wd_45 hw) (wd_46 hw) (wd_16 hw) (wd_47 hw) (by decide) D0_228 pd_1 (BT.exa HJ) [(.int (0 : Int32))] [] rfl rfl rfl 0 (Nat.le_of_eq rfl) (by decide) (by decide) (by decide) (by decide) ?_
    rintro _ _ ⟨rfl, rfl⟩
    refine g_cast (f' := mkF m 231 #[.val (.long i_a), .second, .val (.long i_b), .second, .val (.long i_c), .second, .val (.long i_d), .second, .val (.int i_f), .val (.long lw1), .second, .val (.long hg1), .second, .val (.long md), .second, .val (.ref b2), .val (.int g), .val (.int (1 : Int32)), .val (.long e0), .second, .val (.long e1), .second, .val (.long e2), .second, .val (.ref b20), .val (.int mJ), .unset] [(.long e0)]) rfl ?_
    refine g_lload C D0_231 rfl ?_
    refine g_lcmp_ne C D0_233 D0_234 (fun q37 => ?_) (fun q37 => ?_)
    · exfalso
      exact q37 rfl
    refine g_iconst C (1 : Int32) rfl D0_237 ?_
    refine g_goto C D0_238 ?_
    refine g_istore C #[.val (.long i_a), .second, .val (.long i_b), .second, .val (.long i_c), .second, .val (.long i_d), .second, .val (.int i_f), .val (.long lw1), .second, .val (.long hg1), .second, .val (.long md), .second, .val (.ref b2), .val (.int g), .val (.int (1 : Int32)), .val (.long e0), .second, .val (.long e1), .second, .val (.long e2), .second, .val (.ref b20), .val (.int mJ), .val (.int (1 : Int32))] D0_242 rfl ?_
    refine g_iload C D0_244 rfl ?_
    refine g_iconst C (1 : Int32) rfl D0_246 ?_
    refine g_icmp_le C D0_247 (fun q38 => ?_) (fun q38 => ?_)
    · have g1 : mJ.toInt ≤ 1 := lt_lit q38 rfl
      refine g_iload C D0_274 rfl ?_
      refine g_iconst C (2 : Int32) rfl D0_276 ?_
      refine g_icmp_le C D0_277 (fun q39 => ?_) (fun q39 => ?_)
      rotate_left
      · exfalso
        have := gt_lit (j := 2) q39 rfl; omega
      refine g_iload C D0_304 rfl ?_
      refine g_retZ C D0_306 (by decide) (by decide) ?_
      exact ⟨rfl, trivial⟩
    · have g1 : 1 < mJ.toInt := gt_lit q38 rfl
      omega
  · subst q_k
    refine g_aload C D0_84 rfl rfl ?_
    refine g_iconst C (0 : Int32) rfl D0_86 ?_
    refine g_iload C D0_87 rfl ?_
    refine g_iload C D0_89 rfl ?_
    refine g_lload C D0_91 rfl ?_
    refine g_callS C (c_end l hw h15 n0 hzw b2 0 2 g i_d (upd (upd (upd (fun _ => (0 : Int64)) 0 lw1) 1 md) 2 hg1) Aw (by decide) (by decide)) (wd_8 hw) (wd_9 hw) (wd_10 hw) (wd_11 hw) (by decide) D0_93 pd_2 [(.ref b2), (.int (0 : Int32)), (.int (2 : Int32)), (.int g), (.long i_d)] [] rfl rfl rfl 0 (Nat.le_of_eq rfl) (by decide) (by decide) (by decide) (by decide) ?_
    rintro _ _ ⟨e0, rfl, he0, rfl⟩
    refine g_cast (f' := mkF m 96 #[.val (.long i_a), .second, .val (.long i_b), .second, .val (.long i_c), .second, .val (.long i_d), .second, .val (.int i_f), .val (.long lw1), .second, .val (.long hg1), .second, .val (.long md), .second, .val (.ref b2), .val (.int g), .val (.int (2 : Int32)), .unset, .unset, .unset, .unset, .unset, .unset, .unset, .unset, .unset] [(.long e0)]) rfl ?_
    refine g_lstore C #[.val (.long i_a), .second, .val (.long i_b), .second, .val (.long i_c), .second, .val (.long i_d), .second, .val (.int i_f), .val (.long lw1), .second, .val (.long hg1), .second, .val (.long md), .second, .val (.ref b2), .val (.int g), .val (.int (2 : Int32)), .val (.long e0), .second, .unset, .unset, .unset, .unset, .unset, .unset, .unset] D0_96 rfl ?_
    refine g_aload C D0_98 rfl rfl ?_
    refine g_iconst C (1 : Int32) rfl D0_100 ?_
    refine g_iload C D0_101 rfl ?_
    refine g_iload C D0_103 rfl ?_
    refine g_lload C D0_105 rfl ?_
    refine g_callS C (c_end l hw h15 n0 hzw b2 1 2 g i_d (upd (upd (upd (fun _ => (0 : Int64)) 0 lw1) 1 md) 2 hg1) Aw (by decide) (by decide)) (wd_8 hw) (wd_9 hw) (wd_10 hw) (wd_11 hw) (by decide) D0_107 pd_2 [(.ref b2), (.int (1 : Int32)), (.int (2 : Int32)), (.int g), (.long i_d)] [] rfl rfl rfl 0 (Nat.le_of_eq rfl) (by decide) (by decide) (by decide) (by decide) ?_
    rintro _ _ ⟨e1, rfl, he1, rfl⟩
    refine g_cast (f' := mkF m 110 #[.val (.long i_a), .second, .val (.long i_b), .second, .val (.long i_c), .second, .val (.long i_d), .second, .val (.int i_f), .val (.long lw1), .second, .val (.long hg1), .second, .val (.long md), .second, .val (.ref b2), .val (.int g), .val (.int (2 : Int32)), .val (.long e0), .second, .unset, .unset, .unset, .unset, .unset, .unset, .unset] [(.long e1)]) rfl ?_
    refine g_lstore C #[.val (.long i_a), .second, .val (.long i_b), .second, .val (.long i_c), .second, .val (.long i_d), .second, .val (.int i_f), .val (.long lw1), .second, .val (.long hg1), .second, .val (.long md), .second, .val (.ref b2), .val (.int g), .val (.int (2 : Int32)), .val (.long e0), .second, .val (.long e1), .second, .unset, .unset, .unset, .unset, .unset] D0_110 rfl ?_
    refine g_aload C D0_112 rfl rfl ?_
    refine g_iconst C (2 : Int32) rfl D0_114 ?_
    refine g_iload C D0_115 rfl ?_
    refine g_iload C D0_117 rfl ?_
    refine g_lload C D0_119 rfl ?_
    refine g_callS C (c_end l hw h15 n0 hzw b2 2 2 g i_d (upd (upd (upd (fun _ => (0 : Int64)) 0 lw1) 1 md) 2 hg1) Aw (by decide) (by decide)) (wd_8 hw) (wd_9 hw) (wd_10 hw) (wd_11 hw) (by decide) D0_121 pd_2 [(.ref b2), (.int (2 : Int32)), (.int (2 : Int32)), (.int g), (.long i_d)] [] rfl rfl rfl 0 (Nat.le_of_eq rfl) (by decide) (by decide) (by decide) (by decide) ?_
    rintro _ _ ⟨e2, rfl, he2, rfl⟩
    refine g_cast (f' := mkF m 124 #[.val (.long i_a), .second, .val (.long i_b), .second, .val (.long i_c), .second, .val (.long i_d), .second, .val (.int i_f), .val (.long lw1), .second, .val (.long hg1), .second, .val (.long md), .second, .val (.ref b2), .val (.int g), .val (.int (2 : Int32)), .val (.long e0), .second, .val (.long e1), .second, .unset, .unset, .unset, .unset, .unset] [(.long e2)]) rfl ?_
    refine g_lstore C #[.val (.long i_a), .second, .val (.long i_b), .second, .val (.long i_c), .second, .val (.long i_d), .second, .val (.int i_f), .val (.long lw1), .second, .val (.long hg1), .second, .val (.long md), .second, .val (.ref b2), .val (.int g), .val (.int (2 : Int32)), .val (.long e0), .second, .val (.long e1), .second, .val (.long e2), .second, .unset, .unset, .unset] D0_124 rfl ?_
    refine g_new C (wd_14 hw) (wd_15 hw) (wd_16 hw) D0_126 (by decide) (by decide) ?_
    intro h40 b41 ge42 ea43 E44 X45 F46
    have H47 : RB Z h40 b41 .null .null .null (0 : Int32) .null (0 : Int32) (0 : Int64) := ⟨X45, F46 (Or.inl (wd_24 hw)) (ty := (.array .long)) (by decide), F46 (Or.inl (wd_26 hw)) (ty := (.array .long)) (by decide), F46 (Or.inl (wd_28 hw)) (ty := (.array .long)) (by decide), F46 (Or.inr (wd_30 hw)) (ty := .boolean) (by decide), F46 (Or.inl (wd_32 hw)) (ty := (.array .long)) (by decide), F46 (Or.inl (wd_39 hw)) (ty := .int) (by decide), F46 (Or.inl (wd_41 hw)) (ty := .long) (by decide)⟩
    have ne_b2_b41 : b2 ≠ b41 := Nat.ne_of_lt (ea43 ▸ Aw.lt)
    have A48 := Aw.ext E44
    have lt_b : b2 < b41 := by rw [ea43]; exact Aw.lt
    refine g_dup C D0_129 rfl ?_
    refine g_iload C D0_130 rfl ?_
    have hz1 : n0 ≤ h40.size := Nat.le_trans ge42 (Nat.le_of_lt H47.lt)
    refine g_callI C (c_init l hw h40 n0 hz1 b41 b41 g ge42 (Nat.le_refl _) hg H47) rfl (wd_17 hw) (wd_18 hw) (wd_16 hw) (wd_19 hw) (by decide) D0_132 pd_3 [(.int g)] [(.ref b41)] rfl rfl rfl 1 (Nat.le_of_eq rfl) (by decide) (by decide) (by decide) (by decide) ?_
    rintro _ hA ⟨rfl, HA, KA⟩
    have hz2 : n0 ≤ hA.size := Nat.le_trans hz1 KA.1
    have AwA := A48.kl KA lt_b
    refine g_cast (f' := mkF m 135 #[.val (.long i_a), .second, .val (.long i_b), .second, .val (.long i_c), .second, .val (.long i_d), .second, .val (.int i_f), .val (.long lw1), .second, .val (.long hg1), .second, .val (.long md), .second, .val (.ref b2), .val (.int g), .val (.int (2 : Int32)), .val (.long e0), .second, .val (.long e1), .second, .val (.long e2), .second, .unset, .unset, .unset] [(.ref b41)]) rfl ?_
    refine g_astore C #[.val (.long i_a), .second, .val (.long i_b), .second, .val (.long i_c), .second, .val (.long i_d), .second, .val (.int i_f), .val (.long lw1), .second, .val (.long hg1), .second, .val (.long md), .second, .val (.ref b2), .val (.int g), .val (.int (2 : Int32)), .val (.long e0), .second, .val (.long e1), .second, .val (.long e2), .second, .val (.ref b41), .unset, .unset] D0_135 rfl rfl ?_
    refine g_aload C D0_137 rfl rfl ?_
    refine g_aload C D0_139 rfl rfl ?_
    refine g_iconst C (0 : Int32) rfl D0_141 ?_
    refine g_laload C D0_142 AwA (by decide) (by decide) lw1 rfl ?_
    refine g_lconst C (0 : Int64) rfl D0_143 ?_
    refine g_lload C D0_144 rfl ?_
    refine g_lload C D0_146 rfl ?_
    refine g_callV C (c_add l hw hA n0 hz2 b41 b41 lw1 (0 : Int64) e0 i_d g 0 1 0 i_d (fun _ => (0 : Int64)) (fun _ => (0 : Int64)) (fun _ => (0 : Int64)) 0 ge42 HA (by decide) (by decide) rfl rfl (Or.inl ⟨rfl, rfl⟩)) (wd_33 hw) (wd_34 hw) (wd_35 hw) (wd_36 hw) (wd_16 hw) (wd_37 hw) (by decide) D0_148 pd_4 (BT.exa HA) [(.long lw1), (.long (0 : Int64)), (.long e0), (.long i_d)] [] rfl rfl rfl 0 (Nat.le_of_eq rfl) (by decide) (by decide) (by decide) (by decide) ?_
    rintro _ hB49 ⟨rfl, HB51, KB50⟩
    have hz52 : n0 ≤ hB49.size := Nat.le_trans hz2 KB50.1
    have AwB53 := AwA.kl KB50 lt_b
    refine g_cast (f' := mkF m 151 #[.val (.long i_a), .second, .val (.long i_b), .second, .val (.long i_c), .second, .val (.long i_d), .second, .val (.int i_f), .val (.long lw1), .second, .val (.long hg1), .second, .val (.long md), .second, .val (.ref b2), .val (.int g), .val (.int (2 : Int32)), .val (.long e0), .second, .val (.long e1), .second, .val (.long e2), .second, .val (.ref b41), .unset, .unset] []) rfl ?_
    refine g_iload C D0_151 rfl ?_
    refine g_iconst C (1 : Int32) rfl D0_153 ?_
    refine g_icmp_le C D0_154 (fun q54 => ?_) (fun q54 => ?_)
    · exfalso
      exact q54 (by decide)
    refine g_aload C D0_157 rfl rfl ?_
    refine g_aload C D0_159 rfl rfl ?_
    refine g_iconst C (1 : Int32) rfl D0_161 ?_
    refine g_laload C D0_162 AwB53 (by decide) (by decide) md rfl ?_
    refine g_lconst C (1 : Int64) rfl D0_163 ?_
    refine g_lload C D0_164 rfl ?_
    refine g_lload C D0_166 rfl ?_
    refine g_callV C (c_add l hw hB49 n0 hz52 b41 b41 md (1 : Int64) e1 i_d g 1 2 e0 (max2 i_d i_d) (upd (fun _ => (0 : Int64)) 0 lw1) (upd (fun _ => (0 : Int64)) 0 i_d) (upd (fun _ => (0 : Int64)) 0 e0) 1 ge42 HB51 (by decide) (by decide) rfl rfl (Or.inr ⟨by decide, maxI _ _⟩)) (wd_33 hw) (wd_34 hw) (wd_35 hw) (wd_36 hw) (wd_16 hw) (wd_37 hw) (by decide) D0_168 pd_4 (BT.exa HB51) [(.long md), (.long (1 : Int64)), (.long e1), (.long i_d)] [] rfl rfl rfl 0 (Nat.le_of_eq rfl) (by decide) (by decide) (by decide) (by decide) ?_
    rintro _ hB55 ⟨rfl, HB57, KB56⟩
    have hz58 : n0 ≤ hB55.size := Nat.le_trans hz52 KB56.1
    have AwB59 := AwB53.kl KB56 lt_b
    refine g_cast (f' := mkF m 171 #[.val (.long i_a), .second, .val (.long i_b), .second, .val (.long i_c), .second, .val (.long i_d), .second, .val (.int i_f), .val (.long lw1), .second, .val (.long hg1), .second, .val (.long md), .second, .val (.ref b2), .val (.int g), .val (.int (2 : Int32)), .val (.long e0), .second, .val (.long e1), .second, .val (.long e2), .second, .val (.ref b41), .unset, .unset] []) rfl ?_
    refine g_iload C D0_171 rfl ?_
    refine g_iconst C (2 : Int32) rfl D0_173 ?_
    refine g_icmp_le C D0_174 (fun q60 => ?_) (fun q60 => ?_)
    rotate_left
    · exfalso
      exact absurd q60 (by decide)
    have hK : g = 0 → ∀ k : Nat, k + 1 < 2 → (upd (upd (fun _ => (0 : Int64)) 0 lw1) 1 md) (k + 1) = (upd (upd (fun _ => (0 : Int64)) 0 e0) 1 e1) k := by
      intro z k hk
      obtain rfl : k = 0 := by omega
      exact (he0 z (by decide)).symm
    refine g_iload C D0_193 rfl ?_
    refine g_istore C #[.val (.long i_a), .second, .val (.long i_b), .second, .val (.long i_c), .second, .val (.long i_d), .second, .val (.int i_f), .val (.long lw1), .second, .val (.long hg1), .second, .val (.long md), .second, .val (.ref b2), .val (.int g), .val (.int (2 : Int32)), .val (.long e0), .second, .val (.long e1), .second, .val (.long e2), .second, .val (.ref b41), .val (.int (2 : Int32)), .unset] D0_195 rfl ?_
    have HP61 : BT Z hB55 b41 b41 g 2 ((upd (upd (fun _ => (0 : Int64)) 0 e0) 1 e1) ((2 : Int32).toInt.toNat - 1)) (upd (upd (fun _ => (0 : Int64)) 0 lw1) 1 md) (upd (upd (fun _ => (0 : Int64)) 0 i_d) 1 (max2 i_d i_d)) (upd (upd (fun _ => (0 : Int64)) 0 e0) 1 e1) := HB57
    refine g_join (ι := Heap × Int32) (fun y => y.1) 6 266 (fun y => mkF m 225 #[.val (.long i_a), .second, .val (.long i_b), .second, .val (.long i_c), .second, .val (.long i_d), .second, .val (.int i_f), .val (.long lw1), .second, .val (.long hg1), .second, .val (.long md), .second, .val (.ref b2), .val (.int g), .val (.int (2 : Int32)), .val (.long e0), .second, .val (.long e1), .second, .val (.long e2), .second, .val (.ref b41), .val (.int y.2), .unset] []) (fun y => BT Z y.1 b41 b41 g y.2 ((upd (upd (fun _ => (0 : Int64)) 0 e0) 1 e1) (y.2.toInt.toNat - 1)) (upd (upd (fun _ => (0 : Int64)) 0 lw1) 1 md) (upd (upd (fun _ => (0 : Int64)) 0 i_d) 1 (max2 i_d i_d)) (upd (upd (fun _ => (0 : Int64)) 0 e0) 1 e1) ∧ n0 ≤ y.1.size ∧ 1 ≤ y.2.toInt ∧ y.2.toInt ≤ 2) (fun J => ?_) ?_
    · refine g_iload C D0_197 rfl ?_
      refine g_bipush C (32 : Int32) rfl D0_199 ?_
      refine g_iand C D0_201 ?_
      refine g_if_eq C D0_202 (fun q62 => ?_) (fun q62 => ?_)
      · exact J (hB55, 2) ⟨HP61, hz58, by show (1 : Int) ≤ (2 : Int32).toInt; decide, by show (2 : Int32).toInt ≤ 2; decide⟩
      · refine g_iconst C (1 : Int32) rfl D0_205 ?_
        refine g_iload C D0_206 rfl ?_
        refine g_iconst C (3 : Int32) rfl D0_208 ?_
        refine g_iushr C D0_209 ?_
        refine g_iconst C (3 : Int32) rfl D0_210 ?_
        refine g_iand C D0_211 ?_
        refine g_iload C D0_212 rfl ?_
        refine g_irem C D0_214 (by decide) ?_
        refine g_iadd C D0_215 ?_
        generalize q_m1 : ((1 : Int32) + (((ushrI i_f (3 : Int32)) &&& (3 : Int32)) - (((ushrI i_f (3 : Int32)) &&& (3 : Int32)) / (2 : Int32)) * (2 : Int32))) = m1
        have b_m := modn (ushrI i_f 3) 2 (by decide)
        rw [q_m1, show (2 : Int32).toInt = 2 from rfl] at b_m
        have k1 : (m1 - 1).toInt = m1.toInt - 1 := sub1 (fun z => by rw [z] at b_m; exact absurd b_m.1 (by decide)) (by omega)
        refine g_istore C #[.val (.long i_a), .second, .val (.long i_b), .second, .val (.long i_c), .second, .val (.long i_d), .second, .val (.int i_f), .val (.long lw1), .second, .val (.long hg1), .second, .val (.long md), .second, .val (.ref b2), .val (.int g), .val (.int (2 : Int32)), .val (.long e0), .second, .val (.long e1), .second, .val (.long e2), .second, .val (.ref b41), .val (.int m1), .unset] D0_216 rfl ?_
        refine g_aload C D0_218 rfl rfl ?_
        refine g_iload C D0_220 rfl ?_
        refine g_callV C (c_tr l hw hB55 n0 hz58 b41 b41 m1 ((upd (upd (fun _ => (0 : Int64)) 0 e0) 1 e1) (m1 - 1).toInt.toNat) g 2 _ (upd (upd (fun _ => (0 : Int64)) 0 lw1) 1 md) (upd (upd (fun _ => (0 : Int64)) 0 i_d) 1 (max2 i_d i_d)) (upd (upd (fun _ => (0 : Int64)) 0 e0) 1 e1) HP61 b_m.1 (by omega) ge42 (next_ok hK (by omega) (by rw [k1, show (2 : Int32).toInt = 2 from rfl]; omega) (by decide) (by decide))) (wd_49 hw) (wd_50 hw) (wd_51 hw) (wd_52 hw) (wd_16 hw) (wd_53 hw) (by decide) D0_222 pd_5 (BT.exa HP61) [(.int m1)] [] rfl rfl rfl 0 (Nat.le_of_eq rfl) (by decide) (by decide) (by decide) (by decide) ?_
        rintro _ hT ⟨rfl, HT, KT⟩
        refine g_cast (f' := mkF m 225 #[.val (.long i_a), .second, .val (.long i_b), .second, .val (.long i_c), .second, .val (.long i_d), .second, .val (.int i_f), .val (.long lw1), .second, .val (.long hg1), .second, .val (.long md), .second, .val (.ref b2), .val (.int g), .val (.int (2 : Int32)), .val (.long e0), .second, .val (.long e1), .second, .val (.long e2), .second, .val (.ref b41), .val (.int m1), .unset] []) rfl ?_
        have hzT : n0 ≤ hT.size := Nat.le_trans hz58 KT.1
        have HT' : BT Z hT b41 b41 g m1 ((upd (upd (fun _ => (0 : Int64)) 0 e0) 1 e1) (m1.toInt.toNat - 1)) (upd (upd (fun _ => (0 : Int64)) 0 lw1) 1 md) (upd (upd (fun _ => (0 : Int64)) 0 i_d) 1 (max2 i_d i_d)) (upd (upd (fun _ => (0 : Int64)) 0 e0) 1 e1) := by
          have e : (m1 - 1).toInt.toNat = m1.toInt.toNat - 1 := by rw [k1]; omega
          rw [← e]; exact HT
        exact J (hT, m1) ⟨HT', hzT, b_m.1, b_m.2⟩
    rintro ⟨hJ, mJ⟩ ⟨HJ, hzJ, b_1, b_2⟩
    try dsimp only at HJ hzJ b_1 b_2 ⊢
    refine g_aload C D0_225 rfl rfl ?_
    refine g_iconst C (0 : Int32) rfl D0_227 ?_
    refine g_callV C (c_no l hw hJ n0 hzJ b41 b41 0 e0 g mJ _ (upd (upd (fun _ => (0 : Int64)) 0 lw1) 1 md) (upd (upd (fun _ => (0 : Int64)) 0 i_d) 1 (max2 i_d i_d)) (upd (upd (fun _ => (0 : Int64)) 0 e0) 1 e1) HJ (by decide) (by decide) ge42 (next_ok (n := 2) hK (by decide) (by show (0 : Int) < mJ.toInt; omega) (by omega) (by omega))) (wd_43 hw) (wd_44 hw) (wd_45 hw) (wd_46 hw) (wd_16 hw) (wd_47 hw) (by decide) D0_228 pd_1 (BT.exa HJ) [(.int (0 : Int32))] [] rfl rfl rfl 0 (Nat.le_of_eq rfl) (by decide) (by decide) (by decide) (by decide) ?_
    rintro _ _ ⟨rfl, rfl⟩
    refine g_cast (f' := mkF m 231 #[.val (.long i_a), .second, .val (.long i_b), .second, .val (.long i_c), .second, .val (.long i_d), .second, .val (.int i_f), .val (.long lw1), .second, .val (.long hg1), .second, .val (.long md), .second, .val (.ref b2), .val (.int g), .val (.int (2 : Int32)), .val (.long e0), .second, .val (.long e1), .second, .val (.long e2), .second, .val (.ref b41), .val (.int mJ), .unset] [(.long e0)]) rfl ?_
    refine g_lload C D0_231 rfl ?_
    refine g_lcmp_ne C D0_233 D0_234 (fun q63 => ?_) (fun q63 => ?_)
    · exfalso
      exact q63 rfl
    refine g_iconst C (1 : Int32) rfl D0_237 ?_
    refine g_goto C D0_238 ?_
    refine g_istore C #[.val (.long i_a), .second, .val (.long i_b), .second, .val (.long i_c), .second, .val (.long i_d), .second, .val (.int i_f), .val (.long lw1), .second, .val (.long hg1), .second, .val (.long md), .second, .val (.ref b2), .val (.int g), .val (.int (2 : Int32)), .val (.long e0), .second, .val (.long e1), .second, .val (.long e2), .second, .val (.ref b41), .val (.int mJ), .val (.int (1 : Int32))] D0_242 rfl ?_
    refine g_iload C D0_244 rfl ?_
    refine g_iconst C (1 : Int32) rfl D0_246 ?_
    refine g_icmp_le C D0_247 (fun q64 => ?_) (fun q64 => ?_)
    · have g1 : mJ.toInt ≤ 1 := lt_lit q64 rfl
      refine g_iload C D0_274 rfl ?_
      refine g_iconst C (2 : Int32) rfl D0_276 ?_
      refine g_icmp_le C D0_277 (fun q65 => ?_) (fun q65 => ?_)
      rotate_left
      · exfalso
        have := gt_lit (j := 2) q65 rfl; omega
      refine g_iload C D0_304 rfl ?_
      refine g_retZ C D0_306 (by decide) (by decide) ?_
      exact ⟨rfl, trivial⟩
    · have g1 : 1 < mJ.toInt := gt_lit q64 rfl
      refine g_iload C D0_250 rfl ?_
      refine g_if_eq C D0_252 (fun q66 => ?_) (fun q66 => ?_)
      · exfalso
        exact absurd q66 (by decide)
      refine g_aload C D0_255 rfl rfl ?_
      refine g_iconst C (1 : Int32) rfl D0_257 ?_
      refine g_callV C (c_no l hw hJ n0 hzJ b41 b41 1 e1 g mJ _ (upd (upd (fun _ => (0 : Int64)) 0 lw1) 1 md) (upd (upd (fun _ => (0 : Int64)) 0 i_d) 1 (max2 i_d i_d)) (upd (upd (fun _ => (0 : Int64)) 0 e0) 1 e1) HJ (by decide) (by decide) ge42 (next_ok (n := 2) hK (by decide) g1 (by omega) (by omega))) (wd_43 hw) (wd_44 hw) (wd_45 hw) (wd_46 hw) (wd_16 hw) (wd_47 hw) (by decide) D0_258 pd_1 (BT.exa HJ) [(.int (1 : Int32))] [] rfl rfl rfl 0 (Nat.le_of_eq rfl) (by decide) (by decide) (by decide) (by decide) ?_
      rintro _ _ ⟨rfl, rfl⟩
      refine g_cast (f' := mkF m 261 #[.val (.long i_a), .second, .val (.long i_b), .second, .val (.long i_c), .second, .val (.long i_d), .second, .val (.int i_f), .val (.long lw1), .second, .val (.long hg1), .second, .val (.long md), .second, .val (.ref b2), .val (.int g), .val (.int (2 : Int32)), .val (.long e0), .second, .val (.long e1), .second, .val (.long e2), .second, .val (.ref b41), .val (.int mJ), .val (.int (1 : Int32))] [(.long e1)]) rfl ?_
      refine g_lload C D0_261 rfl ?_
      refine g_lcmp_ne C D0_263 D0_264 (fun q67 => ?_) (fun q67 => ?_)
      · exfalso
        exact q67 rfl
      refine g_iconst C (1 : Int32) rfl D0_267 ?_
      refine g_goto C D0_268 ?_
      refine g_istore C #[.val (.long i_a), .second, .val (.long i_b), .second, .val (.long i_c), .second, .val (.long i_d), .second, .val (.int i_f), .val (.long lw1), .second, .val (.long hg1), .second, .val (.long md), .second, .val (.ref b2), .val (.int g), .val (.int (2 : Int32)), .val (.long e0), .second, .val (.long e1), .second, .val (.long e2), .second, .val (.ref b41), .val (.int mJ), .val (.int (1 : Int32))] D0_272 rfl ?_
      refine g_iload C D0_274 rfl ?_
      refine g_iconst C (2 : Int32) rfl D0_276 ?_
      refine g_icmp_le C D0_277 (fun q68 => ?_) (fun q68 => ?_)
      · refine g_iload C D0_304 rfl ?_
        refine g_retZ C D0_306 (by decide) (by decide) ?_
        exact ⟨rfl, trivial⟩
      · have g2 : 2 < mJ.toInt := gt_lit q68 rfl
        omega
  · subst q_k
    refine g_aload C D0_84 rfl rfl ?_
    refine g_iconst C (0 : Int32) rfl D0_86 ?_
    refine g_iload C D0_87 rfl ?_
    refine g_iload C D0_89 rfl ?_
    refine g_lload C D0_91 rfl ?_
    refine g_callS C (c_end l hw h15 n0 hzw b2 0 3 g i_d (upd (upd (upd (fun _ => (0 : Int64)) 0 lw1) 1 md) 2 hg1) Aw (by decide) (by decide)) (wd_8 hw) (wd_9 hw) (wd_10 hw) (wd_11 hw) (by decide) D0_93 pd_2 [(.ref b2), (.int (0 : Int32)), (.int (3 : Int32)), (.int g), (.long i_d)] [] rfl rfl rfl 0 (Nat.le_of_eq rfl) (by decide) (by decide) (by decide) (by decide) ?_
    rintro _ _ ⟨e0, rfl, he0, rfl⟩
    refine g_cast (f' := mkF m 96 #[.val (.long i_a), .second, .val (.long i_b), .second, .val (.long i_c), .second, .val (.long i_d), .second, .val (.int i_f), .val (.long lw1), .second, .val (.long hg1), .second, .val (.long md), .second, .val (.ref b2), .val (.int g), .val (.int (3 : Int32)), .unset, .unset, .unset, .unset, .unset, .unset, .unset, .unset, .unset] [(.long e0)]) rfl ?_
    refine g_lstore C #[.val (.long i_a), .second, .val (.long i_b), .second, .val (.long i_c), .second, .val (.long i_d), .second, .val (.int i_f), .val (.long lw1), .second, .val (.long hg1), .second, .val (.long md), .second, .val (.ref b2), .val (.int g), .val (.int (3 : Int32)), .val (.long e0), .second, .unset, .unset, .unset, .unset, .unset, .unset, .unset] D0_96 rfl ?_
    refine g_aload C D0_98 rfl rfl ?_
    refine g_iconst C (1 : Int32) rfl D0_100 ?_
    refine g_iload C D0_101 rfl ?_
    refine g_iload C D0_103 rfl ?_
    refine g_lload C D0_105 rfl ?_
    refine g_callS C (c_end l hw h15 n0 hzw b2 1 3 g i_d (upd (upd (upd (fun _ => (0 : Int64)) 0 lw1) 1 md) 2 hg1) Aw (by decide) (by decide)) (wd_8 hw) (wd_9 hw) (wd_10 hw) (wd_11 hw) (by decide) D0_107 pd_2 [(.ref b2), (.int (1 : Int32)), (.int (3 : Int32)), (.int g), (.long i_d)] [] rfl rfl rfl 0 (Nat.le_of_eq rfl) (by decide) (by decide) (by decide) (by decide) ?_
    rintro _ _ ⟨e1, rfl, he1, rfl⟩
    refine g_cast (f' := mkF m 110 #[.val (.long i_a), .second, .val (.long i_b), .second, .val (.long i_c), .second, .val (.long i_d), .second, .val (.int i_f), .val (.long lw1), .second, .val (.long hg1), .second, .val (.long md), .second, .val (.ref b2), .val (.int g), .val (.int (3 : Int32)), .val (.long e0), .second, .unset, .unset, .unset, .unset, .unset, .unset, .unset] [(.long e1)]) rfl ?_
    refine g_lstore C #[.val (.long i_a), .second, .val (.long i_b), .second, .val (.long i_c), .second, .val (.long i_d), .second, .val (.int i_f), .val (.long lw1), .second, .val (.long hg1), .second, .val (.long md), .second, .val (.ref b2), .val (.int g), .val (.int (3 : Int32)), .val (.long e0), .second, .val (.long e1), .second, .unset, .unset, .unset, .unset, .unset] D0_110 rfl ?_
    refine g_aload C D0_112 rfl rfl ?_
    refine g_iconst C (2 : Int32) rfl D0_114 ?_
    refine g_iload C D0_115 rfl ?_
    refine g_iload C D0_117 rfl ?_
    refine g_lload C D0_119 rfl ?_
    refine g_callS C (c_end l hw h15 n0 hzw b2 2 3 g i_d (upd (upd (upd (fun _ => (0 : Int64)) 0 lw1) 1 md) 2 hg1) Aw (by decide) (by decide)) (wd_8 hw) (wd_9 hw) (wd_10 hw) (wd_11 hw) (by decide) D0_121 pd_2 [(.ref b2), (.int (2 : Int32)), (.int (3 : Int32)), (.int g), (.long i_d)] [] rfl rfl rfl 0 (Nat.le_of_eq rfl) (by decide) (by decide) (by decide) (by decide) ?_
    rintro _ _ ⟨e2, rfl, he2, rfl⟩
    refine g_cast (f' := mkF m 124 #[.val (.long i_a), .second, .val (.long i_b), .second, .val (.long i_c), .second, .val (.long i_d), .second, .val (.int i_f), .val (.long lw1), .second, .val (.long hg1), .second, .val (.long md), .second, .val (.ref b2), .val (.int g), .val (.int (3 : Int32)), .val (.long e0), .second, .val (.long e1), .second, .unset, .unset, .unset, .unset, .unset] [(.long e2)]) rfl ?_
    refine g_lstore C #[.val (.long i_a), .second, .val (.long i_b), .second, .val (.long i_c), .second, .val (.long i_d), .second, .val (.int i_f), .val (.long lw1), .second, .val (.long hg1), .second, .val (.long md), .second, .val (.ref b2), .val (.int g), .val (.int (3 : Int32)), .val (.long e0), .second, .val (.long e1), .second, .val (.long e2), .second, .unset, .unset, .unset] D0_124 rfl ?_
    refine g_new C (wd_14 hw) (wd_15 hw) (wd_16 hw) D0_126 (by decide) (by decide) ?_
    intro h69 b70 ge71 ea72 E73 X74 F75
    have H76 : RB Z h69 b70 .null .null .null (0 : Int32) .null (0 : Int32) (0 : Int64) := ⟨X74, F75 (Or.inl (wd_24 hw)) (ty := (.array .long)) (by decide), F75 (Or.inl (wd_26 hw)) (ty := (.array .long)) (by decide), F75 (Or.inl (wd_28 hw)) (ty := (.array .long)) (by decide), F75 (Or.inr (wd_30 hw)) (ty := .boolean) (by decide), F75 (Or.inl (wd_32 hw)) (ty := (.array .long)) (by decide), F75 (Or.inl (wd_39 hw)) (ty := .int) (by decide), F75 (Or.inl (wd_41 hw)) (ty := .long) (by decide)⟩
    have ne_b2_b70 : b2 ≠ b70 := Nat.ne_of_lt (ea72 ▸ Aw.lt)
    have A77 := Aw.ext E73
    have lt_b : b2 < b70 := by rw [ea72]; exact Aw.lt
    refine g_dup C D0_129 rfl ?_
    refine g_iload C D0_130 rfl ?_
    have hz1 : n0 ≤ h69.size := Nat.le_trans ge71 (Nat.le_of_lt H76.lt)
    refine g_callI C (c_init l hw h69 n0 hz1 b70 b70 g ge71 (Nat.le_refl _) hg H76) rfl (wd_17 hw) (wd_18 hw) (wd_16 hw) (wd_19 hw) (by decide) D0_132 pd_3 [(.int g)] [(.ref b70)] rfl rfl rfl 1 (Nat.le_of_eq rfl) (by decide) (by decide) (by decide) (by decide) ?_
    rintro _ hA ⟨rfl, HA, KA⟩
    have hz2 : n0 ≤ hA.size := Nat.le_trans hz1 KA.1
    have AwA := A77.kl KA lt_b
    refine g_cast (f' := mkF m 135 #[.val (.long i_a), .second, .val (.long i_b), .second, .val (.long i_c), .second, .val (.long i_d), .second, .val (.int i_f), .val (.long lw1), .second, .val (.long hg1), .second, .val (.long md), .second, .val (.ref b2), .val (.int g), .val (.int (3 : Int32)), .val (.long e0), .second, .val (.long e1), .second, .val (.long e2), .second, .unset, .unset, .unset] [(.ref b70)]) rfl ?_
    refine g_astore C #[.val (.long i_a), .second, .val (.long i_b), .second, .val (.long i_c), .second, .val (.long i_d), .second, .val (.int i_f), .val (.long lw1), .second, .val (.long hg1), .second, .val (.long md), .second, .val (.ref b2), .val (.int g), .val (.int (3 : Int32)), .val (.long e0), .second, .val (.long e1), .second, .val (.long e2), .second, .val (.ref b70), .unset, .unset] D0_135 rfl rfl ?_
    refine g_aload C D0_137 rfl rfl ?_
    refine g_aload C D0_139 rfl rfl ?_
    refine g_iconst C (0 : Int32) rfl D0_141 ?_
    refine g_laload C D0_142 AwA (by decide) (by decide) lw1 rfl ?_
    refine g_lconst C (0 : Int64) rfl D0_143 ?_
    refine g_lload C D0_144 rfl ?_
    refine g_lload C D0_146 rfl ?_
    refine g_callV C (c_add l hw hA n0 hz2 b70 b70 lw1 (0 : Int64) e0 i_d g 0 1 0 i_d (fun _ => (0 : Int64)) (fun _ => (0 : Int64)) (fun _ => (0 : Int64)) 0 ge71 HA (by decide) (by decide) rfl rfl (Or.inl ⟨rfl, rfl⟩)) (wd_33 hw) (wd_34 hw) (wd_35 hw) (wd_36 hw) (wd_16 hw) (wd_37 hw) (by decide) D0_148 pd_4 (BT.exa HA) [(.long lw1), (.long (0 : Int64)), (.long e0), (.long i_d)] [] rfl rfl rfl 0 (Nat.le_of_eq rfl) (by decide) (by decide) (by decide) (by decide) ?_
    rintro _ hB78 ⟨rfl, HB80, KB79⟩
    have hz81 : n0 ≤ hB78.size := Nat.le_trans hz2 KB79.1
    have AwB82 := AwA.kl KB79 lt_b
    refine g_cast (f' := mkF m 151 #[.val (.long i_a), .second, .val (.long i_b), .second, .val (.long i_c), .second, .val (.long i_d), .second, .val (.int i_f), .val (.long lw1), .second, .val (.long hg1), .second, .val (.long md), .second, .val (.ref b2), .val (.int g), .val (.int (3 : Int32)), .val (.long e0), .second, .val (.long e1), .second, .val (.long e2), .second, .val (.ref b70), .unset, .unset] []) rfl ?_
    refine g_iload C D0_151 rfl ?_
    refine g_iconst C (1 : Int32) rfl D0_153 ?_
    refine g_icmp_le C D0_154 (fun q83 => ?_) (fun q83 => ?_)
    · exfalso
      exact q83 (by decide)
    refine g_aload C D0_157 rfl rfl ?_
    refine g_aload C D0_159 rfl rfl ?_
    refine g_iconst C (1 : Int32) rfl D0_161 ?_
    refine g_laload C D0_162 AwB82 (by decide) (by decide) md rfl ?_
    refine g_lconst C (1 : Int64) rfl D0_163 ?_
    refine g_lload C D0_164 rfl ?_
    refine g_lload C D0_166 rfl ?_
    refine g_callV C (c_add l hw hB78 n0 hz81 b70 b70 md (1 : Int64) e1 i_d g 1 2 e0 (max2 i_d i_d) (upd (fun _ => (0 : Int64)) 0 lw1) (upd (fun _ => (0 : Int64)) 0 i_d) (upd (fun _ => (0 : Int64)) 0 e0) 1 ge71 HB80 (by decide) (by decide) rfl rfl (Or.inr ⟨by decide, maxI _ _⟩)) (wd_33 hw) (wd_34 hw) (wd_35 hw) (wd_36 hw) (wd_16 hw) (wd_37 hw) (by decide) D0_168 pd_4 (BT.exa HB80) [(.long md), (.long (1 : Int64)), (.long e1), (.long i_d)] [] rfl rfl rfl 0 (Nat.le_of_eq rfl) (by decide) (by decide) (by decide) (by decide) ?_
    rintro _ hB84 ⟨rfl, HB86, KB85⟩
    have hz87 : n0 ≤ hB84.size := Nat.le_trans hz81 KB85.1
    have AwB88 := AwB82.kl KB85 lt_b
    refine g_cast (f' := mkF m 171 #[.val (.long i_a), .second, .val (.long i_b), .second, .val (.long i_c), .second, .val (.long i_d), .second, .val (.int i_f), .val (.long lw1), .second, .val (.long hg1), .second, .val (.long md), .second, .val (.ref b2), .val (.int g), .val (.int (3 : Int32)), .val (.long e0), .second, .val (.long e1), .second, .val (.long e2), .second, .val (.ref b70), .unset, .unset] []) rfl ?_
    refine g_iload C D0_171 rfl ?_
    refine g_iconst C (2 : Int32) rfl D0_173 ?_
    refine g_icmp_le C D0_174 (fun q89 => ?_) (fun q89 => ?_)
    · exfalso
      exact q89 (by decide)
    refine g_aload C D0_177 rfl rfl ?_
    refine g_aload C D0_179 rfl rfl ?_
    refine g_iconst C (2 : Int32) rfl D0_181 ?_
    refine g_laload C D0_182 AwB88 (by decide) (by decide) hg1 rfl ?_
    refine g_ldc2 C (wd_48 hw) D0_183 ?_
    refine g_lload C D0_186 rfl ?_
    refine g_lload C D0_188 rfl ?_
    refine g_callV C (c_add l hw hB84 n0 hz87 b70 b70 hg1 (2 : Int64) e2 i_d g 2 3 e1 (max2 (max2 i_d i_d) i_d) (upd (upd (fun _ => (0 : Int64)) 0 lw1) 1 md) (upd (upd (fun _ => (0 : Int64)) 0 i_d) 1 (max2 i_d i_d)) (upd (upd (fun _ => (0 : Int64)) 0 e0) 1 e1) 2 ge71 HB86 (by decide) (by decide) rfl rfl (Or.inr ⟨by decide, maxI _ _⟩)) (wd_33 hw) (wd_34 hw) (wd_35 hw) (wd_36 hw) (wd_16 hw) (wd_37 hw) (by decide) D0_190 pd_4 (BT.exa HB86) [(.long hg1), (.long (2 : Int64)), (.long e2), (.long i_d)] [] rfl rfl rfl 0 (Nat.le_of_eq rfl) (by decide) (by decide) (by decide) (by decide) ?_
    rintro _ hB90 ⟨rfl, HB92, KB91⟩
    have hz93 : n0 ≤ hB90.size := Nat.le_trans hz87 KB91.1
    have AwB94 := AwB88.kl KB91 lt_b
    refine g_cast (f' := mkF m 193 #[.val (.long i_a), .second, .val (.long i_b), .second, .val (.long i_c), .second, .val (.long i_d), .second, .val (.int i_f), .val (.long lw1), .second, .val (.long hg1), .second, .val (.long md), .second, .val (.ref b2), .val (.int g), .val (.int (3 : Int32)), .val (.long e0), .second, .val (.long e1), .second, .val (.long e2), .second, .val (.ref b70), .unset, .unset] []) rfl ?_
    have hK : g = 0 → ∀ k : Nat, k + 1 < 3 → (upd (upd (upd (fun _ => (0 : Int64)) 0 lw1) 1 md) 2 hg1) (k + 1) = (upd (upd (upd (fun _ => (0 : Int64)) 0 e0) 1 e1) 2 e2) k := by
      intro z k hk
      rcases (show k = 0 ∨ k = 1 by omega) with rfl | rfl
      · exact (he0 z (by decide)).symm
      · exact (he1 z (by decide)).symm
    refine g_iload C D0_193 rfl ?_
    refine g_istore C #[.val (.long i_a), .second, .val (.long i_b), .second, .val (.long i_c), .second, .val (.long i_d), .second, .val (.int i_f), .val (.long lw1), .second, .val (.long hg1), .second, .val (.long md), .second, .val (.ref b2), .val (.int g), .val (.int (3 : Int32)), .val (.long e0), .second, .val (.long e1), .second, .val (.long e2), .second, .val (.ref b70), .val (.int (3 : Int32)), .unset] D0_195 rfl ?_
    have HP95 : BT Z hB90 b70 b70 g 3 ((upd (upd (upd (fun _ => (0 : Int64)) 0 e0) 1 e1) 2 e2) ((3 : Int32).toInt.toNat - 1)) (upd (upd (upd (fun _ => (0 : Int64)) 0 lw1) 1 md) 2 hg1) (upd (upd (upd (fun _ => (0 : Int64)) 0 i_d) 1 (max2 i_d i_d)) 2 (max2 (max2 i_d i_d) i_d)) (upd (upd (upd (fun _ => (0 : Int64)) 0 e0) 1 e1) 2 e2) := HB92
    refine g_join (ι := Heap × Int32) (fun y => y.1) 6 266 (fun y => mkF m 225 #[.val (.long i_a), .second, .val (.long i_b), .second, .val (.long i_c), .second, .val (.long i_d), .second, .val (.int i_f), .val (.long lw1), .second, .val (.long hg1), .second, .val (.long md), .second, .val (.ref b2), .val (.int g), .val (.int (3 : Int32)), .val (.long e0), .second, .val (.long e1), .second, .val (.long e2), .second, .val (.ref b70), .val (.int y.2), .unset] []) (fun y => BT Z y.1 b70 b70 g y.2 ((upd (upd (upd (fun _ => (0 : Int64)) 0 e0) 1 e1) 2 e2) (y.2.toInt.toNat - 1)) (upd (upd (upd (fun _ => (0 : Int64)) 0 lw1) 1 md) 2 hg1) (upd (upd (upd (fun _ => (0 : Int64)) 0 i_d) 1 (max2 i_d i_d)) 2 (max2 (max2 i_d i_d) i_d)) (upd (upd (upd (fun _ => (0 : Int64)) 0 e0) 1 e1) 2 e2) ∧ n0 ≤ y.1.size ∧ 1 ≤ y.2.toInt ∧ y.2.toInt ≤ 3) (fun J => ?_) ?_
    · refine g_iload C D0_197 rfl ?_
      refine g_bipush C (32 : Int32) rfl D0_199 ?_
      refine g_iand C D0_201 ?_
      refine g_if_eq C D0_202 (fun q96 => ?_) (fun q96 => ?_)
      · exact J (hB90, 3) ⟨HP95, hz93, by show (1 : Int) ≤ (3 : Int32).toInt; decide, by show (3 : Int32).toInt ≤ 3; decide⟩
      · refine g_iconst C (1 : Int32) rfl D0_205 ?_
        refine g_iload C D0_206 rfl ?_
        refine g_iconst C (3 : Int32) rfl D0_208 ?_
        refine g_iushr C D0_209 ?_
        refine g_iconst C (3 : Int32) rfl D0_210 ?_
        refine g_iand C D0_211 ?_
        refine g_iload C D0_212 rfl ?_
        refine g_irem C D0_214 (by decide) ?_
        refine g_iadd C D0_215 ?_
        generalize q_m1 : ((1 : Int32) + (((ushrI i_f (3 : Int32)) &&& (3 : Int32)) - (((ushrI i_f (3 : Int32)) &&& (3 : Int32)) / (3 : Int32)) * (3 : Int32))) = m1
        have b_m := modn (ushrI i_f 3) 3 (by decide)
        rw [q_m1, show (3 : Int32).toInt = 3 from rfl] at b_m
        have k1 : (m1 - 1).toInt = m1.toInt - 1 := sub1 (fun z => by rw [z] at b_m; exact absurd b_m.1 (by decide)) (by omega)
        refine g_istore C #[.val (.long i_a), .second, .val (.long i_b), .second, .val (.long i_c), .second, .val (.long i_d), .second, .val (.int i_f), .val (.long lw1), .second, .val (.long hg1), .second, .val (.long md), .second, .val (.ref b2), .val (.int g), .val (.int (3 : Int32)), .val (.long e0), .second, .val (.long e1), .second, .val (.long e2), .second, .val (.ref b70), .val (.int m1), .unset] D0_216 rfl ?_
        refine g_aload C D0_218 rfl rfl ?_
        refine g_iload C D0_220 rfl ?_
        refine g_callV C (c_tr l hw hB90 n0 hz93 b70 b70 m1 ((upd (upd (upd (fun _ => (0 : Int64)) 0 e0) 1 e1) 2 e2) (m1 - 1).toInt.toNat) g 3 _ (upd (upd (upd (fun _ => (0 : Int64)) 0 lw1) 1 md) 2 hg1) (upd (upd (upd (fun _ => (0 : Int64)) 0 i_d) 1 (max2 i_d i_d)) 2 (max2 (max2 i_d i_d) i_d)) (upd (upd (upd (fun _ => (0 : Int64)) 0 e0) 1 e1) 2 e2) HP95 b_m.1 (by omega) ge71 (next_ok hK (by omega) (by rw [k1, show (3 : Int32).toInt = 3 from rfl]; omega) (by decide) (by decide))) (wd_49 hw) (wd_50 hw) (wd_51 hw) (wd_52 hw) (wd_16 hw) (wd_53 hw) (by decide) D0_222 pd_5 (BT.exa HP95) [(.int m1)] [] rfl rfl rfl 0 (Nat.le_of_eq rfl) (by decide) (by decide) (by decide) (by decide) ?_
        rintro _ hT ⟨rfl, HT, KT⟩
        refine g_cast (f' := mkF m 225 #[.val (.long i_a), .second, .val (.long i_b), .second, .val (.long i_c), .second, .val (.long i_d), .second, .val (.int i_f), .val (.long lw1), .second, .val (.long hg1), .second, .val (.long md), .second, .val (.ref b2), .val (.int g), .val (.int (3 : Int32)), .val (.long e0), .second, .val (.long e1), .second, .val (.long e2), .second, .val (.ref b70), .val (.int m1), .unset] []) rfl ?_
        have hzT : n0 ≤ hT.size := Nat.le_trans hz93 KT.1
        have HT' : BT Z hT b70 b70 g m1 ((upd (upd (upd (fun _ => (0 : Int64)) 0 e0) 1 e1) 2 e2) (m1.toInt.toNat - 1)) (upd (upd (upd (fun _ => (0 : Int64)) 0 lw1) 1 md) 2 hg1) (upd (upd (upd (fun _ => (0 : Int64)) 0 i_d) 1 (max2 i_d i_d)) 2 (max2 (max2 i_d i_d) i_d)) (upd (upd (upd (fun _ => (0 : Int64)) 0 e0) 1 e1) 2 e2) := by
          have e : (m1 - 1).toInt.toNat = m1.toInt.toNat - 1 := by rw [k1]; omega
          rw [← e]; exact HT
        exact J (hT, m1) ⟨HT', hzT, b_m.1, b_m.2⟩
    rintro ⟨hJ, mJ⟩ ⟨HJ, hzJ, b_1, b_2⟩
    try dsimp only at HJ hzJ b_1 b_2 ⊢
    refine g_aload C D0_225 rfl rfl ?_
    refine g_iconst C (0 : Int32) rfl D0_227 ?_
    refine g_callV C (c_no l hw hJ n0 hzJ b70 b70 0 e0 g mJ _ (upd (upd (upd (fun _ => (0 : Int64)) 0 lw1) 1 md) 2 hg1) (upd (upd (upd (fun _ => (0 : Int64)) 0 i_d) 1 (max2 i_d i_d)) 2 (max2 (max2 i_d i_d) i_d)) (upd (upd (upd (fun _ => (0 : Int64)) 0 e0) 1 e1) 2 e2) HJ (by decide) (by decide) ge71 (next_ok (n := 3) hK (by decide) (by show (0 : Int) < mJ.toInt; omega) (by omega) (by omega))) (wd_43 hw) (wd_44 hw) (wd_45 hw) (wd_46 hw) (wd_16 hw) (wd_47 hw) (by decide) D0_228 pd_1 (BT.exa HJ) [(.int (0 : Int32))] [] rfl rfl rfl 0 (Nat.le_of_eq rfl) (by decide) (by decide) (by decide) (by decide) ?_
    rintro _ _ ⟨rfl, rfl⟩
    refine g_cast (f' := mkF m 231 #[.val (.long i_a), .second, .val (.long i_b), .second, .val (.long i_c), .second, .val (.long i_d), .second, .val (.int i_f), .val (.long lw1), .second, .val (.long hg1), .second, .val (.long md), .second, .val (.ref b2), .val (.int g), .val (.int (3 : Int32)), .val (.long e0), .second, .val (.long e1), .second, .val (.long e2), .second, .val (.ref b70), .val (.int mJ), .unset] [(.long e0)]) rfl ?_
    refine g_lload C D0_231 rfl ?_
    refine g_lcmp_ne C D0_233 D0_234 (fun q97 => ?_) (fun q97 => ?_)
    · exfalso
      exact q97 rfl
    refine g_iconst C (1 : Int32) rfl D0_237 ?_
    refine g_goto C D0_238 ?_
    refine g_istore C #[.val (.long i_a), .second, .val (.long i_b), .second, .val (.long i_c), .second, .val (.long i_d), .second, .val (.int i_f), .val (.long lw1), .second, .val (.long hg1), .second, .val (.long md), .second, .val (.ref b2), .val (.int g), .val (.int (3 : Int32)), .val (.long e0), .second, .val (.long e1), .second, .val (.long e2), .second, .val (.ref b70), .val (.int mJ), .val (.int (1 : Int32))] D0_242 rfl ?_
    refine g_iload C D0_244 rfl ?_
    refine g_iconst C (1 : Int32) rfl D0_246 ?_
    refine g_icmp_le C D0_247 (fun q98 => ?_) (fun q98 => ?_)
    · have g1 : mJ.toInt ≤ 1 := lt_lit q98 rfl
      refine g_iload C D0_274 rfl ?_
      refine g_iconst C (2 : Int32) rfl D0_276 ?_
      refine g_icmp_le C D0_277 (fun q99 => ?_) (fun q99 => ?_)
      rotate_left
      · exfalso
        have := gt_lit (j := 2) q99 rfl; omega
      refine g_iload C D0_304 rfl ?_
      refine g_retZ C D0_306 (by decide) (by decide) ?_
      exact ⟨rfl, trivial⟩
    · have g1 : 1 < mJ.toInt := gt_lit q98 rfl
      refine g_iload C D0_250 rfl ?_
      refine g_if_eq C D0_252 (fun q100 => ?_) (fun q100 => ?_)
      · exfalso
        exact absurd q100 (by decide)
      refine g_aload C D0_255 rfl rfl ?_
      refine g_iconst C (1 : Int32) rfl D0_257 ?_
      refine g_callV C (c_no l hw hJ n0 hzJ b70 b70 1 e1 g mJ _ (upd (upd (upd (fun _ => (0 : Int64)) 0 lw1) 1 md) 2 hg1) (upd (upd (upd (fun _ => (0 : Int64)) 0 i_d) 1 (max2 i_d i_d)) 2 (max2 (max2 i_d i_d) i_d)) (upd (upd (upd (fun _ => (0 : Int64)) 0 e0) 1 e1) 2 e2) HJ (by decide) (by decide) ge71 (next_ok (n := 3) hK (by decide) g1 (by omega) (by omega))) (wd_43 hw) (wd_44 hw) (wd_45 hw) (wd_46 hw) (wd_16 hw) (wd_47 hw) (by decide) D0_258 pd_1 (BT.exa HJ) [(.int (1 : Int32))] [] rfl rfl rfl 0 (Nat.le_of_eq rfl) (by decide) (by decide) (by decide) (by decide) ?_
      rintro _ _ ⟨rfl, rfl⟩
      refine g_cast (f' := mkF m 261 #[.val (.long i_a), .second, .val (.long i_b), .second, .val (.long i_c), .second, .val (.long i_d), .second, .val (.int i_f), .val (.long lw1), .second, .val (.long hg1), .second, .val (.long md), .second, .val (.ref b2), .val (.int g), .val (.int (3 : Int32)), .val (.long e0), .second, .val (.long e1), .second, .val (.long e2), .second, .val (.ref b70), .val (.int mJ), .val (.int (1 : Int32))] [(.long e1)]) rfl ?_
      refine g_lload C D0_261 rfl ?_
      refine g_lcmp_ne C D0_263 D0_264 (fun q101 => ?_) (fun q101 => ?_)
      · exfalso
        exact q101 rfl
      refine g_iconst C (1 : Int32) rfl D0_267 ?_
      refine g_goto C D0_268 ?_
      refine g_istore C #[.val (.long i_a), .second, .val (.long i_b), .second, .val (.long i_c), .second, .val (.long i_d), .second, .val (.int i_f), .val (.long lw1), .second, .val (.long hg1), .second, .val (.long md), .second, .val (.ref b2), .val (.int g), .val (.int (3 : Int32)), .val (.long e0), .second, .val (.long e1), .second, .val (.long e2), .second, .val (.ref b70), .val (.int mJ), .val (.int (1 : Int32))] D0_272 rfl ?_
      refine g_iload C D0_274 rfl ?_
      refine g_iconst C (2 : Int32) rfl D0_276 ?_
      refine g_icmp_le C D0_277 (fun q102 => ?_) (fun q102 => ?_)
      · refine g_iload C D0_304 rfl ?_
        refine g_retZ C D0_306 (by decide) (by decide) ?_
        exact ⟨rfl, trivial⟩
      · have g2 : 2 < mJ.toInt := gt_lit q102 rfl
        refine g_iload C D0_280 rfl ?_
        refine g_if_eq C D0_282 (fun q103 => ?_) (fun q103 => ?_)
        · exfalso
          exact absurd q103 (by decide)
        refine g_aload C D0_285 rfl rfl ?_
        refine g_iconst C (2 : Int32) rfl D0_287 ?_
        refine g_callV C (c_no l hw hJ n0 hzJ b70 b70 2 e2 g mJ _ (upd (upd (upd (fun _ => (0 : Int64)) 0 lw1) 1 md) 2 hg1) (upd (upd (upd (fun _ => (0 : Int64)) 0 i_d) 1 (max2 i_d i_d)) 2 (max2 (max2 i_d i_d) i_d)) (upd (upd (upd (fun _ => (0 : Int64)) 0 e0) 1 e1) 2 e2) HJ (by decide) (by decide) ge71 (next_ok (n := 3) hK (by decide) g2 (by omega) (by omega))) (wd_43 hw) (wd_44 hw) (wd_45 hw) (wd_46 hw) (wd_16 hw) (wd_47 hw) (by decide) D0_288 pd_1 (BT.exa HJ) [(.int (2 : Int32))] [] rfl rfl rfl 0 (Nat.le_of_eq rfl) (by decide) (by decide) (by decide) (by decide) ?_
        rintro _ _ ⟨rfl, rfl⟩
        refine g_cast (f' := mkF m 291 #[.val (.long i_a), .second, .val (.long i_b), .second, .val (.long i_c), .second, .val (.long i_d), .second, .val (.int i_f), .val (.long lw1), .second, .val (.long hg1), .second, .val (.long md), .second, .val (.ref b2), .val (.int g), .val (.int (3 : Int32)), .val (.long e0), .second, .val (.long e1), .second, .val (.long e2), .second, .val (.ref b70), .val (.int mJ), .val (.int (1 : Int32))] [(.long e2)]) rfl ?_
        refine g_lload C D0_291 rfl ?_
        refine g_lcmp_ne C D0_293 D0_294 (fun q104 => ?_) (fun q104 => ?_)
        · exfalso
          exact q104 rfl
        refine g_iconst C (1 : Int32) rfl D0_297 ?_
        refine g_goto C D0_298 ?_
        refine g_istore C #[.val (.long i_a), .second, .val (.long i_b), .second, .val (.long i_c), .second, .val (.long i_d), .second, .val (.int i_f), .val (.long lw1), .second, .val (.long hg1), .second, .val (.long md), .second, .val (.ref b2), .val (.int g), .val (.int (3 : Int32)), .val (.long e0), .second, .val (.long e1), .second, .val (.long e2), .second, .val (.ref b70), .val (.int mJ), .val (.int (1 : Int32))] D0_302 rfl ?_
        refine g_iload C D0_304 rfl ?_
        refine g_retZ C D0_306 (by decide) (by decide) ?_
        exact ⟨rfl, trivial⟩
set_option maxRecDepth 65536 in
set_option maxHeartbeats 40000000 in
theorem comes_1 {Post : Tables → Env → Array Value → State → Outcome → State → Prop} (hpost : ∀ tb e args s v u, (limb_1_1.after args s (.returned v) u = true ∧ limb_1_2.after args s (.returned v) u = true ∧ True) → FrameEnd s (.returned v) u (Jvm.fieldLocs frame_1_writes args s ++ Jvm.arrayLocs frame_1_arrays args s ++ Jvm.staticLocs frame_1_statics s) 24 640 → Post tb e args s (.returned v) u) :
    ArmFor flags0 classFile x code maxLocals ret World_1 tables_1 room_1 Calls_1 rest_1 Pre_1 Post := by
  intro l hfl _ _ p e ha hc hk s m args below hf hA hF happ hP
  obtain ⟨hcalls, hrest, hpre⟩ := hP
  obtain ⟨-, -, -, hnamed, -, -, -, hat⟩ := (Spec.applies_iff hf).mp happ
  obtain ⟨hg, hn⟩ := and_e (Cond.before_iff.mp (show (Jvm.Cond.and given_1 narrow_1).before args s = true from hpre))
  obtain ⟨gc, g0⟩ := and_e hg
  obtain ⟨ga0, g1⟩ := and_e g0
  obtain ⟨ga1, g2⟩ := and_e g1
  obtain ⟨ga2, g3⟩ := and_e g2
  obtain ⟨ga3, g4⟩ := and_e g3
  have ga4 := g4
  obtain ⟨w0, w1, w2, w3, w4, rfl⟩ : ∃ w0 w1 w2 w3 w4 : Value, args = #[w0, w1, w2, w3, w4] := by
    have hs : args.size = 5 := by simpa [Cond.value, given_1] using gc
    obtain ⟨L⟩ := args
    match L, hs with
    | [w0, w1, w2, w3, w4], _ => exact ⟨w0, w1, w2, w3, w4, rfl⟩
  have hw := fun d (hd : d ∈ tables_1) => atoms_spec (ws := Jvm.Cond.code x code maxLocals ret :: tables_1) hat d (List.mem_cons_of_mem _ hd)
  obtain ⟨i0, ei0⟩ := isL_v ga0
  obtain rfl : w0 = (.long i0) := Option.some.inj ei0
  obtain ⟨i1, ei1⟩ := isL_v ga1
  obtain rfl : w1 = (.long i1) := Option.some.inj ei1
  obtain ⟨i2, ei2⟩ := isL_v ga2
  obtain rfl : w2 = (.long i2) := Option.some.inj ei2
  obtain ⟨i3, ei3⟩ := isL_v ga3
  obtain rfl : w3 = (.long i3) := Option.some.inj ei3
  obtain ⟨i4, ei4⟩ := is_v ga4
  obtain rfl : w4 = (.int i4) := Option.some.inj ei4
  obtain ⟨n, o, h1, h2, h3, _, L, rfl, ⟨⟨rfl, _⟩, N⟩, hq⟩ := c_law l hw tables_1 s.heap s.heap.size (Nat.le_refl _) i0 i1 i2 i3 i4 p e ha hc hk s m _ below hf ((Spec.applies_iff_loose hf).mp happ).1 ⟨rfl, State.Warmed39.refl s, rfl⟩ trivial
  refine ⟨n, _, h1, h2, h3, hpost _ _ _ _ _ _ ⟨Cond.after_iff.mpr rfl, Cond.after_iff.mpr (eq_i res_at (Term.int_eval (1)) rfl), trivial⟩ ⟨hq.1, hq.2.1, (hq.2.2.sift fun y hy => Or.inr (N y hy)).mono (by decide) (by decide)⟩⟩
theorem main_1_1 : Claimed_1_1 := comes_1 fun _ _ _ _ _ _ h hF => ⟨h.1, hF⟩
theorem main_1_2 : Claimed_1_2 := comes_1 fun _ _ _ _ _ _ h hF => ⟨h.2.1, hF⟩
end Jvm.Pilot.@@N@@
namespace Jvm.Pilot.@@N@@
open Jvm Jvm.ClassFile Sem Op Lib Jvm.Free Jvm.Stand Jvm.Pilot.@@N@@.Jvm.D
/-! MADE BY PROGRAM (witnessworld.py) out of the Statement's table words and the real class files: 12 classes; the members and pool entries that the words name. The judged class is class 1, her method 2. -/
namespace start1
open Jvm.ClassFile
def u (s : String) : CpInfo := .utf8 (stringToUtf16 s)
/-- a pool by its gaps: so many unusable entries, then the entry; so many at the end -/
def gap : Nat → List CpInfo → List CpInfo
  | 0, r => r
  | n + 1, r => .unusable :: gap n r
def poolList (es : List (Nat × CpInfo)) (last : Nat) : List CpInfo := es.foldr (fun e r => gap e.1 (e.2 :: r)) (gap last [])
def pool (es : List (Nat × CpInfo)) (last : Nat) : Array CpInfo := ⟨poolList es last⟩
def fileOf (pool : Array CpInfo) (this : Nat) (attrs : Array Attribute := #[]) (ms : Array MethodInfo := #[]) (fl : Nat := 33) (sup : Nat := 0) (ifs : Array Nat := #[]) (fds : Array FieldInfo := #[]) : ClassFile where
  minorVersion := 0
  majorVersion := 65
  constantPool := pool
  accessFlags := fl
  thisClass := this
  superClass := sup
  interfaces := ifs
  fields := fds
  methods := ms
  attributes := attrs
def plain (name : String) (sup : Option ClassId) : Class where
  name := name
  kind := .ordinary
  loader := none
  accessFlags := 33
  super := sup
  interfaces := #[]
  cf := none
  fields := #[]
  methods := #[]
  instanceTypes := #[]
  staticTypes := #[]
  resolved := #[]
  callSites := []
  init := .initialized
  statics := none
  mirror := none

def pool0 : Array CpInfo := pool [(5, u "<init>"), (0, u "()V"), (1, .class_ 10), (1, u "java/lang/Object")] 113

def k0c0 : Code := { maxStack := 0, maxLocals := 1, code := object_method_1_code, exceptionTable := #[], attributes := #[] }
def k0m0 : Method := { name := "<init>", desc := "()V", sig := { parameters := [], returnType := none }, accessFlags := 1, code := some k0c0 }
/-- java/lang/Object -/
def k0 : Class := { plain "java/lang/Object" none with
  accessFlags := 33
  interfaces := #[]
  cf := some (fileOf pool0 8 #[] #[{ accessFlags := 1, nameIndex := 5, descriptorIndex := 6, attributes := #[] }] 33 0 #[] #[])
  fields := #[]
  methods := #[k0m0]
  instanceTypes := #[]
  staticTypes := #[]
  resolved := Array.replicate 124 none
  statics := none }

def pool1 : Array CpInfo := pool [(2, .class_ 4), (1, u "java/lang/Object"), (0, u "<init>"), (0, u "()V"), (0, .long 63), (3, .long 9223372036854775807), (1, .methodref 14 15), (0, .class_ 16), (0, .nameAndType 17 18), (0, u "java/lang/Math"), (0, u "min"), (0, u "(JJ)J"), (0, .methodref 14 20), (0, .nameAndType 21 18), (0, u "max"), (0, .methodref 23 24), (0, .class_ 25), (0, .nameAndType 26 27), (0, u "com/example/offset/offset/log/BatchTableNextOffsetPinLaw"), (0, u "endOf"), (0, u "([JIIZJ)J"), (0, .class_ 29), (0, u "com/example/offset/offset/log/BatchTable"), (0, .methodref 28 31), (0, .nameAndType 5 32), (0, u "(Z)V"), (0, .methodref 28 34), (0, .nameAndType 35 36), (0, u "add"), (0, u "(JJJJ)V"), (0, .long 2), (1, .methodref 28 40), (0, .nameAndType 41 42), (0, u "truncate"), (0, u "(I)V"), (0, .methodref 28 44), (0, .nameAndType 45 46), (0, u "nextOffset"), (0, u "(I)J"), (3, u "law"), (0, u "(JJJJI)Z")] 4

def k1m0 : Method := { name := "<init>", desc := "()V", sig := { parameters := [], returnType := none }, accessFlags := 2, code := none }
def k1c1 : Code := { maxStack := 6, maxLocals := 7, code := method_2_code, exceptionTable := #[], attributes := #[] }
def k1m1 : Method := { name := "endOf", desc := "([JIIZJ)J", sig := { parameters := [(.array .long), .int, .int, .boolean, .long], returnType := some .long }, accessFlags := 10, code := some k1c1 }
def k1c2 : Code := { maxStack := 9, maxLocals := 27, code := code, exceptionTable := #[], attributes := #[] }
def k1m2 : Method := { name := "law", desc := "(JJJJI)Z", sig := { parameters := [.long, .long, .long, .long, .int], returnType := some .boolean }, accessFlags := 9, code := some k1c2 }
/-- com/example/offset/offset/log/BatchTableNextOffsetPinLaw -/
def k1 : Class := { plain "com/example/offset/offset/log/BatchTableNextOffsetPinLaw" (some 0) with
  accessFlags := 49
  interfaces := #[]
  cf := some (fileOf pool1 23 #[] #[{ accessFlags := 2, nameIndex := 5, descriptorIndex := 6, attributes := #[] }, { accessFlags := 10, nameIndex := 26, descriptorIndex := 27, attributes := #[] }, { accessFlags := 9, nameIndex := 50, descriptorIndex := 51, attributes := #[] }] 49 2 #[] #[])
  fields := #[]
  methods := #[k1m0, k1m1, k1m2]
  instanceTypes := #[]
  staticTypes := #[]
  resolved := Array.replicate 56 none
  statics := none }

def pool2 : Array CpInfo := pool [(1, .class_ 2), (0, u "java/lang/Math"), (1, .class_ 6), (1, u "java/lang/Object"), (0, u "<init>"), (0, u "()V"), (89, .class_ 100), (1, u "java/lang/Math$RandomNumberGeneratorHolder"), (20, u "(JJ)J"), (50, u "negativeZeroFloatBits"), (0, u "J"), (2, u "negativeZeroDoubleBits"), (21, u "max"), (2, u "min"), (43, u "$assertionsDisabled"), (0, u "Z"), (91, u "twoToTheDoubleScaleDown"), (0, u "D"), (4, u "twoToTheDoubleScaleUp"), (9, u "E"), (3, u "PI"), (2, u "TAU"), (2, u "DEGREES_TO_RADIANS"), (0, u "RADIANS_TO_DEGREES")] 94

def k2m0 : Method := { name := "<init>", desc := "()V", sig := { parameters := [], returnType := none }, accessFlags := 2, code := none }
def k2c1 : Code := { maxStack := 4, maxLocals := 4, code := jdk_29_method_66_code, exceptionTable := #[], attributes := #[] }
def k2m1 : Method := { name := "max", desc := "(JJ)J", sig := { parameters := [.long, .long], returnType := some .long }, accessFlags := 9, code := some k2c1 }
def k2c2 : Code := { maxStack := 4, maxLocals := 4, code := jdk_29_method_70_code, exceptionTable := #[], attributes := #[] }
def k2m2 : Method := { name := "min", desc := "(JJ)J", sig := { parameters := [.long, .long], returnType := some .long }, accessFlags := 9, code := some k2c2 }
/-- java/lang/Math -/
def k2 : Class := { plain "java/lang/Math" (some 0) with
  accessFlags := 49
  interfaces := #[]
  cf := some (fileOf pool2 1 #[.nestMembers #[98]] #[{ accessFlags := 2, nameIndex := 7, descriptorIndex := 8, attributes := #[] }, { accessFlags := 9, nameIndex := 198, descriptorIndex := 121, attributes := #[] }, { accessFlags := 9, nameIndex := 201, descriptorIndex := 121, attributes := #[] }] 49 4 #[] #[{ accessFlags := 25, nameIndex := 354, descriptorIndex := 339, attributes := #[] }, { accessFlags := 25, nameIndex := 358, descriptorIndex := 339, attributes := #[] }, { accessFlags := 25, nameIndex := 361, descriptorIndex := 339, attributes := #[] }, { accessFlags := 26, nameIndex := 364, descriptorIndex := 339, attributes := #[] }, { accessFlags := 26, nameIndex := 365, descriptorIndex := 339, attributes := #[] }, { accessFlags := 26, nameIndex := 172, descriptorIndex := 173, attributes := #[] }, { accessFlags := 26, nameIndex := 176, descriptorIndex := 173, attributes := #[] }, { accessFlags := 8, nameIndex := 344, descriptorIndex := 339, attributes := #[] }, { accessFlags := 8, nameIndex := 338, descriptorIndex := 339, attributes := #[] }, { accessFlags := 4120, nameIndex := 245, descriptorIndex := 246, attributes := #[] }])
  fields := #[{ name := "E", type := .double, accessFlags := 25, slot := 0, constantValue := 0 }, { name := "PI", type := .double, accessFlags := 25, slot := 1, constantValue := 0 }, { name := "TAU", type := .double, accessFlags := 25, slot := 2, constantValue := 0 }, { name := "DEGREES_TO_RADIANS", type := .double, accessFlags := 26, slot := 3, constantValue := 0 }, { name := "RADIANS_TO_DEGREES", type := .double, accessFlags := 26, slot := 4, constantValue := 0 }, { name := "negativeZeroFloatBits", type := .long, accessFlags := 26, slot := 5, constantValue := 0 }, { name := "negativeZeroDoubleBits", type := .long, accessFlags := 26, slot := 6, constantValue := 0 }, { name := "twoToTheDoubleScaleUp", type := .double, accessFlags := 8, slot := 7, constantValue := 0 }, { name := "twoToTheDoubleScaleDown", type := .double, accessFlags := 8, slot := 8, constantValue := 0 }, { name := "$assertionsDisabled", type := .boolean, accessFlags := 4120, slot := 9, constantValue := 0 }]
  methods := #[k2m0, k2m1, k2m2]
  instanceTypes := #[]
  staticTypes := #[.double, .double, .double, .double, .double, .long, .long, .double, .double, .boolean]
  resolved := Array.replicate 460 none
  statics := none }

def pool3 : Array CpInfo := pool [(1, .methodref 2 3), (0, .class_ 4), (0, .nameAndType 5 6), (0, u "java/lang/Object"), (0, u "<init>"), (0, u "()V"), (0, .class_ 8), (0, u "com/example/offset/offset/log/BatchTable"), (0, .fieldref 7 10), (0, .nameAndType 11 12), (0, u "offsets"), (0, u "[J"), (0, .fieldref 7 14), (0, .nameAndType 15 12), (0, u "positions"), (0, .fieldref 7 17), (0, .nameAndType 18 12), (0, u "maxTimestampsUpTo"), (0, .fieldref 7 20), (0, .nameAndType 21 22), (0, u "gaps"), (0, u "Z"), (0, .fieldref 7 24), (0, .nameAndType 25 12), (0, u "ends"), (0, .fieldref 7 27), (0, .nameAndType 28 29), (0, u "count"), (0, u "I"), (0, .fieldref 7 31), (0, .nameAndType 32 33), (0, u "lastEnd"), (0, u "J"), (6, .methodref 41 42), (0, .class_ 43), (0, .nameAndType 44 45), (0, u "java/lang/Math"), (0, u "max"), (0, u "(JJ)J"), (0, .methodref 7 47), (0, .nameAndType 48 49), (0, u "nextOffset"), (0, u "(I)J"), (8, u "FIRST_CAPACITY"), (2, u "(Z)V"), (8, u "add"), (0, u "(JJJJ)V"), (0, u "truncate"), (0, u "(I)V")] 5

def k3c0 : Code := { maxStack := 2, maxLocals := 2, code := prog_45_method_1_code, exceptionTable := #[], attributes := #[] }
def k3m0 : Method := { name := "<init>", desc := "(Z)V", sig := { parameters := [.boolean], returnType := none }, accessFlags := 0, code := some k3c0 }
def k3c1 : Code := { maxStack := 3, maxLocals := 2, code := prog_45_method_6_code, exceptionTable := #[], attributes := #[] }
def k3m1 : Method := { name := "nextOffset", desc := "(I)J", sig := { parameters := [.int], returnType := some .long }, accessFlags := 0, code := some k3c1 }
def k3c2 : Code := { maxStack := 6, maxLocals := 9, code := prog_45_method_7_code, exceptionTable := #[], attributes := #[] }
def k3m2 : Method := { name := "add", desc := "(JJJJ)V", sig := { parameters := [.long, .long, .long, .long], returnType := none }, accessFlags := 0, code := some k3c2 }
def k3c3 : Code := { maxStack := 4, maxLocals := 2, code := prog_45_method_8_code, exceptionTable := #[], attributes := #[] }
def k3m3 : Method := { name := "truncate", desc := "(I)V", sig := { parameters := [.int], returnType := none }, accessFlags := 0, code := some k3c3 }
/-- com/example/offset/offset/log/BatchTable -/
def k3 : Class := { plain "com/example/offset/offset/log/BatchTable" (some 0) with
  accessFlags := 48
  interfaces := #[]
  cf := some (fileOf pool3 7 #[] #[{ accessFlags := 0, nameIndex := 5, descriptorIndex := 61, attributes := #[] }, { accessFlags := 0, nameIndex := 48, descriptorIndex := 49, attributes := #[] }, { accessFlags := 0, nameIndex := 70, descriptorIndex := 71, attributes := #[] }, { accessFlags := 0, nameIndex := 72, descriptorIndex := 73, attributes := #[] }] 48 2 #[] #[{ accessFlags := 26, nameIndex := 58, descriptorIndex := 29, attributes := #[] }, { accessFlags := 18, nameIndex := 21, descriptorIndex := 22, attributes := #[] }, { accessFlags := 2, nameIndex := 11, descriptorIndex := 12, attributes := #[] }, { accessFlags := 2, nameIndex := 15, descriptorIndex := 12, attributes := #[] }, { accessFlags := 2, nameIndex := 18, descriptorIndex := 12, attributes := #[] }, { accessFlags := 2, nameIndex := 25, descriptorIndex := 12, attributes := #[] }, { accessFlags := 2, nameIndex := 28, descriptorIndex := 29, attributes := #[] }, { accessFlags := 2, nameIndex := 32, descriptorIndex := 33, attributes := #[] }])
  fields := #[{ name := "FIRST_CAPACITY", type := .int, accessFlags := 26, slot := 0, constantValue := 0 }, { name := "gaps", type := .boolean, accessFlags := 18, slot := 0, constantValue := 0 }, { name := "offsets", type := (.array .long), accessFlags := 2, slot := 1, constantValue := 0 }, { name := "positions", type := (.array .long), accessFlags := 2, slot := 2, constantValue := 0 }, { name := "maxTimestampsUpTo", type := (.array .long), accessFlags := 2, slot := 3, constantValue := 0 }, { name := "ends", type := (.array .long), accessFlags := 2, slot := 4, constantValue := 0 }, { name := "count", type := .int, accessFlags := 2, slot := 5, constantValue := 0 }, { name := "lastEnd", type := .long, accessFlags := 2, slot := 6, constantValue := 0 }]
  methods := #[k3m0, k3m1, k3m2, k3m3]
  instanceTypes := #[.boolean, (.array .long), (.array .long), (.array .long), (.array .long), .int, .long]
  staticTypes := #[.int]
  resolved := Array.replicate 79 none
  statics := none }

def pool4 : Array CpInfo := pool [(1, u "java/lang/Cloneable"), (0, .class_ 1), (0, u "java/lang/Object"), (0, .class_ 3)] 3

/-- java/lang/Cloneable -/
def k4 : Class := { plain "java/lang/Cloneable" (some 0) with
  accessFlags := 1537
  interfaces := #[]
  cf := some (fileOf pool4 2 #[] #[] 1537 4 #[] #[])
  fields := #[]
  methods := #[]
  instanceTypes := #[]
  staticTypes := #[]
  resolved := Array.replicate 8 none
  statics := none }

def pool5 : Array CpInfo := pool [(1, u "java/io/Serializable"), (0, .class_ 1), (0, u "java/lang/Object"), (0, .class_ 3)] 3

/-- java/io/Serializable -/
def k5 : Class := { plain "java/io/Serializable" (some 0) with
  accessFlags := 1537
  interfaces := #[]
  cf := some (fileOf pool5 2 #[] #[] 1537 4 #[] #[])
  fields := #[]
  methods := #[]
  instanceTypes := #[]
  staticTypes := #[]
  resolved := Array.replicate 8 none
  statics := none }

/-- the primitive byte -/
def k6 : Class := { plain "byte" none with kind := .primitive 'B', accessFlags := 0x411 }
/-- [B -/
def k7 : Class := { plain "[B" (some 0) with kind := .array 6 .byte, interfaces := #[4, 5], accessFlags := 1041 }

/-- the primitive int -/
def k8 : Class := { plain "int" none with kind := .primitive 'I', accessFlags := 0x411 }
/-- [I -/
def k9 : Class := { plain "[I" (some 0) with kind := .array 8 .int, interfaces := #[4, 5], accessFlags := 1041 }

/-- the primitive long -/
def k10 : Class := { plain "long" none with kind := .primitive 'J', accessFlags := 0x411 }
/-- [J -/
def k11 : Class := { plain "[J" (some 0) with kind := .array 10 .long, interfaces := #[4, 5], accessFlags := 1041 }

def heap : Heap := #[]
def classes : Array Class := #[k0, k1, k2, k3, k4, k5, k6, k7, k8, k9, k10, k11]
def interned : List (Array UInt16 × Addr) := []
def slotsUsed : Nat := 0
def theMethod : MethodId := ⟨1, 2⟩
def args0 : Array Value := #[.long 5, .long 5, .long 5, .long 5, .int 5]
def aboutOver (below : List Frame) : State where
  vm := { classes := classes, interned := interned.toArray }
  heap := heap
  slotsUsed := slotsUsed
  threads := #[{ frames := .invoking theMethod args0 :: below }]
def below0 : List Frame := [.native { method := ⟨0, 0⟩, args := #[] }]
def about1 : State := aboutOver below0
def p0 : Program := .bare "" "" ""
def e0 : Env := launch0.env 0 0 0
theorem w_frames : about1.frames = Frame.invoking theMethod args0 :: below0 := rfl
set_option maxRecDepth 65536 in
theorem w_args : argsFit about1.vm theMethod args0 = true := by decide +kernel
set_option maxRecDepth 65536 in
theorem w_heap : heapFits about1 = true := by decide +kernel
set_option maxRecDepth 65536 in
theorem w_runnable : about1.curStatus? = some .runnable := by decide +kernel
set_option maxRecDepth 65536 in
theorem w_alone : about1.alone = true := by decide +kernel
set_option maxRecDepth 65536 in
theorem w_named : about1.methodNamed? x = some theMethod := by decide +kernel
set_option maxRecDepth 65536 in
theorem w_hears : about1.hears theMethod below0 = true := by decide +kernel
set_option maxRecDepth 65536 in
theorem w_ripe : about1.ripe theMethod args0 below0 = true := by decide +kernel
theorem w_running : about1.status = .running := rfl
set_option maxRecDepth 65536 in
theorem w_room : about1.hasRoom e0.platform room_1 = true :=
  launch0.hasRoom_least _ room_1 (by decide +kernel) (by decide +kernel) (by decide +kernel) (by decide +kernel) (by decide +kernel) (by decide +kernel)
theorem allAtoms_all (ts : List Jvm.Cond) (a : Array Jvm.Value) (st : Jvm.State) : (allAtoms ts).before a st = ts.all (fun c => c.before a st) := by
  induction ts with
  | nil => rfl
  | cons c t ih =>
    show (Jvm.Cond.and c (allAtoms t)).before a st = _
    rw [Jvm.Cond.before_and, ih, List.all_cons]
def words1 : List Jvm.Cond := Jvm.Cond.code x code maxLocals ret :: tables_1
/-- a 'code' word, met by the world's own term for the bytes: nothing is compared byte by byte -/
theorem code_word {y : MethodName} {bytes : ByteArray} {mx : Nat} {rt : Option FieldType} {a : Array Value} {s : State} {m : MethodId} {meth : Method} {c : Code} (h1 : s.methodNamed? y = some m) (h2 : s.vm.method? m = some meth) (h3 : meth.code = some c) (h4 : c.code = bytes)
    (h5 : (c.maxLocals == mx && c.exceptionTable.isEmpty && decide (c.maxStack ≤ mostOperands) && decide (meth.sig.returnType = rt) && !meth.locks && decide (parseMethodDescriptor y.desc = some meth.sig)) = true) : (Jvm.Cond.code y bytes mx rt).before a s = true := by
  simp only [Bool.and_eq_true, beq_iff_eq, Bool.not_eq_true', decide_eq_true_eq] at h5
  obtain ⟨⟨⟨⟨⟨g1, g2⟩, g3⟩, g4⟩, g5⟩, g6⟩ := h5
  simp [Cond.before, Cond.holds, Cond.value, h1, h2, h3, h4, g1, g2, g3, g4, g5, g6]
def isCode : Jvm.Cond → Bool
  | .code _ _ _ _ => true
  | _ => false
theorem all_split {L : List Jvm.Cond} {P : Jvm.Cond → Bool} (h1 : L.all (fun c => isCode c || P c) = true) (h2 : ∀ c ∈ L.filter isCode, P c = true) : L.all P = true := by
  refine List.all_eq_true.mpr fun c hc => ?_
  have h := List.all_eq_true.mp h1 c hc
  rcases Bool.eq_false_or_eq_true (isCode c) with hi | hi
  · exact h2 c (List.mem_filter.mpr ⟨hc, hi⟩)
  · simpa [hi] using h
set_option maxRecDepth 65536 in
theorem w_c0 : (Jvm.Cond.code x code maxLocals ret).before args0 about1 = true := code_word (m := ⟨1, 2⟩) (meth := k1m2) (c := k1c2) (by decide +kernel) rfl rfl rfl (by decide +kernel)
set_option maxRecDepth 65536 in
theorem w_c1 : (Jvm.Cond.code ({ cls := "java/lang/Math", name := "min", desc := "(JJ)J" } : Jvm.MethodName) jdk_29_method_70_code (4 : Nat) (Option.some Jvm.ClassFile.FieldType.long)).before args0 about1 = true := code_word (m := ⟨2, 2⟩) (meth := k2m2) (c := k2c2) (by decide +kernel) rfl rfl rfl (by decide +kernel)
set_option maxRecDepth 65536 in
theorem w_c2 : (Jvm.Cond.code ({ cls := "java/lang/Math", name := "max", desc := "(JJ)J" } : Jvm.MethodName) jdk_29_method_66_code (4 : Nat) (Option.some Jvm.ClassFile.FieldType.long)).before args0 about1 = true := code_word (m := ⟨2, 1⟩) (meth := k2m1) (c := k2c1) (by decide +kernel) rfl rfl rfl (by decide +kernel)
set_option maxRecDepth 65536 in
theorem w_c3 : (Jvm.Cond.code ({ cls := "com/example/offset/offset/log/BatchTableNextOffsetPinLaw", name := "endOf", desc := "([JIIZJ)J" } : Jvm.MethodName) method_2_code (7 : Nat) (Option.some Jvm.ClassFile.FieldType.long)).before args0 about1 = true := code_word (m := ⟨1, 1⟩) (meth := k1m1) (c := k1c1) (by decide +kernel) rfl rfl rfl (by decide +kernel)
set_option maxRecDepth 65536 in
theorem w_c4 : (Jvm.Cond.code ({ cls := "com/example/offset/offset/log/BatchTable", name := "<init>", desc := "(Z)V" } : Jvm.MethodName) prog_45_method_1_code (2 : Nat) (Option.none : Option Jvm.ClassFile.FieldType)).before args0 about1 = true := code_word (m := ⟨3, 0⟩) (meth := k3m0) (c := k3c0) (by decide +kernel) rfl rfl rfl (by decide +kernel)
set_option maxRecDepth 65536 in
theorem w_c5 : (Jvm.Cond.code ({ cls := "java/lang/Object", name := "<init>", desc := "()V" } : Jvm.MethodName) object_method_1_code (1 : Nat) (Option.none : Option Jvm.ClassFile.FieldType)).before args0 about1 = true := code_word (m := ⟨0, 0⟩) (meth := k0m0) (c := k0c0) (by decide +kernel) rfl rfl rfl (by decide +kernel)
set_option maxRecDepth 65536 in
theorem w_c6 : (Jvm.Cond.code ({ cls := "com/example/offset/offset/log/BatchTable", name := "add", desc := "(JJJJ)V" } : Jvm.MethodName) prog_45_method_7_code (9 : Nat) (Option.none : Option Jvm.ClassFile.FieldType)).before args0 about1 = true := code_word (m := ⟨3, 2⟩) (meth := k3m2) (c := k3c2) (by decide +kernel) rfl rfl rfl (by decide +kernel)
set_option maxRecDepth 65536 in
theorem w_c7 : (Jvm.Cond.code ({ cls := "com/example/offset/offset/log/BatchTable", name := "nextOffset", desc := "(I)J" } : Jvm.MethodName) prog_45_method_6_code (2 : Nat) (Option.some Jvm.ClassFile.FieldType.long)).before args0 about1 = true := code_word (m := ⟨3, 1⟩) (meth := k3m1) (c := k3c1) (by decide +kernel) rfl rfl rfl (by decide +kernel)
set_option maxRecDepth 65536 in
theorem w_c8 : (Jvm.Cond.code ({ cls := "com/example/offset/offset/log/BatchTable", name := "truncate", desc := "(I)V" } : Jvm.MethodName) prog_45_method_8_code (2 : Nat) (Option.none : Option Jvm.ClassFile.FieldType)).before args0 about1 = true := code_word (m := ⟨3, 3⟩) (meth := k3m3) (c := k3c3) (by decide +kernel) rfl rfl rfl (by decide +kernel)
def codes1 : List Jvm.Cond := [Jvm.Cond.code x code maxLocals ret, Jvm.Cond.code ({ cls := "java/lang/Math", name := "min", desc := "(JJ)J" } : Jvm.MethodName) jdk_29_method_70_code (4 : Nat) (Option.some Jvm.ClassFile.FieldType.long), Jvm.Cond.code ({ cls := "java/lang/Math", name := "max", desc := "(JJ)J" } : Jvm.MethodName) jdk_29_method_66_code (4 : Nat) (Option.some Jvm.ClassFile.FieldType.long), Jvm.Cond.code ({ cls := "com/example/offset/offset/log/BatchTableNextOffsetPinLaw", name := "endOf", desc := "([JIIZJ)J" } : Jvm.MethodName) method_2_code (7 : Nat) (Option.some Jvm.ClassFile.FieldType.long), Jvm.Cond.code ({ cls := "com/example/offset/offset/log/BatchTable", name := "<init>", desc := "(Z)V" } : Jvm.MethodName) prog_45_method_1_code (2 : Nat) (Option.none : Option Jvm.ClassFile.FieldType), Jvm.Cond.code ({ cls := "java/lang/Object", name := "<init>", desc := "()V" } : Jvm.MethodName) object_method_1_code (1 : Nat) (Option.none : Option Jvm.ClassFile.FieldType), Jvm.Cond.code ({ cls := "com/example/offset/offset/log/BatchTable", name := "add", desc := "(JJJJ)V" } : Jvm.MethodName) prog_45_method_7_code (9 : Nat) (Option.none : Option Jvm.ClassFile.FieldType), Jvm.Cond.code ({ cls := "com/example/offset/offset/log/BatchTable", name := "nextOffset", desc := "(I)J" } : Jvm.MethodName) prog_45_method_6_code (2 : Nat) (Option.some Jvm.ClassFile.FieldType.long), Jvm.Cond.code ({ cls := "com/example/offset/offset/log/BatchTable", name := "truncate", desc := "(I)V" } : Jvm.MethodName) prog_45_method_8_code (2 : Nat) (Option.none : Option Jvm.ClassFile.FieldType)]
set_option maxRecDepth 65536 in
theorem codes_eq : words1.filter isCode = codes1 := rfl
theorem w_codes : ∀ c ∈ words1.filter isCode, c.before args0 about1 = true := by
  rw [codes_eq]
  intro c hc
  simp only [codes1, List.mem_cons, List.not_mem_nil, or_false] at hc
  rcases hc with rfl | rfl | rfl | rfl | rfl | rfl | rfl | rfl | rfl
  · exact w_c0
  · exact w_c1
  · exact w_c2
  · exact w_c3
  · exact w_c4
  · exact w_c5
  · exact w_c6
  · exact w_c7
  · exact w_c8
set_option maxRecDepth 65536 in
theorem w_t1 : (words1.take 24).all (fun c => isCode c || c.before args0 about1) = true := by decide +kernel
set_option maxRecDepth 65536 in
theorem w_t2 : ((words1.drop 24).take 24).all (fun c => isCode c || c.before args0 about1) = true := by decide +kernel
set_option maxRecDepth 65536 in
theorem w_t3 : ((words1.drop 24).drop 24).all (fun c => isCode c || c.before args0 about1) = true := by decide +kernel
theorem w_tables : (allAtoms (Jvm.Cond.code x code maxLocals ret :: tables_1)).before args0 about1 = true := by
  rw [allAtoms_all]
  show words1.all (fun c => c.before args0 about1) = true
  refine all_split ?_ w_codes
  rw [← List.take_append_drop 24 words1, List.all_append, w_t1, ← List.take_append_drop 24 (words1.drop 24), List.all_append, w_t2, w_t3]
  rfl
set_option maxRecDepth 65536 in
theorem w_case : (Jvm.Cond.and given_1 narrow_1).before args0 about1 = true := by decide +kernel
theorem w_applies : (headSpec (Jvm.Cond.code x code maxLocals ret :: tables_1) room_1).applies x e0.platform about1 = true :=
  (Spec.applies_iff w_frames).mpr ⟨w_running, w_runnable, w_alone, w_named, w_hears, w_ripe, w_room, w_tables⟩
theorem atStart : AtStart classFile x code maxLocals ret World_1 tables_1 room_1 Calls_1 rest_1 Pre_1 launch0 p0 e0 about1 theMethod args0 below0 :=
  ⟨lists_1, trivial, launch0.admits_env _ _ _, launch0.least_env, fairChoices_fair.cas, fairChoices_fair.clock, w_frames, w_args, w_heap, w_applies, trivial, trivial, w_case⟩
end start1
theorem witness_1 : WitnessClaimed_1 := ⟨start1.p0, start1.e0, start1.about1, start1.theMethod, start1.args0, start1.below0, start1.atStart⟩
end Jvm.Pilot.@@N@@
