import JvmDerived
import JvmDerived.Pilot.@@N@@Statement
import JvmDerived.Pilot.@@N@@Code
set_option linter.unusedVariables false
set_option linter.unusedSimpArgs false
namespace Jvm.Pilot.@@N@@
open Jvm Jvm.ClassFile Sem Op Lib Jvm.Free Jvm.Stand Jvm.LawKit Jvm.RoadKit Bundle Jvm.Pilot.@@N@@.Jvm.D
/-- Java's shifts -/
def shlI (x y : Int32) : Int32 := x <<< (y &&& 31)
def shrI (x y : Int32) : Int32 := x >>> (y &&& 31)
def ushrI (x y : Int32) : Int32 := (x.toUInt32 >>> (y &&& 31).toUInt32).toInt32
def shlJ (x : Int64) (y : Int32) : Int64 := x <<< (y &&& 0x3f).toInt64
def shrJ (x : Int64) (y : Int32) : Int64 := x >>> (y &&& 0x3f).toInt64
def ushrJ (x : Int64) (y : Int32) : Int64 := (x.toUInt64 >>> (y &&& 0x3f).toInt64.toUInt64).toInt64
section Kit
variable {p : Program} {l : Launch} {e : Env} {R : Room} {s : State} {m : MethodId} {args : Array Value} {below : List Frame} {meth : Method} {c : ClassFile.Code} {Z : State} {a0 : Array Value} {n0 : Nat} {Q : Option Value → Heap → Prop} {K N : Nat} {h : Heap} {k n : Nat} {own : String} {bytes : ByteArray} {maxl : Nat} {ret : Option FieldType} {nm : String} {pc pc' pc1 pct : Nat} {Ls : Array Slot} {st : List Value}
/-- the run from T0 comes back with a value and a heap of which Q holds, having written nothing below n0 -/
def Ends (p : Program) (e : Env) (below : List Frame) (s : State) (n0 : Nat) (Q : Option Value → Heap → Prop) (K N : Nat) (T0 : State) : Prop :=
  ∃ t o, Steps p.tables e below T0 t ∧ t.status = .running ∧ Ended t below o ∧ ∃ v L, o = .returned v ∧ (Q v t.heap ∧ Fr n0 L) ∧ FrameEnd s o t L K N
/-- from every state of this invocation whose heap is h and whose top frame is f the run comes back so -/
def Go (p : Program) (l : Launch) (e : Env) (R : Room) (s : State) (m : MethodId) (args : Array Value) (below : List Frame) (meth : Method) (c : ClassFile.Code) (n0 : Nat) (Q : Option Value → Heap → Prop) (K N : Nat) (h : Heap) (k n : Nat) (f : JFrame) : Prop :=
  ∀ T L, Fr n0 L → Stand p l e R s m args below meth c T L k n → T.heap = h → Ends p e below s n0 Q K N (T.setTop f)
/-- what is known of the invocation throughout -/
def Cx (p : Program) (s : State) (m : MethodId) (meth : Method) (c : ClassFile.Code) (Z : State) (n0 : Nat) (own : String) (bytes : ByteArray) (maxl : Nat) (ret : Option FieldType) (nm : String) : Prop :=
  p.tables.exec = Jvm.exec ∧ Z.Warmed39 s.vm ∧ s.vm.findClass own = some m.cls ∧ c.code = bytes ∧ c.maxLocals = maxl ∧ meth.sig.returnType = ret ∧ meth.locks = false ∧ meth.name = nm ∧ n0 ≤ s.heap.size
def In (b : ByteArray) (pc len : Nat) (i : Instr) (pc' : Nat) : Prop := decode b pc = .ok (i, len) ∧ pc' = pc + len
def Jm (b : ByteArray) (pc : Nat) (i : Int → Instr) (pc' pct : Nat) : Prop := ∃ o, decode b pc = .ok (i o, 3) ∧ pc' = pc + 3 ∧ 0 ≤ (pc : Int) + o ∧ ((pc : Int) + o).toNat = pct
theorem g_st {f f' : JFrame} (H : ∀ {T L}, Stand p l e R s m args below meth c T L k n → T.heap = h → ∀ t, Steps p.tables e below (T.setTop f') t → Steps p.tables e below (T.setTop f) t) (G : Go p l e R s m args below meth c n0 Q K N h k n (f')) : Go p l e R s m args below meth c n0 Q K N h k n f := fun T L hL X eT => by
  obtain ⟨t, o, h1, h2⟩ := G T L hL X eT
  exact ⟨t, o, H X eT t h1, h2⟩
theorem g_cast {f f' : JFrame} (q : f = f') (G : Go p l e R s m args below meth c n0 Q K N h k n (f')) : Go p l e R s m args below meth c n0 Q K N h k n f := q ▸ G
theorem g_more {k' n' : Nat} {f : JFrame} (hk : k ≤ k') (hn : n ≤ n') (G : Go p l e R s m args below meth c n0 Q K N h (k') (n') f) : Go p l e R s m args below meth c n0 Q K N h k n f := fun T L hL X eT => G T L hL (X.more hk hn) eT
theorem Stand.up {T : State} {L : List Loc} (X : Stand p l e R s m args below meth c T L k n) : s.heap.size ≤ T.heap.size := by
  exact X.same.2.1
theorem g_iadd (C : Cx p s m meth c Z n0 own bytes maxl ret nm) {x y : Int32} (d : In bytes pc 1 (.iadd) pc') (G : Go p l e R s m args below meth c n0 Q K N h k n (mkF m pc' Ls (.int (x + y) :: st))) : Go p l e R s m args below meth c n0 Q K N h k n (mkF m pc Ls (.int y :: .int x :: st)) := by
  obtain ⟨d, rfl⟩ := d
  exact g_st (fun X _ t kt => XS.iadd X.here C.1 rfl (hb C.2.2.2.1 d) rfl kt) G
theorem g_isub (C : Cx p s m meth c Z n0 own bytes maxl ret nm) {x y : Int32} (d : In bytes pc 1 (.isub) pc') (G : Go p l e R s m args below meth c n0 Q K N h k n (mkF m pc' Ls (.int (x - y) :: st))) : Go p l e R s m args below meth c n0 Q K N h k n (mkF m pc Ls (.int y :: .int x :: st)) := by
  obtain ⟨d, rfl⟩ := d
  exact g_st (fun X _ t kt => XS.isub X.here C.1 rfl (hb C.2.2.2.1 d) rfl kt) G
theorem g_imul (C : Cx p s m meth c Z n0 own bytes maxl ret nm) {x y : Int32} (d : In bytes pc 1 (.imul) pc') (G : Go p l e R s m args below meth c n0 Q K N h k n (mkF m pc' Ls (.int (x * y) :: st))) : Go p l e R s m args below meth c n0 Q K N h k n (mkF m pc Ls (.int y :: .int x :: st)) := by
  obtain ⟨d, rfl⟩ := d
  exact g_st (fun X _ t kt => XS.imul X.here C.1 rfl (hb C.2.2.2.1 d) rfl kt) G
theorem g_iand (C : Cx p s m meth c Z n0 own bytes maxl ret nm) {x y : Int32} (d : In bytes pc 1 (.iand) pc') (G : Go p l e R s m args below meth c n0 Q K N h k n (mkF m pc' Ls (.int (x &&& y) :: st))) : Go p l e R s m args below meth c n0 Q K N h k n (mkF m pc Ls (.int y :: .int x :: st)) := by
  obtain ⟨d, rfl⟩ := d
  exact g_st (fun X _ t kt => XS.iand X.here C.1 rfl (hb C.2.2.2.1 d) rfl kt) G
theorem g_ior (C : Cx p s m meth c Z n0 own bytes maxl ret nm) {x y : Int32} (d : In bytes pc 1 (.ior) pc') (G : Go p l e R s m args below meth c n0 Q K N h k n (mkF m pc' Ls (.int (x ||| y) :: st))) : Go p l e R s m args below meth c n0 Q K N h k n (mkF m pc Ls (.int y :: .int x :: st)) := by
  obtain ⟨d, rfl⟩ := d
  exact g_st (fun X _ t kt => XS.ior X.here C.1 rfl (hb C.2.2.2.1 d) rfl kt) G
theorem g_ixor (C : Cx p s m meth c Z n0 own bytes maxl ret nm) {x y : Int32} (d : In bytes pc 1 (.ixor) pc') (G : Go p l e R s m args below meth c n0 Q K N h k n (mkF m pc' Ls (.int (x ^^^ y) :: st))) : Go p l e R s m args below meth c n0 Q K N h k n (mkF m pc Ls (.int y :: .int x :: st)) := by
  obtain ⟨d, rfl⟩ := d
  exact g_st (fun X _ t kt => XS.ixor X.here C.1 rfl (hb C.2.2.2.1 d) rfl kt) G
theorem g_idiv (C : Cx p s m meth c Z n0 own bytes maxl ret nm) {x y : Int32} (d : In bytes pc 1 (.idiv) pc') (hy : y ≠ 0) (G : Go p l e R s m args below meth c n0 Q K N h k n (mkF m pc' Ls (.int (x / y) :: st))) : Go p l e R s m args below meth c n0 Q K N h k n (mkF m pc Ls (.int y :: .int x :: st)) := by
  obtain ⟨d, rfl⟩ := d
  exact g_st (fun X _ t kt => XS.idiv X.here C.1 rfl (hb C.2.2.2.1 d) rfl hy kt) G
theorem g_irem (C : Cx p s m meth c Z n0 own bytes maxl ret nm) {x y : Int32} (d : In bytes pc 1 (.irem) pc') (hy : y ≠ 0) (G : Go p l e R s m args below meth c n0 Q K N h k n (mkF m pc' Ls (.int (x - (x / y) * y) :: st))) : Go p l e R s m args below meth c n0 Q K N h k n (mkF m pc Ls (.int y :: .int x :: st)) := by
  obtain ⟨d, rfl⟩ := d
  exact g_st (fun X _ t kt => XS.irem X.here C.1 rfl (hb C.2.2.2.1 d) rfl hy kt) G
theorem g_iload (C : Cx p s m meth c Z n0 own bytes maxl ret nm) {i : Nat} {v : Int32} (d : In bytes pc 2 (.iload i) pc') (hl : Ls[i]? = some (.val (.int v))) (G : Go p l e R s m args below meth c n0 Q K N h k n (mkF m pc' Ls (.int v :: st))) : Go p l e R s m args below meth c n0 Q K N h k n (mkF m pc Ls st) := by
  obtain ⟨d, rfl⟩ := d
  exact g_st (fun X _ t kt => XS.iload X.here C.1 rfl (hb C.2.2.2.1 d) hl kt) G
theorem g_iloadN (C : Cx p s m meth c Z n0 own bytes maxl ret nm) {i : Fin 4} {v : Int32} (d : In bytes pc 1 (.iload_n i) pc') (hl : Ls[i.val]? = some (.val (.int v))) (G : Go p l e R s m args below meth c n0 Q K N h k n (mkF m pc' Ls (.int v :: st))) : Go p l e R s m args below meth c n0 Q K N h k n (mkF m pc Ls st) := by
  obtain ⟨d, rfl⟩ := d
  exact g_st (fun X _ t kt => XS.iloadN X.here C.1 rfl (hb C.2.2.2.1 d) hl kt) G
theorem g_istore (C : Cx p s m meth c Z n0 own bytes maxl ret nm) {i : Nat} {x : Int32} (l' : Array Slot) (d : In bytes pc 2 (.istore i) pc') (hl : storeLocals Ls i (.int x) = some l') (G : Go p l e R s m args below meth c n0 Q K N h k n (mkF m pc' l' st)) : Go p l e R s m args below meth c n0 Q K N h k n (mkF m pc Ls (.int x :: st)) := by
  obtain ⟨d, rfl⟩ := d
  exact g_st (fun X _ t kt => XS.istore X.here C.1 rfl (hb C.2.2.2.1 d) rfl hl kt) G
theorem g_istoreN (C : Cx p s m meth c Z n0 own bytes maxl ret nm) {i : Fin 4} {x : Int32} (l' : Array Slot) (d : In bytes pc 1 (.istore_n i) pc') (hl : storeLocals Ls i.val (.int x) = some l') (G : Go p l e R s m args below meth c n0 Q K N h k n (mkF m pc' l' st)) : Go p l e R s m args below meth c n0 Q K N h k n (mkF m pc Ls (.int x :: st)) := by
  obtain ⟨d, rfl⟩ := d
  exact g_st (fun X _ t kt => XS.istoreN X.here C.1 rfl (hb C.2.2.2.1 d) rfl hl kt) G
theorem g_ladd (C : Cx p s m meth c Z n0 own bytes maxl ret nm) {x y : Int64} (d : In bytes pc 1 (.ladd) pc') (G : Go p l e R s m args below meth c n0 Q K N h k n (mkF m pc' Ls (.long (x + y) :: st))) : Go p l e R s m args below meth c n0 Q K N h k n (mkF m pc Ls (.long y :: .long x :: st)) := by
  obtain ⟨d, rfl⟩ := d
  exact g_st (fun X _ t kt => XS.ladd X.here C.1 rfl (hb C.2.2.2.1 d) rfl kt) G
theorem g_lsub (C : Cx p s m meth c Z n0 own bytes maxl ret nm) {x y : Int64} (d : In bytes pc 1 (.lsub) pc') (G : Go p l e R s m args below meth c n0 Q K N h k n (mkF m pc' Ls (.long (x - y) :: st))) : Go p l e R s m args below meth c n0 Q K N h k n (mkF m pc Ls (.long y :: .long x :: st)) := by
  obtain ⟨d, rfl⟩ := d
  exact g_st (fun X _ t kt => XS.lsub X.here C.1 rfl (hb C.2.2.2.1 d) rfl kt) G
theorem g_lmul (C : Cx p s m meth c Z n0 own bytes maxl ret nm) {x y : Int64} (d : In bytes pc 1 (.lmul) pc') (G : Go p l e R s m args below meth c n0 Q K N h k n (mkF m pc' Ls (.long (x * y) :: st))) : Go p l e R s m args below meth c n0 Q K N h k n (mkF m pc Ls (.long y :: .long x :: st)) := by
  obtain ⟨d, rfl⟩ := d
  exact g_st (fun X _ t kt => XS.lmul X.here C.1 rfl (hb C.2.2.2.1 d) rfl kt) G
theorem g_land (C : Cx p s m meth c Z n0 own bytes maxl ret nm) {x y : Int64} (d : In bytes pc 1 (.land) pc') (G : Go p l e R s m args below meth c n0 Q K N h k n (mkF m pc' Ls (.long (x &&& y) :: st))) : Go p l e R s m args below meth c n0 Q K N h k n (mkF m pc Ls (.long y :: .long x :: st)) := by
  obtain ⟨d, rfl⟩ := d
  exact g_st (fun X _ t kt => XS.land X.here C.1 rfl (hb C.2.2.2.1 d) rfl kt) G
theorem g_lor (C : Cx p s m meth c Z n0 own bytes maxl ret nm) {x y : Int64} (d : In bytes pc 1 (.lor) pc') (G : Go p l e R s m args below meth c n0 Q K N h k n (mkF m pc' Ls (.long (x ||| y) :: st))) : Go p l e R s m args below meth c n0 Q K N h k n (mkF m pc Ls (.long y :: .long x :: st)) := by
  obtain ⟨d, rfl⟩ := d
  exact g_st (fun X _ t kt => XS.lor X.here C.1 rfl (hb C.2.2.2.1 d) rfl kt) G
theorem g_lxor (C : Cx p s m meth c Z n0 own bytes maxl ret nm) {x y : Int64} (d : In bytes pc 1 (.lxor) pc') (G : Go p l e R s m args below meth c n0 Q K N h k n (mkF m pc' Ls (.long (x ^^^ y) :: st))) : Go p l e R s m args below meth c n0 Q K N h k n (mkF m pc Ls (.long y :: .long x :: st)) := by
  obtain ⟨d, rfl⟩ := d
  exact g_st (fun X _ t kt => XS.lxor X.here C.1 rfl (hb C.2.2.2.1 d) rfl kt) G
theorem g_ldiv (C : Cx p s m meth c Z n0 own bytes maxl ret nm) {x y : Int64} (d : In bytes pc 1 (.ldiv) pc') (hy : y ≠ 0) (G : Go p l e R s m args below meth c n0 Q K N h k n (mkF m pc' Ls (.long (x / y) :: st))) : Go p l e R s m args below meth c n0 Q K N h k n (mkF m pc Ls (.long y :: .long x :: st)) := by
  obtain ⟨d, rfl⟩ := d
  exact g_st (fun X _ t kt => XS.ldiv X.here C.1 rfl (hb C.2.2.2.1 d) rfl hy kt) G
theorem g_lrem (C : Cx p s m meth c Z n0 own bytes maxl ret nm) {x y : Int64} (d : In bytes pc 1 (.lrem) pc') (hy : y ≠ 0) (G : Go p l e R s m args below meth c n0 Q K N h k n (mkF m pc' Ls (.long (x - (x / y) * y) :: st))) : Go p l e R s m args below meth c n0 Q K N h k n (mkF m pc Ls (.long y :: .long x :: st)) := by
  obtain ⟨d, rfl⟩ := d
  exact g_st (fun X _ t kt => XS.lrem X.here C.1 rfl (hb C.2.2.2.1 d) rfl hy kt) G
theorem g_lload (C : Cx p s m meth c Z n0 own bytes maxl ret nm) {i : Nat} {v : Int64} (d : In bytes pc 2 (.lload i) pc') (hl : Ls[i]? = some (.val (.long v))) (G : Go p l e R s m args below meth c n0 Q K N h k n (mkF m pc' Ls (.long v :: st))) : Go p l e R s m args below meth c n0 Q K N h k n (mkF m pc Ls st) := by
  obtain ⟨d, rfl⟩ := d
  exact g_st (fun X _ t kt => XS.lload X.here C.1 rfl (hb C.2.2.2.1 d) hl kt) G
theorem g_lloadN (C : Cx p s m meth c Z n0 own bytes maxl ret nm) {i : Fin 4} {v : Int64} (d : In bytes pc 1 (.lload_n i) pc') (hl : Ls[i.val]? = some (.val (.long v))) (G : Go p l e R s m args below meth c n0 Q K N h k n (mkF m pc' Ls (.long v :: st))) : Go p l e R s m args below meth c n0 Q K N h k n (mkF m pc Ls st) := by
  obtain ⟨d, rfl⟩ := d
  exact g_st (fun X _ t kt => XS.lloadN X.here C.1 rfl (hb C.2.2.2.1 d) hl kt) G
theorem g_lstore (C : Cx p s m meth c Z n0 own bytes maxl ret nm) {i : Nat} {x : Int64} (l' : Array Slot) (d : In bytes pc 2 (.lstore i) pc') (hl : storeLocals Ls i (.long x) = some l') (G : Go p l e R s m args below meth c n0 Q K N h k n (mkF m pc' l' st)) : Go p l e R s m args below meth c n0 Q K N h k n (mkF m pc Ls (.long x :: st)) := by
  obtain ⟨d, rfl⟩ := d
  exact g_st (fun X _ t kt => XS.lstore X.here C.1 rfl (hb C.2.2.2.1 d) rfl hl kt) G
theorem g_lstoreN (C : Cx p s m meth c Z n0 own bytes maxl ret nm) {i : Fin 4} {x : Int64} (l' : Array Slot) (d : In bytes pc 1 (.lstore_n i) pc') (hl : storeLocals Ls i.val (.long x) = some l') (G : Go p l e R s m args below meth c n0 Q K N h k n (mkF m pc' l' st)) : Go p l e R s m args below meth c n0 Q K N h k n (mkF m pc Ls (.long x :: st)) := by
  obtain ⟨d, rfl⟩ := d
  exact g_st (fun X _ t kt => XS.lstoreN X.here C.1 rfl (hb C.2.2.2.1 d) rfl hl kt) G
theorem g_aload (C : Cx p s m meth c Z n0 own bytes maxl ret nm) {i : Nat} {v : Value} (d : In bytes pc 2 (.aload i) pc') (hl : Ls[i]? = some (.val v)) (hv : v.isRef = true) (G : Go p l e R s m args below meth c n0 Q K N h k n (mkF m pc' Ls (v :: st))) : Go p l e R s m args below meth c n0 Q K N h k n (mkF m pc Ls st) := by
  obtain ⟨d, rfl⟩ := d
  exact g_st (fun X _ t kt => XS.aload X.here C.1 rfl (hb C.2.2.2.1 d) hl hv kt) G
theorem g_astore (C : Cx p s m meth c Z n0 own bytes maxl ret nm) {i : Nat} {x : Value} (l' : Array Slot) (d : In bytes pc 2 (.astore i) pc') (hv : x.isRef = true) (hl : storeLocals Ls i x = some l') (G : Go p l e R s m args below meth c n0 Q K N h k n (mkF m pc' l' st)) : Go p l e R s m args below meth c n0 Q K N h k n (mkF m pc Ls (x :: st)) := by
  obtain ⟨d, rfl⟩ := d
  exact g_st (fun X _ t kt => XS.astore X.here C.1 rfl (hb C.2.2.2.1 d) rfl hv hl kt) G
theorem g_aloadN (C : Cx p s m meth c Z n0 own bytes maxl ret nm) {i : Fin 4} {v : Value} (d : In bytes pc 1 (.aload_n i) pc') (hl : Ls[i.val]? = some (.val v)) (hv : v.isRef = true) (G : Go p l e R s m args below meth c n0 Q K N h k n (mkF m pc' Ls (v :: st))) : Go p l e R s m args below meth c n0 Q K N h k n (mkF m pc Ls st) := by
  obtain ⟨d, rfl⟩ := d
  exact g_st (fun X _ t kt => XS.aloadN X.here C.1 rfl (hb C.2.2.2.1 d) hl hv kt) G
theorem g_astoreN (C : Cx p s m meth c Z n0 own bytes maxl ret nm) {i : Fin 4} {x : Value} (l' : Array Slot) (d : In bytes pc 1 (.astore_n i) pc') (hv : x.isRef = true) (hl : storeLocals Ls i.val x = some l') (G : Go p l e R s m args below meth c n0 Q K N h k n (mkF m pc' l' st)) : Go p l e R s m args below meth c n0 Q K N h k n (mkF m pc Ls (x :: st)) := by
  obtain ⟨d, rfl⟩ := d
  exact g_st (fun X _ t kt => XS.astoreN X.here C.1 rfl (hb C.2.2.2.1 d) rfl hv hl kt) G
theorem g_ishl (C : Cx p s m meth c Z n0 own bytes maxl ret nm) {x y : Int32} (d : In bytes pc 1 (.ishl) pc') (G : Go p l e R s m args below meth c n0 Q K N h k n (mkF m pc' Ls (.int (shlI x y) :: st))) : Go p l e R s m args below meth c n0 Q K N h k n (mkF m pc Ls (.int y :: .int x :: st)) := by
  obtain ⟨d, rfl⟩ := d
  exact g_st (fun X _ t kt => XS.ishl X.here C.1 rfl (hb C.2.2.2.1 d) rfl kt) G
theorem g_ishr (C : Cx p s m meth c Z n0 own bytes maxl ret nm) {x y : Int32} (d : In bytes pc 1 (.ishr) pc') (G : Go p l e R s m args below meth c n0 Q K N h k n (mkF m pc' Ls (.int (shrI x y) :: st))) : Go p l e R s m args below meth c n0 Q K N h k n (mkF m pc Ls (.int y :: .int x :: st)) := by
  obtain ⟨d, rfl⟩ := d
  exact g_st (fun X _ t kt => XS.ishr X.here C.1 rfl (hb C.2.2.2.1 d) rfl kt) G
theorem g_iushr (C : Cx p s m meth c Z n0 own bytes maxl ret nm) {x y : Int32} (d : In bytes pc 1 (.iushr) pc') (G : Go p l e R s m args below meth c n0 Q K N h k n (mkF m pc' Ls (.int (ushrI x y) :: st))) : Go p l e R s m args below meth c n0 Q K N h k n (mkF m pc Ls (.int y :: .int x :: st)) := by
  obtain ⟨d, rfl⟩ := d
  exact g_st (fun X _ t kt => XS.iushr X.here C.1 rfl (hb C.2.2.2.1 d) rfl kt) G
theorem g_lshl (C : Cx p s m meth c Z n0 own bytes maxl ret nm) {x : Int64} {y : Int32} (d : In bytes pc 1 (.lshl) pc') (G : Go p l e R s m args below meth c n0 Q K N h k n (mkF m pc' Ls (.long (shlJ x y) :: st))) : Go p l e R s m args below meth c n0 Q K N h k n (mkF m pc Ls (.int y :: .long x :: st)) := by
  obtain ⟨d, rfl⟩ := d
  exact g_st (fun X _ t kt => XS.lshl X.here C.1 rfl (hb C.2.2.2.1 d) rfl kt) G
theorem g_lshr (C : Cx p s m meth c Z n0 own bytes maxl ret nm) {x : Int64} {y : Int32} (d : In bytes pc 1 (.lshr) pc') (G : Go p l e R s m args below meth c n0 Q K N h k n (mkF m pc' Ls (.long (shrJ x y) :: st))) : Go p l e R s m args below meth c n0 Q K N h k n (mkF m pc Ls (.int y :: .long x :: st)) := by
  obtain ⟨d, rfl⟩ := d
  exact g_st (fun X _ t kt => XS.lshr X.here C.1 rfl (hb C.2.2.2.1 d) rfl kt) G
theorem g_lushr (C : Cx p s m meth c Z n0 own bytes maxl ret nm) {x : Int64} {y : Int32} (d : In bytes pc 1 (.lushr) pc') (G : Go p l e R s m args below meth c n0 Q K N h k n (mkF m pc' Ls (.long (ushrJ x y) :: st))) : Go p l e R s m args below meth c n0 Q K N h k n (mkF m pc Ls (.int y :: .long x :: st)) := by
  obtain ⟨d, rfl⟩ := d
  exact g_st (fun X _ t kt => XS.lushr X.here C.1 rfl (hb C.2.2.2.1 d) rfl kt) G
theorem g_i2l (C : Cx p s m meth c Z n0 own bytes maxl ret nm) {x : Int32} (d : In bytes pc 1 (.i2l) pc') (G : Go p l e R s m args below meth c n0 Q K N h k n (mkF m pc' Ls (.long x.toInt64 :: st))) : Go p l e R s m args below meth c n0 Q K N h k n (mkF m pc Ls (.int x :: st)) := by
  obtain ⟨d, rfl⟩ := d
  exact g_st (fun X _ t kt => XS.i2l X.here C.1 rfl (hb C.2.2.2.1 d) rfl kt) G
theorem g_l2i (C : Cx p s m meth c Z n0 own bytes maxl ret nm) {x : Int64} (d : In bytes pc 1 (.l2i) pc') (G : Go p l e R s m args below meth c n0 Q K N h k n (mkF m pc' Ls (.int x.toInt32 :: st))) : Go p l e R s m args below meth c n0 Q K N h k n (mkF m pc Ls (.long x :: st)) := by
  obtain ⟨d, rfl⟩ := d
  exact g_st (fun X _ t kt => XS.l2i X.here C.1 rfl (hb C.2.2.2.1 d) rfl kt) G
theorem g_i2b (C : Cx p s m meth c Z n0 own bytes maxl ret nm) {x : Int32} (d : In bytes pc 1 (.i2b) pc') (G : Go p l e R s m args below meth c n0 Q K N h k n (mkF m pc' Ls (.int x.toInt8.toInt32 :: st))) : Go p l e R s m args below meth c n0 Q K N h k n (mkF m pc Ls (.int x :: st)) := by
  obtain ⟨d, rfl⟩ := d
  exact g_st (fun X _ t kt => XS.i2b X.here C.1 rfl (hb C.2.2.2.1 d) rfl kt) G
theorem g_ineg (C : Cx p s m meth c Z n0 own bytes maxl ret nm) {x : Int32} (d : In bytes pc 1 (.ineg) pc') (G : Go p l e R s m args below meth c n0 Q K N h k n (mkF m pc' Ls (.int (-x) :: st))) : Go p l e R s m args below meth c n0 Q K N h k n (mkF m pc Ls (.int x :: st)) := by
  obtain ⟨d, rfl⟩ := d
  exact g_st (fun X _ t kt => XS.ineg X.here C.1 rfl (hb C.2.2.2.1 d) rfl kt) G
theorem g_lneg (C : Cx p s m meth c Z n0 own bytes maxl ret nm) {x : Int64} (d : In bytes pc 1 (.lneg) pc') (G : Go p l e R s m args below meth c n0 Q K N h k n (mkF m pc' Ls (.long (-x) :: st))) : Go p l e R s m args below meth c n0 Q K N h k n (mkF m pc Ls (.long x :: st)) := by
  obtain ⟨d, rfl⟩ := d
  exact g_st (fun X _ t kt => XS.lneg X.here C.1 rfl (hb C.2.2.2.1 d) rfl kt) G
theorem g_iconst (C : Cx p s m meth c Z n0 own bytes maxl ret nm) {i : Int} (v : Int32) (hv : Int32.ofInt i = v) (d : In bytes pc 1 (.iconst i) pc') (G : Go p l e R s m args below meth c n0 Q K N h k n (mkF m pc' Ls (.int v :: st))) : Go p l e R s m args below meth c n0 Q K N h k n (mkF m pc Ls st) := by
  obtain ⟨d, rfl⟩ := d
  exact g_st (fun X _ t kt => XS.iconst X.here C.1 rfl (hb C.2.2.2.1 d) (hv ▸ kt)) G
theorem g_bipush (C : Cx p s m meth c Z n0 own bytes maxl ret nm) {i : Int} (v : Int32) (hv : (Int8.ofInt i).toInt32 = v) (d : In bytes pc 2 (.bipush i) pc') (G : Go p l e R s m args below meth c n0 Q K N h k n (mkF m pc' Ls (.int v :: st))) : Go p l e R s m args below meth c n0 Q K N h k n (mkF m pc Ls st) := by
  obtain ⟨d, rfl⟩ := d
  exact g_st (fun X _ t kt => XS.bipush X.here C.1 rfl (hb C.2.2.2.1 d) (hv ▸ kt)) G
theorem g_sipush (C : Cx p s m meth c Z n0 own bytes maxl ret nm) {i : Int} (v : Int32) (hv : (Int16.ofInt i).toInt32 = v) (d : In bytes pc 3 (.sipush i) pc') (G : Go p l e R s m args below meth c n0 Q K N h k n (mkF m pc' Ls (.int v :: st))) : Go p l e R s m args below meth c n0 Q K N h k n (mkF m pc Ls st) := by
  obtain ⟨d, rfl⟩ := d
  exact g_st (fun X _ t kt => XS.sipush X.here C.1 rfl (hb C.2.2.2.1 d) (hv ▸ kt)) G
theorem g_lconst (C : Cx p s m meth c Z n0 own bytes maxl ret nm) {i : Fin 2} (v : Int64) (hv : Int64.ofNat i = v) (d : In bytes pc 1 (.lconst i) pc') (G : Go p l e R s m args below meth c n0 Q K N h k n (mkF m pc' Ls (.long v :: st))) : Go p l e R s m args below meth c n0 Q K N h k n (mkF m pc Ls st) := by
  obtain ⟨d, rfl⟩ := d
  exact g_st (fun X _ t kt => XS.lconst X.here C.1 rfl (hb C.2.2.2.1 d) (hv ▸ kt)) G
theorem g_aconst (C : Cx p s m meth c Z n0 own bytes maxl ret nm) (d : In bytes pc 1 (.aconst_null) pc') (G : Go p l e R s m args below meth c n0 Q K N h k n (mkF m pc' Ls (.null :: st))) : Go p l e R s m args below meth c n0 Q K N h k n (mkF m pc Ls st) := by
  obtain ⟨d, rfl⟩ := d
  exact g_st (fun X _ t kt => XS.aconstNull X.here C.1 rfl (hb C.2.2.2.1 d) kt) G
theorem g_dup (C : Cx p s m meth c Z n0 own bytes maxl ret nm) {x : Value} (d : In bytes pc 1 (.dup) pc') (hc : x.category = 1) (G : Go p l e R s m args below meth c n0 Q K N h k n (mkF m pc' Ls (x :: x :: st))) : Go p l e R s m args below meth c n0 Q K N h k n (mkF m pc Ls (x :: st)) := by
  obtain ⟨d, rfl⟩ := d
  exact g_st (fun X _ t kt => XS.dup X.here C.1 rfl (hb C.2.2.2.1 d) rfl hc kt) G
theorem g_pop (C : Cx p s m meth c Z n0 own bytes maxl ret nm) {x : Value} (d : In bytes pc 1 (.pop) pc') (hc : x.category = 1) (G : Go p l e R s m args below meth c n0 Q K N h k n (mkF m pc' Ls st)) : Go p l e R s m args below meth c n0 Q K N h k n (mkF m pc Ls (x :: st)) := by
  obtain ⟨d, rfl⟩ := d
  exact g_st (fun X _ t kt => XS.pop X.here C.1 rfl (hb C.2.2.2.1 d) rfl hc kt) G
theorem g_iinc (C : Cx p s m meth c Z n0 own bytes maxl ret nm) {i : Nat} {cst : Int} {x : Int32} (y : Int32) (l' : Array Slot) (d : In bytes pc 3 (.iinc i cst) pc') (hl : Ls[i]? = some (.val (.int x))) (hv : y = x + Int32.ofInt cst) (hl' : storeLocals Ls i (.int y) = some l') (G : Go p l e R s m args below meth c n0 Q K N h k n (mkF m pc' l' st)) : Go p l e R s m args below meth c n0 Q K N h k n (mkF m pc Ls st) := by
  obtain ⟨d, rfl⟩ := d
  exact g_st (fun X _ t kt => XS.iinc X.here C.1 rfl (hb C.2.2.2.1 d) hl (hv ▸ hl') kt) G
theorem g_goto (C : Cx p s m meth c Z n0 own bytes maxl ret nm) (d : Jm bytes pc .goto pc' pct) (G : Go p l e R s m args below meth c n0 Q K N h k n (mkF m pct Ls st)) : Go p l e R s m args below meth c n0 Q K N h k n (mkF m pc Ls st) := by
  obtain ⟨o, d, rfl, h1, h2⟩ := d
  exact g_st (fun X _ t kt => XS.goto X.here C.1 rfl (pc0 := pc) (pc' := pct) rfl (hb C.2.2.2.1 d) h1 h2 kt) G
theorem g_icmp_lt (C : Cx p s m meth c Z n0 own bytes maxl ret nm) (d : Jm bytes pc (.if_icmp .lt) pc' pct) {x y : Int32} (Gt : x < y → Go p l e R s m args below meth c n0 Q K N h k n (mkF m pct Ls st)) (Gf : ¬ (x < y) → Go p l e R s m args below meth c n0 Q K N h k n (mkF m pc' Ls st)) : Go p l e R s m args below meth c n0 Q K N h k n (mkF m pc Ls (.int y :: .int x :: st)) := by
  obtain ⟨o, d, rfl, h1, h2⟩ := d
  by_cases q : x < y
  · exact g_st (fun X _ t kt => XS.icmpYes X.here C.1 rfl (pc0 := pc) (pc' := pct) rfl (hb C.2.2.2.1 d) rfl (tlt q).1 h1 h2 kt) (Gt q)
  · exact g_st (fun X _ t kt => XS.icmpNo X.here C.1 rfl (hb C.2.2.2.1 d) rfl (flt q).1 kt) (Gf q)
theorem g_if_lt (C : Cx p s m meth c Z n0 own bytes maxl ret nm) (d : Jm bytes pc (.ifCond .lt) pc' pct) {x : Int32} (Gt : x < 0 → Go p l e R s m args below meth c n0 Q K N h k n (mkF m pct Ls st)) (Gf : ¬ (x < 0) → Go p l e R s m args below meth c n0 Q K N h k n (mkF m pc' Ls st)) : Go p l e R s m args below meth c n0 Q K N h k n (mkF m pc Ls (.int x :: st)) := by
  obtain ⟨o, d, rfl, h1, h2⟩ := d
  by_cases q : x < 0
  · exact g_st (fun X _ t kt => XS.ifYes X.here C.1 rfl (pc0 := pc) (pc' := pct) rfl (hb C.2.2.2.1 d) rfl ((if0 _ _).trans (tlt q).1) h1 h2 kt) (Gt q)
  · exact g_st (fun X _ t kt => XS.ifNo X.here C.1 rfl (hb C.2.2.2.1 d) rfl ((if0 _ _).trans (flt q).1) kt) (Gf q)
theorem g_lcmp_lt (C : Cx p s m meth c Z n0 own bytes maxl ret nm) {x y : Int64} (d1 : In bytes pc 1 .lcmp pc1) (d : Jm bytes pc1 (.ifCond .lt) pc' pct) (Gt : x < y → Go p l e R s m args below meth c n0 Q K N h k n (mkF m pct Ls st)) (Gf : ¬ (x < y) → Go p l e R s m args below meth c n0 Q K N h k n (mkF m pc' Ls st)) : Go p l e R s m args below meth c n0 Q K N h k n (mkF m pc Ls (.long y :: .long x :: st)) := by
  obtain ⟨d1, rfl⟩ := d1
  refine g_st (fun X _ t kt => XS.lcmp X.here C.1 rfl (hb C.2.2.2.1 d1) rfl kt) ?_
  exact g_if_lt C d (fun q => Gt ((lw_lt x y).mp q)) (fun q => Gf (fun z => q ((lw_lt x y).mpr z)))
theorem g_icmp_ge (C : Cx p s m meth c Z n0 own bytes maxl ret nm) (d : Jm bytes pc (.if_icmp .ge) pc' pct) {x y : Int32} (Gt : ¬ (x < y) → Go p l e R s m args below meth c n0 Q K N h k n (mkF m pct Ls st)) (Gf : x < y → Go p l e R s m args below meth c n0 Q K N h k n (mkF m pc' Ls st)) : Go p l e R s m args below meth c n0 Q K N h k n (mkF m pc Ls (.int y :: .int x :: st)) := by
  obtain ⟨o, d, rfl, h1, h2⟩ := d
  by_cases q : ¬ (x < y)
  · exact g_st (fun X _ t kt => XS.icmpYes X.here C.1 rfl (pc0 := pc) (pc' := pct) rfl (hb C.2.2.2.1 d) rfl (flt q).2.1 h1 h2 kt) (Gt q)
  · exact g_st (fun X _ t kt => XS.icmpNo X.here C.1 rfl (hb C.2.2.2.1 d) rfl (tlt (Decidable.not_not.mp q)).2.1 kt) (Gf (Decidable.not_not.mp q))
theorem g_if_ge (C : Cx p s m meth c Z n0 own bytes maxl ret nm) (d : Jm bytes pc (.ifCond .ge) pc' pct) {x : Int32} (Gt : ¬ (x < 0) → Go p l e R s m args below meth c n0 Q K N h k n (mkF m pct Ls st)) (Gf : x < 0 → Go p l e R s m args below meth c n0 Q K N h k n (mkF m pc' Ls st)) : Go p l e R s m args below meth c n0 Q K N h k n (mkF m pc Ls (.int x :: st)) := by
  obtain ⟨o, d, rfl, h1, h2⟩ := d
  by_cases q : ¬ (x < 0)
  · exact g_st (fun X _ t kt => XS.ifYes X.here C.1 rfl (pc0 := pc) (pc' := pct) rfl (hb C.2.2.2.1 d) rfl ((if0 _ _).trans (flt q).2.1) h1 h2 kt) (Gt q)
  · exact g_st (fun X _ t kt => XS.ifNo X.here C.1 rfl (hb C.2.2.2.1 d) rfl ((if0 _ _).trans (tlt (Decidable.not_not.mp q)).2.1) kt) (Gf (Decidable.not_not.mp q))
theorem g_lcmp_ge (C : Cx p s m meth c Z n0 own bytes maxl ret nm) {x y : Int64} (d1 : In bytes pc 1 .lcmp pc1) (d : Jm bytes pc1 (.ifCond .ge) pc' pct) (Gt : ¬ (x < y) → Go p l e R s m args below meth c n0 Q K N h k n (mkF m pct Ls st)) (Gf : x < y → Go p l e R s m args below meth c n0 Q K N h k n (mkF m pc' Ls st)) : Go p l e R s m args below meth c n0 Q K N h k n (mkF m pc Ls (.long y :: .long x :: st)) := by
  obtain ⟨d1, rfl⟩ := d1
  refine g_st (fun X _ t kt => XS.lcmp X.here C.1 rfl (hb C.2.2.2.1 d1) rfl kt) ?_
  exact g_if_ge C d (fun q => Gt (fun z => q ((lw_lt x y).mpr z))) (fun q => Gf ((lw_lt x y).mp q))
theorem g_icmp_gt (C : Cx p s m meth c Z n0 own bytes maxl ret nm) (d : Jm bytes pc (.if_icmp .gt) pc' pct) {x y : Int32} (Gt : y < x → Go p l e R s m args below meth c n0 Q K N h k n (mkF m pct Ls st)) (Gf : ¬ (y < x) → Go p l e R s m args below meth c n0 Q K N h k n (mkF m pc' Ls st)) : Go p l e R s m args below meth c n0 Q K N h k n (mkF m pc Ls (.int y :: .int x :: st)) := by
  obtain ⟨o, d, rfl, h1, h2⟩ := d
  by_cases q : y < x
  · exact g_st (fun X _ t kt => XS.icmpYes X.here C.1 rfl (pc0 := pc) (pc' := pct) rfl (hb C.2.2.2.1 d) rfl (tlt q).2.2.1 h1 h2 kt) (Gt q)
  · exact g_st (fun X _ t kt => XS.icmpNo X.here C.1 rfl (hb C.2.2.2.1 d) rfl (flt q).2.2.1 kt) (Gf q)
theorem g_if_gt (C : Cx p s m meth c Z n0 own bytes maxl ret nm) (d : Jm bytes pc (.ifCond .gt) pc' pct) {x : Int32} (Gt : 0 < x → Go p l e R s m args below meth c n0 Q K N h k n (mkF m pct Ls st)) (Gf : ¬ (0 < x) → Go p l e R s m args below meth c n0 Q K N h k n (mkF m pc' Ls st)) : Go p l e R s m args below meth c n0 Q K N h k n (mkF m pc Ls (.int x :: st)) := by
  obtain ⟨o, d, rfl, h1, h2⟩ := d
  by_cases q : 0 < x
  · exact g_st (fun X _ t kt => XS.ifYes X.here C.1 rfl (pc0 := pc) (pc' := pct) rfl (hb C.2.2.2.1 d) rfl ((if0 _ _).trans (tlt q).2.2.1) h1 h2 kt) (Gt q)
  · exact g_st (fun X _ t kt => XS.ifNo X.here C.1 rfl (hb C.2.2.2.1 d) rfl ((if0 _ _).trans (flt q).2.2.1) kt) (Gf q)
theorem g_lcmp_gt (C : Cx p s m meth c Z n0 own bytes maxl ret nm) {x y : Int64} (d1 : In bytes pc 1 .lcmp pc1) (d : Jm bytes pc1 (.ifCond .gt) pc' pct) (Gt : y < x → Go p l e R s m args below meth c n0 Q K N h k n (mkF m pct Ls st)) (Gf : ¬ (y < x) → Go p l e R s m args below meth c n0 Q K N h k n (mkF m pc' Ls st)) : Go p l e R s m args below meth c n0 Q K N h k n (mkF m pc Ls (.long y :: .long x :: st)) := by
  obtain ⟨d1, rfl⟩ := d1
  refine g_st (fun X _ t kt => XS.lcmp X.here C.1 rfl (hb C.2.2.2.1 d1) rfl kt) ?_
  exact g_if_gt C d (fun q => Gt ((lw_gt x y).mp q)) (fun q => Gf (fun z => q ((lw_gt x y).mpr z)))
theorem g_icmp_le (C : Cx p s m meth c Z n0 own bytes maxl ret nm) (d : Jm bytes pc (.if_icmp .le) pc' pct) {x y : Int32} (Gt : ¬ (y < x) → Go p l e R s m args below meth c n0 Q K N h k n (mkF m pct Ls st)) (Gf : y < x → Go p l e R s m args below meth c n0 Q K N h k n (mkF m pc' Ls st)) : Go p l e R s m args below meth c n0 Q K N h k n (mkF m pc Ls (.int y :: .int x :: st)) := by
  obtain ⟨o, d, rfl, h1, h2⟩ := d
  by_cases q : ¬ (y < x)
  · exact g_st (fun X _ t kt => XS.icmpYes X.here C.1 rfl (pc0 := pc) (pc' := pct) rfl (hb C.2.2.2.1 d) rfl (flt q).2.2.2 h1 h2 kt) (Gt q)
  · exact g_st (fun X _ t kt => XS.icmpNo X.here C.1 rfl (hb C.2.2.2.1 d) rfl (tlt (Decidable.not_not.mp q)).2.2.2 kt) (Gf (Decidable.not_not.mp q))
theorem g_if_le (C : Cx p s m meth c Z n0 own bytes maxl ret nm) (d : Jm bytes pc (.ifCond .le) pc' pct) {x : Int32} (Gt : ¬ (0 < x) → Go p l e R s m args below meth c n0 Q K N h k n (mkF m pct Ls st)) (Gf : 0 < x → Go p l e R s m args below meth c n0 Q K N h k n (mkF m pc' Ls st)) : Go p l e R s m args below meth c n0 Q K N h k n (mkF m pc Ls (.int x :: st)) := by
  obtain ⟨o, d, rfl, h1, h2⟩ := d
  by_cases q : ¬ (0 < x)
  · exact g_st (fun X _ t kt => XS.ifYes X.here C.1 rfl (pc0 := pc) (pc' := pct) rfl (hb C.2.2.2.1 d) rfl ((if0 _ _).trans (flt q).2.2.2) h1 h2 kt) (Gt q)
  · exact g_st (fun X _ t kt => XS.ifNo X.here C.1 rfl (hb C.2.2.2.1 d) rfl ((if0 _ _).trans (tlt (Decidable.not_not.mp q)).2.2.2) kt) (Gf (Decidable.not_not.mp q))
theorem g_lcmp_le (C : Cx p s m meth c Z n0 own bytes maxl ret nm) {x y : Int64} (d1 : In bytes pc 1 .lcmp pc1) (d : Jm bytes pc1 (.ifCond .le) pc' pct) (Gt : ¬ (y < x) → Go p l e R s m args below meth c n0 Q K N h k n (mkF m pct Ls st)) (Gf : y < x → Go p l e R s m args below meth c n0 Q K N h k n (mkF m pc' Ls st)) : Go p l e R s m args below meth c n0 Q K N h k n (mkF m pc Ls (.long y :: .long x :: st)) := by
  obtain ⟨d1, rfl⟩ := d1
  refine g_st (fun X _ t kt => XS.lcmp X.here C.1 rfl (hb C.2.2.2.1 d1) rfl kt) ?_
  exact g_if_le C d (fun q => Gt (fun z => q ((lw_gt x y).mpr z))) (fun q => Gf ((lw_gt x y).mp q))
theorem g_icmp_eq (C : Cx p s m meth c Z n0 own bytes maxl ret nm) (d : Jm bytes pc (.if_icmp .eq) pc' pct) {x y : Int32} (Gt : x = y → Go p l e R s m args below meth c n0 Q K N h k n (mkF m pct Ls st)) (Gf : ¬ (x = y) → Go p l e R s m args below meth c n0 Q K N h k n (mkF m pc' Ls st)) : Go p l e R s m args below meth c n0 Q K N h k n (mkF m pc Ls (.int y :: .int x :: st)) := by
  obtain ⟨o, d, rfl, h1, h2⟩ := d
  by_cases q : x = y
  · exact g_st (fun X _ t kt => XS.icmpYes X.here C.1 rfl (pc0 := pc) (pc' := pct) rfl (hb C.2.2.2.1 d) rfl (teq q).1 h1 h2 kt) (Gt q)
  · exact g_st (fun X _ t kt => XS.icmpNo X.here C.1 rfl (hb C.2.2.2.1 d) rfl (feq q).1 kt) (Gf q)
theorem g_if_eq (C : Cx p s m meth c Z n0 own bytes maxl ret nm) (d : Jm bytes pc (.ifCond .eq) pc' pct) {x : Int32} (Gt : x = 0 → Go p l e R s m args below meth c n0 Q K N h k n (mkF m pct Ls st)) (Gf : ¬ (x = 0) → Go p l e R s m args below meth c n0 Q K N h k n (mkF m pc' Ls st)) : Go p l e R s m args below meth c n0 Q K N h k n (mkF m pc Ls (.int x :: st)) := by
  obtain ⟨o, d, rfl, h1, h2⟩ := d
  by_cases q : x = 0
  · exact g_st (fun X _ t kt => XS.ifYes X.here C.1 rfl (pc0 := pc) (pc' := pct) rfl (hb C.2.2.2.1 d) rfl ((if0 _ _).trans (teq q).1) h1 h2 kt) (Gt q)
  · exact g_st (fun X _ t kt => XS.ifNo X.here C.1 rfl (hb C.2.2.2.1 d) rfl ((if0 _ _).trans (feq q).1) kt) (Gf q)
theorem g_lcmp_eq (C : Cx p s m meth c Z n0 own bytes maxl ret nm) {x y : Int64} (d1 : In bytes pc 1 .lcmp pc1) (d : Jm bytes pc1 (.ifCond .eq) pc' pct) (Gt : x = y → Go p l e R s m args below meth c n0 Q K N h k n (mkF m pct Ls st)) (Gf : ¬ (x = y) → Go p l e R s m args below meth c n0 Q K N h k n (mkF m pc' Ls st)) : Go p l e R s m args below meth c n0 Q K N h k n (mkF m pc Ls (.long y :: .long x :: st)) := by
  obtain ⟨d1, rfl⟩ := d1
  refine g_st (fun X _ t kt => XS.lcmp X.here C.1 rfl (hb C.2.2.2.1 d1) rfl kt) ?_
  exact g_if_eq C d (fun q => Gt ((lw_eq x y).mp q)) (fun q => Gf (fun z => q ((lw_eq x y).mpr z)))
theorem g_icmp_ne (C : Cx p s m meth c Z n0 own bytes maxl ret nm) (d : Jm bytes pc (.if_icmp .ne) pc' pct) {x y : Int32} (Gt : ¬ (x = y) → Go p l e R s m args below meth c n0 Q K N h k n (mkF m pct Ls st)) (Gf : x = y → Go p l e R s m args below meth c n0 Q K N h k n (mkF m pc' Ls st)) : Go p l e R s m args below meth c n0 Q K N h k n (mkF m pc Ls (.int y :: .int x :: st)) := by
  obtain ⟨o, d, rfl, h1, h2⟩ := d
  by_cases q : ¬ (x = y)
  · exact g_st (fun X _ t kt => XS.icmpYes X.here C.1 rfl (pc0 := pc) (pc' := pct) rfl (hb C.2.2.2.1 d) rfl (feq q).2 h1 h2 kt) (Gt q)
  · exact g_st (fun X _ t kt => XS.icmpNo X.here C.1 rfl (hb C.2.2.2.1 d) rfl (teq (Decidable.not_not.mp q)).2 kt) (Gf (Decidable.not_not.mp q))
theorem g_if_ne (C : Cx p s m meth c Z n0 own bytes maxl ret nm) (d : Jm bytes pc (.ifCond .ne) pc' pct) {x : Int32} (Gt : ¬ (x = 0) → Go p l e R s m args below meth c n0 Q K N h k n (mkF m pct Ls st)) (Gf : x = 0 → Go p l e R s m args below meth c n0 Q K N h k n (mkF m pc' Ls st)) : Go p l e R s m args below meth c n0 Q K N h k n (mkF m pc Ls (.int x :: st)) := by
  obtain ⟨o, d, rfl, h1, h2⟩ := d
  by_cases q : ¬ (x = 0)
  · exact g_st (fun X _ t kt => XS.ifYes X.here C.1 rfl (pc0 := pc) (pc' := pct) rfl (hb C.2.2.2.1 d) rfl ((if0 _ _).trans (feq q).2) h1 h2 kt) (Gt q)
  · exact g_st (fun X _ t kt => XS.ifNo X.here C.1 rfl (hb C.2.2.2.1 d) rfl ((if0 _ _).trans (teq (Decidable.not_not.mp q)).2) kt) (Gf (Decidable.not_not.mp q))
theorem g_lcmp_ne (C : Cx p s m meth c Z n0 own bytes maxl ret nm) {x y : Int64} (d1 : In bytes pc 1 .lcmp pc1) (d : Jm bytes pc1 (.ifCond .ne) pc' pct) (Gt : ¬ (x = y) → Go p l e R s m args below meth c n0 Q K N h k n (mkF m pct Ls st)) (Gf : x = y → Go p l e R s m args below meth c n0 Q K N h k n (mkF m pc' Ls st)) : Go p l e R s m args below meth c n0 Q K N h k n (mkF m pc Ls (.long y :: .long x :: st)) := by
  obtain ⟨d1, rfl⟩ := d1
  refine g_st (fun X _ t kt => XS.lcmp X.here C.1 rfl (hb C.2.2.2.1 d1) rfl kt) ?_
  exact g_if_ne C d (fun q => Gt (fun z => q ((lw_eq x y).mpr z))) (fun q => Gf ((lw_eq x y).mp q))
theorem g_ldc2 (C : Cx p s m meth c Z n0 own bytes maxl ret nm) {i : Nat} {v : Int64} (w : (Cond.constantLong own i v).before a0 Z = true) (d : In bytes pc 3 (.ldc2_w i) pc') (G : Go p l e R s m args below meth c n0 Q K N h k n (mkF m pc' Ls (.long v :: st))) : Go p l e R s m args below meth c n0 Q K N h k n (mkF m pc Ls st) := by
  obtain ⟨d, rfl⟩ := d
  exact g_st (fun X _ t kt => X.ldc2Long C.1 C.2.2.1 (mvT C.2.1 w) (g := mkF m pc Ls st) rfl (hb C.2.2.2.1 d) _ kt) G
theorem g_ldc (C : Cx p s m meth c Z n0 own bytes maxl ret nm) {i : Nat} {v : Int32} (w : (Cond.constant own i v).before a0 Z = true) (d : In bytes pc 2 (.ldc i) pc') (G : Go p l e R s m args below meth c n0 Q K N h k n (mkF m pc' Ls (.int v :: st))) : Go p l e R s m args below meth c n0 Q K N h k n (mkF m pc Ls st) := by
  obtain ⟨d, rfl⟩ := d
  exact g_st (fun X _ t kt => X.ldcInt C.1 C.2.2.1 (mvT C.2.1 w) (g := mkF m pc Ls st) rfl (hb C.2.2.2.1 d) _ kt) G
theorem g_getF (C : Cx p s m meth c Z n0 own bytes maxl ret nm) {i : Nat} {O f ds : String} (w : (Cond.fieldLink own i O f ds).before a0 Z = true) (d : In bytes pc 3 (.getfield i) pc') {a : Addr} {v : Value} (F : Fld Z h a O f ds v) (G : Go p l e R s m args below meth c n0 Q K N h k n (mkF m pc' Ls (v :: st))) : Go p l e R s m args below meth c n0 Q K N h k n (mkF m pc Ls (.ref a :: st)) := by
  obtain ⟨d, rfl⟩ := d
  intro T L hL X eT
  obtain ⟨T', X', e', st'⟩ := getF X C.1 C.2.1 C.2.2.1 (host := "") (Or.inl w) Via.refl eT F (g := mkF m pc Ls (.ref a :: st)) rfl rfl (hb C.2.2.2.1 d)
  obtain ⟨t, o, h1, h2⟩ := G T' L hL X' e'
  exact ⟨t, o, st' t h1, h2⟩
theorem g_putF (C : Cx p s m meth c Z n0 own bytes maxl ret nm) {i kk : Nat} {O f ds K' : String} {ty : FieldType} (w : (Cond.fieldLink own i O f ds).before a0 Z = true) (d : In bytes pc 3 (.putfield i) pc') {a : Addr} {v v' old : Value} (F : Fld Z h a O f ds old) (E : Exa Z h a K')
    (L : (Cond.lays K' O f ds).before a0 Z = true ∨ ((Cond.laysFinal K' O f ds).before a0 Z = true ∧ own = O ∧ nm = "<init>")) (wi : (Cond.instantiable K' kk).before a0 Z = true) (hty : parseFieldDescriptor ds = some ty) (hn : narrow ty v = v') (hf : fits ty v' = true) (ge : n0 ≤ a)
    (G : ∀ h', Wr h h' a (Jvm.RoadKit.slotOf Z O f ds) v' → Go p l e R s m args below meth c n0 Q K N h' k n (mkF m pc' Ls st)) : Go p l e R s m args below meth c n0 Q K N h k n (mkF m pc Ls (v :: .ref a :: st)) := by
  obtain ⟨d, rfl⟩ := d
  intro T Lo hL X eT
  have L' : (Cond.lays K' O f ds).before a0 Z = true ∨ ((Cond.laysFinal K' O f ds).before a0 Z = true ∧ own = O ∧ meth.name = "<init>") := L.imp id fun q => ⟨q.1, q.2.1, C.2.2.2.2.2.2.2.1.trans q.2.2⟩
  obtain ⟨T', h', X', e', W', st'⟩ := putFN X C.1 C.2.1 C.2.2.1 w Via.refl eT F E L' wi hty hn hf (g := mkF m pc Ls (v :: .ref a :: st)) rfl rfl (hb C.2.2.2.1 d)
  obtain ⟨t, o, h1, h2⟩ := G h' W' T' _ (Fr.snoc X' hL ge) X' e'
  exact ⟨t, o, st' t h1, h2⟩
theorem g_new (C : Cx p s m meth c Z n0 own bytes maxl ret nm) {i sz : Nat} {K' : String} (w : (Cond.classLink own i K').before a0 Z = true) (wi : (Cond.instantiable K' sz).before a0 Z = true) (wz : (Cond.initialized K').before a0 Z = true) (d : In bytes pc 3 (.new i) pc') (hc : k + 1 ≤ R.cells) (hl : n + sz ≤ R.slots)
    (G : ∀ h' a, n0 ≤ a → a = h.size → Ext h h' → Exa Z h' a K' → (∀ {O f ds : String} {ty : FieldType}, Laid Z a0 K' O f ds → parseFieldDescriptor ds = some ty → Fld Z h' a O f ds (defaultValue ty)) → Go p l e R s m args below meth c n0 Q K N h' (k + 1) (n + sz) (mkF m pc' Ls (.ref a :: st))) : Go p l e R s m args below meth c n0 Q K N h k n (mkF m pc Ls st) := by
  obtain ⟨d, rfl⟩ := d
  intro T Lo hL X eT
  have ge : n0 ≤ h.size := Nat.le_trans C.2.2.2.2.2.2.2.2 (eT ▸ Stand.up X)
  obtain ⟨T', h', X', e', E', A', D', -, st'⟩ := newO X C.1 C.2.1 C.2.2.1 w wi wz eT (g := mkF m pc Ls st) rfl (hb C.2.2.2.1 d) hc hl
  obtain ⟨t, o, h1, h2⟩ := G h' h.size ge rfl E' A' D' T' _ hL X' e'
  exact ⟨t, o, st' t h1, h2⟩
theorem g_newarr (C : Cx p s m meth c Z n0 own bytes maxl ret nm) {aty : ArrayType} (w : (Cond.arrayClass (newarray.typeOf aty)).before a0 Z = true) (d : In bytes pc 2 (.newarray aty) pc') {z : Int32} (hz : ¬ z < 0) (cap : Nat) (hcap : z.toNatClampNeg ≤ cap) (hb8 : cap * 8 ≤ 536870912) (hc : k + 1 ≤ R.cells) (hl : n + cap ≤ R.slots)
    (G : ∀ h' a kA, n0 ≤ a → a = h.size → Ext h h' → Arr Z h' a (newA kA (newarray.typeOf aty) z) (newarray.typeOf aty) → Go p l e R s m args below meth c n0 Q K N h' (k + 1) (n + cap) (mkF m pc' Ls (.ref a :: st))) : Go p l e R s m args below meth c n0 Q K N h k n (mkF m pc Ls (.int z :: st)) := by
  obtain ⟨d, rfl⟩ := d
  intro T Lo hL X eT
  have ge : n0 ≤ h.size := Nat.le_trans C.2.2.2.2.2.2.2.2 (eT ▸ Stand.up X)
  obtain ⟨T', h', kA, X', e', E', A', st'⟩ := newP X C.1 C.2.1 w eT (g := mkF m pc Ls (.int z :: st)) rfl (hb C.2.2.2.1 d) rfl hz hcap hb8 hc hl
  obtain ⟨t, o, h1, h2⟩ := G h' h.size kA ge rfl E' A' T' _ hL X' e'
  exact ⟨t, o, st' t h1, h2⟩
theorem g_initO (C : Cx p s m meth c Z n0 own bytes maxl ret nm) {i : Nat} (w1 : (Cond.methodLink own i Lib.objectInit).before a0 Z = true) (w2 : (Cond.instanceMethod Lib.objectInit).before a0 Z = true) (w3 : (Cond.code Lib.objectInit ⟨#[0xb1]⟩ 1 none).before a0 Z = true) (d : In bytes pc 3 (.invokespecial i) pc') (hsz : Ls.size = maxl) {a : Addr} (hf : 1 ≤ R.frames) (W : Nat) (hW : (st.map fun v => v.category).sum ≤ W) (hl : W + 12 ≤ R.locals) (G : Go p l e R s m args below meth c n0 Q K N h k n (mkF m pc' Ls st)) : Go p l e R s m args below meth c n0 Q K N h k n (mkF m pc Ls (.ref a :: st)) := by
  obtain ⟨d, rfl⟩ := d
  intro T L hL X eT
  obtain ⟨T', X', e', st'⟩ := initO X C.1 C.2.1 C.2.2.1 w1 w2 w3 eT (g := mkF m pc Ls (.ref a :: st)) rfl (by rw [C.2.2.2.2.1]; exact hsz) rfl (hb C.2.2.2.1 d) hf (W := W) (by show 2 * 0 + _ ≤ _; omega) hl
  obtain ⟨t, o, h1, h2⟩ := G T' L hL X' e'
  exact ⟨t, o, st' t h1, h2⟩
theorem g_retI (C : Cx p s m meth c Z n0 own bytes maxl (some .int) nm) (d : In bytes pc 1 .ireturn pc') {z : Int32} (hk : k ≤ K) (hn : n ≤ N) (q : Q (some (.int z)) h) : Go p l e R s m args below meth c n0 Q K N h k n (mkF m pc Ls ([.int z])) := by
  obtain ⟨d, rfl⟩ := d
  intro T L hL X eT
  have hlk : meth.locks = false := C.2.2.2.2.2.2.1
  obtain ⟨fs, hr, hrun, hended, hW, hsame⟩ := X.leave (v := some (.int z)) (fun h => by rw [C.2.2.2.2.2.1] at h; cases h) hlk
  refine ⟨_, _, X.ireturnOut C.1 C.2.2.2.2.2.1 rfl (Or.inl rfl) (hb C.2.2.2.1 d) hr, hrun, hended, _, _, rfl, ⟨?_, hL⟩, ⟨_, rfl⟩, hW, hsame.mono hk hn⟩
  show Q _ T.heap
  rw [eT]; exact q
theorem g_retJ (C : Cx p s m meth c Z n0 own bytes maxl (some .long) nm) (d : In bytes pc 1 .lreturn pc') {z : Int64} (hk : k ≤ K) (hn : n ≤ N) (q : Q (some (.long z)) h) : Go p l e R s m args below meth c n0 Q K N h k n (mkF m pc Ls ([.long z])) := by
  obtain ⟨d, rfl⟩ := d
  intro T L hL X eT
  have hlk : meth.locks = false := C.2.2.2.2.2.2.1
  obtain ⟨fs, hr, hrun, hended, hW, hsame⟩ := X.leave (v := some (.long z)) (fun h => by rw [C.2.2.2.2.2.1] at h; cases h) hlk
  refine ⟨_, _, X.lreturnOut C.1 C.2.2.2.2.2.1 (hb C.2.2.2.1 d) hr, hrun, hended, _, _, rfl, ⟨?_, hL⟩, ⟨_, rfl⟩, hW, hsame.mono hk hn⟩
  show Q _ T.heap
  rw [eT]; exact q
theorem g_retZ (C : Cx p s m meth c Z n0 own bytes maxl (some .boolean) nm) (d : In bytes pc 1 .ireturn pc') {z : Int32} (hk : k ≤ K) (hn : n ≤ N) (q : Q (some (.int (z &&& 1))) h) : Go p l e R s m args below meth c n0 Q K N h k n (mkF m pc Ls ([.int z])) := by
  obtain ⟨d, rfl⟩ := d
  intro T L hL X eT
  have hlk : meth.locks = false := C.2.2.2.2.2.2.1
  obtain ⟨fs, hr, hrun, hended, hW, hsame⟩ := X.leave (v := some (.int (z &&& 1))) (fun h => by rw [C.2.2.2.2.2.1] at h; cases h) hlk
  refine ⟨_, _, retN X C.1 (t := .boolean) C.2.2.2.2.2.1 (by simp) (hb C.2.2.2.1 d) hr, hrun, hended, _, _, rfl, ⟨?_, hL⟩, ⟨_, rfl⟩, hW, hsame.mono hk hn⟩
  show Q _ T.heap
  rw [eT]; exact q
theorem g_retA (C : Cx p s m meth c Z n0 own bytes maxl ret nm) {ty : FieldType} (hret : ret = some ty) (hty : ty.isReference = true) (d : In bytes pc 1 .areturn pc') {z : Value} (hz : z.isRef = true) (hk : k ≤ K) (hn : n ≤ N) (q : Q (some z) h) : Go p l e R s m args below meth c n0 Q K N h k n (mkF m pc Ls ([z])) := by
  obtain ⟨d, rfl⟩ := d
  subst hret
  intro T L hL X eT
  have hlk : meth.locks = false := C.2.2.2.2.2.2.1
  obtain ⟨fs, hr, hrun, hended, hW, hsame⟩ := X.leave (v := some z) (fun h => by rw [C.2.2.2.2.2.1] at h; cases h) hlk
  refine ⟨_, _, X.areturnOut C.1 hz C.2.2.2.2.2.1 hty (hb C.2.2.2.1 d) hr, hrun, hended, _, _, rfl, ⟨?_, hL⟩, ⟨_, rfl⟩, hW, hsame.mono hk hn⟩
  show Q _ T.heap
  rw [eT]; exact q
theorem g_ret (C : Cx p s m meth c Z n0 own bytes maxl none nm) (d : In bytes pc 1 .return_ pc') (hk : k ≤ K) (hn : n ≤ N) (q : Q none h) : Go p l e R s m args below meth c n0 Q K N h k n (mkF m pc Ls []) := by
  obtain ⟨d, rfl⟩ := d
  intro T L hL X eT
  have hlk : meth.locks = false := C.2.2.2.2.2.2.1
  obtain ⟨fs, hr, hrun, hended, hW, hsame⟩ := X.leave (v := none) (fun _ => rfl) hlk
  refine ⟨_, _, X.returnOut C.1 C.2.2.2.2.2.1 (hb C.2.2.2.1 d) hr, hrun, hended, _, _, rfl, ⟨?_, hL⟩, ⟨_, rfl⟩, hW, hsame.mono hk hn⟩
  show Q _ T.heap
  rw [eT]; exact q
/-- a method's contract: called with 'as' at a heap h0 it comes back so -/
abbrev Con (l : Launch) (Z : State) (y : MethodName) (bytes : ByteArray) (maxl : Nat) (ret : Option FieldType) (rm : Room) (ws : List Jvm.Cond) (as : Array Value) (h0 : Heap) (n0 : Nat) (Q : Option Value → Heap → Prop) : Prop :=
  MetFree l y (head1 (Jvm.Cond.code y bytes maxl ret :: ws) rm) (fun a U => a = as ∧ Z.Warmed39 U.vm ∧ U.heap = h0) (fun _ _ _ _ _ => True) (fun _ U o U' => ∃ v L, o = .returned v ∧ (Q v U'.heap ∧ Fr n0 L) ∧ FrameEnd U o U' L rm.cells rm.slots)
theorem con_of {y : MethodName} {rm : Room} {ws : List Jvm.Cond} {as : Array Value} {h0 : Heap} {Ls0 : Array Slot} (hpl : plainFor y = true) (he : ∀ m, entryFrame m as maxl = mkF m 0 Ls0 []) (hn0 : n0 ≤ h0.size)
    (B : ∀ (p : Program) (e : Env) (s : State) (m : MethodId) (below : List Frame) (meth : Method) (c : ClassFile.Code), Cx p s m meth c Z n0 y.cls bytes maxl ret y.name → Go p l e rm s m as below meth c n0 Q rm.cells rm.slots h0 0 0 (mkF m 0 Ls0 [])) : Con l Z y bytes maxl ret rm ws as h0 n0 Q := by
  refine MetFree.of_bodySF hpl hisR ?_
  intro p e s m args below meth c s₁ Bd hml0 hP hK
  obtain ⟨rfl, hZ, hh⟩ := hP
  have hlk : meth.locks = false := BodyLoose.notSynchronized Bd
  have X0 : Stand p l e rm s m _ below meth c s₁ [] 0 0 := Stand.of_body Bd
  have e0 : s₁.heap = h0 := by rw [← hh, Bd.state]; rfl
  obtain ⟨t, o, h1, h2, h3, v, L, h4, h5, h6⟩ := B p e s m below meth c ⟨Bd.exec, hZ, findClass_of_methodNamed Bd.named, Bd.bytes, hml0, Bd.returns, hlk, (name_of_methodNamed Bd.named Bd.method).1, by rw [hh]; exact hn0⟩ s₁ [] (Fr.nil n0) X0 e0
  exact ⟨t, o, castTop (he m) h1, h2, h3, v, L, h4, h5, h6⟩
theorem g_callS (C : Cx p s m meth c Z n0 own bytes maxl ret nm) {y : MethodName} {by' : ByteArray} {ml : Nat} {rt : Option FieldType} {rm : Room} {as : Array Value} {Q' : Option Value → Heap → Prop} (con : Con l Z y by' ml rt rm [] as h n0 Q') {i : Nat} (w1 : (Cond.methodLink own i y).before a0 Z = true) (w2 : (Cond.static y).before a0 Z = true) (w3 : (Cond.initialized y.cls).before a0 Z = true) (w4 : (Cond.code y by' ml rt).before a0 Z = true) (hy : y.cls ≠ "java/lang/invoke/MethodHandle" ∧ y.cls ≠ "java/lang/invoke/VarHandle")
    (d : In bytes pc 3 (.invokestatic i) pc') {ps : List FieldType} {r : Option FieldType} (hpd : parseMethodDescriptor y.desc = some ⟨ps, r⟩) (argsL rest : List Value) (has : as = argsL.toArray) (hlen : argsL.length = ps.length) (hsz : Ls.size = maxl) (W : Nat) (hW : (rest.map fun v => v.category).sum ≤ W) (r1 : rm.frames + 1 ≤ R.frames) (r2 : W + (ml + 11) + rm.locals ≤ R.locals) (r3 : k + rm.cells ≤ R.cells) (r4 : n + rm.slots ≤ R.slots)
    (G : ∀ v h', Q' v h' → Go p l e R s m args below meth c n0 Q K N h' (k + rm.cells) (n + rm.slots) (mkF m pc' Ls (v.toList ++ rest))) : Go p l e R s m args below meth c n0 Q K N h k n (mkF m pc Ls (argsL.reverse ++ rest)) := by
  obtain ⟨d, rfl⟩ := d
  intro T L hL X eT
  obtain ⟨v, vm₁, ⟨T', L2, k2, n2⟩, -, X', ⟨Lc, hQ, l2, y2, z2⟩, st'⟩ := Jvm.LawKit.callS X C.1 (y := y) C.2.2.1 (mvT C.2.1 w1) (mvT C.2.1 w2) (mvT C.2.1 w3) (mvT C.2.1 w4) hy (backOf (W := W) (Q := fun v h L => Q' v h ∧ Fr n0 L) con C.2.1 w4 w3 r1 r2) (g := mkF m pc Ls (argsL.reverse ++ rest)) rfl (by rw [C.2.2.2.2.1]; exact hsz) (argsL := argsL) (rest := rest) (lenOf hpd hlen) rfl (by show 2 * 0 + _ ≤ _; omega) (hb C.2.2.2.1 d) (fun _ _ => ⟨has.symm, eT, r3, r4⟩)
  dsimp only [Pt.U, Pt.locs, Pt.cells, Pt.slots] at X' l2 y2 z2 st' hQ
  subst l2 y2 z2
  obtain ⟨t, o, h1, h2⟩ := G v T'.heap hQ.1 T' _ (Fr.app hL hQ.2) X' rfl
  exact ⟨t, o, st' t h1, h2⟩
theorem g_callI (C : Cx p s m meth c Z n0 own bytes maxl ret nm) {y : MethodName} {by' : ByteArray} {ml : Nat} {rm : Room} {as : Array Value} {Q' : Option Value → Heap → Prop} (con : Con l Z y by' ml none rm [] as h n0 Q') {i : Nat} (hini : y.name = "<init>") (w1 : (Cond.methodLink own i y).before a0 Z = true) (w2 : (Cond.instanceMethod y).before a0 Z = true) (w3 : (Cond.initialized y.cls).before a0 Z = true) (w4 : (Cond.code y by' ml none).before a0 Z = true) (hy : y.cls ≠ "java/lang/invoke/MethodHandle" ∧ y.cls ≠ "java/lang/invoke/VarHandle")
    (d : In bytes pc 3 (.invokespecial i) pc') {ps : List FieldType} {r : Option FieldType} (hpd : parseMethodDescriptor y.desc = some ⟨ps, r⟩) {a : Addr} (argsL rest : List Value) (has : as = (.ref a :: argsL).toArray) (hlen : argsL.length = ps.length) (hsz : Ls.size = maxl) (W : Nat) (hW : (rest.map fun v => v.category).sum ≤ W) (r1 : rm.frames + 1 ≤ R.frames) (r2 : W + (ml + 11) + rm.locals ≤ R.locals) (r3 : k + rm.cells ≤ R.cells) (r4 : n + rm.slots ≤ R.slots)
    (G : ∀ v h', Q' v h' → Go p l e R s m args below meth c n0 Q K N h' (k + rm.cells) (n + rm.slots) (mkF m pc' Ls (v.toList ++ rest))) : Go p l e R s m args below meth c n0 Q K N h k n (mkF m pc Ls (argsL.reverse ++ .ref a :: rest)) := by
  obtain ⟨d, rfl⟩ := d
  intro T L hL X eT
  obtain ⟨v, vm₁, ⟨T', L2, k2, n2⟩, -, X', ⟨Lc, hQ, l2, y2, z2⟩, st'⟩ := X.specialBack C.1 (y := y) hini C.2.2.1 (mvT C.2.1 w1) (mvT C.2.1 w2) (mvT C.2.1 w4) hy (backOf (W := W) (Q := fun v h L => Q' v h ∧ Fr n0 L) con C.2.1 w4 w3 r1 r2) (g := mkF m pc Ls (argsL.reverse ++ .ref a :: rest)) rfl (by rw [C.2.2.2.2.1]; exact hsz) (Steps.refl _) (a := a) (argsL := argsL) (rest := rest) (lenOf hpd hlen) rfl (by show 2 * 0 + _ ≤ _; omega) (hb C.2.2.2.1 d) (fun _ _ => ⟨has.symm, eT, r3, r4⟩)
  dsimp only [Pt.U, Pt.locs, Pt.cells, Pt.slots] at X' l2 y2 z2 st' hQ
  subst l2 y2 z2
  obtain ⟨t, o, h1, h2⟩ := G v T'.heap hQ.1 T' _ (Fr.app hL hQ.2) X' rfl
  exact ⟨t, o, st'.trans h1, h2⟩
theorem g_callV (C : Cx p s m meth c Z n0 own bytes maxl ret nm) {y : MethodName} {by' : ByteArray} {ml : Nat} {rt : Option FieldType} {rm : Room} {as : Array Value} {Q' : Option Value → Heap → Prop} (con : Con l Z y by' ml rt rm [] as h n0 Q') {i : Nat} (w1 : (Cond.methodLink own i y).before a0 Z = true) (w2 : (Cond.declares y).before a0 Z = true) (w5 : (Cond.instanceMethod y).before a0 Z = true) {K' : String} (w6 : (Cond.selects K' y y).before a0 Z = true) (w3 : (Cond.initialized y.cls).before a0 Z = true) (w4 : (Cond.code y by' ml rt).before a0 Z = true) (hy : y.cls ≠ "java/lang/invoke/MethodHandle" ∧ y.cls ≠ "java/lang/invoke/VarHandle")
    (d : In bytes pc 3 (.invokevirtual i) pc') {ps : List FieldType} {r : Option FieldType} (hpd : parseMethodDescriptor y.desc = some ⟨ps, r⟩) {a : Addr} (E : Exa Z h a K') (argsL rest : List Value) (has : as = (.ref a :: argsL).toArray) (hlen : argsL.length = ps.length) (hsz : Ls.size = maxl) (W : Nat) (hW : (rest.map fun v => v.category).sum ≤ W) (r1 : rm.frames + 1 ≤ R.frames) (r2 : W + (ml + 11) + rm.locals ≤ R.locals) (r3 : k + rm.cells ≤ R.cells) (r4 : n + rm.slots ≤ R.slots)
    (G : ∀ v h', Q' v h' → Go p l e R s m args below meth c n0 Q K N h' (k + rm.cells) (n + rm.slots) (mkF m pc' Ls (v.toList ++ rest))) : Go p l e R s m args below meth c n0 Q K N h k n (mkF m pc Ls (argsL.reverse ++ .ref a :: rest)) := by
  obtain ⟨d, rfl⟩ := d
  intro T L hL X eT
  obtain ⟨cq, kq, q1, q2, q3⟩ := isOf C.2.1 eT E
  obtain ⟨v, vm₁, ⟨T', L2, k2, n2⟩, -, X', ⟨Lc, hQ, l2, y2, z2⟩, st'⟩ := X.virtualBack C.1 (y := y) (z := y) C.2.2.1 (mvT C.2.1 w1) (mvT C.2.1 w2) (notFace_of_selects (args := #[]) (mvT C.2.1 w6)) (mvT C.2.1 w6) (mvT C.2.1 w5) hy (backOf (W := W) (Q := fun v h L => Q' v h ∧ Fr n0 L) con C.2.1 w4 w3 r1 r2) q1 q3 (g := mkF m pc Ls (argsL.reverse ++ .ref a :: rest)) rfl (by rw [C.2.2.2.2.1]; exact hsz) (Steps.refl _) (argsL := argsL) (rest := rest) (lenOf hpd hlen) rfl (by show 2 * 0 + _ ≤ _; omega) (hb C.2.2.2.1 d) (fun _ _ => ⟨has.symm, eT, r3, r4⟩)
  dsimp only [Pt.U, Pt.locs, Pt.cells, Pt.slots] at X' l2 y2 z2 st' hQ
  subst l2 y2 z2
  obtain ⟨t, o, h1, h2⟩ := G v T'.heap hQ.1 T' _ (Fr.app hL hQ.2) X' rfl
  exact ⟨t, o, st'.trans h1, h2⟩
theorem g_callP (C : Cx p s m meth c Z n0 own bytes maxl ret nm) {y : MethodName} {by' : ByteArray} {ml : Nat} {rt : Option FieldType} {rm : Room} {as : Array Value} {Q' : Option Value → Heap → Prop} (con : Con l Z y by' ml rt rm [] as h n0 Q') {i : Nat} (w1 : (Cond.methodLink own i y).before a0 Z = true) (w5 : (Cond.instanceMethod y).before a0 Z = true) (w6 : (Cond.selects y.cls y y).before a0 Z = true) (w7 : (Cond.privateMethod y).before a0 Z = true) (w3 : (Cond.initialized y.cls).before a0 Z = true) (w4 : (Cond.code y by' ml rt).before a0 Z = true) (hy : y.cls ≠ "java/lang/invoke/MethodHandle" ∧ y.cls ≠ "java/lang/invoke/VarHandle")
    (d : In bytes pc 3 (.invokevirtual i) pc') {ps : List FieldType} {r : Option FieldType} (hpd : parseMethodDescriptor y.desc = some ⟨ps, r⟩) {a : Addr} {K' : String} (E : Exa Z h a K') (argsL rest : List Value) (has : as = (.ref a :: argsL).toArray) (hlen : argsL.length = ps.length) (hsz : Ls.size = maxl) (W : Nat) (hW : (rest.map fun v => v.category).sum ≤ W) (r1 : rm.frames + 1 ≤ R.frames) (r2 : W + (ml + 11) + rm.locals ≤ R.locals) (r3 : k + rm.cells ≤ R.cells) (r4 : n + rm.slots ≤ R.slots)
    (G : ∀ v h', Q' v h' → Go p l e R s m args below meth c n0 Q K N h' (k + rm.cells) (n + rm.slots) (mkF m pc' Ls (v.toList ++ rest))) : Go p l e R s m args below meth c n0 Q K N h k n (mkF m pc Ls (argsL.reverse ++ .ref a :: rest)) := by
  obtain ⟨d, rfl⟩ := d
  intro T L hL X eT
  obtain ⟨cq, q1, q2⟩ := E.cell
  obtain ⟨v, vm₁, ⟨T', L2, k2, n2⟩, -, X', ⟨Lc, hQ, l2, y2, z2⟩, st'⟩ := X.privateBack C.1 (y := y) C.2.2.1 (mvT C.2.1 w1) (mvT C.2.1 w5) (mvT C.2.1 w6) (Cond.privateMethod_at (mvP C.2.1 w7 (args := #[]))) (mvT C.2.1 w4) hy (backOf (W := W) (Q := fun v h L => Q' v h ∧ Fr n0 L) con C.2.1 w4 w3 r1 r2) (g := mkF m pc Ls (argsL.reverse ++ .ref a :: rest)) rfl (by rw [C.2.2.2.2.1]; exact hsz) (Steps.refl _) (a := a) (by rw [eT]; exact q1) q2 (argsL := argsL) (rest := rest) (lenOf hpd hlen) rfl (by show 2 * 0 + _ ≤ _; omega) (hb C.2.2.2.1 d) (fun _ _ => ⟨has.symm, eT, r3, r4⟩)
  dsimp only [Pt.U, Pt.locs, Pt.cells, Pt.slots] at X' l2 y2 z2 st' hQ
  subst l2 y2 z2
  obtain ⟨t, o, h1, h2⟩ := G v T'.heap hQ.1 T' _ (Fr.app hL hQ.2) X' rfl
  exact ⟨t, o, st'.trans h1, h2⟩
/-- an array of z places at a, whose contents are f -/
def LArr (Z : State) (h : Heap) (a : Addr) (z : Nat) (f : Nat → Int64) : Prop := ∃ c : Cell, Arr Z h a c .long ∧ c.slots.size = z ∧ z < 2 ^ 31 ∧ ∀ i, i < z → c.slots[i]? = some (.long (f i))
theorem LArr.lt {a : Addr} {z : Nat} {f : Nat → Int64} (A : LArr Z h a z f) : a < h.size := by obtain ⟨c, A, -⟩ := A; exact A.lt
theorem LArr.ext {h' : Heap} {a : Addr} {z : Nat} {f : Nat → Int64} (A : LArr Z h a z f) (E : Ext h h') : LArr Z h' a z f := by obtain ⟨c, A, r⟩ := A; exact ⟨c, A.ext E, r⟩
theorem LArr.other {h' : Heap} {a b : Addr} {sl : Nat} {v : Value} {z : Nat} {f : Nat → Int64} (A : LArr Z h b z f) (W : Wr h h' a sl v) (q : b ≠ a) : LArr Z h' b z f := by obtain ⟨c, A, r⟩ := A; exact ⟨c, A.other W q, r⟩
theorem LArr.keep {h' : Heap} {a : Addr} {ws : List Addr} {z : Nat} {f : Nat → Int64} (A : LArr Z h a z f) (K : Keep h h' ws) (q : a ∉ ws) : LArr Z h' a z f := by obtain ⟨c, A, r⟩ := A; exact ⟨c, ⟨K.2.1 a c A.1 q, A.2⟩, r⟩
theorem LArr.congr {a : Addr} {z : Nat} {f g : Nat → Int64} (A : LArr Z h a z f) (q : ∀ i, i < z → g i = f i) : LArr Z h a z g := by obtain ⟨c, A, r1, r2, r3⟩ := A; exact ⟨c, A, r1, r2, fun i hi => by rw [q i hi]; exact r3 i hi⟩
theorem LArr.new {a : Addr} {kA : ClassId} {z : Int32} (A : Arr Z h a (newA kA .long z) .long) : LArr Z h a z.toNatClampNeg (fun _ => 0) :=
  ⟨_, A, sz_new _ _ _, z.toNatClampNeg_lt, fun i hi => by simp [newA, hi, defaultValue]⟩
theorem LArr.set {h' : Heap} {a : Addr} {z j : Nat} {x : Int64} {f : Nat → Int64} (A : LArr Z h a z f) (W : Wr h h' a j (.long x)) : LArr Z h' a z (fun i => if i = j then x else f i) := by
  obtain ⟨c, A, r1, r2, r3⟩ := A
  refine ⟨_, A.same W, by simp [Cell.setSlot, r1], r2, fun i hi => ?_⟩
  by_cases q : i = j
  · subst q
    simp [Cell.setSlot, r1, hi]
  · simp only [q, if_false]
    rw [← r3 i hi]
    exact Array.getElem?_setIfInBounds_ne (Ne.symm q)
theorem g_laload (C : Cx p s m meth c Z n0 own bytes maxl ret nm) (d : In bytes pc 1 .laload pc') {a : Addr} {z : Nat} {f : Nat → Int64} {j : Int32} (A : LArr Z h a z f) (h1 : 0 ≤ j.toInt) (h2 : j.toInt < z) (v : Int64) (hv : f j.toInt.toNat = v) (G : Go p l e R s m args below meth c n0 Q K N h k n (mkF m pc' Ls (.long v :: st))) : Go p l e R s m args below meth c n0 Q K N h k n (mkF m pc Ls (.int j :: .ref a :: st)) := by
  obtain ⟨d, rfl⟩ := d
  obtain ⟨cl, A, r1, r2, r3⟩ := A
  have e1 : j.toNatClampNeg = j.toInt.toNat := rfl
  have hj : ¬ (j < 0 ∨ cl.slots.size ≤ j.toNatClampNeg) := by
    rw [Int32.lt_iff_toInt_lt, show (0 : Int32).toInt = 0 from rfl, r1, e1]; omega
  have hat : cl.slots[j.toNatClampNeg]? = some (.long v) := by rw [← hv, e1]; exact r3 _ (by omega)
  exact g_st (fun X eT t kt => X.laload C.1 (j := j) (v := .long v) (by rw [eT]; exact A.1) (State.isArrayOf_alike C.2.1.alike A.2.1) A.2.2 hj hat (g := mkF m pc Ls (.int j :: .ref a :: st)) rfl rfl (hb C.2.2.2.1 d) _ kt) G
theorem g_lastore (C : Cx p s m meth c Z n0 own bytes maxl ret nm) (d : In bytes pc 1 .lastore pc') {a : Addr} {z : Nat} {f : Nat → Int64} {j : Int32} {x : Int64} (A : LArr Z h a z f) (h1 : 0 ≤ j.toInt) (h2 : j.toInt < z) (ge : n0 ≤ a) (G : ∀ h', Wr h h' a j.toInt.toNat (.long x) → Go p l e R s m args below meth c n0 Q K N h' k n (mkF m pc' Ls st)) : Go p l e R s m args below meth c n0 Q K N h k n (mkF m pc Ls (.long x :: .int j :: .ref a :: st)) := by
  obtain ⟨d, rfl⟩ := d
  obtain ⟨cl, A, r1, r2, r3⟩ := A
  have e1 : j.toNatClampNeg = j.toInt.toNat := rfl
  have hj : ¬ (j < 0 ∨ cl.slots.size ≤ j.toNatClampNeg) := by
    rw [Int32.lt_iff_toInt_lt, show (0 : Int32).toInt = 0 from rfl, r1, e1]; omega
  intro T L hL X eT
  obtain ⟨T', h', X', e', W', st'⟩ := stJ X C.1 C.2.1 eT A (j := j) hj (g := mkF m pc Ls (.long x :: .int j :: .ref a :: st)) rfl rfl (hb C.2.2.2.1 d)
  obtain ⟨t, o, h1, h2⟩ := G h' W' T' _ (Fr.snoc X' hL ge) X' e'
  exact ⟨t, o, st' t h1, h2⟩
theorem g_lenLArr (C : Cx p s m meth c Z n0 own bytes maxl ret nm) (d : In bytes pc 1 .arraylength pc') {a : Addr} {z : Nat} {f : Nat → Int64} (A : LArr Z h a z f) (v : Int32) (hv : v = Int32.ofNat z) (G : Go p l e R s m args below meth c n0 Q K N h k n (mkF m pc' Ls (.int v :: st))) : Go p l e R s m args below meth c n0 Q K N h k n (mkF m pc Ls (.ref a :: st)) := by
  obtain ⟨d, rfl⟩ := d
  obtain ⟨cl, A, r1, r2, r3⟩ := A
  refine g_st (fun X eT t kt => X.arraylength C.1 (by rw [eT]; exact A.1) (State.isArrayOf_alike C.2.1.alike A.2.1) (g := mkF m pc Ls (.ref a :: st)) rfl rfl (hb C.2.2.2.1 d) _ ?_) G
  rw [r1]
  subst hv
  exact kt
/-- an array of z places at a, whose contents are f -/
def IArr (Z : State) (h : Heap) (a : Addr) (z : Nat) (f : Nat → Int32) : Prop := ∃ c : Cell, Arr Z h a c .int ∧ c.slots.size = z ∧ z < 2 ^ 31 ∧ ∀ i, i < z → c.slots[i]? = some (.int (f i))
theorem IArr.lt {a : Addr} {z : Nat} {f : Nat → Int32} (A : IArr Z h a z f) : a < h.size := by obtain ⟨c, A, -⟩ := A; exact A.lt
theorem IArr.ext {h' : Heap} {a : Addr} {z : Nat} {f : Nat → Int32} (A : IArr Z h a z f) (E : Ext h h') : IArr Z h' a z f := by obtain ⟨c, A, r⟩ := A; exact ⟨c, A.ext E, r⟩
theorem IArr.other {h' : Heap} {a b : Addr} {sl : Nat} {v : Value} {z : Nat} {f : Nat → Int32} (A : IArr Z h b z f) (W : Wr h h' a sl v) (q : b ≠ a) : IArr Z h' b z f := by obtain ⟨c, A, r⟩ := A; exact ⟨c, A.other W q, r⟩
theorem IArr.keep {h' : Heap} {a : Addr} {ws : List Addr} {z : Nat} {f : Nat → Int32} (A : IArr Z h a z f) (K : Keep h h' ws) (q : a ∉ ws) : IArr Z h' a z f := by obtain ⟨c, A, r⟩ := A; exact ⟨c, ⟨K.2.1 a c A.1 q, A.2⟩, r⟩
theorem IArr.congr {a : Addr} {z : Nat} {f g : Nat → Int32} (A : IArr Z h a z f) (q : ∀ i, i < z → g i = f i) : IArr Z h a z g := by obtain ⟨c, A, r1, r2, r3⟩ := A; exact ⟨c, A, r1, r2, fun i hi => by rw [q i hi]; exact r3 i hi⟩
theorem IArr.new {a : Addr} {kA : ClassId} {z : Int32} (A : Arr Z h a (newA kA .int z) .int) : IArr Z h a z.toNatClampNeg (fun _ => 0) :=
  ⟨_, A, sz_new _ _ _, z.toNatClampNeg_lt, fun i hi => by simp [newA, hi, defaultValue]⟩
theorem IArr.set {h' : Heap} {a : Addr} {z j : Nat} {x : Int32} {f : Nat → Int32} (A : IArr Z h a z f) (W : Wr h h' a j (.int x)) : IArr Z h' a z (fun i => if i = j then x else f i) := by
  obtain ⟨c, A, r1, r2, r3⟩ := A
  refine ⟨_, A.same W, by simp [Cell.setSlot, r1], r2, fun i hi => ?_⟩
  by_cases q : i = j
  · subst q
    simp [Cell.setSlot, r1, hi]
  · simp only [q, if_false]
    rw [← r3 i hi]
    exact Array.getElem?_setIfInBounds_ne (Ne.symm q)
theorem g_iaload (C : Cx p s m meth c Z n0 own bytes maxl ret nm) (d : In bytes pc 1 .iaload pc') {a : Addr} {z : Nat} {f : Nat → Int32} {j : Int32} (A : IArr Z h a z f) (h1 : 0 ≤ j.toInt) (h2 : j.toInt < z) (v : Int32) (hv : f j.toInt.toNat = v) (G : Go p l e R s m args below meth c n0 Q K N h k n (mkF m pc' Ls (.int v :: st))) : Go p l e R s m args below meth c n0 Q K N h k n (mkF m pc Ls (.int j :: .ref a :: st)) := by
  obtain ⟨d, rfl⟩ := d
  obtain ⟨cl, A, r1, r2, r3⟩ := A
  have e1 : j.toNatClampNeg = j.toInt.toNat := rfl
  have hj : ¬ (j < 0 ∨ cl.slots.size ≤ j.toNatClampNeg) := by
    rw [Int32.lt_iff_toInt_lt, show (0 : Int32).toInt = 0 from rfl, r1, e1]; omega
  have hat : cl.slots[j.toNatClampNeg]? = some (.int v) := by rw [← hv, e1]; exact r3 _ (by omega)
  exact g_st (fun X eT t kt => X.iaload C.1 (j := j) (v := .int v) (by rw [eT]; exact A.1) (State.isArrayOf_alike C.2.1.alike A.2.1) A.2.2 hj hat (g := mkF m pc Ls (.int j :: .ref a :: st)) rfl rfl (hb C.2.2.2.1 d) _ kt) G
theorem g_iastore (C : Cx p s m meth c Z n0 own bytes maxl ret nm) (d : In bytes pc 1 .iastore pc') {a : Addr} {z : Nat} {f : Nat → Int32} {j : Int32} {x : Int32} (A : IArr Z h a z f) (h1 : 0 ≤ j.toInt) (h2 : j.toInt < z) (ge : n0 ≤ a) (G : ∀ h', Wr h h' a j.toInt.toNat (.int x) → Go p l e R s m args below meth c n0 Q K N h' k n (mkF m pc' Ls st)) : Go p l e R s m args below meth c n0 Q K N h k n (mkF m pc Ls (.int x :: .int j :: .ref a :: st)) := by
  obtain ⟨d, rfl⟩ := d
  obtain ⟨cl, A, r1, r2, r3⟩ := A
  have e1 : j.toNatClampNeg = j.toInt.toNat := rfl
  have hj : ¬ (j < 0 ∨ cl.slots.size ≤ j.toNatClampNeg) := by
    rw [Int32.lt_iff_toInt_lt, show (0 : Int32).toInt = 0 from rfl, r1, e1]; omega
  intro T L hL X eT
  obtain ⟨T', h', X', e', W', st'⟩ := stI X C.1 C.2.1 eT A (j := j) hj (g := mkF m pc Ls (.int x :: .int j :: .ref a :: st)) rfl rfl (hb C.2.2.2.1 d)
  obtain ⟨t, o, h1, h2⟩ := G h' W' T' _ (Fr.snoc X' hL ge) X' e'
  exact ⟨t, o, st' t h1, h2⟩
theorem g_lenIArr (C : Cx p s m meth c Z n0 own bytes maxl ret nm) (d : In bytes pc 1 .arraylength pc') {a : Addr} {z : Nat} {f : Nat → Int32} (A : IArr Z h a z f) (v : Int32) (hv : v = Int32.ofNat z) (G : Go p l e R s m args below meth c n0 Q K N h k n (mkF m pc' Ls (.int v :: st))) : Go p l e R s m args below meth c n0 Q K N h k n (mkF m pc Ls (.ref a :: st)) := by
  obtain ⟨d, rfl⟩ := d
  obtain ⟨cl, A, r1, r2, r3⟩ := A
  refine g_st (fun X eT t kt => X.arraylength C.1 (by rw [eT]; exact A.1) (State.isArrayOf_alike C.2.1.alike A.2.1) (g := mkF m pc Ls (.ref a :: st)) rfl rfl (hb C.2.2.2.1 d) _ ?_) G
  rw [r1]
  subst hv
  exact kt
/-- an array of z places at a, whose contents are f -/
def BArr (Z : State) (h : Heap) (a : Addr) (z : Nat) (f : Nat → Int32) : Prop := ∃ c : Cell, Arr Z h a c .byte ∧ c.slots.size = z ∧ z < 2 ^ 31 ∧ ∀ i, i < z → c.slots[i]? = some (.int (f i))
theorem BArr.lt {a : Addr} {z : Nat} {f : Nat → Int32} (A : BArr Z h a z f) : a < h.size := by obtain ⟨c, A, -⟩ := A; exact A.lt
theorem BArr.ext {h' : Heap} {a : Addr} {z : Nat} {f : Nat → Int32} (A : BArr Z h a z f) (E : Ext h h') : BArr Z h' a z f := by obtain ⟨c, A, r⟩ := A; exact ⟨c, A.ext E, r⟩
theorem BArr.other {h' : Heap} {a b : Addr} {sl : Nat} {v : Value} {z : Nat} {f : Nat → Int32} (A : BArr Z h b z f) (W : Wr h h' a sl v) (q : b ≠ a) : BArr Z h' b z f := by obtain ⟨c, A, r⟩ := A; exact ⟨c, A.other W q, r⟩
theorem BArr.keep {h' : Heap} {a : Addr} {ws : List Addr} {z : Nat} {f : Nat → Int32} (A : BArr Z h a z f) (K : Keep h h' ws) (q : a ∉ ws) : BArr Z h' a z f := by obtain ⟨c, A, r⟩ := A; exact ⟨c, ⟨K.2.1 a c A.1 q, A.2⟩, r⟩
theorem BArr.congr {a : Addr} {z : Nat} {f g : Nat → Int32} (A : BArr Z h a z f) (q : ∀ i, i < z → g i = f i) : BArr Z h a z g := by obtain ⟨c, A, r1, r2, r3⟩ := A; exact ⟨c, A, r1, r2, fun i hi => by rw [q i hi]; exact r3 i hi⟩
theorem BArr.new {a : Addr} {kA : ClassId} {z : Int32} (A : Arr Z h a (newA kA .byte z) .byte) : BArr Z h a z.toNatClampNeg (fun _ => 0) :=
  ⟨_, A, sz_new _ _ _, z.toNatClampNeg_lt, fun i hi => by simp [newA, hi, defaultValue]⟩
theorem BArr.set {h' : Heap} {a : Addr} {z j : Nat} {x : Int32} {f : Nat → Int32} (A : BArr Z h a z f) (W : Wr h h' a j (.int x)) : BArr Z h' a z (fun i => if i = j then x else f i) := by
  obtain ⟨c, A, r1, r2, r3⟩ := A
  refine ⟨_, A.same W, by simp [Cell.setSlot, r1], r2, fun i hi => ?_⟩
  by_cases q : i = j
  · subst q
    simp [Cell.setSlot, r1, hi]
  · simp only [q, if_false]
    rw [← r3 i hi]
    exact Array.getElem?_setIfInBounds_ne (Ne.symm q)
theorem g_baload (C : Cx p s m meth c Z n0 own bytes maxl ret nm) (d : In bytes pc 1 .baload pc') {a : Addr} {z : Nat} {f : Nat → Int32} {j : Int32} (A : BArr Z h a z f) (h1 : 0 ≤ j.toInt) (h2 : j.toInt < z) (v : Int32) (hv : f j.toInt.toNat = v) (G : Go p l e R s m args below meth c n0 Q K N h k n (mkF m pc' Ls (.int v :: st))) : Go p l e R s m args below meth c n0 Q K N h k n (mkF m pc Ls (.int j :: .ref a :: st)) := by
  obtain ⟨d, rfl⟩ := d
  obtain ⟨cl, A, r1, r2, r3⟩ := A
  have e1 : j.toNatClampNeg = j.toInt.toNat := rfl
  have hj : ¬ (j < 0 ∨ cl.slots.size ≤ j.toNatClampNeg) := by
    rw [Int32.lt_iff_toInt_lt, show (0 : Int32).toInt = 0 from rfl, r1, e1]; omega
  have hat : cl.slots[j.toNatClampNeg]? = some (.int v) := by rw [← hv, e1]; exact r3 _ (by omega)
  exact g_st (fun X eT t kt => X.baloadBytes C.1 (j := j) (v := .int v) (by rw [eT]; exact A.1) (State.isArrayOf_alike C.2.1.alike A.2.1) A.2.2 hj hat (g := mkF m pc Ls (.int j :: .ref a :: st)) rfl rfl (hb C.2.2.2.1 d) _ kt) G
theorem g_bastore (C : Cx p s m meth c Z n0 own bytes maxl ret nm) (d : In bytes pc 1 .bastore pc') {a : Addr} {z : Nat} {f : Nat → Int32} {j : Int32} {x : Int32} (A : BArr Z h a z f) (h1 : 0 ≤ j.toInt) (h2 : j.toInt < z) (ge : n0 ≤ a) (G : ∀ h', Wr h h' a j.toInt.toNat (.int x.toInt8.toInt32) → Go p l e R s m args below meth c n0 Q K N h' k n (mkF m pc' Ls st)) : Go p l e R s m args below meth c n0 Q K N h k n (mkF m pc Ls (.int x :: .int j :: .ref a :: st)) := by
  obtain ⟨d, rfl⟩ := d
  obtain ⟨cl, A, r1, r2, r3⟩ := A
  have e1 : j.toNatClampNeg = j.toInt.toNat := rfl
  have hj : ¬ (j < 0 ∨ cl.slots.size ≤ j.toNatClampNeg) := by
    rw [Int32.lt_iff_toInt_lt, show (0 : Int32).toInt = 0 from rfl, r1, e1]; omega
  intro T L hL X eT
  obtain ⟨T', h', X', e', W', st'⟩ := stB X C.1 C.2.1 eT A (j := j) hj (g := mkF m pc Ls (.int x :: .int j :: .ref a :: st)) rfl rfl (hb C.2.2.2.1 d)
  obtain ⟨t, o, h1, h2⟩ := G h' W' T' _ (Fr.snoc X' hL ge) X' e'
  exact ⟨t, o, st' t h1, h2⟩
theorem g_lenBArr (C : Cx p s m meth c Z n0 own bytes maxl ret nm) (d : In bytes pc 1 .arraylength pc') {a : Addr} {z : Nat} {f : Nat → Int32} (A : BArr Z h a z f) (v : Int32) (hv : v = Int32.ofNat z) (G : Go p l e R s m args below meth c n0 Q K N h k n (mkF m pc' Ls (.int v :: st))) : Go p l e R s m args below meth c n0 Q K N h k n (mkF m pc Ls (.ref a :: st)) := by
  obtain ⟨d, rfl⟩ := d
  obtain ⟨cl, A, r1, r2, r3⟩ := A
  refine g_st (fun X eT t kt => X.arraylength C.1 (by rw [eT]; exact A.1) (State.isArrayOf_alike C.2.1.alike A.2.1) (g := mkF m pc Ls (.ref a :: st)) rfl rfl (hb C.2.2.2.1 d) _ ?_) G
  rw [r1]
  subst hv
  exact kt
theorem g_join {ι : Type} (hh : ι → Heap) (k' n' : Nat) (f : ι → JFrame) (P : ι → Prop) {f0 : JFrame} (H : (∀ x, P x → Go p l e R s m args below meth c n0 Q K N (hh x) (k') (n') ((f x))) → Go p l e R s m args below meth c n0 Q K N h k n f0) (G : ∀ x, P x → Go p l e R s m args below meth c n0 Q K N (hh x) (k') (n') ((f x))) : Go p l e R s m args below meth c n0 Q K N h k n f0 := H G
theorem g_loop {ι : Type} (hh : ι → Heap) (f : ι → JFrame) (P : ι → Prop) (μ : ι → Nat) (step : ∀ x, P x → (∀ y, P y → μ y < μ x → Go p l e R s m args below meth c n0 Q K N (hh y) k n ((f y))) → Go p l e R s m args below meth c n0 Q K N (hh x) k n ((f x))) : ∀ x, P x → Go p l e R s m args below meth c n0 Q K N (hh x) k n ((f x)) := by
  intro x
  generalize hm : μ x = t
  induction t using Nat.strongRecOn generalizing x with
  | _ t ih => exact fun hx => step x hx fun y hy hlt => ih (μ y) (by omega) y rfl hy
end Kit
def fitsP (b lim held : Int64) : Prop := ¬ (0 < b) ∨ ¬ (lim - held < b)
def takeP (b lim held : Int64) : Prop := ¬ (0 < b) ∨ ¬ (lim < held + b)
def fitsR (b lim held : Int64) (r : Int32) : Prop := (fitsP b lim held ∧ r = 1) ∨ (¬ fitsP b lim held ∧ r = 0)
def takeR (b lim held : Int64) (r : Int32) (held' : Int64) : Prop := (takeP b lim held ∧ r = 1 ∧ held' = held + b) ∨ (¬ takeP b lim held ∧ r = 0 ∧ held' = held)
theorem fits_yes {b lim held : Int64} {r : Int32} (q : fitsP b lim held) (h : fitsR b lim held r) : r = 1 := by
  rcases h with h | h
  · exact h.2
  · exact absurd q h.1
theorem fits_no {b lim held : Int64} {r : Int32} (q1 : 0 < b) (q2 : lim - held < b) (h : fitsR b lim held r) : r = 0 := by
  rcases h with h | h
  · rcases h.1 with z | z
    · exact absurd q1 z
    · exact absurd q2 z
  · exact h.2
theorem take_yes {b lim held held' : Int64} {r : Int32} (q : takeP b lim held) (h : takeR b lim held r held') : r = 1 ∧ held' = held + b := by
  rcases h with h | h
  · exact h.2
  · exact absurd q h.1
theorem take_no {b lim held held' : Int64} {r : Int32} (q1 : 0 < b) (q2 : lim < held + b) (h : takeR b lim held r held') : r = 0 ∧ held' = held := by
  rcases h with h | h
  · rcases h.1 with z | z
    · exact absurd q1 z
    · exact absurd q2 z
  · exact h.2
def Bd (x : Int64) (b : Int) : Prop := -b ≤ x.toInt ∧ x.toInt ≤ b
theorem fit_take {b lim held : Int64} (h1 : Bd lim 1152921504606846976) (h2 : Bd held 2305843009213693952) (h3 : Bd b 4611686018427387904) : fitsP b lim held ↔ takeP b lim held := by
  unfold fitsP takeP
  simp only [Int64.lt_iff_toInt_lt]
  have := c_lsub lim held; have := c_ladd held b; have := rng64 (lim - held); have := rng64 (held + b)
  have e0 : (0 : Int64).toInt = 0 := rfl
  obtain ⟨_, _⟩ := h1; obtain ⟨_, _⟩ := h2; obtain ⟨_, _⟩ := h3
  omega
theorem shr3 (x : Int64) : Bd (shrJ x 3) 1152921504606846976 := by
  have h1 := c_lshr x 3 3 (by decide); have := rng64 x
  unfold Bd shrJ
  rw [h1]
  omega
theorem bd_add {x y : Int64} {a b : Int} (h1 : Bd x a) (h2 : Bd y b) (h3 : a + b < 9223372036854775808) : Bd (x + y) (a + b) := by
  have := c_ladd x y; have := rng64 (x + y); obtain ⟨_, _⟩ := h1; obtain ⟨_, _⟩ := h2
  unfold Bd; omega
theorem bd_sub {x y : Int64} {a b : Int} (h1 : Bd x a) (h2 : Bd y b) (h3 : a + b < 9223372036854775808) : Bd (x - y) (a + b) := by
  have := c_lsub x y; have := rng64 (x - y); obtain ⟨_, _⟩ := h1; obtain ⟨_, _⟩ := h2
  unfold Bd; omega
theorem bd_mono {x : Int64} {a b : Int} (h1 : Bd x a) (h : a ≤ b) : Bd x b := by obtain ⟨_, _⟩ := h1; unfold Bd; omega
theorem bd_mask (x : Int64) : Bd (shrJ x 1 &&& 3) 3 := by
  have h := c_maskL (shrJ x 1) 3 2 (by decide) (by decide)
  unfold Bd
  rw [h]; omega
theorem bd_cap {lim held z : Int64} (h1 : Bd lim 1152921504606846976) (h2 : Bd held 2305843009213693952) : Bd (((lim - held) + (shrJ z 1 &&& 3)) - 2) 4611686018427387904 :=
  bd_mono (bd_sub (bd_add (bd_sub h1 h2 (by decide)) (bd_mask z) (by decide)) (show Bd (2 : Int64) 2 by unfold Bd; decide) (by decide)) (by decide)
theorem room_take (lim held : Int64) : takeR (lim - held) lim held 1 lim := by
  have e : held + (lim - held) = lim := by rw [Int64.add_comm, Int64.sub_add_cancel]
  refine Or.inl ⟨Or.inr ?_, rfl, e.symm⟩
  rw [e]; exact Int64.lt_irrefl
theorem one_more {lim : Int64} (h1 : Bd lim 1152921504606846976) : takeR 1 lim lim 0 lim := by
  refine Or.inr ⟨?_, rfl, rfl⟩
  unfold takeP
  simp only [Int64.lt_iff_toInt_lt]
  have := c_ladd lim 1; have := rng64 (lim + 1); obtain ⟨_, _⟩ := h1
  have e0 : (0 : Int64).toInt = 0 := rfl
  have e1 : (1 : Int64).toInt = 1 := rfl
  omega
theorem one_less (lim : Int64) : takeR (-1) lim lim 1 (lim + (-1)) := Or.inl ⟨Or.inl (by decide), rfl, rfl⟩
theorem one_back (lim : Int64) : takeR 1 lim (lim + (-1)) 1 (lim + (-1) + 1) := by
  refine Or.inl ⟨Or.inr ?_, rfl, rfl⟩
  have e : lim + (-1) + 1 = lim := by rw [Int64.add_assoc]; exact Int64.add_zero lim
  rw [e]; exact Int64.lt_irrefl

theorem wd_0 {a0 : Array Value} {Z : State} (hw : ∀ d ∈ tables_1, d.before a0 Z = true) : (Jvm.Cond.classLink "com/example/offset/offset/group/HeldBytesTakePinLaw" (7 : Nat) "com/example/offset/offset/group/HeldBytes").before a0 Z = true := hw _ (List.mem_of_getElem? (i := 0) rfl)
theorem wd_1 {a0 : Array Value} {Z : State} (hw : ∀ d ∈ tables_1, d.before a0 Z = true) : (Jvm.Cond.instantiable "com/example/offset/offset/group/HeldBytes" (2 : Nat)).before a0 Z = true := hw _ (List.mem_of_getElem? (i := 1) rfl)
theorem wd_2 {a0 : Array Value} {Z : State} (hw : ∀ d ∈ tables_1, d.before a0 Z = true) : (Jvm.Cond.initialized "com/example/offset/offset/group/HeldBytes").before a0 Z = true := hw _ (List.mem_of_getElem? (i := 2) rfl)
theorem wd_3 {a0 : Array Value} {Z : State} (hw : ∀ d ∈ tables_1, d.before a0 Z = true) : (Jvm.Cond.methodLink "com/example/offset/offset/group/HeldBytesTakePinLaw" (9 : Nat) ({ cls := "com/example/offset/offset/group/HeldBytes", name := "<init>", desc := "(J)V" } : Jvm.MethodName)).before a0 Z = true := hw _ (List.mem_of_getElem? (i := 3) rfl)
theorem wd_4 {a0 : Array Value} {Z : State} (hw : ∀ d ∈ tables_1, d.before a0 Z = true) : (Jvm.Cond.instanceMethod ({ cls := "com/example/offset/offset/group/HeldBytes", name := "<init>", desc := "(J)V" } : Jvm.MethodName)).before a0 Z = true := hw _ (List.mem_of_getElem? (i := 4) rfl)
theorem wd_5 {a0 : Array Value} {Z : State} (hw : ∀ d ∈ tables_1, d.before a0 Z = true) : (Jvm.Cond.code ({ cls := "com/example/offset/offset/group/HeldBytes", name := "<init>", desc := "(J)V" } : Jvm.MethodName) prog_42_method_1_code (3 : Nat) (Option.none : Option Jvm.ClassFile.FieldType)).before a0 Z = true := hw _ (List.mem_of_getElem? (i := 5) rfl)
theorem wd_6 {a0 : Array Value} {Z : State} (hw : ∀ d ∈ tables_1, d.before a0 Z = true) : (Jvm.Cond.methodLink "com/example/offset/offset/group/HeldBytes" (1 : Nat) ({ cls := "java/lang/Object", name := "<init>", desc := "()V" } : Jvm.MethodName)).before a0 Z = true := hw _ (List.mem_of_getElem? (i := 6) rfl)
theorem wd_7 {a0 : Array Value} {Z : State} (hw : ∀ d ∈ tables_1, d.before a0 Z = true) : (Jvm.Cond.instanceMethod ({ cls := "java/lang/Object", name := "<init>", desc := "()V" } : Jvm.MethodName)).before a0 Z = true := hw _ (List.mem_of_getElem? (i := 7) rfl)
theorem wd_8 {a0 : Array Value} {Z : State} (hw : ∀ d ∈ tables_1, d.before a0 Z = true) : (Jvm.Cond.code ({ cls := "java/lang/Object", name := "<init>", desc := "()V" } : Jvm.MethodName) object_method_1_code (1 : Nat) (Option.none : Option Jvm.ClassFile.FieldType)).before a0 Z = true := hw _ (List.mem_of_getElem? (i := 8) rfl)
theorem wd_9 {a0 : Array Value} {Z : State} (hw : ∀ d ∈ tables_1, d.before a0 Z = true) : (Jvm.Cond.fieldLink "com/example/offset/offset/group/HeldBytes" (7 : Nat) "com/example/offset/offset/group/HeldBytes" "limit" "J").before a0 Z = true := hw _ (List.mem_of_getElem? (i := 9) rfl)
theorem wd_10 {a0 : Array Value} {Z : State} (hw : ∀ d ∈ tables_1, d.before a0 Z = true) : (Jvm.Cond.laysFinal "com/example/offset/offset/group/HeldBytes" "com/example/offset/offset/group/HeldBytes" "limit" "J").before a0 Z = true := hw _ (List.mem_of_getElem? (i := 10) rfl)
theorem wd_11 {a0 : Array Value} {Z : State} (hw : ∀ d ∈ tables_1, d.before a0 Z = true) : (Jvm.Cond.methodLink "com/example/offset/offset/group/HeldBytesTakePinLaw" (12 : Nat) ({ cls := "com/example/offset/offset/group/HeldBytesTakePinLaw", name := "fits", desc := "(JJJ)Z" } : Jvm.MethodName)).before a0 Z = true := hw _ (List.mem_of_getElem? (i := 11) rfl)
theorem wd_12 {a0 : Array Value} {Z : State} (hw : ∀ d ∈ tables_1, d.before a0 Z = true) : (Jvm.Cond.static ({ cls := "com/example/offset/offset/group/HeldBytesTakePinLaw", name := "fits", desc := "(JJJ)Z" } : Jvm.MethodName)).before a0 Z = true := hw _ (List.mem_of_getElem? (i := 12) rfl)
theorem wd_13 {a0 : Array Value} {Z : State} (hw : ∀ d ∈ tables_1, d.before a0 Z = true) : (Jvm.Cond.initialized "com/example/offset/offset/group/HeldBytesTakePinLaw").before a0 Z = true := hw _ (List.mem_of_getElem? (i := 13) rfl)
theorem wd_14 {a0 : Array Value} {Z : State} (hw : ∀ d ∈ tables_1, d.before a0 Z = true) : (Jvm.Cond.code ({ cls := "com/example/offset/offset/group/HeldBytesTakePinLaw", name := "fits", desc := "(JJJ)Z" } : Jvm.MethodName) method_2_code (6 : Nat) (Option.some Jvm.ClassFile.FieldType.boolean)).before a0 Z = true := hw _ (List.mem_of_getElem? (i := 14) rfl)
theorem wd_15 {a0 : Array Value} {Z : State} (hw : ∀ d ∈ tables_1, d.before a0 Z = true) : (Jvm.Cond.methodLink "com/example/offset/offset/group/HeldBytesTakePinLaw" (18 : Nat) ({ cls := "com/example/offset/offset/group/HeldBytes", name := "take", desc := "(J)Z" } : Jvm.MethodName)).before a0 Z = true := hw _ (List.mem_of_getElem? (i := 15) rfl)
theorem wd_16 {a0 : Array Value} {Z : State} (hw : ∀ d ∈ tables_1, d.before a0 Z = true) : (Jvm.Cond.declares ({ cls := "com/example/offset/offset/group/HeldBytes", name := "take", desc := "(J)Z" } : Jvm.MethodName)).before a0 Z = true := hw _ (List.mem_of_getElem? (i := 16) rfl)
theorem wd_17 {a0 : Array Value} {Z : State} (hw : ∀ d ∈ tables_1, d.before a0 Z = true) : (Jvm.Cond.instanceMethod ({ cls := "com/example/offset/offset/group/HeldBytes", name := "take", desc := "(J)Z" } : Jvm.MethodName)).before a0 Z = true := hw _ (List.mem_of_getElem? (i := 17) rfl)
theorem wd_18 {a0 : Array Value} {Z : State} (hw : ∀ d ∈ tables_1, d.before a0 Z = true) : (Jvm.Cond.selects "com/example/offset/offset/group/HeldBytes" ({ cls := "com/example/offset/offset/group/HeldBytes", name := "take", desc := "(J)Z" } : Jvm.MethodName) ({ cls := "com/example/offset/offset/group/HeldBytes", name := "take", desc := "(J)Z" } : Jvm.MethodName)).before a0 Z = true := hw _ (List.mem_of_getElem? (i := 18) rfl)
theorem wd_19 {a0 : Array Value} {Z : State} (hw : ∀ d ∈ tables_1, d.before a0 Z = true) : (Jvm.Cond.code ({ cls := "com/example/offset/offset/group/HeldBytes", name := "take", desc := "(J)Z" } : Jvm.MethodName) prog_42_method_4_code (3 : Nat) (Option.some Jvm.ClassFile.FieldType.boolean)).before a0 Z = true := hw _ (List.mem_of_getElem? (i := 19) rfl)
theorem wd_20 {a0 : Array Value} {Z : State} (hw : ∀ d ∈ tables_1, d.before a0 Z = true) : (Jvm.Cond.fieldLink "com/example/offset/offset/group/HeldBytes" (76 : Nat) "com/example/offset/offset/group/HeldBytes" "held" "J").before a0 Z = true := hw _ (List.mem_of_getElem? (i := 20) rfl)
theorem wd_21 {a0 : Array Value} {Z : State} (hw : ∀ d ∈ tables_1, d.before a0 Z = true) : (Jvm.Cond.lays "com/example/offset/offset/group/HeldBytes" "com/example/offset/offset/group/HeldBytes" "held" "J").before a0 Z = true := hw _ (List.mem_of_getElem? (i := 21) rfl)
theorem wd_22 {a0 : Array Value} {Z : State} (hw : ∀ d ∈ tables_1, d.before a0 Z = true) : (Jvm.Cond.constantLong "com/example/offset/offset/group/HeldBytesTakePinLaw" (26 : Nat) (-1 : Int64)).before a0 Z = true := hw _ (List.mem_of_getElem? (i := 22) rfl)
theorem wd_23 {a0 : Array Value} {Z : State} (hw : ∀ d ∈ tables_1, d.before a0 Z = true) : (Jvm.Cond.constantLong "com/example/offset/offset/group/HeldBytesTakePinLaw" (22 : Nat) (3 : Int64)).before a0 Z = true := hw _ (List.mem_of_getElem? (i := 23) rfl)
theorem wd_24 {a0 : Array Value} {Z : State} (hw : ∀ d ∈ tables_1, d.before a0 Z = true) : (Jvm.Cond.constantLong "com/example/offset/offset/group/HeldBytesTakePinLaw" (24 : Nat) (2 : Int64)).before a0 Z = true := hw _ (List.mem_of_getElem? (i := 24) rfl)
theorem D0_0 : In code 0 1 (.lload_n 0) 1 := ⟨at_0, rfl⟩
theorem D0_1 : In code 1 1 (.iconst 3) 2 := ⟨at_1, rfl⟩
theorem D0_2 : In code 2 1 (.lshr) 3 := ⟨at_2, rfl⟩
theorem D0_3 : In code 3 2 (.lstore 8) 5 := ⟨at_3, rfl⟩
theorem D0_5 : In code 5 3 (.new 7) 8 := ⟨at_5, rfl⟩
theorem D0_8 : In code 8 1 (.dup) 9 := ⟨at_8, rfl⟩
theorem D0_9 : In code 9 2 (.lload 8) 11 := ⟨at_9, rfl⟩
theorem D0_11 : In code 11 3 (.invokespecial 9) 14 := ⟨at_11, rfl⟩
theorem D0_14 : In code 14 2 (.astore 10) 16 := ⟨at_14, rfl⟩
theorem D0_16 : In code 16 1 (.lconst 0) 17 := ⟨at_16, rfl⟩
theorem D0_17 : In code 17 2 (.lstore 11) 19 := ⟨at_17, rfl⟩
theorem D0_19 : In code 19 1 (.lload_n 2) 20 := ⟨at_19, rfl⟩
theorem D0_20 : In code 20 1 (.iconst 3) 21 := ⟨at_20, rfl⟩
theorem D0_21 : In code 21 1 (.lshr) 22 := ⟨at_21, rfl⟩
theorem D0_22 : In code 22 2 (.lstore 13) 24 := ⟨at_22, rfl⟩
theorem D0_24 : In code 24 2 (.lload 13) 26 := ⟨at_24, rfl⟩
theorem D0_26 : In code 26 2 (.lload 8) 28 := ⟨at_26, rfl⟩
theorem D0_28 : In code 28 2 (.lload 11) 30 := ⟨at_28, rfl⟩
theorem D0_30 : In code 30 3 (.invokestatic 12) 33 := ⟨at_30, rfl⟩
theorem D0_33 : In code 33 2 (.istore 15) 35 := ⟨at_33, rfl⟩
theorem D0_35 : In code 35 2 (.aload 10) 37 := ⟨at_35, rfl⟩
theorem D0_37 : In code 37 2 (.lload 13) 39 := ⟨at_37, rfl⟩
theorem D0_39 : In code 39 3 (.invokevirtual 18) 42 := ⟨at_39, rfl⟩
theorem D0_42 : In code 42 2 (.iload 15) 44 := ⟨at_42, rfl⟩
theorem D0_44 : Jm code 44 (.if_icmp .eq) 47 49 := ⟨5, at_44, rfl, by decide, by decide⟩
theorem D0_49 : In code 49 2 (.iload 15) 51 := ⟨at_49, rfl⟩
theorem D0_51 : Jm code 51 (.ifCond .eq) 54 61 := ⟨10, at_51, rfl, by decide, by decide⟩
theorem D0_54 : In code 54 2 (.lload 11) 56 := ⟨at_54, rfl⟩
theorem D0_56 : In code 56 2 (.lload 13) 58 := ⟨at_56, rfl⟩
theorem D0_58 : In code 58 1 (.ladd) 59 := ⟨at_58, rfl⟩
theorem D0_59 : In code 59 2 (.lstore 11) 61 := ⟨at_59, rfl⟩
theorem D0_61 : In code 61 2 (.lload 4) 63 := ⟨at_61, rfl⟩
theorem D0_63 : In code 63 1 (.iconst 3) 64 := ⟨at_63, rfl⟩
theorem D0_64 : In code 64 1 (.lshr) 65 := ⟨at_64, rfl⟩
theorem D0_65 : In code 65 2 (.lstore 16) 67 := ⟨at_65, rfl⟩
theorem D0_67 : In code 67 2 (.lload 16) 69 := ⟨at_67, rfl⟩
theorem D0_69 : In code 69 2 (.lload 8) 71 := ⟨at_69, rfl⟩
theorem D0_71 : In code 71 2 (.lload 11) 73 := ⟨at_71, rfl⟩
theorem D0_73 : In code 73 3 (.invokestatic 12) 76 := ⟨at_73, rfl⟩
theorem D0_76 : In code 76 2 (.istore 18) 78 := ⟨at_76, rfl⟩
theorem D0_78 : In code 78 2 (.aload 10) 80 := ⟨at_78, rfl⟩
theorem D0_80 : In code 80 2 (.lload 16) 82 := ⟨at_80, rfl⟩
theorem D0_82 : In code 82 3 (.invokevirtual 18) 85 := ⟨at_82, rfl⟩
theorem D0_85 : In code 85 2 (.iload 18) 87 := ⟨at_85, rfl⟩
theorem D0_87 : Jm code 87 (.if_icmp .eq) 90 92 := ⟨5, at_87, rfl, by decide, by decide⟩
theorem D0_92 : In code 92 2 (.iload 18) 94 := ⟨at_92, rfl⟩
theorem D0_94 : Jm code 94 (.ifCond .eq) 97 104 := ⟨10, at_94, rfl, by decide, by decide⟩
theorem D0_97 : In code 97 2 (.lload 11) 99 := ⟨at_97, rfl⟩
theorem D0_99 : In code 99 2 (.lload 16) 101 := ⟨at_99, rfl⟩
theorem D0_101 : In code 101 1 (.ladd) 102 := ⟨at_101, rfl⟩
theorem D0_102 : In code 102 2 (.lstore 11) 104 := ⟨at_102, rfl⟩
theorem D0_104 : In code 104 2 (.lload 6) 106 := ⟨at_104, rfl⟩
theorem D0_106 : In code 106 1 (.lconst 1) 107 := ⟨at_106, rfl⟩
theorem D0_107 : In code 107 1 (.land) 108 := ⟨at_107, rfl⟩
theorem D0_108 : In code 108 1 (.lconst 0) 109 := ⟨at_108, rfl⟩
theorem D0_109 : In code 109 1 (.lcmp) 110 := ⟨at_109, rfl⟩
theorem D0_110 : Jm code 110 (.ifCond .eq) 113 122 := ⟨12, at_110, rfl, by decide, by decide⟩
theorem D0_113 : In code 113 2 (.lload 6) 115 := ⟨at_113, rfl⟩
theorem D0_115 : In code 115 1 (.iconst 3) 116 := ⟨at_115, rfl⟩
theorem D0_116 : In code 116 1 (.lshr) 117 := ⟨at_116, rfl⟩
theorem D0_117 : In code 117 2 (.lstore 19) 119 := ⟨at_117, rfl⟩
theorem D0_119 : Jm code 119 .goto 122 142 := ⟨23, at_119, rfl, by decide, by decide⟩
theorem D0_122 : In code 122 2 (.lload 8) 124 := ⟨at_122, rfl⟩
theorem D0_124 : In code 124 2 (.lload 11) 126 := ⟨at_124, rfl⟩
theorem D0_126 : In code 126 1 (.lsub) 127 := ⟨at_126, rfl⟩
theorem D0_127 : In code 127 2 (.lload 6) 129 := ⟨at_127, rfl⟩
theorem D0_129 : In code 129 1 (.iconst 1) 130 := ⟨at_129, rfl⟩
theorem D0_130 : In code 130 1 (.lshr) 131 := ⟨at_130, rfl⟩
theorem D0_131 : In code 131 3 (.ldc2_w 22) 134 := ⟨at_131, rfl⟩
theorem D0_134 : In code 134 1 (.land) 135 := ⟨at_134, rfl⟩
theorem D0_135 : In code 135 1 (.ladd) 136 := ⟨at_135, rfl⟩
theorem D0_136 : In code 136 3 (.ldc2_w 24) 139 := ⟨at_136, rfl⟩
theorem D0_139 : In code 139 1 (.lsub) 140 := ⟨at_139, rfl⟩
theorem D0_140 : In code 140 2 (.lstore 19) 142 := ⟨at_140, rfl⟩
theorem D0_142 : In code 142 2 (.lload 19) 144 := ⟨at_142, rfl⟩
theorem D0_144 : In code 144 2 (.lload 8) 146 := ⟨at_144, rfl⟩
theorem D0_146 : In code 146 2 (.lload 11) 148 := ⟨at_146, rfl⟩
theorem D0_148 : In code 148 3 (.invokestatic 12) 151 := ⟨at_148, rfl⟩
theorem D0_151 : In code 151 2 (.istore 21) 153 := ⟨at_151, rfl⟩
theorem D0_153 : In code 153 2 (.aload 10) 155 := ⟨at_153, rfl⟩
theorem D0_155 : In code 155 2 (.lload 19) 157 := ⟨at_155, rfl⟩
theorem D0_157 : In code 157 3 (.invokevirtual 18) 160 := ⟨at_157, rfl⟩
theorem D0_160 : In code 160 2 (.iload 21) 162 := ⟨at_160, rfl⟩
theorem D0_162 : Jm code 162 (.if_icmp .eq) 165 167 := ⟨5, at_162, rfl, by decide, by decide⟩
theorem D0_167 : In code 167 2 (.iload 21) 169 := ⟨at_167, rfl⟩
theorem D0_169 : Jm code 169 (.ifCond .eq) 172 179 := ⟨10, at_169, rfl, by decide, by decide⟩
theorem D0_172 : In code 172 2 (.lload 11) 174 := ⟨at_172, rfl⟩
theorem D0_174 : In code 174 2 (.lload 19) 176 := ⟨at_174, rfl⟩
theorem D0_176 : In code 176 1 (.ladd) 177 := ⟨at_176, rfl⟩
theorem D0_177 : In code 177 2 (.lstore 11) 179 := ⟨at_177, rfl⟩
theorem D0_179 : In code 179 2 (.lload 8) 181 := ⟨at_179, rfl⟩
theorem D0_181 : In code 181 2 (.lload 11) 183 := ⟨at_181, rfl⟩
theorem D0_183 : In code 183 1 (.lsub) 184 := ⟨at_183, rfl⟩
theorem D0_184 : In code 184 2 (.lstore 22) 186 := ⟨at_184, rfl⟩
theorem D0_186 : In code 186 2 (.aload 10) 188 := ⟨at_186, rfl⟩
theorem D0_188 : In code 188 2 (.lload 22) 190 := ⟨at_188, rfl⟩
theorem D0_190 : In code 190 3 (.invokevirtual 18) 193 := ⟨at_190, rfl⟩
theorem D0_193 : Jm code 193 (.ifCond .ne) 196 198 := ⟨5, at_193, rfl, by decide, by decide⟩
theorem D0_198 : In code 198 2 (.aload 10) 200 := ⟨at_198, rfl⟩
theorem D0_200 : In code 200 1 (.lconst 1) 201 := ⟨at_200, rfl⟩
theorem D0_201 : In code 201 3 (.invokevirtual 18) 204 := ⟨at_201, rfl⟩
theorem D0_204 : Jm code 204 (.ifCond .eq) 207 209 := ⟨5, at_204, rfl, by decide, by decide⟩
theorem D0_209 : In code 209 2 (.aload 10) 211 := ⟨at_209, rfl⟩
theorem D0_211 : In code 211 3 (.ldc2_w 26) 214 := ⟨at_211, rfl⟩
theorem D0_214 : In code 214 3 (.invokevirtual 18) 217 := ⟨at_214, rfl⟩
theorem D0_217 : Jm code 217 (.ifCond .ne) 220 222 := ⟨5, at_217, rfl, by decide, by decide⟩
theorem D0_222 : In code 222 2 (.aload 10) 224 := ⟨at_222, rfl⟩
theorem D0_224 : In code 224 1 (.lconst 1) 225 := ⟨at_224, rfl⟩
theorem D0_225 : In code 225 3 (.invokevirtual 18) 228 := ⟨at_225, rfl⟩
theorem D0_228 : In code 228 1 (.ireturn) 229 := ⟨at_228, rfl⟩
theorem D1_0 : In prog_42_method_1_code 0 1 (.aload_n 0) 1 := ⟨by decide +kernel, rfl⟩
theorem D1_1 : In prog_42_method_1_code 1 3 (.invokespecial 1) 4 := ⟨by decide +kernel, rfl⟩
theorem D1_4 : In prog_42_method_1_code 4 1 (.aload_n 0) 5 := ⟨by decide +kernel, rfl⟩
theorem D1_5 : In prog_42_method_1_code 5 1 (.lload_n 1) 6 := ⟨by decide +kernel, rfl⟩
theorem D1_6 : In prog_42_method_1_code 6 3 (.putfield 7) 9 := ⟨by decide +kernel, rfl⟩
theorem D1_9 : In prog_42_method_1_code 9 1 (.return_) 10 := ⟨by decide +kernel, rfl⟩
theorem D3_0 : In method_2_code 0 1 (.lload_n 0) 1 := ⟨by decide +kernel, rfl⟩
theorem D3_1 : In method_2_code 1 1 (.lconst 0) 2 := ⟨by decide +kernel, rfl⟩
theorem D3_2 : In method_2_code 2 1 (.lcmp) 3 := ⟨by decide +kernel, rfl⟩
theorem D3_3 : Jm method_2_code 3 (.ifCond .gt) 6 8 := ⟨5, by decide +kernel, rfl, by decide, by decide⟩
theorem D3_6 : In method_2_code 6 1 (.iconst 1) 7 := ⟨by decide +kernel, rfl⟩
theorem D3_7 : In method_2_code 7 1 (.ireturn) 8 := ⟨by decide +kernel, rfl⟩
theorem D3_8 : In method_2_code 8 1 (.lload_n 0) 9 := ⟨by decide +kernel, rfl⟩
theorem D3_9 : In method_2_code 9 1 (.lload_n 2) 10 := ⟨by decide +kernel, rfl⟩
theorem D3_10 : In method_2_code 10 2 (.lload 4) 12 := ⟨by decide +kernel, rfl⟩
theorem D3_12 : In method_2_code 12 1 (.lsub) 13 := ⟨by decide +kernel, rfl⟩
theorem D3_13 : In method_2_code 13 1 (.lcmp) 14 := ⟨by decide +kernel, rfl⟩
theorem D3_14 : Jm method_2_code 14 (.ifCond .gt) 17 21 := ⟨7, by decide +kernel, rfl, by decide, by decide⟩
theorem D3_17 : In method_2_code 17 1 (.iconst 1) 18 := ⟨by decide +kernel, rfl⟩
theorem D3_18 : Jm method_2_code 18 .goto 21 22 := ⟨4, by decide +kernel, rfl, by decide, by decide⟩
theorem D3_21 : In method_2_code 21 1 (.iconst 0) 22 := ⟨by decide +kernel, rfl⟩
theorem D3_22 : In method_2_code 22 1 (.ireturn) 23 := ⟨by decide +kernel, rfl⟩
theorem D4_0 : In prog_42_method_4_code 0 1 (.lload_n 1) 1 := ⟨by decide +kernel, rfl⟩
theorem D4_1 : In prog_42_method_4_code 1 1 (.lconst 0) 2 := ⟨by decide +kernel, rfl⟩
theorem D4_2 : In prog_42_method_4_code 2 1 (.lcmp) 3 := ⟨by decide +kernel, rfl⟩
theorem D4_3 : Jm prog_42_method_4_code 3 (.ifCond .le) 6 22 := ⟨19, by decide +kernel, rfl, by decide, by decide⟩
theorem D4_6 : In prog_42_method_4_code 6 1 (.aload_n 0) 7 := ⟨by decide +kernel, rfl⟩
theorem D4_7 : In prog_42_method_4_code 7 3 (.getfield 76) 10 := ⟨by decide +kernel, rfl⟩
theorem D4_10 : In prog_42_method_4_code 10 1 (.lload_n 1) 11 := ⟨by decide +kernel, rfl⟩
theorem D4_11 : In prog_42_method_4_code 11 1 (.ladd) 12 := ⟨by decide +kernel, rfl⟩
theorem D4_12 : In prog_42_method_4_code 12 1 (.aload_n 0) 13 := ⟨by decide +kernel, rfl⟩
theorem D4_13 : In prog_42_method_4_code 13 3 (.getfield 7) 16 := ⟨by decide +kernel, rfl⟩
theorem D4_16 : In prog_42_method_4_code 16 1 (.lcmp) 17 := ⟨by decide +kernel, rfl⟩
theorem D4_17 : Jm prog_42_method_4_code 17 (.ifCond .le) 20 22 := ⟨5, by decide +kernel, rfl, by decide, by decide⟩
theorem D4_20 : In prog_42_method_4_code 20 1 (.iconst 0) 21 := ⟨by decide +kernel, rfl⟩
theorem D4_21 : In prog_42_method_4_code 21 1 (.ireturn) 22 := ⟨by decide +kernel, rfl⟩
theorem D4_22 : In prog_42_method_4_code 22 1 (.aload_n 0) 23 := ⟨by decide +kernel, rfl⟩
theorem D4_23 : In prog_42_method_4_code 23 1 (.dup) 24 := ⟨by decide +kernel, rfl⟩
theorem D4_24 : In prog_42_method_4_code 24 3 (.getfield 76) 27 := ⟨by decide +kernel, rfl⟩
theorem D4_27 : In prog_42_method_4_code 27 1 (.lload_n 1) 28 := ⟨by decide +kernel, rfl⟩
theorem D4_28 : In prog_42_method_4_code 28 1 (.ladd) 29 := ⟨by decide +kernel, rfl⟩
theorem D4_29 : In prog_42_method_4_code 29 3 (.putfield 76) 32 := ⟨by decide +kernel, rfl⟩
theorem D4_32 : In prog_42_method_4_code 32 1 (.iconst 1) 33 := ⟨by decide +kernel, rfl⟩
theorem D4_33 : In prog_42_method_4_code 33 1 (.ireturn) 34 := ⟨by decide +kernel, rfl⟩
theorem pd_0 : parseMethodDescriptor "(J)V" = some ⟨[.long], none⟩ := by decide +kernel
theorem pd_1 : parseMethodDescriptor "(JJJ)Z" = some ⟨[.long, .long, .long], some .boolean⟩ := by decide +kernel
theorem pd_2 : parseMethodDescriptor "(J)Z" = some ⟨[.long], some .boolean⟩ := by decide +kernel
theorem pn_0 : plainName "com/example/offset/offset/group/HeldBytes" = true := by first | (simp [plainName, overriddenIn]; done) | decide +kernel
theorem pn_1 : plainName "com/example/offset/offset/group/HeldBytesTakePinLaw" = true := by first | (simp [plainName, overriddenIn]; done) | decide +kernel
def RH (Z : State) (h : Heap) (a : Addr) (f0 : Int64) (f1 : Int64) : Prop := Exa Z h a "com/example/offset/offset/group/HeldBytes" ∧ Fld Z h a "com/example/offset/offset/group/HeldBytes" "limit" "J" (.long f0) ∧ Fld Z h a "com/example/offset/offset/group/HeldBytes" "held" "J" (.long f1)
theorem RH.lt {Z : State} {h : Heap} {a : Addr} {f0 : Int64} {f1 : Int64} (H : RH Z h a f0 f1) : a < h.size := H.1.lt
theorem RH.ext {Z : State} {h h' : Heap} {a : Addr} {f0 : Int64} {f1 : Int64} (H : RH Z h a f0 f1) (E : Ext h h') : RH Z h' a f0 f1 := ⟨H.1.ext E, H.2.1.ext E, H.2.2.ext E⟩
theorem RH.keep {Z : State} {h h' : Heap} {a : Addr} {f0 : Int64} {f1 : Int64} {ws : List Addr} (H : RH Z h a f0 f1) (K : Keep h h' ws) (q : a ∉ ws) : RH Z h' a f0 f1 := ⟨H.1.keep K, H.2.1.keep K q, H.2.2.keep K q⟩
theorem RH.other {Z : State} {h h' : Heap} {a : Addr} {f0 : Int64} {f1 : Int64} {b : Addr} {sl : Nat} {v : Value} (H : RH Z h a f0 f1) (W : Wr h h' b sl v) (q : a ≠ b) : RH Z h' a f0 f1 := ⟨H.1.wr W, H.2.1.other W (Or.inl q), H.2.2.other W (Or.inl q)⟩
theorem RH.set_limit {Z : State} {h h' : Heap} {a : Addr} {f0 : Int64} {f1 : Int64} {a0 : Array Value} (hw : ∀ d ∈ tables_1, d.before a0 Z = true) {g : Int64} (H : RH Z h a f0 f1) (W : Wr h h' a (Jvm.RoadKit.slotOf Z "com/example/offset/offset/group/HeldBytes" "limit" "J") (.long g)) : RH Z h' a g f1 := ⟨H.1.wr W, H.2.1.same W, H.2.2.other W (Or.inr (slot_ne (Or.inl (wd_21 hw)) (Or.inr (wd_10 hw)) (by decide) (t := .long) (t' := .long) (by decide) (by decide)))⟩
theorem RH.set_held {Z : State} {h h' : Heap} {a : Addr} {f0 : Int64} {f1 : Int64} {a0 : Array Value} (hw : ∀ d ∈ tables_1, d.before a0 Z = true) {g : Int64} (H : RH Z h a f0 f1) (W : Wr h h' a (Jvm.RoadKit.slotOf Z "com/example/offset/offset/group/HeldBytes" "held" "J") (.long g)) : RH Z h' a f0 g := ⟨H.1.wr W, H.2.1.other W (Or.inr (slot_ne (Or.inr (wd_10 hw)) (Or.inl (wd_21 hw)) (by decide) (t := .long) (t' := .long) (by decide) (by decide))), H.2.2.same W⟩
set_option maxRecDepth 65536 in
set_option maxHeartbeats 40000000 in
theorem c_init (l : Launch) {Z : State} {a0 : Array Value} (hw : ∀ d ∈ tables_1, d.before a0 Z = true) (h0 : Heap) (n0 : Nat) (hn0 : n0 ≤ h0.size) (a : Addr) (lm u1 u2 : Int64) (ga : n0 ≤ a) (H : RH Z h0 a u1 u2) : Con l Z (⟨"com/example/offset/offset/group/HeldBytes", "<init>", "(J)V"⟩ : MethodName) prog_42_method_1_code 3 none ({ frames := 1, cells := 0, slots := 0, locals := 12 } : Room) [] #[(.ref a), (.long lm)] h0 n0 (fun v h' => v = none ∧ Keep h0 h' [a] ∧ RH Z h' a lm u2) := by
  refine con_of (Ls0 := #[.val (.ref a), .val (.long lm), .second]) (plainFor_of_name pn_0) (fun m => by first | (simp [entryFrame, mkF, argsToLocals, Value.category]; done) | rfl) hn0 ?_
  intro p e s m below meth c C
  refine g_aloadN C D1_0 rfl rfl ?_
  refine g_initO C (wd_6 hw) (wd_7 hw) (wd_8 hw) D1_1 rfl (by decide) 0 (Nat.le_of_eq rfl) (by decide) ?_
  refine g_aloadN C D1_4 rfl rfl ?_
  refine g_lloadN C D1_5 rfl ?_
  refine g_putF C (wd_9 hw) D1_6 H.2.1 H.1 (Or.inr ⟨(wd_10 hw), rfl, rfl⟩) (wd_1 hw) (ty := .long) (v' := (.long lm)) (by decide) rfl rfl ga ?_
  intro h1 W2
  have H3 := RH.set_limit hw (g := lm) H W2
  have K4 := (Keep.refl h0 [a]).wr W2 (Or.inl (by simp))
  refine g_ret C D1_9 (by decide) (by decide) ?_
  exact ⟨rfl, K4, H3⟩
set_option maxRecDepth 65536 in
set_option maxHeartbeats 40000000 in
theorem c_fits (l : Launch) {Z : State} {a0 : Array Value} (hw : ∀ d ∈ tables_1, d.before a0 Z = true) (h0 : Heap) (n0 : Nat) (hn0 : n0 ≤ h0.size) (b lim held : Int64) (r : Int32) (hr : fitsR b lim held r) : Con l Z (⟨"com/example/offset/offset/group/HeldBytesTakePinLaw", "fits", "(JJJ)Z"⟩ : MethodName) method_2_code 6 (some .boolean) ({ frames := 0, cells := 0, slots := 0, locals := 0 } : Room) [] #[(.long b), (.long lim), (.long held)] h0 n0 (fun v h' => v = some (.int r) ∧ h0 = h') := by
  refine con_of (Ls0 := #[.val (.long b), .second, .val (.long lim), .second, .val (.long held), .second]) (plainFor_of_name pn_1) (fun m => by first | (simp [entryFrame, mkF, argsToLocals, Value.category]; done) | rfl) hn0 ?_
  intro p e s m below meth c C
  refine g_lloadN C D3_0 rfl ?_
  refine g_lconst C (0 : Int64) rfl D3_1 ?_
  refine g_lcmp_gt C D3_2 D3_3 (fun q1 => ?_) (fun q1 => ?_)
  · refine g_lloadN C D3_8 rfl ?_
    refine g_lloadN C D3_9 rfl ?_
    refine g_lload C D3_10 rfl ?_
    refine g_lsub C D3_12 ?_
    refine g_lcmp_gt C D3_13 D3_14 (fun q2 => ?_) (fun q2 => ?_)
    · refine g_iconst C (0 : Int32) rfl D3_21 ?_
      refine g_retZ C D3_22 (by decide) (by decide) ?_
      obtain rfl := fits_no q1 q2 hr
      exact ⟨rfl, rfl⟩
    · refine g_iconst C (1 : Int32) rfl D3_17 ?_
      refine g_goto C D3_18 ?_
      refine g_retZ C D3_22 (by decide) (by decide) ?_
      obtain rfl := fits_yes (Or.inr q2) hr
      exact ⟨rfl, rfl⟩
  · refine g_iconst C (1 : Int32) rfl D3_6 ?_
    refine g_retZ C D3_7 (by decide) (by decide) ?_
    obtain rfl := fits_yes (Or.inl q1) hr
    exact ⟨rfl, rfl⟩
set_option maxRecDepth 65536 in
set_option maxHeartbeats 40000000 in
theorem c_take (l : Launch) {Z : State} {a0 : Array Value} (hw : ∀ d ∈ tables_1, d.before a0 Z = true) (h0 : Heap) (n0 : Nat) (hn0 : n0 ≤ h0.size) (a : Addr) (b lim held : Int64) (r : Int32) (held' : Int64) (ga : n0 ≤ a) (H : RH Z h0 a lim held) (hr : takeR b lim held r held') : Con l Z (⟨"com/example/offset/offset/group/HeldBytes", "take", "(J)Z"⟩ : MethodName) prog_42_method_4_code 3 (some .boolean) ({ frames := 0, cells := 0, slots := 0, locals := 0 } : Room) [] #[(.ref a), (.long b)] h0 n0 (fun v h' => v = some (.int r) ∧ Keep h0 h' [a] ∧ RH Z h' a lim held') := by
  refine con_of (Ls0 := #[.val (.ref a), .val (.long b), .second]) (plainFor_of_name pn_0) (fun m => by first | (simp [entryFrame, mkF, argsToLocals, Value.category]; done) | rfl) hn0 ?_
  intro p e s m below meth c C
  refine g_lloadN C D4_0 rfl ?_
  refine g_lconst C (0 : Int64) rfl D4_1 ?_
  refine g_lcmp_le C D4_2 D4_3 (fun q1 => ?_) (fun q1 => ?_)
  · refine g_aloadN C D4_22 rfl rfl ?_
    refine g_dup C D4_23 rfl ?_
    refine g_getF C (wd_20 hw) D4_24 H.2.2 ?_
    refine g_lloadN C D4_27 rfl ?_
    refine g_ladd C D4_28 ?_
    refine g_putF C (wd_20 hw) D4_29 H.2.2 H.1 (Or.inl (wd_21 hw)) (wd_1 hw) (ty := .long) (v' := (.long (held + b))) (by decide) rfl rfl ga ?_
    intro h2 W3
    have H4 := RH.set_held hw (g := (held + b)) H W3
    have K5 := (Keep.refl h0 [a]).wr W3 (Or.inl (by simp))
    refine g_iconst C (1 : Int32) rfl D4_32 ?_
    refine g_retZ C D4_33 (by decide) (by decide) ?_
    obtain ⟨rfl, rfl⟩ := take_yes (Or.inl q1) hr
    exact ⟨rfl, K5, H4⟩
  · refine g_aloadN C D4_6 rfl rfl ?_
    refine g_getF C (wd_20 hw) D4_7 H.2.2 ?_
    refine g_lloadN C D4_10 rfl ?_
    refine g_ladd C D4_11 ?_
    refine g_aloadN C D4_12 rfl rfl ?_
    refine g_getF C (wd_9 hw) D4_13 H.2.1 ?_
    refine g_lcmp_le C D4_16 D4_17 (fun q6 => ?_) (fun q6 => ?_)
    · refine g_aloadN C D4_22 rfl rfl ?_
      refine g_dup C D4_23 rfl ?_
      refine g_getF C (wd_20 hw) D4_24 H.2.2 ?_
      refine g_lloadN C D4_27 rfl ?_
      refine g_ladd C D4_28 ?_
      refine g_putF C (wd_20 hw) D4_29 H.2.2 H.1 (Or.inl (wd_21 hw)) (wd_1 hw) (ty := .long) (v' := (.long (held + b))) (by decide) rfl rfl ga ?_
      intro h7 W8
      have H9 := RH.set_held hw (g := (held + b)) H W8
      have K10 := (Keep.refl h0 [a]).wr W8 (Or.inl (by simp))
      refine g_iconst C (1 : Int32) rfl D4_32 ?_
      refine g_retZ C D4_33 (by decide) (by decide) ?_
      obtain ⟨rfl, rfl⟩ := take_yes (Or.inr q6) hr
      exact ⟨rfl, K10, H9⟩
    · refine g_iconst C (0 : Int32) rfl D4_20 ?_
      refine g_retZ C D4_21 (by decide) (by decide) ?_
      obtain ⟨rfl, rfl⟩ := take_no q1 q6 hr
      exact ⟨rfl, Keep.refl _ _, H⟩
set_option maxRecDepth 65536 in
set_option maxHeartbeats 40000000 in
theorem c_law (l : Launch) {Z : State} {a0 : Array Value} (hw : ∀ d ∈ tables_1, d.before a0 Z = true) (ws : List Jvm.Cond) (h0 : Heap) (n0 : Nat) (hn0 : n0 ≤ h0.size) (l0 x0 y0 z0 : Int64)  : Con l Z x code maxLocals ret room_1 ws #[(.long l0), (.long x0), (.long y0), (.long z0)] h0 n0 (fun v h' => v = some (.int 1) ∧ True) := by
  refine con_of (Ls0 := #[.val (.long l0), .second, .val (.long x0), .second, .val (.long y0), .second, .val (.long z0), .second, .unset, .unset, .unset, .unset, .unset, .unset, .unset, .unset, .unset, .unset, .unset, .unset, .unset, .unset, .unset, .unset]) (plainFor_of_name pn_1) (fun m => by first | (simp [entryFrame, mkF, argsToLocals, Value.category, maxLocals]; done) | rfl) hn0 ?_
  intro p e s m below meth c C
  refine g_lloadN C D0_0 rfl ?_
  refine g_iconst C (3 : Int32) rfl D0_1 ?_
  refine g_lshr C D0_2 ?_
  generalize q_lim : (shrJ l0 (3 : Int32)) = lim
  have b_lim : Bd lim 1152921504606846976 := q_lim ▸ shr3 l0
  refine g_lstore C #[.val (.long l0), .second, .val (.long x0), .second, .val (.long y0), .second, .val (.long z0), .second, .val (.long lim), .second, .unset, .unset, .unset, .unset, .unset, .unset, .unset, .unset, .unset, .unset, .unset, .unset, .unset, .unset] D0_3 rfl ?_
  refine g_new C (wd_0 hw) (wd_1 hw) (wd_2 hw) D0_5 (by decide) (by decide) ?_
  intro h1 b2 ge3 ea4 E5 X6 F7
  have H8 : RH Z h1 b2 (0 : Int64) (0 : Int64) := ⟨X6, F7 (Or.inr (wd_10 hw)) (ty := .long) (by decide), F7 (Or.inl (wd_21 hw)) (ty := .long) (by decide)⟩
  refine g_dup C D0_8 rfl ?_
  refine g_lload C D0_9 rfl ?_
  have hz1 : n0 ≤ h1.size := Nat.le_trans ge3 (Nat.le_of_lt H8.lt)
  refine g_callI C (c_init l hw h1 n0 hz1 b2 lim (0 : Int64) (0 : Int64) ge3 H8) rfl (wd_3 hw) (wd_4 hw) (wd_2 hw) (wd_5 hw) (by decide) D0_11 pd_0 [(.long lim)] [(.ref b2)] rfl rfl rfl 1 (Nat.le_of_eq rfl) (by decide) (by decide) (by decide) (by decide) ?_
  rintro _ hA ⟨rfl, KA, HA⟩
  have hz2 : n0 ≤ hA.size := Nat.le_trans hz1 KA.1
  refine g_cast (f' := mkF m 14 #[.val (.long l0), .second, .val (.long x0), .second, .val (.long y0), .second, .val (.long z0), .second, .val (.long lim), .second, .unset, .unset, .unset, .unset, .unset, .unset, .unset, .unset, .unset, .unset, .unset, .unset, .unset, .unset] [(.ref b2)]) rfl ?_
  refine g_astore C #[.val (.long l0), .second, .val (.long x0), .second, .val (.long y0), .second, .val (.long z0), .second, .val (.long lim), .second, .val (.ref b2), .unset, .unset, .unset, .unset, .unset, .unset, .unset, .unset, .unset, .unset, .unset, .unset, .unset] D0_14 rfl rfl ?_
  refine g_lconst C (0 : Int64) rfl D0_16 ?_
  refine g_lstore C #[.val (.long l0), .second, .val (.long x0), .second, .val (.long y0), .second, .val (.long z0), .second, .val (.long lim), .second, .val (.ref b2), .val (.long (0 : Int64)), .second, .unset, .unset, .unset, .unset, .unset, .unset, .unset, .unset, .unset, .unset, .unset] D0_17 rfl ?_
  refine g_lloadN C D0_19 rfl ?_
  refine g_iconst C (3 : Int32) rfl D0_20 ?_
  refine g_lshr C D0_21 ?_
  generalize q_va : (shrJ x0 (3 : Int32)) = va
  have b_va : Bd va 1152921504606846976 := q_va ▸ shr3 x0
  refine g_lstore C #[.val (.long l0), .second, .val (.long x0), .second, .val (.long y0), .second, .val (.long z0), .second, .val (.long lim), .second, .val (.ref b2), .val (.long (0 : Int64)), .second, .val (.long va), .second, .unset, .unset, .unset, .unset, .unset, .unset, .unset, .unset, .unset] D0_22 rfl ?_
  have b_0 : Bd (0 : Int64) 0 := by unfold Bd; decide
  refine g_join (ι := Heap × Int64 × Int32) (fun y => y.1) 1 2 (fun y => mkF m 61 #[.val (.long l0), .second, .val (.long x0), .second, .val (.long y0), .second, .val (.long z0), .second, .val (.long lim), .second, .val (.ref b2), .val (.long y.2.1), .second, .val (.long va), .second, .val (.int y.2.2), .unset, .unset, .unset, .unset, .unset, .unset, .unset, .unset] []) (fun y => n0 ≤ y.1.size ∧ RH Z y.1 b2 lim y.2.1 ∧ Bd y.2.1 1152921504606846976) (fun J => ?_) ?_
  · by_cases qf : fitsP va lim (0 : Int64)
    · refine g_lload C D0_24 rfl ?_
      refine g_lload C D0_26 rfl ?_
      refine g_lload C D0_28 rfl ?_
      refine g_callS C (c_fits l hw hA n0 hz2 va lim (0 : Int64) 1 (Or.inl ⟨qf, rfl⟩)) (wd_11 hw) (wd_12 hw) (wd_13 hw) (wd_14 hw) (by decide) D0_30 pd_1 [(.long va), (.long lim), (.long (0 : Int64))] [] rfl rfl rfl 0 (Nat.le_of_eq rfl) (by decide) (by decide) (by decide) (by decide) ?_
      rintro _ _ ⟨rfl, rfl⟩
      refine g_cast (f' := mkF m 33 #[.val (.long l0), .second, .val (.long x0), .second, .val (.long y0), .second, .val (.long z0), .second, .val (.long lim), .second, .val (.ref b2), .val (.long (0 : Int64)), .second, .val (.long va), .second, .unset, .unset, .unset, .unset, .unset, .unset, .unset, .unset, .unset] [(.int 1)]) rfl ?_
      refine g_istore C #[.val (.long l0), .second, .val (.long x0), .second, .val (.long y0), .second, .val (.long z0), .second, .val (.long lim), .second, .val (.ref b2), .val (.long (0 : Int64)), .second, .val (.long va), .second, .val (.int 1), .unset, .unset, .unset, .unset, .unset, .unset, .unset, .unset] D0_33 rfl ?_
      refine g_aload C D0_35 rfl rfl ?_
      refine g_lload C D0_37 rfl ?_
      refine g_callV C (c_take l hw hA n0 hz2 b2 va lim (0 : Int64) 1 ((0 : Int64) + va) ge3 HA (Or.inl ⟨(fit_take b_lim (bd_mono b_0 (by decide)) (bd_mono b_va (by decide))).mp qf, rfl, rfl⟩)) (wd_15 hw) (wd_16 hw) (wd_17 hw) (wd_18 hw) (wd_2 hw) (wd_19 hw) (by decide) D0_39 pd_2 HA.1 [(.long va)] [] rfl rfl rfl 0 (Nat.le_of_eq rfl) (by decide) (by decide) (by decide) (by decide) ?_
      rintro _ hB9 ⟨rfl, KB10, HB11⟩
      have hz12 : n0 ≤ hB9.size := Nat.le_trans hz2 KB10.1
      refine g_cast (f' := mkF m 42 #[.val (.long l0), .second, .val (.long x0), .second, .val (.long y0), .second, .val (.long z0), .second, .val (.long lim), .second, .val (.ref b2), .val (.long (0 : Int64)), .second, .val (.long va), .second, .val (.int 1), .unset, .unset, .unset, .unset, .unset, .unset, .unset, .unset] [(.int 1)]) rfl ?_
      refine g_iload C D0_42 rfl ?_
      refine g_icmp_eq C D0_44 (fun q13 => ?_) (fun q13 => ?_)
      rotate_left
      · exfalso
        exact q13 rfl
      refine g_iload C D0_49 rfl ?_
      refine g_if_eq C D0_51 (fun q14 => ?_) (fun q14 => ?_)
      · exfalso
        exact absurd q14 (by decide)
      refine g_lload C D0_54 rfl ?_
      refine g_lload C D0_56 rfl ?_
      refine g_ladd C D0_58 ?_
      refine g_lstore C #[.val (.long l0), .second, .val (.long x0), .second, .val (.long y0), .second, .val (.long z0), .second, .val (.long lim), .second, .val (.ref b2), .val (.long ((0 : Int64) + va)), .second, .val (.long va), .second, .val (.int 1), .unset, .unset, .unset, .unset, .unset, .unset, .unset, .unset] D0_59 rfl ?_
      exact J (hB9, ((0 : Int64) + va), 1) ⟨hz12, HB11, bd_mono (bd_add b_0 b_va (by decide)) (by decide)⟩
    · refine g_lload C D0_24 rfl ?_
      refine g_lload C D0_26 rfl ?_
      refine g_lload C D0_28 rfl ?_
      refine g_callS C (c_fits l hw hA n0 hz2 va lim (0 : Int64) 0 (Or.inr ⟨qf, rfl⟩)) (wd_11 hw) (wd_12 hw) (wd_13 hw) (wd_14 hw) (by decide) D0_30 pd_1 [(.long va), (.long lim), (.long (0 : Int64))] [] rfl rfl rfl 0 (Nat.le_of_eq rfl) (by decide) (by decide) (by decide) (by decide) ?_
      rintro _ _ ⟨rfl, rfl⟩
      refine g_cast (f' := mkF m 33 #[.val (.long l0), .second, .val (.long x0), .second, .val (.long y0), .second, .val (.long z0), .second, .val (.long lim), .second, .val (.ref b2), .val (.long (0 : Int64)), .second, .val (.long va), .second, .unset, .unset, .unset, .unset, .unset, .unset, .unset, .unset, .unset] [(.int 0)]) rfl ?_
      refine g_istore C #[.val (.long l0), .second, .val (.long x0), .second, .val (.long y0), .second, .val (.long z0), .second, .val (.long lim), .second, .val (.ref b2), .val (.long (0 : Int64)), .second, .val (.long va), .second, .val (.int 0), .unset, .unset, .unset, .unset, .unset, .unset, .unset, .unset] D0_33 rfl ?_
      refine g_aload C D0_35 rfl rfl ?_
      refine g_lload C D0_37 rfl ?_
      refine g_callV C (c_take l hw hA n0 hz2 b2 va lim (0 : Int64) 0 (0 : Int64) ge3 HA (Or.inr ⟨fun z => qf ((fit_take b_lim (bd_mono b_0 (by decide)) (bd_mono b_va (by decide))).mpr z), rfl, rfl⟩)) (wd_15 hw) (wd_16 hw) (wd_17 hw) (wd_18 hw) (wd_2 hw) (wd_19 hw) (by decide) D0_39 pd_2 HA.1 [(.long va)] [] rfl rfl rfl 0 (Nat.le_of_eq rfl) (by decide) (by decide) (by decide) (by decide) ?_
      rintro _ hB15 ⟨rfl, KB16, HB17⟩
      have hz18 : n0 ≤ hB15.size := Nat.le_trans hz2 KB16.1
      refine g_cast (f' := mkF m 42 #[.val (.long l0), .second, .val (.long x0), .second, .val (.long y0), .second, .val (.long z0), .second, .val (.long lim), .second, .val (.ref b2), .val (.long (0 : Int64)), .second, .val (.long va), .second, .val (.int 0), .unset, .unset, .unset, .unset, .unset, .unset, .unset, .unset] [(.int 0)]) rfl ?_
      refine g_iload C D0_42 rfl ?_
      refine g_icmp_eq C D0_44 (fun q19 => ?_) (fun q19 => ?_)
      rotate_left
      · exfalso
        exact q19 rfl
      refine g_iload C D0_49 rfl ?_
      refine g_if_eq C D0_51 (fun q20 => ?_) (fun q20 => ?_)
      rotate_left
      · exfalso
        exact q20 rfl
      exact J (hB15, (0 : Int64), 0) ⟨hz18, HB17, bd_mono b_0 (by decide)⟩
  rintro ⟨hA, heldA, okA⟩ ⟨hzA, HA, bhA⟩
  try dsimp only at hzA HA bhA ⊢
  refine g_lload C D0_61 rfl ?_
  refine g_iconst C (3 : Int32) rfl D0_63 ?_
  refine g_lshr C D0_64 ?_
  generalize q_vb : (shrJ y0 (3 : Int32)) = vb
  have b_vb : Bd vb 1152921504606846976 := q_vb ▸ shr3 y0
  refine g_lstore C #[.val (.long l0), .second, .val (.long x0), .second, .val (.long y0), .second, .val (.long z0), .second, .val (.long lim), .second, .val (.ref b2), .val (.long heldA), .second, .val (.long va), .second, .val (.int okA), .val (.long vb), .second, .unset, .unset, .unset, .unset, .unset, .unset] D0_65 rfl ?_
  refine g_join (ι := Heap × Int64 × Int32) (fun y => y.1) 1 2 (fun y => mkF m 104 #[.val (.long l0), .second, .val (.long x0), .second, .val (.long y0), .second, .val (.long z0), .second, .val (.long lim), .second, .val (.ref b2), .val (.long y.2.1), .second, .val (.long va), .second, .val (.int okA), .val (.long vb), .second, .val (.int y.2.2), .unset, .unset, .unset, .unset, .unset] []) (fun y => n0 ≤ y.1.size ∧ RH Z y.1 b2 lim y.2.1 ∧ Bd y.2.1 2305843009213693952) (fun J => ?_) ?_
  · by_cases qf : fitsP vb lim heldA
    · refine g_lload C D0_67 rfl ?_
      refine g_lload C D0_69 rfl ?_
      refine g_lload C D0_71 rfl ?_
      refine g_callS C (c_fits l hw hA n0 hzA vb lim heldA 1 (Or.inl ⟨qf, rfl⟩)) (wd_11 hw) (wd_12 hw) (wd_13 hw) (wd_14 hw) (by decide) D0_73 pd_1 [(.long vb), (.long lim), (.long heldA)] [] rfl rfl rfl 0 (Nat.le_of_eq rfl) (by decide) (by decide) (by decide) (by decide) ?_
      rintro _ _ ⟨rfl, rfl⟩
      refine g_cast (f' := mkF m 76 #[.val (.long l0), .second, .val (.long x0), .second, .val (.long y0), .second, .val (.long z0), .second, .val (.long lim), .second, .val (.ref b2), .val (.long heldA), .second, .val (.long va), .second, .val (.int okA), .val (.long vb), .second, .unset, .unset, .unset, .unset, .unset, .unset] [(.int 1)]) rfl ?_
      refine g_istore C #[.val (.long l0), .second, .val (.long x0), .second, .val (.long y0), .second, .val (.long z0), .second, .val (.long lim), .second, .val (.ref b2), .val (.long heldA), .second, .val (.long va), .second, .val (.int okA), .val (.long vb), .second, .val (.int 1), .unset, .unset, .unset, .unset, .unset] D0_76 rfl ?_
      refine g_aload C D0_78 rfl rfl ?_
      refine g_lload C D0_80 rfl ?_
      refine g_callV C (c_take l hw hA n0 hzA b2 vb lim heldA 1 (heldA + vb) ge3 HA (Or.inl ⟨(fit_take b_lim (bd_mono bhA (by decide)) (bd_mono b_vb (by decide))).mp qf, rfl, rfl⟩)) (wd_15 hw) (wd_16 hw) (wd_17 hw) (wd_18 hw) (wd_2 hw) (wd_19 hw) (by decide) D0_82 pd_2 HA.1 [(.long vb)] [] rfl rfl rfl 0 (Nat.le_of_eq rfl) (by decide) (by decide) (by decide) (by decide) ?_
      rintro _ hB21 ⟨rfl, KB22, HB23⟩
      have hz24 : n0 ≤ hB21.size := Nat.le_trans hzA KB22.1
      refine g_cast (f' := mkF m 85 #[.val (.long l0), .second, .val (.long x0), .second, .val (.long y0), .second, .val (.long z0), .second, .val (.long lim), .second, .val (.ref b2), .val (.long heldA), .second, .val (.long va), .second, .val (.int okA), .val (.long vb), .second, .val (.int 1), .unset, .unset, .unset, .unset, .unset] [(.int 1)]) rfl ?_
      refine g_iload C D0_85 rfl ?_
      refine g_icmp_eq C D0_87 (fun q25 => ?_) (fun q25 => ?_)
      rotate_left
      · exfalso
        exact q25 rfl
      refine g_iload C D0_92 rfl ?_
      refine g_if_eq C D0_94 (fun q26 => ?_) (fun q26 => ?_)
      · exfalso
        exact absurd q26 (by decide)
      refine g_lload C D0_97 rfl ?_
      refine g_lload C D0_99 rfl ?_
      refine g_ladd C D0_101 ?_
      refine g_lstore C #[.val (.long l0), .second, .val (.long x0), .second, .val (.long y0), .second, .val (.long z0), .second, .val (.long lim), .second, .val (.ref b2), .val (.long (heldA + vb)), .second, .val (.long va), .second, .val (.int okA), .val (.long vb), .second, .val (.int 1), .unset, .unset, .unset, .unset, .unset] D0_102 rfl ?_
      exact J (hB21, (heldA + vb), 1) ⟨hz24, HB23, bd_mono (bd_add bhA b_vb (by decide)) (by decide)⟩
    · refine g_lload C D0_67 rfl ?_
      refine g_lload C D0_69 rfl ?_
      refine g_lload C D0_71 rfl ?_
      refine g_callS C (c_fits l hw hA n0 hzA vb lim heldA 0 (Or.inr ⟨qf, rfl⟩)) (wd_11 hw) (wd_12 hw) (wd_13 hw) (wd_14 hw) (by decide) D0_73 pd_1 [(.long vb), (.long lim), (.long heldA)] [] rfl rfl rfl 0 (Nat.le_of_eq rfl) (by decide) (by decide) (by decide) (by decide) ?_
      rintro _ _ ⟨rfl, rfl⟩
      refine g_cast (f' := mkF m 76 #[.val (.long l0), .second, .val (.long x0), .second, .val (.long y0), .second, .val (.long z0), .second, .val (.long lim), .second, .val (.ref b2), .val (.long heldA), .second, .val (.long va), .second, .val (.int okA), .val (.long vb), .second, .unset, .unset, .unset, .unset, .unset, .unset] [(.int 0)]) rfl ?_
      refine g_istore C #[.val (.long l0), .second, .val (.long x0), .second, .val (.long y0), .second, .val (.long z0), .second, .val (.long lim), .second, .val (.ref b2), .val (.long heldA), .second, .val (.long va), .second, .val (.int okA), .val (.long vb), .second, .val (.int 0), .unset, .unset, .unset, .unset, .unset] D0_76 rfl ?_
      refine g_aload C D0_78 rfl rfl ?_
      refine g_lload C D0_80 rfl ?_
      refine g_callV C (c_take l hw hA n0 hzA b2 vb lim heldA 0 heldA ge3 HA (Or.inr ⟨fun z => qf ((fit_take b_lim (bd_mono bhA (by decide)) (bd_mono b_vb (by decide))).mpr z), rfl, rfl⟩)) (wd_15 hw) (wd_16 hw) (wd_17 hw) (wd_18 hw) (wd_2 hw) (wd_19 hw) (by decide) D0_82 pd_2 HA.1 [(.long vb)] [] rfl rfl rfl 0 (Nat.le_of_eq rfl) (by decide) (by decide) (by decide) (by decide) ?_
      rintro _ hB27 ⟨rfl, KB28, HB29⟩
      have hz30 : n0 ≤ hB27.size := Nat.le_trans hzA KB28.1
      refine g_cast (f' := mkF m 85 #[.val (.long l0), .second, .val (.long x0), .second, .val (.long y0), .second, .val (.long z0), .second, .val (.long lim), .second, .val (.ref b2), .val (.long heldA), .second, .val (.long va), .second, .val (.int okA), .val (.long vb), .second, .val (.int 0), .unset, .unset, .unset, .unset, .unset] [(.int 0)]) rfl ?_
      refine g_iload C D0_85 rfl ?_
      refine g_icmp_eq C D0_87 (fun q31 => ?_) (fun q31 => ?_)
      rotate_left
      · exfalso
        exact q31 rfl
      refine g_iload C D0_92 rfl ?_
      refine g_if_eq C D0_94 (fun q32 => ?_) (fun q32 => ?_)
      rotate_left
      · exfalso
        exact q32 rfl
      exact J (hB27, heldA, 0) ⟨hz30, HB29, bd_mono bhA (by decide)⟩
  rintro ⟨hB, heldB, okB⟩ ⟨hzB, HB, bhB⟩
  try dsimp only at hzB HB bhB ⊢
  refine g_join (ι := Int64) (fun y => hB) 1 2 (fun y => mkF m 142 #[.val (.long l0), .second, .val (.long x0), .second, .val (.long y0), .second, .val (.long z0), .second, .val (.long lim), .second, .val (.ref b2), .val (.long heldB), .second, .val (.long va), .second, .val (.int okA), .val (.long vb), .second, .val (.int okB), .val (.long y), .second, .unset, .unset, .unset] []) (fun y => Bd y 4611686018427387904) (fun J => ?_) ?_
  · refine g_lload C D0_104 rfl ?_
    refine g_lconst C (1 : Int64) rfl D0_106 ?_
    refine g_land C D0_107 ?_
    refine g_lconst C (0 : Int64) rfl D0_108 ?_
    refine g_lcmp_eq C D0_109 D0_110 (fun q33 => ?_) (fun q33 => ?_)
    · refine g_lload C D0_122 rfl ?_
      refine g_lload C D0_124 rfl ?_
      refine g_lsub C D0_126 ?_
      refine g_lload C D0_127 rfl ?_
      refine g_iconst C (1 : Int32) rfl D0_129 ?_
      refine g_lshr C D0_130 ?_
      refine g_ldc2 C (wd_23 hw) D0_131 ?_
      refine g_land C D0_134 ?_
      refine g_ladd C D0_135 ?_
      refine g_ldc2 C (wd_24 hw) D0_136 ?_
      refine g_lsub C D0_139 ?_
      refine g_lstore C #[.val (.long l0), .second, .val (.long x0), .second, .val (.long y0), .second, .val (.long z0), .second, .val (.long lim), .second, .val (.ref b2), .val (.long heldB), .second, .val (.long va), .second, .val (.int okA), .val (.long vb), .second, .val (.int okB), .val (.long (((lim - heldB) + ((shrJ z0 (1 : Int32)) &&& (3 : Int64))) - (2 : Int64))), .second, .unset, .unset, .unset] D0_140 rfl ?_
      exact J _ (bd_cap b_lim bhB)
    · refine g_lload C D0_113 rfl ?_
      refine g_iconst C (3 : Int32) rfl D0_115 ?_
      refine g_lshr C D0_116 ?_
      refine g_lstore C #[.val (.long l0), .second, .val (.long x0), .second, .val (.long y0), .second, .val (.long z0), .second, .val (.long lim), .second, .val (.ref b2), .val (.long heldB), .second, .val (.long va), .second, .val (.int okA), .val (.long vb), .second, .val (.int okB), .val (.long (shrJ z0 (3 : Int32))), .second, .unset, .unset, .unset] D0_117 rfl ?_
      refine g_goto C D0_119 ?_
      exact J _ (bd_mono (shr3 z0) (by decide))
  intro vc b_vc
  try dsimp only at b_vc ⊢
  refine g_join (ι := Heap × Int64 × Int32) (fun y => y.1) 1 2 (fun y => mkF m 179 #[.val (.long l0), .second, .val (.long x0), .second, .val (.long y0), .second, .val (.long z0), .second, .val (.long lim), .second, .val (.ref b2), .val (.long y.2.1), .second, .val (.long va), .second, .val (.int okA), .val (.long vb), .second, .val (.int okB), .val (.long vc), .second, .val (.int y.2.2), .unset, .unset] []) (fun y => n0 ≤ y.1.size ∧ RH Z y.1 b2 lim y.2.1 ∧ Bd y.2.1 6917529027641081856) (fun J => ?_) ?_
  · by_cases qf : fitsP vc lim heldB
    · refine g_lload C D0_142 rfl ?_
      refine g_lload C D0_144 rfl ?_
      refine g_lload C D0_146 rfl ?_
      refine g_callS C (c_fits l hw hB n0 hzB vc lim heldB 1 (Or.inl ⟨qf, rfl⟩)) (wd_11 hw) (wd_12 hw) (wd_13 hw) (wd_14 hw) (by decide) D0_148 pd_1 [(.long vc), (.long lim), (.long heldB)] [] rfl rfl rfl 0 (Nat.le_of_eq rfl) (by decide) (by decide) (by decide) (by decide) ?_
      rintro _ _ ⟨rfl, rfl⟩
      refine g_cast (f' := mkF m 151 #[.val (.long l0), .second, .val (.long x0), .second, .val (.long y0), .second, .val (.long z0), .second, .val (.long lim), .second, .val (.ref b2), .val (.long heldB), .second, .val (.long va), .second, .val (.int okA), .val (.long vb), .second, .val (.int okB), .val (.long vc), .second, .unset, .unset, .unset] [(.int 1)]) rfl ?_
      refine g_istore C #[.val (.long l0), .second, .val (.long x0), .second, .val (.long y0), .second, .val (.long z0), .second, .val (.long lim), .second, .val (.ref b2), .val (.long heldB), .second, .val (.long va), .second, .val (.int okA), .val (.long vb), .second, .val (.int okB), .val (.long vc), .second, .val (.int 1), .unset, .unset] D0_151 rfl ?_
      refine g_aload C D0_153 rfl rfl ?_
      refine g_lload C D0_155 rfl ?_
      refine g_callV C (c_take l hw hB n0 hzB b2 vc lim heldB 1 (heldB + vc) ge3 HB (Or.inl ⟨(fit_take b_lim (bd_mono bhB (by decide)) (bd_mono b_vc (by decide))).mp qf, rfl, rfl⟩)) (wd_15 hw) (wd_16 hw) (wd_17 hw) (wd_18 hw) (wd_2 hw) (wd_19 hw) (by decide) D0_157 pd_2 HB.1 [(.long vc)] [] rfl rfl rfl 0 (Nat.le_of_eq rfl) (by decide) (by decide) (by decide) (by decide) ?_
      rintro _ hB34 ⟨rfl, KB35, HB36⟩
      have hz37 : n0 ≤ hB34.size := Nat.le_trans hzB KB35.1
      refine g_cast (f' := mkF m 160 #[.val (.long l0), .second, .val (.long x0), .second, .val (.long y0), .second, .val (.long z0), .second, .val (.long lim), .second, .val (.ref b2), .val (.long heldB), .second, .val (.long va), .second, .val (.int okA), .val (.long vb), .second, .val (.int okB), .val (.long vc), .second, .val (.int 1), .unset, .unset] [(.int 1)]) rfl ?_
      refine g_iload C D0_160 rfl ?_
      refine g_icmp_eq C D0_162 (fun q38 => ?_) (fun q38 => ?_)
      rotate_left
      · exfalso
        exact q38 rfl
      refine g_iload C D0_167 rfl ?_
      refine g_if_eq C D0_169 (fun q39 => ?_) (fun q39 => ?_)
      · exfalso
        exact absurd q39 (by decide)
      refine g_lload C D0_172 rfl ?_
      refine g_lload C D0_174 rfl ?_
      refine g_ladd C D0_176 ?_
      refine g_lstore C #[.val (.long l0), .second, .val (.long x0), .second, .val (.long y0), .second, .val (.long z0), .second, .val (.long lim), .second, .val (.ref b2), .val (.long (heldB + vc)), .second, .val (.long va), .second, .val (.int okA), .val (.long vb), .second, .val (.int okB), .val (.long vc), .second, .val (.int 1), .unset, .unset] D0_177 rfl ?_
      exact J (hB34, (heldB + vc), 1) ⟨hz37, HB36, bd_mono (bd_add bhB b_vc (by decide)) (by decide)⟩
    · refine g_lload C D0_142 rfl ?_
      refine g_lload C D0_144 rfl ?_
      refine g_lload C D0_146 rfl ?_
      refine g_callS C (c_fits l hw hB n0 hzB vc lim heldB 0 (Or.inr ⟨qf, rfl⟩)) (wd_11 hw) (wd_12 hw) (wd_13 hw) (wd_14 hw) (by decide) D0_148 pd_1 [(.long vc), (.long lim), (.long heldB)] [] rfl rfl rfl 0 (Nat.le_of_eq rfl) (by decide) (by decide) (by decide) (by decide) ?_
      rintro _ _ ⟨rfl, rfl⟩
      refine g_cast (f' := mkF m 151 #[.val (.long l0), .second, .val (.long x0), .second, .val (.long y0), .second, .val (.long z0), .second, .val (.long lim), .second, .val (.ref b2), .val (.long heldB), .second, .val (.long va), .second, .val (.int okA), .val (.long vb), .second, .val (.int okB), .val (.long vc), .second, .unset, .unset, .unset] [(.int 0)]) rfl ?_
      refine g_istore C #[.val (.long l0), .second, .val (.long x0), .second, .val (.long y0), .second, .val (.long z0), .second, .val (.long lim), .second, .val (.ref b2), .val (.long heldB), .second, .val (.long va), .second, .val (.int okA), .val (.long vb), .second, .val (.int okB), .val (.long vc), .second, .val (.int 0), .unset, .unset] D0_151 rfl ?_
      refine g_aload C D0_153 rfl rfl ?_
      refine g_lload C D0_155 rfl ?_
      refine g_callV C (c_take l hw hB n0 hzB b2 vc lim heldB 0 heldB ge3 HB (Or.inr ⟨fun z => qf ((fit_take b_lim (bd_mono bhB (by decide)) (bd_mono b_vc (by decide))).mpr z), rfl, rfl⟩)) (wd_15 hw) (wd_16 hw) (wd_17 hw) (wd_18 hw) (wd_2 hw) (wd_19 hw) (by decide) D0_157 pd_2 HB.1 [(.long vc)] [] rfl rfl rfl 0 (Nat.le_of_eq rfl) (by decide) (by decide) (by decide) (by decide) ?_
      rintro _ hB40 ⟨rfl, KB41, HB42⟩
      have hz43 : n0 ≤ hB40.size := Nat.le_trans hzB KB41.1
      refine g_cast (f' := mkF m 160 #[.val (.long l0), .second, .val (.long x0), .second, .val (.long y0), .second, .val (.long z0), .second, .val (.long lim), .second, .val (.ref b2), .val (.long heldB), .second, .val (.long va), .second, .val (.int okA), .val (.long vb), .second, .val (.int okB), .val (.long vc), .second, .val (.int 0), .unset, .unset] [(.int 0)]) rfl ?_
      refine g_iload C D0_160 rfl ?_
      refine g_icmp_eq C D0_162 (fun q44 => ?_) (fun q44 => ?_)
      rotate_left
      · exfalso
        exact q44 rfl
      refine g_iload C D0_167 rfl ?_
      refine g_if_eq C D0_169 (fun q45 => ?_) (fun q45 => ?_)
      rotate_left
      · exfalso
        exact q45 rfl
      exact J (hB40, heldB, 0) ⟨hz43, HB42, bd_mono bhB (by decide)⟩
  rintro ⟨hC, heldC, okC⟩ ⟨hzC, HC, bhC⟩
  try dsimp only at hzC HC bhC ⊢
  refine g_lload C D0_179 rfl ?_
  refine g_lload C D0_181 rfl ?_
  refine g_lsub C D0_183 ?_
  refine g_lstore C #[.val (.long l0), .second, .val (.long x0), .second, .val (.long y0), .second, .val (.long z0), .second, .val (.long lim), .second, .val (.ref b2), .val (.long heldC), .second, .val (.long va), .second, .val (.int okA), .val (.long vb), .second, .val (.int okB), .val (.long vc), .second, .val (.int okC), .val (.long (lim - heldC)), .second] D0_184 rfl ?_
  refine g_aload C D0_186 rfl rfl ?_
  refine g_lload C D0_188 rfl ?_
  refine g_callV C (c_take l hw hC n0 hzC b2 (lim - heldC) lim heldC 1 lim ge3 HC (room_take _ _)) (wd_15 hw) (wd_16 hw) (wd_17 hw) (wd_18 hw) (wd_2 hw) (wd_19 hw) (by decide) D0_190 pd_2 HC.1 [(.long (lim - heldC))] [] rfl rfl rfl 0 (Nat.le_of_eq rfl) (by decide) (by decide) (by decide) (by decide) ?_
  rintro _ hB46 ⟨rfl, KB47, HB48⟩
  have hz49 : n0 ≤ hB46.size := Nat.le_trans hzC KB47.1
  refine g_cast (f' := mkF m 193 #[.val (.long l0), .second, .val (.long x0), .second, .val (.long y0), .second, .val (.long z0), .second, .val (.long lim), .second, .val (.ref b2), .val (.long heldC), .second, .val (.long va), .second, .val (.int okA), .val (.long vb), .second, .val (.int okB), .val (.long vc), .second, .val (.int okC), .val (.long (lim - heldC)), .second] [(.int 1)]) rfl ?_
  refine g_if_ne C D0_193 (fun q50 => ?_) (fun q50 => ?_)
  rotate_left
  · exfalso
    exact absurd q50 (by decide)
  refine g_aload C D0_198 rfl rfl ?_
  refine g_lconst C (1 : Int64) rfl D0_200 ?_
  refine g_callV C (c_take l hw hB46 n0 hz49 b2 (1 : Int64) lim lim 0 lim ge3 HB48 (one_more b_lim)) (wd_15 hw) (wd_16 hw) (wd_17 hw) (wd_18 hw) (wd_2 hw) (wd_19 hw) (by decide) D0_201 pd_2 HB48.1 [(.long (1 : Int64))] [] rfl rfl rfl 0 (Nat.le_of_eq rfl) (by decide) (by decide) (by decide) (by decide) ?_
  rintro _ hB51 ⟨rfl, KB52, HB53⟩
  have hz54 : n0 ≤ hB51.size := Nat.le_trans hz49 KB52.1
  refine g_cast (f' := mkF m 204 #[.val (.long l0), .second, .val (.long x0), .second, .val (.long y0), .second, .val (.long z0), .second, .val (.long lim), .second, .val (.ref b2), .val (.long heldC), .second, .val (.long va), .second, .val (.int okA), .val (.long vb), .second, .val (.int okB), .val (.long vc), .second, .val (.int okC), .val (.long (lim - heldC)), .second] [(.int 0)]) rfl ?_
  refine g_if_eq C D0_204 (fun q55 => ?_) (fun q55 => ?_)
  rotate_left
  · exfalso
    exact q55 rfl
  refine g_aload C D0_209 rfl rfl ?_
  refine g_ldc2 C (wd_22 hw) D0_211 ?_
  refine g_callV C (c_take l hw hB51 n0 hz54 b2 (-1 : Int64) lim lim 1 (lim + (-1)) ge3 HB53 (one_less _)) (wd_15 hw) (wd_16 hw) (wd_17 hw) (wd_18 hw) (wd_2 hw) (wd_19 hw) (by decide) D0_214 pd_2 HB53.1 [(.long (-1 : Int64))] [] rfl rfl rfl 0 (Nat.le_of_eq rfl) (by decide) (by decide) (by decide) (by decide) ?_
  rintro _ hB56 ⟨rfl, KB57, HB58⟩
  have hz59 : n0 ≤ hB56.size := Nat.le_trans hz54 KB57.1
  refine g_cast (f' := mkF m 217 #[.val (.long l0), .second, .val (.long x0), .second, .val (.long y0), .second, .val (.long z0), .second, .val (.long lim), .second, .val (.ref b2), .val (.long heldC), .second, .val (.long va), .second, .val (.int okA), .val (.long vb), .second, .val (.int okB), .val (.long vc), .second, .val (.int okC), .val (.long (lim - heldC)), .second] [(.int 1)]) rfl ?_
  refine g_if_ne C D0_217 (fun q60 => ?_) (fun q60 => ?_)
  rotate_left
  · exfalso
    exact absurd q60 (by decide)
  refine g_aload C D0_222 rfl rfl ?_
  refine g_lconst C (1 : Int64) rfl D0_224 ?_
  refine g_callV C (c_take l hw hB56 n0 hz59 b2 (1 : Int64) lim (lim + (-1)) 1 (lim + (-1) + 1) ge3 HB58 (one_back _)) (wd_15 hw) (wd_16 hw) (wd_17 hw) (wd_18 hw) (wd_2 hw) (wd_19 hw) (by decide) D0_225 pd_2 HB58.1 [(.long (1 : Int64))] [] rfl rfl rfl 0 (Nat.le_of_eq rfl) (by decide) (by decide) (by decide) (by decide) ?_
  rintro _ hB61 ⟨rfl, KB62, HB63⟩
  have hz64 : n0 ≤ hB61.size := Nat.le_trans hz59 KB62.1
  refine g_cast (f' := mkF m 228 #[.val (.long l0), .second, .val (.long x0), .second, .val (.long y0), .second, .val (.long z0), .second, .val (.long lim), .second, .val (.ref b2), .val (.long heldC), .second, .val (.long va), .second, .val (.int okA), .val (.long vb), .second, .val (.int okB), .val (.long vc), .second, .val (.int okC), .val (.long (lim - heldC)), .second] [(.int 1)]) rfl ?_
  refine g_retZ C D0_228 (by decide) (by decide) ?_
  exact ⟨rfl, trivial⟩
set_option maxRecDepth 65536 in
set_option maxHeartbeats 40000000 in
theorem comes_1 {Post : Tables → Env → Array Value → State → Outcome → State → Prop} (hpost : ∀ tb e args s v u, (limb_1_1.after args s (.returned v) u = true ∧ limb_1_2.after args s (.returned v) u = true ∧ True) → FrameEnd s (.returned v) u (Jvm.fieldLocs frame_1_writes args s ++ Jvm.arrayLocs frame_1_arrays args s ++ Jvm.staticLocs frame_1_statics s) 16 128 → Post tb e args s (.returned v) u) :
    ArmFor flags0 classFile x code maxLocals ret World_1 tables_1 room_1 Calls_1 rest_1 Pre_1 Post := by
  intro l hfl _ _ p e ha hc hk s m args below hf hA hF happ hP
  obtain ⟨hcalls, hrest, hpre⟩ := hP
  obtain ⟨-, -, -, hnamed, -, -, -, hat⟩ := (Spec.applies_iff hf).mp happ
  obtain ⟨hg, hn⟩ := and_e (Cond.before_iff.mp (show (Jvm.Cond.and given_1 narrow_1).before args s = true from hpre))
  obtain ⟨gc, g0⟩ := and_e hg
  obtain ⟨ga0, g1⟩ := and_e g0
  obtain ⟨ga1, g2⟩ := and_e g1
  obtain ⟨ga2, g3⟩ := and_e g2
  have ga3 := g3
  obtain ⟨w0, w1, w2, w3, rfl⟩ : ∃ w0 w1 w2 w3 : Value, args = #[w0, w1, w2, w3] := by
    have hs : args.size = 4 := by simpa [Cond.value, given_1] using gc
    obtain ⟨L⟩ := args
    match L, hs with
    | [w0, w1, w2, w3], _ => exact ⟨w0, w1, w2, w3, rfl⟩
  have hw := fun d (hd : d ∈ tables_1) => atoms_spec (ws := Jvm.Cond.code x code maxLocals ret :: tables_1) hat d (List.mem_cons_of_mem _ hd)
  obtain ⟨i0, ei0⟩ := isL_v ga0
  obtain rfl : w0 = (.long i0) := Option.some.inj ei0
  obtain ⟨i1, ei1⟩ := isL_v ga1
  obtain rfl : w1 = (.long i1) := Option.some.inj ei1
  obtain ⟨i2, ei2⟩ := isL_v ga2
  obtain rfl : w2 = (.long i2) := Option.some.inj ei2
  obtain ⟨i3, ei3⟩ := isL_v ga3
  obtain rfl : w3 = (.long i3) := Option.some.inj ei3
  obtain ⟨n, o, h1, h2, h3, _, L, rfl, ⟨⟨rfl, _⟩, N⟩, hq⟩ := c_law l hw tables_1 s.heap s.heap.size (Nat.le_refl _) i0 i1 i2 i3 p e ha hc hk s m _ below hf ((Spec.applies_iff_loose hf).mp happ).1 ⟨rfl, State.Warmed39.refl s, rfl⟩ trivial
  refine ⟨n, _, h1, h2, h3, hpost _ _ _ _ _ _ ⟨Cond.after_iff.mpr rfl, Cond.after_iff.mpr (eq_i res_at (Term.int_eval (1)) rfl), trivial⟩ ⟨hq.1, hq.2.1, (hq.2.2.sift fun y hy => Or.inr (N y hy)).mono (by decide) (by decide)⟩⟩
theorem main_1_1 : Claimed_1_1 := comes_1 fun _ _ _ _ _ _ h hF => ⟨h.1, hF⟩
theorem main_1_2 : Claimed_1_2 := comes_1 fun _ _ _ _ _ _ h hF => ⟨h.2.1, hF⟩
end Jvm.Pilot.@@N@@
namespace Jvm.Pilot.@@N@@
open Jvm Jvm.ClassFile Sem Op Lib Jvm.Free Jvm.Stand Jvm.Pilot.@@N@@.Jvm.D
/-! MADE BY PROGRAM (witnessworld.py) out of the Statement's table words and the real class files: 9 classes; the members and pool entries that the words name. The judged class is class 1, her method 2. -/
namespace start1
open Jvm.ClassFile
def u (s : String) : CpInfo := .utf8 (stringToUtf16 s)
/-- a pool by its gaps: so many unusable entries, then the entry; so many at the end -/
def gap : Nat → List CpInfo → List CpInfo
  | 0, r => r
  | n + 1, r => .unusable :: gap n r
def poolList (es : List (Nat × CpInfo)) (last : Nat) : List CpInfo := es.foldr (fun e r => gap e.1 (e.2 :: r)) (gap last [])
def pool (es : List (Nat × CpInfo)) (last : Nat) : Array CpInfo := ⟨poolList es last⟩
def fileOf (pool : Array CpInfo) (this : Nat) (attrs : Array Attribute := #[]) (ms : Array MethodInfo := #[]) (fl : Nat := 33) (sup : Nat := 0) (ifs : Array Nat := #[]) (fds : Array FieldInfo := #[]) : ClassFile where
  minorVersion := 0
  majorVersion := 65
  constantPool := pool
  accessFlags := fl
  thisClass := this
  superClass := sup
  interfaces := ifs
  fields := fds
  methods := ms
  attributes := attrs
def plain (name : String) (sup : Option ClassId) : Class where
  name := name
  kind := .ordinary
  loader := none
  accessFlags := 33
  super := sup
  interfaces := #[]
  cf := none
  fields := #[]
  methods := #[]
  instanceTypes := #[]
  staticTypes := #[]
  resolved := #[]
  callSites := []
  init := .initialized
  statics := none
  mirror := none

def pool0 : Array CpInfo := pool [(5, u "<init>"), (0, u "()V"), (1, .class_ 10), (1, u "java/lang/Object")] 113

def k0c0 : Code := { maxStack := 0, maxLocals := 1, code := object_method_1_code, exceptionTable := #[], attributes := #[] }
def k0m0 : Method := { name := "<init>", desc := "()V", sig := { parameters := [], returnType := none }, accessFlags := 1, code := some k0c0 }
/-- java/lang/Object -/
def k0 : Class := { plain "java/lang/Object" none with
  accessFlags := 33
  interfaces := #[]
  cf := some (fileOf pool0 8 #[] #[{ accessFlags := 1, nameIndex := 5, descriptorIndex := 6, attributes := #[] }] 33 0 #[] #[])
  fields := #[]
  methods := #[k0m0]
  instanceTypes := #[]
  staticTypes := #[]
  resolved := Array.replicate 124 none
  statics := none }

def pool1 : Array CpInfo := pool [(2, .class_ 4), (1, u "java/lang/Object"), (0, u "<init>"), (0, u "()V"), (0, .class_ 8), (0, u "com/example/offset/offset/group/HeldBytes"), (0, .methodref 7 10), (0, .nameAndType 5 11), (0, u "(J)V"), (0, .methodref 13 14), (0, .class_ 15), (0, .nameAndType 16 17), (0, u "com/example/offset/offset/group/HeldBytesTakePinLaw"), (0, u "fits"), (0, u "(JJJ)Z"), (0, .methodref 7 19), (0, .nameAndType 20 21), (0, u "take"), (0, u "(J)Z"), (0, .long 3), (1, .long 2), (1, .long 18446744073709551615), (4, u "law"), (0, u "(JJJJ)Z")] 2

def k1m0 : Method := { name := "<init>", desc := "()V", sig := { parameters := [], returnType := none }, accessFlags := 2, code := none }
def k1c1 : Code := { maxStack := 6, maxLocals := 6, code := method_2_code, exceptionTable := #[], attributes := #[] }
def k1m1 : Method := { name := "fits", desc := "(JJJ)Z", sig := { parameters := [.long, .long, .long], returnType := some .boolean }, accessFlags := 10, code := some k1c1 }
def k1c2 : Code := { maxStack := 6, maxLocals := 24, code := code, exceptionTable := #[], attributes := #[] }
def k1m2 : Method := { name := "law", desc := "(JJJJ)Z", sig := { parameters := [.long, .long, .long, .long], returnType := some .boolean }, accessFlags := 9, code := some k1c2 }
/-- com/example/offset/offset/group/HeldBytesTakePinLaw -/
def k1 : Class := { plain "com/example/offset/offset/group/HeldBytesTakePinLaw" (some 0) with
  accessFlags := 49
  interfaces := #[]
  cf := some (fileOf pool1 13 #[] #[{ accessFlags := 2, nameIndex := 5, descriptorIndex := 6, attributes := #[] }, { accessFlags := 10, nameIndex := 16, descriptorIndex := 17, attributes := #[] }, { accessFlags := 9, nameIndex := 31, descriptorIndex := 32, attributes := #[] }] 49 2 #[] #[])
  fields := #[]
  methods := #[k1m0, k1m1, k1m2]
  instanceTypes := #[]
  staticTypes := #[]
  resolved := Array.replicate 35 none
  statics := none }

def pool2 : Array CpInfo := pool [(1, .methodref 2 3), (0, .class_ 4), (0, .nameAndType 5 6), (0, u "java/lang/Object"), (0, u "<init>"), (0, u "()V"), (0, .fieldref 8 9), (0, .class_ 10), (0, .nameAndType 11 12), (0, u "com/example/offset/offset/group/HeldBytes"), (0, u "limit"), (0, u "J"), (63, .fieldref 8 77), (0, .nameAndType 78 12), (0, u "held"), (7, u "ENTRY_BYTES"), (1, u "PROTOCOL_BYTES"), (0, u "(J)V"), (6, u "take"), (0, u "(J)Z")] 5

def k2c0 : Code := { maxStack := 3, maxLocals := 3, code := prog_42_method_1_code, exceptionTable := #[], attributes := #[] }
def k2m0 : Method := { name := "<init>", desc := "(J)V", sig := { parameters := [.long], returnType := none }, accessFlags := 0, code := some k2c0 }
def k2c1 : Code := { maxStack := 5, maxLocals := 3, code := prog_42_method_4_code, exceptionTable := #[], attributes := #[] }
def k2m1 : Method := { name := "take", desc := "(J)Z", sig := { parameters := [.long], returnType := some .boolean }, accessFlags := 0, code := some k2c1 }
/-- com/example/offset/offset/group/HeldBytes -/
def k2 : Class := { plain "com/example/offset/offset/group/HeldBytes" (some 0) with
  accessFlags := 48
  interfaces := #[]
  cf := some (fileOf pool2 8 #[] #[{ accessFlags := 0, nameIndex := 5, descriptorIndex := 89, attributes := #[] }, { accessFlags := 0, nameIndex := 96, descriptorIndex := 97, attributes := #[] }] 48 2 #[] #[{ accessFlags := 24, nameIndex := 86, descriptorIndex := 12, attributes := #[] }, { accessFlags := 26, nameIndex := 88, descriptorIndex := 12, attributes := #[] }, { accessFlags := 18, nameIndex := 11, descriptorIndex := 12, attributes := #[] }, { accessFlags := 2, nameIndex := 78, descriptorIndex := 12, attributes := #[] }])
  fields := #[{ name := "ENTRY_BYTES", type := .long, accessFlags := 24, slot := 0, constantValue := 0 }, { name := "PROTOCOL_BYTES", type := .long, accessFlags := 26, slot := 1, constantValue := 0 }, { name := "limit", type := .long, accessFlags := 18, slot := 0, constantValue := 0 }, { name := "held", type := .long, accessFlags := 2, slot := 1, constantValue := 0 }]
  methods := #[k2m0, k2m1]
  instanceTypes := #[.long, .long]
  staticTypes := #[.long, .long]
  resolved := Array.replicate 103 none
  statics := none }

def pool3 : Array CpInfo := pool [(1, u "java/lang/Cloneable"), (0, .class_ 1), (0, u "java/lang/Object"), (0, .class_ 3)] 3

/-- java/lang/Cloneable -/
def k3 : Class := { plain "java/lang/Cloneable" (some 0) with
  accessFlags := 1537
  interfaces := #[]
  cf := some (fileOf pool3 2 #[] #[] 1537 4 #[] #[])
  fields := #[]
  methods := #[]
  instanceTypes := #[]
  staticTypes := #[]
  resolved := Array.replicate 8 none
  statics := none }

def pool4 : Array CpInfo := pool [(1, u "java/io/Serializable"), (0, .class_ 1), (0, u "java/lang/Object"), (0, .class_ 3)] 3

/-- java/io/Serializable -/
def k4 : Class := { plain "java/io/Serializable" (some 0) with
  accessFlags := 1537
  interfaces := #[]
  cf := some (fileOf pool4 2 #[] #[] 1537 4 #[] #[])
  fields := #[]
  methods := #[]
  instanceTypes := #[]
  staticTypes := #[]
  resolved := Array.replicate 8 none
  statics := none }

/-- the primitive byte -/
def k5 : Class := { plain "byte" none with kind := .primitive 'B', accessFlags := 0x411 }
/-- [B -/
def k6 : Class := { plain "[B" (some 0) with kind := .array 5 .byte, interfaces := #[3, 4], accessFlags := 1041 }

/-- the primitive int -/
def k7 : Class := { plain "int" none with kind := .primitive 'I', accessFlags := 0x411 }
/-- [I -/
def k8 : Class := { plain "[I" (some 0) with kind := .array 7 .int, interfaces := #[3, 4], accessFlags := 1041 }

def heap : Heap := #[]
def classes : Array Class := #[k0, k1, k2, k3, k4, k5, k6, k7, k8]
def interned : List (Array UInt16 × Addr) := []
def slotsUsed : Nat := 0
def theMethod : MethodId := ⟨1, 2⟩
def args0 : Array Value := #[.long 5, .long 5, .long 5, .long 5]
def aboutOver (below : List Frame) : State where
  vm := { classes := classes, interned := interned.toArray }
  heap := heap
  slotsUsed := slotsUsed
  threads := #[{ frames := .invoking theMethod args0 :: below }]
def below0 : List Frame := [.native { method := ⟨0, 0⟩, args := #[] }]
def about1 : State := aboutOver below0
def p0 : Program := .bare "" "" ""
def e0 : Env := launch0.env 0 0 0
theorem w_frames : about1.frames = Frame.invoking theMethod args0 :: below0 := rfl
set_option maxRecDepth 65536 in
theorem w_args : argsFit about1.vm theMethod args0 = true := by decide +kernel
set_option maxRecDepth 65536 in
theorem w_heap : heapFits about1 = true := by decide +kernel
set_option maxRecDepth 65536 in
theorem w_runnable : about1.curStatus? = some .runnable := by decide +kernel
set_option maxRecDepth 65536 in
theorem w_alone : about1.alone = true := by decide +kernel
set_option maxRecDepth 65536 in
theorem w_named : about1.methodNamed? x = some theMethod := by decide +kernel
set_option maxRecDepth 65536 in
theorem w_hears : about1.hears theMethod below0 = true := by decide +kernel
set_option maxRecDepth 65536 in
theorem w_ripe : about1.ripe theMethod args0 below0 = true := by decide +kernel
theorem w_running : about1.status = .running := rfl
set_option maxRecDepth 65536 in
theorem w_room : about1.hasRoom e0.platform room_1 = true :=
  launch0.hasRoom_least _ room_1 (by decide +kernel) (by decide +kernel) (by decide +kernel) (by decide +kernel) (by decide +kernel) (by decide +kernel)
theorem allAtoms_all (ts : List Jvm.Cond) (a : Array Jvm.Value) (st : Jvm.State) : (allAtoms ts).before a st = ts.all (fun c => c.before a st) := by
  induction ts with
  | nil => rfl
  | cons c t ih =>
    show (Jvm.Cond.and c (allAtoms t)).before a st = _
    rw [Jvm.Cond.before_and, ih, List.all_cons]
def words1 : List Jvm.Cond := Jvm.Cond.code x code maxLocals ret :: tables_1
/-- a 'code' word, met by the world's own term for the bytes: nothing is compared byte by byte -/
theorem code_word {y : MethodName} {bytes : ByteArray} {mx : Nat} {rt : Option FieldType} {a : Array Value} {s : State} {m : MethodId} {meth : Method} {c : Code} (h1 : s.methodNamed? y = some m) (h2 : s.vm.method? m = some meth) (h3 : meth.code = some c) (h4 : c.code = bytes)
    (h5 : (c.maxLocals == mx && c.exceptionTable.isEmpty && decide (c.maxStack ≤ mostOperands) && decide (meth.sig.returnType = rt) && !meth.locks && decide (parseMethodDescriptor y.desc = some meth.sig)) = true) : (Jvm.Cond.code y bytes mx rt).before a s = true := by
  simp only [Bool.and_eq_true, beq_iff_eq, Bool.not_eq_true', decide_eq_true_eq] at h5
  obtain ⟨⟨⟨⟨⟨g1, g2⟩, g3⟩, g4⟩, g5⟩, g6⟩ := h5
  simp [Cond.before, Cond.holds, Cond.value, h1, h2, h3, h4, g1, g2, g3, g4, g5, g6]
def isCode : Jvm.Cond → Bool
  | .code _ _ _ _ => true
  | _ => false
theorem all_split {L : List Jvm.Cond} {P : Jvm.Cond → Bool} (h1 : L.all (fun c => isCode c || P c) = true) (h2 : ∀ c ∈ L.filter isCode, P c = true) : L.all P = true := by
  refine List.all_eq_true.mpr fun c hc => ?_
  have h := List.all_eq_true.mp h1 c hc
  rcases Bool.eq_false_or_eq_true (isCode c) with hi | hi
  · exact h2 c (List.mem_filter.mpr ⟨hc, hi⟩)
  · simpa [hi] using h
set_option maxRecDepth 65536 in
theorem w_c0 : (Jvm.Cond.code x code maxLocals ret).before args0 about1 = true := code_word (m := ⟨1, 2⟩) (meth := k1m2) (c := k1c2) (by decide +kernel) rfl rfl rfl (by decide +kernel)
set_option maxRecDepth 65536 in
theorem w_c1 : (Jvm.Cond.code ({ cls := "com/example/offset/offset/group/HeldBytes", name := "<init>", desc := "(J)V" } : Jvm.MethodName) prog_42_method_1_code (3 : Nat) (Option.none : Option Jvm.ClassFile.FieldType)).before args0 about1 = true := code_word (m := ⟨2, 0⟩) (meth := k2m0) (c := k2c0) (by decide +kernel) rfl rfl rfl (by decide +kernel)
set_option maxRecDepth 65536 in
theorem w_c2 : (Jvm.Cond.code ({ cls := "java/lang/Object", name := "<init>", desc := "()V" } : Jvm.MethodName) object_method_1_code (1 : Nat) (Option.none : Option Jvm.ClassFile.FieldType)).before args0 about1 = true := code_word (m := ⟨0, 0⟩) (meth := k0m0) (c := k0c0) (by decide +kernel) rfl rfl rfl (by decide +kernel)
set_option maxRecDepth 65536 in
theorem w_c3 : (Jvm.Cond.code ({ cls := "com/example/offset/offset/group/HeldBytesTakePinLaw", name := "fits", desc := "(JJJ)Z" } : Jvm.MethodName) method_2_code (6 : Nat) (Option.some Jvm.ClassFile.FieldType.boolean)).before args0 about1 = true := code_word (m := ⟨1, 1⟩) (meth := k1m1) (c := k1c1) (by decide +kernel) rfl rfl rfl (by decide +kernel)
set_option maxRecDepth 65536 in
theorem w_c4 : (Jvm.Cond.code ({ cls := "com/example/offset/offset/group/HeldBytes", name := "take", desc := "(J)Z" } : Jvm.MethodName) prog_42_method_4_code (3 : Nat) (Option.some Jvm.ClassFile.FieldType.boolean)).before args0 about1 = true := code_word (m := ⟨2, 1⟩) (meth := k2m1) (c := k2c1) (by decide +kernel) rfl rfl rfl (by decide +kernel)
def codes1 : List Jvm.Cond := [Jvm.Cond.code x code maxLocals ret, Jvm.Cond.code ({ cls := "com/example/offset/offset/group/HeldBytes", name := "<init>", desc := "(J)V" } : Jvm.MethodName) prog_42_method_1_code (3 : Nat) (Option.none : Option Jvm.ClassFile.FieldType), Jvm.Cond.code ({ cls := "java/lang/Object", name := "<init>", desc := "()V" } : Jvm.MethodName) object_method_1_code (1 : Nat) (Option.none : Option Jvm.ClassFile.FieldType), Jvm.Cond.code ({ cls := "com/example/offset/offset/group/HeldBytesTakePinLaw", name := "fits", desc := "(JJJ)Z" } : Jvm.MethodName) method_2_code (6 : Nat) (Option.some Jvm.ClassFile.FieldType.boolean), Jvm.Cond.code ({ cls := "com/example/offset/offset/group/HeldBytes", name := "take", desc := "(J)Z" } : Jvm.MethodName) prog_42_method_4_code (3 : Nat) (Option.some Jvm.ClassFile.FieldType.boolean)]
set_option maxRecDepth 65536 in
theorem codes_eq : words1.filter isCode = codes1 := rfl
theorem w_codes : ∀ c ∈ words1.filter isCode, c.before args0 about1 = true := by
  rw [codes_eq]
  intro c hc
  simp only [codes1, List.mem_cons, List.not_mem_nil, or_false] at hc
  rcases hc with rfl | rfl | rfl | rfl | rfl
  · exact w_c0
  · exact w_c1
  · exact w_c2
  · exact w_c3
  · exact w_c4
set_option maxRecDepth 65536 in
theorem w_t1 : (words1.take 24).all (fun c => isCode c || c.before args0 about1) = true := by decide +kernel
set_option maxRecDepth 65536 in
theorem w_t2 : (words1.drop 24).all (fun c => isCode c || c.before args0 about1) = true := by decide +kernel
theorem w_tables : (allAtoms (Jvm.Cond.code x code maxLocals ret :: tables_1)).before args0 about1 = true := by
  rw [allAtoms_all]
  show words1.all (fun c => c.before args0 about1) = true
  refine all_split ?_ w_codes
  rw [← List.take_append_drop 24 words1, List.all_append, w_t1, w_t2]
  rfl
set_option maxRecDepth 65536 in
theorem w_case : (Jvm.Cond.and given_1 narrow_1).before args0 about1 = true := by decide +kernel
theorem w_applies : (headSpec (Jvm.Cond.code x code maxLocals ret :: tables_1) room_1).applies x e0.platform about1 = true :=
  (Spec.applies_iff w_frames).mpr ⟨w_running, w_runnable, w_alone, w_named, w_hears, w_ripe, w_room, w_tables⟩
theorem atStart : AtStart classFile x code maxLocals ret World_1 tables_1 room_1 Calls_1 rest_1 Pre_1 launch0 p0 e0 about1 theMethod args0 below0 :=
  ⟨lists_1, trivial, launch0.admits_env _ _ _, launch0.least_env, fairChoices_fair.cas, fairChoices_fair.clock, w_frames, w_args, w_heap, w_applies, trivial, trivial, w_case⟩
end start1
theorem witness_1 : WitnessClaimed_1 := ⟨start1.p0, start1.e0, start1.about1, start1.theMethod, start1.args0, start1.below0, start1.atStart⟩
end Jvm.Pilot.@@N@@
