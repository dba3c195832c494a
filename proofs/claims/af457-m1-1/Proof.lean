import JvmDerived
import JvmDerived.Pilot.@@N@@Statement
import JvmDerived.Pilot.@@N@@Code
set_option linter.unusedVariables false
set_option linter.unusedSimpArgs false
namespace Jvm.Pilot.@@N@@
open Jvm Jvm.ClassFile Sem Op Lib Jvm.Free Jvm.Stand Jvm.LawKit Jvm.RoadKit Bundle Jvm.Pilot.@@N@@.Jvm.D
/-- Java's shifts -/
def shlI (x y : Int32) : Int32 := x <<< (y &&& 31)
def shrI (x y : Int32) : Int32 := x >>> (y &&& 31)
def ushrI (x y : Int32) : Int32 := (x.toUInt32 >>> (y &&& 31).toUInt32).toInt32
def shlJ (x : Int64) (y : Int32) : Int64 := x <<< (y &&& 0x3f).toInt64
def shrJ (x : Int64) (y : Int32) : Int64 := x >>> (y &&& 0x3f).toInt64
def ushrJ (x : Int64) (y : Int32) : Int64 := (x.toUInt64 >>> (y &&& 0x3f).toInt64.toUInt64).toInt64
section Kit
variable {p : Program} {l : Launch} {e : Env} {R : Room} {s : State} {m : MethodId} {args : Array Value} {below : List Frame} {meth : Method} {c : ClassFile.Code} {Z : State} {a0 : Array Value} {n0 : Nat} {Q : Option Value → Heap → Prop} {K N : Nat} {h : Heap} {k n : Nat} {own : String} {bytes : ByteArray} {maxl : Nat} {ret : Option FieldType} {nm : String} {pc pc' pc1 pct : Nat} {Ls : Array Slot} {st : List Value}
/-- the run from T0 comes back with a value and a heap of which Q holds, having written nothing below n0 -/
def Ends (p : Program) (e : Env) (below : List Frame) (s : State) (n0 : Nat) (Q : Option Value → Heap → Prop) (K N : Nat) (T0 : State) : Prop :=
  ∃ t o, Steps p.tables e below T0 t ∧ t.status = .running ∧ Ended t below o ∧ ∃ v L, o = .returned v ∧ (Q v t.heap ∧ Fr n0 L) ∧ FrameEnd s o t L K N
/-- from every state of this invocation whose heap is h and whose top frame is f the run comes back so -/
def Go (p : Program) (l : Launch) (e : Env) (R : Room) (s : State) (m : MethodId) (args : Array Value) (below : List Frame) (meth : Method) (c : ClassFile.Code) (n0 : Nat) (Q : Option Value → Heap → Prop) (K N : Nat) (h : Heap) (k n : Nat) (f : JFrame) : Prop :=
  ∀ T L, Fr n0 L → Stand p l e R s m args below meth c T L k n → T.heap = h → Ends p e below s n0 Q K N (T.setTop f)
/-- what is known of the invocation throughout -/
def Cx (p : Program) (s : State) (m : MethodId) (meth : Method) (c : ClassFile.Code) (Z : State) (n0 : Nat) (own : String) (bytes : ByteArray) (maxl : Nat) (ret : Option FieldType) (nm : String) : Prop :=
  p.tables.exec = Jvm.exec ∧ Z.Warmed39 s.vm ∧ s.vm.findClass own = some m.cls ∧ c.code = bytes ∧ c.maxLocals = maxl ∧ meth.sig.returnType = ret ∧ meth.locks = false ∧ meth.name = nm ∧ n0 ≤ s.heap.size
def In (b : ByteArray) (pc len : Nat) (i : Instr) (pc' : Nat) : Prop := decode b pc = .ok (i, len) ∧ pc' = pc + len
def Jm (b : ByteArray) (pc : Nat) (i : Int → Instr) (pc' pct : Nat) : Prop := ∃ o, decode b pc = .ok (i o, 3) ∧ pc' = pc + 3 ∧ 0 ≤ (pc : Int) + o ∧ ((pc : Int) + o).toNat = pct
theorem g_st {f f' : JFrame} (H : ∀ {T L}, Stand p l e R s m args below meth c T L k n → T.heap = h → ∀ t, Steps p.tables e below (T.setTop f') t → Steps p.tables e below (T.setTop f) t) (G : Go p l e R s m args below meth c n0 Q K N h k n (f')) : Go p l e R s m args below meth c n0 Q K N h k n f := fun T L hL X eT => by
  obtain ⟨t, o, h1, h2⟩ := G T L hL X eT
  exact ⟨t, o, H X eT t h1, h2⟩
theorem g_cast {f f' : JFrame} (q : f = f') (G : Go p l e R s m args below meth c n0 Q K N h k n (f')) : Go p l e R s m args below meth c n0 Q K N h k n f := q ▸ G
theorem g_more {k' n' : Nat} {f : JFrame} (hk : k ≤ k') (hn : n ≤ n') (G : Go p l e R s m args below meth c n0 Q K N h (k') (n') f) : Go p l e R s m args below meth c n0 Q K N h k n f := fun T L hL X eT => G T L hL (X.more hk hn) eT
theorem Stand.up {T : State} {L : List Loc} (X : Stand p l e R s m args below meth c T L k n) : s.heap.size ≤ T.heap.size := by
  exact X.same.2.1
theorem g_iadd (C : Cx p s m meth c Z n0 own bytes maxl ret nm) {x y : Int32} (d : In bytes pc 1 (.iadd) pc') (G : Go p l e R s m args below meth c n0 Q K N h k n (mkF m pc' Ls (.int (x + y) :: st))) : Go p l e R s m args below meth c n0 Q K N h k n (mkF m pc Ls (.int y :: .int x :: st)) := by
  obtain ⟨d, rfl⟩ := d
  exact g_st (fun X _ t kt => XS.iadd X.here C.1 rfl (hb C.2.2.2.1 d) rfl kt) G
theorem g_isub (C : Cx p s m meth c Z n0 own bytes maxl ret nm) {x y : Int32} (d : In bytes pc 1 (.isub) pc') (G : Go p l e R s m args below meth c n0 Q K N h k n (mkF m pc' Ls (.int (x - y) :: st))) : Go p l e R s m args below meth c n0 Q K N h k n (mkF m pc Ls (.int y :: .int x :: st)) := by
  obtain ⟨d, rfl⟩ := d
  exact g_st (fun X _ t kt => XS.isub X.here C.1 rfl (hb C.2.2.2.1 d) rfl kt) G
theorem g_imul (C : Cx p s m meth c Z n0 own bytes maxl ret nm) {x y : Int32} (d : In bytes pc 1 (.imul) pc') (G : Go p l e R s m args below meth c n0 Q K N h k n (mkF m pc' Ls (.int (x * y) :: st))) : Go p l e R s m args below meth c n0 Q K N h k n (mkF m pc Ls (.int y :: .int x :: st)) := by
  obtain ⟨d, rfl⟩ := d
  exact g_st (fun X _ t kt => XS.imul X.here C.1 rfl (hb C.2.2.2.1 d) rfl kt) G
theorem g_iand (C : Cx p s m meth c Z n0 own bytes maxl ret nm) {x y : Int32} (d : In bytes pc 1 (.iand) pc') (G : Go p l e R s m args below meth c n0 Q K N h k n (mkF m pc' Ls (.int (x &&& y) :: st))) : Go p l e R s m args below meth c n0 Q K N h k n (mkF m pc Ls (.int y :: .int x :: st)) := by
  obtain ⟨d, rfl⟩ := d
  exact g_st (fun X _ t kt => XS.iand X.here C.1 rfl (hb C.2.2.2.1 d) rfl kt) G
theorem g_ior (C : Cx p s m meth c Z n0 own bytes maxl ret nm) {x y : Int32} (d : In bytes pc 1 (.ior) pc') (G : Go p l e R s m args below meth c n0 Q K N h k n (mkF m pc' Ls (.int (x ||| y) :: st))) : Go p l e R s m args below meth c n0 Q K N h k n (mkF m pc Ls (.int y :: .int x :: st)) := by
  obtain ⟨d, rfl⟩ := d
  exact g_st (fun X _ t kt => XS.ior X.here C.1 rfl (hb C.2.2.2.1 d) rfl kt) G
theorem g_ixor (C : Cx p s m meth c Z n0 own bytes maxl ret nm) {x y : Int32} (d : In bytes pc 1 (.ixor) pc') (G : Go p l e R s m args below meth c n0 Q K N h k n (mkF m pc' Ls (.int (x ^^^ y) :: st))) : Go p l e R s m args below meth c n0 Q K N h k n (mkF m pc Ls (.int y :: .int x :: st)) := by
  obtain ⟨d, rfl⟩ := d
  exact g_st (fun X _ t kt => XS.ixor X.here C.1 rfl (hb C.2.2.2.1 d) rfl kt) G
theorem g_idiv (C : Cx p s m meth c Z n0 own bytes maxl ret nm) {x y : Int32} (d : In bytes pc 1 (.idiv) pc') (hy : y ≠ 0) (G : Go p l e R s m args below meth c n0 Q K N h k n (mkF m pc' Ls (.int (x / y) :: st))) : Go p l e R s m args below meth c n0 Q K N h k n (mkF m pc Ls (.int y :: .int x :: st)) := by
  obtain ⟨d, rfl⟩ := d
  exact g_st (fun X _ t kt => XS.idiv X.here C.1 rfl (hb C.2.2.2.1 d) rfl hy kt) G
theorem g_irem (C : Cx p s m meth c Z n0 own bytes maxl ret nm) {x y : Int32} (d : In bytes pc 1 (.irem) pc') (hy : y ≠ 0) (G : Go p l e R s m args below meth c n0 Q K N h k n (mkF m pc' Ls (.int (x - (x / y) * y) :: st))) : Go p l e R s m args below meth c n0 Q K N h k n (mkF m pc Ls (.int y :: .int x :: st)) := by
  obtain ⟨d, rfl⟩ := d
  exact g_st (fun X _ t kt => XS.irem X.here C.1 rfl (hb C.2.2.2.1 d) rfl hy kt) G
theorem g_iload (C : Cx p s m meth c Z n0 own bytes maxl ret nm) {i : Nat} {v : Int32} (d : In bytes pc 2 (.iload i) pc') (hl : Ls[i]? = some (.val (.int v))) (G : Go p l e R s m args below meth c n0 Q K N h k n (mkF m pc' Ls (.int v :: st))) : Go p l e R s m args below meth c n0 Q K N h k n (mkF m pc Ls st) := by
  obtain ⟨d, rfl⟩ := d
  exact g_st (fun X _ t kt => XS.iload X.here C.1 rfl (hb C.2.2.2.1 d) hl kt) G
theorem g_iloadN (C : Cx p s m meth c Z n0 own bytes maxl ret nm) {i : Fin 4} {v : Int32} (d : In bytes pc 1 (.iload_n i) pc') (hl : Ls[i.val]? = some (.val (.int v))) (G : Go p l e R s m args below meth c n0 Q K N h k n (mkF m pc' Ls (.int v :: st))) : Go p l e R s m args below meth c n0 Q K N h k n (mkF m pc Ls st) := by
  obtain ⟨d, rfl⟩ := d
  exact g_st (fun X _ t kt => XS.iloadN X.here C.1 rfl (hb C.2.2.2.1 d) hl kt) G
theorem g_istore (C : Cx p s m meth c Z n0 own bytes maxl ret nm) {i : Nat} {x : Int32} (l' : Array Slot) (d : In bytes pc 2 (.istore i) pc') (hl : storeLocals Ls i (.int x) = some l') (G : Go p l e R s m args below meth c n0 Q K N h k n (mkF m pc' l' st)) : Go p l e R s m args below meth c n0 Q K N h k n (mkF m pc Ls (.int x :: st)) := by
  obtain ⟨d, rfl⟩ := d
  exact g_st (fun X _ t kt => XS.istore X.here C.1 rfl (hb C.2.2.2.1 d) rfl hl kt) G
theorem g_istoreN (C : Cx p s m meth c Z n0 own bytes maxl ret nm) {i : Fin 4} {x : Int32} (l' : Array Slot) (d : In bytes pc 1 (.istore_n i) pc') (hl : storeLocals Ls i.val (.int x) = some l') (G : Go p l e R s m args below meth c n0 Q K N h k n (mkF m pc' l' st)) : Go p l e R s m args below meth c n0 Q K N h k n (mkF m pc Ls (.int x :: st)) := by
  obtain ⟨d, rfl⟩ := d
  exact g_st (fun X _ t kt => XS.istoreN X.here C.1 rfl (hb C.2.2.2.1 d) rfl hl kt) G
theorem g_ladd (C : Cx p s m meth c Z n0 own bytes maxl ret nm) {x y : Int64} (d : In bytes pc 1 (.ladd) pc') (G : Go p l e R s m args below meth c n0 Q K N h k n (mkF m pc' Ls (.long (x + y) :: st))) : Go p l e R s m args below meth c n0 Q K N h k n (mkF m pc Ls (.long y :: .long x :: st)) := by
  obtain ⟨d, rfl⟩ := d
  exact g_st (fun X _ t kt => XS.ladd X.here C.1 rfl (hb C.2.2.2.1 d) rfl kt) G
theorem g_lsub (C : Cx p s m meth c Z n0 own bytes maxl ret nm) {x y : Int64} (d : In bytes pc 1 (.lsub) pc') (G : Go p l e R s m args below meth c n0 Q K N h k n (mkF m pc' Ls (.long (x - y) :: st))) : Go p l e R s m args below meth c n0 Q K N h k n (mkF m pc Ls (.long y :: .long x :: st)) := by
  obtain ⟨d, rfl⟩ := d
  exact g_st (fun X _ t kt => XS.lsub X.here C.1 rfl (hb C.2.2.2.1 d) rfl kt) G
theorem g_lmul (C : Cx p s m meth c Z n0 own bytes maxl ret nm) {x y : Int64} (d : In bytes pc 1 (.lmul) pc') (G : Go p l e R s m args below meth c n0 Q K N h k n (mkF m pc' Ls (.long (x * y) :: st))) : Go p l e R s m args below meth c n0 Q K N h k n (mkF m pc Ls (.long y :: .long x :: st)) := by
  obtain ⟨d, rfl⟩ := d
  exact g_st (fun X _ t kt => XS.lmul X.here C.1 rfl (hb C.2.2.2.1 d) rfl kt) G
theorem g_land (C : Cx p s m meth c Z n0 own bytes maxl ret nm) {x y : Int64} (d : In bytes pc 1 (.land) pc') (G : Go p l e R s m args below meth c n0 Q K N h k n (mkF m pc' Ls (.long (x &&& y) :: st))) : Go p l e R s m args below meth c n0 Q K N h k n (mkF m pc Ls (.long y :: .long x :: st)) := by
  obtain ⟨d, rfl⟩ := d
  exact g_st (fun X _ t kt => XS.land X.here C.1 rfl (hb C.2.2.2.1 d) rfl kt) G
theorem g_lor (C : Cx p s m meth c Z n0 own bytes maxl ret nm) {x y : Int64} (d : In bytes pc 1 (.lor) pc') (G : Go p l e R s m args below meth c n0 Q K N h k n (mkF m pc' Ls (.long (x ||| y) :: st))) : Go p l e R s m args below meth c n0 Q K N h k n (mkF m pc Ls (.long y :: .long x :: st)) := by
  obtain ⟨d, rfl⟩ := d
  exact g_st (fun X _ t kt => XS.lor X.here C.1 rfl (hb C.2.2.2.1 d) rfl kt) G
theorem g_lxor (C : Cx p s m meth c Z n0 own bytes maxl ret nm) {x y : Int64} (d : In bytes pc 1 (.lxor) pc') (G : Go p l e R s m args below meth c n0 Q K N h k n (mkF m pc' Ls (.long (x ^^^ y) :: st))) : Go p l e R s m args below meth c n0 Q K N h k n (mkF m pc Ls (.long y :: .long x :: st)) := by
  obtain ⟨d, rfl⟩ := d
  exact g_st (fun X _ t kt => XS.lxor X.here C.1 rfl (hb C.2.2.2.1 d) rfl kt) G
theorem g_ldiv (C : Cx p s m meth c Z n0 own bytes maxl ret nm) {x y : Int64} (d : In bytes pc 1 (.ldiv) pc') (hy : y ≠ 0) (G : Go p l e R s m args below meth c n0 Q K N h k n (mkF m pc' Ls (.long (x / y) :: st))) : Go p l e R s m args below meth c n0 Q K N h k n (mkF m pc Ls (.long y :: .long x :: st)) := by
  obtain ⟨d, rfl⟩ := d
  exact g_st (fun X _ t kt => XS.ldiv X.here C.1 rfl (hb C.2.2.2.1 d) rfl hy kt) G
theorem g_lrem (C : Cx p s m meth c Z n0 own bytes maxl ret nm) {x y : Int64} (d : In bytes pc 1 (.lrem) pc') (hy : y ≠ 0) (G : Go p l e R s m args below meth c n0 Q K N h k n (mkF m pc' Ls (.long (x - (x / y) * y) :: st))) : Go p l e R s m args below meth c n0 Q K N h k n (mkF m pc Ls (.long y :: .long x :: st)) := by
  obtain ⟨d, rfl⟩ := d
  exact g_st (fun X _ t kt => XS.lrem X.here C.1 rfl (hb C.2.2.2.1 d) rfl hy kt) G
theorem g_lload (C : Cx p s m meth c Z n0 own bytes maxl ret nm) {i : Nat} {v : Int64} (d : In bytes pc 2 (.lload i) pc') (hl : Ls[i]? = some (.val (.long v))) (G : Go p l e R s m args below meth c n0 Q K N h k n (mkF m pc' Ls (.long v :: st))) : Go p l e R s m args below meth c n0 Q K N h k n (mkF m pc Ls st) := by
  obtain ⟨d, rfl⟩ := d
  exact g_st (fun X _ t kt => XS.lload X.here C.1 rfl (hb C.2.2.2.1 d) hl kt) G
theorem g_lloadN (C : Cx p s m meth c Z n0 own bytes maxl ret nm) {i : Fin 4} {v : Int64} (d : In bytes pc 1 (.lload_n i) pc') (hl : Ls[i.val]? = some (.val (.long v))) (G : Go p l e R s m args below meth c n0 Q K N h k n (mkF m pc' Ls (.long v :: st))) : Go p l e R s m args below meth c n0 Q K N h k n (mkF m pc Ls st) := by
  obtain ⟨d, rfl⟩ := d
  exact g_st (fun X _ t kt => XS.lloadN X.here C.1 rfl (hb C.2.2.2.1 d) hl kt) G
theorem g_lstore (C : Cx p s m meth c Z n0 own bytes maxl ret nm) {i : Nat} {x : Int64} (l' : Array Slot) (d : In bytes pc 2 (.lstore i) pc') (hl : storeLocals Ls i (.long x) = some l') (G : Go p l e R s m args below meth c n0 Q K N h k n (mkF m pc' l' st)) : Go p l e R s m args below meth c n0 Q K N h k n (mkF m pc Ls (.long x :: st)) := by
  obtain ⟨d, rfl⟩ := d
  exact g_st (fun X _ t kt => XS.lstore X.here C.1 rfl (hb C.2.2.2.1 d) rfl hl kt) G
theorem g_lstoreN (C : Cx p s m meth c Z n0 own bytes maxl ret nm) {i : Fin 4} {x : Int64} (l' : Array Slot) (d : In bytes pc 1 (.lstore_n i) pc') (hl : storeLocals Ls i.val (.long x) = some l') (G : Go p l e R s m args below meth c n0 Q K N h k n (mkF m pc' l' st)) : Go p l e R s m args below meth c n0 Q K N h k n (mkF m pc Ls (.long x :: st)) := by
  obtain ⟨d, rfl⟩ := d
  exact g_st (fun X _ t kt => XS.lstoreN X.here C.1 rfl (hb C.2.2.2.1 d) rfl hl kt) G
theorem g_aload (C : Cx p s m meth c Z n0 own bytes maxl ret nm) {i : Nat} {v : Value} (d : In bytes pc 2 (.aload i) pc') (hl : Ls[i]? = some (.val v)) (hv : v.isRef = true) (G : Go p l e R s m args below meth c n0 Q K N h k n (mkF m pc' Ls (v :: st))) : Go p l e R s m args below meth c n0 Q K N h k n (mkF m pc Ls st) := by
  obtain ⟨d, rfl⟩ := d
  exact g_st (fun X _ t kt => XS.aload X.here C.1 rfl (hb C.2.2.2.1 d) hl hv kt) G
theorem g_astore (C : Cx p s m meth c Z n0 own bytes maxl ret nm) {i : Nat} {x : Value} (l' : Array Slot) (d : In bytes pc 2 (.astore i) pc') (hv : x.isRef = true) (hl : storeLocals Ls i x = some l') (G : Go p l e R s m args below meth c n0 Q K N h k n (mkF m pc' l' st)) : Go p l e R s m args below meth c n0 Q K N h k n (mkF m pc Ls (x :: st)) := by
  obtain ⟨d, rfl⟩ := d
  exact g_st (fun X _ t kt => XS.astore X.here C.1 rfl (hb C.2.2.2.1 d) rfl hv hl kt) G
theorem g_aloadN (C : Cx p s m meth c Z n0 own bytes maxl ret nm) {i : Fin 4} {v : Value} (d : In bytes pc 1 (.aload_n i) pc') (hl : Ls[i.val]? = some (.val v)) (hv : v.isRef = true) (G : Go p l e R s m args below meth c n0 Q K N h k n (mkF m pc' Ls (v :: st))) : Go p l e R s m args below meth c n0 Q K N h k n (mkF m pc Ls st) := by
  obtain ⟨d, rfl⟩ := d
  exact g_st (fun X _ t kt => XS.aloadN X.here C.1 rfl (hb C.2.2.2.1 d) hl hv kt) G
theorem g_astoreN (C : Cx p s m meth c Z n0 own bytes maxl ret nm) {i : Fin 4} {x : Value} (l' : Array Slot) (d : In bytes pc 1 (.astore_n i) pc') (hv : x.isRef = true) (hl : storeLocals Ls i.val x = some l') (G : Go p l e R s m args below meth c n0 Q K N h k n (mkF m pc' l' st)) : Go p l e R s m args below meth c n0 Q K N h k n (mkF m pc Ls (x :: st)) := by
  obtain ⟨d, rfl⟩ := d
  exact g_st (fun X _ t kt => XS.astoreN X.here C.1 rfl (hb C.2.2.2.1 d) rfl hv hl kt) G
theorem g_ishl (C : Cx p s m meth c Z n0 own bytes maxl ret nm) {x y : Int32} (d : In bytes pc 1 (.ishl) pc') (G : Go p l e R s m args below meth c n0 Q K N h k n (mkF m pc' Ls (.int (shlI x y) :: st))) : Go p l e R s m args below meth c n0 Q K N h k n (mkF m pc Ls (.int y :: .int x :: st)) := by
  obtain ⟨d, rfl⟩ := d
  exact g_st (fun X _ t kt => XS.ishl X.here C.1 rfl (hb C.2.2.2.1 d) rfl kt) G
theorem g_ishr (C : Cx p s m meth c Z n0 own bytes maxl ret nm) {x y : Int32} (d : In bytes pc 1 (.ishr) pc') (G : Go p l e R s m args below meth c n0 Q K N h k n (mkF m pc' Ls (.int (shrI x y) :: st))) : Go p l e R s m args below meth c n0 Q K N h k n (mkF m pc Ls (.int y :: .int x :: st)) := by
  obtain ⟨d, rfl⟩ := d
  exact g_st (fun X _ t kt => XS.ishr X.here C.1 rfl (hb C.2.2.2.1 d) rfl kt) G
theorem g_iushr (C : Cx p s m meth c Z n0 own bytes maxl ret nm) {x y : Int32} (d : In bytes pc 1 (.iushr) pc') (G : Go p l e R s m args below meth c n0 Q K N h k n (mkF m pc' Ls (.int (ushrI x y) :: st))) : Go p l e R s m args below meth c n0 Q K N h k n (mkF m pc Ls (.int y :: .int x :: st)) := by
  obtain ⟨d, rfl⟩ := d
  exact g_st (fun X _ t kt => XS.iushr X.here C.1 rfl (hb C.2.2.2.1 d) rfl kt) G
theorem g_lshl (C : Cx p s m meth c Z n0 own bytes maxl ret nm) {x : Int64} {y : Int32} (d : In bytes pc 1 (.lshl) pc') (G : Go p l e R s m args below meth c n0 Q K N h k n (mkF m pc' Ls (.long (shlJ x y) :: st))) : Go p l e R s m args below meth c n0 Q K N h k n (mkF m pc Ls (.int y :: .long x :: st)) := by
  obtain ⟨d, rfl⟩ := d
  exact g_st (fun X _ t kt => XS.lshl X.here C.1 rfl (hb C.2.2.2.1 d) rfl kt) G
theorem g_lshr (C : Cx p s m meth c Z n0 own bytes maxl ret nm) {x : Int64} {y : Int32} (d : In bytes pc 1 (.lshr) pc') (G : Go p l e R s m args below meth c n0 Q K N h k n (mkF m pc' Ls (.long (shrJ x y) :: st))) : Go p l e R s m args below meth c n0 Q K N h k n (mkF m pc Ls (.int y :: .long x :: st)) := by
  obtain ⟨d, rfl⟩ := d
  exact g_st (fun X _ t kt => XS.lshr X.here C.1 rfl (hb C.2.2.2.1 d) rfl kt) G
theorem g_lushr (C : Cx p s m meth c Z n0 own bytes maxl ret nm) {x : Int64} {y : Int32} (d : In bytes pc 1 (.lushr) pc') (G : Go p l e R s m args below meth c n0 Q K N h k n (mkF m pc' Ls (.long (ushrJ x y) :: st))) : Go p l e R s m args below meth c n0 Q K N h k n (mkF m pc Ls (.int y :: .long x :: st)) := by
  obtain ⟨d, rfl⟩ := d
  exact g_st (fun X _ t kt => XS.lushr X.here C.1 rfl (hb C.2.2.2.1 d) rfl kt) G
theorem g_i2l (C : Cx p s m meth c Z n0 own bytes maxl ret nm) {x : Int32} (d : In bytes pc 1 (.i2l) pc') (G : Go p l e R s m args below meth c n0 Q K N h k n (mkF m pc' Ls (.long x.toInt64 :: st))) : Go p l e R s m args below meth c n0 Q K N h k n (mkF m pc Ls (.int x :: st)) := by
  obtain ⟨d, rfl⟩ := d
  exact g_st (fun X _ t kt => XS.i2l X.here C.1 rfl (hb C.2.2.2.1 d) rfl kt) G
theorem g_l2i (C : Cx p s m meth c Z n0 own bytes maxl ret nm) {x : Int64} (d : In bytes pc 1 (.l2i) pc') (G : Go p l e R s m args below meth c n0 Q K N h k n (mkF m pc' Ls (.int x.toInt32 :: st))) : Go p l e R s m args below meth c n0 Q K N h k n (mkF m pc Ls (.long x :: st)) := by
  obtain ⟨d, rfl⟩ := d
  exact g_st (fun X _ t kt => XS.l2i X.here C.1 rfl (hb C.2.2.2.1 d) rfl kt) G
theorem g_i2b (C : Cx p s m meth c Z n0 own bytes maxl ret nm) {x : Int32} (d : In bytes pc 1 (.i2b) pc') (G : Go p l e R s m args below meth c n0 Q K N h k n (mkF m pc' Ls (.int x.toInt8.toInt32 :: st))) : Go p l e R s m args below meth c n0 Q K N h k n (mkF m pc Ls (.int x :: st)) := by
  obtain ⟨d, rfl⟩ := d
  exact g_st (fun X _ t kt => XS.i2b X.here C.1 rfl (hb C.2.2.2.1 d) rfl kt) G
theorem g_ineg (C : Cx p s m meth c Z n0 own bytes maxl ret nm) {x : Int32} (d : In bytes pc 1 (.ineg) pc') (G : Go p l e R s m args below meth c n0 Q K N h k n (mkF m pc' Ls (.int (-x) :: st))) : Go p l e R s m args below meth c n0 Q K N h k n (mkF m pc Ls (.int x :: st)) := by
  obtain ⟨d, rfl⟩ := d
  exact g_st (fun X _ t kt => XS.ineg X.here C.1 rfl (hb C.2.2.2.1 d) rfl kt) G
theorem g_lneg (C : Cx p s m meth c Z n0 own bytes maxl ret nm) {x : Int64} (d : In bytes pc 1 (.lneg) pc') (G : Go p l e R s m args below meth c n0 Q K N h k n (mkF m pc' Ls (.long (-x) :: st))) : Go p l e R s m args below meth c n0 Q K N h k n (mkF m pc Ls (.long x :: st)) := by
  obtain ⟨d, rfl⟩ := d
  exact g_st (fun X _ t kt => XS.lneg X.here C.1 rfl (hb C.2.2.2.1 d) rfl kt) G
theorem g_iconst (C : Cx p s m meth c Z n0 own bytes maxl ret nm) {i : Int} (v : Int32) (hv : Int32.ofInt i = v) (d : In bytes pc 1 (.iconst i) pc') (G : Go p l e R s m args below meth c n0 Q K N h k n (mkF m pc' Ls (.int v :: st))) : Go p l e R s m args below meth c n0 Q K N h k n (mkF m pc Ls st) := by
  obtain ⟨d, rfl⟩ := d
  exact g_st (fun X _ t kt => XS.iconst X.here C.1 rfl (hb C.2.2.2.1 d) (hv ▸ kt)) G
theorem g_bipush (C : Cx p s m meth c Z n0 own bytes maxl ret nm) {i : Int} (v : Int32) (hv : (Int8.ofInt i).toInt32 = v) (d : In bytes pc 2 (.bipush i) pc') (G : Go p l e R s m args below meth c n0 Q K N h k n (mkF m pc' Ls (.int v :: st))) : Go p l e R s m args below meth c n0 Q K N h k n (mkF m pc Ls st) := by
  obtain ⟨d, rfl⟩ := d
  exact g_st (fun X _ t kt => XS.bipush X.here C.1 rfl (hb C.2.2.2.1 d) (hv ▸ kt)) G
theorem g_sipush (C : Cx p s m meth c Z n0 own bytes maxl ret nm) {i : Int} (v : Int32) (hv : (Int16.ofInt i).toInt32 = v) (d : In bytes pc 3 (.sipush i) pc') (G : Go p l e R s m args below meth c n0 Q K N h k n (mkF m pc' Ls (.int v :: st))) : Go p l e R s m args below meth c n0 Q K N h k n (mkF m pc Ls st) := by
  obtain ⟨d, rfl⟩ := d
  exact g_st (fun X _ t kt => XS.sipush X.here C.1 rfl (hb C.2.2.2.1 d) (hv ▸ kt)) G
theorem g_lconst (C : Cx p s m meth c Z n0 own bytes maxl ret nm) {i : Fin 2} (v : Int64) (hv : Int64.ofNat i = v) (d : In bytes pc 1 (.lconst i) pc') (G : Go p l e R s m args below meth c n0 Q K N h k n (mkF m pc' Ls (.long v :: st))) : Go p l e R s m args below meth c n0 Q K N h k n (mkF m pc Ls st) := by
  obtain ⟨d, rfl⟩ := d
  exact g_st (fun X _ t kt => XS.lconst X.here C.1 rfl (hb C.2.2.2.1 d) (hv ▸ kt)) G
theorem g_aconst (C : Cx p s m meth c Z n0 own bytes maxl ret nm) (d : In bytes pc 1 (.aconst_null) pc') (G : Go p l e R s m args below meth c n0 Q K N h k n (mkF m pc' Ls (.null :: st))) : Go p l e R s m args below meth c n0 Q K N h k n (mkF m pc Ls st) := by
  obtain ⟨d, rfl⟩ := d
  exact g_st (fun X _ t kt => XS.aconstNull X.here C.1 rfl (hb C.2.2.2.1 d) kt) G
theorem g_dup (C : Cx p s m meth c Z n0 own bytes maxl ret nm) {x : Value} (d : In bytes pc 1 (.dup) pc') (hc : x.category = 1) (G : Go p l e R s m args below meth c n0 Q K N h k n (mkF m pc' Ls (x :: x :: st))) : Go p l e R s m args below meth c n0 Q K N h k n (mkF m pc Ls (x :: st)) := by
  obtain ⟨d, rfl⟩ := d
  exact g_st (fun X _ t kt => XS.dup X.here C.1 rfl (hb C.2.2.2.1 d) rfl hc kt) G
theorem g_pop (C : Cx p s m meth c Z n0 own bytes maxl ret nm) {x : Value} (d : In bytes pc 1 (.pop) pc') (hc : x.category = 1) (G : Go p l e R s m args below meth c n0 Q K N h k n (mkF m pc' Ls st)) : Go p l e R s m args below meth c n0 Q K N h k n (mkF m pc Ls (x :: st)) := by
  obtain ⟨d, rfl⟩ := d
  exact g_st (fun X _ t kt => XS.pop X.here C.1 rfl (hb C.2.2.2.1 d) rfl hc kt) G
theorem g_iinc (C : Cx p s m meth c Z n0 own bytes maxl ret nm) {i : Nat} {cst : Int} {x : Int32} (y : Int32) (l' : Array Slot) (d : In bytes pc 3 (.iinc i cst) pc') (hl : Ls[i]? = some (.val (.int x))) (hv : y = x + Int32.ofInt cst) (hl' : storeLocals Ls i (.int y) = some l') (G : Go p l e R s m args below meth c n0 Q K N h k n (mkF m pc' l' st)) : Go p l e R s m args below meth c n0 Q K N h k n (mkF m pc Ls st) := by
  obtain ⟨d, rfl⟩ := d
  exact g_st (fun X _ t kt => XS.iinc X.here C.1 rfl (hb C.2.2.2.1 d) hl (hv ▸ hl') kt) G
theorem g_goto (C : Cx p s m meth c Z n0 own bytes maxl ret nm) (d : Jm bytes pc .goto pc' pct) (G : Go p l e R s m args below meth c n0 Q K N h k n (mkF m pct Ls st)) : Go p l e R s m args below meth c n0 Q K N h k n (mkF m pc Ls st) := by
  obtain ⟨o, d, rfl, h1, h2⟩ := d
  exact g_st (fun X _ t kt => XS.goto X.here C.1 rfl (pc0 := pc) (pc' := pct) rfl (hb C.2.2.2.1 d) h1 h2 kt) G
theorem g_icmp_lt (C : Cx p s m meth c Z n0 own bytes maxl ret nm) (d : Jm bytes pc (.if_icmp .lt) pc' pct) {x y : Int32} (Gt : x < y → Go p l e R s m args below meth c n0 Q K N h k n (mkF m pct Ls st)) (Gf : ¬ (x < y) → Go p l e R s m args below meth c n0 Q K N h k n (mkF m pc' Ls st)) : Go p l e R s m args below meth c n0 Q K N h k n (mkF m pc Ls (.int y :: .int x :: st)) := by
  obtain ⟨o, d, rfl, h1, h2⟩ := d
  by_cases q : x < y
  · exact g_st (fun X _ t kt => XS.icmpYes X.here C.1 rfl (pc0 := pc) (pc' := pct) rfl (hb C.2.2.2.1 d) rfl (tlt q).1 h1 h2 kt) (Gt q)
  · exact g_st (fun X _ t kt => XS.icmpNo X.here C.1 rfl (hb C.2.2.2.1 d) rfl (flt q).1 kt) (Gf q)
theorem g_if_lt (C : Cx p s m meth c Z n0 own bytes maxl ret nm) (d : Jm bytes pc (.ifCond .lt) pc' pct) {x : Int32} (Gt : x < 0 → Go p l e R s m args below meth c n0 Q K N h k n (mkF m pct Ls st)) (Gf : ¬ (x < 0) → Go p l e R s m args below meth c n0 Q K N h k n (mkF m pc' Ls st)) : Go p l e R s m args below meth c n0 Q K N h k n (mkF m pc Ls (.int x :: st)) := by
  obtain ⟨o, d, rfl, h1, h2⟩ := d
  by_cases q : x < 0
  · exact g_st (fun X _ t kt => XS.ifYes X.here C.1 rfl (pc0 := pc) (pc' := pct) rfl (hb C.2.2.2.1 d) rfl ((if0 _ _).trans (tlt q).1) h1 h2 kt) (Gt q)
  · exact g_st (fun X _ t kt => XS.ifNo X.here C.1 rfl (hb C.2.2.2.1 d) rfl ((if0 _ _).trans (flt q).1) kt) (Gf q)
theorem g_lcmp_lt (C : Cx p s m meth c Z n0 own bytes maxl ret nm) {x y : Int64} (d1 : In bytes pc 1 .lcmp pc1) (d : Jm bytes pc1 (.ifCond .lt) pc' pct) (Gt : x < y → Go p l e R s m args below meth c n0 Q K N h k n (mkF m pct Ls st)) (Gf : ¬ (x < y) → Go p l e R s m args below meth c n0 Q K N h k n (mkF m pc' Ls st)) : Go p l e R s m args below meth c n0 Q K N h k n (mkF m pc Ls (.long y :: .long x :: st)) := by
  obtain ⟨d1, rfl⟩ := d1
  refine g_st (fun X _ t kt => XS.lcmp X.here C.1 rfl (hb C.2.2.2.1 d1) rfl kt) ?_
  exact g_if_lt C d (fun q => Gt ((lw_lt x y).mp q)) (fun q => Gf (fun z => q ((lw_lt x y).mpr z)))
theorem g_icmp_ge (C : Cx p s m meth c Z n0 own bytes maxl ret nm) (d : Jm bytes pc (.if_icmp .ge) pc' pct) {x y : Int32} (Gt : ¬ (x < y) → Go p l e R s m args below meth c n0 Q K N h k n (mkF m pct Ls st)) (Gf : x < y → Go p l e R s m args below meth c n0 Q K N h k n (mkF m pc' Ls st)) : Go p l e R s m args below meth c n0 Q K N h k n (mkF m pc Ls (.int y :: .int x :: st)) := by
  obtain ⟨o, d, rfl, h1, h2⟩ := d
  by_cases q : ¬ (x < y)
  · exact g_st (fun X _ t kt => XS.icmpYes X.here C.1 rfl (pc0 := pc) (pc' := pct) rfl (hb C.2.2.2.1 d) rfl (flt q).2.1 h1 h2 kt) (Gt q)
  · exact g_st (fun X _ t kt => XS.icmpNo X.here C.1 rfl (hb C.2.2.2.1 d) rfl (tlt (Decidable.not_not.mp q)).2.1 kt) (Gf (Decidable.not_not.mp q))
theorem g_if_ge (C : Cx p s m meth c Z n0 own bytes maxl ret nm) (d : Jm bytes pc (.ifCond .ge) pc' pct) {x : Int32} (Gt : ¬ (x < 0) → Go p l e R s m args below meth c n0 Q K N h k n (mkF m pct Ls st)) (Gf : x < 0 → Go p l e R s m args below meth c n0 Q K N h k n (mkF m pc' Ls st)) : Go p l e R s m args below meth c n0 Q K N h k n (mkF m pc Ls (.int x :: st)) := by
  obtain ⟨o, d, rfl, h1, h2⟩ := d
  by_cases q : ¬ (x < 0)
  · exact g_st (fun X _ t kt => XS.ifYes X.here C.1 rfl (pc0 := pc) (pc' := pct) rfl (hb C.2.2.2.1 d) rfl ((if0 _ _).trans (flt q).2.1) h1 h2 kt) (Gt q)
  · exact g_st (fun X _ t kt => XS.ifNo X.here C.1 rfl (hb C.2.2.2.1 d) rfl ((if0 _ _).trans (tlt (Decidable.not_not.mp q)).2.1) kt) (Gf (Decidable.not_not.mp q))
theorem g_lcmp_ge (C : Cx p s m meth c Z n0 own bytes maxl ret nm) {x y : Int64} (d1 : In bytes pc 1 .lcmp pc1) (d : Jm bytes pc1 (.ifCond .ge) pc' pct) (Gt : ¬ (x < y) → Go p l e R s m args below meth c n0 Q K N h k n (mkF m pct Ls st)) (Gf : x < y → Go p l e R s m args below meth c n0 Q K N h k n (mkF m pc' Ls st)) : Go p l e R s m args below meth c n0 Q K N h k n (mkF m pc Ls (.long y :: .long x :: st)) := by
  obtain ⟨d1, rfl⟩ := d1
  refine g_st (fun X _ t kt => XS.lcmp X.here C.1 rfl (hb C.2.2.2.1 d1) rfl kt) ?_
  exact g_if_ge C d (fun q => Gt (fun z => q ((lw_lt x y).mpr z))) (fun q => Gf ((lw_lt x y).mp q))
theorem g_icmp_gt (C : Cx p s m meth c Z n0 own bytes maxl ret nm) (d : Jm bytes pc (.if_icmp .gt) pc' pct) {x y : Int32} (Gt : y < x → Go p l e R s m args below meth c n0 Q K N h k n (mkF m pct Ls st)) (Gf : ¬ (y < x) → Go p l e R s m args below meth c n0 Q K N h k n (mkF m pc' Ls st)) : Go p l e R s m args below meth c n0 Q K N h k n (mkF m pc Ls (.int y :: .int x :: st)) := by
  obtain ⟨o, d, rfl, h1, h2⟩ := d
  by_cases q : y < x
  · exact g_st (fun X _ t kt => XS.icmpYes X.here C.1 rfl (pc0 := pc) (pc' := pct) rfl (hb C.2.2.2.1 d) rfl (tlt q).2.2.1 h1 h2 kt) (Gt q)
  · exact g_st (fun X _ t kt => XS.icmpNo X.here C.1 rfl (hb C.2.2.2.1 d) rfl (flt q).2.2.1 kt) (Gf q)
theorem g_if_gt (C : Cx p s m meth c Z n0 own bytes maxl ret nm) (d : Jm bytes pc (.ifCond .gt) pc' pct) {x : Int32} (Gt : 0 < x → Go p l e R s m args below meth c n0 Q K N h k n (mkF m pct Ls st)) (Gf : ¬ (0 < x) → Go p l e R s m args below meth c n0 Q K N h k n (mkF m pc' Ls st)) : Go p l e R s m args below meth c n0 Q K N h k n (mkF m pc Ls (.int x :: st)) := by
  obtain ⟨o, d, rfl, h1, h2⟩ := d
  by_cases q : 0 < x
  · exact g_st (fun X _ t kt => XS.ifYes X.here C.1 rfl (pc0 := pc) (pc' := pct) rfl (hb C.2.2.2.1 d) rfl ((if0 _ _).trans (tlt q).2.2.1) h1 h2 kt) (Gt q)
  · exact g_st (fun X _ t kt => XS.ifNo X.here C.1 rfl (hb C.2.2.2.1 d) rfl ((if0 _ _).trans (flt q).2.2.1) kt) (Gf q)
theorem g_lcmp_gt (C : Cx p s m meth c Z n0 own bytes maxl ret nm) {x y : Int64} (d1 : In bytes pc 1 .lcmp pc1) (d : Jm bytes pc1 (.ifCond .gt) pc' pct) (Gt : y < x → Go p l e R s m args below meth c n0 Q K N h k n (mkF m pct Ls st)) (Gf : ¬ (y < x) → Go p l e R s m args below meth c n0 Q K N h k n (mkF m pc' Ls st)) : Go p l e R s m args below meth c n0 Q K N h k n (mkF m pc Ls (.long y :: .long x :: st)) := by
  obtain ⟨d1, rfl⟩ := d1
  refine g_st (fun X _ t kt => XS.lcmp X.here C.1 rfl (hb C.2.2.2.1 d1) rfl kt) ?_
  exact g_if_gt C d (fun q => Gt ((lw_gt x y).mp q)) (fun q => Gf (fun z => q ((lw_gt x y).mpr z)))
theorem g_icmp_le (C : Cx p s m meth c Z n0 own bytes maxl ret nm) (d : Jm bytes pc (.if_icmp .le) pc' pct) {x y : Int32} (Gt : ¬ (y < x) → Go p l e R s m args below meth c n0 Q K N h k n (mkF m pct Ls st)) (Gf : y < x → Go p l e R s m args below meth c n0 Q K N h k n (mkF m pc' Ls st)) : Go p l e R s m args below meth c n0 Q K N h k n (mkF m pc Ls (.int y :: .int x :: st)) := by
  obtain ⟨o, d, rfl, h1, h2⟩ := d
  by_cases q : ¬ (y < x)
  · exact g_st (fun X _ t kt => XS.icmpYes X.here C.1 rfl (pc0 := pc) (pc' := pct) rfl (hb C.2.2.2.1 d) rfl (flt q).2.2.2 h1 h2 kt) (Gt q)
  · exact g_st (fun X _ t kt => XS.icmpNo X.here C.1 rfl (hb C.2.2.2.1 d) rfl (tlt (Decidable.not_not.mp q)).2.2.2 kt) (Gf (Decidable.not_not.mp q))
theorem g_if_le (C : Cx p s m meth c Z n0 own bytes maxl ret nm) (d : Jm bytes pc (.ifCond .le) pc' pct) {x : Int32} (Gt : ¬ (0 < x) → Go p l e R s m args below meth c n0 Q K N h k n (mkF m pct Ls st)) (Gf : 0 < x → Go p l e R s m args below meth c n0 Q K N h k n (mkF m pc' Ls st)) : Go p l e R s m args below meth c n0 Q K N h k n (mkF m pc Ls (.int x :: st)) := by
  obtain ⟨o, d, rfl, h1, h2⟩ := d
  by_cases q : ¬ (0 < x)
  · exact g_st (fun X _ t kt => XS.ifYes X.here C.1 rfl (pc0 := pc) (pc' := pct) rfl (hb C.2.2.2.1 d) rfl ((if0 _ _).trans (flt q).2.2.2) h1 h2 kt) (Gt q)
  · exact g_st (fun X _ t kt => XS.ifNo X.here C.1 rfl (hb C.2.2.2.1 d) rfl ((if0 _ _).trans (tlt (Decidable.not_not.mp q)).2.2.2) kt) (Gf (Decidable.not_not.mp q))
theorem g_lcmp_le (C : Cx p s m meth c Z n0 own bytes maxl ret nm) {x y : Int64} (d1 : In bytes pc 1 .lcmp pc1) (d : Jm bytes pc1 (.ifCond .le) pc' pct) (Gt : ¬ (y < x) → Go p l e R s m args below meth c n0 Q K N h k n (mkF m pct Ls st)) (Gf : y < x → Go p l e R s m args below meth c n0 Q K N h k n (mkF m pc' Ls st)) : Go p l e R s m args below meth c n0 Q K N h k n (mkF m pc Ls (.long y :: .long x :: st)) := by
  obtain ⟨d1, rfl⟩ := d1
  refine g_st (fun X _ t kt => XS.lcmp X.here C.1 rfl (hb C.2.2.2.1 d1) rfl kt) ?_
  exact g_if_le C d (fun q => Gt (fun z => q ((lw_gt x y).mpr z))) (fun q => Gf ((lw_gt x y).mp q))
theorem g_icmp_eq (C : Cx p s m meth c Z n0 own bytes maxl ret nm) (d : Jm bytes pc (.if_icmp .eq) pc' pct) {x y : Int32} (Gt : x = y → Go p l e R s m args below meth c n0 Q K N h k n (mkF m pct Ls st)) (Gf : ¬ (x = y) → Go p l e R s m args below meth c n0 Q K N h k n (mkF m pc' Ls st)) : Go p l e R s m args below meth c n0 Q K N h k n (mkF m pc Ls (.int y :: .int x :: st)) := by
  obtain ⟨o, d, rfl, h1, h2⟩ := d
  by_cases q : x = y
  · exact g_st (fun X _ t kt => XS.icmpYes X.here C.1 rfl (pc0 := pc) (pc' := pct) rfl (hb C.2.2.2.1 d) rfl (teq q).1 h1 h2 kt) (Gt q)
  · exact g_st (fun X _ t kt => XS.icmpNo X.here C.1 rfl (hb C.2.2.2.1 d) rfl (feq q).1 kt) (Gf q)
theorem g_if_eq (C : Cx p s m meth c Z n0 own bytes maxl ret nm) (d : Jm bytes pc (.ifCond .eq) pc' pct) {x : Int32} (Gt : x = 0 → Go p l e R s m args below meth c n0 Q K N h k n (mkF m pct Ls st)) (Gf : ¬ (x = 0) → Go p l e R s m args below meth c n0 Q K N h k n (mkF m pc' Ls st)) : Go p l e R s m args below meth c n0 Q K N h k n (mkF m pc Ls (.int x :: st)) := by
  obtain ⟨o, d, rfl, h1, h2⟩ := d
  by_cases q : x = 0
  · exact g_st (fun X _ t kt => XS.ifYes X.here C.1 rfl (pc0 := pc) (pc' := pct) rfl (hb C.2.2.2.1 d) rfl ((if0 _ _).trans (teq q).1) h1 h2 kt) (Gt q)
  · exact g_st (fun X _ t kt => XS.ifNo X.here C.1 rfl (hb C.2.2.2.1 d) rfl ((if0 _ _).trans (feq q).1) kt) (Gf q)
theorem g_lcmp_eq (C : Cx p s m meth c Z n0 own bytes maxl ret nm) {x y : Int64} (d1 : In bytes pc 1 .lcmp pc1) (d : Jm bytes pc1 (.ifCond .eq) pc' pct) (Gt : x = y → Go p l e R s m args below meth c n0 Q K N h k n (mkF m pct Ls st)) (Gf : ¬ (x = y) → Go p l e R s m args below meth c n0 Q K N h k n (mkF m pc' Ls st)) : Go p l e R s m args below meth c n0 Q K N h k n (mkF m pc Ls (.long y :: .long x :: st)) := by
  obtain ⟨d1, rfl⟩ := d1
  refine g_st (fun X _ t kt => XS.lcmp X.here C.1 rfl (hb C.2.2.2.1 d1) rfl kt) ?_
  exact g_if_eq C d (fun q => Gt ((lw_eq x y).mp q)) (fun q => Gf (fun z => q ((lw_eq x y).mpr z)))
theorem g_icmp_ne (C : Cx p s m meth c Z n0 own bytes maxl ret nm) (d : Jm bytes pc (.if_icmp .ne) pc' pct) {x y : Int32} (Gt : ¬ (x = y) → Go p l e R s m args below meth c n0 Q K N h k n (mkF m pct Ls st)) (Gf : x = y → Go p l e R s m args below meth c n0 Q K N h k n (mkF m pc' Ls st)) : Go p l e R s m args below meth c n0 Q K N h k n (mkF m pc Ls (.int y :: .int x :: st)) := by
  obtain ⟨o, d, rfl, h1, h2⟩ := d
  by_cases q : ¬ (x = y)
  · exact g_st (fun X _ t kt => XS.icmpYes X.here C.1 rfl (pc0 := pc) (pc' := pct) rfl (hb C.2.2.2.1 d) rfl (feq q).2 h1 h2 kt) (Gt q)
  · exact g_st (fun X _ t kt => XS.icmpNo X.here C.1 rfl (hb C.2.2.2.1 d) rfl (teq (Decidable.not_not.mp q)).2 kt) (Gf (Decidable.not_not.mp q))
theorem g_if_ne (C : Cx p s m meth c Z n0 own bytes maxl ret nm) (d : Jm bytes pc (.ifCond .ne) pc' pct) {x : Int32} (Gt : ¬ (x = 0) → Go p l e R s m args below meth c n0 Q K N h k n (mkF m pct Ls st)) (Gf : x = 0 → Go p l e R s m args below meth c n0 Q K N h k n (mkF m pc' Ls st)) : Go p l e R s m args below meth c n0 Q K N h k n (mkF m pc Ls (.int x :: st)) := by
  obtain ⟨o, d, rfl, h1, h2⟩ := d
  by_cases q : ¬ (x = 0)
  · exact g_st (fun X _ t kt => XS.ifYes X.here C.1 rfl (pc0 := pc) (pc' := pct) rfl (hb C.2.2.2.1 d) rfl ((if0 _ _).trans (feq q).2) h1 h2 kt) (Gt q)
  · exact g_st (fun X _ t kt => XS.ifNo X.here C.1 rfl (hb C.2.2.2.1 d) rfl ((if0 _ _).trans (teq (Decidable.not_not.mp q)).2) kt) (Gf (Decidable.not_not.mp q))
theorem g_lcmp_ne (C : Cx p s m meth c Z n0 own bytes maxl ret nm) {x y : Int64} (d1 : In bytes pc 1 .lcmp pc1) (d : Jm bytes pc1 (.ifCond .ne) pc' pct) (Gt : ¬ (x = y) → Go p l e R s m args below meth c n0 Q K N h k n (mkF m pct Ls st)) (Gf : x = y → Go p l e R s m args below meth c n0 Q K N h k n (mkF m pc' Ls st)) : Go p l e R s m args below meth c n0 Q K N h k n (mkF m pc Ls (.long y :: .long x :: st)) := by
  obtain ⟨d1, rfl⟩ := d1
  refine g_st (fun X _ t kt => XS.lcmp X.here C.1 rfl (hb C.2.2.2.1 d1) rfl kt) ?_
  exact g_if_ne C d (fun q => Gt (fun z => q ((lw_eq x y).mpr z))) (fun q => Gf ((lw_eq x y).mp q))
theorem g_ldc2 (C : Cx p s m meth c Z n0 own bytes maxl ret nm) {i : Nat} {v : Int64} (w : (Cond.constantLong own i v).before a0 Z = true) (d : In bytes pc 3 (.ldc2_w i) pc') (G : Go p l e R s m args below meth c n0 Q K N h k n (mkF m pc' Ls (.long v :: st))) : Go p l e R s m args below meth c n0 Q K N h k n (mkF m pc Ls st) := by
  obtain ⟨d, rfl⟩ := d
  exact g_st (fun X _ t kt => X.ldc2Long C.1 C.2.2.1 (mvT C.2.1 w) (g := mkF m pc Ls st) rfl (hb C.2.2.2.1 d) _ kt) G
theorem g_ldc (C : Cx p s m meth c Z n0 own bytes maxl ret nm) {i : Nat} {v : Int32} (w : (Cond.constant own i v).before a0 Z = true) (d : In bytes pc 2 (.ldc i) pc') (G : Go p l e R s m args below meth c n0 Q K N h k n (mkF m pc' Ls (.int v :: st))) : Go p l e R s m args below meth c n0 Q K N h k n (mkF m pc Ls st) := by
  obtain ⟨d, rfl⟩ := d
  exact g_st (fun X _ t kt => X.ldcInt C.1 C.2.2.1 (mvT C.2.1 w) (g := mkF m pc Ls st) rfl (hb C.2.2.2.1 d) _ kt) G
theorem g_getF (C : Cx p s m meth c Z n0 own bytes maxl ret nm) {i : Nat} {O f ds : String} (w : (Cond.fieldLink own i O f ds).before a0 Z = true) (d : In bytes pc 3 (.getfield i) pc') {a : Addr} {v : Value} (F : Fld Z h a O f ds v) (G : Go p l e R s m args below meth c n0 Q K N h k n (mkF m pc' Ls (v :: st))) : Go p l e R s m args below meth c n0 Q K N h k n (mkF m pc Ls (.ref a :: st)) := by
  obtain ⟨d, rfl⟩ := d
  intro T L hL X eT
  obtain ⟨T', X', e', st'⟩ := getF X C.1 C.2.1 C.2.2.1 (host := "") (Or.inl w) Via.refl eT F (g := mkF m pc Ls (.ref a :: st)) rfl rfl (hb C.2.2.2.1 d)
  obtain ⟨t, o, h1, h2⟩ := G T' L hL X' e'
  exact ⟨t, o, st' t h1, h2⟩
theorem g_putF (C : Cx p s m meth c Z n0 own bytes maxl ret nm) {i kk : Nat} {O f ds K' : String} {ty : FieldType} (w : (Cond.fieldLink own i O f ds).before a0 Z = true) (d : In bytes pc 3 (.putfield i) pc') {a : Addr} {v v' old : Value} (F : Fld Z h a O f ds old) (E : Exa Z h a K')
    (L : (Cond.lays K' O f ds).before a0 Z = true ∨ ((Cond.laysFinal K' O f ds).before a0 Z = true ∧ own = O ∧ nm = "<init>")) (wi : (Cond.instantiable K' kk).before a0 Z = true) (hty : parseFieldDescriptor ds = some ty) (hn : narrow ty v = v') (hf : fits ty v' = true) (ge : n0 ≤ a)
    (G : ∀ h', Wr h h' a (Jvm.RoadKit.slotOf Z O f ds) v' → Go p l e R s m args below meth c n0 Q K N h' k n (mkF m pc' Ls st)) : Go p l e R s m args below meth c n0 Q K N h k n (mkF m pc Ls (v :: .ref a :: st)) := by
  obtain ⟨d, rfl⟩ := d
  intro T Lo hL X eT
  have L' : (Cond.lays K' O f ds).before a0 Z = true ∨ ((Cond.laysFinal K' O f ds).before a0 Z = true ∧ own = O ∧ meth.name = "<init>") := L.imp id fun q => ⟨q.1, q.2.1, C.2.2.2.2.2.2.2.1.trans q.2.2⟩
  obtain ⟨T', h', X', e', W', st'⟩ := putFN X C.1 C.2.1 C.2.2.1 w Via.refl eT F E L' wi hty hn hf (g := mkF m pc Ls (v :: .ref a :: st)) rfl rfl (hb C.2.2.2.1 d)
  obtain ⟨t, o, h1, h2⟩ := G h' W' T' _ (Fr.snoc X' hL ge) X' e'
  exact ⟨t, o, st' t h1, h2⟩
theorem g_new (C : Cx p s m meth c Z n0 own bytes maxl ret nm) {i sz : Nat} {K' : String} (w : (Cond.classLink own i K').before a0 Z = true) (wi : (Cond.instantiable K' sz).before a0 Z = true) (wz : (Cond.initialized K').before a0 Z = true) (d : In bytes pc 3 (.new i) pc') (hc : k + 1 ≤ R.cells) (hl : n + sz ≤ R.slots)
    (G : ∀ h' a, n0 ≤ a → a = h.size → Ext h h' → Exa Z h' a K' → (∀ {O f ds : String} {ty : FieldType}, Laid Z a0 K' O f ds → parseFieldDescriptor ds = some ty → Fld Z h' a O f ds (defaultValue ty)) → Go p l e R s m args below meth c n0 Q K N h' (k + 1) (n + sz) (mkF m pc' Ls (.ref a :: st))) : Go p l e R s m args below meth c n0 Q K N h k n (mkF m pc Ls st) := by
  obtain ⟨d, rfl⟩ := d
  intro T Lo hL X eT
  have ge : n0 ≤ h.size := Nat.le_trans C.2.2.2.2.2.2.2.2 (eT ▸ Stand.up X)
  obtain ⟨T', h', X', e', E', A', D', -, st'⟩ := newO X C.1 C.2.1 C.2.2.1 w wi wz eT (g := mkF m pc Ls st) rfl (hb C.2.2.2.1 d) hc hl
  obtain ⟨t, o, h1, h2⟩ := G h' h.size ge rfl E' A' D' T' _ hL X' e'
  exact ⟨t, o, st' t h1, h2⟩
theorem g_newarr (C : Cx p s m meth c Z n0 own bytes maxl ret nm) {aty : ArrayType} (w : (Cond.arrayClass (newarray.typeOf aty)).before a0 Z = true) (d : In bytes pc 2 (.newarray aty) pc') {z : Int32} (hz : ¬ z < 0) (cap : Nat) (hcap : z.toNatClampNeg ≤ cap) (hb8 : cap * 8 ≤ 536870912) (hc : k + 1 ≤ R.cells) (hl : n + cap ≤ R.slots)
    (G : ∀ h' a kA, n0 ≤ a → a = h.size → Ext h h' → Arr Z h' a (newA kA (newarray.typeOf aty) z) (newarray.typeOf aty) → Go p l e R s m args below meth c n0 Q K N h' (k + 1) (n + cap) (mkF m pc' Ls (.ref a :: st))) : Go p l e R s m args below meth c n0 Q K N h k n (mkF m pc Ls (.int z :: st)) := by
  obtain ⟨d, rfl⟩ := d
  intro T Lo hL X eT
  have ge : n0 ≤ h.size := Nat.le_trans C.2.2.2.2.2.2.2.2 (eT ▸ Stand.up X)
  obtain ⟨T', h', kA, X', e', E', A', st'⟩ := newP X C.1 C.2.1 w eT (g := mkF m pc Ls (.int z :: st)) rfl (hb C.2.2.2.1 d) rfl hz hcap hb8 hc hl
  obtain ⟨t, o, h1, h2⟩ := G h' h.size kA ge rfl E' A' T' _ hL X' e'
  exact ⟨t, o, st' t h1, h2⟩
theorem g_initO (C : Cx p s m meth c Z n0 own bytes maxl ret nm) {i : Nat} (w1 : (Cond.methodLink own i Lib.objectInit).before a0 Z = true) (w2 : (Cond.instanceMethod Lib.objectInit).before a0 Z = true) (w3 : (Cond.code Lib.objectInit ⟨#[0xb1]⟩ 1 none).before a0 Z = true) (d : In bytes pc 3 (.invokespecial i) pc') (hsz : Ls.size = maxl) {a : Addr} (hf : 1 ≤ R.frames) (W : Nat) (hW : (st.map fun v => v.category).sum ≤ W) (hl : W + 12 ≤ R.locals) (G : Go p l e R s m args below meth c n0 Q K N h k n (mkF m pc' Ls st)) : Go p l e R s m args below meth c n0 Q K N h k n (mkF m pc Ls (.ref a :: st)) := by
  obtain ⟨d, rfl⟩ := d
  intro T L hL X eT
  obtain ⟨T', X', e', st'⟩ := initO X C.1 C.2.1 C.2.2.1 w1 w2 w3 eT (g := mkF m pc Ls (.ref a :: st)) rfl (by rw [C.2.2.2.2.1]; exact hsz) rfl (hb C.2.2.2.1 d) hf (W := W) (by show 2 * 0 + _ ≤ _; omega) hl
  obtain ⟨t, o, h1, h2⟩ := G T' L hL X' e'
  exact ⟨t, o, st' t h1, h2⟩
theorem g_retI (C : Cx p s m meth c Z n0 own bytes maxl (some .int) nm) (d : In bytes pc 1 .ireturn pc') {z : Int32} (hk : k ≤ K) (hn : n ≤ N) (q : Q (some (.int z)) h) : Go p l e R s m args below meth c n0 Q K N h k n (mkF m pc Ls ([.int z])) := by
  obtain ⟨d, rfl⟩ := d
  intro T L hL X eT
  have hlk : meth.locks = false := C.2.2.2.2.2.2.1
  obtain ⟨fs, hr, hrun, hended, hW, hsame⟩ := X.leave (v := some (.int z)) (fun h => by rw [C.2.2.2.2.2.1] at h; cases h) hlk
  refine ⟨_, _, X.ireturnOut C.1 C.2.2.2.2.2.1 rfl (Or.inl rfl) (hb C.2.2.2.1 d) hr, hrun, hended, _, _, rfl, ⟨?_, hL⟩, ⟨_, rfl⟩, hW, hsame.mono hk hn⟩
  show Q _ T.heap
  rw [eT]; exact q
theorem g_retJ (C : Cx p s m meth c Z n0 own bytes maxl (some .long) nm) (d : In bytes pc 1 .lreturn pc') {z : Int64} (hk : k ≤ K) (hn : n ≤ N) (q : Q (some (.long z)) h) : Go p l e R s m args below meth c n0 Q K N h k n (mkF m pc Ls ([.long z])) := by
  obtain ⟨d, rfl⟩ := d
  intro T L hL X eT
  have hlk : meth.locks = false := C.2.2.2.2.2.2.1
  obtain ⟨fs, hr, hrun, hended, hW, hsame⟩ := X.leave (v := some (.long z)) (fun h => by rw [C.2.2.2.2.2.1] at h; cases h) hlk
  refine ⟨_, _, X.lreturnOut C.1 C.2.2.2.2.2.1 (hb C.2.2.2.1 d) hr, hrun, hended, _, _, rfl, ⟨?_, hL⟩, ⟨_, rfl⟩, hW, hsame.mono hk hn⟩
  show Q _ T.heap
  rw [eT]; exact q
theorem g_retZ (C : Cx p s m meth c Z n0 own bytes maxl (some .boolean) nm) (d : In bytes pc 1 .ireturn pc') {z : Int32} (hk : k ≤ K) (hn : n ≤ N) (q : Q (some (.int (z &&& 1))) h) : Go p l e R s m args below meth c n0 Q K N h k n (mkF m pc Ls ([.int z])) := by
  obtain ⟨d, rfl⟩ := d
  intro T L hL X eT
  have hlk : meth.locks = false := C.2.2.2.2.2.2.1
  obtain ⟨fs, hr, hrun, hended, hW, hsame⟩ := X.leave (v := some (.int (z &&& 1))) (fun h => by rw [C.2.2.2.2.2.1] at h; cases h) hlk
  refine ⟨_, _, retN X C.1 (t := .boolean) C.2.2.2.2.2.1 (by simp) (hb C.2.2.2.1 d) hr, hrun, hended, _, _, rfl, ⟨?_, hL⟩, ⟨_, rfl⟩, hW, hsame.mono hk hn⟩
  show Q _ T.heap
  rw [eT]; exact q
theorem g_retA (C : Cx p s m meth c Z n0 own bytes maxl ret nm) {ty : FieldType} (hret : ret = some ty) (hty : ty.isReference = true) (d : In bytes pc 1 .areturn pc') {z : Value} (hz : z.isRef = true) (hk : k ≤ K) (hn : n ≤ N) (q : Q (some z) h) : Go p l e R s m args below meth c n0 Q K N h k n (mkF m pc Ls ([z])) := by
  obtain ⟨d, rfl⟩ := d
  subst hret
  intro T L hL X eT
  have hlk : meth.locks = false := C.2.2.2.2.2.2.1
  obtain ⟨fs, hr, hrun, hended, hW, hsame⟩ := X.leave (v := some z) (fun h => by rw [C.2.2.2.2.2.1] at h; cases h) hlk
  refine ⟨_, _, X.areturnOut C.1 hz C.2.2.2.2.2.1 hty (hb C.2.2.2.1 d) hr, hrun, hended, _, _, rfl, ⟨?_, hL⟩, ⟨_, rfl⟩, hW, hsame.mono hk hn⟩
  show Q _ T.heap
  rw [eT]; exact q
theorem g_ret (C : Cx p s m meth c Z n0 own bytes maxl none nm) (d : In bytes pc 1 .return_ pc') (hk : k ≤ K) (hn : n ≤ N) (q : Q none h) : Go p l e R s m args below meth c n0 Q K N h k n (mkF m pc Ls []) := by
  obtain ⟨d, rfl⟩ := d
  intro T L hL X eT
  have hlk : meth.locks = false := C.2.2.2.2.2.2.1
  obtain ⟨fs, hr, hrun, hended, hW, hsame⟩ := X.leave (v := none) (fun _ => rfl) hlk
  refine ⟨_, _, X.returnOut C.1 C.2.2.2.2.2.1 (hb C.2.2.2.1 d) hr, hrun, hended, _, _, rfl, ⟨?_, hL⟩, ⟨_, rfl⟩, hW, hsame.mono hk hn⟩
  show Q _ T.heap
  rw [eT]; exact q
/-- a method's contract: called with 'as' at a heap h0 it comes back so -/
abbrev Con (l : Launch) (Z : State) (y : MethodName) (bytes : ByteArray) (maxl : Nat) (ret : Option FieldType) (rm : Room) (ws : List Jvm.Cond) (as : Array Value) (h0 : Heap) (n0 : Nat) (Q : Option Value → Heap → Prop) : Prop :=
  MetFree l y (head1 (Jvm.Cond.code y bytes maxl ret :: ws) rm) (fun a U => a = as ∧ Z.Warmed39 U.vm ∧ U.heap = h0) (fun _ _ _ _ _ => True) (fun _ U o U' => ∃ v L, o = .returned v ∧ (Q v U'.heap ∧ Fr n0 L) ∧ FrameEnd U o U' L rm.cells rm.slots)
theorem con_of {y : MethodName} {rm : Room} {ws : List Jvm.Cond} {as : Array Value} {h0 : Heap} {Ls0 : Array Slot} (hpl : plainFor y = true) (he : ∀ m, entryFrame m as maxl = mkF m 0 Ls0 []) (hn0 : n0 ≤ h0.size)
    (B : ∀ (p : Program) (e : Env) (s : State) (m : MethodId) (below : List Frame) (meth : Method) (c : ClassFile.Code), Cx p s m meth c Z n0 y.cls bytes maxl ret y.name → Go p l e rm s m as below meth c n0 Q rm.cells rm.slots h0 0 0 (mkF m 0 Ls0 [])) : Con l Z y bytes maxl ret rm ws as h0 n0 Q := by
  refine MetFree.of_bodySF hpl hisR ?_
  intro p e s m args below meth c s₁ Bd hml0 hP hK
  obtain ⟨rfl, hZ, hh⟩ := hP
  have hlk : meth.locks = false := BodyLoose.notSynchronized Bd
  have X0 : Stand p l e rm s m _ below meth c s₁ [] 0 0 := Stand.of_body Bd
  have e0 : s₁.heap = h0 := by rw [← hh, Bd.state]; rfl
  obtain ⟨t, o, h1, h2, h3, v, L, h4, h5, h6⟩ := B p e s m below meth c ⟨Bd.exec, hZ, findClass_of_methodNamed Bd.named, Bd.bytes, hml0, Bd.returns, hlk, (name_of_methodNamed Bd.named Bd.method).1, by rw [hh]; exact hn0⟩ s₁ [] (Fr.nil n0) X0 e0
  exact ⟨t, o, castTop (he m) h1, h2, h3, v, L, h4, h5, h6⟩
theorem g_callS (C : Cx p s m meth c Z n0 own bytes maxl ret nm) {y : MethodName} {by' : ByteArray} {ml : Nat} {rt : Option FieldType} {rm : Room} {as : Array Value} {Q' : Option Value → Heap → Prop} (con : Con l Z y by' ml rt rm [] as h n0 Q') {i : Nat} (w1 : (Cond.methodLink own i y).before a0 Z = true) (w2 : (Cond.static y).before a0 Z = true) (w3 : (Cond.initialized y.cls).before a0 Z = true) (w4 : (Cond.code y by' ml rt).before a0 Z = true) (hy : y.cls ≠ "java/lang/invoke/MethodHandle" ∧ y.cls ≠ "java/lang/invoke/VarHandle")
    (d : In bytes pc 3 (.invokestatic i) pc') {ps : List FieldType} {r : Option FieldType} (hpd : parseMethodDescriptor y.desc = some ⟨ps, r⟩) (argsL rest : List Value) (has : as = argsL.toArray) (hlen : argsL.length = ps.length) (hsz : Ls.size = maxl) (W : Nat) (hW : (rest.map fun v => v.category).sum ≤ W) (r1 : rm.frames + 1 ≤ R.frames) (r2 : W + (ml + 11) + rm.locals ≤ R.locals) (r3 : k + rm.cells ≤ R.cells) (r4 : n + rm.slots ≤ R.slots)
    (G : ∀ v h', Q' v h' → Go p l e R s m args below meth c n0 Q K N h' (k + rm.cells) (n + rm.slots) (mkF m pc' Ls (v.toList ++ rest))) : Go p l e R s m args below meth c n0 Q K N h k n (mkF m pc Ls (argsL.reverse ++ rest)) := by
  obtain ⟨d, rfl⟩ := d
  intro T L hL X eT
  obtain ⟨v, vm₁, ⟨T', L2, k2, n2⟩, -, X', ⟨Lc, hQ, l2, y2, z2⟩, st'⟩ := Jvm.LawKit.callS X C.1 (y := y) C.2.2.1 (mvT C.2.1 w1) (mvT C.2.1 w2) (mvT C.2.1 w3) (mvT C.2.1 w4) hy (backOf (W := W) (Q := fun v h L => Q' v h ∧ Fr n0 L) con C.2.1 w4 w3 r1 r2) (g := mkF m pc Ls (argsL.reverse ++ rest)) rfl (by rw [C.2.2.2.2.1]; exact hsz) (argsL := argsL) (rest := rest) (lenOf hpd hlen) rfl (by show 2 * 0 + _ ≤ _; omega) (hb C.2.2.2.1 d) (fun _ _ => ⟨has.symm, eT, r3, r4⟩)
  dsimp only [Pt.U, Pt.locs, Pt.cells, Pt.slots] at X' l2 y2 z2 st' hQ
  subst l2 y2 z2
  obtain ⟨t, o, h1, h2⟩ := G v T'.heap hQ.1 T' _ (Fr.app hL hQ.2) X' rfl
  exact ⟨t, o, st' t h1, h2⟩
theorem g_callI (C : Cx p s m meth c Z n0 own bytes maxl ret nm) {y : MethodName} {by' : ByteArray} {ml : Nat} {rm : Room} {as : Array Value} {Q' : Option Value → Heap → Prop} (con : Con l Z y by' ml none rm [] as h n0 Q') {i : Nat} (hini : y.name = "<init>") (w1 : (Cond.methodLink own i y).before a0 Z = true) (w2 : (Cond.instanceMethod y).before a0 Z = true) (w3 : (Cond.initialized y.cls).before a0 Z = true) (w4 : (Cond.code y by' ml none).before a0 Z = true) (hy : y.cls ≠ "java/lang/invoke/MethodHandle" ∧ y.cls ≠ "java/lang/invoke/VarHandle")
    (d : In bytes pc 3 (.invokespecial i) pc') {ps : List FieldType} {r : Option FieldType} (hpd : parseMethodDescriptor y.desc = some ⟨ps, r⟩) {a : Addr} (argsL rest : List Value) (has : as = (.ref a :: argsL).toArray) (hlen : argsL.length = ps.length) (hsz : Ls.size = maxl) (W : Nat) (hW : (rest.map fun v => v.category).sum ≤ W) (r1 : rm.frames + 1 ≤ R.frames) (r2 : W + (ml + 11) + rm.locals ≤ R.locals) (r3 : k + rm.cells ≤ R.cells) (r4 : n + rm.slots ≤ R.slots)
    (G : ∀ v h', Q' v h' → Go p l e R s m args below meth c n0 Q K N h' (k + rm.cells) (n + rm.slots) (mkF m pc' Ls (v.toList ++ rest))) : Go p l e R s m args below meth c n0 Q K N h k n (mkF m pc Ls (argsL.reverse ++ .ref a :: rest)) := by
  obtain ⟨d, rfl⟩ := d
  intro T L hL X eT
  obtain ⟨v, vm₁, ⟨T', L2, k2, n2⟩, -, X', ⟨Lc, hQ, l2, y2, z2⟩, st'⟩ := X.specialBack C.1 (y := y) hini C.2.2.1 (mvT C.2.1 w1) (mvT C.2.1 w2) (mvT C.2.1 w4) hy (backOf (W := W) (Q := fun v h L => Q' v h ∧ Fr n0 L) con C.2.1 w4 w3 r1 r2) (g := mkF m pc Ls (argsL.reverse ++ .ref a :: rest)) rfl (by rw [C.2.2.2.2.1]; exact hsz) (Steps.refl _) (a := a) (argsL := argsL) (rest := rest) (lenOf hpd hlen) rfl (by show 2 * 0 + _ ≤ _; omega) (hb C.2.2.2.1 d) (fun _ _ => ⟨has.symm, eT, r3, r4⟩)
  dsimp only [Pt.U, Pt.locs, Pt.cells, Pt.slots] at X' l2 y2 z2 st' hQ
  subst l2 y2 z2
  obtain ⟨t, o, h1, h2⟩ := G v T'.heap hQ.1 T' _ (Fr.app hL hQ.2) X' rfl
  exact ⟨t, o, st'.trans h1, h2⟩
theorem g_callV (C : Cx p s m meth c Z n0 own bytes maxl ret nm) {y : MethodName} {by' : ByteArray} {ml : Nat} {rt : Option FieldType} {rm : Room} {as : Array Value} {Q' : Option Value → Heap → Prop} (con : Con l Z y by' ml rt rm [] as h n0 Q') {i : Nat} (w1 : (Cond.methodLink own i y).before a0 Z = true) (w2 : (Cond.declares y).before a0 Z = true) (w5 : (Cond.instanceMethod y).before a0 Z = true) {K' : String} (w6 : (Cond.selects K' y y).before a0 Z = true) (w3 : (Cond.initialized y.cls).before a0 Z = true) (w4 : (Cond.code y by' ml rt).before a0 Z = true) (hy : y.cls ≠ "java/lang/invoke/MethodHandle" ∧ y.cls ≠ "java/lang/invoke/VarHandle")
    (d : In bytes pc 3 (.invokevirtual i) pc') {ps : List FieldType} {r : Option FieldType} (hpd : parseMethodDescriptor y.desc = some ⟨ps, r⟩) {a : Addr} (E : Exa Z h a K') (argsL rest : List Value) (has : as = (.ref a :: argsL).toArray) (hlen : argsL.length = ps.length) (hsz : Ls.size = maxl) (W : Nat) (hW : (rest.map fun v => v.category).sum ≤ W) (r1 : rm.frames + 1 ≤ R.frames) (r2 : W + (ml + 11) + rm.locals ≤ R.locals) (r3 : k + rm.cells ≤ R.cells) (r4 : n + rm.slots ≤ R.slots)
    (G : ∀ v h', Q' v h' → Go p l e R s m args below meth c n0 Q K N h' (k + rm.cells) (n + rm.slots) (mkF m pc' Ls (v.toList ++ rest))) : Go p l e R s m args below meth c n0 Q K N h k n (mkF m pc Ls (argsL.reverse ++ .ref a :: rest)) := by
  obtain ⟨d, rfl⟩ := d
  intro T L hL X eT
  obtain ⟨cq, kq, q1, q2, q3⟩ := isOf C.2.1 eT E
  obtain ⟨v, vm₁, ⟨T', L2, k2, n2⟩, -, X', ⟨Lc, hQ, l2, y2, z2⟩, st'⟩ := X.virtualBack C.1 (y := y) (z := y) C.2.2.1 (mvT C.2.1 w1) (mvT C.2.1 w2) (notFace_of_selects (args := #[]) (mvT C.2.1 w6)) (mvT C.2.1 w6) (mvT C.2.1 w5) hy (backOf (W := W) (Q := fun v h L => Q' v h ∧ Fr n0 L) con C.2.1 w4 w3 r1 r2) q1 q3 (g := mkF m pc Ls (argsL.reverse ++ .ref a :: rest)) rfl (by rw [C.2.2.2.2.1]; exact hsz) (Steps.refl _) (argsL := argsL) (rest := rest) (lenOf hpd hlen) rfl (by show 2 * 0 + _ ≤ _; omega) (hb C.2.2.2.1 d) (fun _ _ => ⟨has.symm, eT, r3, r4⟩)
  dsimp only [Pt.U, Pt.locs, Pt.cells, Pt.slots] at X' l2 y2 z2 st' hQ
  subst l2 y2 z2
  obtain ⟨t, o, h1, h2⟩ := G v T'.heap hQ.1 T' _ (Fr.app hL hQ.2) X' rfl
  exact ⟨t, o, st'.trans h1, h2⟩
theorem g_callP (C : Cx p s m meth c Z n0 own bytes maxl ret nm) {y : MethodName} {by' : ByteArray} {ml : Nat} {rt : Option FieldType} {rm : Room} {as : Array Value} {Q' : Option Value → Heap → Prop} (con : Con l Z y by' ml rt rm [] as h n0 Q') {i : Nat} (w1 : (Cond.methodLink own i y).before a0 Z = true) (w5 : (Cond.instanceMethod y).before a0 Z = true) (w6 : (Cond.selects y.cls y y).before a0 Z = true) (w7 : (Cond.privateMethod y).before a0 Z = true) (w3 : (Cond.initialized y.cls).before a0 Z = true) (w4 : (Cond.code y by' ml rt).before a0 Z = true) (hy : y.cls ≠ "java/lang/invoke/MethodHandle" ∧ y.cls ≠ "java/lang/invoke/VarHandle")
    (d : In bytes pc 3 (.invokevirtual i) pc') {ps : List FieldType} {r : Option FieldType} (hpd : parseMethodDescriptor y.desc = some ⟨ps, r⟩) {a : Addr} {K' : String} (E : Exa Z h a K') (argsL rest : List Value) (has : as = (.ref a :: argsL).toArray) (hlen : argsL.length = ps.length) (hsz : Ls.size = maxl) (W : Nat) (hW : (rest.map fun v => v.category).sum ≤ W) (r1 : rm.frames + 1 ≤ R.frames) (r2 : W + (ml + 11) + rm.locals ≤ R.locals) (r3 : k + rm.cells ≤ R.cells) (r4 : n + rm.slots ≤ R.slots)
    (G : ∀ v h', Q' v h' → Go p l e R s m args below meth c n0 Q K N h' (k + rm.cells) (n + rm.slots) (mkF m pc' Ls (v.toList ++ rest))) : Go p l e R s m args below meth c n0 Q K N h k n (mkF m pc Ls (argsL.reverse ++ .ref a :: rest)) := by
  obtain ⟨d, rfl⟩ := d
  intro T L hL X eT
  obtain ⟨cq, q1, q2⟩ := E.cell
  obtain ⟨v, vm₁, ⟨T', L2, k2, n2⟩, -, X', ⟨Lc, hQ, l2, y2, z2⟩, st'⟩ := X.privateBack C.1 (y := y) C.2.2.1 (mvT C.2.1 w1) (mvT C.2.1 w5) (mvT C.2.1 w6) (Cond.privateMethod_at (mvP C.2.1 w7 (args := #[]))) (mvT C.2.1 w4) hy (backOf (W := W) (Q := fun v h L => Q' v h ∧ Fr n0 L) con C.2.1 w4 w3 r1 r2) (g := mkF m pc Ls (argsL.reverse ++ .ref a :: rest)) rfl (by rw [C.2.2.2.2.1]; exact hsz) (Steps.refl _) (a := a) (by rw [eT]; exact q1) q2 (argsL := argsL) (rest := rest) (lenOf hpd hlen) rfl (by show 2 * 0 + _ ≤ _; omega) (hb C.2.2.2.1 d) (fun _ _ => ⟨has.symm, eT, r3, r4⟩)
  dsimp only [Pt.U, Pt.locs, Pt.cells, Pt.slots] at X' l2 y2 z2 st' hQ
  subst l2 y2 z2
  obtain ⟨t, o, h1, h2⟩ := G v T'.heap hQ.1 T' _ (Fr.app hL hQ.2) X' rfl
  exact ⟨t, o, st'.trans h1, h2⟩
/-- an array of z places at a, whose contents are f -/
def LArr (Z : State) (h : Heap) (a : Addr) (z : Nat) (f : Nat → Int64) : Prop := ∃ c : Cell, Arr Z h a c .long ∧ c.slots.size = z ∧ z < 2 ^ 31 ∧ ∀ i, i < z → c.slots[i]? = some (.long (f i))
theorem LArr.lt {a : Addr} {z : Nat} {f : Nat → Int64} (A : LArr Z h a z f) : a < h.size := by obtain ⟨c, A, -⟩ := A; exact A.lt
theorem LArr.ext {h' : Heap} {a : Addr} {z : Nat} {f : Nat → Int64} (A : LArr Z h a z f) (E : Ext h h') : LArr Z h' a z f := by obtain ⟨c, A, r⟩ := A; exact ⟨c, A.ext E, r⟩
theorem LArr.other {h' : Heap} {a b : Addr} {sl : Nat} {v : Value} {z : Nat} {f : Nat → Int64} (A : LArr Z h b z f) (W : Wr h h' a sl v) (q : b ≠ a) : LArr Z h' b z f := by obtain ⟨c, A, r⟩ := A; exact ⟨c, A.other W q, r⟩
theorem LArr.keep {h' : Heap} {a : Addr} {ws : List Addr} {z : Nat} {f : Nat → Int64} (A : LArr Z h a z f) (K : Keep h h' ws) (q : a ∉ ws) : LArr Z h' a z f := by obtain ⟨c, A, r⟩ := A; exact ⟨c, ⟨K.2.1 a c A.1 q, A.2⟩, r⟩
theorem LArr.congr {a : Addr} {z : Nat} {f g : Nat → Int64} (A : LArr Z h a z f) (q : ∀ i, i < z → g i = f i) : LArr Z h a z g := by obtain ⟨c, A, r1, r2, r3⟩ := A; exact ⟨c, A, r1, r2, fun i hi => by rw [q i hi]; exact r3 i hi⟩
theorem LArr.new {a : Addr} {kA : ClassId} {z : Int32} (A : Arr Z h a (newA kA .long z) .long) : LArr Z h a z.toNatClampNeg (fun _ => 0) :=
  ⟨_, A, sz_new _ _ _, z.toNatClampNeg_lt, fun i hi => by simp [newA, hi, defaultValue]⟩
theorem LArr.set {h' : Heap} {a : Addr} {z j : Nat} {x : Int64} {f : Nat → Int64} (A : LArr Z h a z f) (W : Wr h h' a j (.long x)) : LArr Z h' a z (fun i => if i = j then x else f i) := by
  obtain ⟨c, A, r1, r2, r3⟩ := A
  refine ⟨_, A.same W, by simp [Cell.setSlot, r1], r2, fun i hi => ?_⟩
  by_cases q : i = j
  · subst q
    simp [Cell.setSlot, r1, hi]
  · simp only [q, if_false]
    rw [← r3 i hi]
    exact Array.getElem?_setIfInBounds_ne (Ne.symm q)
theorem g_laload (C : Cx p s m meth c Z n0 own bytes maxl ret nm) (d : In bytes pc 1 .laload pc') {a : Addr} {z : Nat} {f : Nat → Int64} {j : Int32} (A : LArr Z h a z f) (h1 : 0 ≤ j.toInt) (h2 : j.toInt < z) (v : Int64) (hv : f j.toInt.toNat = v) (G : Go p l e R s m args below meth c n0 Q K N h k n (mkF m pc' Ls (.long v :: st))) : Go p l e R s m args below meth c n0 Q K N h k n (mkF m pc Ls (.int j :: .ref a :: st)) := by
  obtain ⟨d, rfl⟩ := d
  obtain ⟨cl, A, r1, r2, r3⟩ := A
  have e1 : j.toNatClampNeg = j.toInt.toNat := rfl
  have hj : ¬ (j < 0 ∨ cl.slots.size ≤ j.toNatClampNeg) := by
    rw [Int32.lt_iff_toInt_lt, show (0 : Int32).toInt = 0 from rfl, r1, e1]; omega
  have hat : cl.slots[j.toNatClampNeg]? = some (.long v) := by rw [← hv, e1]; exact r3 _ (by omega)
  exact g_st (fun X eT t kt => X.laload C.1 (j := j) (v := .long v) (by rw [eT]; exact A.1) (State.isArrayOf_alike C.2.1.alike A.2.1) A.2.2 hj hat (g := mkF m pc Ls (.int j :: .ref a :: st)) rfl rfl (hb C.2.2.2.1 d) _ kt) G
theorem g_lastore (C : Cx p s m meth c Z n0 own bytes maxl ret nm) (d : In bytes pc 1 .lastore pc') {a : Addr} {z : Nat} {f : Nat → Int64} {j : Int32} {x : Int64} (A : LArr Z h a z f) (h1 : 0 ≤ j.toInt) (h2 : j.toInt < z) (ge : n0 ≤ a) (G : ∀ h', Wr h h' a j.toInt.toNat (.long x) → Go p l e R s m args below meth c n0 Q K N h' k n (mkF m pc' Ls st)) : Go p l e R s m args below meth c n0 Q K N h k n (mkF m pc Ls (.long x :: .int j :: .ref a :: st)) := by
  obtain ⟨d, rfl⟩ := d
  obtain ⟨cl, A, r1, r2, r3⟩ := A
  have e1 : j.toNatClampNeg = j.toInt.toNat := rfl
  have hj : ¬ (j < 0 ∨ cl.slots.size ≤ j.toNatClampNeg) := by
    rw [Int32.lt_iff_toInt_lt, show (0 : Int32).toInt = 0 from rfl, r1, e1]; omega
  intro T L hL X eT
  obtain ⟨T', h', X', e', W', st'⟩ := stJ X C.1 C.2.1 eT A (j := j) hj (g := mkF m pc Ls (.long x :: .int j :: .ref a :: st)) rfl rfl (hb C.2.2.2.1 d)
  obtain ⟨t, o, h1, h2⟩ := G h' W' T' _ (Fr.snoc X' hL ge) X' e'
  exact ⟨t, o, st' t h1, h2⟩
theorem g_lenLArr (C : Cx p s m meth c Z n0 own bytes maxl ret nm) (d : In bytes pc 1 .arraylength pc') {a : Addr} {z : Nat} {f : Nat → Int64} (A : LArr Z h a z f) (v : Int32) (hv : v = Int32.ofNat z) (G : Go p l e R s m args below meth c n0 Q K N h k n (mkF m pc' Ls (.int v :: st))) : Go p l e R s m args below meth c n0 Q K N h k n (mkF m pc Ls (.ref a :: st)) := by
  obtain ⟨d, rfl⟩ := d
  obtain ⟨cl, A, r1, r2, r3⟩ := A
  refine g_st (fun X eT t kt => X.arraylength C.1 (by rw [eT]; exact A.1) (State.isArrayOf_alike C.2.1.alike A.2.1) (g := mkF m pc Ls (.ref a :: st)) rfl rfl (hb C.2.2.2.1 d) _ ?_) G
  rw [r1]
  subst hv
  exact kt
/-- an array of z places at a, whose contents are f -/
def IArr (Z : State) (h : Heap) (a : Addr) (z : Nat) (f : Nat → Int32) : Prop := ∃ c : Cell, Arr Z h a c .int ∧ c.slots.size = z ∧ z < 2 ^ 31 ∧ ∀ i, i < z → c.slots[i]? = some (.int (f i))
theorem IArr.lt {a : Addr} {z : Nat} {f : Nat → Int32} (A : IArr Z h a z f) : a < h.size := by obtain ⟨c, A, -⟩ := A; exact A.lt
theorem IArr.ext {h' : Heap} {a : Addr} {z : Nat} {f : Nat → Int32} (A : IArr Z h a z f) (E : Ext h h') : IArr Z h' a z f := by obtain ⟨c, A, r⟩ := A; exact ⟨c, A.ext E, r⟩
theorem IArr.other {h' : Heap} {a b : Addr} {sl : Nat} {v : Value} {z : Nat} {f : Nat → Int32} (A : IArr Z h b z f) (W : Wr h h' a sl v) (q : b ≠ a) : IArr Z h' b z f := by obtain ⟨c, A, r⟩ := A; exact ⟨c, A.other W q, r⟩
theorem IArr.keep {h' : Heap} {a : Addr} {ws : List Addr} {z : Nat} {f : Nat → Int32} (A : IArr Z h a z f) (K : Keep h h' ws) (q : a ∉ ws) : IArr Z h' a z f := by obtain ⟨c, A, r⟩ := A; exact ⟨c, ⟨K.2.1 a c A.1 q, A.2⟩, r⟩
theorem IArr.congr {a : Addr} {z : Nat} {f g : Nat → Int32} (A : IArr Z h a z f) (q : ∀ i, i < z → g i = f i) : IArr Z h a z g := by obtain ⟨c, A, r1, r2, r3⟩ := A; exact ⟨c, A, r1, r2, fun i hi => by rw [q i hi]; exact r3 i hi⟩
theorem IArr.new {a : Addr} {kA : ClassId} {z : Int32} (A : Arr Z h a (newA kA .int z) .int) : IArr Z h a z.toNatClampNeg (fun _ => 0) :=
  ⟨_, A, sz_new _ _ _, z.toNatClampNeg_lt, fun i hi => by simp [newA, hi, defaultValue]⟩
theorem IArr.set {h' : Heap} {a : Addr} {z j : Nat} {x : Int32} {f : Nat → Int32} (A : IArr Z h a z f) (W : Wr h h' a j (.int x)) : IArr Z h' a z (fun i => if i = j then x else f i) := by
  obtain ⟨c, A, r1, r2, r3⟩ := A
  refine ⟨_, A.same W, by simp [Cell.setSlot, r1], r2, fun i hi => ?_⟩
  by_cases q : i = j
  · subst q
    simp [Cell.setSlot, r1, hi]
  · simp only [q, if_false]
    rw [← r3 i hi]
    exact Array.getElem?_setIfInBounds_ne (Ne.symm q)
theorem g_iaload (C : Cx p s m meth c Z n0 own bytes maxl ret nm) (d : In bytes pc 1 .iaload pc') {a : Addr} {z : Nat} {f : Nat → Int32} {j : Int32} (A : IArr Z h a z f) (h1 : 0 ≤ j.toInt) (h2 : j.toInt < z) (v : Int32) (hv : f j.toInt.toNat = v) (G : Go p l e R s m args below meth c n0 Q K N h k n (mkF m pc' Ls (.int v :: st))) : Go p l e R s m args below meth c n0 Q K N h k n (mkF m pc Ls (.int j :: .ref a :: st)) := by
  obtain ⟨d, rfl⟩ := d
  obtain ⟨cl, A, r1, r2, r3⟩ := A
  have e1 : j.toNatClampNeg = j.toInt.toNat := rfl
  have hj : ¬ (j < 0 ∨ cl.slots.size ≤ j.toNatClampNeg) := by
    rw [Int32.lt_iff_toInt_lt, show (0 : Int32).toInt = 0 from rfl, r1, e1]; omega
  have hat : cl.slots[j.toNatClampNeg]? = some (.int v) := by rw [← hv, e1]; exact r3 _ (by omega)
  exact g_st (fun X eT t kt => X.iaload C.1 (j := j) (v := .int v) (by rw [eT]; exact A.1) (State.isArrayOf_alike C.2.1.alike A.2.1) A.2.2 hj hat (g := mkF m pc Ls (.int j :: .ref a :: st)) rfl rfl (hb C.2.2.2.1 d) _ kt) G
theorem g_iastore (C : Cx p s m meth c Z n0 own bytes maxl ret nm) (d : In bytes pc 1 .iastore pc') {a : Addr} {z : Nat} {f : Nat → Int32} {j : Int32} {x : Int32} (A : IArr Z h a z f) (h1 : 0 ≤ j.toInt) (h2 : j.toInt < z) (ge : n0 ≤ a) (G : ∀ h', Wr h h' a j.toInt.toNat (.int x) → Go p l e R s m args below meth c n0 Q K N h' k n (mkF m pc' Ls st)) : Go p l e R s m args below meth c n0 Q K N h k n (mkF m pc Ls (.int x :: .int j :: .ref a :: st)) := by
  obtain ⟨d, rfl⟩ := d
  obtain ⟨cl, A, r1, r2, r3⟩ := A
  have e1 : j.toNatClampNeg = j.toInt.toNat := rfl
  have hj : ¬ (j < 0 ∨ cl.slots.size ≤ j.toNatClampNeg) := by
    rw [Int32.lt_iff_toInt_lt, show (0 : Int32).toInt = 0 from rfl, r1, e1]; omega
  intro T L hL X eT
  obtain ⟨T', h', X', e', W', st'⟩ := stI X C.1 C.2.1 eT A (j := j) hj (g := mkF m pc Ls (.int x :: .int j :: .ref a :: st)) rfl rfl (hb C.2.2.2.1 d)
  obtain ⟨t, o, h1, h2⟩ := G h' W' T' _ (Fr.snoc X' hL ge) X' e'
  exact ⟨t, o, st' t h1, h2⟩
theorem g_lenIArr (C : Cx p s m meth c Z n0 own bytes maxl ret nm) (d : In bytes pc 1 .arraylength pc') {a : Addr} {z : Nat} {f : Nat → Int32} (A : IArr Z h a z f) (v : Int32) (hv : v = Int32.ofNat z) (G : Go p l e R s m args below meth c n0 Q K N h k n (mkF m pc' Ls (.int v :: st))) : Go p l e R s m args below meth c n0 Q K N h k n (mkF m pc Ls (.ref a :: st)) := by
  obtain ⟨d, rfl⟩ := d
  obtain ⟨cl, A, r1, r2, r3⟩ := A
  refine g_st (fun X eT t kt => X.arraylength C.1 (by rw [eT]; exact A.1) (State.isArrayOf_alike C.2.1.alike A.2.1) (g := mkF m pc Ls (.ref a :: st)) rfl rfl (hb C.2.2.2.1 d) _ ?_) G
  rw [r1]
  subst hv
  exact kt
/-- an array of z places at a, whose contents are f -/
def BArr (Z : State) (h : Heap) (a : Addr) (z : Nat) (f : Nat → Int32) : Prop := ∃ c : Cell, Arr Z h a c .byte ∧ c.slots.size = z ∧ z < 2 ^ 31 ∧ ∀ i, i < z → c.slots[i]? = some (.int (f i))
theorem BArr.lt {a : Addr} {z : Nat} {f : Nat → Int32} (A : BArr Z h a z f) : a < h.size := by obtain ⟨c, A, -⟩ := A; exact A.lt
theorem BArr.ext {h' : Heap} {a : Addr} {z : Nat} {f : Nat → Int32} (A : BArr Z h a z f) (E : Ext h h') : BArr Z h' a z f := by obtain ⟨c, A, r⟩ := A; exact ⟨c, A.ext E, r⟩
theorem BArr.other {h' : Heap} {a b : Addr} {sl : Nat} {v : Value} {z : Nat} {f : Nat → Int32} (A : BArr Z h b z f) (W : Wr h h' a sl v) (q : b ≠ a) : BArr Z h' b z f := by obtain ⟨c, A, r⟩ := A; exact ⟨c, A.other W q, r⟩
theorem BArr.keep {h' : Heap} {a : Addr} {ws : List Addr} {z : Nat} {f : Nat → Int32} (A : BArr Z h a z f) (K : Keep h h' ws) (q : a ∉ ws) : BArr Z h' a z f := by obtain ⟨c, A, r⟩ := A; exact ⟨c, ⟨K.2.1 a c A.1 q, A.2⟩, r⟩
theorem BArr.congr {a : Addr} {z : Nat} {f g : Nat → Int32} (A : BArr Z h a z f) (q : ∀ i, i < z → g i = f i) : BArr Z h a z g := by obtain ⟨c, A, r1, r2, r3⟩ := A; exact ⟨c, A, r1, r2, fun i hi => by rw [q i hi]; exact r3 i hi⟩
theorem BArr.new {a : Addr} {kA : ClassId} {z : Int32} (A : Arr Z h a (newA kA .byte z) .byte) : BArr Z h a z.toNatClampNeg (fun _ => 0) :=
  ⟨_, A, sz_new _ _ _, z.toNatClampNeg_lt, fun i hi => by simp [newA, hi, defaultValue]⟩
theorem BArr.set {h' : Heap} {a : Addr} {z j : Nat} {x : Int32} {f : Nat → Int32} (A : BArr Z h a z f) (W : Wr h h' a j (.int x)) : BArr Z h' a z (fun i => if i = j then x else f i) := by
  obtain ⟨c, A, r1, r2, r3⟩ := A
  refine ⟨_, A.same W, by simp [Cell.setSlot, r1], r2, fun i hi => ?_⟩
  by_cases q : i = j
  · subst q
    simp [Cell.setSlot, r1, hi]
  · simp only [q, if_false]
    rw [← r3 i hi]
    exact Array.getElem?_setIfInBounds_ne (Ne.symm q)
theorem g_baload (C : Cx p s m meth c Z n0 own bytes maxl ret nm) (d : In bytes pc 1 .baload pc') {a : Addr} {z : Nat} {f : Nat → Int32} {j : Int32} (A : BArr Z h a z f) (h1 : 0 ≤ j.toInt) (h2 : j.toInt < z) (v : Int32) (hv : f j.toInt.toNat = v) (G : Go p l e R s m args below meth c n0 Q K N h k n (mkF m pc' Ls (.int v :: st))) : Go p l e R s m args below meth c n0 Q K N h k n (mkF m pc Ls (.int j :: .ref a :: st)) := by
  obtain ⟨d, rfl⟩ := d
  obtain ⟨cl, A, r1, r2, r3⟩ := A
  have e1 : j.toNatClampNeg = j.toInt.toNat := rfl
  have hj : ¬ (j < 0 ∨ cl.slots.size ≤ j.toNatClampNeg) := by
    rw [Int32.lt_iff_toInt_lt, show (0 : Int32).toInt = 0 from rfl, r1, e1]; omega
  have hat : cl.slots[j.toNatClampNeg]? = some (.int v) := by rw [← hv, e1]; exact r3 _ (by omega)
  exact g_st (fun X eT t kt => X.baloadBytes C.1 (j := j) (v := .int v) (by rw [eT]; exact A.1) (State.isArrayOf_alike C.2.1.alike A.2.1) A.2.2 hj hat (g := mkF m pc Ls (.int j :: .ref a :: st)) rfl rfl (hb C.2.2.2.1 d) _ kt) G
theorem g_bastore (C : Cx p s m meth c Z n0 own bytes maxl ret nm) (d : In bytes pc 1 .bastore pc') {a : Addr} {z : Nat} {f : Nat → Int32} {j : Int32} {x : Int32} (A : BArr Z h a z f) (h1 : 0 ≤ j.toInt) (h2 : j.toInt < z) (ge : n0 ≤ a) (G : ∀ h', Wr h h' a j.toInt.toNat (.int x.toInt8.toInt32) → Go p l e R s m args below meth c n0 Q K N h' k n (mkF m pc' Ls st)) : Go p l e R s m args below meth c n0 Q K N h k n (mkF m pc Ls (.int x :: .int j :: .ref a :: st)) := by
  obtain ⟨d, rfl⟩ := d
  obtain ⟨cl, A, r1, r2, r3⟩ := A
  have e1 : j.toNatClampNeg = j.toInt.toNat := rfl
  have hj : ¬ (j < 0 ∨ cl.slots.size ≤ j.toNatClampNeg) := by
    rw [Int32.lt_iff_toInt_lt, show (0 : Int32).toInt = 0 from rfl, r1, e1]; omega
  intro T L hL X eT
  obtain ⟨T', h', X', e', W', st'⟩ := stB X C.1 C.2.1 eT A (j := j) hj (g := mkF m pc Ls (.int x :: .int j :: .ref a :: st)) rfl rfl (hb C.2.2.2.1 d)
  obtain ⟨t, o, h1, h2⟩ := G h' W' T' _ (Fr.snoc X' hL ge) X' e'
  exact ⟨t, o, st' t h1, h2⟩
theorem g_lenBArr (C : Cx p s m meth c Z n0 own bytes maxl ret nm) (d : In bytes pc 1 .arraylength pc') {a : Addr} {z : Nat} {f : Nat → Int32} (A : BArr Z h a z f) (v : Int32) (hv : v = Int32.ofNat z) (G : Go p l e R s m args below meth c n0 Q K N h k n (mkF m pc' Ls (.int v :: st))) : Go p l e R s m args below meth c n0 Q K N h k n (mkF m pc Ls (.ref a :: st)) := by
  obtain ⟨d, rfl⟩ := d
  obtain ⟨cl, A, r1, r2, r3⟩ := A
  refine g_st (fun X eT t kt => X.arraylength C.1 (by rw [eT]; exact A.1) (State.isArrayOf_alike C.2.1.alike A.2.1) (g := mkF m pc Ls (.ref a :: st)) rfl rfl (hb C.2.2.2.1 d) _ ?_) G
  rw [r1]
  subst hv
  exact kt
theorem g_join {ι : Type} (hh : ι → Heap) (k' n' : Nat) (f : ι → JFrame) (P : ι → Prop) {f0 : JFrame} (H : (∀ x, P x → Go p l e R s m args below meth c n0 Q K N (hh x) (k') (n') ((f x))) → Go p l e R s m args below meth c n0 Q K N h k n f0) (G : ∀ x, P x → Go p l e R s m args below meth c n0 Q K N (hh x) (k') (n') ((f x))) : Go p l e R s m args below meth c n0 Q K N h k n f0 := H G
theorem g_loop {ι : Type} (hh : ι → Heap) (f : ι → JFrame) (P : ι → Prop) (μ : ι → Nat) (step : ∀ x, P x → (∀ y, P y → μ y < μ x → Go p l e R s m args below meth c n0 Q K N (hh y) k n ((f y))) → Go p l e R s m args below meth c n0 Q K N (hh x) k n ((f x))) : ∀ x, P x → Go p l e R s m args below meth c n0 Q K N (hh x) k n ((f x)) := by
  intro x
  generalize hm : μ x = t
  induction t using Nat.strongRecOn generalizing x with
  | _ t ih => exact fun hx => step x hx fun y hy hlt => ih (μ y) (by omega) y rfl hy
end Kit
def Rg (x : Int32) (b : Int) : Prop := 0 ≤ x.toInt ∧ x.toInt ≤ b
theorem rg_mono {x : Int32} {a b : Int} (h : Rg x a) (q : a ≤ b) : Rg x b := ⟨h.1, Int.le_trans h.2 q⟩
theorem and_rg (x m : Int32) (b : Int) (h : 0 ≤ m.toInt ∧ m.toInt ≤ b) : Rg (x &&& m) b := by
  have := c_and x m h.1
  exact ⟨this.1, Int.le_trans this.2 h.2⟩
theorem l2i_rg (x : Int64) : Rg ((x &&& 65535).toInt32) 65535 := by
  have h1 := c_maskL x 65535 16 (by decide) (by decide)
  have h2 := c_l2i (x &&& 65535)
  have := rng32 (x &&& 65535).toInt32
  unfold Rg
  omega
/-- a colour's bits where they lie -/
def vOf (mx sh : Int32) : Int64 := mx.toInt64 * shlJ 1 sh
theorem shl_v (mx sh : Int32) : shlJ mx.toInt64 sh = vOf mx sh := shlmL rfl
def okP (tc bpp depth rs gs bs : Int32) : Prop := ¬ tc = 0 ∧ bpp = 32 ∧ ¬ (24 < depth) ∧ rs < 32 ∧ gs < 32 ∧ bs < 32
def mOf (rm gm bm rs gs bs : Int32) : Int64 := (shlJ rm.toInt64 rs ||| shlJ gm.toInt64 gs) ||| shlJ bm.toInt64 bs
def cpsR (tc bpp depth rm gm bm rs gs bs r : Int32) : Prop := (¬ okP tc bpp depth rs gs bs ∧ r = -1) ∨ (okP tc bpp depth rs gs bs ∧ mOf rm gm bm rs gs bs &&& (-16777216) = 0 ∧ r = 0) ∨ (okP tc bpp depth rs gs bs ∧ ¬ mOf rm gm bm rs gs bs &&& (-16777216) = 0 ∧ mOf rm gm bm rs gs bs &&& (-4294967041) = 0 ∧ r = 8) ∨ (okP tc bpp depth rs gs bs ∧ ¬ mOf rm gm bm rs gs bs &&& (-16777216) = 0 ∧ ¬ mOf rm gm bm rs gs bs &&& (-4294967041) = 0 ∧ r = -1)
section Cps
variable {tc bpp depth rm gm bm rs gs bs r : Int32}
theorem cpsE (tc bpp depth rm gm bm rs gs bs : Int32) : ∃ r, cpsR tc bpp depth rm gm bm rs gs bs r := by
  by_cases a : okP tc bpp depth rs gs bs
  · by_cases b : mOf rm gm bm rs gs bs &&& (-16777216) = 0
    · exact ⟨_, Or.inr (Or.inl ⟨a, b, rfl⟩)⟩
    · by_cases c : mOf rm gm bm rs gs bs &&& (-4294967041) = 0
      · exact ⟨_, Or.inr (Or.inr (Or.inl ⟨a, b, c, rfl⟩))⟩
      · exact ⟨_, Or.inr (Or.inr (Or.inr ⟨a, b, c, rfl⟩))⟩
  · exact ⟨_, Or.inl ⟨a, rfl⟩⟩
theorem cps_no (a : ¬ okP tc bpp depth rs gs bs) (h : cpsR tc bpp depth rm gm bm rs gs bs r) : r = -1 := by
  rcases h with h | h | h | h
  · exact h.2
  · exact absurd h.1 a
  · exact absurd h.1 a
  · exact absurd h.1 a
theorem cps_0 (a : okP tc bpp depth rs gs bs) (b : mOf rm gm bm rs gs bs &&& (-16777216) = 0) (h : cpsR tc bpp depth rm gm bm rs gs bs r) : r = 0 := by
  rcases h with h | h | h | h
  · exact absurd a h.1
  · exact h.2.2
  · exact absurd b h.2.1
  · exact absurd b h.2.1
theorem cps_8 (a : okP tc bpp depth rs gs bs) (b : ¬ mOf rm gm bm rs gs bs &&& (-16777216) = 0) (c : mOf rm gm bm rs gs bs &&& (-4294967041) = 0) (h : cpsR tc bpp depth rm gm bm rs gs bs r) : r = 8 := by
  rcases h with h | h | h | h
  · exact absurd a h.1
  · exact absurd h.2.1 b
  · exact h.2.2.2
  · exact absurd c h.2.2.1
theorem cps_m (a : okP tc bpp depth rs gs bs) (b : ¬ mOf rm gm bm rs gs bs &&& (-16777216) = 0) (c : ¬ mOf rm gm bm rs gs bs &&& (-4294967041) = 0) (h : cpsR tc bpp depth rm gm bm rs gs bs r) : r = -1 := by
  rcases h with h | h | h | h
  · exact h.2
  · exact absurd h.2.1 b
  · exact absurd h.2.2.1 c
  · exact h.2.2.2
end Cps
def fitP (mx sh lo hi : Int32) : Prop := vOf mx sh < shlJ 1 hi ∧ vOf mx sh - (vOf mx sh / shlJ 1 lo) * shlJ 1 lo = 0
def fitR (mx sh lo hi r : Int32) : Prop := (fitP mx sh lo hi ∧ r = 1) ∨ (¬ fitP mx sh lo hi ∧ r = 0)
theorem fitT {mx sh lo hi r : Int32} (q : fitP mx sh lo hi) (h : fitR mx sh lo hi r) : r = 1 := h.elim (fun h => h.2) (fun h => absurd q h.1)
theorem fitF {mx sh lo hi r : Int32} (q : ¬ fitP mx sh lo hi) (h : fitR mx sh lo hi r) : r = 0 := h.elim (fun h => absurd h.1 q) (fun h => h.2)
/-- the bits -/
theorem and_not_zero (x m : BitVec 64) : x &&& ~~~m = 0 ↔ x &&& m = x := by
  constructor
  · intro h
    apply BitVec.eq_of_getLsbD_eq
    intro i hi
    have := congrArg (fun z => BitVec.getLsbD z i) h
    simp [hi] at this ⊢
    exact this
  · intro h
    apply BitVec.eq_of_getLsbD_eq
    intro i hi
    have := congrArg (fun z => BitVec.getLsbD z i) h
    simp [hi] at this ⊢
    exact this
theorem hi_mask (x m nm : Int64) (k : Nat) (hk : k ≤ 63) (hm : m.toBitVec.toNat = 2 ^ k - 1) (hn : nm.toBitVec = ~~~m.toBitVec) (hx : 0 ≤ x.toInt) : x &&& nm = 0 ↔ x.toInt < (2 ^ k : Nat) := by
  have h1 := c_maskL x m k hk hm
  have e : x &&& nm = 0 ↔ x &&& m = x := by
    rw [← Int64.toBitVec_inj, ← Int64.toBitVec_inj, Int64.toBitVec_and, Int64.toBitVec_and, hn]
    exact and_not_zero _ _
  rw [e, ← Int64.toInt_inj, h1]
  constructor
  · intro z; rw [← z]; exact Int.emod_lt_of_pos _ (by have := Nat.two_pow_pos k; omega)
  · intro z; exact Int.emod_eq_of_lt hx z
theorem or_zero (a b : Int64) : a ||| b = 0 ↔ a = 0 ∧ b = 0 := by
  rw [← Int64.toBitVec_inj, ← Int64.toBitVec_inj, ← Int64.toBitVec_inj, Int64.toBitVec_or]
  exact BitVec.or_eq_zero_iff
theorem and_or_l (a b c : Int64) : (a ||| b) &&& c = (a &&& c) ||| (b &&& c) := by
  apply Int64.toBitVec_inj.mp
  rw [Int64.toBitVec_and, Int64.toBitVec_or, Int64.toBitVec_or, Int64.toBitVec_and, Int64.toBitVec_and]
  apply BitVec.eq_of_getLsbD_eq
  intro i hi
  simp [Bool.and_or_distrib_right]
theorem m_zero (a b c m : Int64) : ((a ||| b) ||| c) &&& m = 0 ↔ a &&& m = 0 ∧ b &&& m = 0 ∧ c &&& m = 0 := by
  rw [and_or_l, and_or_l, or_zero, or_zero, and_assoc]
theorem v_nonneg {mx sh : Int32} (h1 : Rg mx 65535) (h2 : Rg sh 255) (h3 : sh < 32) : 0 ≤ (vOf mx sh).toInt ∧ (vOf mx sh).toInt < 281474976710656 := by
  rw [Int32.lt_iff_toInt_lt, show (32 : Int32).toInt = 32 from rfl] at h3
  have h4 : 1 ≤ (shlJ 1 sh).toInt ∧ (shlJ 1 sh).toInt ≤ 2147483648 := shlrL (K := 31) (b := 1) (U := 2147483648) (x := 1) (by decide) sh h2.1 (by omega)
  have h5 := c_lmul mx.toInt64 (shlJ 1 sh)
  rw [c_i2l] at h5
  have h6 := rng64 (mx.toInt64 * shlJ 1 sh)
  have h7 := Int.mul_nonneg h1.1 (show 0 ≤ (shlJ 1 sh).toInt by omega)
  have h8 := Int.mul_le_mul h1.2 h4.2 (by omega) (by omega)
  unfold vOf
  omega
theorem fit24 {mx sh : Int32} (h1 : Rg mx 65535) (h2 : Rg sh 255) (h3 : sh < 32) : vOf mx sh &&& (-16777216) = 0 ↔ fitP mx sh 0 24 := by
  obtain ⟨a, b⟩ := v_nonneg h1 h2 h3
  rw [hi_mask _ 16777215 (-16777216) 24 (by decide) (by decide) (by decide) a]
  unfold fitP
  rw [show shlJ 1 24 = (16777216 : Int64) from rfl, show shlJ 1 0 = (1 : Int64) from rfl, Int64.lt_iff_toInt_lt]
  have c := (c_lrem (vOf mx sh) 1 1 rfl).1 a
  rw [Int.emod_one] at c
  have d : vOf mx sh - (vOf mx sh / 1) * 1 = 0 := Int64.toInt_inj.mp c
  simp only [d, and_true]
  exact Iff.rfl
theorem fit32 {mx sh : Int32} (h1 : Rg mx 65535) (h2 : Rg sh 255) (h3 : sh < 32) : vOf mx sh &&& (-4294967041) = 0 ↔ fitP mx sh 8 32 := by
  obtain ⟨a, b⟩ := v_nonneg h1 h2 h3
  have e : vOf mx sh &&& (-4294967041) = (-4294967296 ||| 255) &&& vOf mx sh := by rw [show (-4294967296 ||| 255 : Int64) = -4294967041 from rfl, Int64.and_comm]
  rw [e, and_or_l, or_zero, Int64.and_comm, Int64.and_comm 255, hi_mask _ 4294967295 (-4294967296) 32 (by decide) (by decide) (by decide) a]
  unfold fitP
  rw [show shlJ 1 32 = (4294967296 : Int64) from rfl, show shlJ 1 8 = (256 : Int64) from rfl, Int64.lt_iff_toInt_lt, ← Int64.toInt_inj, ← Int64.toInt_inj, (c_lrem (vOf mx sh) 256 256 rfl).1 a, c_maskL _ 255 8 (by decide) (by decide)]
  exact Iff.rfl

theorem wd_0 {a0 : Array Value} {Z : State} (hw : ∀ d ∈ tables_1, d.before a0 Z = true) : (Jvm.Cond.constantLong "com/example/framewire/framewire/rfb/PixelFormatCompressedPixelShiftPinLaw" (7 : Nat) (65535 : Int64)).before a0 Z = true := hw _ (List.mem_of_getElem? (i := 0) rfl)
theorem wd_1 {a0 : Array Value} {Z : State} (hw : ∀ d ∈ tables_1, d.before a0 Z = true) : (Jvm.Cond.classLink "com/example/framewire/framewire/rfb/PixelFormatCompressedPixelShiftPinLaw" (9 : Nat) "com/example/framewire/framewire/rfb/PixelFormat").before a0 Z = true := hw _ (List.mem_of_getElem? (i := 1) rfl)
theorem wd_2 {a0 : Array Value} {Z : State} (hw : ∀ d ∈ tables_1, d.before a0 Z = true) : (Jvm.Cond.instantiable "com/example/framewire/framewire/rfb/PixelFormat" (10 : Nat)).before a0 Z = true := hw _ (List.mem_of_getElem? (i := 2) rfl)
theorem wd_3 {a0 : Array Value} {Z : State} (hw : ∀ d ∈ tables_1, d.before a0 Z = true) : (Jvm.Cond.initialized "com/example/framewire/framewire/rfb/PixelFormat").before a0 Z = true := hw _ (List.mem_of_getElem? (i := 3) rfl)
theorem wd_4 {a0 : Array Value} {Z : State} (hw : ∀ d ∈ tables_1, d.before a0 Z = true) : (Jvm.Cond.methodLink "com/example/framewire/framewire/rfb/PixelFormatCompressedPixelShiftPinLaw" (11 : Nat) ({ cls := "com/example/framewire/framewire/rfb/PixelFormat", name := "<init>", desc := "(IIZZIIIIII)V" } : Jvm.MethodName)).before a0 Z = true := hw _ (List.mem_of_getElem? (i := 4) rfl)
theorem wd_5 {a0 : Array Value} {Z : State} (hw : ∀ d ∈ tables_1, d.before a0 Z = true) : (Jvm.Cond.instanceMethod ({ cls := "com/example/framewire/framewire/rfb/PixelFormat", name := "<init>", desc := "(IIZZIIIIII)V" } : Jvm.MethodName)).before a0 Z = true := hw _ (List.mem_of_getElem? (i := 5) rfl)
theorem wd_6 {a0 : Array Value} {Z : State} (hw : ∀ d ∈ tables_1, d.before a0 Z = true) : (Jvm.Cond.code ({ cls := "com/example/framewire/framewire/rfb/PixelFormat", name := "<init>", desc := "(IIZZIIIIII)V" } : Jvm.MethodName) prog_83_method_1_code (11 : Nat) (Option.none : Option Jvm.ClassFile.FieldType)).before a0 Z = true := hw _ (List.mem_of_getElem? (i := 6) rfl)
theorem wd_7 {a0 : Array Value} {Z : State} (hw : ∀ d ∈ tables_1, d.before a0 Z = true) : (Jvm.Cond.methodLink "com/example/framewire/framewire/rfb/PixelFormat" (1 : Nat) ({ cls := "java/lang/Record", name := "<init>", desc := "()V" } : Jvm.MethodName)).before a0 Z = true := hw _ (List.mem_of_getElem? (i := 7) rfl)
theorem wd_8 {a0 : Array Value} {Z : State} (hw : ∀ d ∈ tables_1, d.before a0 Z = true) : (Jvm.Cond.instanceMethod ({ cls := "java/lang/Record", name := "<init>", desc := "()V" } : Jvm.MethodName)).before a0 Z = true := hw _ (List.mem_of_getElem? (i := 8) rfl)
theorem wd_10 {a0 : Array Value} {Z : State} (hw : ∀ d ∈ tables_1, d.before a0 Z = true) : (Jvm.Cond.initialized "java/lang/Record").before a0 Z = true := hw _ (List.mem_of_getElem? (i := 10) rfl)
theorem wd_11 {a0 : Array Value} {Z : State} (hw : ∀ d ∈ tables_1, d.before a0 Z = true) : (Jvm.Cond.code ({ cls := "java/lang/Record", name := "<init>", desc := "()V" } : Jvm.MethodName) jdk_30_method_1_code (1 : Nat) (Option.none : Option Jvm.ClassFile.FieldType)).before a0 Z = true := hw _ (List.mem_of_getElem? (i := 11) rfl)
theorem wd_12 {a0 : Array Value} {Z : State} (hw : ∀ d ∈ tables_1, d.before a0 Z = true) : (Jvm.Cond.methodLink "java/lang/Record" (1 : Nat) ({ cls := "java/lang/Object", name := "<init>", desc := "()V" } : Jvm.MethodName)).before a0 Z = true := hw _ (List.mem_of_getElem? (i := 12) rfl)
theorem wd_13 {a0 : Array Value} {Z : State} (hw : ∀ d ∈ tables_1, d.before a0 Z = true) : (Jvm.Cond.instanceMethod ({ cls := "java/lang/Object", name := "<init>", desc := "()V" } : Jvm.MethodName)).before a0 Z = true := hw _ (List.mem_of_getElem? (i := 13) rfl)
theorem wd_14 {a0 : Array Value} {Z : State} (hw : ∀ d ∈ tables_1, d.before a0 Z = true) : (Jvm.Cond.code ({ cls := "java/lang/Object", name := "<init>", desc := "()V" } : Jvm.MethodName) object_method_1_code (1 : Nat) (Option.none : Option Jvm.ClassFile.FieldType)).before a0 Z = true := hw _ (List.mem_of_getElem? (i := 14) rfl)
theorem wd_15 {a0 : Array Value} {Z : State} (hw : ∀ d ∈ tables_1, d.before a0 Z = true) : (Jvm.Cond.fieldLink "com/example/framewire/framewire/rfb/PixelFormat" (7 : Nat) "com/example/framewire/framewire/rfb/PixelFormat" "bitsPerPixel" "I").before a0 Z = true := hw _ (List.mem_of_getElem? (i := 15) rfl)
theorem wd_16 {a0 : Array Value} {Z : State} (hw : ∀ d ∈ tables_1, d.before a0 Z = true) : (Jvm.Cond.laysFinal "com/example/framewire/framewire/rfb/PixelFormat" "com/example/framewire/framewire/rfb/PixelFormat" "bitsPerPixel" "I").before a0 Z = true := hw _ (List.mem_of_getElem? (i := 16) rfl)
theorem wd_17 {a0 : Array Value} {Z : State} (hw : ∀ d ∈ tables_1, d.before a0 Z = true) : (Jvm.Cond.fieldLink "com/example/framewire/framewire/rfb/PixelFormat" (13 : Nat) "com/example/framewire/framewire/rfb/PixelFormat" "depth" "I").before a0 Z = true := hw _ (List.mem_of_getElem? (i := 17) rfl)
theorem wd_18 {a0 : Array Value} {Z : State} (hw : ∀ d ∈ tables_1, d.before a0 Z = true) : (Jvm.Cond.laysFinal "com/example/framewire/framewire/rfb/PixelFormat" "com/example/framewire/framewire/rfb/PixelFormat" "depth" "I").before a0 Z = true := hw _ (List.mem_of_getElem? (i := 18) rfl)
theorem wd_19 {a0 : Array Value} {Z : State} (hw : ∀ d ∈ tables_1, d.before a0 Z = true) : (Jvm.Cond.fieldLink "com/example/framewire/framewire/rfb/PixelFormat" (16 : Nat) "com/example/framewire/framewire/rfb/PixelFormat" "bigEndian" "Z").before a0 Z = true := hw _ (List.mem_of_getElem? (i := 19) rfl)
theorem wd_20 {a0 : Array Value} {Z : State} (hw : ∀ d ∈ tables_1, d.before a0 Z = true) : (Jvm.Cond.laysFinal "com/example/framewire/framewire/rfb/PixelFormat" "com/example/framewire/framewire/rfb/PixelFormat" "bigEndian" "Z").before a0 Z = true := hw _ (List.mem_of_getElem? (i := 20) rfl)
theorem wd_21 {a0 : Array Value} {Z : State} (hw : ∀ d ∈ tables_1, d.before a0 Z = true) : (Jvm.Cond.fieldLink "com/example/framewire/framewire/rfb/PixelFormat" (20 : Nat) "com/example/framewire/framewire/rfb/PixelFormat" "trueColour" "Z").before a0 Z = true := hw _ (List.mem_of_getElem? (i := 21) rfl)
theorem wd_22 {a0 : Array Value} {Z : State} (hw : ∀ d ∈ tables_1, d.before a0 Z = true) : (Jvm.Cond.laysFinal "com/example/framewire/framewire/rfb/PixelFormat" "com/example/framewire/framewire/rfb/PixelFormat" "trueColour" "Z").before a0 Z = true := hw _ (List.mem_of_getElem? (i := 22) rfl)
theorem wd_23 {a0 : Array Value} {Z : State} (hw : ∀ d ∈ tables_1, d.before a0 Z = true) : (Jvm.Cond.fieldLink "com/example/framewire/framewire/rfb/PixelFormat" (23 : Nat) "com/example/framewire/framewire/rfb/PixelFormat" "redMax" "I").before a0 Z = true := hw _ (List.mem_of_getElem? (i := 23) rfl)
theorem wd_24 {a0 : Array Value} {Z : State} (hw : ∀ d ∈ tables_1, d.before a0 Z = true) : (Jvm.Cond.laysFinal "com/example/framewire/framewire/rfb/PixelFormat" "com/example/framewire/framewire/rfb/PixelFormat" "redMax" "I").before a0 Z = true := hw _ (List.mem_of_getElem? (i := 24) rfl)
theorem wd_25 {a0 : Array Value} {Z : State} (hw : ∀ d ∈ tables_1, d.before a0 Z = true) : (Jvm.Cond.fieldLink "com/example/framewire/framewire/rfb/PixelFormat" (26 : Nat) "com/example/framewire/framewire/rfb/PixelFormat" "greenMax" "I").before a0 Z = true := hw _ (List.mem_of_getElem? (i := 25) rfl)
theorem wd_26 {a0 : Array Value} {Z : State} (hw : ∀ d ∈ tables_1, d.before a0 Z = true) : (Jvm.Cond.laysFinal "com/example/framewire/framewire/rfb/PixelFormat" "com/example/framewire/framewire/rfb/PixelFormat" "greenMax" "I").before a0 Z = true := hw _ (List.mem_of_getElem? (i := 26) rfl)
theorem wd_27 {a0 : Array Value} {Z : State} (hw : ∀ d ∈ tables_1, d.before a0 Z = true) : (Jvm.Cond.fieldLink "com/example/framewire/framewire/rfb/PixelFormat" (29 : Nat) "com/example/framewire/framewire/rfb/PixelFormat" "blueMax" "I").before a0 Z = true := hw _ (List.mem_of_getElem? (i := 27) rfl)
theorem wd_28 {a0 : Array Value} {Z : State} (hw : ∀ d ∈ tables_1, d.before a0 Z = true) : (Jvm.Cond.laysFinal "com/example/framewire/framewire/rfb/PixelFormat" "com/example/framewire/framewire/rfb/PixelFormat" "blueMax" "I").before a0 Z = true := hw _ (List.mem_of_getElem? (i := 28) rfl)
theorem wd_29 {a0 : Array Value} {Z : State} (hw : ∀ d ∈ tables_1, d.before a0 Z = true) : (Jvm.Cond.fieldLink "com/example/framewire/framewire/rfb/PixelFormat" (32 : Nat) "com/example/framewire/framewire/rfb/PixelFormat" "redShift" "I").before a0 Z = true := hw _ (List.mem_of_getElem? (i := 29) rfl)
theorem wd_30 {a0 : Array Value} {Z : State} (hw : ∀ d ∈ tables_1, d.before a0 Z = true) : (Jvm.Cond.laysFinal "com/example/framewire/framewire/rfb/PixelFormat" "com/example/framewire/framewire/rfb/PixelFormat" "redShift" "I").before a0 Z = true := hw _ (List.mem_of_getElem? (i := 30) rfl)
theorem wd_31 {a0 : Array Value} {Z : State} (hw : ∀ d ∈ tables_1, d.before a0 Z = true) : (Jvm.Cond.fieldLink "com/example/framewire/framewire/rfb/PixelFormat" (35 : Nat) "com/example/framewire/framewire/rfb/PixelFormat" "greenShift" "I").before a0 Z = true := hw _ (List.mem_of_getElem? (i := 31) rfl)
theorem wd_32 {a0 : Array Value} {Z : State} (hw : ∀ d ∈ tables_1, d.before a0 Z = true) : (Jvm.Cond.laysFinal "com/example/framewire/framewire/rfb/PixelFormat" "com/example/framewire/framewire/rfb/PixelFormat" "greenShift" "I").before a0 Z = true := hw _ (List.mem_of_getElem? (i := 32) rfl)
theorem wd_33 {a0 : Array Value} {Z : State} (hw : ∀ d ∈ tables_1, d.before a0 Z = true) : (Jvm.Cond.fieldLink "com/example/framewire/framewire/rfb/PixelFormat" (38 : Nat) "com/example/framewire/framewire/rfb/PixelFormat" "blueShift" "I").before a0 Z = true := hw _ (List.mem_of_getElem? (i := 33) rfl)
theorem wd_34 {a0 : Array Value} {Z : State} (hw : ∀ d ∈ tables_1, d.before a0 Z = true) : (Jvm.Cond.laysFinal "com/example/framewire/framewire/rfb/PixelFormat" "com/example/framewire/framewire/rfb/PixelFormat" "blueShift" "I").before a0 Z = true := hw _ (List.mem_of_getElem? (i := 34) rfl)
theorem wd_35 {a0 : Array Value} {Z : State} (hw : ∀ d ∈ tables_1, d.before a0 Z = true) : (Jvm.Cond.methodLink "com/example/framewire/framewire/rfb/PixelFormatCompressedPixelShiftPinLaw" (14 : Nat) ({ cls := "com/example/framewire/framewire/rfb/PixelFormat", name := "compressedPixelShift", desc := "()I" } : Jvm.MethodName)).before a0 Z = true := hw _ (List.mem_of_getElem? (i := 35) rfl)
theorem wd_36 {a0 : Array Value} {Z : State} (hw : ∀ d ∈ tables_1, d.before a0 Z = true) : (Jvm.Cond.declares ({ cls := "com/example/framewire/framewire/rfb/PixelFormat", name := "compressedPixelShift", desc := "()I" } : Jvm.MethodName)).before a0 Z = true := hw _ (List.mem_of_getElem? (i := 36) rfl)
theorem wd_37 {a0 : Array Value} {Z : State} (hw : ∀ d ∈ tables_1, d.before a0 Z = true) : (Jvm.Cond.instanceMethod ({ cls := "com/example/framewire/framewire/rfb/PixelFormat", name := "compressedPixelShift", desc := "()I" } : Jvm.MethodName)).before a0 Z = true := hw _ (List.mem_of_getElem? (i := 37) rfl)
theorem wd_38 {a0 : Array Value} {Z : State} (hw : ∀ d ∈ tables_1, d.before a0 Z = true) : (Jvm.Cond.selects "com/example/framewire/framewire/rfb/PixelFormat" ({ cls := "com/example/framewire/framewire/rfb/PixelFormat", name := "compressedPixelShift", desc := "()I" } : Jvm.MethodName) ({ cls := "com/example/framewire/framewire/rfb/PixelFormat", name := "compressedPixelShift", desc := "()I" } : Jvm.MethodName)).before a0 Z = true := hw _ (List.mem_of_getElem? (i := 38) rfl)
theorem wd_39 {a0 : Array Value} {Z : State} (hw : ∀ d ∈ tables_1, d.before a0 Z = true) : (Jvm.Cond.code ({ cls := "com/example/framewire/framewire/rfb/PixelFormat", name := "compressedPixelShift", desc := "()I" } : Jvm.MethodName) prog_83_method_3_code (4 : Nat) (Option.some Jvm.ClassFile.FieldType.int)).before a0 Z = true := hw _ (List.mem_of_getElem? (i := 39) rfl)
theorem wd_40 {a0 : Array Value} {Z : State} (hw : ∀ d ∈ tables_1, d.before a0 Z = true) : (Jvm.Cond.constantLong "com/example/framewire/framewire/rfb/PixelFormat" (45 : Nat) (-16777216 : Int64)).before a0 Z = true := hw _ (List.mem_of_getElem? (i := 40) rfl)
theorem wd_41 {a0 : Array Value} {Z : State} (hw : ∀ d ∈ tables_1, d.before a0 Z = true) : (Jvm.Cond.constantLong "com/example/framewire/framewire/rfb/PixelFormat" (47 : Nat) (-4294967041 : Int64)).before a0 Z = true := hw _ (List.mem_of_getElem? (i := 41) rfl)
theorem wd_42 {a0 : Array Value} {Z : State} (hw : ∀ d ∈ tables_1, d.before a0 Z = true) : (Jvm.Cond.methodLink "com/example/framewire/framewire/rfb/PixelFormatCompressedPixelShiftPinLaw" (18 : Nat) ({ cls := "com/example/framewire/framewire/rfb/PixelFormatCompressedPixelShiftPinLaw", name := "fits", desc := "(IIII)Z" } : Jvm.MethodName)).before a0 Z = true := hw _ (List.mem_of_getElem? (i := 42) rfl)
theorem wd_43 {a0 : Array Value} {Z : State} (hw : ∀ d ∈ tables_1, d.before a0 Z = true) : (Jvm.Cond.static ({ cls := "com/example/framewire/framewire/rfb/PixelFormatCompressedPixelShiftPinLaw", name := "fits", desc := "(IIII)Z" } : Jvm.MethodName)).before a0 Z = true := hw _ (List.mem_of_getElem? (i := 43) rfl)
theorem wd_44 {a0 : Array Value} {Z : State} (hw : ∀ d ∈ tables_1, d.before a0 Z = true) : (Jvm.Cond.initialized "com/example/framewire/framewire/rfb/PixelFormatCompressedPixelShiftPinLaw").before a0 Z = true := hw _ (List.mem_of_getElem? (i := 44) rfl)
theorem wd_45 {a0 : Array Value} {Z : State} (hw : ∀ d ∈ tables_1, d.before a0 Z = true) : (Jvm.Cond.code ({ cls := "com/example/framewire/framewire/rfb/PixelFormatCompressedPixelShiftPinLaw", name := "fits", desc := "(IIII)Z" } : Jvm.MethodName) method_3_code (6 : Nat) (Option.some Jvm.ClassFile.FieldType.boolean)).before a0 Z = true := hw _ (List.mem_of_getElem? (i := 45) rfl)
theorem D0_0 : In code 0 1 (.lload_n 1) 1 := ⟨at_0, rfl⟩
theorem D0_1 : In code 1 3 (.ldc2_w 7) 4 := ⟨at_1, rfl⟩
theorem D0_4 : In code 4 1 (.land) 5 := ⟨at_4, rfl⟩
theorem D0_5 : In code 5 1 (.l2i) 6 := ⟨at_5, rfl⟩
theorem D0_6 : In code 6 2 (.istore 4) 8 := ⟨at_6, rfl⟩
theorem D0_8 : In code 8 1 (.lload_n 1) 9 := ⟨at_8, rfl⟩
theorem D0_9 : In code 9 2 (.bipush 16) 11 := ⟨at_9, rfl⟩
theorem D0_11 : In code 11 1 (.lushr) 12 := ⟨at_11, rfl⟩
theorem D0_12 : In code 12 3 (.ldc2_w 7) 15 := ⟨at_12, rfl⟩
theorem D0_15 : In code 15 1 (.land) 16 := ⟨at_15, rfl⟩
theorem D0_16 : In code 16 1 (.l2i) 17 := ⟨at_16, rfl⟩
theorem D0_17 : In code 17 2 (.istore 5) 19 := ⟨at_17, rfl⟩
theorem D0_19 : In code 19 1 (.lload_n 1) 20 := ⟨at_19, rfl⟩
theorem D0_20 : In code 20 2 (.bipush 32) 22 := ⟨at_20, rfl⟩
theorem D0_22 : In code 22 1 (.lushr) 23 := ⟨at_22, rfl⟩
theorem D0_23 : In code 23 3 (.ldc2_w 7) 26 := ⟨at_23, rfl⟩
theorem D0_26 : In code 26 1 (.land) 27 := ⟨at_26, rfl⟩
theorem D0_27 : In code 27 1 (.l2i) 28 := ⟨at_27, rfl⟩
theorem D0_28 : In code 28 2 (.istore 6) 30 := ⟨at_28, rfl⟩
theorem D0_30 : In code 30 1 (.iload_n 0) 31 := ⟨at_30, rfl⟩
theorem D0_31 : In code 31 2 (.bipush 19) 33 := ⟨at_31, rfl⟩
theorem D0_33 : In code 33 1 (.iushr) 34 := ⟨at_33, rfl⟩
theorem D0_34 : In code 34 1 (.iconst 1) 35 := ⟨at_34, rfl⟩
theorem D0_35 : In code 35 1 (.iand) 36 := ⟨at_35, rfl⟩
theorem D0_36 : Jm code 36 (.ifCond .eq) 39 63 := ⟨27, at_36, rfl, by decide, by decide⟩
theorem D0_39 : In code 39 2 (.iload 4) 41 := ⟨at_39, rfl⟩
theorem D0_41 : In code 41 3 (.sipush 255) 44 := ⟨at_41, rfl⟩
theorem D0_44 : In code 44 1 (.iand) 45 := ⟨at_44, rfl⟩
theorem D0_45 : In code 45 2 (.istore 4) 47 := ⟨at_45, rfl⟩
theorem D0_47 : In code 47 2 (.iload 5) 49 := ⟨at_47, rfl⟩
theorem D0_49 : In code 49 3 (.sipush 255) 52 := ⟨at_49, rfl⟩
theorem D0_52 : In code 52 1 (.iand) 53 := ⟨at_52, rfl⟩
theorem D0_53 : In code 53 2 (.istore 5) 55 := ⟨at_53, rfl⟩
theorem D0_55 : In code 55 2 (.iload 6) 57 := ⟨at_55, rfl⟩
theorem D0_57 : In code 57 3 (.sipush 255) 60 := ⟨at_57, rfl⟩
theorem D0_60 : In code 60 1 (.iand) 61 := ⟨at_60, rfl⟩
theorem D0_61 : In code 61 2 (.istore 6) 63 := ⟨at_61, rfl⟩
theorem D0_63 : In code 63 1 (.iload_n 3) 64 := ⟨at_63, rfl⟩
theorem D0_64 : In code 64 3 (.sipush 255) 67 := ⟨at_64, rfl⟩
theorem D0_67 : In code 67 1 (.iand) 68 := ⟨at_67, rfl⟩
theorem D0_68 : In code 68 2 (.istore 7) 70 := ⟨at_68, rfl⟩
theorem D0_70 : In code 70 1 (.iload_n 3) 71 := ⟨at_70, rfl⟩
theorem D0_71 : In code 71 2 (.bipush 8) 73 := ⟨at_71, rfl⟩
theorem D0_73 : In code 73 1 (.iushr) 74 := ⟨at_73, rfl⟩
theorem D0_74 : In code 74 3 (.sipush 255) 77 := ⟨at_74, rfl⟩
theorem D0_77 : In code 77 1 (.iand) 78 := ⟨at_77, rfl⟩
theorem D0_78 : In code 78 2 (.istore 8) 80 := ⟨at_78, rfl⟩
theorem D0_80 : In code 80 1 (.iload_n 3) 81 := ⟨at_80, rfl⟩
theorem D0_81 : In code 81 2 (.bipush 16) 83 := ⟨at_81, rfl⟩
theorem D0_83 : In code 83 1 (.iushr) 84 := ⟨at_83, rfl⟩
theorem D0_84 : In code 84 3 (.sipush 255) 87 := ⟨at_84, rfl⟩
theorem D0_87 : In code 87 1 (.iand) 88 := ⟨at_87, rfl⟩
theorem D0_88 : In code 88 2 (.istore 9) 90 := ⟨at_88, rfl⟩
theorem D0_90 : In code 90 1 (.iload_n 3) 91 := ⟨at_90, rfl⟩
theorem D0_91 : In code 91 2 (.bipush 24) 93 := ⟨at_91, rfl⟩
theorem D0_93 : In code 93 1 (.iushr) 94 := ⟨at_93, rfl⟩
theorem D0_94 : In code 94 1 (.iconst 1) 95 := ⟨at_94, rfl⟩
theorem D0_95 : In code 95 1 (.iand) 96 := ⟨at_95, rfl⟩
theorem D0_96 : Jm code 96 (.ifCond .eq) 99 106 := ⟨10, at_96, rfl, by decide, by decide⟩
theorem D0_99 : In code 99 2 (.iload 7) 101 := ⟨at_99, rfl⟩
theorem D0_101 : In code 101 2 (.bipush 31) 103 := ⟨at_101, rfl⟩
theorem D0_103 : In code 103 1 (.iand) 104 := ⟨at_103, rfl⟩
theorem D0_104 : In code 104 2 (.istore 7) 106 := ⟨at_104, rfl⟩
theorem D0_106 : In code 106 1 (.iload_n 3) 107 := ⟨at_106, rfl⟩
theorem D0_107 : In code 107 2 (.bipush 25) 109 := ⟨at_107, rfl⟩
theorem D0_109 : In code 109 1 (.iushr) 110 := ⟨at_109, rfl⟩
theorem D0_110 : In code 110 1 (.iconst 1) 111 := ⟨at_110, rfl⟩
theorem D0_111 : In code 111 1 (.iand) 112 := ⟨at_111, rfl⟩
theorem D0_112 : Jm code 112 (.ifCond .eq) 115 122 := ⟨10, at_112, rfl, by decide, by decide⟩
theorem D0_115 : In code 115 2 (.iload 8) 117 := ⟨at_115, rfl⟩
theorem D0_117 : In code 117 2 (.bipush 31) 119 := ⟨at_117, rfl⟩
theorem D0_119 : In code 119 1 (.iand) 120 := ⟨at_119, rfl⟩
theorem D0_120 : In code 120 2 (.istore 8) 122 := ⟨at_120, rfl⟩
theorem D0_122 : In code 122 1 (.iload_n 3) 123 := ⟨at_122, rfl⟩
theorem D0_123 : In code 123 2 (.bipush 26) 125 := ⟨at_123, rfl⟩
theorem D0_125 : In code 125 1 (.iushr) 126 := ⟨at_125, rfl⟩
theorem D0_126 : In code 126 1 (.iconst 1) 127 := ⟨at_126, rfl⟩
theorem D0_127 : In code 127 1 (.iand) 128 := ⟨at_127, rfl⟩
theorem D0_128 : Jm code 128 (.ifCond .eq) 131 138 := ⟨10, at_128, rfl, by decide, by decide⟩
theorem D0_131 : In code 131 2 (.iload 9) 133 := ⟨at_131, rfl⟩
theorem D0_133 : In code 133 2 (.bipush 31) 135 := ⟨at_133, rfl⟩
theorem D0_135 : In code 135 1 (.iand) 136 := ⟨at_135, rfl⟩
theorem D0_136 : In code 136 2 (.istore 9) 138 := ⟨at_136, rfl⟩
theorem D0_138 : In code 138 1 (.iload_n 0) 139 := ⟨at_138, rfl⟩
theorem D0_139 : In code 139 1 (.iconst 1) 140 := ⟨at_139, rfl⟩
theorem D0_140 : In code 140 1 (.iand) 141 := ⟨at_140, rfl⟩
theorem D0_141 : Jm code 141 (.ifCond .eq) 144 149 := ⟨8, at_141, rfl, by decide, by decide⟩
theorem D0_144 : In code 144 2 (.bipush 32) 146 := ⟨at_144, rfl⟩
theorem D0_146 : Jm code 146 .goto 149 156 := ⟨10, at_146, rfl, by decide, by decide⟩
theorem D0_149 : In code 149 1 (.iload_n 0) 150 := ⟨at_149, rfl⟩
theorem D0_150 : In code 150 1 (.iconst 1) 151 := ⟨at_150, rfl⟩
theorem D0_151 : In code 151 1 (.iushr) 152 := ⟨at_151, rfl⟩
theorem D0_152 : In code 152 3 (.sipush 255) 155 := ⟨at_152, rfl⟩
theorem D0_155 : In code 155 1 (.iand) 156 := ⟨at_155, rfl⟩
theorem D0_156 : In code 156 2 (.istore 10) 158 := ⟨at_156, rfl⟩
theorem D0_158 : In code 158 1 (.iload_n 0) 159 := ⟨at_158, rfl⟩
theorem D0_159 : In code 159 2 (.bipush 20) 161 := ⟨at_159, rfl⟩
theorem D0_161 : In code 161 1 (.iushr) 162 := ⟨at_161, rfl⟩
theorem D0_162 : In code 162 1 (.iconst 1) 163 := ⟨at_162, rfl⟩
theorem D0_163 : In code 163 1 (.iand) 164 := ⟨at_163, rfl⟩
theorem D0_164 : Jm code 164 (.ifCond .eq) 167 180 := ⟨16, at_164, rfl, by decide, by decide⟩
theorem D0_167 : In code 167 2 (.bipush 20) 169 := ⟨at_167, rfl⟩
theorem D0_169 : In code 169 1 (.iload_n 0) 170 := ⟨at_169, rfl⟩
theorem D0_170 : In code 170 2 (.bipush 9) 172 := ⟨at_170, rfl⟩
theorem D0_172 : In code 172 1 (.iushr) 173 := ⟨at_172, rfl⟩
theorem D0_173 : In code 173 2 (.bipush 7) 175 := ⟨at_173, rfl⟩
theorem D0_175 : In code 175 1 (.iand) 176 := ⟨at_175, rfl⟩
theorem D0_176 : In code 176 1 (.iadd) 177 := ⟨at_176, rfl⟩
theorem D0_177 : Jm code 177 .goto 180 188 := ⟨11, at_177, rfl, by decide, by decide⟩
theorem D0_180 : In code 180 1 (.iload_n 0) 181 := ⟨at_180, rfl⟩
theorem D0_181 : In code 181 2 (.bipush 9) 183 := ⟨at_181, rfl⟩
theorem D0_183 : In code 183 1 (.iushr) 184 := ⟨at_183, rfl⟩
theorem D0_184 : In code 184 3 (.sipush 255) 187 := ⟨at_184, rfl⟩
theorem D0_187 : In code 187 1 (.iand) 188 := ⟨at_187, rfl⟩
theorem D0_188 : In code 188 2 (.istore 11) 190 := ⟨at_188, rfl⟩
theorem D0_190 : In code 190 1 (.iload_n 0) 191 := ⟨at_190, rfl⟩
theorem D0_191 : In code 191 2 (.bipush 17) 193 := ⟨at_191, rfl⟩
theorem D0_193 : In code 193 1 (.iushr) 194 := ⟨at_193, rfl⟩
theorem D0_194 : In code 194 1 (.iconst 1) 195 := ⟨at_194, rfl⟩
theorem D0_195 : In code 195 1 (.iand) 196 := ⟨at_195, rfl⟩
theorem D0_196 : Jm code 196 (.ifCond .eq) 199 203 := ⟨7, at_196, rfl, by decide, by decide⟩
theorem D0_199 : In code 199 1 (.iconst 1) 200 := ⟨at_199, rfl⟩
theorem D0_200 : Jm code 200 .goto 203 204 := ⟨4, at_200, rfl, by decide, by decide⟩
theorem D0_203 : In code 203 1 (.iconst 0) 204 := ⟨at_203, rfl⟩
theorem D0_204 : In code 204 2 (.istore 12) 206 := ⟨at_204, rfl⟩
theorem D0_206 : In code 206 1 (.iload_n 0) 207 := ⟨at_206, rfl⟩
theorem D0_207 : In code 207 2 (.bipush 18) 209 := ⟨at_207, rfl⟩
theorem D0_209 : In code 209 1 (.iushr) 210 := ⟨at_209, rfl⟩
theorem D0_210 : In code 210 1 (.iconst 1) 211 := ⟨at_210, rfl⟩
theorem D0_211 : In code 211 1 (.iand) 212 := ⟨at_211, rfl⟩
theorem D0_212 : Jm code 212 (.ifCond .eq) 215 219 := ⟨7, at_212, rfl, by decide, by decide⟩
theorem D0_215 : In code 215 1 (.iconst 1) 216 := ⟨at_215, rfl⟩
theorem D0_216 : Jm code 216 .goto 219 220 := ⟨4, at_216, rfl, by decide, by decide⟩
theorem D0_219 : In code 219 1 (.iconst 0) 220 := ⟨at_219, rfl⟩
theorem D0_220 : In code 220 2 (.istore 13) 222 := ⟨at_220, rfl⟩
theorem D0_222 : In code 222 3 (.new 9) 225 := ⟨at_222, rfl⟩
theorem D0_225 : In code 225 1 (.dup) 226 := ⟨at_225, rfl⟩
theorem D0_226 : In code 226 2 (.iload 10) 228 := ⟨at_226, rfl⟩
theorem D0_228 : In code 228 2 (.iload 11) 230 := ⟨at_228, rfl⟩
theorem D0_230 : In code 230 2 (.iload 13) 232 := ⟨at_230, rfl⟩
theorem D0_232 : In code 232 2 (.iload 12) 234 := ⟨at_232, rfl⟩
theorem D0_234 : In code 234 2 (.iload 4) 236 := ⟨at_234, rfl⟩
theorem D0_236 : In code 236 2 (.iload 5) 238 := ⟨at_236, rfl⟩
theorem D0_238 : In code 238 2 (.iload 6) 240 := ⟨at_238, rfl⟩
theorem D0_240 : In code 240 2 (.iload 7) 242 := ⟨at_240, rfl⟩
theorem D0_242 : In code 242 2 (.iload 8) 244 := ⟨at_242, rfl⟩
theorem D0_244 : In code 244 2 (.iload 9) 246 := ⟨at_244, rfl⟩
theorem D0_246 : In code 246 3 (.invokespecial 11) 249 := ⟨at_246, rfl⟩
theorem D0_249 : In code 249 2 (.astore 14) 251 := ⟨at_249, rfl⟩
theorem D0_251 : In code 251 2 (.aload 14) 253 := ⟨at_251, rfl⟩
theorem D0_253 : In code 253 3 (.invokevirtual 14) 256 := ⟨at_253, rfl⟩
theorem D0_256 : In code 256 2 (.istore 15) 258 := ⟨at_256, rfl⟩
theorem D0_258 : In code 258 2 (.iload 12) 260 := ⟨at_258, rfl⟩
theorem D0_260 : Jm code 260 (.ifCond .eq) 263 298 := ⟨38, at_260, rfl, by decide, by decide⟩
theorem D0_263 : In code 263 2 (.iload 10) 265 := ⟨at_263, rfl⟩
theorem D0_265 : In code 265 2 (.bipush 32) 267 := ⟨at_265, rfl⟩
theorem D0_267 : Jm code 267 (.if_icmp .ne) 270 298 := ⟨31, at_267, rfl, by decide, by decide⟩
theorem D0_270 : In code 270 2 (.iload 11) 272 := ⟨at_270, rfl⟩
theorem D0_272 : In code 272 2 (.bipush 24) 274 := ⟨at_272, rfl⟩
theorem D0_274 : Jm code 274 (.if_icmp .gt) 277 298 := ⟨24, at_274, rfl, by decide, by decide⟩
theorem D0_277 : In code 277 2 (.iload 7) 279 := ⟨at_277, rfl⟩
theorem D0_279 : In code 279 2 (.bipush 32) 281 := ⟨at_279, rfl⟩
theorem D0_281 : Jm code 281 (.if_icmp .ge) 284 298 := ⟨17, at_281, rfl, by decide, by decide⟩
theorem D0_284 : In code 284 2 (.iload 8) 286 := ⟨at_284, rfl⟩
theorem D0_286 : In code 286 2 (.bipush 32) 288 := ⟨at_286, rfl⟩
theorem D0_288 : Jm code 288 (.if_icmp .ge) 291 298 := ⟨10, at_288, rfl, by decide, by decide⟩
theorem D0_291 : In code 291 2 (.iload 9) 293 := ⟨at_291, rfl⟩
theorem D0_293 : In code 293 2 (.bipush 32) 295 := ⟨at_293, rfl⟩
theorem D0_295 : Jm code 295 (.if_icmp .lt) 298 304 := ⟨9, at_295, rfl, by decide, by decide⟩
theorem D0_298 : In code 298 1 (.iconst (-1)) 299 := ⟨at_298, rfl⟩
theorem D0_299 : In code 299 2 (.istore 16) 301 := ⟨at_299, rfl⟩
theorem D0_301 : Jm code 301 .goto 304 401 := ⟨100, at_301, rfl, by decide, by decide⟩
theorem D0_304 : In code 304 2 (.iload 4) 306 := ⟨at_304, rfl⟩
theorem D0_306 : In code 306 2 (.iload 7) 308 := ⟨at_306, rfl⟩
theorem D0_308 : In code 308 1 (.iconst 0) 309 := ⟨at_308, rfl⟩
theorem D0_309 : In code 309 2 (.bipush 24) 311 := ⟨at_309, rfl⟩
theorem D0_311 : In code 311 3 (.invokestatic 18) 314 := ⟨at_311, rfl⟩
theorem D0_314 : Jm code 314 (.ifCond .eq) 317 349 := ⟨35, at_314, rfl, by decide, by decide⟩
theorem D0_317 : In code 317 2 (.iload 5) 319 := ⟨at_317, rfl⟩
theorem D0_319 : In code 319 2 (.iload 8) 321 := ⟨at_319, rfl⟩
theorem D0_321 : In code 321 1 (.iconst 0) 322 := ⟨at_321, rfl⟩
theorem D0_322 : In code 322 2 (.bipush 24) 324 := ⟨at_322, rfl⟩
theorem D0_324 : In code 324 3 (.invokestatic 18) 327 := ⟨at_324, rfl⟩
theorem D0_327 : Jm code 327 (.ifCond .eq) 330 349 := ⟨22, at_327, rfl, by decide, by decide⟩
theorem D0_330 : In code 330 2 (.iload 6) 332 := ⟨at_330, rfl⟩
theorem D0_332 : In code 332 2 (.iload 9) 334 := ⟨at_332, rfl⟩
theorem D0_334 : In code 334 1 (.iconst 0) 335 := ⟨at_334, rfl⟩
theorem D0_335 : In code 335 2 (.bipush 24) 337 := ⟨at_335, rfl⟩
theorem D0_337 : In code 337 3 (.invokestatic 18) 340 := ⟨at_337, rfl⟩
theorem D0_340 : Jm code 340 (.ifCond .eq) 343 349 := ⟨9, at_340, rfl, by decide, by decide⟩
theorem D0_343 : In code 343 1 (.iconst 0) 344 := ⟨at_343, rfl⟩
theorem D0_344 : In code 344 2 (.istore 16) 346 := ⟨at_344, rfl⟩
theorem D0_346 : Jm code 346 .goto 349 401 := ⟨55, at_346, rfl, by decide, by decide⟩
theorem D0_349 : In code 349 2 (.iload 4) 351 := ⟨at_349, rfl⟩
theorem D0_351 : In code 351 2 (.iload 7) 353 := ⟨at_351, rfl⟩
theorem D0_353 : In code 353 2 (.bipush 8) 355 := ⟨at_353, rfl⟩
theorem D0_355 : In code 355 2 (.bipush 32) 357 := ⟨at_355, rfl⟩
theorem D0_357 : In code 357 3 (.invokestatic 18) 360 := ⟨at_357, rfl⟩
theorem D0_360 : Jm code 360 (.ifCond .eq) 363 398 := ⟨38, at_360, rfl, by decide, by decide⟩
theorem D0_363 : In code 363 2 (.iload 5) 365 := ⟨at_363, rfl⟩
theorem D0_365 : In code 365 2 (.iload 8) 367 := ⟨at_365, rfl⟩
theorem D0_367 : In code 367 2 (.bipush 8) 369 := ⟨at_367, rfl⟩
theorem D0_369 : In code 369 2 (.bipush 32) 371 := ⟨at_369, rfl⟩
theorem D0_371 : In code 371 3 (.invokestatic 18) 374 := ⟨at_371, rfl⟩
theorem D0_374 : Jm code 374 (.ifCond .eq) 377 398 := ⟨24, at_374, rfl, by decide, by decide⟩
theorem D0_377 : In code 377 2 (.iload 6) 379 := ⟨at_377, rfl⟩
theorem D0_379 : In code 379 2 (.iload 9) 381 := ⟨at_379, rfl⟩
theorem D0_381 : In code 381 2 (.bipush 8) 383 := ⟨at_381, rfl⟩
theorem D0_383 : In code 383 2 (.bipush 32) 385 := ⟨at_383, rfl⟩
theorem D0_385 : In code 385 3 (.invokestatic 18) 388 := ⟨at_385, rfl⟩
theorem D0_388 : Jm code 388 (.ifCond .eq) 391 398 := ⟨10, at_388, rfl, by decide, by decide⟩
theorem D0_391 : In code 391 2 (.bipush 8) 393 := ⟨at_391, rfl⟩
theorem D0_393 : In code 393 2 (.istore 16) 395 := ⟨at_393, rfl⟩
theorem D0_395 : Jm code 395 .goto 398 401 := ⟨6, at_395, rfl, by decide, by decide⟩
theorem D0_398 : In code 398 1 (.iconst (-1)) 399 := ⟨at_398, rfl⟩
theorem D0_399 : In code 399 2 (.istore 16) 401 := ⟨at_399, rfl⟩
theorem D0_401 : In code 401 2 (.iload 15) 403 := ⟨at_401, rfl⟩
theorem D0_403 : In code 403 2 (.iload 16) 405 := ⟨at_403, rfl⟩
theorem D0_405 : Jm code 405 (.if_icmp .ne) 408 412 := ⟨7, at_405, rfl, by decide, by decide⟩
theorem D0_408 : In code 408 1 (.iconst 1) 409 := ⟨at_408, rfl⟩
theorem D0_409 : Jm code 409 .goto 412 413 := ⟨4, at_409, rfl, by decide, by decide⟩
theorem D0_413 : In code 413 1 (.ireturn) 414 := ⟨at_413, rfl⟩
theorem D1_0 : In prog_83_method_1_code 0 1 (.aload_n 0) 1 := ⟨by decide +kernel, rfl⟩
theorem D1_1 : In prog_83_method_1_code 1 3 (.invokespecial 1) 4 := ⟨by decide +kernel, rfl⟩
theorem D1_4 : In prog_83_method_1_code 4 1 (.aload_n 0) 5 := ⟨by decide +kernel, rfl⟩
theorem D1_5 : In prog_83_method_1_code 5 1 (.iload_n 1) 6 := ⟨by decide +kernel, rfl⟩
theorem D1_6 : In prog_83_method_1_code 6 3 (.putfield 7) 9 := ⟨by decide +kernel, rfl⟩
theorem D1_9 : In prog_83_method_1_code 9 1 (.aload_n 0) 10 := ⟨by decide +kernel, rfl⟩
theorem D1_10 : In prog_83_method_1_code 10 1 (.iload_n 2) 11 := ⟨by decide +kernel, rfl⟩
theorem D1_11 : In prog_83_method_1_code 11 3 (.putfield 13) 14 := ⟨by decide +kernel, rfl⟩
theorem D1_14 : In prog_83_method_1_code 14 1 (.aload_n 0) 15 := ⟨by decide +kernel, rfl⟩
theorem D1_15 : In prog_83_method_1_code 15 1 (.iload_n 3) 16 := ⟨by decide +kernel, rfl⟩
theorem D1_16 : In prog_83_method_1_code 16 3 (.putfield 16) 19 := ⟨by decide +kernel, rfl⟩
theorem D1_19 : In prog_83_method_1_code 19 1 (.aload_n 0) 20 := ⟨by decide +kernel, rfl⟩
theorem D1_20 : In prog_83_method_1_code 20 2 (.iload 4) 22 := ⟨by decide +kernel, rfl⟩
theorem D1_22 : In prog_83_method_1_code 22 3 (.putfield 20) 25 := ⟨by decide +kernel, rfl⟩
theorem D1_25 : In prog_83_method_1_code 25 1 (.aload_n 0) 26 := ⟨by decide +kernel, rfl⟩
theorem D1_26 : In prog_83_method_1_code 26 2 (.iload 5) 28 := ⟨by decide +kernel, rfl⟩
theorem D1_28 : In prog_83_method_1_code 28 3 (.putfield 23) 31 := ⟨by decide +kernel, rfl⟩
theorem D1_31 : In prog_83_method_1_code 31 1 (.aload_n 0) 32 := ⟨by decide +kernel, rfl⟩
theorem D1_32 : In prog_83_method_1_code 32 2 (.iload 6) 34 := ⟨by decide +kernel, rfl⟩
theorem D1_34 : In prog_83_method_1_code 34 3 (.putfield 26) 37 := ⟨by decide +kernel, rfl⟩
theorem D1_37 : In prog_83_method_1_code 37 1 (.aload_n 0) 38 := ⟨by decide +kernel, rfl⟩
theorem D1_38 : In prog_83_method_1_code 38 2 (.iload 7) 40 := ⟨by decide +kernel, rfl⟩
theorem D1_40 : In prog_83_method_1_code 40 3 (.putfield 29) 43 := ⟨by decide +kernel, rfl⟩
theorem D1_43 : In prog_83_method_1_code 43 1 (.aload_n 0) 44 := ⟨by decide +kernel, rfl⟩
theorem D1_44 : In prog_83_method_1_code 44 2 (.iload 8) 46 := ⟨by decide +kernel, rfl⟩
theorem D1_46 : In prog_83_method_1_code 46 3 (.putfield 32) 49 := ⟨by decide +kernel, rfl⟩
theorem D1_49 : In prog_83_method_1_code 49 1 (.aload_n 0) 50 := ⟨by decide +kernel, rfl⟩
theorem D1_50 : In prog_83_method_1_code 50 2 (.iload 9) 52 := ⟨by decide +kernel, rfl⟩
theorem D1_52 : In prog_83_method_1_code 52 3 (.putfield 35) 55 := ⟨by decide +kernel, rfl⟩
theorem D1_55 : In prog_83_method_1_code 55 1 (.aload_n 0) 56 := ⟨by decide +kernel, rfl⟩
theorem D1_56 : In prog_83_method_1_code 56 2 (.iload 10) 58 := ⟨by decide +kernel, rfl⟩
theorem D1_58 : In prog_83_method_1_code 58 3 (.putfield 38) 61 := ⟨by decide +kernel, rfl⟩
theorem D1_61 : In prog_83_method_1_code 61 1 (.return_) 62 := ⟨by decide +kernel, rfl⟩
theorem D2_0 : In jdk_30_method_1_code 0 1 (.aload_n 0) 1 := ⟨by decide +kernel, rfl⟩
theorem D2_1 : In jdk_30_method_1_code 1 3 (.invokespecial 1) 4 := ⟨by decide +kernel, rfl⟩
theorem D2_4 : In jdk_30_method_1_code 4 1 (.return_) 5 := ⟨by decide +kernel, rfl⟩
theorem D4_0 : In prog_83_method_3_code 0 1 (.aload_n 0) 1 := ⟨by decide +kernel, rfl⟩
theorem D4_1 : In prog_83_method_3_code 1 3 (.getfield 32) 4 := ⟨by decide +kernel, rfl⟩
theorem D4_4 : In prog_83_method_3_code 4 2 (.bipush 32) 6 := ⟨by decide +kernel, rfl⟩
theorem D4_6 : Jm prog_83_method_3_code 6 (.if_icmp .ge) 9 31 := ⟨25, by decide +kernel, rfl, by decide, by decide⟩
theorem D4_9 : In prog_83_method_3_code 9 1 (.aload_n 0) 10 := ⟨by decide +kernel, rfl⟩
theorem D4_10 : In prog_83_method_3_code 10 3 (.getfield 35) 13 := ⟨by decide +kernel, rfl⟩
theorem D4_13 : In prog_83_method_3_code 13 2 (.bipush 32) 15 := ⟨by decide +kernel, rfl⟩
theorem D4_15 : Jm prog_83_method_3_code 15 (.if_icmp .ge) 18 31 := ⟨16, by decide +kernel, rfl, by decide, by decide⟩
theorem D4_18 : In prog_83_method_3_code 18 1 (.aload_n 0) 19 := ⟨by decide +kernel, rfl⟩
theorem D4_19 : In prog_83_method_3_code 19 3 (.getfield 38) 22 := ⟨by decide +kernel, rfl⟩
theorem D4_22 : In prog_83_method_3_code 22 2 (.bipush 32) 24 := ⟨by decide +kernel, rfl⟩
theorem D4_24 : Jm prog_83_method_3_code 24 (.if_icmp .ge) 27 31 := ⟨7, by decide +kernel, rfl, by decide, by decide⟩
theorem D4_27 : In prog_83_method_3_code 27 1 (.iconst 1) 28 := ⟨by decide +kernel, rfl⟩
theorem D4_28 : Jm prog_83_method_3_code 28 .goto 31 32 := ⟨4, by decide +kernel, rfl, by decide, by decide⟩
theorem D4_31 : In prog_83_method_3_code 31 1 (.iconst 0) 32 := ⟨by decide +kernel, rfl⟩
theorem D4_32 : In prog_83_method_3_code 32 1 (.istore_n 1) 33 := ⟨by decide +kernel, rfl⟩
theorem D4_33 : In prog_83_method_3_code 33 1 (.aload_n 0) 34 := ⟨by decide +kernel, rfl⟩
theorem D4_34 : In prog_83_method_3_code 34 3 (.getfield 20) 37 := ⟨by decide +kernel, rfl⟩
theorem D4_37 : Jm prog_83_method_3_code 37 (.ifCond .eq) 40 62 := ⟨25, by decide +kernel, rfl, by decide, by decide⟩
theorem D4_40 : In prog_83_method_3_code 40 1 (.aload_n 0) 41 := ⟨by decide +kernel, rfl⟩
theorem D4_41 : In prog_83_method_3_code 41 3 (.getfield 7) 44 := ⟨by decide +kernel, rfl⟩
theorem D4_44 : In prog_83_method_3_code 44 2 (.bipush 32) 46 := ⟨by decide +kernel, rfl⟩
theorem D4_46 : Jm prog_83_method_3_code 46 (.if_icmp .ne) 49 62 := ⟨16, by decide +kernel, rfl, by decide, by decide⟩
theorem D4_49 : In prog_83_method_3_code 49 1 (.aload_n 0) 50 := ⟨by decide +kernel, rfl⟩
theorem D4_50 : In prog_83_method_3_code 50 3 (.getfield 13) 53 := ⟨by decide +kernel, rfl⟩
theorem D4_53 : In prog_83_method_3_code 53 2 (.bipush 24) 55 := ⟨by decide +kernel, rfl⟩
theorem D4_55 : Jm prog_83_method_3_code 55 (.if_icmp .gt) 58 62 := ⟨7, by decide +kernel, rfl, by decide, by decide⟩
theorem D4_58 : In prog_83_method_3_code 58 1 (.iload_n 1) 59 := ⟨by decide +kernel, rfl⟩
theorem D4_59 : Jm prog_83_method_3_code 59 (.ifCond .ne) 62 64 := ⟨5, by decide +kernel, rfl, by decide, by decide⟩
theorem D4_62 : In prog_83_method_3_code 62 1 (.iconst (-1)) 63 := ⟨by decide +kernel, rfl⟩
theorem D4_63 : In prog_83_method_3_code 63 1 (.ireturn) 64 := ⟨by decide +kernel, rfl⟩
theorem D4_64 : In prog_83_method_3_code 64 1 (.aload_n 0) 65 := ⟨by decide +kernel, rfl⟩
theorem D4_65 : In prog_83_method_3_code 65 3 (.getfield 23) 68 := ⟨by decide +kernel, rfl⟩
theorem D4_68 : In prog_83_method_3_code 68 1 (.i2l) 69 := ⟨by decide +kernel, rfl⟩
theorem D4_69 : In prog_83_method_3_code 69 1 (.aload_n 0) 70 := ⟨by decide +kernel, rfl⟩
theorem D4_70 : In prog_83_method_3_code 70 3 (.getfield 32) 73 := ⟨by decide +kernel, rfl⟩
theorem D4_73 : In prog_83_method_3_code 73 1 (.lshl) 74 := ⟨by decide +kernel, rfl⟩
theorem D4_74 : In prog_83_method_3_code 74 1 (.aload_n 0) 75 := ⟨by decide +kernel, rfl⟩
theorem D4_75 : In prog_83_method_3_code 75 3 (.getfield 26) 78 := ⟨by decide +kernel, rfl⟩
theorem D4_78 : In prog_83_method_3_code 78 1 (.i2l) 79 := ⟨by decide +kernel, rfl⟩
theorem D4_79 : In prog_83_method_3_code 79 1 (.aload_n 0) 80 := ⟨by decide +kernel, rfl⟩
theorem D4_80 : In prog_83_method_3_code 80 3 (.getfield 35) 83 := ⟨by decide +kernel, rfl⟩
theorem D4_83 : In prog_83_method_3_code 83 1 (.lshl) 84 := ⟨by decide +kernel, rfl⟩
theorem D4_84 : In prog_83_method_3_code 84 1 (.lor) 85 := ⟨by decide +kernel, rfl⟩
theorem D4_85 : In prog_83_method_3_code 85 1 (.aload_n 0) 86 := ⟨by decide +kernel, rfl⟩
theorem D4_86 : In prog_83_method_3_code 86 3 (.getfield 29) 89 := ⟨by decide +kernel, rfl⟩
theorem D4_89 : In prog_83_method_3_code 89 1 (.i2l) 90 := ⟨by decide +kernel, rfl⟩
theorem D4_90 : In prog_83_method_3_code 90 1 (.aload_n 0) 91 := ⟨by decide +kernel, rfl⟩
theorem D4_91 : In prog_83_method_3_code 91 3 (.getfield 38) 94 := ⟨by decide +kernel, rfl⟩
theorem D4_94 : In prog_83_method_3_code 94 1 (.lshl) 95 := ⟨by decide +kernel, rfl⟩
theorem D4_95 : In prog_83_method_3_code 95 1 (.lor) 96 := ⟨by decide +kernel, rfl⟩
theorem D4_96 : In prog_83_method_3_code 96 1 (.lstore_n 2) 97 := ⟨by decide +kernel, rfl⟩
theorem D4_97 : In prog_83_method_3_code 97 1 (.lload_n 2) 98 := ⟨by decide +kernel, rfl⟩
theorem D4_98 : In prog_83_method_3_code 98 3 (.ldc2_w 45) 101 := ⟨by decide +kernel, rfl⟩
theorem D4_101 : In prog_83_method_3_code 101 1 (.land) 102 := ⟨by decide +kernel, rfl⟩
theorem D4_102 : In prog_83_method_3_code 102 1 (.lconst 0) 103 := ⟨by decide +kernel, rfl⟩
theorem D4_103 : In prog_83_method_3_code 103 1 (.lcmp) 104 := ⟨by decide +kernel, rfl⟩
theorem D4_104 : Jm prog_83_method_3_code 104 (.ifCond .ne) 107 109 := ⟨5, by decide +kernel, rfl, by decide, by decide⟩
theorem D4_107 : In prog_83_method_3_code 107 1 (.iconst 0) 108 := ⟨by decide +kernel, rfl⟩
theorem D4_108 : In prog_83_method_3_code 108 1 (.ireturn) 109 := ⟨by decide +kernel, rfl⟩
theorem D4_109 : In prog_83_method_3_code 109 1 (.lload_n 2) 110 := ⟨by decide +kernel, rfl⟩
theorem D4_110 : In prog_83_method_3_code 110 3 (.ldc2_w 47) 113 := ⟨by decide +kernel, rfl⟩
theorem D4_113 : In prog_83_method_3_code 113 1 (.land) 114 := ⟨by decide +kernel, rfl⟩
theorem D4_114 : In prog_83_method_3_code 114 1 (.lconst 0) 115 := ⟨by decide +kernel, rfl⟩
theorem D4_115 : In prog_83_method_3_code 115 1 (.lcmp) 116 := ⟨by decide +kernel, rfl⟩
theorem D4_116 : Jm prog_83_method_3_code 116 (.ifCond .ne) 119 124 := ⟨8, by decide +kernel, rfl, by decide, by decide⟩
theorem D4_119 : In prog_83_method_3_code 119 2 (.bipush 8) 121 := ⟨by decide +kernel, rfl⟩
theorem D4_121 : Jm prog_83_method_3_code 121 .goto 124 125 := ⟨4, by decide +kernel, rfl, by decide, by decide⟩
theorem D4_124 : In prog_83_method_3_code 124 1 (.iconst (-1)) 125 := ⟨by decide +kernel, rfl⟩
theorem D4_125 : In prog_83_method_3_code 125 1 (.ireturn) 126 := ⟨by decide +kernel, rfl⟩
theorem D5_0 : In method_3_code 0 1 (.iload_n 0) 1 := ⟨by decide +kernel, rfl⟩
theorem D5_1 : In method_3_code 1 1 (.i2l) 2 := ⟨by decide +kernel, rfl⟩
theorem D5_2 : In method_3_code 2 1 (.lconst 1) 3 := ⟨by decide +kernel, rfl⟩
theorem D5_3 : In method_3_code 3 1 (.iload_n 1) 4 := ⟨by decide +kernel, rfl⟩
theorem D5_4 : In method_3_code 4 1 (.lshl) 5 := ⟨by decide +kernel, rfl⟩
theorem D5_5 : In method_3_code 5 1 (.lmul) 6 := ⟨by decide +kernel, rfl⟩
theorem D5_6 : In method_3_code 6 2 (.lstore 4) 8 := ⟨by decide +kernel, rfl⟩
theorem D5_8 : In method_3_code 8 2 (.lload 4) 10 := ⟨by decide +kernel, rfl⟩
theorem D5_10 : In method_3_code 10 1 (.lconst 1) 11 := ⟨by decide +kernel, rfl⟩
theorem D5_11 : In method_3_code 11 1 (.iload_n 3) 12 := ⟨by decide +kernel, rfl⟩
theorem D5_12 : In method_3_code 12 1 (.lshl) 13 := ⟨by decide +kernel, rfl⟩
theorem D5_13 : In method_3_code 13 1 (.lcmp) 14 := ⟨by decide +kernel, rfl⟩
theorem D5_14 : Jm method_3_code 14 (.ifCond .ge) 17 32 := ⟨18, by decide +kernel, rfl, by decide, by decide⟩
theorem D5_17 : In method_3_code 17 2 (.lload 4) 19 := ⟨by decide +kernel, rfl⟩
theorem D5_19 : In method_3_code 19 1 (.lconst 1) 20 := ⟨by decide +kernel, rfl⟩
theorem D5_20 : In method_3_code 20 1 (.iload_n 2) 21 := ⟨by decide +kernel, rfl⟩
theorem D5_21 : In method_3_code 21 1 (.lshl) 22 := ⟨by decide +kernel, rfl⟩
theorem D5_22 : In method_3_code 22 1 (.lrem) 23 := ⟨by decide +kernel, rfl⟩
theorem D5_23 : In method_3_code 23 1 (.lconst 0) 24 := ⟨by decide +kernel, rfl⟩
theorem D5_24 : In method_3_code 24 1 (.lcmp) 25 := ⟨by decide +kernel, rfl⟩
theorem D5_25 : Jm method_3_code 25 (.ifCond .ne) 28 32 := ⟨7, by decide +kernel, rfl, by decide, by decide⟩
theorem D5_28 : In method_3_code 28 1 (.iconst 1) 29 := ⟨by decide +kernel, rfl⟩
theorem D5_29 : Jm method_3_code 29 .goto 32 33 := ⟨4, by decide +kernel, rfl, by decide, by decide⟩
theorem D5_32 : In method_3_code 32 1 (.iconst 0) 33 := ⟨by decide +kernel, rfl⟩
theorem D5_33 : In method_3_code 33 1 (.ireturn) 34 := ⟨by decide +kernel, rfl⟩
theorem pd_0 : parseMethodDescriptor "()V" = some ⟨[], none⟩ := by decide +kernel
theorem pd_1 : parseMethodDescriptor "(IIZZIIIIII)V" = some ⟨[.int, .int, .boolean, .boolean, .int, .int, .int, .int, .int, .int], none⟩ := by decide +kernel
theorem pd_2 : parseMethodDescriptor "()I" = some ⟨[], some .int⟩ := by decide +kernel
theorem pd_3 : parseMethodDescriptor "(IIII)Z" = some ⟨[.int, .int, .int, .int], some .boolean⟩ := by decide +kernel
theorem pn_0 : plainName "java/lang/Record" = true := by first | (simp [plainName, overriddenIn]; done) | decide +kernel
theorem pn_1 : plainName "com/example/framewire/framewire/rfb/PixelFormat" = true := by first | (simp [plainName, overriddenIn]; done) | decide +kernel
theorem pn_2 : plainName "com/example/framewire/framewire/rfb/PixelFormatCompressedPixelShiftPinLaw" = true := by first | (simp [plainName, overriddenIn]; done) | decide +kernel
def RP (Z : State) (h : Heap) (a : Addr) (f0 : Int32) (f1 : Int32) (f2 : Int32) (f3 : Int32) (f4 : Int32) (f5 : Int32) (f6 : Int32) (f7 : Int32) (f8 : Int32) (f9 : Int32) : Prop := Exa Z h a "com/example/framewire/framewire/rfb/PixelFormat" ∧ Fld Z h a "com/example/framewire/framewire/rfb/PixelFormat" "bitsPerPixel" "I" (.int f0) ∧ Fld Z h a "com/example/framewire/framewire/rfb/PixelFormat" "depth" "I" (.int f1) ∧ Fld Z h a "com/example/framewire/framewire/rfb/PixelFormat" "bigEndian" "Z" (.int f2) ∧ Fld Z h a "com/example/framewire/framewire/rfb/PixelFormat" "trueColour" "Z" (.int f3) ∧ Fld Z h a "com/example/framewire/framewire/rfb/PixelFormat" "redMax" "I" (.int f4) ∧ Fld Z h a "com/example/framewire/framewire/rfb/PixelFormat" "greenMax" "I" (.int f5) ∧ Fld Z h a "com/example/framewire/framewire/rfb/PixelFormat" "blueMax" "I" (.int f6) ∧ Fld Z h a "com/example/framewire/framewire/rfb/PixelFormat" "redShift" "I" (.int f7) ∧ Fld Z h a "com/example/framewire/framewire/rfb/PixelFormat" "greenShift" "I" (.int f8) ∧ Fld Z h a "com/example/framewire/framewire/rfb/PixelFormat" "blueShift" "I" (.int f9)
theorem RP.lt {Z : State} {h : Heap} {a : Addr} {f0 : Int32} {f1 : Int32} {f2 : Int32} {f3 : Int32} {f4 : Int32} {f5 : Int32} {f6 : Int32} {f7 : Int32} {f8 : Int32} {f9 : Int32} (H : RP Z h a f0 f1 f2 f3 f4 f5 f6 f7 f8 f9) : a < h.size := H.1.lt
theorem RP.ext {Z : State} {h h' : Heap} {a : Addr} {f0 : Int32} {f1 : Int32} {f2 : Int32} {f3 : Int32} {f4 : Int32} {f5 : Int32} {f6 : Int32} {f7 : Int32} {f8 : Int32} {f9 : Int32} (H : RP Z h a f0 f1 f2 f3 f4 f5 f6 f7 f8 f9) (E : Ext h h') : RP Z h' a f0 f1 f2 f3 f4 f5 f6 f7 f8 f9 := ⟨H.1.ext E, H.2.1.ext E, H.2.2.1.ext E, H.2.2.2.1.ext E, H.2.2.2.2.1.ext E, H.2.2.2.2.2.1.ext E, H.2.2.2.2.2.2.1.ext E, H.2.2.2.2.2.2.2.1.ext E, H.2.2.2.2.2.2.2.2.1.ext E, H.2.2.2.2.2.2.2.2.2.1.ext E, H.2.2.2.2.2.2.2.2.2.2.ext E⟩
theorem RP.keep {Z : State} {h h' : Heap} {a : Addr} {f0 : Int32} {f1 : Int32} {f2 : Int32} {f3 : Int32} {f4 : Int32} {f5 : Int32} {f6 : Int32} {f7 : Int32} {f8 : Int32} {f9 : Int32} {ws : List Addr} (H : RP Z h a f0 f1 f2 f3 f4 f5 f6 f7 f8 f9) (K : Keep h h' ws) (q : a ∉ ws) : RP Z h' a f0 f1 f2 f3 f4 f5 f6 f7 f8 f9 := ⟨H.1.keep K, H.2.1.keep K q, H.2.2.1.keep K q, H.2.2.2.1.keep K q, H.2.2.2.2.1.keep K q, H.2.2.2.2.2.1.keep K q, H.2.2.2.2.2.2.1.keep K q, H.2.2.2.2.2.2.2.1.keep K q, H.2.2.2.2.2.2.2.2.1.keep K q, H.2.2.2.2.2.2.2.2.2.1.keep K q, H.2.2.2.2.2.2.2.2.2.2.keep K q⟩
theorem RP.other {Z : State} {h h' : Heap} {a : Addr} {f0 : Int32} {f1 : Int32} {f2 : Int32} {f3 : Int32} {f4 : Int32} {f5 : Int32} {f6 : Int32} {f7 : Int32} {f8 : Int32} {f9 : Int32} {b : Addr} {sl : Nat} {v : Value} (H : RP Z h a f0 f1 f2 f3 f4 f5 f6 f7 f8 f9) (W : Wr h h' b sl v) (q : a ≠ b) : RP Z h' a f0 f1 f2 f3 f4 f5 f6 f7 f8 f9 := ⟨H.1.wr W, H.2.1.other W (Or.inl q), H.2.2.1.other W (Or.inl q), H.2.2.2.1.other W (Or.inl q), H.2.2.2.2.1.other W (Or.inl q), H.2.2.2.2.2.1.other W (Or.inl q), H.2.2.2.2.2.2.1.other W (Or.inl q), H.2.2.2.2.2.2.2.1.other W (Or.inl q), H.2.2.2.2.2.2.2.2.1.other W (Or.inl q), H.2.2.2.2.2.2.2.2.2.1.other W (Or.inl q), H.2.2.2.2.2.2.2.2.2.2.other W (Or.inl q)⟩
theorem RP.set_bitsPerPixel {Z : State} {h h' : Heap} {a : Addr} {f0 : Int32} {f1 : Int32} {f2 : Int32} {f3 : Int32} {f4 : Int32} {f5 : Int32} {f6 : Int32} {f7 : Int32} {f8 : Int32} {f9 : Int32} {a0 : Array Value} (hw : ∀ d ∈ tables_1, d.before a0 Z = true) {g : Int32} (H : RP Z h a f0 f1 f2 f3 f4 f5 f6 f7 f8 f9) (W : Wr h h' a (Jvm.RoadKit.slotOf Z "com/example/framewire/framewire/rfb/PixelFormat" "bitsPerPixel" "I") (.int g)) : RP Z h' a g f1 f2 f3 f4 f5 f6 f7 f8 f9 := ⟨H.1.wr W, H.2.1.same W, H.2.2.1.other W (Or.inr (slot_ne (Or.inr (wd_18 hw)) (Or.inr (wd_16 hw)) (by decide) (t := .int) (t' := .int) (by decide) (by decide))), H.2.2.2.1.other W (Or.inr (slot_ne (Or.inr (wd_20 hw)) (Or.inr (wd_16 hw)) (by decide) (t := .boolean) (t' := .int) (by decide) (by decide))), H.2.2.2.2.1.other W (Or.inr (slot_ne (Or.inr (wd_22 hw)) (Or.inr (wd_16 hw)) (by decide) (t := .boolean) (t' := .int) (by decide) (by decide))), H.2.2.2.2.2.1.other W (Or.inr (slot_ne (Or.inr (wd_24 hw)) (Or.inr (wd_16 hw)) (by decide) (t := .int) (t' := .int) (by decide) (by decide))), H.2.2.2.2.2.2.1.other W (Or.inr (slot_ne (Or.inr (wd_26 hw)) (Or.inr (wd_16 hw)) (by decide) (t := .int) (t' := .int) (by decide) (by decide))), H.2.2.2.2.2.2.2.1.other W (Or.inr (slot_ne (Or.inr (wd_28 hw)) (Or.inr (wd_16 hw)) (by decide) (t := .int) (t' := .int) (by decide) (by decide))), H.2.2.2.2.2.2.2.2.1.other W (Or.inr (slot_ne (Or.inr (wd_30 hw)) (Or.inr (wd_16 hw)) (by decide) (t := .int) (t' := .int) (by decide) (by decide))), H.2.2.2.2.2.2.2.2.2.1.other W (Or.inr (slot_ne (Or.inr (wd_32 hw)) (Or.inr (wd_16 hw)) (by decide) (t := .int) (t' := .int) (by decide) (by decide))), H.2.2.2.2.2.2.2.2.2.2.other W (Or.inr (slot_ne (Or.inr (wd_34 hw)) (Or.inr (wd_16 hw)) (by decide) (t := .int) (t' := .int) (by decide) (by decide)))⟩
theorem RP.set_depth {Z : State} {h h' : Heap} {a : Addr} {f0 : Int32} {f1 : Int32} {f2 : Int32} {f3 : Int32} {f4 : Int32} {f5 : Int32} {f6 : Int32} {f7 : Int32} {f8 : Int32} {f9 : Int32} {a0 : Array Value} (hw : ∀ d ∈ tables_1, d.before a0 Z = true) {g : Int32} (H : RP Z h a f0 f1 f2 f3 f4 f5 f6 f7 f8 f9) (W : Wr h h' a (Jvm.RoadKit.slotOf Z "com/example/framewire/framewire/rfb/PixelFormat" "depth" "I") (.int g)) : RP Z h' a f0 g f2 f3 f4 f5 f6 f7 f8 f9 := ⟨H.1.wr W, H.2.1.other W (Or.inr (slot_ne (Or.inr (wd_16 hw)) (Or.inr (wd_18 hw)) (by decide) (t := .int) (t' := .int) (by decide) (by decide))), H.2.2.1.same W, H.2.2.2.1.other W (Or.inr (slot_ne (Or.inr (wd_20 hw)) (Or.inr (wd_18 hw)) (by decide) (t := .boolean) (t' := .int) (by decide) (by decide))), H.2.2.2.2.1.other W (Or.inr (slot_ne (Or.inr (wd_22 hw)) (Or.inr (wd_18 hw)) (by decide) (t := .boolean) (t' := .int) (by decide) (by decide))), H.2.2.2.2.2.1.other W (Or.inr (slot_ne (Or.inr (wd_24 hw)) (Or.inr (wd_18 hw)) (by decide) (t := .int) (t' := .int) (by decide) (by decide))), H.2.2.2.2.2.2.1.other W (Or.inr (slot_ne (Or.inr (wd_26 hw)) (Or.inr (wd_18 hw)) (by decide) (t := .int) (t' := .int) (by decide) (by decide))), H.2.2.2.2.2.2.2.1.other W (Or.inr (slot_ne (Or.inr (wd_28 hw)) (Or.inr (wd_18 hw)) (by decide) (t := .int) (t' := .int) (by decide) (by decide))), H.2.2.2.2.2.2.2.2.1.other W (Or.inr (slot_ne (Or.inr (wd_30 hw)) (Or.inr (wd_18 hw)) (by decide) (t := .int) (t' := .int) (by decide) (by decide))), H.2.2.2.2.2.2.2.2.2.1.other W (Or.inr (slot_ne (Or.inr (wd_32 hw)) (Or.inr (wd_18 hw)) (by decide) (t := .int) (t' := .int) (by decide) (by decide))), H.2.2.2.2.2.2.2.2.2.2.other W (Or.inr (slot_ne (Or.inr (wd_34 hw)) (Or.inr (wd_18 hw)) (by decide) (t := .int) (t' := .int) (by decide) (by decide)))⟩
theorem RP.set_bigEndian {Z : State} {h h' : Heap} {a : Addr} {f0 : Int32} {f1 : Int32} {f2 : Int32} {f3 : Int32} {f4 : Int32} {f5 : Int32} {f6 : Int32} {f7 : Int32} {f8 : Int32} {f9 : Int32} {a0 : Array Value} (hw : ∀ d ∈ tables_1, d.before a0 Z = true) {g : Int32} (H : RP Z h a f0 f1 f2 f3 f4 f5 f6 f7 f8 f9) (W : Wr h h' a (Jvm.RoadKit.slotOf Z "com/example/framewire/framewire/rfb/PixelFormat" "bigEndian" "Z") (.int g)) : RP Z h' a f0 f1 g f3 f4 f5 f6 f7 f8 f9 := ⟨H.1.wr W, H.2.1.other W (Or.inr (slot_ne (Or.inr (wd_16 hw)) (Or.inr (wd_20 hw)) (by decide) (t := .int) (t' := .boolean) (by decide) (by decide))), H.2.2.1.other W (Or.inr (slot_ne (Or.inr (wd_18 hw)) (Or.inr (wd_20 hw)) (by decide) (t := .int) (t' := .boolean) (by decide) (by decide))), H.2.2.2.1.same W, H.2.2.2.2.1.other W (Or.inr (slot_ne (Or.inr (wd_22 hw)) (Or.inr (wd_20 hw)) (by decide) (t := .boolean) (t' := .boolean) (by decide) (by decide))), H.2.2.2.2.2.1.other W (Or.inr (slot_ne (Or.inr (wd_24 hw)) (Or.inr (wd_20 hw)) (by decide) (t := .int) (t' := .boolean) (by decide) (by decide))), H.2.2.2.2.2.2.1.other W (Or.inr (slot_ne (Or.inr (wd_26 hw)) (Or.inr (wd_20 hw)) (by decide) (t := .int) (t' := .boolean) (by decide) (by decide))), H.2.2.2.2.2.2.2.1.other W (Or.inr (slot_ne (Or.inr (wd_28 hw)) (Or.inr (wd_20 hw)) (by decide) (t := .int) (t' := .boolean) (by decide) (by decide))), H.2.2.2.2.2.2.2.2.1.other W (Or.inr (slot_ne (Or.inr (wd_30 hw)) (Or.inr (wd_20 hw)) (by decide) (t := .int) (t' := .boolean) (by decide) (by decide))), H.2.2.2.2.2.2.2.2.2.1.other W (Or.inr (slot_ne (Or.inr (wd_32 hw)) (Or.inr (wd_20 hw)) (by decide) (t := .int) (t' := .boolean) (by decide) (by decide))), H.2.2.2.2.2.2.2.2.2.2.other W (Or.inr (slot_ne (Or.inr (wd_34 hw)) (Or.inr (wd_20 hw)) (by decide) (t := .int) (t' := .boolean) (by decide) (by decide)))⟩
theorem RP.set_trueColour {Z : State} {h h' : Heap} {a : Addr} {f0 : Int32} {f1 : Int32} {f2 : Int32} {f3 : Int32} {f4 : Int32} {f5 : Int32} {f6 : Int32} {f7 : Int32} {f8 : Int32} {f9 : Int32} {a0 : Array Value} (hw : ∀ d ∈ tables_1, d.before a0 Z = true) {g : Int32} (H : RP Z h a f0 f1 f2 f3 f4 f5 f6 f7 f8 f9) (W : Wr h h' a (Jvm.RoadKit.slotOf Z "com/example/framewire/framewire/rfb/PixelFormat" "trueColour" "Z") (.int g)) : RP Z h' a f0 f1 f2 g f4 f5 f6 f7 f8 f9 := ⟨H.1.wr W, H.2.1.other W (Or.inr (slot_ne (Or.inr (wd_16 hw)) (Or.inr (wd_22 hw)) (by decide) (t := .int) (t' := .boolean) (by decide) (by decide))), H.2.2.1.other W (Or.inr (slot_ne (Or.inr (wd_18 hw)) (Or.inr (wd_22 hw)) (by decide) (t := .int) (t' := .boolean) (by decide) (by decide))), H.2.2.2.1.other W (Or.inr (slot_ne (Or.inr (wd_20 hw)) (Or.inr (wd_22 hw)) (by decide) (t := .boolean) (t' := .boolean) (by decide) (by decide))), H.2.2.2.2.1.same W, H.2.2.2.2.2.1.other W (Or.inr (slot_ne (Or.inr (wd_24 hw)) (Or.inr (wd_22 hw)) (by decide) (t := .int) (t' := .boolean) (by decide) (by decide))), H.2.2.2.2.2.2.1.other W (Or.inr (slot_ne (Or.inr (wd_26 hw)) (Or.inr (wd_22 hw)) (by decide) (t := .int) (t' := .boolean) (by decide) (by decide))), H.2.2.2.2.2.2.2.1.other W (Or.inr (slot_ne (Or.inr (wd_28 hw)) (Or.inr (wd_22 hw)) (by decide) (t := .int) (t' := .boolean) (by decide) (by decide))), H.2.2.2.2.2.2.2.2.1.other W (Or.inr (slot_ne (Or.inr (wd_30 hw)) (Or.inr (wd_22 hw)) (by decide) (t := .int) (t' := .boolean) (by decide) (by decide))), H.2.2.2.2.2.2.2.2.2.1.other W (Or.inr (slot_ne (Or.inr (wd_32 hw)) (Or.inr (wd_22 hw)) (by decide) (t := .int) (t' := .boolean) (by decide) (by decide))), H.2.2.2.2.2.2.2.2.2.2.other W (Or.inr (slot_ne (Or.inr (wd_34 hw)) (Or.inr (wd_22 hw)) (by decide) (t := .int) (t' := .boolean) (by decide) (by decide)))⟩
theorem RP.set_redMax {Z : State} {h h' : Heap} {a : Addr} {f0 : Int32} {f1 : Int32} {f2 : Int32} {f3 : Int32} {f4 : Int32} {f5 : Int32} {f6 : Int32} {f7 : Int32} {f8 : Int32} {f9 : Int32} {a0 : Array Value} (hw : ∀ d ∈ tables_1, d.before a0 Z = true) {g : Int32} (H : RP Z h a f0 f1 f2 f3 f4 f5 f6 f7 f8 f9) (W : Wr h h' a (Jvm.RoadKit.slotOf Z "com/example/framewire/framewire/rfb/PixelFormat" "redMax" "I") (.int g)) : RP Z h' a f0 f1 f2 f3 g f5 f6 f7 f8 f9 := ⟨H.1.wr W, H.2.1.other W (Or.inr (slot_ne (Or.inr (wd_16 hw)) (Or.inr (wd_24 hw)) (by decide) (t := .int) (t' := .int) (by decide) (by decide))), H.2.2.1.other W (Or.inr (slot_ne (Or.inr (wd_18 hw)) (Or.inr (wd_24 hw)) (by decide) (t := .int) (t' := .int) (by decide) (by decide))), H.2.2.2.1.other W (Or.inr (slot_ne (Or.inr (wd_20 hw)) (Or.inr (wd_24 hw)) (by decide) (t := .boolean) (t' := .int) (by decide) (by decide))), H.2.2.2.2.1.other W (Or.inr (slot_ne (Or.inr (wd_22 hw)) (Or.inr (wd_24 hw)) (by decide) (t := .boolean) (t' := .int) (by decide) (by decide))), H.2.2.2.2.2.1.same W, H.2.2.2.2.2.2.1.other W (Or.inr (slot_ne (Or.inr (wd_26 hw)) (Or.inr (wd_24 hw)) (by decide) (t := .int) (t' := .int) (by decide) (by decide))), H.2.2.2.2.2.2.2.1.other W (Or.inr (slot_ne (Or.inr (wd_28 hw)) (Or.inr (wd_24 hw)) (by decide) (t := .int) (t' := .int) (by decide) (by decide))), H.2.2.2.2.2.2.2.2.1.other W (Or.inr (slot_ne (Or.inr (wd_30 hw)) (Or.inr (wd_24 hw)) (by decide) (t := .int) (t' := .int) (by decide) (by decide))), H.2.2.2.2.2.2.2.2.2.1.other W (Or.inr (slot_ne (Or.inr (wd_32 hw)) (Or.inr (wd_24 hw)) (by decide) (t := .int) (t' := .int) (by decide) (by decide))), H.2.2.2.2.2.2.2.2.2.2.other W (Or.inr (slot_ne (Or.inr (wd_34 hw)) (Or.inr (wd_24 hw)) (by decide) (t := .int) (t' := .int) (by decide) (by decide)))⟩
theorem RP.set_greenMax {Z : State} {h h' : Heap} {a : Addr} {f0 : Int32} {f1 : Int32} {f2 : Int32} {f3 : Int32} {f4 : Int32} {f5 : Int32} {f6 : Int32} {f7 : Int32} {f8 : Int32} {f9 : Int32} {a0 : Array Value} (hw : ∀ d ∈ tables_1, d.before a0 Z = true) {g : Int32} (H : RP Z h a f0 f1 f2 f3 f4 f5 f6 f7 f8 f9) (W : Wr h h' a (Jvm.RoadKit.slotOf Z "com/example/framewire/framewire/rfb/PixelFormat" "greenMax" "I") (.int g)) : RP Z h' a f0 f1 f2 f3 f4 g f6 f7 f8 f9 := ⟨H.1.wr W, H.2.1.other W (Or.inr (slot_ne (Or.inr (wd_16 hw)) (Or.inr (wd_26 hw)) (by decide) (t := .int) (t' := .int) (by decide) (by decide))), H.2.2.1.other W (Or.inr (slot_ne (Or.inr (wd_18 hw)) (Or.inr (wd_26 hw)) (by decide) (t := .int) (t' := .int) (by decide) (by decide))), H.2.2.2.1.other W (Or.inr (slot_ne (Or.inr (wd_20 hw)) (Or.inr (wd_26 hw)) (by decide) (t := .boolean) (t' := .int) (by decide) (by decide))), H.2.2.2.2.1.other W (Or.inr (slot_ne (Or.inr (wd_22 hw)) (Or.inr (wd_26 hw)) (by decide) (t := .boolean) (t' := .int) (by decide) (by decide))), H.2.2.2.2.2.1.other W (Or.inr (slot_ne (Or.inr (wd_24 hw)) (Or.inr (wd_26 hw)) (by decide) (t := .int) (t' := .int) (by decide) (by decide))), H.2.2.2.2.2.2.1.same W, H.2.2.2.2.2.2.2.1.other W (Or.inr (slot_ne (Or.inr (wd_28 hw)) (Or.inr (wd_26 hw)) (by decide) (t := .int) (t' := .int) (by decide) (by decide))), H.2.2.2.2.2.2.2.2.1.other W (Or.inr (slot_ne (Or.inr (wd_30 hw)) (Or.inr (wd_26 hw)) (by decide) (t := .int) (t' := .int) (by decide) (by decide))), H.2.2.2.2.2.2.2.2.2.1.other W (Or.inr (slot_ne (Or.inr (wd_32 hw)) (Or.inr (wd_26 hw)) (by decide) (t := .int) (t' := .int) (by decide) (by decide))), H.2.2.2.2.2.2.2.2.2.2.other W (Or.inr (slot_ne (Or.inr (wd_34 hw)) (Or.inr (wd_26 hw)) (by decide) (t := .int) (t' := .int) (by decide) (by decide)))⟩
theorem RP.set_blueMax {Z : State} {h h' : Heap} {a : Addr} {f0 : Int32} {f1 : Int32} {f2 : Int32} {f3 : Int32} {f4 : Int32} {f5 : Int32} {f6 : Int32} {f7 : Int32} {f8 : Int32} {f9 : Int32} {a0 : Array Value} (hw : ∀ d ∈ tables_1, d.before a0 Z = true) {g : Int32} (H : RP Z h a f0 f1 f2 f3 f4 f5 f6 f7 f8 f9) (W : Wr h h' a (Jvm.RoadKit.slotOf Z "com/example/framewire/framewire/rfb/PixelFormat" "blueMax" "I") (.int g)) : RP Z h' a f0 f1 f2 f3 f4 f5 g f7 f8 f9 := ⟨H.1.wr W, H.2.1.other W (Or.inr (slot_ne (Or.inr (wd_16 hw)) (Or.inr (wd_28 hw)) (by decide) (t := .int) (t' := .int) (by decide) (by decide))), H.2.2.1.other W (Or.inr (slot_ne (Or.inr (wd_18 hw)) (Or.inr (wd_28 hw)) (by decide) (t := .int) (t' := .int) (by decide) (by decide))), H.2.2.2.1.other W (Or.inr (slot_ne (Or.inr (wd_20 hw)) (Or.inr (wd_28 hw)) (by decide) (t := .boolean) (t' := .int) (by decide) (by decide))), H.2.2.2.2.1.other W (Or.inr (slot_ne (Or.inr (wd_22 hw)) (Or.inr (wd_28 hw)) (by decide) (t := .boolean) (t' := .int) (by decide) (by decide))), H.2.2.2.2.2.1.other W (Or.inr (slot_ne (Or.inr (wd_24 hw)) (Or.inr (wd_28 hw)) (by decide) (t := .int) (t' := .int) (by decide) (by decide))), H.2.2.2.2.2.2.1.other W (Or.inr (slot_ne (Or.inr (wd_26 hw)) (Or.inr (wd_28 hw)) (by decide) (t := .int) (t' := .int) (by decide) (by decide))), H.2.2.2.2.2.2.2.1.same W, H.2.2.2.2.2.2.2.2.1.other W (Or.inr (slot_ne (Or.inr (wd_30 hw)) (Or.inr (wd_28 hw)) (by decide) (t := .int) (t' := .int) (by decide) (by decide))), H.2.2.2.2.2.2.2.2.2.1.other W (Or.inr (slot_ne (Or.inr (wd_32 hw)) (Or.inr (wd_28 hw)) (by decide) (t := .int) (t' := .int) (by decide) (by decide))), H.2.2.2.2.2.2.2.2.2.2.other W (Or.inr (slot_ne (Or.inr (wd_34 hw)) (Or.inr (wd_28 hw)) (by decide) (t := .int) (t' := .int) (by decide) (by decide)))⟩
theorem RP.set_redShift {Z : State} {h h' : Heap} {a : Addr} {f0 : Int32} {f1 : Int32} {f2 : Int32} {f3 : Int32} {f4 : Int32} {f5 : Int32} {f6 : Int32} {f7 : Int32} {f8 : Int32} {f9 : Int32} {a0 : Array Value} (hw : ∀ d ∈ tables_1, d.before a0 Z = true) {g : Int32} (H : RP Z h a f0 f1 f2 f3 f4 f5 f6 f7 f8 f9) (W : Wr h h' a (Jvm.RoadKit.slotOf Z "com/example/framewire/framewire/rfb/PixelFormat" "redShift" "I") (.int g)) : RP Z h' a f0 f1 f2 f3 f4 f5 f6 g f8 f9 := ⟨H.1.wr W, H.2.1.other W (Or.inr (slot_ne (Or.inr (wd_16 hw)) (Or.inr (wd_30 hw)) (by decide) (t := .int) (t' := .int) (by decide) (by decide))), H.2.2.1.other W (Or.inr (slot_ne (Or.inr (wd_18 hw)) (Or.inr (wd_30 hw)) (by decide) (t := .int) (t' := .int) (by decide) (by decide))), H.2.2.2.1.other W (Or.inr (slot_ne (Or.inr (wd_20 hw)) (Or.inr (wd_30 hw)) (by decide) (t := .boolean) (t' := .int) (by decide) (by decide))), H.2.2.2.2.1.other W (Or.inr (slot_ne (Or.inr (wd_22 hw)) (Or.inr (wd_30 hw)) (by decide) (t := .boolean) (t' := .int) (by decide) (by decide))), H.2.2.2.2.2.1.other W (Or.inr (slot_ne (Or.inr (wd_24 hw)) (Or.inr (wd_30 hw)) (by decide) (t := .int) (t' := .int) (by decide) (by decide))), H.2.2.2.2.2.2.1.other W (Or.inr (slot_ne (Or.inr (wd_26 hw)) (Or.inr (wd_30 hw)) (by decide) (t := .int) (t' := .int) (by decide) (by decide))), H.2.2.2.2.2.2.2.1.other W (Or.inr (slot_ne (Or.inr (wd_28 hw)) (Or.inr (wd_30 hw)) (by decide) (t := .int) (t' := .int) (by decide) (by decide))), H.2.2.2.2.2.2.2.2.1.same W, H.2.2.2.2.2.2.2.2.2.1.other W (Or.inr (slot_ne (Or.inr (wd_32 hw)) (Or.inr (wd_30 hw)) (by decide) (t := .int) (t' := .int) (by decide) (by decide))), H.2.2.2.2.2.2.2.2.2.2.other W (Or.inr (slot_ne (Or.inr (wd_34 hw)) (Or.inr (wd_30 hw)) (by decide) (t := .int) (t' := .int) (by decide) (by decide)))⟩
theorem RP.set_greenShift {Z : State} {h h' : Heap} {a : Addr} {f0 : Int32} {f1 : Int32} {f2 : Int32} {f3 : Int32} {f4 : Int32} {f5 : Int32} {f6 : Int32} {f7 : Int32} {f8 : Int32} {f9 : Int32} {a0 : Array Value} (hw : ∀ d ∈ tables_1, d.before a0 Z = true) {g : Int32} (H : RP Z h a f0 f1 f2 f3 f4 f5 f6 f7 f8 f9) (W : Wr h h' a (Jvm.RoadKit.slotOf Z "com/example/framewire/framewire/rfb/PixelFormat" "greenShift" "I") (.int g)) : RP Z h' a f0 f1 f2 f3 f4 f5 f6 f7 g f9 := ⟨H.1.wr W, H.2.1.other W (Or.inr (slot_ne (Or.inr (wd_16 hw)) (Or.inr (wd_32 hw)) (by decide) (t := .int) (t' := .int) (by decide) (by decide))), H.2.2.1.other W (Or.inr (slot_ne (Or.inr (wd_18 hw)) (Or.inr (wd_32 hw)) (by decide) (t := .int) (t' := .int) (by decide) (by decide))), H.2.2.2.1.other W (Or.inr (slot_ne (Or.inr (wd_20 hw)) (Or.inr (wd_32 hw)) (by decide) (t := .boolean) (t' := .int) (by decide) (by decide))), H.2.2.2.2.1.other W (Or.inr (slot_ne (Or.inr (wd_22 hw)) (Or.inr (wd_32 hw)) (by decide) (t := .boolean) (t' := .int) (by decide) (by decide))), H.2.2.2.2.2.1.other W (Or.inr (slot_ne (Or.inr (wd_24 hw)) (Or.inr (wd_32 hw)) (by decide) (t := .int) (t' := .int) (by decide) (by decide))), H.2.2.2.2.2.2.1.other W (Or.inr (slot_ne (Or.inr (wd_26 hw)) (Or.inr (wd_32 hw)) (by decide) (t := .int) (t' := .int) (by decide) (by decide))), H.2.2.2.2.2.2.2.1.other W (Or.inr (slot_ne (Or.inr (wd_28 hw)) (Or.inr (wd_32 hw)) (by decide) (t := .int) (t' := .int) (by decide) (by decide))), H.2.2.2.2.2.2.2.2.1.other W (Or.inr (slot_ne (Or.inr (wd_30 hw)) (Or.inr (wd_32 hw)) (by decide) (t := .int) (t' := .int) (by decide) (by decide))), H.2.2.2.2.2.2.2.2.2.1.same W, H.2.2.2.2.2.2.2.2.2.2.other W (Or.inr (slot_ne (Or.inr (wd_34 hw)) (Or.inr (wd_32 hw)) (by decide) (t := .int) (t' := .int) (by decide) (by decide)))⟩
theorem RP.set_blueShift {Z : State} {h h' : Heap} {a : Addr} {f0 : Int32} {f1 : Int32} {f2 : Int32} {f3 : Int32} {f4 : Int32} {f5 : Int32} {f6 : Int32} {f7 : Int32} {f8 : Int32} {f9 : Int32} {a0 : Array Value} (hw : ∀ d ∈ tables_1, d.before a0 Z = true) {g : Int32} (H : RP Z h a f0 f1 f2 f3 f4 f5 f6 f7 f8 f9) (W : Wr h h' a (Jvm.RoadKit.slotOf Z "com/example/framewire/framewire/rfb/PixelFormat" "blueShift" "I") (.int g)) : RP Z h' a f0 f1 f2 f3 f4 f5 f6 f7 f8 g := ⟨H.1.wr W, H.2.1.other W (Or.inr (slot_ne (Or.inr (wd_16 hw)) (Or.inr (wd_34 hw)) (by decide) (t := .int) (t' := .int) (by decide) (by decide))), H.2.2.1.other W (Or.inr (slot_ne (Or.inr (wd_18 hw)) (Or.inr (wd_34 hw)) (by decide) (t := .int) (t' := .int) (by decide) (by decide))), H.2.2.2.1.other W (Or.inr (slot_ne (Or.inr (wd_20 hw)) (Or.inr (wd_34 hw)) (by decide) (t := .boolean) (t' := .int) (by decide) (by decide))), H.2.2.2.2.1.other W (Or.inr (slot_ne (Or.inr (wd_22 hw)) (Or.inr (wd_34 hw)) (by decide) (t := .boolean) (t' := .int) (by decide) (by decide))), H.2.2.2.2.2.1.other W (Or.inr (slot_ne (Or.inr (wd_24 hw)) (Or.inr (wd_34 hw)) (by decide) (t := .int) (t' := .int) (by decide) (by decide))), H.2.2.2.2.2.2.1.other W (Or.inr (slot_ne (Or.inr (wd_26 hw)) (Or.inr (wd_34 hw)) (by decide) (t := .int) (t' := .int) (by decide) (by decide))), H.2.2.2.2.2.2.2.1.other W (Or.inr (slot_ne (Or.inr (wd_28 hw)) (Or.inr (wd_34 hw)) (by decide) (t := .int) (t' := .int) (by decide) (by decide))), H.2.2.2.2.2.2.2.2.1.other W (Or.inr (slot_ne (Or.inr (wd_30 hw)) (Or.inr (wd_34 hw)) (by decide) (t := .int) (t' := .int) (by decide) (by decide))), H.2.2.2.2.2.2.2.2.2.1.other W (Or.inr (slot_ne (Or.inr (wd_32 hw)) (Or.inr (wd_34 hw)) (by decide) (t := .int) (t' := .int) (by decide) (by decide))), H.2.2.2.2.2.2.2.2.2.2.same W⟩
set_option maxRecDepth 65536 in
set_option maxHeartbeats 40000000 in
theorem c_rec (l : Launch) {Z : State} {a0 : Array Value} (hw : ∀ d ∈ tables_1, d.before a0 Z = true) (h0 : Heap) (n0 : Nat) (hn0 : n0 ≤ h0.size) (a : Addr)  : Con l Z (⟨"java/lang/Record", "<init>", "()V"⟩ : MethodName) jdk_30_method_1_code 1 none ({ frames := 1, cells := 0, slots := 0, locals := 12 } : Room) [] #[(.ref a)] h0 n0 (fun v h' => v = none ∧ h0 = h') := by
  refine con_of (Ls0 := #[.val (.ref a)]) (plainFor_of_name pn_0) (fun m => by first | (simp [entryFrame, mkF, argsToLocals, Value.category]; done) | rfl) hn0 ?_
  intro p e s m below meth c C
  refine g_aloadN C D2_0 rfl rfl ?_
  refine g_initO C (wd_12 hw) (wd_13 hw) (wd_14 hw) D2_1 rfl (by decide) 0 (Nat.le_of_eq rfl) (by decide) ?_
  refine g_ret C D2_4 (by decide) (by decide) ?_
  exact ⟨rfl, rfl⟩
set_option maxRecDepth 65536 in
set_option maxHeartbeats 40000000 in
theorem c_init (l : Launch) {Z : State} {a0 : Array Value} (hw : ∀ d ∈ tables_1, d.before a0 Z = true) (h0 : Heap) (n0 : Nat) (hn0 : n0 ≤ h0.size) (a : Addr) (bp dp be tc rm gm bm rs gs bs : Int32) (u0 u1 u2 u3 u4 u5 u6 u7 u8 u9 : Int32) (ga : n0 ≤ a) (H : RP Z h0 a u0 u1 u2 u3 u4 u5 u6 u7 u8 u9) (hbe : be &&& 1 = be) (htc : tc &&& 1 = tc) : Con l Z (⟨"com/example/framewire/framewire/rfb/PixelFormat", "<init>", "(IIZZIIIIII)V"⟩ : MethodName) prog_83_method_1_code 11 none ({ frames := 2, cells := 0, slots := 0, locals := 24 } : Room) [] #[(.ref a), (.int bp), (.int dp), (.int be), (.int tc), (.int rm), (.int gm), (.int bm), (.int rs), (.int gs), (.int bs)] h0 n0 (fun v h' => v = none ∧ Keep h0 h' [a] ∧ RP Z h' a bp dp be tc rm gm bm rs gs bs) := by
  refine con_of (Ls0 := #[.val (.ref a), .val (.int bp), .val (.int dp), .val (.int be), .val (.int tc), .val (.int rm), .val (.int gm), .val (.int bm), .val (.int rs), .val (.int gs), .val (.int bs)]) (plainFor_of_name pn_1) (fun m => by first | (simp [entryFrame, mkF, argsToLocals, Value.category]; done) | rfl) hn0 ?_
  intro p e s m below meth c C
  refine g_aloadN C D1_0 rfl rfl ?_
  refine g_callI C (c_rec l hw h0 n0 hn0 a) rfl (wd_7 hw) (wd_8 hw) (wd_10 hw) (wd_11 hw) (by decide) D1_1 pd_0 [] [] rfl rfl rfl 0 (Nat.le_of_eq rfl) (by decide) (by decide) (by decide) (by decide) ?_
  rintro _ _ ⟨rfl, rfl⟩
  refine g_cast (f' := mkF m 4 #[.val (.ref a), .val (.int bp), .val (.int dp), .val (.int be), .val (.int tc), .val (.int rm), .val (.int gm), .val (.int bm), .val (.int rs), .val (.int gs), .val (.int bs)] []) rfl ?_
  refine g_aloadN C D1_4 rfl rfl ?_
  refine g_iloadN C D1_5 rfl ?_
  refine g_putF C (wd_15 hw) D1_6 H.2.1 H.1 (Or.inr ⟨(wd_16 hw), rfl, rfl⟩) (wd_2 hw) (ty := .int) (v' := (.int bp)) (by decide) rfl rfl ga ?_
  intro h1 W2
  have H3 := RP.set_bitsPerPixel hw (g := bp) H W2
  have K4 := (Keep.refl h0 [a]).wr W2 (Or.inl (by simp))
  refine g_aloadN C D1_9 rfl rfl ?_
  refine g_iloadN C D1_10 rfl ?_
  refine g_putF C (wd_17 hw) D1_11 H3.2.2.1 H3.1 (Or.inr ⟨(wd_18 hw), rfl, rfl⟩) (wd_2 hw) (ty := .int) (v' := (.int dp)) (by decide) rfl rfl ga ?_
  intro h5 W6
  have H7 := RP.set_depth hw (g := dp) H3 W6
  have K8 := K4.wr W6 (Or.inl (by simp))
  refine g_aloadN C D1_14 rfl rfl ?_
  refine g_iloadN C D1_15 rfl ?_
  refine g_putF C (wd_19 hw) D1_16 H7.2.2.2.1 H7.1 (Or.inr ⟨(wd_20 hw), rfl, rfl⟩) (wd_2 hw) (ty := .boolean) (v' := (.int be)) (by decide) (by show Value.int (be &&& 1) = _; rw [hbe]) (hbe ▸ fits_nar_bool be) ga ?_
  intro h9 W10
  have H11 := RP.set_bigEndian hw (g := be) H7 W10
  have K12 := K8.wr W10 (Or.inl (by simp))
  refine g_aloadN C D1_19 rfl rfl ?_
  refine g_iload C D1_20 rfl ?_
  refine g_putF C (wd_21 hw) D1_22 H11.2.2.2.2.1 H11.1 (Or.inr ⟨(wd_22 hw), rfl, rfl⟩) (wd_2 hw) (ty := .boolean) (v' := (.int tc)) (by decide) (by show Value.int (tc &&& 1) = _; rw [htc]) (htc ▸ fits_nar_bool tc) ga ?_
  intro h13 W14
  have H15 := RP.set_trueColour hw (g := tc) H11 W14
  have K16 := K12.wr W14 (Or.inl (by simp))
  refine g_aloadN C D1_25 rfl rfl ?_
  refine g_iload C D1_26 rfl ?_
  refine g_putF C (wd_23 hw) D1_28 H15.2.2.2.2.2.1 H15.1 (Or.inr ⟨(wd_24 hw), rfl, rfl⟩) (wd_2 hw) (ty := .int) (v' := (.int rm)) (by decide) rfl rfl ga ?_
  intro h17 W18
  have H19 := RP.set_redMax hw (g := rm) H15 W18
  have K20 := K16.wr W18 (Or.inl (by simp))
  refine g_aloadN C D1_31 rfl rfl ?_
  refine g_iload C D1_32 rfl ?_
  refine g_putF C (wd_25 hw) D1_34 H19.2.2.2.2.2.2.1 H19.1 (Or.inr ⟨(wd_26 hw), rfl, rfl⟩) (wd_2 hw) (ty := .int) (v' := (.int gm)) (by decide) rfl rfl ga ?_
  intro h21 W22
  have H23 := RP.set_greenMax hw (g := gm) H19 W22
  have K24 := K20.wr W22 (Or.inl (by simp))
  refine g_aloadN C D1_37 rfl rfl ?_
  refine g_iload C D1_38 rfl ?_
  refine g_putF C (wd_27 hw) D1_40 H23.2.2.2.2.2.2.2.1 H23.1 (Or.inr ⟨(wd_28 hw), rfl, rfl⟩) (wd_2 hw) (ty := .int) (v' := (.int bm)) (by decide) rfl rfl ga ?_
  intro h25 W26
  have H27 := RP.set_blueMax hw (g := bm) H23 W26
  have K28 := K24.wr W26 (Or.inl (by simp))
  refine g_aloadN C D1_43 rfl rfl ?_
  refine g_iload C D1_44 rfl ?_
  refine g_putF C (wd_29 hw) D1_46 H27.2.2.2.2.2.2.2.2.1 H27.1 (Or.inr ⟨(wd_30 hw), rfl, rfl⟩) (wd_2 hw) (ty := .int) (v' := (.int rs)) (by decide) rfl rfl ga ?_
  intro h29 W30
  have H31 := RP.set_redShift hw (g := rs) H27 W30
  have K32 := K28.wr W30 (Or.inl (by simp))
  refine g_aloadN C D1_49 rfl rfl ?_
  refine g_iload C D1_50 rfl ?_
  refine g_putF C (wd_31 hw) D1_52 H31.2.2.2.2.2.2.2.2.2.1 H31.1 (Or.inr ⟨(wd_32 hw), rfl, rfl⟩) (wd_2 hw) (ty := .int) (v' := (.int gs)) (by decide) rfl rfl ga ?_
  intro h33 W34
  have H35 := RP.set_greenShift hw (g := gs) H31 W34
  have K36 := K32.wr W34 (Or.inl (by simp))
  refine g_aloadN C D1_55 rfl rfl ?_
  refine g_iload C D1_56 rfl ?_
  refine g_putF C (wd_33 hw) D1_58 H35.2.2.2.2.2.2.2.2.2.2 H35.1 (Or.inr ⟨(wd_34 hw), rfl, rfl⟩) (wd_2 hw) (ty := .int) (v' := (.int bs)) (by decide) rfl rfl ga ?_
  intro h37 W38
  have H39 := RP.set_blueShift hw (g := bs) H35 W38
  have K40 := K36.wr W38 (Or.inl (by simp))
  refine g_ret C D1_61 (by decide) (by decide) ?_
  exact ⟨rfl, K40, H39⟩
set_option maxRecDepth 65536 in
set_option maxHeartbeats 40000000 in
theorem c_cps (l : Launch) {Z : State} {a0 : Array Value} (hw : ∀ d ∈ tables_1, d.before a0 Z = true) (h0 : Heap) (n0 : Nat) (hn0 : n0 ≤ h0.size) (a : Addr) (r : Int32) (bp dp be tc rm gm bm rs gs bs : Int32) (H : RP Z h0 a bp dp be tc rm gm bm rs gs bs) (hs : cpsR tc bp dp rm gm bm rs gs bs r) : Con l Z (⟨"com/example/framewire/framewire/rfb/PixelFormat", "compressedPixelShift", "()I"⟩ : MethodName) prog_83_method_3_code 4 (some .int) ({ frames := 0, cells := 0, slots := 0, locals := 0 } : Room) [] #[(.ref a)] h0 n0 (fun v h' => v = some (.int r) ∧ h0 = h') := by
  refine con_of (Ls0 := #[.val (.ref a), .unset, .unset, .unset]) (plainFor_of_name pn_1) (fun m => by first | (simp [entryFrame, mkF, argsToLocals, Value.category]; done) | rfl) hn0 ?_
  intro p e s m below meth c C
  refine g_join (ι := Int32) (fun y => h0) 0 0 (fun y => mkF m 32 #[.val (.ref a), .unset, .unset, .unset] [(.int y)]) (fun y => ((rs < 32 ∧ gs < 32 ∧ bs < 32) ∧ y = 1) ∨ (¬ (rs < 32 ∧ gs < 32 ∧ bs < 32) ∧ y = 0)) (fun J => ?_) ?_
  · refine g_aloadN C D4_0 rfl rfl ?_
    refine g_getF C (wd_29 hw) D4_1 H.2.2.2.2.2.2.2.2.1 ?_
    refine g_bipush C (32 : Int32) rfl D4_4 ?_
    refine g_icmp_ge C D4_6 (fun q1 => ?_) (fun q1 => ?_)
    · refine g_iconst C (0 : Int32) rfl D4_31 ?_
      exact J _ (Or.inr ⟨fun z => q1 z.1, rfl⟩)
    · refine g_aloadN C D4_9 rfl rfl ?_
      refine g_getF C (wd_31 hw) D4_10 H.2.2.2.2.2.2.2.2.2.1 ?_
      refine g_bipush C (32 : Int32) rfl D4_13 ?_
      refine g_icmp_ge C D4_15 (fun q2 => ?_) (fun q2 => ?_)
      · refine g_iconst C (0 : Int32) rfl D4_31 ?_
        exact J _ (Or.inr ⟨fun z => q2 z.2.1, rfl⟩)
      · refine g_aloadN C D4_18 rfl rfl ?_
        refine g_getF C (wd_33 hw) D4_19 H.2.2.2.2.2.2.2.2.2.2 ?_
        refine g_bipush C (32 : Int32) rfl D4_22 ?_
        refine g_icmp_ge C D4_24 (fun q3 => ?_) (fun q3 => ?_)
        · refine g_iconst C (0 : Int32) rfl D4_31 ?_
          exact J _ (Or.inr ⟨fun z => q3 z.2.2, rfl⟩)
        · refine g_iconst C (1 : Int32) rfl D4_27 ?_
          refine g_goto C D4_28 ?_
          exact J _ (Or.inl ⟨⟨q1, q2, q3⟩, rfl⟩)
  intro k1 hk1
  try dsimp only at hk1 ⊢
  refine g_istoreN C #[.val (.ref a), .val (.int k1), .unset, .unset] D4_32 rfl ?_
  refine g_aloadN C D4_33 rfl rfl ?_
  refine g_getF C (wd_21 hw) D4_34 H.2.2.2.2.1 ?_
  refine g_if_eq C D4_37 (fun q4 => ?_) (fun q4 => ?_)
  · refine g_iconst C (-1 : Int32) rfl D4_62 ?_
    refine g_retI C D4_63 (by decide) (by decide) ?_
    obtain rfl := cps_no (fun z => z.1 q4) hs
    exact ⟨rfl, rfl⟩
  · refine g_aloadN C D4_40 rfl rfl ?_
    refine g_getF C (wd_15 hw) D4_41 H.2.1 ?_
    refine g_bipush C (32 : Int32) rfl D4_44 ?_
    refine g_icmp_ne C D4_46 (fun q5 => ?_) (fun q5 => ?_)
    · refine g_iconst C (-1 : Int32) rfl D4_62 ?_
      refine g_retI C D4_63 (by decide) (by decide) ?_
      obtain rfl := cps_no (fun z => q5 z.2.1) hs
      exact ⟨rfl, rfl⟩
    · refine g_aloadN C D4_49 rfl rfl ?_
      refine g_getF C (wd_17 hw) D4_50 H.2.2.1 ?_
      refine g_bipush C (24 : Int32) rfl D4_53 ?_
      refine g_icmp_gt C D4_55 (fun q6 => ?_) (fun q6 => ?_)
      · refine g_iconst C (-1 : Int32) rfl D4_62 ?_
        refine g_retI C D4_63 (by decide) (by decide) ?_
        obtain rfl := cps_no (fun z => z.2.2.1 q6) hs
        exact ⟨rfl, rfl⟩
      · refine g_iloadN C D4_58 rfl ?_
        refine g_if_ne C D4_59 (fun q7 => ?_) (fun q7 => ?_)
        · have ok : okP tc bp dp rs gs bs := by
            rcases hk1 with z | z
            · exact ⟨q4, q5, q6, z.1⟩
            · exact absurd z.2 q7
          refine g_aloadN C D4_64 rfl rfl ?_
          refine g_getF C (wd_23 hw) D4_65 H.2.2.2.2.2.1 ?_
          refine g_i2l C D4_68 ?_
          refine g_aloadN C D4_69 rfl rfl ?_
          refine g_getF C (wd_29 hw) D4_70 H.2.2.2.2.2.2.2.2.1 ?_
          refine g_lshl C D4_73 ?_
          refine g_aloadN C D4_74 rfl rfl ?_
          refine g_getF C (wd_25 hw) D4_75 H.2.2.2.2.2.2.1 ?_
          refine g_i2l C D4_78 ?_
          refine g_aloadN C D4_79 rfl rfl ?_
          refine g_getF C (wd_31 hw) D4_80 H.2.2.2.2.2.2.2.2.2.1 ?_
          refine g_lshl C D4_83 ?_
          refine g_lor C D4_84 ?_
          refine g_aloadN C D4_85 rfl rfl ?_
          refine g_getF C (wd_27 hw) D4_86 H.2.2.2.2.2.2.2.1 ?_
          refine g_i2l C D4_89 ?_
          refine g_aloadN C D4_90 rfl rfl ?_
          refine g_getF C (wd_33 hw) D4_91 H.2.2.2.2.2.2.2.2.2.2 ?_
          refine g_lshl C D4_94 ?_
          refine g_lor C D4_95 ?_
          generalize q_M : (((shlJ (rm.toInt64) rs) ||| (shlJ (gm.toInt64) gs)) ||| (shlJ (bm.toInt64) bs)) = M
          replace q_M : mOf rm gm bm rs gs bs = M := q_M
          refine g_lstoreN C #[.val (.ref a), .val (.int k1), .val (.long M), .second] D4_96 rfl ?_
          refine g_lloadN C D4_97 rfl ?_
          refine g_ldc2 C (wd_40 hw) D4_98 ?_
          refine g_land C D4_101 ?_
          refine g_lconst C (0 : Int64) rfl D4_102 ?_
          refine g_lcmp_ne C D4_103 D4_104 (fun q8 => ?_) (fun q8 => ?_)
          · refine g_lloadN C D4_109 rfl ?_
            refine g_ldc2 C (wd_41 hw) D4_110 ?_
            refine g_land C D4_113 ?_
            refine g_lconst C (0 : Int64) rfl D4_114 ?_
            refine g_lcmp_ne C D4_115 D4_116 (fun q9 => ?_) (fun q9 => ?_)
            · refine g_iconst C (-1 : Int32) rfl D4_124 ?_
              refine g_retI C D4_125 (by decide) (by decide) ?_
              obtain rfl := cps_m ok (q_M ▸ q8) (q_M ▸ q9) hs
              exact ⟨rfl, rfl⟩
            · refine g_bipush C (8 : Int32) rfl D4_119 ?_
              refine g_goto C D4_121 ?_
              refine g_retI C D4_125 (by decide) (by decide) ?_
              obtain rfl := cps_8 ok (q_M ▸ q8) (q_M ▸ q9) hs
              exact ⟨rfl, rfl⟩
          · refine g_iconst C (0 : Int32) rfl D4_107 ?_
            refine g_retI C D4_108 (by decide) (by decide) ?_
            obtain rfl := cps_0 ok (q_M ▸ q8) hs
            exact ⟨rfl, rfl⟩
        · refine g_iconst C (-1 : Int32) rfl D4_62 ?_
          refine g_retI C D4_63 (by decide) (by decide) ?_
          obtain rfl := cps_no (fun z => by
            rcases hk1 with y | y
            · exact absurd (q7 ▸ y.2) (by decide)
            · exact y.1 z.2.2.2) hs
          exact ⟨rfl, rfl⟩
set_option maxRecDepth 65536 in
set_option maxHeartbeats 40000000 in
theorem c_fits (l : Launch) {Z : State} {a0 : Array Value} (hw : ∀ d ∈ tables_1, d.before a0 Z = true) (h0 : Heap) (n0 : Nat) (hn0 : n0 ≤ h0.size) (mx sh lo hi r : Int32) (hnz : shlJ 1 lo ≠ 0) (hs : fitR mx sh lo hi r) : Con l Z (⟨"com/example/framewire/framewire/rfb/PixelFormatCompressedPixelShiftPinLaw", "fits", "(IIII)Z"⟩ : MethodName) method_3_code 6 (some .boolean) ({ frames := 0, cells := 0, slots := 0, locals := 0 } : Room) [] #[(.int mx), (.int sh), (.int lo), (.int hi)] h0 n0 (fun v h' => v = some (.int r) ∧ h0 = h') := by
  refine con_of (Ls0 := #[.val (.int mx), .val (.int sh), .val (.int lo), .val (.int hi), .unset, .unset]) (plainFor_of_name pn_2) (fun m => by first | (simp [entryFrame, mkF, argsToLocals, Value.category]; done) | rfl) hn0 ?_
  intro p e s m below meth c C
  refine g_iloadN C D5_0 rfl ?_
  refine g_i2l C D5_1 ?_
  refine g_lconst C (1 : Int64) rfl D5_2 ?_
  refine g_iloadN C D5_3 rfl ?_
  refine g_lshl C D5_4 ?_
  refine g_lmul C D5_5 ?_
  generalize q_v : ((mx.toInt64) * (shlJ (1 : Int64) sh)) = v1
  replace q_v : vOf mx sh = v1 := q_v
  refine g_lstore C #[.val (.int mx), .val (.int sh), .val (.int lo), .val (.int hi), .val (.long v1), .second] D5_6 rfl ?_
  refine g_lload C D5_8 rfl ?_
  refine g_lconst C (1 : Int64) rfl D5_10 ?_
  refine g_iloadN C D5_11 rfl ?_
  refine g_lshl C D5_12 ?_
  refine g_lcmp_ge C D5_13 D5_14 (fun q1 => ?_) (fun q1 => ?_)
  · refine g_iconst C (0 : Int32) rfl D5_32 ?_
    refine g_retZ C D5_33 (by decide) (by decide) ?_
    obtain rfl := fitF (fun z => q1 (by have := z.1; rw [q_v] at this; exact this)) hs
    exact ⟨rfl, rfl⟩
  · refine g_lload C D5_17 rfl ?_
    refine g_lconst C (1 : Int64) rfl D5_19 ?_
    refine g_iloadN C D5_20 rfl ?_
    refine g_lshl C D5_21 ?_
    refine g_lrem C D5_22 hnz ?_
    refine g_lconst C (0 : Int64) rfl D5_23 ?_
    refine g_lcmp_ne C D5_24 D5_25 (fun q2 => ?_) (fun q2 => ?_)
    · refine g_iconst C (0 : Int32) rfl D5_32 ?_
      refine g_retZ C D5_33 (by decide) (by decide) ?_
      obtain rfl := fitF (fun z => q2 (by have := z.2; rw [q_v] at this; exact this)) hs
      exact ⟨rfl, rfl⟩
    · refine g_iconst C (1 : Int32) rfl D5_28 ?_
      refine g_goto C D5_29 ?_
      refine g_retZ C D5_33 (by decide) (by decide) ?_
      obtain rfl := fitT ⟨by rw [q_v]; exact q1, by rw [q_v]; exact q2⟩ hs
      exact ⟨rfl, rfl⟩
set_option maxRecDepth 65536 in
set_option maxHeartbeats 40000000 in
theorem c_law (l : Launch) {Z : State} {a0 : Array Value} (hw : ∀ d ∈ tables_1, d.before a0 Z = true) (ws : List Jvm.Cond) (h0 : Heap) (n0 : Nat) (hn0 : n0 ≤ h0.size) (i_a : Int32) (i_m : Int64) (i_s : Int32)  : Con l Z x code maxLocals ret room_1 ws #[(.int i_a), (.long i_m), (.int i_s)] h0 n0 (fun v h' => v = some (.int 1) ∧ True) := by
  refine con_of (Ls0 := #[.val (.int i_a), .val (.long i_m), .second, .val (.int i_s), .unset, .unset, .unset, .unset, .unset, .unset, .unset, .unset, .unset, .unset, .unset, .unset, .unset]) (plainFor_of_name pn_2) (fun m => by first | (simp [entryFrame, mkF, argsToLocals, Value.category, maxLocals]; done) | rfl) hn0 ?_
  intro p e s m below meth c C
  refine g_lloadN C D0_0 rfl ?_
  refine g_ldc2 C (wd_0 hw) D0_1 ?_
  refine g_land C D0_4 ?_
  refine g_l2i C D0_5 ?_
  generalize q_m1 : ((i_m &&& (65535 : Int64)).toInt32) = m1
  have b_m1 : Rg m1 65535 := q_m1 ▸ l2i_rg _
  refine g_istore C #[.val (.int i_a), .val (.long i_m), .second, .val (.int i_s), .val (.int m1), .unset, .unset, .unset, .unset, .unset, .unset, .unset, .unset, .unset, .unset, .unset, .unset] D0_6 rfl ?_
  refine g_lloadN C D0_8 rfl ?_
  refine g_bipush C (16 : Int32) rfl D0_9 ?_
  refine g_lushr C D0_11 ?_
  refine g_ldc2 C (wd_0 hw) D0_12 ?_
  refine g_land C D0_15 ?_
  refine g_l2i C D0_16 ?_
  generalize q_m2 : (((ushrJ i_m (16 : Int32)) &&& (65535 : Int64)).toInt32) = m2
  have b_m2 : Rg m2 65535 := q_m2 ▸ l2i_rg _
  refine g_istore C #[.val (.int i_a), .val (.long i_m), .second, .val (.int i_s), .val (.int m1), .val (.int m2), .unset, .unset, .unset, .unset, .unset, .unset, .unset, .unset, .unset, .unset, .unset] D0_17 rfl ?_
  refine g_lloadN C D0_19 rfl ?_
  refine g_bipush C (32 : Int32) rfl D0_20 ?_
  refine g_lushr C D0_22 ?_
  refine g_ldc2 C (wd_0 hw) D0_23 ?_
  refine g_land C D0_26 ?_
  refine g_l2i C D0_27 ?_
  generalize q_m3 : (((ushrJ i_m (32 : Int32)) &&& (65535 : Int64)).toInt32) = m3
  have b_m3 : Rg m3 65535 := q_m3 ▸ l2i_rg _
  refine g_istore C #[.val (.int i_a), .val (.long i_m), .second, .val (.int i_s), .val (.int m1), .val (.int m2), .val (.int m3), .unset, .unset, .unset, .unset, .unset, .unset, .unset, .unset, .unset, .unset] D0_28 rfl ?_
  refine g_join (ι := Int32 × Int32 × Int32) (fun y => h0) 0 0 (fun y => mkF m 63 #[.val (.int i_a), .val (.long i_m), .second, .val (.int i_s), .val (.int y.1), .val (.int y.2.1), .val (.int y.2.2), .unset, .unset, .unset, .unset, .unset, .unset, .unset, .unset, .unset, .unset] []) (fun y => Rg y.1 65535 ∧ Rg y.2.1 65535 ∧ Rg y.2.2 65535) (fun J => ?_) ?_
  · refine g_iloadN C D0_30 rfl ?_
    refine g_bipush C (19 : Int32) rfl D0_31 ?_
    refine g_iushr C D0_33 ?_
    refine g_iconst C (1 : Int32) rfl D0_34 ?_
    refine g_iand C D0_35 ?_
    refine g_if_eq C D0_36 (fun q1 => ?_) (fun q1 => ?_)
    · exact J (m1, m2, m3) ⟨b_m1, b_m2, b_m3⟩
    · refine g_iload C D0_39 rfl ?_
      refine g_sipush C (255 : Int32) rfl D0_41 ?_
      refine g_iand C D0_44 ?_
      refine g_istore C #[.val (.int i_a), .val (.long i_m), .second, .val (.int i_s), .val (.int (m1 &&& (255 : Int32))), .val (.int m2), .val (.int m3), .unset, .unset, .unset, .unset, .unset, .unset, .unset, .unset, .unset, .unset] D0_45 rfl ?_
      refine g_iload C D0_47 rfl ?_
      refine g_sipush C (255 : Int32) rfl D0_49 ?_
      refine g_iand C D0_52 ?_
      refine g_istore C #[.val (.int i_a), .val (.long i_m), .second, .val (.int i_s), .val (.int (m1 &&& (255 : Int32))), .val (.int (m2 &&& (255 : Int32))), .val (.int m3), .unset, .unset, .unset, .unset, .unset, .unset, .unset, .unset, .unset, .unset] D0_53 rfl ?_
      refine g_iload C D0_55 rfl ?_
      refine g_sipush C (255 : Int32) rfl D0_57 ?_
      refine g_iand C D0_60 ?_
      refine g_istore C #[.val (.int i_a), .val (.long i_m), .second, .val (.int i_s), .val (.int (m1 &&& (255 : Int32))), .val (.int (m2 &&& (255 : Int32))), .val (.int (m3 &&& (255 : Int32))), .unset, .unset, .unset, .unset, .unset, .unset, .unset, .unset, .unset, .unset] D0_61 rfl ?_
      exact J ((m1 &&& (255 : Int32)), (m2 &&& (255 : Int32)), (m3 &&& (255 : Int32))) ⟨and_rg _ _ _ (by decide), and_rg _ _ _ (by decide), and_rg _ _ _ (by decide)⟩
  rintro ⟨rm, gm, bm⟩ ⟨b_rm, b_gm, b_bm⟩
  try dsimp only at b_rm b_gm b_bm ⊢
  refine g_iloadN C D0_63 rfl ?_
  refine g_sipush C (255 : Int32) rfl D0_64 ?_
  refine g_iand C D0_67 ?_
  generalize q_s1 : (i_s &&& (255 : Int32)) = s1
  have b_s1 : Rg s1 255 := q_s1 ▸ and_rg _ _ _ (by decide)
  refine g_istore C #[.val (.int i_a), .val (.long i_m), .second, .val (.int i_s), .val (.int rm), .val (.int gm), .val (.int bm), .val (.int s1), .unset, .unset, .unset, .unset, .unset, .unset, .unset, .unset, .unset] D0_68 rfl ?_
  refine g_iloadN C D0_70 rfl ?_
  refine g_bipush C (8 : Int32) rfl D0_71 ?_
  refine g_iushr C D0_73 ?_
  refine g_sipush C (255 : Int32) rfl D0_74 ?_
  refine g_iand C D0_77 ?_
  generalize q_s2 : ((ushrI i_s (8 : Int32)) &&& (255 : Int32)) = s2
  have b_s2 : Rg s2 255 := q_s2 ▸ and_rg _ _ _ (by decide)
  refine g_istore C #[.val (.int i_a), .val (.long i_m), .second, .val (.int i_s), .val (.int rm), .val (.int gm), .val (.int bm), .val (.int s1), .val (.int s2), .unset, .unset, .unset, .unset, .unset, .unset, .unset, .unset] D0_78 rfl ?_
  refine g_iloadN C D0_80 rfl ?_
  refine g_bipush C (16 : Int32) rfl D0_81 ?_
  refine g_iushr C D0_83 ?_
  refine g_sipush C (255 : Int32) rfl D0_84 ?_
  refine g_iand C D0_87 ?_
  generalize q_s3 : ((ushrI i_s (16 : Int32)) &&& (255 : Int32)) = s3
  have b_s3 : Rg s3 255 := q_s3 ▸ and_rg _ _ _ (by decide)
  refine g_istore C #[.val (.int i_a), .val (.long i_m), .second, .val (.int i_s), .val (.int rm), .val (.int gm), .val (.int bm), .val (.int s1), .val (.int s2), .val (.int s3), .unset, .unset, .unset, .unset, .unset, .unset, .unset] D0_88 rfl ?_
  refine g_join (ι := Int32) (fun y => h0) 0 0 (fun y => mkF m 106 #[.val (.int i_a), .val (.long i_m), .second, .val (.int i_s), .val (.int rm), .val (.int gm), .val (.int bm), .val (.int y), .val (.int s2), .val (.int s3), .unset, .unset, .unset, .unset, .unset, .unset, .unset] []) (fun y => Rg y 255) (fun J => ?_) ?_
  · refine g_iloadN C D0_90 rfl ?_
    refine g_bipush C (24 : Int32) rfl D0_91 ?_
    refine g_iushr C D0_93 ?_
    refine g_iconst C (1 : Int32) rfl D0_94 ?_
    refine g_iand C D0_95 ?_
    refine g_if_eq C D0_96 (fun q2 => ?_) (fun q2 => ?_)
    · exact J s1 b_s1
    · refine g_iload C D0_99 rfl ?_
      refine g_bipush C (31 : Int32) rfl D0_101 ?_
      refine g_iand C D0_103 ?_
      refine g_istore C #[.val (.int i_a), .val (.long i_m), .second, .val (.int i_s), .val (.int rm), .val (.int gm), .val (.int bm), .val (.int (s1 &&& (31 : Int32))), .val (.int s2), .val (.int s3), .unset, .unset, .unset, .unset, .unset, .unset, .unset] D0_104 rfl ?_
      exact J (s1 &&& (31 : Int32)) (and_rg _ _ _ (by decide))
  rintro rs b_rs
  try dsimp only at b_rs ⊢
  refine g_join (ι := Int32) (fun y => h0) 0 0 (fun y => mkF m 122 #[.val (.int i_a), .val (.long i_m), .second, .val (.int i_s), .val (.int rm), .val (.int gm), .val (.int bm), .val (.int rs), .val (.int y), .val (.int s3), .unset, .unset, .unset, .unset, .unset, .unset, .unset] []) (fun y => Rg y 255) (fun J => ?_) ?_
  · refine g_iloadN C D0_106 rfl ?_
    refine g_bipush C (25 : Int32) rfl D0_107 ?_
    refine g_iushr C D0_109 ?_
    refine g_iconst C (1 : Int32) rfl D0_110 ?_
    refine g_iand C D0_111 ?_
    refine g_if_eq C D0_112 (fun q3 => ?_) (fun q3 => ?_)
    · exact J s2 b_s2
    · refine g_iload C D0_115 rfl ?_
      refine g_bipush C (31 : Int32) rfl D0_117 ?_
      refine g_iand C D0_119 ?_
      refine g_istore C #[.val (.int i_a), .val (.long i_m), .second, .val (.int i_s), .val (.int rm), .val (.int gm), .val (.int bm), .val (.int rs), .val (.int (s2 &&& (31 : Int32))), .val (.int s3), .unset, .unset, .unset, .unset, .unset, .unset, .unset] D0_120 rfl ?_
      exact J (s2 &&& (31 : Int32)) (and_rg _ _ _ (by decide))
  rintro gs b_gs
  try dsimp only at b_gs ⊢
  refine g_join (ι := Int32) (fun y => h0) 0 0 (fun y => mkF m 138 #[.val (.int i_a), .val (.long i_m), .second, .val (.int i_s), .val (.int rm), .val (.int gm), .val (.int bm), .val (.int rs), .val (.int gs), .val (.int y), .unset, .unset, .unset, .unset, .unset, .unset, .unset] []) (fun y => Rg y 255) (fun J => ?_) ?_
  · refine g_iloadN C D0_122 rfl ?_
    refine g_bipush C (26 : Int32) rfl D0_123 ?_
    refine g_iushr C D0_125 ?_
    refine g_iconst C (1 : Int32) rfl D0_126 ?_
    refine g_iand C D0_127 ?_
    refine g_if_eq C D0_128 (fun q4 => ?_) (fun q4 => ?_)
    · exact J s3 b_s3
    · refine g_iload C D0_131 rfl ?_
      refine g_bipush C (31 : Int32) rfl D0_133 ?_
      refine g_iand C D0_135 ?_
      refine g_istore C #[.val (.int i_a), .val (.long i_m), .second, .val (.int i_s), .val (.int rm), .val (.int gm), .val (.int bm), .val (.int rs), .val (.int gs), .val (.int (s3 &&& (31 : Int32))), .unset, .unset, .unset, .unset, .unset, .unset, .unset] D0_136 rfl ?_
      exact J (s3 &&& (31 : Int32)) (and_rg _ _ _ (by decide))
  rintro bs b_bs
  try dsimp only at b_bs ⊢
  refine g_join (ι := Int32) (fun y => h0) 0 0 (fun y => mkF m 156 #[.val (.int i_a), .val (.long i_m), .second, .val (.int i_s), .val (.int rm), .val (.int gm), .val (.int bm), .val (.int rs), .val (.int gs), .val (.int bs), .unset, .unset, .unset, .unset, .unset, .unset, .unset] [(.int y)]) (fun y => True) (fun J => ?_) ?_
  · refine g_iloadN C D0_138 rfl ?_
    refine g_iconst C (1 : Int32) rfl D0_139 ?_
    refine g_iand C D0_140 ?_
    refine g_if_eq C D0_141 (fun q5 => ?_) (fun q5 => ?_)
    · refine g_iloadN C D0_149 rfl ?_
      refine g_iconst C (1 : Int32) rfl D0_150 ?_
      refine g_iushr C D0_151 ?_
      refine g_sipush C (255 : Int32) rfl D0_152 ?_
      refine g_iand C D0_155 ?_
      exact J _ trivial
    · refine g_bipush C (32 : Int32) rfl D0_144 ?_
      refine g_goto C D0_146 ?_
      exact J _ trivial
  rintro bp -
  try dsimp only
  refine g_istore C #[.val (.int i_a), .val (.long i_m), .second, .val (.int i_s), .val (.int rm), .val (.int gm), .val (.int bm), .val (.int rs), .val (.int gs), .val (.int bs), .val (.int bp), .unset, .unset, .unset, .unset, .unset, .unset] D0_156 rfl ?_
  refine g_join (ι := Int32) (fun y => h0) 0 0 (fun y => mkF m 188 #[.val (.int i_a), .val (.long i_m), .second, .val (.int i_s), .val (.int rm), .val (.int gm), .val (.int bm), .val (.int rs), .val (.int gs), .val (.int bs), .val (.int bp), .unset, .unset, .unset, .unset, .unset, .unset] [(.int y)]) (fun y => True) (fun J => ?_) ?_
  · refine g_iloadN C D0_158 rfl ?_
    refine g_bipush C (20 : Int32) rfl D0_159 ?_
    refine g_iushr C D0_161 ?_
    refine g_iconst C (1 : Int32) rfl D0_162 ?_
    refine g_iand C D0_163 ?_
    refine g_if_eq C D0_164 (fun q6 => ?_) (fun q6 => ?_)
    · refine g_iloadN C D0_180 rfl ?_
      refine g_bipush C (9 : Int32) rfl D0_181 ?_
      refine g_iushr C D0_183 ?_
      refine g_sipush C (255 : Int32) rfl D0_184 ?_
      refine g_iand C D0_187 ?_
      exact J _ trivial
    · refine g_bipush C (20 : Int32) rfl D0_167 ?_
      refine g_iloadN C D0_169 rfl ?_
      refine g_bipush C (9 : Int32) rfl D0_170 ?_
      refine g_iushr C D0_172 ?_
      refine g_bipush C (7 : Int32) rfl D0_173 ?_
      refine g_iand C D0_175 ?_
      refine g_iadd C D0_176 ?_
      refine g_goto C D0_177 ?_
      exact J _ trivial
  rintro dp -
  try dsimp only
  refine g_istore C #[.val (.int i_a), .val (.long i_m), .second, .val (.int i_s), .val (.int rm), .val (.int gm), .val (.int bm), .val (.int rs), .val (.int gs), .val (.int bs), .val (.int bp), .val (.int dp), .unset, .unset, .unset, .unset, .unset] D0_188 rfl ?_
  refine g_join (ι := Int32) (fun y => h0) 0 0 (fun y => mkF m 204 #[.val (.int i_a), .val (.long i_m), .second, .val (.int i_s), .val (.int rm), .val (.int gm), .val (.int bm), .val (.int rs), .val (.int gs), .val (.int bs), .val (.int bp), .val (.int dp), .unset, .unset, .unset, .unset, .unset] [(.int y)]) (fun y => y &&& 1 = y) (fun J => ?_) ?_
  · refine g_iloadN C D0_190 rfl ?_
    refine g_bipush C (17 : Int32) rfl D0_191 ?_
    refine g_iushr C D0_193 ?_
    refine g_iconst C (1 : Int32) rfl D0_194 ?_
    refine g_iand C D0_195 ?_
    refine g_if_eq C D0_196 (fun q7 => ?_) (fun q7 => ?_)
    · refine g_iconst C (0 : Int32) rfl D0_203 ?_
      exact J _ rfl
    · refine g_iconst C (1 : Int32) rfl D0_199 ?_
      refine g_goto C D0_200 ?_
      exact J _ rfl
  rintro tc htc
  try dsimp only at htc ⊢
  refine g_istore C #[.val (.int i_a), .val (.long i_m), .second, .val (.int i_s), .val (.int rm), .val (.int gm), .val (.int bm), .val (.int rs), .val (.int gs), .val (.int bs), .val (.int bp), .val (.int dp), .val (.int tc), .unset, .unset, .unset, .unset] D0_204 rfl ?_
  refine g_join (ι := Int32) (fun y => h0) 0 0 (fun y => mkF m 220 #[.val (.int i_a), .val (.long i_m), .second, .val (.int i_s), .val (.int rm), .val (.int gm), .val (.int bm), .val (.int rs), .val (.int gs), .val (.int bs), .val (.int bp), .val (.int dp), .val (.int tc), .unset, .unset, .unset, .unset] [(.int y)]) (fun y => y &&& 1 = y) (fun J => ?_) ?_
  · refine g_iloadN C D0_206 rfl ?_
    refine g_bipush C (18 : Int32) rfl D0_207 ?_
    refine g_iushr C D0_209 ?_
    refine g_iconst C (1 : Int32) rfl D0_210 ?_
    refine g_iand C D0_211 ?_
    refine g_if_eq C D0_212 (fun q8 => ?_) (fun q8 => ?_)
    · refine g_iconst C (0 : Int32) rfl D0_219 ?_
      exact J _ rfl
    · refine g_iconst C (1 : Int32) rfl D0_215 ?_
      refine g_goto C D0_216 ?_
      exact J _ rfl
  rintro be hbe
  try dsimp only at hbe ⊢
  refine g_istore C #[.val (.int i_a), .val (.long i_m), .second, .val (.int i_s), .val (.int rm), .val (.int gm), .val (.int bm), .val (.int rs), .val (.int gs), .val (.int bs), .val (.int bp), .val (.int dp), .val (.int tc), .val (.int be), .unset, .unset, .unset] D0_220 rfl ?_
  refine g_new C (wd_1 hw) (wd_2 hw) (wd_3 hw) D0_222 (by decide) (by decide) ?_
  intro h9 b10 ge11 ea12 E13 X14 F15
  have H16 : RP Z h9 b10 (0 : Int32) (0 : Int32) (0 : Int32) (0 : Int32) (0 : Int32) (0 : Int32) (0 : Int32) (0 : Int32) (0 : Int32) (0 : Int32) := ⟨X14, F15 (Or.inr (wd_16 hw)) (ty := .int) (by decide), F15 (Or.inr (wd_18 hw)) (ty := .int) (by decide), F15 (Or.inr (wd_20 hw)) (ty := .boolean) (by decide), F15 (Or.inr (wd_22 hw)) (ty := .boolean) (by decide), F15 (Or.inr (wd_24 hw)) (ty := .int) (by decide), F15 (Or.inr (wd_26 hw)) (ty := .int) (by decide), F15 (Or.inr (wd_28 hw)) (ty := .int) (by decide), F15 (Or.inr (wd_30 hw)) (ty := .int) (by decide), F15 (Or.inr (wd_32 hw)) (ty := .int) (by decide), F15 (Or.inr (wd_34 hw)) (ty := .int) (by decide)⟩
  refine g_dup C D0_225 rfl ?_
  refine g_iload C D0_226 rfl ?_
  refine g_iload C D0_228 rfl ?_
  refine g_iload C D0_230 rfl ?_
  refine g_iload C D0_232 rfl ?_
  refine g_iload C D0_234 rfl ?_
  refine g_iload C D0_236 rfl ?_
  refine g_iload C D0_238 rfl ?_
  refine g_iload C D0_240 rfl ?_
  refine g_iload C D0_242 rfl ?_
  refine g_iload C D0_244 rfl ?_
  have hz1 : n0 ≤ h9.size := Nat.le_trans ge11 (Nat.le_of_lt H16.lt)
  refine g_callI C (c_init l hw h9 n0 hz1 b10 bp dp be tc rm gm bm rs gs bs (0 : Int32) (0 : Int32) (0 : Int32) (0 : Int32) (0 : Int32) (0 : Int32) (0 : Int32) (0 : Int32) (0 : Int32) (0 : Int32) ge11 H16 hbe htc) rfl (wd_4 hw) (wd_5 hw) (wd_3 hw) (wd_6 hw) (by decide) D0_246 pd_1 [(.int bp), (.int dp), (.int be), (.int tc), (.int rm), (.int gm), (.int bm), (.int rs), (.int gs), (.int bs)] [(.ref b10)] rfl rfl rfl 1 (Nat.le_of_eq rfl) (by decide) (by decide) (by decide) (by decide) ?_
  rintro _ hA ⟨rfl, KA, HA⟩
  have hz2 : n0 ≤ hA.size := Nat.le_trans hz1 KA.1
  refine g_cast (f' := mkF m 249 #[.val (.int i_a), .val (.long i_m), .second, .val (.int i_s), .val (.int rm), .val (.int gm), .val (.int bm), .val (.int rs), .val (.int gs), .val (.int bs), .val (.int bp), .val (.int dp), .val (.int tc), .val (.int be), .unset, .unset, .unset] [(.ref b10)]) rfl ?_
  refine g_astore C #[.val (.int i_a), .val (.long i_m), .second, .val (.int i_s), .val (.int rm), .val (.int gm), .val (.int bm), .val (.int rs), .val (.int gs), .val (.int bs), .val (.int bp), .val (.int dp), .val (.int tc), .val (.int be), .val (.ref b10), .unset, .unset] D0_249 rfl rfl ?_
  refine g_aload C D0_251 rfl rfl ?_
  obtain ⟨r0, p_r⟩ := cpsE tc bp dp rm gm bm rs gs bs
  refine g_callV C (c_cps l hw hA n0 hz2 b10 r0 bp dp be tc rm gm bm rs gs bs HA p_r) (wd_35 hw) (wd_36 hw) (wd_37 hw) (wd_38 hw) (wd_3 hw) (wd_39 hw) (by decide) D0_253 pd_2 HA.1 [] [] rfl rfl rfl 0 (Nat.le_of_eq rfl) (by decide) (by decide) (by decide) (by decide) ?_
  rintro _ _ ⟨rfl, rfl⟩
  refine g_cast (f' := mkF m 256 #[.val (.int i_a), .val (.long i_m), .second, .val (.int i_s), .val (.int rm), .val (.int gm), .val (.int bm), .val (.int rs), .val (.int gs), .val (.int bs), .val (.int bp), .val (.int dp), .val (.int tc), .val (.int be), .val (.ref b10), .unset, .unset] [(.int r0)]) rfl ?_
  refine g_istore C #[.val (.int i_a), .val (.long i_m), .second, .val (.int i_s), .val (.int rm), .val (.int gm), .val (.int bm), .val (.int rs), .val (.int gs), .val (.int bs), .val (.int bp), .val (.int dp), .val (.int tc), .val (.int be), .val (.ref b10), .val (.int r0), .unset] D0_256 rfl ?_
  refine g_iload C D0_258 rfl ?_
  refine g_if_eq C D0_260 (fun q17 => ?_) (fun q17 => ?_)
  · refine g_iconst C (-1 : Int32) rfl D0_298 ?_
    refine g_istore C #[.val (.int i_a), .val (.long i_m), .second, .val (.int i_s), .val (.int rm), .val (.int gm), .val (.int bm), .val (.int rs), .val (.int gs), .val (.int bs), .val (.int bp), .val (.int dp), .val (.int tc), .val (.int be), .val (.ref b10), .val (.int r0), .val (.int (-1 : Int32))] D0_299 rfl ?_
    refine g_goto C D0_301 ?_
    refine g_iload C D0_401 rfl ?_
    refine g_iload C D0_403 rfl ?_
    refine g_icmp_ne C D0_405 (fun q18 => ?_) (fun q18 => ?_)
    · exfalso
      exact q18 (cps_no (fun z => z.1 q17) p_r)
    refine g_iconst C (1 : Int32) rfl D0_408 ?_
    refine g_goto C D0_409 ?_
    refine g_retZ C D0_413 (by decide) (by decide) ?_
    exact ⟨rfl, trivial⟩
  · refine g_iload C D0_263 rfl ?_
    refine g_bipush C (32 : Int32) rfl D0_265 ?_
    refine g_icmp_ne C D0_267 (fun q19 => ?_) (fun q19 => ?_)
    · refine g_iconst C (-1 : Int32) rfl D0_298 ?_
      refine g_istore C #[.val (.int i_a), .val (.long i_m), .second, .val (.int i_s), .val (.int rm), .val (.int gm), .val (.int bm), .val (.int rs), .val (.int gs), .val (.int bs), .val (.int bp), .val (.int dp), .val (.int tc), .val (.int be), .val (.ref b10), .val (.int r0), .val (.int (-1 : Int32))] D0_299 rfl ?_
      refine g_goto C D0_301 ?_
      refine g_iload C D0_401 rfl ?_
      refine g_iload C D0_403 rfl ?_
      refine g_icmp_ne C D0_405 (fun q20 => ?_) (fun q20 => ?_)
      · exfalso
        exact q20 (cps_no (fun z => q19 z.2.1) p_r)
      refine g_iconst C (1 : Int32) rfl D0_408 ?_
      refine g_goto C D0_409 ?_
      refine g_retZ C D0_413 (by decide) (by decide) ?_
      exact ⟨rfl, trivial⟩
    · refine g_iload C D0_270 rfl ?_
      refine g_bipush C (24 : Int32) rfl D0_272 ?_
      refine g_icmp_gt C D0_274 (fun q21 => ?_) (fun q21 => ?_)
      · refine g_iconst C (-1 : Int32) rfl D0_298 ?_
        refine g_istore C #[.val (.int i_a), .val (.long i_m), .second, .val (.int i_s), .val (.int rm), .val (.int gm), .val (.int bm), .val (.int rs), .val (.int gs), .val (.int bs), .val (.int bp), .val (.int dp), .val (.int tc), .val (.int be), .val (.ref b10), .val (.int r0), .val (.int (-1 : Int32))] D0_299 rfl ?_
        refine g_goto C D0_301 ?_
        refine g_iload C D0_401 rfl ?_
        refine g_iload C D0_403 rfl ?_
        refine g_icmp_ne C D0_405 (fun q22 => ?_) (fun q22 => ?_)
        · exfalso
          exact q22 (cps_no (fun z => z.2.2.1 q21) p_r)
        refine g_iconst C (1 : Int32) rfl D0_408 ?_
        refine g_goto C D0_409 ?_
        refine g_retZ C D0_413 (by decide) (by decide) ?_
        exact ⟨rfl, trivial⟩
      · refine g_iload C D0_277 rfl ?_
        refine g_bipush C (32 : Int32) rfl D0_279 ?_
        refine g_icmp_ge C D0_281 (fun q23 => ?_) (fun q23 => ?_)
        · refine g_iconst C (-1 : Int32) rfl D0_298 ?_
          refine g_istore C #[.val (.int i_a), .val (.long i_m), .second, .val (.int i_s), .val (.int rm), .val (.int gm), .val (.int bm), .val (.int rs), .val (.int gs), .val (.int bs), .val (.int bp), .val (.int dp), .val (.int tc), .val (.int be), .val (.ref b10), .val (.int r0), .val (.int (-1 : Int32))] D0_299 rfl ?_
          refine g_goto C D0_301 ?_
          refine g_iload C D0_401 rfl ?_
          refine g_iload C D0_403 rfl ?_
          refine g_icmp_ne C D0_405 (fun q24 => ?_) (fun q24 => ?_)
          · exfalso
            exact q24 (cps_no (fun z => q23 z.2.2.2.1) p_r)
          refine g_iconst C (1 : Int32) rfl D0_408 ?_
          refine g_goto C D0_409 ?_
          refine g_retZ C D0_413 (by decide) (by decide) ?_
          exact ⟨rfl, trivial⟩
        · refine g_iload C D0_284 rfl ?_
          refine g_bipush C (32 : Int32) rfl D0_286 ?_
          refine g_icmp_ge C D0_288 (fun q25 => ?_) (fun q25 => ?_)
          · refine g_iconst C (-1 : Int32) rfl D0_298 ?_
            refine g_istore C #[.val (.int i_a), .val (.long i_m), .second, .val (.int i_s), .val (.int rm), .val (.int gm), .val (.int bm), .val (.int rs), .val (.int gs), .val (.int bs), .val (.int bp), .val (.int dp), .val (.int tc), .val (.int be), .val (.ref b10), .val (.int r0), .val (.int (-1 : Int32))] D0_299 rfl ?_
            refine g_goto C D0_301 ?_
            refine g_iload C D0_401 rfl ?_
            refine g_iload C D0_403 rfl ?_
            refine g_icmp_ne C D0_405 (fun q26 => ?_) (fun q26 => ?_)
            · exfalso
              exact q26 (cps_no (fun z => q25 z.2.2.2.2.1) p_r)
            refine g_iconst C (1 : Int32) rfl D0_408 ?_
            refine g_goto C D0_409 ?_
            refine g_retZ C D0_413 (by decide) (by decide) ?_
            exact ⟨rfl, trivial⟩
          · refine g_iload C D0_291 rfl ?_
            refine g_bipush C (32 : Int32) rfl D0_293 ?_
            refine g_icmp_lt C D0_295 (fun q27 => ?_) (fun q27 => ?_)
            · have ok : okP tc bp dp rs gs bs := ⟨q17, q19, q21, q23, q25, q27⟩
              have f24 : mOf rm gm bm rs gs bs &&& (-16777216) = 0 ↔ fitP rm rs 0 24 ∧ fitP gm gs 0 24 ∧ fitP bm bs 0 24 := by unfold mOf; rw [m_zero, shl_v, shl_v, shl_v, fit24 b_rm b_rs q23, fit24 b_gm b_gs q25, fit24 b_bm b_bs q27]
              have f32 : mOf rm gm bm rs gs bs &&& (-4294967041) = 0 ↔ fitP rm rs 8 32 ∧ fitP gm gs 8 32 ∧ fitP bm bs 8 32 := by unfold mOf; rw [m_zero, shl_v, shl_v, shl_v, fit32 b_rm b_rs q23, fit32 b_gm b_gs q25, fit32 b_bm b_bs q27]
              refine g_join (ι := Unit) (fun y => hA) 1 10 (fun y => mkF m 349 #[.val (.int i_a), .val (.long i_m), .second, .val (.int i_s), .val (.int rm), .val (.int gm), .val (.int bm), .val (.int rs), .val (.int gs), .val (.int bs), .val (.int bp), .val (.int dp), .val (.int tc), .val (.int be), .val (.ref b10), .val (.int r0), .unset] []) (fun y => ¬ mOf rm gm bm rs gs bs &&& (-16777216) = 0) (fun J => ?_) ?_
              · refine g_iload C D0_304 rfl ?_
                refine g_iload C D0_306 rfl ?_
                refine g_iconst C (0 : Int32) rfl D0_308 ?_
                refine g_bipush C (24 : Int32) rfl D0_309 ?_
                by_cases e0 : fitP rm rs 0 24
                · refine g_callS C (c_fits l hw hA n0 hz2 rm rs (0 : Int32) (24 : Int32) 1 (by decide) (Or.inl ⟨e0, rfl⟩)) (wd_42 hw) (wd_43 hw) (wd_44 hw) (wd_45 hw) (by decide) D0_311 pd_3 [(.int rm), (.int rs), (.int (0 : Int32)), (.int (24 : Int32))] [] rfl rfl rfl 0 (Nat.le_of_eq rfl) (by decide) (by decide) (by decide) (by decide) ?_
                  rintro _ _ ⟨rfl, rfl⟩
                  refine g_cast (f' := mkF m 314 #[.val (.int i_a), .val (.long i_m), .second, .val (.int i_s), .val (.int rm), .val (.int gm), .val (.int bm), .val (.int rs), .val (.int gs), .val (.int bs), .val (.int bp), .val (.int dp), .val (.int tc), .val (.int be), .val (.ref b10), .val (.int r0), .unset] [(.int 1)]) rfl ?_
                  refine g_if_eq C D0_314 (fun q28 => ?_) (fun q28 => ?_)
                  · exfalso
                    exact absurd q28 (by decide)
                  refine g_iload C D0_317 rfl ?_
                  refine g_iload C D0_319 rfl ?_
                  refine g_iconst C (0 : Int32) rfl D0_321 ?_
                  refine g_bipush C (24 : Int32) rfl D0_322 ?_
                  by_cases e1 : fitP gm gs 0 24
                  · refine g_callS C (c_fits l hw hA n0 hz2 gm gs (0 : Int32) (24 : Int32) 1 (by decide) (Or.inl ⟨e1, rfl⟩)) (wd_42 hw) (wd_43 hw) (wd_44 hw) (wd_45 hw) (by decide) D0_324 pd_3 [(.int gm), (.int gs), (.int (0 : Int32)), (.int (24 : Int32))] [] rfl rfl rfl 0 (Nat.le_of_eq rfl) (by decide) (by decide) (by decide) (by decide) ?_
                    rintro _ _ ⟨rfl, rfl⟩
                    refine g_cast (f' := mkF m 327 #[.val (.int i_a), .val (.long i_m), .second, .val (.int i_s), .val (.int rm), .val (.int gm), .val (.int bm), .val (.int rs), .val (.int gs), .val (.int bs), .val (.int bp), .val (.int dp), .val (.int tc), .val (.int be), .val (.ref b10), .val (.int r0), .unset] [(.int 1)]) rfl ?_
                    refine g_if_eq C D0_327 (fun q29 => ?_) (fun q29 => ?_)
                    · exfalso
                      exact absurd q29 (by decide)
                    refine g_iload C D0_330 rfl ?_
                    refine g_iload C D0_332 rfl ?_
                    refine g_iconst C (0 : Int32) rfl D0_334 ?_
                    refine g_bipush C (24 : Int32) rfl D0_335 ?_
                    by_cases e2 : fitP bm bs 0 24
                    · refine g_callS C (c_fits l hw hA n0 hz2 bm bs (0 : Int32) (24 : Int32) 1 (by decide) (Or.inl ⟨e2, rfl⟩)) (wd_42 hw) (wd_43 hw) (wd_44 hw) (wd_45 hw) (by decide) D0_337 pd_3 [(.int bm), (.int bs), (.int (0 : Int32)), (.int (24 : Int32))] [] rfl rfl rfl 0 (Nat.le_of_eq rfl) (by decide) (by decide) (by decide) (by decide) ?_
                      rintro _ _ ⟨rfl, rfl⟩
                      refine g_cast (f' := mkF m 340 #[.val (.int i_a), .val (.long i_m), .second, .val (.int i_s), .val (.int rm), .val (.int gm), .val (.int bm), .val (.int rs), .val (.int gs), .val (.int bs), .val (.int bp), .val (.int dp), .val (.int tc), .val (.int be), .val (.ref b10), .val (.int r0), .unset] [(.int 1)]) rfl ?_
                      refine g_if_eq C D0_340 (fun q30 => ?_) (fun q30 => ?_)
                      · exfalso
                        exact absurd q30 (by decide)
                      refine g_iconst C (0 : Int32) rfl D0_343 ?_
                      refine g_istore C #[.val (.int i_a), .val (.long i_m), .second, .val (.int i_s), .val (.int rm), .val (.int gm), .val (.int bm), .val (.int rs), .val (.int gs), .val (.int bs), .val (.int bp), .val (.int dp), .val (.int tc), .val (.int be), .val (.ref b10), .val (.int r0), .val (.int (0 : Int32))] D0_344 rfl ?_
                      refine g_goto C D0_346 ?_
                      refine g_iload C D0_401 rfl ?_
                      refine g_iload C D0_403 rfl ?_
                      refine g_icmp_ne C D0_405 (fun q31 => ?_) (fun q31 => ?_)
                      · exfalso
                        exact q31 (cps_0 ok (f24.mpr ⟨e0, e1, e2⟩) p_r)
                      refine g_iconst C (1 : Int32) rfl D0_408 ?_
                      refine g_goto C D0_409 ?_
                      refine g_retZ C D0_413 (by decide) (by decide) ?_
                      exact ⟨rfl, trivial⟩
                    · refine g_callS C (c_fits l hw hA n0 hz2 bm bs (0 : Int32) (24 : Int32) 0 (by decide) (Or.inr ⟨e2, rfl⟩)) (wd_42 hw) (wd_43 hw) (wd_44 hw) (wd_45 hw) (by decide) D0_337 pd_3 [(.int bm), (.int bs), (.int (0 : Int32)), (.int (24 : Int32))] [] rfl rfl rfl 0 (Nat.le_of_eq rfl) (by decide) (by decide) (by decide) (by decide) ?_
                      rintro _ _ ⟨rfl, rfl⟩
                      refine g_cast (f' := mkF m 340 #[.val (.int i_a), .val (.long i_m), .second, .val (.int i_s), .val (.int rm), .val (.int gm), .val (.int bm), .val (.int rs), .val (.int gs), .val (.int bs), .val (.int bp), .val (.int dp), .val (.int tc), .val (.int be), .val (.ref b10), .val (.int r0), .unset] [(.int 0)]) rfl ?_
                      refine g_if_eq C D0_340 (fun q32 => ?_) (fun q32 => ?_)
                      rotate_left
                      · exfalso
                        exact q32 rfl
                      exact J () (fun z => e2 (f24.mp z).2.2)
                  · refine g_callS C (c_fits l hw hA n0 hz2 gm gs (0 : Int32) (24 : Int32) 0 (by decide) (Or.inr ⟨e1, rfl⟩)) (wd_42 hw) (wd_43 hw) (wd_44 hw) (wd_45 hw) (by decide) D0_324 pd_3 [(.int gm), (.int gs), (.int (0 : Int32)), (.int (24 : Int32))] [] rfl rfl rfl 0 (Nat.le_of_eq rfl) (by decide) (by decide) (by decide) (by decide) ?_
                    rintro _ _ ⟨rfl, rfl⟩
                    refine g_cast (f' := mkF m 327 #[.val (.int i_a), .val (.long i_m), .second, .val (.int i_s), .val (.int rm), .val (.int gm), .val (.int bm), .val (.int rs), .val (.int gs), .val (.int bs), .val (.int bp), .val (.int dp), .val (.int tc), .val (.int be), .val (.ref b10), .val (.int r0), .unset] [(.int 0)]) rfl ?_
                    refine g_if_eq C D0_327 (fun q33 => ?_) (fun q33 => ?_)
                    rotate_left
                    · exfalso
                      exact q33 rfl
                    exact J () (fun z => e1 (f24.mp z).2.1)
                · refine g_callS C (c_fits l hw hA n0 hz2 rm rs (0 : Int32) (24 : Int32) 0 (by decide) (Or.inr ⟨e0, rfl⟩)) (wd_42 hw) (wd_43 hw) (wd_44 hw) (wd_45 hw) (by decide) D0_311 pd_3 [(.int rm), (.int rs), (.int (0 : Int32)), (.int (24 : Int32))] [] rfl rfl rfl 0 (Nat.le_of_eq rfl) (by decide) (by decide) (by decide) (by decide) ?_
                  rintro _ _ ⟨rfl, rfl⟩
                  refine g_cast (f' := mkF m 314 #[.val (.int i_a), .val (.long i_m), .second, .val (.int i_s), .val (.int rm), .val (.int gm), .val (.int bm), .val (.int rs), .val (.int gs), .val (.int bs), .val (.int bp), .val (.int dp), .val (.int tc), .val (.int be), .val (.ref b10), .val (.int r0), .unset] [(.int 0)]) rfl ?_
                  refine g_if_eq C D0_314 (fun q34 => ?_) (fun q34 => ?_)
                  rotate_left
                  · exfalso
                    exact q34 rfl
                  exact J () (fun z => e0 (f24.mp z).1)
              rintro - nA
              try dsimp only at nA ⊢
              refine g_iload C D0_349 rfl ?_
              refine g_iload C D0_351 rfl ?_
              refine g_bipush C (8 : Int32) rfl D0_353 ?_
              refine g_bipush C (32 : Int32) rfl D0_355 ?_
              by_cases e0 : fitP rm rs 8 32
              · refine g_callS C (c_fits l hw hA n0 hz2 rm rs (8 : Int32) (32 : Int32) 1 (by decide) (Or.inl ⟨e0, rfl⟩)) (wd_42 hw) (wd_43 hw) (wd_44 hw) (wd_45 hw) (by decide) D0_357 pd_3 [(.int rm), (.int rs), (.int (8 : Int32)), (.int (32 : Int32))] [] rfl rfl rfl 0 (Nat.le_of_eq rfl) (by decide) (by decide) (by decide) (by decide) ?_
                rintro _ _ ⟨rfl, rfl⟩
                refine g_cast (f' := mkF m 360 #[.val (.int i_a), .val (.long i_m), .second, .val (.int i_s), .val (.int rm), .val (.int gm), .val (.int bm), .val (.int rs), .val (.int gs), .val (.int bs), .val (.int bp), .val (.int dp), .val (.int tc), .val (.int be), .val (.ref b10), .val (.int r0), .unset] [(.int 1)]) rfl ?_
                refine g_if_eq C D0_360 (fun q35 => ?_) (fun q35 => ?_)
                · exfalso
                  exact absurd q35 (by decide)
                refine g_iload C D0_363 rfl ?_
                refine g_iload C D0_365 rfl ?_
                refine g_bipush C (8 : Int32) rfl D0_367 ?_
                refine g_bipush C (32 : Int32) rfl D0_369 ?_
                by_cases e1 : fitP gm gs 8 32
                · refine g_callS C (c_fits l hw hA n0 hz2 gm gs (8 : Int32) (32 : Int32) 1 (by decide) (Or.inl ⟨e1, rfl⟩)) (wd_42 hw) (wd_43 hw) (wd_44 hw) (wd_45 hw) (by decide) D0_371 pd_3 [(.int gm), (.int gs), (.int (8 : Int32)), (.int (32 : Int32))] [] rfl rfl rfl 0 (Nat.le_of_eq rfl) (by decide) (by decide) (by decide) (by decide) ?_
                  rintro _ _ ⟨rfl, rfl⟩
                  refine g_cast (f' := mkF m 374 #[.val (.int i_a), .val (.long i_m), .second, .val (.int i_s), .val (.int rm), .val (.int gm), .val (.int bm), .val (.int rs), .val (.int gs), .val (.int bs), .val (.int bp), .val (.int dp), .val (.int tc), .val (.int be), .val (.ref b10), .val (.int r0), .unset] [(.int 1)]) rfl ?_
                  refine g_if_eq C D0_374 (fun q36 => ?_) (fun q36 => ?_)
                  · exfalso
                    exact absurd q36 (by decide)
                  refine g_iload C D0_377 rfl ?_
                  refine g_iload C D0_379 rfl ?_
                  refine g_bipush C (8 : Int32) rfl D0_381 ?_
                  refine g_bipush C (32 : Int32) rfl D0_383 ?_
                  by_cases e2 : fitP bm bs 8 32
                  · refine g_callS C (c_fits l hw hA n0 hz2 bm bs (8 : Int32) (32 : Int32) 1 (by decide) (Or.inl ⟨e2, rfl⟩)) (wd_42 hw) (wd_43 hw) (wd_44 hw) (wd_45 hw) (by decide) D0_385 pd_3 [(.int bm), (.int bs), (.int (8 : Int32)), (.int (32 : Int32))] [] rfl rfl rfl 0 (Nat.le_of_eq rfl) (by decide) (by decide) (by decide) (by decide) ?_
                    rintro _ _ ⟨rfl, rfl⟩
                    refine g_cast (f' := mkF m 388 #[.val (.int i_a), .val (.long i_m), .second, .val (.int i_s), .val (.int rm), .val (.int gm), .val (.int bm), .val (.int rs), .val (.int gs), .val (.int bs), .val (.int bp), .val (.int dp), .val (.int tc), .val (.int be), .val (.ref b10), .val (.int r0), .unset] [(.int 1)]) rfl ?_
                    refine g_if_eq C D0_388 (fun q37 => ?_) (fun q37 => ?_)
                    · exfalso
                      exact absurd q37 (by decide)
                    refine g_bipush C (8 : Int32) rfl D0_391 ?_
                    refine g_istore C #[.val (.int i_a), .val (.long i_m), .second, .val (.int i_s), .val (.int rm), .val (.int gm), .val (.int bm), .val (.int rs), .val (.int gs), .val (.int bs), .val (.int bp), .val (.int dp), .val (.int tc), .val (.int be), .val (.ref b10), .val (.int r0), .val (.int (8 : Int32))] D0_393 rfl ?_
                    refine g_goto C D0_395 ?_
                    refine g_iload C D0_401 rfl ?_
                    refine g_iload C D0_403 rfl ?_
                    refine g_icmp_ne C D0_405 (fun q38 => ?_) (fun q38 => ?_)
                    · exfalso
                      exact q38 (cps_8 ok nA (f32.mpr ⟨e0, e1, e2⟩) p_r)
                    refine g_iconst C (1 : Int32) rfl D0_408 ?_
                    refine g_goto C D0_409 ?_
                    refine g_retZ C D0_413 (by decide) (by decide) ?_
                    exact ⟨rfl, trivial⟩
                  · refine g_callS C (c_fits l hw hA n0 hz2 bm bs (8 : Int32) (32 : Int32) 0 (by decide) (Or.inr ⟨e2, rfl⟩)) (wd_42 hw) (wd_43 hw) (wd_44 hw) (wd_45 hw) (by decide) D0_385 pd_3 [(.int bm), (.int bs), (.int (8 : Int32)), (.int (32 : Int32))] [] rfl rfl rfl 0 (Nat.le_of_eq rfl) (by decide) (by decide) (by decide) (by decide) ?_
                    rintro _ _ ⟨rfl, rfl⟩
                    refine g_cast (f' := mkF m 388 #[.val (.int i_a), .val (.long i_m), .second, .val (.int i_s), .val (.int rm), .val (.int gm), .val (.int bm), .val (.int rs), .val (.int gs), .val (.int bs), .val (.int bp), .val (.int dp), .val (.int tc), .val (.int be), .val (.ref b10), .val (.int r0), .unset] [(.int 0)]) rfl ?_
                    refine g_if_eq C D0_388 (fun q39 => ?_) (fun q39 => ?_)
                    rotate_left
                    · exfalso
                      exact q39 rfl
                    refine g_iconst C (-1 : Int32) rfl D0_398 ?_
                    refine g_istore C #[.val (.int i_a), .val (.long i_m), .second, .val (.int i_s), .val (.int rm), .val (.int gm), .val (.int bm), .val (.int rs), .val (.int gs), .val (.int bs), .val (.int bp), .val (.int dp), .val (.int tc), .val (.int be), .val (.ref b10), .val (.int r0), .val (.int (-1 : Int32))] D0_399 rfl ?_
                    refine g_iload C D0_401 rfl ?_
                    refine g_iload C D0_403 rfl ?_
                    refine g_icmp_ne C D0_405 (fun q40 => ?_) (fun q40 => ?_)
                    · exfalso
                      exact q40 (cps_m ok nA (fun z => e2 (f32.mp z).2.2) p_r)
                    refine g_iconst C (1 : Int32) rfl D0_408 ?_
                    refine g_goto C D0_409 ?_
                    refine g_retZ C D0_413 (by decide) (by decide) ?_
                    exact ⟨rfl, trivial⟩
                · refine g_callS C (c_fits l hw hA n0 hz2 gm gs (8 : Int32) (32 : Int32) 0 (by decide) (Or.inr ⟨e1, rfl⟩)) (wd_42 hw) (wd_43 hw) (wd_44 hw) (wd_45 hw) (by decide) D0_371 pd_3 [(.int gm), (.int gs), (.int (8 : Int32)), (.int (32 : Int32))] [] rfl rfl rfl 0 (Nat.le_of_eq rfl) (by decide) (by decide) (by decide) (by decide) ?_
                  rintro _ _ ⟨rfl, rfl⟩
                  refine g_cast (f' := mkF m 374 #[.val (.int i_a), .val (.long i_m), .second, .val (.int i_s), .val (.int rm), .val (.int gm), .val (.int bm), .val (.int rs), .val (.int gs), .val (.int bs), .val (.int bp), .val (.int dp), .val (.int tc), .val (.int be), .val (.ref b10), .val (.int r0), .unset] [(.int 0)]) rfl ?_
                  refine g_if_eq C D0_374 (fun q41 => ?_) (fun q41 => ?_)
                  rotate_left
                  · exfalso
                    exact q41 rfl
                  refine g_iconst C (-1 : Int32) rfl D0_398 ?_
                  refine g_istore C #[.val (.int i_a), .val (.long i_m), .second, .val (.int i_s), .val (.int rm), .val (.int gm), .val (.int bm), .val (.int rs), .val (.int gs), .val (.int bs), .val (.int bp), .val (.int dp), .val (.int tc), .val (.int be), .val (.ref b10), .val (.int r0), .val (.int (-1 : Int32))] D0_399 rfl ?_
                  refine g_iload C D0_401 rfl ?_
                  refine g_iload C D0_403 rfl ?_
                  refine g_icmp_ne C D0_405 (fun q42 => ?_) (fun q42 => ?_)
                  · exfalso
                    exact q42 (cps_m ok nA (fun z => e1 (f32.mp z).2.1) p_r)
                  refine g_iconst C (1 : Int32) rfl D0_408 ?_
                  refine g_goto C D0_409 ?_
                  refine g_retZ C D0_413 (by decide) (by decide) ?_
                  exact ⟨rfl, trivial⟩
              · refine g_callS C (c_fits l hw hA n0 hz2 rm rs (8 : Int32) (32 : Int32) 0 (by decide) (Or.inr ⟨e0, rfl⟩)) (wd_42 hw) (wd_43 hw) (wd_44 hw) (wd_45 hw) (by decide) D0_357 pd_3 [(.int rm), (.int rs), (.int (8 : Int32)), (.int (32 : Int32))] [] rfl rfl rfl 0 (Nat.le_of_eq rfl) (by decide) (by decide) (by decide) (by decide) ?_
                rintro _ _ ⟨rfl, rfl⟩
                refine g_cast (f' := mkF m 360 #[.val (.int i_a), .val (.long i_m), .second, .val (.int i_s), .val (.int rm), .val (.int gm), .val (.int bm), .val (.int rs), .val (.int gs), .val (.int bs), .val (.int bp), .val (.int dp), .val (.int tc), .val (.int be), .val (.ref b10), .val (.int r0), .unset] [(.int 0)]) rfl ?_
                refine g_if_eq C D0_360 (fun q43 => ?_) (fun q43 => ?_)
                rotate_left
                · exfalso
                  exact q43 rfl
                refine g_iconst C (-1 : Int32) rfl D0_398 ?_
                refine g_istore C #[.val (.int i_a), .val (.long i_m), .second, .val (.int i_s), .val (.int rm), .val (.int gm), .val (.int bm), .val (.int rs), .val (.int gs), .val (.int bs), .val (.int bp), .val (.int dp), .val (.int tc), .val (.int be), .val (.ref b10), .val (.int r0), .val (.int (-1 : Int32))] D0_399 rfl ?_
                refine g_iload C D0_401 rfl ?_
                refine g_iload C D0_403 rfl ?_
                refine g_icmp_ne C D0_405 (fun q44 => ?_) (fun q44 => ?_)
                · exfalso
                  exact q44 (cps_m ok nA (fun z => e0 (f32.mp z).1) p_r)
                refine g_iconst C (1 : Int32) rfl D0_408 ?_
                refine g_goto C D0_409 ?_
                refine g_retZ C D0_413 (by decide) (by decide) ?_
                exact ⟨rfl, trivial⟩
            · refine g_iconst C (-1 : Int32) rfl D0_298 ?_
              refine g_istore C #[.val (.int i_a), .val (.long i_m), .second, .val (.int i_s), .val (.int rm), .val (.int gm), .val (.int bm), .val (.int rs), .val (.int gs), .val (.int bs), .val (.int bp), .val (.int dp), .val (.int tc), .val (.int be), .val (.ref b10), .val (.int r0), .val (.int (-1 : Int32))] D0_299 rfl ?_
              refine g_goto C D0_301 ?_
              refine g_iload C D0_401 rfl ?_
              refine g_iload C D0_403 rfl ?_
              refine g_icmp_ne C D0_405 (fun q45 => ?_) (fun q45 => ?_)
              · exfalso
                exact q45 (cps_no (fun z => q27 z.2.2.2.2.2) p_r)
              refine g_iconst C (1 : Int32) rfl D0_408 ?_
              refine g_goto C D0_409 ?_
              refine g_retZ C D0_413 (by decide) (by decide) ?_
              exact ⟨rfl, trivial⟩
set_option maxRecDepth 65536 in
set_option maxHeartbeats 40000000 in
theorem comes_1 {Post : Tables → Env → Array Value → State → Outcome → State → Prop} (hpost : ∀ tb e args s v u, (limb_1_1.after args s (.returned v) u = true ∧ limb_1_2.after args s (.returned v) u = true ∧ True) → FrameEnd s (.returned v) u (Jvm.fieldLocs frame_1_writes args s ++ Jvm.arrayLocs frame_1_arrays args s ++ Jvm.staticLocs frame_1_statics s) 16 128 → Post tb e args s (.returned v) u) :
    ArmFor flags0 classFile x code maxLocals ret World_1 tables_1 room_1 Calls_1 rest_1 Pre_1 Post := by
  intro l hfl _ _ p e ha hc hk s m args below hf hA hF happ hP
  obtain ⟨hcalls, hrest, hpre⟩ := hP
  obtain ⟨-, -, -, hnamed, -, -, -, hat⟩ := (Spec.applies_iff hf).mp happ
  obtain ⟨hg, hn⟩ := and_e (Cond.before_iff.mp (show (Jvm.Cond.and given_1 narrow_1).before args s = true from hpre))
  obtain ⟨gc, g0⟩ := and_e hg
  obtain ⟨ga0, g1⟩ := and_e g0
  obtain ⟨ga1, g2⟩ := and_e g1
  have ga2 := g2
  obtain ⟨w0, w1, w2, rfl⟩ : ∃ w0 w1 w2 : Value, args = #[w0, w1, w2] := by
    have hs : args.size = 3 := by simpa [Cond.value, given_1] using gc
    obtain ⟨L⟩ := args
    match L, hs with
    | [w0, w1, w2], _ => exact ⟨w0, w1, w2, rfl⟩
  have hw := fun d (hd : d ∈ tables_1) => atoms_spec (ws := Jvm.Cond.code x code maxLocals ret :: tables_1) hat d (List.mem_cons_of_mem _ hd)
  obtain ⟨i0, ei0⟩ := is_v ga0
  obtain rfl : w0 = (.int i0) := Option.some.inj ei0
  obtain ⟨i1, ei1⟩ := isL_v ga1
  obtain rfl : w1 = (.long i1) := Option.some.inj ei1
  obtain ⟨i2, ei2⟩ := is_v ga2
  obtain rfl : w2 = (.int i2) := Option.some.inj ei2
  obtain ⟨n, o, h1, h2, h3, _, L, rfl, ⟨⟨rfl, _⟩, N⟩, hq⟩ := c_law l hw tables_1 s.heap s.heap.size (Nat.le_refl _) i0 i1 i2 p e ha hc hk s m _ below hf ((Spec.applies_iff_loose hf).mp happ).1 ⟨rfl, State.Warmed39.refl s, rfl⟩ trivial
  refine ⟨n, _, h1, h2, h3, hpost _ _ _ _ _ _ ⟨Cond.after_iff.mpr rfl, Cond.after_iff.mpr (eq_i res_at (Term.int_eval (1)) rfl), trivial⟩ ⟨hq.1, hq.2.1, (hq.2.2.sift fun y hy => Or.inr (N y hy)).mono (by decide) (by decide)⟩⟩
theorem main_1_1 : Claimed_1_1 := comes_1 fun _ _ _ _ _ _ h hF => ⟨h.1, hF⟩
theorem main_1_2 : Claimed_1_2 := comes_1 fun _ _ _ _ _ _ h hF => ⟨h.2.1, hF⟩
end Jvm.Pilot.@@N@@
namespace Jvm.Pilot.@@N@@
open Jvm Jvm.ClassFile Sem Op Lib Jvm.Free Jvm.Stand Jvm.Pilot.@@N@@.Jvm.D
/-! MADE BY PROGRAM (witnessworld.py) out of the Statement's table words and the real class files: 10 classes; the members and pool entries that the words name. The judged class is class 1, her method 1. -/
namespace start1
open Jvm.ClassFile
def u (s : String) : CpInfo := .utf8 (stringToUtf16 s)
/-- a pool by its gaps: so many unusable entries, then the entry; so many at the end -/
def gap : Nat → List CpInfo → List CpInfo
  | 0, r => r
  | n + 1, r => .unusable :: gap n r
def poolList (es : List (Nat × CpInfo)) (last : Nat) : List CpInfo := es.foldr (fun e r => gap e.1 (e.2 :: r)) (gap last [])
def pool (es : List (Nat × CpInfo)) (last : Nat) : Array CpInfo := ⟨poolList es last⟩
def fileOf (pool : Array CpInfo) (this : Nat) (attrs : Array Attribute := #[]) (ms : Array MethodInfo := #[]) (fl : Nat := 33) (sup : Nat := 0) (ifs : Array Nat := #[]) (fds : Array FieldInfo := #[]) : ClassFile where
  minorVersion := 0
  majorVersion := 65
  constantPool := pool
  accessFlags := fl
  thisClass := this
  superClass := sup
  interfaces := ifs
  fields := fds
  methods := ms
  attributes := attrs
def plain (name : String) (sup : Option ClassId) : Class where
  name := name
  kind := .ordinary
  loader := none
  accessFlags := 33
  super := sup
  interfaces := #[]
  cf := none
  fields := #[]
  methods := #[]
  instanceTypes := #[]
  staticTypes := #[]
  resolved := #[]
  callSites := []
  init := .initialized
  statics := none
  mirror := none

def pool0 : Array CpInfo := pool [(5, u "<init>"), (0, u "()V"), (1, .class_ 10), (1, u "java/lang/Object")] 113

def k0c0 : Code := { maxStack := 0, maxLocals := 1, code := object_method_1_code, exceptionTable := #[], attributes := #[] }
def k0m0 : Method := { name := "<init>", desc := "()V", sig := { parameters := [], returnType := none }, accessFlags := 1, code := some k0c0 }
/-- java/lang/Object -/
def k0 : Class := { plain "java/lang/Object" none with
  accessFlags := 33
  interfaces := #[]
  cf := some (fileOf pool0 8 #[] #[{ accessFlags := 1, nameIndex := 5, descriptorIndex := 6, attributes := #[] }] 33 0 #[] #[])
  fields := #[]
  methods := #[k0m0]
  instanceTypes := #[]
  staticTypes := #[]
  resolved := Array.replicate 124 none
  statics := none }

def pool1 : Array CpInfo := pool [(2, .class_ 4), (1, u "java/lang/Object"), (0, u "<init>"), (0, u "()V"), (0, .long 65535), (1, .class_ 10), (0, u "com/example/framewire/framewire/rfb/PixelFormat"), (0, .methodref 9 12), (0, .nameAndType 5 13), (0, u "(IIZZIIIIII)V"), (0, .methodref 9 15), (0, .nameAndType 16 17), (0, u "compressedPixelShift"), (0, u "()I"), (0, .methodref 19 20), (0, .class_ 21), (0, .nameAndType 22 23), (0, u "com/example/framewire/framewire/rfb/PixelFormatCompressedPixelShiftPinLaw"), (0, u "fits"), (0, u "(IIII)Z"), (2, u "law"), (0, u "(IJI)Z")] 3

def k1m0 : Method := { name := "<init>", desc := "()V", sig := { parameters := [], returnType := none }, accessFlags := 1, code := none }
def k1c1 : Code := { maxStack := 12, maxLocals := 17, code := code, exceptionTable := #[], attributes := #[] }
def k1m1 : Method := { name := "law", desc := "(IJI)Z", sig := { parameters := [.int, .long, .int], returnType := some .boolean }, accessFlags := 9, code := some k1c1 }
def k1c2 : Code := { maxStack := 5, maxLocals := 6, code := method_3_code, exceptionTable := #[], attributes := #[] }
def k1m2 : Method := { name := "fits", desc := "(IIII)Z", sig := { parameters := [.int, .int, .int, .int], returnType := some .boolean }, accessFlags := 10, code := some k1c2 }
/-- com/example/framewire/framewire/rfb/PixelFormatCompressedPixelShiftPinLaw -/
def k1 : Class := { plain "com/example/framewire/framewire/rfb/PixelFormatCompressedPixelShiftPinLaw" (some 0) with
  accessFlags := 49
  interfaces := #[]
  cf := some (fileOf pool1 19 #[] #[{ accessFlags := 1, nameIndex := 5, descriptorIndex := 6, attributes := #[] }, { accessFlags := 9, nameIndex := 26, descriptorIndex := 27, attributes := #[] }, { accessFlags := 10, nameIndex := 22, descriptorIndex := 23, attributes := #[] }] 49 2 #[] #[])
  fields := #[]
  methods := #[k1m0, k1m1, k1m2]
  instanceTypes := #[]
  staticTypes := #[]
  resolved := Array.replicate 31 none
  statics := none }

def pool2 : Array CpInfo := pool [(1, .methodref 2 3), (0, .class_ 4), (0, .nameAndType 5 6), (0, u "java/lang/Object"), (0, u "<init>"), (0, u "()V"), (0, .class_ 8), (0, u "java/lang/Record")] 13

def k2c0 : Code := { maxStack := 1, maxLocals := 1, code := jdk_30_method_1_code, exceptionTable := #[], attributes := #[] }
def k2m0 : Method := { name := "<init>", desc := "()V", sig := { parameters := [], returnType := none }, accessFlags := 4, code := some k2c0 }
/-- java/lang/Record -/
def k2 : Class := { plain "java/lang/Record" (some 0) with
  accessFlags := 1057
  interfaces := #[]
  cf := some (fileOf pool2 7 #[] #[{ accessFlags := 4, nameIndex := 5, descriptorIndex := 6, attributes := #[] }] 1057 2 #[] #[])
  fields := #[]
  methods := #[k2m0]
  instanceTypes := #[]
  staticTypes := #[]
  resolved := Array.replicate 22 none
  statics := none }

def pool3 : Array CpInfo := pool [(1, .methodref 2 3), (0, .class_ 4), (0, .nameAndType 5 6), (0, u "java/lang/Record"), (0, u "<init>"), (0, u "()V"), (0, .fieldref 8 9), (0, .class_ 10), (0, .nameAndType 11 12), (0, u "com/example/framewire/framewire/rfb/PixelFormat"), (0, u "bitsPerPixel"), (0, u "I"), (0, .fieldref 8 14), (0, .nameAndType 15 12), (0, u "depth"), (0, .fieldref 8 17), (0, .nameAndType 18 19), (0, u "bigEndian"), (0, u "Z"), (0, .fieldref 8 21), (0, .nameAndType 22 19), (0, u "trueColour"), (0, .fieldref 8 24), (0, .nameAndType 25 12), (0, u "redMax"), (0, .fieldref 8 27), (0, .nameAndType 28 12), (0, u "greenMax"), (0, .fieldref 8 30), (0, .nameAndType 31 12), (0, u "blueMax"), (0, .fieldref 8 33), (0, .nameAndType 34 12), (0, u "redShift"), (0, .fieldref 8 36), (0, .nameAndType 37 12), (0, u "greenShift"), (0, .fieldref 8 39), (0, .nameAndType 40 12), (0, u "blueShift"), (2, u "compressedPixelShift"), (0, u "()I"), (0, .long 18446744073692774400), (1, .long 18446744069414584575), (25, u "(IIZZIIIIII)V"), (25, u "RGB_888"), (0, u "Lcom/example/framewire/framewire/rfb/PixelFormat;"), (0, u "LENGTH")] 44

def k3c0 : Code := { maxStack := 2, maxLocals := 11, code := prog_83_method_1_code, exceptionTable := #[], attributes := #[] }
def k3m0 : Method := { name := "<init>", desc := "(IIZZIIIIII)V", sig := { parameters := [.int, .int, .boolean, .boolean, .int, .int, .int, .int, .int, .int], returnType := none }, accessFlags := 1, code := some k3c0 }
def k3c1 : Code := { maxStack := 5, maxLocals := 4, code := prog_83_method_3_code, exceptionTable := #[], attributes := #[] }
def k3m1 : Method := { name := "compressedPixelShift", desc := "()I", sig := { parameters := [], returnType := some .int }, accessFlags := 0, code := some k3c1 }
/-- com/example/framewire/framewire/rfb/PixelFormat -/
def k3 : Class := { plain "com/example/framewire/framewire/rfb/PixelFormat" (some 2) with
  accessFlags := 49
  interfaces := #[]
  cf := some (fileOf pool3 8 #[] #[{ accessFlags := 1, nameIndex := 5, descriptorIndex := 73, attributes := #[] }, { accessFlags := 0, nameIndex := 43, descriptorIndex := 44, attributes := #[] }] 49 2 #[] #[{ accessFlags := 18, nameIndex := 11, descriptorIndex := 12, attributes := #[] }, { accessFlags := 18, nameIndex := 15, descriptorIndex := 12, attributes := #[] }, { accessFlags := 18, nameIndex := 18, descriptorIndex := 19, attributes := #[] }, { accessFlags := 18, nameIndex := 22, descriptorIndex := 19, attributes := #[] }, { accessFlags := 18, nameIndex := 25, descriptorIndex := 12, attributes := #[] }, { accessFlags := 18, nameIndex := 28, descriptorIndex := 12, attributes := #[] }, { accessFlags := 18, nameIndex := 31, descriptorIndex := 12, attributes := #[] }, { accessFlags := 18, nameIndex := 34, descriptorIndex := 12, attributes := #[] }, { accessFlags := 18, nameIndex := 37, descriptorIndex := 12, attributes := #[] }, { accessFlags := 18, nameIndex := 40, descriptorIndex := 12, attributes := #[] }, { accessFlags := 25, nameIndex := 101, descriptorIndex := 12, attributes := #[] }, { accessFlags := 25, nameIndex := 99, descriptorIndex := 100, attributes := #[] }])
  fields := #[{ name := "bitsPerPixel", type := .int, accessFlags := 18, slot := 0, constantValue := 0 }, { name := "depth", type := .int, accessFlags := 18, slot := 1, constantValue := 0 }, { name := "bigEndian", type := .boolean, accessFlags := 18, slot := 2, constantValue := 0 }, { name := "trueColour", type := .boolean, accessFlags := 18, slot := 3, constantValue := 0 }, { name := "redMax", type := .int, accessFlags := 18, slot := 4, constantValue := 0 }, { name := "greenMax", type := .int, accessFlags := 18, slot := 5, constantValue := 0 }, { name := "blueMax", type := .int, accessFlags := 18, slot := 6, constantValue := 0 }, { name := "redShift", type := .int, accessFlags := 18, slot := 7, constantValue := 0 }, { name := "greenShift", type := .int, accessFlags := 18, slot := 8, constantValue := 0 }, { name := "blueShift", type := .int, accessFlags := 18, slot := 9, constantValue := 0 }, { name := "LENGTH", type := .int, accessFlags := 25, slot := 0, constantValue := 0 }, { name := "RGB_888", type := (.object "com/example/framewire/framewire/rfb/PixelFormat"), accessFlags := 25, slot := 1, constantValue := 0 }]
  methods := #[k3m0, k3m1]
  instanceTypes := #[.int, .int, .boolean, .boolean, .int, .int, .int, .int, .int, .int]
  staticTypes := #[.int, (.object "com/example/framewire/framewire/rfb/PixelFormat")]
  resolved := Array.replicate 146 none
  statics := none }

def pool4 : Array CpInfo := pool [(1, u "java/lang/Cloneable"), (0, .class_ 1), (0, u "java/lang/Object"), (0, .class_ 3)] 3

/-- java/lang/Cloneable -/
def k4 : Class := { plain "java/lang/Cloneable" (some 0) with
  accessFlags := 1537
  interfaces := #[]
  cf := some (fileOf pool4 2 #[] #[] 1537 4 #[] #[])
  fields := #[]
  methods := #[]
  instanceTypes := #[]
  staticTypes := #[]
  resolved := Array.replicate 8 none
  statics := none }

def pool5 : Array CpInfo := pool [(1, u "java/io/Serializable"), (0, .class_ 1), (0, u "java/lang/Object"), (0, .class_ 3)] 3

/-- java/io/Serializable -/
def k5 : Class := { plain "java/io/Serializable" (some 0) with
  accessFlags := 1537
  interfaces := #[]
  cf := some (fileOf pool5 2 #[] #[] 1537 4 #[] #[])
  fields := #[]
  methods := #[]
  instanceTypes := #[]
  staticTypes := #[]
  resolved := Array.replicate 8 none
  statics := none }

/-- the primitive byte -/
def k6 : Class := { plain "byte" none with kind := .primitive 'B', accessFlags := 0x411 }
/-- [B -/
def k7 : Class := { plain "[B" (some 0) with kind := .array 6 .byte, interfaces := #[4, 5], accessFlags := 1041 }

/-- the primitive int -/
def k8 : Class := { plain "int" none with kind := .primitive 'I', accessFlags := 0x411 }
/-- [I -/
def k9 : Class := { plain "[I" (some 0) with kind := .array 8 .int, interfaces := #[4, 5], accessFlags := 1041 }

def heap : Heap := #[]
def classes : Array Class := #[k0, k1, k2, k3, k4, k5, k6, k7, k8, k9]
def interned : List (Array UInt16 × Addr) := []
def slotsUsed : Nat := 0
def theMethod : MethodId := ⟨1, 1⟩
def args0 : Array Value := #[.int 5, .long 5, .int 5]
def aboutOver (below : List Frame) : State where
  vm := { classes := classes, interned := interned.toArray }
  heap := heap
  slotsUsed := slotsUsed
  threads := #[{ frames := .invoking theMethod args0 :: below }]
def below0 : List Frame := [.native { method := ⟨0, 0⟩, args := #[] }]
def about1 : State := aboutOver below0
def p0 : Program := .bare "" "" ""
def e0 : Env := launch0.env 0 0 0
theorem w_frames : about1.frames = Frame.invoking theMethod args0 :: below0 := rfl
set_option maxRecDepth 65536 in
theorem w_args : argsFit about1.vm theMethod args0 = true := by decide +kernel
set_option maxRecDepth 65536 in
theorem w_heap : heapFits about1 = true := by decide +kernel
set_option maxRecDepth 65536 in
theorem w_runnable : about1.curStatus? = some .runnable := by decide +kernel
set_option maxRecDepth 65536 in
theorem w_alone : about1.alone = true := by decide +kernel
set_option maxRecDepth 65536 in
theorem w_named : about1.methodNamed? x = some theMethod := by decide +kernel
set_option maxRecDepth 65536 in
theorem w_hears : about1.hears theMethod below0 = true := by decide +kernel
set_option maxRecDepth 65536 in
theorem w_ripe : about1.ripe theMethod args0 below0 = true := by decide +kernel
theorem w_running : about1.status = .running := rfl
set_option maxRecDepth 65536 in
theorem w_room : about1.hasRoom e0.platform room_1 = true :=
  launch0.hasRoom_least _ room_1 (by decide +kernel) (by decide +kernel) (by decide +kernel) (by decide +kernel) (by decide +kernel) (by decide +kernel)
theorem allAtoms_all (ts : List Jvm.Cond) (a : Array Jvm.Value) (st : Jvm.State) : (allAtoms ts).before a st = ts.all (fun c => c.before a st) := by
  induction ts with
  | nil => rfl
  | cons c t ih =>
    show (Jvm.Cond.and c (allAtoms t)).before a st = _
    rw [Jvm.Cond.before_and, ih, List.all_cons]
def words1 : List Jvm.Cond := Jvm.Cond.code x code maxLocals ret :: tables_1
/-- a 'code' word, met by the world's own term for the bytes: nothing is compared byte by byte -/
theorem code_word {y : MethodName} {bytes : ByteArray} {mx : Nat} {rt : Option FieldType} {a : Array Value} {s : State} {m : MethodId} {meth : Method} {c : Code} (h1 : s.methodNamed? y = some m) (h2 : s.vm.method? m = some meth) (h3 : meth.code = some c) (h4 : c.code = bytes)
    (h5 : (c.maxLocals == mx && c.exceptionTable.isEmpty && decide (c.maxStack ≤ mostOperands) && decide (meth.sig.returnType = rt) && !meth.locks && decide (parseMethodDescriptor y.desc = some meth.sig)) = true) : (Jvm.Cond.code y bytes mx rt).before a s = true := by
  simp only [Bool.and_eq_true, beq_iff_eq, Bool.not_eq_true', decide_eq_true_eq] at h5
  obtain ⟨⟨⟨⟨⟨g1, g2⟩, g3⟩, g4⟩, g5⟩, g6⟩ := h5
  simp [Cond.before, Cond.holds, Cond.value, h1, h2, h3, h4, g1, g2, g3, g4, g5, g6]
def isCode : Jvm.Cond → Bool
  | .code _ _ _ _ => true
  | _ => false
theorem all_split {L : List Jvm.Cond} {P : Jvm.Cond → Bool} (h1 : L.all (fun c => isCode c || P c) = true) (h2 : ∀ c ∈ L.filter isCode, P c = true) : L.all P = true := by
  refine List.all_eq_true.mpr fun c hc => ?_
  have h := List.all_eq_true.mp h1 c hc
  rcases Bool.eq_false_or_eq_true (isCode c) with hi | hi
  · exact h2 c (List.mem_filter.mpr ⟨hc, hi⟩)
  · simpa [hi] using h
set_option maxRecDepth 65536 in
theorem w_c0 : (Jvm.Cond.code x code maxLocals ret).before args0 about1 = true := code_word (m := ⟨1, 1⟩) (meth := k1m1) (c := k1c1) (by decide +kernel) rfl rfl rfl (by decide +kernel)
set_option maxRecDepth 65536 in
theorem w_c1 : (Jvm.Cond.code ({ cls := "com/example/framewire/framewire/rfb/PixelFormat", name := "<init>", desc := "(IIZZIIIIII)V" } : Jvm.MethodName) prog_83_method_1_code (11 : Nat) (Option.none : Option Jvm.ClassFile.FieldType)).before args0 about1 = true := code_word (m := ⟨3, 0⟩) (meth := k3m0) (c := k3c0) (by decide +kernel) rfl rfl rfl (by decide +kernel)
set_option maxRecDepth 65536 in
theorem w_c2 : (Jvm.Cond.code ({ cls := "java/lang/Record", name := "<init>", desc := "()V" } : Jvm.MethodName) jdk_30_method_1_code (1 : Nat) (Option.none : Option Jvm.ClassFile.FieldType)).before args0 about1 = true := code_word (m := ⟨2, 0⟩) (meth := k2m0) (c := k2c0) (by decide +kernel) rfl rfl rfl (by decide +kernel)
set_option maxRecDepth 65536 in
theorem w_c3 : (Jvm.Cond.code ({ cls := "java/lang/Object", name := "<init>", desc := "()V" } : Jvm.MethodName) object_method_1_code (1 : Nat) (Option.none : Option Jvm.ClassFile.FieldType)).before args0 about1 = true := code_word (m := ⟨0, 0⟩) (meth := k0m0) (c := k0c0) (by decide +kernel) rfl rfl rfl (by decide +kernel)
set_option maxRecDepth 65536 in
theorem w_c4 : (Jvm.Cond.code ({ cls := "com/example/framewire/framewire/rfb/PixelFormat", name := "compressedPixelShift", desc := "()I" } : Jvm.MethodName) prog_83_method_3_code (4 : Nat) (Option.some Jvm.ClassFile.FieldType.int)).before args0 about1 = true := code_word (m := ⟨3, 1⟩) (meth := k3m1) (c := k3c1) (by decide +kernel) rfl rfl rfl (by decide +kernel)
set_option maxRecDepth 65536 in
theorem w_c5 : (Jvm.Cond.code ({ cls := "com/example/framewire/framewire/rfb/PixelFormatCompressedPixelShiftPinLaw", name := "fits", desc := "(IIII)Z" } : Jvm.MethodName) method_3_code (6 : Nat) (Option.some Jvm.ClassFile.FieldType.boolean)).before args0 about1 = true := code_word (m := ⟨1, 2⟩) (meth := k1m2) (c := k1c2) (by decide +kernel) rfl rfl rfl (by decide +kernel)
def codes1 : List Jvm.Cond := [Jvm.Cond.code x code maxLocals ret, Jvm.Cond.code ({ cls := "com/example/framewire/framewire/rfb/PixelFormat", name := "<init>", desc := "(IIZZIIIIII)V" } : Jvm.MethodName) prog_83_method_1_code (11 : Nat) (Option.none : Option Jvm.ClassFile.FieldType), Jvm.Cond.code ({ cls := "java/lang/Record", name := "<init>", desc := "()V" } : Jvm.MethodName) jdk_30_method_1_code (1 : Nat) (Option.none : Option Jvm.ClassFile.FieldType), Jvm.Cond.code ({ cls := "java/lang/Object", name := "<init>", desc := "()V" } : Jvm.MethodName) object_method_1_code (1 : Nat) (Option.none : Option Jvm.ClassFile.FieldType), Jvm.Cond.code ({ cls := "com/example/framewire/framewire/rfb/PixelFormat", name := "compressedPixelShift", desc := "()I" } : Jvm.MethodName) prog_83_method_3_code (4 : Nat) (Option.some Jvm.ClassFile.FieldType.int), Jvm.Cond.code ({ cls := "com/example/framewire/framewire/rfb/PixelFormatCompressedPixelShiftPinLaw", name := "fits", desc := "(IIII)Z" } : Jvm.MethodName) method_3_code (6 : Nat) (Option.some Jvm.ClassFile.FieldType.boolean)]
set_option maxRecDepth 65536 in
theorem codes_eq : words1.filter isCode = codes1 := rfl
theorem w_codes : ∀ c ∈ words1.filter isCode, c.before args0 about1 = true := by
  rw [codes_eq]
  intro c hc
  simp only [codes1, List.mem_cons, List.not_mem_nil, or_false] at hc
  rcases hc with rfl | rfl | rfl | rfl | rfl | rfl
  · exact w_c0
  · exact w_c1
  · exact w_c2
  · exact w_c3
  · exact w_c4
  · exact w_c5
set_option maxRecDepth 65536 in
theorem w_t1 : (words1.take 24).all (fun c => isCode c || c.before args0 about1) = true := by decide +kernel
set_option maxRecDepth 65536 in
theorem w_t2 : (words1.drop 24).all (fun c => isCode c || c.before args0 about1) = true := by decide +kernel
theorem w_tables : (allAtoms (Jvm.Cond.code x code maxLocals ret :: tables_1)).before args0 about1 = true := by
  rw [allAtoms_all]
  show words1.all (fun c => c.before args0 about1) = true
  refine all_split ?_ w_codes
  rw [← List.take_append_drop 24 words1, List.all_append, w_t1, w_t2]
  rfl
set_option maxRecDepth 65536 in
theorem w_case : (Jvm.Cond.and given_1 narrow_1).before args0 about1 = true := by decide +kernel
theorem w_applies : (headSpec (Jvm.Cond.code x code maxLocals ret :: tables_1) room_1).applies x e0.platform about1 = true :=
  (Spec.applies_iff w_frames).mpr ⟨w_running, w_runnable, w_alone, w_named, w_hears, w_ripe, w_room, w_tables⟩
theorem atStart : AtStart classFile x code maxLocals ret World_1 tables_1 room_1 Calls_1 rest_1 Pre_1 launch0 p0 e0 about1 theMethod args0 below0 :=
  ⟨lists_1, trivial, launch0.admits_env _ _ _, launch0.least_env, fairChoices_fair.cas, fairChoices_fair.clock, w_frames, w_args, w_heap, w_applies, trivial, trivial, w_case⟩
end start1
theorem witness_1 : WitnessClaimed_1 := ⟨start1.p0, start1.e0, start1.about1, start1.theMethod, start1.args0, start1.below0, start1.atStart⟩
end Jvm.Pilot.@@N@@
