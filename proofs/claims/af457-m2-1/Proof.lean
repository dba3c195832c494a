import JvmDerived
import JvmDerived.Pilot.@@N@@Statement
import JvmDerived.Pilot.@@N@@Code
set_option linter.unusedVariables false
set_option linter.unusedSimpArgs false
namespace Jvm.Pilot.@@N@@
open Jvm Jvm.ClassFile Sem Op Lib Jvm.Free Jvm.Stand Jvm.LawKit Jvm.RoadKit Bundle Jvm.Pilot.@@N@@.Jvm.D
/-- Java's shifts -/
def shlI (x y : Int32) : Int32 := x <<< (y &&& 31)
def shrI (x y : Int32) : Int32 := x >>> (y &&& 31)
def ushrI (x y : Int32) : Int32 := (x.toUInt32 >>> (y &&& 31).toUInt32).toInt32
def shlJ (x : Int64) (y : Int32) : Int64 := x <<< (y &&& 0x3f).toInt64
def shrJ (x : Int64) (y : Int32) : Int64 := x >>> (y &&& 0x3f).toInt64
def ushrJ (x : Int64) (y : Int32) : Int64 := (x.toUInt64 >>> (y &&& 0x3f).toInt64.toUInt64).toInt64
section Kit
variable {p : Program} {l : Launch} {e : Env} {R : Room} {s : State} {m : MethodId} {args : Array Value} {below : List Frame} {meth : Method} {c : ClassFile.Code} {Z : State} {a0 : Array Value} {n0 : Nat} {Q : Option Value → Heap → Prop} {K N : Nat} {h : Heap} {k n : Nat} {own : String} {bytes : ByteArray} {maxl : Nat} {ret : Option FieldType} {nm : String} {pc pc' pc1 pct : Nat} {Ls : Array Slot} {st : List Value}
/-- the run from T0 comes back with a value and a heap of which Q holds, having written nothing below n0 -/
def Ends (p : Program) (e : Env) (below : List Frame) (s : State) (n0 : Nat) (Q : Option Value → Heap → Prop) (K N : Nat) (T0 : State) : Prop :=
  ∃ t o, Steps p.tables e below T0 t ∧ t.status = .running ∧ Ended t below o ∧ ∃ v L, o = .returned v ∧ (Q v t.heap ∧ Fr n0 L) ∧ FrameEnd s o t L K N
/-- from every state of this invocation whose heap is h and whose top frame is f the run comes back so -/
def Go (p : Program) (l : Launch) (e : Env) (R : Room) (s : State) (m : MethodId) (args : Array Value) (below : List Frame) (meth : Method) (c : ClassFile.Code) (n0 : Nat) (Q : Option Value → Heap → Prop) (K N : Nat) (h : Heap) (k n : Nat) (f : JFrame) : Prop :=
  ∀ T L, Fr n0 L → Stand p l e R s m args below meth c T L k n → T.heap = h → Ends p e below s n0 Q K N (T.setTop f)
/-- what is known of the invocation throughout -/
def Cx (p : Program) (s : State) (m : MethodId) (meth : Method) (c : ClassFile.Code) (Z : State) (n0 : Nat) (own : String) (bytes : ByteArray) (maxl : Nat) (ret : Option FieldType) (nm : String) : Prop :=
  p.tables.exec = Jvm.exec ∧ Z.Warmed39 s.vm ∧ s.vm.findClass own = some m.cls ∧ c.code = bytes ∧ c.maxLocals = maxl ∧ meth.sig.returnType = ret ∧ meth.locks = false ∧ meth.name = nm ∧ n0 ≤ s.heap.size
def In (b : ByteArray) (pc len : Nat) (i : Instr) (pc' : Nat) : Prop := decode b pc = .ok (i, len) ∧ pc' = pc + len
def Jm (b : ByteArray) (pc : Nat) (i : Int → Instr) (pc' pct : Nat) : Prop := ∃ o, decode b pc = .ok (i o, 3) ∧ pc' = pc + 3 ∧ 0 ≤ (pc : Int) + o ∧ ((pc : Int) + o).toNat = pct
theorem g_st {f f' : JFrame} (H : ∀ {T L}, Stand p l e R s m args below meth c T L k n → T.heap = h → ∀ t, Steps p.tables e below (T.setTop f') t → Steps p.tables e below (T.setTop f) t) (G : Go p l e R s m args below meth c n0 Q K N h k n (f')) : Go p l e R s m args below meth c n0 Q K N h k n f := fun T L hL X eT => by
  obtain ⟨t, o, h1, h2⟩ := G T L hL X eT
  exact ⟨t, o, H X eT t h1, h2⟩
theorem g_cast {f f' : JFrame} (q : f = f') (G : Go p l e R s m args below meth c n0 Q K N h k n (f')) : Go p l e R s m args below meth c n0 Q K N h k n f := q ▸ G
theorem g_more {k' n' : Nat} {f : JFrame} (hk : k ≤ k') (hn : n ≤ n') (G : Go p l e R s m args below meth c n0 Q K N h (k') (n') f) : Go p l e R s m args below meth c n0 Q K N h k n f := fun T L hL X eT => G T L hL (X.more hk hn) eT
theorem Stand.up {T : State} {L : List Loc} (X : Stand p l e R s m args below meth c T L k n) : s.heap.size ≤ T.heap.size := by
  exact X.same.2.1
theorem g_iadd (C : Cx p s m meth c Z n0 own bytes maxl ret nm) {x y : Int32} (d : In bytes pc 1 (.iadd) pc') (G : Go p l e R s m args below meth c n0 Q K N h k n (mkF m pc' Ls (.int (x + y) :: st))) : Go p l e R s m args below meth c n0 Q K N h k n (mkF m pc Ls (.int y :: .int x :: st)) := by
  obtain ⟨d, rfl⟩ := d
  exact g_st (fun X _ t kt => XS.iadd X.here C.1 rfl (hb C.2.2.2.1 d) rfl kt) G
theorem g_isub (C : Cx p s m meth c Z n0 own bytes maxl ret nm) {x y : Int32} (d : In bytes pc 1 (.isub) pc') (G : Go p l e R s m args below meth c n0 Q K N h k n (mkF m pc' Ls (.int (x - y) :: st))) : Go p l e R s m args below meth c n0 Q K N h k n (mkF m pc Ls (.int y :: .int x :: st)) := by
  obtain ⟨d, rfl⟩ := d
  exact g_st (fun X _ t kt => XS.isub X.here C.1 rfl (hb C.2.2.2.1 d) rfl kt) G
theorem g_imul (C : Cx p s m meth c Z n0 own bytes maxl ret nm) {x y : Int32} (d : In bytes pc 1 (.imul) pc') (G : Go p l e R s m args below meth c n0 Q K N h k n (mkF m pc' Ls (.int (x * y) :: st))) : Go p l e R s m args below meth c n0 Q K N h k n (mkF m pc Ls (.int y :: .int x :: st)) := by
  obtain ⟨d, rfl⟩ := d
  exact g_st (fun X _ t kt => XS.imul X.here C.1 rfl (hb C.2.2.2.1 d) rfl kt) G
theorem g_iand (C : Cx p s m meth c Z n0 own bytes maxl ret nm) {x y : Int32} (d : In bytes pc 1 (.iand) pc') (G : Go p l e R s m args below meth c n0 Q K N h k n (mkF m pc' Ls (.int (x &&& y) :: st))) : Go p l e R s m args below meth c n0 Q K N h k n (mkF m pc Ls (.int y :: .int x :: st)) := by
  obtain ⟨d, rfl⟩ := d
  exact g_st (fun X _ t kt => XS.iand X.here C.1 rfl (hb C.2.2.2.1 d) rfl kt) G
theorem g_ior (C : Cx p s m meth c Z n0 own bytes maxl ret nm) {x y : Int32} (d : In bytes pc 1 (.ior) pc') (G : Go p l e R s m args below meth c n0 Q K N h k n (mkF m pc' Ls (.int (x ||| y) :: st))) : Go p l e R s m args below meth c n0 Q K N h k n (mkF m pc Ls (.int y :: .int x :: st)) := by
  obtain ⟨d, rfl⟩ := d
  exact g_st (fun X _ t kt => XS.ior X.here C.1 rfl (hb C.2.2.2.1 d) rfl kt) G
theorem g_ixor (C : Cx p s m meth c Z n0 own bytes maxl ret nm) {x y : Int32} (d : In bytes pc 1 (.ixor) pc') (G : Go p l e R s m args below meth c n0 Q K N h k n (mkF m pc' Ls (.int (x ^^^ y) :: st))) : Go p l e R s m args below meth c n0 Q K N h k n (mkF m pc Ls (.int y :: .int x :: st)) := by
  obtain ⟨d, rfl⟩ := d
  exact g_st (fun X _ t kt => XS.ixor X.here C.1 rfl (hb C.2.2.2.1 d) rfl kt) G
theorem g_idiv (C : Cx p s m meth c Z n0 own bytes maxl ret nm) {x y : Int32} (d : In bytes pc 1 (.idiv) pc') (hy : y ≠ 0) (G : Go p l e R s m args below meth c n0 Q K N h k n (mkF m pc' Ls (.int (x / y) :: st))) : Go p l e R s m args below meth c n0 Q K N h k n (mkF m pc Ls (.int y :: .int x :: st)) := by
  obtain ⟨d, rfl⟩ := d
  exact g_st (fun X _ t kt => XS.idiv X.here C.1 rfl (hb C.2.2.2.1 d) rfl hy kt) G
theorem g_irem (C : Cx p s m meth c Z n0 own bytes maxl ret nm) {x y : Int32} (d : In bytes pc 1 (.irem) pc') (hy : y ≠ 0) (G : Go p l e R s m args below meth c n0 Q K N h k n (mkF m pc' Ls (.int (x - (x / y) * y) :: st))) : Go p l e R s m args below meth c n0 Q K N h k n (mkF m pc Ls (.int y :: .int x :: st)) := by
  obtain ⟨d, rfl⟩ := d
  exact g_st (fun X _ t kt => XS.irem X.here C.1 rfl (hb C.2.2.2.1 d) rfl hy kt) G
theorem g_iload (C : Cx p s m meth c Z n0 own bytes maxl ret nm) {i : Nat} {v : Int32} (d : In bytes pc 2 (.iload i) pc') (hl : Ls[i]? = some (.val (.int v))) (G : Go p l e R s m args below meth c n0 Q K N h k n (mkF m pc' Ls (.int v :: st))) : Go p l e R s m args below meth c n0 Q K N h k n (mkF m pc Ls st) := by
  obtain ⟨d, rfl⟩ := d
  exact g_st (fun X _ t kt => XS.iload X.here C.1 rfl (hb C.2.2.2.1 d) hl kt) G
theorem g_iloadN (C : Cx p s m meth c Z n0 own bytes maxl ret nm) {i : Fin 4} {v : Int32} (d : In bytes pc 1 (.iload_n i) pc') (hl : Ls[i.val]? = some (.val (.int v))) (G : Go p l e R s m args below meth c n0 Q K N h k n (mkF m pc' Ls (.int v :: st))) : Go p l e R s m args below meth c n0 Q K N h k n (mkF m pc Ls st) := by
  obtain ⟨d, rfl⟩ := d
  exact g_st (fun X _ t kt => XS.iloadN X.here C.1 rfl (hb C.2.2.2.1 d) hl kt) G
theorem g_istore (C : Cx p s m meth c Z n0 own bytes maxl ret nm) {i : Nat} {x : Int32} (l' : Array Slot) (d : In bytes pc 2 (.istore i) pc') (hl : storeLocals Ls i (.int x) = some l') (G : Go p l e R s m args below meth c n0 Q K N h k n (mkF m pc' l' st)) : Go p l e R s m args below meth c n0 Q K N h k n (mkF m pc Ls (.int x :: st)) := by
  obtain ⟨d, rfl⟩ := d
  exact g_st (fun X _ t kt => XS.istore X.here C.1 rfl (hb C.2.2.2.1 d) rfl hl kt) G
theorem g_istoreN (C : Cx p s m meth c Z n0 own bytes maxl ret nm) {i : Fin 4} {x : Int32} (l' : Array Slot) (d : In bytes pc 1 (.istore_n i) pc') (hl : storeLocals Ls i.val (.int x) = some l') (G : Go p l e R s m args below meth c n0 Q K N h k n (mkF m pc' l' st)) : Go p l e R s m args below meth c n0 Q K N h k n (mkF m pc Ls (.int x :: st)) := by
  obtain ⟨d, rfl⟩ := d
  exact g_st (fun X _ t kt => XS.istoreN X.here C.1 rfl (hb C.2.2.2.1 d) rfl hl kt) G
theorem g_ladd (C : Cx p s m meth c Z n0 own bytes maxl ret nm) {x y : Int64} (d : In bytes pc 1 (.ladd) pc') (G : Go p l e R s m args below meth c n0 Q K N h k n (mkF m pc' Ls (.long (x + y) :: st))) : Go p l e R s m args below meth c n0 Q K N h k n (mkF m pc Ls (.long y :: .long x :: st)) := by
  obtain ⟨d, rfl⟩ := d
  exact g_st (fun X _ t kt => XS.ladd X.here C.1 rfl (hb C.2.2.2.1 d) rfl kt) G
theorem g_lsub (C : Cx p s m meth c Z n0 own bytes maxl ret nm) {x y : Int64} (d : In bytes pc 1 (.lsub) pc') (G : Go p l e R s m args below meth c n0 Q K N h k n (mkF m pc' Ls (.long (x - y) :: st))) : Go p l e R s m args below meth c n0 Q K N h k n (mkF m pc Ls (.long y :: .long x :: st)) := by
  obtain ⟨d, rfl⟩ := d
  exact g_st (fun X _ t kt => XS.lsub X.here C.1 rfl (hb C.2.2.2.1 d) rfl kt) G
theorem g_lmul (C : Cx p s m meth c Z n0 own bytes maxl ret nm) {x y : Int64} (d : In bytes pc 1 (.lmul) pc') (G : Go p l e R s m args below meth c n0 Q K N h k n (mkF m pc' Ls (.long (x * y) :: st))) : Go p l e R s m args below meth c n0 Q K N h k n (mkF m pc Ls (.long y :: .long x :: st)) := by
  obtain ⟨d, rfl⟩ := d
  exact g_st (fun X _ t kt => XS.lmul X.here C.1 rfl (hb C.2.2.2.1 d) rfl kt) G
theorem g_land (C : Cx p s m meth c Z n0 own bytes maxl ret nm) {x y : Int64} (d : In bytes pc 1 (.land) pc') (G : Go p l e R s m args below meth c n0 Q K N h k n (mkF m pc' Ls (.long (x &&& y) :: st))) : Go p l e R s m args below meth c n0 Q K N h k n (mkF m pc Ls (.long y :: .long x :: st)) := by
  obtain ⟨d, rfl⟩ := d
  exact g_st (fun X _ t kt => XS.land X.here C.1 rfl (hb C.2.2.2.1 d) rfl kt) G
theorem g_lor (C : Cx p s m meth c Z n0 own bytes maxl ret nm) {x y : Int64} (d : In bytes pc 1 (.lor) pc') (G : Go p l e R s m args below meth c n0 Q K N h k n (mkF m pc' Ls (.long (x ||| y) :: st))) : Go p l e R s m args below meth c n0 Q K N h k n (mkF m pc Ls (.long y :: .long x :: st)) := by
  obtain ⟨d, rfl⟩ := d
  exact g_st (fun X _ t kt => XS.lor X.here C.1 rfl (hb C.2.2.2.1 d) rfl kt) G
theorem g_lxor (C : Cx p s m meth c Z n0 own bytes maxl ret nm) {x y : Int64} (d : In bytes pc 1 (.lxor) pc') (G : Go p l e R s m args below meth c n0 Q K N h k n (mkF m pc' Ls (.long (x ^^^ y) :: st))) : Go p l e R s m args below meth c n0 Q K N h k n (mkF m pc Ls (.long y :: .long x :: st)) := by
  obtain ⟨d, rfl⟩ := d
  exact g_st (fun X _ t kt => XS.lxor X.here C.1 rfl (hb C.2.2.2.1 d) rfl kt) G
theorem g_ldiv (C : Cx p s m meth c Z n0 own bytes maxl ret nm) {x y : Int64} (d : In bytes pc 1 (.ldiv) pc') (hy : y ≠ 0) (G : Go p l e R s m args below meth c n0 Q K N h k n (mkF m pc' Ls (.long (x / y) :: st))) : Go p l e R s m args below meth c n0 Q K N h k n (mkF m pc Ls (.long y :: .long x :: st)) := by
  obtain ⟨d, rfl⟩ := d
  exact g_st (fun X _ t kt => XS.ldiv X.here C.1 rfl (hb C.2.2.2.1 d) rfl hy kt) G
theorem g_lrem (C : Cx p s m meth c Z n0 own bytes maxl ret nm) {x y : Int64} (d : In bytes pc 1 (.lrem) pc') (hy : y ≠ 0) (G : Go p l e R s m args below meth c n0 Q K N h k n (mkF m pc' Ls (.long (x - (x / y) * y) :: st))) : Go p l e R s m args below meth c n0 Q K N h k n (mkF m pc Ls (.long y :: .long x :: st)) := by
  obtain ⟨d, rfl⟩ := d
  exact g_st (fun X _ t kt => XS.lrem X.here C.1 rfl (hb C.2.2.2.1 d) rfl hy kt) G
theorem g_lload (C : Cx p s m meth c Z n0 own bytes maxl ret nm) {i : Nat} {v : Int64} (d : In bytes pc 2 (.lload i) pc') (hl : Ls[i]? = some (.val (.long v))) (G : Go p l e R s m args below meth c n0 Q K N h k n (mkF m pc' Ls (.long v :: st))) : Go p l e R s m args below meth c n0 Q K N h k n (mkF m pc Ls st) := by
  obtain ⟨d, rfl⟩ := d
  exact g_st (fun X _ t kt => XS.lload X.here C.1 rfl (hb C.2.2.2.1 d) hl kt) G
theorem g_lloadN (C : Cx p s m meth c Z n0 own bytes maxl ret nm) {i : Fin 4} {v : Int64} (d : In bytes pc 1 (.lload_n i) pc') (hl : Ls[i.val]? = some (.val (.long v))) (G : Go p l e R s m args below meth c n0 Q K N h k n (mkF m pc' Ls (.long v :: st))) : Go p l e R s m args below meth c n0 Q K N h k n (mkF m pc Ls st) := by
  obtain ⟨d, rfl⟩ := d
  exact g_st (fun X _ t kt => XS.lloadN X.here C.1 rfl (hb C.2.2.2.1 d) hl kt) G
theorem g_lstore (C : Cx p s m meth c Z n0 own bytes maxl ret nm) {i : Nat} {x : Int64} (l' : Array Slot) (d : In bytes pc 2 (.lstore i) pc') (hl : storeLocals Ls i (.long x) = some l') (G : Go p l e R s m args below meth c n0 Q K N h k n (mkF m pc' l' st)) : Go p l e R s m args below meth c n0 Q K N h k n (mkF m pc Ls (.long x :: st)) := by
  obtain ⟨d, rfl⟩ := d
  exact g_st (fun X _ t kt => XS.lstore X.here C.1 rfl (hb C.2.2.2.1 d) rfl hl kt) G
theorem g_lstoreN (C : Cx p s m meth c Z n0 own bytes maxl ret nm) {i : Fin 4} {x : Int64} (l' : Array Slot) (d : In bytes pc 1 (.lstore_n i) pc') (hl : storeLocals Ls i.val (.long x) = some l') (G : Go p l e R s m args below meth c n0 Q K N h k n (mkF m pc' l' st)) : Go p l e R s m args below meth c n0 Q K N h k n (mkF m pc Ls (.long x :: st)) := by
  obtain ⟨d, rfl⟩ := d
  exact g_st (fun X _ t kt => XS.lstoreN X.here C.1 rfl (hb C.2.2.2.1 d) rfl hl kt) G
theorem g_aload (C : Cx p s m meth c Z n0 own bytes maxl ret nm) {i : Nat} {v : Value} (d : In bytes pc 2 (.aload i) pc') (hl : Ls[i]? = some (.val v)) (hv : v.isRef = true) (G : Go p l e R s m args below meth c n0 Q K N h k n (mkF m pc' Ls (v :: st))) : Go p l e R s m args below meth c n0 Q K N h k n (mkF m pc Ls st) := by
  obtain ⟨d, rfl⟩ := d
  exact g_st (fun X _ t kt => XS.aload X.here C.1 rfl (hb C.2.2.2.1 d) hl hv kt) G
theorem g_astore (C : Cx p s m meth c Z n0 own bytes maxl ret nm) {i : Nat} {x : Value} (l' : Array Slot) (d : In bytes pc 2 (.astore i) pc') (hv : x.isRef = true) (hl : storeLocals Ls i x = some l') (G : Go p l e R s m args below meth c n0 Q K N h k n (mkF m pc' l' st)) : Go p l e R s m args below meth c n0 Q K N h k n (mkF m pc Ls (x :: st)) := by
  obtain ⟨d, rfl⟩ := d
  exact g_st (fun X _ t kt => XS.astore X.here C.1 rfl (hb C.2.2.2.1 d) rfl hv hl kt) G
theorem g_aloadN (C : Cx p s m meth c Z n0 own bytes maxl ret nm) {i : Fin 4} {v : Value} (d : In bytes pc 1 (.aload_n i) pc') (hl : Ls[i.val]? = some (.val v)) (hv : v.isRef = true) (G : Go p l e R s m args below meth c n0 Q K N h k n (mkF m pc' Ls (v :: st))) : Go p l e R s m args below meth c n0 Q K N h k n (mkF m pc Ls st) := by
  obtain ⟨d, rfl⟩ := d
  exact g_st (fun X _ t kt => XS.aloadN X.here C.1 rfl (hb C.2.2.2.1 d) hl hv kt) G
theorem g_astoreN (C : Cx p s m meth c Z n0 own bytes maxl ret nm) {i : Fin 4} {x : Value} (l' : Array Slot) (d : In bytes pc 1 (.astore_n i) pc') (hv : x.isRef = true) (hl : storeLocals Ls i.val x = some l') (G : Go p l e R s m args below meth c n0 Q K N h k n (mkF m pc' l' st)) : Go p l e R s m args below meth c n0 Q K N h k n (mkF m pc Ls (x :: st)) := by
  obtain ⟨d, rfl⟩ := d
  exact g_st (fun X _ t kt => XS.astoreN X.here C.1 rfl (hb C.2.2.2.1 d) rfl hv hl kt) G
theorem g_ishl (C : Cx p s m meth c Z n0 own bytes maxl ret nm) {x y : Int32} (d : In bytes pc 1 (.ishl) pc') (G : Go p l e R s m args below meth c n0 Q K N h k n (mkF m pc' Ls (.int (shlI x y) :: st))) : Go p l e R s m args below meth c n0 Q K N h k n (mkF m pc Ls (.int y :: .int x :: st)) := by
  obtain ⟨d, rfl⟩ := d
  exact g_st (fun X _ t kt => XS.ishl X.here C.1 rfl (hb C.2.2.2.1 d) rfl kt) G
theorem g_ishr (C : Cx p s m meth c Z n0 own bytes maxl ret nm) {x y : Int32} (d : In bytes pc 1 (.ishr) pc') (G : Go p l e R s m args below meth c n0 Q K N h k n (mkF m pc' Ls (.int (shrI x y) :: st))) : Go p l e R s m args below meth c n0 Q K N h k n (mkF m pc Ls (.int y :: .int x :: st)) := by
  obtain ⟨d, rfl⟩ := d
  exact g_st (fun X _ t kt => XS.ishr X.here C.1 rfl (hb C.2.2.2.1 d) rfl kt) G
theorem g_iushr (C : Cx p s m meth c Z n0 own bytes maxl ret nm) {x y : Int32} (d : In bytes pc 1 (.iushr) pc') (G : Go p l e R s m args below meth c n0 Q K N h k n (mkF m pc' Ls (.int (ushrI x y) :: st))) : Go p l e R s m args below meth c n0 Q K N h k n (mkF m pc Ls (.int y :: .int x :: st)) := by
  obtain ⟨d, rfl⟩ := d
  exact g_st (fun X _ t kt => XS.iushr X.here C.1 rfl (hb C.2.2.2.1 d) rfl kt) G
theorem g_lshl (C : Cx p s m meth c Z n0 own bytes maxl ret nm) {x : Int64} {y : Int32} (d : In bytes pc 1 (.lshl) pc') (G : Go p l e R s m args below meth c n0 Q K N h k n (mkF m pc' Ls (.long (shlJ x y) :: st))) : Go p l e R s m args below meth c n0 Q K N h k n (mkF m pc Ls (.int y :: .long x :: st)) := by
  obtain ⟨d, rfl⟩ := d
  exact g_st (fun X _ t kt => XS.lshl X.here C.1 rfl (hb C.2.2.2.1 d) rfl kt) G
theorem g_lshr (C : Cx p s m meth c Z n0 own bytes maxl ret nm) {x : Int64} {y : Int32} (d : In bytes pc 1 (.lshr) pc') (G : Go p l e R s m args below meth c n0 Q K N h k n (mkF m pc' Ls (.long (shrJ x y) :: st))) : Go p l e R s m args below meth c n0 Q K N h k n (mkF m pc Ls (.int y :: .long x :: st)) := by
  obtain ⟨d, rfl⟩ := d
  exact g_st (fun X _ t kt => XS.lshr X.here C.1 rfl (hb C.2.2.2.1 d) rfl kt) G
theorem g_lushr (C : Cx p s m meth c Z n0 own bytes maxl ret nm) {x : Int64} {y : Int32} (d : In bytes pc 1 (.lushr) pc') (G : Go p l e R s m args below meth c n0 Q K N h k n (mkF m pc' Ls (.long (ushrJ x y) :: st))) : Go p l e R s m args below meth c n0 Q K N h k n (mkF m pc Ls (.int y :: .long x :: st)) := by
  obtain ⟨d, rfl⟩ := d
  exact g_st (fun X _ t kt => XS.lushr X.here C.1 rfl (hb C.2.2.2.1 d) rfl kt) G
theorem g_i2l (C : Cx p s m meth c Z n0 own bytes maxl ret nm) {x : Int32} (d : In bytes pc 1 (.i2l) pc') (G : Go p l e R s m args below meth c n0 Q K N h k n (mkF m pc' Ls (.long x.toInt64 :: st))) : Go p l e R s m args below meth c n0 Q K N h k n (mkF m pc Ls (.int x :: st)) := by
  obtain ⟨d, rfl⟩ := d
  exact g_st (fun X _ t kt => XS.i2l X.here C.1 rfl (hb C.2.2.2.1 d) rfl kt) G
theorem g_l2i (C : Cx p s m meth c Z n0 own bytes maxl ret nm) {x : Int64} (d : In bytes pc 1 (.l2i) pc') (G : Go p l e R s m args below meth c n0 Q K N h k n (mkF m pc' Ls (.int x.toInt32 :: st))) : Go p l e R s m args below meth c n0 Q K N h k n (mkF m pc Ls (.long x :: st)) := by
  obtain ⟨d, rfl⟩ := d
  exact g_st (fun X _ t kt => XS.l2i X.here C.1 rfl (hb C.2.2.2.1 d) rfl kt) G
theorem g_i2b (C : Cx p s m meth c Z n0 own bytes maxl ret nm) {x : Int32} (d : In bytes pc 1 (.i2b) pc') (G : Go p l e R s m args below meth c n0 Q K N h k n (mkF m pc' Ls (.int x.toInt8.toInt32 :: st))) : Go p l e R s m args below meth c n0 Q K N h k n (mkF m pc Ls (.int x :: st)) := by
  obtain ⟨d, rfl⟩ := d
  exact g_st (fun X _ t kt => XS.i2b X.here C.1 rfl (hb C.2.2.2.1 d) rfl kt) G
theorem g_ineg (C : Cx p s m meth c Z n0 own bytes maxl ret nm) {x : Int32} (d : In bytes pc 1 (.ineg) pc') (G : Go p l e R s m args below meth c n0 Q K N h k n (mkF m pc' Ls (.int (-x) :: st))) : Go p l e R s m args below meth c n0 Q K N h k n (mkF m pc Ls (.int x :: st)) := by
  obtain ⟨d, rfl⟩ := d
  exact g_st (fun X _ t kt => XS.ineg X.here C.1 rfl (hb C.2.2.2.1 d) rfl kt) G
theorem g_lneg (C : Cx p s m meth c Z n0 own bytes maxl ret nm) {x : Int64} (d : In bytes pc 1 (.lneg) pc') (G : Go p l e R s m args below meth c n0 Q K N h k n (mkF m pc' Ls (.long (-x) :: st))) : Go p l e R s m args below meth c n0 Q K N h k n (mkF m pc Ls (.long x :: st)) := by
  obtain ⟨d, rfl⟩ := d
  exact g_st (fun X _ t kt => XS.lneg X.here C.1 rfl (hb C.2.2.2.1 d) rfl kt) G
theorem g_iconst (C : Cx p s m meth c Z n0 own bytes maxl ret nm) {i : Int} (v : Int32) (hv : Int32.ofInt i = v) (d : In bytes pc 1 (.iconst i) pc') (G : Go p l e R s m args below meth c n0 Q K N h k n (mkF m pc' Ls (.int v :: st))) : Go p l e R s m args below meth c n0 Q K N h k n (mkF m pc Ls st) := by
  obtain ⟨d, rfl⟩ := d
  exact g_st (fun X _ t kt => XS.iconst X.here C.1 rfl (hb C.2.2.2.1 d) (hv ▸ kt)) G
theorem g_bipush (C : Cx p s m meth c Z n0 own bytes maxl ret nm) {i : Int} (v : Int32) (hv : (Int8.ofInt i).toInt32 = v) (d : In bytes pc 2 (.bipush i) pc') (G : Go p l e R s m args below meth c n0 Q K N h k n (mkF m pc' Ls (.int v :: st))) : Go p l e R s m args below meth c n0 Q K N h k n (mkF m pc Ls st) := by
  obtain ⟨d, rfl⟩ := d
  exact g_st (fun X _ t kt => XS.bipush X.here C.1 rfl (hb C.2.2.2.1 d) (hv ▸ kt)) G
theorem g_sipush (C : Cx p s m meth c Z n0 own bytes maxl ret nm) {i : Int} (v : Int32) (hv : (Int16.ofInt i).toInt32 = v) (d : In bytes pc 3 (.sipush i) pc') (G : Go p l e R s m args below meth c n0 Q K N h k n (mkF m pc' Ls (.int v :: st))) : Go p l e R s m args below meth c n0 Q K N h k n (mkF m pc Ls st) := by
  obtain ⟨d, rfl⟩ := d
  exact g_st (fun X _ t kt => XS.sipush X.here C.1 rfl (hb C.2.2.2.1 d) (hv ▸ kt)) G
theorem g_lconst (C : Cx p s m meth c Z n0 own bytes maxl ret nm) {i : Fin 2} (v : Int64) (hv : Int64.ofNat i = v) (d : In bytes pc 1 (.lconst i) pc') (G : Go p l e R s m args below meth c n0 Q K N h k n (mkF m pc' Ls (.long v :: st))) : Go p l e R s m args below meth c n0 Q K N h k n (mkF m pc Ls st) := by
  obtain ⟨d, rfl⟩ := d
  exact g_st (fun X _ t kt => XS.lconst X.here C.1 rfl (hb C.2.2.2.1 d) (hv ▸ kt)) G
theorem g_aconst (C : Cx p s m meth c Z n0 own bytes maxl ret nm) (d : In bytes pc 1 (.aconst_null) pc') (G : Go p l e R s m args below meth c n0 Q K N h k n (mkF m pc' Ls (.null :: st))) : Go p l e R s m args below meth c n0 Q K N h k n (mkF m pc Ls st) := by
  obtain ⟨d, rfl⟩ := d
  exact g_st (fun X _ t kt => XS.aconstNull X.here C.1 rfl (hb C.2.2.2.1 d) kt) G
theorem g_dup (C : Cx p s m meth c Z n0 own bytes maxl ret nm) {x : Value} (d : In bytes pc 1 (.dup) pc') (hc : x.category = 1) (G : Go p l e R s m args below meth c n0 Q K N h k n (mkF m pc' Ls (x :: x :: st))) : Go p l e R s m args below meth c n0 Q K N h k n (mkF m pc Ls (x :: st)) := by
  obtain ⟨d, rfl⟩ := d
  exact g_st (fun X _ t kt => XS.dup X.here C.1 rfl (hb C.2.2.2.1 d) rfl hc kt) G
theorem g_pop (C : Cx p s m meth c Z n0 own bytes maxl ret nm) {x : Value} (d : In bytes pc 1 (.pop) pc') (hc : x.category = 1) (G : Go p l e R s m args below meth c n0 Q K N h k n (mkF m pc' Ls st)) : Go p l e R s m args below meth c n0 Q K N h k n (mkF m pc Ls (x :: st)) := by
  obtain ⟨d, rfl⟩ := d
  exact g_st (fun X _ t kt => XS.pop X.here C.1 rfl (hb C.2.2.2.1 d) rfl hc kt) G
theorem g_iinc (C : Cx p s m meth c Z n0 own bytes maxl ret nm) {i : Nat} {cst : Int} {x : Int32} (y : Int32) (l' : Array Slot) (d : In bytes pc 3 (.iinc i cst) pc') (hl : Ls[i]? = some (.val (.int x))) (hv : y = x + Int32.ofInt cst) (hl' : storeLocals Ls i (.int y) = some l') (G : Go p l e R s m args below meth c n0 Q K N h k n (mkF m pc' l' st)) : Go p l e R s m args below meth c n0 Q K N h k n (mkF m pc Ls st) := by
  obtain ⟨d, rfl⟩ := d
  exact g_st (fun X _ t kt => XS.iinc X.here C.1 rfl (hb C.2.2.2.1 d) hl (hv ▸ hl') kt) G
theorem g_goto (C : Cx p s m meth c Z n0 own bytes maxl ret nm) (d : Jm bytes pc .goto pc' pct) (G : Go p l e R s m args below meth c n0 Q K N h k n (mkF m pct Ls st)) : Go p l e R s m args below meth c n0 Q K N h k n (mkF m pc Ls st) := by
  obtain ⟨o, d, rfl, h1, h2⟩ := d
  exact g_st (fun X _ t kt => XS.goto X.here C.1 rfl (pc0 := pc) (pc' := pct) rfl (hb C.2.2.2.1 d) h1 h2 kt) G
theorem g_icmp_lt (C : Cx p s m meth c Z n0 own bytes maxl ret nm) (d : Jm bytes pc (.if_icmp .lt) pc' pct) {x y : Int32} (Gt : x < y → Go p l e R s m args below meth c n0 Q K N h k n (mkF m pct Ls st)) (Gf : ¬ (x < y) → Go p l e R s m args below meth c n0 Q K N h k n (mkF m pc' Ls st)) : Go p l e R s m args below meth c n0 Q K N h k n (mkF m pc Ls (.int y :: .int x :: st)) := by
  obtain ⟨o, d, rfl, h1, h2⟩ := d
  by_cases q : x < y
  · exact g_st (fun X _ t kt => XS.icmpYes X.here C.1 rfl (pc0 := pc) (pc' := pct) rfl (hb C.2.2.2.1 d) rfl (tlt q).1 h1 h2 kt) (Gt q)
  · exact g_st (fun X _ t kt => XS.icmpNo X.here C.1 rfl (hb C.2.2.2.1 d) rfl (flt q).1 kt) (Gf q)
theorem g_if_lt (C : Cx p s m meth c Z n0 own bytes maxl ret nm) (d : Jm bytes pc (.ifCond .lt) pc' pct) {x : Int32} (Gt : x < 0 → Go p l e R s m args below meth c n0 Q K N h k n (mkF m pct Ls st)) (Gf : ¬ (x < 0) → Go p l e R s m args below meth c n0 Q K N h k n (mkF m pc' Ls st)) : Go p l e R s m args below meth c n0 Q K N h k n (mkF m pc Ls (.int x :: st)) := by
  obtain ⟨o, d, rfl, h1, h2⟩ := d
  by_cases q : x < 0
  · exact g_st (fun X _ t kt => XS.ifYes X.here C.1 rfl (pc0 := pc) (pc' := pct) rfl (hb C.2.2.2.1 d) rfl ((if0 _ _).trans (tlt q).1) h1 h2 kt) (Gt q)
  · exact g_st (fun X _ t kt => XS.ifNo X.here C.1 rfl (hb C.2.2.2.1 d) rfl ((if0 _ _).trans (flt q).1) kt) (Gf q)
theorem g_lcmp_lt (C : Cx p s m meth c Z n0 own bytes maxl ret nm) {x y : Int64} (d1 : In bytes pc 1 .lcmp pc1) (d : Jm bytes pc1 (.ifCond .lt) pc' pct) (Gt : x < y → Go p l e R s m args below meth c n0 Q K N h k n (mkF m pct Ls st)) (Gf : ¬ (x < y) → Go p l e R s m args below meth c n0 Q K N h k n (mkF m pc' Ls st)) : Go p l e R s m args below meth c n0 Q K N h k n (mkF m pc Ls (.long y :: .long x :: st)) := by
  obtain ⟨d1, rfl⟩ := d1
  refine g_st (fun X _ t kt => XS.lcmp X.here C.1 rfl (hb C.2.2.2.1 d1) rfl kt) ?_
  exact g_if_lt C d (fun q => Gt ((lw_lt x y).mp q)) (fun q => Gf (fun z => q ((lw_lt x y).mpr z)))
theorem g_icmp_ge (C : Cx p s m meth c Z n0 own bytes maxl ret nm) (d : Jm bytes pc (.if_icmp .ge) pc' pct) {x y : Int32} (Gt : ¬ (x < y) → Go p l e R s m args below meth c n0 Q K N h k n (mkF m pct Ls st)) (Gf : x < y → Go p l e R s m args below meth c n0 Q K N h k n (mkF m pc' Ls st)) : Go p l e R s m args below meth c n0 Q K N h k n (mkF m pc Ls (.int y :: .int x :: st)) := by
  obtain ⟨o, d, rfl, h1, h2⟩ := d
  by_cases q : ¬ (x < y)
  · exact g_st (fun X _ t kt => XS.icmpYes X.here C.1 rfl (pc0 := pc) (pc' := pct) rfl (hb C.2.2.2.1 d) rfl (flt q).2.1 h1 h2 kt) (Gt q)
  · exact g_st (fun X _ t kt => XS.icmpNo X.here C.1 rfl (hb C.2.2.2.1 d) rfl (tlt (Decidable.not_not.mp q)).2.1 kt) (Gf (Decidable.not_not.mp q))
theorem g_if_ge (C : Cx p s m meth c Z n0 own bytes maxl ret nm) (d : Jm bytes pc (.ifCond .ge) pc' pct) {x : Int32} (Gt : ¬ (x < 0) → Go p l e R s m args below meth c n0 Q K N h k n (mkF m pct Ls st)) (Gf : x < 0 → Go p l e R s m args below meth c n0 Q K N h k n (mkF m pc' Ls st)) : Go p l e R s m args below meth c n0 Q K N h k n (mkF m pc Ls (.int x :: st)) := by
  obtain ⟨o, d, rfl, h1, h2⟩ := d
  by_cases q : ¬ (x < 0)
  · exact g_st (fun X _ t kt => XS.ifYes X.here C.1 rfl (pc0 := pc) (pc' := pct) rfl (hb C.2.2.2.1 d) rfl ((if0 _ _).trans (flt q).2.1) h1 h2 kt) (Gt q)
  · exact g_st (fun X _ t kt => XS.ifNo X.here C.1 rfl (hb C.2.2.2.1 d) rfl ((if0 _ _).trans (tlt (Decidable.not_not.mp q)).2.1) kt) (Gf (Decidable.not_not.mp q))
theorem g_lcmp_ge (C : Cx p s m meth c Z n0 own bytes maxl ret nm) {x y : Int64} (d1 : In bytes pc 1 .lcmp pc1) (d : Jm bytes pc1 (.ifCond .ge) pc' pct) (Gt : ¬ (x < y) → Go p l e R s m args below meth c n0 Q K N h k n (mkF m pct Ls st)) (Gf : x < y → Go p l e R s m args below meth c n0 Q K N h k n (mkF m pc' Ls st)) : Go p l e R s m args below meth c n0 Q K N h k n (mkF m pc Ls (.long y :: .long x :: st)) := by
  obtain ⟨d1, rfl⟩ := d1
  refine g_st (fun X _ t kt => XS.lcmp X.here C.1 rfl (hb C.2.2.2.1 d1) rfl kt) ?_
  exact g_if_ge C d (fun q => Gt (fun z => q ((lw_lt x y).mpr z))) (fun q => Gf ((lw_lt x y).mp q))
theorem g_icmp_gt (C : Cx p s m meth c Z n0 own bytes maxl ret nm) (d : Jm bytes pc (.if_icmp .gt) pc' pct) {x y : Int32} (Gt : y < x → Go p l e R s m args below meth c n0 Q K N h k n (mkF m pct Ls st)) (Gf : ¬ (y < x) → Go p l e R s m args below meth c n0 Q K N h k n (mkF m pc' Ls st)) : Go p l e R s m args below meth c n0 Q K N h k n (mkF m pc Ls (.int y :: .int x :: st)) := by
  obtain ⟨o, d, rfl, h1, h2⟩ := d
  by_cases q : y < x
  · exact g_st (fun X _ t kt => XS.icmpYes X.here C.1 rfl (pc0 := pc) (pc' := pct) rfl (hb C.2.2.2.1 d) rfl (tlt q).2.2.1 h1 h2 kt) (Gt q)
  · exact g_st (fun X _ t kt => XS.icmpNo X.here C.1 rfl (hb C.2.2.2.1 d) rfl (flt q).2.2.1 kt) (Gf q)
theorem g_if_gt (C : Cx p s m meth c Z n0 own bytes maxl ret nm) (d : Jm bytes pc (.ifCond .gt) pc' pct) {x : Int32} (Gt : 0 < x → Go p l e R s m args below meth c n0 Q K N h k n (mkF m pct Ls st)) (Gf : ¬ (0 < x) → Go p l e R s m args below meth c n0 Q K N h k n (mkF m pc' Ls st)) : Go p l e R s m args below meth c n0 Q K N h k n (mkF m pc Ls (.int x :: st)) := by
  obtain ⟨o, d, rfl, h1, h2⟩ := d
  by_cases q : 0 < x
  · exact g_st (fun X _ t kt => XS.ifYes X.here C.1 rfl (pc0 := pc) (pc' := pct) rfl (hb C.2.2.2.1 d) rfl ((if0 _ _).trans (tlt q).2.2.1) h1 h2 kt) (Gt q)
  · exact g_st (fun X _ t kt => XS.ifNo X.here C.1 rfl (hb C.2.2.2.1 d) rfl ((if0 _ _).trans (flt q).2.2.1) kt) (Gf q)
theorem g_lcmp_gt (C : Cx p s m meth c Z n0 own bytes maxl ret nm) {x y : Int64} (d1 : In bytes pc 1 .lcmp pc1) (d : Jm bytes pc1 (.ifCond .gt) pc' pct) (Gt : y < x → Go p l e R s m args below meth c n0 Q K N h k n (mkF m pct Ls st)) (Gf : ¬ (y < x) → Go p l e R s m args below meth c n0 Q K N h k n (mkF m pc' Ls st)) : Go p l e R s m args below meth c n0 Q K N h k n (mkF m pc Ls (.long y :: .long x :: st)) := by
  obtain ⟨d1, rfl⟩ := d1
  refine g_st (fun X _ t kt => XS.lcmp X.here C.1 rfl (hb C.2.2.2.1 d1) rfl kt) ?_
  exact g_if_gt C d (fun q => Gt ((lw_gt x y).mp q)) (fun q => Gf (fun z => q ((lw_gt x y).mpr z)))
theorem g_icmp_le (C : Cx p s m meth c Z n0 own bytes maxl ret nm) (d : Jm bytes pc (.if_icmp .le) pc' pct) {x y : Int32} (Gt : ¬ (y < x) → Go p l e R s m args below meth c n0 Q K N h k n (mkF m pct Ls st)) (Gf : y < x → Go p l e R s m args below meth c n0 Q K N h k n (mkF m pc' Ls st)) : Go p l e R s m args below meth c n0 Q K N h k n (mkF m pc Ls (.int y :: .int x :: st)) := by
  obtain ⟨o, d, rfl, h1, h2⟩ := d
  by_cases q : ¬ (y < x)
  · exact g_st (fun X _ t kt => XS.icmpYes X.here C.1 rfl (pc0 := pc) (pc' := pct) rfl (hb C.2.2.2.1 d) rfl (flt q).2.2.2 h1 h2 kt) (Gt q)
  · exact g_st (fun X _ t kt => XS.icmpNo X.here C.1 rfl (hb C.2.2.2.1 d) rfl (tlt (Decidable.not_not.mp q)).2.2.2 kt) (Gf (Decidable.not_not.mp q))
theorem g_if_le (C : Cx p s m meth c Z n0 own bytes maxl ret nm) (d : Jm bytes pc (.ifCond .le) pc' pct) {x : Int32} (Gt : ¬ (0 < x) → Go p l e R s m args below meth c n0 Q K N h k n (mkF m pct Ls st)) (Gf : 0 < x → Go p l e R s m args below meth c n0 Q K N h k n (mkF m pc' Ls st)) : Go p l e R s m args below meth c n0 Q K N h k n (mkF m pc Ls (.int x :: st)) := by
  obtain ⟨o, d, rfl, h1, h2⟩ := d
  by_cases q : ¬ (0 < x)
  · exact g_st (fun X _ t kt => XS.ifYes X.here C.1 rfl (pc0 := pc) (pc' := pct) rfl (hb C.2.2.2.1 d) rfl ((if0 _ _).trans (flt q).2.2.2) h1 h2 kt) (Gt q)
  · exact g_st (fun X _ t kt => XS.ifNo X.here C.1 rfl (hb C.2.2.2.1 d) rfl ((if0 _ _).trans (tlt (Decidable.not_not.mp q)).2.2.2) kt) (Gf (Decidable.not_not.mp q))
theorem g_lcmp_le (C : Cx p s m meth c Z n0 own bytes maxl ret nm) {x y : Int64} (d1 : In bytes pc 1 .lcmp pc1) (d : Jm bytes pc1 (.ifCond .le) pc' pct) (Gt : ¬ (y < x) → Go p l e R s m args below meth c n0 Q K N h k n (mkF m pct Ls st)) (Gf : y < x → Go p l e R s m args below meth c n0 Q K N h k n (mkF m pc' Ls st)) : Go p l e R s m args below meth c n0 Q K N h k n (mkF m pc Ls (.long y :: .long x :: st)) := by
  obtain ⟨d1, rfl⟩ := d1
  refine g_st (fun X _ t kt => XS.lcmp X.here C.1 rfl (hb C.2.2.2.1 d1) rfl kt) ?_
  exact g_if_le C d (fun q => Gt (fun z => q ((lw_gt x y).mpr z))) (fun q => Gf ((lw_gt x y).mp q))
theorem g_icmp_eq (C : Cx p s m meth c Z n0 own bytes maxl ret nm) (d : Jm bytes pc (.if_icmp .eq) pc' pct) {x y : Int32} (Gt : x = y → Go p l e R s m args below meth c n0 Q K N h k n (mkF m pct Ls st)) (Gf : ¬ (x = y) → Go p l e R s m args below meth c n0 Q K N h k n (mkF m pc' Ls st)) : Go p l e R s m args below meth c n0 Q K N h k n (mkF m pc Ls (.int y :: .int x :: st)) := by
  obtain ⟨o, d, rfl, h1, h2⟩ := d
  by_cases q : x = y
  · exact g_st (fun X _ t kt => XS.icmpYes X.here C.1 rfl (pc0 := pc) (pc' := pct) rfl (hb C.2.2.2.1 d) rfl (teq q).1 h1 h2 kt) (Gt q)
  · exact g_st (fun X _ t kt => XS.icmpNo X.here C.1 rfl (hb C.2.2.2.1 d) rfl (feq q).1 kt) (Gf q)
theorem g_if_eq (C : Cx p s m meth c Z n0 own bytes maxl ret nm) (d : Jm bytes pc (.ifCond .eq) pc' pct) {x : Int32} (Gt : x = 0 → Go p l e R s m args below meth c n0 Q K N h k n (mkF m pct Ls st)) (Gf : ¬ (x = 0) → Go p l e R s m args below meth c n0 Q K N h k n (mkF m pc' Ls st)) : Go p l e R s m args below meth c n0 Q K N h k n (mkF m pc Ls (.int x :: st)) := by
  obtain ⟨o, d, rfl, h1, h2⟩ := d
  by_cases q : x = 0
  · exact g_st (fun X _ t kt => XS.ifYes X.here C.1 rfl (pc0 := pc) (pc' := pct) rfl (hb C.2.2.2.1 d) rfl ((if0 _ _).trans (teq q).1) h1 h2 kt) (Gt q)
  · exact g_st (fun X _ t kt => XS.ifNo X.here C.1 rfl (hb C.2.2.2.1 d) rfl ((if0 _ _).trans (feq q).1) kt) (Gf q)
theorem g_lcmp_eq (C : Cx p s m meth c Z n0 own bytes maxl ret nm) {x y : Int64} (d1 : In bytes pc 1 .lcmp pc1) (d : Jm bytes pc1 (.ifCond .eq) pc' pct) (Gt : x = y → Go p l e R s m args below meth c n0 Q K N h k n (mkF m pct Ls st)) (Gf : ¬ (x = y) → Go p l e R s m args below meth c n0 Q K N h k n (mkF m pc' Ls st)) : Go p l e R s m args below meth c n0 Q K N h k n (mkF m pc Ls (.long y :: .long x :: st)) := by
  obtain ⟨d1, rfl⟩ := d1
  refine g_st (fun X _ t kt => XS.lcmp X.here C.1 rfl (hb C.2.2.2.1 d1) rfl kt) ?_
  exact g_if_eq C d (fun q => Gt ((lw_eq x y).mp q)) (fun q => Gf (fun z => q ((lw_eq x y).mpr z)))
theorem g_icmp_ne (C : Cx p s m meth c Z n0 own bytes maxl ret nm) (d : Jm bytes pc (.if_icmp .ne) pc' pct) {x y : Int32} (Gt : ¬ (x = y) → Go p l e R s m args below meth c n0 Q K N h k n (mkF m pct Ls st)) (Gf : x = y → Go p l e R s m args below meth c n0 Q K N h k n (mkF m pc' Ls st)) : Go p l e R s m args below meth c n0 Q K N h k n (mkF m pc Ls (.int y :: .int x :: st)) := by
  obtain ⟨o, d, rfl, h1, h2⟩ := d
  by_cases q : ¬ (x = y)
  · exact g_st (fun X _ t kt => XS.icmpYes X.here C.1 rfl (pc0 := pc) (pc' := pct) rfl (hb C.2.2.2.1 d) rfl (feq q).2 h1 h2 kt) (Gt q)
  · exact g_st (fun X _ t kt => XS.icmpNo X.here C.1 rfl (hb C.2.2.2.1 d) rfl (teq (Decidable.not_not.mp q)).2 kt) (Gf (Decidable.not_not.mp q))
theorem g_if_ne (C : Cx p s m meth c Z n0 own bytes maxl ret nm) (d : Jm bytes pc (.ifCond .ne) pc' pct) {x : Int32} (Gt : ¬ (x = 0) → Go p l e R s m args below meth c n0 Q K N h k n (mkF m pct Ls st)) (Gf : x = 0 → Go p l e R s m args below meth c n0 Q K N h k n (mkF m pc' Ls st)) : Go p l e R s m args below meth c n0 Q K N h k n (mkF m pc Ls (.int x :: st)) := by
  obtain ⟨o, d, rfl, h1, h2⟩ := d
  by_cases q : ¬ (x = 0)
  · exact g_st (fun X _ t kt => XS.ifYes X.here C.1 rfl (pc0 := pc) (pc' := pct) rfl (hb C.2.2.2.1 d) rfl ((if0 _ _).trans (feq q).2) h1 h2 kt) (Gt q)
  · exact g_st (fun X _ t kt => XS.ifNo X.here C.1 rfl (hb C.2.2.2.1 d) rfl ((if0 _ _).trans (teq (Decidable.not_not.mp q)).2) kt) (Gf (Decidable.not_not.mp q))
theorem g_lcmp_ne (C : Cx p s m meth c Z n0 own bytes maxl ret nm) {x y : Int64} (d1 : In bytes pc 1 .lcmp pc1) (d : Jm bytes pc1 (.ifCond .ne) pc' pct) (Gt : ¬ (x = y) → Go p l e R s m args below meth c n0 Q K N h k n (mkF m pct Ls st)) (Gf : x = y → Go p l e R s m args below meth c n0 Q K N h k n (mkF m pc' Ls st)) : Go p l e R s m args below meth c n0 Q K N h k n (mkF m pc Ls (.long y :: .long x :: st)) := by
  obtain ⟨d1, rfl⟩ := d1
  refine g_st (fun X _ t kt => XS.lcmp X.here C.1 rfl (hb C.2.2.2.1 d1) rfl kt) ?_
  exact g_if_ne C d (fun q => Gt (fun z => q ((lw_eq x y).mpr z))) (fun q => Gf ((lw_eq x y).mp q))
theorem g_ldc2 (C : Cx p s m meth c Z n0 own bytes maxl ret nm) {i : Nat} {v : Int64} (w : (Cond.constantLong own i v).before a0 Z = true) (d : In bytes pc 3 (.ldc2_w i) pc') (G : Go p l e R s m args below meth c n0 Q K N h k n (mkF m pc' Ls (.long v :: st))) : Go p l e R s m args below meth c n0 Q K N h k n (mkF m pc Ls st) := by
  obtain ⟨d, rfl⟩ := d
  exact g_st (fun X _ t kt => X.ldc2Long C.1 C.2.2.1 (mvT C.2.1 w) (g := mkF m pc Ls st) rfl (hb C.2.2.2.1 d) _ kt) G
theorem g_ldc (C : Cx p s m meth c Z n0 own bytes maxl ret nm) {i : Nat} {v : Int32} (w : (Cond.constant own i v).before a0 Z = true) (d : In bytes pc 2 (.ldc i) pc') (G : Go p l e R s m args below meth c n0 Q K N h k n (mkF m pc' Ls (.int v :: st))) : Go p l e R s m args below meth c n0 Q K N h k n (mkF m pc Ls st) := by
  obtain ⟨d, rfl⟩ := d
  exact g_st (fun X _ t kt => X.ldcInt C.1 C.2.2.1 (mvT C.2.1 w) (g := mkF m pc Ls st) rfl (hb C.2.2.2.1 d) _ kt) G
theorem g_getF (C : Cx p s m meth c Z n0 own bytes maxl ret nm) {i : Nat} {O f ds : String} (w : (Cond.fieldLink own i O f ds).before a0 Z = true) (d : In bytes pc 3 (.getfield i) pc') {a : Addr} {v : Value} (F : Fld Z h a O f ds v) (G : Go p l e R s m args below meth c n0 Q K N h k n (mkF m pc' Ls (v :: st))) : Go p l e R s m args below meth c n0 Q K N h k n (mkF m pc Ls (.ref a :: st)) := by
  obtain ⟨d, rfl⟩ := d
  intro T L hL X eT
  obtain ⟨T', X', e', st'⟩ := getF X C.1 C.2.1 C.2.2.1 (host := "") (Or.inl w) Via.refl eT F (g := mkF m pc Ls (.ref a :: st)) rfl rfl (hb C.2.2.2.1 d)
  obtain ⟨t, o, h1, h2⟩ := G T' L hL X' e'
  exact ⟨t, o, st' t h1, h2⟩
theorem g_putF (C : Cx p s m meth c Z n0 own bytes maxl ret nm) {i kk : Nat} {O f ds K' : String} {ty : FieldType} (w : (Cond.fieldLink own i O f ds).before a0 Z = true) (d : In bytes pc 3 (.putfield i) pc') {a : Addr} {v v' old : Value} (F : Fld Z h a O f ds old) (E : Exa Z h a K')
    (L : (Cond.lays K' O f ds).before a0 Z = true ∨ ((Cond.laysFinal K' O f ds).before a0 Z = true ∧ own = O ∧ nm = "<init>")) (wi : (Cond.instantiable K' kk).before a0 Z = true) (hty : parseFieldDescriptor ds = some ty) (hn : narrow ty v = v') (hf : fits ty v' = true) (ge : n0 ≤ a)
    (G : ∀ h', Wr h h' a (Jvm.RoadKit.slotOf Z O f ds) v' → Go p l e R s m args below meth c n0 Q K N h' k n (mkF m pc' Ls st)) : Go p l e R s m args below meth c n0 Q K N h k n (mkF m pc Ls (v :: .ref a :: st)) := by
  obtain ⟨d, rfl⟩ := d
  intro T Lo hL X eT
  have L' : (Cond.lays K' O f ds).before a0 Z = true ∨ ((Cond.laysFinal K' O f ds).before a0 Z = true ∧ own = O ∧ meth.name = "<init>") := L.imp id fun q => ⟨q.1, q.2.1, C.2.2.2.2.2.2.2.1.trans q.2.2⟩
  obtain ⟨T', h', X', e', W', st'⟩ := putFN X C.1 C.2.1 C.2.2.1 w Via.refl eT F E L' wi hty hn hf (g := mkF m pc Ls (v :: .ref a :: st)) rfl rfl (hb C.2.2.2.1 d)
  obtain ⟨t, o, h1, h2⟩ := G h' W' T' _ (Fr.snoc X' hL ge) X' e'
  exact ⟨t, o, st' t h1, h2⟩
theorem g_new (C : Cx p s m meth c Z n0 own bytes maxl ret nm) {i sz : Nat} {K' : String} (w : (Cond.classLink own i K').before a0 Z = true) (wi : (Cond.instantiable K' sz).before a0 Z = true) (wz : (Cond.initialized K').before a0 Z = true) (d : In bytes pc 3 (.new i) pc') (hc : k + 1 ≤ R.cells) (hl : n + sz ≤ R.slots)
    (G : ∀ h' a, n0 ≤ a → a = h.size → Ext h h' → Exa Z h' a K' → (∀ {O f ds : String} {ty : FieldType}, Laid Z a0 K' O f ds → parseFieldDescriptor ds = some ty → Fld Z h' a O f ds (defaultValue ty)) → Go p l e R s m args below meth c n0 Q K N h' (k + 1) (n + sz) (mkF m pc' Ls (.ref a :: st))) : Go p l e R s m args below meth c n0 Q K N h k n (mkF m pc Ls st) := by
  obtain ⟨d, rfl⟩ := d
  intro T Lo hL X eT
  have ge : n0 ≤ h.size := Nat.le_trans C.2.2.2.2.2.2.2.2 (eT ▸ Stand.up X)
  obtain ⟨T', h', X', e', E', A', D', -, st'⟩ := newO X C.1 C.2.1 C.2.2.1 w wi wz eT (g := mkF m pc Ls st) rfl (hb C.2.2.2.1 d) hc hl
  obtain ⟨t, o, h1, h2⟩ := G h' h.size ge rfl E' A' D' T' _ hL X' e'
  exact ⟨t, o, st' t h1, h2⟩
theorem g_newarr (C : Cx p s m meth c Z n0 own bytes maxl ret nm) {aty : ArrayType} (w : (Cond.arrayClass (newarray.typeOf aty)).before a0 Z = true) (d : In bytes pc 2 (.newarray aty) pc') {z : Int32} (hz : ¬ z < 0) (cap : Nat) (hcap : z.toNatClampNeg ≤ cap) (hb8 : cap * 8 ≤ 536870912) (hc : k + 1 ≤ R.cells) (hl : n + cap ≤ R.slots)
    (G : ∀ h' a kA, n0 ≤ a → a = h.size → Ext h h' → Arr Z h' a (newA kA (newarray.typeOf aty) z) (newarray.typeOf aty) → Go p l e R s m args below meth c n0 Q K N h' (k + 1) (n + cap) (mkF m pc' Ls (.ref a :: st))) : Go p l e R s m args below meth c n0 Q K N h k n (mkF m pc Ls (.int z :: st)) := by
  obtain ⟨d, rfl⟩ := d
  intro T Lo hL X eT
  have ge : n0 ≤ h.size := Nat.le_trans C.2.2.2.2.2.2.2.2 (eT ▸ Stand.up X)
  obtain ⟨T', h', kA, X', e', E', A', st'⟩ := newP X C.1 C.2.1 w eT (g := mkF m pc Ls (.int z :: st)) rfl (hb C.2.2.2.1 d) rfl hz hcap hb8 hc hl
  obtain ⟨t, o, h1, h2⟩ := G h' h.size kA ge rfl E' A' T' _ hL X' e'
  exact ⟨t, o, st' t h1, h2⟩
theorem g_initO (C : Cx p s m meth c Z n0 own bytes maxl ret nm) {i : Nat} (w1 : (Cond.methodLink own i Lib.objectInit).before a0 Z = true) (w2 : (Cond.instanceMethod Lib.objectInit).before a0 Z = true) (w3 : (Cond.code Lib.objectInit ⟨#[0xb1]⟩ 1 none).before a0 Z = true) (d : In bytes pc 3 (.invokespecial i) pc') (hsz : Ls.size = maxl) {a : Addr} (hf : 1 ≤ R.frames) (W : Nat) (hW : (st.map fun v => v.category).sum ≤ W) (hl : W + 12 ≤ R.locals) (G : Go p l e R s m args below meth c n0 Q K N h k n (mkF m pc' Ls st)) : Go p l e R s m args below meth c n0 Q K N h k n (mkF m pc Ls (.ref a :: st)) := by
  obtain ⟨d, rfl⟩ := d
  intro T L hL X eT
  obtain ⟨T', X', e', st'⟩ := initO X C.1 C.2.1 C.2.2.1 w1 w2 w3 eT (g := mkF m pc Ls (.ref a :: st)) rfl (by rw [C.2.2.2.2.1]; exact hsz) rfl (hb C.2.2.2.1 d) hf (W := W) (by show 2 * 0 + _ ≤ _; omega) hl
  obtain ⟨t, o, h1, h2⟩ := G T' L hL X' e'
  exact ⟨t, o, st' t h1, h2⟩
theorem g_retI (C : Cx p s m meth c Z n0 own bytes maxl (some .int) nm) (d : In bytes pc 1 .ireturn pc') {z : Int32} (hk : k ≤ K) (hn : n ≤ N) (q : Q (some (.int z)) h) : Go p l e R s m args below meth c n0 Q K N h k n (mkF m pc Ls ([.int z])) := by
  obtain ⟨d, rfl⟩ := d
  intro T L hL X eT
  have hlk : meth.locks = false := C.2.2.2.2.2.2.1
  obtain ⟨fs, hr, hrun, hended, hW, hsame⟩ := X.leave (v := some (.int z)) (fun h => by rw [C.2.2.2.2.2.1] at h; cases h) hlk
  refine ⟨_, _, X.ireturnOut C.1 C.2.2.2.2.2.1 rfl (Or.inl rfl) (hb C.2.2.2.1 d) hr, hrun, hended, _, _, rfl, ⟨?_, hL⟩, ⟨_, rfl⟩, hW, hsame.mono hk hn⟩
  show Q _ T.heap
  rw [eT]; exact q
theorem g_retJ (C : Cx p s m meth c Z n0 own bytes maxl (some .long) nm) (d : In bytes pc 1 .lreturn pc') {z : Int64} (hk : k ≤ K) (hn : n ≤ N) (q : Q (some (.long z)) h) : Go p l e R s m args below meth c n0 Q K N h k n (mkF m pc Ls ([.long z])) := by
  obtain ⟨d, rfl⟩ := d
  intro T L hL X eT
  have hlk : meth.locks = false := C.2.2.2.2.2.2.1
  obtain ⟨fs, hr, hrun, hended, hW, hsame⟩ := X.leave (v := some (.long z)) (fun h => by rw [C.2.2.2.2.2.1] at h; cases h) hlk
  refine ⟨_, _, X.lreturnOut C.1 C.2.2.2.2.2.1 (hb C.2.2.2.1 d) hr, hrun, hended, _, _, rfl, ⟨?_, hL⟩, ⟨_, rfl⟩, hW, hsame.mono hk hn⟩
  show Q _ T.heap
  rw [eT]; exact q
theorem g_retZ (C : Cx p s m meth c Z n0 own bytes maxl (some .boolean) nm) (d : In bytes pc 1 .ireturn pc') {z : Int32} (hk : k ≤ K) (hn : n ≤ N) (q : Q (some (.int (z &&& 1))) h) : Go p l e R s m args below meth c n0 Q K N h k n (mkF m pc Ls ([.int z])) := by
  obtain ⟨d, rfl⟩ := d
  intro T L hL X eT
  have hlk : meth.locks = false := C.2.2.2.2.2.2.1
  obtain ⟨fs, hr, hrun, hended, hW, hsame⟩ := X.leave (v := some (.int (z &&& 1))) (fun h => by rw [C.2.2.2.2.2.1] at h; cases h) hlk
  refine ⟨_, _, retN X C.1 (t := .boolean) C.2.2.2.2.2.1 (by simp) (hb C.2.2.2.1 d) hr, hrun, hended, _, _, rfl, ⟨?_, hL⟩, ⟨_, rfl⟩, hW, hsame.mono hk hn⟩
  show Q _ T.heap
  rw [eT]; exact q
theorem g_retA (C : Cx p s m meth c Z n0 own bytes maxl ret nm) {ty : FieldType} (hret : ret = some ty) (hty : ty.isReference = true) (d : In bytes pc 1 .areturn pc') {z : Value} (hz : z.isRef = true) (hk : k ≤ K) (hn : n ≤ N) (q : Q (some z) h) : Go p l e R s m args below meth c n0 Q K N h k n (mkF m pc Ls ([z])) := by
  obtain ⟨d, rfl⟩ := d
  subst hret
  intro T L hL X eT
  have hlk : meth.locks = false := C.2.2.2.2.2.2.1
  obtain ⟨fs, hr, hrun, hended, hW, hsame⟩ := X.leave (v := some z) (fun h => by rw [C.2.2.2.2.2.1] at h; cases h) hlk
  refine ⟨_, _, X.areturnOut C.1 hz C.2.2.2.2.2.1 hty (hb C.2.2.2.1 d) hr, hrun, hended, _, _, rfl, ⟨?_, hL⟩, ⟨_, rfl⟩, hW, hsame.mono hk hn⟩
  show Q _ T.heap
  rw [eT]; exact q
theorem g_ret (C : Cx p s m meth c Z n0 own bytes maxl none nm) (d : In bytes pc 1 .return_ pc') (hk : k ≤ K) (hn : n ≤ N) (q : Q none h) : Go p l e R s m args below meth c n0 Q K N h k n (mkF m pc Ls []) := by
  obtain ⟨d, rfl⟩ := d
  intro T L hL X eT
  have hlk : meth.locks = false := C.2.2.2.2.2.2.1
  obtain ⟨fs, hr, hrun, hended, hW, hsame⟩ := X.leave (v := none) (fun _ => rfl) hlk
  refine ⟨_, _, X.returnOut C.1 C.2.2.2.2.2.1 (hb C.2.2.2.1 d) hr, hrun, hended, _, _, rfl, ⟨?_, hL⟩, ⟨_, rfl⟩, hW, hsame.mono hk hn⟩
  show Q _ T.heap
  rw [eT]; exact q
/-- a method's contract: called with 'as' at a heap h0 it comes back so -/
abbrev Con (l : Launch) (Z : State) (y : MethodName) (bytes : ByteArray) (maxl : Nat) (ret : Option FieldType) (rm : Room) (ws : List Jvm.Cond) (as : Array Value) (h0 : Heap) (n0 : Nat) (Q : Option Value → Heap → Prop) : Prop :=
  MetFree l y (head1 (Jvm.Cond.code y bytes maxl ret :: ws) rm) (fun a U => a = as ∧ Z.Warmed39 U.vm ∧ U.heap = h0) (fun _ _ _ _ _ => True) (fun _ U o U' => ∃ v L, o = .returned v ∧ (Q v U'.heap ∧ Fr n0 L) ∧ FrameEnd U o U' L rm.cells rm.slots)
theorem con_of {y : MethodName} {rm : Room} {ws : List Jvm.Cond} {as : Array Value} {h0 : Heap} {Ls0 : Array Slot} (hpl : plainFor y = true) (he : ∀ m, entryFrame m as maxl = mkF m 0 Ls0 []) (hn0 : n0 ≤ h0.size)
    (B : ∀ (p : Program) (e : Env) (s : State) (m : MethodId) (below : List Frame) (meth : Method) (c : ClassFile.Code), Cx p s m meth c Z n0 y.cls bytes maxl ret y.name → Go p l e rm s m as below meth c n0 Q rm.cells rm.slots h0 0 0 (mkF m 0 Ls0 [])) : Con l Z y bytes maxl ret rm ws as h0 n0 Q := by
  refine MetFree.of_bodySF hpl hisR ?_
  intro p e s m args below meth c s₁ Bd hml0 hP hK
  obtain ⟨rfl, hZ, hh⟩ := hP
  have hlk : meth.locks = false := BodyLoose.notSynchronized Bd
  have X0 : Stand p l e rm s m _ below meth c s₁ [] 0 0 := Stand.of_body Bd
  have e0 : s₁.heap = h0 := by rw [← hh, Bd.state]; rfl
  obtain ⟨t, o, h1, h2, h3, v, L, h4, h5, h6⟩ := B p e s m below meth c ⟨Bd.exec, hZ, findClass_of_methodNamed Bd.named, Bd.bytes, hml0, Bd.returns, hlk, (name_of_methodNamed Bd.named Bd.method).1, by rw [hh]; exact hn0⟩ s₁ [] (Fr.nil n0) X0 e0
  exact ⟨t, o, castTop (he m) h1, h2, h3, v, L, h4, h5, h6⟩
theorem g_callS (C : Cx p s m meth c Z n0 own bytes maxl ret nm) {y : MethodName} {by' : ByteArray} {ml : Nat} {rt : Option FieldType} {rm : Room} {as : Array Value} {Q' : Option Value → Heap → Prop} (con : Con l Z y by' ml rt rm [] as h n0 Q') {i : Nat} (w1 : (Cond.methodLink own i y).before a0 Z = true) (w2 : (Cond.static y).before a0 Z = true) (w3 : (Cond.initialized y.cls).before a0 Z = true) (w4 : (Cond.code y by' ml rt).before a0 Z = true) (hy : y.cls ≠ "java/lang/invoke/MethodHandle" ∧ y.cls ≠ "java/lang/invoke/VarHandle")
    (d : In bytes pc 3 (.invokestatic i) pc') {ps : List FieldType} {r : Option FieldType} (hpd : parseMethodDescriptor y.desc = some ⟨ps, r⟩) (argsL rest : List Value) (has : as = argsL.toArray) (hlen : argsL.length = ps.length) (hsz : Ls.size = maxl) (W : Nat) (hW : (rest.map fun v => v.category).sum ≤ W) (r1 : rm.frames + 1 ≤ R.frames) (r2 : W + (ml + 11) + rm.locals ≤ R.locals) (r3 : k + rm.cells ≤ R.cells) (r4 : n + rm.slots ≤ R.slots)
    (G : ∀ v h', Q' v h' → Go p l e R s m args below meth c n0 Q K N h' (k + rm.cells) (n + rm.slots) (mkF m pc' Ls (v.toList ++ rest))) : Go p l e R s m args below meth c n0 Q K N h k n (mkF m pc Ls (argsL.reverse ++ rest)) := by
  obtain ⟨d, rfl⟩ := d
  intro T L hL X eT
  obtain ⟨v, vm₁, ⟨T', L2, k2, n2⟩, -, X', ⟨Lc, hQ, l2, y2, z2⟩, st'⟩ := Jvm.LawKit.callS X C.1 (y := y) C.2.2.1 (mvT C.2.1 w1) (mvT C.2.1 w2) (mvT C.2.1 w3) (mvT C.2.1 w4) hy (backOf (W := W) (Q := fun v h L => Q' v h ∧ Fr n0 L) con C.2.1 w4 w3 r1 r2) (g := mkF m pc Ls (argsL.reverse ++ rest)) rfl (by rw [C.2.2.2.2.1]; exact hsz) (argsL := argsL) (rest := rest) (lenOf hpd hlen) rfl (by show 2 * 0 + _ ≤ _; omega) (hb C.2.2.2.1 d) (fun _ _ => ⟨has.symm, eT, r3, r4⟩)
  dsimp only [Pt.U, Pt.locs, Pt.cells, Pt.slots] at X' l2 y2 z2 st' hQ
  subst l2 y2 z2
  obtain ⟨t, o, h1, h2⟩ := G v T'.heap hQ.1 T' _ (Fr.app hL hQ.2) X' rfl
  exact ⟨t, o, st' t h1, h2⟩
theorem g_callI (C : Cx p s m meth c Z n0 own bytes maxl ret nm) {y : MethodName} {by' : ByteArray} {ml : Nat} {rm : Room} {as : Array Value} {Q' : Option Value → Heap → Prop} (con : Con l Z y by' ml none rm [] as h n0 Q') {i : Nat} (hini : y.name = "<init>") (w1 : (Cond.methodLink own i y).before a0 Z = true) (w2 : (Cond.instanceMethod y).before a0 Z = true) (w3 : (Cond.initialized y.cls).before a0 Z = true) (w4 : (Cond.code y by' ml none).before a0 Z = true) (hy : y.cls ≠ "java/lang/invoke/MethodHandle" ∧ y.cls ≠ "java/lang/invoke/VarHandle")
    (d : In bytes pc 3 (.invokespecial i) pc') {ps : List FieldType} {r : Option FieldType} (hpd : parseMethodDescriptor y.desc = some ⟨ps, r⟩) {a : Addr} (argsL rest : List Value) (has : as = (.ref a :: argsL).toArray) (hlen : argsL.length = ps.length) (hsz : Ls.size = maxl) (W : Nat) (hW : (rest.map fun v => v.category).sum ≤ W) (r1 : rm.frames + 1 ≤ R.frames) (r2 : W + (ml + 11) + rm.locals ≤ R.locals) (r3 : k + rm.cells ≤ R.cells) (r4 : n + rm.slots ≤ R.slots)
    (G : ∀ v h', Q' v h' → Go p l e R s m args below meth c n0 Q K N h' (k + rm.cells) (n + rm.slots) (mkF m pc' Ls (v.toList ++ rest))) : Go p l e R s m args below meth c n0 Q K N h k n (mkF m pc Ls (argsL.reverse ++ .ref a :: rest)) := by
  obtain ⟨d, rfl⟩ := d
  intro T L hL X eT
  obtain ⟨v, vm₁, ⟨T', L2, k2, n2⟩, -, X', ⟨Lc, hQ, l2, y2, z2⟩, st'⟩ := X.specialBack C.1 (y := y) hini C.2.2.1 (mvT C.2.1 w1) (mvT C.2.1 w2) (mvT C.2.1 w4) hy (backOf (W := W) (Q := fun v h L => Q' v h ∧ Fr n0 L) con C.2.1 w4 w3 r1 r2) (g := mkF m pc Ls (argsL.reverse ++ .ref a :: rest)) rfl (by rw [C.2.2.2.2.1]; exact hsz) (Steps.refl _) (a := a) (argsL := argsL) (rest := rest) (lenOf hpd hlen) rfl (by show 2 * 0 + _ ≤ _; omega) (hb C.2.2.2.1 d) (fun _ _ => ⟨has.symm, eT, r3, r4⟩)
  dsimp only [Pt.U, Pt.locs, Pt.cells, Pt.slots] at X' l2 y2 z2 st' hQ
  subst l2 y2 z2
  obtain ⟨t, o, h1, h2⟩ := G v T'.heap hQ.1 T' _ (Fr.app hL hQ.2) X' rfl
  exact ⟨t, o, st'.trans h1, h2⟩
theorem g_callV (C : Cx p s m meth c Z n0 own bytes maxl ret nm) {y : MethodName} {by' : ByteArray} {ml : Nat} {rt : Option FieldType} {rm : Room} {as : Array Value} {Q' : Option Value → Heap → Prop} (con : Con l Z y by' ml rt rm [] as h n0 Q') {i : Nat} (w1 : (Cond.methodLink own i y).before a0 Z = true) (w2 : (Cond.declares y).before a0 Z = true) (w5 : (Cond.instanceMethod y).before a0 Z = true) {K' : String} (w6 : (Cond.selects K' y y).before a0 Z = true) (w3 : (Cond.initialized y.cls).before a0 Z = true) (w4 : (Cond.code y by' ml rt).before a0 Z = true) (hy : y.cls ≠ "java/lang/invoke/MethodHandle" ∧ y.cls ≠ "java/lang/invoke/VarHandle")
    (d : In bytes pc 3 (.invokevirtual i) pc') {ps : List FieldType} {r : Option FieldType} (hpd : parseMethodDescriptor y.desc = some ⟨ps, r⟩) {a : Addr} (E : Exa Z h a K') (argsL rest : List Value) (has : as = (.ref a :: argsL).toArray) (hlen : argsL.length = ps.length) (hsz : Ls.size = maxl) (W : Nat) (hW : (rest.map fun v => v.category).sum ≤ W) (r1 : rm.frames + 1 ≤ R.frames) (r2 : W + (ml + 11) + rm.locals ≤ R.locals) (r3 : k + rm.cells ≤ R.cells) (r4 : n + rm.slots ≤ R.slots)
    (G : ∀ v h', Q' v h' → Go p l e R s m args below meth c n0 Q K N h' (k + rm.cells) (n + rm.slots) (mkF m pc' Ls (v.toList ++ rest))) : Go p l e R s m args below meth c n0 Q K N h k n (mkF m pc Ls (argsL.reverse ++ .ref a :: rest)) := by
  obtain ⟨d, rfl⟩ := d
  intro T L hL X eT
  obtain ⟨cq, kq, q1, q2, q3⟩ := isOf C.2.1 eT E
  obtain ⟨v, vm₁, ⟨T', L2, k2, n2⟩, -, X', ⟨Lc, hQ, l2, y2, z2⟩, st'⟩ := X.virtualBack C.1 (y := y) (z := y) C.2.2.1 (mvT C.2.1 w1) (mvT C.2.1 w2) (notFace_of_selects (args := #[]) (mvT C.2.1 w6)) (mvT C.2.1 w6) (mvT C.2.1 w5) hy (backOf (W := W) (Q := fun v h L => Q' v h ∧ Fr n0 L) con C.2.1 w4 w3 r1 r2) q1 q3 (g := mkF m pc Ls (argsL.reverse ++ .ref a :: rest)) rfl (by rw [C.2.2.2.2.1]; exact hsz) (Steps.refl _) (argsL := argsL) (rest := rest) (lenOf hpd hlen) rfl (by show 2 * 0 + _ ≤ _; omega) (hb C.2.2.2.1 d) (fun _ _ => ⟨has.symm, eT, r3, r4⟩)
  dsimp only [Pt.U, Pt.locs, Pt.cells, Pt.slots] at X' l2 y2 z2 st' hQ
  subst l2 y2 z2
  obtain ⟨t, o, h1, h2⟩ := G v T'.heap hQ.1 T' _ (Fr.app hL hQ.2) X' rfl
  exact ⟨t, o, st'.trans h1, h2⟩
theorem g_callP (C : Cx p s m meth c Z n0 own bytes maxl ret nm) {y : MethodName} {by' : ByteArray} {ml : Nat} {rt : Option FieldType} {rm : Room} {as : Array Value} {Q' : Option Value → Heap → Prop} (con : Con l Z y by' ml rt rm [] as h n0 Q') {i : Nat} (w1 : (Cond.methodLink own i y).before a0 Z = true) (w5 : (Cond.instanceMethod y).before a0 Z = true) (w6 : (Cond.selects y.cls y y).before a0 Z = true) (w7 : (Cond.privateMethod y).before a0 Z = true) (w3 : (Cond.initialized y.cls).before a0 Z = true) (w4 : (Cond.code y by' ml rt).before a0 Z = true) (hy : y.cls ≠ "java/lang/invoke/MethodHandle" ∧ y.cls ≠ "java/lang/invoke/VarHandle")
    (d : In bytes pc 3 (.invokevirtual i) pc') {ps : List FieldType} {r : Option FieldType} (hpd : parseMethodDescriptor y.desc = some ⟨ps, r⟩) {a : Addr} {K' : String} (E : Exa Z h a K') (argsL rest : List Value) (has : as = (.ref a :: argsL).toArray) (hlen : argsL.length = ps.length) (hsz : Ls.size = maxl) (W : Nat) (hW : (rest.map fun v => v.category).sum ≤ W) (r1 : rm.frames + 1 ≤ R.frames) (r2 : W + (ml + 11) + rm.locals ≤ R.locals) (r3 : k + rm.cells ≤ R.cells) (r4 : n + rm.slots ≤ R.slots)
    (G : ∀ v h', Q' v h' → Go p l e R s m args below meth c n0 Q K N h' (k + rm.cells) (n + rm.slots) (mkF m pc' Ls (v.toList ++ rest))) : Go p l e R s m args below meth c n0 Q K N h k n (mkF m pc Ls (argsL.reverse ++ .ref a :: rest)) := by
  obtain ⟨d, rfl⟩ := d
  intro T L hL X eT
  obtain ⟨cq, q1, q2⟩ := E.cell
  obtain ⟨v, vm₁, ⟨T', L2, k2, n2⟩, -, X', ⟨Lc, hQ, l2, y2, z2⟩, st'⟩ := X.privateBack C.1 (y := y) C.2.2.1 (mvT C.2.1 w1) (mvT C.2.1 w5) (mvT C.2.1 w6) (Cond.privateMethod_at (mvP C.2.1 w7 (args := #[]))) (mvT C.2.1 w4) hy (backOf (W := W) (Q := fun v h L => Q' v h ∧ Fr n0 L) con C.2.1 w4 w3 r1 r2) (g := mkF m pc Ls (argsL.reverse ++ .ref a :: rest)) rfl (by rw [C.2.2.2.2.1]; exact hsz) (Steps.refl _) (a := a) (by rw [eT]; exact q1) q2 (argsL := argsL) (rest := rest) (lenOf hpd hlen) rfl (by show 2 * 0 + _ ≤ _; omega) (hb C.2.2.2.1 d) (fun _ _ => ⟨has.symm, eT, r3, r4⟩)
  dsimp only [Pt.U, Pt.locs, Pt.cells, Pt.slots] at X' l2 y2 z2 st' hQ
  subst l2 y2 z2
  obtain ⟨t, o, h1, h2⟩ := G v T'.heap hQ.1 T' _ (Fr.app hL hQ.2) X' rfl
  exact ⟨t, o, st'.trans h1, h2⟩
/-- an array of z places at a, whose contents are f -/
def LArr (Z : State) (h : Heap) (a : Addr) (z : Nat) (f : Nat → Int64) : Prop := ∃ c : Cell, Arr Z h a c .long ∧ c.slots.size = z ∧ z < 2 ^ 31 ∧ ∀ i, i < z → c.slots[i]? = some (.long (f i))
theorem LArr.lt {a : Addr} {z : Nat} {f : Nat → Int64} (A : LArr Z h a z f) : a < h.size := by obtain ⟨c, A, -⟩ := A; exact A.lt
theorem LArr.ext {h' : Heap} {a : Addr} {z : Nat} {f : Nat → Int64} (A : LArr Z h a z f) (E : Ext h h') : LArr Z h' a z f := by obtain ⟨c, A, r⟩ := A; exact ⟨c, A.ext E, r⟩
theorem LArr.other {h' : Heap} {a b : Addr} {sl : Nat} {v : Value} {z : Nat} {f : Nat → Int64} (A : LArr Z h b z f) (W : Wr h h' a sl v) (q : b ≠ a) : LArr Z h' b z f := by obtain ⟨c, A, r⟩ := A; exact ⟨c, A.other W q, r⟩
theorem LArr.keep {h' : Heap} {a : Addr} {ws : List Addr} {z : Nat} {f : Nat → Int64} (A : LArr Z h a z f) (K : Keep h h' ws) (q : a ∉ ws) : LArr Z h' a z f := by obtain ⟨c, A, r⟩ := A; exact ⟨c, ⟨K.2.1 a c A.1 q, A.2⟩, r⟩
theorem LArr.congr {a : Addr} {z : Nat} {f g : Nat → Int64} (A : LArr Z h a z f) (q : ∀ i, i < z → g i = f i) : LArr Z h a z g := by obtain ⟨c, A, r1, r2, r3⟩ := A; exact ⟨c, A, r1, r2, fun i hi => by rw [q i hi]; exact r3 i hi⟩
theorem LArr.new {a : Addr} {kA : ClassId} {z : Int32} (A : Arr Z h a (newA kA .long z) .long) : LArr Z h a z.toNatClampNeg (fun _ => 0) :=
  ⟨_, A, sz_new _ _ _, z.toNatClampNeg_lt, fun i hi => by simp [newA, hi, defaultValue]⟩
theorem LArr.set {h' : Heap} {a : Addr} {z j : Nat} {x : Int64} {f : Nat → Int64} (A : LArr Z h a z f) (W : Wr h h' a j (.long x)) : LArr Z h' a z (fun i => if i = j then x else f i) := by
  obtain ⟨c, A, r1, r2, r3⟩ := A
  refine ⟨_, A.same W, by simp [Cell.setSlot, r1], r2, fun i hi => ?_⟩
  by_cases q : i = j
  · subst q
    simp [Cell.setSlot, r1, hi]
  · simp only [q, if_false]
    rw [← r3 i hi]
    exact Array.getElem?_setIfInBounds_ne (Ne.symm q)
theorem g_laload (C : Cx p s m meth c Z n0 own bytes maxl ret nm) (d : In bytes pc 1 .laload pc') {a : Addr} {z : Nat} {f : Nat → Int64} {j : Int32} (A : LArr Z h a z f) (h1 : 0 ≤ j.toInt) (h2 : j.toInt < z) (v : Int64) (hv : f j.toInt.toNat = v) (G : Go p l e R s m args below meth c n0 Q K N h k n (mkF m pc' Ls (.long v :: st))) : Go p l e R s m args below meth c n0 Q K N h k n (mkF m pc Ls (.int j :: .ref a :: st)) := by
  obtain ⟨d, rfl⟩ := d
  obtain ⟨cl, A, r1, r2, r3⟩ := A
  have e1 : j.toNatClampNeg = j.toInt.toNat := rfl
  have hj : ¬ (j < 0 ∨ cl.slots.size ≤ j.toNatClampNeg) := by
    rw [Int32.lt_iff_toInt_lt, show (0 : Int32).toInt = 0 from rfl, r1, e1]; omega
  have hat : cl.slots[j.toNatClampNeg]? = some (.long v) := by rw [← hv, e1]; exact r3 _ (by omega)
  exact g_st (fun X eT t kt => X.laload C.1 (j := j) (v := .long v) (by rw [eT]; exact A.1) (State.isArrayOf_alike C.2.1.alike A.2.1) A.2.2 hj hat (g := mkF m pc Ls (.int j :: .ref a :: st)) rfl rfl (hb C.2.2.2.1 d) _ kt) G
theorem g_lastore (C : Cx p s m meth c Z n0 own bytes maxl ret nm) (d : In bytes pc 1 .lastore pc') {a : Addr} {z : Nat} {f : Nat → Int64} {j : Int32} {x : Int64} (A : LArr Z h a z f) (h1 : 0 ≤ j.toInt) (h2 : j.toInt < z) (ge : n0 ≤ a) (G : ∀ h', Wr h h' a j.toInt.toNat (.long x) → Go p l e R s m args below meth c n0 Q K N h' k n (mkF m pc' Ls st)) : Go p l e R s m args below meth c n0 Q K N h k n (mkF m pc Ls (.long x :: .int j :: .ref a :: st)) := by
  obtain ⟨d, rfl⟩ := d
  obtain ⟨cl, A, r1, r2, r3⟩ := A
  have e1 : j.toNatClampNeg = j.toInt.toNat := rfl
  have hj : ¬ (j < 0 ∨ cl.slots.size ≤ j.toNatClampNeg) := by
    rw [Int32.lt_iff_toInt_lt, show (0 : Int32).toInt = 0 from rfl, r1, e1]; omega
  intro T L hL X eT
  obtain ⟨T', h', X', e', W', st'⟩ := stJ X C.1 C.2.1 eT A (j := j) hj (g := mkF m pc Ls (.long x :: .int j :: .ref a :: st)) rfl rfl (hb C.2.2.2.1 d)
  obtain ⟨t, o, h1, h2⟩ := G h' W' T' _ (Fr.snoc X' hL ge) X' e'
  exact ⟨t, o, st' t h1, h2⟩
theorem g_lenLArr (C : Cx p s m meth c Z n0 own bytes maxl ret nm) (d : In bytes pc 1 .arraylength pc') {a : Addr} {z : Nat} {f : Nat → Int64} (A : LArr Z h a z f) (v : Int32) (hv : v = Int32.ofNat z) (G : Go p l e R s m args below meth c n0 Q K N h k n (mkF m pc' Ls (.int v :: st))) : Go p l e R s m args below meth c n0 Q K N h k n (mkF m pc Ls (.ref a :: st)) := by
  obtain ⟨d, rfl⟩ := d
  obtain ⟨cl, A, r1, r2, r3⟩ := A
  refine g_st (fun X eT t kt => X.arraylength C.1 (by rw [eT]; exact A.1) (State.isArrayOf_alike C.2.1.alike A.2.1) (g := mkF m pc Ls (.ref a :: st)) rfl rfl (hb C.2.2.2.1 d) _ ?_) G
  rw [r1]
  subst hv
  exact kt
/-- an array of z places at a, whose contents are f -/
def IArr (Z : State) (h : Heap) (a : Addr) (z : Nat) (f : Nat → Int32) : Prop := ∃ c : Cell, Arr Z h a c .int ∧ c.slots.size = z ∧ z < 2 ^ 31 ∧ ∀ i, i < z → c.slots[i]? = some (.int (f i))
theorem IArr.lt {a : Addr} {z : Nat} {f : Nat → Int32} (A : IArr Z h a z f) : a < h.size := by obtain ⟨c, A, -⟩ := A; exact A.lt
theorem IArr.ext {h' : Heap} {a : Addr} {z : Nat} {f : Nat → Int32} (A : IArr Z h a z f) (E : Ext h h') : IArr Z h' a z f := by obtain ⟨c, A, r⟩ := A; exact ⟨c, A.ext E, r⟩
theorem IArr.other {h' : Heap} {a b : Addr} {sl : Nat} {v : Value} {z : Nat} {f : Nat → Int32} (A : IArr Z h b z f) (W : Wr h h' a sl v) (q : b ≠ a) : IArr Z h' b z f := by obtain ⟨c, A, r⟩ := A; exact ⟨c, A.other W q, r⟩
theorem IArr.keep {h' : Heap} {a : Addr} {ws : List Addr} {z : Nat} {f : Nat → Int32} (A : IArr Z h a z f) (K : Keep h h' ws) (q : a ∉ ws) : IArr Z h' a z f := by obtain ⟨c, A, r⟩ := A; exact ⟨c, ⟨K.2.1 a c A.1 q, A.2⟩, r⟩
theorem IArr.congr {a : Addr} {z : Nat} {f g : Nat → Int32} (A : IArr Z h a z f) (q : ∀ i, i < z → g i = f i) : IArr Z h a z g := by obtain ⟨c, A, r1, r2, r3⟩ := A; exact ⟨c, A, r1, r2, fun i hi => by rw [q i hi]; exact r3 i hi⟩
theorem IArr.new {a : Addr} {kA : ClassId} {z : Int32} (A : Arr Z h a (newA kA .int z) .int) : IArr Z h a z.toNatClampNeg (fun _ => 0) :=
  ⟨_, A, sz_new _ _ _, z.toNatClampNeg_lt, fun i hi => by simp [newA, hi, defaultValue]⟩
theorem IArr.set {h' : Heap} {a : Addr} {z j : Nat} {x : Int32} {f : Nat → Int32} (A : IArr Z h a z f) (W : Wr h h' a j (.int x)) : IArr Z h' a z (fun i => if i = j then x else f i) := by
  obtain ⟨c, A, r1, r2, r3⟩ := A
  refine ⟨_, A.same W, by simp [Cell.setSlot, r1], r2, fun i hi => ?_⟩
  by_cases q : i = j
  · subst q
    simp [Cell.setSlot, r1, hi]
  · simp only [q, if_false]
    rw [← r3 i hi]
    exact Array.getElem?_setIfInBounds_ne (Ne.symm q)
theorem g_iaload (C : Cx p s m meth c Z n0 own bytes maxl ret nm) (d : In bytes pc 1 .iaload pc') {a : Addr} {z : Nat} {f : Nat → Int32} {j : Int32} (A : IArr Z h a z f) (h1 : 0 ≤ j.toInt) (h2 : j.toInt < z) (v : Int32) (hv : f j.toInt.toNat = v) (G : Go p l e R s m args below meth c n0 Q K N h k n (mkF m pc' Ls (.int v :: st))) : Go p l e R s m args below meth c n0 Q K N h k n (mkF m pc Ls (.int j :: .ref a :: st)) := by
  obtain ⟨d, rfl⟩ := d
  obtain ⟨cl, A, r1, r2, r3⟩ := A
  have e1 : j.toNatClampNeg = j.toInt.toNat := rfl
  have hj : ¬ (j < 0 ∨ cl.slots.size ≤ j.toNatClampNeg) := by
    rw [Int32.lt_iff_toInt_lt, show (0 : Int32).toInt = 0 from rfl, r1, e1]; omega
  have hat : cl.slots[j.toNatClampNeg]? = some (.int v) := by rw [← hv, e1]; exact r3 _ (by omega)
  exact g_st (fun X eT t kt => X.iaload C.1 (j := j) (v := .int v) (by rw [eT]; exact A.1) (State.isArrayOf_alike C.2.1.alike A.2.1) A.2.2 hj hat (g := mkF m pc Ls (.int j :: .ref a :: st)) rfl rfl (hb C.2.2.2.1 d) _ kt) G
theorem g_iastore (C : Cx p s m meth c Z n0 own bytes maxl ret nm) (d : In bytes pc 1 .iastore pc') {a : Addr} {z : Nat} {f : Nat → Int32} {j : Int32} {x : Int32} (A : IArr Z h a z f) (h1 : 0 ≤ j.toInt) (h2 : j.toInt < z) (ge : n0 ≤ a) (G : ∀ h', Wr h h' a j.toInt.toNat (.int x) → Go p l e R s m args below meth c n0 Q K N h' k n (mkF m pc' Ls st)) : Go p l e R s m args below meth c n0 Q K N h k n (mkF m pc Ls (.int x :: .int j :: .ref a :: st)) := by
  obtain ⟨d, rfl⟩ := d
  obtain ⟨cl, A, r1, r2, r3⟩ := A
  have e1 : j.toNatClampNeg = j.toInt.toNat := rfl
  have hj : ¬ (j < 0 ∨ cl.slots.size ≤ j.toNatClampNeg) := by
    rw [Int32.lt_iff_toInt_lt, show (0 : Int32).toInt = 0 from rfl, r1, e1]; omega
  intro T L hL X eT
  obtain ⟨T', h', X', e', W', st'⟩ := stI X C.1 C.2.1 eT A (j := j) hj (g := mkF m pc Ls (.int x :: .int j :: .ref a :: st)) rfl rfl (hb C.2.2.2.1 d)
  obtain ⟨t, o, h1, h2⟩ := G h' W' T' _ (Fr.snoc X' hL ge) X' e'
  exact ⟨t, o, st' t h1, h2⟩
theorem g_lenIArr (C : Cx p s m meth c Z n0 own bytes maxl ret nm) (d : In bytes pc 1 .arraylength pc') {a : Addr} {z : Nat} {f : Nat → Int32} (A : IArr Z h a z f) (v : Int32) (hv : v = Int32.ofNat z) (G : Go p l e R s m args below meth c n0 Q K N h k n (mkF m pc' Ls (.int v :: st))) : Go p l e R s m args below meth c n0 Q K N h k n (mkF m pc Ls (.ref a :: st)) := by
  obtain ⟨d, rfl⟩ := d
  obtain ⟨cl, A, r1, r2, r3⟩ := A
  refine g_st (fun X eT t kt => X.arraylength C.1 (by rw [eT]; exact A.1) (State.isArrayOf_alike C.2.1.alike A.2.1) (g := mkF m pc Ls (.ref a :: st)) rfl rfl (hb C.2.2.2.1 d) _ ?_) G
  rw [r1]
  subst hv
  exact kt
/-- an array of z places at a, whose contents are f -/
def BArr (Z : State) (h : Heap) (a : Addr) (z : Nat) (f : Nat → Int32) : Prop := ∃ c : Cell, Arr Z h a c .byte ∧ c.slots.size = z ∧ z < 2 ^ 31 ∧ ∀ i, i < z → c.slots[i]? = some (.int (f i))
theorem BArr.lt {a : Addr} {z : Nat} {f : Nat → Int32} (A : BArr Z h a z f) : a < h.size := by obtain ⟨c, A, -⟩ := A; exact A.lt
theorem BArr.ext {h' : Heap} {a : Addr} {z : Nat} {f : Nat → Int32} (A : BArr Z h a z f) (E : Ext h h') : BArr Z h' a z f := by obtain ⟨c, A, r⟩ := A; exact ⟨c, A.ext E, r⟩
theorem BArr.other {h' : Heap} {a b : Addr} {sl : Nat} {v : Value} {z : Nat} {f : Nat → Int32} (A : BArr Z h b z f) (W : Wr h h' a sl v) (q : b ≠ a) : BArr Z h' b z f := by obtain ⟨c, A, r⟩ := A; exact ⟨c, A.other W q, r⟩
theorem BArr.keep {h' : Heap} {a : Addr} {ws : List Addr} {z : Nat} {f : Nat → Int32} (A : BArr Z h a z f) (K : Keep h h' ws) (q : a ∉ ws) : BArr Z h' a z f := by obtain ⟨c, A, r⟩ := A; exact ⟨c, ⟨K.2.1 a c A.1 q, A.2⟩, r⟩
theorem BArr.congr {a : Addr} {z : Nat} {f g : Nat → Int32} (A : BArr Z h a z f) (q : ∀ i, i < z → g i = f i) : BArr Z h a z g := by obtain ⟨c, A, r1, r2, r3⟩ := A; exact ⟨c, A, r1, r2, fun i hi => by rw [q i hi]; exact r3 i hi⟩
theorem BArr.new {a : Addr} {kA : ClassId} {z : Int32} (A : Arr Z h a (newA kA .byte z) .byte) : BArr Z h a z.toNatClampNeg (fun _ => 0) :=
  ⟨_, A, sz_new _ _ _, z.toNatClampNeg_lt, fun i hi => by simp [newA, hi, defaultValue]⟩
theorem BArr.set {h' : Heap} {a : Addr} {z j : Nat} {x : Int32} {f : Nat → Int32} (A : BArr Z h a z f) (W : Wr h h' a j (.int x)) : BArr Z h' a z (fun i => if i = j then x else f i) := by
  obtain ⟨c, A, r1, r2, r3⟩ := A
  refine ⟨_, A.same W, by simp [Cell.setSlot, r1], r2, fun i hi => ?_⟩
  by_cases q : i = j
  · subst q
    simp [Cell.setSlot, r1, hi]
  · simp only [q, if_false]
    rw [← r3 i hi]
    exact Array.getElem?_setIfInBounds_ne (Ne.symm q)
theorem g_baload (C : Cx p s m meth c Z n0 own bytes maxl ret nm) (d : In bytes pc 1 .baload pc') {a : Addr} {z : Nat} {f : Nat → Int32} {j : Int32} (A : BArr Z h a z f) (h1 : 0 ≤ j.toInt) (h2 : j.toInt < z) (v : Int32) (hv : f j.toInt.toNat = v) (G : Go p l e R s m args below meth c n0 Q K N h k n (mkF m pc' Ls (.int v :: st))) : Go p l e R s m args below meth c n0 Q K N h k n (mkF m pc Ls (.int j :: .ref a :: st)) := by
  obtain ⟨d, rfl⟩ := d
  obtain ⟨cl, A, r1, r2, r3⟩ := A
  have e1 : j.toNatClampNeg = j.toInt.toNat := rfl
  have hj : ¬ (j < 0 ∨ cl.slots.size ≤ j.toNatClampNeg) := by
    rw [Int32.lt_iff_toInt_lt, show (0 : Int32).toInt = 0 from rfl, r1, e1]; omega
  have hat : cl.slots[j.toNatClampNeg]? = some (.int v) := by rw [← hv, e1]; exact r3 _ (by omega)
  exact g_st (fun X eT t kt => X.baloadBytes C.1 (j := j) (v := .int v) (by rw [eT]; exact A.1) (State.isArrayOf_alike C.2.1.alike A.2.1) A.2.2 hj hat (g := mkF m pc Ls (.int j :: .ref a :: st)) rfl rfl (hb C.2.2.2.1 d) _ kt) G
theorem g_bastore (C : Cx p s m meth c Z n0 own bytes maxl ret nm) (d : In bytes pc 1 .bastore pc') {a : Addr} {z : Nat} {f : Nat → Int32} {j : Int32} {x : Int32} (A : BArr Z h a z f) (h1 : 0 ≤ j.toInt) (h2 : j.toInt < z) (ge : n0 ≤ a) (G : ∀ h', Wr h h' a j.toInt.toNat (.int x.toInt8.toInt32) → Go p l e R s m args below meth c n0 Q K N h' k n (mkF m pc' Ls st)) : Go p l e R s m args below meth c n0 Q K N h k n (mkF m pc Ls (.int x :: .int j :: .ref a :: st)) := by
  obtain ⟨d, rfl⟩ := d
  obtain ⟨cl, A, r1, r2, r3⟩ := A
  have e1 : j.toNatClampNeg = j.toInt.toNat := rfl
  have hj : ¬ (j < 0 ∨ cl.slots.size ≤ j.toNatClampNeg) := by
    rw [Int32.lt_iff_toInt_lt, show (0 : Int32).toInt = 0 from rfl, r1, e1]; omega
  intro T L hL X eT
  obtain ⟨T', h', X', e', W', st'⟩ := stB X C.1 C.2.1 eT A (j := j) hj (g := mkF m pc Ls (.int x :: .int j :: .ref a :: st)) rfl rfl (hb C.2.2.2.1 d)
  obtain ⟨t, o, h1, h2⟩ := G h' W' T' _ (Fr.snoc X' hL ge) X' e'
  exact ⟨t, o, st' t h1, h2⟩
theorem g_lenBArr (C : Cx p s m meth c Z n0 own bytes maxl ret nm) (d : In bytes pc 1 .arraylength pc') {a : Addr} {z : Nat} {f : Nat → Int32} (A : BArr Z h a z f) (v : Int32) (hv : v = Int32.ofNat z) (G : Go p l e R s m args below meth c n0 Q K N h k n (mkF m pc' Ls (.int v :: st))) : Go p l e R s m args below meth c n0 Q K N h k n (mkF m pc Ls (.ref a :: st)) := by
  obtain ⟨d, rfl⟩ := d
  obtain ⟨cl, A, r1, r2, r3⟩ := A
  refine g_st (fun X eT t kt => X.arraylength C.1 (by rw [eT]; exact A.1) (State.isArrayOf_alike C.2.1.alike A.2.1) (g := mkF m pc Ls (.ref a :: st)) rfl rfl (hb C.2.2.2.1 d) _ ?_) G
  rw [r1]
  subst hv
  exact kt
theorem g_join {ι : Type} (hh : ι → Heap) (k' n' : Nat) (f : ι → JFrame) (P : ι → Prop) {f0 : JFrame} (H : (∀ x, P x → Go p l e R s m args below meth c n0 Q K N (hh x) (k') (n') ((f x))) → Go p l e R s m args below meth c n0 Q K N h k n f0) (G : ∀ x, P x → Go p l e R s m args below meth c n0 Q K N (hh x) (k') (n') ((f x))) : Go p l e R s m args below meth c n0 Q K N h k n f0 := H G
theorem g_loop {ι : Type} (hh : ι → Heap) (f : ι → JFrame) (P : ι → Prop) (μ : ι → Nat) (step : ∀ x, P x → (∀ y, P y → μ y < μ x → Go p l e R s m args below meth c n0 Q K N (hh y) k n ((f y))) → Go p l e R s m args below meth c n0 Q K N (hh x) k n ((f x))) : ∀ x, P x → Go p l e R s m args below meth c n0 Q K N (hh x) k n ((f x)) := by
  intro x
  generalize hm : μ x = t
  induction t using Nat.strongRecOn generalizing x with
  | _ t ih => exact fun hx => step x hx fun y hy hlt => ih (μ y) (by omega) y rfl hy
end Kit
def startR (w y0 yb ys : Int32) : Prop := (w = 0 ∧ ys = yb) ∨ (¬ w = 0 ∧ ys = y0)
def nextR (sz lf rt x y x' y' : Int32) : Prop := (x + sz < rt ∧ x' = x + sz ∧ y' = y) ∨ (¬ (x + sz < rt) ∧ x' = lf ∧ y' = y + sz)
def doneR (y bt r : Int32) : Prop := (y < bt ∧ r = 0) ∨ (¬ (y < bt) ∧ r = 1)
def minR (x y r : Int32) : Prop := (y < x ∧ r = y) ∨ (¬ (y < x) ∧ r = x)
theorem startT {w y0 yb ys : Int32} (q : w = 0) (h : startR w y0 yb ys) : ys = yb := h.elim (fun h => h.2) (fun h => absurd q h.1)
theorem startF {w y0 yb ys : Int32} (q : ¬ w = 0) (h : startR w y0 yb ys) : ys = y0 := h.elim (fun h => absurd h.1 q) (fun h => h.2)
theorem nextT {sz lf rt x y x' y' : Int32} (q : x + sz < rt) (h : nextR sz lf rt x y x' y') : x' = x + sz ∧ y' = y := h.elim (fun h => h.2) (fun h => absurd q h.1)
theorem nextF {sz lf rt x y x' y' : Int32} (q : ¬ (x + sz < rt)) (h : nextR sz lf rt x y x' y') : x' = lf ∧ y' = y + sz := h.elim (fun h => absurd h.1 q) (fun h => h.2)
theorem doneT {y bt r : Int32} (q : y < bt) (h : doneR y bt r) : r = 0 := h.elim (fun h => h.2) (fun h => absurd q h.1)
theorem doneF {y bt r : Int32} (q : ¬ (y < bt)) (h : doneR y bt r) : r = 1 := h.elim (fun h => absurd h.1 q) (fun h => h.2)
theorem minT {x y r : Int32} (q : y < x) (h : minR x y r) : r = y := h.elim (fun h => h.2) (fun h => absurd q h.1)
theorem minF {x y r : Int32} (q : ¬ (y < x)) (h : minR x y r) : r = x := h.elim (fun h => absurd h.1 q) (fun h => h.2)
theorem minE (x y : Int32) : ∃ r, minR x y r := by
  by_cases q : y < x
  · exact ⟨_, Or.inl ⟨q, rfl⟩⟩
  · exact ⟨_, Or.inr ⟨q, rfl⟩⟩
def Rg (x : Int32) (b : Int) : Prop := 0 ≤ x.toInt ∧ x.toInt ≤ b
theorem mask16 (v : Int32) : Rg (v &&& 65535) 65535 := by
  have h := c_mask v 65535 16 (by decide) (by decide)
  unfold Rg; rw [h]; omega
theorem size16 (z : Int32) : 1 ≤ ((1 : Int32) + (z &&& 65535)).toInt ∧ ((1 : Int32) + (z &&& 65535)).toInt ≤ 65536 := by
  have h := c_mask z 65535 16 (by decide) (by decide)
  have h1 := c_iadd 1 (z &&& 65535)
  have e1 : (1 : Int32).toInt = 1 := rfl
  have := rng32 ((1 : Int32) + (z &&& 65535))
  omega
theorem num4 (z : Int32) : 1 ≤ ((1 : Int32) + (z &&& 3)).toInt ∧ ((1 : Int32) + (z &&& 3)).toInt ≤ 4 := by
  have h := c_mask z 3 2 (by decide) (by decide)
  have h1 := c_iadd 1 (z &&& 3)
  have e1 : (1 : Int32).toInt = 1 := rfl
  have := rng32 ((1 : Int32) + (z &&& 3))
  omega
def colsOf (w s : Int) : Int := (w + s - 1) / s
theorem le_cols {w s m : Int} (hs : 1 ≤ s) : m ≤ colsOf w s ↔ m * s ≤ w + s - 1 := Int.le_ediv_iff_mul_le (by omega)
/-- the place behind j tiles -/
def TI (s x0 y0 w bt j x y : Int) : Prop := (w = 0 ∧ x = x0 ∧ bt ≤ y ∧ y ≤ bt + j * s) ∨ (¬ w = 0 ∧ ∃ q m, 0 ≤ m ∧ m < colsOf w s ∧ 0 ≤ q ∧ q * colsOf w s + m = j ∧ x = x0 + m * s ∧ y = y0 + q * s)
theorem le_q {q m c j : Int} (h1 : 0 ≤ m) (h2 : m < c) (h3 : 0 ≤ q) (h4 : q * c + m = j) : q ≤ j ∧ m ≤ j := by
  have h5 : 0 ≤ q * (c - 1) := Int.mul_nonneg h3 (by omega)
  rw [Int.mul_sub] at h5
  omega
theorem prod_le {q s j : Int} (h1 : 0 ≤ q) (h2 : q ≤ 4) (h3 : 1 ≤ s) (h4 : s ≤ 65536) : 0 ≤ q * s ∧ q * s ≤ 262144 := by
  have := Int.mul_nonneg h1 (show 0 ≤ s by omega)
  have := Int.mul_le_mul h2 h4 (by omega) (by omega)
  omega
theorem TI_start {s x0 y0 w h ys : Int32} (hs : 1 ≤ s.toInt ∧ s.toInt ≤ 65536) (hx : Rg x0 65535) (hy : Rg y0 65535) (hw : Rg w 65535) (hh : Rg h 65535) (q : startR w y0 (y0 + h) ys) : TI s.toInt x0.toInt y0.toInt w.toInt (y0 + h).toInt 0 x0.toInt ys.toInt := by
  rcases q with ⟨rfl, rfl⟩ | ⟨q, rfl⟩
  · exact Or.inl ⟨rfl, rfl, Int.le_refl _, by omega⟩
  · have e : ¬ w.toInt = 0 := fun z => q (Int32.toInt_inj.mp z)
    refine Or.inr ⟨e, 0, 0, by omega, ?_, by omega, by omega, by omega, by omega⟩
    have := (le_cols (w := w.toInt) (m := 1) hs.1).mpr (by obtain ⟨_, _⟩ := hw; omega)
    omega
theorem TI_next {s x0 y0 w h x y : Int32} {j : Int} (hs : 1 ≤ s.toInt ∧ s.toInt ≤ 65536) (hx : Rg x0 65535) (hy : Rg y0 65535) (hw : Rg w 65535) (hh : Rg h 65535) (hj : 0 ≤ j ∧ j ≤ 3) (T : TI s.toInt x0.toInt y0.toInt w.toInt (y0 + h).toInt j x.toInt y.toInt) :
    ∃ x' y', nextR s x0 (x0 + w) x y x' y' ∧ TI s.toInt x0.toInt y0.toInt w.toInt (y0 + h).toInt (j + 1) x'.toInt y'.toInt := by
  have a1 := c_iadd x s; have a2 := c_iadd x0 w; have a3 := c_iadd y s; have a4 := c_iadd y0 h
  have r1 := rng32 (x + s); have r2 := rng32 (x0 + w); have r3 := rng32 (y + s); have r4 := rng32 (y0 + h)
  obtain ⟨x1, x2⟩ := hx; obtain ⟨y1, y2⟩ := hy; obtain ⟨w1, w2⟩ := hw; obtain ⟨h1, h2⟩ := hh
  rcases T with ⟨t1, t2, t3, t4⟩ | ⟨t1, q, m, t2, t3, t4, t5, t6, t7⟩
  · have := prod_le (j := 0) hj.1 (by omega) hs.1 hs.2
    have e : (j + 1) * s.toInt = j * s.toInt + s.toInt := by rw [Int.add_mul, Int.one_mul]
    refine ⟨x0, y + s, Or.inr ⟨?_, rfl, rfl⟩, Or.inl ⟨t1, rfl, by omega, by rw [e]; omega⟩⟩
    rw [Int32.lt_iff_toInt_lt]; omega
  · obtain ⟨q1, m1⟩ := le_q t2 t3 t4 t5
    have p1 := prod_le (j := 0) t2 (by omega) hs.1 hs.2
    have p2 := prod_le (j := 0) t4 (by omega) hs.1 hs.2
    have e1 : (m + 2) * s.toInt = m * s.toInt + 2 * s.toInt := Int.add_mul _ _ _
    have e2 : (m + 1) * s.toInt = m * s.toInt + s.toInt := by rw [Int.add_mul, Int.one_mul]
    have e3 : (q + 1) * s.toInt = q * s.toInt + s.toInt := by rw [Int.add_mul, Int.one_mul]
    have lc := le_cols (w := w.toInt) (m := m + 2) hs.1
    rw [e1] at lc
    by_cases b : x + s < x0 + w
    · refine ⟨x + s, y, Or.inl ⟨b, rfl, rfl⟩, Or.inr ⟨t1, q, m + 1, by omega, ?_, t4, by omega, by rw [e2]; omega, t7⟩⟩
      rw [Int32.lt_iff_toInt_lt] at b
      have := lc.mpr (by omega)
      omega
    · refine ⟨x0, y + s, Or.inr ⟨b, rfl, rfl⟩, Or.inr ⟨t1, q + 1, 0, by omega, by omega, by omega, ?_, by omega, by rw [e3]; omega⟩⟩
      rw [Int32.lt_iff_toInt_lt] at b
      have : ¬ (m + 2 ≤ colsOf w.toInt s.toInt) := fun z => by have := lc.mp z; omega
      have e4 : (q + 1) * colsOf w.toInt s.toInt = q * colsOf w.toInt s.toInt + colsOf w.toInt s.toInt := by rw [Int.add_mul, Int.one_mul]
      rw [e4]; omega
theorem cols_fact {w s c : Int32} (hs : 1 ≤ s.toInt ∧ s.toInt ≤ 65536) (hw : Rg w 65535) (e : ((w + s) - 1) / s = c) : c.toInt = colsOf w.toInt s.toInt := by
  subst e
  have a1 := c_iadd w s; have a2 := c_isub (w + s) 1; have r1 := rng32 (w + s); have r2 := rng32 ((w + s) - 1)
  have e1 : (1 : Int32).toInt = 1 := rfl
  obtain ⟨w1, w2⟩ := hw
  have hd : s ≠ -1 := fun z => by rw [z] at hs; exact absurd hs.1 (by decide)
  have e2 : ((w + s) - 1).toInt = w.toInt + s.toInt - 1 := by omega
  rw [(c_idiv ((w + s) - 1) s s.toInt rfl hd).1 (by omega), e2]; rfl
theorem cols_rng {w s : Int} (hs : 1 ≤ s) (hw : 0 ≤ w ∧ w ≤ 65535) : 0 ≤ colsOf w s ∧ colsOf w s ≤ 65535 ∧ (¬ w = 0 → 1 ≤ colsOf w s) := by
  refine ⟨(le_cols hs).mpr (by omega), ?_, fun z => (le_cols hs).mpr (by omega)⟩
  have : ¬ (65536 ≤ colsOf w s) := fun z => by
    have h1 := (le_cols hs).mp z
    have h2 : 0 ≤ 65535 * (s - 1) := by omega
    omega
  omega
theorem s_ne {s : Int32} (hs : 1 ≤ s.toInt ∧ s.toInt ≤ 65536) : s ≠ 0 := fun z => by rw [z] at hs; exact absurd hs.1 (by decide)
theorem pos_ne {s : Int32} (hs : 1 ≤ s.toInt) : s ≠ 0 := fun z => by rw [z] at hs; exact absurd hs (by decide)
theorem qm {n c : Int32} {q m : Int} (hn : 1 ≤ n.toInt ∧ n.toInt ≤ 4) (hc : 1 ≤ c.toInt) (t2 : 0 ≤ m) (t3 : m < c.toInt) (t4 : 0 ≤ q) (t5 : q * c.toInt + m = n.toInt) : (n / c).toInt = q ∧ (n - (n / c) * c).toInt = m := by
  have hd : c ≠ -1 := fun z => by rw [z] at hc; exact absurd hc (by decide)
  have u := (Int.ediv_emod_unique (a := n.toInt) (b := c.toInt) (r := m) (q := q) (by omega)).mpr ⟨by rw [Int.mul_comm]; omega, t2, t3⟩
  obtain ⟨q1, m1⟩ := le_q t2 t3 t4 t5
  have e1 : (n / c).toInt = q := by rw [(c_idiv n c c.toInt rfl hd).1 (by omega)]; exact u.1
  refine ⟨e1, ?_⟩
  have b := c_imul (n / c) c; have d := c_isub n ((n / c) * c)
  have := rng32 ((n / c) * c); have := rng32 (n - (n / c) * c)
  rw [e1] at b
  have f : (n / c * c).toInt = q * c.toInt := by omega
  omega
/-- what the law asks at its end -/
theorem end_x {s x0 y0 w h n x y c : Int32} {q m : Int} (hs : 1 ≤ s.toInt ∧ s.toInt ≤ 65536) (hx : Rg x0 65535) (hm : 0 ≤ m ∧ m ≤ 4) (e1 : c.toInt = m) (e2 : x.toInt = x0.toInt + m * s.toInt) : x = x0 + c * s := by
  apply Int32.toInt_inj.mp
  have a1 := c_imul c s; have a2 := c_iadd x0 (c * s); have r1 := rng32 (c * s); have r2 := rng32 (x0 + c * s)
  have p := prod_le (j := 0) hm.1 hm.2 hs.1 hs.2
  rw [e1] at a1
  obtain ⟨_, _⟩ := hx
  omega
theorem end_done {s y0 w h n y c r : Int32} {q m : Int} (hs : 1 ≤ s.toInt ∧ s.toInt ≤ 65536) (hy : Rg y0 65535) (hh : Rg h 65535) (hc : c.toInt = colsOf w.toInt s.toInt) (hr : r.toInt = colsOf h.toInt s.toInt) (hw : Rg w 65535) (hn : 1 ≤ n.toInt ∧ n.toInt ≤ 4)
    (t2 : 0 ≤ m) (t3 : m < c.toInt) (t4 : 0 ≤ q) (t5 : q * c.toInt + m = n.toInt) (e2 : y.toInt = y0.toInt + q * s.toInt) : n.toInt64 < c.toInt64 * r.toInt64 ↔ y < y0 + h := by
  obtain ⟨q1, m1⟩ := le_q t2 t3 t4 t5
  have p := prod_le (j := 0) t4 (by omega) hs.1 hs.2
  rw [Int32.lt_iff_toInt_lt, Int64.lt_iff_toInt_lt]
  have a1 := c_lmul c.toInt64 r.toInt64; have a2 := c_iadd y0 h; have r1 := rng64 (c.toInt64 * r.toInt64); have r2 := rng32 (y0 + h)
  rw [c_i2l, c_i2l] at a1
  rw [c_i2l]
  obtain ⟨c1, c2, -⟩ := cols_rng (w := w.toInt) hs.1 ⟨hw.1, hw.2⟩
  obtain ⟨d1, d2, -⟩ := cols_rng (w := h.toInt) hs.1 ⟨hh.1, hh.2⟩
  rw [← hc] at c1 c2; rw [← hr] at d1 d2
  have p3 := Int.mul_nonneg c1 d1
  have p4 := Int.mul_le_mul c2 d2 d1 (by omega)
  have lr := le_cols (w := h.toInt) (m := q + 1) hs.1
  rw [← hr, Int.add_mul, Int.one_mul] at lr
  obtain ⟨_, _⟩ := hy; obtain ⟨_, _⟩ := hh
  constructor
  · intro z
    by_cases b : q + 1 ≤ r.toInt
    · have := lr.mp b; omega
    · have p5 := Int.mul_le_mul_of_nonneg_left (show r.toInt ≤ q by omega) c1
      rw [Int.mul_comm c.toInt q] at p5
      omega
  · intro z
    have b := lr.mpr (by omega)
    have p5 := Int.mul_le_mul_of_nonneg_left b c1
    rw [Int.mul_add, Int.mul_one, Int.mul_comm c.toInt q] at p5
    omega
theorem is_num {n : Int32} (hn : 1 ≤ n.toInt ∧ n.toInt ≤ 4) {k : Int32} {j : Int} (h1 : n < k) (e : k.toInt = j + 1) (h2 : j ≤ n.toInt) : n.toInt = j := by
  rw [Int32.lt_iff_toInt_lt] at h1; omega
theorem ge_num {n k : Int32} {j : Int} (h1 : ¬ n < k) (e : k.toInt = j) : j ≤ n.toInt := by rw [Int32.lt_iff_toInt_lt] at h1; omega

theorem wd_0 {a0 : Array Value} {Z : State} (hw : ∀ d ∈ tables_1, d.before a0 Z = true) : (Jvm.Cond.constant "com/example/framewire/framewire/rfb/TilesNextPinLaw" (7 : Nat) (65535 : Int32)).before a0 Z = true := hw _ (List.mem_of_getElem? (i := 0) rfl)
theorem wd_1 {a0 : Array Value} {Z : State} (hw : ∀ d ∈ tables_1, d.before a0 Z = true) : (Jvm.Cond.classLink "com/example/framewire/framewire/rfb/TilesNextPinLaw" (8 : Nat) "com/example/framewire/framewire/rfb/Tiles").before a0 Z = true := hw _ (List.mem_of_getElem? (i := 1) rfl)
theorem wd_2 {a0 : Array Value} {Z : State} (hw : ∀ d ∈ tables_1, d.before a0 Z = true) : (Jvm.Cond.instantiable "com/example/framewire/framewire/rfb/Tiles" (6 : Nat)).before a0 Z = true := hw _ (List.mem_of_getElem? (i := 2) rfl)
theorem wd_3 {a0 : Array Value} {Z : State} (hw : ∀ d ∈ tables_1, d.before a0 Z = true) : (Jvm.Cond.initialized "com/example/framewire/framewire/rfb/Tiles").before a0 Z = true := hw _ (List.mem_of_getElem? (i := 3) rfl)
theorem wd_4 {a0 : Array Value} {Z : State} (hw : ∀ d ∈ tables_1, d.before a0 Z = true) : (Jvm.Cond.methodLink "com/example/framewire/framewire/rfb/TilesNextPinLaw" (10 : Nat) ({ cls := "com/example/framewire/framewire/rfb/Tiles", name := "<init>", desc := "(I)V" } : Jvm.MethodName)).before a0 Z = true := hw _ (List.mem_of_getElem? (i := 4) rfl)
theorem wd_5 {a0 : Array Value} {Z : State} (hw : ∀ d ∈ tables_1, d.before a0 Z = true) : (Jvm.Cond.instanceMethod ({ cls := "com/example/framewire/framewire/rfb/Tiles", name := "<init>", desc := "(I)V" } : Jvm.MethodName)).before a0 Z = true := hw _ (List.mem_of_getElem? (i := 5) rfl)
theorem wd_6 {a0 : Array Value} {Z : State} (hw : ∀ d ∈ tables_1, d.before a0 Z = true) : (Jvm.Cond.code ({ cls := "com/example/framewire/framewire/rfb/Tiles", name := "<init>", desc := "(I)V" } : Jvm.MethodName) prog_102_method_1_code (2 : Nat) (Option.none : Option Jvm.ClassFile.FieldType)).before a0 Z = true := hw _ (List.mem_of_getElem? (i := 6) rfl)
theorem wd_7 {a0 : Array Value} {Z : State} (hw : ∀ d ∈ tables_1, d.before a0 Z = true) : (Jvm.Cond.methodLink "com/example/framewire/framewire/rfb/Tiles" (1 : Nat) ({ cls := "java/lang/Object", name := "<init>", desc := "()V" } : Jvm.MethodName)).before a0 Z = true := hw _ (List.mem_of_getElem? (i := 7) rfl)
theorem wd_8 {a0 : Array Value} {Z : State} (hw : ∀ d ∈ tables_1, d.before a0 Z = true) : (Jvm.Cond.instanceMethod ({ cls := "java/lang/Object", name := "<init>", desc := "()V" } : Jvm.MethodName)).before a0 Z = true := hw _ (List.mem_of_getElem? (i := 8) rfl)
theorem wd_9 {a0 : Array Value} {Z : State} (hw : ∀ d ∈ tables_1, d.before a0 Z = true) : (Jvm.Cond.code ({ cls := "java/lang/Object", name := "<init>", desc := "()V" } : Jvm.MethodName) object_method_1_code (1 : Nat) (Option.none : Option Jvm.ClassFile.FieldType)).before a0 Z = true := hw _ (List.mem_of_getElem? (i := 9) rfl)
theorem wd_10 {a0 : Array Value} {Z : State} (hw : ∀ d ∈ tables_1, d.before a0 Z = true) : (Jvm.Cond.fieldLink "com/example/framewire/framewire/rfb/Tiles" (7 : Nat) "com/example/framewire/framewire/rfb/Tiles" "size" "I").before a0 Z = true := hw _ (List.mem_of_getElem? (i := 10) rfl)
theorem wd_11 {a0 : Array Value} {Z : State} (hw : ∀ d ∈ tables_1, d.before a0 Z = true) : (Jvm.Cond.laysFinal "com/example/framewire/framewire/rfb/Tiles" "com/example/framewire/framewire/rfb/Tiles" "size" "I").before a0 Z = true := hw _ (List.mem_of_getElem? (i := 11) rfl)
theorem wd_12 {a0 : Array Value} {Z : State} (hw : ∀ d ∈ tables_1, d.before a0 Z = true) : (Jvm.Cond.methodLink "com/example/framewire/framewire/rfb/TilesNextPinLaw" (13 : Nat) ({ cls := "com/example/framewire/framewire/rfb/Tiles", name := "start", desc := "(IIII)V" } : Jvm.MethodName)).before a0 Z = true := hw _ (List.mem_of_getElem? (i := 12) rfl)
theorem wd_13 {a0 : Array Value} {Z : State} (hw : ∀ d ∈ tables_1, d.before a0 Z = true) : (Jvm.Cond.declares ({ cls := "com/example/framewire/framewire/rfb/Tiles", name := "start", desc := "(IIII)V" } : Jvm.MethodName)).before a0 Z = true := hw _ (List.mem_of_getElem? (i := 13) rfl)
theorem wd_14 {a0 : Array Value} {Z : State} (hw : ∀ d ∈ tables_1, d.before a0 Z = true) : (Jvm.Cond.instanceMethod ({ cls := "com/example/framewire/framewire/rfb/Tiles", name := "start", desc := "(IIII)V" } : Jvm.MethodName)).before a0 Z = true := hw _ (List.mem_of_getElem? (i := 14) rfl)
theorem wd_15 {a0 : Array Value} {Z : State} (hw : ∀ d ∈ tables_1, d.before a0 Z = true) : (Jvm.Cond.selects "com/example/framewire/framewire/rfb/Tiles" ({ cls := "com/example/framewire/framewire/rfb/Tiles", name := "start", desc := "(IIII)V" } : Jvm.MethodName) ({ cls := "com/example/framewire/framewire/rfb/Tiles", name := "start", desc := "(IIII)V" } : Jvm.MethodName)).before a0 Z = true := hw _ (List.mem_of_getElem? (i := 15) rfl)
theorem wd_16 {a0 : Array Value} {Z : State} (hw : ∀ d ∈ tables_1, d.before a0 Z = true) : (Jvm.Cond.code ({ cls := "com/example/framewire/framewire/rfb/Tiles", name := "start", desc := "(IIII)V" } : Jvm.MethodName) prog_102_method_2_code (5 : Nat) (Option.none : Option Jvm.ClassFile.FieldType)).before a0 Z = true := hw _ (List.mem_of_getElem? (i := 16) rfl)
theorem wd_17 {a0 : Array Value} {Z : State} (hw : ∀ d ∈ tables_1, d.before a0 Z = true) : (Jvm.Cond.fieldLink "com/example/framewire/framewire/rfb/Tiles" (13 : Nat) "com/example/framewire/framewire/rfb/Tiles" "left" "I").before a0 Z = true := hw _ (List.mem_of_getElem? (i := 17) rfl)
theorem wd_18 {a0 : Array Value} {Z : State} (hw : ∀ d ∈ tables_1, d.before a0 Z = true) : (Jvm.Cond.lays "com/example/framewire/framewire/rfb/Tiles" "com/example/framewire/framewire/rfb/Tiles" "left" "I").before a0 Z = true := hw _ (List.mem_of_getElem? (i := 18) rfl)
theorem wd_19 {a0 : Array Value} {Z : State} (hw : ∀ d ∈ tables_1, d.before a0 Z = true) : (Jvm.Cond.fieldLink "com/example/framewire/framewire/rfb/Tiles" (16 : Nat) "com/example/framewire/framewire/rfb/Tiles" "right" "I").before a0 Z = true := hw _ (List.mem_of_getElem? (i := 19) rfl)
theorem wd_20 {a0 : Array Value} {Z : State} (hw : ∀ d ∈ tables_1, d.before a0 Z = true) : (Jvm.Cond.lays "com/example/framewire/framewire/rfb/Tiles" "com/example/framewire/framewire/rfb/Tiles" "right" "I").before a0 Z = true := hw _ (List.mem_of_getElem? (i := 20) rfl)
theorem wd_21 {a0 : Array Value} {Z : State} (hw : ∀ d ∈ tables_1, d.before a0 Z = true) : (Jvm.Cond.fieldLink "com/example/framewire/framewire/rfb/Tiles" (19 : Nat) "com/example/framewire/framewire/rfb/Tiles" "bottom" "I").before a0 Z = true := hw _ (List.mem_of_getElem? (i := 21) rfl)
theorem wd_22 {a0 : Array Value} {Z : State} (hw : ∀ d ∈ tables_1, d.before a0 Z = true) : (Jvm.Cond.lays "com/example/framewire/framewire/rfb/Tiles" "com/example/framewire/framewire/rfb/Tiles" "bottom" "I").before a0 Z = true := hw _ (List.mem_of_getElem? (i := 22) rfl)
theorem wd_23 {a0 : Array Value} {Z : State} (hw : ∀ d ∈ tables_1, d.before a0 Z = true) : (Jvm.Cond.fieldLink "com/example/framewire/framewire/rfb/Tiles" (22 : Nat) "com/example/framewire/framewire/rfb/Tiles" "x" "I").before a0 Z = true := hw _ (List.mem_of_getElem? (i := 23) rfl)
theorem wd_24 {a0 : Array Value} {Z : State} (hw : ∀ d ∈ tables_1, d.before a0 Z = true) : (Jvm.Cond.lays "com/example/framewire/framewire/rfb/Tiles" "com/example/framewire/framewire/rfb/Tiles" "x" "I").before a0 Z = true := hw _ (List.mem_of_getElem? (i := 24) rfl)
theorem wd_25 {a0 : Array Value} {Z : State} (hw : ∀ d ∈ tables_1, d.before a0 Z = true) : (Jvm.Cond.fieldLink "com/example/framewire/framewire/rfb/Tiles" (25 : Nat) "com/example/framewire/framewire/rfb/Tiles" "y" "I").before a0 Z = true := hw _ (List.mem_of_getElem? (i := 25) rfl)
theorem wd_26 {a0 : Array Value} {Z : State} (hw : ∀ d ∈ tables_1, d.before a0 Z = true) : (Jvm.Cond.lays "com/example/framewire/framewire/rfb/Tiles" "com/example/framewire/framewire/rfb/Tiles" "y" "I").before a0 Z = true := hw _ (List.mem_of_getElem? (i := 26) rfl)
theorem wd_27 {a0 : Array Value} {Z : State} (hw : ∀ d ∈ tables_1, d.before a0 Z = true) : (Jvm.Cond.methodLink "com/example/framewire/framewire/rfb/TilesNextPinLaw" (17 : Nat) ({ cls := "com/example/framewire/framewire/rfb/Tiles", name := "next", desc := "()V" } : Jvm.MethodName)).before a0 Z = true := hw _ (List.mem_of_getElem? (i := 27) rfl)
theorem wd_28 {a0 : Array Value} {Z : State} (hw : ∀ d ∈ tables_1, d.before a0 Z = true) : (Jvm.Cond.declares ({ cls := "com/example/framewire/framewire/rfb/Tiles", name := "next", desc := "()V" } : Jvm.MethodName)).before a0 Z = true := hw _ (List.mem_of_getElem? (i := 28) rfl)
theorem wd_29 {a0 : Array Value} {Z : State} (hw : ∀ d ∈ tables_1, d.before a0 Z = true) : (Jvm.Cond.instanceMethod ({ cls := "com/example/framewire/framewire/rfb/Tiles", name := "next", desc := "()V" } : Jvm.MethodName)).before a0 Z = true := hw _ (List.mem_of_getElem? (i := 29) rfl)
theorem wd_30 {a0 : Array Value} {Z : State} (hw : ∀ d ∈ tables_1, d.before a0 Z = true) : (Jvm.Cond.selects "com/example/framewire/framewire/rfb/Tiles" ({ cls := "com/example/framewire/framewire/rfb/Tiles", name := "next", desc := "()V" } : Jvm.MethodName) ({ cls := "com/example/framewire/framewire/rfb/Tiles", name := "next", desc := "()V" } : Jvm.MethodName)).before a0 Z = true := hw _ (List.mem_of_getElem? (i := 30) rfl)
theorem wd_31 {a0 : Array Value} {Z : State} (hw : ∀ d ∈ tables_1, d.before a0 Z = true) : (Jvm.Cond.code ({ cls := "com/example/framewire/framewire/rfb/Tiles", name := "next", desc := "()V" } : Jvm.MethodName) prog_102_method_4_code (1 : Nat) (Option.none : Option Jvm.ClassFile.FieldType)).before a0 Z = true := hw _ (List.mem_of_getElem? (i := 31) rfl)
theorem wd_32 {a0 : Array Value} {Z : State} (hw : ∀ d ∈ tables_1, d.before a0 Z = true) : (Jvm.Cond.methodLink "com/example/framewire/framewire/rfb/TilesNextPinLaw" (24 : Nat) ({ cls := "com/example/framewire/framewire/rfb/Tiles", name := "x", desc := "()I" } : Jvm.MethodName)).before a0 Z = true := hw _ (List.mem_of_getElem? (i := 32) rfl)
theorem wd_33 {a0 : Array Value} {Z : State} (hw : ∀ d ∈ tables_1, d.before a0 Z = true) : (Jvm.Cond.declares ({ cls := "com/example/framewire/framewire/rfb/Tiles", name := "x", desc := "()I" } : Jvm.MethodName)).before a0 Z = true := hw _ (List.mem_of_getElem? (i := 33) rfl)
theorem wd_34 {a0 : Array Value} {Z : State} (hw : ∀ d ∈ tables_1, d.before a0 Z = true) : (Jvm.Cond.instanceMethod ({ cls := "com/example/framewire/framewire/rfb/Tiles", name := "x", desc := "()I" } : Jvm.MethodName)).before a0 Z = true := hw _ (List.mem_of_getElem? (i := 34) rfl)
theorem wd_35 {a0 : Array Value} {Z : State} (hw : ∀ d ∈ tables_1, d.before a0 Z = true) : (Jvm.Cond.selects "com/example/framewire/framewire/rfb/Tiles" ({ cls := "com/example/framewire/framewire/rfb/Tiles", name := "x", desc := "()I" } : Jvm.MethodName) ({ cls := "com/example/framewire/framewire/rfb/Tiles", name := "x", desc := "()I" } : Jvm.MethodName)).before a0 Z = true := hw _ (List.mem_of_getElem? (i := 35) rfl)
theorem wd_36 {a0 : Array Value} {Z : State} (hw : ∀ d ∈ tables_1, d.before a0 Z = true) : (Jvm.Cond.code ({ cls := "com/example/framewire/framewire/rfb/Tiles", name := "x", desc := "()I" } : Jvm.MethodName) prog_102_method_5_code (1 : Nat) (Option.some Jvm.ClassFile.FieldType.int)).before a0 Z = true := hw _ (List.mem_of_getElem? (i := 36) rfl)
theorem wd_37 {a0 : Array Value} {Z : State} (hw : ∀ d ∈ tables_1, d.before a0 Z = true) : (Jvm.Cond.methodLink "com/example/framewire/framewire/rfb/TilesNextPinLaw" (28 : Nat) ({ cls := "com/example/framewire/framewire/rfb/Tiles", name := "y", desc := "()I" } : Jvm.MethodName)).before a0 Z = true := hw _ (List.mem_of_getElem? (i := 37) rfl)
theorem wd_38 {a0 : Array Value} {Z : State} (hw : ∀ d ∈ tables_1, d.before a0 Z = true) : (Jvm.Cond.declares ({ cls := "com/example/framewire/framewire/rfb/Tiles", name := "y", desc := "()I" } : Jvm.MethodName)).before a0 Z = true := hw _ (List.mem_of_getElem? (i := 38) rfl)
theorem wd_39 {a0 : Array Value} {Z : State} (hw : ∀ d ∈ tables_1, d.before a0 Z = true) : (Jvm.Cond.instanceMethod ({ cls := "com/example/framewire/framewire/rfb/Tiles", name := "y", desc := "()I" } : Jvm.MethodName)).before a0 Z = true := hw _ (List.mem_of_getElem? (i := 39) rfl)
theorem wd_40 {a0 : Array Value} {Z : State} (hw : ∀ d ∈ tables_1, d.before a0 Z = true) : (Jvm.Cond.selects "com/example/framewire/framewire/rfb/Tiles" ({ cls := "com/example/framewire/framewire/rfb/Tiles", name := "y", desc := "()I" } : Jvm.MethodName) ({ cls := "com/example/framewire/framewire/rfb/Tiles", name := "y", desc := "()I" } : Jvm.MethodName)).before a0 Z = true := hw _ (List.mem_of_getElem? (i := 40) rfl)
theorem wd_41 {a0 : Array Value} {Z : State} (hw : ∀ d ∈ tables_1, d.before a0 Z = true) : (Jvm.Cond.code ({ cls := "com/example/framewire/framewire/rfb/Tiles", name := "y", desc := "()I" } : Jvm.MethodName) prog_102_method_6_code (1 : Nat) (Option.some Jvm.ClassFile.FieldType.int)).before a0 Z = true := hw _ (List.mem_of_getElem? (i := 41) rfl)
theorem wd_42 {a0 : Array Value} {Z : State} (hw : ∀ d ∈ tables_1, d.before a0 Z = true) : (Jvm.Cond.methodLink "com/example/framewire/framewire/rfb/TilesNextPinLaw" (20 : Nat) ({ cls := "com/example/framewire/framewire/rfb/Tiles", name := "done", desc := "()Z" } : Jvm.MethodName)).before a0 Z = true := hw _ (List.mem_of_getElem? (i := 42) rfl)
theorem wd_43 {a0 : Array Value} {Z : State} (hw : ∀ d ∈ tables_1, d.before a0 Z = true) : (Jvm.Cond.declares ({ cls := "com/example/framewire/framewire/rfb/Tiles", name := "done", desc := "()Z" } : Jvm.MethodName)).before a0 Z = true := hw _ (List.mem_of_getElem? (i := 43) rfl)
theorem wd_44 {a0 : Array Value} {Z : State} (hw : ∀ d ∈ tables_1, d.before a0 Z = true) : (Jvm.Cond.instanceMethod ({ cls := "com/example/framewire/framewire/rfb/Tiles", name := "done", desc := "()Z" } : Jvm.MethodName)).before a0 Z = true := hw _ (List.mem_of_getElem? (i := 44) rfl)
theorem wd_45 {a0 : Array Value} {Z : State} (hw : ∀ d ∈ tables_1, d.before a0 Z = true) : (Jvm.Cond.selects "com/example/framewire/framewire/rfb/Tiles" ({ cls := "com/example/framewire/framewire/rfb/Tiles", name := "done", desc := "()Z" } : Jvm.MethodName) ({ cls := "com/example/framewire/framewire/rfb/Tiles", name := "done", desc := "()Z" } : Jvm.MethodName)).before a0 Z = true := hw _ (List.mem_of_getElem? (i := 45) rfl)
theorem wd_46 {a0 : Array Value} {Z : State} (hw : ∀ d ∈ tables_1, d.before a0 Z = true) : (Jvm.Cond.code ({ cls := "com/example/framewire/framewire/rfb/Tiles", name := "done", desc := "()Z" } : Jvm.MethodName) prog_102_method_3_code (1 : Nat) (Option.some Jvm.ClassFile.FieldType.boolean)).before a0 Z = true := hw _ (List.mem_of_getElem? (i := 46) rfl)
theorem D0_0 : In code 0 1 (.iconst 1) 1 := ⟨at_0, rfl⟩
theorem D0_1 : In code 1 1 (.iload_n 0) 2 := ⟨at_1, rfl⟩
theorem D0_2 : In code 2 2 (.ldc 7) 4 := ⟨at_2, rfl⟩
theorem D0_4 : In code 4 1 (.iand) 5 := ⟨at_4, rfl⟩
theorem D0_5 : In code 5 1 (.iadd) 6 := ⟨at_5, rfl⟩
theorem D0_6 : In code 6 2 (.istore 6) 8 := ⟨at_6, rfl⟩
theorem D0_8 : In code 8 1 (.iload_n 1) 9 := ⟨at_8, rfl⟩
theorem D0_9 : In code 9 2 (.ldc 7) 11 := ⟨at_9, rfl⟩
theorem D0_11 : In code 11 1 (.iand) 12 := ⟨at_11, rfl⟩
theorem D0_12 : In code 12 2 (.istore 7) 14 := ⟨at_12, rfl⟩
theorem D0_14 : In code 14 1 (.iload_n 2) 15 := ⟨at_14, rfl⟩
theorem D0_15 : In code 15 2 (.ldc 7) 17 := ⟨at_15, rfl⟩
theorem D0_17 : In code 17 1 (.iand) 18 := ⟨at_17, rfl⟩
theorem D0_18 : In code 18 2 (.istore 8) 20 := ⟨at_18, rfl⟩
theorem D0_20 : In code 20 1 (.iload_n 3) 21 := ⟨at_20, rfl⟩
theorem D0_21 : In code 21 2 (.ldc 7) 23 := ⟨at_21, rfl⟩
theorem D0_23 : In code 23 1 (.iand) 24 := ⟨at_23, rfl⟩
theorem D0_24 : In code 24 2 (.istore 9) 26 := ⟨at_24, rfl⟩
theorem D0_26 : In code 26 2 (.iload 4) 28 := ⟨at_26, rfl⟩
theorem D0_28 : In code 28 2 (.ldc 7) 30 := ⟨at_28, rfl⟩
theorem D0_30 : In code 30 1 (.iand) 31 := ⟨at_30, rfl⟩
theorem D0_31 : In code 31 2 (.istore 10) 33 := ⟨at_31, rfl⟩
theorem D0_33 : In code 33 1 (.iconst 1) 34 := ⟨at_33, rfl⟩
theorem D0_34 : In code 34 2 (.iload 5) 36 := ⟨at_34, rfl⟩
theorem D0_36 : In code 36 1 (.iconst 3) 37 := ⟨at_36, rfl⟩
theorem D0_37 : In code 37 1 (.iand) 38 := ⟨at_37, rfl⟩
theorem D0_38 : In code 38 1 (.iadd) 39 := ⟨at_38, rfl⟩
theorem D0_39 : In code 39 2 (.istore 11) 41 := ⟨at_39, rfl⟩
theorem D0_41 : In code 41 3 (.new 8) 44 := ⟨at_41, rfl⟩
theorem D0_44 : In code 44 1 (.dup) 45 := ⟨at_44, rfl⟩
theorem D0_45 : In code 45 2 (.iload 6) 47 := ⟨at_45, rfl⟩
theorem D0_47 : In code 47 3 (.invokespecial 10) 50 := ⟨at_47, rfl⟩
theorem D0_50 : In code 50 2 (.astore 12) 52 := ⟨at_50, rfl⟩
theorem D0_52 : In code 52 2 (.aload 12) 54 := ⟨at_52, rfl⟩
theorem D0_54 : In code 54 2 (.iload 7) 56 := ⟨at_54, rfl⟩
theorem D0_56 : In code 56 2 (.iload 8) 58 := ⟨at_56, rfl⟩
theorem D0_58 : In code 58 2 (.iload 9) 60 := ⟨at_58, rfl⟩
theorem D0_60 : In code 60 2 (.iload 10) 62 := ⟨at_60, rfl⟩
theorem D0_62 : In code 62 3 (.invokevirtual 13) 65 := ⟨at_62, rfl⟩
theorem D0_65 : In code 65 2 (.aload 12) 67 := ⟨at_65, rfl⟩
theorem D0_67 : In code 67 3 (.invokevirtual 17) 70 := ⟨at_67, rfl⟩
theorem D0_70 : In code 70 2 (.iload 11) 72 := ⟨at_70, rfl⟩
theorem D0_72 : In code 72 1 (.iconst 2) 73 := ⟨at_72, rfl⟩
theorem D0_73 : Jm code 73 (.if_icmp .lt) 76 81 := ⟨8, at_73, rfl, by decide, by decide⟩
theorem D0_76 : In code 76 2 (.aload 12) 78 := ⟨at_76, rfl⟩
theorem D0_78 : In code 78 3 (.invokevirtual 17) 81 := ⟨at_78, rfl⟩
theorem D0_81 : In code 81 2 (.iload 11) 83 := ⟨at_81, rfl⟩
theorem D0_83 : In code 83 1 (.iconst 3) 84 := ⟨at_83, rfl⟩
theorem D0_84 : Jm code 84 (.if_icmp .lt) 87 92 := ⟨8, at_84, rfl, by decide, by decide⟩
theorem D0_87 : In code 87 2 (.aload 12) 89 := ⟨at_87, rfl⟩
theorem D0_89 : In code 89 3 (.invokevirtual 17) 92 := ⟨at_89, rfl⟩
theorem D0_92 : In code 92 2 (.iload 11) 94 := ⟨at_92, rfl⟩
theorem D0_94 : In code 94 1 (.iconst 4) 95 := ⟨at_94, rfl⟩
theorem D0_95 : Jm code 95 (.if_icmp .lt) 98 103 := ⟨8, at_95, rfl, by decide, by decide⟩
theorem D0_98 : In code 98 2 (.aload 12) 100 := ⟨at_98, rfl⟩
theorem D0_100 : In code 100 3 (.invokevirtual 17) 103 := ⟨at_100, rfl⟩
theorem D0_103 : In code 103 2 (.iload 9) 105 := ⟨at_103, rfl⟩
theorem D0_105 : Jm code 105 (.ifCond .ne) 108 114 := ⟨9, at_105, rfl, by decide, by decide⟩
theorem D0_108 : In code 108 2 (.aload 12) 110 := ⟨at_108, rfl⟩
theorem D0_110 : In code 110 3 (.invokevirtual 20) 113 := ⟨at_110, rfl⟩
theorem D0_113 : In code 113 1 (.ireturn) 114 := ⟨at_113, rfl⟩
theorem D0_114 : In code 114 2 (.iload 9) 116 := ⟨at_114, rfl⟩
theorem D0_116 : In code 116 2 (.iload 6) 118 := ⟨at_116, rfl⟩
theorem D0_118 : In code 118 1 (.iadd) 119 := ⟨at_118, rfl⟩
theorem D0_119 : In code 119 1 (.iconst 1) 120 := ⟨at_119, rfl⟩
theorem D0_120 : In code 120 1 (.isub) 121 := ⟨at_120, rfl⟩
theorem D0_121 : In code 121 2 (.iload 6) 123 := ⟨at_121, rfl⟩
theorem D0_123 : In code 123 1 (.idiv) 124 := ⟨at_123, rfl⟩
theorem D0_124 : In code 124 2 (.istore 13) 126 := ⟨at_124, rfl⟩
theorem D0_126 : In code 126 2 (.iload 10) 128 := ⟨at_126, rfl⟩
theorem D0_128 : In code 128 2 (.iload 6) 130 := ⟨at_128, rfl⟩
theorem D0_130 : In code 130 1 (.iadd) 131 := ⟨at_130, rfl⟩
theorem D0_131 : In code 131 1 (.iconst 1) 132 := ⟨at_131, rfl⟩
theorem D0_132 : In code 132 1 (.isub) 133 := ⟨at_132, rfl⟩
theorem D0_133 : In code 133 2 (.iload 6) 135 := ⟨at_133, rfl⟩
theorem D0_135 : In code 135 1 (.idiv) 136 := ⟨at_135, rfl⟩
theorem D0_136 : In code 136 2 (.istore 14) 138 := ⟨at_136, rfl⟩
theorem D0_138 : In code 138 2 (.iload 7) 140 := ⟨at_138, rfl⟩
theorem D0_140 : In code 140 2 (.iload 11) 142 := ⟨at_140, rfl⟩
theorem D0_142 : In code 142 2 (.iload 13) 144 := ⟨at_142, rfl⟩
theorem D0_144 : In code 144 1 (.irem) 145 := ⟨at_144, rfl⟩
theorem D0_145 : In code 145 2 (.iload 6) 147 := ⟨at_145, rfl⟩
theorem D0_147 : In code 147 1 (.imul) 148 := ⟨at_147, rfl⟩
theorem D0_148 : In code 148 1 (.iadd) 149 := ⟨at_148, rfl⟩
theorem D0_149 : In code 149 2 (.istore 15) 151 := ⟨at_149, rfl⟩
theorem D0_151 : In code 151 2 (.iload 8) 153 := ⟨at_151, rfl⟩
theorem D0_153 : In code 153 2 (.iload 11) 155 := ⟨at_153, rfl⟩
theorem D0_155 : In code 155 2 (.iload 13) 157 := ⟨at_155, rfl⟩
theorem D0_157 : In code 157 1 (.idiv) 158 := ⟨at_157, rfl⟩
theorem D0_158 : In code 158 2 (.iload 6) 160 := ⟨at_158, rfl⟩
theorem D0_160 : In code 160 1 (.imul) 161 := ⟨at_160, rfl⟩
theorem D0_161 : In code 161 1 (.iadd) 162 := ⟨at_161, rfl⟩
theorem D0_162 : In code 162 2 (.istore 16) 164 := ⟨at_162, rfl⟩
theorem D0_164 : In code 164 2 (.iload 11) 166 := ⟨at_164, rfl⟩
theorem D0_166 : In code 166 1 (.i2l) 167 := ⟨at_166, rfl⟩
theorem D0_167 : In code 167 2 (.iload 13) 169 := ⟨at_167, rfl⟩
theorem D0_169 : In code 169 1 (.i2l) 170 := ⟨at_169, rfl⟩
theorem D0_170 : In code 170 2 (.iload 14) 172 := ⟨at_170, rfl⟩
theorem D0_172 : In code 172 1 (.i2l) 173 := ⟨at_172, rfl⟩
theorem D0_173 : In code 173 1 (.lmul) 174 := ⟨at_173, rfl⟩
theorem D0_174 : In code 174 1 (.lcmp) 175 := ⟨at_174, rfl⟩
theorem D0_175 : Jm code 175 (.ifCond .lt) 178 182 := ⟨7, at_175, rfl, by decide, by decide⟩
theorem D0_178 : In code 178 1 (.iconst 1) 179 := ⟨at_178, rfl⟩
theorem D0_179 : Jm code 179 .goto 182 183 := ⟨4, at_179, rfl, by decide, by decide⟩
theorem D0_182 : In code 182 1 (.iconst 0) 183 := ⟨at_182, rfl⟩
theorem D0_183 : In code 183 2 (.istore 17) 185 := ⟨at_183, rfl⟩
theorem D0_185 : In code 185 2 (.aload 12) 187 := ⟨at_185, rfl⟩
theorem D0_187 : In code 187 3 (.invokevirtual 24) 190 := ⟨at_187, rfl⟩
theorem D0_190 : In code 190 2 (.iload 15) 192 := ⟨at_190, rfl⟩
theorem D0_192 : Jm code 192 (.if_icmp .ne) 195 219 := ⟨27, at_192, rfl, by decide, by decide⟩
theorem D0_195 : In code 195 2 (.aload 12) 197 := ⟨at_195, rfl⟩
theorem D0_197 : In code 197 3 (.invokevirtual 28) 200 := ⟨at_197, rfl⟩
theorem D0_200 : In code 200 2 (.iload 16) 202 := ⟨at_200, rfl⟩
theorem D0_202 : Jm code 202 (.if_icmp .ne) 205 219 := ⟨17, at_202, rfl, by decide, by decide⟩
theorem D0_205 : In code 205 2 (.aload 12) 207 := ⟨at_205, rfl⟩
theorem D0_207 : In code 207 3 (.invokevirtual 20) 210 := ⟨at_207, rfl⟩
theorem D0_210 : In code 210 2 (.iload 17) 212 := ⟨at_210, rfl⟩
theorem D0_212 : Jm code 212 (.if_icmp .ne) 215 219 := ⟨7, at_212, rfl, by decide, by decide⟩
theorem D0_215 : In code 215 1 (.iconst 1) 216 := ⟨at_215, rfl⟩
theorem D0_216 : Jm code 216 .goto 219 220 := ⟨4, at_216, rfl, by decide, by decide⟩
theorem D0_220 : In code 220 1 (.ireturn) 221 := ⟨at_220, rfl⟩
theorem D1_0 : In prog_102_method_1_code 0 1 (.aload_n 0) 1 := ⟨by decide +kernel, rfl⟩
theorem D1_1 : In prog_102_method_1_code 1 3 (.invokespecial 1) 4 := ⟨by decide +kernel, rfl⟩
theorem D1_4 : In prog_102_method_1_code 4 1 (.aload_n 0) 5 := ⟨by decide +kernel, rfl⟩
theorem D1_5 : In prog_102_method_1_code 5 1 (.iload_n 1) 6 := ⟨by decide +kernel, rfl⟩
theorem D1_6 : In prog_102_method_1_code 6 3 (.putfield 7) 9 := ⟨by decide +kernel, rfl⟩
theorem D1_9 : In prog_102_method_1_code 9 1 (.return_) 10 := ⟨by decide +kernel, rfl⟩
theorem D3_0 : In prog_102_method_2_code 0 1 (.aload_n 0) 1 := ⟨by decide +kernel, rfl⟩
theorem D3_1 : In prog_102_method_2_code 1 1 (.iload_n 1) 2 := ⟨by decide +kernel, rfl⟩
theorem D3_2 : In prog_102_method_2_code 2 3 (.putfield 13) 5 := ⟨by decide +kernel, rfl⟩
theorem D3_5 : In prog_102_method_2_code 5 1 (.aload_n 0) 6 := ⟨by decide +kernel, rfl⟩
theorem D3_6 : In prog_102_method_2_code 6 1 (.iload_n 1) 7 := ⟨by decide +kernel, rfl⟩
theorem D3_7 : In prog_102_method_2_code 7 1 (.iload_n 3) 8 := ⟨by decide +kernel, rfl⟩
theorem D3_8 : In prog_102_method_2_code 8 1 (.iadd) 9 := ⟨by decide +kernel, rfl⟩
theorem D3_9 : In prog_102_method_2_code 9 3 (.putfield 16) 12 := ⟨by decide +kernel, rfl⟩
theorem D3_12 : In prog_102_method_2_code 12 1 (.aload_n 0) 13 := ⟨by decide +kernel, rfl⟩
theorem D3_13 : In prog_102_method_2_code 13 1 (.iload_n 2) 14 := ⟨by decide +kernel, rfl⟩
theorem D3_14 : In prog_102_method_2_code 14 2 (.iload 4) 16 := ⟨by decide +kernel, rfl⟩
theorem D3_16 : In prog_102_method_2_code 16 1 (.iadd) 17 := ⟨by decide +kernel, rfl⟩
theorem D3_17 : In prog_102_method_2_code 17 3 (.putfield 19) 20 := ⟨by decide +kernel, rfl⟩
theorem D3_20 : In prog_102_method_2_code 20 1 (.aload_n 0) 21 := ⟨by decide +kernel, rfl⟩
theorem D3_21 : In prog_102_method_2_code 21 1 (.iload_n 1) 22 := ⟨by decide +kernel, rfl⟩
theorem D3_22 : In prog_102_method_2_code 22 3 (.putfield 22) 25 := ⟨by decide +kernel, rfl⟩
theorem D3_25 : In prog_102_method_2_code 25 1 (.aload_n 0) 26 := ⟨by decide +kernel, rfl⟩
theorem D3_26 : In prog_102_method_2_code 26 1 (.iload_n 3) 27 := ⟨by decide +kernel, rfl⟩
theorem D3_27 : Jm prog_102_method_2_code 27 (.ifCond .ne) 30 37 := ⟨10, by decide +kernel, rfl, by decide, by decide⟩
theorem D3_30 : In prog_102_method_2_code 30 1 (.aload_n 0) 31 := ⟨by decide +kernel, rfl⟩
theorem D3_31 : In prog_102_method_2_code 31 3 (.getfield 19) 34 := ⟨by decide +kernel, rfl⟩
theorem D3_34 : Jm prog_102_method_2_code 34 .goto 37 38 := ⟨4, by decide +kernel, rfl, by decide, by decide⟩
theorem D3_37 : In prog_102_method_2_code 37 1 (.iload_n 2) 38 := ⟨by decide +kernel, rfl⟩
theorem D3_38 : In prog_102_method_2_code 38 3 (.putfield 25) 41 := ⟨by decide +kernel, rfl⟩
theorem D3_41 : In prog_102_method_2_code 41 1 (.return_) 42 := ⟨by decide +kernel, rfl⟩
theorem D4_0 : In prog_102_method_4_code 0 1 (.aload_n 0) 1 := ⟨by decide +kernel, rfl⟩
theorem D4_1 : In prog_102_method_4_code 1 1 (.dup) 2 := ⟨by decide +kernel, rfl⟩
theorem D4_2 : In prog_102_method_4_code 2 3 (.getfield 22) 5 := ⟨by decide +kernel, rfl⟩
theorem D4_5 : In prog_102_method_4_code 5 1 (.aload_n 0) 6 := ⟨by decide +kernel, rfl⟩
theorem D4_6 : In prog_102_method_4_code 6 3 (.getfield 7) 9 := ⟨by decide +kernel, rfl⟩
theorem D4_9 : In prog_102_method_4_code 9 1 (.iadd) 10 := ⟨by decide +kernel, rfl⟩
theorem D4_10 : In prog_102_method_4_code 10 3 (.putfield 22) 13 := ⟨by decide +kernel, rfl⟩
theorem D4_13 : In prog_102_method_4_code 13 1 (.aload_n 0) 14 := ⟨by decide +kernel, rfl⟩
theorem D4_14 : In prog_102_method_4_code 14 3 (.getfield 22) 17 := ⟨by decide +kernel, rfl⟩
theorem D4_17 : In prog_102_method_4_code 17 1 (.aload_n 0) 18 := ⟨by decide +kernel, rfl⟩
theorem D4_18 : In prog_102_method_4_code 18 3 (.getfield 16) 21 := ⟨by decide +kernel, rfl⟩
theorem D4_21 : Jm prog_102_method_4_code 21 (.if_icmp .lt) 24 45 := ⟨24, by decide +kernel, rfl, by decide, by decide⟩
theorem D4_24 : In prog_102_method_4_code 24 1 (.aload_n 0) 25 := ⟨by decide +kernel, rfl⟩
theorem D4_25 : In prog_102_method_4_code 25 1 (.aload_n 0) 26 := ⟨by decide +kernel, rfl⟩
theorem D4_26 : In prog_102_method_4_code 26 3 (.getfield 13) 29 := ⟨by decide +kernel, rfl⟩
theorem D4_29 : In prog_102_method_4_code 29 3 (.putfield 22) 32 := ⟨by decide +kernel, rfl⟩
theorem D4_32 : In prog_102_method_4_code 32 1 (.aload_n 0) 33 := ⟨by decide +kernel, rfl⟩
theorem D4_33 : In prog_102_method_4_code 33 1 (.dup) 34 := ⟨by decide +kernel, rfl⟩
theorem D4_34 : In prog_102_method_4_code 34 3 (.getfield 25) 37 := ⟨by decide +kernel, rfl⟩
theorem D4_37 : In prog_102_method_4_code 37 1 (.aload_n 0) 38 := ⟨by decide +kernel, rfl⟩
theorem D4_38 : In prog_102_method_4_code 38 3 (.getfield 7) 41 := ⟨by decide +kernel, rfl⟩
theorem D4_41 : In prog_102_method_4_code 41 1 (.iadd) 42 := ⟨by decide +kernel, rfl⟩
theorem D4_42 : In prog_102_method_4_code 42 3 (.putfield 25) 45 := ⟨by decide +kernel, rfl⟩
theorem D4_45 : In prog_102_method_4_code 45 1 (.return_) 46 := ⟨by decide +kernel, rfl⟩
theorem D5_0 : In prog_102_method_5_code 0 1 (.aload_n 0) 1 := ⟨by decide +kernel, rfl⟩
theorem D5_1 : In prog_102_method_5_code 1 3 (.getfield 22) 4 := ⟨by decide +kernel, rfl⟩
theorem D5_4 : In prog_102_method_5_code 4 1 (.ireturn) 5 := ⟨by decide +kernel, rfl⟩
theorem D6_0 : In prog_102_method_6_code 0 1 (.aload_n 0) 1 := ⟨by decide +kernel, rfl⟩
theorem D6_1 : In prog_102_method_6_code 1 3 (.getfield 25) 4 := ⟨by decide +kernel, rfl⟩
theorem D6_4 : In prog_102_method_6_code 4 1 (.ireturn) 5 := ⟨by decide +kernel, rfl⟩
theorem D7_0 : In prog_102_method_3_code 0 1 (.aload_n 0) 1 := ⟨by decide +kernel, rfl⟩
theorem D7_1 : In prog_102_method_3_code 1 3 (.getfield 25) 4 := ⟨by decide +kernel, rfl⟩
theorem D7_4 : In prog_102_method_3_code 4 1 (.aload_n 0) 5 := ⟨by decide +kernel, rfl⟩
theorem D7_5 : In prog_102_method_3_code 5 3 (.getfield 19) 8 := ⟨by decide +kernel, rfl⟩
theorem D7_8 : Jm prog_102_method_3_code 8 (.if_icmp .lt) 11 15 := ⟨7, by decide +kernel, rfl, by decide, by decide⟩
theorem D7_11 : In prog_102_method_3_code 11 1 (.iconst 1) 12 := ⟨by decide +kernel, rfl⟩
theorem D7_12 : Jm prog_102_method_3_code 12 .goto 15 16 := ⟨4, by decide +kernel, rfl, by decide, by decide⟩
theorem D7_15 : In prog_102_method_3_code 15 1 (.iconst 0) 16 := ⟨by decide +kernel, rfl⟩
theorem D7_16 : In prog_102_method_3_code 16 1 (.ireturn) 17 := ⟨by decide +kernel, rfl⟩
theorem pd_0 : parseMethodDescriptor "(I)V" = some ⟨[.int], none⟩ := by decide +kernel
theorem pd_1 : parseMethodDescriptor "(IIII)V" = some ⟨[.int, .int, .int, .int], none⟩ := by decide +kernel
theorem pd_2 : parseMethodDescriptor "()V" = some ⟨[], none⟩ := by decide +kernel
theorem pd_3 : parseMethodDescriptor "()Z" = some ⟨[], some .boolean⟩ := by decide +kernel
theorem pd_4 : parseMethodDescriptor "()I" = some ⟨[], some .int⟩ := by decide +kernel
theorem pn_0 : plainName "com/example/framewire/framewire/rfb/Tiles" = true := by first | (simp [plainName, overriddenIn]; done) | decide +kernel
theorem pn_1 : plainName "com/example/framewire/framewire/rfb/TilesNextPinLaw" = true := by first | (simp [plainName, overriddenIn]; done) | decide +kernel
def RT (Z : State) (h : Heap) (a : Addr) (f0 : Int32) (f1 : Int32) (f2 : Int32) (f3 : Int32) (f4 : Int32) (f5 : Int32) : Prop := Exa Z h a "com/example/framewire/framewire/rfb/Tiles" ∧ Fld Z h a "com/example/framewire/framewire/rfb/Tiles" "size" "I" (.int f0) ∧ Fld Z h a "com/example/framewire/framewire/rfb/Tiles" "left" "I" (.int f1) ∧ Fld Z h a "com/example/framewire/framewire/rfb/Tiles" "right" "I" (.int f2) ∧ Fld Z h a "com/example/framewire/framewire/rfb/Tiles" "bottom" "I" (.int f3) ∧ Fld Z h a "com/example/framewire/framewire/rfb/Tiles" "x" "I" (.int f4) ∧ Fld Z h a "com/example/framewire/framewire/rfb/Tiles" "y" "I" (.int f5)
theorem RT.lt {Z : State} {h : Heap} {a : Addr} {f0 : Int32} {f1 : Int32} {f2 : Int32} {f3 : Int32} {f4 : Int32} {f5 : Int32} (H : RT Z h a f0 f1 f2 f3 f4 f5) : a < h.size := H.1.lt
theorem RT.ext {Z : State} {h h' : Heap} {a : Addr} {f0 : Int32} {f1 : Int32} {f2 : Int32} {f3 : Int32} {f4 : Int32} {f5 : Int32} (H : RT Z h a f0 f1 f2 f3 f4 f5) (E : Ext h h') : RT Z h' a f0 f1 f2 f3 f4 f5 := ⟨H.1.ext E, H.2.1.ext E, H.2.2.1.ext E, H.2.2.2.1.ext E, H.2.2.2.2.1.ext E, H.2.2.2.2.2.1.ext E, H.2.2.2.2.2.2.ext E⟩
theorem RT.keep {Z : State} {h h' : Heap} {a : Addr} {f0 : Int32} {f1 : Int32} {f2 : Int32} {f3 : Int32} {f4 : Int32} {f5 : Int32} {ws : List Addr} (H : RT Z h a f0 f1 f2 f3 f4 f5) (K : Keep h h' ws) (q : a ∉ ws) : RT Z h' a f0 f1 f2 f3 f4 f5 := ⟨H.1.keep K, H.2.1.keep K q, H.2.2.1.keep K q, H.2.2.2.1.keep K q, H.2.2.2.2.1.keep K q, H.2.2.2.2.2.1.keep K q, H.2.2.2.2.2.2.keep K q⟩
theorem RT.other {Z : State} {h h' : Heap} {a : Addr} {f0 : Int32} {f1 : Int32} {f2 : Int32} {f3 : Int32} {f4 : Int32} {f5 : Int32} {b : Addr} {sl : Nat} {v : Value} (H : RT Z h a f0 f1 f2 f3 f4 f5) (W : Wr h h' b sl v) (q : a ≠ b) : RT Z h' a f0 f1 f2 f3 f4 f5 := ⟨H.1.wr W, H.2.1.other W (Or.inl q), H.2.2.1.other W (Or.inl q), H.2.2.2.1.other W (Or.inl q), H.2.2.2.2.1.other W (Or.inl q), H.2.2.2.2.2.1.other W (Or.inl q), H.2.2.2.2.2.2.other W (Or.inl q)⟩
theorem RT.set_size {Z : State} {h h' : Heap} {a : Addr} {f0 : Int32} {f1 : Int32} {f2 : Int32} {f3 : Int32} {f4 : Int32} {f5 : Int32} {a0 : Array Value} (hw : ∀ d ∈ tables_1, d.before a0 Z = true) {g : Int32} (H : RT Z h a f0 f1 f2 f3 f4 f5) (W : Wr h h' a (Jvm.RoadKit.slotOf Z "com/example/framewire/framewire/rfb/Tiles" "size" "I") (.int g)) : RT Z h' a g f1 f2 f3 f4 f5 := ⟨H.1.wr W, H.2.1.same W, H.2.2.1.other W (Or.inr (slot_ne (Or.inl (wd_18 hw)) (Or.inr (wd_11 hw)) (by decide) (t := .int) (t' := .int) (by decide) (by decide))), H.2.2.2.1.other W (Or.inr (slot_ne (Or.inl (wd_20 hw)) (Or.inr (wd_11 hw)) (by decide) (t := .int) (t' := .int) (by decide) (by decide))), H.2.2.2.2.1.other W (Or.inr (slot_ne (Or.inl (wd_22 hw)) (Or.inr (wd_11 hw)) (by decide) (t := .int) (t' := .int) (by decide) (by decide))), H.2.2.2.2.2.1.other W (Or.inr (slot_ne (Or.inl (wd_24 hw)) (Or.inr (wd_11 hw)) (by decide) (t := .int) (t' := .int) (by decide) (by decide))), H.2.2.2.2.2.2.other W (Or.inr (slot_ne (Or.inl (wd_26 hw)) (Or.inr (wd_11 hw)) (by decide) (t := .int) (t' := .int) (by decide) (by decide)))⟩
theorem RT.set_left {Z : State} {h h' : Heap} {a : Addr} {f0 : Int32} {f1 : Int32} {f2 : Int32} {f3 : Int32} {f4 : Int32} {f5 : Int32} {a0 : Array Value} (hw : ∀ d ∈ tables_1, d.before a0 Z = true) {g : Int32} (H : RT Z h a f0 f1 f2 f3 f4 f5) (W : Wr h h' a (Jvm.RoadKit.slotOf Z "com/example/framewire/framewire/rfb/Tiles" "left" "I") (.int g)) : RT Z h' a f0 g f2 f3 f4 f5 := ⟨H.1.wr W, H.2.1.other W (Or.inr (slot_ne (Or.inr (wd_11 hw)) (Or.inl (wd_18 hw)) (by decide) (t := .int) (t' := .int) (by decide) (by decide))), H.2.2.1.same W, H.2.2.2.1.other W (Or.inr (slot_ne (Or.inl (wd_20 hw)) (Or.inl (wd_18 hw)) (by decide) (t := .int) (t' := .int) (by decide) (by decide))), H.2.2.2.2.1.other W (Or.inr (slot_ne (Or.inl (wd_22 hw)) (Or.inl (wd_18 hw)) (by decide) (t := .int) (t' := .int) (by decide) (by decide))), H.2.2.2.2.2.1.other W (Or.inr (slot_ne (Or.inl (wd_24 hw)) (Or.inl (wd_18 hw)) (by decide) (t := .int) (t' := .int) (by decide) (by decide))), H.2.2.2.2.2.2.other W (Or.inr (slot_ne (Or.inl (wd_26 hw)) (Or.inl (wd_18 hw)) (by decide) (t := .int) (t' := .int) (by decide) (by decide)))⟩
theorem RT.set_right {Z : State} {h h' : Heap} {a : Addr} {f0 : Int32} {f1 : Int32} {f2 : Int32} {f3 : Int32} {f4 : Int32} {f5 : Int32} {a0 : Array Value} (hw : ∀ d ∈ tables_1, d.before a0 Z = true) {g : Int32} (H : RT Z h a f0 f1 f2 f3 f4 f5) (W : Wr h h' a (Jvm.RoadKit.slotOf Z "com/example/framewire/framewire/rfb/Tiles" "right" "I") (.int g)) : RT Z h' a f0 f1 g f3 f4 f5 := ⟨H.1.wr W, H.2.1.other W (Or.inr (slot_ne (Or.inr (wd_11 hw)) (Or.inl (wd_20 hw)) (by decide) (t := .int) (t' := .int) (by decide) (by decide))), H.2.2.1.other W (Or.inr (slot_ne (Or.inl (wd_18 hw)) (Or.inl (wd_20 hw)) (by decide) (t := .int) (t' := .int) (by decide) (by decide))), H.2.2.2.1.same W, H.2.2.2.2.1.other W (Or.inr (slot_ne (Or.inl (wd_22 hw)) (Or.inl (wd_20 hw)) (by decide) (t := .int) (t' := .int) (by decide) (by decide))), H.2.2.2.2.2.1.other W (Or.inr (slot_ne (Or.inl (wd_24 hw)) (Or.inl (wd_20 hw)) (by decide) (t := .int) (t' := .int) (by decide) (by decide))), H.2.2.2.2.2.2.other W (Or.inr (slot_ne (Or.inl (wd_26 hw)) (Or.inl (wd_20 hw)) (by decide) (t := .int) (t' := .int) (by decide) (by decide)))⟩
theorem RT.set_bottom {Z : State} {h h' : Heap} {a : Addr} {f0 : Int32} {f1 : Int32} {f2 : Int32} {f3 : Int32} {f4 : Int32} {f5 : Int32} {a0 : Array Value} (hw : ∀ d ∈ tables_1, d.before a0 Z = true) {g : Int32} (H : RT Z h a f0 f1 f2 f3 f4 f5) (W : Wr h h' a (Jvm.RoadKit.slotOf Z "com/example/framewire/framewire/rfb/Tiles" "bottom" "I") (.int g)) : RT Z h' a f0 f1 f2 g f4 f5 := ⟨H.1.wr W, H.2.1.other W (Or.inr (slot_ne (Or.inr (wd_11 hw)) (Or.inl (wd_22 hw)) (by decide) (t := .int) (t' := .int) (by decide) (by decide))), H.2.2.1.other W (Or.inr (slot_ne (Or.inl (wd_18 hw)) (Or.inl (wd_22 hw)) (by decide) (t := .int) (t' := .int) (by decide) (by decide))), H.2.2.2.1.other W (Or.inr (slot_ne (Or.inl (wd_20 hw)) (Or.inl (wd_22 hw)) (by decide) (t := .int) (t' := .int) (by decide) (by decide))), H.2.2.2.2.1.same W, H.2.2.2.2.2.1.other W (Or.inr (slot_ne (Or.inl (wd_24 hw)) (Or.inl (wd_22 hw)) (by decide) (t := .int) (t' := .int) (by decide) (by decide))), H.2.2.2.2.2.2.other W (Or.inr (slot_ne (Or.inl (wd_26 hw)) (Or.inl (wd_22 hw)) (by decide) (t := .int) (t' := .int) (by decide) (by decide)))⟩
theorem RT.set_x {Z : State} {h h' : Heap} {a : Addr} {f0 : Int32} {f1 : Int32} {f2 : Int32} {f3 : Int32} {f4 : Int32} {f5 : Int32} {a0 : Array Value} (hw : ∀ d ∈ tables_1, d.before a0 Z = true) {g : Int32} (H : RT Z h a f0 f1 f2 f3 f4 f5) (W : Wr h h' a (Jvm.RoadKit.slotOf Z "com/example/framewire/framewire/rfb/Tiles" "x" "I") (.int g)) : RT Z h' a f0 f1 f2 f3 g f5 := ⟨H.1.wr W, H.2.1.other W (Or.inr (slot_ne (Or.inr (wd_11 hw)) (Or.inl (wd_24 hw)) (by decide) (t := .int) (t' := .int) (by decide) (by decide))), H.2.2.1.other W (Or.inr (slot_ne (Or.inl (wd_18 hw)) (Or.inl (wd_24 hw)) (by decide) (t := .int) (t' := .int) (by decide) (by decide))), H.2.2.2.1.other W (Or.inr (slot_ne (Or.inl (wd_20 hw)) (Or.inl (wd_24 hw)) (by decide) (t := .int) (t' := .int) (by decide) (by decide))), H.2.2.2.2.1.other W (Or.inr (slot_ne (Or.inl (wd_22 hw)) (Or.inl (wd_24 hw)) (by decide) (t := .int) (t' := .int) (by decide) (by decide))), H.2.2.2.2.2.1.same W, H.2.2.2.2.2.2.other W (Or.inr (slot_ne (Or.inl (wd_26 hw)) (Or.inl (wd_24 hw)) (by decide) (t := .int) (t' := .int) (by decide) (by decide)))⟩
theorem RT.set_y {Z : State} {h h' : Heap} {a : Addr} {f0 : Int32} {f1 : Int32} {f2 : Int32} {f3 : Int32} {f4 : Int32} {f5 : Int32} {a0 : Array Value} (hw : ∀ d ∈ tables_1, d.before a0 Z = true) {g : Int32} (H : RT Z h a f0 f1 f2 f3 f4 f5) (W : Wr h h' a (Jvm.RoadKit.slotOf Z "com/example/framewire/framewire/rfb/Tiles" "y" "I") (.int g)) : RT Z h' a f0 f1 f2 f3 f4 g := ⟨H.1.wr W, H.2.1.other W (Or.inr (slot_ne (Or.inr (wd_11 hw)) (Or.inl (wd_26 hw)) (by decide) (t := .int) (t' := .int) (by decide) (by decide))), H.2.2.1.other W (Or.inr (slot_ne (Or.inl (wd_18 hw)) (Or.inl (wd_26 hw)) (by decide) (t := .int) (t' := .int) (by decide) (by decide))), H.2.2.2.1.other W (Or.inr (slot_ne (Or.inl (wd_20 hw)) (Or.inl (wd_26 hw)) (by decide) (t := .int) (t' := .int) (by decide) (by decide))), H.2.2.2.2.1.other W (Or.inr (slot_ne (Or.inl (wd_22 hw)) (Or.inl (wd_26 hw)) (by decide) (t := .int) (t' := .int) (by decide) (by decide))), H.2.2.2.2.2.1.other W (Or.inr (slot_ne (Or.inl (wd_24 hw)) (Or.inl (wd_26 hw)) (by decide) (t := .int) (t' := .int) (by decide) (by decide))), H.2.2.2.2.2.2.same W⟩
set_option maxRecDepth 65536 in
set_option maxHeartbeats 40000000 in
theorem c_init (l : Launch) {Z : State} {a0 : Array Value} (hw : ∀ d ∈ tables_1, d.before a0 Z = true) (h0 : Heap) (n0 : Nat) (hn0 : n0 ≤ h0.size) (a : Addr) (s0 : Int32) (sz lf rt bt x y : Int32) (ga : n0 ≤ a) (H : RT Z h0 a sz lf rt bt x y) : Con l Z (⟨"com/example/framewire/framewire/rfb/Tiles", "<init>", "(I)V"⟩ : MethodName) prog_102_method_1_code 2 none ({ frames := 1, cells := 0, slots := 0, locals := 12 } : Room) [] #[(.ref a), (.int s0)] h0 n0 (fun v h' => v = none ∧ Keep h0 h' [a] ∧ RT Z h' a s0 lf rt bt x y) := by
  refine con_of (Ls0 := #[.val (.ref a), .val (.int s0)]) (plainFor_of_name pn_0) (fun m => by first | (simp [entryFrame, mkF, argsToLocals, Value.category]; done) | rfl) hn0 ?_
  intro p e s m below meth c C
  refine g_aloadN C D1_0 rfl rfl ?_
  refine g_initO C (wd_7 hw) (wd_8 hw) (wd_9 hw) D1_1 rfl (by decide) 0 (Nat.le_of_eq rfl) (by decide) ?_
  refine g_aloadN C D1_4 rfl rfl ?_
  refine g_iloadN C D1_5 rfl ?_
  refine g_putF C (wd_10 hw) D1_6 H.2.1 H.1 (Or.inr ⟨(wd_11 hw), rfl, rfl⟩) (wd_2 hw) (ty := .int) (v' := (.int s0)) (by decide) rfl rfl ga ?_
  intro h1 W2
  have H3 := RT.set_size hw (g := s0) H W2
  have K4 := (Keep.refl h0 [a]).wr W2 (Or.inl (by simp))
  refine g_ret C D1_9 (by decide) (by decide) ?_
  exact ⟨rfl, K4, H3⟩
set_option maxRecDepth 65536 in
set_option maxHeartbeats 40000000 in
theorem c_start (l : Launch) {Z : State} {a0 : Array Value} (hw : ∀ d ∈ tables_1, d.before a0 Z = true) (h0 : Heap) (n0 : Nat) (hn0 : n0 ≤ h0.size) (a : Addr) (x0 y0 w0 hh ys : Int32) (sz lf rt bt x y : Int32) (ga : n0 ≤ a) (H : RT Z h0 a sz lf rt bt x y) (hs : startR w0 y0 (y0 + hh) ys) : Con l Z (⟨"com/example/framewire/framewire/rfb/Tiles", "start", "(IIII)V"⟩ : MethodName) prog_102_method_2_code 5 none ({ frames := 0, cells := 0, slots := 0, locals := 0 } : Room) [] #[(.ref a), (.int x0), (.int y0), (.int w0), (.int hh)] h0 n0 (fun v h' => v = none ∧ Keep h0 h' [a] ∧ RT Z h' a sz x0 (x0 + w0) (y0 + hh) x0 ys) := by
  refine con_of (Ls0 := #[.val (.ref a), .val (.int x0), .val (.int y0), .val (.int w0), .val (.int hh)]) (plainFor_of_name pn_0) (fun m => by first | (simp [entryFrame, mkF, argsToLocals, Value.category]; done) | rfl) hn0 ?_
  intro p e s m below meth c C
  refine g_aloadN C D3_0 rfl rfl ?_
  refine g_iloadN C D3_1 rfl ?_
  refine g_putF C (wd_17 hw) D3_2 H.2.2.1 H.1 (Or.inl (wd_18 hw)) (wd_2 hw) (ty := .int) (v' := (.int x0)) (by decide) rfl rfl ga ?_
  intro h1 W2
  have H3 := RT.set_left hw (g := x0) H W2
  have K4 := (Keep.refl h0 [a]).wr W2 (Or.inl (by simp))
  refine g_aloadN C D3_5 rfl rfl ?_
  refine g_iloadN C D3_6 rfl ?_
  refine g_iloadN C D3_7 rfl ?_
  refine g_iadd C D3_8 ?_
  refine g_putF C (wd_19 hw) D3_9 H3.2.2.2.1 H3.1 (Or.inl (wd_20 hw)) (wd_2 hw) (ty := .int) (v' := (.int (x0 + w0))) (by decide) rfl rfl ga ?_
  intro h5 W6
  have H7 := RT.set_right hw (g := (x0 + w0)) H3 W6
  have K8 := K4.wr W6 (Or.inl (by simp))
  refine g_aloadN C D3_12 rfl rfl ?_
  refine g_iloadN C D3_13 rfl ?_
  refine g_iload C D3_14 rfl ?_
  refine g_iadd C D3_16 ?_
  refine g_putF C (wd_21 hw) D3_17 H7.2.2.2.2.1 H7.1 (Or.inl (wd_22 hw)) (wd_2 hw) (ty := .int) (v' := (.int (y0 + hh))) (by decide) rfl rfl ga ?_
  intro h9 W10
  have H11 := RT.set_bottom hw (g := (y0 + hh)) H7 W10
  have K12 := K8.wr W10 (Or.inl (by simp))
  refine g_aloadN C D3_20 rfl rfl ?_
  refine g_iloadN C D3_21 rfl ?_
  refine g_putF C (wd_23 hw) D3_22 H11.2.2.2.2.2.1 H11.1 (Or.inl (wd_24 hw)) (wd_2 hw) (ty := .int) (v' := (.int x0)) (by decide) rfl rfl ga ?_
  intro h13 W14
  have H15 := RT.set_x hw (g := x0) H11 W14
  have K16 := K12.wr W14 (Or.inl (by simp))
  refine g_aloadN C D3_25 rfl rfl ?_
  refine g_iloadN C D3_26 rfl ?_
  refine g_if_ne C D3_27 (fun q17 => ?_) (fun q17 => ?_)
  · refine g_iloadN C D3_37 rfl ?_
    refine g_putF C (wd_25 hw) D3_38 H15.2.2.2.2.2.2 H15.1 (Or.inl (wd_26 hw)) (wd_2 hw) (ty := .int) (v' := (.int y0)) (by decide) rfl rfl ga ?_
    intro h18 W19
    have H20 := RT.set_y hw (g := y0) H15 W19
    have K21 := K16.wr W19 (Or.inl (by simp))
    refine g_ret C D3_41 (by decide) (by decide) ?_
    obtain rfl := startF q17 hs
    exact ⟨rfl, K21, H20⟩
  · refine g_aloadN C D3_30 rfl rfl ?_
    refine g_getF C (wd_21 hw) D3_31 H15.2.2.2.2.1 ?_
    refine g_goto C D3_34 ?_
    refine g_putF C (wd_25 hw) D3_38 H15.2.2.2.2.2.2 H15.1 (Or.inl (wd_26 hw)) (wd_2 hw) (ty := .int) (v' := (.int (y0 + hh))) (by decide) rfl rfl ga ?_
    intro h22 W23
    have H24 := RT.set_y hw (g := (y0 + hh)) H15 W23
    have K25 := K16.wr W23 (Or.inl (by simp))
    refine g_ret C D3_41 (by decide) (by decide) ?_
    obtain rfl := startT q17 hs
    exact ⟨rfl, K25, H24⟩
set_option maxRecDepth 65536 in
set_option maxHeartbeats 40000000 in
theorem c_next (l : Launch) {Z : State} {a0 : Array Value} (hw : ∀ d ∈ tables_1, d.before a0 Z = true) (h0 : Heap) (n0 : Nat) (hn0 : n0 ≤ h0.size) (a : Addr) (x' y' : Int32) (sz lf rt bt x y : Int32) (ga : n0 ≤ a) (H : RT Z h0 a sz lf rt bt x y) (hs : nextR sz lf rt x y x' y') : Con l Z (⟨"com/example/framewire/framewire/rfb/Tiles", "next", "()V"⟩ : MethodName) prog_102_method_4_code 1 none ({ frames := 0, cells := 0, slots := 0, locals := 0 } : Room) [] #[(.ref a)] h0 n0 (fun v h' => v = none ∧ Keep h0 h' [a] ∧ RT Z h' a sz lf rt bt x' y') := by
  refine con_of (Ls0 := #[.val (.ref a)]) (plainFor_of_name pn_0) (fun m => by first | (simp [entryFrame, mkF, argsToLocals, Value.category]; done) | rfl) hn0 ?_
  intro p e s m below meth c C
  refine g_aloadN C D4_0 rfl rfl ?_
  refine g_dup C D4_1 rfl ?_
  refine g_getF C (wd_23 hw) D4_2 H.2.2.2.2.2.1 ?_
  refine g_aloadN C D4_5 rfl rfl ?_
  refine g_getF C (wd_10 hw) D4_6 H.2.1 ?_
  refine g_iadd C D4_9 ?_
  refine g_putF C (wd_23 hw) D4_10 H.2.2.2.2.2.1 H.1 (Or.inl (wd_24 hw)) (wd_2 hw) (ty := .int) (v' := (.int (x + sz))) (by decide) rfl rfl ga ?_
  intro h1 W2
  have H3 := RT.set_x hw (g := (x + sz)) H W2
  have K4 := (Keep.refl h0 [a]).wr W2 (Or.inl (by simp))
  refine g_aloadN C D4_13 rfl rfl ?_
  refine g_getF C (wd_23 hw) D4_14 H3.2.2.2.2.2.1 ?_
  refine g_aloadN C D4_17 rfl rfl ?_
  refine g_getF C (wd_19 hw) D4_18 H3.2.2.2.1 ?_
  refine g_icmp_lt C D4_21 (fun q5 => ?_) (fun q5 => ?_)
  · refine g_ret C D4_45 (by decide) (by decide) ?_
    obtain ⟨rfl, rfl⟩ := nextT q5 hs
    exact ⟨rfl, K4, H3⟩
  · refine g_aloadN C D4_24 rfl rfl ?_
    refine g_aloadN C D4_25 rfl rfl ?_
    refine g_getF C (wd_17 hw) D4_26 H3.2.2.1 ?_
    refine g_putF C (wd_23 hw) D4_29 H3.2.2.2.2.2.1 H3.1 (Or.inl (wd_24 hw)) (wd_2 hw) (ty := .int) (v' := (.int lf)) (by decide) rfl rfl ga ?_
    intro h6 W7
    have H8 := RT.set_x hw (g := lf) H3 W7
    have K9 := K4.wr W7 (Or.inl (by simp))
    refine g_aloadN C D4_32 rfl rfl ?_
    refine g_dup C D4_33 rfl ?_
    refine g_getF C (wd_25 hw) D4_34 H8.2.2.2.2.2.2 ?_
    refine g_aloadN C D4_37 rfl rfl ?_
    refine g_getF C (wd_10 hw) D4_38 H8.2.1 ?_
    refine g_iadd C D4_41 ?_
    refine g_putF C (wd_25 hw) D4_42 H8.2.2.2.2.2.2 H8.1 (Or.inl (wd_26 hw)) (wd_2 hw) (ty := .int) (v' := (.int (y + sz))) (by decide) rfl rfl ga ?_
    intro h10 W11
    have H12 := RT.set_y hw (g := (y + sz)) H8 W11
    have K13 := K9.wr W11 (Or.inl (by simp))
    refine g_ret C D4_45 (by decide) (by decide) ?_
    obtain ⟨rfl, rfl⟩ := nextF q5 hs
    exact ⟨rfl, K13, H12⟩
set_option maxRecDepth 65536 in
set_option maxHeartbeats 40000000 in
theorem c_x (l : Launch) {Z : State} {a0 : Array Value} (hw : ∀ d ∈ tables_1, d.before a0 Z = true) (h0 : Heap) (n0 : Nat) (hn0 : n0 ≤ h0.size) (a : Addr) (sz lf rt bt x y : Int32) (ga : n0 ≤ a) (H : RT Z h0 a sz lf rt bt x y) : Con l Z (⟨"com/example/framewire/framewire/rfb/Tiles", "x", "()I"⟩ : MethodName) prog_102_method_5_code 1 (some .int) ({ frames := 0, cells := 0, slots := 0, locals := 0 } : Room) [] #[(.ref a)] h0 n0 (fun v h' => v = some (.int x) ∧ h0 = h') := by
  refine con_of (Ls0 := #[.val (.ref a)]) (plainFor_of_name pn_0) (fun m => by first | (simp [entryFrame, mkF, argsToLocals, Value.category]; done) | rfl) hn0 ?_
  intro p e s m below meth c C
  refine g_aloadN C D5_0 rfl rfl ?_
  refine g_getF C (wd_23 hw) D5_1 H.2.2.2.2.2.1 ?_
  refine g_retI C D5_4 (by decide) (by decide) ?_
  exact ⟨rfl, rfl⟩
set_option maxRecDepth 65536 in
set_option maxHeartbeats 40000000 in
theorem c_y (l : Launch) {Z : State} {a0 : Array Value} (hw : ∀ d ∈ tables_1, d.before a0 Z = true) (h0 : Heap) (n0 : Nat) (hn0 : n0 ≤ h0.size) (a : Addr) (sz lf rt bt x y : Int32) (ga : n0 ≤ a) (H : RT Z h0 a sz lf rt bt x y) : Con l Z (⟨"com/example/framewire/framewire/rfb/Tiles", "y", "()I"⟩ : MethodName) prog_102_method_6_code 1 (some .int) ({ frames := 0, cells := 0, slots := 0, locals := 0 } : Room) [] #[(.ref a)] h0 n0 (fun v h' => v = some (.int y) ∧ h0 = h') := by
  refine con_of (Ls0 := #[.val (.ref a)]) (plainFor_of_name pn_0) (fun m => by first | (simp [entryFrame, mkF, argsToLocals, Value.category]; done) | rfl) hn0 ?_
  intro p e s m below meth c C
  refine g_aloadN C D6_0 rfl rfl ?_
  refine g_getF C (wd_25 hw) D6_1 H.2.2.2.2.2.2 ?_
  refine g_retI C D6_4 (by decide) (by decide) ?_
  exact ⟨rfl, rfl⟩
set_option maxRecDepth 65536 in
set_option maxHeartbeats 40000000 in
theorem c_done (l : Launch) {Z : State} {a0 : Array Value} (hw : ∀ d ∈ tables_1, d.before a0 Z = true) (h0 : Heap) (n0 : Nat) (hn0 : n0 ≤ h0.size) (a : Addr) (r : Int32) (sz lf rt bt x y : Int32) (ga : n0 ≤ a) (H : RT Z h0 a sz lf rt bt x y) (hs : doneR y bt r) : Con l Z (⟨"com/example/framewire/framewire/rfb/Tiles", "done", "()Z"⟩ : MethodName) prog_102_method_3_code 1 (some .boolean) ({ frames := 0, cells := 0, slots := 0, locals := 0 } : Room) [] #[(.ref a)] h0 n0 (fun v h' => v = some (.int r) ∧ h0 = h') := by
  refine con_of (Ls0 := #[.val (.ref a)]) (plainFor_of_name pn_0) (fun m => by first | (simp [entryFrame, mkF, argsToLocals, Value.category]; done) | rfl) hn0 ?_
  intro p e s m below meth c C
  refine g_aloadN C D7_0 rfl rfl ?_
  refine g_getF C (wd_25 hw) D7_1 H.2.2.2.2.2.2 ?_
  refine g_aloadN C D7_4 rfl rfl ?_
  refine g_getF C (wd_21 hw) D7_5 H.2.2.2.2.1 ?_
  refine g_icmp_lt C D7_8 (fun q1 => ?_) (fun q1 => ?_)
  · refine g_iconst C (0 : Int32) rfl D7_15 ?_
    refine g_retZ C D7_16 (by decide) (by decide) ?_
    obtain rfl := doneT q1 hs
    exact ⟨rfl, rfl⟩
  · refine g_iconst C (1 : Int32) rfl D7_11 ?_
    refine g_goto C D7_12 ?_
    refine g_retZ C D7_16 (by decide) (by decide) ?_
    obtain rfl := doneF q1 hs
    exact ⟨rfl, rfl⟩
set_option maxRecDepth 65536 in
set_option maxHeartbeats 40000000 in
theorem c_law (l : Launch) {Z : State} {a0 : Array Value} (hw : ∀ d ∈ tables_1, d.before a0 Z = true) (ws : List Jvm.Cond) (h0 : Heap) (n0 : Nat) (hn0 : n0 ≤ h0.size) (i_s i_x i_y i_w i_h i_k : Int32)  : Con l Z x code maxLocals ret room_1 ws #[(.int i_s), (.int i_x), (.int i_y), (.int i_w), (.int i_h), (.int i_k)] h0 n0 (fun v h' => v = some (.int 1) ∧ True) := by
  refine con_of (Ls0 := #[.val (.int i_s), .val (.int i_x), .val (.int i_y), .val (.int i_w), .val (.int i_h), .val (.int i_k), .unset, .unset, .unset, .unset, .unset, .unset, .unset, .unset, .unset, .unset, .unset, .unset]) (plainFor_of_name pn_1) (fun m => by first | (simp [entryFrame, mkF, argsToLocals, Value.category, maxLocals]; done) | rfl) hn0 ?_
  intro p e s m below meth c C
  refine g_iconst C (1 : Int32) rfl D0_0 ?_
  refine g_iloadN C D0_1 rfl ?_
  refine g_ldc C (wd_0 hw) D0_2 ?_
  refine g_iand C D0_4 ?_
  refine g_iadd C D0_5 ?_
  generalize q_s0 : ((1 : Int32) + (i_s &&& (65535 : Int32))) = s0
  have b_s : 1 ≤ s0.toInt ∧ s0.toInt ≤ 65536 := q_s0 ▸ size16 i_s
  refine g_istore C #[.val (.int i_s), .val (.int i_x), .val (.int i_y), .val (.int i_w), .val (.int i_h), .val (.int i_k), .val (.int s0), .unset, .unset, .unset, .unset, .unset, .unset, .unset, .unset, .unset, .unset, .unset] D0_6 rfl ?_
  refine g_iloadN C D0_8 rfl ?_
  refine g_ldc C (wd_0 hw) D0_9 ?_
  refine g_iand C D0_11 ?_
  generalize q_x0 : (i_x &&& (65535 : Int32)) = x0
  have b_x0 : Rg x0 65535 := q_x0 ▸ mask16 i_x
  refine g_istore C #[.val (.int i_s), .val (.int i_x), .val (.int i_y), .val (.int i_w), .val (.int i_h), .val (.int i_k), .val (.int s0), .val (.int x0), .unset, .unset, .unset, .unset, .unset, .unset, .unset, .unset, .unset, .unset] D0_12 rfl ?_
  refine g_iloadN C D0_14 rfl ?_
  refine g_ldc C (wd_0 hw) D0_15 ?_
  refine g_iand C D0_17 ?_
  generalize q_y0 : (i_y &&& (65535 : Int32)) = y0
  have b_y0 : Rg y0 65535 := q_y0 ▸ mask16 i_y
  refine g_istore C #[.val (.int i_s), .val (.int i_x), .val (.int i_y), .val (.int i_w), .val (.int i_h), .val (.int i_k), .val (.int s0), .val (.int x0), .val (.int y0), .unset, .unset, .unset, .unset, .unset, .unset, .unset, .unset, .unset] D0_18 rfl ?_
  refine g_iloadN C D0_20 rfl ?_
  refine g_ldc C (wd_0 hw) D0_21 ?_
  refine g_iand C D0_23 ?_
  generalize q_w0 : (i_w &&& (65535 : Int32)) = w0
  have b_w0 : Rg w0 65535 := q_w0 ▸ mask16 i_w
  refine g_istore C #[.val (.int i_s), .val (.int i_x), .val (.int i_y), .val (.int i_w), .val (.int i_h), .val (.int i_k), .val (.int s0), .val (.int x0), .val (.int y0), .val (.int w0), .unset, .unset, .unset, .unset, .unset, .unset, .unset, .unset] D0_24 rfl ?_
  refine g_iload C D0_26 rfl ?_
  refine g_ldc C (wd_0 hw) D0_28 ?_
  refine g_iand C D0_30 ?_
  generalize q_v0 : (i_h &&& (65535 : Int32)) = v0
  have b_v0 : Rg v0 65535 := q_v0 ▸ mask16 i_h
  refine g_istore C #[.val (.int i_s), .val (.int i_x), .val (.int i_y), .val (.int i_w), .val (.int i_h), .val (.int i_k), .val (.int s0), .val (.int x0), .val (.int y0), .val (.int w0), .val (.int v0), .unset, .unset, .unset, .unset, .unset, .unset, .unset] D0_31 rfl ?_
  refine g_iconst C (1 : Int32) rfl D0_33 ?_
  refine g_iload C D0_34 rfl ?_
  refine g_iconst C (3 : Int32) rfl D0_36 ?_
  refine g_iand C D0_37 ?_
  refine g_iadd C D0_38 ?_
  generalize q_n1 : ((1 : Int32) + (i_k &&& (3 : Int32))) = n1
  have b_n : 1 ≤ n1.toInt ∧ n1.toInt ≤ 4 := q_n1 ▸ num4 i_k
  refine g_istore C #[.val (.int i_s), .val (.int i_x), .val (.int i_y), .val (.int i_w), .val (.int i_h), .val (.int i_k), .val (.int s0), .val (.int x0), .val (.int y0), .val (.int w0), .val (.int v0), .val (.int n1), .unset, .unset, .unset, .unset, .unset, .unset] D0_39 rfl ?_
  refine g_new C (wd_1 hw) (wd_2 hw) (wd_3 hw) D0_41 (by decide) (by decide) ?_
  intro h1 b2 ge3 ea4 E5 X6 F7
  have H8 : RT Z h1 b2 (0 : Int32) (0 : Int32) (0 : Int32) (0 : Int32) (0 : Int32) (0 : Int32) := ⟨X6, F7 (Or.inr (wd_11 hw)) (ty := .int) (by decide), F7 (Or.inl (wd_18 hw)) (ty := .int) (by decide), F7 (Or.inl (wd_20 hw)) (ty := .int) (by decide), F7 (Or.inl (wd_22 hw)) (ty := .int) (by decide), F7 (Or.inl (wd_24 hw)) (ty := .int) (by decide), F7 (Or.inl (wd_26 hw)) (ty := .int) (by decide)⟩
  refine g_dup C D0_44 rfl ?_
  refine g_iload C D0_45 rfl ?_
  have hz9 : n0 ≤ h1.size := Nat.le_trans ge3 (Nat.le_of_lt H8.lt)
  refine g_callI C (c_init l hw h1 n0 hz9 b2 s0 (0 : Int32) (0 : Int32) (0 : Int32) (0 : Int32) (0 : Int32) (0 : Int32) ge3 H8) rfl (wd_4 hw) (wd_5 hw) (wd_3 hw) (wd_6 hw) (by decide) D0_47 pd_0 [(.int s0)] [(.ref b2)] rfl rfl rfl 1 (Nat.le_of_eq rfl) (by decide) (by decide) (by decide) (by decide) ?_
  rintro _ hB10 ⟨rfl, KB11, HB12⟩
  have hz13 : n0 ≤ hB10.size := Nat.le_trans hz9 KB11.1
  refine g_cast (f' := mkF m 50 #[.val (.int i_s), .val (.int i_x), .val (.int i_y), .val (.int i_w), .val (.int i_h), .val (.int i_k), .val (.int s0), .val (.int x0), .val (.int y0), .val (.int w0), .val (.int v0), .val (.int n1), .unset, .unset, .unset, .unset, .unset, .unset] [(.ref b2)]) rfl ?_
  refine g_astore C #[.val (.int i_s), .val (.int i_x), .val (.int i_y), .val (.int i_w), .val (.int i_h), .val (.int i_k), .val (.int s0), .val (.int x0), .val (.int y0), .val (.int w0), .val (.int v0), .val (.int n1), .val (.ref b2), .unset, .unset, .unset, .unset, .unset] D0_50 rfl rfl ?_
  refine g_aload C D0_52 rfl rfl ?_
  refine g_iload C D0_54 rfl ?_
  refine g_iload C D0_56 rfl ?_
  refine g_iload C D0_58 rfl ?_
  refine g_iload C D0_60 rfl ?_
  obtain ⟨ys, p_s⟩ : ∃ ys, startR w0 y0 (y0 + v0) ys := (Decidable.em (w0 = 0)).elim (fun q => ⟨_, Or.inl ⟨q, rfl⟩⟩) (fun q => ⟨_, Or.inr ⟨q, rfl⟩⟩)
  have t0 := TI_start b_s b_x0 b_y0 b_w0 b_v0 p_s
  refine g_callV C (c_start l hw hB10 n0 hz13 b2 x0 y0 w0 v0 ys s0 (0 : Int32) (0 : Int32) (0 : Int32) (0 : Int32) (0 : Int32) ge3 HB12 p_s) (wd_12 hw) (wd_13 hw) (wd_14 hw) (wd_15 hw) (wd_3 hw) (wd_16 hw) (by decide) D0_62 pd_1 HB12.1 [(.int x0), (.int y0), (.int w0), (.int v0)] [] rfl rfl rfl 0 (Nat.le_of_eq rfl) (by decide) (by decide) (by decide) (by decide) ?_
  rintro _ hB14 ⟨rfl, KB15, HB16⟩
  have hz17 : n0 ≤ hB14.size := Nat.le_trans hz13 KB15.1
  refine g_cast (f' := mkF m 65 #[.val (.int i_s), .val (.int i_x), .val (.int i_y), .val (.int i_w), .val (.int i_h), .val (.int i_k), .val (.int s0), .val (.int x0), .val (.int y0), .val (.int w0), .val (.int v0), .val (.int n1), .val (.ref b2), .unset, .unset, .unset, .unset, .unset] []) rfl ?_
  obtain ⟨x1', y1', p1, t1⟩ := TI_next b_s b_x0 b_y0 b_w0 b_v0 (by decide) t0
  refine g_aload C D0_65 rfl rfl ?_
  refine g_callV C (c_next l hw hB14 n0 hz17 b2 x1' y1' s0 x0 (x0 + w0) (y0 + v0) x0 ys ge3 HB16 p1) (wd_27 hw) (wd_28 hw) (wd_29 hw) (wd_30 hw) (wd_3 hw) (wd_31 hw) (by decide) D0_67 pd_2 HB16.1 [] [] rfl rfl rfl 0 (Nat.le_of_eq rfl) (by decide) (by decide) (by decide) (by decide) ?_
  rintro _ hB18 ⟨rfl, KB19, HB20⟩
  have hz21 : n0 ≤ hB18.size := Nat.le_trans hz17 KB19.1
  refine g_cast (f' := mkF m 70 #[.val (.int i_s), .val (.int i_x), .val (.int i_y), .val (.int i_w), .val (.int i_h), .val (.int i_k), .val (.int s0), .val (.int x0), .val (.int y0), .val (.int w0), .val (.int v0), .val (.int n1), .val (.ref b2), .unset, .unset, .unset, .unset, .unset] []) rfl ?_
  refine g_join (ι := Heap × Int32 × Int32) (fun y => y.1) 1 6 (fun y => mkF m 103 #[.val (.int i_s), .val (.int i_x), .val (.int i_y), .val (.int i_w), .val (.int i_h), .val (.int i_k), .val (.int s0), .val (.int x0), .val (.int y0), .val (.int w0), .val (.int v0), .val (.int n1), .val (.ref b2), .unset, .unset, .unset, .unset, .unset] []) (fun y => n0 ≤ y.1.size ∧ RT Z y.1 b2 s0 x0 (x0 + w0) (y0 + v0) y.2.1 y.2.2 ∧ TI s0.toInt x0.toInt y0.toInt w0.toInt (y0 + v0).toInt n1.toInt y.2.1.toInt y.2.2.toInt) (fun J => ?_) ?_
  · refine g_iload C D0_70 rfl ?_
    refine g_iconst C (2 : Int32) rfl D0_72 ?_
    refine g_icmp_lt C D0_73 (fun q22 => ?_) (fun q22 => ?_)
    · have e1 : n1.toInt = 1 := is_num b_n q22 rfl b_n.1
      refine g_iload C D0_81 rfl ?_
      refine g_iconst C (3 : Int32) rfl D0_83 ?_
      refine g_icmp_lt C D0_84 (fun q23 => ?_) (fun q23 => ?_)
      rotate_left
      · exfalso
        exact q23 (by rw [Int32.lt_iff_toInt_lt]; have : (3 : Int32).toInt = 3 := rfl; omega)
      refine g_iload C D0_92 rfl ?_
      refine g_iconst C (4 : Int32) rfl D0_94 ?_
      refine g_icmp_lt C D0_95 (fun q24 => ?_) (fun q24 => ?_)
      rotate_left
      · exfalso
        exact q24 (by rw [Int32.lt_iff_toInt_lt]; have : (4 : Int32).toInt = 4 := rfl; omega)
      exact J (hB18, x1', y1') ⟨hz21, HB20, e1.symm ▸ t1⟩
    · have g2 : 2 ≤ n1.toInt := ge_num q22 rfl
      obtain ⟨x2', y2', p2, t2⟩ := TI_next b_s b_x0 b_y0 b_w0 b_v0 (by decide) t1
      refine g_aload C D0_76 rfl rfl ?_
      refine g_callV C (c_next l hw hB18 n0 hz21 b2 x2' y2' s0 x0 (x0 + w0) (y0 + v0) x1' y1' ge3 HB20 p2) (wd_27 hw) (wd_28 hw) (wd_29 hw) (wd_30 hw) (wd_3 hw) (wd_31 hw) (by decide) D0_78 pd_2 HB20.1 [] [] rfl rfl rfl 0 (Nat.le_of_eq rfl) (by decide) (by decide) (by decide) (by decide) ?_
      rintro _ hB25 ⟨rfl, KB26, HB27⟩
      have hz28 : n0 ≤ hB25.size := Nat.le_trans hz21 KB26.1
      refine g_cast (f' := mkF m 81 #[.val (.int i_s), .val (.int i_x), .val (.int i_y), .val (.int i_w), .val (.int i_h), .val (.int i_k), .val (.int s0), .val (.int x0), .val (.int y0), .val (.int w0), .val (.int v0), .val (.int n1), .val (.ref b2), .unset, .unset, .unset, .unset, .unset] []) rfl ?_
      refine g_iload C D0_81 rfl ?_
      refine g_iconst C (3 : Int32) rfl D0_83 ?_
      refine g_icmp_lt C D0_84 (fun q29 => ?_) (fun q29 => ?_)
      · have e1 : n1.toInt = 2 := is_num b_n q29 rfl g2
        refine g_iload C D0_92 rfl ?_
        refine g_iconst C (4 : Int32) rfl D0_94 ?_
        refine g_icmp_lt C D0_95 (fun q30 => ?_) (fun q30 => ?_)
        rotate_left
        · exfalso
          exact q30 (by rw [Int32.lt_iff_toInt_lt]; have : (4 : Int32).toInt = 4 := rfl; omega)
        exact J (hB25, x2', y2') ⟨hz28, HB27, e1.symm ▸ t2⟩
      · have g3 : 3 ≤ n1.toInt := ge_num q29 rfl
        obtain ⟨x3', y3', p3, t3⟩ := TI_next b_s b_x0 b_y0 b_w0 b_v0 (by decide) t2
        refine g_aload C D0_87 rfl rfl ?_
        refine g_callV C (c_next l hw hB25 n0 hz28 b2 x3' y3' s0 x0 (x0 + w0) (y0 + v0) x2' y2' ge3 HB27 p3) (wd_27 hw) (wd_28 hw) (wd_29 hw) (wd_30 hw) (wd_3 hw) (wd_31 hw) (by decide) D0_89 pd_2 HB27.1 [] [] rfl rfl rfl 0 (Nat.le_of_eq rfl) (by decide) (by decide) (by decide) (by decide) ?_
        rintro _ hB31 ⟨rfl, KB32, HB33⟩
        have hz34 : n0 ≤ hB31.size := Nat.le_trans hz28 KB32.1
        refine g_cast (f' := mkF m 92 #[.val (.int i_s), .val (.int i_x), .val (.int i_y), .val (.int i_w), .val (.int i_h), .val (.int i_k), .val (.int s0), .val (.int x0), .val (.int y0), .val (.int w0), .val (.int v0), .val (.int n1), .val (.ref b2), .unset, .unset, .unset, .unset, .unset] []) rfl ?_
        refine g_iload C D0_92 rfl ?_
        refine g_iconst C (4 : Int32) rfl D0_94 ?_
        refine g_icmp_lt C D0_95 (fun q35 => ?_) (fun q35 => ?_)
        · have e1 : n1.toInt = 3 := is_num b_n q35 rfl g3
          exact J (hB31, x3', y3') ⟨hz34, HB33, e1.symm ▸ t3⟩
        · have e1 : n1.toInt = 4 := by have : 4 ≤ n1.toInt := ge_num q35 rfl; omega
          obtain ⟨x4', y4', p4, t4⟩ := TI_next b_s b_x0 b_y0 b_w0 b_v0 (by decide) t3
          refine g_aload C D0_98 rfl rfl ?_
          refine g_callV C (c_next l hw hB31 n0 hz34 b2 x4' y4' s0 x0 (x0 + w0) (y0 + v0) x3' y3' ge3 HB33 p4) (wd_27 hw) (wd_28 hw) (wd_29 hw) (wd_30 hw) (wd_3 hw) (wd_31 hw) (by decide) D0_100 pd_2 HB33.1 [] [] rfl rfl rfl 0 (Nat.le_of_eq rfl) (by decide) (by decide) (by decide) (by decide) ?_
          rintro _ hB36 ⟨rfl, KB37, HB38⟩
          have hz39 : n0 ≤ hB36.size := Nat.le_trans hz34 KB37.1
          refine g_cast (f' := mkF m 103 #[.val (.int i_s), .val (.int i_x), .val (.int i_y), .val (.int i_w), .val (.int i_h), .val (.int i_k), .val (.int s0), .val (.int x0), .val (.int y0), .val (.int w0), .val (.int v0), .val (.int n1), .val (.ref b2), .unset, .unset, .unset, .unset, .unset] []) rfl ?_
          exact J (hB36, x4', y4') ⟨hz39, HB38, e1.symm ▸ t4⟩
  rintro ⟨hJ, xJ, yJ⟩ ⟨hzJ, HJ, tJ⟩
  try dsimp only at hzJ HJ tJ ⊢
  by_cases qw : w0 = 0
  · refine g_iload C D0_103 rfl ?_
    refine g_if_ne C D0_105 (fun q40 => ?_) (fun q40 => ?_)
    · exfalso
      exact q40 qw
    have nl : ¬ (yJ < y0 + v0) := by
      rcases tJ with ⟨_, _, z, _⟩ | ⟨z, _⟩
      · rw [Int32.lt_iff_toInt_lt]; omega
      · exact absurd (by rw [qw]; rfl) z
    refine g_aload C D0_108 rfl rfl ?_
    refine g_callV C (c_done l hw hJ n0 hzJ b2 1 s0 x0 (x0 + w0) (y0 + v0) xJ yJ ge3 HJ (Or.inr ⟨nl, rfl⟩)) (wd_42 hw) (wd_43 hw) (wd_44 hw) (wd_45 hw) (wd_3 hw) (wd_46 hw) (by decide) D0_110 pd_3 HJ.1 [] [] rfl rfl rfl 0 (Nat.le_of_eq rfl) (by decide) (by decide) (by decide) (by decide) ?_
    rintro _ _ ⟨rfl, rfl⟩
    refine g_cast (f' := mkF m 113 #[.val (.int i_s), .val (.int i_x), .val (.int i_y), .val (.int i_w), .val (.int i_h), .val (.int i_k), .val (.int s0), .val (.int x0), .val (.int y0), .val (.int w0), .val (.int v0), .val (.int n1), .val (.ref b2), .unset, .unset, .unset, .unset, .unset] [(.int 1)]) rfl ?_
    refine g_retZ C D0_113 (by decide) (by decide) ?_
    exact ⟨rfl, trivial⟩
  · refine g_iload C D0_103 rfl ?_
    refine g_if_ne C D0_105 (fun q41 => ?_) (fun q41 => ?_)
    rotate_left
    · exfalso
      exact qw q41
    obtain ⟨qq, mm, u2, u3, u4, u5, u6, u7⟩ : ∃ q m, 0 ≤ m ∧ m < colsOf w0.toInt s0.toInt ∧ 0 ≤ q ∧ q * colsOf w0.toInt s0.toInt + m = n1.toInt ∧ xJ.toInt = x0.toInt + m * s0.toInt ∧ yJ.toInt = y0.toInt + q * s0.toInt := by
      rcases tJ with ⟨z, _⟩ | ⟨_, z⟩
      · exact absurd (Int32.toInt_inj.mp z) qw
      · exact z
    refine g_iload C D0_114 rfl ?_
    refine g_iload C D0_116 rfl ?_
    refine g_iadd C D0_118 ?_
    refine g_iconst C (1 : Int32) rfl D0_119 ?_
    refine g_isub C D0_120 ?_
    refine g_iload C D0_121 rfl ?_
    refine g_idiv C D0_123 (s_ne b_s) ?_
    generalize q_cols : (((w0 + s0) - (1 : Int32)) / s0) = cols
    have f_c := cols_fact b_s b_w0 q_cols
    rw [← f_c] at u3 u5
    have g_c : 1 ≤ cols.toInt := by omega
    refine g_istore C #[.val (.int i_s), .val (.int i_x), .val (.int i_y), .val (.int i_w), .val (.int i_h), .val (.int i_k), .val (.int s0), .val (.int x0), .val (.int y0), .val (.int w0), .val (.int v0), .val (.int n1), .val (.ref b2), .val (.int cols), .unset, .unset, .unset, .unset] D0_124 rfl ?_
    refine g_iload C D0_126 rfl ?_
    refine g_iload C D0_128 rfl ?_
    refine g_iadd C D0_130 ?_
    refine g_iconst C (1 : Int32) rfl D0_131 ?_
    refine g_isub C D0_132 ?_
    refine g_iload C D0_133 rfl ?_
    refine g_idiv C D0_135 (s_ne b_s) ?_
    generalize q_rows : (((v0 + s0) - (1 : Int32)) / s0) = rows
    have f_r := cols_fact b_s b_v0 q_rows
    obtain ⟨d1, d2⟩ := qm b_n g_c u2 u3 u4 u5
    obtain ⟨l1, l2⟩ := le_q u2 u3 u4 u5
    refine g_istore C #[.val (.int i_s), .val (.int i_x), .val (.int i_y), .val (.int i_w), .val (.int i_h), .val (.int i_k), .val (.int s0), .val (.int x0), .val (.int y0), .val (.int w0), .val (.int v0), .val (.int n1), .val (.ref b2), .val (.int cols), .val (.int rows), .unset, .unset, .unset] D0_136 rfl ?_
    refine g_iload C D0_138 rfl ?_
    refine g_iload C D0_140 rfl ?_
    refine g_iload C D0_142 rfl ?_
    refine g_irem C D0_144 (pos_ne g_c) ?_
    refine g_iload C D0_145 rfl ?_
    refine g_imul C D0_147 ?_
    refine g_iadd C D0_148 ?_
    generalize q_ex : (x0 + ((n1 - (n1 / cols) * cols) * s0)) = ex
    have f_x : xJ = ex := q_ex ▸ end_x b_s b_x0 (m := mm) ⟨u2, by omega⟩ d2 u6 (y0 := y0) (w := w0) (h := v0) (n := n1) (y := yJ) (q := qq)
    refine g_istore C #[.val (.int i_s), .val (.int i_x), .val (.int i_y), .val (.int i_w), .val (.int i_h), .val (.int i_k), .val (.int s0), .val (.int x0), .val (.int y0), .val (.int w0), .val (.int v0), .val (.int n1), .val (.ref b2), .val (.int cols), .val (.int rows), .val (.int ex), .unset, .unset] D0_149 rfl ?_
    refine g_iload C D0_151 rfl ?_
    refine g_iload C D0_153 rfl ?_
    refine g_iload C D0_155 rfl ?_
    refine g_idiv C D0_157 (pos_ne g_c) ?_
    refine g_iload C D0_158 rfl ?_
    refine g_imul C D0_160 ?_
    refine g_iadd C D0_161 ?_
    generalize q_ey : (y0 + ((n1 / cols) * s0)) = ey
    have f_y : yJ = ey := q_ey ▸ end_x b_s b_y0 (m := qq) ⟨u4, by omega⟩ d1 u7 (y0 := y0) (w := w0) (h := v0) (n := n1) (y := yJ) (q := qq)
    have f_d := end_done b_s b_y0 b_v0 f_c f_r b_w0 b_n u2 u3 u4 u5 u7
    refine g_istore C #[.val (.int i_s), .val (.int i_x), .val (.int i_y), .val (.int i_w), .val (.int i_h), .val (.int i_k), .val (.int s0), .val (.int x0), .val (.int y0), .val (.int w0), .val (.int v0), .val (.int n1), .val (.ref b2), .val (.int cols), .val (.int rows), .val (.int ex), .val (.int ey), .unset] D0_162 rfl ?_
    refine g_iload C D0_164 rfl ?_
    refine g_i2l C D0_166 ?_
    refine g_iload C D0_167 rfl ?_
    refine g_i2l C D0_169 ?_
    refine g_iload C D0_170 rfl ?_
    refine g_i2l C D0_172 ?_
    refine g_lmul C D0_173 ?_
    refine g_lcmp_lt C D0_174 D0_175 (fun q42 => ?_) (fun q42 => ?_)
    · refine g_iconst C (0 : Int32) rfl D0_182 ?_
      refine g_istore C #[.val (.int i_s), .val (.int i_x), .val (.int i_y), .val (.int i_w), .val (.int i_h), .val (.int i_k), .val (.int s0), .val (.int x0), .val (.int y0), .val (.int w0), .val (.int v0), .val (.int n1), .val (.ref b2), .val (.int cols), .val (.int rows), .val (.int ex), .val (.int ey), .val (.int (0 : Int32))] D0_183 rfl ?_
      refine g_aload C D0_185 rfl rfl ?_
      refine g_callV C (c_x l hw hJ n0 hzJ b2 s0 x0 (x0 + w0) (y0 + v0) xJ yJ ge3 HJ) (wd_32 hw) (wd_33 hw) (wd_34 hw) (wd_35 hw) (wd_3 hw) (wd_36 hw) (by decide) D0_187 pd_4 HJ.1 [] [] rfl rfl rfl 0 (Nat.le_of_eq rfl) (by decide) (by decide) (by decide) (by decide) ?_
      rintro _ _ ⟨rfl, rfl⟩
      refine g_cast (f' := mkF m 190 #[.val (.int i_s), .val (.int i_x), .val (.int i_y), .val (.int i_w), .val (.int i_h), .val (.int i_k), .val (.int s0), .val (.int x0), .val (.int y0), .val (.int w0), .val (.int v0), .val (.int n1), .val (.ref b2), .val (.int cols), .val (.int rows), .val (.int ex), .val (.int ey), .val (.int (0 : Int32))] [(.int xJ)]) rfl ?_
      refine g_iload C D0_190 rfl ?_
      refine g_icmp_ne C D0_192 (fun q43 => ?_) (fun q43 => ?_)
      · exfalso
        exact q43 f_x
      refine g_aload C D0_195 rfl rfl ?_
      refine g_callV C (c_y l hw hJ n0 hzJ b2 s0 x0 (x0 + w0) (y0 + v0) xJ yJ ge3 HJ) (wd_37 hw) (wd_38 hw) (wd_39 hw) (wd_40 hw) (wd_3 hw) (wd_41 hw) (by decide) D0_197 pd_4 HJ.1 [] [] rfl rfl rfl 0 (Nat.le_of_eq rfl) (by decide) (by decide) (by decide) (by decide) ?_
      rintro _ _ ⟨rfl, rfl⟩
      refine g_cast (f' := mkF m 200 #[.val (.int i_s), .val (.int i_x), .val (.int i_y), .val (.int i_w), .val (.int i_h), .val (.int i_k), .val (.int s0), .val (.int x0), .val (.int y0), .val (.int w0), .val (.int v0), .val (.int n1), .val (.ref b2), .val (.int cols), .val (.int rows), .val (.int ex), .val (.int ey), .val (.int (0 : Int32))] [(.int yJ)]) rfl ?_
      refine g_iload C D0_200 rfl ?_
      refine g_icmp_ne C D0_202 (fun q44 => ?_) (fun q44 => ?_)
      · exfalso
        exact q44 f_y
      refine g_aload C D0_205 rfl rfl ?_
      refine g_callV C (c_done l hw hJ n0 hzJ b2 0 s0 x0 (x0 + w0) (y0 + v0) xJ yJ ge3 HJ (Or.inl ⟨f_d.mp q42, rfl⟩)) (wd_42 hw) (wd_43 hw) (wd_44 hw) (wd_45 hw) (wd_3 hw) (wd_46 hw) (by decide) D0_207 pd_3 HJ.1 [] [] rfl rfl rfl 0 (Nat.le_of_eq rfl) (by decide) (by decide) (by decide) (by decide) ?_
      rintro _ _ ⟨rfl, rfl⟩
      refine g_cast (f' := mkF m 210 #[.val (.int i_s), .val (.int i_x), .val (.int i_y), .val (.int i_w), .val (.int i_h), .val (.int i_k), .val (.int s0), .val (.int x0), .val (.int y0), .val (.int w0), .val (.int v0), .val (.int n1), .val (.ref b2), .val (.int cols), .val (.int rows), .val (.int ex), .val (.int ey), .val (.int (0 : Int32))] [(.int 0)]) rfl ?_
      refine g_iload C D0_210 rfl ?_
      refine g_icmp_ne C D0_212 (fun q45 => ?_) (fun q45 => ?_)
      · exfalso
        exact q45 rfl
      refine g_iconst C (1 : Int32) rfl D0_215 ?_
      refine g_goto C D0_216 ?_
      refine g_retZ C D0_220 (by decide) (by decide) ?_
      exact ⟨rfl, trivial⟩
    · refine g_iconst C (1 : Int32) rfl D0_178 ?_
      refine g_goto C D0_179 ?_
      refine g_istore C #[.val (.int i_s), .val (.int i_x), .val (.int i_y), .val (.int i_w), .val (.int i_h), .val (.int i_k), .val (.int s0), .val (.int x0), .val (.int y0), .val (.int w0), .val (.int v0), .val (.int n1), .val (.ref b2), .val (.int cols), .val (.int rows), .val (.int ex), .val (.int ey), .val (.int (1 : Int32))] D0_183 rfl ?_
      refine g_aload C D0_185 rfl rfl ?_
      refine g_callV C (c_x l hw hJ n0 hzJ b2 s0 x0 (x0 + w0) (y0 + v0) xJ yJ ge3 HJ) (wd_32 hw) (wd_33 hw) (wd_34 hw) (wd_35 hw) (wd_3 hw) (wd_36 hw) (by decide) D0_187 pd_4 HJ.1 [] [] rfl rfl rfl 0 (Nat.le_of_eq rfl) (by decide) (by decide) (by decide) (by decide) ?_
      rintro _ _ ⟨rfl, rfl⟩
      refine g_cast (f' := mkF m 190 #[.val (.int i_s), .val (.int i_x), .val (.int i_y), .val (.int i_w), .val (.int i_h), .val (.int i_k), .val (.int s0), .val (.int x0), .val (.int y0), .val (.int w0), .val (.int v0), .val (.int n1), .val (.ref b2), .val (.int cols), .val (.int rows), .val (.int ex), .val (.int ey), .val (.int (1 : Int32))] [(.int xJ)]) rfl ?_
      refine g_iload C D0_190 rfl ?_
      refine g_icmp_ne C D0_192 (fun q46 => ?_) (fun q46 => ?_)
      · exfalso
        exact q46 f_x
      refine g_aload C D0_195 rfl rfl ?_
      refine g_callV C (c_y l hw hJ n0 hzJ b2 s0 x0 (x0 + w0) (y0 + v0) xJ yJ ge3 HJ) (wd_37 hw) (wd_38 hw) (wd_39 hw) (wd_40 hw) (wd_3 hw) (wd_41 hw) (by decide) D0_197 pd_4 HJ.1 [] [] rfl rfl rfl 0 (Nat.le_of_eq rfl) (by decide) (by decide) (by decide) (by decide) ?_
      rintro _ _ ⟨rfl, rfl⟩
      refine g_cast (f' := mkF m 200 #[.val (.int i_s), .val (.int i_x), .val (.int i_y), .val (.int i_w), .val (.int i_h), .val (.int i_k), .val (.int s0), .val (.int x0), .val (.int y0), .val (.int w0), .val (.int v0), .val (.int n1), .val (.ref b2), .val (.int cols), .val (.int rows), .val (.int ex), .val (.int ey), .val (.int (1 : Int32))] [(.int yJ)]) rfl ?_
      refine g_iload C D0_200 rfl ?_
      refine g_icmp_ne C D0_202 (fun q47 => ?_) (fun q47 => ?_)
      · exfalso
        exact q47 f_y
      refine g_aload C D0_205 rfl rfl ?_
      refine g_callV C (c_done l hw hJ n0 hzJ b2 1 s0 x0 (x0 + w0) (y0 + v0) xJ yJ ge3 HJ (Or.inr ⟨fun z => q42 (f_d.mpr z), rfl⟩)) (wd_42 hw) (wd_43 hw) (wd_44 hw) (wd_45 hw) (wd_3 hw) (wd_46 hw) (by decide) D0_207 pd_3 HJ.1 [] [] rfl rfl rfl 0 (Nat.le_of_eq rfl) (by decide) (by decide) (by decide) (by decide) ?_
      rintro _ _ ⟨rfl, rfl⟩
      refine g_cast (f' := mkF m 210 #[.val (.int i_s), .val (.int i_x), .val (.int i_y), .val (.int i_w), .val (.int i_h), .val (.int i_k), .val (.int s0), .val (.int x0), .val (.int y0), .val (.int w0), .val (.int v0), .val (.int n1), .val (.ref b2), .val (.int cols), .val (.int rows), .val (.int ex), .val (.int ey), .val (.int (1 : Int32))] [(.int 1)]) rfl ?_
      refine g_iload C D0_210 rfl ?_
      refine g_icmp_ne C D0_212 (fun q48 => ?_) (fun q48 => ?_)
      · exfalso
        exact q48 rfl
      refine g_iconst C (1 : Int32) rfl D0_215 ?_
      refine g_goto C D0_216 ?_
      refine g_retZ C D0_220 (by decide) (by decide) ?_
      exact ⟨rfl, trivial⟩
set_option maxRecDepth 65536 in
set_option maxHeartbeats 40000000 in
theorem comes_1 {Post : Tables → Env → Array Value → State → Outcome → State → Prop} (hpost : ∀ tb e args s v u, (limb_1_1.after args s (.returned v) u = true ∧ limb_1_2.after args s (.returned v) u = true ∧ True) → FrameEnd s (.returned v) u (Jvm.fieldLocs frame_1_writes args s ++ Jvm.arrayLocs frame_1_arrays args s ++ Jvm.staticLocs frame_1_statics s) 16 128 → Post tb e args s (.returned v) u) :
    ArmFor flags0 classFile x code maxLocals ret World_1 tables_1 room_1 Calls_1 rest_1 Pre_1 Post := by
  intro l hfl _ _ p e ha hc hk s m args below hf hA hF happ hP
  obtain ⟨hcalls, hrest, hpre⟩ := hP
  obtain ⟨-, -, -, hnamed, -, -, -, hat⟩ := (Spec.applies_iff hf).mp happ
  obtain ⟨hg, hn⟩ := and_e (Cond.before_iff.mp (show (Jvm.Cond.and given_1 narrow_1).before args s = true from hpre))
  obtain ⟨gc, g0⟩ := and_e hg
  obtain ⟨ga0, g1⟩ := and_e g0
  obtain ⟨ga1, g2⟩ := and_e g1
  obtain ⟨ga2, g3⟩ := and_e g2
  obtain ⟨ga3, g4⟩ := and_e g3
  obtain ⟨ga4, g5⟩ := and_e g4
  have ga5 := g5
  obtain ⟨w0, w1, w2, w3, w4, w5, rfl⟩ : ∃ w0 w1 w2 w3 w4 w5 : Value, args = #[w0, w1, w2, w3, w4, w5] := by
    have hs : args.size = 6 := by simpa [Cond.value, given_1] using gc
    obtain ⟨L⟩ := args
    match L, hs with
    | [w0, w1, w2, w3, w4, w5], _ => exact ⟨w0, w1, w2, w3, w4, w5, rfl⟩
  have hw := fun d (hd : d ∈ tables_1) => atoms_spec (ws := Jvm.Cond.code x code maxLocals ret :: tables_1) hat d (List.mem_cons_of_mem _ hd)
  obtain ⟨i0, ei0⟩ := is_v ga0
  obtain rfl : w0 = (.int i0) := Option.some.inj ei0
  obtain ⟨i1, ei1⟩ := is_v ga1
  obtain rfl : w1 = (.int i1) := Option.some.inj ei1
  obtain ⟨i2, ei2⟩ := is_v ga2
  obtain rfl : w2 = (.int i2) := Option.some.inj ei2
  obtain ⟨i3, ei3⟩ := is_v ga3
  obtain rfl : w3 = (.int i3) := Option.some.inj ei3
  obtain ⟨i4, ei4⟩ := is_v ga4
  obtain rfl : w4 = (.int i4) := Option.some.inj ei4
  obtain ⟨i5, ei5⟩ := is_v ga5
  obtain rfl : w5 = (.int i5) := Option.some.inj ei5
  obtain ⟨n, o, h1, h2, h3, _, L, rfl, ⟨⟨rfl, _⟩, N⟩, hq⟩ := c_law l hw tables_1 s.heap s.heap.size (Nat.le_refl _) i0 i1 i2 i3 i4 i5 p e ha hc hk s m _ below hf ((Spec.applies_iff_loose hf).mp happ).1 ⟨rfl, State.Warmed39.refl s, rfl⟩ trivial
  refine ⟨n, _, h1, h2, h3, hpost _ _ _ _ _ _ ⟨Cond.after_iff.mpr rfl, Cond.after_iff.mpr (eq_i res_at (Term.int_eval (1)) rfl), trivial⟩ ⟨hq.1, hq.2.1, (hq.2.2.sift fun y hy => Or.inr (N y hy)).mono (by decide) (by decide)⟩⟩
theorem main_1_1 : Claimed_1_1 := comes_1 fun _ _ _ _ _ _ h hF => ⟨h.1, hF⟩
theorem main_1_2 : Claimed_1_2 := comes_1 fun _ _ _ _ _ _ h hF => ⟨h.2.1, hF⟩
end Jvm.Pilot.@@N@@
namespace Jvm.Pilot.@@N@@
open Jvm Jvm.ClassFile Sem Op Lib Jvm.Free Jvm.Stand Jvm.Pilot.@@N@@.Jvm.D
/-! MADE BY PROGRAM (witnessworld.py) out of the Statement's table words and the real class files: 9 classes; the members and pool entries that the words name. The judged class is class 1, her method 1. -/
namespace start1
open Jvm.ClassFile
def u (s : String) : CpInfo := .utf8 (stringToUtf16 s)
/-- a pool by its gaps: so many unusable entries, then the entry; so many at the end -/
def gap : Nat → List CpInfo → List CpInfo
  | 0, r => r
  | n + 1, r => .unusable :: gap n r
def poolList (es : List (Nat × CpInfo)) (last : Nat) : List CpInfo := es.foldr (fun e r => gap e.1 (e.2 :: r)) (gap last [])
def pool (es : List (Nat × CpInfo)) (last : Nat) : Array CpInfo := ⟨poolList es last⟩
def fileOf (pool : Array CpInfo) (this : Nat) (attrs : Array Attribute := #[]) (ms : Array MethodInfo := #[]) (fl : Nat := 33) (sup : Nat := 0) (ifs : Array Nat := #[]) (fds : Array FieldInfo := #[]) : ClassFile where
  minorVersion := 0
  majorVersion := 65
  constantPool := pool
  accessFlags := fl
  thisClass := this
  superClass := sup
  interfaces := ifs
  fields := fds
  methods := ms
  attributes := attrs
def plain (name : String) (sup : Option ClassId) : Class where
  name := name
  kind := .ordinary
  loader := none
  accessFlags := 33
  super := sup
  interfaces := #[]
  cf := none
  fields := #[]
  methods := #[]
  instanceTypes := #[]
  staticTypes := #[]
  resolved := #[]
  callSites := []
  init := .initialized
  statics := none
  mirror := none

def pool0 : Array CpInfo := pool [(5, u "<init>"), (0, u "()V"), (1, .class_ 10), (1, u "java/lang/Object")] 113

def k0c0 : Code := { maxStack := 0, maxLocals := 1, code := object_method_1_code, exceptionTable := #[], attributes := #[] }
def k0m0 : Method := { name := "<init>", desc := "()V", sig := { parameters := [], returnType := none }, accessFlags := 1, code := some k0c0 }
/-- java/lang/Object -/
def k0 : Class := { plain "java/lang/Object" none with
  accessFlags := 33
  interfaces := #[]
  cf := some (fileOf pool0 8 #[] #[{ accessFlags := 1, nameIndex := 5, descriptorIndex := 6, attributes := #[] }] 33 0 #[] #[])
  fields := #[]
  methods := #[k0m0]
  instanceTypes := #[]
  staticTypes := #[]
  resolved := Array.replicate 124 none
  statics := none }

def pool1 : Array CpInfo := pool [(2, .class_ 4), (1, u "java/lang/Object"), (0, u "<init>"), (0, u "()V"), (0, .integer 65535), (0, .class_ 9), (0, u "com/example/framewire/framewire/rfb/Tiles"), (0, .methodref 8 11), (0, .nameAndType 5 12), (0, u "(I)V"), (0, .methodref 8 14), (0, .nameAndType 15 16), (0, u "start"), (0, u "(IIII)V"), (0, .methodref 8 18), (0, .nameAndType 19 6), (0, u "next"), (0, .methodref 8 21), (0, .nameAndType 22 23), (0, u "done"), (0, u "()Z"), (0, .methodref 8 25), (0, .nameAndType 26 27), (0, u "x"), (0, u "()I"), (0, .methodref 8 29), (0, .nameAndType 30 27), (0, u "y"), (0, .class_ 32), (0, u "com/example/framewire/framewire/rfb/TilesNextPinLaw"), (2, u "law"), (0, u "(IIIIII)Z")] 3

def k1m0 : Method := { name := "<init>", desc := "()V", sig := { parameters := [], returnType := none }, accessFlags := 1, code := none }
def k1c1 : Code := { maxStack := 6, maxLocals := 18, code := code, exceptionTable := #[], attributes := #[] }
def k1m1 : Method := { name := "law", desc := "(IIIIII)Z", sig := { parameters := [.int, .int, .int, .int, .int, .int], returnType := some .boolean }, accessFlags := 9, code := some k1c1 }
/-- com/example/framewire/framewire/rfb/TilesNextPinLaw -/
def k1 : Class := { plain "com/example/framewire/framewire/rfb/TilesNextPinLaw" (some 0) with
  accessFlags := 49
  interfaces := #[]
  cf := some (fileOf pool1 31 #[] #[{ accessFlags := 1, nameIndex := 5, descriptorIndex := 6, attributes := #[] }, { accessFlags := 9, nameIndex := 35, descriptorIndex := 36, attributes := #[] }] 49 2 #[] #[])
  fields := #[]
  methods := #[k1m0, k1m1]
  instanceTypes := #[]
  staticTypes := #[]
  resolved := Array.replicate 40 none
  statics := none }

def pool2 : Array CpInfo := pool [(1, .methodref 2 3), (0, .class_ 4), (0, .nameAndType 5 6), (0, u "java/lang/Object"), (0, u "<init>"), (0, u "()V"), (0, .fieldref 8 9), (0, .class_ 10), (0, .nameAndType 11 12), (0, u "com/example/framewire/framewire/rfb/Tiles"), (0, u "size"), (0, u "I"), (0, .fieldref 8 14), (0, .nameAndType 15 12), (0, u "left"), (0, .fieldref 8 17), (0, .nameAndType 18 12), (0, u "right"), (0, .fieldref 8 20), (0, .nameAndType 21 12), (0, u "bottom"), (0, .fieldref 8 23), (0, .nameAndType 24 12), (0, u "x"), (0, .fieldref 8 26), (0, .nameAndType 27 12), (0, u "y"), (9, u "()I"), (14, u "(I)V"), (2, u "start"), (0, u "(IIII)V"), (1, u "done"), (0, u "()Z"), (0, u "next")] 6

def k2c0 : Code := { maxStack := 2, maxLocals := 2, code := prog_102_method_1_code, exceptionTable := #[], attributes := #[] }
def k2m0 : Method := { name := "<init>", desc := "(I)V", sig := { parameters := [.int], returnType := none }, accessFlags := 0, code := some k2c0 }
def k2c1 : Code := { maxStack := 3, maxLocals := 5, code := prog_102_method_2_code, exceptionTable := #[], attributes := #[] }
def k2m1 : Method := { name := "start", desc := "(IIII)V", sig := { parameters := [.int, .int, .int, .int], returnType := none }, accessFlags := 0, code := some k2c1 }
def k2c2 : Code := { maxStack := 2, maxLocals := 1, code := prog_102_method_3_code, exceptionTable := #[], attributes := #[] }
def k2m2 : Method := { name := "done", desc := "()Z", sig := { parameters := [], returnType := some .boolean }, accessFlags := 0, code := some k2c2 }
def k2c3 : Code := { maxStack := 3, maxLocals := 1, code := prog_102_method_4_code, exceptionTable := #[], attributes := #[] }
def k2m3 : Method := { name := "next", desc := "()V", sig := { parameters := [], returnType := none }, accessFlags := 0, code := some k2c3 }
def k2c4 : Code := { maxStack := 1, maxLocals := 1, code := prog_102_method_5_code, exceptionTable := #[], attributes := #[] }
def k2m4 : Method := { name := "x", desc := "()I", sig := { parameters := [], returnType := some .int }, accessFlags := 0, code := some k2c4 }
def k2c5 : Code := { maxStack := 1, maxLocals := 1, code := prog_102_method_6_code, exceptionTable := #[], attributes := #[] }
def k2m5 : Method := { name := "y", desc := "()I", sig := { parameters := [], returnType := some .int }, accessFlags := 0, code := some k2c5 }
/-- com/example/framewire/framewire/rfb/Tiles -/
def k2 : Class := { plain "com/example/framewire/framewire/rfb/Tiles" (some 0) with
  accessFlags := 48
  interfaces := #[]
  cf := some (fileOf pool2 8 #[] #[{ accessFlags := 0, nameIndex := 5, descriptorIndex := 52, attributes := #[] }, { accessFlags := 0, nameIndex := 55, descriptorIndex := 56, attributes := #[] }, { accessFlags := 0, nameIndex := 58, descriptorIndex := 59, attributes := #[] }, { accessFlags := 0, nameIndex := 60, descriptorIndex := 6, attributes := #[] }, { accessFlags := 0, nameIndex := 24, descriptorIndex := 37, attributes := #[] }, { accessFlags := 0, nameIndex := 27, descriptorIndex := 37, attributes := #[] }] 48 2 #[] #[{ accessFlags := 18, nameIndex := 11, descriptorIndex := 12, attributes := #[] }, { accessFlags := 2, nameIndex := 15, descriptorIndex := 12, attributes := #[] }, { accessFlags := 2, nameIndex := 18, descriptorIndex := 12, attributes := #[] }, { accessFlags := 2, nameIndex := 21, descriptorIndex := 12, attributes := #[] }, { accessFlags := 2, nameIndex := 24, descriptorIndex := 12, attributes := #[] }, { accessFlags := 2, nameIndex := 27, descriptorIndex := 12, attributes := #[] }])
  fields := #[{ name := "size", type := .int, accessFlags := 18, slot := 0, constantValue := 0 }, { name := "left", type := .int, accessFlags := 2, slot := 1, constantValue := 0 }, { name := "right", type := .int, accessFlags := 2, slot := 2, constantValue := 0 }, { name := "bottom", type := .int, accessFlags := 2, slot := 3, constantValue := 0 }, { name := "x", type := .int, accessFlags := 2, slot := 4, constantValue := 0 }, { name := "y", type := .int, accessFlags := 2, slot := 5, constantValue := 0 }]
  methods := #[k2m0, k2m1, k2m2, k2m3, k2m4, k2m5]
  instanceTypes := #[.int, .int, .int, .int, .int, .int]
  staticTypes := #[]
  resolved := Array.replicate 67 none
  statics := none }

def pool3 : Array CpInfo := pool [(1, u "java/lang/Cloneable"), (0, .class_ 1), (0, u "java/lang/Object"), (0, .class_ 3)] 3

/-- java/lang/Cloneable -/
def k3 : Class := { plain "java/lang/Cloneable" (some 0) with
  accessFlags := 1537
  interfaces := #[]
  cf := some (fileOf pool3 2 #[] #[] 1537 4 #[] #[])
  fields := #[]
  methods := #[]
  instanceTypes := #[]
  staticTypes := #[]
  resolved := Array.replicate 8 none
  statics := none }

def pool4 : Array CpInfo := pool [(1, u "java/io/Serializable"), (0, .class_ 1), (0, u "java/lang/Object"), (0, .class_ 3)] 3

/-- java/io/Serializable -/
def k4 : Class := { plain "java/io/Serializable" (some 0) with
  accessFlags := 1537
  interfaces := #[]
  cf := some (fileOf pool4 2 #[] #[] 1537 4 #[] #[])
  fields := #[]
  methods := #[]
  instanceTypes := #[]
  staticTypes := #[]
  resolved := Array.replicate 8 none
  statics := none }

/-- the primitive byte -/
def k5 : Class := { plain "byte" none with kind := .primitive 'B', accessFlags := 0x411 }
/-- [B -/
def k6 : Class := { plain "[B" (some 0) with kind := .array 5 .byte, interfaces := #[3, 4], accessFlags := 1041 }

/-- the primitive int -/
def k7 : Class := { plain "int" none with kind := .primitive 'I', accessFlags := 0x411 }
/-- [I -/
def k8 : Class := { plain "[I" (some 0) with kind := .array 7 .int, interfaces := #[3, 4], accessFlags := 1041 }

def heap : Heap := #[]
def classes : Array Class := #[k0, k1, k2, k3, k4, k5, k6, k7, k8]
def interned : List (Array UInt16 × Addr) := []
def slotsUsed : Nat := 0
def theMethod : MethodId := ⟨1, 1⟩
def args0 : Array Value := #[.int 5, .int 5, .int 5, .int 5, .int 5, .int 5]
def aboutOver (below : List Frame) : State where
  vm := { classes := classes, interned := interned.toArray }
  heap := heap
  slotsUsed := slotsUsed
  threads := #[{ frames := .invoking theMethod args0 :: below }]
def below0 : List Frame := [.native { method := ⟨0, 0⟩, args := #[] }]
def about1 : State := aboutOver below0
def p0 : Program := .bare "" "" ""
def e0 : Env := launch0.env 0 0 0
theorem w_frames : about1.frames = Frame.invoking theMethod args0 :: below0 := rfl
set_option maxRecDepth 65536 in
theorem w_args : argsFit about1.vm theMethod args0 = true := by decide +kernel
set_option maxRecDepth 65536 in
theorem w_heap : heapFits about1 = true := by decide +kernel
set_option maxRecDepth 65536 in
theorem w_runnable : about1.curStatus? = some .runnable := by decide +kernel
set_option maxRecDepth 65536 in
theorem w_alone : about1.alone = true := by decide +kernel
set_option maxRecDepth 65536 in
theorem w_named : about1.methodNamed? x = some theMethod := by decide +kernel
set_option maxRecDepth 65536 in
theorem w_hears : about1.hears theMethod below0 = true := by decide +kernel
set_option maxRecDepth 65536 in
theorem w_ripe : about1.ripe theMethod args0 below0 = true := by decide +kernel
theorem w_running : about1.status = .running := rfl
set_option maxRecDepth 65536 in
theorem w_room : about1.hasRoom e0.platform room_1 = true :=
  launch0.hasRoom_least _ room_1 (by decide +kernel) (by decide +kernel) (by decide +kernel) (by decide +kernel) (by decide +kernel) (by decide +kernel)
theorem allAtoms_all (ts : List Jvm.Cond) (a : Array Jvm.Value) (st : Jvm.State) : (allAtoms ts).before a st = ts.all (fun c => c.before a st) := by
  induction ts with
  | nil => rfl
  | cons c t ih =>
    show (Jvm.Cond.and c (allAtoms t)).before a st = _
    rw [Jvm.Cond.before_and, ih, List.all_cons]
def words1 : List Jvm.Cond := Jvm.Cond.code x code maxLocals ret :: tables_1
/-- a 'code' word, met by the world's own term for the bytes: nothing is compared byte by byte -/
theorem code_word {y : MethodName} {bytes : ByteArray} {mx : Nat} {rt : Option FieldType} {a : Array Value} {s : State} {m : MethodId} {meth : Method} {c : Code} (h1 : s.methodNamed? y = some m) (h2 : s.vm.method? m = some meth) (h3 : meth.code = some c) (h4 : c.code = bytes)
    (h5 : (c.maxLocals == mx && c.exceptionTable.isEmpty && decide (c.maxStack ≤ mostOperands) && decide (meth.sig.returnType = rt) && !meth.locks && decide (parseMethodDescriptor y.desc = some meth.sig)) = true) : (Jvm.Cond.code y bytes mx rt).before a s = true := by
  simp only [Bool.and_eq_true, beq_iff_eq, Bool.not_eq_true', decide_eq_true_eq] at h5
  obtain ⟨⟨⟨⟨⟨g1, g2⟩, g3⟩, g4⟩, g5⟩, g6⟩ := h5
  simp [Cond.before, Cond.holds, Cond.value, h1, h2, h3, h4, g1, g2, g3, g4, g5, g6]
def isCode : Jvm.Cond → Bool
  | .code _ _ _ _ => true
  | _ => false
theorem all_split {L : List Jvm.Cond} {P : Jvm.Cond → Bool} (h1 : L.all (fun c => isCode c || P c) = true) (h2 : ∀ c ∈ L.filter isCode, P c = true) : L.all P = true := by
  refine List.all_eq_true.mpr fun c hc => ?_
  have h := List.all_eq_true.mp h1 c hc
  rcases Bool.eq_false_or_eq_true (isCode c) with hi | hi
  · exact h2 c (List.mem_filter.mpr ⟨hc, hi⟩)
  · simpa [hi] using h
set_option maxRecDepth 65536 in
theorem w_c0 : (Jvm.Cond.code x code maxLocals ret).before args0 about1 = true := code_word (m := ⟨1, 1⟩) (meth := k1m1) (c := k1c1) (by decide +kernel) rfl rfl rfl (by decide +kernel)
set_option maxRecDepth 65536 in
theorem w_c1 : (Jvm.Cond.code ({ cls := "com/example/framewire/framewire/rfb/Tiles", name := "<init>", desc := "(I)V" } : Jvm.MethodName) prog_102_method_1_code (2 : Nat) (Option.none : Option Jvm.ClassFile.FieldType)).before args0 about1 = true := code_word (m := ⟨2, 0⟩) (meth := k2m0) (c := k2c0) (by decide +kernel) rfl rfl rfl (by decide +kernel)
set_option maxRecDepth 65536 in
theorem w_c2 : (Jvm.Cond.code ({ cls := "java/lang/Object", name := "<init>", desc := "()V" } : Jvm.MethodName) object_method_1_code (1 : Nat) (Option.none : Option Jvm.ClassFile.FieldType)).before args0 about1 = true := code_word (m := ⟨0, 0⟩) (meth := k0m0) (c := k0c0) (by decide +kernel) rfl rfl rfl (by decide +kernel)
set_option maxRecDepth 65536 in
theorem w_c3 : (Jvm.Cond.code ({ cls := "com/example/framewire/framewire/rfb/Tiles", name := "start", desc := "(IIII)V" } : Jvm.MethodName) prog_102_method_2_code (5 : Nat) (Option.none : Option Jvm.ClassFile.FieldType)).before args0 about1 = true := code_word (m := ⟨2, 1⟩) (meth := k2m1) (c := k2c1) (by decide +kernel) rfl rfl rfl (by decide +kernel)
set_option maxRecDepth 65536 in
theorem w_c4 : (Jvm.Cond.code ({ cls := "com/example/framewire/framewire/rfb/Tiles", name := "next", desc := "()V" } : Jvm.MethodName) prog_102_method_4_code (1 : Nat) (Option.none : Option Jvm.ClassFile.FieldType)).before args0 about1 = true := code_word (m := ⟨2, 3⟩) (meth := k2m3) (c := k2c3) (by decide +kernel) rfl rfl rfl (by decide +kernel)
set_option maxRecDepth 65536 in
theorem w_c5 : (Jvm.Cond.code ({ cls := "com/example/framewire/framewire/rfb/Tiles", name := "x", desc := "()I" } : Jvm.MethodName) prog_102_method_5_code (1 : Nat) (Option.some Jvm.ClassFile.FieldType.int)).before args0 about1 = true := code_word (m := ⟨2, 4⟩) (meth := k2m4) (c := k2c4) (by decide +kernel) rfl rfl rfl (by decide +kernel)
set_option maxRecDepth 65536 in
theorem w_c6 : (Jvm.Cond.code ({ cls := "com/example/framewire/framewire/rfb/Tiles", name := "y", desc := "()I" } : Jvm.MethodName) prog_102_method_6_code (1 : Nat) (Option.some Jvm.ClassFile.FieldType.int)).before args0 about1 = true := code_word (m := ⟨2, 5⟩) (meth := k2m5) (c := k2c5) (by decide +kernel) rfl rfl rfl (by decide +kernel)
set_option maxRecDepth 65536 in
theorem w_c7 : (Jvm.Cond.code ({ cls := "com/example/framewire/framewire/rfb/Tiles", name := "done", desc := "()Z" } : Jvm.MethodName) prog_102_method_3_code (1 : Nat) (Option.some Jvm.ClassFile.FieldType.boolean)).before args0 about1 = true := code_word (m := ⟨2, 2⟩) (meth := k2m2) (c := k2c2) (by decide +kernel) rfl rfl rfl (by decide +kernel)
def codes1 : List Jvm.Cond := [Jvm.Cond.code x code maxLocals ret, Jvm.Cond.code ({ cls := "com/example/framewire/framewire/rfb/Tiles", name := "<init>", desc := "(I)V" } : Jvm.MethodName) prog_102_method_1_code (2 : Nat) (Option.none : Option Jvm.ClassFile.FieldType), Jvm.Cond.code ({ cls := "java/lang/Object", name := "<init>", desc := "()V" } : Jvm.MethodName) object_method_1_code (1 : Nat) (Option.none : Option Jvm.ClassFile.FieldType), Jvm.Cond.code ({ cls := "com/example/framewire/framewire/rfb/Tiles", name := "start", desc := "(IIII)V" } : Jvm.MethodName) prog_102_method_2_code (5 : Nat) (Option.none : Option Jvm.ClassFile.FieldType), Jvm.Cond.code ({ cls := "com/example/framewire/framewire/rfb/Tiles", name := "next", desc := "()V" } : Jvm.MethodName) prog_102_method_4_code (1 : Nat) (Option.none : Option Jvm.ClassFile.FieldType), Jvm.Cond.code ({ cls := "com/example/framewire/framewire/rfb/Tiles", name := "x", desc := "()I" } : Jvm.MethodName) prog_102_method_5_code (1 : Nat) (Option.some Jvm.ClassFile.FieldType.int), Jvm.Cond.code ({ cls := "com/example/framewire/framewire/rfb/Tiles", name := "y", desc := "()I" } : Jvm.MethodName) prog_102_method_6_code (1 : Nat) (Option.some Jvm.ClassFile.FieldType.int), Jvm.Cond.code ({ cls := "com/example/framewire/framewire/rfb/Tiles", name := "done", desc := "()Z" } : Jvm.MethodName) prog_102_method_3_code (1 : Nat) (Option.some Jvm.ClassFile.FieldType.boolean)]
set_option maxRecDepth 65536 in
theorem codes_eq : words1.filter isCode = codes1 := rfl
theorem w_codes : ∀ c ∈ words1.filter isCode, c.before args0 about1 = true := by
  rw [codes_eq]
  intro c hc
  simp only [codes1, List.mem_cons, List.not_mem_nil, or_false] at hc
  rcases hc with rfl | rfl | rfl | rfl | rfl | rfl | rfl | rfl
  · exact w_c0
  · exact w_c1
  · exact w_c2
  · exact w_c3
  · exact w_c4
  · exact w_c5
  · exact w_c6
  · exact w_c7
set_option maxRecDepth 65536 in
theorem w_t1 : (words1.take 24).all (fun c => isCode c || c.before args0 about1) = true := by decide +kernel
set_option maxRecDepth 65536 in
theorem w_t2 : (words1.drop 24).all (fun c => isCode c || c.before args0 about1) = true := by decide +kernel
theorem w_tables : (allAtoms (Jvm.Cond.code x code maxLocals ret :: tables_1)).before args0 about1 = true := by
  rw [allAtoms_all]
  show words1.all (fun c => c.before args0 about1) = true
  refine all_split ?_ w_codes
  rw [← List.take_append_drop 24 words1, List.all_append, w_t1, w_t2]
  rfl
set_option maxRecDepth 65536 in
theorem w_case : (Jvm.Cond.and given_1 narrow_1).before args0 about1 = true := by decide +kernel
theorem w_applies : (headSpec (Jvm.Cond.code x code maxLocals ret :: tables_1) room_1).applies x e0.platform about1 = true :=
  (Spec.applies_iff w_frames).mpr ⟨w_running, w_runnable, w_alone, w_named, w_hears, w_ripe, w_room, w_tables⟩
theorem atStart : AtStart classFile x code maxLocals ret World_1 tables_1 room_1 Calls_1 rest_1 Pre_1 launch0 p0 e0 about1 theMethod args0 below0 :=
  ⟨lists_1, trivial, launch0.admits_env _ _ _, launch0.least_env, fairChoices_fair.cas, fairChoices_fair.clock, w_frames, w_args, w_heap, w_applies, trivial, trivial, w_case⟩
end start1
theorem witness_1 : WitnessClaimed_1 := ⟨start1.p0, start1.e0, start1.about1, start1.theMethod, start1.args0, start1.below0, start1.atStart⟩
end Jvm.Pilot.@@N@@
