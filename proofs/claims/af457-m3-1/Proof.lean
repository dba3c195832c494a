import JvmDerived
import JvmDerived.Pilot.@@N@@Statement
import JvmDerived.Pilot.@@N@@Code
set_option linter.unusedVariables false
set_option linter.unusedSimpArgs false
namespace Jvm.Pilot.@@N@@
open Jvm Jvm.ClassFile Sem Op Lib Jvm.Free Jvm.Stand Jvm.LawKit Jvm.RoadKit Bundle Jvm.Pilot.@@N@@.Jvm.D
/-- Java's shifts -/
def shlI (x y : Int32) : Int32 := x <<< (y &&& 31)
def shrI (x y : Int32) : Int32 := x >>> (y &&& 31)
def ushrI (x y : Int32) : Int32 := (x.toUInt32 >>> (y &&& 31).toUInt32).toInt32
def shlJ (x : Int64) (y : Int32) : Int64 := x <<< (y &&& 0x3f).toInt64
def shrJ (x : Int64) (y : Int32) : Int64 := x >>> (y &&& 0x3f).toInt64
def ushrJ (x : Int64) (y : Int32) : Int64 := (x.toUInt64 >>> (y &&& 0x3f).toInt64.toUInt64).toInt64
section Kit
variable {p : Program} {l : Launch} {e : Env} {R : Room} {s : State} {m : MethodId} {args : Array Value} {below : List Frame} {meth : Method} {c : ClassFile.Code} {Z : State} {a0 : Array Value} {n0 : Nat} {Q : Option Value → Heap → Prop} {K N : Nat} {h : Heap} {k n : Nat} {own : String} {bytes : ByteArray} {maxl : Nat} {ret : Option FieldType} {nm : String} {pc pc' pc1 pct : Nat} {Ls : Array Slot} {st : List Value}
/-- the run from T0 comes back with a value and a heap of which Q holds, having written nothing below n0 -/
def Ends (p : Program) (e : Env) (below : List Frame) (s : State) (n0 : Nat) (Q : Option Value → Heap → Prop) (K N : Nat) (T0 : State) : Prop :=
  ∃ t o, Steps p.tables e below T0 t ∧ t.status = .running ∧ Ended t below o ∧ ∃ v L, o = .returned v ∧ (Q v t.heap ∧ Fr n0 L) ∧ FrameEnd s o t L K N
/-- from every state of this invocation whose heap is h and whose top frame is f the run comes back so -/
def Go (p : Program) (l : Launch) (e : Env) (R : Room) (s : State) (m : MethodId) (args : Array Value) (below : List Frame) (meth : Method) (c : ClassFile.Code) (n0 : Nat) (Q : Option Value → Heap → Prop) (K N : Nat) (h : Heap) (k n : Nat) (f : JFrame) : Prop :=
  ∀ T L, Fr n0 L → Stand p l e R s m args below meth c T L k n → T.heap = h → Ends p e below s n0 Q K N (T.setTop f)
/-- what is known of the invocation throughout -/
def Cx (p : Program) (s : State) (m : MethodId) (meth : Method) (c : ClassFile.Code) (Z : State) (n0 : Nat) (own : String) (bytes : ByteArray) (maxl : Nat) (ret : Option FieldType) (nm : String) : Prop :=
  p.tables.exec = Jvm.exec ∧ Z.Warmed39 s.vm ∧ s.vm.findClass own = some m.cls ∧ c.code = bytes ∧ c.maxLocals = maxl ∧ meth.sig.returnType = ret ∧ meth.locks = false ∧ meth.name = nm ∧ n0 ≤ s.heap.size
def In (b : ByteArray) (pc len : Nat) (i : Instr) (pc' : Nat) : Prop := decode b pc = .ok (i, len) ∧ pc' = pc + len
def Jm (b : ByteArray) (pc : Nat) (i : Int → Instr) (pc' pct : Nat) : Prop := ∃ o, decode b pc = .ok (i o, 3) ∧ pc' = pc + 3 ∧ 0 ≤ (pc : Int) + o ∧ ((pc : Int) + o).toNat = pct
theorem g_st {f f' : JFrame} (H : ∀ {T L}, Stand p l e R s m args below meth c T L k n → T.heap = h → ∀ t, Steps p.tables e below (T.setTop f') t → Steps p.tables e below (T.setTop f) t) (G : Go p l e R s m args below meth c n0 Q K N h k n (f')) : Go p l e R s m args below meth c n0 Q K N h k n f := fun T L hL X eT => by
  obtain ⟨t, o, h1, h2⟩ := G T L hL X eT
  exact ⟨t, o, H X eT t h1, h2⟩
theorem g_cast {f f' : JFrame} (q : f = f') (G : Go p l e R s m args below meth c n0 Q K N h k n (f')) : Go p l e R s m args below meth c n0 Q K N h k n f := q ▸ G
theorem g_more {k' n' : Nat} {f : JFrame} (hk : k ≤ k') (hn : n ≤ n') (G : Go p l e R s m args below meth c n0 Q K N h (k') (n') f) : Go p l e R s m args below meth c n0 Q K N h k n f := fun T L hL X eT => G T L hL (X.more hk hn) eT
theorem Stand.up {T : State} {L : List Loc} (X : Stand p l e R s m args below meth c T L k n) : s.heap.size ≤ T.heap.size := by
  exact X.same.2.1
theorem g_iadd (C : Cx p s m meth c Z n0 own bytes maxl ret nm) {x y : Int32} (d : In bytes pc 1 (.iadd) pc') (G : Go p l e R s m args below meth c n0 Q K N h k n (mkF m pc' Ls (.int (x + y) :: st))) : Go p l e R s m args below meth c n0 Q K N h k n (mkF m pc Ls (.int y :: .int x :: st)) := by
  obtain ⟨d, rfl⟩ := d
  exact g_st (fun X _ t kt => XS.iadd X.here C.1 rfl (hb C.2.2.2.1 d) rfl kt) G
theorem g_isub (C : Cx p s m meth c Z n0 own bytes maxl ret nm) {x y : Int32} (d : In bytes pc 1 (.isub) pc') (G : Go p l e R s m args below meth c n0 Q K N h k n (mkF m pc' Ls (.int (x - y) :: st))) : Go p l e R s m args below meth c n0 Q K N h k n (mkF m pc Ls (.int y :: .int x :: st)) := by
  obtain ⟨d, rfl⟩ := d
  exact g_st (fun X _ t kt => XS.isub X.here C.1 rfl (hb C.2.2.2.1 d) rfl kt) G
theorem g_imul (C : Cx p s m meth c Z n0 own bytes maxl ret nm) {x y : Int32} (d : In bytes pc 1 (.imul) pc') (G : Go p l e R s m args below meth c n0 Q K N h k n (mkF m pc' Ls (.int (x * y) :: st))) : Go p l e R s m args below meth c n0 Q K N h k n (mkF m pc Ls (.int y :: .int x :: st)) := by
  obtain ⟨d, rfl⟩ := d
  exact g_st (fun X _ t kt => XS.imul X.here C.1 rfl (hb C.2.2.2.1 d) rfl kt) G
theorem g_iand (C : Cx p s m meth c Z n0 own bytes maxl ret nm) {x y : Int32} (d : In bytes pc 1 (.iand) pc') (G : Go p l e R s m args below meth c n0 Q K N h k n (mkF m pc' Ls (.int (x &&& y) :: st))) : Go p l e R s m args below meth c n0 Q K N h k n (mkF m pc Ls (.int y :: .int x :: st)) := by
  obtain ⟨d, rfl⟩ := d
  exact g_st (fun X _ t kt => XS.iand X.here C.1 rfl (hb C.2.2.2.1 d) rfl kt) G
theorem g_ior (C : Cx p s m meth c Z n0 own bytes maxl ret nm) {x y : Int32} (d : In bytes pc 1 (.ior) pc') (G : Go p l e R s m args below meth c n0 Q K N h k n (mkF m pc' Ls (.int (x ||| y) :: st))) : Go p l e R s m args below meth c n0 Q K N h k n (mkF m pc Ls (.int y :: .int x :: st)) := by
  obtain ⟨d, rfl⟩ := d
  exact g_st (fun X _ t kt => XS.ior X.here C.1 rfl (hb C.2.2.2.1 d) rfl kt) G
theorem g_ixor (C : Cx p s m meth c Z n0 own bytes maxl ret nm) {x y : Int32} (d : In bytes pc 1 (.ixor) pc') (G : Go p l e R s m args below meth c n0 Q K N h k n (mkF m pc' Ls (.int (x ^^^ y) :: st))) : Go p l e R s m args below meth c n0 Q K N h k n (mkF m pc Ls (.int y :: .int x :: st)) := by
  obtain ⟨d, rfl⟩ := d
  exact g_st (fun X _ t kt => XS.ixor X.here C.1 rfl (hb C.2.2.2.1 d) rfl kt) G
theorem g_idiv (C : Cx p s m meth c Z n0 own bytes maxl ret nm) {x y : Int32} (d : In bytes pc 1 (.idiv) pc') (hy : y ≠ 0) (G : Go p l e R s m args below meth c n0 Q K N h k n (mkF m pc' Ls (.int (x / y) :: st))) : Go p l e R s m args below meth c n0 Q K N h k n (mkF m pc Ls (.int y :: .int x :: st)) := by
  obtain ⟨d, rfl⟩ := d
  exact g_st (fun X _ t kt => XS.idiv X.here C.1 rfl (hb C.2.2.2.1 d) rfl hy kt) G
theorem g_irem (C : Cx p s m meth c Z n0 own bytes maxl ret nm) {x y : Int32} (d : In bytes pc 1 (.irem) pc') (hy : y ≠ 0) (G : Go p l e R s m args below meth c n0 Q K N h k n (mkF m pc' Ls (.int (x - (x / y) * y) :: st))) : Go p l e R s m args below meth c n0 Q K N h k n (mkF m pc Ls (.int y :: .int x :: st)) := by
  obtain ⟨d, rfl⟩ := d
  exact g_st (fun X _ t kt => XS.irem X.here C.1 rfl (hb C.2.2.2.1 d) rfl hy kt) G
theorem g_iload (C : Cx p s m meth c Z n0 own bytes maxl ret nm) {i : Nat} {v : Int32} (d : In bytes pc 2 (.iload i) pc') (hl : Ls[i]? = some (.val (.int v))) (G : Go p l e R s m args below meth c n0 Q K N h k n (mkF m pc' Ls (.int v :: st))) : Go p l e R s m args below meth c n0 Q K N h k n (mkF m pc Ls st) := by
  obtain ⟨d, rfl⟩ := d
  exact g_st (fun X _ t kt => XS.iload X.here C.1 rfl (hb C.2.2.2.1 d) hl kt) G
theorem g_iloadN (C : Cx p s m meth c Z n0 own bytes maxl ret nm) {i : Fin 4} {v : Int32} (d : In bytes pc 1 (.iload_n i) pc') (hl : Ls[i.val]? = some (.val (.int v))) (G : Go p l e R s m args below meth c n0 Q K N h k n (mkF m pc' Ls (.int v :: st))) : Go p l e R s m args below meth c n0 Q K N h k n (mkF m pc Ls st) := by
  obtain ⟨d, rfl⟩ := d
  exact g_st (fun X _ t kt => XS.iloadN X.here C.1 rfl (hb C.2.2.2.1 d) hl kt) G
theorem g_istore (C : Cx p s m meth c Z n0 own bytes maxl ret nm) {i : Nat} {x : Int32} (l' : Array Slot) (d : In bytes pc 2 (.istore i) pc') (hl : storeLocals Ls i (.int x) = some l') (G : Go p l e R s m args below meth c n0 Q K N h k n (mkF m pc' l' st)) : Go p l e R s m args below meth c n0 Q K N h k n (mkF m pc Ls (.int x :: st)) := by
  obtain ⟨d, rfl⟩ := d
  exact g_st (fun X _ t kt => XS.istore X.here C.1 rfl (hb C.2.2.2.1 d) rfl hl kt) G
theorem g_istoreN (C : Cx p s m meth c Z n0 own bytes maxl ret nm) {i : Fin 4} {x : Int32} (l' : Array Slot) (d : In bytes pc 1 (.istore_n i) pc') (hl : storeLocals Ls i.val (.int x) = some l') (G : Go p l e R s m args below meth c n0 Q K N h k n (mkF m pc' l' st)) : Go p l e R s m args below meth c n0 Q K N h k n (mkF m pc Ls (.int x :: st)) := by
  obtain ⟨d, rfl⟩ := d
  exact g_st (fun X _ t kt => XS.istoreN X.here C.1 rfl (hb C.2.2.2.1 d) rfl hl kt) G
theorem g_ladd (C : Cx p s m meth c Z n0 own bytes maxl ret nm) {x y : Int64} (d : In bytes pc 1 (.ladd) pc') (G : Go p l e R s m args below meth c n0 Q K N h k n (mkF m pc' Ls (.long (x + y) :: st))) : Go p l e R s m args below meth c n0 Q K N h k n (mkF m pc Ls (.long y :: .long x :: st)) := by
  obtain ⟨d, rfl⟩ := d
  exact g_st (fun X _ t kt => XS.ladd X.here C.1 rfl (hb C.2.2.2.1 d) rfl kt) G
theorem g_lsub (C : Cx p s m meth c Z n0 own bytes maxl ret nm) {x y : Int64} (d : In bytes pc 1 (.lsub) pc') (G : Go p l e R s m args below meth c n0 Q K N h k n (mkF m pc' Ls (.long (x - y) :: st))) : Go p l e R s m args below meth c n0 Q K N h k n (mkF m pc Ls (.long y :: .long x :: st)) := by
  obtain ⟨d, rfl⟩ := d
  exact g_st (fun X _ t kt => XS.lsub X.here C.1 rfl (hb C.2.2.2.1 d) rfl kt) G
theorem g_lmul (C : Cx p s m meth c Z n0 own bytes maxl ret nm) {x y : Int64} (d : In bytes pc 1 (.lmul) pc') (G : Go p l e R s m args below meth c n0 Q K N h k n (mkF m pc' Ls (.long (x * y) :: st))) : Go p l e R s m args below meth c n0 Q K N h k n (mkF m pc Ls (.long y :: .long x :: st)) := by
  obtain ⟨d, rfl⟩ := d
  exact g_st (fun X _ t kt => XS.lmul X.here C.1 rfl (hb C.2.2.2.1 d) rfl kt) G
theorem g_land (C : Cx p s m meth c Z n0 own bytes maxl ret nm) {x y : Int64} (d : In bytes pc 1 (.land) pc') (G : Go p l e R s m args below meth c n0 Q K N h k n (mkF m pc' Ls (.long (x &&& y) :: st))) : Go p l e R s m args below meth c n0 Q K N h k n (mkF m pc Ls (.long y :: .long x :: st)) := by
  obtain ⟨d, rfl⟩ := d
  exact g_st (fun X _ t kt => XS.land X.here C.1 rfl (hb C.2.2.2.1 d) rfl kt) G
theorem g_lor (C : Cx p s m meth c Z n0 own bytes maxl ret nm) {x y : Int64} (d : In bytes pc 1 (.lor) pc') (G : Go p l e R s m args below meth c n0 Q K N h k n (mkF m pc' Ls (.long (x ||| y) :: st))) : Go p l e R s m args below meth c n0 Q K N h k n (mkF m pc Ls (.long y :: .long x :: st)) := by
  obtain ⟨d, rfl⟩ := d
  exact g_st (fun X _ t kt => XS.lor X.here C.1 rfl (hb C.2.2.2.1 d) rfl kt) G
theorem g_lxor (C : Cx p s m meth c Z n0 own bytes maxl ret nm) {x y : Int64} (d : In bytes pc 1 (.lxor) pc') (G : Go p l e R s m args below meth c n0 Q K N h k n (mkF m pc' Ls (.long (x ^^^ y) :: st))) : Go p l e R s m args below meth c n0 Q K N h k n (mkF m pc Ls (.long y :: .long x :: st)) := by
  obtain ⟨d, rfl⟩ := d
  exact g_st (fun X _ t kt => XS.lxor X.here C.1 rfl (hb C.2.2.2.1 d) rfl kt) G
theorem g_ldiv (C : Cx p s m meth c Z n0 own bytes maxl ret nm) {x y : Int64} (d : In bytes pc 1 (.ldiv) pc') (hy : y ≠ 0) (G : Go p l e R s m args below meth c n0 Q K N h k n (mkF m pc' Ls (.long (x / y) :: st))) : Go p l e R s m args below meth c n0 Q K N h k n (mkF m pc Ls (.long y :: .long x :: st)) := by
  obtain ⟨d, rfl⟩ := d
  exact g_st (fun X _ t kt => XS.ldiv X.here C.1 rfl (hb C.2.2.2.1 d) rfl hy kt) G
theorem g_lrem (C : Cx p s m meth c Z n0 own bytes maxl ret nm) {x y : Int64} (d : In bytes pc 1 (.lrem) pc') (hy : y ≠ 0) (G : Go p l e R s m args below meth c n0 Q K N h k n (mkF m pc' Ls (.long (x - (x / y) * y) :: st))) : Go p l e R s m args below meth c n0 Q K N h k n (mkF m pc Ls (.long y :: .long x :: st)) := by
  obtain ⟨d, rfl⟩ := d
  exact g_st (fun X _ t kt => XS.lrem X.here C.1 rfl (hb C.2.2.2.1 d) rfl hy kt) G
theorem g_lload (C : Cx p s m meth c Z n0 own bytes maxl ret nm) {i : Nat} {v : Int64} (d : In bytes pc 2 (.lload i) pc') (hl : Ls[i]? = some (.val (.long v))) (G : Go p l e R s m args below meth c n0 Q K N h k n (mkF m pc' Ls (.long v :: st))) : Go p l e R s m args below meth c n0 Q K N h k n (mkF m pc Ls st) := by
  obtain ⟨d, rfl⟩ := d
  exact g_st (fun X _ t kt => XS.lload X.here C.1 rfl (hb C.2.2.2.1 d) hl kt) G
theorem g_lloadN (C : Cx p s m meth c Z n0 own bytes maxl ret nm) {i : Fin 4} {v : Int64} (d : In bytes pc 1 (.lload_n i) pc') (hl : Ls[i.val]? = some (.val (.long v))) (G : Go p l e R s m args below meth c n0 Q K N h k n (mkF m pc' Ls (.long v :: st))) : Go p l e R s m args below meth c n0 Q K N h k n (mkF m pc Ls st) := by
  obtain ⟨d, rfl⟩ := d
  exact g_st (fun X _ t kt => XS.lloadN X.here C.1 rfl (hb C.2.2.2.1 d) hl kt) G
theorem g_lstore (C : Cx p s m meth c Z n0 own bytes maxl ret nm) {i : Nat} {x : Int64} (l' : Array Slot) (d : In bytes pc 2 (.lstore i) pc') (hl : storeLocals Ls i (.long x) = some l') (G : Go p l e R s m args below meth c n0 Q K N h k n (mkF m pc' l' st)) : Go p l e R s m args below meth c n0 Q K N h k n (mkF m pc Ls (.long x :: st)) := by
  obtain ⟨d, rfl⟩ := d
  exact g_st (fun X _ t kt => XS.lstore X.here C.1 rfl (hb C.2.2.2.1 d) rfl hl kt) G
theorem g_lstoreN (C : Cx p s m meth c Z n0 own bytes maxl ret nm) {i : Fin 4} {x : Int64} (l' : Array Slot) (d : In bytes pc 1 (.lstore_n i) pc') (hl : storeLocals Ls i.val (.long x) = some l') (G : Go p l e R s m args below meth c n0 Q K N h k n (mkF m pc' l' st)) : Go p l e R s m args below meth c n0 Q K N h k n (mkF m pc Ls (.long x :: st)) := by
  obtain ⟨d, rfl⟩ := d
  exact g_st (fun X _ t kt => XS.lstoreN X.here C.1 rfl (hb C.2.2.2.1 d) rfl hl kt) G
theorem g_aload (C : Cx p s m meth c Z n0 own bytes maxl ret nm) {i : Nat} {v : Value} (d : In bytes pc 2 (.aload i) pc') (hl : Ls[i]? = some (.val v)) (hv : v.isRef = true) (G : Go p l e R s m args below meth c n0 Q K N h k n (mkF m pc' Ls (v :: st))) : Go p l e R s m args below meth c n0 Q K N h k n (mkF m pc Ls st) := by
  obtain ⟨d, rfl⟩ := d
  exact g_st (fun X _ t kt => XS.aload X.here C.1 rfl (hb C.2.2.2.1 d) hl hv kt) G
theorem g_astore (C : Cx p s m meth c Z n0 own bytes maxl ret nm) {i : Nat} {x : Value} (l' : Array Slot) (d : In bytes pc 2 (.astore i) pc') (hv : x.isRef = true) (hl : storeLocals Ls i x = some l') (G : Go p l e R s m args below meth c n0 Q K N h k n (mkF m pc' l' st)) : Go p l e R s m args below meth c n0 Q K N h k n (mkF m pc Ls (x :: st)) := by
  obtain ⟨d, rfl⟩ := d
  exact g_st (fun X _ t kt => XS.astore X.here C.1 rfl (hb C.2.2.2.1 d) rfl hv hl kt) G
theorem g_aloadN (C : Cx p s m meth c Z n0 own bytes maxl ret nm) {i : Fin 4} {v : Value} (d : In bytes pc 1 (.aload_n i) pc') (hl : Ls[i.val]? = some (.val v)) (hv : v.isRef = true) (G : Go p l e R s m args below meth c n0 Q K N h k n (mkF m pc' Ls (v :: st))) : Go p l e R s m args below meth c n0 Q K N h k n (mkF m pc Ls st) := by
  obtain ⟨d, rfl⟩ := d
  exact g_st (fun X _ t kt => XS.aloadN X.here C.1 rfl (hb C.2.2.2.1 d) hl hv kt) G
theorem g_astoreN (C : Cx p s m meth c Z n0 own bytes maxl ret nm) {i : Fin 4} {x : Value} (l' : Array Slot) (d : In bytes pc 1 (.astore_n i) pc') (hv : x.isRef = true) (hl : storeLocals Ls i.val x = some l') (G : Go p l e R s m args below meth c n0 Q K N h k n (mkF m pc' l' st)) : Go p l e R s m args below meth c n0 Q K N h k n (mkF m pc Ls (x :: st)) := by
  obtain ⟨d, rfl⟩ := d
  exact g_st (fun X _ t kt => XS.astoreN X.here C.1 rfl (hb C.2.2.2.1 d) rfl hv hl kt) G
theorem g_ishl (C : Cx p s m meth c Z n0 own bytes maxl ret nm) {x y : Int32} (d : In bytes pc 1 (.ishl) pc') (G : Go p l e R s m args below meth c n0 Q K N h k n (mkF m pc' Ls (.int (shlI x y) :: st))) : Go p l e R s m args below meth c n0 Q K N h k n (mkF m pc Ls (.int y :: .int x :: st)) := by
  obtain ⟨d, rfl⟩ := d
  exact g_st (fun X _ t kt => XS.ishl X.here C.1 rfl (hb C.2.2.2.1 d) rfl kt) G
theorem g_ishr (C : Cx p s m meth c Z n0 own bytes maxl ret nm) {x y : Int32} (d : In bytes pc 1 (.ishr) pc') (G : Go p l e R s m args below meth c n0 Q K N h k n (mkF m pc' Ls (.int (shrI x y) :: st))) : Go p l e R s m args below meth c n0 Q K N h k n (mkF m pc Ls (.int y :: .int x :: st)) := by
  obtain ⟨d, rfl⟩ := d
  exact g_st (fun X _ t kt => XS.ishr X.here C.1 rfl (hb C.2.2.2.1 d) rfl kt) G
theorem g_iushr (C : Cx p s m meth c Z n0 own bytes maxl ret nm) {x y : Int32} (d : In bytes pc 1 (.iushr) pc') (G : Go p l e R s m args below meth c n0 Q K N h k n (mkF m pc' Ls (.int (ushrI x y) :: st))) : Go p l e R s m args below meth c n0 Q K N h k n (mkF m pc Ls (.int y :: .int x :: st)) := by
  obtain ⟨d, rfl⟩ := d
  exact g_st (fun X _ t kt => XS.iushr X.here C.1 rfl (hb C.2.2.2.1 d) rfl kt) G
theorem g_lshl (C : Cx p s m meth c Z n0 own bytes maxl ret nm) {x : Int64} {y : Int32} (d : In bytes pc 1 (.lshl) pc') (G : Go p l e R s m args below meth c n0 Q K N h k n (mkF m pc' Ls (.long (shlJ x y) :: st))) : Go p l e R s m args below meth c n0 Q K N h k n (mkF m pc Ls (.int y :: .long x :: st)) := by
  obtain ⟨d, rfl⟩ := d
  exact g_st (fun X _ t kt => XS.lshl X.here C.1 rfl (hb C.2.2.2.1 d) rfl kt) G
theorem g_lshr (C : Cx p s m meth c Z n0 own bytes maxl ret nm) {x : Int64} {y : Int32} (d : In bytes pc 1 (.lshr) pc') (G : Go p l e R s m args below meth c n0 Q K N h k n (mkF m pc' Ls (.long (shrJ x y) :: st))) : Go p l e R s m args below meth c n0 Q K N h k n (mkF m pc Ls (.int y :: .long x :: st)) := by
  obtain ⟨d, rfl⟩ := d
  exact g_st (fun X _ t kt => XS.lshr X.here C.1 rfl (hb C.2.2.2.1 d) rfl kt) G
theorem g_lushr (C : Cx p s m meth c Z n0 own bytes maxl ret nm) {x : Int64} {y : Int32} (d : In bytes pc 1 (.lushr) pc') (G : Go p l e R s m args below meth c n0 Q K N h k n (mkF m pc' Ls (.long (ushrJ x y) :: st))) : Go p l e R s m args below meth c n0 Q K N h k n (mkF m pc Ls (.int y :: .long x :: st)) := by
  obtain ⟨d, rfl⟩ := d
  exact g_st (fun X _ t kt => XS.lushr X.here C.1 rfl (hb C.2.2.2.1 d) rfl kt) G
theorem g_i2l (C : Cx p s m meth c Z n0 own bytes maxl ret nm) {x : Int32} (d : In bytes pc 1 (.i2l) pc') (G : Go p l e R s m args below meth c n0 Q K N h k n (mkF m pc' Ls (.long x.toInt64 :: st))) : Go p l e R s m args below meth c n0 Q K N h k n (mkF m pc Ls (.int x :: st)) := by
  obtain ⟨d, rfl⟩ := d
  exact g_st (fun X _ t kt => XS.i2l X.here C.1 rfl (hb C.2.2.2.1 d) rfl kt) G
theorem g_l2i (C : Cx p s m meth c Z n0 own bytes maxl ret nm) {x : Int64} (d : In bytes pc 1 (.l2i) pc') (G : Go p l e R s m args below meth c n0 Q K N h k n (mkF m pc' Ls (.int x.toInt32 :: st))) : Go p l e R s m args below meth c n0 Q K N h k n (mkF m pc Ls (.long x :: st)) := by
  obtain ⟨d, rfl⟩ := d
  exact g_st (fun X _ t kt => XS.l2i X.here C.1 rfl (hb C.2.2.2.1 d) rfl kt) G
theorem g_i2b (C : Cx p s m meth c Z n0 own bytes maxl ret nm) {x : Int32} (d : In bytes pc 1 (.i2b) pc') (G : Go p l e R s m args below meth c n0 Q K N h k n (mkF m pc' Ls (.int x.toInt8.toInt32 :: st))) : Go p l e R s m args below meth c n0 Q K N h k n (mkF m pc Ls (.int x :: st)) := by
  obtain ⟨d, rfl⟩ := d
  exact g_st (fun X _ t kt => XS.i2b X.here C.1 rfl (hb C.2.2.2.1 d) rfl kt) G
theorem g_ineg (C : Cx p s m meth c Z n0 own bytes maxl ret nm) {x : Int32} (d : In bytes pc 1 (.ineg) pc') (G : Go p l e R s m args below meth c n0 Q K N h k n (mkF m pc' Ls (.int (-x) :: st))) : Go p l e R s m args below meth c n0 Q K N h k n (mkF m pc Ls (.int x :: st)) := by
  obtain ⟨d, rfl⟩ := d
  exact g_st (fun X _ t kt => XS.ineg X.here C.1 rfl (hb C.2.2.2.1 d) rfl kt) G
theorem g_lneg (C : Cx p s m meth c Z n0 own bytes maxl ret nm) {x : Int64} (d : In bytes pc 1 (.lneg) pc') (G : Go p l e R s m args below meth c n0 Q K N h k n (mkF m pc' Ls (.long (-x) :: st))) : Go p l e R s m args below meth c n0 Q K N h k n (mkF m pc Ls (.long x :: st)) := by
  obtain ⟨d, rfl⟩ := d
  exact g_st (fun X _ t kt => XS.lneg X.here C.1 rfl (hb C.2.2.2.1 d) rfl kt) G
theorem g_iconst (C : Cx p s m meth c Z n0 own bytes maxl ret nm) {i : Int} (v : Int32) (hv : Int32.ofInt i = v) (d : In bytes pc 1 (.iconst i) pc') (G : Go p l e R s m args below meth c n0 Q K N h k n (mkF m pc' Ls (.int v :: st))) : Go p l e R s m args below meth c n0 Q K N h k n (mkF m pc Ls st) := by
  obtain ⟨d, rfl⟩ := d
  exact g_st (fun X _ t kt => XS.iconst X.here C.1 rfl (hb C.2.2.2.1 d) (hv ▸ kt)) G
theorem g_bipush (C : Cx p s m meth c Z n0 own bytes maxl ret nm) {i : Int} (v : Int32) (hv : (Int8.ofInt i).toInt32 = v) (d : In bytes pc 2 (.bipush i) pc') (G : Go p l e R s m args below meth c n0 Q K N h k n (mkF m pc' Ls (.int v :: st))) : Go p l e R s m args below meth c n0 Q K N h k n (mkF m pc Ls st) := by
  obtain ⟨d, rfl⟩ := d
  exact g_st (fun X _ t kt => XS.bipush X.here C.1 rfl (hb C.2.2.2.1 d) (hv ▸ kt)) G
theorem g_sipush (C : Cx p s m meth c Z n0 own bytes maxl ret nm) {i : Int} (v : Int32) (hv : (Int16.ofInt i).toInt32 = v) (d : In bytes pc 3 (.sipush i) pc') (G : Go p l e R s m args below meth c n0 Q K N h k n (mkF m pc' Ls (.int v :: st))) : Go p l e R s m args below meth c n0 Q K N h k n (mkF m pc Ls st) := by
  obtain ⟨d, rfl⟩ := d
  exact g_st (fun X _ t kt => XS.sipush X.here C.1 rfl (hb C.2.2.2.1 d) (hv ▸ kt)) G
theorem g_lconst (C : Cx p s m meth c Z n0 own bytes maxl ret nm) {i : Fin 2} (v : Int64) (hv : Int64.ofNat i = v) (d : In bytes pc 1 (.lconst i) pc') (G : Go p l e R s m args below meth c n0 Q K N h k n (mkF m pc' Ls (.long v :: st))) : Go p l e R s m args below meth c n0 Q K N h k n (mkF m pc Ls st) := by
  obtain ⟨d, rfl⟩ := d
  exact g_st (fun X _ t kt => XS.lconst X.here C.1 rfl (hb C.2.2.2.1 d) (hv ▸ kt)) G
theorem g_aconst (C : Cx p s m meth c Z n0 own bytes maxl ret nm) (d : In bytes pc 1 (.aconst_null) pc') (G : Go p l e R s m args below meth c n0 Q K N h k n (mkF m pc' Ls (.null :: st))) : Go p l e R s m args below meth c n0 Q K N h k n (mkF m pc Ls st) := by
  obtain ⟨d, rfl⟩ := d
  exact g_st (fun X _ t kt => XS.aconstNull X.here C.1 rfl (hb C.2.2.2.1 d) kt) G
theorem g_dup (C : Cx p s m meth c Z n0 own bytes maxl ret nm) {x : Value} (d : In bytes pc 1 (.dup) pc') (hc : x.category = 1) (G : Go p l e R s m args below meth c n0 Q K N h k n (mkF m pc' Ls (x :: x :: st))) : Go p l e R s m args below meth c n0 Q K N h k n (mkF m pc Ls (x :: st)) := by
  obtain ⟨d, rfl⟩ := d
  exact g_st (fun X _ t kt => XS.dup X.here C.1 rfl (hb C.2.2.2.1 d) rfl hc kt) G
theorem g_pop (C : Cx p s m meth c Z n0 own bytes maxl ret nm) {x : Value} (d : In bytes pc 1 (.pop) pc') (hc : x.category = 1) (G : Go p l e R s m args below meth c n0 Q K N h k n (mkF m pc' Ls st)) : Go p l e R s m args below meth c n0 Q K N h k n (mkF m pc Ls (x :: st)) := by
  obtain ⟨d, rfl⟩ := d
  exact g_st (fun X _ t kt => XS.pop X.here C.1 rfl (hb C.2.2.2.1 d) rfl hc kt) G
theorem g_iinc (C : Cx p s m meth c Z n0 own bytes maxl ret nm) {i : Nat} {cst : Int} {x : Int32} (y : Int32) (l' : Array Slot) (d : In bytes pc 3 (.iinc i cst) pc') (hl : Ls[i]? = some (.val (.int x))) (hv : y = x + Int32.ofInt cst) (hl' : storeLocals Ls i (.int y) = some l') (G : Go p l e R s m args below meth c n0 Q K N h k n (mkF m pc' l' st)) : Go p l e R s m args below meth c n0 Q K N h k n (mkF m pc Ls st) := by
  obtain ⟨d, rfl⟩ := d
  exact g_st (fun X _ t kt => XS.iinc X.here C.1 rfl (hb C.2.2.2.1 d) hl (hv ▸ hl') kt) G
theorem g_goto (C : Cx p s m meth c Z n0 own bytes maxl ret nm) (d : Jm bytes pc .goto pc' pct) (G : Go p l e R s m args below meth c n0 Q K N h k n (mkF m pct Ls st)) : Go p l e R s m args below meth c n0 Q K N h k n (mkF m pc Ls st) := by
  obtain ⟨o, d, rfl, h1, h2⟩ := d
  exact g_st (fun X _ t kt => XS.goto X.here C.1 rfl (pc0 := pc) (pc' := pct) rfl (hb C.2.2.2.1 d) h1 h2 kt) G
theorem g_icmp_lt (C : Cx p s m meth c Z n0 own bytes maxl ret nm) (d : Jm bytes pc (.if_icmp .lt) pc' pct) {x y : Int32} (Gt : x < y → Go p l e R s m args below meth c n0 Q K N h k n (mkF m pct Ls st)) (Gf : ¬ (x < y) → Go p l e R s m args below meth c n0 Q K N h k n (mkF m pc' Ls st)) : Go p l e R s m args below meth c n0 Q K N h k n (mkF m pc Ls (.int y :: .int x :: st)) := by
  obtain ⟨o, d, rfl, h1, h2⟩ := d
  by_cases q : x < y
  · exact g_st (fun X _ t kt => XS.icmpYes X.here C.1 rfl (pc0 := pc) (pc' := pct) rfl (hb C.2.2.2.1 d) rfl (tlt q).1 h1 h2 kt) (Gt q)
  · exact g_st (fun X _ t kt => XS.icmpNo X.here C.1 rfl (hb C.2.2.2.1 d) rfl (flt q).1 kt) (Gf q)
theorem g_if_lt (C : Cx p s m meth c Z n0 own bytes maxl ret nm) (d : Jm bytes pc (.ifCond .lt) pc' pct) {x : Int32} (Gt : x < 0 → Go p l e R s m args below meth c n0 Q K N h k n (mkF m pct Ls st)) (Gf : ¬ (x < 0) → Go p l e R s m args below meth c n0 Q K N h k n (mkF m pc' Ls st)) : Go p l e R s m args below meth c n0 Q K N h k n (mkF m pc Ls (.int x :: st)) := by
  obtain ⟨o, d, rfl, h1, h2⟩ := d
  by_cases q : x < 0
  · exact g_st (fun X _ t kt => XS.ifYes X.here C.1 rfl (pc0 := pc) (pc' := pct) rfl (hb C.2.2.2.1 d) rfl ((if0 _ _).trans (tlt q).1) h1 h2 kt) (Gt q)
  · exact g_st (fun X _ t kt => XS.ifNo X.here C.1 rfl (hb C.2.2.2.1 d) rfl ((if0 _ _).trans (flt q).1) kt) (Gf q)
theorem g_lcmp_lt (C : Cx p s m meth c Z n0 own bytes maxl ret nm) {x y : Int64} (d1 : In bytes pc 1 .lcmp pc1) (d : Jm bytes pc1 (.ifCond .lt) pc' pct) (Gt : x < y → Go p l e R s m args below meth c n0 Q K N h k n (mkF m pct Ls st)) (Gf : ¬ (x < y) → Go p l e R s m args below meth c n0 Q K N h k n (mkF m pc' Ls st)) : Go p l e R s m args below meth c n0 Q K N h k n (mkF m pc Ls (.long y :: .long x :: st)) := by
  obtain ⟨d1, rfl⟩ := d1
  refine g_st (fun X _ t kt => XS.lcmp X.here C.1 rfl (hb C.2.2.2.1 d1) rfl kt) ?_
  exact g_if_lt C d (fun q => Gt ((lw_lt x y).mp q)) (fun q => Gf (fun z => q ((lw_lt x y).mpr z)))
theorem g_icmp_ge (C : Cx p s m meth c Z n0 own bytes maxl ret nm) (d : Jm bytes pc (.if_icmp .ge) pc' pct) {x y : Int32} (Gt : ¬ (x < y) → Go p l e R s m args below meth c n0 Q K N h k n (mkF m pct Ls st)) (Gf : x < y → Go p l e R s m args below meth c n0 Q K N h k n (mkF m pc' Ls st)) : Go p l e R s m args below meth c n0 Q K N h k n (mkF m pc Ls (.int y :: .int x :: st)) := by
  obtain ⟨o, d, rfl, h1, h2⟩ := d
  by_cases q : ¬ (x < y)
  · exact g_st (fun X _ t kt => XS.icmpYes X.here C.1 rfl (pc0 := pc) (pc' := pct) rfl (hb C.2.2.2.1 d) rfl (flt q).2.1 h1 h2 kt) (Gt q)
  · exact g_st (fun X _ t kt => XS.icmpNo X.here C.1 rfl (hb C.2.2.2.1 d) rfl (tlt (Decidable.not_not.mp q)).2.1 kt) (Gf (Decidable.not_not.mp q))
theorem g_if_ge (C : Cx p s m meth c Z n0 own bytes maxl ret nm) (d : Jm bytes pc (.ifCond .ge) pc' pct) {x : Int32} (Gt : ¬ (x < 0) → Go p l e R s m args below meth c n0 Q K N h k n (mkF m pct Ls st)) (Gf : x < 0 → Go p l e R s m args below meth c n0 Q K N h k n (mkF m pc' Ls st)) : Go p l e R s m args below meth c n0 Q K N h k n (mkF m pc Ls (.int x :: st)) := by
  obtain ⟨o, d, rfl, h1, h2⟩ := d
  by_cases q : ¬ (x < 0)
  · exact g_st (fun X _ t kt => XS.ifYes X.here C.1 rfl (pc0 := pc) (pc' := pct) rfl (hb C.2.2.2.1 d) rfl ((if0 _ _).trans (flt q).2.1) h1 h2 kt) (Gt q)
  · exact g_st (fun X _ t kt => XS.ifNo X.here C.1 rfl (hb C.2.2.2.1 d) rfl ((if0 _ _).trans (tlt (Decidable.not_not.mp q)).2.1) kt) (Gf (Decidable.not_not.mp q))
theorem g_lcmp_ge (C : Cx p s m meth c Z n0 own bytes maxl ret nm) {x y : Int64} (d1 : In bytes pc 1 .lcmp pc1) (d : Jm bytes pc1 (.ifCond .ge) pc' pct) (Gt : ¬ (x < y) → Go p l e R s m args below meth c n0 Q K N h k n (mkF m pct Ls st)) (Gf : x < y → Go p l e R s m args below meth c n0 Q K N h k n (mkF m pc' Ls st)) : Go p l e R s m args below meth c n0 Q K N h k n (mkF m pc Ls (.long y :: .long x :: st)) := by
  obtain ⟨d1, rfl⟩ := d1
  refine g_st (fun X _ t kt => XS.lcmp X.here C.1 rfl (hb C.2.2.2.1 d1) rfl kt) ?_
  exact g_if_ge C d (fun q => Gt (fun z => q ((lw_lt x y).mpr z))) (fun q => Gf ((lw_lt x y).mp q))
theorem g_icmp_gt (C : Cx p s m meth c Z n0 own bytes maxl ret nm) (d : Jm bytes pc (.if_icmp .gt) pc' pct) {x y : Int32} (Gt : y < x → Go p l e R s m args below meth c n0 Q K N h k n (mkF m pct Ls st)) (Gf : ¬ (y < x) → Go p l e R s m args below meth c n0 Q K N h k n (mkF m pc' Ls st)) : Go p l e R s m args below meth c n0 Q K N h k n (mkF m pc Ls (.int y :: .int x :: st)) := by
  obtain ⟨o, d, rfl, h1, h2⟩ := d
  by_cases q : y < x
  · exact g_st (fun X _ t kt => XS.icmpYes X.here C.1 rfl (pc0 := pc) (pc' := pct) rfl (hb C.2.2.2.1 d) rfl (tlt q).2.2.1 h1 h2 kt) (Gt q)
  · exact g_st (fun X _ t kt => XS.icmpNo X.here C.1 rfl (hb C.2.2.2.1 d) rfl (flt q).2.2.1 kt) (Gf q)
theorem g_if_gt (C : Cx p s m meth c Z n0 own bytes maxl ret nm) (d : Jm bytes pc (.ifCond .gt) pc' pct) {x : Int32} (Gt : 0 < x → Go p l e R s m args below meth c n0 Q K N h k n (mkF m pct Ls st)) (Gf : ¬ (0 < x) → Go p l e R s m args below meth c n0 Q K N h k n (mkF m pc' Ls st)) : Go p l e R s m args below meth c n0 Q K N h k n (mkF m pc Ls (.int x :: st)) := by
  obtain ⟨o, d, rfl, h1, h2⟩ := d
  by_cases q : 0 < x
  · exact g_st (fun X _ t kt => XS.ifYes X.here C.1 rfl (pc0 := pc) (pc' := pct) rfl (hb C.2.2.2.1 d) rfl ((if0 _ _).trans (tlt q).2.2.1) h1 h2 kt) (Gt q)
  · exact g_st (fun X _ t kt => XS.ifNo X.here C.1 rfl (hb C.2.2.2.1 d) rfl ((if0 _ _).trans (flt q).2.2.1) kt) (Gf q)
theorem g_lcmp_gt (C : Cx p s m meth c Z n0 own bytes maxl ret nm) {x y : Int64} (d1 : In bytes pc 1 .lcmp pc1) (d : Jm bytes pc1 (.ifCond .gt) pc' pct) (Gt : y < x → Go p l e R s m args below meth c n0 Q K N h k n (mkF m pct Ls st)) (Gf : ¬ (y < x) → Go p l e R s m args below meth c n0 Q K N h k n (mkF m pc' Ls st)) : Go p l e R s m args below meth c n0 Q K N h k n (mkF m pc Ls (.long y :: .long x :: st)) := by
  obtain ⟨d1, rfl⟩ := d1
  refine g_st (fun X _ t kt => XS.lcmp X.here C.1 rfl (hb C.2.2.2.1 d1) rfl kt) ?_
  exact g_if_gt C d (fun q => Gt ((lw_gt x y).mp q)) (fun q => Gf (fun z => q ((lw_gt x y).mpr z)))
theorem g_icmp_le (C : Cx p s m meth c Z n0 own bytes maxl ret nm) (d : Jm bytes pc (.if_icmp .le) pc' pct) {x y : Int32} (Gt : ¬ (y < x) → Go p l e R s m args below meth c n0 Q K N h k n (mkF m pct Ls st)) (Gf : y < x → Go p l e R s m args below meth c n0 Q K N h k n (mkF m pc' Ls st)) : Go p l e R s m args below meth c n0 Q K N h k n (mkF m pc Ls (.int y :: .int x :: st)) := by
  obtain ⟨o, d, rfl, h1, h2⟩ := d
  by_cases q : ¬ (y < x)
  · exact g_st (fun X _ t kt => XS.icmpYes X.here C.1 rfl (pc0 := pc) (pc' := pct) rfl (hb C.2.2.2.1 d) rfl (flt q).2.2.2 h1 h2 kt) (Gt q)
  · exact g_st (fun X _ t kt => XS.icmpNo X.here C.1 rfl (hb C.2.2.2.1 d) rfl (tlt (Decidable.not_not.mp q)).2.2.2 kt) (Gf (Decidable.not_not.mp q))
theorem g_if_le (C : Cx p s m meth c Z n0 own bytes maxl ret nm) (d : Jm bytes pc (.ifCond .le) pc' pct) {x : Int32} (Gt : ¬ (0 < x) → Go p l e R s m args below meth c n0 Q K N h k n (mkF m pct Ls st)) (Gf : 0 < x → Go p l e R s m args below meth c n0 Q K N h k n (mkF m pc' Ls st)) : Go p l e R s m args below meth c n0 Q K N h k n (mkF m pc Ls (.int x :: st)) := by
  obtain ⟨o, d, rfl, h1, h2⟩ := d
  by_cases q : ¬ (0 < x)
  · exact g_st (fun X _ t kt => XS.ifYes X.here C.1 rfl (pc0 := pc) (pc' := pct) rfl (hb C.2.2.2.1 d) rfl ((if0 _ _).trans (flt q).2.2.2) h1 h2 kt) (Gt q)
  · exact g_st (fun X _ t kt => XS.ifNo X.here C.1 rfl (hb C.2.2.2.1 d) rfl ((if0 _ _).trans (tlt (Decidable.not_not.mp q)).2.2.2) kt) (Gf (Decidable.not_not.mp q))
theorem g_lcmp_le (C : Cx p s m meth c Z n0 own bytes maxl ret nm) {x y : Int64} (d1 : In bytes pc 1 .lcmp pc1) (d : Jm bytes pc1 (.ifCond .le) pc' pct) (Gt : ¬ (y < x) → Go p l e R s m args below meth c n0 Q K N h k n (mkF m pct Ls st)) (Gf : y < x → Go p l e R s m args below meth c n0 Q K N h k n (mkF m pc' Ls st)) : Go p l e R s m args below meth c n0 Q K N h k n (mkF m pc Ls (.long y :: .long x :: st)) := by
  obtain ⟨d1, rfl⟩ := d1
  refine g_st (fun X _ t kt => XS.lcmp X.here C.1 rfl (hb C.2.2.2.1 d1) rfl kt) ?_
  exact g_if_le C d (fun q => Gt (fun z => q ((lw_gt x y).mpr z))) (fun q => Gf ((lw_gt x y).mp q))
theorem g_icmp_eq (C : Cx p s m meth c Z n0 own bytes maxl ret nm) (d : Jm bytes pc (.if_icmp .eq) pc' pct) {x y : Int32} (Gt : x = y → Go p l e R s m args below meth c n0 Q K N h k n (mkF m pct Ls st)) (Gf : ¬ (x = y) → Go p l e R s m args below meth c n0 Q K N h k n (mkF m pc' Ls st)) : Go p l e R s m args below meth c n0 Q K N h k n (mkF m pc Ls (.int y :: .int x :: st)) := by
  obtain ⟨o, d, rfl, h1, h2⟩ := d
  by_cases q : x = y
  · exact g_st (fun X _ t kt => XS.icmpYes X.here C.1 rfl (pc0 := pc) (pc' := pct) rfl (hb C.2.2.2.1 d) rfl (teq q).1 h1 h2 kt) (Gt q)
  · exact g_st (fun X _ t kt => XS.icmpNo X.here C.1 rfl (hb C.2.2.2.1 d) rfl (feq q).1 kt) (Gf q)
theorem g_if_eq (C : Cx p s m meth c Z n0 own bytes maxl ret nm) (d : Jm bytes pc (.ifCond .eq) pc' pct) {x : Int32} (Gt : x = 0 → Go p l e R s m args below meth c n0 Q K N h k n (mkF m pct Ls st)) (Gf : ¬ (x = 0) → Go p l e R s m args below meth c n0 Q K N h k n (mkF m pc' Ls st)) : Go p l e R s m args below meth c n0 Q K N h k n (mkF m pc Ls (.int x :: st)) := by
  obtain ⟨o, d, rfl, h1, h2⟩ := d
  by_cases q : x = 0
  · exact g_st (fun X _ t kt => XS.ifYes X.here C.1 rfl (pc0 := pc) (pc' := pct) rfl (hb C.2.2.2.1 d) rfl ((if0 _ _).trans (teq q).1) h1 h2 kt) (Gt q)
  · exact g_st (fun X _ t kt => XS.ifNo X.here C.1 rfl (hb C.2.2.2.1 d) rfl ((if0 _ _).trans (feq q).1) kt) (Gf q)
theorem g_lcmp_eq (C : Cx p s m meth c Z n0 own bytes maxl ret nm) {x y : Int64} (d1 : In bytes pc 1 .lcmp pc1) (d : Jm bytes pc1 (.ifCond .eq) pc' pct) (Gt : x = y → Go p l e R s m args below meth c n0 Q K N h k n (mkF m pct Ls st)) (Gf : ¬ (x = y) → Go p l e R s m args below meth c n0 Q K N h k n (mkF m pc' Ls st)) : Go p l e R s m args below meth c n0 Q K N h k n (mkF m pc Ls (.long y :: .long x :: st)) := by
  obtain ⟨d1, rfl⟩ := d1
  refine g_st (fun X _ t kt => XS.lcmp X.here C.1 rfl (hb C.2.2.2.1 d1) rfl kt) ?_
  exact g_if_eq C d (fun q => Gt ((lw_eq x y).mp q)) (fun q => Gf (fun z => q ((lw_eq x y).mpr z)))
theorem g_icmp_ne (C : Cx p s m meth c Z n0 own bytes maxl ret nm) (d : Jm bytes pc (.if_icmp .ne) pc' pct) {x y : Int32} (Gt : ¬ (x = y) → Go p l e R s m args below meth c n0 Q K N h k n (mkF m pct Ls st)) (Gf : x = y → Go p l e R s m args below meth c n0 Q K N h k n (mkF m pc' Ls st)) : Go p l e R s m args below meth c n0 Q K N h k n (mkF m pc Ls (.int y :: .int x :: st)) := by
  obtain ⟨o, d, rfl, h1, h2⟩ := d
  by_cases q : ¬ (x = y)
  · exact g_st (fun X _ t kt => XS.icmpYes X.here C.1 rfl (pc0 := pc) (pc' := pct) rfl (hb C.2.2.2.1 d) rfl (feq q).2 h1 h2 kt) (Gt q)
  · exact g_st (fun X _ t kt => XS.icmpNo X.here C.1 rfl (hb C.2.2.2.1 d) rfl (teq (Decidable.not_not.mp q)).2 kt) (Gf (Decidable.not_not.mp q))
theorem g_if_ne (C : Cx p s m meth c Z n0 own bytes maxl ret nm) (d : Jm bytes pc (.ifCond .ne) pc' pct) {x : Int32} (Gt : ¬ (x = 0) → Go p l e R s m args below meth c n0 Q K N h k n (mkF m pct Ls st)) (Gf : x = 0 → Go p l e R s m args below meth c n0 Q K N h k n (mkF m pc' Ls st)) : Go p l e R s m args below meth c n0 Q K N h k n (mkF m pc Ls (.int x :: st)) := by
  obtain ⟨o, d, rfl, h1, h2⟩ := d
  by_cases q : ¬ (x = 0)
  · exact g_st (fun X _ t kt => XS.ifYes X.here C.1 rfl (pc0 := pc) (pc' := pct) rfl (hb C.2.2.2.1 d) rfl ((if0 _ _).trans (feq q).2) h1 h2 kt) (Gt q)
  · exact g_st (fun X _ t kt => XS.ifNo X.here C.1 rfl (hb C.2.2.2.1 d) rfl ((if0 _ _).trans (teq (Decidable.not_not.mp q)).2) kt) (Gf (Decidable.not_not.mp q))
theorem g_lcmp_ne (C : Cx p s m meth c Z n0 own bytes maxl ret nm) {x y : Int64} (d1 : In bytes pc 1 .lcmp pc1) (d : Jm bytes pc1 (.ifCond .ne) pc' pct) (Gt : ¬ (x = y) → Go p l e R s m args below meth c n0 Q K N h k n (mkF m pct Ls st)) (Gf : x = y → Go p l e R s m args below meth c n0 Q K N h k n (mkF m pc' Ls st)) : Go p l e R s m args below meth c n0 Q K N h k n (mkF m pc Ls (.long y :: .long x :: st)) := by
  obtain ⟨d1, rfl⟩ := d1
  refine g_st (fun X _ t kt => XS.lcmp X.here C.1 rfl (hb C.2.2.2.1 d1) rfl kt) ?_
  exact g_if_ne C d (fun q => Gt (fun z => q ((lw_eq x y).mpr z))) (fun q => Gf ((lw_eq x y).mp q))
theorem g_ldc2 (C : Cx p s m meth c Z n0 own bytes maxl ret nm) {i : Nat} {v : Int64} (w : (Cond.constantLong own i v).before a0 Z = true) (d : In bytes pc 3 (.ldc2_w i) pc') (G : Go p l e R s m args below meth c n0 Q K N h k n (mkF m pc' Ls (.long v :: st))) : Go p l e R s m args below meth c n0 Q K N h k n (mkF m pc Ls st) := by
  obtain ⟨d, rfl⟩ := d
  exact g_st (fun X _ t kt => X.ldc2Long C.1 C.2.2.1 (mvT C.2.1 w) (g := mkF m pc Ls st) rfl (hb C.2.2.2.1 d) _ kt) G
theorem g_ldc (C : Cx p s m meth c Z n0 own bytes maxl ret nm) {i : Nat} {v : Int32} (w : (Cond.constant own i v).before a0 Z = true) (d : In bytes pc 2 (.ldc i) pc') (G : Go p l e R s m args below meth c n0 Q K N h k n (mkF m pc' Ls (.int v :: st))) : Go p l e R s m args below meth c n0 Q K N h k n (mkF m pc Ls st) := by
  obtain ⟨d, rfl⟩ := d
  exact g_st (fun X _ t kt => X.ldcInt C.1 C.2.2.1 (mvT C.2.1 w) (g := mkF m pc Ls st) rfl (hb C.2.2.2.1 d) _ kt) G
theorem g_getF (C : Cx p s m meth c Z n0 own bytes maxl ret nm) {i : Nat} {O f ds : String} (w : (Cond.fieldLink own i O f ds).before a0 Z = true) (d : In bytes pc 3 (.getfield i) pc') {a : Addr} {v : Value} (F : Fld Z h a O f ds v) (G : Go p l e R s m args below meth c n0 Q K N h k n (mkF m pc' Ls (v :: st))) : Go p l e R s m args below meth c n0 Q K N h k n (mkF m pc Ls (.ref a :: st)) := by
  obtain ⟨d, rfl⟩ := d
  intro T L hL X eT
  obtain ⟨T', X', e', st'⟩ := getF X C.1 C.2.1 C.2.2.1 (host := "") (Or.inl w) Via.refl eT F (g := mkF m pc Ls (.ref a :: st)) rfl rfl (hb C.2.2.2.1 d)
  obtain ⟨t, o, h1, h2⟩ := G T' L hL X' e'
  exact ⟨t, o, st' t h1, h2⟩
theorem g_putF (C : Cx p s m meth c Z n0 own bytes maxl ret nm) {i kk : Nat} {O f ds K' : String} {ty : FieldType} (w : (Cond.fieldLink own i O f ds).before a0 Z = true) (d : In bytes pc 3 (.putfield i) pc') {a : Addr} {v v' old : Value} (F : Fld Z h a O f ds old) (E : Exa Z h a K')
    (L : (Cond.lays K' O f ds).before a0 Z = true ∨ ((Cond.laysFinal K' O f ds).before a0 Z = true ∧ own = O ∧ nm = "<init>")) (wi : (Cond.instantiable K' kk).before a0 Z = true) (hty : parseFieldDescriptor ds = some ty) (hn : narrow ty v = v') (hf : fits ty v' = true) (ge : n0 ≤ a)
    (G : ∀ h', Wr h h' a (Jvm.RoadKit.slotOf Z O f ds) v' → Go p l e R s m args below meth c n0 Q K N h' k n (mkF m pc' Ls st)) : Go p l e R s m args below meth c n0 Q K N h k n (mkF m pc Ls (v :: .ref a :: st)) := by
  obtain ⟨d, rfl⟩ := d
  intro T Lo hL X eT
  have L' : (Cond.lays K' O f ds).before a0 Z = true ∨ ((Cond.laysFinal K' O f ds).before a0 Z = true ∧ own = O ∧ meth.name = "<init>") := L.imp id fun q => ⟨q.1, q.2.1, C.2.2.2.2.2.2.2.1.trans q.2.2⟩
  obtain ⟨T', h', X', e', W', st'⟩ := putFN X C.1 C.2.1 C.2.2.1 w Via.refl eT F E L' wi hty hn hf (g := mkF m pc Ls (v :: .ref a :: st)) rfl rfl (hb C.2.2.2.1 d)
  obtain ⟨t, o, h1, h2⟩ := G h' W' T' _ (Fr.snoc X' hL ge) X' e'
  exact ⟨t, o, st' t h1, h2⟩
theorem g_new (C : Cx p s m meth c Z n0 own bytes maxl ret nm) {i sz : Nat} {K' : String} (w : (Cond.classLink own i K').before a0 Z = true) (wi : (Cond.instantiable K' sz).before a0 Z = true) (wz : (Cond.initialized K').before a0 Z = true) (d : In bytes pc 3 (.new i) pc') (hc : k + 1 ≤ R.cells) (hl : n + sz ≤ R.slots)
    (G : ∀ h' a, n0 ≤ a → a = h.size → Ext h h' → Exa Z h' a K' → (∀ {O f ds : String} {ty : FieldType}, Laid Z a0 K' O f ds → parseFieldDescriptor ds = some ty → Fld Z h' a O f ds (defaultValue ty)) → Go p l e R s m args below meth c n0 Q K N h' (k + 1) (n + sz) (mkF m pc' Ls (.ref a :: st))) : Go p l e R s m args below meth c n0 Q K N h k n (mkF m pc Ls st) := by
  obtain ⟨d, rfl⟩ := d
  intro T Lo hL X eT
  have ge : n0 ≤ h.size := Nat.le_trans C.2.2.2.2.2.2.2.2 (eT ▸ Stand.up X)
  obtain ⟨T', h', X', e', E', A', D', -, st'⟩ := newO X C.1 C.2.1 C.2.2.1 w wi wz eT (g := mkF m pc Ls st) rfl (hb C.2.2.2.1 d) hc hl
  obtain ⟨t, o, h1, h2⟩ := G h' h.size ge rfl E' A' D' T' _ hL X' e'
  exact ⟨t, o, st' t h1, h2⟩
theorem g_newarr (C : Cx p s m meth c Z n0 own bytes maxl ret nm) {aty : ArrayType} (w : (Cond.arrayClass (newarray.typeOf aty)).before a0 Z = true) (d : In bytes pc 2 (.newarray aty) pc') {z : Int32} (hz : ¬ z < 0) (cap : Nat) (hcap : z.toNatClampNeg ≤ cap) (hb8 : cap * 8 ≤ 536870912) (hc : k + 1 ≤ R.cells) (hl : n + cap ≤ R.slots)
    (G : ∀ h' a kA, n0 ≤ a → a = h.size → Ext h h' → Arr Z h' a (newA kA (newarray.typeOf aty) z) (newarray.typeOf aty) → Go p l e R s m args below meth c n0 Q K N h' (k + 1) (n + cap) (mkF m pc' Ls (.ref a :: st))) : Go p l e R s m args below meth c n0 Q K N h k n (mkF m pc Ls (.int z :: st)) := by
  obtain ⟨d, rfl⟩ := d
  intro T Lo hL X eT
  have ge : n0 ≤ h.size := Nat.le_trans C.2.2.2.2.2.2.2.2 (eT ▸ Stand.up X)
  obtain ⟨T', h', kA, X', e', E', A', st'⟩ := newP X C.1 C.2.1 w eT (g := mkF m pc Ls (.int z :: st)) rfl (hb C.2.2.2.1 d) rfl hz hcap hb8 hc hl
  obtain ⟨t, o, h1, h2⟩ := G h' h.size kA ge rfl E' A' T' _ hL X' e'
  exact ⟨t, o, st' t h1, h2⟩
theorem g_initO (C : Cx p s m meth c Z n0 own bytes maxl ret nm) {i : Nat} (w1 : (Cond.methodLink own i Lib.objectInit).before a0 Z = true) (w2 : (Cond.instanceMethod Lib.objectInit).before a0 Z = true) (w3 : (Cond.code Lib.objectInit ⟨#[0xb1]⟩ 1 none).before a0 Z = true) (d : In bytes pc 3 (.invokespecial i) pc') (hsz : Ls.size = maxl) {a : Addr} (hf : 1 ≤ R.frames) (W : Nat) (hW : (st.map fun v => v.category).sum ≤ W) (hl : W + 12 ≤ R.locals) (G : Go p l e R s m args below meth c n0 Q K N h k n (mkF m pc' Ls st)) : Go p l e R s m args below meth c n0 Q K N h k n (mkF m pc Ls (.ref a :: st)) := by
  obtain ⟨d, rfl⟩ := d
  intro T L hL X eT
  obtain ⟨T', X', e', st'⟩ := initO X C.1 C.2.1 C.2.2.1 w1 w2 w3 eT (g := mkF m pc Ls (.ref a :: st)) rfl (by rw [C.2.2.2.2.1]; exact hsz) rfl (hb C.2.2.2.1 d) hf (W := W) (by show 2 * 0 + _ ≤ _; omega) hl
  obtain ⟨t, o, h1, h2⟩ := G T' L hL X' e'
  exact ⟨t, o, st' t h1, h2⟩
theorem g_retI (C : Cx p s m meth c Z n0 own bytes maxl (some .int) nm) (d : In bytes pc 1 .ireturn pc') {z : Int32} (hk : k ≤ K) (hn : n ≤ N) (q : Q (some (.int z)) h) : Go p l e R s m args below meth c n0 Q K N h k n (mkF m pc Ls ([.int z])) := by
  obtain ⟨d, rfl⟩ := d
  intro T L hL X eT
  have hlk : meth.locks = false := C.2.2.2.2.2.2.1
  obtain ⟨fs, hr, hrun, hended, hW, hsame⟩ := X.leave (v := some (.int z)) (fun h => by rw [C.2.2.2.2.2.1] at h; cases h) hlk
  refine ⟨_, _, X.ireturnOut C.1 C.2.2.2.2.2.1 rfl (Or.inl rfl) (hb C.2.2.2.1 d) hr, hrun, hended, _, _, rfl, ⟨?_, hL⟩, ⟨_, rfl⟩, hW, hsame.mono hk hn⟩
  show Q _ T.heap
  rw [eT]; exact q
theorem g_retJ (C : Cx p s m meth c Z n0 own bytes maxl (some .long) nm) (d : In bytes pc 1 .lreturn pc') {z : Int64} (hk : k ≤ K) (hn : n ≤ N) (q : Q (some (.long z)) h) : Go p l e R s m args below meth c n0 Q K N h k n (mkF m pc Ls ([.long z])) := by
  obtain ⟨d, rfl⟩ := d
  intro T L hL X eT
  have hlk : meth.locks = false := C.2.2.2.2.2.2.1
  obtain ⟨fs, hr, hrun, hended, hW, hsame⟩ := X.leave (v := some (.long z)) (fun h => by rw [C.2.2.2.2.2.1] at h; cases h) hlk
  refine ⟨_, _, X.lreturnOut C.1 C.2.2.2.2.2.1 (hb C.2.2.2.1 d) hr, hrun, hended, _, _, rfl, ⟨?_, hL⟩, ⟨_, rfl⟩, hW, hsame.mono hk hn⟩
  show Q _ T.heap
  rw [eT]; exact q
theorem g_retZ (C : Cx p s m meth c Z n0 own bytes maxl (some .boolean) nm) (d : In bytes pc 1 .ireturn pc') {z : Int32} (hk : k ≤ K) (hn : n ≤ N) (q : Q (some (.int (z &&& 1))) h) : Go p l e R s m args below meth c n0 Q K N h k n (mkF m pc Ls ([.int z])) := by
  obtain ⟨d, rfl⟩ := d
  intro T L hL X eT
  have hlk : meth.locks = false := C.2.2.2.2.2.2.1
  obtain ⟨fs, hr, hrun, hended, hW, hsame⟩ := X.leave (v := some (.int (z &&& 1))) (fun h => by rw [C.2.2.2.2.2.1] at h; cases h) hlk
  refine ⟨_, _, retN X C.1 (t := .boolean) C.2.2.2.2.2.1 (by simp) (hb C.2.2.2.1 d) hr, hrun, hended, _, _, rfl, ⟨?_, hL⟩, ⟨_, rfl⟩, hW, hsame.mono hk hn⟩
  show Q _ T.heap
  rw [eT]; exact q
theorem g_retA (C : Cx p s m meth c Z n0 own bytes maxl ret nm) {ty : FieldType} (hret : ret = some ty) (hty : ty.isReference = true) (d : In bytes pc 1 .areturn pc') {z : Value} (hz : z.isRef = true) (hk : k ≤ K) (hn : n ≤ N) (q : Q (some z) h) : Go p l e R s m args below meth c n0 Q K N h k n (mkF m pc Ls ([z])) := by
  obtain ⟨d, rfl⟩ := d
  subst hret
  intro T L hL X eT
  have hlk : meth.locks = false := C.2.2.2.2.2.2.1
  obtain ⟨fs, hr, hrun, hended, hW, hsame⟩ := X.leave (v := some z) (fun h => by rw [C.2.2.2.2.2.1] at h; cases h) hlk
  refine ⟨_, _, X.areturnOut C.1 hz C.2.2.2.2.2.1 hty (hb C.2.2.2.1 d) hr, hrun, hended, _, _, rfl, ⟨?_, hL⟩, ⟨_, rfl⟩, hW, hsame.mono hk hn⟩
  show Q _ T.heap
  rw [eT]; exact q
theorem g_ret (C : Cx p s m meth c Z n0 own bytes maxl none nm) (d : In bytes pc 1 .return_ pc') (hk : k ≤ K) (hn : n ≤ N) (q : Q none h) : Go p l e R s m args below meth c n0 Q K N h k n (mkF m pc Ls []) := by
  obtain ⟨d, rfl⟩ := d
  intro T L hL X eT
  have hlk : meth.locks = false := C.2.2.2.2.2.2.1
  obtain ⟨fs, hr, hrun, hended, hW, hsame⟩ := X.leave (v := none) (fun _ => rfl) hlk
  refine ⟨_, _, X.returnOut C.1 C.2.2.2.2.2.1 (hb C.2.2.2.1 d) hr, hrun, hended, _, _, rfl, ⟨?_, hL⟩, ⟨_, rfl⟩, hW, hsame.mono hk hn⟩
  show Q _ T.heap
  rw [eT]; exact q
/-- a method's contract: called with 'as' at a heap h0 it comes back so -/
abbrev Con (l : Launch) (Z : State) (y : MethodName) (bytes : ByteArray) (maxl : Nat) (ret : Option FieldType) (rm : Room) (ws : List Jvm.Cond) (as : Array Value) (h0 : Heap) (n0 : Nat) (Q : Option Value → Heap → Prop) : Prop :=
  MetFree l y (head1 (Jvm.Cond.code y bytes maxl ret :: ws) rm) (fun a U => a = as ∧ Z.Warmed39 U.vm ∧ U.heap = h0) (fun _ _ _ _ _ => True) (fun _ U o U' => ∃ v L, o = .returned v ∧ (Q v U'.heap ∧ Fr n0 L) ∧ FrameEnd U o U' L rm.cells rm.slots)
theorem con_of {y : MethodName} {rm : Room} {ws : List Jvm.Cond} {as : Array Value} {h0 : Heap} {Ls0 : Array Slot} (hpl : plainFor y = true) (he : ∀ m, entryFrame m as maxl = mkF m 0 Ls0 []) (hn0 : n0 ≤ h0.size)
    (B : ∀ (p : Program) (e : Env) (s : State) (m : MethodId) (below : List Frame) (meth : Method) (c : ClassFile.Code), Cx p s m meth c Z n0 y.cls bytes maxl ret y.name → Go p l e rm s m as below meth c n0 Q rm.cells rm.slots h0 0 0 (mkF m 0 Ls0 [])) : Con l Z y bytes maxl ret rm ws as h0 n0 Q := by
  refine MetFree.of_bodySF hpl hisR ?_
  intro p e s m args below meth c s₁ Bd hml0 hP hK
  obtain ⟨rfl, hZ, hh⟩ := hP
  have hlk : meth.locks = false := BodyLoose.notSynchronized Bd
  have X0 : Stand p l e rm s m _ below meth c s₁ [] 0 0 := Stand.of_body Bd
  have e0 : s₁.heap = h0 := by rw [← hh, Bd.state]; rfl
  obtain ⟨t, o, h1, h2, h3, v, L, h4, h5, h6⟩ := B p e s m below meth c ⟨Bd.exec, hZ, findClass_of_methodNamed Bd.named, Bd.bytes, hml0, Bd.returns, hlk, (name_of_methodNamed Bd.named Bd.method).1, by rw [hh]; exact hn0⟩ s₁ [] (Fr.nil n0) X0 e0
  exact ⟨t, o, castTop (he m) h1, h2, h3, v, L, h4, h5, h6⟩
theorem g_callS (C : Cx p s m meth c Z n0 own bytes maxl ret nm) {y : MethodName} {by' : ByteArray} {ml : Nat} {rt : Option FieldType} {rm : Room} {as : Array Value} {Q' : Option Value → Heap → Prop} (con : Con l Z y by' ml rt rm [] as h n0 Q') {i : Nat} (w1 : (Cond.methodLink own i y).before a0 Z = true) (w2 : (Cond.static y).before a0 Z = true) (w3 : (Cond.initialized y.cls).before a0 Z = true) (w4 : (Cond.code y by' ml rt).before a0 Z = true) (hy : y.cls ≠ "java/lang/invoke/MethodHandle" ∧ y.cls ≠ "java/lang/invoke/VarHandle")
    (d : In bytes pc 3 (.invokestatic i) pc') {ps : List FieldType} {r : Option FieldType} (hpd : parseMethodDescriptor y.desc = some ⟨ps, r⟩) (argsL rest : List Value) (has : as = argsL.toArray) (hlen : argsL.length = ps.length) (hsz : Ls.size = maxl) (W : Nat) (hW : (rest.map fun v => v.category).sum ≤ W) (r1 : rm.frames + 1 ≤ R.frames) (r2 : W + (ml + 11) + rm.locals ≤ R.locals) (r3 : k + rm.cells ≤ R.cells) (r4 : n + rm.slots ≤ R.slots)
    (G : ∀ v h', Q' v h' → Go p l e R s m args below meth c n0 Q K N h' (k + rm.cells) (n + rm.slots) (mkF m pc' Ls (v.toList ++ rest))) : Go p l e R s m args below meth c n0 Q K N h k n (mkF m pc Ls (argsL.reverse ++ rest)) := by
  obtain ⟨d, rfl⟩ := d
  intro T L hL X eT
  obtain ⟨v, vm₁, ⟨T', L2, k2, n2⟩, -, X', ⟨Lc, hQ, l2, y2, z2⟩, st'⟩ := Jvm.LawKit.callS X C.1 (y := y) C.2.2.1 (mvT C.2.1 w1) (mvT C.2.1 w2) (mvT C.2.1 w3) (mvT C.2.1 w4) hy (backOf (W := W) (Q := fun v h L => Q' v h ∧ Fr n0 L) con C.2.1 w4 w3 r1 r2) (g := mkF m pc Ls (argsL.reverse ++ rest)) rfl (by rw [C.2.2.2.2.1]; exact hsz) (argsL := argsL) (rest := rest) (lenOf hpd hlen) rfl (by show 2 * 0 + _ ≤ _; omega) (hb C.2.2.2.1 d) (fun _ _ => ⟨has.symm, eT, r3, r4⟩)
  dsimp only [Pt.U, Pt.locs, Pt.cells, Pt.slots] at X' l2 y2 z2 st' hQ
  subst l2 y2 z2
  obtain ⟨t, o, h1, h2⟩ := G v T'.heap hQ.1 T' _ (Fr.app hL hQ.2) X' rfl
  exact ⟨t, o, st' t h1, h2⟩
theorem g_callI (C : Cx p s m meth c Z n0 own bytes maxl ret nm) {y : MethodName} {by' : ByteArray} {ml : Nat} {rm : Room} {as : Array Value} {Q' : Option Value → Heap → Prop} (con : Con l Z y by' ml none rm [] as h n0 Q') {i : Nat} (hini : y.name = "<init>") (w1 : (Cond.methodLink own i y).before a0 Z = true) (w2 : (Cond.instanceMethod y).before a0 Z = true) (w3 : (Cond.initialized y.cls).before a0 Z = true) (w4 : (Cond.code y by' ml none).before a0 Z = true) (hy : y.cls ≠ "java/lang/invoke/MethodHandle" ∧ y.cls ≠ "java/lang/invoke/VarHandle")
    (d : In bytes pc 3 (.invokespecial i) pc') {ps : List FieldType} {r : Option FieldType} (hpd : parseMethodDescriptor y.desc = some ⟨ps, r⟩) {a : Addr} (argsL rest : List Value) (has : as = (.ref a :: argsL).toArray) (hlen : argsL.length = ps.length) (hsz : Ls.size = maxl) (W : Nat) (hW : (rest.map fun v => v.category).sum ≤ W) (r1 : rm.frames + 1 ≤ R.frames) (r2 : W + (ml + 11) + rm.locals ≤ R.locals) (r3 : k + rm.cells ≤ R.cells) (r4 : n + rm.slots ≤ R.slots)
    (G : ∀ v h', Q' v h' → Go p l e R s m args below meth c n0 Q K N h' (k + rm.cells) (n + rm.slots) (mkF m pc' Ls (v.toList ++ rest))) : Go p l e R s m args below meth c n0 Q K N h k n (mkF m pc Ls (argsL.reverse ++ .ref a :: rest)) := by
  obtain ⟨d, rfl⟩ := d
  intro T L hL X eT
  obtain ⟨v, vm₁, ⟨T', L2, k2, n2⟩, -, X', ⟨Lc, hQ, l2, y2, z2⟩, st'⟩ := X.specialBack C.1 (y := y) hini C.2.2.1 (mvT C.2.1 w1) (mvT C.2.1 w2) (mvT C.2.1 w4) hy (backOf (W := W) (Q := fun v h L => Q' v h ∧ Fr n0 L) con C.2.1 w4 w3 r1 r2) (g := mkF m pc Ls (argsL.reverse ++ .ref a :: rest)) rfl (by rw [C.2.2.2.2.1]; exact hsz) (Steps.refl _) (a := a) (argsL := argsL) (rest := rest) (lenOf hpd hlen) rfl (by show 2 * 0 + _ ≤ _; omega) (hb C.2.2.2.1 d) (fun _ _ => ⟨has.symm, eT, r3, r4⟩)
  dsimp only [Pt.U, Pt.locs, Pt.cells, Pt.slots] at X' l2 y2 z2 st' hQ
  subst l2 y2 z2
  obtain ⟨t, o, h1, h2⟩ := G v T'.heap hQ.1 T' _ (Fr.app hL hQ.2) X' rfl
  exact ⟨t, o, st'.trans h1, h2⟩
theorem g_callV (C : Cx p s m meth c Z n0 own bytes maxl ret nm) {y : MethodName} {by' : ByteArray} {ml : Nat} {rt : Option FieldType} {rm : Room} {as : Array Value} {Q' : Option Value → Heap → Prop} (con : Con l Z y by' ml rt rm [] as h n0 Q') {i : Nat} (w1 : (Cond.methodLink own i y).before a0 Z = true) (w2 : (Cond.declares y).before a0 Z = true) (w5 : (Cond.instanceMethod y).before a0 Z = true) {K' : String} (w6 : (Cond.selects K' y y).before a0 Z = true) (w3 : (Cond.initialized y.cls).before a0 Z = true) (w4 : (Cond.code y by' ml rt).before a0 Z = true) (hy : y.cls ≠ "java/lang/invoke/MethodHandle" ∧ y.cls ≠ "java/lang/invoke/VarHandle")
    (d : In bytes pc 3 (.invokevirtual i) pc') {ps : List FieldType} {r : Option FieldType} (hpd : parseMethodDescriptor y.desc = some ⟨ps, r⟩) {a : Addr} (E : Exa Z h a K') (argsL rest : List Value) (has : as = (.ref a :: argsL).toArray) (hlen : argsL.length = ps.length) (hsz : Ls.size = maxl) (W : Nat) (hW : (rest.map fun v => v.category).sum ≤ W) (r1 : rm.frames + 1 ≤ R.frames) (r2 : W + (ml + 11) + rm.locals ≤ R.locals) (r3 : k + rm.cells ≤ R.cells) (r4 : n + rm.slots ≤ R.slots)
    (G : ∀ v h', Q' v h' → Go p l e R s m args below meth c n0 Q K N h' (k + rm.cells) (n + rm.slots) (mkF m pc' Ls (v.toList ++ rest))) : Go p l e R s m args below meth c n0 Q K N h k n (mkF m pc Ls (argsL.reverse ++ .ref a :: rest)) := by
  obtain ⟨d, rfl⟩ := d
  intro T L hL X eT
  obtain ⟨cq, kq, q1, q2, q3⟩ := isOf C.2.1 eT E
  obtain ⟨v, vm₁, ⟨T', L2, k2, n2⟩, -, X', ⟨Lc, hQ, l2, y2, z2⟩, st'⟩ := X.virtualBack C.1 (y := y) (z := y) C.2.2.1 (mvT C.2.1 w1) (mvT C.2.1 w2) (notFace_of_selects (args := #[]) (mvT C.2.1 w6)) (mvT C.2.1 w6) (mvT C.2.1 w5) hy (backOf (W := W) (Q := fun v h L => Q' v h ∧ Fr n0 L) con C.2.1 w4 w3 r1 r2) q1 q3 (g := mkF m pc Ls (argsL.reverse ++ .ref a :: rest)) rfl (by rw [C.2.2.2.2.1]; exact hsz) (Steps.refl _) (argsL := argsL) (rest := rest) (lenOf hpd hlen) rfl (by show 2 * 0 + _ ≤ _; omega) (hb C.2.2.2.1 d) (fun _ _ => ⟨has.symm, eT, r3, r4⟩)
  dsimp only [Pt.U, Pt.locs, Pt.cells, Pt.slots] at X' l2 y2 z2 st' hQ
  subst l2 y2 z2
  obtain ⟨t, o, h1, h2⟩ := G v T'.heap hQ.1 T' _ (Fr.app hL hQ.2) X' rfl
  exact ⟨t, o, st'.trans h1, h2⟩
theorem g_callP (C : Cx p s m meth c Z n0 own bytes maxl ret nm) {y : MethodName} {by' : ByteArray} {ml : Nat} {rt : Option FieldType} {rm : Room} {as : Array Value} {Q' : Option Value → Heap → Prop} (con : Con l Z y by' ml rt rm [] as h n0 Q') {i : Nat} (w1 : (Cond.methodLink own i y).before a0 Z = true) (w5 : (Cond.instanceMethod y).before a0 Z = true) (w6 : (Cond.selects y.cls y y).before a0 Z = true) (w7 : (Cond.privateMethod y).before a0 Z = true) (w3 : (Cond.initialized y.cls).before a0 Z = true) (w4 : (Cond.code y by' ml rt).before a0 Z = true) (hy : y.cls ≠ "java/lang/invoke/MethodHandle" ∧ y.cls ≠ "java/lang/invoke/VarHandle")
    (d : In bytes pc 3 (.invokevirtual i) pc') {ps : List FieldType} {r : Option FieldType} (hpd : parseMethodDescriptor y.desc = some ⟨ps, r⟩) {a : Addr} {K' : String} (E : Exa Z h a K') (argsL rest : List Value) (has : as = (.ref a :: argsL).toArray) (hlen : argsL.length = ps.length) (hsz : Ls.size = maxl) (W : Nat) (hW : (rest.map fun v => v.category).sum ≤ W) (r1 : rm.frames + 1 ≤ R.frames) (r2 : W + (ml + 11) + rm.locals ≤ R.locals) (r3 : k + rm.cells ≤ R.cells) (r4 : n + rm.slots ≤ R.slots)
    (G : ∀ v h', Q' v h' → Go p l e R s m args below meth c n0 Q K N h' (k + rm.cells) (n + rm.slots) (mkF m pc' Ls (v.toList ++ rest))) : Go p l e R s m args below meth c n0 Q K N h k n (mkF m pc Ls (argsL.reverse ++ .ref a :: rest)) := by
  obtain ⟨d, rfl⟩ := d
  intro T L hL X eT
  obtain ⟨cq, q1, q2⟩ := E.cell
  obtain ⟨v, vm₁, ⟨T', L2, k2, n2⟩, -, X', ⟨Lc, hQ, l2, y2, z2⟩, st'⟩ := X.privateBack C.1 (y := y) C.2.2.1 (mvT C.2.1 w1) (mvT C.2.1 w5) (mvT C.2.1 w6) (Cond.privateMethod_at (mvP C.2.1 w7 (args := #[]))) (mvT C.2.1 w4) hy (backOf (W := W) (Q := fun v h L => Q' v h ∧ Fr n0 L) con C.2.1 w4 w3 r1 r2) (g := mkF m pc Ls (argsL.reverse ++ .ref a :: rest)) rfl (by rw [C.2.2.2.2.1]; exact hsz) (Steps.refl _) (a := a) (by rw [eT]; exact q1) q2 (argsL := argsL) (rest := rest) (lenOf hpd hlen) rfl (by show 2 * 0 + _ ≤ _; omega) (hb C.2.2.2.1 d) (fun _ _ => ⟨has.symm, eT, r3, r4⟩)
  dsimp only [Pt.U, Pt.locs, Pt.cells, Pt.slots] at X' l2 y2 z2 st' hQ
  subst l2 y2 z2
  obtain ⟨t, o, h1, h2⟩ := G v T'.heap hQ.1 T' _ (Fr.app hL hQ.2) X' rfl
  exact ⟨t, o, st'.trans h1, h2⟩
/-- an array of z places at a, whose contents are f -/
def LArr (Z : State) (h : Heap) (a : Addr) (z : Nat) (f : Nat → Int64) : Prop := ∃ c : Cell, Arr Z h a c .long ∧ c.slots.size = z ∧ z < 2 ^ 31 ∧ ∀ i, i < z → c.slots[i]? = some (.long (f i))
theorem LArr.lt {a : Addr} {z : Nat} {f : Nat → Int64} (A : LArr Z h a z f) : a < h.size := by obtain ⟨c, A, -⟩ := A; exact A.lt
theorem LArr.ext {h' : Heap} {a : Addr} {z : Nat} {f : Nat → Int64} (A : LArr Z h a z f) (E : Ext h h') : LArr Z h' a z f := by obtain ⟨c, A, r⟩ := A; exact ⟨c, A.ext E, r⟩
theorem LArr.other {h' : Heap} {a b : Addr} {sl : Nat} {v : Value} {z : Nat} {f : Nat → Int64} (A : LArr Z h b z f) (W : Wr h h' a sl v) (q : b ≠ a) : LArr Z h' b z f := by obtain ⟨c, A, r⟩ := A; exact ⟨c, A.other W q, r⟩
theorem LArr.keep {h' : Heap} {a : Addr} {ws : List Addr} {z : Nat} {f : Nat → Int64} (A : LArr Z h a z f) (K : Keep h h' ws) (q : a ∉ ws) : LArr Z h' a z f := by obtain ⟨c, A, r⟩ := A; exact ⟨c, ⟨K.2.1 a c A.1 q, A.2⟩, r⟩
theorem LArr.congr {a : Addr} {z : Nat} {f g : Nat → Int64} (A : LArr Z h a z f) (q : ∀ i, i < z → g i = f i) : LArr Z h a z g := by obtain ⟨c, A, r1, r2, r3⟩ := A; exact ⟨c, A, r1, r2, fun i hi => by rw [q i hi]; exact r3 i hi⟩
theorem LArr.new {a : Addr} {kA : ClassId} {z : Int32} (A : Arr Z h a (newA kA .long z) .long) : LArr Z h a z.toNatClampNeg (fun _ => 0) :=
  ⟨_, A, sz_new _ _ _, z.toNatClampNeg_lt, fun i hi => by simp [newA, hi, defaultValue]⟩
theorem LArr.set {h' : Heap} {a : Addr} {z j : Nat} {x : Int64} {f : Nat → Int64} (A : LArr Z h a z f) (W : Wr h h' a j (.long x)) : LArr Z h' a z (fun i => if i = j then x else f i) := by
  obtain ⟨c, A, r1, r2, r3⟩ := A
  refine ⟨_, A.same W, by simp [Cell.setSlot, r1], r2, fun i hi => ?_⟩
  by_cases q : i = j
  · subst q
    simp [Cell.setSlot, r1, hi]
  · simp only [q, if_false]
    rw [← r3 i hi]
    exact Array.getElem?_setIfInBounds_ne (Ne.symm q)
theorem g_laload (C : Cx p s m meth c Z n0 own bytes maxl ret nm) (d : In bytes pc 1 .laload pc') {a : Addr} {z : Nat} {f : Nat → Int64} {j : Int32} (A : LArr Z h a z f) (h1 : 0 ≤ j.toInt) (h2 : j.toInt < z) (v : Int64) (hv : f j.toInt.toNat = v) (G : Go p l e R s m args below meth c n0 Q K N h k n (mkF m pc' Ls (.long v :: st))) : Go p l e R s m args below meth c n0 Q K N h k n (mkF m pc Ls (.int j :: .ref a :: st)) := by
  obtain ⟨d, rfl⟩ := d
  obtain ⟨cl, A, r1, r2, r3⟩ := A
  have e1 : j.toNatClampNeg = j.toInt.toNat := rfl
  have hj : ¬ (j < 0 ∨ cl.slots.size ≤ j.toNatClampNeg) := by
    rw [Int32.lt_iff_toInt_lt, show (0 : Int32).toInt = 0 from rfl, r1, e1]; omega
  have hat : cl.slots[j.toNatClampNeg]? = some (.long v) := by rw [← hv, e1]; exact r3 _ (by omega)
  exact g_st (fun X eT t kt => X.laload C.1 (j := j) (v := .long v) (by rw [eT]; exact A.1) (State.isArrayOf_alike C.2.1.alike A.2.1) A.2.2 hj hat (g := mkF m pc Ls (.int j :: .ref a :: st)) rfl rfl (hb C.2.2.2.1 d) _ kt) G
theorem g_lastore (C : Cx p s m meth c Z n0 own bytes maxl ret nm) (d : In bytes pc 1 .lastore pc') {a : Addr} {z : Nat} {f : Nat → Int64} {j : Int32} {x : Int64} (A : LArr Z h a z f) (h1 : 0 ≤ j.toInt) (h2 : j.toInt < z) (ge : n0 ≤ a) (G : ∀ h', Wr h h' a j.toInt.toNat (.long x) → Go p l e R s m args below meth c n0 Q K N h' k n (mkF m pc' Ls st)) : Go p l e R s m args below meth c n0 Q K N h k n (mkF m pc Ls (.long x :: .int j :: .ref a :: st)) := by
  obtain ⟨d, rfl⟩ := d
  obtain ⟨cl, A, r1, r2, r3⟩ := A
  have e1 : j.toNatClampNeg = j.toInt.toNat := rfl
  have hj : ¬ (j < 0 ∨ cl.slots.size ≤ j.toNatClampNeg) := by
    rw [Int32.lt_iff_toInt_lt, show (0 : Int32).toInt = 0 from rfl, r1, e1]; omega
  intro T L hL X eT
  obtain ⟨T', h', X', e', W', st'⟩ := stJ X C.1 C.2.1 eT A (j := j) hj (g := mkF m pc Ls (.long x :: .int j :: .ref a :: st)) rfl rfl (hb C.2.2.2.1 d)
  obtain ⟨t, o, h1, h2⟩ := G h' W' T' _ (Fr.snoc X' hL ge) X' e'
  exact ⟨t, o, st' t h1, h2⟩
theorem g_lenLArr (C : Cx p s m meth c Z n0 own bytes maxl ret nm) (d : In bytes pc 1 .arraylength pc') {a : Addr} {z : Nat} {f : Nat → Int64} (A : LArr Z h a z f) (v : Int32) (hv : v = Int32.ofNat z) (G : Go p l e R s m args below meth c n0 Q K N h k n (mkF m pc' Ls (.int v :: st))) : Go p l e R s m args below meth c n0 Q K N h k n (mkF m pc Ls (.ref a :: st)) := by
  obtain ⟨d, rfl⟩ := d
  obtain ⟨cl, A, r1, r2, r3⟩ := A
  refine g_st (fun X eT t kt => X.arraylength C.1 (by rw [eT]; exact A.1) (State.isArrayOf_alike C.2.1.alike A.2.1) (g := mkF m pc Ls (.ref a :: st)) rfl rfl (hb C.2.2.2.1 d) _ ?_) G
  rw [r1]
  subst hv
  exact kt
/-- an array of z places at a, whose contents are f -/
def IArr (Z : State) (h : Heap) (a : Addr) (z : Nat) (f : Nat → Int32) : Prop := ∃ c : Cell, Arr Z h a c .int ∧ c.slots.size = z ∧ z < 2 ^ 31 ∧ ∀ i, i < z → c.slots[i]? = some (.int (f i))
theorem IArr.lt {a : Addr} {z : Nat} {f : Nat → Int32} (A : IArr Z h a z f) : a < h.size := by obtain ⟨c, A, -⟩ := A; exact A.lt
theorem IArr.ext {h' : Heap} {a : Addr} {z : Nat} {f : Nat → Int32} (A : IArr Z h a z f) (E : Ext h h') : IArr Z h' a z f := by obtain ⟨c, A, r⟩ := A; exact ⟨c, A.ext E, r⟩
theorem IArr.other {h' : Heap} {a b : Addr} {sl : Nat} {v : Value} {z : Nat} {f : Nat → Int32} (A : IArr Z h b z f) (W : Wr h h' a sl v) (q : b ≠ a) : IArr Z h' b z f := by obtain ⟨c, A, r⟩ := A; exact ⟨c, A.other W q, r⟩
theorem IArr.keep {h' : Heap} {a : Addr} {ws : List Addr} {z : Nat} {f : Nat → Int32} (A : IArr Z h a z f) (K : Keep h h' ws) (q : a ∉ ws) : IArr Z h' a z f := by obtain ⟨c, A, r⟩ := A; exact ⟨c, ⟨K.2.1 a c A.1 q, A.2⟩, r⟩
theorem IArr.congr {a : Addr} {z : Nat} {f g : Nat → Int32} (A : IArr Z h a z f) (q : ∀ i, i < z → g i = f i) : IArr Z h a z g := by obtain ⟨c, A, r1, r2, r3⟩ := A; exact ⟨c, A, r1, r2, fun i hi => by rw [q i hi]; exact r3 i hi⟩
theorem IArr.new {a : Addr} {kA : ClassId} {z : Int32} (A : Arr Z h a (newA kA .int z) .int) : IArr Z h a z.toNatClampNeg (fun _ => 0) :=
  ⟨_, A, sz_new _ _ _, z.toNatClampNeg_lt, fun i hi => by simp [newA, hi, defaultValue]⟩
theorem IArr.set {h' : Heap} {a : Addr} {z j : Nat} {x : Int32} {f : Nat → Int32} (A : IArr Z h a z f) (W : Wr h h' a j (.int x)) : IArr Z h' a z (fun i => if i = j then x else f i) := by
  obtain ⟨c, A, r1, r2, r3⟩ := A
  refine ⟨_, A.same W, by simp [Cell.setSlot, r1], r2, fun i hi => ?_⟩
  by_cases q : i = j
  · subst q
    simp [Cell.setSlot, r1, hi]
  · simp only [q, if_false]
    rw [← r3 i hi]
    exact Array.getElem?_setIfInBounds_ne (Ne.symm q)
theorem g_iaload (C : Cx p s m meth c Z n0 own bytes maxl ret nm) (d : In bytes pc 1 .iaload pc') {a : Addr} {z : Nat} {f : Nat → Int32} {j : Int32} (A : IArr Z h a z f) (h1 : 0 ≤ j.toInt) (h2 : j.toInt < z) (v : Int32) (hv : f j.toInt.toNat = v) (G : Go p l e R s m args below meth c n0 Q K N h k n (mkF m pc' Ls (.int v :: st))) : Go p l e R s m args below meth c n0 Q K N h k n (mkF m pc Ls (.int j :: .ref a :: st)) := by
  obtain ⟨d, rfl⟩ := d
  obtain ⟨cl, A, r1, r2, r3⟩ := A
  have e1 : j.toNatClampNeg = j.toInt.toNat := rfl
  have hj : ¬ (j < 0 ∨ cl.slots.size ≤ j.toNatClampNeg) := by
    rw [Int32.lt_iff_toInt_lt, show (0 : Int32).toInt = 0 from rfl, r1, e1]; omega
  have hat : cl.slots[j.toNatClampNeg]? = some (.int v) := by rw [← hv, e1]; exact r3 _ (by omega)
  exact g_st (fun X eT t kt => X.iaload C.1 (j := j) (v := .int v) (by rw [eT]; exact A.1) (State.isArrayOf_alike C.2.1.alike A.2.1) A.2.2 hj hat (g := mkF m pc Ls (.int j :: .ref a :: st)) rfl rfl (hb C.2.2.2.1 d) _ kt) G
theorem g_iastore (C : Cx p s m meth c Z n0 own bytes maxl ret nm) (d : In bytes pc 1 .iastore pc') {a : Addr} {z : Nat} {f : Nat → Int32} {j : Int32} {x : Int32} (A : IArr Z h a z f) (h1 : 0 ≤ j.toInt) (h2 : j.toInt < z) (ge : n0 ≤ a) (G : ∀ h', Wr h h' a j.toInt.toNat (.int x) → Go p l e R s m args below meth c n0 Q K N h' k n (mkF m pc' Ls st)) : Go p l e R s m args below meth c n0 Q K N h k n (mkF m pc Ls (.int x :: .int j :: .ref a :: st)) := by
  obtain ⟨d, rfl⟩ := d
  obtain ⟨cl, A, r1, r2, r3⟩ := A
  have e1 : j.toNatClampNeg = j.toInt.toNat := rfl
  have hj : ¬ (j < 0 ∨ cl.slots.size ≤ j.toNatClampNeg) := by
    rw [Int32.lt_iff_toInt_lt, show (0 : Int32).toInt = 0 from rfl, r1, e1]; omega
  intro T L hL X eT
  obtain ⟨T', h', X', e', W', st'⟩ := stI X C.1 C.2.1 eT A (j := j) hj (g := mkF m pc Ls (.int x :: .int j :: .ref a :: st)) rfl rfl (hb C.2.2.2.1 d)
  obtain ⟨t, o, h1, h2⟩ := G h' W' T' _ (Fr.snoc X' hL ge) X' e'
  exact ⟨t, o, st' t h1, h2⟩
theorem g_lenIArr (C : Cx p s m meth c Z n0 own bytes maxl ret nm) (d : In bytes pc 1 .arraylength pc') {a : Addr} {z : Nat} {f : Nat → Int32} (A : IArr Z h a z f) (v : Int32) (hv : v = Int32.ofNat z) (G : Go p l e R s m args below meth c n0 Q K N h k n (mkF m pc' Ls (.int v :: st))) : Go p l e R s m args below meth c n0 Q K N h k n (mkF m pc Ls (.ref a :: st)) := by
  obtain ⟨d, rfl⟩ := d
  obtain ⟨cl, A, r1, r2, r3⟩ := A
  refine g_st (fun X eT t kt => X.arraylength C.1 (by rw [eT]; exact A.1) (State.isArrayOf_alike C.2.1.alike A.2.1) (g := mkF m pc Ls (.ref a :: st)) rfl rfl (hb C.2.2.2.1 d) _ ?_) G
  rw [r1]
  subst hv
  exact kt
/-- an array of z places at a, whose contents are f -/
def BArr (Z : State) (h : Heap) (a : Addr) (z : Nat) (f : Nat → Int32) : Prop := ∃ c : Cell, Arr Z h a c .byte ∧ c.slots.size = z ∧ z < 2 ^ 31 ∧ ∀ i, i < z → c.slots[i]? = some (.int (f i))
theorem BArr.lt {a : Addr} {z : Nat} {f : Nat → Int32} (A : BArr Z h a z f) : a < h.size := by obtain ⟨c, A, -⟩ := A; exact A.lt
theorem BArr.ext {h' : Heap} {a : Addr} {z : Nat} {f : Nat → Int32} (A : BArr Z h a z f) (E : Ext h h') : BArr Z h' a z f := by obtain ⟨c, A, r⟩ := A; exact ⟨c, A.ext E, r⟩
theorem BArr.other {h' : Heap} {a b : Addr} {sl : Nat} {v : Value} {z : Nat} {f : Nat → Int32} (A : BArr Z h b z f) (W : Wr h h' a sl v) (q : b ≠ a) : BArr Z h' b z f := by obtain ⟨c, A, r⟩ := A; exact ⟨c, A.other W q, r⟩
theorem BArr.keep {h' : Heap} {a : Addr} {ws : List Addr} {z : Nat} {f : Nat → Int32} (A : BArr Z h a z f) (K : Keep h h' ws) (q : a ∉ ws) : BArr Z h' a z f := by obtain ⟨c, A, r⟩ := A; exact ⟨c, ⟨K.2.1 a c A.1 q, A.2⟩, r⟩
theorem BArr.congr {a : Addr} {z : Nat} {f g : Nat → Int32} (A : BArr Z h a z f) (q : ∀ i, i < z → g i = f i) : BArr Z h a z g := by obtain ⟨c, A, r1, r2, r3⟩ := A; exact ⟨c, A, r1, r2, fun i hi => by rw [q i hi]; exact r3 i hi⟩
theorem BArr.new {a : Addr} {kA : ClassId} {z : Int32} (A : Arr Z h a (newA kA .byte z) .byte) : BArr Z h a z.toNatClampNeg (fun _ => 0) :=
  ⟨_, A, sz_new _ _ _, z.toNatClampNeg_lt, fun i hi => by simp [newA, hi, defaultValue]⟩
theorem BArr.set {h' : Heap} {a : Addr} {z j : Nat} {x : Int32} {f : Nat → Int32} (A : BArr Z h a z f) (W : Wr h h' a j (.int x)) : BArr Z h' a z (fun i => if i = j then x else f i) := by
  obtain ⟨c, A, r1, r2, r3⟩ := A
  refine ⟨_, A.same W, by simp [Cell.setSlot, r1], r2, fun i hi => ?_⟩
  by_cases q : i = j
  · subst q
    simp [Cell.setSlot, r1, hi]
  · simp only [q, if_false]
    rw [← r3 i hi]
    exact Array.getElem?_setIfInBounds_ne (Ne.symm q)
theorem g_baload (C : Cx p s m meth c Z n0 own bytes maxl ret nm) (d : In bytes pc 1 .baload pc') {a : Addr} {z : Nat} {f : Nat → Int32} {j : Int32} (A : BArr Z h a z f) (h1 : 0 ≤ j.toInt) (h2 : j.toInt < z) (v : Int32) (hv : f j.toInt.toNat = v) (G : Go p l e R s m args below meth c n0 Q K N h k n (mkF m pc' Ls (.int v :: st))) : Go p l e R s m args below meth c n0 Q K N h k n (mkF m pc Ls (.int j :: .ref a :: st)) := by
  obtain ⟨d, rfl⟩ := d
  obtain ⟨cl, A, r1, r2, r3⟩ := A
  have e1 : j.toNatClampNeg = j.toInt.toNat := rfl
  have hj : ¬ (j < 0 ∨ cl.slots.size ≤ j.toNatClampNeg) := by
    rw [Int32.lt_iff_toInt_lt, show (0 : Int32).toInt = 0 from rfl, r1, e1]; omega
  have hat : cl.slots[j.toNatClampNeg]? = some (.int v) := by rw [← hv, e1]; exact r3 _ (by omega)
  exact g_st (fun X eT t kt => X.baloadBytes C.1 (j := j) (v := .int v) (by rw [eT]; exact A.1) (State.isArrayOf_alike C.2.1.alike A.2.1) A.2.2 hj hat (g := mkF m pc Ls (.int j :: .ref a :: st)) rfl rfl (hb C.2.2.2.1 d) _ kt) G
theorem g_bastore (C : Cx p s m meth c Z n0 own bytes maxl ret nm) (d : In bytes pc 1 .bastore pc') {a : Addr} {z : Nat} {f : Nat → Int32} {j : Int32} {x : Int32} (A : BArr Z h a z f) (h1 : 0 ≤ j.toInt) (h2 : j.toInt < z) (ge : n0 ≤ a) (G : ∀ h', Wr h h' a j.toInt.toNat (.int x.toInt8.toInt32) → Go p l e R s m args below meth c n0 Q K N h' k n (mkF m pc' Ls st)) : Go p l e R s m args below meth c n0 Q K N h k n (mkF m pc Ls (.int x :: .int j :: .ref a :: st)) := by
  obtain ⟨d, rfl⟩ := d
  obtain ⟨cl, A, r1, r2, r3⟩ := A
  have e1 : j.toNatClampNeg = j.toInt.toNat := rfl
  have hj : ¬ (j < 0 ∨ cl.slots.size ≤ j.toNatClampNeg) := by
    rw [Int32.lt_iff_toInt_lt, show (0 : Int32).toInt = 0 from rfl, r1, e1]; omega
  intro T L hL X eT
  obtain ⟨T', h', X', e', W', st'⟩ := stB X C.1 C.2.1 eT A (j := j) hj (g := mkF m pc Ls (.int x :: .int j :: .ref a :: st)) rfl rfl (hb C.2.2.2.1 d)
  obtain ⟨t, o, h1, h2⟩ := G h' W' T' _ (Fr.snoc X' hL ge) X' e'
  exact ⟨t, o, st' t h1, h2⟩
theorem g_lenBArr (C : Cx p s m meth c Z n0 own bytes maxl ret nm) (d : In bytes pc 1 .arraylength pc') {a : Addr} {z : Nat} {f : Nat → Int32} (A : BArr Z h a z f) (v : Int32) (hv : v = Int32.ofNat z) (G : Go p l e R s m args below meth c n0 Q K N h k n (mkF m pc' Ls (.int v :: st))) : Go p l e R s m args below meth c n0 Q K N h k n (mkF m pc Ls (.ref a :: st)) := by
  obtain ⟨d, rfl⟩ := d
  obtain ⟨cl, A, r1, r2, r3⟩ := A
  refine g_st (fun X eT t kt => X.arraylength C.1 (by rw [eT]; exact A.1) (State.isArrayOf_alike C.2.1.alike A.2.1) (g := mkF m pc Ls (.ref a :: st)) rfl rfl (hb C.2.2.2.1 d) _ ?_) G
  rw [r1]
  subst hv
  exact kt
theorem g_join {ι : Type} (hh : ι → Heap) (k' n' : Nat) (f : ι → JFrame) (P : ι → Prop) {f0 : JFrame} (H : (∀ x, P x → Go p l e R s m args below meth c n0 Q K N (hh x) (k') (n') ((f x))) → Go p l e R s m args below meth c n0 Q K N h k n f0) (G : ∀ x, P x → Go p l e R s m args below meth c n0 Q K N (hh x) (k') (n') ((f x))) : Go p l e R s m args below meth c n0 Q K N h k n f0 := H G
theorem g_loop {ι : Type} (hh : ι → Heap) (f : ι → JFrame) (P : ι → Prop) (μ : ι → Nat) (step : ∀ x, P x → (∀ y, P y → μ y < μ x → Go p l e R s m args below meth c n0 Q K N (hh y) k n ((f y))) → Go p l e R s m args below meth c n0 Q K N (hh x) k n ((f x))) : ∀ x, P x → Go p l e R s m args below meth c n0 Q K N (hh x) k n ((f x)) := by
  intro x
  generalize hm : μ x = t
  induction t using Nat.strongRecOn generalizing x with
  | _ t ih => exact fun hx => step x hx fun y hy hlt => ih (μ y) (by omega) y rfl hy
end Kit
def startR (w y0 yb ys : Int32) : Prop := (w = 0 ∧ ys = yb) ∨ (¬ w = 0 ∧ ys = y0)
def nextR (sz lf rt x y x' y' : Int32) : Prop := (x + sz < rt ∧ x' = x + sz ∧ y' = y) ∨ (¬ (x + sz < rt) ∧ x' = lf ∧ y' = y + sz)
def doneR (y bt r : Int32) : Prop := (y < bt ∧ r = 0) ∨ (¬ (y < bt) ∧ r = 1)
def minR (x y r : Int32) : Prop := (y < x ∧ r = y) ∨ (¬ (y < x) ∧ r = x)
theorem startT {w y0 yb ys : Int32} (q : w = 0) (h : startR w y0 yb ys) : ys = yb := h.elim (fun h => h.2) (fun h => absurd q h.1)
theorem startF {w y0 yb ys : Int32} (q : ¬ w = 0) (h : startR w y0 yb ys) : ys = y0 := h.elim (fun h => absurd h.1 q) (fun h => h.2)
theorem nextT {sz lf rt x y x' y' : Int32} (q : x + sz < rt) (h : nextR sz lf rt x y x' y') : x' = x + sz ∧ y' = y := h.elim (fun h => h.2) (fun h => absurd q h.1)
theorem nextF {sz lf rt x y x' y' : Int32} (q : ¬ (x + sz < rt)) (h : nextR sz lf rt x y x' y') : x' = lf ∧ y' = y + sz := h.elim (fun h => absurd h.1 q) (fun h => h.2)
theorem doneT {y bt r : Int32} (q : y < bt) (h : doneR y bt r) : r = 0 := h.elim (fun h => h.2) (fun h => absurd q h.1)
theorem doneF {y bt r : Int32} (q : ¬ (y < bt)) (h : doneR y bt r) : r = 1 := h.elim (fun h => absurd h.1 q) (fun h => h.2)
theorem minT {x y r : Int32} (q : y < x) (h : minR x y r) : r = y := h.elim (fun h => h.2) (fun h => absurd q h.1)
theorem minF {x y r : Int32} (q : ¬ (y < x)) (h : minR x y r) : r = x := h.elim (fun h => absurd h.1 q) (fun h => h.2)
theorem minE (x y : Int32) : ∃ r, minR x y r := by
  by_cases q : y < x
  · exact ⟨_, Or.inl ⟨q, rfl⟩⟩
  · exact ⟨_, Or.inr ⟨q, rfl⟩⟩
def pickR (mode v r : Int32) : Prop := (mode = 0 ∧ r = 0) ∨ (¬ mode = 0 ∧ mode = 1 ∧ r = v &&& 127) ∨ (¬ mode = 0 ∧ ¬ mode = 1 ∧ r = v &&& 1073741823)
theorem pick0 {mode v r : Int32} (q : mode = 0) (h : pickR mode v r) : r = 0 := h.elim (fun h => h.2) (fun h => h.elim (fun h => absurd q h.1) (fun h => absurd q h.1))
theorem pick1 {mode v r : Int32} (q : ¬ mode = 0) (q1 : mode = 1) (h : pickR mode v r) : r = v &&& 127 := h.elim (fun h => absurd h.1 q) (fun h => h.elim (fun h => h.2.2) (fun h => absurd q1 h.2.1))
theorem pick2 {mode v r : Int32} (q : ¬ mode = 0) (q1 : ¬ mode = 1) (h : pickR mode v r) : r = v &&& 1073741823 := h.elim (fun h => absurd h.1 q) (fun h => h.elim (fun h => absurd h.2.1 q1) (fun h => h.2.2))
def Rg (x : Int32) (b : Int) : Prop := 0 ≤ x.toInt ∧ x.toInt ≤ b
theorem mask30 (v : Int32) : Rg (v &&& 1073741823) 1073741823 := by
  have h := c_mask v 1073741823 30 (by decide) (by decide)
  unfold Rg; rw [h]; omega
theorem mask7 (v : Int32) : Rg (v &&& 127) 127 := by
  have h := c_mask v 127 7 (by decide) (by decide)
  unfold Rg; rw [h]; omega
theorem rg_mono {x : Int32} {a b : Int} (h : Rg x a) (q : a ≤ b) : Rg x b := ⟨h.1, Int.le_trans h.2 q⟩
theorem pickE (mode v : Int32) : ∃ r, pickR mode v r ∧ Rg r 1073741823 := by
  by_cases q : mode = 0
  · exact ⟨0, Or.inl ⟨q, rfl⟩, by unfold Rg; decide⟩
  · by_cases q1 : mode = 1
    · exact ⟨_, Or.inr (Or.inl ⟨q, q1, rfl⟩), rg_mono (mask7 v) (by decide)⟩
    · exact ⟨_, Or.inr (Or.inr ⟨q, q1, rfl⟩), mask30 v⟩
theorem size63 (z : Int32) : 1 ≤ ((z &&& 63) + 1).toInt ∧ ((z &&& 63) + 1).toInt ≤ 64 := by
  have h := c_mask z 63 6 (by decide) (by decide)
  have h1 := c_iadd (z &&& 63) 1
  have e1 : (1 : Int32).toInt = 1 := rfl
  have := rng32 ((z &&& 63) + 1)
  omega
theorem lt_up {a b : Int32} (ha : Rg a 1073741823) (hb : Rg b 1073741823) (h : ¬ b = 0) : a < a + b := by
  rw [Int32.lt_iff_toInt_lt]
  have h1 := c_iadd a b
  have e : ¬ b.toInt = 0 := fun z => h (Int32.toInt_inj.mp z)
  have := rng32 (a + b)
  obtain ⟨_, _⟩ := ha; obtain ⟨_, _⟩ := hb
  omega
theorem lt_cmp {a s w : Int32} (ha : Rg a 1073741823) (hw : Rg w 1073741823) (hs : 1 ≤ s.toInt ∧ s.toInt ≤ 64) : a + s < a + w ↔ s < w := by
  rw [Int32.lt_iff_toInt_lt, Int32.lt_iff_toInt_lt]
  have h1 := c_iadd a w; have h2 := c_iadd a s
  have := rng32 (a + w); have := rng32 (a + s)
  obtain ⟨_, _⟩ := ha; obtain ⟨_, _⟩ := hw
  omega
theorem back_sub (a b : Int32) : (a + b) - a = b := by rw [Int32.add_comm, Int32.add_sub_cancel]
theorem no_lt (a : Int32) : ¬ (a < a) := Int32.lt_irrefl

theorem wd_0 {a0 : Array Value} {Z : State} (hw : ∀ d ∈ tables_1, d.before a0 Z = true) : (Jvm.Cond.constant "com/example/framewire/framewire/rfb/TilesStartPinLaw" (7 : Nat) (1073741823 : Int32)).before a0 Z = true := hw _ (List.mem_of_getElem? (i := 0) rfl)
theorem wd_1 {a0 : Array Value} {Z : State} (hw : ∀ d ∈ tables_1, d.before a0 Z = true) : (Jvm.Cond.methodLink "com/example/framewire/framewire/rfb/TilesStartPinLaw" (8 : Nat) ({ cls := "com/example/framewire/framewire/rfb/TilesStartPinLaw", name := "pick", desc := "(II)I" } : Jvm.MethodName)).before a0 Z = true := hw _ (List.mem_of_getElem? (i := 1) rfl)
theorem wd_2 {a0 : Array Value} {Z : State} (hw : ∀ d ∈ tables_1, d.before a0 Z = true) : (Jvm.Cond.static ({ cls := "com/example/framewire/framewire/rfb/TilesStartPinLaw", name := "pick", desc := "(II)I" } : Jvm.MethodName)).before a0 Z = true := hw _ (List.mem_of_getElem? (i := 2) rfl)
theorem wd_3 {a0 : Array Value} {Z : State} (hw : ∀ d ∈ tables_1, d.before a0 Z = true) : (Jvm.Cond.initialized "com/example/framewire/framewire/rfb/TilesStartPinLaw").before a0 Z = true := hw _ (List.mem_of_getElem? (i := 3) rfl)
theorem wd_4 {a0 : Array Value} {Z : State} (hw : ∀ d ∈ tables_1, d.before a0 Z = true) : (Jvm.Cond.code ({ cls := "com/example/framewire/framewire/rfb/TilesStartPinLaw", name := "pick", desc := "(II)I" } : Jvm.MethodName) method_2_code (2 : Nat) (Option.some Jvm.ClassFile.FieldType.int)).before a0 Z = true := hw _ (List.mem_of_getElem? (i := 4) rfl)
theorem wd_5 {a0 : Array Value} {Z : State} (hw : ∀ d ∈ tables_1, d.before a0 Z = true) : (Jvm.Cond.classLink "com/example/framewire/framewire/rfb/TilesStartPinLaw" (14 : Nat) "com/example/framewire/framewire/rfb/Tiles").before a0 Z = true := hw _ (List.mem_of_getElem? (i := 5) rfl)
theorem wd_6 {a0 : Array Value} {Z : State} (hw : ∀ d ∈ tables_1, d.before a0 Z = true) : (Jvm.Cond.instantiable "com/example/framewire/framewire/rfb/Tiles" (6 : Nat)).before a0 Z = true := hw _ (List.mem_of_getElem? (i := 6) rfl)
theorem wd_7 {a0 : Array Value} {Z : State} (hw : ∀ d ∈ tables_1, d.before a0 Z = true) : (Jvm.Cond.initialized "com/example/framewire/framewire/rfb/Tiles").before a0 Z = true := hw _ (List.mem_of_getElem? (i := 7) rfl)
theorem wd_8 {a0 : Array Value} {Z : State} (hw : ∀ d ∈ tables_1, d.before a0 Z = true) : (Jvm.Cond.methodLink "com/example/framewire/framewire/rfb/TilesStartPinLaw" (16 : Nat) ({ cls := "com/example/framewire/framewire/rfb/Tiles", name := "<init>", desc := "(I)V" } : Jvm.MethodName)).before a0 Z = true := hw _ (List.mem_of_getElem? (i := 8) rfl)
theorem wd_9 {a0 : Array Value} {Z : State} (hw : ∀ d ∈ tables_1, d.before a0 Z = true) : (Jvm.Cond.instanceMethod ({ cls := "com/example/framewire/framewire/rfb/Tiles", name := "<init>", desc := "(I)V" } : Jvm.MethodName)).before a0 Z = true := hw _ (List.mem_of_getElem? (i := 9) rfl)
theorem wd_10 {a0 : Array Value} {Z : State} (hw : ∀ d ∈ tables_1, d.before a0 Z = true) : (Jvm.Cond.code ({ cls := "com/example/framewire/framewire/rfb/Tiles", name := "<init>", desc := "(I)V" } : Jvm.MethodName) prog_102_method_1_code (2 : Nat) (Option.none : Option Jvm.ClassFile.FieldType)).before a0 Z = true := hw _ (List.mem_of_getElem? (i := 10) rfl)
theorem wd_11 {a0 : Array Value} {Z : State} (hw : ∀ d ∈ tables_1, d.before a0 Z = true) : (Jvm.Cond.methodLink "com/example/framewire/framewire/rfb/Tiles" (1 : Nat) ({ cls := "java/lang/Object", name := "<init>", desc := "()V" } : Jvm.MethodName)).before a0 Z = true := hw _ (List.mem_of_getElem? (i := 11) rfl)
theorem wd_12 {a0 : Array Value} {Z : State} (hw : ∀ d ∈ tables_1, d.before a0 Z = true) : (Jvm.Cond.instanceMethod ({ cls := "java/lang/Object", name := "<init>", desc := "()V" } : Jvm.MethodName)).before a0 Z = true := hw _ (List.mem_of_getElem? (i := 12) rfl)
theorem wd_13 {a0 : Array Value} {Z : State} (hw : ∀ d ∈ tables_1, d.before a0 Z = true) : (Jvm.Cond.code ({ cls := "java/lang/Object", name := "<init>", desc := "()V" } : Jvm.MethodName) object_method_1_code (1 : Nat) (Option.none : Option Jvm.ClassFile.FieldType)).before a0 Z = true := hw _ (List.mem_of_getElem? (i := 13) rfl)
theorem wd_14 {a0 : Array Value} {Z : State} (hw : ∀ d ∈ tables_1, d.before a0 Z = true) : (Jvm.Cond.fieldLink "com/example/framewire/framewire/rfb/Tiles" (7 : Nat) "com/example/framewire/framewire/rfb/Tiles" "size" "I").before a0 Z = true := hw _ (List.mem_of_getElem? (i := 14) rfl)
theorem wd_15 {a0 : Array Value} {Z : State} (hw : ∀ d ∈ tables_1, d.before a0 Z = true) : (Jvm.Cond.laysFinal "com/example/framewire/framewire/rfb/Tiles" "com/example/framewire/framewire/rfb/Tiles" "size" "I").before a0 Z = true := hw _ (List.mem_of_getElem? (i := 15) rfl)
theorem wd_16 {a0 : Array Value} {Z : State} (hw : ∀ d ∈ tables_1, d.before a0 Z = true) : (Jvm.Cond.methodLink "com/example/framewire/framewire/rfb/TilesStartPinLaw" (19 : Nat) ({ cls := "com/example/framewire/framewire/rfb/Tiles", name := "start", desc := "(IIII)V" } : Jvm.MethodName)).before a0 Z = true := hw _ (List.mem_of_getElem? (i := 16) rfl)
theorem wd_17 {a0 : Array Value} {Z : State} (hw : ∀ d ∈ tables_1, d.before a0 Z = true) : (Jvm.Cond.declares ({ cls := "com/example/framewire/framewire/rfb/Tiles", name := "start", desc := "(IIII)V" } : Jvm.MethodName)).before a0 Z = true := hw _ (List.mem_of_getElem? (i := 17) rfl)
theorem wd_18 {a0 : Array Value} {Z : State} (hw : ∀ d ∈ tables_1, d.before a0 Z = true) : (Jvm.Cond.instanceMethod ({ cls := "com/example/framewire/framewire/rfb/Tiles", name := "start", desc := "(IIII)V" } : Jvm.MethodName)).before a0 Z = true := hw _ (List.mem_of_getElem? (i := 18) rfl)
theorem wd_19 {a0 : Array Value} {Z : State} (hw : ∀ d ∈ tables_1, d.before a0 Z = true) : (Jvm.Cond.selects "com/example/framewire/framewire/rfb/Tiles" ({ cls := "com/example/framewire/framewire/rfb/Tiles", name := "start", desc := "(IIII)V" } : Jvm.MethodName) ({ cls := "com/example/framewire/framewire/rfb/Tiles", name := "start", desc := "(IIII)V" } : Jvm.MethodName)).before a0 Z = true := hw _ (List.mem_of_getElem? (i := 19) rfl)
theorem wd_20 {a0 : Array Value} {Z : State} (hw : ∀ d ∈ tables_1, d.before a0 Z = true) : (Jvm.Cond.code ({ cls := "com/example/framewire/framewire/rfb/Tiles", name := "start", desc := "(IIII)V" } : Jvm.MethodName) prog_102_method_2_code (5 : Nat) (Option.none : Option Jvm.ClassFile.FieldType)).before a0 Z = true := hw _ (List.mem_of_getElem? (i := 20) rfl)
theorem wd_21 {a0 : Array Value} {Z : State} (hw : ∀ d ∈ tables_1, d.before a0 Z = true) : (Jvm.Cond.fieldLink "com/example/framewire/framewire/rfb/Tiles" (13 : Nat) "com/example/framewire/framewire/rfb/Tiles" "left" "I").before a0 Z = true := hw _ (List.mem_of_getElem? (i := 21) rfl)
theorem wd_22 {a0 : Array Value} {Z : State} (hw : ∀ d ∈ tables_1, d.before a0 Z = true) : (Jvm.Cond.lays "com/example/framewire/framewire/rfb/Tiles" "com/example/framewire/framewire/rfb/Tiles" "left" "I").before a0 Z = true := hw _ (List.mem_of_getElem? (i := 22) rfl)
theorem wd_23 {a0 : Array Value} {Z : State} (hw : ∀ d ∈ tables_1, d.before a0 Z = true) : (Jvm.Cond.fieldLink "com/example/framewire/framewire/rfb/Tiles" (16 : Nat) "com/example/framewire/framewire/rfb/Tiles" "right" "I").before a0 Z = true := hw _ (List.mem_of_getElem? (i := 23) rfl)
theorem wd_24 {a0 : Array Value} {Z : State} (hw : ∀ d ∈ tables_1, d.before a0 Z = true) : (Jvm.Cond.lays "com/example/framewire/framewire/rfb/Tiles" "com/example/framewire/framewire/rfb/Tiles" "right" "I").before a0 Z = true := hw _ (List.mem_of_getElem? (i := 24) rfl)
theorem wd_25 {a0 : Array Value} {Z : State} (hw : ∀ d ∈ tables_1, d.before a0 Z = true) : (Jvm.Cond.fieldLink "com/example/framewire/framewire/rfb/Tiles" (19 : Nat) "com/example/framewire/framewire/rfb/Tiles" "bottom" "I").before a0 Z = true := hw _ (List.mem_of_getElem? (i := 25) rfl)
theorem wd_26 {a0 : Array Value} {Z : State} (hw : ∀ d ∈ tables_1, d.before a0 Z = true) : (Jvm.Cond.lays "com/example/framewire/framewire/rfb/Tiles" "com/example/framewire/framewire/rfb/Tiles" "bottom" "I").before a0 Z = true := hw _ (List.mem_of_getElem? (i := 26) rfl)
theorem wd_27 {a0 : Array Value} {Z : State} (hw : ∀ d ∈ tables_1, d.before a0 Z = true) : (Jvm.Cond.fieldLink "com/example/framewire/framewire/rfb/Tiles" (22 : Nat) "com/example/framewire/framewire/rfb/Tiles" "x" "I").before a0 Z = true := hw _ (List.mem_of_getElem? (i := 27) rfl)
theorem wd_28 {a0 : Array Value} {Z : State} (hw : ∀ d ∈ tables_1, d.before a0 Z = true) : (Jvm.Cond.lays "com/example/framewire/framewire/rfb/Tiles" "com/example/framewire/framewire/rfb/Tiles" "x" "I").before a0 Z = true := hw _ (List.mem_of_getElem? (i := 28) rfl)
theorem wd_29 {a0 : Array Value} {Z : State} (hw : ∀ d ∈ tables_1, d.before a0 Z = true) : (Jvm.Cond.fieldLink "com/example/framewire/framewire/rfb/Tiles" (25 : Nat) "com/example/framewire/framewire/rfb/Tiles" "y" "I").before a0 Z = true := hw _ (List.mem_of_getElem? (i := 29) rfl)
theorem wd_30 {a0 : Array Value} {Z : State} (hw : ∀ d ∈ tables_1, d.before a0 Z = true) : (Jvm.Cond.lays "com/example/framewire/framewire/rfb/Tiles" "com/example/framewire/framewire/rfb/Tiles" "y" "I").before a0 Z = true := hw _ (List.mem_of_getElem? (i := 30) rfl)
theorem wd_31 {a0 : Array Value} {Z : State} (hw : ∀ d ∈ tables_1, d.before a0 Z = true) : (Jvm.Cond.methodLink "com/example/framewire/framewire/rfb/TilesStartPinLaw" (23 : Nat) ({ cls := "com/example/framewire/framewire/rfb/Tiles", name := "done", desc := "()Z" } : Jvm.MethodName)).before a0 Z = true := hw _ (List.mem_of_getElem? (i := 31) rfl)
theorem wd_32 {a0 : Array Value} {Z : State} (hw : ∀ d ∈ tables_1, d.before a0 Z = true) : (Jvm.Cond.declares ({ cls := "com/example/framewire/framewire/rfb/Tiles", name := "done", desc := "()Z" } : Jvm.MethodName)).before a0 Z = true := hw _ (List.mem_of_getElem? (i := 32) rfl)
theorem wd_33 {a0 : Array Value} {Z : State} (hw : ∀ d ∈ tables_1, d.before a0 Z = true) : (Jvm.Cond.instanceMethod ({ cls := "com/example/framewire/framewire/rfb/Tiles", name := "done", desc := "()Z" } : Jvm.MethodName)).before a0 Z = true := hw _ (List.mem_of_getElem? (i := 33) rfl)
theorem wd_34 {a0 : Array Value} {Z : State} (hw : ∀ d ∈ tables_1, d.before a0 Z = true) : (Jvm.Cond.selects "com/example/framewire/framewire/rfb/Tiles" ({ cls := "com/example/framewire/framewire/rfb/Tiles", name := "done", desc := "()Z" } : Jvm.MethodName) ({ cls := "com/example/framewire/framewire/rfb/Tiles", name := "done", desc := "()Z" } : Jvm.MethodName)).before a0 Z = true := hw _ (List.mem_of_getElem? (i := 34) rfl)
theorem wd_35 {a0 : Array Value} {Z : State} (hw : ∀ d ∈ tables_1, d.before a0 Z = true) : (Jvm.Cond.code ({ cls := "com/example/framewire/framewire/rfb/Tiles", name := "done", desc := "()Z" } : Jvm.MethodName) prog_102_method_3_code (1 : Nat) (Option.some Jvm.ClassFile.FieldType.boolean)).before a0 Z = true := hw _ (List.mem_of_getElem? (i := 35) rfl)
theorem wd_36 {a0 : Array Value} {Z : State} (hw : ∀ d ∈ tables_1, d.before a0 Z = true) : (Jvm.Cond.methodLink "com/example/framewire/framewire/rfb/TilesStartPinLaw" (27 : Nat) ({ cls := "com/example/framewire/framewire/rfb/Tiles", name := "x", desc := "()I" } : Jvm.MethodName)).before a0 Z = true := hw _ (List.mem_of_getElem? (i := 36) rfl)
theorem wd_37 {a0 : Array Value} {Z : State} (hw : ∀ d ∈ tables_1, d.before a0 Z = true) : (Jvm.Cond.declares ({ cls := "com/example/framewire/framewire/rfb/Tiles", name := "x", desc := "()I" } : Jvm.MethodName)).before a0 Z = true := hw _ (List.mem_of_getElem? (i := 37) rfl)
theorem wd_38 {a0 : Array Value} {Z : State} (hw : ∀ d ∈ tables_1, d.before a0 Z = true) : (Jvm.Cond.instanceMethod ({ cls := "com/example/framewire/framewire/rfb/Tiles", name := "x", desc := "()I" } : Jvm.MethodName)).before a0 Z = true := hw _ (List.mem_of_getElem? (i := 38) rfl)
theorem wd_39 {a0 : Array Value} {Z : State} (hw : ∀ d ∈ tables_1, d.before a0 Z = true) : (Jvm.Cond.selects "com/example/framewire/framewire/rfb/Tiles" ({ cls := "com/example/framewire/framewire/rfb/Tiles", name := "x", desc := "()I" } : Jvm.MethodName) ({ cls := "com/example/framewire/framewire/rfb/Tiles", name := "x", desc := "()I" } : Jvm.MethodName)).before a0 Z = true := hw _ (List.mem_of_getElem? (i := 39) rfl)
theorem wd_40 {a0 : Array Value} {Z : State} (hw : ∀ d ∈ tables_1, d.before a0 Z = true) : (Jvm.Cond.code ({ cls := "com/example/framewire/framewire/rfb/Tiles", name := "x", desc := "()I" } : Jvm.MethodName) prog_102_method_5_code (1 : Nat) (Option.some Jvm.ClassFile.FieldType.int)).before a0 Z = true := hw _ (List.mem_of_getElem? (i := 40) rfl)
theorem wd_41 {a0 : Array Value} {Z : State} (hw : ∀ d ∈ tables_1, d.before a0 Z = true) : (Jvm.Cond.methodLink "com/example/framewire/framewire/rfb/TilesStartPinLaw" (31 : Nat) ({ cls := "com/example/framewire/framewire/rfb/Tiles", name := "y", desc := "()I" } : Jvm.MethodName)).before a0 Z = true := hw _ (List.mem_of_getElem? (i := 41) rfl)
theorem wd_42 {a0 : Array Value} {Z : State} (hw : ∀ d ∈ tables_1, d.before a0 Z = true) : (Jvm.Cond.declares ({ cls := "com/example/framewire/framewire/rfb/Tiles", name := "y", desc := "()I" } : Jvm.MethodName)).before a0 Z = true := hw _ (List.mem_of_getElem? (i := 42) rfl)
theorem wd_43 {a0 : Array Value} {Z : State} (hw : ∀ d ∈ tables_1, d.before a0 Z = true) : (Jvm.Cond.instanceMethod ({ cls := "com/example/framewire/framewire/rfb/Tiles", name := "y", desc := "()I" } : Jvm.MethodName)).before a0 Z = true := hw _ (List.mem_of_getElem? (i := 43) rfl)
theorem wd_44 {a0 : Array Value} {Z : State} (hw : ∀ d ∈ tables_1, d.before a0 Z = true) : (Jvm.Cond.selects "com/example/framewire/framewire/rfb/Tiles" ({ cls := "com/example/framewire/framewire/rfb/Tiles", name := "y", desc := "()I" } : Jvm.MethodName) ({ cls := "com/example/framewire/framewire/rfb/Tiles", name := "y", desc := "()I" } : Jvm.MethodName)).before a0 Z = true := hw _ (List.mem_of_getElem? (i := 44) rfl)
theorem wd_45 {a0 : Array Value} {Z : State} (hw : ∀ d ∈ tables_1, d.before a0 Z = true) : (Jvm.Cond.code ({ cls := "com/example/framewire/framewire/rfb/Tiles", name := "y", desc := "()I" } : Jvm.MethodName) prog_102_method_6_code (1 : Nat) (Option.some Jvm.ClassFile.FieldType.int)).before a0 Z = true := hw _ (List.mem_of_getElem? (i := 45) rfl)
theorem wd_46 {a0 : Array Value} {Z : State} (hw : ∀ d ∈ tables_1, d.before a0 Z = true) : (Jvm.Cond.methodLink "com/example/framewire/framewire/rfb/TilesStartPinLaw" (34 : Nat) ({ cls := "com/example/framewire/framewire/rfb/Tiles", name := "width", desc := "()I" } : Jvm.MethodName)).before a0 Z = true := hw _ (List.mem_of_getElem? (i := 46) rfl)
theorem wd_47 {a0 : Array Value} {Z : State} (hw : ∀ d ∈ tables_1, d.before a0 Z = true) : (Jvm.Cond.declares ({ cls := "com/example/framewire/framewire/rfb/Tiles", name := "width", desc := "()I" } : Jvm.MethodName)).before a0 Z = true := hw _ (List.mem_of_getElem? (i := 47) rfl)
theorem wd_48 {a0 : Array Value} {Z : State} (hw : ∀ d ∈ tables_1, d.before a0 Z = true) : (Jvm.Cond.instanceMethod ({ cls := "com/example/framewire/framewire/rfb/Tiles", name := "width", desc := "()I" } : Jvm.MethodName)).before a0 Z = true := hw _ (List.mem_of_getElem? (i := 48) rfl)
theorem wd_49 {a0 : Array Value} {Z : State} (hw : ∀ d ∈ tables_1, d.before a0 Z = true) : (Jvm.Cond.selects "com/example/framewire/framewire/rfb/Tiles" ({ cls := "com/example/framewire/framewire/rfb/Tiles", name := "width", desc := "()I" } : Jvm.MethodName) ({ cls := "com/example/framewire/framewire/rfb/Tiles", name := "width", desc := "()I" } : Jvm.MethodName)).before a0 Z = true := hw _ (List.mem_of_getElem? (i := 49) rfl)
theorem wd_50 {a0 : Array Value} {Z : State} (hw : ∀ d ∈ tables_1, d.before a0 Z = true) : (Jvm.Cond.code ({ cls := "com/example/framewire/framewire/rfb/Tiles", name := "width", desc := "()I" } : Jvm.MethodName) prog_102_method_7_code (1 : Nat) (Option.some Jvm.ClassFile.FieldType.int)).before a0 Z = true := hw _ (List.mem_of_getElem? (i := 50) rfl)
theorem wd_51 {a0 : Array Value} {Z : State} (hw : ∀ d ∈ tables_1, d.before a0 Z = true) : (Jvm.Cond.methodLink "com/example/framewire/framewire/rfb/Tiles" (28 : Nat) ({ cls := "java/lang/Math", name := "min", desc := "(II)I" } : Jvm.MethodName)).before a0 Z = true := hw _ (List.mem_of_getElem? (i := 51) rfl)
theorem wd_52 {a0 : Array Value} {Z : State} (hw : ∀ d ∈ tables_1, d.before a0 Z = true) : (Jvm.Cond.static ({ cls := "java/lang/Math", name := "min", desc := "(II)I" } : Jvm.MethodName)).before a0 Z = true := hw _ (List.mem_of_getElem? (i := 52) rfl)
theorem wd_53 {a0 : Array Value} {Z : State} (hw : ∀ d ∈ tables_1, d.before a0 Z = true) : (Jvm.Cond.initialized "java/lang/Math").before a0 Z = true := hw _ (List.mem_of_getElem? (i := 53) rfl)
theorem wd_54 {a0 : Array Value} {Z : State} (hw : ∀ d ∈ tables_1, d.before a0 Z = true) : (Jvm.Cond.code ({ cls := "java/lang/Math", name := "min", desc := "(II)I" } : Jvm.MethodName) jdk_29_method_69_code (2 : Nat) (Option.some Jvm.ClassFile.FieldType.int)).before a0 Z = true := hw _ (List.mem_of_getElem? (i := 54) rfl)
theorem wd_55 {a0 : Array Value} {Z : State} (hw : ∀ d ∈ tables_1, d.before a0 Z = true) : (Jvm.Cond.methodLink "com/example/framewire/framewire/rfb/TilesStartPinLaw" (37 : Nat) ({ cls := "java/lang/Math", name := "min", desc := "(II)I" } : Jvm.MethodName)).before a0 Z = true := hw _ (List.mem_of_getElem? (i := 55) rfl)
theorem wd_56 {a0 : Array Value} {Z : State} (hw : ∀ d ∈ tables_1, d.before a0 Z = true) : (Jvm.Cond.methodLink "com/example/framewire/framewire/rfb/TilesStartPinLaw" (42 : Nat) ({ cls := "com/example/framewire/framewire/rfb/Tiles", name := "height", desc := "()I" } : Jvm.MethodName)).before a0 Z = true := hw _ (List.mem_of_getElem? (i := 56) rfl)
theorem wd_57 {a0 : Array Value} {Z : State} (hw : ∀ d ∈ tables_1, d.before a0 Z = true) : (Jvm.Cond.declares ({ cls := "com/example/framewire/framewire/rfb/Tiles", name := "height", desc := "()I" } : Jvm.MethodName)).before a0 Z = true := hw _ (List.mem_of_getElem? (i := 57) rfl)
theorem wd_58 {a0 : Array Value} {Z : State} (hw : ∀ d ∈ tables_1, d.before a0 Z = true) : (Jvm.Cond.instanceMethod ({ cls := "com/example/framewire/framewire/rfb/Tiles", name := "height", desc := "()I" } : Jvm.MethodName)).before a0 Z = true := hw _ (List.mem_of_getElem? (i := 58) rfl)
theorem wd_59 {a0 : Array Value} {Z : State} (hw : ∀ d ∈ tables_1, d.before a0 Z = true) : (Jvm.Cond.selects "com/example/framewire/framewire/rfb/Tiles" ({ cls := "com/example/framewire/framewire/rfb/Tiles", name := "height", desc := "()I" } : Jvm.MethodName) ({ cls := "com/example/framewire/framewire/rfb/Tiles", name := "height", desc := "()I" } : Jvm.MethodName)).before a0 Z = true := hw _ (List.mem_of_getElem? (i := 59) rfl)
theorem wd_60 {a0 : Array Value} {Z : State} (hw : ∀ d ∈ tables_1, d.before a0 Z = true) : (Jvm.Cond.code ({ cls := "com/example/framewire/framewire/rfb/Tiles", name := "height", desc := "()I" } : Jvm.MethodName) prog_102_method_8_code (1 : Nat) (Option.some Jvm.ClassFile.FieldType.int)).before a0 Z = true := hw _ (List.mem_of_getElem? (i := 60) rfl)
theorem wd_61 {a0 : Array Value} {Z : State} (hw : ∀ d ∈ tables_1, d.before a0 Z = true) : (Jvm.Cond.methodLink "com/example/framewire/framewire/rfb/TilesStartPinLaw" (45 : Nat) ({ cls := "com/example/framewire/framewire/rfb/Tiles", name := "next", desc := "()V" } : Jvm.MethodName)).before a0 Z = true := hw _ (List.mem_of_getElem? (i := 61) rfl)
theorem wd_62 {a0 : Array Value} {Z : State} (hw : ∀ d ∈ tables_1, d.before a0 Z = true) : (Jvm.Cond.declares ({ cls := "com/example/framewire/framewire/rfb/Tiles", name := "next", desc := "()V" } : Jvm.MethodName)).before a0 Z = true := hw _ (List.mem_of_getElem? (i := 62) rfl)
theorem wd_63 {a0 : Array Value} {Z : State} (hw : ∀ d ∈ tables_1, d.before a0 Z = true) : (Jvm.Cond.instanceMethod ({ cls := "com/example/framewire/framewire/rfb/Tiles", name := "next", desc := "()V" } : Jvm.MethodName)).before a0 Z = true := hw _ (List.mem_of_getElem? (i := 63) rfl)
theorem wd_64 {a0 : Array Value} {Z : State} (hw : ∀ d ∈ tables_1, d.before a0 Z = true) : (Jvm.Cond.selects "com/example/framewire/framewire/rfb/Tiles" ({ cls := "com/example/framewire/framewire/rfb/Tiles", name := "next", desc := "()V" } : Jvm.MethodName) ({ cls := "com/example/framewire/framewire/rfb/Tiles", name := "next", desc := "()V" } : Jvm.MethodName)).before a0 Z = true := hw _ (List.mem_of_getElem? (i := 64) rfl)
theorem wd_65 {a0 : Array Value} {Z : State} (hw : ∀ d ∈ tables_1, d.before a0 Z = true) : (Jvm.Cond.code ({ cls := "com/example/framewire/framewire/rfb/Tiles", name := "next", desc := "()V" } : Jvm.MethodName) prog_102_method_4_code (1 : Nat) (Option.none : Option Jvm.ClassFile.FieldType)).before a0 Z = true := hw _ (List.mem_of_getElem? (i := 65) rfl)
theorem D0_0 : In code 0 1 (.iload_n 0) 1 := ⟨at_0, rfl⟩
theorem D0_1 : In code 1 2 (.bipush 63) 3 := ⟨at_1, rfl⟩
theorem D0_3 : In code 3 1 (.iand) 4 := ⟨at_3, rfl⟩
theorem D0_4 : In code 4 1 (.iconst 1) 5 := ⟨at_4, rfl⟩
theorem D0_5 : In code 5 1 (.iadd) 6 := ⟨at_5, rfl⟩
theorem D0_6 : In code 6 2 (.istore 6) 8 := ⟨at_6, rfl⟩
theorem D0_8 : In code 8 1 (.iload_n 1) 9 := ⟨at_8, rfl⟩
theorem D0_9 : In code 9 2 (.ldc 7) 11 := ⟨at_9, rfl⟩
theorem D0_11 : In code 11 1 (.iand) 12 := ⟨at_11, rfl⟩
theorem D0_12 : In code 12 2 (.istore 7) 14 := ⟨at_12, rfl⟩
theorem D0_14 : In code 14 1 (.iload_n 2) 15 := ⟨at_14, rfl⟩
theorem D0_15 : In code 15 2 (.ldc 7) 17 := ⟨at_15, rfl⟩
theorem D0_17 : In code 17 1 (.iand) 18 := ⟨at_17, rfl⟩
theorem D0_18 : In code 18 2 (.istore 8) 20 := ⟨at_18, rfl⟩
theorem D0_20 : In code 20 2 (.iload 5) 22 := ⟨at_20, rfl⟩
theorem D0_22 : In code 22 1 (.iconst 3) 23 := ⟨at_22, rfl⟩
theorem D0_23 : In code 23 1 (.iand) 24 := ⟨at_23, rfl⟩
theorem D0_24 : In code 24 1 (.iload_n 3) 25 := ⟨at_24, rfl⟩
theorem D0_25 : In code 25 3 (.invokestatic 8) 28 := ⟨at_25, rfl⟩
theorem D0_28 : In code 28 2 (.istore 9) 30 := ⟨at_28, rfl⟩
theorem D0_30 : In code 30 2 (.iload 5) 32 := ⟨at_30, rfl⟩
theorem D0_32 : In code 32 1 (.iconst 2) 33 := ⟨at_32, rfl⟩
theorem D0_33 : In code 33 1 (.iushr) 34 := ⟨at_33, rfl⟩
theorem D0_34 : In code 34 1 (.iconst 3) 35 := ⟨at_34, rfl⟩
theorem D0_35 : In code 35 1 (.iand) 36 := ⟨at_35, rfl⟩
theorem D0_36 : In code 36 2 (.iload 4) 38 := ⟨at_36, rfl⟩
theorem D0_38 : In code 38 3 (.invokestatic 8) 41 := ⟨at_38, rfl⟩
theorem D0_41 : In code 41 2 (.istore 10) 43 := ⟨at_41, rfl⟩
theorem D0_43 : In code 43 2 (.iload 9) 45 := ⟨at_43, rfl⟩
theorem D0_45 : Jm code 45 (.ifCond .eq) 48 53 := ⟨8, at_45, rfl, by decide, by decide⟩
theorem D0_48 : In code 48 2 (.iload 10) 50 := ⟨at_48, rfl⟩
theorem D0_50 : Jm code 50 (.ifCond .ne) 53 57 := ⟨7, at_50, rfl, by decide, by decide⟩
theorem D0_53 : In code 53 1 (.iconst 1) 54 := ⟨at_53, rfl⟩
theorem D0_54 : Jm code 54 .goto 57 58 := ⟨4, at_54, rfl, by decide, by decide⟩
theorem D0_57 : In code 57 1 (.iconst 0) 58 := ⟨at_57, rfl⟩
theorem D0_58 : In code 58 2 (.istore 11) 60 := ⟨at_58, rfl⟩
theorem D0_60 : In code 60 3 (.new 14) 63 := ⟨at_60, rfl⟩
theorem D0_63 : In code 63 1 (.dup) 64 := ⟨at_63, rfl⟩
theorem D0_64 : In code 64 2 (.iload 6) 66 := ⟨at_64, rfl⟩
theorem D0_66 : In code 66 3 (.invokespecial 16) 69 := ⟨at_66, rfl⟩
theorem D0_69 : In code 69 2 (.astore 12) 71 := ⟨at_69, rfl⟩
theorem D0_71 : In code 71 2 (.aload 12) 73 := ⟨at_71, rfl⟩
theorem D0_73 : In code 73 2 (.iload 7) 75 := ⟨at_73, rfl⟩
theorem D0_75 : In code 75 2 (.iload 8) 77 := ⟨at_75, rfl⟩
theorem D0_77 : In code 77 2 (.iload 9) 79 := ⟨at_77, rfl⟩
theorem D0_79 : In code 79 2 (.iload 10) 81 := ⟨at_79, rfl⟩
theorem D0_81 : In code 81 3 (.invokevirtual 19) 84 := ⟨at_81, rfl⟩
theorem D0_84 : In code 84 2 (.aload 12) 86 := ⟨at_84, rfl⟩
theorem D0_86 : In code 86 3 (.invokevirtual 23) 89 := ⟨at_86, rfl⟩
theorem D0_89 : In code 89 2 (.iload 11) 91 := ⟨at_89, rfl⟩
theorem D0_91 : Jm code 91 (.if_icmp .eq) 94 96 := ⟨5, at_91, rfl, by decide, by decide⟩
theorem D0_96 : In code 96 2 (.iload 9) 98 := ⟨at_96, rfl⟩
theorem D0_98 : Jm code 98 (.ifCond .ne) 101 130 := ⟨32, at_98, rfl, by decide, by decide⟩
theorem D0_101 : In code 101 2 (.aload 12) 103 := ⟨at_101, rfl⟩
theorem D0_103 : In code 103 3 (.invokevirtual 27) 106 := ⟨at_103, rfl⟩
theorem D0_106 : In code 106 2 (.iload 7) 108 := ⟨at_106, rfl⟩
theorem D0_108 : Jm code 108 (.if_icmp .ne) 111 128 := ⟨20, at_108, rfl, by decide, by decide⟩
theorem D0_111 : In code 111 2 (.aload 12) 113 := ⟨at_111, rfl⟩
theorem D0_113 : In code 113 3 (.invokevirtual 31) 116 := ⟨at_113, rfl⟩
theorem D0_116 : In code 116 2 (.iload 8) 118 := ⟨at_116, rfl⟩
theorem D0_118 : In code 118 2 (.iload 10) 120 := ⟨at_118, rfl⟩
theorem D0_120 : In code 120 1 (.iadd) 121 := ⟨at_120, rfl⟩
theorem D0_121 : Jm code 121 (.if_icmp .ne) 124 128 := ⟨7, at_121, rfl, by decide, by decide⟩
theorem D0_124 : In code 124 1 (.iconst 1) 125 := ⟨at_124, rfl⟩
theorem D0_125 : Jm code 125 .goto 128 129 := ⟨4, at_125, rfl, by decide, by decide⟩
theorem D0_129 : In code 129 1 (.ireturn) 130 := ⟨at_129, rfl⟩
theorem D0_130 : In code 130 2 (.iload 10) 132 := ⟨at_130, rfl⟩
theorem D0_132 : Jm code 132 (.ifCond .ne) 135 161 := ⟨29, at_132, rfl, by decide, by decide⟩
theorem D0_135 : In code 135 2 (.aload 12) 137 := ⟨at_135, rfl⟩
theorem D0_137 : In code 137 3 (.invokevirtual 27) 140 := ⟨at_137, rfl⟩
theorem D0_140 : In code 140 2 (.iload 7) 142 := ⟨at_140, rfl⟩
theorem D0_142 : Jm code 142 (.if_icmp .ne) 145 159 := ⟨17, at_142, rfl, by decide, by decide⟩
theorem D0_145 : In code 145 2 (.aload 12) 147 := ⟨at_145, rfl⟩
theorem D0_147 : In code 147 3 (.invokevirtual 31) 150 := ⟨at_147, rfl⟩
theorem D0_150 : In code 150 2 (.iload 8) 152 := ⟨at_150, rfl⟩
theorem D0_152 : Jm code 152 (.if_icmp .ne) 155 159 := ⟨7, at_152, rfl, by decide, by decide⟩
theorem D0_155 : In code 155 1 (.iconst 1) 156 := ⟨at_155, rfl⟩
theorem D0_156 : Jm code 156 .goto 159 160 := ⟨4, at_156, rfl, by decide, by decide⟩
theorem D0_160 : In code 160 1 (.ireturn) 161 := ⟨at_160, rfl⟩
theorem D0_161 : In code 161 2 (.aload 12) 163 := ⟨at_161, rfl⟩
theorem D0_163 : In code 163 3 (.invokevirtual 27) 166 := ⟨at_163, rfl⟩
theorem D0_166 : In code 166 2 (.iload 7) 168 := ⟨at_166, rfl⟩
theorem D0_168 : Jm code 168 (.if_icmp .ne) 171 211 := ⟨43, at_168, rfl, by decide, by decide⟩
theorem D0_171 : In code 171 2 (.aload 12) 173 := ⟨at_171, rfl⟩
theorem D0_173 : In code 173 3 (.invokevirtual 31) 176 := ⟨at_173, rfl⟩
theorem D0_176 : In code 176 2 (.iload 8) 178 := ⟨at_176, rfl⟩
theorem D0_178 : Jm code 178 (.if_icmp .ne) 181 211 := ⟨33, at_178, rfl, by decide, by decide⟩
theorem D0_181 : In code 181 2 (.aload 12) 183 := ⟨at_181, rfl⟩
theorem D0_183 : In code 183 3 (.invokevirtual 34) 186 := ⟨at_183, rfl⟩
theorem D0_186 : In code 186 2 (.iload 6) 188 := ⟨at_186, rfl⟩
theorem D0_188 : In code 188 2 (.iload 9) 190 := ⟨at_188, rfl⟩
theorem D0_190 : In code 190 3 (.invokestatic 37) 193 := ⟨at_190, rfl⟩
theorem D0_193 : Jm code 193 (.if_icmp .ne) 196 211 := ⟨18, at_193, rfl, by decide, by decide⟩
theorem D0_196 : In code 196 2 (.aload 12) 198 := ⟨at_196, rfl⟩
theorem D0_198 : In code 198 3 (.invokevirtual 42) 201 := ⟨at_198, rfl⟩
theorem D0_201 : In code 201 2 (.iload 6) 203 := ⟨at_201, rfl⟩
theorem D0_203 : In code 203 2 (.iload 10) 205 := ⟨at_203, rfl⟩
theorem D0_205 : In code 205 3 (.invokestatic 37) 208 := ⟨at_205, rfl⟩
theorem D0_208 : Jm code 208 (.if_icmp .eq) 211 213 := ⟨5, at_208, rfl, by decide, by decide⟩
theorem D0_213 : In code 213 2 (.aload 12) 215 := ⟨at_213, rfl⟩
theorem D0_215 : In code 215 3 (.invokevirtual 45) 218 := ⟨at_215, rfl⟩
theorem D0_218 : In code 218 2 (.iload 9) 220 := ⟨at_218, rfl⟩
theorem D0_220 : In code 220 2 (.iload 6) 222 := ⟨at_220, rfl⟩
theorem D0_222 : Jm code 222 (.if_icmp .le) 225 262 := ⟨40, at_222, rfl, by decide, by decide⟩
theorem D0_225 : In code 225 2 (.aload 12) 227 := ⟨at_225, rfl⟩
theorem D0_227 : In code 227 3 (.invokevirtual 27) 230 := ⟨at_227, rfl⟩
theorem D0_230 : In code 230 2 (.iload 7) 232 := ⟨at_230, rfl⟩
theorem D0_232 : In code 232 2 (.iload 6) 234 := ⟨at_232, rfl⟩
theorem D0_234 : In code 234 1 (.iadd) 235 := ⟨at_234, rfl⟩
theorem D0_235 : Jm code 235 (.if_icmp .ne) 238 260 := ⟨25, at_235, rfl, by decide, by decide⟩
theorem D0_238 : In code 238 2 (.aload 12) 240 := ⟨at_238, rfl⟩
theorem D0_240 : In code 240 3 (.invokevirtual 31) 243 := ⟨at_240, rfl⟩
theorem D0_243 : In code 243 2 (.iload 8) 245 := ⟨at_243, rfl⟩
theorem D0_245 : Jm code 245 (.if_icmp .ne) 248 260 := ⟨15, at_245, rfl, by decide, by decide⟩
theorem D0_248 : In code 248 2 (.aload 12) 250 := ⟨at_248, rfl⟩
theorem D0_250 : In code 250 3 (.invokevirtual 23) 253 := ⟨at_250, rfl⟩
theorem D0_253 : Jm code 253 (.ifCond .ne) 256 260 := ⟨7, at_253, rfl, by decide, by decide⟩
theorem D0_256 : In code 256 1 (.iconst 1) 257 := ⟨at_256, rfl⟩
theorem D0_257 : Jm code 257 .goto 260 261 := ⟨4, at_257, rfl, by decide, by decide⟩
theorem D0_261 : In code 261 1 (.ireturn) 262 := ⟨at_261, rfl⟩
theorem D0_262 : In code 262 2 (.aload 12) 264 := ⟨at_262, rfl⟩
theorem D0_264 : In code 264 3 (.invokevirtual 27) 267 := ⟨at_264, rfl⟩
theorem D0_267 : In code 267 2 (.iload 7) 269 := ⟨at_267, rfl⟩
theorem D0_269 : Jm code 269 (.if_icmp .ne) 272 309 := ⟨40, at_269, rfl, by decide, by decide⟩
theorem D0_272 : In code 272 2 (.aload 12) 274 := ⟨at_272, rfl⟩
theorem D0_274 : In code 274 3 (.invokevirtual 31) 277 := ⟨at_274, rfl⟩
theorem D0_277 : In code 277 2 (.iload 8) 279 := ⟨at_277, rfl⟩
theorem D0_279 : In code 279 2 (.iload 6) 281 := ⟨at_279, rfl⟩
theorem D0_281 : In code 281 1 (.iadd) 282 := ⟨at_281, rfl⟩
theorem D0_282 : Jm code 282 (.if_icmp .ne) 285 309 := ⟨27, at_282, rfl, by decide, by decide⟩
theorem D0_285 : In code 285 2 (.aload 12) 287 := ⟨at_285, rfl⟩
theorem D0_287 : In code 287 3 (.invokevirtual 23) 290 := ⟨at_287, rfl⟩
theorem D0_290 : In code 290 2 (.iload 10) 292 := ⟨at_290, rfl⟩
theorem D0_292 : In code 292 2 (.iload 6) 294 := ⟨at_292, rfl⟩
theorem D0_294 : Jm code 294 (.if_icmp .gt) 297 301 := ⟨7, at_294, rfl, by decide, by decide⟩
theorem D0_297 : In code 297 1 (.iconst 1) 298 := ⟨at_297, rfl⟩
theorem D0_298 : Jm code 298 .goto 301 302 := ⟨4, at_298, rfl, by decide, by decide⟩
theorem D0_301 : In code 301 1 (.iconst 0) 302 := ⟨at_301, rfl⟩
theorem D0_302 : Jm code 302 (.if_icmp .ne) 305 309 := ⟨7, at_302, rfl, by decide, by decide⟩
theorem D0_305 : In code 305 1 (.iconst 1) 306 := ⟨at_305, rfl⟩
theorem D0_306 : Jm code 306 .goto 309 310 := ⟨4, at_306, rfl, by decide, by decide⟩
theorem D0_310 : In code 310 1 (.ireturn) 311 := ⟨at_310, rfl⟩
theorem D1_0 : In method_2_code 0 1 (.iload_n 0) 1 := ⟨by decide +kernel, rfl⟩
theorem D1_1 : Jm method_2_code 1 (.ifCond .ne) 4 6 := ⟨5, by decide +kernel, rfl, by decide, by decide⟩
theorem D1_4 : In method_2_code 4 1 (.iconst 0) 5 := ⟨by decide +kernel, rfl⟩
theorem D1_5 : In method_2_code 5 1 (.ireturn) 6 := ⟨by decide +kernel, rfl⟩
theorem D1_6 : In method_2_code 6 1 (.iload_n 0) 7 := ⟨by decide +kernel, rfl⟩
theorem D1_7 : In method_2_code 7 1 (.iconst 1) 8 := ⟨by decide +kernel, rfl⟩
theorem D1_8 : Jm method_2_code 8 (.if_icmp .ne) 11 16 := ⟨8, by decide +kernel, rfl, by decide, by decide⟩
theorem D1_11 : In method_2_code 11 1 (.iload_n 1) 12 := ⟨by decide +kernel, rfl⟩
theorem D1_12 : In method_2_code 12 2 (.bipush 127) 14 := ⟨by decide +kernel, rfl⟩
theorem D1_14 : In method_2_code 14 1 (.iand) 15 := ⟨by decide +kernel, rfl⟩
theorem D1_15 : In method_2_code 15 1 (.ireturn) 16 := ⟨by decide +kernel, rfl⟩
theorem D1_16 : In method_2_code 16 1 (.iload_n 1) 17 := ⟨by decide +kernel, rfl⟩
theorem D1_17 : In method_2_code 17 2 (.ldc 7) 19 := ⟨by decide +kernel, rfl⟩
theorem D1_19 : In method_2_code 19 1 (.iand) 20 := ⟨by decide +kernel, rfl⟩
theorem D1_20 : In method_2_code 20 1 (.ireturn) 21 := ⟨by decide +kernel, rfl⟩
theorem D2_0 : In prog_102_method_1_code 0 1 (.aload_n 0) 1 := ⟨by decide +kernel, rfl⟩
theorem D2_1 : In prog_102_method_1_code 1 3 (.invokespecial 1) 4 := ⟨by decide +kernel, rfl⟩
theorem D2_4 : In prog_102_method_1_code 4 1 (.aload_n 0) 5 := ⟨by decide +kernel, rfl⟩
theorem D2_5 : In prog_102_method_1_code 5 1 (.iload_n 1) 6 := ⟨by decide +kernel, rfl⟩
theorem D2_6 : In prog_102_method_1_code 6 3 (.putfield 7) 9 := ⟨by decide +kernel, rfl⟩
theorem D2_9 : In prog_102_method_1_code 9 1 (.return_) 10 := ⟨by decide +kernel, rfl⟩
theorem D4_0 : In prog_102_method_2_code 0 1 (.aload_n 0) 1 := ⟨by decide +kernel, rfl⟩
theorem D4_1 : In prog_102_method_2_code 1 1 (.iload_n 1) 2 := ⟨by decide +kernel, rfl⟩
theorem D4_2 : In prog_102_method_2_code 2 3 (.putfield 13) 5 := ⟨by decide +kernel, rfl⟩
theorem D4_5 : In prog_102_method_2_code 5 1 (.aload_n 0) 6 := ⟨by decide +kernel, rfl⟩
theorem D4_6 : In prog_102_method_2_code 6 1 (.iload_n 1) 7 := ⟨by decide +kernel, rfl⟩
theorem D4_7 : In prog_102_method_2_code 7 1 (.iload_n 3) 8 := ⟨by decide +kernel, rfl⟩
theorem D4_8 : In prog_102_method_2_code 8 1 (.iadd) 9 := ⟨by decide +kernel, rfl⟩
theorem D4_9 : In prog_102_method_2_code 9 3 (.putfield 16) 12 := ⟨by decide +kernel, rfl⟩
theorem D4_12 : In prog_102_method_2_code 12 1 (.aload_n 0) 13 := ⟨by decide +kernel, rfl⟩
theorem D4_13 : In prog_102_method_2_code 13 1 (.iload_n 2) 14 := ⟨by decide +kernel, rfl⟩
theorem D4_14 : In prog_102_method_2_code 14 2 (.iload 4) 16 := ⟨by decide +kernel, rfl⟩
theorem D4_16 : In prog_102_method_2_code 16 1 (.iadd) 17 := ⟨by decide +kernel, rfl⟩
theorem D4_17 : In prog_102_method_2_code 17 3 (.putfield 19) 20 := ⟨by decide +kernel, rfl⟩
theorem D4_20 : In prog_102_method_2_code 20 1 (.aload_n 0) 21 := ⟨by decide +kernel, rfl⟩
theorem D4_21 : In prog_102_method_2_code 21 1 (.iload_n 1) 22 := ⟨by decide +kernel, rfl⟩
theorem D4_22 : In prog_102_method_2_code 22 3 (.putfield 22) 25 := ⟨by decide +kernel, rfl⟩
theorem D4_25 : In prog_102_method_2_code 25 1 (.aload_n 0) 26 := ⟨by decide +kernel, rfl⟩
theorem D4_26 : In prog_102_method_2_code 26 1 (.iload_n 3) 27 := ⟨by decide +kernel, rfl⟩
theorem D4_27 : Jm prog_102_method_2_code 27 (.ifCond .ne) 30 37 := ⟨10, by decide +kernel, rfl, by decide, by decide⟩
theorem D4_30 : In prog_102_method_2_code 30 1 (.aload_n 0) 31 := ⟨by decide +kernel, rfl⟩
theorem D4_31 : In prog_102_method_2_code 31 3 (.getfield 19) 34 := ⟨by decide +kernel, rfl⟩
theorem D4_34 : Jm prog_102_method_2_code 34 .goto 37 38 := ⟨4, by decide +kernel, rfl, by decide, by decide⟩
theorem D4_37 : In prog_102_method_2_code 37 1 (.iload_n 2) 38 := ⟨by decide +kernel, rfl⟩
theorem D4_38 : In prog_102_method_2_code 38 3 (.putfield 25) 41 := ⟨by decide +kernel, rfl⟩
theorem D4_41 : In prog_102_method_2_code 41 1 (.return_) 42 := ⟨by decide +kernel, rfl⟩
theorem D5_0 : In prog_102_method_3_code 0 1 (.aload_n 0) 1 := ⟨by decide +kernel, rfl⟩
theorem D5_1 : In prog_102_method_3_code 1 3 (.getfield 25) 4 := ⟨by decide +kernel, rfl⟩
theorem D5_4 : In prog_102_method_3_code 4 1 (.aload_n 0) 5 := ⟨by decide +kernel, rfl⟩
theorem D5_5 : In prog_102_method_3_code 5 3 (.getfield 19) 8 := ⟨by decide +kernel, rfl⟩
theorem D5_8 : Jm prog_102_method_3_code 8 (.if_icmp .lt) 11 15 := ⟨7, by decide +kernel, rfl, by decide, by decide⟩
theorem D5_11 : In prog_102_method_3_code 11 1 (.iconst 1) 12 := ⟨by decide +kernel, rfl⟩
theorem D5_12 : Jm prog_102_method_3_code 12 .goto 15 16 := ⟨4, by decide +kernel, rfl, by decide, by decide⟩
theorem D5_15 : In prog_102_method_3_code 15 1 (.iconst 0) 16 := ⟨by decide +kernel, rfl⟩
theorem D5_16 : In prog_102_method_3_code 16 1 (.ireturn) 17 := ⟨by decide +kernel, rfl⟩
theorem D6_0 : In prog_102_method_5_code 0 1 (.aload_n 0) 1 := ⟨by decide +kernel, rfl⟩
theorem D6_1 : In prog_102_method_5_code 1 3 (.getfield 22) 4 := ⟨by decide +kernel, rfl⟩
theorem D6_4 : In prog_102_method_5_code 4 1 (.ireturn) 5 := ⟨by decide +kernel, rfl⟩
theorem D7_0 : In prog_102_method_6_code 0 1 (.aload_n 0) 1 := ⟨by decide +kernel, rfl⟩
theorem D7_1 : In prog_102_method_6_code 1 3 (.getfield 25) 4 := ⟨by decide +kernel, rfl⟩
theorem D7_4 : In prog_102_method_6_code 4 1 (.ireturn) 5 := ⟨by decide +kernel, rfl⟩
theorem D8_0 : In prog_102_method_7_code 0 1 (.aload_n 0) 1 := ⟨by decide +kernel, rfl⟩
theorem D8_1 : In prog_102_method_7_code 1 3 (.getfield 7) 4 := ⟨by decide +kernel, rfl⟩
theorem D8_4 : In prog_102_method_7_code 4 1 (.aload_n 0) 5 := ⟨by decide +kernel, rfl⟩
theorem D8_5 : In prog_102_method_7_code 5 3 (.getfield 16) 8 := ⟨by decide +kernel, rfl⟩
theorem D8_8 : In prog_102_method_7_code 8 1 (.aload_n 0) 9 := ⟨by decide +kernel, rfl⟩
theorem D8_9 : In prog_102_method_7_code 9 3 (.getfield 22) 12 := ⟨by decide +kernel, rfl⟩
theorem D8_12 : In prog_102_method_7_code 12 1 (.isub) 13 := ⟨by decide +kernel, rfl⟩
theorem D8_13 : In prog_102_method_7_code 13 3 (.invokestatic 28) 16 := ⟨by decide +kernel, rfl⟩
theorem D8_16 : In prog_102_method_7_code 16 1 (.ireturn) 17 := ⟨by decide +kernel, rfl⟩
theorem D9_0 : In jdk_29_method_69_code 0 1 (.iload_n 0) 1 := ⟨by decide +kernel, rfl⟩
theorem D9_1 : In jdk_29_method_69_code 1 1 (.iload_n 1) 2 := ⟨by decide +kernel, rfl⟩
theorem D9_2 : Jm jdk_29_method_69_code 2 (.if_icmp .gt) 5 9 := ⟨7, by decide +kernel, rfl, by decide, by decide⟩
theorem D9_5 : In jdk_29_method_69_code 5 1 (.iload_n 0) 6 := ⟨by decide +kernel, rfl⟩
theorem D9_6 : Jm jdk_29_method_69_code 6 .goto 9 10 := ⟨4, by decide +kernel, rfl, by decide, by decide⟩
theorem D9_9 : In jdk_29_method_69_code 9 1 (.iload_n 1) 10 := ⟨by decide +kernel, rfl⟩
theorem D9_10 : In jdk_29_method_69_code 10 1 (.ireturn) 11 := ⟨by decide +kernel, rfl⟩
theorem D10_0 : In prog_102_method_8_code 0 1 (.aload_n 0) 1 := ⟨by decide +kernel, rfl⟩
theorem D10_1 : In prog_102_method_8_code 1 3 (.getfield 7) 4 := ⟨by decide +kernel, rfl⟩
theorem D10_4 : In prog_102_method_8_code 4 1 (.aload_n 0) 5 := ⟨by decide +kernel, rfl⟩
theorem D10_5 : In prog_102_method_8_code 5 3 (.getfield 19) 8 := ⟨by decide +kernel, rfl⟩
theorem D10_8 : In prog_102_method_8_code 8 1 (.aload_n 0) 9 := ⟨by decide +kernel, rfl⟩
theorem D10_9 : In prog_102_method_8_code 9 3 (.getfield 25) 12 := ⟨by decide +kernel, rfl⟩
theorem D10_12 : In prog_102_method_8_code 12 1 (.isub) 13 := ⟨by decide +kernel, rfl⟩
theorem D10_13 : In prog_102_method_8_code 13 3 (.invokestatic 28) 16 := ⟨by decide +kernel, rfl⟩
theorem D10_16 : In prog_102_method_8_code 16 1 (.ireturn) 17 := ⟨by decide +kernel, rfl⟩
theorem D11_0 : In prog_102_method_4_code 0 1 (.aload_n 0) 1 := ⟨by decide +kernel, rfl⟩
theorem D11_1 : In prog_102_method_4_code 1 1 (.dup) 2 := ⟨by decide +kernel, rfl⟩
theorem D11_2 : In prog_102_method_4_code 2 3 (.getfield 22) 5 := ⟨by decide +kernel, rfl⟩
theorem D11_5 : In prog_102_method_4_code 5 1 (.aload_n 0) 6 := ⟨by decide +kernel, rfl⟩
theorem D11_6 : In prog_102_method_4_code 6 3 (.getfield 7) 9 := ⟨by decide +kernel, rfl⟩
theorem D11_9 : In prog_102_method_4_code 9 1 (.iadd) 10 := ⟨by decide +kernel, rfl⟩
theorem D11_10 : In prog_102_method_4_code 10 3 (.putfield 22) 13 := ⟨by decide +kernel, rfl⟩
theorem D11_13 : In prog_102_method_4_code 13 1 (.aload_n 0) 14 := ⟨by decide +kernel, rfl⟩
theorem D11_14 : In prog_102_method_4_code 14 3 (.getfield 22) 17 := ⟨by decide +kernel, rfl⟩
theorem D11_17 : In prog_102_method_4_code 17 1 (.aload_n 0) 18 := ⟨by decide +kernel, rfl⟩
theorem D11_18 : In prog_102_method_4_code 18 3 (.getfield 16) 21 := ⟨by decide +kernel, rfl⟩
theorem D11_21 : Jm prog_102_method_4_code 21 (.if_icmp .lt) 24 45 := ⟨24, by decide +kernel, rfl, by decide, by decide⟩
theorem D11_24 : In prog_102_method_4_code 24 1 (.aload_n 0) 25 := ⟨by decide +kernel, rfl⟩
theorem D11_25 : In prog_102_method_4_code 25 1 (.aload_n 0) 26 := ⟨by decide +kernel, rfl⟩
theorem D11_26 : In prog_102_method_4_code 26 3 (.getfield 13) 29 := ⟨by decide +kernel, rfl⟩
theorem D11_29 : In prog_102_method_4_code 29 3 (.putfield 22) 32 := ⟨by decide +kernel, rfl⟩
theorem D11_32 : In prog_102_method_4_code 32 1 (.aload_n 0) 33 := ⟨by decide +kernel, rfl⟩
theorem D11_33 : In prog_102_method_4_code 33 1 (.dup) 34 := ⟨by decide +kernel, rfl⟩
theorem D11_34 : In prog_102_method_4_code 34 3 (.getfield 25) 37 := ⟨by decide +kernel, rfl⟩
theorem D11_37 : In prog_102_method_4_code 37 1 (.aload_n 0) 38 := ⟨by decide +kernel, rfl⟩
theorem D11_38 : In prog_102_method_4_code 38 3 (.getfield 7) 41 := ⟨by decide +kernel, rfl⟩
theorem D11_41 : In prog_102_method_4_code 41 1 (.iadd) 42 := ⟨by decide +kernel, rfl⟩
theorem D11_42 : In prog_102_method_4_code 42 3 (.putfield 25) 45 := ⟨by decide +kernel, rfl⟩
theorem D11_45 : In prog_102_method_4_code 45 1 (.return_) 46 := ⟨by decide +kernel, rfl⟩
theorem pd_0 : parseMethodDescriptor "(II)I" = some ⟨[.int, .int], some .int⟩ := by decide +kernel
theorem pd_1 : parseMethodDescriptor "(I)V" = some ⟨[.int], none⟩ := by decide +kernel
theorem pd_2 : parseMethodDescriptor "(IIII)V" = some ⟨[.int, .int, .int, .int], none⟩ := by decide +kernel
theorem pd_3 : parseMethodDescriptor "()Z" = some ⟨[], some .boolean⟩ := by decide +kernel
theorem pd_4 : parseMethodDescriptor "()I" = some ⟨[], some .int⟩ := by decide +kernel
theorem pd_5 : parseMethodDescriptor "()V" = some ⟨[], none⟩ := by decide +kernel
theorem pn_0 : plainName "com/example/framewire/framewire/rfb/Tiles" = true := by first | (simp [plainName, overriddenIn]; done) | decide +kernel
theorem pn_1 : plainName "com/example/framewire/framewire/rfb/TilesStartPinLaw" = true := by first | (simp [plainName, overriddenIn]; done) | decide +kernel
def RT (Z : State) (h : Heap) (a : Addr) (f0 : Int32) (f1 : Int32) (f2 : Int32) (f3 : Int32) (f4 : Int32) (f5 : Int32) : Prop := Exa Z h a "com/example/framewire/framewire/rfb/Tiles" ∧ Fld Z h a "com/example/framewire/framewire/rfb/Tiles" "size" "I" (.int f0) ∧ Fld Z h a "com/example/framewire/framewire/rfb/Tiles" "left" "I" (.int f1) ∧ Fld Z h a "com/example/framewire/framewire/rfb/Tiles" "right" "I" (.int f2) ∧ Fld Z h a "com/example/framewire/framewire/rfb/Tiles" "bottom" "I" (.int f3) ∧ Fld Z h a "com/example/framewire/framewire/rfb/Tiles" "x" "I" (.int f4) ∧ Fld Z h a "com/example/framewire/framewire/rfb/Tiles" "y" "I" (.int f5)
theorem RT.lt {Z : State} {h : Heap} {a : Addr} {f0 : Int32} {f1 : Int32} {f2 : Int32} {f3 : Int32} {f4 : Int32} {f5 : Int32} (H : RT Z h a f0 f1 f2 f3 f4 f5) : a < h.size := H.1.lt
theorem RT.ext {Z : State} {h h' : Heap} {a : Addr} {f0 : Int32} {f1 : Int32} {f2 : Int32} {f3 : Int32} {f4 : Int32} {f5 : Int32} (H : RT Z h a f0 f1 f2 f3 f4 f5) (E : Ext h h') : RT Z h' a f0 f1 f2 f3 f4 f5 := ⟨H.1.ext E, H.2.1.ext E, H.2.2.1.ext E, H.2.2.2.1.ext E, H.2.2.2.2.1.ext E, H.2.2.2.2.2.1.ext E, H.2.2.2.2.2.2.ext E⟩
theorem RT.keep {Z : State} {h h' : Heap} {a : Addr} {f0 : Int32} {f1 : Int32} {f2 : Int32} {f3 : Int32} {f4 : Int32} {f5 : Int32} {ws : List Addr} (H : RT Z h a f0 f1 f2 f3 f4 f5) (K : Keep h h' ws) (q : a ∉ ws) : RT Z h' a f0 f1 f2 f3 f4 f5 := ⟨H.1.keep K, H.2.1.keep K q, H.2.2.1.keep K q, H.2.2.2.1.keep K q, H.2.2.2.2.1.keep K q, H.2.2.2.2.2.1.keep K q, H.2.2.2.2.2.2.keep K q⟩
theorem RT.other {Z : State} {h h' : Heap} {a : Addr} {f0 : Int32} {f1 : Int32} {f2 : Int32} {f3 : Int32} {f4 : Int32} {f5 : Int32} {b : Addr} {sl : Nat} {v : Value} (H : RT Z h a f0 f1 f2 f3 f4 f5) (W : Wr h h' b sl v) (q : a ≠ b) : RT Z h' a f0 f1 f2 f3 f4 f5 := ⟨H.1.wr W, H.2.1.other W (Or.inl q), H.2.2.1.other W (Or.inl q), H.2.2.2.1.other W (Or.inl q), H.2.2.2.2.1.other W (Or.inl q), H.2.2.2.2.2.1.other W (Or.inl q), H.2.2.2.2.2.2.other W (Or.inl q)⟩
theorem RT.set_size {Z : State} {h h' : Heap} {a : Addr} {f0 : Int32} {f1 : Int32} {f2 : Int32} {f3 : Int32} {f4 : Int32} {f5 : Int32} {a0 : Array Value} (hw : ∀ d ∈ tables_1, d.before a0 Z = true) {g : Int32} (H : RT Z h a f0 f1 f2 f3 f4 f5) (W : Wr h h' a (Jvm.RoadKit.slotOf Z "com/example/framewire/framewire/rfb/Tiles" "size" "I") (.int g)) : RT Z h' a g f1 f2 f3 f4 f5 := ⟨H.1.wr W, H.2.1.same W, H.2.2.1.other W (Or.inr (slot_ne (Or.inl (wd_22 hw)) (Or.inr (wd_15 hw)) (by decide) (t := .int) (t' := .int) (by decide) (by decide))), H.2.2.2.1.other W (Or.inr (slot_ne (Or.inl (wd_24 hw)) (Or.inr (wd_15 hw)) (by decide) (t := .int) (t' := .int) (by decide) (by decide))), H.2.2.2.2.1.other W (Or.inr (slot_ne (Or.inl (wd_26 hw)) (Or.inr (wd_15 hw)) (by decide) (t := .int) (t' := .int) (by decide) (by decide))), H.2.2.2.2.2.1.other W (Or.inr (slot_ne (Or.inl (wd_28 hw)) (Or.inr (wd_15 hw)) (by decide) (t := .int) (t' := .int) (by decide) (by decide))), H.2.2.2.2.2.2.other W (Or.inr (slot_ne (Or.inl (wd_30 hw)) (Or.inr (wd_15 hw)) (by decide) (t := .int) (t' := .int) (by decide) (by decide)))⟩
theorem RT.set_left {Z : State} {h h' : Heap} {a : Addr} {f0 : Int32} {f1 : Int32} {f2 : Int32} {f3 : Int32} {f4 : Int32} {f5 : Int32} {a0 : Array Value} (hw : ∀ d ∈ tables_1, d.before a0 Z = true) {g : Int32} (H : RT Z h a f0 f1 f2 f3 f4 f5) (W : Wr h h' a (Jvm.RoadKit.slotOf Z "com/example/framewire/framewire/rfb/Tiles" "left" "I") (.int g)) : RT Z h' a f0 g f2 f3 f4 f5 := ⟨H.1.wr W, H.2.1.other W (Or.inr (slot_ne (Or.inr (wd_15 hw)) (Or.inl (wd_22 hw)) (by decide) (t := .int) (t' := .int) (by decide) (by decide))), H.2.2.1.same W, H.2.2.2.1.other W (Or.inr (slot_ne (Or.inl (wd_24 hw)) (Or.inl (wd_22 hw)) (by decide) (t := .int) (t' := .int) (by decide) (by decide))), H.2.2.2.2.1.other W (Or.inr (slot_ne (Or.inl (wd_26 hw)) (Or.inl (wd_22 hw)) (by decide) (t := .int) (t' := .int) (by decide) (by decide))), H.2.2.2.2.2.1.other W (Or.inr (slot_ne (Or.inl (wd_28 hw)) (Or.inl (wd_22 hw)) (by decide) (t := .int) (t' := .int) (by decide) (by decide))), H.2.2.2.2.2.2.other W (Or.inr (slot_ne (Or.inl (wd_30 hw)) (Or.inl (wd_22 hw)) (by decide) (t := .int) (t' := .int) (by decide) (by decide)))⟩
theorem RT.set_right {Z : State} {h h' : Heap} {a : Addr} {f0 : Int32} {f1 : Int32} {f2 : Int32} {f3 : Int32} {f4 : Int32} {f5 : Int32} {a0 : Array Value} (hw : ∀ d ∈ tables_1, d.before a0 Z = true) {g : Int32} (H : RT Z h a f0 f1 f2 f3 f4 f5) (W : Wr h h' a (Jvm.RoadKit.slotOf Z "com/example/framewire/framewire/rfb/Tiles" "right" "I") (.int g)) : RT Z h' a f0 f1 g f3 f4 f5 := ⟨H.1.wr W, H.2.1.other W (Or.inr (slot_ne (Or.inr (wd_15 hw)) (Or.inl (wd_24 hw)) (by decide) (t := .int) (t' := .int) (by decide) (by decide))), H.2.2.1.other W (Or.inr (slot_ne (Or.inl (wd_22 hw)) (Or.inl (wd_24 hw)) (by decide) (t := .int) (t' := .int) (by decide) (by decide))), H.2.2.2.1.same W, H.2.2.2.2.1.other W (Or.inr (slot_ne (Or.inl (wd_26 hw)) (Or.inl (wd_24 hw)) (by decide) (t := .int) (t' := .int) (by decide) (by decide))), H.2.2.2.2.2.1.other W (Or.inr (slot_ne (Or.inl (wd_28 hw)) (Or.inl (wd_24 hw)) (by decide) (t := .int) (t' := .int) (by decide) (by decide))), H.2.2.2.2.2.2.other W (Or.inr (slot_ne (Or.inl (wd_30 hw)) (Or.inl (wd_24 hw)) (by decide) (t := .int) (t' := .int) (by decide) (by decide)))⟩
theorem RT.set_bottom {Z : State} {h h' : Heap} {a : Addr} {f0 : Int32} {f1 : Int32} {f2 : Int32} {f3 : Int32} {f4 : Int32} {f5 : Int32} {a0 : Array Value} (hw : ∀ d ∈ tables_1, d.before a0 Z = true) {g : Int32} (H : RT Z h a f0 f1 f2 f3 f4 f5) (W : Wr h h' a (Jvm.RoadKit.slotOf Z "com/example/framewire/framewire/rfb/Tiles" "bottom" "I") (.int g)) : RT Z h' a f0 f1 f2 g f4 f5 := ⟨H.1.wr W, H.2.1.other W (Or.inr (slot_ne (Or.inr (wd_15 hw)) (Or.inl (wd_26 hw)) (by decide) (t := .int) (t' := .int) (by decide) (by decide))), H.2.2.1.other W (Or.inr (slot_ne (Or.inl (wd_22 hw)) (Or.inl (wd_26 hw)) (by decide) (t := .int) (t' := .int) (by decide) (by decide))), H.2.2.2.1.other W (Or.inr (slot_ne (Or.inl (wd_24 hw)) (Or.inl (wd_26 hw)) (by decide) (t := .int) (t' := .int) (by decide) (by decide))), H.2.2.2.2.1.same W, H.2.2.2.2.2.1.other W (Or.inr (slot_ne (Or.inl (wd_28 hw)) (Or.inl (wd_26 hw)) (by decide) (t := .int) (t' := .int) (by decide) (by decide))), H.2.2.2.2.2.2.other W (Or.inr (slot_ne (Or.inl (wd_30 hw)) (Or.inl (wd_26 hw)) (by decide) (t := .int) (t' := .int) (by decide) (by decide)))⟩
theorem RT.set_x {Z : State} {h h' : Heap} {a : Addr} {f0 : Int32} {f1 : Int32} {f2 : Int32} {f3 : Int32} {f4 : Int32} {f5 : Int32} {a0 : Array Value} (hw : ∀ d ∈ tables_1, d.before a0 Z = true) {g : Int32} (H : RT Z h a f0 f1 f2 f3 f4 f5) (W : Wr h h' a (Jvm.RoadKit.slotOf Z "com/example/framewire/framewire/rfb/Tiles" "x" "I") (.int g)) : RT Z h' a f0 f1 f2 f3 g f5 := ⟨H.1.wr W, H.2.1.other W (Or.inr (slot_ne (Or.inr (wd_15 hw)) (Or.inl (wd_28 hw)) (by decide) (t := .int) (t' := .int) (by decide) (by decide))), H.2.2.1.other W (Or.inr (slot_ne (Or.inl (wd_22 hw)) (Or.inl (wd_28 hw)) (by decide) (t := .int) (t' := .int) (by decide) (by decide))), H.2.2.2.1.other W (Or.inr (slot_ne (Or.inl (wd_24 hw)) (Or.inl (wd_28 hw)) (by decide) (t := .int) (t' := .int) (by decide) (by decide))), H.2.2.2.2.1.other W (Or.inr (slot_ne (Or.inl (wd_26 hw)) (Or.inl (wd_28 hw)) (by decide) (t := .int) (t' := .int) (by decide) (by decide))), H.2.2.2.2.2.1.same W, H.2.2.2.2.2.2.other W (Or.inr (slot_ne (Or.inl (wd_30 hw)) (Or.inl (wd_28 hw)) (by decide) (t := .int) (t' := .int) (by decide) (by decide)))⟩
theorem RT.set_y {Z : State} {h h' : Heap} {a : Addr} {f0 : Int32} {f1 : Int32} {f2 : Int32} {f3 : Int32} {f4 : Int32} {f5 : Int32} {a0 : Array Value} (hw : ∀ d ∈ tables_1, d.before a0 Z = true) {g : Int32} (H : RT Z h a f0 f1 f2 f3 f4 f5) (W : Wr h h' a (Jvm.RoadKit.slotOf Z "com/example/framewire/framewire/rfb/Tiles" "y" "I") (.int g)) : RT Z h' a f0 f1 f2 f3 f4 g := ⟨H.1.wr W, H.2.1.other W (Or.inr (slot_ne (Or.inr (wd_15 hw)) (Or.inl (wd_30 hw)) (by decide) (t := .int) (t' := .int) (by decide) (by decide))), H.2.2.1.other W (Or.inr (slot_ne (Or.inl (wd_22 hw)) (Or.inl (wd_30 hw)) (by decide) (t := .int) (t' := .int) (by decide) (by decide))), H.2.2.2.1.other W (Or.inr (slot_ne (Or.inl (wd_24 hw)) (Or.inl (wd_30 hw)) (by decide) (t := .int) (t' := .int) (by decide) (by decide))), H.2.2.2.2.1.other W (Or.inr (slot_ne (Or.inl (wd_26 hw)) (Or.inl (wd_30 hw)) (by decide) (t := .int) (t' := .int) (by decide) (by decide))), H.2.2.2.2.2.1.other W (Or.inr (slot_ne (Or.inl (wd_28 hw)) (Or.inl (wd_30 hw)) (by decide) (t := .int) (t' := .int) (by decide) (by decide))), H.2.2.2.2.2.2.same W⟩
set_option maxRecDepth 65536 in
set_option maxHeartbeats 40000000 in
theorem c_init (l : Launch) {Z : State} {a0 : Array Value} (hw : ∀ d ∈ tables_1, d.before a0 Z = true) (h0 : Heap) (n0 : Nat) (hn0 : n0 ≤ h0.size) (a : Addr) (s0 : Int32) (sz lf rt bt x y : Int32) (ga : n0 ≤ a) (H : RT Z h0 a sz lf rt bt x y) : Con l Z (⟨"com/example/framewire/framewire/rfb/Tiles", "<init>", "(I)V"⟩ : MethodName) prog_102_method_1_code 2 none ({ frames := 1, cells := 0, slots := 0, locals := 12 } : Room) [] #[(.ref a), (.int s0)] h0 n0 (fun v h' => v = none ∧ Keep h0 h' [a] ∧ RT Z h' a s0 lf rt bt x y) := by
  refine con_of (Ls0 := #[.val (.ref a), .val (.int s0)]) (plainFor_of_name pn_0) (fun m => by first | (simp [entryFrame, mkF, argsToLocals, Value.category]; done) | rfl) hn0 ?_
  intro p e s m below meth c C
  refine g_aloadN C D2_0 rfl rfl ?_
  refine g_initO C (wd_11 hw) (wd_12 hw) (wd_13 hw) D2_1 rfl (by decide) 0 (Nat.le_of_eq rfl) (by decide) ?_
  refine g_aloadN C D2_4 rfl rfl ?_
  refine g_iloadN C D2_5 rfl ?_
  refine g_putF C (wd_14 hw) D2_6 H.2.1 H.1 (Or.inr ⟨(wd_15 hw), rfl, rfl⟩) (wd_6 hw) (ty := .int) (v' := (.int s0)) (by decide) rfl rfl ga ?_
  intro h1 W2
  have H3 := RT.set_size hw (g := s0) H W2
  have K4 := (Keep.refl h0 [a]).wr W2 (Or.inl (by simp))
  refine g_ret C D2_9 (by decide) (by decide) ?_
  exact ⟨rfl, K4, H3⟩
set_option maxRecDepth 65536 in
set_option maxHeartbeats 40000000 in
theorem c_start (l : Launch) {Z : State} {a0 : Array Value} (hw : ∀ d ∈ tables_1, d.before a0 Z = true) (h0 : Heap) (n0 : Nat) (hn0 : n0 ≤ h0.size) (a : Addr) (x0 y0 w0 hh ys : Int32) (sz lf rt bt x y : Int32) (ga : n0 ≤ a) (H : RT Z h0 a sz lf rt bt x y) (hs : startR w0 y0 (y0 + hh) ys) : Con l Z (⟨"com/example/framewire/framewire/rfb/Tiles", "start", "(IIII)V"⟩ : MethodName) prog_102_method_2_code 5 none ({ frames := 0, cells := 0, slots := 0, locals := 0 } : Room) [] #[(.ref a), (.int x0), (.int y0), (.int w0), (.int hh)] h0 n0 (fun v h' => v = none ∧ Keep h0 h' [a] ∧ RT Z h' a sz x0 (x0 + w0) (y0 + hh) x0 ys) := by
  refine con_of (Ls0 := #[.val (.ref a), .val (.int x0), .val (.int y0), .val (.int w0), .val (.int hh)]) (plainFor_of_name pn_0) (fun m => by first | (simp [entryFrame, mkF, argsToLocals, Value.category]; done) | rfl) hn0 ?_
  intro p e s m below meth c C
  refine g_aloadN C D4_0 rfl rfl ?_
  refine g_iloadN C D4_1 rfl ?_
  refine g_putF C (wd_21 hw) D4_2 H.2.2.1 H.1 (Or.inl (wd_22 hw)) (wd_6 hw) (ty := .int) (v' := (.int x0)) (by decide) rfl rfl ga ?_
  intro h1 W2
  have H3 := RT.set_left hw (g := x0) H W2
  have K4 := (Keep.refl h0 [a]).wr W2 (Or.inl (by simp))
  refine g_aloadN C D4_5 rfl rfl ?_
  refine g_iloadN C D4_6 rfl ?_
  refine g_iloadN C D4_7 rfl ?_
  refine g_iadd C D4_8 ?_
  refine g_putF C (wd_23 hw) D4_9 H3.2.2.2.1 H3.1 (Or.inl (wd_24 hw)) (wd_6 hw) (ty := .int) (v' := (.int (x0 + w0))) (by decide) rfl rfl ga ?_
  intro h5 W6
  have H7 := RT.set_right hw (g := (x0 + w0)) H3 W6
  have K8 := K4.wr W6 (Or.inl (by simp))
  refine g_aloadN C D4_12 rfl rfl ?_
  refine g_iloadN C D4_13 rfl ?_
  refine g_iload C D4_14 rfl ?_
  refine g_iadd C D4_16 ?_
  refine g_putF C (wd_25 hw) D4_17 H7.2.2.2.2.1 H7.1 (Or.inl (wd_26 hw)) (wd_6 hw) (ty := .int) (v' := (.int (y0 + hh))) (by decide) rfl rfl ga ?_
  intro h9 W10
  have H11 := RT.set_bottom hw (g := (y0 + hh)) H7 W10
  have K12 := K8.wr W10 (Or.inl (by simp))
  refine g_aloadN C D4_20 rfl rfl ?_
  refine g_iloadN C D4_21 rfl ?_
  refine g_putF C (wd_27 hw) D4_22 H11.2.2.2.2.2.1 H11.1 (Or.inl (wd_28 hw)) (wd_6 hw) (ty := .int) (v' := (.int x0)) (by decide) rfl rfl ga ?_
  intro h13 W14
  have H15 := RT.set_x hw (g := x0) H11 W14
  have K16 := K12.wr W14 (Or.inl (by simp))
  refine g_aloadN C D4_25 rfl rfl ?_
  refine g_iloadN C D4_26 rfl ?_
  refine g_if_ne C D4_27 (fun q17 => ?_) (fun q17 => ?_)
  · refine g_iloadN C D4_37 rfl ?_
    refine g_putF C (wd_29 hw) D4_38 H15.2.2.2.2.2.2 H15.1 (Or.inl (wd_30 hw)) (wd_6 hw) (ty := .int) (v' := (.int y0)) (by decide) rfl rfl ga ?_
    intro h18 W19
    have H20 := RT.set_y hw (g := y0) H15 W19
    have K21 := K16.wr W19 (Or.inl (by simp))
    refine g_ret C D4_41 (by decide) (by decide) ?_
    obtain rfl := startF q17 hs
    exact ⟨rfl, K21, H20⟩
  · refine g_aloadN C D4_30 rfl rfl ?_
    refine g_getF C (wd_25 hw) D4_31 H15.2.2.2.2.1 ?_
    refine g_goto C D4_34 ?_
    refine g_putF C (wd_29 hw) D4_38 H15.2.2.2.2.2.2 H15.1 (Or.inl (wd_30 hw)) (wd_6 hw) (ty := .int) (v' := (.int (y0 + hh))) (by decide) rfl rfl ga ?_
    intro h22 W23
    have H24 := RT.set_y hw (g := (y0 + hh)) H15 W23
    have K25 := K16.wr W23 (Or.inl (by simp))
    refine g_ret C D4_41 (by decide) (by decide) ?_
    obtain rfl := startT q17 hs
    exact ⟨rfl, K25, H24⟩
set_option maxRecDepth 65536 in
set_option maxHeartbeats 40000000 in
theorem c_done (l : Launch) {Z : State} {a0 : Array Value} (hw : ∀ d ∈ tables_1, d.before a0 Z = true) (h0 : Heap) (n0 : Nat) (hn0 : n0 ≤ h0.size) (a : Addr) (r : Int32) (sz lf rt bt x y : Int32) (ga : n0 ≤ a) (H : RT Z h0 a sz lf rt bt x y) (hs : doneR y bt r) : Con l Z (⟨"com/example/framewire/framewire/rfb/Tiles", "done", "()Z"⟩ : MethodName) prog_102_method_3_code 1 (some .boolean) ({ frames := 0, cells := 0, slots := 0, locals := 0 } : Room) [] #[(.ref a)] h0 n0 (fun v h' => v = some (.int r) ∧ h0 = h') := by
  refine con_of (Ls0 := #[.val (.ref a)]) (plainFor_of_name pn_0) (fun m => by first | (simp [entryFrame, mkF, argsToLocals, Value.category]; done) | rfl) hn0 ?_
  intro p e s m below meth c C
  refine g_aloadN C D5_0 rfl rfl ?_
  refine g_getF C (wd_29 hw) D5_1 H.2.2.2.2.2.2 ?_
  refine g_aloadN C D5_4 rfl rfl ?_
  refine g_getF C (wd_25 hw) D5_5 H.2.2.2.2.1 ?_
  refine g_icmp_lt C D5_8 (fun q1 => ?_) (fun q1 => ?_)
  · refine g_iconst C (0 : Int32) rfl D5_15 ?_
    refine g_retZ C D5_16 (by decide) (by decide) ?_
    obtain rfl := doneT q1 hs
    exact ⟨rfl, rfl⟩
  · refine g_iconst C (1 : Int32) rfl D5_11 ?_
    refine g_goto C D5_12 ?_
    refine g_retZ C D5_16 (by decide) (by decide) ?_
    obtain rfl := doneF q1 hs
    exact ⟨rfl, rfl⟩
set_option maxRecDepth 65536 in
set_option maxHeartbeats 40000000 in
theorem c_x (l : Launch) {Z : State} {a0 : Array Value} (hw : ∀ d ∈ tables_1, d.before a0 Z = true) (h0 : Heap) (n0 : Nat) (hn0 : n0 ≤ h0.size) (a : Addr) (sz lf rt bt x y : Int32) (ga : n0 ≤ a) (H : RT Z h0 a sz lf rt bt x y) : Con l Z (⟨"com/example/framewire/framewire/rfb/Tiles", "x", "()I"⟩ : MethodName) prog_102_method_5_code 1 (some .int) ({ frames := 0, cells := 0, slots := 0, locals := 0 } : Room) [] #[(.ref a)] h0 n0 (fun v h' => v = some (.int x) ∧ h0 = h') := by
  refine con_of (Ls0 := #[.val (.ref a)]) (plainFor_of_name pn_0) (fun m => by first | (simp [entryFrame, mkF, argsToLocals, Value.category]; done) | rfl) hn0 ?_
  intro p e s m below meth c C
  refine g_aloadN C D6_0 rfl rfl ?_
  refine g_getF C (wd_27 hw) D6_1 H.2.2.2.2.2.1 ?_
  refine g_retI C D6_4 (by decide) (by decide) ?_
  exact ⟨rfl, rfl⟩
set_option maxRecDepth 65536 in
set_option maxHeartbeats 40000000 in
theorem c_y (l : Launch) {Z : State} {a0 : Array Value} (hw : ∀ d ∈ tables_1, d.before a0 Z = true) (h0 : Heap) (n0 : Nat) (hn0 : n0 ≤ h0.size) (a : Addr) (sz lf rt bt x y : Int32) (ga : n0 ≤ a) (H : RT Z h0 a sz lf rt bt x y) : Con l Z (⟨"com/example/framewire/framewire/rfb/Tiles", "y", "()I"⟩ : MethodName) prog_102_method_6_code 1 (some .int) ({ frames := 0, cells := 0, slots := 0, locals := 0 } : Room) [] #[(.ref a)] h0 n0 (fun v h' => v = some (.int y) ∧ h0 = h') := by
  refine con_of (Ls0 := #[.val (.ref a)]) (plainFor_of_name pn_0) (fun m => by first | (simp [entryFrame, mkF, argsToLocals, Value.category]; done) | rfl) hn0 ?_
  intro p e s m below meth c C
  refine g_aloadN C D7_0 rfl rfl ?_
  refine g_getF C (wd_29 hw) D7_1 H.2.2.2.2.2.2 ?_
  refine g_retI C D7_4 (by decide) (by decide) ?_
  exact ⟨rfl, rfl⟩
set_option maxRecDepth 65536 in
set_option maxHeartbeats 40000000 in
theorem c_min (l : Launch) {Z : State} {a0 : Array Value} (hw : ∀ d ∈ tables_1, d.before a0 Z = true) (h0 : Heap) (n0 : Nat) (hn0 : n0 ≤ h0.size) (x y r : Int32) (hs : minR x y r) : Con l Z (⟨"java/lang/Math", "min", "(II)I"⟩ : MethodName) jdk_29_method_69_code 2 (some .int) ({ frames := 0, cells := 0, slots := 0, locals := 0 } : Room) [] #[(.int x), (.int y)] h0 n0 (fun v h' => v = some (.int r) ∧ h0 = h') := by
  refine con_of (Ls0 := #[.val (.int x), .val (.int y)]) (Jvm.Free.JP.mathPlain rfl (by decide +kernel)) (fun m => by first | (simp [entryFrame, mkF, argsToLocals, Value.category]; done) | rfl) hn0 ?_
  intro p e s m below meth c C
  refine g_iloadN C D9_0 rfl ?_
  refine g_iloadN C D9_1 rfl ?_
  refine g_icmp_gt C D9_2 (fun q1 => ?_) (fun q1 => ?_)
  · refine g_iloadN C D9_9 rfl ?_
    refine g_retI C D9_10 (by decide) (by decide) ?_
    obtain rfl := minT q1 hs
    exact ⟨rfl, rfl⟩
  · refine g_iloadN C D9_5 rfl ?_
    refine g_goto C D9_6 ?_
    refine g_retI C D9_10 (by decide) (by decide) ?_
    obtain rfl := minF q1 hs
    exact ⟨rfl, rfl⟩
set_option maxRecDepth 65536 in
set_option maxHeartbeats 40000000 in
theorem c_width (l : Launch) {Z : State} {a0 : Array Value} (hw : ∀ d ∈ tables_1, d.before a0 Z = true) (h0 : Heap) (n0 : Nat) (hn0 : n0 ≤ h0.size) (a : Addr) (r : Int32) (sz lf rt bt x y : Int32) (ga : n0 ≤ a) (H : RT Z h0 a sz lf rt bt x y) (hs : minR sz (rt - x) r) : Con l Z (⟨"com/example/framewire/framewire/rfb/Tiles", "width", "()I"⟩ : MethodName) prog_102_method_7_code 1 (some .int) ({ frames := 1, cells := 0, slots := 0, locals := 13 } : Room) [] #[(.ref a)] h0 n0 (fun v h' => v = some (.int r) ∧ h0 = h') := by
  refine con_of (Ls0 := #[.val (.ref a)]) (plainFor_of_name pn_0) (fun m => by first | (simp [entryFrame, mkF, argsToLocals, Value.category]; done) | rfl) hn0 ?_
  intro p e s m below meth c C
  refine g_aloadN C D8_0 rfl rfl ?_
  refine g_getF C (wd_14 hw) D8_1 H.2.1 ?_
  refine g_aloadN C D8_4 rfl rfl ?_
  refine g_getF C (wd_23 hw) D8_5 H.2.2.2.1 ?_
  refine g_aloadN C D8_8 rfl rfl ?_
  refine g_getF C (wd_27 hw) D8_9 H.2.2.2.2.2.1 ?_
  refine g_isub C D8_12 ?_
  refine g_callS C (c_min l hw h0 n0 hn0 sz (rt - x) r hs) (wd_51 hw) (wd_52 hw) (wd_53 hw) (wd_54 hw) (by decide) D8_13 pd_0 [(.int sz), (.int (rt - x))] [] rfl rfl rfl 0 (Nat.le_of_eq rfl) (by decide) (by decide) (by decide) (by decide) ?_
  rintro _ _ ⟨rfl, rfl⟩
  refine g_cast (f' := mkF m 16 #[.val (.ref a)] [(.int r)]) rfl ?_
  refine g_retI C D8_16 (by decide) (by decide) ?_
  exact ⟨rfl, rfl⟩
set_option maxRecDepth 65536 in
set_option maxHeartbeats 40000000 in
theorem c_height (l : Launch) {Z : State} {a0 : Array Value} (hw : ∀ d ∈ tables_1, d.before a0 Z = true) (h0 : Heap) (n0 : Nat) (hn0 : n0 ≤ h0.size) (a : Addr) (r : Int32) (sz lf rt bt x y : Int32) (ga : n0 ≤ a) (H : RT Z h0 a sz lf rt bt x y) (hs : minR sz (bt - y) r) : Con l Z (⟨"com/example/framewire/framewire/rfb/Tiles", "height", "()I"⟩ : MethodName) prog_102_method_8_code 1 (some .int) ({ frames := 1, cells := 0, slots := 0, locals := 13 } : Room) [] #[(.ref a)] h0 n0 (fun v h' => v = some (.int r) ∧ h0 = h') := by
  refine con_of (Ls0 := #[.val (.ref a)]) (plainFor_of_name pn_0) (fun m => by first | (simp [entryFrame, mkF, argsToLocals, Value.category]; done) | rfl) hn0 ?_
  intro p e s m below meth c C
  refine g_aloadN C D10_0 rfl rfl ?_
  refine g_getF C (wd_14 hw) D10_1 H.2.1 ?_
  refine g_aloadN C D10_4 rfl rfl ?_
  refine g_getF C (wd_25 hw) D10_5 H.2.2.2.2.1 ?_
  refine g_aloadN C D10_8 rfl rfl ?_
  refine g_getF C (wd_29 hw) D10_9 H.2.2.2.2.2.2 ?_
  refine g_isub C D10_12 ?_
  refine g_callS C (c_min l hw h0 n0 hn0 sz (bt - y) r hs) (wd_51 hw) (wd_52 hw) (wd_53 hw) (wd_54 hw) (by decide) D10_13 pd_0 [(.int sz), (.int (bt - y))] [] rfl rfl rfl 0 (Nat.le_of_eq rfl) (by decide) (by decide) (by decide) (by decide) ?_
  rintro _ _ ⟨rfl, rfl⟩
  refine g_cast (f' := mkF m 16 #[.val (.ref a)] [(.int r)]) rfl ?_
  refine g_retI C D10_16 (by decide) (by decide) ?_
  exact ⟨rfl, rfl⟩
set_option maxRecDepth 65536 in
set_option maxHeartbeats 40000000 in
theorem c_next (l : Launch) {Z : State} {a0 : Array Value} (hw : ∀ d ∈ tables_1, d.before a0 Z = true) (h0 : Heap) (n0 : Nat) (hn0 : n0 ≤ h0.size) (a : Addr) (x' y' : Int32) (sz lf rt bt x y : Int32) (ga : n0 ≤ a) (H : RT Z h0 a sz lf rt bt x y) (hs : nextR sz lf rt x y x' y') : Con l Z (⟨"com/example/framewire/framewire/rfb/Tiles", "next", "()V"⟩ : MethodName) prog_102_method_4_code 1 none ({ frames := 0, cells := 0, slots := 0, locals := 0 } : Room) [] #[(.ref a)] h0 n0 (fun v h' => v = none ∧ Keep h0 h' [a] ∧ RT Z h' a sz lf rt bt x' y') := by
  refine con_of (Ls0 := #[.val (.ref a)]) (plainFor_of_name pn_0) (fun m => by first | (simp [entryFrame, mkF, argsToLocals, Value.category]; done) | rfl) hn0 ?_
  intro p e s m below meth c C
  refine g_aloadN C D11_0 rfl rfl ?_
  refine g_dup C D11_1 rfl ?_
  refine g_getF C (wd_27 hw) D11_2 H.2.2.2.2.2.1 ?_
  refine g_aloadN C D11_5 rfl rfl ?_
  refine g_getF C (wd_14 hw) D11_6 H.2.1 ?_
  refine g_iadd C D11_9 ?_
  refine g_putF C (wd_27 hw) D11_10 H.2.2.2.2.2.1 H.1 (Or.inl (wd_28 hw)) (wd_6 hw) (ty := .int) (v' := (.int (x + sz))) (by decide) rfl rfl ga ?_
  intro h1 W2
  have H3 := RT.set_x hw (g := (x + sz)) H W2
  have K4 := (Keep.refl h0 [a]).wr W2 (Or.inl (by simp))
  refine g_aloadN C D11_13 rfl rfl ?_
  refine g_getF C (wd_27 hw) D11_14 H3.2.2.2.2.2.1 ?_
  refine g_aloadN C D11_17 rfl rfl ?_
  refine g_getF C (wd_23 hw) D11_18 H3.2.2.2.1 ?_
  refine g_icmp_lt C D11_21 (fun q5 => ?_) (fun q5 => ?_)
  · refine g_ret C D11_45 (by decide) (by decide) ?_
    obtain ⟨rfl, rfl⟩ := nextT q5 hs
    exact ⟨rfl, K4, H3⟩
  · refine g_aloadN C D11_24 rfl rfl ?_
    refine g_aloadN C D11_25 rfl rfl ?_
    refine g_getF C (wd_21 hw) D11_26 H3.2.2.1 ?_
    refine g_putF C (wd_27 hw) D11_29 H3.2.2.2.2.2.1 H3.1 (Or.inl (wd_28 hw)) (wd_6 hw) (ty := .int) (v' := (.int lf)) (by decide) rfl rfl ga ?_
    intro h6 W7
    have H8 := RT.set_x hw (g := lf) H3 W7
    have K9 := K4.wr W7 (Or.inl (by simp))
    refine g_aloadN C D11_32 rfl rfl ?_
    refine g_dup C D11_33 rfl ?_
    refine g_getF C (wd_29 hw) D11_34 H8.2.2.2.2.2.2 ?_
    refine g_aloadN C D11_37 rfl rfl ?_
    refine g_getF C (wd_14 hw) D11_38 H8.2.1 ?_
    refine g_iadd C D11_41 ?_
    refine g_putF C (wd_29 hw) D11_42 H8.2.2.2.2.2.2 H8.1 (Or.inl (wd_30 hw)) (wd_6 hw) (ty := .int) (v' := (.int (y + sz))) (by decide) rfl rfl ga ?_
    intro h10 W11
    have H12 := RT.set_y hw (g := (y + sz)) H8 W11
    have K13 := K9.wr W11 (Or.inl (by simp))
    refine g_ret C D11_45 (by decide) (by decide) ?_
    obtain ⟨rfl, rfl⟩ := nextF q5 hs
    exact ⟨rfl, K13, H12⟩
set_option maxRecDepth 65536 in
set_option maxHeartbeats 40000000 in
theorem c_pick (l : Launch) {Z : State} {a0 : Array Value} (hw : ∀ d ∈ tables_1, d.before a0 Z = true) (h0 : Heap) (n0 : Nat) (hn0 : n0 ≤ h0.size) (md v0 r : Int32) (hs : pickR md v0 r) : Con l Z (⟨"com/example/framewire/framewire/rfb/TilesStartPinLaw", "pick", "(II)I"⟩ : MethodName) method_2_code 2 (some .int) ({ frames := 0, cells := 0, slots := 0, locals := 0 } : Room) [] #[(.int md), (.int v0)] h0 n0 (fun v h' => v = some (.int r) ∧ h0 = h') := by
  refine con_of (Ls0 := #[.val (.int md), .val (.int v0)]) (plainFor_of_name pn_1) (fun m => by first | (simp [entryFrame, mkF, argsToLocals, Value.category]; done) | rfl) hn0 ?_
  intro p e s m below meth c C
  refine g_iloadN C D1_0 rfl ?_
  refine g_if_ne C D1_1 (fun q1 => ?_) (fun q1 => ?_)
  · refine g_iloadN C D1_6 rfl ?_
    refine g_iconst C (1 : Int32) rfl D1_7 ?_
    refine g_icmp_ne C D1_8 (fun q2 => ?_) (fun q2 => ?_)
    · refine g_iloadN C D1_16 rfl ?_
      refine g_ldc C (wd_0 hw) D1_17 ?_
      refine g_iand C D1_19 ?_
      refine g_retI C D1_20 (by decide) (by decide) ?_
      obtain rfl := pick2 q1 q2 hs
      exact ⟨rfl, rfl⟩
    · refine g_iloadN C D1_11 rfl ?_
      refine g_bipush C (127 : Int32) rfl D1_12 ?_
      refine g_iand C D1_14 ?_
      refine g_retI C D1_15 (by decide) (by decide) ?_
      obtain rfl := pick1 q1 q2 hs
      exact ⟨rfl, rfl⟩
  · refine g_iconst C (0 : Int32) rfl D1_4 ?_
    refine g_retI C D1_5 (by decide) (by decide) ?_
    obtain rfl := pick0 q1 hs
    exact ⟨rfl, rfl⟩
set_option maxRecDepth 65536 in
set_option maxHeartbeats 40000000 in
theorem c_law (l : Launch) {Z : State} {a0 : Array Value} (hw : ∀ d ∈ tables_1, d.before a0 Z = true) (ws : List Jvm.Cond) (h0 : Heap) (n0 : Nat) (hn0 : n0 ≤ h0.size) (i_sz i_a i_b i_c i_d i_e : Int32)  : Con l Z x code maxLocals ret room_1 ws #[(.int i_sz), (.int i_a), (.int i_b), (.int i_c), (.int i_d), (.int i_e)] h0 n0 (fun v h' => v = some (.int 1) ∧ True) := by
  refine con_of (Ls0 := #[.val (.int i_sz), .val (.int i_a), .val (.int i_b), .val (.int i_c), .val (.int i_d), .val (.int i_e), .unset, .unset, .unset, .unset, .unset, .unset, .unset]) (plainFor_of_name pn_1) (fun m => by first | (simp [entryFrame, mkF, argsToLocals, Value.category, maxLocals]; done) | rfl) hn0 ?_
  intro p e s m below meth c C
  refine g_iloadN C D0_0 rfl ?_
  refine g_bipush C (63 : Int32) rfl D0_1 ?_
  refine g_iand C D0_3 ?_
  refine g_iconst C (1 : Int32) rfl D0_4 ?_
  refine g_iadd C D0_5 ?_
  generalize q_s0 : ((i_sz &&& (63 : Int32)) + (1 : Int32)) = s0
  have b_s : 1 ≤ s0.toInt ∧ s0.toInt ≤ 64 := q_s0 ▸ size63 i_sz
  refine g_istore C #[.val (.int i_sz), .val (.int i_a), .val (.int i_b), .val (.int i_c), .val (.int i_d), .val (.int i_e), .val (.int s0), .unset, .unset, .unset, .unset, .unset, .unset] D0_6 rfl ?_
  refine g_iloadN C D0_8 rfl ?_
  refine g_ldc C (wd_0 hw) D0_9 ?_
  refine g_iand C D0_11 ?_
  generalize q_x0 : (i_a &&& (1073741823 : Int32)) = x0
  have b_x : Rg x0 1073741823 := q_x0 ▸ mask30 i_a
  refine g_istore C #[.val (.int i_sz), .val (.int i_a), .val (.int i_b), .val (.int i_c), .val (.int i_d), .val (.int i_e), .val (.int s0), .val (.int x0), .unset, .unset, .unset, .unset, .unset] D0_12 rfl ?_
  refine g_iloadN C D0_14 rfl ?_
  refine g_ldc C (wd_0 hw) D0_15 ?_
  refine g_iand C D0_17 ?_
  generalize q_y0 : (i_b &&& (1073741823 : Int32)) = y0
  have b_y : Rg y0 1073741823 := q_y0 ▸ mask30 i_b
  refine g_istore C #[.val (.int i_sz), .val (.int i_a), .val (.int i_b), .val (.int i_c), .val (.int i_d), .val (.int i_e), .val (.int s0), .val (.int x0), .val (.int y0), .unset, .unset, .unset, .unset] D0_18 rfl ?_
  refine g_iload C D0_20 rfl ?_
  refine g_iconst C (3 : Int32) rfl D0_22 ?_
  refine g_iand C D0_23 ?_
  refine g_iloadN C D0_24 rfl ?_
  obtain ⟨w0, p_w, b_w⟩ := pickE (i_e &&& (3 : Int32)) i_c
  refine g_callS C (c_pick l hw h0 n0 hn0 (i_e &&& (3 : Int32)) i_c w0 p_w) (wd_1 hw) (wd_2 hw) (wd_3 hw) (wd_4 hw) (by decide) D0_25 pd_0 [(.int (i_e &&& (3 : Int32))), (.int i_c)] [] rfl rfl rfl 0 (Nat.le_of_eq rfl) (by decide) (by decide) (by decide) (by decide) ?_
  rintro _ _ ⟨rfl, rfl⟩
  refine g_cast (f' := mkF m 28 #[.val (.int i_sz), .val (.int i_a), .val (.int i_b), .val (.int i_c), .val (.int i_d), .val (.int i_e), .val (.int s0), .val (.int x0), .val (.int y0), .unset, .unset, .unset, .unset] [(.int w0)]) rfl ?_
  refine g_istore C #[.val (.int i_sz), .val (.int i_a), .val (.int i_b), .val (.int i_c), .val (.int i_d), .val (.int i_e), .val (.int s0), .val (.int x0), .val (.int y0), .val (.int w0), .unset, .unset, .unset] D0_28 rfl ?_
  refine g_iload C D0_30 rfl ?_
  refine g_iconst C (2 : Int32) rfl D0_32 ?_
  refine g_iushr C D0_33 ?_
  refine g_iconst C (3 : Int32) rfl D0_34 ?_
  refine g_iand C D0_35 ?_
  refine g_iload C D0_36 rfl ?_
  obtain ⟨v0, p_v, b_v⟩ := pickE ((ushrI i_e (2 : Int32)) &&& (3 : Int32)) i_d
  refine g_callS C (c_pick l hw h0 n0 hn0 ((ushrI i_e (2 : Int32)) &&& (3 : Int32)) i_d v0 p_v) (wd_1 hw) (wd_2 hw) (wd_3 hw) (wd_4 hw) (by decide) D0_38 pd_0 [(.int ((ushrI i_e (2 : Int32)) &&& (3 : Int32))), (.int i_d)] [] rfl rfl rfl 0 (Nat.le_of_eq rfl) (by decide) (by decide) (by decide) (by decide) ?_
  rintro _ _ ⟨rfl, rfl⟩
  refine g_cast (f' := mkF m 41 #[.val (.int i_sz), .val (.int i_a), .val (.int i_b), .val (.int i_c), .val (.int i_d), .val (.int i_e), .val (.int s0), .val (.int x0), .val (.int y0), .val (.int w0), .unset, .unset, .unset] [(.int v0)]) rfl ?_
  refine g_istore C #[.val (.int i_sz), .val (.int i_a), .val (.int i_b), .val (.int i_c), .val (.int i_d), .val (.int i_e), .val (.int s0), .val (.int x0), .val (.int y0), .val (.int w0), .val (.int v0), .unset, .unset] D0_41 rfl ?_
  by_cases qw : w0 = 0
  · refine g_iload C D0_43 rfl ?_
    refine g_if_eq C D0_45 (fun q1 => ?_) (fun q1 => ?_)
    rotate_left
    · exfalso
      exact q1 qw
    refine g_iconst C (1 : Int32) rfl D0_53 ?_
    refine g_goto C D0_54 ?_
    refine g_istore C #[.val (.int i_sz), .val (.int i_a), .val (.int i_b), .val (.int i_c), .val (.int i_d), .val (.int i_e), .val (.int s0), .val (.int x0), .val (.int y0), .val (.int w0), .val (.int v0), .val (.int (1 : Int32)), .unset] D0_58 rfl ?_
    refine g_new C (wd_5 hw) (wd_6 hw) (wd_7 hw) D0_60 (by decide) (by decide) ?_
    intro h2 b3 ge4 ea5 E6 X7 F8
    have H9 : RT Z h2 b3 (0 : Int32) (0 : Int32) (0 : Int32) (0 : Int32) (0 : Int32) (0 : Int32) := ⟨X7, F8 (Or.inr (wd_15 hw)) (ty := .int) (by decide), F8 (Or.inl (wd_22 hw)) (ty := .int) (by decide), F8 (Or.inl (wd_24 hw)) (ty := .int) (by decide), F8 (Or.inl (wd_26 hw)) (ty := .int) (by decide), F8 (Or.inl (wd_28 hw)) (ty := .int) (by decide), F8 (Or.inl (wd_30 hw)) (ty := .int) (by decide)⟩
    refine g_dup C D0_63 rfl ?_
    refine g_iload C D0_64 rfl ?_
    have hz10 : n0 ≤ h2.size := Nat.le_trans ge4 (Nat.le_of_lt H9.lt)
    refine g_callI C (c_init l hw h2 n0 hz10 b3 s0 (0 : Int32) (0 : Int32) (0 : Int32) (0 : Int32) (0 : Int32) (0 : Int32) ge4 H9) rfl (wd_8 hw) (wd_9 hw) (wd_7 hw) (wd_10 hw) (by decide) D0_66 pd_1 [(.int s0)] [(.ref b3)] rfl rfl rfl 1 (Nat.le_of_eq rfl) (by decide) (by decide) (by decide) (by decide) ?_
    rintro _ hB11 ⟨rfl, KB12, HB13⟩
    have hz14 : n0 ≤ hB11.size := Nat.le_trans hz10 KB12.1
    refine g_cast (f' := mkF m 69 #[.val (.int i_sz), .val (.int i_a), .val (.int i_b), .val (.int i_c), .val (.int i_d), .val (.int i_e), .val (.int s0), .val (.int x0), .val (.int y0), .val (.int w0), .val (.int v0), .val (.int (1 : Int32)), .unset] [(.ref b3)]) rfl ?_
    refine g_astore C #[.val (.int i_sz), .val (.int i_a), .val (.int i_b), .val (.int i_c), .val (.int i_d), .val (.int i_e), .val (.int s0), .val (.int x0), .val (.int y0), .val (.int w0), .val (.int v0), .val (.int (1 : Int32)), .val (.ref b3)] D0_69 rfl rfl ?_
    refine g_aload C D0_71 rfl rfl ?_
    refine g_iload C D0_73 rfl ?_
    refine g_iload C D0_75 rfl ?_
    refine g_iload C D0_77 rfl ?_
    refine g_iload C D0_79 rfl ?_
    refine g_callV C (c_start l hw hB11 n0 hz14 b3 x0 y0 w0 v0 (y0 + v0) s0 (0 : Int32) (0 : Int32) (0 : Int32) (0 : Int32) (0 : Int32) ge4 HB13 (Or.inl ⟨qw, rfl⟩)) (wd_16 hw) (wd_17 hw) (wd_18 hw) (wd_19 hw) (wd_7 hw) (wd_20 hw) (by decide) D0_81 pd_2 HB13.1 [(.int x0), (.int y0), (.int w0), (.int v0)] [] rfl rfl rfl 0 (Nat.le_of_eq rfl) (by decide) (by decide) (by decide) (by decide) ?_
    rintro _ hB15 ⟨rfl, KB16, HB17⟩
    have hz18 : n0 ≤ hB15.size := Nat.le_trans hz14 KB16.1
    refine g_cast (f' := mkF m 84 #[.val (.int i_sz), .val (.int i_a), .val (.int i_b), .val (.int i_c), .val (.int i_d), .val (.int i_e), .val (.int s0), .val (.int x0), .val (.int y0), .val (.int w0), .val (.int v0), .val (.int (1 : Int32)), .val (.ref b3)] []) rfl ?_
    refine g_aload C D0_84 rfl rfl ?_
    refine g_callV C (c_done l hw hB15 n0 hz18 b3 1 s0 x0 (x0 + w0) (y0 + v0) x0 (y0 + v0) ge4 HB17 (Or.inr ⟨no_lt _, rfl⟩)) (wd_31 hw) (wd_32 hw) (wd_33 hw) (wd_34 hw) (wd_7 hw) (wd_35 hw) (by decide) D0_86 pd_3 HB17.1 [] [] rfl rfl rfl 0 (Nat.le_of_eq rfl) (by decide) (by decide) (by decide) (by decide) ?_
    rintro _ _ ⟨rfl, rfl⟩
    refine g_cast (f' := mkF m 89 #[.val (.int i_sz), .val (.int i_a), .val (.int i_b), .val (.int i_c), .val (.int i_d), .val (.int i_e), .val (.int s0), .val (.int x0), .val (.int y0), .val (.int w0), .val (.int v0), .val (.int (1 : Int32)), .val (.ref b3)] [(.int 1)]) rfl ?_
    refine g_iload C D0_89 rfl ?_
    refine g_icmp_eq C D0_91 (fun q19 => ?_) (fun q19 => ?_)
    rotate_left
    · exfalso
      exact q19 rfl
    refine g_iload C D0_96 rfl ?_
    refine g_if_ne C D0_98 (fun q20 => ?_) (fun q20 => ?_)
    · exfalso
      exact q20 qw
    refine g_aload C D0_101 rfl rfl ?_
    refine g_callV C (c_x l hw hB15 n0 hz18 b3 s0 x0 (x0 + w0) (y0 + v0) x0 (y0 + v0) ge4 HB17) (wd_36 hw) (wd_37 hw) (wd_38 hw) (wd_39 hw) (wd_7 hw) (wd_40 hw) (by decide) D0_103 pd_4 HB17.1 [] [] rfl rfl rfl 0 (Nat.le_of_eq rfl) (by decide) (by decide) (by decide) (by decide) ?_
    rintro _ _ ⟨rfl, rfl⟩
    refine g_cast (f' := mkF m 106 #[.val (.int i_sz), .val (.int i_a), .val (.int i_b), .val (.int i_c), .val (.int i_d), .val (.int i_e), .val (.int s0), .val (.int x0), .val (.int y0), .val (.int w0), .val (.int v0), .val (.int (1 : Int32)), .val (.ref b3)] [(.int x0)]) rfl ?_
    refine g_iload C D0_106 rfl ?_
    refine g_icmp_ne C D0_108 (fun q21 => ?_) (fun q21 => ?_)
    · exfalso
      exact q21 rfl
    refine g_aload C D0_111 rfl rfl ?_
    refine g_callV C (c_y l hw hB15 n0 hz18 b3 s0 x0 (x0 + w0) (y0 + v0) x0 (y0 + v0) ge4 HB17) (wd_41 hw) (wd_42 hw) (wd_43 hw) (wd_44 hw) (wd_7 hw) (wd_45 hw) (by decide) D0_113 pd_4 HB17.1 [] [] rfl rfl rfl 0 (Nat.le_of_eq rfl) (by decide) (by decide) (by decide) (by decide) ?_
    rintro _ _ ⟨rfl, rfl⟩
    refine g_cast (f' := mkF m 116 #[.val (.int i_sz), .val (.int i_a), .val (.int i_b), .val (.int i_c), .val (.int i_d), .val (.int i_e), .val (.int s0), .val (.int x0), .val (.int y0), .val (.int w0), .val (.int v0), .val (.int (1 : Int32)), .val (.ref b3)] [(.int (y0 + v0))]) rfl ?_
    refine g_iload C D0_116 rfl ?_
    refine g_iload C D0_118 rfl ?_
    refine g_iadd C D0_120 ?_
    refine g_icmp_ne C D0_121 (fun q22 => ?_) (fun q22 => ?_)
    · exfalso
      exact q22 rfl
    refine g_iconst C (1 : Int32) rfl D0_124 ?_
    refine g_goto C D0_125 ?_
    refine g_retZ C D0_129 (by decide) (by decide) ?_
    exact ⟨rfl, trivial⟩
  · by_cases qv : v0 = 0
    · refine g_iload C D0_43 rfl ?_
      refine g_if_eq C D0_45 (fun q23 => ?_) (fun q23 => ?_)
      · exfalso
        exact qw q23
      refine g_iload C D0_48 rfl ?_
      refine g_if_ne C D0_50 (fun q24 => ?_) (fun q24 => ?_)
      · exfalso
        exact q24 qv
      refine g_iconst C (1 : Int32) rfl D0_53 ?_
      refine g_goto C D0_54 ?_
      refine g_istore C #[.val (.int i_sz), .val (.int i_a), .val (.int i_b), .val (.int i_c), .val (.int i_d), .val (.int i_e), .val (.int s0), .val (.int x0), .val (.int y0), .val (.int w0), .val (.int v0), .val (.int (1 : Int32)), .unset] D0_58 rfl ?_
      refine g_new C (wd_5 hw) (wd_6 hw) (wd_7 hw) D0_60 (by decide) (by decide) ?_
      intro h25 b26 ge27 ea28 E29 X30 F31
      have H32 : RT Z h25 b26 (0 : Int32) (0 : Int32) (0 : Int32) (0 : Int32) (0 : Int32) (0 : Int32) := ⟨X30, F31 (Or.inr (wd_15 hw)) (ty := .int) (by decide), F31 (Or.inl (wd_22 hw)) (ty := .int) (by decide), F31 (Or.inl (wd_24 hw)) (ty := .int) (by decide), F31 (Or.inl (wd_26 hw)) (ty := .int) (by decide), F31 (Or.inl (wd_28 hw)) (ty := .int) (by decide), F31 (Or.inl (wd_30 hw)) (ty := .int) (by decide)⟩
      refine g_dup C D0_63 rfl ?_
      refine g_iload C D0_64 rfl ?_
      have hz33 : n0 ≤ h25.size := Nat.le_trans ge27 (Nat.le_of_lt H32.lt)
      refine g_callI C (c_init l hw h25 n0 hz33 b26 s0 (0 : Int32) (0 : Int32) (0 : Int32) (0 : Int32) (0 : Int32) (0 : Int32) ge27 H32) rfl (wd_8 hw) (wd_9 hw) (wd_7 hw) (wd_10 hw) (by decide) D0_66 pd_1 [(.int s0)] [(.ref b26)] rfl rfl rfl 1 (Nat.le_of_eq rfl) (by decide) (by decide) (by decide) (by decide) ?_
      rintro _ hB34 ⟨rfl, KB35, HB36⟩
      have hz37 : n0 ≤ hB34.size := Nat.le_trans hz33 KB35.1
      refine g_cast (f' := mkF m 69 #[.val (.int i_sz), .val (.int i_a), .val (.int i_b), .val (.int i_c), .val (.int i_d), .val (.int i_e), .val (.int s0), .val (.int x0), .val (.int y0), .val (.int w0), .val (.int v0), .val (.int (1 : Int32)), .unset] [(.ref b26)]) rfl ?_
      refine g_astore C #[.val (.int i_sz), .val (.int i_a), .val (.int i_b), .val (.int i_c), .val (.int i_d), .val (.int i_e), .val (.int s0), .val (.int x0), .val (.int y0), .val (.int w0), .val (.int v0), .val (.int (1 : Int32)), .val (.ref b26)] D0_69 rfl rfl ?_
      refine g_aload C D0_71 rfl rfl ?_
      refine g_iload C D0_73 rfl ?_
      refine g_iload C D0_75 rfl ?_
      refine g_iload C D0_77 rfl ?_
      refine g_iload C D0_79 rfl ?_
      refine g_callV C (c_start l hw hB34 n0 hz37 b26 x0 y0 w0 v0 y0 s0 (0 : Int32) (0 : Int32) (0 : Int32) (0 : Int32) (0 : Int32) ge27 HB36 (Or.inr ⟨qw, rfl⟩)) (wd_16 hw) (wd_17 hw) (wd_18 hw) (wd_19 hw) (wd_7 hw) (wd_20 hw) (by decide) D0_81 pd_2 HB36.1 [(.int x0), (.int y0), (.int w0), (.int v0)] [] rfl rfl rfl 0 (Nat.le_of_eq rfl) (by decide) (by decide) (by decide) (by decide) ?_
      rintro _ hB38 ⟨rfl, KB39, HB40⟩
      have hz41 : n0 ≤ hB38.size := Nat.le_trans hz37 KB39.1
      refine g_cast (f' := mkF m 84 #[.val (.int i_sz), .val (.int i_a), .val (.int i_b), .val (.int i_c), .val (.int i_d), .val (.int i_e), .val (.int s0), .val (.int x0), .val (.int y0), .val (.int w0), .val (.int v0), .val (.int (1 : Int32)), .val (.ref b26)] []) rfl ?_
      have nlt : ¬ (y0 < y0 + v0) := by rw [qv, Int32.add_zero]; exact no_lt _
      refine g_aload C D0_84 rfl rfl ?_
      refine g_callV C (c_done l hw hB38 n0 hz41 b26 1 s0 x0 (x0 + w0) (y0 + v0) x0 y0 ge27 HB40 (Or.inr ⟨nlt, rfl⟩)) (wd_31 hw) (wd_32 hw) (wd_33 hw) (wd_34 hw) (wd_7 hw) (wd_35 hw) (by decide) D0_86 pd_3 HB40.1 [] [] rfl rfl rfl 0 (Nat.le_of_eq rfl) (by decide) (by decide) (by decide) (by decide) ?_
      rintro _ _ ⟨rfl, rfl⟩
      refine g_cast (f' := mkF m 89 #[.val (.int i_sz), .val (.int i_a), .val (.int i_b), .val (.int i_c), .val (.int i_d), .val (.int i_e), .val (.int s0), .val (.int x0), .val (.int y0), .val (.int w0), .val (.int v0), .val (.int (1 : Int32)), .val (.ref b26)] [(.int 1)]) rfl ?_
      refine g_iload C D0_89 rfl ?_
      refine g_icmp_eq C D0_91 (fun q42 => ?_) (fun q42 => ?_)
      rotate_left
      · exfalso
        exact q42 rfl
      refine g_iload C D0_96 rfl ?_
      refine g_if_ne C D0_98 (fun q43 => ?_) (fun q43 => ?_)
      rotate_left
      · exfalso
        exact qw q43
      refine g_iload C D0_130 rfl ?_
      refine g_if_ne C D0_132 (fun q44 => ?_) (fun q44 => ?_)
      · exfalso
        exact q44 qv
      refine g_aload C D0_135 rfl rfl ?_
      refine g_callV C (c_x l hw hB38 n0 hz41 b26 s0 x0 (x0 + w0) (y0 + v0) x0 y0 ge27 HB40) (wd_36 hw) (wd_37 hw) (wd_38 hw) (wd_39 hw) (wd_7 hw) (wd_40 hw) (by decide) D0_137 pd_4 HB40.1 [] [] rfl rfl rfl 0 (Nat.le_of_eq rfl) (by decide) (by decide) (by decide) (by decide) ?_
      rintro _ _ ⟨rfl, rfl⟩
      refine g_cast (f' := mkF m 140 #[.val (.int i_sz), .val (.int i_a), .val (.int i_b), .val (.int i_c), .val (.int i_d), .val (.int i_e), .val (.int s0), .val (.int x0), .val (.int y0), .val (.int w0), .val (.int v0), .val (.int (1 : Int32)), .val (.ref b26)] [(.int x0)]) rfl ?_
      refine g_iload C D0_140 rfl ?_
      refine g_icmp_ne C D0_142 (fun q45 => ?_) (fun q45 => ?_)
      · exfalso
        exact q45 rfl
      refine g_aload C D0_145 rfl rfl ?_
      refine g_callV C (c_y l hw hB38 n0 hz41 b26 s0 x0 (x0 + w0) (y0 + v0) x0 y0 ge27 HB40) (wd_41 hw) (wd_42 hw) (wd_43 hw) (wd_44 hw) (wd_7 hw) (wd_45 hw) (by decide) D0_147 pd_4 HB40.1 [] [] rfl rfl rfl 0 (Nat.le_of_eq rfl) (by decide) (by decide) (by decide) (by decide) ?_
      rintro _ _ ⟨rfl, rfl⟩
      refine g_cast (f' := mkF m 150 #[.val (.int i_sz), .val (.int i_a), .val (.int i_b), .val (.int i_c), .val (.int i_d), .val (.int i_e), .val (.int s0), .val (.int x0), .val (.int y0), .val (.int w0), .val (.int v0), .val (.int (1 : Int32)), .val (.ref b26)] [(.int y0)]) rfl ?_
      refine g_iload C D0_150 rfl ?_
      refine g_icmp_ne C D0_152 (fun q46 => ?_) (fun q46 => ?_)
      · exfalso
        exact q46 rfl
      refine g_iconst C (1 : Int32) rfl D0_155 ?_
      refine g_goto C D0_156 ?_
      refine g_retZ C D0_160 (by decide) (by decide) ?_
      exact ⟨rfl, trivial⟩
    · refine g_iload C D0_43 rfl ?_
      refine g_if_eq C D0_45 (fun q47 => ?_) (fun q47 => ?_)
      · exfalso
        exact qw q47
      refine g_iload C D0_48 rfl ?_
      refine g_if_ne C D0_50 (fun q48 => ?_) (fun q48 => ?_)
      rotate_left
      · exfalso
        exact qv q48
      refine g_iconst C (0 : Int32) rfl D0_57 ?_
      refine g_istore C #[.val (.int i_sz), .val (.int i_a), .val (.int i_b), .val (.int i_c), .val (.int i_d), .val (.int i_e), .val (.int s0), .val (.int x0), .val (.int y0), .val (.int w0), .val (.int v0), .val (.int (0 : Int32)), .unset] D0_58 rfl ?_
      refine g_new C (wd_5 hw) (wd_6 hw) (wd_7 hw) D0_60 (by decide) (by decide) ?_
      intro h49 b50 ge51 ea52 E53 X54 F55
      have H56 : RT Z h49 b50 (0 : Int32) (0 : Int32) (0 : Int32) (0 : Int32) (0 : Int32) (0 : Int32) := ⟨X54, F55 (Or.inr (wd_15 hw)) (ty := .int) (by decide), F55 (Or.inl (wd_22 hw)) (ty := .int) (by decide), F55 (Or.inl (wd_24 hw)) (ty := .int) (by decide), F55 (Or.inl (wd_26 hw)) (ty := .int) (by decide), F55 (Or.inl (wd_28 hw)) (ty := .int) (by decide), F55 (Or.inl (wd_30 hw)) (ty := .int) (by decide)⟩
      refine g_dup C D0_63 rfl ?_
      refine g_iload C D0_64 rfl ?_
      have hz57 : n0 ≤ h49.size := Nat.le_trans ge51 (Nat.le_of_lt H56.lt)
      refine g_callI C (c_init l hw h49 n0 hz57 b50 s0 (0 : Int32) (0 : Int32) (0 : Int32) (0 : Int32) (0 : Int32) (0 : Int32) ge51 H56) rfl (wd_8 hw) (wd_9 hw) (wd_7 hw) (wd_10 hw) (by decide) D0_66 pd_1 [(.int s0)] [(.ref b50)] rfl rfl rfl 1 (Nat.le_of_eq rfl) (by decide) (by decide) (by decide) (by decide) ?_
      rintro _ hB58 ⟨rfl, KB59, HB60⟩
      have hz61 : n0 ≤ hB58.size := Nat.le_trans hz57 KB59.1
      refine g_cast (f' := mkF m 69 #[.val (.int i_sz), .val (.int i_a), .val (.int i_b), .val (.int i_c), .val (.int i_d), .val (.int i_e), .val (.int s0), .val (.int x0), .val (.int y0), .val (.int w0), .val (.int v0), .val (.int (0 : Int32)), .unset] [(.ref b50)]) rfl ?_
      refine g_astore C #[.val (.int i_sz), .val (.int i_a), .val (.int i_b), .val (.int i_c), .val (.int i_d), .val (.int i_e), .val (.int s0), .val (.int x0), .val (.int y0), .val (.int w0), .val (.int v0), .val (.int (0 : Int32)), .val (.ref b50)] D0_69 rfl rfl ?_
      refine g_aload C D0_71 rfl rfl ?_
      refine g_iload C D0_73 rfl ?_
      refine g_iload C D0_75 rfl ?_
      refine g_iload C D0_77 rfl ?_
      refine g_iload C D0_79 rfl ?_
      refine g_callV C (c_start l hw hB58 n0 hz61 b50 x0 y0 w0 v0 y0 s0 (0 : Int32) (0 : Int32) (0 : Int32) (0 : Int32) (0 : Int32) ge51 HB60 (Or.inr ⟨qw, rfl⟩)) (wd_16 hw) (wd_17 hw) (wd_18 hw) (wd_19 hw) (wd_7 hw) (wd_20 hw) (by decide) D0_81 pd_2 HB60.1 [(.int x0), (.int y0), (.int w0), (.int v0)] [] rfl rfl rfl 0 (Nat.le_of_eq rfl) (by decide) (by decide) (by decide) (by decide) ?_
      rintro _ hB62 ⟨rfl, KB63, HB64⟩
      have hz65 : n0 ≤ hB62.size := Nat.le_trans hz61 KB63.1
      refine g_cast (f' := mkF m 84 #[.val (.int i_sz), .val (.int i_a), .val (.int i_b), .val (.int i_c), .val (.int i_d), .val (.int i_e), .val (.int s0), .val (.int x0), .val (.int y0), .val (.int w0), .val (.int v0), .val (.int (0 : Int32)), .val (.ref b50)] []) rfl ?_
      have ylt : y0 < y0 + v0 := lt_up b_y b_v qv
      refine g_aload C D0_84 rfl rfl ?_
      refine g_callV C (c_done l hw hB62 n0 hz65 b50 0 s0 x0 (x0 + w0) (y0 + v0) x0 y0 ge51 HB64 (Or.inl ⟨ylt, rfl⟩)) (wd_31 hw) (wd_32 hw) (wd_33 hw) (wd_34 hw) (wd_7 hw) (wd_35 hw) (by decide) D0_86 pd_3 HB64.1 [] [] rfl rfl rfl 0 (Nat.le_of_eq rfl) (by decide) (by decide) (by decide) (by decide) ?_
      rintro _ _ ⟨rfl, rfl⟩
      refine g_cast (f' := mkF m 89 #[.val (.int i_sz), .val (.int i_a), .val (.int i_b), .val (.int i_c), .val (.int i_d), .val (.int i_e), .val (.int s0), .val (.int x0), .val (.int y0), .val (.int w0), .val (.int v0), .val (.int (0 : Int32)), .val (.ref b50)] [(.int 0)]) rfl ?_
      refine g_iload C D0_89 rfl ?_
      refine g_icmp_eq C D0_91 (fun q66 => ?_) (fun q66 => ?_)
      rotate_left
      · exfalso
        exact q66 rfl
      refine g_iload C D0_96 rfl ?_
      refine g_if_ne C D0_98 (fun q67 => ?_) (fun q67 => ?_)
      rotate_left
      · exfalso
        exact qw q67
      refine g_iload C D0_130 rfl ?_
      refine g_if_ne C D0_132 (fun q68 => ?_) (fun q68 => ?_)
      rotate_left
      · exfalso
        exact qv q68
      refine g_aload C D0_161 rfl rfl ?_
      refine g_callV C (c_x l hw hB62 n0 hz65 b50 s0 x0 (x0 + w0) (y0 + v0) x0 y0 ge51 HB64) (wd_36 hw) (wd_37 hw) (wd_38 hw) (wd_39 hw) (wd_7 hw) (wd_40 hw) (by decide) D0_163 pd_4 HB64.1 [] [] rfl rfl rfl 0 (Nat.le_of_eq rfl) (by decide) (by decide) (by decide) (by decide) ?_
      rintro _ _ ⟨rfl, rfl⟩
      refine g_cast (f' := mkF m 166 #[.val (.int i_sz), .val (.int i_a), .val (.int i_b), .val (.int i_c), .val (.int i_d), .val (.int i_e), .val (.int s0), .val (.int x0), .val (.int y0), .val (.int w0), .val (.int v0), .val (.int (0 : Int32)), .val (.ref b50)] [(.int x0)]) rfl ?_
      refine g_iload C D0_166 rfl ?_
      refine g_icmp_ne C D0_168 (fun q69 => ?_) (fun q69 => ?_)
      · exfalso
        exact q69 rfl
      refine g_aload C D0_171 rfl rfl ?_
      refine g_callV C (c_y l hw hB62 n0 hz65 b50 s0 x0 (x0 + w0) (y0 + v0) x0 y0 ge51 HB64) (wd_41 hw) (wd_42 hw) (wd_43 hw) (wd_44 hw) (wd_7 hw) (wd_45 hw) (by decide) D0_173 pd_4 HB64.1 [] [] rfl rfl rfl 0 (Nat.le_of_eq rfl) (by decide) (by decide) (by decide) (by decide) ?_
      rintro _ _ ⟨rfl, rfl⟩
      refine g_cast (f' := mkF m 176 #[.val (.int i_sz), .val (.int i_a), .val (.int i_b), .val (.int i_c), .val (.int i_d), .val (.int i_e), .val (.int s0), .val (.int x0), .val (.int y0), .val (.int w0), .val (.int v0), .val (.int (0 : Int32)), .val (.ref b50)] [(.int y0)]) rfl ?_
      refine g_iload C D0_176 rfl ?_
      refine g_icmp_ne C D0_178 (fun q70 => ?_) (fun q70 => ?_)
      · exfalso
        exact q70 rfl
      obtain ⟨r1, p1⟩ := minE s0 w0
      obtain ⟨r2, p2⟩ := minE s0 v0
      refine g_aload C D0_181 rfl rfl ?_
      refine g_callV C (c_width l hw hB62 n0 hz65 b50 r1 s0 x0 (x0 + w0) (y0 + v0) x0 y0 ge51 HB64 (by rw [back_sub]; exact p1)) (wd_46 hw) (wd_47 hw) (wd_48 hw) (wd_49 hw) (wd_7 hw) (wd_50 hw) (by decide) D0_183 pd_4 HB64.1 [] [] rfl rfl rfl 0 (Nat.le_of_eq rfl) (by decide) (by decide) (by decide) (by decide) ?_
      rintro _ _ ⟨rfl, rfl⟩
      refine g_cast (f' := mkF m 186 #[.val (.int i_sz), .val (.int i_a), .val (.int i_b), .val (.int i_c), .val (.int i_d), .val (.int i_e), .val (.int s0), .val (.int x0), .val (.int y0), .val (.int w0), .val (.int v0), .val (.int (0 : Int32)), .val (.ref b50)] [(.int r1)]) rfl ?_
      refine g_iload C D0_186 rfl ?_
      refine g_iload C D0_188 rfl ?_
      refine g_callS C (c_min l hw hB62 n0 hz65 s0 w0 r1 p1) (wd_55 hw) (wd_52 hw) (wd_53 hw) (wd_54 hw) (by decide) D0_190 pd_0 [(.int s0), (.int w0)] [(.int r1)] rfl rfl rfl 1 (Nat.le_of_eq rfl) (by decide) (by decide) (by decide) (by decide) ?_
      rintro _ _ ⟨rfl, rfl⟩
      refine g_cast (f' := mkF m 193 #[.val (.int i_sz), .val (.int i_a), .val (.int i_b), .val (.int i_c), .val (.int i_d), .val (.int i_e), .val (.int s0), .val (.int x0), .val (.int y0), .val (.int w0), .val (.int v0), .val (.int (0 : Int32)), .val (.ref b50)] [(.int r1), (.int r1)]) rfl ?_
      refine g_icmp_ne C D0_193 (fun q71 => ?_) (fun q71 => ?_)
      · exfalso
        exact q71 rfl
      refine g_aload C D0_196 rfl rfl ?_
      refine g_callV C (c_height l hw hB62 n0 hz65 b50 r2 s0 x0 (x0 + w0) (y0 + v0) x0 y0 ge51 HB64 (by rw [back_sub]; exact p2)) (wd_56 hw) (wd_57 hw) (wd_58 hw) (wd_59 hw) (wd_7 hw) (wd_60 hw) (by decide) D0_198 pd_4 HB64.1 [] [] rfl rfl rfl 0 (Nat.le_of_eq rfl) (by decide) (by decide) (by decide) (by decide) ?_
      rintro _ _ ⟨rfl, rfl⟩
      refine g_cast (f' := mkF m 201 #[.val (.int i_sz), .val (.int i_a), .val (.int i_b), .val (.int i_c), .val (.int i_d), .val (.int i_e), .val (.int s0), .val (.int x0), .val (.int y0), .val (.int w0), .val (.int v0), .val (.int (0 : Int32)), .val (.ref b50)] [(.int r2)]) rfl ?_
      refine g_iload C D0_201 rfl ?_
      refine g_iload C D0_203 rfl ?_
      refine g_callS C (c_min l hw hB62 n0 hz65 s0 v0 r2 p2) (wd_55 hw) (wd_52 hw) (wd_53 hw) (wd_54 hw) (by decide) D0_205 pd_0 [(.int s0), (.int v0)] [(.int r2)] rfl rfl rfl 1 (Nat.le_of_eq rfl) (by decide) (by decide) (by decide) (by decide) ?_
      rintro _ _ ⟨rfl, rfl⟩
      refine g_cast (f' := mkF m 208 #[.val (.int i_sz), .val (.int i_a), .val (.int i_b), .val (.int i_c), .val (.int i_d), .val (.int i_e), .val (.int s0), .val (.int x0), .val (.int y0), .val (.int w0), .val (.int v0), .val (.int (0 : Int32)), .val (.ref b50)] [(.int r2), (.int r2)]) rfl ?_
      refine g_icmp_eq C D0_208 (fun q72 => ?_) (fun q72 => ?_)
      rotate_left
      · exfalso
        exact q72 rfl
      by_cases qs : s0 < w0
      · refine g_aload C D0_213 rfl rfl ?_
        refine g_callV C (c_next l hw hB62 n0 hz65 b50 (x0 + s0) y0 s0 x0 (x0 + w0) (y0 + v0) x0 y0 ge51 HB64 (Or.inl ⟨(lt_cmp b_x b_w b_s).mpr qs, rfl, rfl⟩)) (wd_61 hw) (wd_62 hw) (wd_63 hw) (wd_64 hw) (wd_7 hw) (wd_65 hw) (by decide) D0_215 pd_5 HB64.1 [] [] rfl rfl rfl 0 (Nat.le_of_eq rfl) (by decide) (by decide) (by decide) (by decide) ?_
        rintro _ hB73 ⟨rfl, KB74, HB75⟩
        have hz76 : n0 ≤ hB73.size := Nat.le_trans hz65 KB74.1
        refine g_cast (f' := mkF m 218 #[.val (.int i_sz), .val (.int i_a), .val (.int i_b), .val (.int i_c), .val (.int i_d), .val (.int i_e), .val (.int s0), .val (.int x0), .val (.int y0), .val (.int w0), .val (.int v0), .val (.int (0 : Int32)), .val (.ref b50)] []) rfl ?_
        refine g_iload C D0_218 rfl ?_
        refine g_iload C D0_220 rfl ?_
        refine g_icmp_le C D0_222 (fun q77 => ?_) (fun q77 => ?_)
        · exfalso
          exact q77 qs
        refine g_aload C D0_225 rfl rfl ?_
        refine g_callV C (c_x l hw hB73 n0 hz76 b50 s0 x0 (x0 + w0) (y0 + v0) (x0 + s0) y0 ge51 HB75) (wd_36 hw) (wd_37 hw) (wd_38 hw) (wd_39 hw) (wd_7 hw) (wd_40 hw) (by decide) D0_227 pd_4 HB75.1 [] [] rfl rfl rfl 0 (Nat.le_of_eq rfl) (by decide) (by decide) (by decide) (by decide) ?_
        rintro _ _ ⟨rfl, rfl⟩
        refine g_cast (f' := mkF m 230 #[.val (.int i_sz), .val (.int i_a), .val (.int i_b), .val (.int i_c), .val (.int i_d), .val (.int i_e), .val (.int s0), .val (.int x0), .val (.int y0), .val (.int w0), .val (.int v0), .val (.int (0 : Int32)), .val (.ref b50)] [(.int (x0 + s0))]) rfl ?_
        refine g_iload C D0_230 rfl ?_
        refine g_iload C D0_232 rfl ?_
        refine g_iadd C D0_234 ?_
        refine g_icmp_ne C D0_235 (fun q78 => ?_) (fun q78 => ?_)
        · exfalso
          exact q78 rfl
        refine g_aload C D0_238 rfl rfl ?_
        refine g_callV C (c_y l hw hB73 n0 hz76 b50 s0 x0 (x0 + w0) (y0 + v0) (x0 + s0) y0 ge51 HB75) (wd_41 hw) (wd_42 hw) (wd_43 hw) (wd_44 hw) (wd_7 hw) (wd_45 hw) (by decide) D0_240 pd_4 HB75.1 [] [] rfl rfl rfl 0 (Nat.le_of_eq rfl) (by decide) (by decide) (by decide) (by decide) ?_
        rintro _ _ ⟨rfl, rfl⟩
        refine g_cast (f' := mkF m 243 #[.val (.int i_sz), .val (.int i_a), .val (.int i_b), .val (.int i_c), .val (.int i_d), .val (.int i_e), .val (.int s0), .val (.int x0), .val (.int y0), .val (.int w0), .val (.int v0), .val (.int (0 : Int32)), .val (.ref b50)] [(.int y0)]) rfl ?_
        refine g_iload C D0_243 rfl ?_
        refine g_icmp_ne C D0_245 (fun q79 => ?_) (fun q79 => ?_)
        · exfalso
          exact q79 rfl
        refine g_aload C D0_248 rfl rfl ?_
        refine g_callV C (c_done l hw hB73 n0 hz76 b50 0 s0 x0 (x0 + w0) (y0 + v0) (x0 + s0) y0 ge51 HB75 (Or.inl ⟨ylt, rfl⟩)) (wd_31 hw) (wd_32 hw) (wd_33 hw) (wd_34 hw) (wd_7 hw) (wd_35 hw) (by decide) D0_250 pd_3 HB75.1 [] [] rfl rfl rfl 0 (Nat.le_of_eq rfl) (by decide) (by decide) (by decide) (by decide) ?_
        rintro _ _ ⟨rfl, rfl⟩
        refine g_cast (f' := mkF m 253 #[.val (.int i_sz), .val (.int i_a), .val (.int i_b), .val (.int i_c), .val (.int i_d), .val (.int i_e), .val (.int s0), .val (.int x0), .val (.int y0), .val (.int w0), .val (.int v0), .val (.int (0 : Int32)), .val (.ref b50)] [(.int 0)]) rfl ?_
        refine g_if_ne C D0_253 (fun q80 => ?_) (fun q80 => ?_)
        · exfalso
          exact q80 rfl
        refine g_iconst C (1 : Int32) rfl D0_256 ?_
        refine g_goto C D0_257 ?_
        refine g_retZ C D0_261 (by decide) (by decide) ?_
        exact ⟨rfl, trivial⟩
      · refine g_aload C D0_213 rfl rfl ?_
        refine g_callV C (c_next l hw hB62 n0 hz65 b50 x0 (y0 + s0) s0 x0 (x0 + w0) (y0 + v0) x0 y0 ge51 HB64 (Or.inr ⟨fun z => qs ((lt_cmp b_x b_w b_s).mp z), rfl, rfl⟩)) (wd_61 hw) (wd_62 hw) (wd_63 hw) (wd_64 hw) (wd_7 hw) (wd_65 hw) (by decide) D0_215 pd_5 HB64.1 [] [] rfl rfl rfl 0 (Nat.le_of_eq rfl) (by decide) (by decide) (by decide) (by decide) ?_
        rintro _ hB81 ⟨rfl, KB82, HB83⟩
        have hz84 : n0 ≤ hB81.size := Nat.le_trans hz65 KB82.1
        refine g_cast (f' := mkF m 218 #[.val (.int i_sz), .val (.int i_a), .val (.int i_b), .val (.int i_c), .val (.int i_d), .val (.int i_e), .val (.int s0), .val (.int x0), .val (.int y0), .val (.int w0), .val (.int v0), .val (.int (0 : Int32)), .val (.ref b50)] []) rfl ?_
        refine g_iload C D0_218 rfl ?_
        refine g_iload C D0_220 rfl ?_
        refine g_icmp_le C D0_222 (fun q85 => ?_) (fun q85 => ?_)
        rotate_left
        · exfalso
          exact qs q85
        refine g_aload C D0_262 rfl rfl ?_
        refine g_callV C (c_x l hw hB81 n0 hz84 b50 s0 x0 (x0 + w0) (y0 + v0) x0 (y0 + s0) ge51 HB83) (wd_36 hw) (wd_37 hw) (wd_38 hw) (wd_39 hw) (wd_7 hw) (wd_40 hw) (by decide) D0_264 pd_4 HB83.1 [] [] rfl rfl rfl 0 (Nat.le_of_eq rfl) (by decide) (by decide) (by decide) (by decide) ?_
        rintro _ _ ⟨rfl, rfl⟩
        refine g_cast (f' := mkF m 267 #[.val (.int i_sz), .val (.int i_a), .val (.int i_b), .val (.int i_c), .val (.int i_d), .val (.int i_e), .val (.int s0), .val (.int x0), .val (.int y0), .val (.int w0), .val (.int v0), .val (.int (0 : Int32)), .val (.ref b50)] [(.int x0)]) rfl ?_
        refine g_iload C D0_267 rfl ?_
        refine g_icmp_ne C D0_269 (fun q86 => ?_) (fun q86 => ?_)
        · exfalso
          exact q86 rfl
        refine g_aload C D0_272 rfl rfl ?_
        refine g_callV C (c_y l hw hB81 n0 hz84 b50 s0 x0 (x0 + w0) (y0 + v0) x0 (y0 + s0) ge51 HB83) (wd_41 hw) (wd_42 hw) (wd_43 hw) (wd_44 hw) (wd_7 hw) (wd_45 hw) (by decide) D0_274 pd_4 HB83.1 [] [] rfl rfl rfl 0 (Nat.le_of_eq rfl) (by decide) (by decide) (by decide) (by decide) ?_
        rintro _ _ ⟨rfl, rfl⟩
        refine g_cast (f' := mkF m 277 #[.val (.int i_sz), .val (.int i_a), .val (.int i_b), .val (.int i_c), .val (.int i_d), .val (.int i_e), .val (.int s0), .val (.int x0), .val (.int y0), .val (.int w0), .val (.int v0), .val (.int (0 : Int32)), .val (.ref b50)] [(.int (y0 + s0))]) rfl ?_
        refine g_iload C D0_277 rfl ?_
        refine g_iload C D0_279 rfl ?_
        refine g_iadd C D0_281 ?_
        refine g_icmp_ne C D0_282 (fun q87 => ?_) (fun q87 => ?_)
        · exfalso
          exact q87 rfl
        refine g_aload C D0_285 rfl rfl ?_
        by_cases qh : s0 < v0
        · refine g_callV C (c_done l hw hB81 n0 hz84 b50 0 s0 x0 (x0 + w0) (y0 + v0) x0 (y0 + s0) ge51 HB83 (Or.inl ⟨(lt_cmp b_y b_v b_s).mpr qh, rfl⟩)) (wd_31 hw) (wd_32 hw) (wd_33 hw) (wd_34 hw) (wd_7 hw) (wd_35 hw) (by decide) D0_287 pd_3 HB83.1 [] [] rfl rfl rfl 0 (Nat.le_of_eq rfl) (by decide) (by decide) (by decide) (by decide) ?_
          rintro _ _ ⟨rfl, rfl⟩
          refine g_cast (f' := mkF m 290 #[.val (.int i_sz), .val (.int i_a), .val (.int i_b), .val (.int i_c), .val (.int i_d), .val (.int i_e), .val (.int s0), .val (.int x0), .val (.int y0), .val (.int w0), .val (.int v0), .val (.int (0 : Int32)), .val (.ref b50)] [(.int 0)]) rfl ?_
          refine g_iload C D0_290 rfl ?_
          refine g_iload C D0_292 rfl ?_
          refine g_icmp_gt C D0_294 (fun q88 => ?_) (fun q88 => ?_)
          rotate_left
          · exfalso
            exact q88 qh
          refine g_iconst C (0 : Int32) rfl D0_301 ?_
          refine g_icmp_ne C D0_302 (fun q89 => ?_) (fun q89 => ?_)
          · exfalso
            exact q89 rfl
          refine g_iconst C (1 : Int32) rfl D0_305 ?_
          refine g_goto C D0_306 ?_
          refine g_retZ C D0_310 (by decide) (by decide) ?_
          exact ⟨rfl, trivial⟩
        · refine g_callV C (c_done l hw hB81 n0 hz84 b50 1 s0 x0 (x0 + w0) (y0 + v0) x0 (y0 + s0) ge51 HB83 (Or.inr ⟨fun z => qh ((lt_cmp b_y b_v b_s).mp z), rfl⟩)) (wd_31 hw) (wd_32 hw) (wd_33 hw) (wd_34 hw) (wd_7 hw) (wd_35 hw) (by decide) D0_287 pd_3 HB83.1 [] [] rfl rfl rfl 0 (Nat.le_of_eq rfl) (by decide) (by decide) (by decide) (by decide) ?_
          rintro _ _ ⟨rfl, rfl⟩
          refine g_cast (f' := mkF m 290 #[.val (.int i_sz), .val (.int i_a), .val (.int i_b), .val (.int i_c), .val (.int i_d), .val (.int i_e), .val (.int s0), .val (.int x0), .val (.int y0), .val (.int w0), .val (.int v0), .val (.int (0 : Int32)), .val (.ref b50)] [(.int 1)]) rfl ?_
          refine g_iload C D0_290 rfl ?_
          refine g_iload C D0_292 rfl ?_
          refine g_icmp_gt C D0_294 (fun q90 => ?_) (fun q90 => ?_)
          · exfalso
            exact qh q90
          refine g_iconst C (1 : Int32) rfl D0_297 ?_
          refine g_goto C D0_298 ?_
          refine g_icmp_ne C D0_302 (fun q91 => ?_) (fun q91 => ?_)
          · exfalso
            exact q91 rfl
          refine g_iconst C (1 : Int32) rfl D0_305 ?_
          refine g_goto C D0_306 ?_
          refine g_retZ C D0_310 (by decide) (by decide) ?_
          exact ⟨rfl, trivial⟩
set_option maxRecDepth 65536 in
set_option maxHeartbeats 40000000 in
theorem comes_1 {Post : Tables → Env → Array Value → State → Outcome → State → Prop} (hpost : ∀ tb e args s v u, (limb_1_1.after args s (.returned v) u = true ∧ limb_1_2.after args s (.returned v) u = true ∧ True) → FrameEnd s (.returned v) u (Jvm.fieldLocs frame_1_writes args s ++ Jvm.arrayLocs frame_1_arrays args s ++ Jvm.staticLocs frame_1_statics s) 16 128 → Post tb e args s (.returned v) u) :
    ArmFor flags0 classFile x code maxLocals ret World_1 tables_1 room_1 Calls_1 rest_1 Pre_1 Post := by
  intro l hfl _ _ p e ha hc hk s m args below hf hA hF happ hP
  obtain ⟨hcalls, hrest, hpre⟩ := hP
  obtain ⟨-, -, -, hnamed, -, -, -, hat⟩ := (Spec.applies_iff hf).mp happ
  obtain ⟨hg, hn⟩ := and_e (Cond.before_iff.mp (show (Jvm.Cond.and given_1 narrow_1).before args s = true from hpre))
  obtain ⟨gc, g0⟩ := and_e hg
  obtain ⟨ga0, g1⟩ := and_e g0
  obtain ⟨ga1, g2⟩ := and_e g1
  obtain ⟨ga2, g3⟩ := and_e g2
  obtain ⟨ga3, g4⟩ := and_e g3
  obtain ⟨ga4, g5⟩ := and_e g4
  have ga5 := g5
  obtain ⟨w0, w1, w2, w3, w4, w5, rfl⟩ : ∃ w0 w1 w2 w3 w4 w5 : Value, args = #[w0, w1, w2, w3, w4, w5] := by
    have hs : args.size = 6 := by simpa [Cond.value, given_1] using gc
    obtain ⟨L⟩ := args
    match L, hs with
    | [w0, w1, w2, w3, w4, w5], _ => exact ⟨w0, w1, w2, w3, w4, w5, rfl⟩
  have hw := fun d (hd : d ∈ tables_1) => atoms_spec (ws := Jvm.Cond.code x code maxLocals ret :: tables_1) hat d (List.mem_cons_of_mem _ hd)
  obtain ⟨i0, ei0⟩ := is_v ga0
  obtain rfl : w0 = (.int i0) := Option.some.inj ei0
  obtain ⟨i1, ei1⟩ := is_v ga1
  obtain rfl : w1 = (.int i1) := Option.some.inj ei1
  obtain ⟨i2, ei2⟩ := is_v ga2
  obtain rfl : w2 = (.int i2) := Option.some.inj ei2
  obtain ⟨i3, ei3⟩ := is_v ga3
  obtain rfl : w3 = (.int i3) := Option.some.inj ei3
  obtain ⟨i4, ei4⟩ := is_v ga4
  obtain rfl : w4 = (.int i4) := Option.some.inj ei4
  obtain ⟨i5, ei5⟩ := is_v ga5
  obtain rfl : w5 = (.int i5) := Option.some.inj ei5
  obtain ⟨n, o, h1, h2, h3, _, L, rfl, ⟨⟨rfl, _⟩, N⟩, hq⟩ := c_law l hw tables_1 s.heap s.heap.size (Nat.le_refl _) i0 i1 i2 i3 i4 i5 p e ha hc hk s m _ below hf ((Spec.applies_iff_loose hf).mp happ).1 ⟨rfl, State.Warmed39.refl s, rfl⟩ trivial
  refine ⟨n, _, h1, h2, h3, hpost _ _ _ _ _ _ ⟨Cond.after_iff.mpr rfl, Cond.after_iff.mpr (eq_i res_at (Term.int_eval (1)) rfl), trivial⟩ ⟨hq.1, hq.2.1, (hq.2.2.sift fun y hy => Or.inr (N y hy)).mono (by decide) (by decide)⟩⟩
theorem main_1_1 : Claimed_1_1 := comes_1 fun _ _ _ _ _ _ h hF => ⟨h.1, hF⟩
theorem main_1_2 : Claimed_1_2 := comes_1 fun _ _ _ _ _ _ h hF => ⟨h.2.1, hF⟩
end Jvm.Pilot.@@N@@
namespace Jvm.Pilot.@@N@@
open Jvm Jvm.ClassFile Sem Op Lib Jvm.Free Jvm.Stand Jvm.Pilot.@@N@@.Jvm.D
/-! MADE BY PROGRAM (witnessworld.py) out of the Statement's table words and the real class files: 10 classes; the members and pool entries that the words name. The judged class is class 1, her method 2. -/
namespace start1
open Jvm.ClassFile
def u (s : String) : CpInfo := .utf8 (stringToUtf16 s)
/-- a pool by its gaps: so many unusable entries, then the entry; so many at the end -/
def gap : Nat → List CpInfo → List CpInfo
  | 0, r => r
  | n + 1, r => .unusable :: gap n r
def poolList (es : List (Nat × CpInfo)) (last : Nat) : List CpInfo := es.foldr (fun e r => gap e.1 (e.2 :: r)) (gap last [])
def pool (es : List (Nat × CpInfo)) (last : Nat) : Array CpInfo := ⟨poolList es last⟩
def fileOf (pool : Array CpInfo) (this : Nat) (attrs : Array Attribute := #[]) (ms : Array MethodInfo := #[]) (fl : Nat := 33) (sup : Nat := 0) (ifs : Array Nat := #[]) (fds : Array FieldInfo := #[]) : ClassFile where
  minorVersion := 0
  majorVersion := 65
  constantPool := pool
  accessFlags := fl
  thisClass := this
  superClass := sup
  interfaces := ifs
  fields := fds
  methods := ms
  attributes := attrs
def plain (name : String) (sup : Option ClassId) : Class where
  name := name
  kind := .ordinary
  loader := none
  accessFlags := 33
  super := sup
  interfaces := #[]
  cf := none
  fields := #[]
  methods := #[]
  instanceTypes := #[]
  staticTypes := #[]
  resolved := #[]
  callSites := []
  init := .initialized
  statics := none
  mirror := none

def pool0 : Array CpInfo := pool [(5, u "<init>"), (0, u "()V"), (1, .class_ 10), (1, u "java/lang/Object")] 113

def k0c0 : Code := { maxStack := 0, maxLocals := 1, code := object_method_1_code, exceptionTable := #[], attributes := #[] }
def k0m0 : Method := { name := "<init>", desc := "()V", sig := { parameters := [], returnType := none }, accessFlags := 1, code := some k0c0 }
/-- java/lang/Object -/
def k0 : Class := { plain "java/lang/Object" none with
  accessFlags := 33
  interfaces := #[]
  cf := some (fileOf pool0 8 #[] #[{ accessFlags := 1, nameIndex := 5, descriptorIndex := 6, attributes := #[] }] 33 0 #[] #[])
  fields := #[]
  methods := #[k0m0]
  instanceTypes := #[]
  staticTypes := #[]
  resolved := Array.replicate 124 none
  statics := none }

def pool1 : Array CpInfo := pool [(2, .class_ 4), (1, u "java/lang/Object"), (0, u "<init>"), (0, u "()V"), (0, .integer 1073741823), (0, .methodref 9 10), (0, .class_ 11), (0, .nameAndType 12 13), (0, u "com/example/framewire/framewire/rfb/TilesStartPinLaw"), (0, u "pick"), (0, u "(II)I"), (0, .class_ 15), (0, u "com/example/framewire/framewire/rfb/Tiles"), (0, .methodref 14 17), (0, .nameAndType 5 18), (0, u "(I)V"), (0, .methodref 14 20), (0, .nameAndType 21 22), (0, u "start"), (0, u "(IIII)V"), (0, .methodref 14 24), (0, .nameAndType 25 26), (0, u "done"), (0, u "()Z"), (0, .methodref 14 28), (0, .nameAndType 29 30), (0, u "x"), (0, u "()I"), (0, .methodref 14 32), (0, .nameAndType 33 30), (0, u "y"), (0, .methodref 14 35), (0, .nameAndType 36 30), (0, u "width"), (0, .methodref 38 39), (0, .class_ 40), (0, .nameAndType 41 13), (0, u "java/lang/Math"), (0, u "min"), (0, .methodref 14 43), (0, .nameAndType 44 30), (0, u "height"), (0, .methodref 14 46), (0, .nameAndType 47 6), (0, u "next"), (3, u "law"), (0, u "(IIIIII)Z")] 2

def k1m0 : Method := { name := "<init>", desc := "()V", sig := { parameters := [], returnType := none }, accessFlags := 1, code := none }
def k1c1 : Code := { maxStack := 2, maxLocals := 2, code := method_2_code, exceptionTable := #[], attributes := #[] }
def k1m1 : Method := { name := "pick", desc := "(II)I", sig := { parameters := [.int, .int], returnType := some .int }, accessFlags := 10, code := some k1c1 }
def k1c2 : Code := { maxStack := 5, maxLocals := 13, code := code, exceptionTable := #[], attributes := #[] }
def k1m2 : Method := { name := "law", desc := "(IIIIII)Z", sig := { parameters := [.int, .int, .int, .int, .int, .int], returnType := some .boolean }, accessFlags := 9, code := some k1c2 }
/-- com/example/framewire/framewire/rfb/TilesStartPinLaw -/
def k1 : Class := { plain "com/example/framewire/framewire/rfb/TilesStartPinLaw" (some 0) with
  accessFlags := 49
  interfaces := #[]
  cf := some (fileOf pool1 9 #[] #[{ accessFlags := 1, nameIndex := 5, descriptorIndex := 6, attributes := #[] }, { accessFlags := 10, nameIndex := 12, descriptorIndex := 13, attributes := #[] }, { accessFlags := 9, nameIndex := 51, descriptorIndex := 52, attributes := #[] }] 49 2 #[] #[])
  fields := #[]
  methods := #[k1m0, k1m1, k1m2]
  instanceTypes := #[]
  staticTypes := #[]
  resolved := Array.replicate 55 none
  statics := none }

def pool2 : Array CpInfo := pool [(1, .methodref 2 3), (0, .class_ 4), (0, .nameAndType 5 6), (0, u "java/lang/Object"), (0, u "<init>"), (0, u "()V"), (0, .fieldref 8 9), (0, .class_ 10), (0, .nameAndType 11 12), (0, u "com/example/framewire/framewire/rfb/Tiles"), (0, u "size"), (0, u "I"), (0, .fieldref 8 14), (0, .nameAndType 15 12), (0, u "left"), (0, .fieldref 8 17), (0, .nameAndType 18 12), (0, u "right"), (0, .fieldref 8 20), (0, .nameAndType 21 12), (0, u "bottom"), (0, .fieldref 8 23), (0, .nameAndType 24 12), (0, u "x"), (0, .fieldref 8 26), (0, .nameAndType 27 12), (0, u "y"), (0, .methodref 29 30), (0, .class_ 31), (0, .nameAndType 32 33), (0, u "java/lang/Math"), (0, u "min"), (0, u "(II)I"), (2, u "width"), (0, u "()I"), (2, u "height"), (11, u "(I)V"), (2, u "start"), (0, u "(IIII)V"), (1, u "done"), (0, u "()Z"), (0, u "next")] 6

def k2c0 : Code := { maxStack := 2, maxLocals := 2, code := prog_102_method_1_code, exceptionTable := #[], attributes := #[] }
def k2m0 : Method := { name := "<init>", desc := "(I)V", sig := { parameters := [.int], returnType := none }, accessFlags := 0, code := some k2c0 }
def k2c1 : Code := { maxStack := 3, maxLocals := 5, code := prog_102_method_2_code, exceptionTable := #[], attributes := #[] }
def k2m1 : Method := { name := "start", desc := "(IIII)V", sig := { parameters := [.int, .int, .int, .int], returnType := none }, accessFlags := 0, code := some k2c1 }
def k2c2 : Code := { maxStack := 2, maxLocals := 1, code := prog_102_method_3_code, exceptionTable := #[], attributes := #[] }
def k2m2 : Method := { name := "done", desc := "()Z", sig := { parameters := [], returnType := some .boolean }, accessFlags := 0, code := some k2c2 }
def k2c3 : Code := { maxStack := 3, maxLocals := 1, code := prog_102_method_4_code, exceptionTable := #[], attributes := #[] }
def k2m3 : Method := { name := "next", desc := "()V", sig := { parameters := [], returnType := none }, accessFlags := 0, code := some k2c3 }
def k2c4 : Code := { maxStack := 1, maxLocals := 1, code := prog_102_method_5_code, exceptionTable := #[], attributes := #[] }
def k2m4 : Method := { name := "x", desc := "()I", sig := { parameters := [], returnType := some .int }, accessFlags := 0, code := some k2c4 }
def k2c5 : Code := { maxStack := 1, maxLocals := 1, code := prog_102_method_6_code, exceptionTable := #[], attributes := #[] }
def k2m5 : Method := { name := "y", desc := "()I", sig := { parameters := [], returnType := some .int }, accessFlags := 0, code := some k2c5 }
def k2c6 : Code := { maxStack := 3, maxLocals := 1, code := prog_102_method_7_code, exceptionTable := #[], attributes := #[] }
def k2m6 : Method := { name := "width", desc := "()I", sig := { parameters := [], returnType := some .int }, accessFlags := 0, code := some k2c6 }
def k2c7 : Code := { maxStack := 3, maxLocals := 1, code := prog_102_method_8_code, exceptionTable := #[], attributes := #[] }
def k2m7 : Method := { name := "height", desc := "()I", sig := { parameters := [], returnType := some .int }, accessFlags := 0, code := some k2c7 }
/-- com/example/framewire/framewire/rfb/Tiles -/
def k2 : Class := { plain "com/example/framewire/framewire/rfb/Tiles" (some 0) with
  accessFlags := 48
  interfaces := #[]
  cf := some (fileOf pool2 8 #[] #[{ accessFlags := 0, nameIndex := 5, descriptorIndex := 52, attributes := #[] }, { accessFlags := 0, nameIndex := 55, descriptorIndex := 56, attributes := #[] }, { accessFlags := 0, nameIndex := 58, descriptorIndex := 59, attributes := #[] }, { accessFlags := 0, nameIndex := 60, descriptorIndex := 6, attributes := #[] }, { accessFlags := 0, nameIndex := 24, descriptorIndex := 37, attributes := #[] }, { accessFlags := 0, nameIndex := 27, descriptorIndex := 37, attributes := #[] }, { accessFlags := 0, nameIndex := 36, descriptorIndex := 37, attributes := #[] }, { accessFlags := 0, nameIndex := 40, descriptorIndex := 37, attributes := #[] }] 48 2 #[] #[{ accessFlags := 18, nameIndex := 11, descriptorIndex := 12, attributes := #[] }, { accessFlags := 2, nameIndex := 15, descriptorIndex := 12, attributes := #[] }, { accessFlags := 2, nameIndex := 18, descriptorIndex := 12, attributes := #[] }, { accessFlags := 2, nameIndex := 21, descriptorIndex := 12, attributes := #[] }, { accessFlags := 2, nameIndex := 24, descriptorIndex := 12, attributes := #[] }, { accessFlags := 2, nameIndex := 27, descriptorIndex := 12, attributes := #[] }])
  fields := #[{ name := "size", type := .int, accessFlags := 18, slot := 0, constantValue := 0 }, { name := "left", type := .int, accessFlags := 2, slot := 1, constantValue := 0 }, { name := "right", type := .int, accessFlags := 2, slot := 2, constantValue := 0 }, { name := "bottom", type := .int, accessFlags := 2, slot := 3, constantValue := 0 }, { name := "x", type := .int, accessFlags := 2, slot := 4, constantValue := 0 }, { name := "y", type := .int, accessFlags := 2, slot := 5, constantValue := 0 }]
  methods := #[k2m0, k2m1, k2m2, k2m3, k2m4, k2m5, k2m6, k2m7]
  instanceTypes := #[.int, .int, .int, .int, .int, .int]
  staticTypes := #[]
  resolved := Array.replicate 67 none
  statics := none }

def pool3 : Array CpInfo := pool [(1, .class_ 2), (0, u "java/lang/Math"), (1, .class_ 6), (1, u "java/lang/Object"), (0, u "<init>"), (0, u "()V"), (89, .class_ 100), (1, u "java/lang/Math$RandomNumberGeneratorHolder"), (71, u "negativeZeroFloatBits"), (0, u "J"), (2, u "negativeZeroDoubleBits"), (24, u "min"), (43, u "$assertionsDisabled"), (0, u "Z"), (88, u "(II)I"), (2, u "twoToTheDoubleScaleDown"), (0, u "D"), (4, u "twoToTheDoubleScaleUp"), (9, u "E"), (3, u "PI"), (2, u "TAU"), (2, u "DEGREES_TO_RADIANS"), (0, u "RADIANS_TO_DEGREES")] 94

def k3m0 : Method := { name := "<init>", desc := "()V", sig := { parameters := [], returnType := none }, accessFlags := 2, code := none }
def k3c1 : Code := { maxStack := 2, maxLocals := 2, code := jdk_29_method_69_code, exceptionTable := #[], attributes := #[] }
def k3m1 : Method := { name := "min", desc := "(II)I", sig := { parameters := [.int, .int], returnType := some .int }, accessFlags := 9, code := some k3c1 }
/-- java/lang/Math -/
def k3 : Class := { plain "java/lang/Math" (some 0) with
  accessFlags := 49
  interfaces := #[]
  cf := some (fileOf pool3 1 #[.nestMembers #[98]] #[{ accessFlags := 2, nameIndex := 7, descriptorIndex := 8, attributes := #[] }, { accessFlags := 9, nameIndex := 201, descriptorIndex := 335, attributes := #[] }] 49 4 #[] #[{ accessFlags := 25, nameIndex := 354, descriptorIndex := 339, attributes := #[] }, { accessFlags := 25, nameIndex := 358, descriptorIndex := 339, attributes := #[] }, { accessFlags := 25, nameIndex := 361, descriptorIndex := 339, attributes := #[] }, { accessFlags := 26, nameIndex := 364, descriptorIndex := 339, attributes := #[] }, { accessFlags := 26, nameIndex := 365, descriptorIndex := 339, attributes := #[] }, { accessFlags := 26, nameIndex := 172, descriptorIndex := 173, attributes := #[] }, { accessFlags := 26, nameIndex := 176, descriptorIndex := 173, attributes := #[] }, { accessFlags := 8, nameIndex := 344, descriptorIndex := 339, attributes := #[] }, { accessFlags := 8, nameIndex := 338, descriptorIndex := 339, attributes := #[] }, { accessFlags := 4120, nameIndex := 245, descriptorIndex := 246, attributes := #[] }])
  fields := #[{ name := "E", type := .double, accessFlags := 25, slot := 0, constantValue := 0 }, { name := "PI", type := .double, accessFlags := 25, slot := 1, constantValue := 0 }, { name := "TAU", type := .double, accessFlags := 25, slot := 2, constantValue := 0 }, { name := "DEGREES_TO_RADIANS", type := .double, accessFlags := 26, slot := 3, constantValue := 0 }, { name := "RADIANS_TO_DEGREES", type := .double, accessFlags := 26, slot := 4, constantValue := 0 }, { name := "negativeZeroFloatBits", type := .long, accessFlags := 26, slot := 5, constantValue := 0 }, { name := "negativeZeroDoubleBits", type := .long, accessFlags := 26, slot := 6, constantValue := 0 }, { name := "twoToTheDoubleScaleUp", type := .double, accessFlags := 8, slot := 7, constantValue := 0 }, { name := "twoToTheDoubleScaleDown", type := .double, accessFlags := 8, slot := 8, constantValue := 0 }, { name := "$assertionsDisabled", type := .boolean, accessFlags := 4120, slot := 9, constantValue := 0 }]
  methods := #[k3m0, k3m1]
  instanceTypes := #[]
  staticTypes := #[.double, .double, .double, .double, .double, .long, .long, .double, .double, .boolean]
  resolved := Array.replicate 460 none
  statics := none }

def pool4 : Array CpInfo := pool [(1, u "java/lang/Cloneable"), (0, .class_ 1), (0, u "java/lang/Object"), (0, .class_ 3)] 3

/-- java/lang/Cloneable -/
def k4 : Class := { plain "java/lang/Cloneable" (some 0) with
  accessFlags := 1537
  interfaces := #[]
  cf := some (fileOf pool4 2 #[] #[] 1537 4 #[] #[])
  fields := #[]
  methods := #[]
  instanceTypes := #[]
  staticTypes := #[]
  resolved := Array.replicate 8 none
  statics := none }

def pool5 : Array CpInfo := pool [(1, u "java/io/Serializable"), (0, .class_ 1), (0, u "java/lang/Object"), (0, .class_ 3)] 3

/-- java/io/Serializable -/
def k5 : Class := { plain "java/io/Serializable" (some 0) with
  accessFlags := 1537
  interfaces := #[]
  cf := some (fileOf pool5 2 #[] #[] 1537 4 #[] #[])
  fields := #[]
  methods := #[]
  instanceTypes := #[]
  staticTypes := #[]
  resolved := Array.replicate 8 none
  statics := none }

/-- the primitive byte -/
def k6 : Class := { plain "byte" none with kind := .primitive 'B', accessFlags := 0x411 }
/-- [B -/
def k7 : Class := { plain "[B" (some 0) with kind := .array 6 .byte, interfaces := #[4, 5], accessFlags := 1041 }

/-- the primitive int -/
def k8 : Class := { plain "int" none with kind := .primitive 'I', accessFlags := 0x411 }
/-- [I -/
def k9 : Class := { plain "[I" (some 0) with kind := .array 8 .int, interfaces := #[4, 5], accessFlags := 1041 }

def heap : Heap := #[]
def classes : Array Class := #[k0, k1, k2, k3, k4, k5, k6, k7, k8, k9]
def interned : List (Array UInt16 × Addr) := []
def slotsUsed : Nat := 0
def theMethod : MethodId := ⟨1, 2⟩
def args0 : Array Value := #[.int 5, .int 5, .int 5, .int 5, .int 5, .int 5]
def aboutOver (below : List Frame) : State where
  vm := { classes := classes, interned := interned.toArray }
  heap := heap
  slotsUsed := slotsUsed
  threads := #[{ frames := .invoking theMethod args0 :: below }]
def below0 : List Frame := [.native { method := ⟨0, 0⟩, args := #[] }]
def about1 : State := aboutOver below0
def p0 : Program := .bare "" "" ""
def e0 : Env := launch0.env 0 0 0
theorem w_frames : about1.frames = Frame.invoking theMethod args0 :: below0 := rfl
set_option maxRecDepth 65536 in
theorem w_args : argsFit about1.vm theMethod args0 = true := by decide +kernel
set_option maxRecDepth 65536 in
theorem w_heap : heapFits about1 = true := by decide +kernel
set_option maxRecDepth 65536 in
theorem w_runnable : about1.curStatus? = some .runnable := by decide +kernel
set_option maxRecDepth 65536 in
theorem w_alone : about1.alone = true := by decide +kernel
set_option maxRecDepth 65536 in
theorem w_named : about1.methodNamed? x = some theMethod := by decide +kernel
set_option maxRecDepth 65536 in
theorem w_hears : about1.hears theMethod below0 = true := by decide +kernel
set_option maxRecDepth 65536 in
theorem w_ripe : about1.ripe theMethod args0 below0 = true := by decide +kernel
theorem w_running : about1.status = .running := rfl
set_option maxRecDepth 65536 in
theorem w_room : about1.hasRoom e0.platform room_1 = true :=
  launch0.hasRoom_least _ room_1 (by decide +kernel) (by decide +kernel) (by decide +kernel) (by decide +kernel) (by decide +kernel) (by decide +kernel)
theorem allAtoms_all (ts : List Jvm.Cond) (a : Array Jvm.Value) (st : Jvm.State) : (allAtoms ts).before a st = ts.all (fun c => c.before a st) := by
  induction ts with
  | nil => rfl
  | cons c t ih =>
    show (Jvm.Cond.and c (allAtoms t)).before a st = _
    rw [Jvm.Cond.before_and, ih, List.all_cons]
def words1 : List Jvm.Cond := Jvm.Cond.code x code maxLocals ret :: tables_1
/-- a 'code' word, met by the world's own term for the bytes: nothing is compared byte by byte -/
theorem code_word {y : MethodName} {bytes : ByteArray} {mx : Nat} {rt : Option FieldType} {a : Array Value} {s : State} {m : MethodId} {meth : Method} {c : Code} (h1 : s.methodNamed? y = some m) (h2 : s.vm.method? m = some meth) (h3 : meth.code = some c) (h4 : c.code = bytes)
    (h5 : (c.maxLocals == mx && c.exceptionTable.isEmpty && decide (c.maxStack ≤ mostOperands) && decide (meth.sig.returnType = rt) && !meth.locks && decide (parseMethodDescriptor y.desc = some meth.sig)) = true) : (Jvm.Cond.code y bytes mx rt).before a s = true := by
  simp only [Bool.and_eq_true, beq_iff_eq, Bool.not_eq_true', decide_eq_true_eq] at h5
  obtain ⟨⟨⟨⟨⟨g1, g2⟩, g3⟩, g4⟩, g5⟩, g6⟩ := h5
  simp [Cond.before, Cond.holds, Cond.value, h1, h2, h3, h4, g1, g2, g3, g4, g5, g6]
def isCode : Jvm.Cond → Bool
  | .code _ _ _ _ => true
  | _ => false
theorem all_split {L : List Jvm.Cond} {P : Jvm.Cond → Bool} (h1 : L.all (fun c => isCode c || P c) = true) (h2 : ∀ c ∈ L.filter isCode, P c = true) : L.all P = true := by
  refine List.all_eq_true.mpr fun c hc => ?_
  have h := List.all_eq_true.mp h1 c hc
  rcases Bool.eq_false_or_eq_true (isCode c) with hi | hi
  · exact h2 c (List.mem_filter.mpr ⟨hc, hi⟩)
  · simpa [hi] using h
set_option maxRecDepth 65536 in
theorem w_c0 : (Jvm.Cond.code x code maxLocals ret).before args0 about1 = true := code_word (m := ⟨1, 2⟩) (meth := k1m2) (c := k1c2) (by decide +kernel) rfl rfl rfl (by decide +kernel)
set_option maxRecDepth 65536 in
theorem w_c1 : (Jvm.Cond.code ({ cls := "com/example/framewire/framewire/rfb/TilesStartPinLaw", name := "pick", desc := "(II)I" } : Jvm.MethodName) method_2_code (2 : Nat) (Option.some Jvm.ClassFile.FieldType.int)).before args0 about1 = true := code_word (m := ⟨1, 1⟩) (meth := k1m1) (c := k1c1) (by decide +kernel) rfl rfl rfl (by decide +kernel)
set_option maxRecDepth 65536 in
theorem w_c2 : (Jvm.Cond.code ({ cls := "com/example/framewire/framewire/rfb/Tiles", name := "<init>", desc := "(I)V" } : Jvm.MethodName) prog_102_method_1_code (2 : Nat) (Option.none : Option Jvm.ClassFile.FieldType)).before args0 about1 = true := code_word (m := ⟨2, 0⟩) (meth := k2m0) (c := k2c0) (by decide +kernel) rfl rfl rfl (by decide +kernel)
set_option maxRecDepth 65536 in
theorem w_c3 : (Jvm.Cond.code ({ cls := "java/lang/Object", name := "<init>", desc := "()V" } : Jvm.MethodName) object_method_1_code (1 : Nat) (Option.none : Option Jvm.ClassFile.FieldType)).before args0 about1 = true := code_word (m := ⟨0, 0⟩) (meth := k0m0) (c := k0c0) (by decide +kernel) rfl rfl rfl (by decide +kernel)
set_option maxRecDepth 65536 in
theorem w_c4 : (Jvm.Cond.code ({ cls := "com/example/framewire/framewire/rfb/Tiles", name := "start", desc := "(IIII)V" } : Jvm.MethodName) prog_102_method_2_code (5 : Nat) (Option.none : Option Jvm.ClassFile.FieldType)).before args0 about1 = true := code_word (m := ⟨2, 1⟩) (meth := k2m1) (c := k2c1) (by decide +kernel) rfl rfl rfl (by decide +kernel)
set_option maxRecDepth 65536 in
theorem w_c5 : (Jvm.Cond.code ({ cls := "com/example/framewire/framewire/rfb/Tiles", name := "done", desc := "()Z" } : Jvm.MethodName) prog_102_method_3_code (1 : Nat) (Option.some Jvm.ClassFile.FieldType.boolean)).before args0 about1 = true := code_word (m := ⟨2, 2⟩) (meth := k2m2) (c := k2c2) (by decide +kernel) rfl rfl rfl (by decide +kernel)
set_option maxRecDepth 65536 in
theorem w_c6 : (Jvm.Cond.code ({ cls := "com/example/framewire/framewire/rfb/Tiles", name := "x", desc := "()I" } : Jvm.MethodName) prog_102_method_5_code (1 : Nat) (Option.some Jvm.ClassFile.FieldType.int)).before args0 about1 = true := code_word (m := ⟨2, 4⟩) (meth := k2m4) (c := k2c4) (by decide +kernel) rfl rfl rfl (by decide +kernel)
set_option maxRecDepth 65536 in
theorem w_c7 : (Jvm.Cond.code ({ cls := "com/example/framewire/framewire/rfb/Tiles", name := "y", desc := "()I" } : Jvm.MethodName) prog_102_method_6_code (1 : Nat) (Option.some Jvm.ClassFile.FieldType.int)).before args0 about1 = true := code_word (m := ⟨2, 5⟩) (meth := k2m5) (c := k2c5) (by decide +kernel) rfl rfl rfl (by decide +kernel)
set_option maxRecDepth 65536 in
theorem w_c8 : (Jvm.Cond.code ({ cls := "com/example/framewire/framewire/rfb/Tiles", name := "width", desc := "()I" } : Jvm.MethodName) prog_102_method_7_code (1 : Nat) (Option.some Jvm.ClassFile.FieldType.int)).before args0 about1 = true := code_word (m := ⟨2, 6⟩) (meth := k2m6) (c := k2c6) (by decide +kernel) rfl rfl rfl (by decide +kernel)
set_option maxRecDepth 65536 in
theorem w_c9 : (Jvm.Cond.code ({ cls := "java/lang/Math", name := "min", desc := "(II)I" } : Jvm.MethodName) jdk_29_method_69_code (2 : Nat) (Option.some Jvm.ClassFile.FieldType.int)).before args0 about1 = true := code_word (m := ⟨3, 1⟩) (meth := k3m1) (c := k3c1) (by decide +kernel) rfl rfl rfl (by decide +kernel)
set_option maxRecDepth 65536 in
theorem w_c10 : (Jvm.Cond.code ({ cls := "com/example/framewire/framewire/rfb/Tiles", name := "height", desc := "()I" } : Jvm.MethodName) prog_102_method_8_code (1 : Nat) (Option.some Jvm.ClassFile.FieldType.int)).before args0 about1 = true := code_word (m := ⟨2, 7⟩) (meth := k2m7) (c := k2c7) (by decide +kernel) rfl rfl rfl (by decide +kernel)
set_option maxRecDepth 65536 in
theorem w_c11 : (Jvm.Cond.code ({ cls := "com/example/framewire/framewire/rfb/Tiles", name := "next", desc := "()V" } : Jvm.MethodName) prog_102_method_4_code (1 : Nat) (Option.none : Option Jvm.ClassFile.FieldType)).before args0 about1 = true := code_word (m := ⟨2, 3⟩) (meth := k2m3) (c := k2c3) (by decide +kernel) rfl rfl rfl (by decide +kernel)
def codes1 : List Jvm.Cond := [Jvm.Cond.code x code maxLocals ret, Jvm.Cond.code ({ cls := "com/example/framewire/framewire/rfb/TilesStartPinLaw", name := "pick", desc := "(II)I" } : Jvm.MethodName) method_2_code (2 : Nat) (Option.some Jvm.ClassFile.FieldType.int), Jvm.Cond.code ({ cls := "com/example/framewire/framewire/rfb/Tiles", name := "<init>", desc := "(I)V" } : Jvm.MethodName) prog_102_method_1_code (2 : Nat) (Option.none : Option Jvm.ClassFile.FieldType), Jvm.Cond.code ({ cls := "java/lang/Object", name := "<init>", desc := "()V" } : Jvm.MethodName) object_method_1_code (1 : Nat) (Option.none : Option Jvm.ClassFile.FieldType), Jvm.Cond.code ({ cls := "com/example/framewire/framewire/rfb/Tiles", name := "start", desc := "(IIII)V" } : Jvm.MethodName) prog_102_method_2_code (5 : Nat) (Option.none : Option Jvm.ClassFile.FieldType), Jvm.Cond.code ({ cls := "com/example/framewire/framewire/rfb/Tiles", name := "done", desc := "()Z" } : Jvm.MethodName) prog_102_method_3_code (1 : Nat) (Option.some Jvm.ClassFile.FieldType.boolean), Jvm.Cond.code ({ cls := "com/example/framewire/framewire/rfb/Tiles", name := "x", desc := "()I" } : Jvm.MethodName) prog_102_method_5_code (1 : Nat) (Option.some Jvm.ClassFile.FieldType.int), Jvm.Cond.code ({ cls := "com/example/framewire/framewire/rfb/Tiles", name := "y", desc := "()I" } : Jvm.MethodName) prog_102_method_6_code (1 : Nat) (Option.some Jvm.ClassFile.FieldType.int), Jvm.Cond.code ({ cls := "com/example/framewire/framewire/rfb/Tiles", name := "width", desc := "()I" } : Jvm.MethodName) prog_102_method_7_code (1 : Nat) (Option.some Jvm.ClassFile.FieldType.int), Jvm.Cond.code ({ cls := "java/lang/Math", name := "min", desc := "(II)I" } : Jvm.MethodName) jdk_29_method_69_code (2 : Nat) (Option.some Jvm.ClassFile.FieldType.int), Jvm.Cond.code ({ cls := "com/example/framewire/framewire/rfb/Tiles", name := "height", desc := "()I" } : Jvm.MethodName) prog_102_method_8_code (1 : Nat) (Option.some Jvm.ClassFile.FieldType.int), Jvm.Cond.code ({ cls := "com/example/framewire/framewire/rfb/Tiles", name := "next", desc := "()V" } : Jvm.MethodName) prog_102_method_4_code (1 : Nat) (Option.none : Option Jvm.ClassFile.FieldType)]
set_option maxRecDepth 65536 in
theorem codes_eq : words1.filter isCode = codes1 := rfl
theorem w_codes : ∀ c ∈ words1.filter isCode, c.before args0 about1 = true := by
  rw [codes_eq]
  intro c hc
  simp only [codes1, List.mem_cons, List.not_mem_nil, or_false] at hc
  rcases hc with rfl | rfl | rfl | rfl | rfl | rfl | rfl | rfl | rfl | rfl | rfl | rfl
  · exact w_c0
  · exact w_c1
  · exact w_c2
  · exact w_c3
  · exact w_c4
  · exact w_c5
  · exact w_c6
  · exact w_c7
  · exact w_c8
  · exact w_c9
  · exact w_c10
  · exact w_c11
set_option maxRecDepth 65536 in
theorem w_t1 : (words1.take 24).all (fun c => isCode c || c.before args0 about1) = true := by decide +kernel
set_option maxRecDepth 65536 in
theorem w_t2 : ((words1.drop 24).take 24).all (fun c => isCode c || c.before args0 about1) = true := by decide +kernel
set_option maxRecDepth 65536 in
theorem w_t3 : ((words1.drop 24).drop 24).all (fun c => isCode c || c.before args0 about1) = true := by decide +kernel
theorem w_tables : (allAtoms (Jvm.Cond.code x code maxLocals ret :: tables_1)).before args0 about1 = true := by
  rw [allAtoms_all]
  show words1.all (fun c => c.before args0 about1) = true
  refine all_split ?_ w_codes
  rw [← List.take_append_drop 24 words1, List.all_append, w_t1, ← List.take_append_drop 24 (words1.drop 24), List.all_append, w_t2, w_t3]
  rfl
set_option maxRecDepth 65536 in
theorem w_case : (Jvm.Cond.and given_1 narrow_1).before args0 about1 = true := by decide +kernel
theorem w_applies : (headSpec (Jvm.Cond.code x code maxLocals ret :: tables_1) room_1).applies x e0.platform about1 = true :=
  (Spec.applies_iff w_frames).mpr ⟨w_running, w_runnable, w_alone, w_named, w_hears, w_ripe, w_room, w_tables⟩
theorem atStart : AtStart classFile x code maxLocals ret World_1 tables_1 room_1 Calls_1 rest_1 Pre_1 launch0 p0 e0 about1 theMethod args0 below0 :=
  ⟨lists_1, trivial, launch0.admits_env _ _ _, launch0.least_env, fairChoices_fair.cas, fairChoices_fair.clock, w_frames, w_args, w_heap, w_applies, trivial, trivial, w_case⟩
end start1
theorem witness_1 : WitnessClaimed_1 := ⟨start1.p0, start1.e0, start1.about1, start1.theMethod, start1.args0, start1.below0, start1.atStart⟩
end Jvm.Pilot.@@N@@
