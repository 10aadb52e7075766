import JvmDerived
import JvmDerived.Pilot.@@N@@Statement
import JvmDerived.Pilot.@@N@@Code
set_option linter.unusedVariables false
set_option linter.unusedSimpArgs false
namespace Jvm.OwnKit
open Sem ClassFile Op Lib Jvm.Stand Jvm.Free Jvm.LawKit Jvm.RoadKit
/-! A small program logic over the library's laws of one family: Wp says that from a frame on the method comes back with Q. -/
def Cx (p : Program) (s : State) (m : MethodId) (meth : Method) (c : Code) (Z : State) (my : MethodName) (B : ByteArray) (ml : Nat) (ret : Option FieldType) : Prop :=
  p.tables.exec = Jvm.exec ∧ c.code = B ∧ c.maxLocals = ml ∧ Z.Warmed39 s.vm ∧ s.vm.findClass my.cls = some m.cls ∧ meth.name = my.name ∧ meth.sig.returnType = ret ∧ meth.locks = false
def Wp (l : Launch) (Z : State) (R : Room) (my : MethodName) (B : ByteArray) (ml : Nat) (ret : Option FieldType) (n0 : Nat) (Q : Option Value → Heap → Prop) (h : Heap) (cells slots pc : Nat) (L : Array Slot) (S : List Value) : Prop :=
  ∀ (p : Program) (e : Env) (s : State) (m : MethodId) (args : Array Value) (below : List Frame) (meth : Method) (c : Code) (T : State) (locs : List Loc),
    Cx p s m meth c Z my B ml ret → Stand p l e R s m args below meth c T locs cells slots → T.heap = h → Fr n0 locs →
    ∃ (s₂ : State) (o : Outcome), Steps p.tables e below (T.setTop (mkF m pc L S)) s₂ ∧ s₂.status = .running ∧ Ended s₂ below o ∧ ∃ v L', o = .returned v ∧ (Q v s₂.heap ∧ Fr n0 L') ∧ FrameEnd s o s₂ L' R.cells R.slots
/-- the contract of a method at given arguments and heap -/
def Met (l : Launch) (Z : State) (my : MethodName) (B : ByteArray) (ml : Nat) (ret : Option FieldType) (rm : Room) (as : Array Value) (h0 : Heap) (n0 : Nat) (Q : Option Value → Heap → Prop) : Prop :=
  ∀ ws : List Jvm.Cond, MetFree l my (head1 (Jvm.Cond.code my B ml ret :: ws) rm) (fun a U => a = as ∧ Z.Warmed39 U.vm ∧ U.heap = h0) (fun _ _ _ _ _ => True)
    (fun _ U o U' => ∃ v L, o = .returned v ∧ (Q v U'.heap ∧ Fr n0 L) ∧ FrameEnd U o U' L rm.cells rm.slots)
section Base
variable {l : Launch} {Z : State} {R : Room} {my : MethodName} {B : ByteArray} {ml : Nat} {ret : Option FieldType} {n0 : Nat} {Q : Option Value → Heap → Prop} {h : Heap} {cells slots pc : Nat} {L : Array Slot} {S : List Value} {a0 : Array Value}
theorem Met.of {as : Array Value} {L0 : Array Slot} (hpl : plainName my.cls = true) (ef : ∀ m, entryFrame m as ml = mkF m 0 L0 []) (body : Wp l Z R my B ml ret n0 Q h 0 0 0 L0 []) : Met l Z my B ml ret R as h n0 Q := by
  intro ws
  refine MetFree.of_bodySF (plainFor_of_name hpl) hisR ?_
  intro p e s m args below meth c s₁ Bd hml0 hP hK
  obtain ⟨rfl, hZ, hh⟩ := hP
  have X0 := Stand.of_body Bd
  have e0 : s₁.heap = h := by rw [← hh, Bd.state]; rfl
  obtain ⟨s₂, o, k1, k2⟩ := body p e s m _ below meth c s₁ [] ⟨Bd.exec, Bd.bytes, hml0, hZ, findClass_of_methodNamed Bd.named, (name_of_methodNamed Bd.named Bd.method).1, Bd.returns, Bd.notSynchronized⟩ X0 e0 (Fr.nil n0)
  exact ⟨s₂, o, castTop (ef m) k1, k2⟩
theorem Met.mono {rm : Room} {as : Array Value} {Q' : Option Value → Heap → Prop} (M : Met l Z my B ml ret rm as h n0 Q) (hq : ∀ v h', Q v h' → Q' v h') : Met l Z my B ml ret rm as h n0 Q' := by
  intro ws p e ha hc hk s m args below hf happ hP hK
  obtain ⟨n, o, h1, h2, h3, v, L, rfl, ⟨q1, q2⟩, q3⟩ := M ws p e ha hc hk s m args below hf happ hP hK
  exact ⟨n, _, h1, h2, h3, v, L, rfl, ⟨hq _ _ q1, q2⟩, q3⟩
theorem Wp.mono {Q' : Option Value → Heap → Prop} (W : Wp l Z R my B ml ret n0 Q h cells slots pc L S) (hq : ∀ v h', Q v h' → Q' v h') : Wp l Z R my B ml ret n0 Q' h cells slots pc L S := by
  intro p e s m args below meth c T locs K X eT N
  obtain ⟨s₂, o, k1, k2, k3, v, L', k4, k5, k6⟩ := W p e s m args below meth c T locs K X eT N
  exact ⟨s₂, o, k1, k2, k3, v, L', k4, ⟨hq _ _ k5.1, k5.2⟩, k6⟩
/-- the law's own body may end within any frame -/
theorem Wp.plain {pc' : Nat} {L' : Array Slot} {S' : List Value}
    (st : ∀ {p : Program} {e : Env} {s : State} {m : MethodId} {args : Array Value} {below : List Frame} {meth : Method} {c : Code} {T : State} {locs : List Loc}, Cx p s m meth c Z my B ml ret → Stand p l e R s m args below meth c T locs cells slots → T.heap = h → ∀ target, Steps p.tables e below (T.setTop (mkF m pc' L' S')) target → Steps p.tables e below (T.setTop (mkF m pc L S)) target)
    (r : Wp l Z R my B ml ret n0 Q h cells slots pc' L' S') : Wp l Z R my B ml ret n0 Q h cells slots pc L S := by
  intro p e s m args below meth c T locs K X eT N
  obtain ⟨s₂, o, k1, k2⟩ := r p e s m args below meth c T locs K X eT N
  exact ⟨s₂, o, st K X eT _ k1, k2⟩
theorem Wp.moved {pc' : Nat} {L' : Array Slot} {S' : List Value}
    (st : ∀ {p : Program} {e : Env} {s : State} {m : MethodId} {args : Array Value} {below : List Frame} {meth : Method} {c : Code} {T : State} {locs : List Loc}, Cx p s m meth c Z my B ml ret → Stand p l e R s m args below meth c T locs cells slots → T.heap = h → ∃ T', Stand p l e R s m args below meth c T' locs cells slots ∧ T'.heap = h ∧ ∀ target, Steps p.tables e below (T'.setTop (mkF m pc' L' S')) target → Steps p.tables e below (T.setTop (mkF m pc L S)) target)
    (r : Wp l Z R my B ml ret n0 Q h cells slots pc' L' S') : Wp l Z R my B ml ret n0 Q h cells slots pc L S := by
  intro p e s m args below meth c T locs K X eT N
  obtain ⟨T', X', e', st'⟩ := st K X eT
  obtain ⟨s₂, o, k1, k2⟩ := r p e s m args below meth c T' locs K X' e' N
  exact ⟨s₂, o, st' _ k1, k2⟩
/-! plain steps -/
theorem Wp.iloadN {k : Fin 4} {v : Int32} {pc' : Nat} (hd : decode B pc = .ok (.iload_n k, 1)) (hl : L[k.val]? = some (.val (.int v))) (hp : pc + 1 = pc') (r : Wp l Z R my B ml ret n0 Q h cells slots pc' L (.int v :: S)) : Wp l Z R my B ml ret n0 Q h cells slots pc L S := by
  subst hp; exact Wp.plain (fun K X _ target kt => XS.iloadN X.here K.1 rfl (hb K.2.1 hd) hl kt) r
theorem Wp.iload {k : Nat} {v : Int32} {pc' : Nat} (hd : decode B pc = .ok (.iload k, 2)) (hl : L[k]? = some (.val (.int v))) (hp : pc + 2 = pc') (r : Wp l Z R my B ml ret n0 Q h cells slots pc' L (.int v :: S)) : Wp l Z R my B ml ret n0 Q h cells slots pc L S := by
  subst hp; exact Wp.plain (fun K X _ target kt => XS.iload X.here K.1 rfl (hb K.2.1 hd) hl kt) r
theorem Wp.lloadN {k : Fin 4} {v : Int64} {pc' : Nat} (hd : decode B pc = .ok (.lload_n k, 1)) (hl : L[k.val]? = some (.val (.long v))) (hp : pc + 1 = pc') (r : Wp l Z R my B ml ret n0 Q h cells slots pc' L (.long v :: S)) : Wp l Z R my B ml ret n0 Q h cells slots pc L S := by
  subst hp; exact Wp.plain (fun K X _ target kt => XT.lloadN X.here K.1 rfl (hb K.2.1 hd) hl kt) r
theorem Wp.lload {k : Nat} {v : Int64} {pc' : Nat} (hd : decode B pc = .ok (.lload k, 2)) (hl : L[k]? = some (.val (.long v))) (hp : pc + 2 = pc') (r : Wp l Z R my B ml ret n0 Q h cells slots pc' L (.long v :: S)) : Wp l Z R my B ml ret n0 Q h cells slots pc L S := by
  subst hp; exact Wp.plain (fun K X _ target kt => XT.lload X.here K.1 rfl (hb K.2.1 hd) hl kt) r
theorem Wp.aloadN {k : Fin 4} {v : Value} {pc' : Nat} (hd : decode B pc = .ok (.aload_n k, 1)) (hl : L[k.val]? = some (.val v)) (hv : v.isRef = true) (hp : pc + 1 = pc') (r : Wp l Z R my B ml ret n0 Q h cells slots pc' L (v :: S)) : Wp l Z R my B ml ret n0 Q h cells slots pc L S := by
  subst hp; exact Wp.plain (fun K X _ target kt => XS.aloadN X.here K.1 rfl (hb K.2.1 hd) hl hv kt) r
theorem Wp.aload {k : Nat} {v : Value} {pc' : Nat} (hd : decode B pc = .ok (.aload k, 2)) (hl : L[k]? = some (.val v)) (hv : v.isRef = true) (hp : pc + 2 = pc') (r : Wp l Z R my B ml ret n0 Q h cells slots pc' L (v :: S)) : Wp l Z R my B ml ret n0 Q h cells slots pc L S := by
  subst hp; exact Wp.plain (fun K X _ target kt => XS.aload X.here K.1 rfl (hb K.2.1 hd) hl hv kt) r
theorem Wp.iconst {i : Int} {z : Int32} {pc' : Nat} (hd : decode B pc = .ok (.iconst i, 1)) (hz : Int32.ofInt i = z) (hp : pc + 1 = pc') (r : Wp l Z R my B ml ret n0 Q h cells slots pc' L (.int z :: S)) : Wp l Z R my B ml ret n0 Q h cells slots pc L S := by
  subst hp hz; exact Wp.plain (fun K X _ target kt => XS.iconst X.here K.1 rfl (hb K.2.1 hd) kt) r
theorem Wp.bipush {i : Int} {z : Int32} {pc' : Nat} (hd : decode B pc = .ok (.bipush i, 2)) (hz : (Int8.ofInt i).toInt32 = z) (hp : pc + 2 = pc') (r : Wp l Z R my B ml ret n0 Q h cells slots pc' L (.int z :: S)) : Wp l Z R my B ml ret n0 Q h cells slots pc L S := by
  subst hp hz; exact Wp.plain (fun K X _ target kt => XS.bipush X.here K.1 rfl (hb K.2.1 hd) kt) r
theorem Wp.sipush {i : Int} {z : Int32} {pc' : Nat} (hd : decode B pc = .ok (.sipush i, 3)) (hz : (Int16.ofInt i).toInt32 = z) (hp : pc + 3 = pc') (r : Wp l Z R my B ml ret n0 Q h cells slots pc' L (.int z :: S)) : Wp l Z R my B ml ret n0 Q h cells slots pc L S := by
  subst hp hz; exact Wp.plain (fun K X _ target kt => XS.sipush X.here K.1 rfl (hb K.2.1 hd) kt) r
theorem Wp.lconst {k : Fin 2} {z : Int64} {pc' : Nat} (hd : decode B pc = .ok (.lconst k, 1)) (hz : Int64.ofNat k = z) (hp : pc + 1 = pc') (r : Wp l Z R my B ml ret n0 Q h cells slots pc' L (.long z :: S)) : Wp l Z R my B ml ret n0 Q h cells slots pc L S := by
  subst hp hz; exact Wp.plain (fun K X _ target kt => XT.lconst X.here K.1 rfl (hb K.2.1 hd) kt) r
theorem Wp.aconstNull {pc' : Nat} (hd : decode B pc = .ok (.aconst_null, 1)) (hp : pc + 1 = pc') (r : Wp l Z R my B ml ret n0 Q h cells slots pc' L (.null :: S)) : Wp l Z R my B ml ret n0 Q h cells slots pc L S := by
  subst hp; exact Wp.plain (fun K X _ target kt => XS.aconstNull X.here K.1 rfl (hb K.2.1 hd) kt) r
theorem Wp.ldcInt {index : Nat} {v : Int32} {pc' : Nat} (w : (Jvm.Cond.constant my.cls index v).before a0 Z = true) (hd : decode B pc = .ok (.ldc index, 2)) (hp : pc + 2 = pc') (r : Wp l Z R my B ml ret n0 Q h cells slots pc' L (.int v :: S)) : Wp l Z R my B ml ret n0 Q h cells slots pc L S := by
  subst hp; exact Wp.plain (fun K X _ target kt => X.ldcInt K.1 K.2.2.2.2.1 (mv K.2.2.2.1 w) (g := mkF _ pc L S) rfl (hb K.2.1 hd) target kt) r
theorem Wp.ldc2Long {index : Nat} {v : Int64} {pc' : Nat} (w : (Jvm.Cond.constantLong my.cls index v).before a0 Z = true) (hd : decode B pc = .ok (.ldc2_w index, 3)) (hp : pc + 3 = pc') (r : Wp l Z R my B ml ret n0 Q h cells slots pc' L (.long v :: S)) : Wp l Z R my B ml ret n0 Q h cells slots pc L S := by
  subst hp; exact Wp.plain (fun K X _ target kt => X.ldc2Long K.1 K.2.2.2.2.1 (mv K.2.2.2.1 w) (g := mkF _ pc L S) rfl (hb K.2.1 hd) target kt) r
theorem Wp.istoreN {k : Fin 4} {v : Int32} {L' : Array Slot} {pc' : Nat} (hd : decode B pc = .ok (.istore_n k, 1)) (hl : storeLocals L k.val (.int v) = some L') (hp : pc + 1 = pc') (r : Wp l Z R my B ml ret n0 Q h cells slots pc' L' S) : Wp l Z R my B ml ret n0 Q h cells slots pc L (.int v :: S) := by
  subst hp; exact Wp.plain (fun K X _ target kt => XS.istoreN X.here K.1 rfl (hb K.2.1 hd) rfl hl kt) r
theorem Wp.istore {k : Nat} {v : Int32} {L' : Array Slot} {pc' : Nat} (hd : decode B pc = .ok (.istore k, 2)) (hl : storeLocals L k (.int v) = some L') (hp : pc + 2 = pc') (r : Wp l Z R my B ml ret n0 Q h cells slots pc' L' S) : Wp l Z R my B ml ret n0 Q h cells slots pc L (.int v :: S) := by
  subst hp; exact Wp.plain (fun K X _ target kt => XS.istore X.here K.1 rfl (hb K.2.1 hd) rfl hl kt) r
theorem Wp.lstoreN {k : Fin 4} {v : Int64} {L' : Array Slot} {pc' : Nat} (hd : decode B pc = .ok (.lstore_n k, 1)) (hl : storeLocals L k.val (.long v) = some L') (hp : pc + 1 = pc') (r : Wp l Z R my B ml ret n0 Q h cells slots pc' L' S) : Wp l Z R my B ml ret n0 Q h cells slots pc L (.long v :: S) := by
  subst hp; exact Wp.plain (fun K X _ target kt => XT.lstoreN X.here K.1 rfl (hb K.2.1 hd) rfl hl kt) r
theorem Wp.lstore {k : Nat} {v : Int64} {L' : Array Slot} {pc' : Nat} (hd : decode B pc = .ok (.lstore k, 2)) (hl : storeLocals L k (.long v) = some L') (hp : pc + 2 = pc') (r : Wp l Z R my B ml ret n0 Q h cells slots pc' L' S) : Wp l Z R my B ml ret n0 Q h cells slots pc L (.long v :: S) := by
  subst hp; exact Wp.plain (fun K X _ target kt => XT.lstore X.here K.1 rfl (hb K.2.1 hd) rfl hl kt) r
theorem Wp.astoreN {k : Fin 4} {v : Value} {L' : Array Slot} {pc' : Nat} (hd : decode B pc = .ok (.astore_n k, 1)) (hv : v.isRef = true) (hl : storeLocals L k.val v = some L') (hp : pc + 1 = pc') (r : Wp l Z R my B ml ret n0 Q h cells slots pc' L' S) : Wp l Z R my B ml ret n0 Q h cells slots pc L (v :: S) := by
  subst hp; exact Wp.plain (fun K X _ target kt => XS.astoreN X.here K.1 rfl (hb K.2.1 hd) rfl hv hl kt) r
theorem Wp.astore {k : Nat} {v : Value} {L' : Array Slot} {pc' : Nat} (hd : decode B pc = .ok (.astore k, 2)) (hv : v.isRef = true) (hl : storeLocals L k v = some L') (hp : pc + 2 = pc') (r : Wp l Z R my B ml ret n0 Q h cells slots pc' L' S) : Wp l Z R my B ml ret n0 Q h cells slots pc L (v :: S) := by
  subst hp; exact Wp.plain (fun K X _ target kt => XS.astore X.here K.1 rfl (hb K.2.1 hd) rfl hv hl kt) r
theorem Wp.iinc {k : Nat} {cst : Int} {x z : Int32} {L' : Array Slot} {pc' : Nat} (hd : decode B pc = .ok (.iinc k cst, 3)) (hl : L[k]? = some (.val (.int x))) (hz : x + Int32.ofInt cst = z) (hl' : storeLocals L k (.int z) = some L') (hp : pc + 3 = pc') (r : Wp l Z R my B ml ret n0 Q h cells slots pc' L' S) : Wp l Z R my B ml ret n0 Q h cells slots pc L S := by
  subst hp hz; exact Wp.plain (fun K X _ target kt => XS.iinc X.here K.1 rfl (hb K.2.1 hd) hl hl' kt) r
theorem Wp.dup {v : Value} {pc' : Nat} (hd : decode B pc = .ok (.dup, 1)) (hc : v.category = 1) (hp : pc + 1 = pc') (r : Wp l Z R my B ml ret n0 Q h cells slots pc' L (v :: v :: S)) : Wp l Z R my B ml ret n0 Q h cells slots pc L (v :: S) := by
  subst hp; exact Wp.plain (fun K X _ target kt => XS.dup X.here K.1 rfl (hb K.2.1 hd) rfl hc kt) r
theorem Wp.dupX1 {v w : Value} {pc' : Nat} (hd : decode B pc = .ok (.dup_x1, 1)) (hc : v.category = 1) (hc' : w.category = 1) (hp : pc + 1 = pc') (r : Wp l Z R my B ml ret n0 Q h cells slots pc' L (v :: w :: v :: S)) : Wp l Z R my B ml ret n0 Q h cells slots pc L (v :: w :: S) := by
  subst hp; exact Wp.plain (fun K X _ target kt => XT.dupX1 X.here K.1 rfl (hb K.2.1 hd) rfl hc hc' kt) r
theorem Wp.dup2 {v w : Value} {pc' : Nat} (hd : decode B pc = .ok (.dup2, 1)) (hc : v.category = 1) (hc' : w.category = 1) (hp : pc + 1 = pc') (r : Wp l Z R my B ml ret n0 Q h cells slots pc' L (v :: w :: v :: w :: S)) : Wp l Z R my B ml ret n0 Q h cells slots pc L (v :: w :: S) := by
  subst hp; exact Wp.plain (fun K X _ target kt => XT.dup2 X.here K.1 rfl (hb K.2.1 hd) rfl hc hc' kt) r
theorem Wp.dupX2 {u v w : Value} {pc' : Nat} (hd : decode B pc = .ok (.dup_x2, 1)) (hc : u.category = 1) (hc' : v.category = 1) (hc'' : w.category = 1) (hp : pc + 1 = pc') (r : Wp l Z R my B ml ret n0 Q h cells slots pc' L (u :: v :: w :: u :: S)) : Wp l Z R my B ml ret n0 Q h cells slots pc L (u :: v :: w :: S) := by
  subst hp
  refine Wp.plain (fun {p e s m args below meth c T locs} K X _ target kt => ?_) r
  have hx := K.1
  have hd' : decode c.code pc = .ok (.dup_x2, 1) := hb K.2.1 hd
  show Steps p.tables e below (T.setTop { method := m, pc := pc, locals := L, stack := u :: v :: w :: S, locked := none }) _
  jvm_step X.here [X.here.top, hx, hd', dup_x2.wp_sem, hc, hc', hc'']
  exact kt
theorem Wp.pop {v : Value} {pc' : Nat} (hd : decode B pc = .ok (.pop, 1)) (hc : v.category = 1) (hp : pc + 1 = pc') (r : Wp l Z R my B ml ret n0 Q h cells slots pc' L S) : Wp l Z R my B ml ret n0 Q h cells slots pc L (v :: S) := by
  subst hp; exact Wp.plain (fun K X _ target kt => XT.pop X.here K.1 rfl (hb K.2.1 hd) rfl hc kt) r
theorem Wp.iadd {x y z : Int32} {pc' : Nat} (hd : decode B pc = .ok (.iadd, 1)) (hz : x + y = z) (hp : pc + 1 = pc') (r : Wp l Z R my B ml ret n0 Q h cells slots pc' L (.int z :: S)) : Wp l Z R my B ml ret n0 Q h cells slots pc L (.int y :: .int x :: S) := by
  subst hp hz; exact Wp.plain (fun K X _ target kt => XS.iadd X.here K.1 rfl (hb K.2.1 hd) rfl kt) r
theorem Wp.isub {x y z : Int32} {pc' : Nat} (hd : decode B pc = .ok (.isub, 1)) (hz : x - y = z) (hp : pc + 1 = pc') (r : Wp l Z R my B ml ret n0 Q h cells slots pc' L (.int z :: S)) : Wp l Z R my B ml ret n0 Q h cells slots pc L (.int y :: .int x :: S) := by
  subst hp hz; exact Wp.plain (fun K X _ target kt => XS.isub X.here K.1 rfl (hb K.2.1 hd) rfl kt) r
theorem Wp.iand {x y z : Int32} {pc' : Nat} (hd : decode B pc = .ok (.iand, 1)) (hz : x &&& y = z) (hp : pc + 1 = pc') (r : Wp l Z R my B ml ret n0 Q h cells slots pc' L (.int z :: S)) : Wp l Z R my B ml ret n0 Q h cells slots pc L (.int y :: .int x :: S) := by
  subst hp hz; exact Wp.plain (fun K X _ target kt => XS.iand X.here K.1 rfl (hb K.2.1 hd) rfl kt) r
theorem Wp.imul {x y z : Int32} {pc' : Nat} (hd : decode B pc = .ok (.imul, 1)) (hz : x * y = z) (hp : pc + 1 = pc') (r : Wp l Z R my B ml ret n0 Q h cells slots pc' L (.int z :: S)) : Wp l Z R my B ml ret n0 Q h cells slots pc L (.int y :: .int x :: S) := by
  subst hp hz; exact Wp.plain (fun K X _ target kt => XS.imul X.here K.1 rfl (hb K.2.1 hd) rfl kt) r
theorem Wp.ior {x y z : Int32} {pc' : Nat} (hd : decode B pc = .ok (.ior, 1)) (hz : x ||| y = z) (hp : pc + 1 = pc') (r : Wp l Z R my B ml ret n0 Q h cells slots pc' L (.int z :: S)) : Wp l Z R my B ml ret n0 Q h cells slots pc L (.int y :: .int x :: S) := by
  subst hp hz; exact Wp.plain (fun K X _ target kt => XT.ior X.here K.1 rfl (hb K.2.1 hd) rfl kt) r
theorem Wp.ixor {x y z : Int32} {pc' : Nat} (hd : decode B pc = .ok (.ixor, 1)) (hz : x ^^^ y = z) (hp : pc + 1 = pc') (r : Wp l Z R my B ml ret n0 Q h cells slots pc' L (.int z :: S)) : Wp l Z R my B ml ret n0 Q h cells slots pc L (.int y :: .int x :: S) := by
  subst hp hz; exact Wp.plain (fun K X _ target kt => XT.ixor X.here K.1 rfl (hb K.2.1 hd) rfl kt) r
theorem Wp.ishl {x y z : Int32} {pc' : Nat} (hd : decode B pc = .ok (.ishl, 1)) (hz : x <<< (y &&& 31) = z) (hp : pc + 1 = pc') (r : Wp l Z R my B ml ret n0 Q h cells slots pc' L (.int z :: S)) : Wp l Z R my B ml ret n0 Q h cells slots pc L (.int y :: .int x :: S) := by
  subst hp hz; exact Wp.plain (fun K X _ target kt => XT.ishl X.here K.1 rfl (hb K.2.1 hd) rfl kt) r
theorem Wp.ishr {x y z : Int32} {pc' : Nat} (hd : decode B pc = .ok (.ishr, 1)) (hz : x >>> (y &&& 31) = z) (hp : pc + 1 = pc') (r : Wp l Z R my B ml ret n0 Q h cells slots pc' L (.int z :: S)) : Wp l Z R my B ml ret n0 Q h cells slots pc L (.int y :: .int x :: S) := by
  subst hp hz; exact Wp.plain (fun K X _ target kt => XT.ishr X.here K.1 rfl (hb K.2.1 hd) rfl kt) r
theorem Wp.iushr {x y z : Int32} {pc' : Nat} (hd : decode B pc = .ok (.iushr, 1)) (hz : XT.ushr x y = z) (hp : pc + 1 = pc') (r : Wp l Z R my B ml ret n0 Q h cells slots pc' L (.int z :: S)) : Wp l Z R my B ml ret n0 Q h cells slots pc L (.int y :: .int x :: S) := by
  subst hp hz; exact Wp.plain (fun K X _ target kt => XT.iushr X.here K.1 rfl (hb K.2.1 hd) rfl kt) r
theorem Wp.ladd {x y z : Int64} {pc' : Nat} (hd : decode B pc = .ok (.ladd, 1)) (hz : x + y = z) (hp : pc + 1 = pc') (r : Wp l Z R my B ml ret n0 Q h cells slots pc' L (.long z :: S)) : Wp l Z R my B ml ret n0 Q h cells slots pc L (.long y :: .long x :: S) := by
  subst hp hz; exact Wp.plain (fun K X _ target kt => XT.ladd X.here K.1 rfl (hb K.2.1 hd) rfl kt) r
theorem Wp.lsub {x y z : Int64} {pc' : Nat} (hd : decode B pc = .ok (.lsub, 1)) (hz : x - y = z) (hp : pc + 1 = pc') (r : Wp l Z R my B ml ret n0 Q h cells slots pc' L (.long z :: S)) : Wp l Z R my B ml ret n0 Q h cells slots pc L (.long y :: .long x :: S) := by
  subst hp hz; exact Wp.plain (fun K X _ target kt => XT.lsub X.here K.1 rfl (hb K.2.1 hd) rfl kt) r
theorem Wp.lmul {x y z : Int64} {pc' : Nat} (hd : decode B pc = .ok (.lmul, 1)) (hz : x * y = z) (hp : pc + 1 = pc') (r : Wp l Z R my B ml ret n0 Q h cells slots pc' L (.long z :: S)) : Wp l Z R my B ml ret n0 Q h cells slots pc L (.long y :: .long x :: S) := by
  subst hp hz; exact Wp.plain (fun K X _ target kt => XT.lmul X.here K.1 rfl (hb K.2.1 hd) rfl kt) r
theorem Wp.land {x y z : Int64} {pc' : Nat} (hd : decode B pc = .ok (.land, 1)) (hz : x &&& y = z) (hp : pc + 1 = pc') (r : Wp l Z R my B ml ret n0 Q h cells slots pc' L (.long z :: S)) : Wp l Z R my B ml ret n0 Q h cells slots pc L (.long y :: .long x :: S) := by
  subst hp hz; exact Wp.plain (fun K X _ target kt => XT.land X.here K.1 rfl (hb K.2.1 hd) rfl kt) r
theorem Wp.lor {x y z : Int64} {pc' : Nat} (hd : decode B pc = .ok (.lor, 1)) (hz : x ||| y = z) (hp : pc + 1 = pc') (r : Wp l Z R my B ml ret n0 Q h cells slots pc' L (.long z :: S)) : Wp l Z R my B ml ret n0 Q h cells slots pc L (.long y :: .long x :: S) := by
  subst hp hz; exact Wp.plain (fun K X _ target kt => XT.lor X.here K.1 rfl (hb K.2.1 hd) rfl kt) r
theorem Wp.lxor {x y z : Int64} {pc' : Nat} (hd : decode B pc = .ok (.lxor, 1)) (hz : x ^^^ y = z) (hp : pc + 1 = pc') (r : Wp l Z R my B ml ret n0 Q h cells slots pc' L (.long z :: S)) : Wp l Z R my B ml ret n0 Q h cells slots pc L (.long y :: .long x :: S) := by
  subst hp hz; exact Wp.plain (fun K X _ target kt => XT.lxor X.here K.1 rfl (hb K.2.1 hd) rfl kt) r
theorem Wp.i2l {x : Int32} {z : Int64} {pc' : Nat} (hd : decode B pc = .ok (.i2l, 1)) (hz : x.toInt64 = z) (hp : pc + 1 = pc') (r : Wp l Z R my B ml ret n0 Q h cells slots pc' L (.long z :: S)) : Wp l Z R my B ml ret n0 Q h cells slots pc L (.int x :: S) := by
  subst hp hz; exact Wp.plain (fun K X _ target kt => XT.i2l X.here K.1 rfl (hb K.2.1 hd) rfl kt) r
theorem Wp.l2i {x : Int64} {z : Int32} {pc' : Nat} (hd : decode B pc = .ok (.l2i, 1)) (hz : x.toInt32 = z) (hp : pc + 1 = pc') (r : Wp l Z R my B ml ret n0 Q h cells slots pc' L (.int z :: S)) : Wp l Z R my B ml ret n0 Q h cells slots pc L (.long x :: S) := by
  subst hp hz; exact Wp.plain (fun K X _ target kt => XT.l2i X.here K.1 rfl (hb K.2.1 hd) rfl kt) r
theorem Wp.i2b {x : Int32} {z : Int32} {pc' : Nat} (hd : decode B pc = .ok (.i2b, 1)) (hz : x.toInt8.toInt32 = z) (hp : pc + 1 = pc') (r : Wp l Z R my B ml ret n0 Q h cells slots pc' L (.int z :: S)) : Wp l Z R my B ml ret n0 Q h cells slots pc L (.int x :: S) := by
  subst hp hz; exact Wp.plain (fun K X _ target kt => XT.i2b X.here K.1 rfl (hb K.2.1 hd) rfl kt) r
theorem Wp.i2c {x : Int32} {z : Int32} {pc' : Nat} (hd : decode B pc = .ok (.i2c, 1)) (hz : x.toUInt32.toUInt16.toUInt32.toInt32 = z) (hp : pc + 1 = pc') (r : Wp l Z R my B ml ret n0 Q h cells slots pc' L (.int z :: S)) : Wp l Z R my B ml ret n0 Q h cells slots pc L (.int x :: S) := by
  subst hp hz; exact Wp.plain (fun K X _ target kt => XT.i2c X.here K.1 rfl (hb K.2.1 hd) rfl kt) r
theorem Wp.lshl {x z : Int64} {y : Int32} {pc' : Nat} (hd : decode B pc = .ok (.lshl, 1)) (hz : x <<< (y.toInt64 &&& 63) = z) (hp : pc + 1 = pc') (r : Wp l Z R my B ml ret n0 Q h cells slots pc' L (.long z :: S)) : Wp l Z R my B ml ret n0 Q h cells slots pc L (.int y :: .long x :: S) := by
  subst hp hz; exact Wp.plain (fun K X _ target kt => XT.lshl X.here K.1 rfl (hb K.2.1 hd) rfl kt) r
theorem Wp.lshr {x z : Int64} {y : Int32} {pc' : Nat} (hd : decode B pc = .ok (.lshr, 1)) (hz : x >>> (y.toInt64 &&& 63) = z) (hp : pc + 1 = pc') (r : Wp l Z R my B ml ret n0 Q h cells slots pc' L (.long z :: S)) : Wp l Z R my B ml ret n0 Q h cells slots pc L (.int y :: .long x :: S) := by
  subst hp hz; exact Wp.plain (fun K X _ target kt => XT.lshr X.here K.1 rfl (hb K.2.1 hd) rfl kt) r
theorem Wp.lushr {x z : Int64} {y : Int32} {pc' : Nat} (hd : decode B pc = .ok (.lushr, 1)) (hz : XT.ushrL x y = z) (hp : pc + 1 = pc') (r : Wp l Z R my B ml ret n0 Q h cells slots pc' L (.long z :: S)) : Wp l Z R my B ml ret n0 Q h cells slots pc L (.int y :: .long x :: S) := by
  subst hp hz; exact Wp.plain (fun K X _ target kt => XT.lushr X.here K.1 rfl (hb K.2.1 hd) rfl kt) r
theorem Wp.idiv {x y z : Int32} {pc' : Nat} (hd : decode B pc = .ok (.idiv, 1)) (hy : y ≠ 0) (hz : x / y = z) (hp : pc + 1 = pc') (r : Wp l Z R my B ml ret n0 Q h cells slots pc' L (.int z :: S)) : Wp l Z R my B ml ret n0 Q h cells slots pc L (.int y :: .int x :: S) := by
  subst hp hz; exact Wp.plain (fun K X _ target kt => XS.idiv X.here K.1 rfl (hb K.2.1 hd) rfl hy kt) r
theorem Wp.ldiv {x y z : Int64} {pc' : Nat} (hd : decode B pc = .ok (.ldiv, 1)) (hy : y ≠ 0) (hz : x / y = z) (hp : pc + 1 = pc') (r : Wp l Z R my B ml ret n0 Q h cells slots pc' L (.long z :: S)) : Wp l Z R my B ml ret n0 Q h cells slots pc L (.long y :: .long x :: S) := by
  subst hp hz; exact Wp.plain (fun K X _ target kt => XT.ldiv X.here K.1 rfl (hb K.2.1 hd) rfl hy kt) r
theorem Wp.lrem {x y z : Int64} {pc' : Nat} (hd : decode B pc = .ok (.lrem, 1)) (hy : y ≠ 0) (hz : x - (x / y) * y = z) (hp : pc + 1 = pc') (r : Wp l Z R my B ml ret n0 Q h cells slots pc' L (.long z :: S)) : Wp l Z R my B ml ret n0 Q h cells slots pc L (.long y :: .long x :: S) := by
  subst hp hz; exact Wp.plain (fun K X _ target kt => XT.lrem X.here K.1 rfl (hb K.2.1 hd) rfl hy kt) r
theorem Wp.irem {x y z : Int32} {pc' : Nat} (hd : decode B pc = .ok (.irem, 1)) (hy : y ≠ 0) (hz : x % y = z) (hp : pc + 1 = pc') (r : Wp l Z R my B ml ret n0 Q h cells slots pc' L (.int z :: S)) : Wp l Z R my B ml ret n0 Q h cells slots pc L (.int y :: .int x :: S) := by
  subst hp hz; exact Wp.plain (fun K X _ target kt => iremM X K.1 rfl (hb K.2.1 hd) rfl hy kt) r
theorem Wp.goto {o : Int} {pc' : Nat} (hd : decode B pc = .ok (.goto o, 3)) (ho : 0 ≤ (pc : Int) + o) (hp : ((pc : Int) + o).toNat = pc') (r : Wp l Z R my B ml ret n0 Q h cells slots pc' L S) : Wp l Z R my B ml ret n0 Q h cells slots pc L S :=
  Wp.plain (fun K X _ target kt => XS.goto X.here K.1 rfl rfl (hb K.2.1 hd) ho hp kt) r
/-- what a comparison asks -/
abbrev cdP (cd : ClassFile.Cond) (x y : Int32) : Prop := match cd with | .eq => x = y | .ne => x ≠ y | .lt => x < y | .ge => ¬ x < y | .gt => y < x | .le => ¬ y < x
theorem cdP_iff (cd : ClassFile.Cond) (x y : Int32) : if_icmp.holds cd x y = true ↔ cdP cd x y := by
  cases cd <;> simp [if_icmp.holds, cdP, Int32.not_lt]
theorem cdP_not (cd : ClassFile.Cond) (x y : Int32) (h : ¬ cdP cd x y) : if_icmp.holds cd x y = false := by
  cases q : if_icmp.holds cd x y
  · rfl
  · exact absurd ((cdP_iff cd x y).mp q) h
theorem Wp.icmpY {cd : ClassFile.Cond} {x y : Int32} {o : Int} {pc' : Nat} (hd : decode B pc = .ok (.if_icmp cd o, 3)) (hc : cdP cd x y) (ho : 0 ≤ (pc : Int) + o) (hp : ((pc : Int) + o).toNat = pc') (r : Wp l Z R my B ml ret n0 Q h cells slots pc' L S) : Wp l Z R my B ml ret n0 Q h cells slots pc L (.int y :: .int x :: S) :=
  Wp.plain (fun K X _ target kt => XS.icmpYes X.here K.1 rfl rfl (hb K.2.1 hd) rfl ((cdP_iff cd x y).mpr hc) ho hp kt) r
theorem Wp.icmpN {cd : ClassFile.Cond} {x y : Int32} {o : Int} {pc' : Nat} (hd : decode B pc = .ok (.if_icmp cd o, 3)) (hc : ¬ cdP cd x y) (hp : pc + 3 = pc') (r : Wp l Z R my B ml ret n0 Q h cells slots pc' L S) : Wp l Z R my B ml ret n0 Q h cells slots pc L (.int y :: .int x :: S) := by
  subst hp; exact Wp.plain (fun K X _ target kt => XS.icmpNo X.here K.1 rfl (hb K.2.1 hd) rfl (cdP_not cd x y hc) kt) r
theorem Wp.ifY {cd : ClassFile.Cond} {x : Int32} {o : Int} {pc' : Nat} (hd : decode B pc = .ok (.ifCond cd o, 3)) (hc : cdP cd x 0) (ho : 0 ≤ (pc : Int) + o) (hp : ((pc : Int) + o).toNat = pc') (r : Wp l Z R my B ml ret n0 Q h cells slots pc' L S) : Wp l Z R my B ml ret n0 Q h cells slots pc L (.int x :: S) :=
  Wp.plain (fun K X _ target kt => XS.ifYes X.here K.1 rfl rfl (hb K.2.1 hd) rfl ((if0 _ _).trans ((cdP_iff cd x 0).mpr hc)) ho hp kt) r
theorem Wp.ifN {cd : ClassFile.Cond} {x : Int32} {o : Int} {pc' : Nat} (hd : decode B pc = .ok (.ifCond cd o, 3)) (hc : ¬ cdP cd x 0) (hp : pc + 3 = pc') (r : Wp l Z R my B ml ret n0 Q h cells slots pc' L S) : Wp l Z R my B ml ret n0 Q h cells slots pc L (.int x :: S) := by
  subst hp; exact Wp.plain (fun K X _ target kt => XS.ifNo X.here K.1 rfl (hb K.2.1 hd) rfl ((if0 _ _).trans (cdP_not cd x 0 hc)) kt) r
/-- lcmp, then a branch on it -/
abbrev cdL (cd : ClassFile.Cond) (x y : Int64) : Prop := match cd with | .eq => x = y | .ne => x ≠ y | .lt => x < y | .ge => ¬ x < y | .gt => y < x | .le => ¬ y < x
theorem cmpL_lt (x y : Int64) : XT.cmpL x y < 0 ↔ x < y := lw_lt x y
theorem cmpL_gt (x y : Int64) : 0 < XT.cmpL x y ↔ y < x := lw_gt x y
theorem cmpL_eq (x y : Int64) : XT.cmpL x y = 0 ↔ x = y := lw_eq x y
theorem cdL_iff (cd : ClassFile.Cond) (x y : Int64) : cdP cd (XT.cmpL x y) 0 ↔ cdL cd x y := by
  cases cd
  · exact cmpL_eq x y
  · exact not_congr (cmpL_eq x y)
  · exact cmpL_lt x y
  · exact not_congr (cmpL_lt x y)
  · exact cmpL_gt x y
  · exact not_congr (cmpL_gt x y)
theorem Wp.lcmp {x y : Int64} {z : Int32} {pc' : Nat} (hd : decode B pc = .ok (.lcmp, 1)) (hz : XT.cmpL x y = z) (hp : pc + 1 = pc') (r : Wp l Z R my B ml ret n0 Q h cells slots pc' L (.int z :: S)) : Wp l Z R my B ml ret n0 Q h cells slots pc L (.long y :: .long x :: S) := by
  subst hp hz; exact Wp.plain (fun K X _ target kt => XT.lcmp X.here K.1 rfl (hb K.2.1 hd) rfl kt) r
theorem Wp.lcmpY {cd : ClassFile.Cond} {x y : Int64} {o : Int} {p1 pc' : Nat} (hd : decode B pc = .ok (.lcmp, 1)) (h1 : pc + 1 = p1) (hd' : decode B p1 = .ok (.ifCond cd o, 3)) (hc : cdL cd x y) (ho : 0 ≤ (p1 : Int) + o) (hp : ((p1 : Int) + o).toNat = pc') (r : Wp l Z R my B ml ret n0 Q h cells slots pc' L S) : Wp l Z R my B ml ret n0 Q h cells slots pc L (.long y :: .long x :: S) :=
  Wp.lcmp hd rfl h1 (Wp.ifY hd' ((cdL_iff cd x y).mpr hc) ho hp r)
theorem Wp.lcmpN {cd : ClassFile.Cond} {x y : Int64} {o : Int} {p1 pc' : Nat} (hd : decode B pc = .ok (.lcmp, 1)) (h1 : pc + 1 = p1) (hd' : decode B p1 = .ok (.ifCond cd o, 3)) (hc : ¬ cdL cd x y) (hp : p1 + 3 = pc') (r : Wp l Z R my B ml ret n0 Q h cells slots pc' L S) : Wp l Z R my B ml ret n0 Q h cells slots pc L (.long y :: .long x :: S) :=
  Wp.lcmp hd rfl h1 (Wp.ifN hd' (fun q => hc ((cdL_iff cd x y).mp q)) hp r)
theorem Wp.ifnullY {o : Int} {pc' : Nat} (hd : decode B pc = .ok (.ifnull o, 3)) (ho : 0 ≤ (pc : Int) + o) (hp : ((pc : Int) + o).toNat = pc') (r : Wp l Z R my B ml ret n0 Q h cells slots pc' L S) : Wp l Z R my B ml ret n0 Q h cells slots pc L (.null :: S) :=
  Wp.plain (fun K X _ target kt => XS.ifnullYes X.here K.1 rfl rfl (hb K.2.1 hd) rfl ho hp kt) r
theorem Wp.ifnullN {a : Addr} {o : Int} {pc' : Nat} (hd : decode B pc = .ok (.ifnull o, 3)) (hp : pc + 3 = pc') (r : Wp l Z R my B ml ret n0 Q h cells slots pc' L S) : Wp l Z R my B ml ret n0 Q h cells slots pc L (.ref a :: S) := by
  subst hp; exact Wp.plain (fun K X _ target kt => XS.ifnullNo X.here K.1 rfl (hb K.2.1 hd) rfl kt) r
theorem Wp.ifnonnullY {a : Addr} {o : Int} {pc' : Nat} (hd : decode B pc = .ok (.ifnonnull o, 3)) (ho : 0 ≤ (pc : Int) + o) (hp : ((pc : Int) + o).toNat = pc') (r : Wp l Z R my B ml ret n0 Q h cells slots pc' L S) : Wp l Z R my B ml ret n0 Q h cells slots pc L (.ref a :: S) :=
  Wp.plain (fun K X _ target kt => XT.ifnonnullYes X.here K.1 rfl rfl (hb K.2.1 hd) rfl ho hp kt) r
theorem Wp.ifnonnullN {o : Int} {pc' : Nat} (hd : decode B pc = .ok (.ifnonnull o, 3)) (hp : pc + 3 = pc') (r : Wp l Z R my B ml ret n0 Q h cells slots pc' L S) : Wp l Z R my B ml ret n0 Q h cells slots pc L (.null :: S) := by
  subst hp; exact Wp.plain (fun K X _ target kt => XT.ifnonnullNo X.here K.1 rfl (hb K.2.1 hd) rfl kt) r
theorem Wp.acmpY {cd : ClassFile.ACond} {v w : Value} {o : Int} {pc' : Nat} (hd : decode B pc = .ok (.if_acmp cd o, 3)) (hv : v.isRef = true) (hw : w.isRef = true) (hc : XT.acmp cd v w = true) (ho : 0 ≤ (pc : Int) + o) (hp : ((pc : Int) + o).toNat = pc') (r : Wp l Z R my B ml ret n0 Q h cells slots pc' L S) : Wp l Z R my B ml ret n0 Q h cells slots pc L (w :: v :: S) :=
  Wp.plain (fun K X _ target kt => XT.acmpYes X.here K.1 rfl rfl (hb K.2.1 hd) rfl hv hw hc ho hp kt) r
theorem Wp.acmpN {cd : ClassFile.ACond} {v w : Value} {o : Int} {pc' : Nat} (hd : decode B pc = .ok (.if_acmp cd o, 3)) (hv : v.isRef = true) (hw : w.isRef = true) (hc : XT.acmp cd v w = false) (hp : pc + 3 = pc') (r : Wp l Z R my B ml ret n0 Q h cells slots pc' L S) : Wp l Z R my B ml ret n0 Q h cells slots pc L (w :: v :: S) := by
  subst hp; exact Wp.plain (fun K X _ target kt => XT.acmpNo X.here K.1 rfl (hb K.2.1 hd) rfl hv hw hc kt) r
/-- lookupswitch: where it goes -/
theorem Wp.lsw {dflt o : Int} {pairs : Array (Int × Int)} {len : Nat} {i : Int32} {pc' : Nat} (hd : decode B pc = .ok (.lookupswitch dflt pairs, len)) (hsrt : ∀ (a b a' b' : Int), ((a, b), a', b') ∈ pairs.toList.zip pairs.toList.tail → a < a') (hq : lookupswitch.offset pairs.toList dflt i.toInt = o) (ho : 0 ≤ (pc : Int) + o) (hp : ((pc : Int) + o).toNat = pc') (r : Wp l Z R my B ml ret n0 Q h cells slots pc' L S) : Wp l Z R my B ml ret n0 Q h cells slots pc L (.int i :: S) := by
  subst hp hq
  refine Wp.plain (fun {p e s m args below meth c T locs} K X _ target kt => ?_) r
  have hx := K.1
  have hd' : decode c.code pc = .ok (.lookupswitch dflt pairs, len) := hb K.2.1 hd
  show Steps p.tables e below (T.setTop { method := m, pc := pc, locals := L, stack := .int i :: S, locked := none }) _
  jvm_step X.here [X.here.top, hx, hd', lookupswitch.wp_chain, ho]
  exact ⟨hsrt, kt⟩
/-! returns -/
theorem Wp.ends {v : Option Value} (hc : cells ≤ R.cells) (hs : slots ≤ R.slots) (hq : Q v h) (hv : ret = none → v = none)
    (st : ∀ {p : Program} {e : Env} {s : State} {m : MethodId} {args : Array Value} {below : List Frame} {meth : Method} {c : Code} {T : State} {locs : List Loc}, Cx p s m meth c Z my B ml ret → Stand p l e R s m args below meth c T locs cells slots → ∀ fs, (∀ (f : JFrame) (acts : List Action), f.method = m → f.locked = none → f.entered = [] → (doReturn e (T.setTop f) acts v).1 = T.setFrames fs) → Steps p.tables e below (T.setTop (mkF m pc L S)) (T.setFrames fs)) : Wp l Z R my B ml ret n0 Q h cells slots pc L S := by
  intro p e s m args below meth c T locs K X eT N
  obtain ⟨fs, hr, hrun, hended, hW, hsame⟩ := X.leave (v := v) (fun q => hv (K.2.2.2.2.2.2.1.symm.trans q)) K.2.2.2.2.2.2.2
  refine ⟨_, _, st K X fs hr, hrun, hended, v, locs, rfl, ⟨?_, N⟩, ⟨v, rfl⟩, hW, hsame.mono hc hs⟩
  show Q v T.heap
  rw [eT]; exact hq
theorem Wp.retOut {v : Value} {t : FieldType} {i : Instr} (ht : ret = some t) (hn : narrow t v = v)
    (hi : (i = .ireturn ∧ (t = .int ∨ t = .boolean ∨ t = .byte ∨ t = .char ∨ t = .short) ∧ ∃ z, v = .int z) ∨ (i = .lreturn ∧ t = .long ∧ ∃ z, v = .long z) ∨ (i = .dreturn ∧ t = .double ∧ ∃ z, v = .double z) ∨ (i = .freturn ∧ t = .float ∧ ∃ z, v = .float z) ∨ (i = .areturn ∧ t.isReference = true ∧ v.isRef = true))
    (hd : decode B pc = .ok (i, 1)) (hc : cells ≤ R.cells) (hs : slots ≤ R.slots) (hq : Q (some v) h) : Wp l Z R my B ml ret n0 Q h cells slots pc L (v :: S) :=
  Wp.ends hc hs hq (fun q => by rw [ht] at q; cases q) (fun K X fs hl => RoadKit.retOut X K.1 (K.2.2.2.2.2.2.1.trans ht) hn hi (hb K.2.1 hd) hl)
theorem Wp.retI {z : Int32} (ht : ret = some .int) (hd : decode B pc = .ok (.ireturn, 1)) (hc : cells ≤ R.cells) (hs : slots ≤ R.slots) (hq : Q (some (.int z)) h) : Wp l Z R my B ml ret n0 Q h cells slots pc L (.int z :: S) :=
  Wp.retOut ht rfl (Or.inl ⟨rfl, Or.inl rfl, z, rfl⟩) hd hc hs hq
theorem Wp.retL {z : Int64} (ht : ret = some .long) (hd : decode B pc = .ok (.lreturn, 1)) (hc : cells ≤ R.cells) (hs : slots ≤ R.slots) (hq : Q (some (.long z)) h) : Wp l Z R my B ml ret n0 Q h cells slots pc L (.long z :: S) :=
  Wp.retOut ht rfl (Or.inr (Or.inl ⟨rfl, rfl, z, rfl⟩)) hd hc hs hq
/-- a boolean, byte, char or short, that is one already -/
theorem Wp.retS {z : Int32} {t : FieldType} (ht : ret = some t) (hk : t = .boolean ∨ t = .byte ∨ t = .char ∨ t = .short) (hn : narrow t (.int z) = .int z) (hd : decode B pc = .ok (.ireturn, 1)) (hc : cells ≤ R.cells) (hs : slots ≤ R.slots) (hq : Q (some (.int z)) h) : Wp l Z R my B ml ret n0 Q h cells slots pc L (.int z :: S) :=
  Wp.retOut ht hn (Or.inl ⟨rfl, Or.inr hk, z, rfl⟩) hd hc hs hq
theorem Wp.retA {v : Value} {t : FieldType} (ht : ret = some t) (htr : t.isReference = true) (hv : v.isRef = true) (hn : narrow t v = v) (hd : decode B pc = .ok (.areturn, 1)) (hc : cells ≤ R.cells) (hs : slots ≤ R.slots) (hq : Q (some v) h) : Wp l Z R my B ml ret n0 Q h cells slots pc L (v :: S) :=
  Wp.retOut ht hn (Or.inr (Or.inr (Or.inr (Or.inr ⟨rfl, htr, hv⟩)))) hd hc hs hq
theorem Wp.ret0 (ht : ret = none) (hd : decode B pc = .ok (.return_, 1)) (hc : cells ≤ R.cells) (hs : slots ≤ R.slots) (hq : Q none h) : Wp l Z R my B ml ret n0 Q h cells slots pc L [] :=
  Wp.ends hc hs hq (fun _ => rfl) (fun K X fs hl => X.returnOut K.1 (K.2.2.2.2.2.2.1.trans ht) (hb K.2.1 hd) hl)
/-! calls -/
theorem Wp.callS {yy : MethodName} {B' : ByteArray} {ml' : Nat} {ret' : Option FieldType} {rm : Room} {Q' : Option Value → Heap → Prop} {index pc' : Nat} {argsL S0 : List Value} {as : Array Value} (M : Met l Z yy B' ml' ret' rm as h n0 Q')
    (wl : (Jvm.Cond.methodLink my.cls index yy).before a0 Z = true) (ws : (Jvm.Cond.static yy).before a0 Z = true) (wi : (Jvm.Cond.initialized yy.cls).before a0 Z = true) (wc : (Jvm.Cond.code yy B' ml' ret').before a0 Z = true)
    (hy : yy.cls ≠ "java/lang/invoke/MethodHandle" ∧ yy.cls ≠ "java/lang/invoke/VarHandle") {W : Nat} (hsz : L.size = ml) (hlen : ∀ sig, parseMethodDescriptor yy.desc = some sig → argsL.length = sig.parameters.length) (hst : S0 = argsL.reverse ++ S) (has : argsL.toArray = as) (hW : (S.map fun v => v.category).sum ≤ W)
    (hf : rm.frames + 1 ≤ R.frames) (hl : W + (ml' + 11) + rm.locals ≤ R.locals) (hc : cells + rm.cells ≤ R.cells) (hs : slots + rm.slots ≤ R.slots) (hd : decode B pc = .ok (.invokestatic index, 3)) (hp : pc + 3 = pc')
    (r : ∀ v h', Q' v h' → Wp l Z R my B ml ret n0 Q h' (cells + rm.cells) (slots + rm.slots) pc' L (v.toList ++ S)) : Wp l Z R my B ml ret n0 Q h cells slots pc L S0 := by
  intro p e s m args below meth c T locs K X eT N
  subst hp hst
  have hZ := K.2.2.2.1
  obtain ⟨v, vm₁, ⟨T', L', k', n'⟩, -, X', ⟨Lc, hQ, l', y', z'⟩, st⟩ := Jvm.LawKit.callS X K.1 (y := yy) K.2.2.2.2.1 (mvT hZ wl) (mvT hZ ws) (mvT hZ wi) (mvT hZ wc) hy (backOf (W := W) (Q := fun v h L => Q' v h ∧ Fr n0 L) (M []) hZ wc wi hf hl) (g := mkF m pc L (argsL.reverse ++ S)) rfl (hsz.trans K.2.2.1.symm) (argsL := argsL) (rest := S) hlen rfl (by show 2 * 0 + _ ≤ _; rw [Nat.mul_zero, Nat.zero_add]; exact hW) (hb K.2.1 hd) (fun _ _ => ⟨has, eT, hc, hs⟩)
  dsimp only [Pt.U, Pt.locs, Pt.cells, Pt.slots] at X' l' y' z' st hQ
  subst l' y' z'
  obtain ⟨s₂, o, k1, k2⟩ := r v _ hQ.1 p e s m args below meth c T' _ K X' rfl (Fr.app N hQ.2)
  exact ⟨s₂, o, st _ k1, k2⟩
theorem Wp.callV {yy zz : MethodName} {B' : ByteArray} {ml' : Nat} {ret' : Option FieldType} {rm : Room} {Q' : Option Value → Heap → Prop} {index pc' : Nat} {argsL S0 : List Value} {as : Array Value} {a : Addr} {C : String} (M : Met l Z zz B' ml' ret' rm as h n0 Q') (E : Exa Z h a C)
    (wl : (Jvm.Cond.methodLink my.cls index yy).before a0 Z = true) (wd : (Jvm.Cond.declares yy).before a0 Z = true) (wse : (Jvm.Cond.selects C yy zz).before a0 Z = true) (wm : (Jvm.Cond.instanceMethod zz).before a0 Z = true) (wi : (Jvm.Cond.initialized zz.cls).before a0 Z = true) (wc : (Jvm.Cond.code zz B' ml' ret').before a0 Z = true)
    (nf : ∀ s : State, Z.Warmed39 s.vm → NotFace s yy)
    (hy : yy.cls ≠ "java/lang/invoke/MethodHandle" ∧ yy.cls ≠ "java/lang/invoke/VarHandle") {W : Nat} (hsz : L.size = ml) (hlen : ∀ sig, parseMethodDescriptor yy.desc = some sig → argsL.length = sig.parameters.length) (hst : S0 = argsL.reverse ++ .ref a :: S) (has : (.ref a :: argsL).toArray = as) (hW : (S.map fun v => v.category).sum ≤ W)
    (hf : rm.frames + 1 ≤ R.frames) (hl : W + (ml' + 11) + rm.locals ≤ R.locals) (hc : cells + rm.cells ≤ R.cells) (hs : slots + rm.slots ≤ R.slots) (hd : decode B pc = .ok (.invokevirtual index, 3)) (hp : pc + 3 = pc')
    (r : ∀ v h', Q' v h' → Wp l Z R my B ml ret n0 Q h' (cells + rm.cells) (slots + rm.slots) pc' L (v.toList ++ S)) : Wp l Z R my B ml ret n0 Q h cells slots pc L S0 := by
  intro p e s m args below meth c T locs K X eT N
  subst hp hst
  have hZ := K.2.2.2.1
  obtain ⟨cB, kB, q1, -, q3⟩ := isOf hZ eT E
  obtain ⟨v, vm₁, ⟨T', L', k', n'⟩, -, X', ⟨Lc, hQ, l', y', z'⟩, st⟩ := X.virtualBack K.1 (y := yy) (z := zz) K.2.2.2.2.1 (mvT hZ wl) (mvT hZ wd) (nf s hZ) (mvT hZ wse) (mvT hZ wm) hy (backOf (W := W) (Q := fun v h L => Q' v h ∧ Fr n0 L) (M []) hZ wc wi hf hl) q1 q3 (g := mkF m pc L (argsL.reverse ++ .ref a :: S)) rfl (hsz.trans K.2.2.1.symm) (Steps.refl _) (argsL := argsL) (rest := S) hlen rfl (by show 2 * 0 + _ ≤ _; rw [Nat.mul_zero, Nat.zero_add]; exact hW) (hb K.2.1 hd) (fun _ _ => ⟨has, eT, hc, hs⟩)
  dsimp only [Pt.U, Pt.locs, Pt.cells, Pt.slots] at X' l' y' z' st hQ
  subst l' y' z'
  obtain ⟨s₂, o, k1, k2⟩ := r v _ hQ.1 p e s m args below meth c T' _ K X' rfl (Fr.app N hQ.2)
  exact ⟨s₂, o, st.trans k1, k2⟩
theorem nfS {yy : MethodName} {C : String} (w : (Jvm.Cond.selects C yy yy).before a0 Z = true) : ∀ s : State, Z.Warmed39 s.vm → NotFace s yy := fun s hZ => notFace_of_selects (args := #[]) (mvT hZ w)
theorem Wp.callI {yy : MethodName} {B' : ByteArray} {ml' : Nat} {rm : Room} {Q' : Option Value → Heap → Prop} {index pc' : Nat} {argsL S0 : List Value} {as : Array Value} {a : Addr} (M : Met l Z yy B' ml' none rm as h n0 Q') (hin : yy.name = "<init>")
    (wl : (Jvm.Cond.methodLink my.cls index yy).before a0 Z = true) (wm : (Jvm.Cond.instanceMethod yy).before a0 Z = true) (wi : (Jvm.Cond.initialized yy.cls).before a0 Z = true) (wc : (Jvm.Cond.code yy B' ml' none).before a0 Z = true)
    (hy : yy.cls ≠ "java/lang/invoke/MethodHandle" ∧ yy.cls ≠ "java/lang/invoke/VarHandle") {W : Nat} (hsz : L.size = ml) (hlen : ∀ sig, parseMethodDescriptor yy.desc = some sig → argsL.length = sig.parameters.length) (hst : S0 = argsL.reverse ++ .ref a :: S) (has : (.ref a :: argsL).toArray = as) (hW : (S.map fun v => v.category).sum ≤ W)
    (hf : rm.frames + 1 ≤ R.frames) (hl : W + (ml' + 11) + rm.locals ≤ R.locals) (hc : cells + rm.cells ≤ R.cells) (hs : slots + rm.slots ≤ R.slots) (hd : decode B pc = .ok (.invokespecial index, 3)) (hp : pc + 3 = pc')
    (r : ∀ v h', Q' v h' → Wp l Z R my B ml ret n0 Q h' (cells + rm.cells) (slots + rm.slots) pc' L (v.toList ++ S)) : Wp l Z R my B ml ret n0 Q h cells slots pc L S0 := by
  intro p e s m args below meth c T locs K X eT N
  subst hp hst
  have hZ := K.2.2.2.1
  obtain ⟨v, vm₁, ⟨T', L', k', n'⟩, -, X', ⟨Lc, hQ, l', y', z'⟩, st⟩ := X.specialBack K.1 (y := yy) hin K.2.2.2.2.1 (mvT hZ wl) (mvT hZ wm) (mvT hZ wc) hy (backOf (W := W) (Q := fun v h L => Q' v h ∧ Fr n0 L) (M []) hZ wc wi hf hl) (g := mkF m pc L (argsL.reverse ++ .ref a :: S)) rfl (hsz.trans K.2.2.1.symm) (Steps.refl _) (a := a) (argsL := argsL) (rest := S) hlen rfl (by show 2 * 0 + _ ≤ _; rw [Nat.mul_zero, Nat.zero_add]; exact hW) (hb K.2.1 hd) (fun _ _ => ⟨has, eT, hc, hs⟩)
  dsimp only [Pt.U, Pt.locs, Pt.cells, Pt.slots] at X' l' y' z' st hQ
  subst l' y' z'
  obtain ⟨s₂, o, k1, k2⟩ := r v _ hQ.1 p e s m args below meth c T' _ K X' rfl (Fr.app N hQ.2)
  exact ⟨s₂, o, st.trans k1, k2⟩
theorem Wp.initO {a : Addr} {index pc' : Nat} (wl : (Jvm.Cond.methodLink my.cls index Lib.objectInit).before a0 Z = true) (wm : (Jvm.Cond.instanceMethod Lib.objectInit).before a0 Z = true) (wc : (Jvm.Cond.code Lib.objectInit ⟨#[0xb1]⟩ 1 none).before a0 Z = true) {W : Nat} (hsz : L.size = ml) (hW : (S.map fun v => v.category).sum ≤ W) (hf : 1 ≤ R.frames) (hl : W + 12 ≤ R.locals)
    (hd : decode B pc = .ok (.invokespecial index, 3)) (hp : pc + 3 = pc') (r : Wp l Z R my B ml ret n0 Q h cells slots pc' L S) : Wp l Z R my B ml ret n0 Q h cells slots pc L (.ref a :: S) := by
  subst hp
  refine Wp.moved (fun {p e s m args below meth c T locs} K X eT => ?_) r
  exact RoadKit.initO X K.1 K.2.2.2.1 K.2.2.2.2.1 wl wm wc eT (g := mkF m pc L (.ref a :: S)) rfl (hsz.trans K.2.2.1.symm) rfl (hb K.2.1 hd) hf (by show 2 * 0 + _ ≤ _; rw [Nat.mul_zero, Nat.zero_add]; exact hW) hl
end Base
/-! what is known of the heap: a list of places, no two the same, all new, with what each holds -/
def Hp (h : Heap) (n0 : Nat) (Ls : List (Addr × (Cell → Prop))) : Prop := n0 ≤ h.size ∧ Ls.Pairwise (fun x y => x.1 ≠ y.1) ∧ ∀ q ∈ Ls, n0 ≤ q.1 ∧ ∃ c, h[q.1]? = some c ∧ q.2 c
/-- an array: its type, its kind, all its values -/
def ArC (Z : State) (k : ClassId) (ty : FieldType) (vs : List Value) (c : Cell) : Prop := Z.isArrayOf c ty ∧ c.vm ≠ .unknown ∧ c.cls = k ∧ c.slots.toList = vs ∧ ∀ v ∈ vs, fits ty v = true
def FdC (Z : State) (C : String) (f : String × String × Value) (c : Cell) : Prop := ∃ (cf : ClassId) (k : Class) (i : Nat) (fd : Field), Z.fieldFound? C f.1 f.2.1 = some (cf, k, i, fd) ∧ fd.isStatic = false ∧ c.vm ≠ .unknown ∧ c.vm.isStatics = false ∧ Z.vm.assignable c.cls cf = true ∧ c.slots[fd.slot]? = some f.2.2
/-- an object: its type, the fields that are told -/
def ObC (Z : State) (a0 : Array Value) (C : String) (fs : List (String × String × Value)) (c : Cell) : Prop :=
  (∃ k : Class, Z.vm.findClass C = some c.cls ∧ Z.vm.classes[c.cls]? = some k ∧ c.vm.isStatics = false ∧ (k.kind = .ordinary → c.slots.size = k.instanceTypes.size)) ∧ ∀ f ∈ fs, FdC Z C f c ∧ Laid Z a0 C C f.1 f.2.1 ∧ ∃ t, parseFieldDescriptor f.2.1 = some t
section Heap
variable {l : Launch} {Z : State} {R : Room} {my : MethodName} {B : ByteArray} {ml : Nat} {ret : Option FieldType} {n0 : Nat} {Q : Option Value → Heap → Prop} {h h' : Heap} {cells slots pc : Nat} {L : Array Slot} {S : List Value} {a0 : Array Value} {a : Addr} {P P' : Cell → Prop} {Ls Ls' LA LB : List (Addr × (Cell → Prop))} {k : ClassId} {ty : FieldType} {vs : List Value} {C n d : String} {v : Value} {fs F1 F2 : List (String × String × Value)}
theorem Hp.nil (q : n0 ≤ h.size) : Hp h n0 [] := ⟨q, List.Pairwise.nil, fun _ z => nomatch z⟩
theorem Hp.at (O : Hp h n0 Ls) {i : Nat} (hi : Ls[i]? = some (a, P)) : n0 ≤ a ∧ ∃ c, h[a]? = some c ∧ P c := O.2.2 _ (List.mem_of_getElem? hi)
theorem Hp.perm (O : Hp h n0 Ls) (q : Ls.Perm Ls') : Hp h n0 Ls' :=
  ⟨O.1, (q.pairwise_iff (fun {x y} (hh : x.1 ≠ y.1) => Ne.symm hh)).mp O.2.1, fun z hz => O.2.2 z (q.mem_iff.mpr hz)⟩
theorem Hp.front {x : Addr × (Cell → Prop)} (O : Hp h n0 (LA ++ x :: LB)) : Hp h n0 (x :: (LA ++ LB)) := O.perm List.perm_middle
theorem Hp.back {x : Addr × (Cell → Prop)} (O : Hp h n0 (x :: (LA ++ LB))) : Hp h n0 (LA ++ x :: LB) := O.perm List.perm_middle.symm
theorem Hp.drop {x : Addr × (Cell → Prop)} (O : Hp h n0 (x :: Ls)) : Hp h n0 Ls := ⟨O.1, (List.pairwise_cons.mp O.2.1).2, fun z hz => O.2.2 z (List.mem_cons_of_mem _ hz)⟩
theorem Hp.weak (O : Hp h n0 (LA ++ (a, P) :: LB)) (hP : ∀ c, P c → P' c) : Hp h n0 (LA ++ (a, P') :: LB) := by
  obtain ⟨h1, h2, h3⟩ := O
  refine ⟨h1, ?_, fun q hq => ?_⟩
  · rw [List.pairwise_append, List.pairwise_cons] at h2 ⊢
    refine ⟨h2.1, h2.2.1, fun x hx z hz => ?_⟩
    rcases List.mem_cons.mp hz with rfl | hz
    · exact h2.2.2 x hx (a, P) (List.mem_cons_self ..)
    · exact h2.2.2 x hx z (List.mem_cons_of_mem _ hz)
  · rcases List.mem_append.mp hq with hq | hq
    · exact h3 q (List.mem_append_left _ hq)
    · rcases List.mem_cons.mp hq with rfl | hq
      · obtain ⟨u1, c, u2, u3⟩ := h3 (a, P) (List.mem_append_right _ (List.mem_cons_self ..))
        exact ⟨u1, c, u2, hP c u3⟩
      · exact h3 q (List.mem_append_right _ (List.mem_cons_of_mem _ hq))
theorem Hp.wr {sl : Nat} (O : Hp h n0 (LA ++ (a, P) :: LB)) (W : Wr h h' a sl v) (hP : ∀ c, P c → P' (c.setSlot sl v)) : Hp h' n0 (LA ++ (a, P') :: LB) := by
  obtain ⟨h1, h2, h3⟩ := O
  have h2' := h2
  rw [List.pairwise_append, List.pairwise_cons] at h2'
  refine ⟨by rw [W.size]; exact h1, ?_, fun q hq => ?_⟩
  · rw [List.pairwise_append, List.pairwise_cons]
    refine ⟨h2'.1, h2'.2.1, fun x hx z hz => ?_⟩
    rcases List.mem_cons.mp hz with rfl | hz
    · exact h2'.2.2 x hx (a, P) (List.mem_cons_self ..)
    · exact h2'.2.2 x hx z (List.mem_cons_of_mem _ hz)
  · rcases List.mem_append.mp hq with hq | hq
    · obtain ⟨u1, c, u2, u3⟩ := h3 q (List.mem_append_left _ hq)
      obtain ⟨c', w1, -, -, -, w5, -⟩ := wr_at W u2
      have ne : q.1 ≠ a := h2'.2.2 q hq (a, P) (List.mem_cons_self ..)
      exact ⟨u1, c', w1, by rw [w5 ne]; exact u3⟩
    · rcases List.mem_cons.mp hq with rfl | hq
      · obtain ⟨u1, c, u2, u3⟩ := h3 (a, P) (List.mem_append_right _ (List.mem_cons_self ..))
        obtain ⟨c', w1, -, -, -, -, -, w7⟩ := wr_at W u2
        exact ⟨u1, c', w1, by rw [(w7 rfl).1]; exact hP c u3⟩
      · obtain ⟨u1, c, u2, u3⟩ := h3 q (List.mem_append_right _ (List.mem_cons_of_mem _ hq))
        obtain ⟨c', w1, -, -, -, w5, -⟩ := wr_at W u2
        have ne : q.1 ≠ a := fun e => h2'.2.1.1 q hq e.symm
        exact ⟨u1, c', w1, by rw [w5 ne]; exact u3⟩
theorem Hp.new {c : Cell} (O : Hp h n0 Ls) (E : Ext h h') (hc : h'[h.size]? = some c) (hP : P c) : Hp h' n0 ((h.size, P) :: Ls) := by
  obtain ⟨h1, h2, h3⟩ := O
  refine ⟨Nat.le_trans h1 E.1, List.pairwise_cons.mpr ⟨fun q hq e => ?_, h2⟩, fun q hq => ?_⟩
  · obtain ⟨-, c', u2, -⟩ := h3 q hq
    have := (Array.getElem?_eq_some_iff.mp u2).1
    have e' : h.size = q.1 := e
    omega
  · rcases List.mem_cons.mp hq with rfl | hq
    · exact ⟨h1, c, hc, hP⟩
    · obtain ⟨u1, c', u2, u3⟩ := h3 q hq
      exact ⟨u1, c', E.2 _ _ u2, u3⟩
theorem Hp.ne {i j : Nat} {b : Addr} (O : Hp h n0 Ls) (hi : Ls[i]? = some (a, P)) (hj : Ls[j]? = some (b, P')) (hij : i ≠ j) : a ≠ b := by
  obtain ⟨i1, e1⟩ := List.getElem?_eq_some_iff.mp hi
  obtain ⟨j1, e2⟩ := List.getElem?_eq_some_iff.mp hj
  have q := List.pairwise_iff_getElem.mp O.2.1
  rcases Nat.lt_or_gt_of_ne hij with u | u
  · have := q i j i1 j1 u
    rw [e1, e2] at this; exact this
  · have := q j i j1 i1 u
    rw [e1, e2] at this; exact Ne.symm this
theorem ArC.arr {c : Cell} (H : ArC Z k ty vs c) (hc : h[a]? = some c) : Arr Z h a c ty := ⟨hc, H.1, H.2.1⟩
theorem ArC.size {c : Cell} (H : ArC Z k ty vs c) : c.slots.size = vs.length := by rw [← H.2.2.2.1]; simp
theorem ArC.get {c : Cell} (H : ArC Z k ty vs c) (j : Nat) : c.slots[j]? = vs[j]? := by rw [← H.2.2.2.1]; simp
theorem ArC.set {c : Cell} (H : ArC Z k ty vs c) (j : Nat) (hv : fits ty v = true) : ArC Z k ty (vs.set j v) (c.setSlot j v) := by
  refine ⟨H.1, H.2.1, H.2.2.1, ?_, fun w hw => ?_⟩
  · rw [← H.2.2.2.1]; simp [Cell.setSlot]
  · rcases List.mem_or_eq_of_mem_set hw with q | rfl
    · exact H.2.2.2.2 w q
    · exact hv
theorem in_of {c : Cell} {j : Int32} {jn : Nat} (H : ArC Z k ty vs c) (hj : ¬ j < 0) (hjn : j.toNatClampNeg = jn) (hl : jn < vs.length) : ¬ (j < 0 ∨ c.slots.size ≤ j.toNatClampNeg) := by
  rw [H.size, hjn]; exact fun q => q.elim hj (fun q => by omega)
theorem default_fits (ty : FieldType) : fits ty (defaultValue ty) = true := by cases ty <;> rfl
/-! arrays -/
theorem Wp.newarr {aty : ArrayType} {nn : Int32} {m pc' cap : Nat} (O : Hp h n0 Ls) (w : (Jvm.Cond.arrayClass (newarray.typeOf aty)).before a0 Z = true) (hd : decode B pc = .ok (.newarray aty, 2)) (hn : ¬ nn < 0) (hm : nn.toNatClampNeg = m) (hcap : m ≤ cap) (hb' : cap * 8 ≤ 536870912) (hc : cells + 1 ≤ R.cells) (hl : slots + cap ≤ R.slots) (hp : pc + 2 = pc')
    (r : ∀ h' a k, Hp h' n0 ((a, ArC Z k (newarray.typeOf aty) (List.replicate m (defaultValue (newarray.typeOf aty)))) :: Ls) → Wp l Z R my B ml ret n0 Q h' (cells + 1) (slots + cap) pc' L (.ref a :: S)) : Wp l Z R my B ml ret n0 Q h cells slots pc L (.int nn :: S) := by
  intro p e s m' args below meth c T locs K X eT N
  subst hp hm
  obtain ⟨T', h', cA, X', e', E, A, st⟩ := RoadKit.newP X K.1 K.2.2.2.1 w eT (g := mkF m' pc L (.int nn :: S)) rfl (hb K.2.1 hd) rfl hn hcap hb' hc hl
  have O' : Hp h' n0 ((h.size, ArC Z cA (newarray.typeOf aty) (List.replicate nn.toNatClampNeg (defaultValue (newarray.typeOf aty)))) :: Ls) := O.new E A.1 ⟨A.2.1, A.2.2, rfl, by simp [newA], fun v hv => by rw [List.eq_of_mem_replicate hv]; exact default_fits _⟩
  obtain ⟨s₂, o, k1, k2⟩ := r h' h.size cA O' p e s m' args below meth c T' locs K X' e' N
  exact ⟨s₂, o, st _ k1, k2⟩
theorem Wp.arrlen {i pc' : Nat} {z : Int32} (O : Hp h n0 Ls) (hi : Ls[i]? = some (a, ArC Z k ty vs)) (hd : decode B pc = .ok (.arraylength, 1)) (hz : vs.length.toInt32 = z) (hp : pc + 1 = pc') (r : Wp l Z R my B ml ret n0 Q h cells slots pc' L (.int z :: S)) : Wp l Z R my B ml ret n0 Q h cells slots pc L (.ref a :: S) := by
  subst hp hz
  obtain ⟨-, c, hc, H⟩ := O.at hi
  refine Wp.plain (fun {p e s m args below meth c' T locs} K X eT target kt => ?_) r
  refine X.arraylength K.1 (cell := c) (by rw [eT]; exact hc) (State.isArrayOf_alike K.2.2.2.1.alike H.1) (g := mkF m pc L (.ref a :: S)) rfl (rest := S) rfl (hb K.2.1 hd) target ?_
  rw [H.size]; exact kt
theorem Wp.iaload {i pc' jn : Nat} {j : Int32} (O : Hp h n0 Ls) (hi : Ls[i]? = some (a, ArC Z k .int vs)) (hd : decode B pc = .ok (.iaload, 1)) (hj : ¬ j < 0) (hjn : j.toNatClampNeg = jn) (hv : vs[jn]? = some v) (hp : pc + 1 = pc') (r : Wp l Z R my B ml ret n0 Q h cells slots pc' L (v :: S)) : Wp l Z R my B ml ret n0 Q h cells slots pc L (.int j :: .ref a :: S) := by
  subst hp
  obtain ⟨-, c, hc, H⟩ := O.at hi
  have hl : jn < vs.length := (List.getElem?_eq_some_iff.mp hv).1
  refine Wp.plain (fun {p e s m args below meth c' T locs} K X eT target kt => ?_) r
  exact X.iaload K.1 (cell := c) (j := j) (v := v) (by rw [eT]; exact hc) (State.isArrayOf_alike K.2.2.2.1.alike H.1) H.2.1 (in_of H hj hjn hl) (by rw [H.get, hjn]; exact hv) (g := mkF m pc L (.int j :: .ref a :: S)) rfl rfl (hb K.2.1 hd) target kt
theorem Wp.laload {i pc' jn : Nat} {j : Int32} (O : Hp h n0 Ls) (hi : Ls[i]? = some (a, ArC Z k .long vs)) (hd : decode B pc = .ok (.laload, 1)) (hj : ¬ j < 0) (hjn : j.toNatClampNeg = jn) (hv : vs[jn]? = some v) (hp : pc + 1 = pc') (r : Wp l Z R my B ml ret n0 Q h cells slots pc' L (v :: S)) : Wp l Z R my B ml ret n0 Q h cells slots pc L (.int j :: .ref a :: S) := by
  subst hp
  obtain ⟨-, c, hc, H⟩ := O.at hi
  have hl : jn < vs.length := (List.getElem?_eq_some_iff.mp hv).1
  refine Wp.plain (fun {p e s m args below meth c' T locs} K X eT target kt => ?_) r
  exact X.laload K.1 (cell := c) (j := j) (v := v) (by rw [eT]; exact hc) (State.isArrayOf_alike K.2.2.2.1.alike H.1) H.2.1 (in_of H hj hjn hl) (by rw [H.get, hjn]; exact hv) (g := mkF m pc L (.int j :: .ref a :: S)) rfl rfl (hb K.2.1 hd) target kt
theorem Wp.caload {i pc' jn : Nat} {j : Int32} (O : Hp h n0 Ls) (hi : Ls[i]? = some (a, ArC Z k .char vs)) (hd : decode B pc = .ok (.caload, 1)) (hj : ¬ j < 0) (hjn : j.toNatClampNeg = jn) (hv : vs[jn]? = some v) (hp : pc + 1 = pc') (r : Wp l Z R my B ml ret n0 Q h cells slots pc' L (v :: S)) : Wp l Z R my B ml ret n0 Q h cells slots pc L (.int j :: .ref a :: S) := by
  subst hp
  obtain ⟨-, c, hc, H⟩ := O.at hi
  have hl : jn < vs.length := (List.getElem?_eq_some_iff.mp hv).1
  refine Wp.plain (fun {p e s m args below meth c' T locs} K X eT target kt => ?_) r
  exact X.caload K.1 (cell := c) (j := j) (v := v) (by rw [eT]; exact hc) (State.isArrayOf_alike K.2.2.2.1.alike H.1) H.2.1 (in_of H hj hjn hl) (by rw [H.get, hjn]; exact hv) (g := mkF m pc L (.int j :: .ref a :: S)) rfl rfl (hb K.2.1 hd) target kt
theorem Wp.baload {i pc' jn : Nat} {j : Int32} (O : Hp h n0 Ls) (hi : Ls[i]? = some (a, ArC Z k .byte vs)) (hd : decode B pc = .ok (.baload, 1)) (hj : ¬ j < 0) (hjn : j.toNatClampNeg = jn) (hv : vs[jn]? = some v) (hp : pc + 1 = pc') (r : Wp l Z R my B ml ret n0 Q h cells slots pc' L (v :: S)) : Wp l Z R my B ml ret n0 Q h cells slots pc L (.int j :: .ref a :: S) := by
  subst hp
  obtain ⟨-, c, hc, H⟩ := O.at hi
  have hl : jn < vs.length := (List.getElem?_eq_some_iff.mp hv).1
  refine Wp.plain (fun {p e s m args below meth c' T locs} K X eT target kt => ?_) r
  exact X.baloadBytes K.1 (cell := c) (j := j) (v := v) (by rw [eT]; exact hc) (State.isArrayOf_alike K.2.2.2.1.alike H.1) H.2.1 (in_of H hj hjn hl) (by rw [H.get, hjn]; exact hv) (g := mkF m pc L (.int j :: .ref a :: S)) rfl rfl (hb K.2.1 hd) target kt
theorem Wp.iastore {pc' jn : Nat} {j : Int32} {x : Int32} (O : Hp h n0 (LA ++ (a, ArC Z k .int vs) :: LB)) (hd : decode B pc = .ok (.iastore, 1)) (hj : ¬ j < 0) (hjn : j.toNatClampNeg = jn) (hl : jn < vs.length) (hp : pc + 1 = pc') (r : ∀ h', Hp h' n0 (LA ++ (a, ArC Z k .int (vs.set jn (.int x))) :: LB) → Wp l Z R my B ml ret n0 Q h' cells slots pc' L S) : Wp l Z R my B ml ret n0 Q h cells slots pc L (.int x :: .int j :: .ref a :: S) := by
  intro p e s m args below meth c' T locs K X eT N
  subst hp hjn
  obtain ⟨g0, c, hc, H⟩ := O.2.2 _ (List.mem_append_right _ (List.mem_cons_self ..))
  obtain ⟨T', h', X', e', W, st⟩ := RoadKit.stI X K.1 K.2.2.2.1 eT (H.arr hc) (j := j) (in_of H hj rfl hl) (g := mkF m pc L (.int x :: .int j :: .ref a :: S)) rfl rfl (hb K.2.1 hd)
  have O' := O.wr W (P' := ArC Z k .int (vs.set j.toNatClampNeg (.int x))) (fun c0 H0 => H0.set _ (rfl))
  obtain ⟨s₂, o, k1, k2⟩ := r h' O' p e s m args below meth c' T' _ K X' e' (Fr.snoc X' N g0)
  exact ⟨s₂, o, st _ k1, k2⟩
theorem Wp.lastore {pc' jn : Nat} {j : Int32} {x : Int64} (O : Hp h n0 (LA ++ (a, ArC Z k .long vs) :: LB)) (hd : decode B pc = .ok (.lastore, 1)) (hj : ¬ j < 0) (hjn : j.toNatClampNeg = jn) (hl : jn < vs.length) (hp : pc + 1 = pc') (r : ∀ h', Hp h' n0 (LA ++ (a, ArC Z k .long (vs.set jn (.long x))) :: LB) → Wp l Z R my B ml ret n0 Q h' cells slots pc' L S) : Wp l Z R my B ml ret n0 Q h cells slots pc L (.long x :: .int j :: .ref a :: S) := by
  intro p e s m args below meth c' T locs K X eT N
  subst hp hjn
  obtain ⟨g0, c, hc, H⟩ := O.2.2 _ (List.mem_append_right _ (List.mem_cons_self ..))
  obtain ⟨T', h', X', e', W, st⟩ := RoadKit.stJ X K.1 K.2.2.2.1 eT (H.arr hc) (j := j) (in_of H hj rfl hl) (g := mkF m pc L (.long x :: .int j :: .ref a :: S)) rfl rfl (hb K.2.1 hd)
  have O' := O.wr W (P' := ArC Z k .long (vs.set j.toNatClampNeg (.long x))) (fun c0 H0 => H0.set _ (rfl))
  obtain ⟨s₂, o, k1, k2⟩ := r h' O' p e s m args below meth c' T' _ K X' e' (Fr.snoc X' N g0)
  exact ⟨s₂, o, st _ k1, k2⟩
theorem Wp.castore {pc' jn : Nat} {j : Int32} {x : Int32} (O : Hp h n0 (LA ++ (a, ArC Z k .char vs) :: LB)) (hd : decode B pc = .ok (.castore, 1)) (hj : ¬ j < 0) (hjn : j.toNatClampNeg = jn) (hl : jn < vs.length) (hp : pc + 1 = pc') (r : ∀ h', Hp h' n0 (LA ++ (a, ArC Z k .char (vs.set jn (.int (nar .char x)))) :: LB) → Wp l Z R my B ml ret n0 Q h' cells slots pc' L S) : Wp l Z R my B ml ret n0 Q h cells slots pc L (.int x :: .int j :: .ref a :: S) := by
  intro p e s m args below meth c' T locs K X eT N
  subst hp hjn
  obtain ⟨g0, c, hc, H⟩ := O.2.2 _ (List.mem_append_right _ (List.mem_cons_self ..))
  obtain ⟨T', h', X', e', W, st⟩ := RoadKit.stC X K.1 K.2.2.2.1 eT (H.arr hc) (j := j) (in_of H hj rfl hl) (g := mkF m pc L (.int x :: .int j :: .ref a :: S)) rfl rfl (hb K.2.1 hd)
  have O' := O.wr W (P' := ArC Z k .char (vs.set j.toNatClampNeg (.int (nar .char x)))) (fun c0 H0 => H0.set _ (fits_nar_char x))
  obtain ⟨s₂, o, k1, k2⟩ := r h' O' p e s m args below meth c' T' _ K X' e' (Fr.snoc X' N g0)
  exact ⟨s₂, o, st _ k1, k2⟩
theorem Wp.bastore {pc' jn : Nat} {j : Int32} {x : Int32} (O : Hp h n0 (LA ++ (a, ArC Z k .byte vs) :: LB)) (hd : decode B pc = .ok (.bastore, 1)) (hj : ¬ j < 0) (hjn : j.toNatClampNeg = jn) (hl : jn < vs.length) (hp : pc + 1 = pc') (r : ∀ h', Hp h' n0 (LA ++ (a, ArC Z k .byte (vs.set jn (.int (nar .byte x)))) :: LB) → Wp l Z R my B ml ret n0 Q h' cells slots pc' L S) : Wp l Z R my B ml ret n0 Q h cells slots pc L (.int x :: .int j :: .ref a :: S) := by
  intro p e s m args below meth c' T locs K X eT N
  subst hp hjn
  obtain ⟨g0, c, hc, H⟩ := O.2.2 _ (List.mem_append_right _ (List.mem_cons_self ..))
  obtain ⟨T', h', X', e', W, st⟩ := RoadKit.stB X K.1 K.2.2.2.1 eT (H.arr hc) (j := j) (in_of H hj rfl hl) (g := mkF m pc L (.int x :: .int j :: .ref a :: S)) rfl rfl (hb K.2.1 hd)
  have O' := O.wr W (P' := ArC Z k .byte (vs.set j.toNatClampNeg (.int (nar .byte x)))) (fun c0 H0 => H0.set _ (fits_nar_byte x))
  obtain ⟨s₂, o, k1, k2⟩ := r h' O' p e s m args below meth c' T' _ K X' e' (Fr.snoc X' N g0)
  exact ⟨s₂, o, st _ k1, k2⟩
/-! objects -/
theorem FdC.fld {f : String × String × Value} {c : Cell} (F : FdC Z C f c) (hc : h[a]? = some c) : Fld Z h a C f.1 f.2.1 f.2.2 := by
  obtain ⟨cf, k, i, fd, h1, h2, h3, h4, h5, h6⟩ := F
  exact ⟨c, cf, k, i, fd, hc, h1, h2, h3, h4, h5, h6⟩
theorem ObC.exa {c : Cell} (H : ObC Z a0 C fs c) (hc : h[a]? = some c) : Exa Z h a C := by
  obtain ⟨⟨k, h1, h2, h3, h4⟩, -⟩ := H
  exact ⟨c, k, hc, h1, h2, h3, h4⟩
theorem Hp.exa {i : Nat} (O : Hp h n0 Ls) (hi : Ls[i]? = some (a, ObC Z a0 C fs)) : Exa Z h a C := by
  obtain ⟨-, c, hc, H⟩ := O.at hi
  exact H.exa hc
theorem Wp.newO {index nn pc' : Nat} (O : Hp h n0 Ls) (w : (Jvm.Cond.classLink my.cls index C).before a0 Z = true) (wi : (Jvm.Cond.instantiable C nn).before a0 Z = true) (wz : (Jvm.Cond.initialized C).before a0 Z = true) (fs : List (String × String × Value)) (hfs : ∀ f ∈ fs, Laid Z a0 C C f.1 f.2.1 ∧ ∃ t, parseFieldDescriptor f.2.1 = some t ∧ defaultValue t = f.2.2)
    (hd : decode B pc = .ok (.new index, 3)) (hc : cells + 1 ≤ R.cells) (hl : slots + nn ≤ R.slots) (hp : pc + 3 = pc') (r : ∀ h' a, Hp h' n0 ((a, ObC Z a0 C fs) :: Ls) → Wp l Z R my B ml ret n0 Q h' (cells + 1) (slots + nn) pc' L (.ref a :: S)) : Wp l Z R my B ml ret n0 Q h cells slots pc L S := by
  intro p e s m args below meth c' T locs K X eT N
  subst hp
  obtain ⟨T', h', X', e', E, A, D, -, st⟩ := RoadKit.newO X K.1 K.2.2.2.1 K.2.2.2.2.1 w wi wz eT (g := mkF m pc L S) rfl (hb K.2.1 hd) hc hl
  obtain ⟨c, kk, a1, a2, a3, a4, a5⟩ := A
  have O' : Hp h' n0 ((h.size, ObC Z a0 C fs) :: Ls) := O.new E a1 ⟨⟨kk, a2, a3, a4, a5⟩, fun f hf => by
    obtain ⟨q1, t, q2, q3⟩ := hfs f hf
    obtain ⟨c2, cf, k, i, fd, b1, b2, b3, b4, b5, b6, b7⟩ := D q1 q2
    cases a1.symm.trans b1
    exact ⟨⟨cf, k, i, fd, b2, b3, b4, b5, b6, by rw [← q3]; exact b7⟩, q1, t, q2⟩⟩
  obtain ⟨s₂, o, k1, k2⟩ := r h' h.size O' p e s m args below meth c' T' locs K X' e' N
  exact ⟨s₂, o, st _ k1, k2⟩
theorem Wp.getfield {i j index pc' : Nat} (O : Hp h n0 Ls) (hi : Ls[i]? = some (a, ObC Z a0 C fs)) (hj : fs[j]? = some (n, d, v)) (w : (Jvm.Cond.fieldLink my.cls index C n d).before a0 Z = true) (hd : decode B pc = .ok (.getfield index, 3)) (hp : pc + 3 = pc') (r : Wp l Z R my B ml ret n0 Q h cells slots pc' L (v :: S)) : Wp l Z R my B ml ret n0 Q h cells slots pc L (.ref a :: S) := by
  subst hp
  obtain ⟨-, c, hc, H⟩ := O.at hi
  have F := ((H.2 _ (List.mem_of_getElem? hj)).1).fld hc
  exact Wp.moved (fun {p e s m args below meth c' T locs} K X eT => RoadKit.getF X K.1 K.2.2.2.1 K.2.2.2.2.1 (host := "") (Or.inl w) Via.refl eT F (g := mkF m pc L (.ref a :: S)) rfl rfl (hb K.2.1 hd)) r
theorem Wp.putfield {index kk pc' : Nat} {old : Value} (O : Hp h n0 (LA ++ (a, ObC Z a0 C (F1 ++ (n, d, old) :: F2)) :: LB)) (w : (Jvm.Cond.fieldLink my.cls index C n d).before a0 Z = true) (Lw : (Jvm.Cond.lays C C n d).before a0 Z = true ∨ ((Jvm.Cond.laysFinal C C n d).before a0 Z = true ∧ my.cls = C ∧ my.name = "<init>")) (wi : (Jvm.Cond.instantiable C kk).before a0 Z = true)
    (hty : parseFieldDescriptor d = some ty) (hn : narrow ty v = v) (hf : fits ty v = true) (hne : ∀ f ∈ F1 ++ F2, f.1 ≠ n) (hd : decode B pc = .ok (.putfield index, 3)) (hp : pc + 3 = pc') (r : ∀ h', Hp h' n0 (LA ++ (a, ObC Z a0 C (F1 ++ (n, d, v) :: F2)) :: LB) → Wp l Z R my B ml ret n0 Q h' cells slots pc' L S) : Wp l Z R my B ml ret n0 Q h cells slots pc L (v :: .ref a :: S) := by
  intro p e s m args below meth c' T locs K X eT N
  subst hp
  obtain ⟨g0, c, hc, H⟩ := O.2.2 _ (List.mem_append_right _ (List.mem_cons_self ..))
  have Fm := H.2 (n, d, old) (List.mem_append_right _ (List.mem_cons_self ..))
  obtain ⟨T', h', X', e', W, st⟩ := RoadKit.putF X K.1 K.2.2.2.1 K.2.2.2.2.1 (host := "") (Or.inl w) Via.refl eT (Fm.1.fld hc) (H.exa hc) (Lw.imp id fun q => ⟨q.1, q.2.1, K.2.2.2.2.2.1.trans q.2.2⟩) wi hty hn hf (g := mkF m pc L (v :: .ref a :: S)) rfl rfl (hb K.2.1 hd)
  have O' := O.wr W (P' := ObC Z a0 C (F1 ++ (n, d, v) :: F2)) (fun c0 H0 => by
    obtain ⟨⟨k, h1, h2, h3, h4⟩, h5⟩ := H0
    refine ⟨⟨k, h1, h2, h3, fun q => by rw [sz_set]; exact h4 q⟩, fun f hf => ?_⟩
    have old' : ∀ f ∈ F1 ++ F2, FdC Z C f (c0.setSlot (RoadKit.slotOf Z C n d) v) ∧ Laid Z a0 C C f.1 f.2.1 ∧ ∃ t, parseFieldDescriptor f.2.1 = some t := fun f hf => by
      obtain ⟨⟨cf, kf, i, fd, b1, b2, b3, b4, b5, b6⟩, q1, t, q2⟩ := h5 f (by
        rcases List.mem_append.mp hf with u | u
        · exact List.mem_append_left _ u
        · exact List.mem_append_right _ (List.mem_cons_of_mem _ u))
      have ne := slot_ne q1 Fm.2.1 (hne f hf) q2 hty
      have es : RoadKit.slotOf Z C f.1 f.2.1 = fd.slot := by simp [RoadKit.slotOf, b1]
      refine ⟨⟨cf, kf, i, fd, b1, b2, b3, b4, b5, ?_⟩, q1, t, q2⟩
      show (c0.slots.setIfInBounds (RoadKit.slotOf Z C n d) v)[fd.slot]? = _
      rw [Array.getElem?_setIfInBounds_ne (by rw [← es]; exact Ne.symm ne)]; exact b6
    rcases List.mem_append.mp hf with u | u
    · exact old' f (List.mem_append_left _ u)
    · rcases List.mem_cons.mp u with rfl | u
      · obtain ⟨⟨cf, kf, i, fd, b1, b2, b3, b4, b5, b6⟩, q1, t, q2⟩ := h5 (n, d, old) (List.mem_append_right _ (List.mem_cons_self ..))
        have es : RoadKit.slotOf Z C n d = fd.slot := by
          have b1' : Z.fieldFound? C n d = some (cf, kf, i, fd) := b1
          simp [RoadKit.slotOf, b1']
        have hlt : fd.slot < c0.slots.size := (Array.getElem?_eq_some_iff.mp b6).1
        refine ⟨⟨cf, kf, i, fd, b1, b2, b3, b4, b5, ?_⟩, q1, t, q2⟩
        show (c0.slots.setIfInBounds (RoadKit.slotOf Z C n d) v)[fd.slot]? = _
        rw [es, Array.getElem?_setIfInBounds_self_of_lt hlt]
      · exact old' f (List.mem_append_right _ u))
  obtain ⟨s₂, o, k1, k2⟩ := r h' O' p e s m args below meth c' T' _ K X' e' (Fr.snoc X' N g0)
  exact ⟨s₂, o, st _ k1, k2⟩
end Heap
abbrev rmk (f c s w : Nat) : Room := { frames := f, cells := c, slots := s, locals := w }
end Jvm.OwnKit
namespace Jvm.Pilot.@@N@@
open Jvm Jvm.ClassFile Sem Op Lib Jvm.Free Jvm.Stand Jvm.LawKit Jvm.RoadKit Bundle Jvm.OwnKit Jvm.Pilot.@@N@@.Jvm.D

theorem d0_0 : decode method_3_code 0 = .ok (.iload_n 1, 1) := by decide +kernel
theorem d0_1 : decode method_3_code 1 = .ok (.iload_n 2, 1) := by decide +kernel
theorem d0_2 : decode method_3_code 2 = .ok (.if_icmp .lt 5, 3) := by decide +kernel
theorem d0_5 : decode method_3_code 5 = .ok (.lconst 0, 1) := by decide +kernel
theorem d0_6 : decode method_3_code 6 = .ok (.lreturn, 1) := by decide +kernel
theorem d0_7 : decode method_3_code 7 = .ok (.iload_n 0, 1) := by decide +kernel
theorem d0_8 : decode method_3_code 8 = .ok (.ifCond .ne 5, 3) := by decide +kernel
theorem d0_11 : decode method_3_code 11 = .ok (.lconst 0, 1) := by decide +kernel
theorem d0_12 : decode method_3_code 12 = .ok (.lreturn, 1) := by decide +kernel
theorem d0_13 : decode method_3_code 13 = .ok (.ldc2_w 16, 3) := by decide +kernel
theorem d0_16 : decode method_3_code 16 = .ok (.iload_n 0, 1) := by decide +kernel
theorem d0_17 : decode method_3_code 17 = .ok (.lshr, 1) := by decide +kernel
theorem d0_18 : decode method_3_code 18 = .ok (.lreturn, 1) := by decide +kernel
theorem d1_0 : decode prog_38_method_5_code 0 = .ok (.lconst 0, 1) := by decide +kernel
theorem d1_1 : decode prog_38_method_5_code 1 = .ok (.lstore_n 2, 1) := by decide +kernel
theorem d1_2 : decode prog_38_method_5_code 2 = .ok (.iconst 0, 1) := by decide +kernel
theorem d1_3 : decode prog_38_method_5_code 3 = .ok (.istore 4, 2) := by decide +kernel
theorem d1_5 : decode prog_38_method_5_code 5 = .ok (.iload 4, 2) := by decide +kernel
theorem d1_7 : decode prog_38_method_5_code 7 = .ok (.iload_n 1, 1) := by decide +kernel
theorem d1_8 : decode prog_38_method_5_code 8 = .ok (.if_icmp .ge 28, 3) := by decide +kernel
theorem d1_11 : decode prog_38_method_5_code 11 = .ok (.aload_n 0, 1) := by decide +kernel
theorem d1_12 : decode prog_38_method_5_code 12 = .ok (.iload 4, 2) := by decide +kernel
theorem d1_14 : decode prog_38_method_5_code 14 = .ok (.iaload, 1) := by decide +kernel
theorem d1_15 : decode prog_38_method_5_code 15 = .ok (.ifCond .eq 15, 3) := by decide +kernel
theorem d1_18 : decode prog_38_method_5_code 18 = .ok (.lload_n 2, 1) := by decide +kernel
theorem d1_19 : decode prog_38_method_5_code 19 = .ok (.lconst 1, 1) := by decide +kernel
theorem d1_20 : decode prog_38_method_5_code 20 = .ok (.bipush 15, 2) := by decide +kernel
theorem d1_22 : decode prog_38_method_5_code 22 = .ok (.aload_n 0, 1) := by decide +kernel
theorem d1_23 : decode prog_38_method_5_code 23 = .ok (.iload 4, 2) := by decide +kernel
theorem d1_25 : decode prog_38_method_5_code 25 = .ok (.iaload, 1) := by decide +kernel
theorem d1_26 : decode prog_38_method_5_code 26 = .ok (.isub, 1) := by decide +kernel
theorem d1_27 : decode prog_38_method_5_code 27 = .ok (.lshl, 1) := by decide +kernel
theorem d1_28 : decode prog_38_method_5_code 28 = .ok (.ladd, 1) := by decide +kernel
theorem d1_29 : decode prog_38_method_5_code 29 = .ok (.lstore_n 2, 1) := by decide +kernel
theorem d1_30 : decode prog_38_method_5_code 30 = .ok (.iinc 4 1, 3) := by decide +kernel
theorem d1_33 : decode prog_38_method_5_code 33 = .ok (.goto (-28), 3) := by decide +kernel
theorem d1_36 : decode prog_38_method_5_code 36 = .ok (.lload_n 2, 1) := by decide +kernel
theorem d1_37 : decode prog_38_method_5_code 37 = .ok (.ldc2_w 24, 3) := by decide +kernel
theorem d1_40 : decode prog_38_method_5_code 40 = .ok (.lcmp, 1) := by decide +kernel
theorem d1_41 : decode prog_38_method_5_code 41 = .ok (.ifCond .ne 7, 3) := by decide +kernel
theorem d1_44 : decode prog_38_method_5_code 44 = .ok (.iconst 1, 1) := by decide +kernel
theorem d1_45 : decode prog_38_method_5_code 45 = .ok (.goto 4, 3) := by decide +kernel
theorem d1_48 : decode prog_38_method_5_code 48 = .ok (.iconst 0, 1) := by decide +kernel
theorem d1_49 : decode prog_38_method_5_code 49 = .ok (.ireturn, 1) := by decide +kernel

theorem pn_c : plainName "com/example/keyed_tensor/keyedtensor/codec/DeflateCodes" = true := by first | (simp [plainName, overriddenIn]; done) | decide +kernel
theorem pn_l : plainName "com/example/keyed_tensor/keyedtensor/codec/DeflateCodesIsCompletePinLaw" = true := by first | (simp [plainName, overriddenIn]; done) | decide +kernel

theorem pd_0 : parseMethodDescriptor "(III)J" = some ⟨[.int, .int, .int], some .long⟩ := by decide +kernel
theorem pd_1 : parseMethodDescriptor "([II)Z" = some ⟨[(.array .int), .int], some .boolean⟩ := by decide +kernel

/-! small naturals as ints -/
theorem own_lt {i n : Nat} (hi : i < 2147483648) (hn : n < 2147483648) : (Int32.ofNat i < Int32.ofNat n) ↔ i < n := by
  rw [Int32.lt_iff_toInt_lt, Int32.toInt_ofNat_of_lt (by omega), Int32.toInt_ofNat_of_lt (by omega)]
  omega
theorem own_nn {n : Nat} (hn : n < 2147483648) : ¬ Int32.ofNat n < 0 := by
  rw [Int32.lt_iff_toInt_lt, Int32.toInt_ofNat_of_lt (by omega), show (0 : Int32).toInt = 0 from rfl]
  omega
theorem own_n32 {n : Nat} (hn : n < 2147483648) : (Int32.ofNat n).toNatClampNeg = n := by
  rw [Int32.toNatClampNeg, Int32.toInt_ofNat_of_lt (by omega)]; rfl
theorem own_inj {i n : Nat} (hi : i < 2147483648) (hn : n < 2147483648) : (Int32.ofNat i = Int32.ofNat n) ↔ i = n := by
  rw [← Int32.toInt_inj, Int32.toInt_ofNat_of_lt (by omega), Int32.toInt_ofNat_of_lt (by omega)]
  omega
theorem own_add (i j : Nat) : Int32.ofNat i + Int32.ofNat j = Int32.ofNat (i + j) := (Int32.ofNat_add i j).symm
theorem own_sub {i j : Nat} (h : j ≤ i) : Int32.ofNat i - Int32.ofNat j = Int32.ofNat (i - j) := by
  have e : Int32.ofNat i = Int32.ofNat (i - j) + Int32.ofNat j := by rw [own_add]; congr 1; omega
  rw [e, Int32.add_sub_cancel]
theorem own_one (i : Nat) : Int32.ofNat i + (1 : Int32) = Int32.ofNat (i + 1) := (Int32.ofNat_add i 1).symm
theorem own_toInt {n : Nat} (hn : n < 2147483648) : (Int32.ofNat n).toInt = n := Int32.toInt_ofNat_of_lt (by omega)
/-- an int that isn't negative is a natural -/
theorem own_nat {x : Int32} {b : Nat} (h0 : 0 ≤ x.toInt) (hb : x.toInt ≤ b) : ∃ n : Nat, n ≤ b ∧ n < 2147483648 ∧ x = Int32.ofNat n := by
  have := x.toInt_lt
  refine ⟨x.toInt.toNat, by omega, by omega, Int32.toInt_inj.mp ?_⟩
  rw [own_toInt (by omega)]; omega

def own_t (x : Int32) : Int64 := if x = 0 then 0 else (1 : Int64) <<< (((15 : Int32) - x).toInt64 &&& 63)
def own_term (x s c : Int32) : Int64 := if s < c then (if x = 0 then 0 else (32768 : Int64) >>> (x.toInt64 &&& 63)) else 0
def own_step (S : Int64) (x : Int32) : Int64 := if x = 0 then S else S + (1 : Int64) <<< (((15 : Int32) - x).toInt64 &&& 63)
def own_sum (f : Nat → Int32) : Nat → Nat → Int64 → Int64
  | 0, _, S => S
  | k + 1, i, S => own_sum f k (i + 1) (own_step S (f i))
def own_fin (S : Int64) : Int32 := if S = 32768 then 1 else 0
theorem own_stepT (S : Int64) (x : Int32) : own_step S x = S + own_t x := by
  unfold own_step own_t
  split <;> simp
theorem own_shift : ∀ m : Fin 16, (32768 : Int64) >>> ((Int32.ofNat m.val).toInt64 &&& 63) = (1 : Int64) <<< (((15 : Int32) - Int32.ofNat m.val).toInt64 &&& 63) := by decide +kernel
theorem own_termT {x s c : Int32} (h0 : 0 ≤ x.toInt) (h1 : x.toInt ≤ 15) : own_term x s c = if s < c then own_t x else 0 := by
  obtain ⟨m, hm, -, rfl⟩ := own_nat (b := 15) h0 h1
  unfold own_term own_t
  rw [own_shift ⟨m, by omega⟩]
def own_L (x0 x1 x2 x3 x4 x5 x6 x7 x8 x9 x10 x11 x12 x13 x14 x15 : Int32) (j : Nat) : Int32 := [x0, x1, x2, x3, x4, x5, x6, x7, x8, x9, x10, x11, x12, x13, x14, x15].getD j 0
theorem own_all (x0 x1 x2 x3 x4 x5 x6 x7 x8 x9 x10 x11 x12 x13 x14 x15 : Int32) (n : Nat) (hn : n ≤ 16)
    (h : ∀ x ∈ [x0, x1, x2, x3, x4, x5, x6, x7, x8, x9, x10, x11, x12, x13, x14, x15], 0 ≤ x.toInt ∧ x.toInt ≤ 15) (c : Int32) (hc : c = Int32.ofNat n) :
    own_term x0 0 c + own_term x1 1 c + own_term x2 2 c + own_term x3 3 c + own_term x4 4 c + own_term x5 5 c + own_term x6 6 c + own_term x7 7 c + own_term x8 8 c + own_term x9 9 c + own_term x10 10 c + own_term x11 11 c + own_term x12 12 c + own_term x13 13 c + own_term x14 14 c + own_term x15 15 c = own_sum (own_L x0 x1 x2 x3 x4 x5 x6 x7 x8 x9 x10 x11 x12 x13 x14 x15) n 0 0 := by
  simp only [List.mem_cons, forall_eq_or_imp, List.not_mem_nil, false_implies, implies_true, and_true] at h
  obtain ⟨h0, h1, h2, h3, h4, h5, h6, h7, h8, h9, h10, h11, h12, h13, h14, h15⟩ := h
  rw [own_termT h0.1 h0.2, own_termT h1.1 h1.2, own_termT h2.1 h2.2, own_termT h3.1 h3.2, own_termT h4.1 h4.2, own_termT h5.1 h5.2, own_termT h6.1 h6.2, own_termT h7.1 h7.2, own_termT h8.1 h8.2, own_termT h9.1 h9.2, own_termT h10.1 h10.2, own_termT h11.1 h11.2, own_termT h12.1 h12.2, own_termT h13.1 h13.2, own_termT h14.1 h14.2, own_termT h15.1 h15.2]
  subst hc
  have k : ∀ s : Nat, s < 16 → (Int32.ofNat s < Int32.ofNat n ↔ s < n) := fun s hs => own_lt (by omega) (by omega)
  have k0 := k 0 (by omega)
  have k1 := k 1 (by omega)
  have k2 := k 2 (by omega)
  have k3 := k 3 (by omega)
  have k4 := k 4 (by omega)
  have k5 := k 5 (by omega)
  have k6 := k 6 (by omega)
  have k7 := k 7 (by omega)
  have k8 := k 8 (by omega)
  have k9 := k 9 (by omega)
  have k10 := k 10 (by omega)
  have k11 := k 11 (by omega)
  have k12 := k 12 (by omega)
  have k13 := k 13 (by omega)
  have k14 := k 14 (by omega)
  have k15 := k 15 (by omega)
  simp only [show (0 : Int32) = Int32.ofNat 0 from rfl, show (1 : Int32) = Int32.ofNat 1 from rfl, show (2 : Int32) = Int32.ofNat 2 from rfl, show (3 : Int32) = Int32.ofNat 3 from rfl, show (4 : Int32) = Int32.ofNat 4 from rfl, show (5 : Int32) = Int32.ofNat 5 from rfl, show (6 : Int32) = Int32.ofNat 6 from rfl, show (7 : Int32) = Int32.ofNat 7 from rfl, show (8 : Int32) = Int32.ofNat 8 from rfl, show (9 : Int32) = Int32.ofNat 9 from rfl, show (10 : Int32) = Int32.ofNat 10 from rfl, show (11 : Int32) = Int32.ofNat 11 from rfl, show (12 : Int32) = Int32.ofNat 12 from rfl, show (13 : Int32) = Int32.ofNat 13 from rfl, show (14 : Int32) = Int32.ofNat 14 from rfl, show (15 : Int32) = Int32.ofNat 15 from rfl, k0, k1, k2, k3, k4, k5, k6, k7, k8, k9, k10, k11, k12, k13, k14, k15]
  have hh : n = 0 ∨ n = 1 ∨ n = 2 ∨ n = 3 ∨ n = 4 ∨ n = 5 ∨ n = 6 ∨ n = 7 ∨ n = 8 ∨ n = 9 ∨ n = 10 ∨ n = 11 ∨ n = 12 ∨ n = 13 ∨ n = 14 ∨ n = 15 ∨ n = 16 := by omega
  rcases hh with rfl | rfl | rfl | rfl | rfl | rfl | rfl | rfl | rfl | rfl | rfl | rfl | rfl | rfl | rfl | rfl | rfl
  all_goals simp [own_sum, own_stepT, own_L]

theorem own_get (x0 x1 x2 x3 x4 x5 x6 x7 x8 x9 x10 x11 x12 x13 x14 x15 : Int32) (n : Nat) (hn : n ≤ 16) : ∀ j, j < n → ([(.int x0), (.int x1), (.int x2), (.int x3), (.int x4), (.int x5), (.int x6), (.int x7), (.int x8), (.int x9), (.int x10), (.int x11), (.int x12), (.int x13), (.int x14), (.int x15)] : List Value)[j]? = some (.int (own_L x0 x1 x2 x3 x4 x5 x6 x7 x8 x9 x10 x11 x12 x13 x14 x15 j)) := by
  intro j hj
  have hh : j = 0 ∨ j = 1 ∨ j = 2 ∨ j = 3 ∨ j = 4 ∨ j = 5 ∨ j = 6 ∨ j = 7 ∨ j = 8 ∨ j = 9 ∨ j = 10 ∨ j = 11 ∨ j = 12 ∨ j = 13 ∨ j = 14 ∨ j = 15 := by omega
  rcases hh with rfl | rfl | rfl | rfl | rfl | rfl | rfl | rfl | rfl | rfl | rfl | rfl | rfl | rfl | rfl | rfl
  all_goals rfl
theorem own_cnt (x : Int32) : 0 ≤ ((x &&& (2147483647 : Int32)) % (17 : Int32)).toInt ∧ ((x &&& (2147483647 : Int32)) % (17 : Int32)).toInt ≤ (16 : Nat) := by
  have h1 := c_and x 2147483647 (by decide)
  have h2 := (c_irem (x &&& 2147483647) 17 17 rfl).1 h1.1
  omega
theorem own_nib (x : Int64) : 0 ≤ (x &&& (15 : Int64)).toInt32.toInt ∧ (x &&& (15 : Int64)).toInt32.toInt ≤ 15 := by
  have h1 := c_maskL x 15 4 (by decide) (by decide)
  have h2 := c_l2i (x &&& 15)
  have h3 := rng32 (x &&& 15).toInt32
  omega

set_option maxRecDepth 65536 in
set_option maxHeartbeats 40000000 in
theorem rm_t (l : Launch) (Z : State) (a0 : Array Value) (hw : ∀ d ∈ tables_1, d.before a0 Z = true) (x s c : Int32) (h : Heap) (n0 : Nat)  :
    Met l Z (⟨"com/example/keyed_tensor/keyedtensor/codec/DeflateCodesIsCompletePinLaw", "term", "(III)J"⟩ : MethodName) method_3_code 3 (some .long) (rmk 0 0 0 0) #[(.int x), (.int s), (.int c)] h n0 (fun v h' => v = some (.long (own_term x s c)) ∧ h = h') := by
  refine Met.of (L0 := #[.val (.int x), .val (.int s), .val (.int c)]) pn_l (fun m => rfl) ?_
  refine Wp.iloadN (pc' := 1) d0_0 rfl rfl ?_
  refine Wp.iloadN (pc' := 2) d0_1 rfl rfl ?_
  by_cases c2 : s < c
  · refine Wp.icmpY (pc' := 7) d0_2 c2 (by decide) (by decide) ?_
    refine Wp.iloadN (pc' := 8) d0_7 rfl rfl ?_
    by_cases c8 : x = 0
    · refine Wp.ifN (pc' := 11) d0_8 (not_not_intro c8) rfl ?_
      refine Wp.lconst (z := (0 : Int64)) (pc' := 12) d0_11 (by decide) rfl ?_
      exact Wp.retL rfl d0_12 (by decide) (by decide) ⟨by simp [own_term, *], rfl⟩
    · refine Wp.ifY (pc' := 13) d0_8 c8 (by decide) (by decide) ?_
      refine Wp.ldc2Long (v := (32768 : Int64)) (pc' := 16) (hw _ (List.mem_of_getElem? (i := 7) rfl)) d0_13 rfl ?_
      refine Wp.iloadN (pc' := 17) d0_16 rfl rfl ?_
      refine Wp.lshr (z := ((32768 : Int64) >>> (x.toInt64 &&& 63))) (pc' := 18) d0_17 rfl rfl ?_
      exact Wp.retL rfl d0_18 (by decide) (by decide) ⟨by simp [own_term, *], rfl⟩
  · refine Wp.icmpN (pc' := 5) d0_2 c2 rfl ?_
    refine Wp.lconst (z := (0 : Int64)) (pc' := 6) d0_5 (by decide) rfl ?_
    exact Wp.retL rfl d0_6 (by decide) (by decide) ⟨by simp [own_term, *], rfl⟩

set_option maxRecDepth 65536 in
set_option maxHeartbeats 40000000 in
theorem lp (l : Launch) (Z : State) (a0 : Array Value) (hw : ∀ d ∈ tables_1, d.before a0 Z = true) (a : Addr) (k : ClassId) (vs : List Value) (f : Nat → Int32) (n : Nat) (hn : n ≤ 16) (h : Heap) (n0 : Nat) {Ls : List (Addr × (Cell → Prop))} (O : Hp h n0 ((a, ArC Z k .int vs) :: Ls)) (hf : ∀ j, j < n → vs[j]? = some (.int (f j))) :
    ∀ (kk i : Nat) (S : Int64), i + kk = n → Wp l Z (rmk 0 0 0 0) (⟨"com/example/keyed_tensor/keyedtensor/codec/DeflateCodes", "isComplete", "([II)Z"⟩ : MethodName) prog_38_method_5_code 5 (some .boolean) n0 (fun v h' => v = some (.int (own_fin (own_sum f kk i S))) ∧ h = h') h 0 0 5 #[.val (.ref a), .val (.int (Int32.ofNat n)), .val (.long S), .second, .val (.int (Int32.ofNat i))] [] := by
  intro kk
  induction kk with
  | zero =>
    intro i S hi
    refine Wp.iload (pc' := 7) d1_5 rfl rfl ?_
    refine Wp.iloadN (pc' := 8) d1_7 rfl rfl ?_
    refine Wp.icmpY (pc' := 36) d1_8 (fun q => by rw [own_lt (by omega) (by omega)] at q; omega) (by decide) (by decide) ?_
    refine Wp.lloadN (pc' := 37) d1_36 rfl rfl ?_
    refine Wp.ldc2Long (v := (32768 : Int64)) (pc' := 40) (hw _ (List.mem_of_getElem? (i := 12) rfl)) d1_37 rfl ?_
    by_cases c40 : S = (32768 : Int64)
    · refine Wp.lcmpN (pc' := 44) (p1 := 41) d1_40 rfl d1_41 (not_not_intro c40) rfl ?_
      refine Wp.iconst (z := (1 : Int32)) (pc' := 45) d1_44 (by decide) rfl ?_
      refine Wp.goto (pc' := 49) d1_45 (by decide) (by decide) ?_
      exact Wp.retS (t := .boolean) rfl (Or.inl rfl) rfl d1_49 (by decide) (by decide) ⟨by simp [own_fin, own_sum, *], rfl⟩
    · refine Wp.lcmpY (pc' := 48) (p1 := 41) d1_40 rfl d1_41 c40 (by decide) (by decide) ?_
      refine Wp.iconst (z := (0 : Int32)) (pc' := 49) d1_48 (by decide) rfl ?_
      exact Wp.retS (t := .boolean) rfl (Or.inl rfl) rfl d1_49 (by decide) (by decide) ⟨by simp [own_fin, own_sum, *], rfl⟩
  | succ kk ih =>
    intro i S hi
    refine Wp.iload (pc' := 7) d1_5 rfl rfl ?_
    refine Wp.iloadN (pc' := 8) d1_7 rfl rfl ?_
    refine Wp.icmpN (pc' := 11) d1_8 (not_not_intro ((own_lt (by omega) (by omega)).mpr (by omega))) rfl ?_
    refine Wp.aloadN (pc' := 12) d1_11 rfl rfl rfl ?_
    refine Wp.iload (pc' := 14) d1_12 rfl rfl ?_
    refine Wp.iaload (i := 0) (jn := i) (v := (.int (f i))) (pc' := 15) O rfl d1_14 (own_nn (by omega)) (own_n32 (by omega)) (hf i (by omega)) rfl ?_
    by_cases c15 : (f i) = 0
    · refine Wp.ifY (pc' := 30) d1_15 c15 (by decide) (by decide) ?_
      refine Wp.iinc (z := (Int32.ofNat (i + 1))) (L' := #[.val (.ref a), .val (.int (Int32.ofNat n)), .val (.long S), .second, .val (.int (Int32.ofNat (i + 1)))]) (pc' := 33) d1_30 rfl (own_one i) rfl rfl ?_
      refine Wp.goto (pc' := 5) d1_33 (by decide) (by decide) ?_
      have q := ih (i + 1) (own_step S (f i)) (by omega)
      rw [show own_step S (f i) = S from if_pos c15] at q
      rw [show own_sum f (kk + 1) i S = own_sum f kk (i + 1) (own_step S (f i)) from rfl, show own_step S (f i) = S from if_pos c15]
      exact q
    · refine Wp.ifN (pc' := 18) d1_15 c15 rfl ?_
      refine Wp.lloadN (pc' := 19) d1_18 rfl rfl ?_
      refine Wp.lconst (z := (1 : Int64)) (pc' := 20) d1_19 (by decide) rfl ?_
      refine Wp.bipush (z := (15 : Int32)) (pc' := 22) d1_20 (by decide) rfl ?_
      refine Wp.aloadN (pc' := 23) d1_22 rfl rfl rfl ?_
      refine Wp.iload (pc' := 25) d1_23 rfl rfl ?_
      refine Wp.iaload (i := 0) (jn := i) (v := (.int (f i))) (pc' := 26) O rfl d1_25 (own_nn (by omega)) (own_n32 (by omega)) (hf i (by omega)) rfl ?_
      refine Wp.isub (z := ((15 : Int32) - (f i))) (pc' := 27) d1_26 rfl rfl ?_
      refine Wp.lshl (z := ((1 : Int64) <<< (((15 : Int32) - (f i)).toInt64 &&& 63))) (pc' := 28) d1_27 rfl rfl ?_
      refine Wp.ladd (z := (S + ((1 : Int64) <<< (((15 : Int32) - (f i)).toInt64 &&& 63)))) (pc' := 29) d1_28 rfl rfl ?_
      refine Wp.lstoreN (L' := #[.val (.ref a), .val (.int (Int32.ofNat n)), .val (.long (S + ((1 : Int64) <<< (((15 : Int32) - (f i)).toInt64 &&& 63)))), .second, .val (.int (Int32.ofNat i))]) (pc' := 30) d1_29 rfl rfl ?_
      refine Wp.iinc (z := (Int32.ofNat (i + 1))) (L' := #[.val (.ref a), .val (.int (Int32.ofNat n)), .val (.long (S + ((1 : Int64) <<< (((15 : Int32) - (f i)).toInt64 &&& 63)))), .second, .val (.int (Int32.ofNat (i + 1)))]) (pc' := 33) d1_30 rfl (own_one i) rfl rfl ?_
      refine Wp.goto (pc' := 5) d1_33 (by decide) (by decide) ?_
      have q := ih (i + 1) (own_step S (f i)) (by omega)
      rw [show own_step S (f i) = (S + (1 : Int64) <<< (((15 : Int32) - (f i)).toInt64 &&& 63)) from if_neg c15] at q
      rw [show own_sum f (kk + 1) i S = own_sum f kk (i + 1) (own_step S (f i)) from rfl, show own_step S (f i) = (S + (1 : Int64) <<< (((15 : Int32) - (f i)).toInt64 &&& 63)) from if_neg c15]
      exact q

set_option maxRecDepth 65536 in
set_option maxHeartbeats 40000000 in
theorem rm_c (l : Launch) (Z : State) (a0 : Array Value) (hw : ∀ d ∈ tables_1, d.before a0 Z = true) (a : Addr) (k : ClassId) (vs : List Value) (f : Nat → Int32) (n : Nat) (hn : n ≤ 16) (h : Heap) (n0 : Nat) {Ls : List (Addr × (Cell → Prop))} (O : Hp h n0 ((a, ArC Z k .int vs) :: Ls)) (hf : ∀ j, j < n → vs[j]? = some (.int (f j))) :
    Met l Z (⟨"com/example/keyed_tensor/keyedtensor/codec/DeflateCodes", "isComplete", "([II)Z"⟩ : MethodName) prog_38_method_5_code 5 (some .boolean) (rmk 0 0 0 0) #[(.ref a), (.int (Int32.ofNat n))] h n0 (fun v h' => v = some (.int (own_fin (own_sum f n 0 0))) ∧ h = h') := by
  refine Met.of (L0 := #[.val (.ref a), .val (.int (Int32.ofNat n)), .unset, .unset, .unset]) pn_c (fun m => rfl) ?_
  refine Wp.lconst (z := (0 : Int64)) (pc' := 1) d1_0 (by decide) rfl ?_
  refine Wp.lstoreN (L' := #[.val (.ref a), .val (.int (Int32.ofNat n)), .val (.long (0 : Int64)), .second, .unset]) (pc' := 2) d1_1 rfl rfl ?_
  refine Wp.iconst (z := (0 : Int32)) (pc' := 3) d1_2 (by decide) rfl ?_
  refine Wp.istore (L' := #[.val (.ref a), .val (.int (Int32.ofNat n)), .val (.long (0 : Int64)), .second, .val (.int (0 : Int32))]) (pc' := 5) d1_3 rfl rfl ?_
  exact lp l Z a0 hw a k vs f n hn h n0 O hf n 0 0 (by omega)

set_option maxRecDepth 65536 in
set_option maxHeartbeats 40000000 in
theorem rm0 (l : Launch) (Z : State) (a0 : Array Value) (hw : ∀ d ∈ tables_1, d.before a0 Z = true) (p0 : Int64) (p1 : Int32) (h : Heap) (n0 : Nat) (Z0 : n0 ≤ h.size) :
    Met l Z x code maxLocals ret room_1 #[(.long p0), (.int p1)] h n0 (fun v _ => v = some (.int 1)) := by
  refine Met.of (L0 := #[.val (.long p0), .second, .val (.int p1), .unset, .unset, .unset, .unset, .unset]) pn_l (fun m => rfl) ?_
  have O : Hp h n0 [] := Hp.nil Z0
  refine Wp.iloadN (pc' := 1) at_0 rfl rfl ?_
  refine Wp.ldcInt (v := (2147483647 : Int32)) (pc' := 3) (hw _ (List.mem_of_getElem? (i := 0) rfl)) at_1 rfl ?_
  refine Wp.iand (z := (p1 &&& (2147483647 : Int32))) (pc' := 4) at_3 rfl rfl ?_
  refine Wp.bipush (z := (17 : Int32)) (pc' := 6) at_4 (by decide) rfl ?_
  obtain ⟨n, hn, -, hc⟩ := own_nat (b := 16) (own_cnt p1).1 (own_cnt p1).2
  refine Wp.irem (z := (Int32.ofNat n)) (pc' := 7) at_6 (by decide) hc rfl ?_
  refine Wp.istoreN (L' := #[.val (.long p0), .second, .val (.int p1), .val (.int (Int32.ofNat n)), .unset, .unset, .unset, .unset]) (pc' := 8) at_7 rfl rfl ?_
  refine Wp.bipush (z := (16 : Int32)) (pc' := 10) at_8 (by decide) rfl ?_
  refine Wp.newarr (m := 16) (cap := 16) (pc' := 12) O (hw _ (List.mem_of_getElem? (i := 1) rfl)) at_10 (by decide) rfl (Nat.le_refl _) (by decide) (by decide) (by decide) rfl ?_
  intro h2 a k1 O2
  have O2 : Hp h2 n0 [(a, ArC Z k1 .int [(.int (0 : Int32)), (.int (0 : Int32)), (.int (0 : Int32)), (.int (0 : Int32)), (.int (0 : Int32)), (.int (0 : Int32)), (.int (0 : Int32)), (.int (0 : Int32)), (.int (0 : Int32)), (.int (0 : Int32)), (.int (0 : Int32)), (.int (0 : Int32)), (.int (0 : Int32)), (.int (0 : Int32)), (.int (0 : Int32)), (.int (0 : Int32))])] := O2
  refine Wp.astore (L' := #[.val (.long p0), .second, .val (.int p1), .val (.int (Int32.ofNat n)), .val (.ref a), .unset, .unset, .unset]) (pc' := 14) at_12 rfl rfl rfl ?_
  refine Wp.aload (pc' := 16) at_14 rfl rfl rfl ?_
  refine Wp.iconst (z := (0 : Int32)) (pc' := 17) at_16 (by decide) rfl ?_
  refine Wp.lloadN (pc' := 18) at_17 rfl rfl ?_
  refine Wp.ldc2Long (v := (15 : Int64)) (pc' := 21) (hw _ (List.mem_of_getElem? (i := 2) rfl)) at_18 rfl ?_
  refine Wp.land (z := (p0 &&& (15 : Int64))) (pc' := 22) at_21 rfl rfl ?_
  refine Wp.l2i (z := (((p0 &&& (15 : Int64))).toInt32)) (pc' := 23) at_22 rfl rfl ?_
  obtain ⟨x0, e_x0⟩ : ∃ z, z = (((p0 &&& (15 : Int64))).toInt32) := ⟨_, rfl⟩
  rw [← e_x0]
  refine Wp.iastore (LA := []) (jn := 0) (pc' := 24) O2 at_23 (by decide) rfl (by first | decide | simp) rfl ?_
  intro h3 O3
  have O3 : Hp h3 n0 [(a, ArC Z k1 .int [(.int x0), (.int (0 : Int32)), (.int (0 : Int32)), (.int (0 : Int32)), (.int (0 : Int32)), (.int (0 : Int32)), (.int (0 : Int32)), (.int (0 : Int32)), (.int (0 : Int32)), (.int (0 : Int32)), (.int (0 : Int32)), (.int (0 : Int32)), (.int (0 : Int32)), (.int (0 : Int32)), (.int (0 : Int32)), (.int (0 : Int32))])] := O3
  refine Wp.aload (pc' := 26) at_24 rfl rfl rfl ?_
  refine Wp.iconst (z := (1 : Int32)) (pc' := 27) at_26 (by decide) rfl ?_
  refine Wp.lloadN (pc' := 28) at_27 rfl rfl ?_
  refine Wp.iconst (z := (4 : Int32)) (pc' := 29) at_28 (by decide) rfl ?_
  refine Wp.lushr (z := (Free.XT.ushrL p0 (4 : Int32))) (pc' := 30) at_29 rfl rfl ?_
  refine Wp.ldc2Long (v := (15 : Int64)) (pc' := 33) (hw _ (List.mem_of_getElem? (i := 2) rfl)) at_30 rfl ?_
  refine Wp.land (z := ((Free.XT.ushrL p0 (4 : Int32)) &&& (15 : Int64))) (pc' := 34) at_33 rfl rfl ?_
  refine Wp.l2i (z := ((((Free.XT.ushrL p0 (4 : Int32)) &&& (15 : Int64))).toInt32)) (pc' := 35) at_34 rfl rfl ?_
  obtain ⟨x1, e_x1⟩ : ∃ z, z = ((((Free.XT.ushrL p0 (4 : Int32)) &&& (15 : Int64))).toInt32) := ⟨_, rfl⟩
  rw [← e_x1]
  refine Wp.iastore (LA := []) (jn := 1) (pc' := 36) O3 at_35 (by decide) rfl (by first | decide | simp) rfl ?_
  intro h4 O4
  have O4 : Hp h4 n0 [(a, ArC Z k1 .int [(.int x0), (.int x1), (.int (0 : Int32)), (.int (0 : Int32)), (.int (0 : Int32)), (.int (0 : Int32)), (.int (0 : Int32)), (.int (0 : Int32)), (.int (0 : Int32)), (.int (0 : Int32)), (.int (0 : Int32)), (.int (0 : Int32)), (.int (0 : Int32)), (.int (0 : Int32)), (.int (0 : Int32)), (.int (0 : Int32))])] := O4
  refine Wp.aload (pc' := 38) at_36 rfl rfl rfl ?_
  refine Wp.iconst (z := (2 : Int32)) (pc' := 39) at_38 (by decide) rfl ?_
  refine Wp.lloadN (pc' := 40) at_39 rfl rfl ?_
  refine Wp.bipush (z := (8 : Int32)) (pc' := 42) at_40 (by decide) rfl ?_
  refine Wp.lushr (z := (Free.XT.ushrL p0 (8 : Int32))) (pc' := 43) at_42 rfl rfl ?_
  refine Wp.ldc2Long (v := (15 : Int64)) (pc' := 46) (hw _ (List.mem_of_getElem? (i := 2) rfl)) at_43 rfl ?_
  refine Wp.land (z := ((Free.XT.ushrL p0 (8 : Int32)) &&& (15 : Int64))) (pc' := 47) at_46 rfl rfl ?_
  refine Wp.l2i (z := ((((Free.XT.ushrL p0 (8 : Int32)) &&& (15 : Int64))).toInt32)) (pc' := 48) at_47 rfl rfl ?_
  obtain ⟨x2, e_x2⟩ : ∃ z, z = ((((Free.XT.ushrL p0 (8 : Int32)) &&& (15 : Int64))).toInt32) := ⟨_, rfl⟩
  rw [← e_x2]
  refine Wp.iastore (LA := []) (jn := 2) (pc' := 49) O4 at_48 (by decide) rfl (by first | decide | simp) rfl ?_
  intro h5 O5
  have O5 : Hp h5 n0 [(a, ArC Z k1 .int [(.int x0), (.int x1), (.int x2), (.int (0 : Int32)), (.int (0 : Int32)), (.int (0 : Int32)), (.int (0 : Int32)), (.int (0 : Int32)), (.int (0 : Int32)), (.int (0 : Int32)), (.int (0 : Int32)), (.int (0 : Int32)), (.int (0 : Int32)), (.int (0 : Int32)), (.int (0 : Int32)), (.int (0 : Int32))])] := O5
  refine Wp.aload (pc' := 51) at_49 rfl rfl rfl ?_
  refine Wp.iconst (z := (3 : Int32)) (pc' := 52) at_51 (by decide) rfl ?_
  refine Wp.lloadN (pc' := 53) at_52 rfl rfl ?_
  refine Wp.bipush (z := (12 : Int32)) (pc' := 55) at_53 (by decide) rfl ?_
  refine Wp.lushr (z := (Free.XT.ushrL p0 (12 : Int32))) (pc' := 56) at_55 rfl rfl ?_
  refine Wp.ldc2Long (v := (15 : Int64)) (pc' := 59) (hw _ (List.mem_of_getElem? (i := 2) rfl)) at_56 rfl ?_
  refine Wp.land (z := ((Free.XT.ushrL p0 (12 : Int32)) &&& (15 : Int64))) (pc' := 60) at_59 rfl rfl ?_
  refine Wp.l2i (z := ((((Free.XT.ushrL p0 (12 : Int32)) &&& (15 : Int64))).toInt32)) (pc' := 61) at_60 rfl rfl ?_
  obtain ⟨x3, e_x3⟩ : ∃ z, z = ((((Free.XT.ushrL p0 (12 : Int32)) &&& (15 : Int64))).toInt32) := ⟨_, rfl⟩
  rw [← e_x3]
  refine Wp.iastore (LA := []) (jn := 3) (pc' := 62) O5 at_61 (by decide) rfl (by first | decide | simp) rfl ?_
  intro h6 O6
  have O6 : Hp h6 n0 [(a, ArC Z k1 .int [(.int x0), (.int x1), (.int x2), (.int x3), (.int (0 : Int32)), (.int (0 : Int32)), (.int (0 : Int32)), (.int (0 : Int32)), (.int (0 : Int32)), (.int (0 : Int32)), (.int (0 : Int32)), (.int (0 : Int32)), (.int (0 : Int32)), (.int (0 : Int32)), (.int (0 : Int32)), (.int (0 : Int32))])] := O6
  refine Wp.aload (pc' := 64) at_62 rfl rfl rfl ?_
  refine Wp.iconst (z := (4 : Int32)) (pc' := 65) at_64 (by decide) rfl ?_
  refine Wp.lloadN (pc' := 66) at_65 rfl rfl ?_
  refine Wp.bipush (z := (16 : Int32)) (pc' := 68) at_66 (by decide) rfl ?_
  refine Wp.lushr (z := (Free.XT.ushrL p0 (16 : Int32))) (pc' := 69) at_68 rfl rfl ?_
  refine Wp.ldc2Long (v := (15 : Int64)) (pc' := 72) (hw _ (List.mem_of_getElem? (i := 2) rfl)) at_69 rfl ?_
  refine Wp.land (z := ((Free.XT.ushrL p0 (16 : Int32)) &&& (15 : Int64))) (pc' := 73) at_72 rfl rfl ?_
  refine Wp.l2i (z := ((((Free.XT.ushrL p0 (16 : Int32)) &&& (15 : Int64))).toInt32)) (pc' := 74) at_73 rfl rfl ?_
  obtain ⟨x4, e_x4⟩ : ∃ z, z = ((((Free.XT.ushrL p0 (16 : Int32)) &&& (15 : Int64))).toInt32) := ⟨_, rfl⟩
  rw [← e_x4]
  refine Wp.iastore (LA := []) (jn := 4) (pc' := 75) O6 at_74 (by decide) rfl (by first | decide | simp) rfl ?_
  intro h7 O7
  have O7 : Hp h7 n0 [(a, ArC Z k1 .int [(.int x0), (.int x1), (.int x2), (.int x3), (.int x4), (.int (0 : Int32)), (.int (0 : Int32)), (.int (0 : Int32)), (.int (0 : Int32)), (.int (0 : Int32)), (.int (0 : Int32)), (.int (0 : Int32)), (.int (0 : Int32)), (.int (0 : Int32)), (.int (0 : Int32)), (.int (0 : Int32))])] := O7
  refine Wp.aload (pc' := 77) at_75 rfl rfl rfl ?_
  refine Wp.iconst (z := (5 : Int32)) (pc' := 78) at_77 (by decide) rfl ?_
  refine Wp.lloadN (pc' := 79) at_78 rfl rfl ?_
  refine Wp.bipush (z := (20 : Int32)) (pc' := 81) at_79 (by decide) rfl ?_
  refine Wp.lushr (z := (Free.XT.ushrL p0 (20 : Int32))) (pc' := 82) at_81 rfl rfl ?_
  refine Wp.ldc2Long (v := (15 : Int64)) (pc' := 85) (hw _ (List.mem_of_getElem? (i := 2) rfl)) at_82 rfl ?_
  refine Wp.land (z := ((Free.XT.ushrL p0 (20 : Int32)) &&& (15 : Int64))) (pc' := 86) at_85 rfl rfl ?_
  refine Wp.l2i (z := ((((Free.XT.ushrL p0 (20 : Int32)) &&& (15 : Int64))).toInt32)) (pc' := 87) at_86 rfl rfl ?_
  obtain ⟨x5, e_x5⟩ : ∃ z, z = ((((Free.XT.ushrL p0 (20 : Int32)) &&& (15 : Int64))).toInt32) := ⟨_, rfl⟩
  rw [← e_x5]
  refine Wp.iastore (LA := []) (jn := 5) (pc' := 88) O7 at_87 (by decide) rfl (by first | decide | simp) rfl ?_
  intro h8 O8
  have O8 : Hp h8 n0 [(a, ArC Z k1 .int [(.int x0), (.int x1), (.int x2), (.int x3), (.int x4), (.int x5), (.int (0 : Int32)), (.int (0 : Int32)), (.int (0 : Int32)), (.int (0 : Int32)), (.int (0 : Int32)), (.int (0 : Int32)), (.int (0 : Int32)), (.int (0 : Int32)), (.int (0 : Int32)), (.int (0 : Int32))])] := O8
  refine Wp.aload (pc' := 90) at_88 rfl rfl rfl ?_
  refine Wp.bipush (z := (6 : Int32)) (pc' := 92) at_90 (by decide) rfl ?_
  refine Wp.lloadN (pc' := 93) at_92 rfl rfl ?_
  refine Wp.bipush (z := (24 : Int32)) (pc' := 95) at_93 (by decide) rfl ?_
  refine Wp.lushr (z := (Free.XT.ushrL p0 (24 : Int32))) (pc' := 96) at_95 rfl rfl ?_
  refine Wp.ldc2Long (v := (15 : Int64)) (pc' := 99) (hw _ (List.mem_of_getElem? (i := 2) rfl)) at_96 rfl ?_
  refine Wp.land (z := ((Free.XT.ushrL p0 (24 : Int32)) &&& (15 : Int64))) (pc' := 100) at_99 rfl rfl ?_
  refine Wp.l2i (z := ((((Free.XT.ushrL p0 (24 : Int32)) &&& (15 : Int64))).toInt32)) (pc' := 101) at_100 rfl rfl ?_
  obtain ⟨x6, e_x6⟩ : ∃ z, z = ((((Free.XT.ushrL p0 (24 : Int32)) &&& (15 : Int64))).toInt32) := ⟨_, rfl⟩
  rw [← e_x6]
  refine Wp.iastore (LA := []) (jn := 6) (pc' := 102) O8 at_101 (by decide) rfl (by first | decide | simp) rfl ?_
  intro h9 O9
  have O9 : Hp h9 n0 [(a, ArC Z k1 .int [(.int x0), (.int x1), (.int x2), (.int x3), (.int x4), (.int x5), (.int x6), (.int (0 : Int32)), (.int (0 : Int32)), (.int (0 : Int32)), (.int (0 : Int32)), (.int (0 : Int32)), (.int (0 : Int32)), (.int (0 : Int32)), (.int (0 : Int32)), (.int (0 : Int32))])] := O9
  refine Wp.aload (pc' := 104) at_102 rfl rfl rfl ?_
  refine Wp.bipush (z := (7 : Int32)) (pc' := 106) at_104 (by decide) rfl ?_
  refine Wp.lloadN (pc' := 107) at_106 rfl rfl ?_
  refine Wp.bipush (z := (28 : Int32)) (pc' := 109) at_107 (by decide) rfl ?_
  refine Wp.lushr (z := (Free.XT.ushrL p0 (28 : Int32))) (pc' := 110) at_109 rfl rfl ?_
  refine Wp.ldc2Long (v := (15 : Int64)) (pc' := 113) (hw _ (List.mem_of_getElem? (i := 2) rfl)) at_110 rfl ?_
  refine Wp.land (z := ((Free.XT.ushrL p0 (28 : Int32)) &&& (15 : Int64))) (pc' := 114) at_113 rfl rfl ?_
  refine Wp.l2i (z := ((((Free.XT.ushrL p0 (28 : Int32)) &&& (15 : Int64))).toInt32)) (pc' := 115) at_114 rfl rfl ?_
  obtain ⟨x7, e_x7⟩ : ∃ z, z = ((((Free.XT.ushrL p0 (28 : Int32)) &&& (15 : Int64))).toInt32) := ⟨_, rfl⟩
  rw [← e_x7]
  refine Wp.iastore (LA := []) (jn := 7) (pc' := 116) O9 at_115 (by decide) rfl (by first | decide | simp) rfl ?_
  intro h10 O10
  have O10 : Hp h10 n0 [(a, ArC Z k1 .int [(.int x0), (.int x1), (.int x2), (.int x3), (.int x4), (.int x5), (.int x6), (.int x7), (.int (0 : Int32)), (.int (0 : Int32)), (.int (0 : Int32)), (.int (0 : Int32)), (.int (0 : Int32)), (.int (0 : Int32)), (.int (0 : Int32)), (.int (0 : Int32))])] := O10
  refine Wp.aload (pc' := 118) at_116 rfl rfl rfl ?_
  refine Wp.bipush (z := (8 : Int32)) (pc' := 120) at_118 (by decide) rfl ?_
  refine Wp.lloadN (pc' := 121) at_120 rfl rfl ?_
  refine Wp.bipush (z := (32 : Int32)) (pc' := 123) at_121 (by decide) rfl ?_
  refine Wp.lushr (z := (Free.XT.ushrL p0 (32 : Int32))) (pc' := 124) at_123 rfl rfl ?_
  refine Wp.ldc2Long (v := (15 : Int64)) (pc' := 127) (hw _ (List.mem_of_getElem? (i := 2) rfl)) at_124 rfl ?_
  refine Wp.land (z := ((Free.XT.ushrL p0 (32 : Int32)) &&& (15 : Int64))) (pc' := 128) at_127 rfl rfl ?_
  refine Wp.l2i (z := ((((Free.XT.ushrL p0 (32 : Int32)) &&& (15 : Int64))).toInt32)) (pc' := 129) at_128 rfl rfl ?_
  obtain ⟨x8, e_x8⟩ : ∃ z, z = ((((Free.XT.ushrL p0 (32 : Int32)) &&& (15 : Int64))).toInt32) := ⟨_, rfl⟩
  rw [← e_x8]
  refine Wp.iastore (LA := []) (jn := 8) (pc' := 130) O10 at_129 (by decide) rfl (by first | decide | simp) rfl ?_
  intro h11 O11
  have O11 : Hp h11 n0 [(a, ArC Z k1 .int [(.int x0), (.int x1), (.int x2), (.int x3), (.int x4), (.int x5), (.int x6), (.int x7), (.int x8), (.int (0 : Int32)), (.int (0 : Int32)), (.int (0 : Int32)), (.int (0 : Int32)), (.int (0 : Int32)), (.int (0 : Int32)), (.int (0 : Int32))])] := O11
  refine Wp.aload (pc' := 132) at_130 rfl rfl rfl ?_
  refine Wp.bipush (z := (9 : Int32)) (pc' := 134) at_132 (by decide) rfl ?_
  refine Wp.lloadN (pc' := 135) at_134 rfl rfl ?_
  refine Wp.bipush (z := (36 : Int32)) (pc' := 137) at_135 (by decide) rfl ?_
  refine Wp.lushr (z := (Free.XT.ushrL p0 (36 : Int32))) (pc' := 138) at_137 rfl rfl ?_
  refine Wp.ldc2Long (v := (15 : Int64)) (pc' := 141) (hw _ (List.mem_of_getElem? (i := 2) rfl)) at_138 rfl ?_
  refine Wp.land (z := ((Free.XT.ushrL p0 (36 : Int32)) &&& (15 : Int64))) (pc' := 142) at_141 rfl rfl ?_
  refine Wp.l2i (z := ((((Free.XT.ushrL p0 (36 : Int32)) &&& (15 : Int64))).toInt32)) (pc' := 143) at_142 rfl rfl ?_
  obtain ⟨x9, e_x9⟩ : ∃ z, z = ((((Free.XT.ushrL p0 (36 : Int32)) &&& (15 : Int64))).toInt32) := ⟨_, rfl⟩
  rw [← e_x9]
  refine Wp.iastore (LA := []) (jn := 9) (pc' := 144) O11 at_143 (by decide) rfl (by first | decide | simp) rfl ?_
  intro h12 O12
  have O12 : Hp h12 n0 [(a, ArC Z k1 .int [(.int x0), (.int x1), (.int x2), (.int x3), (.int x4), (.int x5), (.int x6), (.int x7), (.int x8), (.int x9), (.int (0 : Int32)), (.int (0 : Int32)), (.int (0 : Int32)), (.int (0 : Int32)), (.int (0 : Int32)), (.int (0 : Int32))])] := O12
  refine Wp.aload (pc' := 146) at_144 rfl rfl rfl ?_
  refine Wp.bipush (z := (10 : Int32)) (pc' := 148) at_146 (by decide) rfl ?_
  refine Wp.lloadN (pc' := 149) at_148 rfl rfl ?_
  refine Wp.bipush (z := (40 : Int32)) (pc' := 151) at_149 (by decide) rfl ?_
  refine Wp.lushr (z := (Free.XT.ushrL p0 (40 : Int32))) (pc' := 152) at_151 rfl rfl ?_
  refine Wp.ldc2Long (v := (15 : Int64)) (pc' := 155) (hw _ (List.mem_of_getElem? (i := 2) rfl)) at_152 rfl ?_
  refine Wp.land (z := ((Free.XT.ushrL p0 (40 : Int32)) &&& (15 : Int64))) (pc' := 156) at_155 rfl rfl ?_
  refine Wp.l2i (z := ((((Free.XT.ushrL p0 (40 : Int32)) &&& (15 : Int64))).toInt32)) (pc' := 157) at_156 rfl rfl ?_
  obtain ⟨x10, e_x10⟩ : ∃ z, z = ((((Free.XT.ushrL p0 (40 : Int32)) &&& (15 : Int64))).toInt32) := ⟨_, rfl⟩
  rw [← e_x10]
  refine Wp.iastore (LA := []) (jn := 10) (pc' := 158) O12 at_157 (by decide) rfl (by first | decide | simp) rfl ?_
  intro h13 O13
  have O13 : Hp h13 n0 [(a, ArC Z k1 .int [(.int x0), (.int x1), (.int x2), (.int x3), (.int x4), (.int x5), (.int x6), (.int x7), (.int x8), (.int x9), (.int x10), (.int (0 : Int32)), (.int (0 : Int32)), (.int (0 : Int32)), (.int (0 : Int32)), (.int (0 : Int32))])] := O13
  refine Wp.aload (pc' := 160) at_158 rfl rfl rfl ?_
  refine Wp.bipush (z := (11 : Int32)) (pc' := 162) at_160 (by decide) rfl ?_
  refine Wp.lloadN (pc' := 163) at_162 rfl rfl ?_
  refine Wp.bipush (z := (44 : Int32)) (pc' := 165) at_163 (by decide) rfl ?_
  refine Wp.lushr (z := (Free.XT.ushrL p0 (44 : Int32))) (pc' := 166) at_165 rfl rfl ?_
  refine Wp.ldc2Long (v := (15 : Int64)) (pc' := 169) (hw _ (List.mem_of_getElem? (i := 2) rfl)) at_166 rfl ?_
  refine Wp.land (z := ((Free.XT.ushrL p0 (44 : Int32)) &&& (15 : Int64))) (pc' := 170) at_169 rfl rfl ?_
  refine Wp.l2i (z := ((((Free.XT.ushrL p0 (44 : Int32)) &&& (15 : Int64))).toInt32)) (pc' := 171) at_170 rfl rfl ?_
  obtain ⟨x11, e_x11⟩ : ∃ z, z = ((((Free.XT.ushrL p0 (44 : Int32)) &&& (15 : Int64))).toInt32) := ⟨_, rfl⟩
  rw [← e_x11]
  refine Wp.iastore (LA := []) (jn := 11) (pc' := 172) O13 at_171 (by decide) rfl (by first | decide | simp) rfl ?_
  intro h14 O14
  have O14 : Hp h14 n0 [(a, ArC Z k1 .int [(.int x0), (.int x1), (.int x2), (.int x3), (.int x4), (.int x5), (.int x6), (.int x7), (.int x8), (.int x9), (.int x10), (.int x11), (.int (0 : Int32)), (.int (0 : Int32)), (.int (0 : Int32)), (.int (0 : Int32))])] := O14
  refine Wp.aload (pc' := 174) at_172 rfl rfl rfl ?_
  refine Wp.bipush (z := (12 : Int32)) (pc' := 176) at_174 (by decide) rfl ?_
  refine Wp.lloadN (pc' := 177) at_176 rfl rfl ?_
  refine Wp.bipush (z := (48 : Int32)) (pc' := 179) at_177 (by decide) rfl ?_
  refine Wp.lushr (z := (Free.XT.ushrL p0 (48 : Int32))) (pc' := 180) at_179 rfl rfl ?_
  refine Wp.ldc2Long (v := (15 : Int64)) (pc' := 183) (hw _ (List.mem_of_getElem? (i := 2) rfl)) at_180 rfl ?_
  refine Wp.land (z := ((Free.XT.ushrL p0 (48 : Int32)) &&& (15 : Int64))) (pc' := 184) at_183 rfl rfl ?_
  refine Wp.l2i (z := ((((Free.XT.ushrL p0 (48 : Int32)) &&& (15 : Int64))).toInt32)) (pc' := 185) at_184 rfl rfl ?_
  obtain ⟨x12, e_x12⟩ : ∃ z, z = ((((Free.XT.ushrL p0 (48 : Int32)) &&& (15 : Int64))).toInt32) := ⟨_, rfl⟩
  rw [← e_x12]
  refine Wp.iastore (LA := []) (jn := 12) (pc' := 186) O14 at_185 (by decide) rfl (by first | decide | simp) rfl ?_
  intro h15 O15
  have O15 : Hp h15 n0 [(a, ArC Z k1 .int [(.int x0), (.int x1), (.int x2), (.int x3), (.int x4), (.int x5), (.int x6), (.int x7), (.int x8), (.int x9), (.int x10), (.int x11), (.int x12), (.int (0 : Int32)), (.int (0 : Int32)), (.int (0 : Int32))])] := O15
  refine Wp.aload (pc' := 188) at_186 rfl rfl rfl ?_
  refine Wp.bipush (z := (13 : Int32)) (pc' := 190) at_188 (by decide) rfl ?_
  refine Wp.lloadN (pc' := 191) at_190 rfl rfl ?_
  refine Wp.bipush (z := (52 : Int32)) (pc' := 193) at_191 (by decide) rfl ?_
  refine Wp.lushr (z := (Free.XT.ushrL p0 (52 : Int32))) (pc' := 194) at_193 rfl rfl ?_
  refine Wp.ldc2Long (v := (15 : Int64)) (pc' := 197) (hw _ (List.mem_of_getElem? (i := 2) rfl)) at_194 rfl ?_
  refine Wp.land (z := ((Free.XT.ushrL p0 (52 : Int32)) &&& (15 : Int64))) (pc' := 198) at_197 rfl rfl ?_
  refine Wp.l2i (z := ((((Free.XT.ushrL p0 (52 : Int32)) &&& (15 : Int64))).toInt32)) (pc' := 199) at_198 rfl rfl ?_
  obtain ⟨x13, e_x13⟩ : ∃ z, z = ((((Free.XT.ushrL p0 (52 : Int32)) &&& (15 : Int64))).toInt32) := ⟨_, rfl⟩
  rw [← e_x13]
  refine Wp.iastore (LA := []) (jn := 13) (pc' := 200) O15 at_199 (by decide) rfl (by first | decide | simp) rfl ?_
  intro h16 O16
  have O16 : Hp h16 n0 [(a, ArC Z k1 .int [(.int x0), (.int x1), (.int x2), (.int x3), (.int x4), (.int x5), (.int x6), (.int x7), (.int x8), (.int x9), (.int x10), (.int x11), (.int x12), (.int x13), (.int (0 : Int32)), (.int (0 : Int32))])] := O16
  refine Wp.aload (pc' := 202) at_200 rfl rfl rfl ?_
  refine Wp.bipush (z := (14 : Int32)) (pc' := 204) at_202 (by decide) rfl ?_
  refine Wp.lloadN (pc' := 205) at_204 rfl rfl ?_
  refine Wp.bipush (z := (56 : Int32)) (pc' := 207) at_205 (by decide) rfl ?_
  refine Wp.lushr (z := (Free.XT.ushrL p0 (56 : Int32))) (pc' := 208) at_207 rfl rfl ?_
  refine Wp.ldc2Long (v := (15 : Int64)) (pc' := 211) (hw _ (List.mem_of_getElem? (i := 2) rfl)) at_208 rfl ?_
  refine Wp.land (z := ((Free.XT.ushrL p0 (56 : Int32)) &&& (15 : Int64))) (pc' := 212) at_211 rfl rfl ?_
  refine Wp.l2i (z := ((((Free.XT.ushrL p0 (56 : Int32)) &&& (15 : Int64))).toInt32)) (pc' := 213) at_212 rfl rfl ?_
  obtain ⟨x14, e_x14⟩ : ∃ z, z = ((((Free.XT.ushrL p0 (56 : Int32)) &&& (15 : Int64))).toInt32) := ⟨_, rfl⟩
  rw [← e_x14]
  refine Wp.iastore (LA := []) (jn := 14) (pc' := 214) O16 at_213 (by decide) rfl (by first | decide | simp) rfl ?_
  intro h17 O17
  have O17 : Hp h17 n0 [(a, ArC Z k1 .int [(.int x0), (.int x1), (.int x2), (.int x3), (.int x4), (.int x5), (.int x6), (.int x7), (.int x8), (.int x9), (.int x10), (.int x11), (.int x12), (.int x13), (.int x14), (.int (0 : Int32))])] := O17
  refine Wp.aload (pc' := 216) at_214 rfl rfl rfl ?_
  refine Wp.bipush (z := (15 : Int32)) (pc' := 218) at_216 (by decide) rfl ?_
  refine Wp.lloadN (pc' := 219) at_218 rfl rfl ?_
  refine Wp.bipush (z := (60 : Int32)) (pc' := 221) at_219 (by decide) rfl ?_
  refine Wp.lushr (z := (Free.XT.ushrL p0 (60 : Int32))) (pc' := 222) at_221 rfl rfl ?_
  refine Wp.ldc2Long (v := (15 : Int64)) (pc' := 225) (hw _ (List.mem_of_getElem? (i := 2) rfl)) at_222 rfl ?_
  refine Wp.land (z := ((Free.XT.ushrL p0 (60 : Int32)) &&& (15 : Int64))) (pc' := 226) at_225 rfl rfl ?_
  refine Wp.l2i (z := ((((Free.XT.ushrL p0 (60 : Int32)) &&& (15 : Int64))).toInt32)) (pc' := 227) at_226 rfl rfl ?_
  obtain ⟨x15, e_x15⟩ : ∃ z, z = ((((Free.XT.ushrL p0 (60 : Int32)) &&& (15 : Int64))).toInt32) := ⟨_, rfl⟩
  rw [← e_x15]
  refine Wp.iastore (LA := []) (jn := 15) (pc' := 228) O17 at_227 (by decide) rfl (by first | decide | simp) rfl ?_
  intro h18 O18
  have O18 : Hp h18 n0 [(a, ArC Z k1 .int [(.int x0), (.int x1), (.int x2), (.int x3), (.int x4), (.int x5), (.int x6), (.int x7), (.int x8), (.int x9), (.int x10), (.int x11), (.int x12), (.int x13), (.int x14), (.int x15)])] := O18
  refine Wp.aload (pc' := 230) at_228 rfl rfl rfl ?_
  refine Wp.iconst (z := (0 : Int32)) (pc' := 231) at_230 (by decide) rfl ?_
  refine Wp.iaload (i := 0) (jn := 0) (v := (.int x0)) (pc' := 232) O18 rfl at_231 (by decide) rfl rfl rfl ?_
  refine Wp.iconst (z := (0 : Int32)) (pc' := 233) at_232 (by decide) rfl ?_
  refine Wp.iloadN (pc' := 234) at_233 rfl rfl ?_
  refine Wp.callS (yy := (⟨"com/example/keyed_tensor/keyedtensor/codec/DeflateCodesIsCompletePinLaw", "term", "(III)J"⟩ : MethodName)) (pc' := 237) (argsL := [(.int x0), (.int (0 : Int32)), (.int (Int32.ofNat n))]) (S := []) (rm_t l Z a0 hw x0 (0 : Int32) (Int32.ofNat n) h18 n0) (hw _ (List.mem_of_getElem? (i := 3) rfl)) (hw _ (List.mem_of_getElem? (i := 4) rfl)) (hw _ (List.mem_of_getElem? (i := 5) rfl)) (hw _ (List.mem_of_getElem? (i := 6) rfl)) (by decide) (W := 0) rfl (lenOf pd_0 rfl) rfl rfl (Nat.le_refl 0) (by decide) (by decide) (by decide) (by decide) at_234 rfl ?_
  rintro _ _ ⟨rfl, rfl⟩
  show Wp _ _ _ _ _ _ _ _ _ _ _ _ 237 #[.val (.long p0), .second, .val (.int p1), .val (.int (Int32.ofNat n)), .val (.ref a), .unset, .unset, .unset] [(.long (own_term x0 (0 : Int32) (Int32.ofNat n)))]
  refine Wp.aload (pc' := 239) at_237 rfl rfl rfl ?_
  refine Wp.iconst (z := (1 : Int32)) (pc' := 240) at_239 (by decide) rfl ?_
  refine Wp.iaload (i := 0) (jn := 1) (v := (.int x1)) (pc' := 241) O18 rfl at_240 (by decide) rfl rfl rfl ?_
  refine Wp.iconst (z := (1 : Int32)) (pc' := 242) at_241 (by decide) rfl ?_
  refine Wp.iloadN (pc' := 243) at_242 rfl rfl ?_
  refine Wp.callS (yy := (⟨"com/example/keyed_tensor/keyedtensor/codec/DeflateCodesIsCompletePinLaw", "term", "(III)J"⟩ : MethodName)) (pc' := 246) (argsL := [(.int x1), (.int (1 : Int32)), (.int (Int32.ofNat n))]) (S := [(.long (own_term x0 (0 : Int32) (Int32.ofNat n)))]) (rm_t l Z a0 hw x1 (1 : Int32) (Int32.ofNat n) h18 n0) (hw _ (List.mem_of_getElem? (i := 3) rfl)) (hw _ (List.mem_of_getElem? (i := 4) rfl)) (hw _ (List.mem_of_getElem? (i := 5) rfl)) (hw _ (List.mem_of_getElem? (i := 6) rfl)) (by decide) (W := 2) rfl (lenOf pd_0 rfl) rfl rfl (Nat.le_refl 2) (by decide) (by decide) (by decide) (by decide) at_243 rfl ?_
  rintro _ _ ⟨rfl, rfl⟩
  show Wp _ _ _ _ _ _ _ _ _ _ _ _ 246 #[.val (.long p0), .second, .val (.int p1), .val (.int (Int32.ofNat n)), .val (.ref a), .unset, .unset, .unset] [(.long (own_term x1 (1 : Int32) (Int32.ofNat n))), (.long (own_term x0 (0 : Int32) (Int32.ofNat n)))]
  refine Wp.ladd (z := ((own_term x0 (0 : Int32) (Int32.ofNat n)) + (own_term x1 (1 : Int32) (Int32.ofNat n)))) (pc' := 247) at_246 rfl rfl ?_
  refine Wp.aload (pc' := 249) at_247 rfl rfl rfl ?_
  refine Wp.iconst (z := (2 : Int32)) (pc' := 250) at_249 (by decide) rfl ?_
  refine Wp.iaload (i := 0) (jn := 2) (v := (.int x2)) (pc' := 251) O18 rfl at_250 (by decide) rfl rfl rfl ?_
  refine Wp.iconst (z := (2 : Int32)) (pc' := 252) at_251 (by decide) rfl ?_
  refine Wp.iloadN (pc' := 253) at_252 rfl rfl ?_
  refine Wp.callS (yy := (⟨"com/example/keyed_tensor/keyedtensor/codec/DeflateCodesIsCompletePinLaw", "term", "(III)J"⟩ : MethodName)) (pc' := 256) (argsL := [(.int x2), (.int (2 : Int32)), (.int (Int32.ofNat n))]) (S := [(.long ((own_term x0 (0 : Int32) (Int32.ofNat n)) + (own_term x1 (1 : Int32) (Int32.ofNat n))))]) (rm_t l Z a0 hw x2 (2 : Int32) (Int32.ofNat n) h18 n0) (hw _ (List.mem_of_getElem? (i := 3) rfl)) (hw _ (List.mem_of_getElem? (i := 4) rfl)) (hw _ (List.mem_of_getElem? (i := 5) rfl)) (hw _ (List.mem_of_getElem? (i := 6) rfl)) (by decide) (W := 2) rfl (lenOf pd_0 rfl) rfl rfl (Nat.le_refl 2) (by decide) (by decide) (by decide) (by decide) at_253 rfl ?_
  rintro _ _ ⟨rfl, rfl⟩
  show Wp _ _ _ _ _ _ _ _ _ _ _ _ 256 #[.val (.long p0), .second, .val (.int p1), .val (.int (Int32.ofNat n)), .val (.ref a), .unset, .unset, .unset] [(.long (own_term x2 (2 : Int32) (Int32.ofNat n))), (.long ((own_term x0 (0 : Int32) (Int32.ofNat n)) + (own_term x1 (1 : Int32) (Int32.ofNat n))))]
  refine Wp.ladd (z := (((own_term x0 (0 : Int32) (Int32.ofNat n)) + (own_term x1 (1 : Int32) (Int32.ofNat n))) + (own_term x2 (2 : Int32) (Int32.ofNat n)))) (pc' := 257) at_256 rfl rfl ?_
  refine Wp.aload (pc' := 259) at_257 rfl rfl rfl ?_
  refine Wp.iconst (z := (3 : Int32)) (pc' := 260) at_259 (by decide) rfl ?_
  refine Wp.iaload (i := 0) (jn := 3) (v := (.int x3)) (pc' := 261) O18 rfl at_260 (by decide) rfl rfl rfl ?_
  refine Wp.iconst (z := (3 : Int32)) (pc' := 262) at_261 (by decide) rfl ?_
  refine Wp.iloadN (pc' := 263) at_262 rfl rfl ?_
  refine Wp.callS (yy := (⟨"com/example/keyed_tensor/keyedtensor/codec/DeflateCodesIsCompletePinLaw", "term", "(III)J"⟩ : MethodName)) (pc' := 266) (argsL := [(.int x3), (.int (3 : Int32)), (.int (Int32.ofNat n))]) (S := [(.long (((own_term x0 (0 : Int32) (Int32.ofNat n)) + (own_term x1 (1 : Int32) (Int32.ofNat n))) + (own_term x2 (2 : Int32) (Int32.ofNat n))))]) (rm_t l Z a0 hw x3 (3 : Int32) (Int32.ofNat n) h18 n0) (hw _ (List.mem_of_getElem? (i := 3) rfl)) (hw _ (List.mem_of_getElem? (i := 4) rfl)) (hw _ (List.mem_of_getElem? (i := 5) rfl)) (hw _ (List.mem_of_getElem? (i := 6) rfl)) (by decide) (W := 2) rfl (lenOf pd_0 rfl) rfl rfl (Nat.le_refl 2) (by decide) (by decide) (by decide) (by decide) at_263 rfl ?_
  rintro _ _ ⟨rfl, rfl⟩
  show Wp _ _ _ _ _ _ _ _ _ _ _ _ 266 #[.val (.long p0), .second, .val (.int p1), .val (.int (Int32.ofNat n)), .val (.ref a), .unset, .unset, .unset] [(.long (own_term x3 (3 : Int32) (Int32.ofNat n))), (.long (((own_term x0 (0 : Int32) (Int32.ofNat n)) + (own_term x1 (1 : Int32) (Int32.ofNat n))) + (own_term x2 (2 : Int32) (Int32.ofNat n))))]
  refine Wp.ladd (z := ((((own_term x0 (0 : Int32) (Int32.ofNat n)) + (own_term x1 (1 : Int32) (Int32.ofNat n))) + (own_term x2 (2 : Int32) (Int32.ofNat n))) + (own_term x3 (3 : Int32) (Int32.ofNat n)))) (pc' := 267) at_266 rfl rfl ?_
  refine Wp.aload (pc' := 269) at_267 rfl rfl rfl ?_
  refine Wp.iconst (z := (4 : Int32)) (pc' := 270) at_269 (by decide) rfl ?_
  refine Wp.iaload (i := 0) (jn := 4) (v := (.int x4)) (pc' := 271) O18 rfl at_270 (by decide) rfl rfl rfl ?_
  refine Wp.iconst (z := (4 : Int32)) (pc' := 272) at_271 (by decide) rfl ?_
  refine Wp.iloadN (pc' := 273) at_272 rfl rfl ?_
  refine Wp.callS (yy := (⟨"com/example/keyed_tensor/keyedtensor/codec/DeflateCodesIsCompletePinLaw", "term", "(III)J"⟩ : MethodName)) (pc' := 276) (argsL := [(.int x4), (.int (4 : Int32)), (.int (Int32.ofNat n))]) (S := [(.long ((((own_term x0 (0 : Int32) (Int32.ofNat n)) + (own_term x1 (1 : Int32) (Int32.ofNat n))) + (own_term x2 (2 : Int32) (Int32.ofNat n))) + (own_term x3 (3 : Int32) (Int32.ofNat n))))]) (rm_t l Z a0 hw x4 (4 : Int32) (Int32.ofNat n) h18 n0) (hw _ (List.mem_of_getElem? (i := 3) rfl)) (hw _ (List.mem_of_getElem? (i := 4) rfl)) (hw _ (List.mem_of_getElem? (i := 5) rfl)) (hw _ (List.mem_of_getElem? (i := 6) rfl)) (by decide) (W := 2) rfl (lenOf pd_0 rfl) rfl rfl (Nat.le_refl 2) (by decide) (by decide) (by decide) (by decide) at_273 rfl ?_
  rintro _ _ ⟨rfl, rfl⟩
  show Wp _ _ _ _ _ _ _ _ _ _ _ _ 276 #[.val (.long p0), .second, .val (.int p1), .val (.int (Int32.ofNat n)), .val (.ref a), .unset, .unset, .unset] [(.long (own_term x4 (4 : Int32) (Int32.ofNat n))), (.long ((((own_term x0 (0 : Int32) (Int32.ofNat n)) + (own_term x1 (1 : Int32) (Int32.ofNat n))) + (own_term x2 (2 : Int32) (Int32.ofNat n))) + (own_term x3 (3 : Int32) (Int32.ofNat n))))]
  refine Wp.ladd (z := (((((own_term x0 (0 : Int32) (Int32.ofNat n)) + (own_term x1 (1 : Int32) (Int32.ofNat n))) + (own_term x2 (2 : Int32) (Int32.ofNat n))) + (own_term x3 (3 : Int32) (Int32.ofNat n))) + (own_term x4 (4 : Int32) (Int32.ofNat n)))) (pc' := 277) at_276 rfl rfl ?_
  refine Wp.aload (pc' := 279) at_277 rfl rfl rfl ?_
  refine Wp.iconst (z := (5 : Int32)) (pc' := 280) at_279 (by decide) rfl ?_
  refine Wp.iaload (i := 0) (jn := 5) (v := (.int x5)) (pc' := 281) O18 rfl at_280 (by decide) rfl rfl rfl ?_
  refine Wp.iconst (z := (5 : Int32)) (pc' := 282) at_281 (by decide) rfl ?_
  refine Wp.iloadN (pc' := 283) at_282 rfl rfl ?_
  refine Wp.callS (yy := (⟨"com/example/keyed_tensor/keyedtensor/codec/DeflateCodesIsCompletePinLaw", "term", "(III)J"⟩ : MethodName)) (pc' := 286) (argsL := [(.int x5), (.int (5 : Int32)), (.int (Int32.ofNat n))]) (S := [(.long (((((own_term x0 (0 : Int32) (Int32.ofNat n)) + (own_term x1 (1 : Int32) (Int32.ofNat n))) + (own_term x2 (2 : Int32) (Int32.ofNat n))) + (own_term x3 (3 : Int32) (Int32.ofNat n))) + (own_term x4 (4 : Int32) (Int32.ofNat n))))]) (rm_t l Z a0 hw x5 (5 : Int32) (Int32.ofNat n) h18 n0) (hw _ (List.mem_of_getElem? (i := 3) rfl)) (hw _ (List.mem_of_getElem? (i := 4) rfl)) (hw _ (List.mem_of_getElem? (i := 5) rfl)) (hw _ (List.mem_of_getElem? (i := 6) rfl)) (by decide) (W := 2) rfl (lenOf pd_0 rfl) rfl rfl (Nat.le_refl 2) (by decide) (by decide) (by decide) (by decide) at_283 rfl ?_
  rintro _ _ ⟨rfl, rfl⟩
  show Wp _ _ _ _ _ _ _ _ _ _ _ _ 286 #[.val (.long p0), .second, .val (.int p1), .val (.int (Int32.ofNat n)), .val (.ref a), .unset, .unset, .unset] [(.long (own_term x5 (5 : Int32) (Int32.ofNat n))), (.long (((((own_term x0 (0 : Int32) (Int32.ofNat n)) + (own_term x1 (1 : Int32) (Int32.ofNat n))) + (own_term x2 (2 : Int32) (Int32.ofNat n))) + (own_term x3 (3 : Int32) (Int32.ofNat n))) + (own_term x4 (4 : Int32) (Int32.ofNat n))))]
  refine Wp.ladd (z := ((((((own_term x0 (0 : Int32) (Int32.ofNat n)) + (own_term x1 (1 : Int32) (Int32.ofNat n))) + (own_term x2 (2 : Int32) (Int32.ofNat n))) + (own_term x3 (3 : Int32) (Int32.ofNat n))) + (own_term x4 (4 : Int32) (Int32.ofNat n))) + (own_term x5 (5 : Int32) (Int32.ofNat n)))) (pc' := 287) at_286 rfl rfl ?_
  refine Wp.aload (pc' := 289) at_287 rfl rfl rfl ?_
  refine Wp.bipush (z := (6 : Int32)) (pc' := 291) at_289 (by decide) rfl ?_
  refine Wp.iaload (i := 0) (jn := 6) (v := (.int x6)) (pc' := 292) O18 rfl at_291 (by decide) rfl rfl rfl ?_
  refine Wp.bipush (z := (6 : Int32)) (pc' := 294) at_292 (by decide) rfl ?_
  refine Wp.iloadN (pc' := 295) at_294 rfl rfl ?_
  refine Wp.callS (yy := (⟨"com/example/keyed_tensor/keyedtensor/codec/DeflateCodesIsCompletePinLaw", "term", "(III)J"⟩ : MethodName)) (pc' := 298) (argsL := [(.int x6), (.int (6 : Int32)), (.int (Int32.ofNat n))]) (S := [(.long ((((((own_term x0 (0 : Int32) (Int32.ofNat n)) + (own_term x1 (1 : Int32) (Int32.ofNat n))) + (own_term x2 (2 : Int32) (Int32.ofNat n))) + (own_term x3 (3 : Int32) (Int32.ofNat n))) + (own_term x4 (4 : Int32) (Int32.ofNat n))) + (own_term x5 (5 : Int32) (Int32.ofNat n))))]) (rm_t l Z a0 hw x6 (6 : Int32) (Int32.ofNat n) h18 n0) (hw _ (List.mem_of_getElem? (i := 3) rfl)) (hw _ (List.mem_of_getElem? (i := 4) rfl)) (hw _ (List.mem_of_getElem? (i := 5) rfl)) (hw _ (List.mem_of_getElem? (i := 6) rfl)) (by decide) (W := 2) rfl (lenOf pd_0 rfl) rfl rfl (Nat.le_refl 2) (by decide) (by decide) (by decide) (by decide) at_295 rfl ?_
  rintro _ _ ⟨rfl, rfl⟩
  show Wp _ _ _ _ _ _ _ _ _ _ _ _ 298 #[.val (.long p0), .second, .val (.int p1), .val (.int (Int32.ofNat n)), .val (.ref a), .unset, .unset, .unset] [(.long (own_term x6 (6 : Int32) (Int32.ofNat n))), (.long ((((((own_term x0 (0 : Int32) (Int32.ofNat n)) + (own_term x1 (1 : Int32) (Int32.ofNat n))) + (own_term x2 (2 : Int32) (Int32.ofNat n))) + (own_term x3 (3 : Int32) (Int32.ofNat n))) + (own_term x4 (4 : Int32) (Int32.ofNat n))) + (own_term x5 (5 : Int32) (Int32.ofNat n))))]
  refine Wp.ladd (z := (((((((own_term x0 (0 : Int32) (Int32.ofNat n)) + (own_term x1 (1 : Int32) (Int32.ofNat n))) + (own_term x2 (2 : Int32) (Int32.ofNat n))) + (own_term x3 (3 : Int32) (Int32.ofNat n))) + (own_term x4 (4 : Int32) (Int32.ofNat n))) + (own_term x5 (5 : Int32) (Int32.ofNat n))) + (own_term x6 (6 : Int32) (Int32.ofNat n)))) (pc' := 299) at_298 rfl rfl ?_
  refine Wp.aload (pc' := 301) at_299 rfl rfl rfl ?_
  refine Wp.bipush (z := (7 : Int32)) (pc' := 303) at_301 (by decide) rfl ?_
  refine Wp.iaload (i := 0) (jn := 7) (v := (.int x7)) (pc' := 304) O18 rfl at_303 (by decide) rfl rfl rfl ?_
  refine Wp.bipush (z := (7 : Int32)) (pc' := 306) at_304 (by decide) rfl ?_
  refine Wp.iloadN (pc' := 307) at_306 rfl rfl ?_
  refine Wp.callS (yy := (⟨"com/example/keyed_tensor/keyedtensor/codec/DeflateCodesIsCompletePinLaw", "term", "(III)J"⟩ : MethodName)) (pc' := 310) (argsL := [(.int x7), (.int (7 : Int32)), (.int (Int32.ofNat n))]) (S := [(.long (((((((own_term x0 (0 : Int32) (Int32.ofNat n)) + (own_term x1 (1 : Int32) (Int32.ofNat n))) + (own_term x2 (2 : Int32) (Int32.ofNat n))) + (own_term x3 (3 : Int32) (Int32.ofNat n))) + (own_term x4 (4 : Int32) (Int32.ofNat n))) + (own_term x5 (5 : Int32) (Int32.ofNat n))) + (own_term x6 (6 : Int32) (Int32.ofNat n))))]) (rm_t l Z a0 hw x7 (7 : Int32) (Int32.ofNat n) h18 n0) (hw _ (List.mem_of_getElem? (i := 3) rfl)) (hw _ (List.mem_of_getElem? (i := 4) rfl)) (hw _ (List.mem_of_getElem? (i := 5) rfl)) (hw _ (List.mem_of_getElem? (i := 6) rfl)) (by decide) (W := 2) rfl (lenOf pd_0 rfl) rfl rfl (Nat.le_refl 2) (by decide) (by decide) (by decide) (by decide) at_307 rfl ?_
  rintro _ _ ⟨rfl, rfl⟩
  show Wp _ _ _ _ _ _ _ _ _ _ _ _ 310 #[.val (.long p0), .second, .val (.int p1), .val (.int (Int32.ofNat n)), .val (.ref a), .unset, .unset, .unset] [(.long (own_term x7 (7 : Int32) (Int32.ofNat n))), (.long (((((((own_term x0 (0 : Int32) (Int32.ofNat n)) + (own_term x1 (1 : Int32) (Int32.ofNat n))) + (own_term x2 (2 : Int32) (Int32.ofNat n))) + (own_term x3 (3 : Int32) (Int32.ofNat n))) + (own_term x4 (4 : Int32) (Int32.ofNat n))) + (own_term x5 (5 : Int32) (Int32.ofNat n))) + (own_term x6 (6 : Int32) (Int32.ofNat n))))]
  refine Wp.ladd (z := ((((((((own_term x0 (0 : Int32) (Int32.ofNat n)) + (own_term x1 (1 : Int32) (Int32.ofNat n))) + (own_term x2 (2 : Int32) (Int32.ofNat n))) + (own_term x3 (3 : Int32) (Int32.ofNat n))) + (own_term x4 (4 : Int32) (Int32.ofNat n))) + (own_term x5 (5 : Int32) (Int32.ofNat n))) + (own_term x6 (6 : Int32) (Int32.ofNat n))) + (own_term x7 (7 : Int32) (Int32.ofNat n)))) (pc' := 311) at_310 rfl rfl ?_
  refine Wp.aload (pc' := 313) at_311 rfl rfl rfl ?_
  refine Wp.bipush (z := (8 : Int32)) (pc' := 315) at_313 (by decide) rfl ?_
  refine Wp.iaload (i := 0) (jn := 8) (v := (.int x8)) (pc' := 316) O18 rfl at_315 (by decide) rfl rfl rfl ?_
  refine Wp.bipush (z := (8 : Int32)) (pc' := 318) at_316 (by decide) rfl ?_
  refine Wp.iloadN (pc' := 319) at_318 rfl rfl ?_
  refine Wp.callS (yy := (⟨"com/example/keyed_tensor/keyedtensor/codec/DeflateCodesIsCompletePinLaw", "term", "(III)J"⟩ : MethodName)) (pc' := 322) (argsL := [(.int x8), (.int (8 : Int32)), (.int (Int32.ofNat n))]) (S := [(.long ((((((((own_term x0 (0 : Int32) (Int32.ofNat n)) + (own_term x1 (1 : Int32) (Int32.ofNat n))) + (own_term x2 (2 : Int32) (Int32.ofNat n))) + (own_term x3 (3 : Int32) (Int32.ofNat n))) + (own_term x4 (4 : Int32) (Int32.ofNat n))) + (own_term x5 (5 : Int32) (Int32.ofNat n))) + (own_term x6 (6 : Int32) (Int32.ofNat n))) + (own_term x7 (7 : Int32) (Int32.ofNat n))))]) (rm_t l Z a0 hw x8 (8 : Int32) (Int32.ofNat n) h18 n0) (hw _ (List.mem_of_getElem? (i := 3) rfl)) (hw _ (List.mem_of_getElem? (i := 4) rfl)) (hw _ (List.mem_of_getElem? (i := 5) rfl)) (hw _ (List.mem_of_getElem? (i := 6) rfl)) (by decide) (W := 2) rfl (lenOf pd_0 rfl) rfl rfl (Nat.le_refl 2) (by decide) (by decide) (by decide) (by decide) at_319 rfl ?_
  rintro _ _ ⟨rfl, rfl⟩
  show Wp _ _ _ _ _ _ _ _ _ _ _ _ 322 #[.val (.long p0), .second, .val (.int p1), .val (.int (Int32.ofNat n)), .val (.ref a), .unset, .unset, .unset] [(.long (own_term x8 (8 : Int32) (Int32.ofNat n))), (.long ((((((((own_term x0 (0 : Int32) (Int32.ofNat n)) + (own_term x1 (1 : Int32) (Int32.ofNat n))) + (own_term x2 (2 : Int32) (Int32.ofNat n))) + (own_term x3 (3 : Int32) (Int32.ofNat n))) + (own_term x4 (4 : Int32) (Int32.ofNat n))) + (own_term x5 (5 : Int32) (Int32.ofNat n))) + (own_term x6 (6 : Int32) (Int32.ofNat n))) + (own_term x7 (7 : Int32) (Int32.ofNat n))))]
  refine Wp.ladd (z := (((((((((own_term x0 (0 : Int32) (Int32.ofNat n)) + (own_term x1 (1 : Int32) (Int32.ofNat n))) + (own_term x2 (2 : Int32) (Int32.ofNat n))) + (own_term x3 (3 : Int32) (Int32.ofNat n))) + (own_term x4 (4 : Int32) (Int32.ofNat n))) + (own_term x5 (5 : Int32) (Int32.ofNat n))) + (own_term x6 (6 : Int32) (Int32.ofNat n))) + (own_term x7 (7 : Int32) (Int32.ofNat n))) + (own_term x8 (8 : Int32) (Int32.ofNat n)))) (pc' := 323) at_322 rfl rfl ?_
  refine Wp.aload (pc' := 325) at_323 rfl rfl rfl ?_
  refine Wp.bipush (z := (9 : Int32)) (pc' := 327) at_325 (by decide) rfl ?_
  refine Wp.iaload (i := 0) (jn := 9) (v := (.int x9)) (pc' := 328) O18 rfl at_327 (by decide) rfl rfl rfl ?_
  refine Wp.bipush (z := (9 : Int32)) (pc' := 330) at_328 (by decide) rfl ?_
  refine Wp.iloadN (pc' := 331) at_330 rfl rfl ?_
  refine Wp.callS (yy := (⟨"com/example/keyed_tensor/keyedtensor/codec/DeflateCodesIsCompletePinLaw", "term", "(III)J"⟩ : MethodName)) (pc' := 334) (argsL := [(.int x9), (.int (9 : Int32)), (.int (Int32.ofNat n))]) (S := [(.long (((((((((own_term x0 (0 : Int32) (Int32.ofNat n)) + (own_term x1 (1 : Int32) (Int32.ofNat n))) + (own_term x2 (2 : Int32) (Int32.ofNat n))) + (own_term x3 (3 : Int32) (Int32.ofNat n))) + (own_term x4 (4 : Int32) (Int32.ofNat n))) + (own_term x5 (5 : Int32) (Int32.ofNat n))) + (own_term x6 (6 : Int32) (Int32.ofNat n))) + (own_term x7 (7 : Int32) (Int32.ofNat n))) + (own_term x8 (8 : Int32) (Int32.ofNat n))))]) (rm_t l Z a0 hw x9 (9 : Int32) (Int32.ofNat n) h18 n0) (hw _ (List.mem_of_getElem? (i := 3) rfl)) (hw _ (List.mem_of_getElem? (i := 4) rfl)) (hw _ (List.mem_of_getElem? (i := 5) rfl)) (hw _ (List.mem_of_getElem? (i := 6) rfl)) (by decide) (W := 2) rfl (lenOf pd_0 rfl) rfl rfl (Nat.le_refl 2) (by decide) (by decide) (by decide) (by decide) at_331 rfl ?_
  rintro _ _ ⟨rfl, rfl⟩
  show Wp _ _ _ _ _ _ _ _ _ _ _ _ 334 #[.val (.long p0), .second, .val (.int p1), .val (.int (Int32.ofNat n)), .val (.ref a), .unset, .unset, .unset] [(.long (own_term x9 (9 : Int32) (Int32.ofNat n))), (.long (((((((((own_term x0 (0 : Int32) (Int32.ofNat n)) + (own_term x1 (1 : Int32) (Int32.ofNat n))) + (own_term x2 (2 : Int32) (Int32.ofNat n))) + (own_term x3 (3 : Int32) (Int32.ofNat n))) + (own_term x4 (4 : Int32) (Int32.ofNat n))) + (own_term x5 (5 : Int32) (Int32.ofNat n))) + (own_term x6 (6 : Int32) (Int32.ofNat n))) + (own_term x7 (7 : Int32) (Int32.ofNat n))) + (own_term x8 (8 : Int32) (Int32.ofNat n))))]
  refine Wp.ladd (z := ((((((((((own_term x0 (0 : Int32) (Int32.ofNat n)) + (own_term x1 (1 : Int32) (Int32.ofNat n))) + (own_term x2 (2 : Int32) (Int32.ofNat n))) + (own_term x3 (3 : Int32) (Int32.ofNat n))) + (own_term x4 (4 : Int32) (Int32.ofNat n))) + (own_term x5 (5 : Int32) (Int32.ofNat n))) + (own_term x6 (6 : Int32) (Int32.ofNat n))) + (own_term x7 (7 : Int32) (Int32.ofNat n))) + (own_term x8 (8 : Int32) (Int32.ofNat n))) + (own_term x9 (9 : Int32) (Int32.ofNat n)))) (pc' := 335) at_334 rfl rfl ?_
  refine Wp.aload (pc' := 337) at_335 rfl rfl rfl ?_
  refine Wp.bipush (z := (10 : Int32)) (pc' := 339) at_337 (by decide) rfl ?_
  refine Wp.iaload (i := 0) (jn := 10) (v := (.int x10)) (pc' := 340) O18 rfl at_339 (by decide) rfl rfl rfl ?_
  refine Wp.bipush (z := (10 : Int32)) (pc' := 342) at_340 (by decide) rfl ?_
  refine Wp.iloadN (pc' := 343) at_342 rfl rfl ?_
  refine Wp.callS (yy := (⟨"com/example/keyed_tensor/keyedtensor/codec/DeflateCodesIsCompletePinLaw", "term", "(III)J"⟩ : MethodName)) (pc' := 346) (argsL := [(.int x10), (.int (10 : Int32)), (.int (Int32.ofNat n))]) (S := [(.long ((((((((((own_term x0 (0 : Int32) (Int32.ofNat n)) + (own_term x1 (1 : Int32) (Int32.ofNat n))) + (own_term x2 (2 : Int32) (Int32.ofNat n))) + (own_term x3 (3 : Int32) (Int32.ofNat n))) + (own_term x4 (4 : Int32) (Int32.ofNat n))) + (own_term x5 (5 : Int32) (Int32.ofNat n))) + (own_term x6 (6 : Int32) (Int32.ofNat n))) + (own_term x7 (7 : Int32) (Int32.ofNat n))) + (own_term x8 (8 : Int32) (Int32.ofNat n))) + (own_term x9 (9 : Int32) (Int32.ofNat n))))]) (rm_t l Z a0 hw x10 (10 : Int32) (Int32.ofNat n) h18 n0) (hw _ (List.mem_of_getElem? (i := 3) rfl)) (hw _ (List.mem_of_getElem? (i := 4) rfl)) (hw _ (List.mem_of_getElem? (i := 5) rfl)) (hw _ (List.mem_of_getElem? (i := 6) rfl)) (by decide) (W := 2) rfl (lenOf pd_0 rfl) rfl rfl (Nat.le_refl 2) (by decide) (by decide) (by decide) (by decide) at_343 rfl ?_
  rintro _ _ ⟨rfl, rfl⟩
  show Wp _ _ _ _ _ _ _ _ _ _ _ _ 346 #[.val (.long p0), .second, .val (.int p1), .val (.int (Int32.ofNat n)), .val (.ref a), .unset, .unset, .unset] [(.long (own_term x10 (10 : Int32) (Int32.ofNat n))), (.long ((((((((((own_term x0 (0 : Int32) (Int32.ofNat n)) + (own_term x1 (1 : Int32) (Int32.ofNat n))) + (own_term x2 (2 : Int32) (Int32.ofNat n))) + (own_term x3 (3 : Int32) (Int32.ofNat n))) + (own_term x4 (4 : Int32) (Int32.ofNat n))) + (own_term x5 (5 : Int32) (Int32.ofNat n))) + (own_term x6 (6 : Int32) (Int32.ofNat n))) + (own_term x7 (7 : Int32) (Int32.ofNat n))) + (own_term x8 (8 : Int32) (Int32.ofNat n))) + (own_term x9 (9 : Int32) (Int32.ofNat n))))]
  refine Wp.ladd (z := (((((((((((own_term x0 (0 : Int32) (Int32.ofNat n)) + (own_term x1 (1 : Int32) (Int32.ofNat n))) + (own_term x2 (2 : Int32) (Int32.ofNat n))) + (own_term x3 (3 : Int32) (Int32.ofNat n))) + (own_term x4 (4 : Int32) (Int32.ofNat n))) + (own_term x5 (5 : Int32) (Int32.ofNat n))) + (own_term x6 (6 : Int32) (Int32.ofNat n))) + (own_term x7 (7 : Int32) (Int32.ofNat n))) + (own_term x8 (8 : Int32) (Int32.ofNat n))) + (own_term x9 (9 : Int32) (Int32.ofNat n))) + (own_term x10 (10 : Int32) (Int32.ofNat n)))) (pc' := 347) at_346 rfl rfl ?_
  refine Wp.aload (pc' := 349) at_347 rfl rfl rfl ?_
  refine Wp.bipush (z := (11 : Int32)) (pc' := 351) at_349 (by decide) rfl ?_
  refine Wp.iaload (i := 0) (jn := 11) (v := (.int x11)) (pc' := 352) O18 rfl at_351 (by decide) rfl rfl rfl ?_
  refine Wp.bipush (z := (11 : Int32)) (pc' := 354) at_352 (by decide) rfl ?_
  refine Wp.iloadN (pc' := 355) at_354 rfl rfl ?_
  refine Wp.callS (yy := (⟨"com/example/keyed_tensor/keyedtensor/codec/DeflateCodesIsCompletePinLaw", "term", "(III)J"⟩ : MethodName)) (pc' := 358) (argsL := [(.int x11), (.int (11 : Int32)), (.int (Int32.ofNat n))]) (S := [(.long (((((((((((own_term x0 (0 : Int32) (Int32.ofNat n)) + (own_term x1 (1 : Int32) (Int32.ofNat n))) + (own_term x2 (2 : Int32) (Int32.ofNat n))) + (own_term x3 (3 : Int32) (Int32.ofNat n))) + (own_term x4 (4 : Int32) (Int32.ofNat n))) + (own_term x5 (5 : Int32) (Int32.ofNat n))) + (own_term x6 (6 : Int32) (Int32.ofNat n))) + (own_term x7 (7 : Int32) (Int32.ofNat n))) + (own_term x8 (8 : Int32) (Int32.ofNat n))) + (own_term x9 (9 : Int32) (Int32.ofNat n))) + (own_term x10 (10 : Int32) (Int32.ofNat n))))]) (rm_t l Z a0 hw x11 (11 : Int32) (Int32.ofNat n) h18 n0) (hw _ (List.mem_of_getElem? (i := 3) rfl)) (hw _ (List.mem_of_getElem? (i := 4) rfl)) (hw _ (List.mem_of_getElem? (i := 5) rfl)) (hw _ (List.mem_of_getElem? (i := 6) rfl)) (by decide) (W := 2) rfl (lenOf pd_0 rfl) rfl rfl (Nat.le_refl 2) (by decide) (by decide) (by decide) (by decide) at_355 rfl ?_
  rintro _ _ ⟨rfl, rfl⟩
  show Wp _ _ _ _ _ _ _ _ _ _ _ _ 358 #[.val (.long p0), .second, .val (.int p1), .val (.int (Int32.ofNat n)), .val (.ref a), .unset, .unset, .unset] [(.long (own_term x11 (11 : Int32) (Int32.ofNat n))), (.long (((((((((((own_term x0 (0 : Int32) (Int32.ofNat n)) + (own_term x1 (1 : Int32) (Int32.ofNat n))) + (own_term x2 (2 : Int32) (Int32.ofNat n))) + (own_term x3 (3 : Int32) (Int32.ofNat n))) + (own_term x4 (4 : Int32) (Int32.ofNat n))) + (own_term x5 (5 : Int32) (Int32.ofNat n))) + (own_term x6 (6 : Int32) (Int32.ofNat n))) + (own_term x7 (7 : Int32) (Int32.ofNat n))) + (own_term x8 (8 : Int32) (Int32.ofNat n))) + (own_term x9 (9 : Int32) (Int32.ofNat n))) + (own_term x10 (10 : Int32) (Int32.ofNat n))))]
  refine Wp.ladd (z := ((((((((((((own_term x0 (0 : Int32) (Int32.ofNat n)) + (own_term x1 (1 : Int32) (Int32.ofNat n))) + (own_term x2 (2 : Int32) (Int32.ofNat n))) + (own_term x3 (3 : Int32) (Int32.ofNat n))) + (own_term x4 (4 : Int32) (Int32.ofNat n))) + (own_term x5 (5 : Int32) (Int32.ofNat n))) + (own_term x6 (6 : Int32) (Int32.ofNat n))) + (own_term x7 (7 : Int32) (Int32.ofNat n))) + (own_term x8 (8 : Int32) (Int32.ofNat n))) + (own_term x9 (9 : Int32) (Int32.ofNat n))) + (own_term x10 (10 : Int32) (Int32.ofNat n))) + (own_term x11 (11 : Int32) (Int32.ofNat n)))) (pc' := 359) at_358 rfl rfl ?_
  refine Wp.aload (pc' := 361) at_359 rfl rfl rfl ?_
  refine Wp.bipush (z := (12 : Int32)) (pc' := 363) at_361 (by decide) rfl ?_
  refine Wp.iaload (i := 0) (jn := 12) (v := (.int x12)) (pc' := 364) O18 rfl at_363 (by decide) rfl rfl rfl ?_
  refine Wp.bipush (z := (12 : Int32)) (pc' := 366) at_364 (by decide) rfl ?_
  refine Wp.iloadN (pc' := 367) at_366 rfl rfl ?_
  refine Wp.callS (yy := (⟨"com/example/keyed_tensor/keyedtensor/codec/DeflateCodesIsCompletePinLaw", "term", "(III)J"⟩ : MethodName)) (pc' := 370) (argsL := [(.int x12), (.int (12 : Int32)), (.int (Int32.ofNat n))]) (S := [(.long ((((((((((((own_term x0 (0 : Int32) (Int32.ofNat n)) + (own_term x1 (1 : Int32) (Int32.ofNat n))) + (own_term x2 (2 : Int32) (Int32.ofNat n))) + (own_term x3 (3 : Int32) (Int32.ofNat n))) + (own_term x4 (4 : Int32) (Int32.ofNat n))) + (own_term x5 (5 : Int32) (Int32.ofNat n))) + (own_term x6 (6 : Int32) (Int32.ofNat n))) + (own_term x7 (7 : Int32) (Int32.ofNat n))) + (own_term x8 (8 : Int32) (Int32.ofNat n))) + (own_term x9 (9 : Int32) (Int32.ofNat n))) + (own_term x10 (10 : Int32) (Int32.ofNat n))) + (own_term x11 (11 : Int32) (Int32.ofNat n))))]) (rm_t l Z a0 hw x12 (12 : Int32) (Int32.ofNat n) h18 n0) (hw _ (List.mem_of_getElem? (i := 3) rfl)) (hw _ (List.mem_of_getElem? (i := 4) rfl)) (hw _ (List.mem_of_getElem? (i := 5) rfl)) (hw _ (List.mem_of_getElem? (i := 6) rfl)) (by decide) (W := 2) rfl (lenOf pd_0 rfl) rfl rfl (Nat.le_refl 2) (by decide) (by decide) (by decide) (by decide) at_367 rfl ?_
  rintro _ _ ⟨rfl, rfl⟩
  show Wp _ _ _ _ _ _ _ _ _ _ _ _ 370 #[.val (.long p0), .second, .val (.int p1), .val (.int (Int32.ofNat n)), .val (.ref a), .unset, .unset, .unset] [(.long (own_term x12 (12 : Int32) (Int32.ofNat n))), (.long ((((((((((((own_term x0 (0 : Int32) (Int32.ofNat n)) + (own_term x1 (1 : Int32) (Int32.ofNat n))) + (own_term x2 (2 : Int32) (Int32.ofNat n))) + (own_term x3 (3 : Int32) (Int32.ofNat n))) + (own_term x4 (4 : Int32) (Int32.ofNat n))) + (own_term x5 (5 : Int32) (Int32.ofNat n))) + (own_term x6 (6 : Int32) (Int32.ofNat n))) + (own_term x7 (7 : Int32) (Int32.ofNat n))) + (own_term x8 (8 : Int32) (Int32.ofNat n))) + (own_term x9 (9 : Int32) (Int32.ofNat n))) + (own_term x10 (10 : Int32) (Int32.ofNat n))) + (own_term x11 (11 : Int32) (Int32.ofNat n))))]
  refine Wp.ladd (z := (((((((((((((own_term x0 (0 : Int32) (Int32.ofNat n)) + (own_term x1 (1 : Int32) (Int32.ofNat n))) + (own_term x2 (2 : Int32) (Int32.ofNat n))) + (own_term x3 (3 : Int32) (Int32.ofNat n))) + (own_term x4 (4 : Int32) (Int32.ofNat n))) + (own_term x5 (5 : Int32) (Int32.ofNat n))) + (own_term x6 (6 : Int32) (Int32.ofNat n))) + (own_term x7 (7 : Int32) (Int32.ofNat n))) + (own_term x8 (8 : Int32) (Int32.ofNat n))) + (own_term x9 (9 : Int32) (Int32.ofNat n))) + (own_term x10 (10 : Int32) (Int32.ofNat n))) + (own_term x11 (11 : Int32) (Int32.ofNat n))) + (own_term x12 (12 : Int32) (Int32.ofNat n)))) (pc' := 371) at_370 rfl rfl ?_
  refine Wp.aload (pc' := 373) at_371 rfl rfl rfl ?_
  refine Wp.bipush (z := (13 : Int32)) (pc' := 375) at_373 (by decide) rfl ?_
  refine Wp.iaload (i := 0) (jn := 13) (v := (.int x13)) (pc' := 376) O18 rfl at_375 (by decide) rfl rfl rfl ?_
  refine Wp.bipush (z := (13 : Int32)) (pc' := 378) at_376 (by decide) rfl ?_
  refine Wp.iloadN (pc' := 379) at_378 rfl rfl ?_
  refine Wp.callS (yy := (⟨"com/example/keyed_tensor/keyedtensor/codec/DeflateCodesIsCompletePinLaw", "term", "(III)J"⟩ : MethodName)) (pc' := 382) (argsL := [(.int x13), (.int (13 : Int32)), (.int (Int32.ofNat n))]) (S := [(.long (((((((((((((own_term x0 (0 : Int32) (Int32.ofNat n)) + (own_term x1 (1 : Int32) (Int32.ofNat n))) + (own_term x2 (2 : Int32) (Int32.ofNat n))) + (own_term x3 (3 : Int32) (Int32.ofNat n))) + (own_term x4 (4 : Int32) (Int32.ofNat n))) + (own_term x5 (5 : Int32) (Int32.ofNat n))) + (own_term x6 (6 : Int32) (Int32.ofNat n))) + (own_term x7 (7 : Int32) (Int32.ofNat n))) + (own_term x8 (8 : Int32) (Int32.ofNat n))) + (own_term x9 (9 : Int32) (Int32.ofNat n))) + (own_term x10 (10 : Int32) (Int32.ofNat n))) + (own_term x11 (11 : Int32) (Int32.ofNat n))) + (own_term x12 (12 : Int32) (Int32.ofNat n))))]) (rm_t l Z a0 hw x13 (13 : Int32) (Int32.ofNat n) h18 n0) (hw _ (List.mem_of_getElem? (i := 3) rfl)) (hw _ (List.mem_of_getElem? (i := 4) rfl)) (hw _ (List.mem_of_getElem? (i := 5) rfl)) (hw _ (List.mem_of_getElem? (i := 6) rfl)) (by decide) (W := 2) rfl (lenOf pd_0 rfl) rfl rfl (Nat.le_refl 2) (by decide) (by decide) (by decide) (by decide) at_379 rfl ?_
  rintro _ _ ⟨rfl, rfl⟩
  show Wp _ _ _ _ _ _ _ _ _ _ _ _ 382 #[.val (.long p0), .second, .val (.int p1), .val (.int (Int32.ofNat n)), .val (.ref a), .unset, .unset, .unset] [(.long (own_term x13 (13 : Int32) (Int32.ofNat n))), (.long (((((((((((((own_term x0 (0 : Int32) (Int32.ofNat n)) + (own_term x1 (1 : Int32) (Int32.ofNat n))) + (own_term x2 (2 : Int32) (Int32.ofNat n))) + (own_term x3 (3 : Int32) (Int32.ofNat n))) + (own_term x4 (4 : Int32) (Int32.ofNat n))) + (own_term x5 (5 : Int32) (Int32.ofNat n))) + (own_term x6 (6 : Int32) (Int32.ofNat n))) + (own_term x7 (7 : Int32) (Int32.ofNat n))) + (own_term x8 (8 : Int32) (Int32.ofNat n))) + (own_term x9 (9 : Int32) (Int32.ofNat n))) + (own_term x10 (10 : Int32) (Int32.ofNat n))) + (own_term x11 (11 : Int32) (Int32.ofNat n))) + (own_term x12 (12 : Int32) (Int32.ofNat n))))]
  refine Wp.ladd (z := ((((((((((((((own_term x0 (0 : Int32) (Int32.ofNat n)) + (own_term x1 (1 : Int32) (Int32.ofNat n))) + (own_term x2 (2 : Int32) (Int32.ofNat n))) + (own_term x3 (3 : Int32) (Int32.ofNat n))) + (own_term x4 (4 : Int32) (Int32.ofNat n))) + (own_term x5 (5 : Int32) (Int32.ofNat n))) + (own_term x6 (6 : Int32) (Int32.ofNat n))) + (own_term x7 (7 : Int32) (Int32.ofNat n))) + (own_term x8 (8 : Int32) (Int32.ofNat n))) + (own_term x9 (9 : Int32) (Int32.ofNat n))) + (own_term x10 (10 : Int32) (Int32.ofNat n))) + (own_term x11 (11 : Int32) (Int32.ofNat n))) + (own_term x12 (12 : Int32) (Int32.ofNat n))) + (own_term x13 (13 : Int32) (Int32.ofNat n)))) (pc' := 383) at_382 rfl rfl ?_
  refine Wp.aload (pc' := 385) at_383 rfl rfl rfl ?_
  refine Wp.bipush (z := (14 : Int32)) (pc' := 387) at_385 (by decide) rfl ?_
  refine Wp.iaload (i := 0) (jn := 14) (v := (.int x14)) (pc' := 388) O18 rfl at_387 (by decide) rfl rfl rfl ?_
  refine Wp.bipush (z := (14 : Int32)) (pc' := 390) at_388 (by decide) rfl ?_
  refine Wp.iloadN (pc' := 391) at_390 rfl rfl ?_
  refine Wp.callS (yy := (⟨"com/example/keyed_tensor/keyedtensor/codec/DeflateCodesIsCompletePinLaw", "term", "(III)J"⟩ : MethodName)) (pc' := 394) (argsL := [(.int x14), (.int (14 : Int32)), (.int (Int32.ofNat n))]) (S := [(.long ((((((((((((((own_term x0 (0 : Int32) (Int32.ofNat n)) + (own_term x1 (1 : Int32) (Int32.ofNat n))) + (own_term x2 (2 : Int32) (Int32.ofNat n))) + (own_term x3 (3 : Int32) (Int32.ofNat n))) + (own_term x4 (4 : Int32) (Int32.ofNat n))) + (own_term x5 (5 : Int32) (Int32.ofNat n))) + (own_term x6 (6 : Int32) (Int32.ofNat n))) + (own_term x7 (7 : Int32) (Int32.ofNat n))) + (own_term x8 (8 : Int32) (Int32.ofNat n))) + (own_term x9 (9 : Int32) (Int32.ofNat n))) + (own_term x10 (10 : Int32) (Int32.ofNat n))) + (own_term x11 (11 : Int32) (Int32.ofNat n))) + (own_term x12 (12 : Int32) (Int32.ofNat n))) + (own_term x13 (13 : Int32) (Int32.ofNat n))))]) (rm_t l Z a0 hw x14 (14 : Int32) (Int32.ofNat n) h18 n0) (hw _ (List.mem_of_getElem? (i := 3) rfl)) (hw _ (List.mem_of_getElem? (i := 4) rfl)) (hw _ (List.mem_of_getElem? (i := 5) rfl)) (hw _ (List.mem_of_getElem? (i := 6) rfl)) (by decide) (W := 2) rfl (lenOf pd_0 rfl) rfl rfl (Nat.le_refl 2) (by decide) (by decide) (by decide) (by decide) at_391 rfl ?_
  rintro _ _ ⟨rfl, rfl⟩
  show Wp _ _ _ _ _ _ _ _ _ _ _ _ 394 #[.val (.long p0), .second, .val (.int p1), .val (.int (Int32.ofNat n)), .val (.ref a), .unset, .unset, .unset] [(.long (own_term x14 (14 : Int32) (Int32.ofNat n))), (.long ((((((((((((((own_term x0 (0 : Int32) (Int32.ofNat n)) + (own_term x1 (1 : Int32) (Int32.ofNat n))) + (own_term x2 (2 : Int32) (Int32.ofNat n))) + (own_term x3 (3 : Int32) (Int32.ofNat n))) + (own_term x4 (4 : Int32) (Int32.ofNat n))) + (own_term x5 (5 : Int32) (Int32.ofNat n))) + (own_term x6 (6 : Int32) (Int32.ofNat n))) + (own_term x7 (7 : Int32) (Int32.ofNat n))) + (own_term x8 (8 : Int32) (Int32.ofNat n))) + (own_term x9 (9 : Int32) (Int32.ofNat n))) + (own_term x10 (10 : Int32) (Int32.ofNat n))) + (own_term x11 (11 : Int32) (Int32.ofNat n))) + (own_term x12 (12 : Int32) (Int32.ofNat n))) + (own_term x13 (13 : Int32) (Int32.ofNat n))))]
  refine Wp.ladd (z := (((((((((((((((own_term x0 (0 : Int32) (Int32.ofNat n)) + (own_term x1 (1 : Int32) (Int32.ofNat n))) + (own_term x2 (2 : Int32) (Int32.ofNat n))) + (own_term x3 (3 : Int32) (Int32.ofNat n))) + (own_term x4 (4 : Int32) (Int32.ofNat n))) + (own_term x5 (5 : Int32) (Int32.ofNat n))) + (own_term x6 (6 : Int32) (Int32.ofNat n))) + (own_term x7 (7 : Int32) (Int32.ofNat n))) + (own_term x8 (8 : Int32) (Int32.ofNat n))) + (own_term x9 (9 : Int32) (Int32.ofNat n))) + (own_term x10 (10 : Int32) (Int32.ofNat n))) + (own_term x11 (11 : Int32) (Int32.ofNat n))) + (own_term x12 (12 : Int32) (Int32.ofNat n))) + (own_term x13 (13 : Int32) (Int32.ofNat n))) + (own_term x14 (14 : Int32) (Int32.ofNat n)))) (pc' := 395) at_394 rfl rfl ?_
  refine Wp.aload (pc' := 397) at_395 rfl rfl rfl ?_
  refine Wp.bipush (z := (15 : Int32)) (pc' := 399) at_397 (by decide) rfl ?_
  refine Wp.iaload (i := 0) (jn := 15) (v := (.int x15)) (pc' := 400) O18 rfl at_399 (by decide) rfl rfl rfl ?_
  refine Wp.bipush (z := (15 : Int32)) (pc' := 402) at_400 (by decide) rfl ?_
  refine Wp.iloadN (pc' := 403) at_402 rfl rfl ?_
  refine Wp.callS (yy := (⟨"com/example/keyed_tensor/keyedtensor/codec/DeflateCodesIsCompletePinLaw", "term", "(III)J"⟩ : MethodName)) (pc' := 406) (argsL := [(.int x15), (.int (15 : Int32)), (.int (Int32.ofNat n))]) (S := [(.long (((((((((((((((own_term x0 (0 : Int32) (Int32.ofNat n)) + (own_term x1 (1 : Int32) (Int32.ofNat n))) + (own_term x2 (2 : Int32) (Int32.ofNat n))) + (own_term x3 (3 : Int32) (Int32.ofNat n))) + (own_term x4 (4 : Int32) (Int32.ofNat n))) + (own_term x5 (5 : Int32) (Int32.ofNat n))) + (own_term x6 (6 : Int32) (Int32.ofNat n))) + (own_term x7 (7 : Int32) (Int32.ofNat n))) + (own_term x8 (8 : Int32) (Int32.ofNat n))) + (own_term x9 (9 : Int32) (Int32.ofNat n))) + (own_term x10 (10 : Int32) (Int32.ofNat n))) + (own_term x11 (11 : Int32) (Int32.ofNat n))) + (own_term x12 (12 : Int32) (Int32.ofNat n))) + (own_term x13 (13 : Int32) (Int32.ofNat n))) + (own_term x14 (14 : Int32) (Int32.ofNat n))))]) (rm_t l Z a0 hw x15 (15 : Int32) (Int32.ofNat n) h18 n0) (hw _ (List.mem_of_getElem? (i := 3) rfl)) (hw _ (List.mem_of_getElem? (i := 4) rfl)) (hw _ (List.mem_of_getElem? (i := 5) rfl)) (hw _ (List.mem_of_getElem? (i := 6) rfl)) (by decide) (W := 2) rfl (lenOf pd_0 rfl) rfl rfl (Nat.le_refl 2) (by decide) (by decide) (by decide) (by decide) at_403 rfl ?_
  rintro _ _ ⟨rfl, rfl⟩
  show Wp _ _ _ _ _ _ _ _ _ _ _ _ 406 #[.val (.long p0), .second, .val (.int p1), .val (.int (Int32.ofNat n)), .val (.ref a), .unset, .unset, .unset] [(.long (own_term x15 (15 : Int32) (Int32.ofNat n))), (.long (((((((((((((((own_term x0 (0 : Int32) (Int32.ofNat n)) + (own_term x1 (1 : Int32) (Int32.ofNat n))) + (own_term x2 (2 : Int32) (Int32.ofNat n))) + (own_term x3 (3 : Int32) (Int32.ofNat n))) + (own_term x4 (4 : Int32) (Int32.ofNat n))) + (own_term x5 (5 : Int32) (Int32.ofNat n))) + (own_term x6 (6 : Int32) (Int32.ofNat n))) + (own_term x7 (7 : Int32) (Int32.ofNat n))) + (own_term x8 (8 : Int32) (Int32.ofNat n))) + (own_term x9 (9 : Int32) (Int32.ofNat n))) + (own_term x10 (10 : Int32) (Int32.ofNat n))) + (own_term x11 (11 : Int32) (Int32.ofNat n))) + (own_term x12 (12 : Int32) (Int32.ofNat n))) + (own_term x13 (13 : Int32) (Int32.ofNat n))) + (own_term x14 (14 : Int32) (Int32.ofNat n))))]
  refine Wp.ladd (z := ((((((((((((((((own_term x0 (0 : Int32) (Int32.ofNat n)) + (own_term x1 (1 : Int32) (Int32.ofNat n))) + (own_term x2 (2 : Int32) (Int32.ofNat n))) + (own_term x3 (3 : Int32) (Int32.ofNat n))) + (own_term x4 (4 : Int32) (Int32.ofNat n))) + (own_term x5 (5 : Int32) (Int32.ofNat n))) + (own_term x6 (6 : Int32) (Int32.ofNat n))) + (own_term x7 (7 : Int32) (Int32.ofNat n))) + (own_term x8 (8 : Int32) (Int32.ofNat n))) + (own_term x9 (9 : Int32) (Int32.ofNat n))) + (own_term x10 (10 : Int32) (Int32.ofNat n))) + (own_term x11 (11 : Int32) (Int32.ofNat n))) + (own_term x12 (12 : Int32) (Int32.ofNat n))) + (own_term x13 (13 : Int32) (Int32.ofNat n))) + (own_term x14 (14 : Int32) (Int32.ofNat n))) + (own_term x15 (15 : Int32) (Int32.ofNat n)))) (pc' := 407) at_406 rfl rfl ?_
  have hb : ∀ x ∈ [x0, x1, x2, x3, x4, x5, x6, x7, x8, x9, x10, x11, x12, x13, x14, x15], 0 ≤ x.toInt ∧ x.toInt ≤ 15 := by
    simp only [List.mem_cons, forall_eq_or_imp, List.not_mem_nil, false_implies, implies_true, and_true]
    exact ⟨by rw [e_x0]; exact own_nib _, by rw [e_x1]; exact own_nib _, by rw [e_x2]; exact own_nib _, by rw [e_x3]; exact own_nib _, by rw [e_x4]; exact own_nib _, by rw [e_x5]; exact own_nib _, by rw [e_x6]; exact own_nib _, by rw [e_x7]; exact own_nib _, by rw [e_x8]; exact own_nib _, by rw [e_x9]; exact own_nib _, by rw [e_x10]; exact own_nib _, by rw [e_x11]; exact own_nib _, by rw [e_x12]; exact own_nib _, by rw [e_x13]; exact own_nib _, by rw [e_x14]; exact own_nib _, by rw [e_x15]; exact own_nib _⟩
  have hs := own_all x0 x1 x2 x3 x4 x5 x6 x7 x8 x9 x10 x11 x12 x13 x14 x15 n hn hb (Int32.ofNat n) rfl
  obtain ⟨S, e_S⟩ : ∃ z, z = ((((((((((((((((own_term x0 (0 : Int32) (Int32.ofNat n)) + (own_term x1 (1 : Int32) (Int32.ofNat n))) + (own_term x2 (2 : Int32) (Int32.ofNat n))) + (own_term x3 (3 : Int32) (Int32.ofNat n))) + (own_term x4 (4 : Int32) (Int32.ofNat n))) + (own_term x5 (5 : Int32) (Int32.ofNat n))) + (own_term x6 (6 : Int32) (Int32.ofNat n))) + (own_term x7 (7 : Int32) (Int32.ofNat n))) + (own_term x8 (8 : Int32) (Int32.ofNat n))) + (own_term x9 (9 : Int32) (Int32.ofNat n))) + (own_term x10 (10 : Int32) (Int32.ofNat n))) + (own_term x11 (11 : Int32) (Int32.ofNat n))) + (own_term x12 (12 : Int32) (Int32.ofNat n))) + (own_term x13 (13 : Int32) (Int32.ofNat n))) + (own_term x14 (14 : Int32) (Int32.ofNat n))) + (own_term x15 (15 : Int32) (Int32.ofNat n))) := ⟨_, rfl⟩
  rw [← e_S]
  rw [← e_S] at hs
  refine Wp.lstore (L' := #[.val (.long p0), .second, .val (.int p1), .val (.int (Int32.ofNat n)), .val (.ref a), .val (.long S), .second, .unset]) (pc' := 409) at_407 rfl rfl ?_
  refine Wp.lload (pc' := 411) at_409 rfl rfl ?_
  refine Wp.ldc2Long (v := (32768 : Int64)) (pc' := 414) (hw _ (List.mem_of_getElem? (i := 7) rfl)) at_411 rfl ?_
  have tail : ∀ z : Int32, z = own_fin S → Wp l Z room_1 x code maxLocals ret n0 (fun v _ => v = some (.int 1)) h18 1 16 423 #[.val (.long p0), .second, .val (.int p1), .val (.int (Int32.ofNat n)), .val (.ref a), .val (.long S), .second, .unset] [(.int z)] := by
    intro z hz
    refine Wp.istore (L' := #[.val (.long p0), .second, .val (.int p1), .val (.int (Int32.ofNat n)), .val (.ref a), .val (.long S), .second, .val (.int z)]) (pc' := 425) at_423 rfl rfl ?_
    refine Wp.aload (pc' := 427) at_425 rfl rfl rfl ?_
    refine Wp.iloadN (pc' := 428) at_427 rfl rfl ?_
    refine Wp.callS (yy := (⟨"com/example/keyed_tensor/keyedtensor/codec/DeflateCodes", "isComplete", "([II)Z"⟩ : MethodName)) (pc' := 431) (argsL := [(.ref a), (.int (Int32.ofNat n))]) (S := []) (rm_c l Z a0 hw a k1 _ (own_L x0 x1 x2 x3 x4 x5 x6 x7 x8 x9 x10 x11 x12 x13 x14 x15) n hn h18 n0 O18 (own_get x0 x1 x2 x3 x4 x5 x6 x7 x8 x9 x10 x11 x12 x13 x14 x15 n hn)) (hw _ (List.mem_of_getElem? (i := 8) rfl)) (hw _ (List.mem_of_getElem? (i := 9) rfl)) (hw _ (List.mem_of_getElem? (i := 10) rfl)) (hw _ (List.mem_of_getElem? (i := 11) rfl)) (by decide) (W := 0) rfl (lenOf pd_1 rfl) rfl rfl (Nat.le_refl 0) (by decide) (by decide) (by decide) (by decide) at_428 rfl ?_
    rintro _ _ ⟨rfl, rfl⟩
    show Wp _ _ _ _ _ _ _ _ _ _ _ _ 431 #[.val (.long p0), .second, .val (.int p1), .val (.int (Int32.ofNat n)), .val (.ref a), .val (.long S), .second, .val (.int z)] [(.int (own_fin (own_sum (own_L x0 x1 x2 x3 x4 x5 x6 x7 x8 x9 x10 x11 x12 x13 x14 x15) n 0 0)))]
    refine Wp.iload (pc' := 433) at_431 rfl rfl ?_
    refine Wp.icmpN (pc' := 436) at_433 (not_not_intro (by rw [hz, hs])) rfl ?_
    refine Wp.iconst (z := (1 : Int32)) (pc' := 437) at_436 (by decide) rfl ?_
    refine Wp.goto (pc' := 441) at_437 (by decide) (by decide) ?_
    exact Wp.retS (t := .boolean) rfl (Or.inl rfl) rfl at_441 (by decide) (by decide) rfl
  by_cases c414 : S = (32768 : Int64)
  · refine Wp.lcmpN (pc' := 418) (p1 := 415) at_414 rfl at_415 (not_not_intro c414) rfl ?_
    refine Wp.iconst (z := (1 : Int32)) (pc' := 419) at_418 (by decide) rfl ?_
    refine Wp.goto (pc' := 423) at_419 (by decide) (by decide) ?_
    exact tail _ (by unfold own_fin; (repeat' split) <;> first | rfl | contradiction)
  · refine Wp.lcmpY (pc' := 422) (p1 := 415) at_414 rfl at_415 c414 (by decide) (by decide) ?_
    refine Wp.iconst (z := (0 : Int32)) (pc' := 423) at_422 (by decide) rfl ?_
    exact tail _ (by unfold own_fin; (repeat' split) <;> first | rfl | contradiction)

set_option maxRecDepth 65536 in
set_option maxHeartbeats 40000000 in
theorem comes_1 {Post : Tables → Env → Array Value → State → Outcome → State → Prop} (hpost : ∀ tb e args s v u, (limb_1_1.after args s (.returned v) u = true ∧ limb_1_2.after args s (.returned v) u = true ∧ True) → FrameEnd s (.returned v) u (Jvm.fieldLocs frame_1_writes args s ++ Jvm.arrayLocs frame_1_arrays args s ++ Jvm.staticLocs frame_1_statics s) 16 128 → Post tb e args s (.returned v) u) :
    ArmFor flags0 classFile x code maxLocals ret World_1 tables_1 room_1 Calls_1 rest_1 Pre_1 Post := by
  intro l hfl _ _ p e ha hc hk s m args below hf hA hF happ hP
  obtain ⟨hcalls, hrest, hpre⟩ := hP
  obtain ⟨-, -, -, hnamed, -, -, -, hat⟩ := (Spec.applies_iff hf).mp happ
  obtain ⟨hg, hn⟩ := and_e (Cond.before_iff.mp (show (Jvm.Cond.and given_1 narrow_1).before args s = true from hpre))
  obtain ⟨g0, q0⟩ := and_e hg
  obtain ⟨w0, w1, rfl⟩ : ∃ w0 w1 : Value, args = #[w0, w1] := by
    have hs : args.size = 2 := by simpa [Cond.value, given_1] using g0
    obtain ⟨L⟩ := args
    match L, hs with
    | [w0, w1], _ => exact ⟨w0, w1, rfl⟩
  have hw := fun d (hd : d ∈ tables_1) => atoms_spec (ws := Jvm.Cond.code x code maxLocals ret :: tables_1) hat d (List.mem_cons_of_mem _ hd)
  obtain ⟨g1, q1⟩ := and_e q0
  obtain ⟨i0, e0⟩ := isL_v g1
  obtain rfl : w0 = (.long i0) := Option.some.inj e0
  obtain ⟨i1, e1⟩ := is_v q1
  obtain rfl : w1 = (.int i1) := Option.some.inj e1
  obtain ⟨n, o, h1, h2, h3, v, L, rfl, ⟨hv, N⟩, hq⟩ := (rm0 l s _ hw i0 i1 s.heap s.heap.size (Nat.le_refl _)) tables_1 p e ha hc hk s m _ below hf ((Spec.applies_iff_loose hf).mp happ).1 ⟨rfl, State.Warmed39.refl s, rfl⟩ trivial
  subst hv
  refine ⟨n, _, h1, h2, h3, hpost _ _ _ _ _ _ ⟨Cond.after_iff.mpr rfl, Cond.after_iff.mpr (eq_i res_at (Term.int_eval (1)) rfl), trivial⟩ ⟨hq.1, hq.2.1, (hq.2.2.sift fun y hy => Or.inr (N y hy)).mono (by decide) (by decide)⟩⟩
theorem main_1_1 : Claimed_1_1 := comes_1 fun _ _ _ _ _ _ h hF => ⟨h.1, hF⟩
theorem main_1_2 : Claimed_1_2 := comes_1 fun _ _ _ _ _ _ h hF => ⟨h.2.1, hF⟩

end Jvm.Pilot.@@N@@
namespace Jvm.Pilot.@@N@@
open Jvm Jvm.ClassFile Sem Op Lib Jvm.Free Jvm.Stand Jvm.Pilot.@@N@@.Jvm.D
/-! MADE BY PROGRAM (witnessworld.py) out of the Statement's table words and the real class files: 9 classes; the members and pool entries that the words name. The judged class is class 1, her method 1. -/
namespace start1
open Jvm.ClassFile
def u (s : String) : CpInfo := .utf8 (stringToUtf16 s)
/-- a pool by its gaps: so many unusable entries, then the entry; so many at the end -/
def gap : Nat → List CpInfo → List CpInfo
  | 0, r => r
  | n + 1, r => .unusable :: gap n r
def poolList (es : List (Nat × CpInfo)) (last : Nat) : List CpInfo := es.foldr (fun e r => gap e.1 (e.2 :: r)) (gap last [])
def pool (es : List (Nat × CpInfo)) (last : Nat) : Array CpInfo := ⟨poolList es last⟩
def fileOf (pool : Array CpInfo) (this : Nat) (attrs : Array Attribute := #[]) (ms : Array MethodInfo := #[]) (fl : Nat := 33) (sup : Nat := 0) (ifs : Array Nat := #[]) (fds : Array FieldInfo := #[]) : ClassFile where
  minorVersion := 0
  majorVersion := 65
  constantPool := pool
  accessFlags := fl
  thisClass := this
  superClass := sup
  interfaces := ifs
  fields := fds
  methods := ms
  attributes := attrs
def plain (name : String) (sup : Option ClassId) : Class where
  name := name
  kind := .ordinary
  loader := none
  accessFlags := 33
  super := sup
  interfaces := #[]
  cf := none
  fields := #[]
  methods := #[]
  instanceTypes := #[]
  staticTypes := #[]
  resolved := #[]
  callSites := []
  init := .initialized
  statics := none
  mirror := none

def pool0 : Array CpInfo := pool [(5, u "<init>"), (0, u "()V"), (1, .class_ 10), (1, u "java/lang/Object")] 113

def k0m0 : Method := { name := "<init>", desc := "()V", sig := { parameters := [], returnType := none }, accessFlags := 1, code := none }
/-- java/lang/Object -/
def k0 : Class := { plain "java/lang/Object" none with
  accessFlags := 33
  interfaces := #[]
  cf := some (fileOf pool0 8 #[] #[{ accessFlags := 1, nameIndex := 5, descriptorIndex := 6, attributes := #[] }] 33 0 #[] #[])
  fields := #[]
  methods := #[k0m0]
  instanceTypes := #[]
  staticTypes := #[]
  resolved := Array.replicate 124 none
  statics := none }

def pool1 : Array CpInfo := pool [(2, .class_ 4), (1, u "java/lang/Object"), (0, u "<init>"), (0, u "()V"), (0, .integer 2147483647), (0, .long 15), (1, .methodref 11 12), (0, .class_ 13), (0, .nameAndType 14 15), (0, u "com/example/keyed_tensor/keyedtensor/codec/DeflateCodesIsCompletePinLaw"), (0, u "term"), (0, u "(III)J"), (0, .long 32768), (1, .methodref 19 20), (0, .class_ 21), (0, .nameAndType 22 23), (0, u "com/example/keyed_tensor/keyedtensor/codec/DeflateCodes"), (0, u "isComplete"), (0, u "([II)Z"), (2, u "law"), (0, u "(JI)Z")] 5

def k1m0 : Method := { name := "<init>", desc := "()V", sig := { parameters := [], returnType := none }, accessFlags := 2, code := none }
def k1c1 : Code := { maxStack := 6, maxLocals := 8, code := code, exceptionTable := #[], attributes := #[] }
def k1m1 : Method := { name := "law", desc := "(JI)Z", sig := { parameters := [.long, .int], returnType := some .boolean }, accessFlags := 9, code := some k1c1 }
def k1c2 : Code := { maxStack := 3, maxLocals := 3, code := method_3_code, exceptionTable := #[], attributes := #[] }
def k1m2 : Method := { name := "term", desc := "(III)J", sig := { parameters := [.int, .int, .int], returnType := some .long }, accessFlags := 10, code := some k1c2 }
/-- com/example/keyed_tensor/keyedtensor/codec/DeflateCodesIsCompletePinLaw -/
def k1 : Class := { plain "com/example/keyed_tensor/keyedtensor/codec/DeflateCodesIsCompletePinLaw" (some 0) with
  accessFlags := 49
  interfaces := #[]
  cf := some (fileOf pool1 11 #[] #[{ accessFlags := 2, nameIndex := 5, descriptorIndex := 6, attributes := #[] }, { accessFlags := 9, nameIndex := 26, descriptorIndex := 27, attributes := #[] }, { accessFlags := 10, nameIndex := 14, descriptorIndex := 15, attributes := #[] }] 49 2 #[] #[])
  fields := #[]
  methods := #[k1m0, k1m1, k1m2]
  instanceTypes := #[]
  staticTypes := #[]
  resolved := Array.replicate 33 none
  statics := none }

def pool2 : Array CpInfo := pool [(2, .class_ 4), (1, u "java/lang/Object"), (0, u "<init>"), (0, u "()V"), (9, .class_ 17), (0, u "com/example/keyed_tensor/keyedtensor/codec/DeflateCodes"), (6, .long 32768), (3, u "LENGTH_BASE"), (0, u "[I"), (2, u "LENGTH_EXTRA"), (2, u "DISTANCE_BASE"), (2, u "DISTANCE_EXTRA"), (2, u "CODE_LENGTH_ORDER"), (0, u "WINDOW"), (0, u "I"), (2, u "LONGEST_MATCH"), (1, u "END_OF_BLOCK"), (1, u "LITERAL_LENGTH_SYMBOLS"), (1, u "DISTANCE_SYMBOLS"), (1, u "CODE_LENGTH_SYMBOLS"), (1, u "LONGEST_CODE"), (1, u "LONGEST_CODE_LENGTH_CODE"), (10, u "isComplete"), (0, u "([II)Z"), (4, .class_ 76), (0, u "com/example/keyed_tensor/keyedtensor/codec/DeflateCodes$Wrapping")] 2

def k2m0 : Method := { name := "<init>", desc := "()V", sig := { parameters := [], returnType := none }, accessFlags := 2, code := none }
def k2c1 : Code := { maxStack := 7, maxLocals := 5, code := prog_38_method_5_code, exceptionTable := #[], attributes := #[] }
def k2m1 : Method := { name := "isComplete", desc := "([II)Z", sig := { parameters := [(.array .int), .int], returnType := some .boolean }, accessFlags := 8, code := some k2c1 }
/-- com/example/keyed_tensor/keyedtensor/codec/DeflateCodes -/
def k2 : Class := { plain "com/example/keyed_tensor/keyedtensor/codec/DeflateCodes" (some 0) with
  accessFlags := 32
  interfaces := #[]
  cf := some (fileOf pool2 16 #[.nestMembers #[75]] #[{ accessFlags := 2, nameIndex := 5, descriptorIndex := 6, attributes := #[] }, { accessFlags := 8, nameIndex := 69, descriptorIndex := 70, attributes := #[] }] 32 2 #[] #[{ accessFlags := 24, nameIndex := 42, descriptorIndex := 43, attributes := #[] }, { accessFlags := 24, nameIndex := 46, descriptorIndex := 43, attributes := #[] }, { accessFlags := 24, nameIndex := 48, descriptorIndex := 43, attributes := #[] }, { accessFlags := 24, nameIndex := 50, descriptorIndex := 43, attributes := #[] }, { accessFlags := 24, nameIndex := 52, descriptorIndex := 43, attributes := #[] }, { accessFlags := 24, nameIndex := 54, descriptorIndex := 43, attributes := #[] }, { accessFlags := 24, nameIndex := 56, descriptorIndex := 43, attributes := #[] }, { accessFlags := 24, nameIndex := 58, descriptorIndex := 43, attributes := #[] }, { accessFlags := 24, nameIndex := 28, descriptorIndex := 29, attributes := #[] }, { accessFlags := 24, nameIndex := 32, descriptorIndex := 29, attributes := #[] }, { accessFlags := 24, nameIndex := 35, descriptorIndex := 29, attributes := #[] }, { accessFlags := 24, nameIndex := 38, descriptorIndex := 29, attributes := #[] }, { accessFlags := 24, nameIndex := 41, descriptorIndex := 29, attributes := #[] }])
  fields := #[{ name := "WINDOW", type := .int, accessFlags := 24, slot := 0, constantValue := 0 }, { name := "LONGEST_MATCH", type := .int, accessFlags := 24, slot := 1, constantValue := 0 }, { name := "END_OF_BLOCK", type := .int, accessFlags := 24, slot := 2, constantValue := 0 }, { name := "LITERAL_LENGTH_SYMBOLS", type := .int, accessFlags := 24, slot := 3, constantValue := 0 }, { name := "DISTANCE_SYMBOLS", type := .int, accessFlags := 24, slot := 4, constantValue := 0 }, { name := "CODE_LENGTH_SYMBOLS", type := .int, accessFlags := 24, slot := 5, constantValue := 0 }, { name := "LONGEST_CODE", type := .int, accessFlags := 24, slot := 6, constantValue := 0 }, { name := "LONGEST_CODE_LENGTH_CODE", type := .int, accessFlags := 24, slot := 7, constantValue := 0 }, { name := "LENGTH_BASE", type := (.array .int), accessFlags := 24, slot := 8, constantValue := 0 }, { name := "LENGTH_EXTRA", type := (.array .int), accessFlags := 24, slot := 9, constantValue := 0 }, { name := "DISTANCE_BASE", type := (.array .int), accessFlags := 24, slot := 10, constantValue := 0 }, { name := "DISTANCE_EXTRA", type := (.array .int), accessFlags := 24, slot := 11, constantValue := 0 }, { name := "CODE_LENGTH_ORDER", type := (.array .int), accessFlags := 24, slot := 12, constantValue := 0 }]
  methods := #[k2m0, k2m1]
  instanceTypes := #[]
  staticTypes := #[.int, .int, .int, .int, .int, .int, .int, .int, (.array .int), (.array .int), (.array .int), (.array .int), (.array .int)]
  resolved := Array.replicate 79 none
  statics := none }

def pool3 : Array CpInfo := pool [(1, u "java/lang/Cloneable"), (0, .class_ 1), (0, u "java/lang/Object"), (0, .class_ 3)] 3

/-- java/lang/Cloneable -/
def k3 : Class := { plain "java/lang/Cloneable" (some 0) with
  accessFlags := 1537
  interfaces := #[]
  cf := some (fileOf pool3 2 #[] #[] 1537 4 #[] #[])
  fields := #[]
  methods := #[]
  instanceTypes := #[]
  staticTypes := #[]
  resolved := Array.replicate 8 none
  statics := none }

def pool4 : Array CpInfo := pool [(1, u "java/io/Serializable"), (0, .class_ 1), (0, u "java/lang/Object"), (0, .class_ 3)] 3

/-- java/io/Serializable -/
def k4 : Class := { plain "java/io/Serializable" (some 0) with
  accessFlags := 1537
  interfaces := #[]
  cf := some (fileOf pool4 2 #[] #[] 1537 4 #[] #[])
  fields := #[]
  methods := #[]
  instanceTypes := #[]
  staticTypes := #[]
  resolved := Array.replicate 8 none
  statics := none }

/-- the primitive byte -/
def k5 : Class := { plain "byte" none with kind := .primitive 'B', accessFlags := 0x411 }
/-- [B -/
def k6 : Class := { plain "[B" (some 0) with kind := .array 5 .byte, interfaces := #[3, 4], accessFlags := 1041 }

/-- the primitive int -/
def k7 : Class := { plain "int" none with kind := .primitive 'I', accessFlags := 0x411 }
/-- [I -/
def k8 : Class := { plain "[I" (some 0) with kind := .array 7 .int, interfaces := #[3, 4], accessFlags := 1041 }

def heap : Heap := #[]
def classes : Array Class := #[k0, k1, k2, k3, k4, k5, k6, k7, k8]
def interned : List (Array UInt16 × Addr) := []
def slotsUsed : Nat := 0
def theMethod : MethodId := ⟨1, 1⟩
def args0 : Array Value := #[.long 5, .int 300]
def aboutOver (below : List Frame) : State where
  vm := { classes := classes, interned := interned.toArray }
  heap := heap
  slotsUsed := slotsUsed
  threads := #[{ frames := .invoking theMethod args0 :: below }]
def below0 : List Frame := [.native { method := ⟨0, 0⟩, args := #[] }]
def about1 : State := aboutOver below0
def p0 : Program := .bare "" "" ""
def e0 : Env := launch0.env 0 0 0
theorem w_frames : about1.frames = Frame.invoking theMethod args0 :: below0 := rfl
set_option maxRecDepth 65536 in
theorem w_args : argsFit about1.vm theMethod args0 = true := by decide +kernel
set_option maxRecDepth 65536 in
theorem w_heap : heapFits about1 = true := by decide +kernel
set_option maxRecDepth 65536 in
theorem w_runnable : about1.curStatus? = some .runnable := by decide +kernel
set_option maxRecDepth 65536 in
theorem w_alone : about1.alone = true := by decide +kernel
set_option maxRecDepth 65536 in
theorem w_named : about1.methodNamed? x = some theMethod := by decide +kernel
set_option maxRecDepth 65536 in
theorem w_hears : about1.hears theMethod below0 = true := by decide +kernel
set_option maxRecDepth 65536 in
theorem w_ripe : about1.ripe theMethod args0 below0 = true := by decide +kernel
theorem w_running : about1.status = .running := rfl
set_option maxRecDepth 65536 in
theorem w_room : about1.hasRoom e0.platform room_1 = true :=
  launch0.hasRoom_least _ room_1 (by decide +kernel) (by decide +kernel) (by decide +kernel) (by decide +kernel) (by decide +kernel) (by decide +kernel)
theorem allAtoms_all (ts : List Jvm.Cond) (a : Array Jvm.Value) (st : Jvm.State) : (allAtoms ts).before a st = ts.all (fun c => c.before a st) := by
  induction ts with
  | nil => rfl
  | cons c t ih =>
    show (Jvm.Cond.and c (allAtoms t)).before a st = _
    rw [Jvm.Cond.before_and, ih, List.all_cons]
def words1 : List Jvm.Cond := Jvm.Cond.code x code maxLocals ret :: tables_1
/-- a 'code' word, met by the world's own term for the bytes: nothing is compared byte by byte -/
theorem code_word {y : MethodName} {bytes : ByteArray} {mx : Nat} {rt : Option FieldType} {a : Array Value} {s : State} {m : MethodId} {meth : Method} {c : Code} (h1 : s.methodNamed? y = some m) (h2 : s.vm.method? m = some meth) (h3 : meth.code = some c) (h4 : c.code = bytes)
    (h5 : (c.maxLocals == mx && c.exceptionTable.isEmpty && decide (c.maxStack ≤ mostOperands) && decide (meth.sig.returnType = rt) && !meth.locks && decide (parseMethodDescriptor y.desc = some meth.sig)) = true) : (Jvm.Cond.code y bytes mx rt).before a s = true := by
  simp only [Bool.and_eq_true, beq_iff_eq, Bool.not_eq_true', decide_eq_true_eq] at h5
  obtain ⟨⟨⟨⟨⟨g1, g2⟩, g3⟩, g4⟩, g5⟩, g6⟩ := h5
  simp [Cond.before, Cond.holds, Cond.value, h1, h2, h3, h4, g1, g2, g3, g4, g5, g6]
def isCode : Jvm.Cond → Bool
  | .code _ _ _ _ => true
  | _ => false
theorem all_split {L : List Jvm.Cond} {P : Jvm.Cond → Bool} (h1 : L.all (fun c => isCode c || P c) = true) (h2 : ∀ c ∈ L.filter isCode, P c = true) : L.all P = true := by
  refine List.all_eq_true.mpr fun c hc => ?_
  have h := List.all_eq_true.mp h1 c hc
  rcases Bool.eq_false_or_eq_true (isCode c) with hi | hi
  · exact h2 c (List.mem_filter.mpr ⟨hc, hi⟩)
  · simpa [hi] using h
set_option maxRecDepth 65536 in
theorem w_c0 : (Jvm.Cond.code x code maxLocals ret).before args0 about1 = true := code_word (m := ⟨1, 1⟩) (meth := k1m1) (c := k1c1) (by decide +kernel) rfl rfl rfl (by decide +kernel)
set_option maxRecDepth 65536 in
theorem w_c1 : (Jvm.Cond.code ({ cls := "com/example/keyed_tensor/keyedtensor/codec/DeflateCodesIsCompletePinLaw", name := "term", desc := "(III)J" } : Jvm.MethodName) method_3_code (3 : Nat) (Option.some Jvm.ClassFile.FieldType.long)).before args0 about1 = true := code_word (m := ⟨1, 2⟩) (meth := k1m2) (c := k1c2) (by decide +kernel) rfl rfl rfl (by decide +kernel)
set_option maxRecDepth 65536 in
theorem w_c2 : (Jvm.Cond.code ({ cls := "com/example/keyed_tensor/keyedtensor/codec/DeflateCodes", name := "isComplete", desc := "([II)Z" } : Jvm.MethodName) prog_38_method_5_code (5 : Nat) (Option.some Jvm.ClassFile.FieldType.boolean)).before args0 about1 = true := code_word (m := ⟨2, 1⟩) (meth := k2m1) (c := k2c1) (by decide +kernel) rfl rfl rfl (by decide +kernel)
def codes1 : List Jvm.Cond := [Jvm.Cond.code x code maxLocals ret, Jvm.Cond.code ({ cls := "com/example/keyed_tensor/keyedtensor/codec/DeflateCodesIsCompletePinLaw", name := "term", desc := "(III)J" } : Jvm.MethodName) method_3_code (3 : Nat) (Option.some Jvm.ClassFile.FieldType.long), Jvm.Cond.code ({ cls := "com/example/keyed_tensor/keyedtensor/codec/DeflateCodes", name := "isComplete", desc := "([II)Z" } : Jvm.MethodName) prog_38_method_5_code (5 : Nat) (Option.some Jvm.ClassFile.FieldType.boolean)]
set_option maxRecDepth 65536 in
theorem codes_eq : words1.filter isCode = codes1 := rfl
theorem w_codes : ∀ c ∈ words1.filter isCode, c.before args0 about1 = true := by
  rw [codes_eq]
  intro c hc
  simp only [codes1, List.mem_cons, List.not_mem_nil, or_false] at hc
  rcases hc with rfl | rfl | rfl
  · exact w_c0
  · exact w_c1
  · exact w_c2
set_option maxRecDepth 65536 in
theorem w_t1 : words1.all (fun c => isCode c || c.before args0 about1) = true := by decide +kernel
theorem w_tables : (allAtoms (Jvm.Cond.code x code maxLocals ret :: tables_1)).before args0 about1 = true := by
  rw [allAtoms_all]
  show words1.all (fun c => c.before args0 about1) = true
  refine all_split ?_ w_codes
  rw [w_t1]
set_option maxRecDepth 65536 in
theorem w_case : (Jvm.Cond.and given_1 narrow_1).before args0 about1 = true := by decide +kernel
theorem w_applies : (headSpec (Jvm.Cond.code x code maxLocals ret :: tables_1) room_1).applies x e0.platform about1 = true :=
  (Spec.applies_iff w_frames).mpr ⟨w_running, w_runnable, w_alone, w_named, w_hears, w_ripe, w_room, w_tables⟩
theorem atStart : AtStart classFile x code maxLocals ret World_1 tables_1 room_1 Calls_1 rest_1 Pre_1 launch0 p0 e0 about1 theMethod args0 below0 :=
  ⟨lists_1, trivial, launch0.admits_env _ _ _, launch0.least_env, fairChoices_fair.cas, fairChoices_fair.clock, w_frames, w_args, w_heap, w_applies, trivial, trivial, w_case⟩
end start1
theorem witness_1 : WitnessClaimed_1 := ⟨start1.p0, start1.e0, start1.about1, start1.theMethod, start1.args0, start1.below0, start1.atStart⟩
end Jvm.Pilot.@@N@@
