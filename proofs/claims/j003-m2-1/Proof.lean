import JvmDerived
import JvmDerived.Pilot.@@N@@Statement
import JvmDerived.Pilot.@@N@@Code
set_option linter.unusedVariables false
set_option linter.unusedSimpArgs false
namespace Jvm.OwnKit
open Sem ClassFile Op Lib Jvm.Stand Jvm.Free Jvm.LawKit Jvm.RoadKit
/-! A small program logic over the library's laws of one family: Wp says that from a frame on the method comes back with Q. -/
def Cx (p : Program) (s : State) (m : MethodId) (meth : Method) (c : Code) (Z : State) (my : MethodName) (B : ByteArray) (ml : Nat) (ret : Option FieldType) : Prop :=
  p.tables.exec = Jvm.exec ∧ c.code = B ∧ c.maxLocals = ml ∧ Z.Warmed39 s.vm ∧ s.vm.findClass my.cls = some m.cls ∧ meth.name = my.name ∧ meth.sig.returnType = ret ∧ meth.locks = false
def Wp (l : Launch) (Z : State) (R : Room) (my : MethodName) (B : ByteArray) (ml : Nat) (ret : Option FieldType) (n0 : Nat) (Q : Option Value → Heap → Prop) (h : Heap) (cells slots pc : Nat) (L : Array Slot) (S : List Value) : Prop :=
  ∀ (p : Program) (e : Env) (s : State) (m : MethodId) (args : Array Value) (below : List Frame) (meth : Method) (c : Code) (T : State) (locs : List Loc),
    Cx p s m meth c Z my B ml ret → Stand p l e R s m args below meth c T locs cells slots → T.heap = h → Fr n0 locs →
    ∃ (s₂ : State) (o : Outcome), Steps p.tables e below (T.setTop (mkF m pc L S)) s₂ ∧ s₂.status = .running ∧ Ended s₂ below o ∧ ∃ v L', o = .returned v ∧ (Q v s₂.heap ∧ Fr n0 L') ∧ FrameEnd s o s₂ L' R.cells R.slots
/-- the contract of a method at given arguments and heap -/
def Met (l : Launch) (Z : State) (my : MethodName) (B : ByteArray) (ml : Nat) (ret : Option FieldType) (rm : Room) (as : Array Value) (h0 : Heap) (n0 : Nat) (Q : Option Value → Heap → Prop) : Prop :=
  ∀ ws : List Jvm.Cond, MetFree l my (head1 (Jvm.Cond.code my B ml ret :: ws) rm) (fun a U => a = as ∧ Z.Warmed39 U.vm ∧ U.heap = h0) (fun _ _ _ _ _ => True)
    (fun _ U o U' => ∃ v L, o = .returned v ∧ (Q v U'.heap ∧ Fr n0 L) ∧ FrameEnd U o U' L rm.cells rm.slots)
section Base
variable {l : Launch} {Z : State} {R : Room} {my : MethodName} {B : ByteArray} {ml : Nat} {ret : Option FieldType} {n0 : Nat} {Q : Option Value → Heap → Prop} {h : Heap} {cells slots pc : Nat} {L : Array Slot} {S : List Value} {a0 : Array Value}
theorem Met.of {as : Array Value} {L0 : Array Slot} (hpl : plainName my.cls = true) (ef : ∀ m, entryFrame m as ml = mkF m 0 L0 []) (body : Wp l Z R my B ml ret n0 Q h 0 0 0 L0 []) : Met l Z my B ml ret R as h n0 Q := by
  intro ws
  refine MetFree.of_bodySF (plainFor_of_name hpl) hisR ?_
  intro p e s m args below meth c s₁ Bd hml0 hP hK
  obtain ⟨rfl, hZ, hh⟩ := hP
  have X0 := Stand.of_body Bd
  have e0 : s₁.heap = h := by rw [← hh, Bd.state]; rfl
  obtain ⟨s₂, o, k1, k2⟩ := body p e s m _ below meth c s₁ [] ⟨Bd.exec, Bd.bytes, hml0, hZ, findClass_of_methodNamed Bd.named, (name_of_methodNamed Bd.named Bd.method).1, Bd.returns, Bd.notSynchronized⟩ X0 e0 (Fr.nil n0)
  exact ⟨s₂, o, castTop (ef m) k1, k2⟩
theorem Met.mono {rm : Room} {as : Array Value} {Q' : Option Value → Heap → Prop} (M : Met l Z my B ml ret rm as h n0 Q) (hq : ∀ v h', Q v h' → Q' v h') : Met l Z my B ml ret rm as h n0 Q' := by
  intro ws p e ha hc hk s m args below hf happ hP hK
  obtain ⟨n, o, h1, h2, h3, v, L, rfl, ⟨q1, q2⟩, q3⟩ := M ws p e ha hc hk s m args below hf happ hP hK
  exact ⟨n, _, h1, h2, h3, v, L, rfl, ⟨hq _ _ q1, q2⟩, q3⟩
theorem Wp.mono {Q' : Option Value → Heap → Prop} (W : Wp l Z R my B ml ret n0 Q h cells slots pc L S) (hq : ∀ v h', Q v h' → Q' v h') : Wp l Z R my B ml ret n0 Q' h cells slots pc L S := by
  intro p e s m args below meth c T locs K X eT N
  obtain ⟨s₂, o, k1, k2, k3, v, L', k4, k5, k6⟩ := W p e s m args below meth c T locs K X eT N
  exact ⟨s₂, o, k1, k2, k3, v, L', k4, ⟨hq _ _ k5.1, k5.2⟩, k6⟩
/-- the law's own body may end within any frame -/
theorem Wp.plain {pc' : Nat} {L' : Array Slot} {S' : List Value}
    (st : ∀ {p : Program} {e : Env} {s : State} {m : MethodId} {args : Array Value} {below : List Frame} {meth : Method} {c : Code} {T : State} {locs : List Loc}, Cx p s m meth c Z my B ml ret → Stand p l e R s m args below meth c T locs cells slots → T.heap = h → ∀ target, Steps p.tables e below (T.setTop (mkF m pc' L' S')) target → Steps p.tables e below (T.setTop (mkF m pc L S)) target)
    (r : Wp l Z R my B ml ret n0 Q h cells slots pc' L' S') : Wp l Z R my B ml ret n0 Q h cells slots pc L S := by
  intro p e s m args below meth c T locs K X eT N
  obtain ⟨s₂, o, k1, k2⟩ := r p e s m args below meth c T locs K X eT N
  exact ⟨s₂, o, st K X eT _ k1, k2⟩
theorem Wp.moved {pc' : Nat} {L' : Array Slot} {S' : List Value}
    (st : ∀ {p : Program} {e : Env} {s : State} {m : MethodId} {args : Array Value} {below : List Frame} {meth : Method} {c : Code} {T : State} {locs : List Loc}, Cx p s m meth c Z my B ml ret → Stand p l e R s m args below meth c T locs cells slots → T.heap = h → ∃ T', Stand p l e R s m args below meth c T' locs cells slots ∧ T'.heap = h ∧ ∀ target, Steps p.tables e below (T'.setTop (mkF m pc' L' S')) target → Steps p.tables e below (T.setTop (mkF m pc L S)) target)
    (r : Wp l Z R my B ml ret n0 Q h cells slots pc' L' S') : Wp l Z R my B ml ret n0 Q h cells slots pc L S := by
  intro p e s m args below meth c T locs K X eT N
  obtain ⟨T', X', e', st'⟩ := st K X eT
  obtain ⟨s₂, o, k1, k2⟩ := r p e s m args below meth c T' locs K X' e' N
  exact ⟨s₂, o, st' _ k1, k2⟩
/-! plain steps -/
theorem Wp.iloadN {k : Fin 4} {v : Int32} {pc' : Nat} (hd : decode B pc = .ok (.iload_n k, 1)) (hl : L[k.val]? = some (.val (.int v))) (hp : pc + 1 = pc') (r : Wp l Z R my B ml ret n0 Q h cells slots pc' L (.int v :: S)) : Wp l Z R my B ml ret n0 Q h cells slots pc L S := by
  subst hp; exact Wp.plain (fun K X _ target kt => XS.iloadN X.here K.1 rfl (hb K.2.1 hd) hl kt) r
theorem Wp.iload {k : Nat} {v : Int32} {pc' : Nat} (hd : decode B pc = .ok (.iload k, 2)) (hl : L[k]? = some (.val (.int v))) (hp : pc + 2 = pc') (r : Wp l Z R my B ml ret n0 Q h cells slots pc' L (.int v :: S)) : Wp l Z R my B ml ret n0 Q h cells slots pc L S := by
  subst hp; exact Wp.plain (fun K X _ target kt => XS.iload X.here K.1 rfl (hb K.2.1 hd) hl kt) r
theorem Wp.lloadN {k : Fin 4} {v : Int64} {pc' : Nat} (hd : decode B pc = .ok (.lload_n k, 1)) (hl : L[k.val]? = some (.val (.long v))) (hp : pc + 1 = pc') (r : Wp l Z R my B ml ret n0 Q h cells slots pc' L (.long v :: S)) : Wp l Z R my B ml ret n0 Q h cells slots pc L S := by
  subst hp; exact Wp.plain (fun K X _ target kt => XT.lloadN X.here K.1 rfl (hb K.2.1 hd) hl kt) r
theorem Wp.lload {k : Nat} {v : Int64} {pc' : Nat} (hd : decode B pc = .ok (.lload k, 2)) (hl : L[k]? = some (.val (.long v))) (hp : pc + 2 = pc') (r : Wp l Z R my B ml ret n0 Q h cells slots pc' L (.long v :: S)) : Wp l Z R my B ml ret n0 Q h cells slots pc L S := by
  subst hp; exact Wp.plain (fun K X _ target kt => XT.lload X.here K.1 rfl (hb K.2.1 hd) hl kt) r
theorem Wp.aloadN {k : Fin 4} {v : Value} {pc' : Nat} (hd : decode B pc = .ok (.aload_n k, 1)) (hl : L[k.val]? = some (.val v)) (hv : v.isRef = true) (hp : pc + 1 = pc') (r : Wp l Z R my B ml ret n0 Q h cells slots pc' L (v :: S)) : Wp l Z R my B ml ret n0 Q h cells slots pc L S := by
  subst hp; exact Wp.plain (fun K X _ target kt => XS.aloadN X.here K.1 rfl (hb K.2.1 hd) hl hv kt) r
theorem Wp.aload {k : Nat} {v : Value} {pc' : Nat} (hd : decode B pc = .ok (.aload k, 2)) (hl : L[k]? = some (.val v)) (hv : v.isRef = true) (hp : pc + 2 = pc') (r : Wp l Z R my B ml ret n0 Q h cells slots pc' L (v :: S)) : Wp l Z R my B ml ret n0 Q h cells slots pc L S := by
  subst hp; exact Wp.plain (fun K X _ target kt => XS.aload X.here K.1 rfl (hb K.2.1 hd) hl hv kt) r
theorem Wp.iconst {i : Int} {z : Int32} {pc' : Nat} (hd : decode B pc = .ok (.iconst i, 1)) (hz : Int32.ofInt i = z) (hp : pc + 1 = pc') (r : Wp l Z R my B ml ret n0 Q h cells slots pc' L (.int z :: S)) : Wp l Z R my B ml ret n0 Q h cells slots pc L S := by
  subst hp hz; exact Wp.plain (fun K X _ target kt => XS.iconst X.here K.1 rfl (hb K.2.1 hd) kt) r
theorem Wp.bipush {i : Int} {z : Int32} {pc' : Nat} (hd : decode B pc = .ok (.bipush i, 2)) (hz : (Int8.ofInt i).toInt32 = z) (hp : pc + 2 = pc') (r : Wp l Z R my B ml ret n0 Q h cells slots pc' L (.int z :: S)) : Wp l Z R my B ml ret n0 Q h cells slots pc L S := by
  subst hp hz; exact Wp.plain (fun K X _ target kt => XS.bipush X.here K.1 rfl (hb K.2.1 hd) kt) r
theorem Wp.sipush {i : Int} {z : Int32} {pc' : Nat} (hd : decode B pc = .ok (.sipush i, 3)) (hz : (Int16.ofInt i).toInt32 = z) (hp : pc + 3 = pc') (r : Wp l Z R my B ml ret n0 Q h cells slots pc' L (.int z :: S)) : Wp l Z R my B ml ret n0 Q h cells slots pc L S := by
  subst hp hz; exact Wp.plain (fun K X _ target kt => XS.sipush X.here K.1 rfl (hb K.2.1 hd) kt) r
theorem Wp.lconst {k : Fin 2} {z : Int64} {pc' : Nat} (hd : decode B pc = .ok (.lconst k, 1)) (hz : Int64.ofNat k = z) (hp : pc + 1 = pc') (r : Wp l Z R my B ml ret n0 Q h cells slots pc' L (.long z :: S)) : Wp l Z R my B ml ret n0 Q h cells slots pc L S := by
  subst hp hz; exact Wp.plain (fun K X _ target kt => XT.lconst X.here K.1 rfl (hb K.2.1 hd) kt) r
theorem Wp.aconstNull {pc' : Nat} (hd : decode B pc = .ok (.aconst_null, 1)) (hp : pc + 1 = pc') (r : Wp l Z R my B ml ret n0 Q h cells slots pc' L (.null :: S)) : Wp l Z R my B ml ret n0 Q h cells slots pc L S := by
  subst hp; exact Wp.plain (fun K X _ target kt => XS.aconstNull X.here K.1 rfl (hb K.2.1 hd) kt) r
theorem Wp.ldcInt {index : Nat} {v : Int32} {pc' : Nat} (w : (Jvm.Cond.constant my.cls index v).before a0 Z = true) (hd : decode B pc = .ok (.ldc index, 2)) (hp : pc + 2 = pc') (r : Wp l Z R my B ml ret n0 Q h cells slots pc' L (.int v :: S)) : Wp l Z R my B ml ret n0 Q h cells slots pc L S := by
  subst hp; exact Wp.plain (fun K X _ target kt => X.ldcInt K.1 K.2.2.2.2.1 (mv K.2.2.2.1 w) (g := mkF _ pc L S) rfl (hb K.2.1 hd) target kt) r
theorem Wp.ldc2Long {index : Nat} {v : Int64} {pc' : Nat} (w : (Jvm.Cond.constantLong my.cls index v).before a0 Z = true) (hd : decode B pc = .ok (.ldc2_w index, 3)) (hp : pc + 3 = pc') (r : Wp l Z R my B ml ret n0 Q h cells slots pc' L (.long v :: S)) : Wp l Z R my B ml ret n0 Q h cells slots pc L S := by
  subst hp; exact Wp.plain (fun K X _ target kt => X.ldc2Long K.1 K.2.2.2.2.1 (mv K.2.2.2.1 w) (g := mkF _ pc L S) rfl (hb K.2.1 hd) target kt) r
theorem Wp.istoreN {k : Fin 4} {v : Int32} {L' : Array Slot} {pc' : Nat} (hd : decode B pc = .ok (.istore_n k, 1)) (hl : storeLocals L k.val (.int v) = some L') (hp : pc + 1 = pc') (r : Wp l Z R my B ml ret n0 Q h cells slots pc' L' S) : Wp l Z R my B ml ret n0 Q h cells slots pc L (.int v :: S) := by
  subst hp; exact Wp.plain (fun K X _ target kt => XS.istoreN X.here K.1 rfl (hb K.2.1 hd) rfl hl kt) r
theorem Wp.istore {k : Nat} {v : Int32} {L' : Array Slot} {pc' : Nat} (hd : decode B pc = .ok (.istore k, 2)) (hl : storeLocals L k (.int v) = some L') (hp : pc + 2 = pc') (r : Wp l Z R my B ml ret n0 Q h cells slots pc' L' S) : Wp l Z R my B ml ret n0 Q h cells slots pc L (.int v :: S) := by
  subst hp; exact Wp.plain (fun K X _ target kt => XS.istore X.here K.1 rfl (hb K.2.1 hd) rfl hl kt) r
theorem Wp.lstoreN {k : Fin 4} {v : Int64} {L' : Array Slot} {pc' : Nat} (hd : decode B pc = .ok (.lstore_n k, 1)) (hl : storeLocals L k.val (.long v) = some L') (hp : pc + 1 = pc') (r : Wp l Z R my B ml ret n0 Q h cells slots pc' L' S) : Wp l Z R my B ml ret n0 Q h cells slots pc L (.long v :: S) := by
  subst hp; exact Wp.plain (fun K X _ target kt => XT.lstoreN X.here K.1 rfl (hb K.2.1 hd) rfl hl kt) r
theorem Wp.lstore {k : Nat} {v : Int64} {L' : Array Slot} {pc' : Nat} (hd : decode B pc = .ok (.lstore k, 2)) (hl : storeLocals L k (.long v) = some L') (hp : pc + 2 = pc') (r : Wp l Z R my B ml ret n0 Q h cells slots pc' L' S) : Wp l Z R my B ml ret n0 Q h cells slots pc L (.long v :: S) := by
  subst hp; exact Wp.plain (fun K X _ target kt => XT.lstore X.here K.1 rfl (hb K.2.1 hd) rfl hl kt) r
theorem Wp.astoreN {k : Fin 4} {v : Value} {L' : Array Slot} {pc' : Nat} (hd : decode B pc = .ok (.astore_n k, 1)) (hv : v.isRef = true) (hl : storeLocals L k.val v = some L') (hp : pc + 1 = pc') (r : Wp l Z R my B ml ret n0 Q h cells slots pc' L' S) : Wp l Z R my B ml ret n0 Q h cells slots pc L (v :: S) := by
  subst hp; exact Wp.plain (fun K X _ target kt => XS.astoreN X.here K.1 rfl (hb K.2.1 hd) rfl hv hl kt) r
theorem Wp.astore {k : Nat} {v : Value} {L' : Array Slot} {pc' : Nat} (hd : decode B pc = .ok (.astore k, 2)) (hv : v.isRef = true) (hl : storeLocals L k v = some L') (hp : pc + 2 = pc') (r : Wp l Z R my B ml ret n0 Q h cells slots pc' L' S) : Wp l Z R my B ml ret n0 Q h cells slots pc L (v :: S) := by
  subst hp; exact Wp.plain (fun K X _ target kt => XS.astore X.here K.1 rfl (hb K.2.1 hd) rfl hv hl kt) r
theorem Wp.iinc {k : Nat} {cst : Int} {x z : Int32} {L' : Array Slot} {pc' : Nat} (hd : decode B pc = .ok (.iinc k cst, 3)) (hl : L[k]? = some (.val (.int x))) (hz : x + Int32.ofInt cst = z) (hl' : storeLocals L k (.int z) = some L') (hp : pc + 3 = pc') (r : Wp l Z R my B ml ret n0 Q h cells slots pc' L' S) : Wp l Z R my B ml ret n0 Q h cells slots pc L S := by
  subst hp hz; exact Wp.plain (fun K X _ target kt => XS.iinc X.here K.1 rfl (hb K.2.1 hd) hl hl' kt) r
theorem Wp.dup {v : Value} {pc' : Nat} (hd : decode B pc = .ok (.dup, 1)) (hc : v.category = 1) (hp : pc + 1 = pc') (r : Wp l Z R my B ml ret n0 Q h cells slots pc' L (v :: v :: S)) : Wp l Z R my B ml ret n0 Q h cells slots pc L (v :: S) := by
  subst hp; exact Wp.plain (fun K X _ target kt => XS.dup X.here K.1 rfl (hb K.2.1 hd) rfl hc kt) r
theorem Wp.dupX1 {v w : Value} {pc' : Nat} (hd : decode B pc = .ok (.dup_x1, 1)) (hc : v.category = 1) (hc' : w.category = 1) (hp : pc + 1 = pc') (r : Wp l Z R my B ml ret n0 Q h cells slots pc' L (v :: w :: v :: S)) : Wp l Z R my B ml ret n0 Q h cells slots pc L (v :: w :: S) := by
  subst hp; exact Wp.plain (fun K X _ target kt => XT.dupX1 X.here K.1 rfl (hb K.2.1 hd) rfl hc hc' kt) r
theorem Wp.dup2 {v w : Value} {pc' : Nat} (hd : decode B pc = .ok (.dup2, 1)) (hc : v.category = 1) (hc' : w.category = 1) (hp : pc + 1 = pc') (r : Wp l Z R my B ml ret n0 Q h cells slots pc' L (v :: w :: v :: w :: S)) : Wp l Z R my B ml ret n0 Q h cells slots pc L (v :: w :: S) := by
  subst hp; exact Wp.plain (fun K X _ target kt => XT.dup2 X.here K.1 rfl (hb K.2.1 hd) rfl hc hc' kt) r
theorem Wp.dupX2 {u v w : Value} {pc' : Nat} (hd : decode B pc = .ok (.dup_x2, 1)) (hc : u.category = 1) (hc' : v.category = 1) (hc'' : w.category = 1) (hp : pc + 1 = pc') (r : Wp l Z R my B ml ret n0 Q h cells slots pc' L (u :: v :: w :: u :: S)) : Wp l Z R my B ml ret n0 Q h cells slots pc L (u :: v :: w :: S) := by
  subst hp
  refine Wp.plain (fun {p e s m args below meth c T locs} K X _ target kt => ?_) r
  have hx := K.1
  have hd' : decode c.code pc = .ok (.dup_x2, 1) := hb K.2.1 hd
  show Steps p.tables e below (T.setTop { method := m, pc := pc, locals := L, stack := u :: v :: w :: S, locked := none }) _
  jvm_step X.here [X.here.top, hx, hd', dup_x2.wp_sem, hc, hc', hc'']
  exact kt
theorem Wp.pop {v : Value} {pc' : Nat} (hd : decode B pc = .ok (.pop, 1)) (hc : v.category = 1) (hp : pc + 1 = pc') (r : Wp l Z R my B ml ret n0 Q h cells slots pc' L S) : Wp l Z R my B ml ret n0 Q h cells slots pc L (v :: S) := by
  subst hp; exact Wp.plain (fun K X _ target kt => XT.pop X.here K.1 rfl (hb K.2.1 hd) rfl hc kt) r
theorem Wp.iadd {x y z : Int32} {pc' : Nat} (hd : decode B pc = .ok (.iadd, 1)) (hz : x + y = z) (hp : pc + 1 = pc') (r : Wp l Z R my B ml ret n0 Q h cells slots pc' L (.int z :: S)) : Wp l Z R my B ml ret n0 Q h cells slots pc L (.int y :: .int x :: S) := by
  subst hp hz; exact Wp.plain (fun K X _ target kt => XS.iadd X.here K.1 rfl (hb K.2.1 hd) rfl kt) r
theorem Wp.isub {x y z : Int32} {pc' : Nat} (hd : decode B pc = .ok (.isub, 1)) (hz : x - y = z) (hp : pc + 1 = pc') (r : Wp l Z R my B ml ret n0 Q h cells slots pc' L (.int z :: S)) : Wp l Z R my B ml ret n0 Q h cells slots pc L (.int y :: .int x :: S) := by
  subst hp hz; exact Wp.plain (fun K X _ target kt => XS.isub X.here K.1 rfl (hb K.2.1 hd) rfl kt) r
theorem Wp.iand {x y z : Int32} {pc' : Nat} (hd : decode B pc = .ok (.iand, 1)) (hz : x &&& y = z) (hp : pc + 1 = pc') (r : Wp l Z R my B ml ret n0 Q h cells slots pc' L (.int z :: S)) : Wp l Z R my B ml ret n0 Q h cells slots pc L (.int y :: .int x :: S) := by
  subst hp hz; exact Wp.plain (fun K X _ target kt => XS.iand X.here K.1 rfl (hb K.2.1 hd) rfl kt) r
theorem Wp.imul {x y z : Int32} {pc' : Nat} (hd : decode B pc = .ok (.imul, 1)) (hz : x * y = z) (hp : pc + 1 = pc') (r : Wp l Z R my B ml ret n0 Q h cells slots pc' L (.int z :: S)) : Wp l Z R my B ml ret n0 Q h cells slots pc L (.int y :: .int x :: S) := by
  subst hp hz; exact Wp.plain (fun K X _ target kt => XS.imul X.here K.1 rfl (hb K.2.1 hd) rfl kt) r
theorem Wp.ior {x y z : Int32} {pc' : Nat} (hd : decode B pc = .ok (.ior, 1)) (hz : x ||| y = z) (hp : pc + 1 = pc') (r : Wp l Z R my B ml ret n0 Q h cells slots pc' L (.int z :: S)) : Wp l Z R my B ml ret n0 Q h cells slots pc L (.int y :: .int x :: S) := by
  subst hp hz; exact Wp.plain (fun K X _ target kt => XT.ior X.here K.1 rfl (hb K.2.1 hd) rfl kt) r
theorem Wp.ixor {x y z : Int32} {pc' : Nat} (hd : decode B pc = .ok (.ixor, 1)) (hz : x ^^^ y = z) (hp : pc + 1 = pc') (r : Wp l Z R my B ml ret n0 Q h cells slots pc' L (.int z :: S)) : Wp l Z R my B ml ret n0 Q h cells slots pc L (.int y :: .int x :: S) := by
  subst hp hz; exact Wp.plain (fun K X _ target kt => XT.ixor X.here K.1 rfl (hb K.2.1 hd) rfl kt) r
theorem Wp.ishl {x y z : Int32} {pc' : Nat} (hd : decode B pc = .ok (.ishl, 1)) (hz : x <<< (y &&& 31) = z) (hp : pc + 1 = pc') (r : Wp l Z R my B ml ret n0 Q h cells slots pc' L (.int z :: S)) : Wp l Z R my B ml ret n0 Q h cells slots pc L (.int y :: .int x :: S) := by
  subst hp hz; exact Wp.plain (fun K X _ target kt => XT.ishl X.here K.1 rfl (hb K.2.1 hd) rfl kt) r
theorem Wp.ishr {x y z : Int32} {pc' : Nat} (hd : decode B pc = .ok (.ishr, 1)) (hz : x >>> (y &&& 31) = z) (hp : pc + 1 = pc') (r : Wp l Z R my B ml ret n0 Q h cells slots pc' L (.int z :: S)) : Wp l Z R my B ml ret n0 Q h cells slots pc L (.int y :: .int x :: S) := by
  subst hp hz; exact Wp.plain (fun K X _ target kt => XT.ishr X.here K.1 rfl (hb K.2.1 hd) rfl kt) r
theorem Wp.iushr {x y z : Int32} {pc' : Nat} (hd : decode B pc = .ok (.iushr, 1)) (hz : XT.ushr x y = z) (hp : pc + 1 = pc') (r : Wp l Z R my B ml ret n0 Q h cells slots pc' L (.int z :: S)) : Wp l Z R my B ml ret n0 Q h cells slots pc L (.int y :: .int x :: S) := by
  subst hp hz; exact Wp.plain (fun K X _ target kt => XT.iushr X.here K.1 rfl (hb K.2.1 hd) rfl kt) r
theorem Wp.ladd {x y z : Int64} {pc' : Nat} (hd : decode B pc = .ok (.ladd, 1)) (hz : x + y = z) (hp : pc + 1 = pc') (r : Wp l Z R my B ml ret n0 Q h cells slots pc' L (.long z :: S)) : Wp l Z R my B ml ret n0 Q h cells slots pc L (.long y :: .long x :: S) := by
  subst hp hz; exact Wp.plain (fun K X _ target kt => XT.ladd X.here K.1 rfl (hb K.2.1 hd) rfl kt) r
theorem Wp.lsub {x y z : Int64} {pc' : Nat} (hd : decode B pc = .ok (.lsub, 1)) (hz : x - y = z) (hp : pc + 1 = pc') (r : Wp l Z R my B ml ret n0 Q h cells slots pc' L (.long z :: S)) : Wp l Z R my B ml ret n0 Q h cells slots pc L (.long y :: .long x :: S) := by
  subst hp hz; exact Wp.plain (fun K X _ target kt => XT.lsub X.here K.1 rfl (hb K.2.1 hd) rfl kt) r
theorem Wp.lmul {x y z : Int64} {pc' : Nat} (hd : decode B pc = .ok (.lmul, 1)) (hz : x * y = z) (hp : pc + 1 = pc') (r : Wp l Z R my B ml ret n0 Q h cells slots pc' L (.long z :: S)) : Wp l Z R my B ml ret n0 Q h cells slots pc L (.long y :: .long x :: S) := by
  subst hp hz; exact Wp.plain (fun K X _ target kt => XT.lmul X.here K.1 rfl (hb K.2.1 hd) rfl kt) r
theorem Wp.land {x y z : Int64} {pc' : Nat} (hd : decode B pc = .ok (.land, 1)) (hz : x &&& y = z) (hp : pc + 1 = pc') (r : Wp l Z R my B ml ret n0 Q h cells slots pc' L (.long z :: S)) : Wp l Z R my B ml ret n0 Q h cells slots pc L (.long y :: .long x :: S) := by
  subst hp hz; exact Wp.plain (fun K X _ target kt => XT.land X.here K.1 rfl (hb K.2.1 hd) rfl kt) r
theorem Wp.lor {x y z : Int64} {pc' : Nat} (hd : decode B pc = .ok (.lor, 1)) (hz : x ||| y = z) (hp : pc + 1 = pc') (r : Wp l Z R my B ml ret n0 Q h cells slots pc' L (.long z :: S)) : Wp l Z R my B ml ret n0 Q h cells slots pc L (.long y :: .long x :: S) := by
  subst hp hz; exact Wp.plain (fun K X _ target kt => XT.lor X.here K.1 rfl (hb K.2.1 hd) rfl kt) r
theorem Wp.lxor {x y z : Int64} {pc' : Nat} (hd : decode B pc = .ok (.lxor, 1)) (hz : x ^^^ y = z) (hp : pc + 1 = pc') (r : Wp l Z R my B ml ret n0 Q h cells slots pc' L (.long z :: S)) : Wp l Z R my B ml ret n0 Q h cells slots pc L (.long y :: .long x :: S) := by
  subst hp hz; exact Wp.plain (fun K X _ target kt => XT.lxor X.here K.1 rfl (hb K.2.1 hd) rfl kt) r
theorem Wp.i2l {x : Int32} {z : Int64} {pc' : Nat} (hd : decode B pc = .ok (.i2l, 1)) (hz : x.toInt64 = z) (hp : pc + 1 = pc') (r : Wp l Z R my B ml ret n0 Q h cells slots pc' L (.long z :: S)) : Wp l Z R my B ml ret n0 Q h cells slots pc L (.int x :: S) := by
  subst hp hz; exact Wp.plain (fun K X _ target kt => XT.i2l X.here K.1 rfl (hb K.2.1 hd) rfl kt) r
theorem Wp.l2i {x : Int64} {z : Int32} {pc' : Nat} (hd : decode B pc = .ok (.l2i, 1)) (hz : x.toInt32 = z) (hp : pc + 1 = pc') (r : Wp l Z R my B ml ret n0 Q h cells slots pc' L (.int z :: S)) : Wp l Z R my B ml ret n0 Q h cells slots pc L (.long x :: S) := by
  subst hp hz; exact Wp.plain (fun K X _ target kt => XT.l2i X.here K.1 rfl (hb K.2.1 hd) rfl kt) r
theorem Wp.i2b {x : Int32} {z : Int32} {pc' : Nat} (hd : decode B pc = .ok (.i2b, 1)) (hz : x.toInt8.toInt32 = z) (hp : pc + 1 = pc') (r : Wp l Z R my B ml ret n0 Q h cells slots pc' L (.int z :: S)) : Wp l Z R my B ml ret n0 Q h cells slots pc L (.int x :: S) := by
  subst hp hz; exact Wp.plain (fun K X _ target kt => XT.i2b X.here K.1 rfl (hb K.2.1 hd) rfl kt) r
theorem Wp.i2c {x : Int32} {z : Int32} {pc' : Nat} (hd : decode B pc = .ok (.i2c, 1)) (hz : x.toUInt32.toUInt16.toUInt32.toInt32 = z) (hp : pc + 1 = pc') (r : Wp l Z R my B ml ret n0 Q h cells slots pc' L (.int z :: S)) : Wp l Z R my B ml ret n0 Q h cells slots pc L (.int x :: S) := by
  subst hp hz; exact Wp.plain (fun K X _ target kt => XT.i2c X.here K.1 rfl (hb K.2.1 hd) rfl kt) r
theorem Wp.lshl {x z : Int64} {y : Int32} {pc' : Nat} (hd : decode B pc = .ok (.lshl, 1)) (hz : x <<< (y.toInt64 &&& 63) = z) (hp : pc + 1 = pc') (r : Wp l Z R my B ml ret n0 Q h cells slots pc' L (.long z :: S)) : Wp l Z R my B ml ret n0 Q h cells slots pc L (.int y :: .long x :: S) := by
  subst hp hz; exact Wp.plain (fun K X _ target kt => XT.lshl X.here K.1 rfl (hb K.2.1 hd) rfl kt) r
theorem Wp.lshr {x z : Int64} {y : Int32} {pc' : Nat} (hd : decode B pc = .ok (.lshr, 1)) (hz : x >>> (y.toInt64 &&& 63) = z) (hp : pc + 1 = pc') (r : Wp l Z R my B ml ret n0 Q h cells slots pc' L (.long z :: S)) : Wp l Z R my B ml ret n0 Q h cells slots pc L (.int y :: .long x :: S) := by
  subst hp hz; exact Wp.plain (fun K X _ target kt => XT.lshr X.here K.1 rfl (hb K.2.1 hd) rfl kt) r
theorem Wp.lushr {x z : Int64} {y : Int32} {pc' : Nat} (hd : decode B pc = .ok (.lushr, 1)) (hz : XT.ushrL x y = z) (hp : pc + 1 = pc') (r : Wp l Z R my B ml ret n0 Q h cells slots pc' L (.long z :: S)) : Wp l Z R my B ml ret n0 Q h cells slots pc L (.int y :: .long x :: S) := by
  subst hp hz; exact Wp.plain (fun K X _ target kt => XT.lushr X.here K.1 rfl (hb K.2.1 hd) rfl kt) r
theorem Wp.idiv {x y z : Int32} {pc' : Nat} (hd : decode B pc = .ok (.idiv, 1)) (hy : y ≠ 0) (hz : x / y = z) (hp : pc + 1 = pc') (r : Wp l Z R my B ml ret n0 Q h cells slots pc' L (.int z :: S)) : Wp l Z R my B ml ret n0 Q h cells slots pc L (.int y :: .int x :: S) := by
  subst hp hz; exact Wp.plain (fun K X _ target kt => XS.idiv X.here K.1 rfl (hb K.2.1 hd) rfl hy kt) r
theorem Wp.ldiv {x y z : Int64} {pc' : Nat} (hd : decode B pc = .ok (.ldiv, 1)) (hy : y ≠ 0) (hz : x / y = z) (hp : pc + 1 = pc') (r : Wp l Z R my B ml ret n0 Q h cells slots pc' L (.long z :: S)) : Wp l Z R my B ml ret n0 Q h cells slots pc L (.long y :: .long x :: S) := by
  subst hp hz; exact Wp.plain (fun K X _ target kt => XT.ldiv X.here K.1 rfl (hb K.2.1 hd) rfl hy kt) r
theorem Wp.lrem {x y z : Int64} {pc' : Nat} (hd : decode B pc = .ok (.lrem, 1)) (hy : y ≠ 0) (hz : x - (x / y) * y = z) (hp : pc + 1 = pc') (r : Wp l Z R my B ml ret n0 Q h cells slots pc' L (.long z :: S)) : Wp l Z R my B ml ret n0 Q h cells slots pc L (.long y :: .long x :: S) := by
  subst hp hz; exact Wp.plain (fun K X _ target kt => XT.lrem X.here K.1 rfl (hb K.2.1 hd) rfl hy kt) r
theorem Wp.irem {x y z : Int32} {pc' : Nat} (hd : decode B pc = .ok (.irem, 1)) (hy : y ≠ 0) (hz : x % y = z) (hp : pc + 1 = pc') (r : Wp l Z R my B ml ret n0 Q h cells slots pc' L (.int z :: S)) : Wp l Z R my B ml ret n0 Q h cells slots pc L (.int y :: .int x :: S) := by
  subst hp hz; exact Wp.plain (fun K X _ target kt => iremM X K.1 rfl (hb K.2.1 hd) rfl hy kt) r
theorem Wp.goto {o : Int} {pc' : Nat} (hd : decode B pc = .ok (.goto o, 3)) (ho : 0 ≤ (pc : Int) + o) (hp : ((pc : Int) + o).toNat = pc') (r : Wp l Z R my B ml ret n0 Q h cells slots pc' L S) : Wp l Z R my B ml ret n0 Q h cells slots pc L S :=
  Wp.plain (fun K X _ target kt => XS.goto X.here K.1 rfl rfl (hb K.2.1 hd) ho hp kt) r
/-- what a comparison asks -/
abbrev cdP (cd : ClassFile.Cond) (x y : Int32) : Prop := match cd with | .eq => x = y | .ne => x ≠ y | .lt => x < y | .ge => ¬ x < y | .gt => y < x | .le => ¬ y < x
theorem cdP_iff (cd : ClassFile.Cond) (x y : Int32) : if_icmp.holds cd x y = true ↔ cdP cd x y := by
  cases cd <;> simp [if_icmp.holds, cdP, Int32.not_lt]
theorem cdP_not (cd : ClassFile.Cond) (x y : Int32) (h : ¬ cdP cd x y) : if_icmp.holds cd x y = false := by
  cases q : if_icmp.holds cd x y
  · rfl
  · exact absurd ((cdP_iff cd x y).mp q) h
theorem Wp.icmpY {cd : ClassFile.Cond} {x y : Int32} {o : Int} {pc' : Nat} (hd : decode B pc = .ok (.if_icmp cd o, 3)) (hc : cdP cd x y) (ho : 0 ≤ (pc : Int) + o) (hp : ((pc : Int) + o).toNat = pc') (r : Wp l Z R my B ml ret n0 Q h cells slots pc' L S) : Wp l Z R my B ml ret n0 Q h cells slots pc L (.int y :: .int x :: S) :=
  Wp.plain (fun K X _ target kt => XS.icmpYes X.here K.1 rfl rfl (hb K.2.1 hd) rfl ((cdP_iff cd x y).mpr hc) ho hp kt) r
theorem Wp.icmpN {cd : ClassFile.Cond} {x y : Int32} {o : Int} {pc' : Nat} (hd : decode B pc = .ok (.if_icmp cd o, 3)) (hc : ¬ cdP cd x y) (hp : pc + 3 = pc') (r : Wp l Z R my B ml ret n0 Q h cells slots pc' L S) : Wp l Z R my B ml ret n0 Q h cells slots pc L (.int y :: .int x :: S) := by
  subst hp; exact Wp.plain (fun K X _ target kt => XS.icmpNo X.here K.1 rfl (hb K.2.1 hd) rfl (cdP_not cd x y hc) kt) r
theorem Wp.ifY {cd : ClassFile.Cond} {x : Int32} {o : Int} {pc' : Nat} (hd : decode B pc = .ok (.ifCond cd o, 3)) (hc : cdP cd x 0) (ho : 0 ≤ (pc : Int) + o) (hp : ((pc : Int) + o).toNat = pc') (r : Wp l Z R my B ml ret n0 Q h cells slots pc' L S) : Wp l Z R my B ml ret n0 Q h cells slots pc L (.int x :: S) :=
  Wp.plain (fun K X _ target kt => XS.ifYes X.here K.1 rfl rfl (hb K.2.1 hd) rfl ((if0 _ _).trans ((cdP_iff cd x 0).mpr hc)) ho hp kt) r
theorem Wp.ifN {cd : ClassFile.Cond} {x : Int32} {o : Int} {pc' : Nat} (hd : decode B pc = .ok (.ifCond cd o, 3)) (hc : ¬ cdP cd x 0) (hp : pc + 3 = pc') (r : Wp l Z R my B ml ret n0 Q h cells slots pc' L S) : Wp l Z R my B ml ret n0 Q h cells slots pc L (.int x :: S) := by
  subst hp; exact Wp.plain (fun K X _ target kt => XS.ifNo X.here K.1 rfl (hb K.2.1 hd) rfl ((if0 _ _).trans (cdP_not cd x 0 hc)) kt) r
/-- lcmp, then a branch on it -/
abbrev cdL (cd : ClassFile.Cond) (x y : Int64) : Prop := match cd with | .eq => x = y | .ne => x ≠ y | .lt => x < y | .ge => ¬ x < y | .gt => y < x | .le => ¬ y < x
theorem cmpL_lt (x y : Int64) : XT.cmpL x y < 0 ↔ x < y := lw_lt x y
theorem cmpL_gt (x y : Int64) : 0 < XT.cmpL x y ↔ y < x := lw_gt x y
theorem cmpL_eq (x y : Int64) : XT.cmpL x y = 0 ↔ x = y := lw_eq x y
theorem cdL_iff (cd : ClassFile.Cond) (x y : Int64) : cdP cd (XT.cmpL x y) 0 ↔ cdL cd x y := by
  cases cd
  · exact cmpL_eq x y
  · exact not_congr (cmpL_eq x y)
  · exact cmpL_lt x y
  · exact not_congr (cmpL_lt x y)
  · exact cmpL_gt x y
  · exact not_congr (cmpL_gt x y)
theorem Wp.lcmp {x y : Int64} {z : Int32} {pc' : Nat} (hd : decode B pc = .ok (.lcmp, 1)) (hz : XT.cmpL x y = z) (hp : pc + 1 = pc') (r : Wp l Z R my B ml ret n0 Q h cells slots pc' L (.int z :: S)) : Wp l Z R my B ml ret n0 Q h cells slots pc L (.long y :: .long x :: S) := by
  subst hp hz; exact Wp.plain (fun K X _ target kt => XT.lcmp X.here K.1 rfl (hb K.2.1 hd) rfl kt) r
theorem Wp.lcmpY {cd : ClassFile.Cond} {x y : Int64} {o : Int} {p1 pc' : Nat} (hd : decode B pc = .ok (.lcmp, 1)) (h1 : pc + 1 = p1) (hd' : decode B p1 = .ok (.ifCond cd o, 3)) (hc : cdL cd x y) (ho : 0 ≤ (p1 : Int) + o) (hp : ((p1 : Int) + o).toNat = pc') (r : Wp l Z R my B ml ret n0 Q h cells slots pc' L S) : Wp l Z R my B ml ret n0 Q h cells slots pc L (.long y :: .long x :: S) :=
  Wp.lcmp hd rfl h1 (Wp.ifY hd' ((cdL_iff cd x y).mpr hc) ho hp r)
theorem Wp.lcmpN {cd : ClassFile.Cond} {x y : Int64} {o : Int} {p1 pc' : Nat} (hd : decode B pc = .ok (.lcmp, 1)) (h1 : pc + 1 = p1) (hd' : decode B p1 = .ok (.ifCond cd o, 3)) (hc : ¬ cdL cd x y) (hp : p1 + 3 = pc') (r : Wp l Z R my B ml ret n0 Q h cells slots pc' L S) : Wp l Z R my B ml ret n0 Q h cells slots pc L (.long y :: .long x :: S) :=
  Wp.lcmp hd rfl h1 (Wp.ifN hd' (fun q => hc ((cdL_iff cd x y).mp q)) hp r)
theorem Wp.ifnullY {o : Int} {pc' : Nat} (hd : decode B pc = .ok (.ifnull o, 3)) (ho : 0 ≤ (pc : Int) + o) (hp : ((pc : Int) + o).toNat = pc') (r : Wp l Z R my B ml ret n0 Q h cells slots pc' L S) : Wp l Z R my B ml ret n0 Q h cells slots pc L (.null :: S) :=
  Wp.plain (fun K X _ target kt => XS.ifnullYes X.here K.1 rfl rfl (hb K.2.1 hd) rfl ho hp kt) r
theorem Wp.ifnullN {a : Addr} {o : Int} {pc' : Nat} (hd : decode B pc = .ok (.ifnull o, 3)) (hp : pc + 3 = pc') (r : Wp l Z R my B ml ret n0 Q h cells slots pc' L S) : Wp l Z R my B ml ret n0 Q h cells slots pc L (.ref a :: S) := by
  subst hp; exact Wp.plain (fun K X _ target kt => XS.ifnullNo X.here K.1 rfl (hb K.2.1 hd) rfl kt) r
theorem Wp.ifnonnullY {a : Addr} {o : Int} {pc' : Nat} (hd : decode B pc = .ok (.ifnonnull o, 3)) (ho : 0 ≤ (pc : Int) + o) (hp : ((pc : Int) + o).toNat = pc') (r : Wp l Z R my B ml ret n0 Q h cells slots pc' L S) : Wp l Z R my B ml ret n0 Q h cells slots pc L (.ref a :: S) :=
  Wp.plain (fun K X _ target kt => XT.ifnonnullYes X.here K.1 rfl rfl (hb K.2.1 hd) rfl ho hp kt) r
theorem Wp.ifnonnullN {o : Int} {pc' : Nat} (hd : decode B pc = .ok (.ifnonnull o, 3)) (hp : pc + 3 = pc') (r : Wp l Z R my B ml ret n0 Q h cells slots pc' L S) : Wp l Z R my B ml ret n0 Q h cells slots pc L (.null :: S) := by
  subst hp; exact Wp.plain (fun K X _ target kt => XT.ifnonnullNo X.here K.1 rfl (hb K.2.1 hd) rfl kt) r
theorem Wp.acmpY {cd : ClassFile.ACond} {v w : Value} {o : Int} {pc' : Nat} (hd : decode B pc = .ok (.if_acmp cd o, 3)) (hv : v.isRef = true) (hw : w.isRef = true) (hc : XT.acmp cd v w = true) (ho : 0 ≤ (pc : Int) + o) (hp : ((pc : Int) + o).toNat = pc') (r : Wp l Z R my B ml ret n0 Q h cells slots pc' L S) : Wp l Z R my B ml ret n0 Q h cells slots pc L (w :: v :: S) :=
  Wp.plain (fun K X _ target kt => XT.acmpYes X.here K.1 rfl rfl (hb K.2.1 hd) rfl hv hw hc ho hp kt) r
theorem Wp.acmpN {cd : ClassFile.ACond} {v w : Value} {o : Int} {pc' : Nat} (hd : decode B pc = .ok (.if_acmp cd o, 3)) (hv : v.isRef = true) (hw : w.isRef = true) (hc : XT.acmp cd v w = false) (hp : pc + 3 = pc') (r : Wp l Z R my B ml ret n0 Q h cells slots pc' L S) : Wp l Z R my B ml ret n0 Q h cells slots pc L (w :: v :: S) := by
  subst hp; exact Wp.plain (fun K X _ target kt => XT.acmpNo X.here K.1 rfl (hb K.2.1 hd) rfl hv hw hc kt) r
/-- lookupswitch: where it goes -/
theorem Wp.lsw {dflt o : Int} {pairs : Array (Int × Int)} {len : Nat} {i : Int32} {pc' : Nat} (hd : decode B pc = .ok (.lookupswitch dflt pairs, len)) (hsrt : ∀ (a b a' b' : Int), ((a, b), a', b') ∈ pairs.toList.zip pairs.toList.tail → a < a') (hq : lookupswitch.offset pairs.toList dflt i.toInt = o) (ho : 0 ≤ (pc : Int) + o) (hp : ((pc : Int) + o).toNat = pc') (r : Wp l Z R my B ml ret n0 Q h cells slots pc' L S) : Wp l Z R my B ml ret n0 Q h cells slots pc L (.int i :: S) := by
  subst hp hq
  refine Wp.plain (fun {p e s m args below meth c T locs} K X _ target kt => ?_) r
  have hx := K.1
  have hd' : decode c.code pc = .ok (.lookupswitch dflt pairs, len) := hb K.2.1 hd
  show Steps p.tables e below (T.setTop { method := m, pc := pc, locals := L, stack := .int i :: S, locked := none }) _
  jvm_step X.here [X.here.top, hx, hd', lookupswitch.wp_chain, ho]
  exact ⟨hsrt, kt⟩
/-! returns -/
theorem Wp.ends {v : Option Value} (hc : cells ≤ R.cells) (hs : slots ≤ R.slots) (hq : Q v h) (hv : ret = none → v = none)
    (st : ∀ {p : Program} {e : Env} {s : State} {m : MethodId} {args : Array Value} {below : List Frame} {meth : Method} {c : Code} {T : State} {locs : List Loc}, Cx p s m meth c Z my B ml ret → Stand p l e R s m args below meth c T locs cells slots → ∀ fs, (∀ (f : JFrame) (acts : List Action), f.method = m → f.locked = none → f.entered = [] → (doReturn e (T.setTop f) acts v).1 = T.setFrames fs) → Steps p.tables e below (T.setTop (mkF m pc L S)) (T.setFrames fs)) : Wp l Z R my B ml ret n0 Q h cells slots pc L S := by
  intro p e s m args below meth c T locs K X eT N
  obtain ⟨fs, hr, hrun, hended, hW, hsame⟩ := X.leave (v := v) (fun q => hv (K.2.2.2.2.2.2.1.symm.trans q)) K.2.2.2.2.2.2.2
  refine ⟨_, _, st K X fs hr, hrun, hended, v, locs, rfl, ⟨?_, N⟩, ⟨v, rfl⟩, hW, hsame.mono hc hs⟩
  show Q v T.heap
  rw [eT]; exact hq
theorem Wp.retOut {v : Value} {t : FieldType} {i : Instr} (ht : ret = some t) (hn : narrow t v = v)
    (hi : (i = .ireturn ∧ (t = .int ∨ t = .boolean ∨ t = .byte ∨ t = .char ∨ t = .short) ∧ ∃ z, v = .int z) ∨ (i = .lreturn ∧ t = .long ∧ ∃ z, v = .long z) ∨ (i = .dreturn ∧ t = .double ∧ ∃ z, v = .double z) ∨ (i = .freturn ∧ t = .float ∧ ∃ z, v = .float z) ∨ (i = .areturn ∧ t.isReference = true ∧ v.isRef = true))
    (hd : decode B pc = .ok (i, 1)) (hc : cells ≤ R.cells) (hs : slots ≤ R.slots) (hq : Q (some v) h) : Wp l Z R my B ml ret n0 Q h cells slots pc L (v :: S) :=
  Wp.ends hc hs hq (fun q => by rw [ht] at q; cases q) (fun K X fs hl => RoadKit.retOut X K.1 (K.2.2.2.2.2.2.1.trans ht) hn hi (hb K.2.1 hd) hl)
theorem Wp.retI {z : Int32} (ht : ret = some .int) (hd : decode B pc = .ok (.ireturn, 1)) (hc : cells ≤ R.cells) (hs : slots ≤ R.slots) (hq : Q (some (.int z)) h) : Wp l Z R my B ml ret n0 Q h cells slots pc L (.int z :: S) :=
  Wp.retOut ht rfl (Or.inl ⟨rfl, Or.inl rfl, z, rfl⟩) hd hc hs hq
theorem Wp.retL {z : Int64} (ht : ret = some .long) (hd : decode B pc = .ok (.lreturn, 1)) (hc : cells ≤ R.cells) (hs : slots ≤ R.slots) (hq : Q (some (.long z)) h) : Wp l Z R my B ml ret n0 Q h cells slots pc L (.long z :: S) :=
  Wp.retOut ht rfl (Or.inr (Or.inl ⟨rfl, rfl, z, rfl⟩)) hd hc hs hq
/-- a boolean, byte, char or short, that is one already -/
theorem Wp.retS {z : Int32} {t : FieldType} (ht : ret = some t) (hk : t = .boolean ∨ t = .byte ∨ t = .char ∨ t = .short) (hn : narrow t (.int z) = .int z) (hd : decode B pc = .ok (.ireturn, 1)) (hc : cells ≤ R.cells) (hs : slots ≤ R.slots) (hq : Q (some (.int z)) h) : Wp l Z R my B ml ret n0 Q h cells slots pc L (.int z :: S) :=
  Wp.retOut ht hn (Or.inl ⟨rfl, Or.inr hk, z, rfl⟩) hd hc hs hq
theorem Wp.retA {v : Value} {t : FieldType} (ht : ret = some t) (htr : t.isReference = true) (hv : v.isRef = true) (hn : narrow t v = v) (hd : decode B pc = .ok (.areturn, 1)) (hc : cells ≤ R.cells) (hs : slots ≤ R.slots) (hq : Q (some v) h) : Wp l Z R my B ml ret n0 Q h cells slots pc L (v :: S) :=
  Wp.retOut ht hn (Or.inr (Or.inr (Or.inr (Or.inr ⟨rfl, htr, hv⟩)))) hd hc hs hq
theorem Wp.ret0 (ht : ret = none) (hd : decode B pc = .ok (.return_, 1)) (hc : cells ≤ R.cells) (hs : slots ≤ R.slots) (hq : Q none h) : Wp l Z R my B ml ret n0 Q h cells slots pc L [] :=
  Wp.ends hc hs hq (fun _ => rfl) (fun K X fs hl => X.returnOut K.1 (K.2.2.2.2.2.2.1.trans ht) (hb K.2.1 hd) hl)
/-! calls -/
theorem Wp.callS {yy : MethodName} {B' : ByteArray} {ml' : Nat} {ret' : Option FieldType} {rm : Room} {Q' : Option Value → Heap → Prop} {index pc' : Nat} {argsL S0 : List Value} {as : Array Value} (M : Met l Z yy B' ml' ret' rm as h n0 Q')
    (wl : (Jvm.Cond.methodLink my.cls index yy).before a0 Z = true) (ws : (Jvm.Cond.static yy).before a0 Z = true) (wi : (Jvm.Cond.initialized yy.cls).before a0 Z = true) (wc : (Jvm.Cond.code yy B' ml' ret').before a0 Z = true)
    (hy : yy.cls ≠ "java/lang/invoke/MethodHandle" ∧ yy.cls ≠ "java/lang/invoke/VarHandle") {W : Nat} (hsz : L.size = ml) (hlen : ∀ sig, parseMethodDescriptor yy.desc = some sig → argsL.length = sig.parameters.length) (hst : S0 = argsL.reverse ++ S) (has : argsL.toArray = as) (hW : (S.map fun v => v.category).sum ≤ W)
    (hf : rm.frames + 1 ≤ R.frames) (hl : W + (ml' + 11) + rm.locals ≤ R.locals) (hc : cells + rm.cells ≤ R.cells) (hs : slots + rm.slots ≤ R.slots) (hd : decode B pc = .ok (.invokestatic index, 3)) (hp : pc + 3 = pc')
    (r : ∀ v h', Q' v h' → Wp l Z R my B ml ret n0 Q h' (cells + rm.cells) (slots + rm.slots) pc' L (v.toList ++ S)) : Wp l Z R my B ml ret n0 Q h cells slots pc L S0 := by
  intro p e s m args below meth c T locs K X eT N
  subst hp hst
  have hZ := K.2.2.2.1
  obtain ⟨v, vm₁, ⟨T', L', k', n'⟩, -, X', ⟨Lc, hQ, l', y', z'⟩, st⟩ := Jvm.LawKit.callS X K.1 (y := yy) K.2.2.2.2.1 (mvT hZ wl) (mvT hZ ws) (mvT hZ wi) (mvT hZ wc) hy (backOf (W := W) (Q := fun v h L => Q' v h ∧ Fr n0 L) (M []) hZ wc wi hf hl) (g := mkF m pc L (argsL.reverse ++ S)) rfl (hsz.trans K.2.2.1.symm) (argsL := argsL) (rest := S) hlen rfl (by show 2 * 0 + _ ≤ _; rw [Nat.mul_zero, Nat.zero_add]; exact hW) (hb K.2.1 hd) (fun _ _ => ⟨has, eT, hc, hs⟩)
  dsimp only [Pt.U, Pt.locs, Pt.cells, Pt.slots] at X' l' y' z' st hQ
  subst l' y' z'
  obtain ⟨s₂, o, k1, k2⟩ := r v _ hQ.1 p e s m args below meth c T' _ K X' rfl (Fr.app N hQ.2)
  exact ⟨s₂, o, st _ k1, k2⟩
theorem Wp.callV {yy zz : MethodName} {B' : ByteArray} {ml' : Nat} {ret' : Option FieldType} {rm : Room} {Q' : Option Value → Heap → Prop} {index pc' : Nat} {argsL S0 : List Value} {as : Array Value} {a : Addr} {C : String} (M : Met l Z zz B' ml' ret' rm as h n0 Q') (E : Exa Z h a C)
    (wl : (Jvm.Cond.methodLink my.cls index yy).before a0 Z = true) (wd : (Jvm.Cond.declares yy).before a0 Z = true) (wse : (Jvm.Cond.selects C yy zz).before a0 Z = true) (wm : (Jvm.Cond.instanceMethod zz).before a0 Z = true) (wi : (Jvm.Cond.initialized zz.cls).before a0 Z = true) (wc : (Jvm.Cond.code zz B' ml' ret').before a0 Z = true)
    (nf : ∀ s : State, Z.Warmed39 s.vm → NotFace s yy)
    (hy : yy.cls ≠ "java/lang/invoke/MethodHandle" ∧ yy.cls ≠ "java/lang/invoke/VarHandle") {W : Nat} (hsz : L.size = ml) (hlen : ∀ sig, parseMethodDescriptor yy.desc = some sig → argsL.length = sig.parameters.length) (hst : S0 = argsL.reverse ++ .ref a :: S) (has : (.ref a :: argsL).toArray = as) (hW : (S.map fun v => v.category).sum ≤ W)
    (hf : rm.frames + 1 ≤ R.frames) (hl : W + (ml' + 11) + rm.locals ≤ R.locals) (hc : cells + rm.cells ≤ R.cells) (hs : slots + rm.slots ≤ R.slots) (hd : decode B pc = .ok (.invokevirtual index, 3)) (hp : pc + 3 = pc')
    (r : ∀ v h', Q' v h' → Wp l Z R my B ml ret n0 Q h' (cells + rm.cells) (slots + rm.slots) pc' L (v.toList ++ S)) : Wp l Z R my B ml ret n0 Q h cells slots pc L S0 := by
  intro p e s m args below meth c T locs K X eT N
  subst hp hst
  have hZ := K.2.2.2.1
  obtain ⟨cB, kB, q1, -, q3⟩ := isOf hZ eT E
  obtain ⟨v, vm₁, ⟨T', L', k', n'⟩, -, X', ⟨Lc, hQ, l', y', z'⟩, st⟩ := X.virtualBack K.1 (y := yy) (z := zz) K.2.2.2.2.1 (mvT hZ wl) (mvT hZ wd) (nf s hZ) (mvT hZ wse) (mvT hZ wm) hy (backOf (W := W) (Q := fun v h L => Q' v h ∧ Fr n0 L) (M []) hZ wc wi hf hl) q1 q3 (g := mkF m pc L (argsL.reverse ++ .ref a :: S)) rfl (hsz.trans K.2.2.1.symm) (Steps.refl _) (argsL := argsL) (rest := S) hlen rfl (by show 2 * 0 + _ ≤ _; rw [Nat.mul_zero, Nat.zero_add]; exact hW) (hb K.2.1 hd) (fun _ _ => ⟨has, eT, hc, hs⟩)
  dsimp only [Pt.U, Pt.locs, Pt.cells, Pt.slots] at X' l' y' z' st hQ
  subst l' y' z'
  obtain ⟨s₂, o, k1, k2⟩ := r v _ hQ.1 p e s m args below meth c T' _ K X' rfl (Fr.app N hQ.2)
  exact ⟨s₂, o, st.trans k1, k2⟩
theorem nfS {yy : MethodName} {C : String} (w : (Jvm.Cond.selects C yy yy).before a0 Z = true) : ∀ s : State, Z.Warmed39 s.vm → NotFace s yy := fun s hZ => notFace_of_selects (args := #[]) (mvT hZ w)
theorem Wp.callI {yy : MethodName} {B' : ByteArray} {ml' : Nat} {rm : Room} {Q' : Option Value → Heap → Prop} {index pc' : Nat} {argsL S0 : List Value} {as : Array Value} {a : Addr} (M : Met l Z yy B' ml' none rm as h n0 Q') (hin : yy.name = "<init>")
    (wl : (Jvm.Cond.methodLink my.cls index yy).before a0 Z = true) (wm : (Jvm.Cond.instanceMethod yy).before a0 Z = true) (wi : (Jvm.Cond.initialized yy.cls).before a0 Z = true) (wc : (Jvm.Cond.code yy B' ml' none).before a0 Z = true)
    (hy : yy.cls ≠ "java/lang/invoke/MethodHandle" ∧ yy.cls ≠ "java/lang/invoke/VarHandle") {W : Nat} (hsz : L.size = ml) (hlen : ∀ sig, parseMethodDescriptor yy.desc = some sig → argsL.length = sig.parameters.length) (hst : S0 = argsL.reverse ++ .ref a :: S) (has : (.ref a :: argsL).toArray = as) (hW : (S.map fun v => v.category).sum ≤ W)
    (hf : rm.frames + 1 ≤ R.frames) (hl : W + (ml' + 11) + rm.locals ≤ R.locals) (hc : cells + rm.cells ≤ R.cells) (hs : slots + rm.slots ≤ R.slots) (hd : decode B pc = .ok (.invokespecial index, 3)) (hp : pc + 3 = pc')
    (r : ∀ v h', Q' v h' → Wp l Z R my B ml ret n0 Q h' (cells + rm.cells) (slots + rm.slots) pc' L (v.toList ++ S)) : Wp l Z R my B ml ret n0 Q h cells slots pc L S0 := by
  intro p e s m args below meth c T locs K X eT N
  subst hp hst
  have hZ := K.2.2.2.1
  obtain ⟨v, vm₁, ⟨T', L', k', n'⟩, -, X', ⟨Lc, hQ, l', y', z'⟩, st⟩ := X.specialBack K.1 (y := yy) hin K.2.2.2.2.1 (mvT hZ wl) (mvT hZ wm) (mvT hZ wc) hy (backOf (W := W) (Q := fun v h L => Q' v h ∧ Fr n0 L) (M []) hZ wc wi hf hl) (g := mkF m pc L (argsL.reverse ++ .ref a :: S)) rfl (hsz.trans K.2.2.1.symm) (Steps.refl _) (a := a) (argsL := argsL) (rest := S) hlen rfl (by show 2 * 0 + _ ≤ _; rw [Nat.mul_zero, Nat.zero_add]; exact hW) (hb K.2.1 hd) (fun _ _ => ⟨has, eT, hc, hs⟩)
  dsimp only [Pt.U, Pt.locs, Pt.cells, Pt.slots] at X' l' y' z' st hQ
  subst l' y' z'
  obtain ⟨s₂, o, k1, k2⟩ := r v _ hQ.1 p e s m args below meth c T' _ K X' rfl (Fr.app N hQ.2)
  exact ⟨s₂, o, st.trans k1, k2⟩
theorem Wp.initO {a : Addr} {index pc' : Nat} (wl : (Jvm.Cond.methodLink my.cls index Lib.objectInit).before a0 Z = true) (wm : (Jvm.Cond.instanceMethod Lib.objectInit).before a0 Z = true) (wc : (Jvm.Cond.code Lib.objectInit ⟨#[0xb1]⟩ 1 none).before a0 Z = true) {W : Nat} (hsz : L.size = ml) (hW : (S.map fun v => v.category).sum ≤ W) (hf : 1 ≤ R.frames) (hl : W + 12 ≤ R.locals)
    (hd : decode B pc = .ok (.invokespecial index, 3)) (hp : pc + 3 = pc') (r : Wp l Z R my B ml ret n0 Q h cells slots pc' L S) : Wp l Z R my B ml ret n0 Q h cells slots pc L (.ref a :: S) := by
  subst hp
  refine Wp.moved (fun {p e s m args below meth c T locs} K X eT => ?_) r
  exact RoadKit.initO X K.1 K.2.2.2.1 K.2.2.2.2.1 wl wm wc eT (g := mkF m pc L (.ref a :: S)) rfl (hsz.trans K.2.2.1.symm) rfl (hb K.2.1 hd) hf (by show 2 * 0 + _ ≤ _; rw [Nat.mul_zero, Nat.zero_add]; exact hW) hl
end Base
/-! what is known of the heap: a list of places, no two the same, all new, with what each holds -/
def Hp (h : Heap) (n0 : Nat) (Ls : List (Addr × (Cell → Prop))) : Prop := n0 ≤ h.size ∧ Ls.Pairwise (fun x y => x.1 ≠ y.1) ∧ ∀ q ∈ Ls, n0 ≤ q.1 ∧ ∃ c, h[q.1]? = some c ∧ q.2 c
/-- an array: its type, its kind, all its values -/
def ArC (Z : State) (k : ClassId) (ty : FieldType) (vs : List Value) (c : Cell) : Prop := Z.isArrayOf c ty ∧ c.vm ≠ .unknown ∧ c.cls = k ∧ c.slots.toList = vs ∧ ∀ v ∈ vs, fits ty v = true
def FdC (Z : State) (C : String) (f : String × String × Value) (c : Cell) : Prop := ∃ (cf : ClassId) (k : Class) (i : Nat) (fd : Field), Z.fieldFound? C f.1 f.2.1 = some (cf, k, i, fd) ∧ fd.isStatic = false ∧ c.vm ≠ .unknown ∧ c.vm.isStatics = false ∧ Z.vm.assignable c.cls cf = true ∧ c.slots[fd.slot]? = some f.2.2
/-- an object: its type, the fields that are told -/
def ObC (Z : State) (a0 : Array Value) (C : String) (fs : List (String × String × Value)) (c : Cell) : Prop :=
  (∃ k : Class, Z.vm.findClass C = some c.cls ∧ Z.vm.classes[c.cls]? = some k ∧ c.vm.isStatics = false ∧ (k.kind = .ordinary → c.slots.size = k.instanceTypes.size)) ∧ ∀ f ∈ fs, FdC Z C f c ∧ Laid Z a0 C C f.1 f.2.1 ∧ ∃ t, parseFieldDescriptor f.2.1 = some t
section Heap
variable {l : Launch} {Z : State} {R : Room} {my : MethodName} {B : ByteArray} {ml : Nat} {ret : Option FieldType} {n0 : Nat} {Q : Option Value → Heap → Prop} {h h' : Heap} {cells slots pc : Nat} {L : Array Slot} {S : List Value} {a0 : Array Value} {a : Addr} {P P' : Cell → Prop} {Ls Ls' LA LB : List (Addr × (Cell → Prop))} {k : ClassId} {ty : FieldType} {vs : List Value} {C n d : String} {v : Value} {fs F1 F2 : List (String × String × Value)}
theorem Hp.nil (q : n0 ≤ h.size) : Hp h n0 [] := ⟨q, List.Pairwise.nil, fun _ z => nomatch z⟩
theorem Hp.at (O : Hp h n0 Ls) {i : Nat} (hi : Ls[i]? = some (a, P)) : n0 ≤ a ∧ ∃ c, h[a]? = some c ∧ P c := O.2.2 _ (List.mem_of_getElem? hi)
theorem Hp.perm (O : Hp h n0 Ls) (q : Ls.Perm Ls') : Hp h n0 Ls' :=
  ⟨O.1, (q.pairwise_iff (fun {x y} (hh : x.1 ≠ y.1) => Ne.symm hh)).mp O.2.1, fun z hz => O.2.2 z (q.mem_iff.mpr hz)⟩
theorem Hp.front {x : Addr × (Cell → Prop)} (O : Hp h n0 (LA ++ x :: LB)) : Hp h n0 (x :: (LA ++ LB)) := O.perm List.perm_middle
theorem Hp.back {x : Addr × (Cell → Prop)} (O : Hp h n0 (x :: (LA ++ LB))) : Hp h n0 (LA ++ x :: LB) := O.perm List.perm_middle.symm
theorem Hp.drop {x : Addr × (Cell → Prop)} (O : Hp h n0 (x :: Ls)) : Hp h n0 Ls := ⟨O.1, (List.pairwise_cons.mp O.2.1).2, fun z hz => O.2.2 z (List.mem_cons_of_mem _ hz)⟩
theorem Hp.weak (O : Hp h n0 (LA ++ (a, P) :: LB)) (hP : ∀ c, P c → P' c) : Hp h n0 (LA ++ (a, P') :: LB) := by
  obtain ⟨h1, h2, h3⟩ := O
  refine ⟨h1, ?_, fun q hq => ?_⟩
  · rw [List.pairwise_append, List.pairwise_cons] at h2 ⊢
    refine ⟨h2.1, h2.2.1, fun x hx z hz => ?_⟩
    rcases List.mem_cons.mp hz with rfl | hz
    · exact h2.2.2 x hx (a, P) (List.mem_cons_self ..)
    · exact h2.2.2 x hx z (List.mem_cons_of_mem _ hz)
  · rcases List.mem_append.mp hq with hq | hq
    · exact h3 q (List.mem_append_left _ hq)
    · rcases List.mem_cons.mp hq with rfl | hq
      · obtain ⟨u1, c, u2, u3⟩ := h3 (a, P) (List.mem_append_right _ (List.mem_cons_self ..))
        exact ⟨u1, c, u2, hP c u3⟩
      · exact h3 q (List.mem_append_right _ (List.mem_cons_of_mem _ hq))
theorem Hp.wr {sl : Nat} (O : Hp h n0 (LA ++ (a, P) :: LB)) (W : Wr h h' a sl v) (hP : ∀ c, P c → P' (c.setSlot sl v)) : Hp h' n0 (LA ++ (a, P') :: LB) := by
  obtain ⟨h1, h2, h3⟩ := O
  have h2' := h2
  rw [List.pairwise_append, List.pairwise_cons] at h2'
  refine ⟨by rw [W.size]; exact h1, ?_, fun q hq => ?_⟩
  · rw [List.pairwise_append, List.pairwise_cons]
    refine ⟨h2'.1, h2'.2.1, fun x hx z hz => ?_⟩
    rcases List.mem_cons.mp hz with rfl | hz
    · exact h2'.2.2 x hx (a, P) (List.mem_cons_self ..)
    · exact h2'.2.2 x hx z (List.mem_cons_of_mem _ hz)
  · rcases List.mem_append.mp hq with hq | hq
    · obtain ⟨u1, c, u2, u3⟩ := h3 q (List.mem_append_left _ hq)
      obtain ⟨c', w1, -, -, -, w5, -⟩ := wr_at W u2
      have ne : q.1 ≠ a := h2'.2.2 q hq (a, P) (List.mem_cons_self ..)
      exact ⟨u1, c', w1, by rw [w5 ne]; exact u3⟩
    · rcases List.mem_cons.mp hq with rfl | hq
      · obtain ⟨u1, c, u2, u3⟩ := h3 (a, P) (List.mem_append_right _ (List.mem_cons_self ..))
        obtain ⟨c', w1, -, -, -, -, -, w7⟩ := wr_at W u2
        exact ⟨u1, c', w1, by rw [(w7 rfl).1]; exact hP c u3⟩
      · obtain ⟨u1, c, u2, u3⟩ := h3 q (List.mem_append_right _ (List.mem_cons_of_mem _ hq))
        obtain ⟨c', w1, -, -, -, w5, -⟩ := wr_at W u2
        have ne : q.1 ≠ a := fun e => h2'.2.1.1 q hq e.symm
        exact ⟨u1, c', w1, by rw [w5 ne]; exact u3⟩
theorem Hp.new {c : Cell} (O : Hp h n0 Ls) (E : Ext h h') (hc : h'[h.size]? = some c) (hP : P c) : Hp h' n0 ((h.size, P) :: Ls) := by
  obtain ⟨h1, h2, h3⟩ := O
  refine ⟨Nat.le_trans h1 E.1, List.pairwise_cons.mpr ⟨fun q hq e => ?_, h2⟩, fun q hq => ?_⟩
  · obtain ⟨-, c', u2, -⟩ := h3 q hq
    have := (Array.getElem?_eq_some_iff.mp u2).1
    have e' : h.size = q.1 := e
    omega
  · rcases List.mem_cons.mp hq with rfl | hq
    · exact ⟨h1, c, hc, hP⟩
    · obtain ⟨u1, c', u2, u3⟩ := h3 q hq
      exact ⟨u1, c', E.2 _ _ u2, u3⟩
theorem Hp.ne {i j : Nat} {b : Addr} (O : Hp h n0 Ls) (hi : Ls[i]? = some (a, P)) (hj : Ls[j]? = some (b, P')) (hij : i ≠ j) : a ≠ b := by
  obtain ⟨i1, e1⟩ := List.getElem?_eq_some_iff.mp hi
  obtain ⟨j1, e2⟩ := List.getElem?_eq_some_iff.mp hj
  have q := List.pairwise_iff_getElem.mp O.2.1
  rcases Nat.lt_or_gt_of_ne hij with u | u
  · have := q i j i1 j1 u
    rw [e1, e2] at this; exact this
  · have := q j i j1 i1 u
    rw [e1, e2] at this; exact Ne.symm this
theorem ArC.arr {c : Cell} (H : ArC Z k ty vs c) (hc : h[a]? = some c) : Arr Z h a c ty := ⟨hc, H.1, H.2.1⟩
theorem ArC.size {c : Cell} (H : ArC Z k ty vs c) : c.slots.size = vs.length := by rw [← H.2.2.2.1]; simp
theorem ArC.get {c : Cell} (H : ArC Z k ty vs c) (j : Nat) : c.slots[j]? = vs[j]? := by rw [← H.2.2.2.1]; simp
theorem ArC.set {c : Cell} (H : ArC Z k ty vs c) (j : Nat) (hv : fits ty v = true) : ArC Z k ty (vs.set j v) (c.setSlot j v) := by
  refine ⟨H.1, H.2.1, H.2.2.1, ?_, fun w hw => ?_⟩
  · rw [← H.2.2.2.1]; simp [Cell.setSlot]
  · rcases List.mem_or_eq_of_mem_set hw with q | rfl
    · exact H.2.2.2.2 w q
    · exact hv
theorem in_of {c : Cell} {j : Int32} {jn : Nat} (H : ArC Z k ty vs c) (hj : ¬ j < 0) (hjn : j.toNatClampNeg = jn) (hl : jn < vs.length) : ¬ (j < 0 ∨ c.slots.size ≤ j.toNatClampNeg) := by
  rw [H.size, hjn]; exact fun q => q.elim hj (fun q => by omega)
theorem default_fits (ty : FieldType) : fits ty (defaultValue ty) = true := by cases ty <;> rfl
/-! arrays -/
theorem Wp.newarr {aty : ArrayType} {nn : Int32} {m pc' cap : Nat} (O : Hp h n0 Ls) (w : (Jvm.Cond.arrayClass (newarray.typeOf aty)).before a0 Z = true) (hd : decode B pc = .ok (.newarray aty, 2)) (hn : ¬ nn < 0) (hm : nn.toNatClampNeg = m) (hcap : m ≤ cap) (hb' : cap * 8 ≤ 536870912) (hc : cells + 1 ≤ R.cells) (hl : slots + cap ≤ R.slots) (hp : pc + 2 = pc')
    (r : ∀ h' a k, Hp h' n0 ((a, ArC Z k (newarray.typeOf aty) (List.replicate m (defaultValue (newarray.typeOf aty)))) :: Ls) → Wp l Z R my B ml ret n0 Q h' (cells + 1) (slots + cap) pc' L (.ref a :: S)) : Wp l Z R my B ml ret n0 Q h cells slots pc L (.int nn :: S) := by
  intro p e s m' args below meth c T locs K X eT N
  subst hp hm
  obtain ⟨T', h', cA, X', e', E, A, st⟩ := RoadKit.newP X K.1 K.2.2.2.1 w eT (g := mkF m' pc L (.int nn :: S)) rfl (hb K.2.1 hd) rfl hn hcap hb' hc hl
  have O' : Hp h' n0 ((h.size, ArC Z cA (newarray.typeOf aty) (List.replicate nn.toNatClampNeg (defaultValue (newarray.typeOf aty)))) :: Ls) := O.new E A.1 ⟨A.2.1, A.2.2, rfl, by simp [newA], fun v hv => by rw [List.eq_of_mem_replicate hv]; exact default_fits _⟩
  obtain ⟨s₂, o, k1, k2⟩ := r h' h.size cA O' p e s m' args below meth c T' locs K X' e' N
  exact ⟨s₂, o, st _ k1, k2⟩
theorem Wp.arrlen {i pc' : Nat} {z : Int32} (O : Hp h n0 Ls) (hi : Ls[i]? = some (a, ArC Z k ty vs)) (hd : decode B pc = .ok (.arraylength, 1)) (hz : vs.length.toInt32 = z) (hp : pc + 1 = pc') (r : Wp l Z R my B ml ret n0 Q h cells slots pc' L (.int z :: S)) : Wp l Z R my B ml ret n0 Q h cells slots pc L (.ref a :: S) := by
  subst hp hz
  obtain ⟨-, c, hc, H⟩ := O.at hi
  refine Wp.plain (fun {p e s m args below meth c' T locs} K X eT target kt => ?_) r
  refine X.arraylength K.1 (cell := c) (by rw [eT]; exact hc) (State.isArrayOf_alike K.2.2.2.1.alike H.1) (g := mkF m pc L (.ref a :: S)) rfl (rest := S) rfl (hb K.2.1 hd) target ?_
  rw [H.size]; exact kt
theorem Wp.iaload {i pc' jn : Nat} {j : Int32} (O : Hp h n0 Ls) (hi : Ls[i]? = some (a, ArC Z k .int vs)) (hd : decode B pc = .ok (.iaload, 1)) (hj : ¬ j < 0) (hjn : j.toNatClampNeg = jn) (hv : vs[jn]? = some v) (hp : pc + 1 = pc') (r : Wp l Z R my B ml ret n0 Q h cells slots pc' L (v :: S)) : Wp l Z R my B ml ret n0 Q h cells slots pc L (.int j :: .ref a :: S) := by
  subst hp
  obtain ⟨-, c, hc, H⟩ := O.at hi
  have hl : jn < vs.length := (List.getElem?_eq_some_iff.mp hv).1
  refine Wp.plain (fun {p e s m args below meth c' T locs} K X eT target kt => ?_) r
  exact X.iaload K.1 (cell := c) (j := j) (v := v) (by rw [eT]; exact hc) (State.isArrayOf_alike K.2.2.2.1.alike H.1) H.2.1 (in_of H hj hjn hl) (by rw [H.get, hjn]; exact hv) (g := mkF m pc L (.int j :: .ref a :: S)) rfl rfl (hb K.2.1 hd) target kt
theorem Wp.laload {i pc' jn : Nat} {j : Int32} (O : Hp h n0 Ls) (hi : Ls[i]? = some (a, ArC Z k .long vs)) (hd : decode B pc = .ok (.laload, 1)) (hj : ¬ j < 0) (hjn : j.toNatClampNeg = jn) (hv : vs[jn]? = some v) (hp : pc + 1 = pc') (r : Wp l Z R my B ml ret n0 Q h cells slots pc' L (v :: S)) : Wp l Z R my B ml ret n0 Q h cells slots pc L (.int j :: .ref a :: S) := by
  subst hp
  obtain ⟨-, c, hc, H⟩ := O.at hi
  have hl : jn < vs.length := (List.getElem?_eq_some_iff.mp hv).1
  refine Wp.plain (fun {p e s m args below meth c' T locs} K X eT target kt => ?_) r
  exact X.laload K.1 (cell := c) (j := j) (v := v) (by rw [eT]; exact hc) (State.isArrayOf_alike K.2.2.2.1.alike H.1) H.2.1 (in_of H hj hjn hl) (by rw [H.get, hjn]; exact hv) (g := mkF m pc L (.int j :: .ref a :: S)) rfl rfl (hb K.2.1 hd) target kt
theorem Wp.caload {i pc' jn : Nat} {j : Int32} (O : Hp h n0 Ls) (hi : Ls[i]? = some (a, ArC Z k .char vs)) (hd : decode B pc = .ok (.caload, 1)) (hj : ¬ j < 0) (hjn : j.toNatClampNeg = jn) (hv : vs[jn]? = some v) (hp : pc + 1 = pc') (r : Wp l Z R my B ml ret n0 Q h cells slots pc' L (v :: S)) : Wp l Z R my B ml ret n0 Q h cells slots pc L (.int j :: .ref a :: S) := by
  subst hp
  obtain ⟨-, c, hc, H⟩ := O.at hi
  have hl : jn < vs.length := (List.getElem?_eq_some_iff.mp hv).1
  refine Wp.plain (fun {p e s m args below meth c' T locs} K X eT target kt => ?_) r
  exact X.caload K.1 (cell := c) (j := j) (v := v) (by rw [eT]; exact hc) (State.isArrayOf_alike K.2.2.2.1.alike H.1) H.2.1 (in_of H hj hjn hl) (by rw [H.get, hjn]; exact hv) (g := mkF m pc L (.int j :: .ref a :: S)) rfl rfl (hb K.2.1 hd) target kt
theorem Wp.baload {i pc' jn : Nat} {j : Int32} (O : Hp h n0 Ls) (hi : Ls[i]? = some (a, ArC Z k .byte vs)) (hd : decode B pc = .ok (.baload, 1)) (hj : ¬ j < 0) (hjn : j.toNatClampNeg = jn) (hv : vs[jn]? = some v) (hp : pc + 1 = pc') (r : Wp l Z R my B ml ret n0 Q h cells slots pc' L (v :: S)) : Wp l Z R my B ml ret n0 Q h cells slots pc L (.int j :: .ref a :: S) := by
  subst hp
  obtain ⟨-, c, hc, H⟩ := O.at hi
  have hl : jn < vs.length := (List.getElem?_eq_some_iff.mp hv).1
  refine Wp.plain (fun {p e s m args below meth c' T locs} K X eT target kt => ?_) r
  exact X.baloadBytes K.1 (cell := c) (j := j) (v := v) (by rw [eT]; exact hc) (State.isArrayOf_alike K.2.2.2.1.alike H.1) H.2.1 (in_of H hj hjn hl) (by rw [H.get, hjn]; exact hv) (g := mkF m pc L (.int j :: .ref a :: S)) rfl rfl (hb K.2.1 hd) target kt
theorem Wp.iastore {pc' jn : Nat} {j : Int32} {x : Int32} (O : Hp h n0 (LA ++ (a, ArC Z k .int vs) :: LB)) (hd : decode B pc = .ok (.iastore, 1)) (hj : ¬ j < 0) (hjn : j.toNatClampNeg = jn) (hl : jn < vs.length) (hp : pc + 1 = pc') (r : ∀ h', Hp h' n0 (LA ++ (a, ArC Z k .int (vs.set jn (.int x))) :: LB) → Wp l Z R my B ml ret n0 Q h' cells slots pc' L S) : Wp l Z R my B ml ret n0 Q h cells slots pc L (.int x :: .int j :: .ref a :: S) := by
  intro p e s m args below meth c' T locs K X eT N
  subst hp hjn
  obtain ⟨g0, c, hc, H⟩ := O.2.2 _ (List.mem_append_right _ (List.mem_cons_self ..))
  obtain ⟨T', h', X', e', W, st⟩ := RoadKit.stI X K.1 K.2.2.2.1 eT (H.arr hc) (j := j) (in_of H hj rfl hl) (g := mkF m pc L (.int x :: .int j :: .ref a :: S)) rfl rfl (hb K.2.1 hd)
  have O' := O.wr W (P' := ArC Z k .int (vs.set j.toNatClampNeg (.int x))) (fun c0 H0 => H0.set _ (rfl))
  obtain ⟨s₂, o, k1, k2⟩ := r h' O' p e s m args below meth c' T' _ K X' e' (Fr.snoc X' N g0)
  exact ⟨s₂, o, st _ k1, k2⟩
theorem Wp.lastore {pc' jn : Nat} {j : Int32} {x : Int64} (O : Hp h n0 (LA ++ (a, ArC Z k .long vs) :: LB)) (hd : decode B pc = .ok (.lastore, 1)) (hj : ¬ j < 0) (hjn : j.toNatClampNeg = jn) (hl : jn < vs.length) (hp : pc + 1 = pc') (r : ∀ h', Hp h' n0 (LA ++ (a, ArC Z k .long (vs.set jn (.long x))) :: LB) → Wp l Z R my B ml ret n0 Q h' cells slots pc' L S) : Wp l Z R my B ml ret n0 Q h cells slots pc L (.long x :: .int j :: .ref a :: S) := by
  intro p e s m args below meth c' T locs K X eT N
  subst hp hjn
  obtain ⟨g0, c, hc, H⟩ := O.2.2 _ (List.mem_append_right _ (List.mem_cons_self ..))
  obtain ⟨T', h', X', e', W, st⟩ := RoadKit.stJ X K.1 K.2.2.2.1 eT (H.arr hc) (j := j) (in_of H hj rfl hl) (g := mkF m pc L (.long x :: .int j :: .ref a :: S)) rfl rfl (hb K.2.1 hd)
  have O' := O.wr W (P' := ArC Z k .long (vs.set j.toNatClampNeg (.long x))) (fun c0 H0 => H0.set _ (rfl))
  obtain ⟨s₂, o, k1, k2⟩ := r h' O' p e s m args below meth c' T' _ K X' e' (Fr.snoc X' N g0)
  exact ⟨s₂, o, st _ k1, k2⟩
theorem Wp.castore {pc' jn : Nat} {j : Int32} {x : Int32} (O : Hp h n0 (LA ++ (a, ArC Z k .char vs) :: LB)) (hd : decode B pc = .ok (.castore, 1)) (hj : ¬ j < 0) (hjn : j.toNatClampNeg = jn) (hl : jn < vs.length) (hp : pc + 1 = pc') (r : ∀ h', Hp h' n0 (LA ++ (a, ArC Z k .char (vs.set jn (.int (nar .char x)))) :: LB) → Wp l Z R my B ml ret n0 Q h' cells slots pc' L S) : Wp l Z R my B ml ret n0 Q h cells slots pc L (.int x :: .int j :: .ref a :: S) := by
  intro p e s m args below meth c' T locs K X eT N
  subst hp hjn
  obtain ⟨g0, c, hc, H⟩ := O.2.2 _ (List.mem_append_right _ (List.mem_cons_self ..))
  obtain ⟨T', h', X', e', W, st⟩ := RoadKit.stC X K.1 K.2.2.2.1 eT (H.arr hc) (j := j) (in_of H hj rfl hl) (g := mkF m pc L (.int x :: .int j :: .ref a :: S)) rfl rfl (hb K.2.1 hd)
  have O' := O.wr W (P' := ArC Z k .char (vs.set j.toNatClampNeg (.int (nar .char x)))) (fun c0 H0 => H0.set _ (fits_nar_char x))
  obtain ⟨s₂, o, k1, k2⟩ := r h' O' p e s m args below meth c' T' _ K X' e' (Fr.snoc X' N g0)
  exact ⟨s₂, o, st _ k1, k2⟩
theorem Wp.bastore {pc' jn : Nat} {j : Int32} {x : Int32} (O : Hp h n0 (LA ++ (a, ArC Z k .byte vs) :: LB)) (hd : decode B pc = .ok (.bastore, 1)) (hj : ¬ j < 0) (hjn : j.toNatClampNeg = jn) (hl : jn < vs.length) (hp : pc + 1 = pc') (r : ∀ h', Hp h' n0 (LA ++ (a, ArC Z k .byte (vs.set jn (.int (nar .byte x)))) :: LB) → Wp l Z R my B ml ret n0 Q h' cells slots pc' L S) : Wp l Z R my B ml ret n0 Q h cells slots pc L (.int x :: .int j :: .ref a :: S) := by
  intro p e s m args below meth c' T locs K X eT N
  subst hp hjn
  obtain ⟨g0, c, hc, H⟩ := O.2.2 _ (List.mem_append_right _ (List.mem_cons_self ..))
  obtain ⟨T', h', X', e', W, st⟩ := RoadKit.stB X K.1 K.2.2.2.1 eT (H.arr hc) (j := j) (in_of H hj rfl hl) (g := mkF m pc L (.int x :: .int j :: .ref a :: S)) rfl rfl (hb K.2.1 hd)
  have O' := O.wr W (P' := ArC Z k .byte (vs.set j.toNatClampNeg (.int (nar .byte x)))) (fun c0 H0 => H0.set _ (fits_nar_byte x))
  obtain ⟨s₂, o, k1, k2⟩ := r h' O' p e s m args below meth c' T' _ K X' e' (Fr.snoc X' N g0)
  exact ⟨s₂, o, st _ k1, k2⟩
/-! objects -/
theorem FdC.fld {f : String × String × Value} {c : Cell} (F : FdC Z C f c) (hc : h[a]? = some c) : Fld Z h a C f.1 f.2.1 f.2.2 := by
  obtain ⟨cf, k, i, fd, h1, h2, h3, h4, h5, h6⟩ := F
  exact ⟨c, cf, k, i, fd, hc, h1, h2, h3, h4, h5, h6⟩
theorem ObC.exa {c : Cell} (H : ObC Z a0 C fs c) (hc : h[a]? = some c) : Exa Z h a C := by
  obtain ⟨⟨k, h1, h2, h3, h4⟩, -⟩ := H
  exact ⟨c, k, hc, h1, h2, h3, h4⟩
theorem Hp.exa {i : Nat} (O : Hp h n0 Ls) (hi : Ls[i]? = some (a, ObC Z a0 C fs)) : Exa Z h a C := by
  obtain ⟨-, c, hc, H⟩ := O.at hi
  exact H.exa hc
theorem Wp.newO {index nn pc' : Nat} (O : Hp h n0 Ls) (w : (Jvm.Cond.classLink my.cls index C).before a0 Z = true) (wi : (Jvm.Cond.instantiable C nn).before a0 Z = true) (wz : (Jvm.Cond.initialized C).before a0 Z = true) (fs : List (String × String × Value)) (hfs : ∀ f ∈ fs, Laid Z a0 C C f.1 f.2.1 ∧ ∃ t, parseFieldDescriptor f.2.1 = some t ∧ defaultValue t = f.2.2)
    (hd : decode B pc = .ok (.new index, 3)) (hc : cells + 1 ≤ R.cells) (hl : slots + nn ≤ R.slots) (hp : pc + 3 = pc') (r : ∀ h' a, Hp h' n0 ((a, ObC Z a0 C fs) :: Ls) → Wp l Z R my B ml ret n0 Q h' (cells + 1) (slots + nn) pc' L (.ref a :: S)) : Wp l Z R my B ml ret n0 Q h cells slots pc L S := by
  intro p e s m args below meth c' T locs K X eT N
  subst hp
  obtain ⟨T', h', X', e', E, A, D, -, st⟩ := RoadKit.newO X K.1 K.2.2.2.1 K.2.2.2.2.1 w wi wz eT (g := mkF m pc L S) rfl (hb K.2.1 hd) hc hl
  obtain ⟨c, kk, a1, a2, a3, a4, a5⟩ := A
  have O' : Hp h' n0 ((h.size, ObC Z a0 C fs) :: Ls) := O.new E a1 ⟨⟨kk, a2, a3, a4, a5⟩, fun f hf => by
    obtain ⟨q1, t, q2, q3⟩ := hfs f hf
    obtain ⟨c2, cf, k, i, fd, b1, b2, b3, b4, b5, b6, b7⟩ := D q1 q2
    cases a1.symm.trans b1
    exact ⟨⟨cf, k, i, fd, b2, b3, b4, b5, b6, by rw [← q3]; exact b7⟩, q1, t, q2⟩⟩
  obtain ⟨s₂, o, k1, k2⟩ := r h' h.size O' p e s m args below meth c' T' locs K X' e' N
  exact ⟨s₂, o, st _ k1, k2⟩
theorem Wp.getfield {i j index pc' : Nat} (O : Hp h n0 Ls) (hi : Ls[i]? = some (a, ObC Z a0 C fs)) (hj : fs[j]? = some (n, d, v)) (w : (Jvm.Cond.fieldLink my.cls index C n d).before a0 Z = true) (hd : decode B pc = .ok (.getfield index, 3)) (hp : pc + 3 = pc') (r : Wp l Z R my B ml ret n0 Q h cells slots pc' L (v :: S)) : Wp l Z R my B ml ret n0 Q h cells slots pc L (.ref a :: S) := by
  subst hp
  obtain ⟨-, c, hc, H⟩ := O.at hi
  have F := ((H.2 _ (List.mem_of_getElem? hj)).1).fld hc
  exact Wp.moved (fun {p e s m args below meth c' T locs} K X eT => RoadKit.getF X K.1 K.2.2.2.1 K.2.2.2.2.1 (host := "") (Or.inl w) Via.refl eT F (g := mkF m pc L (.ref a :: S)) rfl rfl (hb K.2.1 hd)) r
theorem Wp.putfield {index kk pc' : Nat} {old : Value} (O : Hp h n0 (LA ++ (a, ObC Z a0 C (F1 ++ (n, d, old) :: F2)) :: LB)) (w : (Jvm.Cond.fieldLink my.cls index C n d).before a0 Z = true) (Lw : (Jvm.Cond.lays C C n d).before a0 Z = true ∨ ((Jvm.Cond.laysFinal C C n d).before a0 Z = true ∧ my.cls = C ∧ my.name = "<init>")) (wi : (Jvm.Cond.instantiable C kk).before a0 Z = true)
    (hty : parseFieldDescriptor d = some ty) (hn : narrow ty v = v) (hf : fits ty v = true) (hne : ∀ f ∈ F1 ++ F2, f.1 ≠ n) (hd : decode B pc = .ok (.putfield index, 3)) (hp : pc + 3 = pc') (r : ∀ h', Hp h' n0 (LA ++ (a, ObC Z a0 C (F1 ++ (n, d, v) :: F2)) :: LB) → Wp l Z R my B ml ret n0 Q h' cells slots pc' L S) : Wp l Z R my B ml ret n0 Q h cells slots pc L (v :: .ref a :: S) := by
  intro p e s m args below meth c' T locs K X eT N
  subst hp
  obtain ⟨g0, c, hc, H⟩ := O.2.2 _ (List.mem_append_right _ (List.mem_cons_self ..))
  have Fm := H.2 (n, d, old) (List.mem_append_right _ (List.mem_cons_self ..))
  obtain ⟨T', h', X', e', W, st⟩ := RoadKit.putF X K.1 K.2.2.2.1 K.2.2.2.2.1 (host := "") (Or.inl w) Via.refl eT (Fm.1.fld hc) (H.exa hc) (Lw.imp id fun q => ⟨q.1, q.2.1, K.2.2.2.2.2.1.trans q.2.2⟩) wi hty hn hf (g := mkF m pc L (v :: .ref a :: S)) rfl rfl (hb K.2.1 hd)
  have O' := O.wr W (P' := ObC Z a0 C (F1 ++ (n, d, v) :: F2)) (fun c0 H0 => by
    obtain ⟨⟨k, h1, h2, h3, h4⟩, h5⟩ := H0
    refine ⟨⟨k, h1, h2, h3, fun q => by rw [sz_set]; exact h4 q⟩, fun f hf => ?_⟩
    have old' : ∀ f ∈ F1 ++ F2, FdC Z C f (c0.setSlot (RoadKit.slotOf Z C n d) v) ∧ Laid Z a0 C C f.1 f.2.1 ∧ ∃ t, parseFieldDescriptor f.2.1 = some t := fun f hf => by
      obtain ⟨⟨cf, kf, i, fd, b1, b2, b3, b4, b5, b6⟩, q1, t, q2⟩ := h5 f (by
        rcases List.mem_append.mp hf with u | u
        · exact List.mem_append_left _ u
        · exact List.mem_append_right _ (List.mem_cons_of_mem _ u))
      have ne := slot_ne q1 Fm.2.1 (hne f hf) q2 hty
      have es : RoadKit.slotOf Z C f.1 f.2.1 = fd.slot := by simp [RoadKit.slotOf, b1]
      refine ⟨⟨cf, kf, i, fd, b1, b2, b3, b4, b5, ?_⟩, q1, t, q2⟩
      show (c0.slots.setIfInBounds (RoadKit.slotOf Z C n d) v)[fd.slot]? = _
      rw [Array.getElem?_setIfInBounds_ne (by rw [← es]; exact Ne.symm ne)]; exact b6
    rcases List.mem_append.mp hf with u | u
    · exact old' f (List.mem_append_left _ u)
    · rcases List.mem_cons.mp u with rfl | u
      · obtain ⟨⟨cf, kf, i, fd, b1, b2, b3, b4, b5, b6⟩, q1, t, q2⟩ := h5 (n, d, old) (List.mem_append_right _ (List.mem_cons_self ..))
        have es : RoadKit.slotOf Z C n d = fd.slot := by
          have b1' : Z.fieldFound? C n d = some (cf, kf, i, fd) := b1
          simp [RoadKit.slotOf, b1']
        have hlt : fd.slot < c0.slots.size := (Array.getElem?_eq_some_iff.mp b6).1
        refine ⟨⟨cf, kf, i, fd, b1, b2, b3, b4, b5, ?_⟩, q1, t, q2⟩
        show (c0.slots.setIfInBounds (RoadKit.slotOf Z C n d) v)[fd.slot]? = _
        rw [es, Array.getElem?_setIfInBounds_self_of_lt hlt]
      · exact old' f (List.mem_append_right _ u))
  obtain ⟨s₂, o, k1, k2⟩ := r h' O' p e s m args below meth c' T' _ K X' e' (Fr.snoc X' N g0)
  exact ⟨s₂, o, st _ k1, k2⟩
end Heap
abbrev rmk (f c s w : Nat) : Room := { frames := f, cells := c, slots := s, locals := w }
end Jvm.OwnKit
namespace Jvm.Pilot.@@N@@
open Jvm Jvm.ClassFile Sem Op Lib Jvm.Free Jvm.Stand Jvm.LawKit Jvm.RoadKit Bundle Jvm.OwnKit Jvm.Pilot.@@N@@.Jvm.D
def own_fill : List Value → List Slot
  | [] => []
  | v :: r => if v.category = 2 then .val v :: .second :: own_fill r else .val v :: own_fill r
theorem own_fold : ∀ (l : List Value) (acc : Array Slot), l.foldl (fun (acc : Array Slot) v => if v.category = 2 then (acc.push (.val v)).push .second else acc.push (.val v)) acc = acc ++ (own_fill l).toArray
  | [], acc => by simp [own_fill]
  | v :: r, acc => by
    rw [List.foldl_cons, own_fold r]
    by_cases h : v.category = 2
    · rw [if_pos h, own_fill, if_pos h]; apply Array.ext'; simp
    · rw [if_neg h, own_fill, if_neg h]; apply Array.ext'; simp
theorem own_atl (as : Array Value) (ml : Nat) : argsToLocals as ml = as.foldl (fun (acc : Array Slot) v => if v.category = 2 then (acc.push (.val v)).push .second else acc.push (.val v)) #[] ++ Array.replicate (ml - (as.foldl (fun (acc : Array Slot) v => if v.category = 2 then (acc.push (.val v)).push .second else acc.push (.val v)) #[]).size) .unset := rfl
theorem own_ef {as : Array Value} {ml : Nat} {L0 : Array Slot} (h : own_fill as.toList ++ List.replicate (ml - (own_fill as.toList).length) .unset = L0.toList) (m : MethodId) : entryFrame m as ml = mkF m 0 L0 [] := by
  have e : argsToLocals as ml = L0 := by
    apply Array.ext'
    rw [own_atl, ← Array.foldl_toList, own_fold, ← h]
    simp
  subst e
  rfl

theorem d0_0 : decode method_3_code 0 = .ok (.iload 6, 2) := by decide +kernel
theorem d0_2 : decode method_3_code 2 = .ok (.iconst 2, 1) := by decide +kernel
theorem d0_3 : decode method_3_code 3 = .ok (.iload_n 3, 1) := by decide +kernel
theorem d0_4 : decode method_3_code 4 = .ok (.imul, 1) := by decide +kernel
theorem d0_5 : decode method_3_code 5 = .ok (.iushr, 1) := by decide +kernel
theorem d0_6 : decode method_3_code 6 = .ok (.iconst 3, 1) := by decide +kernel
theorem d0_7 : decode method_3_code 7 = .ok (.iand, 1) := by decide +kernel
theorem d0_8 : decode method_3_code 8 = .ok (.istore 8, 2) := by decide +kernel
theorem d0_10 : decode method_3_code 10 = .ok (.iload 7, 2) := by decide +kernel
theorem d0_12 : decode method_3_code 12 = .ok (.iconst 2, 1) := by decide +kernel
theorem d0_13 : decode method_3_code 13 = .ok (.iload_n 3, 1) := by decide +kernel
theorem d0_14 : decode method_3_code 14 = .ok (.imul, 1) := by decide +kernel
theorem d0_15 : decode method_3_code 15 = .ok (.iushr, 1) := by decide +kernel
theorem d0_16 : decode method_3_code 16 = .ok (.iconst 3, 1) := by decide +kernel
theorem d0_17 : decode method_3_code 17 = .ok (.iand, 1) := by decide +kernel
theorem d0_18 : decode method_3_code 18 = .ok (.iload 8, 2) := by decide +kernel
theorem d0_20 : decode method_3_code 20 = .ok (.iconst 1, 1) := by decide +kernel
theorem d0_21 : decode method_3_code 21 = .ok (.iadd, 1) := by decide +kernel
theorem d0_22 : decode method_3_code 22 = .ok (.irem, 1) := by decide +kernel
theorem d0_23 : decode method_3_code 23 = .ok (.istore 9, 2) := by decide +kernel
theorem d0_25 : decode method_3_code 25 = .ok (.lload 4, 2) := by decide +kernel
theorem d0_27 : decode method_3_code 27 = .ok (.ldc2_w 33, 3) := by decide +kernel
theorem d0_30 : decode method_3_code 30 = .ok (.lcmp, 1) := by decide +kernel
theorem d0_31 : decode method_3_code 31 = .ok (.ifCond .le 20, 3) := by decide +kernel
theorem d0_34 : decode method_3_code 34 = .ok (.aload_n 0, 1) := by decide +kernel
theorem d0_35 : decode method_3_code 35 = .ok (.iload_n 3, 1) := by decide +kernel
theorem d0_36 : decode method_3_code 36 = .ok (.lload 4, 2) := by decide +kernel
theorem d0_38 : decode method_3_code 38 = .ok (.iload 8, 2) := by decide +kernel
theorem d0_40 : decode method_3_code 40 = .ok (.i2l, 1) := by decide +kernel
theorem d0_41 : decode method_3_code 41 = .ok (.lsub, 1) := by decide +kernel
theorem d0_42 : decode method_3_code 42 = .ok (.lastore, 1) := by decide +kernel
theorem d0_43 : decode method_3_code 43 = .ok (.aload_n 1, 1) := by decide +kernel
theorem d0_44 : decode method_3_code 44 = .ok (.iload_n 3, 1) := by decide +kernel
theorem d0_45 : decode method_3_code 45 = .ok (.lload 4, 2) := by decide +kernel
theorem d0_47 : decode method_3_code 47 = .ok (.lastore, 1) := by decide +kernel
theorem d0_48 : decode method_3_code 48 = .ok (.goto 17, 3) := by decide +kernel
theorem d0_51 : decode method_3_code 51 = .ok (.aload_n 0, 1) := by decide +kernel
theorem d0_52 : decode method_3_code 52 = .ok (.iload_n 3, 1) := by decide +kernel
theorem d0_53 : decode method_3_code 53 = .ok (.lload 4, 2) := by decide +kernel
theorem d0_55 : decode method_3_code 55 = .ok (.lastore, 1) := by decide +kernel
theorem d0_56 : decode method_3_code 56 = .ok (.aload_n 1, 1) := by decide +kernel
theorem d0_57 : decode method_3_code 57 = .ok (.iload_n 3, 1) := by decide +kernel
theorem d0_58 : decode method_3_code 58 = .ok (.lload 4, 2) := by decide +kernel
theorem d0_60 : decode method_3_code 60 = .ok (.iload 8, 2) := by decide +kernel
theorem d0_62 : decode method_3_code 62 = .ok (.i2l, 1) := by decide +kernel
theorem d0_63 : decode method_3_code 63 = .ok (.ladd, 1) := by decide +kernel
theorem d0_64 : decode method_3_code 64 = .ok (.lastore, 1) := by decide +kernel
theorem d0_65 : decode method_3_code 65 = .ok (.aload_n 2, 1) := by decide +kernel
theorem d0_66 : decode method_3_code 66 = .ok (.iload_n 3, 1) := by decide +kernel
theorem d0_67 : decode method_3_code 67 = .ok (.aload_n 0, 1) := by decide +kernel
theorem d0_68 : decode method_3_code 68 = .ok (.iload_n 3, 1) := by decide +kernel
theorem d0_69 : decode method_3_code 69 = .ok (.laload, 1) := by decide +kernel
theorem d0_70 : decode method_3_code 70 = .ok (.iload 9, 2) := by decide +kernel
theorem d0_72 : decode method_3_code 72 = .ok (.i2l, 1) := by decide +kernel
theorem d0_73 : decode method_3_code 73 = .ok (.ladd, 1) := by decide +kernel
theorem d0_74 : decode method_3_code 74 = .ok (.lastore, 1) := by decide +kernel
theorem d0_75 : decode method_3_code 75 = .ok (.return_, 1) := by decide +kernel
theorem d1_0 : decode method_4_code 0 = .ok (.iload_n 0, 1) := by decide +kernel
theorem d1_1 : decode method_4_code 1 = .ok (.iload_n 1, 1) := by decide +kernel
theorem d1_2 : decode method_4_code 2 = .ok (.if_icmp .ge 17, 3) := by decide +kernel
theorem d1_5 : decode method_4_code 5 = .ok (.aload_n 2, 1) := by decide +kernel
theorem d1_6 : decode method_4_code 6 = .ok (.iload_n 0, 1) := by decide +kernel
theorem d1_7 : decode method_4_code 7 = .ok (.laload, 1) := by decide +kernel
theorem d1_8 : decode method_4_code 8 = .ok (.aload_n 3, 1) := by decide +kernel
theorem d1_9 : decode method_4_code 9 = .ok (.iload_n 0, 1) := by decide +kernel
theorem d1_10 : decode method_4_code 10 = .ok (.laload, 1) := by decide +kernel
theorem d1_11 : decode method_4_code 11 = .ok (.lcmp, 1) := by decide +kernel
theorem d1_12 : decode method_4_code 12 = .ok (.ifCond .ge 7, 3) := by decide +kernel
theorem d1_15 : decode method_4_code 15 = .ok (.iconst 1, 1) := by decide +kernel
theorem d1_16 : decode method_4_code 16 = .ok (.goto 4, 3) := by decide +kernel
theorem d1_19 : decode method_4_code 19 = .ok (.iconst 0, 1) := by decide +kernel
theorem d1_20 : decode method_4_code 20 = .ok (.ireturn, 1) := by decide +kernel
theorem d2_0 : decode prog_10_method_5_code 0 = .ok (.aload_n 0, 1) := by decide +kernel
theorem d2_1 : decode prog_10_method_5_code 1 = .ok (.arraylength, 1) := by decide +kernel
theorem d2_2 : decode prog_10_method_5_code 2 = .ok (.iconst 1, 1) := by decide +kernel
theorem d2_3 : decode prog_10_method_5_code 3 = .ok (.isub, 1) := by decide +kernel
theorem d2_4 : decode prog_10_method_5_code 4 = .ok (.istore_n 3, 1) := by decide +kernel
theorem d2_5 : decode prog_10_method_5_code 5 = .ok (.iload_n 3, 1) := by decide +kernel
theorem d2_6 : decode prog_10_method_5_code 6 = .ok (.ifCond .lt 34, 3) := by decide +kernel
theorem d2_9 : decode prog_10_method_5_code 9 = .ok (.aload_n 0, 1) := by decide +kernel
theorem d2_10 : decode prog_10_method_5_code 10 = .ok (.iload_n 3, 1) := by decide +kernel
theorem d2_11 : decode prog_10_method_5_code 11 = .ok (.laload, 1) := by decide +kernel
theorem d2_12 : decode prog_10_method_5_code 12 = .ok (.aload_n 2, 1) := by decide +kernel
theorem d2_13 : decode prog_10_method_5_code 13 = .ok (.iload_n 3, 1) := by decide +kernel
theorem d2_14 : decode prog_10_method_5_code 14 = .ok (.laload, 1) := by decide +kernel
theorem d2_15 : decode prog_10_method_5_code 15 = .ok (.lcmp, 1) := by decide +kernel
theorem d2_16 : decode prog_10_method_5_code 16 = .ok (.ifCond .ge 12, 3) := by decide +kernel
theorem d2_19 : decode prog_10_method_5_code 19 = .ok (.aload_n 0, 1) := by decide +kernel
theorem d2_20 : decode prog_10_method_5_code 20 = .ok (.iload_n 3, 1) := by decide +kernel
theorem d2_21 : decode prog_10_method_5_code 21 = .ok (.dup2, 1) := by decide +kernel
theorem d2_22 : decode prog_10_method_5_code 22 = .ok (.laload, 1) := by decide +kernel
theorem d2_23 : decode prog_10_method_5_code 23 = .ok (.lconst 1, 1) := by decide +kernel
theorem d2_24 : decode prog_10_method_5_code 24 = .ok (.ladd, 1) := by decide +kernel
theorem d2_25 : decode prog_10_method_5_code 25 = .ok (.lastore, 1) := by decide +kernel
theorem d2_26 : decode prog_10_method_5_code 26 = .ok (.aload_n 0, 1) := by decide +kernel
theorem d2_27 : decode prog_10_method_5_code 27 = .ok (.areturn, 1) := by decide +kernel
theorem d2_28 : decode prog_10_method_5_code 28 = .ok (.aload_n 0, 1) := by decide +kernel
theorem d2_29 : decode prog_10_method_5_code 29 = .ok (.iload_n 3, 1) := by decide +kernel
theorem d2_30 : decode prog_10_method_5_code 30 = .ok (.aload_n 1, 1) := by decide +kernel
theorem d2_31 : decode prog_10_method_5_code 31 = .ok (.iload_n 3, 1) := by decide +kernel
theorem d2_32 : decode prog_10_method_5_code 32 = .ok (.laload, 1) := by decide +kernel
theorem d2_33 : decode prog_10_method_5_code 33 = .ok (.lastore, 1) := by decide +kernel
theorem d2_34 : decode prog_10_method_5_code 34 = .ok (.iinc 3 (-1), 3) := by decide +kernel
theorem d2_37 : decode prog_10_method_5_code 37 = .ok (.goto (-32), 3) := by decide +kernel
theorem d2_40 : decode prog_10_method_5_code 40 = .ok (.aconst_null, 1) := by decide +kernel
theorem d2_41 : decode prog_10_method_5_code 41 = .ok (.areturn, 1) := by decide +kernel
theorem d3_0 : decode method_6_code 0 = .ok (.iload_n 2, 1) := by decide +kernel
theorem d3_1 : decode method_6_code 1 = .ok (.iconst 1, 1) := by decide +kernel
theorem d3_2 : decode method_6_code 2 = .ok (.if_icmp .lt 13, 3) := by decide +kernel
theorem d3_5 : decode method_6_code 5 = .ok (.aload_n 0, 1) := by decide +kernel
theorem d3_6 : decode method_6_code 6 = .ok (.iconst 0, 1) := by decide +kernel
theorem d3_7 : decode method_6_code 7 = .ok (.laload, 1) := by decide +kernel
theorem d3_8 : decode method_6_code 8 = .ok (.aload_n 1, 1) := by decide +kernel
theorem d3_9 : decode method_6_code 9 = .ok (.iconst 0, 1) := by decide +kernel
theorem d3_10 : decode method_6_code 10 = .ok (.laload, 1) := by decide +kernel
theorem d3_11 : decode method_6_code 11 = .ok (.lcmp, 1) := by decide +kernel
theorem d3_12 : decode method_6_code 12 = .ok (.ifCond .ne 37, 3) := by decide +kernel
theorem d3_15 : decode method_6_code 15 = .ok (.iload_n 2, 1) := by decide +kernel
theorem d3_16 : decode method_6_code 16 = .ok (.iconst 2, 1) := by decide +kernel
theorem d3_17 : decode method_6_code 17 = .ok (.if_icmp .lt 13, 3) := by decide +kernel
theorem d3_20 : decode method_6_code 20 = .ok (.aload_n 0, 1) := by decide +kernel
theorem d3_21 : decode method_6_code 21 = .ok (.iconst 1, 1) := by decide +kernel
theorem d3_22 : decode method_6_code 22 = .ok (.laload, 1) := by decide +kernel
theorem d3_23 : decode method_6_code 23 = .ok (.aload_n 1, 1) := by decide +kernel
theorem d3_24 : decode method_6_code 24 = .ok (.iconst 1, 1) := by decide +kernel
theorem d3_25 : decode method_6_code 25 = .ok (.laload, 1) := by decide +kernel
theorem d3_26 : decode method_6_code 26 = .ok (.lcmp, 1) := by decide +kernel
theorem d3_27 : decode method_6_code 27 = .ok (.ifCond .ne 22, 3) := by decide +kernel
theorem d3_30 : decode method_6_code 30 = .ok (.iload_n 2, 1) := by decide +kernel
theorem d3_31 : decode method_6_code 31 = .ok (.iconst 3, 1) := by decide +kernel
theorem d3_32 : decode method_6_code 32 = .ok (.if_icmp .lt 13, 3) := by decide +kernel
theorem d3_35 : decode method_6_code 35 = .ok (.aload_n 0, 1) := by decide +kernel
theorem d3_36 : decode method_6_code 36 = .ok (.iconst 2, 1) := by decide +kernel
theorem d3_37 : decode method_6_code 37 = .ok (.laload, 1) := by decide +kernel
theorem d3_38 : decode method_6_code 38 = .ok (.aload_n 1, 1) := by decide +kernel
theorem d3_39 : decode method_6_code 39 = .ok (.iconst 2, 1) := by decide +kernel
theorem d3_40 : decode method_6_code 40 = .ok (.laload, 1) := by decide +kernel
theorem d3_41 : decode method_6_code 41 = .ok (.lcmp, 1) := by decide +kernel
theorem d3_42 : decode method_6_code 42 = .ok (.ifCond .ne 7, 3) := by decide +kernel
theorem d3_45 : decode method_6_code 45 = .ok (.iconst 1, 1) := by decide +kernel
theorem d3_46 : decode method_6_code 46 = .ok (.goto 4, 3) := by decide +kernel
theorem d3_49 : decode method_6_code 49 = .ok (.iconst 0, 1) := by decide +kernel
theorem d3_50 : decode method_6_code 50 = .ok (.ireturn, 1) := by decide +kernel
theorem d4_0 : decode method_5_code 0 = .ok (.iload_n 1, 1) := by decide +kernel
theorem d4_1 : decode method_5_code 1 = .ok (.iload_n 2, 1) := by decide +kernel
theorem d4_2 : decode method_5_code 2 = .ok (.if_icmp .lt 5, 3) := by decide +kernel
theorem d4_5 : decode method_5_code 5 = .ok (.iconst 1, 1) := by decide +kernel
theorem d4_6 : decode method_5_code 6 = .ok (.ireturn, 1) := by decide +kernel
theorem d4_7 : decode method_5_code 7 = .ok (.iload_n 1, 1) := by decide +kernel
theorem d4_8 : decode method_5_code 8 = .ok (.iload_n 3, 1) := by decide +kernel
theorem d4_9 : decode method_5_code 9 = .ok (.if_icmp .ge 10, 3) := by decide +kernel
theorem d4_12 : decode method_5_code 12 = .ok (.aload 5, 2) := by decide +kernel
theorem d4_14 : decode method_5_code 14 = .ok (.iload_n 1, 1) := by decide +kernel
theorem d4_15 : decode method_5_code 15 = .ok (.laload, 1) := by decide +kernel
theorem d4_16 : decode method_5_code 16 = .ok (.goto 21, 3) := by decide +kernel
theorem d4_19 : decode method_5_code 19 = .ok (.iload_n 1, 1) := by decide +kernel
theorem d4_20 : decode method_5_code 20 = .ok (.iload_n 3, 1) := by decide +kernel
theorem d4_21 : decode method_5_code 21 = .ok (.if_icmp .ne 12, 3) := by decide +kernel
theorem d4_24 : decode method_5_code 24 = .ok (.aload 5, 2) := by decide +kernel
theorem d4_26 : decode method_5_code 26 = .ok (.iload_n 1, 1) := by decide +kernel
theorem d4_27 : decode method_5_code 27 = .ok (.laload, 1) := by decide +kernel
theorem d4_28 : decode method_5_code 28 = .ok (.lconst 1, 1) := by decide +kernel
theorem d4_29 : decode method_5_code 29 = .ok (.ladd, 1) := by decide +kernel
theorem d4_30 : decode method_5_code 30 = .ok (.goto 7, 3) := by decide +kernel
theorem d4_33 : decode method_5_code 33 = .ok (.aload 4, 2) := by decide +kernel
theorem d4_35 : decode method_5_code 35 = .ok (.iload_n 1, 1) := by decide +kernel
theorem d4_36 : decode method_5_code 36 = .ok (.laload, 1) := by decide +kernel
theorem d4_37 : decode method_5_code 37 = .ok (.lstore 6, 2) := by decide +kernel
theorem d4_39 : decode method_5_code 39 = .ok (.aload_n 0, 1) := by decide +kernel
theorem d4_40 : decode method_5_code 40 = .ok (.iload_n 1, 1) := by decide +kernel
theorem d4_41 : decode method_5_code 41 = .ok (.laload, 1) := by decide +kernel
theorem d4_42 : decode method_5_code 42 = .ok (.lload 6, 2) := by decide +kernel
theorem d4_44 : decode method_5_code 44 = .ok (.lcmp, 1) := by decide +kernel
theorem d4_45 : decode method_5_code 45 = .ok (.ifCond .ne 7, 3) := by decide +kernel
theorem d4_48 : decode method_5_code 48 = .ok (.iconst 1, 1) := by decide +kernel
theorem d4_49 : decode method_5_code 49 = .ok (.goto 4, 3) := by decide +kernel
theorem d4_52 : decode method_5_code 52 = .ok (.iconst 0, 1) := by decide +kernel
theorem d4_53 : decode method_5_code 53 = .ok (.ireturn, 1) := by decide +kernel

theorem pn_d : plainName "com/example/keyed_tensor/keyedtensor/array/Dataset" = true := by first | (simp [plainName, overriddenIn]; done) | decide +kernel
theorem pn_l : plainName "com/example/keyed_tensor/keyedtensor/array/DatasetNextGridPositionPinLaw" = true := by first | (simp [plainName, overriddenIn]; done) | decide +kernel

theorem pd_0 : parseMethodDescriptor "([J[J[J)[J" = some ⟨[(.array .long), (.array .long), (.array .long)], some (.array .long)⟩ := by decide +kernel
theorem pd_1 : parseMethodDescriptor "([J[JI)Z" = some ⟨[(.array .long), (.array .long), .int], some .boolean⟩ := by decide +kernel
theorem pd_2 : parseMethodDescriptor "(II[J[J)Z" = some ⟨[.int, .int, (.array .long), (.array .long)], some .boolean⟩ := by decide +kernel
theorem pd_3 : parseMethodDescriptor "([JIII[J[J)Z" = some ⟨[(.array .long), .int, .int, .int, (.array .long), (.array .long)], some .boolean⟩ := by decide +kernel
theorem pd_4 : parseMethodDescriptor "([J[J[JIJII)V" = some ⟨[(.array .long), (.array .long), (.array .long), .int, .long, .int, .int], none⟩ := by decide +kernel

theorem own_four (x : Int32) : (x &&& (3 : Int32)) = 0 ∨ (x &&& (3 : Int32)) = 1 ∨ (x &&& (3 : Int32)) = 2 ∨ (x &&& (3 : Int32)) = 3 := by
  have h := c_and x 3 (by decide)
  simp only [← Int32.toInt_inj]
  simp only [show (0 : Int32).toInt = 0 from rfl, show (1 : Int32).toInt = 1 from rfl, show (2 : Int32).toInt = 2 from rfl, show (3 : Int32).toInt = 3 from rfl] at *
  omega
theorem own_sp (x : Int32) : (x &&& (3 : Int32)) + (1 : Int32) ≠ 0 := by
  rcases own_four x with e | e | e | e <;> rw [e] <;> decide

set_option maxRecDepth 65536 in
set_option maxHeartbeats 40000000 in
theorem rm_fl (l : Launch) (Z : State) (a0 : Array Value) (hw : ∀ d ∈ tables_1, d.before a0 Z = true) (F L G : Addr) (kf kl kg : ClassId) (fv lv gv : List Value) (d sp po : Int32) (b : Int64) (n : Nat) (hd : ¬ d < 0) (hn : d.toNatClampNeg = n) (hfv : n < fv.length) (hlv : n < lv.length) (hgv : n < gv.length) (h : Heap) (n0 : Nat) {Ls : List (Addr × (Cell → Prop))} (O : Hp h n0 ((F, ArC Z kf .long fv) :: (L, ArC Z kl .long lv) :: (G, ArC Z kg .long gv) :: Ls)) :
    Met l Z (⟨"com/example/keyed_tensor/keyedtensor/array/DatasetNextGridPositionPinLaw", "fill", "([J[J[JIJII)V"⟩ : MethodName) method_3_code 10 none (rmk 0 0 0 0) #[(.ref F), (.ref L), (.ref G), (.int d), (.long b), (.int sp), (.int po)] h n0 (fun v h' => v = none ∧ ∃ f l g : Int64, Hp h' n0 ((F, ArC Z kf .long (fv.set n (.long f))) :: (L, ArC Z kl .long (lv.set n (.long l))) :: (G, ArC Z kg .long (gv.set n (.long g))) :: Ls)) := by
  refine Met.of (L0 := #[.val (.ref F), .val (.ref L), .val (.ref G), .val (.int d), .val (.long b), .second, .val (.int sp), .val (.int po), .unset, .unset]) pn_l (own_ef rfl) ?_
  refine Wp.iload (pc' := 2) d0_0 rfl rfl ?_
  refine Wp.iconst (z := (2 : Int32)) (pc' := 3) d0_2 (by decide) rfl ?_
  refine Wp.iloadN (pc' := 4) d0_3 rfl rfl ?_
  refine Wp.imul (z := ((2 : Int32) * d)) (pc' := 5) d0_4 rfl rfl ?_
  refine Wp.iushr (z := (Free.XT.ushr sp ((2 : Int32) * d))) (pc' := 6) d0_5 rfl rfl ?_
  refine Wp.iconst (z := (3 : Int32)) (pc' := 7) d0_6 (by decide) rfl ?_
  refine Wp.iand (z := ((Free.XT.ushr sp ((2 : Int32) * d)) &&& (3 : Int32))) (pc' := 8) d0_7 rfl rfl ?_
  obtain ⟨span, e_span⟩ : ∃ z, z = ((Free.XT.ushr sp ((2 : Int32) * d)) &&& (3 : Int32)) := ⟨_, rfl⟩
  rw [← e_span]
  refine Wp.istore (L' := #[.val (.ref F), .val (.ref L), .val (.ref G), .val (.int d), .val (.long b), .second, .val (.int sp), .val (.int po), .val (.int span), .unset]) (pc' := 10) d0_8 rfl rfl ?_
  refine Wp.iload (pc' := 12) d0_10 rfl rfl ?_
  refine Wp.iconst (z := (2 : Int32)) (pc' := 13) d0_12 (by decide) rfl ?_
  refine Wp.iloadN (pc' := 14) d0_13 rfl rfl ?_
  refine Wp.imul (z := ((2 : Int32) * d)) (pc' := 15) d0_14 rfl rfl ?_
  refine Wp.iushr (z := (Free.XT.ushr po ((2 : Int32) * d))) (pc' := 16) d0_15 rfl rfl ?_
  refine Wp.iconst (z := (3 : Int32)) (pc' := 17) d0_16 (by decide) rfl ?_
  refine Wp.iand (z := ((Free.XT.ushr po ((2 : Int32) * d)) &&& (3 : Int32))) (pc' := 18) d0_17 rfl rfl ?_
  refine Wp.iload (pc' := 20) d0_18 rfl rfl ?_
  refine Wp.iconst (z := (1 : Int32)) (pc' := 21) d0_20 (by decide) rfl ?_
  refine Wp.iadd (z := (span + (1 : Int32))) (pc' := 22) d0_21 rfl rfl ?_
  have hsp : span + (1 : Int32) ≠ 0 := by rw [e_span]; exact own_sp _
  refine Wp.irem (z := (((Free.XT.ushr po ((2 : Int32) * d)) &&& (3 : Int32)) % (span + (1 : Int32)))) (pc' := 23) d0_22 hsp rfl rfl ?_
  refine Wp.istore (L' := #[.val (.ref F), .val (.ref L), .val (.ref G), .val (.int d), .val (.long b), .second, .val (.int sp), .val (.int po), .val (.int span), .val (.int (((Free.XT.ushr po ((2 : Int32) * d)) &&& (3 : Int32)) % (span + (1 : Int32))))]) (pc' := 25) d0_23 rfl rfl ?_
  refine Wp.lload (pc' := 27) d0_25 rfl rfl ?_
  refine Wp.ldc2Long (v := (9223372036854775804 : Int64)) (pc' := 30) (hw _ (List.mem_of_getElem? (i := 5) rfl)) d0_27 rfl ?_
  by_cases c30 : (9223372036854775804 : Int64) < b
  · refine Wp.lcmpN (pc' := 34) (p1 := 31) d0_30 rfl d0_31 (not_not_intro c30) rfl ?_
    refine Wp.aloadN (pc' := 35) d0_34 rfl rfl rfl ?_
    refine Wp.iloadN (pc' := 36) d0_35 rfl rfl ?_
    refine Wp.lload (pc' := 38) d0_36 rfl rfl ?_
    refine Wp.iload (pc' := 40) d0_38 rfl rfl ?_
    refine Wp.i2l (z := ((span).toInt64)) (pc' := 41) d0_40 rfl rfl ?_
    refine Wp.lsub (z := (b - ((span).toInt64))) (pc' := 42) d0_41 rfl rfl ?_
    refine Wp.lastore (LA := []) (jn := n) (pc' := 43) O d0_42 hd hn hfv rfl ?_
    intro h1 O1
    have O1 : Hp h1 n0 ((F, ArC Z kf .long (fv.set n (.long (b - ((span).toInt64))))) :: (L, ArC Z kl .long lv) :: (G, ArC Z kg .long gv) :: Ls) := O1
    refine Wp.aloadN (pc' := 44) d0_43 rfl rfl rfl ?_
    refine Wp.iloadN (pc' := 45) d0_44 rfl rfl ?_
    refine Wp.lload (pc' := 47) d0_45 rfl rfl ?_
    refine Wp.lastore (LA := [_]) (jn := n) (pc' := 48) O1 d0_47 hd hn hlv rfl ?_
    intro h2 O2
    have O2 : Hp h2 n0 ((F, ArC Z kf .long (fv.set n (.long (b - ((span).toInt64))))) :: (L, ArC Z kl .long (lv.set n (.long b))) :: (G, ArC Z kg .long gv) :: Ls) := O2
    refine Wp.goto (pc' := 65) d0_48 (by decide) (by decide) ?_
    refine Wp.aloadN (pc' := 66) d0_65 rfl rfl rfl ?_
    refine Wp.iloadN (pc' := 67) d0_66 rfl rfl ?_
    refine Wp.aloadN (pc' := 68) d0_67 rfl rfl rfl ?_
    refine Wp.iloadN (pc' := 69) d0_68 rfl rfl ?_
    refine Wp.laload (i := 0) (jn := n) (v := (.long (b - ((span).toInt64)))) (pc' := 70) O2 rfl d0_69 hd hn (by rw [List.getElem?_set_self hfv]) rfl ?_
    refine Wp.iload (pc' := 72) d0_70 rfl rfl ?_
    refine Wp.i2l (z := (((((Free.XT.ushr po ((2 : Int32) * d)) &&& (3 : Int32)) % (span + (1 : Int32)))).toInt64)) (pc' := 73) d0_72 rfl rfl ?_
    refine Wp.ladd (z := ((b - ((span).toInt64)) + (((((Free.XT.ushr po ((2 : Int32) * d)) &&& (3 : Int32)) % (span + (1 : Int32)))).toInt64))) (pc' := 74) d0_73 rfl rfl ?_
    refine Wp.lastore (LA := [_, _]) (jn := n) (pc' := 75) O2 d0_74 hd hn hgv rfl ?_
    intro h3 O3
    have O3 : Hp h3 n0 ((F, ArC Z kf .long (fv.set n (.long (b - ((span).toInt64))))) :: (L, ArC Z kl .long (lv.set n (.long b))) :: (G, ArC Z kg .long (gv.set n (.long ((b - ((span).toInt64)) + (((((Free.XT.ushr po ((2 : Int32) * d)) &&& (3 : Int32)) % (span + (1 : Int32)))).toInt64))))) :: Ls) := O3
    exact Wp.ret0 rfl d0_75 (by decide) (by decide) ⟨rfl, _, _, _, O3⟩
  · refine Wp.lcmpY (pc' := 51) (p1 := 31) d0_30 rfl d0_31 c30 (by decide) (by decide) ?_
    refine Wp.aloadN (pc' := 52) d0_51 rfl rfl rfl ?_
    refine Wp.iloadN (pc' := 53) d0_52 rfl rfl ?_
    refine Wp.lload (pc' := 55) d0_53 rfl rfl ?_
    refine Wp.lastore (LA := []) (jn := n) (pc' := 56) O d0_55 hd hn hfv rfl ?_
    intro h4 O4
    have O4 : Hp h4 n0 ((F, ArC Z kf .long (fv.set n (.long b))) :: (L, ArC Z kl .long lv) :: (G, ArC Z kg .long gv) :: Ls) := O4
    refine Wp.aloadN (pc' := 57) d0_56 rfl rfl rfl ?_
    refine Wp.iloadN (pc' := 58) d0_57 rfl rfl ?_
    refine Wp.lload (pc' := 60) d0_58 rfl rfl ?_
    refine Wp.iload (pc' := 62) d0_60 rfl rfl ?_
    refine Wp.i2l (z := ((span).toInt64)) (pc' := 63) d0_62 rfl rfl ?_
    refine Wp.ladd (z := (b + ((span).toInt64))) (pc' := 64) d0_63 rfl rfl ?_
    refine Wp.lastore (LA := [_]) (jn := n) (pc' := 65) O4 d0_64 hd hn hlv rfl ?_
    intro h5 O5
    have O5 : Hp h5 n0 ((F, ArC Z kf .long (fv.set n (.long b))) :: (L, ArC Z kl .long (lv.set n (.long (b + ((span).toInt64))))) :: (G, ArC Z kg .long gv) :: Ls) := O5
    refine Wp.aloadN (pc' := 66) d0_65 rfl rfl rfl ?_
    refine Wp.iloadN (pc' := 67) d0_66 rfl rfl ?_
    refine Wp.aloadN (pc' := 68) d0_67 rfl rfl rfl ?_
    refine Wp.iloadN (pc' := 69) d0_68 rfl rfl ?_
    refine Wp.laload (i := 0) (jn := n) (v := (.long b)) (pc' := 70) O5 rfl d0_69 hd hn (by rw [List.getElem?_set_self hfv]) rfl ?_
    refine Wp.iload (pc' := 72) d0_70 rfl rfl ?_
    refine Wp.i2l (z := (((((Free.XT.ushr po ((2 : Int32) * d)) &&& (3 : Int32)) % (span + (1 : Int32)))).toInt64)) (pc' := 73) d0_72 rfl rfl ?_
    refine Wp.ladd (z := (b + (((((Free.XT.ushr po ((2 : Int32) * d)) &&& (3 : Int32)) % (span + (1 : Int32)))).toInt64))) (pc' := 74) d0_73 rfl rfl ?_
    refine Wp.lastore (LA := [_, _]) (jn := n) (pc' := 75) O5 d0_74 hd hn hgv rfl ?_
    intro h6 O6
    have O6 : Hp h6 n0 ((F, ArC Z kf .long (fv.set n (.long b))) :: (L, ArC Z kl .long (lv.set n (.long (b + ((span).toInt64))))) :: (G, ArC Z kg .long (gv.set n (.long (b + (((((Free.XT.ushr po ((2 : Int32) * d)) &&& (3 : Int32)) % (span + (1 : Int32)))).toInt64))))) :: Ls) := O6
    exact Wp.ret0 rfl d0_75 (by decide) (by decide) ⟨rfl, _, _, _, O6⟩

set_option maxRecDepth 65536 in
set_option maxHeartbeats 40000000 in
theorem rm_cao (l : Launch) (Z : State) (a0 : Array Value) (hw : ∀ d ∈ tables_1, d.before a0 Z = true) (G L : Addr) (kg kl : ClassId) (gv lv : List Value) (d r : Int32) (hdr : ¬ d < r) (h : Heap) (n0 : Nat) {Ls : List (Addr × (Cell → Prop))} (O : Hp h n0 ((G, ArC Z kg .long gv) :: (L, ArC Z kl .long lv) :: Ls)) :
    Met l Z (⟨"com/example/keyed_tensor/keyedtensor/array/DatasetNextGridPositionPinLaw", "can", "(II[J[J)Z"⟩ : MethodName) method_4_code 4 (some .boolean) (rmk 0 0 0 0) #[(.int d), (.int r), (.ref G), (.ref L)] h n0 (fun v h' => v = some (.int 0) ∧ h = h') := by
  refine Met.of (L0 := #[.val (.int d), .val (.int r), .val (.ref G), .val (.ref L)]) pn_l (own_ef rfl) ?_
  refine Wp.iloadN (pc' := 1) d1_0 rfl rfl ?_
  refine Wp.iloadN (pc' := 2) d1_1 rfl rfl ?_
  refine Wp.icmpY (pc' := 19) d1_2 hdr (by decide) (by decide) ?_
  refine Wp.iconst (z := (0 : Int32)) (pc' := 20) d1_19 (by decide) rfl ?_
  exact Wp.retS (t := .boolean) rfl (Or.inl rfl) rfl d1_20 (by decide) (by decide) ⟨rfl, rfl⟩

set_option maxRecDepth 65536 in
set_option maxHeartbeats 40000000 in
theorem rm_cay (l : Launch) (Z : State) (a0 : Array Value) (hw : ∀ d ∈ tables_1, d.before a0 Z = true) (G L : Addr) (kg kl : ClassId) (gv lv : List Value) (d r : Int32) (hdr : d < r) (hd : ¬ d < 0) (n : Nat) (hn : d.toNatClampNeg = n) (g l1 : Int64) (hg : gv[n]? = some (.long g)) (hl : lv[n]? = some (.long l1)) (hgl : g < l1) (h : Heap) (n0 : Nat) {Ls : List (Addr × (Cell → Prop))} (O : Hp h n0 ((G, ArC Z kg .long gv) :: (L, ArC Z kl .long lv) :: Ls)) :
    Met l Z (⟨"com/example/keyed_tensor/keyedtensor/array/DatasetNextGridPositionPinLaw", "can", "(II[J[J)Z"⟩ : MethodName) method_4_code 4 (some .boolean) (rmk 0 0 0 0) #[(.int d), (.int r), (.ref G), (.ref L)] h n0 (fun v h' => v = some (.int 1) ∧ h = h') := by
  refine Met.of (L0 := #[.val (.int d), .val (.int r), .val (.ref G), .val (.ref L)]) pn_l (own_ef rfl) ?_
  refine Wp.iloadN (pc' := 1) d1_0 rfl rfl ?_
  refine Wp.iloadN (pc' := 2) d1_1 rfl rfl ?_
  refine Wp.icmpN (pc' := 5) d1_2 (not_not_intro hdr) rfl ?_
  refine Wp.aloadN (pc' := 6) d1_5 rfl rfl rfl ?_
  refine Wp.iloadN (pc' := 7) d1_6 rfl rfl ?_
  refine Wp.laload (i := 0) (jn := n) (v := (.long g)) (pc' := 8) O rfl d1_7 hd hn hg rfl ?_
  refine Wp.aloadN (pc' := 9) d1_8 rfl rfl rfl ?_
  refine Wp.iloadN (pc' := 10) d1_9 rfl rfl ?_
  refine Wp.laload (i := 1) (jn := n) (v := (.long l1)) (pc' := 11) O rfl d1_10 hd hn hl rfl ?_
  refine Wp.lcmpN (pc' := 15) (p1 := 12) d1_11 rfl d1_12 (not_not_intro hgl) rfl ?_
  refine Wp.iconst (z := (1 : Int32)) (pc' := 16) d1_15 (by decide) rfl ?_
  refine Wp.goto (pc' := 20) d1_16 (by decide) (by decide) ?_
  exact Wp.retS (t := .boolean) rfl (Or.inl rfl) rfl d1_20 (by decide) (by decide) ⟨rfl, rfl⟩

set_option maxRecDepth 65536 in
set_option maxHeartbeats 40000000 in
theorem rm_can (l : Launch) (Z : State) (a0 : Array Value) (hw : ∀ d ∈ tables_1, d.before a0 Z = true) (G L : Addr) (kg kl : ClassId) (gv lv : List Value) (d r : Int32) (hdr : d < r) (hd : ¬ d < 0) (n : Nat) (hn : d.toNatClampNeg = n) (g l1 : Int64) (hg : gv[n]? = some (.long g)) (hl : lv[n]? = some (.long l1)) (hgl : ¬ g < l1) (h : Heap) (n0 : Nat) {Ls : List (Addr × (Cell → Prop))} (O : Hp h n0 ((G, ArC Z kg .long gv) :: (L, ArC Z kl .long lv) :: Ls)) :
    Met l Z (⟨"com/example/keyed_tensor/keyedtensor/array/DatasetNextGridPositionPinLaw", "can", "(II[J[J)Z"⟩ : MethodName) method_4_code 4 (some .boolean) (rmk 0 0 0 0) #[(.int d), (.int r), (.ref G), (.ref L)] h n0 (fun v h' => v = some (.int 0) ∧ h = h') := by
  refine Met.of (L0 := #[.val (.int d), .val (.int r), .val (.ref G), .val (.ref L)]) pn_l (own_ef rfl) ?_
  refine Wp.iloadN (pc' := 1) d1_0 rfl rfl ?_
  refine Wp.iloadN (pc' := 2) d1_1 rfl rfl ?_
  refine Wp.icmpN (pc' := 5) d1_2 (not_not_intro hdr) rfl ?_
  refine Wp.aloadN (pc' := 6) d1_5 rfl rfl rfl ?_
  refine Wp.iloadN (pc' := 7) d1_6 rfl rfl ?_
  refine Wp.laload (i := 0) (jn := n) (v := (.long g)) (pc' := 8) O rfl d1_7 hd hn hg rfl ?_
  refine Wp.aloadN (pc' := 9) d1_8 rfl rfl rfl ?_
  refine Wp.iloadN (pc' := 10) d1_9 rfl rfl ?_
  refine Wp.laload (i := 1) (jn := n) (v := (.long l1)) (pc' := 11) O rfl d1_10 hd hn hl rfl ?_
  refine Wp.lcmpY (pc' := 19) (p1 := 12) d1_11 rfl d1_12 hgl (by decide) (by decide) ?_
  refine Wp.iconst (z := (0 : Int32)) (pc' := 20) d1_19 (by decide) rfl ?_
  exact Wp.retS (t := .boolean) rfl (Or.inl rfl) rfl d1_20 (by decide) (by decide) ⟨rfl, rfl⟩

set_option maxRecDepth 65536 in
set_option maxHeartbeats 40000000 in
theorem rm_nx00 (l : Launch) (Z : State) (a0 : Array Value) (hw : ∀ d ∈ tables_1, d.before a0 Z = true) (D A B : Addr) (kd ka kb : ClassId)   (h : Heap) (n0 : Nat) {Ls : List (Addr × (Cell → Prop))} (O : Hp h n0 ((D, ArC Z kd .long []) :: (A, ArC Z ka .long []) :: (B, ArC Z kb .long []) :: Ls)) :
    Met l Z (⟨"com/example/keyed_tensor/keyedtensor/array/Dataset", "nextGridPosition", "([J[J[J)[J"⟩ : MethodName) prog_10_method_5_code 4 (some (.array .long)) (rmk 0 0 0 0) #[(.ref D), (.ref A), (.ref B)] h n0 (fun v h' => v = some .null ∧ Hp h' n0 ((D, ArC Z kd .long []) :: (A, ArC Z ka .long []) :: (B, ArC Z kb .long []) :: Ls)) := by
  refine Met.of (L0 := #[.val (.ref D), .val (.ref A), .val (.ref B), .unset]) pn_d (own_ef rfl) ?_
  refine Wp.aloadN (pc' := 1) d2_0 rfl rfl rfl ?_
  refine Wp.arrlen (i := 0) (z := (0 : Int32)) (pc' := 2) O rfl d2_1 rfl rfl ?_
  refine Wp.iconst (z := (1 : Int32)) (pc' := 3) d2_2 (by decide) rfl ?_
  refine Wp.isub (z := (-1 : Int32)) (pc' := 4) d2_3 (by decide) rfl ?_
  refine Wp.istoreN (L' := #[.val (.ref D), .val (.ref A), .val (.ref B), .val (.int (-1 : Int32))]) (pc' := 5) d2_4 rfl rfl ?_
  refine Wp.iloadN (pc' := 6) d2_5 rfl rfl ?_
  refine Wp.ifY (pc' := 40) d2_6 (by decide) (by decide) (by decide) ?_
  refine Wp.aconstNull (pc' := 41) d2_40 rfl ?_
  exact Wp.retA (t := (.array .long)) rfl rfl rfl rfl d2_41 (by decide) (by decide) ⟨rfl, O⟩

set_option maxRecDepth 65536 in
set_option maxHeartbeats 40000000 in
theorem rm_nx10 (l : Launch) (Z : State) (a0 : Array Value) (hw : ∀ d ∈ tables_1, d.before a0 Z = true) (D A B : Addr) (kd ka kb : ClassId) (f0 l0 g0 : Int64) (hc0 : ¬ g0 < l0) (h : Heap) (n0 : Nat) {Ls : List (Addr × (Cell → Prop))} (O : Hp h n0 ((D, ArC Z kd .long [(.long g0)]) :: (A, ArC Z ka .long [(.long f0)]) :: (B, ArC Z kb .long [(.long l0)]) :: Ls)) :
    Met l Z (⟨"com/example/keyed_tensor/keyedtensor/array/Dataset", "nextGridPosition", "([J[J[J)[J"⟩ : MethodName) prog_10_method_5_code 4 (some (.array .long)) (rmk 0 0 0 0) #[(.ref D), (.ref A), (.ref B)] h n0 (fun v h' => v = some .null ∧ Hp h' n0 ((D, ArC Z kd .long [(.long f0)]) :: (A, ArC Z ka .long [(.long f0)]) :: (B, ArC Z kb .long [(.long l0)]) :: Ls)) := by
  refine Met.of (L0 := #[.val (.ref D), .val (.ref A), .val (.ref B), .unset]) pn_d (own_ef rfl) ?_
  refine Wp.aloadN (pc' := 1) d2_0 rfl rfl rfl ?_
  refine Wp.arrlen (i := 0) (z := (1 : Int32)) (pc' := 2) O rfl d2_1 rfl rfl ?_
  refine Wp.iconst (z := (1 : Int32)) (pc' := 3) d2_2 (by decide) rfl ?_
  refine Wp.isub (z := (0 : Int32)) (pc' := 4) d2_3 (by decide) rfl ?_
  refine Wp.istoreN (L' := #[.val (.ref D), .val (.ref A), .val (.ref B), .val (.int (0 : Int32))]) (pc' := 5) d2_4 rfl rfl ?_
  refine Wp.iloadN (pc' := 6) d2_5 rfl rfl ?_
  refine Wp.ifN (pc' := 9) d2_6 (by decide) rfl ?_
  refine Wp.aloadN (pc' := 10) d2_9 rfl rfl rfl ?_
  refine Wp.iloadN (pc' := 11) d2_10 rfl rfl ?_
  refine Wp.laload (i := 0) (jn := 0) (v := (.long g0)) (pc' := 12) O rfl d2_11 (by decide) rfl rfl rfl ?_
  refine Wp.aloadN (pc' := 13) d2_12 rfl rfl rfl ?_
  refine Wp.iloadN (pc' := 14) d2_13 rfl rfl ?_
  refine Wp.laload (i := 2) (jn := 0) (v := (.long l0)) (pc' := 15) O rfl d2_14 (by decide) rfl rfl rfl ?_
  refine Wp.lcmpY (pc' := 28) (p1 := 16) d2_15 rfl d2_16 hc0 (by decide) (by decide) ?_
  refine Wp.aloadN (pc' := 29) d2_28 rfl rfl rfl ?_
  refine Wp.iloadN (pc' := 30) d2_29 rfl rfl ?_
  refine Wp.aloadN (pc' := 31) d2_30 rfl rfl rfl ?_
  refine Wp.iloadN (pc' := 32) d2_31 rfl rfl ?_
  refine Wp.laload (i := 1) (jn := 0) (v := (.long f0)) (pc' := 33) O rfl d2_32 (by decide) rfl rfl rfl ?_
  refine Wp.lastore (LA := []) (jn := 0) (pc' := 34) O d2_33 (by decide) rfl (by first | decide | simp) rfl ?_
  intro h1 O1
  have O1 : Hp h1 n0 ((D, ArC Z kd .long [(.long f0)]) :: (A, ArC Z ka .long [(.long f0)]) :: (B, ArC Z kb .long [(.long l0)]) :: Ls) := O1
  refine Wp.iinc (z := (-1 : Int32)) (L' := #[.val (.ref D), .val (.ref A), .val (.ref B), .val (.int (-1 : Int32))]) (pc' := 37) d2_34 rfl (by decide) rfl rfl ?_
  refine Wp.goto (pc' := 5) d2_37 (by decide) (by decide) ?_
  refine Wp.iloadN (pc' := 6) d2_5 rfl rfl ?_
  refine Wp.ifY (pc' := 40) d2_6 (by decide) (by decide) (by decide) ?_
  refine Wp.aconstNull (pc' := 41) d2_40 rfl ?_
  exact Wp.retA (t := (.array .long)) rfl rfl rfl rfl d2_41 (by decide) (by decide) ⟨rfl, O1⟩

set_option maxRecDepth 65536 in
set_option maxHeartbeats 40000000 in
theorem rm_nx11 (l : Launch) (Z : State) (a0 : Array Value) (hw : ∀ d ∈ tables_1, d.before a0 Z = true) (D A B : Addr) (kd ka kb : ClassId) (f0 l0 g0 : Int64) (hc0 : g0 < l0) (h : Heap) (n0 : Nat) {Ls : List (Addr × (Cell → Prop))} (O : Hp h n0 ((D, ArC Z kd .long [(.long g0)]) :: (A, ArC Z ka .long [(.long f0)]) :: (B, ArC Z kb .long [(.long l0)]) :: Ls)) :
    Met l Z (⟨"com/example/keyed_tensor/keyedtensor/array/Dataset", "nextGridPosition", "([J[J[J)[J"⟩ : MethodName) prog_10_method_5_code 4 (some (.array .long)) (rmk 0 0 0 0) #[(.ref D), (.ref A), (.ref B)] h n0 (fun v h' => v = some (.ref D) ∧ Hp h' n0 ((D, ArC Z kd .long [(.long (g0 + (1 : Int64)))]) :: (A, ArC Z ka .long [(.long f0)]) :: (B, ArC Z kb .long [(.long l0)]) :: Ls)) := by
  refine Met.of (L0 := #[.val (.ref D), .val (.ref A), .val (.ref B), .unset]) pn_d (own_ef rfl) ?_
  refine Wp.aloadN (pc' := 1) d2_0 rfl rfl rfl ?_
  refine Wp.arrlen (i := 0) (z := (1 : Int32)) (pc' := 2) O rfl d2_1 rfl rfl ?_
  refine Wp.iconst (z := (1 : Int32)) (pc' := 3) d2_2 (by decide) rfl ?_
  refine Wp.isub (z := (0 : Int32)) (pc' := 4) d2_3 (by decide) rfl ?_
  refine Wp.istoreN (L' := #[.val (.ref D), .val (.ref A), .val (.ref B), .val (.int (0 : Int32))]) (pc' := 5) d2_4 rfl rfl ?_
  refine Wp.iloadN (pc' := 6) d2_5 rfl rfl ?_
  refine Wp.ifN (pc' := 9) d2_6 (by decide) rfl ?_
  refine Wp.aloadN (pc' := 10) d2_9 rfl rfl rfl ?_
  refine Wp.iloadN (pc' := 11) d2_10 rfl rfl ?_
  refine Wp.laload (i := 0) (jn := 0) (v := (.long g0)) (pc' := 12) O rfl d2_11 (by decide) rfl rfl rfl ?_
  refine Wp.aloadN (pc' := 13) d2_12 rfl rfl rfl ?_
  refine Wp.iloadN (pc' := 14) d2_13 rfl rfl ?_
  refine Wp.laload (i := 2) (jn := 0) (v := (.long l0)) (pc' := 15) O rfl d2_14 (by decide) rfl rfl rfl ?_
  refine Wp.lcmpN (pc' := 19) (p1 := 16) d2_15 rfl d2_16 (not_not_intro hc0) rfl ?_
  refine Wp.aloadN (pc' := 20) d2_19 rfl rfl rfl ?_
  refine Wp.iloadN (pc' := 21) d2_20 rfl rfl ?_
  refine Wp.dup2 (pc' := 22) d2_21 rfl rfl rfl ?_
  refine Wp.laload (i := 0) (jn := 0) (v := (.long g0)) (pc' := 23) O rfl d2_22 (by decide) rfl rfl rfl ?_
  refine Wp.lconst (z := (1 : Int64)) (pc' := 24) d2_23 (by decide) rfl ?_
  refine Wp.ladd (z := (g0 + (1 : Int64))) (pc' := 25) d2_24 rfl rfl ?_
  refine Wp.lastore (LA := []) (jn := 0) (pc' := 26) O d2_25 (by decide) rfl (by first | decide | simp) rfl ?_
  intro h1 O1
  have O1 : Hp h1 n0 ((D, ArC Z kd .long [(.long (g0 + (1 : Int64)))]) :: (A, ArC Z ka .long [(.long f0)]) :: (B, ArC Z kb .long [(.long l0)]) :: Ls) := O1
  refine Wp.aloadN (pc' := 27) d2_26 rfl rfl rfl ?_
  exact Wp.retA (t := (.array .long)) rfl rfl rfl rfl d2_27 (by decide) (by decide) ⟨rfl, O1⟩

set_option maxRecDepth 65536 in
set_option maxHeartbeats 40000000 in
theorem rm_nx20 (l : Launch) (Z : State) (a0 : Array Value) (hw : ∀ d ∈ tables_1, d.before a0 Z = true) (D A B : Addr) (kd ka kb : ClassId) (f0 l0 g0 f1 l1 g1 : Int64) (hc0 : ¬ g0 < l0) (hc1 : ¬ g1 < l1) (h : Heap) (n0 : Nat) {Ls : List (Addr × (Cell → Prop))} (O : Hp h n0 ((D, ArC Z kd .long [(.long g0), (.long g1)]) :: (A, ArC Z ka .long [(.long f0), (.long f1)]) :: (B, ArC Z kb .long [(.long l0), (.long l1)]) :: Ls)) :
    Met l Z (⟨"com/example/keyed_tensor/keyedtensor/array/Dataset", "nextGridPosition", "([J[J[J)[J"⟩ : MethodName) prog_10_method_5_code 4 (some (.array .long)) (rmk 0 0 0 0) #[(.ref D), (.ref A), (.ref B)] h n0 (fun v h' => v = some .null ∧ Hp h' n0 ((D, ArC Z kd .long [(.long f0), (.long f1)]) :: (A, ArC Z ka .long [(.long f0), (.long f1)]) :: (B, ArC Z kb .long [(.long l0), (.long l1)]) :: Ls)) := by
  refine Met.of (L0 := #[.val (.ref D), .val (.ref A), .val (.ref B), .unset]) pn_d (own_ef rfl) ?_
  refine Wp.aloadN (pc' := 1) d2_0 rfl rfl rfl ?_
  refine Wp.arrlen (i := 0) (z := (2 : Int32)) (pc' := 2) O rfl d2_1 rfl rfl ?_
  refine Wp.iconst (z := (1 : Int32)) (pc' := 3) d2_2 (by decide) rfl ?_
  refine Wp.isub (z := (1 : Int32)) (pc' := 4) d2_3 (by decide) rfl ?_
  refine Wp.istoreN (L' := #[.val (.ref D), .val (.ref A), .val (.ref B), .val (.int (1 : Int32))]) (pc' := 5) d2_4 rfl rfl ?_
  refine Wp.iloadN (pc' := 6) d2_5 rfl rfl ?_
  refine Wp.ifN (pc' := 9) d2_6 (by decide) rfl ?_
  refine Wp.aloadN (pc' := 10) d2_9 rfl rfl rfl ?_
  refine Wp.iloadN (pc' := 11) d2_10 rfl rfl ?_
  refine Wp.laload (i := 0) (jn := 1) (v := (.long g1)) (pc' := 12) O rfl d2_11 (by decide) rfl rfl rfl ?_
  refine Wp.aloadN (pc' := 13) d2_12 rfl rfl rfl ?_
  refine Wp.iloadN (pc' := 14) d2_13 rfl rfl ?_
  refine Wp.laload (i := 2) (jn := 1) (v := (.long l1)) (pc' := 15) O rfl d2_14 (by decide) rfl rfl rfl ?_
  refine Wp.lcmpY (pc' := 28) (p1 := 16) d2_15 rfl d2_16 hc1 (by decide) (by decide) ?_
  refine Wp.aloadN (pc' := 29) d2_28 rfl rfl rfl ?_
  refine Wp.iloadN (pc' := 30) d2_29 rfl rfl ?_
  refine Wp.aloadN (pc' := 31) d2_30 rfl rfl rfl ?_
  refine Wp.iloadN (pc' := 32) d2_31 rfl rfl ?_
  refine Wp.laload (i := 1) (jn := 1) (v := (.long f1)) (pc' := 33) O rfl d2_32 (by decide) rfl rfl rfl ?_
  refine Wp.lastore (LA := []) (jn := 1) (pc' := 34) O d2_33 (by decide) rfl (by first | decide | simp) rfl ?_
  intro h1 O1
  have O1 : Hp h1 n0 ((D, ArC Z kd .long [(.long g0), (.long f1)]) :: (A, ArC Z ka .long [(.long f0), (.long f1)]) :: (B, ArC Z kb .long [(.long l0), (.long l1)]) :: Ls) := O1
  refine Wp.iinc (z := (0 : Int32)) (L' := #[.val (.ref D), .val (.ref A), .val (.ref B), .val (.int (0 : Int32))]) (pc' := 37) d2_34 rfl (by decide) rfl rfl ?_
  refine Wp.goto (pc' := 5) d2_37 (by decide) (by decide) ?_
  refine Wp.iloadN (pc' := 6) d2_5 rfl rfl ?_
  refine Wp.ifN (pc' := 9) d2_6 (by decide) rfl ?_
  refine Wp.aloadN (pc' := 10) d2_9 rfl rfl rfl ?_
  refine Wp.iloadN (pc' := 11) d2_10 rfl rfl ?_
  refine Wp.laload (i := 0) (jn := 0) (v := (.long g0)) (pc' := 12) O1 rfl d2_11 (by decide) rfl rfl rfl ?_
  refine Wp.aloadN (pc' := 13) d2_12 rfl rfl rfl ?_
  refine Wp.iloadN (pc' := 14) d2_13 rfl rfl ?_
  refine Wp.laload (i := 2) (jn := 0) (v := (.long l0)) (pc' := 15) O1 rfl d2_14 (by decide) rfl rfl rfl ?_
  refine Wp.lcmpY (pc' := 28) (p1 := 16) d2_15 rfl d2_16 hc0 (by decide) (by decide) ?_
  refine Wp.aloadN (pc' := 29) d2_28 rfl rfl rfl ?_
  refine Wp.iloadN (pc' := 30) d2_29 rfl rfl ?_
  refine Wp.aloadN (pc' := 31) d2_30 rfl rfl rfl ?_
  refine Wp.iloadN (pc' := 32) d2_31 rfl rfl ?_
  refine Wp.laload (i := 1) (jn := 0) (v := (.long f0)) (pc' := 33) O1 rfl d2_32 (by decide) rfl rfl rfl ?_
  refine Wp.lastore (LA := []) (jn := 0) (pc' := 34) O1 d2_33 (by decide) rfl (by first | decide | simp) rfl ?_
  intro h2 O2
  have O2 : Hp h2 n0 ((D, ArC Z kd .long [(.long f0), (.long f1)]) :: (A, ArC Z ka .long [(.long f0), (.long f1)]) :: (B, ArC Z kb .long [(.long l0), (.long l1)]) :: Ls) := O2
  refine Wp.iinc (z := (-1 : Int32)) (L' := #[.val (.ref D), .val (.ref A), .val (.ref B), .val (.int (-1 : Int32))]) (pc' := 37) d2_34 rfl (by decide) rfl rfl ?_
  refine Wp.goto (pc' := 5) d2_37 (by decide) (by decide) ?_
  refine Wp.iloadN (pc' := 6) d2_5 rfl rfl ?_
  refine Wp.ifY (pc' := 40) d2_6 (by decide) (by decide) (by decide) ?_
  refine Wp.aconstNull (pc' := 41) d2_40 rfl ?_
  exact Wp.retA (t := (.array .long)) rfl rfl rfl rfl d2_41 (by decide) (by decide) ⟨rfl, O2⟩

set_option maxRecDepth 65536 in
set_option maxHeartbeats 40000000 in
theorem rm_nx21 (l : Launch) (Z : State) (a0 : Array Value) (hw : ∀ d ∈ tables_1, d.before a0 Z = true) (D A B : Addr) (kd ka kb : ClassId) (f0 l0 g0 f1 l1 g1 : Int64) (hc0 : g0 < l0) (hc1 : ¬ g1 < l1) (h : Heap) (n0 : Nat) {Ls : List (Addr × (Cell → Prop))} (O : Hp h n0 ((D, ArC Z kd .long [(.long g0), (.long g1)]) :: (A, ArC Z ka .long [(.long f0), (.long f1)]) :: (B, ArC Z kb .long [(.long l0), (.long l1)]) :: Ls)) :
    Met l Z (⟨"com/example/keyed_tensor/keyedtensor/array/Dataset", "nextGridPosition", "([J[J[J)[J"⟩ : MethodName) prog_10_method_5_code 4 (some (.array .long)) (rmk 0 0 0 0) #[(.ref D), (.ref A), (.ref B)] h n0 (fun v h' => v = some (.ref D) ∧ Hp h' n0 ((D, ArC Z kd .long [(.long (g0 + (1 : Int64))), (.long f1)]) :: (A, ArC Z ka .long [(.long f0), (.long f1)]) :: (B, ArC Z kb .long [(.long l0), (.long l1)]) :: Ls)) := by
  refine Met.of (L0 := #[.val (.ref D), .val (.ref A), .val (.ref B), .unset]) pn_d (own_ef rfl) ?_
  refine Wp.aloadN (pc' := 1) d2_0 rfl rfl rfl ?_
  refine Wp.arrlen (i := 0) (z := (2 : Int32)) (pc' := 2) O rfl d2_1 rfl rfl ?_
  refine Wp.iconst (z := (1 : Int32)) (pc' := 3) d2_2 (by decide) rfl ?_
  refine Wp.isub (z := (1 : Int32)) (pc' := 4) d2_3 (by decide) rfl ?_
  refine Wp.istoreN (L' := #[.val (.ref D), .val (.ref A), .val (.ref B), .val (.int (1 : Int32))]) (pc' := 5) d2_4 rfl rfl ?_
  refine Wp.iloadN (pc' := 6) d2_5 rfl rfl ?_
  refine Wp.ifN (pc' := 9) d2_6 (by decide) rfl ?_
  refine Wp.aloadN (pc' := 10) d2_9 rfl rfl rfl ?_
  refine Wp.iloadN (pc' := 11) d2_10 rfl rfl ?_
  refine Wp.laload (i := 0) (jn := 1) (v := (.long g1)) (pc' := 12) O rfl d2_11 (by decide) rfl rfl rfl ?_
  refine Wp.aloadN (pc' := 13) d2_12 rfl rfl rfl ?_
  refine Wp.iloadN (pc' := 14) d2_13 rfl rfl ?_
  refine Wp.laload (i := 2) (jn := 1) (v := (.long l1)) (pc' := 15) O rfl d2_14 (by decide) rfl rfl rfl ?_
  refine Wp.lcmpY (pc' := 28) (p1 := 16) d2_15 rfl d2_16 hc1 (by decide) (by decide) ?_
  refine Wp.aloadN (pc' := 29) d2_28 rfl rfl rfl ?_
  refine Wp.iloadN (pc' := 30) d2_29 rfl rfl ?_
  refine Wp.aloadN (pc' := 31) d2_30 rfl rfl rfl ?_
  refine Wp.iloadN (pc' := 32) d2_31 rfl rfl ?_
  refine Wp.laload (i := 1) (jn := 1) (v := (.long f1)) (pc' := 33) O rfl d2_32 (by decide) rfl rfl rfl ?_
  refine Wp.lastore (LA := []) (jn := 1) (pc' := 34) O d2_33 (by decide) rfl (by first | decide | simp) rfl ?_
  intro h1 O1
  have O1 : Hp h1 n0 ((D, ArC Z kd .long [(.long g0), (.long f1)]) :: (A, ArC Z ka .long [(.long f0), (.long f1)]) :: (B, ArC Z kb .long [(.long l0), (.long l1)]) :: Ls) := O1
  refine Wp.iinc (z := (0 : Int32)) (L' := #[.val (.ref D), .val (.ref A), .val (.ref B), .val (.int (0 : Int32))]) (pc' := 37) d2_34 rfl (by decide) rfl rfl ?_
  refine Wp.goto (pc' := 5) d2_37 (by decide) (by decide) ?_
  refine Wp.iloadN (pc' := 6) d2_5 rfl rfl ?_
  refine Wp.ifN (pc' := 9) d2_6 (by decide) rfl ?_
  refine Wp.aloadN (pc' := 10) d2_9 rfl rfl rfl ?_
  refine Wp.iloadN (pc' := 11) d2_10 rfl rfl ?_
  refine Wp.laload (i := 0) (jn := 0) (v := (.long g0)) (pc' := 12) O1 rfl d2_11 (by decide) rfl rfl rfl ?_
  refine Wp.aloadN (pc' := 13) d2_12 rfl rfl rfl ?_
  refine Wp.iloadN (pc' := 14) d2_13 rfl rfl ?_
  refine Wp.laload (i := 2) (jn := 0) (v := (.long l0)) (pc' := 15) O1 rfl d2_14 (by decide) rfl rfl rfl ?_
  refine Wp.lcmpN (pc' := 19) (p1 := 16) d2_15 rfl d2_16 (not_not_intro hc0) rfl ?_
  refine Wp.aloadN (pc' := 20) d2_19 rfl rfl rfl ?_
  refine Wp.iloadN (pc' := 21) d2_20 rfl rfl ?_
  refine Wp.dup2 (pc' := 22) d2_21 rfl rfl rfl ?_
  refine Wp.laload (i := 0) (jn := 0) (v := (.long g0)) (pc' := 23) O1 rfl d2_22 (by decide) rfl rfl rfl ?_
  refine Wp.lconst (z := (1 : Int64)) (pc' := 24) d2_23 (by decide) rfl ?_
  refine Wp.ladd (z := (g0 + (1 : Int64))) (pc' := 25) d2_24 rfl rfl ?_
  refine Wp.lastore (LA := []) (jn := 0) (pc' := 26) O1 d2_25 (by decide) rfl (by first | decide | simp) rfl ?_
  intro h2 O2
  have O2 : Hp h2 n0 ((D, ArC Z kd .long [(.long (g0 + (1 : Int64))), (.long f1)]) :: (A, ArC Z ka .long [(.long f0), (.long f1)]) :: (B, ArC Z kb .long [(.long l0), (.long l1)]) :: Ls) := O2
  refine Wp.aloadN (pc' := 27) d2_26 rfl rfl rfl ?_
  exact Wp.retA (t := (.array .long)) rfl rfl rfl rfl d2_27 (by decide) (by decide) ⟨rfl, O2⟩

set_option maxRecDepth 65536 in
set_option maxHeartbeats 40000000 in
theorem rm_nx22 (l : Launch) (Z : State) (a0 : Array Value) (hw : ∀ d ∈ tables_1, d.before a0 Z = true) (D A B : Addr) (kd ka kb : ClassId) (f0 l0 g0 f1 l1 g1 : Int64) (hc1 : g1 < l1) (h : Heap) (n0 : Nat) {Ls : List (Addr × (Cell → Prop))} (O : Hp h n0 ((D, ArC Z kd .long [(.long g0), (.long g1)]) :: (A, ArC Z ka .long [(.long f0), (.long f1)]) :: (B, ArC Z kb .long [(.long l0), (.long l1)]) :: Ls)) :
    Met l Z (⟨"com/example/keyed_tensor/keyedtensor/array/Dataset", "nextGridPosition", "([J[J[J)[J"⟩ : MethodName) prog_10_method_5_code 4 (some (.array .long)) (rmk 0 0 0 0) #[(.ref D), (.ref A), (.ref B)] h n0 (fun v h' => v = some (.ref D) ∧ Hp h' n0 ((D, ArC Z kd .long [(.long g0), (.long (g1 + (1 : Int64)))]) :: (A, ArC Z ka .long [(.long f0), (.long f1)]) :: (B, ArC Z kb .long [(.long l0), (.long l1)]) :: Ls)) := by
  refine Met.of (L0 := #[.val (.ref D), .val (.ref A), .val (.ref B), .unset]) pn_d (own_ef rfl) ?_
  refine Wp.aloadN (pc' := 1) d2_0 rfl rfl rfl ?_
  refine Wp.arrlen (i := 0) (z := (2 : Int32)) (pc' := 2) O rfl d2_1 rfl rfl ?_
  refine Wp.iconst (z := (1 : Int32)) (pc' := 3) d2_2 (by decide) rfl ?_
  refine Wp.isub (z := (1 : Int32)) (pc' := 4) d2_3 (by decide) rfl ?_
  refine Wp.istoreN (L' := #[.val (.ref D), .val (.ref A), .val (.ref B), .val (.int (1 : Int32))]) (pc' := 5) d2_4 rfl rfl ?_
  refine Wp.iloadN (pc' := 6) d2_5 rfl rfl ?_
  refine Wp.ifN (pc' := 9) d2_6 (by decide) rfl ?_
  refine Wp.aloadN (pc' := 10) d2_9 rfl rfl rfl ?_
  refine Wp.iloadN (pc' := 11) d2_10 rfl rfl ?_
  refine Wp.laload (i := 0) (jn := 1) (v := (.long g1)) (pc' := 12) O rfl d2_11 (by decide) rfl rfl rfl ?_
  refine Wp.aloadN (pc' := 13) d2_12 rfl rfl rfl ?_
  refine Wp.iloadN (pc' := 14) d2_13 rfl rfl ?_
  refine Wp.laload (i := 2) (jn := 1) (v := (.long l1)) (pc' := 15) O rfl d2_14 (by decide) rfl rfl rfl ?_
  refine Wp.lcmpN (pc' := 19) (p1 := 16) d2_15 rfl d2_16 (not_not_intro hc1) rfl ?_
  refine Wp.aloadN (pc' := 20) d2_19 rfl rfl rfl ?_
  refine Wp.iloadN (pc' := 21) d2_20 rfl rfl ?_
  refine Wp.dup2 (pc' := 22) d2_21 rfl rfl rfl ?_
  refine Wp.laload (i := 0) (jn := 1) (v := (.long g1)) (pc' := 23) O rfl d2_22 (by decide) rfl rfl rfl ?_
  refine Wp.lconst (z := (1 : Int64)) (pc' := 24) d2_23 (by decide) rfl ?_
  refine Wp.ladd (z := (g1 + (1 : Int64))) (pc' := 25) d2_24 rfl rfl ?_
  refine Wp.lastore (LA := []) (jn := 1) (pc' := 26) O d2_25 (by decide) rfl (by first | decide | simp) rfl ?_
  intro h1 O1
  have O1 : Hp h1 n0 ((D, ArC Z kd .long [(.long g0), (.long (g1 + (1 : Int64)))]) :: (A, ArC Z ka .long [(.long f0), (.long f1)]) :: (B, ArC Z kb .long [(.long l0), (.long l1)]) :: Ls) := O1
  refine Wp.aloadN (pc' := 27) d2_26 rfl rfl rfl ?_
  exact Wp.retA (t := (.array .long)) rfl rfl rfl rfl d2_27 (by decide) (by decide) ⟨rfl, O1⟩

set_option maxRecDepth 65536 in
set_option maxHeartbeats 40000000 in
theorem rm_nx30 (l : Launch) (Z : State) (a0 : Array Value) (hw : ∀ d ∈ tables_1, d.before a0 Z = true) (D A B : Addr) (kd ka kb : ClassId) (f0 l0 g0 f1 l1 g1 f2 l2 g2 : Int64) (hc0 : ¬ g0 < l0) (hc1 : ¬ g1 < l1) (hc2 : ¬ g2 < l2) (h : Heap) (n0 : Nat) {Ls : List (Addr × (Cell → Prop))} (O : Hp h n0 ((D, ArC Z kd .long [(.long g0), (.long g1), (.long g2)]) :: (A, ArC Z ka .long [(.long f0), (.long f1), (.long f2)]) :: (B, ArC Z kb .long [(.long l0), (.long l1), (.long l2)]) :: Ls)) :
    Met l Z (⟨"com/example/keyed_tensor/keyedtensor/array/Dataset", "nextGridPosition", "([J[J[J)[J"⟩ : MethodName) prog_10_method_5_code 4 (some (.array .long)) (rmk 0 0 0 0) #[(.ref D), (.ref A), (.ref B)] h n0 (fun v h' => v = some .null ∧ Hp h' n0 ((D, ArC Z kd .long [(.long f0), (.long f1), (.long f2)]) :: (A, ArC Z ka .long [(.long f0), (.long f1), (.long f2)]) :: (B, ArC Z kb .long [(.long l0), (.long l1), (.long l2)]) :: Ls)) := by
  refine Met.of (L0 := #[.val (.ref D), .val (.ref A), .val (.ref B), .unset]) pn_d (own_ef rfl) ?_
  refine Wp.aloadN (pc' := 1) d2_0 rfl rfl rfl ?_
  refine Wp.arrlen (i := 0) (z := (3 : Int32)) (pc' := 2) O rfl d2_1 rfl rfl ?_
  refine Wp.iconst (z := (1 : Int32)) (pc' := 3) d2_2 (by decide) rfl ?_
  refine Wp.isub (z := (2 : Int32)) (pc' := 4) d2_3 (by decide) rfl ?_
  refine Wp.istoreN (L' := #[.val (.ref D), .val (.ref A), .val (.ref B), .val (.int (2 : Int32))]) (pc' := 5) d2_4 rfl rfl ?_
  refine Wp.iloadN (pc' := 6) d2_5 rfl rfl ?_
  refine Wp.ifN (pc' := 9) d2_6 (by decide) rfl ?_
  refine Wp.aloadN (pc' := 10) d2_9 rfl rfl rfl ?_
  refine Wp.iloadN (pc' := 11) d2_10 rfl rfl ?_
  refine Wp.laload (i := 0) (jn := 2) (v := (.long g2)) (pc' := 12) O rfl d2_11 (by decide) rfl rfl rfl ?_
  refine Wp.aloadN (pc' := 13) d2_12 rfl rfl rfl ?_
  refine Wp.iloadN (pc' := 14) d2_13 rfl rfl ?_
  refine Wp.laload (i := 2) (jn := 2) (v := (.long l2)) (pc' := 15) O rfl d2_14 (by decide) rfl rfl rfl ?_
  refine Wp.lcmpY (pc' := 28) (p1 := 16) d2_15 rfl d2_16 hc2 (by decide) (by decide) ?_
  refine Wp.aloadN (pc' := 29) d2_28 rfl rfl rfl ?_
  refine Wp.iloadN (pc' := 30) d2_29 rfl rfl ?_
  refine Wp.aloadN (pc' := 31) d2_30 rfl rfl rfl ?_
  refine Wp.iloadN (pc' := 32) d2_31 rfl rfl ?_
  refine Wp.laload (i := 1) (jn := 2) (v := (.long f2)) (pc' := 33) O rfl d2_32 (by decide) rfl rfl rfl ?_
  refine Wp.lastore (LA := []) (jn := 2) (pc' := 34) O d2_33 (by decide) rfl (by first | decide | simp) rfl ?_
  intro h1 O1
  have O1 : Hp h1 n0 ((D, ArC Z kd .long [(.long g0), (.long g1), (.long f2)]) :: (A, ArC Z ka .long [(.long f0), (.long f1), (.long f2)]) :: (B, ArC Z kb .long [(.long l0), (.long l1), (.long l2)]) :: Ls) := O1
  refine Wp.iinc (z := (1 : Int32)) (L' := #[.val (.ref D), .val (.ref A), .val (.ref B), .val (.int (1 : Int32))]) (pc' := 37) d2_34 rfl (by decide) rfl rfl ?_
  refine Wp.goto (pc' := 5) d2_37 (by decide) (by decide) ?_
  refine Wp.iloadN (pc' := 6) d2_5 rfl rfl ?_
  refine Wp.ifN (pc' := 9) d2_6 (by decide) rfl ?_
  refine Wp.aloadN (pc' := 10) d2_9 rfl rfl rfl ?_
  refine Wp.iloadN (pc' := 11) d2_10 rfl rfl ?_
  refine Wp.laload (i := 0) (jn := 1) (v := (.long g1)) (pc' := 12) O1 rfl d2_11 (by decide) rfl rfl rfl ?_
  refine Wp.aloadN (pc' := 13) d2_12 rfl rfl rfl ?_
  refine Wp.iloadN (pc' := 14) d2_13 rfl rfl ?_
  refine Wp.laload (i := 2) (jn := 1) (v := (.long l1)) (pc' := 15) O1 rfl d2_14 (by decide) rfl rfl rfl ?_
  refine Wp.lcmpY (pc' := 28) (p1 := 16) d2_15 rfl d2_16 hc1 (by decide) (by decide) ?_
  refine Wp.aloadN (pc' := 29) d2_28 rfl rfl rfl ?_
  refine Wp.iloadN (pc' := 30) d2_29 rfl rfl ?_
  refine Wp.aloadN (pc' := 31) d2_30 rfl rfl rfl ?_
  refine Wp.iloadN (pc' := 32) d2_31 rfl rfl ?_
  refine Wp.laload (i := 1) (jn := 1) (v := (.long f1)) (pc' := 33) O1 rfl d2_32 (by decide) rfl rfl rfl ?_
  refine Wp.lastore (LA := []) (jn := 1) (pc' := 34) O1 d2_33 (by decide) rfl (by first | decide | simp) rfl ?_
  intro h2 O2
  have O2 : Hp h2 n0 ((D, ArC Z kd .long [(.long g0), (.long f1), (.long f2)]) :: (A, ArC Z ka .long [(.long f0), (.long f1), (.long f2)]) :: (B, ArC Z kb .long [(.long l0), (.long l1), (.long l2)]) :: Ls) := O2
  refine Wp.iinc (z := (0 : Int32)) (L' := #[.val (.ref D), .val (.ref A), .val (.ref B), .val (.int (0 : Int32))]) (pc' := 37) d2_34 rfl (by decide) rfl rfl ?_
  refine Wp.goto (pc' := 5) d2_37 (by decide) (by decide) ?_
  refine Wp.iloadN (pc' := 6) d2_5 rfl rfl ?_
  refine Wp.ifN (pc' := 9) d2_6 (by decide) rfl ?_
  refine Wp.aloadN (pc' := 10) d2_9 rfl rfl rfl ?_
  refine Wp.iloadN (pc' := 11) d2_10 rfl rfl ?_
  refine Wp.laload (i := 0) (jn := 0) (v := (.long g0)) (pc' := 12) O2 rfl d2_11 (by decide) rfl rfl rfl ?_
  refine Wp.aloadN (pc' := 13) d2_12 rfl rfl rfl ?_
  refine Wp.iloadN (pc' := 14) d2_13 rfl rfl ?_
  refine Wp.laload (i := 2) (jn := 0) (v := (.long l0)) (pc' := 15) O2 rfl d2_14 (by decide) rfl rfl rfl ?_
  refine Wp.lcmpY (pc' := 28) (p1 := 16) d2_15 rfl d2_16 hc0 (by decide) (by decide) ?_
  refine Wp.aloadN (pc' := 29) d2_28 rfl rfl rfl ?_
  refine Wp.iloadN (pc' := 30) d2_29 rfl rfl ?_
  refine Wp.aloadN (pc' := 31) d2_30 rfl rfl rfl ?_
  refine Wp.iloadN (pc' := 32) d2_31 rfl rfl ?_
  refine Wp.laload (i := 1) (jn := 0) (v := (.long f0)) (pc' := 33) O2 rfl d2_32 (by decide) rfl rfl rfl ?_
  refine Wp.lastore (LA := []) (jn := 0) (pc' := 34) O2 d2_33 (by decide) rfl (by first | decide | simp) rfl ?_
  intro h3 O3
  have O3 : Hp h3 n0 ((D, ArC Z kd .long [(.long f0), (.long f1), (.long f2)]) :: (A, ArC Z ka .long [(.long f0), (.long f1), (.long f2)]) :: (B, ArC Z kb .long [(.long l0), (.long l1), (.long l2)]) :: Ls) := O3
  refine Wp.iinc (z := (-1 : Int32)) (L' := #[.val (.ref D), .val (.ref A), .val (.ref B), .val (.int (-1 : Int32))]) (pc' := 37) d2_34 rfl (by decide) rfl rfl ?_
  refine Wp.goto (pc' := 5) d2_37 (by decide) (by decide) ?_
  refine Wp.iloadN (pc' := 6) d2_5 rfl rfl ?_
  refine Wp.ifY (pc' := 40) d2_6 (by decide) (by decide) (by decide) ?_
  refine Wp.aconstNull (pc' := 41) d2_40 rfl ?_
  exact Wp.retA (t := (.array .long)) rfl rfl rfl rfl d2_41 (by decide) (by decide) ⟨rfl, O3⟩

set_option maxRecDepth 65536 in
set_option maxHeartbeats 40000000 in
theorem rm_nx31 (l : Launch) (Z : State) (a0 : Array Value) (hw : ∀ d ∈ tables_1, d.before a0 Z = true) (D A B : Addr) (kd ka kb : ClassId) (f0 l0 g0 f1 l1 g1 f2 l2 g2 : Int64) (hc0 : g0 < l0) (hc1 : ¬ g1 < l1) (hc2 : ¬ g2 < l2) (h : Heap) (n0 : Nat) {Ls : List (Addr × (Cell → Prop))} (O : Hp h n0 ((D, ArC Z kd .long [(.long g0), (.long g1), (.long g2)]) :: (A, ArC Z ka .long [(.long f0), (.long f1), (.long f2)]) :: (B, ArC Z kb .long [(.long l0), (.long l1), (.long l2)]) :: Ls)) :
    Met l Z (⟨"com/example/keyed_tensor/keyedtensor/array/Dataset", "nextGridPosition", "([J[J[J)[J"⟩ : MethodName) prog_10_method_5_code 4 (some (.array .long)) (rmk 0 0 0 0) #[(.ref D), (.ref A), (.ref B)] h n0 (fun v h' => v = some (.ref D) ∧ Hp h' n0 ((D, ArC Z kd .long [(.long (g0 + (1 : Int64))), (.long f1), (.long f2)]) :: (A, ArC Z ka .long [(.long f0), (.long f1), (.long f2)]) :: (B, ArC Z kb .long [(.long l0), (.long l1), (.long l2)]) :: Ls)) := by
  refine Met.of (L0 := #[.val (.ref D), .val (.ref A), .val (.ref B), .unset]) pn_d (own_ef rfl) ?_
  refine Wp.aloadN (pc' := 1) d2_0 rfl rfl rfl ?_
  refine Wp.arrlen (i := 0) (z := (3 : Int32)) (pc' := 2) O rfl d2_1 rfl rfl ?_
  refine Wp.iconst (z := (1 : Int32)) (pc' := 3) d2_2 (by decide) rfl ?_
  refine Wp.isub (z := (2 : Int32)) (pc' := 4) d2_3 (by decide) rfl ?_
  refine Wp.istoreN (L' := #[.val (.ref D), .val (.ref A), .val (.ref B), .val (.int (2 : Int32))]) (pc' := 5) d2_4 rfl rfl ?_
  refine Wp.iloadN (pc' := 6) d2_5 rfl rfl ?_
  refine Wp.ifN (pc' := 9) d2_6 (by decide) rfl ?_
  refine Wp.aloadN (pc' := 10) d2_9 rfl rfl rfl ?_
  refine Wp.iloadN (pc' := 11) d2_10 rfl rfl ?_
  refine Wp.laload (i := 0) (jn := 2) (v := (.long g2)) (pc' := 12) O rfl d2_11 (by decide) rfl rfl rfl ?_
  refine Wp.aloadN (pc' := 13) d2_12 rfl rfl rfl ?_
  refine Wp.iloadN (pc' := 14) d2_13 rfl rfl ?_
  refine Wp.laload (i := 2) (jn := 2) (v := (.long l2)) (pc' := 15) O rfl d2_14 (by decide) rfl rfl rfl ?_
  refine Wp.lcmpY (pc' := 28) (p1 := 16) d2_15 rfl d2_16 hc2 (by decide) (by decide) ?_
  refine Wp.aloadN (pc' := 29) d2_28 rfl rfl rfl ?_
  refine Wp.iloadN (pc' := 30) d2_29 rfl rfl ?_
  refine Wp.aloadN (pc' := 31) d2_30 rfl rfl rfl ?_
  refine Wp.iloadN (pc' := 32) d2_31 rfl rfl ?_
  refine Wp.laload (i := 1) (jn := 2) (v := (.long f2)) (pc' := 33) O rfl d2_32 (by decide) rfl rfl rfl ?_
  refine Wp.lastore (LA := []) (jn := 2) (pc' := 34) O d2_33 (by decide) rfl (by first | decide | simp) rfl ?_
  intro h1 O1
  have O1 : Hp h1 n0 ((D, ArC Z kd .long [(.long g0), (.long g1), (.long f2)]) :: (A, ArC Z ka .long [(.long f0), (.long f1), (.long f2)]) :: (B, ArC Z kb .long [(.long l0), (.long l1), (.long l2)]) :: Ls) := O1
  refine Wp.iinc (z := (1 : Int32)) (L' := #[.val (.ref D), .val (.ref A), .val (.ref B), .val (.int (1 : Int32))]) (pc' := 37) d2_34 rfl (by decide) rfl rfl ?_
  refine Wp.goto (pc' := 5) d2_37 (by decide) (by decide) ?_
  refine Wp.iloadN (pc' := 6) d2_5 rfl rfl ?_
  refine Wp.ifN (pc' := 9) d2_6 (by decide) rfl ?_
  refine Wp.aloadN (pc' := 10) d2_9 rfl rfl rfl ?_
  refine Wp.iloadN (pc' := 11) d2_10 rfl rfl ?_
  refine Wp.laload (i := 0) (jn := 1) (v := (.long g1)) (pc' := 12) O1 rfl d2_11 (by decide) rfl rfl rfl ?_
  refine Wp.aloadN (pc' := 13) d2_12 rfl rfl rfl ?_
  refine Wp.iloadN (pc' := 14) d2_13 rfl rfl ?_
  refine Wp.laload (i := 2) (jn := 1) (v := (.long l1)) (pc' := 15) O1 rfl d2_14 (by decide) rfl rfl rfl ?_
  refine Wp.lcmpY (pc' := 28) (p1 := 16) d2_15 rfl d2_16 hc1 (by decide) (by decide) ?_
  refine Wp.aloadN (pc' := 29) d2_28 rfl rfl rfl ?_
  refine Wp.iloadN (pc' := 30) d2_29 rfl rfl ?_
  refine Wp.aloadN (pc' := 31) d2_30 rfl rfl rfl ?_
  refine Wp.iloadN (pc' := 32) d2_31 rfl rfl ?_
  refine Wp.laload (i := 1) (jn := 1) (v := (.long f1)) (pc' := 33) O1 rfl d2_32 (by decide) rfl rfl rfl ?_
  refine Wp.lastore (LA := []) (jn := 1) (pc' := 34) O1 d2_33 (by decide) rfl (by first | decide | simp) rfl ?_
  intro h2 O2
  have O2 : Hp h2 n0 ((D, ArC Z kd .long [(.long g0), (.long f1), (.long f2)]) :: (A, ArC Z ka .long [(.long f0), (.long f1), (.long f2)]) :: (B, ArC Z kb .long [(.long l0), (.long l1), (.long l2)]) :: Ls) := O2
  refine Wp.iinc (z := (0 : Int32)) (L' := #[.val (.ref D), .val (.ref A), .val (.ref B), .val (.int (0 : Int32))]) (pc' := 37) d2_34 rfl (by decide) rfl rfl ?_
  refine Wp.goto (pc' := 5) d2_37 (by decide) (by decide) ?_
  refine Wp.iloadN (pc' := 6) d2_5 rfl rfl ?_
  refine Wp.ifN (pc' := 9) d2_6 (by decide) rfl ?_
  refine Wp.aloadN (pc' := 10) d2_9 rfl rfl rfl ?_
  refine Wp.iloadN (pc' := 11) d2_10 rfl rfl ?_
  refine Wp.laload (i := 0) (jn := 0) (v := (.long g0)) (pc' := 12) O2 rfl d2_11 (by decide) rfl rfl rfl ?_
  refine Wp.aloadN (pc' := 13) d2_12 rfl rfl rfl ?_
  refine Wp.iloadN (pc' := 14) d2_13 rfl rfl ?_
  refine Wp.laload (i := 2) (jn := 0) (v := (.long l0)) (pc' := 15) O2 rfl d2_14 (by decide) rfl rfl rfl ?_
  refine Wp.lcmpN (pc' := 19) (p1 := 16) d2_15 rfl d2_16 (not_not_intro hc0) rfl ?_
  refine Wp.aloadN (pc' := 20) d2_19 rfl rfl rfl ?_
  refine Wp.iloadN (pc' := 21) d2_20 rfl rfl ?_
  refine Wp.dup2 (pc' := 22) d2_21 rfl rfl rfl ?_
  refine Wp.laload (i := 0) (jn := 0) (v := (.long g0)) (pc' := 23) O2 rfl d2_22 (by decide) rfl rfl rfl ?_
  refine Wp.lconst (z := (1 : Int64)) (pc' := 24) d2_23 (by decide) rfl ?_
  refine Wp.ladd (z := (g0 + (1 : Int64))) (pc' := 25) d2_24 rfl rfl ?_
  refine Wp.lastore (LA := []) (jn := 0) (pc' := 26) O2 d2_25 (by decide) rfl (by first | decide | simp) rfl ?_
  intro h3 O3
  have O3 : Hp h3 n0 ((D, ArC Z kd .long [(.long (g0 + (1 : Int64))), (.long f1), (.long f2)]) :: (A, ArC Z ka .long [(.long f0), (.long f1), (.long f2)]) :: (B, ArC Z kb .long [(.long l0), (.long l1), (.long l2)]) :: Ls) := O3
  refine Wp.aloadN (pc' := 27) d2_26 rfl rfl rfl ?_
  exact Wp.retA (t := (.array .long)) rfl rfl rfl rfl d2_27 (by decide) (by decide) ⟨rfl, O3⟩

set_option maxRecDepth 65536 in
set_option maxHeartbeats 40000000 in
theorem rm_nx32 (l : Launch) (Z : State) (a0 : Array Value) (hw : ∀ d ∈ tables_1, d.before a0 Z = true) (D A B : Addr) (kd ka kb : ClassId) (f0 l0 g0 f1 l1 g1 f2 l2 g2 : Int64) (hc1 : g1 < l1) (hc2 : ¬ g2 < l2) (h : Heap) (n0 : Nat) {Ls : List (Addr × (Cell → Prop))} (O : Hp h n0 ((D, ArC Z kd .long [(.long g0), (.long g1), (.long g2)]) :: (A, ArC Z ka .long [(.long f0), (.long f1), (.long f2)]) :: (B, ArC Z kb .long [(.long l0), (.long l1), (.long l2)]) :: Ls)) :
    Met l Z (⟨"com/example/keyed_tensor/keyedtensor/array/Dataset", "nextGridPosition", "([J[J[J)[J"⟩ : MethodName) prog_10_method_5_code 4 (some (.array .long)) (rmk 0 0 0 0) #[(.ref D), (.ref A), (.ref B)] h n0 (fun v h' => v = some (.ref D) ∧ Hp h' n0 ((D, ArC Z kd .long [(.long g0), (.long (g1 + (1 : Int64))), (.long f2)]) :: (A, ArC Z ka .long [(.long f0), (.long f1), (.long f2)]) :: (B, ArC Z kb .long [(.long l0), (.long l1), (.long l2)]) :: Ls)) := by
  refine Met.of (L0 := #[.val (.ref D), .val (.ref A), .val (.ref B), .unset]) pn_d (own_ef rfl) ?_
  refine Wp.aloadN (pc' := 1) d2_0 rfl rfl rfl ?_
  refine Wp.arrlen (i := 0) (z := (3 : Int32)) (pc' := 2) O rfl d2_1 rfl rfl ?_
  refine Wp.iconst (z := (1 : Int32)) (pc' := 3) d2_2 (by decide) rfl ?_
  refine Wp.isub (z := (2 : Int32)) (pc' := 4) d2_3 (by decide) rfl ?_
  refine Wp.istoreN (L' := #[.val (.ref D), .val (.ref A), .val (.ref B), .val (.int (2 : Int32))]) (pc' := 5) d2_4 rfl rfl ?_
  refine Wp.iloadN (pc' := 6) d2_5 rfl rfl ?_
  refine Wp.ifN (pc' := 9) d2_6 (by decide) rfl ?_
  refine Wp.aloadN (pc' := 10) d2_9 rfl rfl rfl ?_
  refine Wp.iloadN (pc' := 11) d2_10 rfl rfl ?_
  refine Wp.laload (i := 0) (jn := 2) (v := (.long g2)) (pc' := 12) O rfl d2_11 (by decide) rfl rfl rfl ?_
  refine Wp.aloadN (pc' := 13) d2_12 rfl rfl rfl ?_
  refine Wp.iloadN (pc' := 14) d2_13 rfl rfl ?_
  refine Wp.laload (i := 2) (jn := 2) (v := (.long l2)) (pc' := 15) O rfl d2_14 (by decide) rfl rfl rfl ?_
  refine Wp.lcmpY (pc' := 28) (p1 := 16) d2_15 rfl d2_16 hc2 (by decide) (by decide) ?_
  refine Wp.aloadN (pc' := 29) d2_28 rfl rfl rfl ?_
  refine Wp.iloadN (pc' := 30) d2_29 rfl rfl ?_
  refine Wp.aloadN (pc' := 31) d2_30 rfl rfl rfl ?_
  refine Wp.iloadN (pc' := 32) d2_31 rfl rfl ?_
  refine Wp.laload (i := 1) (jn := 2) (v := (.long f2)) (pc' := 33) O rfl d2_32 (by decide) rfl rfl rfl ?_
  refine Wp.lastore (LA := []) (jn := 2) (pc' := 34) O d2_33 (by decide) rfl (by first | decide | simp) rfl ?_
  intro h1 O1
  have O1 : Hp h1 n0 ((D, ArC Z kd .long [(.long g0), (.long g1), (.long f2)]) :: (A, ArC Z ka .long [(.long f0), (.long f1), (.long f2)]) :: (B, ArC Z kb .long [(.long l0), (.long l1), (.long l2)]) :: Ls) := O1
  refine Wp.iinc (z := (1 : Int32)) (L' := #[.val (.ref D), .val (.ref A), .val (.ref B), .val (.int (1 : Int32))]) (pc' := 37) d2_34 rfl (by decide) rfl rfl ?_
  refine Wp.goto (pc' := 5) d2_37 (by decide) (by decide) ?_
  refine Wp.iloadN (pc' := 6) d2_5 rfl rfl ?_
  refine Wp.ifN (pc' := 9) d2_6 (by decide) rfl ?_
  refine Wp.aloadN (pc' := 10) d2_9 rfl rfl rfl ?_
  refine Wp.iloadN (pc' := 11) d2_10 rfl rfl ?_
  refine Wp.laload (i := 0) (jn := 1) (v := (.long g1)) (pc' := 12) O1 rfl d2_11 (by decide) rfl rfl rfl ?_
  refine Wp.aloadN (pc' := 13) d2_12 rfl rfl rfl ?_
  refine Wp.iloadN (pc' := 14) d2_13 rfl rfl ?_
  refine Wp.laload (i := 2) (jn := 1) (v := (.long l1)) (pc' := 15) O1 rfl d2_14 (by decide) rfl rfl rfl ?_
  refine Wp.lcmpN (pc' := 19) (p1 := 16) d2_15 rfl d2_16 (not_not_intro hc1) rfl ?_
  refine Wp.aloadN (pc' := 20) d2_19 rfl rfl rfl ?_
  refine Wp.iloadN (pc' := 21) d2_20 rfl rfl ?_
  refine Wp.dup2 (pc' := 22) d2_21 rfl rfl rfl ?_
  refine Wp.laload (i := 0) (jn := 1) (v := (.long g1)) (pc' := 23) O1 rfl d2_22 (by decide) rfl rfl rfl ?_
  refine Wp.lconst (z := (1 : Int64)) (pc' := 24) d2_23 (by decide) rfl ?_
  refine Wp.ladd (z := (g1 + (1 : Int64))) (pc' := 25) d2_24 rfl rfl ?_
  refine Wp.lastore (LA := []) (jn := 1) (pc' := 26) O1 d2_25 (by decide) rfl (by first | decide | simp) rfl ?_
  intro h2 O2
  have O2 : Hp h2 n0 ((D, ArC Z kd .long [(.long g0), (.long (g1 + (1 : Int64))), (.long f2)]) :: (A, ArC Z ka .long [(.long f0), (.long f1), (.long f2)]) :: (B, ArC Z kb .long [(.long l0), (.long l1), (.long l2)]) :: Ls) := O2
  refine Wp.aloadN (pc' := 27) d2_26 rfl rfl rfl ?_
  exact Wp.retA (t := (.array .long)) rfl rfl rfl rfl d2_27 (by decide) (by decide) ⟨rfl, O2⟩

set_option maxRecDepth 65536 in
set_option maxHeartbeats 40000000 in
theorem rm_nx33 (l : Launch) (Z : State) (a0 : Array Value) (hw : ∀ d ∈ tables_1, d.before a0 Z = true) (D A B : Addr) (kd ka kb : ClassId) (f0 l0 g0 f1 l1 g1 f2 l2 g2 : Int64) (hc2 : g2 < l2) (h : Heap) (n0 : Nat) {Ls : List (Addr × (Cell → Prop))} (O : Hp h n0 ((D, ArC Z kd .long [(.long g0), (.long g1), (.long g2)]) :: (A, ArC Z ka .long [(.long f0), (.long f1), (.long f2)]) :: (B, ArC Z kb .long [(.long l0), (.long l1), (.long l2)]) :: Ls)) :
    Met l Z (⟨"com/example/keyed_tensor/keyedtensor/array/Dataset", "nextGridPosition", "([J[J[J)[J"⟩ : MethodName) prog_10_method_5_code 4 (some (.array .long)) (rmk 0 0 0 0) #[(.ref D), (.ref A), (.ref B)] h n0 (fun v h' => v = some (.ref D) ∧ Hp h' n0 ((D, ArC Z kd .long [(.long g0), (.long g1), (.long (g2 + (1 : Int64)))]) :: (A, ArC Z ka .long [(.long f0), (.long f1), (.long f2)]) :: (B, ArC Z kb .long [(.long l0), (.long l1), (.long l2)]) :: Ls)) := by
  refine Met.of (L0 := #[.val (.ref D), .val (.ref A), .val (.ref B), .unset]) pn_d (own_ef rfl) ?_
  refine Wp.aloadN (pc' := 1) d2_0 rfl rfl rfl ?_
  refine Wp.arrlen (i := 0) (z := (3 : Int32)) (pc' := 2) O rfl d2_1 rfl rfl ?_
  refine Wp.iconst (z := (1 : Int32)) (pc' := 3) d2_2 (by decide) rfl ?_
  refine Wp.isub (z := (2 : Int32)) (pc' := 4) d2_3 (by decide) rfl ?_
  refine Wp.istoreN (L' := #[.val (.ref D), .val (.ref A), .val (.ref B), .val (.int (2 : Int32))]) (pc' := 5) d2_4 rfl rfl ?_
  refine Wp.iloadN (pc' := 6) d2_5 rfl rfl ?_
  refine Wp.ifN (pc' := 9) d2_6 (by decide) rfl ?_
  refine Wp.aloadN (pc' := 10) d2_9 rfl rfl rfl ?_
  refine Wp.iloadN (pc' := 11) d2_10 rfl rfl ?_
  refine Wp.laload (i := 0) (jn := 2) (v := (.long g2)) (pc' := 12) O rfl d2_11 (by decide) rfl rfl rfl ?_
  refine Wp.aloadN (pc' := 13) d2_12 rfl rfl rfl ?_
  refine Wp.iloadN (pc' := 14) d2_13 rfl rfl ?_
  refine Wp.laload (i := 2) (jn := 2) (v := (.long l2)) (pc' := 15) O rfl d2_14 (by decide) rfl rfl rfl ?_
  refine Wp.lcmpN (pc' := 19) (p1 := 16) d2_15 rfl d2_16 (not_not_intro hc2) rfl ?_
  refine Wp.aloadN (pc' := 20) d2_19 rfl rfl rfl ?_
  refine Wp.iloadN (pc' := 21) d2_20 rfl rfl ?_
  refine Wp.dup2 (pc' := 22) d2_21 rfl rfl rfl ?_
  refine Wp.laload (i := 0) (jn := 2) (v := (.long g2)) (pc' := 23) O rfl d2_22 (by decide) rfl rfl rfl ?_
  refine Wp.lconst (z := (1 : Int64)) (pc' := 24) d2_23 (by decide) rfl ?_
  refine Wp.ladd (z := (g2 + (1 : Int64))) (pc' := 25) d2_24 rfl rfl ?_
  refine Wp.lastore (LA := []) (jn := 2) (pc' := 26) O d2_25 (by decide) rfl (by first | decide | simp) rfl ?_
  intro h1 O1
  have O1 : Hp h1 n0 ((D, ArC Z kd .long [(.long g0), (.long g1), (.long (g2 + (1 : Int64)))]) :: (A, ArC Z ka .long [(.long f0), (.long f1), (.long f2)]) :: (B, ArC Z kb .long [(.long l0), (.long l1), (.long l2)]) :: Ls) := O1
  refine Wp.aloadN (pc' := 27) d2_26 rfl rfl rfl ?_
  exact Wp.retA (t := (.array .long)) rfl rfl rfl rfl d2_27 (by decide) (by decide) ⟨rfl, O1⟩

set_option maxRecDepth 65536 in
set_option maxHeartbeats 40000000 in
theorem rm_sm0 (l : Launch) (Z : State) (a0 : Array Value) (hw : ∀ d ∈ tables_1, d.before a0 Z = true) (A F : Addr) (ka kf : ClassId) (f0 f1 f2 : Int64) (h : Heap) (n0 : Nat) {Ls : List (Addr × (Cell → Prop))} (O : Hp h n0 ((A, ArC Z ka .long []) :: (F, ArC Z kf .long [(.long f0), (.long f1), (.long f2)]) :: Ls)) :
    Met l Z (⟨"com/example/keyed_tensor/keyedtensor/array/DatasetNextGridPositionPinLaw", "same", "([J[JI)Z"⟩ : MethodName) method_6_code 3 (some .boolean) (rmk 0 0 0 0) #[(.ref A), (.ref F), (.int (0 : Int32))] h n0 (fun v h' => v = some (.int 1) ∧ h = h') := by
  refine Met.of (L0 := #[.val (.ref A), .val (.ref F), .val (.int (0 : Int32))]) pn_l (own_ef rfl) ?_
  refine Wp.iloadN (pc' := 1) d3_0 rfl rfl ?_
  refine Wp.iconst (z := (1 : Int32)) (pc' := 2) d3_1 (by decide) rfl ?_
  refine Wp.icmpY (pc' := 15) d3_2 (by decide) (by decide) (by decide) ?_
  refine Wp.iloadN (pc' := 16) d3_15 rfl rfl ?_
  refine Wp.iconst (z := (2 : Int32)) (pc' := 17) d3_16 (by decide) rfl ?_
  refine Wp.icmpY (pc' := 30) d3_17 (by decide) (by decide) (by decide) ?_
  refine Wp.iloadN (pc' := 31) d3_30 rfl rfl ?_
  refine Wp.iconst (z := (3 : Int32)) (pc' := 32) d3_31 (by decide) rfl ?_
  refine Wp.icmpY (pc' := 45) d3_32 (by decide) (by decide) (by decide) ?_
  refine Wp.iconst (z := (1 : Int32)) (pc' := 46) d3_45 (by decide) rfl ?_
  refine Wp.goto (pc' := 50) d3_46 (by decide) (by decide) ?_
  exact Wp.retS (t := .boolean) rfl (Or.inl rfl) rfl d3_50 (by decide) (by decide) ⟨rfl, rfl⟩

set_option maxRecDepth 65536 in
set_option maxHeartbeats 40000000 in
theorem rm_sm1 (l : Launch) (Z : State) (a0 : Array Value) (hw : ∀ d ∈ tables_1, d.before a0 Z = true) (A F : Addr) (ka kf : ClassId) (f0 f1 f2 : Int64) (h : Heap) (n0 : Nat) {Ls : List (Addr × (Cell → Prop))} (O : Hp h n0 ((A, ArC Z ka .long [(.long f0)]) :: (F, ArC Z kf .long [(.long f0), (.long f1), (.long f2)]) :: Ls)) :
    Met l Z (⟨"com/example/keyed_tensor/keyedtensor/array/DatasetNextGridPositionPinLaw", "same", "([J[JI)Z"⟩ : MethodName) method_6_code 3 (some .boolean) (rmk 0 0 0 0) #[(.ref A), (.ref F), (.int (1 : Int32))] h n0 (fun v h' => v = some (.int 1) ∧ h = h') := by
  refine Met.of (L0 := #[.val (.ref A), .val (.ref F), .val (.int (1 : Int32))]) pn_l (own_ef rfl) ?_
  refine Wp.iloadN (pc' := 1) d3_0 rfl rfl ?_
  refine Wp.iconst (z := (1 : Int32)) (pc' := 2) d3_1 (by decide) rfl ?_
  refine Wp.icmpN (pc' := 5) d3_2 (by decide) rfl ?_
  refine Wp.aloadN (pc' := 6) d3_5 rfl rfl rfl ?_
  refine Wp.iconst (z := (0 : Int32)) (pc' := 7) d3_6 (by decide) rfl ?_
  refine Wp.laload (i := 0) (jn := 0) (v := (.long f0)) (pc' := 8) O rfl d3_7 (by decide) rfl rfl rfl ?_
  refine Wp.aloadN (pc' := 9) d3_8 rfl rfl rfl ?_
  refine Wp.iconst (z := (0 : Int32)) (pc' := 10) d3_9 (by decide) rfl ?_
  refine Wp.laload (i := 1) (jn := 0) (v := (.long f0)) (pc' := 11) O rfl d3_10 (by decide) rfl rfl rfl ?_
  refine Wp.lcmpN (pc' := 15) (p1 := 12) d3_11 rfl d3_12 (not_not_intro rfl) rfl ?_
  refine Wp.iloadN (pc' := 16) d3_15 rfl rfl ?_
  refine Wp.iconst (z := (2 : Int32)) (pc' := 17) d3_16 (by decide) rfl ?_
  refine Wp.icmpY (pc' := 30) d3_17 (by decide) (by decide) (by decide) ?_
  refine Wp.iloadN (pc' := 31) d3_30 rfl rfl ?_
  refine Wp.iconst (z := (3 : Int32)) (pc' := 32) d3_31 (by decide) rfl ?_
  refine Wp.icmpY (pc' := 45) d3_32 (by decide) (by decide) (by decide) ?_
  refine Wp.iconst (z := (1 : Int32)) (pc' := 46) d3_45 (by decide) rfl ?_
  refine Wp.goto (pc' := 50) d3_46 (by decide) (by decide) ?_
  exact Wp.retS (t := .boolean) rfl (Or.inl rfl) rfl d3_50 (by decide) (by decide) ⟨rfl, rfl⟩

set_option maxRecDepth 65536 in
set_option maxHeartbeats 40000000 in
theorem rm_sm2 (l : Launch) (Z : State) (a0 : Array Value) (hw : ∀ d ∈ tables_1, d.before a0 Z = true) (A F : Addr) (ka kf : ClassId) (f0 f1 f2 : Int64) (h : Heap) (n0 : Nat) {Ls : List (Addr × (Cell → Prop))} (O : Hp h n0 ((A, ArC Z ka .long [(.long f0), (.long f1)]) :: (F, ArC Z kf .long [(.long f0), (.long f1), (.long f2)]) :: Ls)) :
    Met l Z (⟨"com/example/keyed_tensor/keyedtensor/array/DatasetNextGridPositionPinLaw", "same", "([J[JI)Z"⟩ : MethodName) method_6_code 3 (some .boolean) (rmk 0 0 0 0) #[(.ref A), (.ref F), (.int (2 : Int32))] h n0 (fun v h' => v = some (.int 1) ∧ h = h') := by
  refine Met.of (L0 := #[.val (.ref A), .val (.ref F), .val (.int (2 : Int32))]) pn_l (own_ef rfl) ?_
  refine Wp.iloadN (pc' := 1) d3_0 rfl rfl ?_
  refine Wp.iconst (z := (1 : Int32)) (pc' := 2) d3_1 (by decide) rfl ?_
  refine Wp.icmpN (pc' := 5) d3_2 (by decide) rfl ?_
  refine Wp.aloadN (pc' := 6) d3_5 rfl rfl rfl ?_
  refine Wp.iconst (z := (0 : Int32)) (pc' := 7) d3_6 (by decide) rfl ?_
  refine Wp.laload (i := 0) (jn := 0) (v := (.long f0)) (pc' := 8) O rfl d3_7 (by decide) rfl rfl rfl ?_
  refine Wp.aloadN (pc' := 9) d3_8 rfl rfl rfl ?_
  refine Wp.iconst (z := (0 : Int32)) (pc' := 10) d3_9 (by decide) rfl ?_
  refine Wp.laload (i := 1) (jn := 0) (v := (.long f0)) (pc' := 11) O rfl d3_10 (by decide) rfl rfl rfl ?_
  refine Wp.lcmpN (pc' := 15) (p1 := 12) d3_11 rfl d3_12 (not_not_intro rfl) rfl ?_
  refine Wp.iloadN (pc' := 16) d3_15 rfl rfl ?_
  refine Wp.iconst (z := (2 : Int32)) (pc' := 17) d3_16 (by decide) rfl ?_
  refine Wp.icmpN (pc' := 20) d3_17 (by decide) rfl ?_
  refine Wp.aloadN (pc' := 21) d3_20 rfl rfl rfl ?_
  refine Wp.iconst (z := (1 : Int32)) (pc' := 22) d3_21 (by decide) rfl ?_
  refine Wp.laload (i := 0) (jn := 1) (v := (.long f1)) (pc' := 23) O rfl d3_22 (by decide) rfl rfl rfl ?_
  refine Wp.aloadN (pc' := 24) d3_23 rfl rfl rfl ?_
  refine Wp.iconst (z := (1 : Int32)) (pc' := 25) d3_24 (by decide) rfl ?_
  refine Wp.laload (i := 1) (jn := 1) (v := (.long f1)) (pc' := 26) O rfl d3_25 (by decide) rfl rfl rfl ?_
  refine Wp.lcmpN (pc' := 30) (p1 := 27) d3_26 rfl d3_27 (not_not_intro rfl) rfl ?_
  refine Wp.iloadN (pc' := 31) d3_30 rfl rfl ?_
  refine Wp.iconst (z := (3 : Int32)) (pc' := 32) d3_31 (by decide) rfl ?_
  refine Wp.icmpY (pc' := 45) d3_32 (by decide) (by decide) (by decide) ?_
  refine Wp.iconst (z := (1 : Int32)) (pc' := 46) d3_45 (by decide) rfl ?_
  refine Wp.goto (pc' := 50) d3_46 (by decide) (by decide) ?_
  exact Wp.retS (t := .boolean) rfl (Or.inl rfl) rfl d3_50 (by decide) (by decide) ⟨rfl, rfl⟩

set_option maxRecDepth 65536 in
set_option maxHeartbeats 40000000 in
theorem rm_sm3 (l : Launch) (Z : State) (a0 : Array Value) (hw : ∀ d ∈ tables_1, d.before a0 Z = true) (A F : Addr) (ka kf : ClassId) (f0 f1 f2 : Int64) (h : Heap) (n0 : Nat) {Ls : List (Addr × (Cell → Prop))} (O : Hp h n0 ((A, ArC Z ka .long [(.long f0), (.long f1), (.long f2)]) :: (F, ArC Z kf .long [(.long f0), (.long f1), (.long f2)]) :: Ls)) :
    Met l Z (⟨"com/example/keyed_tensor/keyedtensor/array/DatasetNextGridPositionPinLaw", "same", "([J[JI)Z"⟩ : MethodName) method_6_code 3 (some .boolean) (rmk 0 0 0 0) #[(.ref A), (.ref F), (.int (3 : Int32))] h n0 (fun v h' => v = some (.int 1) ∧ h = h') := by
  refine Met.of (L0 := #[.val (.ref A), .val (.ref F), .val (.int (3 : Int32))]) pn_l (own_ef rfl) ?_
  refine Wp.iloadN (pc' := 1) d3_0 rfl rfl ?_
  refine Wp.iconst (z := (1 : Int32)) (pc' := 2) d3_1 (by decide) rfl ?_
  refine Wp.icmpN (pc' := 5) d3_2 (by decide) rfl ?_
  refine Wp.aloadN (pc' := 6) d3_5 rfl rfl rfl ?_
  refine Wp.iconst (z := (0 : Int32)) (pc' := 7) d3_6 (by decide) rfl ?_
  refine Wp.laload (i := 0) (jn := 0) (v := (.long f0)) (pc' := 8) O rfl d3_7 (by decide) rfl rfl rfl ?_
  refine Wp.aloadN (pc' := 9) d3_8 rfl rfl rfl ?_
  refine Wp.iconst (z := (0 : Int32)) (pc' := 10) d3_9 (by decide) rfl ?_
  refine Wp.laload (i := 1) (jn := 0) (v := (.long f0)) (pc' := 11) O rfl d3_10 (by decide) rfl rfl rfl ?_
  refine Wp.lcmpN (pc' := 15) (p1 := 12) d3_11 rfl d3_12 (not_not_intro rfl) rfl ?_
  refine Wp.iloadN (pc' := 16) d3_15 rfl rfl ?_
  refine Wp.iconst (z := (2 : Int32)) (pc' := 17) d3_16 (by decide) rfl ?_
  refine Wp.icmpN (pc' := 20) d3_17 (by decide) rfl ?_
  refine Wp.aloadN (pc' := 21) d3_20 rfl rfl rfl ?_
  refine Wp.iconst (z := (1 : Int32)) (pc' := 22) d3_21 (by decide) rfl ?_
  refine Wp.laload (i := 0) (jn := 1) (v := (.long f1)) (pc' := 23) O rfl d3_22 (by decide) rfl rfl rfl ?_
  refine Wp.aloadN (pc' := 24) d3_23 rfl rfl rfl ?_
  refine Wp.iconst (z := (1 : Int32)) (pc' := 25) d3_24 (by decide) rfl ?_
  refine Wp.laload (i := 1) (jn := 1) (v := (.long f1)) (pc' := 26) O rfl d3_25 (by decide) rfl rfl rfl ?_
  refine Wp.lcmpN (pc' := 30) (p1 := 27) d3_26 rfl d3_27 (not_not_intro rfl) rfl ?_
  refine Wp.iloadN (pc' := 31) d3_30 rfl rfl ?_
  refine Wp.iconst (z := (3 : Int32)) (pc' := 32) d3_31 (by decide) rfl ?_
  refine Wp.icmpN (pc' := 35) d3_32 (by decide) rfl ?_
  refine Wp.aloadN (pc' := 36) d3_35 rfl rfl rfl ?_
  refine Wp.iconst (z := (2 : Int32)) (pc' := 37) d3_36 (by decide) rfl ?_
  refine Wp.laload (i := 0) (jn := 2) (v := (.long f2)) (pc' := 38) O rfl d3_37 (by decide) rfl rfl rfl ?_
  refine Wp.aloadN (pc' := 39) d3_38 rfl rfl rfl ?_
  refine Wp.iconst (z := (2 : Int32)) (pc' := 40) d3_39 (by decide) rfl ?_
  refine Wp.laload (i := 1) (jn := 2) (v := (.long f2)) (pc' := 41) O rfl d3_40 (by decide) rfl rfl rfl ?_
  refine Wp.lcmpN (pc' := 45) (p1 := 42) d3_41 rfl d3_42 (not_not_intro rfl) rfl ?_
  refine Wp.iconst (z := (1 : Int32)) (pc' := 46) d3_45 (by decide) rfl ?_
  refine Wp.goto (pc' := 50) d3_46 (by decide) (by decide) ?_
  exact Wp.retS (t := .boolean) rfl (Or.inl rfl) rfl d3_50 (by decide) (by decide) ⟨rfl, rfl⟩

set_option maxRecDepth 65536 in
set_option maxHeartbeats 40000000 in
theorem rm_ato (l : Launch) (Z : State) (a0 : Array Value) (hw : ∀ d ∈ tables_1, d.before a0 Z = true) (D F G : Addr) (kd kf kg : ClassId) (dv fv gv : List Value) (j r t : Int32) (hjr : ¬ j < r) (h : Heap) (n0 : Nat) {Ls : List (Addr × (Cell → Prop))} (O : Hp h n0 ((D, ArC Z kd .long dv) :: (F, ArC Z kf .long fv) :: (G, ArC Z kg .long gv) :: Ls)) :
    Met l Z (⟨"com/example/keyed_tensor/keyedtensor/array/DatasetNextGridPositionPinLaw", "at", "([JIII[J[J)Z"⟩ : MethodName) method_5_code 8 (some .boolean) (rmk 0 0 0 0) #[(.ref D), (.int j), (.int r), (.int t), (.ref F), (.ref G)] h n0 (fun v h' => v = some (.int 1) ∧ h = h') := by
  refine Met.of (L0 := #[.val (.ref D), .val (.int j), .val (.int r), .val (.int t), .val (.ref F), .val (.ref G), .unset, .unset]) pn_l (own_ef rfl) ?_
  refine Wp.iloadN (pc' := 1) d4_0 rfl rfl ?_
  refine Wp.iloadN (pc' := 2) d4_1 rfl rfl ?_
  refine Wp.icmpN (pc' := 5) d4_2 hjr rfl ?_
  refine Wp.iconst (z := (1 : Int32)) (pc' := 6) d4_5 (by decide) rfl ?_
  exact Wp.retS (t := .boolean) rfl (Or.inl rfl) rfl d4_6 (by decide) (by decide) ⟨rfl, rfl⟩

set_option maxRecDepth 65536 in
set_option maxHeartbeats 40000000 in
theorem rm_atl (l : Launch) (Z : State) (a0 : Array Value) (hw : ∀ d ∈ tables_1, d.before a0 Z = true) (D F G : Addr) (kd kf kg : ClassId) (dv fv gv : List Value) (j r t : Int32) (hjr : j < r) (hj : ¬ j < 0) (n : Nat) (hn : j.toNatClampNeg = n) (u : Int64) (hs : gv[n]? = some (.long u)) (hv : dv[n]? = some (.long u)) (hjt : j < t) (h : Heap) (n0 : Nat) {Ls : List (Addr × (Cell → Prop))} (O : Hp h n0 ((D, ArC Z kd .long dv) :: (F, ArC Z kf .long fv) :: (G, ArC Z kg .long gv) :: Ls)) :
    Met l Z (⟨"com/example/keyed_tensor/keyedtensor/array/DatasetNextGridPositionPinLaw", "at", "([JIII[J[J)Z"⟩ : MethodName) method_5_code 8 (some .boolean) (rmk 0 0 0 0) #[(.ref D), (.int j), (.int r), (.int t), (.ref F), (.ref G)] h n0 (fun v h' => v = some (.int 1) ∧ h = h') := by
  refine Met.of (L0 := #[.val (.ref D), .val (.int j), .val (.int r), .val (.int t), .val (.ref F), .val (.ref G), .unset, .unset]) pn_l (own_ef rfl) ?_
  refine Wp.iloadN (pc' := 1) d4_0 rfl rfl ?_
  refine Wp.iloadN (pc' := 2) d4_1 rfl rfl ?_
  refine Wp.icmpY (pc' := 7) d4_2 hjr (by decide) (by decide) ?_
  refine Wp.iloadN (pc' := 8) d4_7 rfl rfl ?_
  refine Wp.iloadN (pc' := 9) d4_8 rfl rfl ?_
  refine Wp.icmpN (pc' := 12) d4_9 (not_not_intro hjt) rfl ?_
  refine Wp.aload (pc' := 14) d4_12 rfl rfl rfl ?_
  refine Wp.iloadN (pc' := 15) d4_14 rfl rfl ?_
  refine Wp.laload (i := 2) (jn := n) (v := (.long u)) (pc' := 16) O rfl d4_15 hj hn hs rfl ?_
  refine Wp.goto (pc' := 37) d4_16 (by decide) (by decide) ?_
  refine Wp.lstore (L' := #[.val (.ref D), .val (.int j), .val (.int r), .val (.int t), .val (.ref F), .val (.ref G), .val (.long u), .second]) (pc' := 39) d4_37 rfl rfl ?_
  refine Wp.aloadN (pc' := 40) d4_39 rfl rfl rfl ?_
  refine Wp.iloadN (pc' := 41) d4_40 rfl rfl ?_
  refine Wp.laload (i := 0) (jn := n) (v := (.long u)) (pc' := 42) O rfl d4_41 hj hn hv rfl ?_
  refine Wp.lload (pc' := 44) d4_42 rfl rfl ?_
  refine Wp.lcmpN (pc' := 48) (p1 := 45) d4_44 rfl d4_45 (not_not_intro rfl) rfl ?_
  refine Wp.iconst (z := (1 : Int32)) (pc' := 49) d4_48 (by decide) rfl ?_
  refine Wp.goto (pc' := 53) d4_49 (by decide) (by decide) ?_
  exact Wp.retS (t := .boolean) rfl (Or.inl rfl) rfl d4_53 (by decide) (by decide) ⟨rfl, rfl⟩

set_option maxRecDepth 65536 in
set_option maxHeartbeats 40000000 in
theorem rm_ate (l : Launch) (Z : State) (a0 : Array Value) (hw : ∀ d ∈ tables_1, d.before a0 Z = true) (D F G : Addr) (kd kf kg : ClassId) (dv fv gv : List Value) (j r t : Int32) (hjr : j < r) (hj : ¬ j < 0) (n : Nat) (hn : j.toNatClampNeg = n) (u : Int64) (hs : gv[n]? = some (.long u)) (hv : dv[n]? = some (.long (u + (1 : Int64)))) (hjt : ¬ j < t) (hje : j = t) (h : Heap) (n0 : Nat) {Ls : List (Addr × (Cell → Prop))} (O : Hp h n0 ((D, ArC Z kd .long dv) :: (F, ArC Z kf .long fv) :: (G, ArC Z kg .long gv) :: Ls)) :
    Met l Z (⟨"com/example/keyed_tensor/keyedtensor/array/DatasetNextGridPositionPinLaw", "at", "([JIII[J[J)Z"⟩ : MethodName) method_5_code 8 (some .boolean) (rmk 0 0 0 0) #[(.ref D), (.int j), (.int r), (.int t), (.ref F), (.ref G)] h n0 (fun v h' => v = some (.int 1) ∧ h = h') := by
  refine Met.of (L0 := #[.val (.ref D), .val (.int j), .val (.int r), .val (.int t), .val (.ref F), .val (.ref G), .unset, .unset]) pn_l (own_ef rfl) ?_
  refine Wp.iloadN (pc' := 1) d4_0 rfl rfl ?_
  refine Wp.iloadN (pc' := 2) d4_1 rfl rfl ?_
  refine Wp.icmpY (pc' := 7) d4_2 hjr (by decide) (by decide) ?_
  refine Wp.iloadN (pc' := 8) d4_7 rfl rfl ?_
  refine Wp.iloadN (pc' := 9) d4_8 rfl rfl ?_
  refine Wp.icmpY (pc' := 19) d4_9 hjt (by decide) (by decide) ?_
  refine Wp.iloadN (pc' := 20) d4_19 rfl rfl ?_
  refine Wp.iloadN (pc' := 21) d4_20 rfl rfl ?_
  refine Wp.icmpN (pc' := 24) d4_21 (not_not_intro hje) rfl ?_
  refine Wp.aload (pc' := 26) d4_24 rfl rfl rfl ?_
  refine Wp.iloadN (pc' := 27) d4_26 rfl rfl ?_
  refine Wp.laload (i := 2) (jn := n) (v := (.long u)) (pc' := 28) O rfl d4_27 hj hn hs rfl ?_
  refine Wp.lconst (z := (1 : Int64)) (pc' := 29) d4_28 (by decide) rfl ?_
  refine Wp.ladd (z := (u + (1 : Int64))) (pc' := 30) d4_29 rfl rfl ?_
  refine Wp.goto (pc' := 37) d4_30 (by decide) (by decide) ?_
  refine Wp.lstore (L' := #[.val (.ref D), .val (.int j), .val (.int r), .val (.int t), .val (.ref F), .val (.ref G), .val (.long (u + (1 : Int64))), .second]) (pc' := 39) d4_37 rfl rfl ?_
  refine Wp.aloadN (pc' := 40) d4_39 rfl rfl rfl ?_
  refine Wp.iloadN (pc' := 41) d4_40 rfl rfl ?_
  refine Wp.laload (i := 0) (jn := n) (v := (.long (u + (1 : Int64)))) (pc' := 42) O rfl d4_41 hj hn hv rfl ?_
  refine Wp.lload (pc' := 44) d4_42 rfl rfl ?_
  refine Wp.lcmpN (pc' := 48) (p1 := 45) d4_44 rfl d4_45 (not_not_intro rfl) rfl ?_
  refine Wp.iconst (z := (1 : Int32)) (pc' := 49) d4_48 (by decide) rfl ?_
  refine Wp.goto (pc' := 53) d4_49 (by decide) (by decide) ?_
  exact Wp.retS (t := .boolean) rfl (Or.inl rfl) rfl d4_53 (by decide) (by decide) ⟨rfl, rfl⟩

set_option maxRecDepth 65536 in
set_option maxHeartbeats 40000000 in
theorem rm_atg (l : Launch) (Z : State) (a0 : Array Value) (hw : ∀ d ∈ tables_1, d.before a0 Z = true) (D F G : Addr) (kd kf kg : ClassId) (dv fv gv : List Value) (j r t : Int32) (hjr : j < r) (hj : ¬ j < 0) (n : Nat) (hn : j.toNatClampNeg = n) (u : Int64) (hs : fv[n]? = some (.long u)) (hv : dv[n]? = some (.long u)) (hjt : ¬ j < t) (hje : ¬ j = t) (h : Heap) (n0 : Nat) {Ls : List (Addr × (Cell → Prop))} (O : Hp h n0 ((D, ArC Z kd .long dv) :: (F, ArC Z kf .long fv) :: (G, ArC Z kg .long gv) :: Ls)) :
    Met l Z (⟨"com/example/keyed_tensor/keyedtensor/array/DatasetNextGridPositionPinLaw", "at", "([JIII[J[J)Z"⟩ : MethodName) method_5_code 8 (some .boolean) (rmk 0 0 0 0) #[(.ref D), (.int j), (.int r), (.int t), (.ref F), (.ref G)] h n0 (fun v h' => v = some (.int 1) ∧ h = h') := by
  refine Met.of (L0 := #[.val (.ref D), .val (.int j), .val (.int r), .val (.int t), .val (.ref F), .val (.ref G), .unset, .unset]) pn_l (own_ef rfl) ?_
  refine Wp.iloadN (pc' := 1) d4_0 rfl rfl ?_
  refine Wp.iloadN (pc' := 2) d4_1 rfl rfl ?_
  refine Wp.icmpY (pc' := 7) d4_2 hjr (by decide) (by decide) ?_
  refine Wp.iloadN (pc' := 8) d4_7 rfl rfl ?_
  refine Wp.iloadN (pc' := 9) d4_8 rfl rfl ?_
  refine Wp.icmpY (pc' := 19) d4_9 hjt (by decide) (by decide) ?_
  refine Wp.iloadN (pc' := 20) d4_19 rfl rfl ?_
  refine Wp.iloadN (pc' := 21) d4_20 rfl rfl ?_
  refine Wp.icmpY (pc' := 33) d4_21 hje (by decide) (by decide) ?_
  refine Wp.aload (pc' := 35) d4_33 rfl rfl rfl ?_
  refine Wp.iloadN (pc' := 36) d4_35 rfl rfl ?_
  refine Wp.laload (i := 1) (jn := n) (v := (.long u)) (pc' := 37) O rfl d4_36 hj hn hs rfl ?_
  refine Wp.lstore (L' := #[.val (.ref D), .val (.int j), .val (.int r), .val (.int t), .val (.ref F), .val (.ref G), .val (.long u), .second]) (pc' := 39) d4_37 rfl rfl ?_
  refine Wp.aloadN (pc' := 40) d4_39 rfl rfl rfl ?_
  refine Wp.iloadN (pc' := 41) d4_40 rfl rfl ?_
  refine Wp.laload (i := 0) (jn := n) (v := (.long u)) (pc' := 42) O rfl d4_41 hj hn hv rfl ?_
  refine Wp.lload (pc' := 44) d4_42 rfl rfl ?_
  refine Wp.lcmpN (pc' := 48) (p1 := 45) d4_44 rfl d4_45 (not_not_intro rfl) rfl ?_
  refine Wp.iconst (z := (1 : Int32)) (pc' := 49) d4_48 (by decide) rfl ?_
  refine Wp.goto (pc' := 53) d4_49 (by decide) (by decide) ?_
  exact Wp.retS (t := .boolean) rfl (Or.inl rfl) rfl d4_53 (by decide) (by decide) ⟨rfl, rfl⟩

set_option maxRecDepth 65536 in
set_option maxHeartbeats 40000000 in
theorem tt_00 (l : Launch) (Z : State) (a0 : Array Value) (hw : ∀ d ∈ tables_1, d.before a0 Z = true) (b0 b1 b2 : Int64) (sp po fg : Int32) (F L G : Addr) (kf kl kg : ClassId) (f0 l0 g0 f1 l1 g1 f2 l2 g2 : Int64) (D A B : Addr) (kd ka kb : ClassId)  (h : Heap) (n0 : Nat) (O : Hp h n0 [(D, ArC Z kd .long []), (A, ArC Z ka .long []), (B, ArC Z kb .long []), (F, ArC Z kf .long [(.long f0), (.long f1), (.long f2)]), (L, ArC Z kl .long [(.long l0), (.long l1), (.long l2)]), (G, ArC Z kg .long [(.long g0), (.long g1), (.long g2)])]) :
    Wp l Z room_1 x code maxLocals ret n0 (fun v _ => v = some (.int 1)) h 6 9 226 #[.val (.long b0), .second, .val (.long b1), .second, .val (.long b2), .second, .val (.int sp), .val (.int po), .val (.int fg), .val (.int (0 : Int32)), .val (.ref F), .val (.ref L), .val (.ref G), .val (.ref D), .val (.ref A), .val (.ref B), .unset, .unset, .unset] [(.int (-1 : Int32))] := by
  refine Wp.istore (L' := #[.val (.long b0), .second, .val (.long b1), .second, .val (.long b2), .second, .val (.int sp), .val (.int po), .val (.int fg), .val (.int (0 : Int32)), .val (.ref F), .val (.ref L), .val (.ref G), .val (.ref D), .val (.ref A), .val (.ref B), .val (.int (-1 : Int32)), .unset, .unset]) (pc' := 228) at_226 rfl rfl ?_
  refine Wp.aload (pc' := 230) at_228 rfl rfl rfl ?_
  refine Wp.aload (pc' := 232) at_230 rfl rfl rfl ?_
  refine Wp.aload (pc' := 234) at_232 rfl rfl rfl ?_
  refine Wp.callS (yy := (⟨"com/example/keyed_tensor/keyedtensor/array/Dataset", "nextGridPosition", "([J[J[J)[J"⟩ : MethodName)) (pc' := 237) (argsL := [(.ref D), (.ref A), (.ref B)]) (S := []) (rm_nx00 l Z a0 hw D A B kd ka kb   h n0 O) (hw _ (List.mem_of_getElem? (i := 9) rfl)) (hw _ (List.mem_of_getElem? (i := 10) rfl)) (hw _ (List.mem_of_getElem? (i := 11) rfl)) (hw _ (List.mem_of_getElem? (i := 12) rfl)) (by decide) (W := 0) rfl (lenOf pd_0 rfl) rfl rfl (Nat.le_refl 0) (by decide) (by decide) (by decide) (by decide) at_234 rfl ?_
  rintro _ h1 ⟨rfl, O1⟩
  have O1 : Hp h1 n0 [(D, ArC Z kd .long []), (A, ArC Z ka .long []), (B, ArC Z kb .long []), (F, ArC Z kf .long [(.long f0), (.long f1), (.long f2)]), (L, ArC Z kl .long [(.long l0), (.long l1), (.long l2)]), (G, ArC Z kg .long [(.long g0), (.long g1), (.long g2)])] := O1
  show Wp _ _ _ _ _ _ _ _ _ _ _ _ 237 #[.val (.long b0), .second, .val (.long b1), .second, .val (.long b2), .second, .val (.int sp), .val (.int po), .val (.int fg), .val (.int (0 : Int32)), .val (.ref F), .val (.ref L), .val (.ref G), .val (.ref D), .val (.ref A), .val (.ref B), .val (.int (-1 : Int32)), .unset, .unset] [.null]
  refine Wp.astore (L' := #[.val (.long b0), .second, .val (.long b1), .second, .val (.long b2), .second, .val (.int sp), .val (.int po), .val (.int fg), .val (.int (0 : Int32)), .val (.ref F), .val (.ref L), .val (.ref G), .val (.ref D), .val (.ref A), .val (.ref B), .val (.int (-1 : Int32)), .val .null, .unset]) (pc' := 239) at_237 rfl rfl rfl ?_
  refine Wp.aload (pc' := 241) at_239 rfl rfl rfl ?_
  refine Wp.aload (pc' := 243) at_241 rfl rfl rfl ?_
  refine Wp.iload (pc' := 245) at_243 rfl rfl ?_
  have O2 : Hp h1 n0 [(F, ArC Z kf .long [(.long f0), (.long f1), (.long f2)]), (D, ArC Z kd .long []), (A, ArC Z ka .long []), (B, ArC Z kb .long []), (L, ArC Z kl .long [(.long l0), (.long l1), (.long l2)]), (G, ArC Z kg .long [(.long g0), (.long g1), (.long g2)])] := Hp.front (LA := [_, _, _]) O1
  have O3 : Hp h1 n0 [(A, ArC Z ka .long []), (F, ArC Z kf .long [(.long f0), (.long f1), (.long f2)]), (D, ArC Z kd .long []), (B, ArC Z kb .long []), (L, ArC Z kl .long [(.long l0), (.long l1), (.long l2)]), (G, ArC Z kg .long [(.long g0), (.long g1), (.long g2)])] := Hp.front (LA := [_, _]) O2
  refine Wp.callS (yy := (⟨"com/example/keyed_tensor/keyedtensor/array/DatasetNextGridPositionPinLaw", "same", "([J[JI)Z"⟩ : MethodName)) (pc' := 248) (argsL := [(.ref A), (.ref F), (.int (0 : Int32))]) (S := []) (rm_sm0 l Z a0 hw A F ka kf f0 f1 f2 h1 n0 O3) (hw _ (List.mem_of_getElem? (i := 13) rfl)) (hw _ (List.mem_of_getElem? (i := 14) rfl)) (hw _ (List.mem_of_getElem? (i := 3) rfl)) (hw _ (List.mem_of_getElem? (i := 15) rfl)) (by decide) (W := 0) rfl (lenOf pd_1 rfl) rfl rfl (Nat.le_refl 0) (by decide) (by decide) (by decide) (by decide) at_245 rfl ?_
  rintro _ _ ⟨rfl, rfl⟩
  show Wp _ _ _ _ _ _ _ _ _ _ _ _ 248 #[.val (.long b0), .second, .val (.long b1), .second, .val (.long b2), .second, .val (.int sp), .val (.int po), .val (.int fg), .val (.int (0 : Int32)), .val (.ref F), .val (.ref L), .val (.ref G), .val (.ref D), .val (.ref A), .val (.ref B), .val (.int (-1 : Int32)), .val .null, .unset] [(.int (1 : Int32))]
  refine Wp.ifN (pc' := 251) at_248 (by decide) rfl ?_
  refine Wp.aload (pc' := 253) at_251 rfl rfl rfl ?_
  refine Wp.aload (pc' := 255) at_253 rfl rfl rfl ?_
  refine Wp.iload (pc' := 257) at_255 rfl rfl ?_
  have O4 : Hp h1 n0 [(L, ArC Z kl .long [(.long l0), (.long l1), (.long l2)]), (A, ArC Z ka .long []), (F, ArC Z kf .long [(.long f0), (.long f1), (.long f2)]), (D, ArC Z kd .long []), (B, ArC Z kb .long []), (G, ArC Z kg .long [(.long g0), (.long g1), (.long g2)])] := Hp.front (LA := [_, _, _, _]) O3
  have O5 : Hp h1 n0 [(B, ArC Z kb .long []), (L, ArC Z kl .long [(.long l0), (.long l1), (.long l2)]), (A, ArC Z ka .long []), (F, ArC Z kf .long [(.long f0), (.long f1), (.long f2)]), (D, ArC Z kd .long []), (G, ArC Z kg .long [(.long g0), (.long g1), (.long g2)])] := Hp.front (LA := [_, _, _, _]) O4
  refine Wp.callS (yy := (⟨"com/example/keyed_tensor/keyedtensor/array/DatasetNextGridPositionPinLaw", "same", "([J[JI)Z"⟩ : MethodName)) (pc' := 260) (argsL := [(.ref B), (.ref L), (.int (0 : Int32))]) (S := []) (rm_sm0 l Z a0 hw B L kb kl l0 l1 l2 h1 n0 O5) (hw _ (List.mem_of_getElem? (i := 13) rfl)) (hw _ (List.mem_of_getElem? (i := 14) rfl)) (hw _ (List.mem_of_getElem? (i := 3) rfl)) (hw _ (List.mem_of_getElem? (i := 15) rfl)) (by decide) (W := 0) rfl (lenOf pd_1 rfl) rfl rfl (Nat.le_refl 0) (by decide) (by decide) (by decide) (by decide) at_257 rfl ?_
  rintro _ _ ⟨rfl, rfl⟩
  show Wp _ _ _ _ _ _ _ _ _ _ _ _ 260 #[.val (.long b0), .second, .val (.long b1), .second, .val (.long b2), .second, .val (.int sp), .val (.int po), .val (.int fg), .val (.int (0 : Int32)), .val (.ref F), .val (.ref L), .val (.ref G), .val (.ref D), .val (.ref A), .val (.ref B), .val (.int (-1 : Int32)), .val .null, .unset] [(.int (1 : Int32))]
  refine Wp.ifN (pc' := 263) at_260 (by decide) rfl ?_
  refine Wp.iconst (z := (1 : Int32)) (pc' := 264) at_263 (by decide) rfl ?_
  refine Wp.goto (pc' := 268) at_264 (by decide) (by decide) ?_
  refine Wp.istore (L' := #[.val (.long b0), .second, .val (.long b1), .second, .val (.long b2), .second, .val (.int sp), .val (.int po), .val (.int fg), .val (.int (0 : Int32)), .val (.ref F), .val (.ref L), .val (.ref G), .val (.ref D), .val (.ref A), .val (.ref B), .val (.int (-1 : Int32)), .val .null, .val (.int (1 : Int32))]) (pc' := 270) at_268 rfl rfl ?_
  refine Wp.iload (pc' := 272) at_270 rfl rfl ?_
  refine Wp.ifN (pc' := 275) at_272 (not_not_intro (by decide)) rfl ?_
  refine Wp.aload (pc' := 277) at_275 rfl rfl rfl ?_
  refine Wp.ifnonnullN (pc' := 280) at_277 rfl ?_
  refine Wp.iload (pc' := 282) at_280 rfl rfl ?_
  refine Wp.ifN (pc' := 285) at_282 (by decide) rfl ?_
  refine Wp.iconst (z := (1 : Int32)) (pc' := 286) at_285 (by decide) rfl ?_
  refine Wp.goto (pc' := 290) at_286 (by decide) (by decide) ?_
  exact Wp.retS (t := .boolean) rfl (Or.inl rfl) rfl at_290 (by decide) (by decide) rfl

set_option maxRecDepth 65536 in
set_option maxHeartbeats 40000000 in
theorem tt_10 (l : Launch) (Z : State) (a0 : Array Value) (hw : ∀ d ∈ tables_1, d.before a0 Z = true) (b0 b1 b2 : Int64) (sp po fg : Int32) (F L G : Addr) (kf kl kg : ClassId) (f0 l0 g0 f1 l1 g1 f2 l2 g2 : Int64) (D A B : Addr) (kd ka kb : ClassId) (hc0 : ¬ g0 < l0) (h : Heap) (n0 : Nat) (O : Hp h n0 [(D, ArC Z kd .long [(.long g0)]), (A, ArC Z ka .long [(.long f0)]), (B, ArC Z kb .long [(.long l0)]), (F, ArC Z kf .long [(.long f0), (.long f1), (.long f2)]), (L, ArC Z kl .long [(.long l0), (.long l1), (.long l2)]), (G, ArC Z kg .long [(.long g0), (.long g1), (.long g2)])]) :
    Wp l Z room_1 x code maxLocals ret n0 (fun v _ => v = some (.int 1)) h 6 12 226 #[.val (.long b0), .second, .val (.long b1), .second, .val (.long b2), .second, .val (.int sp), .val (.int po), .val (.int fg), .val (.int (1 : Int32)), .val (.ref F), .val (.ref L), .val (.ref G), .val (.ref D), .val (.ref A), .val (.ref B), .unset, .unset, .unset] [(.int (-1 : Int32))] := by
  refine Wp.istore (L' := #[.val (.long b0), .second, .val (.long b1), .second, .val (.long b2), .second, .val (.int sp), .val (.int po), .val (.int fg), .val (.int (1 : Int32)), .val (.ref F), .val (.ref L), .val (.ref G), .val (.ref D), .val (.ref A), .val (.ref B), .val (.int (-1 : Int32)), .unset, .unset]) (pc' := 228) at_226 rfl rfl ?_
  refine Wp.aload (pc' := 230) at_228 rfl rfl rfl ?_
  refine Wp.aload (pc' := 232) at_230 rfl rfl rfl ?_
  refine Wp.aload (pc' := 234) at_232 rfl rfl rfl ?_
  refine Wp.callS (yy := (⟨"com/example/keyed_tensor/keyedtensor/array/Dataset", "nextGridPosition", "([J[J[J)[J"⟩ : MethodName)) (pc' := 237) (argsL := [(.ref D), (.ref A), (.ref B)]) (S := []) (rm_nx10 l Z a0 hw D A B kd ka kb f0 l0 g0 hc0 h n0 O) (hw _ (List.mem_of_getElem? (i := 9) rfl)) (hw _ (List.mem_of_getElem? (i := 10) rfl)) (hw _ (List.mem_of_getElem? (i := 11) rfl)) (hw _ (List.mem_of_getElem? (i := 12) rfl)) (by decide) (W := 0) rfl (lenOf pd_0 rfl) rfl rfl (Nat.le_refl 0) (by decide) (by decide) (by decide) (by decide) at_234 rfl ?_
  rintro _ h1 ⟨rfl, O1⟩
  have O1 : Hp h1 n0 [(D, ArC Z kd .long [(.long f0)]), (A, ArC Z ka .long [(.long f0)]), (B, ArC Z kb .long [(.long l0)]), (F, ArC Z kf .long [(.long f0), (.long f1), (.long f2)]), (L, ArC Z kl .long [(.long l0), (.long l1), (.long l2)]), (G, ArC Z kg .long [(.long g0), (.long g1), (.long g2)])] := O1
  show Wp _ _ _ _ _ _ _ _ _ _ _ _ 237 #[.val (.long b0), .second, .val (.long b1), .second, .val (.long b2), .second, .val (.int sp), .val (.int po), .val (.int fg), .val (.int (1 : Int32)), .val (.ref F), .val (.ref L), .val (.ref G), .val (.ref D), .val (.ref A), .val (.ref B), .val (.int (-1 : Int32)), .unset, .unset] [.null]
  refine Wp.astore (L' := #[.val (.long b0), .second, .val (.long b1), .second, .val (.long b2), .second, .val (.int sp), .val (.int po), .val (.int fg), .val (.int (1 : Int32)), .val (.ref F), .val (.ref L), .val (.ref G), .val (.ref D), .val (.ref A), .val (.ref B), .val (.int (-1 : Int32)), .val .null, .unset]) (pc' := 239) at_237 rfl rfl rfl ?_
  refine Wp.aload (pc' := 241) at_239 rfl rfl rfl ?_
  refine Wp.aload (pc' := 243) at_241 rfl rfl rfl ?_
  refine Wp.iload (pc' := 245) at_243 rfl rfl ?_
  have O2 : Hp h1 n0 [(F, ArC Z kf .long [(.long f0), (.long f1), (.long f2)]), (D, ArC Z kd .long [(.long f0)]), (A, ArC Z ka .long [(.long f0)]), (B, ArC Z kb .long [(.long l0)]), (L, ArC Z kl .long [(.long l0), (.long l1), (.long l2)]), (G, ArC Z kg .long [(.long g0), (.long g1), (.long g2)])] := Hp.front (LA := [_, _, _]) O1
  have O3 : Hp h1 n0 [(A, ArC Z ka .long [(.long f0)]), (F, ArC Z kf .long [(.long f0), (.long f1), (.long f2)]), (D, ArC Z kd .long [(.long f0)]), (B, ArC Z kb .long [(.long l0)]), (L, ArC Z kl .long [(.long l0), (.long l1), (.long l2)]), (G, ArC Z kg .long [(.long g0), (.long g1), (.long g2)])] := Hp.front (LA := [_, _]) O2
  refine Wp.callS (yy := (⟨"com/example/keyed_tensor/keyedtensor/array/DatasetNextGridPositionPinLaw", "same", "([J[JI)Z"⟩ : MethodName)) (pc' := 248) (argsL := [(.ref A), (.ref F), (.int (1 : Int32))]) (S := []) (rm_sm1 l Z a0 hw A F ka kf f0 f1 f2 h1 n0 O3) (hw _ (List.mem_of_getElem? (i := 13) rfl)) (hw _ (List.mem_of_getElem? (i := 14) rfl)) (hw _ (List.mem_of_getElem? (i := 3) rfl)) (hw _ (List.mem_of_getElem? (i := 15) rfl)) (by decide) (W := 0) rfl (lenOf pd_1 rfl) rfl rfl (Nat.le_refl 0) (by decide) (by decide) (by decide) (by decide) at_245 rfl ?_
  rintro _ _ ⟨rfl, rfl⟩
  show Wp _ _ _ _ _ _ _ _ _ _ _ _ 248 #[.val (.long b0), .second, .val (.long b1), .second, .val (.long b2), .second, .val (.int sp), .val (.int po), .val (.int fg), .val (.int (1 : Int32)), .val (.ref F), .val (.ref L), .val (.ref G), .val (.ref D), .val (.ref A), .val (.ref B), .val (.int (-1 : Int32)), .val .null, .unset] [(.int (1 : Int32))]
  refine Wp.ifN (pc' := 251) at_248 (by decide) rfl ?_
  refine Wp.aload (pc' := 253) at_251 rfl rfl rfl ?_
  refine Wp.aload (pc' := 255) at_253 rfl rfl rfl ?_
  refine Wp.iload (pc' := 257) at_255 rfl rfl ?_
  have O4 : Hp h1 n0 [(L, ArC Z kl .long [(.long l0), (.long l1), (.long l2)]), (A, ArC Z ka .long [(.long f0)]), (F, ArC Z kf .long [(.long f0), (.long f1), (.long f2)]), (D, ArC Z kd .long [(.long f0)]), (B, ArC Z kb .long [(.long l0)]), (G, ArC Z kg .long [(.long g0), (.long g1), (.long g2)])] := Hp.front (LA := [_, _, _, _]) O3
  have O5 : Hp h1 n0 [(B, ArC Z kb .long [(.long l0)]), (L, ArC Z kl .long [(.long l0), (.long l1), (.long l2)]), (A, ArC Z ka .long [(.long f0)]), (F, ArC Z kf .long [(.long f0), (.long f1), (.long f2)]), (D, ArC Z kd .long [(.long f0)]), (G, ArC Z kg .long [(.long g0), (.long g1), (.long g2)])] := Hp.front (LA := [_, _, _, _]) O4
  refine Wp.callS (yy := (⟨"com/example/keyed_tensor/keyedtensor/array/DatasetNextGridPositionPinLaw", "same", "([J[JI)Z"⟩ : MethodName)) (pc' := 260) (argsL := [(.ref B), (.ref L), (.int (1 : Int32))]) (S := []) (rm_sm1 l Z a0 hw B L kb kl l0 l1 l2 h1 n0 O5) (hw _ (List.mem_of_getElem? (i := 13) rfl)) (hw _ (List.mem_of_getElem? (i := 14) rfl)) (hw _ (List.mem_of_getElem? (i := 3) rfl)) (hw _ (List.mem_of_getElem? (i := 15) rfl)) (by decide) (W := 0) rfl (lenOf pd_1 rfl) rfl rfl (Nat.le_refl 0) (by decide) (by decide) (by decide) (by decide) at_257 rfl ?_
  rintro _ _ ⟨rfl, rfl⟩
  show Wp _ _ _ _ _ _ _ _ _ _ _ _ 260 #[.val (.long b0), .second, .val (.long b1), .second, .val (.long b2), .second, .val (.int sp), .val (.int po), .val (.int fg), .val (.int (1 : Int32)), .val (.ref F), .val (.ref L), .val (.ref G), .val (.ref D), .val (.ref A), .val (.ref B), .val (.int (-1 : Int32)), .val .null, .unset] [(.int (1 : Int32))]
  refine Wp.ifN (pc' := 263) at_260 (by decide) rfl ?_
  refine Wp.iconst (z := (1 : Int32)) (pc' := 264) at_263 (by decide) rfl ?_
  refine Wp.goto (pc' := 268) at_264 (by decide) (by decide) ?_
  refine Wp.istore (L' := #[.val (.long b0), .second, .val (.long b1), .second, .val (.long b2), .second, .val (.int sp), .val (.int po), .val (.int fg), .val (.int (1 : Int32)), .val (.ref F), .val (.ref L), .val (.ref G), .val (.ref D), .val (.ref A), .val (.ref B), .val (.int (-1 : Int32)), .val .null, .val (.int (1 : Int32))]) (pc' := 270) at_268 rfl rfl ?_
  refine Wp.iload (pc' := 272) at_270 rfl rfl ?_
  refine Wp.ifN (pc' := 275) at_272 (not_not_intro (by decide)) rfl ?_
  refine Wp.aload (pc' := 277) at_275 rfl rfl rfl ?_
  refine Wp.ifnonnullN (pc' := 280) at_277 rfl ?_
  refine Wp.iload (pc' := 282) at_280 rfl rfl ?_
  refine Wp.ifN (pc' := 285) at_282 (by decide) rfl ?_
  refine Wp.iconst (z := (1 : Int32)) (pc' := 286) at_285 (by decide) rfl ?_
  refine Wp.goto (pc' := 290) at_286 (by decide) (by decide) ?_
  exact Wp.retS (t := .boolean) rfl (Or.inl rfl) rfl at_290 (by decide) (by decide) rfl

set_option maxRecDepth 65536 in
set_option maxHeartbeats 40000000 in
theorem tt_11 (l : Launch) (Z : State) (a0 : Array Value) (hw : ∀ d ∈ tables_1, d.before a0 Z = true) (b0 b1 b2 : Int64) (sp po fg : Int32) (F L G : Addr) (kf kl kg : ClassId) (f0 l0 g0 f1 l1 g1 f2 l2 g2 : Int64) (D A B : Addr) (kd ka kb : ClassId) (hc0 : g0 < l0) (h : Heap) (n0 : Nat) (O : Hp h n0 [(D, ArC Z kd .long [(.long g0)]), (A, ArC Z ka .long [(.long f0)]), (B, ArC Z kb .long [(.long l0)]), (F, ArC Z kf .long [(.long f0), (.long f1), (.long f2)]), (L, ArC Z kl .long [(.long l0), (.long l1), (.long l2)]), (G, ArC Z kg .long [(.long g0), (.long g1), (.long g2)])]) :
    Wp l Z room_1 x code maxLocals ret n0 (fun v _ => v = some (.int 1)) h 6 12 226 #[.val (.long b0), .second, .val (.long b1), .second, .val (.long b2), .second, .val (.int sp), .val (.int po), .val (.int fg), .val (.int (1 : Int32)), .val (.ref F), .val (.ref L), .val (.ref G), .val (.ref D), .val (.ref A), .val (.ref B), .unset, .unset, .unset] [(.int (0 : Int32))] := by
  refine Wp.istore (L' := #[.val (.long b0), .second, .val (.long b1), .second, .val (.long b2), .second, .val (.int sp), .val (.int po), .val (.int fg), .val (.int (1 : Int32)), .val (.ref F), .val (.ref L), .val (.ref G), .val (.ref D), .val (.ref A), .val (.ref B), .val (.int (0 : Int32)), .unset, .unset]) (pc' := 228) at_226 rfl rfl ?_
  refine Wp.aload (pc' := 230) at_228 rfl rfl rfl ?_
  refine Wp.aload (pc' := 232) at_230 rfl rfl rfl ?_
  refine Wp.aload (pc' := 234) at_232 rfl rfl rfl ?_
  refine Wp.callS (yy := (⟨"com/example/keyed_tensor/keyedtensor/array/Dataset", "nextGridPosition", "([J[J[J)[J"⟩ : MethodName)) (pc' := 237) (argsL := [(.ref D), (.ref A), (.ref B)]) (S := []) (rm_nx11 l Z a0 hw D A B kd ka kb f0 l0 g0 hc0 h n0 O) (hw _ (List.mem_of_getElem? (i := 9) rfl)) (hw _ (List.mem_of_getElem? (i := 10) rfl)) (hw _ (List.mem_of_getElem? (i := 11) rfl)) (hw _ (List.mem_of_getElem? (i := 12) rfl)) (by decide) (W := 0) rfl (lenOf pd_0 rfl) rfl rfl (Nat.le_refl 0) (by decide) (by decide) (by decide) (by decide) at_234 rfl ?_
  rintro _ h1 ⟨rfl, O1⟩
  have O1 : Hp h1 n0 [(D, ArC Z kd .long [(.long (g0 + (1 : Int64)))]), (A, ArC Z ka .long [(.long f0)]), (B, ArC Z kb .long [(.long l0)]), (F, ArC Z kf .long [(.long f0), (.long f1), (.long f2)]), (L, ArC Z kl .long [(.long l0), (.long l1), (.long l2)]), (G, ArC Z kg .long [(.long g0), (.long g1), (.long g2)])] := O1
  show Wp _ _ _ _ _ _ _ _ _ _ _ _ 237 #[.val (.long b0), .second, .val (.long b1), .second, .val (.long b2), .second, .val (.int sp), .val (.int po), .val (.int fg), .val (.int (1 : Int32)), .val (.ref F), .val (.ref L), .val (.ref G), .val (.ref D), .val (.ref A), .val (.ref B), .val (.int (0 : Int32)), .unset, .unset] [(.ref D)]
  refine Wp.astore (L' := #[.val (.long b0), .second, .val (.long b1), .second, .val (.long b2), .second, .val (.int sp), .val (.int po), .val (.int fg), .val (.int (1 : Int32)), .val (.ref F), .val (.ref L), .val (.ref G), .val (.ref D), .val (.ref A), .val (.ref B), .val (.int (0 : Int32)), .val (.ref D), .unset]) (pc' := 239) at_237 rfl rfl rfl ?_
  refine Wp.aload (pc' := 241) at_239 rfl rfl rfl ?_
  refine Wp.aload (pc' := 243) at_241 rfl rfl rfl ?_
  refine Wp.iload (pc' := 245) at_243 rfl rfl ?_
  have O2 : Hp h1 n0 [(F, ArC Z kf .long [(.long f0), (.long f1), (.long f2)]), (D, ArC Z kd .long [(.long (g0 + (1 : Int64)))]), (A, ArC Z ka .long [(.long f0)]), (B, ArC Z kb .long [(.long l0)]), (L, ArC Z kl .long [(.long l0), (.long l1), (.long l2)]), (G, ArC Z kg .long [(.long g0), (.long g1), (.long g2)])] := Hp.front (LA := [_, _, _]) O1
  have O3 : Hp h1 n0 [(A, ArC Z ka .long [(.long f0)]), (F, ArC Z kf .long [(.long f0), (.long f1), (.long f2)]), (D, ArC Z kd .long [(.long (g0 + (1 : Int64)))]), (B, ArC Z kb .long [(.long l0)]), (L, ArC Z kl .long [(.long l0), (.long l1), (.long l2)]), (G, ArC Z kg .long [(.long g0), (.long g1), (.long g2)])] := Hp.front (LA := [_, _]) O2
  refine Wp.callS (yy := (⟨"com/example/keyed_tensor/keyedtensor/array/DatasetNextGridPositionPinLaw", "same", "([J[JI)Z"⟩ : MethodName)) (pc' := 248) (argsL := [(.ref A), (.ref F), (.int (1 : Int32))]) (S := []) (rm_sm1 l Z a0 hw A F ka kf f0 f1 f2 h1 n0 O3) (hw _ (List.mem_of_getElem? (i := 13) rfl)) (hw _ (List.mem_of_getElem? (i := 14) rfl)) (hw _ (List.mem_of_getElem? (i := 3) rfl)) (hw _ (List.mem_of_getElem? (i := 15) rfl)) (by decide) (W := 0) rfl (lenOf pd_1 rfl) rfl rfl (Nat.le_refl 0) (by decide) (by decide) (by decide) (by decide) at_245 rfl ?_
  rintro _ _ ⟨rfl, rfl⟩
  show Wp _ _ _ _ _ _ _ _ _ _ _ _ 248 #[.val (.long b0), .second, .val (.long b1), .second, .val (.long b2), .second, .val (.int sp), .val (.int po), .val (.int fg), .val (.int (1 : Int32)), .val (.ref F), .val (.ref L), .val (.ref G), .val (.ref D), .val (.ref A), .val (.ref B), .val (.int (0 : Int32)), .val (.ref D), .unset] [(.int (1 : Int32))]
  refine Wp.ifN (pc' := 251) at_248 (by decide) rfl ?_
  refine Wp.aload (pc' := 253) at_251 rfl rfl rfl ?_
  refine Wp.aload (pc' := 255) at_253 rfl rfl rfl ?_
  refine Wp.iload (pc' := 257) at_255 rfl rfl ?_
  have O4 : Hp h1 n0 [(L, ArC Z kl .long [(.long l0), (.long l1), (.long l2)]), (A, ArC Z ka .long [(.long f0)]), (F, ArC Z kf .long [(.long f0), (.long f1), (.long f2)]), (D, ArC Z kd .long [(.long (g0 + (1 : Int64)))]), (B, ArC Z kb .long [(.long l0)]), (G, ArC Z kg .long [(.long g0), (.long g1), (.long g2)])] := Hp.front (LA := [_, _, _, _]) O3
  have O5 : Hp h1 n0 [(B, ArC Z kb .long [(.long l0)]), (L, ArC Z kl .long [(.long l0), (.long l1), (.long l2)]), (A, ArC Z ka .long [(.long f0)]), (F, ArC Z kf .long [(.long f0), (.long f1), (.long f2)]), (D, ArC Z kd .long [(.long (g0 + (1 : Int64)))]), (G, ArC Z kg .long [(.long g0), (.long g1), (.long g2)])] := Hp.front (LA := [_, _, _, _]) O4
  refine Wp.callS (yy := (⟨"com/example/keyed_tensor/keyedtensor/array/DatasetNextGridPositionPinLaw", "same", "([J[JI)Z"⟩ : MethodName)) (pc' := 260) (argsL := [(.ref B), (.ref L), (.int (1 : Int32))]) (S := []) (rm_sm1 l Z a0 hw B L kb kl l0 l1 l2 h1 n0 O5) (hw _ (List.mem_of_getElem? (i := 13) rfl)) (hw _ (List.mem_of_getElem? (i := 14) rfl)) (hw _ (List.mem_of_getElem? (i := 3) rfl)) (hw _ (List.mem_of_getElem? (i := 15) rfl)) (by decide) (W := 0) rfl (lenOf pd_1 rfl) rfl rfl (Nat.le_refl 0) (by decide) (by decide) (by decide) (by decide) at_257 rfl ?_
  rintro _ _ ⟨rfl, rfl⟩
  show Wp _ _ _ _ _ _ _ _ _ _ _ _ 260 #[.val (.long b0), .second, .val (.long b1), .second, .val (.long b2), .second, .val (.int sp), .val (.int po), .val (.int fg), .val (.int (1 : Int32)), .val (.ref F), .val (.ref L), .val (.ref G), .val (.ref D), .val (.ref A), .val (.ref B), .val (.int (0 : Int32)), .val (.ref D), .unset] [(.int (1 : Int32))]
  refine Wp.ifN (pc' := 263) at_260 (by decide) rfl ?_
  refine Wp.iconst (z := (1 : Int32)) (pc' := 264) at_263 (by decide) rfl ?_
  refine Wp.goto (pc' := 268) at_264 (by decide) (by decide) ?_
  refine Wp.istore (L' := #[.val (.long b0), .second, .val (.long b1), .second, .val (.long b2), .second, .val (.int sp), .val (.int po), .val (.int fg), .val (.int (1 : Int32)), .val (.ref F), .val (.ref L), .val (.ref G), .val (.ref D), .val (.ref A), .val (.ref B), .val (.int (0 : Int32)), .val (.ref D), .val (.int (1 : Int32))]) (pc' := 270) at_268 rfl rfl ?_
  refine Wp.iload (pc' := 272) at_270 rfl rfl ?_
  refine Wp.ifY (pc' := 291) at_272 (by decide) (by decide) (by decide) ?_
  refine Wp.aload (pc' := 293) at_291 rfl rfl rfl ?_
  refine Wp.aload (pc' := 295) at_293 rfl rfl rfl ?_
  refine Wp.acmpY (pc' := 300) at_295 rfl rfl (by simp [Free.XT.acmp]) (by decide) (by decide) ?_
  refine Wp.aload (pc' := 302) at_300 rfl rfl rfl ?_
  refine Wp.iconst (z := (0 : Int32)) (pc' := 303) at_302 (by decide) rfl ?_
  refine Wp.iload (pc' := 305) at_303 rfl rfl ?_
  refine Wp.iload (pc' := 307) at_305 rfl rfl ?_
  refine Wp.aload (pc' := 309) at_307 rfl rfl rfl ?_
  refine Wp.aload (pc' := 311) at_309 rfl rfl rfl ?_
  have O6 : Hp h1 n0 [(G, ArC Z kg .long [(.long g0), (.long g1), (.long g2)]), (B, ArC Z kb .long [(.long l0)]), (L, ArC Z kl .long [(.long l0), (.long l1), (.long l2)]), (A, ArC Z ka .long [(.long f0)]), (F, ArC Z kf .long [(.long f0), (.long f1), (.long f2)]), (D, ArC Z kd .long [(.long (g0 + (1 : Int64)))])] := Hp.front (LA := [_, _, _, _, _]) O5
  have O7 : Hp h1 n0 [(F, ArC Z kf .long [(.long f0), (.long f1), (.long f2)]), (G, ArC Z kg .long [(.long g0), (.long g1), (.long g2)]), (B, ArC Z kb .long [(.long l0)]), (L, ArC Z kl .long [(.long l0), (.long l1), (.long l2)]), (A, ArC Z ka .long [(.long f0)]), (D, ArC Z kd .long [(.long (g0 + (1 : Int64)))])] := Hp.front (LA := [_, _, _, _]) O6
  have O8 : Hp h1 n0 [(D, ArC Z kd .long [(.long (g0 + (1 : Int64)))]), (F, ArC Z kf .long [(.long f0), (.long f1), (.long f2)]), (G, ArC Z kg .long [(.long g0), (.long g1), (.long g2)]), (B, ArC Z kb .long [(.long l0)]), (L, ArC Z kl .long [(.long l0), (.long l1), (.long l2)]), (A, ArC Z ka .long [(.long f0)])] := Hp.front (LA := [_, _, _, _, _]) O7
  refine Wp.callS (yy := (⟨"com/example/keyed_tensor/keyedtensor/array/DatasetNextGridPositionPinLaw", "at", "([JIII[J[J)Z"⟩ : MethodName)) (pc' := 314) (argsL := [(.ref D), (.int (0 : Int32)), (.int (1 : Int32)), (.int (0 : Int32)), (.ref F), (.ref G)]) (S := []) (rm_ate l Z a0 hw D F G kd kf kg [(.long (g0 + (1 : Int64)))] [(.long f0), (.long f1), (.long f2)] [(.long g0), (.long g1), (.long g2)] (0 : Int32) (1 : Int32) (0 : Int32) (by decide) (by decide) 0 rfl g0 rfl rfl (by decide) rfl h1 n0 O8) (hw _ (List.mem_of_getElem? (i := 16) rfl)) (hw _ (List.mem_of_getElem? (i := 17) rfl)) (hw _ (List.mem_of_getElem? (i := 3) rfl)) (hw _ (List.mem_of_getElem? (i := 18) rfl)) (by decide) (W := 0) rfl (lenOf pd_3 rfl) rfl rfl (Nat.le_refl 0) (by decide) (by decide) (by decide) (by decide) at_311 rfl ?_
  rintro _ _ ⟨rfl, rfl⟩
  show Wp _ _ _ _ _ _ _ _ _ _ _ _ 314 #[.val (.long b0), .second, .val (.long b1), .second, .val (.long b2), .second, .val (.int sp), .val (.int po), .val (.int fg), .val (.int (1 : Int32)), .val (.ref F), .val (.ref L), .val (.ref G), .val (.ref D), .val (.ref A), .val (.ref B), .val (.int (0 : Int32)), .val (.ref D), .val (.int (1 : Int32))] [(.int (1 : Int32))]
  refine Wp.ifN (pc' := 317) at_314 (by decide) rfl ?_
  refine Wp.aload (pc' := 319) at_317 rfl rfl rfl ?_
  refine Wp.iconst (z := (1 : Int32)) (pc' := 320) at_319 (by decide) rfl ?_
  refine Wp.iload (pc' := 322) at_320 rfl rfl ?_
  refine Wp.iload (pc' := 324) at_322 rfl rfl ?_
  refine Wp.aload (pc' := 326) at_324 rfl rfl rfl ?_
  refine Wp.aload (pc' := 328) at_326 rfl rfl rfl ?_
  have O9 : Hp h1 n0 [(G, ArC Z kg .long [(.long g0), (.long g1), (.long g2)]), (D, ArC Z kd .long [(.long (g0 + (1 : Int64)))]), (F, ArC Z kf .long [(.long f0), (.long f1), (.long f2)]), (B, ArC Z kb .long [(.long l0)]), (L, ArC Z kl .long [(.long l0), (.long l1), (.long l2)]), (A, ArC Z ka .long [(.long f0)])] := Hp.front (LA := [_, _]) O8
  have O10 : Hp h1 n0 [(F, ArC Z kf .long [(.long f0), (.long f1), (.long f2)]), (G, ArC Z kg .long [(.long g0), (.long g1), (.long g2)]), (D, ArC Z kd .long [(.long (g0 + (1 : Int64)))]), (B, ArC Z kb .long [(.long l0)]), (L, ArC Z kl .long [(.long l0), (.long l1), (.long l2)]), (A, ArC Z ka .long [(.long f0)])] := Hp.front (LA := [_, _]) O9
  have O11 : Hp h1 n0 [(D, ArC Z kd .long [(.long (g0 + (1 : Int64)))]), (F, ArC Z kf .long [(.long f0), (.long f1), (.long f2)]), (G, ArC Z kg .long [(.long g0), (.long g1), (.long g2)]), (B, ArC Z kb .long [(.long l0)]), (L, ArC Z kl .long [(.long l0), (.long l1), (.long l2)]), (A, ArC Z ka .long [(.long f0)])] := Hp.front (LA := [_, _]) O10
  refine Wp.callS (yy := (⟨"com/example/keyed_tensor/keyedtensor/array/DatasetNextGridPositionPinLaw", "at", "([JIII[J[J)Z"⟩ : MethodName)) (pc' := 331) (argsL := [(.ref D), (.int (1 : Int32)), (.int (1 : Int32)), (.int (0 : Int32)), (.ref F), (.ref G)]) (S := []) (rm_ato l Z a0 hw D F G kd kf kg [(.long (g0 + (1 : Int64)))] [(.long f0), (.long f1), (.long f2)] [(.long g0), (.long g1), (.long g2)] (1 : Int32) (1 : Int32) (0 : Int32) (by decide) h1 n0 O11) (hw _ (List.mem_of_getElem? (i := 16) rfl)) (hw _ (List.mem_of_getElem? (i := 17) rfl)) (hw _ (List.mem_of_getElem? (i := 3) rfl)) (hw _ (List.mem_of_getElem? (i := 18) rfl)) (by decide) (W := 0) rfl (lenOf pd_3 rfl) rfl rfl (Nat.le_refl 0) (by decide) (by decide) (by decide) (by decide) at_328 rfl ?_
  rintro _ _ ⟨rfl, rfl⟩
  show Wp _ _ _ _ _ _ _ _ _ _ _ _ 331 #[.val (.long b0), .second, .val (.long b1), .second, .val (.long b2), .second, .val (.int sp), .val (.int po), .val (.int fg), .val (.int (1 : Int32)), .val (.ref F), .val (.ref L), .val (.ref G), .val (.ref D), .val (.ref A), .val (.ref B), .val (.int (0 : Int32)), .val (.ref D), .val (.int (1 : Int32))] [(.int (1 : Int32))]
  refine Wp.ifN (pc' := 334) at_331 (by decide) rfl ?_
  refine Wp.aload (pc' := 336) at_334 rfl rfl rfl ?_
  refine Wp.iconst (z := (2 : Int32)) (pc' := 337) at_336 (by decide) rfl ?_
  refine Wp.iload (pc' := 339) at_337 rfl rfl ?_
  refine Wp.iload (pc' := 341) at_339 rfl rfl ?_
  refine Wp.aload (pc' := 343) at_341 rfl rfl rfl ?_
  refine Wp.aload (pc' := 345) at_343 rfl rfl rfl ?_
  have O12 : Hp h1 n0 [(G, ArC Z kg .long [(.long g0), (.long g1), (.long g2)]), (D, ArC Z kd .long [(.long (g0 + (1 : Int64)))]), (F, ArC Z kf .long [(.long f0), (.long f1), (.long f2)]), (B, ArC Z kb .long [(.long l0)]), (L, ArC Z kl .long [(.long l0), (.long l1), (.long l2)]), (A, ArC Z ka .long [(.long f0)])] := Hp.front (LA := [_, _]) O11
  have O13 : Hp h1 n0 [(F, ArC Z kf .long [(.long f0), (.long f1), (.long f2)]), (G, ArC Z kg .long [(.long g0), (.long g1), (.long g2)]), (D, ArC Z kd .long [(.long (g0 + (1 : Int64)))]), (B, ArC Z kb .long [(.long l0)]), (L, ArC Z kl .long [(.long l0), (.long l1), (.long l2)]), (A, ArC Z ka .long [(.long f0)])] := Hp.front (LA := [_, _]) O12
  have O14 : Hp h1 n0 [(D, ArC Z kd .long [(.long (g0 + (1 : Int64)))]), (F, ArC Z kf .long [(.long f0), (.long f1), (.long f2)]), (G, ArC Z kg .long [(.long g0), (.long g1), (.long g2)]), (B, ArC Z kb .long [(.long l0)]), (L, ArC Z kl .long [(.long l0), (.long l1), (.long l2)]), (A, ArC Z ka .long [(.long f0)])] := Hp.front (LA := [_, _]) O13
  refine Wp.callS (yy := (⟨"com/example/keyed_tensor/keyedtensor/array/DatasetNextGridPositionPinLaw", "at", "([JIII[J[J)Z"⟩ : MethodName)) (pc' := 348) (argsL := [(.ref D), (.int (2 : Int32)), (.int (1 : Int32)), (.int (0 : Int32)), (.ref F), (.ref G)]) (S := []) (rm_ato l Z a0 hw D F G kd kf kg [(.long (g0 + (1 : Int64)))] [(.long f0), (.long f1), (.long f2)] [(.long g0), (.long g1), (.long g2)] (2 : Int32) (1 : Int32) (0 : Int32) (by decide) h1 n0 O14) (hw _ (List.mem_of_getElem? (i := 16) rfl)) (hw _ (List.mem_of_getElem? (i := 17) rfl)) (hw _ (List.mem_of_getElem? (i := 3) rfl)) (hw _ (List.mem_of_getElem? (i := 18) rfl)) (by decide) (W := 0) rfl (lenOf pd_3 rfl) rfl rfl (Nat.le_refl 0) (by decide) (by decide) (by decide) (by decide) at_345 rfl ?_
  rintro _ _ ⟨rfl, rfl⟩
  show Wp _ _ _ _ _ _ _ _ _ _ _ _ 348 #[.val (.long b0), .second, .val (.long b1), .second, .val (.long b2), .second, .val (.int sp), .val (.int po), .val (.int fg), .val (.int (1 : Int32)), .val (.ref F), .val (.ref L), .val (.ref G), .val (.ref D), .val (.ref A), .val (.ref B), .val (.int (0 : Int32)), .val (.ref D), .val (.int (1 : Int32))] [(.int (1 : Int32))]
  refine Wp.ifN (pc' := 351) at_348 (by decide) rfl ?_
  refine Wp.iload (pc' := 353) at_351 rfl rfl ?_
  refine Wp.ifN (pc' := 356) at_353 (by decide) rfl ?_
  refine Wp.iconst (z := (1 : Int32)) (pc' := 357) at_356 (by decide) rfl ?_
  refine Wp.goto (pc' := 361) at_357 (by decide) (by decide) ?_
  exact Wp.retS (t := .boolean) rfl (Or.inl rfl) rfl at_361 (by decide) (by decide) rfl

set_option maxRecDepth 65536 in
set_option maxHeartbeats 40000000 in
theorem tt_20 (l : Launch) (Z : State) (a0 : Array Value) (hw : ∀ d ∈ tables_1, d.before a0 Z = true) (b0 b1 b2 : Int64) (sp po fg : Int32) (F L G : Addr) (kf kl kg : ClassId) (f0 l0 g0 f1 l1 g1 f2 l2 g2 : Int64) (D A B : Addr) (kd ka kb : ClassId) (hc0 : ¬ g0 < l0) (hc1 : ¬ g1 < l1) (h : Heap) (n0 : Nat) (O : Hp h n0 [(D, ArC Z kd .long [(.long g0), (.long g1)]), (A, ArC Z ka .long [(.long f0), (.long f1)]), (B, ArC Z kb .long [(.long l0), (.long l1)]), (F, ArC Z kf .long [(.long f0), (.long f1), (.long f2)]), (L, ArC Z kl .long [(.long l0), (.long l1), (.long l2)]), (G, ArC Z kg .long [(.long g0), (.long g1), (.long g2)])]) :
    Wp l Z room_1 x code maxLocals ret n0 (fun v _ => v = some (.int 1)) h 6 15 226 #[.val (.long b0), .second, .val (.long b1), .second, .val (.long b2), .second, .val (.int sp), .val (.int po), .val (.int fg), .val (.int (2 : Int32)), .val (.ref F), .val (.ref L), .val (.ref G), .val (.ref D), .val (.ref A), .val (.ref B), .unset, .unset, .unset] [(.int (-1 : Int32))] := by
  refine Wp.istore (L' := #[.val (.long b0), .second, .val (.long b1), .second, .val (.long b2), .second, .val (.int sp), .val (.int po), .val (.int fg), .val (.int (2 : Int32)), .val (.ref F), .val (.ref L), .val (.ref G), .val (.ref D), .val (.ref A), .val (.ref B), .val (.int (-1 : Int32)), .unset, .unset]) (pc' := 228) at_226 rfl rfl ?_
  refine Wp.aload (pc' := 230) at_228 rfl rfl rfl ?_
  refine Wp.aload (pc' := 232) at_230 rfl rfl rfl ?_
  refine Wp.aload (pc' := 234) at_232 rfl rfl rfl ?_
  refine Wp.callS (yy := (⟨"com/example/keyed_tensor/keyedtensor/array/Dataset", "nextGridPosition", "([J[J[J)[J"⟩ : MethodName)) (pc' := 237) (argsL := [(.ref D), (.ref A), (.ref B)]) (S := []) (rm_nx20 l Z a0 hw D A B kd ka kb f0 l0 g0 f1 l1 g1 hc0 hc1 h n0 O) (hw _ (List.mem_of_getElem? (i := 9) rfl)) (hw _ (List.mem_of_getElem? (i := 10) rfl)) (hw _ (List.mem_of_getElem? (i := 11) rfl)) (hw _ (List.mem_of_getElem? (i := 12) rfl)) (by decide) (W := 0) rfl (lenOf pd_0 rfl) rfl rfl (Nat.le_refl 0) (by decide) (by decide) (by decide) (by decide) at_234 rfl ?_
  rintro _ h1 ⟨rfl, O1⟩
  have O1 : Hp h1 n0 [(D, ArC Z kd .long [(.long f0), (.long f1)]), (A, ArC Z ka .long [(.long f0), (.long f1)]), (B, ArC Z kb .long [(.long l0), (.long l1)]), (F, ArC Z kf .long [(.long f0), (.long f1), (.long f2)]), (L, ArC Z kl .long [(.long l0), (.long l1), (.long l2)]), (G, ArC Z kg .long [(.long g0), (.long g1), (.long g2)])] := O1
  show Wp _ _ _ _ _ _ _ _ _ _ _ _ 237 #[.val (.long b0), .second, .val (.long b1), .second, .val (.long b2), .second, .val (.int sp), .val (.int po), .val (.int fg), .val (.int (2 : Int32)), .val (.ref F), .val (.ref L), .val (.ref G), .val (.ref D), .val (.ref A), .val (.ref B), .val (.int (-1 : Int32)), .unset, .unset] [.null]
  refine Wp.astore (L' := #[.val (.long b0), .second, .val (.long b1), .second, .val (.long b2), .second, .val (.int sp), .val (.int po), .val (.int fg), .val (.int (2 : Int32)), .val (.ref F), .val (.ref L), .val (.ref G), .val (.ref D), .val (.ref A), .val (.ref B), .val (.int (-1 : Int32)), .val .null, .unset]) (pc' := 239) at_237 rfl rfl rfl ?_
  refine Wp.aload (pc' := 241) at_239 rfl rfl rfl ?_
  refine Wp.aload (pc' := 243) at_241 rfl rfl rfl ?_
  refine Wp.iload (pc' := 245) at_243 rfl rfl ?_
  have O2 : Hp h1 n0 [(F, ArC Z kf .long [(.long f0), (.long f1), (.long f2)]), (D, ArC Z kd .long [(.long f0), (.long f1)]), (A, ArC Z ka .long [(.long f0), (.long f1)]), (B, ArC Z kb .long [(.long l0), (.long l1)]), (L, ArC Z kl .long [(.long l0), (.long l1), (.long l2)]), (G, ArC Z kg .long [(.long g0), (.long g1), (.long g2)])] := Hp.front (LA := [_, _, _]) O1
  have O3 : Hp h1 n0 [(A, ArC Z ka .long [(.long f0), (.long f1)]), (F, ArC Z kf .long [(.long f0), (.long f1), (.long f2)]), (D, ArC Z kd .long [(.long f0), (.long f1)]), (B, ArC Z kb .long [(.long l0), (.long l1)]), (L, ArC Z kl .long [(.long l0), (.long l1), (.long l2)]), (G, ArC Z kg .long [(.long g0), (.long g1), (.long g2)])] := Hp.front (LA := [_, _]) O2
  refine Wp.callS (yy := (⟨"com/example/keyed_tensor/keyedtensor/array/DatasetNextGridPositionPinLaw", "same", "([J[JI)Z"⟩ : MethodName)) (pc' := 248) (argsL := [(.ref A), (.ref F), (.int (2 : Int32))]) (S := []) (rm_sm2 l Z a0 hw A F ka kf f0 f1 f2 h1 n0 O3) (hw _ (List.mem_of_getElem? (i := 13) rfl)) (hw _ (List.mem_of_getElem? (i := 14) rfl)) (hw _ (List.mem_of_getElem? (i := 3) rfl)) (hw _ (List.mem_of_getElem? (i := 15) rfl)) (by decide) (W := 0) rfl (lenOf pd_1 rfl) rfl rfl (Nat.le_refl 0) (by decide) (by decide) (by decide) (by decide) at_245 rfl ?_
  rintro _ _ ⟨rfl, rfl⟩
  show Wp _ _ _ _ _ _ _ _ _ _ _ _ 248 #[.val (.long b0), .second, .val (.long b1), .second, .val (.long b2), .second, .val (.int sp), .val (.int po), .val (.int fg), .val (.int (2 : Int32)), .val (.ref F), .val (.ref L), .val (.ref G), .val (.ref D), .val (.ref A), .val (.ref B), .val (.int (-1 : Int32)), .val .null, .unset] [(.int (1 : Int32))]
  refine Wp.ifN (pc' := 251) at_248 (by decide) rfl ?_
  refine Wp.aload (pc' := 253) at_251 rfl rfl rfl ?_
  refine Wp.aload (pc' := 255) at_253 rfl rfl rfl ?_
  refine Wp.iload (pc' := 257) at_255 rfl rfl ?_
  have O4 : Hp h1 n0 [(L, ArC Z kl .long [(.long l0), (.long l1), (.long l2)]), (A, ArC Z ka .long [(.long f0), (.long f1)]), (F, ArC Z kf .long [(.long f0), (.long f1), (.long f2)]), (D, ArC Z kd .long [(.long f0), (.long f1)]), (B, ArC Z kb .long [(.long l0), (.long l1)]), (G, ArC Z kg .long [(.long g0), (.long g1), (.long g2)])] := Hp.front (LA := [_, _, _, _]) O3
  have O5 : Hp h1 n0 [(B, ArC Z kb .long [(.long l0), (.long l1)]), (L, ArC Z kl .long [(.long l0), (.long l1), (.long l2)]), (A, ArC Z ka .long [(.long f0), (.long f1)]), (F, ArC Z kf .long [(.long f0), (.long f1), (.long f2)]), (D, ArC Z kd .long [(.long f0), (.long f1)]), (G, ArC Z kg .long [(.long g0), (.long g1), (.long g2)])] := Hp.front (LA := [_, _, _, _]) O4
  refine Wp.callS (yy := (⟨"com/example/keyed_tensor/keyedtensor/array/DatasetNextGridPositionPinLaw", "same", "([J[JI)Z"⟩ : MethodName)) (pc' := 260) (argsL := [(.ref B), (.ref L), (.int (2 : Int32))]) (S := []) (rm_sm2 l Z a0 hw B L kb kl l0 l1 l2 h1 n0 O5) (hw _ (List.mem_of_getElem? (i := 13) rfl)) (hw _ (List.mem_of_getElem? (i := 14) rfl)) (hw _ (List.mem_of_getElem? (i := 3) rfl)) (hw _ (List.mem_of_getElem? (i := 15) rfl)) (by decide) (W := 0) rfl (lenOf pd_1 rfl) rfl rfl (Nat.le_refl 0) (by decide) (by decide) (by decide) (by decide) at_257 rfl ?_
  rintro _ _ ⟨rfl, rfl⟩
  show Wp _ _ _ _ _ _ _ _ _ _ _ _ 260 #[.val (.long b0), .second, .val (.long b1), .second, .val (.long b2), .second, .val (.int sp), .val (.int po), .val (.int fg), .val (.int (2 : Int32)), .val (.ref F), .val (.ref L), .val (.ref G), .val (.ref D), .val (.ref A), .val (.ref B), .val (.int (-1 : Int32)), .val .null, .unset] [(.int (1 : Int32))]
  refine Wp.ifN (pc' := 263) at_260 (by decide) rfl ?_
  refine Wp.iconst (z := (1 : Int32)) (pc' := 264) at_263 (by decide) rfl ?_
  refine Wp.goto (pc' := 268) at_264 (by decide) (by decide) ?_
  refine Wp.istore (L' := #[.val (.long b0), .second, .val (.long b1), .second, .val (.long b2), .second, .val (.int sp), .val (.int po), .val (.int fg), .val (.int (2 : Int32)), .val (.ref F), .val (.ref L), .val (.ref G), .val (.ref D), .val (.ref A), .val (.ref B), .val (.int (-1 : Int32)), .val .null, .val (.int (1 : Int32))]) (pc' := 270) at_268 rfl rfl ?_
  refine Wp.iload (pc' := 272) at_270 rfl rfl ?_
  refine Wp.ifN (pc' := 275) at_272 (not_not_intro (by decide)) rfl ?_
  refine Wp.aload (pc' := 277) at_275 rfl rfl rfl ?_
  refine Wp.ifnonnullN (pc' := 280) at_277 rfl ?_
  refine Wp.iload (pc' := 282) at_280 rfl rfl ?_
  refine Wp.ifN (pc' := 285) at_282 (by decide) rfl ?_
  refine Wp.iconst (z := (1 : Int32)) (pc' := 286) at_285 (by decide) rfl ?_
  refine Wp.goto (pc' := 290) at_286 (by decide) (by decide) ?_
  exact Wp.retS (t := .boolean) rfl (Or.inl rfl) rfl at_290 (by decide) (by decide) rfl

set_option maxRecDepth 65536 in
set_option maxHeartbeats 40000000 in
theorem tt_21 (l : Launch) (Z : State) (a0 : Array Value) (hw : ∀ d ∈ tables_1, d.before a0 Z = true) (b0 b1 b2 : Int64) (sp po fg : Int32) (F L G : Addr) (kf kl kg : ClassId) (f0 l0 g0 f1 l1 g1 f2 l2 g2 : Int64) (D A B : Addr) (kd ka kb : ClassId) (hc0 : g0 < l0) (hc1 : ¬ g1 < l1) (h : Heap) (n0 : Nat) (O : Hp h n0 [(D, ArC Z kd .long [(.long g0), (.long g1)]), (A, ArC Z ka .long [(.long f0), (.long f1)]), (B, ArC Z kb .long [(.long l0), (.long l1)]), (F, ArC Z kf .long [(.long f0), (.long f1), (.long f2)]), (L, ArC Z kl .long [(.long l0), (.long l1), (.long l2)]), (G, ArC Z kg .long [(.long g0), (.long g1), (.long g2)])]) :
    Wp l Z room_1 x code maxLocals ret n0 (fun v _ => v = some (.int 1)) h 6 15 226 #[.val (.long b0), .second, .val (.long b1), .second, .val (.long b2), .second, .val (.int sp), .val (.int po), .val (.int fg), .val (.int (2 : Int32)), .val (.ref F), .val (.ref L), .val (.ref G), .val (.ref D), .val (.ref A), .val (.ref B), .unset, .unset, .unset] [(.int (0 : Int32))] := by
  refine Wp.istore (L' := #[.val (.long b0), .second, .val (.long b1), .second, .val (.long b2), .second, .val (.int sp), .val (.int po), .val (.int fg), .val (.int (2 : Int32)), .val (.ref F), .val (.ref L), .val (.ref G), .val (.ref D), .val (.ref A), .val (.ref B), .val (.int (0 : Int32)), .unset, .unset]) (pc' := 228) at_226 rfl rfl ?_
  refine Wp.aload (pc' := 230) at_228 rfl rfl rfl ?_
  refine Wp.aload (pc' := 232) at_230 rfl rfl rfl ?_
  refine Wp.aload (pc' := 234) at_232 rfl rfl rfl ?_
  refine Wp.callS (yy := (⟨"com/example/keyed_tensor/keyedtensor/array/Dataset", "nextGridPosition", "([J[J[J)[J"⟩ : MethodName)) (pc' := 237) (argsL := [(.ref D), (.ref A), (.ref B)]) (S := []) (rm_nx21 l Z a0 hw D A B kd ka kb f0 l0 g0 f1 l1 g1 hc0 hc1 h n0 O) (hw _ (List.mem_of_getElem? (i := 9) rfl)) (hw _ (List.mem_of_getElem? (i := 10) rfl)) (hw _ (List.mem_of_getElem? (i := 11) rfl)) (hw _ (List.mem_of_getElem? (i := 12) rfl)) (by decide) (W := 0) rfl (lenOf pd_0 rfl) rfl rfl (Nat.le_refl 0) (by decide) (by decide) (by decide) (by decide) at_234 rfl ?_
  rintro _ h1 ⟨rfl, O1⟩
  have O1 : Hp h1 n0 [(D, ArC Z kd .long [(.long (g0 + (1 : Int64))), (.long f1)]), (A, ArC Z ka .long [(.long f0), (.long f1)]), (B, ArC Z kb .long [(.long l0), (.long l1)]), (F, ArC Z kf .long [(.long f0), (.long f1), (.long f2)]), (L, ArC Z kl .long [(.long l0), (.long l1), (.long l2)]), (G, ArC Z kg .long [(.long g0), (.long g1), (.long g2)])] := O1
  show Wp _ _ _ _ _ _ _ _ _ _ _ _ 237 #[.val (.long b0), .second, .val (.long b1), .second, .val (.long b2), .second, .val (.int sp), .val (.int po), .val (.int fg), .val (.int (2 : Int32)), .val (.ref F), .val (.ref L), .val (.ref G), .val (.ref D), .val (.ref A), .val (.ref B), .val (.int (0 : Int32)), .unset, .unset] [(.ref D)]
  refine Wp.astore (L' := #[.val (.long b0), .second, .val (.long b1), .second, .val (.long b2), .second, .val (.int sp), .val (.int po), .val (.int fg), .val (.int (2 : Int32)), .val (.ref F), .val (.ref L), .val (.ref G), .val (.ref D), .val (.ref A), .val (.ref B), .val (.int (0 : Int32)), .val (.ref D), .unset]) (pc' := 239) at_237 rfl rfl rfl ?_
  refine Wp.aload (pc' := 241) at_239 rfl rfl rfl ?_
  refine Wp.aload (pc' := 243) at_241 rfl rfl rfl ?_
  refine Wp.iload (pc' := 245) at_243 rfl rfl ?_
  have O2 : Hp h1 n0 [(F, ArC Z kf .long [(.long f0), (.long f1), (.long f2)]), (D, ArC Z kd .long [(.long (g0 + (1 : Int64))), (.long f1)]), (A, ArC Z ka .long [(.long f0), (.long f1)]), (B, ArC Z kb .long [(.long l0), (.long l1)]), (L, ArC Z kl .long [(.long l0), (.long l1), (.long l2)]), (G, ArC Z kg .long [(.long g0), (.long g1), (.long g2)])] := Hp.front (LA := [_, _, _]) O1
  have O3 : Hp h1 n0 [(A, ArC Z ka .long [(.long f0), (.long f1)]), (F, ArC Z kf .long [(.long f0), (.long f1), (.long f2)]), (D, ArC Z kd .long [(.long (g0 + (1 : Int64))), (.long f1)]), (B, ArC Z kb .long [(.long l0), (.long l1)]), (L, ArC Z kl .long [(.long l0), (.long l1), (.long l2)]), (G, ArC Z kg .long [(.long g0), (.long g1), (.long g2)])] := Hp.front (LA := [_, _]) O2
  refine Wp.callS (yy := (⟨"com/example/keyed_tensor/keyedtensor/array/DatasetNextGridPositionPinLaw", "same", "([J[JI)Z"⟩ : MethodName)) (pc' := 248) (argsL := [(.ref A), (.ref F), (.int (2 : Int32))]) (S := []) (rm_sm2 l Z a0 hw A F ka kf f0 f1 f2 h1 n0 O3) (hw _ (List.mem_of_getElem? (i := 13) rfl)) (hw _ (List.mem_of_getElem? (i := 14) rfl)) (hw _ (List.mem_of_getElem? (i := 3) rfl)) (hw _ (List.mem_of_getElem? (i := 15) rfl)) (by decide) (W := 0) rfl (lenOf pd_1 rfl) rfl rfl (Nat.le_refl 0) (by decide) (by decide) (by decide) (by decide) at_245 rfl ?_
  rintro _ _ ⟨rfl, rfl⟩
  show Wp _ _ _ _ _ _ _ _ _ _ _ _ 248 #[.val (.long b0), .second, .val (.long b1), .second, .val (.long b2), .second, .val (.int sp), .val (.int po), .val (.int fg), .val (.int (2 : Int32)), .val (.ref F), .val (.ref L), .val (.ref G), .val (.ref D), .val (.ref A), .val (.ref B), .val (.int (0 : Int32)), .val (.ref D), .unset] [(.int (1 : Int32))]
  refine Wp.ifN (pc' := 251) at_248 (by decide) rfl ?_
  refine Wp.aload (pc' := 253) at_251 rfl rfl rfl ?_
  refine Wp.aload (pc' := 255) at_253 rfl rfl rfl ?_
  refine Wp.iload (pc' := 257) at_255 rfl rfl ?_
  have O4 : Hp h1 n0 [(L, ArC Z kl .long [(.long l0), (.long l1), (.long l2)]), (A, ArC Z ka .long [(.long f0), (.long f1)]), (F, ArC Z kf .long [(.long f0), (.long f1), (.long f2)]), (D, ArC Z kd .long [(.long (g0 + (1 : Int64))), (.long f1)]), (B, ArC Z kb .long [(.long l0), (.long l1)]), (G, ArC Z kg .long [(.long g0), (.long g1), (.long g2)])] := Hp.front (LA := [_, _, _, _]) O3
  have O5 : Hp h1 n0 [(B, ArC Z kb .long [(.long l0), (.long l1)]), (L, ArC Z kl .long [(.long l0), (.long l1), (.long l2)]), (A, ArC Z ka .long [(.long f0), (.long f1)]), (F, ArC Z kf .long [(.long f0), (.long f1), (.long f2)]), (D, ArC Z kd .long [(.long (g0 + (1 : Int64))), (.long f1)]), (G, ArC Z kg .long [(.long g0), (.long g1), (.long g2)])] := Hp.front (LA := [_, _, _, _]) O4
  refine Wp.callS (yy := (⟨"com/example/keyed_tensor/keyedtensor/array/DatasetNextGridPositionPinLaw", "same", "([J[JI)Z"⟩ : MethodName)) (pc' := 260) (argsL := [(.ref B), (.ref L), (.int (2 : Int32))]) (S := []) (rm_sm2 l Z a0 hw B L kb kl l0 l1 l2 h1 n0 O5) (hw _ (List.mem_of_getElem? (i := 13) rfl)) (hw _ (List.mem_of_getElem? (i := 14) rfl)) (hw _ (List.mem_of_getElem? (i := 3) rfl)) (hw _ (List.mem_of_getElem? (i := 15) rfl)) (by decide) (W := 0) rfl (lenOf pd_1 rfl) rfl rfl (Nat.le_refl 0) (by decide) (by decide) (by decide) (by decide) at_257 rfl ?_
  rintro _ _ ⟨rfl, rfl⟩
  show Wp _ _ _ _ _ _ _ _ _ _ _ _ 260 #[.val (.long b0), .second, .val (.long b1), .second, .val (.long b2), .second, .val (.int sp), .val (.int po), .val (.int fg), .val (.int (2 : Int32)), .val (.ref F), .val (.ref L), .val (.ref G), .val (.ref D), .val (.ref A), .val (.ref B), .val (.int (0 : Int32)), .val (.ref D), .unset] [(.int (1 : Int32))]
  refine Wp.ifN (pc' := 263) at_260 (by decide) rfl ?_
  refine Wp.iconst (z := (1 : Int32)) (pc' := 264) at_263 (by decide) rfl ?_
  refine Wp.goto (pc' := 268) at_264 (by decide) (by decide) ?_
  refine Wp.istore (L' := #[.val (.long b0), .second, .val (.long b1), .second, .val (.long b2), .second, .val (.int sp), .val (.int po), .val (.int fg), .val (.int (2 : Int32)), .val (.ref F), .val (.ref L), .val (.ref G), .val (.ref D), .val (.ref A), .val (.ref B), .val (.int (0 : Int32)), .val (.ref D), .val (.int (1 : Int32))]) (pc' := 270) at_268 rfl rfl ?_
  refine Wp.iload (pc' := 272) at_270 rfl rfl ?_
  refine Wp.ifY (pc' := 291) at_272 (by decide) (by decide) (by decide) ?_
  refine Wp.aload (pc' := 293) at_291 rfl rfl rfl ?_
  refine Wp.aload (pc' := 295) at_293 rfl rfl rfl ?_
  refine Wp.acmpY (pc' := 300) at_295 rfl rfl (by simp [Free.XT.acmp]) (by decide) (by decide) ?_
  refine Wp.aload (pc' := 302) at_300 rfl rfl rfl ?_
  refine Wp.iconst (z := (0 : Int32)) (pc' := 303) at_302 (by decide) rfl ?_
  refine Wp.iload (pc' := 305) at_303 rfl rfl ?_
  refine Wp.iload (pc' := 307) at_305 rfl rfl ?_
  refine Wp.aload (pc' := 309) at_307 rfl rfl rfl ?_
  refine Wp.aload (pc' := 311) at_309 rfl rfl rfl ?_
  have O6 : Hp h1 n0 [(G, ArC Z kg .long [(.long g0), (.long g1), (.long g2)]), (B, ArC Z kb .long [(.long l0), (.long l1)]), (L, ArC Z kl .long [(.long l0), (.long l1), (.long l2)]), (A, ArC Z ka .long [(.long f0), (.long f1)]), (F, ArC Z kf .long [(.long f0), (.long f1), (.long f2)]), (D, ArC Z kd .long [(.long (g0 + (1 : Int64))), (.long f1)])] := Hp.front (LA := [_, _, _, _, _]) O5
  have O7 : Hp h1 n0 [(F, ArC Z kf .long [(.long f0), (.long f1), (.long f2)]), (G, ArC Z kg .long [(.long g0), (.long g1), (.long g2)]), (B, ArC Z kb .long [(.long l0), (.long l1)]), (L, ArC Z kl .long [(.long l0), (.long l1), (.long l2)]), (A, ArC Z ka .long [(.long f0), (.long f1)]), (D, ArC Z kd .long [(.long (g0 + (1 : Int64))), (.long f1)])] := Hp.front (LA := [_, _, _, _]) O6
  have O8 : Hp h1 n0 [(D, ArC Z kd .long [(.long (g0 + (1 : Int64))), (.long f1)]), (F, ArC Z kf .long [(.long f0), (.long f1), (.long f2)]), (G, ArC Z kg .long [(.long g0), (.long g1), (.long g2)]), (B, ArC Z kb .long [(.long l0), (.long l1)]), (L, ArC Z kl .long [(.long l0), (.long l1), (.long l2)]), (A, ArC Z ka .long [(.long f0), (.long f1)])] := Hp.front (LA := [_, _, _, _, _]) O7
  refine Wp.callS (yy := (⟨"com/example/keyed_tensor/keyedtensor/array/DatasetNextGridPositionPinLaw", "at", "([JIII[J[J)Z"⟩ : MethodName)) (pc' := 314) (argsL := [(.ref D), (.int (0 : Int32)), (.int (2 : Int32)), (.int (0 : Int32)), (.ref F), (.ref G)]) (S := []) (rm_ate l Z a0 hw D F G kd kf kg [(.long (g0 + (1 : Int64))), (.long f1)] [(.long f0), (.long f1), (.long f2)] [(.long g0), (.long g1), (.long g2)] (0 : Int32) (2 : Int32) (0 : Int32) (by decide) (by decide) 0 rfl g0 rfl rfl (by decide) rfl h1 n0 O8) (hw _ (List.mem_of_getElem? (i := 16) rfl)) (hw _ (List.mem_of_getElem? (i := 17) rfl)) (hw _ (List.mem_of_getElem? (i := 3) rfl)) (hw _ (List.mem_of_getElem? (i := 18) rfl)) (by decide) (W := 0) rfl (lenOf pd_3 rfl) rfl rfl (Nat.le_refl 0) (by decide) (by decide) (by decide) (by decide) at_311 rfl ?_
  rintro _ _ ⟨rfl, rfl⟩
  show Wp _ _ _ _ _ _ _ _ _ _ _ _ 314 #[.val (.long b0), .second, .val (.long b1), .second, .val (.long b2), .second, .val (.int sp), .val (.int po), .val (.int fg), .val (.int (2 : Int32)), .val (.ref F), .val (.ref L), .val (.ref G), .val (.ref D), .val (.ref A), .val (.ref B), .val (.int (0 : Int32)), .val (.ref D), .val (.int (1 : Int32))] [(.int (1 : Int32))]
  refine Wp.ifN (pc' := 317) at_314 (by decide) rfl ?_
  refine Wp.aload (pc' := 319) at_317 rfl rfl rfl ?_
  refine Wp.iconst (z := (1 : Int32)) (pc' := 320) at_319 (by decide) rfl ?_
  refine Wp.iload (pc' := 322) at_320 rfl rfl ?_
  refine Wp.iload (pc' := 324) at_322 rfl rfl ?_
  refine Wp.aload (pc' := 326) at_324 rfl rfl rfl ?_
  refine Wp.aload (pc' := 328) at_326 rfl rfl rfl ?_
  have O9 : Hp h1 n0 [(G, ArC Z kg .long [(.long g0), (.long g1), (.long g2)]), (D, ArC Z kd .long [(.long (g0 + (1 : Int64))), (.long f1)]), (F, ArC Z kf .long [(.long f0), (.long f1), (.long f2)]), (B, ArC Z kb .long [(.long l0), (.long l1)]), (L, ArC Z kl .long [(.long l0), (.long l1), (.long l2)]), (A, ArC Z ka .long [(.long f0), (.long f1)])] := Hp.front (LA := [_, _]) O8
  have O10 : Hp h1 n0 [(F, ArC Z kf .long [(.long f0), (.long f1), (.long f2)]), (G, ArC Z kg .long [(.long g0), (.long g1), (.long g2)]), (D, ArC Z kd .long [(.long (g0 + (1 : Int64))), (.long f1)]), (B, ArC Z kb .long [(.long l0), (.long l1)]), (L, ArC Z kl .long [(.long l0), (.long l1), (.long l2)]), (A, ArC Z ka .long [(.long f0), (.long f1)])] := Hp.front (LA := [_, _]) O9
  have O11 : Hp h1 n0 [(D, ArC Z kd .long [(.long (g0 + (1 : Int64))), (.long f1)]), (F, ArC Z kf .long [(.long f0), (.long f1), (.long f2)]), (G, ArC Z kg .long [(.long g0), (.long g1), (.long g2)]), (B, ArC Z kb .long [(.long l0), (.long l1)]), (L, ArC Z kl .long [(.long l0), (.long l1), (.long l2)]), (A, ArC Z ka .long [(.long f0), (.long f1)])] := Hp.front (LA := [_, _]) O10
  refine Wp.callS (yy := (⟨"com/example/keyed_tensor/keyedtensor/array/DatasetNextGridPositionPinLaw", "at", "([JIII[J[J)Z"⟩ : MethodName)) (pc' := 331) (argsL := [(.ref D), (.int (1 : Int32)), (.int (2 : Int32)), (.int (0 : Int32)), (.ref F), (.ref G)]) (S := []) (rm_atg l Z a0 hw D F G kd kf kg [(.long (g0 + (1 : Int64))), (.long f1)] [(.long f0), (.long f1), (.long f2)] [(.long g0), (.long g1), (.long g2)] (1 : Int32) (2 : Int32) (0 : Int32) (by decide) (by decide) 1 rfl f1 rfl rfl (by decide) (by decide) h1 n0 O11) (hw _ (List.mem_of_getElem? (i := 16) rfl)) (hw _ (List.mem_of_getElem? (i := 17) rfl)) (hw _ (List.mem_of_getElem? (i := 3) rfl)) (hw _ (List.mem_of_getElem? (i := 18) rfl)) (by decide) (W := 0) rfl (lenOf pd_3 rfl) rfl rfl (Nat.le_refl 0) (by decide) (by decide) (by decide) (by decide) at_328 rfl ?_
  rintro _ _ ⟨rfl, rfl⟩
  show Wp _ _ _ _ _ _ _ _ _ _ _ _ 331 #[.val (.long b0), .second, .val (.long b1), .second, .val (.long b2), .second, .val (.int sp), .val (.int po), .val (.int fg), .val (.int (2 : Int32)), .val (.ref F), .val (.ref L), .val (.ref G), .val (.ref D), .val (.ref A), .val (.ref B), .val (.int (0 : Int32)), .val (.ref D), .val (.int (1 : Int32))] [(.int (1 : Int32))]
  refine Wp.ifN (pc' := 334) at_331 (by decide) rfl ?_
  refine Wp.aload (pc' := 336) at_334 rfl rfl rfl ?_
  refine Wp.iconst (z := (2 : Int32)) (pc' := 337) at_336 (by decide) rfl ?_
  refine Wp.iload (pc' := 339) at_337 rfl rfl ?_
  refine Wp.iload (pc' := 341) at_339 rfl rfl ?_
  refine Wp.aload (pc' := 343) at_341 rfl rfl rfl ?_
  refine Wp.aload (pc' := 345) at_343 rfl rfl rfl ?_
  have O12 : Hp h1 n0 [(G, ArC Z kg .long [(.long g0), (.long g1), (.long g2)]), (D, ArC Z kd .long [(.long (g0 + (1 : Int64))), (.long f1)]), (F, ArC Z kf .long [(.long f0), (.long f1), (.long f2)]), (B, ArC Z kb .long [(.long l0), (.long l1)]), (L, ArC Z kl .long [(.long l0), (.long l1), (.long l2)]), (A, ArC Z ka .long [(.long f0), (.long f1)])] := Hp.front (LA := [_, _]) O11
  have O13 : Hp h1 n0 [(F, ArC Z kf .long [(.long f0), (.long f1), (.long f2)]), (G, ArC Z kg .long [(.long g0), (.long g1), (.long g2)]), (D, ArC Z kd .long [(.long (g0 + (1 : Int64))), (.long f1)]), (B, ArC Z kb .long [(.long l0), (.long l1)]), (L, ArC Z kl .long [(.long l0), (.long l1), (.long l2)]), (A, ArC Z ka .long [(.long f0), (.long f1)])] := Hp.front (LA := [_, _]) O12
  have O14 : Hp h1 n0 [(D, ArC Z kd .long [(.long (g0 + (1 : Int64))), (.long f1)]), (F, ArC Z kf .long [(.long f0), (.long f1), (.long f2)]), (G, ArC Z kg .long [(.long g0), (.long g1), (.long g2)]), (B, ArC Z kb .long [(.long l0), (.long l1)]), (L, ArC Z kl .long [(.long l0), (.long l1), (.long l2)]), (A, ArC Z ka .long [(.long f0), (.long f1)])] := Hp.front (LA := [_, _]) O13
  refine Wp.callS (yy := (⟨"com/example/keyed_tensor/keyedtensor/array/DatasetNextGridPositionPinLaw", "at", "([JIII[J[J)Z"⟩ : MethodName)) (pc' := 348) (argsL := [(.ref D), (.int (2 : Int32)), (.int (2 : Int32)), (.int (0 : Int32)), (.ref F), (.ref G)]) (S := []) (rm_ato l Z a0 hw D F G kd kf kg [(.long (g0 + (1 : Int64))), (.long f1)] [(.long f0), (.long f1), (.long f2)] [(.long g0), (.long g1), (.long g2)] (2 : Int32) (2 : Int32) (0 : Int32) (by decide) h1 n0 O14) (hw _ (List.mem_of_getElem? (i := 16) rfl)) (hw _ (List.mem_of_getElem? (i := 17) rfl)) (hw _ (List.mem_of_getElem? (i := 3) rfl)) (hw _ (List.mem_of_getElem? (i := 18) rfl)) (by decide) (W := 0) rfl (lenOf pd_3 rfl) rfl rfl (Nat.le_refl 0) (by decide) (by decide) (by decide) (by decide) at_345 rfl ?_
  rintro _ _ ⟨rfl, rfl⟩
  show Wp _ _ _ _ _ _ _ _ _ _ _ _ 348 #[.val (.long b0), .second, .val (.long b1), .second, .val (.long b2), .second, .val (.int sp), .val (.int po), .val (.int fg), .val (.int (2 : Int32)), .val (.ref F), .val (.ref L), .val (.ref G), .val (.ref D), .val (.ref A), .val (.ref B), .val (.int (0 : Int32)), .val (.ref D), .val (.int (1 : Int32))] [(.int (1 : Int32))]
  refine Wp.ifN (pc' := 351) at_348 (by decide) rfl ?_
  refine Wp.iload (pc' := 353) at_351 rfl rfl ?_
  refine Wp.ifN (pc' := 356) at_353 (by decide) rfl ?_
  refine Wp.iconst (z := (1 : Int32)) (pc' := 357) at_356 (by decide) rfl ?_
  refine Wp.goto (pc' := 361) at_357 (by decide) (by decide) ?_
  exact Wp.retS (t := .boolean) rfl (Or.inl rfl) rfl at_361 (by decide) (by decide) rfl

set_option maxRecDepth 65536 in
set_option maxHeartbeats 40000000 in
theorem tt_22 (l : Launch) (Z : State) (a0 : Array Value) (hw : ∀ d ∈ tables_1, d.before a0 Z = true) (b0 b1 b2 : Int64) (sp po fg : Int32) (F L G : Addr) (kf kl kg : ClassId) (f0 l0 g0 f1 l1 g1 f2 l2 g2 : Int64) (D A B : Addr) (kd ka kb : ClassId) (hc1 : g1 < l1) (h : Heap) (n0 : Nat) (O : Hp h n0 [(D, ArC Z kd .long [(.long g0), (.long g1)]), (A, ArC Z ka .long [(.long f0), (.long f1)]), (B, ArC Z kb .long [(.long l0), (.long l1)]), (F, ArC Z kf .long [(.long f0), (.long f1), (.long f2)]), (L, ArC Z kl .long [(.long l0), (.long l1), (.long l2)]), (G, ArC Z kg .long [(.long g0), (.long g1), (.long g2)])]) :
    Wp l Z room_1 x code maxLocals ret n0 (fun v _ => v = some (.int 1)) h 6 15 226 #[.val (.long b0), .second, .val (.long b1), .second, .val (.long b2), .second, .val (.int sp), .val (.int po), .val (.int fg), .val (.int (2 : Int32)), .val (.ref F), .val (.ref L), .val (.ref G), .val (.ref D), .val (.ref A), .val (.ref B), .unset, .unset, .unset] [(.int (1 : Int32))] := by
  refine Wp.istore (L' := #[.val (.long b0), .second, .val (.long b1), .second, .val (.long b2), .second, .val (.int sp), .val (.int po), .val (.int fg), .val (.int (2 : Int32)), .val (.ref F), .val (.ref L), .val (.ref G), .val (.ref D), .val (.ref A), .val (.ref B), .val (.int (1 : Int32)), .unset, .unset]) (pc' := 228) at_226 rfl rfl ?_
  refine Wp.aload (pc' := 230) at_228 rfl rfl rfl ?_
  refine Wp.aload (pc' := 232) at_230 rfl rfl rfl ?_
  refine Wp.aload (pc' := 234) at_232 rfl rfl rfl ?_
  refine Wp.callS (yy := (⟨"com/example/keyed_tensor/keyedtensor/array/Dataset", "nextGridPosition", "([J[J[J)[J"⟩ : MethodName)) (pc' := 237) (argsL := [(.ref D), (.ref A), (.ref B)]) (S := []) (rm_nx22 l Z a0 hw D A B kd ka kb f0 l0 g0 f1 l1 g1 hc1 h n0 O) (hw _ (List.mem_of_getElem? (i := 9) rfl)) (hw _ (List.mem_of_getElem? (i := 10) rfl)) (hw _ (List.mem_of_getElem? (i := 11) rfl)) (hw _ (List.mem_of_getElem? (i := 12) rfl)) (by decide) (W := 0) rfl (lenOf pd_0 rfl) rfl rfl (Nat.le_refl 0) (by decide) (by decide) (by decide) (by decide) at_234 rfl ?_
  rintro _ h1 ⟨rfl, O1⟩
  have O1 : Hp h1 n0 [(D, ArC Z kd .long [(.long g0), (.long (g1 + (1 : Int64)))]), (A, ArC Z ka .long [(.long f0), (.long f1)]), (B, ArC Z kb .long [(.long l0), (.long l1)]), (F, ArC Z kf .long [(.long f0), (.long f1), (.long f2)]), (L, ArC Z kl .long [(.long l0), (.long l1), (.long l2)]), (G, ArC Z kg .long [(.long g0), (.long g1), (.long g2)])] := O1
  show Wp _ _ _ _ _ _ _ _ _ _ _ _ 237 #[.val (.long b0), .second, .val (.long b1), .second, .val (.long b2), .second, .val (.int sp), .val (.int po), .val (.int fg), .val (.int (2 : Int32)), .val (.ref F), .val (.ref L), .val (.ref G), .val (.ref D), .val (.ref A), .val (.ref B), .val (.int (1 : Int32)), .unset, .unset] [(.ref D)]
  refine Wp.astore (L' := #[.val (.long b0), .second, .val (.long b1), .second, .val (.long b2), .second, .val (.int sp), .val (.int po), .val (.int fg), .val (.int (2 : Int32)), .val (.ref F), .val (.ref L), .val (.ref G), .val (.ref D), .val (.ref A), .val (.ref B), .val (.int (1 : Int32)), .val (.ref D), .unset]) (pc' := 239) at_237 rfl rfl rfl ?_
  refine Wp.aload (pc' := 241) at_239 rfl rfl rfl ?_
  refine Wp.aload (pc' := 243) at_241 rfl rfl rfl ?_
  refine Wp.iload (pc' := 245) at_243 rfl rfl ?_
  have O2 : Hp h1 n0 [(F, ArC Z kf .long [(.long f0), (.long f1), (.long f2)]), (D, ArC Z kd .long [(.long g0), (.long (g1 + (1 : Int64)))]), (A, ArC Z ka .long [(.long f0), (.long f1)]), (B, ArC Z kb .long [(.long l0), (.long l1)]), (L, ArC Z kl .long [(.long l0), (.long l1), (.long l2)]), (G, ArC Z kg .long [(.long g0), (.long g1), (.long g2)])] := Hp.front (LA := [_, _, _]) O1
  have O3 : Hp h1 n0 [(A, ArC Z ka .long [(.long f0), (.long f1)]), (F, ArC Z kf .long [(.long f0), (.long f1), (.long f2)]), (D, ArC Z kd .long [(.long g0), (.long (g1 + (1 : Int64)))]), (B, ArC Z kb .long [(.long l0), (.long l1)]), (L, ArC Z kl .long [(.long l0), (.long l1), (.long l2)]), (G, ArC Z kg .long [(.long g0), (.long g1), (.long g2)])] := Hp.front (LA := [_, _]) O2
  refine Wp.callS (yy := (⟨"com/example/keyed_tensor/keyedtensor/array/DatasetNextGridPositionPinLaw", "same", "([J[JI)Z"⟩ : MethodName)) (pc' := 248) (argsL := [(.ref A), (.ref F), (.int (2 : Int32))]) (S := []) (rm_sm2 l Z a0 hw A F ka kf f0 f1 f2 h1 n0 O3) (hw _ (List.mem_of_getElem? (i := 13) rfl)) (hw _ (List.mem_of_getElem? (i := 14) rfl)) (hw _ (List.mem_of_getElem? (i := 3) rfl)) (hw _ (List.mem_of_getElem? (i := 15) rfl)) (by decide) (W := 0) rfl (lenOf pd_1 rfl) rfl rfl (Nat.le_refl 0) (by decide) (by decide) (by decide) (by decide) at_245 rfl ?_
  rintro _ _ ⟨rfl, rfl⟩
  show Wp _ _ _ _ _ _ _ _ _ _ _ _ 248 #[.val (.long b0), .second, .val (.long b1), .second, .val (.long b2), .second, .val (.int sp), .val (.int po), .val (.int fg), .val (.int (2 : Int32)), .val (.ref F), .val (.ref L), .val (.ref G), .val (.ref D), .val (.ref A), .val (.ref B), .val (.int (1 : Int32)), .val (.ref D), .unset] [(.int (1 : Int32))]
  refine Wp.ifN (pc' := 251) at_248 (by decide) rfl ?_
  refine Wp.aload (pc' := 253) at_251 rfl rfl rfl ?_
  refine Wp.aload (pc' := 255) at_253 rfl rfl rfl ?_
  refine Wp.iload (pc' := 257) at_255 rfl rfl ?_
  have O4 : Hp h1 n0 [(L, ArC Z kl .long [(.long l0), (.long l1), (.long l2)]), (A, ArC Z ka .long [(.long f0), (.long f1)]), (F, ArC Z kf .long [(.long f0), (.long f1), (.long f2)]), (D, ArC Z kd .long [(.long g0), (.long (g1 + (1 : Int64)))]), (B, ArC Z kb .long [(.long l0), (.long l1)]), (G, ArC Z kg .long [(.long g0), (.long g1), (.long g2)])] := Hp.front (LA := [_, _, _, _]) O3
  have O5 : Hp h1 n0 [(B, ArC Z kb .long [(.long l0), (.long l1)]), (L, ArC Z kl .long [(.long l0), (.long l1), (.long l2)]), (A, ArC Z ka .long [(.long f0), (.long f1)]), (F, ArC Z kf .long [(.long f0), (.long f1), (.long f2)]), (D, ArC Z kd .long [(.long g0), (.long (g1 + (1 : Int64)))]), (G, ArC Z kg .long [(.long g0), (.long g1), (.long g2)])] := Hp.front (LA := [_, _, _, _]) O4
  refine Wp.callS (yy := (⟨"com/example/keyed_tensor/keyedtensor/array/DatasetNextGridPositionPinLaw", "same", "([J[JI)Z"⟩ : MethodName)) (pc' := 260) (argsL := [(.ref B), (.ref L), (.int (2 : Int32))]) (S := []) (rm_sm2 l Z a0 hw B L kb kl l0 l1 l2 h1 n0 O5) (hw _ (List.mem_of_getElem? (i := 13) rfl)) (hw _ (List.mem_of_getElem? (i := 14) rfl)) (hw _ (List.mem_of_getElem? (i := 3) rfl)) (hw _ (List.mem_of_getElem? (i := 15) rfl)) (by decide) (W := 0) rfl (lenOf pd_1 rfl) rfl rfl (Nat.le_refl 0) (by decide) (by decide) (by decide) (by decide) at_257 rfl ?_
  rintro _ _ ⟨rfl, rfl⟩
  show Wp _ _ _ _ _ _ _ _ _ _ _ _ 260 #[.val (.long b0), .second, .val (.long b1), .second, .val (.long b2), .second, .val (.int sp), .val (.int po), .val (.int fg), .val (.int (2 : Int32)), .val (.ref F), .val (.ref L), .val (.ref G), .val (.ref D), .val (.ref A), .val (.ref B), .val (.int (1 : Int32)), .val (.ref D), .unset] [(.int (1 : Int32))]
  refine Wp.ifN (pc' := 263) at_260 (by decide) rfl ?_
  refine Wp.iconst (z := (1 : Int32)) (pc' := 264) at_263 (by decide) rfl ?_
  refine Wp.goto (pc' := 268) at_264 (by decide) (by decide) ?_
  refine Wp.istore (L' := #[.val (.long b0), .second, .val (.long b1), .second, .val (.long b2), .second, .val (.int sp), .val (.int po), .val (.int fg), .val (.int (2 : Int32)), .val (.ref F), .val (.ref L), .val (.ref G), .val (.ref D), .val (.ref A), .val (.ref B), .val (.int (1 : Int32)), .val (.ref D), .val (.int (1 : Int32))]) (pc' := 270) at_268 rfl rfl ?_
  refine Wp.iload (pc' := 272) at_270 rfl rfl ?_
  refine Wp.ifY (pc' := 291) at_272 (by decide) (by decide) (by decide) ?_
  refine Wp.aload (pc' := 293) at_291 rfl rfl rfl ?_
  refine Wp.aload (pc' := 295) at_293 rfl rfl rfl ?_
  refine Wp.acmpY (pc' := 300) at_295 rfl rfl (by simp [Free.XT.acmp]) (by decide) (by decide) ?_
  refine Wp.aload (pc' := 302) at_300 rfl rfl rfl ?_
  refine Wp.iconst (z := (0 : Int32)) (pc' := 303) at_302 (by decide) rfl ?_
  refine Wp.iload (pc' := 305) at_303 rfl rfl ?_
  refine Wp.iload (pc' := 307) at_305 rfl rfl ?_
  refine Wp.aload (pc' := 309) at_307 rfl rfl rfl ?_
  refine Wp.aload (pc' := 311) at_309 rfl rfl rfl ?_
  have O6 : Hp h1 n0 [(G, ArC Z kg .long [(.long g0), (.long g1), (.long g2)]), (B, ArC Z kb .long [(.long l0), (.long l1)]), (L, ArC Z kl .long [(.long l0), (.long l1), (.long l2)]), (A, ArC Z ka .long [(.long f0), (.long f1)]), (F, ArC Z kf .long [(.long f0), (.long f1), (.long f2)]), (D, ArC Z kd .long [(.long g0), (.long (g1 + (1 : Int64)))])] := Hp.front (LA := [_, _, _, _, _]) O5
  have O7 : Hp h1 n0 [(F, ArC Z kf .long [(.long f0), (.long f1), (.long f2)]), (G, ArC Z kg .long [(.long g0), (.long g1), (.long g2)]), (B, ArC Z kb .long [(.long l0), (.long l1)]), (L, ArC Z kl .long [(.long l0), (.long l1), (.long l2)]), (A, ArC Z ka .long [(.long f0), (.long f1)]), (D, ArC Z kd .long [(.long g0), (.long (g1 + (1 : Int64)))])] := Hp.front (LA := [_, _, _, _]) O6
  have O8 : Hp h1 n0 [(D, ArC Z kd .long [(.long g0), (.long (g1 + (1 : Int64)))]), (F, ArC Z kf .long [(.long f0), (.long f1), (.long f2)]), (G, ArC Z kg .long [(.long g0), (.long g1), (.long g2)]), (B, ArC Z kb .long [(.long l0), (.long l1)]), (L, ArC Z kl .long [(.long l0), (.long l1), (.long l2)]), (A, ArC Z ka .long [(.long f0), (.long f1)])] := Hp.front (LA := [_, _, _, _, _]) O7
  refine Wp.callS (yy := (⟨"com/example/keyed_tensor/keyedtensor/array/DatasetNextGridPositionPinLaw", "at", "([JIII[J[J)Z"⟩ : MethodName)) (pc' := 314) (argsL := [(.ref D), (.int (0 : Int32)), (.int (2 : Int32)), (.int (1 : Int32)), (.ref F), (.ref G)]) (S := []) (rm_atl l Z a0 hw D F G kd kf kg [(.long g0), (.long (g1 + (1 : Int64)))] [(.long f0), (.long f1), (.long f2)] [(.long g0), (.long g1), (.long g2)] (0 : Int32) (2 : Int32) (1 : Int32) (by decide) (by decide) 0 rfl g0 rfl rfl (by decide) h1 n0 O8) (hw _ (List.mem_of_getElem? (i := 16) rfl)) (hw _ (List.mem_of_getElem? (i := 17) rfl)) (hw _ (List.mem_of_getElem? (i := 3) rfl)) (hw _ (List.mem_of_getElem? (i := 18) rfl)) (by decide) (W := 0) rfl (lenOf pd_3 rfl) rfl rfl (Nat.le_refl 0) (by decide) (by decide) (by decide) (by decide) at_311 rfl ?_
  rintro _ _ ⟨rfl, rfl⟩
  show Wp _ _ _ _ _ _ _ _ _ _ _ _ 314 #[.val (.long b0), .second, .val (.long b1), .second, .val (.long b2), .second, .val (.int sp), .val (.int po), .val (.int fg), .val (.int (2 : Int32)), .val (.ref F), .val (.ref L), .val (.ref G), .val (.ref D), .val (.ref A), .val (.ref B), .val (.int (1 : Int32)), .val (.ref D), .val (.int (1 : Int32))] [(.int (1 : Int32))]
  refine Wp.ifN (pc' := 317) at_314 (by decide) rfl ?_
  refine Wp.aload (pc' := 319) at_317 rfl rfl rfl ?_
  refine Wp.iconst (z := (1 : Int32)) (pc' := 320) at_319 (by decide) rfl ?_
  refine Wp.iload (pc' := 322) at_320 rfl rfl ?_
  refine Wp.iload (pc' := 324) at_322 rfl rfl ?_
  refine Wp.aload (pc' := 326) at_324 rfl rfl rfl ?_
  refine Wp.aload (pc' := 328) at_326 rfl rfl rfl ?_
  have O9 : Hp h1 n0 [(G, ArC Z kg .long [(.long g0), (.long g1), (.long g2)]), (D, ArC Z kd .long [(.long g0), (.long (g1 + (1 : Int64)))]), (F, ArC Z kf .long [(.long f0), (.long f1), (.long f2)]), (B, ArC Z kb .long [(.long l0), (.long l1)]), (L, ArC Z kl .long [(.long l0), (.long l1), (.long l2)]), (A, ArC Z ka .long [(.long f0), (.long f1)])] := Hp.front (LA := [_, _]) O8
  have O10 : Hp h1 n0 [(F, ArC Z kf .long [(.long f0), (.long f1), (.long f2)]), (G, ArC Z kg .long [(.long g0), (.long g1), (.long g2)]), (D, ArC Z kd .long [(.long g0), (.long (g1 + (1 : Int64)))]), (B, ArC Z kb .long [(.long l0), (.long l1)]), (L, ArC Z kl .long [(.long l0), (.long l1), (.long l2)]), (A, ArC Z ka .long [(.long f0), (.long f1)])] := Hp.front (LA := [_, _]) O9
  have O11 : Hp h1 n0 [(D, ArC Z kd .long [(.long g0), (.long (g1 + (1 : Int64)))]), (F, ArC Z kf .long [(.long f0), (.long f1), (.long f2)]), (G, ArC Z kg .long [(.long g0), (.long g1), (.long g2)]), (B, ArC Z kb .long [(.long l0), (.long l1)]), (L, ArC Z kl .long [(.long l0), (.long l1), (.long l2)]), (A, ArC Z ka .long [(.long f0), (.long f1)])] := Hp.front (LA := [_, _]) O10
  refine Wp.callS (yy := (⟨"com/example/keyed_tensor/keyedtensor/array/DatasetNextGridPositionPinLaw", "at", "([JIII[J[J)Z"⟩ : MethodName)) (pc' := 331) (argsL := [(.ref D), (.int (1 : Int32)), (.int (2 : Int32)), (.int (1 : Int32)), (.ref F), (.ref G)]) (S := []) (rm_ate l Z a0 hw D F G kd kf kg [(.long g0), (.long (g1 + (1 : Int64)))] [(.long f0), (.long f1), (.long f2)] [(.long g0), (.long g1), (.long g2)] (1 : Int32) (2 : Int32) (1 : Int32) (by decide) (by decide) 1 rfl g1 rfl rfl (by decide) rfl h1 n0 O11) (hw _ (List.mem_of_getElem? (i := 16) rfl)) (hw _ (List.mem_of_getElem? (i := 17) rfl)) (hw _ (List.mem_of_getElem? (i := 3) rfl)) (hw _ (List.mem_of_getElem? (i := 18) rfl)) (by decide) (W := 0) rfl (lenOf pd_3 rfl) rfl rfl (Nat.le_refl 0) (by decide) (by decide) (by decide) (by decide) at_328 rfl ?_
  rintro _ _ ⟨rfl, rfl⟩
  show Wp _ _ _ _ _ _ _ _ _ _ _ _ 331 #[.val (.long b0), .second, .val (.long b1), .second, .val (.long b2), .second, .val (.int sp), .val (.int po), .val (.int fg), .val (.int (2 : Int32)), .val (.ref F), .val (.ref L), .val (.ref G), .val (.ref D), .val (.ref A), .val (.ref B), .val (.int (1 : Int32)), .val (.ref D), .val (.int (1 : Int32))] [(.int (1 : Int32))]
  refine Wp.ifN (pc' := 334) at_331 (by decide) rfl ?_
  refine Wp.aload (pc' := 336) at_334 rfl rfl rfl ?_
  refine Wp.iconst (z := (2 : Int32)) (pc' := 337) at_336 (by decide) rfl ?_
  refine Wp.iload (pc' := 339) at_337 rfl rfl ?_
  refine Wp.iload (pc' := 341) at_339 rfl rfl ?_
  refine Wp.aload (pc' := 343) at_341 rfl rfl rfl ?_
  refine Wp.aload (pc' := 345) at_343 rfl rfl rfl ?_
  have O12 : Hp h1 n0 [(G, ArC Z kg .long [(.long g0), (.long g1), (.long g2)]), (D, ArC Z kd .long [(.long g0), (.long (g1 + (1 : Int64)))]), (F, ArC Z kf .long [(.long f0), (.long f1), (.long f2)]), (B, ArC Z kb .long [(.long l0), (.long l1)]), (L, ArC Z kl .long [(.long l0), (.long l1), (.long l2)]), (A, ArC Z ka .long [(.long f0), (.long f1)])] := Hp.front (LA := [_, _]) O11
  have O13 : Hp h1 n0 [(F, ArC Z kf .long [(.long f0), (.long f1), (.long f2)]), (G, ArC Z kg .long [(.long g0), (.long g1), (.long g2)]), (D, ArC Z kd .long [(.long g0), (.long (g1 + (1 : Int64)))]), (B, ArC Z kb .long [(.long l0), (.long l1)]), (L, ArC Z kl .long [(.long l0), (.long l1), (.long l2)]), (A, ArC Z ka .long [(.long f0), (.long f1)])] := Hp.front (LA := [_, _]) O12
  have O14 : Hp h1 n0 [(D, ArC Z kd .long [(.long g0), (.long (g1 + (1 : Int64)))]), (F, ArC Z kf .long [(.long f0), (.long f1), (.long f2)]), (G, ArC Z kg .long [(.long g0), (.long g1), (.long g2)]), (B, ArC Z kb .long [(.long l0), (.long l1)]), (L, ArC Z kl .long [(.long l0), (.long l1), (.long l2)]), (A, ArC Z ka .long [(.long f0), (.long f1)])] := Hp.front (LA := [_, _]) O13
  refine Wp.callS (yy := (⟨"com/example/keyed_tensor/keyedtensor/array/DatasetNextGridPositionPinLaw", "at", "([JIII[J[J)Z"⟩ : MethodName)) (pc' := 348) (argsL := [(.ref D), (.int (2 : Int32)), (.int (2 : Int32)), (.int (1 : Int32)), (.ref F), (.ref G)]) (S := []) (rm_ato l Z a0 hw D F G kd kf kg [(.long g0), (.long (g1 + (1 : Int64)))] [(.long f0), (.long f1), (.long f2)] [(.long g0), (.long g1), (.long g2)] (2 : Int32) (2 : Int32) (1 : Int32) (by decide) h1 n0 O14) (hw _ (List.mem_of_getElem? (i := 16) rfl)) (hw _ (List.mem_of_getElem? (i := 17) rfl)) (hw _ (List.mem_of_getElem? (i := 3) rfl)) (hw _ (List.mem_of_getElem? (i := 18) rfl)) (by decide) (W := 0) rfl (lenOf pd_3 rfl) rfl rfl (Nat.le_refl 0) (by decide) (by decide) (by decide) (by decide) at_345 rfl ?_
  rintro _ _ ⟨rfl, rfl⟩
  show Wp _ _ _ _ _ _ _ _ _ _ _ _ 348 #[.val (.long b0), .second, .val (.long b1), .second, .val (.long b2), .second, .val (.int sp), .val (.int po), .val (.int fg), .val (.int (2 : Int32)), .val (.ref F), .val (.ref L), .val (.ref G), .val (.ref D), .val (.ref A), .val (.ref B), .val (.int (1 : Int32)), .val (.ref D), .val (.int (1 : Int32))] [(.int (1 : Int32))]
  refine Wp.ifN (pc' := 351) at_348 (by decide) rfl ?_
  refine Wp.iload (pc' := 353) at_351 rfl rfl ?_
  refine Wp.ifN (pc' := 356) at_353 (by decide) rfl ?_
  refine Wp.iconst (z := (1 : Int32)) (pc' := 357) at_356 (by decide) rfl ?_
  refine Wp.goto (pc' := 361) at_357 (by decide) (by decide) ?_
  exact Wp.retS (t := .boolean) rfl (Or.inl rfl) rfl at_361 (by decide) (by decide) rfl

set_option maxRecDepth 65536 in
set_option maxHeartbeats 40000000 in
theorem tt_30 (l : Launch) (Z : State) (a0 : Array Value) (hw : ∀ d ∈ tables_1, d.before a0 Z = true) (b0 b1 b2 : Int64) (sp po fg : Int32) (F L G : Addr) (kf kl kg : ClassId) (f0 l0 g0 f1 l1 g1 f2 l2 g2 : Int64) (D A B : Addr) (kd ka kb : ClassId) (hc0 : ¬ g0 < l0) (hc1 : ¬ g1 < l1) (hc2 : ¬ g2 < l2) (h : Heap) (n0 : Nat) (O : Hp h n0 [(D, ArC Z kd .long [(.long g0), (.long g1), (.long g2)]), (A, ArC Z ka .long [(.long f0), (.long f1), (.long f2)]), (B, ArC Z kb .long [(.long l0), (.long l1), (.long l2)]), (F, ArC Z kf .long [(.long f0), (.long f1), (.long f2)]), (L, ArC Z kl .long [(.long l0), (.long l1), (.long l2)]), (G, ArC Z kg .long [(.long g0), (.long g1), (.long g2)])]) :
    Wp l Z room_1 x code maxLocals ret n0 (fun v _ => v = some (.int 1)) h 6 18 226 #[.val (.long b0), .second, .val (.long b1), .second, .val (.long b2), .second, .val (.int sp), .val (.int po), .val (.int fg), .val (.int (3 : Int32)), .val (.ref F), .val (.ref L), .val (.ref G), .val (.ref D), .val (.ref A), .val (.ref B), .unset, .unset, .unset] [(.int (-1 : Int32))] := by
  refine Wp.istore (L' := #[.val (.long b0), .second, .val (.long b1), .second, .val (.long b2), .second, .val (.int sp), .val (.int po), .val (.int fg), .val (.int (3 : Int32)), .val (.ref F), .val (.ref L), .val (.ref G), .val (.ref D), .val (.ref A), .val (.ref B), .val (.int (-1 : Int32)), .unset, .unset]) (pc' := 228) at_226 rfl rfl ?_
  refine Wp.aload (pc' := 230) at_228 rfl rfl rfl ?_
  refine Wp.aload (pc' := 232) at_230 rfl rfl rfl ?_
  refine Wp.aload (pc' := 234) at_232 rfl rfl rfl ?_
  refine Wp.callS (yy := (⟨"com/example/keyed_tensor/keyedtensor/array/Dataset", "nextGridPosition", "([J[J[J)[J"⟩ : MethodName)) (pc' := 237) (argsL := [(.ref D), (.ref A), (.ref B)]) (S := []) (rm_nx30 l Z a0 hw D A B kd ka kb f0 l0 g0 f1 l1 g1 f2 l2 g2 hc0 hc1 hc2 h n0 O) (hw _ (List.mem_of_getElem? (i := 9) rfl)) (hw _ (List.mem_of_getElem? (i := 10) rfl)) (hw _ (List.mem_of_getElem? (i := 11) rfl)) (hw _ (List.mem_of_getElem? (i := 12) rfl)) (by decide) (W := 0) rfl (lenOf pd_0 rfl) rfl rfl (Nat.le_refl 0) (by decide) (by decide) (by decide) (by decide) at_234 rfl ?_
  rintro _ h1 ⟨rfl, O1⟩
  have O1 : Hp h1 n0 [(D, ArC Z kd .long [(.long f0), (.long f1), (.long f2)]), (A, ArC Z ka .long [(.long f0), (.long f1), (.long f2)]), (B, ArC Z kb .long [(.long l0), (.long l1), (.long l2)]), (F, ArC Z kf .long [(.long f0), (.long f1), (.long f2)]), (L, ArC Z kl .long [(.long l0), (.long l1), (.long l2)]), (G, ArC Z kg .long [(.long g0), (.long g1), (.long g2)])] := O1
  show Wp _ _ _ _ _ _ _ _ _ _ _ _ 237 #[.val (.long b0), .second, .val (.long b1), .second, .val (.long b2), .second, .val (.int sp), .val (.int po), .val (.int fg), .val (.int (3 : Int32)), .val (.ref F), .val (.ref L), .val (.ref G), .val (.ref D), .val (.ref A), .val (.ref B), .val (.int (-1 : Int32)), .unset, .unset] [.null]
  refine Wp.astore (L' := #[.val (.long b0), .second, .val (.long b1), .second, .val (.long b2), .second, .val (.int sp), .val (.int po), .val (.int fg), .val (.int (3 : Int32)), .val (.ref F), .val (.ref L), .val (.ref G), .val (.ref D), .val (.ref A), .val (.ref B), .val (.int (-1 : Int32)), .val .null, .unset]) (pc' := 239) at_237 rfl rfl rfl ?_
  refine Wp.aload (pc' := 241) at_239 rfl rfl rfl ?_
  refine Wp.aload (pc' := 243) at_241 rfl rfl rfl ?_
  refine Wp.iload (pc' := 245) at_243 rfl rfl ?_
  have O2 : Hp h1 n0 [(F, ArC Z kf .long [(.long f0), (.long f1), (.long f2)]), (D, ArC Z kd .long [(.long f0), (.long f1), (.long f2)]), (A, ArC Z ka .long [(.long f0), (.long f1), (.long f2)]), (B, ArC Z kb .long [(.long l0), (.long l1), (.long l2)]), (L, ArC Z kl .long [(.long l0), (.long l1), (.long l2)]), (G, ArC Z kg .long [(.long g0), (.long g1), (.long g2)])] := Hp.front (LA := [_, _, _]) O1
  have O3 : Hp h1 n0 [(A, ArC Z ka .long [(.long f0), (.long f1), (.long f2)]), (F, ArC Z kf .long [(.long f0), (.long f1), (.long f2)]), (D, ArC Z kd .long [(.long f0), (.long f1), (.long f2)]), (B, ArC Z kb .long [(.long l0), (.long l1), (.long l2)]), (L, ArC Z kl .long [(.long l0), (.long l1), (.long l2)]), (G, ArC Z kg .long [(.long g0), (.long g1), (.long g2)])] := Hp.front (LA := [_, _]) O2
  refine Wp.callS (yy := (⟨"com/example/keyed_tensor/keyedtensor/array/DatasetNextGridPositionPinLaw", "same", "([J[JI)Z"⟩ : MethodName)) (pc' := 248) (argsL := [(.ref A), (.ref F), (.int (3 : Int32))]) (S := []) (rm_sm3 l Z a0 hw A F ka kf f0 f1 f2 h1 n0 O3) (hw _ (List.mem_of_getElem? (i := 13) rfl)) (hw _ (List.mem_of_getElem? (i := 14) rfl)) (hw _ (List.mem_of_getElem? (i := 3) rfl)) (hw _ (List.mem_of_getElem? (i := 15) rfl)) (by decide) (W := 0) rfl (lenOf pd_1 rfl) rfl rfl (Nat.le_refl 0) (by decide) (by decide) (by decide) (by decide) at_245 rfl ?_
  rintro _ _ ⟨rfl, rfl⟩
  show Wp _ _ _ _ _ _ _ _ _ _ _ _ 248 #[.val (.long b0), .second, .val (.long b1), .second, .val (.long b2), .second, .val (.int sp), .val (.int po), .val (.int fg), .val (.int (3 : Int32)), .val (.ref F), .val (.ref L), .val (.ref G), .val (.ref D), .val (.ref A), .val (.ref B), .val (.int (-1 : Int32)), .val .null, .unset] [(.int (1 : Int32))]
  refine Wp.ifN (pc' := 251) at_248 (by decide) rfl ?_
  refine Wp.aload (pc' := 253) at_251 rfl rfl rfl ?_
  refine Wp.aload (pc' := 255) at_253 rfl rfl rfl ?_
  refine Wp.iload (pc' := 257) at_255 rfl rfl ?_
  have O4 : Hp h1 n0 [(L, ArC Z kl .long [(.long l0), (.long l1), (.long l2)]), (A, ArC Z ka .long [(.long f0), (.long f1), (.long f2)]), (F, ArC Z kf .long [(.long f0), (.long f1), (.long f2)]), (D, ArC Z kd .long [(.long f0), (.long f1), (.long f2)]), (B, ArC Z kb .long [(.long l0), (.long l1), (.long l2)]), (G, ArC Z kg .long [(.long g0), (.long g1), (.long g2)])] := Hp.front (LA := [_, _, _, _]) O3
  have O5 : Hp h1 n0 [(B, ArC Z kb .long [(.long l0), (.long l1), (.long l2)]), (L, ArC Z kl .long [(.long l0), (.long l1), (.long l2)]), (A, ArC Z ka .long [(.long f0), (.long f1), (.long f2)]), (F, ArC Z kf .long [(.long f0), (.long f1), (.long f2)]), (D, ArC Z kd .long [(.long f0), (.long f1), (.long f2)]), (G, ArC Z kg .long [(.long g0), (.long g1), (.long g2)])] := Hp.front (LA := [_, _, _, _]) O4
  refine Wp.callS (yy := (⟨"com/example/keyed_tensor/keyedtensor/array/DatasetNextGridPositionPinLaw", "same", "([J[JI)Z"⟩ : MethodName)) (pc' := 260) (argsL := [(.ref B), (.ref L), (.int (3 : Int32))]) (S := []) (rm_sm3 l Z a0 hw B L kb kl l0 l1 l2 h1 n0 O5) (hw _ (List.mem_of_getElem? (i := 13) rfl)) (hw _ (List.mem_of_getElem? (i := 14) rfl)) (hw _ (List.mem_of_getElem? (i := 3) rfl)) (hw _ (List.mem_of_getElem? (i := 15) rfl)) (by decide) (W := 0) rfl (lenOf pd_1 rfl) rfl rfl (Nat.le_refl 0) (by decide) (by decide) (by decide) (by decide) at_257 rfl ?_
  rintro _ _ ⟨rfl, rfl⟩
  show Wp _ _ _ _ _ _ _ _ _ _ _ _ 260 #[.val (.long b0), .second, .val (.long b1), .second, .val (.long b2), .second, .val (.int sp), .val (.int po), .val (.int fg), .val (.int (3 : Int32)), .val (.ref F), .val (.ref L), .val (.ref G), .val (.ref D), .val (.ref A), .val (.ref B), .val (.int (-1 : Int32)), .val .null, .unset] [(.int (1 : Int32))]
  refine Wp.ifN (pc' := 263) at_260 (by decide) rfl ?_
  refine Wp.iconst (z := (1 : Int32)) (pc' := 264) at_263 (by decide) rfl ?_
  refine Wp.goto (pc' := 268) at_264 (by decide) (by decide) ?_
  refine Wp.istore (L' := #[.val (.long b0), .second, .val (.long b1), .second, .val (.long b2), .second, .val (.int sp), .val (.int po), .val (.int fg), .val (.int (3 : Int32)), .val (.ref F), .val (.ref L), .val (.ref G), .val (.ref D), .val (.ref A), .val (.ref B), .val (.int (-1 : Int32)), .val .null, .val (.int (1 : Int32))]) (pc' := 270) at_268 rfl rfl ?_
  refine Wp.iload (pc' := 272) at_270 rfl rfl ?_
  refine Wp.ifN (pc' := 275) at_272 (not_not_intro (by decide)) rfl ?_
  refine Wp.aload (pc' := 277) at_275 rfl rfl rfl ?_
  refine Wp.ifnonnullN (pc' := 280) at_277 rfl ?_
  refine Wp.iload (pc' := 282) at_280 rfl rfl ?_
  refine Wp.ifN (pc' := 285) at_282 (by decide) rfl ?_
  refine Wp.iconst (z := (1 : Int32)) (pc' := 286) at_285 (by decide) rfl ?_
  refine Wp.goto (pc' := 290) at_286 (by decide) (by decide) ?_
  exact Wp.retS (t := .boolean) rfl (Or.inl rfl) rfl at_290 (by decide) (by decide) rfl

set_option maxRecDepth 65536 in
set_option maxHeartbeats 40000000 in
theorem tt_31 (l : Launch) (Z : State) (a0 : Array Value) (hw : ∀ d ∈ tables_1, d.before a0 Z = true) (b0 b1 b2 : Int64) (sp po fg : Int32) (F L G : Addr) (kf kl kg : ClassId) (f0 l0 g0 f1 l1 g1 f2 l2 g2 : Int64) (D A B : Addr) (kd ka kb : ClassId) (hc0 : g0 < l0) (hc1 : ¬ g1 < l1) (hc2 : ¬ g2 < l2) (h : Heap) (n0 : Nat) (O : Hp h n0 [(D, ArC Z kd .long [(.long g0), (.long g1), (.long g2)]), (A, ArC Z ka .long [(.long f0), (.long f1), (.long f2)]), (B, ArC Z kb .long [(.long l0), (.long l1), (.long l2)]), (F, ArC Z kf .long [(.long f0), (.long f1), (.long f2)]), (L, ArC Z kl .long [(.long l0), (.long l1), (.long l2)]), (G, ArC Z kg .long [(.long g0), (.long g1), (.long g2)])]) :
    Wp l Z room_1 x code maxLocals ret n0 (fun v _ => v = some (.int 1)) h 6 18 226 #[.val (.long b0), .second, .val (.long b1), .second, .val (.long b2), .second, .val (.int sp), .val (.int po), .val (.int fg), .val (.int (3 : Int32)), .val (.ref F), .val (.ref L), .val (.ref G), .val (.ref D), .val (.ref A), .val (.ref B), .unset, .unset, .unset] [(.int (0 : Int32))] := by
  refine Wp.istore (L' := #[.val (.long b0), .second, .val (.long b1), .second, .val (.long b2), .second, .val (.int sp), .val (.int po), .val (.int fg), .val (.int (3 : Int32)), .val (.ref F), .val (.ref L), .val (.ref G), .val (.ref D), .val (.ref A), .val (.ref B), .val (.int (0 : Int32)), .unset, .unset]) (pc' := 228) at_226 rfl rfl ?_
  refine Wp.aload (pc' := 230) at_228 rfl rfl rfl ?_
  refine Wp.aload (pc' := 232) at_230 rfl rfl rfl ?_
  refine Wp.aload (pc' := 234) at_232 rfl rfl rfl ?_
  refine Wp.callS (yy := (⟨"com/example/keyed_tensor/keyedtensor/array/Dataset", "nextGridPosition", "([J[J[J)[J"⟩ : MethodName)) (pc' := 237) (argsL := [(.ref D), (.ref A), (.ref B)]) (S := []) (rm_nx31 l Z a0 hw D A B kd ka kb f0 l0 g0 f1 l1 g1 f2 l2 g2 hc0 hc1 hc2 h n0 O) (hw _ (List.mem_of_getElem? (i := 9) rfl)) (hw _ (List.mem_of_getElem? (i := 10) rfl)) (hw _ (List.mem_of_getElem? (i := 11) rfl)) (hw _ (List.mem_of_getElem? (i := 12) rfl)) (by decide) (W := 0) rfl (lenOf pd_0 rfl) rfl rfl (Nat.le_refl 0) (by decide) (by decide) (by decide) (by decide) at_234 rfl ?_
  rintro _ h1 ⟨rfl, O1⟩
  have O1 : Hp h1 n0 [(D, ArC Z kd .long [(.long (g0 + (1 : Int64))), (.long f1), (.long f2)]), (A, ArC Z ka .long [(.long f0), (.long f1), (.long f2)]), (B, ArC Z kb .long [(.long l0), (.long l1), (.long l2)]), (F, ArC Z kf .long [(.long f0), (.long f1), (.long f2)]), (L, ArC Z kl .long [(.long l0), (.long l1), (.long l2)]), (G, ArC Z kg .long [(.long g0), (.long g1), (.long g2)])] := O1
  show Wp _ _ _ _ _ _ _ _ _ _ _ _ 237 #[.val (.long b0), .second, .val (.long b1), .second, .val (.long b2), .second, .val (.int sp), .val (.int po), .val (.int fg), .val (.int (3 : Int32)), .val (.ref F), .val (.ref L), .val (.ref G), .val (.ref D), .val (.ref A), .val (.ref B), .val (.int (0 : Int32)), .unset, .unset] [(.ref D)]
  refine Wp.astore (L' := #[.val (.long b0), .second, .val (.long b1), .second, .val (.long b2), .second, .val (.int sp), .val (.int po), .val (.int fg), .val (.int (3 : Int32)), .val (.ref F), .val (.ref L), .val (.ref G), .val (.ref D), .val (.ref A), .val (.ref B), .val (.int (0 : Int32)), .val (.ref D), .unset]) (pc' := 239) at_237 rfl rfl rfl ?_
  refine Wp.aload (pc' := 241) at_239 rfl rfl rfl ?_
  refine Wp.aload (pc' := 243) at_241 rfl rfl rfl ?_
  refine Wp.iload (pc' := 245) at_243 rfl rfl ?_
  have O2 : Hp h1 n0 [(F, ArC Z kf .long [(.long f0), (.long f1), (.long f2)]), (D, ArC Z kd .long [(.long (g0 + (1 : Int64))), (.long f1), (.long f2)]), (A, ArC Z ka .long [(.long f0), (.long f1), (.long f2)]), (B, ArC Z kb .long [(.long l0), (.long l1), (.long l2)]), (L, ArC Z kl .long [(.long l0), (.long l1), (.long l2)]), (G, ArC Z kg .long [(.long g0), (.long g1), (.long g2)])] := Hp.front (LA := [_, _, _]) O1
  have O3 : Hp h1 n0 [(A, ArC Z ka .long [(.long f0), (.long f1), (.long f2)]), (F, ArC Z kf .long [(.long f0), (.long f1), (.long f2)]), (D, ArC Z kd .long [(.long (g0 + (1 : Int64))), (.long f1), (.long f2)]), (B, ArC Z kb .long [(.long l0), (.long l1), (.long l2)]), (L, ArC Z kl .long [(.long l0), (.long l1), (.long l2)]), (G, ArC Z kg .long [(.long g0), (.long g1), (.long g2)])] := Hp.front (LA := [_, _]) O2
  refine Wp.callS (yy := (⟨"com/example/keyed_tensor/keyedtensor/array/DatasetNextGridPositionPinLaw", "same", "([J[JI)Z"⟩ : MethodName)) (pc' := 248) (argsL := [(.ref A), (.ref F), (.int (3 : Int32))]) (S := []) (rm_sm3 l Z a0 hw A F ka kf f0 f1 f2 h1 n0 O3) (hw _ (List.mem_of_getElem? (i := 13) rfl)) (hw _ (List.mem_of_getElem? (i := 14) rfl)) (hw _ (List.mem_of_getElem? (i := 3) rfl)) (hw _ (List.mem_of_getElem? (i := 15) rfl)) (by decide) (W := 0) rfl (lenOf pd_1 rfl) rfl rfl (Nat.le_refl 0) (by decide) (by decide) (by decide) (by decide) at_245 rfl ?_
  rintro _ _ ⟨rfl, rfl⟩
  show Wp _ _ _ _ _ _ _ _ _ _ _ _ 248 #[.val (.long b0), .second, .val (.long b1), .second, .val (.long b2), .second, .val (.int sp), .val (.int po), .val (.int fg), .val (.int (3 : Int32)), .val (.ref F), .val (.ref L), .val (.ref G), .val (.ref D), .val (.ref A), .val (.ref B), .val (.int (0 : Int32)), .val (.ref D), .unset] [(.int (1 : Int32))]
  refine Wp.ifN (pc' := 251) at_248 (by decide) rfl ?_
  refine Wp.aload (pc' := 253) at_251 rfl rfl rfl ?_
  refine Wp.aload (pc' := 255) at_253 rfl rfl rfl ?_
  refine Wp.iload (pc' := 257) at_255 rfl rfl ?_
  have O4 : Hp h1 n0 [(L, ArC Z kl .long [(.long l0), (.long l1), (.long l2)]), (A, ArC Z ka .long [(.long f0), (.long f1), (.long f2)]), (F, ArC Z kf .long [(.long f0), (.long f1), (.long f2)]), (D, ArC Z kd .long [(.long (g0 + (1 : Int64))), (.long f1), (.long f2)]), (B, ArC Z kb .long [(.long l0), (.long l1), (.long l2)]), (G, ArC Z kg .long [(.long g0), (.long g1), (.long g2)])] := Hp.front (LA := [_, _, _, _]) O3
  have O5 : Hp h1 n0 [(B, ArC Z kb .long [(.long l0), (.long l1), (.long l2)]), (L, ArC Z kl .long [(.long l0), (.long l1), (.long l2)]), (A, ArC Z ka .long [(.long f0), (.long f1), (.long f2)]), (F, ArC Z kf .long [(.long f0), (.long f1), (.long f2)]), (D, ArC Z kd .long [(.long (g0 + (1 : Int64))), (.long f1), (.long f2)]), (G, ArC Z kg .long [(.long g0), (.long g1), (.long g2)])] := Hp.front (LA := [_, _, _, _]) O4
  refine Wp.callS (yy := (⟨"com/example/keyed_tensor/keyedtensor/array/DatasetNextGridPositionPinLaw", "same", "([J[JI)Z"⟩ : MethodName)) (pc' := 260) (argsL := [(.ref B), (.ref L), (.int (3 : Int32))]) (S := []) (rm_sm3 l Z a0 hw B L kb kl l0 l1 l2 h1 n0 O5) (hw _ (List.mem_of_getElem? (i := 13) rfl)) (hw _ (List.mem_of_getElem? (i := 14) rfl)) (hw _ (List.mem_of_getElem? (i := 3) rfl)) (hw _ (List.mem_of_getElem? (i := 15) rfl)) (by decide) (W := 0) rfl (lenOf pd_1 rfl) rfl rfl (Nat.le_refl 0) (by decide) (by decide) (by decide) (by decide) at_257 rfl ?_
  rintro _ _ ⟨rfl, rfl⟩
  show Wp _ _ _ _ _ _ _ _ _ _ _ _ 260 #[.val (.long b0), .second, .val (.long b1), .second, .val (.long b2), .second, .val (.int sp), .val (.int po), .val (.int fg), .val (.int (3 : Int32)), .val (.ref F), .val (.ref L), .val (.ref G), .val (.ref D), .val (.ref A), .val (.ref B), .val (.int (0 : Int32)), .val (.ref D), .unset] [(.int (1 : Int32))]
  refine Wp.ifN (pc' := 263) at_260 (by decide) rfl ?_
  refine Wp.iconst (z := (1 : Int32)) (pc' := 264) at_263 (by decide) rfl ?_
  refine Wp.goto (pc' := 268) at_264 (by decide) (by decide) ?_
  refine Wp.istore (L' := #[.val (.long b0), .second, .val (.long b1), .second, .val (.long b2), .second, .val (.int sp), .val (.int po), .val (.int fg), .val (.int (3 : Int32)), .val (.ref F), .val (.ref L), .val (.ref G), .val (.ref D), .val (.ref A), .val (.ref B), .val (.int (0 : Int32)), .val (.ref D), .val (.int (1 : Int32))]) (pc' := 270) at_268 rfl rfl ?_
  refine Wp.iload (pc' := 272) at_270 rfl rfl ?_
  refine Wp.ifY (pc' := 291) at_272 (by decide) (by decide) (by decide) ?_
  refine Wp.aload (pc' := 293) at_291 rfl rfl rfl ?_
  refine Wp.aload (pc' := 295) at_293 rfl rfl rfl ?_
  refine Wp.acmpY (pc' := 300) at_295 rfl rfl (by simp [Free.XT.acmp]) (by decide) (by decide) ?_
  refine Wp.aload (pc' := 302) at_300 rfl rfl rfl ?_
  refine Wp.iconst (z := (0 : Int32)) (pc' := 303) at_302 (by decide) rfl ?_
  refine Wp.iload (pc' := 305) at_303 rfl rfl ?_
  refine Wp.iload (pc' := 307) at_305 rfl rfl ?_
  refine Wp.aload (pc' := 309) at_307 rfl rfl rfl ?_
  refine Wp.aload (pc' := 311) at_309 rfl rfl rfl ?_
  have O6 : Hp h1 n0 [(G, ArC Z kg .long [(.long g0), (.long g1), (.long g2)]), (B, ArC Z kb .long [(.long l0), (.long l1), (.long l2)]), (L, ArC Z kl .long [(.long l0), (.long l1), (.long l2)]), (A, ArC Z ka .long [(.long f0), (.long f1), (.long f2)]), (F, ArC Z kf .long [(.long f0), (.long f1), (.long f2)]), (D, ArC Z kd .long [(.long (g0 + (1 : Int64))), (.long f1), (.long f2)])] := Hp.front (LA := [_, _, _, _, _]) O5
  have O7 : Hp h1 n0 [(F, ArC Z kf .long [(.long f0), (.long f1), (.long f2)]), (G, ArC Z kg .long [(.long g0), (.long g1), (.long g2)]), (B, ArC Z kb .long [(.long l0), (.long l1), (.long l2)]), (L, ArC Z kl .long [(.long l0), (.long l1), (.long l2)]), (A, ArC Z ka .long [(.long f0), (.long f1), (.long f2)]), (D, ArC Z kd .long [(.long (g0 + (1 : Int64))), (.long f1), (.long f2)])] := Hp.front (LA := [_, _, _, _]) O6
  have O8 : Hp h1 n0 [(D, ArC Z kd .long [(.long (g0 + (1 : Int64))), (.long f1), (.long f2)]), (F, ArC Z kf .long [(.long f0), (.long f1), (.long f2)]), (G, ArC Z kg .long [(.long g0), (.long g1), (.long g2)]), (B, ArC Z kb .long [(.long l0), (.long l1), (.long l2)]), (L, ArC Z kl .long [(.long l0), (.long l1), (.long l2)]), (A, ArC Z ka .long [(.long f0), (.long f1), (.long f2)])] := Hp.front (LA := [_, _, _, _, _]) O7
  refine Wp.callS (yy := (⟨"com/example/keyed_tensor/keyedtensor/array/DatasetNextGridPositionPinLaw", "at", "([JIII[J[J)Z"⟩ : MethodName)) (pc' := 314) (argsL := [(.ref D), (.int (0 : Int32)), (.int (3 : Int32)), (.int (0 : Int32)), (.ref F), (.ref G)]) (S := []) (rm_ate l Z a0 hw D F G kd kf kg [(.long (g0 + (1 : Int64))), (.long f1), (.long f2)] [(.long f0), (.long f1), (.long f2)] [(.long g0), (.long g1), (.long g2)] (0 : Int32) (3 : Int32) (0 : Int32) (by decide) (by decide) 0 rfl g0 rfl rfl (by decide) rfl h1 n0 O8) (hw _ (List.mem_of_getElem? (i := 16) rfl)) (hw _ (List.mem_of_getElem? (i := 17) rfl)) (hw _ (List.mem_of_getElem? (i := 3) rfl)) (hw _ (List.mem_of_getElem? (i := 18) rfl)) (by decide) (W := 0) rfl (lenOf pd_3 rfl) rfl rfl (Nat.le_refl 0) (by decide) (by decide) (by decide) (by decide) at_311 rfl ?_
  rintro _ _ ⟨rfl, rfl⟩
  show Wp _ _ _ _ _ _ _ _ _ _ _ _ 314 #[.val (.long b0), .second, .val (.long b1), .second, .val (.long b2), .second, .val (.int sp), .val (.int po), .val (.int fg), .val (.int (3 : Int32)), .val (.ref F), .val (.ref L), .val (.ref G), .val (.ref D), .val (.ref A), .val (.ref B), .val (.int (0 : Int32)), .val (.ref D), .val (.int (1 : Int32))] [(.int (1 : Int32))]
  refine Wp.ifN (pc' := 317) at_314 (by decide) rfl ?_
  refine Wp.aload (pc' := 319) at_317 rfl rfl rfl ?_
  refine Wp.iconst (z := (1 : Int32)) (pc' := 320) at_319 (by decide) rfl ?_
  refine Wp.iload (pc' := 322) at_320 rfl rfl ?_
  refine Wp.iload (pc' := 324) at_322 rfl rfl ?_
  refine Wp.aload (pc' := 326) at_324 rfl rfl rfl ?_
  refine Wp.aload (pc' := 328) at_326 rfl rfl rfl ?_
  have O9 : Hp h1 n0 [(G, ArC Z kg .long [(.long g0), (.long g1), (.long g2)]), (D, ArC Z kd .long [(.long (g0 + (1 : Int64))), (.long f1), (.long f2)]), (F, ArC Z kf .long [(.long f0), (.long f1), (.long f2)]), (B, ArC Z kb .long [(.long l0), (.long l1), (.long l2)]), (L, ArC Z kl .long [(.long l0), (.long l1), (.long l2)]), (A, ArC Z ka .long [(.long f0), (.long f1), (.long f2)])] := Hp.front (LA := [_, _]) O8
  have O10 : Hp h1 n0 [(F, ArC Z kf .long [(.long f0), (.long f1), (.long f2)]), (G, ArC Z kg .long [(.long g0), (.long g1), (.long g2)]), (D, ArC Z kd .long [(.long (g0 + (1 : Int64))), (.long f1), (.long f2)]), (B, ArC Z kb .long [(.long l0), (.long l1), (.long l2)]), (L, ArC Z kl .long [(.long l0), (.long l1), (.long l2)]), (A, ArC Z ka .long [(.long f0), (.long f1), (.long f2)])] := Hp.front (LA := [_, _]) O9
  have O11 : Hp h1 n0 [(D, ArC Z kd .long [(.long (g0 + (1 : Int64))), (.long f1), (.long f2)]), (F, ArC Z kf .long [(.long f0), (.long f1), (.long f2)]), (G, ArC Z kg .long [(.long g0), (.long g1), (.long g2)]), (B, ArC Z kb .long [(.long l0), (.long l1), (.long l2)]), (L, ArC Z kl .long [(.long l0), (.long l1), (.long l2)]), (A, ArC Z ka .long [(.long f0), (.long f1), (.long f2)])] := Hp.front (LA := [_, _]) O10
  refine Wp.callS (yy := (⟨"com/example/keyed_tensor/keyedtensor/array/DatasetNextGridPositionPinLaw", "at", "([JIII[J[J)Z"⟩ : MethodName)) (pc' := 331) (argsL := [(.ref D), (.int (1 : Int32)), (.int (3 : Int32)), (.int (0 : Int32)), (.ref F), (.ref G)]) (S := []) (rm_atg l Z a0 hw D F G kd kf kg [(.long (g0 + (1 : Int64))), (.long f1), (.long f2)] [(.long f0), (.long f1), (.long f2)] [(.long g0), (.long g1), (.long g2)] (1 : Int32) (3 : Int32) (0 : Int32) (by decide) (by decide) 1 rfl f1 rfl rfl (by decide) (by decide) h1 n0 O11) (hw _ (List.mem_of_getElem? (i := 16) rfl)) (hw _ (List.mem_of_getElem? (i := 17) rfl)) (hw _ (List.mem_of_getElem? (i := 3) rfl)) (hw _ (List.mem_of_getElem? (i := 18) rfl)) (by decide) (W := 0) rfl (lenOf pd_3 rfl) rfl rfl (Nat.le_refl 0) (by decide) (by decide) (by decide) (by decide) at_328 rfl ?_
  rintro _ _ ⟨rfl, rfl⟩
  show Wp _ _ _ _ _ _ _ _ _ _ _ _ 331 #[.val (.long b0), .second, .val (.long b1), .second, .val (.long b2), .second, .val (.int sp), .val (.int po), .val (.int fg), .val (.int (3 : Int32)), .val (.ref F), .val (.ref L), .val (.ref G), .val (.ref D), .val (.ref A), .val (.ref B), .val (.int (0 : Int32)), .val (.ref D), .val (.int (1 : Int32))] [(.int (1 : Int32))]
  refine Wp.ifN (pc' := 334) at_331 (by decide) rfl ?_
  refine Wp.aload (pc' := 336) at_334 rfl rfl rfl ?_
  refine Wp.iconst (z := (2 : Int32)) (pc' := 337) at_336 (by decide) rfl ?_
  refine Wp.iload (pc' := 339) at_337 rfl rfl ?_
  refine Wp.iload (pc' := 341) at_339 rfl rfl ?_
  refine Wp.aload (pc' := 343) at_341 rfl rfl rfl ?_
  refine Wp.aload (pc' := 345) at_343 rfl rfl rfl ?_
  have O12 : Hp h1 n0 [(G, ArC Z kg .long [(.long g0), (.long g1), (.long g2)]), (D, ArC Z kd .long [(.long (g0 + (1 : Int64))), (.long f1), (.long f2)]), (F, ArC Z kf .long [(.long f0), (.long f1), (.long f2)]), (B, ArC Z kb .long [(.long l0), (.long l1), (.long l2)]), (L, ArC Z kl .long [(.long l0), (.long l1), (.long l2)]), (A, ArC Z ka .long [(.long f0), (.long f1), (.long f2)])] := Hp.front (LA := [_, _]) O11
  have O13 : Hp h1 n0 [(F, ArC Z kf .long [(.long f0), (.long f1), (.long f2)]), (G, ArC Z kg .long [(.long g0), (.long g1), (.long g2)]), (D, ArC Z kd .long [(.long (g0 + (1 : Int64))), (.long f1), (.long f2)]), (B, ArC Z kb .long [(.long l0), (.long l1), (.long l2)]), (L, ArC Z kl .long [(.long l0), (.long l1), (.long l2)]), (A, ArC Z ka .long [(.long f0), (.long f1), (.long f2)])] := Hp.front (LA := [_, _]) O12
  have O14 : Hp h1 n0 [(D, ArC Z kd .long [(.long (g0 + (1 : Int64))), (.long f1), (.long f2)]), (F, ArC Z kf .long [(.long f0), (.long f1), (.long f2)]), (G, ArC Z kg .long [(.long g0), (.long g1), (.long g2)]), (B, ArC Z kb .long [(.long l0), (.long l1), (.long l2)]), (L, ArC Z kl .long [(.long l0), (.long l1), (.long l2)]), (A, ArC Z ka .long [(.long f0), (.long f1), (.long f2)])] := Hp.front (LA := [_, _]) O13
  refine Wp.callS (yy := (⟨"com/example/keyed_tensor/keyedtensor/array/DatasetNextGridPositionPinLaw", "at", "([JIII[J[J)Z"⟩ : MethodName)) (pc' := 348) (argsL := [(.ref D), (.int (2 : Int32)), (.int (3 : Int32)), (.int (0 : Int32)), (.ref F), (.ref G)]) (S := []) (rm_atg l Z a0 hw D F G kd kf kg [(.long (g0 + (1 : Int64))), (.long f1), (.long f2)] [(.long f0), (.long f1), (.long f2)] [(.long g0), (.long g1), (.long g2)] (2 : Int32) (3 : Int32) (0 : Int32) (by decide) (by decide) 2 rfl f2 rfl rfl (by decide) (by decide) h1 n0 O14) (hw _ (List.mem_of_getElem? (i := 16) rfl)) (hw _ (List.mem_of_getElem? (i := 17) rfl)) (hw _ (List.mem_of_getElem? (i := 3) rfl)) (hw _ (List.mem_of_getElem? (i := 18) rfl)) (by decide) (W := 0) rfl (lenOf pd_3 rfl) rfl rfl (Nat.le_refl 0) (by decide) (by decide) (by decide) (by decide) at_345 rfl ?_
  rintro _ _ ⟨rfl, rfl⟩
  show Wp _ _ _ _ _ _ _ _ _ _ _ _ 348 #[.val (.long b0), .second, .val (.long b1), .second, .val (.long b2), .second, .val (.int sp), .val (.int po), .val (.int fg), .val (.int (3 : Int32)), .val (.ref F), .val (.ref L), .val (.ref G), .val (.ref D), .val (.ref A), .val (.ref B), .val (.int (0 : Int32)), .val (.ref D), .val (.int (1 : Int32))] [(.int (1 : Int32))]
  refine Wp.ifN (pc' := 351) at_348 (by decide) rfl ?_
  refine Wp.iload (pc' := 353) at_351 rfl rfl ?_
  refine Wp.ifN (pc' := 356) at_353 (by decide) rfl ?_
  refine Wp.iconst (z := (1 : Int32)) (pc' := 357) at_356 (by decide) rfl ?_
  refine Wp.goto (pc' := 361) at_357 (by decide) (by decide) ?_
  exact Wp.retS (t := .boolean) rfl (Or.inl rfl) rfl at_361 (by decide) (by decide) rfl

set_option maxRecDepth 65536 in
set_option maxHeartbeats 40000000 in
theorem tt_32 (l : Launch) (Z : State) (a0 : Array Value) (hw : ∀ d ∈ tables_1, d.before a0 Z = true) (b0 b1 b2 : Int64) (sp po fg : Int32) (F L G : Addr) (kf kl kg : ClassId) (f0 l0 g0 f1 l1 g1 f2 l2 g2 : Int64) (D A B : Addr) (kd ka kb : ClassId) (hc1 : g1 < l1) (hc2 : ¬ g2 < l2) (h : Heap) (n0 : Nat) (O : Hp h n0 [(D, ArC Z kd .long [(.long g0), (.long g1), (.long g2)]), (A, ArC Z ka .long [(.long f0), (.long f1), (.long f2)]), (B, ArC Z kb .long [(.long l0), (.long l1), (.long l2)]), (F, ArC Z kf .long [(.long f0), (.long f1), (.long f2)]), (L, ArC Z kl .long [(.long l0), (.long l1), (.long l2)]), (G, ArC Z kg .long [(.long g0), (.long g1), (.long g2)])]) :
    Wp l Z room_1 x code maxLocals ret n0 (fun v _ => v = some (.int 1)) h 6 18 226 #[.val (.long b0), .second, .val (.long b1), .second, .val (.long b2), .second, .val (.int sp), .val (.int po), .val (.int fg), .val (.int (3 : Int32)), .val (.ref F), .val (.ref L), .val (.ref G), .val (.ref D), .val (.ref A), .val (.ref B), .unset, .unset, .unset] [(.int (1 : Int32))] := by
  refine Wp.istore (L' := #[.val (.long b0), .second, .val (.long b1), .second, .val (.long b2), .second, .val (.int sp), .val (.int po), .val (.int fg), .val (.int (3 : Int32)), .val (.ref F), .val (.ref L), .val (.ref G), .val (.ref D), .val (.ref A), .val (.ref B), .val (.int (1 : Int32)), .unset, .unset]) (pc' := 228) at_226 rfl rfl ?_
  refine Wp.aload (pc' := 230) at_228 rfl rfl rfl ?_
  refine Wp.aload (pc' := 232) at_230 rfl rfl rfl ?_
  refine Wp.aload (pc' := 234) at_232 rfl rfl rfl ?_
  refine Wp.callS (yy := (⟨"com/example/keyed_tensor/keyedtensor/array/Dataset", "nextGridPosition", "([J[J[J)[J"⟩ : MethodName)) (pc' := 237) (argsL := [(.ref D), (.ref A), (.ref B)]) (S := []) (rm_nx32 l Z a0 hw D A B kd ka kb f0 l0 g0 f1 l1 g1 f2 l2 g2 hc1 hc2 h n0 O) (hw _ (List.mem_of_getElem? (i := 9) rfl)) (hw _ (List.mem_of_getElem? (i := 10) rfl)) (hw _ (List.mem_of_getElem? (i := 11) rfl)) (hw _ (List.mem_of_getElem? (i := 12) rfl)) (by decide) (W := 0) rfl (lenOf pd_0 rfl) rfl rfl (Nat.le_refl 0) (by decide) (by decide) (by decide) (by decide) at_234 rfl ?_
  rintro _ h1 ⟨rfl, O1⟩
  have O1 : Hp h1 n0 [(D, ArC Z kd .long [(.long g0), (.long (g1 + (1 : Int64))), (.long f2)]), (A, ArC Z ka .long [(.long f0), (.long f1), (.long f2)]), (B, ArC Z kb .long [(.long l0), (.long l1), (.long l2)]), (F, ArC Z kf .long [(.long f0), (.long f1), (.long f2)]), (L, ArC Z kl .long [(.long l0), (.long l1), (.long l2)]), (G, ArC Z kg .long [(.long g0), (.long g1), (.long g2)])] := O1
  show Wp _ _ _ _ _ _ _ _ _ _ _ _ 237 #[.val (.long b0), .second, .val (.long b1), .second, .val (.long b2), .second, .val (.int sp), .val (.int po), .val (.int fg), .val (.int (3 : Int32)), .val (.ref F), .val (.ref L), .val (.ref G), .val (.ref D), .val (.ref A), .val (.ref B), .val (.int (1 : Int32)), .unset, .unset] [(.ref D)]
  refine Wp.astore (L' := #[.val (.long b0), .second, .val (.long b1), .second, .val (.long b2), .second, .val (.int sp), .val (.int po), .val (.int fg), .val (.int (3 : Int32)), .val (.ref F), .val (.ref L), .val (.ref G), .val (.ref D), .val (.ref A), .val (.ref B), .val (.int (1 : Int32)), .val (.ref D), .unset]) (pc' := 239) at_237 rfl rfl rfl ?_
  refine Wp.aload (pc' := 241) at_239 rfl rfl rfl ?_
  refine Wp.aload (pc' := 243) at_241 rfl rfl rfl ?_
  refine Wp.iload (pc' := 245) at_243 rfl rfl ?_
  have O2 : Hp h1 n0 [(F, ArC Z kf .long [(.long f0), (.long f1), (.long f2)]), (D, ArC Z kd .long [(.long g0), (.long (g1 + (1 : Int64))), (.long f2)]), (A, ArC Z ka .long [(.long f0), (.long f1), (.long f2)]), (B, ArC Z kb .long [(.long l0), (.long l1), (.long l2)]), (L, ArC Z kl .long [(.long l0), (.long l1), (.long l2)]), (G, ArC Z kg .long [(.long g0), (.long g1), (.long g2)])] := Hp.front (LA := [_, _, _]) O1
  have O3 : Hp h1 n0 [(A, ArC Z ka .long [(.long f0), (.long f1), (.long f2)]), (F, ArC Z kf .long [(.long f0), (.long f1), (.long f2)]), (D, ArC Z kd .long [(.long g0), (.long (g1 + (1 : Int64))), (.long f2)]), (B, ArC Z kb .long [(.long l0), (.long l1), (.long l2)]), (L, ArC Z kl .long [(.long l0), (.long l1), (.long l2)]), (G, ArC Z kg .long [(.long g0), (.long g1), (.long g2)])] := Hp.front (LA := [_, _]) O2
  refine Wp.callS (yy := (⟨"com/example/keyed_tensor/keyedtensor/array/DatasetNextGridPositionPinLaw", "same", "([J[JI)Z"⟩ : MethodName)) (pc' := 248) (argsL := [(.ref A), (.ref F), (.int (3 : Int32))]) (S := []) (rm_sm3 l Z a0 hw A F ka kf f0 f1 f2 h1 n0 O3) (hw _ (List.mem_of_getElem? (i := 13) rfl)) (hw _ (List.mem_of_getElem? (i := 14) rfl)) (hw _ (List.mem_of_getElem? (i := 3) rfl)) (hw _ (List.mem_of_getElem? (i := 15) rfl)) (by decide) (W := 0) rfl (lenOf pd_1 rfl) rfl rfl (Nat.le_refl 0) (by decide) (by decide) (by decide) (by decide) at_245 rfl ?_
  rintro _ _ ⟨rfl, rfl⟩
  show Wp _ _ _ _ _ _ _ _ _ _ _ _ 248 #[.val (.long b0), .second, .val (.long b1), .second, .val (.long b2), .second, .val (.int sp), .val (.int po), .val (.int fg), .val (.int (3 : Int32)), .val (.ref F), .val (.ref L), .val (.ref G), .val (.ref D), .val (.ref A), .val (.ref B), .val (.int (1 : Int32)), .val (.ref D), .unset] [(.int (1 : Int32))]
  refine Wp.ifN (pc' := 251) at_248 (by decide) rfl ?_
  refine Wp.aload (pc' := 253) at_251 rfl rfl rfl ?_
  refine Wp.aload (pc' := 255) at_253 rfl rfl rfl ?_
  refine Wp.iload (pc' := 257) at_255 rfl rfl ?_
  have O4 : Hp h1 n0 [(L, ArC Z kl .long [(.long l0), (.long l1), (.long l2)]), (A, ArC Z ka .long [(.long f0), (.long f1), (.long f2)]), (F, ArC Z kf .long [(.long f0), (.long f1), (.long f2)]), (D, ArC Z kd .long [(.long g0), (.long (g1 + (1 : Int64))), (.long f2)]), (B, ArC Z kb .long [(.long l0), (.long l1), (.long l2)]), (G, ArC Z kg .long [(.long g0), (.long g1), (.long g2)])] := Hp.front (LA := [_, _, _, _]) O3
  have O5 : Hp h1 n0 [(B, ArC Z kb .long [(.long l0), (.long l1), (.long l2)]), (L, ArC Z kl .long [(.long l0), (.long l1), (.long l2)]), (A, ArC Z ka .long [(.long f0), (.long f1), (.long f2)]), (F, ArC Z kf .long [(.long f0), (.long f1), (.long f2)]), (D, ArC Z kd .long [(.long g0), (.long (g1 + (1 : Int64))), (.long f2)]), (G, ArC Z kg .long [(.long g0), (.long g1), (.long g2)])] := Hp.front (LA := [_, _, _, _]) O4
  refine Wp.callS (yy := (⟨"com/example/keyed_tensor/keyedtensor/array/DatasetNextGridPositionPinLaw", "same", "([J[JI)Z"⟩ : MethodName)) (pc' := 260) (argsL := [(.ref B), (.ref L), (.int (3 : Int32))]) (S := []) (rm_sm3 l Z a0 hw B L kb kl l0 l1 l2 h1 n0 O5) (hw _ (List.mem_of_getElem? (i := 13) rfl)) (hw _ (List.mem_of_getElem? (i := 14) rfl)) (hw _ (List.mem_of_getElem? (i := 3) rfl)) (hw _ (List.mem_of_getElem? (i := 15) rfl)) (by decide) (W := 0) rfl (lenOf pd_1 rfl) rfl rfl (Nat.le_refl 0) (by decide) (by decide) (by decide) (by decide) at_257 rfl ?_
  rintro _ _ ⟨rfl, rfl⟩
  show Wp _ _ _ _ _ _ _ _ _ _ _ _ 260 #[.val (.long b0), .second, .val (.long b1), .second, .val (.long b2), .second, .val (.int sp), .val (.int po), .val (.int fg), .val (.int (3 : Int32)), .val (.ref F), .val (.ref L), .val (.ref G), .val (.ref D), .val (.ref A), .val (.ref B), .val (.int (1 : Int32)), .val (.ref D), .unset] [(.int (1 : Int32))]
  refine Wp.ifN (pc' := 263) at_260 (by decide) rfl ?_
  refine Wp.iconst (z := (1 : Int32)) (pc' := 264) at_263 (by decide) rfl ?_
  refine Wp.goto (pc' := 268) at_264 (by decide) (by decide) ?_
  refine Wp.istore (L' := #[.val (.long b0), .second, .val (.long b1), .second, .val (.long b2), .second, .val (.int sp), .val (.int po), .val (.int fg), .val (.int (3 : Int32)), .val (.ref F), .val (.ref L), .val (.ref G), .val (.ref D), .val (.ref A), .val (.ref B), .val (.int (1 : Int32)), .val (.ref D), .val (.int (1 : Int32))]) (pc' := 270) at_268 rfl rfl ?_
  refine Wp.iload (pc' := 272) at_270 rfl rfl ?_
  refine Wp.ifY (pc' := 291) at_272 (by decide) (by decide) (by decide) ?_
  refine Wp.aload (pc' := 293) at_291 rfl rfl rfl ?_
  refine Wp.aload (pc' := 295) at_293 rfl rfl rfl ?_
  refine Wp.acmpY (pc' := 300) at_295 rfl rfl (by simp [Free.XT.acmp]) (by decide) (by decide) ?_
  refine Wp.aload (pc' := 302) at_300 rfl rfl rfl ?_
  refine Wp.iconst (z := (0 : Int32)) (pc' := 303) at_302 (by decide) rfl ?_
  refine Wp.iload (pc' := 305) at_303 rfl rfl ?_
  refine Wp.iload (pc' := 307) at_305 rfl rfl ?_
  refine Wp.aload (pc' := 309) at_307 rfl rfl rfl ?_
  refine Wp.aload (pc' := 311) at_309 rfl rfl rfl ?_
  have O6 : Hp h1 n0 [(G, ArC Z kg .long [(.long g0), (.long g1), (.long g2)]), (B, ArC Z kb .long [(.long l0), (.long l1), (.long l2)]), (L, ArC Z kl .long [(.long l0), (.long l1), (.long l2)]), (A, ArC Z ka .long [(.long f0), (.long f1), (.long f2)]), (F, ArC Z kf .long [(.long f0), (.long f1), (.long f2)]), (D, ArC Z kd .long [(.long g0), (.long (g1 + (1 : Int64))), (.long f2)])] := Hp.front (LA := [_, _, _, _, _]) O5
  have O7 : Hp h1 n0 [(F, ArC Z kf .long [(.long f0), (.long f1), (.long f2)]), (G, ArC Z kg .long [(.long g0), (.long g1), (.long g2)]), (B, ArC Z kb .long [(.long l0), (.long l1), (.long l2)]), (L, ArC Z kl .long [(.long l0), (.long l1), (.long l2)]), (A, ArC Z ka .long [(.long f0), (.long f1), (.long f2)]), (D, ArC Z kd .long [(.long g0), (.long (g1 + (1 : Int64))), (.long f2)])] := Hp.front (LA := [_, _, _, _]) O6
  have O8 : Hp h1 n0 [(D, ArC Z kd .long [(.long g0), (.long (g1 + (1 : Int64))), (.long f2)]), (F, ArC Z kf .long [(.long f0), (.long f1), (.long f2)]), (G, ArC Z kg .long [(.long g0), (.long g1), (.long g2)]), (B, ArC Z kb .long [(.long l0), (.long l1), (.long l2)]), (L, ArC Z kl .long [(.long l0), (.long l1), (.long l2)]), (A, ArC Z ka .long [(.long f0), (.long f1), (.long f2)])] := Hp.front (LA := [_, _, _, _, _]) O7
  refine Wp.callS (yy := (⟨"com/example/keyed_tensor/keyedtensor/array/DatasetNextGridPositionPinLaw", "at", "([JIII[J[J)Z"⟩ : MethodName)) (pc' := 314) (argsL := [(.ref D), (.int (0 : Int32)), (.int (3 : Int32)), (.int (1 : Int32)), (.ref F), (.ref G)]) (S := []) (rm_atl l Z a0 hw D F G kd kf kg [(.long g0), (.long (g1 + (1 : Int64))), (.long f2)] [(.long f0), (.long f1), (.long f2)] [(.long g0), (.long g1), (.long g2)] (0 : Int32) (3 : Int32) (1 : Int32) (by decide) (by decide) 0 rfl g0 rfl rfl (by decide) h1 n0 O8) (hw _ (List.mem_of_getElem? (i := 16) rfl)) (hw _ (List.mem_of_getElem? (i := 17) rfl)) (hw _ (List.mem_of_getElem? (i := 3) rfl)) (hw _ (List.mem_of_getElem? (i := 18) rfl)) (by decide) (W := 0) rfl (lenOf pd_3 rfl) rfl rfl (Nat.le_refl 0) (by decide) (by decide) (by decide) (by decide) at_311 rfl ?_
  rintro _ _ ⟨rfl, rfl⟩
  show Wp _ _ _ _ _ _ _ _ _ _ _ _ 314 #[.val (.long b0), .second, .val (.long b1), .second, .val (.long b2), .second, .val (.int sp), .val (.int po), .val (.int fg), .val (.int (3 : Int32)), .val (.ref F), .val (.ref L), .val (.ref G), .val (.ref D), .val (.ref A), .val (.ref B), .val (.int (1 : Int32)), .val (.ref D), .val (.int (1 : Int32))] [(.int (1 : Int32))]
  refine Wp.ifN (pc' := 317) at_314 (by decide) rfl ?_
  refine Wp.aload (pc' := 319) at_317 rfl rfl rfl ?_
  refine Wp.iconst (z := (1 : Int32)) (pc' := 320) at_319 (by decide) rfl ?_
  refine Wp.iload (pc' := 322) at_320 rfl rfl ?_
  refine Wp.iload (pc' := 324) at_322 rfl rfl ?_
  refine Wp.aload (pc' := 326) at_324 rfl rfl rfl ?_
  refine Wp.aload (pc' := 328) at_326 rfl rfl rfl ?_
  have O9 : Hp h1 n0 [(G, ArC Z kg .long [(.long g0), (.long g1), (.long g2)]), (D, ArC Z kd .long [(.long g0), (.long (g1 + (1 : Int64))), (.long f2)]), (F, ArC Z kf .long [(.long f0), (.long f1), (.long f2)]), (B, ArC Z kb .long [(.long l0), (.long l1), (.long l2)]), (L, ArC Z kl .long [(.long l0), (.long l1), (.long l2)]), (A, ArC Z ka .long [(.long f0), (.long f1), (.long f2)])] := Hp.front (LA := [_, _]) O8
  have O10 : Hp h1 n0 [(F, ArC Z kf .long [(.long f0), (.long f1), (.long f2)]), (G, ArC Z kg .long [(.long g0), (.long g1), (.long g2)]), (D, ArC Z kd .long [(.long g0), (.long (g1 + (1 : Int64))), (.long f2)]), (B, ArC Z kb .long [(.long l0), (.long l1), (.long l2)]), (L, ArC Z kl .long [(.long l0), (.long l1), (.long l2)]), (A, ArC Z ka .long [(.long f0), (.long f1), (.long f2)])] := Hp.front (LA := [_, _]) O9
  have O11 : Hp h1 n0 [(D, ArC Z kd .long [(.long g0), (.long (g1 + (1 : Int64))), (.long f2)]), (F, ArC Z kf .long [(.long f0), (.long f1), (.long f2)]), (G, ArC Z kg .long [(.long g0), (.long g1), (.long g2)]), (B, ArC Z kb .long [(.long l0), (.long l1), (.long l2)]), (L, ArC Z kl .long [(.long l0), (.long l1), (.long l2)]), (A, ArC Z ka .long [(.long f0), (.long f1), (.long f2)])] := Hp.front (LA := [_, _]) O10
  refine Wp.callS (yy := (⟨"com/example/keyed_tensor/keyedtensor/array/DatasetNextGridPositionPinLaw", "at", "([JIII[J[J)Z"⟩ : MethodName)) (pc' := 331) (argsL := [(.ref D), (.int (1 : Int32)), (.int (3 : Int32)), (.int (1 : Int32)), (.ref F), (.ref G)]) (S := []) (rm_ate l Z a0 hw D F G kd kf kg [(.long g0), (.long (g1 + (1 : Int64))), (.long f2)] [(.long f0), (.long f1), (.long f2)] [(.long g0), (.long g1), (.long g2)] (1 : Int32) (3 : Int32) (1 : Int32) (by decide) (by decide) 1 rfl g1 rfl rfl (by decide) rfl h1 n0 O11) (hw _ (List.mem_of_getElem? (i := 16) rfl)) (hw _ (List.mem_of_getElem? (i := 17) rfl)) (hw _ (List.mem_of_getElem? (i := 3) rfl)) (hw _ (List.mem_of_getElem? (i := 18) rfl)) (by decide) (W := 0) rfl (lenOf pd_3 rfl) rfl rfl (Nat.le_refl 0) (by decide) (by decide) (by decide) (by decide) at_328 rfl ?_
  rintro _ _ ⟨rfl, rfl⟩
  show Wp _ _ _ _ _ _ _ _ _ _ _ _ 331 #[.val (.long b0), .second, .val (.long b1), .second, .val (.long b2), .second, .val (.int sp), .val (.int po), .val (.int fg), .val (.int (3 : Int32)), .val (.ref F), .val (.ref L), .val (.ref G), .val (.ref D), .val (.ref A), .val (.ref B), .val (.int (1 : Int32)), .val (.ref D), .val (.int (1 : Int32))] [(.int (1 : Int32))]
  refine Wp.ifN (pc' := 334) at_331 (by decide) rfl ?_
  refine Wp.aload (pc' := 336) at_334 rfl rfl rfl ?_
  refine Wp.iconst (z := (2 : Int32)) (pc' := 337) at_336 (by decide) rfl ?_
  refine Wp.iload (pc' := 339) at_337 rfl rfl ?_
  refine Wp.iload (pc' := 341) at_339 rfl rfl ?_
  refine Wp.aload (pc' := 343) at_341 rfl rfl rfl ?_
  refine Wp.aload (pc' := 345) at_343 rfl rfl rfl ?_
  have O12 : Hp h1 n0 [(G, ArC Z kg .long [(.long g0), (.long g1), (.long g2)]), (D, ArC Z kd .long [(.long g0), (.long (g1 + (1 : Int64))), (.long f2)]), (F, ArC Z kf .long [(.long f0), (.long f1), (.long f2)]), (B, ArC Z kb .long [(.long l0), (.long l1), (.long l2)]), (L, ArC Z kl .long [(.long l0), (.long l1), (.long l2)]), (A, ArC Z ka .long [(.long f0), (.long f1), (.long f2)])] := Hp.front (LA := [_, _]) O11
  have O13 : Hp h1 n0 [(F, ArC Z kf .long [(.long f0), (.long f1), (.long f2)]), (G, ArC Z kg .long [(.long g0), (.long g1), (.long g2)]), (D, ArC Z kd .long [(.long g0), (.long (g1 + (1 : Int64))), (.long f2)]), (B, ArC Z kb .long [(.long l0), (.long l1), (.long l2)]), (L, ArC Z kl .long [(.long l0), (.long l1), (.long l2)]), (A, ArC Z ka .long [(.long f0), (.long f1), (.long f2)])] := Hp.front (LA := [_, _]) O12
  have O14 : Hp h1 n0 [(D, ArC Z kd .long [(.long g0), (.long (g1 + (1 : Int64))), (.long f2)]), (F, ArC Z kf .long [(.long f0), (.long f1), (.long f2)]), (G, ArC Z kg .long [(.long g0), (.long g1), (.long g2)]), (B, ArC Z kb .long [(.long l0), (.long l1), (.long l2)]), (L, ArC Z kl .long [(.long l0), (.long l1), (.long l2)]), (A, ArC Z ka .long [(.long f0), (.long f1), (.long f2)])] := Hp.front (LA := [_, _]) O13
  refine Wp.callS (yy := (⟨"com/example/keyed_tensor/keyedtensor/array/DatasetNextGridPositionPinLaw", "at", "([JIII[J[J)Z"⟩ : MethodName)) (pc' := 348) (argsL := [(.ref D), (.int (2 : Int32)), (.int (3 : Int32)), (.int (1 : Int32)), (.ref F), (.ref G)]) (S := []) (rm_atg l Z a0 hw D F G kd kf kg [(.long g0), (.long (g1 + (1 : Int64))), (.long f2)] [(.long f0), (.long f1), (.long f2)] [(.long g0), (.long g1), (.long g2)] (2 : Int32) (3 : Int32) (1 : Int32) (by decide) (by decide) 2 rfl f2 rfl rfl (by decide) (by decide) h1 n0 O14) (hw _ (List.mem_of_getElem? (i := 16) rfl)) (hw _ (List.mem_of_getElem? (i := 17) rfl)) (hw _ (List.mem_of_getElem? (i := 3) rfl)) (hw _ (List.mem_of_getElem? (i := 18) rfl)) (by decide) (W := 0) rfl (lenOf pd_3 rfl) rfl rfl (Nat.le_refl 0) (by decide) (by decide) (by decide) (by decide) at_345 rfl ?_
  rintro _ _ ⟨rfl, rfl⟩
  show Wp _ _ _ _ _ _ _ _ _ _ _ _ 348 #[.val (.long b0), .second, .val (.long b1), .second, .val (.long b2), .second, .val (.int sp), .val (.int po), .val (.int fg), .val (.int (3 : Int32)), .val (.ref F), .val (.ref L), .val (.ref G), .val (.ref D), .val (.ref A), .val (.ref B), .val (.int (1 : Int32)), .val (.ref D), .val (.int (1 : Int32))] [(.int (1 : Int32))]
  refine Wp.ifN (pc' := 351) at_348 (by decide) rfl ?_
  refine Wp.iload (pc' := 353) at_351 rfl rfl ?_
  refine Wp.ifN (pc' := 356) at_353 (by decide) rfl ?_
  refine Wp.iconst (z := (1 : Int32)) (pc' := 357) at_356 (by decide) rfl ?_
  refine Wp.goto (pc' := 361) at_357 (by decide) (by decide) ?_
  exact Wp.retS (t := .boolean) rfl (Or.inl rfl) rfl at_361 (by decide) (by decide) rfl

set_option maxRecDepth 65536 in
set_option maxHeartbeats 40000000 in
theorem tt_33 (l : Launch) (Z : State) (a0 : Array Value) (hw : ∀ d ∈ tables_1, d.before a0 Z = true) (b0 b1 b2 : Int64) (sp po fg : Int32) (F L G : Addr) (kf kl kg : ClassId) (f0 l0 g0 f1 l1 g1 f2 l2 g2 : Int64) (D A B : Addr) (kd ka kb : ClassId) (hc2 : g2 < l2) (h : Heap) (n0 : Nat) (O : Hp h n0 [(D, ArC Z kd .long [(.long g0), (.long g1), (.long g2)]), (A, ArC Z ka .long [(.long f0), (.long f1), (.long f2)]), (B, ArC Z kb .long [(.long l0), (.long l1), (.long l2)]), (F, ArC Z kf .long [(.long f0), (.long f1), (.long f2)]), (L, ArC Z kl .long [(.long l0), (.long l1), (.long l2)]), (G, ArC Z kg .long [(.long g0), (.long g1), (.long g2)])]) :
    Wp l Z room_1 x code maxLocals ret n0 (fun v _ => v = some (.int 1)) h 6 18 226 #[.val (.long b0), .second, .val (.long b1), .second, .val (.long b2), .second, .val (.int sp), .val (.int po), .val (.int fg), .val (.int (3 : Int32)), .val (.ref F), .val (.ref L), .val (.ref G), .val (.ref D), .val (.ref A), .val (.ref B), .unset, .unset, .unset] [(.int (2 : Int32))] := by
  refine Wp.istore (L' := #[.val (.long b0), .second, .val (.long b1), .second, .val (.long b2), .second, .val (.int sp), .val (.int po), .val (.int fg), .val (.int (3 : Int32)), .val (.ref F), .val (.ref L), .val (.ref G), .val (.ref D), .val (.ref A), .val (.ref B), .val (.int (2 : Int32)), .unset, .unset]) (pc' := 228) at_226 rfl rfl ?_
  refine Wp.aload (pc' := 230) at_228 rfl rfl rfl ?_
  refine Wp.aload (pc' := 232) at_230 rfl rfl rfl ?_
  refine Wp.aload (pc' := 234) at_232 rfl rfl rfl ?_
  refine Wp.callS (yy := (⟨"com/example/keyed_tensor/keyedtensor/array/Dataset", "nextGridPosition", "([J[J[J)[J"⟩ : MethodName)) (pc' := 237) (argsL := [(.ref D), (.ref A), (.ref B)]) (S := []) (rm_nx33 l Z a0 hw D A B kd ka kb f0 l0 g0 f1 l1 g1 f2 l2 g2 hc2 h n0 O) (hw _ (List.mem_of_getElem? (i := 9) rfl)) (hw _ (List.mem_of_getElem? (i := 10) rfl)) (hw _ (List.mem_of_getElem? (i := 11) rfl)) (hw _ (List.mem_of_getElem? (i := 12) rfl)) (by decide) (W := 0) rfl (lenOf pd_0 rfl) rfl rfl (Nat.le_refl 0) (by decide) (by decide) (by decide) (by decide) at_234 rfl ?_
  rintro _ h1 ⟨rfl, O1⟩
  have O1 : Hp h1 n0 [(D, ArC Z kd .long [(.long g0), (.long g1), (.long (g2 + (1 : Int64)))]), (A, ArC Z ka .long [(.long f0), (.long f1), (.long f2)]), (B, ArC Z kb .long [(.long l0), (.long l1), (.long l2)]), (F, ArC Z kf .long [(.long f0), (.long f1), (.long f2)]), (L, ArC Z kl .long [(.long l0), (.long l1), (.long l2)]), (G, ArC Z kg .long [(.long g0), (.long g1), (.long g2)])] := O1
  show Wp _ _ _ _ _ _ _ _ _ _ _ _ 237 #[.val (.long b0), .second, .val (.long b1), .second, .val (.long b2), .second, .val (.int sp), .val (.int po), .val (.int fg), .val (.int (3 : Int32)), .val (.ref F), .val (.ref L), .val (.ref G), .val (.ref D), .val (.ref A), .val (.ref B), .val (.int (2 : Int32)), .unset, .unset] [(.ref D)]
  refine Wp.astore (L' := #[.val (.long b0), .second, .val (.long b1), .second, .val (.long b2), .second, .val (.int sp), .val (.int po), .val (.int fg), .val (.int (3 : Int32)), .val (.ref F), .val (.ref L), .val (.ref G), .val (.ref D), .val (.ref A), .val (.ref B), .val (.int (2 : Int32)), .val (.ref D), .unset]) (pc' := 239) at_237 rfl rfl rfl ?_
  refine Wp.aload (pc' := 241) at_239 rfl rfl rfl ?_
  refine Wp.aload (pc' := 243) at_241 rfl rfl rfl ?_
  refine Wp.iload (pc' := 245) at_243 rfl rfl ?_
  have O2 : Hp h1 n0 [(F, ArC Z kf .long [(.long f0), (.long f1), (.long f2)]), (D, ArC Z kd .long [(.long g0), (.long g1), (.long (g2 + (1 : Int64)))]), (A, ArC Z ka .long [(.long f0), (.long f1), (.long f2)]), (B, ArC Z kb .long [(.long l0), (.long l1), (.long l2)]), (L, ArC Z kl .long [(.long l0), (.long l1), (.long l2)]), (G, ArC Z kg .long [(.long g0), (.long g1), (.long g2)])] := Hp.front (LA := [_, _, _]) O1
  have O3 : Hp h1 n0 [(A, ArC Z ka .long [(.long f0), (.long f1), (.long f2)]), (F, ArC Z kf .long [(.long f0), (.long f1), (.long f2)]), (D, ArC Z kd .long [(.long g0), (.long g1), (.long (g2 + (1 : Int64)))]), (B, ArC Z kb .long [(.long l0), (.long l1), (.long l2)]), (L, ArC Z kl .long [(.long l0), (.long l1), (.long l2)]), (G, ArC Z kg .long [(.long g0), (.long g1), (.long g2)])] := Hp.front (LA := [_, _]) O2
  refine Wp.callS (yy := (⟨"com/example/keyed_tensor/keyedtensor/array/DatasetNextGridPositionPinLaw", "same", "([J[JI)Z"⟩ : MethodName)) (pc' := 248) (argsL := [(.ref A), (.ref F), (.int (3 : Int32))]) (S := []) (rm_sm3 l Z a0 hw A F ka kf f0 f1 f2 h1 n0 O3) (hw _ (List.mem_of_getElem? (i := 13) rfl)) (hw _ (List.mem_of_getElem? (i := 14) rfl)) (hw _ (List.mem_of_getElem? (i := 3) rfl)) (hw _ (List.mem_of_getElem? (i := 15) rfl)) (by decide) (W := 0) rfl (lenOf pd_1 rfl) rfl rfl (Nat.le_refl 0) (by decide) (by decide) (by decide) (by decide) at_245 rfl ?_
  rintro _ _ ⟨rfl, rfl⟩
  show Wp _ _ _ _ _ _ _ _ _ _ _ _ 248 #[.val (.long b0), .second, .val (.long b1), .second, .val (.long b2), .second, .val (.int sp), .val (.int po), .val (.int fg), .val (.int (3 : Int32)), .val (.ref F), .val (.ref L), .val (.ref G), .val (.ref D), .val (.ref A), .val (.ref B), .val (.int (2 : Int32)), .val (.ref D), .unset] [(.int (1 : Int32))]
  refine Wp.ifN (pc' := 251) at_248 (by decide) rfl ?_
  refine Wp.aload (pc' := 253) at_251 rfl rfl rfl ?_
  refine Wp.aload (pc' := 255) at_253 rfl rfl rfl ?_
  refine Wp.iload (pc' := 257) at_255 rfl rfl ?_
  have O4 : Hp h1 n0 [(L, ArC Z kl .long [(.long l0), (.long l1), (.long l2)]), (A, ArC Z ka .long [(.long f0), (.long f1), (.long f2)]), (F, ArC Z kf .long [(.long f0), (.long f1), (.long f2)]), (D, ArC Z kd .long [(.long g0), (.long g1), (.long (g2 + (1 : Int64)))]), (B, ArC Z kb .long [(.long l0), (.long l1), (.long l2)]), (G, ArC Z kg .long [(.long g0), (.long g1), (.long g2)])] := Hp.front (LA := [_, _, _, _]) O3
  have O5 : Hp h1 n0 [(B, ArC Z kb .long [(.long l0), (.long l1), (.long l2)]), (L, ArC Z kl .long [(.long l0), (.long l1), (.long l2)]), (A, ArC Z ka .long [(.long f0), (.long f1), (.long f2)]), (F, ArC Z kf .long [(.long f0), (.long f1), (.long f2)]), (D, ArC Z kd .long [(.long g0), (.long g1), (.long (g2 + (1 : Int64)))]), (G, ArC Z kg .long [(.long g0), (.long g1), (.long g2)])] := Hp.front (LA := [_, _, _, _]) O4
  refine Wp.callS (yy := (⟨"com/example/keyed_tensor/keyedtensor/array/DatasetNextGridPositionPinLaw", "same", "([J[JI)Z"⟩ : MethodName)) (pc' := 260) (argsL := [(.ref B), (.ref L), (.int (3 : Int32))]) (S := []) (rm_sm3 l Z a0 hw B L kb kl l0 l1 l2 h1 n0 O5) (hw _ (List.mem_of_getElem? (i := 13) rfl)) (hw _ (List.mem_of_getElem? (i := 14) rfl)) (hw _ (List.mem_of_getElem? (i := 3) rfl)) (hw _ (List.mem_of_getElem? (i := 15) rfl)) (by decide) (W := 0) rfl (lenOf pd_1 rfl) rfl rfl (Nat.le_refl 0) (by decide) (by decide) (by decide) (by decide) at_257 rfl ?_
  rintro _ _ ⟨rfl, rfl⟩
  show Wp _ _ _ _ _ _ _ _ _ _ _ _ 260 #[.val (.long b0), .second, .val (.long b1), .second, .val (.long b2), .second, .val (.int sp), .val (.int po), .val (.int fg), .val (.int (3 : Int32)), .val (.ref F), .val (.ref L), .val (.ref G), .val (.ref D), .val (.ref A), .val (.ref B), .val (.int (2 : Int32)), .val (.ref D), .unset] [(.int (1 : Int32))]
  refine Wp.ifN (pc' := 263) at_260 (by decide) rfl ?_
  refine Wp.iconst (z := (1 : Int32)) (pc' := 264) at_263 (by decide) rfl ?_
  refine Wp.goto (pc' := 268) at_264 (by decide) (by decide) ?_
  refine Wp.istore (L' := #[.val (.long b0), .second, .val (.long b1), .second, .val (.long b2), .second, .val (.int sp), .val (.int po), .val (.int fg), .val (.int (3 : Int32)), .val (.ref F), .val (.ref L), .val (.ref G), .val (.ref D), .val (.ref A), .val (.ref B), .val (.int (2 : Int32)), .val (.ref D), .val (.int (1 : Int32))]) (pc' := 270) at_268 rfl rfl ?_
  refine Wp.iload (pc' := 272) at_270 rfl rfl ?_
  refine Wp.ifY (pc' := 291) at_272 (by decide) (by decide) (by decide) ?_
  refine Wp.aload (pc' := 293) at_291 rfl rfl rfl ?_
  refine Wp.aload (pc' := 295) at_293 rfl rfl rfl ?_
  refine Wp.acmpY (pc' := 300) at_295 rfl rfl (by simp [Free.XT.acmp]) (by decide) (by decide) ?_
  refine Wp.aload (pc' := 302) at_300 rfl rfl rfl ?_
  refine Wp.iconst (z := (0 : Int32)) (pc' := 303) at_302 (by decide) rfl ?_
  refine Wp.iload (pc' := 305) at_303 rfl rfl ?_
  refine Wp.iload (pc' := 307) at_305 rfl rfl ?_
  refine Wp.aload (pc' := 309) at_307 rfl rfl rfl ?_
  refine Wp.aload (pc' := 311) at_309 rfl rfl rfl ?_
  have O6 : Hp h1 n0 [(G, ArC Z kg .long [(.long g0), (.long g1), (.long g2)]), (B, ArC Z kb .long [(.long l0), (.long l1), (.long l2)]), (L, ArC Z kl .long [(.long l0), (.long l1), (.long l2)]), (A, ArC Z ka .long [(.long f0), (.long f1), (.long f2)]), (F, ArC Z kf .long [(.long f0), (.long f1), (.long f2)]), (D, ArC Z kd .long [(.long g0), (.long g1), (.long (g2 + (1 : Int64)))])] := Hp.front (LA := [_, _, _, _, _]) O5
  have O7 : Hp h1 n0 [(F, ArC Z kf .long [(.long f0), (.long f1), (.long f2)]), (G, ArC Z kg .long [(.long g0), (.long g1), (.long g2)]), (B, ArC Z kb .long [(.long l0), (.long l1), (.long l2)]), (L, ArC Z kl .long [(.long l0), (.long l1), (.long l2)]), (A, ArC Z ka .long [(.long f0), (.long f1), (.long f2)]), (D, ArC Z kd .long [(.long g0), (.long g1), (.long (g2 + (1 : Int64)))])] := Hp.front (LA := [_, _, _, _]) O6
  have O8 : Hp h1 n0 [(D, ArC Z kd .long [(.long g0), (.long g1), (.long (g2 + (1 : Int64)))]), (F, ArC Z kf .long [(.long f0), (.long f1), (.long f2)]), (G, ArC Z kg .long [(.long g0), (.long g1), (.long g2)]), (B, ArC Z kb .long [(.long l0), (.long l1), (.long l2)]), (L, ArC Z kl .long [(.long l0), (.long l1), (.long l2)]), (A, ArC Z ka .long [(.long f0), (.long f1), (.long f2)])] := Hp.front (LA := [_, _, _, _, _]) O7
  refine Wp.callS (yy := (⟨"com/example/keyed_tensor/keyedtensor/array/DatasetNextGridPositionPinLaw", "at", "([JIII[J[J)Z"⟩ : MethodName)) (pc' := 314) (argsL := [(.ref D), (.int (0 : Int32)), (.int (3 : Int32)), (.int (2 : Int32)), (.ref F), (.ref G)]) (S := []) (rm_atl l Z a0 hw D F G kd kf kg [(.long g0), (.long g1), (.long (g2 + (1 : Int64)))] [(.long f0), (.long f1), (.long f2)] [(.long g0), (.long g1), (.long g2)] (0 : Int32) (3 : Int32) (2 : Int32) (by decide) (by decide) 0 rfl g0 rfl rfl (by decide) h1 n0 O8) (hw _ (List.mem_of_getElem? (i := 16) rfl)) (hw _ (List.mem_of_getElem? (i := 17) rfl)) (hw _ (List.mem_of_getElem? (i := 3) rfl)) (hw _ (List.mem_of_getElem? (i := 18) rfl)) (by decide) (W := 0) rfl (lenOf pd_3 rfl) rfl rfl (Nat.le_refl 0) (by decide) (by decide) (by decide) (by decide) at_311 rfl ?_
  rintro _ _ ⟨rfl, rfl⟩
  show Wp _ _ _ _ _ _ _ _ _ _ _ _ 314 #[.val (.long b0), .second, .val (.long b1), .second, .val (.long b2), .second, .val (.int sp), .val (.int po), .val (.int fg), .val (.int (3 : Int32)), .val (.ref F), .val (.ref L), .val (.ref G), .val (.ref D), .val (.ref A), .val (.ref B), .val (.int (2 : Int32)), .val (.ref D), .val (.int (1 : Int32))] [(.int (1 : Int32))]
  refine Wp.ifN (pc' := 317) at_314 (by decide) rfl ?_
  refine Wp.aload (pc' := 319) at_317 rfl rfl rfl ?_
  refine Wp.iconst (z := (1 : Int32)) (pc' := 320) at_319 (by decide) rfl ?_
  refine Wp.iload (pc' := 322) at_320 rfl rfl ?_
  refine Wp.iload (pc' := 324) at_322 rfl rfl ?_
  refine Wp.aload (pc' := 326) at_324 rfl rfl rfl ?_
  refine Wp.aload (pc' := 328) at_326 rfl rfl rfl ?_
  have O9 : Hp h1 n0 [(G, ArC Z kg .long [(.long g0), (.long g1), (.long g2)]), (D, ArC Z kd .long [(.long g0), (.long g1), (.long (g2 + (1 : Int64)))]), (F, ArC Z kf .long [(.long f0), (.long f1), (.long f2)]), (B, ArC Z kb .long [(.long l0), (.long l1), (.long l2)]), (L, ArC Z kl .long [(.long l0), (.long l1), (.long l2)]), (A, ArC Z ka .long [(.long f0), (.long f1), (.long f2)])] := Hp.front (LA := [_, _]) O8
  have O10 : Hp h1 n0 [(F, ArC Z kf .long [(.long f0), (.long f1), (.long f2)]), (G, ArC Z kg .long [(.long g0), (.long g1), (.long g2)]), (D, ArC Z kd .long [(.long g0), (.long g1), (.long (g2 + (1 : Int64)))]), (B, ArC Z kb .long [(.long l0), (.long l1), (.long l2)]), (L, ArC Z kl .long [(.long l0), (.long l1), (.long l2)]), (A, ArC Z ka .long [(.long f0), (.long f1), (.long f2)])] := Hp.front (LA := [_, _]) O9
  have O11 : Hp h1 n0 [(D, ArC Z kd .long [(.long g0), (.long g1), (.long (g2 + (1 : Int64)))]), (F, ArC Z kf .long [(.long f0), (.long f1), (.long f2)]), (G, ArC Z kg .long [(.long g0), (.long g1), (.long g2)]), (B, ArC Z kb .long [(.long l0), (.long l1), (.long l2)]), (L, ArC Z kl .long [(.long l0), (.long l1), (.long l2)]), (A, ArC Z ka .long [(.long f0), (.long f1), (.long f2)])] := Hp.front (LA := [_, _]) O10
  refine Wp.callS (yy := (⟨"com/example/keyed_tensor/keyedtensor/array/DatasetNextGridPositionPinLaw", "at", "([JIII[J[J)Z"⟩ : MethodName)) (pc' := 331) (argsL := [(.ref D), (.int (1 : Int32)), (.int (3 : Int32)), (.int (2 : Int32)), (.ref F), (.ref G)]) (S := []) (rm_atl l Z a0 hw D F G kd kf kg [(.long g0), (.long g1), (.long (g2 + (1 : Int64)))] [(.long f0), (.long f1), (.long f2)] [(.long g0), (.long g1), (.long g2)] (1 : Int32) (3 : Int32) (2 : Int32) (by decide) (by decide) 1 rfl g1 rfl rfl (by decide) h1 n0 O11) (hw _ (List.mem_of_getElem? (i := 16) rfl)) (hw _ (List.mem_of_getElem? (i := 17) rfl)) (hw _ (List.mem_of_getElem? (i := 3) rfl)) (hw _ (List.mem_of_getElem? (i := 18) rfl)) (by decide) (W := 0) rfl (lenOf pd_3 rfl) rfl rfl (Nat.le_refl 0) (by decide) (by decide) (by decide) (by decide) at_328 rfl ?_
  rintro _ _ ⟨rfl, rfl⟩
  show Wp _ _ _ _ _ _ _ _ _ _ _ _ 331 #[.val (.long b0), .second, .val (.long b1), .second, .val (.long b2), .second, .val (.int sp), .val (.int po), .val (.int fg), .val (.int (3 : Int32)), .val (.ref F), .val (.ref L), .val (.ref G), .val (.ref D), .val (.ref A), .val (.ref B), .val (.int (2 : Int32)), .val (.ref D), .val (.int (1 : Int32))] [(.int (1 : Int32))]
  refine Wp.ifN (pc' := 334) at_331 (by decide) rfl ?_
  refine Wp.aload (pc' := 336) at_334 rfl rfl rfl ?_
  refine Wp.iconst (z := (2 : Int32)) (pc' := 337) at_336 (by decide) rfl ?_
  refine Wp.iload (pc' := 339) at_337 rfl rfl ?_
  refine Wp.iload (pc' := 341) at_339 rfl rfl ?_
  refine Wp.aload (pc' := 343) at_341 rfl rfl rfl ?_
  refine Wp.aload (pc' := 345) at_343 rfl rfl rfl ?_
  have O12 : Hp h1 n0 [(G, ArC Z kg .long [(.long g0), (.long g1), (.long g2)]), (D, ArC Z kd .long [(.long g0), (.long g1), (.long (g2 + (1 : Int64)))]), (F, ArC Z kf .long [(.long f0), (.long f1), (.long f2)]), (B, ArC Z kb .long [(.long l0), (.long l1), (.long l2)]), (L, ArC Z kl .long [(.long l0), (.long l1), (.long l2)]), (A, ArC Z ka .long [(.long f0), (.long f1), (.long f2)])] := Hp.front (LA := [_, _]) O11
  have O13 : Hp h1 n0 [(F, ArC Z kf .long [(.long f0), (.long f1), (.long f2)]), (G, ArC Z kg .long [(.long g0), (.long g1), (.long g2)]), (D, ArC Z kd .long [(.long g0), (.long g1), (.long (g2 + (1 : Int64)))]), (B, ArC Z kb .long [(.long l0), (.long l1), (.long l2)]), (L, ArC Z kl .long [(.long l0), (.long l1), (.long l2)]), (A, ArC Z ka .long [(.long f0), (.long f1), (.long f2)])] := Hp.front (LA := [_, _]) O12
  have O14 : Hp h1 n0 [(D, ArC Z kd .long [(.long g0), (.long g1), (.long (g2 + (1 : Int64)))]), (F, ArC Z kf .long [(.long f0), (.long f1), (.long f2)]), (G, ArC Z kg .long [(.long g0), (.long g1), (.long g2)]), (B, ArC Z kb .long [(.long l0), (.long l1), (.long l2)]), (L, ArC Z kl .long [(.long l0), (.long l1), (.long l2)]), (A, ArC Z ka .long [(.long f0), (.long f1), (.long f2)])] := Hp.front (LA := [_, _]) O13
  refine Wp.callS (yy := (⟨"com/example/keyed_tensor/keyedtensor/array/DatasetNextGridPositionPinLaw", "at", "([JIII[J[J)Z"⟩ : MethodName)) (pc' := 348) (argsL := [(.ref D), (.int (2 : Int32)), (.int (3 : Int32)), (.int (2 : Int32)), (.ref F), (.ref G)]) (S := []) (rm_ate l Z a0 hw D F G kd kf kg [(.long g0), (.long g1), (.long (g2 + (1 : Int64)))] [(.long f0), (.long f1), (.long f2)] [(.long g0), (.long g1), (.long g2)] (2 : Int32) (3 : Int32) (2 : Int32) (by decide) (by decide) 2 rfl g2 rfl rfl (by decide) rfl h1 n0 O14) (hw _ (List.mem_of_getElem? (i := 16) rfl)) (hw _ (List.mem_of_getElem? (i := 17) rfl)) (hw _ (List.mem_of_getElem? (i := 3) rfl)) (hw _ (List.mem_of_getElem? (i := 18) rfl)) (by decide) (W := 0) rfl (lenOf pd_3 rfl) rfl rfl (Nat.le_refl 0) (by decide) (by decide) (by decide) (by decide) at_345 rfl ?_
  rintro _ _ ⟨rfl, rfl⟩
  show Wp _ _ _ _ _ _ _ _ _ _ _ _ 348 #[.val (.long b0), .second, .val (.long b1), .second, .val (.long b2), .second, .val (.int sp), .val (.int po), .val (.int fg), .val (.int (3 : Int32)), .val (.ref F), .val (.ref L), .val (.ref G), .val (.ref D), .val (.ref A), .val (.ref B), .val (.int (2 : Int32)), .val (.ref D), .val (.int (1 : Int32))] [(.int (1 : Int32))]
  refine Wp.ifN (pc' := 351) at_348 (by decide) rfl ?_
  refine Wp.iload (pc' := 353) at_351 rfl rfl ?_
  refine Wp.ifN (pc' := 356) at_353 (by decide) rfl ?_
  refine Wp.iconst (z := (1 : Int32)) (pc' := 357) at_356 (by decide) rfl ?_
  refine Wp.goto (pc' := 361) at_357 (by decide) (by decide) ?_
  exact Wp.retS (t := .boolean) rfl (Or.inl rfl) rfl at_361 (by decide) (by decide) rfl

set_option maxRecDepth 65536 in
set_option maxHeartbeats 40000000 in
theorem tl_0 (l : Launch) (Z : State) (a0 : Array Value) (hw : ∀ d ∈ tables_1, d.before a0 Z = true) (b0 b1 b2 : Int64) (sp po fg : Int32) (F L G : Addr) (kf kl kg : ClassId) (f0 l0 g0 f1 l1 g1 f2 l2 g2 : Int64) (h : Heap) (n0 : Nat) (O : Hp h n0 [(F, ArC Z kf .long [(.long f0), (.long f1), (.long f2)]), (L, ArC Z kl .long [(.long l0), (.long l1), (.long l2)]), (G, ArC Z kg .long [(.long g0), (.long g1), (.long g2)])]) :
    Wp l Z room_1 x code maxLocals ret n0 (fun v _ => v = some (.int 1)) h 3 9 67 #[.val (.long b0), .second, .val (.long b1), .second, .val (.long b2), .second, .val (.int sp), .val (.int po), .val (.int fg), .val (.int (0 : Int32)), .val (.ref F), .val (.ref L), .val (.ref G), .unset, .unset, .unset, .unset, .unset, .unset] [] := by
  refine Wp.iload (pc' := 69) at_67 rfl rfl ?_
  refine Wp.newarr (m := 0) (cap := 0) (pc' := 71) O (hw _ (List.mem_of_getElem? (i := 0) rfl)) at_69 (by decide) rfl (Nat.le_refl _) (by decide) (by decide) (by decide) rfl ?_
  intro h2 D k1 O2
  have O2 : Hp h2 n0 [(D, ArC Z k1 .long []), (F, ArC Z kf .long [(.long f0), (.long f1), (.long f2)]), (L, ArC Z kl .long [(.long l0), (.long l1), (.long l2)]), (G, ArC Z kg .long [(.long g0), (.long g1), (.long g2)])] := O2
  refine Wp.astore (L' := #[.val (.long b0), .second, .val (.long b1), .second, .val (.long b2), .second, .val (.int sp), .val (.int po), .val (.int fg), .val (.int (0 : Int32)), .val (.ref F), .val (.ref L), .val (.ref G), .val (.ref D), .unset, .unset, .unset, .unset, .unset]) (pc' := 73) at_71 rfl rfl rfl ?_
  refine Wp.iload (pc' := 75) at_73 rfl rfl ?_
  refine Wp.newarr (m := 0) (cap := 0) (pc' := 77) O2 (hw _ (List.mem_of_getElem? (i := 0) rfl)) at_75 (by decide) rfl (Nat.le_refl _) (by decide) (by decide) (by decide) rfl ?_
  intro h4 A k3 O4
  have O4 : Hp h4 n0 [(A, ArC Z k3 .long []), (D, ArC Z k1 .long []), (F, ArC Z kf .long [(.long f0), (.long f1), (.long f2)]), (L, ArC Z kl .long [(.long l0), (.long l1), (.long l2)]), (G, ArC Z kg .long [(.long g0), (.long g1), (.long g2)])] := O4
  refine Wp.astore (L' := #[.val (.long b0), .second, .val (.long b1), .second, .val (.long b2), .second, .val (.int sp), .val (.int po), .val (.int fg), .val (.int (0 : Int32)), .val (.ref F), .val (.ref L), .val (.ref G), .val (.ref D), .val (.ref A), .unset, .unset, .unset, .unset]) (pc' := 79) at_77 rfl rfl rfl ?_
  refine Wp.iload (pc' := 81) at_79 rfl rfl ?_
  refine Wp.newarr (m := 0) (cap := 0) (pc' := 83) O4 (hw _ (List.mem_of_getElem? (i := 0) rfl)) at_81 (by decide) rfl (Nat.le_refl _) (by decide) (by decide) (by decide) rfl ?_
  intro h6 B k5 O6
  have O6 : Hp h6 n0 [(B, ArC Z k5 .long []), (A, ArC Z k3 .long []), (D, ArC Z k1 .long []), (F, ArC Z kf .long [(.long f0), (.long f1), (.long f2)]), (L, ArC Z kl .long [(.long l0), (.long l1), (.long l2)]), (G, ArC Z kg .long [(.long g0), (.long g1), (.long g2)])] := O6
  refine Wp.astore (L' := #[.val (.long b0), .second, .val (.long b1), .second, .val (.long b2), .second, .val (.int sp), .val (.int po), .val (.int fg), .val (.int (0 : Int32)), .val (.ref F), .val (.ref L), .val (.ref G), .val (.ref D), .val (.ref A), .val (.ref B), .unset, .unset, .unset]) (pc' := 85) at_83 rfl rfl rfl ?_
  refine Wp.iload (pc' := 87) at_85 rfl rfl ?_
  refine Wp.ifY (pc' := 114) at_87 (by decide) (by decide) (by decide) ?_
  refine Wp.iload (pc' := 116) at_114 rfl rfl ?_
  refine Wp.iconst (z := (1 : Int32)) (pc' := 117) at_116 (by decide) rfl ?_
  refine Wp.icmpY (pc' := 144) at_117 (by decide) (by decide) (by decide) ?_
  refine Wp.iload (pc' := 146) at_144 rfl rfl ?_
  refine Wp.iconst (z := (2 : Int32)) (pc' := 147) at_146 (by decide) rfl ?_
  refine Wp.icmpY (pc' := 174) at_147 (by decide) (by decide) (by decide) ?_
  refine Wp.iconst (z := (2 : Int32)) (pc' := 175) at_174 (by decide) rfl ?_
  refine Wp.iload (pc' := 177) at_175 rfl rfl ?_
  refine Wp.aload (pc' := 179) at_177 rfl rfl rfl ?_
  refine Wp.aload (pc' := 181) at_179 rfl rfl rfl ?_
  have O7 : Hp h6 n0 [(L, ArC Z kl .long [(.long l0), (.long l1), (.long l2)]), (B, ArC Z k5 .long []), (A, ArC Z k3 .long []), (D, ArC Z k1 .long []), (F, ArC Z kf .long [(.long f0), (.long f1), (.long f2)]), (G, ArC Z kg .long [(.long g0), (.long g1), (.long g2)])] := Hp.front (LA := [_, _, _, _]) O6
  have O8 : Hp h6 n0 [(G, ArC Z kg .long [(.long g0), (.long g1), (.long g2)]), (L, ArC Z kl .long [(.long l0), (.long l1), (.long l2)]), (B, ArC Z k5 .long []), (A, ArC Z k3 .long []), (D, ArC Z k1 .long []), (F, ArC Z kf .long [(.long f0), (.long f1), (.long f2)])] := Hp.front (LA := [_, _, _, _, _]) O7
  refine Wp.callS (yy := (⟨"com/example/keyed_tensor/keyedtensor/array/DatasetNextGridPositionPinLaw", "can", "(II[J[J)Z"⟩ : MethodName)) (pc' := 184) (argsL := [(.int (2 : Int32)), (.int (0 : Int32)), (.ref G), (.ref L)]) (S := []) (rm_cao l Z a0 hw G L kg kl [(.long g0), (.long g1), (.long g2)] [(.long l0), (.long l1), (.long l2)] (2 : Int32) (0 : Int32) (by decide) h6 n0 O8) (hw _ (List.mem_of_getElem? (i := 6) rfl)) (hw _ (List.mem_of_getElem? (i := 7) rfl)) (hw _ (List.mem_of_getElem? (i := 3) rfl)) (hw _ (List.mem_of_getElem? (i := 8) rfl)) (by decide) (W := 0) rfl (lenOf pd_2 rfl) rfl rfl (Nat.le_refl 0) (by decide) (by decide) (by decide) (by decide) at_181 rfl ?_
  rintro _ _ ⟨rfl, rfl⟩
  show Wp _ _ _ _ _ _ _ _ _ _ _ _ 184 #[.val (.long b0), .second, .val (.long b1), .second, .val (.long b2), .second, .val (.int sp), .val (.int po), .val (.int fg), .val (.int (0 : Int32)), .val (.ref F), .val (.ref L), .val (.ref G), .val (.ref D), .val (.ref A), .val (.ref B), .unset, .unset, .unset] [(.int (0 : Int32))]
  refine Wp.ifY (pc' := 191) at_184 rfl (by decide) (by decide) ?_
  refine Wp.iconst (z := (1 : Int32)) (pc' := 192) at_191 (by decide) rfl ?_
  refine Wp.iload (pc' := 194) at_192 rfl rfl ?_
  refine Wp.aload (pc' := 196) at_194 rfl rfl rfl ?_
  refine Wp.aload (pc' := 198) at_196 rfl rfl rfl ?_
  have O9 : Hp h6 n0 [(L, ArC Z kl .long [(.long l0), (.long l1), (.long l2)]), (G, ArC Z kg .long [(.long g0), (.long g1), (.long g2)]), (B, ArC Z k5 .long []), (A, ArC Z k3 .long []), (D, ArC Z k1 .long []), (F, ArC Z kf .long [(.long f0), (.long f1), (.long f2)])] := Hp.front (LA := [_]) O8
  have O10 : Hp h6 n0 [(G, ArC Z kg .long [(.long g0), (.long g1), (.long g2)]), (L, ArC Z kl .long [(.long l0), (.long l1), (.long l2)]), (B, ArC Z k5 .long []), (A, ArC Z k3 .long []), (D, ArC Z k1 .long []), (F, ArC Z kf .long [(.long f0), (.long f1), (.long f2)])] := Hp.front (LA := [_]) O9
  refine Wp.callS (yy := (⟨"com/example/keyed_tensor/keyedtensor/array/DatasetNextGridPositionPinLaw", "can", "(II[J[J)Z"⟩ : MethodName)) (pc' := 201) (argsL := [(.int (1 : Int32)), (.int (0 : Int32)), (.ref G), (.ref L)]) (S := []) (rm_cao l Z a0 hw G L kg kl [(.long g0), (.long g1), (.long g2)] [(.long l0), (.long l1), (.long l2)] (1 : Int32) (0 : Int32) (by decide) h6 n0 O10) (hw _ (List.mem_of_getElem? (i := 6) rfl)) (hw _ (List.mem_of_getElem? (i := 7) rfl)) (hw _ (List.mem_of_getElem? (i := 3) rfl)) (hw _ (List.mem_of_getElem? (i := 8) rfl)) (by decide) (W := 0) rfl (lenOf pd_2 rfl) rfl rfl (Nat.le_refl 0) (by decide) (by decide) (by decide) (by decide) at_198 rfl ?_
  rintro _ _ ⟨rfl, rfl⟩
  show Wp _ _ _ _ _ _ _ _ _ _ _ _ 201 #[.val (.long b0), .second, .val (.long b1), .second, .val (.long b2), .second, .val (.int sp), .val (.int po), .val (.int fg), .val (.int (0 : Int32)), .val (.ref F), .val (.ref L), .val (.ref G), .val (.ref D), .val (.ref A), .val (.ref B), .unset, .unset, .unset] [(.int (0 : Int32))]
  refine Wp.ifY (pc' := 208) at_201 rfl (by decide) (by decide) ?_
  refine Wp.iconst (z := (0 : Int32)) (pc' := 209) at_208 (by decide) rfl ?_
  refine Wp.iload (pc' := 211) at_209 rfl rfl ?_
  refine Wp.aload (pc' := 213) at_211 rfl rfl rfl ?_
  refine Wp.aload (pc' := 215) at_213 rfl rfl rfl ?_
  have O11 : Hp h6 n0 [(L, ArC Z kl .long [(.long l0), (.long l1), (.long l2)]), (G, ArC Z kg .long [(.long g0), (.long g1), (.long g2)]), (B, ArC Z k5 .long []), (A, ArC Z k3 .long []), (D, ArC Z k1 .long []), (F, ArC Z kf .long [(.long f0), (.long f1), (.long f2)])] := Hp.front (LA := [_]) O10
  have O12 : Hp h6 n0 [(G, ArC Z kg .long [(.long g0), (.long g1), (.long g2)]), (L, ArC Z kl .long [(.long l0), (.long l1), (.long l2)]), (B, ArC Z k5 .long []), (A, ArC Z k3 .long []), (D, ArC Z k1 .long []), (F, ArC Z kf .long [(.long f0), (.long f1), (.long f2)])] := Hp.front (LA := [_]) O11
  refine Wp.callS (yy := (⟨"com/example/keyed_tensor/keyedtensor/array/DatasetNextGridPositionPinLaw", "can", "(II[J[J)Z"⟩ : MethodName)) (pc' := 218) (argsL := [(.int (0 : Int32)), (.int (0 : Int32)), (.ref G), (.ref L)]) (S := []) (rm_cao l Z a0 hw G L kg kl [(.long g0), (.long g1), (.long g2)] [(.long l0), (.long l1), (.long l2)] (0 : Int32) (0 : Int32) (by decide) h6 n0 O12) (hw _ (List.mem_of_getElem? (i := 6) rfl)) (hw _ (List.mem_of_getElem? (i := 7) rfl)) (hw _ (List.mem_of_getElem? (i := 3) rfl)) (hw _ (List.mem_of_getElem? (i := 8) rfl)) (by decide) (W := 0) rfl (lenOf pd_2 rfl) rfl rfl (Nat.le_refl 0) (by decide) (by decide) (by decide) (by decide) at_215 rfl ?_
  rintro _ _ ⟨rfl, rfl⟩
  show Wp _ _ _ _ _ _ _ _ _ _ _ _ 218 #[.val (.long b0), .second, .val (.long b1), .second, .val (.long b2), .second, .val (.int sp), .val (.int po), .val (.int fg), .val (.int (0 : Int32)), .val (.ref F), .val (.ref L), .val (.ref G), .val (.ref D), .val (.ref A), .val (.ref B), .unset, .unset, .unset] [(.int (0 : Int32))]
  refine Wp.ifY (pc' := 225) at_218 rfl (by decide) (by decide) ?_
  refine Wp.iconst (z := (-1 : Int32)) (pc' := 226) at_225 (by decide) rfl ?_
  have O13 : Hp h6 n0 [(L, ArC Z kl .long [(.long l0), (.long l1), (.long l2)]), (G, ArC Z kg .long [(.long g0), (.long g1), (.long g2)]), (B, ArC Z k5 .long []), (A, ArC Z k3 .long []), (D, ArC Z k1 .long []), (F, ArC Z kf .long [(.long f0), (.long f1), (.long f2)])] := Hp.front (LA := [_]) O12
  have O14 : Hp h6 n0 [(F, ArC Z kf .long [(.long f0), (.long f1), (.long f2)]), (L, ArC Z kl .long [(.long l0), (.long l1), (.long l2)]), (G, ArC Z kg .long [(.long g0), (.long g1), (.long g2)]), (B, ArC Z k5 .long []), (A, ArC Z k3 .long []), (D, ArC Z k1 .long [])] := Hp.front (LA := [_, _, _, _, _]) O13
  have O15 : Hp h6 n0 [(B, ArC Z k5 .long []), (F, ArC Z kf .long [(.long f0), (.long f1), (.long f2)]), (L, ArC Z kl .long [(.long l0), (.long l1), (.long l2)]), (G, ArC Z kg .long [(.long g0), (.long g1), (.long g2)]), (A, ArC Z k3 .long []), (D, ArC Z k1 .long [])] := Hp.front (LA := [_, _, _]) O14
  have O16 : Hp h6 n0 [(A, ArC Z k3 .long []), (B, ArC Z k5 .long []), (F, ArC Z kf .long [(.long f0), (.long f1), (.long f2)]), (L, ArC Z kl .long [(.long l0), (.long l1), (.long l2)]), (G, ArC Z kg .long [(.long g0), (.long g1), (.long g2)]), (D, ArC Z k1 .long [])] := Hp.front (LA := [_, _, _, _]) O15
  have O17 : Hp h6 n0 [(D, ArC Z k1 .long []), (A, ArC Z k3 .long []), (B, ArC Z k5 .long []), (F, ArC Z kf .long [(.long f0), (.long f1), (.long f2)]), (L, ArC Z kl .long [(.long l0), (.long l1), (.long l2)]), (G, ArC Z kg .long [(.long g0), (.long g1), (.long g2)])] := Hp.front (LA := [_, _, _, _, _]) O16
  exact tt_00 l Z a0 hw b0 b1 b2 sp po fg F L G kf kl kg f0 l0 g0 f1 l1 g1 f2 l2 g2 D A B k1 k3 k5  h6 n0 O17

set_option maxRecDepth 65536 in
set_option maxHeartbeats 40000000 in
theorem tl_1 (l : Launch) (Z : State) (a0 : Array Value) (hw : ∀ d ∈ tables_1, d.before a0 Z = true) (b0 b1 b2 : Int64) (sp po fg : Int32) (F L G : Addr) (kf kl kg : ClassId) (f0 l0 g0 f1 l1 g1 f2 l2 g2 : Int64) (h : Heap) (n0 : Nat) (O : Hp h n0 [(F, ArC Z kf .long [(.long f0), (.long f1), (.long f2)]), (L, ArC Z kl .long [(.long l0), (.long l1), (.long l2)]), (G, ArC Z kg .long [(.long g0), (.long g1), (.long g2)])]) :
    Wp l Z room_1 x code maxLocals ret n0 (fun v _ => v = some (.int 1)) h 3 9 67 #[.val (.long b0), .second, .val (.long b1), .second, .val (.long b2), .second, .val (.int sp), .val (.int po), .val (.int fg), .val (.int (1 : Int32)), .val (.ref F), .val (.ref L), .val (.ref G), .unset, .unset, .unset, .unset, .unset, .unset] [] := by
  refine Wp.iload (pc' := 69) at_67 rfl rfl ?_
  refine Wp.newarr (m := 1) (cap := 1) (pc' := 71) O (hw _ (List.mem_of_getElem? (i := 0) rfl)) at_69 (by decide) rfl (Nat.le_refl _) (by decide) (by decide) (by decide) rfl ?_
  intro h2 D k1 O2
  have O2 : Hp h2 n0 [(D, ArC Z k1 .long [(.long (0 : Int64))]), (F, ArC Z kf .long [(.long f0), (.long f1), (.long f2)]), (L, ArC Z kl .long [(.long l0), (.long l1), (.long l2)]), (G, ArC Z kg .long [(.long g0), (.long g1), (.long g2)])] := O2
  refine Wp.astore (L' := #[.val (.long b0), .second, .val (.long b1), .second, .val (.long b2), .second, .val (.int sp), .val (.int po), .val (.int fg), .val (.int (1 : Int32)), .val (.ref F), .val (.ref L), .val (.ref G), .val (.ref D), .unset, .unset, .unset, .unset, .unset]) (pc' := 73) at_71 rfl rfl rfl ?_
  refine Wp.iload (pc' := 75) at_73 rfl rfl ?_
  refine Wp.newarr (m := 1) (cap := 1) (pc' := 77) O2 (hw _ (List.mem_of_getElem? (i := 0) rfl)) at_75 (by decide) rfl (Nat.le_refl _) (by decide) (by decide) (by decide) rfl ?_
  intro h4 A k3 O4
  have O4 : Hp h4 n0 [(A, ArC Z k3 .long [(.long (0 : Int64))]), (D, ArC Z k1 .long [(.long (0 : Int64))]), (F, ArC Z kf .long [(.long f0), (.long f1), (.long f2)]), (L, ArC Z kl .long [(.long l0), (.long l1), (.long l2)]), (G, ArC Z kg .long [(.long g0), (.long g1), (.long g2)])] := O4
  refine Wp.astore (L' := #[.val (.long b0), .second, .val (.long b1), .second, .val (.long b2), .second, .val (.int sp), .val (.int po), .val (.int fg), .val (.int (1 : Int32)), .val (.ref F), .val (.ref L), .val (.ref G), .val (.ref D), .val (.ref A), .unset, .unset, .unset, .unset]) (pc' := 79) at_77 rfl rfl rfl ?_
  refine Wp.iload (pc' := 81) at_79 rfl rfl ?_
  refine Wp.newarr (m := 1) (cap := 1) (pc' := 83) O4 (hw _ (List.mem_of_getElem? (i := 0) rfl)) at_81 (by decide) rfl (Nat.le_refl _) (by decide) (by decide) (by decide) rfl ?_
  intro h6 B k5 O6
  have O6 : Hp h6 n0 [(B, ArC Z k5 .long [(.long (0 : Int64))]), (A, ArC Z k3 .long [(.long (0 : Int64))]), (D, ArC Z k1 .long [(.long (0 : Int64))]), (F, ArC Z kf .long [(.long f0), (.long f1), (.long f2)]), (L, ArC Z kl .long [(.long l0), (.long l1), (.long l2)]), (G, ArC Z kg .long [(.long g0), (.long g1), (.long g2)])] := O6
  refine Wp.astore (L' := #[.val (.long b0), .second, .val (.long b1), .second, .val (.long b2), .second, .val (.int sp), .val (.int po), .val (.int fg), .val (.int (1 : Int32)), .val (.ref F), .val (.ref L), .val (.ref G), .val (.ref D), .val (.ref A), .val (.ref B), .unset, .unset, .unset]) (pc' := 85) at_83 rfl rfl rfl ?_
  refine Wp.iload (pc' := 87) at_85 rfl rfl ?_
  refine Wp.ifN (pc' := 90) at_87 (not_not_intro (by decide)) rfl ?_
  refine Wp.aload (pc' := 92) at_90 rfl rfl rfl ?_
  refine Wp.iconst (z := (0 : Int32)) (pc' := 93) at_92 (by decide) rfl ?_
  refine Wp.aload (pc' := 95) at_93 rfl rfl rfl ?_
  refine Wp.iconst (z := (0 : Int32)) (pc' := 96) at_95 (by decide) rfl ?_
  refine Wp.laload (i := 5) (jn := 0) (v := (.long g0)) (pc' := 97) O6 rfl at_96 (by decide) rfl rfl rfl ?_
  refine Wp.lastore (LA := [_, _]) (jn := 0) (pc' := 98) O6 at_97 (by decide) rfl (by first | decide | simp) rfl ?_
  intro h7 O7
  have O7 : Hp h7 n0 [(B, ArC Z k5 .long [(.long (0 : Int64))]), (A, ArC Z k3 .long [(.long (0 : Int64))]), (D, ArC Z k1 .long [(.long g0)]), (F, ArC Z kf .long [(.long f0), (.long f1), (.long f2)]), (L, ArC Z kl .long [(.long l0), (.long l1), (.long l2)]), (G, ArC Z kg .long [(.long g0), (.long g1), (.long g2)])] := O7
  refine Wp.aload (pc' := 100) at_98 rfl rfl rfl ?_
  refine Wp.iconst (z := (0 : Int32)) (pc' := 101) at_100 (by decide) rfl ?_
  refine Wp.aload (pc' := 103) at_101 rfl rfl rfl ?_
  refine Wp.iconst (z := (0 : Int32)) (pc' := 104) at_103 (by decide) rfl ?_
  refine Wp.laload (i := 3) (jn := 0) (v := (.long f0)) (pc' := 105) O7 rfl at_104 (by decide) rfl rfl rfl ?_
  refine Wp.lastore (LA := [_]) (jn := 0) (pc' := 106) O7 at_105 (by decide) rfl (by first | decide | simp) rfl ?_
  intro h8 O8
  have O8 : Hp h8 n0 [(B, ArC Z k5 .long [(.long (0 : Int64))]), (A, ArC Z k3 .long [(.long f0)]), (D, ArC Z k1 .long [(.long g0)]), (F, ArC Z kf .long [(.long f0), (.long f1), (.long f2)]), (L, ArC Z kl .long [(.long l0), (.long l1), (.long l2)]), (G, ArC Z kg .long [(.long g0), (.long g1), (.long g2)])] := O8
  refine Wp.aload (pc' := 108) at_106 rfl rfl rfl ?_
  refine Wp.iconst (z := (0 : Int32)) (pc' := 109) at_108 (by decide) rfl ?_
  refine Wp.aload (pc' := 111) at_109 rfl rfl rfl ?_
  refine Wp.iconst (z := (0 : Int32)) (pc' := 112) at_111 (by decide) rfl ?_
  refine Wp.laload (i := 4) (jn := 0) (v := (.long l0)) (pc' := 113) O8 rfl at_112 (by decide) rfl rfl rfl ?_
  refine Wp.lastore (LA := []) (jn := 0) (pc' := 114) O8 at_113 (by decide) rfl (by first | decide | simp) rfl ?_
  intro h9 O9
  have O9 : Hp h9 n0 [(B, ArC Z k5 .long [(.long l0)]), (A, ArC Z k3 .long [(.long f0)]), (D, ArC Z k1 .long [(.long g0)]), (F, ArC Z kf .long [(.long f0), (.long f1), (.long f2)]), (L, ArC Z kl .long [(.long l0), (.long l1), (.long l2)]), (G, ArC Z kg .long [(.long g0), (.long g1), (.long g2)])] := O9
  refine Wp.iload (pc' := 116) at_114 rfl rfl ?_
  refine Wp.iconst (z := (1 : Int32)) (pc' := 117) at_116 (by decide) rfl ?_
  refine Wp.icmpY (pc' := 144) at_117 (by decide) (by decide) (by decide) ?_
  refine Wp.iload (pc' := 146) at_144 rfl rfl ?_
  refine Wp.iconst (z := (2 : Int32)) (pc' := 147) at_146 (by decide) rfl ?_
  refine Wp.icmpY (pc' := 174) at_147 (by decide) (by decide) (by decide) ?_
  refine Wp.iconst (z := (2 : Int32)) (pc' := 175) at_174 (by decide) rfl ?_
  refine Wp.iload (pc' := 177) at_175 rfl rfl ?_
  refine Wp.aload (pc' := 179) at_177 rfl rfl rfl ?_
  refine Wp.aload (pc' := 181) at_179 rfl rfl rfl ?_
  have O10 : Hp h9 n0 [(L, ArC Z kl .long [(.long l0), (.long l1), (.long l2)]), (B, ArC Z k5 .long [(.long l0)]), (A, ArC Z k3 .long [(.long f0)]), (D, ArC Z k1 .long [(.long g0)]), (F, ArC Z kf .long [(.long f0), (.long f1), (.long f2)]), (G, ArC Z kg .long [(.long g0), (.long g1), (.long g2)])] := Hp.front (LA := [_, _, _, _]) O9
  have O11 : Hp h9 n0 [(G, ArC Z kg .long [(.long g0), (.long g1), (.long g2)]), (L, ArC Z kl .long [(.long l0), (.long l1), (.long l2)]), (B, ArC Z k5 .long [(.long l0)]), (A, ArC Z k3 .long [(.long f0)]), (D, ArC Z k1 .long [(.long g0)]), (F, ArC Z kf .long [(.long f0), (.long f1), (.long f2)])] := Hp.front (LA := [_, _, _, _, _]) O10
  refine Wp.callS (yy := (⟨"com/example/keyed_tensor/keyedtensor/array/DatasetNextGridPositionPinLaw", "can", "(II[J[J)Z"⟩ : MethodName)) (pc' := 184) (argsL := [(.int (2 : Int32)), (.int (1 : Int32)), (.ref G), (.ref L)]) (S := []) (rm_cao l Z a0 hw G L kg kl [(.long g0), (.long g1), (.long g2)] [(.long l0), (.long l1), (.long l2)] (2 : Int32) (1 : Int32) (by decide) h9 n0 O11) (hw _ (List.mem_of_getElem? (i := 6) rfl)) (hw _ (List.mem_of_getElem? (i := 7) rfl)) (hw _ (List.mem_of_getElem? (i := 3) rfl)) (hw _ (List.mem_of_getElem? (i := 8) rfl)) (by decide) (W := 0) rfl (lenOf pd_2 rfl) rfl rfl (Nat.le_refl 0) (by decide) (by decide) (by decide) (by decide) at_181 rfl ?_
  rintro _ _ ⟨rfl, rfl⟩
  show Wp _ _ _ _ _ _ _ _ _ _ _ _ 184 #[.val (.long b0), .second, .val (.long b1), .second, .val (.long b2), .second, .val (.int sp), .val (.int po), .val (.int fg), .val (.int (1 : Int32)), .val (.ref F), .val (.ref L), .val (.ref G), .val (.ref D), .val (.ref A), .val (.ref B), .unset, .unset, .unset] [(.int (0 : Int32))]
  refine Wp.ifY (pc' := 191) at_184 rfl (by decide) (by decide) ?_
  refine Wp.iconst (z := (1 : Int32)) (pc' := 192) at_191 (by decide) rfl ?_
  refine Wp.iload (pc' := 194) at_192 rfl rfl ?_
  refine Wp.aload (pc' := 196) at_194 rfl rfl rfl ?_
  refine Wp.aload (pc' := 198) at_196 rfl rfl rfl ?_
  have O12 : Hp h9 n0 [(L, ArC Z kl .long [(.long l0), (.long l1), (.long l2)]), (G, ArC Z kg .long [(.long g0), (.long g1), (.long g2)]), (B, ArC Z k5 .long [(.long l0)]), (A, ArC Z k3 .long [(.long f0)]), (D, ArC Z k1 .long [(.long g0)]), (F, ArC Z kf .long [(.long f0), (.long f1), (.long f2)])] := Hp.front (LA := [_]) O11
  have O13 : Hp h9 n0 [(G, ArC Z kg .long [(.long g0), (.long g1), (.long g2)]), (L, ArC Z kl .long [(.long l0), (.long l1), (.long l2)]), (B, ArC Z k5 .long [(.long l0)]), (A, ArC Z k3 .long [(.long f0)]), (D, ArC Z k1 .long [(.long g0)]), (F, ArC Z kf .long [(.long f0), (.long f1), (.long f2)])] := Hp.front (LA := [_]) O12
  refine Wp.callS (yy := (⟨"com/example/keyed_tensor/keyedtensor/array/DatasetNextGridPositionPinLaw", "can", "(II[J[J)Z"⟩ : MethodName)) (pc' := 201) (argsL := [(.int (1 : Int32)), (.int (1 : Int32)), (.ref G), (.ref L)]) (S := []) (rm_cao l Z a0 hw G L kg kl [(.long g0), (.long g1), (.long g2)] [(.long l0), (.long l1), (.long l2)] (1 : Int32) (1 : Int32) (by decide) h9 n0 O13) (hw _ (List.mem_of_getElem? (i := 6) rfl)) (hw _ (List.mem_of_getElem? (i := 7) rfl)) (hw _ (List.mem_of_getElem? (i := 3) rfl)) (hw _ (List.mem_of_getElem? (i := 8) rfl)) (by decide) (W := 0) rfl (lenOf pd_2 rfl) rfl rfl (Nat.le_refl 0) (by decide) (by decide) (by decide) (by decide) at_198 rfl ?_
  rintro _ _ ⟨rfl, rfl⟩
  show Wp _ _ _ _ _ _ _ _ _ _ _ _ 201 #[.val (.long b0), .second, .val (.long b1), .second, .val (.long b2), .second, .val (.int sp), .val (.int po), .val (.int fg), .val (.int (1 : Int32)), .val (.ref F), .val (.ref L), .val (.ref G), .val (.ref D), .val (.ref A), .val (.ref B), .unset, .unset, .unset] [(.int (0 : Int32))]
  refine Wp.ifY (pc' := 208) at_201 rfl (by decide) (by decide) ?_
  refine Wp.iconst (z := (0 : Int32)) (pc' := 209) at_208 (by decide) rfl ?_
  refine Wp.iload (pc' := 211) at_209 rfl rfl ?_
  refine Wp.aload (pc' := 213) at_211 rfl rfl rfl ?_
  refine Wp.aload (pc' := 215) at_213 rfl rfl rfl ?_
  have O14 : Hp h9 n0 [(L, ArC Z kl .long [(.long l0), (.long l1), (.long l2)]), (G, ArC Z kg .long [(.long g0), (.long g1), (.long g2)]), (B, ArC Z k5 .long [(.long l0)]), (A, ArC Z k3 .long [(.long f0)]), (D, ArC Z k1 .long [(.long g0)]), (F, ArC Z kf .long [(.long f0), (.long f1), (.long f2)])] := Hp.front (LA := [_]) O13
  have O15 : Hp h9 n0 [(G, ArC Z kg .long [(.long g0), (.long g1), (.long g2)]), (L, ArC Z kl .long [(.long l0), (.long l1), (.long l2)]), (B, ArC Z k5 .long [(.long l0)]), (A, ArC Z k3 .long [(.long f0)]), (D, ArC Z k1 .long [(.long g0)]), (F, ArC Z kf .long [(.long f0), (.long f1), (.long f2)])] := Hp.front (LA := [_]) O14
  by_cases hc0 : g0 < l0
  · refine Wp.callS (yy := (⟨"com/example/keyed_tensor/keyedtensor/array/DatasetNextGridPositionPinLaw", "can", "(II[J[J)Z"⟩ : MethodName)) (pc' := 218) (argsL := [(.int (0 : Int32)), (.int (1 : Int32)), (.ref G), (.ref L)]) (S := []) (rm_cay l Z a0 hw G L kg kl [(.long g0), (.long g1), (.long g2)] [(.long l0), (.long l1), (.long l2)] (0 : Int32) (1 : Int32) (by decide) (by decide) 0 rfl g0 l0 rfl rfl hc0 h9 n0 O15) (hw _ (List.mem_of_getElem? (i := 6) rfl)) (hw _ (List.mem_of_getElem? (i := 7) rfl)) (hw _ (List.mem_of_getElem? (i := 3) rfl)) (hw _ (List.mem_of_getElem? (i := 8) rfl)) (by decide) (W := 0) rfl (lenOf pd_2 rfl) rfl rfl (Nat.le_refl 0) (by decide) (by decide) (by decide) (by decide) at_215 rfl ?_
    rintro _ _ ⟨rfl, rfl⟩
    show Wp _ _ _ _ _ _ _ _ _ _ _ _ 218 #[.val (.long b0), .second, .val (.long b1), .second, .val (.long b2), .second, .val (.int sp), .val (.int po), .val (.int fg), .val (.int (1 : Int32)), .val (.ref F), .val (.ref L), .val (.ref G), .val (.ref D), .val (.ref A), .val (.ref B), .unset, .unset, .unset] [(.int (1 : Int32))]
    refine Wp.ifN (pc' := 221) at_218 (by decide) rfl ?_
    refine Wp.iconst (z := (0 : Int32)) (pc' := 222) at_221 (by decide) rfl ?_
    refine Wp.goto (pc' := 226) at_222 (by decide) (by decide) ?_
    have O16 : Hp h9 n0 [(L, ArC Z kl .long [(.long l0), (.long l1), (.long l2)]), (G, ArC Z kg .long [(.long g0), (.long g1), (.long g2)]), (B, ArC Z k5 .long [(.long l0)]), (A, ArC Z k3 .long [(.long f0)]), (D, ArC Z k1 .long [(.long g0)]), (F, ArC Z kf .long [(.long f0), (.long f1), (.long f2)])] := Hp.front (LA := [_]) O15
    have O17 : Hp h9 n0 [(F, ArC Z kf .long [(.long f0), (.long f1), (.long f2)]), (L, ArC Z kl .long [(.long l0), (.long l1), (.long l2)]), (G, ArC Z kg .long [(.long g0), (.long g1), (.long g2)]), (B, ArC Z k5 .long [(.long l0)]), (A, ArC Z k3 .long [(.long f0)]), (D, ArC Z k1 .long [(.long g0)])] := Hp.front (LA := [_, _, _, _, _]) O16
    have O18 : Hp h9 n0 [(B, ArC Z k5 .long [(.long l0)]), (F, ArC Z kf .long [(.long f0), (.long f1), (.long f2)]), (L, ArC Z kl .long [(.long l0), (.long l1), (.long l2)]), (G, ArC Z kg .long [(.long g0), (.long g1), (.long g2)]), (A, ArC Z k3 .long [(.long f0)]), (D, ArC Z k1 .long [(.long g0)])] := Hp.front (LA := [_, _, _]) O17
    have O19 : Hp h9 n0 [(A, ArC Z k3 .long [(.long f0)]), (B, ArC Z k5 .long [(.long l0)]), (F, ArC Z kf .long [(.long f0), (.long f1), (.long f2)]), (L, ArC Z kl .long [(.long l0), (.long l1), (.long l2)]), (G, ArC Z kg .long [(.long g0), (.long g1), (.long g2)]), (D, ArC Z k1 .long [(.long g0)])] := Hp.front (LA := [_, _, _, _]) O18
    have O20 : Hp h9 n0 [(D, ArC Z k1 .long [(.long g0)]), (A, ArC Z k3 .long [(.long f0)]), (B, ArC Z k5 .long [(.long l0)]), (F, ArC Z kf .long [(.long f0), (.long f1), (.long f2)]), (L, ArC Z kl .long [(.long l0), (.long l1), (.long l2)]), (G, ArC Z kg .long [(.long g0), (.long g1), (.long g2)])] := Hp.front (LA := [_, _, _, _, _]) O19
    exact tt_11 l Z a0 hw b0 b1 b2 sp po fg F L G kf kl kg f0 l0 g0 f1 l1 g1 f2 l2 g2 D A B k1 k3 k5 hc0 h9 n0 O20
  · refine Wp.callS (yy := (⟨"com/example/keyed_tensor/keyedtensor/array/DatasetNextGridPositionPinLaw", "can", "(II[J[J)Z"⟩ : MethodName)) (pc' := 218) (argsL := [(.int (0 : Int32)), (.int (1 : Int32)), (.ref G), (.ref L)]) (S := []) (rm_can l Z a0 hw G L kg kl [(.long g0), (.long g1), (.long g2)] [(.long l0), (.long l1), (.long l2)] (0 : Int32) (1 : Int32) (by decide) (by decide) 0 rfl g0 l0 rfl rfl hc0 h9 n0 O15) (hw _ (List.mem_of_getElem? (i := 6) rfl)) (hw _ (List.mem_of_getElem? (i := 7) rfl)) (hw _ (List.mem_of_getElem? (i := 3) rfl)) (hw _ (List.mem_of_getElem? (i := 8) rfl)) (by decide) (W := 0) rfl (lenOf pd_2 rfl) rfl rfl (Nat.le_refl 0) (by decide) (by decide) (by decide) (by decide) at_215 rfl ?_
    rintro _ _ ⟨rfl, rfl⟩
    show Wp _ _ _ _ _ _ _ _ _ _ _ _ 218 #[.val (.long b0), .second, .val (.long b1), .second, .val (.long b2), .second, .val (.int sp), .val (.int po), .val (.int fg), .val (.int (1 : Int32)), .val (.ref F), .val (.ref L), .val (.ref G), .val (.ref D), .val (.ref A), .val (.ref B), .unset, .unset, .unset] [(.int (0 : Int32))]
    refine Wp.ifY (pc' := 225) at_218 rfl (by decide) (by decide) ?_
    refine Wp.iconst (z := (-1 : Int32)) (pc' := 226) at_225 (by decide) rfl ?_
    have O21 : Hp h9 n0 [(L, ArC Z kl .long [(.long l0), (.long l1), (.long l2)]), (G, ArC Z kg .long [(.long g0), (.long g1), (.long g2)]), (B, ArC Z k5 .long [(.long l0)]), (A, ArC Z k3 .long [(.long f0)]), (D, ArC Z k1 .long [(.long g0)]), (F, ArC Z kf .long [(.long f0), (.long f1), (.long f2)])] := Hp.front (LA := [_]) O15
    have O22 : Hp h9 n0 [(F, ArC Z kf .long [(.long f0), (.long f1), (.long f2)]), (L, ArC Z kl .long [(.long l0), (.long l1), (.long l2)]), (G, ArC Z kg .long [(.long g0), (.long g1), (.long g2)]), (B, ArC Z k5 .long [(.long l0)]), (A, ArC Z k3 .long [(.long f0)]), (D, ArC Z k1 .long [(.long g0)])] := Hp.front (LA := [_, _, _, _, _]) O21
    have O23 : Hp h9 n0 [(B, ArC Z k5 .long [(.long l0)]), (F, ArC Z kf .long [(.long f0), (.long f1), (.long f2)]), (L, ArC Z kl .long [(.long l0), (.long l1), (.long l2)]), (G, ArC Z kg .long [(.long g0), (.long g1), (.long g2)]), (A, ArC Z k3 .long [(.long f0)]), (D, ArC Z k1 .long [(.long g0)])] := Hp.front (LA := [_, _, _]) O22
    have O24 : Hp h9 n0 [(A, ArC Z k3 .long [(.long f0)]), (B, ArC Z k5 .long [(.long l0)]), (F, ArC Z kf .long [(.long f0), (.long f1), (.long f2)]), (L, ArC Z kl .long [(.long l0), (.long l1), (.long l2)]), (G, ArC Z kg .long [(.long g0), (.long g1), (.long g2)]), (D, ArC Z k1 .long [(.long g0)])] := Hp.front (LA := [_, _, _, _]) O23
    have O25 : Hp h9 n0 [(D, ArC Z k1 .long [(.long g0)]), (A, ArC Z k3 .long [(.long f0)]), (B, ArC Z k5 .long [(.long l0)]), (F, ArC Z kf .long [(.long f0), (.long f1), (.long f2)]), (L, ArC Z kl .long [(.long l0), (.long l1), (.long l2)]), (G, ArC Z kg .long [(.long g0), (.long g1), (.long g2)])] := Hp.front (LA := [_, _, _, _, _]) O24
    exact tt_10 l Z a0 hw b0 b1 b2 sp po fg F L G kf kl kg f0 l0 g0 f1 l1 g1 f2 l2 g2 D A B k1 k3 k5 hc0 h9 n0 O25

set_option maxRecDepth 65536 in
set_option maxHeartbeats 40000000 in
theorem tl_2 (l : Launch) (Z : State) (a0 : Array Value) (hw : ∀ d ∈ tables_1, d.before a0 Z = true) (b0 b1 b2 : Int64) (sp po fg : Int32) (F L G : Addr) (kf kl kg : ClassId) (f0 l0 g0 f1 l1 g1 f2 l2 g2 : Int64) (h : Heap) (n0 : Nat) (O : Hp h n0 [(F, ArC Z kf .long [(.long f0), (.long f1), (.long f2)]), (L, ArC Z kl .long [(.long l0), (.long l1), (.long l2)]), (G, ArC Z kg .long [(.long g0), (.long g1), (.long g2)])]) :
    Wp l Z room_1 x code maxLocals ret n0 (fun v _ => v = some (.int 1)) h 3 9 67 #[.val (.long b0), .second, .val (.long b1), .second, .val (.long b2), .second, .val (.int sp), .val (.int po), .val (.int fg), .val (.int (2 : Int32)), .val (.ref F), .val (.ref L), .val (.ref G), .unset, .unset, .unset, .unset, .unset, .unset] [] := by
  refine Wp.iload (pc' := 69) at_67 rfl rfl ?_
  refine Wp.newarr (m := 2) (cap := 2) (pc' := 71) O (hw _ (List.mem_of_getElem? (i := 0) rfl)) at_69 (by decide) rfl (Nat.le_refl _) (by decide) (by decide) (by decide) rfl ?_
  intro h2 D k1 O2
  have O2 : Hp h2 n0 [(D, ArC Z k1 .long [(.long (0 : Int64)), (.long (0 : Int64))]), (F, ArC Z kf .long [(.long f0), (.long f1), (.long f2)]), (L, ArC Z kl .long [(.long l0), (.long l1), (.long l2)]), (G, ArC Z kg .long [(.long g0), (.long g1), (.long g2)])] := O2
  refine Wp.astore (L' := #[.val (.long b0), .second, .val (.long b1), .second, .val (.long b2), .second, .val (.int sp), .val (.int po), .val (.int fg), .val (.int (2 : Int32)), .val (.ref F), .val (.ref L), .val (.ref G), .val (.ref D), .unset, .unset, .unset, .unset, .unset]) (pc' := 73) at_71 rfl rfl rfl ?_
  refine Wp.iload (pc' := 75) at_73 rfl rfl ?_
  refine Wp.newarr (m := 2) (cap := 2) (pc' := 77) O2 (hw _ (List.mem_of_getElem? (i := 0) rfl)) at_75 (by decide) rfl (Nat.le_refl _) (by decide) (by decide) (by decide) rfl ?_
  intro h4 A k3 O4
  have O4 : Hp h4 n0 [(A, ArC Z k3 .long [(.long (0 : Int64)), (.long (0 : Int64))]), (D, ArC Z k1 .long [(.long (0 : Int64)), (.long (0 : Int64))]), (F, ArC Z kf .long [(.long f0), (.long f1), (.long f2)]), (L, ArC Z kl .long [(.long l0), (.long l1), (.long l2)]), (G, ArC Z kg .long [(.long g0), (.long g1), (.long g2)])] := O4
  refine Wp.astore (L' := #[.val (.long b0), .second, .val (.long b1), .second, .val (.long b2), .second, .val (.int sp), .val (.int po), .val (.int fg), .val (.int (2 : Int32)), .val (.ref F), .val (.ref L), .val (.ref G), .val (.ref D), .val (.ref A), .unset, .unset, .unset, .unset]) (pc' := 79) at_77 rfl rfl rfl ?_
  refine Wp.iload (pc' := 81) at_79 rfl rfl ?_
  refine Wp.newarr (m := 2) (cap := 2) (pc' := 83) O4 (hw _ (List.mem_of_getElem? (i := 0) rfl)) at_81 (by decide) rfl (Nat.le_refl _) (by decide) (by decide) (by decide) rfl ?_
  intro h6 B k5 O6
  have O6 : Hp h6 n0 [(B, ArC Z k5 .long [(.long (0 : Int64)), (.long (0 : Int64))]), (A, ArC Z k3 .long [(.long (0 : Int64)), (.long (0 : Int64))]), (D, ArC Z k1 .long [(.long (0 : Int64)), (.long (0 : Int64))]), (F, ArC Z kf .long [(.long f0), (.long f1), (.long f2)]), (L, ArC Z kl .long [(.long l0), (.long l1), (.long l2)]), (G, ArC Z kg .long [(.long g0), (.long g1), (.long g2)])] := O6
  refine Wp.astore (L' := #[.val (.long b0), .second, .val (.long b1), .second, .val (.long b2), .second, .val (.int sp), .val (.int po), .val (.int fg), .val (.int (2 : Int32)), .val (.ref F), .val (.ref L), .val (.ref G), .val (.ref D), .val (.ref A), .val (.ref B), .unset, .unset, .unset]) (pc' := 85) at_83 rfl rfl rfl ?_
  refine Wp.iload (pc' := 87) at_85 rfl rfl ?_
  refine Wp.ifN (pc' := 90) at_87 (not_not_intro (by decide)) rfl ?_
  refine Wp.aload (pc' := 92) at_90 rfl rfl rfl ?_
  refine Wp.iconst (z := (0 : Int32)) (pc' := 93) at_92 (by decide) rfl ?_
  refine Wp.aload (pc' := 95) at_93 rfl rfl rfl ?_
  refine Wp.iconst (z := (0 : Int32)) (pc' := 96) at_95 (by decide) rfl ?_
  refine Wp.laload (i := 5) (jn := 0) (v := (.long g0)) (pc' := 97) O6 rfl at_96 (by decide) rfl rfl rfl ?_
  refine Wp.lastore (LA := [_, _]) (jn := 0) (pc' := 98) O6 at_97 (by decide) rfl (by first | decide | simp) rfl ?_
  intro h7 O7
  have O7 : Hp h7 n0 [(B, ArC Z k5 .long [(.long (0 : Int64)), (.long (0 : Int64))]), (A, ArC Z k3 .long [(.long (0 : Int64)), (.long (0 : Int64))]), (D, ArC Z k1 .long [(.long g0), (.long (0 : Int64))]), (F, ArC Z kf .long [(.long f0), (.long f1), (.long f2)]), (L, ArC Z kl .long [(.long l0), (.long l1), (.long l2)]), (G, ArC Z kg .long [(.long g0), (.long g1), (.long g2)])] := O7
  refine Wp.aload (pc' := 100) at_98 rfl rfl rfl ?_
  refine Wp.iconst (z := (0 : Int32)) (pc' := 101) at_100 (by decide) rfl ?_
  refine Wp.aload (pc' := 103) at_101 rfl rfl rfl ?_
  refine Wp.iconst (z := (0 : Int32)) (pc' := 104) at_103 (by decide) rfl ?_
  refine Wp.laload (i := 3) (jn := 0) (v := (.long f0)) (pc' := 105) O7 rfl at_104 (by decide) rfl rfl rfl ?_
  refine Wp.lastore (LA := [_]) (jn := 0) (pc' := 106) O7 at_105 (by decide) rfl (by first | decide | simp) rfl ?_
  intro h8 O8
  have O8 : Hp h8 n0 [(B, ArC Z k5 .long [(.long (0 : Int64)), (.long (0 : Int64))]), (A, ArC Z k3 .long [(.long f0), (.long (0 : Int64))]), (D, ArC Z k1 .long [(.long g0), (.long (0 : Int64))]), (F, ArC Z kf .long [(.long f0), (.long f1), (.long f2)]), (L, ArC Z kl .long [(.long l0), (.long l1), (.long l2)]), (G, ArC Z kg .long [(.long g0), (.long g1), (.long g2)])] := O8
  refine Wp.aload (pc' := 108) at_106 rfl rfl rfl ?_
  refine Wp.iconst (z := (0 : Int32)) (pc' := 109) at_108 (by decide) rfl ?_
  refine Wp.aload (pc' := 111) at_109 rfl rfl rfl ?_
  refine Wp.iconst (z := (0 : Int32)) (pc' := 112) at_111 (by decide) rfl ?_
  refine Wp.laload (i := 4) (jn := 0) (v := (.long l0)) (pc' := 113) O8 rfl at_112 (by decide) rfl rfl rfl ?_
  refine Wp.lastore (LA := []) (jn := 0) (pc' := 114) O8 at_113 (by decide) rfl (by first | decide | simp) rfl ?_
  intro h9 O9
  have O9 : Hp h9 n0 [(B, ArC Z k5 .long [(.long l0), (.long (0 : Int64))]), (A, ArC Z k3 .long [(.long f0), (.long (0 : Int64))]), (D, ArC Z k1 .long [(.long g0), (.long (0 : Int64))]), (F, ArC Z kf .long [(.long f0), (.long f1), (.long f2)]), (L, ArC Z kl .long [(.long l0), (.long l1), (.long l2)]), (G, ArC Z kg .long [(.long g0), (.long g1), (.long g2)])] := O9
  refine Wp.iload (pc' := 116) at_114 rfl rfl ?_
  refine Wp.iconst (z := (1 : Int32)) (pc' := 117) at_116 (by decide) rfl ?_
  refine Wp.icmpN (pc' := 120) at_117 (not_not_intro (by decide)) rfl ?_
  refine Wp.aload (pc' := 122) at_120 rfl rfl rfl ?_
  refine Wp.iconst (z := (1 : Int32)) (pc' := 123) at_122 (by decide) rfl ?_
  refine Wp.aload (pc' := 125) at_123 rfl rfl rfl ?_
  refine Wp.iconst (z := (1 : Int32)) (pc' := 126) at_125 (by decide) rfl ?_
  refine Wp.laload (i := 5) (jn := 1) (v := (.long g1)) (pc' := 127) O9 rfl at_126 (by decide) rfl rfl rfl ?_
  refine Wp.lastore (LA := [_, _]) (jn := 1) (pc' := 128) O9 at_127 (by decide) rfl (by first | decide | simp) rfl ?_
  intro h10 O10
  have O10 : Hp h10 n0 [(B, ArC Z k5 .long [(.long l0), (.long (0 : Int64))]), (A, ArC Z k3 .long [(.long f0), (.long (0 : Int64))]), (D, ArC Z k1 .long [(.long g0), (.long g1)]), (F, ArC Z kf .long [(.long f0), (.long f1), (.long f2)]), (L, ArC Z kl .long [(.long l0), (.long l1), (.long l2)]), (G, ArC Z kg .long [(.long g0), (.long g1), (.long g2)])] := O10
  refine Wp.aload (pc' := 130) at_128 rfl rfl rfl ?_
  refine Wp.iconst (z := (1 : Int32)) (pc' := 131) at_130 (by decide) rfl ?_
  refine Wp.aload (pc' := 133) at_131 rfl rfl rfl ?_
  refine Wp.iconst (z := (1 : Int32)) (pc' := 134) at_133 (by decide) rfl ?_
  refine Wp.laload (i := 3) (jn := 1) (v := (.long f1)) (pc' := 135) O10 rfl at_134 (by decide) rfl rfl rfl ?_
  refine Wp.lastore (LA := [_]) (jn := 1) (pc' := 136) O10 at_135 (by decide) rfl (by first | decide | simp) rfl ?_
  intro h11 O11
  have O11 : Hp h11 n0 [(B, ArC Z k5 .long [(.long l0), (.long (0 : Int64))]), (A, ArC Z k3 .long [(.long f0), (.long f1)]), (D, ArC Z k1 .long [(.long g0), (.long g1)]), (F, ArC Z kf .long [(.long f0), (.long f1), (.long f2)]), (L, ArC Z kl .long [(.long l0), (.long l1), (.long l2)]), (G, ArC Z kg .long [(.long g0), (.long g1), (.long g2)])] := O11
  refine Wp.aload (pc' := 138) at_136 rfl rfl rfl ?_
  refine Wp.iconst (z := (1 : Int32)) (pc' := 139) at_138 (by decide) rfl ?_
  refine Wp.aload (pc' := 141) at_139 rfl rfl rfl ?_
  refine Wp.iconst (z := (1 : Int32)) (pc' := 142) at_141 (by decide) rfl ?_
  refine Wp.laload (i := 4) (jn := 1) (v := (.long l1)) (pc' := 143) O11 rfl at_142 (by decide) rfl rfl rfl ?_
  refine Wp.lastore (LA := []) (jn := 1) (pc' := 144) O11 at_143 (by decide) rfl (by first | decide | simp) rfl ?_
  intro h12 O12
  have O12 : Hp h12 n0 [(B, ArC Z k5 .long [(.long l0), (.long l1)]), (A, ArC Z k3 .long [(.long f0), (.long f1)]), (D, ArC Z k1 .long [(.long g0), (.long g1)]), (F, ArC Z kf .long [(.long f0), (.long f1), (.long f2)]), (L, ArC Z kl .long [(.long l0), (.long l1), (.long l2)]), (G, ArC Z kg .long [(.long g0), (.long g1), (.long g2)])] := O12
  refine Wp.iload (pc' := 146) at_144 rfl rfl ?_
  refine Wp.iconst (z := (2 : Int32)) (pc' := 147) at_146 (by decide) rfl ?_
  refine Wp.icmpY (pc' := 174) at_147 (by decide) (by decide) (by decide) ?_
  refine Wp.iconst (z := (2 : Int32)) (pc' := 175) at_174 (by decide) rfl ?_
  refine Wp.iload (pc' := 177) at_175 rfl rfl ?_
  refine Wp.aload (pc' := 179) at_177 rfl rfl rfl ?_
  refine Wp.aload (pc' := 181) at_179 rfl rfl rfl ?_
  have O13 : Hp h12 n0 [(L, ArC Z kl .long [(.long l0), (.long l1), (.long l2)]), (B, ArC Z k5 .long [(.long l0), (.long l1)]), (A, ArC Z k3 .long [(.long f0), (.long f1)]), (D, ArC Z k1 .long [(.long g0), (.long g1)]), (F, ArC Z kf .long [(.long f0), (.long f1), (.long f2)]), (G, ArC Z kg .long [(.long g0), (.long g1), (.long g2)])] := Hp.front (LA := [_, _, _, _]) O12
  have O14 : Hp h12 n0 [(G, ArC Z kg .long [(.long g0), (.long g1), (.long g2)]), (L, ArC Z kl .long [(.long l0), (.long l1), (.long l2)]), (B, ArC Z k5 .long [(.long l0), (.long l1)]), (A, ArC Z k3 .long [(.long f0), (.long f1)]), (D, ArC Z k1 .long [(.long g0), (.long g1)]), (F, ArC Z kf .long [(.long f0), (.long f1), (.long f2)])] := Hp.front (LA := [_, _, _, _, _]) O13
  refine Wp.callS (yy := (⟨"com/example/keyed_tensor/keyedtensor/array/DatasetNextGridPositionPinLaw", "can", "(II[J[J)Z"⟩ : MethodName)) (pc' := 184) (argsL := [(.int (2 : Int32)), (.int (2 : Int32)), (.ref G), (.ref L)]) (S := []) (rm_cao l Z a0 hw G L kg kl [(.long g0), (.long g1), (.long g2)] [(.long l0), (.long l1), (.long l2)] (2 : Int32) (2 : Int32) (by decide) h12 n0 O14) (hw _ (List.mem_of_getElem? (i := 6) rfl)) (hw _ (List.mem_of_getElem? (i := 7) rfl)) (hw _ (List.mem_of_getElem? (i := 3) rfl)) (hw _ (List.mem_of_getElem? (i := 8) rfl)) (by decide) (W := 0) rfl (lenOf pd_2 rfl) rfl rfl (Nat.le_refl 0) (by decide) (by decide) (by decide) (by decide) at_181 rfl ?_
  rintro _ _ ⟨rfl, rfl⟩
  show Wp _ _ _ _ _ _ _ _ _ _ _ _ 184 #[.val (.long b0), .second, .val (.long b1), .second, .val (.long b2), .second, .val (.int sp), .val (.int po), .val (.int fg), .val (.int (2 : Int32)), .val (.ref F), .val (.ref L), .val (.ref G), .val (.ref D), .val (.ref A), .val (.ref B), .unset, .unset, .unset] [(.int (0 : Int32))]
  refine Wp.ifY (pc' := 191) at_184 rfl (by decide) (by decide) ?_
  refine Wp.iconst (z := (1 : Int32)) (pc' := 192) at_191 (by decide) rfl ?_
  refine Wp.iload (pc' := 194) at_192 rfl rfl ?_
  refine Wp.aload (pc' := 196) at_194 rfl rfl rfl ?_
  refine Wp.aload (pc' := 198) at_196 rfl rfl rfl ?_
  have O15 : Hp h12 n0 [(L, ArC Z kl .long [(.long l0), (.long l1), (.long l2)]), (G, ArC Z kg .long [(.long g0), (.long g1), (.long g2)]), (B, ArC Z k5 .long [(.long l0), (.long l1)]), (A, ArC Z k3 .long [(.long f0), (.long f1)]), (D, ArC Z k1 .long [(.long g0), (.long g1)]), (F, ArC Z kf .long [(.long f0), (.long f1), (.long f2)])] := Hp.front (LA := [_]) O14
  have O16 : Hp h12 n0 [(G, ArC Z kg .long [(.long g0), (.long g1), (.long g2)]), (L, ArC Z kl .long [(.long l0), (.long l1), (.long l2)]), (B, ArC Z k5 .long [(.long l0), (.long l1)]), (A, ArC Z k3 .long [(.long f0), (.long f1)]), (D, ArC Z k1 .long [(.long g0), (.long g1)]), (F, ArC Z kf .long [(.long f0), (.long f1), (.long f2)])] := Hp.front (LA := [_]) O15
  by_cases hc1 : g1 < l1
  · refine Wp.callS (yy := (⟨"com/example/keyed_tensor/keyedtensor/array/DatasetNextGridPositionPinLaw", "can", "(II[J[J)Z"⟩ : MethodName)) (pc' := 201) (argsL := [(.int (1 : Int32)), (.int (2 : Int32)), (.ref G), (.ref L)]) (S := []) (rm_cay l Z a0 hw G L kg kl [(.long g0), (.long g1), (.long g2)] [(.long l0), (.long l1), (.long l2)] (1 : Int32) (2 : Int32) (by decide) (by decide) 1 rfl g1 l1 rfl rfl hc1 h12 n0 O16) (hw _ (List.mem_of_getElem? (i := 6) rfl)) (hw _ (List.mem_of_getElem? (i := 7) rfl)) (hw _ (List.mem_of_getElem? (i := 3) rfl)) (hw _ (List.mem_of_getElem? (i := 8) rfl)) (by decide) (W := 0) rfl (lenOf pd_2 rfl) rfl rfl (Nat.le_refl 0) (by decide) (by decide) (by decide) (by decide) at_198 rfl ?_
    rintro _ _ ⟨rfl, rfl⟩
    show Wp _ _ _ _ _ _ _ _ _ _ _ _ 201 #[.val (.long b0), .second, .val (.long b1), .second, .val (.long b2), .second, .val (.int sp), .val (.int po), .val (.int fg), .val (.int (2 : Int32)), .val (.ref F), .val (.ref L), .val (.ref G), .val (.ref D), .val (.ref A), .val (.ref B), .unset, .unset, .unset] [(.int (1 : Int32))]
    refine Wp.ifN (pc' := 204) at_201 (by decide) rfl ?_
    refine Wp.iconst (z := (1 : Int32)) (pc' := 205) at_204 (by decide) rfl ?_
    refine Wp.goto (pc' := 226) at_205 (by decide) (by decide) ?_
    have O17 : Hp h12 n0 [(L, ArC Z kl .long [(.long l0), (.long l1), (.long l2)]), (G, ArC Z kg .long [(.long g0), (.long g1), (.long g2)]), (B, ArC Z k5 .long [(.long l0), (.long l1)]), (A, ArC Z k3 .long [(.long f0), (.long f1)]), (D, ArC Z k1 .long [(.long g0), (.long g1)]), (F, ArC Z kf .long [(.long f0), (.long f1), (.long f2)])] := Hp.front (LA := [_]) O16
    have O18 : Hp h12 n0 [(F, ArC Z kf .long [(.long f0), (.long f1), (.long f2)]), (L, ArC Z kl .long [(.long l0), (.long l1), (.long l2)]), (G, ArC Z kg .long [(.long g0), (.long g1), (.long g2)]), (B, ArC Z k5 .long [(.long l0), (.long l1)]), (A, ArC Z k3 .long [(.long f0), (.long f1)]), (D, ArC Z k1 .long [(.long g0), (.long g1)])] := Hp.front (LA := [_, _, _, _, _]) O17
    have O19 : Hp h12 n0 [(B, ArC Z k5 .long [(.long l0), (.long l1)]), (F, ArC Z kf .long [(.long f0), (.long f1), (.long f2)]), (L, ArC Z kl .long [(.long l0), (.long l1), (.long l2)]), (G, ArC Z kg .long [(.long g0), (.long g1), (.long g2)]), (A, ArC Z k3 .long [(.long f0), (.long f1)]), (D, ArC Z k1 .long [(.long g0), (.long g1)])] := Hp.front (LA := [_, _, _]) O18
    have O20 : Hp h12 n0 [(A, ArC Z k3 .long [(.long f0), (.long f1)]), (B, ArC Z k5 .long [(.long l0), (.long l1)]), (F, ArC Z kf .long [(.long f0), (.long f1), (.long f2)]), (L, ArC Z kl .long [(.long l0), (.long l1), (.long l2)]), (G, ArC Z kg .long [(.long g0), (.long g1), (.long g2)]), (D, ArC Z k1 .long [(.long g0), (.long g1)])] := Hp.front (LA := [_, _, _, _]) O19
    have O21 : Hp h12 n0 [(D, ArC Z k1 .long [(.long g0), (.long g1)]), (A, ArC Z k3 .long [(.long f0), (.long f1)]), (B, ArC Z k5 .long [(.long l0), (.long l1)]), (F, ArC Z kf .long [(.long f0), (.long f1), (.long f2)]), (L, ArC Z kl .long [(.long l0), (.long l1), (.long l2)]), (G, ArC Z kg .long [(.long g0), (.long g1), (.long g2)])] := Hp.front (LA := [_, _, _, _, _]) O20
    exact tt_22 l Z a0 hw b0 b1 b2 sp po fg F L G kf kl kg f0 l0 g0 f1 l1 g1 f2 l2 g2 D A B k1 k3 k5 hc1 h12 n0 O21
  · refine Wp.callS (yy := (⟨"com/example/keyed_tensor/keyedtensor/array/DatasetNextGridPositionPinLaw", "can", "(II[J[J)Z"⟩ : MethodName)) (pc' := 201) (argsL := [(.int (1 : Int32)), (.int (2 : Int32)), (.ref G), (.ref L)]) (S := []) (rm_can l Z a0 hw G L kg kl [(.long g0), (.long g1), (.long g2)] [(.long l0), (.long l1), (.long l2)] (1 : Int32) (2 : Int32) (by decide) (by decide) 1 rfl g1 l1 rfl rfl hc1 h12 n0 O16) (hw _ (List.mem_of_getElem? (i := 6) rfl)) (hw _ (List.mem_of_getElem? (i := 7) rfl)) (hw _ (List.mem_of_getElem? (i := 3) rfl)) (hw _ (List.mem_of_getElem? (i := 8) rfl)) (by decide) (W := 0) rfl (lenOf pd_2 rfl) rfl rfl (Nat.le_refl 0) (by decide) (by decide) (by decide) (by decide) at_198 rfl ?_
    rintro _ _ ⟨rfl, rfl⟩
    show Wp _ _ _ _ _ _ _ _ _ _ _ _ 201 #[.val (.long b0), .second, .val (.long b1), .second, .val (.long b2), .second, .val (.int sp), .val (.int po), .val (.int fg), .val (.int (2 : Int32)), .val (.ref F), .val (.ref L), .val (.ref G), .val (.ref D), .val (.ref A), .val (.ref B), .unset, .unset, .unset] [(.int (0 : Int32))]
    refine Wp.ifY (pc' := 208) at_201 rfl (by decide) (by decide) ?_
    refine Wp.iconst (z := (0 : Int32)) (pc' := 209) at_208 (by decide) rfl ?_
    refine Wp.iload (pc' := 211) at_209 rfl rfl ?_
    refine Wp.aload (pc' := 213) at_211 rfl rfl rfl ?_
    refine Wp.aload (pc' := 215) at_213 rfl rfl rfl ?_
    have O22 : Hp h12 n0 [(L, ArC Z kl .long [(.long l0), (.long l1), (.long l2)]), (G, ArC Z kg .long [(.long g0), (.long g1), (.long g2)]), (B, ArC Z k5 .long [(.long l0), (.long l1)]), (A, ArC Z k3 .long [(.long f0), (.long f1)]), (D, ArC Z k1 .long [(.long g0), (.long g1)]), (F, ArC Z kf .long [(.long f0), (.long f1), (.long f2)])] := Hp.front (LA := [_]) O16
    have O23 : Hp h12 n0 [(G, ArC Z kg .long [(.long g0), (.long g1), (.long g2)]), (L, ArC Z kl .long [(.long l0), (.long l1), (.long l2)]), (B, ArC Z k5 .long [(.long l0), (.long l1)]), (A, ArC Z k3 .long [(.long f0), (.long f1)]), (D, ArC Z k1 .long [(.long g0), (.long g1)]), (F, ArC Z kf .long [(.long f0), (.long f1), (.long f2)])] := Hp.front (LA := [_]) O22
    by_cases hc0 : g0 < l0
    · refine Wp.callS (yy := (⟨"com/example/keyed_tensor/keyedtensor/array/DatasetNextGridPositionPinLaw", "can", "(II[J[J)Z"⟩ : MethodName)) (pc' := 218) (argsL := [(.int (0 : Int32)), (.int (2 : Int32)), (.ref G), (.ref L)]) (S := []) (rm_cay l Z a0 hw G L kg kl [(.long g0), (.long g1), (.long g2)] [(.long l0), (.long l1), (.long l2)] (0 : Int32) (2 : Int32) (by decide) (by decide) 0 rfl g0 l0 rfl rfl hc0 h12 n0 O23) (hw _ (List.mem_of_getElem? (i := 6) rfl)) (hw _ (List.mem_of_getElem? (i := 7) rfl)) (hw _ (List.mem_of_getElem? (i := 3) rfl)) (hw _ (List.mem_of_getElem? (i := 8) rfl)) (by decide) (W := 0) rfl (lenOf pd_2 rfl) rfl rfl (Nat.le_refl 0) (by decide) (by decide) (by decide) (by decide) at_215 rfl ?_
      rintro _ _ ⟨rfl, rfl⟩
      show Wp _ _ _ _ _ _ _ _ _ _ _ _ 218 #[.val (.long b0), .second, .val (.long b1), .second, .val (.long b2), .second, .val (.int sp), .val (.int po), .val (.int fg), .val (.int (2 : Int32)), .val (.ref F), .val (.ref L), .val (.ref G), .val (.ref D), .val (.ref A), .val (.ref B), .unset, .unset, .unset] [(.int (1 : Int32))]
      refine Wp.ifN (pc' := 221) at_218 (by decide) rfl ?_
      refine Wp.iconst (z := (0 : Int32)) (pc' := 222) at_221 (by decide) rfl ?_
      refine Wp.goto (pc' := 226) at_222 (by decide) (by decide) ?_
      have O24 : Hp h12 n0 [(L, ArC Z kl .long [(.long l0), (.long l1), (.long l2)]), (G, ArC Z kg .long [(.long g0), (.long g1), (.long g2)]), (B, ArC Z k5 .long [(.long l0), (.long l1)]), (A, ArC Z k3 .long [(.long f0), (.long f1)]), (D, ArC Z k1 .long [(.long g0), (.long g1)]), (F, ArC Z kf .long [(.long f0), (.long f1), (.long f2)])] := Hp.front (LA := [_]) O23
      have O25 : Hp h12 n0 [(F, ArC Z kf .long [(.long f0), (.long f1), (.long f2)]), (L, ArC Z kl .long [(.long l0), (.long l1), (.long l2)]), (G, ArC Z kg .long [(.long g0), (.long g1), (.long g2)]), (B, ArC Z k5 .long [(.long l0), (.long l1)]), (A, ArC Z k3 .long [(.long f0), (.long f1)]), (D, ArC Z k1 .long [(.long g0), (.long g1)])] := Hp.front (LA := [_, _, _, _, _]) O24
      have O26 : Hp h12 n0 [(B, ArC Z k5 .long [(.long l0), (.long l1)]), (F, ArC Z kf .long [(.long f0), (.long f1), (.long f2)]), (L, ArC Z kl .long [(.long l0), (.long l1), (.long l2)]), (G, ArC Z kg .long [(.long g0), (.long g1), (.long g2)]), (A, ArC Z k3 .long [(.long f0), (.long f1)]), (D, ArC Z k1 .long [(.long g0), (.long g1)])] := Hp.front (LA := [_, _, _]) O25
      have O27 : Hp h12 n0 [(A, ArC Z k3 .long [(.long f0), (.long f1)]), (B, ArC Z k5 .long [(.long l0), (.long l1)]), (F, ArC Z kf .long [(.long f0), (.long f1), (.long f2)]), (L, ArC Z kl .long [(.long l0), (.long l1), (.long l2)]), (G, ArC Z kg .long [(.long g0), (.long g1), (.long g2)]), (D, ArC Z k1 .long [(.long g0), (.long g1)])] := Hp.front (LA := [_, _, _, _]) O26
      have O28 : Hp h12 n0 [(D, ArC Z k1 .long [(.long g0), (.long g1)]), (A, ArC Z k3 .long [(.long f0), (.long f1)]), (B, ArC Z k5 .long [(.long l0), (.long l1)]), (F, ArC Z kf .long [(.long f0), (.long f1), (.long f2)]), (L, ArC Z kl .long [(.long l0), (.long l1), (.long l2)]), (G, ArC Z kg .long [(.long g0), (.long g1), (.long g2)])] := Hp.front (LA := [_, _, _, _, _]) O27
      exact tt_21 l Z a0 hw b0 b1 b2 sp po fg F L G kf kl kg f0 l0 g0 f1 l1 g1 f2 l2 g2 D A B k1 k3 k5 hc0 hc1 h12 n0 O28
    · refine Wp.callS (yy := (⟨"com/example/keyed_tensor/keyedtensor/array/DatasetNextGridPositionPinLaw", "can", "(II[J[J)Z"⟩ : MethodName)) (pc' := 218) (argsL := [(.int (0 : Int32)), (.int (2 : Int32)), (.ref G), (.ref L)]) (S := []) (rm_can l Z a0 hw G L kg kl [(.long g0), (.long g1), (.long g2)] [(.long l0), (.long l1), (.long l2)] (0 : Int32) (2 : Int32) (by decide) (by decide) 0 rfl g0 l0 rfl rfl hc0 h12 n0 O23) (hw _ (List.mem_of_getElem? (i := 6) rfl)) (hw _ (List.mem_of_getElem? (i := 7) rfl)) (hw _ (List.mem_of_getElem? (i := 3) rfl)) (hw _ (List.mem_of_getElem? (i := 8) rfl)) (by decide) (W := 0) rfl (lenOf pd_2 rfl) rfl rfl (Nat.le_refl 0) (by decide) (by decide) (by decide) (by decide) at_215 rfl ?_
      rintro _ _ ⟨rfl, rfl⟩
      show Wp _ _ _ _ _ _ _ _ _ _ _ _ 218 #[.val (.long b0), .second, .val (.long b1), .second, .val (.long b2), .second, .val (.int sp), .val (.int po), .val (.int fg), .val (.int (2 : Int32)), .val (.ref F), .val (.ref L), .val (.ref G), .val (.ref D), .val (.ref A), .val (.ref B), .unset, .unset, .unset] [(.int (0 : Int32))]
      refine Wp.ifY (pc' := 225) at_218 rfl (by decide) (by decide) ?_
      refine Wp.iconst (z := (-1 : Int32)) (pc' := 226) at_225 (by decide) rfl ?_
      have O29 : Hp h12 n0 [(L, ArC Z kl .long [(.long l0), (.long l1), (.long l2)]), (G, ArC Z kg .long [(.long g0), (.long g1), (.long g2)]), (B, ArC Z k5 .long [(.long l0), (.long l1)]), (A, ArC Z k3 .long [(.long f0), (.long f1)]), (D, ArC Z k1 .long [(.long g0), (.long g1)]), (F, ArC Z kf .long [(.long f0), (.long f1), (.long f2)])] := Hp.front (LA := [_]) O23
      have O30 : Hp h12 n0 [(F, ArC Z kf .long [(.long f0), (.long f1), (.long f2)]), (L, ArC Z kl .long [(.long l0), (.long l1), (.long l2)]), (G, ArC Z kg .long [(.long g0), (.long g1), (.long g2)]), (B, ArC Z k5 .long [(.long l0), (.long l1)]), (A, ArC Z k3 .long [(.long f0), (.long f1)]), (D, ArC Z k1 .long [(.long g0), (.long g1)])] := Hp.front (LA := [_, _, _, _, _]) O29
      have O31 : Hp h12 n0 [(B, ArC Z k5 .long [(.long l0), (.long l1)]), (F, ArC Z kf .long [(.long f0), (.long f1), (.long f2)]), (L, ArC Z kl .long [(.long l0), (.long l1), (.long l2)]), (G, ArC Z kg .long [(.long g0), (.long g1), (.long g2)]), (A, ArC Z k3 .long [(.long f0), (.long f1)]), (D, ArC Z k1 .long [(.long g0), (.long g1)])] := Hp.front (LA := [_, _, _]) O30
      have O32 : Hp h12 n0 [(A, ArC Z k3 .long [(.long f0), (.long f1)]), (B, ArC Z k5 .long [(.long l0), (.long l1)]), (F, ArC Z kf .long [(.long f0), (.long f1), (.long f2)]), (L, ArC Z kl .long [(.long l0), (.long l1), (.long l2)]), (G, ArC Z kg .long [(.long g0), (.long g1), (.long g2)]), (D, ArC Z k1 .long [(.long g0), (.long g1)])] := Hp.front (LA := [_, _, _, _]) O31
      have O33 : Hp h12 n0 [(D, ArC Z k1 .long [(.long g0), (.long g1)]), (A, ArC Z k3 .long [(.long f0), (.long f1)]), (B, ArC Z k5 .long [(.long l0), (.long l1)]), (F, ArC Z kf .long [(.long f0), (.long f1), (.long f2)]), (L, ArC Z kl .long [(.long l0), (.long l1), (.long l2)]), (G, ArC Z kg .long [(.long g0), (.long g1), (.long g2)])] := Hp.front (LA := [_, _, _, _, _]) O32
      exact tt_20 l Z a0 hw b0 b1 b2 sp po fg F L G kf kl kg f0 l0 g0 f1 l1 g1 f2 l2 g2 D A B k1 k3 k5 hc0 hc1 h12 n0 O33

set_option maxRecDepth 65536 in
set_option maxHeartbeats 40000000 in
theorem tl_3 (l : Launch) (Z : State) (a0 : Array Value) (hw : ∀ d ∈ tables_1, d.before a0 Z = true) (b0 b1 b2 : Int64) (sp po fg : Int32) (F L G : Addr) (kf kl kg : ClassId) (f0 l0 g0 f1 l1 g1 f2 l2 g2 : Int64) (h : Heap) (n0 : Nat) (O : Hp h n0 [(F, ArC Z kf .long [(.long f0), (.long f1), (.long f2)]), (L, ArC Z kl .long [(.long l0), (.long l1), (.long l2)]), (G, ArC Z kg .long [(.long g0), (.long g1), (.long g2)])]) :
    Wp l Z room_1 x code maxLocals ret n0 (fun v _ => v = some (.int 1)) h 3 9 67 #[.val (.long b0), .second, .val (.long b1), .second, .val (.long b2), .second, .val (.int sp), .val (.int po), .val (.int fg), .val (.int (3 : Int32)), .val (.ref F), .val (.ref L), .val (.ref G), .unset, .unset, .unset, .unset, .unset, .unset] [] := by
  refine Wp.iload (pc' := 69) at_67 rfl rfl ?_
  refine Wp.newarr (m := 3) (cap := 3) (pc' := 71) O (hw _ (List.mem_of_getElem? (i := 0) rfl)) at_69 (by decide) rfl (Nat.le_refl _) (by decide) (by decide) (by decide) rfl ?_
  intro h2 D k1 O2
  have O2 : Hp h2 n0 [(D, ArC Z k1 .long [(.long (0 : Int64)), (.long (0 : Int64)), (.long (0 : Int64))]), (F, ArC Z kf .long [(.long f0), (.long f1), (.long f2)]), (L, ArC Z kl .long [(.long l0), (.long l1), (.long l2)]), (G, ArC Z kg .long [(.long g0), (.long g1), (.long g2)])] := O2
  refine Wp.astore (L' := #[.val (.long b0), .second, .val (.long b1), .second, .val (.long b2), .second, .val (.int sp), .val (.int po), .val (.int fg), .val (.int (3 : Int32)), .val (.ref F), .val (.ref L), .val (.ref G), .val (.ref D), .unset, .unset, .unset, .unset, .unset]) (pc' := 73) at_71 rfl rfl rfl ?_
  refine Wp.iload (pc' := 75) at_73 rfl rfl ?_
  refine Wp.newarr (m := 3) (cap := 3) (pc' := 77) O2 (hw _ (List.mem_of_getElem? (i := 0) rfl)) at_75 (by decide) rfl (Nat.le_refl _) (by decide) (by decide) (by decide) rfl ?_
  intro h4 A k3 O4
  have O4 : Hp h4 n0 [(A, ArC Z k3 .long [(.long (0 : Int64)), (.long (0 : Int64)), (.long (0 : Int64))]), (D, ArC Z k1 .long [(.long (0 : Int64)), (.long (0 : Int64)), (.long (0 : Int64))]), (F, ArC Z kf .long [(.long f0), (.long f1), (.long f2)]), (L, ArC Z kl .long [(.long l0), (.long l1), (.long l2)]), (G, ArC Z kg .long [(.long g0), (.long g1), (.long g2)])] := O4
  refine Wp.astore (L' := #[.val (.long b0), .second, .val (.long b1), .second, .val (.long b2), .second, .val (.int sp), .val (.int po), .val (.int fg), .val (.int (3 : Int32)), .val (.ref F), .val (.ref L), .val (.ref G), .val (.ref D), .val (.ref A), .unset, .unset, .unset, .unset]) (pc' := 79) at_77 rfl rfl rfl ?_
  refine Wp.iload (pc' := 81) at_79 rfl rfl ?_
  refine Wp.newarr (m := 3) (cap := 3) (pc' := 83) O4 (hw _ (List.mem_of_getElem? (i := 0) rfl)) at_81 (by decide) rfl (Nat.le_refl _) (by decide) (by decide) (by decide) rfl ?_
  intro h6 B k5 O6
  have O6 : Hp h6 n0 [(B, ArC Z k5 .long [(.long (0 : Int64)), (.long (0 : Int64)), (.long (0 : Int64))]), (A, ArC Z k3 .long [(.long (0 : Int64)), (.long (0 : Int64)), (.long (0 : Int64))]), (D, ArC Z k1 .long [(.long (0 : Int64)), (.long (0 : Int64)), (.long (0 : Int64))]), (F, ArC Z kf .long [(.long f0), (.long f1), (.long f2)]), (L, ArC Z kl .long [(.long l0), (.long l1), (.long l2)]), (G, ArC Z kg .long [(.long g0), (.long g1), (.long g2)])] := O6
  refine Wp.astore (L' := #[.val (.long b0), .second, .val (.long b1), .second, .val (.long b2), .second, .val (.int sp), .val (.int po), .val (.int fg), .val (.int (3 : Int32)), .val (.ref F), .val (.ref L), .val (.ref G), .val (.ref D), .val (.ref A), .val (.ref B), .unset, .unset, .unset]) (pc' := 85) at_83 rfl rfl rfl ?_
  refine Wp.iload (pc' := 87) at_85 rfl rfl ?_
  refine Wp.ifN (pc' := 90) at_87 (not_not_intro (by decide)) rfl ?_
  refine Wp.aload (pc' := 92) at_90 rfl rfl rfl ?_
  refine Wp.iconst (z := (0 : Int32)) (pc' := 93) at_92 (by decide) rfl ?_
  refine Wp.aload (pc' := 95) at_93 rfl rfl rfl ?_
  refine Wp.iconst (z := (0 : Int32)) (pc' := 96) at_95 (by decide) rfl ?_
  refine Wp.laload (i := 5) (jn := 0) (v := (.long g0)) (pc' := 97) O6 rfl at_96 (by decide) rfl rfl rfl ?_
  refine Wp.lastore (LA := [_, _]) (jn := 0) (pc' := 98) O6 at_97 (by decide) rfl (by first | decide | simp) rfl ?_
  intro h7 O7
  have O7 : Hp h7 n0 [(B, ArC Z k5 .long [(.long (0 : Int64)), (.long (0 : Int64)), (.long (0 : Int64))]), (A, ArC Z k3 .long [(.long (0 : Int64)), (.long (0 : Int64)), (.long (0 : Int64))]), (D, ArC Z k1 .long [(.long g0), (.long (0 : Int64)), (.long (0 : Int64))]), (F, ArC Z kf .long [(.long f0), (.long f1), (.long f2)]), (L, ArC Z kl .long [(.long l0), (.long l1), (.long l2)]), (G, ArC Z kg .long [(.long g0), (.long g1), (.long g2)])] := O7
  refine Wp.aload (pc' := 100) at_98 rfl rfl rfl ?_
  refine Wp.iconst (z := (0 : Int32)) (pc' := 101) at_100 (by decide) rfl ?_
  refine Wp.aload (pc' := 103) at_101 rfl rfl rfl ?_
  refine Wp.iconst (z := (0 : Int32)) (pc' := 104) at_103 (by decide) rfl ?_
  refine Wp.laload (i := 3) (jn := 0) (v := (.long f0)) (pc' := 105) O7 rfl at_104 (by decide) rfl rfl rfl ?_
  refine Wp.lastore (LA := [_]) (jn := 0) (pc' := 106) O7 at_105 (by decide) rfl (by first | decide | simp) rfl ?_
  intro h8 O8
  have O8 : Hp h8 n0 [(B, ArC Z k5 .long [(.long (0 : Int64)), (.long (0 : Int64)), (.long (0 : Int64))]), (A, ArC Z k3 .long [(.long f0), (.long (0 : Int64)), (.long (0 : Int64))]), (D, ArC Z k1 .long [(.long g0), (.long (0 : Int64)), (.long (0 : Int64))]), (F, ArC Z kf .long [(.long f0), (.long f1), (.long f2)]), (L, ArC Z kl .long [(.long l0), (.long l1), (.long l2)]), (G, ArC Z kg .long [(.long g0), (.long g1), (.long g2)])] := O8
  refine Wp.aload (pc' := 108) at_106 rfl rfl rfl ?_
  refine Wp.iconst (z := (0 : Int32)) (pc' := 109) at_108 (by decide) rfl ?_
  refine Wp.aload (pc' := 111) at_109 rfl rfl rfl ?_
  refine Wp.iconst (z := (0 : Int32)) (pc' := 112) at_111 (by decide) rfl ?_
  refine Wp.laload (i := 4) (jn := 0) (v := (.long l0)) (pc' := 113) O8 rfl at_112 (by decide) rfl rfl rfl ?_
  refine Wp.lastore (LA := []) (jn := 0) (pc' := 114) O8 at_113 (by decide) rfl (by first | decide | simp) rfl ?_
  intro h9 O9
  have O9 : Hp h9 n0 [(B, ArC Z k5 .long [(.long l0), (.long (0 : Int64)), (.long (0 : Int64))]), (A, ArC Z k3 .long [(.long f0), (.long (0 : Int64)), (.long (0 : Int64))]), (D, ArC Z k1 .long [(.long g0), (.long (0 : Int64)), (.long (0 : Int64))]), (F, ArC Z kf .long [(.long f0), (.long f1), (.long f2)]), (L, ArC Z kl .long [(.long l0), (.long l1), (.long l2)]), (G, ArC Z kg .long [(.long g0), (.long g1), (.long g2)])] := O9
  refine Wp.iload (pc' := 116) at_114 rfl rfl ?_
  refine Wp.iconst (z := (1 : Int32)) (pc' := 117) at_116 (by decide) rfl ?_
  refine Wp.icmpN (pc' := 120) at_117 (not_not_intro (by decide)) rfl ?_
  refine Wp.aload (pc' := 122) at_120 rfl rfl rfl ?_
  refine Wp.iconst (z := (1 : Int32)) (pc' := 123) at_122 (by decide) rfl ?_
  refine Wp.aload (pc' := 125) at_123 rfl rfl rfl ?_
  refine Wp.iconst (z := (1 : Int32)) (pc' := 126) at_125 (by decide) rfl ?_
  refine Wp.laload (i := 5) (jn := 1) (v := (.long g1)) (pc' := 127) O9 rfl at_126 (by decide) rfl rfl rfl ?_
  refine Wp.lastore (LA := [_, _]) (jn := 1) (pc' := 128) O9 at_127 (by decide) rfl (by first | decide | simp) rfl ?_
  intro h10 O10
  have O10 : Hp h10 n0 [(B, ArC Z k5 .long [(.long l0), (.long (0 : Int64)), (.long (0 : Int64))]), (A, ArC Z k3 .long [(.long f0), (.long (0 : Int64)), (.long (0 : Int64))]), (D, ArC Z k1 .long [(.long g0), (.long g1), (.long (0 : Int64))]), (F, ArC Z kf .long [(.long f0), (.long f1), (.long f2)]), (L, ArC Z kl .long [(.long l0), (.long l1), (.long l2)]), (G, ArC Z kg .long [(.long g0), (.long g1), (.long g2)])] := O10
  refine Wp.aload (pc' := 130) at_128 rfl rfl rfl ?_
  refine Wp.iconst (z := (1 : Int32)) (pc' := 131) at_130 (by decide) rfl ?_
  refine Wp.aload (pc' := 133) at_131 rfl rfl rfl ?_
  refine Wp.iconst (z := (1 : Int32)) (pc' := 134) at_133 (by decide) rfl ?_
  refine Wp.laload (i := 3) (jn := 1) (v := (.long f1)) (pc' := 135) O10 rfl at_134 (by decide) rfl rfl rfl ?_
  refine Wp.lastore (LA := [_]) (jn := 1) (pc' := 136) O10 at_135 (by decide) rfl (by first | decide | simp) rfl ?_
  intro h11 O11
  have O11 : Hp h11 n0 [(B, ArC Z k5 .long [(.long l0), (.long (0 : Int64)), (.long (0 : Int64))]), (A, ArC Z k3 .long [(.long f0), (.long f1), (.long (0 : Int64))]), (D, ArC Z k1 .long [(.long g0), (.long g1), (.long (0 : Int64))]), (F, ArC Z kf .long [(.long f0), (.long f1), (.long f2)]), (L, ArC Z kl .long [(.long l0), (.long l1), (.long l2)]), (G, ArC Z kg .long [(.long g0), (.long g1), (.long g2)])] := O11
  refine Wp.aload (pc' := 138) at_136 rfl rfl rfl ?_
  refine Wp.iconst (z := (1 : Int32)) (pc' := 139) at_138 (by decide) rfl ?_
  refine Wp.aload (pc' := 141) at_139 rfl rfl rfl ?_
  refine Wp.iconst (z := (1 : Int32)) (pc' := 142) at_141 (by decide) rfl ?_
  refine Wp.laload (i := 4) (jn := 1) (v := (.long l1)) (pc' := 143) O11 rfl at_142 (by decide) rfl rfl rfl ?_
  refine Wp.lastore (LA := []) (jn := 1) (pc' := 144) O11 at_143 (by decide) rfl (by first | decide | simp) rfl ?_
  intro h12 O12
  have O12 : Hp h12 n0 [(B, ArC Z k5 .long [(.long l0), (.long l1), (.long (0 : Int64))]), (A, ArC Z k3 .long [(.long f0), (.long f1), (.long (0 : Int64))]), (D, ArC Z k1 .long [(.long g0), (.long g1), (.long (0 : Int64))]), (F, ArC Z kf .long [(.long f0), (.long f1), (.long f2)]), (L, ArC Z kl .long [(.long l0), (.long l1), (.long l2)]), (G, ArC Z kg .long [(.long g0), (.long g1), (.long g2)])] := O12
  refine Wp.iload (pc' := 146) at_144 rfl rfl ?_
  refine Wp.iconst (z := (2 : Int32)) (pc' := 147) at_146 (by decide) rfl ?_
  refine Wp.icmpN (pc' := 150) at_147 (not_not_intro (by decide)) rfl ?_
  refine Wp.aload (pc' := 152) at_150 rfl rfl rfl ?_
  refine Wp.iconst (z := (2 : Int32)) (pc' := 153) at_152 (by decide) rfl ?_
  refine Wp.aload (pc' := 155) at_153 rfl rfl rfl ?_
  refine Wp.iconst (z := (2 : Int32)) (pc' := 156) at_155 (by decide) rfl ?_
  refine Wp.laload (i := 5) (jn := 2) (v := (.long g2)) (pc' := 157) O12 rfl at_156 (by decide) rfl rfl rfl ?_
  refine Wp.lastore (LA := [_, _]) (jn := 2) (pc' := 158) O12 at_157 (by decide) rfl (by first | decide | simp) rfl ?_
  intro h13 O13
  have O13 : Hp h13 n0 [(B, ArC Z k5 .long [(.long l0), (.long l1), (.long (0 : Int64))]), (A, ArC Z k3 .long [(.long f0), (.long f1), (.long (0 : Int64))]), (D, ArC Z k1 .long [(.long g0), (.long g1), (.long g2)]), (F, ArC Z kf .long [(.long f0), (.long f1), (.long f2)]), (L, ArC Z kl .long [(.long l0), (.long l1), (.long l2)]), (G, ArC Z kg .long [(.long g0), (.long g1), (.long g2)])] := O13
  refine Wp.aload (pc' := 160) at_158 rfl rfl rfl ?_
  refine Wp.iconst (z := (2 : Int32)) (pc' := 161) at_160 (by decide) rfl ?_
  refine Wp.aload (pc' := 163) at_161 rfl rfl rfl ?_
  refine Wp.iconst (z := (2 : Int32)) (pc' := 164) at_163 (by decide) rfl ?_
  refine Wp.laload (i := 3) (jn := 2) (v := (.long f2)) (pc' := 165) O13 rfl at_164 (by decide) rfl rfl rfl ?_
  refine Wp.lastore (LA := [_]) (jn := 2) (pc' := 166) O13 at_165 (by decide) rfl (by first | decide | simp) rfl ?_
  intro h14 O14
  have O14 : Hp h14 n0 [(B, ArC Z k5 .long [(.long l0), (.long l1), (.long (0 : Int64))]), (A, ArC Z k3 .long [(.long f0), (.long f1), (.long f2)]), (D, ArC Z k1 .long [(.long g0), (.long g1), (.long g2)]), (F, ArC Z kf .long [(.long f0), (.long f1), (.long f2)]), (L, ArC Z kl .long [(.long l0), (.long l1), (.long l2)]), (G, ArC Z kg .long [(.long g0), (.long g1), (.long g2)])] := O14
  refine Wp.aload (pc' := 168) at_166 rfl rfl rfl ?_
  refine Wp.iconst (z := (2 : Int32)) (pc' := 169) at_168 (by decide) rfl ?_
  refine Wp.aload (pc' := 171) at_169 rfl rfl rfl ?_
  refine Wp.iconst (z := (2 : Int32)) (pc' := 172) at_171 (by decide) rfl ?_
  refine Wp.laload (i := 4) (jn := 2) (v := (.long l2)) (pc' := 173) O14 rfl at_172 (by decide) rfl rfl rfl ?_
  refine Wp.lastore (LA := []) (jn := 2) (pc' := 174) O14 at_173 (by decide) rfl (by first | decide | simp) rfl ?_
  intro h15 O15
  have O15 : Hp h15 n0 [(B, ArC Z k5 .long [(.long l0), (.long l1), (.long l2)]), (A, ArC Z k3 .long [(.long f0), (.long f1), (.long f2)]), (D, ArC Z k1 .long [(.long g0), (.long g1), (.long g2)]), (F, ArC Z kf .long [(.long f0), (.long f1), (.long f2)]), (L, ArC Z kl .long [(.long l0), (.long l1), (.long l2)]), (G, ArC Z kg .long [(.long g0), (.long g1), (.long g2)])] := O15
  refine Wp.iconst (z := (2 : Int32)) (pc' := 175) at_174 (by decide) rfl ?_
  refine Wp.iload (pc' := 177) at_175 rfl rfl ?_
  refine Wp.aload (pc' := 179) at_177 rfl rfl rfl ?_
  refine Wp.aload (pc' := 181) at_179 rfl rfl rfl ?_
  have O16 : Hp h15 n0 [(L, ArC Z kl .long [(.long l0), (.long l1), (.long l2)]), (B, ArC Z k5 .long [(.long l0), (.long l1), (.long l2)]), (A, ArC Z k3 .long [(.long f0), (.long f1), (.long f2)]), (D, ArC Z k1 .long [(.long g0), (.long g1), (.long g2)]), (F, ArC Z kf .long [(.long f0), (.long f1), (.long f2)]), (G, ArC Z kg .long [(.long g0), (.long g1), (.long g2)])] := Hp.front (LA := [_, _, _, _]) O15
  have O17 : Hp h15 n0 [(G, ArC Z kg .long [(.long g0), (.long g1), (.long g2)]), (L, ArC Z kl .long [(.long l0), (.long l1), (.long l2)]), (B, ArC Z k5 .long [(.long l0), (.long l1), (.long l2)]), (A, ArC Z k3 .long [(.long f0), (.long f1), (.long f2)]), (D, ArC Z k1 .long [(.long g0), (.long g1), (.long g2)]), (F, ArC Z kf .long [(.long f0), (.long f1), (.long f2)])] := Hp.front (LA := [_, _, _, _, _]) O16
  by_cases hc2 : g2 < l2
  · refine Wp.callS (yy := (⟨"com/example/keyed_tensor/keyedtensor/array/DatasetNextGridPositionPinLaw", "can", "(II[J[J)Z"⟩ : MethodName)) (pc' := 184) (argsL := [(.int (2 : Int32)), (.int (3 : Int32)), (.ref G), (.ref L)]) (S := []) (rm_cay l Z a0 hw G L kg kl [(.long g0), (.long g1), (.long g2)] [(.long l0), (.long l1), (.long l2)] (2 : Int32) (3 : Int32) (by decide) (by decide) 2 rfl g2 l2 rfl rfl hc2 h15 n0 O17) (hw _ (List.mem_of_getElem? (i := 6) rfl)) (hw _ (List.mem_of_getElem? (i := 7) rfl)) (hw _ (List.mem_of_getElem? (i := 3) rfl)) (hw _ (List.mem_of_getElem? (i := 8) rfl)) (by decide) (W := 0) rfl (lenOf pd_2 rfl) rfl rfl (Nat.le_refl 0) (by decide) (by decide) (by decide) (by decide) at_181 rfl ?_
    rintro _ _ ⟨rfl, rfl⟩
    show Wp _ _ _ _ _ _ _ _ _ _ _ _ 184 #[.val (.long b0), .second, .val (.long b1), .second, .val (.long b2), .second, .val (.int sp), .val (.int po), .val (.int fg), .val (.int (3 : Int32)), .val (.ref F), .val (.ref L), .val (.ref G), .val (.ref D), .val (.ref A), .val (.ref B), .unset, .unset, .unset] [(.int (1 : Int32))]
    refine Wp.ifN (pc' := 187) at_184 (by decide) rfl ?_
    refine Wp.iconst (z := (2 : Int32)) (pc' := 188) at_187 (by decide) rfl ?_
    refine Wp.goto (pc' := 226) at_188 (by decide) (by decide) ?_
    have O18 : Hp h15 n0 [(L, ArC Z kl .long [(.long l0), (.long l1), (.long l2)]), (G, ArC Z kg .long [(.long g0), (.long g1), (.long g2)]), (B, ArC Z k5 .long [(.long l0), (.long l1), (.long l2)]), (A, ArC Z k3 .long [(.long f0), (.long f1), (.long f2)]), (D, ArC Z k1 .long [(.long g0), (.long g1), (.long g2)]), (F, ArC Z kf .long [(.long f0), (.long f1), (.long f2)])] := Hp.front (LA := [_]) O17
    have O19 : Hp h15 n0 [(F, ArC Z kf .long [(.long f0), (.long f1), (.long f2)]), (L, ArC Z kl .long [(.long l0), (.long l1), (.long l2)]), (G, ArC Z kg .long [(.long g0), (.long g1), (.long g2)]), (B, ArC Z k5 .long [(.long l0), (.long l1), (.long l2)]), (A, ArC Z k3 .long [(.long f0), (.long f1), (.long f2)]), (D, ArC Z k1 .long [(.long g0), (.long g1), (.long g2)])] := Hp.front (LA := [_, _, _, _, _]) O18
    have O20 : Hp h15 n0 [(B, ArC Z k5 .long [(.long l0), (.long l1), (.long l2)]), (F, ArC Z kf .long [(.long f0), (.long f1), (.long f2)]), (L, ArC Z kl .long [(.long l0), (.long l1), (.long l2)]), (G, ArC Z kg .long [(.long g0), (.long g1), (.long g2)]), (A, ArC Z k3 .long [(.long f0), (.long f1), (.long f2)]), (D, ArC Z k1 .long [(.long g0), (.long g1), (.long g2)])] := Hp.front (LA := [_, _, _]) O19
    have O21 : Hp h15 n0 [(A, ArC Z k3 .long [(.long f0), (.long f1), (.long f2)]), (B, ArC Z k5 .long [(.long l0), (.long l1), (.long l2)]), (F, ArC Z kf .long [(.long f0), (.long f1), (.long f2)]), (L, ArC Z kl .long [(.long l0), (.long l1), (.long l2)]), (G, ArC Z kg .long [(.long g0), (.long g1), (.long g2)]), (D, ArC Z k1 .long [(.long g0), (.long g1), (.long g2)])] := Hp.front (LA := [_, _, _, _]) O20
    have O22 : Hp h15 n0 [(D, ArC Z k1 .long [(.long g0), (.long g1), (.long g2)]), (A, ArC Z k3 .long [(.long f0), (.long f1), (.long f2)]), (B, ArC Z k5 .long [(.long l0), (.long l1), (.long l2)]), (F, ArC Z kf .long [(.long f0), (.long f1), (.long f2)]), (L, ArC Z kl .long [(.long l0), (.long l1), (.long l2)]), (G, ArC Z kg .long [(.long g0), (.long g1), (.long g2)])] := Hp.front (LA := [_, _, _, _, _]) O21
    exact tt_33 l Z a0 hw b0 b1 b2 sp po fg F L G kf kl kg f0 l0 g0 f1 l1 g1 f2 l2 g2 D A B k1 k3 k5 hc2 h15 n0 O22
  · refine Wp.callS (yy := (⟨"com/example/keyed_tensor/keyedtensor/array/DatasetNextGridPositionPinLaw", "can", "(II[J[J)Z"⟩ : MethodName)) (pc' := 184) (argsL := [(.int (2 : Int32)), (.int (3 : Int32)), (.ref G), (.ref L)]) (S := []) (rm_can l Z a0 hw G L kg kl [(.long g0), (.long g1), (.long g2)] [(.long l0), (.long l1), (.long l2)] (2 : Int32) (3 : Int32) (by decide) (by decide) 2 rfl g2 l2 rfl rfl hc2 h15 n0 O17) (hw _ (List.mem_of_getElem? (i := 6) rfl)) (hw _ (List.mem_of_getElem? (i := 7) rfl)) (hw _ (List.mem_of_getElem? (i := 3) rfl)) (hw _ (List.mem_of_getElem? (i := 8) rfl)) (by decide) (W := 0) rfl (lenOf pd_2 rfl) rfl rfl (Nat.le_refl 0) (by decide) (by decide) (by decide) (by decide) at_181 rfl ?_
    rintro _ _ ⟨rfl, rfl⟩
    show Wp _ _ _ _ _ _ _ _ _ _ _ _ 184 #[.val (.long b0), .second, .val (.long b1), .second, .val (.long b2), .second, .val (.int sp), .val (.int po), .val (.int fg), .val (.int (3 : Int32)), .val (.ref F), .val (.ref L), .val (.ref G), .val (.ref D), .val (.ref A), .val (.ref B), .unset, .unset, .unset] [(.int (0 : Int32))]
    refine Wp.ifY (pc' := 191) at_184 rfl (by decide) (by decide) ?_
    refine Wp.iconst (z := (1 : Int32)) (pc' := 192) at_191 (by decide) rfl ?_
    refine Wp.iload (pc' := 194) at_192 rfl rfl ?_
    refine Wp.aload (pc' := 196) at_194 rfl rfl rfl ?_
    refine Wp.aload (pc' := 198) at_196 rfl rfl rfl ?_
    have O23 : Hp h15 n0 [(L, ArC Z kl .long [(.long l0), (.long l1), (.long l2)]), (G, ArC Z kg .long [(.long g0), (.long g1), (.long g2)]), (B, ArC Z k5 .long [(.long l0), (.long l1), (.long l2)]), (A, ArC Z k3 .long [(.long f0), (.long f1), (.long f2)]), (D, ArC Z k1 .long [(.long g0), (.long g1), (.long g2)]), (F, ArC Z kf .long [(.long f0), (.long f1), (.long f2)])] := Hp.front (LA := [_]) O17
    have O24 : Hp h15 n0 [(G, ArC Z kg .long [(.long g0), (.long g1), (.long g2)]), (L, ArC Z kl .long [(.long l0), (.long l1), (.long l2)]), (B, ArC Z k5 .long [(.long l0), (.long l1), (.long l2)]), (A, ArC Z k3 .long [(.long f0), (.long f1), (.long f2)]), (D, ArC Z k1 .long [(.long g0), (.long g1), (.long g2)]), (F, ArC Z kf .long [(.long f0), (.long f1), (.long f2)])] := Hp.front (LA := [_]) O23
    by_cases hc1 : g1 < l1
    · refine Wp.callS (yy := (⟨"com/example/keyed_tensor/keyedtensor/array/DatasetNextGridPositionPinLaw", "can", "(II[J[J)Z"⟩ : MethodName)) (pc' := 201) (argsL := [(.int (1 : Int32)), (.int (3 : Int32)), (.ref G), (.ref L)]) (S := []) (rm_cay l Z a0 hw G L kg kl [(.long g0), (.long g1), (.long g2)] [(.long l0), (.long l1), (.long l2)] (1 : Int32) (3 : Int32) (by decide) (by decide) 1 rfl g1 l1 rfl rfl hc1 h15 n0 O24) (hw _ (List.mem_of_getElem? (i := 6) rfl)) (hw _ (List.mem_of_getElem? (i := 7) rfl)) (hw _ (List.mem_of_getElem? (i := 3) rfl)) (hw _ (List.mem_of_getElem? (i := 8) rfl)) (by decide) (W := 0) rfl (lenOf pd_2 rfl) rfl rfl (Nat.le_refl 0) (by decide) (by decide) (by decide) (by decide) at_198 rfl ?_
      rintro _ _ ⟨rfl, rfl⟩
      show Wp _ _ _ _ _ _ _ _ _ _ _ _ 201 #[.val (.long b0), .second, .val (.long b1), .second, .val (.long b2), .second, .val (.int sp), .val (.int po), .val (.int fg), .val (.int (3 : Int32)), .val (.ref F), .val (.ref L), .val (.ref G), .val (.ref D), .val (.ref A), .val (.ref B), .unset, .unset, .unset] [(.int (1 : Int32))]
      refine Wp.ifN (pc' := 204) at_201 (by decide) rfl ?_
      refine Wp.iconst (z := (1 : Int32)) (pc' := 205) at_204 (by decide) rfl ?_
      refine Wp.goto (pc' := 226) at_205 (by decide) (by decide) ?_
      have O25 : Hp h15 n0 [(L, ArC Z kl .long [(.long l0), (.long l1), (.long l2)]), (G, ArC Z kg .long [(.long g0), (.long g1), (.long g2)]), (B, ArC Z k5 .long [(.long l0), (.long l1), (.long l2)]), (A, ArC Z k3 .long [(.long f0), (.long f1), (.long f2)]), (D, ArC Z k1 .long [(.long g0), (.long g1), (.long g2)]), (F, ArC Z kf .long [(.long f0), (.long f1), (.long f2)])] := Hp.front (LA := [_]) O24
      have O26 : Hp h15 n0 [(F, ArC Z kf .long [(.long f0), (.long f1), (.long f2)]), (L, ArC Z kl .long [(.long l0), (.long l1), (.long l2)]), (G, ArC Z kg .long [(.long g0), (.long g1), (.long g2)]), (B, ArC Z k5 .long [(.long l0), (.long l1), (.long l2)]), (A, ArC Z k3 .long [(.long f0), (.long f1), (.long f2)]), (D, ArC Z k1 .long [(.long g0), (.long g1), (.long g2)])] := Hp.front (LA := [_, _, _, _, _]) O25
      have O27 : Hp h15 n0 [(B, ArC Z k5 .long [(.long l0), (.long l1), (.long l2)]), (F, ArC Z kf .long [(.long f0), (.long f1), (.long f2)]), (L, ArC Z kl .long [(.long l0), (.long l1), (.long l2)]), (G, ArC Z kg .long [(.long g0), (.long g1), (.long g2)]), (A, ArC Z k3 .long [(.long f0), (.long f1), (.long f2)]), (D, ArC Z k1 .long [(.long g0), (.long g1), (.long g2)])] := Hp.front (LA := [_, _, _]) O26
      have O28 : Hp h15 n0 [(A, ArC Z k3 .long [(.long f0), (.long f1), (.long f2)]), (B, ArC Z k5 .long [(.long l0), (.long l1), (.long l2)]), (F, ArC Z kf .long [(.long f0), (.long f1), (.long f2)]), (L, ArC Z kl .long [(.long l0), (.long l1), (.long l2)]), (G, ArC Z kg .long [(.long g0), (.long g1), (.long g2)]), (D, ArC Z k1 .long [(.long g0), (.long g1), (.long g2)])] := Hp.front (LA := [_, _, _, _]) O27
      have O29 : Hp h15 n0 [(D, ArC Z k1 .long [(.long g0), (.long g1), (.long g2)]), (A, ArC Z k3 .long [(.long f0), (.long f1), (.long f2)]), (B, ArC Z k5 .long [(.long l0), (.long l1), (.long l2)]), (F, ArC Z kf .long [(.long f0), (.long f1), (.long f2)]), (L, ArC Z kl .long [(.long l0), (.long l1), (.long l2)]), (G, ArC Z kg .long [(.long g0), (.long g1), (.long g2)])] := Hp.front (LA := [_, _, _, _, _]) O28
      exact tt_32 l Z a0 hw b0 b1 b2 sp po fg F L G kf kl kg f0 l0 g0 f1 l1 g1 f2 l2 g2 D A B k1 k3 k5 hc1 hc2 h15 n0 O29
    · refine Wp.callS (yy := (⟨"com/example/keyed_tensor/keyedtensor/array/DatasetNextGridPositionPinLaw", "can", "(II[J[J)Z"⟩ : MethodName)) (pc' := 201) (argsL := [(.int (1 : Int32)), (.int (3 : Int32)), (.ref G), (.ref L)]) (S := []) (rm_can l Z a0 hw G L kg kl [(.long g0), (.long g1), (.long g2)] [(.long l0), (.long l1), (.long l2)] (1 : Int32) (3 : Int32) (by decide) (by decide) 1 rfl g1 l1 rfl rfl hc1 h15 n0 O24) (hw _ (List.mem_of_getElem? (i := 6) rfl)) (hw _ (List.mem_of_getElem? (i := 7) rfl)) (hw _ (List.mem_of_getElem? (i := 3) rfl)) (hw _ (List.mem_of_getElem? (i := 8) rfl)) (by decide) (W := 0) rfl (lenOf pd_2 rfl) rfl rfl (Nat.le_refl 0) (by decide) (by decide) (by decide) (by decide) at_198 rfl ?_
      rintro _ _ ⟨rfl, rfl⟩
      show Wp _ _ _ _ _ _ _ _ _ _ _ _ 201 #[.val (.long b0), .second, .val (.long b1), .second, .val (.long b2), .second, .val (.int sp), .val (.int po), .val (.int fg), .val (.int (3 : Int32)), .val (.ref F), .val (.ref L), .val (.ref G), .val (.ref D), .val (.ref A), .val (.ref B), .unset, .unset, .unset] [(.int (0 : Int32))]
      refine Wp.ifY (pc' := 208) at_201 rfl (by decide) (by decide) ?_
      refine Wp.iconst (z := (0 : Int32)) (pc' := 209) at_208 (by decide) rfl ?_
      refine Wp.iload (pc' := 211) at_209 rfl rfl ?_
      refine Wp.aload (pc' := 213) at_211 rfl rfl rfl ?_
      refine Wp.aload (pc' := 215) at_213 rfl rfl rfl ?_
      have O30 : Hp h15 n0 [(L, ArC Z kl .long [(.long l0), (.long l1), (.long l2)]), (G, ArC Z kg .long [(.long g0), (.long g1), (.long g2)]), (B, ArC Z k5 .long [(.long l0), (.long l1), (.long l2)]), (A, ArC Z k3 .long [(.long f0), (.long f1), (.long f2)]), (D, ArC Z k1 .long [(.long g0), (.long g1), (.long g2)]), (F, ArC Z kf .long [(.long f0), (.long f1), (.long f2)])] := Hp.front (LA := [_]) O24
      have O31 : Hp h15 n0 [(G, ArC Z kg .long [(.long g0), (.long g1), (.long g2)]), (L, ArC Z kl .long [(.long l0), (.long l1), (.long l2)]), (B, ArC Z k5 .long [(.long l0), (.long l1), (.long l2)]), (A, ArC Z k3 .long [(.long f0), (.long f1), (.long f2)]), (D, ArC Z k1 .long [(.long g0), (.long g1), (.long g2)]), (F, ArC Z kf .long [(.long f0), (.long f1), (.long f2)])] := Hp.front (LA := [_]) O30
      by_cases hc0 : g0 < l0
      · refine Wp.callS (yy := (⟨"com/example/keyed_tensor/keyedtensor/array/DatasetNextGridPositionPinLaw", "can", "(II[J[J)Z"⟩ : MethodName)) (pc' := 218) (argsL := [(.int (0 : Int32)), (.int (3 : Int32)), (.ref G), (.ref L)]) (S := []) (rm_cay l Z a0 hw G L kg kl [(.long g0), (.long g1), (.long g2)] [(.long l0), (.long l1), (.long l2)] (0 : Int32) (3 : Int32) (by decide) (by decide) 0 rfl g0 l0 rfl rfl hc0 h15 n0 O31) (hw _ (List.mem_of_getElem? (i := 6) rfl)) (hw _ (List.mem_of_getElem? (i := 7) rfl)) (hw _ (List.mem_of_getElem? (i := 3) rfl)) (hw _ (List.mem_of_getElem? (i := 8) rfl)) (by decide) (W := 0) rfl (lenOf pd_2 rfl) rfl rfl (Nat.le_refl 0) (by decide) (by decide) (by decide) (by decide) at_215 rfl ?_
        rintro _ _ ⟨rfl, rfl⟩
        show Wp _ _ _ _ _ _ _ _ _ _ _ _ 218 #[.val (.long b0), .second, .val (.long b1), .second, .val (.long b2), .second, .val (.int sp), .val (.int po), .val (.int fg), .val (.int (3 : Int32)), .val (.ref F), .val (.ref L), .val (.ref G), .val (.ref D), .val (.ref A), .val (.ref B), .unset, .unset, .unset] [(.int (1 : Int32))]
        refine Wp.ifN (pc' := 221) at_218 (by decide) rfl ?_
        refine Wp.iconst (z := (0 : Int32)) (pc' := 222) at_221 (by decide) rfl ?_
        refine Wp.goto (pc' := 226) at_222 (by decide) (by decide) ?_
        have O32 : Hp h15 n0 [(L, ArC Z kl .long [(.long l0), (.long l1), (.long l2)]), (G, ArC Z kg .long [(.long g0), (.long g1), (.long g2)]), (B, ArC Z k5 .long [(.long l0), (.long l1), (.long l2)]), (A, ArC Z k3 .long [(.long f0), (.long f1), (.long f2)]), (D, ArC Z k1 .long [(.long g0), (.long g1), (.long g2)]), (F, ArC Z kf .long [(.long f0), (.long f1), (.long f2)])] := Hp.front (LA := [_]) O31
        have O33 : Hp h15 n0 [(F, ArC Z kf .long [(.long f0), (.long f1), (.long f2)]), (L, ArC Z kl .long [(.long l0), (.long l1), (.long l2)]), (G, ArC Z kg .long [(.long g0), (.long g1), (.long g2)]), (B, ArC Z k5 .long [(.long l0), (.long l1), (.long l2)]), (A, ArC Z k3 .long [(.long f0), (.long f1), (.long f2)]), (D, ArC Z k1 .long [(.long g0), (.long g1), (.long g2)])] := Hp.front (LA := [_, _, _, _, _]) O32
        have O34 : Hp h15 n0 [(B, ArC Z k5 .long [(.long l0), (.long l1), (.long l2)]), (F, ArC Z kf .long [(.long f0), (.long f1), (.long f2)]), (L, ArC Z kl .long [(.long l0), (.long l1), (.long l2)]), (G, ArC Z kg .long [(.long g0), (.long g1), (.long g2)]), (A, ArC Z k3 .long [(.long f0), (.long f1), (.long f2)]), (D, ArC Z k1 .long [(.long g0), (.long g1), (.long g2)])] := Hp.front (LA := [_, _, _]) O33
        have O35 : Hp h15 n0 [(A, ArC Z k3 .long [(.long f0), (.long f1), (.long f2)]), (B, ArC Z k5 .long [(.long l0), (.long l1), (.long l2)]), (F, ArC Z kf .long [(.long f0), (.long f1), (.long f2)]), (L, ArC Z kl .long [(.long l0), (.long l1), (.long l2)]), (G, ArC Z kg .long [(.long g0), (.long g1), (.long g2)]), (D, ArC Z k1 .long [(.long g0), (.long g1), (.long g2)])] := Hp.front (LA := [_, _, _, _]) O34
        have O36 : Hp h15 n0 [(D, ArC Z k1 .long [(.long g0), (.long g1), (.long g2)]), (A, ArC Z k3 .long [(.long f0), (.long f1), (.long f2)]), (B, ArC Z k5 .long [(.long l0), (.long l1), (.long l2)]), (F, ArC Z kf .long [(.long f0), (.long f1), (.long f2)]), (L, ArC Z kl .long [(.long l0), (.long l1), (.long l2)]), (G, ArC Z kg .long [(.long g0), (.long g1), (.long g2)])] := Hp.front (LA := [_, _, _, _, _]) O35
        exact tt_31 l Z a0 hw b0 b1 b2 sp po fg F L G kf kl kg f0 l0 g0 f1 l1 g1 f2 l2 g2 D A B k1 k3 k5 hc0 hc1 hc2 h15 n0 O36
      · refine Wp.callS (yy := (⟨"com/example/keyed_tensor/keyedtensor/array/DatasetNextGridPositionPinLaw", "can", "(II[J[J)Z"⟩ : MethodName)) (pc' := 218) (argsL := [(.int (0 : Int32)), (.int (3 : Int32)), (.ref G), (.ref L)]) (S := []) (rm_can l Z a0 hw G L kg kl [(.long g0), (.long g1), (.long g2)] [(.long l0), (.long l1), (.long l2)] (0 : Int32) (3 : Int32) (by decide) (by decide) 0 rfl g0 l0 rfl rfl hc0 h15 n0 O31) (hw _ (List.mem_of_getElem? (i := 6) rfl)) (hw _ (List.mem_of_getElem? (i := 7) rfl)) (hw _ (List.mem_of_getElem? (i := 3) rfl)) (hw _ (List.mem_of_getElem? (i := 8) rfl)) (by decide) (W := 0) rfl (lenOf pd_2 rfl) rfl rfl (Nat.le_refl 0) (by decide) (by decide) (by decide) (by decide) at_215 rfl ?_
        rintro _ _ ⟨rfl, rfl⟩
        show Wp _ _ _ _ _ _ _ _ _ _ _ _ 218 #[.val (.long b0), .second, .val (.long b1), .second, .val (.long b2), .second, .val (.int sp), .val (.int po), .val (.int fg), .val (.int (3 : Int32)), .val (.ref F), .val (.ref L), .val (.ref G), .val (.ref D), .val (.ref A), .val (.ref B), .unset, .unset, .unset] [(.int (0 : Int32))]
        refine Wp.ifY (pc' := 225) at_218 rfl (by decide) (by decide) ?_
        refine Wp.iconst (z := (-1 : Int32)) (pc' := 226) at_225 (by decide) rfl ?_
        have O37 : Hp h15 n0 [(L, ArC Z kl .long [(.long l0), (.long l1), (.long l2)]), (G, ArC Z kg .long [(.long g0), (.long g1), (.long g2)]), (B, ArC Z k5 .long [(.long l0), (.long l1), (.long l2)]), (A, ArC Z k3 .long [(.long f0), (.long f1), (.long f2)]), (D, ArC Z k1 .long [(.long g0), (.long g1), (.long g2)]), (F, ArC Z kf .long [(.long f0), (.long f1), (.long f2)])] := Hp.front (LA := [_]) O31
        have O38 : Hp h15 n0 [(F, ArC Z kf .long [(.long f0), (.long f1), (.long f2)]), (L, ArC Z kl .long [(.long l0), (.long l1), (.long l2)]), (G, ArC Z kg .long [(.long g0), (.long g1), (.long g2)]), (B, ArC Z k5 .long [(.long l0), (.long l1), (.long l2)]), (A, ArC Z k3 .long [(.long f0), (.long f1), (.long f2)]), (D, ArC Z k1 .long [(.long g0), (.long g1), (.long g2)])] := Hp.front (LA := [_, _, _, _, _]) O37
        have O39 : Hp h15 n0 [(B, ArC Z k5 .long [(.long l0), (.long l1), (.long l2)]), (F, ArC Z kf .long [(.long f0), (.long f1), (.long f2)]), (L, ArC Z kl .long [(.long l0), (.long l1), (.long l2)]), (G, ArC Z kg .long [(.long g0), (.long g1), (.long g2)]), (A, ArC Z k3 .long [(.long f0), (.long f1), (.long f2)]), (D, ArC Z k1 .long [(.long g0), (.long g1), (.long g2)])] := Hp.front (LA := [_, _, _]) O38
        have O40 : Hp h15 n0 [(A, ArC Z k3 .long [(.long f0), (.long f1), (.long f2)]), (B, ArC Z k5 .long [(.long l0), (.long l1), (.long l2)]), (F, ArC Z kf .long [(.long f0), (.long f1), (.long f2)]), (L, ArC Z kl .long [(.long l0), (.long l1), (.long l2)]), (G, ArC Z kg .long [(.long g0), (.long g1), (.long g2)]), (D, ArC Z k1 .long [(.long g0), (.long g1), (.long g2)])] := Hp.front (LA := [_, _, _, _]) O39
        have O41 : Hp h15 n0 [(D, ArC Z k1 .long [(.long g0), (.long g1), (.long g2)]), (A, ArC Z k3 .long [(.long f0), (.long f1), (.long f2)]), (B, ArC Z k5 .long [(.long l0), (.long l1), (.long l2)]), (F, ArC Z kf .long [(.long f0), (.long f1), (.long f2)]), (L, ArC Z kl .long [(.long l0), (.long l1), (.long l2)]), (G, ArC Z kg .long [(.long g0), (.long g1), (.long g2)])] := Hp.front (LA := [_, _, _, _, _]) O40
        exact tt_30 l Z a0 hw b0 b1 b2 sp po fg F L G kf kl kg f0 l0 g0 f1 l1 g1 f2 l2 g2 D A B k1 k3 k5 hc0 hc1 hc2 h15 n0 O41

set_option maxRecDepth 65536 in
set_option maxHeartbeats 40000000 in
theorem rm0 (l : Launch) (Z : State) (a0 : Array Value) (hw : ∀ d ∈ tables_1, d.before a0 Z = true) (p0 p1 p2 : Int64) (p3 p4 p5 : Int32) (h : Heap) (n0 : Nat) (Z0 : n0 ≤ h.size) :
    Met l Z x code maxLocals ret room_1 #[(.long p0), (.long p1), (.long p2), (.int p3), (.int p4), (.int p5)] h n0 (fun v _ => v = some (.int 1)) := by
  refine Met.of (L0 := #[.val (.long p0), .second, .val (.long p1), .second, .val (.long p2), .second, .val (.int p3), .val (.int p4), .val (.int p5), .unset, .unset, .unset, .unset, .unset, .unset, .unset, .unset, .unset, .unset]) pn_l (own_ef rfl) ?_
  have O : Hp h n0 [] := Hp.nil Z0
  refine Wp.iload (pc' := 2) at_0 rfl rfl ?_
  refine Wp.iconst (z := (3 : Int32)) (pc' := 3) at_2 (by decide) rfl ?_
  refine Wp.iand (z := (p5 &&& (3 : Int32))) (pc' := 4) at_3 rfl rfl ?_
  obtain ⟨r, e_r⟩ : ∃ z, z = (p5 &&& (3 : Int32)) := ⟨_, rfl⟩
  rw [← e_r]
  have hr : r = 0 ∨ r = 1 ∨ r = 2 ∨ r = 3 := by rw [e_r]; exact own_four _
  refine Wp.istore (L' := #[.val (.long p0), .second, .val (.long p1), .second, .val (.long p2), .second, .val (.int p3), .val (.int p4), .val (.int p5), .val (.int r), .unset, .unset, .unset, .unset, .unset, .unset, .unset, .unset, .unset]) (pc' := 6) at_4 rfl rfl ?_
  refine Wp.iconst (z := (3 : Int32)) (pc' := 7) at_6 (by decide) rfl ?_
  refine Wp.newarr (m := 3) (cap := 3) (pc' := 9) O (hw _ (List.mem_of_getElem? (i := 0) rfl)) at_7 (by decide) rfl (Nat.le_refl _) (by decide) (by decide) (by decide) rfl ?_
  intro h2 F k1 O2
  have O2 : Hp h2 n0 [(F, ArC Z k1 .long [(.long (0 : Int64)), (.long (0 : Int64)), (.long (0 : Int64))])] := O2
  refine Wp.astore (L' := #[.val (.long p0), .second, .val (.long p1), .second, .val (.long p2), .second, .val (.int p3), .val (.int p4), .val (.int p5), .val (.int r), .val (.ref F), .unset, .unset, .unset, .unset, .unset, .unset, .unset, .unset]) (pc' := 11) at_9 rfl rfl rfl ?_
  refine Wp.iconst (z := (3 : Int32)) (pc' := 12) at_11 (by decide) rfl ?_
  refine Wp.newarr (m := 3) (cap := 3) (pc' := 14) O2 (hw _ (List.mem_of_getElem? (i := 0) rfl)) at_12 (by decide) rfl (Nat.le_refl _) (by decide) (by decide) (by decide) rfl ?_
  intro h4 L k3 O4
  have O4 : Hp h4 n0 [(L, ArC Z k3 .long [(.long (0 : Int64)), (.long (0 : Int64)), (.long (0 : Int64))]), (F, ArC Z k1 .long [(.long (0 : Int64)), (.long (0 : Int64)), (.long (0 : Int64))])] := O4
  refine Wp.astore (L' := #[.val (.long p0), .second, .val (.long p1), .second, .val (.long p2), .second, .val (.int p3), .val (.int p4), .val (.int p5), .val (.int r), .val (.ref F), .val (.ref L), .unset, .unset, .unset, .unset, .unset, .unset, .unset]) (pc' := 16) at_14 rfl rfl rfl ?_
  refine Wp.iconst (z := (3 : Int32)) (pc' := 17) at_16 (by decide) rfl ?_
  refine Wp.newarr (m := 3) (cap := 3) (pc' := 19) O4 (hw _ (List.mem_of_getElem? (i := 0) rfl)) at_17 (by decide) rfl (Nat.le_refl _) (by decide) (by decide) (by decide) rfl ?_
  intro h6 G k5 O6
  have O6 : Hp h6 n0 [(G, ArC Z k5 .long [(.long (0 : Int64)), (.long (0 : Int64)), (.long (0 : Int64))]), (L, ArC Z k3 .long [(.long (0 : Int64)), (.long (0 : Int64)), (.long (0 : Int64))]), (F, ArC Z k1 .long [(.long (0 : Int64)), (.long (0 : Int64)), (.long (0 : Int64))])] := O6
  refine Wp.astore (L' := #[.val (.long p0), .second, .val (.long p1), .second, .val (.long p2), .second, .val (.int p3), .val (.int p4), .val (.int p5), .val (.int r), .val (.ref F), .val (.ref L), .val (.ref G), .unset, .unset, .unset, .unset, .unset, .unset]) (pc' := 21) at_19 rfl rfl rfl ?_
  refine Wp.aload (pc' := 23) at_21 rfl rfl rfl ?_
  refine Wp.aload (pc' := 25) at_23 rfl rfl rfl ?_
  refine Wp.aload (pc' := 27) at_25 rfl rfl rfl ?_
  refine Wp.iconst (z := (0 : Int32)) (pc' := 28) at_27 (by decide) rfl ?_
  refine Wp.lloadN (pc' := 29) at_28 rfl rfl ?_
  refine Wp.iload (pc' := 31) at_29 rfl rfl ?_
  refine Wp.iload (pc' := 33) at_31 rfl rfl ?_
  have O7 : Hp h6 n0 [(L, ArC Z k3 .long [(.long (0 : Int64)), (.long (0 : Int64)), (.long (0 : Int64))]), (G, ArC Z k5 .long [(.long (0 : Int64)), (.long (0 : Int64)), (.long (0 : Int64))]), (F, ArC Z k1 .long [(.long (0 : Int64)), (.long (0 : Int64)), (.long (0 : Int64))])] := Hp.front (LA := [_]) O6
  have O8 : Hp h6 n0 [(F, ArC Z k1 .long [(.long (0 : Int64)), (.long (0 : Int64)), (.long (0 : Int64))]), (L, ArC Z k3 .long [(.long (0 : Int64)), (.long (0 : Int64)), (.long (0 : Int64))]), (G, ArC Z k5 .long [(.long (0 : Int64)), (.long (0 : Int64)), (.long (0 : Int64))])] := Hp.front (LA := [_, _]) O7
  refine Wp.callS (yy := (⟨"com/example/keyed_tensor/keyedtensor/array/DatasetNextGridPositionPinLaw", "fill", "([J[J[JIJII)V"⟩ : MethodName)) (pc' := 36) (argsL := [(.ref F), (.ref L), (.ref G), (.int (0 : Int32)), (.long p0), (.int p3), (.int p4)]) (S := []) (rm_fl l Z a0 hw F L G k1 k3 k5 [(.long (0 : Int64)), (.long (0 : Int64)), (.long (0 : Int64))] [(.long (0 : Int64)), (.long (0 : Int64)), (.long (0 : Int64))] [(.long (0 : Int64)), (.long (0 : Int64)), (.long (0 : Int64))] (0 : Int32) p3 p4 p0 0 (by decide) rfl (by simp only [List.length_cons, List.length_nil]; omega) (by simp only [List.length_cons, List.length_nil]; omega) (by simp only [List.length_cons, List.length_nil]; omega) h6 n0 O8) (hw _ (List.mem_of_getElem? (i := 1) rfl)) (hw _ (List.mem_of_getElem? (i := 2) rfl)) (hw _ (List.mem_of_getElem? (i := 3) rfl)) (hw _ (List.mem_of_getElem? (i := 4) rfl)) (by decide) (W := 0) rfl (lenOf pd_4 rfl) rfl rfl (Nat.le_refl 0) (by decide) (by decide) (by decide) (by decide) at_33 rfl ?_
  rintro _ h9 ⟨rfl, f0, l0, g0, O9⟩
  have O9 : Hp h9 n0 [(F, ArC Z k1 .long [(.long f0), (.long (0 : Int64)), (.long (0 : Int64))]), (L, ArC Z k3 .long [(.long l0), (.long (0 : Int64)), (.long (0 : Int64))]), (G, ArC Z k5 .long [(.long g0), (.long (0 : Int64)), (.long (0 : Int64))])] := O9
  show Wp _ _ _ _ _ _ _ _ _ _ _ _ 36 #[.val (.long p0), .second, .val (.long p1), .second, .val (.long p2), .second, .val (.int p3), .val (.int p4), .val (.int p5), .val (.int r), .val (.ref F), .val (.ref L), .val (.ref G), .unset, .unset, .unset, .unset, .unset, .unset] []
  refine Wp.aload (pc' := 38) at_36 rfl rfl rfl ?_
  refine Wp.aload (pc' := 40) at_38 rfl rfl rfl ?_
  refine Wp.aload (pc' := 42) at_40 rfl rfl rfl ?_
  refine Wp.iconst (z := (1 : Int32)) (pc' := 43) at_42 (by decide) rfl ?_
  refine Wp.lloadN (pc' := 44) at_43 rfl rfl ?_
  refine Wp.iload (pc' := 46) at_44 rfl rfl ?_
  refine Wp.iload (pc' := 48) at_46 rfl rfl ?_
  have O10 : Hp h9 n0 [(G, ArC Z k5 .long [(.long g0), (.long (0 : Int64)), (.long (0 : Int64))]), (F, ArC Z k1 .long [(.long f0), (.long (0 : Int64)), (.long (0 : Int64))]), (L, ArC Z k3 .long [(.long l0), (.long (0 : Int64)), (.long (0 : Int64))])] := Hp.front (LA := [_, _]) O9
  have O11 : Hp h9 n0 [(L, ArC Z k3 .long [(.long l0), (.long (0 : Int64)), (.long (0 : Int64))]), (G, ArC Z k5 .long [(.long g0), (.long (0 : Int64)), (.long (0 : Int64))]), (F, ArC Z k1 .long [(.long f0), (.long (0 : Int64)), (.long (0 : Int64))])] := Hp.front (LA := [_, _]) O10
  have O12 : Hp h9 n0 [(F, ArC Z k1 .long [(.long f0), (.long (0 : Int64)), (.long (0 : Int64))]), (L, ArC Z k3 .long [(.long l0), (.long (0 : Int64)), (.long (0 : Int64))]), (G, ArC Z k5 .long [(.long g0), (.long (0 : Int64)), (.long (0 : Int64))])] := Hp.front (LA := [_, _]) O11
  refine Wp.callS (yy := (⟨"com/example/keyed_tensor/keyedtensor/array/DatasetNextGridPositionPinLaw", "fill", "([J[J[JIJII)V"⟩ : MethodName)) (pc' := 51) (argsL := [(.ref F), (.ref L), (.ref G), (.int (1 : Int32)), (.long p1), (.int p3), (.int p4)]) (S := []) (rm_fl l Z a0 hw F L G k1 k3 k5 [(.long f0), (.long (0 : Int64)), (.long (0 : Int64))] [(.long l0), (.long (0 : Int64)), (.long (0 : Int64))] [(.long g0), (.long (0 : Int64)), (.long (0 : Int64))] (1 : Int32) p3 p4 p1 1 (by decide) rfl (by simp only [List.length_cons, List.length_nil]; omega) (by simp only [List.length_cons, List.length_nil]; omega) (by simp only [List.length_cons, List.length_nil]; omega) h9 n0 O12) (hw _ (List.mem_of_getElem? (i := 1) rfl)) (hw _ (List.mem_of_getElem? (i := 2) rfl)) (hw _ (List.mem_of_getElem? (i := 3) rfl)) (hw _ (List.mem_of_getElem? (i := 4) rfl)) (by decide) (W := 0) rfl (lenOf pd_4 rfl) rfl rfl (Nat.le_refl 0) (by decide) (by decide) (by decide) (by decide) at_48 rfl ?_
  rintro _ h13 ⟨rfl, f1, l1, g1, O13⟩
  have O13 : Hp h13 n0 [(F, ArC Z k1 .long [(.long f0), (.long f1), (.long (0 : Int64))]), (L, ArC Z k3 .long [(.long l0), (.long l1), (.long (0 : Int64))]), (G, ArC Z k5 .long [(.long g0), (.long g1), (.long (0 : Int64))])] := O13
  show Wp _ _ _ _ _ _ _ _ _ _ _ _ 51 #[.val (.long p0), .second, .val (.long p1), .second, .val (.long p2), .second, .val (.int p3), .val (.int p4), .val (.int p5), .val (.int r), .val (.ref F), .val (.ref L), .val (.ref G), .unset, .unset, .unset, .unset, .unset, .unset] []
  refine Wp.aload (pc' := 53) at_51 rfl rfl rfl ?_
  refine Wp.aload (pc' := 55) at_53 rfl rfl rfl ?_
  refine Wp.aload (pc' := 57) at_55 rfl rfl rfl ?_
  refine Wp.iconst (z := (2 : Int32)) (pc' := 58) at_57 (by decide) rfl ?_
  refine Wp.lload (pc' := 60) at_58 rfl rfl ?_
  refine Wp.iload (pc' := 62) at_60 rfl rfl ?_
  refine Wp.iload (pc' := 64) at_62 rfl rfl ?_
  have O14 : Hp h13 n0 [(G, ArC Z k5 .long [(.long g0), (.long g1), (.long (0 : Int64))]), (F, ArC Z k1 .long [(.long f0), (.long f1), (.long (0 : Int64))]), (L, ArC Z k3 .long [(.long l0), (.long l1), (.long (0 : Int64))])] := Hp.front (LA := [_, _]) O13
  have O15 : Hp h13 n0 [(L, ArC Z k3 .long [(.long l0), (.long l1), (.long (0 : Int64))]), (G, ArC Z k5 .long [(.long g0), (.long g1), (.long (0 : Int64))]), (F, ArC Z k1 .long [(.long f0), (.long f1), (.long (0 : Int64))])] := Hp.front (LA := [_, _]) O14
  have O16 : Hp h13 n0 [(F, ArC Z k1 .long [(.long f0), (.long f1), (.long (0 : Int64))]), (L, ArC Z k3 .long [(.long l0), (.long l1), (.long (0 : Int64))]), (G, ArC Z k5 .long [(.long g0), (.long g1), (.long (0 : Int64))])] := Hp.front (LA := [_, _]) O15
  refine Wp.callS (yy := (⟨"com/example/keyed_tensor/keyedtensor/array/DatasetNextGridPositionPinLaw", "fill", "([J[J[JIJII)V"⟩ : MethodName)) (pc' := 67) (argsL := [(.ref F), (.ref L), (.ref G), (.int (2 : Int32)), (.long p2), (.int p3), (.int p4)]) (S := []) (rm_fl l Z a0 hw F L G k1 k3 k5 [(.long f0), (.long f1), (.long (0 : Int64))] [(.long l0), (.long l1), (.long (0 : Int64))] [(.long g0), (.long g1), (.long (0 : Int64))] (2 : Int32) p3 p4 p2 2 (by decide) rfl (by simp only [List.length_cons, List.length_nil]; omega) (by simp only [List.length_cons, List.length_nil]; omega) (by simp only [List.length_cons, List.length_nil]; omega) h13 n0 O16) (hw _ (List.mem_of_getElem? (i := 1) rfl)) (hw _ (List.mem_of_getElem? (i := 2) rfl)) (hw _ (List.mem_of_getElem? (i := 3) rfl)) (hw _ (List.mem_of_getElem? (i := 4) rfl)) (by decide) (W := 0) rfl (lenOf pd_4 rfl) rfl rfl (Nat.le_refl 0) (by decide) (by decide) (by decide) (by decide) at_64 rfl ?_
  rintro _ h17 ⟨rfl, f2, l2, g2, O17⟩
  have O17 : Hp h17 n0 [(F, ArC Z k1 .long [(.long f0), (.long f1), (.long f2)]), (L, ArC Z k3 .long [(.long l0), (.long l1), (.long l2)]), (G, ArC Z k5 .long [(.long g0), (.long g1), (.long g2)])] := O17
  show Wp _ _ _ _ _ _ _ _ _ _ _ _ 67 #[.val (.long p0), .second, .val (.long p1), .second, .val (.long p2), .second, .val (.int p3), .val (.int p4), .val (.int p5), .val (.int r), .val (.ref F), .val (.ref L), .val (.ref G), .unset, .unset, .unset, .unset, .unset, .unset] []
  rcases hr with rfl | rfl | rfl | rfl
  · exact tl_0 l Z a0 hw _ _ _ _ _ _ F L G _ _ _ f0 l0 g0 f1 l1 g1 f2 l2 g2 h17 n0 O17
  · exact tl_1 l Z a0 hw _ _ _ _ _ _ F L G _ _ _ f0 l0 g0 f1 l1 g1 f2 l2 g2 h17 n0 O17
  · exact tl_2 l Z a0 hw _ _ _ _ _ _ F L G _ _ _ f0 l0 g0 f1 l1 g1 f2 l2 g2 h17 n0 O17
  · exact tl_3 l Z a0 hw _ _ _ _ _ _ F L G _ _ _ f0 l0 g0 f1 l1 g1 f2 l2 g2 h17 n0 O17

set_option maxRecDepth 65536 in
set_option maxHeartbeats 40000000 in
theorem comes_1 {Post : Tables → Env → Array Value → State → Outcome → State → Prop} (hpost : ∀ tb e args s v u, (limb_1_1.after args s (.returned v) u = true ∧ limb_1_2.after args s (.returned v) u = true ∧ True) → FrameEnd s (.returned v) u (Jvm.fieldLocs frame_1_writes args s ++ Jvm.arrayLocs frame_1_arrays args s ++ Jvm.staticLocs frame_1_statics s) 24 128 → Post tb e args s (.returned v) u) :
    ArmFor flags0 classFile x code maxLocals ret World_1 tables_1 room_1 Calls_1 rest_1 Pre_1 Post := by
  intro l hfl _ _ p e ha hc hk s m args below hf hA hF happ hP
  obtain ⟨hcalls, hrest, hpre⟩ := hP
  obtain ⟨-, -, -, hnamed, -, -, -, hat⟩ := (Spec.applies_iff hf).mp happ
  obtain ⟨hg, hn⟩ := and_e (Cond.before_iff.mp (show (Jvm.Cond.and given_1 narrow_1).before args s = true from hpre))
  obtain ⟨g0, q0⟩ := and_e hg
  obtain ⟨w0, w1, w2, w3, w4, w5, rfl⟩ : ∃ w0 w1 w2 w3 w4 w5 : Value, args = #[w0, w1, w2, w3, w4, w5] := by
    have hs : args.size = 6 := by simpa [Cond.value, given_1] using g0
    obtain ⟨L⟩ := args
    match L, hs with
    | [w0, w1, w2, w3, w4, w5], _ => exact ⟨w0, w1, w2, w3, w4, w5, rfl⟩
  have hw := fun d (hd : d ∈ tables_1) => atoms_spec (ws := Jvm.Cond.code x code maxLocals ret :: tables_1) hat d (List.mem_cons_of_mem _ hd)
  obtain ⟨g1, q1⟩ := and_e q0
  obtain ⟨i0, e0⟩ := isL_v g1
  obtain rfl : w0 = (.long i0) := Option.some.inj e0
  obtain ⟨g2, q2⟩ := and_e q1
  obtain ⟨i1, e1⟩ := isL_v g2
  obtain rfl : w1 = (.long i1) := Option.some.inj e1
  obtain ⟨g3, q3⟩ := and_e q2
  obtain ⟨i2, e2⟩ := isL_v g3
  obtain rfl : w2 = (.long i2) := Option.some.inj e2
  obtain ⟨g4, q4⟩ := and_e q3
  obtain ⟨i3, e3⟩ := is_v g4
  obtain rfl : w3 = (.int i3) := Option.some.inj e3
  obtain ⟨g5, q5⟩ := and_e q4
  obtain ⟨i4, e4⟩ := is_v g5
  obtain rfl : w4 = (.int i4) := Option.some.inj e4
  obtain ⟨i5, e5⟩ := is_v q5
  obtain rfl : w5 = (.int i5) := Option.some.inj e5
  obtain ⟨n, o, h1, h2, h3, v, L, rfl, ⟨hv, N⟩, hq⟩ := (rm0 l s _ hw i0 i1 i2 i3 i4 i5 s.heap s.heap.size (Nat.le_refl _)) tables_1 p e ha hc hk s m _ below hf ((Spec.applies_iff_loose hf).mp happ).1 ⟨rfl, State.Warmed39.refl s, rfl⟩ trivial
  subst hv
  refine ⟨n, _, h1, h2, h3, hpost _ _ _ _ _ _ ⟨Cond.after_iff.mpr rfl, Cond.after_iff.mpr (eq_i res_at (Term.int_eval (1)) rfl), trivial⟩ ⟨hq.1, hq.2.1, (hq.2.2.sift fun y hy => Or.inr (N y hy)).mono (by decide) (by decide)⟩⟩
theorem main_1_1 : Claimed_1_1 := comes_1 fun _ _ _ _ _ _ h hF => ⟨h.1, hF⟩
theorem main_1_2 : Claimed_1_2 := comes_1 fun _ _ _ _ _ _ h hF => ⟨h.2.1, hF⟩

end Jvm.Pilot.@@N@@
namespace Jvm.Pilot.@@N@@
open Jvm Jvm.ClassFile Sem Op Lib Jvm.Free Jvm.Stand Jvm.Pilot.@@N@@.Jvm.D
/-! MADE BY PROGRAM (witnessworld.py) out of the Statement's table words and the real class files: 11 classes; the members and pool entries that the words name. The judged class is class 1, her method 1. -/
namespace start1
open Jvm.ClassFile
def u (s : String) : CpInfo := .utf8 (stringToUtf16 s)
/-- a pool by its gaps: so many unusable entries, then the entry; so many at the end -/
def gap : Nat → List CpInfo → List CpInfo
  | 0, r => r
  | n + 1, r => .unusable :: gap n r
def poolList (es : List (Nat × CpInfo)) (last : Nat) : List CpInfo := es.foldr (fun e r => gap e.1 (e.2 :: r)) (gap last [])
def pool (es : List (Nat × CpInfo)) (last : Nat) : Array CpInfo := ⟨poolList es last⟩
def fileOf (pool : Array CpInfo) (this : Nat) (attrs : Array Attribute := #[]) (ms : Array MethodInfo := #[]) (fl : Nat := 33) (sup : Nat := 0) (ifs : Array Nat := #[]) (fds : Array FieldInfo := #[]) : ClassFile where
  minorVersion := 0
  majorVersion := 65
  constantPool := pool
  accessFlags := fl
  thisClass := this
  superClass := sup
  interfaces := ifs
  fields := fds
  methods := ms
  attributes := attrs
def plain (name : String) (sup : Option ClassId) : Class where
  name := name
  kind := .ordinary
  loader := none
  accessFlags := 33
  super := sup
  interfaces := #[]
  cf := none
  fields := #[]
  methods := #[]
  instanceTypes := #[]
  staticTypes := #[]
  resolved := #[]
  callSites := []
  init := .initialized
  statics := none
  mirror := none

def pool0 : Array CpInfo := pool [(5, u "<init>"), (0, u "()V"), (1, .class_ 10), (1, u "java/lang/Object")] 113

def k0m0 : Method := { name := "<init>", desc := "()V", sig := { parameters := [], returnType := none }, accessFlags := 1, code := none }
/-- java/lang/Object -/
def k0 : Class := { plain "java/lang/Object" none with
  accessFlags := 33
  interfaces := #[]
  cf := some (fileOf pool0 8 #[] #[{ accessFlags := 1, nameIndex := 5, descriptorIndex := 6, attributes := #[] }] 33 0 #[] #[])
  fields := #[]
  methods := #[k0m0]
  instanceTypes := #[]
  staticTypes := #[]
  resolved := Array.replicate 124 none
  statics := none }

def pool1 : Array CpInfo := pool [(2, .class_ 4), (1, u "java/lang/Object"), (0, u "<init>"), (0, u "()V"), (0, .methodref 8 9), (0, .class_ 10), (0, .nameAndType 11 12), (0, u "com/example/keyed_tensor/keyedtensor/array/DatasetNextGridPositionPinLaw"), (0, u "fill"), (0, u "([J[J[JIJII)V"), (0, .methodref 8 14), (0, .nameAndType 15 16), (0, u "can"), (0, u "(II[J[J)Z"), (0, .interfaceMethodref 18 19), (0, .class_ 20), (0, .nameAndType 21 22), (0, u "com/example/keyed_tensor/keyedtensor/array/Dataset"), (0, u "nextGridPosition"), (0, u "([J[J[J)[J"), (0, .methodref 8 24), (0, .nameAndType 25 26), (0, u "same"), (0, u "([J[JI)Z"), (0, .methodref 8 28), (0, .nameAndType 29 30), (0, u "at"), (0, u "([JIII[J[J)Z"), (2, .long 9223372036854775804), (3, u "law"), (0, u "(JJJIII)Z")] 5

def k1m0 : Method := { name := "<init>", desc := "()V", sig := { parameters := [], returnType := none }, accessFlags := 1, code := none }
def k1c1 : Code := { maxStack := 8, maxLocals := 19, code := code, exceptionTable := #[], attributes := #[] }
def k1m1 : Method := { name := "law", desc := "(JJJIII)Z", sig := { parameters := [.long, .long, .long, .int, .int, .int], returnType := some .boolean }, accessFlags := 9, code := some k1c1 }
def k1c2 : Code := { maxStack := 6, maxLocals := 10, code := method_3_code, exceptionTable := #[], attributes := #[] }
def k1m2 : Method := { name := "fill", desc := "([J[J[JIJII)V", sig := { parameters := [(.array .long), (.array .long), (.array .long), .int, .long, .int, .int], returnType := none }, accessFlags := 10, code := some k1c2 }
def k1c3 : Code := { maxStack := 4, maxLocals := 4, code := method_4_code, exceptionTable := #[], attributes := #[] }
def k1m3 : Method := { name := "can", desc := "(II[J[J)Z", sig := { parameters := [.int, .int, (.array .long), (.array .long)], returnType := some .boolean }, accessFlags := 10, code := some k1c3 }
def k1c4 : Code := { maxStack := 4, maxLocals := 8, code := method_5_code, exceptionTable := #[], attributes := #[] }
def k1m4 : Method := { name := "at", desc := "([JIII[J[J)Z", sig := { parameters := [(.array .long), .int, .int, .int, (.array .long), (.array .long)], returnType := some .boolean }, accessFlags := 10, code := some k1c4 }
def k1c5 : Code := { maxStack := 4, maxLocals := 3, code := method_6_code, exceptionTable := #[], attributes := #[] }
def k1m5 : Method := { name := "same", desc := "([J[JI)Z", sig := { parameters := [(.array .long), (.array .long), .int], returnType := some .boolean }, accessFlags := 10, code := some k1c5 }
/-- com/example/keyed_tensor/keyedtensor/array/DatasetNextGridPositionPinLaw -/
def k1 : Class := { plain "com/example/keyed_tensor/keyedtensor/array/DatasetNextGridPositionPinLaw" (some 0) with
  accessFlags := 49
  interfaces := #[]
  cf := some (fileOf pool1 8 #[] #[{ accessFlags := 1, nameIndex := 5, descriptorIndex := 6, attributes := #[] }, { accessFlags := 9, nameIndex := 37, descriptorIndex := 38, attributes := #[] }, { accessFlags := 10, nameIndex := 11, descriptorIndex := 12, attributes := #[] }, { accessFlags := 10, nameIndex := 15, descriptorIndex := 16, attributes := #[] }, { accessFlags := 10, nameIndex := 29, descriptorIndex := 30, attributes := #[] }, { accessFlags := 10, nameIndex := 25, descriptorIndex := 26, attributes := #[] }] 49 2 #[] #[])
  fields := #[]
  methods := #[k1m0, k1m1, k1m2, k1m3, k1m4, k1m5]
  instanceTypes := #[]
  staticTypes := #[]
  resolved := Array.replicate 44 none
  statics := none }

def pool2 : Array CpInfo := pool [(28, .class_ 30), (1, u "com/example/keyed_tensor/keyedtensor/array/Dataset"), (29, .class_ 61), (0, u "java/lang/Object"), (7, u "nextGridPosition"), (0, u "([J[J[J)[J")] 34

def k2c0 : Code := { maxStack := 6, maxLocals := 4, code := prog_10_method_5_code, exceptionTable := #[], attributes := #[] }
def k2m0 : Method := { name := "nextGridPosition", desc := "([J[J[J)[J", sig := { parameters := [(.array .long), (.array .long), (.array .long)], returnType := some (.array .long) }, accessFlags := 9, code := some k2c0 }
/-- com/example/keyed_tensor/keyedtensor/array/Dataset -/
def k2 : Class := { plain "com/example/keyed_tensor/keyedtensor/array/Dataset" (some 0) with
  accessFlags := 1537
  interfaces := #[]
  cf := some (fileOf pool2 28 #[] #[{ accessFlags := 9, nameIndex := 69, descriptorIndex := 70, attributes := #[] }] 1537 60 #[] #[])
  fields := #[]
  methods := #[k2m0]
  instanceTypes := #[]
  staticTypes := #[]
  resolved := Array.replicate 105 none
  statics := none }

def pool3 : Array CpInfo := pool [(1, u "java/lang/Cloneable"), (0, .class_ 1), (0, u "java/lang/Object"), (0, .class_ 3)] 3

/-- java/lang/Cloneable -/
def k3 : Class := { plain "java/lang/Cloneable" (some 0) with
  accessFlags := 1537
  interfaces := #[]
  cf := some (fileOf pool3 2 #[] #[] 1537 4 #[] #[])
  fields := #[]
  methods := #[]
  instanceTypes := #[]
  staticTypes := #[]
  resolved := Array.replicate 8 none
  statics := none }

def pool4 : Array CpInfo := pool [(1, u "java/io/Serializable"), (0, .class_ 1), (0, u "java/lang/Object"), (0, .class_ 3)] 3

/-- java/io/Serializable -/
def k4 : Class := { plain "java/io/Serializable" (some 0) with
  accessFlags := 1537
  interfaces := #[]
  cf := some (fileOf pool4 2 #[] #[] 1537 4 #[] #[])
  fields := #[]
  methods := #[]
  instanceTypes := #[]
  staticTypes := #[]
  resolved := Array.replicate 8 none
  statics := none }

/-- the primitive byte -/
def k5 : Class := { plain "byte" none with kind := .primitive 'B', accessFlags := 0x411 }
/-- [B -/
def k6 : Class := { plain "[B" (some 0) with kind := .array 5 .byte, interfaces := #[3, 4], accessFlags := 1041 }

/-- the primitive int -/
def k7 : Class := { plain "int" none with kind := .primitive 'I', accessFlags := 0x411 }
/-- [I -/
def k8 : Class := { plain "[I" (some 0) with kind := .array 7 .int, interfaces := #[3, 4], accessFlags := 1041 }

/-- the primitive long -/
def k9 : Class := { plain "long" none with kind := .primitive 'J', accessFlags := 0x411 }
/-- [J -/
def k10 : Class := { plain "[J" (some 0) with kind := .array 9 .long, interfaces := #[3, 4], accessFlags := 1041 }

def heap : Heap := #[]
def classes : Array Class := #[k0, k1, k2, k3, k4, k5, k6, k7, k8, k9, k10]
def interned : List (Array UInt16 × Addr) := []
def slotsUsed : Nat := 0
def theMethod : MethodId := ⟨1, 1⟩
def args0 : Array Value := #[.long 5, .long 300, .long 7, .int 9, .int 11, .int 3]
def aboutOver (below : List Frame) : State where
  vm := { classes := classes, interned := interned.toArray }
  heap := heap
  slotsUsed := slotsUsed
  threads := #[{ frames := .invoking theMethod args0 :: below }]
def below0 : List Frame := [.native { method := ⟨0, 0⟩, args := #[] }]
def about1 : State := aboutOver below0
def p0 : Program := .bare "" "" ""
def e0 : Env := launch0.env 0 0 0
theorem w_frames : about1.frames = Frame.invoking theMethod args0 :: below0 := rfl
set_option maxRecDepth 65536 in
theorem w_args : argsFit about1.vm theMethod args0 = true := by decide +kernel
set_option maxRecDepth 65536 in
theorem w_heap : heapFits about1 = true := by decide +kernel
set_option maxRecDepth 65536 in
theorem w_runnable : about1.curStatus? = some .runnable := by decide +kernel
set_option maxRecDepth 65536 in
theorem w_alone : about1.alone = true := by decide +kernel
set_option maxRecDepth 65536 in
theorem w_named : about1.methodNamed? x = some theMethod := by decide +kernel
set_option maxRecDepth 65536 in
theorem w_hears : about1.hears theMethod below0 = true := by decide +kernel
set_option maxRecDepth 65536 in
theorem w_ripe : about1.ripe theMethod args0 below0 = true := by decide +kernel
theorem w_running : about1.status = .running := rfl
set_option maxRecDepth 65536 in
theorem w_room : about1.hasRoom e0.platform room_1 = true :=
  launch0.hasRoom_least _ room_1 (by decide +kernel) (by decide +kernel) (by decide +kernel) (by decide +kernel) (by decide +kernel) (by decide +kernel)
theorem allAtoms_all (ts : List Jvm.Cond) (a : Array Jvm.Value) (st : Jvm.State) : (allAtoms ts).before a st = ts.all (fun c => c.before a st) := by
  induction ts with
  | nil => rfl
  | cons c t ih =>
    show (Jvm.Cond.and c (allAtoms t)).before a st = _
    rw [Jvm.Cond.before_and, ih, List.all_cons]
def words1 : List Jvm.Cond := Jvm.Cond.code x code maxLocals ret :: tables_1
/-- a 'code' word, met by the world's own term for the bytes: nothing is compared byte by byte -/
theorem code_word {y : MethodName} {bytes : ByteArray} {mx : Nat} {rt : Option FieldType} {a : Array Value} {s : State} {m : MethodId} {meth : Method} {c : Code} (h1 : s.methodNamed? y = some m) (h2 : s.vm.method? m = some meth) (h3 : meth.code = some c) (h4 : c.code = bytes)
    (h5 : (c.maxLocals == mx && c.exceptionTable.isEmpty && decide (c.maxStack ≤ mostOperands) && decide (meth.sig.returnType = rt) && !meth.locks && decide (parseMethodDescriptor y.desc = some meth.sig)) = true) : (Jvm.Cond.code y bytes mx rt).before a s = true := by
  simp only [Bool.and_eq_true, beq_iff_eq, Bool.not_eq_true', decide_eq_true_eq] at h5
  obtain ⟨⟨⟨⟨⟨g1, g2⟩, g3⟩, g4⟩, g5⟩, g6⟩ := h5
  simp [Cond.before, Cond.holds, Cond.value, h1, h2, h3, h4, g1, g2, g3, g4, g5, g6]
def isCode : Jvm.Cond → Bool
  | .code _ _ _ _ => true
  | _ => false
theorem all_split {L : List Jvm.Cond} {P : Jvm.Cond → Bool} (h1 : L.all (fun c => isCode c || P c) = true) (h2 : ∀ c ∈ L.filter isCode, P c = true) : L.all P = true := by
  refine List.all_eq_true.mpr fun c hc => ?_
  have h := List.all_eq_true.mp h1 c hc
  rcases Bool.eq_false_or_eq_true (isCode c) with hi | hi
  · exact h2 c (List.mem_filter.mpr ⟨hc, hi⟩)
  · simpa [hi] using h
set_option maxRecDepth 65536 in
theorem w_c0 : (Jvm.Cond.code x code maxLocals ret).before args0 about1 = true := code_word (m := ⟨1, 1⟩) (meth := k1m1) (c := k1c1) (by decide +kernel) rfl rfl rfl (by decide +kernel)
set_option maxRecDepth 65536 in
theorem w_c1 : (Jvm.Cond.code ({ cls := "com/example/keyed_tensor/keyedtensor/array/DatasetNextGridPositionPinLaw", name := "fill", desc := "([J[J[JIJII)V" } : Jvm.MethodName) method_3_code (10 : Nat) (Option.none : Option Jvm.ClassFile.FieldType)).before args0 about1 = true := code_word (m := ⟨1, 2⟩) (meth := k1m2) (c := k1c2) (by decide +kernel) rfl rfl rfl (by decide +kernel)
set_option maxRecDepth 65536 in
theorem w_c2 : (Jvm.Cond.code ({ cls := "com/example/keyed_tensor/keyedtensor/array/DatasetNextGridPositionPinLaw", name := "can", desc := "(II[J[J)Z" } : Jvm.MethodName) method_4_code (4 : Nat) (Option.some Jvm.ClassFile.FieldType.boolean)).before args0 about1 = true := code_word (m := ⟨1, 3⟩) (meth := k1m3) (c := k1c3) (by decide +kernel) rfl rfl rfl (by decide +kernel)
set_option maxRecDepth 65536 in
theorem w_c3 : (Jvm.Cond.code ({ cls := "com/example/keyed_tensor/keyedtensor/array/Dataset", name := "nextGridPosition", desc := "([J[J[J)[J" } : Jvm.MethodName) prog_10_method_5_code (4 : Nat) (Option.some (Jvm.ClassFile.FieldType.array Jvm.ClassFile.FieldType.long))).before args0 about1 = true := code_word (m := ⟨2, 0⟩) (meth := k2m0) (c := k2c0) (by decide +kernel) rfl rfl rfl (by decide +kernel)
set_option maxRecDepth 65536 in
theorem w_c4 : (Jvm.Cond.code ({ cls := "com/example/keyed_tensor/keyedtensor/array/DatasetNextGridPositionPinLaw", name := "same", desc := "([J[JI)Z" } : Jvm.MethodName) method_6_code (3 : Nat) (Option.some Jvm.ClassFile.FieldType.boolean)).before args0 about1 = true := code_word (m := ⟨1, 5⟩) (meth := k1m5) (c := k1c5) (by decide +kernel) rfl rfl rfl (by decide +kernel)
set_option maxRecDepth 65536 in
theorem w_c5 : (Jvm.Cond.code ({ cls := "com/example/keyed_tensor/keyedtensor/array/DatasetNextGridPositionPinLaw", name := "at", desc := "([JIII[J[J)Z" } : Jvm.MethodName) method_5_code (8 : Nat) (Option.some Jvm.ClassFile.FieldType.boolean)).before args0 about1 = true := code_word (m := ⟨1, 4⟩) (meth := k1m4) (c := k1c4) (by decide +kernel) rfl rfl rfl (by decide +kernel)
def codes1 : List Jvm.Cond := [Jvm.Cond.code x code maxLocals ret, Jvm.Cond.code ({ cls := "com/example/keyed_tensor/keyedtensor/array/DatasetNextGridPositionPinLaw", name := "fill", desc := "([J[J[JIJII)V" } : Jvm.MethodName) method_3_code (10 : Nat) (Option.none : Option Jvm.ClassFile.FieldType), Jvm.Cond.code ({ cls := "com/example/keyed_tensor/keyedtensor/array/DatasetNextGridPositionPinLaw", name := "can", desc := "(II[J[J)Z" } : Jvm.MethodName) method_4_code (4 : Nat) (Option.some Jvm.ClassFile.FieldType.boolean), Jvm.Cond.code ({ cls := "com/example/keyed_tensor/keyedtensor/array/Dataset", name := "nextGridPosition", desc := "([J[J[J)[J" } : Jvm.MethodName) prog_10_method_5_code (4 : Nat) (Option.some (Jvm.ClassFile.FieldType.array Jvm.ClassFile.FieldType.long)), Jvm.Cond.code ({ cls := "com/example/keyed_tensor/keyedtensor/array/DatasetNextGridPositionPinLaw", name := "same", desc := "([J[JI)Z" } : Jvm.MethodName) method_6_code (3 : Nat) (Option.some Jvm.ClassFile.FieldType.boolean), Jvm.Cond.code ({ cls := "com/example/keyed_tensor/keyedtensor/array/DatasetNextGridPositionPinLaw", name := "at", desc := "([JIII[J[J)Z" } : Jvm.MethodName) method_5_code (8 : Nat) (Option.some Jvm.ClassFile.FieldType.boolean)]
set_option maxRecDepth 65536 in
theorem codes_eq : words1.filter isCode = codes1 := rfl
theorem w_codes : ∀ c ∈ words1.filter isCode, c.before args0 about1 = true := by
  rw [codes_eq]
  intro c hc
  simp only [codes1, List.mem_cons, List.not_mem_nil, or_false] at hc
  rcases hc with rfl | rfl | rfl | rfl | rfl | rfl
  · exact w_c0
  · exact w_c1
  · exact w_c2
  · exact w_c3
  · exact w_c4
  · exact w_c5
set_option maxRecDepth 65536 in
theorem w_t1 : words1.all (fun c => isCode c || c.before args0 about1) = true := by decide +kernel
theorem w_tables : (allAtoms (Jvm.Cond.code x code maxLocals ret :: tables_1)).before args0 about1 = true := by
  rw [allAtoms_all]
  show words1.all (fun c => c.before args0 about1) = true
  refine all_split ?_ w_codes
  rw [w_t1]
set_option maxRecDepth 65536 in
theorem w_case : (Jvm.Cond.and given_1 narrow_1).before args0 about1 = true := by decide +kernel
theorem w_applies : (headSpec (Jvm.Cond.code x code maxLocals ret :: tables_1) room_1).applies x e0.platform about1 = true :=
  (Spec.applies_iff w_frames).mpr ⟨w_running, w_runnable, w_alone, w_named, w_hears, w_ripe, w_room, w_tables⟩
theorem atStart : AtStart classFile x code maxLocals ret World_1 tables_1 room_1 Calls_1 rest_1 Pre_1 launch0 p0 e0 about1 theMethod args0 below0 :=
  ⟨lists_1, trivial, launch0.admits_env _ _ _, launch0.least_env, fairChoices_fair.cas, fairChoices_fair.clock, w_frames, w_args, w_heap, w_applies, trivial, trivial, w_case⟩
end start1
theorem witness_1 : WitnessClaimed_1 := ⟨start1.p0, start1.e0, start1.about1, start1.theMethod, start1.args0, start1.below0, start1.atStart⟩
end Jvm.Pilot.@@N@@
